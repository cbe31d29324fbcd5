import PyProof.Rows.All
import Wide.All
import OpenK.AllK
import Wide.FinOn
import PyProof.DictCompW
import KE.KLam
import KE.KSortTup
import KE.KDictSum
import KE.KEqDict
import PyProof.NeData
import KE.LcSums
import PySem.Challenge.RW_oc0219_01
set_option linter.all false
set_option tactic.hygienic false
set_option genSizeOf false
set_option genInjectivity false
namespace Mine.Internal
theorem ah {α β:Type}{M:PySem.Model}{A:PySem.Around}{E:PySem.Value->PySem.Shared->Prop}{s:PySem.Shared}{m:PySem.Sem α}{f:α->PySem.Sem β}{Q:β->PySem.Shared->Prop}(h:PySem.wpAny M A m (λa s'=>PySem.wpAny M A (f a) Q E s') E s):PySem.wpAny M A (m >>= f) Q E s:=PySem.wpAny_bind h
theorem aM {α:Type}{M:PySem.Model}{A:PySem.Around}{E:PySem.Value->PySem.Shared->Prop}{s:PySem.Shared}{a:α}{Q:α->PySem.Shared->Prop}(h:Q a s):PySem.wpAny M A (pure a) Q E s:=PySem.wpAny_pure h
theorem aQ {α:Type}{M:PySem.Model}{A:PySem.Around}{E:PySem.Value->PySem.Shared->Prop}{s:PySem.Shared}{t:PySem.Sem α}{P Q:α->PySem.Shared->Prop}{E':PySem.Value->PySem.Shared->Prop}(h:PySem.wpAny M A t P E s)(k:∀(a:α)(s:PySem.Shared),P a s->Q a s)(l:∀(e:PySem.Value)(s:PySem.Shared),E e s->E' e s):PySem.wpAny M A t Q E' s:=PySem.wpAny_mono h k l
theorem aq {α:Sort _}{a b:α}(h:a=b):b=a:=h.symm
theorem aB {α:Sort _}{a b c:α}(h:a=b)(k:b=c):a=c:=h.trans k
theorem bu (n:Nat):n<=n:=Nat.le_refl n
theorem aN {a b c:Prop}(h:a\/b)(f:a->c)(g:b->c):c:=h.elim f g
open PySem
theorem e0a1 {p0 p1:Prop}{G:Prop}(h:p0/\p1)(k:p0->p1->G):G:=by obtain ⟨h0,h1⟩:=h;exact k h0 h1
theorem e0a2 {p0 p1 p2:Prop}{G:Prop}(h:p0/\p1/\p2)(k:p0->p1->p2->G):G:=by obtain ⟨h0,h1,h2⟩:=h;exact k h0 h1 h2
theorem e0a3 {p0 p1 p2 p3:Prop}{G:Prop}(h:p0/\p1/\p2/\p3)(k:p0->p1->p2->p3->G):G:=by obtain ⟨h0,h1,h2,h3⟩:=h;exact k h0 h1 h2 h3
theorem e0a4 {p0 p1 p2 p3 p4:Prop}{G:Prop}(h:p0/\p1/\p2/\p3/\p4)(k:p0->p1->p2->p3->p4->G):G:=by obtain ⟨h0,h1,h2,h3,h4⟩:=h;exact k h0 h1 h2 h3 h4
theorem e0a5 {p0 p1 p2 p3 p4 p5:Prop}{G:Prop}(h:p0/\p1/\p2/\p3/\p4/\p5)(k:p0->p1->p2->p3->p4->p5->G):G:=by obtain ⟨h0,h1,h2,h3,h4,h5⟩:=h;exact k h0 h1 h2 h3 h4 h5
theorem e0a6 {p0 p1 p2 p3 p4 p5 p6:Prop}{G:Prop}(h:p0/\p1/\p2/\p3/\p4/\p5/\p6)(k:p0->p1->p2->p3->p4->p5->p6->G):G:=by obtain ⟨h0,h1,h2,h3,h4,h5,h6⟩:=h;exact k h0 h1 h2 h3 h4 h5 h6
theorem e1a0 {iU:Sort _}{p0:iU->Prop}{G:Prop}(h:∃x0,p0 x0)(k:∀x0,p0 x0->G):G:=by obtain ⟨x0,h0⟩:=h;exact k x0 h0
theorem e1a1 {iU:Sort _}{p0 p1:iU->Prop}{G:Prop}(h:∃x0,p0 x0/\p1 x0)(k:∀x0,p0 x0->p1 x0->G):G:=by obtain ⟨x0,h0,h1⟩:=h;exact k x0 h0 h1
theorem e1a2 {iU:Sort _}{p0 p1 p2:iU->Prop}{G:Prop}(h:∃x0,p0 x0/\p1 x0/\p2 x0)(k:∀x0,p0 x0->p1 x0->p2 x0->G):G:=by obtain ⟨x0,h0,h1,h2⟩:=h;exact k x0 h0 h1 h2
theorem e1a3 {iU:Sort _}{p0 p1 p2 p3:iU->Prop}{G:Prop}(h:∃x0,p0 x0/\p1 x0/\p2 x0/\p3 x0)(k:∀x0,p0 x0->p1 x0->p2 x0->p3 x0->G):G:=by obtain ⟨x0,h0,h1,h2,h3⟩:=h;exact k x0 h0 h1 h2 h3
theorem e1a4 {iU:Sort _}{p0 p1 p2 p3 p4:iU->Prop}{G:Prop}(h:∃x0,p0 x0/\p1 x0/\p2 x0/\p3 x0/\p4 x0)(k:∀x0,p0 x0->p1 x0->p2 x0->p3 x0->p4 x0->G):G:=by obtain ⟨x0,h0,h1,h2,h3,h4⟩:=h;exact k x0 h0 h1 h2 h3 h4
theorem e2a0 {iU ls:Sort _}{p0:iU->ls->Prop}{G:Prop}(h:∃x0 x1,p0 x0 x1)(k:∀x0 x1,p0 x0 x1->G):G:=by obtain ⟨x0,x1,h0⟩:=h;exact k x0 x1 h0
theorem e2a1 {iU ls:Sort _}{p0 p1:iU->ls->Prop}{G:Prop}(h:∃x0 x1,p0 x0 x1/\p1 x0 x1)(k:∀x0 x1,p0 x0 x1->p1 x0 x1->G):G:=by obtain ⟨x0,x1,h0,h1⟩:=h;exact k x0 x1 h0 h1
theorem e2a2 {iU ls:Sort _}{p0 p1 p2:iU->ls->Prop}{G:Prop}(h:∃x0 x1,p0 x0 x1/\p1 x0 x1/\p2 x0 x1)(k:∀x0 x1,p0 x0 x1->p1 x0 x1->p2 x0 x1->G):G:=by obtain ⟨x0,x1,h0,h1,h2⟩:=h;exact k x0 x1 h0 h1 h2
theorem e2a3 {iU ls:Sort _}{p0 p1 p2 p3:iU->ls->Prop}{G:Prop}(h:∃x0 x1,p0 x0 x1/\p1 x0 x1/\p2 x0 x1/\p3 x0 x1)(k:∀x0 x1,p0 x0 x1->p1 x0 x1->p2 x0 x1->p3 x0 x1->G):G:=by obtain ⟨x0,x1,h0,h1,h2,h3⟩:=h;exact k x0 x1 h0 h1 h2 h3
theorem e2a4 {iU ls:Sort _}{p0 p1 p2 p3 p4:iU->ls->Prop}{G:Prop}(h:∃x0 x1,p0 x0 x1/\p1 x0 x1/\p2 x0 x1/\p3 x0 x1/\p4 x0 x1)(k:∀x0 x1,p0 x0 x1->p1 x0 x1->p2 x0 x1->p3 x0 x1->p4 x0 x1->G):G:=by obtain ⟨x0,x1,h0,h1,h2,h3,h4⟩:=h;exact k x0 x1 h0 h1 h2 h3 h4
theorem e2a5 {iU ls:Sort _}{p0 p1 p2 p3 p4 p5:iU->ls->Prop}{G:Prop}(h:∃x0 x1,p0 x0 x1/\p1 x0 x1/\p2 x0 x1/\p3 x0 x1/\p4 x0 x1/\p5 x0 x1)(k:∀x0 x1,p0 x0 x1->p1 x0 x1->p2 x0 x1->p3 x0 x1->p4 x0 x1->p5 x0 x1->G):G:=by obtain ⟨x0,x1,h0,h1,h2,h3,h4,h5⟩:=h;exact k x0 x1 h0 h1 h2 h3 h4 h5
theorem e3a0 {iU ls rL:Sort _}{p0:iU->ls->rL->Prop}{G:Prop}(h:∃x0 x1 x2,p0 x0 x1 x2)(k:∀x0 x1 x2,p0 x0 x1 x2->G):G:=by obtain ⟨x0,x1,x2,h0⟩:=h;exact k x0 x1 x2 h0
theorem e3a1 {iU ls rL:Sort _}{p0 p1:iU->ls->rL->Prop}{G:Prop}(h:∃x0 x1 x2,p0 x0 x1 x2/\p1 x0 x1 x2)(k:∀x0 x1 x2,p0 x0 x1 x2->p1 x0 x1 x2->G):G:=by obtain ⟨x0,x1,x2,h0,h1⟩:=h;exact k x0 x1 x2 h0 h1
theorem e3a2 {iU ls rL:Sort _}{p0 p1 p2:iU->ls->rL->Prop}{G:Prop}(h:∃x0 x1 x2,p0 x0 x1 x2/\p1 x0 x1 x2/\p2 x0 x1 x2)(k:∀x0 x1 x2,p0 x0 x1 x2->p1 x0 x1 x2->p2 x0 x1 x2->G):G:=by obtain ⟨x0,x1,x2,h0,h1,h2⟩:=h;exact k x0 x1 x2 h0 h1 h2
theorem e3a3 {iU ls rL:Sort _}{p0 p1 p2 p3:iU->ls->rL->Prop}{G:Prop}(h:∃x0 x1 x2,p0 x0 x1 x2/\p1 x0 x1 x2/\p2 x0 x1 x2/\p3 x0 x1 x2)(k:∀x0 x1 x2,p0 x0 x1 x2->p1 x0 x1 x2->p2 x0 x1 x2->p3 x0 x1 x2->G):G:=by obtain ⟨x0,x1,x2,h0,h1,h2,h3⟩:=h;exact k x0 x1 x2 h0 h1 h2 h3
theorem e3a4 {iU ls rL:Sort _}{p0 p1 p2 p3 p4:iU->ls->rL->Prop}{G:Prop}(h:∃x0 x1 x2,p0 x0 x1 x2/\p1 x0 x1 x2/\p2 x0 x1 x2/\p3 x0 x1 x2/\p4 x0 x1 x2)(k:∀x0 x1 x2,p0 x0 x1 x2->p1 x0 x1 x2->p2 x0 x1 x2->p3 x0 x1 x2->p4 x0 x1 x2->G):G:=by obtain ⟨x0,x1,x2,h0,h1,h2,h3,h4⟩:=h;exact k x0 x1 x2 h0 h1 h2 h3 h4
theorem e4a0 {iU ls rL Bl:Sort _}{p0:iU->ls->rL->Bl->Prop}{G:Prop}(h:∃x0 x1 x2 x3,p0 x0 x1 x2 x3)(k:∀x0 x1 x2 x3,p0 x0 x1 x2 x3->G):G:=by obtain ⟨x0,x1,x2,x3,h0⟩:=h;exact k x0 x1 x2 x3 h0
theorem e4a1 {iU ls rL Bl:Sort _}{p0 p1:iU->ls->rL->Bl->Prop}{G:Prop}(h:∃x0 x1 x2 x3,p0 x0 x1 x2 x3/\p1 x0 x1 x2 x3)(k:∀x0 x1 x2 x3,p0 x0 x1 x2 x3->p1 x0 x1 x2 x3->G):G:=by obtain ⟨x0,x1,x2,x3,h0,h1⟩:=h;exact k x0 x1 x2 x3 h0 h1
theorem e4a2 {iU ls rL Bl:Sort _}{p0 p1 p2:iU->ls->rL->Bl->Prop}{G:Prop}(h:∃x0 x1 x2 x3,p0 x0 x1 x2 x3/\p1 x0 x1 x2 x3/\p2 x0 x1 x2 x3)(k:∀x0 x1 x2 x3,p0 x0 x1 x2 x3->p1 x0 x1 x2 x3->p2 x0 x1 x2 x3->G):G:=by obtain ⟨x0,x1,x2,x3,h0,h1,h2⟩:=h;exact k x0 x1 x2 x3 h0 h1 h2
theorem e4a3 {iU ls rL Bl:Sort _}{p0 p1 p2 p3:iU->ls->rL->Bl->Prop}{G:Prop}(h:∃x0 x1 x2 x3,p0 x0 x1 x2 x3/\p1 x0 x1 x2 x3/\p2 x0 x1 x2 x3/\p3 x0 x1 x2 x3)(k:∀x0 x1 x2 x3,p0 x0 x1 x2 x3->p1 x0 x1 x2 x3->p2 x0 x1 x2 x3->p3 x0 x1 x2 x3->G):G:=by obtain ⟨x0,x1,x2,x3,h0,h1,h2,h3⟩:=h;exact k x0 x1 x2 x3 h0 h1 h2 h3
theorem e5a0 {iU ls rL Bl Qm:Sort _}{p0:iU->ls->rL->Bl->Qm->Prop}{G:Prop}(h:∃x0 x1 x2 x3 x4,p0 x0 x1 x2 x3 x4)(k:∀x0 x1 x2 x3 x4,p0 x0 x1 x2 x3 x4->G):G:=by obtain ⟨x0,x1,x2,x3,x4,h0⟩:=h;exact k x0 x1 x2 x3 x4 h0
theorem e7a0 {iU ls rL Bl Qm YJ YK:Sort _}{p0:iU->ls->rL->Bl->Qm->YJ->YK->Prop}{G:Prop}(h:∃x0 x1 x2 x3 x4 x5 x6,p0 x0 x1 x2 x3 x4 x5 x6)(k:∀x0 x1 x2 x3 x4 x5 x6,p0 x0 x1 x2 x3 x4 x5 x6->G):G:=by obtain ⟨x0,x1,x2,x3,x4,x5,x6,h0⟩:=h;exact k x0 x1 x2 x3 x4 x5 x6 h0
theorem bE {α:Type _}{a:α}{G:Prop}(h:none=some a):G:=nomatch h
theorem jq {α:Type _}{a:α}{G:Prop}(h:some a=none):G:=nomatch h
theorem Iv {G:Prop}(h:false=true):G:=nomatch h
theorem bN {α:Type _}{i:Nat}{a:α}{l:List α}(h:l[i]?=some a):∃h:i < l.length,l[i]=a:=List.getElem?_eq_some_iff.mp h
theorem bp {α:Type _}{a b:α}(h:a∈[b]):a=b:=List.mem_singleton.mp h
theorem ba {α:Type _}{l:List α}{i j:Nat}(h:i≠j){a:α}:(l.set i a)[j]?=l[j]?:=List.getElem?_set_ne h
theorem bU {h:Heap}{a:Addr}{o':Obj}(o:Obj)(k:h.get? a=some o'):(h.push o).get? a=some o':=Heap.get?_push_of_some o k
theorem bL {α:Type _}{a:α}{s t:List α}(h:a∈s++t):a∈s\/a∈t:=List.mem_append.mp h
theorem fg {α:Type _}{a:α}{s t:List α}(h:a∈s\/a∈t):a∈s++t:=List.mem_append.mpr h
theorem ct {α:Type _}{l:List α}{i:Nat}{a:α}(h:l[i]?=some a):a∈l:=List.mem_of_getElem? h
theorem cp {α:Type _}{l:List α}{i:Nat}(h:i < l.length):l[i]?=some l[i]:=List.getElem?_eq_getElem h
theorem aV {n m k:Nat}(h:n<=m)(q:m<=k):n<=k:=Nat.le_trans h q
theorem cD {n m k:Nat}(h:n<=m)(q:m < k):n < k:=Nat.lt_of_le_of_lt h q
theorem cG {n m k:Nat}(h:n < m)(q:m<=k):n < k:=Nat.lt_of_lt_of_le h q
theorem bF {n m:Nat}(h:n < m):n<=m:=Nat.le_of_lt h
theorem bS {a b:Nat}(h:a < b):a≠b:=Nat.ne_of_lt h
theorem dk {a b:Nat}(h:b < a):a≠b:=Nat.ne_of_gt h
theorem bW (n k:Nat):n<=n+k:=Nat.le_add_right n k
theorem cT (h:Heap){o:Obj}(k:o.isFreed=false):(h.push o).get? h.objs.size=some o:=Heap.get?_push_size h k
theorem cu {α:Type _}{b:α}{l:List α}{a:α}(h:a∈b::l):a=b\/a∈l:=List.mem_cons.mp h
theorem dw {α:Type _}{β:Type _}{f:α->β}{l:List α}{i:Nat}:(l.map f)[i]?=l[i]?.map f:=List.getElem?_map
theorem fW {α:Type _}{l:List α}{i:Nat}{a:α}:l.getD i a=l[i]?.getD a:=List.getD_eq_getElem?_getD
theorem eN {α:Type _}{s t:List α}{i:Nat}(h:i < s.length):(s++t)[i]?=s[i]?:=List.getElem?_append_left h
theorem iV {α:Type _}{s t:List α}{i:Nat}(h:s.length<=i):(s++t)[i]?=t[i - s.length]?:=List.getElem?_append_right h
theorem dS {α:Type _}{β:Type _}{b:β}{f:α->β}{l:List α}(h:b∈l.map f):∃a,a∈l/\f a=b:=List.mem_map.mp h
theorem dm {α:Type _}{β:Type _}{b:β}{f:α->β}{l:List α}(h:∃a,a∈l/\f a=b):b∈l.map f:=List.mem_map.mpr h
theorem fz {α:Type _}{β:Type _}{as:List α}(f:α->β):(as.map f).length=as.length:=List.length_map f
theorem fX {n m:Nat}(h:n<=m)(k:Nat):k+n<=k+m:=Nat.add_le_add_left h k
theorem gD {n m:Nat}(h:n < m)(k:Nat):k+n < k+m:=Nat.add_lt_add_left h k
theorem bo {α:Type _}{a b:α}(h:some a=some b):a=b:=Option.some.inj h
theorem gE {h:Heap}{a:Addr}(k:h.objs.size<=a):h.get? a=none:=Heap.get?_none_of_le k
theorem hK {h:Heap}{a:Addr}{o:Obj}(f:Obj->Obj)(k:h.get? a=some o)(q:(f o).isFreed=false):(h.update a f).get? a=some (f o):=Heap.get?_update_self f k q
theorem mw {α:Type _}{β:Type _}{b:β}{x:Option α}{f:α->β}(h:x.map f=some b):∃a,x=some a/\f a=b:=Option.map_eq_some_iff.mp h
theorem hX {α:Type _}{l:List α}{i:Nat}{a:α}(h:i < l.length):(l.set i a)[i]?=some a:=List.getElem?_set_self h
theorem dQ:(false=true)=False:=Bool.false_eq_true
theorem cZ (a b:Bool):((a&&b)=true)=(a=true/\b=true):=Bool.and_eq_true a b
theorem fh (h:Heap)(o:Obj):(h.push o).objs.size=h.objs.size+1:=Heap.size_push h o
@[elab_as_elim] theorem rE {α:Sort _} {a:α} {m:α->Prop} {b:α} (h:b=a) (k:m a):m b:=h▸k
end Mine.Internal
set_option Elab.async false
set_option maxRecDepth 100000
namespace Mine.Internal
section
variable {a b c d e f g:Nat}
theorem hZ {a b c:Nat}(h:a<b)(k:b.ble c=true):a<c:=cG h (Nat.le_of_ble_eq_true k)
theorem ey {a b c:Nat}(h:a<b)(k:b.ble c=true):a<=c:=bF (hZ h k)
theorem mx {a b c:Nat}(h:a<=b)(k:b.ble c=true):a<=c:=aV h (Nat.le_of_ble_eq_true k)
theorem pj {a b c:Nat}(h:a<=b)(k:b.succ.ble c=true):a<c:=cD h (Nat.le_of_ble_eq_true k)
theorem bX:a < b->a<=b:=λx=>bF x
theorem arith1:a+1<=b->a<=b:=λx=>bF x
theorem arith2:a<=a+1:=bW a 1
theorem gO:0<=(↑a:Int):=by simp +arith
theorem iw:a < a+1:=bu a.succ
theorem jr:a+1<=b->a < b:=λx=>x
theorem iW:a < b->c=b->a < c:=λh k=>k▸h
theorem js:a < 5->b=5->a < b:=λh k=>k▸h
theorem jt:a < b->b < c->a < c:=λx y=>Nat.lt_trans x y
theorem kh:a+1<=a+7:=Nat.lt_succ_of_le (bW a 6)
theorem ju:a=5->a<=9:=λh=>h▸(by decide:5<=9)
theorem jv:a≠a+1:=bS Nat.le.refl
theorem jw:a<=a:=bu a
theorem jx:a < b+1->¬a=b->a < b:=λh k=>Nat.lt_of_le_of_ne (Nat.le_of_lt_succ h) k
theorem jy:a < b->a+1<=b:=λx=>x
theorem jz:a < b->a < b+1:=λx=>Nat.le.step x
theorem kQ:¬a < b->b<=a:=λx=>Nat.not_lt.mp x
theorem kR:a+1<=a+5:=Nat.lt_succ_of_le (bW a 4)
theorem kT:a < 1000->a<=16777216:=λh=>ey h rfl
theorem kU:a < 5->b < a->b < 5:=λx y=>Nat.lt_trans y x
theorem pB:a<=b->b+1 - (a+1) < b+1 - a:=λh=>Nat.sub_lt_sub_left (Nat.lt_succ_of_le h) (Nat.lt_succ_self a)
theorem kW:a < b->b=c->a < c:=λh k=>k▸h
theorem my:1 < 1000:=by decide
theorem mz:a+1≠a:=dk Nat.le.refl
theorem mA:a+2≠a:=dk (bF Nat.le.refl)
theorem mB:a+2≠a+1:=dk Nat.le.refl
theorem mC:a+6<=a+7:=bF Nat.le.refl
theorem mD:a < 100->a < 1000:=λh=>hZ h rfl
theorem mE:a < 1000->(↑a:Int) < 2 ^ 63:=λh=>Int.ofNat_lt.mpr (hZ h rfl)
theorem mF:a < 1000->a < 2 ^ 62:=λh=>hZ h rfl
theorem mG:a+3 < b->a < b:=λx=>Nat.lt_of_add_right_lt x
theorem mH:a < 5->b < a->(↑b:Int) < 2 ^ 63:=λh k=>Int.ofNat_lt.mpr (hZ (Nat.lt_trans k h) rfl)
theorem mI:a < b->b=c->c=d->a < d:=λh k l=>l▸k▸h
theorem pC:a < 2 ^ 63->(↑a:Int) < 9223372036854775808:=λx=>Int.ofNat_lt.mpr x
theorem pD:a < 5->(↑a:Int) < 2 ^ 63:=λh=>Int.ofNat_lt.mpr (hZ h rfl)
theorem pE:a=5->a+a < 60:=λh=>h▸(by decide:5+5 < 60)
theorem pF:a≠a+2:=bS (bF Nat.le.refl)
theorem pG:a<=a+2:=bW a 2
theorem pH:a+1 < b->a+1<=b:=λx=>bF x
theorem pI:a+2 < b->a+3<=b:=λx=>x
theorem pJ:a+3<=b->a≠b:=λh=>bS (aV (fX (by decide:1<=3) a) h)
theorem pK:a < 1000->b<=a->(↑b:Int) < 2 ^ 63:=λh k=>Int.ofNat_lt.mpr (hZ (cD k h) rfl)
theorem pL:a<=b->a+(b - a)=b:=λx=>Nat.add_sub_of_le x
theorem th:a<=b->a<=b+1:=λx=>Nat.le.step x
theorem pM:a+(b+1) < c->a+1+b < c:=λh=>Nat.succ_add_eq_add_succ a b▸h
theorem pN:a < b->b<=c+1->a<=c:=λh k=>Nat.le_of_lt_succ (cG h k)
theorem ti:a+20*b < c->d<=b->a+20*d < c:=λh k=>cD (fX (Nat.mul_le_mul_left 20 k) a) h
theorem tj:a+b < c->d<=b->a+d < c:=λh k=>cD (fX k a) h
theorem yM:a+1=a+1 - 0:=rfl
theorem tm:a+1≠a+2:=bS Nat.le.refl
theorem yN:a+1<=5->a<=5:=λx=>bF x
theorem tq:a+2+1<=a+3:=bu (a+2+1)
theorem tu:a+3≠a:=dk (Nat.lt_succ_of_le (bW a 2))
theorem tv:a+3≠a+1:=dk (bF Nat.le.refl)
theorem tw:a < 1000->a < 9223372036854775808:=λh=>hZ h rfl
theorem tx:a < 60->a<=16777216:=λh=>ey h rfl
theorem tA:a<=1000->a<=16777216:=λh=>mx h rfl
theorem tB:a<=a+3:=bW a 3
theorem tC:a+1=b->a < b:=λx=>x▸Nat.succ_le_of_lt Nat.le.refl
theorem tD:a+10 < b->a < b:=λx=>Nat.lt_of_add_right_lt x
theorem tE:a+4<=b->b≠a:=λh=>dk (aV (fX (by decide:1<=4) a) h)
theorem tF:a+4<=b->b≠a+1:=λh=>dk (aV (fX (by decide:2<=4) a) h)
theorem tG:a < 64->b=a->b < 64:=λh k=>k▸h
theorem tH:a < b+1->¬a < b->a=b:=λx y=>Nat.eq_of_lt_succ_of_not_lt x y
theorem tI:a < b->b<=a->False:=λh k=>Nat.not_le.mpr h k
theorem tJ:a<=9->b<=a->b < 100:=λh k=>pj (aV k h) rfl
theorem yO:a<=b->b<=a->a=b:=λx y=>Nat.le_antisymm x y
theorem tK:a<=b->¬a < b->a=b:=λh k=>Nat.le_antisymm h (Nat.not_lt.mp k)
theorem tL:a+(b+1) < c->a < c:=λx=>Nat.lt_of_add_right_lt x
theorem tM:a+1<=b/\c<=b->b < 900->a<=16777215:=λh k=>ey (Nat.lt_trans h.1 k) rfl
theorem tN:a+20*(b+1) < c->a+3+20*b < c:=λh=>cD (aV (Nat.le_of_eq (Nat.add_right_comm a 3 (20*b))) (fX (by decide:3<=20) (a+20*b))) h
theorem tO:a+20*b < c->a < c:=λx=>Nat.lt_of_add_right_lt x
theorem tP:a+b+c < 1000->a+(c+b) < 1000:=λh=>Nat.add_comm b c▸Nat.add_assoc a b c▸h
theorem tQ:a+b+c < 1000->c+b<=2 ^ 24:=λh=>ey (cD (Nat.add_comm b c▸Nat.add_assoc a b c▸Nat.le_add_left ..) h) rfl
theorem tR:a < 900->b<=a/\c<=a->b<=16777216:=λh k=>ey (cD k.1 h) rfl
theorem yP:3<=a->a=0->False:=λh e=>absurd h (e▸by decide)
theorem yQ:a+1<=5->0 < 5+(↑a:Int)*-1:=(by decide:∀a:Nat,a < 5->(0:Int) < 5+(a:Int)*-1) a
theorem yR:a+2<=a+5:=fX (by decide) a
theorem yS:a+2<=a+7:=fX (by decide) a
theorem yT:a+3<=a+7:=fX (by decide) a
theorem yU:a < 5->5+(↑a:Int)*-1≠0:=by revert a;decide
theorem vb {b:Int}:(↑a:Int)<=b->-2 ^ 63<=b:=λh=>Int.le_trans (Int.le_trans (by decide:(-2^63:Int)<=0) (Int.natCast_nonneg a)) h
theorem vc:11<=a->b < 11->b=a+1\/b=a+2->False:=λh k l=>l.elim (λe=>Nat.not_le.mpr k (e▸Nat.le_succ_of_le h)) λe=>Nat.not_le.mpr k (e▸aV h (bW a 2))
theorem vd:a+1<=b->b - a=b - (a+1)+1:=λh=>(Nat.succ_sub_succ b a).symm.trans (Nat.succ_sub h)
theorem vf:a+3<=b->b+1≠a:=λh=>dk (Nat.lt_succ_of_le (aV (bW a 3) h))
theorem vh:a+3<=b->b+1≠a+1:=λh=>dk (Nat.succ_le_succ (aV (fX (by decide:1<=3) a) h))
theorem vi:a+3<=b->b≠a:=λh=>dk (aV (fX (by decide:1<=3) a) h)
theorem vj:a+4<=b->a+1≠b:=λh=>bS (aV (fX (by decide:2<=4) a) h)
theorem vk:a+4<=b->a≠b:=λh=>bS (aV (fX (by decide:1<=4) a) h)
theorem vl:a<=b->a+(b - a)<=b:=λh=>Nat.le_of_eq (Nat.add_sub_of_le h)
theorem vm:(a<=b->c<=4*a)->a+1<=b->c+(1+1+1)<=4*(a+1):=λh k=>Nat.le_succ_of_le (Nat.add_le_add_right (h (bF k)) 3)
theorem vn:a+(b+1)=c->a < c:=λx=>x▸Nat.lt_succ_of_le (bW a b)
theorem vo:a+(b+1)=c->a<=c:=λx=>x▸bW a (b+1)
theorem vp:a+b+c < 1000->a < 1000:=λh=>cD (aV (bW a b) (bW ..)) h
theorem vq:a < 1000->b<=a->b+(a - c)<=16777216:=λh k=>ey (cD (Nat.add_le_add k (Nat.sub_le a c)) (Nat.add_lt_add h h)) rfl
theorem vr:a < 60->b < a->c<=4*b->c+(1+1+1)<=2 ^ 24:=λh k l=>mx (Nat.add_le_add_right (aV l (Nat.mul_le_mul_left 4 (bF (Nat.lt_trans k h)))) 3) rfl
theorem vt:a=5->b<=min c a->b<=2 ^ 24:=λh k=>mx (aV k (aV (Nat.min_le_right ..) (Nat.le_of_eq h))) rfl
theorem vu:a<=b->b<=c->a+(b - a)<=c:=λh k=>aV (Nat.le_of_eq (Nat.add_sub_of_le h)) k
theorem vw:a+b+c < 1000->d<=1->c+d<=2 ^ 24:=λh k=>ey (Nat.add_lt_add_of_lt_of_le (cD (Nat.le_add_left c (a+b)) h) k) rfl
theorem vy:a<=b+1->c<=a+d->c<=b+(d+1):=λh k=>aV k (Nat.succ_add_eq_add_succ b d▸Nat.add_le_add_right h d)
theorem vz:a+b+c < 1000->d+e<=a->d+(c+e) < 1000:=λh k=>by have:=Nat.add_le_add_right k c;rw [Nat.add_right_comm,Nat.add_assoc] at this;exact cD (aV this (Nat.add_le_add_right (bW a b) c)) h
theorem Bo:0 < 1000:=by decide
theorem Bp:0<=7/\7 < 0+7->False:=by decide
theorem Br:2 < 1000:=by decide
theorem Bt:3<=10:=by decide
theorem Bv:5 < 2 ^ 62:=by decide
theorem Bw {a:Int}:0<=a->-2 ^ 63<=a:=λh=>Int.le_trans (by decide:(-2^63:Int)<=0) h
theorem Bx {a:Int}:¬a=1->¬a - 1=0:=by lia
theorem By {a:Int}{b:Nat}:a+1+(↑b:Int)=a+((↑b:Int)+1):=by simp +arith
theorem Bz {a:Int}{b:Nat}:a < 5+(↑b:Int)*-1->a < (↑(5 - b):Int):=by lia
theorem BA {a:Int}{b:Nat}:a < 5+(↑b:Int)*-1->a < 2 ^ 63:=by lia
theorem BC {a:Int}{b:Nat}:a < 5+(↑b:Int)*-1->b < 5->a.toNat < 5 - b:=by lia
theorem BD:(↑a:Int)+1=1->a=0:=by lia
theorem BE:1 < a->a=0->False:=λh e=>absurd h (e▸by decide)
theorem BF:3<=a->a=0\/a=0+2->False:=λh k=>k.elim (λe=>absurd h (e▸by decide)) λe=>absurd h (e▸by decide)
theorem BG:a < 5->(5+(↑a:Int)*-1).natAbs < 1073741824:=by revert a;decide
theorem BH:a < 5->0 < 5+(↑a:Int)*-1:=by revert a;decide
theorem BI:a=0->0=(↑a:Int):=λx=>aq x▸rfl
theorem BJ:a=5->a+a < 100:=λh=>h▸(by decide:5+5 < 100)
theorem BK:a=6->1 < a:=λh=>h▸(by decide:1 < 6)
theorem BL:a<=1->a=0\/a=1:=by revert a;decide
theorem BM:a<=5->1+a<=16777216:=by revert a;decide
theorem BN:¬(↑a:Int) - 1 > -1->Int.toNat 0=a:=by lia
theorem BO {b:Int}{c:Nat}:a+1<=5->b < 5+(↑a:Int)*-1->c=5 - a->b.toNat < c:=by lia
theorem BP:((↑a:Int) - 1+-1*(↑b:Int)).toNat=a - 1 - b:=by rw [Int.neg_one_mul,<-Int.sub_eq_add_neg,Int.sub_sub,Nat.sub_sub];exact Int.toNat_sub a (1+b)
theorem BQ:11<=a->a<=b->11<=b:=λx y=>cG x y
theorem BR:a+(b+1) < 200->a+1+b < 200:=λh=>Nat.succ_add_eq_add_succ a b▸h
theorem BS:a+1 < b+1->a < b:=λx=>Nat.le_of_lt_succ x
theorem BU:a+10 < b->a+1 < b:=λh=>cD (fX (by decide:1<=10) a) h
theorem BV:a+3 < b->a+1≠b:=λh=>bS (cD (fX (by decide:1<=3) a) h)
theorem BW:a+3<=b->a≠b+2:=λh=>bS (cG (cG (gD (by decide:0 < 3) a) h) (bW ..))
theorem BX:a+3<=b->b+2≠a+1:=λh=>dk (cG (gD (by decide:1 < 3) a) (aV h (bW ..)))
theorem BY:a+3<=b\/b+3<=a->a+1≠b:=λh e=>h.elim (λh=>bS (cG (gD (by decide:1 < 3) a) h) e) λh=>dk (cG (gD (by decide:0 < 3) b) (Nat.le_succ_of_le h)) e
theorem BZ:a+3<=b\/b+3<=a->a+1≠b+1:=λh e=>h.elim (λh=>bS (cG (gD (by decide:1 < 3) a) (Nat.le_succ_of_le h)) e) λh=>dk (cG (gD (by decide:1 < 3) b) (Nat.le_succ_of_le h)) e
theorem B0:a+3<=b\/b+3<=a->a+1≠b+2:=λh e=>h.elim (λh=>bS (cG (gD (by decide:1 < 3) a) (aV h (bW b 2))) e) λh=>dk (cG (gD (by decide:2 < 3) b) (Nat.le_succ_of_le h)) e
theorem B1:a+3<=b\/b+3<=a->a+2≠b:=λh e=>h.elim (λh=>bS (cG (gD (by decide:2 < 3) a) h) e) λh=>dk (cG (gD (by decide:0 < 3) b) (aV h (bW a 2))) e
theorem B2:a+3<=b\/b+3<=a->a+2≠b+1:=λh e=>h.elim (λh=>bS (cG (gD (by decide:2 < 3) a) (Nat.le_succ_of_le h)) e) λh=>dk (cG (gD (by decide:1 < 3) b) (aV h (bW a 2))) e
theorem B3:a+3<=b\/b+3<=a->a+2≠b+2:=λh e=>h.elim (λh=>bS (cG (gD (by decide:2 < 3) a) (aV h (bW b 2))) e) λh=>dk (cG (gD (by decide:2 < 3) b) (aV h (bW a 2))) e
theorem B4:a < 60->b<=a->b<=2 ^ 24:=by lia
theorem B5:a < b->b<=12->(↑(0+a):Int)+1 < 2 ^ 64:=λh k=>show ((0+a+1:Nat):Int) < ((2^64:Nat):Int) from Int.ofNat_lt.mpr ((Nat.zero_add a).symm▸pj (aV h k) rfl)
theorem B6:(a<=b->c<=4*a)->a+1<=b->c+(1+(1+1)+1)<=4*(a+1):=λh k=>Nat.add_le_add_right (h (bF k)) 4
theorem B7:11<=a->b=0\/b=0+1\/b=a\/0+11<=b->b=c->c=9\/c=10->False:=λh k l m=>by subst l;rcases m with rfl|rfl <;> (rcases k with k|k|k|k <;> first | exact absurd k (by decide) | exact absurd h (k▸by decide))
theorem B8:a+(b+1)=c->a+1+b=c:=λh=>Nat.succ_add_eq_add_succ a b▸h
theorem B9:a+20*(b+1) < c->a+1+20*b < c:=λh=>cD (aV (Nat.le_of_eq (Nat.add_right_comm a 1 (20*b))) (fX (by decide:1<=20) (a+20*b))) h
theorem Ca:a+20*b < c->b≠0->a+1+10 < c:=λh k=>cD (fX (aV (by decide:11<=20*1) (Nat.mul_le_mul_left 20 (Nat.pos_of_ne_zero k))) a) h
theorem Cb:a+20*b < c->b≠0->a+1 < c:=λh k=>cD (fX (aV (by decide:1<=20*1) (Nat.mul_le_mul_left 20 (Nat.pos_of_ne_zero k))) a) h
theorem Cc:a < b->a=c+1\/a=c+2->b<=c->False:=λh k l=>Nat.not_le.mpr (cG h l) (k.elim (λe=>e▸Nat.le_succ c) λe=>e▸bW c 2)
theorem Ce:a=5->b=a+a->c<=4*b->c < 600:=λh k l=>pj (aV l (by subst h;subst k;exact bu 40:4*b<=40)) rfl
theorem Cf:a=b->c<=b->¬(↑a:Int) < (↑c:Int):=λh k=>Int.not_lt.mpr (Int.ofNat_le.mpr (h▸k))
theorem Cg:a=b\/a=b+1\/a=b+2->c<=b->c<=a:=λh k=>aV k (h.elim (λe=>Nat.le_of_eq e.symm) λh=>h.elim (λe=>e▸bW ..) λe=>e▸bW ..)
theorem Ci:¬(a<=b\/c<=b)->b < c:=λh=>Nat.not_le.mp λx=>h (.inr x)
theorem Cj:¬(a<=b\/c<=b)->b < min a c:=λh=>Nat.lt_min.mpr ⟨Nat.not_le.mp λx=>h (.inl x),Nat.not_le.mp λx=>h (.inr x)⟩
theorem Ck {d:Int}:(a<=5->b=5 - a/\c=a)->a+1<=5->d < 5+(↑a:Int)*-1->d.toNat < b:=by lia
theorem Cm:a+(2+b)=c->a+(d+(1+(b - 0)))<=c+d:=by lia
theorem Cn:a+1 < b->a<=c\/d<=c->c < a+1->d=b->(↑c:Int)=(↑(a+1):Int) - 1:=λh k l m=>(show c=a from Nat.le_antisymm (Nat.le_of_lt_succ l) (k.elim id λe=>aV (bF (Nat.lt_of_succ_lt h)) (m▸e)))▸(Int.add_sub_cancel (a:Int) 1).symm
theorem Co:a+1<=b->c+20*b < d->c+1+1+20*a < d:=λh k=>cD (aV (aV (Nat.le_of_eq (Nat.add_right_comm c 2 (20*a))) (fX (by decide:2<=20) (c+20*a))) (fX (Nat.mul_le_mul_left 20 h) c)) k
theorem Cp:a+1<=b->c+20*b < d->c+1+20*a < d:=λh k=>cD (aV (aV (Nat.le_of_eq (Nat.add_right_comm c 1 (20*a))) (fX (by decide:1<=20) (c+20*a))) (fX (Nat.mul_le_mul_left 20 h) c)) k
theorem Cq:a+11<=b->c=b\/c=b+1\/c=b+2->c=a\/c=a+1\/c=d\/a+11<=c:=λh k=>.inr (.inr (.inr (aV h (k.elim (λe=>Nat.le_of_eq e.symm) λk=>k.elim (λe=>e▸bW ..) λe=>e▸bW ..))))
theorem Cr:a=b+c->a=d->b=d->c=0:=by lia
theorem Cs:a=b->b=c->d=c->a=d:=λx y z=>aq x▸aq y▸z▸rfl
theorem Ct:a=b->b<=c+1->a+d<=c+1+d:=λh k=>Nat.add_le_add_right (h▸k) d
theorem Cu:a<=b->c<=d->a+1+c<=b+(d+1):=λh k=>Nat.succ_add_eq_add_succ b d▸Nat.add_le_add (Nat.succ_le_succ h) k
theorem Cv:a+1 < b->c=a->d<=min e c->d+1 < b:=λh k l=>cD (Nat.succ_le_succ (k▸aV l (Nat.min_le_right ..))) h
theorem Cw:a < b->a<=c\/d<=c->d=b->e < a->e < c:=λh k l m=>k.elim (cG m) λx=>cG (Nat.lt_trans m h) (l▸x)
theorem Cz:a+1<=b->c+1<=d->e - a+(f - c)<=g+1->e - b+(f - d)<=g:=λh k l=>(Nat.lt_or_ge a e).elim (λx=>Nat.le_of_lt_succ (cG (Nat.add_lt_add_of_lt_of_le (Nat.sub_lt_sub_left x h) (Nat.sub_le_sub_left (bF k) f)) l)) λx=>(Nat.lt_or_ge c f).elim (λy=>Nat.le_of_lt_succ (cG (Nat.add_lt_add_of_le_of_lt (Nat.sub_le_sub_left (bF h) e) (Nat.sub_lt_sub_left y k)) l)) λy=>aV (Nat.add_le_add (Nat.le_of_eq (Nat.sub_eq_zero_of_le (aV x (bF h)))) (Nat.le_of_eq (Nat.sub_eq_zero_of_le (aV y (bF k))))) (Nat.zero_le g)
end
end Mine.Internal
namespace Mine.Internal
theorem aG {p0:Prop}{p1:Prop}{p2:Prop}(h0:p0)(h1:p1)(h2:p2):p0/\p1/\p2:=⟨h0,h1,h2⟩
theorem gb {p0:Prop}{p1:Prop}{p2:Prop}{p3:Prop}(h0:p0)(h1:p1)(h2:p2)(h3:p3):p0/\p1/\p2/\p3:=⟨h0,h1,h2,h3⟩
theorem fC {p0:Prop}{p1:Prop}{p2:Prop}{p3:Prop}{p4:Prop}(h0:p0)(h1:p1)(h2:p2)(h3:p3)(h4:p4):p0/\p1/\p2/\p3/\p4:=⟨h0,h1,h2,h3,h4⟩
theorem kX {p0:Prop}{p1:Prop}{p2:Prop}{p3:Prop}{p4:Prop}{p5:Prop}(h0:p0)(h1:p1)(h2:p2)(h3:p3)(h4:p4)(h5:p5):p0/\p1/\p2/\p3/\p4/\p5:=⟨h0,h1,h2,h3,h4,h5⟩
theorem ix {p0:Prop}{p1:Prop}{p2:Prop}{p3:Prop}{p4:Prop}{p5:Prop}{p6:Prop}{p7:Prop}{p8:Prop}(h0:p0)(h1:p1)(h2:p2)(h3:p3)(h4:p4)(h5:p5)(h6:p6)(h7:p7)(h8:p8):p0/\p1/\p2/\p3/\p4/\p5/\p6/\p7/\p8:=⟨h0,h1,h2,h3,h4,h5,h6,h7,h8⟩
theorem gP {p0:Prop}{p1:Prop}{p2:Prop}{p3:α->Prop}(h0:p0)(h1:p1)(h2:p2)(x0:α)(h3:p3 x0):p0/\p1/\p2/\∃x0,p3 x0:=⟨h0,h1,h2,x0,h3⟩
theorem pY {p0:Prop}{p1:Prop}{p2:α->Prop}(h0:p0)(h1:p1)(x0:α)(h2:p2 x0):p0/\p1/\∃x0,p2 x0:=⟨h0,h1,x0,h2⟩
theorem jA {p0:Prop}{p1:Prop}{p2:α->Prop}{p3:α->Prop}{p4:α->Prop}(h0:p0)(h1:p1)(x0:α)(h2:p2 x0)(h3:p3 x0)(h4:p4 x0):p0/\p1/\∃x0,p2 x0/\p3 x0/\p4 x0:=⟨h0,h1,x0,h2,h3,h4⟩
theorem zU {p0:Prop}{p1:α->Prop}(h0:p0)(x0:α)(h1:p1 x0):p0/\∃x0,p1 x0:=⟨h0,x0,h1⟩
theorem so {p0:Prop}{p1:α->Prop}{p2:α->Prop}(h0:p0)(x0:α)(h1:p1 x0)(h2:p2 x0):p0/\∃x0,p1 x0/\p2 x0:=⟨h0,x0,h1,h2⟩
theorem tS {p0:Prop}{p1:α->Prop}{p2:α->Prop}{p3:α->Prop}(h0:p0)(x0:α)(h1:p1 x0)(h2:p2 x0)(h3:p3 x0):p0/\∃x0,p1 x0/\p2 x0/\p3 x0:=⟨h0,x0,h1,h2,h3⟩
theorem ck {p0:α->Prop}(x0:α)(h0:p0 x0):∃x0,p0 x0:=⟨x0,h0⟩
theorem ae {p0:α->Prop}{p1:α->Prop}(x0:α)(h0:p0 x0)(h1:p1 x0):∃x0,p0 x0/\p1 x0:=⟨x0,h0,h1⟩
theorem aH {p0:α->Prop}{p1:α->Prop}{p2:α->Prop}(x0:α)(h0:p0 x0)(h1:p1 x0)(h2:p2 x0):∃x0,p0 x0/\p1 x0/\p2 x0:=⟨x0,h0,h1,h2⟩
theorem lQ {p0:α->Prop}{p1:α->Prop}{p2:α->Prop}{p3:α->Prop}(x0:α)(h0:p0 x0)(h1:p1 x0)(h2:p2 x0)(h3:p3 x0):∃x0,p0 x0/\p1 x0/\p2 x0/\p3 x0:=⟨x0,h0,h1,h2,h3⟩
theorem dh {p0:α->Prop}{p1:α->Prop}{p2:α->β->Prop}(x0:α)(h0:p0 x0)(h1:p1 x0)(x1:β)(h2:p2 x0 x1):∃x0,p0 x0/\p1 x0/\∃x1,p2 x0 x1:=⟨x0,h0,h1,x1,h2⟩
theorem kj {p0:α->Prop}{p1:α->β->Prop}{p2:α->β->Prop}{p3:α->β->Prop}{p4:α->β->Prop}(x0:α)(h0:p0 x0)(x1:β)(h1:p1 x0 x1)(h2:p2 x0 x1)(h3:p3 x0 x1)(h4:p4 x0 x1):∃x0,p0 x0/\∃x1,p1 x0 x1/\p2 x0 x1/\p3 x0 x1/\p4 x0 x1:=⟨x0,h0,x1,h1,h2,h3,h4⟩
theorem kY {p0:α->Prop}{p1:α->β->γ->δ->Prop}{p2:α->β->γ->δ->Prop}{p3:α->β->γ->δ->Prop}(x0:α)(h0:p0 x0)(x1:β)(x2:γ)(x3:δ)(h1:p1 x0 x1 x2 x3)(h2:p2 x0 x1 x2 x3)(h3:p3 x0 x1 x2 x3):∃x0,p0 x0/\∃x1 x2 x3,p1 x0 x1 x2 x3/\p2 x0 x1 x2 x3/\p3 x0 x1 x2 x3:=⟨x0,h0,x1,x2,x3,h1,h2,h3⟩
theorem kl {p0:α->Prop}{p1:α->β->γ->δ->ε->Prop}{p2:α->β->γ->δ->ε->Prop}{p3:α->β->γ->δ->ε->Prop}{p4:α->β->γ->δ->ε->Prop}{p5:α->β->γ->δ->ε->Prop}{p6:α->β->γ->δ->ε->Prop}{p7:α->β->γ->δ->ε->Prop}(x0:α)(h0:p0 x0)(x1:β)(x2:γ)(x3:δ)(x4:ε)(h1:p1 x0 x1 x2 x3 x4)(h2:p2 x0 x1 x2 x3 x4)(h3:p3 x0 x1 x2 x3 x4)(h4:p4 x0 x1 x2 x3 x4)(h5:p5 x0 x1 x2 x3 x4)(h6:p6 x0 x1 x2 x3 x4)(h7:p7 x0 x1 x2 x3 x4):∃x0,p0 x0/\∃x1 x2 x3 x4,p1 x0 x1 x2 x3 x4/\p2 x0 x1 x2 x3 x4/\p3 x0 x1 x2 x3 x4/\p4 x0 x1 x2 x3 x4/\p5 x0 x1 x2 x3 x4/\p6 x0 x1 x2 x3 x4/\p7 x0 x1 x2 x3 x4:=⟨x0,h0,x1,x2,x3,x4,h1,h2,h3,h4,h5,h6,h7⟩
theorem xk {p0:α->β->Prop}(x0:α)(x1:β)(h0:p0 x0 x1):∃x0 x1,p0 x0 x1:=⟨x0,x1,h0⟩
theorem eO {p0:α->β->Prop}{p1:α->β->Prop}(x0:α)(x1:β)(h0:p0 x0 x1)(h1:p1 x0 x1):∃x0 x1,p0 x0 x1/\p1 x0 x1:=⟨x0,x1,h0,h1⟩
theorem b7 {p0:α->β->Prop}{p1:α->β->Prop}{p2:α->β->Prop}(x0:α)(x1:β)(h0:p0 x0 x1)(h1:p1 x0 x1)(h2:p2 x0 x1):∃x0 x1,p0 x0 x1/\p1 x0 x1/\p2 x0 x1:=⟨x0,x1,h0,h1,h2⟩
theorem mJ {p0:α->β->Prop}{p1:α->β->Prop}{p2:α->β->Prop}{p3:α->β->Prop}(x0:α)(x1:β)(h0:p0 x0 x1)(h1:p1 x0 x1)(h2:p2 x0 x1)(h3:p3 x0 x1):∃x0 x1,p0 x0 x1/\p1 x0 x1/\p2 x0 x1/\p3 x0 x1:=⟨x0,x1,h0,h1,h2,h3⟩
theorem km {p0:α->β->γ->Prop}{p1:α->β->γ->Prop}(x0:α)(x1:β)(x2:γ)(h0:p0 x0 x1 x2)(h1:p1 x0 x1 x2):∃x0 x1 x2,p0 x0 x1 x2/\p1 x0 x1 x2:=⟨x0,x1,x2,h0,h1⟩
theorem gw {p0:α->β->γ->Prop}{p1:α->β->γ->Prop}{p2:α->β->γ->Prop}(x0:α)(x1:β)(x2:γ)(h0:p0 x0 x1 x2)(h1:p1 x0 x1 x2)(h2:p2 x0 x1 x2):∃x0 x1 x2,p0 x0 x1 x2/\p1 x0 x1 x2/\p2 x0 x1 x2:=⟨x0,x1,x2,h0,h1,h2⟩
theorem fF {p0:α->β->γ->Prop}{p1:α->β->γ->Prop}{p2:α->β->γ->Prop}{p3:α->β->γ->Prop}(x0:α)(x1:β)(x2:γ)(h0:p0 x0 x1 x2)(h1:p1 x0 x1 x2)(h2:p2 x0 x1 x2)(h3:p3 x0 x1 x2):∃x0 x1 x2,p0 x0 x1 x2/\p1 x0 x1 x2/\p2 x0 x1 x2/\p3 x0 x1 x2:=⟨x0,x1,x2,h0,h1,h2,h3⟩
theorem il {p0:α->β->γ->Prop}{p1:α->β->γ->Prop}{p2:α->β->γ->Prop}{p3:α->β->γ->Prop}{p4:α->β->γ->Prop}(x0:α)(x1:β)(x2:γ)(h0:p0 x0 x1 x2)(h1:p1 x0 x1 x2)(h2:p2 x0 x1 x2)(h3:p3 x0 x1 x2)(h4:p4 x0 x1 x2):∃x0 x1 x2,p0 x0 x1 x2/\p1 x0 x1 x2/\p2 x0 x1 x2/\p3 x0 x1 x2/\p4 x0 x1 x2:=⟨x0,x1,x2,h0,h1,h2,h3,h4⟩
theorem jB {p0:α->β->γ->Prop}{p1:α->β->γ->Prop}{p2:α->β->γ->Prop}{p3:α->β->γ->Prop}{p4:α->β->γ->Prop}{p5:α->β->γ->Prop}(x0:α)(x1:β)(x2:γ)(h0:p0 x0 x1 x2)(h1:p1 x0 x1 x2)(h2:p2 x0 x1 x2)(h3:p3 x0 x1 x2)(h4:p4 x0 x1 x2)(h5:p5 x0 x1 x2):∃x0 x1 x2,p0 x0 x1 x2/\p1 x0 x1 x2/\p2 x0 x1 x2/\p3 x0 x1 x2/\p4 x0 x1 x2/\p5 x0 x1 x2:=⟨x0,x1,x2,h0,h1,h2,h3,h4,h5⟩
theorem jb {p0:α->β->γ->δ->Prop}{p1:α->β->γ->δ->Prop}{p2:α->β->γ->δ->Prop}{p3:α->β->γ->δ->Prop}(x0:α)(x1:β)(x2:γ)(x3:δ)(h0:p0 x0 x1 x2 x3)(h1:p1 x0 x1 x2 x3)(h2:p2 x0 x1 x2 x3)(h3:p3 x0 x1 x2 x3):∃x0 x1 x2 x3,p0 x0 x1 x2 x3/\p1 x0 x1 x2 x3/\p2 x0 x1 x2 x3/\p3 x0 x1 x2 x3:=⟨x0,x1,x2,x3,h0,h1,h2,h3⟩
theorem jC {p0:α->β->γ->δ->Prop}{p1:α->β->γ->δ->Prop}{p2:α->β->γ->δ->Prop}{p3:α->β->γ->δ->Prop}{p4:α->β->γ->δ->Prop}{p5:α->β->γ->δ->Prop}{p6:α->β->γ->δ->Prop}(x0:α)(x1:β)(x2:γ)(x3:δ)(h0:p0 x0 x1 x2 x3)(h1:p1 x0 x1 x2 x3)(h2:p2 x0 x1 x2 x3)(h3:p3 x0 x1 x2 x3)(h4:p4 x0 x1 x2 x3)(h5:p5 x0 x1 x2 x3)(h6:p6 x0 x1 x2 x3):∃x0 x1 x2 x3,p0 x0 x1 x2 x3/\p1 x0 x1 x2 x3/\p2 x0 x1 x2 x3/\p3 x0 x1 x2 x3/\p4 x0 x1 x2 x3/\p5 x0 x1 x2 x3/\p6 x0 x1 x2 x3:=⟨x0,x1,x2,x3,h0,h1,h2,h3,h4,h5,h6⟩
end Mine.Internal
namespace Mine.Internal
open PySem
inductive AV where
 | none
 | bool (b:Bool)
 | int (i:Int)
 | str (x:Str)
 | tup (xs:List AV)
 | lst (xs:List AV)
 | aZ (kvs:List (Str×AV))
 | ref (k:Nat)
 | raw (v:Value)
 | bm (cls:String) (f:Value) (self:AV)
 | fn (site:Nat) (Iw:List (Str×AV))
 deriving Inhabited
noncomputable abbrev G:=Addr->Option Obj
noncomputable def bx (vs:List Value)(n:Nat):Obj:={cls:=.type "list",dict:=Option.none,data:=.seq vs.toArray n,slots:=#[]}
noncomputable def gj (vs:List Value):Obj:={cls:=.type "tuple",dict:=Option.none,data:=.seq vs.toArray 0,slots:=#[]}
noncomputable def bC (es:Array DictEntry)(n:Nat):Obj:={cls:=.type "dict",dict:=Option.none,data:=.dict es n,slots:=#[]}
def Fz (g:G)(a:Addr)(vs:List Value):Prop:=∃n,g a=some (bx vs n)
def Wu (g:G)(a:Addr)(vs:List Value):Prop:=g a=some (gj vs)
section
variable {prog:Program}{w:World}
inductive oB {K:Type} [DecidableEq K] (knd:KeyKind prog w K)(g:G)(a:Addr)(kvs:List (K×Value)):Prop
 | mk (es:Array DictEntry) (n:Nat) (h1:g a=some (bC es n)) (h2:KeysOf knd es/\Pairs knd es.toList kvs/\(kvs.map (·.1)).Nodup/\(a==sysModules)=false)
noncomputable abbrev sk (prog:Program)(w:World):=_root_.PySem.strKind prog w
end
noncomputable def tT (w:World):Bool:=w.params.followText "set-order"
inductive jD (prog:Program)(w:World)(h:Heap)(a:Addr)(L:List Str):Prop
 | mk (o:Obj) (es:Array (Int×Value)) (ep:Nat) (t:SetTable) (h1:h.get? a=some o) (h2:o.ExactSet/\o.data=.set es ep t/\ElemsOf (sk prog w) es.toList/\PyProof.Rows.StrsAre (es.toList.map (·.2)) L/\L.Nodup/\es.size < scanBound/\t.fits es.size=true/\t.led=(!tT w)/\(L≠[]->t.plain=false))
structure lR where
 name:Str
 qual:Str
 params:Arguments
 body:FuncBody
 scope:Scope
inductive xl (g:G)(code:Value)(q:Str):Prop
 | mk (cc:Addr) (oc:Obj) (vs:Array Value) (t:Tok) (h1:code=.ref cc) (h2:g cc=some oc) (h3:oc.data=.fields vs/\vs[1]?=some (.str q t))
inductive CA (h:Heap)(code:Value)(q:Str):Prop
 | mk (cc:Addr) (oc:Obj) (vs:Array Value) (t:Tok) (h1:code=.ref cc) (h2:h.get? cc=some oc) (h0:oc.cls≠.none) (h3:oc.data=.fields vs) (h4:vs[1]?=some (.str q t))
structure xm (F:G)(cl:List (Str×Addr))(rs:List (Str×Value)):Prop where
 has:∀x r,(x,r)∈rs->∃a oc,cl.lookup x=some a/\F a=some oc/\oc.data=.cell (some r)
 all:∀x a,cl.lookup x=some a->∃oc v,F a=some oc/\oc.cls=.type "cell"/\oc.data=.cell (some v)
 apart:∀x y a,cl.lookup x=some a->cl.lookup y=some a->x=y
theorem xm.mono (z:xm F cl rs)(hs:∀b o,F b=some o->F' b=some o):xm F' cl rs :=
 ⟨λx r m=>e2a2 (z.has x r m) λa oc e1 e2 e3=>(b7 a oc e1 (hs _ _ e2) e3),λx a e=>e2a1 (z.all x a e) λoc v e1 e2=>(eO oc v (hs _ _ e1) e2),z.apart⟩
inductive Lz (aD:Nat->lR)(F:G)(site:Nat)(a:Addr)(rs:List (Str×Value)):Prop
 | mk (o:Obj) (fd:FuncData) (h0:F a=some o) (c1:o.cls=.type "function") (c2:o.dict=Option.none) (c3:o.data=.func fd)
  (e1:fd.name=(aD site).name) (e2:fd.qualname=(aD site).qual) (e3:fd.params=(aD site).params) (e4:fd.body=(aD site).body) (e5:fd.scope=(aD site).scope)
  (e6:fd.globals=mainGlobals) (e7:fd.builtins=builtinsNs) (e8:fd.defaults=.none) (e9:fd.kwdefaults=.none)
  (hc:xl F fd.code fd.qualname) (dZ:xm F fd.closure rs)
theorem Lz.sub (z:Lz aD F site a rs)(hs:∀b o,F b=some o->F' b=some o):Lz aD F' site a rs:=by obtain ⟨o,fd,h0,c1,c2,c3,e1,e2,e3,e4,e5,e6,e7,e8,e9,⟨cc,oc,vs,t,a1,a2,a3⟩,dZ⟩:=z;exact ⟨o,fd,hs _ _ h0,c1,c2,c3,e1,e2,e3,e4,e5,e6,e7,e8,e9,⟨cc,oc,vs,t,a1,hs _ _ a2,a3⟩,dZ.mono hs⟩
mutual
inductive cU (prog:Program)(w:World)(aD:Nat->lR)(F:G)(bs:List Addr):AV->Value->Prop
 | none:cU prog w aD F bs .none .none
 | bool (b:Bool):cU prog w aD F bs (.bool b) (.bool b)
 | int (i:Int) (t:Tok):cU prog w aD F bs (.int i) (.int i t)
 | str (x:Str) (t:Tok):cU prog w aD F bs (.str x) (.str x t)
 | tup {xs:List AV} {a:Addr} {vs:List Value}:Wu F a vs->bq prog w aD F bs xs vs->cU prog w aD F bs (.tup xs) (.ref a)
 | lst {xs:List AV} {a:Addr} {vs:List Value}:Fz F a vs->bq prog w aD F bs xs vs->cU prog w aD F bs (.lst xs) (.ref a)
 | aZ {kvs:List (Str×AV)} {a:Addr} {rs:List (Str×Value)}:oB (sk prog w) F a rs->aU prog w aD F bs kvs rs->cU prog w aD F bs (.aZ kvs) (.ref a)
 | ref {k:Nat} {a:Addr}:bs[k]?=some a->cU prog w aD F bs (.ref k) (.ref a)
 | raw (v:Value):cU prog w aD F bs (.raw v) v
 | bm {cls:String} {f:Value} {self:AV} {a:Addr} {r:Value}:F a=some {cls:=.type cls,data:=.fields #[f,r]}->cU prog w aD F bs self r->cU prog w aD F bs (.bm cls f self) (.ref a)
 | fn {site:Nat} {Iw:List (Str×AV)} {a:Addr} {rs:List (Str×Value)}:Lz aD F site a rs->aU prog w aD F bs Iw rs->cU prog w aD F bs (.fn site Iw) (.ref a)
inductive bq (prog:Program)(w:World)(aD:Nat->lR)(F:G)(bs:List Addr):List AV->List Value->Prop
 | nil:bq prog w aD F bs [] []
 | cons {x:AV} {v:Value} {xs:List AV} {vs:List Value}:cU prog w aD F bs x v->bq prog w aD F bs xs vs->bq prog w aD F bs (x::xs) (v::vs)
inductive aU (prog:Program)(w:World)(aD:Nat->lR)(F:G)(bs:List Addr):List (Str×AV)->List (Str×Value)->Prop
 | nil:aU prog w aD F bs [] []
 | cons {n:Str} {x:AV} {v:Value} {xs:List (Str×AV)} {vs:List (Str×Value)}:cU prog w aD F bs x v->aU prog w aD F bs xs vs->aU prog w aD F bs ((n,x)::xs) ((n,v)::vs)
end
section
variable {prog:Program}{w:World}{aD:Nat->lR}{F F':G}{bs nb:List Addr}
theorem Fz.sub (h:Fz g a vs)(hs:∀b o,g b=some o->g' b=some o):Fz g' a vs :=
 e1a0 h λn e=>(ck n (hs _ _ e))
theorem oB.sub {K:Type} [DecidableEq K] {knd:KeyKind prog w K}{g g':G}{a:Addr}{kvs:List (K×Value)}(h:oB knd g a kvs)(hs:∀b o,g b=some o->g' b=some o):oB knd g' a kvs :=
 let ⟨es,n,e,r⟩:=h;⟨es,n,hs _ _ e,r⟩
@[reducible] def Qn (prog:Program) (w:World) (aD:Nat->lR) (F:G) (bs:List Addr) (v:AV) (r:Value):Prop:=match v with
 | .none=>r=.none
 | .bool b=>r=.bool b
 | .int i=>∃t,r=.int i t
 | .str x=>∃t,r=.str x t
 | .raw u=>r=u
 | .ref k=>∃a,r=.ref a/\bs[k]?=some a
 | .tup xs=>∃a vs,r=.ref a/\Wu F a vs/\bq prog w aD F bs xs vs
 | .lst xs=>∃a vs,r=.ref a/\Fz F a vs/\bq prog w aD F bs xs vs
 | .aZ kvs=>∃a rs,r=.ref a/\oB (sk prog w) F a rs/\aU prog w aD F bs kvs rs
 | .bm cls f self=>∃a q,r=.ref a/\F a=some {cls:=.type cls,data:=.fields #[f,q]}/\cU prog w aD F bs self q
 | .fn site Iw=>∃a rs,r=.ref a/\Lz aD F site a rs/\aU prog w aD F bs Iw rs
theorem cU.inv (h:cU prog w aD F bs v r):Qn prog w aD F bs v r:=by
 cases h with
 | none=>rfl
 | bool=>rfl
 | int=>exact (ck _ rfl)
 | str=>exact (ck _ rfl)
 | raw=>rfl
 | ref e=>exact (ae _ rfl e)
 | _=>exact (b7 _ _ rfl (‹_›) (‹_›))
@[reducible] def LA (prog:Program) (w:World) (aD:Nat->lR) (F:G) (bs:List Addr) (l:List AV) (r:List Value):Prop:=match l with
 | []=>r=[]
 | x::xs=>∃v vs,r=v::vs/\cU prog w aD F bs x v/\bq prog w aD F bs xs vs
theorem bq.inv (h:bq prog w aD F bs l r):LA prog w aD F bs l r:=by
 cases h with
 | nil=>rfl
 | cons=>exact (b7 _ _ rfl (‹_›) (‹_›))
@[reducible] def Qo (prog:Program) (w:World) (aD:Nat->lR) (F:G) (bs:List Addr) (l:List (Str×AV)) (r:List (Str×Value)):Prop:=match l with
 | []=>r=[]
 | p::xs=>∃v vs,r=(p.1,v)::vs/\cU prog w aD F bs p.2 v/\aU prog w aD F bs xs vs
theorem aU.inv (h:aU prog w aD F bs l r):Qo prog w aD F bs l r:=by
 cases h with
 | nil=>rfl
 | cons=>exact (b7 _ _ rfl (‹_›) (‹_›))
end
mutual
noncomputable def AV.under (n:Nat):AV->Bool
 | .none=>true
 | .bool _=>true
 | .int _=>true
 | .str _=>true
 | .tup xs=>AV.b8 n xs
 | .lst xs=>AV.b8 n xs
 | .aZ kvs=>AV.iX n kvs
 | .ref k=>decide (k < n)
 | .raw _=>true
 | .bm _ _ s=>s.under n
 | .fn _ Iw=>AV.iX n Iw
noncomputable def AV.b8 (n:Nat):List AV->Bool
 | []=>true
 | x::xs=>x.under n&&AV.b8 n xs
noncomputable def AV.iX (n:Nat):List (Str×AV)->Bool
 | []=>true
 | (_,x)::xs=>x.under n&&AV.iX n xs
end
@[simp] theorem uvN {n:Nat}:AV.under n .none=true:=rfl
@[simp] theorem uvB {n:Nat} {b:Bool}:AV.under n (.bool b)=true:=rfl
@[simp] theorem uvI {n:Nat} {i:Int}:AV.under n (.int i)=true:=rfl
@[simp] theorem uvS {n:Nat} {x:Str}:AV.under n (.str x)=true:=rfl
@[simp] theorem uvT {n:Nat} {xs:List AV}:AV.under n (.tup xs)=AV.b8 n xs:=rfl
@[simp] theorem YL {n:Nat} {xs:List AV}:AV.under n (.lst xs)=AV.b8 n xs:=rfl
@[simp] theorem uvD {n:Nat} {xs:List (Str×AV)}:AV.under n (.aZ xs)=AV.iX n xs:=rfl
@[simp] theorem uvR {n k:Nat}:AV.under n (.ref k)=decide (k < n):=rfl
@[simp] theorem YM {n:Nat}:AV.b8 n []=true:=rfl
@[simp] theorem YN {n:Nat} {x:AV} {xs:List AV}:AV.b8 n (x::xs)=(x.under n&&AV.b8 n xs):=rfl
theorem kn (u:g\/(a&&b)=true):(g\/a=true)/\(g\/b=true) :=
 u.elim (λq=>⟨.inl q,.inl q⟩) λq=>⟨.inr (Bool.and_eq_true_iff.mp q).1,.inr (Bool.and_eq_true_iff.mp q).2⟩
section
variable {prog:Program}{w:World}{aD:Nat->lR}{F F':G}{bs aE nb:List Addr}{g:Prop}{n:Nat}
theorem cU.lift (hs:∀b o,F b=some o->F' b=some o)(hb:∀k a,bs[k]?=some a->(g\/k < n)->aE[k]?=some a)(h:cU prog w aD F bs x v):(g\/x.under n=true)->cU prog w aD F' aE x v :=
 cU.rec (motive_1:=λx v zz=>(g\/x.under n=true)->cU prog w aD F' aE x v) (motive_2:=λx v zz=>(g\/AV.b8 n x=true)->bq prog w aD F' aE x v)
  (motive_3:=λx v zz=>(g\/AV.iX n x=true)->aU prog w aD F' aE x v)
  (λzz=>.none) (λb zz=>.bool b) (λi t zz=>.int i t) (λx t zz=>.str x t) (λh zz ih u=>.tup (hs _ _ h) (ih u)) (λh zz ih u=>.lst (h.sub hs) (ih u))
  (λh zz ih u=>.aZ (h.sub hs) (ih u)) (λh u=>.ref (hb _ _ h (u.imp_right of_decide_eq_true))) (λv zz=>.raw v)
  (λh zz ih u=>.bm (hs _ _ h) (ih u)) (λh zz ih u=>.fn (h.sub hs) (ih u))
  (λzz=>.nil) (λzz zz i1 i2 u=>.cons (i1 (kn u).1) (i2 (kn u).2))
  (λzz=>.nil) (λzz zz i1 i2 u=>.cons (i1 (kn u).1) (i2 (kn u).2)) h
theorem bq.lift (hs:∀b o,F b=some o->F' b=some o)(hb:∀k a,bs[k]?=some a->(g\/k < n)->aE[k]?=some a)(h:bq prog w aD F bs x v)(u:g\/AV.b8 n x=true):bq prog w aD F' aE x v:=by
 induction x generalizing v with
 | nil=>refine rE h.inv ?_;exact .nil
 | cons x xs ih=>refine e2a2 h.inv λzz zz o5 h1 h2=>?_;refine rE o5 ?_;exact .cons (h1.lift hs hb (kn u).1) (ih h2 (kn u).2)
theorem aU.lift (hs:∀b o,F b=some o->F' b=some o)(hb:∀k a,bs[k]?=some a->(g\/k < n)->aE[k]?=some a)(h:aU prog w aD F bs x v)(u:g\/AV.iX n x=true):aU prog w aD F' aE x v:=by
 induction x generalizing v with
 | nil=>refine rE h.inv ?_;exact .nil
 | cons x xs ih=>refine e2a2 h.inv λzz zz o4 h1 h2=>?_;refine rE o4 ?_;exact .cons (h1.lift hs hb (kn u).1) (ih h2 (kn u).2)
theorem pZ {l r:List Addr}(k:Nat)(a:Addr)(h:l[k]?=some a)(_:True\/k < 0):(l++r)[k]?=some a:=by refine rE (eN (bN h).1) ?_;exact h
theorem cU.mono (hs:∀b o,F b=some o->F' b=some o)(h:cU prog w aD F bs x v):cU prog w aD F' (bs++nb) x v:=h.lift hs pZ (.inl trivial)
theorem bq.mono (hs:∀b o,F b=some o->F' b=some o)(h:bq prog w aD F bs x v):bq prog w aD F' (bs++nb) x v:=h.lift hs pZ (.inl trivial)
theorem aU.mono (hs:∀b o,F b=some o->F' b=some o)(h:aU prog w aD F bs x v):aU prog w aD F' (bs++nb) x v:=h.lift hs pZ (.inl trivial)
theorem bq.length (h:bq prog w aD F bs xs vs):vs.length=xs.length:=by
 induction xs generalizing vs with
 | nil=>refine rE h.inv ?_;rfl
 | cons x xs ih=>refine e2a2 h.inv λzz zz o3 zz h2=>?_;refine rE o3 ?_;exact congrArg Nat.succ (ih h2)
theorem bq.get (h:bq prog w aD F bs xs vs){i:Nat}(hx:xs[i]?=some x):∃v,vs[i]?=some v/\cU prog w aD F bs x v:=by
 induction xs generalizing vs i with
 | nil=>exact bE hx
 | cons y ys ih =>
   refine e2a2 h.inv λv us o2 h1 h2=>?_;refine rE o2 ?_;cases i with
   | zero=>clear ih;refine (bo hx)▸?_;exact (ae _ rfl h1)
   | succ i=>exact ih h2 hx
theorem bq.append (h:bq prog w aD F bs xs vs)(h':bq prog w aD F bs ys us):bq prog w aD F bs (xs++ys) (vs++us):=by
 induction xs generalizing vs with
 | nil=>refine rE h.inv ?_;exact h'
 | cons y ys ih=>refine e2a2 h.inv λzz zz o1 h1 h2=>?_;refine rE o1 ?_;exact .cons h1 (ih h2)
theorem bq.get_none (h:bq prog w aD F bs xs vs){i:Nat}(hx:xs[i]?=none):vs[i]?=none:=by rw [List.getElem?_eq_none_iff] at hx ⊢;rw [h.length];exact hx
end
set_option genInjectivity true in
inductive AO where
 | gone
 | list (xs:List AV)
 | az (kvs:List (Str×AV))
 | sset (S:List Str)
 | inst (c:Addr) (d:Nat)
 | slots (c:Addr) (d:Nat) (vs:List (Option AV))
 | gF (l:AV) (i:Nat)
 | exc (e:Addr) (ob:Obj)
 | eP (f:Option (AV×AV))
 | uset (S:List Str)
 deriving Inhabited
structure AS where
 loc:List (Nat×AV)
 heap:List AO
structure bc where
 prog:Program
 w:World
 aD:Nat->lR
 h₀:Heap
 LB:OsState
 /-- Qp tables in Wv Qp code objects of inner zV are kept,and Qp full names of Ww zV by Wx place in Qp text -/
 tab:Addr->Option (Pos->Str)
section
variable (c:bc)
abbrev bc.V (F:G)(bs:List Addr):AV->Value->Prop:=cU c.prog c.w c.aD F bs
abbrev bc.Vs (F:G)(bs:List Addr):List AV->List Value->Prop:=bq c.prog c.w c.aD F bs
abbrev bc.SV (F:G)(bs:List Addr):List (Str×AV)->List (Str×Value)->Prop:=aU c.prog c.w c.aD F bs
inductive oC (F:G)(bs:List Addr):List (Option AV)->List (Option Value)->Prop
 | nil:oC F bs [] []
 | no {xs vs}:oC F bs xs vs->oC F bs (.none::xs) (.none::vs)
 | yes {x v xs vs}:c.V F bs x v->oC F bs xs vs->oC F bs (.some x::xs) (.some v::vs)
def fA (F:G)(bs:List Addr)(h:Heap)(a:Addr):AO->Prop
 | .gone=>True
 | .list xs=>∃vs,Fz h.get? a vs/\c.Vs F bs xs vs
 | .az kvs=>∃rs,oB (sk c.prog c.w) h.get? a rs/\c.SV F bs kvs rs
 | .sset S=>∃L,jD c.prog c.w h a L/\L.Perm S
 | .uset S=>h.SetOf (sk c.prog c.w) a (λk=>decide (k∈S)) S.length
 | .inst cl d=>∃da,bs[d]?=some da/\h.get? a=some {cls:=.ref cl,dict:=some da,data:=.plain,slots:=#[]}
 | .slots cl d vs=>∃da rs,bs[d]?=some da/\oC c F bs vs rs/\h.get? a=some {cls:=.ref cl,dict:=some da,data:=.plain,slots:=rs.toArray}
 | .gF l i=>∃la,c.V F bs l (.ref la)/\h.get? a=some {cls:=.type "list_iterator",data:=.fields #[.ref la,.int i 0]}
 | .exc e ob=>a=e/\∃vs,h.get? a=some ob/\ob.cls≠.none/\ob.cls≠.type "frame"/\ob.data=.fields vs/\vs[2]?=some .none
 | .eP none=>∃x y,h.get? a=some {cls:=.type "callable_iterator",data:=.fields #[x,y,.bool true]}
 | .eP (some (f,v))=>∃x y,c.V F bs f x/\c.V F bs v y/\h.get? a=some {cls:=.type "callable_iterator",data:=.fields #[x,y,.bool false]}
structure gQ (F:G)(h:Heap):Prop extends OldK c.h₀ h where
 tabs:∀P q,c.tab P=some q->F P=none/\(∃o,c.h₀.get? P=some o)/\∃ps,h.get? P=some {cls:=.none,data:=.fields ps}/\TriplesOk ps.toList /\
  ∀pos v,codeAmong pos ps.toList=some v->∃a o vs t,v=.ref a/\F a=some o/\o.data=.fields vs/\vs[1]?=some (.str (q pos) t)
structure Wd (F:G)(bs:List Addr)(H:List AO)(s:Shared):Prop where
 sub:∀b o,F b=some o->s.heap.get? b=some o
 base:∀b o,c.h₀.get? b=some o->(o.cls≠.none\/b=cStatics)->F b=some o
 old:gQ c F s.heap
 len:bs.length=H.length
 nodup:bs.Nodup
 obj:∀(k:Nat) (a:Addr) (o:AO),bs[k]?=some a->H[k]?=some o->fA c F bs s.heap a o/\(o≠.gone->F a=none)
 there:∀a∈bs,∃o,s.heap.get? a=some o
 os:s.os=c.LB
 gens:s.gens=#[]
 kept:∀a∈bs,∀o,F a=some o->o.cls≠.type "cell"
end
def iI (o o':Obj):Prop:=o'=o\/(o.cls=.type "frame"/\o'.cls=o.cls/\o'.dict=o.dict/\o'.data=o.data)
theorem iI.refl (o:Obj):iI o o:=.inl rfl
theorem iI.trans (x:iI a b)(y:iI b d):iI a d:=by
 (refine aN x (λzW=>?_) (λFA=>?_);clear x;obtain rfl:=zW;rotate_left;refine e0a3 FA λh1 h2 h3 h4=>?_;clear FA;rotate_right)
 . exact y
 . (refine aN y (λIx=>?_) (λFB=>?_);clear y;obtain rfl:=Ix;rotate_left;refine e0a3 FB λk1 k2 k3 k4=>?_;rotate_right)
   . exact .inr (gb h1 h2 h3 h4)
   . exact .inr (gb h1 (k2.trans h2) (k3.trans h3) (k4.trans h4))
theorem iI.data (x:iI a b):b.data=a.data  :=by
 (refine aN x (λIy=>?_) (λFC=>?_);clear x;obtain rfl:=Iy;rotate_left;refine e0a3 FC λzz zz zz h=>?_;rotate_right)
 . rfl
 . exact h
theorem iI.cls (x:iI a b):b.cls=a.cls  :=by
 (refine aN x (λIz=>?_) (λFD=>?_);clear x;obtain rfl:=Iz;rotate_left;refine e0a3 FD λzz h zz zz=>?_;rotate_right)
 . rfl
 . exact h
theorem iI.qa (x:iI a b)(h:a.cls≠.type "frame"):b=a  :=by
 rcases x with rfl | ⟨k,_⟩
 . rfl
 . exact absurd k h
structure Step (own:List Addr)(F:G)(bs:List Addr)(h:Heap)(F':G)(aE:List Addr)(h':Heap):Prop where
 sub:∀b o,F b=some o->F' b=some o
 ext:∃nb,aE=bs++nb/\∀a∈nb,h.get? a=none
 mono:∀b o,h.get? b=some o->∃o',h'.get? b=some o'
 dT:∀b o,h.get? b=some o->b∉own->b∉bs->o.cls≠.none->∃o',h'.get? b=some o'/\iI o o'
 ja:∀b o,F' b=some o->F b=none->h.get? b=none\/b∈bs
theorem Step.refl (own:List Addr)(F:G)(bs:List Addr)(h:Heap):Step own F bs h F bs h :=
 ⟨λzz zz e=>e,(ae [] (by simp) (by simp)),λb o e=>(ck o e),λb o e zz zz zz=>(ae o e (.refl o)),λb o e n=>by lia⟩
theorem Step.trans (x:Step own F bs h F₁ bs₁ h₁)(y:Step own F₁ bs₁ h₁ aX ap ko):Step own F bs h aX ap ko:=by
 refine e1a1 x.ext λnb Qq hn=>?_;obtain rfl:=Qq;refine e1a1 y.ext λwS Qr gW=>?_;refine rE Qr ?_;have new:∀a∈wS,h.get? a=none:=λa ha=>by
  cases e:h.get? a with
  | none=>rfl
  | some o=>refine e1a0 (x.mono _ _ e) λo' e'=>?_;exact bE (aB (aq (gW a ha)) e')
 have off:∀b o,h.get? b=some o->b∉bs->b∉bs++nb:=λb o e n m=>by
  (refine aN (bL m) (λm=>?_) (λm=>?_))
  . exact n m
  . exact bE (aB (aq (hn b m)) e)
 refine ⟨λb o e=>y.sub _ _ (x.sub _ _ e),(ae (nb++wS) (by simp) (λa ha=>(bL ha).elim (hn a) (new a))),λb o e=>?_,λb o e n1 n2 n3=>?_,λb o e n=>?_⟩
 . refine e1a0 (x.mono _ _ e) λo' e'=>?_;exact y.mono _ _ e'
 . refine e1a1 (x.dT b o e n1 n2 n3) λo' e' s1=>?_;refine e1a1 (y.dT b o' e' n1 (off b o e n2) (by refine rE s1.cls ?_;exact n3)) λFE Bm s2=>?_;exact (ae FE Bm (s1.trans s2))
 . cases e1:F₁ b with
   | some o1=>exact x.ja b o1 e1 n
   | none =>
     (refine aN (y.ja b o e e1) (λz=>?_) (λz=>?_))
     . left;cases e2:h.get? b with
       | none=>rfl
       | some o2=>refine e1a0 (x.mono _ _ e2) λo3 e3=>?_;exact bE (aB (aq z) e3)
     . (refine aN (bL z) (λz=>?_) (λz=>?_))
       . exact .inr z
       . exact .inl (hn b z)
theorem Step.widen (x:Step own F bs h F' aE h')(ho:∀a∈own,a∈own'\/h.get? a=none):Step own' F bs h F' aE h' :=
 ⟨x.sub,x.ext,x.mono,λb o e n1 n2 n3=>x.dT b o e (λm=>(ho b m).elim n1 λz=>by lia) n2 n3,x.ja⟩
theorem Step.fresh (x:Step own F bs h F' aE h'):∃nb,aE=bs++nb:=e1a1 x.ext λnb e zz=>(ck nb e)
section
variable {c:bc}{own:List Addr}{F F':G}{bs aE:List Addr}{h h':Heap}
theorem Step.V (x:Step own F bs h F' aE h')(hv:c.V F bs a v):c.V F' aE a v:=by refine e1a1 x.ext λnb FF zz=>?_;refine rE FF ?_;exact cU.mono x.sub hv
theorem Step.Vs (x:Step own F bs h F' aE h')(hv:c.Vs F bs a v):c.Vs F' aE a v:=by refine e1a1 x.ext λnb IA zz=>?_;refine rE IA ?_;exact bq.mono x.sub hv
end
structure Cx where
 env:Env
 own:List Addr
 frames:List Env
 handled:Option Value
 n:Nat
 vars:List Str
inductive LC (h:Heap)(e:Env):Prop
 | mk (L:Addr) (o:Obj) (h1:e.frame=some L) (h2:h.get? L=some o) (h3:o.cls=.type "frame"/\∀vs,o.data≠.fields vs)
structure gx (h:Heap)(e:Env):Prop where
 kind:e.scope.kind≠.module
 at_:LC h e
structure jW (C:Cx)(A:Around):Prop where
 handled:A.handled=C.handled
 depth:A.depth+C.n < recursionLimit
 units:A.units+20*C.n < cLine
 frames:A.frames=some C.frames
inductive Hi (c:bc)(env:Env)(F:G)(bs:List Addr)(h:Heap)(x:Str)(v:AV):Prop
 | mk (a:Addr) (o:Obj) (r:Value) (h1:env.cells.lookup x=some a) (h2:h.get? a=some o) (h3:o.data=.cell (some r)/\c.V F bs v r)
inductive IB (h:Heap)(a:Addr):Prop
 | mk (o:Obj) (h1:h.get? a=some o) (h2:o.cls=.type "cell"/\∃v,o.data=.cell v)
inductive kq (c:bc)(env:Env)(F:G)(bs:List Addr)(h:Heap)(m:Str->Option Value)(x:Str)(v:AV):Prop
 | loc (hk:env.kindOf x=some .local) (r:Value) (h1:m x=some r) (h2:c.V F bs v r)
 | cell (hk:env.kindOf x=some .cell\/env.kindOf x=some .free) (w:Hi c env F bs h x v)
def iY (c:bc)(C:Cx)(F:G)(bs:List Addr)(h:Heap)(m:Str->Option Value)(i:Nat)(v:AV):Prop:=∃x,C.vars[i]?=some x/\kq c C.env F bs h m x v
def Seal (C:Cx)(F:G):Prop:=C.env.func≠none->∀x a,C.env.cells.lookup x=some a->a∈C.own\/∃o r,F a=some o/\o.data=.cell (some r)
theorem Seal.mono (z:Seal C F)(hs:∀b o,F b=some o->F' b=some o):Seal C F':=λh x a e=>(z h x a e).imp id λQs=>e2a1 Qs λo r e1 e2=>(eO o r (hs _ _ e1) e2)
structure St (c:bc)(C:Cx)(F:G)(bs:List Addr)(S:AS)(s:Shared):Prop where
 wd:Wd c F bs S.heap s
 locs:∃m,s.heap.Ns C.env.locals m/\∀i v,S.loc.lookup i=some v->iY c C F bs s.heap m i v
 gG:∃o,s.heap.get? C.env.locals=some o/\o.cls≠.none
 cH:C.env.locals∈C.own
 own:∀a∈C.own,F a=none/\a∉bs/\∃o,s.heap.get? a=some o
 cells:∀x a,C.env.cells.lookup x=some a->a∉bs/\a≠C.env.locals/\IB s.heap a
 apart:∀x y a,C.env.cells.lookup x=some a->C.env.cells.lookup y=some a->x=y
 frames:∀e∈C.frames,gx s.heap e/\∀L,e.frame=some L->F L=none/\L∉bs
 glob:C.env.globals=mainGlobals
 blt:C.env.builtins=builtinsNs
 kind:C.env.scope.kind=.function
 oD:C.vars.Nodup
 gH:Seal C F
section
variable {c:bc}{C:Cx}{F F':G}{bs nb:List Addr}{S:AS}{s s':Shared}{h h':Heap}{a:Addr}{o:AO}
theorem oC.mono (hs:∀b o,F b=some o->F' b=some o)(h:oC c F bs x v):oC c F' (bs++nb) x v:=by
 induction h with
 | nil=>exact .nil
 | no _ ih=>exact .no ih
 | yes hv _ ih=>exact .yes (cU.mono hs hv) ih
theorem fA.at (x:fA c F bs h a o)(e:∀ob,h.get? a=some ob->h'.get? a=some ob):fA c F bs h' a o:=by
 cases o with
 | gone=>trivial
 | list xs=>refine e1a1 x λvs o9 h2=>?_;clear x;refine e1a0 o9 λn h1=>?_;clear o9;exact (ae vs (ck n (e _ h1)) h2)
 | az kvs=>refine e1a1 x λrs o8 h2=>?_;clear x;obtain ⟨es,n,h1,r⟩:=o8;exact (ae rs ⟨es,n,e _ h1,r⟩ h2)
 | sset S=>refine e1a1 x λL o7 r'=>?_;clear x;obtain ⟨ob,es,ep,t,h1,r⟩:=o7;exact (ae L ⟨ob,es,ep,t,e _ h1,r⟩ r')
 | uset S=>refine e4a1 x λob es ep t h1 r=>?_;exact ⟨ob,es,ep,t,(e _ h1),r⟩
 | inst cl d=>refine e1a1 x λda h1 h2=>?_;exact (ae da h1 (e _ h2))
 | slots cl d vs=>refine e2a2 x λda rs h0 h1 h2=>?_;exact (b7 da rs h0 h1 (e _ h2))
 | gF l i=>refine e1a1 x λla h1 h2=>?_;exact (ae la h1 (e _ h2))
 | exc ex ob=>obtain ⟨h0,vs,h1,r⟩:=x;exact (so h0 vs (e _ h1) r)
 | eP f =>
   cases f with
   | none=>refine e2a0 x λu v h1=>?_;exact (xk u v (e _ h1))
   | some f=>refine e2a2 x λu v h1 h2 h3=>?_;exact (b7 u v h1 h2 (e _ h3))
theorem fA.mono (hs:∀b o,F b=some o->F' b=some o)(x:fA c F bs h a o):fA c F' (bs++nb) h a o:=by
 cases o with
 | gone=>trivial
 | list xs=>refine e1a1 x λvs h1 h2=>?_;exact (ae vs h1 (bq.mono hs h2))
 | az kvs=>refine e1a1 x λrs h1 h2=>?_;exact (ae rs h1 (aU.mono hs h2))
 | sset S=>exact x
 | uset S=>exact x
 | inst cl d=>refine e1a1 x λda h1 h2=>?_;exact (ae da (by rw [eN (bN h1).1];exact h1) h2)
 | slots cl d vs=>refine e2a2 x λda rs h0 h1 h2=>?_;exact (b7 da rs (by rw [eN (bN h0).1];exact h0) (h1.mono hs) h2)
 | gF l i=>refine e1a1 x λla h1 h2=>?_;exact (ae la (cU.mono hs h1) h2)
 | exc ex ob=>exact x
 | eP f =>
   cases f with
   | none=>exact x
   | some f=>refine e2a2 x λu v h1 h2 h3=>?_;exact (b7 u v (cU.mono hs h1) (cU.mono hs h2) h3)
theorem kq.mono (hs:∀b o,F b=some o->F' b=some o)(z:kq c env F bs h m x v):kq c env F' (bs++nb) h m x v:=by
 cases z with
 | loc hk r h1 h2=>exact .loc hk r h1 (cU.mono hs h2)
 | cell hk w=>obtain ⟨a,o,r,h1,h2,h3,h4⟩:=w;exact .cell hk ⟨a,o,r,h1,h2,h3,cU.mono hs h4⟩
theorem kq.heap (z:kq c env F bs h m x v)
 (e:∀a o,env.cells.lookup x=some a->h.get? a=some o->∃o',h'.get? a=some o'/\o'.data=o.data):kq c env F bs h' m x v:=by
 cases z with
 | loc hk r h1 h2=>exact .loc hk r h1 h2
 | cell hk w=>obtain ⟨a,o,r,h1,h2,h3,h4⟩:=w;refine e1a1 (e a o h1 h2) λo' e1 e2=>?_;exact .cell hk ⟨a,o',r,h1,e1,e2.trans h3,h4⟩
theorem iY.mono (hs:∀b o,F b=some o->F' b=some o)(z:iY c C F bs h m i v):iY c C F' (bs++nb) h m i v :=
 e1a1 z λx e l=>(ae x e (kq.mono hs l))
theorem iY.heap (z:iY c C F bs h m i v)(e:∀x a o,C.env.cells.lookup x=some a->h.get? a=some o->∃o',h'.get? a=some o'/\o'.data=o.data):iY c C F bs h' m i v :=
 e1a1 z λx e' l=>(ae x e' (l.heap (e x)))
theorem gQ.step_keeps (x:gQ c F h)(k:∀b o,h.get? b=some o->h'.get? b=some o):gQ c F h' :=
 ⟨x.toOldK.step_keeps k,λP q e=>let ⟨h1,h2,ps,h3,h4⟩:=x.tabs P q e;⟨h1,h2,ps,(k _ _ h3),h4⟩⟩
structure bf (c:bc)(F:G)(bs:List Addr)(s s':Shared):Prop where
 keep:∀b o,s.heap.get? b=some o->s'.heap.get? b=some o
 os:s'.os=s.os
 gens:s'.gens=s.gens
theorem Wd.keep (x:Wd c F bs S.heap s)(m:bf c F bs s s'):Wd c F bs S.heap s' :=
 ⟨λb o e=>m.keep _ _ (x.sub b o e),x.base,x.old.step_keeps m.keep,x.len,x.nodup,λk a o e1 e2=>⟨(x.obj k a o e1 e2).1.at λob e=>m.keep _ _ e,(x.obj k a o e1 e2).2⟩,
  λa ha=>e1a0 (x.there a ha) λo e=>(ck o (m.keep _ _ e)),m.os.trans x.os,m.gens.trans x.gens,x.kept⟩
theorem gx.keep (x:gx h e)(k:∀b o,h.get? b=some o->o.cls=.type "frame"->∃o',h'.get? b=some o'/\iI o o'):gx h' e:=by obtain ⟨hk,L,o,h1,h2,h3,h4⟩:=x;refine e1a1 (k L o h2 h3) λo' e1 e2=>?_;exact ⟨hk,L,o',h1,e1,e2.cls.trans h3,λvs=>by rw [e2.data];exact h4 vs⟩
theorem St.keep (x:St c C F bs S s)(m:bf c F bs s s'):St c C F bs S s':=by
 refine e1a1 x.locs λmm hn hl=>?_;refine ⟨x.wd.keep m,(ae mm (hn.keeps m.keep) (λy v e=>(hl y v e).heap λzz a o zz h2=>(ae o (m.keep _ _ h2) rfl))),?_,x.cH,λb hb=>(let ⟨h1,h2,o,h3⟩:=x.own b hb;(pY h1 h2 o (m.keep _ _ h3))),λy a e=>?_,x.apart,λe he=>⟨(x.frames e he).1.keep λb o e zz=>(ae o (m.keep _ _ e) (.refl o)),(x.frames e he).2⟩,x.glob,x.blt,x.kind,x.oD,x.gH⟩
 . refine e1a1 x.gG λo e n=>?_;exact (ae o (m.keep _ _ e) n)
 . obtain ⟨h1,h2,o,h3,h4,h5⟩:=x.cells y a e;exact (aG h1 h2 ⟨o,m.keep _ _ h3,h4,h5⟩)
theorem Step.keep (m:bf c F bs s s'):Step own F bs s.heap F bs s'.heap :=
 ⟨λzz zz e=>e,(ae [] (by simp) (by simp)),λb o e=>(ck o (m.keep _ _ e)),λb o e zz zz zz=>(ae o (m.keep _ _ e) (.refl o)),λb o e n=>by lia⟩
noncomputable def plus (F:G)(a:Addr)(o:Obj):G:=λb=>if b=a then some o else F b
theorem aW (hn:F a=none):∀b o,F b=some o->plus F a ob b=some o:=λb o e=>by delta plus;rw [if_neg λq=>by subst q;rw [hn] at e;cases e];exact e
theorem b9:plus F a ob a=some ob:=by unfold plus;rw [if_pos rfl]
theorem gQ.plus {c:bc}{F:G}{h:Heap}{a:Addr}{ob:Obj}(x:gQ c F h)(hF:F a=none)(ge:∀P q,c.tab P=some q->P≠a):gQ c (plus F a ob) h :=
 ⟨x.toOldK,λP q e=>let ⟨h1,h2,ps,h3,h4,h5⟩:=x.tabs P q e
  (jA (by delta Mine.Internal.plus;rw [if_neg (ge P q e)];exact h1) h2 ps h3 h4 (λpos v ev=>e4a2 (h5 pos v ev) λb o vs t e1 e2 e3=>⟨b,o,vs,t,e1,(aW hF _ _ e2),e3⟩))⟩
theorem gQ.IC (x:gQ c F h)(hn:h.get? a=none):∀P q,c.tab P=some q->P≠a:=λP q e z=>by obtain ⟨_,_,ps,h3,_⟩:=x.tabs P q e;rw [z,hn] at h3;cases h3
theorem gQ.xn (x:gQ c F h)(ha:h.get? a=some ob)(hc:ob.cls≠.none):∀P q,c.tab P=some q->P≠a:=λP q e z=>by obtain ⟨_,_,ps,h3,_⟩:=x.tabs P q e;rw [z,ha] at h3;clear ha;cases h3;exact hc rfl
set_option tactic.hygienic true in
theorem Wd.ja (x:Wd c F bs S.heap s)(m:bf c F bs s s')(hn:s.heap.get? a=none)(ha:s'.heap.get? a=some ob):Wd c (plus F a ob) bs S.heap s':=by
 have hF:F a=none:=by
  cases e:F a with
  | none=>rfl
  | some o=>exact jq (aB (aq (x.sub _ _ e)) hn)
 have y:=x.keep m;refine ⟨λb o e=>?_,λb o e q=>aW hF _ _ (x.base b o e q),y.old.plus hF (x.old.IC hn),y.len,y.nodup,λk b o e1 e2=>⟨?_,λq=>?_⟩,y.there,y.os,y.gens,λb hb o e=>?_⟩
 . unfold plus at e
   split at e
   . rename_i q;clear hF hn;refine rE q ?_;cases e;exact ha
   . exact y.sub _ _ e
 . obtain this:=fA.mono (nb:=[]) (aW (ob:=ob) hF) (y.obj k b o e1 e2).1;simpa using this
 . delta plus
   split
   . rename_i q;clear ha hF;subst q;refine e1a0 (x.there b (ct e1)) λo' e'=>?_;exact bE (aB (aq hn) e')
   . exact (y.obj k b o e1 e2).2 q
 . unfold plus at e
   split at e
   . rename_i q;clear ha hF;subst q;refine e1a0 (x.there b hb) λo' e'=>?_;exact bE (aB (aq hn) e')
   . exact y.kept b hb o e
set_option tactic.hygienic true in
theorem St.ja (x:St c C F bs S s)(m:bf c F bs s s')(hn:s.heap.get? a=none)(ha:s'.heap.get? a=some ob):St c C (plus F a ob) bs S s':=by
 have hF:F a=none:=by
  cases e:F a with
  | none=>rfl
  | some o=>exact jq (aB (aq (x.wd.sub _ _ e)) hn)
 have y:=x.keep m;refine e1a1 y.locs λmm hN hl=>?_;refine ⟨x.wd.ja m hn ha,(ae mm hN (λz v e=>by simpa using iY.mono (nb:=[]) (aW (ob:=ob) hF) (hl z v e))),y.gG,y.cH,λb hb=>⟨?_,(y.own b hb).2⟩,y.cells,y.apart,λe he=>⟨(y.frames e he).1,λL hL=>⟨?_,((y.frames e he).2 L hL).2⟩⟩,y.glob,y.blt,y.kind,y.oD,y.gH.mono (aW hF)⟩
 . delta plus
   split
   . rename_i q;clear hF ha;subst q;obtain ⟨_,_,o,e⟩:=x.own b hb;exact bE (aB (aq hn) e)
   . exact (y.own b hb).1
 . delta plus
   split
   . rename_i q;clear hF ha;subst q;obtain ⟨_,L',o,e1,e2,_⟩:=(x.frames e he).1;obtain rfl:=bo (aB (aq hL) e1);rw [hn] at e2;cases e2
   . exact ((y.frames e he).2 L hL).1
set_option tactic.hygienic true in
theorem Step.frozen (m:bf c F bs s s')(hF:F a=none)(hn:s.heap.get? a=none):Step own F bs s.heap (plus F a ob) bs s'.heap :=
 ⟨aW hF,(ae [] (by simp) (by simp)),λb o e=>(ck o (m.keep _ _ e)),λb o e _ _ _=>(ae o (m.keep _ _ e) (.refl o)),λb o e n=>by
  delta plus at e
  split at e
  . rename_i q;clear hF;subst q;exact .inl hn
  . exact jq (aB (aq e) n)⟩
theorem St.jE (x:St c C F bs S s)(hn:s.heap.get? a=none):F a=none:=by
 cases e:F a with
 | none=>rfl
 | some o=>exact jq (aB (aq (x.wd.sub _ _ e)) hn)
theorem Wd.new (x:Wd c F bs S.heap s)(m:bf c F bs s s')(hn:s.heap.get? a=none)(ha:s'.heap.get? a=some ob)(hr:fA c F (bs++[a]) s'.heap a o):Wd c F (bs++[a]) (S.heap++[o]) s':=by
 have y:=x.keep m;obtain hb:a∉bs:=λq=>by refine e1a0 (x.there a q) λo' e=>?_;exact bE (aB (aq hn) e)
 have hF:F a=none:=by
  cases e:F a with
  | none=>rfl
  | some o=>exact jq (aB (aq (x.sub _ _ e)) hn)
 refine ⟨y.sub,y.base,y.old,by simp [y.len],?_,λk b o' e1 e2=>?_,λb iJ=>?_,y.os,y.gens,λb iJ o e=>(bL iJ).elim (λq=>y.kept b q o e) λq=>by rw [bp q,hF] at e;cases e⟩
 . rw [List.nodup_append];refine (aG y.nodup (by simp) (λp hp q hq e=>?_));rw [bp hq] at e;exact hb (e▸hp)
 . by_cases hk:k < bs.length
   . rw [eN hk] at e1;rw [eN (by rw [<-y.len];exact hk)] at e2;exact ⟨fA.mono (λzz zz e=>e) (y.obj k b o' e1 e2).1,(y.obj k b o' e1 e2).2⟩
   . obtain lS:k=bs.length:=by obtain this:=(bN e1).1;simp at this;exact tH this hk
     clear hk;subst lS;simp at e1;rw [y.len] at e2;simp at e2;subst e1 e2;exact ⟨hr,λzz=>hF⟩
 . rcases bL iJ with q | q
   . exact y.there b q
   . rw [bp q];exact (ck ob ha)
theorem St.new (x:St c C F bs S s)(m:bf c F bs s s')(hn:s.heap.get? a=none)(ha:s'.heap.get? a=some ob)(hr:fA c F (bs++[a]) s'.heap a o) :
 St c C F (bs++[a]) {S with heap:=S.heap++[o]} s':=by
 have y:=x.keep m;have ne:∀b,(∃o,s.heap.get? b=some o)->b≠a:=λb YO=>e1a0 YO λo e q=>by clear hr ha;subst q;rw [hn] at e;cases e
 refine e1a1 y.locs λmm hN hl=>?_;refine ⟨x.wd.new m hn ha hr,(ae mm hN (λz v e=>iY.mono (λzz zz e=>e) (hl z v e))),y.gG,y.cH,λb hb=>(aG ((y.own b hb).1) (λq=>?_) ((y.own b hb).2.2)),λz b e=>⟨λq=>?_,(y.cells z b e).2⟩,y.apart,λe he=>⟨(y.frames e he).1,λL hL=>⟨((y.frames e he).2 L hL).1,λq=>?_⟩⟩,y.glob,y.blt,y.kind,y.oD,y.gH⟩
 . rcases bL q with q | q
   . exact (y.own b hb).2.1 q
   . exact ne b (x.own b hb).2.2 (bp q)
 . rcases bL q with q | q
   . exact (y.cells z b e).1 q
   . obtain ⟨_,_,o',e',_⟩:=x.cells z b e;exact ne b (ck o' e') (bp q)
 . rcases bL q with q | q
   . exact ((y.frames e he).2 L hL).2 q
   . obtain ⟨_,L',o,e1,e2,_⟩:=(x.frames e he).1;obtain rfl:=bo (aB (aq hL) e1);exact ne L (ck o e2) (bp q)
theorem Step.new (m:bf c F bs s s')(hn:s.heap.get? a=none):Step own F bs s.heap F (bs++[a]) s'.heap :=
 ⟨λzz zz e=>e,(ae [a] rfl (λb hb=>by refine rE (bp hb) ?_;exact hn)),λb o e=>(ck o (m.keep _ _ e)),λb o e zz zz zz=>(ae o (m.keep _ _ e) (.refl o)),λb o e n=>by lia⟩
end
section
variable {c:bc}{C:Cx}{F F':G}{bs nb:List Addr}{S:AS}{s s':Shared}{h h':Heap}{a:Addr}{o o':AO}{k:Nat}
structure fG (a:Addr)(s s':Shared):Prop where
 same:∀b,b≠a->∀o,s.heap.get? b=some o->s'.heap.get? b=some o
 there:∃o,s'.heap.get? a=some o
 os:s'.os=s.os
 gens:s'.gens=s.gens
theorem Wd.ia (x:Wd c F bs S.heap s)(hF:F a=none)(hc:∃o,s.heap.get? a=some o/\o.cls≠.none):c.h₀.get? a=none:=by
 cases e:c.h₀.get? a with
 | none=>rfl
 | some rM =>
   refine e1a1 hc λo e1 e2=>?_;by_cases q:rM.cls≠.none\/a=cStatics
   . exact jq (aB (aq (x.base a rM e q)) hF)
   . rcases x.old.old a rM e with z | ⟨_,dZ,_,_,hv,z⟩ | ⟨hq,_⟩
     . clear e;obtain rfl:=bo (aB (aq e1) z);exact absurd (.inl e2) q
     . obtain rfl:=bo (aB (aq e1) z);exact absurd dZ e2
     . exact absurd (.inr hq) q
theorem OldK.su (x:OldK h₀ h)(ha:h₀.get? a=none)(k:∀b,b≠a->∀o,h.get? b=some o->h'.get? b=some o):OldK h₀ h':=by
 have ne:∀b o,h₀.get? b=some o->b≠a:=λb o e q=>by clear k;subst q;rw [ha] at e;cases e
 refine ⟨λb o e=>?_,λb o e=>e1a0 (x.there b o e) λo' e'=>(ck o' (k _ (ne b o e) _ e'))⟩;rcases x.old b o e with z | ⟨t,hc,vs,more,hv,z⟩ | ⟨rfl,hc,⟨o',es,n,u3,r⟩,z⟩
 . exact .inl (k _ (ne b o e) _ z)
 . exact .inr (.inl ⟨t,hc,vs,more,hv,(k _ (ne b o e) _ z)⟩)
 . exact .inr (.inr (gb rfl hc (km o' es n (k _ (ne _ o e) _ u3) r) (λkey=>by rw [OldK.staticOf_congr ((k _ (ne _ o e) _ u3).trans u3.symm) key];exact z key)))
theorem gQ.su (x:gQ c F h)(ha:c.h₀.get? a=none)(k:∀b,b≠a->∀o,h.get? b=some o->h'.get? b=some o):gQ c F h' :=
 ⟨OldK.su x.toOldK ha k,λP q e=>let ⟨h1,⟨o,h2⟩,ps,h3,h4⟩:=x.tabs P q e;⟨h1,(ck o h2),ps,(k _ (λz=>by lia) _ h3),h4⟩⟩
theorem fA.cls (x:fA c F bs h a o)(ho:o≠.gone):∃ob,h.get? a=some ob/\ob.cls≠.none/\ob.cls≠.type "frame":=by
 cases o with
 | gone=>exact absurd rfl ho
 | list xs=>refine e1a1 x λvs o6 h2=>?_;clear x;refine e1a0 o6 λn h1=>?_;clear o6;exact (aH _ h1 (by simp [bx]) (by simp [bx]))
 | az kvs=>refine e1a1 x λrs o5 h2=>?_;clear x;obtain ⟨es,n,h1,r⟩:=o5;exact (aH _ h1 (by simp [bC]) (by simp [bC]))
 | sset S=>refine e1a1 x λL o4 zz=>?_;clear x;obtain ⟨ob,es,ep,t,h1,hc,r⟩:=o4;exact (aH _ h1 (by rw [hc.1];simp) (by rw [hc.1];simp))
 | uset S=>refine e4a2 x λob es ep t h1 hc r=>?_;exact (aH _ h1 (by rw [hc.1];simp) (by rw [hc.1];simp))
 | inst cl d=>refine e1a1 x λda h1 h2=>?_;exact (aH _ h2 (by simp) (by simp))
 | slots cl d vs=>refine e2a2 x λda rs h0 h1 h2=>?_;exact (aH _ h2 (by simp) (by simp))
 | gF l i=>refine e1a1 x λla h1 h2=>?_;exact (aH _ h2 (by simp) (by simp))
 | exc ex ob=>obtain ⟨_,vs,h1,h2,h3,_⟩:=x;exact (aH ob h1 h2 h3)
 | eP f =>
   cases f with
   | none=>refine e2a0 x λu v h1=>?_;exact (aH _ h1 (by simp) (by simp))
   | some f=>refine e2a2 x λu v h1 h2 h3=>?_;exact (aH _ h3 (by simp) (by simp))
theorem fG.wd (x:Wd c F bs S.heap s)(t:fG a s s')(hF:F a=none)(hc:∃ob,s.heap.get? a=some ob/\ob.cls≠.none):(∀b o,F b=some o->s'.heap.get? b=some o)/\gQ c F s'.heap/\∀b∈bs,∃o,s'.heap.get? b=some o:=by
 refine (aG (λb o e=>t.same b (λq=>by clear hc t;subst q;rw [hF] at e;cases e) _ (x.sub b o e)) (gQ.su x.old (x.ia hF hc) t.same) (λb hb=>?_));by_cases q:b=a
 . clear hF hc;subst q;exact t.there
 . refine e1a0 (x.there b hb) λo e=>?_;exact (ck o (t.same b q _ e))
theorem Wd.upd (x:Wd c F bs S.heap s)(t:fG a s s')(hk:bs[k]?=some a)(ho:S.heap[k]?=some o)(hg:o≠.gone)(hr:fA c F bs s'.heap a o'):Wd c F bs (S.heap.set k o') s':=by
 have hF:=(x.obj k a o hk ho).2 hg;refine e1a2 ((x.obj k a o hk ho).1.cls hg) λob e1 e2 zz=>?_;refine e0a2 (t.wd x hF (ae ob e1 e2)) λh1 h2 h3=>?_;refine ⟨h1,x.base,h2,by simp [x.len],x.nodup,λj b q ej eq=>?_,h3,t.os.trans x.os,t.gens.trans x.gens,x.kept⟩;by_cases hj:j=k
 . subst hj;refine (bo (aB (aq hk) ej))▸?_;rw [hX (bN ho).1] at eq;refine (bo eq)▸?_;exact ⟨hr,λzz=>hF⟩
 . rw [ba (λe=>hj e.symm)] at eq;have ne:b≠a:=λe=>hj (by
    clear e1 hF hr t;subst e;exact (List.getElem?_inj (bN ej).1 x.nodup).mp (ej.trans hk.symm))
   exact ⟨(x.obj j b q ej eq).1.at λob e=>t.same b ne _ e,(x.obj j b q ej eq).2⟩
theorem St.su (x:St c C F bs S s)(t:fG a s s')(hL:a≠C.env.locals)(hc:∀y b,C.env.cells.lookup y=some b->b≠a)(hf:∀e∈C.frames,e.frame≠some a)(y:Wd c F bs H' s'):St c C F bs {S with heap:=H'} s':=by
 refine e1a1 x.locs λmm hN hl=>?_;have k:∀b o,b≠a->s.heap.get? b=some o->s'.heap.get? b=some o:=λb o q e=>t.same b q _ e;refine ⟨y,(ae mm ?_ (λz v e=>(hl z v e).heap λx b o e1 e2=>(ae o (k b o (hc x b e1) e2) rfl))),?_,x.cH,λb hb=>?_,λz b e=>?_,x.apart,λe he=>⟨?_,(x.frames e he).2⟩,x.glob,x.blt,x.kind,x.oD,x.gH⟩
 . refine e3a1 hN λo es ep ho r=>?_;exact (km o es ep (k _ _ (Ne.symm hL) ho) r)
 . refine e1a1 x.gG λo e n=>?_;exact (ae o (k _ _ (Ne.symm hL) e) n)
 . obtain ⟨h1,h2,o,h3⟩:=x.own b hb;by_cases q:b=a
   . clear k hf hc hL;subst q;exact (aG h1 h2 t.there)
   . exact (pY h1 h2 o (k _ _ q h3))
 . obtain ⟨h1,h2,o,h3,h4⟩:=x.cells z b e;exact (aG h1 h2 ⟨o,k _ _ (hc z b e) h3,h4⟩)
 . obtain ⟨hk,L,o,h1,h2,h3⟩:=(x.frames e he).1;exact ⟨hk,L,o,h1,k _ _ (λq=>hf e he (q▸h1)) h2,h3⟩
theorem St.upd (x:St c C F bs S s)(t:fG a s s')(hk:bs[k]?=some a)(ho:S.heap[k]?=some o)(hg:o≠.gone)(hr:fA c F bs s'.heap a o'):St c C F bs {S with heap:=S.heap.set k o'} s' :=
 have hm:a∈bs:=ct hk
 x.su t (λe=>(x.own _ x.cH).2.1 (e▸hm)) (λy b e q=>(x.cells y b e).1 (q▸hm)) (λe he q=>((x.frames e he).2 a q).2 hm) (x.wd.upd t hk ho hg hr)
theorem Step.upd (t:fG a s s')(hm:a∈bs\/a∈own):Step own F bs s.heap F bs s'.heap:=by
 refine ⟨λzz zz e=>e,(ae [] (by simp) (by simp)),λb o e=>?_,λb o e n1 n2 zz=>(ae o (t.same b (λq=>?_) _ e) (.refl o)),λb o e n=>by lia⟩
 . by_cases q:b=a
   . clear hm;subst q;exact t.there
   . exact (ck o (t.same b q _ e))
 . clear t;subst q;exact hm.elim n2 n1
set_option tactic.hygienic true in
theorem St.freeze (x:St c C F bs S s)(hk:bs[k]?=some a)(ho:S.heap[k]?=some o)(hg:o≠.gone){ob:Obj}(ha:s.heap.get? a=some ob)(Qt:ob.cls≠.type "cell"):St c C (plus F a ob) bs {S with heap:=S.heap.set k .gone} s:=by
 have hm:a∈bs:=ct hk;have hF:=(x.wd.obj k a o hk ho).2 hg;have kZ:s.heap.get? a=some ob/\ob.cls≠.none:=by refine e1a2 ((x.wd.obj k a o hk ho).1.cls hg) λID e1 e2 _=>?_;obtain rfl:=bo (aB (aq ha) e1);exact ⟨ha,e2⟩
 refine e1a1 x.locs λmm hN hl=>?_;have w:=x.wd;refine ⟨⟨λb q e=>?_,λb q e z=>aW hF _ _ (w.base b q e z),w.old.plus hF (w.old.xn kZ.1 kZ.2),by simp [w.len],w.nodup,λj b q ej eq=>?_,w.there,w.os,w.gens,λb hb o e=>(by unfold plus at e;split at e;(· cases e;exact Qt);(· exact w.kept b hb o e))⟩,(ae mm hN (λz v e=>by simpa using iY.mono (nb:=[]) (aW (ob:=ob) hF) (hl z v e))),x.gG,x.cH,λb hb=>⟨?_,(x.own b hb).2⟩,x.cells,x.apart,λe he=>⟨(x.frames e he).1,λL hL=>⟨?_,((x.frames e he).2 L hL).2⟩⟩,x.glob,x.blt,x.kind,x.oD,x.gH.mono (aW hF)⟩
 . unfold plus at e
   split at e
   . rename_i z;cases z;cases e;exact ha
   . exact w.sub _ _ e
 . by_cases hj:j=k
   . clear hk;subst hj;rw [hX (bN ho).1] at eq;obtain rfl:=bo eq;exact ⟨trivial,λz=>absurd rfl z⟩
   . replace eq:=(ba (λe=>hj e.symm))▸eq;obtain ne:b≠a:=λe=>hj (by subst e;exact (List.getElem?_inj (bN ej).1 w.nodup).mp (ej.trans hk.symm));refine ⟨by simpa using fA.mono (nb:=[]) (aW (ob:=ob) hF) (w.obj j b q ej eq).1,λz=>?_⟩;delta plus;rw [if_neg ne];exact (w.obj j b q ej eq).2 z
 . delta plus;rw [if_neg (λ(z:b=a)=>(x.own b hb).2.1 (z▸hm))];exact (x.own b hb).1
 . delta plus;rw [if_neg (λ(z:L=a)=>((x.frames e he).2 L hL).2 (z▸hm))];exact ((x.frames e he).2 L hL).1
set_option tactic.hygienic true in
theorem Step.freeze (hm:a∈bs)(hF:F a=none):Step own F bs h (plus F a ob) bs h :=
 ⟨aW hF,(ae [] (by simp) (by simp)),λb o e=>(ck o e),λb o e _ _ _=>(ae o e (.refl o)),λb o e n=>by
  delta plus at e
  split at e
  . rename_i q;clear hF;subst q;exact .inr hm
  . exact jq (aB (aq e) n)⟩
theorem St.after (x:St c C F bs S s){own:List Addr}(st:Step own F bs s.heap F' aE s'.heap)(hn:∀b∈own,s.heap.get? b=none)(y:Wd c F' aE H' s'):St c C F' aE {S with heap:=H'} s':=by
 refine e1a1 st.ext λnb o3 K5=>?_;obtain rfl:=o3;refine e1a1 x.locs λmm hN hl=>?_;obtain off:∀b o,s.heap.get? b=some o->b∉own:=λb o e q=>by exact bE (aB (aq (hn b q)) e)
 have xo:∀b o,s.heap.get? b=some o->b∉bs->b∉bs++nb:=λb o e q z=>by
  rcases bL z with z | z
  . exact q z
  . exact bE (aB (aq (K5 b z)) e)
 have Bn:∀b o,s.heap.get? b=some o->b∉bs->F b=none->F' b=none:=λb o e q z=>by
  cases e':F' b with
  | none=>rfl
  | some o' =>
    rcases st.ja b o' e' z with y | y
    . exact bE (aB (aq y) e)
    . exact absurd y q
 have p:∀b o,s.heap.get? b=some o->b∉bs->o.cls≠.none->∃o',s'.heap.get? b=some o'/\iI o o':=λb o e q z=>st.dT b o e (off b o e) q z;obtain hL:=(x.own _ x.cH).2.1;refine e1a1 x.gG λoL eL nL=>?_;refine e1a1 (p _ oL eL hL nL) λFk Bq sL=>?_;refine ⟨y,(ae mm ?_ (λz v e=>?_)),(ae Fk Bq (by rw [sL.cls];exact nL)),x.cH,λb hb=>?_,λz b e=>?_,x.apart,λe he=>⟨?_,λL rN=>?_⟩,x.glob,x.blt,x.kind,x.oD,x.gH.mono st.sub⟩
 . refine e3a2 hN λo es ep ho hd r=>?_;obtain rfl:=bo (aB (aq eL) ho);exact (gw Fk es ep Bq (sL.data.trans hd) r)
 . refine iY.mono st.sub ((hl z v e).heap λy b o e1 e2=>?_);obtain ⟨h1,h2,o2,h3,h4,_⟩:=x.cells y b e1;obtain rfl:=bo (aB (aq e2) h3);refine e1a1 (p b o e2 h1 (by rw [h4];simp)) λo' e' s1=>?_;exact (ae o' e' s1.data)
 . obtain ⟨h1,h2,o,h3⟩:=x.own b hb;exact (aG (Bn b o h3 h2 h1) (xo b o h3 h2) (st.mono _ _ h3))
 . obtain ⟨h1,h2,o,h3,h4,v,h5⟩:=x.cells z b e;refine e1a1 (p b o h3 h1 (by rw [h4];simp)) λo' e' s1=>?_;exact (aG (xo b o h3 h1) h2 ⟨o',e',s1.cls.trans h4,v,s1.data.trans h5⟩)
 . obtain ⟨hk,L,o,h1,h2,h3,h4⟩:=(x.frames e he).1;refine e1a1 (p L o h2 ((x.frames e he).2 L h1).2 (by rw [h3];simp)) λo' e' s1=>?_;exact ⟨hk,L,o',h1,e',s1.cls.trans h3,λvs=>by rw [s1.data];exact h4 vs⟩
 . obtain ⟨hk,L',o,h1,h2,h3,h4⟩:=(x.frames e he).1;obtain rfl:=bo (aB (aq rN) h1);obtain this:=(x.frames e he).2 L rN;exact ⟨Bn L o h2 this.2 this.1,xo L o h2 this.2⟩
end
noncomputable def bY:List (Nat×AV)->Nat->AV->List (Nat×AV)
 | [],y,v=>[(y,v)]
 | (z,u)::l,y,v=>match z==y with
   | true=>(z,v)::l
   | false=>(z,u)::bY l y v
theorem aC (l:List (Nat×AV))(y:Nat)(v:AV)(z:Nat):(bY l y v).lookup z=if z=y then some v else l.lookup z:=by
 induction l with
 | nil =>
   delta bY;by_cases h:z=y
   . subst h;simp [List.lookup]
   . simp only [List.lookup,if_neg h];obtain this:(z==y)=false:=by simpa using h
     simp only [this]
 | cons p l ih =>
   obtain ⟨k,u⟩:=p;dsimp only [bY];cases hk:k==y with
   | true =>
     obtain lS:k=y:=by simpa using hk
     refine lS▸?_;by_cases h:z=k
     . clear ih hk;clear lS;subst h;simp [List.lookup]
     . obtain this:(z==k)=false:=by simpa using h
       simp only [List.lookup,this,if_neg h]
   | false =>
     have lS:¬k=y:=by simpa using hk
     simp only [List.lookup];cases hz:z==k with
     | true =>
       obtain Fo:z=k:=by simpa using hz
       clear hk hz;subst Fo;simp [lS]
     | false=>exact ih
noncomputable abbrev AS.put (S:AS)(i:Nat)(v:AV):AS:={S with loc:=bY S.loc i v}
theorem vA {l:List Str}(h:l.Nodup){i j:Nat}(hi:l[i]?=some x)(hj:l[j]?=some x):i=j :=
 (List.getElem?_inj (bN hi).1 h).mp (hi.trans hj.symm)
section
variable {c:bc}{C:Cx}{F F':G}{bs nb:List Addr}{S:AS}{s s':Shared}{a:Addr}{x:Str}{v:AV}{r:Value}
theorem St.CB (z:St c C F bs S s)(hi:C.vars[i]?=some x)(hk:C.env.kindOf x=some .local)(hv:c.V F bs v r)
 (hm:∀m,s.heap.Ns C.env.locals m->h'.Ns C.env.locals (λy=>if y=x then some r else m y)) (hs:Heap.SameBut C.env.locals s.heap h') (he:s'.heap=h') (ho:s'.os=s.os) (hg:s'.gens=s.gens)
 (dZ:∃o,h'.get? C.env.locals=some o/\o.cls≠.none/\∀rM,s.heap.get? C.env.locals=some rM->o.cls=rM.cls/\∀vs,o.data≠.fields vs):St c C F bs (S.put i v) s':=by
 subst he;refine e1a1 z.locs λm hN hl=>?_;have keep:∀b o,b≠C.env.locals->s.heap.get? b=some o->s'.heap.get? b=some o:=λb o q e=>(hs.2 b q).trans e;obtain vB:=z.own _ z.cH;have T:fG C.env.locals s s':=⟨λb q o e=>keep b o q e,e1a1 dZ λo e zz=>(ck o e),ho,hg⟩
 obtain hw:=T.wd z.wd vB.1 z.gG;refine ⟨⟨hw.1,z.wd.base,hw.2.1,z.wd.len,z.wd.nodup,λk b o e1 e2=>⟨(z.wd.obj k b o e1 e2).1.at λob e=>keep b ob (λq=>vB.2.1 (q▸ct e1)) e,(z.wd.obj k b o e1 e2).2⟩,hw.2.2,ho.trans z.wd.os,hg.trans z.wd.gens,z.wd.kept⟩,
  (ae _ (hm m hN) (λy u e=>?_)),?_,z.cH,λb hb=>?_,λy b e=>?_,z.apart,λe he=>⟨?_,(z.frames e he).2⟩,z.glob,z.blt,z.kind,z.oD,z.gH⟩
 . rw [show (S.put i v).loc=bY S.loc i v from rfl,aC] at e;by_cases q:y=i
   . subst q;obtain rfl:=bo (aB (aq (if_pos rfl)) e);refine (ae x hi ?_);exact .loc hk r (if_pos rfl) hv
   . rw [if_neg q] at e;refine e1a1 (hl y u e) λx' kr w=>?_;obtain q':x'≠x:=λe=>q (vA z.oD (e▸kr) hi);refine (ae x' kr ?_);cases w with
     | loc hk r' h1 h2=>exact .loc hk r' ((if_neg q').trans h1) h2
     | cell hk w=>obtain ⟨b,o,r',h1,h2,h3⟩:=w;exact .cell hk ⟨b,o,r',h1,keep b o (z.cells x' b h1).2.1 h2,h3⟩
 . refine e1a2 dZ λo e n zz=>?_;exact (ae o e n)
 . obtain ⟨h1,h2,o,h3⟩:=z.own b hb;by_cases q:b=C.env.locals
   . clear h3 hb;subst q;exact (aG h1 h2 T.there)
   . exact (pY h1 h2 o (keep b o q h3))
 . obtain ⟨h1,h2,o,h3,h4⟩:=z.cells y b e;exact (aG h1 h2 ⟨o,keep b o h2 h3,h4⟩)
 . obtain ⟨lS,L,o,h1,h2,h3,h4⟩:=(z.frames e he).1;by_cases q:L=C.env.locals
   . subst q;refine e1a2 dZ λo' e' n hd=>?_;exact ⟨lS,_,o',h1,e',(hd o h2).1.trans h3,(hd o h2).2⟩
   . exact ⟨lS,L,o,h1,keep L o q h2,h3,h4⟩
theorem St.setCell (z:St c C F bs S s)(hi:C.vars[i]?=some x)(hk:C.env.kindOf x=some .cell)(hc:C.env.cells.lookup x=some a)(hF:F a=none)(hv:c.V F bs v r)(h0:s.heap.get? a=some rM)
 (Qu:h'.get? a=some {rM with data:=.cell (some r)}) (hs:Heap.SameBut a s.heap h') (he:s'.heap=h') (ho:s'.os=s.os) (hg:s'.gens=s.gens):St c C F bs (S.put i v) s':=by
 subst he;refine e1a1 z.locs λm hN hl=>?_;have keep:∀b o,b≠a->s.heap.get? b=some o->s'.heap.get? b=some o:=λb o q e=>(hs.2 b q).trans e;obtain ⟨u4,K6,oa,K7,Bs,va,IE⟩:=z.cells x a hc;clear IE;obtain rfl:=bo (aB (aq h0) K7);obtain Wy:C.env.locals≠a:=Ne.symm K6;have T:fG a s s':=⟨λb q o e=>keep b o q e,(ck _ Qu),ho,hg⟩
 obtain hw:=T.wd z.wd hF (ae rM h0 (by refine rE Bs ?_;simp));refine ⟨⟨hw.1,z.wd.base,hw.2.1,z.wd.len,z.wd.nodup,λk b o e1 e2=>⟨(z.wd.obj k b o e1 e2).1.at λob e=>keep b ob (λq=>u4 (q▸ct e1)) e,(z.wd.obj k b o e1 e2).2⟩,hw.2.2,ho.trans z.wd.os,hg.trans z.wd.gens,z.wd.kept⟩,
  (ae m ?_ (λy u e=>?_)),?_,z.cH,λb hb=>?_,λy b e=>?_,z.apart,λe he=>⟨?_,(z.frames e he).2⟩,z.glob,z.blt,z.kind,z.oD,z.gH⟩
 . refine e3a1 hN λo es ep e rr=>?_;exact (km o es ep (keep _ _ Wy e) rr)
 . rw [show (S.put i v).loc=bY S.loc i v from rfl,aC] at e;by_cases q:y=i
   . subst q;refine (bo (aB (aq (if_pos rfl)) e))▸?_;refine (ae x hi ?_);exact .cell (.inl hk) ⟨a,_,r,hc,Qu,rfl,hv⟩
   . rw [if_neg q] at e;refine e1a1 (hl y u e) λx' kr w=>?_;obtain q':x'≠x:=λe=>q (vA z.oD (e▸kr) hi);exact (ae x' kr (w.heap λb o e1 e2=>(ae o (keep b o (λw=>q' (z.apart x' x a (w▸e1) hc)) e2) rfl)))
 . refine e1a1 z.gG λo e n=>?_;exact (ae o (keep _ _ Wy e) n)
 . obtain ⟨h1,h2,o,h3⟩:=z.own b hb;by_cases q:b=a
   . clear h3 hb;cases q;exact (aG h1 h2 T.there)
   . exact (pY h1 h2 o (keep b o q h3))
 . obtain ⟨h1,h2,o,h3,h4,h5⟩:=z.cells y b e;by_cases q:b=a
   . clear h3 e;cases q;exact (aG h1 h2 ⟨_,Qu,by assumption,_,rfl⟩)
   . exact (aG h1 h2 ⟨o,keep b o q h3,h4,h5⟩)
 . obtain ⟨lS,L,o,h1,h2,h3,h4⟩:=(z.frames e he).1;obtain q:L≠a:=λq=>by cases q;rw [h0] at h2;clear h4;cases h2;rw [Bs] at h3;simp at h3
   exact ⟨lS,L,o,h1,keep L o q h2,h3,h4⟩
end
structure di (c:bc)(C:Cx)(F:G)(bs:List Addr)(a:Addr):Prop where
 F:F a=none
 bs:a∉bs
 own:a∉C.own
 cells:∀x,C.env.cells.lookup x≠some a
 frames:∀e∈C.frames,e.frame≠some a
noncomputable def gf (x:String):String:=if x="IndexError+" then "IndexError" else if x="StopIteration+" then "StopIteration" else x
inductive LD (c:bc)(C:Cx)(F:G)(bs:List Addr)(h₀ h:Heap)(e:Addr)(vs:Array Value):Prop
 | mk (tb:Addr) (lv:Obj) (nI:Array Value) (L:Addr) (k1:vs[1]?=some (.ref tb)) (k2:h.get? tb=some lv) (k3:lv.cls=.type "traceback") (k4:lv.data=.fields nI) (k5:3 < nI.size) (k6:C.env.frame=some L) (k7:nI[3]?=some (rawInt L)) (k8:tb≠e) (k9:h₀.get? tb=none) (nJ:di c C F bs tb)
inductive Qv (c:bc)(C:Cx)(F:G)(bs:List Addr)(h₀ h:Heap)(x:Value)(cls:String):Prop
 | mk (e:Addr) (ob:Obj) (vs:Array Value) (h1:x=.ref e) (h2:h₀.get? e=none) (h3:h.get? e=some ob) (h4:ob.cls=.type (gf cls)) (h5:ob.data=.fields vs) (h6:vs.size=6/\(gf cls=cls->vs[2]?=some .none)) (h7:di c C F bs e) (h8:vs[1]?=some .none\/LD c C F bs h₀ h e vs)
structure ExcAt (c:bc)(C:Cx)(F:G)(bs:List Addr)(h₀ h:Heap)(x:Value)(cls:String):Prop where
 at_:Qv c C F bs h₀ h x cls
 CC:gf cls≠"frame"
theorem ExcAt.back (z:ExcAt c C F bs h₁ h x cls)(m:∀b o,h₀.get? b=some o->∃o',h₁.get? b=some o'):ExcAt c C F bs h₀ h x cls:=by
 have bk:∀b,h₁.get? b=none->h₀.get? b=none:=λb h2=>by
  cases q:h₀.get? b with
  | none=>rfl
  | some o=>refine e1a0 (m b o q) λo' e'=>?_;exact bE (aB (aq h2) e')
 obtain ⟨e,ob,vs,h1,h2,h3,h4,h5,h6,h7,h8⟩:=z.at_;refine ⟨⟨e,ob,vs,h1,bk e h2,h3,h4,h5,h6,h7,h8.imp id ?_⟩,z.CC⟩;intro o1;obtain ⟨tb,lv,nI,L,k1,k2,k3,k4,k5,k6,k7,k8,k9,nJ⟩:=o1;exact ⟨tb,lv,nI,L,k1,k2,k3,k4,k5,k6,k7,k8,bk tb k9,nJ⟩
inductive WV (c:bc)(C:Cx){α β:Type}(R:G->List Addr->β->α->Prop)(F:G)(bs:List Addr)(h₀:Heap)(K:β->AS->Prop)(r:α)(s':Shared):Prop
 | mk (F':G) (aE:List Addr) (v:β) (S':AS) (st:Step C.own F bs h₀ F' aE s'.heap) (z:St c C F' aE S' s') (hr:R F' aE v r) (hk:K v S')
theorem WV.el {R:G->List Addr->β->α->Prop}{K:β->AS->Prop}{r:α}{Q0:Prop}(Qx:WV c C R F bs h₀ K r s')(k:∀(F':G)(aE:List Addr)(v:β)(S':AS)(st:Step C.own F bs h₀ F' aE s'.heap)(z:St c C F' aE S' s')(hr:R F' aE v r)(hk:K v S'),Q0):Q0:=Qx.casesOn k
inductive WX (c:bc)(C:Cx)(F:G)(bs:List Addr)(h₀:Heap)(X:String->AS->Prop)(x:Value)(s':Shared):Prop
 | mk (F':G) (aE:List Addr) (cls:String) (S':AS) (st:Step C.own F bs h₀ F' aE s'.heap) (z:St c C F' aE S' s') (hx:ExcAt c C F' aE h₀ s'.heap x cls) (hk:X cls S')
def WP (c:bc)(C:Cx)(A:Around){α β:Type}(R:G->List Addr->β->α->Prop)(t:Sem α)(F:G)(bs:List Addr)(s:Shared)(K:β->AS->Prop)(X:String->AS->Prop):Prop :=
 wpAny (model c.prog c.w) A t
  (WV c C R F bs s.heap K)
  (WX c C F bs s.heap X) s
section
variable {c:bc}{C:Cx}{A:Around}{α β γ δ:Type}{R:G->List Addr->β->α->Prop}{R':G->List Addr->δ->γ->Prop}{F:G}{bs:List Addr}{S:AS}{s:Shared}{X X':String->AS->Prop}
theorem WP.pure (z:St c C F bs S s)(hr:R F bs v a)(hk:K v S):WP c C A R (Pure.pure a) F bs s K X :=
 aM ⟨F,bs,v,S,.refl ..,z,hr,hk⟩
theorem WP.bind (h:WP c C A R t F bs s K₁ X)
 (k:∀F₁ bs₁ Z O v r,Step C.own F bs s.heap F₁ bs₁ O.heap->St c C F₁ bs₁ Z O->R F₁ bs₁ v r->K₁ v Z->WP c C A R' (f r) F₁ bs₁ O K X):WP c C A R' (t >>= f) F bs s K X:=by
 refine ah (aQ h (λr O Qw=>Qw.casesOn λF₁ bs₁ v Z st z hr hk=>?_) λzz zz e=>e);refine aQ (k F₁ bs₁ Z O v r st z hr hk) (λr' ac Qy=>Qy.casesOn λaX ap v' aF gM z' IF lS=>?_) λx ac Qz=>Qz.casesOn λaX ap cls aF gM z' hx lS=>?_
 . exact ⟨aX,ap,v',aF,st.trans gM,z',IF,lS⟩
 . exact ⟨aX,ap,cls,aF,st.trans gM,z',hx.back st.mono,lS⟩
theorem WP.mono (h:WP c C A R t F bs s K X)(hk:∀v S,K v S->K' v S)(hx:∀x S,X x S->X' x S):WP c C A R t F bs s K' X' :=
 aQ h (λr O QA=>QA.casesOn λF₁ bs₁ v Z st z hr q=>⟨F₁,bs₁,v,Z,st,z,hr,hk _ _ q⟩) λx O QB=>QB.casesOn λF₁ bs₁ cls Z st z hr q=>⟨F₁,bs₁,cls,Z,st,z,hr,hx _ _ q⟩
theorem WP.re {LE:G->List Addr->δ->α->Prop}(h:WP c C A R t F bs s K X)(hk:∀F bs v r S,R F bs v r->K v S->∃v',LE F bs v' r/\K' v' S):WP c C A LE t F bs s K' X :=
 aQ h (λr O QC=>QC.casesOn λF₁ bs₁ v Z st z hr q=>e1a1 (hk _ _ _ _ _ hr q) λv' a b=>⟨F₁,bs₁,v',Z,st,z,a,b⟩) λzz zz e=>e
theorem WP.holding (h:WP c C A R t F bs s K X):WP c C A R (PySem.holding vs t) F bs s K X:=wpAny_holding h
theorem WP.standAt (h:WP c C A R t F bs s K X):WP c C A R (PySem.standAt p >>= λzz=>t) F bs s K X:=ah (wpAny_standAt h)
theorem WP.rule (h:WP c C A R t F bs s K X):WP c C A R (PySem.rule p >>= λzz=>t) F bs s K X:=ah (wpAny_rule h)
theorem WP.kept (z:St c C F bs S s)
 (h:∀(Q:α->Shared->Prop) (E:Value->Shared->Prop),(∀r s',bf c F bs s s'->(∃v,R F bs v r/\K v S)->Q r s')->wpAny (model c.prog c.w) A t Q E s):WP c C A R t F bs s K X :=
 h _ _ λr s' m QD=>e1a1 QD λv hr hk=>⟨F,bs,v,S,.keep m,z.keep m,hr,hk⟩
end
theorem bf.refl (c:bc)(F:G)(bs:List Addr)(s:Shared):bf c F bs s s:=⟨λzz zz e=>e,rfl,rfl⟩
theorem bf.toks (c:bc)(F:G)(bs:List Addr)(s:Shared)(t:Nat):bf c F bs s {s with toks:=t}:=⟨λzz zz e=>e,rfl,rfl⟩
end Mine.Internal
namespace Mine.Internal
open PySem PyProof.Rows
structure Base (c:bc)(mg mb:Str->Option Value):Prop where
 g:c.h₀.Ns mainGlobals mg
 b:c.h₀.Ns builtinsNs mb
 lim:c.h₀.NoLimit
 IG:∃o,c.h₀.get? sysModules=some o
def Ev (c:bc)(C:Cx)(e:Expr)(S:AS)(K:AV->AS->Prop)(X:String->AS->Prop):Prop :=
 ∀A F bs s,jW C A->St c C F bs S s->WP c C A c.V (eval e C.env) F bs s K X
def Pm (c:bc)(C:Cx)(t:Value->Sem Value)(a:AV)(S:AS)(K:AV->AS->Prop)(X:String->AS->Prop):Prop :=
 ∀A F bs s r,jW C A->St c C F bs S s->c.V F bs a r->WP c C A c.V (t r) F bs s K X
def jF (c:bc)(C:Cx)(t:Value->Value->Sem Value)(a b:AV)(S:AS)(K:AV->AS->Prop)(X:String->AS->Prop):Prop :=
 ∀A F bs s ra rb,jW C A->St c C F bs S s->c.V F bs a ra->c.V F bs b rb->WP c C A c.V (t ra rb) F bs s K X
def xp (c:bc)(C:Cx)(e:Expr)(S:AS)(K:Bool->AS->Prop)(X:String->AS->Prop):Prop :=
 ∀A F bs s,jW C A->St c C F bs S s->WP c C A (λzz zz b r=>r=b) (isTrue e C.env (eval e C.env)) F bs s K X
def Tr (c:bc)(C:Cx)(a:AV)(S:AS)(K:Bool->AS->Prop)(X:String->AS->Prop):Prop :=
 ∀A F bs s r,jW C A->St c C F bs S s->c.V F bs a r->WP c C A (λzz zz b r=>r=b) (truthy r) F bs s K X
section
variable {c:bc}{C:Cx}{S:AS}{K:AV->AS->Prop}{X:String->AS->Prop}{mg mb:Str->Option Value}
theorem St.zX (z:St c C F bs S s)(h:∃o,c.h₀.get? a=some o/\o.cls≠.none):∀o,c.h₀.get? a=some o->s.heap.get? a=some o:=λo e=>by refine e1a1 h λo' e' n=>?_;obtain rfl:=bo (aB (aq e) e');exact z.wd.sub _ _ (z.wd.base _ _ e (.inl n))
theorem Wd.ns (z:Wd c F bs H s)(h:c.h₀.Ns a m)(ge:a≠cStatics):s.heap.Ns a m:=by
 refine e3a2 h λo es ep ho hd r=>?_;rcases z.old.old _ _ ho with e | ⟨_,_,vs,more,hv,_⟩ | ⟨e,_⟩
 . exact (gw o es ep e hd r)
 . replace hv:=hd▸hv;cases hv
 . exact absurd e ge
theorem St.Pn (z:St c C F bs S s)(B:Base c mg mb):s.heap.Ns mainGlobals mg:=by exact z.wd.ns B.g (by decide)
theorem St.YQ (z:St c C F bs S s)(B:Base c mg mb):s.heap.Ns builtinsNs mb:=by exact z.wd.ns B.b (by decide)
theorem Wd.CD (z:Wd c F bs H s)(B:Base c mg mb):s.heap.NoLimit:=by refine e1a1 B.lim λmc Po q=>?_;refine e3a1 Po λo es ep ho r=>?_;clear Po;exact (ae mc (km o es ep (z.sub _ _ (z.base _ _ ho (.inr rfl))) r) q)
theorem St.load (z:St c C F bs S s)(hi:C.vars[i]?=some x)(hv:S.loc.lookup i=some v)(hn:(x==("__classdict__":Str))=false)(q:∀r,c.V F bs v r->Q r s):wpAny (model c.prog c.w) A (loadName C.env x) Q E s:=by
 refine e1a1 z.locs λm hN hl=>?_;refine e1a1 (hl i v hv) λx' kr w=>?_;obtain rfl:=bo (hi.symm.trans kr);cases w with
 | loc hk r h1 h2=>exact wpAny_loadName_local z.kind hk hN h1 (q _ h2)
 | cell hk w =>obtain ⟨a,o,r,h1,h2,h3,h4⟩:=w;exact hk.elim (λhk=>wpAny_loadName_cell z.kind hk h1 (ae o h2 h3) (q _ h4)) λhk=>wpAny_loadName_free z.kind hk h1 (ae o h2 h3) (q _ h4) hn
theorem aa (i:Nat){x:Str}{pos:Pos}{v:AV}(hi:C.vars[i]?=some x)(hv:S.loc.lookup i=some v)(k:K v S)(hd:(x==("__debug__":Str))=false:=by decide +kernel)(hn:(x==("__classdict__":Str))=false:=by decide +kernel):Ev c C (.Name x pos) S K X:=λA F bs s hA z =>
 WP.kept z λQ E q=>wpAny_Name (z.load hi hv hn λr h=>q _ _ (.refl ..) (ae v h k)) hd
theorem ib (B:Base c mg mb){x:Str}{pos:Pos}{v:Value}(hk:C.env.kindOf x=some .globalImplicit)(hv:mg x=some v)(k:K (.raw v) S)(hd:(x==("__debug__":Str))=false:=by decide +kernel):Ev c C (.Name x pos) S K X:=by intro A F bs s hA z;refine WP.kept z λQ E q=>Calls.Name_function_global z.kind hk (Calls.loadGlobal_global (by refine rE z.glob ?_;exact z.Pn B) hv (q _ _ (.refl ..) (ae _ (.raw v) k))) hd
theorem lT (B:Base c mg mb){x:Str}{pos:Pos}{i:Int}{t:Tok}(hk:C.env.kindOf x=some .globalImplicit)(hv:mg x=some (.int i t))(k:K (.int i) S)(hd:(x==("__debug__":Str))=false:=by decide +kernel):Ev c C (.Name x pos) S K X:=by intro A F bs s hA z;refine WP.kept z λQ E q=>Calls.Name_function_global z.kind hk (Calls.loadGlobal_global (by refine rE z.glob ?_;exact z.Pn B) hv (q _ _ (.refl ..) (ae _ (.int i t) k))) hd
theorem bT (B:Base c mg mb){x:Str}{pos:Pos}{v:Value}(hk:C.env.kindOf x=some .globalImplicit)(hg:mg x=none)(hv:mb x=some v)(k:K (.raw v) S)(hd:(x==("__debug__":Str))=false:=by decide +kernel):Ev c C (.Name x pos) S K X:=by intro A F bs s hA z;refine WP.kept z λQ E q=>Calls.Name_function_global z.kind hk (Calls.loadGlobal_builtin (by rw [z.glob];exact z.Pn B) hg (by rw [z.blt];exact z.YQ B) hv (q _ _ (.refl ..) (ae _ (.raw v) k))) hd
theorem bH (k:K (.int i) S):Ev c C (.Constant (.int i) kd pos) S K X:=λA F bs s hA z =>
 WP.kept z λQ E q=>wpAny_Constant_int (q _ _ (.toks ..) (ae _ (.int i _) k))
theorem dj (k:K (.str x) S):Ev c C (.Constant (.str x) kd pos) S K X:=λA F bs s hA z =>
 WP.kept z λQ E q=>wpAny_Constant_str (q _ _ (.toks ..) (ae _ (.str x _) k))
theorem ez (k:K (.bool b) S):Ev c C (.Constant (.bool b) kd pos) S K X:=λA F bs s hA z =>
 WP.kept z λQ E q=>wpAny_Constant_bool (q _ _ (.refl ..) (ae _ (.bool b) k))
theorem eW (k:K .none S):Ev c C (.Constant .none kd pos) S K X:=λA F bs s hA z =>
 WP.kept z λQ E q=>wpAny_Constant_none (q _ _ (.refl ..) (ae _ (.none) k))
@[reducible] def QE (c:bc) (C:Cx) (t:Value->Sem Value) (K:AV->AS->Prop) (X:String->AS->Prop):AV->AS->Prop:=λa S=>Pm c C t a S K X
@[reducible] def LF (c:bc) (C:Cx) (t:Value->Value->Sem Value) (a:AV) (K:AV->AS->Prop) (X:String->AS->Prop):AV->AS->Prop:=λb S=>jF c C t a b S K X
@[reducible] def IH (c:bc) (C:Cx) (r:Expr) (t:Value->Value->Sem Value) (K:AV->AS->Prop) (X:String->AS->Prop):AV->AS->Prop:=λa S=>Ev c C r S (LF c C t a K X) X
@[reducible] def Wz (c:bc) (C:Cx) (K:Bool->AS->Prop) (X:String->AS->Prop):AV->AS->Prop:=λv S=>Tr c C v S K X
theorem ee (h:Ev c C l S (IH c C r (binaryOp op) K X) X):Ev c C (.BinOp l op r pos) S K X:=by intro A F bs s hA z;refine WP.bind (h A F bs s hA z) λF₁ bs₁ Z O a ra al an ha k₁=>?_;refine WP.bind (WP.holding (k₁ A F₁ bs₁ O hA an)) λaX ap aF ac b rb am aJ hb k₂=>?_;exact WP.standAt (wpAny_operating (k₂ A aX ap ac ra rb hA aJ (am.V ha) hb))
theorem tU {l r:Expr}{op:CmpOp}{pos:Pos}(h:Ev c C l S (IH c C r (compareOp op) K X) X)(hm:behindInMarks op r=false:=by rfl):Ev c C (.Compare l [op] [r] pos) S K X:=by
 intro A F bs s hA z;show WP c C A c.V (do compareChain pos (<-eval l C.env) [op] (markedEach [op] [r] (evalEach [r] C.env))) F bs s K X;obtain e:markedEach [op] [r] (evalEach [r] C.env)=[eval r C.env]:=by show [markedBehindIn op r (eval r C.env)]=_;rw [markedBehindIn_of_false hm]
 refine rE e ?_;refine WP.bind (h A F bs s hA z) λF₁ bs₁ Z O a ra al an ha k₁=>?_;refine WP.bind (WP.holding (k₁ A F₁ bs₁ O hA an)) λaX ap aF ac b rb am aJ hb k₂=>?_;exact WP.standAt (wpAny_operating (k₂ A aX ap ac ra rb hA aJ (am.V ha) hb))
theorem bh {l r:Expr}{op:CmpOp}{pos:Pos}{K:Bool->AS->Prop}(h:Ev c C l S (IH c C r (compareOp op) (Wz c C K X) X) X)(hm:behindInMarks op r=false:=by rfl):xp c C (.Compare l [op] [r] pos) S K X:=by
 intro A F bs s hA z;show WP c C A _ (do testChain pos (<-eval l C.env) [op] (markedEach [op] [r] (evalEach [r] C.env))) F bs s K X;obtain e:markedEach [op] [r] (evalEach [r] C.env)=[eval r C.env]:=by show [markedBehindIn op r (eval r C.env)]=_;rw [markedBehindIn_of_false hm]
 refine rE e ?_;refine WP.bind (h A F bs s hA z) λF₁ bs₁ Z O a ra al an ha k₁=>?_;refine WP.bind (WP.holding (k₁ A F₁ bs₁ O hA an)) λaX ap aF ac b rb am aJ hb k₂=>?_;refine WP.standAt (WP.bind (wpAny_operating (k₂ A aX ap ac ra rb hA aJ (am.V ha) hb)) λbi aK aY aP v rv aA a6 hv bn=>?_);exact WP.holding (bn A bi aK aP rv hA a6 hv)
theorem mK (h:Ev c C x S (QE c C (unaryOp op) K X) X):Ev c C (.UnaryOp op x pos) S K X:=by intro A F bs s hA z;refine WP.bind (h A F bs s hA z) λF₁ bs₁ Z O a ra al an ha k₁=>?_;exact WP.standAt (WP.holding (k₁ A F₁ bs₁ O ra hA an ha))
theorem aT {K:Bool->AS->Prop}(k:K b S):Tr c C (.bool b) S K X:=λA F bs s r hA z hv=>by obtain ⟨_,rfl⟩:=hv.inv;exact WP.kept z λQ E q=>wpAny_truthy_bool (q _ _ (.refl ..) (ae b rfl k))
theorem xq (k:K (.int (a+b)) S):jF c C (binaryOp .Add) (.int a) (.int b) S K X:=λA F bs s ra rb hA z ha hb=>by refine e1a0 ha.inv λzz QF=>?_;refine rE QF ?_;refine e1a0 hb.inv λzz QG=>?_;refine rE QG ?_;exact WP.kept z λQ E q=>PyProof.Rows.add_int (q _ _ (.toks ..) (ae _ (.int _ _) k))
theorem II (hm:IntMulOk a b)(k:K (.int (a*b)) S):jF c C (binaryOp .Mult) (.int a) (.int b) S K X:=λA F bs s ra rb hA z ha hb=>by refine e1a0 ha.inv λzz yV=>?_;refine rE yV ?_;refine e1a0 hb.inv λzz xr=>?_;refine rE xr ?_;exact WP.kept z λQ E q=>PyProof.Rows.mul_int (q _ _ (.toks ..) (ae _ (.int _ _) k)) hm
theorem xt (hb:b≠0)(k:K (.int (a.fmod b)) S):jF c C (binaryOp .Mod) (.int a) (.int b) S K X:=λA F bs s ra rb hA z ha iJ=>by refine e1a0 ha.inv λzz yW=>?_;refine rE yW ?_;refine e1a0 iJ.inv λzz yX=>?_;refine rE yX ?_;exact WP.kept z λQ E q=>PyProof.Rows.mod_int hb (q _ _ (.toks ..) (ae _ (.int _ _) k))
theorem IJ (hb:b≠0)(hp:Builtin.divisionGoesByPylong a b=false)(k:K (.int (a.fdiv b)) S):jF c C (binaryOp .FloorDiv) (.int a) (.int b) S K X:=λA F bs s ra rb hA z ha iJ=>by refine e1a0 ha.inv λzz wT=>?_;refine rE wT ?_;refine e1a0 iJ.inv λzz s4=>?_;refine rE s4 ?_;exact WP.kept z λQ E q=>PyProof.Rows.floordiv_int hb (q _ _ (.toks ..) (ae _ (.int _ _) k)) (.inl hp)
theorem CE (hn:0<=n)(IK:n<=1000000)(ha:a.natAbs < 2 ^ 64)(k:K (.int (a ^ n.toNat)) S):jF c C (binaryOp .Pow) (.int a) (.int n) S K X:=λA F bs s ra rb hA z FG iJ=>by refine e1a0 FG.inv λzz u5=>?_;refine rE u5 ?_;refine e1a0 iJ.inv λzz u6=>?_;refine rE u6 ?_;exact WP.kept z λQ E q=>PyProof.Rows.pow_int_small hn IK ha (q _ _ (.toks ..) (ae _ (.int _ _) k))
theorem nK (k:K (.int (-a)) S):Pm c C (unaryOp .USub) (.int a) S K X:=λA F bs s ra hA z ha=>by refine e1a0 ha.inv λzz rO=>?_;refine rE rO ?_;exact WP.kept z λQ E q=>PyProof.Rows.neg_int (q _ _ (.toks ..) (ae _ (.int _ _) k))
theorem jG (hsz:x.length+y.length<=sizeLine)(k:K (.str (x++y)) S):jF c C (binaryOp .Add) (.str x) (.str y) S K X:=λA F bs s ra rb hA z ha hb=>by refine e1a0 ha.inv λzz rP=>?_;refine rE rP ?_;refine e1a0 hb.inv λzz rD=>?_;refine rE rD ?_;exact WP.kept z λQ E q=>PyProof.Rows.add_str (λt' tk=>q _ _ (.toks ..) (ae _ (.str _ _) k)) hsz
theorem xu (k:K (.bool (a==b)) S):jF c C (compareOp .Eq) (.int a) (.int b) S K X:=λA F bs s ra rb hA z ha hb=>by refine e1a0 ha.inv λzz rQ=>?_;refine rE rQ ?_;refine e1a0 hb.inv λzz tz=>?_;refine rE tz ?_;exact WP.kept z λQ E q=>PyProof.Rows.eq_int (q _ _ (.refl ..) (ae _ (.bool _) k))
theorem IL (k:K (.bool (decide (a < b))) S):jF c C (compareOp .Lt) (.int a) (.int b) S K X:=λA F bs s ra rb hA z ha hb=>by refine e1a0 ha.inv λzz rF=>?_;refine rE rF ?_;refine e1a0 hb.inv λzz mo=>?_;refine rE mo ?_;exact WP.kept z λQ E q=>PyProof.Rows.lt_int (q _ _ (.refl ..) (ae _ (.bool _) k))
theorem lU (k:K (.bool (a==b)) S):jF c C (compareOp .Eq) (.str a) (.str b) S K X:=λA F bs s ra rb hA z ha hb=>by refine e1a0 ha.inv λzz o6=>?_;refine rE o6 ?_;refine e1a0 hb.inv λzz o5=>?_;refine rE o5 ?_;exact WP.kept z λQ E q=>PyProof.Rows.eq_str (q _ _ (.refl ..) (ae _ (.bool _) k))
theorem IM (k:K (.bool (a != b)) S):jF c C (compareOp .NotEq) (.str a) (.str b) S K X:=λA F bs s ra rb hA z ha hb=>by refine e1a0 ha.inv λzz o4=>?_;refine rE o4 ?_;refine e1a0 hb.inv λzz o3=>?_;refine rE o3 ?_;exact WP.kept z λQ E q=>PyProof.Rows.ne_str (q _ _ (.refl ..) (ae _ (.bool _) k))
theorem IP (k:K (.bool (a.cps.toList < b.cps.toList)) S):jF c C (compareOp .Lt) (.str a) (.str b) S K X:=λA F bs s ra rb hA z ha hb=>by refine e1a0 ha.inv λzz o2=>?_;refine rE o2 ?_;refine e1a0 hb.inv λzz o1=>?_;refine rE o1 ?_;exact WP.kept z λQ E q=>PyProof.Rows.lt_str (q _ _ (.refl ..) (ae _ (.bool _) k))
end
theorem FH (hn:s.heap.Ns a m)(ho:s.heap.get? a=some o)
 (hQ:∀h' o',h'.Ns a (λx=>if x=name then some v else m x)->Heap.SameBut a s.heap h'->h'.get? a=some o'->o'.cls=o.cls->(∀vs,o'.data≠.fields vs)->Q () {s with heap:=h',toks:=s.toks+1}) :
 wpAny M A (nsSet a name v) Q E s:=by
 refine e3a3 hn λQH es ep Hj hd hk hm=>?_;obtain rfl:=bo (aB (aq ho) Hj);refine ah (ah (wpAny_askSetting (aM ?_)));refine ah (wpAny_mkText ?_);refine ah (wpAny_loadPart (s:={s with toks:=s.toks+1}) ho ?_);refine rE hd ?_;have vC:es.any (·.refKey)=false:=by rw [Array.any_eq_false'];intro e he;refine e2a0 (hk e he) λn t h=>?_;simp [DictEntry.refKey,h]
 have hf:aRefKeyMayBeTheName name es=false:=by rw [aRefKeyMayBeTheName_eq];unfold aRefKeyMayBeTheNameByArray;simp [vC]
 dsimp only;refine rE hf ?_;refine wpAny_updatePart (s:={s with toks:=s.toks+1}) ho ?_;obtain ⟨oc,od,dt,sl⟩:=o;clear Hj;subst hd;have fin:∀u7 Pp,Obj.putName name (if name.cps.isEmpty then 0 else reduceHash (M.w.params.strHash name.cps)) (.str name s.toks) v ⟨oc,od,.dict es ep,sl⟩=⟨oc,od,.dict u7 Pp,sl⟩->StrKeys u7 ->
  (∀x,nsFind u7 x=if x=name then some v else m x) ->
  Q () {s with heap:=s.heap.update a (Obj.putName name (if name.cps.isEmpty then 0 else reduceHash (M.w.params.strHash name.cps)) (.str name s.toks) v),toks:=s.toks+1}:=by
  intro u7 Pp e k f;obtain g:(s.heap.update a (Obj.putName name (if name.cps.isEmpty then 0 else reduceHash (M.w.params.strHash name.cps)) (.str name s.toks) v)).get? a=some ⟨oc,od,.dict u7 Pp,sl⟩:=by refine e▸?_;exact hK _ ho (by rw [e];rfl)
  exact hQ _ _ (fF _ u7 Pp g rfl k f) (Heap.SameBut.update ..) g rfl (λvs q=>by cases q)
 cases hi:es.findIdx? (·.key.isStr name) with
 | some i =>refine fin _ _ (by simp only [Obj.putName_eq,Obj.putNameByArray,hi];rfl) (hk.modify _ _) λx=>?_;rw [<-hm];exact findBy_modify (λn v=>v.isStr n) Value.isStr_inj es name x v i hi
 | none =>
   refine fin _ _ (by simp only [Obj.putName_eq,Obj.putNameByArray,hi];rfl) (hk.push _ _ _ _) λx=>?_;rw [<-hm];refine findBy_push (λn v=>v.isStr n) es name x _ _ v (λy=>?_) hi;show (name==y)=decide (y=name);by_cases h:y=name
   . cases h;simp
   . obtain this:¬name=y:=λe=>h e.symm;simp [h,this]
section
variable {c:bc}{C:Cx}{A:Around}{F:G}{bs:List Addr}{S:AS}{s:Shared}{X:String->AS->Prop}{x:Str}{v:AV}{r:Value}
def bG (C:Cx)(_:G)(x:Str):Prop:=C.env.kindOf x=some .local\/(C.env.kindOf x=some .cell/\∃a,C.env.cells.lookup x=some a/\a∈C.own)
theorem qb (z:St c C F bs S s)(hi:C.vars[i]?=some x)(hx:bG C (λzz=>none) x)(hv:c.V F bs v r){K:Unit->AS->Prop}(k:K () (S.put i v)):WP c C A (λzz zz zz zz=>True) (storeName C.env x r) F bs s K X:=by
 (refine aN hx (λhk=>?_) (λIN=>?_);rotate_left;obtain ⟨hk,a,hc,ho⟩:=IN;rotate_right)
 . refine e1a1 z.locs λm hN hl=>?_;refine e1a1 z.gG λo LG dZ=>?_;obtain hp:(C.env.scope.kind==.class||(C.env.scope.kind==.module&&C.env.locals != C.env.globals))=false:=by refine rE z.kind ?_;rfl
   rw [storeName_local hk hp];refine FH hN LG λh' o' YR hs u3 FI yY=>?_;obtain T:fG C.env.locals s {s with heap:=h',toks:=s.toks+1}:=⟨λb q o e=>(hs.2 b q).trans e,(ck o' u3),rfl,rfl⟩
   refine ⟨F,bs,(),S.put i v,Step.upd T (.inr z.cH),?_,trivial,k⟩;refine z.CB hi hk hv (λm' YS=>?_) hs rfl rfl rfl (aH o' u3 (by refine rE FI ?_;exact dZ) (λrM e=>⟨by lia,yY⟩));refine e3a3 YS λQH WB WC tV QI k₁ lw=>?_;refine e3a3 hN λBu Hk WE tW IO k₂ zY=>?_;obtain rfl:=bo (aB (aq tV) tW);replace IO:=QI▸IO;clear k₂;cases IO;refine e3a3 YR λBT LH LJ nM QJ bn Cd=>?_;exact (fF BT LH LJ nM QJ bn (λy=>by rw [Cd];show (if y=x then some r else m y)=if y=x then some r else m' y;rw [<-zY y,lw y]))
 . obtain ⟨u4,K6,oa,K7,Bs,va,IE⟩:=z.cells x a hc;obtain hF:=(z.own a ho).1;delta WP storeName;simp only [hk,z.kind];refine ah (wpAny_cellOf hc ?_);refine ah (wpAny_load K7 ?_);simp only [IE];refine wpAny_update K7 ?_;obtain g:(s.heap.update a λo=>{o with data:=.cell (some r)}).get? a=some {oa with data:=.cell (some r)}:=hK _ K7 rfl;obtain hs:Heap.SameBut a s.heap (s.heap.update a λo=>{o with data:=.cell (some r)}):=Heap.SameBut.update ..;obtain T:fG a s {s with heap:=s.heap.update a λo=>{o with data:=.cell (some r)}}:=⟨λb q o e=>(hs.2 b q).trans e,(ck _ g),rfl,rfl⟩
   exact ⟨F,bs,(),S.put i v,Step.upd T (.inr ho),z.setCell hi hk hc hF hv K7 g hs rfl rfl rfl,trivial,k⟩
end
inductive sz where
 | next | brk | cont
 | ret (v:AV)
abbrev dU:=String->AS->Prop
abbrev u9:=List AV->AS->Prop
abbrev dC:=AV->AS->Prop
abbrev ip:=sz->AS->Prop
abbrev CF:=Nat->AS->Prop
abbrev dA:=AS->Prop
abbrev sA:=Value->Shared->Prop
abbrev mq:=Shared->Prop
abbrev fV:=Str->Option Value
abbrev eQ:=List (Str×AV)
abbrev fi:=List (Nat×AV)
abbrev CG:=List (Str×Value)
abbrev vD:=List (Option AV)
abbrev ag:=List Str
abbrev aO:=List Addr
abbrev dB:=List AV
abbrev bg:=List AO
abbrev iy:=List Value
abbrev fj:=List Nat
abbrev dM:=List Expr
abbrev fk:=List Stmt
abbrev tX:=Option Value
def jH (c:bc)(F:G)(bs:aO):sz->Flow->Prop
 | .next,f=>f=.next
 | .brk,f=>f=.brk
 | .cont,f=>f=.cont
 | .ret v,f=>∃r,f=.ret r/\c.V F bs v r
def Ex (c:bc)(C:Cx)(ss:fk)(S:AS)(K:ip)(X:dU):Prop :=
 ∀A F bs s,jW C A->St c C F bs S s->WP c C A (jH c) (execs ss C.env) F bs s K X
def nH (c:bc)(C:Cx)(st:Stmt)(S:AS)(K:ip)(X:dU):Prop :=
 ∀A F bs s,jW C A->St c C F bs S s->WP c C A (jH c) (exec st C.env) F bs s K X
@[reducible] def LK (c:bc) (C:Cx) (ss:fk) (K:ip) (X:dU):dA:=λS=>Ex c C ss S K X
def gX:dU:=λzz zz=>False
inductive IQ (c:bc)(F:G)(bs:aO)(h₀:Heap)(K:AV->bg->Prop)(r:Except Value Flow)(s':Shared):Prop
 | mk (F':G) (aE:aO) (v:AV) (H':bg) (rv:Value) (own:aO) (e:r=.ok (.ret rv)) (ho:∀b∈own,h₀.get? b=none) (st:Step own F bs h₀ F' aE s'.heap) (wd:Wd c F' aE H' s') (hv:c.V F' aE v rv) (hk:K v H')
def bz (c:bc)(n:Nat)(fv:Value)(args:dB)(H:bg)(K:AV->bg->Prop):Prop :=
 ∀A F bs s rs fr,A.handled=none->A.depth+n < recursionLimit->A.units+20*n < cLine->A.frames=some fr->(∀e∈fr,gx s.heap e/\∀L,e.frame=some L->F L=none/\L∉bs) ->
  Wd c F bs H s->c.Vs F bs args rs ->
  codeAny (model c.prog c.w) A (.call fv ⟨rs,[]⟩) (IQ c F bs s.heap K) s
@[reducible] def FJ (K:AV->bg->Prop):ip:=λfl S=>match fl with
 | .next=>K .none S.heap
 | .ret v=>K v S.heap
 | _=>False
def mM (c:bc)(fd:FuncData)(args:dB)(binds:eQ):Prop :=
 ∀A F bs H s rs (E:sA) (Q:CG->mq),Wd c F bs H s->c.Vs F bs args rs ->
  (∀F' s' rb,Step [] F bs s.heap F' bs s'.heap->Wd c F' bs H s'->c.SV F' bs binds rb->Q rb s')->wpAny (model c.prog c.w) A (bindArgs fd ⟨rs,[]⟩) Q E s
section
variable {c:bc}{F:G}{bs:aO}
theorem aU.zip {ns:ag}(h:c.Vs F bs xs vs):c.SV F bs (ns.zip xs) (ns.zip vs):=by
 induction ns generalizing xs vs with
 | nil=>exact .nil
 | cons n ns ih =>
   cases xs with
   | nil=>refine rE h.inv ?_;exact .nil
   | cons x xs=>refine e2a2 h.inv λzz zz LN h t=>?_;refine rE LN ?_;exact .cons h (ih t)
noncomputable def Each {α:Type}:Nat->(List α->Prop)->Prop
 | 0,P=>P []
 | n+1,P=>∀a,Each n λl=>P (a::l)
theorem Each.all:∀{P:List α->Prop},Each n P->∀l,l.length=n->P l:=by
 induction n with
 | zero=>intro P h l e;simp only [List.length_eq_zero_iff.mp e];exact h
 | succ n ih =>
   intro P h l e;cases l with
   | nil=>cases e
   | cons a l=>exact ih (h a) l (Nat.succ.inj e)
noncomputable def fdOf (fd:FuncData)(ps:Arguments)(dV:Value):FuncData:={fd with params:=ps,defaults:=dV,kwdefaults:=.none}
theorem yZ (h1:fd.params=ps)(h2:fd.defaults=dV)(h3:fd.kwdefaults=.none):fdOf fd ps dV=fd:=by subst h1 h2;unfold fdOf;rw [<-h3]
def Plain (ps:Arguments)(dV:Value)(ns:ag)(n:Nat):Prop:=∀fd,Each n λrs=>bindArgs (fdOf fd ps dV) ⟨rs,[]⟩=pure (ns.zip rs)
theorem Plain.bind (h:Plain ps dV ns args.length)(h1:fd.params=ps)(h2:fd.defaults=dV)(h3:fd.kwdefaults=.none):mM c fd args (ns.zip args) :=
 λA F bs H s rs E Q wd hv k=>by refine (yZ h1 h2 h3)▸(aq ((h fd).all rs hv.length))▸?_;exact aM (k F s _ (.refl ..) wd (aU.zip hv))
end
structure Opened (C:Cx)(fd:FuncData)(fa:Addr)(n:Nat)(vars:ag):Prop where
 vars:C.vars=vars
 env:∃L,C.env=callEnvC fd L fa
 scope:C.env.scope=fd.scope
 handled:C.handled=none
 n:C.n=n
 frames:∃fr,C.frames=C.env::fr
 cell:∀x,fd.scope.names.lookup x=some .cell->bG C (λzz=>none) x
 code:C.env.code=fd.code
 gH:∀x a,C.env.cells.lookup x=some a->a∈C.own
theorem Opened.kind {n:Nat}{vars:ag}(o:Opened C fd fa n vars)(x:Str):C.env.kindOf x=fd.scope.names.lookup x:=by unfold Env.kindOf;rw [o.scope]
section
variable {c:bc}{C:Cx}{A:Around}{F:G}{bs:aO}{S:AS}{s:Shared}{X:dU}
noncomputable def dp:Nat->eQ->fi->fi
 | _,[],l=>l
 | n,(_,v)::r,l=>dp (n+1) r (bY l n v)
theorem vE (f:Str×Value->PUnit->Sem (ForInStep PUnit))(hf:∀n v u,f (n,v) u=(do storeName C.env n v;pure (.yield ⟨⟩)))(binds:eQ)(n:Nat)(rb:CG)(F:G)(bs:aO)(S:AS)(s:Shared)(K:PUnit->dA)
 (z:St c C F bs S s) (hv:c.SV F bs binds rb) (hi:∀(j:Nat) (p:Str×AV),binds[j]?=some p->C.vars[n+j]?=some p.1) (hs:∀x v,(x,v)∈binds->bG C (λzz=>none) x) (k:K ⟨⟩ {S with loc:=dp n binds S.loc}):WP c C A (λzz zz zz zz=>True) (forIn rb PUnit.unit f) F bs s K X:=by
 induction binds generalizing n rb F bs S s with
 | nil=>refine rE hv.inv ?_;skip;exact WP.pure z trivial k
 | cons p binds ih =>
   refine e2a2 hv.inv λr rb o2 h t=>?_;refine rE o2 ?_;rw [List.forIn_cons,hf];refine WP.bind (R:=λ_ _ (_:PUnit) r=>r=ForInStep.yield PUnit.unit) (K₁:=λzz Z=>Z=S.put n p.2) ?_ λF₁ bs₁ Z O u r' st an hr hk=>?_
   . exact WP.bind (qb z (i:=n) (hi 0 _ rfl) (hs p.1 p.2 (.head _)) h (K:=λzz Z=>Z=S.put n p.2) rfl) λF₁ bs₁ Z O u r' st an hr hk=>WP.pure (v:=PUnit.unit) an rfl hk
   . subst hr hk;have t':c.SV F₁ bs₁ binds rb:=by clear an;refine e1a1 st.ext λnb o1 zz=>?_;refine rE o1 ?_;exact aU.mono st.sub t
     exact ih (n+1) rb F₁ bs₁ (S.put n p.2) O an t' (λj p e=>by rw [Nat.add_right_comm,Nat.add_assoc];exact hi (j+1) p (e)) (λy w m=>hs y w (.tail _ m)) k
end
theorem rR {code:Value}
 (h:wpAny M A (forIn binds PUnit.unit λp zz=>(do storeName (newEnv scope s.heap.objs.size globals (cellsFrom (s.heap.objs.size+1) scope.names []) qual func code none builtins) p.1 p.2;pure (.yield PUnit.unit)))
  (λzz s'=>Q (newEnv scope s.heap.objs.size globals (cellsFrom (s.heap.objs.size+1) scope.names []) qual func code none builtins) s') E {s with heap:=pushCells (s.heap.push {cls:=.type "frame",data:=.dict #[]}) scope.names}) :
 wpAny M A (newFunctionEnv scope globals [] binds qual func code none builtins) Q E s:=by
 skip
 refine ah (wpAny_alloc ?_);refine ah (wpAny_layCells _ (λname kind cells=>by cases LO:kind==NameKind.cell <;> simp [LO]) _ _ _ _ ?_);refine rE (show ({s with heap:=s.heap.push {cls:=.type "frame",data:=.dict #[]}}:Shared).heap.objs.size=s.heap.objs.size+1 from fh ..) ?_;exact ah (aQ h (λzz zz q=>aM q) λzz zz e=>e)
end Mine.Internal
set_option linter.unusedSimpArgs false
namespace Mine.Internal
open PySem PyProof.Rows
noncomputable abbrev gk:Obj:={cls:=.type "cell",data:=.cell none}
set_option tactic.hygienic true in
theorem mN:∀(names:List (Str×NameKind)) (h:Heap) (acc:List (Str×Addr)),(∀x a,(x,a)∈acc->h.get? a=some gk)->∀x a,(x,a)∈cellsFrom h.objs.size names acc->(pushCells h names).get? a=some gk
 | [],_,_,k,x,a,m=>k x a m
 | (y,kd)::r,h,acc,k,x,a,m=>by
   dsimp only [cellsFrom] at m;dsimp only [pushCells]
   split at m
   . rename_i hk;rw [if_pos hk];refine mN r (h.push gk) ((y,h.objs.size)::acc) (λx' a' m'=>?_) x a (by rw [fh];exact m)
     (refine aN (cu m') (λe=>?_) (λm'=>?_))
     . clear m';cases e;exact cT _ rfl
     . exact bU _ (k x' a' m')
   . rename_i hk;rw [if_neg hk];exact mN r h acc k x a m
section
variable {c:bc}{mg mb:fV}
theorem enter (B:Base c mg mb){K:AV->bg->Prop}(vars:ag)(Ch:vars.Nodup)(y0:∀(j:Nat)(p:Str×AV),binds[j]?=some p->vars[j]?=some p.1)
 (hf:c.h₀.get? fa=some o) (IR:o.cls≠.none) (y6:o.data=.func fd) (vF:fd.body=.stmts body)
 (gt:CA c.h₀ fd.code fd.qualname)
 (y7:fd.globals=mainGlobals) (FK:fd.builtins=builtinsNs) (QK:fd.closure=[])
 (hk:fd.scope.kind=.function) (Pq:fd.scope.isCoroutine=false) (FL:fd.scope.isGenerator=false)
 (hb:mM c fd args binds) (IS:∀x v,(x,v)∈binds->fd.scope.names.lookup x=some .local\/fd.scope.names.lookup x=some .cell)
 (h:∀C,Opened C fd fa n vars->Ex c C body ⟨dp 0 binds [],H⟩ (FJ K) gX) :
 bz c (n+1) (.ref fa) args H K:=by
 intro A F bs s rs fr hh hd hu jp ms wd hv;obtain zX:∀b o,c.h₀.get? b=some o->o.cls≠.none->s.heap.get? b=some o:=λb o e q=>wd.sub _ _ (wd.base _ _ e (.inl q));obtain ⟨cc,oc,vs,t,AT,IT,IU,Pr,YT⟩:=gt;refine codeAny_call_function (tL hd) (zX _ _ hf IR) y6 Pq FL vF (jb cc oc vs t AT (zX _ _ IT IU) Pr YT) ?_;refine hb _ F bs H s rs _ _ wd hv λF₁ O rb al vG mt=>?_;rw [QK,y7,FK];refine rR ?_;generalize hL:O.heap.objs.size=L;generalize FM:cellsFrom (L+1) fd.scope.names []=cs;generalize hE:newEnv fd.scope L mainGlobals cs (fd.qualname++".<locals>.") (some fa) fd.code none builtinsNs=env;have eE:env=callEnvC fd L fa:=by rw [<-hE,<-FM];unfold callEnvC;rw [y7,FK]
 obtain CH:env.locals=L:=by rw [<-hE];rfl
 have zZ:env.cells=cs:=by rw [<-hE];rfl
 have z0:env.scope=fd.scope:=by rw [<-hE];rfl
 let C:Cx:=⟨env,L::cs.map (·.2),env::fr,none,n,vars⟩
 generalize bv:({O with heap:=pushCells (O.heap.push {cls:=.type "frame",data:=.dict #[]}) fd.scope.names}:Shared)=ac;have keep:∀b o,O.heap.get? b=some o->ac.heap.get? b=some o:=λb o e=>by rw [<-bv];exact pushCells_keeps _ _ _ _ (bU _ e)
 obtain mv:bf c F₁ bs O ac:=⟨keep,by rw [<-bv],by rw [<-bv]⟩
 have mO:∀b∈C.own,O.heap.get? b=none:=λb iJ=>by
  refine gE ?_;rcases cu iJ with e | m
  . rw [e,hL];exact bu _
  . refine e1a1 (dS m) λp hp o3=>?_;obtain rfl:=o3;have ok:=cellsFrom_ok fd.scope.names (O.heap.push {cls:=.type "frame",data:=.dict #[]}) (L+1) [] ⟨λzz zz hm=>(nomatch hm),List.Pairwise.nil⟩ (by rw [fh,hL];exact bu _);rw [fh,hL,FM] at ok;obtain this:=(ok.empty p.1 p.2 hp).2;rw [hL];exact arith1 this
 have qc:∀x a,(x,a)∈cs->ac.heap.get? a=some gk:=λx a m=>by rw [<-bv];refine mN fd.scope.names (O.heap.push {cls:=.type "frame",data:=.dict #[]}) [] (λzz zz m=>nomatch m) x a ?_;rw [fh,hL,FM];exact m
 have rG:ac.heap.get? L=some {cls:=.type "frame",data:=.dict #[]}:=by rw [<-bv];exact pushCells_keeps _ _ _ _ (hL▸cT _ rfl)
 have QL:∀x y a,cs.lookup x=some a->cs.lookup y=some a->x=y:=λx y a e1 e2=>by have ok:=cellsFrom_ok fd.scope.names (O.heap.push {cls:=.type "frame",data:=.dict #[]}) (L+1) [] ⟨λzz zz hm=>(nomatch hm),List.Pairwise.nil⟩ (by rw [fh,hL];exact bu _);rw [fh,hL,FM] at ok;exact name_of_addr ok.apart (mem_of_lookup e1) (mem_of_lookup e2)
 have jE:∀b,O.heap.get? b=none->F₁ b=none/\b∉bs:=λb e=>by
  refine ⟨?_,λm=>by refine e1a0 (vG.there b m) λo' e'=>?_;exact bE (aB (aq e) e')⟩;cases q:F₁ b with
  | none=>rfl
  | some o'=>exact jq (aB (aq (vG.sub _ _ q)) e)
 obtain z:St c C F₁ bs ⟨[],H⟩ ac:=by
  refine ⟨vG.keep (S:=⟨[],H⟩) mv,(ae (λzz=>none) ?_ nofun),(ae _ (by show ac.heap.get? env.locals=_;rw [CH];exact rG) (by decide)),by show env.locals∈_;rw [CH];exact .head _,λb iJ=>?_,λx a e=>?_,λx y a e1 e2=>?_,λe he=>?_,by show env.globals=_;rw [<-hE];rfl,by show env.builtins=_;rw [<-hE];rfl,by show env.scope.kind=_;rw [z0];exact hk,Ch,λzz x a e=>.inl (.tail _ (dm (ae (x,a) (mem_of_lookup (zZ▸e)) rfl)))⟩
  . show ac.heap.Ns env.locals _;rw [CH];exact (fF _ (#[]) 0 rG rfl (λzz he=>by simp at he) (λzz=>rfl))
  . obtain gW:=mO b iJ;refine (aG ((jE b gW).1) ((jE b gW).2) ?_)
    (refine aN (cu iJ) (λe=>?_) (λm=>?_))
    . exact (ck _ (e▸rG))
    . refine e1a1 (dS m) λp hp o2=>?_;refine o2▸?_;exact (ck _ (qc p.1 p.2 hp))
  . obtain e':cs.lookup x=some a:=by rw [<-zZ];exact e
    obtain m:=mem_of_lookup e';obtain gW:=mO a (.tail _ (dm (ae (x,a) m rfl)));refine (aG ((jE a gW).2) (λq=>?_) ⟨_,qc x a m,rfl,none,rfl⟩);obtain q':a=L:=by rw [<-CH];exact q
    clear CH eE;subst q';obtain this:=qc x a m;rw [rG] at this;simp [gk] at this
  . exact QL x y a (by rw [<-zZ];exact e1) (by rw [<-zZ];exact e2)
  . rcases cu he with e' | he
    . rw [e'];have Pt:env.frame=some L:=by rw [<-hE];rfl
      refine ⟨⟨by rw [z0,hk];simp,L,_,Pt,rG,rfl,nofun⟩,λL' q=>?_⟩;refine (bo (aB (aq Pt) q))▸?_;exact jE L (mO L (.head _))
    . refine e0a1 (ms e he) λf1 f2=>?_;obtain ⟨k1,L',o',e1,e2,e3,e4⟩:=f1;refine e0a1 (f2 L' e1) λq1 q2=>?_;refine e1a1 (al.dT L' o' e2 (by simp) q2 (by rw [e3];simp)) λBu e5 s5=>?_;refine ⟨⟨k1,L',Bu,e1,keep _ _ e5,s5.cls.trans e3,λvs=>by rw [s5.data];exact e4 vs⟩,λQM q=>?_⟩;refine (bo (aB (aq e1) q))▸?_;refine ⟨?_,q2⟩;cases q3:F₁ L' with
      | none=>rfl
      | some BT=>(refine aN (al.ja L' BT q3 q1) (λy=>?_) (λy=>?_))
                 . exact bE (aB (aq y) e2)
                 . exact absurd y q2
 have bd:∀x,fd.scope.names.lookup x=some .cell->bG C (λzz=>none) x:=λx e=>by
  obtain db:(cs.lookup x).isSome=true:=by rw [<-FM];exact PySem.W.cellsFrom_some _ _ _ (.inl e)
  refine e1a0 (Option.isSome_iff_exists.mp db) λa ha=>?_;refine .inr (so (by show env.kindOf x=_;unfold Env.kindOf;rw [z0];exact e) a (by show env.cells.lookup x=_;rw [zZ];exact ha) (.tail _ (dm (ae (x,a) (mem_of_lookup ha) rfl))))
 obtain op:Opened C fd fa n vars:=⟨rfl,(ck L eE),z0,rfl,rfl,(ck fr rfl),bd,by show env.code=_;rw [<-hE];rfl,λx a e=>.tail _ (dm (ae (x,a) (mem_of_lookup (by rw [<-zZ];exact e)) rfl))⟩
 obtain K8:=vE (c:=c) (C:=C) (A:=A.in1) (X:=gX) (λp zz=>(do storeName env p.1 p.2;pure (.yield PUnit.unit))) (λzz zz zz=>rfl) binds 0 rb F₁ bs ⟨[],H⟩ ac (λzz S'=>S'=⟨dp 0 binds [],H⟩) z mt (λj p e=>by rw [Nat.zero_add];exact y0 j p e)
  (λx v m=>(IS x v m).elim (λe=>.inl (by show env.kindOf x=_;unfold Env.kindOf;rw [z0];exact e)) (bd x)) rfl
 have stK:Step C.own F bs s.heap F₁ bs ac.heap:=(al.widen (by simp)).trans (.keep mv);refine aQ K8 (λzz aP QN=>QN.casesOn λbi aK zz aY aA a6 zz nM=>?_) (λzz zz QO=>QO.casesOn λzz zz zz zz zz zz zz q=>q.elim);subst nM;refine ⟨a6.wd.CD B,codeAny_func ?_⟩;obtain body:=h C op (A.deeper env) bi aK aP ⟨hh,by show A.depth+1+n < _;exact pM hd,by show A.units+3+20*n < _;exact tN hu,by show A.frames.map _=_;rw [jp];rfl⟩ a6;refine aQ body (λf ch QP=>QP.casesOn λec ca fl co ce cr CI iZ=>?_) (λzz zz QQ=>QQ.casesOn λzz zz zz zz zz zz zz q=>q.elim);have Hl:∀b∈C.own,s.heap.get? b=none:=λb iJ=>by
  cases q:s.heap.get? b with
  | none=>rfl
  | some o'=>refine e1a0 (al.mono _ _ q) λFE Bm=>?_;exact bE (aB (aq (mO b iJ)) Bm)
 cases fl with
 | next=>refine rE CI ?_;exact ⟨ec,ca,.none,co.heap,_,C.own,rfl,Hl,(stK.trans aA).trans ce,cr.wd,.none,iZ⟩
 | ret v=>refine e1a1 CI λr o1 hr=>?_;clear CI;refine rE o1 ?_;exact ⟨ec,ca,v,co.heap,_,C.own,rfl,Hl,(stK.trans aA).trans ce,cr.wd,hr,iZ⟩
 | brk=>exact iZ.elim
 | cont=>exact iZ.elim
end
def pO (c:bc)(C:Cx)(pos:Pos)(es:dM)(S:AS)(K:u9)(X:dU):Prop :=
 ∀A F bs s,jW C A->St c C F bs S s->WP c C A c.Vs (spliced (backTo pos (starEach es C.env))) F bs s K X
section
variable {c:bc}{C:Cx}{S:AS}{X:dU}{pos:Pos}
theorem bM {K:u9}(k:K [] S):pO c C pos [] S K X:=λA F bs s hA z=>WP.pure z .nil k
@[reducible] def CJ (v:AV) (K:u9):u9:=λvs=>K (v::vs)
@[reducible] def QR (c:bc) (C:Cx) (pos:Pos) (es:dM) (K:u9) (X:dU):dC:=λv S=>pO c C pos es S (CJ v K) X
@[reducible] def QS (K:u9):dC:=λv=>K [v]
@[reducible] def CK (K:dC) (S:AS):AV->bg->Prop:=λv H=>K v {S with heap:=H}
@[reducible] def LP (c:bc) (n:Nat) (f:Value) (K:dC):u9:=λvs S=>bz c n f vs S.heap (CK K S)
theorem aR {e:Expr}{es:dM}{K:u9}(h:Ev c C e S (QR c C pos es K X) X)
 (he:starEach (e::es) C.env=(false,eval e C.env)::starEach es C.env:=by rfl):pO c C pos (e::es) S K X:=by
 intro A F bs s hA z;refine rE he ?_;show WP c C A c.Vs (spliced ((false,eval e C.env)::backTo pos (starEach es C.env))) F bs s K X;refine WP.bind (h A F bs s hA z) λF₁ bs₁ Z O v r al an hv k₁=>?_;refine WP.bind (R:=λ_ _ (_:Unit) x=>x=[r]) (K₁:=λzz S'=>S'=Z) (WP.pure (v:=()) an rfl rfl) λaX ap aF ac zz x am aJ hx tW=>?_;clear an;subst hx tW;refine WP.bind (WP.holding (k₁ A aX ap ac hA aJ)) λbi aK aY aP vs rs aA a6 be bn=>?_;exact WP.pure a6 (.cons (aA.V (am.V hv)) be) bn
theorem aw {e:Expr}{K:u9}(h:Ev c C e S (QS K) X)(he:starEach [e] C.env=[(false,eval e C.env)]:=by rfl):pO c C pos [e] S K X :=
 aR (λA F bs s hA z=>(h A F bs s hA z).mono (λv Z k=>bM k) λzz zz q=>q) he
theorem oE:∀(ts:List (Bool×Sem Value)),(∀x,ts≠[(true,x)])->wpAny M A (spliced ts) (λvs s'=>Q ⟨vs,[]⟩ s') E s->wpAny M A (evalArgs f true ts []) Q E s
 | [],_,h=>by refine ah (aQ h (λvs s' h'=>?_) λzz zz x=>x);refine wpAny_holding ?_;exact ah (aM (ah (aM (aM h'))))
 | (false,x)::r,_,h=>Calls.evalArgs_plain h
 | [(true,x)],n,_=>absurd rfl (n x)
 | (true,x)::y::r,_,h=>by refine ah (aQ h (λvs s' h'=>?_) λzz zz x=>x);refine wpAny_holding ?_;exact ah (aM (ah (aM (aM h'))))
noncomputable def pk:List (Bool×Sem Value)->Bool
 | [a]=>a.1
 | _=>false
theorem ic {es:dM}{f:Value}{K:u9}{A:Around}{F:G}{bs:aO}{s:Shared}(hA:jW C A)(z:St c C F bs S s)(h:pO c C pos es S K X)
 (hl:pk (backTo pos (starEach es C.env))=false:=by rfl):WP c C A (λF bs vs (a:Args)=>a.kw=[]/\c.Vs F bs vs a.pos) (evalArgs f true (backTo pos (starEach es C.env)) []) F bs s K X :=
 oE _ (λzz q=>Iv (hl.symm.trans (congrArg pk q))) (aQ (h A F bs s hA z) (λvs s' q1=>q1.casesOn λF' aE v S' st z' hv k=>⟨F',aE,v,S',st,z',⟨rfl,hv⟩,k⟩) λzz zz e=>e)
def FnAt (c:bc)(fa:Addr):Prop:=∃o fd,c.h₀.get? fa=some o/\o.cls≠.none/\o.data=.func fd
theorem wp_call {K:dC}(hA:jW C A)(hh:C.handled=none)(hn:n<=C.n)(z:St c C F bs S s)(hv:c.Vs F bs args rs)
 (h:bz c n fv args S.heap (CK K S)):WP c C A c.V (call fv rs) F bs s K X:=by
 refine wpAny_call ?_;obtain hd:=hA.depth;obtain hu:=hA.units;refine codeAny_mono (h A F bs s rs C.frames (hA.handled.trans hh) (tj hd hn) (ti hu hn) hA.frames z.frames z.wd hv) λr s' ⟨F',aE,v,H',rv,own,e,gW,st,wd,lG,k⟩=>?_;refine rE e ?_;exact ⟨F',aE,v,{S with heap:=H'},st.widen λa ha=>.inr (gW a ha),z.after st gW wd,lG,k⟩
@[reducible] def YU (c:bc) (C:Cx) (pos:Pos) (args:dM) (n:Nat) (K:dC) (X:dU):dC:=λfv S=>∃fa,fv=.raw (.ref fa)/\FnAt c fa/\pO c C pos args S (LP c n (.ref fa) K) X
theorem jc {f:Expr}{args:dM}{K:dC}{n:Nat}(hh:C.handled=none)(hn:n<=C.n)
 (h:Ev c C f S (YU c C pos args n K X) X)
 (he:eval (.Call f args [] pos) C.env=(do callWith pos (<-eval f C.env) [] (backTo pos (starEach args C.env)) (backToKw pos (keywordEach [] C.env))):=by rfl)
 (hl:pk (backTo pos (starEach args C.env))=false:=by rfl):Ev c C (.Call f args [] pos) S K X:=by
 intro A F bs s hA z;refine rE he ?_;refine WP.bind (h A F bs s hA z) λF₁ bs₁ Z O fv r al an Fp q2=>e1a2 q2 λfa e q5=>e2a2 q5 λo fd ho dZ hd k₁=>?_;clear q2;subst e;obtain ⟨_,rfl⟩:=Fp.inv;refine Calls.callWith_function (o:=o) (fd:=fd) ?_;refine aQ (ic hA an k₁ hl) (λa ac q3=>q3.casesOn λaX ap vs aF am aJ q6=>e0a1 q6 λpt be k₂=>?_) (λzz zz e=>e);obtain ⟨ps,kw⟩:=a;have tY:kw=[]:=pt;refine rE tY ?_;refine ⟨⟨aJ.zX (ae o ho dZ) o ho,hd⟩,?_⟩;refine aQ (wp_call (X:=X) (s:=ac) hA hh hn aJ be k₂) (λv aP q4=>q4.casesOn λbi aK v' aY aA a6 iK bn=>⟨bi,aK,v',aY,am.trans aA,a6,iK,bn⟩) λx aP q5=>q5.casesOn λbi aK v' aY aA a6 iK bn=>⟨bi,aK,v',aY,am.trans aA,a6,iK.back am.mono,bn⟩
end
def xc (c:bc)(C:Cx)(t:Expr)(v:AV)(S:AS)(K:dA)(X:dU):Prop :=
 ∀A F bs s r,jW C A->St c C F bs S s->c.V F bs v r->WP c C A (λ_ _ (_:Unit) (_:Unit)=>True) (assign t C.env r) F bs s (λzz=>K) X
section
variable {c:bc}{C:Cx}{S:AS}{X:dU}{pos:Pos}
theorem wp_bindName {K:Unit->dA}(z:St c C F bs S s)(hi:C.vars[i]?=some x)(hx:bG C (λzz=>none) x)(hv:c.V F bs v r)(k:K () (S.put i v)):WP c C A (λzz zz zz zz=>True) (bindName C.env x r) F bs s K X :=
 wpAny_bindName (qb z hi hx hv k)
theorem au (i:Nat){K:dA}(hi:C.vars[i]?=some x)(hx:bG C (λzz=>none) x)(k:K (S.put i v)):xc c C (.Name x pos) v S K X:=λA F bs s r hA z hv =>
 WP.standAt (wp_bindName z hi hx hv k)
noncomputable def z3 (c:bc)(C:Cx):List (Expr×AV)->AS->dA->dU->Prop
 | [],S,K,_=>K S
 | (t,v)::r,S,K,X=>xc c C t v S (λS'=>z3 c C r S' K X) X
theorem qd (hA:jW C A):∀(ts:dM) (vs:dB) (rs:iy) (F:G) (bs:aO) (S:AS) (s:Shared) (K:dA),ts.length=vs.length->St c C F bs S s->c.Vs F bs vs rs->z3 c C (ts.zip vs) S K X ->
 WP c C A (λ_ _ (_:Unit) (_:Unit)=>True) (assignInOrder (ts.map λt=>assign t C.env) rs) F bs s (λzz=>K) X:=by
 intro ts;induction ts with
 | nil=>intro vs rs F bs S s K hl z hv k;obtain rfl:=List.length_eq_zero_iff.mp hl.symm;refine rE hv.inv ?_;exact WP.pure (v:=()) z trivial k
 | cons t ts ih =>
   intro vs rs F bs S s K hl z hv k;cases vs with
   | nil=>exact absurd hl (Nat.succ_ne_zero _)
   | cons v vs =>refine e2a2 hv.inv λr rs o2 h1 h2=>?_;refine rE o2 ?_;have k':xc c C t v S (λS'=>z3 c C (ts.zip vs) S' K X) X:=k;refine WP.bind (WP.holding (k' A F bs s r hA z h1)) λF₁ bs₁ Z O zz zz al an zz k₁=>?_;exact ih vs rs F₁ bs₁ Z O K (Nat.succ.inj hl) an (al.Vs h2) k₁
theorem sC (hA:jW C A)(hh:C.handled=none)(z:St c C F bs S s)(hv:c.V F bs (.tup xs) r){K:u9}(k:K xs S):WP c C A c.Vs (unpackItems r xs.length none) F bs s K X:=by
 refine e2a2 hv.inv λa vs o1 ht be=>?_;refine rE o1 ?_;obtain LQ:s.heap.IsTuple a vs.toArray:=(dh _ (z.wd.sub _ _ ht) rfl 0 rfl)
 obtain hlen:xs.length=vs.toArray.size:=by skip;exact be.length.symm
 refine rE hlen ?_;refine wpAny_unpackItems_tuple (hA.handled.trans hh) LQ λh' hx=>?_;obtain m:bf c F bs s {s with heap:=h'}:=⟨λb o e=>hx b o (bS (Heap.lt_size e)) e,rfl,rfl⟩
 exact ⟨F,bs,xs,S,.keep m,z.keep m,be,k⟩
theorem gm {ts:dM}{kd:Nat}{xs:dB}{K:dA}(hh:C.handled=none)(hl:ts.length=xs.length)(h:z3 c C (ts.zip xs) S K X)(hp:assignEach ts C.env=ts.map λt=>(false,assign t C.env):=by rfl):xc c C (.Tuple ts kd pos) (.tup xs) S K X:=by
 intro A F bs s r hA z hv;refine WP.standAt ?_;delta unpack;refine rE hp ?_;obtain e1:((ts.map λt=>(false,assign t C.env)).findIdx? (·.1))=none:=by simp
 simp only [e1,fz,List.map_map,hl];refine WP.bind (WP.holding (sC (K:=λvs S'=>vs=xs/\S'=S) hA hh z hv ⟨rfl,rfl⟩)) λF₁ bs₁ Z O vs rs al an be WF=>e0a1 WF λe e'=>?_;clear WF z hv;subst e e';exact qd hA ts vs rs F₁ bs₁ Z O K hl an be h
end
section
variable {c:bc}{C:Cx}{S:AS}{X:dU}{pos:Pos}{K:ip}
@[reducible] def QT (c:bc) (C:Cx) (rest:fk) (K:ip) (X:dU):ip:=λfl S=>match fl with | .next=>Ex c C rest S K X | f=>K f S
@[reducible] def QU (c:bc) (C:Cx) (t:Expr) (K:dA) (X:dU):dC:=λv S=>xc c C t v S K X
@[reducible] def LR (K:dA):dC:=λzz=>K
@[reducible] def QV (K:ip):dC:=λv=>K (.ret v)
@[reducible] def YV (c:bc) (C:Cx) (a b:fk) (K:ip) (X:dU):Bool->dA:=λt S=>if t then Ex c C a S K X else Ex c C b S K X
@[reducible] def putK (i:Nat) (K:ip):dC:=λw S=>K .next (S.put i w)
theorem ax (k:K .next S):Ex c C [] S K X:=λA F bs s hA z=>WP.pure (v:=sz.next) z rfl k
theorem ab {st:Stmt}(h:nH c C st S (QT c C rest K X) X):Ex c C (st::rest) S K X:=by
 intro A F bs s hA z;refine WP.bind (h A F bs s hA z) λF₁ bs₁ Z O fl f al an hf k₁=>?_;cases fl with
 | next=>subst hf;exact k₁ A F₁ bs₁ O hA an
 | brk=>subst hf;exact WP.pure (v:=sz.brk) an rfl k₁
 | cont=>subst hf;exact WP.pure (v:=sz.cont) an rfl k₁
 | ret v=>refine e1a1 hf λr o2 hr=>?_;clear hf;obtain rfl:=o2;exact WP.pure (v:=sz.ret v) an (ae r rfl hr) k₁
theorem mP {st:Stmt}(h:nH c C st S K' X)(hk:∀f S,K' f S->K f S):nH c C st S K X:=λA F bs s hA z=>(h A F bs s hA z).mono hk λzz zz q=>q
theorem tZ {st:fk}(h:Ex c C st S K' X)(hk:∀f S,K' f S->K f S):Ex c C st S K X:=λA F bs s hA z=>(h A F bs s hA z).mono hk λzz zz q=>q
theorem lg {K K':dC}(h:Ev c C e S K' X)(hk:∀f S,K' f S->K f S):Ev c C e S K X:=λA F bs s hA z=>(h A F bs s hA z).mono hk λzz zz q=>q
theorem av {t value:Expr}(h:Ev c C value S (QU c C t (K .next) X) X)
 (hs:swapsWithSole [t] value pos.line C.env=pure false:=by rfl) (hw:swappedStores [t] value C.env=pure none:=by rfl) (hp:assignEach [t] C.env=[(false,assign t C.env)]:=by rfl):nH c C (.Assign [t] value pos) S K X:=by
 intro A F bs s hA z;show WP c C A (jH c) (do
  standAt pos
  if <-swapsWithSole [t] value pos.line C.env then do
   evalThenUse value C.env λv=>assignAll v ((assignEach [t] C.env).map (·.2))
   pure .next
  else do
   let v <-eval value C.env
   assignStores C.env v (<-swappedStores [t] value C.env) ((assignEach [t] C.env).map (·.2))) F bs s K X
 rw [hs,hw,hp];refine WP.standAt ?_;refine WP.bind (R:=λ_ _ (_:Unit) b=>b=false) (K₁:=λzz S'=>S'=S) (WP.pure (v:=()) z rfl rfl) λF₁ bs₁ Z O zz b al an hb tV=>?_;clear z;subst hb tV;refine WP.bind (h A F₁ bs₁ O hA an) λaX ap aF ac v r am aJ hv k₂=>?_;refine WP.bind (R:=λ_ _ (_:Unit) b=>b=none) (K₁:=λzz S'=>S'=aF) (WP.pure (v:=()) aJ rfl rfl) λbi aK aY aP zz b aA a6 hb nM=>?_;clear aJ;subst hb nM;refine WP.bind (k₂ A bi aK aP r hA a6 (aA.V hv)) λec ca co ch zz zz ce cr zz iZ=>?_;exact WP.pure (v:=sz.next) cr rfl iZ
theorem ku {t value:Expr}(ps:List (Nat×Str))(hh:C.handled=none)(bd:∀(i:Nat) x,C.vars[i]?=some x->bG C (λzz=>none) x)(hi:∀p∈ps,C.vars[p.1]?=some p.2)(h:Ev c C value S (λv Z=>∃xs,v=.tup xs/\xs.length=ps.length/\K .next {Z with loc:=(ps.reverse.zip xs.reverse).foldl (λl p=>bY l p.1.1 p.2) Z.loc}) X)
 (hw:swappedStores [t] value C.env=pure (some (ps.map (·.2)))) (hs:swapsWithSole [t] value pos.line C.env=pure false:=by rfl):nH c C (.Assign [t] value pos) S K X:=by
 generalize CL:ps.map (·.2)=names at hw;intro A F bs s hA z;show WP c C A (jH c) (do
  standAt pos
  if <-swapsWithSole [t] value pos.line C.env then do
   evalThenUse value C.env λv=>assignAll v ((assignEach [t] C.env).map (·.2))
   pure .next
  else do
   let v <-eval value C.env
   assignStores C.env v (<-swappedStores [t] value C.env) ((assignEach [t] C.env).map (·.2))) F bs s K X
 rw [hs,hw];refine WP.standAt ?_;refine WP.bind (R:=λ_ _ (_:Unit) b=>b=false) (K₁:=λzz S'=>S'=S) (WP.pure (v:=()) z rfl rfl) λF₁ bs₁ Z O zz b al an hb tV=>?_;subst hb tV;simp only [dQ,if_false];refine WP.bind (h A F₁ bs₁ O hA an) λaX ap aF ac v r am aJ hv QW=>e1a2 QW λxs e hl k₂=>?_;subst e;refine WP.bind (R:=λ_ _ (_:Unit) b=>b=some names) (K₁:=λzz S'=>S'=aF) (WP.pure (v:=()) aJ rfl rfl) λbi aK aY aP zz b aA a6 hb nM=>?_;subst hb nM;show WP c C A (jH c) (do
  rule "assign.swapped-stores"
  let items <-unpackItems r names.length none
  assignInOrder (names.reverse.map λn=>bindName C.env n) items.reverse
  pure .next) bi aK aP K X
 refine WP.rule ?_;have e1:names.length=xs.length:=by rw [<-CL,fz,hl]
 have e2:(names.reverse.map λn=>bindName C.env n)=ps.reverse.map λn=>bindName C.env n.2:=by rw [<-CL,<-List.map_reverse,List.map_map];rfl
 rw [e1,e2];refine WP.bind (sC (K:=λvs S'=>vs=xs/\S'=aY) hA hh a6 (aA.V hv) ⟨rfl,rfl⟩) λec ca co ch vs rs ce cr be QX=>e0a1 QX λe e'=>?_;subst e e';have go:∀(ns:List (Nat×Str)) (ys:dB) (us:iy) (F:G) (bs:aO) (S:AS) (s:Shared),ns.length=ys.length->(∀p∈ns,C.vars[p.1]?=some p.2)->(∀p∈ns,bG C (λzz=>none) p.2)->St c C F bs S s->c.Vs F bs ys us ->
  WP c C A (λ_ _ (_:Unit) (_:Unit)=>True) (assignInOrder (ns.map λn=>bindName C.env n.2) us) F bs s (λzz S'=>S'={S with loc:=(ns.zip ys).foldl (λl p=>bY l p.1.1 p.2) S.loc}) X:=by
  intro ns;induction ns with
  | nil=>intro ys us F bs S s hl _ _ z hv;exact WP.pure (v:=()) z trivial rfl
  | cons n ns ih =>
    intro ys us F bs S s hl hi hs z hv;cases ys with
    | nil=>exact absurd hl (Nat.succ_ne_zero _)
    | cons y ys =>refine e2a2 hv.inv λu us o1 h1 h2=>?_;obtain rfl:=o1;show WP c C A _ (do holding us (bindName C.env n.2 u);assignInOrder (ns.map λn=>bindName C.env n.2) us) F bs s _ X;refine WP.bind (WP.holding (wp_bindName z (hi n (.head _)) (hs n (.head _)) h1 (K:=λzz S'=>S'=S.put n.1 y) rfl)) λF₁ bs₁ Z O zz zz al an zz tV=>?_;subst tV;exact ih ys us F₁ bs₁ _ O (Nat.succ.inj hl) (λx m=>hi x (.tail _ m)) (λx m=>hs x (.tail _ m)) an (al.Vs h2)
 have rev:c.Vs ec ca vs.reverse rs.reverse:=by
  have:∀(a b:dB) (u v:iy),c.Vs ec ca a u->c.Vs ec ca b v->c.Vs ec ca (List.reverseAux a b) (List.reverseAux u v):=by
   intro a;induction a with
   | nil=>intro b u v hu hv;cases hu;exact hv
   | cons x a ih=>intro b u v hu hv;cases hu with | cons h1 h2=>exact ih (x::b) _ (_::v) h2 (.cons h1 hv)
  exact this vs [] rs [] be .nil
 refine WP.bind (go ps.reverse vs.reverse rs.reverse ec ca co ch (by simp [hl]) (λx m=>hi x (by simpa using m)) (λx m=>bd x.1 x.2 (hi x (by simpa using m))) cr rev) λfH eh fY dW zz zz eR fZ zz QY=>?_;subst QY;exact WP.pure (v:=sz.next) fZ rfl k₂
theorem bZ {e:Expr}(h:Ev c C e S (LR (K .next)) X)(hi:interactive C.env=false)(hs:swapsWith e none pos.line C.env=pure false:=by rfl):nH c C (.Expr e pos) S K X:=λA F bs s hA z =>
 wpAny_Expr_any (aQ (h A F bs s hA z) (λr O QZ=>QZ.casesOn λF₁ bs₁ v Z st an hr k=>⟨F₁,bs₁,sz.next,Z,st,an,rfl,k⟩) λzz zz e=>e) hi hs
theorem bj (h:Ev c C e S (QV K) X):nH c C (.Return (some e) pos) S K X:=λA F bs s hA z =>
 wpAny_Return_some (aQ (h A F bs s hA z) (λr O Q1=>Q1.casesOn λF₁ bs₁ v Z st an hr k=>⟨F₁,bs₁,sz.ret v,Z,st,an,(ae r rfl hr),k⟩) λzz zz e=>e)
theorem bP (h:xp c C test S (YV c C body orelse K X) X):nH c C (.If test body orelse pos) S K X:=by
 intro A F bs s hA z;refine WP.standAt (WP.bind (h A F bs s hA z) λF₁ bs₁ Z O b r al an hb k₁=>?_);subst hb;cases r with
 | true=>skip;exact k₁ A F₁ bs₁ O hA an
 | false=>skip;exact k₁ A F₁ bs₁ O hA an
theorem nN (k:K .brk S):nH c C (.Break pos) S K X:=λA F bs s hA z=>WP.standAt (WP.pure (v:=sz.brk) z rfl k)
theorem vH (k:K .cont S):nH c C (.Continue pos) S K X:=λA F bs s hA z=>WP.standAt (WP.pure (v:=sz.cont) z rfl k)
theorem FN (z:St c C F bs S s)(hi:C.vars[i]?=some x)(hv:S.loc.lookup i=some v)(hn:(x==("__classdict__":Str))=false):WP c C A c.V (loadName C.env x) F bs s (λu S'=>u=v/\S'=S) X :=
 WP.kept z λQ E q=>z.load hi hv hn λr h=>q _ _ (.refl ..) (aH v h rfl rfl)
theorem dd (i:Nat){x:Str}{Q2:Pos}{op:Operator}{value:Expr}{old:AV}(hi:C.vars[i]?=some x)(hold:S.loc.lookup i=some old)(bd:bG C (λzz=>none) x)
 (h:Ev c C value S (LF c C (inplaceOp op) old (putK i K) X) X) (hn:(x==("__classdict__":Str))=false:=by decide +kernel):nH c C (.AugAssign (.Name x Q2) op value pos) S K X:=by
 intro A F bs s hA z
 skip
 obtain WG:=FN (A:=A) (X:=X) z hi hold hn;refine WP.standAt (WP.bind WG λF₁ bs₁ Z O v r al an hv LT=>e0a1 LT λe e'=>?_);clear LT WG hold z;subst e e';refine WP.bind (WP.holding (h A F₁ bs₁ O hA an)) λaX ap aF ac b rb am aJ hb k₂=>?_;refine WP.standAt (WP.bind (wpAny_operating (k₂ A aX ap ac r rb hA aJ (am.V hv) hb)) λbi aK aY aP w WH aA a6 hw bn=>?_);refine WP.standAt (WP.bind (wp_bindName a6 hi bd hw (K:=λzz S'=>S'=aY.put i w) rfl) λec ca co ch zz zz ce cr zz Q3=>?_);subst Q3;exact WP.pure (v:=sz.next) cr rfl bn
end
def cm (S:AS)(v:AV)(xs:dB):Prop:=v=.lst xs\/∃k,v=.ref k/\S.heap[k]?=some (.list xs)
section
variable {c:bc}{C:Cx}{S:AS}{F F':G}{bs aE:aO}{s s':Shared}{A:Around}
theorem St.seq (z:St c C F bs S s)(h:cm S v xs)(hv:c.V F bs v r):∃l vs,r=.ref l/\Fz s.heap.get? l vs/\c.Vs F bs xs vs/\(F l≠none\/l∈bs):=by
 (refine aN h (λQ4=>?_) (λLU=>?_);obtain rfl:=Q4;rotate_left;clear h;refine e1a1 LU λk IV hk=>?_;clear LU;obtain rfl:=IV;rotate_right)
 . refine e2a2 hv.inv λzz zz IW h1 h2=>?_;refine rE IW ?_;exact (mJ _ _ rfl (h1.sub z.wd.sub) h2 (.inl (by refine e1a0 h1 λn e=>?_;rw [e];simp)))
 . refine e1a1 hv.inv λzz Q5 h1=>?_;refine rE Q5 ?_;refine e0a1 (z.wd.obj k _ _ h1 hk) λCM zz=>?_;refine e1a1 CM λvs h2 h3=>?_;clear CM;exact (mJ _ vs rfl h2 h3 (.inr (ct h1)))
theorem Fz.isList {g:Heap}(h:Fz g.get? a vs):g.IsList a vs.toArray:=e1a0 h λn e=>(dh _ e rfl n rfl)
theorem di.step {own:aO}(f:di c C F bs a)(st:Step own F bs s.heap F' aE s'.heap)(ho:s.heap.get? a=some o):di c C F' aE a:=by
 refine e1a1 st.ext λnb Q6 hn=>?_;refine rE Q6 ?_;refine ⟨?_,λm=>?_,f.own,f.cells,f.frames⟩
 . cases e:F' a with
   | none=>rfl
   | some o' =>
     rcases st.ja a o' e f.F with y | y
     . exact bE (aB (aq y) ho)
     . exact absurd y f.bs
 . rcases bL m with m | m
   . exact f.bs m
   . exact bE (aB (aq (hn a m)) ho)
structure Other (a:Addr)(s s':Shared):Prop where
 same:∀b,b≠a->∀o,s.heap.get? b=some o->s'.heap.get? b=some o
 os:s'.os=s.os
 gens:s'.gens=s.gens
theorem St.free (z:St c C F bs S s)(t:Other a s s')(f:di c C F bs a)(ho:s.heap.get? a=some o)(hc:o.cls≠.none):St c C F bs S s':=by
 have hL:C.env.locals≠a:=λe=>f.own (e▸z.cH);have k:∀b o,b≠a->s.heap.get? b=some o->s'.heap.get? b=some o:=λb o q e=>t.same b q _ e;have nb:∀b∈bs,b≠a:=λb m q=>f.bs (q▸m);obtain hF:∀b o,F b=some o->b≠a:=λb o e q=>by cases q;rw [f.F] at e;cases e
 refine e1a1 z.locs λmm hN hl=>?_;refine ⟨⟨λb o e=>k b o (hF b o e) (z.wd.sub b o e),z.wd.base,gQ.su z.wd.old (z.wd.ia (S:=S) f.F (ae o ho hc)) t.same,z.wd.len,z.wd.nodup,
  λj b ao e1 e2=>⟨(z.wd.obj j b ao e1 e2).1.at λob e=>k b ob (nb b (ct e1)) e,(z.wd.obj j b ao e1 e2).2⟩,
  λb m=>(e1a0 (z.wd.there b m) λo e=>(ck o (k b o (nb b m) e))),t.os.trans z.wd.os,t.gens.trans z.wd.gens,z.wd.kept⟩,
  (ae mm ?_ (λy v e=>(hl y v e).heap λx b o e1 e2=>(ae o (k b o (λq=>f.cells x (q▸e1)) e2) rfl))),?_,z.cH,λb hb=>?_,λy b e=>?_,z.apart,λe he=>⟨?_,(z.frames e he).2⟩,z.glob,z.blt,z.kind,z.oD,z.gH⟩
 . refine e3a1 hN λo es ep ho r=>?_;exact (km o es ep (k _ _ hL ho) r)
 . refine e1a1 z.gG λo e n=>?_;exact (ae o (k _ _ hL e) n)
 . obtain ⟨h1,h2,o,h3⟩:=z.own b hb;exact (pY h1 h2 o (k b o (λq=>f.own (q▸hb)) h3))
 . obtain ⟨h1,h2,o,h3,h4⟩:=z.cells y b e;exact (aG h1 h2 ⟨o,k b o (λq=>f.cells y (q▸e)) h3,h4⟩)
 . obtain ⟨hk,L,o,h1,h2,h3⟩:=(z.frames e he).1;exact ⟨hk,L,o,h1,k _ _ (λq=>f.frames e he (q▸h1)) h2,h3⟩
theorem St.d7 (z:St c C F bs S s)(hn:s.heap.get? a=none):di c C F bs a:=by
 refine ⟨z.jE hn,λm=>?_,λm=>?_,λx e=>?_,λe he q=>?_⟩
 . refine e1a0 (z.wd.there a m) λo e=>?_;exact bE (aB (aq hn) e)
 . obtain ⟨_,_,o,e⟩:=z.own a m;exact bE (aB (aq hn) e)
 . obtain ⟨_,_,o,e',_⟩:=z.cells x a e;exact bE (aB (aq hn) e')
 . obtain ⟨_,L,o,e1,e2,_⟩:=(z.frames e he).1;obtain rfl:=bo (aB (aq q) e1);rw [hn] at e2;cases e2
theorem Step.other (st:Step own F bs h F' aE ko)(hn:h.get? a=none)(k:∀b,b≠a->∀o,ko.get? b=some o->h'.get? b=some o):Step own F bs h F' aE h':=by
 have ne:∀b o,h.get? b=some o->b≠a:=λb o e q=>by clear k;subst q;rw [hn] at e;cases e
 refine ⟨st.sub,st.ext,λb o e=>?_,λb o e n1 n2 n3=>?_,st.ja⟩
 . refine e1a0 (st.mono b o e) λo' e'=>?_;exact (ck o' (k b (ne b o e) _ e'))
 . refine e1a1 (st.dT b o e n1 n2 n3) λo' e' s'=>?_;exact (ae o' (k b (ne b o e) _ e') s')
end
section
variable {c:bc}{C:Cx}{S:AS}{K:ip}{pos:Pos}
def mQ (I:dA)(K:ip):ip
 | .next,S=>I S
 | .cont,S=>I S
 | .brk,S=>K .next S
 | .ret v,S=>K (.ret v) S
end
noncomputable def AV.lV (n:Nat):vD->Bool
 | []=>true
 | .none::xs=>AV.lV n xs
 | .some x::xs=>x.under n&&AV.lV n xs
noncomputable def AO.under (n:Nat):AO->Bool
 | .gone=>true
 | .list xs=>AV.b8 n xs
 | .az kvs=>AV.iX n kvs
 | .sset _=>true
 | .uset _=>true
 | .inst _ d=>decide (d < n)
 | .slots _ d vs=>decide (d < n)&&AV.lV n vs
 | .gF l _=>l.under n
 | .exc _ _=>true
 | .eP none=>true
 | .eP (some (f,v))=>f.under n&&v.under n
@[simp] theorem Q7 {n:Nat} {xs:dB}:AO.under n (.list xs)=AV.b8 n xs:=rfl
@[simp] theorem Q8 {n:Nat} {xs:eQ}:AO.under n (.az xs)=AV.iX n xs:=rfl
@[simp] theorem uoI {n d:Nat} {c:Addr}:AO.under n (.inst c d)=decide (d < n):=rfl
@[simp] theorem uoS {n d:Nat} {c:Addr} {vs:vD}:AO.under n (.slots c d vs)=(decide (d < n)&&AV.lV n vs):=rfl
@[simp] theorem uoC {n:Nat} {f v:AV}:AO.under n (.eP (some (f,v)))=(f.under n&&v.under n):=rfl
@[simp] theorem uoO {n:Nat} {x:AV} {xs:vD}:AV.lV n (.some x::xs)=(x.under n&&AV.lV n xs):=rfl
theorem AV.vI (n:Nat):∀(l:ag),AV.b8 n (l.map .str)=true:=by
 intro l;induction l with
 | nil =>exact rfl
 | cons x l ih =>trivial
section
variable {c:bc}{C:Cx}{F F':G}{bs nb:aO}
theorem t4 {l r:aO}(h:(l++r)[k]?=some a)(hk:k < l.length):l[k]?=some a:=by rw [eN hk] at h;exact h
theorem qe {g r:aO}(k:Nat)(a:Addr)(h:(g++r)[k]?=some a)(u:False\/k < g.length):g[k]?=some a:=t4 h (u.resolve_left id)
theorem cU.cut (h:c.V F (bs++nb) x v)(u:x.under bs.length=true):c.V F bs x v:=cU.lift (λzz zz e=>e) qe h (.inr u)
theorem bq.cut (h:c.Vs F (bs++nb) x v)(u:AV.b8 bs.length x=true):c.Vs F bs x v:=bq.lift (λzz zz e=>e) qe h (.inr u)
theorem aU.cut (h:c.SV F (bs++nb) x v)(u:AV.iX bs.length x=true):c.SV F bs x v:=aU.lift (λzz zz e=>e) qe h (.inr u)
theorem oC.cut (h:oC c F (bs++nb) x v)(u:AV.lV bs.length x=true):oC c F bs x v:=by
 induction h with
 | nil=>exact .nil
 | no _ ih=>exact .no (ih (u))
 | yes hv _ ih=>simp  at u;exact .yes (cU.cut hv u.1) (ih u.2)
theorem fA.cut (x:fA c F (bs++nb) h a o)(u:o.under bs.length=true):fA c F bs h a o:=by
 cases o with
 | gone=>trivial
 | list xs=>refine e1a1 x λvs h1 h2=>?_;exact (ae vs h1 (h2.cut u))
 | az kvs=>refine e1a1 x λrs h1 h2=>?_;exact (ae rs h1 (h2.cut u))
 | sset S=>exact x
 | uset S=>exact x
 | inst cl d=>refine e1a1 x λda h1 h2=>?_;exact (ae da (t4 h1 (by simpa  using u)) h2)
 | slots cl d vs=>refine e2a2 x λda rs h0 h1 h2=>?_;simp  at u;exact (b7 da rs (t4 h0 u.1) (h1.cut u.2) h2)
 | gF l i=>refine e1a1 x λla h1 h2=>?_;exact (ae la (h1.cut u) h2)
 | exc ex ob=>exact x
 | eP f =>
   cases f with
   | none=>exact x
   | some f=>refine e2a2 x λy z h1 h2 h3=>?_;replace u:(f.1.under bs.length&&f.2.under bs.length)=true:=u;simp only [cZ] at u;exact (b7 y z (h1.cut u.1) (h2.cut u.2) h3)
theorem kq.cut (z:kq c env F (bs++nb) h m x v)(u:v.under bs.length=true):kq c env F bs h m x v:=by
 cases z with
 | loc hk r h1 h2=>exact .loc hk r h1 (h2.cut u)
 | cell hk w=>obtain ⟨a,o,r,h1,h2,h3,h4⟩:=w;exact .cell hk ⟨a,o,r,h1,h2,h3,h4.cut u⟩
theorem iY.cut (z:iY c C F (bs++nb) h m i v)(u:v.under bs.length=true):iY c C F bs h m i v :=
 e1a1 z λx e l=>(ae x e (l.cut u))
structure Trim (n:Nat)(S:AS)(loc:fi):Prop where
 loc:∀x u,loc.lookup x=some u->S.loc.lookup x=some u/\u.under n=true
 heap:∀o∈S.heap.take n,AO.under n o=true
theorem St.trim (z:St c C F (bs++nb) S s)(t:Trim bs.length S loc):St c C F bs ⟨loc,S.heap.take bs.length⟩ s:=by
 refine e1a1 z.locs λm hN hl=>?_;have w:=z.wd;obtain hlen:bs.length<=S.heap.length:=by simp only [<-w.len];simp
 refine ⟨⟨w.sub,w.base,w.old,by simp [hlen],(List.nodup_append.mp w.nodup).1,λk a o e1 e2=>?_,λa ha=>w.there a (fg (.inl ha)),w.os,w.gens,λa ha=>w.kept a (fg (.inl ha))⟩,
  (ae m hN (λx u e=>(hl x u (t.loc x u e).1).cut (t.loc x u e).2)),z.gG,z.cH,λa ha=>?_,λx a e=>?_,z.apart,λe he=>⟨(z.frames e he).1,λL hL=>?_⟩,z.glob,z.blt,z.kind,z.oD,z.gH⟩
 . obtain hk:k < bs.length:=(bN e1).1;obtain YW:S.heap[k]?=some o:=by skip;simpa [hk] using e2
   obtain this:=w.obj k a o (by refine rE (eN hk) ?_;exact e1) YW;exact ⟨this.1.cut (t.heap o (ct e2)),this.2⟩
 . refine e0a2 (z.own a ha) λh1 h2 h3=>?_;exact (aG h1 (λq=>h2 (fg (.inl q))) h3)
 . refine e0a2 (z.cells x a e) λh1 h2 h3=>?_;exact (aG (λq=>h1 (fg (.inl q))) h2 h3)
 . refine e0a1 ((z.frames e he).2 L hL) λh1 h2=>?_;exact ⟨h1,λq=>h2 (fg (.inl q))⟩
theorem Step.trim (x:Step own F bs h F' (bs++nb) h'):Step own F bs h F' bs h' :=
 ⟨x.sub,(ae [] (by simp) (by simp)),x.mono,x.dT,x.ja⟩
theorem di.trim (f:di c C F (bs++nb) a):di c C F bs a:=⟨f.F,λm=>f.bs (fg (.inl m)),f.own,f.cells,f.frames⟩
theorem ExcAt.trim (e:ExcAt c C F (bs++nb) h₀ h x cls):ExcAt c C F bs h₀ h x cls:=by obtain ⟨a,ob,vs,h1,h0,h2,h3,h4,h5,h6,h7⟩:=e.at_;refine ⟨⟨a,ob,vs,h1,h0,h2,h3,h4,h5,h6.trim,h7.imp id ?_⟩,e.CC⟩;intro o1;obtain ⟨tb,lv,nI,L,k1,k2,k3,k4,k5,k6,k7,k8,k9,nJ⟩:=o1;exact ⟨tb,lv,nI,L,k1,k2,k3,k4,k5,k6,k7,k8,k9,nJ.trim⟩
noncomputable def sz.under (n:Nat):sz->Bool
 | .ret v=>v.under n
 | _=>true
theorem jH.cut (x:jH c F (bs++nb) fl f)(u:fl.under bs.length=true):jH c F bs fl f:=by
 cases fl with
 | next=>exact x
 | brk=>exact x
 | cont=>exact x
 | ret v=>refine e1a1 x λr e h=>?_;exact (ae r e (h.cut u))
def fu (c:bc)(C:Cx)(S S':AS):Prop:=∀F bs s,St c C F bs S s->∃F',Step C.own F bs s.heap F' bs s.heap/\St c C F' bs S' s
theorem ei {st:fk}{K:ip}(sh:fu c C S S')(h:Ex c C st S' K X):Ex c C st S K X:=by intro A F bs s hA z;refine e1a1 (sh F bs s z) λF' al z'=>?_;exact aQ (h A F' bs s hA z') (λr s' YX=>YX.casesOn λrH aE fl S' st z' hr k=>⟨rH,aE,fl,S',al.trans st,z',hr,k⟩) (λx s' YY=>YY.casesOn λrH aE fl S' st z' hr k=>⟨rH,aE,fl,S',al.trans st,z',hr.back al.mono,k⟩)
theorem fu.forget (loc:fi)(h:∀x u,loc.lookup x=some u->S.loc.lookup x=some u):fu c C S ⟨loc,S.heap⟩:=λF bs s z=>by refine e1a1 z.locs λm hN hl=>?_;exact (ae F (.refl ..) ⟨z.wd,(ae m hN (λx u e=>hl x u (h x u e))),z.gG,z.cH,z.own,z.cells,z.apart,z.frames,z.glob,z.blt,z.kind,z.oD,z.gH⟩)
theorem St.Hm (z:St c C F bs S s)(x:Nat)(v v':AV)(hx:S.loc.lookup x=some v)(hv:∀r,c.V F bs v r->c.V F bs v' r):St c C F bs (S.put x v') s:=by
 refine e1a1 z.locs λm hN hl=>?_;refine ⟨z.wd,(ae m hN (λy u e=>?_)),z.gG,z.cH,z.own,z.cells,z.apart,z.frames,z.glob,z.blt,z.kind,z.oD,z.gH⟩;have e':(bY S.loc x v').lookup y=some u:=e;rw [aC] at e';by_cases q:y=x
 . subst q;clear e;refine (bo (aB (aq (if_pos rfl)) e'))▸?_;refine e1a1 (hl y v hx) λx' kr w=>?_;refine (ae x' kr ?_);cases w with
   | loc hk r h1 h2=>exact .loc hk r h1 (hv _ h2)
   | cell hk w=>obtain ⟨a,o,r,h1,h2,h3,h4⟩:=w;exact .cell hk ⟨a,o,r,h1,h2,h3,hv _ h4⟩
 . rw [if_neg q] at e';exact hl y u e'
theorem fu.list (x:Nat)(hx:S.loc.lookup x=some (.ref k))(hk:S.heap[k]?=some (.list xs)):fu c C S ⟨bY S.loc x (.lst xs),S.heap.set k .gone⟩:=λF bs s z=>by
 obtain eX:k < bs.length:=by simp only [z.wd.len];exact (bN hk).1
 obtain ⟨a,ha⟩:∃a,bs[k]?=some a:=(ck _ (cp eX))
 refine e0a1 (z.wd.obj k a _ ha hk) λo7 hF=>?_;refine e1a1 o7 λvs o9 h2=>?_;clear o7;obtain ⟨n,h1⟩:=o9;have FO:=hF (by simp);refine (ae (plus F a (bx vs n)) (Step.freeze (ct ha) FO) ?_);have z':=z.freeze ha hk (by simp) h1 (by simp [bx,bC]);refine z'.Hm x (.ref k) (.lst xs) hx λr hr=>?_;refine e1a1 hr.inv λzz o3 e=>?_;refine rE o3 ?_;clear hr;refine (bo (ha.symm.trans e))▸?_;refine .lst (ck n b9) ?_;simpa using bq.mono (nb:=[]) (aW FO) h2
theorem fu.az (x:Nat)(hx:S.loc.lookup x=some (.ref k))(hk:S.heap[k]?=some (.az xs)):fu c C S ⟨bY S.loc x (.aZ xs),S.heap.set k .gone⟩:=λF bs s z=>by
 obtain eX:k < bs.length:=by simp only [z.wd.len];exact (bN hk).1
 obtain ⟨a,ha⟩:∃a,bs[k]?=some a:=(ck _ (cp eX))
 refine e0a1 (z.wd.obj k a _ ha hk) λo6 hF=>?_;refine e1a1 o6 λrs o8 h2=>?_;clear o6;obtain ⟨es,n,h1,h3⟩:=o8;have FO:=hF (by simp);refine (ae (plus F a (bC es n)) (Step.freeze (ct ha) FO) ?_);have z':=z.freeze ha hk (by simp) h1 (by simp [bx,bC]);refine z'.Hm x (.ref k) (.aZ xs) hx λr hr=>?_;refine e1a1 hr.inv λzz o2 e=>?_;refine rE o2 ?_;clear hr;refine (bo (ha.symm.trans e))▸?_;refine .aZ ⟨es,n,b9,h3⟩ ?_;simpa using aU.mono (nb:=[]) (aW FO) h2
end
theorem bz.hide {P:AV->Prop}(h:bz c n fv args [] (λv zz=>v.under 0=true/\P v))(LV:AV.b8 0 args=true):bz c n fv args H (λv H'=>H'=H/\P v):=by
 intro A F bs s rs fr hh hd hu jp ms wd hv;obtain YZ:Wd c F [] [] s:=⟨wd.sub,wd.base,wd.old,rfl,List.nodup_nil,λk a o e=>by simp at e,λa ha=>by simp at ha,wd.os,wd.gens,λa ha=>by simp at ha⟩
 refine codeAny_mono (h A F [] s rs fr hh hd hu jp (λe he=>⟨(ms e he).1,λL hL=>⟨((ms e he).2 L hL).1,by simp⟩⟩) YZ (bq.cut (bs:=[]) (nb:=bs) hv (LV))) λr s' ⟨F',aE,v,H',rv,own,e,hn,st,FP,lG,hc,hp⟩=>?_;obtain keep:∀b o,s.heap.get? b=some o->o.cls≠.none->∃o',s'.heap.get? b=some o'/\iI o o':=λb o e q=>st.dT b o e (λm=>by exact bE (aB (aq (hn b m)) e)) (by simp) q;obtain WI:∀b o,s.heap.get? b=some o->F b=none->F' b=none:=λb o e q=>by
  cases e':F' b with
  | none=>rfl
  | some o'=>(refine aN (st.ja b o' e' q) (λy=>?_) (λy=>?_))
             . exact bE (aB (aq y) e)
             . simp at y
 refine ⟨F',bs,v,H,rv,own,e,hn,⟨st.sub,(ae [] (by simp) (by simp)),st.mono,λb o e n1 n2 n3=>st.dT b o e n1 (by simp) n3,λb o e q=>?_⟩,⟨FP.sub,FP.base,FP.old,wd.len,wd.nodup,λk a o e1 e2=>⟨?_,λq=>?_⟩,λa ha=>?_,FP.os,FP.gens,λa ha o e=>?_⟩,?_,rfl,hp⟩
 . rcases st.ja b o e q with y | y
   . exact .inl y
   . simp at y
 . by_cases q:o=.gone
   . clear e2;refine rE q ?_;trivial
   . refine e0a1 (wd.obj k a o e1 e2) λhr zz=>?_;refine e1a2 (hr.cls q) λob g1 g2 g3=>?_;refine e1a1 (keep a ob g1 g2) λo' g4 g5=>?_;obtain this:=g5.qa g3;clear g5 g3 g2;subst this;obtain IF:=hr.at (h':=s'.heap) λID e'=>by lia
     simpa using fA.mono (nb:=[]) st.sub IF
 . refine e1a0 (wd.there a (ct e1)) λob g1=>?_;exact WI a ob g1 ((wd.obj k a o e1 e2).2 q)
 . refine e1a0 (wd.there a ha) λo e=>?_;exact st.mono _ _ e
 . cases q:F a with
   | some o'=>replace e:=(st.sub _ _ q)▸e;cases e;exact wd.kept a ha o q
   | none=>refine e1a0 (wd.there a ha) λo' e'=>?_;exact bE (aB (aq (WI a o' e' q)) e)
 . obtain this:=cU.cut (bs:=[]) (nb:=aE) lG hc;exact cU.mono (nb:=bs) (λzz zz e=>e) this
noncomputable def Pu:AO->Option String
 | .list _=>some "list"
 | .az _=>some "dict"
 | .sset _=>some "set"
 | .uset _=>some "set"
 | .gF _ _=>some "list_iterator"
 | .eP _=>some "callable_iterator"
 | _=>none
noncomputable def xw (S:AS):AV->Option String
 | .none=>some "NoneType"
 | .bool _=>some "bool"
 | .int _=>some "int"
 | .str _=>some "str"
 | .tup _=>some "tuple"
 | .lst _=>some "list"
 | .aZ _=>some "dict"
 | .ref k=>S.heap[k]?.bind Pu
 | _=>none
section
variable {c:bc}{C:Cx}{S:AS}{F F':G}{bs aE:aO}{s s':Shared}{A:Around}{X:dU}{K:dC}{mg mb:fV}
theorem oB.dictOf {Kt:Type} [DecidableEq Kt] {knd:KeyKind c.prog c.w Kt}{h:Heap}{a:Addr}{kvs:List (Kt×Value)}(x:oB knd h.get? a kvs):h.DictOf knd a kvs :=
 let ⟨es,n,e,k,p,d,_⟩:=x;(jB _ es n e (aG rfl rfl rfl) rfl k p d)
theorem oB.xx {Kt:Type} [DecidableEq Kt] {knd:KeyKind c.prog c.w Kt}{h:Heap}{a:Addr}{kvs:List (Kt×Value)}(x:h.DictOf knd a kvs)(hs:(a==sysModules)=false):oB knd h.get? a kvs:=by refine e3a0 x λo es ep WJ=>?_;clear x;refine e0a5 WJ λe Y0 hd k p d=>?_;clear WJ;obtain ⟨h1,h2,h3⟩:=Y0;obtain ⟨oc,od,dt,sl⟩:=o;subst h1;cases h2;cases h3;cases hd;exact ⟨es,ep,e,k,p,d,hs⟩
theorem gY (h:S.heap[k]?=some o)(ht:Pu o=some T):xw S (.ref k)=some T:=(congrArg (·.bind Pu) h).trans ht
theorem y8 (ht:s.TypeIs r T)(h:∀a,r≠.ref a):s.TypeIs r T/\∀a,r=.ref a->∃o,s.heap.get? a=some o/\o.dict=none:=⟨ht,λa e=>(h a e).elim⟩
theorem t5 (e:s.heap.get? a=some o)(h1:o.cls=.type T)(h2:o.dict=none):s.TypeIs (.ref a) T/\∀b,Value.ref a=.ref b->∃o,s.heap.get? b=some o/\o.dict=none :=
 ⟨(ae _ e h1),λb q=>by refine (Value.ref.inj q)▸?_;exact (ae _ e h2)⟩
theorem fA.ty (w:fA c F bs h a o)(ht:Pu o=some T):∃ob,h.get? a=some ob/\ob.cls=.type T/\ob.dict=none:=by
 cases o with
 | list=>refine (bo ht)▸?_;refine e1a1 w λvs WK zz=>?_;clear w;refine e1a0 WK λn e=>?_;clear WK;exact (aH _ e rfl rfl)
 | az=>refine (bo ht)▸?_;refine e1a1 w λvs Y1 zz=>?_;clear w;obtain ⟨es,n,e,_⟩:=Y1;exact (aH _ e rfl rfl)
 | sset=>refine (bo ht)▸?_;refine e1a1 w λzz Y2 zz=>?_;clear w;obtain ⟨o,es,ep,t,e,⟨hc,hd,_⟩,_⟩:=Y2;exact (aH _ e hc hd)
 | uset=>refine (bo ht)▸?_;refine e4a2 w λo es ep t e WL zz=>?_;clear w;refine e0a2 WL λhc hd zz=>?_;clear WL;exact (aH _ e hc hd)
 | gF=>refine (bo ht)▸?_;refine e1a1 w λla zz e=>?_;exact (aH _ e rfl rfl)
 | eP f =>
   refine (bo ht)▸?_;cases f with
   | none=>refine e2a0 w λzz zz e=>?_;exact (aH _ e rfl rfl)
   | some f=>refine e2a2 w λzz zz zz zz e=>?_;exact (aH _ e rfl rfl)
 | _=>exact bE ht
theorem St.ty (z:St c C F bs S s)(h:xw S v=some T)(hv:c.V F bs v r):s.TypeIs r T/\∀a,r=.ref a->∃o,s.heap.get? a=some o/\o.dict=none:=by
 cases v with
 | none=>obtain rfl:=bo h;refine rE hv.inv ?_;exact y8 rfl nofun
 | bool b=>refine (bo h)▸?_;refine hv.inv▸?_;exact y8 rfl nofun
 | int i=>refine (bo h)▸?_;refine e1a0 hv.inv λt Y3=>?_;refine Y3▸?_;exact y8 rfl nofun
 | str x=>refine (bo h)▸?_;refine e1a0 hv.inv λt Y4=>?_;refine Y4▸?_;exact y8 rfl nofun
 | tup=>refine (bo h)▸?_;refine e2a2 hv.inv λzz zz Y5 e zz=>?_;clear hv;obtain rfl:=Y5;exact t5 (z.wd.sub _ _ e) rfl rfl
 | lst=>refine (bo h)▸?_;refine e2a2 hv.inv λzz zz Q9 WM zz=>?_;refine e1a0 WM λn e=>?_;clear WM;refine Q9▸?_;exact t5 (z.wd.sub _ _ e) rfl rfl
 | aZ=>refine (bo h)▸?_;refine e2a2 hv.inv λzz zz Y6 Y7 zz=>?_;obtain rfl:=Y6;obtain ⟨es,n,e,_⟩:=Y7;exact t5 (z.wd.sub _ _ e) rfl rfl
 | ref k =>refine e1a1 hv.inv λa Y8 h1=>?_;obtain rfl:=Y8;refine e1a1 (Option.bind_eq_some_iff.mp h) λo e ht=>?_;refine e1a2 ((z.wd.obj k a _ h1 e).1.ty ht) λob e1 e2 e3=>?_;exact t5 e1 e2 e3
 | _=>exact bE h
def dD (c:bc)(C:Cx)(f:Value)(vs:dB)(S:AS)(K:dC)(X:dU):Prop :=
 ∀A F bs s rs,jW C A->St c C F bs S s->c.Vs F bs vs rs->WP c C A c.V (call f rs) F bs s K X
@[reducible] def bK (c:bc) (C:Cx) (f:Value) (K:dC) (X:dU):u9:=λvs S=>dD c C f vs S K X
@[reducible] def LW (c:bc) (C:Cx) (T id:String) (pos:Pos) (args:dM) (K:dC) (X:dU):dC:=λov S=>xw S ov=some T/\pO c C pos args S (CJ ov (bK c C (.builtin id) K X)) X
@[reducible] def IX (c:bc) (C:Cx) (f:Value) (pos:Pos) (args:dM) (K:dC) (X:dU):dC:=λv S=>v=.raw f/\pO c C pos args S (bK c C f K X) X
@[reducible] def tupK (K:dC):u9:=λvs S=>vs.length<=sizeLine/\K (.tup vs) S
@[reducible] def lstK (K:dC):u9:=λvs S=>vs.length<=sizeLine/\K (.lst vs) S
@[reducible] def LY (K:dC):u9:=λvs S=>vs.length<=sizeLine/\K (.ref S.heap.length) {S with heap:=S.heap++[.list vs]}
theorem cb {o:Expr}{name:Str}{apos pos:Pos}{args:dM}(T id:String)(pa:PlainAttrs T)(slot:Slot T name id)(Y9:typeOf (.builtin id)=pure (.type "method_descriptor"))
 (h:Ev c C o S (LW c C T id pos args K X) X)
 (ii:attributeBase o name C.env (eval o C.env)=eval o C.env:=by rfl)
 (IY:((backTo pos (starEach args C.env)).all (λx=>!x.1)&&(backToKw pos (keywordEach [] C.env)).all (λx=>x.1.isSome)
  && decide (args.length+([]:List Keyword).length+(if ([]:List Keyword).isEmpty then 0 else 1) < 30))=true:=by rfl)
 (hline:(apos.endLine==pos.line)=true:=by rfl)
 (pc:(backTo pos (starEach args C.env)).any (·.1)=false:=by rfl)
 (hl:pk (backTo pos (starEach args C.env))=false:=by rfl):Ev c C (.Call (.Attribute o name apos) args [] pos) S K X:=by
 intro A F bs s hA z;refine wpAny_Call_method_lateS ii IY hline (aQ (h A F bs s hA z) (λr O ⟨F₁,bs₁,ov,Z,al,an,lW,hT,k₁⟩=>?_) λzz zz e=>e);refine e0a1 (an.ty hT lW) λt1 t2=>?_;refine ⟨T,id,pa,slot,Y9,t1,t2,(Calls.callWith_builtin pc ?_)⟩;refine aQ (ic hA an k₁ hl) (λa ac Za=>Za.casesOn λaX ap vs aF am aJ Ra=>e0a1 Ra λpt be k₂=>?_) λx ac Zb=>Zb.casesOn λaX ap cls aF am aJ hx k₂=>⟨aX,ap,cls,aF,al.trans am,aJ,hx.back al.mono,k₂⟩
 simp only [pt];refine aQ (k₂ A aX ap ac (r::a.pos) hA aJ (.cons (am.V lW) be)) (λw aP Zc=>Zc.casesOn λbi aK v aY aA a6 hv bn=>⟨bi,aK,v,aY,(al.trans am).trans aA,a6,hv,bn⟩) λx aP Ra=>Ra.casesOn λbi aK v aY aA a6 hv bn=>⟨bi,aK,v,aY,(al.trans am).trans aA,a6,hv.back (al.trans am).mono,bn⟩
theorem bQ {f:Expr}{args:dM}{pos:Pos}(fv:Value)
 (h:Ev c C f S (IX c C fv pos args K X) X)
 (hf:(∃id,fv=.builtin id)\/∃T,fv=.type T:=by first | exact .inl ⟨_,rfl⟩ | exact .inr ⟨_,rfl⟩)
 (he:eval (.Call f args [] pos) C.env=(do callWith pos (<-eval f C.env) [] (backTo pos (starEach args C.env)) (backToKw pos (keywordEach [] C.env))):=by rfl)
 (pc:(backTo pos (starEach args C.env)).any (·.1)=false:=by rfl)
 (hl:pk (backTo pos (starEach args C.env))=false:=by rfl):Ev c C (.Call f args [] pos) S K X:=by
 intro A F bs s hA z;refine rE he ?_;refine WP.bind (h A F bs s hA z) λF₁ bs₁ Z O v r al an hv WN=>e0a1 WN λe k₁=>?_;subst e;clear WN h;obtain ⟨_,rfl⟩:=hv.inv;have fin:∀f',wpAny (model c.prog c.w) A (evalArgs f' true (backTo pos (starEach args C.env)) []) (λa ac=>wpAny (model c.prog c.w) A (call fv a.pos a.kw)
  (WV c C c.V F₁ bs₁ O.heap K) (WX c C F₁ bs₁ O.heap X) ac)
  (WX c C F₁ bs₁ O.heap X) O:=λf'=>by
  refine aQ (ic hA an k₁ hl) (λa ac Zd=>Zd.casesOn λaX ap vs aF am aJ ⟨pt,be⟩ k₂=>?_) λx ac e=>e;refine rE pt ?_;exact aQ (k₂ A aX ap ac a.pos hA aJ be) (λw aP Ze=>Ze.casesOn λbi aK v aY aA a6 hv bn=>⟨bi,aK,v,aY,am.trans aA,a6,hv,bn⟩) λx aP Zf=>Zf.casesOn λbi aK v aY aA a6 hv bn=>⟨bi,aK,v,aY,am.trans aA,a6,hv.back am.mono,bn⟩
 (refine aN hf (λWO=>?_) (λWQ=>?_);refine e1a0 WO λid Zg=>?_;clear WO;obtain rfl:=Zg;rotate_left;refine e1a0 WQ λT Zh=>?_;clear WQ;obtain rfl:=Zh;rotate_right)
 . exact Calls.callWith_builtin pc (fin _)
 . exact PySem.callWith_type pc (fin _)
theorem cQ (h:pO c C pos es S (tupK K) X):Ev c C (.Tuple es kd pos) S K X:=by
 intro A F bs s hA z;refine wpAny_Tuple_spliced (aQ (h A F bs s hA z) (λrs O ⟨F₁,bs₁,vs,Z,al,an,be,hl,k⟩=>⟨by rw [be.length];exact hl,?_⟩) λzz zz e=>e);obtain hn:O.heap.get? O.heap.objs.size=none:=gE (bu _);obtain hF:=an.jE hn;obtain m:bf c F₁ bs₁ O {O with heap:=O.heap.push (gj rs)}:=⟨λb o e=>bU _ e,rfl,rfl⟩
 obtain ha:({O with heap:=O.heap.push (gj rs)}:Shared).heap.get? O.heap.objs.size=some (gj rs):=cT _ rfl;refine ⟨_,bs₁,.tup vs,Z,al.trans (.frozen m hF hn),an.ja m hn ha,.tup b9 ?_,k⟩;simpa using bq.mono (nb:=[]) (aW hF) be
theorem qf (h:pO c C pos es S (lstK K) X):Ev c C (.List es pos) S K X:=by
 intro A F bs s hA z;refine wpAny_List_spliced (aQ (h A F bs s hA z) (λrs O ⟨F₁,bs₁,vs,Z,al,an,be,hl,k⟩=>⟨by rw [be.length];exact hl,?_⟩) λzz zz e=>e);obtain hn:O.heap.get? O.heap.objs.size=none:=gE (bu _);obtain hF:=an.jE hn;obtain m:bf c F₁ bs₁ O {O with heap:=O.heap.push (bx rs 0)}:=⟨λb o e=>bU _ e,rfl,rfl⟩
 obtain ha:({O with heap:=O.heap.push (bx rs 0)}:Shared).heap.get? O.heap.objs.size=some (bx rs 0):=cT _ rfl;refine ⟨_,bs₁,.lst vs,Z,al.trans (.frozen m hF hn),an.ja m hn ha,.lst (ck 0 b9) ?_,k⟩;simpa using bq.mono (nb:=[]) (aW hF) be
theorem St.newList (z:St c C F bs S s){vs:dB}{rs:iy}(be:c.Vs F bs vs rs):let s':Shared:={s with heap:=s.heap.push (bx rs 0)}
 Step C.own F bs s.heap F (bs++[s.heap.objs.size]) s'.heap/\St c C F (bs++[s.heap.objs.size]) {S with heap:=S.heap++[.list vs]} s'/\c.V F (bs++[s.heap.objs.size]) (.ref S.heap.length) (.ref s.heap.objs.size):=by
 intro s';obtain hn:s.heap.get? s.heap.objs.size=none:=gE (bu _);obtain m:bf c F bs s s':=⟨λb o e=>bU _ e,rfl,rfl⟩
 obtain ha:s'.heap.get? s.heap.objs.size=some (bx rs 0):=cT _ rfl;refine (aG (.new m hn) (z.new m hn ha (ae rs (ck 0 ha) (bq.mono (λzz zz e=>e) be))) (.ref ?_));refine z.wd.len▸?_;simp
theorem eY (h:pO c C pos es S (LY K) X):Ev c C (.List es pos) S K X:=by intro A F bs s hA z;refine wpAny_List_spliced (aQ (h A F bs s hA z) (λrs O ⟨F₁,bs₁,vs,Z,al,an,be,hl,k⟩=>⟨by refine rE be.length ?_;exact hl,?_⟩) λzz zz e=>e);refine e0a2 (an.newList be) λa1 a2 a3=>?_;exact ⟨F₁,_,_,_,al.trans a1,a2,a3,k⟩
theorem St.CN (B:Base c mg mb)(z:St c C F bs S s)(hn:s.heap.get? a=none):(a==sysModules)=false:=by
 refine e1a0 B.IG λo e=>?_;refine e1a0 (z.wd.old.there _ _ e) λo' e'=>?_;obtain this:a≠sysModules:=λq=>by subst q;rw [e'] at hn;cases hn
 simpa using this
theorem ky (B:Base c mg mb)(k:K (.ref S.heap.length) {S with heap:=S.heap++[.az []]}):Ev c C (.Dict [] [] pos) S K X:=by
 intro A F bs s hA z;refine wpAny_Dict_empty ?_;obtain hn:s.heap.get? s.heap.objs.size=none:=gE (bu _);obtain m:bf c F bs s {s with heap:=s.heap.push (bC #[] 0)}:=⟨λb o e=>bU _ e,rfl,rfl⟩
 obtain ha:({s with heap:=s.heap.push (bC #[] 0)}:Shared).heap.get? s.heap.objs.size=some (bC #[] 0):=cT _ rfl;refine ⟨F,_,.ref S.heap.length,_,.new m hn,z.new (o:=.az []) m hn ha (ae [] ⟨#[],0,ha,λe he=>by simp at he,?_,List.nodup_nil,z.CN B hn⟩ (.nil)),.ref ?_,k⟩
 . exact .nil
 . refine z.wd.len▸?_;simp
end
structure cE (wr:aO)(s s':Shared):Prop where
 same:∀b,b∉wr->∀o,s.heap.get? b=some o->s'.heap.get? b=some o
 os:s'.os=s.os
 gens:s'.gens=s.gens
theorem OldK.mR {wr:aO}(x:OldK h₀ h)(ha:∀a∈wr,h₀.get? a=none)(k:∀b,b∉wr->∀o,h.get? b=some o->h'.get? b=some o):OldK h₀ h':=by
 have ne:∀b o,h₀.get? b=some o->b∉wr:=λb o e q=>by exact bE (aB (aq (ha b q)) e)
 refine ⟨λb o e=>?_,λb o e=>e1a0 (x.there b o e) λo' e'=>(ck o' (k _ (ne b o e) _ e'))⟩;rcases x.old b o e with z | ⟨t,hc,vs,more,hv,z⟩ | ⟨rfl,hc,⟨o',es,n,u3,r⟩,z⟩
 . exact .inl (k _ (ne b o e) _ z)
 . exact .inr (.inl ⟨t,hc,vs,more,hv,(k _ (ne b o e) _ z)⟩)
 . exact .inr (.inr (gb rfl hc (km o' es n (k _ (ne _ o e) _ u3) r) (λkey=>by rw [OldK.staticOf_congr ((k _ (ne _ o e) _ u3).trans u3.symm) key];exact z key)))
theorem gQ.mR {wr:aO}(x:gQ c F h)(ha:∀a∈wr,c.h₀.get? a=none)(k:∀b,b∉wr->∀o,h.get? b=some o->h'.get? b=some o):gQ c F h' :=
 ⟨OldK.mR x.toOldK ha k,λP q e=>let ⟨h1,⟨o,h2⟩,ps,h3,h4⟩:=x.tabs P q e;⟨h1,(ck o h2),ps,(k _ (λz=>by exact bE (aB (aq (ha _ z)) h2)) _ h3),h4⟩⟩
structure cf (c:bc)(C:Cx)(F:G)(bs:aO)(wr:aO)(h:Heap):Prop where
 free:∀a∈wr,di c C F bs a
 at_:∀a∈wr,∃o,h.get? a=some o/\o.cls≠.none/\o.cls≠.type "frame"
section
variable {c:bc}{C:Cx}{S S':AS}{F F':G}{bs aE:aO}{s s':Shared}{A:Around}{wr:aO}
theorem St.frees (z:St c C F bs S s)(t:cE wr s s')(f:cf c C F bs wr s.heap):St c C F bs S s':=by
 have hL:C.env.locals∉wr:=λe=>(f.free _ e).own z.cH;have k:∀b o,b∉wr->s.heap.get? b=some o->s'.heap.get? b=some o:=λb o q e=>t.same b q _ e;obtain nb:∀b∈bs,b∉wr:=λb m q=>(f.free b q).bs m;obtain hF:∀b o,F b=some o->b∉wr:=λb o e q=>by exact bE (aB (aq ((f.free b q).F)) e)
 refine e1a1 z.locs λmm hN hl=>?_;refine ⟨⟨λb o e=>k b o (hF b o e) (z.wd.sub b o e),z.wd.base,gQ.mR z.wd.old (λa ha=>?_) t.same,z.wd.len,z.wd.nodup,
  λj b ao e1 e2=>⟨(z.wd.obj j b ao e1 e2).1.at λob e=>k b ob (nb b (ct e1)) e,(z.wd.obj j b ao e1 e2).2⟩,
  λb m=>(e1a0 (z.wd.there b m) λo e=>(ck o (k b o (nb b m) e))),t.os.trans z.wd.os,t.gens.trans z.wd.gens,z.wd.kept⟩,
  (ae mm ?_ (λy v e=>(hl y v e).heap λx b o e1 e2=>(ae o (k b o (λq=>(f.free b q).cells x e1) e2) rfl))),?_,z.cH,λb hb=>?_,λy b e=>?_,z.apart,λe he=>⟨?_,(z.frames e he).2⟩,z.glob,z.blt,z.kind,z.oD,z.gH⟩
 . refine e1a2 (f.at_ a ha) λo h1 h2 zz=>?_;exact z.wd.ia (S:=S) (f.free a ha).F (ae o h1 h2)
 . refine e3a1 hN λo es ep ho r=>?_;exact (km o es ep (k _ _ hL ho) r)
 . refine e1a1 z.gG λo e n=>?_;exact (ae o (k _ _ hL e) n)
 . obtain ⟨h1,h2,o,h3⟩:=z.own b hb;exact (pY h1 h2 o (k b o (λq=>(f.free b q).own hb) h3))
 . obtain ⟨h1,h2,o,h3,h4⟩:=z.cells y b e;exact (aG h1 h2 ⟨o,k b o (λq=>(f.free b q).cells y e) h3,h4⟩)
 . obtain ⟨hk,L,o,h1,h2,h3⟩:=(z.frames e he).1;exact ⟨hk,L,o,h1,k _ _ (λq=>(f.free L q).frames e he h1) h2,h3⟩
theorem cf.vJ (f:cf c C F bs wr s.heap)(hw:∀a∈wr,a∉own)(st:Step own F bs s.heap F' aE s'.heap):cf c C F' aE wr s'.heap/\∀a∈wr,∀o,s.heap.get? a=some o->s'.heap.get? a=some o:=by
 have key:∀a∈wr,∀o,s.heap.get? a=some o->s'.heap.get? a=some o:=λa ha o e=>by refine e1a2 (f.at_ a ha) λo' h1 h2 h3=>?_;obtain rfl:=bo (aB (aq e) h1);refine e1a1 (st.dT a o e (hw a ha) (f.free a ha).bs h2) λo' e' sm=>?_;rw [sm.qa h3] at e';exact e'
 refine ⟨⟨λa ha=>?_,λa ha=>?_⟩,key⟩
 . refine e1a1 (f.at_ a ha) λo h1 zz=>?_;exact (f.free a ha).step st h1
 . refine e1a2 (f.at_ a ha) λo h1 h2 h3=>?_;exact (aH o (key a ha o h1) h2 h3)
theorem cf.step (f:cf c C F bs wr s.heap)(st:Step C.own F bs s.heap F' aE s'.heap):cf c C F' aE wr s'.heap/\∀a∈wr,∀o,s.heap.get? a=some o->s'.heap.get? a=some o :=
 f.vJ (λa ha=>(f.free a ha).own) st
theorem Step.others (st:Step own F bs h F' aE ko)(hn:∀a∈wr,h.get? a=none)(k:∀b,b∉wr->∀o,ko.get? b=some o->h'.get? b=some o):Step own F bs h F' aE h':=by
 have ne:∀b o,h.get? b=some o->b∉wr:=λb o e q=>by exact bE (aB (aq (hn b q)) e)
 refine ⟨st.sub,st.ext,λb o e=>?_,λb o e n1 n2 n3=>?_,st.ja⟩
 . refine e1a0 (st.mono b o e) λo' e'=>?_;exact (ck o' (k b (ne b o e) _ e'))
 . refine e1a1 (st.dT b o e n1 n2 n3) λo' e' s'=>?_;exact (ae o' (k b (ne b o e) _ e') s')
end
theorem Step.mT (t:cE wr s s')(f:∀a∈wr,∃o',s'.heap.get? a=some o'):Step (wr++own) F bs s.heap F bs s'.heap :=
 ⟨λzz zz e=>e,(ae [] (by simp) (by simp)),λb o e=>by
  by_cases q:b∈wr
  . exact f b q
  . exact (ck o (t.same b q _ e)),λb o e n1 zz zz=>(ae o (t.same b (λq=>n1 (fg (.inl q))) _ e) (.refl o)),λb o e n=>by lia⟩
theorem Step.Hn (gg:Step own F₀ bs₀ h₀ F bs h)(hn:∀a∈wr,h₀.get? a=none)(st:Step (wr++own) F bs h F' aE h'):Step own F₀ bs₀ h₀ F' aE h' :=
 Step.widen ((Step.widen (own':=wr++own) gg λa ha=>.inl (fg (.inr ha))).trans st) λa ha=>(bL ha).elim (λq=>.inr (hn a q)) .inl
def xy (c:bc)(C:Cx)(t:Expr)(v:AV)(S:AS)(K:dA):Prop :=
 match t,v with
 | .Tuple ts _ _,.tup xs=>ts.length=xs.length/\(assignEach ts C.env=ts.map λt=>(false,assign t C.env))/\z3 c C (ts.zip xs) S K gX
 | t,v=>xc c C t v S K gX
structure Iter (c:bc)(target:Expr)(it:Addr)(items:dB)(live:bg->Prop)(wr:aO)(Pos:Nat->G->aO->mq):Prop where
 CO:∀{C:Cx} {i own F bs S s F' aE S' s'},Pos i F bs s->cf c C F bs wr s.heap->(∀a∈wr,a∉own)->St c C F bs S s->Step own F bs s.heap F' aE s'.heap->St c C F' aE S' s'->Pos i F' aE s'
 next:∀{C:Cx} {A:Around} {i F bs S s} (N:mq) (Y:mq) (E:sA) (K:dA),jW C A->C.handled=none->St c C F bs S s->live S.heap->Pos i F bs s->cf c C F bs wr s.heap ->
  (items[i]?=none->∀s',St c C F bs S s'->cE wr s s'->N s') ->
  (∀y,items[i]?=some y->xy c C target y S K/\∀F' aE S' s',St c C F' aE S' s'->cf c C F' aE wr s'.heap->Pos (i+1) F' aE s'->K S' ->
   Step (wr++C.own) F bs s.heap F' aE s'.heap->Y s') ->
  wpAny (model c.prog c.w) A (pyNext (.ref it)) (λr O=>match r with
   | none=>N O
   | some v=>wpAny (model c.prog c.w) A (letOwnedTupleGo target (.ref it) v) (λzz oG=>wpAny (model c.prog c.w) A (assign target C.env v) (λzz ac=>Y ac) E oG) E O) E s
 self:∀{A:Around} {i F bs} {s:Shared} (Q:sA) (E:sA),A.handled=none->Pos i F bs s->Q (.ref it) s->wpAny (model c.prog c.w) A (pyIter (.ref it)) Q E s
theorem Iter.keep {Pos:Nat->G->aO->mq}(W:Iter c target it items live wr Pos)(p:Pos i F bs s)(f:cf c C F bs wr s.heap)(z:St c C F bs S s)(st:Step C.own F bs s.heap F' aE s'.heap)(z':St c C F' aE S' s'):Pos i F' aE s' :=
 W.CO p f (λa ha=>(f.free a ha).own) z st z'
inductive Rb (c:bc)(C:Cx)(target:Expr)(F:G)(bs:aO)(h₀:Heap)(K:dB->(bg->Prop)->dA)(r:Value)(s':Shared):Prop
 | mk (F':G) (aE:aO) (S':AS) (it:Addr) (items:dB) (live:bg->Prop) (wr:aO) (Pos:Nat->G->aO->mq) (e:r=.ref it) (st:Step C.own F bs h₀ F' aE s'.heap) (z:St c C F' aE S' s')
   (W:Iter c target it items live wr Pos) (p:Pos 0 F' aE s') (hn:∀a∈wr,h₀.get? a=none) (f:cf c C F' aE wr s'.heap) (hl:live S'.heap) (hk:K items live S')
def mU (c:bc)(C:Cx)(target iter:Expr)(S:AS)(K:dB->(bg->Prop)->dA)(X:dU):Prop :=
 ∀A F bs s,jW C A->St c C F bs S s ->
  wpAny (model c.prog c.w) A (eval iter C.env) (λxv O=>wpAny (model c.prog c.w) A (pyIter xv)
   (Rb c C target F bs s.heap K)
   (WX c C F bs s.heap X) O)
   (WX c C F bs s.heap X) s
section
variable {c:bc}{C:Cx}{S:AS}{K:ip}{pos:Pos}
theorem CP {Pos:Nat->G->aO->mq}(hh:C.handled=none)(W:Iter c target it items live wr Pos)(I:CF)(CQ:∀i S',I i S'->live S'.heap)
 (turn:∀i y S',items[i]?=some y->I i S'->xy c C target y S' (LK c C body (mQ (I (i+1)) K) gX))
 (done:∀S',I items.length S'->K .next S') (hA:jW C A) (h0:I 0 S) (z:St c C F bs S s) (hn:∀a∈wr,h₀.get? a=none) (gg:Step C.own F₀ bs₀ h₀ F bs s.heap) (jp:cf c C F bs wr s.heap) (hp:Pos 0 F bs s) :
 wpAny (model c.prog c.w) A (runOwn (.forLoop target (.ref it) body [] C.env) C.env)
  (WV c C (jH c) F₀ bs₀ h₀ K)
  (WX c C F₀ bs₀ h₀ gX) s:=by
 refine wpAny_runOwn ?_;refine codeAny_forLoop_any (λk s'=>∃F' aE S' i,Step C.own F₀ bs₀ h₀ F' aE s'.heap/\St c C F' aE S' s'/\cf c C F' aE wr s'.heap/\I i S'/\Pos i F' aE s'/\i<=items.length/\k=items.length+1 - i) ?_ (items.length+1)
  (jC F bs S 0 gg z jp h0 hp (Nat.zero_le _) yM)
 intro k ac o1;refine e4a0 o1 λaX ap aF i o3=>?_;clear o1;refine e0a6 o3 λam aJ zY hI y9 hi o4=>?_;clear o3;obtain rfl:=o4;have:=W.next (A:=A) (λO=>wpAny (model c.prog c.w) A (execs [] C.env) (λf aP=>(match (Except.ok f:Except Value Flow) with | .ok f=>WV c C (jH c) F₀ bs₀ h₀ K f aP | .error _=>False)) (λzz zz=>False) O)
  (λvK=>wpAny (model c.prog c.w) A (execs body C.env) (λf aP=>match f with
   | .next | .cont=>∃m,m < items.length+1 - i/\∃F' aE S' i,Step C.own F₀ bs₀ h₀ F' aE aP.heap/\St c C F' aE S' aP/\cf c C F' aE wr aP.heap/\I i S'/\Pos i F' aE aP/\i<=items.length/\m=items.length+1 - i
   | .brk=>WV c C (jH c) F₀ bs₀ h₀ K .next aP
   | .ret v=>WV c C (jH c) F₀ bs₀ h₀ K (.ret v) aP) (λzz zz=>False) vK) (λzz zz=>False)
  (LK c C body (mQ (I (i+1)) K) gX) hA hh aJ (CQ i aF hI) y9 zY ?_ ?_
 . refine aQ this (λr O h₁=>?_) λzz zz e=>e.elim;cases r with
   | none=>exact aQ h₁ (λf aP lE=>lE) λzz zz e=>e.elim
   | some v=>exact aQ h₁ (λzz oG vL=>aQ vL (λzz vK CR=>aQ CR (λf aP lE=>by cases f <;> exact lE) λzz zz e=>e.elim) λzz zz e=>e.elim) λzz zz e=>e.elim
 . intro he s' z' t;refine wpAny_execs_nil ?_;obtain i3:i=items.length:=by rw [List.getElem?_eq_none_iff] at he;exact yO hi he
   clear he hi y9;subst i3;exact ⟨aX,ap,.next,aF,am.others hn t.same,z',rfl,done aF hI⟩
 . intro y hy;refine ⟨turn i y aF hy hI,λF' aE S' s' z' f' p' k' up=>?_⟩;obtain stN:=am.Hn hn up;refine aQ (k' A F' aE s' hA z') (λf dW Rc=>Rc.casesOn λfH eh fl fY eR fZ hf j7=>?_) (λzz zz Zi=>Zi.casesOn λzz zz zz zz zz zz zz q=>q.elim);have FQ:=stN.trans eR;obtain IZ:i+1<=items.length:=(bN hy).1;obtain Ho:=W.keep p' f' z' eR fZ;obtain Hp:=(f'.step eR).1;cases fl with
   | next=>cases hf;exact (kl _ (pB hi) fH eh fY (i+1) FQ fZ Hp j7 Ho IZ rfl)
   | cont=>cases hf;exact (kl _ (pB hi) fH eh fY (i+1) FQ fZ Hp j7 Ho IZ rfl)
   | brk=>clear Rc;subst hf;exact ⟨fH,eh,.next,fY,FQ,fZ,rfl,j7⟩
   | ret u=>clear Rc;refine e1a1 hf λru o2 Rd=>?_;clear hf;obtain rfl:=o2;exact ⟨fH,eh,.ret u,fY,FQ,fZ,(ae ru rfl Rd),j7⟩
inductive Rf (c:bc)(C:Cx)(t:Expr)(body:fk)(K:ip)(items:dB)(live:bg->Prop)(Z:AS):Prop
 | mk (I:CF) (h0:I 0 Z) (hl:∀i S',I i S'->live S'.heap) (turn:∀i y S',items[i]?=some y->I i S'->xy c C t y S' (LK c C body (mQ (I (i+1)) K) gX)) (done:∀S',I items.length S'->K .next S')
theorem c8 {t iter:Expr}{body:fk}(hh:C.handled=none)
 (h:mU c C t iter S (Rf c C t body K) gX)
 (hs:∀x,foldedSetIterable iter C.env x=pure x:=by intro _;rfl):nH c C (.For t iter body [] pos) S K gX:=by
 intro A F bs s hA z
 skip
 refine WP.standAt ?_;obtain w:=h A F bs s hA z;refine ah (aQ w (λxv dL CS=>?_) λzz zz e=>e);rw [hs];refine ah (aM (ah (wpAny_standAt (ah (wpAny_holding ?_)))));refine aQ CS (λr O ⟨F₁,bs₁,Z,it,items,live,wr,Ps,e,st,an,W,I0,hn,hf,hl,I,h0,CQ,turn,done⟩=>?_) λzz zz e=>e;refine rE e ?_;exact CP hh W I CQ turn done hA h0 an hn st hf I0
end
section
variable {c:bc}{C:Cx}{S:AS}{F F':G}{bs aE:aO}{s s':Shared}{A:Around}{X:dU}
theorem qg {K:dA}{Y:mq}(hA:jW C A)(z:St c C F bs S s)(hv:c.V F bs y v)(ha:xy c C (.Name x px) y S K)
 (hY:∀F' aE S' s',Step C.own F bs s.heap F' aE s'.heap->St c C F' aE S' s'->K S'->Y s') :
 wpAny (model c.prog c.w) A (letOwnedTupleGo (.Name x px) it v) (λzz oG=>wpAny (model c.prog c.w) A (assign (.Name x px) C.env v) (λzz ac=>Y ac) E oG) E s:=by
 refine wpAny_of_eq (show letOwnedTupleGo (.Name x px) it v=pure () from rfl) ?_;obtain FG:xc c C (.Name x px) y S K gX:=by cases y <;> exact ha
 exact aQ (FG A F bs s v hA z hv) (λzz ac Re=>Re.casesOn λF' aE zz S' st z' zz k=>hY F' aE S' ac st z' k) λzz zz Zj=>Zj.casesOn λzz zz zz zz zz zz zz q=>q.elim
theorem Iter.walks (W:∀A:Around,A.handled=none->Walks c.prog c.w A it fp wr n P Pv)(hn:n=items.length)
 (Rg:∀b∈fp,b∈wr\/∃o,F₀ b=some o) (hP:∀i v,i < n->P i v->∃y,items[i]?=some y/\c.V F₀ bs₀ y v)
 (IR:∀i h,Pv i h->∀b∈wr,∃o,h.get? b=some o/\o.cls≠.none/\o.cls≠.type "frame") :
 Iter c (.Name x px) it items (λzz=>True) wr (λi F bs s=>Pv i s.heap/\i<=n/\(∀b o,F₀ b=some o->F b=some o)/\∃nb,bs=bs₀++nb):=by
 have keep:∀{C:Cx} {i own F bs S s F' aE S' s'},(Pv i s.heap/\i<=n/\(∀b o,F₀ b=some o->F b=some o)/\∃nb,bs=bs₀++nb)->cf c C F bs wr s.heap->(∀a∈wr,a∉own)->St c C F bs S s->Step own F bs s.heap F' aE s'.heap->St c C F' aE S' s' ->
  (Pv i s'.heap/\i<=n/\(∀b o,F₀ b=some o->F' b=some o)/\∃nb,aE=bs₀++nb):=by
  intro C i own F bs S s F' aE S' s' o1;obtain ⟨h1,hi,h2,nb,rfl⟩:=o1;intro hf hw z st z';refine e1a1 st.ext λwS e zz=>?_;refine (gP ((W {} rfl).frame i _ _ h1 λb hb o ho=>?_) hi (λb o e=>st.sub _ _ (h2 _ _ e)) (nb++wS) (by simp only [e,List.append_assoc]))
  (refine aN (Rg b hb) (λq=>?_) (λrQ=>?_);rotate_left;refine e1a0 rQ λo' q=>?_;rotate_right)
  . exact (hf.vJ hw st).2 b q o ho
  . obtain this:=z.wd.sub _ _ (h2 _ _ q);refine rE (bo (aB (aq ho) this)) ?_;exact z'.wd.sub _ _ (st.sub _ _ (h2 _ _ q))
 refine ⟨keep,?_,?_⟩
 . intro C A i F bs S s N Y E K hA hh z _ o2;obtain ⟨h1,hi,h2,nb,rfl⟩:=o2;intro hf hN hY;obtain WA:=W A (hA.handled.trans hh);by_cases eX:i < n
   . refine WA.item i s _ _ eX h1 λv h' tk Pw bd hk=>?_;refine e1a1 (hP i v eX Pw) λy hy hv=>?_;refine e0a1 (hY y hy) λha hc=>?_;have t:cE wr s {s with heap:=h',toks:=tk}:=⟨λb hb o e=>hk b o hb e,rfl,rfl⟩
     obtain an:=z.frees t hf;have lw:cf c C F (bs₀++nb) wr h':=⟨hf.free,IR _ _ bd⟩
     refine qg hA an (cU.mono h2 hv) ha λF' aE S' s' st z' k=>?_;exact hc F' aE S' s' z' (lw.step (s:={s with heap:=h',toks:=tk}) st).1 (keep (s:={s with heap:=h',toks:=tk}) (gP bd eX h2 nb rfl) lw (λa ha=>(lw.free a ha).own) an st z') k
      ((Step.mT t λa ha=>e1a1 (lw.at_ a ha) λo e zz=>(ck o e)).trans (st.widen λa ha=>.inl (fg (.inr ha))))
   . obtain i3:i=n:=tK hi eX;clear eX hY;cases i3;refine WA.done s _ _ h1 λh' tk hk=>?_;obtain t:cE wr s {s with heap:=h',toks:=tk}:=⟨λb hb o e=>hk b o hb e,rfl,rfl⟩
     exact hN (by simp [hn]) _ (z.frees t hf) t
 . intro A i F bs s Q E hh o3;obtain ⟨h1,hi,h2,nb,rfl⟩:=o3;intro hq;exact (W A hh).self i s Q E h1 hq
theorem Iter.list (hv:c.V F₀ bs₀ v (.ref l)) :
 Iter c (.Name x px) it items (λH=>cm ⟨[],H⟩ v items) [it] (λi F bs s=>s.heap.IsListIter it l i/\i<=items.length/\(∀b o,F₀ b=some o->F b=some o)/\∃nb,bs=bs₀++nb):=by
 have keep:∀{C:Cx} {i own F bs S s F' aE S' s'},(s.heap.IsListIter it l i/\i<=items.length/\(∀b o,F₀ b=some o->F b=some o)/\∃nb,bs=bs₀++nb)->cf c C F bs [it] s.heap->(∀a∈[it],a∉own)->St c C F bs S s->Step own F bs s.heap F' aE s'.heap->St c C F' aE S' s' ->
  (s'.heap.IsListIter it l i/\i<=items.length/\(∀b o,F₀ b=some o->F' b=some o)/\∃nb,aE=bs₀++nb):=by
  intro C i own F bs S s F' aE S' s' o1;obtain ⟨⟨o,h1,r⟩,hi,h2,nb,rfl⟩:=o1;intro hf hw z st z';refine e1a1 st.ext λwS e zz=>?_;exact (gP (ae o ((hf.vJ hw st).2 it (.head _) o h1) r) hi (λb o e=>st.sub _ _ (h2 _ _ e)) (nb++wS) (by rw [e,List.append_assoc]))
 refine ⟨keep,?_,?_⟩
 . intro C A i F bs S s N Y E K hA hh z hl o2;obtain ⟨h1,hi,h2,nb,rfl⟩:=o2;intro hf hN hY;have rS:cm S v items:=hl;refine e2a3 (z.seq rS (cU.mono h2 hv)) λl' vs e hL be zz=>?_;obtain rfl:=Value.ref.inj e;cases hx:items[i]? with
   | none =>
     refine wpAny_pyNext_list_end (hA.handled.trans hh) h1 hL.isList (by simpa using be.get_none hx) λh' kr=>?_;obtain t:cE [it] s {s with heap:=h'}:=⟨λb hb o e=>kr b o (by simpa using hb) e,rfl,rfl⟩
     exact hN hx _ (z.frees t hf) t
   | some y =>
     refine e1a1 (be.get hx) λrv Rh Zk=>?_;refine wpAny_pyNext_list_item h1 hL.isList (by simpa using Rh) λlE CT oH=>?_;refine e0a1 (hY y hx) λha hc=>?_;have t:cE [it] s {s with heap:=lE}:=⟨λb hb o e=>(oH.2 b (by simpa using hb)).trans e,rfl,rfl⟩
     obtain an:=z.frees t hf;have lw:cf c C F (bs₀++nb) [it] lE:=⟨hf.free,λa ha=>by refine rE (bp ha) ?_;refine e1a2 CT λo q1 q2 zz=>?_;exact (aH o q1 (by lia) (by lia))⟩
     refine qg hA an Zk ha λF' aE S' s' st z' k=>?_;exact hc F' aE S' s' z' (lw.step (s:={s with heap:=lE}) st).1 (keep (s:={s with heap:=lE}) (gP CT ((bN hx).1) h2 nb rfl) lw (λa ha=>(lw.free a ha).own) an st z') k
      ((Step.mT t λa ha=>e1a1 (lw.at_ a ha) λo e zz=>(ck o e)).trans (st.widen λa ha=>.inl (fg (.inr ha))))
 . intro A i F bs s Q E hh o3;obtain ⟨h1,hi,h2,nb,rfl⟩:=o3;intro hq;exact wpAny_pyIter_listiter h1 hq
theorem CU {K:dB->(bg->Prop)->dA}
 (h:Ev c C iter S (λv Z=>∀A F bs s r,jW C A->St c C F bs Z s->c.V F bs v r->wpAny (model c.prog c.w) A (pyIter r)
  (Rb c C t F bs s.heap K)
  (WX c C F bs s.heap X) s) X):mU c C t iter S K X:=by
 intro A F bs s hA z;refine aQ (h A F bs s hA z) (λr O Zl=>Zl.casesOn λF₁ bs₁ v Z al an hv k₁=>?_) λzz zz e=>e;refine aQ (k₁ A F₁ bs₁ O r hA an hv) (λr s' ⟨F',aE,S',it,items,live,wr,Ps,e,st,z',W,p,hn,hf,hl,k⟩=>⟨F',aE,S',it,items,live,wr,Ps,e,al.trans st,z',W,p,λa ha=>?_,hf,hl,k⟩)
  λx s' Zm=>Zm.casesOn λF' aE cls S' st z' hx k=>⟨F',aE,cls,S',al.trans st,z',hx.back al.mono,k⟩
 cases q:s.heap.get? a with
 | none=>rfl
 | some o=>refine e1a0 (al.mono _ _ q) λo' e'=>?_;exact bE (aB (aq (hn a ha)) e')
theorem cf.one (z:St c C F bs S s)(hn:s.heap.get? a=none)(ho:h'.get? a=some o)(h1:o.cls≠.none)(h2:o.cls≠.type "frame"):cf c C F bs [a] h' :=
 ⟨λb hb=>by simp only [bp hb];exact z.d7 hn,λb hb=>by rw [bp hb];exact (aH o ho h1 h2)⟩
@[reducible] def Ri (K:dB->(bg->Prop)->dA):dC:=λv S=>∃xs,cm S v xs/\K xs (λH=>cm ⟨[],H⟩ v xs) S
@[reducible] def Rj (K:dB->(bg->Prop)->dA):dC:=λv S=>∃xs,v=.tup xs/\K xs (λzz=>True) S
theorem eA {K:dB->(bg->Prop)->dA}(h:Ev c C iter S (Ri K) X):mU c C (.Name x px) iter S K X:=by
 refine CU (lg h λv Z Zn=>e1a1 Zn λxs rS k A F bs s r hA z hv=>?_);refine e2a3 (z.seq rS hv) λl vs yV hL be zz=>?_;obtain rfl:=yV;refine wpAny_pyIter_list hL.isList ?_;obtain hn:s.heap.get? s.heap.objs.size=none:=gE (bu _);obtain ha:(s.heap.push {cls:=.type "list_iterator",data:=.fields #[.ref l,.int 0 0]}).get? s.heap.objs.size=some {cls:=.type "list_iterator",data:=.fields #[.ref l,.int 0 0]}:=cT _ rfl;obtain m:bf c F bs s {s with heap:=s.heap.push {cls:=.type "list_iterator",data:=.fields #[.ref l,.int 0 0]}}:=⟨λb o e=>bU _ e,rfl,rfl⟩
 exact ⟨F,bs,Z,_,xs,_,_,_,rfl,.keep m,z.keep m,Iter.list hv,(gP (aH _ ha rfl rfl) (Nat.zero_le _) (λzz zz e=>e) [] (by simp)),λa q=>by rw [bp q];exact hn,cf.one z hn ha (by simp) (by simp),rS,k⟩
theorem qh {K:dB->(bg->Prop)->dA}(h:Ev c C iter S (Rj K) X):mU c C (.Name x px) iter S K X:=by
 refine CU (lg h λv Z WT=>e1a1 WT λxs e k A F bs s r hA z hv=>?_);clear WT;subst e;refine e2a2 hv.inv λa vs xr ht be=>?_;refine rE xr ?_;obtain LQ:s.heap.IsTuple a vs.toArray:=(dh _ (z.wd.sub _ _ ht) rfl 0 rfl)
 refine wpAny_pyIter_tuple LQ ?_;obtain hn:s.heap.get? s.heap.objs.size=none:=gE (bu _);obtain ha:(s.heap.push {cls:=.type "tuple_iterator",data:=.fields #[.ref a,.int 0 0]}).get? s.heap.objs.size=some {cls:=.type "tuple_iterator",data:=.fields #[.ref a,.int 0 0]}:=cT _ rfl;obtain m:bf c F bs s {s with heap:=s.heap.push {cls:=.type "tuple_iterator",data:=.fields #[.ref a,.int 0 0]}}:=⟨λb o e=>bU _ e,rfl,rfl⟩
 obtain ge:a≠s.heap.objs.size:=bS (Heap.lt_size (z.wd.sub _ _ ht));refine ⟨F,bs,Z,_,xs,_,[s.heap.objs.size],_,rfl,.keep m,z.keep m,Iter.walks (F₀:=F) (bs₀:=bs) (λA hA=>Walks.tuple hA s.heap.objs.size a ge vs.toArray) (be.length) ?_ ?_ ?_,
  (gP ⟨(aH _ ha rfl rfl),(dh _ (m.keep _ _ (z.wd.sub _ _ ht)) rfl 0 rfl)⟩ (Nat.zero_le _) (λzz zz e=>e) [] (by simp)),λa q=>by rw [bp q];exact hn,cf.one z hn ha (by simp) (by simp),trivial,k⟩
 . intro b hb;rcases cu hb with e | hb
   . exact .inl (by simp [e])
   . rw [bp hb];exact .inr (ck _ ht)
 . intro i v _ lG;obtain eX:i < vs.length:=by obtain this:=(Array.getElem?_eq_some_iff.mp lG).1;exact this
   have LZ:i < xs.length:=by simp only [<-be.length];exact eX
   refine e1a1 (be.get (cp LZ)) λv' h1 h2=>?_;obtain this:vs[i]?=some v:=by simpa using lG
   refine rE (bo (aB (aq this) h1)) ?_;exact (ae _ (cp LZ) h2)
 . intro i h o1;refine e0a1 o1 λK9 zz=>?_;clear o1;refine e1a2 K9 λo q1 q2 zz=>?_;clear K9;intro b hb;refine rE (bp hb) ?_;exact (aH o q1 (by rw [q2];simp) (by rw [q2];simp))
theorem vM {x:Str}{px:Pos}{f:Expr}{args:dM}{pos:Pos}{K:dB->(bg->Prop)->dA}
 (h:Ev c C f S (λv Z=>v=.raw (.type "range")/\pO c C pos args Z (λvs aF=>∃a b d:Int,(vs=[.int b]/\a=0/\d=1\/vs=[.int a,.int b,.int d]/\d≠0/\Builtin.divisionGoesByPylong (b - a) d=false)/\Builtin.Range.small a b d=true /\
  ∃n:Nat,Builtin.Range.rangeSize a b d=n/\K ((List.range n).map λ(i:Nat)=>AV.int (a+(i:Int)*d)) (λzz=>True) aF) X) X)
 (he:eval (.Call f args [] pos) C.env=(do callWith pos (<-eval f C.env) [] (backTo pos (starEach args C.env)) (backToKw pos (keywordEach [] C.env))):=by rfl)
 (pc:(backTo pos (starEach args C.env)).any (·.1)=false:=by rfl)
 (hl:pk (backTo pos (starEach args C.env))=false:=by rfl):mU c C (.Name x px) (.Call f args [] pos) S K X:=by
 intro A F bs s hA z;simp only [he];refine ah (aQ (h A F bs s hA z) (λr O ⟨F₁,bs₁,v,Z,al,an,hv,e,k₁⟩=>?_) λzz zz e=>e);subst e;obtain ⟨_,rfl⟩:=hv.inv;refine PySem.callWith_type pc ?_;refine aQ (ic hA an k₁ hl) (λa ac ⟨aX,ap,vs,aF,am,aJ,⟨pt,be⟩,k₂⟩=>?_) λx ac Zo=>Zo.casesOn λaX ap cls aF am aJ hx k₂=>⟨aX,ap,cls,aF,al.trans am,aJ,hx.back al.mono,k₂⟩
 refine rE pt ?_;obtain ⟨lo,hi,d,qi,WU,n,hsz,bn⟩:=k₂;have fin:∀(aP:Shared) (r:Addr) (t u w:Tok),bf c aX ap ac aP->IsRange aP.heap r lo hi d t u w->wpAny (model c.prog c.w) A (pyIter (.ref r)) (Rb c C (.Name x px) F bs s.heap K)
  (WX c C F bs s.heap X) aP:=by
  intro aP r t u w m hr;refine wpAny_pyIter_range hr WU ?_;obtain a6:=aJ.keep m;obtain hn:aP.heap.get? aP.heap.objs.size=none:=gE (bu _);obtain ha:=cT aP.heap (o:={cls:=.type "range_iterator",data:=.fields #[rawInt lo,rawInt (Builtin.Range.rangeSize lo hi d),rawInt d]}) rfl;obtain m':bf c aX ap aP {aP with heap:=aP.heap.push {cls:=.type "range_iterator",data:=.fields #[rawInt lo,rawInt (Builtin.Range.rangeSize lo hi d),rawInt d]}}:=⟨λb o e=>bU _ e,rfl,rfl⟩
  have st:Step C.own F bs s.heap aX ap aP.heap:=(al.trans am).trans (.keep m);refine ⟨aX,ap,aF,_,_,_,[aP.heap.objs.size],_,rfl,st.trans (.keep m'),a6.keep m',Iter.walks (F₀:=aX) (bs₀:=ap) (λA hA=>Walks.range hA aP.heap.objs.size lo d n) (by simp) (λb hb=>.inl hb) ?_ ?_,
   (gP ?_ (Nat.zero_le _) (λzz zz e=>e) [] (by simp)),λa q=>?_,cf.one a6 hn ha (by simp) (by simp),trivial,bn⟩
  . intro i v hi o1;refine e1a0 o1 λt yW=>?_;clear o1;obtain rfl:=yW;exact (ae (.int (lo+(i:Int)*d)) (by simp [hi]) (.int _ _))
  . rintro i h q b hb;refine rE (bp hb) ?_;exact (aH _ q (by simp) (by simp))
  . show (aP.heap.push {cls:=.type "range_iterator",data:=.fields #[rawInt lo,rawInt (Builtin.Range.rangeSize lo hi d),rawInt d]}).get? aP.heap.objs.size=_;refine (aq ha)▸(aq hsz)▸?_;simp
  . refine rE (bp q) ?_;cases e:s.heap.get? aP.heap.objs.size with
    | none=>rfl
    | some o=>refine e1a0 (st.mono _ _ e) λo' e'=>?_;exact bE (aB (aq hn) e')
 clear bn hsz WU;rcases qi with ⟨e,rfl,rfl⟩ | ⟨e,hd,hp⟩
 . subst e;obtain ⟨ps,kw⟩:=a;refine e2a2 be.inv λzz zz yX h1 h2=>?_;refine rE yX ?_;refine e1a0 h1.inv λzz wT=>?_;refine rE wT ?_;clear be pt;refine rE h2.inv ?_;exact call_range_1 (fin _ _ _ _ _ ⟨λb o e=>bU _ e,rfl,rfl⟩ (IsRange.new ..))
 . subst e;obtain ⟨ps,kw⟩:=a;refine e2a2 be.inv λzz zz s4 h1 h2=>?_;refine rE s4 ?_;refine e1a0 h1.inv λzz u5=>?_;refine rE u5 ?_;refine e2a2 h2.inv λzz zz u6 h3 h4=>?_;refine rE u6 ?_;refine e1a0 h3.inv λzz rO=>?_;refine rE rO ?_;refine e2a2 h4.inv λzz zz rP h5 h6=>?_;refine rE rP ?_;refine e1a0 h5.inv λzz rD=>?_;refine rE rD ?_;clear h4 be pt h2;refine rE h6.inv ?_;exact call_range_3 hd (fin _ _ _ _ _ ⟨λb o e=>bU _ e,rfl,rfl⟩ (IsRange.new ..)) (.inl hp)
end
section
variable {c:bc}{C:Cx}{S:AS}{F F':G}{bs aE:aO}{s s':Shared}{A:Around}{X:dU}{K:dC}
theorem bq.one (h:c.Vs F bs [x] rs):∃r,rs=[r]/\c.V F bs x r:=by cases h with | cons h1 h2=>cases h2;exact (ae _ rfl h1)
theorem bq.two (h:c.Vs F bs [x,y] rs):∃r q,rs=[r,q]/\c.V F bs x r/\c.V F bs y q:=by
 cases h with | cons h1 h2=>refine e1a1 (bq.one h2) λq mo h3=>?_;refine rE mo ?_;exact (b7 _ q rfl h1 h3)
theorem St.gZ (z:St c C F bs S s)(hv:c.V F bs (.ref k) r)(hk:S.heap[k]?=some o):∃a,r=.ref a/\bs[k]?=some a/\fA c F bs s.heap a o/\(o≠.gone->F a=none):=by
 cases hv with | ref h1=>exact (aH _ rfl h1 (z.wd.obj k _ _ h1 hk))
theorem St.lh (z:St c C F bs S s){k:Nat}{a:Addr}{xs xs':dB}{vs vs':iy}{n:Nat}(hk:bs[k]?=some a)(ho:S.heap[k]?=some (.list xs))(h0:s.heap.get? a=some (bx vs n))(be:c.Vs F bs xs' vs')(f:Array Value->Array Value)(hf:(f vs.toArray).toList=vs') :
 let s':Shared:={s with heap:=s.heap.update a (Obj.mapSeq f)}
 Step C.own F bs s.heap F bs s'.heap/\St c C F bs {S with heap:=S.heap.set k (.list xs')} s':=by
 intro s';obtain e:∃n',(bx vs n).mapSeq f=bx vs' n':=by refine (ck (if (f vs.toArray).size==vs.toArray.size then n else n+1) ?_);clear be;subst hf;rfl
 obtain ⟨n',e⟩:=e;obtain g:s'.heap.get? a=some (bx vs' n'):=by obtain this:=hK (f:=Obj.mapSeq f) h0 (rfl);rw [e] at this;exact this
 obtain hs:Heap.SameBut a s.heap s'.heap:=Heap.SameBut.update ..;obtain T:fG a s s':=⟨λb q o e=>(hs.2 b q).trans e,(ck _ g),rfl,rfl⟩
 exact ⟨.upd T (.inl (ct hk)),z.upd T hk ho (by simp) (ae vs' (ck n' g) be)⟩
theorem dR (hk:S.heap[k]?=some (.list xs))(hsz:xs.length<=sizeLine)(k':K .none {S with heap:=S.heap.set k (.list (xs++[x]))}):dD c C (.builtin "list.append") [.ref k,x] S K X:=by intro A F bs s rs hA z hv;refine e2a2 hv.two λr q o9 h1 h2=>?_;refine rE o9 ?_;clear hv;refine e1a3 (z.gZ h1 hk) λa L4 hb u5 zz=>?_;refine e1a1 u5 λvs yV be=>?_;clear u5;obtain ⟨n,h0⟩:=yV;refine rE L4 ?_;refine call_meets PySem.F.slot_list_append (ae _ h0 rfl) PySem.F.entry_list_append (PySem.F.args_list_append_2 _ _) (AutoListH.list_append_list_val_0 a vs.toArray n q (by simp [be.length,hsz])) ?_;obtain this:=z.lh (xs':=xs++[x]) (vs':=vs++[q]) hb hk h0 (be.append (.cons h2 .nil)) (λx=>x.push q) (by simp);exact ⟨h0,F,bs,.none,_,this.1,this.2,.none,k'⟩
theorem bq.erase (i:Nat)(h:c.Vs F bs xs vs):c.Vs F bs (xs.eraseIdx i) (vs.eraseIdx i):=by
 induction xs generalizing vs i with
 | nil=>refine rE h.inv ?_;exact .nil
 | cons x l ih =>
   refine e2a2 h.inv λzz zz o8 h1 h2=>?_;refine rE o8 ?_;cases i with
   | zero=>exact h2
   | succ i=>exact .cons h1 (ih i h2)
theorem xA (h1:-(2 ^ 63)<=i)(h2:i < 2 ^ 63):Builtin.List.listFitsIndex i=true:=by delta Builtin.List.listFitsIndex;simp only [cZ,decide_eq_true_eq];exact ⟨h1,h2⟩
set_option tactic.hygienic true in
theorem za (hk:S.heap[k]?=some (.list xs))(hsz:xs.length<=sizeLine)(hj:seqIndex? i xs.length=some j)(hy:xs[j]?=some y)(L5:-(2 ^ 63)<=i)(IZ:i < 2 ^ 63)
 (k':K y {S with heap:=S.heap.set k (.list (xs.eraseIdx j))}):dD c C (.builtin "list.pop") [.ref k,.int i] S K X:=by
 intro A F bs s rs hA z hv;refine e2a2 hv.two λr q o7 h1 h2=>?_;refine rE o7 ?_;refine e1a3 (z.gZ h1 hk) λa L6 hb u6 _=>?_;refine e1a1 u6 λvs xr be=>?_;clear u6;obtain ⟨n,h0⟩:=xr;refine rE L6 ?_;clear hv;refine e1a0 h2.inv λ_ o6=>?_;refine rE o6 ?_;refine e1a1 (be.get hy) λv Rk Rm=>?_;refine call_meets PySem.F.slot_list_pop (ae _ h0 rfl) PySem.F.entry_list_pop (PySem.F.args_list_pop_2 _ _) (MeetsSeq.list_pop_at a vs.toArray n i _ j v (xA L5 IZ) (by simpa [be.length] using hj) (by simpa using Rk) (by simp [be.length,hsz])) ?_;obtain this:=z.lh (xs':=xs.eraseIdx j) (vs':=vs.eraseIdx j) hb hk h0 (bq.erase j be) (λx=>x.eraseIdxIfInBounds j) (by
  simp only [Array.eraseIdxIfInBounds]
  split
  . simp
  . rename_i hn;simp at hn;rw [List.eraseIdx_of_length_le hn])
 exact ⟨h0,F,bs,y,_,this.1,this.2,Rm,k'⟩
set_option tactic.hygienic true in
theorem CV (hk:S.heap[k]?=some (.list (xs++[y])))(hsz:xs.length+1<=sizeLine)
 (k':K y {S with heap:=S.heap.set k (.list xs)}):dD c C (.builtin "list.pop") [.ref k] S K X:=by
 intro A F bs s rs hA z hv;refine e1a1 hv.one λr o5 h1=>?_;refine rE o5 ?_;clear hv;refine e1a3 (z.gZ h1 hk) λa L7 hb rO _=>?_;refine e1a1 rO λvs yW be=>?_;clear rO;obtain ⟨n,h0⟩:=yW;refine rE L7 ?_;have hlen:vs.length=xs.length+1:=by rw [be.length];simp
 refine e1a1 (be.get (i:=xs.length) (x:=y) (by simp)) λv Rk Rm=>?_;refine call_meets PySem.F.slot_list_pop (ae _ h0 rfl) PySem.F.entry_list_pop (PySem.F.args_list_pop_1 _) (MeetsSeq.list_pop_last a vs.toArray n v (by simpa [hlen] using Rk) (by simp [hlen,hsz])) ?_;obtain e:(xs++[y]).eraseIdx xs.length=xs:=by rw [List.eraseIdx_append_of_length_le (bu _)];simp
 obtain this:=z.lh (xs':=xs) (vs':=vs.eraseIdx xs.length) hb hk h0 (by obtain this:=bq.erase xs.length be;rw [e] at this;exact this) (λx=>x.eraseIdxIfInBounds (vs.toArray.size - 1)) (by
  have e2:vs.toArray.size - 1=xs.length:=by simp [hlen]
  simp only [Array.eraseIdxIfInBounds,e2]
  split
  . simp
  . rename_i hn;simp [hlen] at hn)
 exact ⟨h0,F,bs,y,_,this.1,this.2,Rm,k'⟩
theorem FR (hk:S.heap[k]?=some (.list xs))(hsz:xs.length<=sizeLine)(k':K .none {S with heap:=S.heap.set k (.list [])}):dD c C (.builtin "list.clear") [.ref k] S K X:=by intro A F bs s rs hA z hv;refine e1a1 hv.one λr o4 h1=>?_;refine rE o4 ?_;clear hv;refine e1a3 (z.gZ h1 hk) λa L8 hb rP zz=>?_;refine e1a1 rP λvs yX be=>?_;clear rP;obtain ⟨n,h0⟩:=yX;refine rE L8 ?_;refine call_meets PySem.F.slot_list_clear (ae _ h0 rfl) PySem.F.entry_list_clear (PySem.F.args_list_clear_1 _) (AutoSeq1.list_clear_list_0 a vs.toArray n (by simp [be.length,hsz])) ?_;obtain this:=z.lh (xs':=[]) (vs':=[]) hb hk h0 .nil (λzz=>#[]) (rfl);exact ⟨h0,F,bs,.none,_,this.1,this.2,.none,k'⟩
theorem St.kz (z:St c C F bs S s)(h:cm S v xs)(hv:c.V F bs v r):∃l vs n,r=.ref l/\s.heap.get? l=some (bx vs n)/\c.Vs F bs xs vs:=by refine e2a3 (z.seq h hv) λl vs e rD h2 zz=>?_;refine e1a0 rD λn h1=>?_;clear rD;exact (gw l vs n e h1 h2)
theorem vN (hk:S.heap[k]?=some (.list xs))(hv:cm S v ys)(hsz:xs.length+ys.length<=sizeLine)(k':K .none {S with heap:=S.heap.set k (.list (xs++ys))}):dD c C (.builtin "list.extend") [.ref k,v] S K X:=by
 intro A F bs s rs hA z WW;refine e2a2 WW.two λr q o3 h1 h2=>?_;refine rE o3 ?_;refine e1a3 (z.gZ h1 hk) λa L9 hb rQ zz=>?_;refine e1a1 rQ λvs wT be=>?_;clear rQ;obtain ⟨n,h0⟩:=wT;refine rE L9 ?_;clear WW;refine e3a2 (z.kz hv h2) λb us n2 o2 h3 I1=>?_;refine rE o2 ?_;refine call_meets PySem.F.slot_list_extend (ae _ h0 rfl) PySem.F.entry_list_extend (PySem.F.args_list_extend_2 _ _) (AutoSeq1.list_extend_list_list_0 a vs.toArray n b us.toArray n2 ?_ ?_ ?_) ?_
 . obtain this:sizeLine=2 ^ 24:=rfl;simp [Builtin.List.listTooLong,be.length,I1.length];intro _;exact hsz
 . simp [be.length];exact Nat.le_of_add_right_le hsz
 . simp [be.length,I1.length];exact Nat.le.step hsz
 obtain this:=z.lh (xs':=xs++ys) (vs':=vs++us) hb hk h0 (be.append I1) (λx=>x++us.toArray) (by simp);exact (aG h0 h3 ⟨F,bs,.none,_,this.1,this.2,.none,k'⟩)
theorem lX (ha:s.TypeIs (.ref a) "list")(hb:s.TypeIs (.ref b) "list")
 (hc:wpAny M A (call (.builtin "list.__iadd__") [.ref a,.ref b]) Q E s):wpAny M A (inplaceOp .Add (.ref a) (.ref b)) Q E s:=by
 refine wpAny_holding ?_;have Px:fillsInplaceSlot (.type "list") "add" (Operator.Add==.Add)=pure false:=by
  skip
  skip;rfl
 have Zp:seqSlot? (.type "list") (dunderI "add")=pure (some (.builtin "list.__iadd__")):=by
  skip
  skip;rfl
 refine ah (wpAny_typeOf ha (ah (wpAny_of_eq Px ?_)));refine ah (wpAny_binaryOp1_none (nm:="add") ha hb (by first | exact CW | kernel_rfl) ?_);refine ah (wpAny_of_eq Zp ?_);exact ah (wpAny_rule hc)
theorem vO (hk:S.heap[k]?=some (.list xs))(hv:cm S v ys)(hsz:xs.length+ys.length<=sizeLine)(k':K (.ref k) {S with heap:=S.heap.set k (.list (xs++ys))}):jF c C (inplaceOp .Add) (.ref k) v S K X:=by
 intro A F bs s ra rb hA z h1 h2;have z8:=h1;refine e1a3 (z.gZ h1 hk) λa rF hb tz zz=>?_;obtain rfl:=rF;refine e1a1 tz λvs s4 be=>?_;clear tz;obtain ⟨n,h0⟩:=s4;refine e3a2 (z.kz hv h2) λb us n2 o1 h3 I1=>?_;refine rE o1 ?_;refine lX (ae _ h0 rfl) (ae _ h3 rfl) ?_;refine call_meets PySem.F.slot_list_iadd (ae _ h0 rfl) PySem.F.entry_list_iadd (PySem.F.args_list_iadd_2 _ _) (AutoSeq1.list___iadd___list_list_0 a vs.toArray n b us.toArray n2 ?_ ?_ ?_) ?_
 . obtain this:sizeLine=2 ^ 24:=rfl;simp [Builtin.List.listTooLong,be.length,I1.length];intro _;exact hsz
 . simp [be.length];exact Nat.le_of_add_right_le hsz
 . simp [be.length,I1.length];exact Nat.le.step hsz
 obtain this:=z.lh (xs':=xs++ys) (vs':=vs++us) hb hk h0 (be.append I1) (λx=>x++us.toArray) (by simp);exact (aG h0 h3 ⟨F,bs,.ref k,_,this.1,this.2,z8,k'⟩)
end
def lF (K:dC)(xs:dB)(S:AS):Prop:=K (.lst xs) S\/K (.ref S.heap.length) {S with heap:=S.heap++[.list xs]}
section
variable {c:bc}{C:Cx}{S:AS}{F F':G}{bs aE:aO}{s s':Shared}{A:Around}{X:dU}{K:dC}
theorem St.t6 (z:St c C F bs S s)(m:bf c F bs s s')(hn:s.heap.get? a=none)(ha:s'.heap.get? a=some (bx vs n))(be:c.Vs F bs xs vs)(k:lF K xs S) :
 WV c C c.V F bs s.heap K (.ref a) s':=by
 (refine aN k (λk=>?_) (λk=>?_))
 . obtain hF:=z.jE hn;refine ⟨_,bs,.lst xs,S,.frozen m hF hn,z.ja m hn ha,.lst (ck n b9) ?_,k⟩;simpa using bq.mono (nb:=[]) (aW hF) be
 . refine ⟨F,_,.ref S.heap.length,_,.new m hn,z.new (o:=.list xs) m hn ha (ae vs (ck n ha) (bq.mono (λzz zz e=>e) be)),.ref ?_,k⟩;refine z.wd.len▸?_;simp
theorem St.fm (s:Shared):s.heap.get? s.heap.objs.size=none:=gE (bu _)
theorem CX (h:cm S v xs)(hl:xs.length < 2 ^ 63)(k:K (.int xs.length) S):dD c C (.builtin "len") [v] S K X:=by
 intro A F bs s rs hA z hv;refine e1a1 hv.one λr rQ h1=>?_;refine rE rQ ?_;clear hv;refine e3a2 (z.kz h h1) λl vs n tz h0 be=>?_;refine rE tz ?_;refine WP.kept z λQ E q=>Calls.call_len_list (items:=vs.toArray) (dh _ h0 rfl n rfl) (by simp [be.length];exact pC hl) (q _ _ (.toks ..) (ae (.int xs.length) ?_ k));obtain this:((vs.toArray.size:Nat):Int)=xs.length:=by simp [be.length]
 simp only [this];exact .int _ _
theorem I2 (hl:x.length < 2 ^ 63)(k:K (.int x.length) S):dD c C (.builtin "len") [.str x] S K X:=by intro A F bs s rs hA z hv;refine e1a1 hv.one λr rF h1=>?_;refine rE rF ?_;clear hv;refine e1a0 h1.inv λzz mo=>?_;refine rE mo ?_;exact WP.kept z λQ E q=>len_str (Int.not_le.mpr (Int.ofNat_lt.mpr hl)) (q _ _ (.toks ..) (ae _ (.int _ _) k))
noncomputable def signs (x:Str):dB:=x.cps.toList.map λc=>.str ⟨#[c]⟩
theorem zb (hh:C.handled=none)(hl:x.cps.size<=sizeLine)(k:lF K (signs x) S):dD c C (.type "list") [.str x] S K X:=by
 intro A F bs s rs hA z hv;refine e1a1 hv.one λr nO h1=>?_;refine rE nO ?_;clear hv;refine e1a0 h1.inv λzz o9=>?_;refine rE o9 ?_;refine call_list_str (hA.handled.trans hh) x _ (λh' tk ie c' hk ha hi=>?_) hl;obtain m:bf c F bs s {s with heap:=h',toks:=tk}:=⟨hk,rfl,rfl⟩
 refine z.t6 m (St.fm s) (vs:=ie.toList) (n:=c') (xs:=signs x) (ha) ?_ k;obtain key:∀(cs:fj) (vs:iy),vs.length=cs.length->(∀(j:Nat) (v:Value),vs[j]?=some v->∃d u,cs[j]?=some d/\v=Value.str ⟨#[d]⟩ u)->c.Vs F bs (cs.map λc=>AV.str ⟨#[c]⟩) vs:=by
  intro cs;induction cs with
  | nil=>intro vs hl _;cases vs with | nil=>exact .nil | cons=>simp at hl
  | cons d cs ih =>
    intro vs hl hj;cases vs with
    | nil=>simp at hl
    | cons v vs =>refine e2a1 (hj 0 v rfl) λd' u e1 e2=>?_;simp at e1;subst e1 e2;exact .cons (.str _ _) (ih vs (by simpa using hl) λj w hw=>by simpa using hj (j+1) w (hw))
 refine key _ _ (hi.1) λj v hj=>?_;refine e2a1 (hi.2 j v (by simpa using hj)) λd u e1 e2=>?_;exact (eO d u (by simpa using e1) e2)
theorem FT (h:cm S v xs)(hl:xs.length<=sizeLine)(k:lF K xs S):dD c C (.type "list") [v] S K X:=by
 intro A F bs s rs hA z hv;refine e1a1 hv.one λr o8 h1=>?_;refine rE o8 ?_;clear hv;refine e3a2 (z.kz h h1) λl vs n o7 h0 be=>?_;refine rE o7 ?_;refine call_list_seq l (T:="list") (.inl rfl) h0 rfl rfl (λh' c' hk ha=>?_) (by simpa [be.length] using hl);obtain m:bf c F bs s {s with heap:=h'}:=⟨hk,rfl,rfl⟩
 exact z.t6 m (St.fm s) (vs:=vs) (n:=c') (ha) be k
theorem t7 (hb:b≠0)(hp:Builtin.divisionGoesByPylong a b=false)(k:K (.int (a.fdiv b)) S):jF c C (inplaceOp .FloorDiv) (.int a) (.int b) S K X:=λA F bs s ra rb hA z ha iJ=>by refine e1a0 ha.inv λzz o6=>?_;refine rE o6 ?_;refine e1a0 iJ.inv λzz o5=>?_;refine rE o5 ?_;exact WP.kept z λQ E q=>AutoIntOps.ifloordiv_1 (by simpa using hb) (by simp [hp]) (q _ _ (.toks ..) (ae _ (.int _ _) k))
theorem gy (k:K (.int (a+b)) S):jF c C (inplaceOp .Add) (.int a) (.int b) S K X:=λA F bs s ra rb hA z ha iJ=>by refine e1a0 ha.inv λzz o4=>?_;refine rE o4 ?_;refine e1a0 iJ.inv λzz o3=>?_;refine rE o3 ?_;exact WP.kept z λQ E q=>AutoIntOps.iadd_0 (q _ _ (.toks ..) (ae _ (.int _ _) k))
theorem FU (k:K (.int (a - b)) S):jF c C (inplaceOp .Sub) (.int a) (.int b) S K X:=λA F bs s ra rb hA z ha iJ=>by refine e1a0 ha.inv λzz o2=>?_;refine rE o2 ?_;refine e1a0 iJ.inv λzz o1=>?_;refine rE o1 ?_;exact WP.kept z λQ E q=>AutoIntOps.isub_0 (q _ _ (.toks ..) (ae _ (.int _ _) k))
end
noncomputable def z9 (n:Nat)(S:AS):fi->Prop
 | []=>True
 | (i,v)::l=>S.loc.lookup i=some v/\v.under n=true/\z9 n S l
noncomputable def AO.b8 (n:Nat):bg->Bool
 | []=>true
 | o::l=>o.under n&&AO.b8 n l
@[simp] theorem Rn {n:Nat}:AO.b8 n []=true:=rfl
@[simp] theorem Ro {n:Nat} {o:AO} {hs:bg}:AO.b8 n (o::hs)=(o.under n&&AO.b8 n hs):=rfl
theorem z9.at (h:z9 n S l)(x:Nat)(u:AV)(e:l.lookup x=some u):S.loc.lookup x=some u/\u.under n=true:=by
 induction l with
 | nil=>exact bE e
 | cons p l ih =>
   rw [List.lookup_cons] at e;cases q:x==p.1 with
   | true=>rw [q] at e;rw [eq_of_beq q,<-bo e];exact ⟨h.1,h.2.1⟩
   | false=>rw [q] at e;exact ih h.2.2 e
theorem AO.lY (h:AO.b8 n l=true):∀o∈l,AO.under n o=true:=by
 induction l with
 | nil=>intro o m;exact absurd m List.not_mem_nil
 | cons p l ih =>
   intro o m;have h':(AO.under n p&&AO.b8 n l)=true:=h;rw [cZ] at h';rcases cu m with e | m
   . refine rE e ?_;exact h'.1
   . exact ih h'.2 o m
section
variable {c:bc}{C:Cx}{S:AS}
@[reducible] def Hq (n:Nat) (L:fi) (I:dA):dA:=λS=>z9 n S L/\AO.b8 n (S.heap.take n)=true/\I ⟨L,S.heap.take n⟩
@[reducible] def Ma (n:Nat) (L:fi) (I:dA) (K:ip):ip:=λfl S=>match fl with
 | .next=>Hq n L I S
 | .cont=>Hq n L I S
 | .brk=>K .next S
 | .ret v=>K (.ret v) S
theorem mV {st:fk}{K:ip}(n:Nat)(L:fi)(hn:S.heap.length=n)
 (h:Ex c C st S (Ma n L I K) gX):Ex c C st S (mQ I K) gX:=by
 subst hn;intro A F bs s hA z;obtain hl:=z.wd.len;refine aQ (h A F bs s hA z) (λr s' Rp=>Rp.casesOn λF' aE fl S' st z' hr k=>?_) (λx s' Rq=>Rq.casesOn λF' aE cls S' st z' hx k=>k.elim);have fin:∀(Mb:sz),jH c F' aE Mb r->Mb.under bs.length=true->z9 S.heap.length S' L->AO.b8 S.heap.length (S'.heap.take S.heap.length)=true->mQ I K Mb ⟨L,S'.heap.take S.heap.length⟩ ->
  WV c C (jH c) F bs s.heap (mQ I K) r s':=by
  intro Mb hr u h1 h2 k;rw [<-hl] at h1 h2 k;refine e1a0 st.fresh λnb o1=>?_;obtain rfl:=o1;exact ⟨F',bs,Mb,_,st.trim,z'.trim ⟨h1.at,AO.lY h2⟩,hr.cut u,k⟩
 cases fl with
 | next=>exact fin .next hr rfl k.1 k.2.1 k.2.2
 | cont=>exact fin .cont hr rfl k.1 k.2.1 k.2.2
 | brk=>exact ⟨F',aE,.brk,S',st,z',hr,k⟩
 | ret v=>exact ⟨F',aE,.ret v,S',st,z',hr,k⟩
theorem aI (n:Nat)(l:ag):AV.b8 n (l.map AV.str)=true:=AV.vI n l
end
theorem strs_snoc (l:ag)(x:Str):l.map AV.str++[AV.str x]=(l++[x]).map AV.str:=by simp
theorem oI (l r:ag):l.map AV.str++r.map AV.str=(l++r).map AV.str:=by simp
theorem lZ:∀(l:ag) (i:Nat),(l.map AV.str).eraseIdx i=(l.eraseIdx i).map AV.str
 | [],_=>rfl
 | _::_,0=>rfl
 | x::l,i+1=>by simp [lZ l i]
noncomputable def chars (x:Str):ag:=x.cps.toList.map λc=>⟨#[c]⟩
theorem vP (x:Str):signs x=(chars x).map AV.str:=by simp [signs,chars]
theorem jI (x:Str):(chars x).length=x.length:=by simp [chars,Str.length]
noncomputable def bB {κ α:Type} [DecidableEq κ] (kvs:List (κ×α))(k:κ):Option α:=(kvs.find? λkv=>kv.1=k).map (·.2)
noncomputable def df {κ α:Type} [DecidableEq κ] (kvs:List (κ×α))(k:κ)(v:α):List (κ×α) :=
 if kvs.any (λkv=>kv.1=k) then kvs.map (λkv=>if kv.1=k then (kv.1,v) else kv) else kvs++[(k,v)]
noncomputable def xB {κ α:Type} [DecidableEq κ] (kvs:List (κ×α))(k:κ):List (κ×α):=kvs.filter λkv=>kv.1≠k
section
variable {c:bc}{C:Cx}{S:AS}{F F':G}{bs aE:aO}{s s':Shared}{A:Around}{X:dU}{K:dC}{mg mb:fV}
theorem aU.keys (h:c.SV F bs kvs rs):rs.map (·.1)=kvs.map (·.1):=by
 induction kvs generalizing rs with
 | nil=>refine rE h.inv ?_;rfl
 | cons p l ih=>refine e2a2 h.inv λzz zz t0 zz t=>?_;refine rE t0 ?_;exact congrArg (p.1::·) (ih t)
theorem aU.get (k:Str)(h:c.SV F bs kvs rs):(∃x v,bB kvs k=some x/\valueAt rs k=some v/\c.V F bs x v)\/(bB kvs k=none/\valueAt rs k=none):=by
 delta bB valueAt;induction kvs generalizing rs with
 | nil=>obtain rfl:=h.inv;exact .inr ⟨rfl,rfl⟩
 | cons p l ih =>
   refine e2a2 h.inv λw r vQ hx t=>?_;refine rE vQ ?_;refine (aq (List.find?_cons))▸(aq (List.find?_cons))▸?_;cases decide (p.1=k) with
   | true=>exact .inl (b7 _ _ rfl rfl hx)
   | false=>exact ih t
theorem aU.any (k:Str)(h:c.SV F bs kvs rs):rs.any (λkv=>kv.1=k)=kvs.any (λkv=>kv.1=k):=by
 obtain e:=congrArg (List.any · λx=>decide (x=k)) h.keys
 rwa [List.any_map,List.any_map] at e
theorem aU.map (k:Str)(h:c.SV F bs kvs rs)(hv:c.V F bs x v):c.SV F bs (kvs.map λkv=>if kv.1=k then (kv.1,x) else kv) (rs.map λkv=>if kv.1=k then (kv.1,v) else kv):=by
 induction kvs generalizing rs with
 | nil=>refine rE h.inv ?_;exact .nil
 | cons p l ih =>
   refine e2a2 h.inv λw r t8 hx t=>?_;refine rE t8 ?_;rw [List.map_cons,List.map_cons];by_cases e:p.1=k
   . rw [if_pos e,if_pos e];exact .cons hv (ih t)
   . rw [if_neg e,if_neg e];exact .cons hx (ih t)
theorem aU.append (h:c.SV F bs kvs rs)(h':c.SV F bs Aa Py):c.SV F bs (kvs++Aa) (rs++Py):=by
 induction kvs generalizing rs with
 | nil=>refine rE h.inv ?_;exact h'
 | cons y ys ih=>refine e2a2 h.inv λzz zz Ab h1 h2=>?_;refine rE Ab ?_;exact .cons h1 (ih h2)
theorem aU.put (k:Str)(h:c.SV F bs kvs rs)(hv:c.V F bs x v):c.SV F bs (df kvs k x) (stored rs k v):=by
 delta df stored;rw [aU.any k h]
 split
 . exact aU.map k h hv
 . exact aU.append h (.cons hv .nil)
theorem aU.del (k:Str)(h:c.SV F bs kvs rs):c.SV F bs (xB kvs k) (rs.filter λkv=>kv.1≠k):=by
 delta xB;induction kvs generalizing rs with
 | nil=>refine rE h.inv ?_;exact .nil
 | cons p l ih =>
   refine e2a2 h.inv λw r CY hx t=>?_;refine rE CY ?_;refine rE List.filter_cons ?_;rw [List.filter_cons];cases decide (p.1≠k) with
   | true=>exact .cons hx (ih t)
   | false=>exact ih t
def TabOf (S:AS)(v:AV)(kvs:eQ):Prop:=v=.aZ kvs\/∃k,v=.ref k/\S.heap[k]?=some (.az kvs)
theorem St.tab (z:St c C F bs S s)(h:TabOf S v kvs)(hv:c.V F bs v r):∃d rs,r=.ref d/\s.heap.DictOf (sk c.prog c.w) d rs/\(d==sysModules)=false/\c.SV F bs kvs rs:=by
 (refine aN h (λI3=>?_) (λFS=>?_);obtain rfl:=I3;rotate_left;clear h;refine e1a1 FS λk CZ hk=>?_;clear FS;obtain rfl:=CZ;rotate_right)
 . refine e2a2 hv.inv λzz zz C0 h1 h2=>?_;obtain rfl:=C0;have z8:=h1.sub z.wd.sub;exact ⟨_,_,rfl,z8.dictOf (c:=c),(let ⟨_,_,_,_,_,_,e⟩:=h1;e),h2⟩
 . refine e1a3 (z.gZ hv hk) λa Mc hb C1 zz=>?_;refine e1a1 C1 λrs h1 h2=>?_;clear C1;refine rE Mc ?_;exact ⟨a,rs,rfl,h1.dictOf (c:=c),(let ⟨_,_,_,_,_,_,e⟩:=h1;e),h2⟩
theorem str_is (x:Str)(t:Tok):(sk prog w).is x (.str x t)=true:=by show Value.isStrOf x (.str x t)=true;simp [Value.isStrOf]
theorem C2 (h:TabOf S v kvs)(k:K (.bool (bB kvs x).isSome) S):jF c C (compareOp .In) (.str x) v S K X:=λA F bs s ra rb hA z ha hb=>by
 refine e1a0 ha.inv λzz C3=>?_;refine rE C3 ?_;refine e2a3 (z.tab h hb) λd rs C4 h1 h2 h3=>?_;refine rE C4 ?_;refine WP.kept z λQ E q=>wpAny_in_of (str_is x _) h2 h1.mapOf (q _ _ (.toks ..) (ae (.bool (bB kvs x).isSome) ?_ k));obtain this:(valueAt rs x).isSome=(bB kvs x).isSome:=by
  (refine aN (aU.get x h3) (λI4=>?_) (λI5=>?_);refine e2a2 I4 λzz zz e1 e2 zz=>?_;rotate_left;refine e0a1 I5 λe1 e2=>?_;rotate_right) <;> simp [e1,e2]
 refine rE this ?_;exact .bool _
theorem gz (h:TabOf S v kvs)(hy:bB kvs x=some y)(k:K y S):jF c C getItem v (.str x) S K X:=λA F bs s ra rb hA z ha hb=>by
 refine e1a0 hb.inv λzz C5=>?_;refine rE C5 ?_;refine e2a3 (z.tab h ha) λd rs C6 h1 h2 h3=>?_;refine rE C6 ?_
 (refine aN (aU.get x h3) (λFV=>?_) (λFW=>?_);refine e2a2 FV λy' w e1 e2 e3=>?_;rotate_left;refine e0a1 FW λe1 e2=>?_;rotate_right)
 . obtain rfl:=bo (aB (aq hy) e1);exact WP.kept z λQ E q=>wpAny_getItem_of (str_is x _) h1.mapOf e2 (q _ _ (.toks ..) (ae y e3 k))
 . exact jq (aB (aq hy) e1)
@[reducible] def Md (c:bc) (C:Cx) (o:AV) (K:dC) (X:dU):dC:=λi S=>(∃T id,xw S o=some T/\typeLookup (.type T) "__getitem__"=pure (some (.builtin id)))/\jF c C getItem o i S K X
@[reducible] def Rr (c:bc) (C:Cx) (slice:Expr) (K:dC) (X:dU):dC:=λo S=>Ev c C slice S (Md c C o K X) X
theorem cV {value slice:Expr}{pos:Pos}
 (h:Ev c C value S (Rr c C slice K X) X)
 (hs:(∀o i,subscripted slice false o i=operate [o,i] (getItem o i)):=by intro _ _;rfl):Ev c C (.Subscript value slice pos) S K X:=by
 intro A F bs s hA z
 skip
 refine WP.bind (h A F bs s hA z) λF₁ bs₁ Z O o ro al an ho k₁=>?_;refine WP.bind (WP.holding (k₁ A F₁ bs₁ O hA an)) λaX ap aF ac i ri am aJ hi Rs=>e0a1 Rs λRt=>e2a1 Rt λT id hT hl k₂=>?_;refine WP.standAt ?_;obtain zc:=am.V ho;refine e0a1 (aJ.ty hT zc) λt1 zz=>?_;obtain w:=k₂ A aX ap ac ro ri hA aJ zc hi;refine ah ?_;refine ah (wpAny_specialOf t1 hl ?_);obtain fin:wpAny (model c.prog c.w) A (subscripted slice false ro ri >>= λr=>letTemporaryGo value ro r >>= λzz=>pure r)
  (WV c C c.V aX ap ac.heap K)
  (WX c C aX ap ac.heap X) ac:=by
  rw [hs];exact ah (wpAny_operating (aQ w (λr aP lE=>ah (wpAny_letTemporaryGo (aM lE))) λzz zz x=>x))
 first
  | exact aM fin
  | exact ah (aM fin)
  | exact fin
theorem cI (h:cm S v xs):∃T id,xw S v=some T/\typeLookup (.type T) "__getitem__"=pure (some (.builtin id)):=by
 (refine aN h (λFX=>?_) (λMe=>?_);clear h;obtain rfl:=FX;rotate_left;clear h;refine e1a1 Me λk C7 hk=>?_;clear Me;obtain rfl:=C7;rotate_right)
 . exact (eO _ _ rfl PySem.F.slot_list_getitem.lookup)
 . exact (eO ("list") _ (gY hk rfl) PySem.F.slot_list_getitem.lookup)
theorem mW (h:TabOf S v xs):∃T id,xw S v=some T/\typeLookup (.type T) "__getitem__"=pure (some (.builtin id)):=by
 (refine aN h (λRu=>?_) (λMf=>?_);clear h;obtain rfl:=Ru;rotate_left;clear h;refine e1a1 Mf λk I6 hk=>?_;clear Mf;obtain rfl:=I6;rotate_right)
 . exact (eO _ _ rfl PySem.F.slot_dict_getitem.lookup)
 . exact (eO ("dict") _ (gY hk rfl) PySem.F.slot_dict_getitem.lookup)
theorem eZ (h:cm S v xs)(h0:0<=i)(h1:i < 2 ^ 63)(hy:xs[i.toNat]?=some y)(k:K y S):jF c C getItem v (.int i) S K X:=λA F bs s ra rb hA z ha hb=>by refine e1a0 hb.inv λzz I7=>?_;refine rE I7 ?_;refine e2a3 (z.seq h ha) λl vs I8 hL be zz=>?_;refine rE I8 ?_;refine e1a1 (be.get hy) λw e1 e2=>?_;exact WP.kept z λQ E q=>wpAny_getItem_list hL.isList h0 h1 (by simpa using e1) (q _ _ (.refl ..) (ae y e2 k))
theorem mX (h:cm S v (xs++[y]))(k:K y S):jF c C getItem v (.int (-1)) S K X:=λA F bs s ra rb hA z ha hb=>by
 refine e1a0 hb.inv λzz I9=>?_;refine rE I9 ?_;refine e2a3 (z.seq h ha) λl vs Ja hL be zz=>?_;refine rE Ja ?_;obtain hlen:=be.length
 skip
 refine e1a1 (be.get (i:=xs.length) (x:=y) (by simp)) λw e1 e2=>?_;refine WP.kept z λQ E q=>wpAny_getItem_list_neg hL.isList (by decide) (by simp [hlen];exact Int.ofNat_lt.mpr (Nat.le_add_left (Nat.succ 0) _)) (by decide) (x:=w) ?_ (q _ _ (.refl ..) (ae y e2 k));obtain this:(-1+((vs.toArray.size:Nat):Int)).toNat=xs.length:=by simp [hlen];exact (by simp +arith)
 refine rE this ?_;simpa using e1
@[reducible] def Jb (v ov:AV) (K:dA):dC:=λiv S=>∃k x kvs,ov=.ref k/\iv=.str x/\S.heap[k]?=some (.az kvs)/\kvs.length<=sizeLine/\K {S with heap:=S.heap.set k (.az (df kvs x v))}
@[reducible] def Mg (c:bc) (C:Cx) (i:Expr) (v:AV) (K:dA) (X:dU):dC:=λov S=>Ev c C i S (Jb v ov K) X
theorem kA {K:dA}(h:Ev c C o S (Mg c C i v K X) X):xc c C (.Subscript o i pos) v S K X:=by
 intro A F bs s r hA z hv;refine WP.bind (WP.holding (h A F bs s hA z)) λF₁ bs₁ Z O ov Mh al an lW k₁=>?_;refine WP.bind (WP.holding (k₁ A F₁ bs₁ O hA an)) λaX ap aF ac iv riv am aJ Zq Mi=>e3a4 Mi λk x kvs e1 e2 hk hsz k₂=>?_;clear Mi k₁;subst e1 e2;refine e1a0 Zq.inv λzz Rv=>?_;refine rE Rv ?_;refine e1a3 (aJ.gZ (am.V lW) hk) λa Mj hb t9 zz=>?_;refine e1a1 t9 λrs hD Hr=>?_;clear t9;refine rE Mj ?_;refine WP.standAt (ah (wpAny_holding ?_));refine wpAny_setItem_pairs (str_is x _) (hD.dictOf (c:=c)) (λh' ua db=>wpAny_release ?_) (by obtain this:=congrArg List.length (aU.keys Hr);simp at this;exact aq this▸hsz);obtain pn:(a==sysModules)=false:=(let ⟨_,_,_,_,_,_,e⟩:=hD;e)
 obtain Ac:=oB.xx (c:=c) ua pn;obtain T:fG a ac {ac with heap:=h',toks:=ac.toks+1}:=⟨λb q o e=>(db.2 b q).trans e,(let ⟨_,_,e,_⟩:=Ac;(ck _ e)),rfl,rfl⟩
 exact ⟨aX,ap,(),_,.upd T (.inl (ct hb)),aJ.upd (o':=.az (df kvs x v)) T hb hk (by simp) (ae _ Ac (aU.put x Hr (am.V (al.V hv)))),trivial,k₂⟩
end
section
variable {c:bc}{C:Cx}{S:AS}{F F':G}{bs aE:aO}{s s':Shared}{A:Around}{X:dU}{K:dC}{mg mb:fV}{pos:Pos}
@[reducible] def Zr (K:Bool->dA):Bool->dA:=λb=>K (!b)
@[reducible] def Mk (T:dA) (K:Bool->dA):Bool->dA:=λb S=>match b with | false=>K false S | true=>T S
@[reducible] def Rw (T:dA) (K:Bool->dA):Bool->dA:=λb S=>match b with | true=>K true S | false=>T S
@[reducible] def Ml (c:bc) (C:Cx) (b:Expr) (v:AV) (K:dC) (X:dU):Bool->dA:=λt S=>match t with | false=>K v S | true=>Ev c C b S K X
@[reducible] def Rx (c:bc) (C:Cx) (b:Expr) (v:AV) (K:dC) (X:dU):Bool->dA:=λt S=>match t with | true=>K v S | false=>Ev c C b S K X
@[reducible] def Jc (c:bc) (C:Cx) (a b:Expr) (K:dC) (X:dU):Bool->dA:=λv S=>match v with | true=>Ev c C a S K X | false=>Ev c C b S K X
@[reducible] def Ry (c:bc) (C:Cx) (t:Expr) (K:dC) (X:dU):dC:=λv S=>xc c C t v S (K v) X
theorem i4 {e:Expr}{K:Bool->dA}(h:Ev c C e S (Wz c C K X) X)
 (he:isTrue e C.env (eval e C.env)=(do let v <-eval e C.env;standAt e.pos;holding [v] (truthy v)):=by rfl):xp c C e S K X:=by
 intro A F bs s hA z;refine rE he ?_;refine WP.bind (h A F bs s hA z) λF₁ bs₁ Z O v r st an hv k=>?_;exact WP.standAt (WP.holding (k A F₁ bs₁ O r hA an hv))
theorem vR {K K':Bool->dA}(h:xp c C e S K' X)(hk:∀b S,K' b S->K b S):xp c C e S K X:=λA F bs s hA z=>(h A F bs s hA z).mono hk λzz zz q=>q
noncomputable def xC (c:bc)(C:Cx):dM->AS->(Bool->dA)->dU->Prop
 | [],S,K,_=>K true S
 | e::r,S,K,X=>xp c C e S (Mk (λZ=>xC c C r Z K X) K) X
noncomputable def C8 (c:bc)(C:Cx):dM->AS->(Bool->dA)->dU->Prop
 | [],S,K,_=>K false S
 | e::r,S,K,X=>xp c C e S (Rw (λZ=>C8 c C r Z K X) K) X
theorem Jd {K:Bool->dA}(hA:jW C A):∀(es:dM) (F:G) (bs:aO) (S:AS) (s:Shared),St c C F bs S s->xC c C es S K X->WP c C A (λzz zz b r=>r=b) (allTrue .And es C.env) F bs s K X:=by
 intro es;induction es with
 | nil =>intro F bs S s z h;exact WP.pure (v:=true) z rfl h
 | cons e es ih =>
   intro F bs S s z h;refine WP.bind (h A F bs s hA z) λF₁ bs₁ Z O v r st an hv k=>?_;subst hv;cases r with
   | false=>exact WP.pure (v:=false) an rfl k
   | true=>exact ih F₁ bs₁ Z O an k
theorem Mm {K:Bool->dA}(hA:jW C A):∀(es:dM) (F:G) (bs:aO) (S:AS) (s:Shared),St c C F bs S s->C8 c C es S K X->WP c C A (λzz zz b r=>r=b) (allTrue .Or es C.env) F bs s K X:=by
 intro es;induction es with
 | nil =>intro F bs S s z h;exact WP.pure (v:=false) z rfl h
 | cons e es ih =>
   intro F bs S s z h;refine WP.bind (h A F bs s hA z) λF₁ bs₁ Z O v r st an hv k=>?_;subst hv;cases r with
   | true=>exact WP.pure (v:=true) an rfl k
   | false=>exact ih F₁ bs₁ Z O an k
theorem ub {K:Bool->dA}(h:xC c C es S K X):xp c C (.BoolOp .And es pos) S K X:=λA F bs s hA z=>Jd hA es F bs S s z h
theorem C9 {K:Bool->dA}(h:C8 c C es S K X):xp c C (.BoolOp .Or es pos) S K X:=λA F bs s hA z=>Mm hA es F bs S s z h
theorem FY (h:Ev c C a S (λv Z=>Tr c C v Z (Ml c C b v K X) X) X):Ev c C (.BoolOp .And [a,b] pos) S K X:=by
 intro A F bs s hA z
 skip
 refine WP.bind (h A F bs s hA z) λF₁ bs₁ Z O v r st an hv k=>WP.standAt ?_;refine WP.bind (WP.holding (k A F₁ bs₁ O r hA an hv)) λaX ap aF ac t rt am aJ ht k₂=>?_;subst ht;cases rt with
 | false=>exact WP.pure aJ (am.V hv) k₂
 | true=>exact k₂ A aX ap ac hA aJ
theorem Je (h:Ev c C a S (λv Z=>Tr c C v Z (Rx c C b v K X) X) X):Ev c C (.BoolOp .Or [a,b] pos) S K X:=by
 intro A F bs s hA z
 skip
 refine WP.bind (h A F bs s hA z) λF₁ bs₁ Z O v r st an hv k=>WP.standAt ?_;refine WP.bind (WP.holding (k A F₁ bs₁ O r hA an hv)) λaX ap aF ac t rt am aJ ht k₂=>?_;subst ht;cases rt with
 | true=>exact WP.pure aJ (am.V hv) k₂
 | false=>exact k₂ A aX ap ac hA aJ
theorem vT (h:xp c C t S (Jc c C a b K X) X):Ev c C (.IfExp t a b pos) S K X:=by
 intro A F bs s hA z;refine WP.bind (h A F bs s hA z) λF₁ bs₁ Z O v r st an hv k=>?_;subst hv;cases r with
 | true=>exact k A F₁ bs₁ O hA an
 | false=>exact k A F₁ bs₁ O hA an
theorem sD (h:Ev c C v S (Ry c C t K X) X):Ev c C (.NamedExpr t v pos) S K X:=by intro A F bs s hA z;refine WP.bind (h A F bs s hA z) λF₁ bs₁ Z O v r st an hv k=>?_;refine WP.bind (WP.holding (k A F₁ bs₁ O r hA an hv)) λaX ap aF ac zz zz am aJ zz k₂=>?_;exact WP.pure aJ (am.V hv) k₂
theorem mY {K:Bool->dA}(h:cm S v xs)(hl:xs.length < 2 ^ 63)(k:K (!xs.isEmpty) S):Tr c C v S K X:=λA F bs s r hA z hv=>by refine e2a3 (z.seq h hv) λl vs Rz hL be zz=>?_;refine rE Rz ?_;refine WP.kept z λQ E q=>wpAny_truthy_list hL.isList (by simp [be.length];exact pC hl) (q _ _ (.toks ..) (ae _ ?_ k));have:=be.length;clear be hL k hl h;cases xs <;> cases vs <;> simp_all
theorem FZ {K:Bool->dA}(k:K false S):Tr c C .none S K X:=λA F bs s r hA z hv=>by obtain ⟨_,rfl⟩:=hv.inv;exact WP.kept z λQ E q=>aM (q _ _ (.refl ..) (ae _ rfl k))
theorem kB (k':K (.bool false) S):jF c C (compareOp .Is) (.ref k) .none S K X:=λA F bs s ra rb hA z ha hb=>by obtain ⟨_,rfl⟩:=hb.inv;refine e1a1 ha.inv λzz RA zz=>?_;refine rE RA ?_;exact WP.kept z λQ E q=>is_none_ne (by simp) (q _ _ (.refl ..) (ae _ (.bool _) k'))
theorem F1 (k':K (.bool true) S):jF c C (compareOp .Is) .none .none S K X:=λA F bs s ra rb hA z ha hb=>by obtain ⟨_,rfl⟩:=hb.inv;obtain ⟨_,rfl⟩:=ha.inv;exact WP.kept z λQ E q=>wpAny_is_self rfl (q _ _ (.refl ..) (ae _ (.bool _) k'))
theorem l0 (k':K (.bool false) S):jF c C (compareOp .IsNot) .none .none S K X:=λA F bs s ra rb hA z ha hb=>by obtain ⟨_,rfl⟩:=hb.inv;obtain ⟨_,rfl⟩:=ha.inv;exact WP.kept z λQ E q=>isnot_none_none (q _ _ (.refl ..) (ae _ (.bool _) k'))
theorem bq.strs (h:c.Vs F bs (l.map .str) vs):StrsAre vs l:=by
 induction l generalizing vs with
 | nil=>refine rE h.inv ?_;exact .nil
 | cons x l ih=>refine e2a2 h.inv λzz zz Mn h t=>?_;refine rE Mn ?_;refine e1a0 h.inv λzz Mo=>?_;refine rE Mo ?_;exact .cons _ _ (ih t)
theorem StrsAre.vs {vs:iy}(h:StrsAre vs l):c.Vs F bs (l.map .str) vs:=by
 induction h with
 | nil=>exact .nil
 | cons x t _ ih=>exact .cons (.str x t) ih
theorem qj {l:ag}(h:cm S v (l.map .str))(k:K (.bool (l.any (·==x))) S):jF c C (compareOp .In) (.str x) v S K X:=λA F bs s ra rb hA z ha hb=>by refine e1a0 ha.inv λzz t9=>?_;refine rE t9 ?_;refine e2a3 (z.seq h hb) λa vs t0 hL be zz=>?_;refine rE t0 ?_;exact WP.kept z λQ E q=>in_list_strs hL.isList be.strs (q _ _ (.refl ..) (ae _ (.bool _) k))
theorem Jf {l:ag}(k:K (.bool (l.any (·==x))) S):jF c C (compareOp .In) (.str x) (.tup (l.map .str)) S K X:=λA F bs s ra rb hA z ha hb=>by refine e1a0 ha.inv λzz vQ=>?_;refine rE vQ ?_;refine e2a2 hb.inv λzz zz t8 ht be=>?_;refine rE t8 ?_;exact WP.kept z λQ E q=>in_tuple_strs (dh _ (z.wd.sub _ _ ht) rfl 0 rfl) (be.strs) (q _ _ (.refl ..) (ae _ (.bool _) k))
theorem xD (k:K (.bool !(Builtin.Str.occurrences x y 0 x.length 1).isEmpty) S):jF c C (compareOp .In) (.str y) (.str x) S K X:=λA F bs s ra rb hA z ha hb=>by refine e1a0 ha.inv λzz Ab=>?_;refine rE Ab ?_;refine e1a0 hb.inv λzz CY=>?_;refine rE CY ?_;exact WP.kept z λQ E q=>PyProof.Rows.in_str (q _ _ (.refl ..) (ae _ (.bool _) k))
theorem zd (ha:cm S a xs)(hb:cm S b ys)(hsz:xs.length+ys.length<=sizeLine)(k:lF K (xs++ys) S):jF c C (binaryOp .Add) a b S K X:=λA F bs s ra rb hA z h1 h2=>by
 refine e3a2 (z.kz ha h1) λl vs n CZ e1 v1=>?_;refine rE CZ ?_;refine e3a2 (z.kz hb h2) λm us n2 C0 e2 v2=>?_;refine rE C0 ?_;refine concat_meets (ae _ e1 rfl) (ae _ e2 rfl) noFill_list_add seq_list_add PySem.F.slot_list_add PySem.F.entry_list_add (PySem.F.args_list_add_2 _ _) (list_addW l m vs.toArray us.toArray n n2 none none #[] #[] (by simpa [v1.length,v2.length] using hsz)) (aG e1 e2 ?_);obtain mv:bf c F bs s {s with heap:=s.heap.push (bx (vs++us) 0)}:=⟨λb o e=>bU _ e,rfl,rfl⟩
 obtain this:=z.t6 mv (St.fm s) (vs:=vs++us) (n:=0) (cT _ rfl) (v1.append v2) k;refine rE (show (vs.toArray++us.toArray)=(vs++us).toArray by simp) ?_;exact this
set_option tactic.hygienic true in
theorem F2 (ha:cm S a xs)(hb:cm S b [])(hu:C.n≠0)(k:K (.bool (!xs.isEmpty)) S):jF c C (compareOp .NotEq) a b S K X:=λA F bs s ra rb hA z h1 h2=>by
 refine e3a2 (z.kz ha h1) λl vs n C3 e1 v1=>?_;refine rE C3 ?_;refine e3a2 (z.kz hb h2) λm us n2 C4 e2 v2=>?_;refine rE C4 ?_;clear ha;cases v2;obtain Pz:A.units < cLine:=by obtain this:=hA.units;exact tO this
 cases xs with
 | nil =>cases v1;refine WP.kept z λQ E q=>(PySem.SeqAt.RcNeAt.lists (e:=λ_=>true) (items:=#[]) (items2:=#[]) (dh _ e1 rfl n rfl) (dh _ e2 rfl n2 rfl) rfl Pz (λj h=>by simp at h)) _ _ _ _ (q _ _ (.refl ..) (ae _ ?_ k));exact .bool _
 | cons x xs =>
   cases v1 with
   | cons w1 w2 =>rename_i w ws;refine WP.kept z λQ E q=>(PySem.SeqAt.RcNeAt.lists_lengths (items:=(w::ws).toArray) (items2:=#[]) (dh _ e1 rfl n rfl) (dh _ e2 rfl n2 rfl) (rfl) Pz) _ _ _ _ (q _ _ (.refl ..) (ae _ ?_ k));exact .bool _
end
noncomputable def sle (x y:Str):Bool:=!decide (y.cps.toList < x.cps.toList)
noncomputable def cg (l:ag):ag:=l.mergeSort sle
theorem sE (a b d:Str)(h1:sle a b=true)(h2:sle b d=true):sle a d=true:=by simp only [sle,Bool.not_eq_true',decide_eq_false_iff_not,List.not_lt] at *;exact List.le_trans h1 h2
theorem sF (a b:Str):(sle a b||sle b a)=true:=by simp only [sle,Bool.or_eq_true,Bool.not_eq_true',decide_eq_false_iff_not,List.not_lt];exact List.le_total _ _
theorem jJ (a b:Str)(h1:sle a b=true)(h2:sle b a=true):a=b:=by simp only [sle,Bool.not_eq_true',decide_eq_false_iff_not,List.not_lt] at *;obtain this:=List.le_antisymm h1 h2;cases a;cases b;simp at this;clear h2 h1;subst this;rfl
theorem i5 {l r:ag}(hp:l.Perm r)(hl:l.Pairwise (λa b=>sle a b=true))(hr:r.Pairwise (λa b=>sle a b=true)):l=r:=by
 induction l generalizing r with
 | nil=>exact (List.Perm.nil_eq hp)
 | cons x l ih =>
   cases r with
   | nil=>exact absurd hp.symm (List.Perm.nil_eq · |> λh=>by cases h)
   | cons y r =>
     obtain Mp:x=y:=by
      (refine aN (cu (hp.subset (.head _))) (λe=>?_) (λm=>?_))
      . exact e
      . (refine aN (cu (hp.symm.subset (.head _))) (λe=>?_) (λm'=>?_))
        . exact e.symm
        . exact jJ _ _ ((List.pairwise_cons.mp hl).1 _ m') ((List.pairwise_cons.mp hr).1 _ m)
     subst Mp;rw [ih (List.Perm.cons_inv hp) (List.pairwise_cons.mp hl).2 (List.pairwise_cons.mp hr).2]
theorem cM (l:ag):(cg l).Perm l:=List.mergeSort_perm l sle
theorem fJ (l:ag):(cg l).Pairwise (λa b=>sle a b=true):=List.pairwise_mergeSort sE sF l
theorem uc:∀(r:ag) (p:Str),risingS p r=true->(p::r).Pairwise (λa b=>sle a b=true):=by
 intro r;induction r with
 | nil =>intro p _;simp
 | cons x r ih =>
   intro p h;simp only [risingS,cZ] at h;obtain ih:=ih x h.2;obtain La:sle p x=true:=by obtain this:=h.1;rw [ltCps_eq] at this;exact this
   refine List.pairwise_cons.mpr ⟨λy hy=>?_,ih⟩
   (refine aN (cu hy) (λC7=>?_) (λhy=>?_);clear hy ih h;refine rE C7 ?_)
   . exact La
   . exact sE _ _ _ La ((List.pairwise_cons.mp ih).1 y hy)
theorem qk (hp:l.Perm r)(hs:sortedS l=true):l=cg r:=by
 refine i5 (hp.trans (cM r).symm) ?_ (fJ r);cases l with
 | nil=>exact .nil
 | cons x l=>exact uc l x hs
section
variable {c:bc}{C:Cx}{S:AS}{X:dU}{K:dC}
theorem sG (h:cm S v (l.map .str))(pP:l.length < 64)(k:lF K ((cg l).map .str) S):dD c C (.builtin "sorted") [v] S K X:=by
 intro A F bs s rs hA z hv;refine e1a1 hv.one λr C5 h1=>?_;refine rE C5 ?_;clear hv;refine e3a2 (z.kz h h1) λa vs n C6 h0 be=>?_;refine rE C6 ?_;refine sorted_strs (l:=a) (vs:=vs) (ss:=l) (dh _ h0 rfl n rfl) be.strs (by obtain this:=be.length;simp at this;exact tG pP this) λout PA a1 a2 a3=>?_;refine e1a0 (sortedAll_at s.heap vs out) λe he=>?_;obtain hs:=qk a2 a3;clear a3 a2;subst hs;obtain m:bf c F bs s {s with heap:=sortedAll s.heap vs out}:=⟨λb o e=>sortedAll_old e,rfl,rfl⟩
 refine z.t6 m (gE (Nat.le_succ _)) (vs:=out.toList) (n:=e) (he) (StrsAre.vs a1) k
end
section
variable {c:bc}{C:Cx}{S:AS}{F F':G}{bs aE:aO}{s s':Shared}{A:Around}{X:dU}{K:dC}{mg mb:fV}{pos:Pos}
theorem gI (hsz:x.length+y.length<=sizeLine)(k:K (.str (x++y)) S):jF c C (inplaceOp .Add) (.str x) (.str y) S K X:=λA F bs s ra rb hA z ha hb=>by refine e1a0 ha.inv λzz RB=>?_;refine rE RB ?_;refine e1a0 hb.inv λzz RC=>?_;refine rE RC ?_;exact WP.kept z λQ E q=>PyProof.Rows.iadd_str (λt' tk=>q _ _ (.toks ..) (ae _ (.str _ _) k)) hsz
def Part (c:bc)(C:Cx):Option Expr->AS->(Option Int->dA)->dU->Prop
 | none,S,K,_=>K none S
 | some e,S,K,X=>Ev c C e S (λv Z=>∃i,v=.int i/\K (some i) Z) X
theorem mZ {K:Option Int->dA}(hA:jW C A)(z:St c C F bs S s)(h:Part c C e S K X):WP c C A (λzz zz i r=>IsPart r i) (evalPart e C.env) F bs s K X:=by
 cases e with
 | none=>exact WP.pure z .none h
 | some e=>exact WP.re (h A F bs s hA z) λF bs v r S hv PB=>e1a1 PB λi e k=>by clear PB;subst e;refine e1a0 hv.inv λzz RD=>?_;refine rE RD ?_;exact (ae _ (.int _ _) k)
theorem bq.take (n:Nat)(h:c.Vs F bs xs vs):c.Vs F bs (xs.take n) (vs.take n):=by
 induction xs generalizing vs n with
 | nil=>refine rE h.inv ?_;refine (aq List.take_nil)▸(aq List.take_nil)▸?_;exact .nil
 | cons x l ih =>
   refine e2a2 h.inv λzz zz RE h1 h2=>?_;refine rE RE ?_;cases n with
   | zero=>exact .nil
   | succ n=>exact .cons h1 (ih n h2)
theorem bq.drop (n:Nat)(h:c.Vs F bs xs vs):c.Vs F bs (xs.drop n) (vs.drop n):=by
 induction xs generalizing vs n with
 | nil=>refine rE h.inv ?_;refine (aq List.drop_nil)▸(aq List.drop_nil)▸?_;exact .nil
 | cons x l ih =>
   cases n with
   | zero=>exact h
   | succ n=>refine e2a2 h.inv λzz zz RF h1 h2=>?_;refine rE RF ?_;exact ih n h2
noncomputable def cutOf (lo hi:Option Int)(xs:dB):dB:=match lo,hi with
 | none,some i=>xs.take i.toNat
 | some i,none=>xs.drop i.toNat
 | none,none=>xs
 | some i,some j=>(xs.take j.toNat).drop i.toNat
def ql (lo hi:Option Int):Prop:=match lo,hi with
 | none,some i=>0<=i
 | some i,none=>0<=i
 | none,none=>True
 | some _,some _=>False
noncomputable def Jg (lo hi:Option Int)(vs:iy):iy:=match lo,hi with
 | none,some i=>vs.take i.toNat
 | some i,none=>vs.drop i.toNat
 | none,none=>vs
 | some i,some j=>(vs.take j.toNat).drop i.toNat
theorem Dc (eI:ql l u)(vs:iy):slicePick vs.toArray l u none=(Jg l u vs).toArray:=by
 cases l with
 | none =>
   cases u with
   | none=>rw [slicePick_all];rfl
   | some j =>obtain this:=slicePick_upto' vs.toArray j.toNat;rw [show ((j.toNat:Nat):Int)=j from Int.toNat_of_nonneg eI] at this;exact this
 | some i =>
   cases u with
   | none =>obtain this:=slicePick_from' vs.toArray i.toNat;rw [show ((i.toNat:Nat):Int)=i from Int.toNat_of_nonneg eI] at this;exact this
   | some j=>exact eI.elim
theorem bq.RG (eI:ql l u)(be:c.Vs F bs xs vs):c.Vs F bs (cutOf l u xs) (Jg l u vs):=by
 cases l with
 | none =>
   cases u with
   | none=>exact be
   | some j=>exact bq.take _ be
 | some i =>
   cases u with
   | none=>exact bq.drop _ be
   | some j=>exact eI.elim
theorem jd {lo hi:Option Expr}(h:Ev c C value S (λo Z=>Part c C lo Z (λl aF=>Part c C hi aF (λu aY=>∃xs,cm aY o xs/\ql l u/\xs.length<=sizeLine/\lF K (cutOf l u xs) aY) X) X) X):Ev c C (.Subscript value (.Slice lo hi none p) pos) S K X:=by
 intro A F bs s hA z
 skip
 refine WP.bind (h A F bs s hA z) λF₁ bs₁ Z O o ro al an ho k₁=>?_;refine ah (wpAny_holding (wpAny_Slice ?_));refine aQ (mZ hA an k₁) (λrl ac Zs=>Zs.casesOn λaX ap l aF am aJ hl k₂=>?_) λzz zz e=>e;refine aQ (mZ hA aJ k₂) (λru aP Zt=>Zt.casesOn λbi aK u aY aA a6 hu bn=>?_) λx aP Zu=>Zu.casesOn λbi aK u aY aA a6 hu bn=>⟨bi,aK,u,aY,am.trans aA,a6,hu.back am.mono,bn⟩
 refine e1a3 bn λxs rS eI hsz k=>?_;refine aM ?_;have Da:=aA.V (am.V ho);clear ho;refine e3a2 (a6.kz rS Da) λa vs n RH hL be=>?_;refine rE RH ?_;refine ah (wpAny_standAt ?_);generalize qm:({aP with heap:=aP.heap.push {cls:=.type "slice",data:=.fields #[rl,ru,.none]}}:Shared)=ch;have xz:bf c bi aK aP ch:=by simp only [<-qm];exact ⟨λb o e=>bU _ e,rfl,rfl⟩
 obtain Jh:ch.heap.IsSliceOf aP.heap.objs.size rl ru .none:=by refine qm▸?_;exact Heap.IsSliceOf.new ..
 obtain cr:=a6.keep xz;obtain vU:ch.heap.IsList a vs.toArray:=(dh _ (xz.keep _ _ hL) rfl n rfl)
 refine ah ?_;refine ah (wpAny_specialOf vU.typeIs list_getitem_lookup ?_);obtain fin:wpAny (model c.prog c.w) A (operate [.ref aP.heap.objs.size,.ref a] (getItem (.ref a) (.ref aP.heap.objs.size)) >>= λr=>letTemporaryGo value (.ref a) r >>= λzz=>pure r)
  (WV c C c.V F₁ bs₁ O.heap K)
  (WX c C F₁ bs₁ O.heap X) ch:=by
  refine ah (wpAny_operating (wpAny_getItem_list_slice vU Jh hl hu .none (by decide) (ah (wpAny_letTemporaryGo (aM ?_))) (by simpa [be.length] using hsz)));rw [Dc eI];obtain lG:=bq.RG eI be;generalize Jg l u vs=ws at lG;obtain Ji:bf c bi aK ch {ch with heap:=ch.heap.push (bx ws 0)}:=⟨λb o e=>bU _ e,rfl,rfl⟩
  obtain ⟨F',aE,v,S',st,z',hv,kk⟩:=cr.t6 Ji (St.fm ch) (vs:=ws) (n:=0) (cT _ rfl) lG k;exact ⟨F',aE,v,S',((am.trans aA).trans (.keep xz)).trans st,z',hv,kk⟩
 first
  | exact aM fin
  | exact ah (aM fin)
  | exact fin
theorem Ad {K:dA}(hA:jW C A)(hh:C.handled=none)(z:St c C F bs S s)(hT:s.heap.IsTuple T rs.toArray)(hv:c.Vs F bs xs rs)(hl:ts.length=xs.length)(hp:assignEach ts C.env=ts.map λt=>(false,assign t C.env))(h:z3 c C (ts.zip xs) S K X) :
 WP c C A (λ_ _ (_:Unit) (_:Unit)=>True) (assign (.Tuple ts kd pos) C.env (.ref T)) F bs s (λzz=>K) X:=by
 refine WP.standAt ?_;delta unpack;refine rE hp ?_;obtain e1:((ts.map λt=>(false,assign t C.env)).findIdx? (·.1))=none:=by simp
 obtain e2:ts.length=rs.toArray.size:=by simp only [hl,List.size_toArray];exact hv.length.symm
 simp only [e1,fz,List.map_map,e2];refine ah (wpAny_holding (wpAny_unpackItems_tuple (hA.handled.trans hh) hT λh' hx=>?_));obtain m:bf c F bs s {s with heap:=h'}:=⟨λb o e=>hx b o (bS (Heap.lt_size e)) e,rfl,rfl⟩
 obtain w:=qd (X:=X) hA ts xs rs F bs S {s with heap:=h'} K hl (z.keep m) hv h;refine aQ w (λr s' Zv=>Zv.casesOn λF' aE v S' st z' hr k=>⟨F',aE,v,S',(Step.keep m).trans st,z',hr,k⟩) λx s' RJ=>RJ.casesOn λF' aE v S' st z' hr k=>⟨F',aE,v,S',(Step.keep m).trans st,z',hr.back (Step.keep (own:=[]) m).mono,k⟩
theorem Iter.enum (hl:F₀ l=some (bx vs n))(be:c.Vs F₀ bs₀ xs vs)(Zw:e≠it)(hle:l≠e)(Fq:l≠it) :
 Iter c (.Tuple ts kd pos) e (xs.zipIdx.map λp=>.tup [.int p.2,p.1]) (λzz=>True) [e,it] (λi F bs s=>((∃old,IsEnum s.heap e it (i:Nat) old)/\s.heap.IsListIter it l i/\s.heap.IsList l vs.toArray)/\i<=xs.length/\(∀b o,F₀ b=some o->F b=some o)/\∃nb,bs=bs₀++nb):=by
 have W:=λ(A:Around) (hh:A.handled=none)=>WalksT.enumerate (prog:=c.prog) (w:=c.w) hh e it l Zw hle Fq vs.toArray;have keep:∀{C:Cx} {i:Nat} {own F bs S s F' aE S' s'},(((∃old,IsEnum s.heap e it i old)/\s.heap.IsListIter it l i/\s.heap.IsList l vs.toArray)/\i<=xs.length/\(∀b o,F₀ b=some o->F b=some o)/\∃nb,bs=bs₀++nb)->cf c C F bs [e,it] s.heap->(∀a∈[e,it],a∉own)->St c C F bs S s->Step own F bs s.heap F' aE s'.heap->St c C F' aE S' s' ->
  (((∃old,IsEnum s'.heap e it i old)/\s'.heap.IsListIter it l i/\s'.heap.IsList l vs.toArray)/\i<=xs.length/\(∀b o,F₀ b=some o->F' b=some o)/\∃nb,aE=bs₀++nb):=by
  intro C i own F bs S s F' aE S' s' o1;obtain ⟨h1,hi,h2,nb,rfl⟩:=o1;intro hf hw z st z';refine e1a1 st.ext λwS e' zz=>?_;refine (gP ((W {} rfl).frame i _ _ h1 λb hb o ho=>?_) hi (λb o e=>st.sub _ _ (h2 _ _ e)) (nb++wS) (by rw [e',List.append_assoc]));by_cases q:b∈[e,it]
  . exact (hf.vJ hw st).2 b q o ho
  . obtain iJ:b=l:=by simp only [List.mem_cons,List.not_mem_nil,or_false,not_or] at hb q;exact (hb.resolve_left q.1).resolve_left q.2
    subst iJ;obtain this:=z.wd.sub _ _ (h2 _ _ hl);refine rE (bo (aB (aq ho) this)) ?_;exact z'.wd.sub _ _ (st.sub _ _ (h2 _ _ hl))
 refine ⟨keep,?_,?_⟩
 . intro C A i F bs S s N Y E K hA hh z _ o2;obtain ⟨h1,hi,h2,nb,rfl⟩:=o2;intro hf hN hY;obtain WA:=W A (hA.handled.trans hh);by_cases eX:i < xs.length
   . refine WA.item i s _ _ (by simpa [be.length] using eX) h1 λT vals h' tk Pw RK hT hM hk=>?_;refine e2a1 Pw λt x hx RL=>?_;clear Pw;obtain rfl:=RL;obtain kr:vs[i]?=some x:=by simpa using hx
     obtain ⟨y,hy⟩:∃y,xs[i]?=some y:=(ck _ (cp eX))
     refine e1a1 (be.get hy) λx' e1 e2=>?_;obtain rfl:=bo (aB (aq kr) e1);refine e0a1 (hY (.tup [.int i,y]) (by simp [List.getElem?_zipIdx,hy])) λha hc=>?_;obtain Zx:=WA.apart i T h' hM;refine WA.go ts kd pos i T {s with heap:=h',toks:=tk} _ _ hM λLb bd Db=>?_;have Mq:cE [e,it] s {s with heap:=Lb,toks:=tk}:=⟨λb hb o e=>Db b o hb (hk b o hb e),rfl,rfl⟩
     obtain an:=z.frees Mq hf;have lw:cf c C F (bs₀++nb) [e,it] Lb:=⟨hf.free,λa ha=>by
      refine e0a2 bd λMr Ms zz=>?_;clear bd;refine e1a0 Mr λold q1=>?_;clear Mr;refine e1a2 Ms λo q2 q3 zz=>?_;clear Ms;rcases cu ha with rfl | ha
      . exact (aH _ q1 (by simp) (by simp))
      . rw [bp ha];exact (aH o q2 (by lia) (by lia))⟩
     obtain RM:Lb.IsTuple T #[.int i t,x]:=by refine e1a1 hT λo q1 q2=>?_;exact (ae o (Db T o Zx q1) q2)
     refine e0a2 ha λZy Zz ZA=>?_;obtain w:=Ad (X:=gX) (kd:=kd) (pos:=pos) (s:={s with heap:=Lb,toks:=tk}) hA hh an (rs:=[.int i t,x]) RM (.cons (.int _ _) (.cons (cU.mono h2 e2) .nil)) Zy Zz ZA;refine aQ w (λzz s' ZB=>ZB.casesOn λF' aE zz S' st z' zz k=>?_) λzz zz ZC=>ZC.casesOn λzz zz zz zz zz zz zz q=>q.elim;exact hc F' aE S' s' z' (lw.step (s:={s with heap:=Lb,toks:=tk}) st).1 (keep (s:={s with heap:=Lb,toks:=tk}) (gP bd eX h2 nb rfl) lw (λa ha=>(lw.free a ha).own) an st z') k
      ((Step.mT Mq λa ha=>e1a1 (lw.at_ a ha) λo e zz=>(ck o e)).trans (st.widen λa ha=>.inl (fg (.inr ha))))
   . obtain i3:i=xs.length:=tK hi eX;clear eX hY;subst i3;have:xs.length=vs.toArray.size:=by simp [be.length]
     rw [this] at h1;refine WA.done s _ _ h1 λh' tk hk=>?_;obtain t:cE [e,it] s {s with heap:=h',toks:=tk}:=⟨λb hb o e=>hk b o hb e,rfl,rfl⟩
     exact hN (by simp) _ (z.frees t hf) t
 . intro A i F bs s Q E hh o3;obtain ⟨h1,hi,h2,nb,rfl⟩:=o3;intro hq;exact (W A hh).self i s Q E h1 hq
theorem ud {ts:dM}{kd:Nat}{Mt:Pos}{f arg:Expr}{K:dB->(bg->Prop)->dA}
 (h:Ev c C f S (λv Z=>v=.raw (.type "enumerate")/\Ev c C arg Z (λv aF=>∃xs,v=.lst xs/\K (xs.zipIdx.map λp=>.tup [.int p.2,p.1]) (λzz=>True) aF) X) X)
 (hh:C.handled=none)
 (he:eval (.Call f [arg] [] pos) C.env=(do callWith pos (<-eval f C.env) [] (backTo pos (starEach [arg] C.env)) (backToKw pos (keywordEach [] C.env))):=by rfl)
 (RN:starEach [arg] C.env=[(false,eval arg C.env)]:=by rfl):mU c C (.Tuple ts kd Mt) (.Call f [arg] [] pos) S K X:=by
 intro A F bs s hA z;simp only [he];refine ah (aQ (h A F bs s hA z) (λr O ⟨F₁,bs₁,v,Z,al,an,hv,e,k₁⟩=>?_) λzz zz e=>e);subst e;obtain ⟨_,rfl⟩:=hv.inv;refine PySem.callWith_type (by rw [RN];rfl) ?_;have ka:pO c C pos [arg] Z (λvs aF=>∃xs,vs=[.lst xs]/\K (xs.zipIdx.map λp=>.tup [.int p.2,p.1]) (λzz=>True) aF) X :=
  aw (lg k₁ λv aF ZD=>e1a1 ZD λxs e k=>(ae xs (by rw [e]) k)) RN
 refine aQ (ic hA an ka (RN.symm▸rfl)) (λa ac ⟨aX,ap,vs,aF,am,aJ,⟨pt,be⟩,xs,ZE,k₂⟩=>?_) λx ac ZF=>ZF.casesOn λaX ap cls aF am aJ hx k₂=>⟨aX,ap,cls,aF,al.trans am,aJ,hx.back al.mono,k₂⟩
 simp only [pt];subst ZE;obtain ⟨ps,kw⟩:=a;obtain ⟨r,e,hr⟩:=bq.one be;have e':ps=[r]:=e;refine rE e' ?_;clear e be pt;obtain ⟨l,vs,Mu,hL,RO⟩:=hr.inv;refine rE Mu ?_;obtain ⟨n,hL⟩:=hL;have RP:=aJ.wd.sub _ _ hL;refine call_enumerate_1 RP λh' xE Mv hsz hk=>?_;refine wpAny_pyIter_enum xE ?_;obtain m:bf c aX ap ac {ac with heap:=h'}:=⟨hk,rfl,rfl⟩
 obtain st:Step C.own F bs s.heap aX ap h':=(al.trans am).trans (.keep m);obtain WY:ac.heap.get? ac.heap.objs.size=none:=gE (bu _);obtain IK:ac.heap.get? (ac.heap.objs.size+1)=none:=gE (Nat.le_succ _);obtain eX:l < ac.heap.objs.size:=Heap.lt_size RP;refine ⟨aX,ap,aF,_,_,_,[ac.heap.objs.size+1,ac.heap.objs.size],_,rfl,st,aJ.keep m,Iter.enum (F₀:=aX) (bs₀:=ap) hL RO (Nat.succ_ne_self _) (bS (Nat.lt_succ_of_lt eX)) (bS eX),
  (gP (aG (ck _ xE) Mv (dh _ (hk _ _ RP) rfl n rfl)) (Nat.zero_le _) (λzz zz e=>e) [] (by simp)),λa q=>?_,⟨λa q=>?_,λa q=>?_⟩,trivial,k₂⟩
 . have:ac.heap.get? a=none:=by
    (refine aN (cu q) (λJj=>?_) (λq=>?_);obtain rfl:=Jj)
    . exact IK
    . refine rE (bp q) ?_;exact WY
   cases q':s.heap.get? a with
   | none=>rfl
   | some o=>obtain ⟨o',e'⟩:=(al.trans am).mono _ _ q';exact bE (aB (aq this) e')
 . rcases cu q with rfl | q
   . exact aJ.d7 IK
   . simp only [bp q];exact aJ.d7 WY
 . rcases cu q with rfl | q
   . exact (aH _ xE (by simp) (by simp))
   . refine rE (bp q) ?_;obtain ⟨o,q1,q2,_⟩:=Mv;exact (aH o q1 (by lia) (by lia))
end
theorem dF (names:List (Str×NameKind))(n:Nat)(acc:List (Str×Addr)):cellsFrom n names acc=cellsFrom n names []++acc:=by
 induction names generalizing n acc with
 | nil=>rfl
 | cons p r ih =>
   dsimp only [cellsFrom];cases p.2==NameKind.cell with
   | true=>exact (ih (n+1) _).trans ((List.append_assoc _ [_] _).symm.trans (congrArg (·++acc) (ih (n+1) [_]).symm))
   | false=>exact ih n acc
theorem qo (names:List (Str×NameKind))(n:Nat)(h:∀k,(x,k)∈names->k≠.cell):(cellsFrom n names []).lookup x=none:=by
 induction names generalizing n with
 | nil=>rfl
 | cons p r ih =>
   dsimp only [cellsFrom];cases hk:p.2==NameKind.cell with
   | true =>obtain e:(x==p.1)=false:=beq_eq_false_iff_ne.mpr λe=>h p.2 (by refine rE e ?_;exact .head _) (by cases q:p.2 <;> rw [q] at hk <;> first | rfl | exact Iv hk);show (cellsFrom (n+1) r [(p.1,n)]).lookup x=none;rw [dF,List.lookup_append,ih _ λk m=>h k (.tail _ m),List.lookup_cons];refine rE e ?_;rfl
   | false=>exact ih n λk m=>h k (.tail _ m)
structure Mw (bs:aO)(h:Heap)(cl:List (Str×Addr)):Prop where
 cell:∀x a,cl.lookup x=some a->a∉bs/\∃o,h.get? a=some o/\o.cls=.type "cell"/\∃v,o.data=.cell v
 apart:∀x y a,cl.lookup x=some a->cl.lookup y=some a->x=y
def Mx (c:bc)(F:G)(bs:aO)(h:Heap)(names:List (Str×NameKind))(cl:List (Str×Addr))(x:Str)(v:AV):Prop :=
 (∀k,(x,k)∈names->k≠.cell)/\∃a o r,cl.lookup x=some a/\h.get? a=some o/\o.data=.cell (some r)/\c.V F bs v r
section
variable {c:bc}{C:Cx}{S:AS}{F F':G}{bs aE:aO}{s s':Shared}{A:Around}{X:dU}{K:dC}{mg mb:fV}{pos:Pos}
theorem St.opens (wd:Wd c F bs H s)(dZ:Mw bs s.heap cl)(kd:String)(RQ:kd≠"cell")(names:List (Str×NameKind))(env:Env)(own:aO)(frames:List Env)(hd:tX)(n:Nat)(vars:ag)(caps:fi)
 (db:s'={s with heap:=pushCells (s.heap.push {cls:=.type kd,data:=.dict #[]}) names}) (hL:env.locals=s.heap.objs.size) (PC:env.cells=cellsFrom (s.heap.objs.size+1) names cl)
 (vB:own=s.heap.objs.size::(cellsFrom (s.heap.objs.size+1) names []).map (·.2))
 (hg:env.globals=mainGlobals) (My:env.builtins=builtinsNs) (hk:env.scope.kind=.function) (Ch:vars.Nodup)
 (jp:∀e∈frames,gx s'.heap e/\∀L,e.frame=some L->F L=none/\L∉bs)
 (RR:∀i v,caps.lookup i=some v->∃x,vars[i]?=some x/\(env.kindOf x=some .cell\/env.kindOf x=some .free)/\Mx c F bs s.heap names cl x v)
 (Jh:env.func=none\/∀x a,cl.lookup x=some a->∃o r,F a=some o/\o.data=.cell (some r)) :
 St c ⟨env,own,frames,hd,n,vars⟩ F bs ⟨caps,H⟩ s'/\bf c F bs s s'/\(∀b∈own,s.heap.get? b=none):=by
 have keep:∀b o,s.heap.get? b=some o->s'.heap.get? b=some o:=λb o e=>by rw [db];exact pushCells_keeps _ _ _ _ (bU _ e)
 obtain mv:bf c F bs s s':=⟨keep,by rw [db],by rw [db]⟩
 have ok:=cellsFrom_ok names (s.heap.push {cls:=.type kd,data:=.dict #[]}) (s.heap.objs.size+1) [] ⟨λzz zz hm=>(nomatch hm),List.Pairwise.nil⟩ (by simp only [fh];exact bu _);rw [fh] at ok;generalize FM:cellsFrom (s.heap.objs.size+1) names []=cs at ok vB;have Mz:env.cells=cs++cl:=by rw [PC,dF,FM]
 have mO:∀b∈own,s.heap.get? b=none:=λb iJ=>by
  rw [vB] at iJ;refine gE ?_;rcases cu iJ with e | m
  . simp only [e];exact bu _
  . clear iJ;refine e1a1 (dS m) λp hp RT=>?_;refine RT▸?_;obtain this:=(ok.empty p.1 p.2 hp).2;exact arith1 this
 have qc:∀x a,(x,a)∈cs->s'.heap.get? a=some gk:=λx a m=>by rw [db];refine mN names (s.heap.push {cls:=.type kd,data:=.dict #[]}) [] (λzz zz m=>nomatch m) x a ?_;rw [fh,FM];exact m
 have rG:s'.heap.get? s.heap.objs.size=some {cls:=.type kd,data:=.dict #[]}:=by rw [db];exact pushCells_keeps _ _ _ _ (cT _ rfl)
 have jE:∀b,s.heap.get? b=none->F b=none/\b∉bs:=λb e=>by
  refine ⟨?_,λm=>by refine e1a0 (wd.there b m) λo' e'=>?_;exact bE (aB (aq e) e')⟩;cases q:F b with
  | none=>rfl
  | some o'=>exact jq (aB (aq (wd.sub _ _ q)) e)
 have ze:∀x a,env.cells.lookup x=some a->(cs.lookup x=some a)\/(cs.lookup x=none/\cl.lookup x=some a):=λx a e=>by
  rw [Mz,List.lookup_append] at e;cases h:cs.lookup x with
  | some b=>rw [h] at e;exact .inl e
  | none=>rw [h] at e;exact .inr ⟨rfl,e⟩
 have ue:∀x a,cs.lookup x=some a->a∈own:=λx a e=>by rw [vB];exact .tail _ (dm (ae (x,a) (mem_of_lookup e) rfl))
 refine (aG ⟨wd.keep (S:=⟨caps,H⟩) mv,(ae (λzz=>none) ?_ (λi v e=>?_)),(ae _ (by skip;rw [hL];exact rG) (by simp)),by show env.locals∈own;rw [hL,vB];exact .head _,λb iJ=>?_,λx a e=>?_,λx y a e1 e2=>?_,jp,hg,My,hk,Ch,λhf x a e=>?_⟩ mv mO)
 . skip
   refine rE hL ?_;exact (fF _ (#[]) 0 rG rfl (λzz he=>by simp at he) (λzz=>rfl))
 . refine e1a0 (RR i v e) λx RU=>?_;obtain ⟨hx,RV,Qt,a,o,r,q1,q2,q3,q4⟩:=RU;obtain Bs:env.cells.lookup x=some a:=by rw [Mz,List.lookup_append,<-FM,qo names _ Qt];simpa using q1
   refine (ae x hx ?_);exact .cell RV ⟨a,o,r,Bs,keep _ _ q2,q3,q4⟩
 . have gW:=mO b iJ;refine (aG ((jE b gW).1) ((jE b gW).2) ?_);have F3:b∈own:=iJ;replace F3:=vB▸F3;rcases cu F3 with e | m
   . exact (ck _ (e▸rG))
   . clear F3 gW iJ;refine e1a1 (dS m) λp hp Jk=>?_;refine Jk▸?_;exact (ck _ (qc p.1 p.2 hp))
 . rcases ze x a e with q | ⟨_,q⟩
   . obtain gW:=mO a (ue x a q);refine (aG ((jE a gW).2) (λw=>?_) ⟨_,qc x a (mem_of_lookup q),rfl,none,rfl⟩);have w':a=s.heap.objs.size:=by simp only [<-hL];exact w
     obtain this:=qc x a (mem_of_lookup q);rw [w',rG] at this;simp [gk,RQ] at this
   . obtain ⟨h1,o,h2,h3,h4⟩:=dZ.cell x a q;refine (aG h1 (λw=>?_) ⟨o,keep _ _ h2,h3,h4⟩);obtain w':a=s.heap.objs.size:=by simp only [<-hL];exact w
     rw [w'] at h2;exact absurd (Heap.lt_size h2) (Nat.lt_irrefl _)
 . (refine aN (ze x a e1) (λq1=>?_) (λRW=>?_);rotate_left;refine e0a1 RW λzz q1=>?_;rotate_right) <;> (refine aN (ze y a e2) (λq2=>?_) (λRX=>?_);rotate_left;refine e0a1 RX λzz q2=>?_;rotate_right)
   . exact name_of_addr ok.apart (mem_of_lookup q1) (mem_of_lookup q2)
   . obtain ⟨_,o,h2,_⟩:=dZ.cell y a q2;exact bE (aB (aq (mO a (ue x a q1))) h2)
   . obtain ⟨_,o,h2,_⟩:=dZ.cell x a q1;exact bE (aB (aq (mO a (ue y a q2))) h2)
   . exact dZ.apart x y a q1 q2
 . (refine aN (ze x a e) (λq=>?_) (λRY=>?_);rotate_left;refine e0a1 RY λzz q=>?_;rotate_right)
   . exact .inl (ue x a q)
   . exact Jh.elim (λw=>absurd w hf) λw=>.inr (w x a q)
noncomputable def kb (ad:Str->Addr):List (Str×NameKind)->List (Str×Addr)->List (Str×Addr)
 | [],acc=>acc
 | (n,k)::r,acc=>if k==.free then kb ad r ((n,ad n)::acc) else kb ad r acc
set_option tactic.hygienic true in
theorem je (ad:Str->Addr):∀(names:List (Str×NameKind)) (acc:List (Str×Addr)) (p:Str×Addr),p∈kb ad names acc->p∈acc\/(p.2=ad p.1/\(p.1,NameKind.free)∈names)
 | [],acc,p,h=>.inl h
 | (n,k)::r,acc,p,h=>by
   dsimp only [kb] at h
   split at h
   . rename_i hk;obtain lS:k=.free:=by simpa using hk
     clear hk;subst lS;rcases je ad r _ p h with q | ⟨q1,q2⟩
     . (refine aN (cu q) (λe=>?_) (λq=>?_))
       . clear q h;subst e;exact .inr ⟨rfl,.head _⟩
       . exact .inl q
     . exact .inr ⟨q1,.tail _ q2⟩
   . (refine aN (je ad r acc p h) (λq=>?_) (λRZ=>?_);rotate_left;refine e0a1 RZ λq1 q2=>?_;rotate_right)
     . exact .inl q
     . exact .inr ⟨q1,.tail _ q2⟩
theorem qp (ad:Str->Addr):∀(names:List (Str×NameKind)) (acc:List (Str×Addr)) (p:Str×Addr),p∈acc->p∈kb ad names acc
 | [],acc,p,h=>h
 | (n,k)::r,acc,p,h=>by
   dsimp only [kb]
   split
   . exact qp ad r _ p (.tail _ h)
   . exact qp ad r acc p h
theorem qq (ad:Str->Addr):∀(names:List (Str×NameKind)) (acc:List (Str×Addr)) (x:Str),(x,NameKind.free)∈names->(x,ad x)∈kb ad names acc
 | (n,k)::r,acc,x,h=>by
   dsimp only [kb];rcases cu h with e | h
   . clear h;cases e;exact qp ad r _ _ (.head _)
   . split
     . exact qq ad r _ x h
     . exact qq ad r acc x h
theorem rT {l:List (Str×Addr)}(h:(x,a)∈l)(hu:∀p∈l,p.1=x->p.2=a):l.lookup x=some a:=by
 induction l with
 | nil=>exact nomatch h
 | cons p l ih =>
   rw [List.lookup_cons];by_cases q:(x==p.1)=true
   . rw [q];obtain this:x=p.1:=by simpa using q
     simp only [hu p (.head _) this.symm]
   . simp only [Bool.not_eq_true] at q;rw [q];refine ih ?_ λp' m e=>hu p' (.tail _ m) e
     (refine aN (cu h) (λe=>?_) (λm=>?_))
     . clear hu h;subst e;simp at q
     . exact m
theorem oJ (ad:Str->Addr)(names:List (Str×NameKind))(x:Str)(h:(x,NameKind.free)∈names):(kb ad names []).lookup x=some (ad x):=by
 refine rT (qq ad names [] x h) λp m e=>?_
 (refine aN (je ad names [] p m) (λq=>?_) (λR0=>?_);rotate_left;refine e0a1 R0 λq zz=>?_;rotate_right)
 . cases q
 . exact (aq q)▸(aq e)▸rfl
theorem jX (ad:Str->Addr)(h:∀x,(x,NameKind.free)∈scope.names->env.cells.lookup x=some (ad x)):closureFor scope env=pure (kb ad scope.names []):=by
 obtain go:∀(names:List (Str×NameKind)) (acc:List (Str×Addr)),(∀x,(x,NameKind.free)∈names->env.cells.lookup x=some (ad x)) ->
  (forIn names acc λ(x:Str×NameKind) (cs:List (Str×Addr))=>(match x with | (name,kind)=>if (kind==NameKind.free)=true then (do let a <-cellOf env name;pure (ForInStep.yield ((name,a)::cs))) else pure (ForInStep.yield cs):Sem (ForInStep (List (Str×Addr)))))=pure (kb ad names acc):=by
  intro names;induction names with
  | nil=>intro acc _;rfl
  | cons p r ih =>
    intro acc h;obtain ⟨n,k⟩:=p;rw [List.forIn_cons];dsimp only [kb];by_cases hk:(k==NameKind.free)=true
    . obtain lS:k=.free:=by simpa using hk
      obtain e:cellOf env n=pure (ad n):=by delta cellOf;rw [h n (by rw [lS];exact .head _)]
      simp only [hk,if_true,e,pure_bind];exact ih _ λx m=>h x (.tail _ m)
    . skip
      simp only [hk,dQ,if_false,pure_bind];exact ih _ λx m=>h x (.tail _ m)
 delta closureFor;obtain this:=go scope.names [] h;simp only [this,pure_bind]
end
noncomputable def ek (scope sc:Scope):Scope :=
 {scope with names:=scope.names.map λ(n,k)=>if (k==.free&&sc.kind==.function&&sc.names.lookup n==some .cell) then (n,.cell) else (n,k)}
theorem xF (scope:Scope)(env:Env):relabel scope env=ek scope env.scope:=rfl
theorem iz (scope sc:Scope)(x:Str):(ek scope sc).names.lookup x=(scope.names.lookup x).map λk=>if (k==.free&&sc.kind==.function&&sc.names.lookup x==some .cell) then .cell else k:=by
 delta ek;dsimp only;induction scope.names with
 | nil=>rfl
 | cons p r ih =>
   obtain ⟨n,k⟩:=p;simp only [List.map_cons];by_cases q:(x==n)=true
   . obtain this:x=n:=by simpa using q
     clear q;subst this;by_cases h:(k==NameKind.free&&sc.kind==ScopeKind.function&&sc.names.lookup x==some NameKind.cell)=true
     . simp only [h,if_true,List.lookup_cons,beq_self_eq_true,Option.map_some]
     . simp only [h,if_false,List.lookup_cons,beq_self_eq_true,Option.map_some];simp
   . skip
     by_cases h:(k==NameKind.free&&sc.kind==ScopeKind.function&&sc.names.lookup n==some NameKind.cell)=true
     . simp only [h,if_true,List.lookup_cons,q,ih]
     . simp only [h,if_false,dQ,List.lookup_cons,q];exact ih
noncomputable def eJ (sc scope:Scope)(fs vars:ag):Bool :=
 scope.kind==.function&&decide vars.Nodup&&fs.isPrefixOf vars &&
 fs.all (λx=>scope.names.lookup x==some .free&&(sc.names.lookup x==some .cell||sc.names.lookup x==some .free)&&scope.names.all (λp=>!(p.1==x&&p.2==.cell))) &&
 scope.names.all (λp=>!(p.2==.free)||fs.contains p.1)&&scope.names.all (λp=>!(p.2==.local)||scope.names.lookup p.1==some .local)
noncomputable abbrev Dd (scope sc:Scope)(env:Env)(own:aO)(frames:List Env)(hd:tX)(n:Nat)(vars:ag):Cx:=⟨{env with scope:=ek scope sc},own,frames,hd,n,vars⟩
noncomputable def bw (S:AS):fi->Prop
 | []=>True
 | (i,v)::l=>S.loc.lookup i=some v/\bw S l
theorem bw.at (h:bw S l)(x:Nat)(u:AV)(e:l.lookup x=some u):S.loc.lookup x=some u:=by
 induction l with
 | nil=>exact bE e
 | cons p l ih =>
   rw [List.lookup_cons] at e;cases q:x==p.1 with
   | true=>rw [q] at e;rw [eq_of_beq q,<-bo e];exact h.1
   | false=>rw [q] at e;exact ih h.2 e
theorem bw.of (h:l.map (λp=>S.loc.lookup p.1)=l.map (λp=>some p.2)):bw S l:=by
 induction l with
 | nil=>trivial
 | cons p l ih=>exact ⟨(List.cons.inj h).1,ih (List.cons.inj h).2⟩
def vV (I:dA)(S:AS):Prop:=∃loc,bw S loc/\I ⟨loc,S.heap⟩
noncomputable def rU (C:Cx)(S:AS):List (Nat×Str×AV)->Prop
 | []=>True
 | (i,x,v)::r=>C.vars[i]?=some x/\S.loc.lookup i=some v/\rU C S r
noncomputable def nP:Nat->List (Nat×Str×AV)->fi
 | _,[]=>[]
 | n,(_,_,v)::r=>(n,v)::nP (n+1) r
theorem rU.mem (h:rU C S l)(p:Nat×Str×AV)(m:p∈l):C.vars[p.1]?=some p.2.1/\S.loc.lookup p.1=some p.2.2:=by
 induction l with
 | nil=>exact nomatch m
 | cons q r ih =>
   rcases cu m with rfl | m
   . exact ⟨h.1,h.2.1⟩
   . exact ih h.2.2 m
theorem Af (l:List (Nat×Str×AV))(n j:Nat)(v:AV)(h:(nP n l).lookup j=some v):∃i x,n<=j/\l[j - n]?=some (i,x,v):=by
 induction l generalizing n with
 | nil=>exact bE h
 | cons p r ih =>
   dsimp only [nP] at h;rw [List.lookup_cons] at h;cases q:j==n with
   | true =>rw [q] at h;clear ih;refine (bo h)▸?_;clear h;refine (eq_of_beq q)▸?_;exact (eO p.1 p.2.1 (bu _) (by rw [Nat.sub_self];rfl))
   | false =>rw [q] at h;refine e2a1 (ih (n+1) h) λi' x' h1 h2=>?_;refine (eO i' x' (Nat.le_of_succ_le h1) ?_);rw [show j - n=(j - (n+1))+1 by exact vd h1];exact h2
def De (c:bc)(C:Cx):dM->AS->(Bool->dA)->Prop
 | [],S,K=>K true S
 | [t],S,K=>xp c C t S K gX
 | _,_,_=>False
inductive CompI {β:Type}(C:Cx)(fs:List (Nat×Str×AV))(body:AS->(Nat->List β->dA)->Nat->List β->AV->Prop)(items:dB)(live:bg->Prop)(Z:AS)(Kf:List β->bg->Prop):Prop
 | mk (I:Nat->List β->dA) (h0:I 0 [] ⟨nP 0 fs,Z.heap⟩) (hl:∀i acc S',I i acc S'->live S'.heap/\acc.length<=sizeLine) (turn:∀i y acc S',items[i]?=some y->I i acc S'->body S' I i acc y) (done:∀acc S',I items.length acc S'->Kf acc S'.heap)
def vW {β:Type}(c:bc)(C:Cx)(sc scope:Scope)(vars:ag)(fs:List (Nat×Str×AV))(body:Cx->AS->(Nat->List β->dA)->Nat->List β->AV->Prop)(items:dB)(live:bg->Prop)(Z:AS)(Kf:List β->bg->Prop):Prop :=
 rU C Z fs/\∀env own,(∀x,scope.names.lookup x=some .local\/scope.names.lookup x=some .cell->bG (Dd scope sc env own C.frames C.handled C.n vars) (λzz=>none) x) ->
  CompI C fs (body (Dd scope sc env own C.frames C.handled C.n vars)) items live Z Kf
def qr (c:bc)(target elt:Expr)(ifs:dM)(C:Cx)(S:AS)(I:Nat->u9)(i:Nat)(acc:dB)(y:AV):Prop :=
 xy c C target y S (λaF=>De c C ifs aF (λok aY=>match ok with | false=>vV (I (i+1) acc) aY | true=>Ev c C elt aY (λw co=>vV (I (i+1) (acc++[w])) co) gX))
def vX (c:bc)(target kx vx:Expr)(ifs:dM)(C:Cx)(S:AS)(I:Nat->eQ->dA)(i:Nat)(acc:eQ)(y:AV):Prop :=
 xy c C target y S (λaF=>De c C ifs aF (λok aY=>match ok with | false=>vV (I (i+1) acc) aY | true=>Ev c C kx aY (λw co=>∃x,w=.str x/\Ev c C vx co (λv fY=>vV (I (i+1) (df acc x v)) fY) gX) gX))
inductive CompK | list (elt:Expr) | dict (kx vx:Expr)
noncomputable def CompK.expr (target iter:Expr)(ifs:dM)(scope:Scope)(pos:Pos):CompK->Expr
 | .list elt=>.ListComp elt [⟨target,iter,ifs,0⟩] scope pos
 | .dict kx vx=>.DictComp kx vx [⟨target,iter,ifs,0⟩] scope pos
noncomputable def CompK.emit (D:Addr)(env:Env):CompK->Sem Unit
 | .list elt=>do let _ <-call (.builtin "list.append") [.ref D,<-eval elt env]
 | .dict kx vx=>do
  let kv <-eval kx env;let vv <-holding [kv] (eval vx env)
  standAt {kx.pos with endLine:=vx.pos.endLine,endCol:=vx.pos.endCol}
  holding [kv,vv] (dictSet D kv vv)
abbrev CompK.β:CompK->Type
 | .list _=>AV
 | .dict ..=>Str×AV
def CompK.body (c:bc)(target:Expr)(ifs:dM):(k:CompK)->Cx->AS->(Nat->List k.β->dA)->Nat->List k.β->AV->Prop
 | .list elt=>qr c target elt ifs
 | .dict kx vx=>vX c target kx vx ifs
def CompK.em (c:bc):(k:CompK)->Cx->AS->List k.β->(List k.β->dA)->Prop
 | .list elt,C,S,(acc:dB),K=>Ev c C elt S (λw co=>K (acc++[w]:dB) co) gX
 | .dict kx vx,C,S,(acc:eQ),K=>Ev c C kx S (λw co=>∃x,w=.str x/\Ev c C vx co (λv fY=>K (df acc x v:eQ) fY) gX) gX
theorem CompK.F4 (c:bc)(target:Expr)(ifs:dM)(k:CompK)(C:Cx)(S:AS)(I:Nat->List k.β->dA)(i:Nat)(acc:List k.β)(y:AV)(h:k.body c target ifs C S I i acc y) :
 xy c C target y S (λaF=>De c C ifs aF (λok aY=>match ok with | false=>vV (I (i+1) acc) aY | true=>k.em c C aY acc (λie co=>vV (I (i+1) ie) co))):=by
 cases k <;> exact h
def CompK.rel (c:bc)(F:G)(bs:aO)(D:Addr)(o:Obj):(k:CompK)->List k.β->Prop
 | .list _,acc=>∃vs n,o=bx vs n/\c.Vs F bs acc vs
 | .dict ..,acc=>∃rs,oB (sk c.prog c.w) (λzz=>some o) D rs/\c.SV F bs acc rs
theorem rV
 (h:Q (newEnv scope s.heap.objs.size globals (cellsFrom (s.heap.objs.size+1) scope.names cl) qual none .none (some outer) builtinsNs) {s with heap:=pushCells (s.heap.push {cls:=.type "dict",data:=.dict #[]}) scope.names}) :
 wpAny M A (newFunctionEnv scope globals cl [] qual none .none (some outer)) Q E s:=by
 skip
 refine ah (wpAny_alloc ?_);refine ah (wpAny_layCells _ (λname kind cells=>by cases LO:kind==NameKind.cell <;> simp [LO]) _ _ _ _ ?_);refine rE (show ({s with heap:=s.heap.push {cls:=.type "dict",data:=.dict #[]}}:Shared).heap.objs.size=s.heap.objs.size+1 from fh ..) ?_;exact ah (aM (aM h))
section
variable {c:bc}{C:Cx}{S:AS}{F F':G}{bs aE:aO}{s s':Shared}{A:Around}{X:dU}{K:dC}{mg mb:fV}{pos:Pos}
theorem St.forget (z:St c C F bs S s)(h:bw S loc):St c C F bs ⟨loc,S.heap⟩ s:=by refine e1a1 z.locs λm hN hl=>?_;exact ⟨z.wd,(ae m hN (λx u e=>hl x u (h.at x u e))),z.gG,z.cH,z.own,z.cells,z.apart,z.frames,z.glob,z.blt,z.kind,z.oD,z.gH⟩
theorem kC {k:CompK}(I:Nat->mq)
 (turn:∀n s,I n s->wpAny (model prog w) A (pyNext it) (λr O=>match r with
  | none=>R (.ok .next) O
  | some v=>wpAny (model prog w) A (letOwnedTupleGo target it v) (λzz oG=>wpAny (model prog w) A (assign target env v) (λzz ac =>
   wpAny (model prog w) A (forIn ifs true λc r=>if r=true then do let ok <-isTrue c env (eval c env);pure (ForInStep.yield ok) else pure (ForInStep.yield r)) (λok aP =>
    if ok=true then wpAny (model prog w) A (k.emit D env) (λzz dW=>∃m,m < n/\I m dW) (notedBy (model prog w) A env λe s'=>R (.error e) s') aP
    else ∃m,m < n/\I m aP) (notedBy (model prog w) A env λe s'=>R (.error e) s') ac) (notedBy (model prog w) A env λe s'=>R (.error e) s') oG) (notedBy (model prog w) A env λe s'=>R (.error e) s') O) (notedBy (model prog w) A env λe s'=>R (.error e) s') s)
 (n:Nat) (h:I n s) :
 codeAny (model prog w) A (.compLoop (k.expr target iter ifs scope pos) 0 it (.ref D) env) R s:=by
 refine codeAny_loop rfl I (λn s hI=>?_) n h;have hu:A.under (.compLoop (k.expr target iter ifs scope pos) 0 it (.ref D) env)=A:=by clear turn;cases k <;> rfl
 have hd:(model prog w).den (.compLoop (k.expr target iter ifs scope pos) 0 it (.ref D) env)=(compTurn (k.expr target iter ifs scope pos) 0 it (.ref D) env).onRaise (λx=>do noteFrame x env;theTreesLotGoes x):=by clear hu turn;cases k <;> rfl
 rw [hu,hd];refine wpAny_noted ?_;have e:compTurn (k.expr target iter ifs scope pos) 0 it (.ref D) env=(do
  standAt iter.pos
  match <-pyNext it with
  | none=>pure (.done .next)
  | some v =>
    letOwnedTupleGo target it v
    assign target env v
    let mut ok:=true
    for c in ifs do
     if ok then ok <-isTrue c env (eval c env)
    if ok then k.emit D env
    again (.compLoop (k.expr target iter ifs scope pos) 0 it (.ref D) env)):=by clear hd hu turn;cases k <;> rfl
 refine rE e ?_;refine ah (wpAny_standAt (ah (aQ (turn n s hI) (λr O h₁=>?_) λzz zz h'=>h')));cases r with
 | none=>exact aM h₁
 | some v =>
   refine ah (aQ h₁ (λzz oG vL=>?_) λzz zz h'=>h');refine ah (aQ vL (λzz ac ko=>ah (aQ ko (λok aP lE=>?_) λzz zz h'=>h')) λzz zz h'=>h');cases ok with
   | false=>exact aM ⟨rfl,lE⟩
   | true=>exact ah (aQ lE (λzz ch Df=>aM ⟨rfl,Df⟩) λzz zz h'=>h')
theorem jK (h:eJ sc scope fs vars=true):scope.kind=.function/\vars.Nodup/\(∃r,fs++r=vars) /\
 (∀x∈fs,scope.names.lookup x=some .free/\(sc.names.lookup x=some .cell\/sc.names.lookup x=some .free)/\∀k,(x,k)∈scope.names->k≠.cell) /\
 (∀x,(x,NameKind.free)∈scope.names->x∈fs)/\(∀p∈scope.names,p.2=.local->scope.names.lookup p.1=some .local):=by
 simp only [eJ,cZ,beq_iff_eq,decide_eq_true_eq,List.all_eq_true,Bool.or_eq_true,Bool.not_eq_true',Bool.and_eq_false_imp,beq_eq_false_iff_ne,List.contains_iff_mem] at h;refine e0a1 h λwT h6=>?_;refine e0a1 wT λyX h5=>?_;clear wT;refine e0a1 yX λxr h4=>?_;clear yX;refine e0a1 xr λyV h3=>?_;clear xr;obtain ⟨h1,h2⟩:=yV;refine (kX h1 h2 (List.isPrefixOf_iff_prefix.mp h3) (λx hx=>?_) (λx hx=>?_) (λp hp hl=>?_))
 . refine e0a1 (h4 x hx) λs4 a3=>?_;refine e0a1 s4 λa1 a2=>?_;clear s4;refine (aG a1 a2 (λk hk e=>?_));obtain this:=a3 (x,k) hk rfl;exact this e
 . (refine aN (h5 (x,.free) hx) (λq=>?_) (λq=>?_))
   . exact absurd rfl q
   . exact q
 . (refine aN (h6 p hp) (λq=>?_) (λq=>?_))
   . exact absurd hl q
   . exact q
theorem mem_of_lookupK {l:List (Str×NameKind)}(h:l.lookup x=some k):(x,k)∈l:=by
 induction l with
 | nil=>exact bE h
 | cons p l ih =>
   rw [List.lookup_cons] at h;by_cases q:(x==p.1)=true
   . replace h:=q▸h;cases h;obtain this:x=p.1:=by simpa using q
     clear ih q;subst this;exact .head _
   . simp only [Bool.not_eq_true] at q;rw [q] at h;exact .tail _ (ih h)
theorem iY.cellAt (z:iY c C F bs h m i v)(hx:C.vars[i]?=some x)(hk:C.env.kindOf x=some .cell\/C.env.kindOf x=some .free) :
 Hi c C.env F bs h x v:=by
 refine e1a1 z λx' kr w=>?_;obtain rfl:=bo (aB (aq hx) kr);cases w with
 | loc hl=>rw [hl] at hk;exact hk.elim nofun nofun
 | cell _ w=>exact w
noncomputable def jL (C:Cx)(scope:Scope):List (Str×Addr):=kb (λx=>(C.env.cells.lookup x).getD 0) scope.names []
theorem sH (oK:C.env.scope=sc)(eI:eJ sc scope (fs.map (·.2.1)) vars=true)(z:St c C F bs S s)(jY:rU C S fs) :
 closureFor scope C.env=pure (jL C scope)/\∀s',s'={s with heap:=pushCells (s.heap.push {cls:=.type "dict",data:=.dict #[]}) scope.names} ->
  ∃env own,newEnv scope s.heap.objs.size C.env.globals (cellsFrom (s.heap.objs.size+1) scope.names (jL C scope)) C.env.qual none .none (some C.env) builtinsNs=env /\
   St c (Dd scope sc env own C.frames C.handled C.n vars) F bs ⟨nP 0 fs,S.heap⟩ s'/\bf c F bs s s'/\(∀b∈own,s.heap.get? b=none)/\env.locals=s.heap.objs.size /\
   (∀x,scope.names.lookup x=some .local\/scope.names.lookup x=some .cell->bG (Dd scope sc env own C.frames C.handled C.n vars) (λzz=>none) x)/\(s'.heap.get? s.heap.objs.size=some {cls:=.type "dict",data:=.dict #[]}):=by
 refine e0a5 (jK eI) λk1 k2 yW k4 k5 k6=>?_;refine e1a0 yW λrest k3=>?_;clear yW;refine e1a1 z.locs λm hN hl=>?_;obtain cellAt:∀x,x∈fs.map (·.2.1)->∃a,C.env.cells.lookup x=some a:=λx hx=>by refine e1a1 (dS hx) λp hp u5=>?_;obtain rfl:=u5;refine e0a1 (jY.mem p hp) λh1 h2=>?_;refine e0a2 (k4 p.2.1 hx) λzz RQ zz=>?_;obtain ⟨a,o,r,e,_⟩:=(hl _ _ h2).cellAt h1 (by delta Env.kindOf;rw [oK];exact RQ);exact (ck a e)
 let ad:Str->Addr:=λx=>(C.env.cells.lookup x).getD 0;have zf:∀x,x∈fs.map (·.2.1)->C.env.cells.lookup x=some (ad x):=λx hx=>by refine e1a0 (cellAt x hx) λa e=>?_;show _=some ((C.env.cells.lookup x).getD 0);refine rE e ?_;rfl
 refine ⟨jX ad λx hx=>zf x (k5 x hx),λs' db=>?_⟩;have xG:∀x a,(kb ad scope.names []).lookup x=some a->C.env.cells.lookup x=some a:=λx a e=>by
  (refine aN (je ad scope.names [] (x,a) (mem_of_lookup e)) (λq=>?_) (λu6=>?_);rotate_left;refine e0a1 u6 λq1 q2=>?_;rotate_right)
  . cases q
  . have:a=ad x:=q1;refine rE this ?_;exact zf x (k5 x q2)
 let cs:=cellsFrom (s.heap.objs.size+1) scope.names [];refine (eO _ (s.heap.objs.size::cs.map (·.2)) rfl ?_);have op:=St.opens (c:=c) (F:=F) (bs:=bs) (s:=s) (s':=s') (H:=S.heap) z.wd (cl:=kb ad scope.names []) ⟨λx a e=>?_,λx y a e1 e2=>z.apart x y a (xG x a e1) (xG y a e2)⟩ "dict" (by decide) scope.names
  {(newEnv scope s.heap.objs.size C.env.globals (cellsFrom (s.heap.objs.size+1) scope.names (kb ad scope.names [])) C.env.qual none .none (some C.env) builtinsNs) with scope:=ek scope sc}
  (s.heap.objs.size::cs.map (·.2)) C.frames C.handled C.n vars (nP 0 fs) db rfl rfl rfl z.glob z.blt k1 k2 (λe he=>?_) (λi v e=>?_) (.inl rfl)
 . refine e0a2 op λo1 o2 o3=>?_;refine (kX o1 o2 o3 rfl (λx hx=>?_) ?_)
   . (refine aN hx (λq=>?_) (λq=>?_))
     . refine .inl ?_;show (ek scope sc).names.lookup x=_;rw [iz,q];rfl
     . refine .inr ⟨?_,?_⟩
       . show (ek scope sc).names.lookup x=_;rw [iz,q];rfl
       . obtain oM:(cs.lookup x).isSome=true:=PySem.W.cellsFrom_some _ _ _ (.inl q);refine e1a0 (Option.isSome_iff_exists.mp oM) λa ha=>?_;refine (ae a ?_ (.tail _ (dm (ae (x,a) (mem_of_lookup ha) rfl))));show (cellsFrom (s.heap.objs.size+1) scope.names (kb ad scope.names [])).lookup x=some a;rw [dF,List.lookup_append];refine rE ha ?_;rfl
   . rw [db];exact pushCells_keeps _ _ _ _ (cT _ rfl)
 . obtain ⟨h1,h2,o,h3,h4,h5⟩:=z.cells x a (xG x a e);exact (tS h1 o h3 h4 h5)
 . refine e0a1 (z.frames e he) λf1 f2=>?_;refine ⟨f1.keep λb o e zz=>(ae o ?_ (.refl o)),f2⟩;rw [db];exact pushCells_keeps _ _ _ _ (bU _ e)
 . refine e2a1 (Af fs 0 i v e) λi' x h1 h2=>?_
   skip
   obtain hm:(i',x,v)∈fs:=ct h2;have WZ:x∈fs.map (·.2.1):=dm (ae _ hm rfl);refine e0a1 (jY.mem _ hm) λe1 e2=>?_;refine e0a2 (k4 x WZ) λq1 q2 q3=>?_;obtain RV:C.env.kindOf x=some .cell\/C.env.kindOf x=some .free:=by delta Env.kindOf;rw [oK];exact q2
   obtain ⟨a,o,r,w1,w2,w3,w4⟩:=(hl _ _ e2).cellAt e1 RV;refine ⟨x,?_,?_,q3,a,o,r,?_,w2,w3,w4⟩
   . rw [<-k3,eN (by rw [fz];exact (bN h2).1),dw];refine rE h2 ?_;rfl
   . show (ek scope sc).names.lookup x=_\/(ek scope sc).names.lookup x=_;rw [iz,q1];by_cases h:(NameKind.free==NameKind.free&&sc.kind==ScopeKind.function&&sc.names.lookup x==some NameKind.cell)=true
     . left;simp only [Option.map_some,h,if_true]
     . right;simp only [Option.map_some,h,if_false];simp
   . rw [oJ ad scope.names x (mem_of_lookupK q1)];obtain this:=zf x WZ;rw [w1] at this;exact this.symm
end
structure iM (W:aO)(F:G)(bs:aO)(h:Heap)(F':G)(aE:aO)(h':Heap):Prop where
 sub:∀b o,F b=some o->F' b=some o
 ext:∃nb,aE=bs++nb/\∀a∈nb,h.get? a=none
 mono:∀b o,b∉W->h.get? b=some o->∃o',h'.get? b=some o'
 dT:∀b o,h.get? b=some o->b∉W->b∉bs->o.cls≠.none->∃o',h'.get? b=some o'/\iI o o'
 ja:∀b o,F' b=some o->F b=none->h.get? b=none\/b∈bs
section
variable {W own:aO}{F F₁ aX:G}{bs bs₁ ap:aO}{h h₁ ko:Heap}
theorem iM.F5 (m:bf c F bs s s'):iM W F bs s.heap F bs s'.heap :=
 ⟨λzz zz e=>e,(ae [] (by simp) (by simp)),λb o zz e=>(ck o (m.keep _ _ e)),λb o e zz zz zz=>(ae o (m.keep _ _ e) (.refl o)),λb o e n=>by lia⟩
theorem iM.step (x:iM W F bs h F₁ bs₁ h₁)(y:Step own F₁ bs₁ h₁ aX ap ko)(ho:∀a∈own,a∈W)(hW:∀a∈W,∃o,h₁.get? a=some o):iM W F bs h aX ap ko:=by
 refine e1a1 x.ext λnb mo hn=>?_;obtain rfl:=mo;refine e1a1 y.ext λwS nO gW=>?_;refine rE nO ?_;have new:∀a,h₁.get? a=none->h.get? a=none:=λa ha=>by
  cases e:h.get? a with
  | none=>rfl
  | some o =>
    by_cases q:a∈W
    . refine e1a0 (hW a q) λo' e'=>?_;rw [ha] at e';cases e'
    . refine e1a0 (x.mono a o q e) λo' e'=>?_;rw [ha] at e';cases e'
 have off:∀b o,h.get? b=some o->b∉bs->b∉bs++nb:=λb o e n m=>by
  (refine aN (bL m) (λm=>?_) (λm=>?_))
  . exact n m
  . exact bE (aB (aq (hn b m)) e)
 refine ⟨λb o e=>y.sub _ _ (x.sub _ _ e),(ae (nb++wS) (by simp) (λa ha=>(bL ha).elim (hn a) (λq=>new a (gW a q)))),λb o q e=>?_,λb o e n1 n2 n3=>?_,λb o e n=>?_⟩
 . refine e1a0 (x.mono b o q e) λo' e'=>?_;exact y.mono _ _ e'
 . refine e1a1 (x.dT b o e n1 n2 n3) λo' e' s1=>?_;refine e1a1 (y.dT b o' e' (λq=>n1 (ho b q)) (off b o e n2) (by refine rE s1.cls ?_;exact n3)) λFE Bm s2=>?_;exact (ae FE Bm (s1.trans s2))
 . cases e1:F₁ b with
   | some o1=>exact x.ja b o1 e1 n
   | none =>
     (refine aN (y.ja b o e e1) (λz=>?_) (λz=>?_))
     . exact .inl (new b z)
     . (refine aN (bL z) (λz=>?_) (λz=>?_))
       . exact .inr z
       . exact .inl (hn b z)
theorem iM.others (x:iM W F bs h F₁ bs₁ s.heap)(t:cE wr s s')(hw:∀a∈wr,a∈W):iM W F bs h F₁ bs₁ s'.heap:=by
 refine ⟨x.sub,x.ext,λb o q e=>?_,λb o e n1 n2 n3=>?_,x.ja⟩
 . refine e1a0 (x.mono b o q e) λo' e'=>?_;exact (ck o' (t.same b (λm=>q (hw b m)) _ e'))
 . refine e1a1 (x.dT b o e n1 n2 n3) λo' e' s1=>?_;exact (ae o' (t.same b (λm=>n1 (hw b m)) _ e') s1)
theorem Step.MA (x:Step own F bs h F₁ bs₁ h₁)(y:iM W F₁ bs₁ h₁ aX ap ko)(hW:∀a∈W,h.get? a=none):Step own F bs h aX ap ko:=by
 refine e1a1 x.ext λnb o9 hn=>?_;obtain rfl:=o9;refine e1a1 y.ext λwS o8 gW=>?_;refine rE o8 ?_;obtain off:∀b o,h.get? b=some o->b∉bs->b∉bs++nb:=λb o e n m=>by
  (refine aN (bL m) (λm=>?_) (λm=>?_))
  . exact n m
  . exact bE (aB (aq (hn b m)) e)
 have nW:∀b o,h.get? b=some o->b∉W:=λb o e q=>by exact bE (aB (aq (hW b q)) e)
 have new:∀a,h₁.get? a=none->h.get? a=none:=λa ha=>by
  cases e:h.get? a with
  | none=>rfl
  | some o=>refine e1a0 (x.mono _ _ e) λo' e'=>?_;exact bE (aB (aq ha) e')
 refine ⟨λb o e=>y.sub _ _ (x.sub _ _ e),(ae (nb++wS) (by simp) (λa ha=>(bL ha).elim (hn a) (λq=>new a (gW a q)))),λb o e=>?_,λb o e n1 n2 n3=>?_,λb o e n=>?_⟩
 . refine e1a0 (x.mono _ _ e) λo' e'=>?_;exact y.mono b o' (nW b o e) e'
 . refine e1a1 (x.dT b o e n1 n2 n3) λo' e' s1=>?_;refine e1a1 (y.dT b o' e' (nW b o e) (off b o e n2) (by refine rE s1.cls ?_;exact n3)) λFE Bm s2=>?_;exact (ae FE Bm (s1.trans s2))
 . cases e1:F₁ b with
   | some o1=>exact x.ja b o1 e1 n
   | none =>
     (refine aN (y.ja b o e e1) (λz=>?_) (λz=>?_))
     . exact .inl (new b z)
     . (refine aN (bL z) (λz=>?_) (λz=>?_))
       . exact .inr z
       . exact .inl (hn b z)
end
section
variable {c:bc}{C:Cx}{S:AS}{F F':G}{bs aE:aO}{s s':Shared}{A:Around}{X:dU}{K:dC}{mg mb:fV}{pos:Pos}
theorem St.Jl (x:St c C F bs S s)(st:iM W F bs s.heap F' aE s'.heap)(hW:∀b∈W,s.heap.get? b=none\/di c C F bs b)(y:Wd c F' aE H' s'):St c C F' aE {S with heap:=H'} s':=by
 refine e1a1 st.ext λnb o7 K5=>?_;obtain rfl:=o7;refine e1a1 x.locs λmm hN hl=>?_;have xo:∀b o,s.heap.get? b=some o->b∉bs->b∉bs++nb:=λb o e q z=>by
  (refine aN (bL z) (λz=>?_) (λz=>?_))
  . exact q z
  . exact bE (aB (aq (K5 b z)) e)
 have Bn:∀b o,s.heap.get? b=some o->b∉bs->F b=none->F' b=none:=λb o e q z=>by
  cases e':F' b with
  | none=>rfl
  | some o'=>(refine aN (st.ja b o' e' z) (λy=>?_) (λy=>?_))
             . exact bE (aB (aq y) e)
             . exact absurd y q
 have Jm:∀b o,s.heap.get? b=some o->¬di c C F bs b->b∉W:=λb o e q m=>(hW b m).elim (λz=>by lia) q;have MB:∀b∈C.own,∀o,s.heap.get? b=some o->b∉W:=λb hb o e=>Jm b o e λf=>f.own hb;have Hs:∀y b,C.env.cells.lookup y=some b->∀o,s.heap.get? b=some o->b∉W:=λy b hb o e=>Jm b o e λf=>f.cells y hb;obtain Jn:∀e∈C.frames,∀L,e.frame=some L->∀o,s.heap.get? L=some o->L∉W:=λe he L hL o e'=>Jm L o e' λf=>f.frames e he hL;obtain hL:=(x.own _ x.cH).2.1;refine e1a1 x.gG λoL eL nL=>?_;refine e1a1 (st.dT _ oL eL (MB _ x.cH oL eL) hL nL) λFk Bq sL=>?_;refine ⟨y,(ae mm ?_ (λz v e=>?_)),(ae Fk Bq (by rw [sL.cls];exact nL)),x.cH,λb hb=>?_,λz b e=>?_,x.apart,λe he=>⟨?_,λL rN=>?_⟩,x.glob,x.blt,x.kind,x.oD,x.gH.mono st.sub⟩
 . refine e3a2 hN λo es ep ho hd r=>?_;obtain rfl:=bo (aB (aq eL) ho);exact (gw Fk es ep Bq (sL.data.trans hd) r)
 . refine iY.mono st.sub ((hl z v e).heap λy b o e1 e2=>?_);obtain ⟨h1,h2,o2,h3,h4,_⟩:=x.cells y b e1;obtain rfl:=bo (aB (aq e2) h3);refine e1a1 (st.dT b o e2 (Hs y b e1 o e2) h1 (by rw [h4];simp)) λo' e' s1=>?_;exact (ae o' e' s1.data)
 . obtain ⟨h1,h2,o,h3⟩:=x.own b hb;exact (aG (Bn b o h3 h2 h1) (xo b o h3 h2) (st.mono b o (MB b hb o h3) h3))
 . obtain ⟨h1,h2,o,h3,h4,v,h5⟩:=x.cells z b e;refine e1a1 (st.dT b o h3 (Hs z b e o h3) h1 (by rw [h4];simp)) λo' e' s1=>?_;exact (aG (xo b o h3 h1) h2 ⟨o',e',s1.cls.trans h4,v,s1.data.trans h5⟩)
 . obtain ⟨hk,L,o,h1,h2,h3,h4⟩:=(x.frames e he).1;refine e1a1 (st.dT L o h2 (Jn e he L h1 o h2) ((x.frames e he).2 L h1).2 (by rw [h3];simp)) λo' e' s1=>?_;exact ⟨hk,L,o',h1,e',s1.cls.trans h3,λvs=>by rw [s1.data];exact h4 vs⟩
 . obtain ⟨hk,L',o,h1,h2,h3,h4⟩:=(x.frames e he).1;obtain rfl:=bo (aB (aq rN) h1);obtain this:=(x.frames e he).2 L rN;exact ⟨Bn L o h2 this.2 this.1,xo L o h2 this.2⟩
theorem F6 {K:Bool->dA}(hA:jW C A)(z:St c C F bs S s)(h:De c C ifs S K) :
 WP c C A (λzz zz b r=>r=b) (forIn ifs true λc r=>if r=true then do let ok <-isTrue c C.env (eval c C.env);pure (ForInStep.yield ok) else pure (ForInStep.yield r)) F bs s K gX:=by
 match ifs,h with
 | [],h=>exact wpAny_tests_nil ⟨F,bs,true,S,.refl ..,z,rfl,h⟩
 | [t],h=>exact wpAny_tests_one (h A F bs s hA z)
 | _::_::_,h=>exact h.elim
theorem CompK.jM {k:CompK}{acc:List k.β}(h:k.rel c F bs D ob acc):ob.cls≠.none/\ob.cls≠.type "frame":=by
 cases k with
 | list elt=>refine e2a1 h λvs n o6 zz=>?_;clear h;refine rE o6 ?_;simp [bx]
 | dict kx vx=>refine e1a1 h λrs rF zz=>?_;clear h;obtain ⟨es,n,e,_⟩:=rF;refine rE (bo e) ?_;simp [bC]
theorem CompK.m3 {k:CompK}{acc:List k.β}(x:k.rel c F bs D ob acc)(st:Step own F bs h F' aE h'):k.rel c F' aE D ob acc:=by
 cases k with
 | list elt=>refine e2a1 x λvs n e hv=>?_;exact (eO vs n e (st.Vs hv))
 | dict kx vx =>refine e1a1 x λrs e hv=>?_;refine e1a1 st.ext λnb o5 zz=>?_;refine rE o5 ?_;exact (ae rs e (aU.mono st.sub hv))
noncomputable def CompK.obj₀:CompK->Obj
 | .list _=>bx [] 0
 | .dict ..=>bC #[] 0
noncomputable def CompK.new:CompK->Sem Value
 | .list _=>newList []
 | .dict ..=>newDict
inductive ZG (c:bc)(C:Cx)(k:CompK)(D:Addr)(ob:Obj)(F:G)(bs:aO)(h₀:Heap)(K:List k.β->dA)(qs:Shared):Prop
 | mk (F':G) (aE:aO) (S':AS) (dW:Shared) (ie:List k.β) (ID:Obj) (st:Step C.own F bs h₀ F' aE dW.heap) (z:St c C F' aE S' dW) (h5:dW.heap.get? D=some ob) (f:di c C F' aE D) (t:cE [D] dW qs) (h6:qs.heap.get? D=some ID) (hr:k.rel c F' aE D ID ie) (hk:K ie S')
inductive Ht (c:bc)(C:Cx)(k:CompK)(D:Addr)(own:aO)(wr:aO)(N:Nat)(Ps:Nat->G->aO->mq)(F:G)(bs:aO)(h₀:Heap)(I:Nat->List k.β->dA)(j:Nat)(s':Shared):Prop
 | mk (F':G) (aE:aO) (S':AS) (i:Nat) (acc:List k.β) (ob:Obj) (st:iM own F bs h₀ F' aE s'.heap) (z:St c C F' aE S' s') (f:cf c C F' aE wr s'.heap) (fD:di c C F' aE D) (h:s'.heap.get? D=some ob) (hr:k.rel c F' aE D ob acc) (hI:I i acc S') (p:Ps i F' aE s') (hi:i<=N) (e:j=N+1 - i)
inductive Dg (c:bc)(C:Cx)(k:CompK)(D:Addr)(own:aO)(F:G)(bs:aO)(h₀:Heap)(I:List k.β->dA)(r:Except Value Flow)(s':Shared):Prop
 | mk (e:r=.ok .next) (F':G) (aE:aO) (S':AS) (acc:List k.β) (ob:Obj) (st:iM own F bs h₀ F' aE s'.heap) (z:St c C F' aE S' s') (fD:di c C F' aE D) (h:s'.heap.get? D=some ob) (hr:k.rel c F' aE D ob acc) (hI:I acc S')
@[reducible] def R3 (c:bc) (C:Cx) (k:CompK) (i:Nat) (acc:List k.β) (I:Nat->List k.β->dA):Bool->dA:=λok aY=>match ok with | false=>vV (I (i+1) acc) aY | true=>k.em c C aY acc (λie co=>vV (I (i+1) ie) co)
@[reducible] def MC (c:bc) (C:Cx) (A:Around) (k:CompK) (D:Addr) (J:Nat->mq) (n:Nat):Bool->mq:=λok aP=>if ok=true then wpAny (model c.prog c.w) A (k.emit D C.env) (λzz dW=>∃m,m < n/\J m dW) (λzz zz=>False) aP else ∃m,m < n/\J m aP
theorem F8 (hA:jW C A)(z:St c C F bs S s){acc:List k.β}(hD:s.heap.get? D=some ob)(hr:k.rel c F bs D ob acc)(fD:di c C F bs D)(hl:acc.length<=sizeLine){K:List k.β->dA}(h:k.em c C S acc K) :
 wpAny (model c.prog c.w) A (k.emit D C.env) (λzz=>ZG c C k D ob F bs s.heap K) (λzz zz=>False) s:=by
 have oN:∀{F' rH:G} {aE kc:aO} {s' jf:Shared},di c C F' aE D->s'.heap.get? D=some ob->Step C.own F' aE s'.heap rH kc jf.heap->jf.heap.get? D=some ob/\di c C rH kc D:=by intro F' rH aE kc s' jf fd hd st;refine e1a1 (st.dT D _ hd fd.own fd.bs (CompK.jM hr).1) λo' e' sm=>?_;rw [sm.qa (CompK.jM hr).2] at e';exact ⟨e',fd.step st hd⟩
 cases k with
 | list elt =>
   refine ah (aQ (h A F bs s hA z) (λx dW q6=>q6.casesOn λfH eh w fY kt fZ hw kk=>?_) λzz zz q7=>q7.casesOn λzz zz zz zz zz zz zz q=>q.elim);refine e0a1 (oN fD hD kt) λm0 sp=>?_;refine e2a1 hr λvs n o4 be=>?_;clear hr;clear oN hD;obtain rfl:=o4;have Jo:=kt.Vs (c:=c) be;obtain hlen:vs.length<=sizeLine:=by rw [be.length];exact hl
   refine ah (call_meets PySem.F.slot_list_append (ae _ m0 rfl) PySem.F.entry_list_append (PySem.F.args_list_append_2 _ _) (AutoListH.list_append_list_val_0 D vs.toArray n x (hlen)) ⟨m0,?_⟩);refine aM ?_;obtain e:(bx vs n).mapSeq (λR4=>R4.push x)=bx (vs++[x]) (n+1):=by simp [bx,Obj.mapSeq]
   generalize zg:({dW with heap:=dW.heap.update D (Obj.mapSeq λR4=>R4.push x),toks:=dW.toks}:Shared)=qs;have zh:qs.heap.get? D=some (bx (vs++[x]) (n+1)):=by refine zg▸e▸?_;exact hK _ m0 (rfl)
   have hs:Heap.SameBut D dW.heap qs.heap:=by refine zg▸?_;exact Heap.SameBut.update ..
   exact ⟨fH,eh,fY,dW,acc++[w],_,kt,fZ,m0,sp,⟨λb hb o e=>(hs.2 b (by simpa using hb)).trans e,by rw [<-zg],by rw [<-zg]⟩,zh,(eO _ _ rfl (Jo.append (.cons hw .nil))),kk⟩
 | dict kx vx =>
   refine ah (aQ (h A F bs s hA z) (λkv ch ⟨ec,ca,w,co,m5,cr,hw,x,ew,Df⟩=>?_) λzz zz q9=>q9.casesOn λzz zz zz zz zz zz zz q=>q.elim);refine e0a1 (oN fD hD m5) λsw zk=>?_;subst ew;refine e1a0 hw.inv λzz o3=>?_;refine rE o3 ?_;refine ah (wpAny_holding (aQ (Df A ec ca ch hA cr) (λvv dW ZH=>ZH.casesOn λfH eh v fY kt fZ hv kk=>?_) λzz zz Re=>Re.casesOn λzz zz zz zz zz zz zz q=>q.elim));refine e0a1 (oN zk sw kt) λm0 sp=>?_;refine e1a1 (CompK.m3 (k:=.dict kx vx) (CompK.m3 (k:=.dict kx vx) hr m5) kt) λrs hd Hr=>?_;have MD:oB (sk c.prog c.w) dW.heap.get? D rs:=by obtain ⟨es,n,e,r⟩:=hd;clear sw hr oN hD;obtain rfl:=bo e;exact ⟨es,n,m0,r⟩
   have pn:(D==sysModules)=false:=(let ⟨_,_,_,_,_,_,e⟩:=hd;e)
   refine ah (wpAny_standAt (wpAny_holding (wpAny_dictSet_pairs (hsz:=by obtain e:=congrArg List.length (aU.keys Hr);simp at e;rw [e];exact hl) (str_is x _) (MD.dictOf (c:=c)) λh' ua db=>?_)));obtain Ac:=oB.xx (c:=c) ua pn;obtain ⟨es,n,e,r⟩:=Ac;exact ⟨fH,eh,fY,dW,df acc x v,_,m5.trans kt,fZ,m0,sp,⟨λb hb o e=>(db.2 b (by simpa using hb)).trans e,rfl,rfl⟩,e,(ae _ ⟨es,n,rfl,r⟩ (aU.put x Hr hv)),kk⟩
theorem Ah (hh:C.handled=none)(W:Iter c target it items live wr Ps)
 (I:Nat->List k.β->dA) (hI:∀i acc S',I i acc S'->live S'.heap/\acc.length<=sizeLine) (turn:∀i y acc S',items[i]?=some y->I i acc S'->k.body c target ifs C S' I i acc y)
 (hA:jW C A) (h0:I 0 [] S) (z:St c C F bs S s) (jp:cf c C F bs wr s.heap) (hp:Ps 0 F bs s) (hD:s.heap.get? D=some Hu) (Hv:k.rel c F bs D Hu []) (fD:di c C F bs D) (Jp:D∉wr) (al:iM (wr++D::C.own) F₁ bs₁ h₁ F bs s.heap) :
 codeAny (model c.prog c.w) A (.compLoop (k.expr target iter ifs scope pos) 0 (.ref it) (.ref D) C.env)
  (Dg c C k D (wr++D::C.own) F₁ bs₁ h₁ (I items.length)) s:=by
 refine kC (Ht c C k D (wr++D::C.own) wr items.length Ps F₁ bs₁ h₁ I) ?_ (items.length+1)
  ⟨F,bs,S,0,[],Hu,al,z,jp,fD,hD,Hv,h0,hp,Nat.zero_le _,yM⟩
 intro j ac o1;obtain ⟨aX,ap,aF,i,acc,ob,am,aJ,zY,lH,jg,m6,sB,y9,hi,rfl⟩:=o1;have Jq:∀(F':G) (aE:aO) (S':AS) (s':Shared),St c C F' aE S' s'->cf c C F' aE wr s'.heap->(∃ob,s'.heap.get? D=some ob)->∀a∈wr++D::C.own,∃o,s'.heap.get? a=some o:=λF' aE S' s' z' f' ua a ha=>by
  rcases bL ha with q | q
  . refine e1a1 (f'.at_ a q) λo e zz=>?_;exact (ck o e)
  . clear ha m6 jg lH am al Jp fD Hv hD;rcases cu q with rfl | q
    . exact ua
    . exact (z'.own a q).2.2
 have Jr:∀a∈wr++C.own,a∈wr++D::C.own:=λa ha=>by
  rcases bL ha with q | q
  . exact fg (.inl q)
  . exact fg (.inr (.tail _ q))
 have oN:∀{own:aO} {F' rH:G} {aE kc:aO} {s' jf:Shared},(∀a∈own,a∈wr++C.own)->di c C F' aE D->s'.heap.get? D=some ob->Step own F' aE s'.heap rH kc jf.heap->jf.heap.get? D=some ob/\di c C rH kc D:=by
  intro own F' rH aE kc s' jf ho fd hd st;obtain ⟨o',e',sm⟩:=st.dT D _ hd (λq=>by
   rcases bL (ho D q) with q | q
   . exact Jp q
   . exact fd.own q) fd.bs (CompK.jM m6).1
  rw [sm.qa (CompK.jM m6).2] at e';exact ⟨e',fd.step st hd⟩
 have:=W.next (A:=A) (Dg c C k D (wr++D::C.own) F₁ bs₁ h₁ (I items.length) (.ok .next))
  (λvK=>wpAny (model c.prog c.w) A (forIn ifs true λc r=>if r=true then do let ok <-isTrue c C.env (eval c C.env);pure (ForInStep.yield ok) else pure (ForInStep.yield r)) (MC c C A k D (Ht c C k D (wr++D::C.own) wr items.length Ps F₁ bs₁ h₁ I) (items.length+1 - i)) (λzz zz=>False) vK) (λzz zz=>False)
  (λaF=>De c C ifs aF (R3 c C k i acc I)) hA hh aJ (hI i acc aF sB).1 y9 zY ?_ ?_
 . refine aQ this (λr O h₁=>?_) λzz zz e=>e.elim;cases r with
   | none=>exact h₁
   | some v=>exact aQ h₁ (λzz oG vL=>aQ vL (λzz vK CR=>aQ CR (λok aP lE=>by
    cases ok with
    | true=>exact aQ lE (λx ch Df=>Df) λzz zz e=>e.elim
    | false=>exact lE) λzz zz e=>e.elim) λzz zz e=>e.elim) λzz zz e=>e.elim
 . intro he s' z' t;obtain i3:i=items.length:=by rw [List.getElem?_eq_none_iff] at he;exact yO hi he
   refine i3▸?_;exact ⟨rfl,aX,ap,aF,acc,ob,am.others t λa ha=>fg (.inl ha),z',lH,t.same D Jp _ jg,m6,sB⟩
 . intro y hy;have IZ:i+1<=items.length:=(bN hy).1;refine ⟨k.F4 c target ifs C aF I i acc y (turn i y acc aF hy sB),λbi aK aY aP a6 Cd Dh bn up=>?_⟩;obtain aA:=am.step up Jr (Jq _ _ _ _ aJ zY (ck ob jg));refine e0a1 (oN (own:=wr++C.own) (λa ha=>ha) lH jg up) λvY Di=>?_;obtain ME:=CompK.m3 m6 up;refine aQ (F6 hA a6 bn) (λok ch W0=>W0.casesOn λec ca b co m5 cr hb iZ=>?_) λzz zz ZI=>ZI.casesOn λzz zz zz zz zz zz zz q=>q.elim;clear W0;subst hb;have ce:=aA.step m5 (λa ha=>Jr a (fg (.inr ha))) (Jq _ _ _ _ a6 Cd (ck ob vY));refine e0a1 (oN (own:=C.own) (λa ha=>fg (.inr ha)) Di vY m5) λsw zk=>?_;have zm:=CompK.m3 ME m5;have MF:=W.keep Dh Cd a6 m5 cr;have F9:=(Cd.step m5).1;cases ok with
   | false =>refine e1a1 iZ λloc hl kk=>?_;exact (ae _ (pB hi) ⟨ec,ca,⟨loc,co.heap⟩,i+1,acc,ob,ce,cr.forget hl,F9,zk,sw,zm,kk,MF,IZ,rfl⟩)
   | true =>
     refine aQ (F8 hA cr sw zm zk (hI i acc aF sB).2 iZ) (λ_ qs ⟨fH,eh,fY,dW,ie,ID,kt,fZ,m0,sp,Ga,zh,MG,loc,hl,kk⟩=>?_) λzz zz e=>e.elim;obtain eR:=ce.step kt (λa ha=>Jr a (fg (.inr ha))) (Jq _ _ _ _ cr F9 (ck ob sw));obtain R5:=W.keep MF F9 cr kt fZ;have Js:=(F9.step kt).1;obtain Ae:=fZ.frees Ga ⟨λa ha=>by simp only [bp ha];exact sp,λa ha=>by rw [bp ha];exact (aH _ m0 ((CompK.jM zm).1) ((CompK.jM zm).2))⟩;obtain sx:Step ([D]++[]) fH eh dW.heap fH eh qs.heap:=Step.mT Ga λa ha=>by refine rE (bp ha) ?_;exact (ck _ zh)
     obtain R6:=W.CO R5 Js (λa ha q=>by simp at q;exact Jp (q▸ha)) fZ sx Ae;exact (ae _ (pB hi) ⟨fH,eh,⟨loc,fY.heap⟩,i+1,ie,ID,eR.others Ga (λa ha=>by rw [bp ha];exact fg (.inr (.head _))),Ae.forget hl,⟨Js.free,λa ha=>by refine e1a1 (Js.at_ a ha) λo q1 q2=>?_;exact (ae o (Ga.same a (λm=>Jp (bp m▸ha)) _ q1) q2)⟩,sp,zh,MG,kk,R6,IZ,rfl⟩)
end
section
variable {c:bc}{C:Cx}{S:AS}{F F':G}{bs aE:aO}{s s':Shared}{A:Around}{X:dU}{K:dC}{mg mb:fV}{pos:Pos}{a:Addr}{ob:Obj}
set_option tactic.hygienic true in
theorem St.l1 (z:St c C F bs S s)(f:di c C F bs a)(ha:s.heap.get? a=some ob)(dZ:ob.cls≠.none):St c C (plus F a ob) bs S s:=by
 obtain hF:=f.F;refine e1a1 z.locs λmm hN hl=>?_;have w:=z.wd;refine ⟨⟨λb o e=>?_,λb o e q=>aW hF _ _ (w.base b o e q),w.old.plus hF (w.old.xn ha dZ),w.len,w.nodup,λk b o e1 e2=>⟨by simpa using fA.mono (nb:=[]) (aW (ob:=ob) hF) (w.obj k b o e1 e2).1,λq=>?_⟩,w.there,w.os,w.gens,λb hb o e=>(by unfold plus at e;split at e;(· rename_i q;exact absurd (q▸hb) f.bs);(· exact w.kept b hb o e))⟩,
  (ae mm hN (λx v e=>by simpa using iY.mono (nb:=[]) (aW (ob:=ob) hF) (hl x v e))),z.gG,z.cH,λb hb=>⟨?_,(z.own b hb).2⟩,z.cells,z.apart,λe he=>⟨(z.frames e he).1,λL hL=>⟨?_,((z.frames e he).2 L hL).2⟩⟩,z.glob,z.blt,z.kind,z.oD,z.gH.mono (aW f.F)⟩
 . unfold plus at e
   split at e
   . rename_i q;clear hF f;refine rE q ?_;cases e;exact ha
   . exact w.sub _ _ e
 . delta plus;rw [if_neg (λ(e:b=a)=>f.bs (e▸ct e1))];exact (w.obj k b o e1 e2).2 q
 . delta plus;rw [if_neg (λ(e:b=a)=>f.own (e▸hb))];exact (z.own b hb).1
 . delta plus;rw [if_neg (λ(e':L=a)=>f.frames e he (e'▸hL))];exact ((z.frames e he).2 L hL).1
theorem St.adopt (z:St c C F bs S s)(f:di c C F bs a)(ha:s.heap.get? a=some ob)(hr:fA c F (bs++[a]) s.heap a o):St c C F (bs++[a]) {S with heap:=S.heap++[o]} s:=by
 refine e1a1 z.locs λmm hN hl=>?_;have w:=z.wd;refine ⟨⟨w.sub,w.base,w.old,by simp [w.len],?_,λk b o' e1 e2=>?_,λb hb=>?_,w.os,w.gens,λb hb o e=>(bL hb).elim (λq=>w.kept b q o e) λq=>by rw [bp q,f.F] at e;cases e⟩,(ae mm hN (λx v e=>iY.mono (λzz zz e=>e) (hl x v e))),z.gG,z.cH,λb hb=>(aG ((z.own b hb).1) (λq=>?_) ((z.own b hb).2.2)),λx b e=>⟨λq=>?_,(z.cells x b e).2⟩,z.apart,λe he=>⟨(z.frames e he).1,λL hL=>⟨((z.frames e he).2 L hL).1,λq=>?_⟩⟩,z.glob,z.blt,z.kind,z.oD,z.gH⟩
 . rw [List.nodup_append];refine (aG w.nodup (by simp) (λp hp q hq e=>?_));rw [bp hq] at e;exact f.bs (e▸hp)
 . by_cases hk:k < bs.length
   . rw [eN hk] at e1;rw [eN (by rw [<-w.len];exact hk)] at e2;exact ⟨fA.mono (λzz zz e=>e) (w.obj k b o' e1 e2).1,(w.obj k b o' e1 e2).2⟩
   . obtain lS:k=bs.length:=by obtain this:=(bN e1).1;simp at this;exact tH this hk
     clear hk;subst lS;simp at e1;rw [w.len] at e2;simp at e2;subst e1 e2;exact ⟨hr,λzz=>f.F⟩
 . (refine aN (bL hb) (λq=>?_) (λq=>?_))
   . exact w.there b q
   . rw [bp q];exact (ck ob ha)
 . (refine aN (bL q) (λq=>?_) (λq=>?_))
   . exact (z.own b hb).2.1 q
   . exact f.own (bp q▸hb)
 . (refine aN (bL q) (λq=>?_) (λq=>?_))
   . exact (z.cells x b e).1 q
   . exact f.cells x (bp q▸e)
 . (refine aN (bL q) (λq=>?_) (λq=>?_))
   . exact ((z.frames e he).2 L hL).2 q
   . exact f.frames e he (bp q▸hL)
set_option tactic.hygienic true in
theorem Step.l1 (st:Step own F₀ bs₀ h₀ F bs h)(hF:F a=none)(hn:h₀.get? a=none):Step own F₀ bs₀ h₀ (plus F a ob) bs h :=
 ⟨λb o e=>aW hF _ _ (st.sub b o e),st.ext,st.mono,st.dT,λb o e n=>by
  delta plus at e
  split at e
  . rename_i q;clear hF;subst q;exact .inl hn
  . exact st.ja b o e n⟩
theorem Step.adopt (st:Step own F₀ bs₀ h₀ F bs h)(hn:h₀.get? a=none):Step own F₀ bs₀ h₀ F (bs++[a]) h:=by refine e1a1 st.ext λnb u5 h1=>?_;refine rE u5 ?_;exact ⟨st.sub,(ae (nb++[a]) (by simp) (λb hb=>(bL hb).elim (h1 b) λq=>by rw [bp q];exact hn)),st.mono,st.dT,st.ja⟩
inductive W2 (c:bc)(C:Cx)(a:Addr)(F:G)(bs:aO)(F₀:G)(bs₀:aO)(h₀:Heap)(K:dC)(s:Shared):Prop
 | mk (F':G) (aE:aO) (v:AV) (S':AS) (st:Step C.own F₀ bs₀ h₀ F' aE s.heap) (z:St c C F' aE S' s) (hv:c.V F' aE v (.ref a)) (hk:K v S') (hb:∀b,b≠a->(F b=none->F' b=none)/\(b∉bs->b∉aE))
theorem St.Dj (z:St c C F bs S s)(st:Step C.own F₀ bs₀ h₀ F bs s.heap)(hn:h₀.get? a=none)(f:di c C F bs a)(ha:s.heap.get? a=some (bx vs n))(hv:c.Vs F bs xs vs)(k:lF K xs S) :
 W2 c C a F bs F₀ bs₀ h₀ K s:=by
 (refine aN k (λk=>?_) (λk=>?_))
 . exact ⟨_,bs,.lst xs,S,st.l1 f.F hn,z.l1 f ha (by simp [bx]),.lst (ck n b9) (by simpa using bq.mono (nb:=[]) (aW f.F) hv),k,λb hb=>⟨λe=>by unfold plus;rw [if_neg hb];exact e,id⟩⟩
 . refine ⟨F,_,.ref S.heap.length,_,st.adopt hn,z.adopt (o:=.list xs) f ha (ae vs (ck n ha) (bq.mono (λzz zz e=>e) hv)),.ref ?_,k,λb hb=>⟨id,λq m=>?_⟩⟩
   . refine z.wd.len▸?_;simp
   . rcases bL m with m | m
     . exact q m
     . exact hb (bp m)
theorem Wd.others (w:Wd c F bs H s)(t:cE wr s s')(hw:∀a∈wr,F a=none/\a∉bs/\c.h₀.get? a=none):Wd c F bs H s' :=
 ⟨λb o e=>t.same b (λq=>by exact bE (aB (aq ((hw b q).1)) e)) _ (w.sub b o e),w.base,gQ.mR w.old (λa ha=>(hw a ha).2.2) t.same,w.len,w.nodup,
  λk b o e1 e2=>⟨(w.obj k b o e1 e2).1.at λob e=>t.same b (λq=>(hw b q).2.1 (ct e1)) _ e,(w.obj k b o e1 e2).2⟩,
  λb hb=>e1a0 (w.there b hb) λo e=>(ck o (t.same b (λq=>(hw b q).2.1 hb) _ e)),t.os.trans w.os,t.gens.trans w.gens,w.kept⟩
def CompK.fin (K:dC)(S:AS):(k:CompK)->List k.β->Prop
 | .list _,acc=>lF K acc S
 | .dict ..,acc=>K (.aZ acc) S
def CompK.may (c:bc):CompK->Prop
 | .list _=>True
 | .dict ..=>∃mg mb,Base c mg mb
theorem CompK.adopt {k:CompK}(z:St c C F bs S s)(st:Step C.own F₀ bs₀ h₀ F bs s.heap)(hn:h₀.get? a=none)(f:di c C F bs a)(ha:s.heap.get? a=some ob){acc:List k.β}(hr:k.rel c F bs a ob acc)(kk:k.fin K S acc) :
 W2 c C a F bs F₀ bs₀ h₀ K s:=by
 cases k with
 | list elt=>refine e2a1 hr λvs n u6 hv=>?_;clear hr;obtain rfl:=u6;exact z.Dj st hn f ha hv kk
 | dict kx vx =>
   refine e1a1 hr λrs hd Hr=>?_;obtain yY:oB (sk c.prog c.w) (plus F a ob) a rs:=by obtain ⟨es,n,e,r⟩:=hd;exact ⟨es,n,by rw [<-(bo e)];exact b9,r⟩
   exact ⟨_,bs,.aZ acc,S,st.l1 f.F hn,z.l1 f ha (CompK.jM (k:=.dict kx vx) (ae rs hd Hr)).1,.aZ yY (by simpa using aU.mono (nb:=[]) (aW f.F) Hr),kk,λb hb=>⟨λe=>by unfold plus;rw [if_neg hb];exact e,id⟩⟩
theorem CompK.Jt {k:CompK}(h:Q (.ref s.heap.objs.size) {s with heap:=s.heap.push k.obj₀}):wpAny (model c.prog c.w) A k.new Q E s:=by
 cases k with
 | list elt=>exact wpAny_newObj_type h
 | dict kx vx=>exact wpAny_newObj_type h
theorem CompK.Ju {k:CompK}(hm:k.may c)(z:St c C F bs S s)(hn:s.heap.get? a=none):k.rel c F bs a k.obj₀ []:=by
 cases k with
 | list elt=>exact (eO [] 0 rfl (.nil))
 | dict kx vx =>refine e2a0 hm λmg mb B=>?_;exact (ae [] ⟨#[],0,rfl,λe he=>by simp at he,.nil,List.nodup_nil,z.CN B hn⟩ (.nil))
theorem vZ {target iter:Expr}{k:CompK}{ifs:dM}{scope sc:Scope}{MH:Pos}{use:Option (Value->Sem Unit)}{vars:ag}(fs:List (Nat×Str×AV))(hh:C.handled=none)(oK:C.env.scope=sc)(eI:eJ sc scope (fs.map (·.2.1)) vars=true)(hA:jW C A)(hm:k.may c)(z:St c C F bs S s)(jY:rU C S fs)
 (Kf:dC) {Q:sA}
 (h:mU c C target iter S (λitems live Z=>vW c C sc scope vars fs (k.body c target ifs) items live Z (λacc H=>k.fin Kf {Z with heap:=H} acc)) X)
 (hQ:match use with
  | none=>∀F' aE v S' r s',Step C.own F bs s.heap F' aE s'.heap->St c C F' aE S' s'->c.V F' aE v r->Kf v S'->Q r s'
  | some u=>∀F' aE v S' r s' L,Step C.own F bs s.heap F' aE s'.heap->St c C F' aE S' s'->c.V F' aE v r->Kf v S'->s.heap.get? L=none->di c C F' aE L->(∃m,s'.heap.Ns L m)->(∃o,s'.heap.get? L=some o/\o.cls≠.none) ->
   wpAny (model c.prog c.w) A (u r) (λzz jf=>∃m,jf.heap.Ns L m/\∀h',Heap.SameBut L jf.heap h'->Q .none {jf with heap:=h'}) (WX c C F bs s.heap X) s')
 (hs:∀x,foldedSetIterable iter C.env x=pure x:=by intro _;rfl) :
 wpAny (model c.prog c.w) A (comprehension (k.expr target iter ifs scope pos) scope C.env MH k.new false (eval iter C.env) use) Q (WX c C F bs s.heap X) s:=by
 refine e0a5 (jK eI) λk1 zz zz zz zz k6=>?_;refine wpAny_comprehension_free (g:=⟨target,iter,ifs,0⟩) (gs:=[]) (by clear h hm;cases k <;> rfl) hs (sH oK eI z jY).1 k1 k6 ?_;refine aQ (h A F bs s hA z) (λxv dL CS=>aQ CS (λW1 O ⟨F₁,bs₁,Z,it,items,live,wr,Ps,e,st,an,W,I0,hn,hf,hl,zn,body⟩=>?_) λzz zz e=>e) λzz zz e=>e;refine rE e ?_;refine CompK.Jt ?_;generalize hD:O.heap.objs.size=D;generalize bv:({O with heap:=O.heap.push k.obj₀}:Shared)=ac;have nD:O.heap.get? D=none:=gE (by refine rE hD ?_;exact bu _);have m₂:bf c F₁ bs₁ O ac:=by simp only [<-bv];exact ⟨λb o e=>bU _ e,rfl,rfl⟩
 have jg:ac.heap.get? D=some k.obj₀:=by refine bv▸hD▸?_;exact cT _ (by clear bv body CS h;cases k <;> rfl)
 obtain aJ:=an.keep m₂;refine rV ?_;refine e2a0 ((sH oK eI aJ zn).2 _ rfl) λenv own s4=>?_;refine e0a6 s4 λMI a6 qt MJ eL bd ZJ=>?_;clear s4;refine rE MI ?_;obtain ⟨I,i0,iL,turn,fin⟩:=body env own bd;generalize oH:({ac with heap:=pushCells (ac.heap.push {cls:=.type "dict",data:=.dict #[]}) scope.names}:Shared)=aP at a6 qt ZJ;have n₁:∀b,ac.heap.get? b=none->O.heap.get? b=none:=λb e=>by
  cases q:O.heap.get? b with
  | none=>rfl
  | some o=>exact jq (aB (aq (m₂.keep _ _ q)) e)
 obtain lf:∀b∈own,O.heap.get? b=none:=λb hb=>n₁ b (MJ b hb);have back:∀b,O.heap.get? b=none->s.heap.get? b=none:=λb e=>by
  cases q:s.heap.get? b with
  | none=>rfl
  | some o=>refine e1a0 (st.mono _ _ q) λo' e'=>?_;exact bE (aB (aq e) e')
 have R7:D∉own:=λq=>bE (aB (aq (MJ D q)) jg);obtain Jp:D∉wr:=λq=>by refine e1a1 (hf.at_ D q) λo e zz=>?_;exact bE (aB (aq nD) e)
 obtain Jv:∀b o,O.heap.get? b=some o->di c C F₁ bs₁ b->di c (Dd scope sc env own C.frames C.handled C.n vars) F₁ bs₁ b:=λb o e f=>by
  refine ⟨f.F,f.bs,(λq=>bE (aB (aq (lf b q)) e)),λx q=>?_,f.frames⟩;have q':env.cells.lookup x=some b:=q;rw [<-MI] at q';have Lc:(cellsFrom (ac.heap.objs.size+1) scope.names (jL C scope)).lookup x=some b:=q';rw [dF,List.lookup_append] at Lc;cases hc:(cellsFrom (ac.heap.objs.size+1) scope.names []).lookup x with
  | some b' =>replace Lc:=hc▸Lc;cases Lc;obtain ok:=cellsFrom_ok scope.names (ac.heap.push {cls:=.type "dict",data:=.dict #[]}) (ac.heap.objs.size+1) [] ⟨λzz zz hm=>(nomatch hm),List.Pairwise.nil⟩ (by simp only [fh];exact bu _);rw [fh] at ok;obtain h1:=(ok.empty x b (mem_of_lookup hc)).2;obtain h2:=Heap.lt_size (m₂.keep _ _ e);exact absurd h2 (Nat.not_lt.mpr (Nat.le_of_succ_le h1))
  | none =>
    rw [hc] at Lc;have q3:(jL C scope).lookup x=some b:=Lc
    (refine aN (je _ scope.names [] (x,b) (mem_of_lookup q3)) (λw=>?_) (λrD=>?_);rotate_left;refine e0a1 rD λw1 w2=>?_;rotate_right)
    . exact nomatch w
    . refine e0a5 (jK eI) λzz zz zz k4 k5 zz=>?_;refine e1a1 (dS (k5 x w2)) λp hp La=>?_;refine e0a1 (zn.mem p hp) λe1 e2=>?_;refine e1a1 an.locs λm hN v0=>?_;obtain ⟨a',o',r',ea,_⟩:=(v0 _ _ e2).cellAt e1 (by delta Env.kindOf;rw [oK];exact (k4 p.2.1 (dm (ae p hp rfl))).2.1);have PD:b=(C.env.cells.lookup x).getD 0:=w1;rw [La] at ea;rw [ea] at PD;exact f.cells x (by rw [ea,PD];rfl)
 obtain MK:cf c (Dd scope sc env own C.frames C.handled C.n vars) F₁ bs₁ wr aP.heap:=⟨λb hb=>by refine e1a1 (hf.at_ b hb) λo e zz=>?_;exact Jv b o e (hf.free b hb),λb hb=>by refine e1a1 (hf.at_ b hb) λo e q=>?_;exact (ae o (qt.keep _ _ (m₂.keep _ _ e)) q)⟩
 obtain lH:di c C F₁ bs₁ D:=an.d7 nD;obtain Di:di c (Dd scope sc env own C.frames C.handled C.n vars) F₁ bs₁ D:=by refine ⟨lH.F,lH.bs,R7,λx q=>?_,lH.frames⟩;obtain ⟨_,_,o,e,hc,_⟩:=a6.cells x D q;obtain rfl:=bo (aB (aq (qt.keep _ _ jg)) e);clear e fin turn iL i0 I jg bv body CS h;cases k <;> simp [CompK.obj₀,bx,bC] at hc
 have Dh:Ps 0 F₁ bs₁ aP:=by
  obtain Gb:bf c F₁ bs₁ O aP:=⟨λb o e=>qt.keep _ _ (m₂.keep _ _ e),qt.os.trans m₂.os,qt.gens.trans m₂.gens⟩
  exact W.CO (own:=[]) I0 hf (λzz zz q=>by cases q) an (Step.keep Gb) ((an.keep m₂).keep qt)
 obtain ZK:jW (Dd scope sc env own C.frames C.handled C.n vars) A:=⟨hA.handled,hA.depth,hA.units,hA.frames⟩
 have loop:=Ah (C:=Dd scope sc env own C.frames C.handled C.n vars) (pos:=pos) (iter:=iter) (scope:=scope) (F₁:=F₁) (bs₁:=bs₁) (h₁:=O.heap) hh W I iL turn ZK i0 a6 MK Dh (qt.keep _ _ jg) (CompK.Ju hm an nD) Di Jp (iM.F5 (c:=c) ⟨λb o e=>qt.keep _ _ (m₂.keep _ _ e),qt.os.trans m₂.os,qt.gens.trans m₂.gens⟩);obtain ML:({env with scope:=relabel scope C.env}:Env)=(Dd scope sc env own C.frames C.handled C.n vars).env:=by rw [xF,oK]
 refine rE ML ?_;have rG:env.locals∈own:=by obtain this:=a6.cH;exact this
 have post:∀r s',Dg c (Dd scope sc env own C.frames C.handled C.n vars) k D (wr++D::own) F₁ bs₁ O.heap (I items.length) r s' ->
  compPost (model c.prog c.w) A (WX c C F bs s.heap X) use Q (.ref D) env.locals r s':=by
  intro r s' o1;obtain ⟨R8,F',aE,S',acc,ob,gM,z',W3,ua,be,hI⟩:=o1;refine rE R8 ?_;obtain ZL:∀b∈wr++D::own,s.heap.get? b=none:=λb hb=>by
   (refine aN (bL hb) (λq=>?_) (λq=>?_))
   . exact hn b q
   . (refine aN (cu q) (λrP=>?_) (λq=>?_);refine rE rP ?_)
     . exact back _ nD
     . exact back b (lf b q)
  obtain hW:∀b∈wr++D::own,O.heap.get? b=none\/di c C F₁ bs₁ b:=λb hb=>by
   (refine aN (bL hb) (λq=>?_) (λq=>?_))
   . exact .inr (hf.free b q)
   . (refine aN (cu q) (λrO=>?_) (λq=>?_);refine rE rO ?_)
     . exact .inl nD
     . exact .inl (lf b q)
  obtain ia:∀b,O.heap.get? b=none->c.h₀.get? b=none:=λb e=>by
   cases q:c.h₀.get? b with
   | none=>rfl
   | some o=>refine e1a0 (an.wd.old.there _ _ q) λo' e'=>?_;exact bE (aB (aq e) e')
  have outer:∀jf,cE [env.locals] s' jf->(∀b∈[env.locals],True)->Step C.own F bs s.heap F' aE jf.heap/\St c C F' aE {Z with heap:=S'.heap} jf/\jf.heap.get? D=some ob:=λjf t zz=>by
   obtain ZM:=z'.wd.others t λb hb=>by refine rE (bp hb) ?_;exact (aG ((z'.own _ rG).1) ((z'.own _ rG).2.1) (ia _ (lf _ rG)))
   obtain sv:=gM.others t λb hb=>by simp only [bp hb];exact fg (.inr (.tail _ rG))
   exact (aG (st.MA sv ZL) (an.Jl sv hW ZM) (t.same D (λq=>R7 (bp q▸rG)) _ ua))
  obtain MM:di c C F' aE D:=⟨W3.F,W3.bs,lH.own,lH.cells,lH.frames⟩
  refine e1a1 z'.locs λmL PE zz=>?_;cases use with
  | none =>refine (ae mL PE (λh' db=>?_));refine e0a2 (outer {s' with heap:=h'} ⟨λb hb o e=>(db.2 b (by simpa using hb)).trans e,rfl,rfl⟩ λzz zz=>trivial) λo1 o2 o3=>?_;obtain ⟨rH,kc,v,zo,a1,a2,a3,a4,_⟩:=CompK.adopt o2 o1 (back _ nD) MM o3 be (fin acc S' hI);exact hQ rH kc v zo _ _ a1 a2 a3 a4
  | some u =>
    refine e0a2 (outer s' ⟨λb zz o e=>e,rfl,rfl⟩ λzz zz=>trivial) λo1 o2 o3=>?_;obtain ⟨rH,kc,v,zo,a1,a2,a3,a4,a5⟩:=CompK.adopt o2 o1 (back _ nD) MM o3 be (fin acc S' hI);obtain fL:di c C F₁ bs₁ env.locals:=an.d7 (lf _ rG);obtain W4:=(z'.own _ rG)
    obtain W5:env.locals≠D:=λq=>R7 (q▸rG);refine hQ rH kc v zo _ _ env.locals a1 a2 a3 a4 (back _ (lf _ rG)) ⟨(a5 _ W5).1 W4.1,(a5 _ W5).2 W4.2.1,fL.own,fL.cells,fL.frames⟩ (ck mL PE) z'.gG
 obtain zp:=codeAny_mono loop post;cases k with
 | list elt=>exact codeAny_compStart_list zp (W.self (F:=F₁) (bs:=bs₁) _ _ (hA.handled.trans hh) Dh zp)
 | dict kx vx=>exact codeAny_compStart_dict zp (W.self (F:=F₁) (bs:=bs₁) _ _ (hA.handled.trans hh) Dh zp)
theorem ll {target iter elt:Expr}{ifs:dM}{scope sc:Scope}(vars:ag)(fs:List (Nat×Str×AV))(hh:C.handled=none)(jY:rU C S fs)(eI:eJ sc scope (fs.map (·.2.1)) vars=true)
 (h:mU c C target iter S (λitems live Z=>vW c C sc scope vars fs (qr c target elt ifs) items live Z (λacc H=>lF K acc {Z with heap:=H})) X)
 (oK:C.env.scope=sc:=by rfl) (hs:∀x,foldedSetIterable iter C.env x=pure x:=by intro _;rfl):Ev c C (.ListComp elt [⟨target,iter,ifs,0⟩] scope pos) S K X:=by
 intro A F bs s hA z;exact vZ (k:=.list elt) (use:=none) fs hh oK eI hA trivial z jY K h (λF' aE v S' r s' st z' hv k=>⟨F',aE,v,S',st,z',hv,k⟩) hs
theorem lI {k:CompK}{K:ip}(fs:List (Nat×Str×AV))(hh:C.handled=none)(oK:C.env.scope=sc)(eI:eJ sc scope (fs.map (·.2.1)) vars=true)(hA:jW C A)(hm:k.may c)(z:St c C F bs S s)(jY:rU C S fs)
 (h:mU c C target iter S (λitems live Z=>vW c C sc scope vars fs (k.body c target ifs) items live Z (λacc H=>k.fin (λv aF=>xc c C (.Name y py) v aF (λaY=>K .next aY) X) {Z with heap:=H} acc)) X)
 (hs:∀x,foldedSetIterable iter C.env x=pure x) :
 wpAny (model c.prog c.w) A (comprehension (k.expr target iter ifs scope pos) scope C.env MH k.new false (eval iter C.env) (some (assign (.Name y py) C.env))) (λzz s'=>∃F' aE S',Step C.own F bs s.heap F' aE s'.heap/\St c C F' aE S' s'/\K .next S') (WX c C F bs s.heap X) s:=by
 refine vZ (use:=some (assign (.Name y py) C.env)) fs hh oK eI hA hm z jY _ h ?_ hs;intro F' aE v S' r s' L st z' hv k hL fL ⟨mL,PE⟩ ⟨oL,eL,nL⟩;refine aQ (k A F' aE s' r hA z' hv) (λzz jf ZN=>ZN.casesOn λrH kc zz zo qu Dk zz R9=>?_) (λx jf ZO=>ZO.casesOn λrH kc cls zo qu Dk hx R9=>⟨rH,kc,cls,zo,st.trans qu,Dk,hx.back st.mono,R9⟩);refine e1a1 (qu.dT L oL eL fL.own fL.bs nL) λFk Bq sm=>?_;refine (ae mL ?_ (λh' db=>?_))
 . refine e3a2 PE λo es ep ho hd q=>?_;obtain rfl:=bo (aB (aq eL) ho);exact (gw Fk es ep Bq (sm.data.trans hd) q)
 . obtain t:Other L jf {jf with heap:=h'}:=⟨λb q o e=>(db.2 b q).trans e,rfl,rfl⟩
   exact (gw rH kc zo ((st.trans qu).other hL t.same) (Dk.free t (fL.step qu eL) Bq (by rw [sm.cls];exact nL)) R9)
theorem fK {target iter elt:Expr}{y:Str}{py:Pos}{ifs:dM}{scope sc:Scope}{Dl:Pos}{K:ip}(vars:ag)(fs:List (Nat×Str×AV))(hh:C.handled=none)(jY:rU C S fs)(eI:eJ sc scope (fs.map (·.2.1)) vars=true)
 (h:mU c C target iter S (λitems live Z=>vW c C sc scope vars fs (qr c target elt ifs) items live Z (λacc H=>lF (λv aF=>xc c C (.Name y py) v aF (λaY=>K .next aY) X) acc {Z with heap:=H})) X)
 (Sa:swapsWith (.ListComp elt [⟨target,iter,ifs,0⟩] scope pos) (some (.Name y py)) Dl.line C.env=pure true:=by rfl)
 (oK:C.env.scope=sc:=by rfl) (hs:∀x,foldedSetIterable iter C.env x=pure x:=by intro _;rfl):nH c C (.Assign [.Name y py] (.ListComp elt [⟨target,iter,ifs,0⟩] scope pos) Dl) S K X:=by
 intro A F bs s hA z;refine rE (exec_Assign_Name_used _ _ _ _ Sa) ?_;refine ah (wpAny_standAt (ah ?_));refine ah ?_;exact aQ (lI (k:=.list elt) fs hh oK eI hA trivial z jY h hs) (λzz s' ZP=>e3a2 ZP λF' aE S' st z' k=>aM (aM ⟨F',aE,.next,S',st,z',rfl,k⟩)) λzz zz e=>e
theorem qv {target iter kx vx:Expr}{y:Str}{py:Pos}{ifs:dM}{scope sc:Scope}{Dl:Pos}{K:ip}(B:Base c mg mb)(vars:ag)(fs:List (Nat×Str×AV))(hh:C.handled=none)(jY:rU C S fs)(eI:eJ sc scope (fs.map (·.2.1)) vars=true)
 (h:mU c C target iter S (λitems live Z=>vW c C sc scope vars fs (vX c target kx vx ifs) items live Z (λacc H=>xc c C (.Name y py) (.aZ acc) {Z with heap:=H} (λaY=>K .next aY) X)) X)
 (Sa:swapsWith (.DictComp kx vx [⟨target,iter,ifs,0⟩] scope pos) (some (.Name y py)) Dl.line C.env=pure true:=by rfl)
 (oK:C.env.scope=sc:=by rfl) (hs:∀x,foldedSetIterable iter C.env x=pure x:=by intro _;rfl):nH c C (.Assign [.Name y py] (.DictComp kx vx [⟨target,iter,ifs,0⟩] scope pos) Dl) S K X:=by
 intro A F bs s hA z;refine rE (exec_Assign_Name_used _ _ _ _ Sa) ?_;refine ah (wpAny_standAt (ah ?_));refine ah ?_;exact aQ (lI (k:=.dict kx vx) fs hh oK eI hA (xk _ _ B) z jY h hs) (λzz s' RJ=>e3a2 RJ λF' aE S' st z' k=>aM (aM ⟨F',aE,.next,S',st,z',rfl,k⟩)) λzz zz e=>e
end
end Mine.Internal
namespace Mine.Internal
open PySem PyProof.Rows PySem.W
structure d8 (c:bc)(mg mb:fV)(K:Frag):Prop extends Base c mg mb where
 v3:K.In c.h₀
 MN:∀a o,K.lookup a=some o->o.cls≠.none
theorem v5 (v:Value)(x:Str):v.isStr x=Value.isStrOf x v:=by cases v <;> rfl
section
variable {c:bc}{C:Cx}{S:AS}{F F':G}{bs aE:aO}{s s':Shared}{A:Around}{X:dU}{K:dC}{mg mb:fV}{pos:Pos}{Kf:Frag}{Cl:Addr}
theorem Wd.v3 (B:d8 c mg mb Kf)(w:Wd c F bs H s):Kf.In s.heap:=λa o e=>w.sub _ _ (w.base _ _ (B.v3 a o e) (.inl (B.MN a o e)))
theorem St.v3 (B:d8 c mg mb Kf)(z:St c C F bs S s):Kf.In s.heap:=z.wd.v3 B
theorem qw (hk:KeysOf (sk c.prog c.w) es):es.toList.any (·.refKey)=false:=by rw [List.any_eq_false];intro e he;refine e1a1 (hk e (by simpa using he)) λk h1 zz=>?_;refine e1a0 (Value.isStrOf_shape h1) λt ht=>?_;simp [DictEntry.refKey,ht]
theorem l2 (hk:KeysOf (sk c.prog c.w) es)(hp:Pairs (sk c.prog c.w) es.toList rs)(x:Str):lookIn x (bC es n)=some (valueAt rs x):=by
 delta lookIn bC;dsimp only;refine (hp.find x)▸(aq (show (λe:DictEntry=>(sk c.prog c.w).is x e.key)=λe=>e.key.isStr x from funext λe=>(v5 e.key x).symm))▸?_;cases h:es.toList.find? (·.key.isStr x) with
 | some e=>rfl
 | none=>simp only [qw hk];rfl
theorem v8 {name:Str}{Cl:Addr}{cd:ClassData}{es:Array DictEntry}{n:Nat}{rs:CG}{w:Value}(sI:(findIn Kf (.ref Cl) name==some none)=true)(Dm:clsIn Kf Cl=some cd)(Gc:cd.hasDict=true)(hk:KeysOf (sk c.prog c.w) es)(hp:Pairs (sk c.prog c.w) es.toList rs)(e2:valueAt rs name=some w):findObj Kf Cl (some (bC es n)) name=some (.value w):=by delta findObj;refine (aq Dm)▸(aq (beq_iff_eq.mp sI))▸?_;simp only [Option.bind_some,W.ownOf,Gc,if_true,l2 hk hp,e2]
theorem v9 (hD:oB (sk c.prog c.w) s.heap.get? a rs)
 (hQ:∀h',oB (sk c.prog c.w) h'.get? a (stored rs name v)->Heap.SameBut a s.heap h'->Q () {s with heap:=h',toks:=s.toks+1}):wpAny (model c.prog c.w) A (nsSet a name v) Q E s:=by
 obtain ⟨es,n,ho,hk,hp,hn,pn⟩:=hD;refine ah (ah (wpAny_askSetting (aM ?_)));refine ah (wpAny_mkText ?_);refine ah (wpAny_loadPart (s:={s with toks:=s.toks+1}) ho ?_);have vC:es.any (·.refKey)=false:=by refine Array.any_toList▸?_;exact qw hk
 have hf:aRefKeyMayBeTheName name es=false:=by rw [aRefKeyMayBeTheName_eq];unfold aRefKeyMayBeTheNameByArray;simp [vC]
 dsimp only [bC];refine rE hf ?_;refine wpAny_updatePart (s:={s with toks:=s.toks+1}) ho ?_;obtain W6:(λe:DictEntry=>e.key.isStr name)=λe=>(sk c.prog c.w).is name e.key:=funext λe=>v5 e.key name;have Ag:(es.findIdx? λe=>(sk c.prog c.w).is name e.key)=rs.findIdx? λkv=>decide (kv.1=name):=by simp only [<-hp.findIdx name];obtain ⟨l⟩:=es;simp
 generalize hh:(if name.cps.isEmpty=true then (0:Int) else reduceHash ((model c.prog c.w).w.params.strHash name.cps))=hs;obtain ZQ:hs=(sk c.prog c.w).hash name:=by simp only [<-hh];rfl
 cases hi:es.findIdx? λe=>(sk c.prog c.w).is name e.key with
 | some i =>
   have e:Obj.putName name hs (.str name s.toks) v (bC es n)=bC (es.modify i λe=>{e with val:=v}) n:=by rw [Obj.putName_eq];simp only [Obj.putNameByArray,bC,W6,hi]
   have g:=hK (f:=Obj.putName name hs (.str name s.toks) v) ho (by refine rE e ?_;rfl);replace g:=e▸g;refine hQ _ ⟨_,n,g,hk.modify _ _,?_,?_,pn⟩ (Heap.SameBut.update ..)
   . rw [stored,if_pos (any_of_findIdx_some (Ag▸hi))];obtain hl:(es.toList.findIdx? λe=>(sk c.prog c.w).is name e.key)=some i:=by simp only [<-hi];obtain ⟨l⟩:=es;simp
     obtain this:=hp.modify hn hl v;simpa using this
   . rw [stored,if_pos (any_of_findIdx_some (Ag▸hi)),keys_map_store];exact hn
 | none =>
   have e:Obj.putName name hs (.str name s.toks) v (bC es n)=bC (es.push ⟨hs,.str name s.toks,v⟩) (n+1):=by rw [Obj.putName_eq];simp only [Obj.putNameByArray,bC,W6,hi]
   have g:=hK (f:=Obj.putName name hs (.str name s.toks) v) ho (by rw [e];rfl);rw [e] at g;have Gd:name∉rs.map (·.1):=not_mem_of_findIdx_none (Ag▸hi);have vC:¬(rs.any λkv=>decide (kv.1=name))=true:=by rw [List.any_eq_true];(intro o1;refine e1a1 o1 λkv ZR he=>?_);exact Gd (dm (ae kv ZR (of_decide_eq_true he)))
   refine hQ _ ⟨_,n+1,g,by rw [ZQ];exact hk.push (str_is name _) v,?_,?_,pn⟩ (Heap.SameBut.update ..)
   . rw [stored,if_neg vC];obtain this:=hp.append (str_is (prog:=c.prog) (w:=c.w) name s.toks) hs v;simpa using this
   . rw [stored,if_neg vC,List.map_append,List.nodup_append];refine (aG hn (by simp) ?_);intro a ha b hb;simp only [List.map_cons,List.map_nil,List.mem_singleton] at hb;cases hb;exact λe=>Gd (e▸ha)
def gh (S:AS)(k d:Nat)(Cl:Addr)(kvs:eQ):Prop:=S.heap[k]?=some (.inst Cl d)/\S.heap[d]?=some (.az kvs)
inductive MO (c:bc)(F:G)(bs:aO)(s:Shared)(Cl:Addr)(k d:Nat)(kvs:eQ)(r:Value):Prop
 | mk (x dx:Addr) (rs:CG) (es:Array DictEntry) (n:Nat) (h1:r=.ref x) (h2:bs[k]?=some x) (h3:bs[d]?=some dx) (h4:InstAt s.heap x {cls:=.ref Cl,dict:=some dx,data:=.plain,slots:=#[]} Cl (some (bC es n))) (h5:s.heap.get? dx=some (bC es n)) (h6:KeysOf (sk c.prog c.w) es) (h7:Pairs (sk c.prog c.w) es.toList rs) (h8:c.SV F bs kvs rs) (h9:oB (sk c.prog c.w) s.heap.get? dx rs)
theorem St.inst (z:St c C F bs S s)(h:gh S k d Cl kvs)(hv:c.V F bs (.ref k) r) :
 MO c F bs s Cl k d kvs r:=by
 refine e1a3 (z.gZ hv h.1) λx Sb hb Ge zz=>?_;refine e1a1 Ge λda h1 h2=>?_;clear Ge;refine rE Sb ?_;refine e0a1 (z.wd.obj d da _ h1 h.2) λDn zz=>?_;refine e1a1 Dn λrs hD h4=>?_;clear Dn;obtain ⟨es,n,h5,h6,h7,_⟩:=id hD;exact ⟨x,da,rs,es,n,rfl,hb,h1,⟨h2,rfl,rfl,h5⟩,h5,h6,h7,h4,hD⟩
noncomputable def iN (Kf:Frag)(Cl:Addr):Bool :=
 findIn Kf (.ref Cl) "__getattribute__"==some (some (.builtin "object.__getattribute__"))&&findIn Kf (.ref Cl) "__getattr__"==some none&&findIn Kf (.ref Cl) "__setattr__"==some (some (.builtin "object.__setattr__"))&&plainOver Kf Cl&&(clsIn Kf Cl).any (·.hasDict)
theorem qx (h:c.V F bs v r)(hr:∀u,v≠.raw u):handedIn r=true:=by
 cases h <;> first | rfl | exact absurd rfl (hr _)
inductive MP (Cl:Addr)(name:Str)(K:dC)(o:AV)(Z:AS):Prop
 | mk (k d:Nat) (kvs:eQ) (v:AV) (h1:o=.ref k) (h2:gh Z k d Cl kvs) (h3:bB kvs name=some v) (h4:∀u,v≠.raw u) (h5:K v Z)
theorem PF (B:d8 c mg mb Kf){value:Expr}{name:Str}(Cl:Addr)(dZ:iN Kf Cl=true)(sI:(findIn Kf (.ref Cl) name==some none)=true)
 (h:Ev c C value S (MP Cl name K) X)
 (ii:attributeBase value name C.env (eval value C.env)=eval value C.env:=by rfl):Ev c C (.Attribute value name pos) S K X:=by
 intro A F bs s hA z;show WP c C A c.V (do
  let o <-attributeBase value name C.env (eval value C.env)
  standAt pos.atName
  let r <-holding [o] (getAttr o name true)
  letTemporaryGo value o r
  pure r) F bs s K X
 refine rE ii ?_;refine WP.bind (h A F bs s hA z) λF₁ bs₁ Z O o ro al an ho PG=>PG.casesOn λk d kvs v e hi hg Do kk=>?_;clear PG;subst e;obtain ⟨x,dx,rs,es,n,Sc,_,_,I,_,hk,hp,mt,_⟩:=an.inst hi ho;refine rE Sc ?_;simp only [iN,cZ,beq_iff_eq] at dZ;refine e0a1 dZ λMQ c5=>?_;refine e0a1 MQ λMR c4=>?_;clear MQ;refine e0a1 MR λDp c3=>?_;clear MR;refine e0a1 Dp λc1 c2=>?_;clear Dp;refine e1a1 (any_some c5) λcd Dm Gc=>?_
 (refine aN (aU.get name mt) (λSd=>?_) (λSe=>?_);refine e2a2 Sd λv' w e1 e2 e3=>?_;rotate_left;refine e0a1 Se λe1 zz=>?_;rotate_right)
 . obtain rfl:=bo (aB (aq hg) e1);obtain hf:=v8 (n:=n) sI Dm Gc hk hp e2;refine WP.standAt (ah (wpAny_holding (get_value (an.v3 B) I c1 hf (qx e3 Do) (ah (wpAny_letTemporaryGo (aM ?_))))));exact ⟨F₁,bs₁,v,Z,.keep (.toks c F₁ bs₁ O _),an.keep (.toks ..),e3,kk⟩
 . exact jq (aB (aq hg) e1)
noncomputable def storeOk (Kf:Frag)(Cl:Addr)(name:Str):Bool:=iN Kf Cl&&takerIn Kf Cl name==some none
theorem xH (B:d8 c mg mb Kf)(dZ:storeOk Kf Cl name=true){K:dA}(z:St c C F bs S s)(hi:gh S k d Cl kvs)(ho:c.V F bs (.ref k) ro)(hv:c.V F bs v r)
 (hsz:kvs.length<=1000) (kk:K {S with heap:=S.heap.set d (.az (df kvs name v))}):WP c C A (λ_ _ (_:Unit) (_:Unit)=>True) (setAttr ro name r) F bs s (λzz=>K) X:=by
 obtain ⟨x,dx,rs,es,n,Sf,hbk,Jw,I,Sg,hk,hp,mt,hD⟩:=z.inst hi ho;refine rE Sf ?_;simp only [storeOk,iN,cZ,beq_iff_eq] at dZ;refine e0a1 dZ λPH c6=>?_;refine e0a1 PH λMS c5=>?_;clear PH;refine e0a1 MS λMT c4=>?_;clear MS;refine e0a1 MT λJj c3=>?_;clear MT;obtain ⟨c1,c2⟩:=Jj;refine e1a1 (any_some c5) λcd Dm Gc=>?_;have X:=z.v3 B;refine set_plain X I c3 ?_;generalize oO:s.toks=tk;generalize dl:({s with toks:=tk+1}:Shared)=O;obtain m:bf c F bs s O:=by simp only [<-dl];exact .toks ..
 obtain MU:Kf.In O.heap:=by refine dl▸?_;exact X
 obtain MV:InstAt O.heap x {cls:=.ref Cl,dict:=some dx,data:=.plain,slots:=#[]} Cl (some (bC es n)):=by refine dl▸?_;exact I
 obtain zq:oB (sk c.prog c.w) O.heap.get? dx rs:=by refine dl▸?_;exact hD
 obtain an:=z.keep m;obtain al:Step C.own F bs s.heap F bs O.heap:=.keep m;refine osa_open MU MV c4 c6 λb=>?_;dsimp only;refine ah (aM (ah (ah (wpAny_loadPart MV.at_ (ah ((looks_clsIn MU Dm).here ?_))))));refine rE Gc ?_;refine aM (a:=some dx) (ah (aM (ah ?_)));refine v9 zq λh' ua db=>?_;generalize bv:({O with heap:=h',toks:=O.toks+1}:Shared)=ac;obtain T:fG dx O ac:=by simp only [<-bv];exact ⟨λb q o e=>(db.2 b q).trans e,(let ⟨_,_,e,_⟩:=ua;(ck _ e)),rfl,rfl⟩
 obtain aJ:=an.upd (o':=.az (df kvs name v)) T Jw hi.2 (by simp) (ae _ (by rw [<-bv];exact ua) (aU.put name mt hv));obtain am:Step C.own F bs s.heap F bs ac.heap:=al.trans (.upd T (.inl (ct Jw)));obtain ⟨u7,n',u3,_,Dq,_⟩:=ua;have hlen:u7.size<=1001:=by obtain e1:=Dq.length;obtain e2:u7.toList.length=u7.size:=rfl;obtain e3:=stored_length_le rs name r;obtain e4:=congrArg List.length (aU.keys mt);simp at e4;exact e2▸e1▸aV e3 (e4▸Nat.succ_le_succ hsz)
 obtain Sh:ac.heap.get? dx=some (bC u7 n'):=by refine bv▸?_;exact u3
 refine ah (wpAny_lookBehind Sh (pastItsLine_dict (by skip;exact aV hlen (Nat.le_add_left 1001 16776216))) ?_);exact aM ⟨F,bs,(),_,am,aJ,trivial,kk⟩
noncomputable def fM (Kf:Frag)(Cl:Addr)(name:Str)(f:Addr):Bool:=iN Kf Cl&&findIn Kf (.ref Cl) name==some (some (.ref f))&&typeIn Kf (.ref f)==some (.type "function")&&fnIn Kf f
inductive Dr (c:bc)(C:Cx)(Cl f:Addr)(name:Str)(n:Nat)(pos:Pos)(args:dM)(K:dC)(X:dU)(ov:AV)(Z:AS):Prop
 | mk (k d:Nat) (kvs:eQ) (h1:ov=.ref k) (h2:gh Z k d Cl kvs) (h3:bB kvs name=none) (h4:pO c C pos args Z (CJ ov (LP c n (.ref f) K)) X)
set_option tactic.hygienic true in
theorem cP (B:d8 c mg mb Kf){o:Expr}{name:Str}{apos:Pos}{args:dM}{n:Nat}(Cl f:Addr)(dZ:fM Kf Cl name f=true)(hh:C.handled=none)(hn:n<=C.n)
 (h:Ev c C o S (Dr c C Cl f name n pos args K X) X)
 (ii:attributeBase o name C.env (eval o C.env)=eval o C.env:=by rfl)
 (qi:methodCallForm (args.length+([]:List Keyword).length) (backTo pos (starEach args C.env)) (backToKw pos (keywordEach [] C.env))=true:=by rfl)
 (hline:(apos.endLine==pos.line)=true:=by rfl)
 (hl:pk (backTo pos (starEach args C.env))=false:=by rfl):Ev c C (.Call (.Attribute o name apos) args [] pos) S K X:=by
 intro A F bs s hA z;simp only [fM,cZ,beq_iff_eq] at dZ;refine e0a1 dZ λCM c3=>?_;refine e0a1 CM λGf c2=>?_;clear CM;refine e0a1 Gf λc0 c1=>?_;clear Gf;simp only [iN,cZ,beq_iff_eq] at c0;refine e0a1 c0 λMW g5=>?_;refine e0a1 MW λGg g4=>?_;clear MW;refine e0a1 Gg λzW g3=>?_;clear Gg;refine e0a1 zW λg1 g2=>?_;clear zW;simp only [arm_eval_Call,ii];refine ah (aQ (h A F bs s hA z) (λr O ⟨F₁,bs₁,ov,Z,al,an,lW,k,d,kvs,e,hi,sI,k₁⟩=>?_) λ_ _ e=>e);subst e;obtain ⟨x,dx,rs,es,m,rfl,_,_,I,_,hk,hp,mt,_⟩:=an.inst hi lW;refine ah (wpAny_standAt ?_);obtain Ai:methodCallPos true o C.env apos pos=pure pos:=by delta methodCallPos;simp [hline]
 delta methodCall;refine rE qi ?_;obtain Si:shadowIn (some (bC es m)) name=some false:=by
  show Option.map _ (lookIn name (bC es m))=some false;rw [l2 hk hp]
  (refine aN (aU.get name mt) (λIW=>?_) (λIV=>?_);obtain ⟨v',w,e1,e2,e3⟩:=IW;rotate_left;obtain ⟨e1,e2⟩:=IV;rotate_right)
  . exact bE (aB (aq sI) e1)
  . refine rE e2 ?_;rfl
 refine ah (wpAny_holding (method_fn (an.v3 B) I g1 g2 c1 c2 Si ?_));refine ah (wpAny_of_eq Ai ?_);obtain MX:∃oc od fd sl,Kf.lookup f=some ⟨oc,od,.func fd,sl⟩:=by
  delta fnIn at c3
  split at c3
  . rename_i e;exact ⟨_,_,_,_,e⟩
  . exact Iv c3
 obtain ⟨oc,od,fd,sl,MX⟩:=MX;refine Calls.callWith_function (o:=⟨oc,od,.func fd,sl⟩) (fd:=fd) ?_;refine aQ (ic hA an k₁ hl) (λa ac MY=>MY.casesOn λaX ap vs aF am aJ PG=>e0a1 PG λpt be k₂=>?_) (λx ac Sj=>Sj.casesOn λaX ap cls aF am aJ hx k₂=>⟨aX,ap,cls,aF,al.trans am,aJ,hx.back al.mono,k₂⟩);obtain ⟨ps,kw⟩:=a;have tY:kw=[]:=pt;clear pt MY;refine rE tY ?_;refine ⟨⟨aJ.v3 B f _ MX,rfl⟩,?_⟩;obtain Ba:=al.trans am;refine aQ (wp_call (X:=X) (s:=ac) (rs:=.ref x::ps) hA hh hn aJ (.cons (am.V lW) be) k₂) (λv aP Sk=>Sk.casesOn λbi aK v' aY aA a6 iK bn=>⟨bi,aK,v',aY,Ba.trans aA,a6,iK,bn⟩) λx aP Sl=>Sl.casesOn λbi aK v' aY aA a6 iK bn=>⟨bi,aK,v',aY,Ba.trans aA,a6,iK.back Ba.mono,bn⟩
theorem bz.cls (B:d8 c mg mb Kf){K:AV->bg->Prop}(hm:makesIn Kf Cl=true)(hi:(findIn Kf (.ref Cl) "__init__"==some (some (.ref fI))&&typeIn Kf (.ref fI)==some (.type "function"))=true)
 (h:bz c n (.ref fI) (.ref (H.length+1)::args) (H++[.az [],.inst Cl H.length]) (λv H'=>v=.none/\K (.ref (H.length+1)) H')):bz c (n+1) (.ref Cl) args H K:=by
 intro A F bs s rs fr hh hd hu jp ms wd hv;simp only [cZ,beq_iff_eq] at hi;have X:=wd.v3 B;obtain ⟨hp,g,d,t,os⟩:=s;refine make_core (makes_of X hm) (looks_findIn X hi.1) (λself=>bind_fn X self hi.2) (.inl rfl) ?_;generalize Ds:(⟨hp,g,d,t,os⟩:Shared)=dL at wd;have ehp:hp=dL.heap:=by rw [<-Ds]
 generalize dl:({dL with heap:=dL.heap.push emptyDict}:Shared)=O;have m₁:bf c F bs dL O:=by rw [<-dl];exact ⟨λb o e=>bU _ e,rfl,rfl⟩
 have n₁:dL.heap.get? dL.heap.objs.size=none:=St.fm dL;have MZ:O.heap.get? dL.heap.objs.size=some (bC #[] 0):=by rw [<-dl];exact cT _ rfl
 have sy:(dL.heap.objs.size==sysModules)=false:=by
  refine e1a0 B.IG λo e=>?_;refine e1a0 (wd.old.there _ _ e) λo' e'=>?_;have:dL.heap.objs.size≠sysModules:=λq=>by rw [q] at n₁;rw [e'] at n₁;cases n₁
  simpa using this
 have Sm:Wd c F (bs++[dL.heap.objs.size]) (H++[.az []]) O:=Wd.new (S:=⟨[],H⟩) (o:=.az []) wd m₁ n₁ MZ (ae [] ⟨#[],0,MZ,λe he=>by simp at he,.nil,List.nodup_nil,sy⟩ (.nil));generalize bv:({O with heap:=O.heap.push (instObj Cl dL.heap.objs.size)}:Shared)=ac;have m₂:bf c F (bs++[dL.heap.objs.size]) O ac:=by rw [<-bv];exact ⟨λb o e=>bU _ e,rfl,rfl⟩
 have Jx:O.heap.get? O.heap.objs.size=none:=St.fm O;have M0:ac.heap.get? O.heap.objs.size=some (instObj Cl dL.heap.objs.size):=by rw [<-bv];exact cT _ rfl
 have hlen:bs.length=H.length:=wd.len;have Jy:Wd c F ((bs++[dL.heap.objs.size])++[O.heap.objs.size]) ((H++[.az []])++[.inst Cl H.length]) ac:=Wd.new (S:=⟨[],H++[.az []]⟩) (o:=.inst Cl H.length) Sm m₂ Jx M0 (ae dL.heap.objs.size (by rw [<-hlen];simp) M0);have hsz:O.heap.objs.size=dL.heap.objs.size+1:=by rw [<-dl];exact fh ..
 have keep:∀b o,dL.heap.get? b=some o->ac.heap.get? b=some o:=λb o e=>m₂.keep _ _ (m₁.keep _ _ e);have stN:Step [] F bs dL.heap F ((bs++[dL.heap.objs.size])++[O.heap.objs.size]) ac.heap:=(Step.new m₁ n₁).trans (Step.new m₂ Jx);have W7:c.Vs F ((bs++[dL.heap.objs.size])++[O.heap.objs.size]) (.ref (H.length+1)::args) (.ref O.heap.objs.size::rs):=by refine .cons (.ref ?_) (stN.Vs hv);rw [List.append_assoc,<-hlen,iV arith2];simp
 have goal:=h (A.under (.builtin "type.__call__" ⟨.ref Cl::rs,[]⟩)) F _ ac (.ref O.heap.objs.size::rs) fr hh (by show A.depth+1+n < _;exact pM hd) (by show A.units+1+20*n < _;exact B9 hu) jp (λe he=>?_) (by simpa using Jy) W7
 . subst Ds;have Hk:(⟨(hp.push emptyDict).push (instObj Cl hp.objs.size),g,d,t,os⟩:Shared)=ac:=by rw [<-bv,<-dl]
   have ex:hp.objs.size+1=O.heap.objs.size:=by rw [hsz]
   rw [Hk,ex];refine codeAny_mono goal λr s' ⟨F',aE,v,H',rv,own,e,gW,st,w',lG,ev,kk⟩=>?_;subst e ev;obtain ⟨_,rfl⟩:=lG.inv;have mO:∀b∈own,hp.get? b=none:=λb hb=>by
    cases q:hp.get? b with
    | none=>rfl
    | some o=>have:=keep b o q;exact bE (aB (aq (gW b hb)) this)
   refine ⟨rfl,F',aE,.ref (H.length+1),H',.ref O.heap.objs.size,own,rfl,mO,(stN.widen (by simp)).trans st,w',?_,kk⟩;have:=st.Vs (c:=c) W7;cases this with
   | cons q _=>exact q
 . refine e0a1 (ms e he) λf1 f2=>?_;rw [Ds] at f1;refine ⟨f1.keep λb o e zz=>(ae o (keep _ _ e) (.refl o)),λL hL=>⟨(f2 L hL).1,λq=>?_⟩⟩;obtain ⟨_,L',o,q1,q2,_⟩:=f1;obtain rfl:=bo (aB (aq hL) q1)
   (refine aN (bL q) (λq=>?_) (λq=>?_))
   . (refine aN (bL q) (λq=>?_) (λq=>?_))
     . exact (f2 L hL).2 q
     . rw [bp q,n₁] at q2;cases q2
   . have:=m₁.keep _ _ q2;rw [bp q,Jx] at this;cases this
theorem m7 (B:d8 c mg mb Kf){f:Expr}{args:dM}{n:Nat}(fa:Addr)(hk:keepIn Kf (.ref fa)=true)(hh:C.handled=none)(hn:n<=C.n)
 (h:Ev c C f S (λfv Z=>fv=.raw (.ref fa)/\pO c C pos args Z (λvs aF=>bz c n (.ref fa) vs aF.heap (λv H'=>K v {aF with heap:=H'})) X) X)
 (he:eval (.Call f args [] pos) C.env=(do callWith pos (<-eval f C.env) [] (backTo pos (starEach args C.env)) (backToKw pos (keywordEach [] C.env))):=by rfl)
 (pc:((backTo pos (starEach args C.env)).any (·.1)||([]:List (Option Str×Sem Value)).any (·.1.isNone))=false:=by rfl)
 (hl:pk (backTo pos (starEach args C.env))=false:=by rfl):Ev c C (.Call f args [] pos) S K X:=by
 intro A F bs s hA z;refine (aq he)▸?_;refine WP.bind (h A F bs s hA z) λF₁ bs₁ Z O fv r al an Fp M1=>e0a1 M1 λe k₁=>?_;clear M1;subst e;obtain ⟨_,rfl⟩:=Fp.inv;refine callWith_of (P:=λh=>Kf.In h) pc (keeps_K hk) ?_;refine aQ (ic hA an k₁ hl) (λa ac M2=>M2.casesOn λaX ap vs aF am aJ Sn=>e0a1 Sn λpt be k₂=>?_) (λzz zz e=>e);obtain ⟨ps,kw⟩:=a;have tY:kw=[]:=pt;clear pt M2;refine tY▸?_;refine ⟨aJ.v3 B,?_⟩;refine aQ (wp_call (X:=X) (s:=ac) hA hh hn aJ be k₂) (λv aP So=>So.casesOn λbi aK v' aY aA a6 iK bn=>⟨bi,aK,v',aY,am.trans aA,a6,iK,bn⟩) λx aP Sp=>Sp.casesOn λbi aK v' aY aA a6 iK bn=>⟨bi,aK,v',aY,am.trans aA,a6,iK.back am.mono,bn⟩
theorem qy {fl:Bool}(B:d8 c mg mb Kf)(dZ:iN Kf Cl=true)(sI:(findIn Kf (.ref Cl) name==some none)=true)(z:St c C F bs S s)(hi:gh S k d Cl kvs)(ho:c.V F bs (.ref k) ro)(hg:bB kvs name=some v)(Do:∀u,v≠.raw u)(kk:K v S) :
 WP c C A c.V (getAttr ro name fl) F bs s K X:=by
 obtain ⟨x,dx,rs,es,n,M3,_,_,I,_,hk,hp,mt,_⟩:=z.inst hi ho;refine M3▸?_;simp only [iN,cZ,beq_iff_eq] at dZ;refine e0a1 dZ λM4 c5=>?_;refine e0a1 M4 λM5 c4=>?_;clear M4;refine e0a1 M5 λM6 c3=>?_;clear M5;refine e0a1 M6 λc1 c2=>?_;clear M6;refine e1a1 (any_some c5) λcd Dm Gc=>?_
 (refine aN (aU.get name mt) (λSq=>?_) (λSr=>?_);refine e2a2 Sq λv' w e1 e2 e3=>?_;rotate_left;refine e0a1 Sr λe1 zz=>?_;rotate_right)
 . obtain rfl:=bo (aB (aq hg) e1);obtain hf:=v8 (n:=n) sI Dm Gc hk hp e2;exact get_value (z.v3 B) I c1 hf (qx e3 Do) ⟨F,bs,v,S,.keep (.toks c F bs s _),z.keep (.toks ..),e3,kk⟩
 . exact jq (aB (aq hg) e1)
end
noncomputable def zr (h:Heap)(a:Addr):Heap:=h.update a λo=>{o with data:=.freed}
theorem xI (h:Heap)(a:Addr):(zr h a).get? a=none:=by
 cases h with
 | mk objs l =>
   simp only [zr,Heap.update,Heap.get?,Array.getElem?_modify];cases e:objs[a]? with
   | none=>rfl
   | some o=>rfl
theorem Dt (h:Heap)(hb:b≠a):(zr h a).get? b=h.get? b:=Heap.get?_update_ne h b a _ hb
noncomputable def wa (h:Heap):aO->Heap
 | []=>h
 | a::l=>zr (wa h l) a
theorem wb (h:Heap)(l:aO)(b:Addr)(hb:b∈l):(wa h l).get? b=none:=by
 induction l with
 | nil=>exact nomatch hb
 | cons a l ih =>
   dsimp only [wa];by_cases e:b=a
   . refine rE e ?_;exact xI ..
   . rw [Dt _ e];exact ih ((cu hb).resolve_left e)
structure SameBut (wr:aO)(s s':Shared):Prop where
 same:∀b,b∉wr->∀o,s.heap.get? b=some o->∃o',s'.heap.get? b=some o'/\iI o o'
 exact:∀b,b∉wr->∀o,s.heap.get? b=some o->o.cls≠.type "frame"->s'.heap.get? b=some o
 os:s'.os=s.os
 gens:s'.gens=s.gens
section
variable {c:bc}{C:Cx}{S:AS}{F F':G}{bs aE:aO}{s s':Shared}{A:Around}{X:dU}{wr fl:aO}
theorem St.iA (z:St c C F bs S s)(f:cf c C F bs wr s.heap)(same:∀b,b∉wr->b∉fl->∀o,s.heap.get? b=some o->s'.heap.get? b=some o)
 (qz:∀b∈fl,F b=none/\b∉bs/\∃o o',s.heap.get? b=some o/\o.cls=.type "frame"/\s'.heap.get? b=some o'/\iI o o') (Jz:s'.os=s.os) (hg:s'.gens=s.gens):St c C F bs S s':=by
 obtain inW:∀b,b∈wr->b∉fl:=λb hb q=>by obtain ⟨_,_,o,_,e,hc,_⟩:=qz b q;refine e1a2 (f.at_ b hb) λo2 e2 zz h3=>?_;obtain rfl:=bo (aB (aq e) e2);exact h3 hc
 have any:∀b,b∉wr->∀o,s.heap.get? b=some o->∃o',s'.heap.get? b=some o'/\iI o o':=λb hb o e=>by
  by_cases q:b∈fl
  . obtain ⟨_,_,o2,o',e1,_,e2,sm⟩:=qz b q;refine rE (bo (aB (aq e) e1)) ?_;exact (ae o' e2 sm)
  . exact (ae o (same b hb q o e) (.refl o))
 obtain M7:∀b o,F b=some o->s'.heap.get? b=some o:=λb o e=>same b (λq=>by exact bE (aB (aq ((f.free b q).F)) e)) (λq=>by rw [(qz b q).1] at e;cases e) o (z.wd.sub b o e);have Hw:∀b∈bs,∀o,s.heap.get? b=some o->s'.heap.get? b=some o:=λb hb o e=>same b (λq=>(f.free b q).bs hb) (λq=>(qz b q).2.1 hb) o e;obtain ia:∀a∈wr++fl,c.h₀.get? a=none:=λa ha=>by
  (refine aN (bL ha) (λq=>?_) (λq=>?_))
  . refine e1a2 (f.at_ a q) λo h1 h2 zz=>?_;exact z.wd.ia (S:=S) (f.free a q).F (ae o h1 h2)
  . obtain ⟨q1,_,o,_,e,hc,_⟩:=qz a q;exact z.wd.ia (S:=S) q1 (ae o e (by rw [hc];simp))
 obtain old:gQ c F s'.heap:=gQ.mR (wr:=wr++fl) z.wd.old ia λb hb o e=>same b (λq=>hb (fg (.inl q))) (λq=>hb (fg (.inr q))) o e;obtain hL:C.env.locals∉wr:=λe=>(f.free _ e).own z.cH;refine e1a1 z.locs λmm hN hl=>?_;refine e1a1 z.gG λoL eL nL=>?_;refine e1a1 (any _ hL oL eL) λFk Bq sL=>?_;refine ⟨⟨M7,z.wd.base,old,z.wd.len,z.wd.nodup,λj b ao e1 e2=>⟨(z.wd.obj j b ao e1 e2).1.at λob e=>Hw b (ct e1) ob e,(z.wd.obj j b ao e1 e2).2⟩,λb m=>(e1a0 (z.wd.there b m) λo e=>(ck o (Hw b m o e))),Jz.trans z.wd.os,hg.trans z.wd.gens,z.wd.kept⟩,
  (ae mm ?_ (λy v e=>(hl y v e).heap λx b o e1 e2=>?_)),(ae Fk Bq (by rw [sL.cls];exact nL)),z.cH,λb hb=>?_,λy b e=>?_,z.apart,λe he=>⟨?_,(z.frames e he).2⟩,z.glob,z.blt,z.kind,z.oD,z.gH⟩
 . refine e3a2 hN λo es ep ho hd r=>?_;obtain rfl:=bo (aB (aq eL) ho);exact (gw Fk es ep Bq (sL.data.trans hd) r)
 . refine e1a1 (any b (λq=>(f.free b q).cells x e1) o e2) λo' e' sm=>?_;exact (ae o' e' sm.data)
 . obtain ⟨h1,h2,o,h3⟩:=z.own b hb;refine e1a1 (any b (λq=>(f.free b q).own hb) o h3) λo' e' zz=>?_;exact (pY h1 h2 o' e')
 . obtain ⟨h1,h2,o,h3,h4,v,h5⟩:=z.cells y b e;refine e1a1 (any b (λq=>(f.free b q).cells y e) o h3) λo' e' sm=>?_;exact (aG h1 h2 ⟨o',e',sm.cls.trans h4,v,sm.data.trans h5⟩)
 . obtain ⟨hk,L,o,h1,h2,h3,h4⟩:=(z.frames e he).1;refine e1a1 (any L (λq=>(f.free L q).frames e he h1) o h2) λo' e' sm=>?_;exact ⟨hk,L,o',h1,e',sm.cls.trans h3,λvs=>by rw [sm.data];exact h4 vs⟩
def gJ (C:Cx):Prop:=∃fr,C.frames=C.env::fr
inductive Ss (c:bc)(C:Cx)(F:G)(bs:aO)(h₀ h:Heap)(e:Addr)(cls:String)(iA:Bool):Prop
 | mk (ob:Obj) (vs:Array Value) (h1:h.get? e=some ob) (h2:ob.cls=.type (gf cls)) (h3:ob.data=.fields vs) (h4:vs.size=6/\(gf cls=cls->vs[2]?=some .none)) (h5:di c C F bs e) (h6:iA=false->vs[1]?=some .none) (h7:iA=true->LD c C F bs h₀ h e vs)
structure g8 (c:bc)(C:Cx)(F:G)(bs:aO)(h₀ h:Heap)(e:Addr)(cls:String)(iA:Bool):Prop where
 new:h₀.get? e=none
 at_:Ss c C F bs h₀ h e cls iA
theorem g8.exc (x:g8 c C F bs h₀ h e cls iA)(hc:gf cls≠"frame"):ExcAt c C F bs h₀ h (.ref e) cls:=by
 obtain ⟨ob,vs,h1,h2,h3,h4,h5,h6,h7⟩:=x.at_;cases iA with
 | false=>exact ⟨⟨e,ob,vs,rfl,x.new,h1,h2,h3,h4,h5,.inl (h6 rfl)⟩,hc⟩
 | true=>exact ⟨⟨e,ob,vs,rfl,x.new,h1,h2,h3,h4,h5,.inr (h7 rfl)⟩,hc⟩
theorem ExcAt.split (z:ExcAt c C F bs h₀ h x cls):∃e iA,x=.ref e/\gf cls≠"frame"/\g8 c C F bs h₀ h e cls iA:=by
 obtain ⟨e,ob,vs,M8,h0,h1,h2,h3,h4,h5,h6⟩:=z.at_;refine rE M8 ?_;rcases h6 with q | q
 . exact (b7 e false rfl z.CC ⟨h0,ob,vs,h1,h2,h3,h4,h5,λzz=>q,λw=>by cases w⟩)
 . exact (b7 e true rfl z.CC ⟨h0,ob,vs,h1,h2,h3,h4,h5,(λw=>by cases w),λzz=>q⟩)
theorem Aj:∀(l:List Env),(∀e∈l,gx h e/\∀L,e.frame=some L->base.get? L=none)->h.FunFrames base l:=by
 intro l;induction l with
 | nil =>intro _;exact trivial
 | cons env r ih =>intro hl;refine e0a1 (hl env (.head _)) λo4 hb=>?_;obtain ⟨hk,L,o,h1,h2,h3,h4⟩:=o4;exact (aG hk (mJ L o h1 (hb L h1) h2 h4) (ih λe he=>hl e (.tail _ he)))
theorem m8 (hA:jW C A)(ht:gJ C)(gg:Step C.own F₀ bs₀ h₀ F bs s.heap)(z:St c C F bs S s)(x:g8 c C F bs h₀ s.heap e cls iA)(ZS:gf cls≠"frame")
 (h:∀s',Step C.own F₀ bs₀ h₀ F bs s'.heap->St c C F bs S s'->g8 c C F bs h₀ s'.heap e cls true->Q () s'):wpAny (model c.prog c.w) A (noteFrame (.ref e) C.env) Q E s:=by
 refine e1a0 ht λfr jp=>?_;obtain ⟨_,L,oL,Hx,hL,ZT,ZU⟩:=(z.frames C.env (by rw [jp];exact .head _)).1;cases iA with
 | true =>obtain ⟨ob,vs,h1,h2,h3,h4,h5,h6,h7⟩:=id x.at_;obtain ⟨tb,lv,nI,L',k1,k2,k3,k4,k5,k6,k7,k8,k9,nJ⟩:=h7 rfl;obtain rfl:=bo (aB (aq Hx) k6);refine wpAny_noteFrame_againW (base:=wa s.heap [tb]) (cls:=.type (gf cls)) (a0:=vs[0]?.getD .none) Hx ⟨ob,vs,tb,lv,nI,h1,⟨h2,?_⟩,h3,k1,(wb _ _ _ (.head _)),k8,k2,k4,k7⟩ (h s gg z x);rw [Array.getElem?_eq_getElem (show 0 < vs.size by obtain this:=h4.1;exact aq this▸bF (Nat.le_add_left (Nat.succ 0).succ 4))];rfl
 | false =>
   obtain ⟨ob,vs,h1,h2,h3,h4,h5,h6,_⟩:=id x.at_;obtain ZV:=h6 rfl;obtain hl:s.heap.FunFrames (wa s.heap (C.frames.filterMap (·.frame))) (C.env::fr):=by
    rw [<-jp];refine Aj _ λe' xE=>⟨(z.frames e' xE).1,λL' rN=>wb _ _ _ (List.mem_filterMap.mpr (ae e' xE rN))⟩
   obtain ZW:A.frames=some (C.env::fr):=by rw [hA.frames,jp]
   unfold noteFrame;simp only [Hx];refine ah (wpAny_field h1 h3 ZV ?_);refine ah (wpAny_frameOf_fun ZW hl Hx λh₁ dl=>?_);refine ah (wpAny_entryPlaceOf λpl pc=>?_);refine ah (wpAny_newObj_type ?_ (pc.sizeOk5 _ _ _ _ _));have qz:∀b∈(C.env::fr).filterMap (·.frame),F b=none/\b∉bs/\∃o,s.heap.get? b=some o/\o.cls=.type "frame"/\∀vs,o.data≠.fields vs:=λb hb=>by rw [<-jp] at hb;refine e1a1 (List.mem_filterMap.mp hb) λe' xE rN=>?_;refine e0a1 (z.frames e' xE) λo3 q5=>?_;obtain ⟨_,L',o,q1,q2,q3,q4⟩:=o3;have Du:e'.frame=some b:=rN;obtain rfl:=bo (aB (aq Du) q1);exact (jA ((q5 b Du).1) ((q5 b Du).2) o q2 q3 q4)
   have M9:e∉(C.env::fr).filterMap (·.frame):=λhm=>by obtain ⟨_,_,o,q1,_,q2⟩:=qz e hm;obtain rfl:=bo (aB (aq h1) q1);exact q2 vs h3
   have Dv:h₁.get? e=some ob:=(dl.2.1 e M9).trans h1;generalize uf:h₁.objs.size=T;generalize Su:({cls:=.type "traceback",dict:=none,data:=.fields ([.none,.ref L,.none,rawInt L,.none]++(if pl.isEmpty then List.replicate 6 Value.none else pl)).toArray}:Obj)=oT;have Sv:T≠e:=by rw [<-uf];exact dk (Heap.lt_size Dv)
   obtain ZX:h₁.get? T=none:=gE (by rw [uf];exact bu _);have RK:s.heap.get? T=none:=by
    cases q:s.heap.get? T with
    | none=>rfl
    | some o=>refine e1a0 (dl.2.2 T o q) λsl w=>?_;exact bE (aB (aq ZX) w)
   obtain Dw:=bU (h:=h₁) oT Dv;refine wpAny_setField Dw h3 (by obtain this:=h4.1;exact BK this) ?_;obtain Hy:=Obj.data_mapFields h3 (·.setIfInBounds 1 (Value.ref T));obtain Hz:=hK (Obj.mapFields (·.setIfInBounds 1 (Value.ref T))) Dw (Obj.isFreed_of_fields Hy);have HA:((h₁.push oT).update e (Obj.mapFields (·.setIfInBounds 1 (Value.ref T)))).get? T=some oT:=by rw [Heap.get?_update_other _ _ (Ne.symm Sv),<-uf];exact cT h₁ (by rw [<-Su];rfl)
   have keep:∀b o,b≠e->h₁.get? b=some o->((h₁.push oT).update e (Obj.mapFields (·.setIfInBounds 1 (Value.ref T)))).get? b=some o:=λb o ZY hb=>by rw [Heap.get?_update_other _ _ (Ne.symm ZY)];exact bU _ hb
   generalize db:({s with heap:=(h₁.push oT).update e (Obj.mapFields (·.setIfInBounds 1 (Value.ref T)))}:Shared)=s';obtain xE:s'.heap.get? e=some (Obj.mapFields (·.setIfInBounds 1 (Value.ref T)) ob):=by rw [<-db];exact Hz
   obtain PJ:s'.heap.get? T=some oT:=by rw [<-db];exact HA
   have same:∀b,b∉[e]->b∉(C.env::fr).filterMap (·.frame)->∀o,s.heap.get? b=some o->s'.heap.get? b=some o:=λb hb ZZ o Z0=>by rw [<-db];exact keep b o (by simpa using hb) ((dl.2.1 b ZZ).trans Z0)
   have JA:∀b∈(C.env::fr).filterMap (·.frame),F b=none/\b∉bs/\∃o o',s.heap.get? b=some o/\o.cls=.type "frame"/\s'.heap.get? b=some o'/\iI o o':=λb hb=>by obtain ⟨q1,q2,o,q3,q4,q5⟩:=qz b hb;refine e1a0 (dl.2.2 b o q3) λsl w=>?_;refine ⟨q1,q2,o,({o with slots:=sl}),q3,q4,?_,(.inr (gb q4 rfl rfl rfl))⟩;rw [<-db];exact keep b _ (λw=>by clear same xE db keep HA Hz Dw Sv Dv h5 h1 x h;subst w;exact M9 hb) w
   have fE:cf c C F bs [e] s.heap:=⟨λa ha=>by rw [bp ha];exact h5,λa ha=>by rw [bp ha];exact (aH ob h1 (by rw [h2];simp) (by rw [h2];simpa using ZS))⟩
   have z':=z.iA (s':=s') (fl:=(C.env::fr).filterMap (·.frame)) fE same JA (by rw [<-db]) (by rw [<-db]);obtain Na:h₀.get? T=none:=by
    cases q:h₀.get? T with
    | none=>rfl
    | some o=>refine e1a0 (gg.mono _ _ q) λo' w=>?_;exact bE (aB (aq RK) w)
   refine h s' (gg.Hn (wr:=[e]) (λa ha=>by rw [bp ha];exact x.new) ⟨λzz zz q=>q,(ae [] (by simp) (by simp)),λb o q=>?_,λb o q n1 n2 zz=>?_,λb o q w=>by rw [q] at w;cases w⟩) z' ⟨x.new,_,_,xE,(Obj.cls_mapFields _ _).trans h2,Hy,⟨by simpa using h4.1,λq=>by rw [Array.getElem?_setIfInBounds_ne (by decide)];exact h4.2 q⟩,h5,(λw=>by cases w),λzz=>⟨T,oT,_,L,by simp [h4.1],PJ,by rw [<-Su],by rw [<-Su],?_,Hx,?_,Sv,Na,z.d7 RK⟩⟩
   . by_cases w:b∈(C.env::fr).filterMap (·.frame)
     . obtain ⟨_,_,_,o',_,_,e2,_⟩:=JA b w;exact (ck o' e2)
     . by_cases w2:b=e
       . refine rE w2 ?_;exact (ck _ xE)
       . exact (ck o (same b (by simpa using w2) w o q))
   . by_cases w:b∈(C.env::fr).filterMap (·.frame)
     . obtain ⟨_,_,o1,o',e1,_,e2,sm⟩:=JA b w;refine rE (bo (aB (aq q) e1)) ?_;exact (ae o' e2 sm)
     . exact (ae o (same b (λm=>n1 (fg (.inl m))) w o q) (.refl o))
   . simp only [List.size_toArray,List.length_append,List.length_cons,List.length_nil];exact bF (bW (Nat.succ 3).succ _)
   . first | (rfl;done) | (rcases pc with rfl | ⟨_,_,_,_,_,_,_,rfl⟩ <;> simp)
theorem zt (gg:Step C.own F₀ bs₀ h₀ F bs s.heap)(z:St c C F bs S s)(x:g8 c C F bs h₀ s.heap e cls true)
 (h:∀s',Step C.own F₀ bs₀ h₀ F bs s'.heap->St c C F bs S s'->g8 c C F bs h₀ s'.heap e cls true->E (.ref e) s'):cameBackBy (model c.prog c.w) A C.env E (.ref e) s:=by
 obtain ⟨ob,vs,h1,h2,h3,h4,h5,h6,h7⟩:=id x.at_;obtain ⟨tb,lv,nI,L,k1,k2,k3,k4,k5,k6,k7,k8,k9,nJ⟩:=h7 rfl;refine ah (wpAny_field h1 h3 k1 ?_);refine ah (wpAny_field h1 h3 k1 ?_);rw [if_pos (by simp)];refine rE k6 ?_;refine wpAny_setField k2 k4 k5 ?_;generalize db:({s with heap:=s.heap.update tb (Obj.mapFields (·.setIfInBounds 3 ((some L).elim Value.none λf=>rawInt f)))}:Shared)=s';obtain hs:Heap.SameBut tb s.heap s'.heap:=by refine db▸?_;exact Heap.SameBut.update ..
 obtain t:cE [tb] s s':=⟨λb hb o e=>(hs.2 b (by simpa using hb)).trans e,by rw [<-db],by rw [<-db]⟩
 obtain hd:=Obj.data_mapFields k4 (·.setIfInBounds 3 ((some L).elim Value.none λf=>rawInt f));obtain uf:s'.heap.get? tb=some (Obj.mapFields (·.setIfInBounds 3 ((some L).elim Value.none λf=>rawInt f)) lv):=by refine db▸?_;exact hK _ k2 (Obj.isFreed_of_fields hd)
 obtain z':=z.frees t ⟨λa ha=>by simp only [bp ha];exact nJ,λa ha=>by rw [bp ha];exact (aH _ k2 (by lia) (by lia))⟩;refine h s' (gg.others (λa ha=>by refine rE (bp ha) ?_;exact k9) t.same) z' ⟨x.new,ob,vs,t.same e (by simpa using Ne.symm k8) _ h1,h2,h3,h4,h5,(λw=>by cases w),λzz=>⟨tb,_,_,L,k1,uf,(Obj.cls_mapFields _ _).trans k3,hd,by simpa using k5,k6,by simp [k5],k8,k9,nJ⟩⟩
end
section
variable {c:bc}{C:Cx}{S:AS}{F F':G}{bs aE:aO}{s s':Shared}{A:Around}{X:dU}{pos:Pos}
theorem St.raised (z:St c C F bs S s)(x:Heap.NewExc s.heap h' e cls)(hu:gf cls=cls)(hc:cls≠"frame")(hs:s'.heap=h')(ho:s'.os=s.os)(hg:s'.gens=s.gens) :
 Step C.own F bs s.heap F bs s'.heap/\St c C F bs S s'/\ExcAt c C F bs s.heap s'.heap (.ref e) cls:=by
 subst hs;have m:bf c F bs s s':=⟨x.keeps,ho,hg⟩
 refine e2a2 x.there λob t h1 h2 h3=>?_;exact (aG (.keep m) (z.keep m) ⟨⟨e,ob,_,rfl,x.new,h1,by rw [hu];exact h2,h3,⟨rfl,λzz=>rfl⟩,z.d7 x.new,.inl rfl⟩,by rw [hu];exact hc⟩)
theorem fw {K:dC}(h:cm S v xs)(hh:C.handled=none)(h0:(xs.length:Int)<=i)(h1:i < 2 ^ 63)(k:X "IndexError" S):jF c C getItem v (.int i) S K X:=λA F bs s ra rb hA z ha hb=>by refine e1a0 hb.inv λzz o5=>?_;refine rE o5 ?_;refine e2a3 (z.seq h ha) λl vs o4 hL be zz=>?_;refine rE o4 ?_;refine wpAny_getItem_list_out (hA.handled.trans hh) hL.isList (.inr (by simpa [be.length] using h0)) (vb h0) h1 λh' tk e x=>?_;refine e0a2 (z.raised (s':={s with heap:=h',toks:=tk}) x (rfl) (by decide) rfl rfl rfl) λa1 a2 a3=>?_;exact ⟨F,bs,_,S,a1,a2,a3,k⟩
theorem iq (hA:jW C A)(ht:gJ C)(st:Step C.own F₀ bs₀ h₀ F bs s.heap)(z:St c C F bs S s)(hx:ExcAt c C F bs h₀ s.heap x cls)(k:X cls S) :
 notedBy (model c.prog c.w) A C.env (cameBackBy (model c.prog c.w) A C.env (WX c C F₀ bs₀ h₀ X)) x s:=by
 refine e2a2 hx.split λe iA o3 hc hi=>?_;refine rE o3 ?_;refine m8 hA ht st z hi hc λs' gM z' i3=>?_;exact zt gM z' i3 λjf qu Dk Sw=>⟨F,bs,cls,S,qu,Dk,Sw.exc hc,k⟩
inductive qA (I:CF)(n:Nat)(S:AS):Prop
 | mk (m:Nat) (hm:m < n) (hI:I m S)
@[reducible] def HB (I:CF) (n:Nat) (K:ip):ip:=λfl S=>match fl with
 | .next=>qA I n S
 | .cont=>qA I n S
 | .brk=>K .next S
 | .ret v=>K (.ret v) S
@[reducible] def JB (c:bc) (C:Cx) (body:fk) (I:CF) (n:Nat) (K:ip) (X:dU):Bool->dA:=λb S=>match b with
 | true=>Ex c C body S (HB I n K) X
 | false=>K .next S
@[reducible] def Gh (c:bc) (C:Cx) (body orelse:fk) (I:CF) (n:Nat) (K:ip) (X:dU):Bool->dA:=λb S=>match b with
 | true=>Ex c C body S (HB I n K) X
 | false=>Ex c C orelse S K X
theorem jh {K:ip}(ht:gJ C)(I:CF)(n:Nat)(h0:I n S)
 (turn:∀n S',I n S'->xp c C test S' (JB c C body I n K X) X):nH c C (.While test body [] pos) S K X:=by
 intro A F bs s hA z;refine WP.standAt (wpAny_runOwn ?_);refine codeAny_whileLoop (λn s'=>∃F' aE S',Step C.own F bs s.heap F' aE s'.heap/\St c C F' aE S' s'/\I n S') ?_ n (gw F bs S (.refl ..) z h0);intro n O o1;refine e3a2 o1 λF₁ bs₁ Z al an hI=>?_;refine aQ (turn n Z hI A F₁ bs₁ O hA an) (λb ac Nb=>Nb.casesOn λaX ap b' aF am aJ hb k₂=>?_) (λx ac Sy=>Sy.casesOn λaX ap cls aF am aJ hx k₂=>iq hA ht (al.trans am) aJ (hx.back al.mono) k₂);clear Nb;subst hb;have st:=al.trans am;cases b with
 | false =>exact wpAny_execs_nil ⟨aX,ap,.next,aF,st,aJ,rfl,k₂⟩
 | true =>
   skip
   refine aQ (k₂ A aX ap ac hA aJ) (λf aP JC=>JC.casesOn λbi aK fl aY aA a6 hf bn=>?_) (λx aP Sz=>Sz.casesOn λbi aK cls aY aA a6 hx bn=>iq hA ht (st.trans aA) a6 (hx.back st.mono) bn);cases fl with
   | next=>cases hf;obtain ⟨m,hm,k⟩:=bn;exact (kY m hm bi aK aY (st.trans aA) a6 k)
   | cont=>cases hf;obtain ⟨m,hm,k⟩:=bn;exact (kY m hm bi aK aY (st.trans aA) a6 k)
   | brk=>clear JC;subst hf;exact ⟨bi,aK,.next,aY,st.trans aA,a6,rfl,bn⟩
   | ret v=>clear JC;refine e1a1 hf λr o2 hr=>?_;clear hf;obtain rfl:=o2;exact ⟨bi,aK,.ret v,aY,st.trans aA,a6,(ae r rfl hr),bn⟩
noncomputable abbrev Cx.cw (C:Cx)(x:tX):Cx:={C with handled:=x}
theorem St.cw (z:St c C F bs S s)(x:tX):St c (C.cw x) F bs S s:=⟨z.wd,z.locs,z.gG,z.cH,z.own,z.cells,z.apart,z.frames,z.glob,z.blt,z.kind,z.oD,z.gH⟩
theorem St.d9 (z:St c (C.cw x) F bs S s):St c C F bs S s:=⟨z.wd,z.locs,z.gG,z.cH,z.own,z.cells,z.apart,z.frames,z.glob,z.blt,z.kind,z.oD,z.gH⟩
theorem jW.cw (hA:jW C A):jW (C.cw (some x)) (A.mark (some x)):=⟨rfl,hA.depth,hA.units,hA.frames⟩
inductive SA (c:bc)(C:Cx)(F:G)(bs:aO)(h₀ h:Heap)(e:Addr)(cls:String):Prop
 | mk (ob:Obj) (vs:Array Value) (tb:Addr) (lv:Obj) (nI:Array Value) (h1:h.get? e=some ob) (h2:ob.cls=.type (gf cls)) (h3:ob.data=.fields vs) (h4:vs.size=6/\(gf cls=cls->vs[2]?=some .none)) (h5:di c C F bs e) (k1:vs[1]?=some (.ref tb)) (k2:h.get? tb=some lv) (k3:lv.cls=.type "traceback") (k4:lv.data=.fields nI) (k5:3 < nI.size) (k8:tb≠e) (k9:h₀.get? tb=none) (nJ:di c C F bs tb)
structure iO (c:bc)(C:Cx)(F:G)(bs:aO)(h₀ h:Heap)(e:Addr)(cls:String):Prop where
 new:h₀.get? e=none
 at_:SA c C F bs h₀ h e cls
theorem g8.held (x:g8 c C F bs h₀ h e cls true):iO c C F bs h₀ h e cls:=by obtain ⟨ob,vs,h1,h2,h3,h4,h5,h6,h7⟩:=x.at_;obtain ⟨tb,lv,nI,L,k1,k2,k3,k4,k5,k6,k7,k8,k9,nJ⟩:=h7 rfl;exact ⟨x.new,ob,vs,tb,lv,nI,h1,h2,h3,h4,h5,k1,k2,k3,k4,k5,k8,k9,nJ⟩
theorem iO.step (x:iO c C F bs h₀ s.heap e cls)(hc:gf cls≠"frame")(st:Step C.own F bs s.heap F' aE s'.heap):iO c C F' aE h₀ s'.heap e cls:=by obtain ⟨ob,vs,tb,lv,nI,h1,h2,h3,h4,h5,k1,k2,k3,k4,k5,k8,k9,nJ⟩:=x.at_;refine e1a1 (st.dT e ob h1 h5.own h5.bs (by rw [h2];simp)) λo1 e1 s1=>?_;rw [s1.qa (by rw [h2];simpa using hc)] at e1;refine e1a1 (st.dT tb lv k2 nJ.own nJ.bs (by rw [k3];simp)) λo2 e2 s2=>?_;rw [s2.qa (by lia)] at e2;exact ⟨x.new,ob,vs,tb,lv,nI,e1,h2,h3,h4,h5.step st h1,k1,e2,k3,k4,k5,k8,k9,nJ.step st k2⟩
theorem ug (gg:Step C.own F₀ bs₀ h₀ F bs s.heap)(z:St c C F bs S s)(x:iO c C F bs h₀ s.heap e cls)
 (h:∀s',Step C.own F₀ bs₀ h₀ F bs s'.heap->St c C F bs S s'->iO c C F bs h₀ s'.heap e cls->Q () s'):wpAny (model c.prog c.w) A' (setFlight (.ref e) none) Q E s:=by
 obtain ⟨ob,vs,tb,lv,nI,h1,h2,h3,h4,h5,k1,k2,k3,k4,k5,k8,k9,nJ⟩:=x.at_;refine wpAny_setFlight_none h1 h3 k1 k2 k4 k5 ?_;generalize db:({s with heap:=s.heap.update tb (Obj.mapFields (·.setIfInBounds 3 .none))}:Shared)=s';obtain hs:Heap.SameBut tb s.heap s'.heap:=by refine db▸?_;exact Heap.SameBut.update ..
 obtain t:cE [tb] s s':=⟨λb hb o e=>(hs.2 b (by simpa using hb)).trans e,by rw [<-db],by rw [<-db]⟩
 obtain hd:=Obj.data_mapFields k4 (·.setIfInBounds 3 Value.none);obtain uf:s'.heap.get? tb=some (Obj.mapFields (·.setIfInBounds 3 Value.none) lv):=by refine db▸?_;exact hK _ k2 (Obj.isFreed_of_fields hd)
 obtain z':=z.frees t ⟨λa ha=>by simp only [bp ha];exact nJ,λa ha=>by rw [bp ha];exact (aH _ k2 (by lia) (by lia))⟩;exact h s' (gg.others (λa ha=>by rw [bp ha];exact k9) t.same) z' ⟨x.new,ob,vs,tb,_,_,t.same e (by simpa using Ne.symm k8) _ h1,h2,h3,h4,h5,k1,uf,(Obj.cls_mapFields _ _).trans k3,hd,by simpa using k5,k8,k9,nJ⟩
theorem zu {K:ip}(ht:gJ C)(T:String)
 (SC:isSubtype (.type T) (.type "BaseException")=pure true) (Z1:isSubtype (.type ((Manifest.find? T).elim "type" λx=>x.metatype)) (.type "tuple")=pure false) (gK:isSubtype (.type T) (.type T)=pure true)
 (h:Ex c C body S K (λcls Z=>gf cls=T/\∀e,Ev c (C.cw (some (.ref e))) t Z (λv aF=>v=.raw (.type T)/\Ex c (C.cw (some (.ref e))) (SD::Nc) aF K gX) gX)) :
 nH c C (.Try body [.ExceptHandler (some t) none (SD::Nc) Ai] [] [] pos) S K X:=by
 intro A F bs s hA z;refine wpAny_Try_except (aQ (h A F bs s hA z) (λf O Nf=>Nf.el λF₁ bs₁ fl Z al an hf k₁=>?_) (λx O ⟨F₁,bs₁,cls,Z,al,an,hx,SE,k₁⟩=>?_))
 . cases fl with
   | next=>refine rE hf ?_;exact wpAny_execs_nil ⟨F₁,bs₁,.next,Z,al,an,rfl,k₁⟩
   | brk=>subst hf;exact ⟨F₁,bs₁,.brk,Z,al,an,rfl,k₁⟩
   | cont=>subst hf;exact ⟨F₁,bs₁,.cont,Z,al,an,rfl,k₁⟩
   | ret v=>clear Nf;refine e1a1 hf λr o4 hr=>?_;clear hf;refine rE o4 ?_;exact ⟨F₁,bs₁,.ret v,Z,al,an,(ae r rfl hr),k₁⟩
 . refine e2a2 hx.split λe iA o3 hc hi=>?_;refine rE o3 ?_;refine m8 hA ht al an hi hc λac am aJ Dx=>?_;refine ug am aJ Dx.held λaP aA a6 Ng=>?_;refine wpAny_handleBy_builtin (b:=true) SC Z1 gK ?_;refine aQ (k₁ e (A.mark (some (.ref e))) F₁ bs₁ aP hA.cw (a6.cw _)) (λv ch ⟨ec,ca,u,co,ce,cr,hu,eu,iZ⟩=>?_) λzz zz SF=>SF.casesOn λzz zz zz zz zz zz zz q=>q.elim;subst eu;obtain ⟨_,rfl⟩:=hu.inv;have sJ:=Ng.step hc ce;refine (aG rfl ?_ ?_)
   . obtain ⟨ob,_,_,_,_,q1,q2,_⟩:=sJ.at_;exact (ae ob q1 (by rw [q2,SE]))
   refine ug (aA.trans ce) cr.d9 sJ λdW eR fZ zz=>?_;refine aQ (iZ (A.mark (some (.ref e))) ec ca dW hA.cw (fZ.cw _)) (λf qs SG=>SG.casesOn λSH Nh fl SI Dy Ae hf SJ=>⟨SH,Nh,fl,SI,eR.trans Dy,Ae.d9,hf,SJ⟩) λzz zz SK=>SK.casesOn λzz zz zz zz zz zz zz q=>q.elim
end
structure qB (g:Addr)(h h':Heap)(e:Addr)(cls:String):Prop where
 keeps:∀b o,h.get? b=some o->h'.get? b=some o
 new:h.get? e=none
 there:∃ob t,h'.get? e=some ob/\ob.cls=.type cls/\ob.data=.fields #[t,.none,.ref g,.none,.bool false,.none]
theorem rW:entryFor table "proto.unchain"=some Builtin.«proto.unchain»:=entryFor_of_fast (by kernel_rfl)
section
variable {prog:Program}{w:World}{A:Around}{E:sA}{s:Shared}{α:Type}
theorem qC (hh:A.handled=some (.ref g))(ge:g≠e)
 (hg:s.heap.get? g=some og) (Fr:og.data=.fields vg) (Fs:vg[2]?=some .none)
 (he:s.heap.get? e=some oe) (Z2:oe.data=.fields ve) (Z3:2 < ve.size)
 (h:E (.ref e) {s with heap:=s.heap.update e (Obj.mapFields (·.setIfInBounds 2 (.ref g)))}):wpAny (model prog w) A (raiseNew (.ref e):Sem α) Q E s:=by
 refine ah (wpAny_handled ?_);refine rE hh ?_;have hb:(Value.ref g != Value.ref e)=true:=by simpa using ge
 simp only [hb,if_true];refine ah (wpAny_holding (wpAny_runValue (codeAny_builtin rW ?_)));refine ah (wpAny_field hg Fr Fs ?_);refine ah (aM ?_);refine aM ?_;refine ah (ah (wpAny_load he ?_));refine rE Z2 ?_;simp only [Z3,if_true];exact wpAny_update he (wpAny_throw h)
theorem uh (hp:PlainExc cls)(hh:A.handled=some (.ref g))
 (hg:s.heap.get? g=some og) (Fr:og.data=.fields vg) (Fs:vg[2]?=some .none)
 (h:∀h' e,qB g s.heap h' e cls->E (.ref e) {s with heap:=h'}):wpAny (model prog w) A (newExc (.type cls) [arg] >>= λx=>(raiseNew x:Sem α)) Q E s:=by
 refine ah (ah (wpAny_newObj_type ?_));refine ah (m:=firstArgMember _ _) (wpAny_of_eq (a:=Value.none) (by simp only [firstArgMember,hp.first];rfl) ?_);rw [hp.own];refine wpAny_newObj_type ?_;obtain hl:g < s.heap.objs.size:=Heap.lt_size hg;refine qC hh ?_ (bU _ (bU _ hg)) Fr Fs (cT _ rfl) rfl (by simp) ?_
 . refine bS ?_;simp only [fh];exact Nat.lt_succ_of_lt hl
 . refine h _ _ ⟨λb o hb=>?_,gE (by simp),?_⟩
   . rw [Heap.get?_update_ne]
     . exact bU _ (bU _ hb)
     . refine bS ?_;simp only [fh];exact Nat.lt_succ_of_lt (Heap.lt_size hb)
   . refine (b7 _ (.ref s.heap.objs.size) (hK _ (cT _ rfl) (Obj.isFreed_of_fields (Obj.data_mapFields rfl _))) rfl ?_);rfl
theorem eB (hp:PlainExc cls)(hh:A.handled=some (.ref g))
 (hg:s.heap.get? g=some og) (Fr:og.data=.fields vg) (Fs:vg[2]?=some .none)
 (h:∀h' tk e,qB g s.heap h' e cls->E (.ref e) {s with heap:=h',toks:=tk}):wpAny (model prog w) A (raiseErrorWords cls msg:Sem α) Q E s:=by
 exact ah (wpAny_mkText (uh (s:={s with toks:=_}) hp hh hg Fr Fs λh' e x=>h h' _ e x))
theorem m9 (hh:A.handled=some (.ref g))
 (hg:s.heap.get? g=some og) (Fr:og.data=.fields vg) (Fs:vg[2]?=some .none) (hl:s.heap.IsList l items)
 (uk:(items.size:Int)<=k) (W8:k < 2 ^ 63)
 (hE:∀h' tk e,qB g s.heap h' e "IndexError"->E (.ref e) {s with heap:=h',toks:=tk}) :
 wpAny (model prog w) A (getItem (.ref l) (.int k t)) Q E s:=by
 obtain ⟨o,ho,hc,ne,hd⟩:=id hl;unfold getItem
 try with_reducible refine wpAny_holding ?_
 first | refine ah (aM ?_) | skip
 refine ah (wpAny_sequenceKey hl.typeIs (rfl) ?_);refine ah (wpAny_callSpecial?_slot (name:=Str.ofString "__getitem__") hl.typeIs slot_list_getitem
  (wpAny_call_entry slot_list_getitem hl.typeIs entry_list_getitem ?_ (args_list_getitem _ _)))
 show wpAny _ _ (Builtin.List.listSubscript? (.int k t) >>= _) _ _ s;refine ah (wpAny_listSubscript_int (fitsIndex_both (vb uk) W8) ?_);clear W8;obtain ⟨j,rfl⟩:∃j:Nat,k=Int.ofNat j:=(ck k.toNat (by simp only [Int.ofNat_eq_natCast];exact (Int.toNat_of_nonneg (Int.le_trans (Int.natCast_nonneg _) uk)).symm))
 obtain hx:items[j]?=none:=Array.getElem?_eq_none (by have:(items.size:Int)<=(j:Int):=uk;exact Int.ofNat_le.mp this);refine ah (ah (wpAny_seqItemAt ho hd (aM ?_)));rw [hx]
 first
  | exact ah (wpAny_rule (eB plainExc_IndexError hh hg Fr Fs hE))
  | exact ah (wpAny_rule (ah (eB plainExc_IndexError hh hg Fr Fs hE)))
  | exact ah (ah (wpAny_rule (eB plainExc_IndexError hh hg Fr Fs hE)))
  | exact wpAny_rule (eB plainExc_IndexError hh hg Fr Fs hE)
end
section
variable {c:bc}{C:Cx}{S:AS}{F F':G}{bs aE:aO}{s s':Shared}{A:Around}{X:dU}{pos:Pos}
theorem di.d9 (f:di c (C.cw y) F bs a):di c C F bs a:=⟨f.F,f.bs,f.own,f.cells,f.frames⟩
theorem di.cw (f:di c C F bs a):di c (C.cw y) F bs a:=⟨f.F,f.bs,f.own,f.cells,f.frames⟩
theorem ExcAt.d9 (z:ExcAt c (C.cw y) F bs h₀ h x cls):ExcAt c C F bs h₀ h x cls:=by obtain ⟨a,ob,vs,h1,h0,h2,h3,h4,h5,h6,h7⟩:=z.at_;refine ⟨⟨a,ob,vs,h1,h0,h2,h3,h4,h5,h6.d9,h7.imp id ?_⟩,z.CC⟩;intro o1;obtain ⟨tb,lv,nI,L,k1,k2,k3,k4,k5,k6,k7,k8,k9,nJ⟩:=o1;exact ⟨tb,lv,nI,L,k1,k2,k3,k4,k5,k6,k7,k8,k9,nJ.d9⟩
theorem g8.d9 (z:g8 c (C.cw y) F bs h₀ h e cls n):g8 c C F bs h₀ h e cls n:=by obtain ⟨ob,vs,h1,h2,h3,h4,h5,h6,h7⟩:=z.at_;refine ⟨z.new,ob,vs,h1,h2,h3,h4,h5.d9,h6,λq=>?_⟩;obtain ⟨tb,lv,nI,L,k1,k2,k3,k4,k5,k6,k7,k8,k9,nJ⟩:=h7 q;exact ⟨tb,lv,nI,L,k1,k2,k3,k4,k5,k6,k7,k8,k9,nJ.d9⟩
theorem g8.cw (z:g8 c C F bs h₀ h e cls n):g8 c (C.cw y) F bs h₀ h e cls n:=by obtain ⟨ob,vs,h1,h2,h3,h4,h5,h6,h7⟩:=z.at_;refine ⟨z.new,ob,vs,h1,h2,h3,h4,h5.cw,h6,λq=>?_⟩;obtain ⟨tb,lv,nI,L,k1,k2,k3,k4,k5,k6,k7,k8,k9,nJ⟩:=h7 q;exact ⟨tb,lv,nI,L,k1,k2,k3,k4,k5,k6,k7,k8,k9,nJ.cw⟩
theorem um {K:dC}{k:Nat}(h:cm S v xs)(hh:C.handled=some (.ref g))(hk:S.heap[k]?=some (.exc g ob))(h0:(xs.length:Int)<=i)(h1:i < 2 ^ 63)(kx:X "IndexError+" S):jF c C getItem v (.int i) S K X:=λA F bs s ra rb hA z ha hb=>by
 refine e1a0 hb.inv λzz o9=>?_;refine rE o9 ?_;refine e2a3 (z.seq h ha) λl vs o8 hL be zz=>?_;refine rE o8 ?_;obtain eX:k < bs.length:=by simp only [z.wd.len];exact (bN hk).1
 obtain ⟨ga,Z4⟩:∃a,bs[k]?=some a:=(ck _ (cp eX))
 refine e0a1 (z.wd.obj k ga _ Z4 hk) λmo zz=>?_;obtain ⟨e1,vg,e2,_,_,e3,e4⟩:=mo;clear hk;subst e1;refine m9 (hA.handled.trans hh) e2 e3 e4 hL.isList (by simpa [be.length] using h0) h1 λh' tk e x=>?_;obtain m:bf c F bs s {s with heap:=h',toks:=tk}:=⟨x.keeps,rfl,rfl⟩
 refine e2a2 x.there λoe t q1 q2 q3=>?_;exact ⟨F,bs,_,S,.keep m,z.keep m,⟨⟨e,oe,_,rfl,x.new,q1,by exact q2,q3,⟨rfl,λq=>by simp [gf] at q⟩,z.d7 x.new,.inl rfl⟩,by decide⟩,kx⟩
theorem Gi (ht:gJ C)(gg:Step C.own F₀ bs₀ h₀ F bs s.heap)(z:St c C F bs S s)(x:iO c C F bs h₀ s.heap e cls)
 (h:∀s',Step C.own F₀ bs₀ h₀ F bs s'.heap->St c C F bs S s'->g8 c C F bs h₀ s'.heap e cls true->E (.ref e) s'):wpAny (model c.prog c.w) A (PySem.passOn Z5 (.ref e) C.env:Sem α) Q E s:=by
 refine e1a0 ht λfr jp=>?_;obtain ⟨_,L,oL,Hx,hL,ZT,ZU⟩:=(z.frames C.env (by refine rE jp ?_;exact .head _)).1;obtain ⟨ob,vs,tb,lv,nI,h1,h2,h3,h4,h5,k1,k2,k3,k4,k5,k8,k9,nJ⟩:=id x.at_;refine ah (wpAny_field h1 h3 k1 ?_);refine ah (ah (wpAny_field h1 h3 k1 ?_));rw [if_pos (by simp)];refine rE Hx ?_;refine wpAny_setField k2 k4 k5 ?_;refine wpAny_throw ?_;generalize db:({s with heap:=s.heap.update tb (Obj.mapFields (·.setIfInBounds 3 ((some L).elim Value.none λf=>rawInt f)))}:Shared)=s';obtain hs:Heap.SameBut tb s.heap s'.heap:=by refine db▸?_;exact Heap.SameBut.update ..
 obtain t:cE [tb] s s':=⟨λb hb o e=>(hs.2 b (by simpa using hb)).trans e,by rw [<-db],by rw [<-db]⟩
 obtain hd:=Obj.data_mapFields k4 (·.setIfInBounds 3 ((some L).elim Value.none λf=>rawInt f));obtain uf:s'.heap.get? tb=some (Obj.mapFields (·.setIfInBounds 3 ((some L).elim Value.none λf=>rawInt f)) lv):=by refine db▸?_;exact hK _ k2 (Obj.isFreed_of_fields hd)
 obtain z':=z.frees t ⟨λa ha=>by simp only [bp ha];exact nJ,λa ha=>by rw [bp ha];exact (aH _ k2 (by lia) (by lia))⟩;refine h s' (gg.others (λa ha=>by refine rE (bp ha) ?_;exact k9) t.same) z' ⟨x.new,ob,vs,t.same e (by simpa using Ne.symm k8) _ h1,h2,h3,h4,h5,(λw=>by cases w),λzz=>⟨tb,_,_,L,k1,uf,(Obj.cls_mapFields _ _).trans k3,hd,by simpa using k5,Hx,by simp [k5],k8,k9,nJ⟩⟩
theorem Step.HC (x:Step own F bs h F' (b1++nb) h')(e:∃n0,b1=bs++n0):Step own F bs h F' b1 h':=by refine e1a0 e λn0 o7=>?_;clear e;obtain rfl:=o7;refine e1a1 x.ext λwS e' hn=>?_;rw [List.append_assoc,List.append_cancel_left_eq] at e';exact ⟨x.sub,(ae n0 rfl (λa ha=>hn a (by rw [<-e'];exact fg (.inl ha)))),x.mono,x.dT,x.ja⟩
def Cut (n:Nat)(S:AS)(I:dA):Prop:=∃L,z9 n S L/\AO.b8 n (S.heap.take n)=true/\I ⟨L,S.heap.take n⟩
theorem wc {K:ip}(ht:gJ C)
 (h:Ex c C body S (λfl Z=>match fl with | .next=>Ex c C (Ni::fs) Z (λg aF=>match g with | .next=>K .next aF | _=>False) X | _=>False)
  (λcls Z=>∀e ob,Ex c (C.cw (some (.ref e))) (Ni::fs) {Z with heap:=Z.heap++[.exc e ob]}
   (λg aF=>match g with | .next=>aF.heap[Z.heap.length]?=some (.exc e ob)/\Cut Z.heap.length aF (X cls) | _=>False)
   (λJD aF=>Cut Z.heap.length aF (X JD))/\gf cls=cls)) :
 nH c C (.Try body [] [] (Ni::fs) pos) S K X:=by
 intro A F bs s hA z;refine wpAny_Try_finally (aQ (h A F bs s hA z) (λf O Nj=>Nj.casesOn λF₁ bs₁ fl Z al an hf k₁=>?_) (λx O Nk=>Nk.casesOn λF₁ bs₁ cls Z al an hx k₁=>?_))
 . cases fl with
   | next =>
     clear Nj;subst hf;refine wpAny_execs_nil ?_;refine aQ (k₁ A F₁ bs₁ O hA an) (λf ac Nl=>Nl.casesOn λaX ap fl aF am aJ hf k₂=>?_) (λx ac SL=>SL.casesOn λaX ap cls aF am aJ hx k₂=>iq hA ht (al.trans am) aJ (hx.back al.mono) k₂);cases fl with
     | next=>clear Nl;subst hf;exact ⟨aX,ap,.next,aF,al.trans am,aJ,rfl,k₂⟩
     | brk=>exact k₂.elim
     | cont=>exact k₂.elim
     | ret v=>exact k₂.elim
   | brk=>exact k₁.elim
   | cont=>exact k₁.elim
   | ret v=>exact k₁.elim
 . clear Nk;refine e2a2 hx.split λe iA o6 hc hi=>?_;refine rE o6 ?_;refine m8 hA ht al an hi hc λac am aJ Dx=>?_;refine ⟨by simp [byPass],?_⟩;refine m8 hA ht am aJ Dx hc λaP aA a6 Nm=>?_;refine ug aA a6 Nm.held λch ce cr sJ=>?_;obtain ⟨ob,vs,tb,lv,nI,h1,h2,h3,h4,h5,j1,j2,j3,j4,j5,j8,j9,JE⟩:=id sJ.at_;obtain hu:gf cls=cls:=(k₁ e ob).2;obtain zA:=cr.adopt h5 h1 (o:=.exc e ob) ⟨rfl,vs,h1,(by rw [h2];simp),(by rw [h2];simpa using hc),h3,(h4.2 hu)⟩;obtain hlen:Z.heap.length=bs₁.length:=cr.wd.len.symm;obtain Dz:∃n0,bs₁=bs++n0:=ce.fresh;obtain SM:Step C.own F bs s.heap F₁ (bs₁++[e]) ch.heap:=Step.adopt ce sJ.new;refine aQ ((k₁ e ob).1 (A.mark (some (.ref e))) F₁ (bs₁++[e]) ch hA.cw (zA.cw _)) (λg dW Nn=>Nn.casesOn λfH eh fl fY eR fZ hf j7=>?_) (λx dW Gj=>Gj.casesOn λfH eh JD fY eR fZ hx j7=>?_)
   . cases fl with
     | next =>
       clear Nn;subst hf;obtain ⟨W9,L,u1,u2,kx⟩:=j7;rw [hlen] at W9 u1 u2 kx;refine e1a0 eR.fresh λnb o5=>?_;obtain rfl:=o5;obtain sK:=fZ.d9;obtain jZ:Step C.own F bs s.heap fH (bs₁++[e]++nb) dW.heap:=SM.trans eR;rw [List.append_assoc] at jZ sK;obtain JF:(bs₁++([e]++nb))[bs₁.length]?=some e:=by simp
       refine e0a1 (sK.wd.obj _ _ _ JF W9) λnO g2=>?_;obtain ⟨_,vs',g1,_⟩:=nO;obtain PK:=g2 (by simp);obtain No:tb∉bs₁++[e]:=λm=>by
        (refine aN (bL m) (λm=>?_) (λm=>?_))
        . exact JE.bs m
        . exact j8 (bp m)
       refine e1a1 (eR.dT tb lv j2 JE.own No (by rw [j3];simp)) λo2 e2 sm=>?_;rw [sm.qa (by rw [j3];simp)] at e2;obtain Z6:fH tb=none:=by
        cases q:fH tb with
        | none=>rfl
        | some o'=>(refine aN (eR.ja tb o' q JE.F) (λy=>?_) (λy=>?_))
                   . exact bE (aB (aq y) j2)
                   . exact absurd y No
       obtain Np:iO c C fH bs₁ s.heap dW.heap e cls:=⟨sJ.new,ob,vs,tb,lv,nI,g1,h2,h3,h4,⟨PK,h5.bs,h5.own,h5.cells,h5.frames⟩,j1,e2,j3,j4,j5,j8,j9,⟨Z6,JE.bs,JE.own,JE.cells,JE.frames⟩⟩
       obtain zT:=sK.trim (loc:=L) ⟨u1.at,AO.lY u2⟩;refine Gi ht (jZ.HC Dz) zT Np λs' gM z' i3=>?_;exact ⟨fH,bs₁,cls,_,gM,z',i3.exc hc,kx⟩
     | brk=>exact j7.elim
     | cont=>exact j7.elim
     | ret v=>exact j7.elim
   . refine e1a2 j7 λL u1 u2 kx=>?_;rw [hlen] at u1 u2 kx;refine e1a0 eR.fresh λnb o4=>?_;obtain rfl:=o4;obtain sK:=fZ.d9;obtain jZ:Step C.own F bs s.heap fH (bs₁++[e]++nb) dW.heap:=SM.trans eR;obtain kr:=hx.d9.back SM.mono;rw [List.append_assoc] at jZ sK kr;obtain zT:=sK.trim (loc:=L) ⟨u1.at,AO.lY u2⟩;obtain SN:=kr.trim;clear kr Gj;refine e2a2 SN.split λe' SO o3 DA i3=>?_;refine rE o3 ?_;refine m8 (C:=C.cw (some (.ref e))) hA.cw ht (jZ.HC Dz) (zT.cw (some (.ref e))) i3.cw DA λqs Dy Ae Nq=>?_;exact zt Dy Ae.d9 Nq.d9 λZ7 Nr SP Nt=>⟨fH,bs₁,JD,_,Nr,SP,Nt.exc DA,kx⟩
theorem dG {st:fk}{K:ip}(L:fi)(hL:bw S L)(h:Ex c C st ⟨L,S.heap⟩ K X):Ex c C st S K X :=
 ei (fu.forget L hL.at) h
theorem oP {t u value:Expr}{K:ip}(h:Ev c C value S (λv Z=>xc c C t v Z (λaF=>xc c C u v aF (λaY=>K .next aY) X) X) X)
 (hw:swappedStores [t,u] value C.env=pure none:=by rfl) (hp:assignEach [t,u] C.env=[(false,assign t C.env),(false,assign u C.env)]:=by rfl):nH c C (.Assign [t,u] value pos) S K X:=by
 intro A F bs s hA z;show WP c C A (jH c) (do
  standAt pos
  if <-swapsWithSole [t,u] value pos.line C.env then do
   evalThenUse value C.env λv=>assignAll v ((assignEach [t,u] C.env).map (·.2))
   pure .next
  else do
   let v <-eval value C.env
   assignStores C.env v (<-swappedStores [t,u] value C.env) ((assignEach [t,u] C.env).map (·.2))) F bs s K X
 refine (aq (show swapsWithSole [t,u] value pos.line C.env=pure false from rfl))▸(aq hw)▸(aq hp)▸?_;refine WP.standAt ?_;refine WP.bind (R:=λ_ _ (_:Unit) b=>b=false) (K₁:=λzz S'=>S'=S) (WP.pure (v:=()) z rfl rfl) λF₁ bs₁ Z O zz b al an hb tV=>?_;clear z;subst hb tV;refine WP.bind (h A F₁ bs₁ O hA an) λaX ap aF ac v r am aJ hv k₂=>?_;refine WP.bind (R:=λ_ _ (_:Unit) b=>b=none) (K₁:=λzz S'=>S'=aF) (WP.pure (v:=()) aJ rfl rfl) λbi aK aY aP zz b aA a6 hb nM=>?_;clear aJ;subst hb nM;refine WP.bind (R:=λ_ _ (_:Unit) (_:Unit)=>True) (K₁:=λzz S'=>K .next S') ?_ λec ca co ch zz zz ce cr zz iZ=>WP.pure (v:=sz.next) cr rfl iZ;refine WP.bind (WP.holding (k₂ A bi aK aP r hA a6 (aA.V hv))) λec ca co ch zz zz ce cr zz iZ=>?_;exact iZ A ec ca ch r hA cr (ce.V (aA.V hv))
theorem JG {K:dC}(k:K (.bool (b.cps.toList < a.cps.toList)) S):jF c C (compareOp .Gt) (.str a) (.str b) S K X:=λA F bs s ra rb hA z ha hb=>by refine e1a0 ha.inv λzz o5=>?_;refine rE o5 ?_;refine e1a0 hb.inv λzz o4=>?_;refine rE o4 ?_;exact WP.kept z λQ E q=>PySem.P.gt_str (q _ _ (.refl ..) (ae _ (.bool _) k))
theorem kD {nx ni ne:Str}{q1 q2 q3 q4 q5 q6 q7 q8 q9:Pos}{kd:Nat}{K:ip}(kx ki ke:Nat){xv:AV}{l:ag}{x:Str}(L:Nat->fi){H:bg}(ht:gJ C)
 (hx:C.vars[kx]?=some nx) (hi:C.vars[ki]?=some ni) (he:C.vars[ke]?=some ne) (bd:bG C (λzz=>none) ni)
 (rS:cm ⟨[],H⟩ xv (l.map .str)) (Z8:∀i,(L i).lookup kx=some xv) (Fq:∀i,(L i).lookup ki=some (.int i)) (hle:∀i,(L i).lookup ke=some (.str x)) (Z9:∀i,bY (L i) ki (.int ((i:Nat)+1))=L (i+1))
 (i:Nat) (hS:S=⟨L i,H⟩) (Nu:i<=l.length) (hlen:l.length < 2 ^ 62)
 (uk:∀(K':dC),(l.drop i).dropWhile (·==x)=[]->jF c C getItem xv (.int l.length) ⟨L l.length,H⟩ K' X)
 (Nv:∀j,i<=j->j < l.length->l.drop j=(l.drop i).dropWhile (·==x)->K .next ⟨L j,H⟩)
 (d1:(nx==("__debug__":Str))=false:=by decide +kernel) (d2:(nx==("__classdict__":Str))=false:=by decide +kernel)
 (d3:(ni==("__debug__":Str))=false:=by decide +kernel) (d4:(ni==("__classdict__":Str))=false:=by decide +kernel)
 (d5:(ne==("__debug__":Str))=false:=by decide +kernel) (d6:(ne==("__classdict__":Str))=false:=by decide +kernel) :
 nH c C (.While (.Compare (.Subscript (.Name nx q1) (.Name ni q2) q3) [.Eq] [.Name ne q4] q5) [.AugAssign (.Name ni q6) .Add (.Constant (.int 1) kd q7) q8] [] q9) S K X:=by
 subst hS;obtain sq:∀lc,cm ⟨lc,H⟩ xv (l.map .str):=λlc=>rS;refine jh ht (λn S'=>∃j,S'=⟨L j,H⟩/\i<=j/\j<=l.length/\(l.drop j).dropWhile (·==x)=(l.drop i).dropWhile (·==x)/\n=l.length - j) (l.length - i) ⟨i,rfl,(bu _),Nu,rfl,rfl⟩ ?_;intro n S' o1;refine e1a4 o1 λj o2 h1 h2 h3 o3=>?_;clear o1;obtain rfl:=o2;obtain rfl:=o3;refine bh (cV (aa kx hx (Z8 j) (aa ki hi (Fq j) ⟨cI (sq _),?_⟩ d3 d4) d1 d2));by_cases hj:j < l.length
 . obtain hy:(l.map AV.str)[((j:Nat):Int).toNat]?=some (.str l[j]):=by simp only [Int.toNat_natCast,dw,cp hj];rfl
   refine eZ (sq _) gO (Int.ofNat_lt.mpr (hZ (cD h2 hlen) rfl)) hy (aa ke he (hle j) (lU (aT ?_)) d5 d6);have hd:l.drop j=l[j]::l.drop (j+1):=List.drop_eq_getElem_cons hj;cases hb:l[j]==x with
   | true =>
     refine ab (dd ki hi (Fq j) bd (bH (gy ?_)) d4);refine ax ⟨l.length - (j+1),Nat.sub_succ_lt_self _ _ hj,j+1,?_,th h1,jy hj,?_,rfl⟩
     . show (⟨bY (L j) ki _,H⟩:AS)=_;rw [Z9]
     . refine h3▸?_;rw [hd,List.dropWhile_cons,hb];rfl
   | false =>refine Nv j h1 hj ?_;refine h3▸?_;rw [hd,List.dropWhile_cons,hb];rfl
 . obtain e:j=l.length:=tK h2 hj;clear hj;subst e;refine uk _ ?_;refine h3▸?_;simp
end
theorem rX (t:SetTable)(n:Nat):(t.orStandIn n).led=t.led/\(t.plain=false->(t.orStandIn n).plain=false):=by
 delta SetTable.orStandIn
 split
 . exact ⟨rfl,λe=>e⟩
 . exact ⟨rfl,λzz=>rfl⟩
set_option tactic.hygienic true in
theorem xJ (t:SetTable)(es:Array (Int×Value))(h:Int)(x:Value):(layNew t es h x).2.1.led=t.led/\(t.plain=false->(layNew t es h x).2.1.plain=false):=by
 delta layNew
 split
 . rename_i slot wd _;obtain this:=rX (t.put slot).1 (SetTable.insertAt es (t.put slot).2 (h,x)).size;exact this
 . exact ⟨rfl,λ_=>rfl⟩
theorem xK {t t':SetTable}(h:t.relaid hs n=some (t',o)):t'.led=t.led/\t'.plain=t.plain:=by delta SetTable.relaid SetTable.laid at h;simp only [Option.bind_eq_bind,Option.bind_eq_some_iff] at h;obtain ⟨_,_,h⟩:=h;obtain ⟨rfl,Xa⟩:=Prod.mk.inj (bo h);exact ⟨rfl,rfl⟩
set_option tactic.hygienic true in
theorem uo (t:SetTable)(es:Array (Int×Value))(n:Nat):(relayAll t es n).2.1.led=t.led/\(t.plain=false->(relayAll t es n).2.1.plain=false):=by
 delta relayAll
 split
 . rename_i h;obtain this:=xK h;simp only
   split
   . exact ⟨this.1,λe=>this.2.trans e⟩
   . exact ⟨rfl,λ_=>rfl⟩
 . exact ⟨rfl,λ_=>rfl⟩
theorem nQ (h:StrsAre vs l):vs.length=l.length:=by
 induction h with
 | nil=>rfl
 | cons x t h ih=>simp [ih]
theorem pQ (p:vs.Perm us):∀{l:ag},StrsAre us l->∃l',StrsAre vs l'/\l'.Perm l:=by
 induction p with
 | nil=>intro l h;exact (ae l h (.refl _))
 | cons x p ih =>
   intro l h;cases h with
   | cons y t h=>refine e1a1 (ih h) λl' h1 h2=>?_;exact (ae _ (.cons y t h1) (h2.cons _))
 | swap x y l =>
   intro m h;cases h with
   | cons a t h=>cases h with
     | cons b u h=>exact (ae _ (.cons b u (.cons a t h)) (.swap a b _))
 | trans p q ih1 ih2 =>intro l h;refine e1a1 (ih2 h) λl' h1 h2=>?_;refine e1a1 (ih1 h1) λl'' h3 h4=>?_;exact (ae l'' h3 (h4.trans h2))
theorem DB (h:StrsAre vs l)(x:Str):(∃v∈vs,(sk prog w).is x v=true)↔x∈l:=by
 induction h with
 | nil=>simp
 | cons y t h ih =>
   simp only [List.mem_cons,exists_eq_or_imp,ih];obtain this:(sk prog w).is x (.str y t)=true↔x=y:=by
    constructor
    . intro q;exact (sk prog w).inj _ _ _ q (str_is y t)
    . rintro rfl;exact str_is _ _
   simp only [this]
section
variable {prog:Program}{w:World}{A:Around}{E:sA}{s:Shared}
theorem DC {h:Heap}(ho:h.get? a=some o)(hd:o.data=.set es ep t)(u7:Array (Int×Value))(t':SetTable) :
 (h.update a (Obj.putSet u7 t')).get? a=some {o with data:=.set u7 (ep+1) t'}:=by
 obtain this:=hK (Obj.putSet u7 t') ho (by refine rE (putSet_of u7 t' hd) ?_;rfl);rw [putSet_of u7 t' hd] at this;exact this
set_option tactic.hygienic true in
theorem Ak (hS:jD prog w s.heap a L)(DD:L.length+1 < scanBound)
 (h:∀h' b L',Heap.SameBut a s.heap h'->L'.Perm (if x∈L then L else L++[x])->jD prog w h' a L'->Q b {s with heap:=h'}) :
 wpAny (model prog w) A (setAddHashed a (.str x tk) ((sk prog w).hash x)) Q E s:=by
 obtain ⟨o,es,ep,t,ho,hex,hd,Nw,bd,Ch,hb,hf,DE,pc⟩:=hS;obtain hlen:es.size=L.length:=by obtain this:=nQ bd;simpa using this
 obtain hkey:(sk prog w).is x (.str x tk)=true:=str_is x tk;obtain oK:(Value.str x tk).scannable=true:=rfl;refine wpAny_holding (ah (wpAny_setState_of ho hd hf ?_));dsimp only;rw [byScan_of oK hb Nw];refine ah ?_;refine ah (wpAny_rule ?_);refine ah (wpAny_setScan_of hkey ho hd hf Nw ?_);cases hr:List.findIdx? (λe=>(sk prog w).is x e.2) es.toList with
 | some j =>refine e1a1 (List.findIdx?_eq_some_iff_getElem.mp hr) λhj hpj _=>?_;obtain hx:x∈L:=(DB (prog:=prog) (w:=w) bd x).mp (ae _ (dm (ae _ (List.getElem_mem hj) rfl)) hpj);refine aM (aM ?_);refine h s.heap _ L (Heap.SameBut.refl a s.heap) (by rw [if_pos hx]) ⟨o,es,ep,t,ho,hex,hd,Nw,bd,Ch,hb,hf,DE,pc⟩
 | none =>
   have hx:x∉L:=λm=>by refine e1a1 ((DB (prog:=prog) (w:=w) bd x).mpr m) λv hv q=>?_;refine e1a1 (dS hv) λe he o1=>?_;clear hv;obtain rfl:=o1;obtain this:=List.findIdx?_eq_none_iff.mp hr e he;rw [q] at this;exact Bool.noConfusion this
   have Xb:∀(b:Bool) {O:Shared} {Q':Unit->mq},Q' () O->wpAny (model prog w) A (match b with | true=>rule "set.scan.the-table-gave-way" | false=>pure ()) Q' E O :=
    λb O Q' hq=>by cases b <;> first | exact aM hq | exact wpAny_rule hq
   obtain oQ:=layNew_perm t es ((sk prog w).hash x) (.str x tk);obtain zs:=layNew_fits t es ((sk prog w).hash x) (.str x tk);obtain JH:=xJ t es ((sk prog w).hash x) (.str x tk);generalize hL:layNew t es ((sk prog w).hash x) (.str x tk)=Ly at oQ zs JH ⊢;obtain ⟨qD,t1,DF,aaa⟩:=Ly;dsimp only at oQ zs JH ⊢;rw [Array.toList_push] at oQ;obtain Nx:ElemsOf (sk prog w) qD.toList:=(Nw.push hkey oK).perm oQ;obtain SQ:StrsAre ((es.toList++[((sk prog w).hash x,Value.str x tk)]).map (·.2)) (L++[x]):=by
    obtain this:∀{vs:iy} {l:ag},StrsAre vs l->StrsAre (vs++[.str x tk]) (l++[x]):=by
     intro vs l q;induction q with
     | nil=>exact .cons x tk .nil
     | cons y u q ih=>exact .cons y u ih
    simpa using this bd
   refine e1a1 (pQ (oQ.map (·.2)) SQ) λL1 xL Ft=>?_;have Ny:L1.Nodup:=(Ft.nodup_iff).mpr (by rw [List.nodup_append];exact (aG Ch (by simp) (λu hu v hv=>by rw [bp hv];exact λq=>hx (q▸hu))));obtain SS:qD.size=L.length+1:=by rw [<-Array.length_toList,oQ.length_eq,List.length_append,Array.length_toList,hlen];rfl
   have fB:qD.size < scanBound:=by rw [SS];exact DD
   refine ah (Xb _ ?_);have done:∀(t2:SetTable),t2.fits qD.size=true->t2.led=t.led->t2.plain=false->wpAny (model prog w) A (do
    storeSet a qD t2
    if (!DF&&t2.tooFull)=true then do
     (match (relayAll t2 qD (SetTable.grown qD.size)).2.2 with | true=>rule "set.scan.the-table-gave-way" | false=>pure ())
     storeSet a (relayAll t2 qD (SetTable.grown qD.size)).1 (relayAll t2 qD (SetTable.grown qD.size)).2.1
     pure (some true)
     else pure (some true)) (λr s'=>∃h' L',s'={s with heap:=h'}/\r=some true/\Heap.SameBut a s.heap h'/\L'.Perm (L++[x])/\jD prog w h' a L') E s:=by
    intro t2 PM zv Ld;refine ah (wpAny_storeSet_of ho hd ?_ (fits_of_scanBound fB));obtain ST:=DC ho hd qD t2;obtain Nz:=Heap.SameBut.update s.heap a (Obj.putSet qD t2)
    split
    . obtain hp:=relayAll_perm t2 qD (SetTable.grown qD.size);obtain jp:=relayAll_fits t2 qD (SetTable.grown qD.size);obtain ul:=uo t2 qD (SetTable.grown qD.size);generalize hRl:relayAll t2 qD (SetTable.grown qD.size)=Rl at hp jp ul ⊢;obtain ⟨SU,t3,Xc⟩:=Rl;dsimp only at hp jp ul ⊢;obtain hsz:SU.size=qD.size:=by rw [<-Array.length_toList,hp.length_eq,Array.length_toList]
      refine e1a1 (pQ (hp.map (·.2)) xL) λL2 DG NA=>?_;refine ah (Xb _ ?_);refine ah (wpAny_storeSet_of ST rfl ?_ (fits_of_scanBound (by rw [hsz];exact fB)));obtain ho2:=DC ST rfl SU t3;exact aM ⟨_,L2,rfl,rfl,(Nz.trans (Heap.SameBut.update _ a _)),(NA.trans Ft),⟨_,SU,_,t3,ho2,hex,rfl,Nx.perm hp,DG,(NA.nodup_iff).mpr Ny,by rw [hsz];exact fB,jp,ul.1.trans (zv.trans DE),λ_=>ul.2 Ld⟩⟩
    . exact aM ⟨_,L1,rfl,rfl,Nz,Ft,⟨_,qD,_,t2,ST,hex,rfl,Nx,xL,Ny,fB,PM,zv.trans DE,λ_=>Ld⟩⟩
   split
   . refine ah ?_;refine aM ?_;refine aQ (done {t1 with plain:=false} (SetTable.fits_plain_off zs) JH.1 rfl) (λr s' ⟨h',L',e1,e2,e3,e4,e5⟩=>?_) (λ_ _ q=>q);subst e1 e2;exact aM (h h' _ L' e3 (by rw [if_neg hx];exact e4) e5)
   . rename_i hp;refine ah (aM ?_);refine aQ (done t1 zs JH.1 (by simpa using hp)) (λr s' ⟨h',L',e1,e2,e3,e4,e5⟩=>?_) (λ_ _ q=>q);subst e1 e2;exact aM (h h' _ L' e3 (by rw [if_neg hx];exact e4) e5)
end
def qE (L ns:ag):Prop:=L.Nodup/\∀x,x∈L↔x∈ns
section
variable {prog:Program}{w:World}{A:Around}{E:sA}{s:Shared}
theorem jD.at_ (x:jD prog w h a L)(k:∀o,h.get? a=some o->h'.get? a=some o):jD prog w h' a L:=by obtain ⟨o,es,ep,t,ho,r⟩:=x;exact ⟨o,es,ep,t,k o ho,r⟩
theorem NB (h:StrsAre vs ns)(i:Nat)(v:Value)(e:vs[i]?=some v):∃x t,ns[i]?=some x/\v=.str x t:=by
 induction h generalizing i with
 | nil=>exact bE e
 | cons x t r ih =>
   cases i with
   | zero=>exact (eO x t rfl ((bo e).symm))
   | succ i=>exact ih i e
set_option tactic.hygienic true in
theorem setLoop {G:Array GenState->Array GenState->Prop}{St:Nat->mq}(W:WalksS prog w A.in1 I fp wr G n P St)(S:Addr)(PN:S∉fp)
 (ns:ag) (hn:ns.length=n) (SW:∀i v,P i v->∃x t,ns[i]?=some x/\v=.str x t) (hb:n+1 < scanBound) :
 ∀(k i:Nat) (s:Shared) (L:ag),n - i=k->i<=n->St i s->jD prog w s.heap S L->qE L (ns.take i) ->
  (∀s' L',Moved (S::wr) G s s'->jD prog w s'.heap S L'->qE L' ns->R (.ok (.ret .none)) s') ->
  codeAny (model prog w) A (.builtin "set.update.loop" ⟨[.ref S,.ref I],[]⟩) R s:=by
 obtain Xd:S∉wr:=λh=>PN (W.sub _ h);obtain gK:∀b∈wr,b∈S::wr:=λb hb=>List.mem_cons_of_mem _ hb;intro k;induction k with
 | zero =>intro i s L hk hi bd hS hL hR;obtain ue:i=n:=Nat.le_antisymm hi (Nat.le_of_sub_eq_zero hk);subst ue;refine codeAny_builtin F.entry_set_update_loop ?_;refine ah (W.done s _ _ bd λs' hm=>?_);exact aM (hR s' L (hm.mono gK) (hS.at_ λo e=>hm.heap S _ Xd e) (by rw [<-hn,List.take_length] at hL;exact hL))
 | succ k ih =>
   intro i s L hk hi bd hS hL hR;obtain eX:i < n:=Nat.lt_of_sub_eq_succ hk;refine codeAny_builtin F.entry_set_update_loop ?_;refine ah (W.item i s _ _ eX bd λv s' hP im hm=>?_);refine e2a1 (SW i v hP) λx t hx o3=>?_;refine o3▸?_;obtain Al:jD prog w s'.heap S L:=hS.at_ λo e=>hm.heap S _ Xd e;refine ah (wpAny_holding ?_);refine wpAny_holding ?_;refine ah ((sk prog w).pyHash (k:=x) (str_is x t) ?_);obtain DD:L.length+1 < scanBound:=by obtain this:L.length<=(ns.take i).length:=hL.1.length_le_of_subset (λy hy=>(hL.2 y).mp hy);simp at this;exact Cv hb hn this
   refine Ak (s:={s' with toks:=s'.toks+1}) Al DD λh' b L' Fu hp NC=>?_;obtain rN:qE L' (ns.take (i+1)):=by
    obtain ht:ns.take (i+1)=ns.take i++[x]:=by rw [List.take_add_one,hx];rfl
    refine ⟨(hp.nodup_iff).mpr ?_,λy=>?_⟩
    . split
      . exact hL.1
      . rename_i q;rw [List.nodup_append];exact (aG hL.1 (by simp) (λu hu v hv=>by rw [bp hv];exact λz=>q (z▸hu)))
    . rw [hp.mem_iff,ht,List.mem_append,List.mem_singleton,<-hL.2 y]
      split
      . rename_i q;exact ⟨.inl,λz=>z.elim id λe=>e▸q⟩
      . simp
   refine aM ⟨plainId_quiet F.plain_set_update_loop _,ih (i+1) _ L' (congrArg Nat.pred hk) eX (W.frame _ s' _ _ im (Nat.le_succ _) λb hb o e=>?_) NC rN λjf QM SX SY Du=>?_⟩
   . rw [Fu.2 b (λh:b=S=>PN (by rw [<-h];exact hb))];exact e
   . refine hR jf QM (Moved.trans W.gtrans ((hm.mono gK).then_heap (Nat.le_succ _) λb o hb e=>?_) SX) SY Du;rw [Fu.2 b (λh:b=S=>hb (by rw [h];exact List.mem_cons_self))];exact e
noncomputable abbrev dH (w:World):Obj:={cls:=.type "set",dict:=none,data:=.set #[] 0 (.fresh 0 0 (!tT w))}
theorem xM (ho:h.get? a=some (dH w)):jD prog w h a [] :=
 ⟨_,#[],0,_,ho,(aG rfl rfl rfl),rfl,λe he=>by simp at he,.nil,by simp,Nat.le_of_ble_eq_true rfl,rfl,rfl,λq=>absurd rfl q⟩
theorem we (a:Value)(h:Q₁ (.ref s.heap.objs.size) {s with heap:=s.heap.push (dH w)}) :
 codeAny (model prog w) A (.call (.builtin "set.__new__") ⟨[.type "set",a],[]⟩) (wants Q₁ E) s:=by
 refine codeAny_of_tree ?_;refine ah (wpAny_of_eq (F.newCall_set_1 a) (aM ⟨plainId_quiet F.plain_set_new _,codeAny_builtin F.entry_set_new ?_⟩));obtain gK:=sub_set_self
 wp_walk
 refine wpAny_askSetting (aM ?_);refine ah (wpAny_alloc (aM ?_));exact aM h
set_option maxHeartbeats 3200000 in
theorem Am
 (hh:A.handled=none) (hl:s.heap.IsList l items) (hi:StrsAre items.toList ns) (hb:items.size+1 < scanBound)
 (h:∀(h':Heap) (tk:Nat) (L:ag),jD prog w h' s.heap.objs.size L->qE L ns ->
  (∀b o,b < s.heap.objs.size->s.heap.get? b=some o->h'.get? b=some o)->Q (.ref s.heap.objs.size) {s with heap:=h',toks:=tk}) :
 wpAny (model prog w) A (call (.type "set") [.ref l]) Q E s:=by
 refine e2a0 F.called_set.mro λc tl aab=>?_;have Xe:=F.called_set.made;have gK:=F.called_set.sub;refine wpAny_call (codeAny_of_tree ?_);show wpAny _ _ (callAny (.type "set") _) _ _ _;refine aM ⟨Code.quiet_builtin _ (by decide +kernel),codeAny_builtin F.entry_type_call ?_⟩;rw [Around.under_plain (weight_type_call_type "set" [.ref l] []) rfl];have h1:=F.called_set.notType;have h2:=F.called_set.canCreate;have hct:=F.typeCall_set_1 (.ref l)
 repeat (any_goals (first | assumption | wp_step))
 refine codeAny_mono (we (.ref l) (E:=E) (Q₁:=λobj O=>obj=.ref s.heap.objs.size/\O={s with heap:=s.heap.push (dH w)}) ⟨rfl,rfl⟩) λr O hr=>?_;cases r with
 | error e=>exact hr
 | ok fl =>
   cases fl with
   | ret obj =>
     refine e0a1 hr λo1 o2=>?_;clear hr;obtain rfl:=o1;obtain rfl:=o2;have hS:(s.heap.push (dH w)).get? s.heap.objs.size=some (dH w):=cT _ rfl;have hT:Shared.TypeIs {s with heap:=s.heap.push (dH w)} (.ref s.heap.objs.size) "set":=(ae _ hS rfl)
     have Fq:=F.called_set.init.lookup;have hbi:=F.called_set.init.bind (.ref s.heap.objs.size)
     repeat (any_goals (first | assumption | wp_step))
     refine codeAny_mono (codeAny_call_builtin (R:=wants (λr ac=>r=.none/\∃h' tk L,ac={s with heap:=h',toks:=tk}/\jD prog w h' s.heap.objs.size L/\qE L ns /\
      (∀b o,b < s.heap.objs.size->s.heap.get? b=some o->h'.get? b=some o)) E) F.called_set.init.plain F.entry_set_init (check_set_init_1 hT ?_)) λSZ ac m6=>?_
     . obtain ⟨ol,PO,dZ,nl,Gk⟩:=hl;obtain ⟨aac,ND,Xf,JI⟩:=ol;simp only at dZ Gk;subst dZ;subst Gk;have S0:(s.heap.push (dH w)).get? l=some {cls:=.type "list",dict:=ND,data:=.seq items nl,slots:=JI}:=bU _ PO;have aad:=F.sub_list_set;have aae:=F.sub_list_frozenset;have ge:(Value.type "list"==Value.type "dict")=false:=by decide
       have JH:(s.heap.push (dH w)).IsList l items:=(dh _ S0 rfl nl rfl)
       unfold Builtin.«set.__init__» noKeywords Builtin.Frozenset.updateFrom;generalize hPI:pyIter=PI
       wp_walk
       subst hPI;refine wpAny_pyIter_list JH ?_;refine ah (wpAny_runValue ?_);have Xg:l < s.heap.objs.size:=Heap.lt_size PO;have hh3:A.in1.in1.in1.handled=none:=by simp [hh]
       have S8:l≠(s.heap.push (dH w)).objs.size:=by rw [fh];exact bS (Nat.lt_succ_of_lt Xg)
       have PN:s.heap.objs.size∉[(s.heap.push (dH w)).objs.size,l]:=by rw [fh];simp only [List.mem_cons,List.mem_singleton,List.not_mem_nil,or_false,not_or];exact ⟨bS (Nat.lt_succ_self _),dk Xg⟩
       refine setLoop ((Walks.list hh3 _ l S8 items).toS) s.heap.objs.size
        PN ns (by have:=nQ hi;simpa using this.symm) (λi v hv=>NB hi i v (by rw [Array.getElem?_toList];exact hv)) hb (items.size - 0) 0 _ [] rfl (Nat.zero_le _)
        ⟨(aH _ (cT _ rfl) rfl rfl),(JH.push _)⟩ (xM (bU _ hS)) ⟨by simp,by simp⟩ ?hR
       case hR =>
        intro s' L' hm Al rN;obtain ⟨h',g',d',Gl,os'⟩:=s';have eg:g'=s.gens:=hm.gens;have ed:d'=s.drawn:=hm.drawn;have eo:os'=s.os:=hm.os;subst eg;subst ed;subst eo;show wpAny _ _ _ _ _ _;refine aM ?_;show wpAny _ _ (ret Value.none) _ _ _;refine aM ⟨rfl,h',Gl,L',rfl,Al,rN,(λb o hb e=>?_)⟩;have fB:b≠s.heap.objs.size:=bS hb;have lp:b≠(s.heap.push (dH w)).objs.size:=by rw [fh];exact bS (Nat.lt_succ_of_lt hb)
        exact hm.heap b o (by simp only [List.mem_cons,List.mem_singleton,List.not_mem_nil,or_false,not_or];exact ⟨fB,lp⟩) (bU _ (bU _ e))
     . cases SZ with
       | error e=>exact m6
       | ok NE =>
         cases NE with
         | ret r =>
           obtain ⟨rfl,h',tk,L',rfl,Al,rN,lS⟩:=m6
           repeat (any_goals (first | assumption | wp_step))
           exact h _ _ _ Al rN lS
         | _=>exact m6.elim
   | _=>exact hr.elim
end
theorem slot_set_iter:Slot "set" "__iter__" "set.__iter__" :=
 .of (owner:="set") (n:="__iter__") (rfl) (rfl) (rfl) (rfl)
  (by first | exact .inl (rfl) | exact .inr (rfl)) (rfl)
theorem qF:entryFor table "set.__iter__"=some Builtin.«frozenset.__iter__»:=entryFor_alias (id':="frozenset.__iter__") (by kernel_rfl) rfl (by decide +kernel) (by kernel_rfl)
theorem rY (a:Value):argsOk "set.__iter__" ⟨[a],[]⟩:=by unfold argsOk;kernel_rfl
theorem bR:Slot "set_iterator" "__next__" "set_iterator.__next__" :=
 .of (owner:="set_iterator") (n:="__next__") (rfl) (rfl) (rfl) (rfl)
  (by first | exact .inl (rfl) | exact .inr (rfl)) (rfl)
theorem eC:entryFor table "set_iterator.__next__"=some Builtin.«set_iterator.__next__»:=entryFor_of_tree (by kernel_rfl)
theorem fb (a:Value):argsOk "set_iterator.__next__" ⟨[a],[]⟩:=by unfold argsOk;kernel_rfl
noncomputable def nc (first:Value)(i n:Nat)(a:Addr)(ep:Nat):Obj:={cls:=.type "set_iterator",data:=.fields #[first,rawInt i,.ref a,rawInt n,rawInt ep]}
def g9 (h:Heap)(a:Addr)(es:Array (Int×Value))(ep:Nat)(t:SetTable):Prop:=∃o,h.get? a=some o/\o.cls=.type "set"/\o.data=.set es ep t/\t.fits es.size=true
theorem g9.to (x:g9 h a es ep t)(k:∀o,h.get? a=some o->h'.get? a=some o):g9 h' a es ep t:=by refine e1a1 x λo e r=>?_;exact (ae o (k o e) r)
section
variable {prog:Program}{w:World}{A:Around}{E:sA}{s:Shared}
theorem fx (x:g9 s.heap a es ep t)(h:Q (es,ep,t) s):wpAny (model prog w) A (setState a) Q E s:=by refine e1a3 x λo e zz hd hf=>?_;exact wpAny_setState_of e hd hf h
theorem eT (x:g9 s.heap a es ep t)(h:Q es s):wpAny (model prog w) A (setEntries a) Q E s:=by refine e1a3 x λo e zz hd hf=>?_;exact wpAny_setEntries_of e hd hf h
theorem lq (h:Q (tT w) s):wpAny (model prog w) A setsByText Q E s:=by
 skip;exact ah (wpAny_askSetting (aM h))
theorem nR {i p:Nat}(hI:s.heap.get? I=some (nc (.ref T) i es.size a ep))(ha:g9 s.heap a es ep t)
 (S9:s.heap.IsTuple T places) (hp:places[i]?=some (rawInt p)) (he:es[p]?=some (hx,x))
 (hQ:∀h',Heap.SameBut I s.heap h'->h'.get? I=some (nc (.ref T) (i+1) es.size a ep)->Q (some x) {s with heap:=h'}):wpAny (model prog w) A (pyNext (.ref I)) Q E s:=by
 obtain hT:s.TypeIs (.ref I) "set_iterator":=(ae _ hI rfl)
 refine ah (wpAny_attempt (wpAny_callSpecial?_slot (name:=Str.ofString "__next__") hT bR
  (wpAny_call_entry bR hT eC ?_ (fb _))))
 show wpAny _ _ (fieldsOf (.ref I) >>= _) _ _ s;refine ah (wpAny_fieldsOf hI rfl ?_);dsimp only [rawInt];refine ah (eT ha ?_);have e1:(((es.size:Nat):Int) != ((es.size:Nat):Int))=false:=by simp
 simp only [e1,dQ,if_false,Int.toNat_natCast];obtain ⟨oT,Ta,_,nT,Tc⟩:=S9;refine ah (wpAny_seqItems Ta Tc ?_);simp only [hp,rawInt,Int.toNat_natCast];refine ah ?_;refine ah (fx ha ?_);simp only [bne_self_eq_false,dQ,if_false,he];refine aM ?_;refine ah (wpAny_setField hI rfl (by simp) (aM (ae x rfl (aM (hQ _ (Heap.SameBut.update ..) ?_)))));refine rE (hK _ hI (Obj.isFreed_of_fields (Obj.data_mapFields rfl _))) ?_;rfl
theorem pq (hh:A.handled=none)(hI:s.heap.get? I=some (nc (.ref T) i es.size a ep))(ha:g9 s.heap a es ep t)
 (S9:s.heap.IsTuple T places) (hp:places[i]?=none)
 (hQ:∀h',(∀b o,b≠I->s.heap.get? b=some o->h'.get? b=some o)->Q none {s with heap:=h'}):wpAny (model prog w) A (pyNext (.ref I)) Q E s:=by
 obtain hT:s.TypeIs (.ref I) "set_iterator":=(ae _ hI rfl)
 refine ah (wpAny_attempt (wpAny_callSpecial?_slot (name:=Str.ofString "__next__") hT bR
  (wpAny_call_entry bR hT eC ?_ (fb _))))
 show wpAny _ _ (fieldsOf (.ref I) >>= _) _ _ s;refine ah (wpAny_fieldsOf hI rfl ?_);dsimp only [rawInt];refine ah (eT ha ?_);obtain e1:(((es.size:Nat):Int) != ((es.size:Nat):Int))=false:=by simp
 simp only [e1,dQ,if_false,Int.toNat_natCast];obtain ⟨oT,Ta,_,nT,Tc⟩:=S9;refine ah (wpAny_seqItems Ta Tc ?_);simp only [hp];refine ah (wpAny_setField hI rfl (by simp) ?_);obtain PP:=hK (Obj.mapFields (·.setIfInBounds 0 (Value.int 0 0))) hI (Obj.isFreed_of_fields (Obj.data_mapFields rfl _));refine ah (wpAny_setField PP (Obj.data_mapFields rfl _) (by simp) ?_);refine ah ?_;simp only [newExc,newTuple];refine ah (wpAny_newObj_type ?_ (by size_fits));refine ah (m:=firstArgMember _ _) (wpAny_of_eq (a:=Value.none) (by first | rfl | (rfl;rfl)) ?_);refine wpAny_newObj_type ?_ (by size_fits);refine ah (wpAny_handled ?_);refine rE (show A.in1.handled=none from hh) ?_;refine ah (aM (wpAny_throw ?_));refine ah (wpAny_isInstance (T:="StopIteration") (b:=true) (ae _ (cT _ rfl) rfl) isSubtype_stop ?_);refine aM (hQ _ ?_);exact λb o hb e=>bU _ (bU _ (by rw [Heap.get?_update_ne _ _ _ _ hb,Heap.get?_update_ne _ _ _ _ hb];exact e))
theorem nS {i j nxt:Nat}(hI:s.heap.get? I=some (nc (rawInt j) i es.size a ep))(ha:g9 s.heap a es ep t)
 (hn:∀(s':Shared) (Q':Option (Value×Nat)->mq) (E':sA),g9 s'.heap a es ep t->Q' (some (x,nxt)) s'->wpAny (model prog w) A.in1 (setNext a j i ep) Q' E' s')
 (hQ:∀h',Heap.SameBut I s.heap h'->h'.get? I=some (nc (rawInt nxt) (i+1) es.size a ep)->Q (some x) {s with heap:=h'}):wpAny (model prog w) A (pyNext (.ref I)) Q E s:=by
 obtain hT:s.TypeIs (.ref I) "set_iterator":=(ae _ hI rfl)
 refine ah (wpAny_attempt (wpAny_callSpecial?_slot (name:=Str.ofString "__next__") hT bR
  (wpAny_call_entry bR hT eC ?_ (fb _))))
 show wpAny _ _ (fieldsOf (.ref I) >>= _) _ _ s;refine ah (wpAny_fieldsOf hI rfl ?_);dsimp only [rawInt];refine ah (eT ha ?_);have e1:(((es.size:Nat):Int) != ((es.size:Nat):Int))=false:=by simp
 simp only [e1,dQ,if_false,Int.toNat_natCast];refine ah (hn s _ _ ha ?_);refine ah (wpAny_setField hI rfl (by simp) ?_);obtain PP:=hK (Obj.mapFields (·.setIfInBounds 0 (Value.int (nxt:Int) 0))) hI (Obj.isFreed_of_fields (Obj.data_mapFields rfl _));refine ah (wpAny_setField PP (Obj.data_mapFields rfl _) (by simp) (aM (ae x rfl (aM (hQ _ ((Heap.SameBut.update ..).trans (Heap.SameBut.update ..)) ?_)))));refine rE (hK _ PP (Obj.isFreed_of_fields (Obj.data_mapFields (Obj.data_mapFields rfl _) _))) ?_;rfl
theorem pv {i j:Nat}(hh:A.handled=none)(hI:s.heap.get? I=some (nc (rawInt j) i es.size a ep))(ha:g9 s.heap a es ep t)
 (hn:∀(s':Shared) (Q':Option (Value×Nat)->mq) (E':sA),g9 s'.heap a es ep t->Q' none s'->wpAny (model prog w) A.in1 (setNext a j i ep) Q' E' s')
 (hQ:∀h',(∀b o,b≠I->s.heap.get? b=some o->h'.get? b=some o)->Q none {s with heap:=h'}):wpAny (model prog w) A (pyNext (.ref I)) Q E s:=by
 obtain hT:s.TypeIs (.ref I) "set_iterator":=(ae _ hI rfl)
 refine ah (wpAny_attempt (wpAny_callSpecial?_slot (name:=Str.ofString "__next__") hT bR
  (wpAny_call_entry bR hT eC ?_ (fb _))))
 show wpAny _ _ (fieldsOf (.ref I) >>= _) _ _ s;refine ah (wpAny_fieldsOf hI rfl ?_);dsimp only [rawInt];refine ah (eT ha ?_);obtain e1:(((es.size:Nat):Int) != ((es.size:Nat):Int))=false:=by simp
 simp only [e1,dQ,if_false,Int.toNat_natCast];refine ah (hn s _ _ ha ?_);refine ah (wpAny_setField hI rfl (by simp) ?_);refine ah ?_;refine ah (wpAny_newObj_type ?_ (by size_fits));refine ah (m:=firstArgMember _ _) (wpAny_of_eq (a:=Value.none) (by first | rfl | (rfl;rfl)) ?_);refine wpAny_newObj_type ?_ (by size_fits);refine ah (wpAny_handled ?_);refine rE (show A.in1.handled=none from hh) ?_;refine ah (aM (wpAny_throw ?_));refine ah (wpAny_isInstance (T:="StopIteration") (b:=true) (ae _ (cT _ rfl) rfl) isSubtype_stop ?_);refine aM (hQ _ ?_);exact λb o hb e=>bU _ (bU _ (by rw [Heap.get?_update_ne _ _ _ _ hb];exact e))
end
theorem l4 {α:Type}:∀(l:List α) (i:Nat) (h:i < l.length),(l[i]::l.eraseIdx i).Perm l
 | x::l,0,_=>by rfl
 | x::l,i+1,h=>by exact (List.Perm.swap _ _ _).trans ((l4 l i (by simpa using h)).cons x)
theorem wg (f:Nat->Nat):∀(n k:Nat) (l:List α) (out:Array α),l.length=n->(pickOrder.go f n k l out).toList.Perm (out.toList++l):=by
 intro n;induction n with
 | zero =>intro k l out h;obtain this:l=[]:=List.length_eq_zero_iff.mp h;refine rE this ?_;simp [pickOrder.go]
 | succ n ih =>intro k l out h;obtain eX:f k % l.length < l.length:=Nat.mod_lt _ (h▸Nat.succ_pos _);dsimp only [pickOrder.go];simp only [cp eX];refine (ih (k+1) _ _ (by refine rE (List.length_eraseIdx_of_lt eX) ?_;exact aq h▸rfl)).trans ?_;simp only [Array.toList_push,List.append_assoc];exact List.Perm.append_left _ (l4 _ _ eX)
theorem An (f:Nat->Nat)(xs:Array α):(pickOrder f xs).toList.Perm xs.toList:=by unfold pickOrder;have:=wg f xs.size 0 xs.toList #[] (by simp);simpa using this
section
variable {prog:Program}{w:World}{A:Around}{E:sA}{s:Shared}
theorem uq (n:Nat)(xs:fj)(s:Shared)(Q:fj->mq)(hl:xs.length=n)
 (h:∀l d,l.Perm xs->Q l {s with drawn:=d}):wpAny (model prog w) A (drawOrder n xs) Q E s:=by
 induction n generalizing xs s Q with
 | zero =>obtain rfl:=List.length_eq_zero_iff.mp hl;exact aM (h [] s.drawn (.refl _))
 | succ n ih =>
   cases xs with
   | nil=>exact absurd hl (Nat.succ_ne_zero _).symm
   | cons x xs =>
     refine ah ?_;intro Γ p Xh;refine ⟨Nat.succ_ne_zero _,?_⟩;generalize hi:(model prog w).w.draws .order (s.drawn.get .order) % (x::xs).length=i;obtain eX:i < (x::xs).length:=by refine hi▸?_;exact Nat.mod_lt _ (Nat.succ_pos _)
     rw [Sem.wp_pure];dsimp only;refine rE (cp eX) ?_;refine ah (ih ((x::xs).eraseIdx i) _ _ (by refine (aq (List.length_eraseIdx_of_lt eX))▸(aq hl)▸?_;rfl) λl d hp=>aM ?_);exact h _ d ((hp.cons _).trans (l4 _ _ eX))
theorem j0:Slot "set_iterator" "__iter__" "set_iterator.__iter__" :=
 .of (owner:="set_iterator") (n:="__iter__") (rfl) (rfl) (rfl) (rfl)
  (by first | exact .inl (rfl) | exact .inr (rfl)) (rfl)
theorem nU:entryFor table "set_iterator.__iter__"=some Builtin.«dict_keyiterator.__iter__» :=
 entryFor_alias (id':="dict_keyiterator.__iter__") (by kernel_rfl) rfl (by decide +kernel) (by kernel_rfl)
theorem pw (a:Value):argsOk "set_iterator.__iter__" ⟨[a],[]⟩:=by unfold argsOk;kernel_rfl
theorem nf (hT:s.TypeIs (.ref I) "set_iterator")(h:Q (.ref I) s):wpAny (model prog w) A (pyIter (.ref I)) Q E s:=by refine wpAny_pyIter_slot hT j0 (wpAny_call_entry j0 hT nU ?_ (pw _));exact aM ⟨_,rfl,("set_iterator"),_,hT,bR.lookup,h⟩
theorem xN {ord:fj}(hn:es.size=n)(Td:a≠I)(hTI:T≠I)(hp:ord.Perm (List.range es.size))(hh:A.handled=none) :
 Walks prog w A I [I,a,T] [I] n (λi v=>(ord.map λp=>(es[p]?.map (·.2)).getD .none)[i]?=some v) (λi h=>h.get? I=some (nc (.ref T) i es.size a ep)/\g9 h a es ep t/\h.IsTuple T (ord.map λ(p:Nat)=>rawInt p).toArray):=by
 have hlen:ord.length=n:=by exact (aq hp.length_eq)▸(aq List.length_range)▸(aq hn)▸rfl
 refine ⟨λb hb=>?_,λi h h' st hk=>?_,λi s Q E hi st hQ=>?_,λs Q E st hQ=>?_,λi s Q E st hQ=>?_⟩
 . simp only [bp hb];exact .head _
 . exact (aG (hk I (by simp) _ st.1) (st.2.1.to λo e=>hk a (by simp) o e) (e1a1 st.2.2 λo e r=>(ae o (hk T (by simp) o e) r)))
 . obtain i3:i < ord.length:=iW hi hlen;have hm:ord[i] < es.size:=by obtain this:=hp.mem_iff.mp (List.getElem_mem i3);simpa using this
   refine nR (p:=ord[i]) (x:=es[ord[i]].2) (hx:=es[ord[i]].1) st.1 st.2.1 st.2.2 (by simp [i3]) (by rw [Array.getElem?_eq_getElem hm]) λh' db Ao=>?_;refine hQ _ h' s.toks (by simp [i3,hm]) (aG Ao (st.2.1.to λo e=>(db.2 a Td).trans e) ?_) λb o hb e=>(db.2 b (λq=>hb (by simp [q]))).trans e;refine e1a1 st.2.2 λo e r=>?_;exact (ae o ((db.2 T hTI).trans e) r)
 . exact pq hh st.1 st.2.1 st.2.2 (by simp [hlen]) λh' hk=>hQ h' s.toks λb o hb e=>hk b o (λq=>hb (by simp [q])) e
 . exact nf (ae _ st.1 rfl) hQ
theorem qG {vs:iy}(slot:Nat->Nat)(Td:a≠I)(hn:es.size=n)(hv:vs.length=n)(hh:A.handled=none)
 (HD:∀(A:Around) (i:Nat) (s':Shared) (Q':Option (Value×Nat)->mq) (E':sA),i<=n->g9 s'.heap a es ep t->(∀x,vs[i]?=some x->Q' (some (x,slot (i+1))) s')->(vs[i]?=none->Q' none s')->wpAny (model prog w) A (setNext a (slot i) i ep) Q' E' s') :
 Walks prog w A I [I,a] [I] n (λi v=>vs[i]?=some v) (λi h=>h.get? I=some (nc (rawInt (slot i)) i es.size a ep)/\g9 h a es ep t):=by
 refine ⟨λb hb=>?_,λi h h' st hk=>?_,λi s Q E hi st hQ=>?_,λs Q E st hQ=>?_,λi s Q E st hQ=>?_⟩
 . simp only [bp hb];exact .head _
 . exact ⟨hk I (by simp) _ st.1,st.2.to λo e=>hk a (by simp) o e⟩
 . have i3:i < vs.length:=iW hi hv;refine nS (x:=vs[i]) (nxt:=slot (i+1)) st.1 st.2 (λs' Q' E' ha hq=>HD _ i s' Q' E' (bX hi) ha (λx hx=>?_) λhx=>?_) λh' db Ao=>?_
   . refine (bo (aB (aq (cp i3)) hx))▸?_;exact hq
   . exact jq (aB (aq (cp i3)) hx)
   . exact hQ _ h' s.toks (by simp) ⟨Ao,st.2.to λo e=>(db.2 a Td).trans e⟩ λb o hb e=>(db.2 b (λq=>hb (by simp [q]))).trans e
 . obtain hx:vs[n]?=none:=by simp [hv]
   refine pv hh st.1 st.2 (λs' Q' E' ha hq=>HD _ n s' Q' E' (bu _) ha (λx q=>?_) λzz=>hq) λh' hk=>hQ h' s.toks λb o hb e=>hk b o (λq=>hb (by simp [q])) e;exact bE (aB (aq hx) q)
 . exact nf (ae _ st.1 rfl) hQ
theorem ur (hS:jD prog w s.heap a L)
 (h:∀s' I vs L' St fp,(∀b o,s.heap.get? b=some o->s'.heap.get? b=some o)->s'.gens=s.gens->s'.os=s.os->s.heap.objs.size<=I ->
  (∀A':Around,A'.handled=none->Walks prog w A' I fp [I] L.length (λi v=>vs[i]?=some v) St)->St 0 s'.heap->StrsAre vs L'->L'.Perm L->(∀b∈fp,b < s.heap.objs.size->b=a)->(∀b∈fp,b < s'.heap.objs.size)->Q (.ref I) s') :
 wpAny (model prog w) A (pyIter (.ref a)) Q E s:=by
 obtain ⟨o,es,ep,t,ho,hex,hd,Nw,bd,Ch,hb,hf,DE,pc⟩:=hS;have hlen:es.size=L.length:=by have:=nQ bd;simpa using this
 have hT:s.TypeIs (.ref a) "set":=(ae o ho hex.1)
 have v4:g9 s.heap a es ep t:=(lQ o ho hex.1 hd hf)
 have eX:a < s.heap.objs.size:=Heap.lt_size ho;refine wpAny_pyIter_slot hT slot_set_iter (wpAny_call_entry slot_set_iter hT qF ?_ (rY _));show wpAny _ _ (Builtin.Frozenset.sizeOf a >>= _) _ _ s;unfold Builtin.Frozenset.sizeOf;refine ah (ah (eT v4 (aM ?_)));unfold setDrawn;refine ah (ah (fx v4 ?_));refine ah (lq (aM ?_));dsimp only;have fin:∀(first:Value) (O:Shared),g9 O.heap a es ep t ->
  (∀ac,ac={O with heap:=O.heap.push (nc first 0 es.size a ep)}->Q (.ref O.heap.objs.size) ac) ->
  wpAny (model prog w) A.in1 (do ret (<-newFields "set_iterator" [first,rawInt 0,.ref a,rawInt es.size,rawInt (<-setEpoch a)])) (λfin s'=>∃v,fin=Fin.done (Flow.ret v)/\∃T' r,s'.TypeIs v T'/\typeLookup (Value.type T') (Str.ofString "__next__")=pure (some r)/\Q v s') E O:=by
  intro first O h1 hq
  unfold setEpoch;refine ah (ah (fx h1 (aM ?_)));refine ah (wpAny_newObj_type (aM ⟨_,rfl,("set_iterator"),_,(ae _ (cT _ rfl) rfl),bR.lookup,?_⟩));exact hq _ rfl
 cases Le:tT w with
 | true =>
   simp only [Le,Bool.not_true,Bool.false_and,dQ,if_false];refine ah (aM ?_);refine fin _ s v4 λac tW=>?_;subst tW;refine e1a1 (pQ ((An (w.params.setOrder a ep) es).map (·.2)) bd) λL' oM Ft=>?_;refine h _ _ ((pickOrder (w.params.setOrder a ep) es).toList.map (·.2)) L' _ _ (λb o e=>bU _ e) rfl rfl (bu _)
    (λA' hh=>qG (es:=es) (ep:=ep) (t:=t) (λzz=>0) (bS eX) hlen (by rw [nQ oM,Ft.length_eq]) hh ?_) ⟨cT _ rfl,v4.to λo e=>bU _ e⟩ oM Ft ?_ ?_
   . intro A i s' Q' E' hi ha h1 h2;unfold setNext;refine ah (fx ha ?_);refine ah (lq ?_);rw [Le];simp only [if_true,bne_self_eq_false,dQ,if_false];unfold setWalk;refine ah (ah (fx ha ?_));refine ah (lq ?_);rw [Le];simp only [if_true];refine ah (wpAny_askSetting (aM (aM ?_)));show Q' (Option.map (λe=>(e.2,0)) (pickOrder (w.params.setOrder a ep) es)[i]?) s';cases hx:(pickOrder (w.params.setOrder a ep) es)[i]? with
     | none=>exact h2 (by rw [dw,Array.getElem?_toList,hx];rfl)
     | some e=>exact h1 e.2 (by rw [dw,Array.getElem?_toList,hx];rfl)
   . intro b hb hl;simp only [List.mem_cons,List.not_mem_nil,or_false] at hb;rcases hb with rfl | rfl
     . exact absurd hl (Nat.lt_irrefl _)
     . rfl
   . intro b hb;simp only [List.mem_cons,List.not_mem_nil,or_false] at hb;rw [fh];rcases hb with rfl | rfl
     . exact Nat.lt_succ_self _
     . exact Nat.lt_succ_of_lt eX
 | false =>
   have zw:t.led=true:=by rw [DE,Le];rfl
   simp only [Le,Bool.not_false,Bool.true_and];by_cases Gm:1 < es.size
   . have ge:L≠[]:=λe=>by have:es.size=0:=(hlen.trans (by rw [e];rfl));exact BE Gm this
     have e1:(!t.plain&&decide (es.size > 1))=true:=by rw [pc ge];simpa using Gm
     show wpAny _ _ (if (!t.plain&&decide (es.size > 1))=true then _ else _) _ _ _;rw [if_pos e1];refine ah (uq _ _ _ _ List.length_range λord d hp=>?_);refine ah (wpAny_newTuple ?_ (by rw [fz,hp.length_eq,List.length_range];exact fits_of_scanBound hb));refine fin _ _ (v4.to λo e=>bU _ e) λac tW=>?_;subst tW;have oQ:(ord.map λp=>(es[p]?.map (·.2)).getD .none).Perm (es.toList.map (·.2)):=by refine (hp.map _).trans (List.Perm.of_eq ?_);refine List.ext_getElem (by simp) λi h1 h2=>?_;simp only [fz,List.length_range] at h1;simp [h1]
     refine e1a1 (pQ oQ bd) λL' oM Ft=>?_;refine h _ _ (ord.map λp=>(es[p]?.map (·.2)).getD .none) L' _ _ (λb o e=>bU _ (bU _ e)) rfl rfl (by simp)
      (λA' hh=>xN (es:=es) (ep:=ep) (t:=t) (T:=s.heap.objs.size) hlen (bS (by rw [fh];exact Nat.lt_succ_of_lt eX)) (bS (by rw [fh];exact Nat.lt_succ_self _)) hp hh) ⟨cT _ rfl,v4.to λo e=>bU _ (bU _ e),_,bU _ (cT _ rfl),rfl,0,rfl⟩ oM Ft ?_ ?_
     . intro b hb hl;simp only [List.mem_cons,List.not_mem_nil,or_false,fh] at hb;rcases hb with rfl | rfl | rfl
       . exact absurd hl (Nat.not_lt_of_gt (Nat.lt_succ_self _))
       . rfl
       . exact absurd hl (Nat.lt_irrefl _)
     . intro b hb;simp only [List.mem_cons,List.not_mem_nil,or_false,fh] at hb ⊢;rcases hb with rfl | rfl | rfl
       . exact Nat.lt_succ_self _
       . exact Nat.lt_succ_of_lt (Nat.lt_succ_of_lt eX)
       . exact Nat.lt_succ_of_lt (Nat.lt_succ_self _)
   . have e1:¬((!t.plain&&decide (es.size > 1))=true):=by simp;intro _;exact Nat.not_lt.mp Gm
     show wpAny _ _ (if (!t.plain&&decide (es.size > 1))=true then _ else _) _ _ _;rw [if_neg e1];refine ah (aM ?_);refine fin _ s v4 λac tW=>?_;subst tW;have Te:t.place.size=es.size:=by unfold SetTable.fits at hf;simp at hf;exact hf.1
     refine h _ _ (es.toList.map (·.2)) L _ _ (λb o e=>bU _ e) rfl rfl (bu _)
      (λA' hh=>qG (es:=es) (ep:=ep) (t:=t) (λi=>if i=0 then 0 else t.place.getD 0 0+1) (bS eX) hlen (by simp [hlen]) hh ?_) ⟨cT _ rfl,v4.to λo e=>bU _ e⟩ bd (.refl _) ?_ ?_
     . intro A i s' Q' E' hi ha h1 h2;unfold setNext;refine ah (fx ha ?_);refine ah (lq ?_);rw [Le];simp only [dQ,if_false];show wpAny _ _ (if (!t.plain&&decide (es.size > 1))=true then _ else _) _ _ _;rw [if_neg e1];show wpAny _ _ ((if (!t.led&&!es.isEmpty)=true then unsupported "set:maker-not-led" else pure PUnit.unit) >>= _) _ _ _;have e2:¬((!t.led&&!es.isEmpty)=true):=by simp [zw]
       rw [if_neg e2];refine ah (aM (aM ?_));have hsz:es.size=0\/es.size=1:=Nat.le_one_iff_eq_zero_or_eq_one.mp (Nat.not_lt.mp Gm);rcases hsz with hz | hz
       . have:es=#[]:=Array.size_eq_zero_iff.mp hz;subst this;simp;exact h2 (rfl)
       . refine e1a0 (Array.size_eq_one_iff.mp hz) λe o1=>?_;obtain rfl:=o1;refine e1a0 (Array.size_eq_one_iff.mp (Te.trans hz)) λp hp=>?_;have i3:i=0\/i=1:=by rw [<-hlen,hz] at hi;exact BL hi
         clear hi;rcases i3 with rfl | rfl
         . have My:SetTable.below #[p] 0=0:=rfl;have:=h1 e.2 (rfl);simpa [hp,My] using this
         . have My:SetTable.below t.place (t.place.getD 0 0+1)=1:=by rw [hp];simp [SetTable.below,SetTable.below.go]
           simp only [Nat.one_ne_zero,if_false,My];have:=h2 (rfl);exact this
     . intro b hb hl;simp only [List.mem_cons,List.not_mem_nil,or_false] at hb;clear fin eX v4 hT ho h;rcases hb with rfl | rfl
       . exact absurd hl (Nat.lt_irrefl _)
       . rfl
     . intro b hb;simp only [List.mem_cons,List.not_mem_nil,or_false] at hb;rw [fh];clear fin h;rcases hb with rfl | rfl
       . exact Nat.lt_succ_self _
       . exact Nat.lt_succ_of_lt eX
end
structure Kept (s s':Shared):Prop where
 heap:∀b o,s.heap.get? b=some o->s'.heap.get? b=some o
 os:s'.os=s.os
 gens:s'.gens=s.gens
theorem Kept.moves (x:Kept s s'):bf c F bs s s':=⟨x.heap,x.os,x.gens⟩
theorem Kept.new (x:Kept s s')(h:s'.heap.get? a=none):s.heap.get? a=none:=by
 cases e:s.heap.get? a with
 | none=>rfl
 | some o=>exact jq (aB (aq (x.heap _ _ e)) h)
section
variable {prog:Program}{w:World}{A:Around}{E:sA}{s:Shared}
theorem qH (hc:∀(A:Around)(Q':iy->mq),A.handled=none->(∀s' vs PA,Kept s s'->StrsAre vs PA->PA.Perm ss->Q' vs s')->wpAny (model prog w) A (collect r) Q' E s)(hh:A.handled=none)(pP:ss.length < 64)
 (h:∀s' D out e,Kept s s'->s.heap.get? D=none->s'.heap.get? D=some (bx out e)->StrsAre out (cg ss)->Q (.ref D) s'):wpAny (model prog w) A (call (.builtin "sorted") [r]) Q E s:=by
 refine Calls.call_function_entry kind_sorted plain_sorted entry_sorted (args_sorted1 _) ?_;refine ah (m:=checkCount "sorted" 1 1 _) (aM ?_);refine ah (hc _ _ hh λO vs PA k₁ hv hp=>?_);obtain PQ:vs.length < 64:=by rw [nQ hv,hp.length_eq];exact pP
 refine ah (wpAny_newList ?_ (by skip;exact ey PQ rfl));obtain LG:(O.heap.push (seqObj "list" vs.toArray 0)).get? O.heap.objs.size=some (seqObj "list" vs.toArray 0):=cT _ rfl;refine ah (wpAny_holding (wpAny_call_entry slot_list_sort (ae _ LG rfl) entry_list_sort (list_sort_treeK (s:={O with heap:=O.heap.push (seqObj "list" vs.toArray 0)}) strKind_oneLt LG hv.keysOf (λaaf aag rest e=>keyKind_strs (by rw [<-e];exact hv)) PQ λgM a1 a2=>(ae _ rfl ?_)) (args_list_sort _)));refine e1a2 (sorted_out_str hv a1 a2) λss2 h1 h2 h3=>?_;refine aM (ae _ rfl ?_);refine e1a0 (sortedHeap_at (n:=0) (out:=(arrOf gM).map (·.2)) LG) λe he=>?_;obtain po:=qk (h2.trans hp) h3;clear h3 h2;subst po;refine h _ _ ((arrOf gM).map (·.2)).toList e ⟨λb o q=>?_,k₁.os,k₁.gens⟩ (k₁.new (gE (bu _))) (by assumption) h1;obtain hq:=k₁.heap _ _ q;obtain eX:=Heap.lt_size hq;rw [sortedHeap_old (bS eX) (by rw [fh];exact Nat.lt_succ_of_lt eX)];exact bU _ hq
theorem DH (hT:s.TypeIs (.ref r) "set")(h:Q false s):wpAny (model prog w) A (Builtin.List.listLengthHint (.ref r)) Q E s:=by
 refine ah (wpAny_specialOf hT PySem.F.slot_set_len.lookup ?_);generalize hid:("set.__len__":String)=id0
 wp_delta
 refine hid▸?_;refine ah (wpAny_isInstance (T:="set") (b:=true) hT (rfl) ?_);refine wpAny_ite_split (λu4=>absurd u4 (by decide)) (λzz=>?_);refine wpAny_ite_split (λzz=>?_) (λu4=>absurd (rfl) u4);refine ah (wpAny_typeOf hT ?_);exact aM h
theorem jD.typeIs (hS:jD prog w s.heap a L):s.TypeIs (.ref a) "set":=by obtain ⟨o,es,ep,t,ho,hex,r⟩:=hS;exact (ae o ho hex.1)
theorem wh (hS:jD prog w s.heap a L)(hh:A.handled=none)(hn:L.length<=sizeLine)
 (h:∀s' vs L',Kept s s'->StrsAre vs L'->L'.Perm L->Q vs s'):wpAny (model prog w) A (collect (.ref a)) Q E s:=by
 unfold collect;refine ah (wpAny_runValue (codeAny_builtin F.entry_proto_collect ?_));rw [Around.under_plainId F.plain_proto_collect _];show wpAny _ A.in1 (newList [] >>= λl=>again (.builtin "list.__iadd__" ⟨[l,.ref a],[]⟩)) _ _ s;refine ah (wpAny_newObj_type ?_);refine aM ⟨plainId_quiet F.plain_list_iadd _,codeAny_builtin F.entry_list_iadd ?_⟩;rw [Around.under_plainId F.plain_list_iadd _];generalize hD:s.heap.objs.size=D;generalize dl:({s with heap:=s.heap.push {cls:=.type "list",data:=.seq ([]:iy).toArray}}:Shared)=O;have k₁:Kept s O:=by rw [<-dl];exact ⟨λb o e=>bU _ e,rfl,rfl⟩
 have zq:O.heap.get? D=some {cls:=.type "list",data:=.seq #[]}:=by rw [<-dl,<-hD];exact cT _ rfl
 have DI:jD prog w O.heap a L:=hS.at_ λo e=>k₁.heap _ _ e;have Xi:D≠a:=by
  obtain ⟨o,_,_,_,ho,_⟩:=hS;exact λe=>by rw [<-hD] at e;exact absurd (Heap.lt_size ho) (by rw [<-e];exact Nat.lt_irrefl _)
 show wpAny _ A.in1 (Builtin.List.listExtendWith (.ref D) (.ref a) (.ref D)) _ _ O;unfold Builtin.List.listExtendWith;refine ah (wpAny_typeOf DI.typeIs ?_);have h1:Builtin.List.listSameRef (.ref D) (.ref a)=false:=by simp [Builtin.List.listSameRef,Xi]
 have h2:(Value.type "set"==Value.type "list")=false:=rfl;have h3:(Value.type "set"==Value.type "tuple")=false:=rfl;simp only [h1,h2,h3,Bool.or_false,dQ,if_false];refine ah (ur DI λac I vs L' St fp hk hg ho hI W st hv hp Tf PM=>?_);have Th:D < O.heap.objs.size:=Heap.lt_size zq;have Xj:D∉fp:=λm=>Xi (Tf D m Th);have jg:=hk _ _ zq;have NF:jD prog w ac.heap a L:=DI.at_ λo e=>hk _ _ e;have key:∀(aP:Shared) (c₁:Nat),aP.os=s.os->aP.gens=s.gens->St 0 aP.heap->(∀b o,b≠D->ac.heap.get? b=some o->aP.heap.get? b=some o) ->
  aP.heap.get? D=some {cls:=.type "list",data:=.seq #[] c₁} ->
  codeAny (model prog w) A (.builtin "list.extend.loop" ⟨[.ref D,.ref I,.ref D],[]⟩) (λr s'=>∃ie c',r=.ok (.ret (.ref D))/\Kept s s'/\s'.heap.get? D=some {cls:=.type "list",dict:=none,data:=.seq ie c',slots:=#[]}/\ItemsOf (λi v=>vs[i]?=some v) ie L.length) aP:=by
  intro aP c₁ e1 e2 aA bn vY;refine codeAny_extend_loopS (W _ (by assumption)).toS hn D Xj (.ref D) L.length 0 aP #[] c₁ rfl (Nat.zero_le _) aA vY (ItemsOf.nil _) λs' ie c' hm Al DJ=>?_;refine (mJ ie c' rfl ⟨λb o e=>?_,hm.os.trans e1,hm.gens.trans e2⟩ Al DJ);have Xk:b≠D:=λq=>by clear Al hm vY bn;subst q;rw [<-hD] at e;exact absurd (Heap.lt_size e) (Nat.lt_irrefl _)
  refine hm.heap b o (λGn=>?_) (bn b o Xk (hk _ _ (k₁.heap _ _ e)))
  (refine aN (cu Gn) (λq=>?_) (λq=>?_))
  . exact Xk q
  . rw [bp q] at e;have:I < s.heap.objs.size:=Heap.lt_size e;have h4:s.heap.objs.size<=O.heap.objs.size:=by rw [<-dl];simp
    exact absurd this (Nat.not_lt_of_le (aV h4 hI))
 have PQ:vs.length=L.length:=by rw [nQ hv,hp.length_eq]
 have fin:∀(r:Result) (s':Shared),(∃ie c',r=.ok (.ret (.ref D))/\Kept s s'/\s'.heap.get? D=some {cls:=.type "list",dict:=none,data:=.seq ie c',slots:=#[]}/\ItemsOf (λi v=>vs[i]?=some v) ie L.length) ->
  (match r with | .ok (.ret v)=>wpAny (model prog w) A (match v with | .ref a=>(do match (<-load a).data with | .seq xs _=>pure xs.toList | _=>unsupported "internal:collect") | _=>unsupported "internal:collect") Q E s' | .ok _=>False | .error e=>E e s'):=by
  intro r s' o1;refine e2a3 o1 λie c' o2 kp Al DJ=>?_;clear o1;obtain rfl:=o2;show wpAny _ A (load D >>= _) _ _ s';refine ah (wpAny_load Al ?_);have e:ie.toList=vs:=by
   refine List.ext_getElem? λj=>?_;by_cases hj:j < L.length
   . have xO:j < ie.size:=by rw [DJ.1];exact hj
     have:=DJ.2 j ie[j] (by rw [Array.getElem?_eq_getElem xO]);rw [this];simp [xO]
   . rw [List.getElem?_eq_none (by simp [DJ.1];exact kQ hj),List.getElem?_eq_none (aq PQ▸Nat.not_lt.mp hj)]
  exact aM (by rw [e];exact h s' vs L' kp hv hp)
 refine ah (wpAny_holding (DH NF.typeIs ?_));have e1:ac.os=s.os:=by rw [ho,<-dl]
 have e2:ac.gens=s.gens:=by rw [hg,<-dl]
 refine wpAny_ite_split (λzz=>?_) (λzz=>aM ⟨plainId_quiet PySem.F.plain_extend_loop _,codeAny_mono (key ac 0 e1 e2 st (λb o zz e=>e) jg) fin⟩);refine ah (wpAny_rule ?_);refine ah ?_;show wpAny _ _ (updateSeq D (·.push .none) >>= λzz=>updateSeq D (·.pop)) _ _ _;refine ah (wpAny_updateSeq jg rfl ?_);have DK:=hK (Obj.mapSeq (·.push Value.none)) jg rfl;refine wpAny_updateSeq (hz:=by seq_fits) DK rfl ?_;have NG:=hK (Obj.mapSeq (·.pop)) DK rfl;have Xl:∀b o,b≠D->ac.heap.get? b=some o->((ac.heap.update D (Obj.mapSeq (·.push Value.none))).update D (Obj.mapSeq (·.pop))).get? b=some o:=λb o hb e =>
  (Heap.get?_update_other _ _ (Ne.symm hb)).trans ((Heap.get?_update_other _ _ (Ne.symm hb)).trans e)
 refine aM ⟨plainId_quiet PySem.F.plain_extend_loop _,codeAny_mono (key {ac with heap:=_} _ e1 e2 ((W A hh).frame 0 _ _ st λb hb o e=>Xl b o (λq=>Xj (q▸hb)) e) Xl NG) fin⟩
end
noncomputable def dedup:ag->ag
 | []=>[]
 | x::l=>if x∈dedup l then dedup l else x::dedup l
set_option tactic.hygienic true in
theorem lr (x:Str)(l:ag):x∈dedup l↔x∈l:=by
 induction l generalizing x with
 | nil=>exact Iff.rfl
 | cons y l ih =>
   dsimp only [dedup]
   split
   . rename_i h;rw [ih x,List.mem_cons];exact ⟨.inr,λq=>q.elim (λe=>by rw [e];exact (ih y).mp h) id⟩
   . rw [List.mem_cons,List.mem_cons,ih x]
set_option tactic.hygienic true in
theorem iP:∀l:ag,(dedup l).Nodup:=by
 intro l;induction l with
 | nil =>decide
 | cons y l ih =>
   dsimp only [dedup]
   split
   . exact ih
   . rename_i h;exact List.nodup_cons.mpr ⟨h,ih⟩
theorem qE.perm (h:qE L l):L.Perm (dedup l) :=
 (List.perm_ext_iff_of_nodup h.1 (iP l)).mpr λx=>by rw [h.2,lr]
theorem oR (h:l.Perm r):cg l=cg r :=
 i5 ((cM l).trans (h.trans (cM r).symm)) (fJ l) (fJ r)
section
variable {c:bc}{C:Cx}{S:AS}{F F':G}{bs aE:aO}{s s':Shared}{A:Around}{X:dU}{K:dC}
theorem St.Gp (z:St c C F bs S s)(m:bf c F bs s s')(hn:s.heap.get? a=none)(ha:s'.heap.get? a=some ob)(hr:fA c F (bs++[a]) s'.heap a o)(k:K (.ref S.heap.length) {S with heap:=S.heap++[o]}) :
 WV c C c.V F bs s.heap K (.ref a) s':=by
 obtain f:=z.d7 hn;obtain z':=(z.keep m).adopt f ha (o:=o) hr;refine ⟨F,bs++[a],.ref S.heap.length,_,Step.adopt (.keep m) hn,z',.ref ?_,k⟩;refine z.wd.len▸?_;simp
theorem JJ (hh:C.handled=none)(h:cm S v (l.map .str))(hl:l.length < 1000)(k:K (.ref S.heap.length) {S with heap:=S.heap++[.sset (dedup l)]}):dD c C (.type "set") [v] S K X:=by
 intro A F bs s rs hA z hv;refine e1a1 hv.one λr o8 h1=>?_;refine rE o8 ?_;clear hv;refine e3a2 (z.kz h h1) λa vs n o7 h0 be=>?_;refine rE o7 ?_;obtain hlen:vs.length=l.length:=by obtain this:=be.length;simpa using this
 refine Am (hA.handled.trans hh) ((dh _ h0 rfl n rfl):s.heap.IsList a vs.toArray) (be.strs) (by simp [hlen,scanBound];exact cD hl (Nat.le_add_left (Nat.succ 1000) 3095)) λh' tk L hS hL hk=>?_;obtain m:bf c F bs s {s with heap:=h',toks:=tk}:=⟨λb o e=>hk b o (Heap.lt_size e) e,rfl,rfl⟩
 obtain ⟨o,_,_,_,ho,_⟩:=id hS;exact z.Gp (o:=.sset (dedup l)) m (St.fm s) ho (ae L hS hL.perm) k
theorem wi (hh:C.handled=none)(h:S.heap[k]?=some (.sset D))(pP:D.length < 64)(kk:lF K ((cg D).map .str) S):dD c C (.builtin "sorted") [.ref k] S K X:=by intro A F bs s rs hA z hv;refine e1a1 hv.one λr o6 h1=>?_;refine rE o6 ?_;clear hv;refine e1a3 (z.gZ h1 h) λa NH ha o9 zz=>?_;refine e1a1 o9 λL hS hp=>?_;clear o9;refine rE NH ?_;refine qH (ss:=D) (λA' Q' Ti hq=>wh hS Ti (by refine (aq hp.length_eq)▸(aq sizeLine_eq)▸?_;exact ey pP rfl) λs' vs L' kp lG Dq=>hq s' vs L' kp lG (Dq.trans hp)) (hA.handled.trans hh) pP λs' D' out e kp hn ho bd=>?_;exact z.t6 kp.moves hn ho (StrsAre.vs bd) kk
theorem JK (k:K (.ref S.heap.length) {S with heap:=S.heap++[.uset []]}):dD c C (.type "set") [] S K X:=by
 intro A F bs s rs hA z hv;cases hv;refine call_set_0 λled=>?_;obtain m:bf c F bs s {s with heap:=s.heap.push {cls:=.type "set",dict:=none,data:=.set #[] 0 (.fresh 0 0 led)}}:=⟨λb o e=>bU _ e,rfl,rfl⟩
 obtain hg:(s.heap.push {cls:=.type "set",dict:=none,data:=.set #[] 0 (.fresh 0 0 led)}).get? s.heap.objs.size=some {cls:=.type "set",dict:=none,data:=.set #[] 0 (.fresh 0 0 led)}:=cT _ rfl;refine z.Gp (o:=.uset []) m (St.fm s) hg ?_ k;exact PyProof.Rows.SetOf_congr ((PyProof.Rows.setObjOf_fresh (knd:=sk c.prog c.w) led).setOf hg (by unfold scanBound;exact (by decide))) (λzz=>rfl) rfl
theorem DL (h:S.heap[k]?=some (.uset D))(kk:K (.bool (decide (x∈D))) S):jF c C (compareOp .In) (.str x) (.ref k) S K X:=λA F bs s ra rb hA z ha hb=>by refine e1a0 ha.inv λzz o5=>?_;refine rE o5 ?_;refine e1a3 (z.gZ hb h) λa o4 ha hS zz=>?_;refine rE o4 ?_;exact WP.kept z λQ E q=>wpAny_inSet_of (str_is x _) rfl hS (q _ _ (.toks ..) (ae _ (.bool _) kk))
theorem St.NI (z:St c C F bs S s)(hk:bs[k]?=some a)(ho:S.heap[k]?=some o)(ge:o≠.gone)(hs:Heap.SameBut a s.heap h')(he:s'.heap=h')(Jz:s'.os=s.os)(hg:s'.gens=s.gens)
 (dZ:∃ob,h'.get? a=some ob) (hr:fA c F bs h' a o'):Step C.own F bs s.heap F bs s'.heap/\St c C F bs {S with heap:=S.heap.set k o'} s':=by
 subst he;have T:fG a s s':=⟨λb q o e=>(hs.2 b q).trans e,dZ,Jz,hg⟩
 exact ⟨.upd T (.inl (ct hk)),z.upd T hk ho ge hr⟩
theorem DM (h:S.heap[k]?=some (.uset D))(hl:D.length < 1000)(kk:K .none {S with heap:=S.heap.set k (.uset (if x∈D then D else D++[x]))}):dD c C (.builtin "set.add") [.ref k,.str x] S K X:=by
 intro A F bs s rs hA z hv;refine e2a2 hv.two λr q o3 h1 h2=>?_;refine rE o3 ?_;refine e1a0 h2.inv λzz o2=>?_;refine rE o2 ?_;clear hv;refine e1a3 (z.gZ h1 h) λa o1 ha hS zz=>?_;refine rE o1 ?_;refine call_set_add (str_is x _) rfl hS (by skip;exact cD hl (Nat.le_add_left (Nat.succ 1000) 3095)) λh' Fu Al=>?_;refine e4a1 (id Al) λob zz zz zz kZ zz=>?_;have:=z.NI (s':={s with heap:=h',toks:=s.toks+1}) (o':=.uset (if x∈D then D else D++[x])) ha h (by simp) Fu rfl rfl rfl (ck ob kZ) (SetOf_congr Al (λy=>?_) ?_)
 . exact ⟨F,bs,.none,_,this.1,this.2,.none,kk⟩
 . by_cases q:x∈D
   . simp only [q,if_true];by_cases e:y=x
     . cases e;simp [q]
     . simp [e]
   . simp only [q,if_false,List.mem_append,List.mem_singleton];by_cases e:y∈D <;> simp [e]
 . by_cases q:x∈D <;> simp [q]
end
theorem rZ (n:Nat)(a b:dB):AV.b8 n (a++b)=(AV.b8 n a&&AV.b8 n b):=by
 induction a with
 | nil=>rfl
 | cons x a ih=>simp [ih,Bool.and_assoc]
section
variable {c:bc}{C:Cx}{S:AS}{F F':G}{bs aE:aO}{s s':Shared}{A:Around}{X:dU}{pos:Pos}
theorem qI (n:Nat):Builtin.Range.rangeSize 0 (n:Int) 1=n:=by delta Builtin.Range.rangeSize;simp;exact BI
theorem wj (n:Nat)(h:n < 2 ^ 62):Builtin.Range.small 0 (n:Int) 1=true:=by
 delta Builtin.Range.small;obtain e:Builtin.Range.rangeFitsLong (n:Int)=true:=by delta Builtin.Range.rangeFitsLong;simp;exact Int.ofNat_lt.mpr (hZ h rfl)
 rw [qI];simp [e];decide +kernel
theorem ly {x:Str}{px:Pos}{f:Expr}{args:dM}{K:dB->(bg->Prop)->dA}
 (h:Ev c C f S (λv Z=>v=.raw (.type "range")/\pO c C pos args Z (λvs aF=>∃n:Nat,vs=[.int n]/\n < 2 ^ 62/\K ((List.range n).map λ(i:Nat)=>AV.int i) (λzz=>True) aF) X) X)
 (he:eval (.Call f args [] pos) C.env=(do callWith pos (<-eval f C.env) [] (backTo pos (starEach args C.env)) (backToKw pos (keywordEach [] C.env))):=by rfl)
 (pc:(backTo pos (starEach args C.env)).any (·.1)=false:=by rfl)
 (hl:pk (backTo pos (starEach args C.env))=false:=by rfl):mU c C (.Name x px) (.Call f args [] pos) S K X:=by
 refine vM (lg h λv Z Tj=>e0a1 Tj λh1 h2=>⟨h1,λA F bs s hA z=>(h2 A F bs s hA z).mono (λvs aF Tk=>e1a2 Tk λn e hn k=>⟨0,n,1,(.inl (aG e rfl rfl)),(wj n hn),n,(qI n),?_⟩) λzz zz q=>q⟩) he pc hl;obtain this:(λ(i:Nat)=>AV.int (0+(i:Int)*1))=λ(i:Nat)=>AV.int i:=by funext i;simp
 refine rE this ?_;exact k
end
noncomputable def slotAt (Kf:Frag)(Cl:Addr)(name:Str):Option Nat:=match findIn Kf (.ref Cl) name with
 | some (some (.ref p))=>if (plainGet Kf Cl name&&(clsIn Kf Cl).isSome&&specialIn Kf (.ref p) "__get__"==some (some (.builtin "member_descriptor.__get__"))&&takesIn Kf (.ref p)==some true &&
  findIn Kf (.ref Cl) "__setattr__"==some (some (.builtin "object.__setattr__"))&&plainOver Kf Cl&&takerIn Kf Cl name==some (some (.ref p))&&typeIn Kf (.ref p)==some (.type "member_descriptor"))=true then slotIn Kf p Cl else none
 | _=>none
noncomputable def iB (vs:vD)(i:Nat)(v:AV):vD:=(vs++List.replicate (i+1 - vs.length) none).set i (some v)
def ng (S:AS)(k d:Nat)(Cl:Addr)(vs:vD):Prop:=((S.heap[k]?=some (.inst Cl d)/\vs=[])\/S.heap[k]?=some (.slots Cl d vs))/\∃kvs,S.heap[d]?=some (.az kvs)
section
variable {c:bc}{C:Cx}{S:AS}{F F':G}{bs aE:aO}{s s':Shared}{A:Around}{X:dU}{K:dC}{mg mb:fV}{pos:Pos}{Kf:Frag}{Cl:Addr}
theorem oC.length (h:oC c F bs vs rs):rs.length=vs.length:=by
 induction h with
 | nil=>rfl
 | no _ ih=>simp [ih]
 | yes _ _ ih=>simp [ih]
theorem oC.get (h:oC c F bs vs rs):∀{i:Nat} {v:AV},vs[i]?=some (some v)->∃r,rs[i]?=some (some r)/\c.V F bs v r:=by
 induction h with
 | nil=>intro i v e;simp at e
 | no _ ih=>intro i v e;cases i with
   | zero=>simp at e
   | succ i=>exact ih (e)
 | yes hv _ ih=>intro i v e;cases i with
   | zero=>simp at e;subst e;exact (ae _ rfl hv)
   | succ i=>exact ih (e)
theorem oC.append (h:oC c F bs vs rs)(h':oC c F bs us ts):oC c F bs (vs++us) (rs++ts):=by
 induction h with
 | nil=>exact h'
 | no _ ih=>exact .no ih
 | yes hv _ ih=>exact .yes hv ih
theorem oC.NJ:∀n:Nat,oC c F bs (List.replicate n none) (List.replicate n none):=by
 intro n;induction n with
 | zero =>exact .nil
 | succ n ih =>exact .no (ih)
theorem oC.set (h:oC c F bs vs rs)(hv:c.V F bs v r):∀i,oC c F bs (vs.set i (some v)) (rs.set i (some r)):=by
 induction h with
 | nil=>intro i;exact .nil
 | no hh ih=>intro i;cases i with
   | zero=>exact .yes hv hh
   | succ i=>exact .no (ih i)
 | yes hx hh ih=>intro i;cases i with
   | zero=>exact .yes hv hh
   | succ i=>exact .yes hx (ih i)
noncomputable abbrev uu (Cl dx:Addr)(rs:List tX):Obj:={cls:=.ref Cl,dict:=some dx,data:=.plain,slots:=rs.toArray}
inductive JL (c:bc)(F:G)(bs:aO)(s:Shared)(S:AS)(Cl:Addr)(k d:Nat)(vs:vD)(r:Value):Prop
 | mk (x dx:Addr) (rs:List tX) (od:Obj) (h1:r=.ref x) (h2:bs[k]?=some x) (h3:bs[d]?=some dx) (h4:oC c F bs vs rs) (h5:InstAt s.heap x (uu Cl dx rs) Cl (some od)) (h6:∃o,S.heap[k]?=some o/\o≠.gone)
theorem St.HE (z:St c C F bs S s)(h:ng S k d Cl vs)(hv:c.V F bs (.ref k) r) :
 JL c F bs s S Cl k d vs r:=by
 obtain ⟨h1,kvs,h2⟩:=h;refine e1a1 hv.inv λx o2 hk=>?_;refine rE o2 ?_;rcases h1 with ⟨h1,rfl⟩ | h1
 . refine e0a1 (z.wd.obj _ _ _ hk h1) λmo zz=>?_;refine e1a1 mo λdx e1 e2=>?_;clear mo;refine e0a1 (z.wd.obj _ _ _ e1 h2) λnO zz=>?_;refine e1a1 nO λrs rO zz=>?_;clear nO;obtain ⟨es,n,e3,_⟩:=rO;exact ⟨x,dx,[],_,rfl,hk,e1,.nil,⟨e2,rfl,rfl,e3⟩,_,h1,by simp⟩
 . refine e0a1 (z.wd.obj _ _ _ hk h1) λo9 zz=>?_;refine e2a2 o9 λdx rs e1 e4 e2=>?_;clear o9;refine e0a1 (z.wd.obj _ _ _ e1 h2) λo8 zz=>?_;refine e1a1 o8 λzz rP zz=>?_;clear o8;obtain ⟨es,n,e3,_⟩:=rP;exact ⟨x,dx,rs,_,rfl,hk,e1,e4,⟨e2,rfl,rfl,e3⟩,_,h1,by simp⟩
set_option tactic.hygienic true in
theorem sM (h:slotAt Kf Cl name=some i):∃p,plainGet Kf Cl name=true/\(clsIn Kf Cl).isSome=true/\findIn Kf (.ref Cl) name=some (some (.ref p))/\specialIn Kf (.ref p) "__get__"=some (some (.builtin "member_descriptor.__get__"))/\takesIn Kf (.ref p)=some true /\
 findIn Kf (.ref Cl) "__setattr__"=some (some (.builtin "object.__setattr__"))/\plainOver Kf Cl=true/\takerIn Kf Cl name=some (some (.ref p))/\typeIn Kf (.ref p)=some (.type "member_descriptor")/\slotIn Kf p Cl=some i:=by
 delta slotAt at h
 split at h
 . rename_i p hp
   split at h
   . rename_i q;simp only [cZ,beq_iff_eq] at q;refine e0a1 q λo1 q8=>?_;refine e0a1 o1 λo3 q7=>?_;clear o1;refine e0a1 o3 λo7 q6=>?_;clear o3;refine e0a1 o7 λrD q5=>?_;clear o7;obtain ⟨⟨⟨q1,q2⟩,q3⟩,q4⟩:=rD;exact ⟨p,q1,q2,hp,q3,q4,q5,q6,q7,q8,h⟩
   . exact bE h
 . exact bE h
theorem xP (B:d8 c mg mb Kf)(hs:slotAt Kf Cl name=some i)(z:St c C F bs S s)(hi:ng S k d Cl vs)(ho:c.V F bs (.ref k) ro)(hg:vs[i]?=some (some v))(Do:∀u,v≠.raw u)(kk:K v S) :
 WP c C A c.V (getAttr ro name true) F bs s K X:=by
 obtain ⟨x,dx,rs,od,Tl,hk,hd,lW,I,_⟩:=z.HE hi ho;refine rE Tl ?_;refine e1a0 (sM hs) λp o6=>?_;refine e0a6 o6 λp1 p2 p3 p4 p5 p6 rQ=>?_;clear o6;obtain ⟨p7,p8,p9,To⟩:=rQ;refine e1a1 (lW.get hg) λr hr Xm=>?_;obtain XX:=z.v3 B;refine WP.kept z λQ E q=>?_;refine get_bind XX I (plainGet_of p1).1 (findObj_data p2 p3 p4 p5) (plainGet_of p1).2 (wpAny_call (slot_get (s:={s with toks:=s.toks+1}) XX I To (v:=r) (by simp [hr]) (handed_on (qx Xm Do) (q _ _ (.toks ..) (ae v Xm kk)))))
open Builtin Builtin.ObjectAttr Builtin.Getset_descriptor in
theorem Ap (XX:Kf.In s.heap)(I:InstAt s.heap x ox Cl od)(hp:slotIn Kf p Cl=some i)(hi:i < 1000)
 (h:R (.ok (.ret .none)) {s with heap:=s.heap.update x λo=>{o with slots:=(o.slots++Array.replicate (i+1 - o.slots.size) none).setIfInBounds i (some v)}}) :
 codeAny (model c.prog c.w) A (.call (.builtin "member_descriptor.__set__") ⟨[.ref p,.ref x,v],[]⟩) R s:=by
 refine e7a0 (slot_of XX hp) λn tn owner behind tb d sl o5=>?_;refine e1a4 o5 λcd ho hc hm hb tz=>?_;clear o5;obtain rfl:=tz;obtain ⟨hh,g,dr,t,os⟩:=s;have L0:=I.type (M:=model c.prog c.w);have L1:=looks_mroIn (M:=model c.prog c.w) XX hm;have L2:Looks (model c.prog c.w) hh (Slots.slotNamesOf (.ref Cl)) cd.slotNames:=(looks_clsIn XX hc).andThen .now;have hx:=I.at_;dsimp only at ho hx L0 L1;have f0:=looks_field (M:=model c.prog c.w) ho 0 (v:=.str n tn) rfl;have f1:=looks_field (M:=model c.prog c.w) ho 1 (v:=owner) rfl;have f3:=looks_field (M:=model c.prog c.w) ho 3 (v:=.builtin "proto.slot#set") rfl;have f4:=looks_field (M:=model c.prog c.w) ho 4 (v:=.int behind tb) rfl;refine codeAny_call_builtin KF.slot_mset.plain KF.entry_mset (KF.slot_mset.check _ _ _ _ _ _ _ _ (ae _ ho rfl) (KF.args_mset _ _ _) ?_);unfold Builtin.«member_descriptor.__set__» descrSet descrStoreThrough descrCheckInstance descrNameAndClass isInstance;have f5:Looks (model c.prog c.w) hh (descrItself (.ref p)) [.ref p]:=((Looks.ld (part:=none) ho).andThen .now).andThen (Looks.of_pure (by kernel_rfl))
 repeat lk
 refine ⟨Code.quiet_builtin _ (by decide +kernel),codeAny_builtin KF.entry_slotset ?_⟩;unfold Builtin.«proto.slot#set» Slots.target
 repeat lk
 rw [if_neg hb];refine aM (ah ?_);unfold setSlotAt;dsimp only;rw [if_neg (by rw [sizeLine_eq];exact Nat.not_le.mpr (hZ hi rfl))];exact wpAny_updatePart hx (aM h)
theorem xQ (B:d8 c mg mb Kf){K:dA}(hs:slotAt Kf Cl name=some i)(L5:i < 1000)(z:St c C F bs S s)(hi:ng S k d Cl vs)(ho:c.V F bs (.ref k) ro)(hv:c.V F bs v r)
 (kk:K {S with heap:=S.heap.set k (.slots Cl d (iB vs i v))}):WP c C A (λ_ _ (_:Unit) (_:Unit)=>True) (setAttr ro name r) F bs s (λzz=>K) X:=by
 obtain ⟨x,dx,rs,od,Tp,hk,hd,lW,I,o,eI,hng⟩:=z.HE hi ho;refine rE Tp ?_;refine e1a0 (sM hs) λp o4=>?_;refine e0a6 o4 λp1 p2 p3 p4 p5 p6 rF=>?_;clear o4;obtain ⟨p7,p8,p9,To⟩:=rF;obtain XX:=z.v3 B;refine set_plain XX I p6 (osa_descr (s:={s with toks:=s.toks+1}) KF.slot_mset XX I p7 p8 p9 (Ap (s:={s with toks:=s.toks+1}) XX I To L5 ?_));generalize bv:({s with heap:=s.heap.update x λo=>{o with slots:=(o.slots++Array.replicate (i+1 - o.slots.size) none).setIfInBounds i (some r)},toks:=s.toks+1}:Shared)=ac;obtain g:ac.heap.get? x=some (uu Cl dx ((rs++List.replicate (i+1 - rs.length) none).set i (some r))):=by refine bv▸?_;rw [hK _ I.at_ rfl];obtain e:Array.replicate (i+1 - rs.length) (none:tX)=(List.replicate (i+1 - rs.length) none).toArray:=rfl;simp only [uu,List.size_toArray,e,List.append_toArray,List.setIfInBounds_toArray]
 obtain Fu:Heap.SameBut x s.heap ac.heap:=by refine bv▸?_;exact Heap.SameBut.update ..
 obtain T:fG x s ac:=⟨λb q o e=>(Fu.2 b q).trans e,(ck _ g),by rw [<-bv],by rw [<-bv]⟩
 refine ⟨F,bs,(),_,.upd T (.inl (ct hk)),z.upd T hk eI hng (o':=.slots Cl d (iB vs i v)) (b7 dx _ hd ?_ g),trivial,kk⟩;refine rE lW.length ?_;exact (lW.append (.NJ _)).set hv i
def DN (c:bc)(C:Cx)(name:Str)(ov v:AV)(S:AS)(K:dA)(X:dU):Prop :=
 ∀A F bs s ro r,jW C A->St c C F bs S s->c.V F bs ov ro->c.V F bs v r->WP c C A (λ_ _ (_:Unit) (_:Unit)=>True) (setAttr ro name r) F bs s (λzz=>K) X
abbrev wk (c:bc)(C:Cx)(name:Str)(ov:AV)(S:AS)(K:dC)(X:dU):Prop:=Pm c C (λr=>getAttr r name true) ov S K X
theorem eD (B:d8 c mg mb Kf)(Cl:Addr)(hs:slotAt Kf Cl name=some i)(hi:ng S k d Cl vs)(hg:vs[i]?=some (some v))(Do:∀u,v≠.raw u)(kk:K v S):wk c C name (.ref k) S K X :=
 λA F bs s r hA z hv=>xP B hs z hi hv hg Do kk
theorem a9 (B:d8 c mg mb Kf)(Cl:Addr)(dZ:iN Kf Cl=true)(sI:(findIn Kf (.ref Cl) name==some none)=true)(hi:gh S k d Cl kvs)(hg:bB kvs name=some v)(Do:∀u,v≠.raw u)(kk:K v S):wk c C name (.ref k) S K X :=
 λA F bs s r hA z hv=>qy B dZ sI z hi hv hg Do kk
theorem gn (B:d8 c mg mb Kf)(Cl:Addr){K:dA}(hs:slotAt Kf Cl name=some i)(L5:i < 1000)(hi:ng S k d Cl vs)(kk:K {S with heap:=S.heap.set k (.slots Cl d (iB vs i v))}):DN c C name (.ref k) v S K X :=
 λA F bs s ro r hA z ho hv=>xQ B hs L5 z hi ho hv kk
theorem c7 (B:d8 c mg mb Kf)(Cl:Addr){K:dA}(dZ:storeOk Kf Cl name=true)(hi:gh S k d Cl kvs)(hsz:kvs.length<=1000)(kk:K {S with heap:=S.heap.set d (.az (df kvs name v))}):DN c C name (.ref k) v S K X :=
 λA F bs s ro r hA z ho hv=>xH B dZ z hi ho hv hsz kk
@[reducible] def NK (c:bc) (C:Cx) (name:Str) (K:dC) (X:dU):dC:=λo S=>wk c C name o S K X
@[reducible] def NL (c:bc) (C:Cx) (name:Str) (v:AV) (K:dA) (X:dU):dC:=λo S=>DN c C name o v S K X
theorem a7 {value:Expr}{name:Str}(h:Ev c C value S (NK c C name K X) X)
 (ii:attributeBase value name C.env (eval value C.env)=eval value C.env:=by rfl):Ev c C (.Attribute value name pos) S K X:=by
 intro A F bs s hA z;show WP c C A c.V (do
  let o <-attributeBase value name C.env (eval value C.env)
  standAt pos.atName
  let r <-holding [o] (getAttr o name true)
  letTemporaryGo value o r
  pure r) F bs s K X
 refine rE ii ?_;refine WP.bind (h A F bs s hA z) λF₁ bs₁ Z O o ro al an ho k₁=>?_;refine WP.standAt (WP.bind (WP.holding (k₁ A F₁ bs₁ O ro hA an ho)) λaX ap aF ac v rv am aJ hv k₂=>?_);exact ah (wpAny_letTemporaryGo (WP.pure aJ hv k₂))
theorem cx {K:dA}(h:Ev c C o S (NL c C name v K X) X):xc c C (.Attribute o name pos) v S K X:=by
 intro A F bs s r hA z hv
 skip
 refine WP.bind (WP.holding (h A F bs s hA z)) λF₁ bs₁ Z O ov Mh al an lW kk=>?_;exact WP.standAt (ah (wpAny_holding (aQ (kk A F₁ bs₁ O Mh r hA an lW (al.V hv)) (λzz ac q=>wpAny_release q) λzz zz e=>e)))
theorem fN {K:ip}
 (h:Ev c C o S (λov Z=>wk c C name ov Z (λv aF=>Ev c C value aF (λw aY=>jF c C (inplaceOp op) v w aY (λr co=>DN c C name ov r co (λfY=>K .next fY) X) X) X) X) X) :
 nH c C (.AugAssign (.Attribute o name Mt) op value pos) S K X:=by
 intro A F bs s hA z;refine WP.standAt (WP.bind (h A F bs s hA z) λF₁ bs₁ Z O ov Mh al an lW k₁=>?_);refine WP.bind (R:=c.V) (K₁:=λr co=>DN c C name ov r co (λfY=>K .next fY) X) ?_ λec ca co ch r rr ce cr hr kk=>?_
 . refine WP.holding (WP.standAt (WP.bind (k₁ A F₁ bs₁ O Mh hA an lW) λaX ap aF ac u ru am aJ hu k₂=>?_));refine WP.bind (WP.holding (k₂ A aX ap ac hA aJ)) λbi aK aY aP w WH aA a6 hw bn=>?_;exact WP.standAt (wpAny_operating (bn A bi aK aP ru WH hA a6 (aA.V hu) hw))
 . refine WP.standAt (ah (wpAny_holding (aQ (kk A ec ca ch Mh rr hA cr (ce.V lW) hr) (λzz dW q84=>q84.casesOn λfH eh zz fY eR fZ zz j7=>?_) λzz zz e=>e)));exact ah (wpAny_release (aM ⟨fH,eh,.next,fY,eR,fZ,rfl,j7⟩))
end
end Mine.Internal
namespace Mine.Internal
open PySem
theorem meets_bool_new_listM (l:Addr)(items:Array Value)(Tq:(items.size:Int) < 2 ^ 63) :
 Meets (Builtin.«bool.__new__» ⟨[.type "bool",.ref l],[]⟩) (λzz R s=>s.heap.IsList l items/\R (.ok (.ret (.bool (!items.isEmpty)))) {s with toks:=s.toks+1+1}) :=
 Meets.of_wp λprog w A R s hs=>by
  obtain ⟨hl,hs⟩:=hs;obtain f1:=F.conv_sub_bool
  repeat (any_goals (first | assumption | (with_reducible refine wpAny_truthy_list hl Tq ?_) | wp_step))
  all_goals first | exact ⟨_,rfl,hs⟩ | exact hs | skip
end Mine.Internal
namespace Mine.Internal
open PySem PyProof.Rows PySem.W
section
variable {c:bc}{C:Cx}{S:AS}{F F':G}{bs aE:aO}{s s':Shared}{A:Around}{X:dU}{K:dC}{mg mb:fV}{pos:Pos}{Kf:Frag}{Cl:Addr}
theorem Gq (h:cm S v xs)(hl:xs.length < 2 ^ 63)(k:K (.bool (!xs.isEmpty)) S):dD c C (.type "bool") [v] S K X:=by
 intro A F bs s rs hA z hv;refine e1a1 hv.one λr CY h1=>?_;refine rE CY ?_;clear hv;refine e2a3 (z.seq h h1) λl vs CZ hL be zz=>?_;refine rE CZ ?_;have hlen:=be.length;refine WP.kept z λQ E q=>call_bool_1 (meets_bool_new_listM l vs.toArray (by simp [hlen];exact pC hl)) (aG hL.isList rfl (q _ _ (.toks ..) (ae _ ?_ k)));obtain this:(!vs.toArray.isEmpty)=!xs.isEmpty:=by cases xs <;> cases vs <;> simp_all
 simp only [this];exact .bool _
theorem DO (h:cm S v xs)(hl:xs.length<=sizeLine)(k:K (.tup xs) S):dD c C (.type "tuple") [v] S K X:=by
 intro A F bs s rs hA z hv;refine e1a1 hv.one λr C0 h1=>?_;refine rE C0 ?_;clear hv;refine e2a3 (z.seq h h1) λl vs C3 hL be zz=>?_;refine rE C3 ?_;refine call_tuple_list hL.isList (λh' hk=>?_) (by simp [be.length,hl]);obtain kp:Kept s {s with heap:=h'.push {cls:=.type "tuple",data:=.seq vs.toArray}}:=⟨λb o e=>bU _ (hk b o e),rfl,rfl⟩
 obtain hn:s.heap.get? h'.objs.size=none:=by
  cases e:s.heap.get? h'.objs.size with
  | none=>rfl
  | some o=>exact absurd (Heap.lt_size (hk _ _ e)) (Nat.lt_irrefl _)
 obtain ha:(h'.push {cls:=.type "tuple",data:=.seq vs.toArray}).get? h'.objs.size=some (gj vs):=cT _ rfl;obtain z':=(z.keep (kp.moves (c:=c) (F:=F) (bs:=bs))).l1 (z.d7 hn) ha (by simp [gj]);refine ⟨plus F h'.objs.size (gj vs),bs,.tup xs,S,Step.l1 (.keep (kp.moves (c:=c))) (z.d7 hn).F hn,z',.tup b9 ?_,k⟩;simpa using bq.mono (nb:=[]) (aW (z.d7 hn).F) be
theorem sN (h:TabOf S v kvs)(k:K ((bB kvs x).getD .none) S):dD c C (.builtin "dict.get") [v,.str x] S K X:=by
 intro A F bs s rs hA z hv;refine e2a2 hv.two λr q C4 h1 h2=>?_;refine rE C4 ?_;refine e1a0 h2.inv λzz C5=>?_;refine rE C5 ?_;clear hv;refine e2a3 (z.tab h h1) λd rs C6 hD JM mt=>?_;refine rE C6 ?_;refine WP.kept z λQ E q=>call_meetsIn PySem.F.slot_dict_get hD.typeIs PySem.F.entry_dict_get (PySem.F.args_dict_get_2 _ _) (meets_dict_get (sk c.prog c.w) d (hkey:=str_is x _) JM) (ae _ hD.mapOf (q _ _ (.toks ..) (ae _ ?_ k)))
 (refine aN (aU.get x mt) (λGo=>?_) (λJN=>?_);refine e2a2 Go λy w e1 e2 e3=>?_;rotate_left;refine e0a1 JN λe1 e2=>?_;rotate_right)
 . refine rE e1 ?_;have:(valueAt rs x)=some w:=e2;simp only [this];exact e3
 . rw [e1];have:(valueAt rs x)=none:=e2;simp only [this];exact .none
theorem oB.dictAt {Kt:Type} [DecidableEq Kt] {knd:KeyKind c.prog c.w Kt}{h:Heap}{a:Addr}{kvs:List (Kt×Value)}(x:oB knd h.get? a kvs):∃ep,h.DictAt knd a kvs ep :=
 let ⟨es,n,e,hk,hp,hn,_⟩:=x;(jB n _ es e (aG rfl rfl rfl) rfl hk hp hn)
theorem aU.at (h:c.SV F bs kvs rs)(i:Nat)(k:Str)(v:Value)(e:rs[i]?=some (k,v)):∃y,kvs[i]?=some (k,y)/\c.V F bs y v:=by
 induction kvs generalizing rs i with
 | nil=>obtain rfl:=h.inv;exact bE e
 | cons p l ih =>
   obtain ⟨_,_,rfl,h,t⟩:=h.inv;cases i with
   | zero=>clear ih;obtain ⟨rfl,NM⟩:=Prod.mk.inj (bo e);refine NM▸?_;exact (ae _ rfl h)
   | succ i=>exact ih t i e
theorem aU.length (h:c.SV F bs kvs rs):rs.length=kvs.length:=by obtain this:=congrArg List.length (aU.keys h);simpa using this
theorem Gr {K:dB->(bg->Prop)->dA}(h:Ev c C iter S (λv Z=>∃kvs,v=.aZ kvs/\K (kvs.map λp=>.str p.1) (λzz=>True) Z) X):mU c C (.Name x px) iter S K X:=by
 refine CU (lg h λv Z NN=>e1a1 NN λkvs e k A F bs s r hA z hv=>?_);clear NN;subst e;refine e2a2 hv.inv λa rs C7 hd be=>?_;refine rE C7 ?_;obtain JM:(a==sysModules)=false:=let ⟨_,_,_,_,_,_,q⟩:=hd;q;obtain ⟨o,ho⟩:∃o,F a=some o:=let ⟨_,_,e,_⟩:=hd;(ck _ e);obtain yY:oB (sk c.prog c.w) s.heap.get? a rs:=hd.sub z.wd.sub;refine e1a0 yY.dictAt λep v4=>?_;refine wpAny_pyIter_dict JM v4 ?_;obtain hn:s.heap.get? s.heap.objs.size=none:=gE (bu _);generalize kZ:({cls:=.type "dict_keyiterator",data:=.fields #[.ref a,.int 0 0,.int rs.length 0,.int ep 0]}:Obj)=ob;obtain ha:(s.heap.push ob).get? s.heap.objs.size=some ob:=cT _ (by refine kZ▸?_;rfl);have m:bf c F bs s {s with heap:=s.heap.push ob}:=⟨λb o e=>bU _ e,rfl,rfl⟩
 obtain ge:a≠s.heap.objs.size:=bS (Heap.lt_size (z.wd.sub _ _ ho));refine ⟨F,bs,Z,_,kvs.map λp=>.str p.1,_,[s.heap.objs.size],_,rfl,.keep m,z.keep m,Iter.walks (F₀:=F) (bs₀:=bs) (λA hA=>Walks.dictKeys hA s.heap.objs.size a ge rs ep) (by simpa using aU.length be) ?_ ?_ ?_,
  (gP ⟨(aH ob ha (by rw [<-kZ]) (by rw [<-kZ];rfl)),v4.at' λo e=>m.keep _ _ e⟩ (Nat.zero_le _) (λzz zz e=>e) [] (by simp)),λa q=>by rw [bp q];exact hn,cf.one z hn ha (by rw [<-kZ];simp) (by rw [<-kZ];simp),trivial,k⟩
 . intro b hb;rcases cu hb with e | hb
   . exact .inl (by simp [e])
   . rw [bp hb];exact .inr (ck _ ho)
 . intro i v _ ⟨kk,u,h1,h2⟩;refine e1a1 (aU.at be i kk u h1) λy e1 zz=>?_;refine (ae (.str kk) (by simp only [dw,e1];rfl) ?_);refine e1a0 (Value.isStrOf_shape h2) λt I6=>?_;refine rE I6 ?_;exact .str _ _
 . intro i h bd b hb;refine e0a1 bd λt0 zz=>?_;clear bd;refine e1a2 t0 λo e1 e2 zz=>?_;clear t0;refine rE (bp hb) ?_;exact (aH o e1 (by rw [e2];simp) (by rw [e2];simp))
theorem Aq {x:Str}{px apos:Pos}{o:Expr}{K:dB->(bg->Prop)->dA}(h:Ev c C o S (λv Z=>∃kvs,v=.aZ kvs/\K (kvs.map (·.2)) (λzz=>True) Z) X)
 (ii:attributeBase o "values" C.env (eval o C.env)=eval o C.env:=by rfl)
 (IY:((backTo pos (starEach [] C.env)).all (λx=>!x.1)&&(backToKw pos (keywordEach [] C.env)).all (λx=>x.1.isSome)
  && decide (([]:dM).length+([]:List Keyword).length+(if ([]:List Keyword).isEmpty then 0 else 1) < 30))=true:=by rfl)
 (hline:(apos.endLine==pos.line)=true:=by rfl):mU c C (.Name x px) (.Call (.Attribute o "values" apos) [] [] pos) S K X:=by
 intro A F bs s hA z;refine wpAny_Call_method_lateS ii IY hline (aQ (h A F bs s hA z) (λr O ⟨F₁,bs₁,ov,Z,al,an,lW,kvs,e,k₁⟩=>?_) λzz zz e=>e);subst e;refine e0a1 (an.ty (T:="dict") rfl lW) λt1 t2=>?_;refine ⟨("dict"),("dict.values"),PySem.F.plainAttrs_dict,PySem.F.slot_dict_values,PySem.F.type_dict_values,t1,t2,(Calls.callWith_builtin (by rfl) ?_)⟩;refine oE _ (λzz q=>nomatch q) ?_;show wpAny _ _ (spliced []) _ _ _;refine aM ?_;refine e2a2 lW.inv λa rs I7 hd be=>?_;clear t2 lW;obtain rfl:=I7;obtain JM:(a==sysModules)=false:=let ⟨_,_,_,_,_,_,q⟩:=hd;q;obtain ⟨o,ho⟩:∃o,F₁ a=some o:=let ⟨_,_,e,_⟩:=hd;(ck _ e);obtain yY:oB (sk c.prog c.w) O.heap.get? a rs:=hd.sub an.wd.sub;refine e1a0 yY.dictAt λep v4=>?_;refine call_meetsIn PySem.F.slot_dict_values t1 PySem.F.entry_dict_values (PySem.F.args_dict_values_1 _) (meets_dict_values (sk c.prog c.w) a JM) ⟨(ck _ v4.dictOf),?_⟩;generalize JO:({cls:=.type "dict_values",data:=.fields #[.ref a]}:Obj)=ow;generalize bv:({O with heap:=O.heap.push ow}:Shared)=ac;obtain m₂:bf c F₁ bs₁ O ac:=by rw [<-bv];exact ⟨λb o e=>bU _ e,rfl,rfl⟩
 obtain aJ:=an.keep m₂;obtain hw:ac.heap.IsValuesView O.heap.objs.size a:=by rw [<-bv];exact (aH ow (cT _ (by rw [<-JO];rfl)) (by rw [<-JO]) (by rw [<-JO]))
 obtain DP:ac.heap.DictAt (sk c.prog c.w) a rs ep:=v4.at' λo e=>m₂.keep _ _ e;refine wpAny_pyIter_values hw DP ?_;obtain hn:ac.heap.get? ac.heap.objs.size=none:=gE (bu _);generalize kZ:({cls:=.type "dict_valueiterator",data:=.fields #[.ref a,.int 0 0,.int rs.length 0,.int ep 0]}:Obj)=ob;obtain ha:(ac.heap.push ob).get? ac.heap.objs.size=some ob:=cT _ (by rw [<-kZ];rfl);obtain m:bf c F₁ bs₁ ac {ac with heap:=ac.heap.push ob}:=⟨λb o e=>bU _ e,rfl,rfl⟩
 obtain ge:a≠ac.heap.objs.size:=bS (Heap.lt_size (aJ.wd.sub _ _ ho));obtain hn0:s.heap.get? ac.heap.objs.size=none:=by
  cases q:s.heap.get? ac.heap.objs.size with
  | none=>rfl
  | some o=>refine e1a0 ((al.trans (.keep m₂)).mono _ _ q) λo' e'=>?_;exact bE (aB (aq hn) e')
 refine ⟨F₁,bs₁,Z,_,kvs.map (·.2),_,[ac.heap.objs.size],_,rfl,(al.trans (.keep m₂)).trans (.keep m),aJ.keep m,Iter.walks (F₀:=F₁) (bs₀:=bs₁) (λA hA=>Walks.dictValues hA ac.heap.objs.size a ge rs ep) (by simpa using aU.length be) ?_ ?_ ?_,
  (gP ⟨(aH ob ha (by rw [<-kZ]) (by rw [<-kZ];rfl)),DP.at' λo e=>m.keep _ _ e⟩ (Nat.zero_le _) (λzz zz e=>e) [] (by simp)),λa q=>by rw [bp q];exact hn0,cf.one aJ hn ha (by rw [<-kZ];simp) (by rw [<-kZ];simp),trivial,k₁⟩
 . intro b hb;rcases cu hb with e | hb
   . exact .inl (by simp [e])
   . rw [bp hb];exact .inr (ck _ ho)
 . intro i v _ ⟨kk,h1⟩;refine e1a1 (aU.at be i kk v h1) λy e1 e2=>?_;exact (ae y (by rw [dw,e1];rfl) e2)
 . intro i h bd b hb;refine e0a1 bd λvQ zz=>?_;clear bd;refine e1a2 vQ λo e1 e2 zz=>?_;clear vQ;rw [bp hb];exact (aH o e1 (by rw [e2];simp) (by rw [e2];simp))
noncomputable def uv (k:Nat)(v':AV):eQ->eQ->Prop
 | [],[]=>True
 | p::l,q::r=>p.1=q.1/\(q.2=p.2\/(p.2=.ref k/\q.2=v'))/\uv k v' l r
 | _,_=>False
theorem uv.rel (hv:∀r,c.V F bs (.ref k) r->c.V F bs v' r)(hr:uv k v' l l')(h:c.SV F bs l rs):c.SV F bs l' rs:=by
 induction l generalizing l' rs with
 | nil =>
   cases l' with
   | nil=>exact h
   | cons=>exact hr.elim
 | cons p l ih =>
   cases l' with
   | nil=>exact hr.elim
   | cons q l' =>
     refine e0a2 hr λe hq t=>?_;refine e2a2 h.inv λw r I8 hx ht=>?_;refine rE I8 ?_;refine rE e ?_;refine .cons ?_ (ih t ht)
     (refine aN hq (λhq=>?_) (λJa=>?_);rotate_left;refine e0a1 Ja λq1 q2=>?_;rotate_right)
     . rw [hq];exact hx
     . rw [q2];rw [q1] at hx;exact hv _ hx
theorem fu.Ar (d:Nat)(DQ:eQ)(hd:S.heap[d]?=some (.az NO))(hk:S.heap[k]?=some (.az kvs))(ge:d≠k)(hr:uv k (.aZ kvs) NO DQ) :
 fu c C S ⟨S.loc,(S.heap.set k .gone).set d (.az DQ)⟩:=λF bs s z=>by
 obtain eX:k < bs.length:=by simp only [z.wd.len];exact (bN hk).1
 obtain ⟨a,ha⟩:∃a,bs[k]?=some a:=(ck _ (cp eX))
 refine e0a1 (z.wd.obj k a _ ha hk) λt8 hF=>?_;refine e1a1 t8 λrs t9 h2=>?_;clear t8;obtain ⟨es,n,h1,h3⟩:=t9;have FO:=hF (by simp);refine (ae (plus F a (bC es n)) (Step.freeze (ct ha) FO) ?_);have z':=z.freeze ha hk (by simp) h1 (by simp [bx,bC]);obtain Tt:d < bs.length:=by simp only [z.wd.len];exact (bN hd).1
 obtain ⟨da,IE⟩:∃a,bs[d]?=some a:=(ck _ (cp Tt))
 have yY:(S.heap.set k .gone)[d]?=some (.az NO):=by rw [ba (Ne.symm ge)];exact hd
 refine e0a1 (z'.wd.obj d da _ IE yY) λAb zz=>?_;refine e1a1 Ab λPy g1 g2=>?_;clear Ab;obtain T:fG da s s:=⟨λzz zz zz e=>e,z.wd.there da (ct IE),rfl,rfl⟩
 refine z'.upd T IE yY (by simp) (o':=.az DQ) (ae Py g1 (hr.rel (λr hv=>?_) g2));refine e1a1 hv.inv λzz I9 e=>?_;refine rE I9 ?_;clear hv;refine (bo (ha.symm.trans e))▸?_;refine .aZ ⟨es,n,b9,h3⟩ ?_;simpa using aU.mono (nb:=[]) (aW FO) h2
end
noncomputable def lz (Kf:Frag)(Cl:Addr)(name:Str)(f:Addr):Bool:=fM Kf Cl name f&&specialIn Kf (.ref f) "__get__"==some (some (.builtin "function.__get__"))&&takesIn Kf (.ref f)==some false&&!copiedNames.contains name
section
variable {c:bc}{C:Cx}{S:AS}{F F':G}{bs aE:aO}{s s':Shared}{A:Around}{X:dU}{K:dC}{mg mb:fV}{pos:Pos}{Kf:Frag}{Cl:Addr}
theorem qJ (B:d8 c mg mb Kf)(Cl f:Addr)(dZ:lz Kf Cl name f=true)(hi:gh S k d Cl kvs)(sI:bB kvs name=none)(kk:K (.bm "method" (.ref f) (.ref k)) S):wk c C name (.ref k) S K X:=by
 intro A F bs s r hA z hv;simp only [lz,fM,cZ,beq_iff_eq,Bool.not_eq_true'] at dZ;refine e0a1 dZ λMS q3=>?_;refine e0a1 MS λMT q2=>?_;clear MS;refine e0a1 MT λDn q1=>?_;clear MT;refine e0a1 Dn λGe c3=>?_;clear Dn;obtain ⟨⟨c0,c1⟩,c2⟩:=Ge;simp only [iN,cZ,beq_iff_eq] at c0;refine e0a1 c0 λMQ g5=>?_;refine e0a1 MQ λMR g4=>?_;clear MQ;refine e0a1 MR λDp g3=>?_;clear MR;refine e0a1 Dp λg1 g2=>?_;clear Dp;obtain ⟨x,dx,rs,es,m,rfl,_,_,I,_,hk,hp,mt,_⟩:=z.inst hi hv;refine e1a1 (any_some g5) λcd Dm Gc=>?_;obtain hf:findObj Kf Cl (some (bC es m)) name=some (.bind (.builtin "function.__get__") (.ref f)):=by
  delta findObj;refine (aq Dm)▸(aq c1)▸?_;simp only [Option.bind_some,q1,q2,W.ownOf,Gc,if_true,l2 hk hp]
  (refine aN (aU.get name mt) (λo91=>?_) (λo92=>?_);refine e2a2 o91 λv' w e1 e2 e3=>?_;rotate_left;refine e0a1 o92 λe1 e2=>?_;rotate_right)
  . exact bE (aB (aq sI) e1)
  . rw [e2];simp only [Option.bind_some,q3,Bool.false_and,dQ,if_false]
 obtain XX:=z.v3 B;refine get_bind XX I g1 hf g2 (wpAny_call (fn_get (s:={s with toks:=s.toks+1}) XX c2 (handed_on rfl ?_)));obtain hn:s.heap.get? s.heap.objs.size=none:=St.fm s;obtain mv:bf c F bs s {s with heap:=s.heap.push (methodObj (.ref f) (.ref x)),toks:=s.toks+1}:=⟨λb o e=>bU _ e,rfl,rfl⟩
 obtain ha:(s.heap.push (methodObj (.ref f) (.ref x))).get? s.heap.objs.size=some (methodObj (.ref f) (.ref x)):=cT _ rfl;refine ⟨_,bs,.bm "method" (.ref f) (.ref k),S,.frozen mv (z.jE hn) hn,z.ja mv hn ha,.bm (r:=.ref x) ?_ ?_,kk⟩
 . exact b9
 . simpa using cU.mono (nb:=[]) (aW (z.jE hn)) hv
theorem Gs (z:St c C F bs S s)(h:cm S v xs\/v=.tup xs)(hl:xs.length<=sizeLine)(hv:c.V F bs v r)
 (hq:∀h' vs,bf c F bs s {s with heap:=h'}->c.Vs F bs xs vs->Q vs {s with heap:=h'}):StarOf (model c.prog c.w) A E r Q s:=by
 obtain main:∀(a:Addr) (vs:iy) (o:Obj) (T:String) (n:Nat),r=.ref a->s.heap.get? a=some o->o.cls=.type T->o.data=.seq vs.toArray n->T="list"\/T="tuple"->c.Vs F bs xs vs->StarOf (model c.prog c.w) A E r Q s:=by
  intro a vs o T n e ho hc hd hT be;clear hv;subst e;obtain PJ:s.TypeIs (.ref a) T:=(ae o ho hc)
  obtain zz:wpAny (model c.prog c.w) A (collect (.ref a)) Q E s:=by refine wpAny_collect_seq a hT ho hc hd (λh' hk=>?_) (by simp [be.length,hl]);obtain this:=hq h' vs ⟨hk,rfl,rfl⟩ be;exact this
  clear hc;rcases hT with rfl | rfl
  . exact ah (wpAny_specialOf PJ PySem.F.slot_list_iter.lookup (aM ⟨rfl,zz⟩))
  . exact ah (wpAny_specialOf PJ PySem.F.slot_tuple_iter.lookup (aM ⟨rfl,zz⟩))
 rcases h with h | h
 . refine e3a2 (z.kz h hv) λl vs n PH h0 be=>?_;clear hv;obtain rfl:=PH;exact main l vs _ "list" n rfl h0 rfl rfl (.inl rfl) be
 . subst h;refine e2a2 hv.inv λzz zz Se ht be=>?_;obtain rfl:=Se;exact main _ _ _ "tuple" 0 rfl (z.wd.sub _ _ ht) rfl rfl (.inr rfl) be
theorem DR {e:Expr}{p:Pos}{es:dM}{K:u9}(h:Ev c C e S (λv Z=>∃xs,(cm Z v xs\/v=.tup xs)/\xs.length<=sizeLine/\pO c C pos es Z (λvs aF=>K (xs++vs) aF) X) X)
 (he:starEach (.Starred e p::es) C.env=(true,eval e C.env)::starEach es C.env:=by rfl):pO c C pos (.Starred e p::es) S K X:=by
 intro A F bs s hA z;refine items_star (aQ (h A F bs s hA z) (λr O ⟨F₁,bs₁,v,Z,al,an,hv,xs,NP,hl,k₁⟩=>?_) (λzz zz e=>e)) he;refine Gs an NP hl hv λh' vs m be=>?_;obtain aJ:=an.keep m;refine aQ (k₁ A F₁ bs₁ _ hA aJ) (λus aP q97=>q97.casesOn λbi aK ws aY aA a6 hws bn=>?_) (λx aP q98=>q98.casesOn λbi aK cls aY aA a6 hx bn=>?_)
 . exact ⟨bi,aK,xs++ws,aY,(al.trans (.keep m)).trans aA,a6,(aA.Vs be).append hws,bn⟩
 . exact ⟨bi,aK,cls,aY,(al.trans (.keep m)).trans aA,a6,hx.back (al.trans (.keep m)).mono,bn⟩
theorem wm (B:d8 c mg mb Kf){o:Expr}{name:Str}{apos:Pos}{args:dM}{n:Nat}(hh:C.handled=none)(hn:n<=C.n)
 (h:Ev c C o S (λov Z=>wk c C name ov Z (λfv aF=>∃f self,fv=.bm "method" (.ref f) self/\fnIn Kf f=true/\pO c C pos args aF (λvs aY=>bz c n (.ref f) (self::vs) aY.heap (λv H'=>K v {aY with heap:=H'})) X) X) X)
 (ii:attributeBase o name C.env (eval o C.env)=eval o C.env:=by rfl)
 (qi:methodCallForm (args.length+([]:List Keyword).length) (backTo pos (starEach args C.env)) (backToKw pos (keywordEach [] C.env))=false:=by rfl)
 (bd:(backTo pos (starEach args C.env)).any (·.1)=true:=by rfl)
 (hl:pk (backTo pos (starEach args C.env))=false:=by rfl):Ev c C (.Call (.Attribute o name apos) args [] pos) S K X:=by
 intro A F bs s hA z;simp only [arm_eval_Call,ii];refine ah (aQ (h A F bs s hA z) (λr O Tu=>Tu.casesOn λF₁ bs₁ ov Z al an lW k₁=>?_) λzz zz e=>e);refine ah (wpAny_standAt ?_);obtain Ai:methodCallPos false o C.env apos pos=pure pos:=rfl;delta methodCall calleeOf;refine rE qi ?_;refine ah (wpAny_holding (ah (aQ (k₁ A F₁ bs₁ O r hA an lW) (λfr ac ⟨aX,ap,fv,aF,am,aJ,Fp,f,self,e,MX,k₂⟩=>?_) λx ac Tv=>Tv.casesOn λaX ap cls aF am aJ hx k₂=>⟨aX,ap,cls,aF,al.trans am,aJ,hx.back al.mono,k₂⟩)));subst e;have xR:=al.trans am;refine e2a2 Fp.inv λq oS Sd kZ sO=>?_;refine rE Sd ?_;refine aM (ah (wpAny_of_eq Ai ?_));refine ks_call (P:=λh=>MethP Kf q f oS h) bd (keeps_M MX) ?_;refine aQ (ic hA aJ k₂ hl) (λa aP NQ=>NQ.casesOn λbi aK vs aY aA a6 Tw=>e0a1 Tw λpt be bn=>?_) (λx aP Tx=>Tx.casesOn λbi aK cls aY aA a6 hx bn=>⟨bi,aK,cls,aY,xR.trans aA,a6,hx.back xR.mono,bn⟩);obtain ⟨ps,kw⟩:=a;have tY:kw=[]:=pt;clear pt NQ;refine rE tY ?_;have hq:aP.heap.get? q=some (methodObj (.ref f) oS):=a6.wd.sub _ _ (aA.sub _ _ kZ);refine ⟨⟨hq,a6.v3 B⟩,?_⟩;show wpAny _ _ (call (.ref q) ps) _ _ _;obtain Ba:=xR.trans aA;obtain hd:=hA.depth;obtain hu:=hA.units;refine wpAny_call (method_call hq ?_);refine codeAny_mono (bn A bi aK aP (oS::ps) C.frames (hA.handled.trans hh) (tj hd hn) (ti hu hn) hA.frames a6.frames a6.wd (.cons (aA.V sO) be)) λr s' ⟨F',aE,v,H',rv,own,e,gW,st,wd,lG,k⟩=>?_;refine rE e ?_;exact ⟨F',aE,v,{aY with heap:=H'},Ba.trans (st.widen λa ha=>.inr (gW a ha)),a6.after st gW wd,lG,k⟩
theorem mM.star (ns:ag)(a:Str)(hl:args.length=ns.length)(hsz:xs.length<=sizeLine)
 (h:∀rs us:iy,rs.length=ns.length->bindArgs fd ⟨rs++us,[]⟩=(do let t <-newTuple us;pure (ns.zip rs++[(a,t)]))):mM c fd (args++xs) (ns.zip args++[(a,.tup xs)]):=by
 intro A F bs H s rs E Q wd hv k;obtain ⟨r1,r2,rfl,h1,h2⟩:∃r1 r2,rs=r1++r2/\c.Vs F bs args r1/\c.Vs F bs xs r2:=by
  refine (b7 (rs.take args.length) (rs.drop args.length) ((List.take_append_drop _ _).symm) ?_ ?_)
  . simpa using bq.take args.length hv
  . simpa using bq.drop args.length hv
 refine rE (h r1 r2 (h1.length.trans hl)) ?_;refine ah (wpAny_newTuple ?_ (by refine rE h2.length ?_;exact hsz));obtain hn:s.heap.get? s.heap.objs.size=none:=St.fm s;obtain mv:bf c F bs s {s with heap:=s.heap.push {cls:=.type "tuple",data:=.seq r2.toArray}}:=⟨λb o e=>bU _ e,rfl,rfl⟩
 obtain ha:(s.heap.push {cls:=.type "tuple",data:=.seq r2.toArray}).get? s.heap.objs.size=some (gj r2):=cT _ rfl;have hF:F s.heap.objs.size=none:=by
  cases q:F s.heap.objs.size with
  | none=>rfl
  | some o=>exact jq (aB (aq (wd.sub _ _ q)) hn)
 obtain sub:=aW (ob:=gj r2) hF;refine aM (k (plus F s.heap.objs.size (gj r2)) _ _ (.frozen mv hF hn) (Wd.ja (S:=⟨[],H⟩) wd mv hn ha) ?_);refine aU.append (aU.zip (by simpa using bq.mono (nb:=[]) sub h1)) (.cons (.tup b9 ?_) .nil);simpa using bq.mono (nb:=[]) sub h2
end
end Mine.Internal
namespace Mine.Internal
open PySem
open Sem (wp)
namespace Fm
theorem slot_li_ga:Slot "list_iterator" "__getattribute__" "object.__getattribute__" :=
 .of (owner:="object") (n:="__getattribute__") (rfl) (rfl) (rfl) (rfl)
  (by first | exact .inl (rfl) | exact .inr (rfl)) (rfl)
theorem entry_o_ga:entryFor table "object.__getattribute__"=some Builtin.«object.__getattribute__»:=entryFor_of_tree (by kernel_rfl)
theorem args_o_ga (a b:Value):argsOk "object.__getattribute__" ⟨[a,b],[]⟩:=by unfold argsOk;kernel_rfl
theorem type_li_next:typeOf (.builtin "list_iterator.__next__")=pure (.type "wrapper_descriptor"):=by show builtinType _=_;rw [builtinType_eq_fast];kernel_rfl
theorem slot_wd_get:Slot "wrapper_descriptor" "__get__" "wrapper_descriptor.__get__" :=
 .of (owner:="wrapper_descriptor") (n:="__get__") (rfl) (rfl) (rfl) (rfl)
  (by first | exact .inl (rfl) | exact .inr (rfl)) (rfl)
theorem entry_wd_get:entryFor table "wrapper_descriptor.__get__"=some Builtin.«wrapper_descriptor.__get__»:=entryFor_of_tree (by kernel_rfl)
theorem args_wd_get (a b c:Value):argsOk "wrapper_descriptor.__get__" ⟨[a,b,c],[]⟩:=by unfold argsOk;kernel_rfl
theorem no_wd_set:typeLookup (.type "wrapper_descriptor") "__set__"=pure none:=rfl
theorem no_wd_del:typeLookup (.type "wrapper_descriptor") "__delete__"=pure none:=rfl
theorem sub_li:isSubtype (.type "list_iterator") (.type (".".intercalate ("list_iterator.__next__".cutAt '.').dropLast))=pure true:=rfl
end Fm
section
variable {prog:Program}{w:World}{A:Around}{E:sA}{h:Heap}{g:Array GenState}{d:Drawn}{t:Nat}{os:OsState}{a:Addr}{vs:Array Value}
noncomputable abbrev wrapObj (f self:Value):Obj:={cls:=.type "method-wrapper",data:=.fields #[f,self]}
theorem next_get_li (hx:h.get? a=some {cls:=.type "list_iterator",data:=.fields vs})(hq:R (.ok (.ret (.ref h.objs.size))) ⟨h.push (wrapObj (.builtin "list_iterator.__next__") (.ref a)),g,d,t,os⟩) :
 codeAny (model prog w) A (.call (.builtin "wrapper_descriptor.__get__") ⟨[.builtin "list_iterator.__next__",.ref a,.type "list_iterator"],[]⟩) R ⟨h,g,d,t,os⟩:=by
 obtain hT:(⟨h,g,d,t,os⟩:Shared).TypeIs (.ref a) "list_iterator":=⟨_,hx,rfl⟩
 obtain Xn:(⟨h,g,d,t,os⟩:Shared).TypeIs (.builtin "list_iterator.__next__") "wrapper_descriptor":=Fm.type_li_next;obtain f8:=Fm.sub_li;refine codeAny_call_builtin Fm.slot_wd_get.plain Fm.entry_wd_get (Fm.slot_wd_get.check _ _ _ _ _ _ _ _ Xn (Fm.args_wd_get _ _ _) ?_)
 repeat (any_goals (first | assumption | wp_step))
theorem next_entry_li (hx:h.get? a=some {cls:=.type "list_iterator",data:=.fields vs})(hq:Q (.done (.ret (.ref h.objs.size))) ⟨h.push (wrapObj (.builtin "list_iterator.__next__") (.ref a)),g,d,t,os⟩) :
 wpAny (model prog w) A (Builtin.«object.__getattribute__» ⟨[.ref a,.str "__next__" tk],[]⟩) Q E ⟨h,g,d,t,os⟩:=by
 obtain hT:(⟨h,g,d,t,os⟩:Shared).TypeIs (.ref a) "list_iterator":=⟨_,hx,rfl⟩
 obtain Xn:(⟨h,g,d,t,os⟩:Shared).TypeIs (.builtin "list_iterator.__next__") "wrapper_descriptor":=Fm.type_li_next;obtain f4:=slot_listiter_next.lookup;obtain f6:=Fm.slot_wd_get.lookup;obtain f7:=Fm.no_wd_set;obtain f8:=Fm.no_wd_del
 repeat (any_goals (first | assumption | wp_step))
 refine next_get_li hx ?_
 repeat (any_goals (first | assumption | wp_step))
theorem next_call_li (hx:h.get? a=some {cls:=.type "list_iterator",data:=.fields vs})(hq:R (.ok (.ret (.ref h.objs.size))) ⟨h.push (wrapObj (.builtin "list_iterator.__next__") (.ref a)),g,d,t,os⟩) :
 codeAny (model prog w) A (.call (.builtin "object.__getattribute__") ⟨[.ref a,.str "__next__" tk],[]⟩) R ⟨h,g,d,t,os⟩ :=
 codeAny_call_builtin Fm.slot_li_ga.plain Fm.entry_o_ga (Fm.slot_li_ga.check _ _ _ _ _ _ _ _ (show (⟨h,g,d,t,os⟩:Shared).TypeIs (.ref a) "list_iterator" from ⟨_,hx,rfl⟩) (Fm.args_o_ga _ _) (next_entry_li hx hq))
theorem next_attr_li (hx:h.get? a=some {cls:=.type "list_iterator",data:=.fields vs})(hq:Q (.ref h.objs.size) ⟨h.push (wrapObj (.builtin "list_iterator.__next__") (.ref a)),g,d,t+1,os⟩) :
 wpAny (model prog w) A (getAttr (.ref a) "__next__" true) Q E ⟨h,g,d,t,os⟩:=by
 obtain hT:(⟨h,g,d,t+1,os⟩:Shared).TypeIs (.ref a) "list_iterator":=⟨_,hx,rfl⟩
 obtain f2:=Fm.slot_li_ga.lookup;obtain f3:=Fm.slot_li_ga.bind (.ref a)
 repeat (any_goals (first | assumption | wp_step))
 refine next_call_li hx ?_
 repeat (any_goals (first | assumption | wp_step))
 all_goals trace_state
end
end Mine.Internal
namespace Mine.Internal
open PySem PyProof.Rows PySem.W
section
variable {c:bc}{C:Cx}{S:AS}{F F':G}{bs aE:aO}{s s':Shared}{A:Around}{X:dU}{K:dC}{mg mb:fV}{pos:Pos}{Kf:Frag}{Cl:Addr}
theorem xS {K:ip}(ht:gJ C)(I:CF)(n:Nat)(h0:I n S)
 (turn:∀n S',I n S'->xp c C test S' (Gh c C body orelse I n K X) X):nH c C (.While test body orelse pos) S K X:=by
 intro A F bs s hA z;refine WP.standAt (wpAny_runOwn ?_);refine codeAny_whileLoop (λn s'=>∃F' aE S',Step C.own F bs s.heap F' aE s'.heap/\St c C F' aE S' s'/\I n S') ?_ n (gw F bs S (.refl ..) z h0);intro n O o1;refine e3a2 o1 λF₁ bs₁ Z al an hI=>?_;refine aQ (turn n Z hI A F₁ bs₁ O hA an) (λb ac Xo=>Xo.casesOn λaX ap b' aF am aJ hb k₂=>?_) (λx ac q49=>q49.casesOn λaX ap cls aF am aJ hx k₂=>iq hA ht (al.trans am) aJ (hx.back al.mono) k₂);clear Xo;subst hb;have st:=al.trans am;cases b with
 | false =>exact aQ (k₂ A aX ap ac hA aJ) (λf aP q50=>q50.casesOn λbi aK fl aY aA a6 hf bn=>⟨bi,aK,fl,aY,st.trans aA,a6,hf,bn⟩) (λx aP q51=>q51.casesOn λbi aK cls aY aA a6 hx bn=>iq hA ht (st.trans aA) a6 (hx.back st.mono) bn)
 | true =>
   skip
   refine aQ (k₂ A aX ap ac hA aJ) (λf aP Ty=>Ty.casesOn λbi aK fl aY aA a6 hf bn=>?_) (λx aP q53=>q53.casesOn λbi aK cls aY aA a6 hx bn=>iq hA ht (st.trans aA) a6 (hx.back st.mono) bn);cases fl with
   | next=>cases hf;obtain ⟨m,hm,k⟩:=bn;exact (kY m hm bi aK aY (st.trans aA) a6 k)
   | cont=>cases hf;obtain ⟨m,hm,k⟩:=bn;exact (kY m hm bi aK aY (st.trans aA) a6 k)
   | brk=>clear Ty;subst hf;exact ⟨bi,aK,.next,aY,st.trans aA,a6,rfl,bn⟩
   | ret v=>clear Ty;refine e1a1 hf λr Iy hr=>?_;clear hf;obtain rfl:=Iy;exact ⟨bi,aK,.ret v,aY,st.trans aA,a6,(ae r rfl hr),bn⟩
theorem Gu (h:cm S v xs)(k:K (.ref S.heap.length) {S with heap:=S.heap++[.gF v 0]}):dD c C (.builtin "iter") [v] S K X:=by
 intro A F bs s rs hA z hv;refine e1a1 hv.one λr FB h1=>?_;refine rE FB ?_;clear hv;refine e2a3 (z.seq h h1) λl vs Ix hL be zz=>?_;clear FB;obtain rfl:=Ix;refine Calls.call_function_entry (rfl) (rfl) kdk_entry_iter (kdk_args_iter _) ?_;refine ah (m:=someArgs "iter" 1 2 _) (aM ?_);refine ah (wpAny_pyIter_list hL.isList (aM (ae _ rfl ?_)));obtain mv:bf c F bs s {s with heap:=s.heap.push {cls:=.type "list_iterator",data:=.fields #[.ref l,.int 0 0]}}:=⟨λb o e=>bU _ e,rfl,rfl⟩
 refine z.Gp (o:=.gF v 0) mv (St.fm s) (cT _ rfl) ?_ k;exact (ae l (cU.mono (λzz zz e=>e) h1) (cT _ rfl))
theorem As (h:S.heap[k]?=some (.gF l i))(kk:K (.bm "method-wrapper" (.builtin "list_iterator.__next__") (.ref k)) S):wk c C "__next__" (.ref k) S K X:=by
 intro A F bs s r hA z hv;refine e1a3 (z.gZ hv h) λa IA ha FF zz=>?_;obtain rfl:=IA;refine e1a1 FF λla h1 h2=>?_;clear FF;obtain ⟨hp,g,d,t,os⟩:=s;refine next_attr_li h2 ?_;obtain hn:hp.get? hp.objs.size=none:=gE (bu _);obtain mv:bf c F bs ⟨hp,g,d,t,os⟩ ⟨hp.push (wrapObj (.builtin "list_iterator.__next__") (.ref a)),g,d,t+1,os⟩:=⟨λb o e=>bU _ e,rfl,rfl⟩
 refine ⟨_,bs,.bm "method-wrapper" (.builtin "list_iterator.__next__") (.ref k),S,.frozen mv (z.jE hn) hn,z.ja mv hn (cT _ rfl),.bm (r:=.ref a) b9 ?_,kk⟩;simpa using cU.mono (nb:=[]) (aW (z.jE hn)) hv
theorem Au (ho:s.heap.get? q=some (wrapObj (.builtin "list_iterator.__next__") self))(hT:s.TypeIs self "list_iterator")
 (h:codeAny (model c.prog c.w) A (.builtin "list_iterator.__next__" ⟨[self],[]⟩) R s):codeAny (model c.prog c.w) A (.call (.ref q) ⟨[],[]⟩) R s:=by
 refine codeAny_of_tree ?_;refine nd_load ho ?_;show wpAny _ _ (checkBoundCall "list_iterator.__next__" ⟨[self],[]⟩ >>= λzz=>again (.builtin "list_iterator.__next__" ⟨[self],[]⟩)) _ _ _;obtain hc:checkBoundCall "list_iterator.__next__" ⟨[self],[]⟩=pure ():=by kernel_rfl
 refine ah (wpAny_of_eq hc (aM ⟨plainId_quiet (by decide +kernel) _,h⟩))
theorem wo {f:Expr}(hh:C.handled=none)
 (h:Ev c C f S (λfv Z=>∃k l i xs,fv=.bm "method-wrapper" (.builtin "list_iterator.__next__") (.ref k)/\Z.heap[k]?=some (.gF l i)/\cm Z l xs /\
  (match xs[i]? with | some y=>K y {Z with heap:=Z.heap.set k (.gF l (i+1))} | none=>X "StopIteration" {Z with heap:=Z.heap.set k .gone})) X)
 (he:eval (.Call f [] [] pos) C.env=(do callWith pos (<-eval f C.env) [] (backTo pos (starEach [] C.env)) (backToKw pos (keywordEach [] C.env))):=by rfl):Ev c C (.Call f [] [] pos) S K X:=by
 intro A F bs s hA z;rw [he];refine WP.bind (h A F bs s hA z) λF₁ bs₁ Z O v r al an hv NR=>e4a3 NR λk l i xs e hk NP k₁=>?_;clear NR;subst e;refine e2a2 hv.inv λq oS FA kZ sO=>?_;refine rE FA ?_;obtain hq:O.heap.get? q=some (wrapObj (.builtin "list_iterator.__next__") oS):=an.wd.sub _ _ kZ;clear kZ;refine e1a3 (an.gZ sO hk) λa Iz ha FD Xp=>?_;obtain rfl:=Iz;refine e1a1 FD λla Xq hit=>?_;clear FD;refine e2a3 (an.seq NP Xq) λl' vs e hL be zz=>?_;obtain rfl:=Value.ref.inj e;obtain hT:O.TypeIs (.ref a) "list_iterator":=(ae _ hit rfl)
 show wpAny _ _ (callWith pos (.ref q) [] (backTo pos (starEach [] C.env)) []) _ _ _;refine callWith_of (P:=λh=>h.get? q=some (wrapObj (.builtin "list_iterator.__next__") (.ref a))) rfl (λh X=>⟨.machine,.inr (.inl rfl),(Looks.ld (part:=none) X).andThen .now⟩) (evalArgs_nil3 ⟨hq,?_⟩);show wpAny _ _ (call (.ref q) []) _ _ _;refine wpAny_call (Au hq hT (codeAny_builtin entry_listiter_next ?_));rw [Around.under_plainId (by decide +kernel) _];refine e1a0 (id hL) λol PO=>?_;show wpAny _ _ (field (.ref a) 0 >>= _) _ _ O;refine ah (wpAny_field hit rfl (x:=.ref la) rfl ?_);show wpAny _ _ (if (Value.ref la==Value.none)=true then _ else _) _ _ O;rw [if_neg (show ¬((Value.ref la==Value.none)=true) from Bool.false_ne_true)];show wpAny _ _ (field (.ref a) 1 >>= _) _ _ O;refine ah (wpAny_field hit rfl (x:=.int i 0) rfl ?_);show wpAny _ _ (seqItems? (.ref la) >>= _) _ _ O;refine ah (wpAny_seqItems PO rfl ?_);obtain Gn:=ct ha;cases hx:xs[i]? with
 | some y =>
   rw [hx] at k₁;refine e1a1 (be.get hx) λw hw JO=>?_;obtain un:vs.toArray[i]?=some w:=by simpa using hw
   simp only [Int.toNat_natCast,un];refine ah (wpAny_setField hit rfl (by simp) (aM ?_));generalize bv:({O with heap:=O.heap.update a (Obj.mapFields (·.setIfInBounds 1 (rawInt ((i:Int)+1))))}:Shared)=ac;obtain g:ac.heap.get? a=some {cls:=.type "list_iterator",data:=.fields #[.ref la,.int ((i+1:Nat):Int) 0]}:=by rw [<-bv];show (O.heap.update a _).get? a=_;rw [hK _ hit (Obj.isFreed_of_fields (Obj.data_mapFields rfl _))];rfl
   obtain Fu:Heap.SameBut a O.heap ac.heap:=by rw [<-bv];exact Heap.SameBut.update ..
   obtain T:fG a O ac:=⟨λb q o e=>(Fu.2 b q).trans e,(ck _ g),by rw [<-bv],by rw [<-bv]⟩
   exact ⟨F₁,bs₁,y,_,.upd T (.inl Gn),an.upd T ha hk (by simp) (o':=.gF l (i+1)) (ae la Xq g),JO,k₁⟩
 | none =>
   rw [hx] at k₁;obtain un:vs.toArray[i]?=none:=by simpa using be.get_none hx
   simp only [Int.toNat_natCast,un];refine ah (wpAny_rule (ah (wpAny_setField hit rfl (by simp) ?_)));generalize bv:({O with heap:=O.heap.update a (Obj.mapFields (·.setIfInBounds 0 Value.none))}:Shared)=ac;obtain g:∃o,ac.heap.get? a=some o:=by rw [<-bv];exact (ck _ (hK _ hit (Obj.isFreed_of_fields (Obj.data_mapFields rfl _))))
   obtain Fu:Heap.SameBut a O.heap ac.heap:=by rw [<-bv];exact Heap.SameBut.update ..
   obtain T:fG a O ac:=⟨λb q o e=>(Fu.2 b q).trans e,g,by rw [<-bv],by rw [<-bv]⟩
   obtain aJ:=an.upd T ha hk (by simp) (o':=.gone) trivial;obtain am:Step C.own F₁ bs₁ O.heap F₁ bs₁ ac.heap:=.upd T (.inl Gn);refine ah ?_;refine ah (wpAny_newObj_type ?_ (by size_fits));refine ah (m:=firstArgMember _ _) (wpAny_of_eq (a:=Value.none) (by first | rfl | (simp only [firstArgMember];rfl)) ?_);refine wpAny_newObj_type ?_ (by size_fits);refine ah (wpAny_handled ?_);rw [show A.in1.handled=none from hA.handled.trans hh];refine ah (aM (wpAny_throw ?_));obtain x:∀ht,Heap.NewExc ac.heap ((ac.heap.push {cls:=.type "tuple",data:=.seq ([]:iy).toArray}).push {cls:=.type "StopIteration",data:=.fields (#[ht,.none,.none,.none,.bool false,.none]++#[])}) (ac.heap.push {cls:=.type "tuple",data:=.seq ([]:iy).toArray}).objs.size "StopIteration":=by intro ht;exact ⟨λb o e=>bU _ (bU _ e),gE (by rw [fh];exact Nat.le_succ _),_,ht,cT _ rfl,rfl,rfl⟩
   obtain r:=aJ.raised (s':={ac with heap:=_}) (x (.ref ac.heap.objs.size)) (rfl) (by decide) rfl rfl rfl;exact ⟨F₁,bs₁,"StopIteration",_,am.trans r.1,r.2.1,r.2.2.back am.mono,k₁⟩
theorem uw (h:c.SV F bs kvs rs)(x:Str):c.SV F bs (xB kvs x) (without rs x):=aU.del x h
theorem DS {K:ip}(h:Ev c C o S (λov Z=>Ev c C i Z (λiv aF=>∃k x kvs,ov=.ref k/\iv=.str x/\aF.heap[k]?=some (.az kvs)/\kvs.length<=sizeLine/\(bB kvs x).isSome=true/\K .next {aF with heap:=aF.heap.set k (.az (xB kvs x))}) X) X) :
 nH c C (.Delete [.Subscript o i tp] pos) S K X:=by
 intro A F bs s hA z;show wpAny _ _ (do standAt pos;(do (do let ov <-eval o C.env;let iv <-holding [ov] (eval i C.env);standAt tp;holding [ov,iv] (delItem ov iv);release [ov,iv] []);pure ());pure Flow.next) _ _ _;refine ah (wpAny_standAt ?_);refine ah (ah ?_);refine ah (aQ (h A F bs s hA z) (λov O NS=>NS.casesOn λF₁ bs₁ v Z al an hv k₁=>?_) λzz zz e=>e);refine ah (wpAny_holding (aQ (k₁ A F₁ bs₁ O hA an) (λiv ac ⟨aX,ap,v',aF,am,aJ,lG,k,x,kvs,e1,e2,hk,hl,hx,k₂⟩=>?_) λx ac Tz=>Tz.casesOn λaX ap cls aF am aJ hx k₂=>⟨aX,ap,cls,aF,al.trans am,aJ,hx.back al.mono,k₂⟩));clear k₁;subst e1 e2;refine ah (wpAny_standAt ?_);have NT:=am.V hv;clear hv NS;refine e1a3 (aJ.gZ NT hk) λa NU ha FC zz=>?_;refine e1a1 FC λrs hD mt=>?_;clear FC;refine rE NU ?_;refine e1a0 lG.inv λtk zW=>?_;refine rE zW ?_;obtain ua:=hD.dictOf;refine ah (wpAny_holding (wpAny_delItem_slot ua.typeIs (rfl) PySem.F.slot_dict_delitem (call_meetsIn PySem.F.slot_dict_delitem ua.typeIs PySem.F.entry_dict_delitem (PySem.F.args_dict_delitem_2 _ _) (meets_dict_delitem_pairs (sk c.prog c.w) a (str_is x tk)) (lQ rs ua (by refine rE (aU.length mt) ?_;exact hl) ?_ (λh' hm hs=>?_)))))
 . (refine aN (aU.get x mt) (λGg=>?_) (λGf=>?_);refine e2a2 Gg λy w e1 e2 e3=>?_;rotate_left;refine e0a1 Gf λe1 e2=>?_;rotate_right)
   . refine rE e2 ?_;rfl
   . replace hx:=e1▸hx;cases hx
 . refine wpAny_release (aM (aM ?_));obtain JM:(a==sysModules)=false:=let ⟨_,_,_,_,_,_,q⟩:=hD;q;refine e3a1 (id hm) λob zz zz kZ zz=>?_;obtain this:=aJ.NI (s':={ac with heap:=h',toks:=ac.toks+1}) (o':=.az (xB kvs x)) ha hk (by simp) hs rfl rfl rfl (ck ob kZ) (ae (without rs x) (oB.xx hm JM) (uw mt x));exact ⟨aX,ap,.next,_,(al.trans am).trans this.1,this.2,rfl,k₂⟩
end
end Mine.Internal
namespace Mine.Internal
open PySem PyProof.Rows
structure kE where
 params:Arguments
 body:fk
 scope:Scope
structure Lf where
 f:kE
 es:dM
noncomputable def Fv:kE:=⟨⟨[],[],none,[],[],none,[]⟩,[],{kind:=.function,names:=[],isGenerator:=false,isCoroutine:=false}⟩
noncomputable def Xr:Expr->Lf
 | .ListComp _ _ sc _=>⟨{Fv with scope:=sc},[]⟩
 | .DictComp _ _ _ sc _=>⟨{Fv with scope:=sc},[]⟩
 | .Lambda ps b sc _=>⟨⟨ps,[],sc⟩,[b]⟩
 | .Call _ _ ks _=>⟨Fv,ks.map (·.value)⟩
 | _=>⟨Fv,[]⟩
noncomputable def stP:Stmt->Lf
 | .FunctionDef _ a b _ _ _ s _ _ _=>⟨⟨a,b,s⟩,[]⟩
 | .ClassDef _ _ _ b _ _ _ _ _ _ _=>⟨{Fv with body:=b},[]⟩
 | .While _ b _ _=>⟨{Fv with body:=b},[]⟩
 | .For _ _ b _ _=>⟨{Fv with body:=b},[]⟩
 | .Assign _ e _=>Xr e
 | .Return e _=>⟨Fv,e.toList⟩
 | _=>⟨Fv,[]⟩
noncomputable def xT (ss:fk)(i:Nat):Lf:=(ss[i]?.map stP).getD ⟨Fv,[]⟩
noncomputable def dg (ss:fk)(i:Nat):kE:=(xT ss i).f
noncomputable def nV (ss:fk)(i:Nat):fk:=(xT ss i).f.body
inductive TA (c:bc)(fa:Addr)(f:kE)(dV:Value):Prop
 | mk (o:Obj) (fd:FuncData) (h1:c.h₀.get? fa=some o) (h2:o.cls≠.none) (h3:o.data=.func fd) (h4:fd.params=f.params) (h5:fd.body=.stmts f.body) (h6:fd.scope=f.scope) (h7:fd.globals=mainGlobals) (h8:fd.builtins=builtinsNs) (h9:fd.closure=[]) (Lg:fd.defaults=dV) (NV:fd.kwdefaults=.none) (NW:CA c.h₀ fd.code fd.qualname)
structure eG (c:bc)(fa:Addr)(f:kE)(dV:Value):Prop where
 at_:TA c fa f dV
noncomputable abbrev qK (f:kE)(env:Env)(own:aO)(frames:List Env)(n:Nat)(vars:ag):Cx:=⟨{env with scope:=f.scope},own,frames,none,n,vars⟩
section
variable {c:bc}{mg mb:fV}
@[reducible] def Stores (C:Cx):Prop:=∀(i:Nat) x,C.vars[i]?=some x->bG C (λzz=>none) x
noncomputable def ux (f:kE)(names vars:ag):Bool:=f.scope.kind==.function&&!f.scope.isCoroutine&&!f.scope.isGenerator&&decide vars.Nodup&&names.isPrefixOf vars&&vars.all (λp=>f.scope.names.lookup p==some .local||f.scope.names.lookup p==some .cell)
theorem eG.call (B:Base c mg mb)(F:eG c fa f dV){K:AV->bg->Prop}(binds:eQ)(names vars:ag)(lc:fi)
 (hb:∀fd:FuncData,fd.params=f.params->fd.defaults=dV->fd.kwdefaults=.none->mM c fd args binds)
 (Gv:dp 0 binds []=lc) (At:binds.map (·.1)=names) (eI:ux f names vars=true)
 (h:∀env own frames,Stores (qK f env own frames n vars)->gJ (qK f env own frames n vars) ->
  Ex c (qK f env own frames n vars) f.body ⟨lc,H⟩ (FJ K) gX):bz c (n+1) (.ref fa) args H K:=by
 subst Gv At;obtain ⟨o,fd,h1,h2,h3,h4,h5,h6,h7,h8,h9,Lg,NV,NW⟩:=F.at_;simp only [ux,cZ,Bool.not_eq_true',beq_iff_eq,decide_eq_true_eq] at eI;refine e0a1 eI λo1 k4=>?_;clear eI;refine e0a1 o1 λo2 k6=>?_;clear o1;refine e0a1 o2 λo3 k5=>?_;clear o2;refine e0a1 o3 λo4 k3=>?_;clear o3;obtain ⟨k1,k2⟩:=o4;refine e1a0 (List.isPrefixOf_iff_prefix.mp k6) λt ht=>?_;refine enter B vars k5 (λj p e=>?_) h1 h2 h3 h5 NW h7 h8 h9 (by refine rE h6 ?_;exact k1) (by rw [h6];exact k2) (by rw [h6];exact k3) (hb fd h4 Lg NV) (λx v m=>?_) λC op=>?_
 . rw [<-ht,eN (by rw [fz];exact (bN e).1),dw,e];rfl
 . obtain this:=List.all_eq_true.mp k4 x (by rw [<-ht];exact fg (.inl (dm (ae (x,v) m rfl))));refine rE h6 ?_;simpa using this
 . obtain ⟨env,own,frames,hd,n',vs⟩:=C;obtain e1:vs=vars:=op.vars;obtain e2:hd=none:=op.handled;obtain e3:n'=n:=op.n;clear ht k6;subst e1 e2 e3;have e4:env={env with scope:=f.scope}:=by obtain this:env.scope=f.scope:=op.scope.trans h6;rw [<-this]
   refine rE e4 ?_;refine h env own frames (λi x hx=>?_) ?_
   rotate_left
   . refine e1a0 op.frames λfr jp=>?_;replace jp:=e4▸jp;exact (ck fr jp)
   obtain hk:=op.kind x;rw [e4] at hk;obtain this:=List.all_eq_true.mp k4 x (ct hx);rcases Bool.or_eq_true_iff.mp this with q | q
   . exact .inl (hk.trans (by rw [h6];simpa using q))
   . obtain w:=op.cell x (by rw [h6];simpa using q);replace w:=e4▸w;exact w
theorem eG.en (B:Base c mg mb)(F:eG c fa f dV){K:AV->bg->Prop}(names:ag)(vars:ag)(lc:fi)
 (hb:Plain f.params dV names args.length) (hlen:names.length=args.length) (Gv:dp 0 (names.zip args) []=lc) (eI:ux f names vars=true)
 (h:∀env own frames,Stores (qK f env own frames n vars)->gJ (qK f env own frames n vars) ->
  Ex c (qK f env own frames n vars) f.body ⟨lc,H⟩ (FJ K) gX):bz c (n+1) (.ref fa) args H K :=
 eG.call B F (names.zip args) names vars lc (λzz h1 h2 h3=>hb.bind h1 h2 h3) Gv (List.map_fst_zip (Nat.le_of_eq hlen)) eI h
end
noncomputable abbrev iC:fk:=Challenge.pw_oc0219_01.main.body
noncomputable def uy:kE:=dg iC 13
def c9 (mg mb:fV)(x:Str)(v:Value):Prop:=mg x=none/\mb x=some v
section
variable {c:bc}{C:Cx}{S:AS}{mg mb:fV}
noncomputable def bO (l:ag)(num:Int):Nat->ag×List Str×Int
 | 0=>(l,[],num)
 | i+1=>let p:=bO l num i;let size:Int:=5+i*-1;let j:=(p.2.2.fmod size).toNat
   (p.1.eraseIdx j,p.2.1++[p.1.getD j ""],p.2.2.fdiv size)
theorem nX:bO l num 0=(l,[],num):=rfl
theorem nY:bO l num (i+1)=(let p:=bO l num i;let size:Int:=5+i*-1;let j:=(p.2.2.fmod size).toNat;(p.1.eraseIdx j,p.2.1++[p.1.getD j ""],p.2.2.fdiv size)):=rfl
theorem kF (l:ag)(hl:l.length=5)(num:Int):∀i,i<=5->(bO l num i).1.length=5 - i/\(bO l num i).2.1.length=i:=by
 intro i;induction i with
 | zero =>intro _;trivial
 | succ i ih =>
   intro h;obtain hs:(0:Int) < 5+i*-1:=yQ h;obtain hj:((bO l num i).2.2.fmod (5+i*-1)).toNat < (bO l num i).1.length:=by obtain this:=Int.fmod_lt_of_pos (bO l num i).2.2 hs;exact Ck ih h this
   simp only [nX,nY,List.length_eraseIdx,List.length_append,hj,if_true,List.length_singleton];exact (⟨congrArg Nat.pred (ih (bF h)).1,congrArg Nat.succ (ih (bF h)).2⟩)
theorem wq (B:Base c mg mb)(hf:eG c fa uy .none)(fB:c9 mg mb "list" (.type "list"))(lp:c9 mg mb "range" (.type "range"))(rI:c9 mg mb "len" (.builtin "len"))(x:Str)(hx:x.length=5)(num:Int)(n:Nat) :
 bz c (n+1) (.ref fa) [.str x,.int num] [] (λv zz=>v.under 0=true/\v=.lst ((bO (chars x) num 5).2.1.map .str)):=by
 refine hf.en B ["names","number"] ["names","number","left","order","size"] [(0,.str x),(1,.int num)] (λzz zz zz=>rfl) rfl rfl (by decide +kernel) λenv own frames bd jN=>?_
 . refine ab (ku [(2,"left"),(3,"order")] rfl bd (by simp) ?_ (by rfl) (by rfl));refine cQ (aR (bQ (.type "list") (bT B (by rfl) fB.1 fB.2 ⟨rfl,?_⟩)));refine aw (aa 0 (by rfl) (by rfl) ?_);refine zb rfl (by rw [show x.cps.size=5 from hx];decide) (.inr ?_);rw [vP];refine aw (eY (bM ⟨by simp [sizeLine],(tS (by simp [sizeLine]) _ rfl rfl ?_)⟩));refine ab (c8 rfl (vM (bT B (by rfl) lp.1 lp.2 ⟨rfl,?_⟩)));refine aR (bQ (.builtin "len") (bT B (by rfl) rI.1 rI.2 ⟨rfl,?_⟩));refine aw (aa 0 (by rfl) (rfl) (I2 (by rw [hx];decide) ?_));rw [hx];refine aR (bH (aw (mK (bH (nK ?_)))));refine ⟨5,0,(-1),(.inr (aG rfl (by decide) rfl)),rfl,5,rfl,?_⟩;refine ⟨λi S'=>S'=⟨[(0,.str x),(1,.int (bO (chars x) num i).2.2),(3,.ref 1),(2,.ref 0)],[.list ((bO (chars x) num i).1.map .str),.list ((bO (chars x) num i).2.1.map .str)]⟩,rfl,λzz zz zz=>trivial,?_,?_⟩
   . intro i y S' hy hI;subst hI;have hi:i < 5:=by have:=(List.getElem?_eq_some_iff.mp hy).1;simpa using this
     rw [List.getElem?_map,List.getElem?_range hi] at hy;cases hy;refine e0a1 (kF (chars x) ((jI x).trans hx) num i (Nat.le_of_lt hi)) λh1 h2=>?_;have hs:(0:Int) < 5+i*-1:=BH hi;generalize im:bO (chars x) num i=st at h1 h2;have Xs:=Int.fmod_nonneg_of_pos (a:=st.2.2) hs;have Gw:=Int.fmod_lt_of_pos st.2.2 hs;refine au 4 rfl (bd 4 _ rfl) (mV 2 [(0,.str x),(1,.int (st.2.2.fdiv (5+i*-1))),(3,.ref 1),(2,.ref 0)] rfl ?_);refine ab (bZ (cb "list" "list.append" PySem.F.plainAttrs_list PySem.F.slot_list_append PySem.F.type_list_append ?_) (rfl));refine aa 3 rfl rfl ⟨rfl,?_⟩;refine aw (cb "list" "list.pop" PySem.F.plainAttrs_list PySem.F.slot_list_pop PySem.F.type_list_pop ?_);refine aa 2 rfl rfl ⟨by rfl,?_⟩;refine aw (ee (aa 1 rfl rfl (aa 4 rfl rfl (xt (yU hi) ?_))));refine za (j:=(st.2.2.fmod (5+i*-1)).toNat) (y:=.str (st.1.getD (st.2.2.fmod (5+i*-1)).toNat "")) rfl (by simp [h1,sizeLine];exact (by simp +arith)) ?_ ?_ (Bw Xs) (BA Gw) ?_
     . rw [List.length_map,h1];exact seqIndex_of Xs (Bz Gw)
     . rw [List.getElem?_map,List.getD_eq_getElem?_getD,List.getElem?_eq_getElem (by rw [h1];exact BC Gw hi)];rfl
     refine dR rfl (by simp [h2,sizeLine];exact ey hi rfl) ?_;refine ab (dd 1 rfl rfl (bd 1 _ rfl) (aa 4 rfl rfl (t7 (yU hi) (PyProof.noPylong_small (BG hi)) ?_)));refine ax (aG (ix rfl rfl rfl rfl rfl rfl rfl rfl trivial) ?_ ?_)
     . simp only [List.take,List.set,Rn,Ro,Q7,Q8,lZ,aI,strs_snoc];rfl
     . simp only [List.take,List.set,nX,nY,im,lZ,strs_snoc]
   . intro S' hI;subst hI;refine ei (fu.list 3 rfl rfl) ?_;refine ab (bj (aa 3 rfl rfl ⟨?_,rfl⟩));simp [aI]
end
noncomputable def br {κ α β:Type}(f:α->β)(kvs:List (κ×α)):List (κ×β):=kvs.map λp=>(p.1,f p.2)
theorem eF {κ α β:Type} [DecidableEq κ] (f:α->β)(kvs:List (κ×α))(k:κ):bB (br f kvs) k=(bB kvs k).map f:=by
 induction kvs with
 | nil=>rfl
 | cons p l ih =>
   by_cases e:p.1=k
   . simp [bB,br,e]
   . simp only [bB,br,List.map_cons,List.find?_cons,e,decide_false] at ih ⊢;exact ih
theorem ji {κ α β:Type} [DecidableEq κ] (f:α->β)(kvs:List (κ×α))(k:κ)(v:α):df (br f kvs) k (f v)=br f (df kvs k v):=by
 delta df br;obtain h:(kvs.map λp=>(p.1,f p.2)).any (λkv=>decide (kv.1=k))=kvs.any (λkv=>decide (kv.1=k)):=by simp [Function.comp_def]
 rw [h]
 split
 . simp only [List.map_map];apply List.map_congr_left;intro p _;by_cases e:p.1=k <;> simp [e]
 . simp
theorem dJ (n:Nat)(f:α->AV)(hf:∀x,(f x).under n=true)(kvs:List (Str×α)):AV.iX n (br f kvs)=true:=by
 induction kvs with
 | nil=>rfl
 | cons p l ih=>exact Bool.and_eq_true_iff.mpr ⟨hf _,ih⟩
noncomputable abbrev af (l:ag):AV:=.lst (l.map .str)
theorem bb (n:Nat)(l:ag):(af l).under n=true:=by simp [aI]
noncomputable def uz:kE:=dg iC 17
noncomputable def cz (p:List (Str×List Str)×List Str)(x:Str):List (Str×List Str)×List Str :=
 if (bB p.1 x).isSome then (p.1,p.2++[x]) else (df p.1 x (cg p.2),p.2)
noncomputable def cn (ev:ag)(i:Nat):List (Str×List Str)×List Str:=(ev.take i).foldl cz ([],[])
noncomputable def shown (ev:ag):List (Str×List Str):=(ev.foldl cz ([],[])).1
theorem jO (ev:ag)(i:Nat)(x:Str)(h:ev[i]?=some x):cn ev (i+1)=cz (cn ev i) x:=by delta cn;simp only [List.take_succ,h];simp
theorem iQ {κ α:Type} [DecidableEq κ] (kvs:List (κ×α))(k:κ)(v:α):(df kvs k v).length<=kvs.length+1:=by delta df;split <;> simp
theorem wt (ev:ag)(i:Nat):(cn ev i).1.length<=i/\(cn ev i).2.length<=i:=by
 induction i with
 | zero=>simp [cn]
 | succ i ih =>
   cases h:ev[i]? with
   | none =>
     obtain this:ev.take (i+1)=ev.take i:=by simp only [List.take_succ,h];simp
     unfold cn at ih ⊢;rw [this];exact (⟨Nat.le_succ_of_le ih.1,Nat.le_succ_of_le ih.2⟩)
   | some x =>
     rw [jO ev i x h];delta cz
     split
     . simp;exact (⟨Nat.le_succ_of_le ih.1,ih.2⟩)
     . obtain this:=iQ (cn ev i).1 x (cg (cn ev i).2)
       skip;exact (⟨aV this (Nat.succ_le_succ ih.1),Nat.le_succ_of_le ih.2⟩)
section
variable {c:bc}{C:Cx}{S:AS}{mg mb:fV}
theorem DT (B:Base c mg mb)(hf:eG c fa uz .none)(fB:c9 mg mb "sorted" (.builtin "sorted"))(ev:ag)(Lh:ev.length < 60)(n:Nat) :
 bz c (n+1) (.ref fa) [af ev] [] (λv zz=>v.under 0=true/\v=.aZ (br af (shown ev))):=by
 refine hf.en B ["events"] ["events","downs","over","name"] [(0,af ev)] (λzz zz=>rfl) rfl rfl (rfl) λenv own frames bd jN=>?_
 . refine ab (ku [(1,"downs"),(2,"over")] rfl bd (by simp) ?_ (by rfl) (by rfl));refine cQ (aR (ky B ?_));refine aw (eY (bM ⟨by simp [sizeLine],(tS (by simp [sizeLine]) _ rfl rfl ?_)⟩));refine ab (c8 rfl (eA (aa 0 rfl rfl (ae _ (.inl rfl) ?_))));refine ⟨λi S'=>S'=⟨[(0,af ev),(2,.ref 1),(1,.ref 0)],[.az (br af (cn ev i).1),.list ((cn ev i).2.map .str)]⟩,rfl,λi S' e=>.inl rfl,?_,?_⟩
   . intro i y S' hy hI;refine rE hI ?_;rw [dw] at hy;cases hx:ev[i]? with
     | none=>rw [hx] at hy;cases hy
     | some x =>
       rw [hx] at hy;cases hy;refine e0a1 (wt ev i) λh1 h2=>?_;have hi:i < 60:=by have:=(bN hx).1;exact Nat.lt_trans this Lh
       have hs:=jO ev i x hx;generalize cn ev i=st at h1 h2 hs;refine au 3 rfl (bd 3 _ rfl) (mV 2 [(0,af ev),(2,.ref 1),(1,.ref 0)] rfl ?_);refine ab (bP (bh (aa 3 rfl rfl (aa 1 rfl rfl (C2 (.inr (ae 0 rfl rfl)) (aT ?_))))));rw [eF,Option.isSome_map];cases hb:(bB st.1 x).isSome with
       | true =>
         refine ab (bZ (cb "list" "list.append" PySem.F.plainAttrs_list PySem.F.slot_list_append PySem.F.type_list_append (aa 2 rfl rfl ⟨rfl,?_⟩)) (rfl));refine aw (aa 3 rfl rfl (dR rfl (by simp [sizeLine];exact ey (cD h2 hi) rfl) ?_));refine ax (ax (aG ⟨rfl,(bb _ _),rfl,rfl,rfl,rfl,trivial⟩ ?_ ?_))
         . simp only [List.take,List.set,Rn,Ro,Q7,Q8,strs_snoc,aI,dJ _ _ (bb _)];rfl
         . simp only [List.take,List.set,hs,strs_snoc,cz,hb,if_true]
       | false =>
         refine ab (av (bQ (.builtin "sorted") (bT B (rfl) fB.1 fB.2 ⟨rfl,?_⟩)));refine aw (aa 2 rfl rfl (sG (.inr (ae 1 rfl rfl)) (hZ (cD h2 hi) rfl) (.inl ?_)));refine kA (aa 1 rfl rfl (aa 3 rfl rfl (il 0 x _ rfl rfl rfl ?_ ?_)))
         . simp [br,sizeLine];exact ey (cD h1 hi) rfl
         refine ax (ax (aG ⟨rfl,(bb _ _),rfl,rfl,rfl,rfl,trivial⟩ ?_ ?_))
         . simp only [List.take,List.set,Rn,Ro,Q7,Q8,aI,ji af,dJ _ _ (bb _)];rfl
         . simp only [List.take,List.set,hs,cz,hb,ji af];rfl
   . intro S' hI;subst hI;refine ei (fu.az 1 rfl rfl) ?_;refine ab (bj (aa 1 rfl rfl ⟨?_,?_⟩))
     . simp [dJ _ _ (bb _)]
     . simp [cn,shown]
end
noncomputable def fText:kE:=dg iC 19
noncomputable def oU (x y:Str):Bool:=!(Builtin.Str.occurrences x y 0 x.length 1).isEmpty
noncomputable def iD (ev:ag)(t:Str)(i:Nat)(x:Str):Str :=
 if (ev.take i).any (·==x) then t++((Str.ofString "\\"++x)++Str.ofString "\n")
 else t++((Str.ofString "\""++(if oU "\"\\" x then Str.ofString "\\"++x else x))++Str.ofString "\"")
noncomputable def textSt (ev:ag):Nat->Str
 | 0=>Str.ofString ""
 | i+1=>iD ev (textSt ev i) i (ev.getD i "")
theorem len_app (x y:Str):(x++y).length=x.length+y.length:=by show (x.cps++y.cps).size=_;simp [Str.length]
theorem qL (ev:ag)(h1:∀x∈ev,x.length=1)(i:Nat)(h:i<=ev.length):(textSt ev i).length<=4*i:=by
 induction i with
 | zero=>show (Str.ofString "").length<=0;decide +kernel
 | succ i ih =>
   have hx:(ev.getD i "").length=1:=by simp only [fW,cp h];exact h1 _ (List.getElem_mem _)
   obtain e1:(Str.ofString "\\").length=1:=rfl;obtain e2:(Str.ofString "\n").length=1:=rfl;obtain e3:(Str.ofString "\"").length=1:=rfl;dsimp only [textSt,iD]
   split
   . simp only [len_app,hx,e1,e2];exact vm ‹_› h
   . split <;> simp only [len_app,hx,e1,e3] <;> first | exact B6 ‹_› h | exact vm ‹_› h
section
variable {c:bc}{C:Cx}{S:AS}{mg mb:fV}
theorem Gy (B:Base c mg mb)(hf:eG c fa fText .none)(fB:c9 mg mb "enumerate" (.type "enumerate"))(ev:ag)(Lh:ev.length < 60)(h1:∀x∈ev,x.length=1)(n:Nat) :
 bz c (n+1) (.ref fa) [af ev] [] (λv zz=>v.under 0=true/\v=.str (textSt ev ev.length)):=by
 refine hf.en B ["events"] ["events","text","place","name"] [(0,af ev)] (λzz zz=>rfl) rfl rfl (rfl) λenv own frames bd jN=>?_
 . refine ab (av (dj (au 1 rfl (bd 1 _ rfl) ?_)));refine ab (c8 rfl (ud (bT B (rfl) fB.1 fB.2 ⟨rfl,aa 0 rfl rfl (ae _ rfl ?_)⟩) rfl));refine ⟨λi S'=>S'=⟨[(0,af ev),(1,.str (textSt ev i))],[]⟩,rfl,λi S' e=>trivial,?_,?_⟩
   . intro i y S' hy hI;refine rE hI ?_;rw [dw,List.getElem?_zipIdx,dw] at hy;cases hx:ev[i]? with
     | none=>rw [hx] at hy;cases hy
     | some x =>
       rw [hx] at hy;cases hy;obtain hi:i < ev.length:=(bN hx).1;obtain hl:=qL ev h1 i (bX hi);obtain Av:x.length=1:=h1 x (ct hx);obtain hg:ev.getD i ""=x:=by rw [fW,hx];rfl
       obtain e1:(Str.ofString "\\").length=1:=rfl;obtain e2:(Str.ofString "\n").length=1:=rfl;obtain e3:(Str.ofString "\"").length=1:=rfl;refine (aG rfl rfl (au 2 rfl (bd 2 _ rfl) (au 3 rfl (bd 3 _ rfl) ?_)));refine mV 0 [(0,af ev),(1,.str (textSt ev (i+1)))] rfl ?_;refine ab (bP (bh (aa 3 rfl rfl (jd (aa 0 rfl rfl (aa 2 rfl rfl (ae _ rfl ?_)))))));refine (lQ _ (.inl rfl) (by simp [ql]) (by simp [sizeLine];exact tx Lh) (.inl ?_));obtain e:cutOf none (some ((0+i:Nat):Int)) (ev.map AV.str)=(ev.take i).map AV.str:=by simp [cutOf,List.map_take]
       rw [e];refine qj (.inl rfl) (aT ?_);cases hb:(ev.take i).any (·==x) with
       | true =>
         refine ab (dd 1 rfl rfl (bd 1 _ rfl) (ee (ee (dj (aa 3 rfl rfl (jG ?_ (dj (jG ?_ (gI ?_ ?_)))))))))
         . rw [Av,e1];decide
         . rw [len_app,Av,e1,e2];decide
         . simp only [len_app,Av,e1,e2,sizeLine];exact vr Lh hi hl
         refine ax (ax (aG (fC rfl (bb _ _) ?_ rfl trivial) rfl rfl));simp only [textSt,iD,hg,hb,if_true];rfl
       | false =>
         refine ab (dd 1 rfl rfl (bd 1 _ rfl) (ee (ee (dj (vT (bh (aa 3 rfl rfl (dj (xD (aT ?_))))))))));cases hq:!(Builtin.Str.occurrences (Str.ofString "\"\\") x 0 (Str.ofString "\"\\").length 1).isEmpty with
         | true =>
           refine ee (dj (aa 3 rfl rfl (jG ?_ (jG ?_ (dj (jG ?_ (gI ?_ ?_)))))))
           . rw [Av,e1];decide
           . rw [len_app,Av,e1,e3];decide
           . simp only [len_app,Av,e1,e3];decide
           . simp only [len_app,Av,e1,e3,sizeLine];exact (mx (Nat.add_le_add_right (aV hl (Nat.mul_le_mul_left 4 (bF (Nat.lt_trans hi Lh)))) 4) rfl)
           refine ax (ax (aG (fC rfl (bb _ _) ?_ rfl trivial) rfl rfl));simp only [textSt,iD,hg,hb,oU,hq];rfl
         | false =>
           refine aa 3 rfl rfl (jG ?_ (dj (jG ?_ (gI ?_ ?_))))
           . rw [Av,e3];decide
           . simp only [len_app,Av,e3];decide
           . simp only [len_app,Av,e3,sizeLine];exact vr Lh hi hl
           refine ax (ax (aG (fC rfl (bb _ _) ?_ rfl trivial) rfl rfl));simp only [textSt,iD,hg,hb,oU,hq];rfl
   . intro S' hI;subst hI;refine ab (bj (aa 1 rfl rfl ⟨rfl,?_⟩));simp
end
noncomputable def slt (a b:Str):Bool:=decide (a.cps.toList < b.cps.toList)
noncomputable def mu:Nat->ag->ag->ag×List Str
 | n+1,x::xs,y::ys =>
   if slt x y then (x::(mu n (xs.dropWhile (·==x)) (y::ys)).1,(mu n (xs.dropWhile (·==x)) (y::ys)).2)
   else if slt y x then ((mu n (x::xs) (ys.dropWhile (·==y))).1,y::(mu n (x::xs) (ys.dropWhile (·==y))).2)
   else mu n (xs.dropWhile (·==x)) (ys.dropWhile (·==y))
 | _,xs,ys=>(xs,ys)
theorem DU (n:Nat)(x y:Str)(xs ys:ag):mu (n+1) (x::xs) (y::ys) =
 if slt x y then (x::(mu n (xs.dropWhile (·==x)) (y::ys)).1,(mu n (xs.dropWhile (·==x)) (y::ys)).2)
 else if slt y x then ((mu n (x::xs) (ys.dropWhile (·==y))).1,y::(mu n (x::xs) (ys.dropWhile (·==y))).2)
 else mu n (xs.dropWhile (·==x)) (ys.dropWhile (·==y)):=rfl
theorem dropWhile_len {α:Type}(p:α->Bool)(l:List α):(l.dropWhile p).length<=l.length:=(List.dropWhile_sublist p).length_le
theorem fP (n:Nat)(ys:ag):mu n [] ys=([],ys):=by cases n <;> rfl
theorem eU (n:Nat)(xs:ag):mu n xs []=(xs,[]):=by cases n <;> cases xs <;> rfl
theorem Gz (n:Nat):∀(xs ys:ag),(mu n xs ys).1.length<=xs.length/\(mu n xs ys).2.length<=ys.length:=by
 induction n with
 | zero=>intro xs ys;exact ⟨bu _,bu _⟩
 | succ n ih =>
   intro xs ys;cases xs with
   | nil=>rw [fP];simp
   | cons x xs =>
     cases ys with
     | nil=>rw [eU];simp
     | cons y ys =>
       obtain hx:=dropWhile_len (·==x) xs;obtain hy:=dropWhile_len (·==y) ys;rw [DU]
       split
       . obtain this:=ih (xs.dropWhile (·==x)) (y::ys);simp at this ⊢;exact (⟨aV this.1 hx,this.2⟩)
       . split
         . obtain this:=ih (x::xs) (ys.dropWhile (·==y));simp at this ⊢;exact (⟨this.1,aV this.2 hy⟩)
         . obtain this:=ih (xs.dropWhile (·==x)) (ys.dropWhile (·==y));skip;exact (⟨Nat.le_succ_of_le (aV this.1 hx),Nat.le_succ_of_le (aV this.2 hy)⟩)
noncomputable def Ax:kE:=dg iC 10
section
variable {c:bc}{C:Cx}{S:AS}{mg mb:fV}
theorem TB {st:fk}{K:ip}(h:Ex c C st S K X)(hx:∀cls S,X cls S->X' cls S):Ex c C st S K X':=λA F bs s hA z=>(h A F bs s hA z).mono (λzz zz q=>q) hx
inductive NX (xs ys R1 R2:ag)(i j:Nat)(m u:ag)(S':AS):Prop
 | mk (hL:bw S' [(0,af xs),(1,af ys),(2,.int i),(3,.int j),(4,.ref 0),(5,.ref 1)]) (hH:S'.heap=[.list (m.map .str),.list (u.map .str)]) (hi:i<=xs.length) (hj:j<=ys.length)
inductive TC (xs ys R1 R2:ag)(S':AS):Prop
 | mk (i j:Nat) (m u:ag) (h:NX xs ys R1 R2 i j m u S') (h1:m++xs.drop i=R1/\u++ys.drop j=R2)
inductive TF (xs ys:ag)(R:ag×List Str)(k:Nat)(S':AS):Prop
 | mk (i j:Nat) (m u:ag) (h:NX xs ys R.1 R.2 i j m u S') (hk:(xs.length - i)+(ys.length - j)<=k) (h1:m++(mu k (xs.drop i) (ys.drop j)).1=R.1) (h2:u++(mu k (xs.drop i) (ys.drop j)).2=R.2)
theorem JP (B:Base c mg mb)(hf:eG c fa Ax .none)(fB:c9 mg mb "IndexError" (.type "IndexError"))(xs ys:ag)(ut:xs.length < 1000)(DV:ys.length < 1000)(n:Nat) :
 bz c (n+1) (.ref fa) [af xs,af ys] [] (λv zz=>v.under 0=true/\v=.tup [af (mu (xs.length+ys.length) xs ys).1,af (mu (xs.length+ys.length) xs ys).2]):=by
 refine hf.en B ["expected","actual"] ["expected","actual","i","j","missing","unexpected","e","a"] [(0,af xs),(1,af ys)] (λzz zz zz=>rfl) rfl rfl (by decide +kernel) λenv own frames bd jN=>?_
 . refine e0a1 (Gz (xs.length+ys.length) xs ys) λr1 r2=>?_;generalize hR:mu (xs.length+ys.length) xs ys=R at r1 r2;refine ab (oP (bH (au 2 rfl (bd 2 _ rfl) (au 3 rfl (bd 3 _ rfl) ?_))));refine ab (av (eY (bM ⟨by simp [sizeLine],au 4 rfl (bd 4 _ rfl) ?_⟩)));refine ab (av (eY (bM ⟨by simp [sizeLine],au 5 rfl (bd 5 _ rfl) ?_⟩)));refine ab (jh jN (TF xs ys R) (xs.length+ys.length)
    ⟨0,0,[],[],⟨(bw.of rfl),rfl,Nat.le_add_left 0 _,Nat.le_add_left 0 _⟩,(bu (_ - 0+(_ - 0))),by simp [hR],by simp [hR]⟩ ?_)
   intro k S' o1;obtain ⟨i,j,m,u,⟨hL,hH,hi,hj⟩,hk,hm,hu⟩:=o1;refine i4 (ez (aT ?_));refine dG _ hL ?_;rw [hH];have lm:m.length<=xs.length:=by have:=congrArg List.length hm;simp at this;exact aV (bW _ _) (this▸r1)
   have lu:u.length<=ys.length:=by have:=congrArg List.length hu;simp at this;exact aV (bW _ _) (this▸r2)
   refine ab (zu jN "IndexError" (by rfl) (by rfl) (by rfl) (TB (X:=λcls Z=>gf cls="IndexError"/\TC xs ys R.1 R.2 Z) ?_ ?_))
   . refine ab (av (cV (aa 0 rfl rfl (aa 2 rfl rfl ⟨cI (.inl rfl),?_⟩))));by_cases i3:i < xs.length
     rotate_left
     . refine fw (.inl rfl) rfl (by simp;exact kQ i3) (pK ut hi) ⟨by decide,i,j,m,u,⟨(bw.of rfl),rfl,hi,hj⟩,?_⟩;rw [List.drop_eq_nil_of_le (kQ i3),fP] at hm hu;rw [List.drop_eq_nil_of_le (kQ i3)];exact ⟨hm,hu⟩
     have dx:xs.drop i=xs[i]::xs.drop (i+1):=List.drop_eq_getElem_cons i3;generalize hx:xs[i]=x at dx;refine eZ (y:=.str x) (.inl rfl) gO (pK ut hi) (by rw [Int.toNat_natCast,dw,cp i3,hx];rfl) ?_;refine au 6 rfl (bd 6 _ rfl) ?_;refine ab (av (cV (aa 1 rfl rfl (aa 3 rfl rfl ⟨cI (.inl rfl),?_⟩))));by_cases xO:j < ys.length
     rotate_left
     . refine fw (.inl rfl) rfl (by simp;exact kQ xO) (pK DV hj) ⟨by decide,i,j,m,u,⟨(bw.of rfl),rfl,hi,hj⟩,?_⟩;have dn:ys.drop j=[]:=List.drop_eq_nil_of_le (kQ xO);rw [dn,eU] at hm hu;rw [dn];exact ⟨hm,hu⟩
     have dy:ys.drop j=ys[j]::ys.drop (j+1):=List.drop_eq_getElem_cons xO;generalize hy:ys[j]=y at dy;refine eZ (y:=.str y) (.inl rfl) gO (pK DV hj) (by rw [Int.toNat_natCast,dw,cp xO,hy];rfl) ?_;refine au 7 rfl (bd 7 _ rfl) ?_;obtain ⟨k,rfl⟩:∃k',k=k'+1:=(ck (k - 1) ((Nat.succ_pred_eq_of_pos (cG (Nat.sub_pos_of_lt i3) (aV (bW ..) hk))).symm))
     rw [dx,dy] at hm hu;rw [DU] at hm hu;have up:∀a:Nat,((a:Nat):Int)+1=((a+1:Nat):Int):=λa=>rfl;refine ab (bP (bh (aa 6 rfl rfl (aa 7 rfl rfl (IP (aT ?_))))));cases h1:slt x y with
     | true =>
       rw [h1] at hm hu;simp only [if_true] at hm hu;rw [show decide (x.cps.toList < y.cps.toList)=true from h1];refine ab (bZ (cb "list" "list.append" PySem.F.plainAttrs_list PySem.F.slot_list_append PySem.F.type_list_append (aa 4 rfl rfl ⟨by rfl,?_⟩)) (by rfl));refine aw (aa 6 rfl rfl (dR rfl (by simp [sizeLine];exact ey (cD lm ut) rfl) ?_));refine ab (dd 2 rfl rfl (bd 2 _ rfl) (bH (gy ?_)));rw [up];refine ab (kD 0 2 6 (xv:=af xs) (l:=xs) (x:=x) (λi=>[(0,af xs),(1,af ys),(2,.int i),(3,.int j),(4,.ref 0),(5,.ref 1),(6,.str x),(7,.str y)]) jN rfl rfl rfl (bd 2 _ rfl) (.inl rfl) (λzz=>rfl) (λzz=>rfl) (λzz=>rfl) (λzz=>rfl) (i+1) rfl (jy i3) (mF ut) ?_ ?_)
       . intro K' hd;refine fw (.inl rfl) rfl (by simp) (mE ut) ⟨by decide,xs.length,j,m++[x],u,⟨(bw.of rfl),?_,jw,hj⟩,?_⟩
         . simp
         . rw [hd,fP] at hm hu;simp only [List.drop_length,List.append_nil];rw [dy];exact ⟨hm,hu⟩
       . intro i' h2 h3 h4;refine ax (ax (ax ⟨k,iw,i',j,m++[x],u,⟨(bw.of rfl),?_,bX h3,hj⟩,(Nat.le_of_lt_succ (cG (Nat.add_lt_add_right (Nat.sub_lt_sub_left i3 h2) _) hk)),?_,?_⟩))
         . simp
         . rw [h4,dy,List.append_assoc];exact hm
         . rw [h4,dy];exact hu
     | false =>
       rw [h1] at hm hu;simp only [dQ,if_false] at hm hu;rw [show decide (x.cps.toList < y.cps.toList)=false from h1];refine ab (bP (bh (aa 6 rfl rfl (aa 7 rfl rfl (JG (aT ?_))))));cases h2:slt y x with
       | true =>
         rw [h2] at hm hu;simp only [if_true] at hm hu;rw [show decide (y.cps.toList < x.cps.toList)=true from h2];refine ab (bZ (cb "list" "list.append" PySem.F.plainAttrs_list PySem.F.slot_list_append PySem.F.type_list_append (aa 5 rfl rfl ⟨by rfl,?_⟩)) (by rfl));refine aw (aa 7 rfl rfl (dR rfl (by simp [sizeLine];exact ey (cD lu DV) rfl) ?_));refine ab (dd 3 rfl rfl (bd 3 _ rfl) (bH (gy ?_)));rw [up];refine ab (kD 1 3 7 (xv:=af ys) (l:=ys) (x:=y) (λj=>[(0,af xs),(1,af ys),(2,.int i),(3,.int j),(4,.ref 0),(5,.ref 1),(6,.str x),(7,.str y)]) jN rfl rfl rfl (bd 3 _ rfl) (.inl rfl) (λzz=>rfl) (λzz=>rfl) (λzz=>rfl) (λzz=>rfl) (j+1) rfl (jy xO) (mF DV) ?_ ?_)
         . intro K' hd;refine fw (.inl rfl) rfl (by simp) (mE DV) ⟨by decide,i,ys.length,m,u++[y],⟨(bw.of rfl),?_,hi,jw⟩,?_⟩
           . simp
           . rw [hd,eU] at hm hu;simp only [List.drop_length,List.append_nil];rw [dx];exact ⟨hm,hu⟩
         . intro j' h3 h4 h5;refine ax (ax (ax (ax ⟨k,iw,i,j',m,u++[y],⟨(bw.of rfl),?_,hi,bX h4⟩,(Nat.le_of_lt_succ (cG (gD (Nat.sub_lt_sub_left xO h3) _) hk)),?_,?_⟩)))
           . simp
           . rw [h5,dx];exact hm
           . rw [h5,dx,List.append_assoc];exact hu
       | false =>
         rw [h2] at hm hu;simp only [dQ,if_false] at hm hu;rw [show decide (y.cps.toList < x.cps.toList)=false from h2];refine ab (dd 2 rfl rfl (bd 2 _ rfl) (bH (gy ?_)));rw [up];refine ab (wc jN ?_);refine ab (kD 0 2 6 (xv:=af xs) (l:=xs) (x:=x) (λi=>[(0,af xs),(1,af ys),(2,.int i),(3,.int j),(4,.ref 0),(5,.ref 1),(6,.str x),(7,.str y)]) jN rfl rfl rfl (bd 2 _ rfl) (.inl rfl) (λzz=>rfl) (λzz=>rfl) (λzz=>rfl) (λzz=>rfl) (i+1) rfl (jy i3) (mF ut) ?_ ?_)
         . intro K' hd;refine fw (.inl rfl) rfl (by simp) (mE ut) λe ob=>⟨?_,by decide⟩
           rw [hd] at hm hu;rw [fP] at hm hu;have nil:xs.drop xs.length=[]:=by simp
           refine ab (dd 3 rfl rfl (bd 3 _ rfl) (bH (gy ?_)));rw [up];refine ab (kD 1 3 7 (xv:=af ys) (l:=ys) (x:=y) (λj=>[(0,af xs),(1,af ys),(2,.int xs.length),(3,.int j),(4,.ref 0),(5,.ref 1),(6,.str x),(7,.str y)]) jN rfl rfl rfl (bd 3 _ rfl) (.inl rfl) (λzz=>rfl) (λzz=>rfl) (λzz=>rfl) (λzz=>rfl) (j+1) rfl (jy xO) (mF DV) ?_ ?_)
           . intro K' yY;rw [yY] at hm hu;refine um (k:=2) (g:=e) (ob:=ob) (.inl rfl) rfl rfl (by simp) (mE DV) (lQ [(0,af xs),(1,af ys),(2,.int xs.length),(3,.int ys.length),(4,.ref 0),(5,.ref 1)] ⟨rfl,(bb _ _),rfl,(bb _ _),rfl,rfl,rfl,rfl,rfl,rfl,rfl,rfl,trivial⟩ ?_ (rfl) ⟨xs.length,ys.length,m,u,⟨(bw.of rfl),rfl,jw,jw⟩,?_⟩)
             . simp [aI]
             . simp only [List.drop_length];exact ⟨hm,hu⟩
           . intro j' h3 h4 h5;refine ax ⟨rfl,[(0,af xs),(1,af ys),(2,.int xs.length),(3,.int j'),(4,.ref 0),(5,.ref 1)],⟨rfl,(bb _ _),rfl,(bb _ _),rfl,rfl,rfl,rfl,rfl,rfl,rfl,rfl,trivial⟩,?_,(by decide),⟨xs.length,j',m,u,⟨(bw.of rfl),rfl,jw,bX h4⟩,?_⟩⟩
             . simp [aI]
             . rw [h5,nil];exact ⟨hm,hu⟩
         . intro i' h3 h4 h5;refine ax ?_;refine ab (dd 3 rfl rfl (bd 3 _ rfl) (bH (gy ?_)));rw [up];refine ab (kD 1 3 7 (xv:=af ys) (l:=ys) (x:=y) (λj=>[(0,af xs),(1,af ys),(2,.int i'),(3,.int j),(4,.ref 0),(5,.ref 1),(6,.str x),(7,.str y)]) jN rfl rfl rfl (bd 3 _ rfl) (.inl rfl) (λzz=>rfl) (λzz=>rfl) (λzz=>rfl) (λzz=>rfl) (j+1) rfl (jy xO) (mF DV) ?_ ?_)
           . intro K' yY;refine fw (.inl rfl) rfl (by simp) (mE DV) ⟨by decide,i',ys.length,m,u,⟨(bw.of rfl),rfl,bX h4,jw⟩,?_⟩;rw [yY,eU] at hm hu;simp only [List.drop_length,List.append_nil];rw [h5];exact ⟨hm,by simpa using hu⟩
           . intro j' h6 h7 h8;refine ax (ax (ax (ax (ax ⟨k,iw,i',j',m,u,⟨(bw.of rfl),rfl,bX h4,bX h7⟩,Cz h3 h6 hk,?_,?_⟩))))
             . rw [h5,h8];exact hm
             . rw [h5,h8];exact hu
   . intro cls Z o2;obtain ⟨hc,i,j,m,u,⟨hL,hH,hi,hj⟩,hm,hu⟩:=o2;refine ⟨hc,λe=>bT B (rfl) fB.1 fB.2 ⟨rfl,?_⟩⟩;refine dG _ hL ?_;rw [hH];have lm:m.length<=xs.length:=by have:=congrArg List.length hm;simp at this;exact aV (bW ..) (this▸r1)
     have lu:u.length<=ys.length:=by have:=congrArg List.length hu;simp at this;exact aV (bW ..) (this▸r2)
     have e1:cutOf (some ((i:Nat):Int)) none (xs.map AV.str)=(xs.drop i).map AV.str:=by simp [cutOf,List.map_drop]
     have e2:cutOf (some ((j:Nat):Int)) none (ys.map AV.str)=(ys.drop j).map AV.str:=by simp [cutOf,List.map_drop]
     refine ab (bZ (cb "list" "list.extend" PySem.F.plainAttrs_list PySem.F.slot_list_extend PySem.F.type_list_extend (aa 4 rfl rfl ⟨by rfl,?_⟩)) (by rfl));refine aw (jd (aa 0 rfl rfl (aa 2 rfl rfl (kj _ rfl _ (.inl rfl) (by simp [ql]) (by simp [sizeLine];exact kT ut) (.inl ?_)))));rw [e1];refine vN rfl (.inl rfl) (by simp [sizeLine];exact vq ut lm) ?_;refine ab (bZ (cb "list" "list.extend" PySem.F.plainAttrs_list PySem.F.slot_list_extend PySem.F.type_list_extend (aa 5 rfl rfl ⟨by rfl,?_⟩)) (by rfl));refine aw (jd (aa 1 rfl rfl (aa 3 rfl rfl (kj _ rfl _ (.inl rfl) (by simp [ql]) (by simp [sizeLine];exact kT DV) (.inl ?_)))));rw [e2];refine vN rfl (.inl rfl) (by simp [sizeLine];exact vq DV lu) ?_;refine ab (nN ?_);refine ei (fu.list 4 rfl rfl) (ei (fu.list 5 rfl rfl) ?_);refine ab (bj (cQ (aR (aa 4 rfl rfl (aw (aa 5 rfl rfl (aG (by simp [sizeLine]) ?_ ?_)))))))
     . simp [<-List.map_drop,<-List.map_append,aI]
     . simp only [oI,hm,hu]
end
noncomputable def zx:kE:=dg iC 14
noncomputable abbrev Tab:=List (Str×List Str)
noncomputable def qM (t:Tab)(x:Str):ag:=(bB t x).getD []
noncomputable def planIn (ns:ag)(downs:Tab)(code:Int):Nat->ag×List Str×Int
 | 0=>([],[],code)
 | j+1=>let p:=planIn ns downs code j;let x:=ns.getD j ""
   if p.2.2.fmod 3==0 then (p.1++[x],p.2.1++([x]++qM downs x),p.2.2.fdiv 3) else (p.1,p.2.1,p.2.2.fdiv 3)
noncomputable def aS (ns:ag)(code:Int):Nat->Tab×Tab×Int
 | 0=>([],[],code)
 | i+1=>let p:=aS ns code i;let q:=planIn ns p.2.1 p.2.2 i;let x:=ns.getD i ""
   (df p.1 x q.1,df p.2.1 x (cg (dedup q.2.1)),q.2.2)
theorem nh {code:Int}:planIn ns downs code 0=([],[],code):=rfl
theorem nq {code:Int}:planIn ns downs code (j+1)=(let p:=planIn ns downs code j;let x:=ns.getD j "";if p.2.2.fmod 3==0 then (p.1++[x],p.2.1++([x]++qM downs x),p.2.2.fdiv 3) else (p.1,p.2.1,p.2.2.fdiv 3)):=rfl
theorem kG {code:Int}:aS ns code 0=([],[],code):=rfl
def oV (t:Tab)(n:Nat):Prop:=∀p∈t,p.2.length<=n
theorem oV.put (h:oV t n)(x:Str)(l:ag)(hl:l.length<=m)(At:n<=m):oV (df t x l) m:=by
 delta df
 split
 . intro p hp;refine e1a1 (dS hp) λq hq o2=>?_;refine o2▸?_
   split
   . exact hl
   . exact aV (h q hq) At
 . intro p hp
   (refine aN (bL hp) (λq=>?_) (λq=>?_))
   . exact aV (h p q) At
   . refine rE (bp q) ?_;exact hl
theorem oV.get (h:oV t n)(x:Str):(qM t x).length<=n:=by
 delta qM bB;cases e:t.find? λkv=>kv.1=x with
 | none=>simp
 | some p=>exact h p (List.mem_of_find?_eq_some e)
theorem qN (ns:ag)(downs:Tab)(code:Int)(h:oV downs n):∀j,(planIn ns downs code j).1.length<=j/\(planIn ns downs code j).2.1.length<=j*(1+n):=by
 intro j;induction j with
 | zero =>simp [nh,nq]
 | succ j ih =>
   refine e0a1 ih λh1 h2=>?_;obtain h3:=h.get (ns.getD j "");obtain e:(j+1)*(1+n)=j*(1+n)+(1+n):=by simp only [Nat.succ_mul]
   simp only [nh,nq]
   split
   . simp only [List.length_append,List.length_singleton,e];exact ⟨Nat.succ_le_succ h1,Nat.add_le_add h2 (fX h3 1)⟩
   . simp only [e];exact ⟨Nat.le_succ_of_le h1,aV h2 (bW ..)⟩
theorem dc {l r:ag}(h:l.Nodup)(hs:∀x∈l,x∈r):l.length<=r.length:=h.length_le_of_subset hs
theorem DW (h:y∈qM t x):∃p∈t,y∈p.2:=by
 delta qM bB at h;cases e:t.find? λkv=>kv.1=x with
 | none=>rw [e] at h;simp at h
 | some p=>rw [e] at h;exact (ae p (List.mem_of_find?_eq_some e) h)
theorem DX {t:Tab}(h:p∈df t x l):p∈t\/p.2=l:=by
 delta df at h
 split at h
 . refine e1a1 (dS h) λq hq o1=>?_;refine o1▸?_
   split
   . exact .inr rfl
   . exact .inl hq
 . (refine aN (bL h) (λq=>?_) (λq=>?_))
   . exact .inl q
   . exact .inr (by rw [bp q])
theorem qO (ns:ag)(downs:Tab)(code:Int)(hd:∀p∈downs,∀y∈p.2,y∈ns)(j:Nat)(hj:j<=ns.length):∀y∈(planIn ns downs code j).2.1,y∈ns:=by
 induction j with
 | zero=>exact nofun
 | succ j ih =>
   obtain ih:=ih (Nat.le_of_succ_le hj);intro y hy;simp only [nh,nq] at hy
   split at hy
   . (refine aN (bL hy) (λq=>?_) (λq=>?_))
     . exact ih y q
     . rcases cu q with q | q
       . simp only [q,fW,cp hj];exact List.getElem_mem _
       . refine e1a1 (DW q) λp hp hq=>?_;exact hd p hp y hq
   . exact ih y hy
theorem Ay (ns:ag)(code:Int):∀i,i<=ns.length->(aS ns code i).1.length<=i/\(aS ns code i).2.1.length<=i/\oV (aS ns code i).1 ns.length/\oV (aS ns code i).2.1 ns.length/\∀p∈(aS ns code i).2.1,∀y∈p.2,y∈ns:=by
 intro i;induction i with
 | zero =>intro _;exact (fC (by simp [kG]) (by simp [kG]) (λp hp=>by simp [kG] at hp) (λp hp=>by simp [kG] at hp) (λp hp=>by simp [kG] at hp))
 | succ i ih =>
   intro hi;refine e0a4 (ih (arith1 hi)) λh1 h2 h3 h4 h5=>?_;refine e0a1 (qN ns (aS ns code i).2.1 (aS ns code i).2.2 h4 i) λk1 k2=>?_;obtain hm:=qO ns (aS ns code i).2.1 (aS ns code i).2.2 h5 i (arith1 hi);obtain a1:=iQ (aS ns code i).1 (ns.getD i "") (planIn ns (aS ns code i).2.1 (aS ns code i).2.2 i).1;obtain a2:=iQ (aS ns code i).2.1 (ns.getD i "") (cg (dedup (planIn ns (aS ns code i).2.1 (aS ns code i).2.2 i).2.1));have hs:∀y∈cg (dedup (planIn ns (aS ns code i).2.1 (aS ns code i).2.2 i).2.1),y∈ns:=λy hy=>hm y ((lr y _).mp ((cM _).mem_iff.mp hy));refine (fC (aV a1 (Nat.succ_le_succ h1)) (aV a2 (Nat.succ_le_succ h2)) (h3.put _ _ (aV k1 (bF hi)) (bu _)) (h4.put _ _ (dc ((cM _).nodup_iff.mpr (iP _)) hs) (bu _)) (λp hp y hy=>?_))
   (refine aN (DX hp) (λq=>?_) (λq=>?_))
   . exact h5 p q y hy
   . rw [q] at hy;exact hs y hy
section
variable {c:bc}{C:Cx}{S:AS}{mg mb:fV}
theorem GA (B:Base c mg mb)(hf:eG c fa zx .none)(fB:c9 mg mb "range" (.type "range"))(lp:c9 mg mb "sorted" (.builtin "sorted"))(rI:c9 mg mb "set" (.type "set"))(ns:ag)(hn:ns.length=5)(code:Int)(n:Nat)
 (TD:∀i,i<=5->∀j,j < i->(bB (aS ns code i).2.1 (ns.getD j "")).isSome=true) :
 bz c (n+1) (.ref fa) [af ns,.int code] [] (λv zz=>v.under 0=true/\v=.tup [.aZ (br af (aS ns code 5).1),.aZ (br af (aS ns code 5).2.1)]):=by
 refine hf.en B ["names","code"] ["names","code","needs","downs","late","direct","row","early"] [(0,af ns),(1,.int code)] (λzz zz zz=>rfl) rfl rfl (by decide +kernel) λenv own frames bd jN=>?_
 . refine ab (ku [(2,"needs"),(3,"downs")] rfl bd (by simp) ?_ (by rfl) (by rfl));refine cQ (aR (ky B (aw (ky B (tS (by simp [sizeLine]) _ rfl rfl ?_)))));refine ab (c8 rfl (ly (bT B (by rfl) fB.1 fB.2 ⟨rfl,aw (bH (aH 5 rfl (by decide) ?_))⟩)));refine ⟨λi S'=>S'=⟨[(0,af ns),(1,.int (aS ns code i).2.2),(3,.ref 1),(2,.ref 0)],[.az (br af (aS ns code i).1),.az (br af (aS ns code i).2.1)]⟩,rfl,λzz zz zz=>trivial,?_,?_⟩
   . intro i y S' hy hI;subst hI;have hi:i < 5:=by have:=(bN hy).1;simpa using this
     rw [dw,List.getElem?_range hi] at hy;cases hy;refine e0a4 (Ay ns code i (aq hn▸bF hi)) λp1 p2 p3 p4 p5=>?_;have hg:=TD i (bF hi);have xL:aS ns code (i+1)=(df (aS ns code i).1 (ns.getD i "") (planIn ns (aS ns code i).2.1 (aS ns code i).2.2 i).1,df (aS ns code i).2.1 (ns.getD i "") (cg (dedup (planIn ns (aS ns code i).2.1 (aS ns code i).2.2 i).2.1)),(planIn ns (aS ns code i).2.1 (aS ns code i).2.2 i).2.2):=rfl;generalize hP:aS ns code i=P at p1 p2 p3 p4 p5 hg xL;have q:=qN ns P.2.1 P.2.2 p4;refine au 4 rfl (bd 4 _ rfl) (mV 2 [(0,af ns),(1,.int (planIn ns P.2.1 P.2.2 i).2.2),(3,.ref 1),(2,.ref 0)] rfl ?_);refine ab (ku [(5,"direct"),(6,"row")] rfl bd (by simp) ?_ (by rfl) (by rfl));refine cQ (aR (eY (bM ⟨by simp [sizeLine],aw (eY (bM (jA (by simp [sizeLine]) (by simp [sizeLine]) _ rfl rfl ?_)))⟩)));refine ab (c8 rfl (ly (bT B (by rfl) fB.1 fB.2 ⟨rfl,aw (aa 4 rfl rfl (aH i rfl (cG hi (Nat.le_add_left 5 4611686018427387899)) ?_))⟩)));refine ⟨λj S'=>S'=⟨[(0,af ns),(1,.int (planIn ns P.2.1 P.2.2 j).2.2),(3,.ref 1),(2,.ref 0),(4,.int i),(6,.ref 3),(5,.ref 2)],[.az (br af P.1),.az (br af P.2.1),.list ((planIn ns P.2.1 P.2.2 j).1.map .str),.list ((planIn ns P.2.1 P.2.2 j).2.1.map .str)]⟩,rfl,λzz zz zz=>trivial,?_,?_⟩
     . intro j y S' hy hI;subst hI;have hj:j < i:=by have:=(bN hy).1;simpa using this
       rw [dw,List.getElem?_range hj] at hy;cases hy;have hx:(ns.map AV.str)[((j:Nat):Int).toNat]?=some (.str (ns.getD j "")):=by rw [Int.toNat_natCast,dw,fW,cp (hn▸Nat.lt_trans hj hi)];rfl
       have Xu:=hg j hj;refine e0a1 (q j) λq1 q2=>?_;have pp:(planIn ns P.2.1 P.2.2 j).2.1.length<=1000:=by rw [hn] at q2;exact (mx (aV q2 (Nat.mul_le_mul_right 6 (bF (Nat.lt_trans hj hi)))) rfl)
       have oM:planIn ns P.2.1 P.2.2 (j+1)=if (planIn ns P.2.1 P.2.2 j).2.2.fmod 3==0 then ((planIn ns P.2.1 P.2.2 j).1++[ns.getD j ""],(planIn ns P.2.1 P.2.2 j).2.1++([ns.getD j ""]++qM P.2.1 (ns.getD j "")),(planIn ns P.2.1 P.2.2 j).2.2.fdiv 3) else ((planIn ns P.2.1 P.2.2 j).1,(planIn ns P.2.1 P.2.2 j).2.1,(planIn ns P.2.1 P.2.2 j).2.2.fdiv 3):=rfl
       generalize planIn ns P.2.1 P.2.2 j=p at q1 q2 pp oM;generalize ns.getD j ""=x at hx Xu oM;refine e1a0 (Option.isSome_iff_exists.mp Xu) λdx Sg=>?_;have Xv:qM P.2.1 x=dx:=by simp [qM,Sg]
       have Gk:dx.length<=5:=by have:=p4.get x;rw [Xv,hn] at this;exact this
       refine au 7 rfl (bd 7 _ rfl) (mV 4 [(0,af ns),(1,.int (p.2.2.fdiv 3)),(3,.ref 1),(2,.ref 0),(4,.int i),(6,.ref 3),(5,.ref 2)] rfl ?_);refine ab (bP (bh (ee (aa 1 rfl rfl (bH (xt (by decide) (bH (xu (aT ?_)))))))));have Xw:p.2.1.length<=sizeLine:=by rw [sizeLine_eq];exact tA pp
       cases hb:p.2.2.fmod 3==0 with
       | true =>
         rw [hb] at oM;simp only [if_true] at oM;refine ab (bZ (cb "list" "list.append" PySem.F.plainAttrs_list PySem.F.slot_list_append PySem.F.type_list_append (aa 5 rfl rfl ⟨by rfl,?_⟩)) (by rfl));refine aw (cV (aa 0 rfl rfl (aa 7 rfl rfl ⟨cI (.inl rfl),eZ (.inl rfl) gO (mH hi hj) hx ?_⟩)));refine dR rfl (by simp [sizeLine];exact ey (cD q1 (Nat.lt_trans hj hi)) rfl) ?_;refine ab (dd 6 rfl rfl (bd 6 _ rfl) (ee (qf (aw (cV (aa 0 rfl rfl (aa 7 rfl rfl ⟨cI (.inl rfl),eZ (.inl rfl) gO (mH hi hj) hx ⟨by simp [sizeLine],?_⟩⟩)))))));refine cV (aa 3 rfl rfl (cV (aa 0 rfl rfl (aa 7 rfl rfl ⟨cI (.inl rfl),eZ (.inl rfl) gO (mH hi hj) hx ⟨mW (.inr (ae 1 rfl rfl)),gz (.inr (ae 1 rfl rfl)) (y:=af dx) (by rw [eF,Sg];rfl) ?_⟩⟩))));refine zd (xs:=[AV.str x]) (ys:=dx.map .str) (.inl rfl) (.inl rfl) (by simp [sizeLine];exact BM Gk) (.inl ?_);refine vO rfl (.inl rfl) (by simp [sizeLine];exact mx (Nat.add_le_add pp (Nat.succ_le_succ Gk)) rfl) ?_;refine ax (ab (dd 1 rfl rfl (bd 1 _ rfl) (bH (t7 (by decide) (PyProof.noPylong_small (by decide)) ?_))));refine ax (aG ⟨rfl,(bb _ _),rfl,rfl,rfl,rfl,rfl,rfl,rfl,rfl,rfl,rfl,rfl,rfl,trivial⟩ ?_ ?_)
         . simp [aI,dJ _ _ (bb _),rZ]
         . simp [oM,Xv]
       | false =>
         rw [hb] at oM;simp only [dQ,if_false] at oM;refine ax (ab (dd 1 rfl rfl (bd 1 _ rfl) (bH (t7 (by decide) (PyProof.noPylong_small (by decide)) ?_))));refine ax (aG ⟨rfl,(bb _ _),rfl,rfl,rfl,rfl,rfl,rfl,rfl,rfl,rfl,rfl,rfl,rfl,trivial⟩ ?_ ?_)
         . simp [aI,dJ _ _ (bb _)]
         . simp [oM]
     . intro S' hI;subst hI;have hx:(ns.map AV.str)[((i:Nat):Int).toNat]?=some (.str (ns.getD i "")):=by rw [Int.toNat_natCast,dw,fW,cp (js hi hn)];rfl
       have q2:=(q i).2;have hm:=qO ns P.2.1 P.2.2 p5 i (aq hn▸bF hi);simp only [fz,List.length_range];generalize planIn ns P.2.1 P.2.2 i=p at q2 xL hm;generalize ns.getD i ""=x at hx xL;have Gk:(dedup p.2.1).length < 64:=by have:=dc (iP p.2.1) (λy hy=>hm y ((lr y _).mp hy));exact (pj (hn▸this:_<=5) rfl)
       refine ei (fu.list 5 rfl rfl) ?_;refine ab (av (aa 5 rfl rfl (kA (aa 2 rfl rfl (cV (aa 0 rfl rfl (aa 4 rfl rfl ⟨cI (.inl rfl),eZ (.inl rfl) gO (pD hi) hx (il 0 x _ rfl rfl rfl ?_ ?_)⟩)))))))
       . simp [br,sizeLine];exact ey (cD p1 hi) rfl
       refine ab (av (bQ (.builtin "sorted") (bT B (by rfl) lp.1 lp.2 ⟨rfl,aw (bQ (.type "set") (bT B (by rfl) rI.1 rI.2 ⟨rfl,aw (aa 6 rfl rfl ?_)⟩))⟩)));refine JJ rfl (.inr (ae 3 rfl rfl)) (by rw [hn] at q2;exact pj (aV q2 (Nat.mul_le_mul_right 6 (bF hi))) rfl) ?_;refine wi rfl rfl Gk (.inl ?_);refine kA (aa 3 rfl rfl (cV (aa 0 rfl rfl (aa 4 rfl rfl ⟨cI (.inl rfl),eZ (.inl rfl) gO (pD hi) hx (il 1 x _ rfl rfl rfl ?_ ?_)⟩))))
       . simp [br,sizeLine];exact ey (cD p2 hi) rfl
       refine ax (aG (ix rfl (bb _ _) rfl rfl rfl rfl rfl rfl trivial) ?_ ?_)
       . simp [ji af,dJ _ _ (bb _)]
       . simp [xL,ji af]
   . intro S' hI;subst hI;refine ei (fu.az 2 rfl rfl) (ei (fu.az 3 rfl rfl) ?_);refine ab (bj (cQ (aR (aa 2 rfl rfl (aw (aa 3 rfl rfl (aG (by simp [sizeLine]) ?_ ?_)))))))
     . simp [dJ _ _ (bb _)]
     . rfl
end
end Mine.Internal
namespace Mine.Internal
open PySem PyProof.Rows PySem.W
noncomputable def gA:fk:=nV iC 8
noncomputable def NY:fk:=nV iC 6
noncomputable def pR:kE:=dg gA 0
noncomputable def xU:kE:=dg gA 1
noncomputable def wu:kE:=dg gA 2
noncomputable def uA:kE:=dg gA 3
noncomputable def uB:kE:=dg gA 4
noncomputable def qP:kE:=dg gA 5
noncomputable def xV:kE:=dg gA 7
noncomputable def nr:kE:=dg gA 8
noncomputable def uC:kE:=dg NY 1
structure sP where
 cS:Addr
 cN:Addr
 sQ:Addr
 info:Addr
 add:Addr
 wx:Addr
 ready:Addr
 kH:Addr
 done:Addr
 oW:Addr
 oX:Addr
noncomputable def attrOk (Kf:Frag)(Cl:Addr)(name:Str):Bool:=storeOk Kf Cl name&&findIn Kf (.ref Cl) name==some none
structure r0 (c:bc)(mg mb:fV)(Kf:Frag)(a:sP):Prop where
 B:d8 c mg mb Kf
 attrs:(attrOk Kf a.cS "_node2info"&&attrOk Kf a.cS "_ready_nodes"&&attrOk Kf a.cS "_npassedout"&&attrOk Kf a.cS "_nfinished")=true
 slots:slotAt Kf a.cN "node"=some 0/\slotAt Kf a.cN "npredecessors"=some 1/\slotAt Kf a.cN "successors"=some 2
 Xx:makesIn Kf a.cN=true
 HF:(findIn Kf (.ref a.cN) "__init__"==some (some (.ref a.oX))&&typeIn Kf (.ref a.oX)==some (.type "function"))=true
 Xy:makesIn Kf a.cS=true
 HG:(findIn Kf (.ref a.cS) "__init__"==some (some (.ref a.sQ))&&typeIn Kf (.ref a.sQ)==some (.type "function"))=true
 HH:keepIn Kf (.ref a.cN)=true
 HI:keepIn Kf (.ref a.cS)=true
 gN:mg "_NodeInfo"=some (.ref a.cN)
 gS:mg "TopologicalSorter"=some (.ref a.cS)
 DY:fM Kf a.cS "_get_nodeinfo" a.info=true
 JQ:lz Kf a.cS "add" a.add=true
 HJ:fM Kf a.cS "prepare" a.wx=true
 DZ:fM Kf a.cS "get_ready" a.ready=true
 zy:fM Kf a.cS "is_active" a.kH=true
 HK:fM Kf a.cS "done" a.done=true
 D0:fM Kf a.cS "_find_cycle" a.oW=true
 oX:eG c a.oX uC .none
 info:eG c a.info xU .none
 add:eG c a.add wu .none
 wx:eG c a.wx uA .none
 ready:eG c a.ready uB .none
 kH:eG c a.kH qP .none
 done:eG c a.done xV .none
 oW:eG c a.oW nr .none
noncomputable abbrev Nd:=Str×Int×List Str
structure Lk (H:bg)(cN:Addr)(n:Nat)(x:Nd):Prop where
 dict:H[n]?=some (.az [])
 slots:H[n+1]?=some (.slots cN n [some (.str x.1),some (.int x.2.1),some (.ref (n+2))])
 list:H[n+2]?=some (.list (x.2.2.map .str))
structure xd (H:bg)(cN:Addr)(lo:Nat)(ns:fj)(nds:List Nd):Prop where
 len:ns.length=nds.length
 at_:∀(i n:Nat) (x:Nd),ns[i]?=some n->nds[i]?=some x->Lk H cN n x
 low:∀n∈ns,lo<=n
 gap:ns.Pairwise λm n=>m+3<=n
noncomputable def tabOf (ns:fj)(nds:List Nd):eQ:=(nds.zip ns).map λp=>(p.1.1,.ref (p.2+1))
structure SB (H:bg)(a:sP)(d:Nat)(ns:fj)(nds:List Nd):Prop where
 inst:H[d+1]?=some (.inst a.cS d)
 dict:H[d]?=some (.az [("_node2info",.ref (d+2)),("_ready_nodes",.none),("_npassedout",.int 0),("_nfinished",.int 0)])
 tab:H[d+2]?=some (.az (tabOf ns nds))
 nodes:xd H a.cN (d+3) ns nds
 names:(nds.map (·.1)).Nodup
def D1 (d:Nat)(ns:fj)(j:Nat):Prop:=j=d\/j=d+2\/∃n∈ns,j=n+1\/j=n+2
structure Ext (H H':bg)(P:Nat->Prop):Prop where
 le:H.length<=H'.length
 same:∀j,j < H.length->¬P j->H'[j]?=H[j]?
theorem Ext.refl (H:bg)(P:Nat->Prop):Ext H H P:=⟨bu _,λzz zz zz=>rfl⟩
theorem Ext.trans (x:Ext H H' P)(y:Ext H' PS P):Ext H PS P :=
 ⟨aV x.le y.le,λj h n=>(y.same j (cG h x.le) n).trans (x.same j h n)⟩
theorem Ext.mono (x:Ext H H' P)(h:∀j,j < H.length->P j->Q j):Ext H H' Q :=
 ⟨x.le,λj hj n=>x.same j hj λp=>n (h j hj p)⟩
noncomputable def bI (nds:List Nd)(x:Str):List Nd:=if nds.any (λp=>decide (p.1=x)) then nds else nds++[(x,0,[])]
section
variable {c:bc}{mg mb:fV}{Kf:Frag}{a:sP}
theorem AA (W:r0 c mg mb Kf a)(x:Str)(H:bg)(n:Nat) :
 bz c (n+1) (.ref a.oX) [.ref (H.length+1),.str x] (H++[.az [],.inst a.cN H.length]) (λv H'=>v=.none/\H'=H++[.az [],.slots a.cN H.length [some (.str x),some (.int 0),some (.ref (H.length+2))],.list []]):=by
 refine W.oX.en W.B.toBase ["self","node"] ["self","node"] [(0,.ref (H.length+1)),(1,.str x)] (λzz zz zz=>rfl) rfl rfl (rfl) λenv own frames bd jN=>?_
 . obtain e0:∀(l:bg),(H++l)[H.length]?=l[0]?:=λl=>by rw [iV (bu _)];simp
   obtain e1:∀(l:bg),(H++l)[H.length+1]?=l[1]?:=λl=>by rw [iV arith2];simp
   obtain e2:∀(l:bg) (v:AO),(H++l).set (H.length+1) v=H++l.set 1 v:=λl v=>by rw [List.set_append_right _ _ arith2];simp
   obtain Bb:∀(o:AO) (vs:vD) (lc:fi),(o=.inst a.cN H.length/\vs=[]\/o=.slots a.cN H.length vs)->ng ⟨lc,H++[.az [],o]⟩ (H.length+1) H.length a.cN vs:=by
    intro o vs lc h;refine (zU ?_ [] (by simp))
    (refine aN h (λJk=>?_) (λh=>?_);refine e0a1 Jk λh h'=>?_)
    . exact .inl ⟨by rw [e1,h];rfl,h'⟩
    . exact .inr (by rw [e1,h];rfl)
   refine ab (av (aa 1 rfl rfl (cx (aa 0 rfl rfl (gn W.B a.cN W.slots.1 Bo (Bb _ [] _ (.inl ⟨rfl,rfl⟩)) ?_)))));rw [e2];refine ab (av (bH (cx (aa 0 rfl rfl (gn W.B a.cN W.slots.2.1 my (Bb _ _ _ (.inr rfl)) ?_)))));rw [e2];refine ab (av (eY (bM ⟨by simp,cx (aa 0 rfl rfl (gn (d:=H.length) (vs:=[some (.str x),some (.int 0)]) W.B a.cN W.slots.2.2 Br (zU (.inr ?_) [] ?_) ?_))⟩)))
   . simp [iV];rfl
   . simp
   refine ax ⟨rfl,?_⟩;simp [List.set_append_right,iB]
theorem ay {Cl:Addr}(h:attrOk Kf Cl name=true):storeOk Kf Cl name=true/\(findIn Kf (.ref Cl) name==some none)=true/\iN Kf Cl=true:=by simp only [attrOk,cZ] at h;exact (aG h.1 h.2 (by have:=h.1;simp only [storeOk,cZ] at this;exact this.1))
theorem r0.a1 (W:r0 c mg mb Kf a):attrOk Kf a.cS "_node2info"=true:=by have:=W.attrs;simp only [cZ] at this;exact this.1.1.1
theorem r0.a2 (W:r0 c mg mb Kf a):attrOk Kf a.cS "_ready_nodes"=true:=by have:=W.attrs;simp only [cZ] at this;exact this.1.1.2
theorem r0.a3 (W:r0 c mg mb Kf a):attrOk Kf a.cS "_npassedout"=true:=by have:=W.attrs;simp only [cZ] at this;exact this.1.2
theorem r0.a4 (W:r0 c mg mb Kf a):attrOk Kf a.cS "_nfinished"=true:=by have:=W.attrs;simp only [cZ] at this;exact this.2
theorem wy (W:r0 c mg mb Kf a)(hf:eG c a.sQ pR (.ref t))(ht:c.h₀.get? t=some o)(hc:o.cls≠.none)(hd:o.data=.seq #[.none] tn)(H:bg)(n:Nat) :
 bz c (n+1) (.ref a.sQ) [.ref (H.length+1)] (H++[.az [],.inst a.cS H.length]) (λv H'=>v=.none/\H'=H++[.az [("_node2info",.ref (H.length+2)),("_ready_nodes",.none),("_npassedout",.int 0),("_nfinished",.int 0)],.inst a.cS H.length,.az []]):=by
 refine hf.call W.B.toBase [("self",.ref (H.length+1)),("graph",.none)] ["self","graph"] ["self","graph"] [(0,.ref (H.length+1)),(1,.none)] (λfd h1 h2 h3=>?_) rfl rfl (by decide +kernel) λenv own frames bd jN=>?_
 . intro A F bs H s rs E Q wd hv k;refine e1a1 hv.one λr o1 hr=>?_;refine rE o1 ?_;unfold bindArgs;rw [h1,h2];have LQ:s.heap.get? t=some o:=wd.sub _ _ (wd.base _ _ ht (.inl hc));refine ah (aM (ah (wpAny_seqItems LQ hd ?_)));refine aM (k F s [("self",r),("graph",.none)] (.refl ..) wd (.cons hr (.cons .none .nil)))
 . have e0:∀(l:bg),(H++l)[H.length]?=l[0]?:=λl=>by rw [iV (bu _)];simp
   have e1:∀(l:bg),(H++l)[H.length+1]?=l[1]?:=λl=>by rw [iV arith2];simp
   have e2:∀(l:bg) (v:AO),(H++l).set H.length v=H++l.set 0 v:=λl v=>by rw [List.set_append_right _ _ (bu _)];simp
   have Bb:∀(lc:fi) (kvs:eQ) (l:bg),gh ⟨lc,H++(.az kvs::.inst a.cS H.length::l)⟩ (H.length+1) H.length a.cS kvs:=λlc kvs l=>⟨by rw [e1];rfl,by rw [e0];rfl⟩
   refine ab (av (ky W.B.toBase (cx (aa 0 rfl rfl (c7 (d:=H.length) (kvs:=[]) W.B a.cS (ay W.a1).1 ?_ (by simp) ?_)))))
   . exact ⟨by rw [List.append_assoc,e1];rfl,by rw [List.append_assoc,e0];rfl⟩
   have f1:((H++[AO.az [],.inst a.cS H.length])++[AO.az []]).set H.length (.az (df [] "_node2info" (.ref (H++[AO.az [],.inst a.cS H.length]).length)))=H++[.az [("_node2info",.ref (H.length+2))],.inst a.cS H.length,.az []]:=by rw [List.append_assoc,e2];simp;rfl
   simp only [f1];refine ab (av (eW (cx (aa 0 rfl rfl (c7 W.B a.cS (ay W.a2).1 (Bb _ _ _) (by simp) ?_)))));rw [e2];refine ab (av (bH (cx (aa 0 rfl rfl (c7 W.B a.cS (ay W.a3).1 (Bb _ _ _) (Nat.le_of_ble_eq_true rfl) ?_)))));rw [e2];refine ab (av (bH (cx (aa 0 rfl rfl (c7 W.B a.cS (ay W.a4).1 (Bb _ _ _) (Nat.le_of_ble_eq_true rfl) ?_)))));rw [e2];refine ab (bP (bh (aa 1 rfl rfl (eW (l0 (aT ?_))))));refine ax (ax ?_);constructor <;> first | trivial | rfl
end
theorem bz.mono {K K':AV->bg->Prop}(h:bz c n fv args H K)(hk:∀v H',K v H'->K' v H'):bz c n fv args H K' :=
 λA F bs s rs fr h1 h2 h3 h4 h5 wd hv=>codeAny_mono (h A F bs s rs fr h1 h2 h3 h4 h5 wd hv) λr s' NZ=>by obtain ⟨F',aE,v,H',rv,own,e1,e2,e3,e4,e5,e6⟩:=NZ;exact ⟨F',aE,v,H',rv,own,e1,e2,e3,e4,e5,hk v H' e6⟩
theorem i6 {i n:Nat}(hn:(nds.map (·.1)).Nodup)(h1:nds[i]?=some y)(h2:ns[i]?=some n):bB (tabOf ns nds) y.1=some (.ref (n+1)):=by
 induction nds generalizing ns i with
 | nil=>exact bE h1
 | cons z nds ih =>
   cases ns with
   | nil=>exact bE h2
   | cons m ns =>
     delta tabOf bB;refine (aq List.zip_cons_cons)▸(aq List.map_cons)▸(aq (List.find?_cons))▸?_;dsimp only;cases i with
     | zero =>refine rE (bo h1) ?_;clear ih;refine rE (bo h2) ?_;rw [decide_eq_true rfl];rfl
     | succ i =>obtain gW:=List.nodup_cons.mp hn;rw [decide_eq_false λe:z.1=y.1=>gW.1 (dm (ae y (ct h1) e.symm))];exact ih gW.2 h1 h2
theorem r3 (h:nds.any (λp=>decide (p.1=x))=false):bB (tabOf ns nds) x=none:=by
 induction nds generalizing ns with
 | nil=>delta tabOf;rw [List.zip_nil_left];rfl
 | cons z nds ih =>
   cases ns with
   | nil=>rfl
   | cons m ns =>refine e0a1 (Bool.or_eq_false_iff.mp h) λh1 h2=>?_;delta tabOf bB;rw [List.zip_cons_cons,List.map_cons,List.find?_cons];dsimp only at h1 ⊢;refine rE h1 ?_;exact ih h2
theorem wz {κ α:Type} [DecidableEq κ] {kvs:List (κ×α)}{k:κ}(v:α)(h:bB kvs k=none):df kvs k v=kvs++[(k,v)]:=by
 delta df;rw [if_neg];intro q;refine e1a1 (List.any_eq_true.mp q) λp hp e=>?_;delta bB at h;cases e2:kvs.find? λkv=>kv.1=k with
 | none=>obtain this:=List.find?_eq_none.mp e2 p hp;exact this e
 | some p'=>replace h:=e2▸h;cases h
theorem xW (hl:ns.length=nds.length)(n:Nat)(x:Nd):tabOf (ns++[n]) (nds++[x])=tabOf ns nds++[(x.1,.ref (n+1))]:=by delta tabOf;simp only [List.zip_append hl.symm];simp
theorem GB {nds:List Nd}(h:nds.any (λp=>decide (p.1=x))=true):∃(i:Nat) (y:Nd),nds[i]?=some y/\y.1=x:=by refine e1a1 (List.any_eq_true.mp h) λy hy e=>?_;obtain ⟨i,hi,e2⟩:=List.getElem_of_mem hy;exact (eO i y (by rw [cp hi,e2]) (by simpa using e))
theorem xX {nds:List Nd}(h:(nds.map (·.1)).Nodup)(hx:nds.any (λp=>decide (p.1=x))=false)(y:Int×List Str):((nds++[(x,y)]).map (·.1)).Nodup:=by rw [List.map_append,List.nodup_append];refine (aG h (by simp) (λu hu v hv=>?_));simp at hv;refine rE hv ?_;refine e1a1 (dS hu) λp hp o1=>?_;refine o1▸?_;intro e;obtain this:=List.any_eq_false.mp hx p hp;exact this (by simpa using e)
theorem Lk.set (h:Lk H cN n x)(o:AO)(h0:j≠n)(h1:j≠n+1)(h2:j≠n+2):Lk (H.set j o) cN n x :=
 ⟨by rw [ba h0];exact h.dict,by rw [ba h1];exact h.slots,by rw [ba h2];exact h.list⟩
theorem fQ {H l:bg}{j:Nat}(h:H[j]?=some o):(H++l)[j]?=some o:=by refine rE (eN (bN h).1) ?_;exact h
theorem Lk.app (h:Lk H cN n x):Lk (H++l) cN n x:=⟨fQ h.dict,fQ h.slots,fQ h.list⟩
theorem Lk.lt (h:Lk H cN n x):n+2 < H.length:=(bN h.list).1
theorem xd.lt {lo:Nat}(h:xd H cN lo ns nds):∀n∈ns,n+2 < H.length:=λn hn=>by
 obtain ⟨i,hi,e⟩:=List.getElem_of_mem hn;obtain i3:i < nds.length:=by simp only [<-h.len];exact hi
 exact (h.at_ i n nds[i] (by rw [cp hi,e]) (cp i3)).lt
section
variable {c:bc}{mg mb:fV}{Kf:Frag}{a:sP}
theorem zB (W:r0 c mg mb Kf a)(hs:SB H a d ns nds)(x:Str)(n:Nat)(hlen:nds.length < 1000) :
 bz c (n+3) (.ref a.info) [.ref (d+1),.str x] H (λv H'=>∃(r4:fj) (i nn:Nat) (y:Nd),SB H' a d r4 (bI nds x)/\(bI nds x)[i]?=some y/\y.1=x/\r4[i]?=some nn/\v=.ref (nn+1)/\Ext H H' (λj=>j=d+2)/\(r4=ns\/r4=ns++[H.length])):=by
 refine W.info.en W.B.toBase ["self","node"] ["self","node","result"] [(0,.ref (d+1)),(1,.str x)] (λzz zz zz=>rfl) rfl rfl (rfl) λenv own frames bd jN=>?_
 . have hI:∀lc,gh ⟨lc,H⟩ (d+1) d a.cS _:=λlc=>⟨hs.inst,hs.dict⟩
   have hg:∀{C:Cx} {lc:fi} {K:dC} {X:dU},K (.ref (d+2)) ⟨lc,H⟩->wk c C "_node2info" (.ref (d+1)) ⟨lc,H⟩ K X:=λk=>a9 W.B a.cS (ay W.a1).2.2 (ay W.a1).2.1 (hI _) rfl (by simp) k;refine ab (bP (bh (sD (cb "dict" "dict.get" PySem.F.plainAttrs_dict PySem.F.slot_dict_get PySem.F.type_dict_get (a7 (aa 0 rfl rfl (hg ⟨gY hs.tab rfl,aw (aa 1 rfl rfl (sN (.inr (ae (d+2) rfl hs.tab)) ?_))⟩)))))));refine au 2 rfl (bd 2 _ rfl) ?_;cases hx:nds.any (λp=>decide (p.1=x)) with
   | true =>
     refine e2a1 (GB hx) λi y h1 h2=>?_;have hi:i < ns.length:=by rw [hs.nodes.len];exact (bN h1).1
     have hn:=cp hi;have JR:=i6 hs.names h1 hn;rw [h2] at JR;rw [JR];refine eW (kB (aT ?_));refine ax (ab (bj (aa 2 rfl rfl (jC ns i (ns[i]) y ?_ ?_ h2 hn rfl (.refl ..) (.inl rfl)))))
     . simp only [bI,hx,if_true];exact hs
     . simp only [bI,hx,if_true];exact h1
   | false =>
     have JR:=r3 (ns:=ns) hx;rw [JR];refine eW (F1 (aT ?_));refine ab (oP (m7 W.B a.cN W.HH rfl (n:=n+2) (bu _) (ib W.B.toBase (rfl) W.gN ⟨rfl,aw (aa 1 rfl rfl (bz.cls W.B W.Xx W.HF ((AA W x H n).mono λv H' Gj=>e0a1 Gj λe1 e2=>⟨e1,?_⟩)))⟩)));refine rE e2 ?_;generalize hl:([.az [],.slots a.cN H.length [some (.str x),some (.int 0),some (.ref (H.length+2))],.list []]:bg)=l;have Ao:∀lc,gh ⟨lc,H++l⟩ (d+1) d a.cS _:=λlc=>⟨fQ hs.inst,fQ hs.dict⟩
     refine kA (a7 (aa 0 rfl rfl (a9 W.B a.cS (ay W.a1).2.2 (ay W.a1).2.1 (Ao _) rfl (by simp) (aa 1 rfl rfl (il (d+2) x (tabOf ns nds) rfl rfl (fQ hs.tab) ?_ ?_)))))
     . simp [tabOf,sizeLine];exact ey (cD (Nat.min_le_left ..) hlen) rfl
     refine au 2 rfl (bd 2 _ rfl) (ax ?_);have hd2:d+2 < H.length:=(bN hs.tab).1;have Li:d+3<=H.length:=pI hd2;refine ab (bj (aa 2 rfl rfl (jC (ns++[H.length]) nds.length H.length (x,0,[]) ?_ ?_ rfl ?_ rfl ⟨?_,?_⟩ (.inr rfl))))
     . rw [wz _ JR,bI,hx];simp only [dQ,if_false];have lt:=hs.nodes.lt;refine ⟨?_,?_,?_,⟨?_,?_,?_,?_⟩,xX hs.names hx _⟩
       . rw [ba mB];exact fQ hs.inst
       . rw [ba mA];exact fQ hs.dict
       . rw [hX (by simp;exact cG hd2 (bW _ _)),xW hs.nodes.len]
       . simp [hs.nodes.len]
       . intro i m y h1 h2;by_cases hi:i < ns.length
         . rw [eN hi] at h1;rw [eN (by rw [<-hs.nodes.len];exact hi)] at h2;have:=hs.nodes.low m (ct h1);exact ((hs.nodes.at_ i m y h1 h2).app).set _ (bS this) (bS (Nat.le.step this)) (bS (cG this (bW _ 2)))
         . have e:i=ns.length:=by have:=(bN h1).1;simp at this;exact tH this hi
           clear hi;subst e;rw [iV (bu _)] at h1;rw [hs.nodes.len,iV (bu _)] at h2;simp at h1 h2;subst h1 h2;have e0:∀(l:bg),(H++l)[H.length]?=l[0]?:=λl=>by rw [iV (bu _)];simp
           have e1:∀(l:bg),(H++l)[H.length+1]?=l[1]?:=λl=>by rw [iV arith2];simp
           have e2:∀(l:bg),(H++l)[H.length+2]?=l[2]?:=λl=>by rw [iV pG];simp
           refine hl▸?_;exact ⟨by rw [ba (bS hd2),e0];rfl,by rw [ba (bS (Nat.le.step hd2)),e1];rfl,by rw [ba (bS (cG hd2 (bW _ 2))),e2];rfl⟩
       . intro m hm;rcases bL hm with q | q
         . exact hs.nodes.low m q
         . rw [bp q];exact Li
       . rw [List.pairwise_append];refine (aG hs.nodes.gap (by simp) (λm hm k hk=>?_));rw [bp hk];have:=lt m hm;exact pI this
     . simp [bI,hx]
     . rw [<-hs.nodes.len];simp
     . simp
     . intro j hj ge;rw [ba (Ne.symm ge),eN hj]
end
section
variable {c:bc}{C:Cx}{S:AS}{X:dU}{K:dC}
theorem D2 (hl:xs.length < 2 ^ 63)(k:K (.int xs.length) S):dD c C (.builtin "len") [.tup xs] S K X:=by
 intro A F bs s rs hA z hv;refine e1a1 hv.one λr o4 h1=>?_;refine rE o4 ?_;clear hv;refine e2a2 h1.inv λa vs o3 ht be=>?_;refine rE o3 ?_;refine WP.kept z λQ E q=>PyProof.Rows.len_tuple (items:=vs.toArray) (dh _ (z.wd.sub _ _ ht) rfl 0 rfl) (by simp [be.length];exact pC hl) (q _ _ (.toks ..) (ae (.int xs.length) ?_ k));obtain this:((vs.toArray.size:Nat):Int)=xs.length:=by simp [be.length]
 simp only [this];exact .int _ _
end
noncomputable def bump (nds:List Nd)(x:Str)(k:Int):List Nd:=nds.map λp=>if p.1=x then (p.1,p.2.1+k,p.2.2) else p
noncomputable def dN (nds:List Nd)(p x:Str):List Nd:=nds.map λq=>if q.1=p then (q.1,q.2.1,q.2.2++[x]) else q
noncomputable def cq (nds:List Nd)(x:Str)(bV:ag):List Nd:=bV.foldl (λl p=>dN (bI l p) p x) nds
noncomputable def fc (nds:List Nd)(x:Str)(bV:ag):List Nd:=cq (bump (bI nds x) x bV.length) x bV
theorem JS {nds:List Nd}(hn:(nds.map (·.1)).Nodup)(h:nds[i]?=some y)(f:Nd->Nd):(nds.map λp=>if p.1=y.1 then f p else p)=nds.set i (f y):=by
 refine List.ext_getElem? λj=>?_;refine rE (dw) ?_;by_cases e:i=j
 . refine e▸?_;refine (aq h)▸(aq (hX (bN h).1))▸?_;simp
 . refine rE (ba e) ?_;cases hj:nds[j]? with
   | none=>rfl
   | some z =>
     obtain ge:z.1≠y.1:=λq=>by
      obtain h1:(nds.map (·.1))[i]?=some y.1:=by refine (aq (dw))▸(aq h)▸?_;rfl
      obtain h2:(nds.map (·.1))[j]?=some y.1:=by refine (aq (dw))▸(aq hj)▸q▸?_;rfl
      exact e ((List.getElem?_inj (bN h1).1 hn).mp (h1.trans h2.symm))
     simp [ge]
theorem lA {nds:List Nd}(h:nds[i]?=some y)(e:y'.1=y.1):(nds.set i y').map (·.1)=nds.map (·.1):=by
 refine List.ext_getElem? λj=>?_;refine rE (dw) ?_;rw [dw];by_cases q:i=j
 . subst q;rw [h,hX (bN h).1];simp [e]
 . rw [ba q]
theorem dK (ns:fj)(nds:List Nd):tabOf ns nds=((nds.map (·.1)).zip ns).map λp=>(p.1,.ref (p.2+1)):=by refine (aq List.zip_map_left)▸(aq List.map_map)▸?_;rfl
theorem nZ (h:nds[i]?=some y)(e:y'.1=y.1):tabOf ns (nds.set i y')=tabOf ns nds:=by simp only [dK,dK,lA h e]
theorem D3 {ns:fj}(h:ns.Pairwise λm n=>m+3<=n){i j:Nat}(h1:ns[i]?=some m)(h2:ns[j]?=some n)(e:i≠j):m+3<=n\/n+3<=m:=by
 refine e1a0 (bN h1) λhi e1=>?_;refine e1a0 (bN h2) λhj e2=>?_;rcases Nat.lt_or_gt_of_ne e with q | q
 . left;refine e1▸e2▸?_;exact List.pairwise_iff_getElem.mp h i j hi hj q
 . right;rw [<-e1,<-e2];exact List.pairwise_iff_getElem.mp h j i hj hi q
theorem xd.wA {lo:Nat}(h:xd H cN lo ns nds)(h1:ns[i]?=some n)(h2:nds[i]?=some y)(np:Int) :
 xd (H.set (n+1) (.slots cN n [some (.str y.1),some (.int np),some (.ref (n+2))])) cN lo ns (nds.set i (y.1,np,y.2.2)):=by
 refine ⟨by simp [h.len],λj m z e1 e2=>?_,h.low,h.gap⟩;obtain L:=h.at_ i n y h1 h2;by_cases e:i=j
 . subst e;refine (bo (aB (aq h1) e1))▸?_;refine (bo (aB (aq (hX (bN h2).1)) e2))▸?_;obtain this:=L.lt;exact ⟨by rw [ba mz];exact L.dict,by rw [hX (bF this)],by rw [ba tm];exact L.list⟩
 . rw [ba e] at e2;obtain g:=D3 h.gap h1 e1 e;exact (h.at_ j m z e1 e2).set _ (BY g) (BZ g) (B0 g)
theorem xd.JT {lo:Nat}(h:xd H cN lo ns nds)(h1:ns[i]?=some n)(h2:nds[i]?=some y)(sc:ag) :
 xd (H.set (n+2) (.list (sc.map .str))) cN lo ns (nds.set i (y.1,y.2.1,sc)):=by
 refine ⟨by simp [h.len],λj m z e1 e2=>?_,h.low,h.gap⟩;obtain L:=h.at_ i n y h1 h2;by_cases e:i=j
 . subst e;refine (bo (aB (aq h1) e1))▸?_;refine (bo (aB (aq (hX (bN h2).1)) e2))▸?_;obtain this:=L.lt;exact ⟨by rw [ba mA];exact L.dict,by rw [ba mB];exact L.slots,by rw [hX this]⟩
 . rw [ba e] at e2;obtain g:=D3 h.gap h1 e1 e;exact (h.at_ j m z e1 e2).set _ (B1 g) (B2 g) (B3 g)
section
variable {a:sP}
theorem SB.wA (h:SB H a d ns nds)(h1:ns[i]?=some n)(h2:nds[i]?=some y)(np:Int) :
 SB (H.set (n+1) (.slots a.cN n [some (.str y.1),some (.int np),some (.ref (n+2))])) a d ns (nds.set i (y.1,np,y.2.2)):=by
 obtain lo:=h.nodes.low n (ct h1);exact ⟨by rw [ba (vh lo)];exact h.inst,by rw [ba (vf lo)];exact h.dict,by rw [ba (dk (Nat.le.step lo)),nZ (y':=(y.1,np,y.2.2)) h2 rfl];exact h.tab,h.nodes.wA h1 h2 np,by rw [lA (y':=(y.1,np,y.2.2)) h2 rfl];exact h.names⟩
theorem SB.JT (h:SB H a d ns nds)(h1:ns[i]?=some n)(h2:nds[i]?=some y)(sc:ag) :
 SB (H.set (n+2) (.list (sc.map .str))) a d ns (nds.set i (y.1,y.2.1,sc)):=by
 obtain lo:=h.nodes.low n (ct h1);exact ⟨by rw [ba (BX lo)];exact h.inst,by rw [ba (dk (cG (Nat.lt_of_succ_lt (Nat.lt_of_succ_lt lo)) (bW _ 2)))];exact h.dict,by rw [ba (dk (cG lo (bW _ 2))),nZ (y':=(y.1,y.2.1,sc)) h2 rfl];exact h.tab,h.nodes.JT h1 h2 sc,by rw [lA (y':=(y.1,y.2.1,sc)) h2 rfl];exact h.names⟩
theorem l5 (nds:List Nd)(x:Str):(bI nds x).length<=nds.length+1:=by delta bI;split <;> simp
theorem nt (x:Str):∀(bV:ag) (nds:List Nd),(cq nds x bV).length<=nds.length+bV.length:=by
 intro bV;induction bV with
 | nil =>intro nds;simp [cq]
 | cons p l ih =>
   intro nds;obtain this:=ih (dN (bI nds p) p x);obtain h2:=l5 nds p;obtain e:cq nds x (p::l)=cq (dN (bI nds p) p x) x l:=rfl;obtain e3:(dN (bI nds p) p x).length=(bI nds p).length:=by simp [dN]
   skip;simp;exact (aV this (e3▸Nat.succ_add_eq_add_succ _ _▸Nat.add_le_add_right h2 _))
def lJ (lo:Nat)(ns r4:fj):Prop:=∃r,r4=ns++r/\∀m∈r,lo<=m
theorem lJ.refl (lo:Nat)(ns:fj):lJ lo ns ns:=(ae [] (by simp) (by simp))
theorem lJ.trans {lo lo':Nat}(x:lJ lo ns r4)(y:lJ lo' r4 TG)(h:lo<=lo'):lJ lo ns TG:=by refine e1a1 x λr o2 h1=>?_;clear x;obtain rfl:=o2;refine e1a1 y λr' o1 h2=>?_;clear y;obtain rfl:=o1;exact (ae (r++r') (by simp) (λm hm=>(bL hm).elim (h1 m) λq=>aV h (h2 m q)))
end
section
variable {c:bc}{mg mb:fV}{Kf:Frag}{a:sP}
theorem SB.slot (h:SB H a d ns nds){i n:Nat}(h1:ns[i]?=some n)(h2:nds[i]?=some y)(lc:fi) :
 ng ⟨lc,H⟩ (n+1) n a.cN [some (.str y.1),some (.int y.2.1),some (.ref (n+2))] :=
 (zU (.inr (h.nodes.at_ i n y h1 h2).slots) [] ((h.nodes.at_ i n y h1 h2).dict))
theorem Ext.set (j:Nat)(o:AO)(h:P j):Ext H (H.set j o) P :=
 ⟨by simp,λi hi n=>by rw [ba];intro e;clear hi;subst e;exact n h⟩
theorem nu {nds:List Nd}(hn:(nds.map (·.1)).Nodup)(h:nds[i]?=some y)(hx:y.1=x)(f:Nd->Nd):(nds.map λp=>if p.1=x then f p else p)=nds.set i (f y):=by subst hx;exact JS hn h f
def dX (nds:List Nd)(m:Nat):Prop:=∀y∈nds,y.2.2.length<=m
theorem dX.bI {nds:List Nd}{m:Nat}(h:dX nds m)(x:Str):dX (bI nds x) m:=by
 delta Mine.Internal.bI
 split
 . exact h
 . intro y hy
   (refine aN (bL hy) (λq=>?_) (λq=>?_))
   . exact h y q
   . refine rE (bp q) ?_;simp
theorem dX.bump {nds:List Nd}{m:Nat}(h:dX nds m)(x:Str)(k:Int):dX (bump nds x k) m:=by
 intro y hy;refine e1a1 (dS hy) λz hz o6=>?_;refine o6▸?_
 split
 . exact h z hz
 . exact h z hz
theorem dX.succ (h:dX nds m)(p x:Str):dX (dN nds p x) (m+1):=by
 intro y hy;refine e1a1 (dS hy) λz hz o5=>?_;refine o5▸?_
 split
 . simpa using h z hz
 . exact Nat.le_succ_of_le (h z hz)
theorem r5 (nds:List Nd)(x:Str)(l:ag)(p:Str):cq nds x (l++[p])=dN (bI (cq nds x l) p) p x:=by simp [cq]
theorem dX.bV (l:ag)(h:dX nds m):dX (cq nds x l) (m+l.length):=by
 induction l generalizing nds m with
 | nil=>exact h
 | cons p l ih =>obtain this:=ih ((h.bI p).succ p x);rw [Nat.add_assoc,Nat.add_comm 1] at this;exact this
theorem Ext.then (x:Ext H H' P)(hl:H'.length<=PS.length)(h:∀j,j < H.length->¬P j->PS[j]?=H'[j]?):Ext H PS P :=
 ⟨aV x.le hl,λj hj n=>(h j hj n).trans (x.same j hj n)⟩
theorem bw.put (h:bw S L)(hi:L.all (λp=>p.1 != i)=true):bw (S.put i v) (L++[(i,v)]):=by
 induction L with
 | nil=>exact ⟨by show (bY S.loc i v).lookup i=_;rw [aC];simp,trivial⟩
 | cons p L ih =>simp only [List.all_cons,cZ,bne_iff_ne] at hi;refine ⟨?_,ih h.2 hi.2⟩;rw [aC,if_neg hi.1];exact h.1
def JU (ps:Arguments)(dV:Value)(ns:ag)(x:Str):Prop:=∀fd us,Each ns.length λrs=>bindArgs (fdOf fd ps dV) ⟨rs++us,[]⟩=(do let t <-newTuple us;pure (ns.zip rs++[(x,t)]))
theorem eG.HL (B:Base c mg mb)(F:eG c fa f dV){K:AV->bg->Prop}(names:ag)(x:Str)(args xs:dB)(vars:ag)(lc:fi)
 (hb:JU f.params dV names x) (hlen:args.length=names.length) (hsz:xs.length<=sizeLine) (Gv:dp 0 (names.zip args++[(x,.tup xs)]) []=lc) (eI:ux f (names++[x]) vars=true)
 (h:∀env own frames,Stores (qK f env own frames n vars)->gJ (qK f env own frames n vars) ->
  Ex c (qK f env own frames n vars) f.body ⟨lc,H⟩ (FJ K) gX):bz c (n+1) (.ref fa) (args++xs) H K :=
 eG.call B F (names.zip args++[(x,.tup xs)]) (names++[x]) vars lc (λfd h1 h2 h3=>mM.star names x hlen hsz λrs us e=>by refine (yZ h1 h2 h3)▸?_;exact (hb fd us).all rs e) Gv (by rw [List.map_append,List.map_fst_zip (Nat.le_of_eq hlen.symm)];rfl) eI h
inductive N0 (H:bg)(a:sP)(d:Nat)(ns:fj)(TH:List Nd)(H':bg):Prop
 | mk (r4:fj) (h1:SB H' a d r4 TH) (h2:Ext H H' (D1 d ns)) (h3:lJ H.length ns r4)
theorem JV (W:r0 c mg mb Kf a)(fB:c9 mg mb "len" (.builtin "len"))(hs:SB H a d ns nds)(x:Str)(bV:ag)(n:Nat)(hlen:nds.length+bV.length < 900)(Jh:dX nds sl)(TI:sl+bV.length < 900) :
 bz c (n+4) (.ref a.add) ([.ref (d+1),.str x]++bV.map .str) H (λv H'=>v=.none/\N0 H a d ns (fc nds x bV) H'):=by
 refine W.add.HL W.B.toBase ["self","node"] "predecessors" [.ref (d+1),.str x] (bV.map .str) ["self","node","predecessors","nodeinfo","pred","pred_info"] [(0,.ref (d+1)),(1,.str x),(2,.tup (bV.map .str))] (λzz us zz zz=>by cases us <;> rfl) rfl (by simp [sizeLine];exact ey (cD (Nat.le_add_left ..) hlen) rfl) rfl (by decide +kernel) λenv own frames bd jN=>?_
 . have hI:∀lc,gh ⟨lc,H⟩ (d+1) d a.cS _:=λlc=>⟨hs.inst,hs.dict⟩
   refine ab (bP (bh (a7 (aa 0 rfl rfl (a9 W.B a.cS (ay W.a2).2.2 (ay W.a2).2.1 (hI _) rfl (by simp) (eW (l0 (aT ?_))))))));refine ax ?_;refine ab (av (cP W.B a.cS a.info W.DY rfl (n:=n+3) (bu _) (aa 0 rfl rfl ⟨d+1,d,_,rfl,hI _,rfl,aw (aa 1 rfl rfl ((zB W hs x n (hZ (cD (bW ..) hlen) rfl)).mono ?_))⟩)));intro v na o1;refine e4a0 o1 λHM i nn y o8=>?_;clear o1;refine e0a6 o8 λdl hy Fw N1 nO N2 N3=>?_;clear o8;obtain rfl:=nO;refine au 3 rfl (bd 3 _ rfl) ?_;have aah:=dl.nodes.at_ i nn y N1 hy;refine ab (fN (aa 3 rfl rfl (eD W.B a.cN W.slots.2.1 (dl.slot N1 hy _) rfl (by simp) (bQ (.builtin "len") (bT W.B.toBase (rfl) fB.1 fB.2 ⟨rfl,aw (aa 2 rfl rfl (D2 (by simp;exact hZ (cD (Nat.le_add_left ..) hlen) rfl) (gy ?_)))⟩)))));refine gn W.B a.cN W.slots.2.1 my (dl.slot N1 hy _) ?_;have bv:=dl.wA N1 hy (y.2.1+((bV.map AV.str).length:Int));have e2:(bI nds x).set i (y.1,y.2.1+((bV.map AV.str).length:Int),y.2.2)=bump (bI nds x) x bV.length:=by unfold bump;rw [nu dl.names hy Fw (λp=>(p.1,p.2.1+(bV.length:Int),p.2.2))];simp
   rw [e2] at bv;have D4:lJ H.length ns HM:=by
    rcases N3 with rfl | rfl
    . exact .refl ..
    . exact (ae [H.length] rfl (by simp))
   have hd2:d+2 < H.length:=(bN hs.tab).1;have ft:∀{r4:fj} {m:Nat},lJ H.length ns r4->m∈r4->∀j,j < H.length->(j=m+1\/j=m+2)->D1 d ns j:=λHN hm j hj q=>by
    refine e1a1 HN λr e hr=>?_;clear HN;subst e;rcases bL hm with w | w
    . exact .inr (.inr (ae _ w q))
    . have:=hr _ w;exact (Cc hj q this).elim
   have HO:Ext H (na.set (nn+1) (.slots a.cN nn [some (.str y.1),some (.int (y.2.1+((bV.map AV.str).length:Int))),some (.ref (nn+2))])) (D1 d ns):=by refine (N2.mono λj zz e=>.inr (.inl e)).then (by simp) λj hj N4=>?_;rw [ba];intro e;exact N4 (ft D4 (ct N1) j hj (.inl e.symm))
   have HP:dX (bump (bI nds x) x bV.length) sl:=(Jh.bI x).bump x _;have D5:(bump (bI nds x) x bV.length).length<=nds.length+1:=by have:=l5 nds x;simpa [bump] using this
   generalize N5:na.set (nn+1) (.slots a.cN nn [some (.str y.1),some (.int (y.2.1+((bV.map AV.str).length:Int))),some (.ref (nn+2))])=v6 at bv HO;have JW:na.set (nn+1) (.slots a.cN nn (iB [some (.str y.1),some (.int y.2.1),some (.ref (nn+2))] 1 (.int (y.2.1+((bV.map AV.str).length:Int)))))=v6:=N5;rw [JW];generalize ii:bump (bI nds x) x bV.length=base at bv HP D5;refine ab (c8 rfl (qh (aa 2 rfl rfl (ae _ rfl ?_))));refine ⟨λj S'=>bw S' [(0,.ref (d+1)),(1,.str x),(2,.tup (bV.map .str))]/\N0 H a d ns (cq base x (bV.take j)) S'.heap,⟨(bw.of rfl),HM,bv,HO,D4⟩,λzz zz zz=>trivial,?_,?_⟩
   . intro j v S' hj o2;obtain ⟨hL,r4,db,u8,PT⟩:=o2;rw [dw] at hj;cases hp:bV[j]? with
     | none=>rw [hp] at hj;cases hj
     | some p =>
       rw [hp] at hj;cases hj;have hjl:j < bV.length:=(bN hp).1;have oO:bV.take (j+1)=bV.take j++[p]:=by rw [List.take_add_one,hp];rfl
       have v0:=nt x (bV.take j) base;have Xz:=dX.bV (x:=x) (bV.take j) HP;rw [List.length_take] at v0 Xz;refine au 4 rfl (bd 4 _ rfl) (dG _ (hL.put (i:=4) (v:=.str p) (rfl)) ?_);show Ex c _ _ ⟨[(0,.ref (d+1)),(1,.str x),(2,.tup (bV.map .str)),(4,.str p)],S'.heap⟩ _ gX;generalize XA:S'.heap=H' at db u8;refine ab (av (cP W.B a.cS a.info W.DY rfl (n:=n+3) (bu _) (aa 0 rfl rfl ⟨d+1,d,_,rfl,⟨db.inst,db.dict⟩,rfl,aw (aa 4 rfl rfl ((zB W db p n (hZ (cD (aV v0 (Nat.add_le_add D5 (Nat.min_le_right _ _))) (Nat.succ_add _ _▸Nat.succ_lt_succ hlen:_+1+_ < 901)) rfl)).mono ?_))⟩)));intro v Aw o3;refine e4a0 o3 λHQ TJ TK D6 o7=>?_;clear o3;refine e0a6 o7 λoH oY JX wf o9 HR N6=>?_;clear o7;obtain rfl:=o9;have D7:lJ H.length ns HQ:=by
        refine PT.trans (lo':=H'.length) ?_ u8.le;clear wf oH db PT;rcases N6 with rfl | rfl
        . exact .refl ..
        . exact (ae [H'.length] rfl (by simp))
       refine au 5 rfl (bd 5 _ rfl) ?_;have N7:=oH.nodes.at_ TJ TK D6 wf oY;have D8:D6.2.2.length<=sl+bV.length:=by have:=(Xz.bI p) D6 (ct oY);exact aV this (fX (Nat.min_le_right ..) _)
       refine ab (bZ (cb "list" "list.append" PySem.F.plainAttrs_list PySem.F.slot_list_append PySem.F.type_list_append (a7 (aa 5 rfl rfl (eD W.B a.cN W.slots.2.2 (oH.slot wf oY _) rfl (by simp) ⟨gY N7.list rfl,aw (aa 1 rfl rfl (dR N7.list (by simp [sizeLine];exact ey (cD D8 TI) rfl) ?_))⟩)))) (rfl));refine ax ⟨(bw.of rfl),HQ,?_,?_,D7⟩
       . have qm:=oH.JT wf oY (D6.2.2++[x]);rw [oO,r5];unfold dN;rw [nu oH.names oY JX (λq=>(q.1,q.2.1,q.2.2++[x]))];rw [strs_snoc];exact qm
       . refine (u8.then HR.le λj hj N4=>HR.same j (cG hj u8.le) λe=>N4 (.inr (.inl e))).then (by simp) λj hj N4=>?_;rw [ba];intro e;exact N4 (ft D7 (ct wf) j hj (.inr e.symm))
   . intro S' o4;obtain ⟨hL,r4,db,u8,PT⟩:=o4;rw [fz,List.take_length] at db;refine ax ⟨rfl,r4,?_,u8,PT⟩;unfold fc;rw [ii];exact db
end
structure Fm where
 x:Str
 k:Nat
 i:Nat
 p:Nat
noncomputable def cA (nds:List Nd)(x:Str):ag:=((nds.find? λy=>y.1=x).map (·.2.2)).getD []
theorem jj (hn:(nds.map (·.1)).Nodup)(h:y∈nds):cA nds y.1=y.2.2:=by
 induction nds with
 | nil=>exact absurd h List.not_mem_nil
 | cons z l ih =>
   have gW:=List.nodup_cons.mp (by exact hn:(z.1::l.map (·.1)).Nodup)
   (refine aN (cu h) (λe=>?_) (λh=>?_))
   . clear gW h;clear hn;subst e;simp [cA]
   . have ge:z.1≠y.1:=λe=>gW.1 (by simp only [e];exact dm (ae y h rfl));obtain this:=ih gW.2 h;simp only [cA,List.find?_cons,ge,decide_false] at this ⊢;exact this
noncomputable abbrev nextOf (k:Nat):AV:=.bm "method-wrapper" (.builtin "list_iterator.__next__") (.ref k)
noncomputable abbrev l6 (fs:List Fm):AO:=.list (fs.map λf=>.str f.x)
noncomputable abbrev xY (fs:List Fm):AO:=.list (fs.map λf=>nextOf f.k)
noncomputable abbrev xZ (fs:List Fm):AO:=.az (fs.zipIdx.map λp=>(p.1.x,.int p.2))
noncomputable abbrev oZ (x:Str)(k p:Nat):Fm:=⟨x,k,0,p⟩
structure Cy (H:bg)(nds:List Nd)(rk:Str->Nat)(fs:List Fm)(sn:ag)(S':bg):Prop where
 ext:Ext H S' (λzz=>False)
 stack:S'[H.length]?=some (l6 fs)
 AB:S'[H.length+1]?=some (xY fs)
 seen:S'[H.length+2]?=some (.uset sn)
 idx:S'[H.length+3]?=some (xZ fs)
 it:∀f∈fs,H.length+4<=f.k/\S'[f.k]?=some (.gF (.ref (f.p+2)) f.i)/\f.p+2 < H.length/\H[f.p+2]?=some (.list ((cA nds f.x).map .str))/\f.i<=(cA nds f.x).length/\f.x∈nds.map (·.1)
 ks:(fs.map (·.k)).Nodup
 wB:(fs.map λf=>rk f.x).Pairwise (· < ·)
 sub:∀f∈fs,f.x∈sn
 names:∀x∈sn,x∈nds.map (·.1)
 snd:sn.Nodup
noncomputable def iE (nds:List Nd)(sn:ag):Nat:=(nds.map λy=>if y.1∈sn then 0 else 2+y.2.2.length).sum
noncomputable def qQ (nds:List Nd)(fs:List Fm):Nat:=(fs.map λf=>1+((cA nds f.x).length - f.i)).sum
theorem x7 (hn:(nds.map (·.1)).Nodup)(h:y∈nds)(hy:y.1∉sn):iE nds (sn++[y.1])+(2+y.2.2.length)=iE nds sn:=by
 have same:∀(l:List Nd),y.1∉l.map (·.1)->iE l (sn++[y.1])=iE l sn:=by intro l hl;delta iE;congr 1;apply List.map_congr_left;intro z hz;obtain ge:z.1≠y.1:=λe=>hl (by simp only [<-e];exact dm (ae z hz rfl));simp [ge]
 induction nds with
 | nil=>exact absurd h List.not_mem_nil
 | cons z l ih =>
   have gW:=List.nodup_cons.mp (by exact hn:(z.1::l.map (·.1)).Nodup);obtain e1:∀PU,iE (z::l) PU=(if z.1∈PU then 0 else 2+z.2.2.length)+iE l PU:=λPU=>rfl;simp only [e1,e1]
   (refine aN (cu h) (λe=>?_) (λh=>?_))
   . clear e1 h hn;subst e;simp only [same l gW.1];simp [hy];exact Nat.add_comm ..
   . obtain ge:z.1≠y.1:=λe=>gW.1 (by simp only [e];exact dm (ae y h rfl));obtain this:=ih gW.2 h;obtain e2:(z.1∈sn++[y.1])=(z.1∈sn):=by simp [ge]
     simp only [e2];exact (this▸Nat.add_assoc _ _ (2+_))
theorem Ext.app (x:Ext H H' P):Ext H (H'++l) P :=
 ⟨by obtain this:=x.le;simp;exact aV this (bW _ _),λj hj n=>by rw [eN (cG hj x.le)];exact x.same j hj n⟩
theorem Ext.kI (x:Ext H H' P)(hj:H.length<=j)(o:AO):Ext H (H'.set j o) P :=
 ⟨by obtain this:=x.le;simpa using this,λi hi n=>by rw [ba (dk (cG hi hj))];exact x.same i hi n⟩
section
variable {c:bc}{mg mb:fV}{Kf:Frag}{a:sP}
theorem Cy.push (h:Cy H nds rk fs sn S')(hn:(nds.map (·.1)).Nodup)(hy:y∈nds)(hs:y.1∉sn)(hp:H[p+2]?=some (.list (y.2.2.map .str)))(hr:∀f∈fs,rk f.x < rk y.1) :
 Cy H nds rk (fs++[oZ y.1 S'.length p]) (sn++[y.1])
  (((((S'.set (H.length+2) (AO.uset (sn++[y.1])))++[AO.gF (.ref (p+2)) 0]).set (H.length+1) (xY (fs++[oZ y.1 S'.length p]))).set (H.length+3) (xZ (fs++[oZ y.1 S'.length p]))).set H.length (l6 (fs++[oZ y.1 S'.length p]))):=by
 obtain l3:H.length+3 < S'.length:=(bN h.idx).1;obtain Fx:=jj hn hy;refine ⟨?_,?_,?_,?_,?_,?_,?_,?_,?_,?_,?_⟩
 . exact ((((h.ext.kI pG _).app).kI arith2 _).kI tB _).kI (bu _) _
 . rw [hX (by simp;exact Nat.lt_succ_of_le (aV (bW _ 4) l3))]
 . rw [ba jv,ba tv,hX (by simp;exact mG l3)]
 . rw [ba pF,ba (dk Nat.le.refl),ba tm,eN (by simp;exact bF l3),hX (bF l3)]
 . rw [ba (bS (Nat.lt_succ_of_le (bW _ 2))),hX (by simp;exact Nat.le.step l3)]
 . intro f hf;rcases bL hf with q | q
   . refine e0a2 (h.it f q) λh1 h2 h3=>?_;refine (aG h1 ?_ h3);obtain eX:f.k < S'.length:=(bN h2).1;rw [ba (vk h1),ba (bS h1),ba (vj h1),eN (by simpa using eX),ba (bS (bF h1))];exact h2
   . rw [bp q];refine (kX (by assumption) ?_ ((bN hp).1) (by rw [Fx];exact hp) (Nat.zero_le _) (dm (ae y hy rfl)));simp only;rw [ba (bS (cD (bW _ 3) l3)),ba (bS l3),ba (BV l3),iV (by simp)];simp
 . rw [List.map_append,List.nodup_append];refine (aG h.ks (by simp) (λu hu v hv=>?_));refine e1a1 (dS hu) λf hf o2=>?_;obtain rfl:=o2;simp at hv;subst hv;obtain this:=(bN (h.it f hf).2.1).1;exact bS this
 . rw [List.map_append,List.pairwise_append];refine (aG h.wB (by simp) (λu hu v hv=>?_));refine e1a1 (dS hu) λf hf o1=>?_;obtain rfl:=o1;simp at hv;subst hv;exact hr f hf
 . intro f hf;rcases bL hf with q | q
   . exact fg (.inl (h.sub f q))
   . rw [bp q];simp
 . intro x hx;rcases bL hx with q | q
   . exact h.names x q
   . simp only [bp q];exact dm (ae y hy rfl)
 . rw [List.nodup_append];exact (aG h.snd (by simp) (λu hu v hv=>by rw [bp hv];exact λe=>hs (e▸hu)))
theorem Cy.step (h:Cy H nds rk (fs++[f]) sn S')(hi:f.i < (cA nds f.x).length) :
 Cy H nds rk (fs++[{f with i:=f.i+1}]) sn (S'.set f.k (.gF (.ref (f.p+2)) (f.i+1))):=by
 refine e0a5 (h.it f (by simp)) λg1 g2 g3 g4 g5 g6=>?_;obtain eX:f.k < S'.length:=(bN g2).1;obtain hm:∀{β:Type} (φ:Fm->β),φ {f with i:=f.i+1}=φ f->(fs++[{f with i:=f.i+1}]).map φ=(fs++[f]).map φ:=λφ e=>by simp [e]
 obtain hz:xZ (fs++[{f with i:=f.i+1}])=xZ (fs++[f]):=by simp [xZ,List.zipIdx_append]
 obtain hz1:l6 (fs++[{f with i:=f.i+1}])=l6 (fs++[f]):=by simp [l6]
 obtain hz2:xY (fs++[{f with i:=f.i+1}])=xY (fs++[f]):=by simp [xY]
 refine ⟨h.ext.kI (Nat.le_of_add_right_le g1) _,?_,?_,?_,?_,?_,?_,?_,?_,h.names,h.snd⟩
 . refine rE (ba (tE g1)) ?_;rw [hz1];exact h.stack
 . refine rE (ba (tF g1)) ?_;rw [hz2];exact h.AB
 . refine rE (ba (dk (bF g1))) ?_;exact h.seen
 . refine rE (ba (dk g1)) ?_;rw [hz];exact h.idx
 . intro e he;rcases bL he with q | q
   . refine e0a2 (h.it e (fg (.inl q))) λh1 h2 h3=>?_;refine (aG h1 ?_ h3);obtain ge:f.k≠e.k:=λw=>by obtain this:=h.ks;rw [List.map_append,List.nodup_append] at this;exact this.2.2 e.k (dm (ae e q rfl)) f.k (by simp) w.symm
     refine rE (ba ge) ?_;exact h2
   . rw [bp q];exact (kX g1 (by simp only;rw [hX eX]) g3 g4 hi g6)
 . simp only [hm (λf=>f.k) rfl];exact h.ks
 . simp only [hm (λf=>rk f.x) rfl];exact h.wB
 . intro e he;rcases bL he with q | q
   . exact h.sub e (fg (.inl q))
   . rw [bp q];exact h.sub f (by simp)
theorem AD {l:eQ}(h:x∉l.map (·.1)):xB (l++[(x,v)]) x=l:=by
 delta xB;rw [List.filter_append];obtain this:l.filter (λkv=>decide (kv.1≠x))=l:=by rw [List.filter_eq_self];intro p hp;simp only [decide_eq_true_eq];exact λe=>h (by rw [<-e];exact dm (ae p hp rfl))
 simp only [this];simp
theorem Cy.N8 (h:Cy H nds rk fs sn S'):(fs.map (·.x)).Nodup:=by
 obtain this:=h.wB;rw [List.pairwise_map] at this;rw [List.nodup_iff_pairwise_ne,List.pairwise_map];exact this.imp λ{u v} q e=>by rw [e] at q;exact absurd q (Nat.lt_irrefl _)
theorem Cy.pop (h:Cy H nds rk (fs++[f]) sn S') :
 Cy H nds rk fs sn ((((S'.set f.k .gone).set H.length (l6 fs)).set (H.length+3) (xZ fs)).set (H.length+1) (xY fs)):=by
 refine e0a2 (h.it f (by simp)) λg1 g2 zz=>?_;obtain l3:H.length+3 < S'.length:=(bN h.idx).1;refine ⟨?_,?_,?_,?_,?_,?_,?_,?_,?_,h.names,h.snd⟩
 . exact (((h.ext.kI (Nat.le_of_add_right_le g1) _).kI (bu _) _).kI tB _).kI arith2 _
 . rw [ba mz,ba tu,hX (by simp;exact mG l3)]
 . rw [hX (by simp;exact bF (bF l3))]
 . rw [ba tm,ba (dk Nat.le.refl),ba pF,ba (dk (bF g1))];exact h.seen
 . rw [ba (bS (bF Nat.le.refl)),hX (by simp;exact l3)]
 . intro e he;refine e0a2 (h.it e (fg (.inl he))) λh1 h2 h3=>?_;obtain ge:f.k≠e.k:=λw=>by obtain this:=h.ks;rw [List.map_append,List.nodup_append] at this;exact this.2.2 e.k (dm (ae e he rfl)) f.k (by simp) w.symm
   refine (aG h1 ?_ h3);rw [ba (vj h1),ba (bS h1),ba (vk h1),ba ge];exact h2
 . obtain this:=h.ks;rw [List.map_append,List.nodup_append] at this;exact this.1
 . obtain this:=h.wB;rw [List.map_append,List.pairwise_append] at this;exact this.1
 . exact λe he=>h.sub e (fg (.inl he))
end
theorem lK {fs:List Fm}(h:∀f∈fs,f.x≠x):bB (fs.zipIdx.map λp=>(p.1.x,AV.int p.2)) x=none:=by
 delta bB;rw [List.find?_eq_none.mpr]
 . rfl
 . intro p hp;refine e1a1 (dS hp) λq hq o9=>?_;refine o9▸?_;simp only [decide_eq_true_eq];exact h q.1 (by obtain this:=List.mem_zipIdx' hq;rw [this.2];exact List.getElem_mem _)
theorem n4 (nds:List Nd)(fs:List Fm)(f:Fm):qQ nds (fs++[f])=qQ nds fs+(1+((cA nds f.x).length - f.i)):=by simp [qQ]
theorem wC (fs:List Fm)(f:Fm):(fs++[f]).zipIdx.map (λp=>(p.1.x,AV.int p.2))=fs.zipIdx.map (λp=>(p.1.x,AV.int p.2))++[(f.x,.int fs.length)]:=by simp [List.zipIdx_append]
noncomputable def GC:fk:=(nV (nV nr.body 5) 1).drop 1
section
variable {c:bc}{mg mb:fV}{Kf:Frag}{a:sP}
inductive N9 (H:bg)(d:Nat)(ns:fj)(nds:List Nd)(rk:Str->Nat)(m:Nat)(S:AS):Prop
 | mk (x:Str) (fs:List Fm) (sn:ag) (hL:bw S [(0,.ref (d+1)),(1,.aZ (tabOf ns nds)),(2,.ref H.length),(3,.ref (H.length+1)),(4,.ref (H.length+2)),(5,.ref (H.length+3)),(6,.str x)]) (cy:Cy H nds rk fs sn S.heap) (hx:x∈nds.map (·.1)) (hr:∀f∈fs,rk f.x < rk x) (e:m=iE nds sn+qQ nds fs)
inductive TL (H:bg)(d:Nat)(ns:fj)(nds:List Nd)(rk:Str->Nat)(Φ:Nat)(m:Nat)(S:AS):Prop
 | mk (fs:List Fm) (sn:ag) (hL:bw S [(0,.ref (d+1)),(1,.aZ (tabOf ns nds)),(2,.ref H.length),(3,.ref (H.length+1)),(4,.ref (H.length+2)),(5,.ref (H.length+3))]) (cy:Cy H nds rk fs sn S.heap) (GD:iE nds sn+qQ nds fs<=Φ) (e:m=fs.length)
inductive Oa (H:bg)(d:Nat)(ns:fj)(nds:List Nd)(rk:Str->Nat)(S:AS):Prop
 | mk (hL:bw S [(0,.ref (d+1)),(1,.aZ (tabOf ns nds)),(2,.ref H.length),(3,.ref (H.length+1)),(4,.ref (H.length+2)),(5,.ref (H.length+3))]) (sn:ag) (cy:Cy H nds rk [] sn S.heap)
@[reducible] def TM (H:bg) (d:Nat) (ns:fj) (nds:List Nd) (rk:Str->Nat) (Φ:Nat):ip:=λfl S=>match fl with
 | .next=>qA (N9 H d ns nds rk) Φ S
 | .brk=>Oa H d ns nds rk S
 | _=>False
theorem D9 (W:r0 c mg mb Kf a)(fB:c9 mg mb "set" (.type "set"))(lp:c9 mg mb "iter" (.builtin "iter"))(rI:c9 mg mb "len" (.builtin "len"))(PV:c9 mg mb "StopIteration" (.type "StopIteration"))
 {H:bg} {d lo:Nat} {rk:Str->Nat} (Ob:H[d+1]?=some (.inst a.cS d)) (Oc:H[d]?=some (.az kvs)) (hg:bB kvs "_node2info"=some (.aZ (tabOf ns nds)))
 (hN:xd H a.cN lo ns nds) (At:(nds.map (·.1)).Nodup) (JY:∀y∈nds,∀s∈y.2.2,s∈nds.map (·.1)/\rk y.1 < rk s) (hlen:nds.length < 900) (n:Nat) :
 bz c (n+1) (.ref a.oW) [.ref (d+1)] H (λv H'=>v=.none/\Ext H H' (λzz=>False)):=by
 refine W.oW.en W.B.toBase ["self"] ["self","n2i","stack","itstack","seen","node2stacki","node"] [(0,.ref (d+1))] (λzz zz=>rfl) rfl rfl (by decide +kernel) λenv own frames bd jN=>?_
 . refine ab (av (a7 (aa 0 rfl rfl (a9 W.B a.cS (ay W.a1).2.2 (ay W.a1).2.1 ⟨Ob,Oc⟩ hg (by simp) (au 1 rfl (bd 1 _ rfl) ?_)))));refine ab (av (eY (bM ⟨by simp [sizeLine],au 2 rfl (bd 2 _ rfl) ?_⟩)));refine ab (av (eY (bM ⟨by simp [sizeLine],au 3 rfl (bd 3 _ rfl) ?_⟩)));refine ab (av (bQ (.type "set") (bT W.B.toBase (by rfl) fB.1 fB.2 ⟨rfl,bM (JK (au 4 rfl (bd 4 _ rfl) ?_))⟩)));refine ab (av (ky W.B.toBase (au 5 rfl (bd 5 _ rfl) ?_)));have TN:Cy H nds rk [] [] ((((H++[AO.list []])++[.list []])++[.uset []])++[.az []]):=by
    have e:((((H++[AO.list []])++[.list []])++[.uset []])++[.az []])=H++[AO.list [],.list [],.uset [],.az []]:=by simp
    rw [e];refine ⟨⟨by simp,λj hj zz=>by rw [eN hj]⟩,?_,?_,?_,?_,by simp,by simp,by simp,by simp,by simp,by simp⟩
    . rw [iV (bu _)];simp
    . rw [iV arith2];simp
    . rw [iV pG];simp
    . rw [iV tB];simp
   have TO:∀x,x∈nds.map (·.1)->∃p y,y∈nds/\y.1=x/\bB (tabOf ns nds) x=some (.ref (p+1))/\Lk H a.cN p y:=by
    intro x hx;refine e1a1 (dS hx) λy hy o8=>?_;obtain rfl:=o8;obtain ⟨i,hi,e⟩:=List.getElem_of_mem hy;have i3:i < ns.length:=by rw [hN.len];exact hi
    have h1:nds[i]?=some y:=by rw [cp hi,e]
    have h2:=cp i3;exact (mJ (ns[i]) y hy rfl (i6 At h1 h2) (hN.at_ i _ y h2 h1))
   have K8:∀{fs:List Fm} {sn:ag} {S':bg},Cy H nds rk fs sn S'->fs.length<=nds.length/\sn.length<=nds.length:=by intro fs sn S' h;have h2:sn.length<=(nds.map (·.1)).length:=h.snd.length_le_of_subset h.names;have h1:(fs.map (·.x)).length<=sn.length:=h.N8.length_le_of_subset (λx hx=>by refine e1a1 (dS hx) λf hf o7=>?_;obtain rfl:=o7;exact h.sub f hf);simp at h1 h2;exact (⟨aV h1 h2,h2⟩)
   generalize TP:([(0,.ref (d+1)),(1,.aZ (tabOf ns nds)),(2,.ref H.length),(3,.ref (H.length+1)),(4,.ref (H.length+2)),(5,.ref (H.length+3))]:fi)=L0;refine ab (c8 rfl (Gr (aa 1 rfl rfl (ae _ rfl ?_))));refine ⟨λzz=>Oa H d ns nds rk,?_,λzz zz zz=>trivial,?_,?_⟩
   . subst TP;refine ⟨⟨rfl,rfl,rfl,?_,?_,?_,trivial⟩,[],?_⟩
     . simp;rfl
     . simp;rfl
     . simp;rfl
     . exact TN
   . intro j v S' hj o1;obtain ⟨hL,sn,cy⟩:=o1;rw [dw] at hj;refine e1a1 (mw hj) λq hq e=>?_;subst e;have hx:q.1∈nds.map (·.1):=by have:=ct hq;unfold tabOf at this;refine e1a1 (dS this) λw hw o6=>?_;obtain rfl:=o6;exact dm (ae w.1 ((List.of_mem_zip hw).1) rfl)
     generalize q.1=x at hx;refine au 6 rfl (bd 6 _ rfl) (dG _ (hL.put (i:=6) (v:=.str x) (by subst TP;rfl)) ?_);subst TP;show Ex c _ _ ⟨[(0,.ref (d+1)),(1,.aZ (tabOf ns nds)),(2,.ref H.length),(3,.ref (H.length+1)),(4,.ref (H.length+2)),(5,.ref (H.length+3)),(6,.str x)],S'.heap⟩ _ gX;refine ab (bP (bh (aa 6 rfl rfl (aa 4 rfl rfl (DL cy.seen (aT ?_))))));by_cases ut:x∈sn
     . rw [decide_eq_true ut];exact ab (vH ⟨(bw.of rfl),sn,cy⟩)
     rw [decide_eq_false ut];refine ax (ab (jh jN (N9 H d ns nds rk) _ ⟨x,[],sn,(bw.of rfl),cy,hx,by simp,rfl⟩ ?_));clear ut hx hL cy sn x hj hq;intro m Z o2;obtain ⟨x,fs,sn,hL,cy,hx,hr,rfl⟩:=o2;refine i4 (ez (aT (dG _ hL ?_)));have wl:=K8 cy;have inner:∀(x:Str) (fs:List Fm) (sn:ag) (Hc:bg) (Φ:Nat),Cy H nds rk fs sn Hc->iE nds sn+qQ nds fs<=Φ ->
      Ex c (qK nr env own frames n ["self","n2i","stack","itstack","seen","node2stacki","node"]) GC
       ⟨[(0,.ref (d+1)),(1,.aZ (tabOf ns nds)),(2,.ref H.length),(3,.ref (H.length+1)),(4,.ref (H.length+2)),(5,.ref (H.length+3)),(6,.str x)],Hc⟩
       (TM H d ns nds rk Φ) gX:=by
      intro x fs sn Hc Φ cy GD;refine ab (xS jN (TL H d ns nds rk Φ) fs.length ⟨fs,sn,(bw.of rfl),cy,GD,rfl⟩ ?_);clear cy GD fs sn Hc;intro m aF o3;obtain ⟨fs,sn,hL,cy,GD,rfl⟩:=o3;have lb:=K8 cy;rcases List.eq_nil_or_concat fs with rfl | ⟨Ea,f,rfl⟩
      . refine i4 (aa 2 rfl hL.2.2.1 (mY (xs:=[]) (.inr (ae H.length rfl cy.stack)) (by simp) ?_));exact ab (nN ⟨hL,sn,cy⟩)
      simp only [List.concat_eq_append] at cy GD lb ⊢;have GE:aF.heap[H.length]?=some (.list ((Ea.map λf=>AV.str f.x)++[.str f.x])):=by have:=cy.stack;simpa [l6] using this
      have AB:aF.heap[H.length+1]?=some (.list ((Ea.map λf=>nextOf f.k)++[nextOf f.k])):=by have:=cy.AB;simpa [xY] using this
      have idx:=cy.idx;unfold xZ at idx;rw [wC] at idx;refine e0a5 (cy.it f (by simp)) λg1 g2 g3 g4 g5 g6=>?_;have g7:aF.heap[f.p+2]?=some (.list ((cA nds f.x).map .str)):=(cy.ext.same _ g3 id).trans g4;simp only [List.length_append,List.length_singleton] at lb;refine i4 (aa 2 rfl hL.2.2.1 (mY (.inr (ae H.length rfl GE)) (by simp;exact (hZ (cD lb.1 hlen) rfl)) ?_));have ne:(!((Ea.map λf=>AV.str f.x)++[AV.str f.x]).isEmpty)=true:=by simp
      rw [ne];refine dG _ hL ?_;have cy':=cy;generalize aF.heap=Hc at GE AB idx g2 g7 cy cy';refine ab (zu jN "StopIteration" (by rfl) (by rfl) (by rfl) ?_);refine ab (av (wo rfl (cV (aa 3 rfl rfl (mK (bH (nK ⟨cI (.inr (ae _ rfl AB)),mX (.inr (ae _ rfl AB)) (jb f.k (.ref (f.p+2)) f.i ((cA nds f.x).map .str) rfl g2 (.inr (ae _ rfl g7)) ?_)⟩)))))));rw [dw];cases XB:(cA nds f.x)[f.i]? with
      | some s =>
        have eX:f.i < (cA nds f.x).length:=(bN XB).1;refine au 6 rfl (bd 6 _ rfl) (ab (nN (ax ?_)));refine e1a1 (dS g6) λy hy Fw=>?_;have Fx:=jj At hy;rw [Fw] at Fx;refine e0a1 (JY y hy s (by rw [<-Fx];exact ct XB)) λk1 k2=>?_;rw [Fw] at k2;refine ⟨_,?_,s,Ea++[{f with i:=f.i+1}],sn,(bw.of rfl),cy.step eX,k1,λe he=>?_,rfl⟩
        . rw [n4] at GD ⊢;simp only;exact (cG (gD (gD (gD (Nat.sub_lt_sub_left eX (Nat.lt_succ_self _)) 1) _) _) GD)
        . rcases bL he with q | q
          . have hp:=cy.wB;rw [List.map_append,List.pairwise_append] at hp;have:=hp.2.2 (rk e.x) (dm (ae e q rfl)) (rk f.x) (by simp);exact jt this k2
          . rw [bp q];exact k2
      | none =>
        refine ⟨by decide,λe=>bT W.B.toBase (by rfl) PV.1 PV.2 ⟨rfl,?_⟩⟩;have l3:H.length+3 < Hc.length:=(bN idx).1;have N8:=cy.N8;rw [List.map_append,List.nodup_append] at N8;have XC:f.x∉(Ea.zipIdx.map λp=>(p.1.x,AV.int p.2)).map (·.1):=by intro w;refine e1a1 (dS w) λp hp e=>?_;refine e1a1 (dS hp) λq hq o5=>?_;obtain rfl:=o5;refine N8.2.2 q.1.x (dm (ae q.1 ?_ rfl)) f.x (by simp) e;have:=List.mem_zipIdx' hq;rw [this.2];exact List.getElem_mem _
        refine ab (DS (aa 5 rfl rfl (cb "list" "list.pop" PySem.F.plainAttrs_list PySem.F.slot_list_pop PySem.F.type_list_pop (aa 2 rfl rfl ⟨?_,bM (CV (xs:=Ea.map λf=>AV.str f.x) (y:=.str f.x) ?_ (by simp [sizeLine];exact tM lb hlen) (jB (H.length+3) f.x (Ea.zipIdx.map (λp=>(p.1.x,AV.int p.2))++[(f.x,.int Ea.length)]) rfl rfl ?_ ?_ ?_ ?_))⟩))))
        . exact gY (o:=.list _) (by rw [ba (tE g1)];exact GE) rfl
        . rw [ba (tE g1)];exact GE
        . rw [ba (bS (Nat.lt_succ_of_le (bW _ 2))),ba (dk g1)];exact idx
        . simp [sizeLine];exact tM lb hlen
        . unfold bB;rw [List.find?_append,List.find?_eq_none.mpr]
          . simp
          . intro p hp;simp only [decide_eq_true_eq];exact λe=>XC (by rw [<-e];exact dm (ae p hp rfl))
        . rw [AD XC];refine ab (bZ (cb "list" "list.pop" PySem.F.plainAttrs_list PySem.F.slot_list_pop PySem.F.type_list_pop (aa 3 rfl rfl ⟨?_,bM (CV (xs:=Ea.map λf=>nextOf f.k) (y:=nextOf f.k) ?_ (by simp [sizeLine];exact tM lb hlen) ?_)⟩)) (by rfl))
          . exact gY (o:=.list _) (by rw [ba tv,ba jv,ba (tF g1)];exact AB) rfl
          . rw [ba tv,ba jv,ba (tF g1)];exact AB
          . refine ax (ax ⟨Ea.length,by simp,Ea,sn,(bw.of rfl),cy.pop,?_,rfl⟩);rw [n4] at GD;exact (aV (fX (bW ..) _) GD)
     refine ab (bP (bh (aa 6 rfl rfl (aa 4 rfl rfl (DL cy.seen (aT ?_))))));by_cases ut:x∈sn
     . rw [decide_eq_true ut];refine ab (bP (bh (aa 6 rfl rfl (aa 5 rfl rfl (C2 (.inr (ae _ rfl cy.idx)) (aT ?_))))));rw [lK (λf hf e=>by have:=hr f hf;rw [e] at this;exact absurd this (Nat.lt_irrefl _))];refine ax (ax (tZ (inner x fs sn _ _ cy (bu _)) λfl aF h=>?_));cases fl with
       | next=>exact h
       | brk=>exact ax h
       | cont=>exact h.elim
       | ret v=>exact h.elim
     . rw [decide_eq_false ut];refine e2a3 (TO x hx) λp y hy Fw JR lk=>?_;subst Fw;have TQ:∀{j:Nat} {o:AO},H[j]?=some o->Z.heap[j]?=some o:=λh=>(cy.ext.same _ (bN h).1 id).trans h;have l3:H.length+3 < Z.heap.length:=(bN cy.idx).1;have Ld:=lk.lt;have XD:=cy.push At hy ut lk.list hr;have Pz:=x7 At hy ut;have seen:=cy.seen;have AB:=cy.AB;have GE:=cy.stack;have idx:=cy.idx;have Fx:=jj At hy;have d0:=TQ lk.dict;have d1:=TQ lk.slots;have d2:=TQ lk.list;generalize Z.heap=Hc at seen AB GE idx d0 d1 d2 l3 XD cy;refine ab (bZ (cb "set" "set.add" PySem.F.plainAttrs_set PySem.F.slot_set_add PySem.F.type_set_add (aa 4 rfl rfl ⟨gY seen rfl,aw (aa 6 rfl rfl (DM seen (hZ (cD wl.2 hlen) rfl) ?_))⟩)) (by rfl));rw [if_neg ut];refine ab (bZ (cb "list" "list.append" PySem.F.plainAttrs_list PySem.F.slot_list_append PySem.F.type_list_append (aa 3 rfl rfl ⟨?_,aw (a7 (bQ (.builtin "iter") (bT W.B.toBase (by rfl) lp.1 lp.2 ⟨rfl,aw (a7 (cV (aa 1 rfl rfl (aa 6 rfl rfl ⟨mW (.inl rfl),gz (.inl rfl) JR (eD W.B a.cN W.slots.2.2 (d:=p) (vs:=[some (.str y.1),some (.int y.2.1),some (.ref (p+2))]) (zU (.inr ?_) [] ?_) rfl (by simp) (Gu (xs:=y.2.2.map .str) (.inr (ae (p+2) rfl ?_)) (As (l:=.ref (p+2)) (i:=0) ?_ (dR (xs:=fs.map λf=>nextOf f.k) ?_ (by simp [sizeLine];exact tR hlen wl) ?_))))⟩))))⟩)))⟩)) (by rfl))
       . exact gY (o:=.list _) (by rw [ba mB];exact AB) rfl
       . rw [ba (dk (cG (Nat.lt_of_succ_lt Ld) (bW _ 2)))];exact d1
       . rw [ba (dk (cG (Nat.lt_of_succ_lt (Nat.lt_of_succ_lt Ld)) (bW _ 2)))];exact d0
       . rw [ba (dk (cG Ld (bW _ 2)))];exact d2
       . rw [iV (bu _)];simp
       . rw [eN (by simp;exact (bF (bF l3))),ba mB];exact AB
       have ge:∀f∈fs,f.x≠y.1:=λf hf e=>by have:=hr f hf;rw [e] at this;exact absurd this (Nat.lt_irrefl _)
       have e1:(fs.map λf=>nextOf f.k)++[nextOf (Hc.set (H.length+2) (AO.uset (sn++[y.1]))).length]=(fs++[oZ y.1 Hc.length p]).map λf=>nextOf f.k:=by simp
       have e3:df (fs.zipIdx.map λp=>(p.1.x,AV.int p.2)) y.1 (.int ((fs.map λf=>AV.str f.x).length:Nat))=(fs++[oZ y.1 Hc.length p]).zipIdx.map λp=>(p.1.x,AV.int p.2):=by rw [wz _ (lK ge),wC];simp
       have e0:(fs.map λf=>AV.str f.x)++[AV.str y.1]=(fs++[oZ y.1 Hc.length p]).map λf=>AV.str f.x:=by simp
       rw [e1];refine ab (av (bQ (.builtin "len") (bT W.B.toBase (by rfl) rI.1 rI.2 ⟨rfl,aw (aa 2 rfl rfl (CX (xs:=fs.map λf=>AV.str f.x) (.inr (ae H.length rfl ?_)) (by simp;exact (hZ (cD wl.1 hlen) rfl)) (kA (aa 5 rfl rfl (aa 6 rfl rfl (il (H.length+3) y.1 (fs.zipIdx.map (λp=>(p.1.x,AV.int p.2))) rfl rfl ?_ ?_ ?_))))))⟩)))
       . rw [ba mz,eN (by simp;exact mG l3),ba mA];exact GE
       . rw [ba (bS (bF Nat.le.refl)),eN (by simp;exact l3),ba (bS Nat.le.refl)];exact idx
       . simp [sizeLine];exact tR hlen wl
       rw [e3];refine ab (bZ (cb "list" "list.append" PySem.F.plainAttrs_list PySem.F.slot_list_append PySem.F.type_list_append (aa 2 rfl rfl ⟨?_,aw (aa 6 rfl rfl (dR (xs:=fs.map λf=>AV.str f.x) ?_ (by simp [sizeLine];exact tR hlen wl) ?_))⟩)) (by rfl))
       . exact gY (o:=.list _) (by rw [ba tu,ba mz,eN (by simp;exact mG l3),ba mA];exact GE) rfl
       . rw [ba tu,ba mz,eN (by simp;exact mG l3),ba mA];exact GE
       rw [e0];refine ax (tZ (inner y.1 (fs++[oZ y.1 Hc.length p]) (sn++[y.1]) _ (iE nds sn+qQ nds fs) XD ?_) λfl aF h=>?_)
       . rw [n4,Fx];simp only;exact Cm Pz
       cases fl with
       | next=>exact h
       | brk=>exact ax h
       | cont=>exact h.elim
       | ret v=>exact h.elim
   . intro S' o4;obtain ⟨hL,sn,cy⟩:=o4;refine ab (bj (eW ⟨rfl,cy.ext⟩))
end
noncomputable abbrev dq (ns:fj)(nds:List Nd)(r:Nat)(a8 fin:Int):eQ :=
 [("_node2info",.aZ (tabOf ns nds)),("_ready_nodes",.ref r),("_npassedout",.int a8),("_nfinished",.int fin)]
structure SR (H:bg)(a:sP)(d:Nat)(ns:fj)(nds:List Nd)(r:Nat)(ready:ag)(a8 fin:Int):Prop where
 inst:H[d+1]?=some (.inst a.cS d)
 dict:H[d]?=some (.az (dq ns nds r a8 fin))
 list:H[r]?=some (.list (ready.map .str))
 nodes:xd H a.cN (d+3) ns nds
 names:(nds.map (·.1)).Nodup
 AE:d+3<=r
 Lj:∀n∈ns,n+3<=r
def fy (d:Nat)(ns:fj)(r:Nat)(j:Nat):Prop:=j=d\/j=d+2\/j=r\/∃n∈ns,j=n+1\/j=n+2
theorem Lk.same (h:Lk H cN n x)(e:∀j,j < H.length->(j=n\/j=n+1\/j=n+2)->H'[j]?=H[j]?):Lk H' cN n x:=by obtain this:=h.lt;exact ⟨(e n (bF (bF this)) (.inl rfl)).trans h.dict,(e (n+1) (bF this) (.inr (.inl rfl))).trans h.slots,(e (n+2) this (.inr (.inr rfl))).trans h.list⟩
theorem xd.same {lo:Nat}(h:xd H cN lo ns nds)(e:∀j,j < H.length->lo<=j->H'[j]?=H[j]?):xd H' cN lo ns nds :=
 ⟨h.len,λi n x h1 h2=>(h.at_ i n x h1 h2).same λj hj q=>e j hj (by obtain this:=h.low n (ct h1);exact Cg q this),h.low,h.gap⟩
noncomputable def cW (nds:List Nd):ag:=(nds.filter λy=>y.2.1==0).map (·.1)
section
variable {c:bc}{mg mb:fV}{Kf:Frag}{a:sP}
theorem GF (W:r0 c mg mb Kf a)(fB:c9 mg mb "set" (.type "set"))(lp:c9 mg mb "iter" (.builtin "iter"))(rI:c9 mg mb "len" (.builtin "len"))(PV:c9 mg mb "StopIteration" (.type "StopIteration"))
 {rk:Str->Nat} (hs:SB H a d ns nds) (JY:∀y∈nds,∀s∈y.2.2,s∈nds.map (·.1)/\rk y.1 < rk s) (hlen:nds.length < 900) (n:Nat) :
 bz c (n+2) (.ref a.wx) [.ref (d+1)] H (λv H'=>v=.none/\SR H' a d ns nds H.length (cW nds) 0 0/\Ext H H' (λj=>j=d\/j=d+2)):=by
 refine W.wx.en W.B.toBase ["self"] ["self","cycle"] [(0,.ref (d+1))] (λzz zz=>rfl) rfl rfl (by decide +kernel) λenv own frames bd jN=>?_
 . have hd2:d+2 < H.length:=(bN hs.tab).1;refine ei (fu.Ar d [("_node2info",.aZ (tabOf ns nds)),("_ready_nodes",.none),("_npassedout",.int 0),("_nfinished",.int 0)] hs.dict hs.tab pF (ix rfl (.inr ⟨rfl,rfl⟩) rfl (.inl rfl) rfl (.inl rfl) rfl (.inl rfl) trivial)) ?_;have i1:((H.set (d+2) .gone).set d (.az [("_node2info",.aZ (tabOf ns nds)),("_ready_nodes",.none),("_npassedout",.int 0),("_nfinished",.int 0)]))[d+1]?=some (.inst a.cS d):=by rw [ba jv,ba mB];exact hs.inst
   have i2:((H.set (d+2) .gone).set d (.az [("_node2info",.aZ (tabOf ns nds)),("_ready_nodes",.none),("_npassedout",.int 0),("_nfinished",.int 0)]))[d]?=some (.az [("_node2info",.aZ (tabOf ns nds)),("_ready_nodes",.none),("_npassedout",.int 0),("_nfinished",.int 0)]):=by rw [hX (by simp;exact bF (bF hd2))]
   have TR:xd ((H.set (d+2) .gone).set d (.az [("_node2info",.aZ (tabOf ns nds)),("_ready_nodes",.none),("_npassedout",.int 0),("_nfinished",.int 0)])) a.cN (d+3) ns nds:=hs.nodes.same λj hj hl=>by rw [ba (pJ hl),ba (bS hl)]
   have XE:Ext H ((H.set (d+2) .gone).set d (.az [("_node2info",.aZ (tabOf ns nds)),("_ready_nodes",.none),("_npassedout",.int 0),("_nfinished",.int 0)])) (λj=>j=d\/j=d+2) :=
    ⟨by simp,λj hj ge=>by rw [ba (λe=>ge (.inl e.symm)),ba (λe=>ge (.inr e.symm))]⟩
   have Az:((H.set (d+2) .gone).set d (.az [("_node2info",.aZ (tabOf ns nds)),("_ready_nodes",.none),("_npassedout",.int 0),("_nfinished",.int 0)])).length=H.length:=by simp
   generalize (H.set (d+2) .gone).set d (.az [("_node2info",.aZ (tabOf ns nds)),("_ready_nodes",.none),("_npassedout",.int 0),("_nfinished",.int 0)])=na at i1 i2 TR XE Az;refine ab (bP (bh (a7 (aa 0 rfl rfl (a9 W.B a.cS (ay W.a2).2.2 (ay W.a2).2.1 ⟨i1,i2⟩ rfl (by simp) (eW (l0 (aT ?_))))))));refine ax (ab (av (ll (sc:=uA.scope) ["i"] [] rfl trivial (rfl) (Aq (a7 (aa 0 rfl rfl (a9 W.B a.cS (ay W.a1).2.2 (ay W.a1).2.1 ⟨i1,i2⟩ rfl (by simp) (aH _ rfl trivial (λwn own' im=>?_)))))))));refine ⟨λi acc S'=>S'=⟨[],na⟩/\acc=(cW (nds.take i)).map .str,⟨rfl,rfl⟩,?_,?_,?_⟩
   . intro i acc S' o1;refine e0a1 o1 λnO mo=>?_;clear o1;obtain rfl:=nO;obtain rfl:=mo;refine ⟨trivial,?_⟩;have:(cW (nds.take i)).length<=nds.length:=by unfold cW;rw [fz];exact aV (List.length_filter_le _ _) (by simp;exact Nat.min_le_right _ _)
     simp [sizeLine];exact ey (cD this hlen) rfl
   . intro i y acc S' hy o2;refine e0a1 o2 λo8 o9=>?_;clear o2;obtain rfl:=o8;obtain rfl:=o9;obtain ⟨p,nd,h1,h2,rfl⟩:∃p nd,ns[i]?=some p/\nds[i]?=some nd/\y=.ref (p+1):=by rw [dw] at hy;refine e1a1 (mw hy) λq hq e=>?_;unfold tabOf at hq;rw [dw] at hq;refine e1a1 (mw hq) λw hw e2=>?_;refine e0a1 (List.getElem?_zip_eq_some.mp hw) λw1 w2=>?_;clear hy;subst e2 e;exact (b7 w.2 w.1 w2 w1 rfl)
     have L:=TR.at_ i p nd h1 h2;have slot:∀lc,ng ⟨lc,na⟩ (p+1) p a.cN [some (.str nd.1),some (.int nd.2.1),some (.ref (p+2))]:=λlc=>(zU (.inr L.slots) [] L.dict)
     have oO:nds.take (i+1)=nds.take i++[nd]:=by rw [List.take_add_one,h2];rfl
     refine au 0 rfl (im _ (.inl rfl)) ?_;refine bh (a7 (aa 0 rfl rfl (eD W.B a.cN W.slots.2.1 (slot _) rfl (by simp) (bH (xu (aT ?_))))));cases hz:nd.2.1==0 with
     | false =>refine (aH [] trivial rfl ?_);rw [oO];simp [cW,List.filter_append,hz]
     | true =>refine a7 (aa 0 rfl rfl (eD W.B a.cN W.slots.1 (slot _) rfl (by simp) (aH [] trivial rfl ?_)));rw [oO];simp [cW,List.filter_append,hz]
   . intro acc S' o3;refine e0a1 o3 λo6 o7=>?_;clear o3;obtain rfl:=o6;obtain rfl:=o7;refine .inr ?_;have JZ:((tabOf ns nds).map (·.2)).length=nds.length:=by simp [tabOf,hs.nodes.len]
     rw [JZ,List.take_length];refine cx (aa 0 rfl rfl (c7 (d:=d) (kvs:=[("_node2info",.aZ (tabOf ns nds)),("_ready_nodes",.none),("_npassedout",.int 0),("_nfinished",.int 0)]) W.B a.cS (ay W.a2).1 ⟨fQ i1,fQ i2⟩ (by simp) ?_));have e1:df ([("_node2info",.aZ (tabOf ns nds)),("_ready_nodes",.none),("_npassedout",.int 0),("_nfinished",.int 0)]:eQ) "_ready_nodes" (.ref na.length)=dq ns nds H.length 0 0:=by rw [Az];rfl
     rw [e1];have j1:((na++[AO.list ((cW nds).map .str)]).set d (.az (dq ns nds H.length 0 0)))[d+1]?=some (.inst a.cS d):=by rw [ba jv];exact fQ i1
     have j2:((na++[AO.list ((cW nds).map .str)]).set d (.az (dq ns nds H.length 0 0)))[d]?=some (.az (dq ns nds H.length 0 0)):=by rw [hX (by simp;exact Az▸Nat.lt_succ_of_le (aV (bW _ 3) hd2))]
     have j3:((na++[AO.list ((cW nds).map .str)]).set d (.az (dq ns nds H.length 0 0)))[H.length]?=some (.list ((cW nds).map .str)):=by rw [ba (bS (cD (bW _ 2) hd2)),iV (Nat.le_of_eq Az)];simp [Az]
     have PW:xd ((na++[AO.list ((cW nds).map .str)]).set d (.az (dq ns nds H.length 0 0))) a.cN (d+3) ns nds:=TR.same λj hj hl=>by rw [ba (pJ hl),eN hj]
     have HS:Ext H ((na++[AO.list ((cW nds).map .str)]).set d (.az (dq ns nds H.length 0 0))) (λj=>j=d\/j=d+2) :=
      (XE.app (l:=[AO.list ((cW nds).map .str)])).then (by simp) λj hj ge=>by rw [ba (λe=>ge (.inl e.symm))]
     have Eb:((na++[AO.list ((cW nds).map .str)]).set d (.az (dq ns nds H.length 0 0))).length=H.length+1:=by simp [Az]
     generalize (na++[AO.list ((cW nds).map .str)]).set d (.az (dq ns nds H.length 0 0))=v6 at j1 j2 j3 PW HS Eb;refine ab (av (cP W.B a.cS a.oW W.D0 rfl (n:=n+1) (bu _) (aa 0 rfl rfl ⟨d+1,d,_,rfl,⟨j1,j2⟩,rfl,bM ((D9 W fB lp rI PV j1 j2 rfl PW hs.names JY hlen n).mono ?_)⟩)));intro v Aw o4;refine e0a1 o4 λo5 J0=>?_;clear o4;refine rE o5 ?_;refine au 1 rfl (bd 1 _ rfl) ?_;refine ab (bP (i4 (aa 1 rfl rfl (FZ ?_))));have same:∀j,j < v6.length->Aw[j]?=v6[j]?:=λj hj=>J0.same j hj id;have lt:=PW.lt;refine ax (ax (aG rfl ⟨?_,?_,?_,PW.same λj hj zz=>same j hj,hs.names,pI hd2,λm hm=>?_⟩ (HS.then J0.le λj hj zz=>same j (aq Eb▸Nat.le.step hj))))
     . rw [same _ (Eb▸Nat.lt_succ_of_lt (Nat.lt_of_succ_lt hd2))];exact j1
     . rw [same _ (Eb▸Nat.lt_succ_of_le (aV (bW _ 3) hd2))];exact j2
     . rw [same _ (aq Eb▸Nat.succ_le_of_lt Nat.le.refl)];exact j3
     . have:=hs.nodes.lt m hm;exact pI this
end
noncomputable def cX (nds:List Nd)(x:Str)(k:Int):List Nd:=nds.map λp=>if p.1=x then (p.1,k,p.2.2) else p
noncomputable def outs (nds:List Nd)(xs:ag):List Nd:=xs.foldl (λl x=>cX l x (-1)) nds
section
variable {c:bc}{mg mb:fV}{Kf:Frag}{a:sP}
variable {H:bg}{d r:Nat}{ns:fj}{nds:List Nd}{ready:ag}{a8 fin:Int}
theorem SR.wA (h:SR H a d ns nds r ready a8 fin)(h1:ns[i]?=some n)(h2:nds[i]?=some y)(np:Int) :
 SR (H.set (n+1) (.slots a.cN n [some (.str y.1),some (.int np),some (.ref (n+2))])) a d ns (nds.set i (y.1,np,y.2.2)) r ready a8 fin:=by
 obtain lo:=h.nodes.low n (ct h1);obtain hi:=h.Lj n (ct h1);exact ⟨by rw [ba (vh lo)];exact h.inst,by rw [ba (vf lo),dq,nZ (y':=(y.1,np,y.2.2)) h2 rfl];exact h.dict,by rw [ba (bS (bF hi))];exact h.list,h.nodes.wA h1 h2 np,by rw [lA (y':=(y.1,np,y.2.2)) h2 rfl];exact h.names,h.AE,h.Lj⟩
theorem SR.Od (h:SR H a d ns nds r ready a8 fin)(Ec:ag):SR (H.set r (.list (Ec.map .str))) a d ns nds r Ec a8 fin:=by obtain lo:=h.AE;obtain lt:r < H.length:=(bN h.list).1;refine ⟨by rw [ba (dk (bF lo))];exact h.inst,by rw [ba (vi lo)];exact h.dict,by rw [hX lt],⟨h.nodes.len,λi n x h1 h2=>?_,h.nodes.low,h.nodes.gap⟩,h.names,h.AE,h.Lj⟩;obtain hi:=h.Lj n (ct h1);exact (h.nodes.at_ i n x h1 h2).set _ (vi hi) (dk (bF hi)) (dk hi)
theorem SR.Oe (h:SR H a d ns nds r ready a8 fin)(zC Of:Int):SR (H.set d (.az (dq ns nds r zC Of))) a d ns nds r ready zC Of:=by obtain lo:=h.AE;obtain lt:d < H.length:=(bN h.dict).1;refine ⟨by rw [ba jv];exact h.inst,by rw [hX lt],by rw [ba (pJ lo)];exact h.list,⟨h.nodes.len,λi n x h1 h2=>?_,h.nodes.low,h.nodes.gap⟩,h.names,h.AE,h.Lj⟩;obtain this:=h.nodes.low n (ct h1);exact (h.nodes.at_ i n x h1 h2).set _ (pJ this) (bS (Nat.lt_succ_of_lt (Nat.lt_of_succ_lt (Nat.lt_of_succ_lt this)))) (BW this)
theorem SR.node (h:SR H a d ns nds r ready a8 fin)(hx:x∈nds.map (·.1)):∃(i p:Nat) (y:Nd),ns[i]?=some p/\nds[i]?=some y/\y.1=x/\bB (tabOf ns nds) x=some (.ref (p+1)):=by
 refine e1a1 (dS hx) λy hy o3=>?_;clear hx;obtain rfl:=o3;obtain ⟨i,hi,e⟩:=List.getElem_of_mem hy;have i3:i < ns.length:=by simp only [h.nodes.len];exact hi
 obtain h1:nds[i]?=some y:=by exact (aq (cp hi))▸(aq e)▸rfl
 obtain h2:=cp i3;exact (fF i (ns[i]) y h2 h1 rfl (i6 h.names h1 h2))
theorem SR.slot (h:SR H a d ns nds r ready a8 fin){i n:Nat}(h1:ns[i]?=some n)(h2:nds[i]?=some y)(lc:fi) :
 ng ⟨lc,H⟩ (n+1) n a.cN [some (.str y.1),some (.int y.2.1),some (.ref (n+2))] :=
 (zU (.inr (h.nodes.at_ i n y h1 h2).slots) [] ((h.nodes.at_ i n y h1 h2).dict))
theorem dz (nds:List Nd)(x:Str)(k:Int):(cX nds x k).map (·.1)=nds.map (·.1):=by
 delta cX;rw [List.map_map];apply List.map_congr_left;intro p _;simp only [Function.comp]
 split <;> rfl
theorem gp:∀(xs:ag) (nds:List Nd),(outs nds xs).map (·.1)=nds.map (·.1):=by
 intro xs;induction xs with
 | nil =>intro _;exact rfl
 | cons x xs ih =>intro nds;show (outs (cX nds x (-1)) xs).map _=_;rw [ih,dz]
theorem AF (W:r0 c mg mb Kf a)(fB:c9 mg mb "bool" (.type "bool"))(hs:SR H a d ns nds r ready a8 fin)(hl:ready.length < 1000)(n:Nat) :
 bz c (n+1) (.ref a.kH) [.ref (d+1)] H (λv H'=>v=.bool (decide (fin < a8)||!ready.isEmpty)/\H'=H):=by
 refine W.kH.en W.B.toBase ["self"] ["self"] [(0,.ref (d+1))] (λzz zz=>rfl) rfl rfl (rfl) λenv own frames bd jN=>?_
 . refine ab (bP (bh (a7 (aa 0 rfl rfl (a9 W.B a.cS (ay W.a2).2.2 (ay W.a2).2.1 ⟨hs.inst,hs.dict⟩ rfl (by simp) (eW (kB (aT ?_))))))));refine ax (ab (bj (Je (tU (a7 (aa 0 rfl rfl (a9 W.B a.cS (ay W.a4).2.2 (ay W.a4).2.1 ⟨hs.inst,hs.dict⟩ rfl (by simp) (a7 (aa 0 rfl rfl (a9 W.B a.cS (ay W.a3).2.2 (ay W.a3).2.1 ⟨hs.inst,hs.dict⟩ rfl (by simp) (IL (aT ?_))))))))))));cases hq:decide (fin < a8) with
   | true=>exact ⟨rfl,rfl⟩
   | false =>refine bQ (.type "bool") (bT W.B.toBase (rfl) fB.1 fB.2 ⟨rfl,aw (a7 (aa 0 rfl rfl (a9 W.B a.cS (ay W.a2).2.2 (ay W.a2).2.1 ⟨hs.inst,hs.dict⟩ rfl (by simp) (Gq (.inr (ae r rfl hs.list)) (by simp;exact tw hl) ⟨by simp,rfl⟩))))⟩)
theorem fy.ext (x:Ext H H' (fy d ns r))(h:fy d ns r j)(o:AO):Ext H (H'.set j o) (fy d ns r) :=
 x.then (by simp) λi hi hn=>by rw [ba];intro e;clear hi;subst e;exact hn h
theorem Ed (W:r0 c mg mb Kf a)(fB:c9 mg mb "tuple" (.type "tuple"))(lp:c9 mg mb "len" (.builtin "len"))(hO:mg "_NODE_OUT"=some (.int (-1) tk))(hs:SR H a d ns nds r ready a8 fin)(ue:∀x∈ready,x∈nds.map (·.1))(hl:ready.length < 1000)(n:Nat) :
 bz c (n+1) (.ref a.ready) [.ref (d+1)] H (λv H'=>v=.tup (ready.map .str)/\SR H' a d ns (outs nds ready) r [] (a8+ready.length) fin/\Ext H H' (fy d ns r)):=by
 refine W.ready.en W.B.toBase ["self"] ["self","result","n2i","node"] [(0,.ref (d+1))] (λzz zz=>rfl) rfl rfl (by decide +kernel) λenv own frames bd jN=>?_
 . refine ab (bP (bh (a7 (aa 0 rfl rfl (a9 W.B a.cS (ay W.a2).2.2 (ay W.a2).2.1 ⟨hs.inst,hs.dict⟩ rfl (by simp) (eW (kB (aT ?_))))))));refine ax (ab (av (bQ (.type "tuple") (bT W.B.toBase (by rfl) fB.1 fB.2 ⟨rfl,aw (a7 (aa 0 rfl rfl (a9 W.B a.cS (ay W.a2).2.2 (ay W.a2).2.1 ⟨hs.inst,hs.dict⟩ rfl (by simp) (DO (.inr (ae r rfl hs.list)) (by simp [sizeLine];exact kT hl) (au 1 rfl (bd 1 _ rfl) ?_)))))⟩))));refine ab (av (a7 (aa 0 rfl rfl (a9 W.B a.cS (ay W.a1).2.2 (ay W.a1).2.1 ⟨hs.inst,hs.dict⟩ rfl (by simp) (au 2 rfl (bd 2 _ rfl) ?_)))));refine ab (c8 rfl (qh (aa 1 rfl rfl (ae _ rfl ?_))));refine ⟨λj S'=>bw S' [(0,.ref (d+1)),(1,.tup (ready.map .str)),(2,.aZ (tabOf ns nds))]/\SR S'.heap a d ns (outs nds (ready.take j)) r ready a8 fin/\Ext H S'.heap (fy d ns r),(aG (bw.of rfl) hs (.refl ..)),λzz zz zz=>trivial,?_,?_⟩
   . intro j v S' hj o1;refine e0a2 o1 λhL db u8=>?_;rw [dw] at hj;refine e1a1 (mw hj) λx hx e=>?_;refine e▸?_;have oO:ready.take (j+1)=ready.take j++[x]:=by rw [List.take_add_one,hx];rfl
     have Ll:x∈(outs nds (ready.take j)).map (·.1):=by rw [gp];exact ue x (ct hx)
     refine e3a3 (db.node Ll) λi p y h1 h2 h3 h4=>?_;rw [dK,gp,<-dK] at h4;refine au 3 rfl (bd 3 _ rfl) (dG _ (hL.put (i:=3) (v:=.str x) (by rfl)) ?_);show Ex c _ _ ⟨[(0,.ref (d+1)),(1,.tup (ready.map .str)),(2,.aZ (tabOf ns nds)),(3,.str x)],S'.heap⟩ _ gX;refine ab (av (lT W.B.toBase (by rfl) hO (cx (cV (aa 2 rfl rfl (aa 3 rfl rfl ⟨mW (.inl rfl),gz (.inl rfl) h4 (gn W.B a.cN W.slots.2.1 my (db.slot h1 h2 _) ?_)⟩))))));refine ax (aG (bw.of rfl) ?_ (fy.ext u8 (.inr (.inr (.inr (ae p (ct h1) (.inl rfl))))) _));have e:outs nds (ready.take (j+1))=(outs nds (ready.take j)).set i (y.1,-1,y.2.2):=by rw [oO];unfold outs;rw [List.foldl_append];exact nu db.names h2 h3 (λp=>(p.1,-1,p.2.2))
     rw [e];exact db.wA h1 h2 (-1)
   . intro S' o2;refine e0a2 o2 λhL db u8=>?_;rw [fz,List.take_length] at db;refine dG _ hL ?_;have tb:tabOf ns (outs nds ready)=tabOf ns nds:=by rw [dK,gp,<-dK]
     have len:((ready.map AV.str).length:Int)=ready.length:=by simp
     generalize S'.heap=Hc at db u8;refine ab (bZ (cb "list" "list.clear" PySem.F.plainAttrs_list PySem.F.slot_list_clear PySem.F.type_list_clear (a7 (aa 0 rfl rfl (a9 W.B a.cS (ay W.a2).2.2 (ay W.a2).2.1 ⟨db.inst,db.dict⟩ rfl (by simp) ⟨gY db.list rfl,bM (FR db.list (by simp [sizeLine];exact kT hl) ?_)⟩)))) (by rfl));have po:=db.Od [];have HS:Ext H (Hc.set r (.list (([]:ag).map .str))) (fy d ns r):=fy.ext u8 (.inr (.inr (.inl rfl))) _;generalize Ee:Hc.set r (.list (([]:ag).map .str))=v6 at po HS;have J1:Hc.set r (.list [])=v6:=Ee;rw [J1];refine ab (fN (aa 0 rfl rfl (a9 W.B a.cS (ay W.a3).2.2 (ay W.a3).2.1 ⟨po.inst,po.dict⟩ rfl (by simp) (bQ (.builtin "len") (bT W.B.toBase (by rfl) lp.1 lp.2 ⟨rfl,aw (aa 1 rfl rfl (D2 (by simp;exact tw hl) (gy (c7 (kvs:=dq ns (outs nds ready) r a8 fin) W.B a.cS (ay W.a3).1 ⟨po.inst,po.dict⟩ (by simp) ?_))))⟩)))));rw [len];refine ab (bj (aa 1 rfl rfl (aG rfl (po.Oe (a8+ready.length) fin) (fy.ext HS (.inl rfl) _))))
end
section
variable {c:bc}{C:Cx}{S:AS}{X:dU}{K:dC}
theorem J2 (k:K (.bool (a != b)) S):jF c C (compareOp .NotEq) (.int a) (.int b) S K X:=λA F bs s ra rb hA z ha hb=>by refine e1a0 ha.inv λzz o7=>?_;refine rE o7 ?_;refine e1a0 hb.inv λzz o6=>?_;refine rE o6 ?_;exact WP.kept z λQ E q=>PyProof.Rows.ne_int (q _ _ (.refl ..) (ae _ (.bool _) k))
end
noncomputable def du (nds:List Nd)(x:Str):List Nd:=nds.map λp=>if p.1=x then (p.1,p.2.1 - 1,p.2.2) else p
noncomputable def dO (nds:List Nd)(x:Str):Int:=((nds.find? λy=>y.1=x).map (·.2.1)).getD 0
noncomputable def cR (st:List Nd×List Str)(s:Str):List Nd×List Str:=(du st.1 s,if dO (du st.1 s) s==0 then st.2++[s] else st.2)
noncomputable def et (nds:List Nd)(ready:ag)(x:Str):List Nd×List Str:=(cA nds x).foldl cR (cX nds x (-2),ready)
noncomputable def dY (nds:List Nd)(ready:ag)(x:Str)(j:Nat):List Nd×List Str:=((cA nds x).take j).foldl cR (cX nds x (-2),ready)
theorem n6 (hn:(nds.map (·.1)).Nodup)(h:y∈nds):dO nds y.1=y.2.1:=by
 induction nds with
 | nil=>exact absurd h List.not_mem_nil
 | cons z l ih =>
   have gW:=List.nodup_cons.mp (by exact hn:(z.1::l.map (·.1)).Nodup)
   (refine aN (cu h) (λe=>?_) (λh=>?_))
   . refine rE e ?_;simp [dO]
   . have ge:z.1≠y.1:=λe=>gW.1 (by simp only [e];exact dm (ae y h rfl));obtain this:=ih gW.2 h;simp only [dO,List.find?_cons,ge,decide_false] at this ⊢;exact this
theorem gB (nds:List Nd)(x:Str):(du nds x).map (·.1)=nds.map (·.1):=by
 delta du;rw [List.map_map];apply List.map_congr_left;intro p _;simp only [Function.comp]
 split <;> rfl
theorem qR:∀(l:ag) (st:List Nd×List Str),(l.foldl cR st).1.map (·.1)=st.1.map (·.1):=by
 intro l;induction l with
 | nil =>intro _;exact rfl
 | cons s l ih =>intro st;simp only [List.foldl_cons,ih];exact gB _ _
theorem jP (nds:List Nd)(ready:ag)(x:Str)(j:Nat):(dY nds ready x j).1.map (·.1)=nds.map (·.1):=by delta dY;rw [qR];exact dz ..
theorem x8:∀(l:ag) (st:List Nd×List Str),(l.foldl cR st).1.map (·.2.2)=st.1.map (·.2.2):=by
 intro l;induction l with
 | nil =>intro _;exact rfl
 | cons s l ih =>
   intro st;simp only [List.foldl_cons,ih];show (du st.1 s).map _=_;delta du;rw [List.map_map];apply List.map_congr_left;intro p _;simp only [Function.comp]
   split <;> rfl
theorem uD (nds:List Nd)(ready:ag)(x:Str)(j:Nat):(dY nds ready x j).1.map (·.2.2)=nds.map (·.2.2):=by
 delta dY;simp only [x8];delta cX;rw [List.map_map];apply List.map_congr_left;intro p _;simp only [Function.comp]
 split <;> rfl
theorem Ef:∀(l:ag) (st:List Nd×List Str),(l.foldl cR st).2.length<=st.2.length+l.length:=by
 intro l;induction l with
 | nil =>intro _;simp
 | cons s l ih =>
   intro st;obtain this:=ih (cR st s);obtain h2:(cR st s).2.length<=st.2.length+1:=by delta cR;simp only;split <;> simp
   skip;simp;exact vy h2 this
section
variable {c:bc}{mg mb:fV}{Kf:Frag}{a:sP}
variable {H:bg}{d r:Nat}{ns:fj}{nds:List Nd}{ready:ag}{a8 fin:Int}
theorem GG (W:r0 c mg mb Kf a)(hO:mg "_NODE_OUT"=some (.int (-1) tk))(hD:mg "_NODE_DONE"=some (.int (-2) tk2))(hs:SR H a d ns nds r ready a8 fin)(hx:x∈nds.map (·.1))(hp:dO nds x=-1)(hsu:∀s∈cA nds x,s∈nds.map (·.1))(hl:ready.length+(cA nds x).length < 1000)(n:Nat) :
 bz c (n+1) (.ref a.done) [.ref (d+1),.str x] H (λv H'=>v=.none/\SR H' a d ns (et nds ready x).1 r (et nds ready x).2 a8 (fin+1)/\Ext H H' (fy d ns r)):=by
 refine W.done.HL W.B.toBase ["self"] "nodes" [.ref (d+1)] [.str x] ["self","nodes","n2i","node","nodeinfo","stat","successor","successor_info"] [(0,.ref (d+1)),(1,.tup [.str x])] (λzz us zz=>by cases us <;> rfl) rfl (by simp [sizeLine]) rfl (by decide +kernel) λenv own frames bd jN=>?_
 . refine ab (bP (bh (a7 (aa 0 rfl rfl (a9 W.B a.cS (ay W.a2).2.2 (ay W.a2).2.1 ⟨hs.inst,hs.dict⟩ rfl (by simp) (eW (kB (aT ?_))))))));refine ax (ab (av (a7 (aa 0 rfl rfl (a9 W.B a.cS (ay W.a1).2.2 (ay W.a1).2.1 ⟨hs.inst,hs.dict⟩ rfl (by simp) (au 2 rfl (bd 2 _ rfl) ?_))))));refine ab (c8 rfl (qh (aa 1 rfl rfl (ae _ rfl ?_))));refine ⟨λj S'=>bw S' [(0,.ref (d+1)),(1,.tup [.str x]),(2,.aZ (tabOf ns nds))]/\Ext H S'.heap (fy d ns r)/\(j=0/\SR S'.heap a d ns nds r ready a8 fin\/j=1/\SR S'.heap a d ns (et nds ready x).1 r (et nds ready x).2 a8 (fin+1)),(aG (bw.of rfl) (.refl ..) (.inl ⟨rfl,hs⟩)),λzz zz zz=>trivial,?_,?_⟩
   . intro j v S' hj o1;refine e0a2 o1 λhL u8 hq=>?_;clear o1;have hj0:j=0:=by have:=(bN hj).1;simpa using this
     subst hj0;have db:SR S'.heap a d ns nds r ready a8 fin:=by rcases hq with ⟨_,q⟩ | ⟨q,_⟩;exact q;cases q
     simp at hj;subst hj;refine e3a3 (db.node hx) λi p y h1 h2 h3 h4=>?_;have XF:=ct h2;have hpy:y.2.1=-1:=by rw [<-h3,n6 hs.names XF] at hp;exact hp
     have Fx:cA nds x=y.2.2:=by rw [<-h3];exact jj hs.names XF
     refine au 3 rfl (bd 3 _ rfl) (dG _ (hL.put (i:=3) (v:=.str x) (by rfl)) ?_);show Ex c _ _ ⟨[(0,.ref (d+1)),(1,.tup [.str x]),(2,.aZ (tabOf ns nds)),(3,.str x)],S'.heap⟩ _ gX;generalize S'.heap=Hc at db u8;refine ab (bP (bh (sD (cb "dict" "dict.get" PySem.F.plainAttrs_dict PySem.F.slot_dict_get PySem.F.type_dict_get (aa 2 rfl rfl ⟨rfl,aw (aa 3 rfl rfl (sN (.inl rfl) ?_))⟩)))));rw [h4];refine au 4 rfl (bd 4 _ rfl) (eW (kB (aT (ax ?_))));refine ab (av (a7 (aa 4 rfl rfl (eD W.B a.cN W.slots.2.1 (db.slot h1 h2 _) rfl (by simp) (au 5 rfl (bd 5 _ rfl) ?_)))));refine ab (bP (bh (aa 5 rfl rfl (lT W.B.toBase (by rfl) hO (J2 (aT ?_))))));have e1:(y.2.1 != -1)=false:=by rw [hpy];rfl
     rw [e1];refine ax (ab (av (lT W.B.toBase (by rfl) hD (cx (aa 4 rfl rfl (gn W.B a.cN W.slots.2.1 my (db.slot h1 h2 _) ?_))))));have po:=db.wA h1 h2 (-2);have e2:nds.set i (y.1,-2,y.2.2)=cX nds x (-2):=(nu hs.names h2 h3 (λp=>(p.1,-2,p.2.2))).symm;rw [e2] at po;have HS:Ext H (Hc.set (p+1) (.slots a.cN p [some (.str y.1),some (.int (-2)),some (.ref (p+2))])) (fy d ns r):=fy.ext u8 (.inr (.inr (.inr (ae p (ct h1) (.inl rfl))))) _;generalize Ee:Hc.set (p+1) (.slots a.cN p [some (.str y.1),some (.int (-2)),some (.ref (p+2))])=v6 at po HS;have J1:Hc.set (p+1) (.slots a.cN p (iB [some (.str y.1),some (.int y.2.1),some (.ref (p+2))] 1 (.int (-2))))=v6:=Ee;rw [J1];have XG:(cX nds x (-2))[i]?=some (y.1,-2,y.2.2):=by rw [<-e2,hX (bN h2).1]
     have L2:=po.nodes.at_ i p _ h1 XG;refine ab (c8 rfl (eA (a7 (aa 4 rfl rfl (eD W.B a.cN W.slots.2.2 (po.slot h1 XG _) rfl (by simp) (ae (y.2.2.map .str) (.inr (ae (p+2) rfl L2.list)) ?_))))));refine ⟨λj S'=>bw S' [(0,.ref (d+1)),(1,.tup [.str x]),(2,.aZ (tabOf ns nds))]/\SR S'.heap a d ns (dY nds ready x j).1 r (dY nds ready x j).2 a8 fin/\Ext H S'.heap (fy d ns r),(aG (bw.of rfl) (by simpa [dY] using po) HS),?_,?_,?_⟩
     . intro j aY o2;refine e0a2 o2 λzz r6 zz=>?_;have HT:i < (dY nds ready x j).1.length:=by have:=congrArg List.length (jP nds ready x j);simp at this;rw [this];exact (bN h2).1
       have L3:=r6.nodes.at_ i p _ h1 (cp HT);have oK:((dY nds ready x j).1.map (·.2.2))[i]?=(nds.map (·.2.2))[i]?:=by rw [uD]
       rw [dw,dw,h2,cp HT] at oK;simp only [Option.map_some,Option.some.injEq] at oK;have:=L3.list;rw [oK] at this;exact .inr (ae (p+2) rfl this)
     . intro j v aY hj o3;refine e0a2 o3 λxe r6 J0=>?_;rw [dw] at hj;refine e1a1 (mw hj) λs XH e=>?_;subst e;have XI:s∈(dY nds ready x j).1.map (·.1):=by rw [jP];exact hsu s (by rw [Fx];exact ct XH)
       refine e3a3 (r6.node XI) λk q z g1 g2 g3 g4=>?_;rw [dK,jP,<-dK] at g4;have jZ:dY nds ready x (j+1)=cR (dY nds ready x j) s:=by unfold dY;rw [Fx,List.take_add_one,XH];simp
       have ul:(dY nds ready x j).2.length < 1000:=by have:=Ef ((cA nds x).take j) (cX nds x (-2),ready);simp only [List.length_take] at this;unfold dY;exact (cD (aV this (fX (Nat.min_le_right ..) _)) hl)
       generalize dY nds ready x j=st at r6 g2 XI jZ ul;refine au 6 rfl (bd 6 _ rfl) (dG _ (xe.put (i:=6) (v:=.str s) (by rfl)) ?_);show Ex c _ _ ⟨[(0,.ref (d+1)),(1,.tup [.str x]),(2,.aZ (tabOf ns nds)),(6,.str s)],aY.heap⟩ _ gX;generalize aY.heap=Aw at r6 J0;refine ab (av (cV (aa 2 rfl rfl (aa 6 rfl rfl ⟨mW (.inl rfl),gz (.inl rfl) g4 (au 7 rfl (bd 7 _ rfl) ?_)⟩))));refine ab (fN (aa 7 rfl rfl (eD W.B a.cN W.slots.2.1 (r6.slot g1 g2 _) rfl (by simp) (bH (FU (gn W.B a.cN W.slots.2.1 my (r6.slot g1 g2 _) ?_))))));have x9:=r6.wA g1 g2 (z.2.1 - 1);have e4:st.1.set k (z.1,z.2.1 - 1,z.2.2)=du st.1 s:=(nu r6.names g2 g3 (λp=>(p.1,p.2.1 - 1,p.2.2))).symm;have PK:(du st.1 s)[k]?=some (z.1,z.2.1 - 1,z.2.2):=by rw [<-e4,hX (bN g2).1]
       rw [e4] at x9;have TS:Ext H (Aw.set (q+1) (.slots a.cN q [some (.str z.1),some (.int (z.2.1 - 1)),some (.ref (q+2))])) (fy d ns r):=fy.ext J0 (.inr (.inr (.inr (ae q (ct g1) (.inl rfl))))) _;generalize Og:Aw.set (q+1) (.slots a.cN q [some (.str z.1),some (.int (z.2.1 - 1)),some (.ref (q+2))])=TT at x9 TS;have TU:Aw.set (q+1) (.slots a.cN q (iB [some (.str z.1),some (.int z.2.1),some (.ref (q+2))] 1 (.int (z.2.1 - 1))))=TT:=Og;rw [TU];have XJ:dO (du st.1 s) s=z.2.1 - 1:=by have:=n6 x9.names (ct PK);rw [<-g3];rw [<-g3] at this;exact this
       refine ab (bP (bh (a7 (aa 7 rfl rfl (eD W.B a.cN W.slots.2.1 (x9.slot g1 PK _) rfl (by simp) (bH (xu (aT ?_))))))));cases hz:(z.2.1 - 1:Int)==0 with
       | true =>refine ab (bZ (cb "list" "list.append" PySem.F.plainAttrs_list PySem.F.slot_list_append PySem.F.type_list_append (a7 (aa 0 rfl rfl (a9 W.B a.cS (ay W.a2).2.2 (ay W.a2).2.1 ⟨x9.inst,x9.dict⟩ rfl (by simp) ⟨gY x9.list rfl,aw (aa 6 rfl rfl (dR x9.list (by simp [sizeLine];exact kT ul) ?_))⟩)))) (by rfl));refine ax (ax (aG (bw.of rfl) ?_ (fy.ext TS (.inr (.inr (.inl rfl))) _)));rw [jZ,cR,XJ,hz];simp only [if_true];rw [strs_snoc];exact x9.Od (st.2++[s])
       | false =>refine ax (ax (aG (bw.of rfl) ?_ TS));rw [jZ,cR,XJ,hz];simp only [dQ,if_false];exact x9
     . intro aY o4;refine e0a2 o4 λxe r6 J0=>?_;have ef:dY nds ready x (y.2.2.map AV.str).length=et nds ready x:=by unfold dY et;rw [Fx,fz,List.take_length]
       rw [ef] at r6;refine dG _ xe ?_;refine ab (fN (aa 0 rfl rfl (a9 W.B a.cS (ay W.a4).2.2 (ay W.a4).2.1 ⟨r6.inst,r6.dict⟩ rfl (by simp) (bH (gy (c7 (kvs:=dq ns (et nds ready x).1 r a8 fin) W.B a.cS (ay W.a4).1 ⟨r6.inst,r6.dict⟩ (by simp) ?_))))));exact ax (aG (bw.of rfl) (fy.ext J0 (.inl rfl) _) (.inr ⟨rfl,r6.Oe a8 (fin+1)⟩))
   . intro S' o5;refine e0a2 o5 λhL u8 hq=>?_;have db:SR S'.heap a d ns (et nds ready x).1 r (et nds ready x).2 a8 (fin+1):=by rcases hq with ⟨q,_⟩ | ⟨_,q⟩;cases q;exact q
     exact ax (aG rfl db u8)
end
end Mine.Internal
namespace Mine.Internal
open PySem PyProof.Rows
structure kJ (W:aO)(F:G)(bs:aO)(h:Heap)(F':G)(aE:aO)(h':Heap):Prop where
 sub:∀b o,F b=some o->F' b=some o
 ext:∃nb,aE=bs++nb/\∀a∈nb,h.get? a=none
 mono:∀b o,h.get? b=some o->∃o',h'.get? b=some o'
 dT:∀b o,h.get? b=some o->b∉W->b∉bs->o.cls≠.none->∃o',h'.get? b=some o'/\iI o o'
 ja:∀b o,F' b=some o->F b=none->h.get? b=none\/b∈bs\/b∈W
section
variable {W W' own:aO}{F F₁ aX:G}{bs bs₁ ap:aO}{h h₁ ko:Heap}
theorem Step.toR (x:Step W F bs h F₁ bs₁ h₁):kJ W F bs h F₁ bs₁ h₁:=⟨x.sub,x.ext,x.mono,x.dT,λb o e n=>(x.ja b o e n).imp id .inl⟩
theorem kJ.wide (x:kJ W F bs h F₁ bs₁ h₁)(hw:∀a∈W,a∈W'):kJ W' F bs h F₁ bs₁ h₁ :=
 ⟨x.sub,x.ext,x.mono,λb o e n=>x.dT b o e λq=>n (hw b q),λb o e n=>(x.ja b o e n).imp id λq=>q.imp id (hw b)⟩
theorem kJ.trans (x:kJ W F bs h F₁ bs₁ h₁)(y:kJ W F₁ bs₁ h₁ aX ap ko):kJ W F bs h aX ap ko:=by
 refine e1a1 x.ext λnb TV hn=>?_;obtain rfl:=TV;refine e1a1 y.ext λwS TX gW=>?_;refine rE TX ?_;have new:∀a,h₁.get? a=none->h.get? a=none:=λa ha=>by
  cases e:h.get? a with
  | none=>rfl
  | some o=>refine e1a0 (x.mono _ _ e) λo' e'=>?_;exact bE (aB (aq ha) e')
 have off:∀b o,h.get? b=some o->b∉bs->b∉bs++nb:=λb o e n m=>by
  (refine aN (bL m) (λm=>?_) (λm=>?_))
  . exact n m
  . exact bE (aB (aq (hn b m)) e)
 refine ⟨λb o e=>y.sub _ _ (x.sub _ _ e),(ae (nb++wS) (by simp) (λa ha=>(bL ha).elim (hn a) λq=>new a (gW a q))),λb o e=>?_,λb o e n1 n2 n3=>?_,λb o e n=>?_⟩
 . refine e1a0 (x.mono _ _ e) λo' e'=>?_;exact y.mono _ _ e'
 . refine e1a1 (x.dT b o e n1 n2 n3) λo' e' s1=>?_;refine e1a1 (y.dT b o' e' n1 (off b o e n2) (by refine rE s1.cls ?_;exact n3)) λFE Bm s2=>?_;exact (ae FE Bm (s1.trans s2))
 . cases e1:F₁ b with
   | some o1=>exact x.ja b o1 e1 n
   | none =>
     rcases y.ja b o e e1 with z | z | z
     . exact .inl (new b z)
     . (refine aN (bL z) (λz=>?_) (λz=>?_))
       . exact .inr (.inl z)
       . exact .inl (hn b z)
     . exact .inr (.inr z)
theorem Step.HU (x:Step own F bs h F₁ bs₁ h₁)(y:kJ W F₁ bs₁ h₁ aX ap ko)(hW:∀a∈W,h.get? a=none):Step own F bs h aX ap ko:=by
 have z:=(x.toR.wide (W':=own++W) λa ha=>fg (.inl ha)).trans (y.wide λa ha=>fg (.inr ha));refine ⟨z.sub,z.ext,z.mono,λb o e n1 n2 n3=>z.dT b o e (λq=>(bL q).elim n1 λq=>by exact bE (aB (aq (hW b q)) e)) n2 n3,λb o e n=>?_⟩;refine e1a1 x.ext λnb TY hn=>?_;obtain rfl:=TY;have new:∀a,h₁.get? a=none->h.get? a=none:=λa ha=>by
  cases e:h.get? a with
  | none=>rfl
  | some o=>refine e1a0 (x.mono _ _ e) λo' e'=>?_;exact bE (aB (aq ha) e')
 cases e1:F₁ b with
 | some o1=>exact x.ja b o1 e1 n
 | none =>
   rcases y.ja b o e e1 with q | q | q
   . exact .inl (new b q)
   . (refine aN (bL q) (λq=>?_) (λq=>?_))
     . exact .inr q
     . exact .inl (hn b q)
   . exact .inl (hW b q)
end
inductive TZ (c:bc)(C:Cx)(F:G)(bs:aO)(h₀:Heap)(K:AV->bg->Prop)(f:Flow)(s':Shared):Prop
 | mk (F':G) (aE:aO) (v:AV) (H':bg) (st:kJ C.own F bs h₀ F' aE s'.heap) (wd:Wd c F' aE H' s') (hk:K v H') (e:f=.next/\v=.none\/∃r,f=.ret r/\c.V F' aE v r)
def Eg (c:bc)(C:Cx)(ss:fk)(S:AS)(K:AV->bg->Prop):Prop :=
 ∀A F bs s,jW C A->St c C F bs S s->wpAny (model c.prog c.w) A (execs ss C.env) (TZ c C F bs s.heap K) (λzz zz=>False) s
section
variable {c:bc}{C:Cx}{S:AS}{F F':G}{bs aE:aO}{s s':Shared}{A:Around}{mg mb:fV}
@[reducible] def T1 (c:bc) (C:Cx) (rest:fk) (K:AV->bg->Prop):ip:=λfl S=>match fl with | .next=>Eg c C rest S K | .ret v=>K v S.heap | _=>False
theorem iF {st:Stmt}{K:AV->bg->Prop}(h:nH c C st S (T1 c C rest K) gX):Eg c C (st::rest) S K:=by
 intro A F bs s hA z;refine ah (aQ (h A F bs s hA z) (λf O J3=>J3.casesOn λF₁ bs₁ fl Z al an hf k₁=>?_) λzz zz T0=>T0.casesOn λzz zz zz zz zz zz zz q=>q.elim);cases fl with
 | next =>clear J3;subst hf;exact aQ (k₁ A F₁ bs₁ O hA an) (λf ac T2=>T2.casesOn λaX ap v H am Jy k e=>⟨aX,ap,v,H,al.toR.trans am,Jy,k,e⟩) λzz zz q=>q
 | brk=>exact k₁.elim
 | cont=>exact k₁.elim
 | ret v=>clear J3;refine e1a1 hf λr T3 hr=>?_;clear hf;obtain rfl:=T3;exact aM ⟨F₁,bs₁,v,Z.heap,al.toR,an.wd,k₁,.inr (ae r rfl hr)⟩
set_option tactic.hygienic true in
theorem qS (i:Nat){K:AV->bg->Prop}(hi:C.vars[i]?=some x)(hv:S.loc.lookup i=some v)(hk:C.env.kindOf x=some .cell)
 (h:∀own',(∀a∈own',a∈C.own)->(∀a,C.env.cells.lookup x=some a->a∉own')->(∀y,y≠x->bG C (λ_=>none) y->bG {C with own:=own'} (λ_=>none) y)->Eg c {C with own:=own'} ss S K):Eg c C ss S K:=by
 intro A F bs s hA z;refine e1a1 z.locs λm hN hl=>?_;obtain ⟨a,ob,r,ha,kZ,hd,hr⟩:=(hl i v hv).cellAt hi (.inl hk);obtain ⟨u4,K6,Bu,zc,dZ,_⟩:=z.cells x a ha;obtain rfl:=bo (aB (aq kZ) zc);generalize Eh:C.own.filter (λb=>b != a)=own';have gK:∀b∈own',b∈C.own:=λb hb=>by rw [<-Eh] at hb;exact (List.mem_filter.mp hb).1
 have ge:∀b∈own',b≠a:=λb hb=>by rw [<-Eh] at hb;obtain this:=(List.mem_filter.mp hb).2;simpa using this
 have ue:∀b∈C.own,b≠a->b∈own':=λb hb n=>by refine Eh▸?_;exact List.mem_filter.mpr ⟨hb,by simpa using n⟩
 obtain h':=h own' gK (λb e q=>ge b q (by lia)) λy hy hs=>by
  (refine aN hs (λq=>?_) (λT4=>?_);rotate_left;obtain ⟨q,b,e,hb⟩:=T4;rotate_right)
  . exact .inl q
  . exact .inr (so q b e (ue b hb λe'=>hy (z.apart y x a (e'▸e) ha)))
 by_cases hF:F a=none
 . have z':St c {C with own:=own'} (plus F a ob) bs S s:=by
    have w:=z.wd;refine ⟨⟨λb o e=>?_,λb o e q=>aW hF _ _ (w.base b o e q),w.old.plus hF (w.old.xn kZ (by refine rE dZ ?_;simp)),w.len,w.nodup,λk b o e1 e2=>⟨by simpa using fA.mono (nb:=[]) (aW (ob:=ob) hF) (w.obj k b o e1 e2).1,λq=>?_⟩,w.there,w.os,w.gens,λb hb o e=>?_⟩,
     (ae m hN (λy u e=>(by obtain q:=iY.mono (nb:=[]) (aW (ob:=ob) hF) (hl y u e);rw [List.append_nil] at q;exact q))),z.gG,ue _ z.cH (Ne.symm K6),λb hb=>?_,z.cells,z.apart,λe he=>⟨(z.frames e he).1,λL hL=>⟨?_,((z.frames e he).2 L hL).2⟩⟩,z.glob,z.blt,z.kind,z.oD,λhf y b e=>?_⟩
    . unfold plus at e
      split at e
      . rename_i q;cases q;cases e;exact kZ
      . exact w.sub _ _ e
    . delta plus;rw [if_neg (λ(e:b=a)=>u4 (e▸ct e1))];exact (w.obj k b o e1 e2).2 q
    . unfold plus at e
      split at e
      . rename_i q;exact absurd (q▸hb) u4
      . exact w.kept b hb o e
    . obtain h3:=z.own b (gK b hb);refine ⟨?_,h3.2⟩;delta plus;rw [if_neg (ge b hb)];exact h3.1
    . delta plus;rw [if_neg]
      . exact ((z.frames e he).2 L hL).1
      . intro q;obtain ⟨_,L',o,e1,e2,e3,_⟩:=(z.frames e he).1;obtain rfl:=bo (aB (aq hL) e1);rw [q,kZ] at e2;cases e2;rw [dZ] at e3;simp at e3
    . by_cases q:b=a
      . clear e;cases q;exact .inr (eO ob r b9 hd)
      . (refine aN (z.gH hf y b e) (λw=>?_) (λT7=>?_);rotate_left;refine e2a1 T7 λo u w1 w2=>?_;rotate_right)
        . exact .inl (ue b w q)
        . exact .inr (eO o u (aW hF _ _ w1) w2)
   obtain st:kJ C.own F bs s.heap (plus F a ob) bs s.heap\/a∉C.own:=by
    by_cases q:a∈C.own
    . refine .inl ⟨aW hF,(ae [] (by simp) (by simp)),λb o e=>(ck o e),λb o e _ _ _=>(ae o e (.refl o)),λb o e n=>?_⟩;unfold plus at e
      split at e
      . rename_i w;clear n;cases w;exact .inr (.inr q)
      . exact jq (aB (aq e) n)
    . exact .inr q
   (refine aN st (λst=>?_) (λq=>?_))
   . exact aQ (h' A _ bs s ⟨hA.handled,hA.depth,hA.units,hA.frames⟩ z') (λf s' T8=>T8.casesOn λF' aE v H' gM w k e=>⟨F',aE,v,H',st.trans (gM.wide gK),w,k,e⟩) λ_ _ q=>q
   . obtain Dk:St c {C with own:=own'} F bs S s:=by
      refine ⟨z.wd,z.locs,z.gG,ue _ z.cH (Ne.symm K6),λb hb=>z.own b (gK b hb),z.cells,z.apart,z.frames,z.glob,z.blt,z.kind,z.oD,λhf y b e=>?_⟩
      (refine aN (z.gH hf y b e) (λw=>?_) (λw=>?_))
      . exact .inl (ue b w λe=>q (e▸w))
      . exact .inr w
     exact aQ (h' A _ bs s ⟨hA.handled,hA.depth,hA.units,hA.frames⟩ Dk) (λf s' T9=>T9.casesOn λF' aE v H' gM w k e=>⟨F',aE,v,H',gM.wide gK,w,k,e⟩) λ_ _ q=>q
 . have q:a∉C.own:=λq=>hF (z.own a q).1;have Dk:St c {C with own:=own'} F bs S s:=by
    refine ⟨z.wd,z.locs,z.gG,ue _ z.cH (Ne.symm K6),λb hb=>z.own b (gK b hb),z.cells,z.apart,z.frames,z.glob,z.blt,z.kind,z.oD,λhf y b e=>?_⟩
    (refine aN (z.gH hf y b e) (λw=>?_) (λw=>?_))
    . exact .inl (ue b w λe=>q (e▸w))
    . exact .inr w
   exact aQ (h' A _ bs s ⟨hA.handled,hA.depth,hA.units,hA.frames⟩ Dk) (λf s' Ua=>Ua.casesOn λF' aE v H' gM w k e=>⟨F',aE,v,H',gM.wide gK,w,k,e⟩) λ_ _ q=>q
end
end Mine.Internal
namespace Mine.Internal
open PySem PyProof.Rows PySem.W
theorem r7 {code:Value}
 (h:wpAny M A (forIn binds PUnit.unit λp zz=>(do storeName (newEnv scope s.heap.objs.size globals (cellsFrom (s.heap.objs.size+1) scope.names cl) qual func code none builtins) p.1 p.2;pure (.yield PUnit.unit)))
  (λzz s'=>Q (newEnv scope s.heap.objs.size globals (cellsFrom (s.heap.objs.size+1) scope.names cl) qual func code none builtins) s') E {s with heap:=pushCells (s.heap.push {cls:=.type "frame",data:=.dict #[]}) scope.names}) :
 wpAny M A (newFunctionEnv scope globals cl binds qual func code none builtins) Q E s:=by
 skip
 refine ah (wpAny_alloc ?_);refine ah (wpAny_layCells _ (λname kind cells=>by cases LO:kind==NameKind.cell <;> simp [LO]) _ _ _ _ ?_);refine rE (show ({s with heap:=s.heap.push {cls:=.type "frame",data:=.dict #[]}}:Shared).heap.objs.size=s.heap.objs.size+1 from fh ..) ?_;exact ah (aQ h (λzz zz q=>aM q) λzz zz e=>e)
noncomputable def gq:Nat->eQ->fi
 | _,[]=>[]
 | n,(_,v)::r=>(n,v)::gq (n+1) r
theorem AG (l:eQ)(n j:Nat)(v:AV)(h:(gq n l).lookup j=some v):∃x,n<=j/\l[j - n]?=some (x,v):=by
 induction l generalizing n with
 | nil=>exact bE h
 | cons p r ih =>
   dsimp only [gq] at h;rw [List.lookup_cons] at h;cases q:j==n with
   | true =>rw [q] at h;clear ih;refine (bo h)▸?_;clear h;refine (eq_of_beq q)▸?_;exact (ae p.1 (bu _) (by rw [Nat.sub_self];rfl))
   | false =>rw [q] at h;refine e1a1 (ih (n+1) h) λx' h1 h2=>?_;refine (ae x' (Nat.le_of_succ_le h1) ?_);rw [show j - n=(j - (n+1))+1 by exact vd h1];exact h2
theorem aU.mem {c:bc}(h:c.SV F bs xs rs)(x:Str)(v:AV)(m:(x,v)∈xs):∃r,(x,r)∈rs/\c.V F bs v r:=by
 induction xs generalizing rs with
 | nil=>exact nomatch m
 | cons p l ih =>
   refine e2a2 h.inv λzz zz HV h t=>?_;refine rE HV ?_;rcases cu m with e | m
   . clear m;clear HV;subst e;exact (ae _ (.head _) h)
   . refine e1a1 (ih t m) λr h1 h2=>?_;exact (ae r (.tail _ h1) h2)
structure sR (C:Cx)(sc:Scope)(code:Value)(qual:Str)(n:Nat)(vars:ag):Prop where
 scope:C.env.scope=sc
 vars:C.vars=vars
 handled:C.handled=none
 n:C.n=n
 top:gJ C
 cell:∀x,sc.names.lookup x=some .cell->bG C (λzz=>none) x
 code:C.env.code=code
 qual:C.env.qual=qual
 func:C.env.func≠none
section
variable {c:bc}{F F':G}{bs aE:aO}{s s':Shared}{A:Around}{mg mb:fV}
noncomputable def ig (scope:Scope)(names caps vars:ag):Bool :=
 scope.kind==.function&&!scope.isCoroutine&&!scope.isGenerator&&decide vars.Nodup&&(names++caps).isPrefixOf vars&&names.all (λp=>scope.names.lookup p==some .local||scope.names.lookup p==some .cell) &&
 caps.all (λx=>scope.names.lookup x==some .free&&scope.names.all (λp=>!(p.1==x&&p.2==.cell)))
theorem GH {code:Value}(n:Nat)(vars:ag)
 (eI:ig scope (binds.map (·.1)) (caps.map (·.1)) vars=true) (wd:Wd c F bs H s) (dZ:xm F cl crs) (Oh:c.SV F bs caps crs) (mt:c.SV F bs binds rb)
 (ms:∀e∈fr,gx s.heap e/\∀L,e.frame=some L->F L=none/\L∉bs) (E:sA) :
 wpAny (model c.prog c.w) A (newFunctionEnv scope mainGlobals cl rb qual (some fa) code none builtinsNs) (λenv aP=>∃own bi aK,let C:Cx:=⟨env,own,env::fr,none,n,vars⟩
  sR C scope code qual n vars/\St c C bi aK ⟨dp 0 binds (gq binds.length caps),H⟩ aP/\Step own F bs s.heap bi aK aP.heap/\(∀b∈own,s.heap.get? b=none)) E s:=by
 simp only [ig,cZ,Bool.not_eq_true',beq_iff_eq,decide_eq_true_eq,List.all_eq_true,Bool.or_eq_true,Bool.and_eq_false_imp,beq_eq_false_iff_ne] at eI;refine e0a1 eI λOi k7=>?_;refine e0a1 Oi λOj k6=>?_;clear Oi;refine e0a1 Oj λGo k5=>?_;clear Oj;refine e0a1 Go λJN k4=>?_;clear Go;obtain ⟨⟨k1,k2⟩,k3⟩:=JN;refine e1a0 (List.isPrefixOf_iff_prefix.mp k5) λrest y0=>?_;refine r7 ?_;generalize bv:({s with heap:=pushCells (s.heap.push {cls:=.type "frame",data:=.dict #[]}) scope.names}:Shared)=ac;generalize hE:newEnv scope s.heap.objs.size mainGlobals (cellsFrom (s.heap.objs.size+1) scope.names cl) qual (some fa) code none builtinsNs=env;have z0:env.scope=scope:=by refine hE▸?_;rfl
 obtain hL:env.locals=s.heap.objs.size:=by refine hE▸?_;rfl
 obtain PC:env.cells=cellsFrom (s.heap.objs.size+1) scope.names cl:=by refine hE▸?_;rfl
 have Ok:env.frame=some s.heap.objs.size:=by rw [<-hE];rfl
 generalize how:s.heap.objs.size::(cellsFrom (s.heap.objs.size+1) scope.names []).map (·.2)=own;obtain n0:s.heap.get? s.heap.objs.size=none:=St.fm s;obtain F0:F s.heap.objs.size=none:=by
  cases q:F s.heap.objs.size with
  | none=>rfl
  | some o'=>exact jq (aB (aq (wd.sub _ _ q)) n0)
 obtain b0:s.heap.objs.size∉bs:=λm=>by refine e1a0 (wd.there _ m) λo' e'=>?_;exact bE (aB (aq n0) e')
 have keep:∀b o,s.heap.get? b=some o->ac.heap.get? b=some o:=λb o e=>by refine bv▸?_;exact pushCells_keeps _ _ _ _ (bU _ e)
 obtain rG:ac.heap.get? s.heap.objs.size=some {cls:=.type "frame",data:=.dict #[]}:=by refine bv▸?_;exact pushCells_keeps _ _ _ _ (cT _ rfl)
 have zz:=St.opens (c:=c) (s:=s) (s':=ac) wd (cl:=cl) ⟨λx a e=>?_,dZ.apart⟩ "frame" (by decide) scope.names env own (env::fr) none n vars (gq binds.length caps) bv.symm hL PC how.symm (by refine hE▸?_;rfl) (by rw [<-hE];rfl) (by rw [z0];exact k1) k4 (λe he=>?_) (λi v e=>?_)
  (.inr λx a e=>e2a2 (dZ.all x a e) λoc v e1 zz e3=>(eO oc v e1 e3))
 . refine e0a2 zz λz mv mO=>?_;have bd:∀x,scope.names.lookup x=some .cell->bG ⟨env,own,env::fr,none,n,vars⟩ (λzz=>none) x:=λx e=>by
    obtain db:((cellsFrom (s.heap.objs.size+1) scope.names []).lookup x).isSome=true:=PySem.W.cellsFrom_some _ _ _ (.inl e);refine e1a0 (Option.isSome_iff_exists.mp db) λa ha=>?_;refine .inr (so (by skip;unfold Env.kindOf;rw [z0];exact e) a ?_ ?_)
    . skip
      rw [PC,dF,List.lookup_append,ha];rfl
    . show a∈own;refine how▸?_;exact .tail _ (dm (ae (x,a) (mem_of_lookup ha) rfl))
   obtain K8:=vE (c:=c) (C:=⟨env,own,env::fr,none,n,vars⟩) (A:=A) (X:=gX) (λp zz=>(do storeName env p.1 p.2;pure (.yield PUnit.unit))) (λzz zz zz=>rfl) binds 0 rb F bs ⟨gq binds.length caps,H⟩ ac (λzz S'=>S'=⟨dp 0 binds (gq binds.length caps),H⟩) z mt
    (λj p e=>by
     rw [Nat.zero_add];show vars[j]?=_;obtain hj:j < binds.length:=(bN e).1;refine y0▸?_;rw [eN (by simp;exact cG hj (bW _ _)),eN (by simpa using hj),dw,e];rfl)
    (λx v m=>(k6 x (dm (ae (x,v) m rfl))).elim (λe=>.inl (by skip;unfold Env.kindOf;rw [z0];exact e)) (bd x)) rfl
   refine aQ K8 (λzz aP Ub=>Ub.casesOn λbi aK zz aY aA a6 zz nM=>?_) (λzz zz Uc=>Uc.casesOn λzz zz zz zz zz zz zz q=>q.elim);refine nM▸?_;exact (fF own bi aK ⟨z0,rfl,rfl,rfl,(ck fr rfl),bd,by show env.code=_;rw [<-hE];rfl,by show env.qual=_;rw [<-hE];rfl,by show env.func≠_;rw [<-hE];simp [newEnv]⟩ a6 ((Step.keep mv).trans aA) mO)
 . refine e2a2 (dZ.all x a e) λoc v e1 e2 e3=>?_;refine ⟨(λq=>wd.kept a q oc e1 e2),oc,(wd.sub _ _ e1),e2,_,e3⟩
 . rcases cu he with e' | he
   . refine rE e' ?_;refine ⟨⟨by refine (aq z0)▸(aq k1)▸?_;simp,s.heap.objs.size,_,Ok,rG,rfl,λvs q=>by cases q⟩,λL' q=>?_⟩;refine (bo (aB (aq Ok) q))▸?_;exact ⟨F0,b0⟩
   . refine e0a1 (ms e he) λf1 f2=>?_;exact ⟨f1.keep λb o e zz=>(ae o (keep _ _ e) (.refl o)),f2⟩
 . refine e1a1 (AG caps binds.length i v e) λx h1 h2=>?_;have hm:(x,v)∈caps:=ct h2;refine e0a1 (k7 x (dm (ae _ hm rfl))) λq1 q2=>?_;refine e1a1 (aU.mem Oh x v hm) λr m1 hr=>?_;refine e2a2 (dZ.has x r m1) λa oc w1 w2 w3=>?_;refine ⟨x,?_,(.inr (by delta Env.kindOf;rw [z0];exact q1)),(λk hk e=>q2 (x,k) hk rfl e),a,oc,r,w1,(wd.sub _ _ w2),w3,hr⟩;obtain eX:i - binds.length < caps.length:=(bN h2).1;rw [<-y0,eN (by simp;exact (cD (Nat.sub_le_iff_le_add'.mp (bu (_-_))) (gD eX _))),iV (by simpa using h1),dw,fz,h2];rfl
def jk (c:bc)(n:Nat)(fv:AV)(args:dB)(H:bg)(K:AV->bg->Prop):Prop :=
 ∀A F bs s r rs fr,A.handled=none->A.depth+n < recursionLimit->A.units+20*n < cLine->A.frames=some fr->(∀e∈fr,gx s.heap e/\∀L,e.frame=some L->F L=none/\L∉bs) ->
  Wd c F bs H s->c.V F bs fv r->c.Vs F bs args rs ->
  codeAny (model c.prog c.w) A (.call r ⟨rs,[]⟩) (IQ c F bs s.heap K) s
theorem Ei (B:Base c mg mb){K:AV->bg->Prop}(vars:ag)
 (hh:A.handled=none) (hd:A.depth+(n+1) < recursionLimit) (hu:A.units+20*(n+1) < cLine) (jp:A.frames=some fr) (ms:∀e∈fr,gx s.heap e/\∀L,e.frame=some L->F L=none/\L∉bs)
 (hf:s.heap.get? fa=some o) (y6:o.data=.func fd) (gt:s.heap.CodeRec fd.code fd.qualname) (y7:fd.globals=mainGlobals) (FK:fd.builtins=builtinsNs)
 (wd:Wd c F bs H s) (hv:c.Vs F bs args rs) (dZ:xm F fd.closure crs) (Oh:c.SV F bs caps crs) (hb:mM c fd args binds) (eI:ig fd.scope (binds.map (·.1)) (caps.map (·.1)) vars=true)
 (h:(∃body,fd.body=.stmts body/\∀C,sR C fd.scope fd.code (fd.qualname++".<locals>.") n vars->Eg c C body ⟨dp 0 binds (gq binds.length caps),H⟩ K) \/
  (∃body,fd.body=.expr body/\∀C,sR C fd.scope fd.code (fd.qualname++".<locals>.") n vars->Ev c C body ⟨dp 0 binds (gq binds.length caps),H⟩ (λv S'=>K v S'.heap) gX)) :
 codeAny (model c.prog c.w) A (.call (.ref fa) ⟨rs,[]⟩) (IQ c F bs s.heap K) s:=by
 have Pq:fd.scope.isCoroutine=false:=by simp only [ig,cZ,Bool.not_eq_true'] at eI;exact eI.1.1.1.1.1.2
 have FL:fd.scope.isGenerator=false:=by simp only [ig,cZ,Bool.not_eq_true'] at eI;exact eI.1.1.1.1.2
 obtain op:∀(E:sA) (Q:Env->mq),(∀own bi aK env aP,sR ⟨env,own,env::fr,none,n,vars⟩ fd.scope fd.code (fd.qualname++".<locals>.") n vars->St c ⟨env,own,env::fr,none,n,vars⟩ bi aK ⟨dp 0 binds (gq binds.length caps),H⟩ aP->Step own F bs s.heap bi aK aP.heap->(∀b∈own,s.heap.get? b=none)->Q env aP) ->
  wpAny (model c.prog c.w) A.in1 (bindArgs fd ⟨rs,[]⟩) (λrb O=>wpAny (model c.prog c.w) A.in1 (newFunctionEnv fd.scope fd.globals fd.closure rb (fd.qualname++".<locals>.") (some fa) fd.code none fd.builtins) Q E O) E s:=λE Q q=>by
  refine hb _ F bs H s rs _ _ wd hv λF₁ O rb al vG mt=>?_;refine (aq y7)▸(aq FK)▸?_;obtain Ud:c.SV F₁ bs caps crs:=by obtain this:=aU.mono (nb:=[]) al.sub Oh;rwa [List.append_nil] at this
  refine aQ (GH (c:=c) (A:=A.in1) (fr:=fr) n vars eI vG (dZ.mono al.sub) Ud mt (λe he=>?_) E) (λenv aP Ue=>e3a3 Ue λown bi aK yb z st hn=>?_) λzz zz e=>e
  . refine e0a1 (ms e he) λUf f2=>?_;obtain ⟨k1,L',o',e1,e2,e3,e4⟩:=Uf;refine e0a1 (f2 L' e1) λq1 q2=>?_;refine e1a1 (al.dT L' o' e2 (by simp) q2 (by rw [e3];simp)) λBu e5 s5=>?_;refine ⟨⟨k1,L',Bu,e1,e5,s5.cls.trans e3,λvs=>by refine rE s5.data ?_;exact e4 vs⟩,λQM q=>?_⟩;refine (bo (aB (aq e1) q))▸?_;refine ⟨?_,q2⟩;cases q3:F₁ L' with
    | none=>rfl
    | some BT=>(refine aN (al.ja L' BT q3 q1) (λy=>?_) (λy=>?_))
               . exact bE (aB (aq y) e2)
               . exact absurd y q2
  . exact q own bi aK env aP yb z ((al.widen (by simp)).trans st) λb iJ=>by
     cases q:s.heap.get? b with
     | none=>rfl
     | some o'=>refine e1a0 (al.mono _ _ q) λFE Bm=>?_;exact bE (aB (aq (hn b iJ)) Bm)
 (refine aN h (λUg=>?_) (λUh=>?_);refine e1a1 Ug λbody vF h=>?_;rotate_left;refine e1a1 Uh λbody vF h=>?_;rotate_right)
 . refine codeAny_call_function (tL hd) hf y6 Pq FL vF gt ?_;refine op _ _ λown bi aK env aP yb z st hn=>⟨z.wd.CD B,codeAny_func ?_⟩
   refine aQ (h _ yb (A.deeper env) bi aK aP ⟨hh,by show A.depth+1+n < _;exact pM hd,by show A.units+3+20*n < _;exact tN hu,by show A.frames.map _=_;rw [jp];rfl⟩ z) (λf ch Ol=>Ol.casesOn λec ca v H' ce Om k e=>?_) (λzz zz q=>q.elim);clear Ol;rcases e with ⟨rfl,rfl⟩ | ⟨r,rfl,hr⟩
   . exact ⟨ec,ca,.none,H',_,own,rfl,hn,st.HU ce hn,Om,.none,k⟩
   . exact ⟨ec,ca,v,H',_,own,rfl,hn,st.HU ce hn,Om,hr,k⟩
 . refine kla_callFunE (tL hd) hf y6 Pq FL vF gt ?_;refine op _ _ λown bi aK env aP yb z st hn=>⟨z.wd.CD B,kla_codeExpr ?_⟩
   refine aQ (h _ yb (A.deeper env) bi aK aP ⟨hh,by show A.depth+1+n < _;exact pM hd,by show A.units+3+20*n < _;exact tN hu,by show A.frames.map _=_;rw [jp];rfl⟩ z) (λr ch Ui=>Ui.casesOn λec ca v co ce cr hr k=>?_) (λzz zz Uj=>Uj.casesOn λzz zz zz zz zz zz zz q=>q.elim);exact ⟨ec,ca,v,co.heap,_,own,rfl,hn,st.trans ce,cr.wd,hr,k⟩
end
structure TabAt (c:bc)(cc P:Addr)(q:Pos->Str):Prop where
 code:CodeHd c.h₀ cc P
 tab:c.tab P=some q
 zX:∃ps,c.h₀.get? P=some (tabObj ps)
 line:∀p p':Pos,p.line=p'.line->p.col=p'.col->q p=q p'
def kK (c:bc)(mg:fV):Prop :=
 ∃bm ob,mg "__builtins__"=some (.ref bm)/\bm≠builtinsNs/\c.h₀.get? bm=some ob/\ob.cls=.type "module"/\ob.dict=some builtinsNs/\ob.data=.plain
set_option tactic.hygienic true in
theorem pz (l:iy)(h:TriplesOk l)(hv:codeAmong pos (l++[rawInt a,rawInt b,x])=some v):codeAmong pos l=some v\/((a==pos.line&&b==pos.col)=true/\v=x):=by
 fun_induction TriplesOk l with
 | case1 =>
   right;dsimp only [List.nil_append,codeAmong,rawInt] at hv
   split at hv
   . rename_i q;refine rE (bo hv) ?_;exact ⟨q,rfl⟩
   . exact bE hv
 | case2 a' t b' u y rest ih =>
   dsimp only [List.cons_append,codeAmong] at hv ⊢
   split at hv
   . rename_i q;left;rw [if_pos q];exact hv
   . rename_i q;rw [if_neg q];exact ih h hv
 | case3 l h1 h2=>exact h.elim
section
variable {c:bc}{C:Cx}{S:AS}{F F':G}{bs aE:aO}{s s':Shared}{A:Around}{mg mb:fV}{X:dU}{K:dC}
theorem Base.yc (B:Base c mg mb)(t:TabAt c cc P q):mainGlobals≠P/\P≠cStatics:=by
 refine e1a0 t.zX λps e=>?_;refine ⟨λw=>?_,λw=>?_⟩
 . refine e3a2 B.g λo es ep ho hd zz=>?_;rw [w,e] at ho;cases ho;cases hd
 . refine e1a1 B.lim λmc C1 zz=>?_;refine e3a2 C1 λo es ep ho hd zz=>?_;clear C1;rw [w] at e;obtain rfl:=bo (aB (aq e) ho);cases hd
theorem St.Ej (z:St c C F bs S s)(h:CodeHd c.h₀ cc P):CodeHd s.heap cc P:=by refine e7a0 h λo vs file tf flags tg Uk t9=>?_;clear h;refine e2a2 t9 λtext tt e1 e2 r=>?_;clear t9;exact ⟨o,vs,file,tf,flags,tg,Uk,text,tt,(z.zX (ae o e1 (by rw [e2];simp)) _ e1),e2,r⟩
theorem St.Oo (z:St c C F bs S s)(B:Base c mg mb)(hb:kK c mg)(t:TabAt c cc P q):s.heap.BuiltinsAt mg P:=by
 refine e2a5 hb λbm ob b1 b2 b3 b4 b5 b6=>?_;refine ⟨bm,ob,b1,b2,(λw=>?_),(λw=>?_),(z.zX (ae ob b3 (by refine rE b4 ?_;simp)) _ b3),b4,b5,b6⟩
 . refine e3a2 B.g λo es ep e hd zz=>?_;rw [w,e] at b3;clear e;cases b3;rw [hd] at b6;cases b6
 . refine e1a0 t.zX λps e=>?_;rw [w,e] at b3;clear b6 b5;cases b3;cases b4
set_option tactic.hygienic true in
theorem St.J4 (B:Base c mg mb)(z:St c C F bs S s)(t:TabAt c cc P q)(hP:s.heap.get? P=some (tabObj ps))(hx:Heap.ExtBut P s.heap s'.heap)(ha:s.heap.get? a=none)
 (hoc:s'.heap.get? a=some oc) (hd:oc.data=.fields vs) (hv:vs[1]?=some (.str (q pos) tk)) (uf:s'.heap.get? P=some (tabObj (ps++#[rawInt pos.line,rawInt pos.col,.ref a])))
 (Jz:s'.os=s.os) (hg:s'.gens=s.gens):St c C (plus F a oc) bs S s'/\Step C.own F bs s.heap (plus F a oc) bs s'.heap:=by
 have w:=z.wd;obtain ⟨hFP,⟨o0,h0⟩,ps',hP',On,Ek⟩:=w.old.tabs P q t.tab;have Xp:F a=none:=z.jE ha;have ge:∀b o,s.heap.get? b=some o->o.cls≠.none->b≠P:=λb o e n w=>by lia
 have keep:∀b o,s.heap.get? b=some o->o.cls≠.none->s'.heap.get? b=some o:=λb o e n=>hx b o (ge b o e n) e;have any:∀b o,s.heap.get? b=some o->∃o',s'.heap.get? b=some o':=λb o e=>by
  by_cases q:b=P
  . rw [q];exact (ck _ uf)
  . exact (ck o (hx b o q e))
 have new:∀b,(∃o,s.heap.get? b=some o)->b≠a:=λb Ul=>e1a0 Ul λo e q=>by lia
 have qT:∀b o,F b=some o->plus F a oc b=some o:=aW Xp;refine e1a0 t.zX λps0 e0=>?_;have C':=z.Ej t.code;have C'':CodeHd s'.heap cc P:=by refine e7a0 C' λo vs file tf flags tg Uk t0=>?_;clear C';refine e2a2 t0 λtext tt e1 e2 r=>?_;clear t0;exact ⟨o,vs,file,tf,flags,tg,Uk,text,tt,(keep _ _ e1 (by rw [e2];simp)),e2,r⟩
 have old:gQ c (plus F a oc) s'.heap:=by
  refine ⟨OldK.step_table w.old.toOldK (t.code.tab e0) (C'.tab hP) (C''.tab uf) hx (B.yc t).2,λGJ Um e=>?_⟩;obtain ⟨g1,g2,Op,g3,g4,g5⟩:=w.old.tabs GJ Um e;obtain XK:plus F a oc GJ=none:=by
   unfold plus;rw [if_neg]
   . exact g1
   . exact new GJ (ck _ g3)
  by_cases hp:GJ=P
  . subst hp;obtain rfl:=bo (aB (aq t.tab) e);rw [hP] at g3;cases g3;refine (jA XK g2 _ uf (by rw [Array.toList_append];exact TriplesOk_snoc _ _ _ _ g4) (λpos' v lG=>?_));rw [Array.toList_append] at lG
    (refine aN (pz _ g4 lG) (λq=>?_) (λt8=>?_);rotate_left;refine e0a1 t8 λq vQ=>?_;clear t8;refine rE vQ ?_;rotate_right)
    . refine e4a2 (g5 pos' v q) λb o us t' e1 e2 e3=>?_;exact ⟨b,o,us,t',e1,(qT _ _ e2),e3⟩
    . simp only [cZ,beq_iff_eq] at q;refine (jb a oc vs tk rfl b9 hd ?_);rw [hv,t.line pos pos' (by exact_mod_cast q.1) (by exact_mod_cast q.2)]
  . refine (jA XK g2 Op (hx _ _ hp g3) g4 (λpos' v lG=>?_));refine e4a2 (g5 pos' v lG) λb o us t' e1 e2 e3=>?_;exact ⟨b,o,us,t',e1,(qT _ _ e2),e3⟩
 refine e1a1 z.locs λm hN hl=>?_;refine e1a1 z.gG λoL eL nL=>?_;refine ⟨⟨⟨λb o e=>?_,λb o e q=>qT _ _ (w.base b o e q),old,w.len,w.nodup,λk b o e1 e2=>⟨?_,λq=>?_⟩,λb hb=>(e1a0 (w.there b hb) λo e=>any b o e),Jz.trans w.os,hg.trans w.gens,λb hb o e=>?_⟩,
  (ae m ?_ (λy v e=>?_)),(ae oL (keep _ _ eL nL) nL),z.cH,λb hb=>?_,λy b e=>?_,z.apart,λe he=>⟨?_,λL hL=>?_⟩,z.glob,z.blt,z.kind,z.oD,z.gH.mono qT⟩,
  ⟨qT,(ae [] (by simp) (by simp)),any,λb o e _ _ n=>(ae o (keep _ _ e n) (.refl o)),λb o e n=>?_⟩⟩
 . unfold plus at e
   split at e
   . rename_i q;cases q;cases e;exact hoc
   . exact hx b o (λq=>by lia) (w.sub _ _ e)
 . by_cases q:o=.gone
   . refine rE q ?_;trivial
   . refine e0a1 (w.obj k b o e1 e2) λhr _=>?_;refine e1a2 (hr.cls q) λob g1 g2 _=>?_;obtain IF:=hr.at (h':=s'.heap) λID e'=>by refine (bo (aB (aq g1) e'))▸?_;exact keep _ _ g1 g2
     simpa using fA.mono (nb:=[]) qT IF
 . delta plus;rw [if_neg (new b (w.there b (ct e1)))];exact (w.obj k b o e1 e2).2 q
 . unfold plus at e
   split at e
   . rename_i q;exact absurd q (new b (w.there b hb))
   . exact w.kept b hb o e
 . refine e3a1 hN λo es ep ho r=>?_;obtain rfl:=bo (aB (aq eL) ho);exact (km oL es ep (keep _ _ eL nL) r)
 . obtain q:=iY.mono (nb:=[]) qT ((hl y v e).heap (h':=s'.heap) λx b o e1 e2=>by
    obtain ⟨_,_,o',h3,h4,_⟩:=z.cells x b e1;obtain rfl:=bo (aB (aq e2) h3);exact (ae o (keep _ _ e2 (by rw [h4];simp)) rfl))
   rw [List.append_nil] at q;exact q
 . obtain ⟨h1,h2,o,h3⟩:=z.own b hb;refine (aG ?_ h2 (any b o h3));delta plus;rw [if_neg (new b (ck o h3))];exact h1
 . obtain ⟨h1,h2,o,h3,h4,h5⟩:=z.cells y b e;exact (aG h1 h2 ⟨o,keep _ _ h3 (by rw [h4];simp),h4,h5⟩)
 . exact (z.frames e he).1.keep λb o e' hc=>(ae o (keep _ _ e' (by rw [hc];simp)) (.refl o))
 . refine e0a1 (z.frames e he) λf1 f2=>?_;obtain ⟨_,L',o,e1,e2,_⟩:=f1;obtain rfl:=bo (aB (aq hL) e1);refine ⟨?_,(f2 L hL).2⟩;delta plus;rw [if_neg (new L (ck o e2))];exact (f2 L hL).1
 . unfold plus at e
   split at e
   . rename_i q;clear n;cases q;exact .inl ha
   . exact jq (aB (aq e) n)
end
noncomputable def jQ (C:Cx)(S:AS):List (Nat×Str×AV)->Prop
 | []=>True
 | (i,x,v)::r=>C.vars[i]?=some x/\S.loc.lookup i=some v/\(∀a,C.env.cells.lookup x=some a->a∉C.own)/\(C.env.kindOf x=some .cell\/C.env.kindOf x=some .free)/\jQ C S r
theorem jQ.mem (h:jQ C S l)(p:Nat×Str×AV)(m:p∈l):C.vars[p.1]?=some p.2.1/\S.loc.lookup p.1=some p.2.2/\(∀a,C.env.cells.lookup p.2.1=some a->a∉C.own)/\(C.env.kindOf p.2.1=some .cell\/C.env.kindOf p.2.1=some .free):=by
 induction l with
 | nil=>exact nomatch m
 | cons q r ih =>
   rcases cu m with rfl | m
   . exact (gb h.1 h.2.1 h.2.2.1 h.2.2.2.1)
   . exact ih h.2.2.2.2 m
noncomputable def freeOk (scope:Scope)(xs:ag):Bool:=xs.all (λx=>scope.names.lookup x==some .free)&&scope.names.all (λp=>!(p.2==.free)||xs.contains p.1)
section
variable {c:bc}{C:Cx}{S:AS}{F F':G}{bs aE:aO}{s s':Shared}{A:Around}{mg mb:fV}{X:dU}{K:dC}
theorem St.sealed (z:St c C F bs S s)(hf:C.env.func≠none)(h:jQ C S fs)(eI:freeOk scope (fs.map (·.2.1))=true) :
 closureFor scope C.env=pure (jL C scope)/\∃crs,xm F (jL C scope) crs/\c.SV F bs (fs.map (·.2)) crs:=by
 simp only [freeOk,cZ,List.all_eq_true,beq_iff_eq,Bool.or_eq_true,Bool.not_eq_true',beq_eq_false_iff_ne,List.contains_iff_mem] at eI;refine e0a1 eI λk1 k2=>?_;refine e1a1 z.locs λm hN hl=>?_;have one:∀p∈fs,∃a o r,C.env.cells.lookup p.2.1=some a/\F a=some o/\o.cls=.type "cell"/\o.data=.cell (some r)/\c.V F bs p.2.2 r:=λp hp=>by
  refine e0a3 (h.mem p hp) λh1 h2 h3 h4=>?_;obtain ⟨a,o,r,w1,w2,w3,w4⟩:=(hl _ _ h2).cellAt h1 h4
  (refine aN (z.gH hf _ _ w1) (λq=>?_) (λUn=>?_);rotate_left;refine e2a1 Un λo' r' q1 q2=>?_;rotate_right)
  . exact absurd q (h3 a w1)
  . obtain this:=z.wd.sub _ _ q1;clear q2;obtain rfl:=bo (aB (aq w2) this);obtain ⟨_,_,o2,e2,e3,_⟩:=z.cells _ _ w1;obtain rfl:=bo (aB (aq w2) e2);exact (il a o r w1 q1 e3 w3 w4)
 have zf:∀x,x∈fs.map (·.2.1)->C.env.cells.lookup x=some ((C.env.cells.lookup x).getD 0):=λx hx=>by refine e1a1 (dS hx) λp hp J5=>?_;clear hx;obtain rfl:=J5;refine e3a1 (one p hp) λa o r e zz=>?_;refine rE e ?_;rfl
 have HW:∀x,(x,NameKind.free)∈scope.names->x∈fs.map (·.2.1):=λx hx=>by
  (refine aN (k2 (x,.free) hx) (λq=>?_) (λq=>?_))
  . exact absurd rfl q
  . exact q
 have xG:∀x a,(jL C scope).lookup x=some a->C.env.cells.lookup x=some a/\x∈fs.map (·.2.1):=λx a e=>by
  (refine aN (je _ scope.names [] (x,a) (mem_of_lookup e)) (λq=>?_) (λUo=>?_);rotate_left;refine e0a1 Uo λq1 q2=>?_;rotate_right)
  . cases q
  . have hx:=HW x q2;exact ⟨by rw [zf x hx];exact congrArg some q1.symm,hx⟩
 refine ⟨jX _ λx hx=>zf x (HW x hx),?_⟩;obtain build:∀l:List (Nat×Str×AV),(∀p∈l,p∈fs)->∃crs,c.SV F bs (l.map (·.2)) crs/\∀x r,(x,r)∈crs->∃a oc,(jL C scope).lookup x=some a/\F a=some oc/\oc.data=.cell (some r):=by
  intro l;induction l with
  | nil=>intro _;exact (ae [] (.nil) (λzz zz m=>nomatch m))
  | cons p l ih =>
    intro gK;refine e1a1 (ih λq hq=>gK q (.tail _ hq)) λcrs h1 h2=>?_;refine e3a4 (one p (gK p (.head _))) λa o r w1 w2 zz w3 w4=>?_;have hx:p.2.1∈fs.map (·.2.1):=dm (ae p (gK p (.head _)) rfl);refine (ae ((p.2.1,r)::crs) (.cons w4 h1) (λx r' hm=>?_))
    (refine aN (cu hm) (λe=>?_) (λhm=>?_))
    . clear hm;cases e;refine (b7 a o ?_ w2 w3);show (kb _ scope.names []).lookup p.2.1=_;rw [oJ _ scope.names p.2.1 (mem_of_lookupK (k1 _ hx))];exact congrArg some (by rw [w1];rfl)
    . exact h2 x r' hm
 refine e1a1 (build fs λzz m=>m) λcrs h1 h2=>?_;refine (ae crs ⟨h2,λx a e=>?_,λx y a e1 e2=>z.apart x y a (xG x a e1).1 (xG y a e2).1⟩ h1);refine e0a1 (xG x a e) λe1 hx=>?_;clear e;refine e1a1 (dS hx) λp hp Up=>?_;clear hx;obtain rfl:=Up;refine e3a4 (one p hp) λa' o r w1 w2 w3 w4 zz=>?_;refine rE (bo (aB (aq e1) w1)) ?_;exact (b7 o r w2 w3 w4)
theorem CodeRec.ja {code:Value}(h:xl F code q)(hs:∀b o,F b=some o->s.heap.get? b=some o):s.heap.CodeRec code q :=
 let ⟨cc,oc,vs,t,e1,e2,e3,e4⟩:=h;(jb cc oc vs t e1 (hs _ _ e2) e3 e4)
theorem sS (B:Base c mg mb)(hb:kK c mg)(z:St c C F bs S s)(site:Nat)(fs:List (Nat×Str×AV))
 (gt:C.env.code=.ref cc) (t:TabAt c cc P q) (hq:C.env.qual++name=q pos) (hf:C.env.func≠none) (hS:jQ C S fs) (eI:freeOk scope (fs.map (·.2.1))=true) (iR:c.aD site=⟨name,q pos,params,body,scope⟩) (k:K (.fn site (fs.map (·.2))) S) :
 WP c C A c.V (makeFunction name (C.env.qual++name) params body scope C.env [] [] [] pos fl) F bs s K X:=by
 obtain ⟨dZ,crs,hC,hV⟩:=z.sealed hf hS eI;obtain ⟨hFP,⟨o0,h0⟩,ps,hP,On,Ek⟩:=z.wd.old.tabs P q t.tab;have C':=z.Ej t.code;have bm:=z.Oo B hb t;have PX:=z.Pn B;have fin:∀(F₁:G) (O:Shared) (h':Heap) (tk:Tok) (fd:FuncData),(∀b o,F b=some o->F₁ b=some o)->Step C.own F bs s.heap F₁ bs O.heap->St c C F₁ bs S O->(∀b o,O.heap.get? b=some o->h'.get? b=some o)->O.heap.objs.size<=h'.objs.size->O.os=s.os->O.gens=s.gens ->
  fd.name=name->fd.qualname=q pos->fd.params=params->fd.body=body->fd.scope=scope->fd.globals=mainGlobals->fd.builtins=builtinsNs->fd.defaults=.none->fd.kwdefaults=.none->fd.closure=jL C scope ->
  xl F₁ fd.code (q pos) ->
  WV c C c.V F bs s.heap K (.ref h'.objs.size) {s with heap:=h'.push {cls:=.type "function",data:=.func fd},toks:=tk}:=by
  intro F₁ O h' tk fd gK st an hk hsz Jz hg e1 e2 e3 e4 e5 e6 e7 e8 e9 Oq Uq;obtain m:bf c F₁ bs O {s with heap:=h'.push {cls:=.type "function",data:=.func fd},toks:=tk}:=⟨λb o e=>bU _ (hk b o e),Jz.symm,hg.symm⟩
  obtain hn:O.heap.get? h'.objs.size=none:=gE hsz;obtain ha:(h'.push {cls:=.type "function",data:=.func fd}).get? h'.objs.size=some {cls:=.type "function",data:=.func fd}:=cT _ rfl;have hF:=an.jE hn;obtain ⟨cc,oc,vs,t,w1,w2,w3,w4⟩:=Uq;refine ⟨_,bs,.fn site (fs.map (·.2)),S,st.trans (.frozen m hF hn),an.ja m hn ha,?_,k⟩;obtain po:∀b o,F b=some o->plus F₁ h'.objs.size {cls:=.type "function",data:=.func fd} b=some o:=λb o e=>aW hF _ _ (gK b o e);refine .fn ⟨_,_,b9,rfl,rfl,rfl,(by rw [iR];exact e1),(by rw [iR];exact e2),(by rw [iR];exact e3),(by rw [iR];exact e4),(by rw [iR];exact e5),e6,e7,e8,e9,⟨cc,oc,vs,t,w1,aW hF _ _ w2,w3,by rw [e2];exact w4⟩,(by rw [Oq];exact hC.mono po)⟩ ?_;obtain this:=aU.mono (nb:=[]) po hV
  rwa [List.append_nil] at this
 cases Bs:codeAmong pos ps.toList with
 | some cv =>
   clear iR;refine e4a3 (Ek pos cv Bs) λa oc vs tk Ur w1 w2 w3=>?_;obtain rfl:=Ur;cases body with
   | stmts body =>refine makeFunction_hit dZ z.glob PX gt C' hP On Bs bm λUs doc h' Gl hk hsz=>?_;exact fin F s h' Gl _ (λzz zz e=>e) (.refl ..) z hk hsz rfl rfl rfl hq rfl rfl rfl rfl rfl rfl rfl rfl ⟨a,oc,vs,tk,rfl,w1,w2,w3⟩
   | expr body =>refine kla_makeFunctionHit dZ z.glob PX gt C' hP On Bs bm λUs h' Gl hk hsz=>?_;exact fin F s h' Gl _ (λzz zz e=>e) (.refl ..) z hk hsz rfl rfl rfl hq rfl rfl rfl rfl rfl rfl rfl rfl ⟨a,oc,vs,tk,rfl,w1,w2,w3⟩
 | none =>
   have miss:∀(c':Addr) (h':Heap),Heap.ExtBut P s.heap h'->s.heap.objs.size<=c'->c' < h'.objs.size->h'.CodeRec (.ref c') (C.env.qual++name)->h'.get? P=some (tabObj (ps++#[rawInt pos.line,rawInt pos.col,.ref c'])) ->
    ∃oc vs tk,St c C (plus F c' oc) bs S {s with heap:=h'}/\Step C.own F bs s.heap (plus F c' oc) bs h'/\oc.data=.fields vs/\vs[1]?=some (.str (q pos) tk):=by
    intro c' h' hx JF eX El uf;refine e4a3 El λc2 oc vs tk e1 e2 e3 e4=>?_;obtain rfl:=Value.ref.inj e1;replace e4:=hq▸e4;obtain hn:s.heap.get? c'=none:=gE JF;refine e0a1 (z.J4 (s':={s with heap:=h'}) B t hP (pos:=pos) hx hn e2 e3 e4 uf rfl rfl) λz' gM=>?_;exact (fF oc vs tk z' gM e3 e4)
   cases body with
   | stmts body =>refine makeFunction_K dZ z.glob PX gt C' hP On Bs (B.yc t).1 bm λc' Us doc h' Gl hx JF eX El uf=>?_;refine e3a3 (miss c' h' hx JF eX El uf) λoc vs tk z' gM e3 e4=>?_;exact fin _ {s with heap:=h'} h' Gl _ gM.sub gM z' (λzz zz e=>e) (bu _) rfl rfl rfl hq rfl rfl rfl rfl rfl rfl rfl rfl ⟨c',oc,vs,tk,rfl,b9,e3,e4⟩
   | expr body =>refine kla_makeFunction dZ z.glob PX gt C' hP On Bs (B.yc t).1 bm λc' Us h' Gl hx JF eX El uf=>?_;refine e3a3 (miss c' h' hx JF eX El uf) λoc vs tk z' gM e3 e4=>?_;exact fin _ {s with heap:=h'} h' Gl _ gM.sub gM z' (λzz zz e=>e) (bu _) rfl rfl rfl hq rfl rfl rfl rfl rfl rfl rfl rfl ⟨c',oc,vs,tk,rfl,b9,e3,e4⟩
theorem AH (B:Base c mg mb)(hb:kK c mg)(site:Nat){params:Arguments}{body:Expr}{scope:Scope}{pos:Pos}{cc P:Addr}{q:Pos->Str}(fs:List (Nat×Str×AV))
 (gt:C.env.code=.ref cc) (t:TabAt c cc P q) (hq:C.env.qual++"<lambda>"=q pos) (hf:C.env.func≠none) (hS:jQ C S fs) (eI:freeOk scope (fs.map (·.2.1))=true) (iR:c.aD site=⟨"<lambda>",q pos,params,.expr body,scope⟩) (k:K (.fn site (fs.map (·.2))) S)
 (Ut:defaultsOf params C.env=([],[]):=by rfl):Ev c C (.Lambda params body scope pos) S K X:=λA F bs s hA z =>
 kla_eval Ut (sS B hb z site fs gt t hq hf hS eI iR k)
theorem GK (B:Base c mg mb)(hb:kK c mg)(site:Nat)(i:Nat){name:Str}{params:Arguments}{body:fk}{scope:Scope}{pos:Pos}{cc P:Addr}{q:Pos->Str}{K:ip}(fs:List (Nat×Str×AV))
 (gt:C.env.code=.ref cc) (t:TabAt c cc P q) (hq:C.env.qual++name=q pos) (hf:C.env.func≠none) (hS:jQ C S fs) (eI:freeOk scope (fs.map (·.2.1))=true) (iR:c.aD site=⟨name,q pos,params,.stmts body,scope⟩)
 (hi:C.vars[i]?=some name) (bd:bG C (λzz=>none) name) (k:K .next (S.put i (.fn site (fs.map (·.2)))))
 (hd0:params.defaults=[]:=by rfl) (yd:params.kw_defaults=[]:=by rfl) (ha:annTrees params none C.env=[]:=by rfl):nH c C (.FunctionDef name params body [] none [] scope none name pos) S K X:=λA F bs s hA z=>by
 refine nestDef_K hd0 yd ha ?_;obtain hqn:qualnameIn C.env name name=C.env.qual++name:=by
  delta qualnameIn
  (refine aN bd (λq=>?_) (λUu=>?_);rotate_left;refine e0a1 Uu λq zz=>?_;rotate_right) <;> rw [q] <;> rfl
 refine rE hqn ?_;refine aQ (sS (A:=A) (X:=X) B hb z site fs gt t hq hf hS eI iR (K:=λv S'=>v=.fn site (fs.map (·.2))/\S'=S) ⟨rfl,rfl⟩) (λr O ⟨F₁,bs₁,v,Z,al,an,hv,e,e'⟩=>?_) λzz zz q=>q;clear z hS;subst e e';refine aQ (qb (A:=A) (X:=X) an hi bd hv (K:=λzz S'=>K .next S') k) (λzz ac Uv=>Uv.casesOn λaX ap zz aF am aJ zz k₂=>⟨aX,ap,.next,aF,al.trans am,aJ,rfl,k₂⟩) λx ac Uw=>Uw.casesOn λaX ap cls aF am aJ hx k₂=>⟨aX,ap,cls,aF,al.trans am,aJ,hx.back al.mono,k₂⟩
end
section
variable {c:bc}{C:Cx}{S:AS}{F F':G}{bs aE:aO}{s s':Shared}{A:Around}{mg mb:fV}{X:dU}{K:dC}{pos:Pos}{Kf:Frag}{Cl:Addr}
noncomputable abbrev sT (scope:Scope)(env:Env)(own:aO)(frames:List Env)(n:Nat)(vars:ag):Cx:=⟨{env with scope:=scope},own,frames,none,n,vars⟩
theorem sR.Ux {code:Value}{qual:Str}{n:Nat}{vars:ag}(f:sR C sc code qual n vars)(hv:vars.all (λx=>sc.names.lookup x==some .local||sc.names.lookup x==some .cell||sc.names.lookup x==some .free)=true) :
 ∃env own frames,C=sT sc env own frames n vars/\(∀(i:Nat) x,vars[i]?=some x->(sc.names.lookup x==some .free)=false->bG (sT sc env own frames n vars) (λzz=>none) x)/\gJ (sT sc env own frames n vars)/\env.code=code/\env.qual=qual/\env.func≠none:=by
 obtain ⟨env,own,frames,hd,n',vs⟩:=C;obtain e1:vs=vars:=f.vars;obtain e2:hd=none:=f.handled;obtain e3:n'=n:=f.n;subst e1 e2 e3;have e4:env={env with scope:=sc}:=by obtain this:env.scope=sc:=f.scope;rw [<-this]
 refine (jB env own frames (by delta sT;rw [<-e4]) (λi x hx ge=>?_) ?_ f.code f.qual f.func)
 . obtain this:=List.all_eq_true.mp hv x (ct hx);rw [ge,Bool.or_false] at this;rcases Bool.or_eq_true_iff.mp this with q | q
   . exact .inl (by show sc.names.lookup x=_;simpa using q)
   . obtain w:=f.cell x (by simpa using q);replace w:=e4▸w;exact w
 . refine e1a0 f.top λfr jp=>?_;replace jp:=e4▸jp;exact (ck fr jp)
noncomputable def uE (sc:Scope)(vars:ag):Bool:=vars.all (λx=>sc.names.lookup x==some .local||sc.names.lookup x==some .cell||sc.names.lookup x==some .free)
theorem jk.fn (B:Base c mg mb){K:AV->bg->Prop}(st:lR)(iR:c.aD site=st)(binds:eQ)(vars:ag)
 (hb:∀fd:FuncData,fd.params=st.params->fd.defaults=.none->fd.kwdefaults=.none->mM c fd args binds)
 (eI:ig st.scope (binds.map (·.1)) (caps.map (·.1)) vars=true) (be:uE st.scope vars=true)
 (h:∀env own frames,(∀(i:Nat) x,vars[i]?=some x->(st.scope.names.lookup x==some .free)=false->bG (sT st.scope env own frames n vars) (λzz=>none) x)->gJ (sT st.scope env own frames n vars) ->
  match st.body with
  | .stmts body=>Eg c (sT st.scope env own frames n vars) body ⟨dp 0 binds (gq binds.length caps),H⟩ K
  | .expr body=>Ev c (sT st.scope env own frames n vars) body ⟨dp 0 binds (gq binds.length caps),H⟩ (λv S'=>K v S'.heap) gX) :
 jk c (n+1) (.fn site caps) args H K:=by
 subst iR;intro A F bs s r rs fr hh hd hu jp ms wd hf hv;refine e2a2 hf.inv λa crs Uy o58 Oh=>?_;obtain ⟨o,fd,h0,c1,c2,c3,e1,e2,e3,e4,e5,e6,e7,e8,e9,hc,dZ⟩:=o58;refine Uy▸?_;refine Ei B (binds:=binds) (caps:=caps) vars hh hd hu jp ms (wd.sub _ _ h0) c3 (CodeRec.ja hc wd.sub) e6 e7 wd hv dZ Oh (hb fd e3 e8 e9) (by refine (aq e5)▸?_;exact eI) ?_;cases Jw:(c.aD site).body with
 | stmts body =>refine .inl (ae body (by rw [e4,Jw]) (λC yb=>?_));rw [e5] at yb;refine e3a3 (yb.Ux be) λenv own frames Uz k1 k2 zz=>?_;obtain rfl:=Uz;have:=h env own frames k1 k2;rw [Jw] at this;exact this
 | expr body =>refine .inr (ae body (by rw [e4,Jw]) (λC yb=>?_));rw [e5] at yb;refine e3a3 (yb.Ux be) λenv own frames UA k1 k2 zz=>?_;obtain rfl:=UA;have:=h env own frames k1 k2;rw [Jw] at this;exact this
theorem jk.XM (B:Base c mg mb){K:AV->bg->Prop}(st:lR)(iR:c.aD site=st)(names cnames vars:ag)(lc:fi)
 (hb:Plain st.params .none names args.length) (hlen:names.length=args.length) (hc:caps.map (·.1)=cnames) (Gv:dp 0 (names.zip args) (gq (names.zip args).length caps)=lc)
 (eI:ig st.scope names cnames vars=true) (be:uE st.scope vars=true)
 (h:∀env own frames,(∀(i:Nat) x,vars[i]?=some x->(st.scope.names.lookup x==some .free)=false->bG (sT st.scope env own frames n vars) (λzz=>none) x)->gJ (sT st.scope env own frames n vars) ->
  match st.body with
  | .stmts body=>Eg c (sT st.scope env own frames n vars) body ⟨lc,H⟩ K
  | .expr body=>Ev c (sT st.scope env own frames n vars) body ⟨lc,H⟩ (λv S'=>K v S'.heap) gX) :
 jk c (n+1) (.fn site caps) args H K:=by
 subst hc Gv;exact jk.fn B st iR (names.zip args) vars (λzz h1 h2 h3=>hb.bind h1 h2 h3) (by rw [List.map_fst_zip (Nat.le_of_eq hlen)];exact eI) be h
inductive Ot (c:bc)(fa:Addr)(f:kE)(dV:Value)(qn:Str)(cc:Addr):Prop
 | mk (o:Obj) (fd:FuncData) (h1:c.h₀.get? fa=some o) (h2:o.cls≠.none) (h3:o.data=.func fd) (h4:fd.params=f.params) (h5:fd.body=.stmts f.body) (h6:fd.scope=f.scope) (h7:fd.globals=mainGlobals) (h8:fd.builtins=builtinsNs) (h9:fd.closure=[]) (Lg:fd.defaults=dV) (NV:fd.kwdefaults=.none) (NW:fd.qualname=qn) (UB:fd.code=.ref cc)
   (XN:∃oc vs t,c.h₀.get? cc=some oc/\oc.cls≠.none/\oc.data=.fields vs/\vs[1]?=some (.str fd.qualname t))
structure l7 (c:bc)(fa:Addr)(f:kE)(dV:Value)(qn:Str)(cc P:Addr)(q:Pos->Str):Prop where
 at_:Ot c fa f dV qn cc
 tab:TabAt c cc P q
theorem l7.call (B:Base c mg mb)(F:l7 c fa f dV qn cc P q){K:AV->bg->Prop}(binds:eQ)(vars:ag)
 (hb:∀fd:FuncData,fd.params=f.params->fd.defaults=dV->fd.kwdefaults=.none->mM c fd args binds)
 (eI:ig f.scope (binds.map (·.1)) [] vars=true) (be:uE f.scope vars=true)
 (h:∀env own frames,(∀(i:Nat) x,vars[i]?=some x->(f.scope.names.lookup x==some .free)=false->bG (sT f.scope env own frames n vars) (λzz=>none) x)->gJ (sT f.scope env own frames n vars)->env.code=.ref cc->env.qual=qn++".<locals>."->env.func≠none ->
  Eg c (sT f.scope env own frames n vars) f.body ⟨dp 0 binds [],H⟩ K):bz c (n+1) (.ref fa) args H K:=by
 intro A F' bs s rs fr hh hd hu jp ms wd hv;obtain ⟨o,fd,h1,h2,h3,h4,h5,h6,h7,h8,h9,Lg,NV,NW,UB,oc,vs,t,XN,h15,h16,h17⟩:=F.at_;obtain zX:∀b o,c.h₀.get? b=some o->o.cls≠.none->s.heap.get? b=some o:=λb o e q=>wd.sub _ _ (wd.base _ _ e (.inl q));refine Ei B (binds:=binds) (caps:=[]) (crs:=[]) vars hh hd hu jp ms (zX _ _ h1 h2) h3 (jb cc oc vs t UB (zX _ _ XN h15) h16 h17) h7 h8 wd hv ⟨λzz zz m=>(nomatch m),λx a e=>(by replace e:=h9▸e;cases e),λx y a e=>(by rw [h9] at e;cases e)⟩ .nil (hb fd h4 Lg NV) (by rw [h6];exact eI) (.inl (ae f.body h5 (λC yb=>?_)));replace yb:=h6▸yb;refine e3a0 (yb.Ux be) λenv own frames XO=>?_;refine e0a5 XO λUC k1 k2 k3 k4 k5=>?_;clear XO;refine UC▸?_;exact h env own frames k1 k2 (k3.trans UB) (by rw [k4,NW]) k5
theorem l7.en (B:Base c mg mb)(F:l7 c fa f dV qn cc P q){K:AV->bg->Prop}(names vars:ag)(lc:fi)
 (hb:Plain f.params dV names args.length) (hlen:names.length=args.length) (Gv:dp 0 (names.zip args) []=lc)
 (eI:ig f.scope names [] vars=true) (be:uE f.scope vars=true)
 (h:∀env own frames,(∀(i:Nat) x,vars[i]?=some x->(f.scope.names.lookup x==some .free)=false->bG (sT f.scope env own frames n vars) (λzz=>none) x)->gJ (sT f.scope env own frames n vars)->env.code=.ref cc->env.qual=qn++".<locals>."->env.func≠none ->
  Eg c (sT f.scope env own frames n vars) f.body ⟨lc,H⟩ K):bz c (n+1) (.ref fa) args H K:=by
 subst Gv;exact F.call B (names.zip args) vars (λzz h1 h2 h3=>hb.bind h1 h2 h3) (by rw [List.map_fst_zip (Nat.le_of_eq hlen)];exact eI) be h
theorem Em (hA:jW C A)(hh:C.handled=none)(hn:n<=C.n)(z:St c C F bs S s)(hf:c.V F bs fv rf)(hv:c.Vs F bs args rs)
 (h:jk c n fv args S.heap (λv H'=>K v {S with heap:=H'})):WP c C A c.V (call rf rs) F bs s K X:=by
 refine wpAny_call ?_;obtain hd:=hA.depth;obtain hu:=hA.units;refine codeAny_mono (h A F bs s rf rs C.frames (hA.handled.trans hh) (tj hd hn) (ti hu hn) hA.frames z.frames z.wd hf hv) λr s' ⟨F',aE,v,H',rv,own,e,gW,st,wd,lG,k⟩=>?_;refine e▸?_;exact ⟨F',aE,v,{S with heap:=H'},st.widen λa ha=>.inr (gW a ha),z.after st gW wd,lG,k⟩
theorem wD (B:d8 c mg mb Kf)(dZ:iN Kf Cl=true)(sI:(findIn Kf (.ref Cl) name==some none)=true)(z:St c C F bs S s)(hi:gh S k d Cl kvs)(ho:c.V F bs (.ref k) ro)(hg:bB kvs name=some v)(Do:∀u,v≠.raw u)(kk:K v S) :
 WP c C A c.V (getAttr ro name) F bs s K X:=qy B dZ sI z hi ho hg Do kk
inductive J6 (c:bc)(C:Cx)(Cl:Addr)(name:Str)(n:Nat)(pos:Pos)(args:dM)(K:dC)(X:dU)(ov:AV)(Z:AS):Prop
 | mk (k d:Nat) (kvs:eQ) (site:Nat) (caps:eQ) (h1:ov=.ref k) (h2:gh Z k d Cl kvs) (h3:bB kvs name=some (.fn site caps)) (h4:pO c C pos args Z (λvs aF=>jk c n (.fn site caps) vs aF.heap (CK K aF)) X)
theorem wF (B:d8 c mg mb Kf){o:Expr}{name:Str}{apos:Pos}{args:dM}{n:Nat}(Cl:Addr)(dZ:iN Kf Cl=true)(sI:(findIn Kf (.ref Cl) name==some none)=true)(hh:C.handled=none)(hn:n<=C.n)
 (h:Ev c C o S (J6 c C Cl name n pos args K X) X)
 (ii:attributeBase o name C.env (eval o C.env)=eval o C.env:=by rfl)
 (qi:methodCallForm (args.length+([]:List Keyword).length) (backTo pos (starEach args C.env)) (backToKw pos (keywordEach [] C.env))=true:=by rfl)
 (hline:(apos.endLine==pos.line)=true:=by rfl)
 (hl:pk (backTo pos (starEach args C.env))=false:=by rfl):Ev c C (.Call (.Attribute o name apos) args [] pos) S K X:=by
 intro A F bs s hA z;have FI:=dZ;simp only [iN,cZ,beq_iff_eq] at FI;refine e0a1 FI λPY g5=>?_;refine e0a1 PY λXQ g4=>?_;clear PY;refine e0a1 XQ λXR g3=>?_;clear XQ;refine e0a1 XR λg1 g2=>?_;clear XR;simp only [arm_eval_Call,ii];refine ah (aQ (h A F bs s hA z) (λr O ⟨F₁,bs₁,ov,Z,al,an,lW,k,d,kvs,site,caps,e,hi,hg,k₁⟩=>?_) λzz zz e=>e);subst e;obtain ⟨x,dx,rs,es,m,rfl,_,_,I,_,hk,hp,mt,_⟩:=an.inst hi lW;refine ah (wpAny_standAt ?_);obtain Ai:methodCallPos true o C.env apos pos=pure pos:=by delta methodCallPos;simp [hline]
 delta methodCall;refine (aq qi)▸?_;refine ah (wpAny_holding (method_usual (an.v3 B) I g1 g2 (beq_iff_eq.mp sI) rfl ?_));have ga:=wD (A:=A) (X:=X) (K:=λv S'=>v=.fn site caps/\S'=Z) B dZ sI an hi lW hg (λu q=>by cases q) ⟨rfl,rfl⟩;refine aQ ga (λfr ac ⟨aX,ap,fv,aF,am,aJ,Fp,e,e'⟩=>?_) λx ac q55=>q55.casesOn λaX ap cls aF am aJ hx k₂=>⟨aX,ap,cls,aF,al.trans am,aJ,hx.back al.mono,k₂⟩
 clear ga hi an;subst e e';refine ah (wpAny_of_eq Ai ?_);have xR:=al.trans am;obtain ⟨a,oF,fd,rfl,q1,q2⟩:∃a oF fd,fr=.ref a/\aX a=some oF/\oF.data=.func fd:=by refine e2a2 Fp.inv λzz zz UD o54 zz=>?_;obtain ⟨_,_,h0,_,_,c3,_⟩:=o54;refine UD▸?_;exact (gw _ _ _ rfl h0 c3)
 refine Calls.callWith_function (o:=oF) (fd:=fd) ?_;refine aQ (ic hA aJ (k₁) hl) (λa aP XS=>XS.casesOn λbi aK vs aY aA a6 UE=>e0a1 UE λpt be bn=>?_) (λx aP q57=>q57.casesOn λbi aK cls aY aA a6 hx bn=>⟨bi,aK,cls,aY,xR.trans aA,a6,hx.back xR.mono,bn⟩);obtain ⟨ps,kw⟩:=a;have tY:kw=[]:=pt;clear pt XS;refine tY▸?_;refine ⟨⟨a6.wd.sub _ _ (aA.sub _ _ q1),q2⟩,?_⟩;obtain Ba:=xR.trans aA;refine aQ (Em (X:=X) (s:=aP) (rs:=ps) hA hh hn a6 (aA.V Fp) be bn) (λv ch q58=>q58.casesOn λec ca v' co ce cr En iZ=>⟨ec,ca,v',co,Ba.trans ce,cr,En,iZ⟩) λx ch q59=>q59.casesOn λec ca v' co ce cr En iZ=>⟨ec,ca,v',co,Ba.trans ce,cr,En.back Ba.mono,iZ⟩
end
end Mine.Internal
namespace Mine.Internal
open PySem
namespace Fm
theorem slot_ci_next:Slot "callable_iterator" "__next__" "callable_iterator.__next__" :=
 .of (owner:="callable_iterator") (n:="__next__") (rfl) (rfl) (rfl) (rfl)
  (by first | exact .inl (rfl) | exact .inr (rfl)) (rfl)
theorem slot_ci_iter:Slot "callable_iterator" "__iter__" "callable_iterator.__iter__" :=
 .of (owner:="callable_iterator") (n:="__iter__") (rfl) (rfl) (rfl) (rfl)
  (by first | exact .inl (rfl) | exact .inr (rfl)) (rfl)
theorem entry_ci_next:entryFor table "callable_iterator.__next__"=some Builtin.«callable_iterator.__next__»:=entryFor_of_tree (by kernel_rfl)
theorem entry_ci_iter:entryFor table "callable_iterator.__iter__"=some Builtin.«dict_keyiterator.__iter__» :=
 entryFor_alias (id':="dict_keyiterator.__iter__") (by kernel_rfl) rfl (by decide +kernel) (by kernel_rfl)
theorem args_ci_next (a:Value):argsOk "callable_iterator.__next__" ⟨[a],[]⟩:=by unfold argsOk;kernel_rfl
theorem args_ci_iter (a:Value):argsOk "callable_iterator.__iter__" ⟨[a],[]⟩:=by unfold argsOk;kernel_rfl
theorem slot_m_call:Slot "method" "__call__" "method.__call__" :=
 .of (owner:="method") (n:="__call__") (rfl) (rfl) (rfl) (rfl)
  (by first | exact .inl (rfl) | exact .inr (rfl)) (rfl)
theorem args_iter2 (a b:Value):argsOk "iter" ⟨[a,b],[]⟩:=by unfold argsOk;kernel_rfl
end Fm
end Mine.Internal
namespace Mine.Internal
open PySem PyProof.Rows PySem.W
section
variable {prog:Program}{w:World}{A:Around}{E:sA}{s:Shared}
theorem l8 (hc:codeAny (model prog w) A (.call f ⟨pos,[]⟩) (λr s'=>match r with | .ok (.ret v)=>Q v s' | .ok _=>False | .error e=>E e s') s):wpAny (model prog w) A (callBorrowed f pos) Q E s:=λΓ p Xh=>by
 refine wpCode_mono (λr s' hr=>?_) (hc _ p rfl (Xh.enter _ none p (by intro x;exact bE x)));cases r with
 | error e=>exact hr
 | ok f=>cases f <;> exact hr
noncomputable abbrev i7 (x y:Value)(b:Bool):Obj:={cls:=.type "callable_iterator",data:=.fields #[x,y,.bool b]}
theorem AI (ho:s.heap.get? it=some (i7 x y b))(hQ:Q (.ref it) s):wpAny (model prog w) A (pyIter (.ref it)) Q E s:=by
 obtain hT:s.TypeIs (.ref it) "callable_iterator":=(ae _ ho rfl)
 refine wpAny_pyIter_slot hT Fm.slot_ci_iter (wpAny_call_entry Fm.slot_ci_iter hT Fm.entry_ci_iter ?_ (Fm.args_ci_iter _));exact aM ⟨_,rfl,("callable_iterator"),_,hT,Fm.slot_ci_next.lookup,hQ⟩
theorem qU (hh:A.handled=none)(h:∀h' e,Heap.NewExc s.heap h' e "StopIteration"->E (.ref e) {s with heap:=h'}):wpAny (model prog w) A (Builtin.SmallTypes.stopIteration:Sem α) Q E s:=by refine ah ?_;refine ah (wpAny_newObj_type ?_ (by size_fits));refine ah (m:=firstArgMember _ _) (wpAny_of_eq (a:=Value.none) (by first | rfl | (rfl;rfl)) ?_);refine wpAny_newObj_type ?_ (by size_fits);refine ah (wpAny_handled ?_);refine rE hh ?_;refine ah (aM (wpAny_throw (h _ _ ⟨λb o e=>bU _ (bU _ e),gE (by simp only [fh];exact Nat.le_succ _),_,.ref s.heap.objs.size,cT _ rfl,rfl,rfl⟩)))
theorem sU (hq:s.heap.get? q=some (methodObj (.ref f) self))(hf:s.heap.get? f=some o)(hd:o.data=.func fd)(h:Q true s):wpAny (model prog w) A (borrowsExactly (.ref q)) Q E s:=by refine ah (wpAny_load hq ?_);refine ah (wpAny_load hf ?_);refine rE hd ?_;exact aM h
inductive Ou (it f:Addr)(o:Obj)(snt:Str)(Q:tX->mq)(r:Except Value Flow)(s':Shared):Prop
 | mk (x:Str) (t:Tok) (q':Addr) (UF:Tok) (Os:Value) (h1:r=.ok (.ret (.str x t))) (h2:s'.heap.get? it=some (i7 (.ref q') (.str snt UF) false)) (h3:s'.heap.get? q'=some (methodObj (.ref f) Os)) (h4:s'.heap.get? f=some o)
   (h5:(snt==x)=false/\Q (some (.str x t)) s'\/(snt==x)=true/\∀h',(∀b,b≠it->∀ob,s'.heap.get? b=some ob->h'.get? b=some ob)->h'.get? it=some (i7 .none .none true)->Q none {s' with heap:=h'})
theorem GL (hh:A.handled=none)(ho:s.heap.get? it=some (i7 (.ref q) (.str snt ts) false))
 (hq:s.heap.get? q=some (methodObj (.ref f) self)) (hf:s.heap.get? f=some o) (hd:o.data=.func fd)
 (hc:codeAny (model prog w) A.in1 (.call (.ref f) ⟨[self],[]⟩) (Ou it f o snt Q) s):wpAny (model prog w) A (pyNext (.ref it)) Q E s:=by
 obtain hT:s.TypeIs (.ref it) "callable_iterator":=(ae _ ho rfl)
 refine ah (wpAny_attempt (wpAny_callSpecial?_slot (name:=Str.ofString "__next__") hT Fm.slot_ci_next
  (wpAny_call_entry Fm.slot_ci_next hT Fm.entry_ci_next ?_ (Fm.args_ci_next _))))
 refine ah (m:=slotArgs _ _ _) (aM ?_);refine ah (wpAny_field ho rfl (x:=.bool false) rfl ?_);refine ah (wpAny_field ho rfl (x:=.ref q) rfl (ah (wpAny_attempt ?_)));refine ah (sU hq hf hd ?_);refine l8 (method_call hq (codeAny_mono hc λr s' Ov=>Ov.casesOn λx t q ts self e u3 Lm Pt k=>?_));clear Ov;subst e;refine ah (wpAny_field u3 rfl (x:=.bool false) rfl ?_);refine ah (wpAny_field u3 rfl (x:=.str snt ts) rfl ?_);refine ah (wpAny_holding (eqBool_str ?_))
 (refine aN k (λUG=>?_) (λUH=>?_);refine e0a1 UG λe k=>?_;rotate_left;refine e0a1 UH λe k=>?_;rotate_right)
 . refine rE e ?_;exact aM (ae _ rfl (aM k))
 . refine rE e ?_;refine ah (wpAny_rule (ah ?_));refine ah (wpAny_field u3 rfl (x:=.ref q) rfl (ah ?_));refine ah (sU Lm Pt hd ?_);refine aM ?_;obtain g0:=hK (Obj.mapFields (·.setIfInBounds 0 Value.none)) u3 (Obj.isFreed_of_fields (Obj.data_mapFields rfl _));generalize oM:({s' with heap:=s'.heap.update it (Obj.mapFields (·.setIfInBounds 0 Value.none))}:Shared)=s1;obtain e1:s1.heap.get? it=some (i7 .none (.str snt ts) false):=by refine oM▸?_;refine g0.trans ?_;simp [Obj.mapFields]
   refine ah (wpAny_setField u3 rfl (by simp) ?_);refine rE oM ?_;obtain g1:=hK (Obj.mapFields (·.setIfInBounds 1 Value.none)) e1 (Obj.isFreed_of_fields (Obj.data_mapFields rfl _));generalize po:({s1 with heap:=s1.heap.update it (Obj.mapFields (·.setIfInBounds 1 Value.none))}:Shared)=s2;obtain e2:s2.heap.get? it=some (i7 .none .none false):=by rw [<-po];refine g1.trans ?_;simp [Obj.mapFields]
   refine ah (wpAny_setField e1 rfl (by simp) ?_);rw [po];obtain g2:=hK (Obj.mapFields (·.setIfInBounds 2 (Value.bool true))) e2 (Obj.isFreed_of_fields (Obj.data_mapFields rfl _));generalize r6:({s2 with heap:=s2.heap.update it (Obj.mapFields (·.setIfInBounds 2 (Value.bool true)))}:Shared)=s3;obtain e3:s3.heap.get? it=some (i7 .none .none true):=by rw [<-r6];refine g2.trans ?_;simp [Obj.mapFields]
   refine wpAny_setField e2 rfl (Nat.le_of_ble_eq_true rfl) ?_;rw [r6];obtain same:∀b,b≠it->∀ob,s'.heap.get? b=some ob->s3.heap.get? b=some ob:=λb hb ob e=>by rw [<-r6];refine (Heap.get?_update_ne _ _ _ _ hb).trans ?_;rw [<-po];refine (Heap.get?_update_ne _ _ _ _ hb).trans ?_;rw [<-oM];exact (Heap.get?_update_ne _ _ _ _ hb).trans e
   obtain rest:s3={s' with heap:=s3.heap}:=by rw [<-r6,<-po,<-oM]
   refine qU (A:=A.in1) hh λh' e x=>?_;refine e2a2 x.there λob t' w1 w2 w3=>?_;refine ah (wpAny_isInstance (T:="StopIteration") (b:=true) (ae _ w1 w2) isSubtype_stop ?_);refine aM ?_;rw [rest];exact k h' (λb hb ob e=>x.keeps _ _ (same b hb ob e)) (x.keeps _ _ e3)
theorem wG (hh:A.handled=none)(ho:s.heap.get? it=some (i7 x y true))(h:∀h',(∀b ob,s.heap.get? b=some ob->h'.get? b=some ob)->Q none {s with heap:=h'}):wpAny (model prog w) A (pyNext (.ref it)) Q E s:=by
 obtain hT:s.TypeIs (.ref it) "callable_iterator":=(ae _ ho rfl)
 refine ah (wpAny_attempt (wpAny_callSpecial?_slot (name:=Str.ofString "__next__") hT Fm.slot_ci_next
  (wpAny_call_entry Fm.slot_ci_next hT Fm.entry_ci_next ?_ (Fm.args_ci_next _))))
 refine ah (m:=slotArgs _ _ _) (aM ?_);refine ah (wpAny_field ho rfl (x:=.bool true) rfl ?_);refine ah (wpAny_rule (ah (qU (A:=A.in1) hh λh' e x=>?_)));refine e2a2 x.there λob t' w1 w2 w3=>?_;refine ah (wpAny_isInstance (T:="StopIteration") (b:=true) (ae _ w1 w2) isSubtype_stop ?_);exact aM (h h' x.keeps)
end
section
variable {c:bc}{C:Cx}{S:AS}{F F':G}{bs aE:aO}{s s':Shared}{A:Around}{mg mb:fV}{X:dU}{K:dC}{pos:Pos}
theorem GN (k:K (.ref S.heap.length) {S with heap:=S.heap++[.eP (some (.bm "method" f self,.str x))]}):dD c C (.builtin "iter") [.bm "method" f self,.str x] S K X:=by
 intro A F bs s rs hA z hv;refine e2a2 hv.inv λzz zz FV h1 h2=>?_;refine rE FV ?_;refine e2a2 h2.inv λzz zz I5 h3 h4=>?_;refine rE I5 ?_;refine rE h4.inv ?_;clear h2;refine e1a0 h3.inv λtk I4=>?_;refine rE I4 ?_;clear hv;refine e2a2 h1.inv λq oS FS kZ sO=>?_;clear FV;obtain rfl:=FS;refine Calls.call_function_entry (rfl) (rfl) kdk_entry_iter (Fm.args_iter2 _ _) ?_;refine ah (m:=someArgs "iter" 1 2 _) (aM ?_);refine ah (wpAny_specialOf (ae _ (z.wd.sub _ _ kZ) rfl) Fm.slot_m_call.lookup ?_);refine ah (wpAny_rule (ah (wpAny_newObj_type (aM (ae _ rfl ?_)) (by size_fits))));obtain mv:bf c F bs s {s with heap:=s.heap.push (i7 (.ref q) (.str x tk) false)}:=⟨λb o e=>bU _ e,rfl,rfl⟩
 refine z.Gp (o:=.eP (some (.bm "method" f self,.str x))) mv (St.fm s) (cT _ rfl) ?_ k;exact (b7 _ _ (cU.mono (λzz zz e=>e) h1) (.str x tk) (cT _ rfl))
def HX (c:bc)(C:Cx)(x:Str)(px:Pos)(body:fk)(K:ip)(n:Nat)(f:Addr)(self:AV)(snt:Str)(k:Nat)(I:CF)(m:Nat)(S:AS):Prop :=
 (S.heap[k]?=some (.eP none)/\K .next S) \/
 (S.heap[k]?=some (.eP (some (.bm "method" (.ref f) self,.str snt)))/\bz c n (.ref f) [self] S.heap (λv H'=>∃y,v=.str y/\H'[k]?=some (.eP (some (.bm "method" (.ref f) self,.str snt))) /\
  ((snt==y)=true/\K .next {S with heap:=H'.set k (.eP none)}\/(snt==y)=false/\xc c C (.Name x px) (.str y) {S with heap:=H'} (LK c C body (mQ (qA I m) K) gX) gX)))
@[reducible] def Ow (c:bc) (C:Cx) (F:G) (bs:aO) (h₀:Heap) (K:ip) (J:Nat->mq) (n:Nat):Flow->mq:=λf s=>match f with
 | .next=>∃m,m < n/\J m s
 | .cont=>∃m,m < n/\J m s
 | .brk=>WV c C (jH c) F bs h₀ K .next s
 | .ret v=>WV c C (jH c) F bs h₀ K (.ret v) s
def PZ:sA:=λzz zz=>False
@[reducible] def Ox (c:bc) (C:Cx) (A:Around) (t:Expr) (it:Addr) (body:fk) (Q:Flow->mq) (v:Value):mq:=λO =>
 wpAny (model c.prog c.w) A (letOwnedTupleGo t (.ref it) v) (λzz ac=>wpAny (model c.prog c.w) A (assign t C.env v) (λzz aP=>wpAny (model c.prog c.w) A (execs body C.env) Q PZ aP) PZ ac) PZ O
@[reducible] def Oy (c:bc) (C:Cx) (A:Around) (t:Expr) (it:Addr) (body:fk) (F:G) (bs:aO) (h₀:Heap) (K:ip) (J:Nat->mq) (n:Nat):tX->mq:=λr O=>match r with
 | none=>WV c C (jH c) F bs h₀ K .next O
 | some v=>Ox c C A t it body (Ow c C F bs h₀ K J n) v O
theorem J7 {K:ip}(J:Nat->mq)(n:Nat)(h:J n s)
 (turn:∀n ac,J n ac->wpAny (model c.prog c.w) (A.mark none) (pyNext (.ref it)) (Oy c C (A.mark none) t it body F bs h₀ K J n) PZ ac) :
 wpAny (model c.prog c.w) A (runOwn (.forLoop t (.ref it) body [] C.env) C.env) (WV c C (jH c) F bs h₀ K) (WX c C F bs h₀ gX) s:=by
 refine wpAny_runOwn (codeAny_forLoop_any J (λn ac hJ=>aQ (turn n ac hJ) (λr O q=>?_) λzz zz e=>e.elim) n h) (by intro e;exact bE e);cases r with
 | none=>exact wpAny_execs_nil q
 | some v=>exact aQ q (λzz zz q=>aQ q (λzz zz q=>aQ q (λf zz q=>by cases f <;> exact q) λzz zz e=>e.elim) λzz zz e=>e.elim) λzz zz e=>e.elim
inductive Oz (c:bc)(C:Cx)(F:G)(bs:aO)(h₀:Heap)(k:Nat)(it:Addr)(I:CF)(m:Nat)(s':Shared):Prop
 | mk (F':G) (aE:aO) (S':AS) (st:Step C.own F bs h₀ F' aE s'.heap) (z:St c C F' aE S' s') (hit:aE[k]?=some it) (hI:I m S')
theorem qV {x:Str}{px:Pos}{iter:Expr}{body:fk}{K:ip}{n:Nat}{f:Addr}{self:AV}{snt:Str}(hh:C.handled=none)(hn:n+1<=C.n)(hf:FnAt c f)
 (h:Ev c C iter S (λv Z=>∃k,v=.ref k/\(∃o,Z.heap[k]?=some (.eP o))/\∃I m,I m Z/\∀m S',I m S'->HX c C x px body K n f self snt k I m S') gX)
 (hs:∀x,foldedSetIterable iter C.env x=pure x:=by intro _;rfl):nH c C (.For (.Name x px) iter body [] pos) S K gX:=by
 intro A F bs s hA z
 skip
 refine e2a2 hf λof fd Tf PM hf3=>?_;refine WP.standAt ?_;refine ah (aQ (h A F bs s hA z) (λxv O ⟨F₁,bs₁,v,Z,al,an,hv,k,e,⟨o,ho⟩,I,m,hI,turn⟩=>?_) λzz zz e=>e);subst e;rw [hs];refine e1a3 (an.gZ hv ho) λit I3 hit hr hF=>?_;refine rE I3 ?_;refine ah (aM (ah (wpAny_standAt (ah (wpAny_holding ?_)))));obtain obj:∃x y b,O.heap.get? it=some (i7 x y b):=by
  cases o with
  | none=>refine e2a0 hr λx y e=>?_;exact ⟨x,y,true,e⟩
  | some o=>refine e2a2 hr λx y zz zz e=>?_;exact ⟨x,y,false,e⟩
 refine e3a0 obj λox oy ob kZ=>?_;refine AI kZ ?_;refine J7 (Oz c C F bs s.heap k it I) m ⟨F₁,bs₁,Z,al,an,hit,hI⟩ ?_;intro m ac o1;obtain ⟨aX,ap,aF,am,aJ,uF,sB⟩:=o1
 (refine aN (turn m aF sB) (λJ8=>?_) (λJ9=>?_);refine e0a1 J8 λhk kk=>?_;rotate_left;refine e0a1 J9 λhk hc=>?_;rotate_right)
 . refine e0a1 (aJ.wd.obj k it _ uF hk) λFX zz=>?_;refine e2a0 FX λx' y' e'=>?_;clear FX;refine wG (hA.handled.trans hh) e' λh' keep=>?_;obtain mv:bf c aX ap ac {ac with heap:=h'}:=⟨keep,rfl,rfl⟩
   exact ⟨aX,ap,.next,aF,am.trans (.keep mv),aJ.keep mv,rfl,kk⟩
 . refine e0a1 (aJ.wd.obj k it _ uF hk) λOA FO=>?_;refine e2a2 OA λx' y' kr l9 e'=>?_;clear OA;refine e1a0 l9.inv λts UI=>?_;obtain rfl:=UI;refine e2a2 kr.inv λq oS UJ kZ sO=>?_;obtain rfl:=UJ;obtain XT:∀(F':G) (aE:aO) (H':bg) (s':Shared),Wd c F' aE H' s'->s'.heap.get? f=some of:=λF' aE H' s' w=>w.sub _ _ (w.base _ _ Tf (.inl PM));refine GL (hA.handled.trans hh) e' (aJ.wd.sub _ _ kZ) (XT _ _ _ _ aJ.wd) hf3 ?_;obtain hd:=hA.depth;obtain hu:=hA.units;refine codeAny_mono (hc A.in1 aX ap ac [oS] C.frames (hA.handled.trans hh) (by skip;exact Nat.lt_trans (gD hn _) hd) (by show A.units+1+20*n < _;exact Cp hn hu) hA.frames aJ.frames aJ.wd (.cons sO .nil)) λr aP ⟨bi,aK,v,H',rv,own,e,gW,aA,GM,iK,y,ev,HY,kk⟩=>?_;subst e ev;refine e1a0 iK.inv λty UK=>?_;refine rE UK ?_;refine e1a0 aA.fresh λnb UL=>?_;clear iK;obtain rfl:=UL;have qW:(ap++nb)[k]?=some it:=by refine rE (eN (bN uF).1) ?_;exact uF
   refine e0a1 (GM.obj k it _ qW HY) λFW XU=>?_;refine e2a2 FW λaai D6 HZ oY nM=>?_;clear FW;have a6:=aJ.after aA gW GM;have Ba:=am.trans (aA.widen λa ha=>.inr (gW a ha));refine e1a0 oY.inv λOB UM=>?_;clear oY;obtain rfl:=UM;refine e2a2 HZ.inv λUN Eo UO Ka OC=>?_;clear HZ;obtain rfl:=UO;refine ⟨y,ty,UN,OB,Eo,rfl,nM,GM.sub _ _ Ka,XT _ _ _ _ GM,?_⟩
   (refine aN kk (λKb=>?_) (λKc=>?_);refine e0a1 Kb λe kk=>?_;rotate_left;refine e0a1 Kc λe kk=>?_;rotate_right)
   . refine .inr ⟨e,λh' same e4=>?_⟩;obtain T:fG it aP {aP with heap:=h'}:=⟨λb q o e=>same b q o e,(ck _ e4),rfl,rfl⟩
     exact ⟨bi,_,.next,_,Ba.trans (.upd T (.inl (ct qW))),a6.upd T qW HY (by simp) (o':=.eP none) (xk _ _ e4),rfl,kk⟩
   . refine .inl ⟨e,?_⟩;refine qg hA a6 (.str y ty) (K:=LK c C body (mQ (qA I m) K) gX) kk λec ca co ch ce cr iZ=>?_;refine aQ (iZ A ec ca ch hA cr) (λfl dW OD=>OD.casesOn λfH eh fv fY eR fZ qz j7=>?_) (λzz zz UP=>UP.casesOn λzz zz zz zz zz zz zz q=>q.elim);have FQ:=(Ba.trans ce).trans eR;obtain Ep:eh[k]?=some it:=by refine e1a0 ((ce.trans eR).fresh) λwS e5=>?_;refine (aq e5)▸(aq (eN (bN qW).1))▸?_;exact qW
     cases fv with
     | next=>subst qz;obtain ⟨m',hm,Ao⟩:=j7;exact (ae m' hm ⟨fH,eh,fY,FQ,fZ,Ep,Ao⟩)
     | cont=>subst qz;obtain ⟨m',hm,Ao⟩:=j7;exact (ae m' hm ⟨fH,eh,fY,FQ,fZ,Ep,Ao⟩)
     | brk=>subst qz;exact ⟨fH,eh,.next,fY,FQ,fZ,rfl,j7⟩
     | ret u=>clear OD;refine e1a1 qz λru UQ Rd=>?_;clear qz;obtain rfl:=UQ;exact ⟨fH,eh,.ret u,fY,FQ,fZ,(ae ru rfl Rd),j7⟩
end
noncomputable def nv {α:Type}(lo hi st:Option Int)(xs:List α):List α:=(sliceRange (sliceBounds lo hi st xs.length).1 (sliceBounds lo hi st xs.length).2.1 (sliceBounds lo hi st xs.length).2.2).filterMap (xs[·]?)
theorem AJ (xs:List α):nv none none (some (-1)) xs=xs.reverse:=by
 delta nv;obtain e:sliceRange (sliceBounds none none (some (-1)) xs.length).1 (sliceBounds none none (some (-1)) xs.length).2.1 (sliceBounds none none (some (-1)) xs.length).2.2=(List.range xs.length).map λk=>xs.length - 1 - k:=by
  delta sliceRange sliceBounds;dsimp only [Option.getD_some,show ¬((-1:Int) > 0) by decide,show ¬((0:Int) < -1) by decide,if_false];obtain h:(if ((xs.length:Int) - 1) > -1 then ((xs.length:Int) - 1 - -1 - -1 - 1) / (- -1) else 0).toNat=xs.length:=by
   by_cases hn:(xs.length:Int) - 1 > -1
   . rw [if_pos hn];obtain this:((xs.length:Int) - 1 - -1 - -1 - 1) / (- -1)=xs.length:=by obtain e:(- -1:Int)=1:=rfl;refine rE e ?_;rw [Int.ediv_one];exact (by lia)
     refine rE this ?_;simp
   . rw [if_neg hn];exact BN hn
  refine rE h ?_;apply List.map_congr_left;intro k hk;exact BP
 refine (aq e)▸(aq List.filterMap_map)▸?_;obtain h1:(List.range xs.length).filterMap ((λi=>xs[i]?) ∘ λk=>xs.length - 1 - k)=(List.range xs.length).filterMap (xs.reverse[·]?):=by
  obtain this:∀l:fj,(∀k∈l,k < xs.length)->l.filterMap ((λi=>xs[i]?) ∘ λk=>xs.length - 1 - k)=l.filterMap (xs.reverse[·]?):=by
   intro l;induction l with
   | nil=>intro _;rfl
   | cons a l ih =>intro hl;refine rE List.filterMap_cons ?_;rw [List.filterMap_cons,ih λk hk=>hl k (.tail _ hk),List.getElem?_reverse (hl a (.head _))];rfl
  exact this _ λk hk=>List.mem_range.mp hk
 obtain h2:=PySem.StrLaws.picks xs.reverse xs.length 0 (by simp);refine rE h1 ?_;obtain h3:=h2.trans (show (xs.reverse.drop 0).take xs.length=xs.reverse by rw [List.drop_zero];exact List.take_of_length_le (by simp));simpa using h3
section
variable {c:bc}{C:Cx}{S:AS}{F F':G}{bs aE:aO}{s s':Shared}{A:Around}{mg mb:fV}{X:dU}{K:dC}{pos:Pos}
theorem bq.pick (h:c.Vs F bs xs vs)(l:fj):c.Vs F bs (l.filterMap (xs[·]?)) (l.filterMap (vs[·]?)):=by
 induction l with
 | nil=>exact .nil
 | cons i l ih =>
   refine (aq List.filterMap_cons)▸(aq List.filterMap_cons)▸?_;cases hx:xs[i]? with
   | none=>simp only [h.get_none hx];exact ih
   | some x=>refine e1a1 (h.get hx) λv e hv=>?_;simp only [e];exact .cons hv ih
theorem AK {lo hi:Option Expr}{st:Expr}(h:Ev c C value S (λo Z=>Part c C lo Z (λl aF=>Part c C hi aF (λu aY=>Part c C (some st) aY (λd co=>∃xs,cm co o xs/\d≠some 0/\xs.length<=sizeLine/\lF K (nv l u d xs) co) X) X) X) X):Ev c C (.Subscript value (.Slice lo hi (some st) p) pos) S K X:=by
 intro A F bs s hA z
 skip
 refine WP.bind (h A F bs s hA z) λF₁ bs₁ Z O o ro al an ho k₁=>?_;refine ah (wpAny_holding (wpAny_Slice ?_));refine aQ (mZ hA an k₁) (λrl ac UR=>UR.casesOn λaX ap l aF am aJ hl k₂=>?_) λzz zz e=>e;refine aQ (mZ hA aJ k₂) (λru aP US=>US.casesOn λbi aK u aY aA a6 hu bn=>?_) λx aP UT=>UT.casesOn λbi aK u aY aA a6 hu bn=>⟨bi,aK,u,aY,am.trans aA,a6,hu.back am.mono,bn⟩
 refine aQ (mZ hA a6 bn) (λrd dL UU=>UU.casesOn λF₀ bs₀ d aaj gg OE hd UV=>?_) λx aP UW=>UW.casesOn λF₀ bs₀ u aY gg a6 hu bn=>⟨F₀,bs₀,u,aY,(am.trans aA).trans gg,a6,hu.back (am.trans aA).mono,bn⟩
 refine e1a3 UV λxs rS eI hsz k=>?_;obtain Da:=gg.V (aA.V (am.V ho));clear ho;refine e3a2 (OE.kz rS Da) λa vs n o1 hL be=>?_;refine rE o1 ?_;refine ah (wpAny_standAt ?_);generalize qm:({dL with heap:=dL.heap.push {cls:=.type "slice",data:=.fields #[rl,ru,rd]}}:Shared)=ch;obtain xz:bf c F₀ bs₀ dL ch:=by simp only [<-qm];exact ⟨λb o e=>bU _ e,rfl,rfl⟩
 obtain Jh:ch.heap.IsSliceOf dL.heap.objs.size rl ru rd:=by refine qm▸?_;exact Heap.IsSliceOf.new ..
 obtain cr:=OE.keep xz;obtain vU:ch.heap.IsList a vs.toArray:=(dh _ (xz.keep _ _ hL) rfl n rfl)
 refine ah ?_;refine ah (wpAny_specialOf vU.typeIs list_getitem_lookup ?_);obtain fin:wpAny (model c.prog c.w) A (operate [.ref a,.ref dL.heap.objs.size] (getItem (.ref a) (.ref dL.heap.objs.size)) >>= λr=>letTemporaryGo value (.ref a) r >>= λzz=>pure r)
  (WV c C c.V F₁ bs₁ O.heap K)
  (WX c C F₁ bs₁ O.heap X) ch:=by
  refine ah (wpAny_operating (wpAny_getItem_list_slice vU Jh hl hu hd eI (ah (wpAny_letTemporaryGo (aM ?_))) (by simpa [be.length] using hsz)));obtain e:slicePick vs.toArray l u d=(nv l u d vs).toArray:=by delta slicePick nv;simp
  refine rE e ?_;obtain lG:c.Vs F₀ bs₀ (nv l u d xs) (nv l u d vs):=by delta nv;rw [be.length];exact be.pick _
  generalize nv l u d vs=ws at lG;obtain Ji:bf c F₀ bs₀ ch {ch with heap:=ch.heap.push (bx ws 0)}:=⟨λb o e=>bU _ e,rfl,rfl⟩
  obtain ⟨F',aE,v,S',st,z',hv,kk⟩:=cr.t6 Ji (St.fm ch) (vs:=ws) (n:=0) (cT _ rfl) lG k;exact ⟨F',aE,v,S',(((am.trans aA).trans gg).trans (.keep xz)).trans st,z',hv,kk⟩
 first
  | exact aM fin
  | exact ah (aM fin)
  | exact fin
end
noncomputable def GO:fk:=nV iC 2
noncomputable def uG:kE:=dg GO 0
noncomputable def ye:kE:=dg GO 1
noncomputable def zD:kE:=dg GO 2
noncomputable def yf:kE:=dg GO 3
noncomputable def ma:kE:=dg iC 12
noncomputable def uH:kE:=dg ma.body 2
noncomputable def uI:lR:=⟨"_law_piece","_law_lexer.<locals>._law_piece",uH.params,.stmts uH.body,uH.scope⟩
structure kL where
 cL:Addr
 init:Addr
 read:Addr
 get:Addr
 push:Addr
structure Lex (c:bc)(mg mb:fV)(Kf:Frag)(l:kL):Prop where
 B:d8 c mg mb Kf
 a1:attrOk Kf l.cL "lineno"=true
 a2:attrOk Kf l.cL "instream"=true
 a3:attrOk Kf l.cL "whitespace"=true
 a4:attrOk Kf l.cL "pushback"=true
 a5:attrOk Kf l.cL "read"=true
 UX:makesIn Kf l.cL=true
 Er:(findIn Kf (.ref l.cL) "__init__"==some (some (.ref l.init))&&typeIn Kf (.ref l.init)==some (.type "function"))=true
 keep:keepIn Kf (.ref l.cL)=true
 g:mg "_netrclex"=some (.ref l.cL)
 Es:lz Kf l.cL "_read_char" l.read=true
 GP:fM Kf l.cL "get_token" l.get=true
 H4:fM Kf l.cL "push_token" l.push=true
 init:eG c l.init uG .none
 read:eG c l.read ye .none
 get:eG c l.get zD .none
 push:eG c l.push yf .none
 site:c.aD 0=uI
noncomputable abbrev gR:Str:="\n\t\r "
noncomputable def fe (line:Int)(ins:AV)(pb:Nat):eQ:=[("lineno",.int line),("instream",ins),("whitespace",.str gR),("pushback",.ref pb)]
structure LX (H:bg)(cL:Addr)(n:Nat)(signs:ag)(line:Int)(push:ag):Prop where
 sg:H[n]?=some (.list (signs.reverse.map .str))
 sd:H[n+1]?=some (.az (fe 1 .none (n+3)++[(("read":Str),AV.fn 0 [(("signs":Str),AV.ref n)])]))
 si:H[n+2]?=some (.inst cL (n+1))
 ld:H[n+4]?=some (.az (fe line (.ref (n+2)) (n+6)))
 li:H[n+5]?=some (.inst cL (n+4))
 pb:H[n+6]?=some (.list (push.map .str))
abbrev iS (n:Nat)(j:Nat):Prop:=n<=j/\j < n+7
theorem hB {α:Type}{H:List α}{v:α}(h:i≠j):(H.set i v)[j]?=H[j]?:=ba h
theorem sV {α:Type}{H:List α}{v o:α}(h:H[i]?=some o):(H.set i v)[i]?=some v:=hX (bN h).1
section
variable {H H':bg}{cL:Addr}{n:Nat}{signs Et:ag}{line H5:Int}{push wv:ag}
theorem LX.Eu (x:LX H cL n signs line push):LX (H.set n (.list (Et.reverse.map .str))) cL n Et line push :=
 ⟨sV x.sg,(hB jv).trans x.sd,(hB pF).trans x.si,(hB (bS (Nat.lt_succ_of_le (bW _ 3)))).trans x.ld,(hB (bS (Nat.lt_succ_of_le (bW _ 4)))).trans x.li,(hB (bS (Nat.lt_succ_of_le (bW _ 5)))).trans x.pb⟩
theorem LX.GQ (x:LX H cL n signs line push):LX (H.set (n+4) (.az (fe H5 (.ref (n+2)) (n+6)))) cL n signs H5 push :=
 ⟨(hB (dk (Nat.lt_succ_of_le (bW _ 3)))).trans x.sg,(hB (dk (gD (by decide) _))).trans x.sd,(hB (dk (bF Nat.le.refl))).trans x.si,sV x.ld,(hB (bS Nat.le.refl)).trans x.li,(hB (bS (bF Nat.le.refl))).trans x.pb⟩
theorem LX.ny (x:LX H cL n signs line push):LX (H.set (n+6) (.list (wv.map .str))) cL n signs line wv :=
 ⟨(hB (dk (Nat.lt_succ_of_le (bW _ 5)))).trans x.sg,(hB (dk (gD (by decide) _))).trans x.sd,(hB (dk (gD (by decide) _))).trans x.si,(hB (dk (bF Nat.le.refl))).trans x.ld,(hB (dk Nat.le.refl)).trans x.li,sV x.pb⟩
theorem LX.ext (x:LX H cL n signs line push)(e:Ext H H' P)(h:∀j,n<=j->j < n+7->¬P j):LX H' cL n signs line push:=by
 obtain lt:∀{j o},H[j]?=some o->j < H.length:=λh=>(bN h).1;exact ⟨(e.same _ (lt x.sg) (h _ jw (Nat.lt_succ_of_le (bW _ 6)))).trans x.sg,(e.same _ (lt x.sd) (h _ arith2 (gD (by decide) _))).trans x.sd,(e.same _ (lt x.si) (h _ pG (gD (by decide) _))).trans x.si,(e.same _ (lt x.ld) (h _ (bW _ 4) (bF (bF Nat.le.refl)))).trans x.ld,
  (e.same _ (lt x.li) (h _ (bW _ 5) (bF Nat.le.refl))).trans x.li,(e.same _ (lt x.pb) (h _ (bW _ 6) (bu (_+6).succ))).trans x.pb⟩
end
theorem set_same {α:Type}{H:List α}{o:α}(h:H[k]?=some o):H.set k o=H:=by refine e1a0 (bN h) λhk e=>?_;clear h;subst e;exact List.set_getElem_self hk
noncomputable def nl (x:Str)(l:Int):Int:=if x=="\n" then l+1 else l
noncomputable def isWs (x:Str):Bool:=!(Builtin.Str.occurrences gR x 0 gR.length 1).isEmpty
section
variable {c:bc}{mg mb:fV}{Kf:Frag}{l:kL}
theorem eG.fnAt (h:eG c fa f dV):FnAt c fa:=by obtain ⟨o,fd,h1,h2,h3,_⟩:=h.at_;exact (b7 o fd h1 h2 h3)
theorem Ew (W:Lex c mg mb Kf l){signs:ag}(hk:H[k]?=some (.list (signs.reverse.map .str)))(hl:signs.length < 1000)(m:Nat) :
 jk c (m+1) (.fn 0 [("signs",.ref k)]) [.int 1] H (λv H'=>v=.str (signs.headD "")/\H'=H.set k (.list (signs.tail.reverse.map .str))):=by
 refine jk.XM W.B.toBase uI W.site ["count"] ["signs"] ["count","signs"] [(1,.ref k),(0,.int 1)] (λzz zz=>rfl) rfl rfl rfl (rfl) (rfl) λenv own frames bd jN=>?_
 . refine iF (bj (vT (i4 (aa 1 (by rfl) (by rfl) (mY (.inr (ae k rfl hk)) (by simp;exact tw hl) ?_)))));cases signs with
   | nil =>refine dj ⟨rfl,?_⟩;exact (set_same hk).symm
   | cons x r =>
     obtain e:(x::r).reverse.map AV.str=r.reverse.map AV.str++[.str x]:=by simp
     rw [e] at hk ⊢;rw [show (!(r.reverse.map AV.str++[AV.str x]).isEmpty)=true by simp];refine cb "list" "list.pop" PySem.F.plainAttrs_list PySem.F.slot_list_pop PySem.F.type_list_pop ?_;refine aa 1 (by rfl) (by rfl) ⟨gY hk rfl,?_⟩;refine bM (CV hk (by simp [sizeLine] at *;exact ey (Nat.lt_of_succ_lt hl) rfl) ⟨rfl,rfl⟩)
theorem LX.lex {cL n:Nat}{signs:ag}(x:LX H cL n signs line push):gh ⟨lc,H⟩ (n+5) (n+4) cL (fe line (.ref (n+2)) (n+6)):=⟨x.li,x.ld⟩
theorem LX.str {cL n:Nat}{signs:ag}(x:LX H cL n signs line push):gh ⟨lc,H⟩ (n+2) (n+1) cL (fe 1 .none (n+3)++[(("read":Str),AV.fn 0 [(("signs":Str),AV.ref n)])]):=⟨x.si,x.sd⟩
theorem GR (W:Lex c mg mb Kf l){signs:ag}(x:LX H l.cL n signs line push)(hl:signs.length < 1000)(m:Nat) :
 bz c (m+2) (.ref l.read) [.ref (n+5)] H (λv H'=>v=.str (signs.headD "")/\LX H' l.cL n signs.tail (nl (signs.headD "") line) push/\Ext H H' (iS n)/\H'.length=H.length):=by
 refine W.read.en W.B.toBase ["self"] ["self","ch"] [(0,.ref (n+5))] (λzz zz=>rfl) rfl rfl (rfl) λenv own frames bd jN=>?_
 . obtain k1:=ay W.a1;obtain k2:=ay W.a2;obtain k5:=ay W.a5;refine ab (av (wF W.B l.cL (n:=m+1) k5.2.2 k5.2.1 rfl (bu _) ?_));refine a7 (aa 0 rfl rfl (a9 W.B l.cL k2.2.2 k2.2.1 x.lex (v:=.ref (n+2)) rfl (λzz q=>by cases q) ?_));refine ⟨n+2,n+1,_,0,[("signs",.ref n)],rfl,x.str,rfl,?_⟩;refine aw (bH ?_);intro A F bs s r rs fr h1 h2 h3 h4 h5 wd hf hv;refine codeAny_mono (Ew W x.sg hl m A F bs s r rs fr h1 h2 h3 h4 h5 wd hf hv) λr s' ⟨F',aE,v,H',rv,own,e1,e2,e3,e4,e5,ev,eH⟩=>⟨F',aE,v,H',rv,own,e1,e2,e3,e4,e5,?_⟩
   clear e4 e5;subst ev eH;obtain x1:LX (H.set n (.list (signs.tail.reverse.map .str))) l.cL n signs.tail line push:=x.Eu;refine au 1 rfl (bd 1 _ rfl) ?_;refine ab (bP (bh (aa 1 rfl rfl (dj (lU (aT ?_))))));obtain e0:Ext H (H.set n (.list (signs.tail.reverse.map .str))) (iS n):=Ext.set _ _ ⟨bu _,Nat.lt_succ_of_le (bW _ 6)⟩;cases hb:(signs.headD ""==("\n":Str)) with
   | true =>
     refine ab (fN (aa 0 rfl rfl (a9 W.B l.cL k1.2.2 k1.2.1 x1.lex (v:=.int line) rfl (λzz q=>by cases q) (bH (gy ?_)))));refine c7 W.B l.cL k1.1 x1.lex (Nat.le_of_ble_eq_true rfl) (ax (ab (bj (aa 1 rfl rfl (gb rfl ?_ ?_ (by simp))))))
     . obtain this:nl (signs.headD "") line=line+1:=by unfold nl;rw [hb];rfl
       rw [this];exact x1.GQ
     . exact e0.trans (Ext.set _ _ ⟨bW _ 4,bF (bF Nat.le.refl)⟩)
   | false =>
     refine ax (ab (bj (aa 1 rfl rfl (gb rfl ?_ e0 (by simp)))));obtain this:nl (signs.headD "") line=line:=by delta nl;rw [hb];rfl
     rw [this];exact x1
theorem GS (W:Lex c mg mb Kf l){signs:ag}(x:LX H l.cL n signs line push)(hl:push.length < 1000)(t:Str)(m:Nat) :
 bz c (m+1) (.ref l.push) [.ref (n+5),.str t] H (λv H'=>v=.none/\H'=H.set (n+6) (.list ((push++[t]).map .str))):=by
 refine W.push.en W.B.toBase ["self","token"] ["self","token"] [(0,.ref (n+5)),(1,.str t)] (λzz zz zz=>rfl) rfl rfl (rfl) λenv own frames bd jN=>?_
 . obtain k4:=ay W.a4;refine ab (bZ (cb "list" "list.append" PySem.F.plainAttrs_list PySem.F.slot_list_append PySem.F.type_list_append ?_) (rfl));refine a7 (aa 0 rfl rfl (a9 W.B l.cL k4.2.2 k4.2.1 x.lex (v:=.ref (n+6)) rfl (λzz q=>by cases q) ⟨gY x.pb rfl,?_⟩));refine aw (aa 1 rfl rfl (dR x.pb (by simp [sizeLine];exact kT hl) ?_));refine ax ⟨rfl,?_⟩;simp
end
inductive LM where
 | top | yg | unq | r8 | pA
noncomputable def bJ:LM->ag->Int->Str->Str×List Str×Int
 | _,[],l,t=>(t,[],l)
 | .top,x::r,l,t=>if isWs x then bJ .top r (nl x l) t else if x=="\"" then bJ .yg r (nl x l) t else if x=="\\" then bJ .pA r (nl x l) t else bJ .unq r (nl x l) (t++x)
 | .yg,x::r,l,t=>if x=="\"" then (t,r,nl x l) else if x=="\\" then bJ .r8 r (nl x l) t else bJ .yg r (nl x l) (t++x)
 | .unq,x::r,l,t=>if isWs x then (t,r,nl x l) else if x=="\\" then bJ .pA r (nl x l) t else bJ .unq r (nl x l) (t++x)
 | .r8,x::r,l,t=>bJ .yg r (nl x l) (t++x)
 | .pA,x::r,l,t=>bJ .unq r (nl x l) (t++x)
theorem Kd (x:Str)(r:ag)(l:Int)(t:Str):bJ .top (x::r) l t=if isWs x then bJ .top r (nl x l) t else if x=="\"" then bJ .yg r (nl x l) t else if x=="\\" then bJ .pA r (nl x l) t else bJ .unq r (nl x l) (t++x):=rfl
theorem Ke (x:Str)(r:ag)(l:Int)(t:Str):bJ .r8 (x::r) l t=bJ .yg r (nl x l) (t++x):=rfl
theorem Kg (x:Str)(r:ag)(l:Int)(t:Str):bJ .pA (x::r) l t=bJ .unq r (nl x l) (t++x):=rfl
theorem lL (t:Str):t++(Str.ofString "")=t:=by
 skip
 skip
 rfl
structure GI (n k:Nat)(S:AS)(tok:Str):Prop where
 self:S.loc.lookup 0=some (.ref (n+5))
 tok:S.loc.lookup 1=some (.str tok)
 it:S.loc.lookup 2=some (.ref k)
theorem GI.put3 {tok:Str}(g:GI n k S tok)(v:AV)(H:bg):GI n k ({S with heap:=H}.put 3 v) tok :=
 ⟨by show (bY S.loc 3 v).lookup 0=_;rw [aC];exact g.self,by show (bY S.loc 3 v).lookup 1=_;rw [aC];exact g.tok,by show (bY S.loc 3 v).lookup 2=_;rw [aC];exact g.it⟩
theorem GI.AL {tok:Str}(g:GI n k S tok)(t:Str):GI n k (S.put 1 (.str t)) t :=
 ⟨by skip;rw [aC];exact g.self,by show (bY S.loc 1 _).lookup 1=_;rw [aC];rfl,by show (bY S.loc 1 _).lookup 2=_;rw [aC];exact g.it⟩
theorem GI.heap {tok:Str}(g:GI n k S tok)(H:bg):GI n k {S with heap:=H} tok:=⟨g.self,g.tok,g.it⟩
theorem eK (S:AS)(i:Nat)(v:AV):(S.put i v).loc.lookup i=some v:=by skip;rw [aC,if_pos rfl]
section
variable {c:bc}{mg mb:fV}{Kf:Frag}{l:kL}
noncomputable abbrev AM (l:kL)(n:Nat):AO:=.eP (some (.bm "method" (.ref l.read) (.ref (n+5)),.str ""))
inductive Act (l:kL)(n k:Nat)(i8:bg)(R:Str×List Str×Int)(md:LM)(m:Nat)(S:AS):Prop
 | mk (sg:ag) (ln:Int) (tok:Str) (g:GI n k S tok) (x:LX S.heap l.cL n sg ln []) (hc:S.heap[k]?=some (AM l n)) (e:Ext i8 S.heap (iS n)) (hl:sg.length+tok.length < 1000) (h1:∀x∈sg,x.length=1) (hj:sg.length=m) (hR:bJ md sg ln tok=R)
structure Done (l:kL)(n k:Nat)(i8:bg)(R:Str×List Str×Int)(S:AS):Prop where
 gi:GI n k S R.1
 lx:LX S.heap l.cL n R.2.1 R.2.2 []
 ci:S.heap[k]?=some (.eP none)
 ext:Ext i8 S.heap (iS n)
@[reducible] def AN (l:kL) (n k:Nat) (i8:bg) (R:Str×List Str×Int) (md:LM):CF:=λj S=>Act l n k i8 R md j S\/Done l n k i8 R S
theorem LX.lt {cL n:Nat}{signs:ag}(x:LX H cL n signs line push):n+6 < H.length:=(bN x.pb).1
theorem n7 (W:Lex c mg mb Kf l){S:AS}(hk:n+7<=k)(yd:i8.length<=k)(x:LX S.heap l.cL n sg ln [])(hl:sg.length < 1000)(hc:S.heap[k]?=some (AM l n))(e:Ext i8 S.heap (iS n))(m:Nat) :
 bz c (m+2) (.ref l.read) [.ref (n+5)] S.heap (λv H'=>v=.str (sg.headD "")/\LX H' l.cL n sg.tail (nl (sg.headD "") ln) []/\H'[k]?=some (AM l n)/\Ext i8 H' (iS n)) :=
 (GR W x hl m).mono λv H' UY=>e0a3 UY λh1 h2 h3 zz=>(gb h1 h2 ((h3.same k (bN hc).1 (λq=>(Nat.not_le.mpr q.2 hk))).trans hc) (e.trans h3))
theorem wH (h:x.length=1):(("":Str)==x)=false:=by
 obtain this:("":Str)≠x:=λe=>by rw [<-e] at h;exact absurd h (by decide)
 simpa using this
noncomputable abbrev Ey:ag:=["self","token","fiter","ch"]
noncomputable abbrev Ez (env:Env)(own:aO)(frames:List Env)(m:Nat):Cx:=qK zD env own frames (m+3) Ey
theorem uJ (W:Lex c mg mb Kf l)(bd:∀(i:Nat) x,Ey[i]?=some x->bG (Ez env own frames m) (λzz=>none) x)(hk:n+7<=k)(yd:i8.length<=k)
 (g:GI n k S tok) (x:LX S.heap l.cL n sg ln []) (hl:sg.length < 1000) (hc:S.heap[k]?=some (AM l n)) (e:Ext i8 S.heap (iS n)) {K:ip}
 (kk:∀H',LX H' l.cL n sg.tail (nl (sg.headD "") ln) []->H'[k]?=some (AM l n)->Ext i8 H' (iS n)->K .next ({S with heap:=H'}.put 3 (.str (sg.headD "")))) (hline:(p3.endLine==p4.line)=true) :
 nH c (Ez env own frames m) (.Assign [.Name "ch" p1] (.Call (.Attribute (.Name "self" p2) "_read_char" p3) [] [] p4) p5) S K X:=by
 obtain mr:fM Kf l.cL "_read_char" l.read=true:=by obtain this:=W.Es;simp only [lz,cZ] at this;exact this.1.1.1
 refine av (cP W.B l.cL l.read (n:=m+2) mr rfl (by skip;exact bF Nat.le.refl) (aa 0 rfl g.self ⟨n+5,n+4,_,rfl,x.lex,rfl,?_⟩) (hline:=hline));refine bM ((n7 W hk yd x hl hc e m).mono λv H' OF=>e0a3 OF λev x' DA e'=>?_);clear OF;subst ev;exact au 3 rfl (bd 3 _ rfl) (kk H' x' DA e')
theorem qX (W:Lex c mg mb Kf l)(bd:∀(i:Nat) x,Ey[i]?=some x->bG (Ez env own frames m) (λzz=>none) x)(hk:n+7<=k)(yd:i8.length<=k)
 (md me:LM) {K:ip} (hm:md≠.top)
 (hmd:md=.yg/\me=.r8\/md=.unq/\me=.pA)
 (hb:∀(j:Nat) (S:AS) (y:Str) (sg:ag) (ln:Int) (tok:Str),S.loc.lookup 3=some (.str y)->GI n k S tok->LX S.heap l.cL n sg ln []->S.heap[k]?=some (AM l n)->Ext i8 S.heap (iS n)->sg.length+y.length+tok.length < 1000->(∀x∈sg,x.length=1)->y.length=1->sg.length < j ->
  bJ md (y::sg) (ln - (nl y 0)) tok=R->Ex c (Ez env own frames m) body S (mQ (qA (AN l n k i8 R md) j) K) gX)
 (XV:∀S,Done l n k i8 R S->K .next S) (j:Nat) (S:AS) (h:Act l n k i8 R md j S\/Done l n k i8 R S) :
 HX c (Ez env own frames m) "ch" px body K (m+2) l.read (.ref (n+5)) "" k (AN l n k i8 R md) j S:=by
 rcases h with ⟨sg,ln,tok,g,x,hc,e,hl,h1,hj,hR⟩ | d
 . refine .inr ⟨hc,(n7 W hk yd x (Nat.lt_of_add_right_lt hl) hc e m).mono λv H' UZ=>e0a3 UZ λev x' DA e'=>(aH _ ev DA ?_)⟩;cases sg with
   | nil =>
     refine .inl ⟨rfl,XV _ ⟨?_,?_,sV DA,e'.kI yd _⟩⟩
     . obtain this:R=(tok,[],ln):=by rw [<-hR];cases md <;> rfl
       simp only [this];exact g.heap _
     . have:R=(tok,[],ln):=by rw [<-hR];cases md <;> rfl
       refine rE this ?_;exact x'.ext (P:=λj=>j=k) (Ext.set k _ rfl) λj h1 h2 h3=>Nat.not_le.mpr h2 (h3▸hk)
   | cons y r =>
     have hy:=h1 y (.head _);refine .inr ⟨wH hy,au 3 rfl (bd 3 _ rfl) ?_⟩;obtain hn:nl y ln - nl y 0=ln:=by delta nl;split <;> first | exact (by simp +arith) | exact Int.sub_zero _
     refine hb j _ y r (nl y ln) tok (eK _ _ _) (g.put3 _ _) x' DA e' (aq hy▸hl) (λz hz=>h1 z (.tail _ hz)) hy (tC hj) (by refine rE hn ?_;exact hR)
 . exact .inl ⟨d.ci,XV S d⟩
end
theorem zE (y:Str)(ln:Int):nl y (ln - nl y 0)=ln:=by delta nl;split <;> first | exact Int.sub_add_cancel _ (0+1) | exact Int.sub_zero _
theorem EA (x:Str)(r:ag)(l:Int)(t:Str):bJ .yg (x::r) l t=if x=="\"" then (t,r,nl x l) else if x=="\\" then bJ .r8 r (nl x l) t else bJ .yg r (nl x l) (t++x):=rfl
theorem EB (x:Str)(r:ag)(l:Int)(t:Str):bJ .unq (x::r) l t=if isWs x then (t,r,nl x l) else if x=="\\" then bJ .pA r (nl x l) t else bJ .unq r (nl x l) (t++x):=rfl
theorem EC (sg:ag)(ln:Int)(t:Str):bJ .r8 sg ln t=bJ .yg sg.tail (nl (sg.headD "") ln) (t++sg.headD ""):=by
 cases sg with
 | nil=>show (t,[],ln)=(t++Str.ofString "",[],ln);rw [lL]
 | cons x r=>rfl
theorem wI (sg:ag)(ln:Int)(t:Str):bJ .pA sg ln t=bJ .unq sg.tail (nl (sg.headD "") ln) (t++sg.headD ""):=by
 cases sg with
 | nil=>show (t,[],ln)=(t++Str.ofString "",[],ln);rw [lL]
 | cons x r=>rfl
theorem n8 {sg:ag}(h:∀x∈sg,x.length=1):(sg.headD "").length<=1/\sg.tail.length+(sg.headD "").length<=sg.length:=by
 cases sg with
 | nil=>exact ⟨by decide,by decide⟩
 | cons x r=>simp [h x (.head _)]
section
variable {c:bc}{mg mb:fV}{Kf:Frag}{l:kL}
theorem kM (g:GI n k S tok)(x:LX S.heap l.cL n sg ln [])(hc:S.heap[k]?=some (AM l n))(e:Ext i8 S.heap (iS n))(hl:sg.length+tok.length < 1000)(h1:∀x∈sg,x.length=1)
 (hR:bJ md sg ln tok=R) (hj:sg.length < j):qA (AN l n k i8 R md) j S:=⟨sg.length,hj,.inl ⟨sg,ln,tok,g,x,hc,e,hl,h1,rfl,hR⟩⟩
inductive U0 (l:kL)(n k:Nat)(H:bg)(R:Str×List Str×Int)(tok:Str)(j:Nat)(fl:sz)(Z:AS):Prop
 | mk (e0:fl=.next) (H6:ag) (P0:Int) (Ln:Str) (h1:Z.loc.lookup 3=some (.str Ln)) (h2:GI n k Z tok) (h3:LX Z.heap l.cL n H6 P0 []) (h4:Z.heap[k]?=some (AM l n)) (h5:Ext H Z.heap (iS n)) (h6:H6.length+Ln.length+tok.length < 1000) (h7:Ln.length<=1) (h8:∀x∈H6,x.length=1) (h9:H6.length < j) (Lg:bJ .unq H6 P0 (tok++Ln)=R)
theorem GU (W:Lex c mg mb Kf l)(fB:c9 mg mb "iter" (.builtin "iter")){signs:ag}(x:LX H l.cL n signs line [])(hl:signs.length < 900)(h1:∀x∈signs,x.length=1)(m:Nat) :
 bz c (m+4) (.ref l.get) [.ref (n+5)] H (λv H'=>v=.str (bJ .top signs line "").1/\LX H' l.cL n (bJ .top signs line "").2.1 (bJ .top signs line "").2.2 []/\Ext H H' (iS n)):=by
 generalize hRR:bJ .top signs line ""=R;refine W.get.en W.B.toBase (n:=m+3) ["self"] Ey [(0,.ref (n+5))] (λzz zz=>rfl) rfl rfl (by decide +kernel) λenv own frames bd jN=>?_;have k3:=ay W.a3;have k4:=ay W.a4;have nk:n+7<=H.length:=x.lt;have yd:H.length<=H.length:=bu _;refine ab (bP (i4 (a7 (aa 0 rfl rfl (a9 W.B l.cL k4.2.2 k4.2.1 x.lex (v:=.ref (n+6)) rfl (λzz q=>by cases q) (mY (.inr (ae (n+6) rfl x.pb)) (by simp) ?_))))));simp only [List.map_nil,List.isEmpty_nil,Bool.not_true,dQ,if_false];refine ax (ab (av (dj (au 1 rfl (bd 1 _ rfl) ?_))));refine ab (av (bQ (.builtin "iter") (bT W.B.toBase (by rfl) fB.1 fB.2 ⟨rfl,?_⟩)));refine aR (a7 (aa 0 rfl rfl (qJ W.B l.cL l.read W.Es x.lex rfl (aw (dj (GN ?_))))));refine au 2 rfl (bd 2 _ rfl) ?_;have U1:Ext H (H++[AM l n]) (iS n):=⟨by simp,λj hj zz=>eN hj⟩
 have x0:LX (H++[AM l n]) l.cL n signs line []:=x.ext (P:=λzz=>False) ⟨by simp,λj hj zz=>eN hj⟩ λj zz zz q=>q;have XW:(H++[AM l n])[H.length]?=some (AM l n):=by rw [iV (bu _)];simp
 refine ab (qV (n:=m+2) (f:=l.read) (self:=.ref (n+5)) (snt:="") rfl (by show m+2+1<=m+3;exact tq) W.read.fnAt ?_);refine aa 2 rfl rfl ⟨H.length,rfl,(ck _ XW),(AN l n H.length H R .top),signs.length,(.inl ⟨signs,line,"",⟨rfl,rfl,rfl⟩,x0,XW,U1,by rw [show Str.length ""=0 from by decide +kernel];exact cG hl (Nat.le_add_left 900 100),h1,rfl,hRR⟩),(λj S hI=>?_)⟩;rcases hI.symm with d | ⟨sg,ln,tok,g,x,hc,e,hl,h1,hj,hR⟩
 . exact .inl ⟨d.ci,ab (bj (aa 1 rfl d.gi.tok (aG rfl d.lx d.ext)))⟩
 refine .inr ⟨hc,(n7 W nk yd x (Nat.lt_of_add_right_lt hl) hc e m).mono λv H' Tu=>e0a3 Tu λev x' DA e'=>(aH _ ev DA ?_)⟩;cases sg with
 | nil =>
   refine .inl ⟨rfl,ab (bj (aa 1 rfl (g.heap _).tok (aG ?_ ?_ (e'.kI yd _))))⟩
   . rw [<-hR];rfl
   . have:R=(tok,[],ln):=by rw [<-hR];rfl
     rw [this];exact x'.ext (P:=λj=>j=H.length) (Ext.set _ _ rfl) λj h1 h2 h3=>Nat.not_le.mpr h2 (h3▸nk)
 | cons y r =>
   have hy:=h1 y (.head _);simp only [List.headD_cons,List.tail_cons,List.length_cons] at *;refine .inr ⟨wH hy,au 3 rfl (bd 3 _ rfl) ?_⟩;clear ev x e hc;generalize hS:({S with heap:=H'}.put 3 (.str y))=Z;have g1:GI n H.length Z tok:=hS▸g.put3 _ _;have Lo:Z.loc.lookup 3=some (.str y):=hS▸eK _ _ _;have x1:LX Z.heap l.cL n r (nl y ln) []:=hS▸x';have AT:Z.heap[H.length]?=some (AM l n):=hS▸DA;have e1:Ext H Z.heap (iS n):=hS▸e';have z8:∀z∈r,z.length=1:=λz hz=>h1 z (.tail _ hz);clear hS;have yh:(if isWs y then bJ .top r (nl y ln) tok else if y=="\"" then bJ .yg r (nl y ln) tok else if y=="\\" then bJ .pA r (nl y ln) tok else bJ .unq r (nl y ln) (tok++y))=R:=hR;refine ab (bP (bh (aa 3 rfl Lo (a7 (aa 0 rfl g1.self (a9 W.B l.cL k3.2.2 k3.2.1 x1.lex (v:=.str gR) rfl (λzz q=>by cases q) (xD (aT ?_))))))));cases hw:(!(Builtin.Str.occurrences gR y 0 gR.length 1).isEmpty) with
   | true =>have un:isWs y=true:=hw;refine ab (vH ?_);rw [un] at yh;exact kM g1 x1 AT e1 (cD (Nat.add_le_add_right (Nat.le_succ _) _) hl) z8 yh (tC hj)
   | false =>
     have un:isWs y=false:=hw;rw [un] at yh;simp only [dQ,if_false] at yh ⊢;refine ax (ab (bP (bh (aa 3 rfl Lo (dj (lU (aT ?_)))))));cases hq:(y==("\"":Str)) with
     | true =>
       rw [hq] at yh;simp only [if_true] at yh ⊢;refine ab (qV (n:=m+2) (f:=l.read) (self:=.ref (n+5)) (snt:="") rfl (by show m+2+1<=m+3;exact tq) W.read.fnAt ?_);refine aa 2 rfl g1.it ⟨H.length,rfl,(ck _ AT),(AN l n H.length H R .yg),r.length,(.inl ⟨r,nl y ln,tok,g1,x1,AT,e1,cD (Nat.add_le_add_right (Nat.le_succ _) _) hl,z8,rfl,yh⟩),(λj' S' Ao=>?_)⟩;refine qX W bd nk yd .yg .r8 (by simp) (.inl ⟨rfl,rfl⟩) (λj2 S2 y2 Kh ln2 yi yj g2 x2 IT e2 zv h2 H7 Gw U2=>?_) (λS3 d3=>ax (ax ⟨0,hj▸Nat.succ_le_of_lt (Nat.le_add_left (Nat.succ 0) _),.inr d3⟩)) j' S' Ao;have io:(if y2=="\"" then (yi,Kh,ln2) else if y2=="\\" then bJ .r8 Kh ln2 yi else bJ .yg Kh ln2 (yi++y2))=R:=by rw [<-U2];simp only [EA,EB,zE]
       refine ab (bP (bh (aa 3 rfl yj (dj (lU (aT ?_))))));cases lp:(y2==("\"":Str)) with
       | true =>rw [lp] at io;simp only [if_true] at io ⊢;refine ab (bj (aa 1 rfl g2.tok ?_));subst io;exact (aG rfl x2 e2)
       | false =>
         rw [lp] at io;simp only [dQ,if_false] at io ⊢;refine ab (bP (bh (aa 3 rfl yj (dj (lU (aT ?_))))));cases rI:(y2==("\\":Str)) with
         | true =>rw [rI] at io;simp only [if_true] at io ⊢;refine ab (uJ W bd nk yd g2 x2 (vp zv) IT e2 (λH3 x3 IU e3=>?_) (by rfl));refine e0a1 (n8 h2) λq1 q2=>?_;refine ax (ax (ab (dd 1 rfl (g2.put3 _ _).tok (bd 1 _ rfl) (aa 3 rfl (eK _ _ _) (gI (by simp only [sizeLine];exact vw zv q1) ?_)))));refine ax (kM ((g2.put3 _ _).AL _) x3 IU e3 (by rw [len_app];exact vz zv q2) (λz hz=>h2 z (List.mem_of_mem_tail hz)) (by rw [<-EC];exact io) (by simp;exact Nat.sub_lt_of_lt Gw))
         | false =>rw [rI] at io;simp only [dQ,if_false] at io ⊢;refine ax (ax (ab (dd 1 rfl g2.tok (bd 1 _ rfl) (aa 3 rfl yj (gI (by simp only [sizeLine];exact tQ zv) ?_)))));refine ax (kM (g2.AL _) x2 IT e2 (by rw [len_app];exact tP zv) h2 io Gw)
     | false =>
       rw [hq] at yh;simp only [dQ,if_false] at yh ⊢;refine ab (mP (K':=U0 l n H.length H R tok j) (bP (bh (aa 3 rfl Lo (dj (lU (aT ?_)))))) λfl Z ⟨GT,H6,P0,Ln,U3,g4,x4,Pr,e4,XY,hy4,h4,hj4,hR4⟩=>?_)
       . cases rI:(y==("\\":Str)) with
         | true =>rw [rI] at yh;simp only [if_true] at yh ⊢;refine e0a1 (n8 z8) λq1 q2=>?_;refine ab (uJ W bd nk yd g1 x1 (cD (aV (Nat.le_succ _) (bW ..)) hl) AT e1 (λH3 x3 IU e3=>?_) (by rfl));exact ax ⟨rfl,r.tail,_,r.headD "",eK _ _ _,g1.put3 _ _,x3,IU,e3,cD (Nat.add_le_add_right (Nat.le_succ_of_le q2) _) hl,q1,λz hz=>z8 z (List.mem_of_mem_tail hz),by simp;exact hj▸Nat.lt_succ_of_le (Nat.sub_le _ 1),by rw [<-wI];exact yh⟩
         | false =>rw [rI] at yh;simp only [dQ,if_false] at yh ⊢;exact ax ⟨rfl,r,_,y,Lo,g1,x1,AT,e1,aq hy▸hl,Nat.le_of_eq hy,z8,tC hj,yh⟩
       refine rE GT ?_;refine ab (dd 1 rfl g4.tok (bd 1 _ rfl) (aa 3 rfl U3 (gI (by simp only [sizeLine];exact tQ XY) ?_)));refine ab (qV (n:=m+2) (f:=l.read) (self:=.ref (n+5)) (snt:="") rfl (by show m+2+1<=m+3;exact tq) W.read.fnAt ?_);refine aa 2 rfl (g4.AL _).it ⟨H.length,rfl,(ck _ Pr),(AN l n H.length H R .unq),H6.length,(.inl ⟨H6,P0,tok++Ln,g4.AL _,x4,Pr,e4,by rw [len_app];exact tP XY,h4,rfl,hR4⟩),(λj' S' Ao=>?_)⟩;refine qX W bd nk yd .unq .pA (by simp) (.inr ⟨rfl,rfl⟩) (λj2 S2 y2 Kh ln2 yi yj g2 x2 IT e2 zv h2 H7 Gw U2=>?_) (λS3 d3=>ax (ax ⟨0,hj▸Nat.succ_le_of_lt (Nat.le_add_left (Nat.succ 0) _),.inr d3⟩)) j' S' Ao;have io:(if isWs y2 then (yi,Kh,ln2) else if y2=="\\" then bJ .pA Kh ln2 yi else bJ .unq Kh ln2 (yi++y2))=R:=by rw [<-U2];simp only [EA,EB,zE]
       refine ab (bP (bh (aa 3 rfl yj (a7 (aa 0 rfl g2.self (a9 W.B l.cL k3.2.2 k3.2.1 x2.lex (v:=.str gR) rfl (λzz q=>by cases q) (xD (aT ?_))))))));cases XZ:(!(Builtin.Str.occurrences gR y2 0 gR.length 1).isEmpty) with
       | true =>have Ki:isWs y2=true:=XZ;rw [Ki] at io;simp only [if_true] at io ⊢;refine ab (bj (aa 1 rfl g2.tok ?_));refine io▸?_;exact (aG rfl x2 e2)
       | false =>
         have Ki:isWs y2=false:=XZ;rw [Ki] at io;simp only [dQ,if_false] at io ⊢;refine ab (bP (bh (aa 3 rfl yj (dj (lU (aT ?_))))));cases rI:(y2==("\\":Str)) with
         | true =>rw [rI] at io;simp only [if_true] at io ⊢;refine ab (uJ W bd nk yd g2 x2 (vp zv) IT e2 (λH3 x3 IU e3=>?_) (by rfl));refine e0a1 (n8 h2) λq1 q2=>?_;refine ax (ax (ab (dd 1 rfl (g2.put3 _ _).tok (bd 1 _ rfl) (aa 3 rfl (eK _ _ _) (gI (by simp only [sizeLine];exact vw zv q1) ?_)))));refine ax (kM ((g2.put3 _ _).AL _) x3 IU e3 (by rw [len_app];exact vz zv q2) (λz hz=>h2 z (List.mem_of_mem_tail hz)) (by rw [<-wI];exact io) (by simp;exact Nat.sub_lt_of_lt Gw))
         | false =>rw [rI] at io;simp only [dQ,if_false] at io ⊢;refine ax (ax (ab (dd 1 rfl g2.tok (bd 1 _ rfl) (aa 3 rfl yj (gI (by simp only [sizeLine];exact tQ zv) ?_)))));refine ax (kM (g2.AL _) x2 IT e2 (by rw [len_app];exact tP zv) h2 io Gw)
theorem wJ (W:Lex c mg mb Kf l){signs push:ag}(x:LX H l.cL n signs line (p::push))(hl:push.length < 1000)(m:Nat) :
 bz c (m+1) (.ref l.get) [.ref (n+5)] H (λv H'=>v=.str p/\H'=H.set (n+6) (.list (push.map .str))):=by
 refine W.get.en W.B.toBase (n:=m) ["self"] Ey [(0,.ref (n+5))] (λzz zz=>rfl) rfl rfl (by decide +kernel) λenv own frames bd jN=>?_;have k4:=ay W.a4;refine ab (bP (i4 (a7 (aa 0 rfl rfl (a9 W.B l.cL k4.2.2 k4.2.1 x.lex (v:=.ref (n+6)) rfl (λzz q=>by cases q) (mY (.inr (ae (n+6) rfl x.pb)) (by simp;exact hZ (Nat.succ_lt_succ hl) rfl) ?_))))));simp only [List.map_cons,List.isEmpty_cons,Bool.not_false,if_true];refine ab (bj (cb "list" "list.pop" PySem.F.plainAttrs_list PySem.F.slot_list_pop PySem.F.type_list_pop ?_));refine a7 (aa 0 rfl rfl (a9 W.B l.cL k4.2.2 k4.2.1 x.lex (v:=.ref (n+6)) rfl (λzz q=>by cases q) ⟨gY x.pb rfl,?_⟩));refine aw (bH (za (j:=0) x.pb (by simp [sizeLine];exact ey hl rfl) ?_ rfl (by decide) (by decide) ⟨rfl,rfl⟩));exact seqIndex_of (by decide) (by simp)
theorem n9 {H L:bg}(i:Nat):(H++L)[H.length+i]?=L[i]?:=by rw [iV (bW _ _)];congr 1;exact Nat.add_sub_cancel_left ..
theorem uK {H L:bg}(i:Nat)(v:AO):(H++L).set (H.length+i) v=H++L.set i v:=by simp
theorem wK (W:Lex c mg mb Kf l)(H:bg)(fp:AV)(m:Nat) :
 bz c (m+1) (.ref l.init) [.ref (H.length+1),fp] (H++[.az [],.inst l.cL H.length]) (λv H'=>v=.none/\H'=H++[.az (fe 1 fp (H.length+2)),.inst l.cL H.length,.list []]):=by
 refine W.init.en W.B.toBase ["self","fp"] ["self","fp"] [(0,.ref (H.length+1)),(1,fp)] (λzz zz zz=>rfl) rfl rfl (rfl) λenv own frames bd jN=>?_;obtain Bb:∀(lc:fi) (kvs:eQ) (l':bg),gh ⟨lc,H++(.az kvs::.inst l.cL H.length::l')⟩ (H.length+1) H.length l.cL kvs:=λlc kvs l'=>⟨by rw [n9 1];rfl,by obtain this:=n9 (H:=H) (L:=.az kvs::.inst l.cL H.length::l') 0;simpa using this⟩
 obtain U4:∀(kvs Aa:eQ) (l':bg),(H++(.az kvs::.inst l.cL H.length::l')).set H.length (.az Aa)=H++(.az Aa::.inst l.cL H.length::l'):=λkvs Aa l'=>uK (H:=H) 0 _;refine ab (av (bH (cx (aa 0 rfl rfl (c7 W.B l.cL (ay W.a1).1 (Bb _ [] []) (Nat.le_of_ble_eq_true rfl) ?_)))));rw [U4];refine ab (av (aa 1 rfl rfl (cx (aa 0 rfl rfl (c7 W.B l.cL (ay W.a2).1 (Bb _ _ _) (Nat.le_of_ble_eq_true rfl) ?_)))));rw [U4];refine ab (av (dj (cx (aa 0 rfl rfl (c7 W.B l.cL (ay W.a3).1 (Bb _ _ _) (Nat.le_of_ble_eq_true rfl) ?_)))));rw [U4];refine ab (av (eY (bM ⟨by simp,cx (aa 0 rfl rfl (c7 W.B l.cL (ay W.a4).1 (kvs:=df (df (df [] "lineno" (.int 1)) "instream" fp) "whitespace" (.str gR)) (d:=H.length) ?_ (Nat.le_of_ble_eq_true rfl) ?_))⟩)))
 . refine ⟨?_,?_⟩
   . rw [List.append_assoc,n9 1];rfl
   . obtain this:=n9 (H:=H) (L:=[AO.az (df (df (df [] "lineno" (.int 1)) "instream" fp) "whitespace" (.str gR)),.inst l.cL H.length]++[.list []]) 0;rw [List.append_assoc];simpa using this
 refine ax ⟨rfl,?_⟩;rw [List.append_assoc];refine (uK (H:=H) 0 _).trans ?_;obtain this:(H++[AO.az (df (df (df [] "lineno" (.int 1)) "instream" fp) "whitespace" (.str gR)),.inst l.cL H.length]).length=H.length+2:=by simp
 rw [this];rfl
noncomputable abbrev gC (cL n:Nat)(signs:ag):bg:=[.list (signs.reverse.map .str),.az (fe 1 .none (n+3)++[(("read":Str),AV.fn 0 [(("signs":Str),AV.ref n)])]),.inst cL (n+1),.list [],.az (fe 1 (.ref (n+2)) (n+6)),.inst cL (n+4),.list []]
theorem wL (W:Lex c mg mb Kf l)(hf:l7 c fa ma .none "_law_lexer" cc P (λzz=>"_law_lexer.<locals>._law_piece"))(hb:kK c mg)(fB:c9 mg mb "list" (.type "list"))(H:bg)(x:Str)(hx:x.cps.size<=1000)(m:Nat) :
 bz c (m+3) (.ref fa) [.str x] H (λv H'=>v=.ref (H.length+5)/\H'=H++gC l.cL H.length (chars x)):=by
 refine hf.en W.B.toBase (n:=m+2) ["text"] ["text","signs","stream","_law_piece"] [(0,.str x)] (λzz zz=>rfl) rfl rfl (by decide +kernel) (by decide +kernel) λenv own frames bd jN gt ED EE=>?_;refine iF (av (AK (bQ (.type "list") (bT W.B.toBase (by rfl) fB.1 fB.2 ⟨rfl,aw (aa 0 rfl rfl (zb rfl (by simp [sizeLine];exact tA hx) (.inl ?_)))⟩))));rw [vP];refine mK (bH (nK (kj (-1) rfl _ (.inl rfl) (by simp) (by simp [chars,sizeLine];exact tA hx) (.inr ?_))));rw [AJ,<-List.map_reverse];refine au 1 rfl (bd 1 _ rfl rfl) ?_;refine iF (av (m7 W.B l.cL W.keep rfl (n:=m+2) (bu _) (ib W.B.toBase (by rfl) W.g ⟨rfl,aw (eW (bz.cls W.B W.UX W.Er ((wK W (H++[.list ((chars x).reverse.map .str)]) .none m).mono λv H' U5=>e0a1 U5 λe1 e2=>⟨e1,?_⟩)))⟩)));refine rE e2 ?_;refine au 2 rfl (bd 2 _ rfl rfl) ?_;have hn:(H++[AO.list ((chars x).reverse.map .str)]).length=H.length+1:=by simp
 rw [hn];refine qS 1 (x:="signs") rfl rfl (rfl) λown' gK Gd U6=>?_;show Eg c (sT ma.scope env own' frames (m+2) ["text","signs","stream","_law_piece"]) _ _ _;have OG:=U6 "_law_piece" (by decide) (bd 3 _ rfl rfl);have hq:env.qual++("_law_piece":Str)="_law_lexer.<locals>._law_piece":=by rw [ED];decide +kernel
 refine iF (GK W.B.toBase hb 0 3 [(1,"signs",.ref H.length)] gt hf.tab hq EE (fC rfl rfl Gd (.inl (by rfl)) trivial) (show freeOk uH.scope ["signs"]=true by decide +kernel) W.site rfl OG ?_);rw [List.append_assoc];generalize hsg:AO.list ((chars x).reverse.map .str)=sg;have Bb:∀(lc:fi),gh ⟨lc,H++([sg]++[.az (fe 1 .none (H.length+1+2)),.inst l.cL (H.length+1),.list []])⟩ (H.length+2) (H.length+1) l.cL (fe 1 .none (H.length+3)):=λlc=>⟨by rw [n9 2];rfl,by rw [n9 1];rfl⟩
 refine iF (av (aa 3 rfl rfl (cx (aa 2 rfl rfl (c7 W.B l.cL (ay W.a5).1 (Bb _) (Nat.le_of_ble_eq_true rfl) ?_)))));rw [uK 1];refine iF (bj (m7 W.B l.cL W.keep rfl (n:=m+2) (bu _) (ib W.B.toBase (by rfl) W.g ⟨rfl,aw (aa 2 rfl rfl (bz.cls W.B W.UX W.Er ((wK W _ _ m).mono λv H' U7=>e0a1 U7 λe1 e2=>(aG e1 ?_ ?_))))⟩)))
 . simp
 . rw [e2];refine hsg▸?_;have hl:(H++([AO.list ((chars x).reverse.map .str)]++[AO.az (fe 1 .none (H.length+1+2)),.inst l.cL (H.length+1),.list []]).set 1 (.az (df (fe 1 .none (H.length+3)) "read" (.fn 0 ([(1,("signs":Str),AV.ref H.length)].map (·.2)))))).length=H.length+4:=by simp
   rw [hl,List.append_assoc];rfl
end
noncomputable def kasRun {α:Type}(o:Nat->Nat->Bool):KasT α->α
 | .ret a=>a
 | .ask i j k=>kasRun o (k (o i j))
noncomputable def mf {α:Type}(n:Nat):KasT α->Bool
 | .ret _=>true
 | .ask i j k=>decide (i < n)&&decide (j < n)&&mf n (k true)&&mf n (k false)
theorem AP (hc:∀i j,i < n->j < n->∀C:Bool->mq,C (o i j) s->cmp i j C s)
 (t:KasT α) (ha:mf n t=true) (h:Q (kasRun o t) s):t.kasWp cmp Q s:=by
 induction t with
 | ret a=>exact h
 | ask i j k ih =>
   simp only [mf,cZ,decide_eq_true_eq] at ha;refine hc i j ha.1.1.1 ha.1.1.2 _ ?_;dsimp only [kasRun] at h;cases hb:o i j with
   | true=>rw [hb] at h;exact ih true ha.1.2 h
   | false=>rw [hb] at h;exact ih false ha.2 h
noncomputable def pf {α:Type}(d:α)(ks:List Int)(xs:List α):List α:=(kasRun (λi j=>decide (ks.getD i 0 < ks.getD j 0)) (kas_sort xs.length)).toList.map λi=>xs.getD i d
theorem ints_get (h:IntsAre vs ns)(i:Nat)(hi:i < ns.length):∃t,vs.getD i Value.none=.int (ns.getD i 0) t:=by
 induction h generalizing i with
 | nil=>exact absurd hi (Nat.not_lt_zero _)
 | cons n t r ih =>
   cases i with
   | zero=>exact (ck t rfl)
   | succ i=>exact ih i (Nat.lt_of_succ_lt_succ hi)
theorem wM (h:IntsAre vs ns):vs.length=ns.length:=by
 induction h with
 | nil=>rfl
 | cons n t r ih=>exact congrArg Nat.succ ih
section
variable {c:bc}{C:Cx}{S:AS}{F F':G}{bs aE:aO}{s s':Shared}{A:Around}{mg mb:fV}{X:dU}{K:dC}{pos:Pos}
theorem bq.picks (h:c.Vs F bs xs vs)(l:fj):c.Vs F bs (l.map λi=>xs.getD i .none) (l.map λi=>vs.getD i Value.none):=by
 induction l with
 | nil=>exact .nil
 | cons i l ih =>
   refine .cons ?_ ih;show cU c.prog c.w c.aD F bs (xs.getD i .none) (vs.getD i Value.none);refine (aq (fW))▸(aq (fW))▸?_;cases hx:xs[i]? with
   | none=>refine rE (h.get_none hx) ?_;exact .none
   | some x=>refine e1a1 (h.get hx) λv e hv=>?_;simp only [e];exact hv
theorem cE.one:cE [a] s {s with heap:=s.heap.update a g}:=⟨λb hb o e=>(Heap.get?_update_ne _ _ _ _ (λq=>hb (by simp only [q];exact .head _))).trans e,rfl,rfl⟩
inductive U8 (c:bc)(C:Cx)(F:G)(bs:aO)(h₀:Heap)(S:AS)(D kS:Addr)(e1:Nat)(ks:List Int)(s':Shared):Prop
 | mk (F':G) (aE:aO) (st:Step C.own F bs h₀ F' aE s'.heap) (z:St c C F' aE S s') (fr:cf c C F' aE [D,kS] s'.heap) (hD:s'.heap.get? D=some (seqObj "list" #[] e1)) (kvs:iy) (e:Nat) (hk:s'.heap.get? kS=some (seqObj "list" (List.toArray kvs) e)) (hi:IntsAre kvs ks)
theorem uL (hA:jW C A)(hh:C.handled=none)(hn:n+1<=C.n)(z:St c C F bs S s)(h:cm S v xs)(h2:2<=xs.length)(pP:xs.length < 64)(zF:ks.length=xs.length)
 (Kj:mf xs.length (kas_sort xs.length)=true) (hf:∀(i:Nat) (x:AV) (k:Int),xs[i]?=some x->ks[i]?=some k->jk c n f [x] S.heap (λr H'=>r=.int k/\H'=S.heap)) (hv:c.V F bs v rv) (Fp:c.V F bs f (.ref q)) (k:lF K (pf .none ks xs) S) :
 WP c C A c.V (call (.builtin "sorted") [rv] [("key",.ref q)]) F bs s K X:=by
 refine e3a2 (z.kz h hv) λl vs n0 o4 h0 be=>?_;refine rE o4 ?_;have hlen:vs.length=xs.length:=be.length;have hsz:vs.length<=sizeLine:=by rw [sizeLine_eq];exact hlen▸ey pP rfl
 refine call_function_entry_kw kind_sorted plain_sorted entry_sorted (ksk_s1 _ _) ?_;unfold Builtin.«sorted»;refine ah (m:=checkCount "sorted" 1 1 _) (aM ?_);refine ah (collect_list (dh _ h0 rfl n0 rfl) ?_ hsz);refine ah (wpAny_newList ?_ hsz);generalize OH:({s with heap:=(s.heap.push (seqObj "list" #[] 0)).update s.heap.objs.size (Obj.mapSeq (·++vs.toArray))}:Shared)=dL;obtain k0:∀b o,s.heap.get? b=some o->dL.heap.get? b=some o:=λb o e=>by rw [<-OH];obtain eX:b < s.heap.objs.size:=Heap.lt_size e;exact (Heap.get?_update_ne _ _ _ _ (bS eX)).trans (bU _ e)
 have Lp:s.heap.get? dL.heap.objs.size=none:=gE (by rw [<-OH];show _<=(Heap.update _ _ _).objs.size;rw [Heap.size_update,fh];exact arith2);generalize oM:({dL with heap:=dL.heap.push (seqObj "list" vs.toArray 0)}:Shared)=O;have Lq:O.heap.get? dL.heap.objs.size=some (seqObj "list" vs.toArray 0):=by rw [<-oM];exact cT _ rfl
 have m1:bf c F bs s O:=⟨λb o e=>by rw [<-oM];exact bU _ (k0 b o e),by rw [<-oM,<-OH],by rw [<-oM,<-OH]⟩
 generalize dL.heap.objs.size=D at Lp Lq;clear oM OH k0;refine ah (wpAny_holding (wpAny_call_entry_kw slot_list_sort (ae _ Lq rfl) entry_list_sort ?body (ksk_l1 _ _)))
 case body =>
 show wpAny (model c.prog c.w) A.in1.in1 (Builtin.«list.sort» ⟨[.ref D],[(Str.ofString "key",.ref q)]⟩) _ _ O;rw [ksk_t1];unfold ksk_tree;obtain z1:=z.keep m1;obtain fD:di c C F bs D:=z.d7 Lp;refine ah (listItems_at Lq rfl ?_);refine ah (listUpdate_at Lq rfl ?_ (hsz) (Nat.zero_le _));obtain ⟨e1,hD2⟩:∃e1,(O.heap.update D (Obj.mapSeq λzz=>(#[]:Array Value))).get? D=some (seqObj "list" #[] e1):=(ck _ (get?_update_seq Lq λzz=>#[]))
 generalize po:({O with heap:=O.heap.update D (Obj.mapSeq λzz=>(#[]:Array Value))}:Shared)=ac;obtain EF:ac.heap.get? D=some (seqObj "list" #[] e1):=by rw [<-po];exact hD2
 obtain o2:cE [D] O ac:=by rw [<-po];exact cE.one
 obtain U9:cf c C F bs [D] O.heap:=⟨λa ha=>by rw [bp ha];exact fD,λa ha=>by rw [bp ha];exact (aH _ Lq (by simp) (by simp))⟩
 obtain z2:=z1.frees o2 U9;obtain X0:Step C.own F bs s.heap F bs ac.heap:=(Step.keep (own:=C.own) m1).others (wr:=[D]) (λa ha=>by rw [bp ha];exact Lp) o2.same;refine ah (seqEpoch_at EF rfl ?_);refine ah (wpAny_newTuple ?_ (hsz));refine ah (wpAny_newList ?_ (Nat.zero_le _));refine wpAny_holding ?_;generalize x9:({ac with heap:=(ac.heap.push (seqObj "tuple" vs.toArray 0)).push (seqObj "list" #[] 0)}:Shared)=ch;generalize X1:(ac.heap.push (seqObj "tuple" vs.toArray 0)).objs.size=kS;obtain X2:ch.heap.get? kS=some (seqObj "list" #[] 0):=by rw [<-x9,<-X1];exact cT _ rfl
 obtain m4:bf c F bs ac ch:=⟨λb o e=>by rw [<-x9];exact bU _ (bU _ e),by rw [<-x9],by rw [<-x9]⟩
 obtain NC:ac.heap.get? kS=none:=gE (by rw [<-X1,fh];exact arith2);obtain hS0:s.heap.get? kS=none:=by
  cases e:s.heap.get? kS with
  | none=>rfl
  | some o=>refine e1a0 (X0.mono _ _ e) λo' e'=>?_;exact bE (aB (aq NC) e')
 obtain z4:=z2.keep m4;obtain fS:di c C F bs kS:=z2.d7 NC;have X3:D≠kS:=λe=>by rw [e,NC] at EF;cases EF
 obtain fr4:cf c C F bs [D,kS] ch.heap:=⟨λa ha=>by
  rcases cu ha with e | ha
  . rw [e];exact fD
  . rw [bp ha];exact fS,λa ha=>by
  rcases cu ha with e | ha
  . rw [e];exact (aH _ (m4.keep _ _ EF) (by simp) (by simp))
  . rw [bp ha];exact (aH _ X2 (by simp) (by simp))⟩
 have OI:∀a∈[D,kS],s.heap.get? a=none:=λa ha=>by
  (refine aN (cu ha) (λe=>?_) (λha=>?_))
  . rw [e];exact Lp
  . rw [bp ha];exact hS0
 unfold ksk_rest;refine ah (wpAny_rule ?_);rw [List.forIn_toArray];refine ah (ksk_fold (λi=>U8 c C F bs s.heap S D kS e1 (ks.take i))
  vs 0 ch ⟨F,bs,X0.trans (.keep m4),z4,fr4,m4.keep _ _ EF,[],0,X2,.nil⟩ (λj x s' hx q19=>q19.casesOn λF' aE gM z' Kk ua kvs e lS hints=>?_) λs' X4=>X4.casesOn λF' aE gM z' Kk ua kvs e lS hints=>?_)
 . rw [Nat.zero_add] at *;have hj:j < xs.length:=by obtain this:=(bN hx).1;exact kW this hlen
   obtain P1:xs[j]?=some xs[j]:=cp hj;obtain X5:ks[j]?=some (ks[j]'(iW hj zF)):=cp (iW hj zF);refine e1a1 ((gM.Vs be).get P1) λw hw JO=>?_;obtain rfl:=Option.some.inj (aB (aq hx) hw);obtain hd:=hA.depth;obtain hu:=hA.units;refine ah (wpAny_attempt (wpAny_call (codeAny_mono (hf j _ _ P1 X5 A.in1.in1 F' aE s' (.ref q) [x] C.frames (hA.handled.trans hh) (by show A.depth+n < _;exact Nat.lt_trans (gD hn _) hd) (by show A.units+1+1+20*n < _;exact Co hn hu) hA.frames z'.frames z'.wd (gM.V Fp) (.cons JO .nil)) λr jf ⟨rH,kc,v'',H',aak,own,er,gW,qu,Va,Vb,ev,eH⟩=>?_)));subst er ev eH;refine e1a0 Vb.inv λtk o3=>?_;refine rE o3 ?_;obtain Dk:=z'.after qu gW Va;obtain uk:∀a∈[D,kS],a∉own:=λa ha m=>by refine e1a1 (Kk.at_ a ha) λo e zz=>?_;exact bE (aB (aq (gW a m)) e)
   refine e0a1 (Kk.vJ uk qu) λKl same=>?_;obtain Ac:=same D (.head _) _ ua;obtain Db:=same kS (.tail _ (.head _)) _ lS;obtain hkl:kvs.length=j:=by rw [wM hints,List.length_take];exact Nat.min_eq_left (zF▸bF hj)
   try dsimp only
   refine ah (listUpdate_at Db rfl ?_ (by rw [List.size_toArray,sizeLine_eq];exact hkl▸ey (Nat.lt_trans hj pP) rfl) (aV (Nat.le_of_eq (Array.size_push ..)) (by rw [List.size_toArray,sizeLine_eq];exact hkl▸Nat.succ_le_succ (ey (Nat.lt_trans hj pP) rfl))));obtain ea:(List.toArray kvs).push (.int (ks[j]'(iW hj zF)) tk)=List.toArray (kvs++[.int (ks[j]'(iW hj zF)) tk]):=by simp
   obtain up:=get?_update_seq Db (·.push (.int (ks[j]'(iW hj zF)) tk));rw [ea] at up;obtain T:cE [kS] jf {jf with heap:=jf.heap.update kS (Obj.mapSeq (·.push (.int (ks[j]'(iW hj zF)) tk)))}:=cE.one;obtain Vc:cf c C rH kc [kS] jf.heap:=⟨λa ha=>Kl.free a (.tail _ ha),λa ha=>Kl.at_ a (.tail _ ha)⟩
   obtain X6:=T.same D (by simpa using X3) _ Ac;refine aM ⟨rfl,rH,kc,(gM.trans (qu.widen λa ha=>.inr (gW a ha))).others (wr:=[kS]) (λa ha=>OI a (.tail _ ha)) T.same,Dk.frees T Vc,⟨Kl.free,λa ha=>?_⟩,X6,_,_,up,?_⟩
   . rcases cu ha with e | ha
     . rw [e];exact (aH _ X6 (by simp) (by simp))
     . rw [bp ha];exact (aH _ up (by simp) (by simp))
   . obtain this:ks.take (j+1)=ks.take j++[ks[j]'(iW hj zF)]:=by rw [List.take_succ,X5];rfl
     rw [this];exact ksk_snoc hints
 . rw [Nat.zero_add,hlen,<-zF,List.take_length] at hints;obtain hkl:kvs.length=vs.length:=by rw [wM hints,zF,hlen]
   try dsimp only
   refine ah (listItems_at lS rfl ?_);unfold ksk_end
   try dsimp only
   obtain IK:¬vs.toArray.size < 2:=by rw [List.size_toArray];exact Nat.not_lt.mpr (hlen▸h2)
   simp only [dQ,if_false];rw [if_neg IK,if_neg IK,ksk_kind (keys:=List.toArray kvs) hints (by rw [List.size_toArray];exact hkl▸hlen▸h2)];refine ah (aM ?_);obtain OJ:(kas_sort vs.length).kasWp (kas_ask c.prog c.w A.in1.in1 oneType' kvs) (λp jf=>p=kasRun (λi j=>decide (ks.getD i 0 < ks.getD j 0)) (kas_sort vs.length)/\jf=s') s':=by refine AP (n:=vs.length) (o:=λi j=>decide (ks.getD i 0 < ks.getD j 0)) (λi j hi hj C hC=>?_) _ (by rw [hlen];exact Kj) ⟨rfl,rfl⟩;refine e1a0 (ints_get hints i (zF▸hlen▸hi)) λt1 g1=>?_;obtain ⟨t2,g2⟩:=ints_get hints j (zF▸hlen▸hj);show wpAny (model c.prog c.w) A.in1.in1 (keyLt' oneType' (kvs.getD i Value.none) (kvs.getD j Value.none)) C (λzz zz=>False) s';rw [g1,g2];exact kat_lt_int hC
   refine ah (aQ (kat_run (Q:=λgM jf=>∃p:Array Nat,p.size=vs.length/\arrOf gM=p.map (kas_item ((List.toArray kvs).zip (List.toArray vs)))/\failedOf gM=none/\p=kasRun (λi j=>decide (ks.getD i 0 < ks.getD j 0)) (kas_sort vs.length)/\jf=s')
    hkl (hlen▸h2) (tG pP hlen) (λp' gM jf a1 a2 a3 a4=>(lQ p' a1 a2 a3 a4)) OJ) ?_ λzz zz x=>x)
   intro o1;obtain ⟨⟨⟩,st⟩:=o1;intro jf o2;clear OJ X4;obtain ⟨p,hp,har,qz,hpe,rfl⟩:=o2
   try dsimp only
   unfold ksk_tail
   try dsimp only
   simp only [dQ,if_false];rw [kat_snds hkl har];obtain pc:(p.toList.map λi=>vs.getD i Value.none).length < 64:=by rw [fz,Array.length_toList,hp];exact tG pP hlen
   generalize uk:(p.toList.map λi=>vs.getD i Value.none)=out at pc;refine ah (listUpdate_at lS rfl ?_ (by rw [List.size_toArray,sizeLine_eq];exact hkl▸hlen▸ey pP rfl) (Nat.zero_le _));obtain up:=get?_update_seq lS λzz=>(#[]:Array Value)
   obtain T5:cE [kS] jf {jf with heap:=jf.heap.update kS (Obj.mapSeq λzz=>(#[]:Array Value))}:=cE.one;generalize hs5:({jf with heap:=jf.heap.update kS (Obj.mapSeq λzz=>(#[]:Array Value))}:Shared)=dW at T5;obtain P3:=T5.same D (by simpa using X3) _ ua;obtain Vc:cf c C F' aE [kS] jf.heap:=⟨λa ha=>Kk.free a (.tail _ ha),λa ha=>Kk.at_ a (.tail _ ha)⟩
   obtain z5:=z'.frees T5 Vc;obtain st5:=gM.others (wr:=[kS]) (λa ha=>OI a (.tail _ ha)) T5.same;refine ah (wpAny_letGo ?_);refine ah (seqEpoch_at P3 rfl ?_);refine ah (listUpdate_at P3 rfl ?_ (Nat.zero_le _) (by rw [List.size_toArray,sizeLine_eq];exact ey pc rfl));obtain upD:=get?_update_seq P3 λzz=>List.toArray out;obtain T6:cE [D] dW {dW with heap:=dW.heap.update D (Obj.mapSeq λzz=>List.toArray out)}:=cE.one;generalize hs6:({dW with heap:=dW.heap.update D (Obj.mapSeq λzz=>List.toArray out)}:Shared)=qs at T6;obtain Vd:∃c2,qs.heap.get? D=some (bx out c2):=by rw [<-hs6];exact (ck _ upD)
   obtain ⟨c2,Vd⟩:=Vd;obtain frD:cf c C F' aE [D] dW.heap:=⟨λa ha=>by rw [bp ha];exact Kk.free D (.head _),λa ha=>by rw [bp ha];exact (aH _ P3 (by simp) (by simp))⟩
   obtain z6:=z5.frees T6 frD;obtain st6:=st5.others (wr:=[D]) (λa ha=>by rw [bp ha];exact Lp) T6.same;rw [qz];simp only [bne_self_eq_false,dQ,if_false];obtain hv6:c.Vs F' aE (pf .none ks xs) out:=by rw [<-uk,hpe,hlen];exact bq.picks (gM.Vs be) _
   obtain ⟨F7,bs7,v7,S7,st7,z7,hv7,k7,_⟩:=z6.Dj st6 Lp (Kk.free D (.head _)) Vd hv6 k;exact aM (ae _ rfl (aM (ae _ rfl ⟨F7,bs7,v7,S7,st7,z7,hv7,k7⟩)))
end
noncomputable def sW:kE:=dg iC 15
noncomputable def inside (p:Lf):Lf:=(p.es.map Xr).headD p
noncomputable def EG:Lf:=inside (inside (xT sW.body 0))
noncomputable def oh:lR:=⟨"<lambda>","_law_rank.<locals>.<lambda>",EG.f.params,(EG.es.map FuncBody.expr).headD (.stmts []),EG.f.scope⟩
noncomputable def behind (d:List (Str×List Str))(o:ag)(x:Str):Nat:=(o.filter λy=>((bB d y).getD []).any (·==x)).length
noncomputable def cj (d:List (Str×List Str))(o:ag):ag:=pf "" (o.map λx=>-(behind d o x:Int)) o
section
variable {c:bc}{C:Cx}{S:AS}{F F':G}{bs aE:aO}{s s':Shared}{A:Around}{mg mb:fV}{X:dU}{K:dC}{pos:Pos}{Kf:Frag}{l:kL}
inductive OK (c:bc)(C:Cx)(v:AV)(K:dC)(kf:AV)(aY:AS):Prop
 | mk (site:Nat) (caps:eQ) (xs:dB) (ks:List Int) (n:Nat) (h1:kf=.fn site caps) (h2:n+1<=C.n) (h3:cm aY v xs) (h4:2<=xs.length) (h5:xs.length < 64) (h6:ks.length=xs.length) (h7:mf xs.length (kas_sort xs.length)=true)
   (h8:∀(i:Nat) (x:AV) (k:Int),xs[i]?=some x->ks[i]?=some k->jk c n (.fn site caps) [x] aY.heap (λr H'=>r=.int k/\H'=aY.heap)) (h9:lF K (pf .none ks xs) aY)
theorem uM {f e fn:Expr}{kp:Pos}(hh:C.handled=none)
 (h:Ev c C f S (λv Z=>v=.raw (.builtin "sorted")/\pO c C pos [e] Z (λvs aF=>∃v,vs=[v]/\Ev c C fn aF (OK c C v K) X) X) X)
 (he:eval (.Call f [e] [⟨some "key",fn,kp⟩] pos) C.env=(do callWith pos (<-eval f C.env) [] (backTo pos (starEach [e] C.env)) (backToKw pos (keywordEach [⟨some "key",fn,kp⟩] C.env))):=by rfl)
 (X7:backTo pos (starEach [e] C.env)=(false,eval e C.env)::backTo pos (starEach [] C.env):=by rfl):Ev c C (.Call f [e] [⟨some "key",fn,kp⟩] pos) S K X:=by
 intro A F bs s hA z;rw [he];refine WP.bind (h A F bs s hA z) λF₁ bs₁ Z O v r al an hv OL=>e0a1 OL λev k₁=>?_;clear OL;subst ev;cases hv;obtain pc:(backTo pos (starEach [e] C.env)).any (·.1)=false:=by rw [X7];rfl
 refine callWith_kw ?_ X7 pc;refine aQ (k₁ A F₁ bs₁ O hA an) (λrs ac ⟨aX,ap,vs,aF,am,aJ,be,v,ev,k₂⟩=>?_) λzz zz e=>e;subst ev;refine e1a1 be.one λrv mo Rh=>?_;refine rE mo ?_;refine kws_cons ?_;refine aQ (k₂ A aX ap ac hA aJ) (λrf aP ⟨bi,aK,kf,aY,aA,a6,X8,site,caps,xs,ks,n,ekf,hn,NP,h2,pP,zF,Kj,Km,bn⟩=>?_) λx aP Kn=>Kn.casesOn λbi aK cls aY aA a6 hx bn=>⟨bi,aK,cls,aY,am.trans aA,a6,hx.back am.mono,bn⟩
 subst ekf;refine kws_nil ?_;obtain ⟨q,rfl⟩:∃q,rf=.ref q:=by cases X8;exact (ck _ rfl)
 have Ko:=am.trans aA;refine aQ (uL (X:=X) (f:=.fn site caps) hA hh hn a6 NP h2 pP zF Kj Km (aA.V Rh) X8 bn) (λw ch Ve=>Ve.casesOn λec ca v co ce cr hv kk=>⟨ec,ca,v,co,Ko.trans ce,cr,hv,kk⟩) λx ch Vf=>Vf.casesOn λec ca cls co ce cr hx kk=>⟨ec,ca,cls,co,Ko.trans ce,cr,hx.back Ko.mono,kk⟩
theorem ir:∃T id,xw S (.aZ kvs)=some T/\typeLookup (.type T) "__getitem__"=pure (some (.builtin id)):=(eO ("dict") _ rfl PySem.F.slot_dict_getitem.lookup)
noncomputable abbrev wN:Scope:=oh.scope
theorem Kp (B:Base c mg mb)(hs:c.aD 1=oh)(fB:c9 mg mb "len" (.builtin "len"))(d:List (Str×List Str))(o:ag)(ho:o.length < 60)(hd:∀y∈o,(bB d y).isSome=true)(x:Str)(H:bg)(m:Nat) :
 jk c (m+1) (.fn 1 [("downs",.aZ (br af d)),("order",af o)]) [.str x] H (λr H'=>r=.int (-(behind d o x:Int))/\H'=H):=by
 refine jk.XM B oh hs ["name"] ["downs","order"] ["name","downs","order"] [(1,.aZ (br af d)),(2,af o),(0,.str x)] (λzz zz=>rfl) rfl rfl rfl (rfl) (rfl) λenv own frames bd jN=>?_;refine mK (bQ (.builtin "len") (bT B (rfl) fB.1 fB.2 ⟨rfl,?_⟩));refine aw (ll (sc:=wN) ["downs","name","other"] [(1,"downs",.aZ (br af d)),(0,"name",.str x)] rfl (fC rfl rfl rfl rfl trivial) (show eJ _ _ ["downs","name"] _=true by decide) (eA (aa 2 (rfl) (rfl) (ae _ (.inl rfl) ⟨(fC rfl rfl rfl rfl trivial),λwn own' im=>?_⟩))));refine ⟨λi acc S'=>S'=⟨[(0,.aZ (br af d)),(1,.str x)],H⟩/\acc=((o.take i).filter λy=>((bB d y).getD []).any (·==x)).map .str,⟨rfl,rfl⟩,?_,?_,?_⟩
 . intro i acc S' o1;refine e0a1 o1 λo9 nO=>?_;clear o1;obtain rfl:=o9;obtain rfl:=nO;refine ⟨.inl rfl,?_⟩;obtain this:=List.length_filter_le (λy=>((bB d y).getD []).any (·==x)) (o.take i);simp only [List.length_map,sizeLine];simp only [List.length_take] at this;exact (ey (cD (aV this (Nat.min_le_right ..)) ho) rfl)
 . intro i y acc S' hy o2;refine e0a1 o2 λo7 o8=>?_;clear o2;obtain rfl:=o7;obtain rfl:=o8;replace hy:=(List.getElem?_map)▸hy;refine e1a1 (Option.map_eq_some_iff.mp hy) λw hw o6=>?_;refine o6▸?_;obtain oO:o.take (i+1)=o.take i++[w]:=by simp only [List.take_add_one,hw];rfl
   obtain hdw:=hd w (List.mem_of_getElem? hw);refine e1a0 (Option.isSome_iff_exists.mp hdw) λrow pp=>?_;refine au 2 rfl (im _ (.inl rfl)) ?_;refine bh (aa 1 rfl rfl (cV (aa 0 rfl rfl (aa 2 rfl rfl ⟨ir,gz (y:=af row) (.inl rfl) ?_ (qj (l:=row) (.inl rfl) (aT ?_))⟩))))
   . simp only [eF,pp];rfl
   cases hb:row.any (·==x) with
   | false =>refine (aH [(0,.aZ (br af d)),(1,.str x)] (aG rfl rfl trivial) rfl ?_);rw [oO];simp [List.filter_append,pp,hb]
   | true =>refine aa 2 rfl rfl (aH [(0,.aZ (br af d)),(1,.str x)] (aG rfl rfl trivial) rfl ?_);rw [oO];simp [List.filter_append,pp,hb]
 . intro acc S' o3;refine e0a1 o3 λo4 o5=>?_;clear o3;obtain rfl:=o4;obtain rfl:=o5;refine .inl ?_;refine CX (.inl rfl) ?_ (nK ⟨?_,rfl⟩)
   . obtain this:=List.length_filter_le (λy=>((bB d y).getD []).any (·==x)) o;simp;exact hZ (Nat.lt_of_le_of_lt this ho) rfl
   . simp [behind]
end
noncomputable def nz (n:Nat):KasT (Array Nat)->Bool
 | .ret a=>a.toList.all λi=>decide (i < n)
 | .ask _ _ k=>nz n (k true)&&nz n (k false)
theorem wO (t:KasT (Array Nat))(h:nz n t=true):∀i∈(kasRun o t).toList,i < n:=by
 induction t with
 | ret a=>exact λi hi=>of_decide_eq_true (List.all_eq_true.mp h i hi)
 | ask a b k ih =>
   refine e0a1 (Bool.and_eq_true_iff.mp h) λh1 h2=>?_;dsimp only [kasRun];cases o a b with
   | true=>exact ih true h1
   | false=>exact ih false h2
theorem OM:mf 5 (kas_sort 5)=true/\nz 5 (kas_sort 5)=true:=by decide +kernel
theorem AQ (d:α)(d':β)(f:α->β)(ks:List Int)(xs:List α)(h:nz xs.length (kas_sort xs.length)=true):pf d' ks (xs.map f)=(pf d ks xs).map f:=by delta pf;simp only [fz,List.map_map];apply List.map_congr_left;intro i hi;obtain this:=wO _ h i hi;simp [fW,cp this]
section
variable {c:bc}{mg mb:fV}
theorem GV (B:Base c mg mb)(hf:l7 c fa sW .none "_law_rank" cc P (λzz=>"_law_rank.<locals>.<lambda>"))(hbm:kK c mg)(hs:c.aD 1=oh)(fB:c9 mg mb "len" (.builtin "len"))(lp:c9 mg mb "sorted" (.builtin "sorted"))
 (d:List (Str×List Str)) (o:ag) (ho:o.length=5) (hd:∀y∈o,(bB d y).isSome=true) (m:Nat) :
 bz c (m+3) (.ref fa) [.aZ (br af d),af o] [] (λv H'=>v.under 0=true/\v=af (cj d o)):=by
 refine hf.en B (n:=m+2) ["downs","order"] ["downs","order"] [(0,.aZ (br af d)),(1,af o)] (λzz zz zz=>rfl) rfl rfl (rfl) (rfl) λenv own frames bd jN gt ED EE=>?_;refine qS 0 (x:="downs") rfl rfl (rfl) λaal X9 ON Yb=>?_;refine qS 1 (x:="order") rfl rfl (by rfl) λKq OO OP Yc=>?_;show Eg c (sT sW.scope env Kq frames (m+2) ["downs","order"]) _ _ _;obtain hq:env.qual++("<lambda>":Str)="_law_rank.<locals>.<lambda>":=by rw [ED];decide +kernel
 refine iF (bj (uM rfl (bT B (rfl) lp.1 lp.2 ⟨rfl,aw (aa 1 rfl rfl (ae _ rfl ?_))⟩)));refine AH B hbm 1 [(0,"downs",.aZ (br af d)),(1,"order",af o)] gt hf.tab hq EE (ix rfl rfl (λa e q=>ON a e (OO a q)) (.inl (rfl)) rfl rfl OP (.inl (rfl)) trivial) (show freeOk wN ["downs","order"]=true by decide) hs ?_;refine ⟨1,_,_,o.map λx=>-(behind d o x:Int),m+1,rfl,by show m+1+1<=m+2;exact (bu (_+1+1)),.inl rfl,by simp [ho],by simp [ho],by simp,by rw [fz,ho];exact OM.1,λi x k hx hk=>?_,.inl ?_⟩
 . rw [dw] at hx hk;refine e1a1 (mw hx) λw hw o2=>?_;refine o2▸?_;refine e1a1 (mw hk) λw' un o1=>?_;refine o1▸?_;refine (bo (aB (aq hw) un))▸?_;exact Kp B hs fB d o (aq ho▸bF (Nat.le_add_left (Nat.succ 5).succ 53)) hd w _ m
 . rw [AQ ("":Str) AV.none AV.str _ o (by rw [ho];exact OM.2)];exact ⟨bb _ _,rfl⟩
end
noncomputable def qY:kE:=dg iC 16
structure RS where
 nds:List Nd
 ready:ag
 a8:Int
 fin:Int
 push:ag
 ev:ag
noncomputable def isIn (l:ag)(x:Str):Bool:=l.any (·==x)
noncomputable def ff (rank ready:ag):ag:=rank.filter (isIn ready)
noncomputable def fo (rank:ag)(best:Bool)(p:ag):ag:=if best then rank.filter (isIn p) else p
noncomputable def Fy (st:RS):Bool:=st.ready.all (λx=>(st.nds.map (·.1)).any (·==x))&&decide (st.ready.length < 100)&&decide (st.push.length < 100)&&decide (st.ev.length < 100) &&
 st.nds.all (λy=>decide (y.2.2.length < 100)&&y.2.2.all λs=>(st.nds.map (·.1)).any (·==s))
noncomputable def sX (rank:ag)(best:Bool)(st:RS):Option RS :=
 match fo rank best (st.push++ff rank st.ready) with
 | []=>none
 | x::p=>if dO (outs st.nds st.ready) x==-1&&(st.nds.map (·.1)).any (·==x) then
    some ⟨(et (outs st.nds st.ready) [] x).1,(et (outs st.nds st.ready) [] x).2,st.a8+st.ready.length,st.fin+1,p,st.ev++ff rank st.ready++[x]⟩ else none
noncomputable def simLoop (rank:ag)(best:Bool):Nat->RS->Option ag
 | 0,_=>none
 | n+1,st=>if decide (st.fin < st.a8)||!st.ready.isEmpty then (if Fy st then (sX rank best st).bind (simLoop rank best n) else none) else some st.ev
noncomputable def ak (hG:List (Str×List Str))(x:Str):ag:=(bB hG x).getD []
noncomputable def cC (hG:List (Str×List Str))(rank:ag):List Nd:=rank.foldl (λl x=>fc l x (ak hG x)) []
noncomputable def sim (hG:List (Str×List Str))(rank:ag)(best:Bool):Option ag:=simLoop rank best 20 ⟨cC hG rank,cW (cC hG rank),0,0,[],[]⟩
theorem wQ (nds:List Nd)(x:Str)(bV:ag):(fc nds x bV).length<=nds.length+1+bV.length:=by
 refine aV (nt x bV _) ?_;obtain this:(bump (bI nds x) x bV.length).length=(bI nds x).length:=by simp [bump]
 obtain this:=l5 nds x;exact Ct ‹_› this
theorem nA (hG:List (Str×List Str))(l:ag)(x:Str):cC hG (l++[x])=fc (cC hG l) x (ak hG x):=by simp [cC]
theorem lM (hG:List (Str×List Str))(k:Nat):∀(l:ag),(∀x∈l,(ak hG x).length<=k)->∀i,(cC hG (l.take i)).length<=i*(k+1)/\dX (cC hG (l.take i)) (i*k):=by
 intro l hk i;induction i with
 | zero=>simp [cC,dX]
 | succ i ih =>
   cases hx:l[i]? with
   | none =>
     have:l.take (i+1)=l.take i:=by refine (aq List.take_add_one)▸(aq hx)▸?_;simp
     refine rE this ?_;refine ⟨aV ih.1 (Nat.mul_le_mul_right _ arith2),λy hy=>aV (ih.2 y hy) (Nat.mul_le_mul_right _ arith2)⟩
   | some x =>
     obtain this:l.take (i+1)=l.take i++[x]:=by rw [List.take_add_one,hx];simp
     rw [this,nA];obtain hb:=hk x (ct hx);refine ⟨?_,?_⟩
     . refine aV (wQ _ _ _) ?_;obtain this:=ih.1;simp only [Nat.succ_mul];exact Cu this hb
     . obtain h1:=dX.bV (x:=x) (ak hG x) ((ih.2.bI x).bump x (ak hG x).length);intro y hy;refine aV (h1 y hy) ?_;simp only [Nat.succ_mul];exact fX hb _
theorem bw.oi (h:bw S L)(hi:L.all (λp=>p.1 != i)=true):bw (S.put i v) L:=by
 induction L with
 | nil=>trivial
 | cons p r ih =>simp only [List.all_cons,cZ,bne_iff_ne,ne_eq] at hi;refine ⟨?_,ih h.2 hi.2⟩;rw [aC,if_neg hi.1];exact h.1
theorem bw.heap (h:bw S L)(H:bg):bw {S with heap:=H} L:=by
 induction L with
 | nil=>trivial
 | cons p r ih=>exact ⟨h.1,ih h.2⟩
section
variable {c:bc}{mg mb:fV}{Kf:Frag}{a:sP}{l:kL}
structure gT (a:sP)(l:kL)(H:bg)(ns:fj)(push ev:ag):Prop where
 lx:LX H l.cL 3 [] 1 push
 GW:H[10]?=some (.list (ev.map .str))
 Bk:∀n∈ns,11<=n
 len:11<=H.length
theorem gT.ext (x:gT a l H ns push ev)(e:Ext H H' P)(h:∀j,3<=j->j < 11->¬P j)(hf:∀n∈r4,11<=n):gT a l H' r4 push ev :=
 ⟨x.lx.ext e λj h1 h2=>h j h1 (Nat.le.step h2),(e.same 10 (by obtain this:=x.len;exact this) (h 10 Bt (by decide))).trans x.GW,hf,aV x.len e.le⟩
noncomputable abbrev AR:ag:=["needs","rank","best","sorter","line","events","name","group","fresh","waiting"]
noncomputable abbrev kg (nd:List (Str×List Str))(rank:ag)(best:Bool):fi:=[(0,.aZ (br af nd)),(1,af rank),(2,.bool best),(3,.ref 1),(4,.ref 8),(5,.ref 10)]
end
structure GX (c:bc)(mg mb:fV)(a:sP)(ww:Addr):Prop where
 EH:mg "_law_lexer"=some (.ref ww)
 EI:c9 mg mb "set" (.type "set")
 EJ:c9 mg mb "iter" (.builtin "iter")
 yk:c9 mg mb "len" (.builtin "len")
 H8:c9 mg mb "StopIteration" (.type "StopIteration")
 H9:c9 mg mb "bool" (.type "bool")
 EK:c9 mg mb "tuple" (.type "tuple")
 nB:c9 mg mb "list" (.type "list")
 out:∃tk,mg "_NODE_OUT"=some (.int (-1) tk)
 done:∃tk,mg "_NODE_DONE"=some (.int (-2) tk)
 mod:kK c mg
 uN:∃cc P,l7 c ww ma .none "_law_lexer" cc P (λzz=>"_law_lexer.<locals>._law_piece")
 Ia:∃t o tn,eG c a.sQ pR (.ref t)/\c.h₀.get? t=some o/\o.cls≠.none/\o.data=.seq #[.none] tn
section
variable {c:bc}
theorem l7.fnAt (h:l7 c fa f dV qn cc P q):FnAt c fa:=by obtain ⟨o,fd,h1,h2,h3,_⟩:=h.at_;exact (b7 o fd h1 h2 h3)
end
noncomputable def GY:fk:=nV qY.body 3
section
variable {c:bc}{mg mb:fV}{Kf:Frag}{a:sP}{l:kL}
theorem SR.ext (x:SR H a d ns nds r ready a8 fin)(e:Ext H H' P)(h:∀j,(j=d\/j=d+1\/j=r\/d+11<=j)->¬P j)(hf:∀n∈ns,d+11<=n):SR H' a d ns nds r ready a8 fin:=by obtain lt:∀{j o},H[j]?=some o->j < H.length:=λh=>(bN h).1;refine ⟨(e.same _ (lt x.inst) (h _ (by simp +arith))).trans x.inst,(e.same _ (lt x.dict) (h _ (Or.inl rfl))).trans x.dict,(e.same _ (lt x.list) (h _ (by simp +arith))).trans x.list,⟨x.nodes.len,λi m y h1 h2=>?_,x.nodes.low,x.nodes.gap⟩,x.names,x.AE,x.Lj⟩;obtain this:=hf m (ct h1);exact (x.nodes.at_ i m y h1 h2).same λj hj q=>e.same j hj (h j (Cq this q))
theorem gT.ny (x:gT a l H ns push ev)(wv:ag):gT a l (H.set 9 (.list (wv.map .str))) ns wv ev :=
 ⟨x.lx.ny,(hB (by decide)).trans x.GW,x.Bk,by simpa using x.len⟩
theorem gT.setEv (x:gT a l H ns push ev)(Yd:ag):gT a l (H.set 10 (.list (Yd.map .str))) ns push Yd :=
 ⟨x.lx.ext (P:=λj=>j=10) (Ext.set 10 _ rfl) λj h1 h2 h3=>bS h2 h3,sV x.GW,x.Bk,by simpa using x.len⟩
theorem SR.EL (hj:j=9\/j=10)(x:SR H a 0 ns nds r ready a8 fin)(hr:11<=r)(hf:∀n∈ns,11<=n):SR (H.set j o) a 0 ns nds r ready a8 fin :=
 x.ext (P:=λi=>i=j) (Ext.set j o rfl) (λi h1 h2=>B7 hr h1 h2 hj) (λn hn=>by obtain this:=hf n hn;exact this)
theorem gT.run (x:gT a l H ns push ev)(e:Ext H H' (fy 0 ns r))(hr:11<=r):gT a l H' ns push ev :=
 x.ext e (λj h1 h2 h3=>by
  rcases h3 with h3 | h3 | h3 | ⟨m,hm,h3⟩
  . exact yP h1 h3
  . exact bS h1 (id (aq h3))
  . exact Nat.not_le.mpr h2 (h3▸hr)
  . obtain this:=x.Bk m hm;exact vc this h2 h3) x.Bk
theorem bw.re (h:bw S L)(hv:∀p∈L,p.1=i->p.2=v):bw (S.put i v) L:=by
 induction L with
 | nil=>exact trivial
 | cons p r ih =>
   refine ⟨?_,ih h.2 λp hp=>hv p (.tail _ hp)⟩;rw [aC];by_cases e:p.1=i
   . rw [if_pos e];exact congrArg some (hv p (.head _) e).symm
   . rw [if_neg e];exact h.1
theorem bw.ev5 (h:bw S (kg nd rank best)):bw (S.put 5 (.ref 10)) (kg nd rank best):=h.re λp hp e=>by simp only [kg,List.mem_cons,List.not_mem_nil,or_false] at hp;rcases hp with rfl | rfl | rfl | rfl | rfl | rfl <;> simp at e ⊢
theorem zG (V:Lex c mg mb Kf l)
 (hL:bw S (kg nd rank best)) (h6:S.loc.lookup 6=some (.str x)) (sr:SR S.heap a 0 ns nds r ready a8 fin) (ru:gT a l S.heap ns push ev) (pr:11<=r) (hp:push.length < 1000) (hline:(p2.endLine==p4.line)=true) {K:ip}
 (k:∀H',SR H' a 0 ns nds r ready a8 fin->gT a l H' ns (push++[x]) ev->K .next {S with heap:=H'}) :
 nH c (qK qY env own frames (n+5) AR) (.Expr (.Call (.Attribute (.Name "line" p1) "push_token" p2) [.Name "name" p3] [] p4) p5) S K gX:=by
 refine bZ (cP V.B l.cL l.push (n:=n+1) V.H4 rfl (by skip;exact kR) (aa 4 rfl hL.2.2.2.2.1 ⟨8,7,_,rfl,ru.lx.lex,rfl,?_⟩) (hline:=hline)) (by rfl);refine aw (aa 6 rfl h6 ((GS V ru.lx hp x n).mono λv H' Ye=>e0a1 Ye λzz e=>?_));clear Ye;subst e;exact k _ (sr.EL (.inl rfl) pr ru.Bk) (ru.ny _)
theorem r9 (nds:List Nd)(x:Str)(k:Int):(cX nds x k).map (λy=>(y.1,y.2.2))=nds.map (λy=>(y.1,y.2.2)):=by
 delta cX;rw [List.map_map];apply List.map_congr_left;intro p _;show ((if p.1=x then (p.1,k,p.2.2) else p).1,(if p.1=x then (p.1,k,p.2.2) else p).2.2)=_
 split <;> rfl
theorem yl:∀(xs:ag) (nds:List Nd),(outs nds xs).map (λy=>(y.1,y.2.2))=nds.map (λy=>(y.1,y.2.2)):=by
 intro xs;induction xs with
 | nil =>intro _;exact rfl
 | cons x xs ih =>intro nds;exact (ih (cX nds x (-1))).trans (r9 nds x (-1))
theorem AU:cA nds x=[]\/∃y∈nds,y.1=x/\cA nds x=y.2.2:=by
 delta cA;cases h:nds.find? λy=>decide (y.1=x) with
 | none=>left;rfl
 | some y=>right;exact (aH y (List.mem_of_find?_eq_some h) (by simpa using List.find?_some h) rfl)
theorem GZ (W:r0 c mg mb Kf a)(V:Lex c mg mb Kf l)(G:GX c mg mb a ww)(nd:List (Str×List Str))(rank:ag)(best:Bool)(hr:rank.length<=10)
 (bd:∀(i:Nat) x,AR[i]?=some x->bG (qK qY env own frames (n+5) AR) (λzz=>none) x) {st gM:RS} (eI:Fy st=true) (nw:sX rank best st=some gM)
 (hL:bw S (kg nd rank best)) (sr:SR S.heap a 0 ns st.nds r st.ready st.a8 st.fin) (ru:gT a l S.heap ns st.push st.ev) (pr:11<=r) :
 Ex c (qK qY env own frames (n+5) AR) GY S (λfl S'=>fl=.next/\bw S' (kg nd rank best)/\SR S'.heap a 0 ns gM.nds r gM.ready gM.a8 gM.fin/\gT a l S'.heap ns gM.push gM.ev) gX:=by
 simp only [Fy,cZ,decide_eq_true_eq,List.all_eq_true] at eI;refine e0a1 eI λxr o5=>?_;clear eI;refine e0a1 xr λyV o4=>?_;clear xr;refine e0a1 yV λK9 o3=>?_;clear yV;obtain ⟨o1,o2⟩:=K9;have uO:∀{l:ag} {x:Str},(l.any (·==x))=true->x∈l:=λ{l x} h=>by
  refine e1a1 (List.any_eq_true.mp h) λy hy e=>?_;have:y=x:=by simpa using e
  exact this▸hy
 refine e1a0 G.out λtk hO=>?_;refine e1a0 G.done λtk2 hD=>?_;refine ab (av (cP W.B a.cS a.ready (n:=n+1) W.DZ rfl (by show n+1<=n+5;exact kR) (aa 3 rfl hL.2.2.2.1 ⟨1,0,_,rfl,⟨sr.inst,sr.dict⟩,rfl,bM ?_⟩)));refine (Ed W G.EK G.yk hO sr (λx hx=>uO (o1 x hx)) (mD o2) n).mono λv H1 ⟨ev,Ib,e1⟩=>?_;subst ev;refine au 7 rfl (bd 7 _ rfl) ?_;have Kr:=ru.run e1 pr;have Ic:bw ({S with heap:=H1}.put 7 (.tup (st.ready.map .str))) (kg nd rank best):=(hL.heap H1).oi (rfl);have h7:=eK {S with heap:=H1} 7 (.tup (st.ready.map .str));have Yg:({S with heap:=H1}.put 7 (.tup (st.ready.map .str))).heap=H1:=rfl;generalize {S with heap:=H1}.put 7 (.tup (st.ready.map .str))=S1 at Ic h7 Yg;subst Yg;have qz:(ff rank st.ready).length<=10:=aV (List.length_filter_le _ _) hr;refine ab (fK (sc:=qY.scope) ["group","name"] [(7,"group",.tup (st.ready.map .str))] rfl (aG rfl h7 trivial) (show eJ _ _ ["group"] _=true by decide +kernel) (eA (aa 1 rfl Ic.2.1 (ae _ (.inl rfl) ⟨(aG rfl h7 trivial),λwn own' im=>?_⟩))));refine ⟨λi acc S'=>S'=⟨[(0,.tup (st.ready.map .str))],S1.heap⟩/\acc=((rank.take i).filter (isIn st.ready)).map .str,⟨rfl,rfl⟩,?_,?_,?_⟩
 . intro i acc S' o1;refine e0a1 o1 λyX yW=>?_;clear o1;obtain rfl:=yX;obtain rfl:=yW;refine ⟨.inl rfl,?_⟩;have:=List.length_filter_le (isIn st.ready) (rank.take i);simp only [fz,sizeLine,List.length_take] at *;exact mx (aV this (aV (Nat.min_le_right ..) hr)) rfl
 . intro i y acc S' hy o2;refine e0a1 o2 λs4 wT=>?_;clear o2;obtain rfl:=s4;obtain rfl:=wT;rw [dw] at hy;refine e1a1 (mw hy) λw hw u5=>?_;obtain rfl:=u5;have oO:rank.take (i+1)=rank.take i++[w]:=by rw [List.take_add_one,hw];rfl
   refine au 1 rfl (im _ (.inl rfl)) ?_;refine bh (aa 1 rfl rfl (aa 0 rfl rfl (Jf (aT ?_))));cases hb:st.ready.any (·==w) with
   | false =>refine (aH [(0,.tup (st.ready.map .str))] (bw.of rfl) rfl ?_);rw [oO];simp [List.filter_append,isIn,hb]
   | true =>refine aa 1 rfl rfl (aH [(0,.tup (st.ready.map .str))] (bw.of rfl) rfl ?_);rw [oO];simp [List.filter_append,isIn,hb]
 intro acc S' o3;refine e0a1 o3 λrO u6=>?_;clear o3;obtain rfl:=rO;obtain rfl:=u6;rw [fz,List.take_length];refine .inl (au 8 rfl (bd 8 _ rfl) ?_);show Ex c _ _ (S1.put 8 (af (ff rank st.ready))) _ _;have EM:bw (S1.put 8 (af (ff rank st.ready))) (kg nd rank best):=Ic.oi (rfl);have h8:=eK S1 8 (af (ff rank st.ready));have Ee:(S1.put 8 (af (ff rank st.ready))).heap=S1.heap:=rfl;generalize S1.put 8 (af (ff rank st.ready))=S2 at EM h8 Ee;rw [<-Ee] at Ib Kr;clear Ic h7 Ee;generalize jp:ff rank st.ready=fresh at qz h8;refine ab (dd 5 rfl EM.2.2.2.2.2.1 (bd 5 _ rfl) (aa 8 rfl h8 (vO Kr.GW (.inl rfl) (by simp [sizeLine];exact ey (Nat.add_lt_add_of_lt_of_le o4 qz) rfl) ?_)));rw [oI];have Vg:=Ib.EL (j:=10) (o:=.list ((st.ev++fresh).map .str)) (.inr rfl) pr Kr.Bk;have OQ:=Kr.setEv (st.ev++fresh);have xe:bw ({S2 with heap:=S2.heap.set 10 (.list ((st.ev++fresh).map .str))}.put 5 (.ref 10)) (kg nd rank best):=(EM.heap _).ev5;have Vh:({S2 with heap:=S2.heap.set 10 (.list ((st.ev++fresh).map .str))}.put 5 (.ref 10)).loc.lookup 8=some (af fresh):=by show (bY S2.loc 5 _).lookup 8=_;rw [aC];exact h8
 have Ks:({S2 with heap:=S2.heap.set 10 (.list ((st.ev++fresh).map .str))}.put 5 (.ref 10)).heap=S2.heap.set 10 (.list ((st.ev++fresh).map .str)):=rfl;show Ex _ _ _ ({S2 with heap:=S2.heap.set 10 (.list ((st.ev++fresh).map .str))}.put 5 (.ref 10)) _ _;generalize {S2 with heap:=S2.heap.set 10 (.list ((st.ev++fresh).map .str))}.put 5 (.ref 10)=S3 at xe Vh Ks;rw [<-Ks] at Vg OQ;clear Ib Kr EM h8 Ks;refine ab (c8 rfl (eA (aa 8 rfl Vh (ae _ (.inl rfl) ?_))));refine ⟨λi S'=>bw S' (kg nd rank best)/\SR S'.heap a 0 ns (outs st.nds st.ready) r [] (st.a8+st.ready.length) st.fin/\gT a l S'.heap ns (st.push++fresh.take i) (st.ev++fresh),(aG xe Vg (by simpa using OQ)),λi S' zz=>.inl rfl,?_,?_⟩
 . intro i y S' hy o4;refine e0a2 o4 λrN Lr EN=>?_;clear o4;rw [dw] at hy;refine e1a1 (mw hy) λx hx rP=>?_;obtain rfl:=rP;refine au 6 rfl (bd 6 _ rfl) ?_;refine ab (zG (S:=S'.put 6 (.str x)) V (rN.oi (rfl)) (eK _ _ _) Lr EN pr (by simp;exact (hZ (Nat.add_lt_add_of_lt_of_le o3 (aV (Nat.min_le_right ..) qz)) rfl)) (rfl) λH' Vi Vj=>ax (aG ((rN.oi (rfl)).heap H') Vi ?_));rw [List.take_add_one,hx];simpa using Vj
 intro S4 o5;refine e0a2 o5 λwE Vk Ku=>?_;clear o5;rw [fz,List.take_length] at Ku;clear Vg OQ xe Vh;have k4:=ay V.a4;refine ab (mP (K':=λfl S'=>fl=.next/\bw S' (kg nd rank best)/\SR S'.heap a 0 ns (outs st.nds st.ready) r [] (st.a8+st.ready.length) st.fin/\gT a l S'.heap ns (fo rank best (st.push++fresh)) (st.ev++fresh)) (bP (i4 (aa 2 rfl wE.2.2.1 (aT ?_)))) λfl S5 ⟨GT,G0,sr5,Ls⟩=>?_)
 . cases best with
   | false=>exact ax (gb rfl wE Vk Ku)
   | true =>
     have P4:(st.push++fresh).length<=110:=by simp;exact Nat.add_le_add (bF o3) qz
     generalize hP:st.push++fresh=P at Ku P4;refine ab (fK (sc:=qY.scope) ["line","name"] [(4,"line",.ref 8)] rfl (aG rfl wE.2.2.2.2.1 trivial) (show eJ _ _ ["line"] _=true by decide +kernel)
      (eA (bQ (.type "list") (bT W.B.toBase (rfl) G.nB.1 G.nB.2 ⟨rfl,aw (a7 (aa 4 rfl wE.2.2.2.2.1 (a9 V.B l.cL k4.2.2 k4.2.1 Ku.lx.lex (v:=.ref 9) rfl (λzz q=>by cases q) (FT (.inr (ae 9 rfl Ku.lx.pb)) (by simp [sizeLine];exact aV P4 (Nat.le_add_left 110 16777106)) (.inl (ae _ (.inl rfl) ⟨(aG rfl wE.2.2.2.2.1 trivial),λwn own' im=>?_⟩))))))⟩))))
     refine ⟨λi acc S'=>bw S' [(0,.ref 8)]/\acc=(P.take i).map .str/\SR S'.heap a 0 ns (outs st.nds st.ready) r [] (st.a8+st.ready.length) st.fin/\gT a l S'.heap ns (P.drop i) (st.ev++fresh),(gb (bw.of rfl) (rfl) Vk (Ku)),?_,?_,?_⟩
     . intro i acc S' o6;refine e0a3 o6 λzz rD zz zz=>?_;clear o6;obtain rfl:=rD;refine ⟨.inl rfl,?_⟩;simp only [fz,sizeLine,List.length_take];exact mx (aV (Nat.min_le_right ..) P4) rfl
     . intro i y acc S' hy o7;refine e0a3 o7 λYh rQ Lr EN=>?_;clear o7;obtain rfl:=rQ;rw [dw] at hy;refine e1a1 (mw hy) λw hw tz=>?_;obtain rfl:=tz;have hi:i < P.length:=(bN hw).1;have Kv:P.drop i=w::P.drop (i+1):=by rw [List.drop_eq_getElem_cons hi];congr 1;exact (bN hw).2
       have oO:P.take (i+1)=P.take i++[w]:=by rw [List.take_add_one,hw];rfl
       rw [Kv] at EN;refine au 1 rfl (im _ (.inl rfl)) ?_;show Ev c _ _ _ _ _;refine cP V.B l.cL l.get (n:=n+1) V.GP rfl (by show n+1<=n+5;exact kR) (aa 0 rfl ((Yh.oi (by rfl)).1) ⟨8,7,_,rfl,EN.lx.lex,rfl,?_⟩);refine bM ((wJ V EN.lx (by simp;exact pj (aV (Nat.sub_le ..) P4) rfl) n).mono λv H' ⟨ev,e⟩=>?_);subst ev e;exact ⟨[(0,.ref 8)],⟨((Yh.oi (by rfl)).heap _).1,trivial⟩,(bw.of rfl),(by rw [oO];simp),(Lr.EL (.inl rfl) pr EN.Bk),(EN.ny _)⟩
     . intro acc S' o8;refine e0a3 o8 λzz rF Lr EN=>?_;clear o8;obtain rfl:=rF;rw [fz] at *;rw [List.take_length];rw [List.drop_length] at EN;refine .inl (au 9 rfl (bd 9 _ rfl) ?_);have G0:bw ({S4 with heap:=S'.heap}.put 9 (af P)) (kg nd rank true):=(wE.heap _).oi (rfl);have Yi:=eK {S4 with heap:=S'.heap} 9 (af P);have Kw:({S4 with heap:=S'.heap}.put 9 (af P)).heap=S'.heap:=rfl;show Ex c _ _ ({S4 with heap:=S'.heap}.put 9 (af P)) _ _;generalize {S4 with heap:=S'.heap}.put 9 (af P)=S5 at G0 Yi Kw;rw [<-Kw] at Lr EN;refine ab (c8 rfl (eA (aa 1 rfl G0.2.1 (ae _ (.inl rfl) ?_))));refine ⟨λi S'=>bw S' (kg nd rank true)/\S'.loc.lookup 9=some (af P)/\SR S'.heap a 0 ns (outs st.nds st.ready) r [] (st.a8+st.ready.length) st.fin/\gT a l S'.heap ns ((rank.take i).filter (isIn P)) (st.ev++fresh),(gb G0 Yi Lr (EN)),λi S' zz=>.inl rfl,?_,?_⟩
       . intro i y S6 hy o9;refine e0a3 o9 λId Yj Lu G1=>?_;rw [dw] at hy;refine e1a1 (mw hy) λw hw mo=>?_;obtain rfl:=mo;have oO:rank.take (i+1)=rank.take i++[w]:=by rw [List.take_add_one,hw];rfl
         have Px:=List.length_filter_le (isIn P) (rank.take i);rw [List.length_take] at Px;refine au 6 rfl (bd 6 _ rfl) ?_;have Vl:bw (S6.put 6 (.str w)) (kg nd rank true):=Id.oi (rfl);have Vm:(S6.put 6 (.str w)).loc.lookup 9=some (af P):=by show (bY S6.loc 6 _).lookup 9=_;rw [aC];exact Yj
         refine ab (bP (bh (aa 6 rfl (eK _ _ _) (aa 9 rfl Vm (qj (l:=P) (.inl rfl) (aT ?_))))));cases hb:P.any (·==w) with
         | false =>refine ax (ax (gb Vl Vm Lu ?_));rw [oO];simpa [List.filter_append,isIn,hb] using G1
         | true =>refine ab (zG V Vl (eK _ _ _) Lu G1 pr (pj (aV Px (aV (Nat.min_le_right ..) hr)) rfl) (rfl) λH' Vn ru8=>ax (ax (gb (Vl.heap H') Vm Vn ?_)));rw [oO];simpa [List.filter_append,isIn,hb] using ru8
       . intro S6 nO;refine e0a3 nO λId Yj Lu G1=>?_;rw [fz,List.take_length] at G1;exact ax (gb rfl Id Lu (G1))
 subst GT;clear Vk Ku wE;have OR:(fo rank best (st.push++fresh)).length<=110:=by
  unfold fo
  split
  . have:=List.length_filter_le (isIn (st.push++fresh)) rank;exact mx (aV this hr) rfl
  . simp;exact Nat.add_le_add (bF o3) qz
 unfold sX at nw;rw [jp] at nw;cases Li:fo rank best (st.push++fresh) with
 | nil=>rw [Li] at nw;cases nw
 | cons x p =>
   rw [Li] at nw Ls OR;simp only [List.length_cons] at OR;have zH:(dO (outs st.nds st.ready) x==-1&&(st.nds.map (·.1)).any (·==x))=true:=by
    cases hc:(dO (outs st.nds st.ready) x==-1&&(st.nds.map (·.1)).any (·==x)) with
    | true=>rfl
    | false=>simp only [hc,if_false,dQ] at nw;cases nw
   simp only [zH,if_true,Option.some.injEq] at nw;simp only [cZ,beq_iff_eq] at zH;subst nw;refine ab (bZ (cb "list" "list.append" PySem.F.plainAttrs_list PySem.F.slot_list_append PySem.F.type_list_append (aa 5 rfl G0.2.2.2.2.2.1 ⟨gY Ls.GW rfl,?_⟩)) (rfl));refine aw (cP V.B l.cL l.get (n:=n+1) V.GP rfl (by show n+1<=n+5;exact kR) (aa 4 rfl G0.2.2.2.2.1 ⟨8,7,_,rfl,Ls.lx.lex,rfl,bM ((wJ V Ls.lx (cG OR (Nat.le_add_left 110 890)) n).mono λv H' ⟨ev,e⟩=>?_)⟩));subst ev e;have G1:gT a l (S5.heap.set 9 (.list (p.map .str))) ns p (st.ev++fresh):=Ls.ny p;have Lu:=sr5.EL (j:=9) (o:=.list (p.map .str)) (.inl rfl) pr Ls.Bk;refine dR G1.GW (by simp [sizeLine];exact ey (Nat.add_lt_add_of_lt_of_le o4 qz) rfl) ?_;rw [strs_snoc];have Vo:=G1.setEv (st.ev++fresh++[x]);have Vp:=Lu.EL (j:=10) (o:=.list ((st.ev++fresh++[x]).map .str)) (.inr rfl) pr G1.Bk;have D8:(∀s∈cA (outs st.nds st.ready) x,s∈(outs st.nds st.ready).map (·.1))/\(cA (outs st.nds st.ready) x).length < 100:=by
    rcases AU (nds:=outs st.nds st.ready) (x:=x) with e | ⟨y,hy,_,e⟩
    . rw [e];exact ⟨nofun,by decide⟩
    . rw [e,gp];have:(y.1,y.2.2)∈(outs st.nds st.ready).map (λy=>(y.1,y.2.2)):=dm (ae y hy rfl);rw [yl] at this;refine e1a1 (dS this) λy' l9 e'=>?_;have e2:y'.2.2=y.2.2:=by have:=congrArg Prod.snd e';exact this
      refine e0a1 (o5 y' l9) λq1 q2=>?_;rw [<-e2];exact ⟨λs hs=>uO (q2 s hs),q1⟩
   refine ab (bZ (cP W.B a.cS a.done (n:=n+1) W.HK rfl (by show n+1<=n+5;exact kR) (aa 3 rfl G0.2.2.2.1 ⟨1,0,_,rfl,⟨Vp.inst,Vp.dict⟩,rfl,?_⟩)) (rfl));refine aw (cV (aa 5 rfl G0.2.2.2.2.2.1 (mK (bH (nK ⟨cI (.inr (ae 10 rfl Vo.GW)),?_⟩)))));refine mX (xs:=(st.ev++fresh).map .str) (y:=.str x) (.inr (ae 10 rfl (by rw [strs_snoc];exact Vo.GW))) ?_;refine (GG W hO hD Vp (x:=x) (by rw [gp];exact uO zH.2) zH.1 D8.1 (by simp;omega) n).mono λv H' ⟨_,Vn,e8⟩=>?_;exact ax (gb rfl ((G0.heap _).heap H') Vn (Vo.run e8 pr))
theorem Kx (W:r0 c mg mb Kf a)(V:Lex c mg mb Kf l)(G:GX c mg mb a ww)(hf:eG c fa qY .none)(nd:List (Str×List Str))(rank:ag)(best:Bool)(ev:ag)(Vq:sim nd rank best=some ev)
 (hr:rank.length<=10) (hk:∀x∈rank,∃row,bB nd x=some row/\row.length<=10) (rk:Str->Nat) (JY:∀y∈cC nd rank,∀s∈y.2.2,s∈(cC nd rank).map (·.1)/\rk y.1 < rk s) (n:Nat) :
 bz c (n+6) (.ref fa) [.aZ (br af nd),af rank,.bool best] [] (λv zz=>v.under 0=true/\v=af ev):=by
 refine hf.en W.B.toBase (n:=n+5) ["needs","rank","best"] AR [(0,.aZ (br af nd)),(1,af rank),(2,.bool best)] (λzz zz zz zz=>rfl) rfl rfl (rfl) λenv own frames bd jN=>?_;refine e3a3 G.Ia λt o tn si1 si2 si3 si4=>?_;refine e2a0 G.uN λcc P uN=>?_;refine ab (av ?_);refine cQ (aR (m7 W.B a.cS W.HI rfl (n:=n+2) (by show n+2<=n+5;exact yR) (ib W.B.toBase (by rfl) W.gS ⟨rfl,bM (bz.cls W.B W.Xy W.HG ((wy W si1 si2 si3 si4 [] n).mono λv H' UE=>e0a1 UE λe1 e2=>⟨e1,?_⟩))⟩)));refine rE e2 ?_;refine aR (jc rfl (n:=n+3) (by show n+3<=n+5;exact bF (bF Nat.le.refl)) (ib W.B.toBase (by rfl) G.EH (aH ww rfl uN.fnAt (aw (dj ((wL V uN G.mod G.nB _ "" (by decide) n).mono λv H' q32=>e0a1 q32 λe1 e2=>?_))))));subst e1 e2;refine aw (eY (bM (aG (by simp [sizeLine]) (by simp [sizeLine]) (gm rfl rfl (au 3 rfl (bd 3 _ rfl) (au 4 rfl (bd 4 _ rfl) (au 5 rfl (bd 5 _ rfl) ?_)))))));obtain Lo:chars ("":Str)=[]:=rfl;rw [Lo];obtain OS:LX ([AO.az [("_node2info",.ref 2),("_ready_nodes",.none),("_npassedout",.int 0),("_nfinished",.int 0)],.inst a.cS 0,.az []]++gC l.cL 3 []++[.list []]) l.cL 3 [] 1 []:=⟨rfl,rfl,rfl,rfl,rfl,rfl⟩
 obtain Yk:SB ([AO.az [("_node2info",.ref 2),("_ready_nodes",.none),("_npassedout",.int 0),("_nfinished",.int 0)],.inst a.cS 0,.az []]++gC l.cL 3 []++[.list []]) a 0 [] (cC nd []) :=
  ⟨rfl,rfl,rfl,⟨rfl,λi n x h=>nofun,by decide,List.Pairwise.nil⟩,List.nodup_nil⟩
 obtain Yl:gT a l ([AO.az [("_node2info",.ref 2),("_ready_nodes",.none),("_npassedout",.int 0),("_nfinished",.int 0)],.inst a.cS 0,.az []]++gC l.cL 3 []++[.list []]) [] [] []:=⟨OS,rfl,by decide,by simp⟩
 refine (show Ex c (qK qY env own frames (n+5) AR) _ ⟨[(0,.aZ (br af nd)),(1,af rank),(2,.bool best),(3,.ref 1),(4,.ref 8),(5,.ref 10)],([AO.az [("_node2info",.ref 2),("_ready_nodes",.none),("_npassedout",.int 0),("_nfinished",.int 0)],.inst a.cS 0,.az []]++gC l.cL 3 []++[.list []])⟩ _ _ from ?_);generalize ([AO.az [("_node2info",.ref 2),("_ready_nodes",.none),("_npassedout",.int 0),("_nfinished",.int 0)],.inst a.cS 0,.az []]++gC l.cL 3 []++[.list []])=H0 at OS Yk Yl;obtain H0e:bw ⟨[(0,.aZ (br af nd)),(1,af rank),(2,.bool best),(3,.ref 1),(4,.ref 8),(5,.ref 10)],H0⟩ (kg nd rank best):=(bw.of rfl)
 obtain K5:∀x∈rank,(ak nd x).length<=10:=λx hx=>by refine e1a1 (hk x hx) λrow h1 h2=>?_;unfold ak;rw [h1];exact h2
 obtain wu:fnIn Kf a.add=true:=by obtain this:=W.JQ;simp only [lz,fM,cZ] at this;exact this.1.1.1.2
 refine ab (c8 rfl (eA (aa 1 rfl rfl (ae _ (.inl rfl) ?_))));refine ⟨λi S'=>bw S' (kg nd rank best)/\∃ns,SB S'.heap a 0 ns (cC nd (rank.take i))/\gT a l S'.heap ns [] [],(so H0e [] Yk Yl),λi S' zz=>.inl rfl,?_,?_⟩
 . intro i y S' hy o1;obtain ⟨hL,ns,sb,ru⟩:=o1;rw [dw] at hy;refine e1a1 (mw hy) λx hx o5=>?_;refine o5▸?_;refine e1a1 (hk x (ct hx)) λrow pp Ie=>?_;obtain OT:ak nd x=row:=by unfold ak;rw [pp];rfl
   obtain hi:i < rank.length:=(bN hx).1;refine e0a1 (lM nd 10 rank K5 i) λb1 b2=>?_;obtain fB:i*(10+1)<=110:=Nat.mul_le_mul_right 11 (aV (bF hi) hr);obtain lp:i*10<=100:=Nat.mul_le_mul_right 10 (aV (bF hi) hr);refine au 6 rfl (bd 6 _ rfl) ?_;obtain Id:bw (S'.put 6 (.str x)) (kg nd rank best):=hL.oi (rfl);obtain h6:=eK S' 6 (.str x);obtain hS:(S'.put 6 (.str x)).heap=S'.heap:=rfl;generalize S'.put 6 (.str x)=Z at Id h6 hS;rw [<-hS] at sb ru;refine ab (bZ (wm W.B rfl (n:=n+4) (by show n+4<=n+5;exact bF Nat.le.refl) (aa 3 rfl Id.2.2.2.1 (qJ W.B a.cS a.add W.JQ ⟨sb.inst,sb.dict⟩ rfl (b7 a.add (.ref 1) rfl wu ?_)))) (rfl));refine aR (aa 6 rfl h6 (DR (cV (aa 0 rfl Id.1 (aa 6 rfl h6 ⟨ir,gz (y:=af row) (.inl rfl) (by rw [eF,pp];rfl) (aH _ (.inl (.inl rfl)) (by simp [sizeLine];exact aV Ie (Nat.le_add_left 10 16777206)) (bM ?_))⟩)))));obtain ad:=JV W G.yk sb x row n (pj (Nat.add_le_add (aV b1 (Nat.mul_le_mul_right 11 (aV (bF hi) hr))) Ie) rfl) b2 (pj (Nat.add_le_add (Nat.mul_le_mul_right 10 (aV (bF hi) hr)) Ie) rfl);rw [List.append_nil];refine ad.mono λv H' ⟨_,r4,sb',u8,gr⟩=>ax (so (Id.heap H') r4 ?_ ?_)
   . obtain this:rank.take (i+1)=rank.take i++[x]:=by rw [List.take_add_one,hx];rfl
     rw [this,nA,OT];exact sb'
   . refine ru.ext u8 (λj h1 h2 h3=>?_) ?_
     . rcases h3 with h3 | h3 | ⟨m,hm,h3⟩
       . exact yP h1 h3
       . exact bS h1 (id (aq h3))
       . obtain this:=ru.Bk m hm;exact vc this h2 h3
     . refine e1a1 gr λr o4 hr=>?_;clear gr;refine rE o4 ?_;intro m hm
       (refine aN (bL hm) (λq=>?_) (λq=>?_))
       . exact ru.Bk m q
       . obtain this:=hr m q;obtain this:=ru.len;exact BQ this ‹_›
 . intro S' o2;obtain ⟨hL,ns,sb,ru⟩:=o2;rw [fz,List.take_length] at sb;obtain hlen:(cC nd rank).length < 900:=by obtain this:=(lM nd 10 rank K5 rank.length).1;rw [List.take_length] at this;exact pj (aV this (Nat.mul_le_mul_right 11 hr)) rfl
   refine ab (bZ (cP W.B a.cS a.wx (n:=n+2) W.HJ rfl (by show n+2<=n+5;exact yR) (aa 3 rfl hL.2.2.2.1 ⟨1,0,_,rfl,⟨sb.inst,sb.dict⟩,rfl,bM ?_⟩)) (rfl));refine (GF W G.EI G.EJ G.yk G.H8 sb JY hlen n).mono λv H' q34=>e0a2 q34 λzz sr e1=>?_;obtain pr:11<=S'.heap.length:=ru.len;obtain Kr:gT a l H' ns [] []:=ru.ext e1 (λj h1 h2 h3=>BF h1 h3) ru.Bk;refine ab (jh jN (λm Z=>∃st,bw Z (kg nd rank best)/\SR Z.heap a 0 ns st.nds S'.heap.length st.ready st.a8 st.fin/\gT a l Z.heap ns st.push st.ev/\simLoop rank best m st=some ev) 20 (lQ ⟨cC nd rank,cW (cC nd rank),0,0,[],[]⟩ (hL.heap H') sr Kr Vq) ?_);intro m Z o3;refine e1a3 o3 λst Ic Ib Ym hs=>?_;clear o3;cases m with
   | zero=>exact bE hs
   | succ m =>
     obtain Ky:Fy st=true\/(decide (st.fin < st.a8)||!st.ready.isEmpty)=false:=by
      cases hb:(decide (st.fin < st.a8)||!st.ready.isEmpty) with
      | false=>exact .inr rfl
      | true =>
        left;unfold simLoop at hs;rw [hb] at hs;simp only [if_true] at hs;cases ho:Fy st with
        | true=>rfl
        | false=>rw [ho] at hs;cases hs
     obtain Ie:st.ready.length < 1000:=by
      (refine aN Ky (λh=>?_) (λh=>?_))
      . simp only [Fy,cZ,decide_eq_true_eq] at h;omega
      . simp only [Bool.or_eq_false_iff,Bool.not_eq_false',List.isEmpty_iff] at h;rw [h.2];simp
     refine i4 (cP W.B a.cS a.kH (n:=n+1) W.zy rfl (by show n+1<=n+5;exact kR) (aa 3 rfl Ic.2.2.2.1 ⟨1,0,_,rfl,⟨Ib.inst,Ib.dict⟩,rfl,bM ((AF W G.H9 Ib Ie n).mono λv H2 PB=>e0a1 PB λVr e2=>?_)⟩));subst Vr e2;refine aT ?_;dsimp only [simLoop] at hs;cases hb:(decide (st.fin < st.a8)||!st.ready.isEmpty) with
     | false =>replace hs:=hb▸hs;simp only [dQ,if_false,Option.some.injEq] at hs;refine hs▸?_;refine ei (fu.list 5 Ic.2.2.2.2.2.1 Ym.GW) ?_;exact ab (bj (aa 5 rfl (by show (bY Z.loc 5 _).lookup 5=_;rw [aC,if_pos rfl]) ⟨bb _ _,rfl⟩))
     | true =>
       replace hs:=hb▸hs
       skip
       have ho:Fy st=true:=by
        cases ho:Fy st with
        | true=>rfl
        | false=>replace hs:=ho▸hs;cases hs
       rw [ho] at hs
       skip
       cases ht:sX rank best st with
       | none=>replace hs:=ht▸hs;cases hs
       | some gM =>replace hs:=ht▸hs;refine tZ (GZ W V G nd rank best hr bd ho ht Ic Ib Ym pr) λfl S2 Vt=>e0a3 Vt λGT EM sr2 OQ=>?_;refine rE GT ?_;exact ⟨m,iw,gM,EM,sr2,OQ,hs⟩
end
section
variable {c:bc}{C:Cx}{S:AS}{F F':G}{bs aE:aO}{s s':Shared}{A:Around}{mg mb:fV}{X:dU}{K:dC}{pos:Pos}
theorem DictOf.at_ {h:Heap}{Kt:Type} [DecidableEq Kt] {knd:KeyKind c.prog c.w Kt}{a:Addr}{kvs:List (Kt×Value)}(x:h.DictOf knd a kvs):∃ep,h.DictAt knd a kvs ep:=by refine e3a0 x λo es ep r=>?_;exact ⟨ep,o,es,r⟩
theorem wR {rs:CG}(hl:acc.length=rs.length)(h:∀(j:Nat) v,acc[j]?=some v->∃k x,rs[j]?=some (k,x)/\(sk c.prog c.w).is k v=true):StrsAre acc (rs.map (·.1)):=by
 induction rs generalizing acc with
 | nil=>cases acc with | nil=>exact .nil | cons=>simp at hl
 | cons p r ih =>
   cases acc with
   | nil=>simp at hl
   | cons v vs =>refine e2a1 (h 0 v rfl) λk x e1 e2=>?_;simp at e1;refine rE e1 ?_;refine e1a0 (Value.isStrOf_shape e2) λt Kz=>?_;refine rE Kz ?_;exact .cons k t (ih (by simpa using hl) λj w hw=>by simpa using h (j+1) w (hw))
theorem AW (hh:C.handled=none)(h:TabOf S v kvs)(pP:kvs.length < 64)(k:lF K ((cg (kvs.map (·.1))).map .str) S):dD c C (.builtin "sorted") [v] S K X:=by
 intro A F bs s rs hA z hv;refine e1a1 hv.one λr KA h1=>?_;refine rE KA ?_;clear hv;refine e2a3 (z.tab h h1) λd rs KB hD pn mt=>?_;refine rE KB ?_;refine e1a0 (DictOf.at_ hD) λep Vu=>?_;obtain hk:=aU.keys mt;obtain ul:rs.length=kvs.length:=aU.length mt;refine qH (ss:=kvs.map (·.1)) (λA' Q' Ti hq=>kdu_collect (kdl_dict (knd:=sk c.prog c.w) (kvs:=rs) (ep:=ep) pn) Ti Vu (by skip;exact ul▸ey pP rfl) λh' tk acc keep hit=>?_) (hA.handled.trans hh) (by simpa using pP) λs' D' out e kp hn ho bd=>?_
 . refine hq _ acc.toList (kvs.map (·.1)) ⟨keep,rfl,rfl⟩ ?_ (List.Perm.refl _);simp only [<-hk];exact wR (c:=c) (hit.1) λj w hw=>hit.2 j w (by simpa using hw)
 . exact z.t6 kp.moves hn ho (StrsAre.vs bd) k
theorem G2 (hh:C.handled=none)(h:TabOf S v kvs)(pP:kvs.length<=sizeLine)(k:lF K ((kvs.map (·.1)).map .str) S):dD c C (.type "list") [v] S K X:=by
 intro A F bs s rs hA z hv;refine e1a1 hv.one λr IN h1=>?_;refine rE IN ?_;clear hv;refine e2a3 (z.tab h h1) λd rs Vv hD pn mt=>?_;refine rE Vv ?_;refine e1a0 (DictOf.at_ hD) λep Vu=>?_;obtain hk:=aU.keys mt;obtain ul:rs.length=kvs.length:=aU.length mt;refine kdl_call (kdl_dict (knd:=sk c.prog c.w) (kvs:=rs) (ep:=ep) pn) (hA.handled.trans hh) Vu (aq ul▸pP) λh' tk ie c' keep hg hit=>?_;obtain m:bf c F bs s {s with heap:=h',toks:=tk}:=⟨keep,rfl,rfl⟩
 refine z.t6 m (St.fm s) (vs:=ie.toList) (n:=c') (xs:=(kvs.map (·.1)).map .str) (hg) ?_ k;refine hk▸?_;exact StrsAre.vs (wR (c:=c) (hit.1) λj w hw=>hit.2 j w (by simpa using hw))
theorem qZ {xs ys:ag}(h:c.Vs F bs (xs.map .str) vs)(h':c.Vs F bs (ys.map .str) us)(e:vs=us):xs=ys:=by
 subst e;induction xs generalizing ys vs with
 | nil =>
   obtain rfl:=h.inv;cases ys with
   | nil=>rfl
   | cons=>refine e2a1 h'.inv λzz zz q zz=>?_;exact absurd q nofun
 | cons x xs ih =>
   refine e2a2 h.inv λzz zz Vw h1 h2=>?_;obtain rfl:=Vw;cases ys with
   | nil=>exact absurd h'.inv nofun
   | cons y ys =>refine e2a2 h'.inv λzz zz q h3 h4=>?_;refine e0a1 (List.cons.inj q) λVx Vy=>?_;obtain rfl:=Vx;obtain rfl:=Vy;clear q h' h;refine e1a0 h1.inv λzz Vz=>?_;clear h1;obtain rfl:=Vz;refine e1a0 h3.inv λzz q=>?_;exact (aq (ih h2 h4))▸(aq ((Value.str.inj q).1))▸rfl
theorem wU (xs ys:ag)(h:xs.length=ys.length):(List.range xs.length).all (λj=>xs.getD j ""==ys.getD j "")=decide (xs=ys):=by
 rw [Bool.eq_iff_iff,List.all_eq_true,decide_eq_true_iff];constructor
 . intro q;refine List.ext_getElem h λi h1 h2=>?_;obtain this:=eq_of_beq (q i (List.mem_range.mpr h1))
   rwa [fW,fW,cp h1,cp h2] at this
 . clear h;rintro rfl i _;exact beq_self_eq_true _
theorem sY (gK:∀b o,F b=some o->s.heap.get? b=some o)(h:c.V F bs (af xs) ra)(h':c.V F bs (af ys) rb)(hu:A.units < cLine):SeqAt.EqAt A s ra rb (decide (xs=ys)):=by
 refine e2a2 h.inv λa vs VA h1 h2=>?_;refine rE VA ?_;obtain ⟨n,h1⟩:=h1;obtain ⟨b,us,OU,g1,g2⟩:=h'.inv;refine rE OU ?_;obtain ⟨n',g1⟩:=g1;by_cases u4:a=b
 . subst u4;rw [h1] at g1;obtain this:vs=us:=by obtain e:=bo g1;injection e with _ _ e _;injection e with e _;simpa using congrArg Array.toList e
   obtain this:=qZ h2 g2 this;clear h' g2;subst this;simp only [decide_true];exact SeqAt.EqAt.same _
 . refine SeqAt.EqAt.of_refs u4 ?_;have hl:s.heap.IsList a vs.toArray:=(dh _ (gK _ _ h1) rfl n rfl)
   have v0:s.heap.IsList b us.toArray:=(dh _ (gK _ _ g1) rfl n' rfl)
   have e1:vs.length=xs.length:=by simpa using h2.length
   obtain e2:us.length=ys.length:=by simpa using g2.length
   by_cases hlen:xs.length=ys.length
   . simp only [<-wU xs ys hlen];have:=SeqAt.RcAt.lists (e:=λj=>xs.getD j ""==ys.getD j "") hl v0 (by skip;exact Cs e1 hlen e2) hu (λj j1 j2=>?_)
     . simpa [e1] using this
     . skip
       refine e1a1 (h2.get (i:=j) (x:=.str (xs[j]'(kW j1 e1))) (by refine (aq (dw))▸(aq (cp (kW j1 e1)))▸?_;rfl)) λv w1 w2=>?_;refine e1a1 (g2.get (i:=j) (x:=.str (ys[j]'(mI j1 e1 hlen))) (by simp only [dw,cp (mI j1 e1 hlen)];rfl)) λu w3 w4=>?_;refine e1a0 w2.inv λt1 VB=>?_;clear w2;obtain rfl:=VB;refine e1a0 w4.inv λt2 VC=>?_;clear w4;obtain rfl:=VC;obtain q1:vs.toArray[j]=Value.str (xs[j]'(kW j1 e1)) t1:=by obtain this:=(bN w1).2;exact this
       obtain q2:us.toArray[j]=Value.str (ys[j]'(mI j1 e1 hlen)) t2:=by obtain this:=(bN w3).2;exact this
       simp only [q1,q2];obtain this:=(eqGives_str (xs[j]'(kW j1 e1)) (ys[j]'(mI j1 e1 hlen)) t1 t2).at A.in1 s;simpa [fW,cp (show j < xs.length by exact kW j1 e1),cp (show j < ys.length by exact mI j1 e1 hlen)] using this
   . obtain this:decide (xs=ys)=false:=by rw [decide_eq_false_iff_not];intro e;exact hlen (by rw [e])
     simp only [this];exact SeqAt.RcAt.lists_lengths hl v0 (by simpa [e1,e2] using hlen) hu
noncomputable def eM (d e:List (Str×List Str)):Bool:=d.length==e.length&&d.all λp=>decide (bB e p.1=some p.2)
theorem sZ (gK:∀b o,F b=some o->s.heap.get? b=some o)(h:c.SV F bs (br af d) ra)(h':c.SV F bs (br af e) rb)(hu:A.units < cLine):KeqHits A s rb ra (d.all λp=>decide (bB e p.1=some p.2)):=by
 induction d generalizing ra with
 | nil=>refine rE h.inv ?_;exact .nil
 | cons p d ih =>
   refine e2a2 h.inv λv vs VD h1 h2=>?_;refine rE VD ?_;refine rE List.all_cons ?_
   (refine aN (aU.get p.1 h') (λVE=>?_) (λVF=>?_);refine e2a2 VE λx w e1 e2 e3=>?_;rotate_left;refine e0a1 VF λe1 e2=>?_;rotate_right)
   . rw [eF] at e1;refine e1a1 (mw e1) λl hl G3=>?_;clear e1;obtain rfl:=G3;obtain this:decide (bB e p.1=some p.2)=decide (p.2=l):=by rw [hl];simp [eq_comm]
     rw [this];exact .hit e2 (sY gK h1 e3 hu) (ih h2)
   . rw [eF] at e1;have hn:bB e p.1=none:=by simpa using e1
     have:decide (bB e p.1=some p.2)=false:=by rw [hn];simp
     rw [this,Bool.false_and];exact .miss e2
theorem ym (hn:C.n≠0)(k:K (.bool (eM d e)) S):jF c C (compareOp .Eq) (.aZ (br af d)) (.aZ (br af e)) S K X:=λA F bs s ra rb hA z ha hb=>by
 refine e2a3 (z.tab (.inl rfl) ha) λa rs G4 h1 h2 h3=>?_;refine rE G4 ?_;refine e2a3 (z.tab (.inl rfl) hb) λb us KC g1 g2 g3=>?_;refine rE KC ?_;obtain hu:=hA.units;refine WP.kept z λQ E q=>keq_eq h2 g2 h1 g1 (tO hu) (λzz=>sZ z.wd.sub h3 g3 (by skip;exact Cb hu hn)) (q _ _ (.refl ..) (ae _ (.bool _) ?_));have e1:rs.length=d.length:=by rw [aU.length h3];simp [br]
 obtain e2:us.length=e.length:=by rw [aU.length g3];simp [br]
 refine (aq e1)▸(aq e2)▸?_;exact k
end
def Ig (prog:Program)(w:World)(A:Around)(s:Shared)(x y:Value)(r:Bool):Prop:=∀(E:sA) (Q:Bool->mq),Q r s->wpAny (model prog w) A (eqBool x y) Q E s
inductive s6 (prog:Program)(w:World)(A:Around)(s:Shared):iy->iy->List Bool->Prop
 | nil:s6 prog w A s [] [] []
 | cons {x y r xs ys rs}:Ig prog w A s x y r->s6 prog w A s xs ys rs->s6 prog w A s (x::xs) (y::ys) (r::rs)
set_option tactic.hygienic true in
theorem AX (hl:s.heap.get? l=some (gj xs))(hb:s.heap.get? b=some (gj ys))(hlen:xs.length=ys.length)
 (h:s6 prog w A.in1 s xs ys rs) (hu:A.units < cLine) (hQ:Q (.bool (!rs.all id)) s):wpAny (model prog w) A (richCompare .NotEq (.ref l) (.ref b)) Q E s:=by
 refine wpAny_richCompare_same_room (op:=.NotEq) (ae _ hl rfl) (ae _ hb rfl) F.slot_tuple_ne (wpAny_call_entry F.slot_tuple_ne (ae _ hl rfl) F.entry_tuple_ne ?_ (F.args_tuple_ne_2 _ _)) hu;obtain ⟨hp,g,d,tk,os⟩:=s;have f2:=AutoSeq1.sub_tuple_tuple;unfold gj at hl hb
 wp_walk using wpAny_loadPart' hl,wpAny_loadPart' hb,wpAny_forIn_list _ (λrest b s'=>b.1=none/\s'=⟨hp,g,d,tk,os⟩/\∃us vs ts,rest=us.zip vs/\s6 prog w A.in1 ⟨hp,g,d,tk,os⟩ us vs ts/\Q (.bool (!ts.all id)) ⟨hp,g,d,tk,os⟩) _
 case turn =>
  intro o1;obtain ⟨y,x⟩:=o1;intro rest b s' o2;obtain ⟨iJ,rfl,us,vs,ts,hz,he,hq⟩:=o2;cases he with
  | nil=>cases hz
  | cons h1 h2 =>
    rename_i x' y' r' us' vs' UF;rw [List.zip_cons_cons] at hz;injection hz with e1 e2;injection e1 with e3 e4;subst e3 e4 e2;refine ah (h1 _ _ ?_);cases r' with
    | true =>
      wp_walk
      exact ⟨rfl,rfl,us',vs',UF,rfl,h2,hq⟩
    | false =>
      wp_walk
      exact (aH _ rfl (by decide) hq)
 case fin =>
  intro o3;obtain ⟨b1,b2⟩:=o3;intro s' o4;obtain ⟨iJ,rfl,us,vs,ts,hz,he,hq⟩:=o4;simp only at iJ;refine rE iJ ?_;cases he with
  | nil =>
    wp_walk
    exact (aH _ rfl (by simp [Builtin.Tuple.tupleCompareSizes]) (by simpa [Builtin.Tuple.tupleCompareSizes,hlen] using hq))
  | cons h1 h2=>rw [List.zip_cons_cons] at hz;cases hz
 case h =>exact ⟨rfl,rfl,xs,ys,rs,rfl,h,hQ⟩
def xf (c:bc)(a b:AV)(r:Bool):Prop:=∀(A:Around) (F:G) (bs:aO) (s:Shared) (ra rb:Value),(∀b o,F b=some o->s.heap.get? b=some o)->A.units+10 < cLine->c.V F bs a ra->c.V F bs b rb->Ig c.prog c.w A s ra rb r
inductive wV (c:bc):dB->dB->List Bool->Prop
 | nil:wV c [] [] []
 | cons {a b xs ys r rs}:xf c a b r->wV c xs ys rs->wV c (a::xs) (b::ys) (r::rs)
section
variable {c:bc}{C:Cx}{S:AS}{F F':G}{bs aE:aO}{s s':Shared}{A:Around}{mg mb:fV}{X:dU}{K:dC}{pos:Pos}
theorem wV.all (h:wV c xs ys rs)(hs:∀b o,F b=some o->s.heap.get? b=some o)(hu:A.units+10 < cLine)(h1:c.Vs F bs xs us)(h2:c.Vs F bs ys vs):s6 c.prog c.w A s us vs rs:=by
 induction h generalizing us vs with
 | nil=>refine rE h1.inv ?_;refine rE h2.inv ?_;exact .nil
 | cons a b ih =>refine e2a2 h1.inv λzz zz rQ g1 g2=>?_;refine rE rQ ?_;refine e2a2 h2.inv λzz zz tz k1 k2=>?_;refine rE tz ?_;exact .cons (a A F bs s _ _ hs hu g1 k1) (ih g2 k2)
theorem wV.len (h:wV c xs ys rs):xs.length=ys.length:=by
 induction h with
 | nil=>rfl
 | cons _ _ ih=>simp [ih]
theorem xf.bool (a b:Bool):xf c (.bool a) (.bool b) (a==b):=λA F bs s ra rb hs hu ha hb E Q hq=>by obtain ⟨_,rfl⟩:=ha.inv;obtain ⟨_,rfl⟩:=hb.inv;exact SeqAt.eqBoolOverData c.prog c.w A E s _ _ (.bool a) (.bool b) [] [] Q (.bool a) (.bool b) rfl rfl (by simp [PyData.depth];exact tD hu) hq
theorem xf.int (a b:Int):xf c (.int a) (.int b) (a==b):=λA F bs s ra rb hs hu ha hb E Q hq=>by refine e1a0 ha.inv λzz rF=>?_;refine rE rF ?_;refine e1a0 hb.inv λzz mo=>?_;refine rE mo ?_;exact wpAny_eqBool_int hq
theorem xf.strs (xs ys:ag):xf c (af xs) (af ys) (decide (xs=ys)):=λA F bs s ra rb hs hu ha hb E Q hq=>sY hs ha hb (tD hu) c.prog c.w E Q hq
set_option tactic.hygienic true in
theorem AY (h:Pairs (sk c.prog c.w) es rs)(h':Pairs (sk c.prog c.w) es us):rs=us:=by
 induction h generalizing us with
 | nil=>cases h';rfl
 | cons h1 h2 h3 ih =>
   cases h' with
   | cons g1 g2 g3 =>
     rename_i e kv es kvs kv' Aa;obtain this:=ih g3;clear g3;subst this;have:kv=kv':=by obtain ⟨k,v⟩:=kv;refine e1a0 (Value.isStrOf_shape h1) λt e1=>?_;refine e1a0 (Value.isStrOf_shape g1) λt' e2=>?_;rw [e1] at e2;injection e2 with e3 _;simp only at h2 g2 e3;exact (aq e3)▸h2▸(aq g2)▸rfl
     rw [this]
theorem AZ (h:c.SV F bs (br af d) rs)(h':c.SV F bs (br af e) rs):d=e:=by
 induction d generalizing e rs with
 | nil =>
   obtain rfl:=h.inv;cases e with
   | nil=>rfl
   | cons=>refine e2a1 h'.inv λzz zz q zz=>?_;exact absurd q nofun
 | cons p d ih =>
   refine e2a2 h.inv λzz zz nO h1 h2=>?_;obtain rfl:=nO;cases e with
   | nil=>exact absurd h'.inv nofun
   | cons q e =>refine e2a2 h'.inv λzz zz eq g1 g2=>?_;refine e0a1 (List.cons.inj eq) λe0 o9=>?_;obtain rfl:=o9;refine rE (ih h2 g2) ?_;obtain e1:p.1=q.1:=(Prod.mk.inj e0).1;obtain rfl:=(Prod.mk.inj e0).2;clear eq e0 h' h;refine e2a2 h1.inv λzz zz rP rO a2=>?_;obtain rfl:=rP;refine e1a0 rO λn a1=>?_;clear rO;refine e2a2 g1.inv λzz zz er rD b2=>?_;refine e1a0 rD λn' b1=>?_;clear rD;obtain rfl:=Value.ref.inj er;have e:=bo (a1.symm.trans b1);injection e with _ _ e _;injection e with e _;obtain this:p.2=q.2:=qZ a2 b2 (by simpa using congrArg Array.toList e);rw [show p=q from Prod.ext e1 this]
theorem jl {d:List (Str×List Str)}(hn:(d.map (·.1)).Nodup)(hp:p∈d):bB d p.1=some p.2:=by
 induction d with
 | nil=>cases hp
 | cons q d ih =>
   rw [List.map_cons,List.nodup_cons] at hn
   (refine aN (cu hp) (λe=>?_) (λhp=>?_))
   . clear hp hn;subst e;simp [bB]
   . obtain ge:q.1≠p.1:=λe=>hn.1 (e▸dm (ae p hp rfl));obtain this:=ih hn.2 hp;unfold bB at this ⊢;rw [List.find?_cons];simp only [ge,decide_false];exact this
theorem xf.dict (d e:List (Str×List Str)):xf c (.aZ (br af d)) (.aZ (br af e)) (eM d e):=λA F bs s ra rb hs hu ha hb E Q hq=>by
 refine e2a2 ha.inv λa rs o8 h1 h2=>?_;refine rE o8 ?_;refine e2a2 hb.inv λb us o7 g1 g2=>?_;refine rE o7 ?_;have e1:rs.length=d.length:=by rw [aU.length h2];simp [br]
 have e2:us.length=e.length:=by rw [aU.length g2];simp [br]
 obtain P5:oB (sk c.prog c.w) s.heap.get? a rs:=h1.sub hs;obtain hd2:oB (sk c.prog c.w) s.heap.get? b us:=g1.sub hs;obtain z8:=P5.dictOf;obtain Yn:=hd2.dictOf;obtain h5':(a==sysModules)=false:=let ⟨_,_,_,_,_,_,q⟩:=P5;q;obtain Yo:(b==sysModules)=false:=let ⟨_,_,_,_,_,_,q⟩:=hd2;q;by_cases u4:a=b
 . clear Yo;clear o7;subst u4;obtain ⟨es,n,x1,x2,x3,x4,x5⟩:=h1;obtain ⟨u7,n',y1,y2,y3,y4,y5⟩:=g1;replace y1:=x1▸y1;obtain q:=bo y1;injection q with _ _ q _;injection q with q _;clear y1 y2;subst q;obtain this:=AY (c:=c) x3 y3;clear y3 y4 Yn hd2;subst this;obtain this:=AZ h2 g2;clear e2 g2 hb;subst this;obtain Ch:(d.map (·.1)).Nodup:=by obtain this:=aU.keys h2;rw [this] at x4;simpa [br,List.map_map,Function.comp_def] using x4
   obtain this:eM d d=true:=by simp only [eM,beq_self_eq_true,Bool.true_and,List.all_eq_true,decide_eq_true_eq];exact λp hp=>jl Ch hp
   rw [this] at hq;exact SeqAt.EqAt.same _ c.prog c.w E Q hq
 . skip
   refine wpAny_holding ?_;obtain ge:¬((Value.ref a==Value.ref b)=true):=λVG=>u4 (by obtain this:=eq_of_beq VG;injection this);rw [if_neg ge];refine ah (keq_eq h5' Yo z8 Yn (tD hu) (λzz=>sZ hs h2 g2 (by skip;exact BU hu)) ?_);refine (aq e1)▸(aq e2)▸?_;exact wpAny_truthy_bool hq
theorem yn (h:wV c xs ys rs)(hn:C.n≠0)(k:K (.bool (!rs.all id)) S):jF c C (compareOp .NotEq) (.tup xs) (.tup ys) S K X:=λA F bs s ra rb hA z ha hb=>by refine e2a2 ha.inv λzz zz o6 h1 h2=>?_;refine rE o6 ?_;refine e2a2 hb.inv λzz zz o5 g1 g2=>?_;refine rE o5 ?_;obtain hu:=hA.units;refine WP.kept z λQ E q=>AX (z.wd.sub _ _ h1) (z.wd.sub _ _ g1) (by exact (aq h2.length)▸(aq g2.length)▸(aq h.len)▸rfl) (h.all (A:=A.in1) z.wd.sub (by show A.units+1+10 < _;exact Ca hu hn) h2 g2) (tO hu) (q _ _ (.refl ..) (ae _ (.bool _) k))
end
noncomputable def ij:kE:=dg iC 18
noncomputable def EO:Scope:=(dg ij.body 1).scope
noncomputable def cJ (d:List (Str×List Str))(nm:ag):List ag:=nm.map λx=>nm.filter λy=>isIn ((bB d y).getD []) x
noncomputable def nC (xs ys:ag):ag×List Str:=mu (xs.length+ys.length) xs ys
noncomputable def rowAt (d:List (Str×List Str))(nm:ag)(i:Nat):ag:=(bB d (nm.getD i "")).getD []
noncomputable def full (l:ag):Bool:=!l.isEmpty
noncomputable def iu (d:List (Str×List Str))(nm:ag)(oj early:Nat)(p:Bool×Bool):Bool×Bool :=
 let D:=nC (rowAt d nm early) (rowAt d nm oj);let U:=nC ((cJ d nm).getD early []) ((cJ d nm).getD oj [])
 (p.1||(full D.1&&full D.2),p.2||(full D.1&&full U.1||full D.2&&full U.2))
noncomputable def cY (d:List (Str×List Str))(nm:ag)(oj:Nat)(p:Bool×Bool):Nat->Bool×Bool
 | 0=>p
 | k+1=>iu d nm oj k (cY d nm oj p k)
noncomputable def cF (d:List (Str×List Str))(nm:ag):Nat->Bool×Bool
 | 0=>(false,false)
 | k+1=>cY d nm k (cF d nm k) k
theorem A0:cY d nm oj p 0=p:=rfl
theorem A1:cY d nm oj p (k+1)=iu d nm oj k (cY d nm oj p k):=rfl
theorem yo:cF d nm 0=(false,false):=rfl
theorem yp:cF d nm (k+1)=cY d nm k (cF d nm k) k:=rfl
noncomputable def bD (d:List (Str×List Str)):Bool×Bool:=cF d (cg (d.map (·.1))) 5
section
variable {c:bc}{mg mb:fV}
theorem wW (l:ag):(cg l).Perm l:=by unfold cg;exact List.mergeSort_perm ..
theorem iG:isIn l x=true↔x∈l:=by
 delta isIn;rw [List.any_eq_true];constructor
 . intro o1;refine e1a1 o1 λy hy e=>?_;obtain this:y=x:=by simpa using e
   exact this▸hy
 . exact λh=>(ae x h (by simp))
theorem bw.upd (h:bw S L):bw (S.put i v) (L.map λp=>(p.1,if p.1=i then v else p.2)):=by
 induction L with
 | nil=>exact trivial
 | cons p r ih =>
   refine ⟨?_,ih h.2⟩;rw [aC];by_cases e:p.1=i
   . rw [if_pos e,if_pos e]
   . rw [if_neg e,if_neg e];exact h.1
theorem wX (B:Base c mg mb)(hS:eG c fS Ax .none)(hb:c9 mg mb "IndexError" (.type "IndexError"))(xs ys:ag)(hx:xs.length < 1000)(hy:ys.length < 1000)(H:bg)(n:Nat){K:AV->bg->Prop}(k:K (.tup [af (nC xs ys).1,af (nC xs ys).2]) H) :
 bz c (n+1) (.ref fS) [af xs,af ys] H K :=
 (bz.hide (JP B hS hb xs ys hx hy n) (by simp [aI])).mono λv H' q1=>e0a1 q1 λeH ev=>by clear q1;subst ev eH;exact k
theorem A2 (B:Base c mg mb)(hf:eG c fa ij .none)(hS:eG c fS Ax .none)(gS:mg "sorted_list_difference"=some (.ref fS))(fB:c9 mg mb "sorted" (.builtin "sorted"))(lp:c9 mg mb "range" (.type "range"))(rI:c9 mg mb "IndexError" (.type "IndexError"))
 (d:List (Str×List Str)) (hd:d.length=5) (hn:(d.map (·.1)).Nodup) (pp:∀p∈d,p.2.length < 100) (n:Nat) :
 bz c (n+2) (.ref fa) [.aZ (br af d)] [] (λv zz=>v.under 0=true/\v=.tup [.bool (bD d).1,.bool (bD d).2]):=by
 refine hf.en B (n:=n+1) ["downs"] ["downs","names","ups","crossed","beside","late","early","less","more","left","right"] [(0,.aZ (br af d))] (λzz zz=>rfl) rfl rfl (by decide +kernel) λenv own frames bd jN=>?_;have OV:((br af d).map (·.1))=d.map (·.1):=by simp [br,Function.comp_def]
 refine ab (av (bQ (.builtin "sorted") (bT B (by rfl) fB.1 fB.2 ⟨rfl,aw (aa 0 rfl rfl (AW rfl (.inl rfl) (by simp [br,hd]) (.inl ?_)))⟩)));rw [OV];generalize At:cg (d.map (·.1))=nm;have hp:nm.Perm (d.map (·.1)):=At▸wW _;have hlen:nm.length=5:=by rw [hp.length_eq,List.length_map,hd]
 have ue:∀x∈nm,∃row,bB d x=some row/\row.length < 100:=λx hx=>by have:=hp.mem_iff.mp hx;refine e1a1 (List.mem_map.mp this) λp Dq yV=>?_;obtain rfl:=yV;exact (ae p.2 (jl hn Dq) (pp p Dq))
 refine au 1 rfl (bd 1 _ rfl) ?_;have e0:(AS.mk [(0,.aZ (br af d))] []).put 1 (.lst (nm.map .str))=⟨[(0,.aZ (br af d)),(1,af nm)],[]⟩:=rfl;rw [e0];refine ab (fK (sc:=ij.scope) ["downs","names","name"] [(0,"downs",.aZ (br af d)),(1,"names",af nm)] rfl (fC rfl rfl rfl rfl trivial) (show eJ _ _ ["downs","names"] _=true by decide +kernel) (eA (aa 1 rfl rfl (ae _ (.inl rfl) ⟨(fC rfl rfl rfl rfl trivial),λwn own' im=>?_⟩))));refine ⟨λi acc S'=>S'=⟨[(0,.aZ (br af d)),(1,af nm)],[]⟩/\acc=((cJ d nm).take i).map af,⟨rfl,by simp⟩,?_,?_,?_⟩
 . intro i acc S' o1;refine e0a1 o1 λyW xr=>?_;clear o1;obtain rfl:=yW;obtain rfl:=xr;refine ⟨.inl rfl,?_⟩;simp only [List.length_map,List.length_take,cJ,sizeLine];exact mx (Nat.min_le_right _ _) (hlen▸rfl)
 . intro i y acc S' hy o2;refine e0a1 o2 λwT yX=>?_;clear o2;obtain rfl:=wT;obtain rfl:=yX;rw [List.getElem?_map] at hy;refine e1a1 (Option.map_eq_some_iff.mp hy) λw hw s4=>?_;obtain rfl:=s4;have oO:(cJ d nm).take (i+1)=(cJ d nm).take i++[nm.filter λy=>isIn ((bB d y).getD []) w]:=by rw [List.take_add_one];congr 1;unfold cJ;rw [List.getElem?_map,hw];rfl
   refine au 2 rfl (im _ (.inr rfl)) ?_;show Ev c _ _ _ _ _;refine ll (sc:=ek EO ij.scope) ["downs","name","other"] [(0,"downs",.aZ (br af d)),(2,"name",.str w)] rfl (fC rfl rfl rfl rfl trivial) (show eJ _ _ ["downs","name"] _=true by decide +kernel) (eA (aa 1 rfl rfl (ae _ (.inl rfl) ⟨(fC rfl rfl rfl rfl trivial),λVH Kq DG=>?_⟩)));refine ⟨λj acc S'=>S'=⟨[(0,.aZ (br af d)),(1,.str w)],[]⟩/\acc=((nm.take j).filter λy=>isIn ((bB d y).getD []) w).map .str,⟨rfl,by simp⟩,?_,?_,?_⟩
   . intro j acc S' o3;refine e0a1 o3 λu6 u5=>?_;clear o3;obtain rfl:=u6;obtain rfl:=u5;refine ⟨.inl rfl,?_⟩;have:=List.length_filter_le (λy=>isIn ((bB d y).getD []) w) (nm.take j);simp only [List.length_map,List.length_take,sizeLine] at *;exact vt hlen this
   . intro j y acc S' hy o4;refine e0a1 o4 λrP rO=>?_;clear o4;obtain rfl:=rP;obtain rfl:=rO;rw [List.getElem?_map] at hy;refine e1a1 (Option.map_eq_some_iff.mp hy) λv hv rD=>?_;obtain rfl:=rD;have OW:nm.take (j+1)=nm.take j++[v]:=by rw [List.take_add_one,hv];rfl
     refine e1a1 (ue v (List.mem_of_getElem? hv)) λrow hr zz=>?_;refine au 2 rfl (DG _ (.inl rfl)) ?_;refine bh (aa 1 rfl rfl (cV (aa 0 rfl rfl (aa 2 rfl rfl ⟨ir,gz (y:=af row) (.inl rfl) (by rw [eF,hr];rfl) (qj (l:=row) (.inl rfl) (aT ?_))⟩))));cases hb:row.any (·==w) with
     | false =>refine (aH [(0,.aZ (br af d)),(1,.str w)] (aG rfl rfl trivial) rfl ?_);rw [OW];simp [List.filter_append,hr,isIn,hb]
     | true =>refine aa 2 rfl rfl (aH [(0,.aZ (br af d)),(1,.str w)] (aG rfl rfl trivial) rfl ?_);rw [OW];simp [List.filter_append,hr,isIn,hb]
   . intro acc S' o5;refine e0a1 o5 λtz rQ=>?_;clear o5;obtain rfl:=tz;obtain rfl:=rQ;rw [List.length_map,List.take_length];refine .inl (aH [(0,.aZ (br af d)),(1,af nm)] (aG rfl rfl trivial) rfl ?_);rw [oO];simp
 intro acc S' o6;refine e0a1 o6 λmo rF=>?_;clear o6;obtain rfl:=mo;obtain rfl:=rF;have VI:(cJ d nm).length=5:=by simp [cJ,hlen]
 have OX:(cJ d nm).take ((nm.map AV.str).length)=cJ d nm:=by rw [List.length_map,hlen,<-VI,List.take_length]
 rw [OX];refine .inl (au 2 rfl (bd 2 _ rfl) ?_);refine ab (av (cQ (aR (ez (aw (ez ⟨by simp [sizeLine],gm rfl rfl (au 3 rfl (bd 3 _ rfl) (au 4 rfl (bd 4 _ rfl) ?_))⟩))))));have Ih:∀i,i < 5->∃x,nm[i]?=some x/\bB d x=some (rowAt d nm i)/\(rowAt d nm i).length < 100:=λi hi=>by
  have hx:nm[i]?=some (nm[i]'(js hi hlen)):=List.getElem?_eq_getElem (js hi hlen);refine e1a1 (ue _ (List.mem_of_getElem? hx)) λrow h1 h2=>?_;have:rowAt d nm i=row:=by unfold rowAt;rw [List.getD_eq_getElem?_getD,hx];simp [h1]
  exact (aH _ hx (by rw [this];exact h1) (by rw [this];exact h2))
 have OY:∀i,i < 5->(cJ d nm)[i]?=some ((cJ d nm).getD i [])/\((cJ d nm).getD i []).length < 100:=λi hi=>by have hx:(cJ d nm)[i]?=some ((cJ d nm)[i]'(js hi VI)):=List.getElem?_eq_getElem (js hi VI);refine ⟨by rw [List.getD_eq_getElem?_getD,hx];rfl,?_⟩;rw [List.getD_eq_getElem?_getD,hx];simp only [cJ,List.getElem_map,Option.getD_some];have:=List.length_filter_le (λy=>isIn ((bB d y).getD []) (nm[i]'(js hi hlen))) nm;omega
 let L:Bool×Bool->fi:=λp=>[(0,.aZ (br af d)),(1,af nm),(2,.lst ((cJ d nm).map af)),(3,.bool p.1),(4,.bool p.2)]
 refine ab (c8 rfl (ly (bT B (by rfl) lp.1 lp.2 ⟨rfl,aw (bH (aH 5 rfl Bv ?_))⟩)));refine ⟨λi S'=>bw S' (L (cF d nm i))/\S'.heap=[],⟨(kX rfl rfl rfl rfl rfl trivial),rfl⟩,λzz zz zz=>trivial,?_,?_⟩
 . intro i y S' hy o7;refine e0a1 o7 λhL hH=>?_;have hi:i < 5:=by have:=(List.getElem?_eq_some_iff.mp hy).1;simpa using this
   rw [List.getElem?_map,List.getElem?_range hi] at hy;cases hy;refine au 5 rfl (bd 5 _ rfl) ?_;refine ab (c8 rfl (ly (bT B (by rfl) lp.1 lp.2 ⟨rfl,aw (aa 5 rfl (eK _ _ _) (aH i rfl (Nat.lt_of_lt_of_le hi (Nat.le_add_left 5 4611686018427387899)) ?_))⟩)));refine ⟨λj zo=>bw zo (L (cY d nm i (cF d nm i) j))/\zo.loc.lookup 5=some (.int i)/\zo.heap=[],(aG (hL.oi (by rfl)) (eK _ _ _) hH),λzz zz zz=>trivial,?_,?_⟩
   . intro j y S2 H7 o8;refine e0a2 o8 λEM h5 Ee=>?_;have hj:j < i:=by have:=(List.getElem?_eq_some_iff.mp H7).1;simpa using this
     rw [List.getElem?_map,List.getElem?_range hj] at H7;cases H7;refine au 6 rfl (bd 6 _ rfl) ?_;have xe:bw (S2.put 6 (.int j)) (L (cY d nm i (cF d nm i) j)):=EM.oi (by rfl);have P6:(S2.put 6 (.int j)).loc.lookup 5=some (.int i):=by show (bY S2.loc 6 _).lookup 5=_;rw [aC];exact h5
     have P7:(S2.put 6 (.int j)).loc.lookup 6=some (.int j):=eK _ _ _;have Ks:(S2.put 6 (.int j)).heap=[]:=Ee;generalize S2.put 6 (.int j)=S3 at xe P6 P7 Ks;generalize pe:cY d nm i (cF d nm i) j=p at xe;refine e1a2 (Ih j (kU hi hj)) λxj nj aj lj=>?_;refine e1a2 (Ih i hi) λxi ni ai li=>?_;refine e0a1 (OY j (kU hi hj)) λuj ulj=>?_;refine e0a1 (OY i hi) λui uli=>?_;have OZ:∀(k:Nat) (x:Str),nm[k]?=some x->(nm.map AV.str)[((k:Nat):Int).toNat]?=some (.str x):=λk x e=>by rw [Int.toNat_natCast,List.getElem?_map,e];rfl
     have getD:∀(x:Str) (row:ag),bB d x=some row->bB (br af d) x=some (af row):=λx row e=>by rw [eF,e];rfl
     have O0:∀(k:Nat) (u:ag),(cJ d nm)[k]?=some u->((cJ d nm).map af)[((k:Nat):Int).toNat]?=some (af u):=λk x e=>by rw [Int.toNat_natCast,List.getElem?_map,e];rfl
     refine ab (av (jc rfl (n:=n+1) (bu _) (ib B (rfl) gS (aH fS rfl hS.fnAt ?_))));refine aR (cV (aa 0 rfl xe.1 (cV (aa 1 rfl xe.2.1 (aa 6 rfl P7 ⟨cI (.inl rfl),eZ (.inl rfl) gO (mH hi hj) (OZ j xj nj) ⟨ir,gz (.inl rfl) (getD _ _ aj) ?_⟩⟩)))));refine aw (cV (aa 0 rfl xe.1 (cV (aa 1 rfl xe.2.1 (aa 5 rfl P6 ⟨cI (.inl rfl),eZ (.inl rfl) gO (pD hi) (OZ i xi ni) ⟨ir,gz (.inl rfl) (getD _ _ ai) ?_⟩⟩)))));refine wX B hS rI _ _ (mD lj) (mD li) _ n ?_;refine gm rfl rfl (au 7 rfl (bd 7 _ rfl) (au 8 rfl (bd 8 _ rfl) ?_));generalize hD:nC (rowAt d nm j) (rowAt d nm i)=D;have wE:bw ((S3.put 7 (af D.1)).put 8 (af D.2)) (L p):=(xe.oi (rfl)).oi (rfl);have P8:((S3.put 7 (af D.1)).put 8 (af D.2)).loc.lookup 5=some (.int i):=by show (bY (bY S3.loc 7 _) 8 _).lookup 5=_;rw [aC,aC];exact P6
     have pP:((S3.put 7 (af D.1)).put 8 (af D.2)).loc.lookup 6=some (.int j):=by show (bY (bY S3.loc 7 _) 8 _).lookup 6=_;rw [aC,aC];exact P7
     have VJ:((S3.put 7 (af D.1)).put 8 (af D.2)).loc.lookup 7=some (af D.1):=by show (bY (bY S3.loc 7 _) 8 _).lookup 7=_;rw [aC,aC];rfl
     have VK:((S3.put 7 (af D.1)).put 8 (af D.2)).loc.lookup 8=some (af D.2):=eK _ _ _;have Og:((S3.put 7 (af D.1)).put 8 (af D.2)).heap=[]:=Ks;show Ex c _ _ ((S3.put 7 (af D.1)).put 8 (af D.2)) _ _;generalize (S3.put 7 (af D.1)).put 8 (af D.2)=S4 at wE P8 pP VJ VK Og;refine ab (av (jc rfl (n:=n+1) (bu _) (ib B (rfl) gS (aH fS rfl hS.fnAt ?_))));refine aR (cV (aa 2 rfl wE.2.2.1 (aa 6 rfl pP ⟨cI (.inl rfl),eZ (.inl rfl) gO (mH hi hj) (O0 j _ uj) ?_⟩)));refine aw (cV (aa 2 rfl wE.2.2.1 (aa 5 rfl P8 ⟨cI (.inl rfl),eZ (.inl rfl) gO (pD hi) (O0 i _ ui) ?_⟩)));refine wX B hS rI _ _ (mD ulj) (mD uli) _ n ?_;refine gm rfl rfl (au 9 rfl (bd 9 _ rfl) (au 10 rfl (bd 10 _ rfl) ?_));generalize hU:nC ((cJ d nm).getD j []) ((cJ d nm).getD i [])=U;let LL:Bool×Bool->fi:=λp=>[(0,.aZ (br af d)),(1,af nm),(2,.lst ((cJ d nm).map af)),(3,.bool p.1),(4,.bool p.2),(5,.int i),(7,af D.1),(8,af D.2),(9,af U.1),(10,af U.2)]
     have h4:bw S4 [(0,.aZ (br af d)),(1,af nm),(2,.lst ((cJ d nm).map af)),(3,.bool p.1),(4,.bool p.2),(5,.int i),(7,af D.1),(8,af D.2)]:=(ix wE.1 wE.2.1 wE.2.2.1 wE.2.2.2.1 wE.2.2.2.2.1 P8 VJ VK trivial)
     have h5:bw ((S4.put 9 (af U.1)).put 10 (af U.2)) (LL p):=(h4.put (rfl)).put (rfl);have Kw:((S4.put 9 (af U.1)).put 10 (af U.2)).heap=[]:=Og;show Ex c _ _ ((S4.put 9 (af U.1)).put 10 (af U.2)) _ _;generalize (S4.put 9 (af U.1)).put 10 (af U.2)=S5 at h5 Kw;clear wE P8 pP VJ VK Og h4 xe P6 P7 Ks;have emp:∀l:ag,(!(l.map AV.str).isEmpty)=full l:=λl=>by cases l <;> rfl
     have hCn:(qK ij env own frames (n+1) ["downs","names","ups","crossed","beside","late","early","less","more","left","right"]).n≠0:=Nat.succ_ne_zero _;have Lv:∀{S:AS} {q:Bool×Bool} (k:Nat) (x:Str) (l:ag) {p1 p2 p3:Pos} {K:Bool->dA},(["downs","names","ups","crossed","beside","late","early","less","more","left","right"]:ag)[k]?=some x->(LL q).lookup k=some (af l)->(x==("__debug__":Str))=false->(x==("__classdict__":Str))=false->bw S (LL q)->K (full l) S ->
      xp c (qK ij env own frames (n+1) ["downs","names","ups","crossed","beside","late","early","less","more","left","right"]) (.Compare (.Name x p1) [.NotEq] [.List [] p2] p3) S K gX:=by
      intro S q k x l p1 p2 p3 K hx hl P5 hd2 hS k';refine bh (aa k hx (hS.at k _ hl) (qf (bM ⟨by simp [sizeLine],F2 (.inl rfl) (.inl rfl) hCn (aT ?_)⟩)) P5 hd2);rw [emp];exact k'
     refine ab (mP (K':=λfl S'=>fl=.next/\bw S' (LL (p.1||(full D.1&&full D.2),p.2))/\S'.heap=[]) (bP (ub ?_)) λfl S6 ⟨GT,h6,VL⟩=>?_)
     . refine Lv 7 "less" D.1 rfl rfl (by decide +kernel) (by decide +kernel) h5 ?_;cases fB:full D.1 with
       | false=>exact ax (aG rfl (by simpa using h5) Kw)
       | true =>
         refine Lv 8 "more" D.2 rfl rfl (rfl) (rfl) h5 ?_;cases lp:full D.2 with
         | false=>exact ax (aG rfl (by simpa using h5) Kw)
         | true =>refine ab (av (ez (au 3 rfl (bd 3 _ rfl) (ax (aG rfl ?_ Kw)))));rw [show (p.1||(true&&true))=true by simp];exact h5.upd (i:=3) (v:=.bool true)
     subst GT;generalize Ft:(p.1||(full D.1&&full D.2))=q1 at h6;refine ab (mP (K':=λfl S'=>fl=.next/\bw S' (LL (q1,p.2||(full D.1&&full U.1||full D.2&&full U.2)))/\S'.heap=[]) (bP (C9 ?_)) λfl S7 ⟨GT,h7,P9⟩=>?_)
     . have yes:(full D.1&&full U.1||full D.2&&full U.2)=true->bw (S6.put 4 (.bool true)) (LL (q1,p.2||(full D.1&&full U.1||full D.2&&full U.2))):=λe=>by rw [e,show (p.2||true)=true by simp];exact h6.upd (i:=4) (v:=.bool true)
       refine vR (K':=λb S'=>b=(full D.1&&full U.1)/\S'=S6) (ub (Lv 7 "less" D.1 rfl rfl (by decide +kernel) (by decide +kernel) h6 ?_)) λb S' ⟨eb,eS⟩=>?_
       . cases fB:full D.1 with
         | false=>exact ⟨rfl,rfl⟩
         | true =>refine Lv 9 "left" U.1 rfl rfl (rfl) (rfl) h6 ?_;cases full U.1 <;> exact ⟨rfl,rfl⟩
       subst eb eS;cases fB:(full D.1&&full U.1) with
       | true=>exact ab (av (ez (au 4 rfl (bd 4 _ rfl) (ax (aG rfl (by have:=yes (by rw [fB];rfl);rw [fB] at this;exact this) VL)))))
       | false =>
         refine vR (K':=λb zo=>b=(full D.2&&full U.2)/\zo=S') (ub (Lv 8 "more" D.2 rfl rfl (by decide +kernel) (rfl) h6 ?_)) λb zo ⟨eb,eS⟩=>?_
         . cases lp:full D.2 with
           | false=>exact ⟨rfl,rfl⟩
           | true =>refine Lv 10 "right" U.2 rfl rfl (rfl) (rfl) h6 ?_;cases full U.2 <;> exact ⟨rfl,rfl⟩
         subst eb eS;cases lp:(full D.2&&full U.2) with
         | true=>exact ab (av (ez (au 4 rfl (bd 4 _ rfl) (ax (aG rfl (by have:=yes (by rw [lp];simp);rw [fB,lp] at this;exact this) VL)))))
         | false=>exact ax (aG rfl (by simpa using h6) VL)
     subst GT;have jZ:iu d nm i j p=(q1,p.2||(full D.1&&full U.1||full D.2&&full U.2)):=by unfold iu;rw [hD,hU,<-Ft]
     refine ax (aG (kX h7.1 h7.2.1 h7.2.2.1 ?_ ?_ trivial) (h7.at 5 _ rfl) P9)
     . show S7.loc.lookup 3=some (.bool (iu d nm i j (cY d nm i (cF d nm i) j)).1);rw [pe,jZ];exact h7.at 3 _ rfl
     . show S7.loc.lookup 4=some (.bool (iu d nm i j (cY d nm i (cF d nm i) j)).2);rw [pe,jZ];exact h7.at 4 _ rfl
   . intro S2 o9;refine e0a2 o9 λEM h5 Ee=>?_;rw [List.length_map,List.length_range] at EM;exact ax ⟨EM,Ee⟩
 . intro S' nO;refine e0a1 nO λhL hH=>?_;have rN:bw S' (L (bD d)):=by
    have:bD d=cF d nm ((List.range 5).map λ(i:Nat)=>AV.int i).length:=by unfold bD;rw [At];simp
    rw [this];exact hL
   refine ab (bj (cQ (aR (aa 3 rfl rN.2.2.2.1 (aw (aa 4 rfl rN.2.2.2.2.1 (aG (by simp [sizeLine]) rfl rfl)))))))
end
noncomputable def om:kE:=dg iC 20
noncomputable def sa:Nat->ag->Int->Option (ag×Int)
 | 0,_,_=>none
 | n+1,sg,ln=>if (bJ .top sg ln "").1=="" then some ([],(bJ .top sg ln "").2.2) else (sa n (bJ .top sg ln "").2.1 (bJ .top sg ln "").2.2).map λp=>((bJ .top sg ln "").1::p.1,p.2)
theorem EP:sa (n+1) sg ln=if (bJ .top sg ln "").1=="" then some ([],(bJ .top sg ln "").2.2) else (sa n (bJ .top sg ln "").2.1 (bJ .top sg ln "").2.2).map λp=>((bJ .top sg ln "").1::p.1,p.2):=rfl
theorem A3:∀(sg:ag) (m:LM) (ln:Int) (t:Str),∃pre,sg=pre++(bJ m sg ln t).2.1:=by
 intro sg;induction sg with
 | nil =>intro m ln t;exact (ck [] (by cases m <;> rfl))
 | cons x r ih =>
   intro m ln t;have key:∀(m':LM) (EQ:Int) (t':Str),∃pre,x::r=pre++(bJ m' r EQ t').2.1:=λm' EQ t'=>by refine e1a0 (ih m' EQ t') λpre e=>?_;exact (ck (x::pre) (by rw [List.cons_append,<-e]))
   cases m with
   | top=>simp only [Kd,EA,EB,Ke,Kg];split <;> (try split) <;> (try split) <;> exact key _ _ _
   | yg =>
     simp only [Kd,EA,EB,Ke,Kg]
     split
     . exact (ck [x] rfl)
     . split <;> exact key _ _ _
   | unq =>
     simp only [Kd,EA,EB,Ke,Kg]
     split
     . exact (ck [x] rfl)
     . split <;> exact key _ _ _
   | r8=>skip;exact key _ _ _
   | pA=>skip;exact key _ _ _
section
variable {c:bc}{mg mb:fV}{Kf:Frag}{l:kL}
noncomputable abbrev yq:ag:=["text","lexer","words","word"]
theorem ER (V:Lex c mg mb Kf l)(hf:eG c fa om .none)(VM:mg "_law_lexer"=some (.ref ww))(uN:l7 c ww ma .none "_law_lexer" cc P (λzz=>"_law_lexer.<locals>._law_piece"))(hm:kK c mg)
 (fB:c9 mg mb "list" (.type "list")) (lp:c9 mg mb "iter" (.builtin "iter")) (x:Str) (hx:x.cps.size < 600) (ws:ag) (ln:Int) (hw:sa 100 (chars x) 1=some (ws,ln)) (n:Nat) :
 bz c (n+6) (.ref fa) [.str x] [] (λv zz=>v.under 0=true/\v=.tup [af ws,.int ln]):=by
 refine hf.en V.B.toBase (n:=n+5) ["text"] yq [(0,.str x)] (λzz zz=>rfl) rfl rfl (by decide +kernel) λenv own frames bd jN=>?_;have k1:=ay V.a1;refine ab (ku [(1,"lexer"),(2,"words")] rfl bd (by simp) ?_ (by rfl) (by rfl));refine cQ (aR (jc rfl (n:=n+3) (by show n+3<=n+5;exact bF (bF Nat.le.refl)) (ib V.B.toBase (by rfl) VM (aH ww rfl uN.fnAt (aw (aa 0 rfl rfl ((wL V uN hm fB [] x (ey hx rfl) n).mono λv H' VN=>e0a1 VN λe1 e2=>?_)))))));subst e1 e2;refine aw (eY (bM (jA (by simp [sizeLine]) (by simp [sizeLine]) _ rfl rfl ?_)));have AT:∀y∈chars x,y.length=1:=λy hy=>by refine e1a1 (dS hy) λa zz o5=>?_;obtain rfl:=o5;rfl
 have dZ:(chars x).length < 600:=by rw [jI];exact hx
 generalize chars x=O1 at hw AT dZ;have OS:LX ([]++gC l.cL 0 O1++[.list []]) l.cL 0 O1 1 []:=⟨rfl,rfl,rfl,rfl,rfl,rfl⟩
 refine (show Ex c (qK om env own frames (n+5) yq) _ ⟨[(0,.str x),(2,.ref 7),(1,.ref 5)],[]++gC l.cL 0 O1++[.list []]⟩ _ _ from ?_);have P9:([]++gC l.cL 0 O1++[AO.list []])[7]?=some (.list (([]:ag).map .str)):=rfl;generalize []++gC l.cL 0 O1++[AO.list []]=H0 at OS P9;let L:Str->fi:=λw=>[(1,.ref 5),(2,.ref 7),(3,.str w)]
 have step:∀{S:AS} {sg:ag} {ln:Int} {ev:ag} {p1 p2 p3 p4 p5:Pos} {K:ip},(p3.endLine==p4.line)=true->S.loc.lookup 1=some (.ref 5)->LX S.heap l.cL 0 sg ln []->S.heap[7]?=some (.list (ev.map .str))->sg.length < 600->(∀y∈sg,y.length=1) ->
  (∀H',LX H' l.cL 0 (bJ .top sg ln "").2.1 (bJ .top sg ln "").2.2 []->H'[7]?=some (.list (ev.map .str))->K .next ({S with heap:=H'}.put 3 (.str (bJ .top sg ln "").1))) ->
  nH c (qK om env own frames (n+5) yq) (.Assign [.Name "word" p1] (.Call (.Attribute (.Name "lexer" p2) "get_token" p3) [] [] p4) p5) S K gX:=by
  intro S sg ln ev p1 p2 p3 p4 p5 K hline h1 lx h7 hl z8 k;refine av (cP V.B l.cL l.get (n:=n+4) V.GP rfl (by show n+4<=n+5;exact bF Nat.le.refl) (aa 1 rfl h1 ⟨5,4,_,rfl,lx.lex,rfl,?_⟩) (hline:=hline));refine bM ((GU V lp lx (cG hl (Nat.le_add_left 600 300)) z8 n).mono λv H' Kn=>e0a2 Kn λVr lx' e=>?_);subst Vr;exact au 3 rfl (bd 3 _ rfl) (k H' lx' ((e.same 7 (bN h7).1 (λq=>Bp q)).trans h7))
 have rest:∀{sg:ag} {ln:Int},sg.length < 600->(∀y∈sg,y.length=1)->(bJ .top sg ln "").2.1.length < 600/\∀y∈(bJ .top sg ln "").2.1,y.length=1:=λ{sg ln} h1 h2=>by refine e1a0 (A3 sg .top ln "") λpre e=>?_;generalize (bJ .top sg ln "").2.1=r at e;subst e;exact ⟨by simp at h1;exact Nat.lt_of_add_left_lt h1,λy hy=>h2 y (List.mem_append_right _ hy)⟩
 refine ab (step (by rfl) rfl OS P9 dZ AT λH' lx1 h71=>?_);have un:∀{m:Nat} {sg:ag} {Lw:Int} {a:ag} {b:Int},sa (m+1) sg Lw=some (a,b)->(if (bJ .top sg Lw "").1=="" then some ([],(bJ .top sg Lw "").2.2) else (sa m (bJ .top sg Lw "").2.1 (bJ .top sg Lw "").2.2).map λp=>((bJ .top sg Lw "").1::p.1,p.2))=some (a,b):=λh=>h;refine ab (jh jN (λm S=>∃w sg EQ done tail,bw S (L w)/\LX S.heap l.cL 0 sg EQ []/\S.heap[7]?=some (.list (done.map .str))/\sg.length < 600/\(∀y∈sg,y.length=1)/\done.length+m < 200/\done++tail=ws /\
  (if w=="" then some ([],EQ) else (sa m sg EQ).map λp=>(w::p.1,p.2))=some (tail,ln)) 99 ⟨_,_,_,[],ws,(bw.of rfl),lx1,h71,((rest dZ AT).1),((rest dZ AT).2),(by simp),rfl,(un hw)⟩ ?_)
 intro m S o1;refine e5a0 o1 λw sg EQ done tail o6=>?_;clear o1;obtain ⟨hL,lx,h7,hl,h1,Yp,OX,KD⟩:=o6;refine bh (aa 3 rfl hL.2.2.1 (dj (IM (aT ?_))));cases hb:(w==("":Str)) with
 | true =>
   rw [hb] at KD;simp only [if_true,Option.some.injEq,Prod.mk.injEq] at KD;refine e0a1 KD λo3 o4=>?_;clear KD;obtain rfl:=o3;obtain rfl:=o4;rw [List.append_nil] at OX;subst OX;have:(w != ("":Str))=false:=by simp [bne,hb]
   rw [this];refine ei (fu.list 2 hL.2.1 h7) ?_;have O2:bw ⟨bY S.loc 2 (.lst (done.map .str)),S.heap.set 7 .gone⟩ [(1,.ref 5),(2,af done),(3,.str w)]:=hL.upd (i:=2) (v:=af done) |>.heap _;have VO:LX (S.heap.set 7 .gone) l.cL 0 sg EQ []:=lx.ext (P:=λj=>j=7) (Ext.set 7 _ rfl) λj h1 h2 h3=>bS h2 h3
   refine ab (bj (cQ (aR (aa 2 rfl O2.2.1 (aw (a7 (aa 1 rfl O2.1 (a9 V.B l.cL k1.2.2 k1.2.1 VO.lex (v:=.int EQ) rfl (λzz q=>by cases q) (aG (by simp [sizeLine]) ?_ rfl)))))))));simp [aI]
 | false =>
   rw [hb] at KD;simp only [dQ,if_false] at KD;have:(w != ("":Str))=true:=by simp [bne,hb]
   rw [this];refine e1a1 (mw KD) λp hp e=>?_;obtain ⟨p1,p2⟩:=p;simp only [Prod.mk.injEq] at e;refine e0a1 e λe1 o2=>?_;clear e;obtain rfl:=o2;subst e1;cases m with
   | zero=>cases hp
   | succ m =>refine ab (bZ (cb "list" "list.append" PySem.F.plainAttrs_list PySem.F.slot_list_append PySem.F.type_list_append (aa 2 rfl hL.2.1 ⟨gY h7 rfl,?_⟩)) (rfl));refine aw (aa 3 rfl hL.2.2.1 (dR h7 (by simp [sizeLine];exact ey (cD (bW ..) Yp) rfl) ?_));rw [strs_snoc];have VO:LX (S.heap.set 7 (.list ((done++[w]).map .str))) l.cL 0 sg EQ []:=lx.ext (P:=λj=>j=7) (Ext.set 7 _ rfl) λj h1 h2 h3=>bS h2 h3;refine ab (step (S:={S with heap:=S.heap.set 7 (.list ((done++[w]).map .str))}) (rfl) hL.1 VO (sV h7) hl h1 λH' lx3 h73=>ax ⟨m,iw,_,_,_,done++[w],p1,?_,lx3,h73,(rest hl h1).1,(rest hl h1).2,by simp;exact BR Yp,by rw [List.append_assoc];exact OX,un hp⟩);exact ((hL.heap _).heap H').upd (i:=3)
end
structure iT (nds:List Nd)(P:Str->Int)(T:Str->ag):Prop where
 nd:(nds.map (·.1)).Nodup
 at_:∀y∈nds,y.2.1=P y.1/\y.2.2=T y.1
 out:∀x,x∉nds.map (·.1)->P x=0/\T x=[]
theorem iT.congr (h:iT nds P T)(hP:∀x,P' x=P x)(hT:∀x,T' x=T x):iT nds P' T':=by obtain e1:P'=P:=funext hP;obtain e2:T'=T:=funext hT;refine (aq e1)▸(aq e2)▸?_;exact h
set_option tactic.hygienic true in
theorem jR (nds:List Nd)(x z:Str):z∈(bI nds x).map (·.1)↔z∈nds.map (·.1)\/z=x:=by
 delta bI
 split
 . rename_i h;refine e1a1 (List.any_eq_true.mp h) λp hp e=>?_;obtain e':p.1=x:=by simpa using e
   constructor
   . exact .inl
   . rintro (q | q)
     . exact q
     . refine (aq q)▸e'▸?_;exact dm (ae p hp rfl)
 . simp
set_option tactic.hygienic true in
theorem iT.bI {nds:List Nd}{P:Str->Int}{T:Str->ag}(h:iT nds P T)(x:Str):iT (bI nds x) P T:=by
 delta Mine.Internal.bI
 split
 . exact h
 . rename_i hx;have kr:x∉nds.map (·.1):=λm=>by refine e1a1 (dS m) λp hp e=>?_;exact hx (List.any_eq_true.mpr (ae p hp (by simpa using e)))
   refine e0a1 (h.out x kr) λo1 o2=>?_;refine ⟨?_,λy hy=>?_,λz hz=>h.out z λm=>hz ?_⟩
   . rw [List.map_append,List.nodup_append];refine (aG h.nd (by simp) (λa ha b hb e=>?_));simp at hb;subst hb;clear o2 o1 hx;subst e;exact kr ha
   . rcases bL hy with q | q
     . exact h.at_ y q
     . rw [bp q];exact ⟨o1.symm,o2.symm⟩
   . simp only [List.map_append];exact List.mem_append_left _ m
theorem mh (nds:List Nd)(x:Str)(k:Int):(bump nds x k).map (·.1)=nds.map (·.1):=by
 delta bump;rw [List.map_map];apply List.map_congr_left;intro p _;simp only [Function.comp]
 split <;> rfl
theorem i9 (nds:List Nd)(p x:Str):(dN nds p x).map (·.1)=nds.map (·.1):=by
 delta dN;rw [List.map_map];apply List.map_congr_left;intro p _;simp only [Function.comp]
 split <;> rfl
theorem iT.bump {nds:List Nd}{P:Str->Int}{T:Str->ag}(h:iT nds P T){x:Str}(hx:x∈nds.map (·.1))(k:Int):iT (bump nds x k) (λz=>if z=x then P z+k else P z) T:=by
 refine ⟨by simp only [mh];exact h.nd,λy hy=>?_,λz hz=>?_⟩
 . refine e1a1 (dS hy) λp hp o4=>?_;refine o4▸?_;refine e0a1 (h.at_ p hp) λh1 h2=>?_;by_cases e:p.1=x
   . rw [if_pos e];exact ⟨by show p.2.1+k=(if p.1=x then P p.1+k else P p.1);rw [if_pos e,h1],h2⟩
   . rw [if_neg e];exact ⟨by show p.2.1=(if p.1=x then P p.1+k else P p.1);rw [if_neg e,h1],h2⟩
 . rw [mh] at hz;refine e0a1 (h.out z hz) λo1 o2=>?_;exact ⟨(if_neg (λ(e:z=x)=>hz (e▸hx))).trans o1,o2⟩
theorem iT.dN {nds:List Nd}{P:Str->Int}{T:Str->ag}(h:iT nds P T){p:Str}(hp:p∈nds.map (·.1))(x:Str):iT (dN nds p x) P (λz=>if z=p then T z++[x] else T z):=by
 refine ⟨by simp only [i9];exact h.nd,λy hy=>?_,λz hz=>?_⟩
 . refine e1a1 (dS hy) λq hq o3=>?_;refine o3▸?_;refine e0a1 (h.at_ q hq) λh1 h2=>?_;by_cases e:q.1=p
   . rw [if_pos e];exact ⟨h1,by show q.2.2++[x]=(if q.1=p then T q.1++[x] else T q.1);rw [if_pos e,h2]⟩
   . rw [if_neg e];exact ⟨h1,by show q.2.2=(if q.1=p then T q.1++[x] else T q.1);rw [if_neg e,h2]⟩
 . rw [i9] at hz;refine e0a1 (h.out z hz) λo1 o2=>?_;exact ⟨o1,(if_neg (λ(e:z=p)=>hz (e▸hp))).trans o2⟩
theorem iT.cq {x:Str}:∀(l:ag) {nds:List Nd} {P:Str->Int} {T:Str->ag},l.Nodup->iT nds P T->iT (cq nds x l) P (λz=>if z∈l then T z++[x] else T z)/\∀z,z∈(cq nds x l).map (·.1)↔z∈nds.map (·.1)\/z∈l:=by
 intro l;induction l with
 | nil =>intro nds P T _ h;exact ⟨h.congr (λzz=>rfl) (λz=>rfl),λz=>by simp [Mine.Internal.cq]⟩
 | cons p l ih =>
   intro nds P T hn h;refine e0a1 (List.nodup_cons.mp hn) λhp hl=>?_;obtain h1:=(h.bI p).dN ((jR nds p p).mpr (.inr rfl)) x;refine e0a1 (ih hl h1) λi1 i2=>?_;refine ⟨(show iT (Mine.Internal.cq (Mine.Internal.dN (Mine.Internal.bI nds p) p x) x l) _ _ from i1.congr (λzz=>rfl) λz=>?_),λz=>?_⟩
   . by_cases e:z=p
     . cases e;simp [hp]
     . simp [e]
   . show z∈(Mine.Internal.cq (Mine.Internal.dN (Mine.Internal.bI nds p) p x) x l).map (·.1)↔_;rw [i2,i9,jR];simp only [List.mem_cons];constructor
     . rintro ((q | q) | q)
       . exact .inl q
       . exact .inr (.inl q)
       . exact .inr (.inr q)
     . rintro (q | q | q)
       . exact .inl (.inl q)
       . exact .inl (.inr q)
       . exact .inr q
theorem iT.fc {nds:List Nd}{P:Str->Int}{T:Str->ag}(h:iT nds P T)(x:Str){l:ag}(hl:l.Nodup) :
 iT (fc nds x l) (λz=>if z=x then P z+l.length else P z) (λz=>if z∈l then T z++[x] else T z)/\∀z,z∈(fc nds x l).map (·.1)↔z∈nds.map (·.1)\/z=x\/z∈l:=by
 obtain h1:=(h.bI x).bump ((jR nds x x).mpr (.inr rfl)) (l.length:Int);refine e0a1 (iT.cq (x:=x) l hl h1) λi1 i2=>?_;refine ⟨i1,λz=>?_⟩;show z∈(Mine.Internal.cq _ x l).map (·.1)↔_;rw [i2,mh,jR];constructor
 . rintro ((q | q) | q)
   . exact .inl q
   . exact .inr (.inl q)
   . exact .inr (.inr q)
 . rintro (q | q | q)
   . exact .inl (.inl q)
   . exact .inl (.inr q)
   . exact .inr q
theorem uP (N:Tab):∀(l pre:ag) (nds:List Nd),(pre++l).Nodup->(∀x∈l,(ak N x).Nodup) ->
 iT nds (λz=>if z∈pre then ((ak N z).length:Int) else 0) (λz=>pre.filter λx=>decide (z∈ak N x))->(∀z,z∈nds.map (·.1)↔z∈pre\/∃x∈pre,z∈ak N x) ->
 iT (l.foldl (λl x=>fc l x (ak N x)) nds) (λz=>if z∈pre++l then ((ak N z).length:Int) else 0) (λz=>(pre++l).filter λx=>decide (z∈ak N x)) /\
  (∀z,z∈(l.foldl (λl x=>fc l x (ak N x)) nds).map (·.1)↔z∈pre++l\/∃x∈pre++l,z∈ak N x):=by
 intro l;induction l with
 | nil =>intro pre nds _ _ h hm;rw [List.append_nil];exact ⟨h,hm⟩
 | cons x l ih =>
   intro pre nds hn hr h hm;refine e0a1 (h.fc x (hr x (.head _))) λi1 i2=>?_;obtain hx:x∉pre:=λm=>by rw [List.nodup_append] at hn;exact hn.2.2 x m x (.head _) rfl
   obtain this:=ih (pre++[x]) (fc nds x (ak N x)) (by simpa using hn) (λy hy=>hr y (.tail _ hy))
    (i1.congr (λz=>by
     by_cases e:z=x
     . cases e;simp [hx]
     . simp [e]) λz=>by
     by_cases e:z∈ak N x
     . simp [e]
     . simp [e]) (λz=>by
     rw [i2,hm];constructor
     . rintro ((q | ⟨y,hy,q⟩) | q | q)
       . exact .inl (List.mem_append_left _ q)
       . exact .inr (ae y (List.mem_append_left _ hy) q)
       . exact .inl (by simp [q])
       . exact .inr (ae x (by simp) q)
     . rintro (q | ⟨y,hy,q⟩)
       . rcases bL q with q | q
         . exact .inl (.inl q)
         . exact .inr (.inl (bp q))
       . rcases bL hy with w | w
         . exact .inl (.inr (ae y w q))
         . rw [bp w] at q;exact .inr (.inr q))
   rw [List.append_assoc,List.singleton_append] at this;exact this
theorem pg (N:Tab)(rank:ag)(hn:rank.Nodup)(hr:∀x∈rank,(ak N x).Nodup)(hs:∀x∈rank,∀y∈ak N x,y∈rank) :
 iT (cC N rank) (λz=>if z∈rank then ((ak N z).length:Int) else 0) (λz=>rank.filter λx=>decide (z∈ak N x))/\∀z,z∈(cC N rank).map (·.1)↔z∈rank:=by
 refine e0a1 (uP N rank [] [] (hn) hr ⟨by simp,by simp,by simp⟩ (by simp)) λh1 h2=>?_;exact ⟨h1,λz=>(h2 z).trans ⟨λq=>q.elim id λVP=>e1a1 VP λx hx q=>hs x hx z q,.inl⟩⟩
end Mine.Internal
namespace Mine.Internal
open PySem PyProof.Rows
section
variable {c:bc}{C:Cx}{S:AS}{F F':G}{bs aE:aO}{s s':Shared}{A:Around}{X:dU}{K:dC}{mg mb:fV}{pos:Pos}
theorem bq.ints (h:c.Vs F bs (l.map .int) vs):IntsAre vs l:=by
 induction l generalizing vs with
 | nil=>refine rE h.inv ?_;exact .nil
 | cons x l ih=>refine e2a2 h.inv λzz zz O3 h t=>?_;refine rE O3 ?_;refine e1a0 h.inv λzz O4=>?_;refine rE O4 ?_;exact .cons _ _ (ih t)
theorem KG (k:K (.int i) S):dD c C (.type "int") [.int i] S K X:=by intro A F bs s rs hA z hv;refine e1a1 hv.one λr rF h1=>?_;refine rE rF ?_;clear hv;refine e1a0 h1.inv λzz mo=>?_;refine rE mo ?_;exact call_int_int ⟨F,bs,.int i,S,.refl ..,z,.int _ _,k⟩
theorem Ii {ns:List Int}(hh:C.handled=none)(h:cm S v (ns.map .int))(k:K (.int ns.sum) S):dD c C (.builtin "sum") [v] S K X:=by
 intro A F bs s rs hA z hv;refine e1a1 hv.one λr nO h1=>?_;refine rE nO ?_;clear hv;refine e3a2 (z.kz h h1) λl vs n o9 h0 be=>?_;refine rE o9 ?_;have hi:=be.ints;refine e1a0 hi.allInts.items λxs hx=>?_;obtain hl:s.heap.IsList l vs.toArray:=(dh _ h0 rfl n rfl)
 replace hl:=hx▸hl;refine sum_intListG (hA.handled.trans hh) hl λh' tk t' hk=>?_;obtain e1:ns=xs.toList.map (·.1):=by rw [<-nums_intItems];refine hx▸?_;exact (show numsOf vs.toArray.toList=ns from hi.numsOf).symm
 obtain e2:preSum (numAt xs) xs.size=ns.sum:=by rw [preSum_eq,List.take_of_length_le (by simp),e1]
 refine rE e2 ?_;obtain m:bf c F bs s {s with heap:=h',toks:=tk}:=⟨hk,rfl,rfl⟩
 exact ⟨F,bs,.int ns.sum,S,.keep m,z.keep m,.int _ _,k⟩
theorem O5 {ns:List Int}(hh:C.handled=none)(h:cm S v (ns.map .int))(ge:0 < ns.length)(k:∀M,M∈ns->(∀a∈ns,a<=M)->K (.int M) S):dD c C (.builtin "max") [v] S K X:=by
 intro A F bs s rs hA z hv;refine e1a1 hv.one λr o8 h1=>?_;refine rE o8 ?_;clear hv;refine e3a2 (z.kz h h1) λl vs n o7 h0 be=>?_;refine rE o7 ?_;have hi:=be.ints;refine e1a0 hi.allInts.items λxs hx=>?_;obtain hl:s.heap.IsList l vs.toArray:=(dh _ h0 rfl n rfl)
 replace hl:=hx▸hl;have Bd:ns=xs.toList.map (·.1):=by rw [<-nums_intItems];refine hx▸?_;exact (show numsOf vs.toArray.toList=ns from hi.numsOf).symm
 have hsz:0 < xs.size:=by have h3:=ge;rw [Bd,fz,Array.length_toList] at h3;exact h3
 refine max_intList (hA.handled.trans hh) hl hsz λv h' tk hv hk=>?_;refine e1a0 (intItems_at hv) λt o6=>?_;refine rE o6 ?_;refine e0a1 (argBest_gt (numAt xs) (xs.size - 1)) λh1 h2=>?_;obtain m:bf c F bs s {s with heap:=h',toks:=tk}:=⟨hk,rfl,rfl⟩
 refine ⟨F,bs,.int _,S,.keep m,z.keep m,.int _ _,k _ ?_ λa ha=>?_⟩
 . rw [Bd,numAt_eq];exact getD_mem (by rw [fz,Array.length_toList];exact Nat.lt_of_le_pred hsz h1)
 . replace ha:=Bd▸ha;refine e1a1 (mem_getD ha) λj hj o5=>?_;clear ha;obtain rfl:=o5;rw [fz,Array.length_toList] at hj;rw [<-numAt_eq];exact h2 j (Nat.le_sub_one_of_lt hj)
noncomputable def isStr (x:Str):Value->Bool
 | .str y _=>y==x
 | _=>false
theorem yr (h:StrsAre vs l):∀(i:Nat) (hi:i < vs.length),∃t,∃hj:i < l.length,vs[i]=.str l[i] t:=by
 induction h with
 | nil=>intro i hi;simp at hi
 | cons x t _ ih =>
   intro i hi;cases i with
   | zero=>exact (xk t (by simp) rfl)
   | succ i=>refine e2a0 (ih i (by simpa using hi)) λt' h1 h2=>?_;exact (xk t' (by simpa using h1) h2)
theorem O6 {ns:ag}(h:j < ns.idxOf k)(h2:j < ns.length):(ns[j]==k)=false:=by
 induction ns generalizing j with
 | nil=>exact absurd h2 (Nat.not_lt_zero _)
 | cons n r ih =>
   rw [List.idxOf_cons] at h;cases hb:n==k with
   | true=>replace h:=hb▸h;exact absurd h (Nat.not_lt_zero _)
   | false =>
     replace h:=hb▸h;cases j with
     | zero=>exact hb
     | succ j=>exact ih (Nat.lt_of_succ_lt_succ h) (Nat.lt_of_succ_lt_succ h2)
theorem G5 {l:ag}(h:cm S v (l.map .str))(hx:x∈l)(hl:l.length < 1000)(k:K (.int (l.idxOf x)) S):dD c C (.builtin "list.index") [v,.str x] S K X:=by
 intro A F bs s rs hA z hv;refine e2a2 hv.inv λr Py o4 h1 lG=>?_;refine rE o4 ?_;refine e1a1 lG.one λr' o3 h2=>?_;refine rE o3 ?_;clear lG;refine e1a0 h2.inv λzz o2=>?_;refine rE o2 ?_;clear hv;refine e3a2 (z.kz h h1) λa vs n o1 h0 be=>?_;refine rE o1 ?_;have hs:=be.strs;have hlen:vs.length=l.length:=by obtain this:=be.length;simpa using this
 have hj:l.idxOf x < l.length:=List.idxOf_lt_length_iff.mpr hx;refine call_meets PySem.F.slot_list_index (ae _ h0 rfl) PySem.F.entry_list_index (PySem.F.args_list_index_2 _ _)
  (SeqAt.list_indexAt a vs.toArray n Option.none #[] (.str x _) (isStr x) (l.idxOf x) (by simpa [hlen] using hj) (Int.ofNat_lt.mpr (hZ (Nat.lt_trans hj hl) rfl)) ?_ ?_) (aG h0 (λy hy=>?_) ?_)
 . refine e2a0 (yr hs (l.idxOf x) (iW hj hlen)) λt q1 q2=>?_;show isStr x vs[l.idxOf x]=true;simp only [q2];show (l[l.idxOf x]==x)=true;simp
 . intro j hjs eX;refine e2a0 (yr hs j (hjs)) λt q1 q2=>?_
   skip
   refine rE q2 ?_;obtain this:=O6 eX q1;exact this
 . obtain ⟨i,hi,O7⟩:=List.getElem_of_mem (by simpa using hy);refine O7▸?_;refine e2a0 (yr hs i hi) λt q1 q2=>?_;refine (aq q2)▸?_;exact (eqGives_str _ _ _ _).at _ _
 . obtain m:bf c F bs s {s with toks:=s.toks+1}:=⟨λzz zz e=>e,rfl,rfl⟩
   exact ⟨F,bs,.int (l.idxOf x),S,.keep m,z.keep m,.int _ _,k⟩
end
end Mine.Internal
namespace Mine.Internal
open PySem PyProof.Rows PySem.W
noncomputable def mi:kE:=dg iC 21
noncomputable def de:Str:="a #\"\\"
noncomputable def cellsOf (sc:List Int):List Int:=(sc.take 12).map λx=>x.fmod (10 ^ 6)
noncomputable def codeOf (cells:List Int):Int:=2188083+(cells.zipIdx.map λp=>p.1*((p.2:Int)+1)).sum
noncomputable def orderOf (k:Int):ag:=(bO (chars de) k 5).2.1
noncomputable def KH (l:List Int):Int:=l.foldl max (-1)
noncomputable def overIn (ev:ag):Nat->ag
 | 0=>[]
 | i+1=>match ev[i]? with
   | none=>overIn ev i
   | some x=>if isIn (ev.take i) x then overIn ev i++[x] else overIn ev i
theorem jm:overIn ev 0=[]:=rfl
theorem fR:overIn ev (i+1)=match ev[i]? with
 | none=>overIn ev i
 | some x=>if isIn (ev.take i) x then overIn ev i++[x] else overIn ev i:=rfl
noncomputable def overOf (ev:ag):ag:=overIn ev ev.length
noncomputable def gU (over row:ag):ag:=cg (over.take (1+KH (row.map λy=>((over.idxOf y:Nat):Int))).toNat)
noncomputable def j6 (over:ag)(nd:Tab)(l:ag):Tab:=l.foldl (λd x=>df d x (gU over (ak nd x))) []
noncomputable def ES:Scope:=(dg mi.body 13).scope
theorem zI (h:M∈-1::l)(hu:∀a∈-1::l,a<=M):M=KH l:=by
 obtain key:∀(l:List Int) (b:Int),(∀a∈b::l,a<=l.foldl max b)/\l.foldl max b∈b::l:=by
  intro l;induction l with
  | nil=>intro b;simp
  | cons x r ih =>
    intro b;refine e0a1 (ih (max b x)) λh1 h2=>?_;simp only [List.foldl_cons];refine ⟨λa ha=>?_,?_⟩
    . obtain hm:=h1 (max b x) (.head _);rcases cu ha with rfl | ha
      . exact Int.le_trans (Int.le_max_left _ _) hm
      . (refine aN (cu ha) (λo3=>?_) (λha=>?_);clear ha h2 h1;refine rE o3 ?_)
        . exact Int.le_trans (Int.le_max_right _ _) hm
        . exact h1 a (.tail _ ha)
    . (refine aN (cu h2) (λq=>?_) (λq=>?_))
      . simp only [q]
        (refine aN (Int.le_total b x) (λw=>?_) (λw=>?_))
        . rw [Int.max_eq_right w];exact .tail _ (.head _)
        . rw [Int.max_eq_left w];exact .head _
      . exact .tail _ (.tail _ q)
 refine e0a1 (key l (-1)) λh1 h2=>?_;obtain a1:=h1 M h;obtain a2:=hu _ h2
 skip;exact Int.le_antisymm a1 a2
structure uQ (nd:Tab)(rank:ag):Prop where
 len:rank.length<=10
 rows:∀x∈rank,∃row,bB nd x=some row/\row.length<=10
 rk:∃rk:Str->Nat,∀y∈cC nd rank,∀s∈y.2.2,s∈(cC nd rank).map (·.1)/\rk y.1 < rk s
structure KI (d:Tab):Prop where
 len:d.length=5
 nodup:(d.map (·.1)).Nodup
 rows:∀p∈d,p.2.length < 100
structure O8 (ns dr:ag)(nd ds:Tab)(Bj xg ev KJ:ag):Prop where
 VQ:ns.length=5
 dr5:dr.length=5
 ds5:KI ds
 dsn:∀y∈ns,(bB ds y).isSome=true
 O9:uQ nd (cj ds ns)
 VS:sim nd (cj ds ns) true=some Bj
 VT:Bj.length < 60
 VU:sim nd (cj ds ns) false=some xg
 VV:xg.length < 60
 half:eM (shown Bj) ds=!(bD ds).1/\eM (shown xg) ds=(!(bD ds).1&&!(bD ds).2)
 VW:uQ nd dr
 VX:sim nd dr false=some ev
 KL:ev.length < 60
 one:∀x∈ev,x.length=1
 text:(textSt ev ev.length).cps.size < 600
 words:sa 100 (chars (textSt ev ev.length)) 1=some (ev,6)
 over:(shown ev).map (·.1)=overOf ev
 idx:∀x∈ns,∃row,bB nd x=some row/\row.length<=10/\∀y∈row,y∈overOf ev
 due:eM (shown ev) (j6 (overOf ev) nd ns)=true
 Yq:KI (shown ev)
 shn:∀y∈dr,(bB (shown ev) y).isSome=true
 shj:bD (shown ev)=(false,false)
 VY:uQ (shown ev) (cj (shown ev) dr)
 VZ:sim (shown ev) (cj (shown ev) dr) false=some KJ
 V0:KJ.length < 60
 same:eM (shown KJ) (shown ev)=true
structure KN where
 order:Addr
 se:Addr
 bD:Addr
 rank:Addr
 run:Addr
 shown:Addr
 text:Addr
 words:Addr
 mu:Addr
 lex:Addr
structure KO (c:bc)(mg mb:fV)(Kf:Frag)(a:sP)(l:kL)(b:KN):Prop where
 W:r0 c mg mb Kf a
 V:Lex c mg mb Kf l
 G:GX c mg mb a b.lex
 order:eG c b.order uy .none
 yt:mg "_law_order"=some (.ref b.order)
 se:eG c b.se zx .none
 Ij:mg "_law_plan"=some (.ref b.se)
 bD:eG c b.bD ij .none
 uR:mg "_law_judged"=some (.ref b.bD)
 rank:∃cc P,l7 c b.rank sW .none "_law_rank" cc P (λzz=>"_law_rank.<locals>.<lambda>")
 ET:mg "_law_rank"=some (.ref b.rank)
 Ik:c.aD 1=oh
 run:eG c b.run qY .none
 EU:mg "_law_run"=some (.ref b.run)
 shown:eG c b.shown uz .none
 q0:mg "_law_shown"=some (.ref b.shown)
 text:eG c b.text fText .none
 Il:mg "_law_text"=some (.ref b.text)
 words:eG c b.words om .none
 EV:mg "_law_words"=some (.ref b.words)
 mu:eG c b.mu Ax .none
 Pa:mg "sorted_list_difference"=some (.ref b.mu)
 jS:c9 mg mb "sorted" (.builtin "sorted")
 rg:c9 mg mb "range" (.type "range")
 EW:c9 mg mb "IndexError" (.type "IndexError")
 s7:c9 mg mb "enumerate" (.type "enumerate")
 KP:c9 mg mb "int" (.type "int")
 EX:c9 mg mb "sum" (.builtin "sum")
 KQ:c9 mg mb "max" (.builtin "max")
section
variable {c:bc}{C:Cx}{S:AS}{X:dU}{K:dC}{mg mb:fV}{Kf:Frag}{a:sP}{l:kL}{b:KN}{F:G}{bs:aO}{s:Shared}{pos:Pos}
theorem yu {b:Bool}(k:K (.bool (!b)) S):Pm c C (unaryOp .Not) (.bool b) S K X:=λA F bs s ra hA z ha=>by obtain ⟨_,rfl⟩:=ha.inv;show wpAny _ _ (holding [.bool b] (do return Value.bool (!(<-truthy (.bool b))))) _ _ _;exact wpAny_holding (ah (wpAny_truthy_bool (aM ⟨F,bs,.bool (!b),S,.refl ..,z,.bool _,k⟩)))
noncomputable abbrev EY:ag:=["script","cells","code","names","needs","downs","crossed","beside","rank","best","line","drawn","events","rows","shown","over","due"]
theorem EZ {K K':u9}(h:pO c C pos es S K' X)(hk:∀f S,K' f S->K f S):pO c C pos es S K X:=λA F bs s hA z=>(h A F bs s hA z).mono hk λzz zz q=>q
inductive Pb (c:bc)(n:Nat)(fa:Addr)(K:dC)(vs:dB)(S:AS):Prop
 | mk (hu:AV.b8 0 vs=true) (r:AV) (hc:bz c n (.ref fa) vs [] (λv zz=>v.under 0=true/\v=r)) (k:K r S)
theorem gL {f:Str}{fp:Pos}{fa:Addr}{args:dM}{n:Nat}(B:Base c mg mb)(hh:C.handled=none)(hn:n<=C.n)(hk:C.env.kindOf f=some .globalImplicit)(hg:mg f=some (.ref fa))(v4:FnAt c fa)
 (h:pO c C pos args S (Pb c n fa K) X)
 (hd:(f==("__debug__":Str))=false:=by decide +kernel)
 (he:eval (.Call (.Name f fp) args [] pos) C.env=(do callWith pos (<-eval (.Name f fp) C.env) [] (backTo pos (starEach args C.env)) (backToKw pos (keywordEach [] C.env))):=by rfl)
 (hl:pk (backTo pos (starEach args C.env))=false:=by rfl):Ev c C (.Call (.Name f fp) args [] pos) S K X :=
 jc hh hn (ib B hk hg (aH fa rfl v4 (EZ h λvs Z q4=>q4.casesOn λhu P hc k=>(bz.hide hc hu).mono λv H' q5=>e0a1 q5 λe p=>by clear q5 hc;subst e p;exact k)) hd) he hl
set_option tactic.hygienic true in
theorem KR (Gx:KO c mg mb Kf a l b)(hf:eG c fa mi .none)(sc:List Int)(oK:sc.length<=63)(Bj xg ev KJ:ag)
 (zJ:∀i,i<=5->∀j,j < i->(bB (aS (orderOf ((codeOf (cellsOf sc)).fdiv (3 ^ 10))) (codeOf (cellsOf sc)) i).2.1 ((orderOf ((codeOf (cellsOf sc)).fdiv (3 ^ 10))).getD j "")).isSome=true)
 (L:O8 (orderOf ((codeOf (cellsOf sc)).fdiv (3 ^ 10))) (orderOf (cellsOf sc).sum) (aS (orderOf ((codeOf (cellsOf sc)).fdiv (3 ^ 10))) (codeOf (cellsOf sc)) 5).1 (aS (orderOf ((codeOf (cellsOf sc)).fdiv (3 ^ 10))) (codeOf (cellsOf sc)) 5).2.1 Bj xg ev KJ) (n:Nat) :
 bz c (n+8) (.ref fa) [.lst (sc.map .int)] [] (λv _=>v=.bool true):=by
 have B:=Gx.W.B.toBase;refine hf.en B (n:=n+7) ["script"] EY [(0,.lst (sc.map .int))] (λ_ _=>rfl) rfl rfl (by decide +kernel) λenv own frames bd jN=>?_;generalize yv:cellsOf sc=cells at zJ L;have dZ:cells.length<=12:=by rw [<-yv];simp [cellsOf];exact (Nat.min_le_left 12 _)
 refine ab (fK (sc:=mi.scope) ["cell"] [] rfl trivial (by decide +kernel) (eA (jd (aa 0 rfl rfl (bH (kj 12 rfl (sc.map .int) (.inl rfl) (show (0:Int)<=12 by decide) (by rw [List.length_map];unfold sizeLine;exact (aV oK (Nat.le_add_left 63 16777153))) (.inl (aH _ (.inl rfl) trivial (λwn own' im=>?_)))))))))
 . refine ⟨λi acc S'=>S'=⟨[],[]⟩/\acc=(cells.take i).map .int,⟨rfl,by simp⟩,?_,?_,?_⟩
   . intro i acc S' o1;refine e0a1 o1 λUA Uz=>?_;clear o1;obtain rfl:=UA;obtain rfl:=Uz;refine ⟨.inl rfl,?_⟩;simp only [List.length_map,List.length_take,sizeLine];exact (mx (aV (Nat.min_le_right ..) dZ) rfl)
   . intro i y acc S' hy o2;refine e0a1 o2 λPY o49=>?_;clear o2;obtain rfl:=PY;obtain rfl:=o49;have l9:((sc.take 12).map AV.int)[i]?=some y:=by simpa [cutOf] using hy
     rw [List.getElem?_map] at l9;refine e1a1 (Option.map_eq_some_iff.mp l9) λw hw o47=>?_;obtain rfl:=o47;have oO:cells.take (i+1)=cells.take i++[w.fmod (10 ^ 6)]:=by rw [List.take_add_one];congr 1;rw [<-yv];unfold cellsOf;rw [List.getElem?_map,hw];rfl
     refine au 0 rfl (im _ (.inl rfl)) ?_;show Ev c _ _ _ _ _;refine ee (bQ (.type "int") (bT B (by rfl) Gx.KP.1 Gx.KP.2 ⟨rfl,aw (aa 0 rfl rfl (KG (ee (bH (bH (CE (by decide) (by decide) (by decide) (xt (by decide) ?_)))))))⟩));refine (aH [] trivial rfl ?_);rw [oO];simp
   . intro acc S' o3;refine e0a1 o3 λo45 o46=>?_;clear o3;obtain rfl:=o45;obtain rfl:=o46;have e1:cells.take (cutOf none (some 12) (sc.map AV.int)).length=cells:=by refine List.take_of_length_le ?_;rw [<-yv];simp [cutOf,cellsOf]
     rw [e1];refine .inl (au 1 rfl (bd 1 _ rfl) ?_);have e2:(AS.mk [(0,AV.lst (sc.map .int))] []).put 1 (.lst (cells.map .int))=⟨[(0,.lst (sc.map .int)),(1,.lst (cells.map .int))],[]⟩:=rfl;rw [e2];refine ab (av (ee (bH (bQ (.builtin "sum") (bT B (by rfl) Gx.EX.1 Gx.EX.2 ⟨rfl,aw (ll (sc:=mi.scope) ["place","cell"] [] rfl trivial (by decide +kernel) (ud (bT B (by rfl) Gx.s7.1 Gx.s7.2 ⟨rfl,aa 1 rfl rfl (aH _ rfl trivial (λwn own' im=>?_))⟩) rfl))⟩)))));generalize yw:cells.zipIdx.map (λp=>p.1*((p.2:Int)+1))=rc;have pc:rc.length=cells.length:=by rw [<-yw];simp
     refine ⟨λi acc S'=>S'=⟨[],[]⟩/\acc=(rc.take i).map .int,⟨rfl,by simp⟩,?_,?_,?_⟩
     . intro i acc S' o4;refine e0a1 o4 λo43 o44=>?_;clear o4;obtain rfl:=o43;obtain rfl:=o44;refine ⟨trivial,?_⟩;simp only [List.length_map,List.length_take,sizeLine];exact (mx (aV (Nat.min_le_right _ _) (pc▸dZ)) rfl)
     . intro i y acc S' hy o5;refine e0a1 o5 λo41 o42=>?_;clear o5;obtain rfl:=o41;obtain rfl:=o42;rw [List.getElem?_map,List.getElem?_zipIdx,List.getElem?_map] at hy;cases hx:cells[i]? with
       | none=>rw [hx] at hy;cases hy
       | some w =>
         rw [hx] at hy;cases hy;have hi:i < cells.length:=(List.getElem?_eq_some_iff.mp hx).1;have oO:rc.take (i+1)=rc.take i++[w*(((0+i:Nat):Int)+1)]:=by rw [List.take_add_one];congr 1;rw [<-yw,List.getElem?_map,List.getElem?_zipIdx,hx];rfl
         refine (aG rfl rfl (au 0 rfl (im _ (.inl rfl)) (au 1 rfl (im _ (.inl rfl)) ?_)));show Ev c _ _ _ _ _;refine ee (aa 1 rfl rfl (ee (aa 0 rfl rfl (bH (xq (II (IntMulOk.of_right (intBits_le_64 (by dsimp only;exact (Int.NonNeg.mk (0+_+1+Nat.succ 18446744073709551614))) (by dsimp only;exact B5 hi dZ))) ?_))))));refine (aH [] trivial rfl ?_);rw [oO];simp
     intro acc S' o6;refine e0a1 o6 λo39 o40=>?_;clear o6;obtain rfl:=o39;obtain rfl:=o40;have e3:rc.take (((cells.map AV.int).zipIdx.map λp=>AV.tup [.int p.2,p.1])).length=rc:=List.take_of_length_le (by simp [pc]);rw [e3];refine .inl (Ii rfl (.inl rfl) (xq ?_));have e4:(2188083:Int)+rc.sum=codeOf cells:=by rw [<-yw];rfl
     rw [e4];generalize codeOf cells=code at zJ L;refine au 2 rfl (bd 2 _ rfl) ?_;generalize Bd:orderOf (code.fdiv (3 ^ 10))=ns at zJ L;generalize V1:aS ns code 5=pl at L;obtain ⟨nd,ds,cd⟩:=pl;refine ab (av (gL (n:=n+1) B rfl (by show n+1<=n+7;exact kh) (by rfl) Gx.yt Gx.order.fnAt (aR (dj (aw (ee (aa 2 rfl rfl (ee (bH (bH (CE (by decide) (by decide) (by decide) (IJ (by decide) (PyProof.noPylong_small (by decide)) ⟨by rfl,_,wq B Gx.order Gx.G.nB Gx.rg Gx.G.yk de (by decide +kernel) _ n,?_⟩))))))))))));have e5:(bO (chars de) (code.fdiv ((3:Int) ^ (10:Int).toNat)) 5).2.1=ns:=Bd;rw [e5];refine au 3 rfl (bd 3 _ rfl) ?_;refine ab (av (gL (n:=n+1) B rfl (by show n+1<=n+7;exact kh) (by rfl) Gx.Ij Gx.se.fnAt (aR (aa 3 rfl rfl (aw (aa 2 rfl rfl ⟨by simp [aI],_,GA B Gx.se Gx.rg Gx.jS Gx.G.EI ns L.VQ code n zJ,?_⟩))))));rw [V1];refine gm rfl rfl (au 4 rfl (bd 4 _ rfl) (au 5 rfl (bd 5 _ rfl) ?_));have e6:∀(x:AS),Ex c (qK mi env own frames (n+7) EY) (mi.body.drop 4) x (λfl S'=>match fl with
      | sz.next=>AV.none=AV.bool true
      | sz.ret v=>v=AV.bool true
      | x=>False) gX->True:=λ_ _=>trivial
     have Yr:∀(d:Tab) (k:KI d),bz c (n+2) (.ref b.bD) [.aZ (br af d)] [] (λv _=>v.under 0=true/\v=.tup [.bool (bD d).1,.bool (bD d).2]):=λd k=>A2 B Gx.bD Gx.mu Gx.Pa Gx.jS Gx.rg Gx.EW d k.len k.nodup k.rows n;have run:∀(d:Tab) (r:ag) (best:Bool) (ev:ag),uQ d r->sim d r best=some ev->bz c (n+6) (.ref b.run) [.aZ (br af d),af r,.bool best] [] (λv _=>v.under 0=true/\v=af ev):=λd r best ev k hs=>let ⟨rk,JY⟩:=k.rk;Kx Gx.W Gx.V Gx.G Gx.run d r best ev hs k.len k.rows rk JY n;have Qa:∀(ev:ag),ev.length < 60->bz c (n+1) (.ref b.shown) [af ev] [] (λv _=>v.under 0=true/\v=.aZ (br af (shown ev))):=λev h=>DT B Gx.shown Gx.jS ev h n;refine e2a0 Gx.rank λccR PR wP=>?_;have Ys:∀(d:Tab) (o:ag),o.length=5->(∀y∈o,(bB d y).isSome=true)->bz c (n+3) (.ref b.rank) [.aZ (br af d),af o] [] (λv _=>v.under 0=true/\v=af (cj d o)):=λd o h1 h2=>GV B wP Gx.G.mod Gx.Ik Gx.G.yk Gx.jS d o h1 h2 n;have us:∀(d:Tab),AV.under 0 (.aZ (br af d))=true:=λd=>by simp [dJ 0 af (bb 0)]
     have Qb:∀(d:Tab) (r:ag) (q:Bool),AV.b8 0 [.aZ (br af d),af r,.bool q]=true:=λd r q=>by simp only [YM,YN,us,YL,aI];rfl
     refine ab (av (gL (n:=n+2) B rfl (by show n+2<=n+7;exact yS) (by rfl) Gx.uR Gx.bD.fnAt (aw (aa 5 rfl rfl ⟨by simp [us],_,Yr ds L.ds5,?_⟩))));refine gm rfl rfl (au 6 rfl (bd 6 _ rfl) (au 7 rfl (bd 7 _ rfl) ?_));refine ab (av (gL (n:=n+3) B rfl (by show n+3<=n+7;exact yT) (by rfl) Gx.ET wP.fnAt (aR (aa 5 rfl rfl (aw (aa 3 rfl rfl ⟨by simp [us,aI],_,Ys ds ns L.VQ L.dsn,?_⟩))))));refine au 8 rfl (bd 8 _ rfl) ?_;refine ab (av (gL (n:=n+1) B rfl (by show n+1<=n+7;exact kh) (by rfl) Gx.q0 Gx.shown.fnAt (aw (gL (n:=n+6) B rfl (by show n+6<=n+7;exact mC) (by rfl) Gx.EU Gx.run.fnAt (aR (aa 4 rfl rfl (aR (aa 8 rfl rfl (aw (ez ⟨Qb _ _ _,_,run nd _ true Bj L.O9 L.VS,?_⟩))))))))));refine ⟨by simp [aI],_,Qa Bj L.VT,?_⟩;refine au 9 rfl (bd 9 _ rfl) ?_;refine ab (av (gL (n:=n+1) B rfl (by show n+1<=n+7;exact kh) (by rfl) Gx.q0 Gx.shown.fnAt (aw (gL (n:=n+6) B rfl (by show n+6<=n+7;exact mC) (by rfl) Gx.EU Gx.run.fnAt (aR (aa 4 rfl rfl (aR (aa 8 rfl rfl (aw (ez ⟨Qb _ _ _,_,run nd _ false xg L.O9 L.VU,?_⟩))))))))));refine ⟨by simp [aI],_,Qa xg L.VV,?_⟩;refine au 10 rfl (bd 10 _ rfl) ?_;refine (show Ex c (qK mi env own frames (n+7) EY) _ ⟨[(0,.lst (sc.map .int)),(1,.lst (cells.map .int)),(2,.int code),(3,af ns),(4,.aZ (br af nd)),(5,.aZ (br af ds)),(6,.bool (bD ds).1),(7,.bool (bD ds).2),(8,af (cj ds ns)),(9,.aZ (br af (shown Bj))),(10,.aZ (br af (shown xg)))],[]⟩ _ _ from ?_);have Lx:n+7≠0:=by exact (dk (Nat.le_add_left (Nat.succ 0) (_+6)))
     have q1:=L.half.1;have q2:=L.half.2;refine ab (bP (bh (cQ (aR (tU (aa 9 rfl rfl (aa 5 rfl rfl (ym Lx (aw (tU (aa 10 rfl rfl (aa 5 rfl rfl (ym Lx ⟨by simp [sizeLine],cQ (aR (mK (aa 6 rfl rfl (yu (aw ?_)))))⟩)))))))))))));refine lg (K':=λv S'=>v=.bool (!(bD ds).1&&!(bD ds).2)/\S'=⟨[(0,.lst (sc.map .int)),(1,.lst (cells.map .int)),(2,.int code),(3,af ns),(4,.aZ (br af nd)),(5,.aZ (br af ds)),(6,.bool (bD ds).1),(7,.bool (bD ds).2),(8,af (cj ds ns)),(9,.aZ (br af (shown Bj))),(10,.aZ (br af (shown xg)))],[]⟩) (FY (mK (aa 6 rfl rfl (yu (aT ?_))))) ?_
     . cases hj:(bD ds).1 with
       | true=>exact ⟨by simp,rfl⟩
       | false=>exact mK (aa 7 rfl rfl (yu ⟨by simp,rfl⟩))
     intro v S' o7;refine e0a1 o7 λo37 o38=>?_;clear o7;obtain rfl:=o37;obtain rfl:=o38;refine ⟨by simp [sizeLine],yn (.cons (xf.bool _ _) (.cons (xf.bool _ _) .nil)) Lx (aT ?_)⟩;rw [show (!List.all [eM (shown Bj) ds==!(bD ds).1,eM (shown xg) ds==(!(bD ds).1&&!(bD ds).2)] id)=false by rw [q1,q2];simp];refine ax ?_;generalize Kv:orderOf cells.sum=dr at L;refine ab (av (gL (n:=n+1) B rfl (by show n+1<=n+7;exact kh) (by rfl) Gx.yt Gx.order.fnAt (aR (dj (aw (bQ (.builtin "sum") (bT B (by rfl) Gx.EX.1 Gx.EX.2 ⟨rfl,aw (aa 1 rfl rfl (Ii rfl (.inl rfl) ⟨by rfl,_,wq B Gx.order Gx.G.nB Gx.rg Gx.G.yk de (by decide +kernel) _ n,?_⟩))⟩)))))));have e7:(bO (chars de) cells.sum 5).2.1=dr:=Kv;rw [e7];refine au 11 rfl (bd 11 _ rfl) ?_;refine e2a0 Gx.G.uN λccL PL KK=>?_;refine ab (av (gL (n:=n+6) B rfl (by show n+6<=n+7;exact mC) (by rfl) Gx.EV Gx.words.fnAt (aw (gL (n:=n+1) B rfl (by show n+1<=n+7;exact kh) (by rfl) Gx.Il Gx.text.fnAt (aw (gL (n:=n+6) B rfl (by show n+6<=n+7;exact mC) (by rfl) Gx.EU Gx.run.fnAt (aR (aa 4 rfl rfl (aR (aa 11 rfl rfl (aw (ez ⟨Qb _ _ _,_,run nd _ false ev L.VW L.VX,?_⟩))))))))))));refine ⟨by simp [aI],_,Gy B Gx.text Gx.s7 ev L.KL L.one n,?_⟩;refine ⟨by rfl,_,ER Gx.V Gx.words Gx.G.EH KK Gx.G.mod Gx.G.nB Gx.G.EJ _ L.text ev 6 L.words n,?_⟩;refine gm rfl rfl (au 12 rfl (bd 12 _ rfl) (au 13 rfl (bd 13 _ rfl) ?_));refine ab (av (gL (n:=n+1) B rfl (by show n+1<=n+7;exact kh) (by rfl) Gx.q0 Gx.shown.fnAt (aw (aa 12 rfl rfl ⟨by simp [aI],_,Qa ev L.KL,?_⟩))));refine au 14 rfl (bd 14 _ rfl) ?_;refine (show Ex c (qK mi env own frames (n+7) EY) _ ⟨[(0,.lst (sc.map .int)),(1,.lst (cells.map .int)),(2,.int code),(3,af ns),(4,.aZ (br af nd)),(5,.aZ (br af ds)),(6,.bool (bD ds).1),(7,.bool (bD ds).2),(8,af (cj ds ns)),(9,.aZ (br af (shown Bj))),(10,.aZ (br af (shown xg))),(11,af dr),(12,af ev),(13,.int 6),(14,.aZ (br af (shown ev)))],[]⟩ _ _ from ?_);refine ab (av (ll (sc:=mi.scope) ["events","place","name"] [(12,"events",af ev)] rfl (aG rfl rfl trivial) (show eJ _ _ ["events"] _=true by decide +kernel) (ud (bT B (by rfl) Gx.s7.1 Gx.s7.2 ⟨rfl,aa 12 rfl rfl (aH _ rfl (aG rfl rfl trivial) (λwn own' im=>?_))⟩) rfl)));have E0:=L.KL;have V2:∀i,(overIn ev i).length<=i:=λi=>by
      induction i with
      | zero=>simp [jm,fR]
      | succ i ih =>
        rw [fR]
        split
        . exact th ih
        . split
          . simp;exact ih
          . exact th ih
     have Im:∀i,(overIn ev i).length<=ev.length:=λi=>by
      induction i with
      | zero=>simp [jm,fR]
      | succ i ih =>
        have h1:=V2 i;rw [fR]
        split
        . exact ih
        . rename_i x hx;have:=(List.getElem?_eq_some_iff.mp hx).1
          split
          . simp;exact (cD h1 this)
          . exact ih
     refine ⟨λi acc S'=>S'=⟨[(0,af ev)],[]⟩/\acc=(overIn ev i).map .str,⟨rfl,rfl⟩,?_,?_,?_⟩
     . intro i acc S' o8;refine e0a1 o8 λo35 o36=>?_;clear o8;obtain rfl:=o35;obtain rfl:=o36;refine ⟨trivial,?_⟩;have:=Im i;simp only [List.length_map,sizeLine];exact B4 E0 this
     . intro i y acc S' hy o9;refine e0a1 o9 λo33 o34=>?_;clear o9;obtain rfl:=o33;obtain rfl:=o34;rw [List.getElem?_map,List.getElem?_zipIdx,List.getElem?_map] at hy;cases hx:ev[i]? with
       | none=>rw [hx] at hy;cases hy
       | some x =>
         rw [hx] at hy;cases hy;have hi:i < ev.length:=(List.getElem?_eq_some_iff.mp hx).1;refine (aG rfl rfl (au 1 rfl (im _ (.inl rfl)) (au 2 rfl (im _ (.inl rfl)) ?_)));show xp c _ _ _ _ _;refine bh (aa 2 rfl rfl (jd (aa 0 rfl rfl (aa 1 rfl rfl (ae _ rfl ?_)))));refine (lQ _ (.inl rfl) (by simp [ql]) (by simp [sizeLine];exact tx E0) (.inl ?_));have e:cutOf none (some ((0+i:Nat):Int)) (ev.map AV.str)=(ev.take i).map AV.str:=by simp [cutOf,List.map_take]
         rw [e];refine qj (.inl rfl) (aT ?_);have eo:overIn ev (i+1)=if isIn (ev.take i) x then overIn ev i++[x] else overIn ev i:=by
          conv=>lhs;rw [fR]
          rw [hx]
         cases hb:(ev.take i).any (·==x) with
         | true =>refine aa 2 rfl rfl (aH [(0,af ev)] ⟨rfl,trivial⟩ rfl ?_);rw [eo,show isIn (ev.take i) x=true from hb];simp
         | false =>refine (aH [(0,af ev)] ⟨rfl,trivial⟩ rfl ?_);rw [eo,show isIn (ev.take i) x=false from hb];simp
     intro acc S' nO;refine e0a1 nO λo31 o32=>?_;clear nO;obtain rfl:=o31;obtain rfl:=o32;have e9:overIn ev ((ev.map AV.str).zipIdx.map λp=>AV.tup [.int p.2,p.1]).length=overOf ev:=by simp [overOf]
     rw [e9];refine .inl (au 15 rfl (bd 15 _ rfl) ?_);have G6:(overOf ev).length < 60:=Nat.lt_of_le_of_lt (Im _) E0;have Ag:=L.idx;have Io:=L.over;have Pc:=L.due;generalize overOf ev=over at G6 Ag Io Pc;refine (show Ex c (qK mi env own frames (n+7) EY) _ ⟨[(0,.lst (sc.map .int)),(1,.lst (cells.map .int)),(2,.int code),(3,af ns),(4,.aZ (br af nd)),(5,.aZ (br af ds)),(6,.bool (bD ds).1),(7,.bool (bD ds).2),(8,af (cj ds ns)),(9,.aZ (br af (shown Bj))),(10,.aZ (br af (shown xg))),(11,af dr),(12,af ev),(13,.int 6),(14,.aZ (br af (shown ev))),(15,af over)],[]⟩ _ _ from ?_);refine ab (qv (sc:=mi.scope) B ["needs","over","name"] [(4,"needs",.aZ (br af nd)),(15,"over",af over)] rfl (fC rfl rfl rfl rfl trivial) (show eJ _ _ ["needs","over"] _=true by decide +kernel) (eA (aa 3 rfl rfl (ae _ (.inl rfl) ⟨(fC rfl rfl rfl rfl trivial),λwn own' im=>?_⟩))));have V3:=L.VQ;have Gk:∀(l:ag),(j6 over nd l).length<=l.length:=λl=>by
      have key:∀(l:ag) (d:Tab),(l.foldl (λd x=>df d x (gU over (ak nd x))) d).length<=d.length+l.length:=by
       intro l;induction l with
       | nil=>intro d;simp
       | cons x r ih =>intro d;have h1:=ih (df d x (gU over (ak nd x)));have h2:=iQ d x (gU over (ak nd x));simp only [List.foldl_cons,List.length_cons];exact vy h2 h1
      have:=key l [];simpa [j6] using this
     refine ⟨λi acc S'=>S'=⟨[(0,.aZ (br af nd)),(1,af over)],[]⟩/\acc=br af (j6 over nd (ns.take i)),⟨rfl,by simp [j6,br]⟩,?_,?_,?_⟩
     . intro i acc S' mo;refine e0a1 mo λQF Po=>?_;clear mo;obtain rfl:=QF;obtain rfl:=Po;refine ⟨.inl rfl,?_⟩;have:=Gk (ns.take i);simp only [br,List.length_map,List.length_take,sizeLine] at this ⊢;exact vt V3 this
     . intro i y acc S' hy rF;refine e0a1 rF λo27 QG=>?_;clear rF;obtain rfl:=o27;obtain rfl:=QG;rw [List.getElem?_map] at hy;refine e1a1 (Option.map_eq_some_iff.mp hy) λx hx K9=>?_;obtain rfl:=K9;refine e1a2 (Ag x (List.mem_of_getElem? hx)) λrow hr Ie hrm=>?_;refine au 2 rfl (im _ (.inl rfl)) ?_;show Ev c _ _ _ _ _;refine aa 2 rfl rfl (ae x rfl ?_);refine bQ (.builtin "sorted") (bT B (by rfl) Gx.jS.1 Gx.jS.2 ⟨rfl,aw (jd (aa 1 rfl rfl ?_))⟩);refine ee (bH (bQ (.builtin "max") (bT B (by rfl) Gx.KQ.1 Gx.KQ.2 ⟨rfl,aw (ee (qf (aw (mK (bH (nK ⟨by simp [sizeLine],?_⟩))))))⟩)));refine ll (sc:=ek ES mi.scope) ["over","need"] [(1,"over",af over)] rfl (aG rfl rfl trivial) (show eJ _ _ ["over"] _=true by decide +kernel) (eA (cV (aa 0 rfl rfl (aa 2 rfl rfl ⟨ir,gz (y:=af row) (.inl rfl) (by rw [eF,hr];rfl) (ae _ (.inl rfl) ⟨(aG rfl rfl trivial),λVH Kq DG=>?_⟩)⟩))));generalize KM:row.map (λy=>((over.idxOf y:Nat):Int))=ids;have Nu:ids.length=row.length:=by rw [<-KM];simp
       refine ⟨λj acc S'=>S'=⟨[(0,af over)],[]⟩/\acc=(ids.take j).map .int,⟨rfl,by simp⟩,?_,?_,?_⟩
       . intro j acc S' tz;refine e0a1 tz λxr yV=>?_;clear tz;obtain rfl:=xr;obtain rfl:=yV;refine ⟨.inl rfl,?_⟩;simp only [List.length_map,List.length_take,sizeLine];exact (mx (aV (Nat.min_le_right _ _) (Nu▸Ie)) rfl)
       . intro j y acc S' hy rQ;refine e0a1 rQ λyX yW=>?_;clear rQ;obtain rfl:=yX;obtain rfl:=yW;rw [List.getElem?_map] at hy;refine e1a1 (Option.map_eq_some_iff.mp hy) λw hw wT=>?_;obtain rfl:=wT;have oO:ids.take (j+1)=ids.take j++[((over.idxOf w:Nat):Int)]:=by rw [List.take_add_one];congr 1;rw [<-KM,List.getElem?_map,hw];rfl
         refine au 1 rfl (DG _ (.inl rfl)) ?_;show Ev c _ _ _ _ _;refine cb "list" "list.index" PySem.F.plainAttrs_list PySem.F.slot_list_index PySem.F.type_list_index (aa 0 rfl rfl ⟨by rfl,aw (aa 1 rfl rfl (G5 (l:=over) (.inl rfl) (hrm w (List.mem_of_getElem? hw)) (by exact (cG G6 (Nat.le_add_left 60 940))) ?_))⟩);refine (aH [(0,af over)] ⟨rfl,trivial⟩ rfl ?_);rw [oO];simp
       intro acc S' rD;refine e0a1 rD λu5 s4=>?_;clear rD;obtain rfl:=u5;obtain rfl:=s4;have Oq:ids.take (row.map AV.str).length=ids:=List.take_of_length_le (by simp [Nu]);rw [Oq];refine .inl (zd (xs:=[.int (-1)]) (.inl rfl) (.inl rfl) (by simp [sizeLine];exact (mx (fX (Nu▸Ie:_<=10) 1) rfl)) (.inl ?_));refine O5 (ns:=-1::ids) rfl (.inl rfl) (by simp) λM hM1 Yt=>xq ?_;have hM:=zI hM1 Yt;have hM0:=Yt (-1) (.head _);refine (kj _ rfl (over.map .str) (.inl rfl) (show (0:Int)<=1+M by exact (Int.add_le_add_left hM0 1)) (by simp [sizeLine];exact tx G6) (.inl ?_));have Uq:cutOf none (some (1+M)) (over.map AV.str)=(over.take (1+M).toNat).map AV.str:=by simp [cutOf,List.map_take]
       rw [Uq];refine sG (.inl rfl) (by simp;exact (hZ (cD (Nat.min_le_right ..) G6) rfl)) (.inl ?_);refine (aH [(0,.aZ (br af nd)),(1,af over)] (aG rfl rfl trivial) rfl ?_);have e12:ns.take (i+1)=ns.take i++[x]:=by rw [List.take_add_one,hx];rfl
       rw [e12];have e13:j6 over nd (ns.take i++[x])=df (j6 over nd (ns.take i)) x (cg (over.take (1+M).toNat)):=by
        unfold j6;rw [List.foldl_append];simp only [List.foldl_cons,List.foldl_nil];have:ak nd x=row:=by unfold ak;rw [hr];rfl
        rw [this];unfold gU;rw [KM,<-hM]
       rw [e13,<-ji]
     intro acc S' rP;refine e0a1 rP λrO u6=>?_;clear rP;obtain rfl:=rO;obtain rfl:=u6;have e14:ns.take (ns.map AV.str).length=ns:=by simp
     rw [e14];refine au 16 rfl (bd 16 _ rfl) ?_;have Si:=L.Yq;refine ab (bP (C9 ?_));refine bh (cQ (aR (aa 13 rfl rfl (aR (bQ (.type "list") (bT B (by rfl) Gx.G.nB.1 Gx.G.nB.2 ⟨rfl,aw (aa 14 rfl rfl (G2 rfl (.inl rfl) (by simp [br,sizeLine,Si.len]) (.inl (aw (aa 14 rfl rfl ⟨by simp [sizeLine],?_⟩)))))⟩))))));have e15:((br af (shown ev)).map (·.1))=over:=by rw [<-Io];simp [br,Function.comp_def]
     rw [e15];refine cQ (aR (bH (aR (aa 15 rfl rfl (aw (aa 16 rfl rfl ⟨by simp [sizeLine],yn (.cons (xf.int _ _) (.cons (xf.strs over over) (.cons (xf.dict _ _) .nil))) Lx (aT ?_)⟩))))));rw [show (!List.all [(6:Int)==6,decide (over=over),eM (shown ev) (j6 over nd ns)] id)=false by rw [Pc];simp];refine bh (gL (n:=n+2) B rfl (by show n+2<=n+7;exact yS) (by rfl) Gx.uR Gx.bD.fnAt (aw (aa 14 rfl rfl ⟨by simp [us],_,Yr (shown ev) L.Yq,?_⟩)));rw [L.shj];refine cQ (aR (ez (aw (ez ⟨by simp [sizeLine],yn (.cons (xf.bool _ _) (.cons (xf.bool _ _) .nil)) Lx (aT ?_)⟩))));refine ax ?_;refine ab (bj (tU (gL (n:=n+1) B rfl (by show n+1<=n+7;exact kh) (by rfl) Gx.q0 Gx.shown.fnAt (aw ?_))));refine gL (n:=n+6) B rfl (by show n+6<=n+7;exact mC) (by rfl) Gx.EU Gx.run.fnAt (aR (aa 14 rfl rfl (aR ?_)));refine gL (n:=n+3) B rfl (by show n+3<=n+7;exact yT) (by rfl) Gx.ET wP.fnAt (aR (aa 14 rfl rfl (aw (aa 11 rfl rfl ⟨by simp [us,aI],_,Ys (shown ev) dr L.dr5 L.shn,?_⟩))));refine aw (ez ⟨Qb _ _ _,_,run (shown ev) _ false KJ L.VY L.VZ,?_⟩);refine ⟨by simp [aI],_,Qa KJ L.V0,?_⟩;refine aa 14 rfl rfl (ym Lx ?_);rw [L.same]
end
theorem iT.dO {nds:List Nd}{P:Str->Int}{T:Str->ag}(h:iT nds P T)(x:Str):dO nds x=P x:=by
 by_cases hx:x∈nds.map (·.1)
 . refine e1a1 (dS hx) λy hy o6=>?_;refine o6▸?_;rw [n6 h.nd hy];exact (h.at_ y hy).1
 . simp only [(h.out x hx).1];delta Mine.Internal.dO;rw [List.find?_eq_none.mpr λy hy e=>hx (dm (ae y hy (by simpa using e)))];rfl
theorem iT.cA {nds:List Nd}{P:Str->Int}{T:Str->ag}(h:iT nds P T)(x:Str):cA nds x=T x:=by
 by_cases hx:x∈nds.map (·.1)
 . refine e1a1 (dS hx) λy hy o5=>?_;refine o5▸?_;rw [jj h.nd hy];exact (h.at_ y hy).2
 . simp only [(h.out x hx).2];delta Mine.Internal.cA;rw [List.find?_eq_none.mpr λy hy e=>hx (dm (ae y hy (by simpa using e)))];rfl
theorem iT.cX {nds:List Nd}{P:Str->Int}{T:Str->ag}(h:iT nds P T){x:Str}(hx:x∈nds.map (·.1))(k:Int):iT (cX nds x k) (λz=>if z=x then k else P z) T:=by
 refine ⟨by simp only [dz];exact h.nd,λy hy=>?_,λz hz=>?_⟩
 . refine e1a1 (dS hy) λp hp o4=>?_;refine o4▸?_;refine e0a1 (h.at_ p hp) λh1 h2=>?_;by_cases e:p.1=x
   . rw [if_pos e];exact ⟨by show k=(if p.1=x then k else P p.1);rw [if_pos e],h2⟩
   . rw [if_neg e];exact ⟨by show p.2.1=(if p.1=x then k else P p.1);rw [if_neg e,h1],h2⟩
 . rw [dz] at hz;refine e0a1 (h.out z hz) λo1 o2=>?_;exact ⟨(if_neg (λ(e:z=x)=>hz (e▸hx))).trans o1,o2⟩
theorem iT.outs {T:Str->ag}:∀(l:ag) {nds:List Nd} {P:Str->Int},iT nds P T->(∀x∈l,x∈nds.map (·.1))->iT (outs nds l) (λz=>if z∈l then -1 else P z) T:=by
 intro l;induction l with
 | nil =>intro nds P h _;exact h.congr (λz=>rfl) λzz=>rfl
 | cons x l ih =>
   intro nds P h hx;obtain h1:=h.cX (hx x (.head _)) (-1);obtain h2:=ih h1 λy hy=>by simp only [dz];exact hx y (.tail _ hy)
   refine (show iT (Mine.Internal.outs (Mine.Internal.cX nds x (-1)) l) _ _ from h2.congr (λz=>?_) λzz=>rfl);by_cases e:z∈l
   . simp [e]
   . by_cases e':z=x
     . simp [e']
     . simp [e,e']
theorem iT.du {nds:List Nd}{P:Str->Int}{T:Str->ag}(h:iT nds P T){x:Str}(hx:x∈nds.map (·.1)):iT (du nds x) (λz=>if z=x then P z - 1 else P z) T:=by
 refine ⟨by simp only [gB];exact h.nd,λy hy=>?_,λz hz=>?_⟩
 . refine e1a1 (dS hy) λp hp o3=>?_;refine o3▸?_;refine e0a1 (h.at_ p hp) λh1 h2=>?_;by_cases e:p.1=x
   . rw [if_pos e];exact ⟨by show p.2.1 - 1=(if p.1=x then P p.1 - 1 else P p.1);rw [if_pos e,h1],h2⟩
   . rw [if_neg e];exact ⟨by show p.2.1=(if p.1=x then P p.1 - 1 else P p.1);rw [if_neg e,h1],h2⟩
 . rw [gB] at hz;refine e0a1 (h.out z hz) λo1 o2=>?_;exact ⟨(if_neg (λ(e:z=x)=>hz (e▸hx))).trans o1,o2⟩
theorem iT.Pd:∀(l:ag) {nds:List Nd} {P:Str->Int} (rd:ag),l.Nodup->iT nds P T->(∀x∈l,x∈nds.map (·.1)) ->
 iT (l.foldl cR (nds,rd)).1 (λz=>if z∈l then P z - 1 else P z) T/\(l.foldl cR (nds,rd)).2=rd++l.filter λs=>decide (P s=1):=by
 intro l;induction l with
 | nil =>intro nds P rd _ h _;exact ⟨h.congr (λz=>rfl) λzz=>rfl,by simp⟩
 | cons x l ih =>
   intro nds P rd hn h hx;refine e0a1 (List.nodup_cons.mp hn) λAv hl=>?_;obtain h1:=h.du (hx x (.head _));obtain h2:=ih (if Mine.Internal.dO (Mine.Internal.du nds x) x==0 then rd++[x] else rd) hl h1 λy hy=>by rw [gB];exact hx y (.tail _ hy)
   show iT (l.foldl cR (Mine.Internal.du nds x,if Mine.Internal.dO (Mine.Internal.du nds x) x==0 then rd++[x] else rd)).1 _ _/\(l.foldl cR (Mine.Internal.du nds x,if Mine.Internal.dO (Mine.Internal.du nds x) x==0 then rd++[x] else rd)).2=_;refine ⟨h2.1.congr (λz=>?_) λzz=>rfl,?_⟩
   . by_cases e:z=x
     . cases e;simp [Av]
     . simp [e]
   . rw [h2.2,h1.dO x,if_pos rfl];obtain e1:(l.filter λs=>decide ((if s=x then P s - 1 else P s)=1))=l.filter λs=>decide (P s=1):=by apply List.filter_congr;intro s hs;rw [if_neg (λ(e:s=x)=>Av (e▸hs))]
     refine (aq e1)▸(aq List.filter_cons)▸?_;by_cases e:P x=1
     . simp [e]
     . obtain this:¬(P x - 1=0):=Bx e;simp [e,this]
structure LS where
 ar:ag
 dn:ag
 ln:ag
 ev:ag
noncomputable def cB (N:Str->ag)(rank:ag)(s:LS):ag:=rank.filter λz=>decide (z∉s.ar/\∀y∈N z,y∈s.dn)
noncomputable def wY (N:Str->ag)(rank:ag)(best:Bool)(s:LS):LS :=
 match fo rank best (s.ln++cB N rank s) with
 | []=>s
 | x::p=>⟨s.ar++cB N rank s,s.dn++[x],p,s.ev++cB N rank s++[x]⟩
noncomputable def bt (N:Str->ag)(rank:ag)(best:Bool):Nat->LS
 | 0=>⟨[],[],[],[]⟩
 | k+1=>wY N rank best (bt N rank best k)
structure bA (N:Str->ag)(rank:ag)(t:Str->Nat):Prop where
 nd:rank.Nodup
 rows:∀x∈rank,(N x).Nodup
 sub:∀x∈rank,∀y∈N x,y∈rank
 up:∀x∈rank,∀y∈N x,t y < t x
structure LI (N:Str->ag)(rank:ag)(s:LS)(k:Nat):Prop where
 Pe:s.ar.Nodup
 A4:∀z∈s.ar,z∈rank
 KS:s.dn.Nodup
 xh:∀z∈s.dn,z∈s.ar
 Yu:s.ln.Nodup
 KU:∀z,z∈s.ln↔z∈s.ar/\z∉s.dn
 need:∀z∈s.ar,∀y∈N z,y∈s.dn
 len:s.dn.length=k
 xg:s.ev.length=s.ar.length+s.dn.length
section
variable {N:Str->ag}{rank:ag}{t:Str->Nat}{best:Bool}{s:LS}{k:Nat}
theorem aL:z∈cB N rank s↔z∈rank/\z∉s.ar/\∀y∈N z,y∈s.dn:=by delta cB;rw [List.mem_filter];simp
theorem mj (hq:∀z∈q,z∈rank)(z:Str):z∈fo rank best q↔z∈q:=by
 delta fo
 split
 . rw [List.mem_filter,iG];exact ⟨λh=>h.2,λh=>⟨hq z h,h⟩⟩
 . exact Iff.rfl
theorem uS (hr:rank.Nodup)(hq:q.Nodup):(fo rank best q).Nodup:=by
 delta fo
 split
 . exact hr.filter _
 . exact hq
theorem LI.line (h:LI N rank s k):z∈s.ln++cB N rank s↔z∈s.ar++cB N rank s/\z∉s.dn:=by
 rw [List.mem_append,List.mem_append,h.KU,aL];constructor
 . rintro (⟨q1,q2⟩ | ⟨q1,q2,q3⟩)
   . exact ⟨.inl q1,q2⟩
   . exact ⟨.inr (aG q1 q2 q3),λm=>q2 (h.xh z m)⟩
 . rintro ⟨q1 | q1,q2⟩
   . exact .inl ⟨q1,q2⟩
   . exact .inr q1
theorem LI.Pf (W:bA N rank t)(h:LI N rank s k):(s.ln++cB N rank s).Nodup:=by rw [List.nodup_append];refine (aG h.Yu (W.nd.filter _) (λa ha b hb e=>?_));subst e;exact (aL.mp hb).2.1 ((h.KU a).mp ha).1
theorem LI.zK (W:bA N rank t)(h:LI N rank s k):∀z∈s.ln++cB N rank s,z∈rank:=λz hz=>by
 (refine aN (bL hz) (λq=>?_) (λq=>?_))
 . exact h.A4 z ((h.KU z).mp q).1
 . exact (aL.mp q).1
theorem LI.front (W:bA N rank t)(h:LI N rank s k)(R:Str->Str->Prop)(hR:∀z∈rank,∀y∈N z,R y z)(hT:∀x∈rank,∀y∈rank,∀z∈rank,R x y->R y z->R x z) :
 ∀(n:Nat) (z:Str),t z<=n->z∈rank->z∉s.dn->∃w,w∈s.ln++cB N rank s/\(w=z\/R w z):=by
 intro n;induction n with
 | zero =>
   intro z ht hz hd;obtain hN:∀y∈N z,y∈s.dn:=λy hy=>absurd (W.up z hz y hy) (Nat.not_lt.mpr (aV ht (Nat.zero_le _)));by_cases ha:z∈s.ar
   . exact (ae z (List.mem_append_left _ ((h.KU z).mpr ⟨ha,hd⟩)) (.inl rfl))
   . exact (ae z (List.mem_append_right _ (aL.mpr (aG hz ha hN))) (.inl rfl))
 | succ n ih =>
   intro z ht hz hd;by_cases hN:∀y∈N z,y∈s.dn
   . by_cases ha:z∈s.ar
     . exact (ae z (List.mem_append_left _ ((h.KU z).mpr ⟨ha,hd⟩)) (.inl rfl))
     . exact (ae z (List.mem_append_right _ (aL.mpr (aG hz ha hN))) (.inl rfl))
   . refine e1a0 (Classical.not_forall.mp hN) λy hy=>?_;refine e0a1 (Classical.not_imp.mp hy) λhy Yv=>?_;have:=W.up z hz y hy;refine e1a1 (ih y (pN this ht) (W.sub z hz y hy) Yv) λw hw q=>?_;refine (ae w hw (.inr ?_));clear this Yv;rcases q with rfl | q
     . exact hR z hz w hy
     . exact hT w (h.zK W w hw) y (W.sub z hz y hy) z hz q (hR z hz y hy)
theorem LI.zero:LI N rank ⟨[],[],[],[]⟩ 0:=⟨by simp,by simp,by simp,by simp,by simp,by simp,by simp,rfl,rfl⟩
theorem LI.step (W:bA N rank t)(h:LI N rank s k)(hk:k < rank.length) :
 ∃x p,fo rank best (s.ln++cB N rank s)=x::p/\wY N rank best s=⟨s.ar++cB N rank s,s.dn++[x],p,s.ev++cB N rank s++[x]⟩/\x∈s.ar++cB N rank s/\x∉s.dn/\x∈rank /\
  LI N rank ⟨s.ar++cB N rank s,s.dn++[x],p,s.ev++cB N rank s++[x]⟩ (k+1):=by
 obtain ⟨z,hz,hzd⟩:∃z∈rank,z∉s.dn:=by refine Classical.byContradiction λsI=>?_;obtain this:rank.length<=s.dn.length:=dc W.nd λx hx=>Classical.byContradiction λq=>sI (ae x hx q);rw [h.len] at this;exact tI hk this
 refine e1a1 (h.front W (λzz zz=>True) (λzz zz zz zz=>trivial) (λzz zz zz zz zz zz zz zz=>trivial) (t z) z (bu _) hz hzd) λw hw zz=>?_;obtain un:=(mj (best:=best) (h.zK W) w).mpr hw;cases hl:fo rank best (s.ln++cB N rank s) with
 | nil=>replace un:=hl▸un;cases un
 | cons x p =>
   have hm:∀y,y∈x::p↔y∈s.ar++cB N rank s/\y∉s.dn:=λy=>by rw [<-hl,mj (h.zK W),h.line]
   obtain Ch:(x::p).Nodup:=by simp only [<-hl];exact uS W.nd (h.Pf W)
   refine e0a1 (List.nodup_cons.mp Ch) λhxp hp=>?_;refine e0a1 ((hm x).mp (.head _)) λzL AC=>?_;obtain Qc:x∈rank:=by
    (refine aN (bL zL) (λq=>?_) (λq=>?_))
    . exact h.A4 x q
    . exact (aL.mp q).1
   refine ⟨x,p,rfl,(by delta wY;rw [hl]),zL,AC,Qc,?_⟩;refine ⟨?_,λz hz=>?_,?_,λz hz=>?_,hp,λz=>?_,λz hz y hy=>?_,by simp [h.len],by simp [h.xg];exact congrArg Nat.succ (Nat.add_right_comm _ _ _)⟩
   . rw [List.nodup_append];refine (aG h.Pe (W.nd.filter _) (λa ha b hb e=>?_));subst e;exact (aL.mp hb).2.1 ha
   . (refine aN (bL hz) (λq=>?_) (λq=>?_))
     . exact h.A4 z q
     . exact (aL.mp q).1
   . rw [List.nodup_append];refine (aG h.KS (by simp) (λa ha b hb e=>?_));rw [bp hb] at e;exact AC (e▸ha)
   . (refine aN (bL hz) (λq=>?_) (λq=>?_))
     . exact List.mem_append_left _ (h.xh z q)
     . simp only [bp q];exact zL
   . constructor
     . intro hz;refine e0a1 ((hm z).mp (.tail _ hz)) λq1 q2=>?_;refine ⟨q1,λm=>?_⟩
       (refine aN (bL m) (λw=>?_) (λw=>?_))
       . exact q2 w
       . rw [bp w] at hz;exact hxp hz
     . intro o1;refine e0a1 o1 λq1 q2=>?_;have:=(hm z).mpr ⟨q1,λm=>q2 (List.mem_append_left _ m)⟩;rcases cu this with e | e
       . exact absurd (List.mem_append_right _ (List.mem_singleton.mpr e)) q2
       . exact e
   . (refine aN (bL hz) (λq=>?_) (λq=>?_))
     . exact List.mem_append_left _ (h.need z q y hy)
     . exact List.mem_append_left _ ((aL.mp q).2.2 y hy)
theorem LI.run (W:bA N rank t):∀k,k<=rank.length->LI N rank (bt N rank best k) k:=by
 intro k;induction k with
 | zero =>intro _;exact LI.zero
 | succ k ih =>intro hk;refine e2a5 (LI.step (best:=best) W (ih (arith1 hk)) (jr hk)) λx p zz e zz zz zz h=>?_;show LI N rank (wY N rank best (bt N rank best k)) (k+1);rw [e];exact h
end
noncomputable def sf (N:Str->ag)(rank:ag)(s:LS)(z:Str):Int :=
 if z∈s.dn then -2 else if z∈s.ar then -1 else if z∈rank then (((N z).filter λy=>decide (y∉s.dn)).length:Int) else 0
structure RI (N:Str->ag)(rank:ag)(st:RS)(s:LS):Prop where
 nds:iT st.nds (sf N rank s) (λz=>rank.filter λx=>decide (z∈N x))
 names:∀z,z∈st.nds.map (·.1)↔z∈rank
 Yw:st.ready.Nodup
 rd:∀z,z∈st.ready↔z∈cB N rank s
 ps:st.a8=s.ar.length
 fn:st.fin=s.dn.length
 pu:st.push=s.ln
 ev:st.ev=s.ev
theorem E1 {l:ag}(h:x∈l):l.any (·==x)=true:=iG.mpr h
theorem yx (hx:x∉d){l:ag}(hn:l.Nodup)(hm:x∈l):(l.filter λy=>decide (y∉d)).length=(l.filter λy=>decide (y∉d++[x])).length+1:=by
 rw [<-List.countP_eq_length_filter];refine List.countP_eq_length_filter▸?_;induction l with
 | nil=>exact nomatch hm
 | cons a l ih =>
   refine e0a1 (List.nodup_cons.mp hn) λha hl=>?_;rw [List.countP_cons,List.countP_cons];by_cases e:a=x
   . clear ih;clear hm;subst e;refine (aq (decide_eq_true hx))▸(aq (decide_eq_false λq:a∉d++[a]=>q (List.mem_append_right _ (.head _))))▸?_;refine congrArg Nat.succ (List.countP_congr λy hy=>?_);rw [decide_eq_true_iff,decide_eq_true_iff,List.mem_append,List.mem_singleton,or_iff_left λq:y=a=>ha (q▸hy)]
   . rw [ih hl ((cu hm).resolve_left (Ne.symm e)),decide_eq_decide.mpr (show a∉d↔a∉d++[x] by rw [List.mem_append,List.mem_singleton,or_iff_left e])];exact Nat.add_right_comm ..
theorem yy {d l:ag}(hx:x∉l):(l.filter λy=>decide (y∉d++[x]))=l.filter λy=>decide (y∉d):=by apply List.filter_congr;intro y hy;obtain this:y≠x:=λq=>hx (q▸hy);simp [this]
theorem rh {l r:ag}(hl:l.Nodup)(hr:r.Nodup)(h:∀z,z∈l↔z∈r):l.length=r.length :=
 Nat.le_antisymm (dc hl λx hx=>(h x).mp hx) (dc hr λx hx=>(h x).mpr hx)
section
variable {nd:Tab}{rank:ag}{t:Str->Nat}{best:Bool}{s:LS}{k:Nat}{st:RS}{N:Str->ag}
theorem RI.zero (W:bA (ak nd) rank t):RI (ak nd) rank ⟨cC nd rank,cW (cC nd rank),0,0,[],[]⟩ ⟨[],[],[],[]⟩:=by
 refine e0a1 (pg nd rank W.nd W.rows W.sub) λh1 h2=>?_;obtain hP:∀z,sf (ak nd) rank ⟨[],[],[],[]⟩ z=if z∈rank then ((ak nd z).length:Int) else 0:=λz=>by obtain this:((ak nd z).filter λy=>decide (y∉([]:ag)))=ak nd z:=List.filter_eq_self.mpr (by simp);show (if z∈[] then (-2:Int) else if z∈[] then -1 else if z∈rank then ((((ak nd z).filter λy=>decide (y∉([]:ag))).length:Nat):Int) else 0)=_;rw [this,if_neg (by simp),if_neg (by simp)]
 refine ⟨h1.congr hP λzz=>rfl,h2,?_,λz=>?_,rfl,rfl,rfl,rfl⟩
 . exact (List.Sublist.map _ List.filter_sublist).nodup h1.nd
 . rw [aL];delta cW;rw [List.mem_map];constructor
   . intro o1;refine e1a1 o1 λy hy o4=>?_;clear o1;obtain rfl:=o4;refine e0a1 (List.mem_filter.mp hy) λq1 q2=>?_;have hm:y.1∈rank:=(h2 y.1).mp (dm (ae y q1 rfl));obtain q3:=(h1.at_ y q1).1;rw [if_pos hm] at q3;obtain q4:y.2.1=0:=by simpa using q2
     have q5:ak nd y.1=[]:=List.eq_nil_of_length_eq_zero (Int.ofNat.inj (q3.symm.trans q4));exact (aG hm (by simp) (by simp [q5]))
   . intro o2;refine e0a2 o2 λq1 zz q3=>?_;clear o2;refine e1a1 (dS ((h2 z).mpr q1)) λy hy o3=>?_;obtain rfl:=o3;refine (ae y (List.mem_filter.mpr ⟨hy,?_⟩) rfl);obtain q4:=(h1.at_ y hy).1;rw [if_pos q1] at q4;have q5:ak nd y.1=[]:=by
      cases e:ak nd y.1 with
      | nil=>rfl
      | cons a r=>exact absurd (q3 a (by rw [e];exact .head _)) (by simp)
     refine (aq q4)▸(aq q5)▸?_;rfl
theorem RI.step (W:bA N rank t)(L:LI N rank s k)(hk:k < rank.length)(h:RI N rank st s):∃gM,sX rank best st=some gM/\RI N rank gM (wY N rank best s):=by
 refine e2a5 (L.step (best:=best) W hk) λx p e1 e2 zL AC Qc L'=>?_;have hf:ff rank st.ready=cB N rank s:=by
  conv=>rhs;unfold cB
  apply List.filter_congr;intro z hz;rw [Bool.eq_iff_iff,iG,h.rd,aL];simp [hz]
 have n1:=h.nds.outs st.ready λz hz=>(h.names z).mpr (aL.mp ((h.rd z).mp hz)).1;have V4:∀z,z∈(outs st.nds st.ready).map (·.1)↔z∈rank:=λz=>by rw [gp];exact h.names z
 have La:dO (outs st.nds st.ready) x=-1:=by
  rw [n1.dO];by_cases q:x∈st.ready
  . simp [q]
  . have:x∈s.ar:=(bL zL).resolve_right λw=>q ((h.rd x).mpr w);simp [q,sf,AC,this]
 have vC:(st.nds.map (·.1)).any (·==x)=true:=E1 ((h.names x).mpr Qc);have n2:=n1.cX ((V4 x).mpr Qc) (-2);generalize Qd:(rank.filter λz=>decide (x∈N z))=Sx at *;have mS:∀z,z∈Sx↔z∈rank/\x∈N z:=λz=>by rw [<-Qd,List.mem_filter];simp
 have n3:=iT.Pd (T:=λz=>rank.filter λx=>decide (z∈N x)) Sx [] (by rw [<-Qd];exact W.nd.filter _) n2 λz hz=>by rw [dz];exact (V4 z).mpr ((mS z).mp hz).1
 have Qe:et (outs st.nds st.ready) [] x=Sx.foldl cR (cX (outs st.nds st.ready) x (-2),[]):=by unfold et;rw [n1.cA x,Qd]
 have V5:∀z∈Sx,z∉s.ar/\z∉st.ready/\z≠x/\z∉s.dn:=λz hz=>by refine e0a1 ((mS z).mp hz) λq1 q2=>?_;have a1:z∉s.ar:=λm=>AC (L.need z m x q2);refine (gb a1 (λm=>AC ((aL.mp ((h.rd z).mp m)).2.2 x q2)) (λe=>?_) (λm=>a1 (L.xh z m)));have:=W.up z q1 x q2;rw [e] at this;exact bS this rfl
 have P2:∀z∈Sx,(if z=x then (-2:Int) else if z∈st.ready then -1 else sf N rank s z)=(((N z).filter λy=>decide (y∉s.dn++[x])).length:Int)+1:=λz hz=>by
  refine e0a3 (V5 z hz) λa1 a2 a3 a4=>?_;refine e0a1 ((mS z).mp hz) λq1 q2=>?_;rw [if_neg a3,if_neg a2];unfold sf;rw [if_neg a4,if_neg a1,if_pos q1,yx AC (W.rows z q1) q2]
  push_cast;rfl
 refine (ae ⟨(et (outs st.nds st.ready) [] x).1,(et (outs st.nds st.ready) [] x).2,st.a8+st.ready.length,st.fin+1,p,st.ev++ff rank st.ready++[x]⟩ ?_ ?_)
 . unfold sX;rw [hf,h.pu,e1];show (if dO (outs st.nds st.ready) x==-1&&(st.nds.map (·.1)).any (·==x) then _ else _)=_;rw [La,vC];simp
 . rw [e2];have hlen:st.ready.length=(cB N rank s).length:=rh h.Yw (W.nd.filter _) h.rd;refine ⟨?_,λz=>?_,?_,λz=>?_,?_,?_,rfl,?_⟩
   . show iT (et (outs st.nds st.ready) [] x).1 _ _;rw [Qe];refine n3.1.congr (λz=>?_) λzz=>rfl;by_cases hz:z∈Sx
     . rw [if_pos hz,P2 z hz];refine e0a3 (V5 z hz) λa1 a2 a3 a4=>?_;refine e0a1 ((mS z).mp hz) λq1 q2=>?_;unfold sf;have b1:z∉s.dn++[x]:=by simp [a4,a3]
       have b2:z∉s.ar++cB N rank s:=by
        rw [List.mem_append];rintro (w | w)
        . exact a1 w
        . exact a2 ((h.rd z).mpr w)
       rw [if_neg b1,if_neg b2,if_pos q1];exact (Int.add_sub_cancel _ _).symm
     . rw [if_neg hz];by_cases Qf:z=x
       . refine rE Qf ?_;rw [if_pos rfl];unfold sf;simp
       . rw [if_neg Qf];by_cases hr:z∈st.ready
         . rw [if_pos hr];have w:=aL.mp ((h.rd z).mp hr);have b1:z∉s.dn++[x]:=by simp [Qf];exact λm=>w.2.1 (L.xh z m)
           have b2:z∈s.ar++cB N rank s:=List.mem_append_right _ ((h.rd z).mp hr);unfold sf;rw [if_neg b1,if_pos b2]
         . rw [if_neg hr];have IF:z∉cB N rank s:=λm=>hr ((h.rd z).mpr m);unfold sf;by_cases q1:z∈s.dn
           . rw [if_pos q1,if_pos (List.mem_append_left _ q1)]
           . rw [if_neg q1,if_neg (by simp [q1,Qf])];by_cases q2:z∈s.ar
             . rw [if_pos q2,if_pos (List.mem_append_left _ q2)]
             . rw [if_neg q2,if_neg (by simp [q2,IF])];by_cases q3:z∈rank
               . skip
                 have:x∉N z:=λm=>hz ((mS z).mpr ⟨q3,m⟩);simp only [yy this]
               . rw [if_neg q3,if_neg q3]
   . skip
     simp only [Qe,qR,dz];exact V4 z
   . show (et (outs st.nds st.ready) [] x).2.Nodup;rw [Qe,n3.2,List.nil_append,<-Qd];exact (W.nd.filter _).filter _
   . skip
     simp only [Qe,n3.2,List.nil_append,List.mem_filter,aL];constructor
     . intro o1;refine e0a1 o1 λhz hp=>?_;refine e0a3 (V5 z hz) λa1 a2 a3 a4=>?_;refine e0a1 ((mS z).mp hz) λq1 q2=>?_;have Dq:(if z=x then (-2:Int) else if z∈st.ready then -1 else sf N rank s z)=1:=by simpa using hp
       rw [P2 z hz] at Dq;have h0:((N z).filter λy=>decide (y∉s.dn++[x]))=[]:=List.eq_nil_of_length_eq_zero (BD Dq);refine (aG q1 ?_ (λy hy=>Classical.byContradiction λq=>?_))
       . skip
         rw [List.mem_append];rintro (w | w)
         . exact a1 w
         . exact a2 ((h.rd z).mpr w)
       . have:y∈(N z).filter λy=>decide (y∉s.dn++[x]):=List.mem_filter.mpr ⟨hy,by lia⟩;replace this:=h0▸this;cases this
     . intro o2;refine e0a2 o2 λq1 q2 q3=>?_;have Yx:z∉s.ar++cB N rank s:=q2;have hxz:x∈N z:=Classical.byContradiction λq=>Yx (List.mem_append_right _ (aL.mpr ⟨q1,λm=>Yx (List.mem_append_left _ m),λy hy=>by
        rcases bL (q3 y hy) with w | w
        . exact w
        . rw [bp w] at hy;exact absurd hy q⟩))
       have hz:z∈Sx:=(mS z).mpr ⟨q1,hxz⟩;refine ⟨hz,?_⟩;refine rE (P2 z hz) ?_;have h0:((N z).filter λy=>decide (y∉s.dn++[x]))=[]:=List.filter_eq_nil_iff.mpr λy hy=>by simpa using (λq=>q (q3 y hy):¬(y∉s.dn++[x]))
       refine rE h0 ?_;rfl
   . show st.a8+st.ready.length=_;refine (aq h.ps)▸(aq hlen)▸(aq List.length_append)▸?_;push_cast;rfl
   . show st.fin+1=_;refine rE h.fn ?_;rw [List.length_append];push_cast;rfl
   . show st.ev++ff rank st.ready++[x]=_;exact (aq hf)▸(aq h.ev)▸rfl
theorem RI.ok (W:bA N rank t)(hm:rank.length<=9)(L:LI N rank s k)(hk:k<=rank.length)(h:RI N rank st s):Fy st=true:=by
 obtain h1:s.ar.length<=rank.length:=dc L.Pe L.A4;obtain h2:s.ln.length<=rank.length:=dc L.Yu λz hz=>L.A4 z ((L.KU z).mp hz).1;obtain h3:st.ready.length<=rank.length:=dc h.Yw λz hz=>(aL.mp ((h.rd z).mp hz)).1;obtain h4:=L.xg;obtain h5:=L.len;delta Fy;simp only [cZ,decide_eq_true_eq,List.all_eq_true];refine ⟨⟨⟨⟨λz hz=>?_,tJ hm h3⟩,by rw [h.pu];exact tJ hm h2⟩,by rw [h.ev];exact (h4▸h5▸pj (Nat.add_le_add (aV h1 hm) (aV hk hm)) rfl)⟩,λy hy=>⟨?_,λz hz=>?_⟩⟩
 . exact E1 ((h.names z).mpr (aL.mp ((h.rd z).mp hz)).1)
 . rw [(h.nds.at_ y hy).2];obtain this:=List.length_filter_le (λx=>decide (y.1∈N x)) rank;exact tJ hm this
 . rw [(h.nds.at_ y hy).2] at hz;exact E1 ((h.names z).mpr (List.mem_filter.mp hz).1)
theorem rj (W:bA N rank t)(hm:rank.length<=9):∀(j k f:Nat) (st:RS),k+j=rank.length->j < f->RI N rank st (bt N rank best k)->simLoop rank best f st=some (bt N rank best rank.length).ev
 | 0,k,f+1,st,hk,_,h=>by
   have lS:k=rank.length:=hk;subst lS;have L:=LI.run (best:=best) W rank.length (bu _);obtain h1:(bt N rank best rank.length).ar.length<=rank.length:=dc L.Pe L.A4;obtain h2:=L.len;obtain hr:st.ready=[]:=List.eq_nil_iff_forall_not_mem.mpr λz hz=>by
    refine e0a2 (aL.mp ((h.rd z).mp hz)) λq1 q2 zz=>?_;obtain q3:(z::(bt N rank best rank.length).dn).length<=rank.length:=dc (List.nodup_cons.mpr ⟨λm=>q2 (L.xh z m),L.KS⟩) λy hy=>by
     clear q2 hz;rcases cu hy with rfl | hy
     . exact q1
     . exact L.A4 y (L.xh y hy)
    skip;exact (bS q3 h2)
   dsimp only [simLoop];refine (aq hr)▸(aq h.ps)▸(aq h.fn)▸(aq h.ev)▸?_;obtain this:¬(((bt N rank best rank.length).dn.length:Int) < (bt N rank best rank.length).ar.length):=Cf h2 h1;simp [this]
 | j+1,k,f+1,st,hk,hf,h=>by
   have L:=LI.run (best:=best) W k (vo hk);refine e1a1 (h.step (best:=best) W L (vn hk)) λgM e h'=>?_;obtain eI:=h.ok W hm L (vo hk);obtain hc:(decide (st.fin < st.a8)||!st.ready.isEmpty)=true:=by
    refine e2a4 (L.step (best:=best) W (vn hk)) λx p zz zz zL AC zz=>?_;rcases bL zL with q | q
    . have:(x::(bt N rank best k).dn).length<=(bt N rank best k).ar.length:=dc (List.nodup_cons.mpr ⟨AC,L.KS⟩) λy hy=>by
       clear AC zL;rcases cu hy with rfl | hy
       . exact q
       . exact L.xh y hy
      have:st.fin < st.a8:=by simp only [h.ps,h.fn];simp at this;exact (Int.ofNat_lt.mpr this)
      simp [this]
    . obtain this:=(h.rd x).mpr q;cases hr:st.ready with
      | nil=>replace this:=hr▸this;cases this
      | cons a r=>simp
   dsimp only [simLoop];refine (aq hc)▸(aq eI)▸(aq e)▸?_;exact rj W hm j (k+1) f gM (B8 hk) (BS hf) h'
theorem uT (W:bA (ak nd) rank t)(hm:rank.length<=9):sim nd rank best=some (bt (ak nd) rank best rank.length).ev :=
 rj W hm rank.length 0 20 _ (Nat.zero_add _) (cD hm (Nat.le_add_left (Nat.succ 9) 10)) (RI.zero W)
theorem uQ.of (W:bA (ak nd) rank t)(hm:rank.length<=9)(hs:∀x∈rank,(bB nd x).isSome=true):uQ nd rank:=by
 refine ⟨Nat.le.step hm,λx hx=>?_,t,λy hy s db=>?_⟩
 . refine e1a0 (Option.isSome_iff_exists.mp (hs x hx)) λrow e=>?_;refine (ae row e ?_);obtain e':ak nd x=row:=by delta ak;rw [e];rfl
   refine e'▸?_;exact aV (dc (W.rows x hx) (W.sub x hx)) (Nat.le.step hm)
 . refine e0a1 (pg nd rank W.nd W.rows W.sub) λh1 h2=>?_;rw [(h1.at_ y hy).2] at db;refine e0a1 (List.mem_filter.mp db) λq1 q2=>?_;exact ⟨(h2 s).mpr q1,W.up s q1 y.1 (by simpa using q2)⟩
end
theorem s8 {κ α:Type} [DecidableEq κ] {T:List (κ×α)}{z:κ}(h:z∉T.map (·.1)):bB T z=none:=by delta bB;rw [List.find?_eq_none.mpr λp hp e=>h (dm (ae p hp (by simpa using e)))];rfl
theorem kN {κ α:Type} [DecidableEq κ] {T:List (κ×α)}{z:κ}(h:z∉T.map (·.1))(v:α):df T z v=T++[(z,v)]:=by delta df;rw [if_neg];intro q;refine e1a1 (List.any_eq_true.mp q) λp hp e=>?_;exact h (dm (ae p hp (by simpa using e)))
theorem fT {κ α:Type} [DecidableEq κ] {T:List (κ×α)}{z:κ}(h:z∈T.map (·.1)):(bB T z).isSome=true:=by
 refine e1a1 (dS h) λp hp e=>?_;delta bB;cases q:T.find? λkv=>kv.1=z with
 | none=>exact absurd e (by simpa using List.find?_eq_none.mp q p hp)
 | some p=>rfl
theorem A5 (d:ag):∀(l:ag) (T:Tab),l.Nodup->(∀z∈l,z∉T.map (·.1))->l.foldl cz (T,d)=(T++l.map λz=>(z,cg d),d):=by
 intro l;induction l with
 | nil =>intro T _ _;simp
 | cons z l ih =>
   intro T hn h;refine e0a1 (List.nodup_cons.mp hn) λhz hl=>?_;obtain h1:=h z (.head _);obtain e:cz (T,d) z=(T++[(z,cg d)],d):=by delta cz;simp only [s8 h1,kN h1];rfl
   rw [List.foldl_cons,e,ih _ hl λy hy m=>?_]
   . simp
   . rw [List.map_append] at m
     (refine aN (bL m) (λq=>?_) (λq=>?_))
     . exact h y (.tail _ hy) q
     . obtain this:y=z:=by simpa using q
       exact hz (this▸hy)
section
variable {N:Str->ag}{rank:ag}{t:Str->Nat}{best:Bool}{k:Nat}
noncomputable abbrev jT (N:Str->ag)(rank:ag)(best:Bool)(k:Nat):ag:=cB N rank (bt N rank best k)
theorem eV (W:bA N rank t)(hk:k < rank.length):∃x p,fo rank best ((bt N rank best k).ln++jT N rank best k)=x::p /\
 bt N rank best (k+1)=⟨(bt N rank best k).ar++jT N rank best k,(bt N rank best k).dn++[x],p,(bt N rank best k).ev++jT N rank best k++[x]⟩/\x∈(bt N rank best k).ar++jT N rank best k/\x∉(bt N rank best k).dn/\x∈rank:=by
 refine e2a5 ((LI.run (best:=best) W k (bX hk)).step (best:=best) W hk) λx p e1 e2 h1 h2 h3 zz=>?_;exact ⟨x,p,e1,e2,h1,h2,h3⟩
theorem rm (W:bA N rank t)(i:Nat):∀d,i+d<=rank.length->(bt N rank best i).ar <+: (bt N rank best (i+d)).ar/\(bt N rank best i).dn <+: (bt N rank best (i+d)).dn:=by
 intro d;induction d with
 | zero =>intro _;exact ⟨List.prefix_refl _,List.prefix_refl _⟩
 | succ d ih =>intro h;refine e2a2 (eV (best:=best) W (k:=i+d) h) λx p zz e zz=>?_;refine e0a1 (ih (bF h)) λh1 h2=>?_;rw [<-Nat.add_assoc,e];exact ⟨h1.trans (List.prefix_append _ _),h2.trans (List.prefix_append _ _)⟩
theorem nE (W:bA N rank t)(hi:i<=k)(hk:k<=rank.length)(h:z∈(bt N rank best i).ar):z∈(bt N rank best k).ar:=by obtain this:=(rm (best:=best) W i (k - i) (vu hi hk)).1;rw [show i+(k - i)=k by exact pL hi] at this;exact this.subset h
theorem pS (W:bA N rank t)(hi:i<=k)(hk:k<=rank.length)(h:z∈(bt N rank best i).dn):z∈(bt N rank best k).dn:=by obtain this:=(rm (best:=best) W i (k - i) (vu hi hk)).2;rw [show i+(k - i)=k by exact pL hi] at this;exact this.subset h
theorem uU (W:bA N rank t)(hj:j<=rank.length):(bt N rank best j).dn=(bt N rank best rank.length).dn.take j:=by obtain this:=(rm (best:=best) W j (rank.length - j) (vl hj)).2;rw [show j+(rank.length - j)=rank.length by exact pL hj] at this;refine e1a0 this λr e=>?_;obtain hl:=(LI.run (best:=best) W j hj).len;exact e▸(aq (List.take_append_of_le_length (Nat.le_of_eq (id (aq hl)))))▸(aq (List.take_of_length_le (Nat.le_of_eq hl)))▸rfl
theorem E2 (W:bA N rank t):∀{k:Nat},k<=rank.length->∀{z:Str},z∈(bt N rank best k).ar->∃j,j < k/\z∈jT N rank best j:=by
 intro k;induction k with
 | zero =>intro _ z h;cases h
 | succ k ih =>
   intro hk z h;refine e2a2 (eV (best:=best) W (k:=k) (jr hk)) λx p zz e zz=>?_;rw [e] at h;rcases bL h with q | q
   . refine e1a1 (ih (arith1 hk) q) λj h1 h2=>?_;exact (ae j (jz h1) h2)
   . exact (ae k iw q)
theorem KV (W:bA N rank t)(hj:j < rank.length)(h:z∈jT N rank best j):z∈(bt N rank best (j+1)).ar:=by refine e2a2 (eV (best:=best) W hj) λx p zz e zz=>?_;rw [e];exact List.mem_append_right _ h
theorem pT (W:bA N rank t)(hz:z∈rank):z∈(bt N rank best rank.length).dn:=by
 obtain L:=LI.run (best:=best) W rank.length (bu _);refine Classical.byContradiction λq=>?_;obtain this:=dc (List.nodup_cons.mpr ⟨q,L.KS⟩) (r:=rank) λy hy=>by
  clear q;rcases cu hy with rfl | hy
  . exact hz
  . exact L.A4 y (L.xh y hy)
 obtain h2:=L.len
 skip;exact bS this h2
theorem fU (W:bA N rank t)(hz:z∈rank):∃j,j < rank.length/\z∈jT N rank best j:=E2 W (bu _) ((LI.run (best:=best) W rank.length (bu _)).xh z (pT W hz))
theorem oj (W:bA N rank t)(Yy:i < j)(hj:j < rank.length)(h:z∈jT N rank best j):∃a∈N z,a∉(bt N rank best i).dn:=by
 refine e0a2 (aL.mp h) λq1 q2 q3=>?_;refine Classical.byContradiction λsI=>q2 (nE W Yy (bX hj) ?_);refine e2a2 (eV (best:=best) W (k:=i) (jt Yy hj)) λx p zz e zz=>?_;rw [e];by_cases ha:z∈(bt N rank best i).ar
 . exact List.mem_append_left _ ha
 . exact List.mem_append_right _ (aL.mpr (aG q1 ha (λy hy=>Classical.byContradiction λq=>sI (ae y hy q))))
theorem KW (W:bA N rank t):∀{k:Nat},k<=rank.length->∀{y:Str},y∈(bt N rank best k).dn->∃i p,i < k/\fo rank best ((bt N rank best i).ln++jT N rank best i)=y::p:=by
 intro k;induction k with
 | zero =>intro _ z h;cases h
 | succ k ih =>
   intro hk y h;refine e2a2 (eV (best:=best) W (k:=k) (jr hk)) λx p e1 e zz=>?_;rw [e] at h;rcases bL h with q | q
   . refine e2a1 (ih (arith1 hk) q) λi p h1 h2=>?_;exact (eO i p (jz h1) h2)
   . refine rE (bp q) ?_;exact (eO k p iw e1)
noncomputable def sj (N:Str->ag)(rank:ag)(best:Bool):Nat->Tab
 | 0=>[]
 | k+1=>sj N rank best k++(jT N rank best k).map λz=>(z,cg (bt N rank best k).dn)
theorem oo (W:bA N rank t):∀k,k<=rank.length->(sj N rank best k).map (·.1)=(bt N rank best k).ar:=by
 intro k;induction k with
 | zero =>intro _;exact rfl
 | succ k ih =>intro hk;refine e2a2 (eV (best:=best) W (k:=k) (jr hk)) λx p zz e zz=>?_;simp only [e];show (sj N rank best k++_).map (·.1)=(bt N rank best k).ar++_;simp only [List.map_append,ih (arith1 hk),List.map_map];congr 1;simp [Function.comp_def]
theorem rn (W:bA N rank t):∀k,k<=rank.length->(bt N rank best k).ev.foldl cz ([],[])=(sj N rank best k,(bt N rank best k).dn):=by
 intro k;induction k with
 | zero =>intro _;exact rfl
 | succ k ih =>
   intro hk;refine e2a3 (eV (best:=best) W (k:=k) (jr hk)) λx p zz e hx zz=>?_;obtain hky:=oo (best:=best) W k (arith1 hk);obtain e2:=oo (best:=best) W (k+1) hk;rw [e] at e2;refine rE e ?_;show (((bt N rank best k).ev++jT N rank best k)++[x]).foldl cz ([],[])=_;rw [List.foldl_append,List.foldl_append,ih (arith1 hk),A5 _ (jT N rank best k) _ (W.nd.filter _) λz hz=>by rw [hky];exact (aL.mp hz).2.1];show cz (sj N rank best (k+1),(bt N rank best k).dn) x=(sj N rank best (k+1),(bt N rank best k).dn++[x])
   delta cz;obtain this:(bB (sj N rank best (k+1)) x).isSome=true:=fT (by refine rE e2 ?_;exact hx);simp only [this,if_true]
theorem wZ (h:z∈jT N rank best j)(hk:j < k):(z,cg (bt N rank best j).dn)∈sj N rank best k:=by
 induction k with
 | zero=>exact absurd hk (Nat.not_lt_zero _)
 | succ k ih =>
   rcases Nat.lt_succ_iff_lt_or_eq.mp hk with e | e
   . exact List.mem_append_left _ (ih e)
   . clear hk ih;subst e;exact List.mem_append_right _ (dm (ae z h rfl))
theorem uV:p∈sj N rank best k->∃j,j < k/\p.1∈jT N rank best j/\p.2=cg (bt N rank best j).dn:=by
 induction k with
 | zero=>intro h;cases h
 | succ k ih =>
   intro h;rcases bL h with q | q
   . refine e1a1 (ih q) λj h1 h2=>?_;exact (ae j (jz h1) h2)
   . clear h ih;refine e1a1 (dS q) λz hz o2=>?_;refine o2▸?_;exact (aH k iw hz rfl)
noncomputable abbrev kO (N:Str->ag)(rank:ag)(best:Bool):Tab:=sj N rank best rank.length
noncomputable abbrev zM (N:Str->ag)(rank:ag)(best:Bool):ag:=(bt N rank best rank.length).ev
theorem dI (W:bA N rank t):shown (zM N rank best)=kO N rank best:=by delta shown;rw [rn W _ (bu _)]
theorem yz (W:bA N rank t):(bt N rank best rank.length).ar.length=rank.length:=by
 have L:=LI.run (best:=best) W rank.length (bu _);exact rh L.Pe W.nd λz=>⟨L.A4 z,λh=>L.xh z (pT W h)⟩
theorem rp (W:bA N rank t):(kO N rank best).map (·.1)=(bt N rank best rank.length).ar:=oo W _ (bu _)
theorem pU (W:bA N rank t):(kO N rank best).length=rank.length:=by rw [<-fz (f:=(·.1)),rp W,yz W]
theorem oq (W:bA N rank t):((kO N rank best).map (·.1)).Nodup:=by rw [rp W];exact (LI.run W _ (bu _)).Pe
theorem zN (W:bA N rank t)(hj:j < rank.length)(h:z∈jT N rank best j):bB (kO N rank best) z=some (cg (bt N rank best j).dn) :=
 jl (p:=(z,_)) (oq W) (wZ h hj)
theorem gu:x∈cg l↔x∈l:=(cM l).mem_iff
theorem rq {d e:Tab}:eM d e=true↔d.length=e.length/\∀p∈d,bB e p.1=some p.2:=by delta eM;simp [List.all_eq_true]
theorem yA (W:bA N rank t){d:Tab}{D:Str->ag}(hl:d.length=rank.length)(hd:∀z∈rank,bB d z=some (D z))(hs:∀z∈rank,cg (D z)=D z)(hn:∀z∈rank,(D z).Nodup) :
 eM (kO N rank best) d=true↔∀j,j < rank.length->∀z∈jT N rank best j,∀y,y∈(bt N rank best j).dn↔y∈D z:=by
 rw [rq,pU W];constructor
 . intro o1;refine e0a1 o1 λzz h=>?_;intro j hj z hz y;obtain rJ:=(aL.mp hz).1;obtain this:=h _ (wZ hz hj);rw [hd z rJ] at this;rw [bo this,gu]
 . intro h;refine ⟨hl.symm,λp hp=>?_⟩;refine e1a2 (uV hp) λj hj hz e=>?_;obtain rJ:=(aL.mp hz).1;refine (aq (hd _ rJ))▸(aq e)▸(hs _ rJ)▸?_;congr 1;refine oR ?_;obtain L:=LI.run (best:=best) W j (bX hj);exact (List.perm_ext_iff_of_nodup (hn _ rJ) L.KS).mpr λy=>(h j hj p.1 hz y).symm
end
def dP (D:Str->ag)(l:ag):Prop:=∃x,x∈l/\∃y,y∈l/\(∃a,a∈D x/\a∉D y)/\∃b,b∈D y/\b∉D x
def gV (D:Str->ag)(l:ag):Prop:=∃x,x∈l/\∃y,y∈l/\(∃a,a∈D x/\a∉D y)/\∃b,b∈l/\x∈D b/\y∉D b
noncomputable def fq (D:Str->ag)(l:ag)(x:Str):Nat:=(l.filter λz=>decide (x∈D z)).length
structure lN (N:Str->ag)(rank:ag)(D:Str->ag):Prop where
 base:∀x∈rank,∀y∈N x,y∈D x
 trans:∀x∈rank,∀y∈D x,∀z∈D y,z∈D x
 gen:∀x∈rank,∀y∈D x,y∈N x\/∃z,z∈N x/\y∈D z
 sub:∀x∈rank,∀y∈D x,y∈rank
theorem filter_lt {α:Type}{p q:α->Bool}{z:α}{l:List α}(Qg:∀x∈l,p x=true->q x=true)(hz:z∈l)(h1:q z=true)(h2:p z=false):(l.filter p).length < (l.filter q).length:=by
 refine List.countP_eq_length_filter▸List.countP_eq_length_filter▸?_;induction l with
 | nil=>exact nomatch hz
 | cons a l ih =>
   rw [List.countP_cons];refine rE List.countP_cons ?_;obtain hle:l.countP p<=l.countP q:=List.countP_mono_left λx hx=>Qg x (.tail _ hx);rcases cu hz with e | Fo
   . clear hz Qg;subst e;refine (aq h1)▸(aq h2)▸?_;exact Nat.lt_succ_of_le hle
   . obtain ih:=ih (λx hx=>Qg x (.tail _ hx)) Fo;refine Nat.add_lt_add_of_lt_of_le ih ?_;cases hp:p a with
     | false=>exact Nat.zero_le _
     | true=>refine rE (Qg a (.head _) hp) ?_;exact bu _
section
variable {N:Str->ag}{rank:ag}{t:Str->Nat}{best:Bool}{k:Nat}{D:Str->ag}
theorem E3 (V:lN N rank D)(hc:¬dP D rank)(hz:z∈rank)(hw:w∈D z)(hy:y∉D z):fq D rank y < fq D rank w:=by
 refine filter_lt (z:=z) (λv hv h=>?_) hz (by simpa using hw) (by simpa using hy);obtain h':y∈D v:=by simpa using h
 refine Classical.byContradiction λq=>?_;obtain q':w∉D v:=by simpa using q
 exact hc ⟨z,hz,v,hv,(ae w hw q'),y,h',hy⟩
theorem A6 (W:bA N rank t)(V:lN N rank D)(hk:k<=rank.length):∀(n:Nat) (z:Str),t z<=n->z∈(bt N rank best k).ar->∀y∈D z,y∈(bt N rank best k).dn:=by
 obtain L:=LI.run (best:=best) W k hk;intro n;induction n with
 | zero =>
   intro z ht hz y hy;have rJ:=L.A4 z hz
   (refine aN (V.gen z rJ y hy) (λq=>?_) (λKB=>?_);rotate_left;refine e1a1 KB λz' q zz=>?_;rotate_right)
   . exact L.need z hz y q
   . exact absurd (W.up z rJ z' q) (Nat.not_lt.mpr (aV ht (Nat.zero_le _)))
 | succ n ih =>
   intro z ht hz y hy;obtain rJ:=L.A4 z hz
   (refine aN (V.gen z rJ y hy) (λq=>?_) (λKA=>?_);rotate_left;refine e1a1 KA λz' q q'=>?_;rotate_right)
   . exact L.need z hz y q
   . obtain this:=W.up z rJ z' q;exact ih z' (pN this ht) (L.xh z' (L.need z hz z' q)) y q'
theorem uW (W:bA N rank t)(V:lN N rank D)(hk:k < rank.length)(hz:z∈jT N rank best k):∀y∈D z,y∈(bt N rank best k).dn:=by
 intro y hy;obtain L:=LI.run (best:=best) W k (bX hk);refine e0a2 (aL.mp hz) λq1 q2 q3=>?_
 (refine aN (V.gen z q1 y hy) (λq=>?_) (λKz=>?_);rotate_left;refine e1a1 Kz λz' q q'=>?_;rotate_right)
 . exact q3 y q
 . exact A6 W V (bX hk) (t z') z' (bu _) (L.xh z' (q3 z' q)) y q'
theorem picked (W:bA N rank t)(V:lN N rank D)(hk:k < rank.length)(hz:z∈jT N rank best k)(hy:y∈(bt N rank best k).dn)(Ip:y∉D z) :
 ∃i p w,i < k/\fo rank best ((bt N rank best i).ln++jT N rank best i)=y::p/\w∈p/\w∈D z:=by
 refine e2a1 (KW W (bX hk) hy) λi p hi hl=>?_;refine e1a1 (oj W hi hk hz) λa ha zf=>?_;have rJ:=(aL.mp hz).1;have L:=LI.run (best:=best) W i (bF (Nat.lt_trans hi hk));refine e1a1 (L.front W (λa b=>a∈D b) V.base (λx hx y hy z hz h1 h2=>V.trans z hz y h2 x h1) (t a) a (bu _) (W.sub z rJ a ha) zf) λw hw q=>?_;obtain Iq:w∈D z:=by
  clear zf;rcases q with rfl | q
  . exact V.base z rJ w ha
  . exact V.trans z rJ a (V.base z rJ a ha) w q
 obtain un:=(mj (best:=best) (L.zK W) w).mpr hw;rw [hl] at un;rcases cu un with e | e
 . exact absurd (e▸Iq) Ip
 . exact (fF i p w hi hl e Iq)
theorem iH (W:bA N rank t)(h:∀j,j < rank.length->∀z∈jT N rank best j,∀y,y∈(bt N rank best j).dn↔y∈D z):¬dP D rank:=by
 intro o1;obtain ⟨x,hx,y,hy,⟨a,ha,FG⟩,b,hb,iJ⟩:=o1;refine e1a1 (fU (best:=best) W hx) λi hi zi=>?_;refine e1a1 (fU (best:=best) W hy) λj hj zj=>?_;rw [<-h i hi x zi] at ha iJ;rw [<-h j hj y zj] at FG hb
 (refine aN (Nat.le_total i j) (λq=>?_) (λq=>?_))
 . exact FG (pS W q (bX hj) ha)
 . exact iJ (pS W q (bX hi) hb)
theorem yB (W:bA N rank t)(V:lN N rank D)(hs:rank.Pairwise λa b=>fq D rank b<=fq D rank a)(hc:¬dP D rank) :
 ∀j,j < rank.length->∀z∈jT N rank true j,∀y,y∈(bt N rank true j).dn↔y∈D z:=by
 intro j hj z hz y;refine ⟨λhy=>Classical.byContradiction λIp=>?_,uW W V hj hz y⟩;refine e3a3 (picked W V hj hz hy Ip) λi p w hi hl hw Iq=>?_;obtain rJ:=(aL.mp hz).1;obtain h1:=E3 V hc rJ Iq Ip;obtain h2:(y::p).Pairwise λa b=>fq D rank b<=fq D rank a:=by simp only [<-hl];exact hs.sublist List.filter_sublist
 obtain this:=(List.pairwise_cons.mp h2).1 w hw;exact tI h1 this
theorem E4 (W:bA N rank t)(V:lN N rank D)(hs:rank.Pairwise λa b=>fq D rank b<=fq D rank a) :
 (∀j,j < rank.length->∀z∈jT N rank true j,∀y,y∈(bt N rank true j).dn↔y∈D z)↔¬dP D rank :=
 ⟨iH W,yB W V hs⟩
theorem V6 (W:bA N rank t):∀k,k<=rank.length->(bt N rank false k).ar=(bt N rank false k).dn++(bt N rank false k).ln:=by
 intro k;induction k with
 | zero =>intro _;exact rfl
 | succ k ih =>
   intro hk;refine e2a2 (eV (best:=false) W (k:=k) (jr hk)) λx p e1 e zz=>?_;have V7:(bt N rank false k).ln++jT N rank false k=x::p:=e1;rw [e]
   skip
   simp only [ih (arith1 hk),List.append_assoc,V7];simp
theorem w0 (W:bA N rank t):(bt N rank false rank.length).ar=(bt N rank false rank.length).dn:=by obtain h:=V6 W rank.length (bu _);obtain h1:=yz (best:=false) W;obtain h2:=(LI.run (best:=false) W rank.length (bu _)).len;obtain h3:=congrArg List.length h;rw [List.length_append] at h3;rw [List.eq_nil_of_length_eq_zero (l:=(bt N rank false rank.length).ln) (Cr h3 h1 h2),List.append_nil] at h;exact h
theorem yC (W:bA N rank t)(Fq:l < i)(hi:i < rank.length)(hj:j<=rank.length)(hy:y∈jT N rank false l)(hx:x∈jT N rank false i)(P1:x∈(bt N rank false j).dn):y∈(bt N rank false j).dn:=by
 obtain ya:=nE W Fq (bX hi) (KV W (jt Fq hi) hy);obtain xa:=(aL.mp hx).2.1;obtain p1:=(rm (best:=false) W i (rank.length - i) (Nat.le_of_eq (Nat.add_sub_of_le (bF hi)))).1;rw [show i+(rank.length - i)=rank.length by exact (Nat.add_sub_of_le (bF hi)),w0 W] at p1;obtain p2:=(rm (best:=false) W j (rank.length - j) (vl hj)).2;rw [show j+(rank.length - j)=rank.length by exact pL hj] at p2
 (refine aN (List.prefix_or_prefix_of_prefix p1 p2) (λq=>?_) (λq=>?_))
 . exact q.subset ya
 . exact absurd (q.subset P1) xa
theorem lO (W:bA N rank t)(h:∀j,j < rank.length->∀z∈jT N rank false j,∀y,y∈(bt N rank false j).dn↔y∈D z):¬gV D rank:=by
 intro o1;refine e1a0 o1 λx V8=>?_;clear o1;obtain ⟨hx,y,hy,⟨a,ha,FG⟩,b,hb,Yz,YA⟩:=V8;refine e1a1 (fU (best:=false) W hx) λi hi zi=>?_;refine e1a1 (fU (best:=false) W hy) λl hl zl=>?_;refine e1a1 (fU (best:=false) W hb) λj hj zj=>?_;rw [<-h i hi x zi] at ha;rw [<-h l hl y zl] at FG;rw [<-h j hj b zj] at Yz YA;have Fq:l < i:=by
  (refine aN (Nat.lt_or_ge l i) (λq=>?_) (λq=>?_))
  . exact q
  . exact absurd (pS W q (bX hl) ha) FG
 exact YA (yC W Fq hi (bX hj) zl zi Yz)
def E5 (N:Str->ag)(rank:ag)(D:Str->ag)(y w:Str):Prop:=∃l,l < rank.length/\y∈jT N rank false l/\(w∉(bt N rank false (l+1)).ar\/fq D rank w<=fq D rank y)
theorem yD (W:bA N rank t)(hs:rank.Pairwise λa b=>fq D rank b<=fq D rank a):∀k,k < rank.length->((bt N rank false k).ln++jT N rank false k).Pairwise (E5 N rank D):=by
 have fresh:∀k,k < rank.length->(jT N rank false k).Pairwise (E5 N rank D):=λk hk=>by obtain h1:(jT N rank false k).Pairwise λa b=>fq D rank b<=fq D rank a:=hs.sublist List.filter_sublist;refine List.Pairwise.imp_of_mem (λ{a b} ha hb q=>?_) h1;exact (aH k hk ha (.inr q))
 intro k;induction k with
 | zero=>intro hk;exact fresh 0 hk
 | succ k ih =>
   intro hk;refine e2a2 (eV (best:=false) W (k:=k) (bF hk)) λx p e1 e zz=>?_;have V7:(bt N rank false k).ln++jT N rank false k=x::p:=e1;obtain h1:=ih (bF hk);rw [V7] at h1;obtain e2:(bt N rank false (k+1)).ln=p:=by rw [e]
   rw [List.pairwise_append];refine (aG (by rw [e2];exact (List.pairwise_cons.mp h1).2) (fresh (k+1) hk) (λy hy w hw=>?_));obtain L:=LI.run (best:=false) W (k+1) (pH hk);refine e1a1 (E2 W (pH hk) ((L.KU y).mp hy).1) λl hl zl=>?_;exact (aH l (Nat.lt_trans hl hk) zl (.inl λm=>(aL.mp hw).2.1 (nE W hl (pH hk) m)))
theorem rx (W:bA N rank t)(V:lN N rank D)(hs:rank.Pairwise λa b=>fq D rank b<=fq D rank a)(hc:¬dP D rank)(hb:¬gV D rank) :
 ∀j,j < rank.length->∀z∈jT N rank false j,∀y,y∈(bt N rank false j).dn↔y∈D z:=by
 intro j hj z hz y;refine ⟨λhy=>Classical.byContradiction λIp=>?_,uW W V hj hz y⟩;refine e3a3 (picked W V hj hz hy Ip) λi p w hi hl hw Iq=>?_;have rJ:=(aL.mp hz).1;obtain h1:=E3 V hc rJ Iq Ip;have v0:(bt N rank false i).ln++jT N rank false i=y::p:=hl;obtain h2:=yD (D:=D) W hs i (jt hi hj);rw [v0] at h2;refine e1a2 ((List.pairwise_cons.mp h2).1 w hw) λl YB zl q=>?_;have V9:=V.sub z rJ w Iq;obtain hyr:=(aL.mp zl).1
 (refine aN q (λq=>?_) (λq=>?_))
 . -- w KV later: Wa
   refine e1a1 (fU (best:=false) W V9) λl' Pg YC=>?_;obtain OR:l < l':=by
    (refine aN (Nat.lt_or_ge l l') (λr=>?_) (λr=>?_))
    . exact r
    . exact absurd (nE W (show l'+1<=l+1 by exact (Nat.lt_succ_of_le r)) (jy YB) (KV W Pg YC)) q
   refine e1a1 (oj W OR Pg YC) λa ha zf=>?_;exact hb ⟨w,V9,y,hyr,(ae a (V.base w V9 a ha) (λm=>zf (uW W V YB zl a m))),z,rJ,Iq,Ip⟩
 . exact tI h1 q
theorem E6 (W:bA N rank t)(V:lN N rank D)(hs:rank.Pairwise λa b=>fq D rank b<=fq D rank a) :
 (∀j,j < rank.length->∀z∈jT N rank false j,∀y,y∈(bt N rank false j).dn↔y∈D z)↔¬dP D rank/\¬gV D rank :=
 ⟨λh=>⟨iH W h,lO W h⟩,λWb=>e0a1 Wb λh1 h2=>rx W V hs h1 h2⟩
end
noncomputable def yE (fs:List (Nat×Nat)):Nat->Nat->Nat->Bool
 | 0,a,b=>a==b
 | n+1,a,b=>a==b||fs.any λp=>p.1==a&&yE fs n p.2 b
noncomputable def zO (fs:List (Nat×Nat)):fj->Bool
 | a::b::r=>yE fs 4 a b&&zO fs (b::r)
 | _=>true
noncomputable def kP (n:Nat):KasT (Array Nat)->List (Nat×Nat)->Bool
 | .ret a,fs=>decide a.toList.Nodup&&(List.range n).all (λi=>decide (i∈a.toList))&&a.toList.all (λi=>decide (i < n))&&zO fs a.toList
 | .ask i j k,fs=>kP n (k true) ((i,j)::fs)&&kP n (k false) ((j,i)::fs)
theorem E7:kP n (.ret a) fs=(decide a.toList.Nodup&&(List.range n).all (λi=>decide (i∈a.toList))&&a.toList.all (λi=>decide (i < n))&&zO fs a.toList):=rfl
theorem E8:kP n (.ask i j k) fs=(kP n (k true) ((i,j)::fs)&&kP n (k false) ((j,i)::fs)):=rfl
theorem A7 (key:Nat->Int)(hf:∀p∈fs,key p.1<=key p.2)(n a b:Nat)(h:yE fs n a b=true):key a<=key b:=by
 induction n generalizing a with
 | zero=>refine rE (show a=b from eq_of_beq h) ?_;exact Int.le_refl _
 | succ n ih =>
   (refine aN (Bool.or_eq_true_iff.mp h) (λq=>?_) (λq=>?_))
   . refine rE (eq_of_beq q) ?_;exact Int.le_refl _
   . refine e1a1 (List.any_eq_true.mp q) λp hp e=>?_;refine e0a1 (Bool.and_eq_true_iff.mp e) λe1 e2=>?_;refine (eq_of_beq e1)▸?_;exact Int.le_trans (hf p hp) (ih p.2 e2)
theorem yF (key:Nat->Int)(hf:∀p∈fs,key p.1<=key p.2)(l:fj)(h:zO fs l=true):l.Pairwise λa b=>key a<=key b:=by
 induction l with
 | nil=>exact .nil
 | cons a l ih =>
   cases l with
   | nil=>exact List.pairwise_singleton ..
   | cons b r =>
     refine e0a1 (Bool.and_eq_true_iff.mp h) λh1 h2=>?_;obtain u4:=A7 key hf 4 a b h1;obtain ih:=ih h2;rw [List.pairwise_cons];refine ⟨λc hc=>?_,ih⟩
     (refine aN (cu hc) (λKC=>?_) (λhc=>?_);clear hc h2 h1 h ih;refine rE KC ?_)
     . exact u4
     . exact Int.le_trans u4 ((List.pairwise_cons.mp ih).1 c hc)
theorem A8 (key:Nat->Int)(n:Nat)(T:KasT (Array Nat))(fs:List (Nat×Nat))(h:kP n T fs=true)(hf:∀p∈fs,key p.1<=key p.2) :
 (kasRun (λi j=>decide (key i < key j)) T).toList.Perm (List.range n)/\(kasRun (λi j=>decide (key i < key j)) T).toList.Pairwise λa b=>key a<=key b:=by
 induction T generalizing fs with
 | ret a =>simp only [E7,E8,cZ,decide_eq_true_eq,List.all_eq_true,List.mem_range] at h;refine e0a1 h λG4 h4=>?_;refine e0a1 G4 λG3 h3=>?_;clear G4;refine e0a1 G3 λh1 h2=>?_;clear G3;exact ⟨(List.perm_ext_iff_of_nodup h1 List.nodup_range).mpr λi=>⟨λq=>List.mem_range.mpr (h3 i q),λq=>h2 i (List.mem_range.mp q)⟩,yF key hf _ h4⟩
 | ask i j k ih =>
   refine e0a1 (Bool.and_eq_true_iff.mp h) λh1 h2=>?_;dsimp only [kasRun];by_cases e:key i < key j
   . rw [decide_eq_true e];exact ih true _ h1 λp hp=>(cu hp).elim (λq=>by rw [q];exact Int.le_of_lt e) (hf p)
   . rw [decide_eq_false e];exact ih false _ h2 λp hp=>(cu hp).elim (λq=>by rw [q];exact Int.not_lt.mp e) (hf p)
theorem G7:kP 5 (kas_sort 5) []=true:=by decide +kernel
theorem ry {l:ag}:(List.range l.length).map (λi=>l.getD i "")=l:=by
 apply List.ext_getElem?;intro i;rw [dw];by_cases h:i < l.length
 . simp only [List.getElem?_range h,cp h,Option.map_some,fW,cp h];rfl
 . rw [List.getElem?_eq_none (by simpa using h),List.getElem?_eq_none (by simpa using h)];rfl
theorem yG (d:Tab)(o:ag)(x:Str):behind d o x=fq (ak d) o x:=by delta behind fq;congr 1;apply List.filter_congr;intro z _;rw [Bool.eq_iff_iff];show isIn _ x=true↔_;rw [iG,decide_eq_true_iff];rfl
theorem rz (d:Tab)(o:ag)(ho:o.length=5):(cj d o).Perm o/\(cj d o).Pairwise λa b=>fq (ak d) o b<=fq (ak d) o a:=by
 refine e0a1 (A8 (λi=>((o.map λx=>-(behind d o x:Int)).getD i 0)) 5 (kas_sort 5) [] G7 (by simp)) λh1 h2=>?_;obtain e:cj d o=(kasRun (λi j=>decide (((o.map λx=>-(behind d o x:Int)).getD i 0) < ((o.map λx=>-(behind d o x:Int)).getD j 0))) (kas_sort 5)).toList.map λi=>o.getD i "":=by delta cj pf;rw [ho]
 refine rE e ?_;refine ⟨?_,?_⟩
 . obtain this:=h1.map λi=>o.getD i "";rw [<-ho,ry,ho] at this;exact this
 . rw [List.pairwise_map];refine List.Pairwise.imp_of_mem (λ{a b} ha hb q=>?_) h2;have la:a < o.length:=by rw [ho];exact List.mem_range.mp (h1.mem_iff.mp ha)
   have lb:b < o.length:=by rw [ho];exact List.mem_range.mp (h1.mem_iff.mp hb)
   have key:∀{i:Nat},i < o.length->((o.map λx=>-(behind d o x:Int)).getD i 0)=-(fq (ak d) o (o.getD i ""):Int):=λ{i} hi=>by simp only [fW,dw,fW,cp hi,<-yG];rfl
   rw [key la,key lb] at q;exact Int.ofNat_le.mp (Int.le_of_neg_le_neg q)
theorem lB (h:l.Perm r)(x:Str):fq D l x=fq D r x:=(h.filter _).length_eq
theorem nF:sle x y=!slt y x:=rfl
theorem KY (h:sle a b=true)(ge:a≠b):slt a b=true:=by
 cases q:slt a b with
 | true=>rfl
 | false=>exact absurd (jJ a b h (by rw [nF,q];rfl)) ge
theorem jU (a:Str):slt a a=false:=by have:=sF a a;rw [Bool.or_self,nF] at this;simpa using this
theorem ot (h1:slt a b=true)(h2:slt b d=true):slt a d=true:=by delta slt at *;simp only [decide_eq_true_eq] at *;exact List.lt_trans h1 h2
theorem KZ (h1:slt a b=false)(h2:slt b a=false):a=b:=jJ a b (by simp only [nF,h2];rfl) (by rw [nF,h1];rfl)
abbrev ou (l:ag):Prop:=l.Pairwise λa b=>slt a b=true
theorem ml (hn:l.Nodup):ou (cg l):=by obtain h1:=fJ l;obtain h2:(cg l).Nodup:=(cM l).nodup_iff.mpr hn;exact (h1.and h2).imp λWc=>e0a1 Wc λq1 q2=>KY q1 q2
theorem s9 {l:ag}(h:∀a∈l,slt x a=true):l.dropWhile (·==x)=l:=by
 cases l with
 | nil=>rfl
 | cons a r =>
   obtain this:(a==x)=false:=by rw [beq_eq_false_iff_ne];intro e;have:=h a (.head _);rw [e,jU] at this;cases this
   rw [List.dropWhile_cons,this];rfl
theorem pV:∀(n:Nat) (xs ys:ag),xs.length+ys.length<=n->ou xs->ou ys->∀z,(z∈(mu n xs ys).1↔z∈xs/\z∉ys)/\(z∈(mu n xs ys).2↔z∈ys/\z∉xs)
 | n,[],ys,_,_,_,z=>by rw [fP];simp
 | n,x::xs,[],_,_,_,z=>by rw [eU];simp
 | 0,x::xs,y::ys,h,_,_,z=>by exact nomatch h
 | n+1,x::xs,y::ys,h,hx,hy,z=>by
   refine e0a1 (List.pairwise_cons.mp hx) λzL AC=>?_;refine e0a1 (List.pairwise_cons.mp hy) λQh H7=>?_;have dx:=s9 zL;have dy:=s9 Qh;obtain ne:∀{a b:Str},slt a b=true->a≠b:=λ{a b} q e=>by rw [e,jU] at q;cases q
   rw [DU];refine (aq dx)▸(aq dy)▸?_;simp only [List.length_cons] at h;cases c1:slt x y with
   | true =>
     obtain ih:=pV n xs (y::ys) (by skip;exact (Nat.succ_add_eq_add_succ _ _▸Nat.le_of_succ_le_succ h)) AC hy z;have Mp:∀a∈y::ys,slt x a=true:=λa ha=>(cu ha).elim (λe=>e▸c1) λq=>ot c1 (Qh a q);obtain Ll:x∉y::ys:=λm=>ne (Mp x m) rfl;simp only [if_true,List.mem_cons,ih.1,ih.2];constructor
     . constructor
       . rintro (e | ⟨q1,q2⟩)
         . clear Mp dx zL hx c1;subst e;exact ⟨.inl rfl,by simpa using Ll⟩
         . exact ⟨.inr q1,q2⟩
       . rintro ⟨e | q1,q2⟩
         . exact .inl e
         . exact .inr ⟨q1,q2⟩
     . constructor
       . intro o1;refine e0a1 o1 λq1 q2=>?_;refine ⟨q1,λq=>q.elim (λe=>?_) q2⟩;clear Mp dx zL hx q c1;subst e;exact Ll (List.mem_cons.mpr q1)
       . intro o2;refine e0a1 o2 λq1 q2=>?_;exact ⟨q1,λq=>q2 (.inr q)⟩
   | false =>
     cases c2:slt y x with
     | true =>
       obtain ih:=pV n (x::xs) ys (by skip;exact Nat.le_of_lt_succ h) hx H7 z;have Fw:∀a∈x::xs,slt y a=true:=λa ha=>(cu ha).elim (λe=>e▸c2) λq=>ot c2 (zL a q);have Qi:y∉x::xs:=λm=>ne (Fw y m) rfl;simp only [if_true,dQ,if_false,List.mem_cons,ih.1,ih.2];constructor
       . constructor
         . intro o3;refine e0a1 o3 λq1 q2=>?_;refine ⟨q1,λq=>q.elim (λe=>?_) q2⟩;clear q Fw Qh c2 c1 dy hy;subst e;exact Qi (List.mem_cons.mpr q1)
         . intro o4;refine e0a1 o4 λq1 q2=>?_;exact ⟨q1,λq=>q2 (.inr q)⟩
       . constructor
         . rintro (e | ⟨q1,q2⟩)
           . clear Fw c2 c1 dy;refine rE e ?_;exact ⟨.inl rfl,by simpa using Qi⟩
           . exact ⟨.inr q1,q2⟩
         . rintro ⟨e | q1,q2⟩
           . exact .inl e
           . exact .inr ⟨q1,q2⟩
     | false =>
       have e:=KZ c1 c2;clear c2 c1 dy hy;subst e;obtain ih:=pV n xs ys (aV (Nat.add_le_add_right (Nat.le_succ _) _) (Nat.le_of_succ_le_succ h)) AC H7 z;have Ll:x∉xs:=λm=>ne (zL x m) rfl;have Qi:x∉ys:=λm=>ne (Qh x m) rfl;simp only [dQ,if_false,List.mem_cons,ih.1,ih.2];constructor
       . constructor
         . intro o5;refine e0a1 o5 λq1 q2=>?_;exact ⟨.inr q1,λq=>q.elim (λe=>Ll (e▸q1)) q2⟩
         . rintro ⟨q1 | q1,q2⟩
           . exact absurd (.inl q1) q2
           . exact ⟨q1,λq=>q2 (.inr q)⟩
       . constructor
         . intro o6;refine e0a1 o6 λq1 q2=>?_;exact ⟨.inr q1,λq=>q.elim (λe=>Qi (e▸q1)) q2⟩
         . rintro ⟨q1 | q1,q2⟩
           . exact absurd (.inl q1) q2
           . exact ⟨q1,λq=>q2 (.inr q)⟩
theorem w5:full l=true↔∃a,a∈l:=by
 delta full;cases l with
 | nil=>simp
 | cons a r=>simp
theorem cK (hx:ou xs)(hy:ou ys):(full (nC xs ys).1=true↔∃a,a∈xs/\a∉ys)/\(full (nC xs ys).2=true↔∃a,a∈ys/\a∉xs):=by obtain h:=pV (xs.length+ys.length) xs ys (bu _) hx hy;rw [w5,w5];exact ⟨⟨λWe=>e1a0 We λa q=>(ck a ((h a).1.mp q)),λWf=>e1a0 Wf λa q=>(ck a ((h a).1.mpr q))⟩,⟨λWg=>e1a0 Wg λa q=>(ck a ((h a).2.mp q)),λWh=>e1a0 Wh λa q=>(ck a ((h a).2.mpr q))⟩⟩
section
variable (d:Tab)(nm:ag)
noncomputable def oz (l e:Nat):Bool:=full (nC (rowAt d nm e) (rowAt d nm l)).1&&full (nC (rowAt d nm e) (rowAt d nm l)).2
noncomputable def lC (l e:Nat):Bool:=full (nC (rowAt d nm e) (rowAt d nm l)).1&&full (nC ((cJ d nm).getD e []) ((cJ d nm).getD l [])).1||full (nC (rowAt d nm e) (rowAt d nm l)).2&&full (nC ((cJ d nm).getD e []) ((cJ d nm).getD l [])).2
theorem w6 (l:Nat)(p:Bool×Bool):∀k,((cY d nm l p k).1=true↔p.1=true\/∃e,e < k/\oz d nm l e=true)/\((cY d nm l p k).2=true↔p.2=true\/∃e,e < k/\lC d nm l e=true):=by
 intro k;induction k with
 | zero =>simp [A0,A1]
 | succ k ih =>
   refine e0a1 ih λh1 h2=>?_;obtain s1:(cY d nm l p (k+1)).1=((cY d nm l p k).1||oz d nm l k):=rfl;obtain s2:(cY d nm l p (k+1)).2=((cY d nm l p k).2||lC d nm l k):=rfl;obtain key:∀(P:Nat->Bool) (A:Prop),((A\/∃e,e < k/\P e=true)\/P k=true)↔(A\/∃e,e < k+1/\P e=true):=λP A=>by
    constructor
    . rintro ((q | ⟨e,h,q⟩) | q)
      . exact .inl q
      . exact .inr (ae e (jz h) q)
      . exact .inr (ae k iw q)
    . rintro (q | ⟨e,h,q⟩)
      . exact .inl (.inl q)
      . by_cases w:e=k
        . clear h;cases w;exact .inr q
        . exact .inl (.inr (ae e (jx h w) q))
   simp only [s1,s2,Bool.or_eq_true,Bool.or_eq_true,h1,h2];exact ⟨key _ _,key _ _⟩
theorem uX:∀k,((cF d nm k).1=true↔∃l e,l < k/\e < l/\oz d nm l e=true)/\((cF d nm k).2=true↔∃l e,l < k/\e < l/\lC d nm l e=true):=by
 intro k;induction k with
 | zero =>simp [yo,yp]
 | succ k ih =>
   refine e0a1 ih λh1 h2=>?_;refine e0a1 (w6 d nm k (cF d nm k) k) λi1 i2=>?_;obtain key:∀(P:Nat->Nat->Bool),((∃l e,l < k/\e < l/\P l e=true)\/∃e,e < k/\P k e=true)↔∃l e,l < k+1/\e < l/\P l e=true:=λP=>by
    constructor
    . rintro (⟨l,e,h,h',q⟩ | ⟨e,h,q⟩)
      . exact (b7 l e (jz h) h' q)
      . exact (b7 k e iw h q)
    . intro o1;refine e2a2 o1 λl e h h' q=>?_;by_cases w:l=k
      . clear h;cases w;exact .inr (ae e h' q)
      . exact .inl (b7 l e (jx h w) h' q)
   show ((cY d nm k (cF d nm k) k).1=true↔_)/\((cY d nm k (cF d nm k) k).2=true↔_)
   simp only [i1,i2,h1,h2];exact ⟨key _,key _⟩
end
theorem rA (d:Tab)(hd:d.length=5)(hn:(d.map (·.1)).Nodup)(hr:∀z∈d.map (·.1),ou (ak d z)) :
 ((bD d).1=true↔dP (ak d) (d.map (·.1)))/\((bD d).2=true↔gV (ak d) (d.map (·.1))):=by
 obtain hp:(cg (d.map (·.1))).Perm (d.map (·.1)):=cM _;obtain YD:ou (cg (d.map (·.1))):=ml hn;delta bD;generalize cg (d.map (·.1))=nm at hp YD;have hl:nm.length=5:=by simp only [hp.length_eq,fz,hd]
 have hm:∀z,z∈nm↔z∈d.map (·.1):=λz=>hp.mem_iff;have at_:∀{i:Nat},i < 5->nm.getD i ""∈nm:=λ{i} hi=>by simp only [fW,cp (js hi hl)];exact List.getElem_mem _
 have idx:∀{x:Str},x∈nm->∃i,i < 5/\nm.getD i ""=x:=λ{x} hx=>by obtain ⟨i,hi,e⟩:=List.getElem_of_mem hx;exact (ae i (hl▸hi) (by rw [fW,cp hi];exact e))
 have row:∀{i:Nat},i < 5->ou (rowAt d nm i):=λ{i} hi=>hr _ ((hm _).mp (at_ hi));have ups:∀{i:Nat},i < 5->(cJ d nm).getD i []=nm.filter λy=>isIn (ak d y) (nm.getD i ""):=λ{i} hi=>by delta cJ;simp only [fW,dw,cp (show i < nm.length by exact js hi hl),fW,cp (show i < nm.length by exact js hi hl)];rfl
 have Ir:∀{i:Nat},i < 5->ou ((cJ d nm).getD i []):=λ{i} hi=>by simp only [ups hi];exact YD.sublist List.filter_sublist
 have Qj:∀{i:Nat},i < 5->∀z,z∈(cJ d nm).getD i []↔z∈nm/\nm.getD i ""∈ak d z:=λ{i} hi z=>by rw [ups hi,List.mem_filter,iG]
 refine e0a1 (uX d nm 5) λj1 j2=>?_;simp only [j1,j2];constructor
 . constructor
   . intro o1;refine e2a2 o1 λl e h1 h2 q=>?_;unfold oz at q;rw [cZ,(cK (row (kU h1 h2)) (row h1)).1,(cK (row (kU h1 h2)) (row h1)).2] at q;exact ⟨_,((hm _).mp (at_ (kU h1 h2))),_,((hm _).mp (at_ h1)),q.1,q.2⟩
   . intro o2;obtain ⟨x,hx,y,hy,q1,q2⟩:=o2;refine e1a1 (idx ((hm x).mpr hx)) λi hi J9=>?_;obtain rfl:=J9;refine e1a1 (idx ((hm y).mpr hy)) λj hj J8=>?_;obtain rfl:=J8;rcases Nat.lt_trichotomy i j with w | w | w
     . refine (b7 j i hj w ?_);delta oz;simp only [cZ,(cK (row hi) (row hj)).1,(cK (row hi) (row hj)).2];exact ⟨q1,q2⟩
     . clear q2 hy;clear hj;subst w;refine e1a1 q1 λa h1 h2=>?_;exact absurd h1 h2
     . refine (b7 i j hi w ?_);delta oz;simp only [cZ,(cK (row hj) (row hi)).1,(cK (row hj) (row hi)).2];exact ⟨q2,q1⟩
 . have U:∀{i j:Nat},i < 5->j < 5->((∃a,a∈(cJ d nm).getD i []/\a∉(cJ d nm).getD j [])↔∃b,b∈d.map (·.1)/\nm.getD i ""∈ak d b/\nm.getD j ""∉ak d b):=λ{i j} hi hj=>by
    constructor
    . intro o3;refine e1a1 o3 λa h1 h2=>?_;rw [Qj hi] at h1;rw [Qj hj] at h2;exact (aH a ((hm a).mp h1.1) h1.2 (λm=>h2 ⟨h1.1,m⟩))
    . intro o4;refine e1a2 o4 λb h1 h2 h3=>?_;exact (ae b ((Qj hi b).mpr ⟨(hm b).mpr h1,h2⟩) (λm=>h3 ((Qj hj b).mp m).2))
   constructor
   . intro o5;refine e2a2 o5 λl e h1 h2 q=>?_;obtain he:e < 5:=kU h1 h2;unfold lC at q;rw [Bool.or_eq_true,cZ,cZ,(cK (row he) (row h1)).1,(cK (row he) (row h1)).2,(cK (Ir he) (Ir h1)).1,(cK (Ir he) (Ir h1)).2,U he h1,U h1 he] at q
     (refine aN q (λWi=>?_) (λWj=>?_);refine e0a1 Wi λq1 q2=>?_;rotate_left;refine e0a1 Wj λq1 q2=>?_;rotate_right)
     . exact ⟨_,((hm _).mp (at_ he)),_,((hm _).mp (at_ h1)),q1,q2⟩
     . exact ⟨_,((hm _).mp (at_ h1)),_,((hm _).mp (at_ he)),q1,q2⟩
   . intro o6;obtain ⟨x,hx,y,hy,q1,q2⟩:=o6;refine e1a1 (idx ((hm x).mpr hx)) λi hi Wk=>?_;clear hx;obtain rfl:=Wk;refine e1a1 (idx ((hm y).mpr hy)) λj hj Wl=>?_;obtain rfl:=Wl;rcases Nat.lt_trichotomy i j with w | w | w
     . refine (b7 j i hj w ?_);delta lC;simp only [Bool.or_eq_true,cZ,cZ,(cK (row hi) (row hj)).1,(cK (Ir hi) (Ir hj)).1,U hi hj];exact .inl ⟨q1,q2⟩
     . clear q2 hy hj;subst w;refine e1a1 q1 λa h1 h2=>?_;exact absurd h1 h2
     . refine (b7 i j hi w ?_);delta lC;simp only [Bool.or_eq_true,cZ,cZ,(cK (row hj) (row hi)).2,(cK (Ir hj) (Ir hi)).2,U hi hj];exact .inr ⟨q1,q2⟩
theorem dP.congr (hl:∀z,z∈l↔z∈l')(hD:∀z∈l,∀y,y∈D z↔y∈D' z):dP D l↔dP D' l':=by
 constructor
 . intro o1;obtain ⟨x,hx,y,hy,⟨a,a1,a2⟩,b,b1,b2⟩:=o1;exact ⟨x,((hl x).mp hx),y,((hl y).mp hy),(ae a ((hD x hx a).mp a1) (λm=>a2 ((hD y hy a).mpr m))),b,((hD y hy b).mp b1),(λm=>b2 ((hD x hx b).mpr m))⟩
 . intro o2;obtain ⟨x,hx,y,hy,⟨a,a1,a2⟩,b,b1,b2⟩:=o2;obtain kr:=(hl x).mpr hx;obtain l9:=(hl y).mpr hy;exact ⟨x,kr,y,l9,(ae a ((hD x kr a).mpr a1) (λm=>a2 ((hD y l9 a).mp m))),b,((hD y l9 b).mpr b1),(λm=>b2 ((hD x kr b).mp m))⟩
theorem gV.congr (hl:∀z,z∈l↔z∈l')(hD:∀z∈l,∀y,y∈D z↔y∈D' z):gV D l↔gV D' l':=by
 constructor
 . intro o1;refine e1a0 o1 λx Kc=>?_;clear o1;obtain ⟨hx,y,hy,⟨a,a1,a2⟩,b,hb,b1,b2⟩:=Kc;exact ⟨x,((hl x).mp hx),y,((hl y).mp hy),(ae a ((hD x hx a).mp a1) (λm=>a2 ((hD y hy a).mpr m))),b,((hl b).mp hb),((hD b hb x).mp b1),(λm=>b2 ((hD b hb y).mpr m))⟩
 . intro o2;refine e1a0 o2 λx Kb=>?_;clear o2;obtain ⟨hx,y,hy,⟨a,a1,a2⟩,b,hb,b1,b2⟩:=Kb;obtain kr:=(hl x).mpr hx;have l9:=(hl y).mpr hy;have iJ:=(hl b).mpr hb;exact ⟨x,kr,y,l9,(ae a ((hD x kr a).mpr a1) (λm=>a2 ((hD y l9 a).mp m))),b,iJ,((hD b iJ x).mpr b1),(λm=>b2 ((hD b iJ y).mp m))⟩
section
variable {ns:ag}{code:Int}
theorem uY (h:l < ns.length):ns.getD l ""∈ns:=by simp only [fW,cp h];exact List.getElem_mem _
theorem pW (hn:ns.Nodup)(he:e < ns.length)(hl:l < ns.length)(h:ns.getD e ""=ns.getD l ""):e=l:=by rw [fW,fW,cp he,cp hl] at h;exact (List.getElem_inj hn).mp h
theorem zP (hn:ns.Nodup)(hl:l < ns.length):ns.idxOf (ns.getD l "")=l:=by obtain hm:ns.getD l ""∈ns:=uY hl;obtain h1:=List.idxOf_lt_length_iff.mpr hm;refine pW hn h1 hl ?_;rw [fW,cp h1];exact List.getElem_idxOf h1
theorem yH (hx:x∈ns):∃l,l < ns.length/\ns.getD l ""=x:=by obtain ⟨i,hi,e⟩:=List.getElem_of_mem hx;exact (ae i hi (by rw [fW,cp hi];exact e))
theorem ta (hl:l < ns.length):ns.take (l+1)=ns.take l++[ns.getD l ""]:=by refine (aq List.take_add_one)▸(aq (cp hl))▸(aq (fW))▸(aq (cp hl))▸?_;rfl
theorem w7 (hn:ns.Nodup)(hi:i<=ns.length)(hl:l < ns.length):ns.getD l ""∈ns.take i↔l < i:=by
 constructor
 . intro h;obtain ⟨j,hj,e⟩:=List.getElem_of_mem h;obtain xO:j < i/\j < ns.length:=by rw [List.length_take] at hj;exact Nat.lt_min.mp hj
   rw [List.getElem_take] at e;obtain this:=pW hn xO.2 hl (by rw [fW,cp xO.2];exact e);exact (this▸xO.1)
 . intro h;rw [fW,cp hl];exact List.mem_iff_getElem.mpr ⟨l,by rw [List.length_take];exact (Nat.lt_min.mpr ⟨h,cG h hi⟩),by rw [List.getElem_take];rfl⟩
theorem w8 (hn:ns.Nodup)(ds:Tab):∀j,j<=ns.length->(planIn ns ds code j).1.Nodup/\(∀y∈(planIn ns ds code j).1,∃e,e < j/\y=ns.getD e "")/\∀z,z∈(planIn ns ds code j).2.1↔∃y,y∈(planIn ns ds code j).1/\(z=y\/z∈ak ds y):=by
 intro j;induction j with
 | zero =>intro _;simp [nh,nq]
 | succ j ih =>
   intro hj;refine e0a2 (ih (arith1 hj)) λh1 h2 h3=>?_;obtain hs:planIn ns ds code (j+1)=if ((planIn ns ds code j).2.2.fmod 3==0)=true then ((planIn ns ds code j).1++[ns.getD j ""],(planIn ns ds code j).2.1++([ns.getD j ""]++qM ds (ns.getD j "")),(planIn ns ds code j).2.2.fdiv 3) else ((planIn ns ds code j).1,(planIn ns ds code j).2.1,(planIn ns ds code j).2.2.fdiv 3):=rfl
   by_cases hb:((planIn ns ds code j).2.2.fmod 3==0)=true
   . rw [hs,if_pos hb];refine (aG ?_ (λy hy=>?_) (λz=>?_))
     . rw [List.nodup_append];refine (aG h1 (by simp) (λa ha b hb e=>?_));replace e:=(bp hb)▸e;refine e1a1 (h2 a ha) λe' xE q=>?_;obtain this:=pW hn (show e' < ns.length by exact (Nat.lt_trans xE hj)) (show j < ns.length by assumption) (q▸e);exact (bS xE this)
     . (refine aN (bL hy) (λq=>?_) (λq=>?_))
       . refine e1a1 (h2 y q) λe he q=>?_;exact (ae e (jz he) q)
       . exact (ae j iw (bp q))
     . show z∈(planIn ns ds code j).2.1++([ns.getD j ""]++qM ds (ns.getD j ""))↔∃y,y∈(planIn ns ds code j).1++[ns.getD j ""]/\_;constructor
       . intro h;rcases bL h with q | q
         . refine e1a1 ((h3 z).mp q) λy hy q=>?_;exact (ae y (List.mem_append_left _ hy) q)
         . (refine aN (bL q) (λq=>?_) (λq=>?_))
           . exact (ae _ (List.mem_append_right _ (.head _)) (.inl (bp q)))
           . exact (ae _ (List.mem_append_right _ (.head _)) (.inr q))
       . intro o1;refine e1a1 o1 λy hy q=>?_;rcases bL hy with w | w
         . exact List.mem_append_left _ ((h3 z).mpr (ae y w q))
         . rw [bp w] at q;refine List.mem_append_right _ ?_
           (refine aN q (λq=>?_) (λq=>?_))
           . exact List.mem_append_left _ (List.mem_singleton.mpr q)
           . exact List.mem_append_right _ q
   . rw [hs,if_neg hb];exact (aG h1 (λy hy=>e1a1 (h2 y hy) λe he q=>(ae e (jz he) q)) h3)
structure PI (ns:ag)(nd ds:Tab)(i:Nat):Prop where
 k1:nd.map (·.1)=ns.take i
 k2:ds.map (·.1)=ns.take i
 a:∀l,l < i->(ak nd (ns.getD l "")).Nodup/\∀y∈ak nd (ns.getD l ""),∃e,e < l/\y=ns.getD e ""
 b:∀l,l < i->∀z,z∈ak ds (ns.getD l "")↔∃y,y∈ak nd (ns.getD l "")/\(z=y\/z∈ak ds y)
 c:∀l,l < i->ou (ak ds (ns.getD l ""))
theorem nG {T:Tab}(hx:x∉T.map (·.1)):ak (T++[(x,l)]) y=if y=x then l else ak T y:=by
 delta ak bB;rw [List.find?_append];by_cases e:y=x
 . subst e;rw [List.find?_eq_none.mpr λp hp e=>hx (dm (ae p hp (by simpa using e)))];simp
 . refine rE (if_neg e) ?_;cases T.find? λkv=>decide (kv.1=y) with
   | none=>simp [Ne.symm e]
   | some p=>rfl
theorem tc (hn:ns.Nodup):∀i,i<=ns.length->PI ns (aS ns code i).1 (aS ns code i).2.1 i:=by
 intro i;induction i with
 | zero =>intro _;exact ⟨rfl,rfl,λzz h=>absurd h (Nat.not_lt_zero _),λzz h=>absurd h (Nat.not_lt_zero _),λzz h=>absurd h (Nat.not_lt_zero _)⟩
 | succ i ih =>
   intro hi;have P:=ih (arith1 hi);have i3:i < ns.length:=jr hi;refine e0a2 (w8 (code:=(aS ns code i).2.2) hn (aS ns code i).2.1 i (arith1 hi)) λq1 q2 q3=>?_;unfold aS;dsimp only;generalize (aS ns code i).1=nd at P;generalize (aS ns code i).2.1=ds at P q1 q2 q3;generalize planIn ns ds (aS ns code i).2.2 i=pin at q1 q2 q3;have hx:∀{T:Tab},T.map (·.1)=ns.take i->ns.getD i ""∉T.map (·.1):=λ{T} e m=>by rw [e,w7 hn (arith1 hi) i3] at m;exact bS m rfl
   simp only [kN (hx P.k1),kN (hx P.k2)];have lt:∀{l},l < i->ns.getD l ""≠ns.getD i "":=λ{l} h e=>by obtain this:=pW hn (Nat.lt_trans h hi) i3 e;exact bS h this
   have n1:∀{l},l < i->ak (nd++[(ns.getD i "",pin.1)]) (ns.getD l "")=ak nd (ns.getD l ""):=λ{l} h=>by rw [nG (hx P.k1),if_neg (lt h)]
   have n2:∀{l},l < i->ak (ds++[(ns.getD i "",cg (dedup pin.2.1))]) (ns.getD l "")=ak ds (ns.getD l ""):=λ{l} h=>by rw [nG (hx P.k2),if_neg (lt h)]
   have m1:ak (nd++[(ns.getD i "",pin.1)]) (ns.getD i "")=pin.1:=by exact (aq (nG (hx P.k1)))▸(aq (if_pos rfl))▸rfl
   have m2:ak (ds++[(ns.getD i "",cg (dedup pin.2.1))]) (ns.getD i "")=cg (dedup pin.2.1):=by rw [nG (hx P.k2),if_pos rfl]
   refine ⟨by simp only [List.map_append,P.k1,ta i3];rfl,by rw [List.map_append,P.k2,ta i3];rfl,λl hl=>?_,λl hl z=>?_,λl hl=>?_⟩
   . by_cases e:l=i
     . clear hl;refine rE e ?_;rw [m1];exact ⟨q1,q2⟩
     . refine rE (n1 (jx hl e)) ?_;exact P.a l (jx hl e)
   . by_cases e:l=i
     . clear hl;cases e;refine rE m1 ?_;rw [m2,gu,lr,q3];constructor
       . intro o1;refine e1a1 o1 λy hy q=>?_;refine e1a1 (q2 y hy) λe he wT=>?_;obtain rfl:=wT;exact (ae _ hy (by rw [n2 he];exact q))
       . intro o2;refine e1a1 o2 λy hy q=>?_;refine e1a1 (q2 y hy) λe he s4=>?_;obtain rfl:=s4;exact (ae _ hy (by rw [n2 he] at q;exact q))
     . have v0:l < i:=jx hl e;refine rE (n1 v0) ?_;rw [n2 v0,P.b l v0];constructor
       . intro o3;refine e1a1 o3 λy hy q=>?_;refine e1a1 ((P.a l v0).2 y hy) λe he u5=>?_;obtain rfl:=u5;exact (ae _ hy (by rw [n2 (cG he (Nat.le_of_lt_succ hl))];exact q))
       . intro o4;refine e1a1 o4 λy hy q=>?_;refine e1a1 ((P.a l v0).2 y hy) λe he u6=>?_;obtain rfl:=u6;exact (ae _ hy (by rw [n2 (cG he (Nat.le_of_lt_succ hl))] at q;exact q))
   . by_cases e:l=i
     . refine rE e ?_;rw [m2];exact ml (iP _)
     . simp only [n2 (jx hl e)];exact P.c l (jx hl e)
variable {nd ds:Tab}
theorem PI.se (P:PI ns nd ds ns.length)(hn:ns.Nodup)(hp:rank.Perm ns):bA (ak nd) rank ns.idxOf:=by
 obtain at_:∀x∈rank,∃l,l < ns.length/\ns.getD l ""=x:=λx hx=>yH (hp.mem_iff.mp hx);refine ⟨hp.nodup_iff.mpr hn,λx hx=>?_,λx hx y hy=>?_,λx hx y hy=>?_⟩
 . refine e1a1 (at_ x hx) λl hl rO=>?_;refine rO▸?_;exact (P.a l hl).1
 . refine e1a1 (at_ x hx) λl hl rP=>?_;obtain rfl:=rP;refine e1a1 ((P.a l hl).2 y hy) λe he rD=>?_;obtain rfl:=rD;exact hp.mem_iff.mpr (uY (jt he hl))
 . refine e1a1 (at_ x hx) λl hl rQ=>?_;obtain rfl:=rQ;refine e1a1 ((P.a l hl).2 y hy) λe he tz=>?_;obtain rfl:=tz;refine (aq (zP hn (jt he hl)))▸(aq (zP hn hl))▸?_;exact he
theorem PI.down (P:PI ns nd ds ns.length)(hn:ns.Nodup)(hp:rank.Perm ns):lN (ak nd) rank (ak ds):=by
 have at_:∀x∈rank,∃l,l < ns.length/\ns.getD l ""=x:=λx hx=>yH (hp.mem_iff.mp hx);have sub:∀(n l:Nat),l<=n->l < ns.length->∀y∈ak ds (ns.getD l ""),y∈ns:=by
  intro n;induction n with
  | zero =>intro l h1 h2 y hy;refine e1a1 ((P.b l h2 y).mp hy) λy' l9 q=>?_;clear q;refine e1a1 ((P.a l h2).2 y' l9) λe he rF=>?_;clear l9;obtain rfl:=rF;exact (Nat.not_lt_zero _ (cG he h1)).elim
  | succ n ih =>
    intro l h1 h2 y hy;refine e1a1 ((P.b l h2 y).mp hy) λy' l9 q=>?_;refine e1a1 ((P.a l h2).2 y' l9) λe he mo=>?_;clear l9;obtain rfl:=mo;clear hy;rcases q with rfl | q
    . exact uY (jt he h2)
    . exact ih e (pN he h1) (jt he h2) y q
 have tr:∀(n l:Nat),l<=n->l < ns.length->∀y∈ak ds (ns.getD l ""),∀z∈ak ds y,z∈ak ds (ns.getD l ""):=by
  intro n;induction n with
  | zero =>intro l h1 h2 y hy;refine e1a1 ((P.b l h2 y).mp hy) λy' l9 q=>?_;clear q;refine e1a1 ((P.a l h2).2 y' l9) λe he nO=>?_;clear l9;obtain rfl:=nO;exact (Nat.not_lt_zero _ (cG he h1)).elim
  | succ n ih =>
    intro l h1 h2 y hy z hz;refine e1a1 ((P.b l h2 y).mp hy) λy' l9 q=>?_;refine e1a1 ((P.a l h2).2 y' l9) λe he o9=>?_;obtain rfl:=o9;refine (P.b l h2 z).mpr (ae _ l9 (.inr ?_));clear hy;rcases q with rfl | q
    . exact hz
    . exact ih e (pN he h1) (jt he h2) y q z hz
 refine ⟨λx hx y hy=>?_,λx hx y hy z hz=>?_,λx hx y hy=>?_,λx hx y hy=>?_⟩
 . refine e1a1 (at_ x hx) λl hl o8=>?_;obtain rfl:=o8;exact (P.b l hl y).mpr (ae y hy (.inl rfl))
 . refine e1a1 (at_ x hx) λl hl o7=>?_;clear hx;obtain rfl:=o7;exact tr l l (bu _) hl y hy z hz
 . refine e1a1 (at_ x hx) λl hl o6=>?_;obtain rfl:=o6;refine e1a1 ((P.b l hl y).mp hy) λy' l9 q=>?_;rcases q with rfl | q
   . exact .inl l9
   . exact .inr (ae y' l9 q)
 . refine e1a1 (at_ x hx) λl hl o5=>?_;obtain rfl:=o5;exact hp.mem_iff.mpr (sub l l (bu _) hl y hy)
end
theorem yI {l:ag}(h:l[i]?=some x):l.take (i+1)=l.take i++[x]:=by simp only [List.take_add_one,h];rfl
theorem oA {T:Tab}:(bB T x).isSome=true↔x∈T.map (·.1) :=
 ⟨λh=>Classical.byContradiction λq=>(by replace h:=(s8 q)▸h;cases h),fT⟩
theorem A9 (ev:ag):∀i,(cn ev i).2=overIn ev i/\∀x,x∈(cn ev i).1.map (·.1)↔x∈ev.take i:=by
 intro i;induction i with
 | zero =>simp [cn,jm,fR]
 | succ i ih =>
   refine e0a1 ih λh1 h2=>?_;cases hx:ev[i]? with
   | none =>
     have e:ev.take (i+1)=ev.take i:=by refine (aq List.take_add_one)▸(aq hx)▸?_;simp
     obtain e':cn ev (i+1)=cn ev i:=by delta cn;rw [e]
     obtain eo:overIn ev (i+1)=overIn ev i:=by
      conv=>lhs;dsimp only [jm,fR]
      rw [hx]
     refine (aq e')▸(aq e)▸(aq eo)▸?_;exact ⟨h1,h2⟩
   | some x =>
     obtain eo:overIn ev (i+1)=if isIn (ev.take i) x then overIn ev i++[x] else overIn ev i:=by
      conv=>lhs;dsimp only [jm,fR]
      rw [hx]
     simp only [jO ev i x hx,eo,yI hx];delta cz;by_cases hm:x∈ev.take i
     . have q1:(bB (cn ev i).1 x).isSome=true:=oA.mpr ((h2 x).mpr hm);rw [if_pos q1,if_pos (iG.mpr hm),h1];refine ⟨rfl,λy=>?_⟩;rw [h2,List.mem_append,List.mem_singleton];exact ⟨.inl,λq=>q.elim id λe=>e▸hm⟩
     . have q1:¬(bB (cn ev i).1 x).isSome=true:=λq=>hm ((h2 x).mp (oA.mp q));rw [if_neg q1,if_neg (λq=>hm (iG.mp q))];refine ⟨h1,λy=>?_⟩;rw [kN (λm=>q1 (oA.mpr m)),List.map_append,List.mem_append,List.mem_append,h2];rfl
theorem Bc (ev:ag):overOf ev=(ev.foldl cz ([],[])).2:=by obtain this:=(A9 ev ev.length).1;delta overOf;refine this▸?_;unfold cn;rw [List.take_length]
theorem rB {l:ag}(h:y∈l.take j):l.idxOf y < j:=by obtain e:l=l.take j++l.drop j:=(List.take_append_drop j l).symm;refine rE e ?_;rw [List.idxOf_append,if_pos h];obtain this:=List.idxOf_lt_length_iff.mpr h;rw [List.length_take] at this;exact cG this (Nat.min_le_left ..)
theorem w9 {l:ag}(h:y∉l.take j):j<=l.idxOf y\/l.length<=l.idxOf y:=by refine Classical.byContradiction λq=>h ?_;obtain h1:l.idxOf y < l.length:=Ci q;refine List.mem_iff_getElem.mpr ⟨l.idxOf y,by simp only [List.length_take];exact Cj q,?_⟩;rw [List.getElem_take];exact List.getElem_idxOf h1
theorem G8 (over:ag)(nd:Tab):∀(l:ag) (T:Tab),l.Nodup->(∀z∈l,z∉T.map (·.1))->l.foldl (λd x=>df d x (gU over (ak nd x))) T=T++l.map λx=>(x,gU over (ak nd x)):=by
 intro l;induction l with
 | nil =>intro T _ _;simp
 | cons x l ih =>
   intro T hn h;refine e0a1 (List.nodup_cons.mp hn) λhx hl=>?_;rw [List.foldl_cons,kN (h x (.head _)),ih _ hl λz hz m=>?_]
   . simp
   . rw [List.map_append] at m
     (refine aN (bL m) (λq=>?_) (λq=>?_))
     . exact h z (.tail _ hz) q
     . obtain this:z=x:=by simpa using q
       exact hx (this▸hz)
section
variable {nd:Tab}{dr ns:ag}{t:Str->Nat}
theorem E9 (W:bA N dr t):overOf (zM N dr false)=(bt N dr false dr.length).dn:=by simp only [Bc];exact congrArg Prod.snd (rn W dr.length (bu _))
theorem Fb (W:bA N dr t):(kO N dr false).map (·.1)=(bt N dr false dr.length).dn:=by simp only [rp W,w0 W]
theorem G9 (W:bA (ak nd) dr t)(hj:j < dr.length)(hz:z∈jT (ak nd) dr false j):gU (bt (ak nd) dr false dr.length).dn (ak nd z)=cg (bt (ak nd) dr false j).dn:=by
 refine e0a2 (aL.mp hz) λq1 q2 q3=>?_;obtain L:=LI.run (best:=false) W dr.length (bu _);have hd:∀k,k<=dr.length->(bt (ak nd) dr false k).dn=(bt (ak nd) dr false dr.length).dn.take k:=λk hk=>uU W hk;obtain hlen:=L.len;obtain hM:(j:Int) - 1=KH ((ak nd z).map λy=>(((bt (ak nd) dr false dr.length).dn.idxOf y:Nat):Int)):=by
  refine zI ?_ ?_
  . cases j with
    | zero=>exact .head _
    | succ j =>
      refine e1a1 (oj W (Nat.lt_succ_self j) hj hz) λa ha zf=>?_;refine .tail _ (dm (ae a ha ?_));obtain h1:a∈(bt (ak nd) dr false dr.length).dn.take (j+1):=by refine (hd _ (pH hj))▸?_;exact q3 a ha
      obtain h2:=rB h1;rw [hd j (bF (bF hj))] at zf;obtain h3:=w9 zf;exact Cn hj h3 h2 hlen
  . intro a ha;rcases cu ha with rfl | ha
    . exact (Int.le.intro _ rfl)
    . refine e1a1 (dS ha) λy hy o1=>?_;refine o1▸?_;obtain h1:y∈(bt (ak nd) dr false dr.length).dn.take j:=by refine (hd _ (bX hj))▸?_;exact q3 y hy
      obtain this:=rB h1;exact (Int.le_sub_one_of_lt (Int.ofNat_lt.mpr this))
 delta gU;exact hM▸(aq (hd j (bX hj)))▸(aq (show (1+((j:Int) - 1)).toNat=j by exact (by simp +arith)))▸rfl
theorem Ha (W:bA (ak nd) dr t)(hn:ns.Nodup)(hp:dr.Perm ns):eM (kO (ak nd) dr false) (j6 (bt (ak nd) dr false dr.length).dn nd ns)=true:=by
 obtain e:j6 (bt (ak nd) dr false dr.length).dn nd ns=ns.map λx=>(x,gU (bt (ak nd) dr false dr.length).dn (ak nd x)):=by delta j6;rw [G8 _ _ ns [] hn (by simp)];rfl
 simp only [rq,e,pU W,fz];refine ⟨hp.length_eq,λp Dq=>?_⟩;refine e1a2 (uV Dq) λj hj hz e2=>?_;simp only [e2,<-G9 W hj hz];obtain hm:(p.1,gU (bt (ak nd) dr false dr.length).dn (ak nd p.1))∈ns.map λx=>(x,gU (bt (ak nd) dr false dr.length).dn (ak nd x)):=dm (ae p.1 (hp.mem_iff.mp (aL.mp hz).1) rfl);exact jl (p:=(p.1,_)) (by rw [List.map_map];simpa [Function.comp_def] using hn) hm
theorem ik (W:bA N dr t)(hj:j < dr.length)(hz:z∈jT N dr false j):ak (kO N dr false) z=cg (bt N dr false j).dn:=by delta ak;rw [zN W hj hz];rfl
theorem pX (W:bA N dr t)(hp:rank.Perm dr):bA (ak (kO N dr false)) rank (bt N dr false dr.length).dn.idxOf:=by
 obtain at_:∀x∈rank,∃j,j < dr.length/\x∈jT N dr false j:=λx hx=>fU W (hp.mem_iff.mp hx);refine ⟨hp.nodup_iff.mpr W.nd,λx hx=>?_,λx hx y hy=>?_,λx hx y hy=>?_⟩
 . refine e1a1 (at_ x hx) λj hj hz=>?_;simp only [ik W hj hz];exact (cM _).nodup_iff.mpr (LI.run W j (bX hj)).KS
 . refine e1a1 (at_ x hx) λj hj hz=>?_;rw [ik W hj hz,gu] at hy;obtain L:=LI.run (best:=false) W j (bX hj);exact hp.mem_iff.mpr (L.A4 y (L.xh y hy))
 . refine e1a1 (at_ x hx) λj hj hz=>?_;rw [ik W hj hz,gu,uU W (bX hj)] at hy;obtain h1:=rB hy;obtain L:=LI.run (best:=false) W j (bX hj);obtain kr:x∉(bt N dr false dr.length).dn.take j:=by refine (uU W (bX hj))▸?_;exact λm=>(aL.mp hz).2.1 (L.xh x m)
   obtain h2:=w9 kr;obtain this:=(LI.run (best:=false) W dr.length (bu _)).len;exact Cw hj h2 this h1
theorem Hb (W:bA N dr t)(hp:rank.Perm dr):lN (ak (kO N dr false)) rank (ak (kO N dr false)):=by
 obtain at_:∀x∈rank,∃j,j < dr.length/\x∈jT N dr false j:=λx hx=>fU W (hp.mem_iff.mp hx);refine ⟨λx hx y hy=>hy,λx hx y hy z hz=>?_,λx hx y hy=>.inl hy,λx hx y hy=>(pX W hp).sub x hx y hy⟩;refine e1a1 (at_ x hx) λj hj kr=>?_;refine e1a1 (at_ y ((pX W hp).sub x hx y hy)) λl hl l9=>?_;rw [ik W hj kr,gu] at hy ⊢;rw [ik W hl l9,gu] at hz;obtain L:=LI.run (best:=false) W j (bX hj);obtain hlj:l < j:=by
  (refine aN (Nat.lt_or_ge l j) (λq=>?_) (λq=>?_))
  . exact q
  . exact absurd (nE W q (bX hl) (L.xh y hy)) (aL.mp l9).2.1
 exact pS W (bX hlj) (bX hj) hz
theorem xb (W:bA N dr t):∀j,j < dr.length->∀z∈jT N dr false j,∀y,y∈(bt N dr false j).dn↔y∈ak (kO N dr false) z:=λj hj z hz y=>by rw [ik W hj hz,gu]
theorem Fc (W:bA N dr t)(hl:∀z,z∈l↔z∈dr):¬dP (ak (kO N dr false)) l/\¬gV (ak (kO N dr false)) l :=
 ⟨λh=>iH W (xb W) ((dP.congr hl λzz zz zz=>Iff.rfl).mp h),λh=>lO W (xb W) ((gV.congr hl λzz zz zz=>Iff.rfl).mp h)⟩
theorem Fd (W:bA N dr t)(hp:rank.Perm dr)(hs:rank.Pairwise λa b=>fq (ak (kO N dr false)) rank b<=fq (ak (kO N dr false)) rank a) :
 eM (kO (ak (kO N dr false)) rank false) (kO N dr false)=true:=by
 obtain W':=pX W hp;refine e0a1 (Fc W (l:=rank) λz=>hp.mem_iff) λn1 n2=>?_;refine (yA W' (D:=ak (kO N dr false)) (by exact (aq (pU W))▸(aq hp.length_eq)▸rfl) (λz hz=>?_) (λz hz=>?_) λz hz=>W'.rows z hz).mpr (rx W' (Hb W hp) hs n1 n2)
 . refine e1a1 (fU (best:=false) W (hp.mem_iff.mp hz)) λj hj Fo=>?_;exact (aq (zN W hj Fo))▸(aq (ik W hj Fo))▸rfl
 . refine e1a1 (fU (best:=false) W (hp.mem_iff.mp hz)) λj hj Fo=>?_;refine rE (ik W hj Fo) ?_;exact oR (cM _)
end
theorem jn (a b:Str):chars (a++b)=chars a++chars b:=by show (a.cps++b.cps).toList.map _=a.cps.toList.map _++b.cps.toList.map _;exact (aq Array.toList_append)▸(aq List.map_append)▸rfl
theorem empty_app (x:Str):Str.ofString ""++x=x:=by show (⟨(Str.ofString "").cps++x.cps⟩:Str)=x;refine rE (show (Str.ofString "").cps=#[] from rfl) ?_;simp
theorem Fe (hx:(x==Str.ofString "\n")=false)(r:ag)(l:Int):bJ .top (Str.ofString "\\"::x::Str.ofString "\n"::r) l ""=(x,r,l+1):=by
 have h:bJ .top (Str.ofString "\\"::x::Str.ofString "\n"::r) l ""=(Str.ofString ""++x,r,nl "\n" (nl x (nl "\\" l))):=by kernel_rfl
 rw [h,empty_app,show nl x (nl "\\" l)=nl "\\" l from by delta nl;exact if_neg (hx▸Bool.false_ne_true)];kernel_rfl
theorem Ff (hx:(x==Str.ofString "\n")=false)(h1:(x==Str.ofString "\"")=false)(h2:(x==Str.ofString "\\")=false)(r:ag)(l:Int):bJ .top (Str.ofString "\""::x::Str.ofString "\""::r) l ""=(x,r,l):=by
 have h:bJ .top (Str.ofString "\""::x::Str.ofString "\""::r) l ""=if x==Str.ofString "\"" then (Str.ofString "",Str.ofString "\""::r,nl x (nl "\"" l)) else if x==Str.ofString "\\" then bJ .r8 (Str.ofString "\""::r) (nl x (nl "\"" l)) "" else (Str.ofString ""++x,r,nl "\"" (nl x (nl "\"" l))):=by kernel_rfl
 rw [h,h1,h2,empty_app,show nl x (nl "\"" l)=nl "\"" l from by delta nl;exact if_neg (hx▸Bool.false_ne_true)];kernel_rfl
theorem Be (hx:(x==Str.ofString "\n")=false)(r:ag)(l:Int):bJ .top (Str.ofString "\""::Str.ofString "\\"::x::Str.ofString "\""::r) l ""=(x,r,l):=by
 have h:bJ .top (Str.ofString "\""::Str.ofString "\\"::x::Str.ofString "\""::r) l ""=(Str.ofString ""++x,r,nl "\"" (nl x (nl "\\" (nl "\"" l)))):=by kernel_rfl
 rw [h,empty_app,show nl x (nl "\\" (nl "\"" l))=nl "\\" (nl "\"" l) from by delta nl;exact if_neg (hx▸Bool.false_ne_true)];kernel_rfl
noncomputable def jo (p:Bool×Str):Str :=
 if p.1 then (Str.ofString "\\"++p.2)++Str.ofString "\n"
 else (Str.ofString "\""++(if oU "\"\\" p.2 then Str.ofString "\\"++p.2 else p.2))++Str.ofString "\""
theorem Bf:chars (Str.ofString "\\")=[Str.ofString "\\"]/\chars (Str.ofString "\"")=[Str.ofString "\""]/\chars (Str.ofString "\n")=[Str.ofString "\n"]:=by decide +kernel
structure Fg (x:Str):Prop where
 one:chars x=[x]
 ne:(x==Str.ofString "")=false
 nl:(x==Str.ofString "\n")=false
 z0:oU "\"\\" x=true\/((x==Str.ofString "\"")=false/\(x==Str.ofString "\\")=false/\oU "\"\\" x=false)
theorem Fh:(chars de).all (λx=>(chars x==[x])&&!(x==Str.ofString "")&&!(x==Str.ofString "\n")&&(oU "\"\\" x||(!(x==Str.ofString "\"")&&!(x==Str.ofString "\\")&&!oU "\"\\" x)))=true:=by decide +kernel
theorem It (h:x∈chars de):Fg x:=by obtain this:=List.all_eq_true.mp Fh x h;simp only [cZ,Bool.or_eq_true,Bool.not_eq_true',beq_iff_eq] at this;refine e0a1 this λPh h4=>?_;refine e0a1 Ph λPi h3=>?_;clear Ph;refine e0a1 Pi λh1 h2=>?_;clear Pi;exact ⟨h1,h2,h3,h4.imp id λq=>(aG q.1.1 q.1.2 q.2)⟩
theorem Bg (h:Fg p.2)(r:ag)(l:Int):bJ .top (chars (jo p)++r) l ""=(p.2,r,if p.1 then l+1 else l):=by
 refine e0a2 Bf λc1 c2 c3=>?_;obtain ⟨b,x⟩:=p;obtain ⟨h1,h2,h3,h4⟩:=h;delta jo;cases b with
 | true =>simp only [if_true,jn,c1,c3,h1,List.cons_append,List.nil_append];exact Fe h3 r l
 | false =>
   (refine aN h4 (λq=>?_) (λJ5=>?_);rotate_left;refine e0a2 J5 λq1 q2 q3=>?_;rotate_right)
   . simp only [dQ,if_false,q,if_true,jn,c1,c2,h1,List.cons_append,List.nil_append];exact Be h3 r l
   . simp only [dQ,if_false,q3,jn,c1,c2,h1,List.cons_append,List.nil_append];exact Ff h3 q1 q2 r l
theorem td:∀(fl:List (Bool×Str)) (n:Nat) (l:Int),(∀p∈fl,Fg p.2)->fl.length < n->sa n (fl.flatMap λp=>chars (jo p)) l=some (fl.map (·.2),l+(fl.filter (·.1)).length)
 | [],n+1,l,_,_=>by obtain this:bJ .top [] l ""=((Str.ofString "",[],l):Str×List Str×Int):=rfl;simp only [List.flatMap_nil,EP,this];simp
 | p::fl,n+1,l,h,hn=>by
   obtain ih:=td fl n (if p.1 then l+1 else l) (λq hq=>h q (.tail _ hq)) (by simpa using hn);obtain hp:=h p (.head _);refine rE List.flatMap_cons ?_;dsimp only [EP];rw [Bg hp]
   skip
   rw [show (p.2==("":Str))=false from hp.ne,ih];dsimp only [dQ,if_false,Option.map_some,List.map_cons];congr 2;cases hb:p.1 with
   | true=>simp [hb];exact By
   | false=>simp [hb]
noncomputable def flagsOf (ev:ag)(i:Nat):List (Bool×Str):=(List.range i).map λj=>(isIn (ev.take j) (ev.getD j ""),ev.getD j "")
theorem rC (ev:ag)(i:Nat):flagsOf ev (i+1)=flagsOf ev i++[(isIn (ev.take i) (ev.getD i ""),ev.getD i "")]:=by delta flagsOf;rw [List.range_succ,List.map_append];rfl
theorem yJ (ev:ag):∀i,chars (textSt ev i)=(flagsOf ev i).flatMap λp=>chars (jo p):=by
 intro i;induction i with
 | zero =>
   show chars (Str.ofString "")=[]
   decide +kernel
 | succ i ih =>
   rw [rC,List.flatMap_append];refine rE ih ?_;show chars (iD ev (textSt ev i) i (ev.getD i ""))=_;delta iD;by_cases hb:(ev.take i).any (·==ev.getD i "")=true
   . rw [if_pos hb,jn];congr 1;have:isIn (ev.take i) (ev.getD i "")=true:=hb;simp only [List.flatMap_cons,List.flatMap_nil,List.append_nil,jo,this,if_true]
   . rw [if_neg hb,jn];congr 1;obtain this:isIn (ev.take i) (ev.getD i "")=false:=Bool.eq_false_iff.mpr hb;simp only [List.flatMap_cons,List.flatMap_nil,List.append_nil,jo,this,dQ,if_false]
theorem te (ev:ag):(flagsOf ev ev.length).map (·.2)=ev:=by unfold flagsOf;rw [List.map_map];exact ry
theorem Bh (ev:ag):∀i,i<=ev.length->((flagsOf ev i).filter (·.1)).length=(overIn ev i).length:=by
 intro i;induction i with
 | zero =>intro _;exact rfl
 | succ i ih =>
   intro hi;obtain hx:ev[i]?=some (ev.getD i ""):=by rw [fW,cp (jr hi)];rfl
   obtain eo:overIn ev (i+1)=if isIn (ev.take i) (ev.getD i "") then overIn ev i++[ev.getD i ""] else overIn ev i:=by
    conv=>lhs;dsimp only [jm,fR]
    rw [hx]
   simp only [rC,List.filter_append,List.length_append,ih (arith1 hi),eo];cases hb:isIn (ev.take i) (ev.getD i "") <;> simp
theorem yK (ev:ag)(h:∀x∈ev,x∈chars de)(hl:ev.length < 100):sa 100 (chars (textSt ev ev.length)) 1=some (ev,1+((overOf ev).length:Int)):=by
 obtain hf:(flagsOf ev ev.length).length < 100:=by delta flagsOf;simpa using hl
 rw [yJ,td _ _ _ (λp hp=>?_) hf,te,Bh ev _ (bu _)]
 . rfl
 . refine It (h _ ?_);obtain this:p.2∈(flagsOf ev ev.length).map (·.2):=dm (ae p hp rfl);rw [te] at this;exact this
theorem ph {α:Type}:∀(l:List α) (i:Nat) (h:i < l.length),(l[i]::l.eraseIdx i).Perm l
 | a::l,0,_=>List.Perm.refl _
 | a::l,i+1,h=>by
   have hi:i < l.length:=by simpa using h
   obtain this:=ph l i hi;exact (List.Perm.swap a (l[i]'hi) _).trans (this.cons a)
theorem yL (l:ag)(hl:l.length=5)(num:Int):∀i,i<=5->((bO l num i).2.1++(bO l num i).1).Perm l:=by
 intro i;induction i with
 | zero =>intro _;simp [nX,nY]
 | succ i ih =>
   intro h;refine e0a1 (kF l hl num i (yN h)) λh1 h2=>?_;obtain hs:(0:Int) < 5+i*-1:=yQ h;obtain hj:((bO l num i).2.2.fmod (5+i*-1)).toNat < (bO l num i).1.length:=by obtain this:=Int.fmod_lt_of_pos (bO l num i).2.2 hs;exact BO h this h1
   obtain ih:=ih (yN h);refine List.Perm.trans ?_ ih;show (((bO l num i).2.1++[(bO l num i).1.getD ((bO l num i).2.2.fmod (5+i*-1)).toNat ""])++(bO l num i).1.eraseIdx ((bO l num i).2.2.fmod (5+i*-1)).toNat).Perm _;rw [List.append_assoc];refine List.Perm.append_left _ ?_;rw [fW,cp hj];exact ph _ _ hj
theorem names5:(chars de).length=5/\(chars de).Nodup:=by decide +kernel
theorem jV (k:Int):(orderOf k).Perm (chars de):=by obtain h:=yL (chars de) names5.1 k 5 (bu _);obtain h2:=(kF (chars de) names5.1 k 5 (bu _)).1;rw [List.eq_nil_of_length_eq_zero (show (bO (chars de) k 5).1.length=0 by assumption),List.append_nil] at h;exact h
theorem Fi (W:bA N rank t):∀k,k<=rank.length->∀x∈(bt N rank best k).ev,x∈rank:=by
 intro k;induction k with
 | zero =>intro _ x h;cases h
 | succ k ih =>
   intro hk x h;refine e2a4 (eV (best:=best) W (k:=k) (jr hk)) λy p zz e zz zz hy=>?_;rw [e] at h;rcases bL h with q | q
   . rcases bL q with q | q
     . exact ih (arith1 hk) x q
     . exact (aL.mp q).1
   . simp only [bp q];exact hy
theorem uZ (W:bA N rank t):(zM N rank best).length=rank.length+rank.length:=by obtain L:=LI.run (best:=best) W rank.length (bu _);exact (aq L.xg)▸(aq (yz W))▸(aq L.len)▸rfl
theorem lP (h:ou l):cg l=l :=
 i5 (cM l) (fJ l) (h.imp λ{a b} q=>by
  simp only [nF];cases e:slt b a with
  | false=>rfl
  | true=>have:=ot q e;rw [jU] at this;cases this)
theorem mn (h:ou l):l.Nodup:=h.imp λ{a b} q e=>by rw [e,jU] at q;cases q
theorem Bi (Bd:ns.Perm (chars de))(Kv:dr.Perm (chars de))(code:Int) :
 O8 ns dr (aS ns code 5).1 (aS ns code 5).2.1 (zM (ak (aS ns code 5).1) (cj (aS ns code 5).2.1 ns) true) (zM (ak (aS ns code 5).1) (cj (aS ns code 5).2.1 ns) false) (zM (ak (aS ns code 5).1) dr false)
  (zM (ak (kO (ak (aS ns code 5).1) dr false)) (cj (kO (ak (aS ns code 5).1) dr false) dr) false):=by
 refine e0a1 names5 λn5 nn=>?_;have hn:ns.Nodup:=Bd.nodup_iff.mpr nn;have hl:ns.length=5:=Bd.length_eq.trans n5;have zw:dr.length=5:=Kv.length_eq.trans n5;have P:=tc (code:=code) hn 5 (Nat.le_of_eq hl.symm);generalize (aS ns code 5).1=nd at P;generalize (aS ns code 5).2.1=ds at P;rw [<-hl] at P;have k1:nd.map (·.1)=ns:=by rw [P.k1,List.take_length]
 have k2:ds.map (·.1)=ns:=by rw [P.k2,List.take_length]
 refine e0a1 (rz ds ns hl) λr1 r2=>?_;have ul:(cj ds ns).length=5:=r1.length_eq.trans hl;have WR:=P.se hn r1;have VR:=P.down hn r1;have pd:dr.Perm ns:=Kv.trans Bd.symm;have WD:=P.se hn pd;have YE:(cj ds ns).Pairwise λa b=>fq (ak ds) (cj ds ns) b<=fq (ak ds) (cj ds ns) a:=r2.imp λ{a b} q=>by rw [lB r1,lB r1];exact q
 have s0:∀z∈ns,ou (ak ds z):=λz hz=>by refine e1a1 (yH hz) λl v0 o1=>?_;clear hz;obtain rfl:=o1;exact P.c l v0
 have zQ:∀{T:Tab},T.map (·.1)=ns->∀z∈ns,bB T z=some (ak T z):=λ{T} e z hz=>by refine e1a0 (Option.isSome_iff_exists.mp (fT (T:=T) (z:=z) (by rw [e];exact hz))) λrow q=>?_;unfold ak;rw [q];rfl
 have Qk:ds.length=5:=by rw [<-fz (f:=(·.1)),k2,hl]
 have Fa:∀z,z∈cj ds ns↔z∈ns:=λz=>r1.mem_iff;refine e0a1 (rA ds Qk (by rw [k2];exact hn) λz hz=>s0 z (by rw [k2] at hz;exact hz)) λj1 j2=>?_;rw [k2] at j1 j2;have c1:dP (ak ds) ns↔dP (ak ds) (cj ds ns):=dP.congr (λz=>(Fa z).symm) λzz zz zz=>Iff.rfl;have c2:gV (ak ds) ns↔gV (ak ds) (cj ds ns):=gV.congr (λz=>(Fa z).symm) λzz zz zz=>Iff.rfl;have K0:∀z∈ns,(ak ds z).length < 100:=λz hz=>by have:=dc (r:=ns) (mn (s0 z hz)) λy hy=>(Fa y).mp (VR.sub z ((Fa z).mpr hz) y hy);exact (pj (hl▸this:_<=5) rfl)
 have eqB:=yA (best:=true) WR (d:=ds) (D:=ak ds) (by rw [Qk,ul]) (λz hz=>zQ k2 z ((Fa z).mp hz)) (λz hz=>lP (s0 z ((Fa z).mp hz))) λz hz=>mn (s0 z ((Fa z).mp hz));have eqL:=yA (best:=false) WR (d:=ds) (D:=ak ds) (by rw [Qk,ul]) (λz hz=>zQ k2 z ((Fa z).mp hz)) (λz hz=>lP (s0 z ((Fa z).mp hz))) λz hz=>mn (s0 z ((Fa z).mp hz));have lW:=E9 WD;have YF:∀x∈zM (ak nd) dr false,x∈chars de:=λx hx=>Kv.mem_iff.mp (Fi WD _ (bu _) x hx);have K1:=uZ (best:=false) WD;have one:∀x∈zM (ak nd) dr false,x.length=1:=λx hx=>by have:=congrArg List.length (It (YF x hx)).one;rw [jI] at this;exact this
 have dnL:=(LI.run (best:=false) WD dr.length (bu _)).len;have YG:=Fb WD;have Ql:∀z,z∈(kO (ak nd) dr false).map (·.1)↔z∈dr:=λz=>by rw [YG];have L:=LI.run (best:=false) WD dr.length (bu _);exact ⟨λh=>L.A4 z (L.xh z h),λh=>pT WD h⟩
 have Iu:(kO (ak nd) dr false).length=5:=(pU WD).trans zw;refine e0a1 (rz (kO (ak nd) dr false) dr zw) λs1 s2=>?_;have Wm:(cj (kO (ak nd) dr false) dr).length=5:=s1.length_eq.trans zw;have WS:=pX WD s1;have s2':(cj (kO (ak nd) dr false) dr).Pairwise λa b=>fq (ak (kO (ak nd) dr false)) (cj (kO (ak nd) dr false) dr) b<=fq (ak (kO (ak nd) dr false)) (cj (kO (ak nd) dr false) dr) a:=s2.imp λ{a b} q=>by rw [lB s1,lB s1];exact q
 obtain ⟨t1,t2⟩:=rA (kO (ak nd) dr false) Iu (oq WD) λz hz=>by refine e1a1 (fU (best:=false) WD ((Ql z).mp hz)) λj hj Fo=>?_;rw [ik WD hj Fo];exact ml (LI.run WD j (bX hj)).KS
 refine e0a1 (Fc WD Ql) λu1 u2=>?_;refine ⟨hl,zw,⟨Qk,by rw [k2];exact hn,λp hp=>?_⟩,λy hy=>fT (by rw [k2];exact hy),uQ.of WR (ju ul) λx hx=>fT (by rw [k1];exact (Fa x).mp hx),uT WR (ju ul),?_,uT WR (ju ul),?_,?_,uQ.of WD (ju zw) λx hx=>fT (by rw [k1];exact pd.mem_iff.mp hx),uT WD (ju zw),?_,one,?_,?_,?_,λx hx=>?_,?_,?_,λy hy=>?_,?_,?_,?_,?_,?_⟩
 . have:=jl (d:=ds) (by rw [k2];exact hn) hp;have h2:=zQ k2 p.1 (by rw [<-k2];exact dm (ae p hp rfl));rw [this] at h2;rw [bo h2];exact K0 p.1 (by rw [<-k2];exact dm (ae p hp rfl))
 . rw [uZ WR];exact pE ul
 . rw [uZ WR];exact pE ul
 . rw [dI WR,dI WR];have b1:=eqB.trans (E4 WR VR YE);have b2:=eqL.trans (E6 WR VR YE);rw [<-c1] at b1;rw [<-c1,<-c2] at b2;rw [<-j1] at b1;rw [<-j1,<-j2] at b2;refine ⟨?_,?_⟩
   . rw [Bool.eq_iff_iff,b1];simp
   . rw [Bool.eq_iff_iff,b2];simp
 . rw [K1];exact pE zw
 . have:=qL (zM (ak nd) dr false) one _ (bu _);have h2:(textSt (zM (ak nd) dr false) (zM (ak nd) dr false).length).cps.size=(textSt (zM (ak nd) dr false) (zM (ak nd) dr false).length).length:=rfl;rw [h2];exact Ce zw K1 this
 . have:=yK _ YF (by rw [K1];exact BJ zw);rw [lW,dnL,zw] at this;exact this
 . rw [dI WD,lW];exact YG
 . refine (aH _ (zQ k1 x hx) ?_ (λy hy=>?_))
   . exact aV (dc (WD.rows x (pd.mem_iff.mpr hx)) (WD.sub x (pd.mem_iff.mpr hx))) (aq zw▸bF (Nat.le_add_left (Nat.succ 5) 4))
   . rw [lW];exact pT WD (WD.sub x (pd.mem_iff.mpr hx) y hy)
 . refine (aq (dI WD))▸(aq lW)▸?_;exact Ha WD hn pd
 . refine rE (dI WD) ?_;refine ⟨Iu,oq WD,λp hp=>?_⟩;refine e1a2 (uV hp) λj hj zz e=>?_;rw [e,(cM _).length_eq,(LI.run WD j (bX hj)).len];exact (hZ (zw▸hj:_ < 5) rfl)
 . refine rE (dI WD) ?_;exact fT ((Ql y).mpr hy)
 . refine rE (dI WD) ?_;have w1:(bD (kO (ak nd) dr false)).1=false:=Bool.eq_false_iff.mpr λq=>u1 (t1.mp q);have w2:(bD (kO (ak nd) dr false)).2=false:=Bool.eq_false_iff.mpr λq=>u2 (t2.mp q);exact Prod.ext w1 w2
 . refine rE (dI WD) ?_;exact uQ.of WS (ju Wm) λx hx=>fT ((Ql x).mpr (s1.mem_iff.mp hx))
 . refine rE (dI WD) ?_;exact uT WS (ju Wm)
 . rw [uZ WS];exact pE Wm
 . refine (aq (dI WS))▸(aq (dI WD))▸?_;exact Fd WD s1 s2'
theorem Fj (Bd:ns.Perm (chars de))(code:Int):∀i,i<=5->∀j,j < i->(bB (aS ns code i).2.1 (ns.getD j "")).isSome=true:=λi hi j hj=>by refine e0a1 names5 λn5 nn=>?_;obtain hn:ns.Nodup:=Bd.nodup_iff.mpr nn;obtain hl:ns.length=5:=Bd.length_eq.trans n5;obtain P:=tc (code:=code) hn i (aq hl▸hi);exact fT (by rw [P.k2];exact (w7 hn (aq hl▸hi) (hl▸cG hj hi)).mpr hj)
theorem Fl (Gx:KO c mg mb Kf a l b)(hf:eG c fa mi .none)(sc:List Int)(oK:sc.length<=63)(n:Nat) :
 bz c (n+8) (.ref fa) [.lst (sc.map .int)] [] (λv zz=>v=.bool true) :=
 KR Gx hf sc oK _ _ _ _ (Fj (jV _) _) (Bi (jV _) (jV _) _) n
end Mine.Internal
open PySem PySem.W PyProof.Rows
set_option maxHeartbeats 8000000
namespace Mine.Internal
noncomputable def vS (x:String)(t:Nat):Value:=.str (Str.ofString x) t
noncomputable def dE (P:Params)(x:String)(t:Nat)(v:Value):DictEntry:={hash:=PyData.keyHash P (Str.ofString x),key:=vS x t,val:=v}
noncomputable def fO (f:kE)(n q:String)(g:Addr)(m:String)(t:Nat)(c:Addr)(dv:Value):Obj:={cls:=.type "function",data:=.func {name:=Str.ofString n,qualname:=Str.ofString q,params:=f.params,body:=.stmts f.body,scope:=f.scope,globals:=g,closure:=[],defaults:=dv,kwdefaults:=.none,pyModule:=vS m t,code:=.ref c}}
noncomputable def cO (a:Nat)(n q:String)(t:Nat)(l k f:Int)(u:Nat):Obj:={cls:=.type "code",data:=.fields #[vS n t,vS q (t+1),vS "/claim/cut.py" (t+2),.int l 0,.int k 0,.int 0 0,.int 0 0,.int f 0,.ref (a - 5),.bool true,.int 181 0,.ref (a - 4),.none,.ref (a - 3),.ref (a - 2),.ref (a - 1),.int u 0,.int l 0,vS "/claim/cut.py" (u+1)]}
noncomputable def cN (a:Nat)(n q:String)(t:Nat)(l k f:Int)(u:Nat):Obj:={cls:=.type "code",data:=.fields #[vS n t,vS q (t+1),vS "/claim/cut.py" (t+2),.int l 0,.int k 0,.int 0 0,.int 0 0,.int f 0,.ref (a - 3),.bool true,.int 181 0,.ref (a - 2),.none,.none,.none,.ref (a - 1),.int u 0,.int l 0,vS "/claim/cut.py" (u+1)]}
noncomputable def rK (P:Params):Frag:=[
 (3,{cls:=.type "dict",data:=.dict #[dE P "__name__" 165 (vS "law_oc0219_01" 452),dE P "__doc__" 166 .none,dE P "__package__" 167 .none,dE P "__loader__" 168 (.builtin "__main__.__loader__#opaque"),dE P "__spec__" 169 .none,dE P "__annotations__" 170 (.ref 6),dE P "__builtins__" 171 (.ref 4),dE P "__file__" 173 (vS "/claim/cut.py" 172),dE P "__cached__" 174 .none,dE P "_wall" 193 (.ref 21),dE P "_netrclex" 253 (.ref 59),dE P "_NODE_OUT" 258 (.int (-1) 257),dE P "_NODE_DONE" 261 (.int (-2) 260),dE P "_NodeInfo" 298 (.ref 82),dE P "CycleError" 316 (.ref 97),dE P "TopologicalSorter" 435 (.ref 179),dE P "sorted_list_difference" 451 (.ref 190),dE P "_law_lexer" 463 (.ref 197),dE P "_law_order" 474 (.ref 204),dE P "_law_plan" 488 (.ref 211),dE P "_law_rank" 498 (.ref 218),dE P "_law_run" 504 (.ref 223),dE P "_law_shown" 514 (.ref 230),dE P "_law_judged" 520 (.ref 235),dE P "_law_text" 530 (.ref 242),dE P "_law_words" 540 (.ref 249),dE P "law" 546 (.ref 254)] 27}),
 (20,cO 20 "_wall" "_wall" 187 1 1 3 191),
 (21,fO (dg iC 0) "_wall" "_wall" 3 "__main__" 164 20 .none),
 (34,cO 34 "__init__" "_netrclex.__init__" 208 7 2 3 213),
 (35,fO (uG) "__init__" "_netrclex.__init__" 3 "cpy313.netrc" 194 34 .none),
 (41,cO 41 "_read_char" "_netrclex._read_char" 216 13 1 3 221),
 (42,fO (ye) "_read_char" "_netrclex._read_char" 3 "cpy313.netrc" 194 41 .none),
 (48,cO 48 "get_token" "_netrclex.get_token" 224 19 1 3 231),
 (49,fO (zD) "get_token" "_netrclex.get_token" 3 "cpy313.netrc" 194 48 .none),
 (55,cO 55 "push_token" "_netrclex.push_token" 234 46 2 3 239),
 (56,fO (yf) "push_token" "_netrclex.push_token" 3 "cpy313.netrc" 194 55 .none),
 (58,{cls:=.type "dict",data:=.dict #[dE P "__module__" 203 (vS "cpy313.netrc" 194),dE P "__firstlineno__" 207 (.int 5 206),dE P "__init__" 215 (.ref 35),dE P "_read_char" 223 (.ref 42),dE P "get_token" 233 (.ref 49),dE P "push_token" 241 (.ref 56),dE P "__static_attributes__" 246 (.ref 57),dE P "__dict__" 248 (.ref 60),dE P "__weakref__" 250 (.ref 61),dE P "__doc__" 251 .none] 4}),
 (59,{cls:=.type "type",data:=.cls {name:=Str.ofString "_netrclex",bases:=[.type "object"],mro:=[.ref 59,.type "object"],ns:=58,qualname:=Str.ofString "_netrclex"},slots:=#[none,none,some (vS "_netrclex" 196),some (vS "_netrclex" 204),some (.builtin "object.__new__"),some (.bool true)]}),
 (60,{cls:=.type "getset_descriptor",data:=.fields #[vS "__dict__" 247,.ref 59,.builtin "function.__dict__",.builtin "function.__dict__#set"]}),
 (61,{cls:=.type "getset_descriptor",data:=.fields #[vS "__weakref__" 249,.ref 59,.builtin "ExceptionGroup.__weakref__",.none]}),
 (77,cO 77 "__init__" "_NodeInfo.__init__" 278 54 2 3 283),
 (78,fO (uC) "__init__" "_NodeInfo.__init__" 3 "cpy313.graphlib" 254 77 .none),
 (81,{cls:=.type "dict",data:=.dict #[dE P "__module__" 269 (vS "cpy313.graphlib" 254),dE P "__firstlineno__" 273 (.int 51 272),dE P "__slots__" 277 (.ref 71),dE P "__init__" 285 (.ref 78),dE P "__static_attributes__" 289 (.ref 79),dE P "node" 291 (.ref 83),dE P "npredecessors" 293 (.ref 84),dE P "successors" 295 (.ref 85),dE P "__doc__" 296 .none] 5}),
 (82,{cls:=.type "type",data:=.cls {name:=Str.ofString "_NodeInfo",bases:=[.type "object"],mro:=[.ref 82,.type "object"],ns:=81,qualname:=Str.ofString "_NodeInfo",hasDict:=false,slotNames:=[Str.ofString "node",Str.ofString "npredecessors",Str.ofString "successors"]},slots:=#[none,none,some (vS "_NodeInfo" 262),some (vS "_NodeInfo" 270),some (.builtin "object.__new__"),some (.bool false)]}),
 (83,{cls:=.type "member_descriptor",data:=.fields #[vS "node" 290,.ref 82,.builtin "proto.slot",.builtin "proto.slot#set",.int 2 0]}),
 (84,{cls:=.type "member_descriptor",data:=.fields #[vS "npredecessors" 292,.ref 82,.builtin "proto.slot",.builtin "proto.slot#set",.int 1 0]}),
 (85,{cls:=.type "member_descriptor",data:=.fields #[vS "successors" 294,.ref 82,.builtin "proto.slot",.builtin "proto.slot#set",.int 0 0]}),
 (96,{cls:=.type "dict",data:=.dict #[dE P "__module__" 306 (vS "cpy313.graphlib" 254),dE P "__firstlineno__" 310 (.int 58 309),dE P "__static_attributes__" 311 (.ref 95),dE P "__weakref__" 313 (.ref 98),dE P "__doc__" 314 .none] 3}),
 (97,{cls:=.type "type",data:=.cls {name:=Str.ofString "CycleError",bases:=[.type "ValueError"],mro:=[.ref 97,.type "ValueError",.type "Exception",.type "BaseException",.type "object"],ns:=96,qualname:=Str.ofString "CycleError"},slots:=#[some (.ref 88),none,some (vS "CycleError" 299),some (vS "CycleError" 307),some (.builtin "ValueError.__new__"),some (.bool true)]}),
 (98,{cls:=.type "getset_descriptor",data:=.fields #[vS "__weakref__" 312,.ref 97,.builtin "ExceptionGroup.__weakref__",.none]}),
 (108,{cls:=.type "tuple",data:=.seq #[.none]}),
 (114,cO 114 "__init__" "TopologicalSorter.__init__" 329 62 2 3 336),
 (115,fO (pR) "__init__" "TopologicalSorter.__init__" 3 "cpy313.graphlib" 254 114 (.ref 108)),
 (121,cO 121 "_get_nodeinfo" "TopologicalSorter._get_nodeinfo" 339 71 2 3 345),
 (122,fO (xU) "_get_nodeinfo" "TopologicalSorter._get_nodeinfo" 3 "cpy313.graphlib" 254 121 .none),
 (128,cO 128 "add" "TopologicalSorter.add" 348 76 2 7 357),
 (129,fO (wu) "add" "TopologicalSorter.add" 3 "cpy313.graphlib" 254 128 .none),
 (133,cN 133 "prepare" "TopologicalSorter.prepare" 360 85 1 3 363),
 (134,fO (uA) "prepare" "TopologicalSorter.prepare" 3 "cpy313.graphlib" 254 133 .none),
 (140,cO 140 "get_ready" "TopologicalSorter.get_ready" 366 93 1 3 373),
 (141,fO (uB) "get_ready" "TopologicalSorter.get_ready" 3 "cpy313.graphlib" 254 140 .none),
 (147,cO 147 "is_active" "TopologicalSorter.is_active" 376 104 1 3 380),
 (148,fO (qP) "is_active" "TopologicalSorter.is_active" 3 "cpy313.graphlib" 254 147 .none),
 (154,cO 154 "__bool__" "TopologicalSorter.__bool__" 383 109 1 3 387),
 (155,fO (dg gA 6) "__bool__" "TopologicalSorter.__bool__" 3 "cpy313.graphlib" 254 154 .none),
 (161,cO 161 "done" "TopologicalSorter.done" 390 112 1 7 401),
 (162,fO (xV) "done" "TopologicalSorter.done" 3 "cpy313.graphlib" 254 161 .none),
 (168,cO 168 "_find_cycle" "TopologicalSorter._find_cycle" 404 135 1 3 414),
 (169,fO (nr) "_find_cycle" "TopologicalSorter._find_cycle" 3 "cpy313.graphlib" 254 168 .none),
 (175,cO 175 "static_order" "TopologicalSorter.static_order" 417 164 1 3 421),
 (176,fO (dg gA 9) "static_order" "TopologicalSorter.static_order" 3 "cpy313.graphlib" 254 175 .none),
 (178,{cls:=.type "dict",data:=.dict #[dE P "__module__" 324 (vS "cpy313.graphlib" 254),dE P "__firstlineno__" 328 (.int 60 327),dE P "__init__" 338 (.ref 115),dE P "_get_nodeinfo" 347 (.ref 122),dE P "add" 359 (.ref 129),dE P "prepare" 365 (.ref 134),dE P "get_ready" 375 (.ref 141),dE P "is_active" 382 (.ref 148),dE P "__bool__" 389 (.ref 155),dE P "done" 403 (.ref 162),dE P "_find_cycle" 416 (.ref 169),dE P "static_order" 423 (.ref 176),dE P "__static_attributes__" 428 (.ref 177),dE P "__dict__" 430 (.ref 180),dE P "__weakref__" 432 (.ref 181),dE P "__doc__" 433 .none] 4}),
 (179,{cls:=.type "type",data:=.cls {name:=Str.ofString "TopologicalSorter",bases:=[.type "object"],mro:=[.ref 179,.type "object"],ns:=178,qualname:=Str.ofString "TopologicalSorter"},slots:=#[none,none,some (vS "TopologicalSorter" 317),some (vS "TopologicalSorter" 325),some (.builtin "object.__new__"),some (.bool true)]}),
 (180,{cls:=.type "getset_descriptor",data:=.fields #[vS "__dict__" 429,.ref 179,.builtin "function.__dict__",.builtin "function.__dict__#set"]}),
 (181,{cls:=.type "getset_descriptor",data:=.fields #[vS "__weakref__" 431,.ref 179,.builtin "ExceptionGroup.__weakref__",.none]}),
 (189,cO 189 "sorted_list_difference" "sorted_list_difference" 438 167 2 3 449),
 (190,fO (Ax) "sorted_list_difference" "sorted_list_difference" 3 "cpy313.unittest.util" 436 189 .none),
 (196,cO 196 "_law_lexer" "_law_lexer" 454 200 1 3 461),
 (197,fO (ma) "_law_lexer" "_law_lexer" 3 "law_oc0219_01" 452 196 .none),
 (203,cO 203 "_law_order" "_law_order" 464 208 2 3 472),
 (204,fO (uy) "_law_order" "_law_order" 3 "law_oc0219_01" 452 203 .none),
 (210,cO 210 "_law_plan" "_law_plan" 475 214 2 3 486),
 (211,fO (zx) "_law_plan" "_law_plan" 3 "law_oc0219_01" 452 210 .none),
 (217,cO 217 "_law_rank" "_law_rank" 489 226 2 3 496),
 (218,fO (sW) "_law_rank" "_law_rank" 3 "law_oc0219_01" 452 217 .none),
 (222,cN 222 "_law_run" "_law_run" 499 228 3 3 502),
 (223,fO (qY) "_law_run" "_law_run" 3 "law_oc0219_01" 452 222 .none),
 (229,cO 229 "_law_shown" "_law_shown" 505 247 1 3 512),
 (230,fO (uz) "_law_shown" "_law_shown" 3 "law_oc0219_01" 452 229 .none),
 (234,cN 234 "_law_judged" "_law_judged" 515 255 1 3 518),
 (235,fO (ij) "_law_judged" "_law_judged" 3 "law_oc0219_01" 452 234 .none),
 (241,cO 241 "_law_text" "_law_text" 521 268 1 3 528),
 (242,fO (fText) "_law_text" "_law_text" 3 "law_oc0219_01" 452 241 .none),
 (248,cO 248 "_law_words" "_law_words" 531 276 1 3 538),
 (249,fO (om) "_law_words" "_law_words" 3 "law_oc0219_01" 452 248 .none),
 (253,cN 253 "law" "law" 541 283 1 3 544),
 (254,fO (mi) "law" "law" 3 "law_oc0219_01" 452 253 .none)]
noncomputable def Hd:aO:=[3,20,21,34,35,41,42,48,49,55,56,58,59,60,61,77,78,81,82,83,84,85,96,97,98,108,114,115,121,122,128,129,133,134,140,141,147,148,154,155,161,162,168,169,175,176,178,179,180,181,189,190,196,197,203,204,210,211,217,218,222,223,229,230,234,235,241,242,248,249,253,254]
noncomputable def Wn:Program:={PySem.Challenge.pw_oc0219_01 with main:={PySem.Challenge.pw_oc0219_01.main with body:=[0,2,4,5,6,7,8,10,12,13,14,15,16,17,18,19,20,21].filterMap (PySem.Challenge.pw_oc0219_01.main.body[·]?)}}
theorem K2:PySem.Challenge.rw_oc0219_01.wellSaid=true:=by
 unfold OpenLaw.wellSaid
 repeat' first | with_reducible refine look_both _ _ ?_ ?_ | unfold OpenRow.wellSaid | unfold OpenRow.partSaid
 all_goals decide +kernel
theorem u0 (P:Params):Hd=(rK P).map (·.1):=by kernel_rfl
end Mine.Internal
open PySem PySem.W PyProof.Rows
set_option maxHeartbeats 4000000
namespace Mine.Internal
noncomputable def Fn:Addr->Option (Pos->Str):=λP=>if P=192 then some (λzz=>"_law_lexer.<locals>._law_piece") else if P=213 then some (λzz=>"_law_rank.<locals>.<lambda>") else none
noncomputable def He:Nat->lR:=λi=>if i=0 then uI else oh
noncomputable abbrev lD (w:World)(s:Shared):bc:=⟨PySem.Challenge.pw_oc0219_01,w,He,s.heap,s.os,Fn⟩
noncomputable def Wo:sP:={cS:=179,cN:=82,sQ:=115,info:=122,add:=129,wx:=134,ready:=141,kH:=148,done:=162,oW:=169,oX:=78}
noncomputable def YH:kL:={cL:=59,init:=35,read:=42,get:=49,push:=56}
noncomputable def b01:KN:={order:=204,se:=211,bD:=235,rank:=218,run:=223,shown:=230,text:=242,words:=249,mu:=190,lex:=197}
noncomputable def hasCls:Value->Bool
 | .none=>false
 | _=>true
theorem Hf:∀a o,(rK P).lookup a=some o->o.cls≠.none:=by
 have key:(rK P).all (λp=>hasCls p.2.cls)=true:=by rfl
 have go:∀(l:Frag),l.all (λp=>hasCls p.2.cls)=true->∀a o,l.lookup a=some o->o.cls≠.none:=by
  intro l;induction l with
  | nil=>intro _ a o e;cases e
  | cons p r ih =>
    intro h a o e;obtain ⟨b,x⟩:=p;rw [List.all_cons,cZ] at h;rw [List.lookup_cons] at e
    split at e
    . cases e;intro q;have:=h.1;rw [q] at this;cases this
    . exact ih h.2 a o e
 exact go _ key
theorem eG.of {K:Frag}(X:K.In c.h₀)(h:K.lookup fa=some o)(hc:o.cls=.type "function")(hd:o.data=.func fd)(e1:fd.params=f.params)(e2:fd.body=.stmts f.body)(e3:fd.scope=f.scope)(e4:fd.globals=mainGlobals)(e5:fd.builtins=builtinsNs)(e6:fd.closure=[])(e7:fd.defaults=dV)(e8:fd.kwdefaults=.none)
 (e9:fd.code=.ref cc) (g:K.lookup cc=some oc) (gc:oc.cls=.type "code") (gd:oc.data=.fields vs) (gv:vs[1]?=some (.str fd.qualname t)):eG c fa f dV :=
 ⟨o,fd,X _ _ h,by rw [hc];simp,hd,e1,e2,e3,e4,e5,e6,e7,e8,cc,oc,vs,t,e9,X _ _ g,by rw [gc];simp,gd,gv⟩
theorem l7.of {K:Frag}(X:K.In c.h₀)(h:K.lookup fa=some o)(hc:o.cls=.type "function")(hd:o.data=.func fd)(e1:fd.params=f.params)(e2:fd.body=.stmts f.body)(e3:fd.scope=f.scope)(e4:fd.globals=mainGlobals)(e5:fd.builtins=builtinsNs)(e6:fd.closure=[])(e7:fd.defaults=dV)(e8:fd.kwdefaults=.none)
 (Oq:fd.qualname=qn) (e9:fd.code=.ref cc) (g:K.lookup cc=some oc) (gc:oc.cls=.type "code") (gd:oc.data=.fields vs) (gv:vs[1]?=some (.str fd.qualname t)) (ht:TabAt c cc P q):l7 c fa f dV qn cc P q :=
 ⟨⟨o,fd,X _ _ h,by rw [hc];simp,hd,e1,e2,e3,e4,e5,e6,e7,e8,Oq,e9,oc,vs,t,X _ _ g,by rw [gc];simp,gd,gv⟩,ht⟩
section
variable {w:World}{s:Shared}{mg mb:fV}
theorem zR (X:(rK w.params).In s.heap):eG (lD w s) 204 uy .none/\eG (lD w s) 211 zx .none/\eG (lD w s) 235 ij .none/\eG (lD w s) 223 qY .none/\eG (lD w s) 230 uz .none/\eG (lD w s) 242 fText .none/\eG (lD w s) 249 om .none/\eG (lD w s) 190 Ax .none/\eG (lD w s) 254 mi .none :=
 ⟨.of X rfl rfl rfl rfl rfl rfl rfl rfl rfl rfl rfl rfl rfl rfl rfl rfl,.of X rfl rfl rfl rfl rfl rfl rfl rfl rfl rfl rfl rfl rfl rfl rfl rfl,.of X rfl rfl rfl rfl rfl rfl rfl rfl rfl rfl rfl rfl rfl rfl rfl rfl,.of X rfl rfl rfl rfl rfl rfl rfl rfl rfl rfl rfl rfl rfl rfl rfl rfl,
  .of X rfl rfl rfl rfl rfl rfl rfl rfl rfl rfl rfl rfl rfl rfl rfl rfl,.of X rfl rfl rfl rfl rfl rfl rfl rfl rfl rfl rfl rfl rfl rfl rfl rfl,.of X rfl rfl rfl rfl rfl rfl rfl rfl rfl rfl rfl rfl rfl rfl rfl rfl,.of X rfl rfl rfl rfl rfl rfl rfl rfl rfl rfl rfl rfl rfl rfl rfl rfl,
  .of X rfl rfl rfl rfl rfl rfl rfl rfl rfl rfl rfl rfl rfl rfl rfl rfl⟩
theorem zS (X:(rK w.params).In s.heap):eG (lD w s) 78 uC .none/\eG (lD w s) 122 xU .none/\eG (lD w s) 129 wu .none/\eG (lD w s) 134 uA .none/\eG (lD w s) 141 uB .none/\eG (lD w s) 148 qP .none/\eG (lD w s) 162 xV .none/\eG (lD w s) 169 nr .none/\eG (lD w s) 115 pR (.ref 108) :=
 ⟨.of X rfl rfl rfl rfl rfl rfl rfl rfl rfl rfl rfl rfl rfl rfl rfl rfl,.of X rfl rfl rfl rfl rfl rfl rfl rfl rfl rfl rfl rfl rfl rfl rfl rfl,.of X rfl rfl rfl rfl rfl rfl rfl rfl rfl rfl rfl rfl rfl rfl rfl rfl,.of X rfl rfl rfl rfl rfl rfl rfl rfl rfl rfl rfl rfl rfl rfl rfl rfl,
  .of X rfl rfl rfl rfl rfl rfl rfl rfl rfl rfl rfl rfl rfl rfl rfl rfl,.of X rfl rfl rfl rfl rfl rfl rfl rfl rfl rfl rfl rfl rfl rfl rfl rfl,.of X rfl rfl rfl rfl rfl rfl rfl rfl rfl rfl rfl rfl rfl rfl rfl rfl,.of X rfl rfl rfl rfl rfl rfl rfl rfl rfl rfl rfl rfl rfl rfl rfl rfl,
  .of X rfl rfl rfl rfl rfl rfl rfl rfl rfl rfl rfl rfl rfl rfl rfl rfl⟩
theorem Hg (X:(rK w.params).In s.heap):eG (lD w s) 35 uG .none/\eG (lD w s) 42 ye .none/\eG (lD w s) 49 zD .none/\eG (lD w s) 56 yf .none :=
 (gb (.of X rfl rfl rfl rfl rfl rfl rfl rfl rfl rfl rfl rfl rfl rfl rfl rfl) (.of X rfl rfl rfl rfl rfl rfl rfl rfl rfl rfl rfl rfl rfl rfl rfl rfl) (.of X rfl rfl rfl rfl rfl rfl rfl rfl rfl rfl rfl rfl rfl rfl rfl rfl) (.of X rfl rfl rfl rfl rfl rfl rfl rfl rfl rfl rfl rfl rfl rfl rfl rfl))
end
end Mine.Internal
open PySem PySem.W PyProof.Rows
namespace Mine.Internal
section
variable {w:World}{s:Shared}{mg mb:fV}
theorem K3 (X:(rK w.params).In s.heap)(Tg:s.heap.Ns mainGlobals mg)(Tb:s.heap.Ns builtinsNs mb)(Tn:s.heap.NoLimit)(Ts:∃o,s.heap.get? sysModules=some o):d8 (lD w s) mg mb (rK w.params) :=
 {g:=Tg,b:=Tb,lim:=Tn,IG:=Ts,v3:=X,MN:=Hf}
theorem Pj (X:(rK w.params).In s.heap)(B:d8 (lD w s) mg mb (rK w.params)):r0 (lD w s) mg mb (rK w.params) Wo:=by
 refine e0a6 (zS X (w:=w)) λf1 f2 f3 f4 f5 f6 o2=>?_;refine e0a2 o2 λf7 f8 f9=>?_;clear o2
 exact {B:=B,attrs:=by rfl,slots:=by refine (aG ?_ ?_ ?_) <;> rfl,Xx:=by rfl,HF:=by rfl,Xy:=by rfl,HG:=by rfl,HH:=by rfl,HI:=by rfl,
        gN:=mg_of X B.g rfl,gS:=mg_of X B.g rfl,DY:=by rfl,JQ:=by rfl,HJ:=by rfl,DZ:=by rfl,zy:=by rfl,HK:=by rfl,D0:=by rfl,
        oX:=f1,info:=f2,add:=f3,wx:=f4,ready:=f5,kH:=f6,done:=f7,oW:=f8}
theorem Pk (X:(rK w.params).In s.heap)(B:d8 (lD w s) mg mb (rK w.params)):Lex (lD w s) mg mb (rK w.params) YH:=by
 refine e0a3 (Hg X (w:=w)) λf1 f2 f3 f4=>?_
 exact {B:=B,a1:=by rfl,a2:=by rfl,a3:=by rfl,a4:=by rfl,a5:=by rfl,UX:=by rfl,Er:=by rfl,keep:=by rfl,g:=mg_of X B.g rfl,Es:=by rfl,GP:=by rfl,H4:=by rfl,
        init:=f1,read:=f2,get:=f3,push:=f4,site:=rfl}
theorem K4 (X:(rK w.params).In s.heap)(KT:∀P∈([192,213]:aO),s.heap.get? P=some (tabObj #[]))(B:d8 (lD w s) mg mb (rK w.params))(Wp:∀x:Str,x≠"__name__"->mb x=bootBuiltins x)
 (Tm:∃bm ob,mg "__builtins__"=some (.ref bm)/\bm≠builtinsNs/\s.heap.get? bm=some ob/\ob.cls=.type "module"/\ob.dict=some builtinsNs/\ob.data=.plain):KO (lD w s) mg mb (rK w.params) Wo YH b01:=by
 refine e0a6 (zR X (w:=w)) λf1 f2 f3 f4 f5 f6 o1=>?_;refine e0a2 o1 λf7 f8 f9=>?_;clear o1;have bl:∀{x:Str} {v:Value},nsIn (rK w.params) mainGlobals x=some none->bootBuiltins x=some v->x≠"__name__"->c9 mg mb x v:=λe h n=>⟨mg_none_of X B.g e,(Wp _ n).trans h⟩
 have gl:∀{x:Str} {v:Value},nsIn (rK w.params) mainGlobals x=some (some v)->mg x=some v:=λe=>mg_of X B.g e;have W:=Pj X B;have KK:l7 (lD w s) 197 ma .none "_law_lexer" 196 192 (λzz=>"_law_lexer.<locals>._law_piece") :=
  .of X rfl rfl rfl rfl rfl rfl rfl rfl rfl rfl rfl rfl rfl rfl rfl rfl rfl ⟨codeHd_of_K X (by rfl),rfl,(ck (#[]) (KT 192 (.head _))),λzz zz zz zz=>rfl⟩
 have wP:l7 (lD w s) 218 sW .none "_law_rank" 217 213 (λzz=>"_law_rank.<locals>.<lambda>") :=
  .of X rfl rfl rfl rfl rfl rfl rfl rfl rfl rfl rfl rfl rfl rfl rfl rfl rfl ⟨codeHd_of_K X (by rfl),rfl,(ck (#[]) (KT 213 (.tail _ (.head _)))),λzz zz zz zz=>rfl⟩
 have G:GX (lD w s) mg mb Wo 197 :=
  {EH:=gl rfl,EI:=bl rfl rfl (by decide),EJ:=bl rfl rfl (by decide),yk:=bl rfl rfl (by decide),H8:=bl rfl rfl (by decide),H9:=bl rfl rfl (by decide),EK:=bl rfl rfl (by decide),nB:=bl rfl rfl (by decide),
   out:=(ck _ (gl rfl)),done:=(ck _ (gl rfl)),mod:=Tm,uN:=(xk _ _ KK),Ia:=(fF 108 _ _ ((zS X).2.2.2.2.2.2.2.2) (X 108 _ rfl) (by simp) rfl)}
 exact {W:=W,V:=Pk X B,G:=G,order:=f1,yt:=gl rfl,se:=f2,Ij:=gl rfl,bD:=f3,uR:=gl rfl,rank:=(xk _ _ wP),ET:=gl rfl,Ik:=rfl,run:=f4,EU:=gl rfl,shown:=f5,q0:=gl rfl,text:=f6,Il:=gl rfl,words:=f7,EV:=gl rfl,mu:=f8,Pa:=gl rfl,
        jS:=bl rfl rfl (by decide),rg:=bl rfl rfl (by decide),EW:=bl rfl rfl (by decide),s7:=bl rfl rfl (by decide),KP:=bl rfl rfl (by decide),EX:=bl rfl rfl (by decide),KQ:=bl rfl rfl (by decide)}
noncomputable def F01 (h:Heap):G:=λb=>match h.get? b with
 | some o=>if hasCls o.cls||b==cStatics then some o else none
 | none=>none
set_option tactic.hygienic true in
theorem Wq (KT:∀P∈([192,213]:aO),s.heap.get? P=some (tabObj #[]))(hg:s.gens=#[]):Wd (lD w s) (F01 s.heap) [] [] s:=by
 have hF:∀b o,F01 s.heap b=some o->s.heap.get? b=some o:=λb o e=>by
  unfold F01 at e
  split at e
  . rename_i o' h
    split at e
    . cases e;exact h
    . cases e
  . cases e
 refine ⟨hF,λb o e q=>?_,⟨⟨λb o e=>.inl e,λb o e=>(ck o e)⟩,λP q hq=>?_⟩,rfl,List.nodup_nil,λk a o e=>by simp at e,λa ha=>by simp at ha,rfl,hg,λa ha=>by simp at ha⟩
 . have e':s.heap.get? b=some o:=e;unfold F01;rw [e'];show (if _ then _ else _)=_;rw [if_pos];rcases q with q | q
   . have:hasCls o.cls=true:=by
      cases hc:o.cls <;> first | rfl | exact absurd hc q
     rw [this];rfl
   . rw [q];simp
 . have hP:s.heap.get? P=some (tabObj #[])/\P≠cStatics:=by
    have Lm:Fn P=some q:=hq;unfold Fn at Lm
    split at Lm
    . rename_i e;subst e;exact ⟨KT 192 (.head _),by decide⟩
    . split at Lm
      . rename_i e;subst e;exact ⟨KT 213 (.tail _ (.head _)),by decide⟩
      . cases Lm
   refine (jA ?_ (ck _ hP.1) (#[]) hP.1 ?_ (λpos v hv=>?_))
   . unfold F01;rw [hP.1];show (if _ then _ else _)=_;rw [if_neg];simp [tabObj,show hasCls .none=false from rfl,hP.2]
   . simp [TriplesOk]
   . simp [codeAmong] at hv
end
end Mine.Internal
open PySem PySem.W PyProof.Rows
namespace Mine.Internal
theorem Hh {c:bc}{F:G}{bs:aO}{vs:iy}{ns:List Int}(h:IntsAre vs ns):c.Vs F bs (ns.map .int) vs:=by
 induction h with
 | nil=>exact .nil
 | cons n t _ ih=>exact .cons (.int _ _) ih
set_option tactic.hygienic true in
theorem Wr:PySem.Challenge.rw_oc0219_01.Holds:=by
 w_on
 refine holds_law K2 λaam=>?_;refine holds_open (q:=Wn) (loose:=[Str.ofString "_NodeInfo"]) (Xt:=λs=>xlAt Wn [] s&&recOk (RowW.records PySem.Challenge.rw_oc0219_01.row.toRowW) s) (XP:=XL Wn [])
  (Yf:=Hook.obs (kmHook rK Hd u0 [192,213])) (Ya:=Hook.val (kmHook rK Hd u0 [192,213])) (YP:=Hook.says (kmHook rK Hd u0 [192,213])) (N:=3596) ?hl
  (Hook.of _) (Hook.keeps _) (λs e=>xl_of s (Bool.and_eq_true_iff.mp e).1) XL.keeps (by rfl) (by rfl) (by rfl) (λs e=>recFacts_of (Bool.and_eq_true_iff.mp e).2) (by rfl) (by first | assumption | decide +kernel) (by decide +kernel) ⟨rfl,rfl,rfl,rfl,rfl,by decide +kernel⟩ ?hw ?hc
 case hw=>w_witness2
 case hl=>intro w;kernel_rfl
 intro w dL O mg mb G Y fa o pm cd doc dV kV ho hd Dm hD YI hg args vals as Ws Wt hrd hwl Li;have KX:=km_in_of Y;have KT:=km_tabs_of Y;clear Y;refine Ground.open G ?_;intro T B D TE TW;clear B D TE TW G;clear hd Dm hD;have hfa:fa=254:=by have h1:mg "law"=some (.ref 254):=mg_of KX T.g rfl;have h2:mg "law"=some (.ref fa):=YI;rw [h1] at h2;cases h2;rfl
 clear YI ho;subst hfa
 wrow_args Ws Wt hrd hwl Li
 rename_i ns _ _ _ _ _ _ _ l vs _ hL _ w1 _ hI _ hlen _;have PD:Well w.params O.heap (.ref l) (.list (ofPys (ns.map .int))):=w1;have Pl:O.heap.get? l=some (bx vs 0):=by
  cases PD with
  | list hl _ =>obtain ⟨o,e1,_,n,e2⟩:=hL;rw [hl] at e1;cases e1;cases e2;exact hl
 have pn:∃o,O.heap.get? sysModules=some o:=by refine e1a1 ((T.seer (by rfl)).mods) λmm o2 _=>?_;refine e3a1 o2 λo _ _ h _=>?_;clear o2;exact ⟨o,h⟩
 have BB:=K3 (s:=O) KX T.g T.b T.nolimit pn;have Gx:=K4 KX KT BB T.builtins T.bmain;have hv:(lD w O).V (F01 O.heap) [] (.lst (ns.map .int)) (.ref l):=by refine .lst ⟨0,?_⟩ (Hh hI);unfold F01;rw [Pl];rfl
 refine enter_call ?_;refine codeAny_mono (Fl Gx (zR KX).2.2.2.2.2.2.2.2 ns (Int.ofNat_le.mp (Int.not_lt.mp hlen)) 0 callerA (F01 O.heap) [] O [.ref l] [] rfl (by decide) (by decide) rfl (by simp) (Wq KT hg) (.cons hv .nil)) ?_;intro r s' o1;obtain ⟨F',aE,v,H',rv,own,e,hn,st,FP,lG,hp⟩:=o1;subst e hp;cases lG;exact ⟨.inl ⟨_,_,[],rfl,λ_=>rfl,ReadsW.bool true,(by wrow_post),λ_=>⟨List.nodup_nil,λ_ h=>nomatch h⟩⟩,FP.old.toOldK,FP.os,AllBare.of_eq FP.gens⟩
end Mine.Internal
theorem PySem.Challenge.cw_oc0219_01_holds : PySem.Challenge.rw_oc0219_01.Holds := by
 exact Mine.Internal.Wr
