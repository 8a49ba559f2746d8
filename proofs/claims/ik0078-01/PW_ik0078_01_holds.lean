import PyProof.Rows.All
import Wide.All
import OpenK.AllK
import Wide.FinOn
import KE.KLam
import KE.KRevIter
import KE.KTryOn
import PyProof.ExcFactsAll.ValueError
import KE.KBytesCut
import PySem.Challenge.RW_ik0078_01
set_option Elab.async false
set_option autoImplicit false
set_option maxRecDepth 100000
set_option bootstrap.genMatcherCode false
set_option backward.match.sparseCases false
set_option linter.all false
set_option genSizeOf false
set_option genInjectivity false
set_option tactic.hygienic false
namespace Ik.Internal
open PySem PyProof.Rows PySem.W PySem.Calls PySem.SeqAt
noncomputable def aA:=@wpAny_bind
noncomputable def aB:=@of_decide_eq_true
noncomputable def aC:=@decide_eq_true
noncomputable def aD:=@Nat.le_of_eq
noncomputable def aE:=@Heap.get?_push_of_some
noncomputable def aF:=@List.length_map
noncomputable def aG:=@List.mem_append_left
noncomputable def aH:=@wpAny_pure
noncomputable def aI:=@List.mem_append_right
noncomputable def aJ:=@congrArg
noncomputable def aK:=@Bool.and_eq_true_iff
noncomputable def aL:=@List.length_append
noncomputable def aM:=@List.mem_cons
noncomputable def aN:=@List.getElem?_eq_some_iff
noncomputable def aO:=@List.mem_of_getElem?
noncomputable def aP:=@decide_eq_false
noncomputable def aQ:=@List.mem_singleton
noncomputable def aR:=@List.length_set
noncomputable def aS:=@Heap.get?_push_size
noncomputable def aT:=@Nat.lt_trans
noncomputable def aU:=@Nat.le_refl
noncomputable def aV:=@Nat.lt_of_le_of_lt
noncomputable def aW:=@Nat.ne_of_lt
noncomputable def aX:=@Option.bind_eq_some_iff
noncomputable def aY:=@List.getD_eq_getElem?_getD
noncomputable def aZ:=@List.mem_append
noncomputable def bA:=@Nat.le_trans
noncomputable def bB:=@List.getElem?_eq_getElem
noncomputable def bC:=@List.append_assoc
noncomputable def bD:=@List.getElem?_append_left
noncomputable def bE:=@List.length_cons
noncomputable def bF:=@Option.map_eq_some_iff
noncomputable def bG:=@Option.some.inj
noncomputable def bH:=@List.not_mem_nil
noncomputable def bI:=@List.all_eq_true
noncomputable def bJ:=@List.eq_nil_of_length_eq_zero
noncomputable def bK:=@Nat.lt_of_le_of_ne
noncomputable def bL:=@List.mem_map
noncomputable def bM:=@List.getElem?_set_ne
noncomputable def bN:=@Int.natCast_nonneg
noncomputable def bP:=@List.map_append
noncomputable def bQ:=@Nat.not_lt
noncomputable def bR:=@wpAny_of_eq
noncomputable def bS:=@List.isEmpty_iff
noncomputable def bT:=@Nat.ne_of_gt
noncomputable def bU:=@decide_eq_decide
noncomputable def bV:=@Nat.zero_le
noncomputable def bW:=@List.append_nil
noncomputable def bY:=@List.mem_map_of_mem
noncomputable def bZ:=@List.nodup_cons
noncomputable def cA:=@Nat.sub_le
noncomputable def cB:=@Nat.le_add_right
noncomputable def cC:=@wpAny_mono
noncomputable def cD:=@List.lookup_cons
noncomputable def cF:=@Nat.lt_of_lt_of_le
noncomputable def cG:=@Heap.get?_none_of_le
noncomputable def cH:=@List.mem_cons_of_mem
noncomputable def cJ:=@Nat.succ_le_succ
noncomputable def cK:=@List.getElem?_append_right
noncomputable def cL:=@beq_eq_false_iff_ne
noncomputable def cM:=@List.mem_filter
noncomputable def cN:=@Nat.lt_succ_self
noncomputable def cP:=@List.map_cons
noncomputable def cQ:=@wpAny_holding
noncomputable def cR:=@Heap.lt_size
noncomputable def cT:=@Nat.le_of_lt
noncomputable def cU:=@wpAny_field
noncomputable def cV:=@List.set_set
noncomputable def cW:=@wpAny_items_cons
noncomputable def cX:=@wpAny_Name
noncomputable def cY:=@List.size_toArray
noncomputable def cZ:=@Nat.lt_irrefl
noncomputable def dA:=@Int.ofNat_lt
noncomputable def dB:=@List.mem_cons_self
noncomputable def dC:=@List.prefix_rfl
noncomputable def dD:=@List.drop_of_length_le
noncomputable def dF:=@wpAny_execs_cons
noncomputable def dG:=@Builtin.SmallTypes.nextOf
noncomputable def dH:=@List.nodup_append
noncomputable def dI:=@Array.getElem?_toList
noncomputable def dJ:=@Heap.get?_update_self
noncomputable def dK:=@List.dropLast_concat_getLast
noncomputable def dL:=@List.length_singleton
noncomputable def dM:=@wpAny_seqItems
noncomputable def dN:=@wpAny_loadName_local
noncomputable def dO:=@wpAny_standAt
noncomputable def dP:=@Heap.get?_update_other
noncomputable def dQ:=@List.getElem?_set_self
noncomputable def dR:=@Nat.div_mul_le_self
noncomputable def dS:=@wpAny_items_nil
noncomputable def dT:=@List.length_replicate
noncomputable def dU:=@Array.getD_eq_getD_getElem?
noncomputable def dW:=@Array.length_toList
noncomputable def dX:=@List.drop_eq_getElem_cons
noncomputable def dY:=@Around.under_plainId
noncomputable def dZ:=@List.length_dropLast
noncomputable def eD:=@List.filter_cons_of_neg
end Ik.Internal
namespace Ik.Internal
universe u v
theorem nsn{α:Type u}{a:α}{P:Prop}(e:some a=none):P:=nomatch e
theorem nns{α:Type u}{a:α}{P:Prop}(e:none=some a):P:=nomatch e
theorem nft{P:Prop}(e:false=true):P:=nomatch e
theorem ntf{P:Prop}(e:true=false):P:=nomatch e
theorem noe{ε:Type u}{α:Type v}{a:α}{b:ε}{P:Prop}(e:Except.ok a=Except.error b):P:=nomatch e
theorem neo{ε:Type u}{α:Type v}{a:α}{b:ε}{P:Prop}(e:Except.error b=Except.ok a):P:=nomatch e
theorem snE{α:Type u}{a b:α}{P:Prop}(h:some a=some b)(k:a=b->P):P:=k (bG h)
theorem prE{α:Type u}{β:Type v}{a c:α}{b d:β}{P:Prop}(h:(a,b)=(c,d))(k:a=c->b=d->P):P:=by injection h with h1 h2;exact k h1 h2
theorem spE{α:Type u}{β:Type v}{a c:α}{b d:β}{P:Prop}(h:some (a,b)=some (c,d))(k:a=c->b=d->P):P:=snE h λh=>prE h k
theorem okE{ε:Type u}{α:Type v}{a b:α}{P:Prop}(e:(Except.ok a:Except ε α)=Except.ok b)(k:a=b->P):P:=by injection e with e;exact k e
theorem erE{ε:Type u}{α:Type v}{a b:ε}{P:Prop}(e:(Except.error a:Except ε α)=Except.error b)(k:a=b->P):P:=by injection e with e;exact k e
theorem cnE{α:Type u}{a b:α}{l m:List α}{P:Prop}(e:a::l=b::m)(k:a=b->l=m->P):P:=by injection e with h1 h2;exact k h1 h2
theorem e02{A0 A1:Prop}(h:A0/\A1){P:Prop}(k:A0->A1->P):P:=k h.1 h.2
theorem e03{A0 A1 A2:Prop}(h:A0/\A1/\A2){P:Prop}(k:A0->A1->A2->P):P:=k h.1 h.2.1 h.2.2
theorem e04{A0 A1 A2 A3:Prop}(h:A0/\A1/\A2/\A3){P:Prop}(k:A0->A1->A2->A3->P):P:=k h.1 h.2.1 h.2.2.1 h.2.2.2
theorem e05{A0 A1 A2 A3 A4:Prop}(h:A0/\A1/\A2/\A3/\A4){P:Prop}(k:A0->A1->A2->A3->A4->P):P:=k h.1 h.2.1 h.2.2.1 h.2.2.2.1 h.2.2.2.2
theorem e06{A0 A1 A2 A3 A4 A5:Prop}(h:A0/\A1/\A2/\A3/\A4/\A5){P:Prop}(k:A0->A1->A2->A3->A4->A5->P):P:=k h.1 h.2.1 h.2.2.1 h.2.2.2.1 h.2.2.2.2.1 h.2.2.2.2.2
theorem e07{A0 A1 A2 A3 A4 A5 A6:Prop}(h:A0/\A1/\A2/\A3/\A4/\A5/\A6){P:Prop}(k:A0->A1->A2->A3->A4->A5->A6->P):P:=k h.1 h.2.1 h.2.2.1 h.2.2.2.1 h.2.2.2.2.1 h.2.2.2.2.2.1 h.2.2.2.2.2.2
theorem e11{α0:Sort _}{A0:α0->Prop}(h:∃ x0,A0 x0){P:Prop}(k:∀ x0,A0 x0->P):P:=h.elim k
theorem e12{α0:Sort _}{A0 A1:α0->Prop}(h:∃ x0,A0 x0/\A1 x0){P:Prop}(k:∀ x0,A0 x0->A1 x0->P):P:=h.elim λx h=>e02 h (k x)
theorem e13{α0:Sort _}{A0 A1 A2:α0->Prop}(h:∃ x0,A0 x0/\A1 x0/\A2 x0){P:Prop}(k:∀ x0,A0 x0->A1 x0->A2 x0->P):P:=h.elim λx h=>e03 h (k x)
theorem e14{α0:Sort _}{A0 A1 A2 A3:α0->Prop}(h:∃ x0,A0 x0/\A1 x0/\A2 x0/\A3 x0){P:Prop}(k:∀ x0,A0 x0->A1 x0->A2 x0->A3 x0->P):P:=h.elim λx h=>e04 h (k x)
theorem e15{α0:Sort _}{A0 A1 A2 A3 A4:α0->Prop}(h:∃ x0,A0 x0/\A1 x0/\A2 x0/\A3 x0/\A4 x0){P:Prop}(k:∀ x0,A0 x0->A1 x0->A2 x0->A3 x0->A4 x0->P):P:=h.elim λx h=>e05 h (k x)
theorem e16{α0:Sort _}{A0 A1 A2 A3 A4 A5:α0->Prop}(h:∃ x0,A0 x0/\A1 x0/\A2 x0/\A3 x0/\A4 x0/\A5 x0){P:Prop}(k:∀ x0,A0 x0->A1 x0->A2 x0->A3 x0->A4 x0->A5 x0->P):P:=h.elim λx h=>e06 h (k x)
theorem e21{α0:Sort _}{α1:Sort _}{A0:α0->α1->Prop}(h:∃ x0,∃ x1,A0 x0 x1){P:Prop}(k:∀ x0 x1,A0 x0 x1->P):P:=h.elim λx h=>e11 h (k x)
theorem e22{α0:Sort _}{α1:Sort _}{A0 A1:α0->α1->Prop}(h:∃ x0,∃ x1,A0 x0 x1/\A1 x0 x1){P:Prop}(k:∀ x0 x1,A0 x0 x1->A1 x0 x1->P):P:=h.elim λx h=>e12 h (k x)
theorem e23{α0:Sort _}{α1:Sort _}{A0 A1 A2:α0->α1->Prop}(h:∃ x0,∃ x1,A0 x0 x1/\A1 x0 x1/\A2 x0 x1){P:Prop}(k:∀ x0 x1,A0 x0 x1->A1 x0 x1->A2 x0 x1->P):P:=h.elim λx h=>e13 h (k x)
theorem e24{α0:Sort _}{α1:Sort _}{A0 A1 A2 A3:α0->α1->Prop}(h:∃ x0,∃ x1,A0 x0 x1/\A1 x0 x1/\A2 x0 x1/\A3 x0 x1){P:Prop}(k:∀ x0 x1,A0 x0 x1->A1 x0 x1->A2 x0 x1->A3 x0 x1->P):P:=h.elim λx h=>e14 h (k x)
theorem e25{α0:Sort _}{α1:Sort _}{A0 A1 A2 A3 A4:α0->α1->Prop}(h:∃ x0,∃ x1,A0 x0 x1/\A1 x0 x1/\A2 x0 x1/\A3 x0 x1/\A4 x0 x1){P:Prop}(k:∀ x0 x1,A0 x0 x1->A1 x0 x1->A2 x0 x1->A3 x0 x1->A4 x0 x1->P):P:=h.elim λx h=>e15 h (k x)
theorem e26{α0:Sort _}{α1:Sort _}{A0 A1 A2 A3 A4 A5:α0->α1->Prop}(h:∃ x0,∃ x1,A0 x0 x1/\A1 x0 x1/\A2 x0 x1/\A3 x0 x1/\A4 x0 x1/\A5 x0 x1){P:Prop}(k:∀ x0 x1,A0 x0 x1->A1 x0 x1->A2 x0 x1->A3 x0 x1->A4 x0 x1->A5 x0 x1->P):P:=h.elim λx h=>e16 h (k x)
theorem e31{α0:Sort _}{α1:Sort _}{α2:Sort _}{A0:α0->α1->α2->Prop}(h:∃ x0,∃ x1,∃ x2,A0 x0 x1 x2){P:Prop}(k:∀ x0 x1 x2,A0 x0 x1 x2->P):P:=h.elim λx h=>e21 h (k x)
theorem e32{α0:Sort _}{α1:Sort _}{α2:Sort _}{A0 A1:α0->α1->α2->Prop}(h:∃ x0,∃ x1,∃ x2,A0 x0 x1 x2/\A1 x0 x1 x2){P:Prop}(k:∀ x0 x1 x2,A0 x0 x1 x2->A1 x0 x1 x2->P):P:=h.elim λx h=>e22 h (k x)
theorem e33{α0:Sort _}{α1:Sort _}{α2:Sort _}{A0 A1 A2:α0->α1->α2->Prop}(h:∃ x0,∃ x1,∃ x2,A0 x0 x1 x2/\A1 x0 x1 x2/\A2 x0 x1 x2){P:Prop}(k:∀ x0 x1 x2,A0 x0 x1 x2->A1 x0 x1 x2->A2 x0 x1 x2->P):P:=h.elim λx h=>e23 h (k x)
theorem e34{α0:Sort _}{α1:Sort _}{α2:Sort _}{A0 A1 A2 A3:α0->α1->α2->Prop}(h:∃ x0,∃ x1,∃ x2,A0 x0 x1 x2/\A1 x0 x1 x2/\A2 x0 x1 x2/\A3 x0 x1 x2){P:Prop}(k:∀ x0 x1 x2,A0 x0 x1 x2->A1 x0 x1 x2->A2 x0 x1 x2->A3 x0 x1 x2->P):P:=h.elim λx h=>e24 h (k x)
theorem e35{α0:Sort _}{α1:Sort _}{α2:Sort _}{A0 A1 A2 A3 A4:α0->α1->α2->Prop}(h:∃ x0,∃ x1,∃ x2,A0 x0 x1 x2/\A1 x0 x1 x2/\A2 x0 x1 x2/\A3 x0 x1 x2/\A4 x0 x1 x2){P:Prop}(k:∀ x0 x1 x2,A0 x0 x1 x2->A1 x0 x1 x2->A2 x0 x1 x2->A3 x0 x1 x2->A4 x0 x1 x2->P):P:=h.elim λx h=>e25 h (k x)
theorem e41{α0:Sort _}{α1:Sort _}{α2:Sort _}{α3:Sort _}{A0:α0->α1->α2->α3->Prop}(h:∃ x0,∃ x1,∃ x2,∃ x3,A0 x0 x1 x2 x3){P:Prop}(k:∀ x0 x1 x2 x3,A0 x0 x1 x2 x3->P):P:=h.elim λx h=>e31 h (k x)
theorem e42{α0:Sort _}{α1:Sort _}{α2:Sort _}{α3:Sort _}{A0 A1:α0->α1->α2->α3->Prop}(h:∃ x0,∃ x1,∃ x2,∃ x3,A0 x0 x1 x2 x3/\A1 x0 x1 x2 x3){P:Prop}(k:∀ x0 x1 x2 x3,A0 x0 x1 x2 x3->A1 x0 x1 x2 x3->P):P:=h.elim λx h=>e32 h (k x)
theorem e43{α0:Sort _}{α1:Sort _}{α2:Sort _}{α3:Sort _}{A0 A1 A2:α0->α1->α2->α3->Prop}(h:∃ x0,∃ x1,∃ x2,∃ x3,A0 x0 x1 x2 x3/\A1 x0 x1 x2 x3/\A2 x0 x1 x2 x3){P:Prop}(k:∀ x0 x1 x2 x3,A0 x0 x1 x2 x3->A1 x0 x1 x2 x3->A2 x0 x1 x2 x3->P):P:=h.elim λx h=>e33 h (k x)
theorem e44{α0:Sort _}{α1:Sort _}{α2:Sort _}{α3:Sort _}{A0 A1 A2 A3:α0->α1->α2->α3->Prop}(h:∃ x0,∃ x1,∃ x2,∃ x3,A0 x0 x1 x2 x3/\A1 x0 x1 x2 x3/\A2 x0 x1 x2 x3/\A3 x0 x1 x2 x3){P:Prop}(k:∀ x0 x1 x2 x3,A0 x0 x1 x2 x3->A1 x0 x1 x2 x3->A2 x0 x1 x2 x3->A3 x0 x1 x2 x3->P):P:=h.elim λx h=>e34 h (k x)
theorem e45{α0:Sort _}{α1:Sort _}{α2:Sort _}{α3:Sort _}{A0 A1 A2 A3 A4:α0->α1->α2->α3->Prop}(h:∃ x0,∃ x1,∃ x2,∃ x3,A0 x0 x1 x2 x3/\A1 x0 x1 x2 x3/\A2 x0 x1 x2 x3/\A3 x0 x1 x2 x3/\A4 x0 x1 x2 x3){P:Prop}(k:∀ x0 x1 x2 x3,A0 x0 x1 x2 x3->A1 x0 x1 x2 x3->A2 x0 x1 x2 x3->A3 x0 x1 x2 x3->A4 x0 x1 x2 x3->P):P:=h.elim λx h=>e35 h (k x)
theorem e52{α0:Sort _}{α1:Sort _}{α2:Sort _}{α3:Sort _}{α4:Sort _}{A0 A1:α0->α1->α2->α3->α4->Prop}(h:∃ x0,∃ x1,∃ x2,∃ x3,∃ x4,A0 x0 x1 x2 x3 x4/\A1 x0 x1 x2 x3 x4){P:Prop}(k:∀ x0 x1 x2 x3 x4,A0 x0 x1 x2 x3 x4->A1 x0 x1 x2 x3 x4->P):P:=h.elim λx h=>e42 h (k x)
theorem e62{α0:Sort _}{α1:Sort _}{α2:Sort _}{α3:Sort _}{α4:Sort _}{α5:Sort _}{A0 A1:α0->α1->α2->α3->α4->α5->Prop}(h:∃ x0,∃ x1,∃ x2,∃ x3,∃ x4,∃ x5,A0 x0 x1 x2 x3 x4 x5/\A1 x0 x1 x2 x3 x4 x5){P:Prop}(k:∀ x0 x1 x2 x3 x4 x5,A0 x0 x1 x2 x3 x4 x5->A1 x0 x1 x2 x3 x4 x5->P):P:=h.elim λx h=>e52 h (k x)
set_option genSizeOf false in
set_option genInjectivity false in
set_option genCtorIdx false in
inductive Lx where
 | v (i:Nat)
 | n (k:Nat)
 | a (x y:Lx)
 | m (x:Lx) (k:Nat)
namespace Lx
noncomputable def d(c:List Nat)(x:Lx):Nat:=Lx.rec (λi=>c.getD i 0) (λk=>k) (λ_ _ p q=>p+q) (λ_ k p=>p*k) x
noncomputable def cn(x:Lx):Nat:=Lx.rec (λ_=>0) (λk=>k) (λ_ _ p q=>p+q) (λ_ k p=>p*k) x
noncomputable def cf(j:Nat)(x:Lx):Nat:=Lx.rec (λi=>bif Nat.beq i j then 1 else 0) (λ_=>0) (λ_ _ p q=>p+q) (λ_ k p=>p*k) x
end Lx
noncomputable def dot(f:Nat->Nat)(c:List Nat):Nat->Nat:=List.rec (λ_=>0) (λx _ p i=>f i*x+p (i+1)) c
theorem Aed{i j:Nat}(h:i≠j):Nat.beq i j=false:=(Bool.eq_false_iff).mpr λq=>h (Nat.eq_of_beq_eq_true q)
theorem Aee(c:List Nat):∀ i:Nat,dot (λ_=>0) c i=0:=by
 induction c with
 | nil=>exact λ_=>rfl
 | cons x r ih=>exact λi=>(aJ (0*x+·) (ih (i+1))).trans (Nat.zero_mul x)
theorem Ajw(f g:Nat->Nat)(c:List Nat):∀ i:Nat,dot (λj=>f j+g j) c i=dot f c i+dot g c i:=by
 induction c with
 | nil=>exact λ_=>rfl
 | cons x r ih=>exact λi=>((aJ ((f i+g i)*x+·) (ih (i+1))).trans (aJ (·+(dot f r (i+1)+dot g r (i+1))) (Nat.add_mul (f i) (g i) x))).trans (Nat.add_add_add_comm _ _ _ _)
theorem Ajx(f:Nat->Nat)(k:Nat)(c:List Nat):∀ i:Nat,dot (λj=>f j*k) c i=dot f c i*k:=by
 induction c with
 | nil=>exact λ_=>(Nat.zero_mul k).symm
 | cons x r ih=>exact λi=>((aJ (f i*k*x+·) (ih (i+1))).trans (aJ (·+dot f r (i+1)*k) (Nat.mul_right_comm (f i) k x))).trans (Nat.add_mul _ _ k).symm
theorem Ajy(c:List Nat):∀ i m:Nat,i<m->dot (λj=>bif Nat.beq i j then 1 else 0) c m=0:=by
 induction c with
 | nil=>exact λ_ _ _=>rfl
 | cons y r ih=>
  intro i m hm;show (bif Nat.beq i m then 1 else 0)*y+dot _ r (m+1)=0;rw [ih _ _ (Nat.lt_succ_of_lt hm),Aed (aW hm)];exact Nat.zero_mul y
theorem Ajz(c:List Nat):∀ k i:Nat,dot (λj=>bif Nat.beq (i+k) j then 1 else 0) c i=c.getD k 0:=by
 induction c with
 | nil=>exact λ_ _=>rfl
 | cons x r ih=>
  intro k i;show (bif Nat.beq (i+k) i then 1 else 0)*x+dot _ r (i+1)=_
  induction k using Nat.casesAuxOn with
  | zero=>rw [show i+0=i from rfl,Ajy r _ _ (cN i),Nat.beq_refl];exact Nat.one_mul x
  | succ k=>
   rw [Aed (bT (Nat.lt_add_of_pos_right (Nat.succ_pos k))),<- Nat.succ_add_eq_add_succ i k];exact (aJ (0*x+·) (ih k (i+1))).trans ((aJ (·+r.getD k 0) (Nat.zero_mul x)).trans (Nat.zero_add _))
theorem Lx.d_eq(c:List Nat)(x:Lx):x.d c=x.cn+dot (λj=>x.cf j) c 0:=by
 induction x with
 | v i=>
  have:=Ajz c i 0;rw [Nat.zero_add] at this;exact this.symm.trans (Nat.zero_add _).symm
 | n k=>exact (aJ (k+·) (Aee c 0)).symm
 | a x y hx hy=>
  show x.d c+y.d c=x.cn+y.cn+dot (λj=>x.cf j+y.cf j) c 0;rw [hx,hy,Ajw,Nat.add_add_add_comm]
 | m x k hx=>
  show x.d c*k=x.cn*k+dot (λj=>x.cf j*k) c 0;rw [hx,Ajx,Nat.add_mul]
noncomputable def dle(f g:Nat->Nat)(c:List Nat):Nat->Bool:=List.rec (λ_=>true) (λ_ _ p i=>Nat.ble (f i) (g i)&&p (i+1)) c
theorem Aqj{f g:Nat->Nat}(c:List Nat):∀ i:Nat,dle f g c i=true->dot f c i<=dot g c i:=by
 induction c with
 | nil=>exact λ_ _=>aU _
 | cons x r ih=>exact λi h=>Nat.add_le_add (Nat.mul_le_mul_right x (Nat.le_of_ble_eq_true (aK.mp h).1)) (ih (i+1) (aK.mp h).2)
noncomputable def bad(c:List Nat)(l r:Lx):Bool:=dle (λj=>r.cf j) (λj=>l.cf j) c 0&&Nat.ble (r.cn+1) l.cn
theorem Aqk{c:List Nat}{l r:Lx}(h:bad c l r=true):r.d c<l.d c:=by
 rw [Lx.d_eq c l,Lx.d_eq c r];exact Nat.add_lt_add_of_lt_of_le (Nat.le_of_ble_eq_true (aK.mp h).2) (Aqj c 0 (aK.mp h).1)
noncomputable def den(c:List Nat)(cs:List (Nat×Lx×Lx)):Prop:=List.rec False (λp _ q=>p.2.1.d c<=p.2.2.d c->q) cs
noncomputable def sl(cs:List (Nat×Lx×Lx)):Lx:=List.rec (.n 0) (λp _ q=>.a (.m p.2.1 p.1) q) cs
noncomputable def sr(cs:List (Nat×Lx×Lx)):Lx:=List.rec (.n 0) (λp _ q=>.a (.m p.2.2 p.1) q) cs
theorem Aql(c:List Nat)(cs:List (Nat×Lx×Lx)):∀ l r:Nat,l<=r->r+(sr cs).d c<l+(sl cs).d c->den c cs:=by
 induction cs with
 | nil=>exact λl r h q=>absurd h (Nat.not_le.mpr q)
 | cons p cs ih=>exact λl r h q z=>ih (l+p.2.1.d c*p.1) (r+p.2.2.d c*p.1) (Nat.add_le_add h (Nat.mul_le_mul_right _ z)) (by rw [Nat.add_assoc,Nat.add_assoc];exact q)
theorem fk(c:List Nat)(cs:List (Nat×Lx×Lx))(h:bad c (sl cs) (sr cs)=true):den c cs:=
 Aql c cs 0 0 (aU _) (by rw [Nat.zero_add,Nat.zero_add];exact Aqk h)
theorem ltc{a b:Nat}(h:b<=a->False):a<b:=Nat.lt_of_not_le h
theorem lec{a b:Nat}(h:b<a->False):a<=b:=Nat.le_of_not_lt h
theorem eqc{a b:Nat}(h1:b<a->False)(h2:a<b->False):a=b:=Nat.le_antisymm (Nat.le_of_not_lt h1) (Nat.le_of_not_lt h2)
theorem sbg(a b:Nat):a<=a - b+b:=(Nat.le_total b a).elim (λh=>aD (Nat.sub_add_cancel h).symm) λh=>bA h (Nat.le_add_left b (a - b))
theorem sbc{a b:Nat}(h:b<=a):a - b+b<=a:=aD (Nat.sub_add_cancel h)
theorem dvu(a k:Nat)(h:0<k):a+1<=a / k*k+k:=Nat.lt_div_mul_add h (a:=a)
end Ik.Internal
namespace Ik.Internal
open PySem
inductive AV where
 | none
 | bool (b:Bool)
 | int (i:Int)
 | str (s:Str)
 | bytes (b:List UInt8)
 | tup (xs:List AV)
 | lst (xs:List AV)
 | rng (a b:Int)
 | exc (msg:Str)
 | strm (octets:List UInt8) (k:Nat)
 | ref (k:Nat)
 | con (v:Value)
inductive Al where
 | lst (xs:List AV)
 | dict (es:List (Str×AV))
 | fdict (es:List (Str×AV))
 | iter (xs:List AV) (i:Nat)
 | spot (n:Nat)
 | tbl (n:Nat)
 | sent
 | dead
noncomputable abbrev Sto:=List Al
noncomputable def lim:Nat:=100000
noncomputable def M(α:Type):Type:=Sto->Option (Except Str α×Sto)
namespace M
variable{α β:Type}
noncomputable def ret(a:α):M α:=λJ=>some (.ok a,J)
noncomputable def fail:M α:=λ_=>none
noncomputable def raise(x:Str):M α:=λJ=>some (.error x,J)
noncomputable def bnd(m:M α)(f:α->M β):M β:=λJ=>match m J with
 | none=>none
 | some (.error x,J')=>some (.error x,J')
 | some (.ok a,J')=>f a J'
noncomputable def ofOpt:Option α->M α
 | some a=>ret a
 | none=>fail
noncomputable def get(k:Nat):M Al:=λJ=>match J[k]? with
 | some o=>some (.ok o,J)
 | none=>none
noncomputable def set(k:Nat)(o:Al):M Unit:=λJ=>some (.ok (),List.set J k o)
noncomputable def new(o:Al):M AV:=λJ=>some (.ok (.ref J.length),J++[o])
noncomputable def grd(c:Bool)(m:M α):M α:=match c with
 | true=>m
 | false=>fail
noncomputable def still(m:M α):M α:=λJ=>match m J with
 | some (.ok a,J')=>some (.ok a,J')
 | _=>none
end M
noncomputable def Tq(a b:Str):Bool:=decide (a.cps.toList<b.cps.toList)
noncomputable def eqL(f:AV->AV->Option Bool):List AV->List AV->Option Bool
 | x::xs,y::ys=>match f x y,eqL f xs ys with
  | some b,some c=>some (b&&c)
  | _,_=>none
 | _,_=>some true
noncomputable def eqB(r:Option (AV->AV->Option Bool))(a b:AV):Option Bool:=match a with
 | .int x=>(match b with | .int y=>some (x == y) | _=>Option.none)
 | .str x=>(match b with | .str y=>some (x == y) | _=>Option.none)
 | .bytes x=>(match b with | .bytes y=>some (x == y) | _=>Option.none)
 | .tup x=>(match b with | .tup y=>(r.bind λf=>(eqL f x y).map (·&&x.length == y.length)) | _=>Option.none)
 | .lst x=>(match b with | .lst y=>(r.bind λf=>if x.length=y.length then eqL f x y else some false) | _=>Option.none)
 | _=>Option.none
noncomputable def eqA:Nat->AV->AV->Option Bool
 | 0=>eqB Option.none
 | k+1=>eqB (some (eqA k))
noncomputable def ltL(eq lt:AV->AV->Option Bool):List AV->List AV->Option Bool
 | x::xs,y::ys=>match eq x y with
  | some true=>ltL eq lt xs ys
  | some false=>lt x y
  | Option.none=>Option.none
 | xs,ys=>some (decide (xs.length<ys.length))
noncomputable def ltB(r:Option ((AV->AV->Option Bool)×(AV->AV->Option Bool)))(a b:AV):Option Bool:=match a with
 | .int x=>(match b with | .int y=>some (decide (x<y)) | _=>Option.none)
 | .str x=>(match b with | .str y=>some (Tq x y) | _=>Option.none)
 | .tup x=>(match b with | .tup y=>(r.bind λp=>ltL p.1 p.2 x y) | _=>Option.none)
 | .lst x=>(match b with | .lst y=>(r.bind λp=>ltL p.1 p.2 x y) | _=>Option.none)
 | _=>Option.none
noncomputable def ltA:Nat->AV->AV->Option Bool
 | 0=>ltB Option.none
 | k+1=>ltB (some (eqA k,ltA k))
noncomputable def dp:Nat:=8
noncomputable def Gz{α:Type}(xs:List α)(lo hi st:Option Int):List α:=
 (sliceRange (sliceBounds lo hi st xs.length).1 (sliceBounds lo hi st xs.length).2.1 (sliceBounds lo hi st xs.length).2.2).filterMap (xs[·]?)
noncomputable def Ga{α:Type}(cmp:Nat->Nat->Option Bool):W.KasT α->Option α
 | .ret a=>some a
 | .ask i j k=>match cmp i j with
  | some b=>Ga cmp (k b)
  | Option.none=>Option.none
noncomputable def Tr:AV->Bool
 | .int _=>true
 | _=>false
noncomputable def isTup:AV->Bool
 | .tup _=>true
 | _=>false
noncomputable def Li(p:AV->Bool):AV->Bool
 | .tup (x::_)=>p x
 | _=>false
noncomputable def Cy(xs:List AV):Option (List AV):=
 if xs.length<2 then Option.none
 else if 64<=xs.length then Option.none
 else if xs.all (λx=>Li Tr x)||xs.all (λx=>Li isTup x) then
  (Ga (λi j=>ltA dp (xs.getD i .none) (xs.getD j .none)) (W.kas_sort xs.length)).map λp=>p.toList.map λi=>xs.getD i .none
 else Option.none
noncomputable def Bv(v:AV):M (List AV):=match v with
 | .lst xs=>.ret xs
 | .ref k=>(M.get k).bnd λo=>match o with
  | .lst xs=>.ret xs
  | _=>.fail
 | _=>.fail
noncomputable def Ac(v:AV):M Bool:=match v with
 | .none=>.ret false
 | .bool b=>.ret b
 | .int i=>.ret (decide (i≠0))
 | .str s=>.ret (decide (s.length≠0))
 | .bytes b=>.ret (decide (b.length≠0))
 | .lst xs=>.ret (decide (xs.length≠0))
 | .ref k=>(M.get k).bnd λo=>match o with
  | .lst xs=>.ret (decide (xs.length≠0))
  | _=>.fail
 | _=>.fail
inductive Bin where | add | sub | mul | fdiv | mod | shr
inductive Cmp where | eq | ne | lt | ge | gt | nin | isin | is
inductive BI where | len | min | sum | abs | ord | sorted | iter | isinstance | issubclass | range | str | bytes | type | object
inductive ME where | startswith | endswith | split | rfind | rstrip | count | join | decode | append | pop | sort | get | read
mutual
inductive IE where
 | stuck
 | lit (v:AV)
 | dict
 | var (i:Nat)
 | cvar (i:Nat)
 | frz (i:Nat)
 | bin (op:Bin) (a b:IE)
 | neg (a:IE)
 | not (a:IE)
 | and (as:List IE)
 | or (as:List IE)
 | cmp (op:Cmp) (a b:IE)
 | ite (c a b:IE)
 | tup (es:List IE)
 | lst (m:Bool) (es:List IE)
 | comp (m:Bool) (elt:IE) (ts:List Nat) (iter:II) (ifs:List IE)
 | call (f:IE) (as:List IE)
 | blt (b:BI) (as:List IE)
 | sortk (a k:IE)
 | mink (it d k:IE)
 | meth (o:IE) (name:ME) (as:List IE)
 | idx (o i:IE)
 | slc (o:IE) (lo hi st:Option IE)
inductive II where
 | val (e:IE)
 | rev (e:IE)
 | zip (n e:IE)
end
inductive IT where
 | var (i:Nat)
 | tup (is:List Nat)
 | idx (o i:IE)
inductive IS where
 | stuck
 | ass (t:IT) (e:IE)
 | aug (i:Nat) (op:Bin) (e:IE)
 | expr (e:IE)
 | ret (e:IE)
 | ite (c:IE) (a b:List IS)
 | whl (c:IE) (b:List IS)
 | forr (t:IT) (iter:II) (b:List IS)
 | brk | cnt | pass
 | asrt (c:IE)
 | raise (e:IE)
 | trye (b els:List IS)
 | tryw (c:IE) (b:List IS) (i j:Nat)
structure Fn where
 np:Nat
 va:Bool
 df:List AV
 body:List IS
noncomputable abbrev Ae:=Nat->Option AV
noncomputable def put(Y:Ae)(i:Nat)(v:AV):Ae:=λj=>if j=i then some v else Y j
noncomputable def Ev(Y:Ae):List Nat->List AV->Ae
 | i::is,v::vs=>Ev (put Y i v) is vs
 | _,_=>Y
inductive Fl where
 | nxt | brk | cnt
 | ret (v:AV)
noncomputable def Qh{α:Type}(xs:List α)(n:Int):List α:=(List.replicate n.toNat xs).flatten
noncomputable def Aef:Str:=⟨#[101,120,112,101,99,116,101,100,32,37,100,32,98,121,116,101,115,32,105,110,32,97,32,115,116,114,105,110,103,49,44,32,98,117,116,32,111,110,108,121,32,37,100,32,114,101,109,97,105,110]⟩
noncomputable def Aeg:Str:=⟨#[101,120,112,101,99,116,101,100,32,37,100,32,98,121,116,101,115,32,105,110,32,97,32,98,121,116,101,115,49,44,32,98,117,116,32,111,110,108,121,32,37,100,32,114,101,109,97,105,110]⟩
noncomputable def Ip(x:Str)(n k:Int):Option Str:=
 if x=Aef then some (Str.ofString "expected "++Str.ofString (toString n)++Str.ofString " bytes in a string1, but only "++Str.ofString (toString k)++Str.ofString " remain")
 else if x=Aeg then some (Str.ofString "expected "++Str.ofString (toString n)++Str.ofString " bytes in a bytes1, but only "++Str.ofString (toString k)++Str.ofString " remain")
 else Option.none
noncomputable def De:List AV->Option (List Int)
 | []=>some []
 | .int i::r=>(De r).map (i::·)
 | _=>Option.none
noncomputable def one(f:AV->M AV)(as:List AV):M AV:=match as with
 | []=>.fail
 | v::r=>(match r with
  | []=>f v
  | _::_=>.fail)
noncomputable def two(f:AV->AV->M AV)(as:List AV):M AV:=match as with
 | []=>.fail
 | v::r=>one (f v) r
noncomputable def Ph{α:Type}(m:M α)(as:List AV):M α:=match as with
 | []=>m
 | _::_=>.fail
noncomputable def Qi(f:Str->M AV)(v:AV):M AV:=match v with
 | .str y=>f y
 | _=>.fail
noncomputable def Kl(f:Int->M AV)(v:AV):M AV:=match v with
 | .int y=>f y
 | _=>.fail
noncomputable def Vx(f:List AV->M AV)(v:AV):M AV:=match v with
 | .tup xs=>f xs
 | _=>.fail
noncomputable def Qj(f:Int->Int->M AV)(a b:AV):M AV:=match a with
 | .int x=>(match b with | .int y=>f x y | _=>.fail)
 | _=>.fail
noncomputable def Vy(a b:AV):M AV:=match a with
 | .int x=>(match b with | .int y=>.ret (.int (x+y)) | _=>.fail)
 | .str x=>(match b with | .str y=>.grd (decide (x.length+y.length<lim)) (.ret (.str (x++y))) | _=>.fail)
 | .lst x=>(match b with | .lst y=>.grd (decide (x.length+y.length<lim)) (.ret (.lst (x++y))) | _=>.fail)
 | _=>.fail
noncomputable def Aeh(a b:AV):M AV:=match b with
 | .int y=>(match a with
  | .int x=>.grd (decide (-(2 ^ 62)<x/\x<2 ^ 62 /\ -(2 ^ 62)<y/\y<2 ^ 62)) (.ret (.int (x*y)))
  | .str x=>.grd (decide (x.length=1/\0<=y/\y<lim)) (.ret (.str ⟨(Qh x.cps.toList y).toArray⟩))
  | .lst x=>.grd (decide (x.length=1/\0<=y/\y<64)) (.ret (.lst (Qh x y)))
  | _=>.fail)
 | _=>.fail
noncomputable def Aei(a b:AV):M AV:=match a with
 | .int x=>(match b with | .int y=>.grd (decide (0<y)) (.ret (.int (x % y))) | _=>.fail)
 | .str x=>Vx (two (Qj λn k=>.grd (decide (0<=n/\n<1000/\0<=k/\k<1000)) ((M.ofOpt (Ip x n k)).bnd λt=>.ret (.str t)))) b
 | _=>.fail
noncomputable def Aej:AV->AV->M AV:=Qj λx y=>.grd (decide (0<y/\y<2 ^ 29)) (.ret (.int (x / y)))
noncomputable def Iq(op:Bin):AV->AV->M AV:=match op with
 | .add=>Vy
 | .sub=>Qj λx y=>.ret (.int (x - y))
 | .mul=>Aeh
 | .fdiv=>Aej
 | .mod=>Aei
 | .shr=>Qj λx y=>.grd (decide (y=1/\0<=x)) (.ret (.int (x / 2)))
noncomputable def Vz(op:Bin)(a b:AV):M AV:=match op with
 | .add=>(match a with
  | .lst _=>.fail
  | a=>Vy a b)
 | .fdiv=>Aej a b
 | _=>.fail
noncomputable def inA(x:AV):List AV->Option Bool
 | []=>some false
 | y::ys=>match eqA dp y x,inA x ys with
  | some b,some c=>some (b||c)
  | _,_=>none
noncomputable def Auo(f:Int->Int->Bool):AV->AV->M AV:=Qj λx y=>.ret (.bool (f x y))
noncomputable def isA(a b:AV):M AV:=match a with
 | .none=>(match b with | .none=>.ret (.bool true) | _=>.fail)
 | .tup _=>(match b with
  | .ref k=>(M.get k).bnd λo=>(match o with
   | .sent=>.ret (.bool false)
   | _=>.fail)
  | _=>.fail)
 | _=>.fail
noncomputable def Ts(op:Cmp)(a b:AV):M AV:=match op with
 | .eq=>(M.ofOpt (eqA dp a b)).bnd λr=>.ret (.bool r)
 | .ne=>(M.ofOpt (eqA dp a b)).bnd λr=>.ret (.bool (!r))
 | .lt=>(M.ofOpt (ltA dp a b)).bnd λr=>.ret (.bool r)
 | .gt=>Auo (λx y=>decide (y<x)) a b
 | .ge=>Auo (λx y=>decide (y<=x)) a b
 | .isin=>(Bv b).bnd λys=>(M.ofOpt (inA a ys)).bnd λr=>.ret (.bool r)
 | .nin=>(Bv b).bnd λys=>(M.ofOpt (inA a ys)).bnd λr=>.ret (.bool (!r))
 | .is=>isA a b
noncomputable def Be(es:List (Str×AV))(k:Str):Option AV:=es.lookup k
noncomputable def Hb:List (Str×AV)->Str->AV->List (Str×AV)
 | [],k,v=>[(k,v)]
 | (x,y)::r,k,v=>if x == k then (x,v)::r else (x,y)::Hb r k v
noncomputable def atA(n:Int)(xs:List AV):M AV:=match seqIndex? n xs.length with
 | some j=>M.ofOpt xs[j]?
 | Option.none=>.fail
noncomputable def Aup(o:AV)(n:Int):M AV:=match o with
 | .tup xs=>atA n xs
 | .lst xs=>atA n xs
 | .ref k=>(Bv (.ref k)).bnd (atA n)
 | .bytes b=>if 0<=n/\n<b.length then (match b[n.toNat]? with
  | some u=>.ret (.int u.toNat)
  | Option.none=>.fail) else .fail
 | _=>.fail
noncomputable def dictOf(k:Nat):M (List (Str×AV)):=(M.get k).bnd λob=>match ob with
 | .dict es=>.ret es
 | .fdict es=>.ret es
 | _=>.fail
noncomputable def Lz(o i:AV):M AV:=match i with
 | .int n=>if -(2 ^ 62)<=n/\n<2 ^ 62 then Aup o n else .fail
 | .str x=>(match o with
  | .ref k=>(dictOf k).bnd λes=>M.ofOpt (Be es x)
  | _=>.fail)
 | _=>.fail
noncomputable def Gb(o i v:AV):M Unit:=match o with
 | .ref k=>(match i with
  | .int n=>(M.get k).bnd λob=>(match ob with
   | .lst xs=>if 0<=n/\n<xs.length then M.set k (.lst (xs.set n.toNat v)) else .fail
   | _=>.fail)
  | .str x=>(M.get k).bnd λob=>(match ob with
   | .dict es=>M.grd (decide (es.length<lim)) (M.set k (.dict (Hb es x v)))
   | _=>.fail)
  | _=>.fail)
 | _=>.fail
noncomputable def Zl(o:Option AV):M (Option Int):=match o with
 | Option.none=>.ret Option.none
 | some v=>(match v with
  | .int i=>.ret (some i)
  | _=>.fail)
noncomputable def Bt(v:Option Int)(d n:Nat):Nat:=match v with
 | Option.none=>d
 | some i=>if i<0 then (i+n).toNat else min i.toNat n
noncomputable def Cl{α:Type}(lo hi:Option Int)(xs:List α):List α:=(xs.drop (Bt lo 0 xs.length)).take (Bt hi xs.length xs.length - Bt lo 0 xs.length)
noncomputable def Auq(x:Str)(l h s:Option Int):M AV:=match s with
 | Option.none=>.ret (.str ⟨(Cl l h x.cps.toList).toArray⟩)
 | some _=>.fail
noncomputable def Aur(xs:List AV)(l h s:Option Int):M AV:=match s with
 | Option.none=>.ret (.lst (Cl l h xs))
 | some n=>if n=0 then .fail else .ret (.lst (Gz xs l h (some n)))
noncomputable def Abx(o:AV)(lo hi st:Option AV):M AV:=(Zl lo).bnd λl=>(Zl hi).bnd λh=>(Zl st).bnd λs=>match o with
 | .str x=>Auq x l h s
 | .lst xs=>Aur xs l h s
 | _=>.fail
noncomputable def Aus(v:AV):M AV:=match v with
 | .str s=>.ret (.int s.length)
 | .bytes b=>.ret (.int b.length)
 | .lst xs=>.ret (.int xs.length)
 | .ref k=>(Bv (.ref k)).bnd λxs=>.ret (.int xs.length)
 | _=>.fail
noncomputable def Aut(v:AV):M AV:=match v with
 | .str s=>(match s.cps.toList with
  | [c]=>.ret (.int c)
  | _=>.fail)
 | _=>.fail
noncomputable def Auu(v:AV):M AV:=match v with
 | .int i=>if 0<=i/\i<1000 then .ret (.str (Str.ofString (toString i))) else .fail
 | .exc m=>.ret (.str m)
 | _=>.fail
noncomputable def Aka{α:Type}(f:List AV->M α)(v:AV):M α:=match v with
 | .lst xs=>f xs
 | _=>.fail
noncomputable def Wa(xs:List AV):M AV:=match De xs with
 | some is=>if is.all (λi=>0<=i&&i<256) then .ret (.bytes (is.map λi=>UInt8.ofNat i.toNat)) else .fail
 | Option.none=>.fail
noncomputable def Mq(v:AV)(n:String):Bool:=match v with
 | .con (.type m)=>m == n
 | _=>false
noncomputable def Aek:AV->Bool
 | .str _=>true
 | _=>false
noncomputable def Ael(as:List AV):M AV:=match as with
 | []=>.fail
 | v::r=>(match r with
  | []=>Kl (λb=>.ret (.rng 0 b)) v
  | w::r=>Ph (Qj (λa b=>.ret (.rng a b)) v w) r)
noncomputable def Aby(b:BI)(as:List AV):M AV:=match b with
 | .len=>one Aus as
 | .min=>two (Qj λa b=>.ret (.int (if b<a then b else a))) as
 | .sum=>one (Aka λxs=>(M.ofOpt (De xs)).bnd λis=>.ret (.int is.sum)) as
 | .abs=>one (Kl λa=>.ret (.int a.natAbs)) as
 | .ord=>one Aut as
 | .sorted=>one (λv=>(Bv v).bnd λxs=>(M.ofOpt (Cy xs)).bnd λys=>.grd (decide (ys.length<lim)) (.ret (.lst ys))) as
 | .iter=>one (Aka λxs=>M.new (.iter xs 0)) as
 | .object=>Ph (M.new .sent) as
 | .isinstance=>two (λv t=>if Aek v&&Mq t "bytes" then .ret (.bool false) else .fail) as
 | .issubclass=>two (λv t=>Vx (two λp q=>if Mq v "str"&&Mq p "str"&&Mq q "bytes" then .ret (.bool true) else .fail) t) as
 | .range=>Ael as
 | .str=>one Auu as
 | .bytes=>one (Aka Wa) as
 | .type=>one (λv=>if Aek v then .ret (.con (.type "str")) else .fail) as
noncomputable def Ov:AV->List AV->Option AV
 | c,[]=>some c
 | c,x::xs=>match ltA dp x c with
  | some true=>Ov x xs
  | some false=>Ov c xs
  | Option.none=>Option.none
noncomputable def Gc(j:Nat):M (List AV×Nat):=(M.get j).bnd λo=>match o with
 | .iter xs i=>.ret (xs,i)
 | _=>.fail
noncomputable def Apg(it k:AV):M AV:=match it with
 | .ref j=>(match k with
  | .none=>(Gc j).bnd λp=>(match p.1.drop p.2 with
   | []=>.fail
   | x::r=>(M.ofOpt (Ov x r)).bnd λv=>(M.set j .dead).bnd λ_=>.ret v)
  | _=>.fail)
 | _=>.fail
noncomputable def Aj(c:Nat):List Nat->List (List Nat)
 | []=>[[]]
 | x::r=>if x=c then []::Aj c r else match Aj c r with
  | w::ws=>(x::w)::ws
  | []=>[[x]]
noncomputable def Fb(c:Nat):List Nat->Int
 | [] => -1
 | x::r=>let k:=Fb c r;if 0<=k then k+1 else if x=c then 0 else -1
noncomputable def Hu(c:Nat)(x:List Nat):List Nat:=(x.reverse.dropWhile (· == c)).reverse
noncomputable def Bm(sep:List Nat):List (List Nat)->List Nat
 | []=>[]
 | [x]=>x
 | x::r=>x++sep++Bm sep r
noncomputable def Fc:List AV->Option (List (List Nat))
 | []=>some []
 | .str s::r=>(Fc r).map (s.cps.toList::·)
 | _=>Option.none
noncomputable def mk(x:List Nat):AV:=.str ⟨x.toArray⟩
noncomputable def Qk(s:List Nat)(name:ME)(c:Nat):M AV:=match name with
 | .startswith=>.ret (.bool (s.head? == some c))
 | .endswith=>.ret (.bool (s.getLast? == some c))
 | .split=>.grd (decide (s.length+1<lim)) (.ret (.lst ((Aj c s).map mk)))
 | .rfind=>.ret (.int (Fb c s))
 | .rstrip=>.ret (mk (Hu c s))
 | .count=>.ret (.int (s.count c))
 | _=>.fail
noncomputable def Mf(k:Nat)(xs:List AV)(name:ME)(as:List AV):M AV:=match name with
 | .append=>one (λv=>.grd (decide (xs.length+1<lim)) ((M.set k (.lst (xs++[v]))).bnd λ_=>.ret .none)) as
 | .pop=>Ph (match xs.getLast? with
  | some v=>(M.set k (.lst xs.dropLast)).bnd λ_=>.ret v
  | Option.none=>.fail) as
 | .sort=>Ph ((M.ofOpt (Cy xs)).bnd λys=>.grd (decide (ys.length<lim)) ((M.set k (.lst ys)).bnd λ_=>.ret .none)) as
 | _=>.fail
noncomputable def Tt(s:List Nat)(xs:List AV):M AV:=match Fc xs with
 | some l=>.grd (decide ((Bm s l).length<lim)) (.ret (mk (Bm s l)))
 | Option.none=>.fail
noncomputable def Ql(k:Nat):M Nat:=(M.get k).bnd λob=>match ob with
 | .spot sp=>.ret sp
 | _=>.fail
noncomputable def Zm(oc:List UInt8)(k:Nat)(n:Int):M AV:=.grd (decide (0<=n/\n<lim)) ((Ql k).bnd λsp=>
 (M.set k (.spot (min oc.length (sp+n.toNat)))).bnd λ_=>.ret (.bytes ((oc.drop sp).take (min oc.length (sp+n.toNat) - sp))))
noncomputable def Akb(f:Nat->M AV):AV->M AV:=Qi λy=>match y.cps.toList with
 | [c]=>.grd (decide (c<256)) (f c)
 | _=>.fail
set_option genCtorIdx false in
inductive Kd where
 | str (s:List Nat)
 | bytes (b:List UInt8)
 | lst (k:Nat) (xs:List AV)
 | dict (k:Nat) (es:List (Str×AV))
 | strm (oc:List UInt8) (k:Nat)
noncomputable def Gd(v:AV):M Kd:=match v with
 | .str s=>.ret (.str s.cps.toList)
 | .bytes b=>.ret (.bytes b)
 | .ref k=>(M.get k).bnd λo=>(match o with
  | .lst xs=>.ret (.lst k xs)
  | .dict es=>.ret (.dict k es)
  | .fdict es=>.ret (.dict k es)
  | _=>.fail)
 | .strm oc k=>.ret (.strm oc k)
 | _=>.fail
noncomputable def Aqm(m:ME):Bool:=match m with
 | .startswith=>true | .endswith=>true | .split=>true | .rfind=>true | .rstrip=>true | .count=>true | .join=>true
 | _=>false
noncomputable def Aem(m:ME):Bool:=match m with
 | .append=>true | .pop=>true | .sort=>true
 | _=>false
noncomputable def Hd:ME->Bool
 | .decode=>true
 | _=>false
noncomputable def Tu:ME->Bool
 | .get=>true
 | _=>false
noncomputable def Wb:ME->Bool
 | .read=>true
 | _=>false
noncomputable def Wc:ME->Bool
 | .join=>true
 | _=>false
noncomputable def methA(o:AV)(name:ME)(as:List AV):M AV:=(Gd o).bnd λk=>match k with
 | .str s=>bif Wc name then one (λv=>(Bv v).bnd (Tt s)) as else one (Akb (Qk s name)) as
 | .bytes b=>bif Hd name then one (Qi λy=>.grd (decide (y.cps.toList=[108,97,116,105,110,45,49])) (.ret (mk (b.map (·.toNat))))) as else .fail
 | .lst k xs=>Mf k xs name as
 | .dict _ es=>bif Tu name then two (λx d=>Qi (λx=>.ret ((Be es x).getD d)) x) as else .fail
 | .strm oc k=>bif Wb name then one (Kl (Zm oc k)) as else .fail
noncomputable def kindA(v:AV)(m:ME):M Unit:=(Gd v).bnd λk=>.grd (match k with
 | .str _=>Aqm m
 | .bytes _=>Hd m
 | .lst _ _=>Aem m
 | .dict _ _=>Tu m
 | .strm _ _=>Wb m) (.ret ())
inductive Src where
 | live (k i:Nat)
 | froz (xs:List AV)
 | rng (a b:Int)
 | rev (n:Int)
 | chars (s:List Nat)
 | iter (k:Nat)
 | zip (a b:Int) (k:Nat)
noncomputable def small(a b:Int):Bool:=decide (-1000000<a/\a<1000000 /\ -1000000<b/\b<1000000)
noncomputable def Jg(s:Src)(n:Nat):Bool:=match s with
 | .zip _ _ _=>decide (2<=n)
 | _=>true
noncomputable def Mr(v:AV):M Src:=match v with
 | .lst xs=>.ret (.froz xs)
 | .tup xs=>.ret (.froz xs)
 | .rng a b=>.grd (small a b) (.ret (.rng a b))
 | .str s=>.ret (.chars s.cps.toList)
 | .ref k=>(M.get k).bnd λo=>(match o with
  | .lst _=>.ret (.live k 0)
  | .iter _ _=>.ret (.iter k)
  | .dict es=>.grd (es.all λe=>decide (e.1.length<lim)) ((M.set k (.fdict es)).bnd λ_=>.ret (.froz (es.map λe=>.str e.1)))
  | _=>.fail)
 | _=>.fail
noncomputable def Ek(k:Nat):M (Option AV):=(Gc k).bnd λp=>match p.1[p.2]? with
 | some v=>(M.set k (.iter p.1 (p.2+1))).bnd λ_=>.ret (some v)
 | Option.none=>(M.set k .dead).bnd λ_=>.ret Option.none
noncomputable def srcNext(s:Src):M (Option (AV×Src)):=match s with
 | .live k i=>(Bv (.ref k)).bnd λxs=>.ret (xs[i]?.map λv=>(v,.live k (i+1)))
 | .froz xs=>.ret (match xs with | []=>Option.none | x::xs=>some (x,.froz xs))
 | .rng a b=>.ret (if a<b then some (.int a,.rng (a+1) b) else Option.none)
 | .rev n=>.ret (if 0<n then some (.int (n - 1),.rev (n - 1)) else Option.none)
 | .chars cs=>.ret (match cs with | []=>Option.none | c::cs=>some (mk [c],.chars cs))
 | .iter k=>(Ek k).bnd λr=>.ret (r.map λv=>(v,.iter k))
 | .zip a b k=>if a<b then (Ek k).bnd λr=>(match r with
  | some v=>.ret (some (.tup [.int a,v],.zip (a+1) b k))
  | Option.none=>.fail)
  else .ret Option.none
noncomputable def Ms(n:Nat)(v:AV):M (List AV):=match v with
 | .tup vs=>if vs.length=n then .ret vs else .fail
 | _=>.fail
noncomputable def Jh(Y:Ae)(ts:List Nat)(v:AV):M Ae:=match ts with
 | [i]=>.ret (put Y i v)
 | is=>(Ms is.length v).bnd λvs=>.ret (Ev Y is vs)
structure Bi where
 fn:Addr->Option Fn
 stream:Addr
noncomputable abbrev XR:=Except (Bool×Str) Fl×Ae×Sto
noncomputable def X:Type:=Sto->Option XR
namespace X
noncomputable def fail:X:=λ_=>none
noncomputable def ret(f:Fl)(Y:Ae):X:=λJ=>some (.ok f,Y,J)
noncomputable def of{α:Type}(m:M α)(Y:Ae)(f:α->X):X:=λJ=>match m J with
 | none=>none
 | some (.error x,J')=>some (.error (false,x),Y,J')
 | some (.ok a,J')=>f a J'
noncomputable def thn(m:X)(f:Fl->Ae->X):X:=λJ=>match m J with
 | none=>none
 | some (.error x,Y,J')=>some (.error x,Y,J')
 | some (.ok fl,Y,J')=>f fl Y J'
noncomputable def still(m:X):X:=λJ=>match m J with
 | some (.ok a,r)=>some (.ok a,r)
 | _=>none
noncomputable def val(m:X):M AV:=λJ=>match m J with
 | some (.ok (.ret v),_,J')=>some (.ok v,J')
 | some (.ok .nxt,_,J')=>some (.ok .none,J')
 | some (.error x,_,J')=>some (.error x.2,J')
 | _=>none
end X
noncomputable def Zn:M Unit:=(M.get 0).bnd λo=>match o with
 | .tbl _=>.ret ()
 | _=>.fail
noncomputable def Lj(b:List UInt8):M AV:=Zn.bnd λ_=>(M.set 0 (.tbl 1)).bnd λ_=>λJ=>some (.ok (.strm b J.length),J++[.spot 0])
structure Tab where
 ev:Nat->Ae->IE->M AV
 it:Nat->Ae->II->M Src
 op:Nat->Ae->Option IE->M (Option AV)
 evs:Nat->Ae->List IE->M (List AV)
 conj:Nat->Ae->List IE->M AV
 disj:Nat->Ae->List IE->M AV
 ifs:Nat->Ae->List IE->M Bool
 comp:Nat->Ae->IE->List Nat->List IE->Src->List AV->M (List AV)
 call:Nat->Addr->List AV->M AV
 ex:Nat->Ae->IS->X
 exs:Nat->Ae->List IS->X
 whl:Nat->Ae->IE->List IS->X
 forr:Nat->Ae->IT->List IS->Src->X
noncomputable def Tab.zero:Tab:=⟨λ_ _ _=>.fail,λ_ _ _=>.fail,λ_ _ _=>.fail,λ_ _ _=>.fail,λ_ _ _=>.fail,λ_ _ _=>.fail,λ_ _ _=>.fail,λ_ _ _ _ _ _ _=>.fail,λ_ _ _=>.fail,λ_ _ _=>.fail,λ_ _ _=>.fail,λ_ _ _ _=>.fail,λ_ _ _ _ _=>.fail⟩
noncomputable def Qm{α:Type}(f:Addr->M α)(v:AV):M α:=match v with
 | .con c=>(match c with
  | .ref a=>f a
  | _=>.fail)
 | _=>.fail
noncomputable def Auv(v:AV):M AV:=match v with
 | .ref k=>(Bv (.ref k)).bnd λxs=>(M.set k .dead).bnd λ_=>.ret (.lst xs)
 | _=>.fail
noncomputable def Akc{α:Type}(m:M α)(v:AV):M α:=match v with
 | .none=>m
 | _=>.fail
noncomputable def evF(P:Bi)(T:Tab)(lv:Nat)(Y:Ae)(e:IE):M AV:=match e with
 | .stuck=>.fail
 | .lit v=>.ret v
 | .dict=>M.new (.dict [])
 | .var i=>M.ofOpt (Y i)
 | .cvar i=>M.ofOpt (Y i)
 | .frz i=>(M.ofOpt (Y i)).bnd Auv
 | .bin op a b=>(T.ev lv Y a).bnd λx=>(T.ev lv Y b).bnd λy=>Iq op x y
 | .neg a=>(T.ev lv Y a).bnd (Kl λi=>.ret (.int (-i)))
 | .not a=>(T.ev lv Y a).bnd λx=>(Ac x).bnd λt=>.ret (.bool (!t))
 | .and as=>T.conj lv Y as
 | .or as=>T.disj lv Y as
 | .cmp op a b=>(T.ev lv Y a).bnd λx=>(T.ev lv Y b).bnd λy=>Ts op x y
 | .ite c a b=>(T.ev lv Y c).bnd λx=>(Ac x).bnd λt=>if t then T.ev lv Y a else T.ev lv Y b
 | .tup es=>(T.evs lv Y es).bnd λvs=>.grd (decide (vs.length<lim)) (.ret (.tup vs))
 | .lst m es=>(T.evs lv Y es).bnd λvs=>.grd (decide (vs.length<lim)) (if m then M.new (.lst vs) else .ret (.lst vs))
 | .comp m elt ts iter ifs=>.grd (((List.range 32).all λj=>(Y (100+j)).isNone)&&ts.all (λi=>decide (100<=i))) <| (T.it lv Y iter).bnd λs=>M.grd (Jg s ts.length) <| (M.still (T.comp lv Y elt ts ifs s [])).bnd λvs=>if m then M.new (.lst vs) else .ret (.lst vs)
 | .call f as=>(T.ev lv Y f).bnd λfv=>(T.evs lv Y as).bnd λvs=>Qm (λa=>T.call lv a vs) fv
 | .blt b as=>(T.evs lv Y as).bnd λvs=>Aby b vs
 | .sortk a k=>(T.ev lv Y a).bnd λv=>(T.ev lv Y k).bnd (Akc (Aby .sorted [v]))
 | .mink it d k=>(T.ev lv Y it).bnd λiv=>(T.ev lv Y d).bnd λ_=>(T.ev lv Y k).bnd (Apg iv)
 | .meth o name as=>(T.ev lv Y o).bnd λov=>(kindA ov name).bnd λ_=>(M.still (T.evs lv Y as)).bnd λvs=>methA ov name vs
 | .idx o i=>(T.ev lv Y o).bnd λov=>(T.ev lv Y i).bnd λiv=>Lz ov iv
 | .slc o lo hi st=>(T.ev lv Y o).bnd λov=>(T.op lv Y lo).bnd λl=>(T.op lv Y hi).bnd λh=>(T.op lv Y st).bnd λs=>Abx ov l h s
noncomputable def Auw(v:AV):M Src:=match v with
 | .rng a m=>M.grd (decide (a=0/\0<=m)&&small a m) (M.ret (Src.rev m))
 | _=>.fail
noncomputable def Aux(v w:AV):M Src:=match v with
 | .rng a b=>(match w with
  | .ref k=>M.grd (small a b) ((Gc k).bnd λ_=>M.ret (Src.zip a b k))
  | _=>.fail)
 | _=>.fail
noncomputable def itF(T:Tab)(lv:Nat)(Y:Ae)(it:II):M Src:=match it with
 | .val e=>(T.ev lv Y e).bnd Mr
 | .rev e=>(T.ev lv Y e).bnd Auw
 | .zip e f=>(T.ev lv Y e).bnd λv=>(T.ev lv Y f).bnd (Aux v)
noncomputable def opF(T:Tab)(lv:Nat)(Y:Ae)(e:Option IE):M (Option AV):=match e with
 | Option.none=>.ret Option.none
 | some e=>(T.ev lv Y e).bnd λv=>.ret (some v)
noncomputable def Axv(T:Tab)(lv:Nat)(Y:Ae)(es:List IE):M (List AV):=match es with
 | []=>.ret []
 | e::es=>(T.ev lv Y e).bnd λv=>(T.evs lv Y es).bnd λvs=>.ret (v::vs)
noncomputable def Auy(T:Tab)(lv:Nat)(Y:Ae)(es:List IE):M AV:=match es with
 | []=>.fail
 | e::es=>(match es with
  | []=>T.ev lv Y e
  | e'::es=>(T.ev lv Y e).bnd λv=>(Ac v).bnd λt=>if t then T.conj lv Y (e'::es) else .ret v)
noncomputable def Auz(T:Tab)(lv:Nat)(Y:Ae)(es:List IE):M AV:=match es with
 | []=>.fail
 | e::es=>(match es with
  | []=>T.ev lv Y e
  | e'::es=>(T.ev lv Y e).bnd λv=>(Ac v).bnd λt=>if t then .ret v else T.disj lv Y (e'::es))
noncomputable def Axw(T:Tab)(lv:Nat)(Y:Ae)(es:List IE):M Bool:=match es with
 | []=>.ret true
 | e::es=>(T.ev lv Y e).bnd λv=>(Ac v).bnd λt=>if t then T.ifs lv Y es else .ret false
noncomputable def Ava(T:Tab)(lv:Nat)(Y:Ae)(elt:IE)(ts:List Nat)(ifs:List IE)(s:Src)(acc:List AV):M (List AV):=(srcNext s).bnd λr=>match r with
 | Option.none=>.ret acc
 | some (v,s')=>(Jh Y ts v).bnd λY'=>(T.ifs lv Y' ifs).bnd λt=>
  if t then (T.ev lv Y' elt).bnd λx=>M.grd (decide (acc.length+1<lim)) (T.comp lv Y elt ts ifs s' (acc++[x])) else T.comp lv Y elt ts ifs s' acc
noncomputable def Hf(f:Fn)(vs:List AV):M (List AV):=bif f.va then (match vs with
 | []=>.fail
 | v::r=>(match r with
  | []=>.fail
  | w::r=>Ph (.ret [v,.tup [w]]) r)) else .grd (decide (vs.length+f.df.length=f.np)) (.ret (vs++f.df))
noncomputable def Ji(f:List UInt8->M AV)(v:AV):M AV:=match v with
 | .bytes b=>f b
 | _=>.fail
noncomputable def Avb(P:Bi)(T:Tab)(lv:Nat)(a:Addr)(vs:List AV):M AV:=match lv with
 | 0=>.fail
 | lv+1=>if a=P.stream then one (Ji Lj) vs else (M.ofOpt (P.fn a)).bnd λf=>(Hf f vs).bnd λws=>(T.exs lv (λi=>ws[i]?) f.body).val
noncomputable def Axx(T:Tab)(lv:Nat)(Y:Ae)(t:IT)(v:AV):X:=match t with
 | .var i=>.ret .nxt (put Y i v)
 | .tup is=>.of (Ms is.length v) Y λvs=>.ret .nxt (Ev Y is vs)
 | .idx o i=>.of (T.ev lv Y o) Y λov=>.of (T.ev lv Y i) Y λiv=>.of (Gb ov iv v) Y λ_=>.ret .nxt Y
noncomputable def Aen(Y:Ae)(v:AV):X:=match v with
 | .str m=>λJ=>some (.error (true,m),Y,J)
 | _=>.fail
noncomputable def Akd(Y:Ae)(fl:Fl)(x:X):X:=match fl with
 | .nxt=>x
 | fl=>.ret fl Y
noncomputable def Zo(Y:Ae)(fl:Fl)(x:X):X:=match fl with
 | .nxt=>x
 | .cnt=>x
 | .brk=>.ret .nxt Y
 | .ret v=>.ret (.ret v) Y
noncomputable def Zp(i j:Nat)(r:XR):Option XR:=match r with
 | (.ok fl,Y,J)=>(match fl with
  | .nxt=>some (.ok .nxt,Y,J)
  | _=>Option.none)
 | (.error (new,m),Y,J)=>bif new then Option.none else some (.ok .nxt,(λk=>if k=i then Option.none else put Y j (.str m) k),J)
noncomputable def exF(T:Tab)(lv:Nat)(Y:Ae)(s:IS):X:=match s with
 | .stuck=>.fail
 | .ass t e=>.of (T.ev lv Y e) Y (Axx T lv Y t)
 | .aug i op e=>.of (M.ofOpt (Y i)) Y λx=>.of (T.ev lv Y e) Y λy=>.of (Vz op x y) Y λz=>.ret .nxt (put Y i z)
 | .expr e=>.of (T.ev lv Y e) Y λ_=>.ret .nxt Y
 | .ret e=>.of (T.ev lv Y e) Y λv=>.ret (.ret v) Y
 | .ite c a b=>.of (T.ev lv Y c) Y λx=>.of (Ac x) Y λt=>if t then T.exs lv Y a else T.exs lv Y b
 | .whl c b=>.still (T.whl lv Y c b)
 | .forr t iter b=>.of (T.it lv Y iter) Y λs=>if Jg s 0 then .still (T.forr lv Y t b s) else .fail
 | .brk=>.ret .brk Y
 | .cnt=>.ret .cnt Y
 | .pass=>.ret .nxt Y
 | .asrt c=>.of (T.ev lv Y c) Y λx=>.of (Ac x) Y λt=>if t then .ret .nxt Y else .fail
 | .raise e=>.of (T.ev lv Y e) Y (Aen Y)
 | .trye b els=>.thn (.still (T.exs lv Y b)) λfl Y'=>Akd Y' fl (T.exs lv Y' els)
 | .tryw c b i j=>λJ=>(T.whl lv Y c b J).bind (Zp i j)
noncomputable def Axy(T:Tab)(lv:Nat)(Y:Ae)(l:List IS):X:=match l with
 | []=>.ret .nxt Y
 | s::r=>.thn (T.ex lv Y s) λfl Y'=>Akd Y' fl (T.exs lv Y' r)
noncomputable def Axz(T:Tab)(lv:Nat)(Y:Ae)(c:IE)(b:List IS):X:=.of (T.ev lv Y c) Y λx=>.of (Ac x) Y λt=>if t then .thn (T.exs lv Y b) λfl Y'=>Zo Y' fl (T.whl lv Y' c b) else .ret .nxt Y
noncomputable def Aqn(Y:Ae)(t:IT)(v:AV):M Ae:=match t with
 | .var i=>Jh Y [i] v
 | .tup is=>Jh Y is v
 | .idx _ _=>.fail
noncomputable def Aya(T:Tab)(lv:Nat)(Y:Ae)(t:IT)(b:List IS)(s:Src):X:=.of (srcNext s) Y λr=>match r with
 | Option.none=>.ret .nxt Y
 | some (v,s')=>.of (Aqn Y t v) Y λY1=>.thn (T.exs lv Y1 b) λfl Y'=>Zo Y' fl (T.forr lv Y' t b s')
noncomputable def Avc(P:Bi)(T:Tab):Tab:=⟨evF P T,itF T,opF T,Axv T,Auy T,Auz T,Axw T,Ava T,Avb P T,exF T,Axy T,Axz T,Aya T⟩
noncomputable def Jj(P:Bi):Nat->Tab
 | 0=>.zero
 | n+1=>Avc P (Jj P n)
noncomputable def evA(P:Bi)(n:Nat):=(Jj P n).ev
noncomputable def itA(P:Bi)(n:Nat):=(Jj P n).it
noncomputable def Wd(P:Bi)(n:Nat):=(Jj P n).op
noncomputable def evsA(P:Bi)(n:Nat):=(Jj P n).evs
noncomputable def Mt(P:Bi)(n:Nat):=(Jj P n).conj
noncomputable def orA(P:Bi)(n:Nat):=(Jj P n).disj
noncomputable def Tv(P:Bi)(n:Nat):=(Jj P n).ifs
noncomputable def Zq(P:Bi)(n:Nat):=(Jj P n).comp
noncomputable def Pi(P:Bi)(n:Nat):=(Jj P n).call
noncomputable def exA(P:Bi)(n:Nat):=(Jj P n).ex
noncomputable def Fg(P:Bi)(n:Nat):=(Jj P n).exs
noncomputable def Tw(P:Bi)(n:Nat):=(Jj P n).whl
noncomputable def Abz(P:Bi)(n:Nat):=(Jj P n).forr
noncomputable def Aeo:Operator->Option Bin
 | .Add=>some .add | .Sub=>some .sub | .Mult=>some .mul | .FloorDiv=>some .fdiv | .Mod=>some .mod | .RShift=>some .shr
 | _=>Option.none
noncomputable def Ake:CmpOp->Option Cmp
 | .Eq=>some .eq | .NotEq=>some .ne | .Lt=>some .lt | .GtE=>some .ge | .Gt=>some .gt | .NotIn=>some .nin | .In=>some .isin | .Is=>some .is
 | _=>Option.none
noncomputable def Aqo:BI->Value
 | .len=>.builtin "len" | .min=>.builtin "min" | .sum=>.builtin "sum" | .abs=>.builtin "abs" | .ord=>.builtin "ord" | .sorted=>.builtin "sorted" | .iter=>.builtin "iter" | .isinstance=>.builtin "isinstance" | .issubclass=>.builtin "issubclass"
 | .range=>.type "range" | .str=>.type "str" | .bytes=>.type "bytes" | .type=>.type "type" | .object=>.type "object"
noncomputable def Lk(v:Value):Option BI:=[BI.len,.min,.sum,.abs,.ord,.sorted,.iter,.isinstance,.issubclass,.range,.str,.bytes,.type,.object].find? λb=>decide (Aqo b=v)
noncomputable def meS:ME->String
 | .startswith=>"startswith" | .endswith=>"endswith" | .split=>"split" | .rfind=>"rfind" | .rstrip=>"rstrip" | .count=>"count" | .join=>"join" | .decode=>"decode" | .append=>"append" | .pop=>"pop" | .sort=>"sort" | .get=>"get" | .read=>"read"
noncomputable def Wf(x:Str):Option ME:=[ME.startswith,.endswith,.split,.rfind,.rstrip,.count,.join,.decode,.append,.pop,.sort,.get,.read].find? λm=>decide (Str.ofString (meS m)=x)
structure Cx where
 G:Str->Option Value
 mt:Pos->Bool
 fz:Pos->Bool
noncomputable abbrev Rs:=Str->IE
noncomputable def rsOf(G:Str->Option Value)(names:List (Str×NameKind))(off:Nat)(outer:Rs):Rs:=λx=>match names.findIdx? (λp=>p.1 == x) with
 | some i=>match names[i]? with
  | some (_,NameKind.local)=>.var (off+i)
  | some (_,NameKind.cell)=>.cvar (off+i)
  | some (_,NameKind.free)=>outer x
  | some (_,NameKind.globalImplicit)=>match G x with
   | some v=>.lit (.con v)
   | Option.none=>.stuck
  | _=>.stuck
 | Option.none=>.stuck
noncomputable def Aep:Const->IE
 | .none=>.lit .none
 | .bool b=>.lit (.bool b)
 | .int i=>.lit (.int i)
 | .str s=>if s.length<lim then .lit (.str s) else .stuck
 | .bytes b=>if b.length<lim then .lit (.bytes b) else .stuck
 | _=>.stuck
noncomputable def Ma(rs:Rs):PySem.Expr->Option Nat
 | .Name x _=>match rs x with
  | .var i=>some i
  | .cvar i=>some i
  | _=>Option.none
 | _=>Option.none
noncomputable def Ed(rs:Rs):List PySem.Expr->Option (List Nat)
 | []=>some []
 | e::r=>match Ma rs e,Ed rs r with
  | some i,some is=>some (i::is)
  | _,_=>Option.none
noncomputable def El(rs:Rs)(e:PySem.Expr):Option (List Nat):=match e with
 | .Tuple es _ _=>if 2<=es.length then Ed rs es else Option.none
 | e=>(Ma rs e).map ([·])
noncomputable def Ty(rs:Rs)(sc:Scope):Bool:=sc.kind == .function&&decide (sc.names.length<=32)&&decide ((sc.names.map (·.1)).Nodup)&&sc.names.all λp=>match p.2 with
 | .local=>true
 | .free=>(match rs p.1 with
  | .cvar i=>decide (i<100)
  | _=>false)
 | .globalImplicit=>true
 | _=>false
noncomputable def Aq:List PySem.Expr->Bool
 | []=>true
 | .Starred _ _::_=>false
 | _::r=>Aq r
noncomputable def Qn:PySem.Expr->Bool
 | .Call _ _ _ _=>false
 | _=>true
noncomputable def Km:IE->Option Value
 | .lit (.con v)=>some v
 | _=>Option.none
structure Jk where
 e:Rs->PySem.Expr->IE
 es:Rs->List PySem.Expr->List IE
 o:Rs->Option PySem.Expr->Option IE
 i:Rs->PySem.Expr->II
noncomputable def Tz(C:Cx)(rs:Rs)(x:Str)(pos:Pos):IE:=if (x == ("__debug__":Str)) then .stuck else match rs x with
 | .var i=>if C.fz pos then .frz i else .var i
 | .cvar i=>if C.fz pos then .frz i else .cvar i
 | r=>r
noncomputable def Wg(o:Option IE):IE:=o.getD .stuck
noncomputable def lcC(C:Cx)(T:Jk)(rs:Rs)(elt:PySem.Expr)(gens:List Comprehension)(sc:Scope)(pos:Pos):IE:=match gens with
 | []=>.stuck
 | g::r=>if r.isEmpty&&decide (g.is_async=0)&&Ty rs sc then
  Wg ((El (rsOf C.G sc.names 100 rs) g.target).map λts=>.comp (C.mt pos) (T.e (rsOf C.G sc.names 100 rs) elt) ts (T.i rs g.iter) (T.es (rsOf C.G sc.names 100 rs) g.ifs)) else .stuck
noncomputable def Ayb(T:Jk)(rs:Rs)(l:PySem.Expr)(ops:List CmpOp)(r:List PySem.Expr):IE:=match ops with
 | []=>.stuck
 | op::ops=>if ops.isEmpty then (match r with
  | []=>.stuck
  | r::r'=>if r'.isEmpty&&!behindInMarks op r then Wg ((Ake op).map λo=>.cmp o (T.e rs l) (T.e rs r)) else .stuck) else .stuck
noncomputable def Akf(T:Jk)(rs:Rs)(f:PySem.Expr):Option BI:=(Km (T.e rs f)).bind Lk
noncomputable def Ayc(T:Jk)(rs:Rs)(f:PySem.Expr)(as:List PySem.Expr):IE:=if Aq as then (match Akf T rs f with
 | some b=>.blt b (T.es rs as)
 | Option.none=>.call (T.e rs f) (T.es rs as)) else .stuck
noncomputable def Zr(b:BI)(v:Option BI):Bool:=match b with
 | .sorted=>(match v with | some .sorted=>true | _=>false)
 | .min=>(match v with | some .min=>true | _=>false)
 | _=>false
noncomputable def kwF(T:Jk)(rs:Rs)(f a:PySem.Expr)(k:Keyword)(ks:List Keyword):IE:=match ks with
 | []=>if Zr .sorted (Akf T rs f)&&decide (k.arg=some (Str.ofString "key")) then .sortk (T.e rs a) (T.e rs k.value) else .stuck
 | k'::ks=>if ks.isEmpty&&Zr .min (Akf T rs f)&&decide (k.arg=some (Str.ofString "default"))&&decide (k'.arg=some (Str.ofString "key")) then .mink (T.e rs a) (T.e rs k.value) (T.e rs k'.value) else .stuck
noncomputable def Aph(T:Jk)(rs:Rs)(f:PySem.Expr)(as:List PySem.Expr)(kws:List Keyword):IE:=match kws with
 | []=>Ayc T rs f as
 | k::ks=>(match as with
  | []=>.stuck
  | a::as=>if as.isEmpty&&Aq [a] then kwF T rs f a k ks else .stuck)
noncomputable def Avd(T:Jk)(rs:Rs)(o:PySem.Expr)(name:Str)(apos:Pos)(as:List PySem.Expr)(kws:List Keyword)(pos:Pos):IE:=
 if kws.isEmpty&&Aq as&&decide (as.length<20)&&apos.endLine == pos.line&&Qn o then Wg ((Wf name).map λm=>.meth (T.e rs o) m (T.es rs as)) else .stuck
noncomputable def eC(C:Cx)(T:Jk)(rs:Rs)(e:PySem.Expr):IE:=match e with
 | .Constant c _ _=>Aep c
 | .Name x pos=>Tz C rs x pos
 | .BoolOp op vs _=>(match op with
  | .And=>.and (T.es rs vs)
  | .Or=>.or (T.es rs vs))
 | .BinOp l op r _=>Wg ((Aeo op).map λo=>.bin o (T.e rs l) (T.e rs r))
 | .UnaryOp op x _=>(match op with
  | .USub=>.neg (T.e rs x)
  | .Not=>.not (T.e rs x)
  | _=>.stuck)
 | .IfExp t a b _=>.ite (T.e rs t) (T.e rs a) (T.e rs b)
 | .Tuple es _ _=>.tup (T.es rs es)
 | .List es pos=>.lst (C.mt pos) (T.es rs es)
 | .Dict ks vs _=>if ks.isEmpty&&vs.isEmpty then .dict else .stuck
 | .ListComp elt gens sc pos=>lcC C T rs elt gens sc pos
 | .Compare l ops r _=>Ayb T rs l ops r
 | .Call f as kws pos=>(match f with
  | .Attribute o name apos=>Avd T rs o name apos as kws pos
  | f=>Aph T rs f as kws)
 | .Subscript v i _=>(match i with
  | .Slice lo hi st _=>.slc (T.e rs v) (T.o rs lo) (T.o rs hi) (T.o rs st)
  | i=>.idx (T.e rs v) (T.e rs i))
 | _=>.stuck
noncomputable def esC(T:Jk)(rs:Rs)(es:List PySem.Expr):List IE:=match es with
 | []=>[]
 | e::r=>(match e with | .Starred _ _=>.stuck | e=>T.e rs e)::T.es rs r
noncomputable def oC(T:Jk)(rs:Rs)(e:Option PySem.Expr):Option IE:=match e with
 | Option.none=>Option.none
 | some e=>some (T.e rs e)
noncomputable def isV(rs:Rs)(f:Str)(v:Value):Bool:=match rs f with
 | .lit w=>(match w with
  | .con u=>decide (u=v)
  | _=>false)
 | _=>false
noncomputable def Pj(rs:Rs)(f:Str)(as:List PySem.Expr):Nat:=if f == ("__debug__":Str) then 0 else match as with
 | []=>0
 | _::as=>(match as with
  | []=>if isV rs f (.type "reversed") then 1 else 0
  | _::as'=>(match as' with
   | []=>if isV rs f (.type "zip") then 2 else 0
   | _::_=>0))
noncomputable def iC(T:Jk)(rs:Rs)(e:PySem.Expr):II:=match e with
 | .Call f as kws _=>(match f with
  | .Name x _=>if kws.isEmpty then (match Pj rs x as with
   | 0=>.val (T.e rs e)
   | 1=>.rev (T.e rs (as.getD 0 e))
   | _=>if Aq as then .zip (T.e rs (as.getD 0 e)) (T.e rs (as.getD 1 e)) else .val .stuck) else .val (T.e rs e)
  | _=>.val (T.e rs e))
 | .Set _ _ _=>.val .stuck
 | e=>.val (T.e rs e)
noncomputable def Jk.zero:Jk:=⟨λ_ _=>.stuck,λ_ _=>[.stuck],λ_ _=>some .stuck,λ_ _=>.val .stuck⟩
noncomputable def Ow(C:Cx):Nat->Jk
 | 0=>.zero
 | n+1=>⟨eC C (Ow C n),esC (Ow C n),oC (Ow C n),iC (Ow C n)⟩
noncomputable def cE(C:Cx)(n:Nat):=(Ow C n).e
noncomputable def cEs(C:Cx)(n:Nat):=(Ow C n).es
noncomputable def cO(C:Cx)(n:Nat):=(Ow C n).o
noncomputable def cI(C:Cx)(n:Nat):=(Ow C n).i
structure Ua where
 s:Rs->Stmt->IS
 ss:Rs->List Stmt->List IS
noncomputable def Qo(o:Option IS):IS:=o.getD .stuck
noncomputable def Aeq(C:Cx)(n:Nat)(rs:Rs)(t e:PySem.Expr):IS:=match t with
 | .Name x p=>Qo ((Ma rs (.Name x p)).map λi=>.ass (.var i) (cE C n rs e))
 | .Tuple ts _ _=>(match e with
  | .Tuple _ _ _=>.stuck
  | e=>Qo ((if 2<=ts.length then Ed rs ts else Option.none).map λis=>.ass (.tup is) (cE C n rs e)))
 | .Subscript o i _=>(match i with
  | .Slice _ _ _ _=>.stuck
  | i=>.ass (.idx (cE C n rs o) (cE C n rs i)) (cE C n rs e))
 | _=>.stuck
noncomputable def Ayd(C:Cx)(n:Nat)(rs:Rs)(t:PySem.Expr)(op:Operator)(e:PySem.Expr):IS:=match t with
 | .Name x p=>Qo ((Ma rs (.Name x p)).bind λi=>(Aeo op).map λo=>.aug i o (cE C n rs e))
 | _=>.stuck
noncomputable def Aqp:PySem.Expr->Bool
 | .Call _ _ _ _=>true
 | _=>false
noncomputable def Aye(C:Cx)(n:Nat)(T:Ua)(rs:Rs)(t it:PySem.Expr)(b:List Stmt):IS:=match t with
 | .Name x p=>Qo ((Ma rs (.Name x p)).map λi=>.forr (.var i) (cI C n rs it) (T.ss rs b))
 | .Tuple es k p=>Qo ((El rs (.Tuple es k p)).map λis=>.forr (.tup is) (cI C n rs it) (T.ss rs b))
 | _=>.stuck
noncomputable def Ave(C:Cx)(n:Nat)(rs:Rs)(e:PySem.Expr)(v:Value):Bool:=decide (Km (cE C n rs e)=some v)
noncomputable def Kn{α:Type}(l:List α):Option α:=match l with
 | []=>Option.none
 | a::r=>if r.isEmpty then some a else Option.none
noncomputable def Qp(e:PySem.Expr):Option Str:=match e with
 | .Name x _=>some x
 | _=>Option.none
noncomputable def Wh(e:PySem.Expr):Option (PySem.Expr×List PySem.Expr):=match e with
 | .Call f as kws _=>if kws.isEmpty then some (f,as) else Option.none
 | _=>Option.none
noncomputable def Api(s:Stmt):Option (PySem.Expr×PySem.Expr):=match s with
 | .Assign ts e _=>(Kn ts).map λt=>(t,e)
 | _=>Option.none
noncomputable def Zs(s:Stmt):Option (PySem.Expr×List Stmt):=match s with
 | .While c b orelse _=>if orelse.isEmpty then some (c,b) else Option.none
 | _=>Option.none
noncomputable def Qq(C:Cx)(n:Nat)(rs:Rs)(e:PySem.Expr)(v:Value):Bool:=(Qp e).isSome&&Ave C n rs e v
noncomputable def Aqq(C:Cx)(n:Nat)(rs:Rs)(e:PySem.Expr):IS:=Qo ((Wh e).bind λq=>(Kn q.2).bind λa=>
 if Qq C n rs q.1 (.type "ValueError")&&Aq [a] then some (.raise (cE C n rs a)) else Option.none)
noncomputable def Apj(C:Cx)(n:Nat)(rs:Rs)(x:Str)(hb:List Stmt):Option Str:=(Kn hb).bind λst=>(Api st).bind λp=>(Qp p.1).bind λw=>(Wh p.2).bind λq=>(Kn q.2).bind λa=>
 (Qp a).bind λy=>if Qq C n rs q.1 (.type "str")&&decide (y=x) then some w else Option.none
noncomputable def Akg(rs:Rs)(x:Str):Option Nat:=match rs x with
 | .var i=>some i
 | _=>Option.none
noncomputable def Avf(C:Cx)(n:Nat)(T:Ua)(rs:Rs)(b:List Stmt)(ty:PySem.Expr)(x:Str)(hb:List Stmt):IS:=Qo ((Kn b).bind λst=>(Zs st).bind λp=>
 if Qq C n rs ty (.type "ValueError")&&!(x == ("__debug__":Str)) then (Apj C n rs x hb).bind λw=>(Akg rs x).bind λi=>(Akg rs w).bind λj=>if i=j then Option.none else some (.tryw (cE C n rs p.1) (T.ss rs p.2) i j) else Option.none)
noncomputable def Ayf(C:Cx)(n:Nat)(T:Ua)(rs:Rs)(b:List Stmt)(hs:List ExceptHandler)(els:List Stmt):IS:=match hs with
 | []=>.stuck
 | h::hs=>if hs.isEmpty then (match h with
  | .ExceptHandler ty nm hb _=>(match ty with
   | Option.none=>.stuck
   | some ty=>(match nm with
    | Option.none=>.trye (T.ss rs b) (T.ss rs els)
    | some x=>if els.isEmpty then Avf C n T rs b ty x hb else .stuck))) else .stuck
noncomputable def sC(C:Cx)(n:Nat)(T:Ua)(rs:Rs)(s:Stmt):IS:=match s with
 | .Assign ts e _=>(match ts with
  | []=>.stuck
  | t::ts=>if ts.isEmpty then Aeq C n rs t e else .stuck)
 | .AugAssign t op e _=>Ayd C n rs t op e
 | .Expr e _=>if Aqp e then .expr (cE C n rs e) else .stuck
 | .Return v _=>(match v with
  | some e=>.ret (cE C n rs e)
  | Option.none=>.stuck)
 | .If c a b _=>.ite (cE C n rs c) (T.ss rs a) (T.ss rs b)
 | .While c b orelse _=>if orelse.isEmpty then .whl (cE C n rs c) (T.ss rs b) else .stuck
 | .For t it b orelse _=>if orelse.isEmpty then Aye C n T rs t it b else .stuck
 | .Break _=>.brk
 | .Continue _=>.cnt
 | .Pass _=>.pass
 | .Assert c m _=>if m.isNone then .asrt (cE C n rs c) else .stuck
 | .Raise e c _=>(match e with
  | some e=>if c.isNone then Aqq C n rs e else .stuck
  | Option.none=>.stuck)
 | .Try b hs els fin _=>if fin.isEmpty then Ayf C n T rs b hs els else .stuck
 | _=>.stuck
noncomputable def ssC(T:Ua)(rs:Rs)(l:List Stmt):List IS:=match l with
 | []=>[]
 | s::r=>T.s rs s::T.ss rs r
noncomputable def Ua.zero:Ua:=⟨λ_ _=>.stuck,λ_ _=>[.stuck]⟩
noncomputable def Akh(C:Cx):Nat->Ua
 | 0=>.zero
 | n+1=>⟨sC C n (Akh C n),ssC (Akh C n)⟩
noncomputable def cS(C:Cx)(n:Nat):=(Akh C n).s
noncomputable def cSs(C:Cx)(n:Nat):=(Akh C n).ss
noncomputable def dfC(e:PySem.Expr):Option AV:=match e with
 | .Constant c _ _=>(match c with
  | .none=>some AV.none
  | _=>Option.none)
 | _=>Option.none
noncomputable def Ch:List (String×Addr):=[("heappush",28),("heappop",35),("heapreplace",42),("_heapreplace_max",49),("_heapify_max",56),("_siftdown",63),("_siftup",70),("_siftdown_max",77),("_siftup_max",84),("nsmallest",90),
 ("read_uint1",97),("read_string1",104),("read_bytes1",111),("fspath",184),("_get_sep",198),("join",205),("splitroot",212),("dirname",219),("normpath",226),("_law_stream",233),("_law_file",240),("_law_octets",245),("_law_tail",252),
 ("_law_sums",259),("_law_entries",264),("_law_run",269),("_law_goal",276),("_law_due",281),("law",286)]
noncomputable def Aer:List (String×Value):=(["len","min","sum","abs","ord","sorted","iter","isinstance","issubclass"].map λx=>(x,Value.builtin x))++(["range","str","bytes","type","object","reversed","zip","ValueError"].map λx=>(x,Value.type x))
noncomputable def Aes:List (Str×Value):=(Ch.map λp=>(Str.ofString p.1,Value.ref p.2))++Aer.map λp=>(Str.ofString p.1,p.2)
noncomputable def Aki(x:Str):Option Value:=Aes.lookup x
noncomputable def Akj:Cx:={ G:=Aki,mt:=λp=>[95,263,293,341,342,358,371,377,382,388].contains p.line,fz:=λp=>p.line == 361||p.line == 97}
end Ik.Internal
namespace Ik.Internal
open PySem PySem.Calls PyProof.Rows PySem.W
section
noncomputable abbrev Ap:Str:=Str.ofString "octets"
noncomputable abbrev Bk:Str:=Str.ofString "spot"
noncomputable abbrev Ci:Str:=Str.ofString "read"
noncomputable abbrev Fh:Str:=Str.ofString "stream"
noncomputable abbrev Jl:Str:=Str.ofString "count"
noncomputable abbrev Hv:Str:=Str.ofString "begin"
noncomputable abbrev Ub:Str:=Str.ofString "min"
noncomputable abbrev Uc:Str:=Str.ofString "len"
noncomputable abbrev pp(l a b:Nat):Pos:=⟨l,a,l,b⟩
noncomputable abbrev Ge:Arguments:=⟨[],[⟨Jl,none,pp 278 13 18⟩],none,[],[],none,[]⟩
noncomputable abbrev Akk:Arguments:=⟨[],[],none,[],[],none,[]⟩
noncomputable abbrev Zu(l a:Nat):PySem.Expr:=.Subscript (.Name Bk (pp l a (a+4))) (.Constant (.int 0) 0 (pp l (a+5) (a+6))) (pp l a (a+7))
noncomputable def Gf:List Stmt:=
 [.Assign [.Name Hv (pp 279 8 13)] (Zu 279 16) (pp 279 8 23),
  .Assign [Zu 280 8] (.Call (.Name Ub (pp 280 18 21)) [.Call (.Name Uc (pp 280 22 25)) [.Name Ap (pp 280 26 32)] [] (pp 280 22 33),.BinOp (.Name Hv (pp 280 35 40)) .Add (.Name Jl (pp 280 43 48)) (pp 280 35 48)] [] (pp 280 18 49)) (pp 280 8 49),
  .Return (some (.Subscript (.Name Ap (pp 281 15 21)) (.Slice (some (.Name Hv (pp 281 22 27))) (some (Zu 281 28)) none (pp 281 22 35)) (pp 281 15 36))) (pp 281 8 36)]
noncomputable def Bu:List (Str×NameKind):=[(Jl,.local),(Hv,.local),(Ap,.free),(Bk,.free),(Ub,.globalImplicit),(Uc,.globalImplicit)]
noncomputable def Fi(ns:List (Str×NameKind)):Scope:=⟨.function,ns,false,false,[]⟩
noncomputable abbrev Jm:Pos:=⟨278,4,281,36⟩
noncomputable abbrev Ir:Pos:=pp 282 13 25
noncomputable def Ud:List Stmt:=
 [.Assign [.Name Bk (pp 276 4 8)] (.List [.Constant (.int 0) 0 (pp 276 12 13)] (pp 276 11 14)) (pp 276 4 14),.FunctionDef Ci Ge Gf [] none [] (Fi Bu) none Ci Jm,
  .Assign [.Name Fh (pp 282 4 10)] (.Lambda Akk (.Constant .none 0 (pp 282 21 25)) (Fi []) Ir) (pp 282 4 25),.Assign [.Attribute (.Name Fh (pp 283 4 10)) Ci (pp 283 4 15)] (.Name Ci (pp 283 18 22)) (pp 283 4 22),.Return (some (.Name Fh (pp 284 11 17))) (pp 284 4 17)]
noncomputable abbrev An:Addr:=228
noncomputable def Bw:Str:=Str.ofString "_law_stream.<locals>.read"
noncomputable def Hw:Str:=Str.ofString "_law_stream.<locals>.<lambda>"
noncomputable def Zv(cr cl:Addr):Obj:=tabObj #[rawInt Jm.line,rawInt Jm.col,.ref cr,rawInt Ir.line,rawInt Ir.col,.ref cl]
noncomputable def Qr(K:List (Addr×Obj))(c:Addr)(q:Str):Prop:=∃ o vs t,(c,o)∈K/\o.data=.fields vs/\vs[1]?=some (.str q t)
noncomputable def Ko(K:List (Addr×Obj))(l a:Addr)(oc:List UInt8):Prop:=
 ∃ (oa:Obj) (d:Addr) (od:Obj) (r:Addr) (clos:List (Str×Addr)) (doc pm ctv:Value) (c' c1 c2:Addr) (o1 o2:Obj) (b:Array UInt8) (tb:Tok),(a,oa)∈K/\oa.cls=.type "function"/\oa.dict=some d/\(∃ fd,oa.data=.func fd)/\oa.slots=#[]/\
  (d,od)∈K/\(∀ h:Heap,h.get? d=some od->∃ m,h.Ns d m/\m (Str.ofString "read")=some (.ref r))/\(r,fnMade Ci Bw Ge Gf (Fi Bu) clos doc pm c' ctv)∈K/\Qr K c' Bw/\
  clos.lookup (Str.ofString "octets")=some c1/\clos.lookup (Str.ofString "spot")=some c2/\(c1,o1)∈K/\o1.data=.cell (some (.bytes b tb))/\b.toList=oc/\b.size<lim/\(c2,o2)∈K/\o2.data=.cell (some (.ref l))
noncomputable def Em(h:Heap)(F:Addr->Prop)(K:List (Addr×Obj)):Prop:=∀ p∈K,h.get? p.1=some p.2/\¬ F p.1
noncomputable def Mu(K:List (Addr×Obj))(e:Addr)(m:Str):Prop:=
 ∃ (oe ot:Obj) (vs:Array Value) (t:Addr) (tk:Tok) (n:Nat),(e,oe)∈K/\oe.cls=.type "ValueError"/\oe.data=.fields vs/\vs[0]?=some (.ref t)/\(t,ot)∈K/\ot.cls=.type "tuple"/\ot.data=.seq #[.str m tk] n
noncomputable def LX(h:Heap)(a:Addr)(vs:List Value):Prop:=∃ n,h.get? a=some ({ cls:=.type "list",data:=.seq vs.toArray n}:Obj)
noncomputable def TX(h:Heap)(a:Addr)(vs:List Value):Prop:=∃ n,h.get? a=some ({ cls:=.type "tuple",data:=.seq vs.toArray n}:Obj)
theorem LX.isList{h:Heap}{a:Addr}{vs:List Value}(x:LX h a vs):h.IsList a vs.toArray:=let ⟨n,e⟩:=x;⟨_,e,rfl,n,rfl⟩
theorem TX.isTuple{h:Heap}{a:Addr}{vs:List Value}(x:TX h a vs):h.IsTuple a vs.toArray:=let ⟨n,e⟩:=x;⟨_,e,rfl,n,rfl⟩
theorem TX.isTup{h:Heap}{a:Addr}{vs:List Value}(x:TX h a vs):IsTup h a vs.toArray:=let ⟨n,e⟩:=x;⟨_,e,rfl,n,rfl⟩
mutual
inductive VRel(h:Heap)(F:Addr->Prop)(U:List Addr):Value->AV->Prop
 | none:VRel h F U .none .none
 | bool (b:Bool):VRel h F U (.bool b) (.bool b)
 | int (i:Int) (t:Tok):VRel h F U (.int i t) (.int i)
 | str (x:Str) (t:Tok):x.length<lim->VRel h F U (.str x t) (.str x)
 | bytes (b:Array UInt8) (t:Tok):b.size<lim->VRel h F U (.bytes b t) (.bytes b.toList)
 | tup {a:Addr} {vs:List Value} {xs:List AV}:xs.length<lim->TX h a vs->¬ F a->Ab h F U vs xs->VRel h F U (.ref a) (.tup xs)
 | lst {a:Addr} {vs:List Value} {xs:List AV}:xs.length<lim->LX h a vs->¬ F a->Ab h F U vs xs->VRel h F U (.ref a) (.lst xs)
 | rng {r:Addr} {a b:Int} {ta tb tc:Tok}:IsRange h r a b 1 ta tb tc->¬ F r->VRel h F U (.ref r) (.rng a b)
 | exc {e:Addr} {m:Str} {K:List (Addr×Obj)}:m.length<lim->Em h F K->Mu K e m->VRel h F U (.ref e) (.exc m)
 | strm {a l:Addr} {oc:List UInt8} {k:Nat} {K:List (Addr×Obj)}:Em h F K->Ko K l a oc->U[k]?=some l->VRel h F U (.ref a) (.strm oc k)
 | ref {a:Addr} {k:Nat}:U[k]?=some a->VRel h F U (.ref a) (.ref k)
 | con (v:Value):VRel h F U v (.con v)
inductive Ab(h:Heap)(F:Addr->Prop)(U:List Addr):List Value->List AV->Prop
 | nil:Ab h F U [] []
 | cons {v:Value} {vs:List Value} {x:AV} {xs:List AV}:VRel h F U v x->Ab h F U vs xs->Ab h F U (v::vs) (x::xs)
end
noncomputable def Ayg(h:Heap)(F:Addr->Prop)(U:List Addr)(v:Value)(a:AV):Prop:=match a with
 | .none=>v=.none
 | .bool b=>v=.bool b
 | .int i=>∃ t,v=.int i t
 | .str x=>∃ t,x.length<lim/\v=.str x t
 | .bytes b=>∃ c t,c.size<lim/\b=c.toList/\v=.bytes c t
 | .tup xs=>∃ p vs,xs.length<lim/\TX h p vs/\¬ F p/\Ab h F U vs xs/\v=.ref p
 | .lst xs=>∃ p vs,xs.length<lim/\LX h p vs/\¬ F p/\Ab h F U vs xs/\v=.ref p
 | .rng a b=>∃ r ta tb tc,IsRange h r a b 1 ta tb tc/\¬ F r/\v=.ref r
 | .exc m=>∃ e K,m.length<lim/\Em h F K/\Mu K e m/\v=.ref e
 | .strm oc k=>∃ a l K,Em h F K/\Ko K l a oc/\U[k]?=some l/\v=.ref a
 | .ref k=>∃ a,U[k]?=some a/\v=.ref a
 | .con w=>v=w
theorem VRel.inv{h:Heap}{F:Addr->Prop}{U:List Addr}{v:Value}{a:AV}(r:VRel h F U v a):Ayg h F U v a:=by
 induction r using VRel.casesOn with
 | none=>exact rfl
 | bool b=>exact rfl
 | int i t=>exact⟨t,rfl⟩
 | str x t z=>exact⟨t,z,rfl⟩
 | bytes b t z=>exact⟨b,t,z,rfl,rfl⟩
 | tup z i n q=>exact⟨_,_,z,i,n,q,rfl⟩
 | lst z i n q=>exact⟨_,_,z,i,n,q,rfl⟩
 | rng i n=>exact⟨_,_,_,_,i,n,rfl⟩
 | exc z f s=>exact⟨_,_,z,f,s,rfl⟩
 | strm f s e=>exact⟨_,_,_,f,s,e,rfl⟩
 | ref e=>exact⟨_,e,rfl⟩
 | con v=>exact rfl
theorem Ab.inv1{h:Heap}{F:Addr->Prop}{U:List Addr}{vs:List Value}{x:AV}{xs:List AV}(r:Ab h F U vs (x::xs)):∃ v ws,VRel h F U v x/\Ab h F U ws xs/\vs=v::ws:=by
 cases r with
 | cons a r=>exact⟨_,_,a,r,rfl⟩
theorem Wi{α:Type}{x a b:α}(h:x∈[a,b]):x=a\/x=b:=(aM.mp h).imp id aQ.mp
theorem Avg{α:Type}{x a b c d:α}(h:x∈[a,b,c,d]):x=a\/x=b\/x=c\/x=d:=(aM.mp h).imp id λh=>(aM.mp h).imp id Wi
theorem Ab.unc{h:Heap}{F:Addr->Prop}{U:List Addr}{v:Value}{vs:List Value}{xs:List AV}(r:Ab h F U (v::vs) xs):∃ x ys,VRel h F U v x/\Ab h F U vs ys/\xs=x::ys:=by
 cases r with
 | cons a r=>exact⟨_,_,a,r,rfl⟩
theorem Ab.inv0{h:Heap}{F:Addr->Prop}{U:List Addr}{vs:List Value}(r:Ab h F U vs []):vs=[]:=by
 cases r;rfl
theorem Ab.inv_cons{h:Heap}{F:Addr->Prop}{U:List Addr}{v:Value}{vs:List Value}{as:List AV}(r:Ab h F U (v::vs) as):∃ x xs,VRel h F U v x/\Ab h F U vs xs/\as=x::xs:=by
 cases r with
 | cons a r=>exact⟨_,_,a,r,rfl⟩
theorem Ab.inv_nil{h:Heap}{F:Addr->Prop}{U:List Addr}{as:List AV}(r:Ab h F U [] as):as=[]:=by
 cases r;rfl
noncomputable def Kp(V:Addr->Prop)(h h':Heap):Prop:=∀ b o,¬ V b->h.get? b=some o->h'.get? b=some o
theorem Kp.refl{V:Addr->Prop}{h:Heap}:Kp V h h:=λ_ _ _ e=>e
theorem Kp.of_keeps{V:Addr->Prop}{h h':Heap}(k:∀ b o,h.get? b=some o->h'.get? b=some o):Kp V h h':=λb o _ e=>k b o e
structure On(h:Heap)(V:Addr->Prop)(U:List Addr)(h':Heap)(V':Addr->Prop)(U':List Addr):Prop where
 kp:Kp V h h'
 fs:∀ a,V' a->V a\/h.get? a=none
 mu:U<+:U'
theorem On.refl{h:Heap}{V:Addr->Prop}{U:List Addr}:On h V U h V U:=⟨.refl,λ_ h=>.inl h,dC⟩
theorem Wj{h h':Heap}{V:Addr->Prop}(k:Kp V h h'){a:Addr}(e:h'.get? a=none):V a\/h.get? a=none:=by
 by_cases hV:V a
 . exact .inl hV
 . refine .inr ?_
   cases q:h.get? a with
   | none=>rfl
   | some o=>have:=k a o hV q;rw [e] at this;exact nns this
theorem On.trans{h h1 h2:Heap}{V V1 V2:Addr->Prop}{U U1 U2:List Addr}(x:On h V U h1 V1 U1)(y:On h1 V1 U1 h2 V2 U2):On h V U h2 V2 U2:=by
 refine⟨λb o n e=>y.kp b o (λq=>(x.fs b q).elim n λz=>by rw [z] at e;exact nns e) (x.kp b o n e),λa q=>?_,x.mu.trans y.mu⟩;rcases y.fs a q with z | z
 . exact x.fs a z
 . exact Wj x.kp z
section
variable{h h':Heap}{V V':Addr->Prop}{U U':List Addr}
theorem On.get(x:On h V U h' V' U'){a:Addr}{o:Obj}(n:¬ V a)(e:h.get? a=some o):h'.get? a=some o:=x.kp a o n e
theorem On.not(x:On h V U h' V' U'){a:Addr}{o:Obj}(n:¬ V a)(e:h.get? a=some o):¬ V' a:=λq=>(x.fs a q).elim n λz=>by rw [z] at e;exact nns e
theorem Em.on(x:On h V U h' V' U'){K:List (Addr×Obj)}(z:Em h V K):Em h' V' K:=λp hp=>⟨x.get (z p hp).2 (z p hp).1,x.not (z p hp).2 (z p hp).1⟩
end
theorem It{U U':List Addr}(p:U<+:U'){k:Nat}{a:Addr}(e:U[k]?=some a):U'[k]?=some a:=by
 refine e11 p λt zz1=>?_;clear p;subst zz1;rw [bD (aN.mp e).1];exact e
section
variable{h h':Heap}{V V' F:Addr->Prop}{U U':List Addr}{v:Value}{vs ws:List Value}{x:AV}{xs ys:List AV}
theorem On.tx(x:On h V U h' V' U'){a:Addr}{vs:List Value}(n:¬ V a)(i:TX h a vs):TX h' a vs/\¬ V' a:=let ⟨k,ho⟩:=i;⟨⟨k,x.get n ho⟩,x.not n ho⟩
theorem On.lx(x:On h V U h' V' U'){a:Addr}{vs:List Value}(n:¬ V a)(i:LX h a vs):LX h' a vs/\¬ V' a:=let ⟨k,ho⟩:=i;⟨⟨k,x.get n ho⟩,x.not n ho⟩
theorem VRel.on(x:On h V U h' V' U'){v:Value}{a:AV}(r:VRel h V U v a):VRel h' V' U' v a:=
 VRel.rec (motive_1:=λv a _=>VRel h' V' U' v a) (motive_2:=λvs as _=>Ab h' V' U' vs as) .none .bool .int .str .bytes (λz i n _ r=>.tup z (x.tx n i).1 (x.tx n i).2 r) (λz i n _ r=>.lst z (x.lx n i).1 (x.lx n i).2 r)
  (λi n=>.rng (x.get n i) (x.not n i)) (λq z s=>.exc q (z.on x) s) (λz s e=>.strm (z.on x) s (It x.mu e)) (λe=>.ref (It x.mu e)) .con .nil (λ_ _ a r=>.cons a r) r
theorem Ab.on(x:On h V U h' V' U'){vs:List Value}{as:List AV}(r:Ab h V U vs as):Ab h' V' U' vs as:=by
 induction vs generalizing as with
 | nil=>cases r;exact .nil
 | cons v vs ih=>cases r with | cons a r=>exact .cons (a.on x) (ih r)
theorem Ab.length(r:Ab h F U vs xs):vs.length=xs.length:=by
 induction vs generalizing xs with
 | nil=>cases r;rfl
 | cons v vs ih=>cases r with | cons _ r=>rw [bE,bE,ih r]
theorem Ab.append(r:Ab h F U vs xs)(q:Ab h F U ws ys):Ab h F U (vs++ws) (xs++ys):=by
 induction vs generalizing xs with
 | nil=>cases r;exact q
 | cons v vs ih=>cases r with | cons a r=>exact .cons a (ih r)
theorem Ab.get(r:Ab h F U vs xs):∀ {k:Nat} {x:AV},xs[k]?=some x->∃ v,vs[k]?=some v/\VRel h F U v x:=by
 induction vs generalizing xs with
 | nil=>cases r;intro k x e;simp at e
 | cons v vs ih=>
  cases r with
  | cons a r=>
   intro k x e
   induction k using Nat.casesAuxOn with
   | zero=>simp at e;subst e;exact⟨v,rfl,a⟩
   | succ k=>simpa using ih r (by simpa using e)
theorem Ab.drop(r:Ab h F U vs xs)(n:Nat):Ab h F U (vs.drop n) (xs.drop n):=by
 induction vs generalizing xs n with
 | nil=>cases r;simp only [List.drop_nil];exact .nil
 | cons v vs ih=>cases r with | cons a r=>induction n using Nat.casesAuxOn with | zero=>exact .cons a r | succ n=>exact ih r n
theorem Ab.take(r:Ab h F U vs xs)(n:Nat):Ab h F U (vs.take n) (xs.take n):=by
 induction vs generalizing xs n with
 | nil=>cases r;simp only [List.take_nil];exact .nil
 | cons v vs ih=>cases r with | cons a r=>induction n using Nat.casesAuxOn with | zero=>exact .nil | succ n=>exact .cons a (ih r n)
theorem Ab.set(r:Ab h F U vs xs)(q:VRel h F U v x)(n:Nat):Ab h F U (vs.set n v) (xs.set n x):=by
 induction vs generalizing xs n with
 | nil=>cases r;simp only [List.set_nil];exact .nil
 | cons v vs ih=>cases r with | cons a r=>induction n using Nat.casesAuxOn with | zero=>exact .cons q r | succ n=>exact .cons a (ih r n)
end
variable(prog:Program)(w:World)
noncomputable def Qs(h:Heap)(F:Addr->Prop)(U:List Addr)(a:Addr):Al->Prop
 | .lst xs=>xs.length<lim/\∃ vs,LX h a vs/\Ab h F U vs xs
 | .dict es | .fdict es=>∃ vs ep,h.DictAt (strKind prog w) a ((es.map (·.1)).zip vs) ep/\Ab h F U vs (es.map (·.2))
 | .iter xs i=>∃ l vs,h.IsListIter a l i/\LX h l vs/\¬ F l/\Ab h F U vs xs
 | .spot n=>∃ t,LX h a [.int (n:Int) t]
 | .tbl n=>a=An/\((n=0/\h.get? a=some (tabObj #[]))\/(n≠0/\∃ (cr cl:Addr) (K:List (Addr×Obj)),Em h F K/\Qr K cr Bw/\Qr K cl Hw/\
  h.get? a=some (Zv cr cl)))
 | .sent=>∃ o,h.get? a=some o/\o.cls=.type "object"
 | .dead=>True
noncomputable def live:Al->Bool
 | .dead=>false
 | .fdict _=>false
 | _=>true
noncomputable def Ft(U:List Addr)(J:Sto)(a:Addr):Prop:=∃ (k:Nat) (o:Al),U[k]?=some a/\J[k]?=some o/\live o=true
noncomputable def Vt(fr:List Addr)(U:List Addr)(J:Sto)(a:Addr):Prop:=Ft U J a\/a∈fr
structure Hg(h h':Heap)(a:Addr):Prop where
 ns:∀ m,h.Ns a m->h'.Ns a m
 cell:∀ v,h.IsCell a v->h'.IsCell a v
 oth:∀ o,h.get? a=some o->(∀ es ep,o.data≠.dict es ep)->(∀ v,o.data≠.cell v)->h'.get? a=some o
 there:(∃ o,h.get? a=some o)->∃ o,h'.get? a=some o
theorem Hg.refl{h:Heap}{a:Addr}:Hg h h a:=⟨λ_ x=>x,λ_ x=>x,λ_ x _ _=>x,id⟩
theorem Hg.trans{h h1 h2:Heap}{a:Addr}(x:Hg h h1 a)(y:Hg h1 h2 a):Hg h h2 a:=
 ⟨λm q=>y.ns m (x.ns m q),λv q=>y.cell v (x.cell v q),λo e n1 n2=>y.oth o (x.oth o e n1 n2) n1 n2,λq=>y.there (x.there q)⟩
theorem Hg.of{h h':Heap}{a:Addr}(k:∀ o,h.get? a=some o->h'.get? a=some o):Hg h h' a:=
 ⟨λ_ ⟨o,es,ep,ho,r⟩=>⟨o,es,ep,k o ho,r⟩,λ_ ⟨o,ho,r⟩=>⟨o,k o ho,r⟩,λo e _ _=>k o e,λ⟨o,e⟩=>⟨o,k o e⟩⟩
structure Ivt(g h:Heap)(fr U:List Addr)(J:Sto):Prop where
 base:∀ b o,g.get? b=some o->h.get? b=some o
 len:U.length=J.length
 nodup:U.Nodup
 out:∀ a∈U,g.get? a=none
 there:∀ a∈U,∃ o,h.get? a=some o
 objs:∀ (k:Nat) (a:Addr) (o:Al),U[k]?=some a->J[k]?=some o->Qs prog w h (Vt fr U J) U a o
 frs:∀ a∈fr,a∉U/\g.get? a=none/\∃ o,h.get? a=some o
noncomputable abbrev OnV(fr:List Addr)(h:Heap)(U:List Addr)(J:Sto)(h':Heap)(U':List Addr)(J':Sto):Prop:=On h (Vt fr U J) U h' (Vt fr U' J') U'
structure Go(g:Heap)(fr:List Addr)(h:Heap)(U:List Addr)(J:Sto)(h':Heap)(U':List Addr)(J':Sto):Prop where
 inv:Ivt prog w g h' fr U' J'
 on:OnV fr h U J h' U' J'
 fk:∀ a∈fr,Hg h h' a
variable{prog:Program}{w:World}
theorem Qs.on{h h':Heap}{V V':Addr->Prop}{U U':List Addr}(x:On h V U h' V' U'){a:Addr}{o:Al}(hk:∀ ob,h.get? a=some ob->h'.get? a=some ob)(r:Qs prog w h V U a o):Qs prog w h' V' U' a o:=by
 induction o using Al.casesOn with
 | lst xs=>obtain ⟨z,vs,⟨n,i⟩,q⟩:=r;exact⟨z,vs,⟨n,hk _ i⟩,q.on x⟩
 | dict es | fdict es=>refine e22 r λvs ep i q=>?_;clear r;exact⟨vs,ep,let ⟨o,es,ho,z⟩:=i;⟨o,es,hk o ho,z⟩,q.on x⟩
 | iter xs i=>refine e24 r λl vs i j n q=>?_;clear r;exact⟨l,vs,let ⟨o,ho,z⟩:=i;⟨o,hk o ho,z⟩,(x.lx n j).1,(x.lx n j).2,q.on x⟩
 | spot n=>refine e21 r λt m i=>?_;clear r;exact⟨t,m,hk _ i⟩
 | tbl n=>
  refine e02 r λha r=>?_;refine⟨ha,?_⟩;rcases r with ⟨q,i⟩ | ⟨q,cr,cl,K,z,h3,h4,i⟩
  . exact .inl ⟨q,hk _ i⟩
  . exact .inr ⟨q,cr,cl,K,z.on x,h3,h4,hk _ i⟩
 | sent=>refine e12 r λo ho z=>?_;clear r;exact⟨o,hk o ho,z⟩
 | dead=>trivial
section
variable{g h h':Heap}{fr U:List Addr}{J:Sto}
theorem Go.refl(I:Ivt prog w g h fr U J):Go prog w g fr h U J h U J:=⟨I,.refl,λ_ _=>.refl⟩
theorem Go.trans{h1 h2:Heap}{U1 U2:List Addr}{J1 J2:Sto}(x:Go prog w g fr h U J h1 U1 J1)(y:Go prog w g fr h1 U1 J1 h2 U2 J2):Go prog w g fr h U J h2 U2 J2:=⟨y.inv,x.on.trans y.on,λa ha=>(x.fk a ha).trans (y.fk a ha)⟩
theorem Ivt.ft_lt(I:Ivt prog w g h fr U J){a:Addr}(x:Ft U J a):∃ o,h.get? a=some o:=by
 refine e22 x λk o e _=>?_;clear x;exact I.there a (aO e)
theorem Ivt.gout(I:Ivt prog w g h fr U J){a:Addr}(x:Vt fr U J a):g.get? a=none:=x.elim (λ⟨_,_,e,_⟩=>I.out _ (aO e)) λq=>(I.frs a q).2.1
theorem Ivt.vt_lt(I:Ivt prog w g h fr U J){a:Addr}(x:Vt fr U J a):∃ o,h.get? a=some o:=x.elim I.ft_lt λq=>(I.frs a q).2.2
theorem Ivt.new(I:Ivt prog w g h fr U J){a:Addr}(e:h.get? a=none):¬ Vt fr U J a:=λq=>by refine e11 (I.vt_lt q) λo z=>?_;rw [e] at z;exact nns z
theorem Ivt.grow(I:Ivt prog w g h fr U J)(k:∀ b o,b∉fr->h.get? b=some o->h'.get? b=some o)(sf:∀ a∈fr,Hg h h' a):Go prog w g fr h U J h' U J:=by
 have x:OnV fr h U J h' U J:=⟨λb o n e=>k b o (λq=>n (.inr q)) e,λ_ h=>.inl h,dC⟩;have nf:∀ a,a∈U->a∉fr:=λa ha q=>(I.frs a q).1 ha;exact⟨⟨λb o e=>k b o (λq=>by rw [(I.frs b q).2.1] at e;exact nns e) (I.base b o e),I.len,I.nodup,I.out,λa ha=>(I.there a ha).imp λo e=>k a o (nf a ha) e,
  λi a o e1 e2=>(I.objs i a o e1 e2).on x λob e=>k a ob (nf a (aO e1)) e,
  λa ha=>⟨(I.frs a ha).1,(I.frs a ha).2.1,(sf a ha).there (I.frs a ha).2.2⟩⟩,x,sf⟩
theorem Ivt.keep(I:Ivt prog w g h fr U J)(k:∀ b o,h.get? b=some o->h'.get? b=some o):Go prog w g fr h U J h' U J:=I.grow (λb o _ e=>k b o e) λa _=>.of (k a)
theorem Wk{a b:Addr}{ao:Al}(hl:U.length=J.length)(q:Ft (U++[a]) (J++[ao]) b):Ft U J b\/b=a:=by
 refine e23 q λi o e1 e2 e3=>?_;clear q;by_cases hi:i<U.length
 . rw [bD hi] at e1;rw [bD (hl▸hi)] at e2;exact .inl ⟨i,o,e1,e2,e3⟩
 . have:i=U.length:=by
    have:=(aN.mp e1).1;simp at this;exact eqc (fk [i,U.length] [(1,(.a (.v 0) (.n 1)),(.a (.v 1) (.n 1))),(1,(.a (.v 1) (.n 1)),(.v 0))] rfl this) (fk [U.length,i] [(1,(.v 0),(.v 1)),(1,(.a (.v 1) (.n 1)),(.v 0))] rfl (bQ.mp hi))
   subst this;simp at e1;exact .inr e1.symm
theorem Ivt.alloc(I:Ivt prog w g h fr U J){ao:Al}{a:Addr}(k:∀ b o,b∉fr->h.get? b=some o->h'.get? b=some o)(sf:∀ a∈fr,Hg h h' a)(hn:h.get? a=none)(ha:∃ o,h'.get? a=some o)
 (r:OnV fr h U J h' (U++[a]) (J++[ao])->Qs prog w h' (Vt fr (U++[a]) (J++[ao])) (U++[a]) a ao):Go prog w g fr h U J h' (U++[a]) (J++[ao]):=by
 have hg:g.get? a=none:=by
  cases q:g.get? a with
  | none=>rfl
  | some o=>have:=I.base a o q;rw [hn] at this;exact nns this
 have nm:a∉U:=λq=>by refine e11 (I.there a q) λo e=>?_;rw [hn] at e;exact nns e
 have nf:a∉fr:=λq=>by refine e11 ((I.frs a q).2.2) λo e=>?_;rw [hn] at e;exact nns e
 have mf:∀ a,a∈U->a∉fr:=λa ha q=>(I.frs a q).1 ha;have x:OnV fr h U J h' (U++[a]) (J++[ao]):=by
  refine⟨λb o n e=>k b o (λq=>n (.inr q)) e,λb q=>?_,List.prefix_append _ _⟩;rcases q with q | q
  . exact (Wk I.len q).imp .inl λe=>by rw [e];exact hn
  . exact .inl (.inr q)
 refine⟨⟨λb o e=>k b o (λq=>by rw [(I.frs b q).2.1] at e;exact nns e) (I.base b o e),by simp [I.len],?_,?_,?_,?_,?_⟩,x,sf⟩
 . rw [dH];exact⟨I.nodup,by simp,λb hb c hc=>by simp at hc;subst hc;exact λq=>nm (q▸hb)⟩
 . intro b hb;rcases aZ.mp hb with hb | hb
   . exact I.out b hb
   . simp at hb;subst hb;exact hg
 . intro b hb;rcases aZ.mp hb with hb | hb
   . exact (I.there b hb).imp λo e=>k b o (mf b hb) e
   . simp at hb;subst hb;exact ha
 . intro i b o e1 e2;by_cases hi:i<U.length
   . rw [bD hi] at e1;rw [bD (I.len▸hi)] at e2;exact (I.objs i b o e1 e2).on x λob e=>k b ob (mf b (aO e1)) e
   . have:i=U.length:=by
      have:=(aN.mp e1).1;simp at this;exact eqc (fk [i,U.length] [(1,(.a (.v 0) (.n 1)),(.a (.v 1) (.n 1))),(1,(.a (.v 1) (.n 1)),(.v 0))] rfl this) (fk [U.length,i] [(1,(.v 0),(.v 1)),(1,(.a (.v 1) (.n 1)),(.v 0))] rfl (bQ.mp hi))
     subst this;simp at e1;rw [I.len] at e2;simp at e2;subst e1 e2;exact r x
 . intro b hb;refine⟨λq=>?_,(I.frs b hb).2.1,(sf b hb).there (I.frs b hb).2.2⟩;rcases aZ.mp q with q | q
   . exact (I.frs b hb).1 q
   . simp at q;exact nf (q▸hb)
theorem Qu{k:Nat}{ao:Al}{a:Addr}(q:Ft U (J.set k ao) a)(hk:∀ o,J[k]?=some o->live o=true):Ft U J a:=by
 refine e23 q λi o e1 e2 e3=>?_;clear q;by_cases hi:i=k
 . subst hi;have hlt:i<J.length:=by have:=(aN.mp e2).1;simpa using this
   exact⟨i,J[i],e1,bB hlt,hk _ (bB hlt)⟩
 . rw [bM (Ne.symm hi)] at e2;exact⟨i,o,e1,e2,e3⟩
theorem Ivt.turn(I:Ivt prog w g h fr U J){k:Nat}{a:Addr}{ao ao':Al}(e1:U[k]?=some a)(e2:J[k]?=some ao)(hl:live ao=true)(s:∀ b o,b≠a->b∉fr->h.get? b=some o->h'.get? b=some o)(sf:∀ a∈fr,Hg h h' a)(ha:∃ o,h'.get? a=some o)
 (r:OnV fr h U J h' U (J.set k ao')->Qs prog w h' (Vt fr U (J.set k ao')) U a ao'):Go prog w g fr h U J h' U (J.set k ao'):=by
 have hf:Ft U J a:=⟨k,ao,e1,e2,hl⟩;have hs:∀ {b},Ft U (J.set k ao') b->Ft U J b:=λq=>Qu q λo e=>by rw [e2] at e;refine snE e λcc1=>?_;clear e;subst cc1;exact hl
 have mf:∀ a,a∈U->a∉fr:=λa ha q=>(I.frs a q).1 ha;have x:OnV fr h U J h' U (J.set k ao'):=⟨λb o n e=>s b o (λq=>n (q▸.inl hf)) (λq=>n (.inr q)) e,λb q=>.inl (q.imp hs id),dC⟩;refine⟨⟨λb o e=>x.kp b o (λq=>by rw [I.gout q] at e;exact nns e) (I.base b o e),by simp [I.len],I.nodup,I.out,λb hb=>?_,λi b o q1 q2=>?_,λb hb=>⟨(I.frs b hb).1,(I.frs b hb).2.1,(sf b hb).there (I.frs b hb).2.2⟩⟩,x,sf⟩
 . by_cases q:b=a
   . subst q;exact ha
   . refine e11 (I.there b hb) λo e=>?_;exact⟨o,s b o q (mf b hb) e⟩
 . by_cases hi:i=k
   . subst hi;rw [e1] at q1;refine snE q1 λcc1=>?_;clear q1;subst cc1;have hlt:i<J.length:=(aN.mp e2).1;rw [dQ hlt] at q2;refine snE q2 λcc1=>?_;clear q2;subst cc1;exact r x
   . rw [bM (Ne.symm hi)] at q2;have hne:b≠a:=λq=>by
      subst q;refine e11 (aN.mp q1) λh1 g1=>?_;refine e11 (aN.mp e1) λh2 g2=>?_;exact hi ((List.getElem_inj I.nodup).mp (g1.trans g2.symm))
     exact (I.objs i b o q1 q2).on x λob e=>s b ob hne (mf b (aO q1)) e
theorem Ivt.freeze(I:Ivt prog w g h fr U J){k:Nat}{a:Addr}{ao:Al}(e1:U[k]?=some a)(e2:J[k]?=some ao)(hl:live ao=true):Go prog w g fr h U J h U (J.set k .dead):=
 I.turn e1 e2 hl (λ_ _ _ _ e=>e) (λ_ _=>.refl) (I.there a (aO e1)) λ_=>trivial
theorem Ivt.mu(I:Ivt prog w g h fr U J){k:Nat}{o:Al}(e:J[k]?=some o):∃ a,U[k]?=some a:=by
 have:=(aN.mp e).1;exact⟨U[k]'(by rw [I.len];exact this),bB _⟩
theorem Ivt.obj(I:Ivt prog w g h fr U J){k:Nat}{a:Addr}{o:Al}(e1:U[k]?=some a)(e2:J[k]?=some o):Qs prog w h (Vt fr U J) U a o:=I.objs k a o e1 e2
end
end
section
variable{prog:Program}{w:World}
noncomputable def e0:Heap:={}
theorem Qv(b:Addr):e0.get? b=none:=by simp [e0,Heap.get?]
noncomputable def Wl(h:Heap)(L:Addr):List (Addr×Obj):=(List.range h.objs.size).filterMap λb=>if b=L then none else (h.get? b).map λo=>(b,o)
theorem Fj{h:Heap}{L b:Addr}{o:Obj}:(b,o)∈Wl h L↔b≠L/\h.get? b=some o:=by
 unfold Wl;rw [List.mem_filterMap]
 constructor
 . rintro ⟨c,_,e⟩
   split at e
   . exact nns e
   . rename_i hc;refine e12 (bF.mp e) λo' h1 h2=>?_;refine prE h2 λcc1 cc2=>?_;clear h2;obtain rfl:=cc1.symm;obtain rfl:=cc2.symm;exact⟨hc,h1⟩
 . rintro ⟨hb,e⟩
   exact⟨b,List.mem_range.mpr (cR e),by rw [if_neg hb,e];rfl⟩
theorem fr0{h:Heap}{L:Addr}{m:Str->Option Value}(hL:h.Ns L m):Fr e0 L h m:=⟨hL,λb o e=>(by rw [Qv] at e;exact nns e),bV _⟩
theorem Ue{h:Heap}{L:Addr}:News e0 L h (Wl h L):=λp hp=>⟨(Fj.mp hp).2,(Fj.mp hp).1,Qv _⟩
theorem Ey{h:Heap}{L:Addr}{m m':Str->Option Value}(x:h.Ns L m)(y:h.Ns L m'):m=m':=by
 refine e34 x λo es ep ho hd _ hf=>?_;clear x;refine e34 y λo' es' ep' ho' hd' _ hf'=>?_;clear y;rw [ho] at ho';refine snE ho' λcc1=>?_;clear ho';subst cc1;rw [hd] at hd';injection hd' with cc1 cc2;subst cc1;subst cc2
 funext n
 rw [<- hf,<- hf']
theorem Mw{h h':Heap}{L:Addr}{m:Str->Option Value}(hL:h.Ns L m)(F:Fr e0 L h' m):Hg h h' L:=by
 refine⟨λm' x=>Ey hL x▸F.ns,λv ⟨o,ho,hd⟩=>?_,λo ho n1 n2=>?_,λ_=>?_⟩
 . refine e33 hL λo' es ep ho' hd' _=>?_;clear hL;rw [ho] at ho';refine snE ho' λcc1=>?_;clear ho';subst cc1;rw [hd] at hd';injection hd'
 . refine e33 hL λo' es ep ho' hd' _=>?_;clear hL;rw [ho] at ho';refine snE ho' λcc1=>?_;clear ho';subst cc1;exact absurd hd' (n1 es ep)
 . refine e32 F.ns λo' es ep ho' _=>?_;exact⟨o',ho'⟩
theorem Qw{h h':Heap}{L:Addr}{m:Str->Option Value}{fr:List Addr}(hL:h.Ns L m)(hf:L∈fr)(F:Fr e0 L h' m)(N:∀ p∈Wl h L,h'.get? p.1=some p.2) :
 (∀ b o,b∉fr->h.get? b=some o->h'.get? b=some o)/\∀ a∈fr,Hg h h' a:=by
 refine⟨λb o n e=>N (b,o) (Fj.mpr ⟨λq=>n (q▸hf),e⟩),λa ha=>?_⟩;by_cases q:a=L
 . subst q;exact Mw hL F
 . exact .of λo e=>N (a,o) (Fj.mpr ⟨q,e⟩)
noncomputable def OkQ(prog:Program)(w:World)(g:Heap)(fr U:List Addr)(J:Sto)(r:AV)(J':Sto)(Q:Value->Shared->Prop)(s:Shared):Prop:=
 ∀ v h' tk U',Go prog w g fr s.heap U J h' U' J'->VRel h' (Vt fr U' J') U' v r->Q v { s with heap:=h',toks:=tk}
variable{g:Heap}{fr U:List Addr}{J J':Sto}{A:Around}{E:Value->Shared->Prop}{s:Shared}{Q:Value->Shared->Prop}{r:AV}
theorem OkQ.here(I:Ivt prog w g s.heap fr U J)(hQ:OkQ prog w g fr U J r J Q s){v:Value}(R:VRel s.heap (Vt fr U J) U v r)(tk:Nat):Q v { s with toks:=tk}:=hQ v s.heap tk U (Go.refl I) R
theorem OkQ.push(I:Ivt prog w g s.heap fr U J)(hQ:OkQ prog w g fr U J r J Q s){o:Obj}{v:Value}{tk:Nat}(R:Go prog w g fr s.heap U J (s.heap.push o) U J->VRel (s.heap.push o) (Vt fr U J) U v r):Q v { s with heap:=s.heap.push o,toks:=tk}:=
 have G:=I.keep (h':=s.heap.push o) λb ob e=>aE _ e
 hQ v _ tk U G (R G)
theorem Bb(h:Heap):h.get? h.objs.size=none:=cG (aU _)
theorem Akl(I:Ivt prog w g s.heap fr U J){vs:List Value}{xs:List AV}(R:Ab s.heap (Vt fr U J) U vs xs)(z:xs.length<lim)(G:Go prog w g fr s.heap U J (s.heap.push { cls:=.type "list",data:=.seq vs.toArray}) U J) :
 VRel (s.heap.push { cls:=.type "list",data:=.seq vs.toArray}) (Vt fr U J) U (.ref s.heap.objs.size) (.lst xs):=.lst z ⟨0,aS _ rfl⟩ (I.new (Bb _)) (R.on G.on)
theorem Zw(I:Ivt prog w g s.heap fr U J){vs:List Value}{xs:List AV}(R:Ab s.heap (Vt fr U J) U vs xs)(z:xs.length<lim)(G:Go prog w g fr s.heap U J (s.heap.push { cls:=.type "tuple",data:=.seq vs.toArray}) U J) :
 VRel (s.heap.push { cls:=.type "tuple",data:=.seq vs.toArray}) (Vt fr U J) U (.ref s.heap.objs.size) (.tup xs):=.tup z ⟨0,aS _ rfl⟩ (I.new (Bb _)) (R.on G.on)
end
structure Zt where
 prog:Program
 w:World
 g:Heap
 fr:List Addr
 envs:List Env
 A:Around
noncomputable abbrev Zt.I(Z:Zt)(h:Heap)(U:List Addr)(J:Sto):Prop:=Ivt Z.prog Z.w Z.g h Z.fr U J
noncomputable abbrev Zt.V(Z:Zt)(U:List Addr)(J:Sto):Addr->Prop:=Vt Z.fr U J
noncomputable abbrev Zt.Go(Z:Zt)(h:Heap)(U:List Addr)(J:Sto)(h':Heap)(U':List Addr)(J':Sto):Prop:=Ik.Internal.Go Z.prog Z.w Z.g Z.fr h U J h' U' J'
noncomputable abbrev Zt.M(Z:Zt):Model:=model Z.prog Z.w
noncomputable abbrev frames(envs:List Env):List Addr:=envs.filterMap (·.frame)
noncomputable def Fly(envs:List Env)(hB h:Heap)(x:Value)(m:Str):Prop:=
 ∃ (e t:Addr) (tk:Tok),x=.ref e/\Heap.FlyingW (hideAll hB (frames envs)) envs e (.type "ValueError") (.ref t) h/\h.TupAt t [.str m tk]/\hB.get? e=none/\hB.get? t=none/\hB.UpToSlots h/\m.length<lim
noncomputable abbrev Ie(β α:Type):Type:=Heap->(Addr->Prop)->List Addr->β->α->Prop
noncomputable def OkR{β α:Type}(Z:Zt)(R:Ie β α)(U:List Addr)(J:Sto)(a:α)(J':Sto)(Q:β->Shared->Prop)(s:Shared):Prop:=
 ∀ b h' tk U',Z.Go s.heap U J h' U' J'->R h' (Z.V U' J') U' b a->Q b { s with heap:=h',toks:=tk}
noncomputable def Avh(Z:Zt)(U:List Addr)(J:Sto)(m:Str)(J':Sto)(E:Value->Shared->Prop)(s:Shared):Prop:=
 ∀ x hB h' tk U',Z.Go s.heap U J hB U' J'->Fly Z.envs hB h' x m->E x { s with heap:=h',toks:=tk}
noncomputable def Ans{β α:Type}(Z:Zt)(R:Ie β α)(U:List Addr)(J:Sto)(r:Except Str α)(J':Sto)(Q:β->Shared->Prop)(E:Value->Shared->Prop)(s:Shared):Prop:=match r with
 | .ok a=>OkR Z R U J a J' Q s
 | .error m=>Avh Z U J m J' E s
noncomputable def At{β α:Type}(Z:Zt)(R:Ie β α)(m:M α)(t:Sem β)(s:Shared)(U:List Addr)(J:Sto):Prop:=
 ∀ r J',m J=some (r,J')->∀ Q E,Ans Z R U J r J' Q E s->wpAny Z.M Z.A t Q E s
section
variable{α β γ δ:Type}{Z:Zt}{R:Ie β α}{R':Ie δ γ}{s:Shared}{U U':List Addr}{J J' J1:Sto}{Q:β->Shared->Prop}{Q':δ->Shared->Prop}{E:Value->Shared->Prop}
theorem Ans.go{r:Except Str α}{h':Heap}{tk:Nat}(x:Z.Go s.heap U J h' U' J1)(a:Ans Z R U J r J' Q E s):Ans Z R U' J1 r J' Q E { s with heap:=h',toks:=tk}:=by
 induction r using Except.casesOn with
 | ok v=>exact λb h2 tk2 U2 G r=>a b h2 tk2 U2 (x.trans G) r
 | error m=>exact λb hB h2 tk2 U2 G r=>a b hB h2 tk2 U2 (x.trans G) r
theorem At.use{m:M α}{t:Sem β}{f:α->M γ}{r:Except Str γ}(x:At Z R m t s U J)(e:(m.bnd f) J=some (r,J'))(a:Ans Z R' U J r J' Q' E s)
 {Q:β->Shared->Prop} (k:∀ v b h' tk U' J1,Z.Go s.heap U J h' U' J1->R h' (Z.V U' J1) U' b v->f v J1=some (r,J')->Q b { s with heap:=h',toks:=tk}):wpAny Z.M Z.A t Q E s:=by
 unfold M.bnd at e
 cases hm:m J with
 | none=>rw [hm] at e;exact nns e
 | some q=>
  obtain ⟨q,J1⟩:=q;rw [hm] at e
  induction q using Except.casesOn with
  | error y=>
   refine spE e λcc1 cc2=>?_;clear e;subst cc1;obtain rfl:=cc2.symm;exact x _ _ hm Q E a
  | ok v=>exact x _ _ hm Q E λb h' tk U' G r=>k v b h' tk U' J1 G r e
theorem At.bind{m:M α}{t:Sem β}{f:α->M γ}{k:β->Sem δ}(x:At Z R m t s U J)
 (y:∀ v b h' tk U' J1,Z.Go s.heap U J h' U' J1->R h' (Z.V U' J1) U' b v->At Z R' (f v) (k b) { s with heap:=h',toks:=tk} U' J1):At Z R' (m.bnd f) (t >>= k) s U J:=
 λr J' e Q E a=>aA (x.use e a λv b h' tk U' J1 G q e'=>y v b h' tk U' J1 G q r J' e' Q E (a.go G))
theorem At.fail{t:Sem β}:At Z R (M.fail:M α) t s U J:=λ_ _ e=>by exact nns e
theorem At.of{a:α}{t:Sem β}(h:∀ Q E,OkR Z R U J a J Q s->wpAny Z.M Z.A t Q E s):At Z R (M.ret a) t s U J:=λr J' e Q E an=>by
 refine spE e λcc1 cc2=>?_;clear e;subst cc1;subst cc2;exact h Q E an
theorem At.same{m:M α}{t t':Sem β}(x:At Z R m t s U J)(e:t=t'):At Z R m t' s U J:=e▸x
theorem At.grd{c:Bool}{m:M α}{t:Sem β}(x:c=true->At Z R m t s U J):At Z R (M.grd c m) t s U J:=by
 induction c using Bool.casesOn with
 | true=>exact x rfl
 | false=>exact .fail
theorem At.opt{o:Option α}{f:α->M γ}{t:Sem δ}(x:∀ a,o=some a->At Z R' (f a) t s U J):At Z R' ((M.ofOpt o).bnd f) t s U J:=by
 induction o using Option.casesOn with
 | none=>exact λ_ _ e=>by exact nns e
 | some a=>exact x a rfl
theorem At.opt'{o:Option α}{t:Sem β}(x:∀ a,o=some a->At Z R (M.ret a) t s U J):At Z R (M.ofOpt o) t s U J:=by
 induction o using Option.casesOn with
 | none=>exact λ_ _ e=>by exact nns e
 | some a=>exact x a rfl
theorem At.get{k:Nat}{f:Al->M γ}{t:Sem δ}(x:∀ o,J[k]?=some o->At Z R' (f o) t s U J):At Z R' ((M.get k).bnd f) t s U J:=λr J' e=>by
 unfold M.bnd M.get at e
 cases h:J[k]? with
 | none=>rw [h] at e;exact nns e
 | some o=>rw [h] at e;exact x o h r J' e
variable{a:α}{b:β}
theorem OkR.now(I:Z.I s.heap U J)(hQ:OkR Z R U J a J Q s)(r:R s.heap (Z.V U J) U b a)(tk:Nat):Q b { s with toks:=tk}:=hQ b s.heap tk U (Go.refl I) r
theorem OkR.now'(I:Z.I s.heap U J)(hQ:OkR Z R U J a J Q s)(r:R s.heap (Z.V U J) U b a):Q b s:=OkR.now I hQ r s.toks
theorem OkR.keep(I:Z.I s.heap U J)(hQ:OkR Z R U J a J Q s){h':Heap}{tk:Nat}(k:∀ b o,s.heap.get? b=some o->h'.get? b=some o)(r:Z.Go s.heap U J h' U J->R h' (Z.V U J) U b a):Q b { s with heap:=h',toks:=tk}:=
 have G:=I.keep k
 hQ b _ tk U G (r G)
end
noncomputable abbrev VR:Ie Value AV:=λh V U v a=>VRel h V U v a
noncomputable abbrev VRs:Ie (List Value) (List AV):=λh V U v a=>Ab h V U v a
section
variable{Z:Zt}{s:Shared}{U:List Addr}{J:Sto}{Q:Value->Shared->Prop}{E:Value->Shared->Prop}
theorem OkR.pushL(I:Z.I s.heap U J){xs:List AV}(hQ:OkR Z VR U J (.lst xs) J Q s){vs:List Value}{tk:Nat}(r:Ab s.heap (Z.V U J) U vs xs)(z:xs.length<lim) :
 Q (.ref s.heap.objs.size) { s with heap:=s.heap.push { cls:=.type "list",data:=.seq vs.toArray},toks:=tk}:=
 OkR.keep I hQ (λb ob e=>aE _ e) λG=>Akl I r z G
theorem OkR.pushT(I:Z.I s.heap U J){xs:List AV}(hQ:OkR Z VR U J (.tup xs) J Q s){vs:List Value}{tk:Nat}(r:Ab s.heap (Z.V U J) U vs xs)(z:xs.length<lim) :
 Q (.ref s.heap.objs.size) { s with heap:=s.heap.push { cls:=.type "tuple",data:=.seq vs.toArray},toks:=tk}:=
 OkR.keep I hQ (λb ob e=>aE _ e) λG=>Zw I r z G
noncomputable def Akm:Bin->Operator
 | .add=>.Add | .sub=>.Sub | .mul=>.Mult | .fdiv=>.FloorDiv | .mod=>.Mod | .shr=>.RShift
theorem Qx{a b:Int}(h : -(2 ^ 62)<a/\a<2 ^ 62):IntMulOk a b:=IntMulOk.of_left (by
 unfold Builtin.Int.intBits;by_cases h0:a=0
 . subst h0;decide
 . have e:(a == 0)=false:=by simpa using h0
   rw [e];have h1:a.natAbs<2 ^ 63:=by omega
   have:=(Nat.log2_lt (by omega)).mpr h1;show a.natAbs.log2+1<=64;exact lec (fk [a.natAbs.log2] [(1,(.a (.v 0) (.n 1)),(.n 63)),(1,(.a (.n 64) (.n 1)),(.a (.v 0) (.n 1)))] rfl this))
variable{v w:Value}{a b:AV}
theorem Df(I:Z.I s.heap U J){op:Bin}{x y:Int}{t u:Tok}:At Z VR (Iq op (.int x) (.int y)) (binaryOp (Akm op) (.int x t) (.int y u)) s U J:=by
 induction op using Bin.casesOn with
 | add=>exact .of λQ E k=>PyProof.Rows.add_int (k.now I (.int _ _) _)
 | sub=>exact .of λQ E k=>PyProof.Rows.sub_int (k.now I (.int _ _) _)
 | mul=>exact .grd λhc=>.of λQ E k=>PyProof.Rows.mul_int (k.now I (.int _ _) _) (Qx (by have:=aB hc;omega))
 | fdiv=>
  refine .grd λhc=>.of λQ E k=>?_;have hc:=aB hc;refine PyProof.Rows.floordiv_int (by omega) ?_ (.inl (PyProof.noPylong_small (by omega)));rw [Int.fdiv_eq_ediv_of_nonneg _ (by omega)];exact k.now I (.int _ _) _
 | mod=>
  refine .grd λhc=>.of λQ E k=>?_;have hc:=aB hc;refine PyProof.Rows.mod_int' (by omega) ?_;rw [Int.fmod_eq_emod_of_nonneg _ (by omega)];exact k.now I (.int _ _) _
 | shr=>
  refine .grd λhc=>.of λQ E k=>?_;refine e02 (aB hc) λzz0 hc'=>?_;subst zz0;exact wpAny_rshift1_int hc' (k.now I (.int _ _) _)
theorem Hh{n:Nat}(h:n<lim):n<=sizeLine:=by unfold lim at h;rw [sizeLine_eq];exact lec (fk [n] [(1,(.a (.v 0) (.n 1)),(.n 100000)),(1,(.a (.n 16777216) (.n 1)),(.v 0))] rfl h)
theorem Bn(x:Str):x.length=x.cps.toList.length:=by simp [Str.length]
theorem Zx{x y:Str}(h:x.length+y.length<lim):(x++y).length<lim:=by
 have:(x++y).length=x.length+y.length:=by
  unfold Str.length;rw [Str.cps_append];simp
 exact ltc (fk [x.length,y.length,lim,(x++y).length] [(1,(.a (.a (.v 0) (.v 1)) (.n 1)),(.v 2)),(1,(.v 3),(.a (.v 0) (.v 1))),(1,(.v 2),(.v 3))] rfl h (aD this))
theorem Wm(I:Z.I s.heap U J){x y:Str}{t u:Tok}:At Z VR (Iq .add (.str x) (.str y)) (binaryOp .Add (.str x t) (.str y u)) s U J:=
 .grd λhc=>.of λQ E k=>PyProof.Rows.add_str (λ_ _=>k.now I (.str _ _ (Zx (aB hc))) _) (Hh (aB hc))
theorem Uf(I:Z.I s.heap U J){x y:Str}{t u:Tok}:At Z VR (Iq .add (.str x) (.str y)) (inplaceOp .Add (.str x t) (.str y u)) s U J:=
 .grd λhc=>.of λQ E k=>PyProof.Rows.iadd_str (λ_ _=>k.now I (.str _ _ (Zx (aB hc))) _) (Hh (aB hc))
theorem Pk{α:Type}(x:Array α):∀ n:Nat,(List.replicate n x).foldl (·++·) #[]=((List.replicate n x.toList).flatten).toArray:=by
 have go:∀ (n:Nat) (a:Array α),(List.replicate n x).foldl (·++·) a=a++((List.replicate n x.toList).flatten).toArray:=by
  intro n
  induction n with
  | zero=>intro a;simp
  | succ n ih=>intro a;rw [List.replicate_succ,List.replicate_succ,List.foldl_cons,ih,List.flatten_cons,Array.append_assoc];congr 1;apply Array.ext';simp
 intro n;rw [go];simp
theorem Wn(I:Z.I s.heap U J){x:Str}{y:Int}{t u:Tok}:At Z VR (Iq .mul (.str x) (.int y)) (binaryOp .Mult (.str x t) (.int y u)) s U J:=by
 refine .grd λhc=>.of λQ E k=>?_;refine e03 (aB hc) λh1 h2 h3=>?_;have h3':y<100000:=h3;refine PySem.P.mul_str ?_ ?_ ?_ ?_
 . rw [aP (by omega),aP (by omega)];rfl
 . intro h4 _;rw [h1];intro h5;have:(2 ^ 63 - 1) / y>=1:=by
    refine Int.le_ediv_of_mul_le (by omega) (by omega)
   omega
 . intro _ _;unfold Builtin.Str.tooLong;rw [h1,sizeLine_eq];exact aP (by omega)
 . by_cases h4:y<1
   . rw [if_pos h4];refine⟨by decide,?_⟩;have:y=0:=by omega
     subst this;exact k.now I (VRel.str _ _ (by simp [Qh,Str.length,lim])) _
   . rw [if_neg h4];by_cases h5:(y == 1||x.length == 0)=true
     . rw [if_pos h5];have:y=1:=by simpa [h1] using h5
       subst this;have e:(⟨(Qh x.cps.toList 1).toArray⟩:Str)=x:=by simp [Qh]
       rw [e] at k;show Q (.str x t) s;exact k.now' I (VRel.str _ _ (by rw [h1];decide))
     . rw [if_neg h5];refine⟨?_,?_⟩
       . show (Str.mk _).length<=sizeLine;rw [Pk,sizeLine_eq];simp [Str.length,List.length_flatten] at h1 ⊢;rw [h1];omega
       . rw [Pk];refine k.now I (VRel.str _ _ ?_) _;simp [Str.length,Qh,List.length_flatten] at h1 ⊢;rw [h1];omega
theorem Wo(I:Z.I s.heap U J){xs ys:List AV}{v w:Value}(R:VRel s.heap (Z.V U J) U v (.lst xs))(R':VRel s.heap (Z.V U J) U w (.lst ys)):At Z VR (Iq .add (.lst xs) (.lst ys)) (binaryOp .Add v w) s U J:=by
 refine .grd λhc=>.of λQ E k=>?_;refine e25 R.inv λp vs z i n r zz=>?_;subst zz;refine e25 R'.inv λp' vs' z' i' n' r' zz=>?_;subst zz;refine e11 i λc i=>?_;refine e11 (i') λc' i'=>?_;have hl:=r.length;have hl':=r'.length;refine concat_meets (T:="list") ⟨_,i,rfl⟩ ⟨_,i',rfl⟩ noFill_list_add seq_list_add PySem.F.slot_list_add PySem.F.entry_list_add (PySem.F.args_list_add_2 _ _)
  (list_addW _ _ _ _ _ _ _ _ _ _ (by have:=Hh (aB hc);simp;omega)) ⟨i,i',?_⟩
 have:=k.pushL (tk:=s.toks) I (r.append r') (by simpa using aB hc);simpa using this
end
end Ik.Internal
namespace Ik.Internal
open PySem PySem.Calls PyProof.Rows PySem.W PySem.SeqAt PySem.MeetsSeq PySem.MeetsSeq2 PySem.MeetsSeq3 PySem.SeqRoads2
open PySem.AutoSeq1 (wpAny_loadPart')
noncomputable def Gx(A:Around)(s:Shared)(y x:Value)(b:Bool):Prop:=
 ∀ (prog:Program) (w:World) (E:Value->Shared->Prop) (Q:Value->Shared->Prop),Q (.bool b) s->wpAny (model prog w) A (richCompare .Lt y x) Q E s
inductive Cz(A:Around)(s:Shared):List Value->List Value->Bool->Prop
 | nil {xs ys:List Value}:(xs=[]\/ys=[])->Cz A s xs ys (decide (xs.length<ys.length))
 | same {x y:Value} {xs ys:List Value} {b:Bool}:EqAt A s x y true->Cz A s xs ys b->Cz A s (x::xs) (y::ys) b
 | diff {x y:Value} {xs ys:List Value} {b:Bool}:EqAt A s x y false->Gx A s x y b->Cz A s (x::xs) (y::ys) b
theorem Cz.inv{A:Around}{s:Shared}{x y:Value}{xs ys:List Value}{c:Bool}(r:Cz A s (x::xs) (y::ys) c):(EqAt A s x y true/\Cz A s xs ys c)\/(EqAt A s x y false/\Gx A s x y c):=by
 cases r with
 | nil q=>exact q.elim (λq=>by injection q) λq=>by injection q
 | same a b=>exact .inl ⟨a,b⟩
 | diff a b=>exact .inr ⟨a,b⟩
theorem Cz.inv_nil{A:Around}{s:Shared}{xs ys:List Value}{c:Bool}(q:xs=[]\/ys=[])(r:Cz A s xs ys c):c=decide (xs.length<ys.length):=by
 induction r using Cz.casesOn with
 | nil _=>rfl
 | same a b=>exact q.elim (λq=>by injection q) λq=>by injection q
 | diff a b=>exact q.elim (λq=>by injection q) λq=>by injection q
theorem drop_nil{α:Type}{a:Array α}{i:Nat}(h:a.toList.drop i=[]):a.size<=i:=List.drop_eq_nil_iff.mp h
theorem Cf{α:Type}{a:Array α}{i:Nat}{x:α}{xs:List α}(h:a.toList.drop i=x::xs):a[i]?=some x/\a.toList.drop (i+1)=xs/\i<a.size:=
 have h1:a[i]?=some x:=dI.symm.trans ((List.getElem?_drop (xs:=a.toList) (i:=i) (j:=0)).symm.trans (aJ (λl=>l[0]?) h))
 ⟨h1,List.tail_drop.symm.trans (aJ List.tail h),(Array.getElem?_eq_some_iff.mp h1).1⟩
theorem Qy{α:Type}{a b:Array α}{i:Nat}{p q:List α}(ha:i<=a.size)(hp:a.toList.drop i=p)(hq:b.toList.drop i=q):decide (p.length<q.length)=decide (a.size<b.size):=by
 subst hp;subst hq;rw [List.length_drop,List.length_drop];exact bU.mpr (Nat.sub_lt_sub_iff_right ha)
theorem Aca(l b:Addr)(items items2:Array Value)(n n2:Nat)(dd dd2:Option Addr)(sl sl2:Array (Option Value))(c:Bool)(xs:List Value) :
 ∀ (ys:List Value) (i:Nat),items.toList.drop i=xs->items2.toList.drop i=ys->i<=items.size->i<=items2.size->Meets (Builtin.«list.__eq__.loop» ⟨[.ref l,.ref b,rawInt i,rawInt 0],[]⟩)
  (λA R s=>s.heap.get? l=some { cls:=.type "list",dict:=dd,data:=.seq items n,slots:=sl}/\s.heap.get? b=some { cls:=.type "list",dict:=dd2,data:=.seq items2 n2,slots:=sl2}/\
   Cz A.in1 s xs ys c/\R (.ok (.ret (.bool c))) s):=by
 induction xs with
 | nil=>
  intro ys i hx hy hi hi' prog w A R s h;obtain ⟨hp,g,d,tk,os⟩:=s;obtain ⟨hl,hb,he,h⟩:=h
  wp_walk using wpAny_loadPart' hl,wpAny_loadPart' hb
  have hi1:items[((i:Nat):Int).toNat]?=none:=Array.getElem?_eq_none (drop_nil hx);rw [hi1];have hc:c=decide (items.size<items2.size):=(he.inv_nil (.inl rfl)).trans (Qy hi hx hy);subst hc
  wp_walk using wpAny_loadPart' hl,wpAny_loadPart' hb
  exact h
 | cons x xs ih=>
  intro ys i hx hy hi hi' prog w A R s h;obtain ⟨hp,g,d,tk,os⟩:=s;obtain ⟨hl,hb,he,h⟩:=h
  wp_walk using wpAny_loadPart' hl,wpAny_loadPart' hb
  have hlt:i<items.size:=(Cf hx).2.2;have hi1:items[((i:Nat):Int).toNat]?=some x:=(Cf hx).1;have hxs:items.toList.drop (i+1)=xs:=(Cf hx).2.1;rw [hi1];have hc:((i:Int)+1)=((i+1:Nat):Int):=by push_cast;rfl
  induction ys using List.casesOn with
  | nil=>
   have hi2:items2[((i:Nat):Int).toNat]?=none:=Array.getElem?_eq_none (drop_nil hy);rw [hi2];have hc:c=decide (items.size<items2.size):=(he.inv_nil (.inr rfl)).trans (Qy hi hx hy);subst hc
   wp_walk using wpAny_loadPart' hl,wpAny_loadPart' hb
   exact h
  | cons y ys=>
   have hlt2:i<items2.size:=(Cf hy).2.2;have hi2:items2[((i:Nat):Int).toNat]?=some y:=(Cf hy).1;have hys:items2.toList.drop (i+1)=ys:=(Cf hy).2.1;rw [hi2];rcases he.inv with ⟨e1,e2⟩ | ⟨e1,e2⟩
   . refine aA (e1 prog w _ _ ?_)
     wp_walk
     rw [hc];exact⟨plainId_quiet plain_eq_loop _,codeAny_builtin entry_eq_loop (by
      rw [dY plain_eq_loop _];exact ih ys (i+1) hxs hys hlt hlt2 prog w A R _ ⟨hl,hb,e2,h⟩)⟩
   . refine aA (e1 prog w _ _ ?_)
     wp_walk using wpAny_loadPart' hl,wpAny_loadPart' hb
     rw [hi1,hi2];refine aA (e2 prog w _ _ ?_);exact aH h
theorem Acb(l b:Addr)(items items2:Array Value)(n n2:Nat)(dd dd2:Option Addr)(sl sl2:Array (Option Value))(c:Bool) :
 Meets (Builtin.«list.__lt__» ⟨[.ref l,.ref b],[]⟩)
  (λA R s=>s.heap.get? l=some { cls:=.type "list",dict:=dd,data:=.seq items n,slots:=sl}/\s.heap.get? b=some { cls:=.type "list",dict:=dd2,data:=.seq items2 n2,slots:=sl2}/\
   Cz A.in1 s items.toList items2.toList c/\R (.ok (.ret (.bool c))) s):=by
 intro prog w A R s h;obtain ⟨hp,g,d,tk,os⟩:=s;obtain ⟨hl,hb,he,h⟩:=h;have f3:=AutoSeq1.sub_list_list
 wp_walk using wpAny_loadPart' hl,wpAny_loadPart' hb
 exact⟨plainId_quiet plain_eq_loop _,codeAny_builtin entry_eq_loop (by
  rw [dY plain_eq_loop _];exact Aca l b items items2 n n2 dd dd2 sl sl2 c _ _ 0 rfl rfl (bV _) (bV _) prog w A R _ ⟨hl,hb,he,h⟩)⟩
theorem Wp(l b:Addr)(items items2:Array Value)(n n2:Nat)(dd dd2:Option Addr)(sl sl2:Array (Option Value))(c:Bool) :
 Meets (Builtin.«tuple.__lt__» ⟨[.ref l,.ref b],[]⟩)
  (λA R s=>s.heap.get? l=some { cls:=.type "tuple",dict:=dd,data:=.seq items n,slots:=sl}/\s.heap.get? b=some { cls:=.type "tuple",dict:=dd2,data:=.seq items2 n2,slots:=sl2}/\
   Cz A.in1 s items.toList items2.toList c/\R (.ok (.ret (.bool c))) s):=
 .of_wp λprog w A R s h=>by
  obtain ⟨hp,g,d,tk,os⟩:=s;obtain ⟨hl,hb,he,h⟩:=h;have f2:=AutoSeq1.sub_tuple_tuple
  wp_walk using wpAny_loadPart' hl,wpAny_loadPart' hb,wpAny_forIn_list _ (λrest b s'=>b.1=none/\s'=⟨hp,g,d,tk,os⟩/\∃ i,i<=items.size/\i<=items2.size/\rest=(items.toList.drop i).zip (items2.toList.drop i)/\
   Cz A.in1 ⟨hp,g,d,tk,os⟩ (items.toList.drop i) (items2.toList.drop i) c) _
  case turn=>
   rintro ⟨y,x⟩ rest b s' ⟨hb',rfl,i,hi1,hi2,hz,hR⟩
   generalize hp1:items.toList.drop i=p1 at hz hR;generalize hp2:items2.toList.drop i=p2 at hz hR
   induction p1 using List.casesOn with
   | nil=>injection hz
   | cons y' ys=>
    induction p2 using List.casesOn with
    | nil=>injection hz
    | cons x' xs=>
     refine cnE hz λcc1 cc2=>?_;clear hz;refine prE cc1 λcc3 cc4=>?_;clear cc1;subst cc3;subst cc4;subst cc2;have q1:items.toList.drop (i+1)=ys:=(Cf hp1).2.1;have q2:items2.toList.drop (i+1)=xs:=(Cf hp2).2.1;have l1:i<items.size:=(Cf hp1).2.2;have l2:i<items2.size:=(Cf hp2).2.2;rcases hR.inv with ⟨e1,e2⟩ | ⟨e1,e2⟩
     . refine aA (e1 prog w _ _ ?_)
       wp_walk
       exact⟨rfl,rfl,i+1,l1,l2,by rw [q1,q2];rfl,by rw [q1,q2];exact e2⟩
     . refine aA (e1 prog w _ _ ?_);show wpAny _ _ (rule _ >>= λ_=>richCompare CmpOp.Lt y x >>= _) _ _ _;refine aA (wpAny_rule (aA (e2 prog w _ _ ?_)))
       wp_walk
       exact⟨_,rfl,h⟩
  case fin=>
   rintro ⟨b1,b2⟩ s' ⟨hb',rfl,i,hi1,hi2,hz,hR⟩
   simp only at hb';subst hb';have hc:c=decide (items.size<items2.size):=by
    generalize hp1:items.toList.drop i=p1 at hz hR;generalize hp2:items2.toList.drop i=p2 at hz hR
    induction hR using Cz.casesOn with
    | nil q=>exact Qy hi1 hp1 hp2
    | same e1 e2=>injection hz
    | diff e1 e2=>injection hz
   subst hc
   wp_walk
   exact⟨_,rfl,h⟩
  case h=>
   exact⟨rfl,rfl,0,bV _,bV _,rfl,he⟩
section
variable{A:Around}{s:Shared}
theorem Gx.lists{l b:Addr}{items items2:Array Value}{c:Bool}(hl:s.heap.IsList l items)(hb:s.heap.IsList b items2)(hu:A.units<cLine)
 (he:Cz A.in1 s items.toList items2.toList c):Gx A s (.ref l) (.ref b) c:=λprog w E Q h=>by
 obtain ⟨⟨cls,dd,data,sl⟩,ho,hc,n,hd⟩:=id hl;obtain ⟨⟨cls2,dd2,data2,sl2⟩,ho2,hc2,n2,hd2⟩:=id hb;simp only at hc hd hc2 hd2;subst hc hd hc2 hd2;exact richCompare_meets_room (op:=.Lt) ⟨_,ho,rfl⟩ ⟨_,ho2,rfl⟩ F.slot_list_lt F.entry_list_lt (F.args_list_lt_2 _ _) (Acb l b items items2 n n2 dd dd2 sl sl2 c)
  ⟨ho,ho2,he,show Value.bool c≠Value.notImplemented/\Q (.bool c) s from⟨(λx=>nomatch x),h⟩⟩ hu
theorem Gx.tuples{l b:Addr}{items items2:Array Value}{c:Bool}(hl:s.heap.IsTuple l items)(hb:s.heap.IsTuple b items2)(hu:A.units<cLine)
 (he:Cz A.in1 s items.toList items2.toList c):Gx A s (.ref l) (.ref b) c:=λprog w E Q h=>by
 obtain ⟨⟨cls,dd,data,sl⟩,ho,hc,n,hd⟩:=id hl;obtain ⟨⟨cls2,dd2,data2,sl2⟩,ho2,hc2,n2,hd2⟩:=id hb;simp only at hc hd hc2 hd2;subst hc hd hc2 hd2;exact richCompare_meets_room (op:=.Lt) ⟨_,ho,rfl⟩ ⟨_,ho2,rfl⟩ F.slot_tuple_lt F.entry_tuple_lt (F.args_tuple_lt_2 _ _) (Wp l b items items2 n n2 dd dd2 sl sl2 c)
  ⟨ho,ho2,he,show Value.bool c≠Value.notImplemented/\Q (.bool c) s from⟨(λx=>nomatch x),h⟩⟩ hu
theorem Gx.int(a b:Int)(t u:Tok):Gx A s (.int a t) (.int b u) (decide (a<b)):=λprog w E Q h=>PyProof.Rows.lt_int h
theorem Gx.str(a b:Str)(t u:Tok):Gx A s (.str a t) (.str b u) (Tq a b):=λprog w E Q h=>PyProof.Rows.lt_str h
theorem Avi(a b:Int)(t u:Tok):RcAt A s (.int a t) (.int b u) (a == b):=λprog w E Q h=>PyProof.Rows.eq_int h
theorem Avj(a b:Str)(t u:Tok):RcAt A s (.str a t) (.str b u) (a == b):=λprog w E Q h=>PyProof.Rows.eq_str h
theorem Akn(a b:Array UInt8)(t u:Tok):RcAt A s (.bytes a t) (.bytes b u) (a.toList == b.toList):=λprog w E Q h=>PySem.W.eq_bytes h
end
end Ik.Internal
namespace Ik.Internal
open PySem PySem.Calls PyProof.Rows PySem.W PySem.SeqAt PySem.MeetsSeq
section
variable{h:Heap}{V:Addr->Prop}{U:List Addr}{s:Shared}
theorem Aet{vs:List Value}{xs:List AV}(r:Ab h V U vs xs){j:Nat}{v:Value}(e:vs[j]?=some v):∃ x,xs[j]?=some x/\VRel h V U v x:=by
 induction vs generalizing xs j with
 | nil=>exact nns e
 | cons w ws ih=>
  refine e23 r.unc λx xs' a r' zz=>?_;clear r;subst zz
  induction j using Nat.casesAuxOn with
  | zero=>exact snE e λe=>⟨x,rfl,e▸a⟩
  | succ j=>exact ih r' e
theorem Ako{f:AV->AV->Option Bool}{xs ys:List AV}{c:Bool}(e:eqL f xs ys=some c){j:Nat}{x y:AV}(hx:xs[j]?=some x)(hy:ys[j]?=some y):∃ b,f x y=some b:=by
 induction xs generalizing ys c j with
 | nil=>exact nns hx
 | cons x' xs ih=>
  induction ys using List.casesOn with
  | nil=>exact nns hy
  | cons y' ys=>
   unfold eqL at e
   cases h1:f x' y' with
   | none=>rw [h1] at e;exact nns e
   | some b=>
    rw [h1] at e
    cases h2:eqL f xs ys with
    | none=>rw [h2] at e;exact nns e
    | some c'=>
     induction j using Nat.casesAuxOn with
     | zero=>exact snE hx λp=>snE hy λq=>⟨b,p▸q▸h1⟩
     | succ j=>exact ih h2 hx hy
theorem Akp{f:AV->AV->Option Bool}{xs ys:List AV}{c:Bool}(e:eqL f xs ys=some c)(g:Nat->Bool)(hg:∀ j x y,xs[j]?=some x->ys[j]?=some y->f x y=some (g j)) :
 c=(List.range (min xs.length ys.length)).all g:=by
 induction xs generalizing ys c g with
 | nil=>unfold eqL at e;refine snE e λcc1=>?_;clear e;subst cc1;rw [List.length_nil,Nat.zero_min];rfl
 | cons x' xs ih=>
  induction ys using List.casesOn with
  | nil=>unfold eqL at e;refine snE e λcc1=>?_;clear e;subst cc1;rw [List.length_nil,Nat.min_zero];rfl
  | cons y' ys=>
   unfold eqL at e;rw [hg 0 x' y' rfl rfl] at e
   cases h2:eqL f xs ys with
   | none=>rw [h2] at e;exact nns e
   | some c'=>
    rw [h2] at e;refine snE e λcc1=>?_;clear e;subst cc1;have:=ih h2 (λj=>g (j+1)) (λj x y hx hy=>hg (j+1) x y hx hy);rw [this,bE,bE,Nat.succ_min_succ,List.range_succ_eq_map,List.all_cons,List.all_map];rfl
theorem TX.uniq{a:Addr}{vs ws:List Value}(x:TX h a vs)(y:TX h a ws):vs=ws:=by
 refine e11 x λn x=>?_;refine e11 y λm y=>?_;rw [x] at y;(refine snE y λcc1=>?_;clear y;injection cc1 with cc2 cc3 cc4 cc5;clear cc2;clear cc3;injection cc4 with cc6 cc7;injection cc6 with cc8) <;> rfl
theorem LX.uniq{a:Addr}{vs ws:List Value}(x:LX h a vs)(y:LX h a ws):vs=ws:=by
 refine e11 x λn x=>?_;refine e11 y λm y=>?_;rw [x] at y;(refine snE y λcc1=>?_;clear y;injection cc1 with cc2 cc3 cc4 cc5;clear cc2;clear cc3;injection cc4 with cc6 cc7;injection cc6 with cc8) <;> rfl
inductive EqV(h:Heap)(V:Addr->Prop)(U:List Addr)(r:Option (AV->AV->Option Bool)):Value->Value->AV->AV->Bool->Prop
 | int (x y:Int) (t u:Tok):EqV h V U r (.int x t) (.int y u) (.int x) (.int y) (x == y)
 | str (x y:Str) (t u:Tok):EqV h V U r (.str x t) (.str y u) (.str x) (.str y) (x == y)
 | bytes (x y:Array UInt8) (t u:Tok):EqV h V U r (.bytes x t) (.bytes y u) (.bytes x.toList) (.bytes y.toList) (x.toList == y.toList)
 | tup {p q:Addr} {vs ws:List Value} {xs ys:List AV} {f:AV->AV->Option Bool} {c:Bool}:r=some f->TX h p vs->TX h q ws->Ab h V U vs xs->Ab h V U ws ys->eqL f xs ys=some c->EqV h V U r (.ref p) (.ref q) (.tup xs) (.tup ys) (c&&xs.length == ys.length)
 | lst {p q:Addr} {vs ws:List Value} {xs ys:List AV} {f:AV->AV->Option Bool} {c:Bool}:r=some f->LX h p vs->LX h q ws->Ab h V U vs xs->Ab h V U ws ys->xs.length=ys.length->eqL f xs ys=some c->EqV h V U r (.ref p) (.ref q) (.lst xs) (.lst ys) c
 | lens {p q:Addr} {vs ws:List Value} {xs ys:List AV} {f:AV->AV->Option Bool}:r=some f->LX h p vs->LX h q ws->Ab h V U vs xs->Ab h V U ws ys->xs.length≠ys.length->EqV h V U r (.ref p) (.ref q) (.lst xs) (.lst ys) false
theorem Ug{r:Option (AV->AV->Option Bool)}{v w:Value}{a b:AV}{c:Bool}(ra:VRel h V U v a)(rb:VRel h V U w b)(e:eqB r a b=some c):EqV h V U r v w a b c:=by
 induction a using AV.casesOn with
 | int x=>induction b using AV.casesOn with
  | int y=>refine e11 ra.inv λt zz=>?_;clear ra;subst zz;refine e11 rb.inv λu zz=>?_;clear rb;subst zz;refine snE e λcc1=>?_;clear e;subst cc1;exact .int x y t u
  | _=>exact nns e
 | str x=>induction b using AV.casesOn with
  | str y=>refine e12 ra.inv λt _ zz=>?_;clear ra;subst zz;refine e12 rb.inv λu _ zz=>?_;clear rb;subst zz;refine snE e λcc1=>?_;clear e;subst cc1;exact .str x y t u
  | _=>exact nns e
 | bytes x=>induction b using AV.casesOn with
  | bytes y=>refine e23 ra.inv λx t _ zz3 zz4=>?_;subst zz3;subst zz4;refine e23 rb.inv λy u _ zz3 zz4=>?_;subst zz3;subst zz4;refine snE e λcc1=>?_;clear e;subst cc1;exact .bytes x y t u
  | _=>exact nns e
 | tup xs=>induction b using AV.casesOn with
  | tup ys=>
   refine e25 ra.inv λp vs _ i _ q zz=>?_;clear ra;subst zz;refine e25 rb.inv λp' ws _ i' _ q' zz=>?_;clear rb;subst zz;refine e12 (aX.mp e) λf zz1 e1=>?_;subst zz1;refine e12 (bF.mp e1) λc' e2 zz2=>?_;subst zz2;exact .tup rfl i i' q q' e2
  | _=>exact nns e
 | lst xs=>induction b using AV.casesOn with
  | lst ys=>
   refine e25 ra.inv λp vs _ i _ q zz=>?_;clear ra;subst zz;refine e25 rb.inv λp' ws _ i' _ q' zz=>?_;clear rb;subst zz;refine e12 (aX.mp e) λf zz1 e1=>?_;subst zz1;by_cases hl:xs.length=ys.length
   . rw [if_pos hl] at e1;exact .lst rfl i i' q q' hl e1
   . rw [if_neg hl] at e1;refine snE e1 λcc1=>?_;clear e1;subst cc1;exact .lens rfl i i' q q' hl
  | _=>exact nns e
 | _=>exact nns e
noncomputable def Aeu(k:Nat):Option (AV->AV->Option Bool):=match k with
 | 0=>none
 | k+1=>some (eqA k)
theorem Fk{k:Nat}{v w:Value}{a b:AV}{c:Bool}(ra:VRel h V U v a)(rb:VRel h V U w b)(e:eqA k a b=some c):EqV h V U (Aeu k) v w a b c:=by
 induction k using Nat.casesAuxOn with
 | zero=>exact Ug ra rb e
 | succ k=>exact Ug ra rb e
theorem Cj{k:Nat}{f:AV->AV->Option Bool}(e:Aeu k=some f):∃ n,k=n+1/\f=eqA n:=by
 induction k using Nat.casesAuxOn with
 | zero=>exact nns e
 | succ n=>refine snE e λcc1=>?_;clear e;subst cc1;exact⟨n,rfl,rfl⟩
theorem Qz{f:AV->AV->Option Bool}{x y:AV}{xs ys:List AV}{c:Bool}(e:eqL f (x::xs) (y::ys)=some c):∃ b d,f x y=some b/\eqL f xs ys=some d/\c=(b&&d):=by
 unfold eqL at e
 cases q:f x y with
 | none=>rw [q] at e;exact nns e
 | some b=>
  rw [q] at e
  cases q2:eqL f xs ys with
  | none=>rw [q2] at e;exact nns e
  | some d=>rw [q2] at e;refine snE e λcc1=>?_;clear e;subst cc1;exact⟨b,d,rfl,rfl,rfl⟩
theorem Pm{f:AV->AV->Option Bool}(hf:∀ {v:Value} {a b:AV} {c:Bool},VRel h V U v a->VRel h V U v b->f a b=some c->c=true):∀ {vs:List Value} {xs ys:List AV} {c:Bool},Ab h V U vs xs->Ab h V U vs ys->eqL f xs ys=some c->c=true:=by
 intro vs
 induction vs with
 | nil=>intro xs ys c r r' e;have zz:=r.inv_nil;subst zz;refine snE e λcc1=>?_;clear e;subst cc1;rfl
 | cons v vs ihv=>
  intro xs ys c r0 r1 e;refine e23 r0.unc λx xs a r zz=>?_;clear r0;subst zz;refine e23 r1.unc λy ys a' r' zz=>?_;clear r1;subst zz;refine e23 (Qz e) λb d q1 q2 zz4=>?_;subst zz4;rw [hf a a' q1,ihv r r' q2];rfl
theorem Aev:∀ (k:Nat) {v:Value} {a b:AV} {c:Bool},VRel h V U v a->VRel h V U v b->eqA k a b=some c->c=true:=by
 intro k
 induction k using Nat.strongRecOn with
 | ind k ih=>
  intro v a b c ra rb e;have hv:=Fk ra rb e;clear ra rb e;obtain ⟨w,hw,hv⟩:∃ w,v=w/\EqV h V U (Aeu k) v w a b c:=⟨v,rfl,hv⟩
  induction hv using EqV.casesOn with
  | int x y t u=>injection hw with hw;subst hw;exact beq_self_eq_true _
  | str x y t u=>injection hw with hw;subst hw;exact beq_self_eq_true _
  | bytes x y t u=>injection hw with hw;subst hw;exact beq_self_eq_true _
  | tup hr i i' q q' e'=>
   refine e12 (Cj hr) λn zz1 zz2=>?_;subst zz1;subst zz2;injection hw with hw;subst hw;have zz:=i.uniq i';subst zz;rw [Pm (λra rb e=>ih n (cN n) ra rb e) q q' e',<- q.length,<- q'.length];exact beq_self_eq_true _
  | lst hr i i' q q' hl e'=>
   refine e12 (Cj hr) λn zz1 zz2=>?_;subst zz1;subst zz2;injection hw with hw;subst hw;have zz:=i.uniq i';subst zz;exact Pm (λra rb e=>ih n (cN n) ra rb e) q q' e'
  | lens hr i i' q q' hl=>
   injection hw with hw;subst hw;have zz:=i.uniq i';subst zz;exact absurd (q.length.symm.trans q'.length) hl
theorem Ra{A:Around}{v w:Value}{a b:AV}{c:Bool}(k:Nat)(ra:VRel s.heap V U v a)(rb:VRel s.heap V U w b)(e:eqA k a b=some c)(h:RcAt A s v w c):EqAt A s v w c:=by
 by_cases q:v=w
 . subst q;rw [Aev k ra rb e];exact .same _
 . exact λprog w' E Q hq=>by
    unfold eqBool;refine cQ ?_;refine wpAny_ite_split (λhab=>absurd (eq_of_beq hab) q) (λ_=>?_);have E':=Fk ra rb e;clear ra rb e
    induction E' using EqV.casesOn <;> exact aA (h prog w' E _ (wpAny_truthy_bool hq))
theorem Zy{vs:List Value}{xs:List AV}(r:Ab s.heap V U vs xs){j:Nat}(h:j<vs.toArray.size):∃ x,xs[j]?=some x/\VRel s.heap V U vs.toArray[j] x:=by
 exact Aet r (bB h)
noncomputable def atB(f:AV->AV->Option Bool)(xs ys:List AV)(j:Nat):Bool:=((xs[j]?).bind λx=>(ys[j]?).bind λy=>f x y).getD false
theorem Aew{f:AV->AV->Option Bool}{xs ys:List AV}{c:Bool}(e:eqL f xs ys=some c){j:Nat}{x y:AV}(hx:xs[j]?=some x)(hy:ys[j]?=some y):f x y=some (atB f xs ys j):=by
 refine e11 (Ako e hx hy) λb hb=>?_;unfold atB;rw [hx,hy];show f x y=some ((f x y).getD false);rw [hb];rfl
theorem Mg{f:AV->AV->Option Bool}{xs ys:List AV}{c:Bool}(e:eqL f xs ys=some c):c=(List.range (min xs.length ys.length)).all (atB f xs ys):=Akp e _ λ_ _ _ hx hy=>Aew e hx hy
theorem Jn{P:Value->Value->Bool->Prop}{f:AV->AV->Option Bool}{vs ws:List Value}{xs ys:List AV}{c:Bool}(hf:∀ {v w:Value} {x y:AV} {c:Bool},VRel s.heap V U v x->VRel s.heap V U w y->f x y=some c->P v w c)(r:Ab s.heap V U vs xs)(r':Ab s.heap V U ws ys)(e:eqL f xs ys=some c)
 (j:Nat) (h1:j<vs.toArray.size) (h2:j<ws.toArray.size):P vs.toArray[j] ws.toArray[j] (atB f xs ys j):=by
 refine e12 (Zy r h1) λx hx rx=>?_;refine e12 (Zy r' h2) λy hy ry=>?_;exact hf rx ry (Aew e hx hy)
theorem Kq{A:Around}{k:Nat}(h:A.units+(k+1)<cLine):A.in1.units+k<cLine:=by show A.units+1+k<cLine;exact ltc (fk [A.units,k,cLine] [(1,(.a (.a (.v 0) (.a (.v 1) (.n 1))) (.n 1)),(.v 2)),(1,(.v 2),(.a (.a (.v 0) (.n 1)) (.v 1)))] rfl h)
theorem Aex:∀ (k:Nat) {A:Around} {v w:Value} {a b:AV} {c:Bool},A.units+k<cLine->VRel s.heap V U v a->VRel s.heap V U w b->eqA k a b=some c->RcAt A s v w c:=by
 intro k
 induction k using Nat.strongRecOn with
 | ind k ih=>
  intro A v w a b c hu ra rb e;have hu0:A.units<cLine:=by exact ltc (fk [A.units,k,cLine] [(1,(.a (.a (.v 0) (.v 1)) (.n 1)),(.v 2)),(1,(.v 2),(.v 0))] rfl hu)
  have E':=Fk ra rb e;clear ra rb e
  induction E' using EqV.casesOn with
  | int x y t u=>exact Avi _ _ _ _
  | str x y t u=>exact Avj _ _ _ _
  | bytes x y t u=>exact Akn _ _ _ _
  | tup hr i i' q q' e'=>
   refine e12 (Cj hr) λn zz1 zz2=>?_;subst zz1;subst zz2;have key:=RcAt.tuples (A:=A) i.isTuple i'.isTuple hu0 (Jn (P:=EqAt A.in1 s) (λrx ry e=>Ra n rx ry e (ih n (cN n) (Kq hu) rx ry e)) q q' e');rw [Mg e'];simp only [cY,q.length,q'.length] at key;exact key
  | lst hr i i' q q' hl e'=>
   refine e12 (Cj hr) λn zz1 zz2=>?_;subst zz1;subst zz2;have key:=RcAt.lists (A:=A) i.isList i'.isList ((q.length.trans hl).trans q'.length.symm) hu0 (Jn (P:=EqAt A.in1 s) (λrx ry e=>Ra n rx ry e (ih n (cN n) (Kq hu) rx ry e)) q q' e');rw [Mg e',<- hl,Nat.min_self];simp only [cY,q.length] at key;exact key
  | lens hr i i' q q' hl=>exact RcAt.lists_lengths i.isList i'.isList (bne_iff_ne.mpr λe=>hl (q.length.symm.trans (Eq.trans e q'.length))) hu0
theorem Mx{k:Nat}{A:Around}{v w:Value}{a b:AV}{c:Bool}(hu:A.units+k<cLine)(ra:VRel s.heap V U v a)(rb:VRel s.heap V U w b)(e:eqA k a b=some c):EqAt A s v w c:=Ra k ra rb e (Aex k hu ra rb e)
theorem Zz{f g:AV->AV->Option Bool}{A:Around}{vs ws:List Value}{xs ys:List AV}{c:Bool}(r:Ab s.heap V U vs xs)(r':Ab s.heap V U ws ys)
 (hf:∀ {v w:Value} {x y:AV} {c:Bool},VRel s.heap V U v x->VRel s.heap V U w y->f x y=some c->EqAt A s v w c)
 (hg:∀ {v w:Value} {x y:AV} {c:Bool},VRel s.heap V U v x->VRel s.heap V U w y->g x y=some c->Gx A s v w c) (e:ltL f g xs ys=some c):Cz A s vs ws c:=by
 induction vs generalizing xs ys ws c with
 | nil=>
  have zz:=r.inv_nil;subst zz;have e':=r'.length;unfold ltL at e;have:c=decide ((([]:List Value)).length<ws.length):=by
   rw [e']
   cases ys <;> exact (bG e).symm
  rw [this];exact .nil (.inl rfl)
 | cons v vs ih=>
  refine e23 r.unc λx xs a r2 zz=>?_;clear r;subst zz
  induction ys using List.casesOn with
  | nil=>
   have zz:=r'.inv0;subst zz;unfold ltL at e;have:c=decide ((v::vs).length<([]:List Value).length):=(bG e).symm;rw [this];exact .nil (.inr rfl)
  | cons y ys=>
   refine e23 r'.inv1 λw ws a' r3 zz=>?_;clear r';subst zz;unfold ltL at e
   cases q:f x y with
   | none=>rw [q] at e;exact nns e
   | some b=>
    rw [q] at e
    induction b using Bool.casesOn with
    | true=>exact .same (hf a a' q) (ih r2 r3 e)
    | false=>exact .diff (hf a a' q) (hg a a' e)
theorem Wq:∀ (k:Nat) {A:Around} {v w:Value} {a b:AV} {c:Bool},A.units+k<cLine->VRel s.heap V U v a->VRel s.heap V U w b->ltA k a b=some c->Gx A s v w c:=by
 have key:∀ (r:Option ((AV->AV->Option Bool)×(AV->AV->Option Bool))) {A:Around} {v w:Value} {a b:AV} {c:Bool},A.units<cLine->(∀ p,r=some p->∀ {v w:Value} {a b:AV} {c:Bool},VRel s.heap V U v a->VRel s.heap V U w b->(p.1 a b=some c->EqAt A.in1 s v w c)/\(p.2 a b=some c->Gx A.in1 s v w c))->
  VRel s.heap V U v a->VRel s.heap V U w b->ltB r a b=some c->Gx A s v w c:=by
  intro r A v w a b c hu hr ra rb e
  induction a using AV.casesOn with
  | int x=>induction b using AV.casesOn with
   | int y=>refine e11 ra.inv λt zz=>?_;clear ra;subst zz;refine e11 rb.inv λu zz=>?_;clear rb;subst zz;refine snE e λcc1=>?_;clear e;subst cc1;exact Gx.int _ _ _ _
   | _=>exact nns e
  | str x=>induction b using AV.casesOn with
   | str y=>refine e12 ra.inv λt _ zz=>?_;clear ra;subst zz;refine e12 rb.inv λu _ zz=>?_;clear rb;subst zz;refine snE e λcc1=>?_;clear e;subst cc1;exact Gx.str _ _ _ _
   | _=>exact nns e
  | tup xs=>induction b using AV.casesOn with
   | tup ys=>
    refine e25 ra.inv λp vs _ i _ q zz=>?_;clear ra;subst zz;refine e25 rb.inv λp' ws _ i' _ q' zz=>?_;clear rb;subst zz;refine e12 (aX.mp e) λf h1 e1=>?_;exact Gx.tuples i.isTuple i'.isTuple hu (Zz q q' (λra rb=>(hr f h1 ra rb).1) (λra rb=>(hr f h1 ra rb).2) e1)
   | _=>exact nns e
  | lst xs=>induction b using AV.casesOn with
   | lst ys=>
    refine e25 ra.inv λp vs _ i _ q zz=>?_;clear ra;subst zz;refine e25 rb.inv λp' ws _ i' _ q' zz=>?_;clear rb;subst zz;refine e12 (aX.mp e) λf h1 e1=>?_;exact Gx.lists i.isList i'.isList hu (Zz q q' (λra rb=>(hr f h1 ra rb).1) (λra rb=>(hr f h1 ra rb).2) e1)
   | _=>exact nns e
  | _=>exact nns e
 intro k
 induction k with
 | zero=>intro A v w a b c hu ra rb e;exact key none (by exact ltc (fk [A.units,cLine] [(1,(.a (.a (.v 0) (.n 0)) (.n 1)),(.v 1)),(1,(.v 1),(.v 0))] rfl hu)) (λp hp=>by exact nns hp) ra rb e
 | succ k ih=>
  intro A v w a b c hu ra rb e;exact key _ (by exact ltc (fk [A.units,k,cLine] [(1,(.a (.a (.v 0) (.a (.v 1) (.n 1))) (.n 1)),(.v 2)),(1,(.v 2),(.v 0))] rfl hu)) (λp hp {v w a b c} ra rb=>by refine snE hp λcc1=>?_;clear hp;subst cc1;exact⟨Mx (Kq hu) ra rb,ih (Kq hu) ra rb⟩) ra rb e
theorem Aqr(k:Nat){A:Around}{v w:Value}{a b:AV}{c:Bool}(hu:A.units+k<cLine)(ra:VRel s.heap V U v a)(rb:VRel s.heap V U w b)(e:eqA k a b=some c):RcNeAt A s v w (!c):=by
 have hu0:A.units<cLine:=by exact ltc (fk [A.units,k,cLine] [(1,(.a (.a (.v 0) (.v 1)) (.n 1)),(.v 2)),(1,(.v 2),(.v 0))] rfl hu)
 have E':=Fk ra rb e;clear ra rb e
 induction E' using EqV.casesOn with
 | int x y t u=>exact RcNeAt.int_int _ _ _ _
 | str x y t u=>exact RcNeAt.str_str _ _ _ _
 | bytes x y t u=>exact λprog w E Q h=>PySem.W.ne_bytes h
 | tup hr i i' q q' e'=>
  refine e12 (Cj hr) λn zz1 zz2=>?_;subst zz1;subst zz2;have key:=RcNeAt.tuples (A:=A) i.isTuple i'.isTuple hu0 (Jn (P:=EqAt A.in1 s) (λrx ry e=>Mx (Kq hu) rx ry e) q q' e');rw [Mg e'];simp only [cY,q.length,q'.length] at key;exact key
 | lst hr i i' q q' hl e'=>
  refine e12 (Cj hr) λn zz1 zz2=>?_;subst zz1;subst zz2;have key:=RcNeAt.lists (A:=A) i.isList i'.isList ((q.length.trans hl).trans q'.length.symm) hu0 (Jn (P:=EqAt A.in1 s) (λrx ry e=>Mx (Kq hu) rx ry e) q q' e');rw [Mg e',<- hl,Nat.min_self];simp only [cY,q.length] at key;exact key
 | lens hr i i' q q' hl=>exact RcNeAt.lists_lengths i.isList i'.isList (bne_iff_ne.mpr λe=>hl (q.length.symm.trans (Eq.trans e q'.length))) hu0
end
end Ik.Internal
namespace Ik.Internal
open PySem PySem.Calls PyProof.Rows PySem.W PySem.SeqAt
noncomputable abbrev EqR{α:Type}:Ie α α:=λ_ _ _ b c=>b=c
noncomputable def Zt.Room(Z:Zt):Prop:=Z.A.units+40<cLine/\Z.A.handled=none
section
variable{Z:Zt}{s:Shared}{U:List Addr}{J:Sto}{v w:Value}{a b:AV}
theorem Bq{n:Nat}(h:n<lim):(n:Int)<2 ^ 63/\n<=sizeLine/\n<=1099511627776:=by rw [sizeLine_eq];unfold lim at h;omega
theorem Ivt.list(I:Z.I s.heap U J){k:Nat}{l:Addr}{xs:List AV}(e1:U[k]?=some l)(e2:J[k]?=some (.lst xs)):xs.length<lim/\∃ vs,LX s.heap l vs/\Ab s.heap (Z.V U J) U vs xs:=I.obj e1 e2
theorem Wr{k:Nat}:Bv (.ref k)=(M.get k).bnd λo=>match o with
 | .lst xs=>.ret xs
 | _=>.fail:=rfl
theorem Ce{α:Type}{c:Bool}{m:M α}{J:Sto}{q:Except Str α×Sto}(e:M.grd c m J=some q):c=true/\m J=some q:=by
 induction c using Bool.casesOn with
 | true=>exact⟨rfl,e⟩
 | false=>exact nns e
theorem Akq{γ:Type}{k:Nat}{f:Al->M γ}{r:Except Str γ×Sto}(e:((M.get k).bnd f) J=some r):∃ o,J[k]?=some o/\f o J=some r:=by
 unfold M.bnd M.get at e
 cases h:J[k]? with
 | none=>rw [h] at e;exact nns e
 | some o=>rw [h] at e;exact⟨o,rfl,e⟩
theorem Fm{γ:Type}{k:Nat}{f:List AV->M γ}{r:Except Str γ×Sto}(e:((Bv (.ref k)).bnd f) J=some r):∃ xs,J[k]?=some (.lst xs)/\f xs J=some r:=by
 have e':((M.get k).bnd λo=>(match o with
  | .lst xs=>M.ret xs
  | _=>M.fail:M (List AV)).bnd f) J=some r:=by rw [<- e,Wr];unfold M.bnd M.get;cases J[k]? <;> rfl
 refine e12 (Akq e') λo h e2=>?_
 induction o using Al.casesOn with
 | lst xs=>exact⟨xs,h,e2⟩
 | _=>exact nns e2
theorem At.items{γ δ:Type}{R':Ie δ γ}{f:List AV->M γ}{t:Sem δ}(I:Z.I s.heap U J)(R:VRel s.heap (Z.V U J) U v a)
 (x:∀ l vs xs,v=.ref l->xs.length<lim->LX s.heap l vs->Ab s.heap (Z.V U J) U vs xs->At Z R' (f xs) t s U J):At Z R' ((Bv a).bnd f) t s U J:=by
 induction a using AV.casesOn with
 | lst xs=>
  refine e25 R.inv λp vs z i _ r zz=>?_;clear R;subst zz;exact x _ _ _ rfl z i r
 | ref k=>
  refine e12 R.inv λl e zz=>?_;clear R;subst zz;intro r J' hm;refine e12 (Fm hm) λxs h e2=>?_;obtain ⟨z,vs,i,q⟩:=I.list e h;exact x l vs xs rfl z i q r J' e2
 | _=>exact .fail
theorem Akr(i:Int):(i != 0)=decide (i≠0):=by by_cases h:i=0 <;> simp [h]
theorem Aaa(n:Nat):((n:Int) != 0)=decide (n≠0):=by by_cases h:n=0 <;> simp [h]
theorem Pn(I:Z.I s.heap U J){l:Addr}{vs:List Value}{xs:List AV}(z:xs.length<lim)(i:LX s.heap l vs)(r:Ab s.heap (Z.V U J) U vs xs){Q:Bool->Shared->Prop}{E:Value->Shared->Prop}
 (k:OkR Z (EqR) U J (decide (xs.length≠0)) J Q s):wpAny Z.M Z.A (truthy (.ref l)) Q E s:=by
 have hl:=r.length;refine wpAny_truthy_list i.isList (by have:=(Bq z).1;simpa [hl] using this) ?_;refine k.now I ?_ _;rw [<- hl]
 cases vs <;> rfl
theorem Hi(I:Z.I s.heap U J)(R:VRel s.heap (Z.V U J) U v a):At Z (EqR) (Ac a) (truthy v) s U J:=by
 induction a using AV.casesOn with
 | none=>have zz9:=R.inv;subst zz9;exact .of λQ E k=>PyProof.Rows.truthy_none (k.now' I rfl)
 | bool b=>have zz9:=R.inv;subst zz9;exact .of λQ E k=>wpAny_truthy_bool (k.now' I rfl)
 | int i=>refine e11 R.inv λt zz=>?_;clear R;subst zz;exact .of λQ E k=>PySem.P.truthy_int (k.now' I (Akr i))
 | str x=>refine e12 R.inv λt z zz=>?_;clear R;subst zz;exact .of λQ E k=>PySem.P.truthy_str (by have:=(Bq z).1;omega) (k.now I (Aaa _) _)
 | bytes b=>refine e23 R.inv λb t z zz3 zz4=>?_;subst zz3;subst zz4;exact .of λQ E k=>PySem.W.truthy_bytes (Bq z).2.2 (k.now I (by rw [dW];exact Aaa _) _)
 | lst xs=>refine e25 R.inv λp vs z i _ r zz=>?_;clear R;subst zz;exact .of λQ E k=>Pn I z i r k
 | ref k=>
  refine e12 R.inv λl e zz=>?_;clear R;subst zz;refine .get λo h=>?_
  induction o using Al.casesOn with
  | lst xs=>
   obtain ⟨z,vs,i,q⟩:=I.list e h;exact .of λQ E k=>Pn I z i q k
  | _=>exact .fail
 | _=>exact .fail
noncomputable def Avk:Cmp->CmpOp
 | .eq=>.Eq | .ne=>.NotEq | .lt=>.Lt | .ge=>.GtE | .gt=>.Gt | .nin=>.NotIn | .isin=>.In | .is=>.Is
theorem Aab{h:Heap}{V:Addr->Prop}{f:AV->AV->Option Bool}(hf:∀ {v w:Value} {a a' b:AV} {c c':Bool},VRel h V U v a->VRel h V U v a'->VRel h V U w b->f a b=some c->f a' b=some c'->c=c') :
 ∀ {vs ws:List Value} {xs xs' ys:List AV} {c c':Bool},Ab h V U vs xs->Ab h V U vs xs'->Ab h V U ws ys->eqL f xs ys=some c->eqL f xs' ys=some c'->c=c':=by
 intro vs
 induction vs with
 | nil=>intro ws xs xs' ys c c' r r' _ e e';have zz9:=r.inv_nil;subst zz9;have zz9:=r'.inv_nil;subst zz9;rw [e] at e';exact bG e'
 | cons v vs ihv=>
  intro ws xs xs' ys c c' r r' q e e';refine e23 r.inv_cons λx xs a r1 zz4=>?_;subst zz4;refine e23 (r'.inv_cons) λx' xs' a' r1' zz4=>?_;subst zz4
  induction ys using List.casesOn with
  | nil=>refine snE e λcc1=>?_;clear e;subst cc1;refine snE e' λcc1=>?_;clear e';subst cc1;rfl
  | cons y ys=>
   refine e23 q.inv1 λw ws b q0 zz4=>?_;subst zz4;refine e23 (Qz e) λ_ _ q1 q2 zz4=>?_;subst zz4;refine e23 (Qz e') λ_ _ q3 q4 zz4=>?_;subst zz4;rw [hf a a' b q1 q3,ihv r1 r1' q0 q2 q4]
theorem EqV.inv_int{h:Heap}{V:Addr->Prop}{r:Option (AV->AV->Option Bool)}{x y:Int}{t u:Tok}{a b:AV}{c:Bool}(e:EqV h V U r (.int x t) (.int y u) a b c):c=(x == y):=by cases e;rfl
theorem EqV.inv_str{h:Heap}{V:Addr->Prop}{r:Option (AV->AV->Option Bool)}{x y:Str}{t u:Tok}{a b:AV}{c:Bool}(e:EqV h V U r (.str x t) (.str y u) a b c):c=(x == y):=by cases e;rfl
theorem EqV.inv_bytes{h:Heap}{V:Addr->Prop}{r:Option (AV->AV->Option Bool)}{x y:Array UInt8}{t u:Tok}{a b:AV}{c:Bool}(e:EqV h V U r (.bytes x t) (.bytes y u) a b c):c=(x.toList == y.toList):=by cases e;rfl
theorem EqV.inv_tup{h:Heap}{V:Addr->Prop}{r:Option (AV->AV->Option Bool)}{p q:Addr}{a:AV}{ys:List AV}{c:Bool}(e:EqV h V U r (.ref p) (.ref q) a (.tup ys) c):∃ f vs xs c',r=some f/\TX h p vs/\Ab h V U vs xs/\eqL f xs ys=some c'/\c=(c'&&xs.length == ys.length):=by
 cases e with
 | tup hr i i' q q' e=>exact⟨_,_,_,_,hr,i,q,e,rfl⟩
theorem EqV.inv_lst{h:Heap}{V:Addr->Prop}{r:Option (AV->AV->Option Bool)}{p q:Addr}{a:AV}{ys:List AV}{c:Bool}(e:EqV h V U r (.ref p) (.ref q) a (.lst ys) c):∃ f vs xs,r=some f/\LX h p vs/\Ab h V U vs xs/\((xs.length=ys.length/\eqL f xs ys=some c)\/(xs.length≠ys.length/\c=false)):=by
 cases e with
 | lst hr i i' q q' hl e=>exact⟨_,_,_,hr,i,q,.inl ⟨hl,e⟩⟩
 | lens hr i i' q q' hl=>exact⟨_,_,_,hr,i,q,.inr ⟨hl,rfl⟩⟩
theorem Aks{h:Heap}{V:Addr->Prop}:∀ (k:Nat) {v w:Value} {a a' b:AV} {c c':Bool},VRel h V U v a->VRel h V U v a'->VRel h V U w b->eqA k a b=some c->eqA k a' b=some c'->c=c':=by
 intro k
 induction k using Nat.strongRecOn with
 | ind k ih=>
  intro v w a a' b c c' r r' q e e';have h1:=Fk r q e;have h2:=Fk r' q e';clear r r' q e e'
  induction h1 using EqV.casesOn with
  | int x y t u=>exact h2.inv_int.symm
  | str x y t u=>exact h2.inv_str.symm
  | bytes x y t u=>exact h2.inv_bytes.symm
  | tup hr i i' q1 q' e1=>
   refine e12 (Cj hr) λn zz1 zz2=>?_;subst zz1;subst zz2;refine e45 h2.inv_tup λf vs xs c' hr2 i2 q2 e2 zz=>?_;clear h2;subst zz;refine snE hr2 λcc1=>?_;clear hr2;subst cc1;have zz:=i.uniq i2;subst zz;rw [Aab (f:=eqA n) (λr1 r2 r3=>ih n (cN n) r1 r2 r3) q1 q2 q' e1 e2,<- q1.length,<- q2.length]
  | lst hr i i' q1 q' hl e1=>
   refine e12 (Cj hr) λn zz1 zz2=>?_;subst zz1;subst zz2;refine e34 h2.inv_lst λf vs xs hr2 i2 q2 e2=>?_;clear h2;refine snE hr2 λcc1=>?_;clear hr2;subst cc1;have zz:=i.uniq i2;subst zz;exact e2.elim (λe2=>Aab (f:=eqA n) (λr1 r2 r3=>ih n (cN n) r1 r2 r3) q1 q2 q' e1 e2.2) λe2=>absurd (q2.length.symm.trans (q1.length.trans hl)) e2.1
  | lens hr i i' q1 q' hl=>
   refine e34 h2.inv_lst λf vs xs hr2 i2 q2 e2=>?_;have zz:=i.uniq i2;subst zz;exact e2.elim (λe2=>absurd (q1.length.symm.trans (q2.length.trans e2.1)) hl) λe2=>e2.2.symm
noncomputable def Aey(h:Heap)(V:Addr->Prop)(U:List Addr)(b:AV)(y:Value):Bool:=@decide (∃ a,VRel h V U y a/\eqA dp a b=some true) (Classical.propDecidable _)
theorem Aac{h:Heap}{V:Addr->Prop}{y w:Value}{a:AV}{c:Bool}(R:VRel h V U w b)(r:VRel h V U y a)(e:eqA dp a b=some c):Aey h V U b y=c:=by
 unfold Aey
 induction c using Bool.casesOn with
 | true=>exact @aC _ (Classical.propDecidable _) ⟨a,r,e⟩
 | false=>
  refine @aP _ (Classical.propDecidable _) ?_
  rintro ⟨a',r',e'⟩
  exact absurd (Aks dp r r' R e e') (by simp)
theorem Akt{x y:AV}{ys:List AV}{c:Bool}(e:inA x (y::ys)=some c):∃ b d,eqA dp y x=some b/\inA x ys=some d/\c=(b||d):=by
 unfold inA at e
 cases q:eqA dp y x with
 | none=>rw [q] at e;exact nns e
 | some b=>
  rw [q] at e
  cases q2:inA x ys with
  | none=>rw [q2] at e;exact nns e
  | some d=>rw [q2] at e;refine snE e λcc1=>?_;clear e;subst cc1;exact⟨b,d,rfl,rfl,rfl⟩
theorem Aku{h:Heap}{V:Addr->Prop}{w:Value}(R:VRel h V U w b):∀ {vs:List Value} {xs:List AV} {c:Bool},Ab h V U vs xs->inA b xs=some c->vs.any (Aey h V U b)=c/\∀ y∈vs,∃ a d,VRel h V U y a/\eqA dp a b=some d:=by
 intro vs
 induction vs with
 | nil=>intro xs c r e;have zz9:=r.inv_nil;subst zz9;refine snE e λcc1=>?_;clear e;subst cc1;exact⟨rfl,by simp⟩
 | cons v vs ih=>
  intro xs c r e;refine e23 r.inv_cons λx xs a r1 zz4=>?_;subst zz4;refine e23 (Akt e) λb' d q1 q2 zz4=>?_;subst zz4;refine e02 (ih r1 q2) λh1 h2=>?_;refine⟨by rw [List.any_cons,Aac R a q1,h1],λy hy=>?_⟩;rcases aM.mp hy with rfl | hy
  . exact⟨_,_,a,q1⟩
  . exact h2 y hy
theorem Mz(hr:Z.Room)(I:Z.I s.heap U J)(neg:Bool){l:Addr}{vs:List Value}{xs:List AV}(i:LX s.heap l vs)(r:Ab s.heap (Z.V U J) U vs xs)(R:VRel s.heap (Z.V U J) U v a){c:Bool}(e:inA a xs=some c)
 {Q:Value->Shared->Prop} {E:Value->Shared->Prop} (k:OkR Z VR U J (.bool (if neg then !c else c)) J Q s):wpAny Z.M Z.A (compareOp (if neg then .NotIn else .In) v (.ref l)) Q E s:=by
 refine e02 (Aku R r e) λh1 h2=>?_;have he:∀ y,y∈vs.toArray->EqAt Z.A.in1 s y v (Aey s.heap (Z.V U J) U a y):=λy hy=>by
  refine e22 (h2 y (by simpa using hy)) λb d rb hb=>?_;rw [Aac R rb hb];exact Mx (by have:=hr.1;show Z.A.units+1+8<cLine;exact ltc (fk [Z.A.units,cLine] [(1,(.a (.a (.v 0) (.n 40)) (.n 1)),(.v 1)),(1,(.v 1),(.a (.a (.v 0) (.n 1)) (.n 8)))] rfl this)) rb R hb
 have h3:vs.toArray.any (Aey s.heap (Z.V U J) U a)=c:=by rw [<- h1];simp
 induction neg using Bool.casesOn with
 | true=>exact notIn_listAt _ i.isList he (by rw [h3];exact k.now' I (.bool _))
 | false=>exact in_listAt _ i.isList he (by rw [h3];exact k.now' I (.bool _))
theorem Ef{f:Int->Int->M AV}{t:Sem Value}(R:VRel s.heap (Z.V U J) U v a)(R':VRel s.heap (Z.V U J) U w b)(x:∀ i j t1 u,v=.int i t1->w=.int j u->At Z VR (f i j) t s U J):At Z VR (Qj f a b) t s U J:=by
 induction a using AV.casesOn with
 | int i=>induction b using AV.casesOn with
  | int j=>refine e11 R.inv λt1 zz=>?_;clear R;subst zz;refine e11 (R'.inv) λu zz=>?_;clear R';subst zz;exact x i j t1 u rfl rfl
  | _=>exact .fail
 | _=>exact .fail
theorem Avl(I:Z.I s.heap U J)(R:VRel s.heap (Z.V U J) U v a)(R':VRel s.heap (Z.V U J) U w b):At Z VR (isA a b) (compareOp .Is v w) s U J:=by
 induction a using AV.casesOn with
 | none=>induction b using AV.casesOn with
  | none=>have zz9:=R.inv;subst zz9;have zz9:=R'.inv;subst zz9;exact At.of (a:=AV.bool true) λQ E k=>is_none (k.now' I (VRel.bool _))
  | _=>exact .fail
 | tup xs=>induction b using AV.casesOn with
  | ref k=>
   obtain ⟨p,vs,_,⟨m,t⟩,_,_,rfl⟩:=R.inv;refine e12 (R'.inv) λq e zz=>?_;clear R';subst zz;refine .get λo h=>?_
   induction o using Al.casesOn with
   | sent=>
    refine e12 (I.obj e h) λob hob hc=>?_;refine .of λQ E k=>?_;have hne:p≠q:=λz=>by
     subst z;rw [t] at hob;rw [<- bG hob] at hc;exact absurd hc (by simp)
    show wpAny _ _ (do return .bool (<- isSame _ _)) Q E s;exact aA (wpAny_isSame_ref_other' hne t hob (by rw [hc];simp) (aH (k.now' I (.bool _))))
   | _=>exact .fail
  | _=>exact .fail
 | _=>exact .fail
theorem Aez(hr:Z.Room)(I:Z.I s.heap U J)(op:Cmp)(R:VRel s.heap (Z.V U J) U v a)(R':VRel s.heap (Z.V U J) U w b):At Z VR (Ts op a b) (compareOp (Avk op) v w) s U J:=by
 have hu:Z.A.units+dp<cLine:=by have:=hr.1;show Z.A.units+8<cLine;exact ltc (fk [Z.A.units,cLine] [(1,(.a (.a (.v 0) (.n 40)) (.n 1)),(.v 1)),(1,(.v 1),(.a (.v 0) (.n 8)))] rfl this)
 induction op using Cmp.casesOn with
 | eq=>exact .opt λc e=>.of λQ E k=>Aex dp hu R R' e _ _ _ _ (k.now' I (.bool _))
 | ne=>exact .opt λc e=>.of λQ E k=>Aqr dp hu R R' e _ _ _ _ (k.now' I (.bool _))
 | lt=>exact .opt λc e=>.of λQ E k=>Wq dp hu R R' e _ _ _ _ (k.now' I (.bool _))
 | gt=>exact Ef R R' λi j t u h1 h2=>h1▸h2▸At.of (a:=AV.bool _) λQ E k=>PyProof.Rows.gt_int (k.now' I (VRel.bool _))
 | ge=>exact Ef R R' λi j t u h1 h2=>h1▸h2▸At.of (a:=AV.bool _) λQ E k=>PyProof.Rows.ge_int (k.now' I (VRel.bool _))
 | isin=>exact .items I R' λl vs xs hl z i r=>.opt λc e=>.of λQ E k=>hl▸Mz (c:=c) hr I false i r R e k
 | nin=>exact .items I R' λl vs xs hl z i r=>.opt λc e=>.of λQ E k=>hl▸Mz (c:=c) hr I true i r R e k
 | is=>exact Avl I R R'
theorem Uh{n:Int}{l j:Nat}(h:seqIndex? n l=some j):(0<=n/\n<l/\j=n.toNat)\/(n<0 /\ -(l:Int)<=n/\j=(n+l).toNat):=by
 unfold seqIndex? at h;by_cases q:n<0
 . simp only [q,if_true] at h;split at h
   . rename_i q2;refine snE h λcc1=>?_;clear h;subst cc1;simp at q2;exact .inr ⟨q,by omega,rfl⟩
   . exact nns h
 . simp only [q,if_false] at h;split at h
   . rename_i q2;refine snE h λcc1=>?_;clear h;subst cc1;simp at q2;exact .inl ⟨by omega,by omega,rfl⟩
   . exact nns h
theorem Ws{n:Int}(hfit : -(2 ^ 62)<=n/\n<2 ^ 62){l:Addr}{vs:List Value}{j:Nat}{t:Tok}{x:Value}(i:LX s.heap l vs)(hj:seqIndex? n vs.length=some j)(hx:vs[j]?=some x){Q:Value->Shared->Prop}{E:Value->Shared->Prop}(h:Q x s) :
 wpAny Z.M Z.A (getItem (.ref l) (.int n t)) Q E s:=by
 rcases Uh hj with ⟨h0,h1,rfl⟩ | ⟨h0,h1,rfl⟩
 . exact wpAny_getItem_list i.isList h0 (by omega) (by simpa using hx) h
 . exact wpAny_getItem_list_neg i.isList h0 (by simpa using h1) (by omega) (by simpa using hx) h
theorem Aad{kvs:List Str}:∀ {vs:List Value} {es:List (Str×AV)} {x:Str} {a:AV} {h:Heap} {V:Addr->Prop},Ab h V U vs (es.map (·.2))->Be es x=some a->∃ v,valueAt ((es.map (·.1)).zip vs) x=some v/\VRel h V U v a:=by
 intro vs es x a h V
 induction es generalizing vs with
 | nil=>exact λr e=>nns e
 | cons p es ih=>
  intro r0 e;obtain ⟨y,b⟩:=p;refine e23 (Ab.inv1 r0) λv vs rb r zz=>?_;clear r0;subst zz;unfold Be at e;rw [cD] at e;show ∃ v',valueAt ((y,v)::(es.map (·.1)).zip vs) x=some v'/\_;unfold valueAt;rw [List.find?_cons];by_cases q:x=y
  . subst q;simp at e ⊢;subst e;exact rb
  . have q':¬ y=x:=λz=>q z.symm;have q2:(x == y)=false:=by simpa using q
    rw [q2] at e;simp only [q',decide_false];exact ih r e
theorem Acc{kvs:List Str}{es:List (Str×AV)}{x:Str}:∀ {vs:List Value},Be es x=Option.none->valueAt ((es.map (·.1)).zip vs) x=Option.none:=by
 induction es with
 | nil=>exact λ_=>rfl
 | cons p es ih=>
  obtain ⟨y,b⟩:=p;intro vs e
  induction vs using List.casesOn with
  | nil=>rfl
  | cons v vs=>
   unfold Be at e;rw [cD] at e;show valueAt ((y,v)::(es.map (·.1)).zip vs) x=_;unfold valueAt;rw [List.find?_cons];by_cases q:x=y
   . rw [beq_iff_eq.mpr q] at e;exact nsn e
   . rw [cL.mpr q] at e;rw [aP (Ne.symm q)];exact ih e
theorem Wu{x:Str}{v:Value}{a:AV}{h:Heap}{V:Addr->Prop}(rv:VRel h V U v a):∀ {vs:List Value} {es:List (Str×AV)},Ab h V U vs (es.map (·.2))->(es.map (·.1)).Nodup->
 ∃ vs',stored ((es.map (·.1)).zip vs) x v=((Hb es x a).map (·.1)).zip vs'/\Ab h V U vs' ((Hb es x a).map (·.2)):=by
 intro vs es
 induction es generalizing vs with
 | nil=>intro r n;have zz:=Ab.inv0 r;subst zz;exact⟨[v],rfl,.cons rv .nil⟩
 | cons p es ih=>
  intro r0 n;obtain ⟨y,b⟩:=p;refine e23 (Ab.inv1 r0) λw vs rb r zz=>?_;clear r0;subst zz;rw [cP,bZ] at n;refine e02 n λn1 n2=>?_;clear n;unfold Hb;by_cases q:y=x
  . subst q;have q2:(y == y)=true:=beq_self_eq_true y;rw [if_pos q2];refine⟨v::vs,?_,.cons rv r⟩;show stored ((y,w)::(es.map (·.1)).zip vs) y v=_;unfold stored;rw [if_pos (by simp),cP,if_pos rfl,map_store_of_not_mem _ _ _ (λhm=>n1 ?_)]
    . rfl
    . refine e12 (bL.mp hm) λp hp e=>?_;obtain ⟨p1,p2⟩:=p;simp only at e;subst e;exact (List.of_mem_zip hp).1
  . have q2:(y == x)=false:=by simpa using q
    rw [if_neg (by rw [q2];simp)];obtain ⟨vs',h1,h2⟩:=ih r n2;refine⟨w::vs',?_,.cons rb h2⟩;show stored ((y,w)::(es.map (·.1)).zip vs) x v=(y,w)::((Hb es x a).map (·.1)).zip vs';rw [<- h1];unfold stored;rw [List.any_cons,aP q,Bool.false_or];split
    . rw [cP,if_neg q]
    . rfl
theorem Ivt.dict(I:Z.I s.heap U J){k:Nat}{d:Addr}{ob:Al}{es:List (Str×AV)}(h:ob=.dict es\/ob=.fdict es)(e1:U[k]?=some d)(e2:J[k]?=some ob) :
 ∃ vs ep,s.heap.DictAt (strKind Z.prog Z.w) d ((es.map (·.1)).zip vs) ep/\Ab s.heap (Z.V U J) U vs (es.map (·.2)):=by
 rcases h with rfl | rfl <;> exact I.obj e1 e2
theorem Akv{es:List (Str×AV)}{h:Heap}{V:Addr->Prop}{vs:List Value}(r:Ab h V U vs (es.map (·.2))):(((es.map (·.1)).zip vs).map (·.1))=es.map (·.1):=by
 have:=r.length;rw [List.map_fst_zip (by simpa using aD this.symm)]
theorem Rb(I:Z.I s.heap U J){k:Nat}{d:Addr}{ob:Al}{es:List (Str×AV)}(hd:ob=.dict es\/ob=.fdict es)(e1:U[k]?=some d)(e2:J[k]?=some ob){x:Str}{t:Tok}{r:AV}(e:Be es x=some r)
 {Q:Value->Shared->Prop} {E:Value->Shared->Prop} (q:OkR Z VR U J r J Q s):wpAny Z.M Z.A (getItem (.ref d) (.str x t)) Q E s:=by
 refine e22 (I.dict hd e1 e2) λvs ep D R=>?_;refine e12 (Aad (kvs:=[]) R e) λv hv rv=>?_;exact wpAny_getItem_of (knd:=strKind Z.prog Z.w) (strKind_is _ _ _ _) D.dictOf.mapOf hv (q.now I rv _)
theorem Hj{β α:Type}{R:Ie β α}{c:Prop}[Decidable c]{m:M α}{t:Sem β}(x:c->At Z R m t s U J):At Z R (if c then m else M.fail) t s U J:=by
 by_cases h:c
 . rw [if_pos h];exact x h
 . rw [if_neg h];exact .fail
theorem Afa(I:Z.I s.heap U J){n:Int}(hn : -(2 ^ 62)<=n/\n<2 ^ 62){l:Addr}{vs:List Value}{xs:List AV}{t:Tok}(i:LX s.heap l vs)(r:Ab s.heap (Z.V U J) U vs xs):At Z VR (atA n xs) (getItem (.ref l) (.int n t)) s U J:=by
 unfold atA
 cases hj:seqIndex? n xs.length with
 | none=>exact .fail
 | some j=>
  refine .opt' λx hx=>?_;refine e12 (r.get hx) λv hv rv=>?_;exact .of λQ E k=>Ws hn i (by rw [r.length];exact hj) hv (k.now' I rv)
theorem Ui{γ:Type}{k:Nat}{f:List (Str×AV)->M γ}{r:Except Str γ×Sto}(e:((dictOf k).bnd f) J=some r):∃ ob es,J[k]?=some ob/\(ob=.dict es\/ob=.fdict es)/\f es J=some r:=by
 unfold dictOf M.bnd M.get at e
 cases h:J[k]? with
 | none=>rw [h] at e;exact nns e
 | some o=>
  rw [h] at e
  induction o using Al.casesOn with
  | dict es=>exact⟨_,es,rfl,.inl rfl,e⟩
  | fdict es=>exact⟨_,es,rfl,.inr rfl,e⟩
  | _=>exact nns e
theorem Aqs(I:Z.I s.heap U J)(R:VRel s.heap (Z.V U J) U v a)(R':VRel s.heap (Z.V U J) U w b):At Z VR (Lz a b) (getItem v w) s U J:=by
 induction b using AV.casesOn with
 | int n=>
  refine e11 (R'.inv) λt zz=>?_;clear R';subst zz;refine Hj λhn=>?_
  induction a using AV.casesOn with
  | tup xs=>
   refine e25 R.inv λp vs z i _ r zz=>?_;clear R;subst zz;show At Z VR (atA n xs) _ _ _ _;unfold atA
   cases hj:seqIndex? n xs.length with
   | none=>exact .fail
   | some j=>
    refine .opt' λx hx=>?_;refine e12 (r.get hx) λv hv rv=>?_;exact .of λQ E k=>PyProof.Rows.getItem_tuple i.isTup (by omega) (by omega) (by rw [cY,r.length];exact hj) (by simpa using hv) (k.now' I rv)
  | lst xs=>refine e25 R.inv λp vs z i _ r zz=>?_;clear R;subst zz;exact Afa I hn i r
  | ref k=>exact .items I R λl vs xs hl z i r=>hl▸Afa I hn i r
  | bytes o=>
   refine e23 R.inv λo tb z zz3 zz4=>?_;subst zz3;subst zz4;refine Hj λhn=>?_
   cases hu:o.toList[n.toNat]? with
   | none=>exact .fail
   | some u=>
    refine .of λQ E k=>?_;have:=PySem.W.getItem_bytes (prog:=Z.prog) (w:=Z.w) (A:=Z.A) (E:=E) (s:=s) (l:=o.toList) (i:=n) (Q:=Q) (t:=tb) (u:=t) (by rw [dW];exact (Bq z).2.2) hn.1 hn.2 (by
     rw [aY,hu];exact k.now I (VRel.int _ _) _)
    simpa using this
  | _=>exact .fail
 | str x=>
  refine e12 (R'.inv) λt _ zz=>?_;clear R';subst zz
  induction a using AV.casesOn with
  | ref k=>
   refine e12 R.inv λd e zz=>?_;clear R;subst zz;intro q J' e1 Q E an;refine e23 (Ui e1) λob es h hd e2=>?_;exact (At.opt' (t:=getItem (.ref d) (.str x t)) λr hr=>.of λQ E q=>Rb I hd e h hr q) q J' e2 Q E an
  | _=>exact .fail
 | _=>exact .fail
theorem Ayh(hs:∃ o,Z.g.get? sysModules=some o)(I:Z.I s.heap U J){k:Nat}{d:Addr}(e:U[k]?=some d):(d == sysModules)=false:=by
 refine e11 hs λo ho=>?_;clear hs;have:=I.out d (aO e)
 cases h:(d == sysModules) with
 | false=>rfl
 | true=>rw [eq_of_beq h,ho] at this;exact nsn this
theorem Rc(its:Array Value)(n:Nat)(f:Array Value->Array Value):∃ n',Obj.mapSeq f { cls:=.type "list",data:=.seq its n}={ cls:=.type "list",data:=.seq (f its) n'}:=by
 simp [Obj.mapSeq]
theorem Po{h:Heap}{l:Addr}{vs:List Value}(i:LX h l vs)(f:Array Value->Array Value){ws:List Value}(hf:f vs.toArray=ws.toArray):LX (h.update l (Obj.mapSeq f)) l ws:=by
 refine e11 i λn i=>?_;refine e11 (Rc vs.toArray n f) λn' e=>?_;refine⟨n',?_⟩;rw [dJ _ i (by rw [e];rfl),e,hf]
theorem Kr(I:Z.I s.heap U J){k:Nat}{l:Addr}{xs ys:List AV}{vs ws:List Value}(e1:U[k]?=some l)(e2:J[k]?=some (.lst xs))(i:LX s.heap l vs){f:Array Value->Array Value}(hf:f vs.toArray=ws.toArray)
 (z:ys.length<lim) (r:Ab s.heap (Z.V U J) U ws ys):Z.Go s.heap U J (s.heap.update l (Obj.mapSeq f)) U (J.set k (.lst ys)):=by
 have hlf:l∉Z.fr:=λq=>(I.frs l q).1 (aO e1);have oth:∀ b,b≠l->(s.heap.update l (Obj.mapSeq f)).get? b=s.heap.get? b:=λb hb=>dP _ _ (Ne.symm hb);have lx:=Po i f hf;refine I.turn e1 e2 rfl (λb o hb _ e=>(oth b hb).trans e) (λa ha=>.of λo e=>(oth a (λq=>hlf (q▸ha))).trans e) (by refine e11 lx λn q=>?_;clear lx;exact⟨_,q⟩) λx=>⟨z,ws,lx,r.on x⟩
theorem Acd(I:Z.I s.heap U J){k:Nat}{d:Addr}{es es':List (Str×AV)}{ws:List Value}{ep:Nat}{h':Heap}(e1:U[k]?=some d)(e2:J[k]?=some (.dict es))(sb:Heap.SameBut d s.heap h')
 (D:h'.DictAt (strKind Z.prog Z.w) d ((es'.map (·.1)).zip ws) ep) (r:Ab s.heap (Z.V U J) U ws (es'.map (·.2))):Z.Go s.heap U J h' U (J.set k (.dict es')):=by
 have hlf:d∉Z.fr:=λq=>(I.frs d q).1 (aO e1);refine I.turn e1 e2 rfl (λb o hb _ e=>(sb.2 b hb).trans e) (λa ha=>.of λo e=>(sb.2 a (λq=>hlf (q▸ha))).trans e) (by refine e22 D λo _ q _=>?_;clear D;exact⟨o,q⟩) λx=>⟨ws,ep,D,r.on x⟩
theorem Ace(I:Z.I s.heap U J){c:AV}{y:Value}(R:VRel s.heap (Z.V U J) U v a)(R':VRel s.heap (Z.V U J) U w b)(Rv:VRel s.heap (Z.V U J) U y c):At Z EqR (Gb a b c) (setItem v w y) s U J:=by
 induction a using AV.casesOn with
 | ref k=>
  refine e12 R.inv λl e zz=>?_;clear R;subst zz
  induction b using AV.casesOn with
  | int n=>
   refine e11 (R'.inv) λt zz=>?_;clear R';subst zz;refine .get λo h=>?_
   induction o using Al.casesOn with
   | lst xs=>
    refine Hj λhn=>?_;obtain ⟨z,vs,i,r⟩:=I.list e h;have i':=i;refine e11 (i') λm i'=>?_;intro r' J' he Q E k';refine spE he λcc1 cc2=>?_;clear he;subst cc1;subst cc2;have hl:=r.length;have:=(Bq z).1;refine ki_setAt i' hn.1 (by omega) (by simp;omega) (k' _ _ s.toks U (Kr I e h i (ws:=vs.set n.toNat y) (by simp) (by simpa using z) (r.set Rv _)) rfl)
   | _=>exact .fail
  | str x=>
   refine e12 (R'.inv) λt z zz=>?_;clear R';subst zz;refine .get λo h=>?_
   induction o using Al.casesOn with
   | dict es=>
    refine .grd λhc=>?_;refine e22 (I.dict (.inl rfl) e h) λvs ep D r=>?_;obtain ⟨ws,h1,h2⟩:=Wu Rv r (Akv r▸D.nodup);intro r' J' he Q E k';refine spE he λcc1 cc2=>?_;clear he;subst cc1;subst cc2;have hl:=r.length;refine wpAny_setItem_pairs (knd:=strKind Z.prog Z.w) (strKind_is _ _ _ _) D.dictOf (λh' D' sb=>?_) (by
     have:=(Bq (aB hc)).2.1;simp [List.length_zip] at hl ⊢;omega)
    rw [h1] at D';refine e11 (D'.dictAt) λep' D'=>?_;exact k' _ _ _ U (Acd I e h sb D' h2) rfl
   | _=>exact .fail
  | _=>exact .fail
 | _=>exact .fail
theorem Afb{h:Heap}{V:Addr->Prop}{vs:List Value}{xs:List AV}(r:Ab h V U vs xs)(l:List Nat):Ab h V U (l.filterMap (vs[·]?)) (l.filterMap (xs[·]?)):=by
 induction l with
 | nil=>exact .nil
 | cons j l ih=>
  rw [List.filterMap_cons,List.filterMap_cons]
  cases hx:xs[j]? with
  | none=>
   have:vs[j]?=none:=by
    rw [List.getElem?_eq_none_iff] at hx ⊢;rw [r.length];exact hx
   rw [this];exact ih
  | some x=>
   refine e12 (r.get hx) λv hv rv=>?_;rw [hv];exact .cons rv ih
theorem Pp{α:Type}(xs:List α)(a b:Nat):(sliceRange a b 1).filterMap (xs[·]?)=(xs.drop a).take (b - a):=by
 have h1:(if (a:Int)<b then ((b:Int) - a+1 - 1) / 1 else 0).toNat=b - a:=by
  by_cases h:(a:Int)<b
  . rw [if_pos h,Int.ediv_one,Int.add_sub_cancel];exact Int.toNat_sub b a
  . rw [if_neg h];exact (Nat.sub_eq_zero_of_le (Int.ofNat_le.mp (Int.not_lt.mp h))).symm
 unfold sliceRange;simp only [show ((1:Int)>0)=True from by simp,if_true];rw [h1];generalize b - a=m
 induction m with
 | zero=>simp
 | succ m ih=>
  rw [List.range_succ,bP,List.filterMap_append,ih,List.take_add_one]
  congr 1
  simp only [cP,List.map_nil];rw [show ((a:Int)+1*(m:Int)).toNat=a+m from aJ (λx:Int=>((a:Int)+x).toNat) (Int.one_mul m),List.getElem?_drop]
  cases h:xs[a+m]? <;> simp [h]
theorem Mh(v:Option Int)(d n:Nat):(match v with
 | Option.none=>((d:Nat):Int)
 | some i=>let i:=if i<0 then i+n else i;if (1:Int)>0 then max 0 (min i n) else max (-1) (min i ((n:Int) - 1)))=((Bt v d n:Nat):Int):=by
 unfold Bt
 induction v using Option.casesOn with
 | none=>rfl
 | some i=>
  dsimp only;by_cases h:i<0
  . rw [if_pos h,if_pos h,if_pos (by decide),Int.min_eq_left (by have:=Int.add_le_add_right (Int.le_of_lt h) (n:Int);rwa [Int.zero_add] at this),Int.max_comm];exact (Int.toNat_eq_max _).symm
  . rw [if_neg h,if_neg h,if_pos (by decide),Int.max_eq_right (Int.le_min.mpr ⟨Int.not_lt.mp h,bN n⟩)];obtain ⟨k,rfl⟩:=Int.eq_ofNat_of_zero_le (Int.not_lt.mp h);rcases Nat.le_total k n with q | q
    . exact (Int.min_eq_left (Int.ofNat_le.mpr q)).trans (aJ Nat.cast (Nat.min_eq_left q).symm)
    . exact (Int.min_eq_right (Int.ofNat_le.mpr q)).trans (aJ Nat.cast (Nat.min_eq_right q).symm)
theorem Uj(lo hi:Option Int)(n:Nat):sliceBounds lo hi Option.none n=(((Bt lo 0 n:Nat):Int),((Bt hi n n:Nat):Int),1):=by
 rw [<- Mh,<- Mh]
 cases lo <;> cases hi <;> rfl
theorem Acf{α:Type}(xs:List α)(lo hi:Option Int):Gz xs lo hi Option.none=Cl lo hi xs:=by
 unfold Gz Cl;rw [Uj,Pp]
theorem Akw(lo hi:Option Int)(n:Nat):Builtin.Str.strSliceIndices lo hi 1 n=sliceRange ((Bt lo 0 n:Nat):Int) ((Bt hi n n:Nat):Int) 1:=by
 rw [<- Mh,<- Mh]
 cases lo <;> cases hi <;> rfl
theorem Akx(a b:Nat):(sliceRange a b 1).length=b - a:=by
 have h1:(if (a:Int)<b then ((b:Int) - a+1 - 1) / 1 else 0).toNat=b - a:=by
  by_cases h:(a:Int)<b
  . rw [if_pos h,Int.ediv_one,Int.add_sub_cancel];exact Int.toNat_sub b a
  . rw [if_neg h];exact (Nat.sub_eq_zero_of_le (Int.ofNat_le.mp (Int.not_lt.mp h))).symm
 unfold sliceRange;simp only [show ((1:Int)>0)=True from by simp,if_true,aF,List.length_range];exact h1
theorem Aky{α:Type}(lo hi:Option Int)(xs:List α):(Cl lo hi xs).length<=xs.length:=by
 unfold Cl;rw [List.length_take,List.length_drop];exact bA (Nat.min_le_right _ _) (cA _ _)
inductive Ds:Value->Option Int->Prop
 | none:Ds .none Option.none
 | some (i:Int) (t:Tok):Ds (.int i t) (Option.some i)
theorem Ds.is{v:Value}{p:Option Int}(r:Ds v p):IsPart v p/\∃ q:Option (Int×Tok),v=partValue q/\q.map (·.1)=p:=by
 induction r using Ds.casesOn with
 | none=>exact⟨.none,Option.none,rfl,rfl⟩
 | some i t=>exact⟨.int i t,Option.some (i,t),rfl,rfl⟩
theorem Acg{x:Str}{l h:Option Int}(hw:Bt h x.length x.length - Bt l 0 x.length=x.length):(⟨(Cl l h x.cps.toList).toArray⟩:Str)=x:=by
 have hle:Bt h x.length x.length<=x.length:=by unfold Bt;split <;> (try split) <;> omega
 unfold Cl;rw [<- Bn];by_cases hz:x.length=0
 . have:x.cps.toList=[]:=bJ (by rw [<- Bn];exact hz);rw [this,List.drop_nil,List.take_nil];cases x;simp at this;rw [this]
 . rw [show Bt l 0 x.length=0 by omega,show Bt h x.length x.length=x.length by exact eqc (fk [Bt h x.length x.length,x.length] [(1,(.v 0),(.v 1)),(1,(.a (.v 1) (.n 1)),(.v 0))] rfl hle) (fk [x.length,Bt h x.length x.length - Bt l 0 x.length,Bt h x.length x.length] [(1,(.v 0),(.v 1)),(1,(.v 1),(.v 2)),(1,(.a (.v 2) (.n 1)),(.v 0))] rfl (aD (Eq.symm hw)) (cA (Bt h x.length x.length) (Bt l 0 x.length))),Nat.sub_zero,List.drop_zero,Bn,List.take_length]
theorem Akz(I:Z.I s.heap U J){l h st:Option Int}{vl vu vs:Value}{sl:Addr}{x:Str}{t:Tok}(z:x.length<lim)(Rl:Ds vl l)(Ru:Ds vu h)(Rs:Ds vs st)(hs:s.heap.IsSliceOf sl vl vu vs) :
 At Z VR (Auq x l h st) (getItem (.str x t) (.ref sl)) s U J:=by
 induction Rs using Ds.casesOn with
 | some i t=>exact .fail
 | none=>
  refine .of λQ E k=>?_;obtain ⟨_,ql,rfl,ml⟩:=Rl.is;obtain ⟨_,qu,rfl,mu⟩:=Ru.is;refine wpAny_getItem_str_slice (l:=ql) (u:=qu) (st:=Option.none) hs rfl ?_;have hpick:slicePicked x ql qu Option.none=sliceRange ((Bt l 0 x.length:Nat):Int) ((Bt h x.length x.length:Nat):Int) 1:=by
   unfold slicePicked;rw [ml,mu];exact Akw l h x.length
  have hcut:(⟨((slicePicked x ql qu Option.none).filterMap (x.cps[·]?)).toArray⟩:Str)=⟨(Cl l h x.cps.toList).toArray⟩:=by
   rw [hpick];have:=Pp x.cps.toList (Bt l 0 x.length) (Bt h x.length x.length);simp only [dI] at this;rw [this];unfold Cl;rw [<- Bn]
  unfold sliceMade;split
  . rename_i hw;have hw2:(slicePicked x ql qu Option.none).length=x.length:=by simpa using hw
    rw [hpick,Akx] at hw2;rw [Acg hw2] at k;show Q (.str x t) s;exact k.now' I (VRel.str _ _ z)
  . rw [hcut];have hlen:(⟨(Cl l h x.cps.toList).toArray⟩:Str).length<lim:=by
     have:=Aky l h x.cps.toList;rw [<- Bn] at this;show ((Cl l h x.cps.toList).toArray).size<lim;rw [cY];exact ltc (fk [x.length,lim,(Cl l h x.cps.toList).length] [(1,(.a (.v 0) (.n 1)),(.v 1)),(1,(.v 2),(.v 0)),(1,(.v 1),(.v 2))] rfl z this)
    exact⟨(Bq hlen).2.1,k.now I (VRel.str _ _ hlen) _⟩
theorem Aae(I:Z.I s.heap U J){l h st:Option Int}{vl vu vs:Value}{sl la:Addr}{lvs:List Value}{xs:List AV}(z:xs.length<lim)(i:LX s.heap la lvs)(r:Ab s.heap (Z.V U J) U lvs xs)(Rl:Ds vl l)(Ru:Ds vu h)(Rs:Ds vs st)(h0:st≠some 0)
 (hs:s.heap.IsSliceOf sl vl vu vs) {Q:Value->Shared->Prop} {E:Value->Shared->Prop} (k:OkR Z VR U J (.lst (Gz xs l h st)) J Q s):wpAny Z.M Z.A (getItem (.ref la) (.ref sl)) Q E s:=by
 have hz:=(Bq z).2.1;have hl:=r.length;refine wpAny_getItem_list_slice i.isList hs Rl.is.1 Ru.is.1 Rs.is.1 h0 ?_ (by simpa [hl] using hz);have rr:Ab s.heap (Z.V U J) U ((sliceRange (sliceBounds l h st xs.length).1 (sliceBounds l h st xs.length).2.1 (sliceBounds l h st xs.length).2.2).filterMap (lvs[·]?)) (Gz xs l h st):=Afb r _;have e:slicePick lvs.toArray l h st=((sliceRange (sliceBounds l h st xs.length).1 (sliceBounds l h st xs.length).2.1 (sliceBounds l h st xs.length).2.2).filterMap (lvs[·]?)).toArray:=by
  unfold slicePick;simp [hl]
 have sz:=slicePick_size_le lvs.toArray l h st;rw [e] at sz ⊢;exact k.pushL (tk:=s.toks) I rr (by
  rw [<- rr.length];simp only [cY] at sz;exact ltc (fk [xs.length,lim,lvs.length,(List.filterMap (λx=>lvs[x]?) (sliceRange (sliceBounds l h st xs.length).fst (sliceBounds l h st xs.length).snd.fst (sliceBounds l h st xs.length).snd.snd)).length] [(1,(.a (.v 0) (.n 1)),(.v 1)),(1,(.v 2),(.v 0)),(1,(.v 3),(.v 2)),(1,(.v 1),(.v 3))] rfl z (aD hl) sz))
theorem Ala(I:Z.I s.heap U J){l h st:Option Int}{vl vu vs:Value}{sl la:Addr}{lvs:List Value}{xs:List AV}(z:xs.length<lim)(i:LX s.heap la lvs)(r:Ab s.heap (Z.V U J) U lvs xs)(Rl:Ds vl l)(Ru:Ds vu h)(Rs:Ds vs st)
 (hs:s.heap.IsSliceOf sl vl vu vs):At Z VR (Aur xs l h st) (getItem (.ref la) (.ref sl)) s U J:=by
 induction Rs using Ds.casesOn with
 | none=>exact .of λQ E k=>Aae I z i r Rl Ru .none (by simp) hs (by rw [Acf];exact k)
 | some n t=>
  show At Z VR (if n=0 then _ else _) _ _ _ _;by_cases h0:n=0
  . rw [if_pos h0];exact .fail
  . rw [if_neg h0];exact .of λQ E k=>Aae I z i r Rl Ru (.some n t) (by simpa using h0) hs k
theorem Aaf(I:Z.I s.heap U J){l:Addr}{vs:List Value}{xs:List AV}(z:xs.length<lim)(i:LX s.heap l vs)(r:Ab s.heap (Z.V U J) U vs xs):At Z VR (M.ret (.int xs.length)) (call (.builtin "len") [.ref l]) s U J:=
 .of λQ E k=>PyProof.Rows.len_list i.isList (by have:=(Bq z).1;have:=r.length;simp;omega) (by
  have:=r.length;simp only [cY,this];exact k.now I (VRel.int _ _) _)
theorem Aag{h:Heap}{V:Addr->Prop}{vs:List Value}{xs:List AV}(r:Ab h V U vs xs){is:List Int}(e:De xs=some is):∃ ps:List (Int×Tok),vs=ps.map (λp=>Value.int p.1 p.2)/\is=ps.map (·.1):=by
 induction vs generalizing xs is with
 | nil=>have zz9:=r.inv_nil;subst zz9;refine snE e λcc1=>?_;clear e;subst cc1;exact⟨[],rfl,rfl⟩
 | cons v vs ih=>
  refine e23 r.inv_cons λx xs a r1 zz4=>?_;subst zz4
  induction x using AV.casesOn with
  | int i=>
   refine e11 a.inv λt zz=>?_;clear a;subst zz;refine e12 (bF.mp e) λjs h1 zz2=>?_;subst zz2;refine e12 (ih r1 h1) λps zz1 zz2=>?_;subst zz1;subst zz2;exact⟨(i,t)::ps,rfl,rfl⟩
  | _=>exact nns e
theorem Ach(ps:List (Int×Tok)):preSum (numAt ps.toArray) ps.toArray.size=(ps.map (·.1)).sum:=by
 rw [preSum_eq,List.take_of_length_le (by simp)]
theorem Alb(hr:Z.Room)(I:Z.I s.heap U J){l:Addr}{vs:List Value}{xs:List AV}(i:LX s.heap l vs)(r:Ab s.heap (Z.V U J) U vs xs):At Z VR ((M.ofOpt (De xs)).bnd λis=>M.ret (.int is.sum)) (call (.builtin "sum") [.ref l]) s U J:=by
 refine .opt λis e=>.of λQ E k=>?_;refine e12 (Aag r e) λps zz1 zz2=>?_;subst zz1;subst zz2;refine sum_intListG (xs:=ps.toArray) hr.2 (by have:=i.isList;simpa [intItems] using this) λh' tk t' hk=>?_;rw [Ach];exact k.keep I hk λ_=>VRel.int _ _
theorem Afc{A:Around}{prog:Program}{w:World}{E:Value->Shared->Prop}{Q:PySem.Fin->Shared->Prop}{tk:Tok}(h:Q (.done (.ret (.bool true))) s) :
 wpAny (model prog w) A (Builtin.«issubclass.nested» ⟨[.type "str",.type "str",.int 1 tk],[]⟩) Q E s:=by
 have f1:isSubtype (.type "str") (.type "str")=pure true:=by rw [isSubtype_type];kernel_rfl
 have f2:(Value.type ((Manifest.find? "str").elim "type" λx=>x.metatype) == Value.type "type")=true:=by decide +kernel
 repeat (any_goals (first | assumption | (rw [if_pos f2]) | (rw [f1]) | wp_step))
theorem Aci{A:Around}{prog:Program}{w:World}{E:Value->Shared->Prop}{Q:PySem.Fin->Shared->Prop}{t:Addr}{tk:Tok}(hx:TX s.heap t [.type "str",.type "bytes"])(h:Q (.done (.ret (.bool true))) s) :
 wpAny (model prog w) A (Builtin.«issubclass.nested» ⟨[.type "str",.ref t,.int 0 tk],[]⟩) Q E s:=by
 have ht:=hx.isTup;have hT:s.TypeIs (.ref t) "tuple":=by refine e13 ht λo ho hc _=>?_;clear ht;exact⟨o,ho,hc⟩
 have f1:=F.sub_tuple_tuple;have f2:isSubtype (.type "tuple") (.type "type")=pure false:=by rw [isSubtype_type];kernel_rfl
 repeat (any_goals (first | assumption | wp_step))
 refine e11 hx λn hx=>?_;refine wpAny_load hx (aH ?_);show wpAny _ _ (forIn (#[Value.type "str",Value.type "bytes"]:Array Value) (none,()) _ >>= _) _ _ _;rw [<- Array.forIn_toList];show wpAny _ _ (forIn ([Value.type "str",Value.type "bytes"]:List Value) (none,()) _ >>= _) _ _ _;rw [List.forIn_cons];refine aA (aA (aA ?_));refine Calls.call_function_entry (by decide +kernel) (by decide +kernel) F.entry_issubclass_nested (by unfold argsOk;kernel_rfl) (Afc ⟨_,rfl,?_⟩);refine aA (wpAny_truthy_bool ?_);rw [if_pos rfl];refine aA (aH (aH (aH ?_)));exact aH h
theorem Afd{A:Around}{prog:Program}{w:World}{E:Value->Shared->Prop}{Q:Value->Shared->Prop}{t:Addr}(hx:TX s.heap t [.type "str",.type "bytes"])(h:Q (.bool true) s) :
 wpAny (model prog w) A (call (.builtin "issubclass") [.type "str",.ref t]) Q E s:=by
 have g:Meets (Builtin.«issubclass» ⟨[.type "str",.ref t],[]⟩) (λ_ R s=>TX s.heap t [.type "str",.type "bytes"]/\R (.ok (.ret (.bool true))) s):=
  λ_ _ _ _ _ hs=>issubclass_outer (Aci hs.1 hs.2)
 exact call_issubclass g ⟨hx,h⟩
theorem Na:mroOf (.type "object")=pure [.type "object"]:=by rw [mroOf_type];kernel_rfl
theorem Jo:typeLookup (.type "object") "__new__"=pure (some (.builtin "object.__new__")):=by rw [typeLookup_type,builtinLookup_eq_fast];kernel_rfl
theorem Ks:Slot "object" "__init__" "object.__init__":=
 .of (owner:="object") (n:="__init__") (by rw [typeLookup_type,builtinLookup_eq_fast];kernel_rfl) (by decide +kernel) (by decide +kernel) (by decide +kernel)
  (by first | exact .inl (by decide +kernel) | exact .inr (by decide +kernel)) (by rw [isSubtype_type];kernel_rfl)
theorem Fd:TypeCalled "object" "object.__new__" "object.__init__":=
 ⟨by decide +kernel,by decide +kernel,⟨_,_,Na⟩,madeBy_type Na Jo (by decide +kernel),by decide +kernel,by rw [isSubtype_type];kernel_rfl,Ks⟩
theorem Uk:Bind.madeHere "object.__new__" (.type "object")=pure ():=by kernel_rfl
theorem Wv:Meets (Builtin.«object.__new__» ⟨[.type "object"],[]⟩) (λ_ R s=>R (.ok (.ret (.ref s.heap.objs.size))) { s with heap:=s.heap.push { cls:=.type "object",data:=.plain}}):=
 .of_wp λprog w A R s h=>by
  have h1:=Fd.made;have h2:=Fd.sub;have h3:=Uk;have h4:(Manifest.find? "object").elim false (λx=>x.mro.any λt=>(Manifest.find? t).elim false (λy=>y.noNew))=false:=by decide +kernel
  have h5:typeHasDict (.type "object")=false:=by decide +kernel
  repeat (any_goals (first | assumption | (rw [h4]) | (rw [h5]) | wp_step))
  exact⟨_,rfl,h⟩
theorem Ul{A:Around}{prog:Program}{w:World}{E:Value->Shared->Prop}{Q:Value->Shared->Prop}(h:Q (.ref s.heap.objs.size) { s with heap:=s.heap.push { cls:=.type "object",data:=.plain}}) :
 wpAny (model prog w) A (call (.type "object") []) Q E s:=by
 refine callType_meets (Q₁:=λobj s1=>s1.TypeIs obj "object"/\Q obj s1) Fd (by kernel_rfl) (by kernel_rfl) (entryFor_of_tree (by kernel_rfl)) F.entry_object_init Wv ⟨⟨_,aS _ rfl,rfl⟩,h⟩ λobj s1 h1=>⟨h1.1,by unfold argsOk;kernel_rfl,_,Meets.of_wp (S:=λ_ R s=>R (.ok (.ret .none)) s) λprog w A R s hs=>aH ⟨_,rfl,hs⟩,rfl,h1.2⟩
theorem Alc{A:Around}{prog:Program}{w:World}{E:Value->Shared->Prop}{Q:Value->Shared->Prop}{x:Str}{u:Tok}(h:Q (.bool false) { s with toks:=s.toks+1}) :
 wpAny (model prog w) A (call (.builtin "isinstance") [.str x u,.type "bytes"]) Q E s:=
 call_isinstance (isinstance_false_str (by decide +kernel) F.isi_meta_bytes F.sub_str_bytes) h
theorem Nb{bv:Value}{bi:BI}(h:Lk bv=some bi):bv=Aqo bi:=(aB (List.find?_some (p:=λb=>decide (Aqo b=bv)) h)).symm
theorem Um:∀ ps:List (Int×Tok),IntsAre (ps.map (λp=>Value.int p.1 p.2)) (ps.map (·.1))
 | []=>.nil
 | p::r=>.cons p.1 p.2 (Um r)
theorem Acj{i:Int}(h:0<=i/\i<1000):(Str.ofString (toString i)).length<lim/\i.natAbs.log2<1920:=by
 refine⟨aV (toString_length_le h.1 (k:=3) (by decide) (by omega)) (by decide),?_⟩;by_cases h0:i.natAbs=0
 . rw [h0];decide
 . exact aT ((Nat.log2_lt h0).mpr (show i.natAbs<2 ^ 10 by omega)) (by decide)
theorem Aqt{h:Heap}{V:Addr->Prop}{e:Addr}{m:Str}{K:List (Addr×Obj)}(F:Em h V K)(x:Mu K e m):∃ (t:Addr) (tk:Tok),h.ExcAt e "ValueError" (.ref t)/\h.TupAt t [.str m tk]:=by
 obtain ⟨oe,ot,vs,t,tk,n,h1,c1,d1,v0,h2,c2,d2⟩:=x;exact⟨t,tk,⟨oe,vs,(F _ h1).1,c1,d1,v0⟩,⟨ot,n,(F _ h2).1,c2,d2⟩⟩
theorem OkR.newp(I:Z.I s.heap U J){ao:Al}{Q:Value->Shared->Prop}(hQ:OkR Z VR U J (.ref J.length) (J++[ao]) Q s){h':Heap}{l:Addr}{tk:Nat}(k:∀ b o,s.heap.get? b=some o->h'.get? b=some o)(hn:s.heap.get? l=none)(ha:∃ o,h'.get? l=some o)
 (r:OnV Z.fr s.heap U J h' (U++[l]) (J++[ao])->Qs Z.prog Z.w h' (Z.V (U++[l]) (J++[ao])) (U++[l]) l ao):Q (.ref l) { s with heap:=h',toks:=tk}:=by
 have G:=I.alloc (h':=h') (λb o _ e=>k b o e) (λa _=>.of (k a)) hn ha r;exact hQ _ _ _ _ G (VRel.ref (by rw [<- I.len];simp))
theorem Afe{l:Addr}{vs:List Value}{A:Around}{prog:Program}{w:World}{E:Value->Shared->Prop}{Q:Value->Shared->Prop}(i:LX s.heap l vs)
 (h:Q (.ref s.heap.objs.size) { s with heap:=s.heap.push { cls:=.type "list_iterator",data:=.fields #[.ref l,.int 0 0]}}):wpAny (model prog w) A (call (.builtin "iter") [.ref l]) Q E s:=by
 refine call_function_entry (by decide +kernel) (by decide +kernel) kdk_entry_iter (kdk_args_iter _) ?_;unfold Builtin.«iter»;refine aA (m:=someArgs "iter" 1 2 _) (bR (a:=[Value.ref l]) (by first | rfl | kernel_rfl!) ?_);show wpAny _ _ (pyIter (.ref l) >>= _) _ _ _;refine aA (wpAny_pyIter_list i.isList ?_);exact aH ⟨_,rfl,h⟩
theorem Cp{f:AV->M AV}{t:Sem Value}{vs:List Value}{xs:List AV}(R:Ab s.heap (Z.V U J) U vs xs)(x:∀ v a,vs=[v]->VRel s.heap (Z.V U J) U v a->At Z VR (f a) t s U J):At Z VR (one f xs) t s U J:=by
 induction xs using List.casesOn with
 | nil=>exact .fail
 | cons a xs=>
  induction xs using List.casesOn with
  | cons _ _=>exact .fail
  | nil=>
   refine e23 R.inv1 λv ws r R1 zz4=>?_;subst zz4;have zz9:=R1.inv0;subst zz9;exact x v a rfl r
theorem Jp{m:M AV}{t:Sem Value}{vs:List Value}{xs:List AV}(R:Ab s.heap (Z.V U J) U vs xs)(x:vs=[]->At Z VR m t s U J):At Z VR (Ph m xs) t s U J:=by
 induction xs using List.casesOn with
 | nil=>exact x R.inv0
 | cons _ _=>exact .fail
theorem Kt{f:AV->AV->M AV}{t:Sem Value}{vs:List Value}{xs:List AV}(R:Ab s.heap (Z.V U J) U vs xs)(x:∀ v w a b,vs=[v,w]->VRel s.heap (Z.V U J) U v a->VRel s.heap (Z.V U J) U w b->At Z VR (f a b) t s U J):At Z VR (two f xs) t s U J:=by
 induction xs using List.casesOn with
 | nil=>exact .fail
 | cons a xs=>
  refine e23 R.inv1 λv ws r R1 zz4=>?_;subst zz4;exact Cp (f:=f a) R1 λw b e r'=>x v w a b (by rw [e]) r r'
theorem Mi{f:Int->M AV}{t:Sem Value}(R:VRel s.heap (Z.V U J) U v a)(x:∀ i u,v=.int i u->At Z VR (f i) t s U J):At Z VR (Kl f a) t s U J:=by
 induction a using AV.casesOn with
 | int i=>refine e11 R.inv λu zz=>?_;clear R;subst zz;exact x i u rfl
 | _=>exact .fail
theorem Rd{f:Str->M AV}{t:Sem Value}(R:VRel s.heap (Z.V U J) U v a)(x:∀ y u,y.length<lim->v=.str y u->At Z VR (f y) t s U J):At Z VR (Qi f a) t s U J:=by
 induction a using AV.casesOn with
 | str y=>refine e12 R.inv λu z zz=>?_;clear R;subst zz;exact x y u z rfl
 | _=>exact .fail
theorem Re{α β:Type}{Rl:Ie β α}{f:List AV->M α}{t:Sem β}(R:VRel s.heap (Z.V U J) U v a)(x:∀ l vs xs,v=.ref l->xs.length<lim->LX s.heap l vs->¬ Z.V U J l->Ab s.heap (Z.V U J) U vs xs->At Z Rl (f xs) t s U J):At Z Rl (Aka f a) t s U J:=by
 induction a using AV.casesOn with
 | lst xs=>refine e25 R.inv λp vs z i n r zz=>?_;clear R;subst zz;exact x p vs xs rfl z i n r
 | _=>exact .fail
theorem Aah{f:List AV->M AV}{t:Sem Value}(R:VRel s.heap (Z.V U J) U v a)(x:∀ l vs xs,v=.ref l->xs.length<lim->TX s.heap l vs->¬ Z.V U J l->Ab s.heap (Z.V U J) U vs xs->At Z VR (f xs) t s U J):At Z VR (Vx f a) t s U J:=by
 induction a using AV.casesOn with
 | tup xs=>refine e25 R.inv λp vs z i n r zz=>?_;clear R;subst zz;exact x p vs xs rfl z i n r
 | _=>exact .fail
theorem Hx{n:String}(R:VRel s.heap (Z.V U J) U v a)(h:Mq a n=true):v=.type n:=by
 induction a using AV.casesOn with
 | con w=>
  have zz9:=R.inv;subst zz9
  induction v using PySem.Value.casesOn with
  | type m=>rw [show m=n from eq_of_beq h]
  | _=>exact nft h
 | _=>exact nft h
theorem Un(R:VRel s.heap (Z.V U J) U v a)(h:Aek a=true):∃ x t,v=.str x t:=by
 induction a using AV.casesOn with
 | str x=>refine e12 R.inv λt _ zz=>?_;clear R;subst zz;exact⟨x,t,rfl⟩
 | _=>exact nft h
theorem Ald(I:Z.I s.heap U J)(R:VRel s.heap (Z.V U J) U v a):At Z VR (Aus a) (call (.builtin "len") [v]) s U J:=by
 induction a using AV.casesOn with
 | str x=>refine e12 R.inv λt z zz=>?_;clear R;subst zz;exact At.of (a:=AV.int _) λQ E k=>PyProof.Rows.len_str (by have:=(Bq z).1;omega) (k.now I (VRel.int _ _) _)
 | bytes b=>refine e23 R.inv λb t z zz3 zz4=>?_;subst zz3;subst zz4;exact At.of (a:=AV.int _) λQ E k=>PySem.W.len_bytes (Bq z).2.2 (by rw [dW] at k;exact k.now I (VRel.int _ _) _)
 | lst xs=>refine e25 R.inv λp vs z i n r zz=>?_;clear R;subst zz;exact Aaf I z i r
 | ref k=>exact .items I R λl vs xs hl z i r=>hl▸Aaf I z i r
 | _=>exact .fail
theorem Ale(hr:Z.Room)(I:Z.I s.heap U J){x y:Int}{t u:Tok}:At Z VR (M.ret (.int (if y<x then y else x))) (call (.builtin "min") [.int x t,.int y u]) s U J:=by
 refine At.of (a:=AV.int _) λQ E k=>min_two_ints hr.2 λh' tk hk=>?_;by_cases hc:y<x
 . rw [if_pos hc] at k ⊢;exact k.keep I hk λ_=>VRel.int _ _
 . rw [if_neg hc] at k ⊢;exact k.keep I hk λ_=>VRel.int _ _
theorem Alf(I:Z.I s.heap U J)(R:VRel s.heap (Z.V U J) U v a):At Z VR (Aut a) (call (.builtin "ord") [v]) s U J:=by
 induction a using AV.casesOn with
 | str x=>
  refine e12 R.inv λt z zz=>?_;clear R;subst zz;show At Z VR (match x.cps.toList with | [c]=>M.ret (.int c) | _=>.fail) _ _ _ _
  cases hx:x.cps.toList with
  | nil=>exact .fail
  | cons c r=>
   induction r using List.casesOn with
   | cons _ _=>exact .fail
   | nil=>
    refine .of λQ E k=>PyProof.Rows.ord_of_one (by rw [Bn,hx];rfl) ?_;have:x.cps.getD 0 0=c:=by
     obtain ⟨⟨l⟩⟩:=x
     cases (show l=[c] from hx);rfl
    rw [this];exact k.now I (VRel.int _ _) _
 | _=>exact .fail
theorem Alg(hr:Z.Room)(I:Z.I s.heap U J)(R:VRel s.heap (Z.V U J) U v a):At Z VR (Auu a) (call (.type "str") [v]) s U J:=by
 induction a using AV.casesOn with
 | int x=>
  refine e11 R.inv λt zz=>?_;clear R;subst zz;refine Hj λhx=>?_;have hl:=Acj hx;exact .of λQ E k=>PySem.P.str_of_int hl.2 (k.now I (VRel.str _ _ hl.1) _)
 | exc m=>
  refine e24 R.inv λe K hm F x zz=>?_;clear R;subst zz;refine e22 (Aqt F x) λt tk h1 h2=>?_;exact .of λQ E k=>PySem.P.str_of_exc_one (PySem.F.excStr_ValueError) (by have:=hr.1;exact ltc (fk [Z.A.units,cLine] [(1,(.a (.a (.v 0) (.n 40)) (.n 1)),(.v 1)),(1,(.v 1),(.a (.v 0) (.n 2)))] rfl this)) h1 h2 (k.now' I (VRel.str _ _ hm))
 | _=>exact .fail
theorem Ack(hr:Z.Room)(I:Z.I s.heap U J){l:Addr}{vs:List Value}{xs:List AV}(z:xs.length<lim)(i:LX s.heap l vs)(r:Ab s.heap (Z.V U J) U vs xs):At Z VR (Wa xs) (call (.type "bytes") [.ref l]) s U J:=by
 unfold Wa
 cases hi:De xs with
 | none=>exact .fail
 | some is=>
  refine Hj λhall=>?_;refine e12 (Aag r hi) λps zz1 zz2=>?_;subst zz1;subst zz2;refine .of λQ E k=>?_;have hl:=r.length;have hz:=Bq z;have hall':∀ n∈ps.map (·.1),0<=n/\n<256:=λn hn=>by
   have:=bI.mp hall n hn;simpa using this
  refine call_bytes_ints (ns:=ps.map (·.1)) i.isList (Um ps) hall' (by omega) hr.2 λh' t tk hk=>?_;refine k.keep I hk λ_=>?_;have e:(ps.map (·.1)).map (λi=>UInt8.ofNat i.toNat)=(byteArr (ps.map (·.1))).toList:=by simp [byteArr]
  rw [e];exact VRel.bytes _ _ (by rw [byteArr_size];simp at hl ⊢;exact ltc (fk [xs.length,lim,ps.length] [(1,(.a (.v 0) (.n 1)),(.v 1)),(1,(.v 2),(.v 0)),(1,(.v 1),(.v 2))] rfl z (aD hl)))
theorem Acl(I:Z.I s.heap U J){vs:List Value}{xs:List AV}(R:Ab s.heap (Z.V U J) U vs xs):At Z VR (Ael xs) (call (.type "range") vs) s U J:=by
 induction xs using List.casesOn with
 | nil=>exact .fail
 | cons a xs=>
  refine e23 R.inv1 λv ws r R1 zz4=>?_;subst zz4
  induction xs using List.casesOn with
  | nil=>
   have zz9:=R1.inv0;subst zz9;exact Mi r λx t e=>e▸At.of (a:=AV.rng 0 _) λQ E k=>call_range_1 (k.keep I (λb o e=>aE _ e) λ_=>VRel.rng (aS _ rfl) (I.new (Bb _)))
  | cons b xs=>
   refine e23 R1.inv1 λw us r' R2 zz4=>?_;subst zz4;exact Jp R2 λe=>e▸Ef r r' λx y t u h1 h2=>h1▸h2▸At.of (a:=AV.rng _ _) λQ E k=>call_range_2 (k.keep I (λb o e=>aE _ e) λ_=>VRel.rng (aS _ rfl) (I.new (Bb _)))
theorem Aqu(hr:Z.Room)(I:Z.I s.heap U J)(bi:BI){bv:Value}{vs:List Value}{xs:List AV}(hb:Lk bv=some bi)(R:Ab s.heap (Z.V U J) U vs xs)(hs:bi≠.sorted):At Z VR (Aby bi xs) (call bv vs) s U J:=by
 have hb:=Nb hb;subst hb
 induction bi using BI.casesOn with
 | len=>exact Cp R λv a e r=>e▸Ald I r
 | min=>exact Kt R λv w a b e r r'=>e▸Ef r r' λx y t u h1 h2=>h1▸h2▸Ale hr I
 | sum=>exact Cp R λv a e r=>e▸Re r λl vs xs hl z i n q=>hl▸Alb hr I i q
 | abs=>
  exact Cp R λv a e r=>e▸Mi r λx t h=>h▸At.of (a:=AV.int _) λQ E k=>call_abs_int λu tk=>by
   have e:(if x<0 then -x else x)=(x.natAbs:Int):=by split <;> omega
   rw [e];exact k.now I (VRel.int _ _) _
 | ord=>exact Cp R λv a e r=>e▸Alf I r
 | sorted=>exact absurd rfl hs
 | iter=>
  exact Cp R λv a e r=>e▸Re r λl vs xs hl z i n q=>hl▸λr' J' he Q E k=>by
   refine spE he λcc1 cc2=>?_;clear he;subst cc1;subst cc2;exact Afe i (OkR.newp (tk:=s.toks) I k (λb o e=>aE _ e) (Bb _) ⟨_,aS _ rfl⟩ λx=>⟨_,_,⟨_,aS _ rfl,rfl,rfl⟩,(x.lx n i).1,(x.lx n i).2,q.on x⟩)
 | object=>
  exact Jp R λe=>e▸λr' J' he Q E k=>by
   refine spE he λcc1 cc2=>?_;clear he;subst cc1;subst cc2;exact Ul (OkR.newp (tk:=s.toks) I k (λb o e=>aE _ e) (Bb _) ⟨_,aS _ rfl⟩ λx=>⟨_,aS _ rfl,rfl⟩)
 | isinstance=>
  refine Kt R λv w a b e r r'=>Hj λh=>?_;refine e02 (aK.mp h) λh1 h2=>?_;refine e21 (Un r h1) λx t zz2=>?_;subst zz2;have zz9:=Hx r' h2;subst zz9;exact e▸At.of (a:=AV.bool false) λQ E k=>Alc (k.now I (VRel.bool _) _)
 | issubclass=>
  refine Kt R λv w a b e r r'=>Aah r' λl vs xs hl z i n q=>Kt q λp1 p2 a1 a2 e1 r1 r2=>Hj λh=>?_;refine e02 (aK.mp h) λh h3=>?_;refine e02 (aK.mp h) λh1 h2=>?_;have zz9:=Hx r h1;subst zz9;have zz9:=Hx r1 h2;subst zz9;have zz9:=Hx r2 h3;subst zz9;subst e e1 hl;exact At.of (a:=AV.bool true) λQ E k=>Afd i (k.now' I (VRel.bool _))
 | range=>exact Acl I R
 | str=>exact Cp R λv a e r=>e▸Alg hr I r
 | bytes=>exact Cp R λv a e r=>e▸Re r λl vs xs hl z i n q=>hl▸Ack hr I z i q
 | type=>
  refine Cp R λv a e r=>Hj λh=>?_;refine e21 (Un r h) λx t zz2=>?_;subst zz2;exact e▸At.of (a:=AV.con _) λQ E k=>call_type_of (Tx:="str") rfl (by decide) (k.now' I (VRel.con _))
end
end Ik.Internal
namespace Ik.Internal
open PySem PySem.Calls PyProof.Rows PySem.W PySem.SeqAt PySem.Builtin PySem.Builtin.Str
theorem Ku{x:Str}{c i:Nat}:StrLaws.At x ⟨#[c]⟩ x.length i↔x.cps.toList[i]?=some c:=StrLaws.subAt_one x c i
theorem Ww(x:Str)(c:Nat):Txt.startswith x ⟨#[c]⟩=(x.cps.toList.head? == some c):=by
 have h:=@Ku x c 0;unfold StrLaws.At at h;rw [List.head?_eq_getElem?];unfold Txt.startswith;rw [Bool.eq_iff_iff];simp only [Bool.and_eq_true,decide_eq_true_eq,beq_iff_eq];exact h
theorem Aff(x:Str)(c:Nat):Txt.endswith x ⟨#[c]⟩=(x.cps.toList.getLast? == some c):=by
 have h:=@Ku x c (x.length - 1);unfold StrLaws.At at h;rw [List.getLast?_eq_getElem?];unfold Txt.endswith;rw [Bool.eq_iff_iff];simp only [Bool.and_eq_true,decide_eq_true_eq,beq_iff_eq];have e1:(⟨#[c]⟩:Str).length=1:=rfl;rw [e1] at h ⊢;rw [Bn] at h ⊢;rw [<- h]
 constructor
 . rintro ⟨a,b⟩;exact⟨by exact lec (fk [x.cps.toList.length - 1,x.cps.toList.length] [(1,(.a (.v 0) (.n 1)),(.v 1)),(1,(.a (.v 1) (.n 1)),(.a (.v 0) (.n 1)))] rfl (sbc (lec (fk [x.cps.toList.length] [(1,(.a (.n 0) (.n 1)),(.v 0)),(1,(.a (.v 0) (.n 1)),(.n 1))] rfl a)))),b⟩
 . rintro ⟨a,b⟩;exact⟨by exact lec (fk [x.cps.toList.length - 1,x.cps.toList.length] [(1,(.a (.v 0) (.n 1)),(.v 1)),(1,(.a (.v 1) (.n 1)),(.a (.n 0) (.n 1)))] rfl a),b⟩
theorem Pq(c:Nat):∀ l:List Nat,cnt c l=((l.count c:Nat):Int)
 | []=>rfl
 | n::r=>by
  rw [cnt_cons,Pq c r,List.count_cons];by_cases h:n=c <;> simp [h];omega
theorem Acm(x:Str)(c:Nat):Txt.count x ⟨#[c]⟩=((x.cps.toList.count c:Nat):Int):=by
 rw [count_is];exact Pq c _
theorem Hk(c:Nat):∀ l:List Nat,c∉l->Fb c l = -1
 | [],_=>rfl
 | x::r,h=>by
  unfold Fb;have hr:=Hk c r λq=>h (cH _ q);dsimp only;rw [hr];simp;exact λq=>absurd q.symm (λz=>h (by rw [z];exact dB))
theorem Ll(c:Nat):∀ (l:List Nat) (i:Nat),l[i]?=some c->(∀ k,i<k->l[k]?≠some c)->Fb c l=(i:Int)
 | [],i,h,_=>by simp at h
 | x::r,0,h,hn=>by
  simp at h;subst h;have hr:=Hk x r λq=>by
   refine e11 (List.getElem?_of_mem q) λj hj=>?_;exact hn (j+1) (by exact ltc (fk [j] [(1,(.a (.v 0) (.n 1)),(.n 0))] rfl)) (by simpa using hj)
  unfold Fb;dsimp only;rw [hr];simp
 | x::r,i+1,h,hn=>by
  have hr:=Ll c r i (by simpa using h) λk hk=>by
   have:=hn (k+1) (by exact ltc (fk [i,k] [(1,(.a (.v 0) (.n 1)),(.v 1)),(1,(.a (.v 1) (.n 1)),(.a (.v 0) (.n 1)))] rfl hk));simpa using this
  unfold Fb;dsimp only;rw [hr,if_pos (by omega)];omega
theorem Acn(x:Str)(c:Nat):Txt.rfind x ⟨#[c]⟩=Fb c x.cps.toList:=by
 rcases rfind_whole x ⟨#[c]⟩ with ⟨h,hn⟩ | ⟨i,h,hi,hn⟩
 . rw [h,Hk];intro q;refine e11 (List.getElem?_of_mem q) λj hj=>?_;exact hn j (Ku.mpr hj)
 . rw [h,Ll c _ i (Ku.mp hi) λk hk q=>hn k hk (Ku.mpr q)]
theorem Wx(x:Str)(c:Nat):Txt.rstripChars x ⟨#[c]⟩=⟨(Hu c x.cps.toList).toArray⟩:=by
 unfold Txt.rstripChars;rw [PyProof.Rows.stripBy_eq];have e:(strSub x (stripLo (⟨#[c]⟩:Str).cps.contains false x) (stripHi (⟨#[c]⟩:Str).cps.contains true x (stripLo (⟨#[c]⟩:Str).cps.contains false x))).cps.toList=Hu c x.cps.toList:=by
  rw [StrLaws.strSub_toList];unfold Hu stripLo stripHi;simp only [Bool.false_eq_true,if_false,if_true,List.drop_zero,Nat.sub_zero];have hp:(#[c]:Array Nat).contains=(λn=>n == c):=by
   funext n
   simp [Array.contains]
  rw [hp,Bn];generalize x.cps.toList=l;have:∀ l:List Nat,(l.reverse.take (l.length - (l.takeWhile (· == c)).length))=(l.dropWhile (· == c)).reverse:=by
   intro l;have h1:=List.takeWhile_append_dropWhile (p:=(· == c)) (l:=l);generalize hA:l.takeWhile (· == c)=A at h1;generalize hB:l.dropWhile (· == c)=B at h1;subst h1;rw [List.reverse_append,aL];simp
  have h2:=this l.reverse;rw [List.reverse_reverse,List.length_reverse] at h2;exact h2
 cases h:strSub x _ _ with | mk a=>
 rw [h] at e;simp only at e;rw [<- e]
theorem Lm(c:Nat):∀ l:List Nat,c∉l->Aj c l=[l]
 | [],_=>rfl
 | x::r,h=>by
  unfold Aj;rw [if_neg (λq=>h (by rw [q];exact dB)),Lm c r λq=>h (cH _ q)]
theorem Nc(c:Nat):∀ a b:List Nat,c∉a->Aj c (a++c::b)=a::Aj c b
 | [],b,_=>by
  show Aj c (c::b)=_;rw [Aj];simp
 | x::r,b,h=>by
  show Aj c (x::(r++c::b))=_;rw [Aj,if_neg (λq=>h (by rw [q];exact dB)),Nc c r b λq=>h (cH _ q)]
theorem Kv(x:Str)(i j:Nat):strSub x i j=⟨((x.cps.toList.drop i).take (j - i)).toArray⟩:=by
 have e:=StrLaws.strSub_toList x i j
 cases h:strSub x i j with | mk a=>
 rw [h] at e;simp only at e;rw [<- e]
theorem Kw(x:Str)(c:Nat):∀ (cuts:List Nat) (a f:Nat),StrLaws.ChainG x ⟨#[c]⟩ x.length a cuts f->(∀ k,f<=k->¬ StrLaws.At x ⟨#[c]⟩ x.length k)->
 ((a::cuts.map (·+1)).zip (cuts++[x.length])).map (λp=>strSub x p.1 p.2)=(Aj c (x.cps.toList.drop a)).map λl=>(⟨l.toArray⟩:Str)
 | [],a,f,h,hn=>by
  have e:f=a:=h;subst e;rw [Lm c _ (drop_free x c f hn)];show [strSub x f x.length]=[_];rw [Kv,Bn,<- List.length_drop,List.take_length]
 | d::r,a,f,h,hn=>by
  refine e04 h λhad hAt hgap hrest=>?_;clear h;have ih:=Kw x c r (d+1) f hrest hn;have hd:x.cps.toList[d]?=some c:=Ku.mp hAt;have e1:x.cps.toList.drop a=(x.cps.toList.drop a).take (d - a)++(x.cps.toList.drop a).drop (d - a):=(List.take_append_drop _ _).symm;have e2:(x.cps.toList.drop a).drop (d - a)=x.cps.toList.drop d:=by rw [List.drop_drop];congr 1;exact eqc (fk [d - a,a,d] [(1,(.a (.v 0) (.v 1)),(.v 2)),(1,(.a (.v 2) (.n 1)),(.a (.v 1) (.v 0)))] rfl (sbc (lec (fk [a,d] [(1,(.v 0),(.v 1)),(1,(.a (.v 1) (.n 1)),(.v 0))] rfl had)))) (fk [d,d - a,a] [(1,(.v 0),(.a (.v 1) (.v 2))),(1,(.a (.a (.v 2) (.v 1)) (.n 1)),(.v 0))] rfl (sbg (d) (a)))
  have e3:x.cps.toList.drop d=c::x.cps.toList.drop (d+1):=by
   have hlt:d<x.cps.toList.length:=(aN.mp hd).1;rw [dX hlt]
   congr 1
   exact (aN.mp hd).2
  have hfree:c∉(x.cps.toList.drop a).take (d - a):=by
   have:=StrLaws.part_free x c a d (by have:=hAt.1;omega) hgap
   rwa [StrLaws.strSub_toList] at this
  rw [e1,e2,e3,Nc c _ _ hfree];show strSub x a d::_=_::_;rw [Kv,<- ih];rfl
theorem Aco(x:Str)(c:Nat)(hk:Builtin.Str.strKind ⟨#[c]⟩=1):Txt.split x ⟨#[c]⟩=(Aj c x.cps.toList).map λl=>(⟨l.toArray⟩:Str):=by
 refine e12 (StrLaws.occ_tight x ⟨#[c]⟩ (aU 1)) λf hG hn=>?_;have key:=Kw x c _ 0 f hG hn;rw [List.drop_zero] at key;have hx1:1<=Builtin.Str.strKind x:=by unfold Builtin.Str.strKind;split <;> (try split) <;> omega
 have e1:(⟨#[c]⟩:Str).length=1:=rfl;unfold Txt.split;by_cases h0:x.length<1
 . have:(decide (x.length<(⟨#[c]⟩:Str).length)||decide (Builtin.Str.strKind x<Builtin.Str.strKind ⟨#[c]⟩))=true:=by rw [e1,aC h0];rfl
   rw [if_pos this];have hx:x.cps.toList=[]:=bJ (by rw [<- Bn];exact eqc (fk [x.length] [(1,(.a (.v 0) (.n 1)),(.n 1)),(1,(.a (.n 0) (.n 1)),(.v 0))] rfl h0) (fk [x.length] [(1,(.a (.v 0) (.n 1)),(.n 0))] rfl));rw [hx];show [x]=[⟨#[]⟩]
   induction x using PySem.Str.casesOn with | mk a=>simp at hx;rw [hx]
 . have:¬ (decide (x.length<(⟨#[c]⟩:Str).length)||decide (Builtin.Str.strKind x<Builtin.Str.strKind ⟨#[c]⟩))=true:=by
    rw [e1,aP h0,hk,aP (by exact (fk [Str.strKind x] [(1,(.n 1),(.v 0)),(1,(.a (.v 0) (.n 1)),(.n 1))] rfl hx1))];simp
   rw [if_neg this];by_cases h1:(occurrences x ⟨#[c]⟩ 0 x.length (x.length+1)).isEmpty=true
   . rw [if_pos h1];have h2:occurrences x ⟨#[c]⟩ 0 x.length (x.length+1)=[]:=by simpa using h1
     rw [h2] at key;rw [<- key];show [x]=[strSub x 0 x.length];rw [Kv,List.drop_zero,Nat.sub_zero,Bn,List.take_length]
   . rw [if_neg h1,<- key];rfl
theorem Nd(c:Nat)(l:List Nat):(Aj c l).length<=l.length+1/\∀ w∈Aj c l,w.length<=l.length:=by
 induction l with
 | nil=>exact⟨aU 1,λw hw=>aD (aJ List.length (aQ.mp hw))⟩
 | cons x r ih=>
  refine e02 ih λh1 h2=>?_;unfold Aj;by_cases q:x=c
  . rw [if_pos (by first | exact q | exact beq_iff_eq.mpr q)];exact⟨cJ h1,λw hw=>(aM.mp hw).elim (λe=>e▸bV _) λhw=>Nat.le_succ_of_le (h2 w hw)⟩
  . rw [if_neg (by first | exact q | exact λz=>q (beq_iff_eq.mp z))]
    cases hs:Aj c r with
    | nil=>exact⟨cJ (bV _),λv hv=>(aQ.mp hv)▸cJ (bV _)⟩
    | cons w ws=>
     rw [hs] at h1 h2;exact⟨Nat.le_succ_of_le h1,λv hv=>(aM.mp hv).elim (λe=>e▸cJ (h2 w (.head _))) λhv=>Nat.le_succ_of_le (h2 v (.tail _ hv))⟩
theorem Acp(c:Nat):∀ l:List Nat,-1<=Fb c l
 | []=>by show (-1:Int) <= -1;decide
 | x::r=>by
  have:=Acp c r;unfold Fb;dsimp only;split
  . omega
  . split <;> omega
theorem Uo(c:Nat)(l:List Nat):(Hu c l).length<=l.length:=by
 unfold Hu;rw [List.length_reverse];have h1:=aJ List.length (List.takeWhile_append_dropWhile (p:=(· == c)) (l:=l.reverse));rw [aL,List.length_reverse] at h1;exact lec (fk [(List.takeWhile (λx=>x == c) l.reverse).length,(List.dropWhile (λx=>x == c) l.reverse).length,l.length] [(1,(.a (.v 0) (.v 1)),(.v 2)),(1,(.a (.v 2) (.n 1)),(.v 1))] rfl (aD h1))
noncomputable def Kx(a:AV):Bool:=match a with
 | .strm _ _=>true
 | _=>false
noncomputable def Apk(m:ME):String:=match m with
 | .startswith=>"str.startswith" | .endswith=>"str.endswith" | .split=>"str.split" | .rfind=>"str.rfind" | .rstrip=>"str.rstrip" | .count=>"str.count" | .join=>"str.join"
 | _=>""
noncomputable def Apl(m:ME):String:=match m with
 | .append=>"list.append" | .pop=>"list.pop" | .sort=>"list.sort" | .get=>"dict.get"
 | _=>""
noncomputable def Aqv(a:AV)(m:ME):String:=match a with
 | .str _=>Apk m
 | .bytes _=>"bytes.decode"
 | .ref _=>Apl m
 | _=>""
section
variable{Z:Zt}{s:Shared}{U:List Addr}{J J':Sto}{v w:Value}{a b:AV}
inductive KdV(J:Sto):AV->Kd->Prop
 | str (x:Str):KdV J (.str x) (.str x.cps.toList)
 | bytes (b:List UInt8):KdV J (.bytes b) (.bytes b)
 | lst {k:Nat} {xs:List AV}:J[k]?=some (.lst xs)->KdV J (.ref k) (.lst k xs)
 | dict {k:Nat} {ob:Al} {es:List (Str×AV)}:J[k]?=some ob->(ob=.dict es\/ob=.fdict es)->KdV J (.ref k) (.dict k es)
 | strm (oc:List UInt8) (k:Nat):KdV J (.strm oc k) (.strm oc k)
theorem Afg{γ:Type}{f:Kd->M γ}{r:Except Str γ×Sto}(e:((Gd a).bnd f) J=some r):∃ k,KdV J a k/\f k J=some r:=by
 induction a using AV.casesOn with
 | str x=>exact⟨_,.str x,e⟩
 | bytes b=>exact⟨_,.bytes b,e⟩
 | strm oc k=>exact⟨_,.strm oc k,e⟩
 | ref k=>
  unfold M.bnd Gd at e;dsimp only at e;unfold M.bnd M.get at e
  cases h:J[k]? with
  | none=>rw [h] at e;exact nns e
  | some o=>
   rw [h] at e
   induction o using Al.casesOn with
   | lst xs=>exact⟨_,.lst h,e⟩
   | dict es=>exact⟨_,.dict h (.inl rfl),e⟩
   | fdict es=>exact⟨_,.dict h (.inr rfl),e⟩
   | _=>exact nns e
 | _=>exact nns e
theorem Rf{l:Addr}{vs:List Value}(i:LX s.heap l vs){name:Str}{id:String}{M:Model}{A:Around}{pl:Sem Bool}{Q:Value×List Value->Shared->Prop}{E:Value->Shared->Prop}(slot:Slot "list" name id)(ty:typeOf (.builtin id)=pure (.type "method_descriptor"))
 (h:Q (.builtin id,[.ref l]) s):wpAny M A (getMethod (.ref l) name pl) Q E s:=by
 refine e11 i λn i=>?_;exact getMethod_builtin ⟨_,i,rfl⟩ F.plainAttrs_list slot ty (λa e=>by injection e with cc1;subst cc1;exact⟨_,i,rfl⟩) h
theorem Aqw{m:ME}(hm:Aqm m=true){M:Model}{A:Around}{pl:Sem Bool}{Q:Value×List Value->Shared->Prop}{E:Value->Shared->Prop}{x:Str}{t:Tok}(h:Q (.builtin (Apk m),[.str x t]) s):wpAny M A (getMethod (.str x t) (Str.ofString (meS m)) pl) Q E s:=by
 induction m using ME.casesOn with
 | startswith=>exact GM.startswith h
 | endswith=>exact GM.endswith h
 | split=>exact GM.split h
 | rfind=>exact GM.rfind h
 | rstrip=>exact GM.rstrip h
 | count=>exact GM.count h
 | join=>exact GM.join h
 | _=>exact nft hm
theorem Aqx{m:ME}(hm:Aem m=true){M:Model}{A:Around}{pl:Sem Bool}{Q:Value×List Value->Shared->Prop}{E:Value->Shared->Prop}{l:Addr}{vs:List Value}(i:LX s.heap l vs)(h:Q (.builtin (Apl m),[.ref l]) s):wpAny M A (getMethod (.ref l) (Str.ofString (meS m)) pl) Q E s:=by
 induction m using ME.casesOn with
 | append=>exact Rf i F.slot_list_append F.type_list_append h
 | pop=>exact Rf i F.slot_list_pop F.type_list_pop h
 | sort=>exact Rf i F.slot_list_sort F.type_list_sort h
 | _=>exact nft hm
theorem Lo{m:ME}(h:Hd m=true):m=.decode:=by cases m <;> first | rfl | exact nft h
theorem Uq{m:ME}(h:Tu m=true):m=.get:=by cases m <;> first | rfl | exact nft h
theorem Apm(I:Z.I s.heap U J){m:ME}(R:VRel s.heap (Z.V U J) U v a)(hn:Kx a=false){r:Except Str Unit}(e:kindA a m J=some (r,J')){M:Model}{A:Around}{pl:Sem Bool}{Q:Value×List Value->Shared->Prop}{E:Value->Shared->Prop}
 (h:Q (.builtin (Aqv a m),[v]) s):J'=J/\r=.ok ()/\wpAny M A (getMethod v (Str.ofString (meS m)) pl) Q E s:=by
 obtain ⟨k,hk,e1⟩:=Afg (f:=λk=>Ik.Internal.M.grd (match k with
  | .str _=>Aqm m
  | .bytes _=>Hd m
  | .lst _ _=>Aem m
  | .dict _ _=>Tu m
  | .strm _ _=>Wb m) (Ik.Internal.M.ret ())) e
 induction hk using KdV.casesOn with
 | str x=>
  refine e12 R.inv λt z zz=>?_;clear R;subst zz;refine e02 (Ce e1) λhm e1=>?_;refine spE e1 λcc1 cc2=>?_;clear e1;subst cc1;subst cc2;exact⟨rfl,rfl,Aqw hm h⟩
 | bytes b=>
  refine e23 R.inv λb t z zz3 zz4=>?_;subst zz3;subst zz4;refine e02 (Ce e1) λhm e1=>?_;refine spE e1 λcc1 cc2=>?_;clear e1;subst cc1;subst cc2;have zz9:=Lo hm;subst zz9;exact⟨rfl,rfl,KBd.method h⟩
 | lst h2=>
  refine e12 R.inv λl e3 zz=>?_;clear R;subst zz;obtain ⟨z,vs,i,r⟩:=I.list e3 h2;refine e02 (Ce e1) λhm e1=>?_;refine spE e1 λcc1 cc2=>?_;clear e1;subst cc1;subst cc2;exact⟨rfl,rfl,Aqx hm i h⟩
 | dict h2 hd=>
  refine e12 R.inv λd e3 zz=>?_;clear R;subst zz;obtain ⟨vs,ep,⟨o,ds,ho,hc,_⟩,r⟩:=I.dict hd e3 h2;refine e02 (Ce e1) λhm e1=>?_;refine spE e1 λcc1 cc2=>?_;clear e1;subst cc1;subst cc2;have zz9:=Uq hm;subst zz9;exact⟨rfl,rfl,getMethod_builtin ⟨o,ho,hc.1⟩ F.plainAttrs_dict F.slot_dict_get F.type_dict_get (λa e=>by injection e with cc1;subst cc1;exact⟨_,ho,hc.2.1⟩) h⟩
 | strm oc k=>exact ntf hn
theorem mkS(l:List Nat):(⟨l.toArray⟩:Str).length=l.length:=by simp [Str.length]
theorem Rg(x:Str):x=⟨x.cps.toList.toArray⟩:=by cases x;simp
theorem Alh{x:Str}{c:Nat}(h:x.cps.toList=[c]):x=⟨#[c]⟩:=by rw [Rg x,h]
theorem Afh{h:Heap}{V:Addr->Prop}{vs:List Value}{xs:List AV}(r:Ab h V U vs xs){l:List (List Nat)}(e:Fc xs=some l):∃ ps:List (Str×Tok),vs=strValues ps/\l=ps.map (·.1.cps.toList)/\∀ p∈ps,p.1.length<lim:=by
 induction vs generalizing xs l with
 | nil=>have zz9:=r.inv_nil;subst zz9;refine snE e λcc1=>?_;clear e;subst cc1;exact⟨[],rfl,rfl,by simp⟩
 | cons v vs ih=>
  refine e23 r.inv_cons λx xs a r1 zz4=>?_;subst zz4
  induction x using AV.casesOn with
  | str x=>
   refine e12 a.inv λt z zz=>?_;clear a;subst zz;refine e12 (bF.mp e) λjs h1 zz2=>?_;subst zz2;refine e13 (ih r1 h1) λps zz1 zz2 q3=>?_;subst zz1;subst zz2;refine⟨(x,t)::ps,rfl,rfl,λp hp=>?_⟩;rcases aM.mp hp with rfl | hp
   . exact z
   . exact q3 p hp
  | _=>exact nns e
theorem Wy(s:Str):∀ ts:List Str,(glued s ts).cps.toList=Bm s.cps.toList (ts.map λt=>t.cps.toList):=by
 have go:∀ (ts:List Str) (acc:Array Nat),(ts.foldl (λacc p=>acc++s.cps++p.cps) acc).toList=acc.toList++(ts.map λt=>s.cps.toList++t.cps.toList).flatten:=by
  intro ts
  induction ts with
  | nil=>intro acc;simp
  | cons t r ih=>intro acc;rw [List.foldl_cons,ih];simp [bC]
 have jn:∀ (x:List Nat) (r:List (List Nat)),Bm s.cps.toList (x::r)=x++(r.map λt=>s.cps.toList++t).flatten:=by
  intro x r
  induction r generalizing x with
  | nil=>simp [Bm]
  | cons y r ih=>
   rw [show Bm s.cps.toList (x::y::r)=x++s.cps.toList++Bm s.cps.toList (y::r) from rfl,ih,cP,List.flatten_cons];simp [bC]
 intro ts
 induction ts using List.casesOn with
 | nil=>rfl
 | cons t r=>
  unfold glued;rw [cP,jn];show (List.foldl _ t.cps r).toList=_;rw [go];simp [List.map_map];rfl
theorem Wz{x y:Str}{t u:Tok}{A:Around}{prog:Program}{w:World}{E:Value->Shared->Prop}{Q:Value->Shared->Prop}(hy:(y.length == 0)=false)(hx:x.length<lim)
 (hq:∀ (l:List (Str×Tok)) (tk:Nat),l.map (·.1)=Txt.split x y->Q (.ref s.heap.objs.size) { s with heap:=s.heap.push { cls:=.type "list",data:=.seq (strValues l).toArray},toks:=tk})
 (hsz2:(partsBetween x (occurrences x y 0 x.length (x.length+1)) y.length).length<=sizeLine) :
 wpAny (model prog w) A (call (.builtin "str.split") [.str x t,.str y u]) Q E s:=by
 have hsz:=(Bq hx).2.1
 cases h1:(decide (x.length<y.length)||decide (Builtin.Str.strKind x<Builtin.Str.strKind y))
 . cases hf:(occurrences x y 0 x.length (x.length+1)).isEmpty
   . refine call_meets F.slot_str_split (typeIs_str _ _ _) F.entry_str_split (F.args_str_split_2 _ _) (meets_str_split_sep x y t u h1 hy hf hsz hsz2) ?_;show wants Q E _ { s with toks:=_,heap:=s.heap.push { cls:=.type "list",data:=.seq (strsFrom s.toks (partsBetween x (occurrences x y 0 x.length (x.length+1)) y.length)).toArray}};rw [strsFrom_eq];exact hq (numbered s.toks _) _ ((numbered_texts _ _).trans ((if_neg (by rw [h1];simp)).trans (if_neg (by rw [hf];simp))).symm)
   . exact call_meets F.slot_str_split (typeIs_str _ _ _) F.entry_str_split (F.args_str_split_2 _ _) (meets_str_split_not_found x y t u h1 hy hf)
      (hq [(x,t)] s.toks ((if_neg (by rw [h1];simp)).trans (if_pos hf)).symm)
 . exact call_meets F.slot_str_split (typeIs_str _ _ _) F.entry_str_split (F.args_str_split_2 _ _) (meets_str_split_cannot_occur x y t u h1)
    (hq [(x,t)] s.toks (if_pos h1).symm)
theorem Acq{x:Str}(c:Nat)(hx:x.length<lim):(partsBetween x (occurrences x ⟨#[c]⟩ 0 x.length (x.length+1)) (⟨#[c]⟩:Str).length).length<=sizeLine:=by
 refine e12 (StrLaws.occ_tight x ⟨#[c]⟩ (aU 1)) λf hG hn=>?_;have key:=aJ List.length (Kw x c _ 0 f hG hn);have h1:=(Nd c (x.cps.toList.drop 0)).1;rw [List.drop_zero,<- Bn] at h1;have e:(partsBetween x (occurrences x ⟨#[c]⟩ 0 x.length (x.length+1)) (⟨#[c]⟩:Str).length).length=(Aj c (x.cps.toList.drop 0)).length:=by
  rw [<- aF (f:=λl:List Nat=>(⟨l.toArray⟩:Str)),<- key];rfl
 rw [e,List.drop_zero,sizeLine_eq];unfold lim at hx;omega
theorem Ur{h:Heap}{V:Addr->Prop}:∀ (l:List (Str×Tok)),(∀ p∈l,p.1.length<lim)->Ab h V U (strValues l) (l.map λp=>AV.str p.1)
 | [],_=>.nil
 | p::r,hp=>.cons (.str p.1 p.2 (hp p dB)) (Ur r λq hq=>hp q (cH _ hq))
theorem Afi(I:Z.I s.heap U J){x:Str}{t u:Tok}{c:Nat}(hc:c<256)(z:x.length<lim)(z':x.length+1<lim):At Z VR (M.ret (.lst ((Aj c x.cps.toList).map mk))) (call (.builtin "str.split") [.str x t,.str ⟨#[c]⟩ u]) s U J:=by
 have hk:Builtin.Str.strKind ⟨#[c]⟩=1:=by unfold Builtin.Str.strKind;simp [hc]
 refine .of λQ E k=>Wz rfl z (λl tk hl=>?_) (Acq c z);rw [Aco x c hk] at hl;have hw:=Nd c x.cps.toList;rw [<- Bn] at hw;have e:l.map (λp=>AV.str p.1)=(Aj c x.cps.toList).map mk:=by
  have:l.map (λp=>AV.str p.1)=(l.map (·.1)).map AV.str:=by rw [List.map_map];rfl
  rw [this,hl,List.map_map];rfl
 have hp:∀ p∈l,p.1.length<lim:=λp hp=>by
  have:p.1∈l.map (·.1):=bY hp;rw [hl] at this;refine e12 (bL.mp this) λq hq e=>?_;rw [<- e,mkS];exact aV (hw.2 q hq) z
 rw [<- e] at k;refine k.pushL I (Ur l hp) ?_;have:=aJ List.length hl;simp at this ⊢;omega
theorem Aqy(I:Z.I s.heap U J){x:Str}{t u:Tok}{c:Nat}(hc:c<256)(z:x.length<lim)(m:ME):At Z VR (Qk x.cps.toList m c) (call (.builtin (Aqv (.str x) m)) [.str x t,.str ⟨#[c]⟩ u]) s U J:=by
 induction m using ME.casesOn with
 | startswith=>exact At.of (a:=AV.bool _) λQ E k=>SC.startswith (by rw [Ww];exact k.now' I (VRel.bool _))
 | endswith=>exact At.of (a:=AV.bool _) λQ E k=>SC.endswith (by rw [Aff];exact k.now' I (VRel.bool _))
 | split=>exact .grd λh=>Afi I hc z (by have:=aB h;rw [<- Bn] at this;exact this)
 | rfind=>exact At.of (a:=AV.int _) λQ E k=>SC.rfind (by rw [Acn];exact k.now I (VRel.int _ _) _)
 | rstrip=>
  refine At.of (a:=mk _) λQ E k=>SC.rstripChars (λt' tk=>?_) (Bq z).2.1;rw [Wx];exact k.now I (VRel.str _ _ (by have:=Uo c x.cps.toList;rw [mkS];rw [<- Bn] at this;omega)) _
 | count=>exact At.of (a:=AV.int _) λQ E k=>SC.count (by rw [Acm];exact k.now I (VRel.int _ _) _)
 | _=>exact .fail
theorem Pr(s:List Nat):∀ l:List (List Nat),(l.map List.length).sum+l.length*s.length<=(Bm s l).length+s.length
 | []=>by simp
 | [x]=>by simp [Bm]
 | x::y::r=>by
  have ih:=Pr s (y::r);rw [show Bm s (x::y::r)=x++s++Bm s (y::r) from rfl,cP,List.sum_cons,bE,Nat.add_mul,aL,aL];omega
theorem Ali(I:Z.I s.heap U J){x:Str}{t:Tok}{l:Addr}{vs:List Value}{xs:List AV}(i:LX s.heap l vs)(r:Ab s.heap (Z.V U J) U vs xs)(zx:x.length<lim):At Z VR (Tt x.cps.toList xs) (call (.builtin "str.join") [.str x t,.ref l]) s U J:=by
 unfold Tt
 cases hls:Fc xs with
 | none=>exact .fail
 | some ls=>
  refine e13 (Afh r hls) λps zz1 zz2 hp=>?_;subst zz1;subst zz2;refine .grd λhc=>.of λQ E k=>?_;have hc:=aB hc;have e:Txt.join x (ps.map (·.1))=⟨(Bm x.cps.toList (ps.map (·.1.cps.toList))).toArray⟩:=by
   rw [Rg (Txt.join x (ps.map (·.1)))];show (⟨((glued x (ps.map (·.1))).cps.toList).toArray⟩:Str)=_;rw [Wy,List.map_map];rfl
  refine SC.join (texts:=ps.map (·.1)) i.isList rfl ?_ λt' tk=>?_
  . refine joinOk_of ?_;have h1:=Pr x.cps.toList (ps.map (·.1.cps.toList));have h2:((ps.map (·.1)).map (·.length)).sum=((ps.map (·.1.cps.toList)).map List.length).sum:=by
     rw [List.map_map,List.map_map];exact aJ List.sum (List.map_congr_left λp _=>Bn p.1)
    rw [aF,<- Bn] at h1;rw [h2,aF];unfold lim at zx hc;exact bA h1 (by omega)
  . rw [e];exact k.now I (VRel.str _ _ (by rw [mkS];exact hc)) _
theorem Acr(I:Z.I s.heap U J){k:Nat}{l:Addr}{xs:List AV}{x:AV}(e1:U[k]?=some l)(e2:J[k]?=some (.lst xs))(Rx:VRel s.heap (Z.V U J) U w x):At Z VR (Mf k xs .append [x]) (call (.builtin "list.append") [.ref l,w]) s U J:=by
 refine .grd λhc=>?_;obtain ⟨z,vs,i,r⟩:=I.list e1 e2;have hl:=r.length;refine e11 (id i) λn i'=>?_;intro r' J' he Q E kq;refine spE he λcc1 cc2=>?_;clear he;subst cc1;subst cc2;refine wpAny_call_entry PySem.F.slot_list_append ⟨_,i',rfl⟩ PySem.F.entry_list_append ?_ (PySem.F.args_list_append_2 _ _);show wpAny _ _ (updateSeq l (·.push w) >>= λ_=>ret .none) _ _ s;refine aA ?_;have G:=Kr (ys:=xs++[x]) (ws:=vs++[w]) I e1 e2 i (f:=(·.push w)) (by simp) (by have:=aB hc;simpa using this) (r.append (.cons Rx .nil));exact wpAny_updateSeq i' rfl (aH ⟨.none,rfl,kq _ _ s.toks U G .none⟩) (by have:=(Bq z).2.1;simp;omega) (by have:=(Bq z).2.1;simp;omega)
theorem Aqz(I:Z.I s.heap U J){k:Nat}{l:Addr}{xs:List AV}(e1:U[k]?=some l)(e2:J[k]?=some (.lst xs)):At Z VR (Mf k xs .pop []) (call (.builtin "list.pop") [.ref l]) s U J:=by
 show At Z VR (match xs.getLast? with
  | some v=>(Ik.Internal.M.set k (.lst xs.dropLast)).bnd λ_=>.ret v
  | Option.none=>.fail) _ _ _ _
 cases hx:xs.getLast? with
 | none=>exact .fail
 | some x=>
  obtain ⟨z,vs,i,r⟩:=I.list e1 e2;have hl:=r.length;refine e11 (id i) λn i'=>?_;rw [List.getLast?_eq_getElem?] at hx;refine e12 (r.get hx) λv hv rv=>?_;have hz:=Bq z;intro r' J' he Q E kq;refine spE he λcc1 cc2=>?_;clear he;subst cc1;subst cc2;have hn:0<xs.length:=by
   rcases Nat.eq_zero_or_pos xs.length with h | h
   . rw [bJ h] at hx;simp at hx
   . exact h
  have G:=Kr (ys:=xs.dropLast) (ws:=vs.dropLast) I e1 e2 i (f:=λys=>ys.eraseIdxIfInBounds (vs.toArray.size - 1)) (by
   apply Array.ext';simp only [cY];rw [Array.toList_eraseIdxIfInBounds];simp [List.dropLast_eq_take]) (by rw [dZ];omega) (by rw [List.dropLast_eq_take,List.dropLast_eq_take,hl];exact r.take _)
  exact call_meets PySem.F.slot_list_pop ⟨_,i',rfl⟩ PySem.F.entry_list_pop (PySem.F.args_list_pop_1 _) (PySem.MeetsSeq.list_pop_last l _ n v (by simp [hl];exact hv) (by simp;omega)) ⟨i',kq _ _ s.toks U G (rv.on G.on)⟩
end
end Ik.Internal
namespace Ik.Internal
open PySem PySem.Calls PyProof.Rows PySem.W PySem.SeqAt
section
variable{Z:Zt}{s:Shared}{U:List Addr}{J J':Sto}{v w:Value}{a b:AV}
set_option tactic.hygienic true in
theorem Rh{α:Type}{cmp:Nat->Nat->Option Bool}{ask:Nat->Nat->(Bool->Shared->Prop)->Shared->Prop}{s:Shared}(h:∀ i j c C,cmp i j=some c->C c s->ask i j C s):∀ (t:KasT α) {p:α} {Q:α->Shared->Prop},Ga cmp t=some p->Q p s->t.kasWp ask Q s
 | .ret a,p,Q,e,hq=>by refine snE e λcc1=>?_;clear e;subst cc1;exact hq
 | .ask i j k,p,Q,e,hq=>by
  unfold Ga at e;split at e
  . rename_i c hc;exact h i j c _ hc (Rh h (k c) e hq)
  . exact nns e
theorem Ara{A:Around}{prog:Program}{w:World}{V:Addr->Prop}{C:Bool->Shared->Prop}{n:Nat}(hu:A.units+n<cLine){b fin c:Bool}(hq:C c s):∀ {vs ws:List Value} {xs ys:List AV} (i:Nat),Ab s.heap V U vs xs->Ab s.heap V U ws ys->ltL (eqA n) (ltA n) xs ys=some c->
 (decide (vs.length<ws.length)=fin)->(b=true->i=0->∀ x y,xs.head?=some x->ys.head?=some y->∃ p q,x=.int p/\y=.int q)->KatLex prog w A b fin C (vs.zip ws) i s
 := by
 intro vs
 induction vs with
 | nil=>
  intro ws xs ys i r r' e hf _;have zz9:=r.inv_nil;subst zz9;have:c=fin:=by rw [<- hf,r'.length];exact (bG e).symm
  subst this;exact hq
 | cons v vs ih=>
  intro ws xs ys i r r' e hf hi;refine e23 r.inv_cons λx xs a r1 zz4=>?_;subst zz4
  induction ys using List.casesOn with
  | nil=>
   have zz9:=r'.inv0;subst zz9;have:c=fin:=by rw [<- hf,<- bG e];rfl
   subst this;exact hq
  | cons y ys=>
   refine e23 (r'.inv1) λw' ws a' r1' zz4=>?_;subst zz4;unfold ltL at e
   cases q:eqA n x y with
   | none=>rw [q] at e;exact nns e
   | some d=>
    rw [q] at e;refine kat_cons (Mx hu a a' q prog w _ _ ?_)
    induction d using Bool.casesOn with
    | true=>exact kat_yes (ih (i+1) r1 r1' e (by rw [<- hf];simp) (λ_ h=>by omega))
    | false=>
     refine kat_no ?_;have e1:ltA n x y=some c:=e;by_cases hb:(b&&i == 0)=true
     . rw [hb];simp at hb;refine e22 (hi hb.1 hb.2 x y rfl rfl) λp p' zz2 zz3=>?_;subst zz2;subst zz3;obtain ⟨t,zz⟩:=a.inv;clear a;subst zz;obtain ⟨t',zz⟩:=a'.inv;clear a';subst zz;refine oneLt_int ?_;have:c=decide (p<p'):=by cases n <;> exact (bG e1).symm
       rw [<- this];exact hq
     . rw [Bool.not_eq_true] at hb;rw [hb];exact kat_one _ _ (Wq n hu a a' e1 prog w _ _ hq)
noncomputable def Jq(k:Bool)(x:AV):Bool:=Li (bif k then Tr else isTup) x
theorem Ri{p:AV->Bool}{x:AV}(h:Li p x=true):∃ z r,x=.tup (z::r)/\p z=true:=by
 induction x using AV.casesOn with
 | tup l=>induction l using List.casesOn with
  | nil=>exact nft h
  | cons z r=>exact⟨z,r,rfl,h⟩
 | _=>exact nft h
theorem Rj{x:AV}(h:Tr x=true):∃ i,x=.int i:=by
 induction x using AV.casesOn with
 | int i=>exact⟨i,rfl⟩
 | _=>exact nft h
theorem Alj{x:AV}(h:isTup x=true):∃ l,x=.tup l:=by
 induction x using AV.casesOn with
 | tup l=>exact⟨l,rfl⟩
 | _=>exact nft h
theorem Acs{h:Heap}{V:Addr->Prop}(k:Bool){vs:List Value}{xs:List AV}(r:Ab h V U vs xs)(e:xs.all (Jq k)=true) :
 ∃ fs,KatTups h vs fs/\fs.length=vs.length/\∀ f∈fs,if k then (∃ i t,f=.int i t) else ∃ a o,f=.ref a/\h.get? a=some o/\o.cls=.type "tuple":=by
 induction vs generalizing xs with
 | nil=>exact⟨[],trivial,rfl,by simp⟩
 | cons v vs ih=>
  refine e23 r.inv_cons λx xs a r1 zz4=>?_;subst zz4;rw [List.all_cons,Bool.and_eq_true] at e;refine e13 (ih r1 e.2) λfs h1 h2 h3=>?_;refine e22 (Ri e.1) λz l zz2 hz=>?_;subst zz2;obtain ⟨p,us,_,⟨m,t⟩,_,q,rfl⟩:=a.inv;refine e23 q.inv1 λf us qf _ zz4=>?_;subst zz4;refine⟨f::fs,.cons t rfl rfl (by simp) h1,by simp [h2],λf' hf=>?_⟩;rcases aM.mp hf with rfl | hf
  . induction k using Bool.casesOn with
    | true=>
     obtain ⟨i,rfl⟩:=Rj hz;obtain ⟨t',zz⟩:=qf.inv;clear qf;subst zz;exact⟨i,t',rfl⟩
    | false=>
     obtain ⟨l',rfl⟩:=Alj hz;obtain ⟨a',_,_,⟨m',t'⟩,_,_,rfl⟩:=qf.inv;exact⟨a',_,rfl,t',rfl⟩
  . exact h3 f' hf
theorem Rn{A:Around}{prog:Program}{w:World}{E:Value->Shared->Prop}{V:Addr->Prop}(k:Bool){vs:List Value}{xs:List AV}(r:Ab s.heap V U vs xs)(e:xs.all (Jq k)=true)(hn:0<vs.length){Q:SortKind->Shared->Prop}(h:Q (tuples' k) s) :
 wpAny (model prog w) A (keyKind' vs.toArray) Q E s:=by
 refine e13 (Acs k r e) λfs h1 h2 h3=>?_
 induction k using Bool.casesOn with
 | true=>exact kat_kind (T:=.type "int") h1 (by exact ltc (fk [vs.length,fs.length] [(1,(.a (.n 0) (.n 1)),(.v 0)),(1,(.v 0),(.v 1)),(1,(.v 1),(.n 0))] rfl hn (aD (Eq.symm h2)))) (λv hv=>by refine e21 (h3 v hv) λi t zz2=>?_;subst zz2;exact Looks.of_pure rfl) rfl h
 | false=>
  exact kat_kind (T:=.type "tuple") h1 (by exact ltc (fk [vs.length,fs.length] [(1,(.a (.n 0) (.n 1)),(.v 0)),(1,(.v 0),(.v 1)),(1,(.v 1),(.n 0))] rfl hn (aD (Eq.symm h2)))) (λv hv=>by
   refine e23 (h3 v hv) λa o zz2 ho hc=>?_;subst zz2;rw [<- hc];exact (Looks.ld ho).andThen .now) rfl h
theorem Xa{A:Around}{prog:Program}{w:World}{V:Addr->Prop}(hu:A.units+dp<cLine)(k:Bool){vs:List Value}{xs:List AV}(r:Ab s.heap V U vs xs)(hk:xs.all (Jq k)=true){i j:Nat}{c:Bool}{C:Bool->Shared->Prop}
 (e:ltA dp (xs.getD i .none) (xs.getD j .none)=some c) (hq:C c s):kas_ask prog w A (tuples' k) vs i j C s:=by
 have at':∀ {i:Nat} {b:AV},(xs.getD i .none=b->b≠.none->xs[i]?=some b):=λ{i b} h hb=>by
  rw [aY] at h
  cases q:xs[i]? with
  | none=>rw [q] at h;exact absurd h.symm hb
  | some x=>rw [q] at h;rw [show x=b from h]
 have ne:∀ {a b:AV},ltA dp a b=some c->a≠.none/\b≠.none:=λ{a b} e=>by
  refine⟨λq=>?_,λq=>?_⟩
  . subst q;exact nns e
  . subst q
    cases a <;> exact nns e
 obtain ⟨n1,n2⟩:=ne e;generalize h1:xs.getD i .none=x at e n1;generalize h2:xs.getD j .none=y at e n2;have hx:=at' h1 n1;have hy:=at' h2 n2;have fk:∀ {i x},xs[i]?=some x->Jq k x=true:=λh=>bI.mp hk _ (aO h);refine e12 (r.get hx) λv hv rv=>?_;refine e12 (r.get hy) λw' hw rw'=>?_;unfold kas_ask;rw [aY,aY,hv,hw];refine e22 (Ri (fk hx)) λz1 r1 zz2 i1=>?_;subst zz2;refine e22 (Ri (fk hy)) λz2 r2 zz2 i2=>?_;subst zz2;obtain ⟨p,us,_,⟨m,t⟩,_,q,rfl⟩:=rv.inv;obtain ⟨p',us',_,⟨m',t'⟩,_,q',rfl⟩:=rw'.inv;refine kat_lt t rfl t' rfl ?_;refine Ara (n:=7) (by have:A.units+8<cLine:=hu;exact ltc (_root_.Ik.Internal.fk [A.units,cLine] [(1,(.a (.a (.v 0) (.n 8)) (.n 1)),(.v 1)),(1,(.v 1),(.a (.v 0) (.n 7)))] rfl this)) hq 0 q q' e (by simp) (λhb _ x y h1 h2=>?_);refine snE h1 λcc1=>?_;clear h1;subst cc1;refine snE h2 λcc1=>?_;clear h2;subst cc1;subst hb;obtain ⟨p,rfl⟩:=Rj i1;obtain ⟨p',rfl⟩:=Rj i2;exact⟨p,p',rfl,rfl⟩
theorem Ro{xs ys:List AV}(e:Cy xs=some ys):2<=xs.length/\xs.length<64/\∃ k p,xs.all (Jq k)=true/\Ga (λi j=>ltA dp (xs.getD i .none) (xs.getD j .none)) (W.kas_sort xs.length)=some p/\ys=p.toList.map λi=>xs.getD i .none:=by
 unfold Cy at e;by_cases h1:xs.length<2
 . rw [if_pos h1] at e;exact nns e
 rw [if_neg h1] at e;by_cases h2:64<=xs.length
 . rw [if_pos h2] at e;exact nns e
 rw [if_neg h2] at e;by_cases h3:(xs.all (λx=>Li Tr x)||xs.all (λx=>Li isTup x))=true
 . rw [if_pos h3] at e;refine e12 (bF.mp e) λp hp zz2=>?_;subst zz2;refine⟨by exact lec (fk [xs.length] [(1,(.n 2),(.v 0)),(1,(.a (.v 0) (.n 1)),(.n 2))] rfl (bQ.mp h1)),by exact ltc (fk [xs.length] [(1,(.a (.v 0) (.n 1)),(.n 64)),(1,(.n 64),(.v 0))] rfl (Nat.not_le.mp h2)),?_⟩;rcases (Bool.or_eq_true _ _).mp h3 with h3 | h3
   . exact⟨true,p,h3,hp,rfl⟩
   . exact⟨false,p,h3,hp,rfl⟩
 . rw [if_neg h3] at e;exact nns e
theorem Nf{h:Heap}{V:Addr->Prop}{vs:List Value}{xs:List AV}(r:Ab h V U vs xs)(l:List Nat):Ab h V U (l.map λi=>vs.getD i Value.none) (l.map λi=>xs.getD i .none):=by
 induction l with
 | nil=>exact .nil
 | cons i l ih=>
  refine .cons ?_ ih
  cases hx:xs[i]? with
  | none=>
   have:vs[i]?=none:=by
    rw [List.getElem?_eq_none_iff] at hx ⊢;rw [r.length];exact hx
   show VRel h V U (vs.getD i Value.none) (xs.getD i .none);rw [aY,aY,hx,this];exact .none
  | some x=>
   refine e12 (r.get hx) λv hv rv=>?_;show VRel h V U (vs.getD i Value.none) (xs.getD i .none);rw [aY,aY,hx,hv];exact rv
theorem Act(hr:Z.Room)(I:Z.I s.heap U J){L:Addr}{m:Str->Option Value}(hL:s.heap.Ns L m)(hf:L∈Z.fr){l:Addr}{vs:List Value}{xs:List AV}(i:LX s.heap l vs)(r:Ab s.heap (Z.V U J) U vs xs) :
 At Z VR ((M.ofOpt (Cy xs)).bnd λys=>.grd (decide (ys.length<lim)) (.ret (.lst ys))) (call (.builtin "sorted") [.ref l]) s U J:=by
 refine .opt λys e=>.grd λhz=>.of λQ E kq=>?_;obtain ⟨h2,h64,k,p,hk,hp,rfl⟩:=Ro e;have hl:=r.length;refine kat_sorted (h₀:=e0) (fr0 hL) Ue i.isList (by exact lec (fk [xs.length,vs.length] [(1,(.n 2),(.v 0)),(1,(.v 0),(.v 1)),(1,(.a (.v 1) (.n 1)),(.n 2))] rfl h2 (aD (Eq.symm hl)))) (by exact ltc (fk [xs.length,vs.length] [(1,(.a (.v 0) (.n 1)),(.n 64)),(1,(.v 1),(.v 0)),(1,(.n 64),(.v 1))] rfl h64 (aD hl))) λD e1 h' F' N' lt=>?_;obtain ⟨k1,k2⟩:=Qw hL hf F' λq hq=>(N' q (cH _ hq)).1;have G:=I.grow (h':=h') k1 k2;have R':=r.on G.on;refine Rn k R' hk (by exact ltc (fk [xs.length,vs.length] [(1,(.n 2),(.v 0)),(1,(.v 0),(.v 1)),(1,(.v 1),(.n 0))] rfl h2 (aD (Eq.symm hl)))) ?_;have hu:Z.A.in1.in1.units+dp<cLine:=by have:=hr.1;show Z.A.units+1+1+8<cLine;exact ltc (fk [Z.A.units,cLine] [(1,(.a (.a (.v 0) (.n 40)) (.n 1)),(.v 1)),(1,(.v 1),(.a (.a (.a (.v 0) (.n 1)) (.n 1)) (.n 8)))] rfl this)
 rw [hl];refine Rh (cmp:=λi j=>ltA dp (xs.getD i .none) (xs.getD j .none)) (λi j c C hc hq=>Xa hu k R' hk hc hq) _ hp ?_;refine KasFin.intro F' N' (.head λq hq=>aW (lt q hq)) λh'' c F'' N''=>?_;obtain ⟨k3,k4⟩:=Qw hL hf F'' λq hq=>(N'' q (cH _ hq)).1;have G':=I.grow (h':=h'') k3 k4;have hD:=N'' (D,listOf (List.toArray (p.toList.map λi=>vs.getD i Value.none)) c) dB;have hn:s.heap.get? D=none:=by
  cases q:s.heap.get? D with
  | none=>rfl
  | some o=>exact absurd (lt (D,o) (Fj.mpr ⟨hD.2.1,q⟩)) (cZ _)
 exact kq _ h'' s.toks U G' (.lst (aB hz) ⟨c,hD.1⟩ (I.new hn) ((Nf r _).on G'.on))
theorem Jr(hr:Z.Room)(I:Z.I s.heap U J){L:Addr}{m:Str->Option Value}(hL:s.heap.Ns L m)(hf:L∈Z.fr){l:Addr}{k:Nat}{xs:List AV}(e1:U[k]?=some l)(e2:J[k]?=some (.lst xs)) :
 At Z VR (Mf k xs .sort []) (call (.builtin "list.sort") [.ref l]) s U J:=by
 refine .opt λys e=>.grd λhz=>?_;obtain ⟨h2,h64,kk,p,hk,hp,rfl⟩:=Ro e;obtain ⟨z,vs,i,r⟩:=I.list e1 e2;have hl:=r.length;obtain ⟨n,i'⟩:=i;have hlf:l∉Z.fr:=λq=>(I.frs l q).1 (aO e1);have hlL:l≠L:=λq=>hlf (q▸hf);intro r' J' he Q E kq;refine spE he λcc1 cc2=>?_;clear he;subst cc1;subst cc2
 let news:=(Wl s.heap L).filter λq=>decide (q.1≠l)
 have memN:∀ {b o},(b,o)∈news↔(b≠L/\s.heap.get? b=some o)/\b≠l:=by
  intro b o;show (b,o)∈(Wl s.heap L).filter _↔_;rw [cM,Fj];simp
 have N0:News e0 L s.heap news:=λq hq=>Ue q (cM.mp hq).1;have stand:∀ {h':Heap} {o:Obj},Fr e0 L h' m->News e0 L h' ((l,o)::news)->(∀ b o,b≠l->b∉Z.fr->s.heap.get? b=some o->h'.get? b=some o)/\(∀ a∈Z.fr,Hg s.heap h' a)/\h'.get? l=some o:=λ{h' o} F N=>by
  refine⟨λb ob hb hn e=>(N (b,ob) (cH _ (memN.mpr ⟨⟨λq=>hn (q▸hf),e⟩,hb⟩))).1,λa ha=>?_,(N _ dB).1⟩;by_cases q:a=L
  . subst q;exact Mw hL F
  . exact .of λob e=>(N (a,ob) (cH _ (memN.mpr ⟨⟨q,e⟩,λz=>hlf (z▸ha)⟩))).1
 refine wpAny_call_entry PySem.F.slot_list_sort ⟨_,i',rfl⟩ PySem.F.entry_list_sort ?_ (PySem.F.args_list_sort_1 _);refine kat_list_sort (h₀:=e0) (fr0 hL) N0 i' hlL (Qv _) (λq hq=>(memN.mp (show (q.1,q.2)∈news from hq)).2) (by exact lec (fk [xs.length,vs.length] [(1,(.n 2),(.v 0)),(1,(.v 0),(.v 1)),(1,(.a (.v 1) (.n 1)),(.n 2))] rfl h2 (aD (Eq.symm hl)))) (by exact ltc (fk [xs.length,vs.length] [(1,(.a (.v 0) (.n 1)),(.n 64)),(1,(.v 1),(.v 0)),(1,(.n 64),(.v 1))] rfl h64 (aD hl))) λep h' F' N'=>?_;refine e03 (stand F' N') λk1 k2 k3=>?_;have hV:Z.V U J l:=.inl ⟨k,_,e1,e2,rfl⟩;have x:OnV Z.fr s.heap U J h' U J:=⟨λb o nb e=>k1 b o (λq=>nb (q▸hV)) (λq=>nb (.inr q)) e,λ_ h=>.inl h,dC⟩;have R':=r.on x;refine Rn kk R' hk (by exact ltc (fk [xs.length,vs.length] [(1,(.n 2),(.v 0)),(1,(.v 0),(.v 1)),(1,(.v 1),(.n 0))] rfl h2 (aD (Eq.symm hl)))) ?_;have hu:Z.A.in1.units+dp<cLine:=by have:=hr.1;show Z.A.units+1+8<cLine;exact ltc (fk [Z.A.units,cLine] [(1,(.a (.a (.v 0) (.n 40)) (.n 1)),(.v 1)),(1,(.v 1),(.a (.a (.v 0) (.n 1)) (.n 8)))] rfl this)
 rw [hl];refine Rh (cmp:=λi j=>ltA dp (xs.getD i .none) (xs.getD j .none)) (λi j c C hc hq=>Xa hu kk R' hk hc hq) _ hp ?_;refine KasFin.intro F' N' (.head λq hq=>(memN.mp (show (q.1,q.2)∈news from hq)).2) λh'' c F'' N''=>?_;refine e03 (stand F'' N'') λk4 k5 k6=>?_;have G:=I.turn (h':=h'') (ao':=.lst (p.toList.map λi=>xs.getD i .none)) e1 e2 rfl (λb o hb hn e=>k4 b o hb hn e) k5 ⟨_,k6⟩ λx=>⟨aB hz,_,⟨c,k6⟩,(Nf r _).on x⟩;exact⟨_,rfl,kq _ h'' s.toks U G .none⟩
end
noncomputable def Js:List (Str×Value):=[(Str.ofString "key",.none)]
theorem Ox(a:Addr):Builtin.«list.sort» ⟨[.ref a],Js⟩=Builtin.«list.sort» ⟨[.ref a],[]⟩:=by rfl
theorem Mb(a:Value):argsOk "sorted" ⟨[a],Js⟩:=by unfold argsOk;kernel_rfl
theorem Oy(a:Value):argsOk "list.sort" ⟨[a],Js⟩:=by unfold argsOk;kernel_rfl
section
variable{Z:Zt}{s:Shared}{U:List Addr}{J J':Sto}{v w:Value}{a b:AV}
theorem Oz(hr:Z.Room)(I:Z.I s.heap U J){L:Addr}{m:Str->Option Value}(hL:s.heap.Ns L m)(hf:L∈Z.fr){l:Addr}{vs:List Value}{xs:List AV}(i:LX s.heap l vs)(r:Ab s.heap (Z.V U J) U vs xs) :
 At Z VR ((M.ofOpt (Cy xs)).bnd λys=>.grd (decide (ys.length<lim)) (.ret (.lst ys))) (call (.builtin "sorted") [.ref l] Js) s U J:=by
 refine .opt λys e=>.grd λhz=>.of λQ E kq=>?_;obtain ⟨h2,h64,k,p,hk,hp,rfl⟩:=Ro e;have hl:=r.length;have hLs:L<s.heap.objs.size:=hL.lt;refine call_function_entry_kw kind_sorted plain_sorted entry_sorted (Mb _) ?_;unfold Builtin.«sorted»;refine aA (m:=checkCount "sorted" 1 1 _) (aH ?_);refine aA (collect_list i.isList ?_ (by rw [sizeLine_eq];exact lec (fk [xs.length,vs.length] [(1,(.a (.v 0) (.n 1)),(.n 64)),(1,(.v 1),(.v 0)),(1,(.a (.n 16777216) (.n 1)),(.v 1))] rfl h64 (aD hl))));refine aA (wpAny_newList ?_ (by rw [sizeLine_eq];exact lec (fk [xs.length,vs.length] [(1,(.a (.v 0) (.n 1)),(.n 64)),(1,(.v 1),(.v 0)),(1,(.a (.n 16777216) (.n 1)),(.v 1))] rfl h64 (aD hl))));dsimp only;generalize hH:((s.heap.push (seqObj "list" #[] 0)).update s.heap.objs.size (Obj.mapSeq (·++vs.toArray))).push (seqObj "list" vs.toArray 0)=H;have hsz:((s.heap.push (seqObj "list" #[] 0)).update s.heap.objs.size (Obj.mapSeq (·++vs.toArray))).objs.size=s.heap.objs.size+1:=by
  rw [Heap.size_update,size_push']
 have hD:H.get? (s.heap.objs.size+1)=some (seqObj "list" vs.toArray 0):=by
  rw [<- hH,<- hsz];exact aS _ rfl
 have keep:∀ b o,s.heap.get? b=some o->H.get? b=some o:=λb o q=>by
  have hlt:=cR q;rw [<- hH,Heap.get?_push_ne _ _ _ (by rw [hsz];exact aW (Nat.lt_succ_of_lt hlt)),Heap.get?_update_ne _ _ _ _ (aW hlt),Heap.get?_push_ne _ _ _ (aW hlt)];exact q
 have hnone:s.heap.get? (s.heap.objs.size+1)=none:=cG (Nat.le_succ _);have G0:=I.keep keep;have F0:Fr e0 L H m:=(fr0 hL).kept keep;have N0:News e0 L H (Wl s.heap L):=Ue.grown keep;have hsz':((s.heap.push { cls:=.type "list",data:=.seq #[]}).update s.heap.objs.size (Obj.mapSeq (·++vs.toArray))).objs.size=s.heap.objs.size+1:=hsz;simp only [hsz,hsz'];refine aA (cQ (wpAny_call_entry_kw slot_list_sort ⟨_,hD,rfl⟩ entry_list_sort ?body (Oy _)))
 case body=>
  rw [Ox];refine kat_list_sort (s:={ s with heap:=H}) (h₀:=e0) F0 N0 hD (bT (Nat.lt_succ_of_lt hLs)) (Qv _) (λq hq=>aW (Nat.lt_succ_of_lt (cR (Ue (L:=L) q hq).1))) (by exact lec (fk [xs.length,vs.length] [(1,(.n 2),(.v 0)),(1,(.v 0),(.v 1)),(1,(.a (.v 1) (.n 1)),(.n 2))] rfl h2 (aD (Eq.symm hl)))) (by exact ltc (fk [xs.length,vs.length] [(1,(.a (.v 0) (.n 1)),(.n 64)),(1,(.v 1),(.v 0)),(1,(.n 64),(.v 1))] rfl h64 (aD hl))) λe1 h' F' N'=>?_;obtain ⟨k1,k2⟩:=Qw hL hf F' λq hq=>(N' q (cH _ hq)).1;have G:=I.grow (h':=h') k1 k2;have R':=r.on G.on;refine Rn k R' hk (by exact ltc (fk [xs.length,vs.length] [(1,(.n 2),(.v 0)),(1,(.v 0),(.v 1)),(1,(.v 1),(.n 0))] rfl h2 (aD (Eq.symm hl)))) ?_;have hu:Z.A.in1.in1.units+dp<cLine:=by have:=hr.1;show Z.A.units+1+1+8<cLine;exact ltc (fk [Z.A.units,cLine] [(1,(.a (.a (.v 0) (.n 40)) (.n 1)),(.v 1)),(1,(.v 1),(.a (.a (.a (.v 0) (.n 1)) (.n 1)) (.n 8)))] rfl this)
  rw [hl];refine Rh (cmp:=λi j=>ltA dp (xs.getD i .none) (xs.getD j .none)) (λi j c C hc hq=>Xa hu k R' hk hc hq) _ hp ?_;refine KasFin.intro F' N' (.head λq hq=>aW (Nat.lt_succ_of_lt (cR (Ue (L:=L) q hq).1))) λh'' c F'' N''=>?_;obtain ⟨k3,k4⟩:=Qw hL hf F'' λq hq=>(N'' q (cH _ hq)).1;have G':=I.grow (h':=h'') k3 k4;have hD':=N'' (s.heap.objs.size+1,listOf (List.toArray (p.toList.map λi=>vs.getD i Value.none)) c) dB;exact⟨_,rfl,aH ⟨_,rfl,kq _ h'' s.toks U G' (.lst (aB hz) ⟨c,hD'.1⟩ (I.new hnone) ((Nf r _).on G'.on))⟩⟩
end
end Ik.Internal
namespace Ik.Internal
open PySem PySem.Calls PyProof.Rows PySem.W PySem.SeqAt PySem.Builtin
noncomputable def Lp:Str:=⟨#[108,97,116,105,110,45,49]⟩
theorem Xb{id:String}{b:Array UInt8}:_codecs.decodeRoad id b Lp none []=(_codecs.runDecoder id _codecs.latin1Decoder none true b 0 [] >>= λr=>mkStr ⟨r.1⟩):=by kernel_rfl
theorem Xc{S:Type}{b:Array UInt8}{f:Nat->(Nat×Array Nat×S)->Sem (ForInStep (Nat×Array Nat×S))}{st:S}(hb:b.size<=sizeLine)
 (hf:∀ x p (out:Array Nat),out.size<=sizeLine->p<b.size->f x (p,out,st)=pure (.yield (p+1,out++[(b.getD p 0).toNat].toArray,st))) :
 ∀ (k i:Nat) (out:Array Nat),i+k=b.size->out.size=i->forIn (List.range' i k 1) (i,out,st) f=pure (b.size,out++((b.toList.drop i).map (·.toNat)).toArray,st):=by
 intro k
 induction k with
 | zero=>
  intro i out h ho;have hi:i=b.size:=h;subst hi;rw [dD (aD dW),List.range'_zero,List.forIn_nil];exact aJ (λz:Array Nat=>pure (b.size,z,st)) Array.append_empty.symm
 | succ k ih=>
  intro i out h ho;have hi:i<b.size:=h▸Nat.lt_add_of_pos_right (Nat.succ_pos k);rw [List.range'_succ,List.forIn_cons,hf i i out (ho▸bA (cT hi) hb) hi,pure_bind];show forIn (List.range' (i+1) k 1) (i+1,out++[(b.getD i 0).toNat].toArray,st) f=_;rw [ih (i+1) _ ((Nat.succ_add_eq_add_succ i k).trans h) (by rw [Array.size_append,ho];rfl)];have hd:b.toList.drop i=b[i]::b.toList.drop (i+1):=by
   rw [dX (by rw [dW];exact hi)];simp
  rw [hd];have hg:b.getD i 0=b[i]:=by simp [Array.getD,hi]
  rw [hg];simp [Array.append_assoc]
theorem Acu{id:String}(b:Array UInt8)(hb:b.size<=sizeLine):_codecs.runDecoder id _codecs.latin1Decoder none true b 0 []=pure ((b.toList.map (·.toNat)).toArray,b.size):=by
 unfold _codecs.runDecoder;dsimp only;rw [KPc.range_list];rw [Xc (st:=({}:_codecs.Faults)) hb (λx p out ho hp=>by
  rw [if_neg (bQ.mpr ho),if_neg (Nat.not_le.mpr hp)];rfl) b.size 0 #[] (by omega) rfl,pure_bind]
 simp
theorem Us{c:UInt8}{cs:List UInt8}{t u:Tok}:«bytes.decode» ⟨[.bytes (c::cs).toArray t,.str Lp u],[]⟩=(mkStr (PySem.Str.ofString "utf-8") >>= λ_=>mkStr Lp >>= λe=>mkStr (PySem.Str.ofString "bytes.decode") >>= λd=>
 call (.builtin "_codecs.decode.text") [.bytes (c::cs).toArray t,e,.none,d] >>= λv=>ret v):=by kernel_rfl
theorem Rp{t u:Tok}:«bytes.decode» ⟨[.bytes #[] t,.str Lp u],[]⟩=(rule "bytes.decode.empty" >>= λ_=>retStr PySem.Str.empty):=by kernel_rfl
theorem Il(a b:Value):argsOk "bytes.decode" ⟨[a,b],[]⟩:=by
 unfold argsOk;rw [signature?_of (id:="bytes.decode") (n:=['e','d','o','c','e','d']) (o:=['s','e','t','y','b']) (by kernel_rfl) FB.owner_bytes];kernel_rfl
section
variable{Z:Zt}{s:Shared}{U:List Addr}{J J':Sto}{v w:Value}{a b:AV}
theorem Xd{b:Array UInt8}{t t1 t2:Tok}{d:PySem.Str}(hb:b.size<=sizeLine) :
 Meets («_codecs.decode.text» ⟨[.bytes b t,.str Lp t1,.none,.str d t2],[]⟩) (λ_ R s=>R (.ok (.ret (.str ⟨(b.toList.map (·.toNat)).toArray⟩ s.toks))) { s with toks:=s.toks+1}):=by
 refine .of_wp λprog w A R s h=>?_;show wpAny _ _ (Bytes.bytesLike _ (.bytes b t) >>= λr=>_) _ _ s;refine aA (bR KBd.like_eq ?_);refine aA (bR KBd.held_eq ?_);show wpAny _ _ (_codecs.decodeRoad _ b Lp none [] >>= λv=>_) _ _ s;rw [Xb,Acu b hb];refine aA (aA (aH ?_));exact wpAny_mkStr (aH ⟨_,rfl,h⟩) (by show (List.toArray _).size<=_;simp;exact hb)
theorem Acv(I:Z.I s.heap U J){b:Array UInt8}{t u:Tok}(hb:b.size<lim):At Z VR (M.ret (mk (b.toList.map (·.toNat)))) (call (.builtin "bytes.decode") [.bytes b t,.str Lp u]) s U J:=by
 have hz:=(Bq hb).2.1;refine .of λQ E k=>?_;have hlen:(⟨(b.toList.map (·.toNat)).toArray⟩:PySem.Str).length<lim:=by show (List.toArray _).size<_;simp;exact hb
 obtain ⟨l⟩:=b
 induction l using List.casesOn with
 | nil=>
  refine call_meets (S:=λ_ R s=>R (.ok (.ret (.str PySem.Str.empty s.toks))) { s with toks:=s.toks+1}) FB.slot_bytes_decode (PySem.W.typeIs_bytes _ _ _) FB.entry_bytes_decode (Il _ _) (.of_wp λprog w A R s h=>?_) ?_
  . rw [Rp];exact aA (wpAny_rule (aA (wpAny_mkStr (aH ⟨_,rfl,h⟩) (by decide))))
  . exact k.now I (VRel.str _ _ hlen) _
 | cons c cs=>
  refine call_meets (S:=λ_ R s=>∀ (k tk:Nat),R (.ok (.ret (.str ⟨((c::cs).map (·.toNat)).toArray⟩ k))) { s with toks:=tk}) FB.slot_bytes_decode (PySem.W.typeIs_bytes _ _ _) FB.entry_bytes_decode (Il _ _) (.of_wp λprog w A R s h=>?_) λ_ _=>?_
  . rw [Us];refine aA (wpAny_mkStr ?_ (by decide));refine aA (wpAny_mkStr ?_ (by decide));refine aA (wpAny_mkStr ?_ (by decide));exact aA (call_function_meets KBd.kind_text KBd.plain_text KBd.entry_text (KBd.args_text _ _ _ _) (Xd hz) (aH ⟨_,rfl,h _ _⟩))
  . exact k.now I (VRel.str _ _ hlen) _
end
theorem Xe{b:Addr}{n k:Int}{tn tk t:Tok}(h0:0<=n)(h1:n<10 ^ 10)(h2:0<=k)(h3:k<10 ^ 10) :
 Meets («str.__mod__» ⟨[.str ⟨#[101,120,112,101,99,116,101,100,32,37,100,32,98,121,116,101,115,32,105,110,32,97,32,115,116,114,105,110,103,49,44,32,98,117,116,32,111,110,108,121,32,37,100,32,114,101,109,97,105,110]⟩ t,.ref b],[]⟩) (λ_ R s=>IsTup s.heap b #[.int n tn,.int k tk]/\∀ t' k',R (.ok (.ret (.str (Str.ofString "expected "++Str.ofString (toString n)++Str.ofString " bytes in a string1, but only "++Str.ofString (toString k)++Str.ofString " remain") t'))) { s with toks:=k'}):=by
 apply KPt.meets_tup;intro _ _ _ _ _ _ kptH _;obtain ⟨kptO,kptG,kptC,kptN,kptD⟩:=kptH;rw [KPt.entry_is_r];unfold Builtin.Str.percentFormat;refine aA (wpAny_isInstance (T:="tuple") ⟨kptO,kptG,kptC⟩ KPt.sub_tt ?_);refine aA (KPt.asStr_ref kptG kptD ?_);refine aA (KPt.fills_ref ⟨kptO,kptG,kptC⟩ ?_);intro _
 kpc_if
 refine aA (dM kptG kptD ?_);refine aA (aH ?_);refine aA ?_;rw [KPc.range_list];refine KPc.start ?_;intro _ _;refine KPc.turn ?_;kpc_check;refine bR (a:=.yield (_,_,_)) rfl ?_
 kpt_piece
 refine KPc.turn ?_;kpc_check;show wpAny _ _ (_ >>= _) _ _ _;refine aA (cQ ?_);show wpAny _ _ (_ >>= _) _ _ _;refine aA (bR (a:=_) rfl ?_);show wpAny _ _ (mkInt _ >>= _) _ _ _;refine aA (wpAny_mkInt ?_);refine aA (call_gives PySem.F.slot_int_repr (typeIs_int _ _ _) PySem.F.entry_int_repr (PySem.F.args_int_repr_1 _) (gives_int_repr _ _ (KPt.hd2 (by kpt_hd))) ⟨int_text_fits (KPt.hd2 (by kpt_hd)),?_⟩);refine aA (bR (a:=some _) rfl ?_);refine aH (aH ?_)
 kpt_piece
 refine KPc.turn ?_;kpc_check;refine bR (a:=.yield (_,_,_)) rfl ?_
 kpt_piece
 refine KPc.turn ?_;kpc_check;show wpAny _ _ (_ >>= _) _ _ _;refine aA (cQ ?_);show wpAny _ _ (_ >>= _) _ _ _;refine aA (bR (a:=_) rfl ?_);show wpAny _ _ (mkInt _ >>= _) _ _ _;refine aA (wpAny_mkInt ?_);refine aA (call_gives PySem.F.slot_int_repr (typeIs_int _ _ _) PySem.F.entry_int_repr (PySem.F.args_int_repr_1 _) (gives_int_repr _ _ (KPt.hd2 (by kpt_hd))) ⟨int_text_fits (KPt.hd2 (by kpt_hd)),?_⟩);refine aA (bR (a:=some _) rfl ?_);refine aH (aH ?_)
 kpt_piece
 refine KPc.turn ?_;kpc_check;refine bR (a:=.yield (_,_,_)) rfl ?_
 kpt_piece
 refine KPc.turn ?_;kpc_check
 kpc_if;kpc_close
theorem Xf{b:Addr}{n k:Int}{tn tk t:Tok}(h0:0<=n)(h1:n<10 ^ 10)(h2:0<=k)(h3:k<10 ^ 10) :
 Meets («str.__mod__» ⟨[.str ⟨#[101,120,112,101,99,116,101,100,32,37,100,32,98,121,116,101,115,32,105,110,32,97,32,98,121,116,101,115,49,44,32,98,117,116,32,111,110,108,121,32,37,100,32,114,101,109,97,105,110]⟩ t,.ref b],[]⟩) (λ_ R s=>IsTup s.heap b #[.int n tn,.int k tk]/\∀ t' k',R (.ok (.ret (.str (Str.ofString "expected "++Str.ofString (toString n)++Str.ofString " bytes in a bytes1, but only "++Str.ofString (toString k)++Str.ofString " remain") t'))) { s with toks:=k'}):=by
 apply KPt.meets_tup;intro _ _ _ _ _ _ kptH _;obtain ⟨kptO,kptG,kptC,kptN,kptD⟩:=kptH;rw [KPt.entry_is_r];unfold Builtin.Str.percentFormat;refine aA (wpAny_isInstance (T:="tuple") ⟨kptO,kptG,kptC⟩ KPt.sub_tt ?_);refine aA (KPt.asStr_ref kptG kptD ?_);refine aA (KPt.fills_ref ⟨kptO,kptG,kptC⟩ ?_);intro _
 kpc_if
 refine aA (dM kptG kptD ?_);refine aA (aH ?_);refine aA ?_;rw [KPc.range_list];refine KPc.start ?_;intro _ _;refine KPc.turn ?_;kpc_check;refine bR (a:=.yield (_,_,_)) rfl ?_
 kpt_piece
 refine KPc.turn ?_;kpc_check;show wpAny _ _ (_ >>= _) _ _ _;refine aA (cQ ?_);show wpAny _ _ (_ >>= _) _ _ _;refine aA (bR (a:=_) rfl ?_);show wpAny _ _ (mkInt _ >>= _) _ _ _;refine aA (wpAny_mkInt ?_);refine aA (call_gives PySem.F.slot_int_repr (typeIs_int _ _ _) PySem.F.entry_int_repr (PySem.F.args_int_repr_1 _) (gives_int_repr _ _ (KPt.hd2 (by kpt_hd))) ⟨int_text_fits (KPt.hd2 (by kpt_hd)),?_⟩);refine aA (bR (a:=some _) rfl ?_);refine aH (aH ?_)
 kpt_piece
 refine KPc.turn ?_;kpc_check;refine bR (a:=.yield (_,_,_)) rfl ?_
 kpt_piece
 refine KPc.turn ?_;kpc_check;show wpAny _ _ (_ >>= _) _ _ _;refine aA (cQ ?_);show wpAny _ _ (_ >>= _) _ _ _;refine aA (bR (a:=_) rfl ?_);show wpAny _ _ (mkInt _ >>= _) _ _ _;refine aA (wpAny_mkInt ?_);refine aA (call_gives PySem.F.slot_int_repr (typeIs_int _ _ _) PySem.F.entry_int_repr (PySem.F.args_int_repr_1 _) (gives_int_repr _ _ (KPt.hd2 (by kpt_hd))) ⟨int_text_fits (KPt.hd2 (by kpt_hd)),?_⟩);refine aA (bR (a:=some _) rfl ?_);refine aH (aH ?_)
 kpt_piece
 refine KPc.turn ?_;kpc_check;refine bR (a:=.yield (_,_,_)) rfl ?_
 kpt_piece
 refine KPc.turn ?_;kpc_check
 kpc_if;kpc_close
section
variable{Z:Zt}{s:Shared}{U:List Addr}{J J':Sto}{v w:Value}{a b:AV}
theorem Dt(x y:Str):(x++y).length=x.length+y.length:=by
 unfold Str.length;rw [Str.cps_append];simp
theorem Alk{x r:Str}{n k:Int}(hn:0<=n/\n<1000/\0<=k/\k<1000)(e:Ip x n k=some r):r.length<lim:=by
 have l1:=toString_length_le hn.1 (k:=3) (by decide) (by omega);have l2:=toString_length_le hn.2.2.1 (k:=3) (by decide) (by omega);unfold Ip at e;split at e
 . refine snE e λcc1=>?_;clear e;subst cc1;rw [Dt,Dt,Dt,Dt];have c1:(Str.ofString "expected ").length=9:=by decide +kernel
   have c2:(Str.ofString " bytes in a string1, but only ").length=30:=by decide +kernel
   have c3:(Str.ofString " remain").length=7:=by decide +kernel
   rw [c1,c2,c3];unfold lim;exact ltc (fk [(Str.ofString (toString n)).length,(Str.ofString (toString k)).length] [(1,(.v 0),(.n 3)),(1,(.v 1),(.n 3)),(1,(.n 100000),(.a (.a (.a (.a (.n 9) (.v 0)) (.n 30)) (.v 1)) (.n 7)))] rfl l1 l2)
 . split at e
   . refine snE e λcc1=>?_;clear e;subst cc1;rw [Dt,Dt,Dt,Dt];have c1:(Str.ofString "expected ").length=9:=by decide +kernel
     have c2:(Str.ofString " bytes in a bytes1, but only ").length=29:=by decide +kernel
     have c3:(Str.ofString " remain").length=7:=by decide +kernel
     rw [c1,c2,c3];unfold lim;exact ltc (fk [(Str.ofString (toString n)).length,(Str.ofString (toString k)).length] [(1,(.v 0),(.n 3)),(1,(.v 1),(.n 3)),(1,(.n 100000),(.a (.a (.a (.a (.n 9) (.v 0)) (.n 29)) (.v 1)) (.n 7)))] rfl l1 l2)
   . exact nns e
theorem Arb(I:Z.I s.heap U J){x r:Str}{t:Tok}{l:Addr}{n k:Int}{tn tk:Tok}(hx:TX s.heap l [.int n tn,.int k tk])(hn:0<=n/\n<1000/\0<=k/\k<1000)(e:Ip x n k=some r){Q E:Value->Shared->Prop}(kq:OkR Z VR U J (.str r) J Q s) :
 wpAny Z.M Z.A (binaryOp .Mod (.str x t) (.ref l)) Q E s:=by
 have hlen:=Alk hn e;have ht:=hx.isTup;have hT:s.TypeIs (.ref l) "tuple":=by refine e13 ht λo ho hc _=>?_;clear ht;exact⟨o,ho,hc⟩
 have fin:∀ t' tk,Q (.str r t') { s with toks:=tk}:=λt' tk=>kq.now I (VRel.str _ _ hlen) _;unfold Ip at e;split at e
 . rename_i hx';subst hx';refine snE e λcc1=>?_;clear e;subst cc1;exact KPt.bin_left (T:="str") (U:="tuple") (op:=.Mod) (by decide) (typeIs_str s _ t) hT PySem.F.fills_str_mod KPt.fills_tuple PySem.F.slot_str_mod
    (call_meets PySem.F.slot_str_mod (typeIs_str s _ t) PySem.F.entry_str_mod (PySem.F.args_str_mod_2 _ _) (Xe hn.1 (by omega) hn.2.2.1 (by omega)) ⟨ht,λt' k=>⟨(λe=>nomatch e),fin t' k⟩⟩)
 . split at e
   . rename_i hx';subst hx';refine snE e λcc1=>?_;clear e;subst cc1;exact KPt.bin_left (T:="str") (U:="tuple") (op:=.Mod) (by decide) (typeIs_str s _ t) hT PySem.F.fills_str_mod KPt.fills_tuple PySem.F.slot_str_mod
      (call_meets PySem.F.slot_str_mod (typeIs_str s _ t) PySem.F.entry_str_mod (PySem.F.args_str_mod_2 _ _) (Xf hn.1 (by omega) hn.2.2.1 (by omega)) ⟨ht,λt' k=>⟨(λe=>nomatch e),fin t' k⟩⟩)
   . exact nns e
theorem Xg(I:Z.I s.heap U J){l:Addr}{vs:List Value}{xs:List AV}(i:LX s.heap l vs)(r:Ab s.heap (Z.V U J) U vs xs){y:Int}{u:Tok}:At Z VR (Iq .mul (.lst xs) (.int y)) (binaryOp .Mult (.ref l) (.int y u)) s U J:=by
 refine .grd λhc=>.of λQ E k=>?_;refine e03 (aB hc) λh1 h2 h3=>?_;have hl:=r.length;refine e11 (id i) λn i'=>?_;have hsz':vs.toArray.size*y.toNat<=256:=by simp [hl,h1];omega
 refine wpAny_binaryOp_repeat_ref (T:="list") (U:="int") (by decide) ⟨_,i',rfl⟩ (λs'=>typeIs_int s' y u) noFill_list_mul PySem.F.fills_int_mul PySem.F.slot_int_rmul repeat_list PySem.F.slot_int_index.lookup
  (call_meets PySem.F.slot_int_rmul (typeIs_int s y u) PySem.F.entry_int_rmul (PySem.F.args_int_rmul_2 _ _) (lm_int_rmul_list_any y u l vs.toArray n none #[])
   ⟨i',rfl,⟨_,i',rfl⟩,call_meets PySem.F.slot_list_mul ⟨_,i',rfl⟩ PySem.F.entry_list_mul (PySem.F.args_list_mul_2 _ _)
    (lm_list_mul_any l vs.toArray n none #[] y u (by simp [Builtin.List.listFitsIndex];omega) (by omega) (by simp [Builtin.List.listTooLong,sizeLine];simp at hsz';exact lec (fk [vs.length*y.toNat] [(1,(.v 0),(.n 256)),(1,(.a (.n 16777216) (.n 1)),(.v 0))] rfl hsz')))
    ⟨i',?_⟩⟩)
 rw [listMul_foldl_if];have rr:Ab s.heap (Z.V U J) U (List.replicate y.toNat vs).flatten (Qh xs y):=by
  unfold Qh;generalize y.toNat=m
  induction m with
  | zero=>exact .nil
  | succ m ih=>rw [List.replicate_succ,List.replicate_succ,List.flatten_cons,List.flatten_cons];exact r.append ih
 exact k.pushL (tk:=s.toks) I rr (by unfold Qh;simp [List.length_flatten,h1,lim];omega)
theorem Ky(I:Z.I s.heap U J)(R:VRel s.heap (Z.V U J) U v a)(R':VRel s.heap (Z.V U J) U w b):At Z VR (Vy a b) (binaryOp .Add v w) s U J:=by
 induction a using AV.casesOn with
 | int x=>induction b using AV.casesOn with
  | int y=>refine e11 R.inv λt zz=>?_;clear R;subst zz;refine e11 (R'.inv) λu zz=>?_;clear R';subst zz;exact Df (op:=.add) I
  | _=>exact .fail
 | str x=>induction b using AV.casesOn with
  | str y=>refine e12 R.inv λt z zz=>?_;clear R;subst zz;refine e12 (R'.inv) λu z' zz=>?_;clear R';subst zz;exact Wm I
  | _=>exact .fail
 | lst xs=>induction b using AV.casesOn with
  | lst ys=>exact Wo I R R'
  | _=>exact .fail
 | _=>exact .fail
theorem Arc(I:Z.I s.heap U J)(R:VRel s.heap (Z.V U J) U v a)(R':VRel s.heap (Z.V U J) U w b):At Z VR (Aeh a b) (binaryOp .Mult v w) s U J:=by
 induction b using AV.casesOn with
 | int y=>
  refine e11 (R'.inv) λu zz=>?_;clear R';subst zz
  induction a using AV.casesOn with
  | int x=>refine e11 R.inv λt zz=>?_;clear R;subst zz;exact Df (op:=.mul) I
  | str x=>refine e12 R.inv λt z zz=>?_;clear R;subst zz;exact Wn I
  | lst xs=>refine e25 R.inv λl vs z i n r zz=>?_;clear R;subst zz;exact Xg I i r
  | _=>exact .fail
 | _=>exact .fail
theorem Ard(I:Z.I s.heap U J)(R:VRel s.heap (Z.V U J) U v a)(R':VRel s.heap (Z.V U J) U w b):At Z VR (Aei a b) (binaryOp .Mod v w) s U J:=by
 induction a using AV.casesOn with
 | int x=>induction b using AV.casesOn with
  | int y=>refine e11 R.inv λt zz=>?_;clear R;subst zz;refine e11 (R'.inv) λu zz=>?_;clear R';subst zz;exact Df (op:=.mod) I
  | _=>exact .fail
 | str x=>
  refine e12 R.inv λt z zz=>?_;clear R;subst zz;exact Aah R' λl vs xs hl z' hx n r=>hl▸Kt r λv1 v2 a1 a2 e r1 r2=>Ef r1 r2 λi j t1 u1 h1 h2=>.grd λhc=>.opt λrr hr=>.of λQ E kq=>
   Arb I (by rw [e,h1,h2] at hx;exact hx) (aB hc) hr kq
 | _=>exact .fail
theorem Are(I:Z.I s.heap U J)(op:Bin)(R:VRel s.heap (Z.V U J) U v a)(R':VRel s.heap (Z.V U J) U w b):At Z VR (Iq op a b) (binaryOp (Akm op) v w) s U J:=by
 induction op using Bin.casesOn with
 | add=>exact Ky I R R'
 | mul=>exact Arc I R R'
 | mod=>exact Ard I R R'
 | sub=>exact Ef R R' λi j t u h1 h2=>h1▸h2▸Df (op:=.sub) I
 | fdiv=>exact Ef R R' λi j t u h1 h2=>h1▸h2▸Df (op:=.fdiv) I
 | shr=>exact Ef R R' λi j t u h1 h2=>h1▸h2▸Df (op:=.shr) I
theorem All(I:Z.I s.heap U J)(R:VRel s.heap (Z.V U J) U v a)(R':VRel s.heap (Z.V U J) U w b):At Z VR (Vz .add a b) (inplaceOp .Add v w) s U J:=by
 induction a using AV.casesOn with
 | int x=>induction b using AV.casesOn with
  | int y=>refine e11 R.inv λt zz=>?_;clear R;subst zz;refine e11 (R'.inv) λu zz=>?_;clear R';subst zz;exact At.of (a:=AV.int _) λQ E k=>wpAny_iadd_int (k.now I (VRel.int _ _) _)
  | _=>exact .fail
 | str x=>induction b using AV.casesOn with
  | str y=>refine e12 R.inv λt z zz=>?_;clear R;subst zz;refine e12 (R'.inv) λu z' zz=>?_;clear R';subst zz;exact Uf I
  | _=>exact .fail
 | _=>exact .fail
theorem Arf(I:Z.I s.heap U J)(op:Bin)(R:VRel s.heap (Z.V U J) U v a)(R':VRel s.heap (Z.V U J) U w b):At Z VR (Vz op a b) (inplaceOp (Akm op) v w) s U J:=by
 induction op using Bin.casesOn with
 | add=>exact All I R R'
 | fdiv=>
  refine Ef R R' λi j t u h1 h2=>h1▸h2▸.grd λhc=>.of λQ E k=>?_;have hc:=aB hc;refine PyProof.Rows.ifloordiv_int (by omega) ?_ (.inl (PyProof.noPylong_small (by omega)));rw [Int.fdiv_eq_ediv_of_nonneg _ (by omega)];exact k.now I (.int _ _) _
 | _=>exact .fail
end
noncomputable def Zt.Sys(Z:Zt):Prop:=∃ o,Z.g.get? sysModules=some o
section
variable{Z:Zt}{s:Shared}{U:List Addr}{J J':Sto}{v w:Value}{a b:AV}
theorem Arg(hs:Z.Sys)(I:Z.I s.heap U J){k:Nat}{d:Addr}{ob:Al}{es:List (Str×AV)}(hd:ob=.dict es\/ob=.fdict es)(e1:U[k]?=some d)(e2:J[k]?=some ob){x:Str}{t:Tok}{dv:Value}{da:AV}(rd:VRel s.heap (Z.V U J) U dv da) :
 At Z VR (M.ret ((Be es x).getD da)) (call (.builtin "dict.get") [.ref d,.str x t,dv]) s U J:=by
 refine e22 (I.dict hd e1 e2) λvs ep D R=>?_;have lo:=Ayh hs I e1;refine .of λQ E k=>call_meetsIn PySem.F.slot_dict_get D.dictOf.typeIs PySem.F.entry_dict_get (PySem.F.args_dict_get_3 _ _ _) (meets_dict_get_default (PySem.strKind Z.prog Z.w) d (strKind_is Z.prog Z.w x t) lo dv) ⟨_,D.dictOf.mapOf,?_⟩
 cases h:Be es x with
 | none=>
  rw [h] at k;rw [Acc (kvs:=[]) h];exact k.now I rd _
 | some r=>
  rw [h] at k;refine e12 (Aad (kvs:=[]) R h) λv hv rv=>?_;rw [hv];exact k.now I rv _
theorem Acw{m:ME}(h:Wc m=true):m=.join:=by cases m <;> first | rfl | exact nft h
theorem Avm(hr:Z.Room)(hs:Z.Sys)(I:Z.I s.heap U J){L:Addr}{m:Str->Option Value}(hL:s.heap.Ns L m)(hf:L∈Z.fr)(mm:ME)(R:VRel s.heap (Z.V U J) U v a)(hn:Kx a=false){vs:List Value}{xs:List AV}(Rs:Ab s.heap (Z.V U J) U vs xs) :
 At Z VR (methA a mm xs) (call (.builtin (Aqv a mm)) (v::vs)) s U J:=by
 intro q J' e Q E an;refine e12 (Afg e) λkd hk e1=>?_;have at':∀ {m:Ik.Internal.M AV} {t:Sem Value},At Z VR m t s U J->m J=some (q,J')->wpAny Z.M Z.A t Q E s:=λx e=>x q J' e Q E an
 induction hk using KdV.casesOn with
 | str x=>
  refine e12 R.inv λt z zz2=>?_;subst zz2;refine at' ?_ e1
  cases hj:Wc mm with
  | true=>
   have zz9:=Acw hj;subst zz9;exact Cp Rs λv a e r=>e▸.items I r λl' vs xs hl z' i q=>hl▸Ali I i q z
  | false=>
   refine Cp Rs λv a e r=>e▸Rd r λy u zy hy=>hy▸?_;show At Z VR (match y.cps.toList with | [c]=>.grd (decide (c<256)) (Qk x.cps.toList mm c) | _=>.fail) _ _ _ _
   cases hc:y.cps.toList with
   | nil=>exact .fail
   | cons c r=>
    induction r using List.casesOn with
    | cons _ _=>exact .fail
    | nil=>
     refine .grd λh=>?_;rw [Alh hc];exact Aqy I (aB h) z mm
 | bytes b=>
  refine e23 R.inv λb t z zz3 zz4=>?_;subst zz3;subst zz4;refine at' ?_ e1
  cases hj:Hd mm with
  | false=>exact .fail
  | true=>
   have zz9:=Lo hj;subst zz9;refine Cp Rs λv a e r=>e▸Rd r λy u zy hy=>hy▸.grd λh=>?_;have e:y=Lp:=by rw [Rg y,aB h];rfl
   subst e;exact Acv I z
 | lst h=>
  refine e12 R.inv λl e3 zz2=>?_;subst zz2;refine at' ?_ e1
  induction mm using ME.casesOn with
  | append=>exact Cp Rs λv a e r=>e▸Acr I e3 h r
  | pop=>exact Jp Rs λe=>e▸Aqz I e3 h
  | sort=>exact Jp Rs λe=>e▸Jr hr I hL hf e3 h
  | _=>exact .fail
 | dict h hd=>
  refine e12 R.inv λd e3 zz2=>?_;subst zz2;refine at' ?_ e1
  cases hj:Tu mm with
  | false=>exact .fail
  | true=>
   have zz9:=Uq hj;subst zz9;exact Kt Rs λv w a b e r r'=>e▸Rd r λx t z hx=>hx▸Arg hs I hd e3 h r'
 | strm=>exact ntf hn
end
noncomputable def Kz(g:Heap)(gl bl:Addr)(G:Str->Option Value):Prop:=
 ∃ mg mb,g.Ns gl mg/\g.Ns bl mb/\∀ x v,G x=some v->mg x=some v\/(mg x=none/\mb x=some v)
noncomputable def Arh(G:Str->Option Value)(env:Env)(x:Str)(e:IE):Prop:=
 (∃ i,e=.var i/\env.kindOf x=some .local)\/(∃ i c,e=.cvar i/\(env.kindOf x=some .cell\/env.kindOf x=some .free)/\(x == ("__classdict__":Str))=false/\env.cells.lookup x=some c)\/
  (∃ v,e=.lit (.con v)/\env.kindOf x=some .globalImplicit/\G x=some v)\/e=.stuck
structure Am(Z:Zt)(G:Str->Option Value)(env:Env)(rs:Rs):Prop where
 kind:env.scope.kind=.function
 glob:Kz Z.g env.globals env.builtins G
 infr:env.locals∈Z.fr
 cfr:∀ x c,env.cells.lookup x=some c->c∈Z.fr/\c≠env.locals
 apart:∀ x y c,env.cells.lookup x=some c->env.cells.lookup y=some c->x=y
 form:∀ x,Arh G env x (rs x)
 inj:∀ x y i,(rs x=.var i\/rs x=.cvar i)->(rs y=.var i\/rs y=.cvar i)->x=y
 outs:∀ e∈Z.envs,e.scope.kind=.function/\∃ L,e.frame=some L/\L∈Z.fr
structure Ag(Z:Zt)(env:Env)(rs:Rs)(h:Heap)(U:List Addr)(J:Sto)(Y:Ae):Prop where
 ns:∃ m,h.Ns env.locals m
 outs:∀ e∈Z.envs,∀ L,e.frame=some L->∃ m,h.Ns L m
 cell:∀ x i c,rs x=.cvar i->env.cells.lookup x=some c->∃ ov,h.IsCell c ov
 val:∀ x i a m,rs x=.var i->Y i=some a->h.Ns env.locals m->∃ v,m x=some v/\VRel h (Z.V U J) U v a
 cval:∀ x i a c,rs x=.cvar i->Y i=some a->env.cells.lookup x=some c->∃ v,h.IsCell c (some v)/\VRel h (Z.V U J) U v a
section
variable{Z:Zt}{G:Str->Option Value}{env:Env}{rs:Rs}{s:Shared}{U U':List Addr}{J J':Sto}{Y:Ae}{v w:Value}{a b:AV}
theorem Ag.go{h h':Heap}(S:Am Z G env rs)(D:Ag Z env rs h U J Y)(x:Z.Go h U J h' U' J'):Ag Z env rs h' U' J' Y:=by
 refine e11 D.ns λm hm=>?_;have hm':=(x.fk _ S.infr).ns m hm;refine⟨⟨m,hm'⟩,λe he L hL=>?_,λy i c e1 e2=>?_,λy i a m2 e1 e2 e3=>?_,λy i a c e1 e2 e3=>?_⟩
 . obtain ⟨_,L',h1,h2⟩:=S.outs e he;rw [h1] at hL;refine snE hL λcc1=>?_;clear hL;obtain rfl:=cc1.symm;refine e11 (D.outs e he _ h1) λm' hm'=>?_;exact⟨m',(x.fk _ h2).ns m' hm'⟩
 . refine e11 (D.cell y i c e1 e2) λov hc=>?_;exact⟨ov,(x.fk _ (S.cfr y c e2).1).cell ov hc⟩
 . rw [<- Ey hm' e3];refine e12 (D.val y i a m e1 e2 hm) λv h1 h2=>?_;exact⟨v,h1,h2.on x.on⟩
 . refine e12 (D.cval y i a c e1 e2 e3) λv h1 h2=>?_;exact⟨v,(x.fk _ (S.cfr y c e3).1).cell _ h1,h2.on x.on⟩
theorem Rq(S:Am Z G env rs)(I:Z.I s.heap U J)(D:Ag Z env rs s.heap U J Y){x:Str}{i:Nat}(e:rs x=.var i\/rs x=.cvar i){a:AV}(ha:Y i=some a):∃ v,VRel s.heap (Z.V U J) U v a/\∀ {M:Model} {A:Around} {E:Value->Shared->Prop} {Q:Value->Shared->Prop},Q v s->wpAny M A (loadName env x) Q E s:=by
 rcases e with e | e
 . refine e11 D.ns λm hm=>?_;refine e12 (D.val x i a m e ha hm) λv h1 h2=>?_;refine⟨v,h2,λ{M A E Q} hq=>?_⟩;have hk:env.kindOf x=some .local:=by
    rcases S.form x with ⟨j,q,hk⟩ | ⟨j,c,q,_⟩ | ⟨v,q,_⟩ | q
    . exact hk
    all_goals (rw [e] at q;injection q)
   exact dN S.kind hk hm h1 hq
 . rcases S.form x with ⟨j,q,hk⟩ | ⟨j,c,q,hk,hn,hc⟩ | ⟨v,q,_⟩ | q
   . rw [e] at q;injection q
   . refine e12 (D.cval x i a c e ha hc) λv h1 h2=>?_;refine⟨v,h2,λ{M A E Q} hq=>?_⟩;rcases hk with hk | hk
     . exact wpAny_loadName_cell S.kind hk hc h1 hq
     . exact wpAny_loadName_free S.kind hk hc h1 hq hn
   all_goals (rw [e] at q;injection q)
theorem Rr(S:Am Z G env rs)(I:Z.I s.heap U J){x:Str}{v:Value}(e:rs x=.lit (.con v)){M:Model}{A:Around}{E:Value->Shared->Prop}{Q:Value->Shared->Prop}(hq:Q v s):wpAny M A (loadName env x) Q E s:=by
 rcases S.form x with ⟨j,q,_⟩ | ⟨j,c,q,_⟩ | ⟨v',q,hk,hg⟩ | q
 . rw [e] at q;injection q
 . rw [e] at q;injection q
 . rw [e] at q;injection q with cc1;injection cc1 with cc2;subst cc2;refine e23 S.glob λmg mb h1 h2 h3=>?_;rw [loadName_read S.kind hk];rcases h3 x v hg with h | ⟨ha,hb⟩
   . exact loadGlobal_global (h1.keeps I.base) h hq
   . exact loadGlobal_builtin (h1.keeps I.base) ha (h2.keeps I.base) hb hq
 . rw [e] at q;injection q
end
structure Zt.Lv(Z:Zt)(lv:Nat):Prop where
 room:Z.A.units+3*lv+60<cLine
 hand:Z.A.handled=none
 deep:Z.A.depth+3*lv+60<900
 sys:Z.Sys
 frames:Z.A.frames=some Z.envs
theorem Zt.Lv.rm{Z:Zt}{lv:Nat}(x:Z.Lv lv):Z.Room:=⟨by have:=x.room;exact ltc (fk [Z.A.units,3*lv,cLine] [(1,(.a (.a (.a (.v 0) (.v 1)) (.n 60)) (.n 1)),(.v 2)),(1,(.v 2),(.a (.v 0) (.n 40)))] rfl this),x.hand⟩
noncomputable abbrev Afj:Ie Value (Option AV):=λh V U v a=>match a with
 | some a=>VRel h V U v a
 | Option.none=>v=.none
structure Ih(C:Cx)(P:Bi)(n lv:Nat)(Z:Zt)(env:Env)(rs:Rs)(Y:Ae):Prop where
 ev:∀ (d:Nat) (e:PySem.Expr) {s:Shared} {U:List Addr} {J:Sto},Z.I s.heap U J->Ag Z env rs s.heap U J Y->At Z VR (evA P n lv Y (cE C d rs e)) (eval e env) s U J
 tr:∀ (d:Nat) (e:PySem.Expr) {s:Shared} {U:List Addr} {J:Sto},Z.I s.heap U J->Ag Z env rs s.heap U J Y->At Z EqR ((evA P n lv Y (cE C d rs e)).bnd Ac) (isTrue e env (eval e env)) s U J
 evs:∀ (d:Nat) (es:List PySem.Expr) (pos:Pos) {s:Shared} {U:List Addr} {J:Sto},Z.I s.heap U J->Ag Z env rs s.heap U J Y->At Z VRs (evsA P n lv Y (cEs C d rs es)) (spliced (backTo pos (starEach es env))) s U J
 op:∀ (d:Nat) (e:Option PySem.Expr) {s:Shared} {U:List Addr} {J:Sto},Z.I s.heap U J->Ag Z env rs s.heap U J Y->At Z Afj (Wd P n lv Y (cO C d rs e)) (evalPart e env) s U J
 andE:∀ (d:Nat) (es:List PySem.Expr) (pos:Pos) {s:Shared} {U:List Addr} {J:Sto},Z.I s.heap U J->Ag Z env rs s.heap U J Y->At Z VR (Mt P n lv Y (cEs C d rs es)) (boolOp pos .And (evalEach es env)) s U J
 orE:∀ (d:Nat) (es:List PySem.Expr) (pos:Pos) {s:Shared} {U:List Addr} {J:Sto},Z.I s.heap U J->Ag Z env rs s.heap U J Y->At Z VR (orA P n lv Y (cEs C d rs es)) (boolOp pos .Or (evalEach es env)) s U J
 andT:∀ (d:Nat) (es:List PySem.Expr) {s:Shared} {U:List Addr} {J:Sto},Z.I s.heap U J->Ag Z env rs s.heap U J Y->At Z EqR ((Mt P n lv Y (cEs C d rs es)).bnd Ac) (allTrue .And es env) s U J
 orT:∀ (d:Nat) (es:List PySem.Expr) {s:Shared} {U:List Addr} {J:Sto},Z.I s.heap U J->Ag Z env rs s.heap U J Y->At Z EqR ((orA P n lv Y (cEs C d rs es)).bnd Ac) (allTrue .Or es env) s U J
section
variable{C:Cx}{P:Bi}{n lv d:Nat}{Z:Zt}{env:Env}{rs:Rs}{Y:Ae}{s:Shared}{U U':List Addr}{J J':Sto}{v w:Value}{a b:AV}
theorem Bo{α β γ:Type}(m:M α)(f:α->M β)(g:β->M γ):(m.bnd f).bnd g=m.bnd λx=>(f x).bnd g:=by
 funext J
 unfold M.bnd
 cases m J with
 | none=>rfl
 | some q=>obtain ⟨q,J'⟩:=q;cases q <;> rfl
theorem Ivt.dead_out'{prog:Program}{w:World}{g h:Heap}{fr:List Addr}{k:Nat}{l:Addr}{o:Al}(I:Ivt prog w g h fr U (J.set k .dead))(e1:U[k]?=some l)(e2:J[k]?=some o):¬ Vt fr U (J.set k .dead) l:=by
 rintro (⟨i,o',q1,q2,q3⟩ | q)
 . refine e11 (aN.mp q1) λh1 g1=>?_;refine e11 (aN.mp e1) λh2 g2=>?_;have hi:i=k:=(List.getElem_inj I.nodup).mp (g1.trans g2.symm);subst hi;rw [dQ (aN.mp e2).1] at q2;refine snE q2 λcc1=>?_;clear q2;subst cc1;exact nft q3
 . exact (I.frs l q).1 (aO e1)
theorem Afk{o:Operator}{op:Bin}(h:Aeo o=some op):o=Akm op:=by induction o using PySem.Operator.casesOn <;> first | exact nns h | (refine snE h λq=>?_;subst q;rfl)
theorem Afl{o:CmpOp}{op:Cmp}(h:Ake o=some op):o=Avk op:=by induction o using PySem.CmpOp.casesOn <;> first | exact nns h | (refine snE h λq=>?_;subst q;rfl)
theorem Ari(X:Ih C P n lv Z env rs Y)(S:Am Z C.G env rs)(I:Z.I s.heap U J)(D:Ag Z env rs s.heap U J Y){l r:PySem.Expr}{o:Operator}{op:Bin}{pos:Pos}(ho:Aeo o=some op) :
 At Z VR (evA P (n+1) lv Y (.bin op (cE C d rs l) (cE C d rs r))) (eval (.BinOp l o r pos) env) s U J:=by
 rw [Afk ho];exact λq J' e Q E an=>wpAny_BinOp ((X.ev d l I D).use e an λx xv h1 tk1 μ1 σ1 G1 R1 e1=>
  (X.ev d r G1.inv (D.go S G1)).use e1 (an.go G1) λy yv h2 tk2 μ2 σ2 G2 R2 e2=>Are G2.inv op (VRel.on G2.on R1) R2 _ _ e2 _ _ ((an.go G1).go G2))
theorem Arj(L:Z.Lv lv)(X:Ih C P n lv Z env rs Y)(S:Am Z C.G env rs)(I:Z.I s.heap U J)(D:Ag Z env rs s.heap U J Y){l r:PySem.Expr}{o:CmpOp}{op:Cmp}{pos:Pos}(ho:Ake o=some op)(hm:behindInMarks o r=false) :
 At Z VR (evA P (n+1) lv Y (.cmp op (cE C d rs l) (cE C d rs r))) (eval (.Compare l [o] [r] pos) env) s U J:=by
 rw [Afl ho] at hm ⊢;exact λq J' e Q E an=>wpAny_Compare1 (hm:=hm) ((X.ev d l I D).use e an λx xv h1 tk1 μ1 σ1 G1 R1 e1=>
  (X.ev d r G1.inv (D.go S G1)).use e1 (an.go G1) λy yv h2 tk2 μ2 σ2 G2 R2 e2=>Aez L.rm G2.inv op (VRel.on G2.on R1) R2 _ _ e2 _ _ ((an.go G1).go G2))
theorem Ark(L:Z.Lv lv)(X:Ih C P n lv Z env rs Y)(S:Am Z C.G env rs)(I:Z.I s.heap U J)(D:Ag Z env rs s.heap U J Y){l r:PySem.Expr}{o:CmpOp}{op:Cmp}{pos:Pos}{whole:Sem Value}(ho:Ake o=some op)(hm:behindInMarks o r=false) :
 At Z EqR ((evA P (n+1) lv Y (.cmp op (cE C d rs l) (cE C d rs r))).bnd Ac) (isTrue (.Compare l [o] [r] pos) env whole) s U J:=by
 rw [Afl ho] at hm ⊢;intro q J' e Q E an;refine wpAny_isTrue_Compare1 (hm:=hm) ?_;have e':((evA P n lv Y (cE C d rs l)).bnd λx=>(evA P n lv Y (cE C d rs r)).bnd λy=>(Ts op x y).bnd Ac) J=some (q,J'):=by
  rw [<- e];show _=(((evA P n lv Y (cE C d rs l)).bnd λx=>(evA P n lv Y (cE C d rs r)).bnd λy=>Ts op x y).bnd Ac) J;rw [Bo]
  congr 2
  funext x
  rw [Bo]
 exact (X.ev d l I D).use e' an λx xv h1 tk1 μ1 σ1 G1 R1 e1=>
  (X.ev d r G1.inv (D.go S G1)).use e1 (an.go G1) λy yv h2 tk2 μ2 σ2 G2 R2 e2=>(Aez L.rm G2.inv op (VRel.on G2.on R1) R2).use e2 ((an.go G1).go G2) λz zv h3 tk3 U3 J3 G3 R3 e3=>
   Hi G3.inv R3 _ _ e3 _ _ (((an.go G1).go G2).go G3)
theorem Arl(X:Ih C P n lv Z env rs Y)(S:Am Z C.G env rs)(I:Z.I s.heap U J)(D:Ag Z env rs s.heap U J Y){x:PySem.Expr}{pos:Pos}:At Z VR (evA P (n+1) lv Y (.neg (cE C d rs x))) (eval (.UnaryOp .USub x pos) env) s U J:=
 λq J' e Q E an=>wpAny_UnaryOp ((X.ev d x I D).use e an λy yv h1 tk1 μ1 σ1 G1 R1 e1=>
  Mi (s:={ s with heap:=h1,toks:=tk1}) R1 (λi u h=>h▸At.of (a:=AV.int _) λQ E k=>PySem.P.neg_int (k.now G1.inv (VRel.int _ _) _)) _ _ e1 _ _ (an.go G1))
theorem Arm(X:Ih C P n lv Z env rs Y)(S:Am Z C.G env rs)(I:Z.I s.heap U J)(D:Ag Z env rs s.heap U J Y){x:PySem.Expr}{pos:Pos}:At Z VR (evA P (n+1) lv Y (.not (cE C d rs x))) (eval (.UnaryOp .Not x pos) env) s U J:=
 λq J' e Q E an=>wpAny_UnaryOp ((X.ev d x I D).use e an λy yv h1 tk1 μ1 σ1 G1 R1 e1=>not_value ((Hi G1.inv R1).use e1 (an.go G1) λt tv h2 tk2 μ2 σ2 G2 R2 e2=>by
  refine spE e2 λcc1 cc2=>?_;clear e2;subst cc1;obtain rfl:=cc2.symm;obtain rfl:=R2.symm;exact OkR.now' (Z:=Z) (R:=VR) (s:={ s with heap:=h2,toks:=tk2}) (a:=AV.bool _) G2.inv ((an.go (tk:=tk1) G1).go (tk:=tk2) G2) (VRel.bool _)))
theorem Arn(X:Ih C P n lv Z env rs Y)(S:Am Z C.G env rs)(I:Z.I s.heap U J)(D:Ag Z env rs s.heap U J Y){es:List PySem.Expr}{k:Nat}{pos:Pos}:At Z VR (evA P (n+1) lv Y (.tup (cEs C d rs es))) (eval (.Tuple es k pos) env) s U J:=
 λq J' e Q E an=>wpAny_Tuple ((X.evs d es pos I D).use e an λy yv h1 tk1 μ1 σ1 G1 R1 e1=>by
  refine e02 (Ce e1) λhc e2=>?_;refine spE e2 λcc1 cc2=>?_;clear e2;subst cc1;obtain rfl:=cc2.symm;have hl:=Ab.length R1;have hz:=aB hc;exact⟨by rw [hl];exact (Bq hz).2.1,OkR.pushT (Z:=Z) (s:={ s with heap:=h1,toks:=tk1}) (tk:=tk1) G1.inv (an.go G1) R1 hz⟩)
theorem Aro(X:Ih C P n lv Z env rs Y)(S:Am Z C.G env rs)(I:Z.I s.heap U J)(D:Ag Z env rs s.heap U J Y){es:List PySem.Expr}{m:Bool}{pos:Pos}:At Z VR (evA P (n+1) lv Y (.lst m (cEs C d rs es))) (eval (.List es pos) env) s U J:=
 λq J' e Q E an=>wpAny_List ((X.evs d es pos I D).use e an λy yv h1 tk1 μ1 σ1 G1 R1 e1=>by
  refine e02 (Ce e1) λhc e2=>?_;have hl:=Ab.length R1;have hz:=aB hc;refine⟨by rw [hl];exact (Bq hz).2.1,?_⟩
  induction m using Bool.casesOn with
  | false=>refine spE e2 λcc1 cc2=>?_;clear e2;subst cc1;obtain rfl:=cc2.symm;exact OkR.pushL (Z:=Z) (s:={ s with heap:=h1,toks:=tk1}) (tk:=tk1) G1.inv (an.go G1) R1 hz
  | true=>
   refine spE e2 λcc1 cc2=>?_;clear e2;subst cc1;subst cc2;exact OkR.newp (Z:=Z) (s:={ s with heap:=h1,toks:=tk1}) (tk:=tk1) G1.inv (an.go G1) (λb o e=>aE _ e) (Bb _) ⟨_,aS _ rfl⟩ λx=>⟨hz,_,⟨0,aS _ rfl⟩,Ab.on x R1⟩)
theorem Alm(I:Z.I s.heap U J){pos:Pos}:At Z VR (evA P (n+1) lv Y .dict) (eval (.Dict [] [] pos) env) s U J:=by
 intro q J' e Q E an;refine spE e λcc1 cc2=>?_;clear e;subst cc1;subst cc2;refine wpAny_Dict_empty ?_;exact OkR.newp (Z:=Z) (tk:=s.toks) I an (λb o e=>aE _ e) (Bb _) ⟨_,aS _ rfl⟩ λx=>⟨[],0,⟨_,_,aS _ rfl,⟨rfl,rfl,rfl⟩,rfl,(λe he=>by simp at he),.nil,.nil⟩,.nil⟩
theorem Afm(S:Am Z C.G env rs)(I:Z.I s.heap U J)(D:Ag Z env rs s.heap U J Y){x:Str}{pos:Pos}{i:Nat}(hx:rs x=.var i\/rs x=.cvar i)(hd:(x == ("__debug__":Str))=false):At Z VR (M.ofOpt (Y i)) (eval (.Name x pos) env) s U J:=
 .opt' λa ha=>by
  refine e12 (Rq S I D hx ha) λv rv ld=>?_;exact .of λQ E k=>cX (ld (k.now' I rv)) hd
theorem Arp(S:Am Z C.G env rs)(I:Z.I s.heap U J){x:Str}{pos:Pos}{v:Value}(hx:rs x=.lit (.con v))(hd:(x == ("__debug__":Str))=false):At Z VR (evA P (n+1) lv Y (.lit (.con v))) (eval (.Name x pos) env) s U J:=
 At.of (a:=AV.con v) λQ E k=>cX (Rr S I hx (k.now' I (VRel.con v))) hd
theorem Afn(S:Am Z C.G env rs)(I:Z.I s.heap U J)(D:Ag Z env rs s.heap U J Y){x:Str}{pos:Pos}{i:Nat}(hx:rs x=.var i\/rs x=.cvar i)(hd:(x == ("__debug__":Str))=false):At Z VR (evA P (n+1) lv Y (.frz i)) (eval (.Name x pos) env) s U J:=by
 refine .opt λa ha=>?_;refine e12 (Rq S I D hx ha) λv rv ld=>?_
 induction a using AV.casesOn with
 | ref k=>
  refine e12 rv.inv λl e1 zz=>?_;clear rv;subst zz;intro q J' e Q E an;refine e12 (Fm e) λxs h e2=>?_;refine spE e2 λcc1 cc2=>?_;clear e2;subst cc1;subst cc2;refine cX (ld ?_) hd;obtain ⟨z,vs,i',r⟩:=I.list e1 h;have G:=I.freeze e1 h rfl;exact an _ s.heap s.toks U G (.lst z i' (G.inv.dead_out' e1 h) (r.on G.on))
 | _=>exact .fail
theorem Afo(I:Z.I s.heap U J){c:Const}{k:Nat}{pos:Pos}:At Z VR (evA P (n+1) lv Y (Aep c)) (eval (.Constant c k pos) env) s U J:=by
 induction c using PySem.Const.casesOn with
 | none=>exact At.of (a:=AV.none) λQ E kq=>wpAny_Constant_none (kq.now' I VRel.none)
 | bool b=>exact At.of (a:=AV.bool b) λQ E kq=>wpAny_Constant_bool (kq.now' I (VRel.bool b))
 | int i=>exact At.of (a:=AV.int i) λQ E kq=>wpAny_Constant_int (kq.now I (VRel.int _ _) _)
 | str x=>
  show At Z VR (evA P (n+1) lv Y (if x.length<lim then .lit (.str x) else .stuck)) _ _ _ _;split
  . rename_i h;exact At.of (a:=AV.str x) λQ E kq=>wpAny_Constant_str (kq.now I (VRel.str _ _ h) _)
  . exact .fail
 | bytes b=>
  show At Z VR (evA P (n+1) lv Y (if b.length<lim then .lit (.bytes b) else .stuck)) _ _ _ _;split
  . rename_i h;refine At.of (a:=AV.bytes b) λQ E kq=>?_;show wpAny _ _ (mkTextBytes b.toArray) _ _ _;refine wpAny_mkTextBytes ?_;have:=kq.now I (b:=Value.bytes b.toArray s.toks) (by have:=VRel.bytes (h:=s.heap) (F:=Z.V U J) (U:=U) b.toArray s.toks (by simpa using h);simpa using this) (s.toks+1);exact this
  . exact .fail
 | _=>exact .fail
theorem Arq(X:Ih C P n lv Z env rs Y)(S:Am Z C.G env rs)(I:Z.I s.heap U J)(D:Ag Z env rs s.heap U J Y){c x y:PySem.Expr}{pos:Pos}:At Z VR (evA P (n+1) lv Y (.ite (cE C d rs c) (cE C d rs x) (cE C d rs y))) (eval (.IfExp c x y pos) env) s U J:=by
 intro q J' e Q E an;have e':(((evA P n lv Y (cE C d rs c)).bnd Ac).bnd λt=>if t then evA P n lv Y (cE C d rs x) else evA P n lv Y (cE C d rs y)) J=some (q,J'):=by rw [Bo];exact e
 refine wpAny_IfExp ((X.tr d c I D).use e' an λt tv h1 tk1 μ1 σ1 G1 R1 e1=>?_);obtain rfl:=R1.symm
 induction t using Bool.casesOn with
 | true=>exact X.ev d x G1.inv (D.go S G1) _ _ e1 _ _ (an.go G1)
 | false=>exact X.ev d y G1.inv (D.go S G1) _ _ e1 _ _ (an.go G1)
theorem Arr(X:Ih C P n lv Z env rs Y)(S:Am Z C.G env rs)(I:Z.I s.heap U J)(D:Ag Z env rs s.heap U J Y){x:PySem.Expr}{pos:Pos}{whole:Sem Value}:At Z EqR ((evA P (n+1) lv Y (.not (cE C d rs x))).bnd Ac) (isTrue (.UnaryOp .Not x pos) env whole) s U J:=by
 intro q J' e Q E an;have e':(((evA P n lv Y (cE C d rs x)).bnd Ac).bnd λt=>M.ret (!t)) J=some (q,J'):=by
  rw [<- e];show _=(((evA P n lv Y (cE C d rs x)).bnd λy=>(Ac y).bnd λt=>M.ret (.bool (!t))).bnd Ac) J;rw [Bo,Bo]
  congr 2
  funext y
  rw [Bo];rfl
 refine wpAny_isTrue_Not ((X.tr d x I D).use e' an λt tv h1 tk1 μ1 σ1 G1 R1 e1=>?_);obtain rfl:=R1.symm;refine spE e1 λcc1 cc2=>?_;clear e1;subst cc1;obtain rfl:=cc2.symm;exact OkR.now' (Z:=Z) (R:=EqR) (s:={ s with heap:=h1,toks:=tk1}) G1.inv (an.go G1) rfl
theorem Fe(X:Ih C P n lv Z env rs Y){e:PySem.Expr}{m:M AV}{t:Sem Value}(hm:At Z VR m t s U J)(he:isTrue e env t=(do let v <- t;standAt e.pos;holding [v] (truthy v))):At Z EqR (m.bnd Ac) (isTrue e env t) s U J:=by
 intro q J' e1 Q E an;exact wpAny_isTrue_value (he:=he) (hm.use e1 an λy yv h1 tk1 μ1 σ1 G1 R1 e2=>Hi G1.inv R1 _ _ e2 _ _ (an.go G1))
theorem Ars(X:Ih C P n lv Z env rs Y)(I:Z.I s.heap U J)(D:Ag Z env rs s.heap U J Y){es:List PySem.Expr}{pos:Pos}{whole:Sem Value}:At Z EqR ((evA P (n+1) lv Y (.and (cEs C d rs es))).bnd Ac) (isTrue (.BoolOp .And es pos) env whole) s U J:=
 λq J' e Q E an=>wpAny_isTrue_BoolOp (X.andT d es I D q J' e Q E an)
theorem Avn(X:Ih C P n lv Z env rs Y)(I:Z.I s.heap U J)(D:Ag Z env rs s.heap U J Y){es:List PySem.Expr}{pos:Pos}{whole:Sem Value}:At Z EqR ((evA P (n+1) lv Y (.or (cEs C d rs es))).bnd Ac) (isTrue (.BoolOp .Or es pos) env whole) s U J:=
 λq J' e Q E an=>wpAny_isTrue_BoolOp (X.orT d es I D q J' e Q E an)
end
section
variable{M:Model}{A:Around}{E:Value->Shared->Prop}{s:Shared}{env:Env}{C:Cx}{P:Bi}{n lv d:Nat}{Z:Zt}{rs:Rs}{Y:Ae}{U U':List Addr}{J J':Sto}{v w:Value}{a b:AV}
theorem Dg{es:List PySem.Expr}(h:Aq es=true):starEach es env=es.map λe=>(false,eval e env):=by
 induction es with
 | nil=>rfl
 | cons e r ih=>
  have q:starEach (e::r) env=(false,eval e env)::starEach r env/\Aq r=true:=by
   induction e using PySem.Expr.casesOn <;> first | exact nft h | exact⟨rfl,h⟩
  rw [q.1,ih q.2];rfl
theorem Afp{pos:Pos}{l:List (Bool×Sem Value)}:(backTo pos l).any (·.1)=l.any (·.1):=by
 unfold backTo;rw [List.any_map];rfl
theorem Gg{pos:Pos}{es:List PySem.Expr}(h:Aq es=true):(backTo pos (starEach es env)).any (·.1)=false:=by
 rw [Afp,Dg h,List.any_map];simp
theorem Jt{f:Value}{pos:Pos}{es:List PySem.Expr}(hp:Aq es=true){Q:Args->Shared->Prop}(h:wpAny M A (spliced (backTo pos (starEach es env))) (λvs s1=>Q ⟨vs,[]⟩ s1) E s):wpAny M A (evalArgs f true (backTo pos (starEach es env)) []) Q E s:=by
 rw [Dg hp] at h ⊢
 induction es using List.casesOn with
 | nil=>
  unfold evalArgs;show wpAny M A (spliced [] >>= _) Q E s;refine aA (cC (show wpAny M A (spliced []) (λvs s1=>Q ⟨vs,[]⟩ s1) E s from h) (λvs s1 h1=>?_) λ_ _ x=>x);refine aA (aH ?_);refine cQ ?_;exact aA (aH (aA (aH (aH h1))))
 | cons e r=>exact evalArgs_plain h
theorem Gh{pos:Pos}{f:Value}{first:List Value}{es:List PySem.Expr}(hp:Aq es=true)(hk:keeperOf f=pure .machine){Q:Value->Shared->Prop}
 (h:wpAny M A (spliced (backTo pos (starEach es env))) (λvs s1=>wpAny M A (call f (first++vs) []) Q E s1) E s):wpAny M A (callWith pos f first (backTo pos (starEach es env)) []) Q E s:=by
 unfold callWith;refine aA (cQ (cC (Jt (Q:=λa s1=>wpAny M A (call f (first++a.pos) a.kw) Q E s1) hp h) (λa s1 h1=>aA (dO ?_)) λ_ _ x=>x));rw [hk,Gg hp];refine aA (aH ?_);exact aA (cC h1 (λr s2 hr=>aA (cQ (wpAny_point (aH hr)))) λ_ _ x=>x)
noncomputable def Aln(s:Shared)(v:Value):Prop:=∃ T id,s.TypeIs v T/\typeLookup (.type T) "__getitem__"=pure (some (.builtin id))
set_option tactic.hygienic true in
theorem Ju{A:Around}{E:Value->Shared->Prop}{value slice:PySem.Expr}{pos:Pos}{Q:Value->Shared->Prop}{prog:Program}{w:World}
 (h:wpAny (model prog w) A (eval value env) (λo s1=>wpAny (model prog w) A (eval slice env) (λi s2=>Aln s2 o/\wpAny (model prog w) A (getItem o i) Q E s2) E s1) E s) :
 wpAny (model prog w) A (eval (.Subscript value slice pos) env) Q E s:=by
 rw [eval_Subscript];refine aA (cC h (λo s1 h1=>aA (cQ (cC h1 (λi s2 h2=>aA (dO ?_)) λ_ _ x=>x))) λ_ _ x=>x);obtain ⟨⟨T,id,hT,hl⟩,hg⟩:=h2;rw [getitemInPython_of_ne hT.not_modules];refine aA (aA (wpAny_specialOf hT hl (aH ?_)));have fin:∀ l,wpAny (model prog w) A (operate l (getItem o i)) (λr s3=>wpAny (model prog w) A (letTemporaryGo value o r >>= λ_=>pure r) Q E s3) E s2:=λl=>
  wpAny_operating (cC hg (λr s3 h3=>aA (wpAny_letTemporaryGo (aH h3))) λ_ _ x=>x)
 cases slice <;> first | exact aA (fin _) | (rename_i st _;cases st <;> exact aA (fin _))
theorem Jv{l:Addr}{vs:List Value}(i:LX s.heap l vs):Aln s (.ref l):=by
 refine e11 i λn i=>?_;exact⟨"list",_,⟨_,i,rfl⟩,PySem.F.slot_list_getitem.lookup⟩
theorem Acx{kvs:List (Str×Value)}{ep:Nat}{l:Addr}(i:s.heap.DictAt (PySem.strKind Z.prog Z.w) l kvs ep):Aln s (.ref l):=by
 refine e23 i λo es ho hc _=>?_;clear i;exact⟨"dict",_,⟨_,ho,hc.1⟩,PySem.F.slot_dict_getitem.lookup⟩
theorem Art{α:Type}{c:Prop}[Decidable c]{m:Ik.Internal.M α}{q:Except Str α×Sto}(e:(if c then m else Ik.Internal.M.fail) J=some q):c/\m J=some q:=by
 by_cases h:c
 . rw [if_pos h] at e;exact⟨h,e⟩
 . rw [if_neg h] at e;exact nns e
theorem Alo(I:Z.I s.heap U J)(R:VRel s.heap (Z.V U J) U v a){q:Except Str AV×Sto}(e:Lz a b J=some q):Aln s v:=by
 induction b using AV.casesOn with
 | int n=>
  refine e02 (Art (show (if -(2 ^ 62)<=n/\n<2 ^ 62 then Aup a n else Ik.Internal.M.fail) J=some q from e)) λ_ e=>?_
  induction a using AV.casesOn with
  | tup xs=>
   obtain ⟨p,vs,z,⟨m,i⟩,_,r,rfl⟩:=R.inv;exact⟨"tuple",_,⟨_,i,rfl⟩,PySem.F.slot_tuple_getitem.lookup⟩
  | lst xs=>refine e25 R.inv λp vs z i _ r zz=>?_;clear R;subst zz;exact Jv i
  | bytes x=>refine e23 R.inv λx t z _ zz=>?_;clear R;subst zz;exact⟨"bytes",_,rfl,PySem.W.FB.slot_bytes_getitem.lookup⟩
  | ref k=>
   refine e12 R.inv λl e1 zz=>?_;clear R;subst zz;refine e12 (Fm e) λxs h _=>?_;obtain ⟨z,vs,i,r⟩:=I.list e1 h;exact Jv i
  | _=>exact nns e
 | str x=>
  induction a using AV.casesOn with
  | ref k=>
   refine e12 R.inv λl e1 zz=>?_;clear R;subst zz;refine e23 (Ui e) λob es h hd _=>?_;refine e22 (I.dict hd e1 h) λvs ep D r=>?_;exact Acx (Z:=Z) D
  | _=>exact nns e
 | _=>exact nns e
theorem Aru(X:Ih C P n lv Z env rs Y)(S:Am Z C.G env rs)(I:Z.I s.heap U J)(D:Ag Z env rs s.heap U J Y){o i:PySem.Expr}{pos:Pos}:At Z VR (evA P (n+1) lv Y (.idx (cE C d rs o) (cE C d rs i))) (eval (.Subscript o i pos) env) s U J:=
 λq J' e Q E an=>Ju ((X.ev d o I D).use e an λx xv h1 tk1 μ1 σ1 G1 R1 e1=>(X.ev d i G1.inv (D.go S G1)).use e1 (an.go G1) λy yv h2 tk2 μ2 σ2 G2 R2 e2=>
  ⟨Alo (s:={ s with heap:=h2,toks:=tk2}) G2.inv (VRel.on G2.on R1) e2,Aqs G2.inv (VRel.on G2.on R1) R2 _ _ e2 _ _ ((an.go G1).go G2)⟩)
theorem Ng{γ:Type}{h:Heap}{V:Addr->Prop}{x:Option AV}(R:match x with | some a=>VRel h V U v a | Option.none=>v=.none){f:Option Int->Ik.Internal.M γ}{r:Except Str γ×Sto}(e:((Zl x).bnd f) J=some r):∃ p,Ds v p/\f p J=some r:=by
 induction x using Option.casesOn with
 | none=>subst R;exact⟨_,.none,e⟩
 | some a=>
  induction a using AV.casesOn with
  | int i=>refine e11 (VRel.inv R) λt zz1=>?_;subst zz1;exact⟨_,.some i t,e⟩
  | _=>exact nns e
theorem Arv(X:Ih C P n lv Z env rs Y)(S:Am Z C.G env rs)(I:Z.I s.heap U J)(D:Ag Z env rs s.heap U J Y){o:PySem.Expr}{lo hi st:Option PySem.Expr}{p pos:Pos}:At Z VR (evA P (n+1) lv Y (.slc (cE C d rs o) (cO C d rs lo) (cO C d rs hi) (cO C d rs st))) (eval (.Subscript o (.Slice lo hi st p) pos) env) s U J:=by
 intro q J' e Q E an;refine Ju ((X.ev d o I D).use e an λx xv h1 tk1 μ1 σ1 G1 R1 e1=>?_);have a1:=an.go (tk:=tk1) G1;have D1:=D.go S G1;refine wpAny_Slice ((X.op d lo G1.inv D1).use e1 a1 λl lv' h2 tk2 μ2 σ2 G2 R2 e2=>?_);have a2:=a1.go (tk:=tk2) G2;have D2:=D1.go S G2;refine (X.op d hi G2.inv D2).use e2 a2 λu uv h3 tk3 U3 J3 G3 R3 e3=>?_;have a3:=a2.go (tk:=tk3) G3;have D3:=D2.go S G3;refine (X.op d st G3.inv D3).use e3 a3 λt tv h4 tk4 U4 J4 G4 R4 e4=>?_;have a4:=a3.go (tk:=tk4) G4;refine e12 (Ng (h:=h2) (V:=Z.V μ2 σ2) R2 e4) λpl Pl e5=>?_;refine e12 (Ng (h:=h3) (V:=Z.V U3 J3) R3 e5) λpu Pu e6=>?_;refine e12 (Ng (h:=h4) (V:=Z.V U4 J4) R4 e6) λps Ps e7=>?_;have G5:=G4.inv.keep (h':=h4.push { cls:=.type "slice",data:=.fields #[lv',uv,tv]}) λb o e=>aE _ e;have RV:VRel (h4.push { cls:=.type "slice",data:=.fields #[lv',uv,tv]}) (Z.V U4 J4) U4 xv x:=VRel.on G5.on (VRel.on G4.on (VRel.on G3.on (VRel.on G2.on R1)));have a5:=Ans.go (s:={ s with heap:=h4,toks:=tk4}) (tk:=tk4) G5 a4
 induction x using AV.casesOn with
 | str y=>
  refine e12 RV.inv λt z zz=>?_;clear RV;subst zz;exact⟨⟨"str",_,rfl,PySem.F.slot_str_getitem.lookup⟩,Akz (s:={ s with heap:=h4.push { cls:=.type "slice",data:=.fields #[lv',uv,tv]},toks:=tk4}) G5.inv z Pl Pu Ps (.new _ _ _ _) _ _ e7 _ _ a5⟩
 | lst ys=>
  refine e25 RV.inv λp vs z i _ r zz=>?_;clear RV;subst zz;exact⟨Jv (s:={ s with heap:=h4.push { cls:=.type "slice",data:=.fields #[lv',uv,tv]},toks:=tk4}) i,Ala (s:={ s with heap:=h4.push { cls:=.type "slice",data:=.fields #[lv',uv,tv]},toks:=tk4}) G5.inv z i r Pl Pu Ps (.new _ _ _ _) _ _ e7 _ _ a5⟩
 | _=>exact nns e7
end
section
variable{C:Cx}{P:Bi}{n lv d:Nat}{Z:Zt}{env:Env}{rs:Rs}{Y:Ae}{s:Shared}{U U':List Addr}{J J':Sto}{v w:Value}{a b:AV}
noncomputable def Dp:PySem.Expr->Prop
 | .Attribute _ _ _=>False
 | _=>True
theorem Cm{f:PySem.Expr}{as:List PySem.Expr}{kw:List Keyword}{pos:Pos}(hf:Dp f):eval (.Call f as kw pos) env=(eval f env >>= λv=>callWith pos v [] (backTo pos (starEach as env)) (backToKw pos (keywordEach kw env))):=by
 cases f <;> first | rfl | exact hf.elim
theorem Alp(L:Z.Lv lv)(S:Am Z C.G env rs)(I:Z.I s.heap U J)(D:Ag Z env rs s.heap U J Y)(bi:BI){bv:Value}{vs:List Value}{xs:List AV}(hb:Lk bv=some bi)(R:Ab s.heap (Z.V U J) U vs xs):At Z VR (Aby bi xs) (call bv vs) s U J:=by
 by_cases hs:bi=.sorted
 . subst hs;have hb:=Nb hb;subst hb;obtain ⟨m,hm⟩:=D.ns
   induction R using Ab.casesOn with
   | nil=>exact .fail
   | cons r R=>
    induction R using Ab.casesOn with
    | cons _ _=>exact .fail
    | nil=>exact .items I r λl vs xs hl z i q=>hl▸Act L.rm I hm S.infr i q
 . exact Aqu L.rm I bi hb R hs
theorem La{v:Value}{bi:BI}(h:Lk v=some bi):keeperOf v=pure .machine:=by
 rw [Nb h];cases bi <;> rfl
theorem Fo{e:IE}{v:Value}(h:Km e=some v):e=.lit (.con v):=by
 induction e using IE.casesOn with
 | lit w=>induction w using AV.casesOn with
  | con u=>refine snE h λcc1=>?_;rw [cc1]
  | _=>exact nns h
 | _=>exact nns h
theorem Arw(L:Z.Lv lv)(X:Ih C P n lv Z env rs Y)(S:Am Z C.G env rs)(I:Z.I s.heap U J)(D:Ag Z env rs s.heap U J Y){f:PySem.Expr}{as:List PySem.Expr}{pos:Pos}{bi:BI}(hf:Dp f)(hp:Aq as=true)(hb:(Km (cE C d rs f)).bind Lk=some bi) :
 At Z VR (evA P (n+1) lv Y (.blt bi (cEs C d rs as))) (eval (.Call f as [] pos) env) s U J:=by
 refine e12 (aX.mp hb) λv hv hb=>?_;have hv:=Fo hv;intro q J' e Q E an;rw [Cm hf]
 induction n using Nat.casesAuxOn with
 | zero=>exact nns e
 | succ n=>
  have X1:=X.ev d f I D;rw [hv] at X1;refine aA (X1 _ _ rfl _ _ λv' h1 tk1 μ1 G1 R1=>?_);have zz:=R1.inv;subst zz;have a1:=an.go (tk:=tk1) G1;refine Gh hp (La hb) ((X.evs d as pos G1.inv (D.go S G1)).use e a1 λxs vs h2 tk2 μ2 σ2 G2 R2 e2=>?_);exact Alp L S G2.inv ((D.go S G1).go S G2) bi hb R2 _ _ e2 _ _ (a1.go (tk:=tk2) G2)
theorem Pt{α β:Type}{m:M α}{f:α->M β}{q:Except Str β×Sto}(e:((M.still m).bnd f) J=some q):∃ x J1,m J=some (.ok x,J1)/\f x J1=some q:=by
 cases h:m J with
 | none=>simp only [Ik.Internal.M.bnd,Ik.Internal.M.still,h] at e;exact nns e
 | some r=>
  obtain ⟨r,J1⟩:=r
  induction r using Except.casesOn with
  | ok x=>simp only [Ik.Internal.M.bnd,Ik.Internal.M.still,h] at e;exact⟨x,J1,rfl,e⟩
  | error _=>simp only [Ik.Internal.M.bnd,Ik.Internal.M.still,h] at e;exact nns e
theorem Pv{name:Str}{m:ME}(h:Wf name=some m):name=Str.ofString (meS m):=(aB (List.find?_some (p:=λm=>decide (Str.ofString (meS m)=name)) h)).symm
theorem Nh{α β:Type}{m:M α}{f:α->M β}{x:α}{J1:Sto}(h:m J=some (.ok x,J1)):(m.bnd f) J=f x J1:=by simp only [Ik.Internal.M.bnd,h]
theorem Xi{o:PySem.Expr}{name:Str}{whole:Sem Value}(ho:Qn o=true):attributeBase o name env whole=whole:=by
 cases o <;> first | exact nft ho | rfl
theorem Alq(L:Z.Lv lv)(X:Ih C P n lv Z env rs Y)(S:Am Z C.G env rs)(I:Z.I s.heap U J)(D:Ag Z env rs s.heap U J Y){o:PySem.Expr}{name:Str}{m:ME}{as:List PySem.Expr}{pos apos:Pos}(hp:Aq as=true)(hn:as.length<20)(hl:(apos.endLine == pos.line)=true)(ho:Qn o=true)(hm:Wf name=some m)
 (strm:∀ {s:Shared} {U:List Addr} {J:Sto} {v:Value} {a:AV},Z.I s.heap U J->Ag Z env rs s.heap U J Y->VRel s.heap (Z.V U J) U v a->Kx a=true->∀ q J',((kindA a m).bnd λ_=>(M.still (evsA P n lv Y (cEs C d rs as))).bnd λvs=>methA a m vs) J=some (q,J')->∀ Q E,Ans Z VR U J q J' Q E s->
  wpAny Z.M Z.A (getMethod v name (do return (<- importBound o env).getD true)) (λr s1=>wpAny Z.M Z.A (callWith pos r.1 r.2 (backTo pos (starEach as env)) []) Q E s1) E s) :
 At Z VR (evA P (n+1) lv Y (.meth (cE C d rs o) m (cEs C d rs as))) (eval (.Call (.Attribute o name apos) as [] pos) env) s U J:=by
 intro q J' e Q E an;rw [arm_eval_Call,Xi ho];refine aA ((X.ev d o I D).use e an λov v h1 tk1 μ1 σ1 G1 R1 e1=>aA (dO ?_));have a1:=an.go (tk:=tk1) G1;have D1:=D.go S G1;have hform:methodCallForm (as.length+([]:List Keyword).length) (backTo pos (starEach as env)) (backToKw pos (keywordEach [] env))=true:=by
  unfold methodCallForm;rw [Dg hp];have h1:(backTo pos (as.map λe=>(false,eval e env))).all (λx=>!x.1)=true:=by
   unfold backTo;simp
  rw [h1];show (true&&true&&decide (as.length+0+(if true=true then 0 else 1)<30))=true;simp;exact ltc (fk [as.length] [(1,(.a (.v 0) (.n 1)),(.n 20)),(1,(.n 30),(.v 0))] rfl hn)
 have hpos:methodCallPos true o env apos pos=pure pos:=by unfold methodCallPos;simp [hl]
 unfold methodCall;rw [hform];have go:wpAny Z.M Z.A (getMethod v name (do return (<- importBound o env).getD true)) (λr s1=>wpAny Z.M Z.A (callWith pos r.1 r.2 (backTo pos (starEach as env)) []) Q E s1) E { s with heap:=h1,toks:=tk1}:=by
  cases hs:Kx ov with
  | true=>exact strm G1.inv D1 R1 hs q J' e1 Q E a1
  | false=>
   cases hk:kindA ov m σ1 with
   | none=>simp only [Ik.Internal.M.bnd,hk] at e1;exact nns e1
   | some r=>
    obtain ⟨r,σ2⟩:=r;rw [Pv hm];refine e03 (Apm (s:={ s with heap:=h1,toks:=tk1}) (M:=Z.M) (A:=Z.A) (E:=E) (pl:=pure false) (Q:=λ_ _=>True) G1.inv R1 hs hk trivial) λk1 k2 _=>?_;subst k1 k2;rw [Nh hk] at e1;refine e22 (Pt e1) λxs J3 h2 h3=>?_;refine (Apm (s:={ s with heap:=h1,toks:=tk1}) G1.inv R1 hs hk ?_).2.2;refine Gh hp rfl (X.evs d as pos G1.inv D1 _ _ h2 _ _ λvs h2 tk2 μ2 G2 R2=>?_);have D2:=D1.go S G2;obtain ⟨mm,hmm⟩:=D2.ns;exact Avm (s:={ s with heap:=h2,toks:=tk2}) L.rm L.sys G2.inv hmm S.infr m (VRel.on G2.on R1) hs R2 _ _ h3 _ _ (Ans.go (s:={ s with heap:=h1,toks:=tk1}) (tk:=tk2) G2 a1)
 refine aA (cQ (cC go (λr s1 hr=>?_) λ_ _ x=>x));obtain ⟨f,first⟩:=r;exact aA (bR hpos hr)
end
section
set_option backward.match.sparseCases true
section
variable{C:Cx}{P:Bi}{n lv d:Nat}{Z:Zt}{env:Env}{rs:Rs}{Y:Ae}{s:Shared}{U U':List Addr}{J J':Sto}{v w:Value}{a b:AV}
theorem Alr(I:Z.I s.heap U J){pos:Pos}:At Z VRs (M.ret []) (spliced (backTo pos (starEach [] env))) s U J:=
 At.of λQ E k=>dS (k.now' I (R:=VRs) Ab.nil)
theorem Afq(X:Ih C P n lv Z env rs Y)(S:Am Z C.G env rs)(I:Z.I s.heap U J)(D:Ag Z env rs s.heap U J Y){e:PySem.Expr}{es:List PySem.Expr}{pos:Pos}(he:starEach (e::es) env=(false,eval e env)::starEach es env) :
 At Z VRs (evsA P (n+1) lv Y (cE C d rs e::cEs C d rs es)) (spliced (backTo pos (starEach (e::es) env))) s U J:=
 λq J' e1 Q E an=>cW (he:=he) ((X.ev d e I D).use e1 an λx xv h1 tk1 μ1 σ1 G1 R1 e2=>
  (X.evs d es pos G1.inv (D.go S G1)).use e2 (an.go G1) λxs vs h2 tk2 μ2 σ2 G2 R2 e3=>by
   refine spE e3 λcc1 cc2=>?_;clear e3;subst cc1;obtain rfl:=cc2.symm;exact OkR.now' (Z:=Z) (R:=VRs) (s:={ s with heap:=h2,toks:=tk2}) G2.inv (Ans.go (s:={ s with heap:=h1,toks:=tk1}) G2 (an.go G1)) (Ab.cons (VRel.on G2.on R1) R2))
theorem Als(I:Z.I s.heap U J):At Z Afj (M.ret Option.none) (evalPart none env) s U J:=
 At.of λQ E k=>aH (k.now' I rfl)
theorem Alt(X:Ih C P n lv Z env rs Y)(I:Z.I s.heap U J)(D:Ag Z env rs s.heap U J Y){e:PySem.Expr}:At Z Afj (Wd P (n+1) lv Y (some (cE C d rs e))) (evalPart (some e) env) s U J:=
 λq J' e1 Q E an=>(X.ev d e I D).use e1 an λx xv h1 tk1 μ1 σ1 G1 R1 e2=>by
  refine spE e2 λcc1 cc2=>?_;clear e2;subst cc1;obtain rfl:=cc2.symm;exact OkR.now' (Z:=Z) (R:=Afj) (a:=some x) (s:={ s with heap:=h1,toks:=tk1}) G1.inv (an.go (tk:=tk1) G1) R1
theorem Aai(X:Ih C P n lv Z env rs Y)(I:Z.I s.heap U J)(D:Ag Z env rs s.heap U J Y){e:PySem.Expr}{pos:Pos}{op:BoolOp}:At Z VR (evA P n lv Y (cE C d rs e)) (boolOp pos op (evalEach [e] env)) s U J:=X.ev d e I D
theorem Afr(X:Ih C P n lv Z env rs Y)(S:Am Z C.G env rs)(I:Z.I s.heap U J)(D:Ag Z env rs s.heap U J Y){e e':PySem.Expr}{es:List PySem.Expr}{pos:Pos} :
 At Z VR ((evA P n lv Y (cE C d rs e)).bnd λv=>(Ac v).bnd λt=>if t then Mt P n lv Y (cEs C d rs (e'::es)) else .ret v) (boolOp pos .And (evalEach (e::e'::es) env)) s U J:=by
 intro q J' e1 Q E an
 show wpAny _ _ (eval e env >>= λv=>standAt pos >>= λ_=>holding [v] (truthy v) >>= λt=>match BoolOp.And,t with
  | .And,false | .Or,true=>pure v
  | _,_=>boolOp pos .And (evalEach (e'::es) env)) Q E s
 refine aA ((X.ev d e I D).use e1 an λx xv h1 tk1 μ1 σ1 G1 R1 e2=>aA (dO (aA (cQ ((Hi G1.inv R1).use e2 (an.go G1) λt tv h2 tk2 μ2 σ2 G2 R2 e3=>?_)))));obtain rfl:=R2.symm;have a2:=Ans.go (s:={ s with heap:=h1,toks:=tk1}) (tk:=tk2) G2 (an.go G1)
 induction t using Bool.casesOn with
 | true=>exact X.andE d (e'::es) pos G2.inv ((D.go S G1).go S G2) _ _ e3 _ _ a2
 | false=>
  refine spE e3 λcc1 cc2=>?_;clear e3;subst cc1;obtain rfl:=cc2.symm;exact aH (OkR.now' (Z:=Z) (R:=VR) (s:={ s with heap:=h2,toks:=tk2}) G2.inv a2 (VRel.on G2.on R1))
theorem Alu(X:Ih C P n lv Z env rs Y)(S:Am Z C.G env rs)(I:Z.I s.heap U J)(D:Ag Z env rs s.heap U J Y){e e':PySem.Expr}{es:List PySem.Expr}{pos:Pos} :
 At Z VR ((evA P n lv Y (cE C d rs e)).bnd λv=>(Ac v).bnd λt=>if t then .ret v else orA P n lv Y (cEs C d rs (e'::es))) (boolOp pos .Or (evalEach (e::e'::es) env)) s U J:=by
 intro q J' e1 Q E an
 show wpAny _ _ (eval e env >>= λv=>standAt pos >>= λ_=>holding [v] (truthy v) >>= λt=>match BoolOp.Or,t with
  | .And,false | .Or,true=>pure v
  | _,_=>boolOp pos .Or (evalEach (e'::es) env)) Q E s
 refine aA ((X.ev d e I D).use e1 an λx xv h1 tk1 μ1 σ1 G1 R1 e2=>aA (dO (aA (cQ ((Hi G1.inv R1).use e2 (an.go G1) λt tv h2 tk2 μ2 σ2 G2 R2 e3=>?_)))));obtain rfl:=R2.symm;have a2:=Ans.go (s:={ s with heap:=h1,toks:=tk1}) (tk:=tk2) G2 (an.go G1)
 induction t using Bool.casesOn with
 | false=>exact X.orE d (e'::es) pos G2.inv ((D.go S G1).go S G2) _ _ e3 _ _ a2
 | true=>
  refine spE e3 λcc1 cc2=>?_;clear e3;subst cc1;obtain rfl:=cc2.symm;exact aH (OkR.now' (Z:=Z) (R:=VR) (s:={ s with heap:=h2,toks:=tk2}) G2.inv a2 (VRel.on G2.on R1))
theorem Ni{v:AV}{r:Except Str Bool}(e:Ac v J=some (r,J')):J'=J/\∃ t,r=.ok t:=by
 induction v using AV.casesOn with
 | ref k=>
  unfold Ac at e;simp only [Ik.Internal.M.bnd,Ik.Internal.M.get] at e
  cases h:J[k]? with
  | none=>rw [h] at e;exact nns e
  | some o=>
   rw [h] at e
   cases o <;> first | (exact nns e;done) | (refine spE e λcc1 cc2=>?_;clear e;subst cc1;subst cc2;exact⟨rfl,_,rfl⟩)
 | _=>first | (exact nns e;done) | (refine spE e λcc1 cc2=>?_;clear e;subst cc1;subst cc2;exact⟨rfl,_,rfl⟩)
theorem Afs(X:Ih C P n lv Z env rs Y)(S:Am Z C.G env rs)(I:Z.I s.heap U J)(D:Ag Z env rs s.heap U J Y){e:PySem.Expr}:At Z EqR ((evA P n lv Y (cE C d rs e)).bnd Ac) (allTrue .And [e] env) s U J:=
 λq J' e1 Q E an=>wpAny_allTrue_And_cons (cC (X.tr d e I D _ _ e1 (λb s'=>if b then wpAny Z.M Z.A (allTrue .And [] env) Q E s' else Q false s') E (by
  induction q using Except.casesOn with
  | error _=>exact an
  | ok t=>
   intro b h' tk U' G R;obtain rfl:=R.symm
   induction t using Bool.casesOn with
   | true=>exact wpAny_allTrue_And_nil (an _ h' tk U' G rfl)
   | false=>exact an _ h' tk U' G rfl)) (λ_ _ x=>x) λ_ _ x=>x)
theorem Alv(X:Ih C P n lv Z env rs Y)(S:Am Z C.G env rs)(I:Z.I s.heap U J)(D:Ag Z env rs s.heap U J Y){e:PySem.Expr}:At Z EqR ((evA P n lv Y (cE C d rs e)).bnd Ac) (allTrue .Or [e] env) s U J:=
 λq J' e1 Q E an=>wpAny_allTrue_Or_cons (cC (X.tr d e I D _ _ e1 (λb s'=>if b then Q true s' else wpAny Z.M Z.A (allTrue .Or [] env) Q E s') E (by
  induction q using Except.casesOn with
  | error _=>exact an
  | ok t=>
   intro b h' tk U' G R;obtain rfl:=R.symm
   induction t using Bool.casesOn with
   | false=>exact wpAny_allTrue_Or_nil (an _ h' tk U' G rfl)
   | true=>exact an _ h' tk U' G rfl)) (λ_ _ x=>x) λ_ _ x=>x)
theorem Acy(X:Ih C P n lv Z env rs Y)(S:Am Z C.G env rs)(I:Z.I s.heap U J)(D:Ag Z env rs s.heap U J Y){e e':PySem.Expr}{es:List PySem.Expr} :
 At Z EqR (((evA P n lv Y (cE C d rs e)).bnd λv=>(Ac v).bnd λt=>if t then Mt P n lv Y (cEs C d rs (e'::es)) else .ret v).bnd Ac) (allTrue .And (e::e'::es) env) s U J:=by
 intro q J' e1 Q E an;have e2:(((evA P n lv Y (cE C d rs e)).bnd Ac).bnd λt=>if t then (Mt P n lv Y (cEs C d rs (e'::es))).bnd Ac else .ret false) J=some (q,J'):=by
  rw [<- e1,Bo,Bo]
  congr 2
  funext v
  rw [Bo]
  funext σ1
  cases h:Ac v σ1 with
  | none=>simp only [Ik.Internal.M.bnd,h]
  | some r=>
   obtain ⟨r,σ2⟩:=r;obtain ⟨rfl,t,rfl⟩:=Ni h;rw [Nh h,Nh h]
   induction t using Bool.casesOn with
   | true=>rfl
   | false=>show _=Ac v σ2;rw [h];rfl
 refine wpAny_allTrue_And_cons ((X.tr d e I D).use e2 an λt tv h1 tk1 μ1 σ1 G1 R1 e3=>?_);obtain rfl:=R1.symm
 induction t using Bool.casesOn with
 | true=>exact X.andT d (e'::es) G1.inv (D.go S G1) _ _ e3 _ _ (an.go G1)
 | false=>
  refine spE e3 λcc1 cc2=>?_;clear e3;subst cc1;obtain rfl:=cc2.symm;exact OkR.now' (Z:=Z) (R:=EqR) (s:={ s with heap:=h1,toks:=tk1}) G1.inv (an.go (tk:=tk1) G1) rfl
theorem Aft(X:Ih C P n lv Z env rs Y)(S:Am Z C.G env rs)(I:Z.I s.heap U J)(D:Ag Z env rs s.heap U J Y){e e':PySem.Expr}{es:List PySem.Expr} :
 At Z EqR (((evA P n lv Y (cE C d rs e)).bnd λv=>(Ac v).bnd λt=>if t then .ret v else orA P n lv Y (cEs C d rs (e'::es))).bnd Ac) (allTrue .Or (e::e'::es) env) s U J:=by
 intro q J' e1 Q E an;have e2:(((evA P n lv Y (cE C d rs e)).bnd Ac).bnd λt=>if t then .ret true else (orA P n lv Y (cEs C d rs (e'::es))).bnd Ac) J=some (q,J'):=by
  rw [<- e1,Bo,Bo]
  congr 2
  funext v
  rw [Bo]
  funext σ1
  cases h:Ac v σ1 with
  | none=>simp only [Ik.Internal.M.bnd,h]
  | some r=>
   obtain ⟨r,σ2⟩:=r;obtain ⟨rfl,t,rfl⟩:=Ni h;rw [Nh h,Nh h]
   induction t using Bool.casesOn with
   | false=>rfl
   | true=>show _=Ac v σ2;rw [h];rfl
 refine wpAny_allTrue_Or_cons ((X.tr d e I D).use e2 an λt tv h1 tk1 μ1 σ1 G1 R1 e3=>?_);obtain rfl:=R1.symm
 induction t using Bool.casesOn with
 | false=>exact X.orT d (e'::es) G1.inv (D.go S G1) _ _ e3 _ _ (an.go G1)
 | true=>
  refine spE e3 λcc1 cc2=>?_;clear e3;subst cc1;obtain rfl:=cc2.symm;exact OkR.now' (Z:=Z) (R:=EqR) (s:={ s with heap:=h1,toks:=tk1}) G1.inv (an.go (tk:=tk1) G1) rfl
end
end
section
variable{C:Cx}{P:Bi}{n lv d:Nat}{Z:Zt}{env:Env}{rs:Rs}{Y:Ae}{s:Shared}{U U':List Addr}{J J':Sto}{v w:Value}{a b:AV}
theorem Nj{x:PySem.Expr}(hp:Aq [x]=true):starEach [x] env=[(false,eval x env)]:=Dg hp
theorem Apn{x:PySem.Expr}{pos:Pos}(hp:Aq [x]=true):backTo pos (starEach [x] env)=(false,eval x env)::backTo pos (starEach [] env):=by rw [Nj hp];rfl
theorem Afu(L:Z.Lv lv)(X:Ih C P n lv Z env rs Y)(S:Am Z C.G env rs)(I:Z.I s.heap U J)(D:Ag Z env rs s.heap U J Y){f x e:PySem.Expr}{kp pos:Pos}(hf:Dp f)(hp:Aq [x]=true)(hb:(Km (cE C d rs f)).bind Lk=some .sorted) :
 At Z VR (evA P (n+1) lv Y (.sortk (cE C d rs x) (cE C d rs e))) (eval (.Call f [x] [⟨some (Str.ofString "key"),e,kp⟩] pos) env) s U J:=by
 refine e12 (aX.mp hb) λv hv hb=>?_;have hv:=Fo hv;have hb:=Nb hb;subst hb;intro q J' e0 Q E an;rw [Cm hf]
 induction n using Nat.casesAuxOn with
 | zero=>exact nns e0
 | succ n=>
  have X1:=X.ev d f I D;rw [hv] at X1;refine aA (X1 _ _ rfl _ _ λv' h1 tk1 μ1 G1 R1=>?_);have zz:=R1.inv;subst zz;have a1:=an.go (tk:=tk1) G1;have D1:=D.go S G1;refine callWith_kw (he:=Apn hp) (hplain:=Gg hp) (cW (he:=Nj hp) ((X.ev d x G1.inv D1).use e0 a1 λxv xw h2 tk2 μ2 σ2 G2 R2 e2=>dS ?_));have a2:=Ans.go (s:={ s with heap:=h1,toks:=tk1}) (tk:=tk2) G2 a1;have D2:=D1.go S G2;refine wpAny_evalAll_cons (aA ((X.ev d e G2.inv D2).use e2 a2 λkv kw h3 tk3 U3 J3 G3 R3 e3=>aA (dO (aH (wpAny_evalAll_nil ?_)))));have a3:=Ans.go (s:={ s with heap:=h2,toks:=tk2}) (tk:=tk3) G3 a2;have D3:=D2.go S G3
  induction R3 using VRel.casesOn with
  | none=>
   obtain ⟨m,hm⟩:=D3.ns;exact (At.items (Z:=Z) (R':=VR) (s:={ s with heap:=h3,toks:=tk3}) (f:=λxs=>(M.ofOpt (Cy xs)).bnd λys=>.grd (decide (ys.length<lim)) (.ret (.lst ys))) (t:=call (.builtin "sorted") [xw] Js) G3.inv (VRel.on G3.on R2) λl vs xs hl z i r=>hl▸Oz (s:={ s with heap:=h3,toks:=tk3}) L.rm G3.inv hm S.infr i r) _ _ e3 _ _ a3
  | _=>exact nns e3
end
section
variable{prog:Program}{w:World}{A:Around}{E:Value->Shared->Prop}{s:Shared}{Z:Zt}{U:List Addr}{J:Sto}
theorem Ut{it l:Addr}{i:Nat}{items:Array Value}{Q:Option Value->Shared->Prop}(hh:A.handled=none)(hit:s.heap.IsListIter it l i)(hl:s.heap.IsList l items)(hx:items[i]?=none)
 (hQ:∀ h',Heap.ExtBut it s.heap h'->(∃ o,h'.get? it=some o)->Q none { s with heap:=h'}):wpAny (model prog w) A (pyNext (.ref it)) Q E s:=by
 refine e13 (id hit) λo ho hc hd=>?_;obtain ⟨ol,hol,_,nl,hdl⟩:=hl;have body:wpAny (model prog w) A.in1 (Builtin.«list_iterator.__next__» ⟨[.ref it],[]⟩) (λfin s'=>∃ v,fin=.done (.ret v)/\False) (λx s'=>∃ h',s'={ s with heap:=h'}/\Heap.ExtBut it s.heap h'/\(∃ o,h'.get? it=some o)/\s'.TypeIs x "StopIteration") s:=by
  show wpAny _ _ (field (.ref it) 0 >>= _) _ _ s;refine aA (cU ho hd (x:=.ref l) rfl ?_);show wpAny _ _ (if (Value.ref l == Value.none)=true then _ else _) _ _ s;rw [if_neg (show ¬ ((Value.ref l == Value.none)=true) from Bool.false_ne_true)];show wpAny _ _ (field (.ref it) 1 >>= _) _ _ s;refine aA (cU ho hd (x:=.int i 0) rfl ?_);show wpAny _ _ (seqItems? (.ref l) >>= _) _ _ s;refine aA (dM hol hdl ?_);simp only [Int.toNat_natCast,hx];refine aA (wpAny_rule (aA (wpAny_setField ho hd (by simp) ?_)));show wpAny _ _ (newExc (.type "StopIteration") [] >>= _) _ _ _;refine aA ?_;simp only [newExc,newTuple];refine aA (wpAny_newObj_type ?_ (by size_fits));refine aA (m:=firstArgMember _ _) (bR (a:=Value.none) (by first | rfl | (simp only [firstArgMember];rfl)) ?_);refine wpAny_newObj_type ?_ (by size_fits);simp only [raiseNew];refine aA (wpAny_handled ?_);rw [show A.in1.handled=none from hh];refine aA (aH (wpAny_throw ⟨_,rfl,((Heap.SameBut.update ..).extBut.push _).push _,?_,⟨_,aS _ rfl,rfl⟩⟩));exact⟨_,aE _ (aE _ (dJ _ ho (Obj.isFreed_of_fields (Obj.data_mapFields hd _))))⟩
 unfold pyNext;refine aA (wpAny_attempt (wpAny_callSpecial?_slot (name:=Str.ofString "__next__") hit.typeIs slot_listiter_next
  (wpAny_call_entry slot_listiter_next hit.typeIs entry_listiter_next (cC body (λfin s' h=>h.elim λ_ h=>h.2.elim) λx s' hx=>?_) (args_listiter_next _))))
 refine e14 hx λh' zz1 k1 k2 k3=>?_;clear hx;subst zz1;refine aA (wpAny_isInstance (T:="StopIteration") (b:=true) k3 isSubtype_stop ?_);exact aH (hQ _ k1 k2)
theorem Afv(hr:Z.Room){V:Addr->Prop}{I l S:Addr}{vs:List Value}{xs:List AV}{d:Value}{r:AV}{R:Result->Shared->Prop}(i:LX s.heap l vs)(rv:Ab s.heap V U vs xs)(hI:V I)(hlI:l≠I)(hlS:l≠S)(hIS:I≠S)(hS0:s.heap.get? S=none)
 (hR:∀ v h' tk,VRel s.heap V U v r->(∀ b o,b≠I->b≠S->s.heap.get? b=some o->h'.get? b=some o)->(∃ o,h'.get? I=some o)->R (.ok (.ret v)) { s with heap:=h',toks:=tk}) :
 ∀ (k j:Nat) (h:Heap) (tk:Nat) (vb:Value) (ab:AV) (c:Nat),vs.length - j=k->(∀ b o,b≠I->b≠S->s.heap.get? b=some o->h.get? b=some o)->h.IsListIter I l j->
  h.get? S=some { cls:=.type "list",data:=.seq #[vb,vb] c}->VRel s.heap V U vb ab->Ov ab (xs.drop j)=some r->
  codeAny Z.M Z.A (.builtin "min.loop" ⟨[.ref I,.none,.ref S],[(Str.ofString "default",d)]⟩) R { s with heap:=h,toks:=tk}:=by
 have hname:(toString "min"++toString ".loop":String)="min.loop":=by decide
 have on:∀ h:Heap,(∀ b o,b≠I->b≠S->s.heap.get? b=some o->h.get? b=some o)->On s.heap V U h V U:=λh hk=>⟨λb o nb e=>hk b o (λq=>nb (q▸hI)) (λq=>by rw [q,hS0] at e;exact nns e) e,λ_ h=>.inl h,dC⟩;intro k
 induction k with
 | zero=>
  intro j h tk vb ab c hk hkp hit hS rb hm;have hd:xs.drop j=[]:=dD (by rw [<- rv.length];exact lec (fk [vs.length - j,vs.length,j] [(1,(.v 0),(.n 0)),(1,(.v 1),(.a (.v 0) (.v 2))),(1,(.a (.v 2) (.n 1)),(.v 1))] rfl (aD hk) (sbg (vs.length) (j))));rw [hd] at hm;refine snE hm λcc1=>?_;clear hm;obtain rfl:=cc1.symm;refine codeAny_builtin PySem.F.entry_min_loop ?_;rw [dY PySem.F.plain_min_loop _];show wpAny _ Z.A.in1 (seqItems? (.ref S) >>= _) _ _ _;refine aA (dM hS rfl ?_);show wpAny _ Z.A.in1 (tryCatch (pyNext (.ref I)) _ >>= _) _ _ _;obtain ⟨n,i'⟩:=id i;have li:LX h l vs:=⟨n,hkp l _ hlI hlS i'⟩;refine aA (wpAny_tryCatch (Ut hr.2 hit li.isList (by simp;exact lec (fk [vs.length - j,vs.length,j] [(1,(.v 0),(.n 0)),(1,(.v 1),(.a (.v 0) (.v 2))),(1,(.a (.v 2) (.n 1)),(.v 1))] rfl (aD hk) (sbg (vs.length) (j)))) λh' he ht=>?_));have hS':=he S _ (Ne.symm hIS) hS;show wpAny _ Z.A.in1 (updateSeq S (λ_=>#[]) >>= _) _ _ _;refine aA ?_;refine wpAny_updateSeq hS' rfl (aA (wpAny_letGo (aH ?_)));obtain ⟨oI,hoI⟩:=ht;exact hR vb _ _ rb (λb o h1 h2 e=>(dP _ _ (Ne.symm h2)).trans (he b o h1 (hkp b o h1 h2 e))) ⟨oI,(dP _ _ (Ne.symm hIS)).trans hoI⟩
 | succ k ih=>
  intro j h tk vb ab c hk hkp hit hS rb hm;have hlt:j<vs.length:=by omega
  have hlx:j<xs.length:=by rw [<- rv.length];exact hlt
  have hd:xs.drop j=xs[j]::xs.drop (j+1):=dX hlx;refine e12 (rv.get (bB hlx)) λv hv rvv=>?_;rw [hd] at hm;unfold Ov at hm;refine codeAny_builtin PySem.F.entry_min_loop ?_;rw [dY PySem.F.plain_min_loop _];show wpAny _ Z.A.in1 (seqItems? (.ref S) >>= _) _ _ _;refine aA (dM hS rfl ?_);show wpAny _ Z.A.in1 (tryCatch (pyNext (.ref I)) _ >>= _) _ _ _;obtain ⟨n,i'⟩:=id i;have li:LX h l vs:=⟨n,hkp l _ hlI hlS i'⟩;refine aA (wpAny_tryCatch (wpAny_pyNext_list_item hit li.isList (x:=v) (by simpa using hv) λh' hit' hs'=>?_));have hkp':∀ b o,b≠I->b≠S->s.heap.get? b=some o->h'.get? b=some o:=λb o h1 h2 e=>(hs'.2 b h1).trans (hkp b o h1 h2 e);have hS':h'.get? S=_:=(hs'.2 S (Ne.symm hIS)).trans hS;have x:=on h' hkp'
  cases hc:ltA dp xs[j] ab with
  | none=>rw [hc] at hm;exact nns hm
  | some b=>
   rw [hc] at hm;have hu:Z.A.in1.units+dp<cLine:=by have:=hr.1;show Z.A.units+1+8<cLine;exact ltc (fk [Z.A.units,cLine] [(1,(.a (.a (.v 0) (.n 40)) (.n 1)),(.v 1)),(1,(.v 1),(.a (.a (.v 0) (.n 1)) (.n 8)))] rfl this)
   show wpAny _ Z.A.in1 (tryCatch (holding [v,v] (richCompare .Lt v vb >>= _)) _ >>= _) _ _ _;refine aA (wpAny_tryCatch (cQ (aA (Wq (s:={ s with heap:=h',toks:=tk}) dp hu (VRel.on x rvv) (VRel.on x rb) hc _ _ _ _ ?_))));refine aA (cQ (wpAny_truthy_bool ?_));refine aA (wpAny_letGo (aH ?_))
   induction b using Bool.casesOn with
   | true=>
    simp only [if_true];refine aA ?_;refine wpAny_updateSeq hS' rfl (aA (wpAny_letGo ?_));rw [hname];refine aH ⟨plainId_quiet PySem.F.plain_min_loop _,ih (j+1) _ tk v xs[j] _ (by exact eqc (fk [vs.length - j,k,vs.length,j,vs.length - (j+1)] [(1,(.v 0),(.a (.v 1) (.n 1))),(1,(.v 2),(.a (.v 0) (.v 3))),(1,(.a (.v 4) (.a (.v 3) (.n 1))),(.v 2)),(1,(.a (.v 1) (.n 1)),(.v 4))] rfl (aD hk) (sbg (vs.length) (j)) (sbc (lec (fk [j,vs.length] [(1,(.a (.v 0) (.n 1)),(.v 1)),(1,(.a (.v 1) (.n 1)),(.a (.v 0) (.n 1)))] rfl hlt)))) (fk [k,vs.length - j,vs.length,vs.length - (j+1),j] [(1,(.a (.v 0) (.n 1)),(.v 1)),(1,(.v 2),(.a (.v 3) (.a (.v 4) (.n 1)))),(1,(.a (.v 1) (.v 4)),(.v 2)),(1,(.a (.v 3) (.n 1)),(.v 0))] rfl (aD (Eq.symm hk)) (sbg (vs.length) (j+1)) (sbc (lec (fk [j,vs.length] [(1,(.a (.v 0) (.n 1)),(.v 1)),(1,(.a (.v 1) (.n 1)),(.v 0))] rfl hlt))))) (λb o h1 h2 e=>(dP _ _ (Ne.symm h2)).trans (hkp' b o h1 h2 e)) ?_ (dJ _ hS' rfl) rvv hm⟩;exact hit'.extBut (Heap.SameBut.update ..).extBut hIS
   | false=>
    simp only [Bool.false_eq_true,if_false];refine aA (wpAny_letGo ?_);rw [hname];exact aH ⟨plainId_quiet PySem.F.plain_min_loop _,ih (j+1) _ tk vb ab c (by exact eqc (fk [vs.length - j,k,vs.length,j,vs.length - (j+1)] [(1,(.v 0),(.a (.v 1) (.n 1))),(1,(.v 2),(.a (.v 0) (.v 3))),(1,(.a (.v 4) (.a (.v 3) (.n 1))),(.v 2)),(1,(.a (.v 1) (.n 1)),(.v 4))] rfl (aD hk) (sbg (vs.length) (j)) (sbc (lec (fk [j,vs.length] [(1,(.a (.v 0) (.n 1)),(.v 1)),(1,(.a (.v 1) (.n 1)),(.a (.v 0) (.n 1)))] rfl hlt)))) (fk [k,vs.length - j,vs.length,vs.length - (j+1),j] [(1,(.a (.v 0) (.n 1)),(.v 1)),(1,(.v 2),(.a (.v 3) (.a (.v 4) (.n 1)))),(1,(.a (.v 1) (.v 4)),(.v 2)),(1,(.a (.v 3) (.n 1)),(.v 0))] rfl (aD (Eq.symm hk)) (sbg (vs.length) (j+1)) (sbc (lec (fk [j,vs.length] [(1,(.a (.v 0) (.n 1)),(.v 1)),(1,(.a (.v 1) (.n 1)),(.v 0))] rfl hlt))))) hkp' hit' hS' rb hm⟩
end
noncomputable def Aaj(d:Value):List (Str×Value):=[(Str.ofString "default",d),(Str.ofString "key",.none)]
theorem Uu(a d:Value):argsOk "min" ⟨[a],Aaj d⟩:=by unfold argsOk;kernel_rfl
section
variable{Z:Zt}{s:Shared}{U:List Addr}{J:Sto}
theorem Uv(hr:Z.Room){V:Addr->Prop}{I l:Addr}{vs:List Value}{xs:List AV}{d:Value}{i:Nat}{x r:AV}{rest:List AV}{E:Value->Shared->Prop}{Q:Value->Shared->Prop}(li:LX s.heap l vs)(rv:Ab s.heap V U vs xs)(hI:V I)(hlI:l≠I)
 (hit:s.heap.IsListIter I l i) (hd:xs.drop i=x::rest) (hm:Ov x rest=some r)
 (hQ:∀ v h' tk,VRel s.heap V U v r->(∀ b o,b≠I->s.heap.get? b=some o->h'.get? b=some o)->(∃ o,h'.get? I=some o)->Q v { s with heap:=h',toks:=tk}) :
 wpAny Z.M Z.A (call (.builtin "min") [.ref I] (Aaj d)) Q E s:=by
 have hname:(toString "min"++toString ".loop":String)="min.loop":=by decide
 refine kmb_tree PySem.F.kind_min PySem.F.plain_min PySem.F.entry_min (Uu _ _) ?_;show wpAny _ Z.A.in1 (Builtin.Builtins.bindParams "min" ["key","default"] 0 ⟨[],Aaj d⟩ >>= _) _ _ s;refine aA (bR (show Builtin.Builtins.bindParams "min" ["key","default"] 0 ⟨[],Aaj d⟩=pure [some .none,some d] from by kernel_rfl) ?_);refine aA (aH ?_);refine aA (wpAny_pyIter_listiter hit ?_);refine aA (wpAny_newObj_type ?_);rw [hname];have hlx:i<xs.length:=by
  rcases Nat.lt_or_ge i xs.length with h | h
  . exact h
  . rw [dD h] at hd;injection hd
 have hx:xs[i]?=some x:=by
  have:=aJ (λl=>l[0]?) hd;simpa [List.getElem?_drop] using this
 have hrest:xs.drop (i+1)=rest:=by
  have:=aJ List.tail hd;simpa [List.tail_drop] using this
 refine e12 (rv.get hx) λv hv rvv=>?_;have hIlt:I<s.heap.objs.size:=by refine e12 hit λo ho _=>?_;clear hit;exact cR ho
 have hllt:l<s.heap.objs.size:=by refine e11 li λn ho=>?_;clear li;exact cR ho
 refine aH ⟨plainId_quiet PySem.F.plain_min_loop _,codeAny_builtin PySem.F.entry_min_loop ?_⟩;rw [dY PySem.F.plain_min_loop _];generalize hH:s.heap.push { cls:=.type "list",data:=.seq ([]:List Value).toArray}=H;have hS:H.get? s.heap.objs.size=some { cls:=.type "list",data:=.seq #[]}:=by rw [<- hH];exact aS _ rfl
 have keep:∀ b o,s.heap.get? b=some o->H.get? b=some o:=λb o e=>by rw [<- hH];exact aE _ e
 have hIS:I≠s.heap.objs.size:=aW hIlt;show wpAny _ Z.A.in1 (seqItems? (.ref s.heap.objs.size) >>= _) _ _ _;refine aA (dM hS rfl ?_);show wpAny _ Z.A.in1 (tryCatch (pyNext (.ref I)) _ >>= _) _ _ _;refine e11 (id li) λn i'=>?_;have li':LX H l vs:=⟨n,keep l _ i'⟩;have hit2:H.IsListIter I l i:=hit.at λo e=>keep I o e;refine aA (wpAny_tryCatch (wpAny_pyNext_list_item hit2 li'.isList (x:=v) (by simpa using hv) λh' hit' hs'=>?_));have hS':h'.get? s.heap.objs.size=_:=(hs'.2 _ (Ne.symm hIS)).trans hS;show wpAny _ Z.A.in1 (updateSeq s.heap.objs.size (λ_=>#[v,v]) >>= _) _ _ _;refine aA ?_;refine wpAny_updateSeq hS' rfl ?_;rw [hname];refine aH ⟨plainId_quiet PySem.F.plain_min_loop _,Afv (V:=V) (r:=r) hr li rv hI hlI (aW hllt) hIS (Bb _) (λw h'' tk' rw' hk ht=>hQ w h'' tk' rw' (λb o hb e=>hk b o hb (aW (cR e)) e) ht) _ (i+1) _ s.toks v x _ rfl
  (λb o h1 h2 e=>(dP _ _ (Ne.symm h2)).trans ((hs'.2 b h1).trans (keep b o e))) ?_ (dJ _ hS' rfl) rvv (by rw [hrest];exact hm)⟩
 exact hit'.extBut (Heap.SameBut.update ..).extBut hIS
variable{C:Cx}{P:Bi}{n lv d:Nat}{env:Env}{rs:Rs}{Y:Ae}
theorem Rt{α γ:Type}{o:Option α}{f:α->Ik.Internal.M γ}{r:Except Str γ×Sto}(e:((Ik.Internal.M.ofOpt o).bnd f) J=some r):∃ a,o=some a/\f a J=some r:=by
 induction o using Option.casesOn with
 | none=>exact nns e
 | some a=>exact⟨a,rfl,e⟩
theorem Nk{γ:Type}{k:Nat}{f:List AV×Nat->Ik.Internal.M γ}{r:Except Str γ×Sto}(e:((Gc k).bnd f) J=some r):∃ xs i,J[k]?=some (.iter xs i)/\f (xs,i) J=some r:=by
 unfold Gc Ik.Internal.M.bnd Ik.Internal.M.get at e
 cases h:J[k]? with
 | none=>rw [h] at e;exact nns e
 | some o=>
  rw [h] at e
  induction o using Al.casesOn with
  | iter xs i=>exact⟨xs,i,rfl,e⟩
  | _=>exact nns e
theorem Alw(L:Z.Lv lv)(X:Ih C P n lv Z env rs Y)(S:Am Z C.G env rs)(I:Z.I s.heap U J)(D:Ag Z env rs s.heap U J Y){f x e e':PySem.Expr}{kp kp' pos:Pos}(hf:Dp f)(hp:Aq [x]=true)(hb:(Km (cE C d rs f)).bind Lk=some .min) :
 At Z VR (evA P (n+1) lv Y (.mink (cE C d rs x) (cE C d rs e) (cE C d rs e'))) (eval (.Call f [x] [⟨some (Str.ofString "default"),e,kp⟩,⟨some (Str.ofString "key"),e',kp'⟩] pos) env) s U J:=by
 refine e12 (aX.mp hb) λv hv hb=>?_;have hv:=Fo hv;have hb:=Nb hb;subst hb;intro q J' e0 Q E an;rw [Cm hf]
 induction n using Nat.casesAuxOn with
 | zero=>exact nns e0
 | succ n=>
  have X1:=X.ev d f I D;rw [hv] at X1;refine aA (X1 _ _ rfl _ _ λv' h1 tk1 μ1 G1 R1=>?_);have zz:=R1.inv;subst zz;have a1:=an.go (tk:=tk1) G1;have D1:=D.go S G1;refine callWith_kw (he:=Apn hp) (hplain:=Gg hp) (cW (he:=Nj hp) ((X.ev d x G1.inv D1).use e0 a1 λxv xw h2 tk2 μ2 σ2 G2 R2 e2=>dS ?_));have a2:=Ans.go (s:={ s with heap:=h1,toks:=tk1}) (tk:=tk2) G2 a1;have D2:=D1.go S G2;refine wpAny_evalAll_cons (aA ((X.ev d e G2.inv D2).use e2 a2 λdv dw h3 tk3 U3 J3 G3 R3 e3=>aA (dO (aH ?_))));have a3:=Ans.go (s:={ s with heap:=h2,toks:=tk2}) (tk:=tk3) G3 a2;have D3:=D2.go S G3;refine wpAny_evalAll_cons (aA ((X.ev d e' G3.inv D3).use e3 a3 λkv kw h4 tk4 U4 J4 G4 R4 e4=>aA (dO (aH (wpAny_evalAll_nil ?_)))));have a4:=Ans.go (s:={ s with heap:=h3,toks:=tk3}) (tk:=tk4) G4 a3;have RI:=VRel.on G4.on (VRel.on G3.on R2)
  induction xv using AV.casesOn with
  | ref k=>
   refine e12 RI.inv λj ek zz=>?_;clear RI;subst zz
   induction kv using AV.casesOn with
   | none=>
    have zz9:=VRel.inv R4;subst zz9;refine e22 (Nk e4) λxs i ho e5=>?_;refine e24 (G4.inv.obj ek ho) λl vs hit li nl rv=>?_
    cases hd:xs.drop i with
    | nil=>simp only [hd] at e5;exact nns e5
    | cons y r=>
     simp only [hd] at e5;refine e12 (Rt e5) λz hm e6=>?_;refine spE e6 λcc1 cc2=>?_;clear e6;subst cc1;subst cc2;have hV:Z.V U4 J4 j:=.inl ⟨k,_,ek,ho,rfl⟩;have hlj:l≠j:=λq=>nl (q▸hV);have hjf:j∉Z.fr:=λq=>(G4.inv.frs j q).1 (aO ek);refine Uv (s:={ s with heap:=h4,toks:=tk4}) L.rm li rv hV hlj hit hd hm λw h' tk' rw' hk ht=>?_;have G5:=G4.inv.turn (h':=h') (ao':=.dead) ek ho rfl (λb o hb _ e=>hk b o hb e) (λa ha=>.of λo e=>hk a o (λq=>hjf (q▸ha)) e) ht λ_=>trivial;exact a4 _ h' tk' U4 G5 (VRel.on G5.on rw')
   | _=>exact nns e4
  | _=>exact nns e4
end
structure Afw(C:Cx)(P:Bi)(n lv:Nat)(Z:Zt)(env:Env)(rs:Rs)(Y:Ae):Prop where
 call:∀ (d:Nat) (f:PySem.Expr) (as:List PySem.Expr) (pos:Pos) {s:Shared} {U:List Addr} {J:Sto},Dp f->Aq as=true->Z.I s.heap U J->Ag Z env rs s.heap U J Y->
  At Z VR (evA P (n+1) lv Y (.call (cE C d rs f) (cEs C d rs as))) (eval (.Call f as [] pos) env) s U J
 comp:∀ (d:Nat) (elt t iter:PySem.Expr) (ifs:List PySem.Expr) (sc:Scope) (ts:List Nat) (m:Bool) (pos:Pos) {s:Shared} {U:List Addr} {J:Sto},Ty rs sc=true->El (rsOf C.G sc.names 100 rs) t=some ts->Z.I s.heap U J->Ag Z env rs s.heap U J Y->
  At Z VR (evA P (n+1) lv Y (.comp m (cE C d (rsOf C.G sc.names 100 rs) elt) ts (cI C d rs iter) (cEs C d (rsOf C.G sc.names 100 rs) ifs))) (eval (.ListComp elt [⟨t,iter,ifs,0⟩] sc pos) env) s U J
 strm:∀ (d:Nat) (as:List PySem.Expr) (m:ME) (pos:Pos) (pl:Sem Bool) {s:Shared} {U:List Addr} {J:Sto} {v:Value} {a:AV},Aq as=true->Z.I s.heap U J->Ag Z env rs s.heap U J Y->VRel s.heap (Z.V U J) U v a->Kx a=true->
  ∀ q J',((kindA a m).bnd λ_=>(M.still (evsA P n lv Y (cEs C d rs as))).bnd λvs=>methA a m vs) J=some (q,J')->∀ Q E,Ans Z VR U J q J' Q E s->
   wpAny Z.M Z.A (getMethod v (Str.ofString (meS m)) pl) (λr s1=>wpAny Z.M Z.A (callWith pos r.1 r.2 (backTo pos (starEach as env)) []) Q E s1) E s
section
variable{C:Cx}{P:Bi}{n lv d:Nat}{Z:Zt}{env:Env}{rs:Rs}{Y:Ae}{s:Shared}{U U':List Addr}{J J':Sto}
theorem Jw{c:Prop}[Decidable c]{x:IE}{t:Sem Value}(h:c->At Z VR (evA P (n+1) lv Y x) t s U J):At Z VR (evA P (n+1) lv Y (if c then x else .stuck)) t s U J:=by
 by_cases q:c
 . rw [if_pos q];exact h q
 . rw [if_neg q];exact .fail
theorem Ry{α:Type}{o:Option α}{f:α->IE}{t:Sem Value}(h:∀ a,o=some a->At Z VR (evA P (n+1) lv Y (f a)) t s U J):At Z VR (evA P (n+1) lv Y (Wg (o.map f))) t s U J:=by
 induction o using Option.casesOn with
 | none=>exact .fail
 | some a=>exact h a rfl
theorem Alx{f:PySem.Expr}(hf:Dp f){as:List PySem.Expr}{kws:List Keyword}{pos:Pos}:cE C (d+1) rs (.Call f as kws pos)=Aph (Ow C d) rs f as kws:=by
 induction f using PySem.Expr.casesOn with
 | Attribute _ _ _=>exact False.elim hf
 | _=>rfl
theorem Aly{v:Option BI}(h:Zr .sorted v=true):v=some .sorted:=by
 induction v using Option.casesOn with
 | none=>exact nft h
 | some b=>cases b <;> first | rfl | exact nft h
theorem Alz{v:Option BI}(h:Zr .min v=true):v=some .min:=by
 induction v using Option.casesOn with
 | none=>exact nft h
 | some b=>cases b <;> first | rfl | exact nft h
theorem Ct(L:Z.Lv lv)(X:Ih C P n lv Z env rs Y)(YY:Afw C P n lv Z env rs Y)(S:Am Z C.G env rs)(I:Z.I s.heap U J)(D:Ag Z env rs s.heap U J Y):∀ (d:Nat) (e:PySem.Expr),At Z VR (evA P (n+1) lv Y (cE C d rs e)) (eval e env) s U J
 | 0,e=>.fail
 | d+1,e=>by
  induction e using PySem.Expr.casesOn with
  | Constant c k pos=>exact Afo I
  | Name x pos=>
   show At Z VR (evA P (n+1) lv Y (if (x == ("__debug__":Str)) then .stuck else match rs x with
    | .var i=>if C.fz pos then .frz i else .var i
    | .cvar i=>if C.fz pos then .frz i else .cvar i
    | r=>r)) _ _ _ _
   split
   . exact .fail
   . rename_i hd;have hd:(x == ("__debug__":Str))=false:=by simpa using hd
     rcases S.form x with ⟨i,q,_⟩ | ⟨i,c,q,_⟩ | ⟨v,q,_⟩ | q
     . rw [q];dsimp only;split
       . exact Afn S I D (.inl q) hd
       . exact Afm S I D (.inl q) hd
     . rw [q];dsimp only;split
       . exact Afn S I D (.inr q) hd
       . exact Afm S I D (.inr q) hd
     . rw [q];exact Arp S I q hd
     . rw [q];exact .fail
  | BinOp l o r pos=>exact Ry λop ho=>Ari X S I D ho
  | IfExp c x y pos=>exact Arq X S I D
  | Tuple es k pos=>exact Arn X S I D
  | List es pos=>exact Aro X S I D
  | BoolOp op vs pos=>
   induction op using PySem.BoolOp.casesOn with
   | And=>exact X.andE d vs pos I D
   | Or=>exact X.orE d vs pos I D
  | UnaryOp op x pos=>
   induction op using PySem.UnaryOp.casesOn with
   | USub=>exact Arl X S I D
   | Not=>exact Arm X S I D
   | _=>exact .fail
  | Dict ks vs pos=>
   refine Jw λh=>?_;refine e02 (aK.mp h) λh1 h2=>?_;have zz9:=bS.mp h1;subst zz9;have zz9:=bS.mp h2;subst zz9;exact Alm I
  | Compare l ops rs' pos=>
   induction ops using List.casesOn with
   | nil=>exact .fail
   | cons o ops=>
    refine Jw λh=>?_;have zz9:=bS.mp h;subst zz9
    induction rs' using List.casesOn with
    | nil=>exact .fail
    | cons r rs'=>
     refine Jw λh=>?_;refine e02 (aK.mp h) λh1 h2=>?_;have zz9:=bS.mp h1;subst zz9;exact Ry λop ho=>Arj L X S I D ho (by cases hb:behindInMarks o r with | false=>rfl | true=>rw [hb] at h2;exact nft h2)
  | Subscript o i pos=>
   induction i using PySem.Expr.casesOn with
   | Slice lo hi st p=>exact Arv X S I D
   | _=>exact Aru X S I D
  | ListComp elt gens sc pos=>
   induction gens using List.casesOn with
   | nil=>exact .fail
   | cons g r=>
    refine Jw λh=>?_;refine e02 (aK.mp h) λh hs=>?_;refine e02 (aK.mp h) λh1 h2=>?_;have zz9:=bS.mp h1;subst zz9;obtain ⟨t,iter,ifs,as⟩:=g;have h2:as=0:=aB h2;subst h2;exact Ry λts ht=>YY.comp d elt t iter ifs sc ts _ pos hs ht I D
  | Call f as kws pos=>
   by_cases hf:Dp f
   . rw [Alx hf]
     induction kws using List.casesOn with
     | nil=>
      refine Jw λhp=>?_
      cases hb:Akf (Ow C d) rs f with
      | some b=>exact Arw L X S I D hf hp hb
      | none=>exact YY.call d f as pos hf hp I D
     | cons k ks=>
      induction as using List.casesOn with
      | nil=>exact .fail
      | cons x as=>
       refine Jw λh=>?_;refine e02 (aK.mp h) λh1 hp=>?_;have zz9:=bS.mp h1;subst zz9;obtain ⟨ka,e,kp⟩:=k
       induction ks using List.casesOn with
       | nil=>
        refine Jw λh=>?_;refine e02 (aK.mp h) λhb hk=>?_;have hk:ka=some (Str.ofString "key"):=aB hk;subst hk;exact Afu L X S I D hf hp (Aly hb)
       | cons k' ks=>
        refine Jw λh=>?_;refine e02 (aK.mp h) λh hk'=>?_;refine e02 (aK.mp h) λh hk=>?_;refine e02 (aK.mp h) λh1 hb=>?_;have zz9:=bS.mp h1;subst zz9;obtain ⟨ka',e',kp'⟩:=k';have hk:ka=some (Str.ofString "default"):=aB hk;have hk':ka'=some (Str.ofString "key"):=aB hk';subst hk hk';exact Alw L X S I D hf hp (Alz hb)
   . induction f using PySem.Expr.casesOn with
     | Attribute o name apos=>
      refine Jw λh=>?_;refine e02 (aK.mp h) λh h4=>?_;refine e02 (aK.mp h) λh h3=>?_;refine e02 (aK.mp h) λh h2=>?_;refine e02 (aK.mp h) λh0 h1=>?_;have zz9:=bS.mp h0;subst zz9;refine Ry λm hm=>?_;refine Alq L X S I D h1 (aB h2) h3 h4 hm λ{s U J v a} I D R hs q J' e Q E an=>?_;rw [Pv hm];exact YY.strm d as m pos _ h1 I D R hs q J' e Q E an
     | _=>exact absurd trivial hf
  | _=>exact .fail
end
theorem Pb{M:Model}{A:Around}{E:Value->Shared->Prop}{s:Shared}{env:Env}{test body orelse:PySem.Expr}{pos:Pos}{whole:Sem Value}{Q:Bool->Shared->Prop}
 (h:wpAny M A (isTrue test env (eval test env)) (λb s1=>if b then wpAny M A (isTrue body env (eval body env)) Q E s1 else wpAny M A (isTrue orelse env (eval orelse env)) Q E s1) E s) :
 wpAny M A (isTrue (.IfExp test body orelse pos) env whole) Q E s:=by
 rw [arm_isTrue_IfExp];refine aA (cC h (λb s1 h1=>?_) λ_ _ x=>x)
 cases b <;> exact h1
section
variable{C:Cx}{P:Bi}{n lv d:Nat}{Z:Zt}{env:Env}{rs:Rs}{Y:Ae}{s:Shared}{U U':List Addr}{J J':Sto}
theorem Arx(X:Ih C P n lv Z env rs Y)(S:Am Z C.G env rs)(I:Z.I s.heap U J)(D:Ag Z env rs s.heap U J Y){c x y:PySem.Expr}{pos:Pos}{whole:Sem Value} :
 At Z EqR ((evA P (n+1) lv Y (.ite (cE C d rs c) (cE C d rs x) (cE C d rs y))).bnd Ac) (isTrue (.IfExp c x y pos) env whole) s U J:=by
 intro q J' e Q E an;have e':(((evA P n lv Y (cE C d rs c)).bnd Ac).bnd λt=>if t then (evA P n lv Y (cE C d rs x)).bnd Ac else (evA P n lv Y (cE C d rs y)).bnd Ac) J=some (q,J'):=by
  rw [<- e];show _=(((evA P n lv Y (cE C d rs c)).bnd λx=>(Ac x).bnd λt=>_).bnd Ac) J;rw [Bo,Bo]
  congr 2
  funext v
  rw [Bo]
  congr 1
  funext t
  cases t <;> rfl
 refine Pb ((X.tr d c I D).use e' an λt tv h1 tk1 μ1 σ1 G1 R1 e1=>?_);obtain rfl:=R1.symm
 induction t using Bool.casesOn with
 | true=>exact X.tr d x G1.inv (D.go S G1) _ _ e1 _ _ (an.go G1)
 | false=>exact X.tr d y G1.inv (D.go S G1) _ _ e1 _ _ (an.go G1)
theorem En{t:Sem Bool}:At Z EqR ((evA P (n+1) lv Y .stuck).bnd Ac) t s U J:=λq J' e=>by exact nns e
theorem Apo{c:Prop}[Decidable c]{x:IE}{t:Sem Bool}(h:c->At Z EqR ((evA P (n+1) lv Y x).bnd Ac) t s U J):At Z EqR ((evA P (n+1) lv Y (if c then x else .stuck)).bnd Ac) t s U J:=by
 by_cases q:c
 . rw [if_pos q];exact h q
 . rw [if_neg q];exact En
theorem Ary{α:Type}{o:Option α}{f:α->IE}{t:Sem Bool}(h:∀ a,o=some a->At Z EqR ((evA P (n+1) lv Y (f a)).bnd Ac) t s U J):At Z EqR ((evA P (n+1) lv Y (Wg (o.map f))).bnd Ac) t s U J:=by
 induction o using Option.casesOn with
 | none=>exact En
 | some a=>exact h a rfl
theorem Ama(L:Z.Lv lv)(X:Ih C P n lv Z env rs Y)(YY:Afw C P n lv Z env rs Y)(S:Am Z C.G env rs)(I:Z.I s.heap U J)(D:Ag Z env rs s.heap U J Y):∀ (d:Nat) (e:PySem.Expr),At Z EqR ((evA P (n+1) lv Y (cE C d rs e)).bnd Ac) (isTrue e env (eval e env)) s U J
 | 0,e=>En
 | d+1,e=>by
  induction e using PySem.Expr.casesOn with
  | IfExp c x y pos=>exact Arx X S I D
  | UnaryOp o x pos=>
   induction o using PySem.UnaryOp.casesOn with
   | Not=>exact Arr X S I D
   | USub=>exact Fe X (Ct L X YY S I D (d+1) _) rfl
   | _=>exact En
  | BoolOp o es pos=>
   induction o using PySem.BoolOp.casesOn with
   | And=>exact Ars X I D
   | Or=>exact Avn X I D
  | Compare l ops rs' pos=>
   induction ops using List.casesOn with
   | nil=>exact En
   | cons op ops=>
    refine Apo λh=>?_;have zz9:=bS.mp h;subst zz9
    induction rs' using List.casesOn with
    | nil=>exact En
    | cons r rs'=>
     refine Apo λh=>?_;refine e02 (aK.mp h) λh1 h2=>?_;have zz9:=bS.mp h1;subst zz9;exact Ary λo ho=>Ark L X S I D ho (by cases hb:behindInMarks op r with | false=>rfl | true=>rw [hb] at h2;exact nft h2)
  | Constant c k pos=>exact Fe X (Ct L X YY S I D (d+1) _) rfl
  | Name x pos=>exact Fe X (Ct L X YY S I D (d+1) _) rfl
  | BinOp l o r pos=>exact Fe X (Ct L X YY S I D (d+1) _) rfl
  | Tuple es k pos=>exact Fe X (Ct L X YY S I D (d+1) _) rfl
  | List es pos=>exact Fe X (Ct L X YY S I D (d+1) _) rfl
  | Dict ks vs pos=>exact Fe X (Ct L X YY S I D (d+1) _) rfl
  | ListComp elt gs sc pos=>exact Fe X (Ct L X YY S I D (d+1) _) rfl
  | Call f as kws pos=>exact Fe X (Ct L X YY S I D (d+1) _) rfl
  | Subscript v i pos=>exact Fe X (Ct L X YY S I D (d+1) _) rfl
  | _=>exact En
theorem Afx(X:Ih C P n lv Z env rs Y)(S:Am Z C.G env rs)(I:Z.I s.heap U J)(D:Ag Z env rs s.heap U J Y):∀ (d:Nat) (es:List PySem.Expr) (pos:Pos),At Z VRs (evsA P (n+1) lv Y (cEs C d rs es)) (spliced (backTo pos (starEach es env))) s U J
 | 0,es,pos=>by
  intro q J' e
  induction n using Nat.casesAuxOn with
  | zero=>exact nns e
  | succ n=>exact nns e
 | d+1,[],pos=>Alr I
 | d+1,e::es,pos=>by
  by_cases h:∃ x p,e=.Starred x p
  . refine e21 h λx p zz2=>?_;clear h;subst zz2;intro q J' e
    induction n using Nat.casesAuxOn with
    | zero=>exact nns e
    | succ n=>exact nns e
  . have h1:cEs C (d+1) rs (e::es)=cE C d rs e::cEs C d rs es:=by
     cases e <;> first | rfl | exact (h ⟨_,_,rfl⟩).elim
    have h2:starEach (e::es) env=(false,eval e env)::starEach es env:=by
     cases e <;> first | rfl | exact (h ⟨_,_,rfl⟩).elim
    rw [h1];exact Afq X S I D h2
theorem Amb(X:Ih C P n lv Z env rs Y)(I:Z.I s.heap U J)(D:Ag Z env rs s.heap U J Y):∀ (d:Nat) (e:Option PySem.Expr),At Z Afj (Wd P (n+1) lv Y (cO C d rs e)) (evalPart e env) s U J
 | 0,e=>by
  intro q J' e
  induction n using Nat.casesAuxOn with
  | zero=>exact nns e
  | succ n=>exact nns e
 | d+1,Option.none=>Als I
 | d+1,some e=>Alt X I D
theorem Au:evA P n lv Y .stuck J=none:=by cases n <;> rfl
theorem Cu(e:PySem.Expr)(es:List PySem.Expr):cEs C (d+1) rs (e::es)=.stuck::cEs C d rs es\/cEs C (d+1) rs (e::es)=cE C d rs e::cEs C d rs es:=by
 cases e <;> first | exact .inr rfl | exact .inl rfl
theorem Ej{r:List IE}:Mt P (n+1) lv Y (.stuck::r) J=none:=by
 induction r using List.casesOn with
 | nil=>exact Au
 | cons x r=>show ((evA P n lv Y .stuck).bnd _) J=none;simp only [Ik.Internal.M.bnd,Au]
theorem Fp{r:List IE}:orA P (n+1) lv Y (.stuck::r) J=none:=by
 induction r using List.casesOn with
 | nil=>exact Au
 | cons x r=>show ((evA P n lv Y .stuck).bnd _) J=none;simp only [Ik.Internal.M.bnd,Au]
theorem At.none{α β:Type}{R:Ie α β}{m:M β}{t:Sem α}(h:m J=none):At Z R m t s U J:=λq J' e=>by rw [h] at e;exact nns e
theorem Bg{α β:Type}{m:M α}{f:α->M β}(h:m J=none):(m.bnd f) J=none:=by simp only [Ik.Internal.M.bnd,h]
theorem Acz(X:Ih C P n lv Z env rs Y)(S:Am Z C.G env rs)(I:Z.I s.heap U J)(D:Ag Z env rs s.heap U J Y):∀ (d:Nat) (es:List PySem.Expr) (pos:Pos),At Z VR (Mt P (n+1) lv Y (cEs C d rs es)) (boolOp pos .And (evalEach es env)) s U J
 | 0,es,pos=>.none Ej
 | d+1,[],pos=>.none rfl
 | 1,e::es,pos=>.none (by rcases Cu (C:=C) (d:=0) (rs:=rs) e es with h | h <;> (rw [h];exact Ej))
 | d+2,e::es,pos=>by
  rcases Cu (C:=C) (d:=d+1) (rs:=rs) e es with h | h
  . rw [h];exact .none Ej
  . rw [h]
    induction es using List.casesOn with
    | nil=>exact Aai X I D
    | cons e' es=>exact Afr X S I D
theorem Afy(X:Ih C P n lv Z env rs Y)(S:Am Z C.G env rs)(I:Z.I s.heap U J)(D:Ag Z env rs s.heap U J Y):∀ (d:Nat) (es:List PySem.Expr) (pos:Pos),At Z VR (orA P (n+1) lv Y (cEs C d rs es)) (boolOp pos .Or (evalEach es env)) s U J
 | 0,es,pos=>.none Fp
 | d+1,[],pos=>.none rfl
 | 1,e::es,pos=>.none (by rcases Cu (C:=C) (d:=0) (rs:=rs) e es with h | h <;> (rw [h];exact Fp))
 | d+2,e::es,pos=>by
  rcases Cu (C:=C) (d:=d+1) (rs:=rs) e es with h | h
  . rw [h];exact .none Fp
  . rw [h]
    induction es using List.casesOn with
    | nil=>exact Aai X I D
    | cons e' es=>exact Alu X S I D
theorem Ada(X:Ih C P n lv Z env rs Y)(S:Am Z C.G env rs)(I:Z.I s.heap U J)(D:Ag Z env rs s.heap U J Y):∀ (d:Nat) (es:List PySem.Expr),At Z EqR ((Mt P (n+1) lv Y (cEs C d rs es)).bnd Ac) (allTrue .And es env) s U J
 | 0,es=>.none (Bg Ej)
 | d+1,[]=>.none (Bg rfl)
 | 1,e::es=>.none (by rcases Cu (C:=C) (d:=0) (rs:=rs) e es with h | h <;> (rw [h];exact Bg Ej))
 | d+2,e::es=>by
  rcases Cu (C:=C) (d:=d+1) (rs:=rs) e es with h | h
  . rw [h];exact .none (Bg Ej)
  . rw [h]
    induction es using List.casesOn with
    | nil=>exact Afs X S I D
    | cons e' es=>exact Acy X S I D
theorem Afz(X:Ih C P n lv Z env rs Y)(S:Am Z C.G env rs)(I:Z.I s.heap U J)(D:Ag Z env rs s.heap U J Y):∀ (d:Nat) (es:List PySem.Expr),At Z EqR ((orA P (n+1) lv Y (cEs C d rs es)).bnd Ac) (allTrue .Or es env) s U J
 | 0,es=>.none (Bg Fp)
 | d+1,[]=>.none (Bg rfl)
 | 1,e::es=>.none (by rcases Cu (C:=C) (d:=0) (rs:=rs) e es with h | h <;> (rw [h];exact Bg Fp))
 | d+2,e::es=>by
  rcases Cu (C:=C) (d:=d+1) (rs:=rs) e es with h | h
  . rw [h];exact .none (Bg Fp)
  . rw [h]
    induction es using List.casesOn with
    | nil=>exact Alv X S I D
    | cons e' es=>exact Aft X S I D
theorem Ih.step(L:Z.Lv lv)(X:Ih C P n lv Z env rs Y)(YY:Afw C P n lv Z env rs Y)(S:Am Z C.G env rs):Ih C P (n+1) lv Z env rs Y where
 ev d e _ _ _ I D:=Ct L X YY S I D d e
 tr d e _ _ _ I D:=Ama L X YY S I D d e
 evs d es pos _ _ _ I D:=Afx X S I D d es pos
 op d e _ _ _ I D:=Amb X I D d e
 andE d es pos _ _ _ I D:=Acz X S I D d es pos
 orE d es pos _ _ _ I D:=Afy X S I D d es pos
 andT d es _ _ _ I D:=Ada X S I D d es
 orT d es _ _ _ I D:=Afz X S I D d es
theorem Ih.zero:Ih C P 0 lv Z env rs Y where
 ev d e _ _ _ I D:=.none rfl
 tr d e _ _ _ I D:=.none rfl
 evs d es pos _ _ _ I D:=.none rfl
 op d e _ _ _ I D:=.none rfl
 andE d es pos _ _ _ I D:=.none rfl
 orE d es pos _ _ _ I D:=.none rfl
 andT d es _ _ _ I D:=.none rfl
 orT d es _ _ _ I D:=.none rfl
end
noncomputable abbrev Zt.sub(Z:Zt)(as:List Addr):Zt:={ Z with fr:=as++Z.fr}
structure Mv(Z:Zt)(as bs:List Addr)(h:Heap)(U:List Addr)(J:Sto)(h':Heap)(U':List Addr)(J':Sto):Prop where
 inv:(Z.sub bs).I h' U' J'
 on:On h (Vt (as++Z.fr) U J) U h' (Vt (bs++Z.fr) U' J') U'
 fk:∀ a∈Z.fr,Hg h h' a
section
variable{Z:Zt}{as bs cs U U' U'':List Addr}{h h' h'':Heap}{J J' J'':Sto}
theorem Mv.trans(x:Mv Z as bs h U J h' U' J')(y:Mv Z bs cs h' U' J' h'' U'' J''):Mv Z as cs h U J h'' U'' J'':=⟨y.inv,x.on.trans y.on,λa ha=>(x.fk a ha).trans (y.fk a ha)⟩
theorem Mv.of_go(x:(Z.sub as).Go h U J h' U' J'):Mv Z as as h U J h' U' J':=⟨x.inv,x.on,λa ha=>x.fk a (aI _ ha)⟩
theorem Mv.of_go0(x:Z.Go h U J h' U' J'):Mv Z [] [] h U J h' U' J':=⟨x.inv,x.on,x.fk⟩
theorem Mv.go(x:Mv Z [] [] h U J h' U' J'):Z.Go h U J h' U' J':=⟨x.inv,x.on,x.fk⟩
theorem Mv.refl(I:(Z.sub as).I h U J):Mv Z as as h U J h U J:=⟨I,.refl,λ_ _=>.refl⟩
theorem Mv.enter(I:(Z.sub as).I h U J)(k:∀ b o,h.get? b=some o->h'.get? b=some o)(n:∀ a∈bs,h.get? a=none/\∃ o,h'.get? a=some o):Mv Z as (bs++as) h U J h' U J:=by
 have x:On h (Vt (as++Z.fr) U J) U h' (Vt (bs++as++Z.fr) U J) U:=⟨λb o _ e=>k b o e,λa q=>by
  rcases q with q | q
  . exact .inl (.inl q)
  . rw [bC] at q;rcases aZ.mp q with q | q
    . exact .inr (n a q).1
    . exact .inl (.inr q),dC⟩
 refine⟨⟨λb o e=>k b o (I.base b o e),I.len,I.nodup,I.out,λa ha=>(I.there a ha).imp λo e=>k a o e,λi a o e1 e2=>(I.objs i a o e1 e2).on x λob e=>k a ob e,λa ha=>?_⟩,x,λa _=>.of (k a)⟩;have ha:a∈bs++as++Z.fr:=ha;rw [bC] at ha;rcases aZ.mp ha with q | q
 . refine⟨λz=>?_,?_,(n a q).2⟩
   . refine e11 (I.there a z) λo e=>?_;rw [(n a q).1] at e;exact nns e
   . cases e:Z.g.get? a with
     | none=>rfl
     | some o=>have:=I.base a o e;rw [(n a q).1] at this;exact nns this
 . exact⟨(I.frs a q).1,(I.frs a q).2.1,(I.frs a q).2.2.imp λo e=>k a o e⟩
theorem Uw(I:Z.I h U J)(n:∀ a∈bs,h.get? a=none):∀ a∈bs,a∉Z.fr:=λa ha q=>by
 refine e11 ((I.frs a q).2.2) λo e=>?_;rw [n a ha] at e;exact nns e
theorem Mv.spin(I:(Z.sub as).I h U J)(d:∀ a∈as,a∉Z.fr)(k:∀ b o,b∉as->h.get? b=some o->h'.get? b=some o)(t:∀ a∈as,∃ o,h'.get? a=some o):Mv Z as as h U J h' U J:=by
 have x:On h (Vt (as++Z.fr) U J) U h' (Vt (as++Z.fr) U J) U:=⟨λb o n e=>k b o (λq=>n (.inr (aG _ q))) e,λ_ h=>.inl h,dC⟩;have nf:∀ a,a∈U->a∉as:=λa ha q=>(I.frs a (aG _ q)).1 ha;refine⟨⟨λb o e=>k b o (λq=>by rw [(I.frs b (aG _ q)).2.1] at e;exact nns e) (I.base b o e),I.len,I.nodup,I.out,λa ha=>(I.there a ha).imp λo e=>k a o (nf a ha) e,
  λi a o e1 e2=>(I.objs i a o e1 e2).on x λob e=>k a ob (nf a (aO e1)) e,λa ha=>⟨(I.frs a ha).1,(I.frs a ha).2.1,?_⟩⟩,x,λa ha=>.of λo e=>k a o (λq=>d a q ha) e⟩
 by_cases q:a∈as
 . exact t a q
 . exact (I.frs a ha).2.2.imp λo e=>k a o q e
theorem Mv.out(I:(Z.sub as).I h U J)(d:∀ a∈as,a∉Z.fr)(k:∀ b o,b∉as->h.get? b=some o->h'.get? b=some o):Mv Z as [] h U J h' U J:=by
 have x:On h (Vt (as++Z.fr) U J) U h' (Vt Z.fr U J) U:=⟨λb o n e=>k b o (λq=>n (.inr (aG _ q))) e,λ_ h=>.inl (h.imp id (aI _)),dC⟩;have nf:∀ a,a∈U->a∉as:=λa ha q=>(I.frs a (aG _ q)).1 ha;refine⟨⟨λb o e=>k b o (λq=>by rw [(I.frs b (aG _ q)).2.1] at e;exact nns e) (I.base b o e),I.len,I.nodup,I.out,λa ha=>(I.there a ha).imp λo e=>k a o (nf a ha) e,
  λi a o e1 e2=>(I.objs i a o e1 e2).on x λob e=>k a ob (nf a (aO e1)) e,λa ha=>?_⟩,x,λa ha=>.of λo e=>k a o (λq=>d a q ha) e⟩
 have y:=I.frs a (aI _ ha);exact⟨y.1,y.2.1,y.2.2.imp λo e=>k a o (λq=>d a q ha) e⟩
theorem Mv.outTo(I:(Z.sub as).I h U J)(d:∀ a∈as,a∉Z.fr)(hb:∀ b∈bs,b∈as)(k:∀ b o,(b∉as\/b∈bs)->h.get? b=some o->h'.get? b=some o):Mv Z as bs h U J h' U J:=by
 have x:On h (Vt (as++Z.fr) U J) U h' (Vt (bs++Z.fr) U J) U:=⟨λb o n e=>k b o (.inl λq=>n (.inr (aG _ q))) e,λ_ h=>.inl (h.imp id λq=>(aZ.mp q).elim (λq=>aG _ (hb _ q)) (aI _)),dC⟩;have nf:∀ a,a∈U->a∉as:=λa ha q=>(I.frs a (aG _ q)).1 ha;refine⟨⟨λb o e=>k b o (.inl λq=>by rw [(I.frs b (aG _ q)).2.1] at e;exact nns e) (I.base b o e),I.len,I.nodup,I.out,λa ha=>(I.there a ha).imp λo e=>k a o (.inl (nf a ha)) e,
  λi a o e1 e2=>(I.objs i a o e1 e2).on x λob e=>k a ob (.inl (nf a (aO e1))) e,λa ha=>?_⟩,x,λa ha=>.of λo e=>k a o (.inl λq=>d a q ha) e⟩
 rcases aZ.mp ha with q | q
 . have y:=I.frs a (aG _ (hb a q));exact⟨y.1,y.2.1,y.2.2.imp λo e=>k a o (.inr q) e⟩
 . have y:=I.frs a (aI _ q);exact⟨y.1,y.2.1,y.2.2.imp λo e=>k a o (.inl λz=>d a z q) e⟩
theorem Mv.out'(I:(Z.sub as).I h U J)(d:∀ a∈as,a∉Z.fr):Mv Z as [] h U J h U J:=Mv.out I d λ_ _ _ e=>e
theorem Mv.place(I:(Z.sub as).I h U J)(d:∀ a∈as,a∉Z.fr){a:Addr}{ao:Al}(ha:a∈as)(hb:∀ b∈bs,b∈as/\b≠a)(r:On h (Vt (as++Z.fr) U J) U h (Vt (bs++Z.fr) (U++[a]) (J++[ao])) (U++[a])->Qs Z.prog Z.w h ((Z.sub bs).V (U++[a]) (J++[ao])) (U++[a]) a ao) :
 Mv Z as bs h U J h (U++[a]) (J++[ao]):=by
 have x:=Mv.outTo (h':=hideAll h [a]) I d (λb q=>(hb b q).1) λb o n e=>hideAll_get _ e λq=>by
  simp at q;subst q;exact n.elim (λn=>n ha) λn=>(hb b n).2 rfl
 have hn:(hideAll h [a]).get? a=none:=hideAll_none _ (.head _);have k:∀ b o,(hideAll h [a]).get? b=some o->h.get? b=some o:=λb o e=>of_hideAll _ e;have y:=Ivt.alloc (h':=h) (ao:=ao) (a:=a) (show Ivt Z.prog Z.w Z.g (hideAll h [a]) (bs++Z.fr) U J from x.inv) (λb o _ e=>k b o e) (λb _=>.of (k b)) hn (I.frs a (aG _ ha)).2.2 λon=>r ?_
 . exact x.trans (Mv.of_go y)
 . refine⟨λb o n e=>e,λb q=>?_,List.prefix_append _ _⟩;rcases q with q | q
   . rcases Wk I.len q with z | z
     . exact .inl (.inl z)
     . exact .inl (.inr (z▸aG _ ha))
   . exact .inl (.inr ((aZ.mp q).elim (λq=>aG _ (hb b q).1) (aI _)))
theorem Am.sub{G:Str->Option Value}{env:Env}{rs:Rs}(S:Am Z G env rs):Am (Z.sub as) G env rs:=
 ⟨S.kind,S.glob,aI _ S.infr,λx c e=>⟨aI _ (S.cfr x c e).1,(S.cfr x c e).2⟩,S.apart,S.form,S.inj,λe he=>let ⟨k,L,h1,h2⟩:=S.outs e he;⟨k,L,h1,aI _ h2⟩⟩
theorem Ag.mv{G:Str->Option Value}{env:Env}{rs:Rs}{Y:Ae}(S:Am Z G env rs)(D:Ag (Z.sub as) env rs h U J Y)(x:Mv Z as bs h U J h' U' J'):Ag (Z.sub bs) env rs h' U' J' Y:=by
 refine e11 D.ns λm hm=>?_;have hm':=(x.fk _ S.infr).ns m hm;refine⟨⟨m,hm'⟩,λe he L hL=>?_,λy i c e1 e2=>?_,λy i a m2 e1 e2 e3=>?_,λy i a c e1 e2 e3=>?_⟩
 . obtain ⟨_,L',h1,h2⟩:=S.outs e he;rw [h1] at hL;refine snE hL λcc1=>?_;clear hL;obtain rfl:=cc1.symm;refine e11 (D.outs e he _ h1) λm' hm'=>?_;exact⟨m',(x.fk _ h2).ns m' hm'⟩
 . refine e11 (D.cell y i c e1 e2) λov hc=>?_;exact⟨ov,(x.fk _ (S.cfr y c e2).1).cell ov hc⟩
 . rw [<- Ey hm' e3];refine e12 (D.val y i a m e1 e2 hm) λv h1 h2=>?_;exact⟨v,h1,h2.on x.on⟩
 . refine e12 (D.cval y i a c e1 e2 e3) λv h1 h2=>?_;exact⟨v,(x.fk _ (S.cfr y c e3).1).cell _ h1,h2.on x.on⟩
theorem Ag.sub0{env:Env}{rs:Rs}{Y:Ae}(D:Ag Z env rs h U J Y):Ag (Z.sub []) env rs h U J Y:=⟨D.ns,D.outs,D.cell,D.val,D.cval⟩
theorem Zt.Lv.sub{lv:Nat}(L:Z.Lv lv):(Z.sub as).Lv lv:=⟨L.room,L.hand,L.deep,L.sys,L.frames⟩
end
section
set_option backward.match.sparseCases true
noncomputable def Rz:List String:=["enumerate","zip","dict_itemiterator","dict_reverseitemiterator","odict_iterator","itertools.zip_longest","itertools.pairwise"]
noncomputable def IterOk(o:Obj):Prop:=(∃ T,o.cls=.type T/\Rz.contains T=false)/\(∀ es ep,o.data≠.dict es ep)/\∀ v,o.data≠.cell v
theorem Bf{o:Obj}{T:String}{vs:Array Value}(h1:o.cls=.type T)(h2:o.data=.fields vs)(h3:Rz.contains T=false):IterOk o:=
 ⟨⟨T,h1,h3⟩,(λes ep q=>by rw [h2] at q;injection q),λv q=>by rw [h2] at q;injection q⟩
noncomputable def isZip:Src->Bool
 | .zip _ _ _=>true
 | _=>false
inductive SrcRel(Z:Zt)(as:List Addr)(h:Heap)(U:List Addr)(J:Sto):List Addr->Value->Src->Prop
 | walk {I:Addr} {fp:List Addr} {n i:Nat} {P:Nat->Value->Prop} {St:Nat->Heap->Prop} {xs:Nat->AV} {f:Nat->Src}:Walks Z.prog Z.w Z.A I fp [I] n P St->i<=n->St i h->
  (∀ j h',St j h'->∃ o,h'.get? I=some o/\IterOk o)->(∀ b∈fp,b≠I->¬ Vt (as++Z.fr) U J b/\∃ o,h.get? b=some o)->(∀ j v,P j v->VRel h (Vt (as++Z.fr) U J) U v (xs j))->
  (∀ j,j<n->∀ τ,srcNext (f j) τ=some (.ok (some (xs j,f (j+1))),τ))->(∀ τ,srcNext (f n) τ=some (.ok Option.none,τ))->(∀ j,isZip (f j)=false)->SrcRel Z as h U J [I] (.ref I) (f i)
 | live {I l:Addr} {k i:Nat}:U[k]?=some l->h.IsListIter I l i->SrcRel Z as h U J [I] (.ref I) (.live k i)
 | iter {I:Addr} {k:Nat}:U[k]?=some I->SrcRel Z as h U J [] (.ref I) (.iter k)
 | zip {z TI TO i1 i2:Addr} {k:Nat} {a b left:Int} {u v:Value}:IsZip h z TI TO .none->IsPair h TI (.ref i1) (.ref i2)->IsPair h TO u v->IsRangeIter h i1 a left 1->(a<b/\left=b - a)\/(¬ a<b/\left<=0)->U[k]?=some i2->[z,TI,TO,i1].Nodup->
  SrcRel Z as h U J [z,TI,TO,i1] (.ref z) (.zip a b k)
section
variable{Z:Zt}{as ps:List Addr}{h h':Heap}{U U':List Addr}{J J':Sto}{it:Value}{s:Src}
theorem SrcRel.on{bs:List Addr}(x:On h (Vt (as++Z.fr) U J) U h' (Vt (bs++Z.fr) U' J') U')(k:∀ a∈ps,∀ o,h.get? a=some o->(∀ es ep,o.data≠.dict es ep)->(∀ v,o.data≠.cell v)->h'.get? a=some o)(r:SrcRel Z as h U J ps it s) :
 SrcRel Z bs h' U' J' ps it s:=by
 induction r using SrcRel.casesOn with
 | @walk I fp n i P St xs f W hi st lv hf hp h1 h2 h3=>
  refine .walk W hi (W.frame _ _ _ st λb hb o e=>?_) lv (λb hb hne=>⟨x.not (hf b hb hne).1 (hf b hb hne).2.choose_spec,(hf b hb hne).2.imp λo e=>x.get (hf b hb hne).1 e⟩) (λj v hv=>(hp j v hv).on x) h1 h2 h3;by_cases q:b=I
  . subst q;refine e12 (lv _ _ st) λo' e' z=>?_;rw [e] at e';refine snE e' λcc1=>?_;clear e';subst cc1;exact k b (.head _) o e z.2.1 z.2.2
  . exact x.get (hf b hb q).1 e
 | live e i=>
  refine .live (It x.mu e) ?_;refine e13 i λo ho hc hd=>?_;clear i;exact⟨o,k _ (.head _) o ho (λes ep q=>by rw [hd] at q;injection q) (λv q=>by rw [hd] at q;injection q),hc,hd⟩
 | iter e=>exact .iter (It x.mu e)
 | zip hz hTI hTO hi hl e nd=>
  exact .zip (k _ (by simp) _ hz (λes ep q=>by injection q) λv q=>by injection q) (k _ (by simp) _ hTI (λes ep q=>by injection q) λv q=>by injection q) (k _ (by simp) _ hTO (λes ep q=>by injection q) λv q=>by injection q)
   (k _ (by simp) _ hi (λes ep q=>by injection q) λv q=>by injection q) hl (It x.mu e) nd
theorem SrcRel.go(hs:∀ a∈ps,a∈as)(x:(Z.sub as).Go h U J h' U' J')(r:SrcRel Z as h U J ps it s):SrcRel Z as h' U' J' ps it s:=
 r.on x.on λa ha o e n1 n2=>(x.fk a (aG _ (hs a ha))).oth o e n1 n2
variable{M:Model}{A:Around}{E:Value->Shared->Prop}{sh:Shared}{Q:Unit->Shared->Prop}
theorem Iu{target:PySem.Expr}{I:Addr}{o:Obj}{v:Value}(ho:sh.heap.get? I=some o)(z:IterOk o)(hq:Q () sh):wpAny M A (letOwnedTupleGo target (.ref I) v) Q E sh:=by
 obtain ⟨⟨T,hT,hc⟩,_⟩:=z;have key:wpAny M A (do
  let (.ref r,.ref a):=((.ref I,v):Value×Value) | return
  let o <- load r
  match o.cls,o.data with
  | .type n,.fields vs=>
   if Rz.contains n&&vs[0]? == some (rawInt a) then
    rule "for.unpacks-the-owned-tuple"
    updateField r 0 .none
  | _,_=>pure ()) Q E sh:=by
  induction v using PySem.Value.casesOn with
  | ref a=>
   refine aA (wpAny_load ho ?_);rw [hT]
   cases hd:o.data with
   | fields vs=>
    show wpAny M A (if (Rz.contains T&&vs[0]? == some (rawInt a))=true then _ else _) Q E sh;rw [hc];exact aH hq
   | _=>exact aH hq
  | _=>exact aH hq
 cases target <;> first | exact key | exact aH hq
end
end
section
variable{prog:Program}{w:World}{A:Around}{E:Value->Shared->Prop}{s:Shared}
theorem Jx{it:Addr}{x left step:Int}{Q:Value->Shared->Prop}(hit:IsRangeIter s.heap it x left step)(hleft:0<left)
 (hQ:∀ h',IsRangeIter h' it (x+step) (left - 1) step->Heap.SameBut it s.heap h'->Q (.int x s.toks) { s with heap:=h',toks:=s.toks+1}) :
 wpAny (model prog w) A (dG (.ref it)) Q E s:=by
 have hT:s.TypeIs (.ref it) "range_iterator":=⟨_,hit,rfl⟩;unfold dG;refine aA (wpAny_callSpecial?_slot (name:=Str.ofString "__next__") hT F.slot_range_iterator_next
  (call_meets F.slot_range_iterator_next hT F.entry_range_iterator_next (F.args_range_iterator_next_1 _) (AutoRange.range_iterator___next___range_iterator_1 it x left step (by omega)) ⟨hit,?_⟩))
 exact aH (hQ _ (dJ _ (dJ _ hit rfl) rfl) ((Heap.SameBut.update ..).trans (Heap.SameBut.update ..)))
theorem Lb{it:Addr}{x left step:Int}{Q:Value->Shared->Prop}(hh:A.handled=none)(hit:IsRangeIter s.heap it x left step)(hleft:left<=0)
 (hE:∀ h' e,Heap.ExtBut it s.heap h'->(∃ o,h'.get? e=some o/\o.cls=.type "StopIteration")->E (.ref e) { s with heap:=h'}) :
 wpAny (model prog w) A (dG (.ref it)) Q E s:=by
 have hT:s.TypeIs (.ref it) "range_iterator":=⟨_,hit,rfl⟩;unfold dG;refine aA (wpAny_callSpecial?_slot (name:=Str.ofString "__next__") hT F.slot_range_iterator_next
  (wpAny_call_entry F.slot_range_iterator_next hT F.entry_range_iterator_next ?_ (F.args_range_iterator_next_1 _)))
 show wpAny _ _ (field (.ref it) 0 >>= _) _ _ s;refine aA (cU hit rfl (x:=rawInt x) rfl ?_);show wpAny _ _ (field (.ref it) 1 >>= _) _ _ s;refine aA (cU hit rfl (x:=rawInt left) rfl ?_);show wpAny _ _ (field (.ref it) 2 >>= _) _ _ s;refine aA (cU hit rfl (x:=rawInt step) rfl ?_);show wpAny _ _ (if left<=0 then _ else _) _ _ s;rw [if_pos hleft];refine aA (wpAny_rule ?_);refine aA ?_;show wpAny _ _ (newExc (.type "StopIteration") [] >>= _) _ _ _;refine aA ?_;simp only [newExc,newTuple];refine aA (wpAny_newObj_type ?_ (by size_fits));refine aA (m:=firstArgMember _ _) (bR (a:=Value.none) (by first | rfl | (simp only [firstArgMember];rfl)) ?_);refine wpAny_newObj_type ?_ (by size_fits);simp only [raiseNew];refine aA (wpAny_handled ?_)
 first | rw [show A.in1.handled=none from hh] | rw [hh]
 refine aA (aH (wpAny_throw ?_));exact hE _ _ (((Heap.ExtBut.refl it s.heap).push _).push _) ⟨_,aS _ rfl,rfl⟩
structure Xj(z TI TO i1 i2 l:Addr):Prop where
 TIz:TI≠z
 TOz:TO≠z
 i1z:i1≠z
 i2z:i2≠z
 TITO:TI≠TO
 TIi1:TI≠i1
 TOi1:TO≠i1
 i12:i1≠i2
 TOi2:TO≠i2
 TIi2:TI≠i2
 lz:l≠z
 lTO:l≠TO
 li1:l≠i1
 li2:l≠i2
theorem Nl{z TI TO i1 i2 l:Addr}{x left:Int}{k:Nat}{ys:Array Value}{y a b:Value}{Q:Value->Shared->Prop}(D:Xj z TI TO i1 i2 l)
 (hz:IsZip s.heap z TI TO .none) (hTI:IsPair s.heap TI (.ref i1) (.ref i2)) (hTO:IsPair s.heap TO a b)
 (h1:IsRangeIter s.heap i1 x left 1) (hleft:0<left) (h2:s.heap.IsListIter i2 l k) (hl:s.heap.IsList l ys) (hy:ys[k]?=some y)
 (hQ:∀ h' (T:Addr) tk,IsZip h' z TI TO (rawInt T)->IsPair h' TO (.int x s.toks) y->IsRangeIter h' i1 (x+1) (left - 1) 1->h'.IsListIter i2 l (k+1)->IsPair h' T (.int x s.toks) y->s.heap.get? T=none->
  (∀ c o,c≠z->c≠TO->c≠i1->c≠i2->s.heap.get? c=some o->h'.get? c=some o)->Q (.ref T) { s with heap:=h',toks:=tk}) :
 wpAny (model prog w) A (Builtin.«zip.__next__» ⟨[.ref z],[]⟩) (λfin s'=>∃ v,fin=.done (.ret v)/\Q v s') E s:=by
 show wpAny _ _ (field (.ref z) 2 >>= _) _ _ _;refine aA (cU hz rfl (x:=.bool false) rfl ?_);show wpAny _ _ (field (.ref z) 3 >>= _) _ _ _;refine aA (cU hz rfl (x:=.ref TI) rfl ?_);refine aA (dM hTI rfl ?_);show wpAny _ _ (Builtin.SmallTypes.ownedTupleIsFree (.ref z) >>= _) _ _ _;refine aA ?_;unfold Builtin.SmallTypes.ownedTupleIsFree;refine aA (cU hz rfl (x:=.none) rfl (aH ?_));simp only [if_true];refine aA (wpAny_rule ?_);refine aA (cU hz rfl (x:=.ref TO) rfl ?_);refine aA (wpAny_setField_rec hz (by simp) λh₁ hz1 hs1=>?_)
 replace hz1:IsZip h₁ z TI TO .ellipsis:=hz1
 refine aA ?_;simp only [List.zipIdx_cons,List.zipIdx_nil,List.forIn_cons,List.forIn_nil];refine aA (aA (wpAny_onRaise ?_));show wpAny _ _ (dG (.ref i1) >>= _) _ _ _;refine aA (Jx (hs1.extBut _ _ D.i1z h1) hleft λh₂ h12 hs2=>aH ?_);have hTO2:IsPair h₂ TO a b:=hs2.extBut _ _ D.TOi1 (hs1.extBut _ _ D.TOz hTO);refine aA (dM hTO2 rfl ?_);refine aA (wpAny_updateSeq_pair hTO2 λh3 hTO3 hs3=>?_)
 replace hTO3:IsPair h3 TO (.int x s.toks) b:=hTO3
 refine aA (wpAny_letGo (aH ?_));refine aA (aA (wpAny_onRaise ?_));show wpAny _ _ (dG (.ref i2) >>= _) _ _ _;refine aA (wpAny_nextOf_list_item (((h2.extBut hs1.extBut D.i2z).extBut hs2.extBut D.i12.symm).extBut hs3.extBut D.TOi2.symm)
  (((hl.extBut hs1.extBut D.lz).extBut hs2.extBut D.li1).extBut hs3.extBut D.lTO) hy λh4 h24 hs4=>aH ?_)
 have hTO4:IsPair h4 TO (.int x s.toks) b:=hs4.extBut _ _ D.TOi2 hTO3;refine aA (dM hTO4 rfl ?_);refine aA (wpAny_updateSeq_pair hTO4 λh5 hTO5 hs5=>?_)
 replace hTO5:IsPair h5 TO (.int x s.toks) y:=hTO5
 refine aA (wpAny_letGo (aH (aH ?_)));refine aA (dM hTO5 rfl ?_);refine aA (wpAny_newTuple ?_);have hsz:h5.objs.size=s.heap.objs.size:=by rw [hs5.1,hs4.1,hs3.1,hs2.1,hs1.1]
 have hz5:IsZip h5 z TI TO .ellipsis:=hs5.extBut _ _ D.TOz.symm (hs4.extBut _ _ D.i2z.symm (hs3.extBut _ _ D.TOz.symm (hs2.extBut _ _ D.i1z.symm hz1)));have hk5:∀ c o,c≠z->c≠TO->c≠i1->c≠i2->s.heap.get? c=some o->h5.get? c=some o:=λc o c1 c2 c3 c4 e=>
  hs5.extBut _ _ c2 (hs4.extBut _ _ c4 (hs3.extBut _ _ c2 (hs2.extBut _ _ c3 (hs1.extBut _ _ c1 e))))
 have h15:IsRangeIter h5 i1 (x+1) (left - 1) 1:=hs5.extBut _ _ D.TOi1.symm (hs4.extBut _ _ D.i12 (hs3.extBut _ _ D.TOi1.symm h12));have h25:h5.IsListIter i2 l (k+1):=h24.extBut hs5.extBut D.TOi2.symm;have hzlt:z<h5.objs.size:=cR hz5;show wpAny _ _ (Builtin.SmallTypes.ownedTupleHandOut (.ref z) (.ref h5.objs.size) >>= _) _ _ _;refine aA ?_;unfold Builtin.SmallTypes.ownedTupleHandOut;have hz6:IsZip (h5.push { cls:=.type "tuple",data:=.seq #[.int x s.toks,y]}) z TI TO .ellipsis:=aE _ hz5;refine aA (wpAny_setField_rec hz6 (by simp) λh7 hz7 hs7=>?_)
 replace hz7:IsZip h7 z TI TO (rawInt h5.objs.size):=hz7
 refine wpAny_setField_rec hz7 (by simp) λh8 hz8 hs8=>?_
 replace hz8:IsZip h8 z TI TO (rawInt h5.objs.size):=hz8
 have up:∀ c o,c≠z->h5.get? c=some o->h8.get? c=some o:=λc o c1 e=>hs8.extBut _ _ c1 (hs7.extBut _ _ c1 (aE _ e));have hT8:IsPair h8 h5.objs.size (.int x s.toks) y:=hs8.extBut _ _ (bT hzlt) (hs7.extBut _ _ (bT hzlt) (aS _ rfl));refine aH ⟨_,rfl,?_⟩;exact hQ h8 _ _ hz8 (up _ _ D.TOz hTO5) (up _ _ D.i1z h15) (h25.at λo e=>up _ o D.i2z e) hT8 (by rw [hsz];exact Bb _) λc o c1 c2 c3 c4 e=>up c o c1 (hk5 c o c1 c2 c3 c4 e)
theorem Pc{z TI TO i1 i2:Addr}{x left:Int}{a b:Value}{Q:Fin->Shared->Prop}(hh:A.handled=none)(d:i1≠z)
 (hz:IsZip s.heap z TI TO .none) (hTI:IsPair s.heap TI (.ref i1) (.ref i2)) (hTO:IsPair s.heap TO a b)
 (h1:IsRangeIter s.heap i1 x left 1) (hl:left<=0)
 (hE:∀ h' e,(∀ c o,c≠z->c≠i1->s.heap.get? c=some o->h'.get? c=some o)->(∃ o,h'.get? e=some o/\o.cls=.type "StopIteration")->E (.ref e) { s with heap:=h'}) :
 wpAny (model prog w) A (Builtin.«zip.__next__» ⟨[.ref z],[]⟩) Q E s:=by
 show wpAny _ _ (field (.ref z) 2 >>= _) _ _ _;refine aA (cU hz rfl (x:=.bool false) rfl ?_);show wpAny _ _ (field (.ref z) 3 >>= _) _ _ _;refine aA (cU hz rfl (x:=.ref TI) rfl ?_);refine aA (dM hTI rfl ?_);show wpAny _ _ (Builtin.SmallTypes.ownedTupleIsFree (.ref z) >>= _) _ _ _;refine aA ?_;unfold Builtin.SmallTypes.ownedTupleIsFree;refine aA (cU hz rfl (x:=.none) rfl (aH ?_));simp only [if_true];refine aA (wpAny_rule ?_);refine aA (cU hz rfl (x:=.ref TO) rfl ?_);refine aA (wpAny_setField_rec hz (by simp) λh₁ hz1 hs1=>?_)
 replace hz1:IsZip h₁ z TI TO .ellipsis:=hz1
 refine aA ?_;simp only [List.zipIdx_cons,List.zipIdx_nil,List.forIn_cons,List.forIn_nil];refine aA (aA (wpAny_onRaise ?_));show wpAny _ _ (dG (.ref i1) >>= _) _ _ _;refine aA (Lb hh (hs1.extBut _ _ d h1) hl λh2 e hs2 he=>?_);refine e12 he λoe hoe hce=>?_;clear he;have hz2:IsZip h2 z TI TO .ellipsis:=hs2 _ _ (Ne.symm d) hz1;have hez:e≠z:=λx=>by subst x;rw [hz2] at hoe;refine snE hoe λcc1=>?_;clear hoe;subst cc1;simp at hce
 refine wpAny_setField_rec hz2 (by simp) λh3 _ hs3=>hE h3 e (λc o c1 c3 x=>hs3.extBut _ _ c1 (hs2 _ _ c3 (hs1.extBut _ _ c1 x))) ⟨oe,hs3.extBut _ _ hez hoe,hce⟩
theorem Nn{z TI TO i1 i2 l:Addr}{x left:Int}{k:Nat}{ys:Array Value}{y a b:Value}{Q:Option Value->Shared->Prop}(D:Xj z TI TO i1 i2 l)
 (hz:IsZip s.heap z TI TO .none) (hTI:IsPair s.heap TI (.ref i1) (.ref i2)) (hTO:IsPair s.heap TO a b)
 (h1:IsRangeIter s.heap i1 x left 1) (hleft:0<left) (h2:s.heap.IsListIter i2 l k) (hl:s.heap.IsList l ys) (hy:ys[k]?=some y)
 (hQ:∀ h' (T:Addr) tk,IsZip h' z TI TO (rawInt T)->IsPair h' TO (.int x s.toks) y->IsRangeIter h' i1 (x+1) (left - 1) 1->h'.IsListIter i2 l (k+1)->IsPair h' T (.int x s.toks) y->s.heap.get? T=none->
  (∀ c o,c≠z->c≠TO->c≠i1->c≠i2->s.heap.get? c=some o->h'.get? c=some o)->Q (some (.ref T)) { s with heap:=h',toks:=tk}) :
 wpAny (model prog w) A (pyNext (.ref z)) Q E s:=by
 have hT:s.TypeIs (.ref z) "zip":=⟨_,hz,rfl⟩;unfold pyNext;exact aA (wpAny_attempt (wpAny_callSpecial?_slot (name:=Str.ofString "__next__") hT F.slot_zip_next
  (wpAny_call_entry F.slot_zip_next hT F.entry_zip_next
   (Nl D hz hTI hTO h1 hleft h2 hl hy λh' T tk a1 a2 a3 a4 a5 a6 a7=>aH (hQ h' T tk a1 a2 a3 a4 a5 a6 a7)) (F.args_zip_next_1 _))))
theorem Pd{z TI TO i1 i2:Addr}{x left:Int}{a b:Value}{Q:Option Value->Shared->Prop}(hh:A.handled=none)(d:i1≠z)
 (hz:IsZip s.heap z TI TO .none) (hTI:IsPair s.heap TI (.ref i1) (.ref i2)) (hTO:IsPair s.heap TO a b)
 (h1:IsRangeIter s.heap i1 x left 1) (hl:left<=0)
 (hQ:∀ h',(∀ c o,c≠z->c≠i1->s.heap.get? c=some o->h'.get? c=some o)->Q none { s with heap:=h'}):wpAny (model prog w) A (pyNext (.ref z)) Q E s:=by
 have hT:s.TypeIs (.ref z) "zip":=⟨_,hz,rfl⟩;unfold pyNext;refine aA (wpAny_attempt (wpAny_callSpecial?_slot (name:=Str.ofString "__next__") hT F.slot_zip_next
  (wpAny_call_entry F.slot_zip_next hT F.entry_zip_next (Pc hh d hz hTI hTO h1 hl λh' e hk he=>?_) (F.args_zip_next_1 _))))
 refine e12 he λo ho hc=>?_;clear he;refine aA (wpAny_isInstance (T:="StopIteration") (b:=true) ⟨o,ho,hc⟩ isSubtype_stop ?_);exact aH (hQ _ hk)
end
noncomputable def Avo(Z:Zt)(as ps:List Addr)(it:Value)(target:PySem.Expr)(s:Shared)(U:List Addr)(J J':Sto)(rr:Option (AV×Src))(Q:Option Value->Shared->Prop):Prop:=match rr with
 | Option.none=>∀ h' tk,(∀ bs,(∀ b∈bs,b∈as/\b∉ps)->Mv Z as bs s.heap U J h' U J')->(∀ b o,b∉ps->b∉U->s.heap.get? b=some o->h'.get? b=some o)->Q Option.none { s with heap:=h',toks:=tk}
 | some (x,src')=>∀ v h' tk,Mv Z as as s.heap U J h' U J'->(∀ b o,b∉ps->b∉U->s.heap.get? b=some o->h'.get? b=some o)->VRel h' (Vt (as++Z.fr) U J') U v x->
  (∀ (Q':Unit->Shared->Prop) (E':Value->Shared->Prop),(∀ h'' tk',Mv Z as as h' U J' h'' U J'->(∀ b o,b∉ps->h'.get? b=some o->h''.get? b=some o)->SrcRel Z as h'' U J' ps it src'->Q' () { s with heap:=h'',toks:=tk'})->
   wpAny Z.M Z.A (letOwnedTupleGo target it v) Q' E' { s with heap:=h',toks:=tk})->Q (some v) { s with heap:=h',toks:=tk}
section
variable{Z:Zt}{as ps U:List Addr}{s:Shared}{J J':Sto}{it:Value}{src:Src}{target:PySem.Expr}
theorem Adb{h h':Heap}(I:(Z.sub as).I h U J)(k:∀ b o,b∉ps->h.get? b=some o->h'.get? b=some o)(t:∀ a∈ps,∃ o,h'.get? a=some o):∀ a∈as,∃ o,h'.get? a=some o:=λa ha=>by
 by_cases q:a∈ps
 . exact t a q
 . exact (I.frs a (aG _ ha)).2.2.imp λo e=>k a o q e
theorem Sa{h h':Heap}(I:(Z.sub as).I h U J)(d:∀ a∈as,a∉Z.fr)(hs:∀ a∈ps,a∈as)(k:∀ b o,b∉ps->h.get? b=some o->h'.get? b=some o)(t:∀ a∈ps,∃ o,h'.get? a=some o):Mv Z as as h U J h' U J:=
 Mv.spin I d (λb o n e=>k b o (λq=>n (hs b q)) e) (Adb I k t)
theorem Xk{h h':Heap}(I:(Z.sub as).I h U J)(d:∀ a∈as,a∉Z.fr)(hs:∀ a∈ps,a∈as)(k:∀ b o,b∉ps->h.get? b=some o->h'.get? b=some o):∀ bs,(∀ b∈bs,b∈as/\b∉ps)->Mv Z as bs h U J h' U J:=λbs hb=>
 Mv.outTo I d (λb q=>(hb b q).1) λb o n e=>k b o (n.elim (λn q=>n (hs b q)) λq=>(hb b q).2) e
theorem n1{α:Type}{x a:α}(h:x∉[a]):x≠a:=λq=>h (q▸.head _)
theorem nm1{α:Type}{x a:α}(h:x≠a):x∉[a]:=λq=>h (aQ.mp q)
theorem n3{α:Type}{x a b c:α}(h:x∉[a,b,c]):x≠a/\x≠b/\x≠c:=⟨λq=>h (q▸.head _),λq=>h (q▸.tail _ (.head _)),λq=>h (q▸.tail _ (.tail _ (.head _)))⟩
theorem n4{α:Type}{x a b c d:α}(h:x∉[a,b,c,d]):x≠a/\x≠b/\x≠c/\x≠d:=⟨λq=>h (q▸.head _),n3 λq=>h (.tail _ q)⟩
theorem m4{α:Type}{x a b c d:α}(h:x∈[a,b,c,d]):x=a\/x=b\/x=c\/x=d:=(aM.mp h).imp id λh=>(aM.mp h).imp id λh=>(aM.mp h).imp id aQ.mp
theorem Sb{h h':Heap}{I:Addr}(k:∀ b o,b≠I->h.get? b=some o->h'.get? b=some o):∀ b o,b∉[I]->h.get? b=some o->h'.get? b=some o:=λb o n e=>k b o (n1 n) e
theorem Jy{γ:Type}{k:Nat}{f:Option AV->Ik.Internal.M γ}{r:Except Str γ×Sto}(e:((Ek k).bnd f) J=some r):∃ xs i,J[k]?=some (.iter xs i)/\((∃ x,xs[i]?=some x/\f (some x) (J.set k (.iter xs (i+1)))=some r)\/(xs[i]?=none/\f none (J.set k .dead)=some r)):=by
 unfold Ek at e;rw [Bo] at e;refine e22 (Nk e) λxs i ho e=>?_;refine⟨xs,i,ho,?_⟩;dsimp only at e
 cases hx:xs[i]? with
 | none=>rw [hx] at e;exact .inr ⟨rfl,e⟩
 | some x=>rw [hx] at e;exact .inl ⟨x,rfl,e⟩
theorem Aak(hh:Z.A.handled=none)(I:(Z.sub as).I s.heap U J)(d:∀ a∈as,a∉Z.fr)(hs:∀ a∈ps,a∈as)(r:SrcRel Z as s.heap U J ps it src)(ht:isZip src=true->∃ es k p,target=.Tuple es k p)
 {q:Except Str (Option (AV×Src))} (e:srcNext src J=some (q,J')):∃ rr,q=.ok rr/\∀ Q E,Avo Z as ps it target s U J J' rr Q->wpAny Z.M Z.A (pyNext it) Q E s:=by
 induction r using SrcRel.casesOn with
 | @walk JJ fp n i P St xs f W hi st lv hf hp h1 h2 h3=>
  rcases Nat.lt_or_eq_of_le hi with hlt | rfl
  . rw [h1 i hlt J] at e;refine spE e λcc1 cc2=>?_;clear e;subst cc1;subst cc2;refine⟨_,rfl,λQ E hQ=>W.item i s Q E hlt st λv h' tk hP hSt hk=>?_⟩;have k:=Sb (I:=JJ) λb o n e=>hk b o (nm1 n) e;have mv:=Sa I d hs k λa ha=>by
     rw [aQ.mp ha];exact (lv _ _ hSt).imp λo z=>z.1
    refine e12 (lv _ _ hSt) λo ho zo=>?_;refine hQ v h' tk mv (λb o n _ e=>k b o n e) ((hp i v hP).on mv.on) λQ' E' hQ'=>Iu ho zo (hQ' h' tk (.refl mv.inv) (λ_ _ _ e=>e) ?_);exact .walk W hlt hSt lv (λb hb hne=>⟨mv.on.not (hf b hb hne).1 (hf b hb hne).2.choose_spec,(hf b hb hne).2.imp λo e=>mv.on.get (hf b hb hne).1 e⟩) (λj v hv=>(hp j v hv).on mv.on) h1 h2 h3
  . rw [h2 J] at e;refine spE e λcc1 cc2=>?_;clear e;subst cc1;subst cc2;refine⟨_,rfl,λQ E hQ=>W.done s Q E st λh' tk hk=>?_⟩;have k:=Sb (I:=JJ) λb o n e=>hk b o (nm1 n) e;exact hQ h' tk (Xk I d hs k) λb o n _ e=>k b o n e
 | @live JJ l k i e1 hit=>
  refine e12 (Fm e) λxs ho e=>?_;obtain ⟨z,vs,li,rv⟩:=I.list e1 ho;have hne:l≠JJ:=λq=>(I.frs JJ (aG _ (hs JJ (.head _)))).1 (q▸aO e1)
  cases hx:xs[i]? with
  | none=>
   rw [hx] at e;refine spE e λcc1 cc2=>?_;clear e;subst cc1;subst cc2;refine⟨_,rfl,λQ E hQ=>wpAny_pyNext_list_end hh hit li.isList (List.getElem?_toArray.trans (List.getElem?_eq_none (bA (aD rv.length) (List.getElem?_eq_none_iff.mp hx)))) λh' he=>?_⟩;have k:=Sb (I:=JJ) he;exact hQ h' s.toks (Xk I d hs k) λb o n _ e=>k b o n e
  | some x=>
   rw [hx] at e;refine spE e λcc1 cc2=>?_;clear e;subst cc1;subst cc2;refine e12 (rv.get hx) λv hv rx=>?_;refine⟨_,rfl,λQ E hQ=>wpAny_pyNext_list_item hit li.isList (x:=v) (List.getElem?_toArray.trans hv) λh' hit' hs'=>?_⟩;have k:=Sb (I:=JJ) hs'.extBut;refine e13 (id hit') λo ho' hc hd=>?_;have mv:=Sa I d hs k λa ha=>by rw [aQ.mp ha];exact⟨o,ho'⟩
   exact hQ v h' s.toks mv (λb o n _ e=>k b o n e) (rx.on mv.on) λQ' E' hQ'=>Iu ho' (Bf hc hd (by decide +kernel)) (hQ' h' s.toks (.refl mv.inv) (λ_ _ _ e=>e) (.live e1 hit'))
 | @iter JJ k e1=>
  refine e22 (Jy e) λxs i ho e=>?_;refine e24 (I.obj e1 ho) λl vs hit li nl rv=>?_;have hV:Vt (as++Z.fr) U J JJ:=.inl ⟨k,_,e1,ho,rfl⟩;have hne:l≠JJ:=λq=>nl (q▸hV);have hJf:JJ∉as++Z.fr:=λq=>(I.frs JJ q).1 (aO e1);rcases e with ⟨x,hx,e⟩ | ⟨hx,e⟩
  . refine spE e λcc1 cc2=>?_;clear e;subst cc1;subst cc2;refine e12 (rv.get hx) λv hv rx=>?_;refine⟨_,rfl,λQ E hQ=>wpAny_pyNext_list_item hit li.isList (x:=v) (List.getElem?_toArray.trans hv) λh' hit' hs'=>?_⟩;refine e13 (id hit') λo ho' hc hd=>?_;have G:=Ivt.turn (h':=h') (ao':=.iter xs (i+1)) I e1 ho rfl (λb o hb _ e=>hs'.extBut b o hb e) (λa ha=>.of λo e=>hs'.extBut a o (λq=>hJf (q▸ha)) e) ⟨o,ho'⟩ λx=>⟨l,vs,hit',(x.lx nl li).1,(x.lx nl li).2,rv.on x⟩;have mv:=Mv.of_go (Z:=Z) (as:=as) G;exact hQ v h' s.toks mv (λb o _ nm e=>hs'.extBut b o (λq=>nm (q▸aO e1)) e) (rx.on mv.on) λQ' E' hQ'=>Iu ho' (Bf hc hd (by decide +kernel)) (hQ' h' s.toks (.refl mv.inv) (λ_ _ _ e=>e) (.iter e1))
  . refine spE e λcc1 cc2=>?_;clear e;subst cc1;subst cc2;refine⟨_,rfl,λQ E hQ=>Ut hh hit li.isList (List.getElem?_toArray.trans (List.getElem?_eq_none (bA (aD rv.length) (List.getElem?_eq_none_iff.mp hx)))) λh' he ht=>?_⟩;have G:=Ivt.turn (h':=h') (ao':=.dead) I e1 ho rfl (λb o hb _ e=>he b o hb e) (λa ha=>.of λo e=>he a o (λq=>hJf (q▸ha)) e) ht λ_=>trivial;have mv:=Mv.of_go (Z:=Z) (as:=as) G;exact hQ h' s.toks (λbs hb=>mv.trans (Mv.outTo mv.inv d (λb q=>(hb b q).1) λ_ _ _ e=>e)) λb o _ nm e=>he b o (λq=>nm (q▸aO e1)) e
 | @zip z TI TO i1 i2 k a b left u v hz hTI hTO h1 hl e1 nd=>
  refine e31 (ht rfl) λes kk p zz3=>?_;subst zz3;have ndz:i1≠z:=by
   intro q;subst q;simp at nd
  by_cases hab:a<b
  . have e:=(show (if a<b then _ else _:M (Option (AV×Src))) J=some (q,J') from e);rw [if_pos hab] at e;refine e22 (Jy e) λxs i ho e=>?_;refine e24 (I.obj e1 ho) λl vs hit li nl rv=>?_;have hV:Vt (as++Z.fr) U J i2:=.inl ⟨k,_,e1,ho,rfl⟩;have hJf:i2∉as++Z.fr:=λq=>(I.frs i2 q).1 (aO e1);have hJp:i2∉[z,TI,TO,i1]:=λq=>hJf (aG _ (hs _ q));have hlp:l∉[z,TI,TO,i1]:=λq=>nl (.inr (aG _ (hs _ q)));have hl2:l≠i2:=λq=>nl (q▸hV);rcases e with ⟨x,hx,e⟩ | ⟨hx,e⟩
    case inr=>exact nns e
    refine spE e λcc1 cc2=>?_;clear e;subst cc1;subst cc2;refine e12 (rv.get hx) λv' hv rx=>?_;have hleft:left=b - a:=by rcases hl with ⟨_,h⟩ | ⟨h,_⟩;exact h;exact absurd hab h
    have hp1:0<left:=by omega
    have D:Xj z TI TO i1 i2 l:=by
     obtain ⟨a1,a2,a3⟩:=n3 (bZ.mp nd).1;have nd:=bZ.mp (bZ.mp nd).2;have a4:TI≠TO:=λq=>nd.1 (q▸.head _);have a5:=n1 λq=>nd.1 (.tail _ q);have a6:=n1 (bZ.mp nd.2).1;refine e04 (n4 hJp) λb1 b2 b3 b4=>?_;refine e04 (n4 hlp) λc1 c2 c3 c4=>?_;exact⟨Ne.symm a1,Ne.symm a2,Ne.symm a3,b1,a4,a5,a6,Ne.symm b4,Ne.symm b3,Ne.symm b2,c1,c3,c4,hl2⟩
    refine⟨_,rfl,λQ E hQ=>Nn D hz hTI hTO h1 hp1 hit li.isList (y:=v') (List.getElem?_toArray.trans hv) λh' T tk z1 z2 z3 z4 z5 z6 hk=>?_⟩;have hk':∀ c o,c∉[z,TI,TO,i1]->c≠i2->s.heap.get? c=some o->h'.get? c=some o:=λc o c1 c2 e=>by
     have c1:=n4 c1;exact hk c o c1.1 c1.2.2.1 c1.2.2.2 c2 e
    have hTI':IsPair h' TI (.ref i1) (.ref i2):=hk _ _ D.TIz D.TITO D.TIi1 D.TIi2 hTI;have tps:∀ a∈[z,TI,TO,i1],∃ o,h'.get? a=some o:=λa ha=>by
     rcases m4 ha with rfl | rfl | rfl | rfl
     . exact⟨_,z1⟩
     . exact⟨_,hTI'⟩
     . exact⟨_,z2⟩
     . exact⟨_,z3⟩
    refine e13 (id z4) λo4 ho4 hc4 hd4=>?_;have hT0:∀ a∈as++Z.fr,a≠T:=λa ha q=>by obtain ⟨o,e⟩:=(I.frs a ha).2.2;rw [q,z6] at e;exact nns e
    have x1:On s.heap (Vt (as++Z.fr) U J) U h' (Vt (as++Z.fr) U (J.set k (.iter xs (i+1)))) U:=⟨λc o n e=>hk' c o (λq=>n (.inr (aG _ (hs _ q)))) (λq=>n (q▸hV)) e,
     λc q=>.inl (q.imp (λq=>Qu q λo e=>by rw [ho] at e;refine snE e λcc1=>?_;clear e;subst cc1;rfl) id),dC⟩
    have mv:Mv Z as as s.heap U J h' U (J.set k (.iter xs (i+1))):=by
     refine⟨⟨λc o e=>x1.kp c o (λq=>by rw [I.gout q] at e;exact nns e) (I.base c o e),by rw [aR];exact I.len,I.nodup,I.out,λc hc=>?_,λj c o q1 q2=>?_,λc hc=>⟨(I.frs c hc).1,(I.frs c hc).2.1,?_⟩⟩,x1,λc hc=>.of λo e=>?_⟩
     . by_cases q:c=i2
       . subst q;exact⟨o4,ho4⟩
       . obtain ⟨o,e⟩:=I.there c hc;exact⟨o,hk' c o (λq'=>(I.frs c (aG _ (hs _ q'))).1 hc) q e⟩
     . by_cases hj:j=k
       . subst hj;rw [e1] at q1;refine snE q1 λcc1=>?_;clear q1;subst cc1;rw [dQ (aN.mp ho).1] at q2;refine snE q2 λcc1=>?_;clear q2;subst cc1;exact⟨l,vs,z4,(x1.lx nl li).1,(x1.lx nl li).2,rv.on x1⟩
       . rw [bM (Ne.symm hj)] at q2;have hne:c≠i2:=λq=>by
          subst q;obtain ⟨r1,g1⟩:=aN.mp q1;obtain ⟨r2,g2⟩:=aN.mp e1;exact hj ((List.getElem_inj I.nodup).mp (g1.trans g2.symm))
         exact (I.objs j c o q1 q2).on x1 λob e=>hk' c ob (λq'=>(I.frs c (aG _ (hs _ q'))).1 (aO q1)) hne e
     . by_cases q:c∈[z,TI,TO,i1]
       . exact tps c q
       . exact (I.frs c hc).2.2.imp λo e=>hk' c o q (λq'=>hJf (q'▸hc)) e
     . exact hk' c o (λq=>d c (hs _ q) hc) (λq=>hJf (q▸aI _ hc)) e
    have hTV:¬ Vt (as++Z.fr) U (J.set k (.iter xs (i+1))) T:=λq=>(x1.fs T q).elim (λq=>by obtain ⟨o,e⟩:=I.vt_lt q;rw [z6] at e;exact nns e) λ_=>by
     obtain ⟨o,e⟩:=Ivt.vt_lt I (show Vt (as++Z.fr) U J T from q.imp (λq=>Qu q λo e=>by rw [ho] at e;refine snE e λcc1=>?_;clear e;subst cc1;rfl) id);rw [z6] at e;exact nns e
    refine hQ (.ref T) h' tk mv (λc o n nm e=>hk' c o n (λq=>nm (q▸aO e1)) e) (.tup (by show 2<100000;exact ltc (fk [] [(1,(.n 100000),(.n 2))] rfl)) ⟨_,z5⟩ hTV (.cons (.int _ _) (.cons (rx.on x1) .nil))) λQ' E' hQ'=>?_;refine wpAny_letOwnedTupleGo_zip z1 λh'' z7 hs7=>?_;have k7:∀ c o,c∉[z,TI,TO,i1]->h'.get? c=some o->h''.get? c=some o:=λc o n e=>hs7.extBut c o (λq=>n (by simp [q])) e;have mv7:=Sa mv.inv d hs k7 λc hc=>by
     rcases m4 hc with rfl | rfl | rfl | rfl
     . exact⟨_,z7⟩
     . exact⟨_,hs7.extBut _ _ D.TIz hTI'⟩
     . exact⟨_,hs7.extBut _ _ D.TOz z2⟩
     . exact⟨_,hs7.extBut _ _ D.i1z z3⟩
    refine hQ' h'' tk mv7 k7 (.zip z7 (hs7.extBut _ _ D.TIz hTI') (hs7.extBut _ _ D.TOz z2) (hs7.extBut _ _ D.i1z z3) ?_ e1 nd);by_cases q:a+1<b
    . exact .inl ⟨q,by omega⟩
    . exact .inr ⟨q,by omega⟩
  . have e:=(show (if a<b then _ else _:M (Option (AV×Src))) J=some (q,J') from e);rw [if_neg hab] at e;refine spE e λcc1 cc2=>?_;clear e;subst cc1;subst cc2;refine⟨_,rfl,λQ E hQ=>Pd hh ndz hz hTI hTO h1 (by rcases hl with ⟨h,_⟩ | ⟨_,h⟩;exact absurd h hab;exact h) λh' hk=>?_⟩;have k:∀ c o,c∉[z,TI,TO,i1]->s.heap.get? c=some o->h'.get? c=some o:=λc o n e=>hk c o (λq=>n (by simp [q])) (λq=>n (by simp [q])) e;exact hQ h' s.toks (Xk I d hs k) λc o n _ e=>k c o n e
end
theorem Mc:isSubtype (.type "range_iterator") (.type "reversed")=pure false:=by rw [isSubtype_type];kernel_rfl
section
variable{prog:Program}{w:World}{A:Around}{E:Value->Shared->Prop}{s:Shared}
noncomputable def Ux(n:Int):Obj:={ cls:=.type "range_iterator",data:=.fields #[rawInt (n - 1),rawInt n,rawInt (-1)]}
theorem Xl{n:Int}(hn:0<=n):Builtin.Range.rangeSize 0 n 1=n:=by
 unfold Builtin.Range.rangeSize;by_cases h:(0:Int)<n
 . rw [if_pos (by decide),if_pos h,Int.ediv_one,Int.sub_add_cancel,Int.sub_zero]
 . rw [if_pos (by decide),if_neg h];exact Int.le_antisymm hn (Int.not_lt.mp h)
theorem Iv(a b:Int):Builtin.Range.rangeSize a b 1=((b - a).toNat:Int):=by
 unfold Builtin.Range.rangeSize;by_cases h:a<b
 . rw [if_pos (by decide),if_pos h,Int.ediv_one,Int.sub_add_cancel,Int.toNat_of_nonneg (Int.sub_nonneg.mpr (Int.le_of_lt h))]
 . rw [if_pos (by decide),if_neg h,Int.toNat_of_nonpos (Int.sub_nonpos_of_le (Int.not_lt.mp h))];rfl
theorem Np{n:Int}(h : -2000000<n/\n<2000001):Builtin.Range.rangeFitsLong n=true:=by
 unfold Builtin.Range.rangeFitsLong;simp only [Bool.and_eq_true,decide_eq_true_eq];omega
theorem Uy{a b:Int}(h:small a b=true):Builtin.Range.small a b 1=true:=by
 have h:=aB h;unfold Builtin.Range.small;rw [Iv]
 repeat rw [Np (by omega)]
 simp
theorem Ig{r:Addr}{n:Int}{ta tb tc:Tok}{Q:Value->Shared->Prop}(hr:IsRange s.heap r 0 n 1 ta tb tc)(hn:0<=n)(hs:small 0 n=true)
 (h:Q (.ref s.heap.objs.size) { s with heap:=s.heap.push (Ux n)}):wpAny (model prog w) A (call (.builtin "range.__reversed__") [.ref r]) Q E s:=by
 have hT:s.TypeIs (.ref r) "range":=⟨_,hr,rfl⟩;have hs:=aB hs;refine wpAny_call_entry F.slot_range_reversed hT F.entry_range_reversed ?_ (F.args_range_reversed_1 _);unfold Builtin.«range.__reversed__»;refine aA (bR (a:=Value.ref r) rfl ?_);unfold Builtin.Range.rangeFields;refine aA ?_;refine aA (cU hr rfl (x:=.int 0 ta) rfl ?_);refine aA (bR (a:=some (0:Int)) rfl ?_);refine aA (cU hr rfl (x:=.int n tb) rfl ?_);refine aA (bR (a:=some n) rfl ?_);refine aA (cU hr rfl (x:=.int 1 tc) rfl ?_);refine aA (bR (a:=some (1:Int)) rfl ?_);refine aH ?_;dsimp only;rw [Xl hn]
 repeat rw [Np (by omega)]
 simp only [Bool.and_self,Bool.not_true,Bool.false_eq_true,if_false,if_true];have e1:(0:Int)+(n - 1)*1=n - 1:=by omega
 rw [e1];refine aA (wpAny_newObj_type (aH ⟨_,rfl,h⟩))
theorem Ii{r:Addr}{n:Int}{ta tb tc:Tok}{Q1:Value->Shared->Prop}(hr:IsRange s.heap r 0 n 1 ta tb tc)(hn:0<=n)(hs:small 0 n=true)
 (h:Q1 (.ref s.heap.objs.size) { s with heap:=s.heap.push (Ux n)}) :
 codeAny (model prog w) A (.call (.builtin "reversed.__new__") ⟨[.type "reversed",.ref r],[]⟩) (wants Q1 E) s:=by
 have hT:s.TypeIs (.ref r) "range":=⟨_,hr,rfl⟩;refine codeAny_of_tree ?_;show wpAny _ A.in1 (do checkBuiltinCall "reversed.__new__" ⟨[.type "reversed",.ref r],[]⟩;again (.builtin "reversed.__new__" ⟨[.type "reversed",.ref r],[]⟩)) _ _ s;refine aA (bR (F.newCall_reversed_1 _) (aH ⟨plainId_quiet F.plain_reversed_new _,codeAny_builtin F.entry_reversed_new ?_⟩));rw [dY F.plain_reversed_new _];unfold Builtin.«reversed.__new__»;refine aA (bR (newClass_reversed _) ?_)
 try dsimp only
 refine aA (bR (a:=()) (by first | rfl | kernel_rfl) ?_);refine aA (bR (a:=()) (by first | rfl | kernel_rfl) ?_)
 try dsimp only
 refine aA (wpAny_specialOf hT F.slot_range_reversed.lookup ?_)
 try dsimp only
 refine aA (bR (F.slot_range_reversed.bind _) ?_)
 try dsimp only
 first
 | rw [if_neg (show ¬ ((Value.builtin "range.__reversed__" == Value.none)=true) from Bool.false_ne_true)]
 | (show wpAny _ _ (if (Value.builtin "range.__reversed__" == Value.none)=true then _ else _) _ _ _;rw [if_neg (show ¬ ((Value.builtin "range.__reversed__" == Value.none)=true) from Bool.false_ne_true)])
 refine aA (wpAny_rule ?_);refine aA (m:=runValue (.call (.builtin "range.__reversed__") ⟨[.ref r],[]⟩)) (show wpAny _ _ (call (.builtin "range.__reversed__") [.ref r]) _ _ _ from Ig hr hn hs ?_)
 first
 | exact aH h
 | exact aA (aH (aH h))
theorem Ij{r:Addr}{n:Int}{ta tb tc:Tok}{Q:Value->Shared->Prop}(hr:IsRange s.heap r 0 n 1 ta tb tc)(hn:0<=n)(hs:small 0 n=true)
 (h:Q (.ref s.heap.objs.size) { s with heap:=s.heap.push (Ux n)}):wpAny (model prog w) A (call (.type "reversed") [.ref r]) Q E s:=by
 refine callType_other (U:="range_iterator") (Q₁:=λobj s1=>obj=.ref s.heap.objs.size/\s1={ s with heap:=s.heap.push (Ux n)}) (by decide +kernel) F.create_reversed ⟨_,_,F.mro_reversed⟩ F.made_reversed Mc (F.typeCall_reversed_1 _) (Ii hr hn hs ⟨rfl,rfl⟩) ?_
 rintro obj s1 ⟨rfl,rfl⟩
 exact⟨⟨_,aS _ rfl,rfl⟩,h⟩
noncomputable abbrev Amc(h:Heap)(a b:Int):Heap:=h.push { cls:=.type "range_iterator",data:=.fields #[rawInt a,rawInt (Builtin.Range.rangeSize a b 1),rawInt 1]}
noncomputable abbrev Amd(h:Heap)(a b:Int)(it:Addr):Heap:=(Amc h a b).push { cls:=.type "tuple",data:=.seq #[.ref h.objs.size,.ref it]}
noncomputable abbrev Ame(h:Heap)(a b:Int)(it:Addr):Heap:=(Amd h a b it).push { cls:=.type "tuple",data:=.seq #[.none,.none]}
noncomputable abbrev Aga(h:Heap)(a b:Int)(it:Addr):Heap:=(Ame h a b it).push { cls:=.type "zip",data:=.fields #[.none,.bool false,.bool false,.ref (Amc h a b).objs.size,.ref (Amd h a b it).objs.size]}
theorem Nq(r it l:Addr)(a b:Int)(i:Nat)(ta tb tc:Tok)(hs:Builtin.Range.small a b 1=true) :
 Meets (Builtin.«zip.__new__» ⟨[.type "zip",.ref r,.ref it],[]⟩) (λ_ R s=>IsRange s.heap r a b 1 ta tb tc/\s.heap.IsListIter it l i/\
  R (.ok (.ret (.ref (Ame s.heap a b it).objs.size))) { s with heap:=Aga s.heap a b it}):=
 .of_wp λprog w A R s h=>by
  obtain ⟨hp,g,d,tk,os⟩:=s;refine e03 h λhl1 hl2 h=>?_;have hsub:=sub_zip;have hL1:IsRange (Shared.heap ⟨hp,g,d,tk,os⟩) r a b 1 ta tb tc:=hl1;have hL2:Heap.IsListIter (Shared.heap ⟨hp.push { cls:=.type "range_iterator",data:=.fields #[rawInt a,rawInt (Builtin.Range.rangeSize a b 1),rawInt 1]},g,d,tk,os⟩) it l i:=by
   refine e12 hl2 λo ho z=>?_;clear hl2;exact⟨o,aE _ ho,z⟩
  wp_walk using wpAny_pyIter_range hL1 hs,wpAny_pyIter_listiter hL2
  exact⟨_,rfl,h⟩
theorem Adc{r it l:Addr}{a b:Int}{i:Nat}{ta tb tc:Tok}{Q:Value->Shared->Prop}(hr:IsRange s.heap r a b 1 ta tb tc)(hs:Builtin.Range.small a b 1=true)(hi:s.heap.IsListIter it l i)
 (h:∀ h' z TI TO i1,IsZip h' z TI TO .none->IsPair h' TI (.ref i1) (.ref it)->IsPair h' TO .none .none->IsRangeIter h' i1 a (Builtin.Range.rangeSize a b 1) 1->[z,TI,TO,i1].Nodup->(∀ b∈[z,TI,TO,i1],s.heap.get? b=none)->
  (∀ c o,s.heap.get? c=some o->h'.get? c=some o)->Q (.ref z) { s with heap:=h'}) :
 wpAny (model prog w) A (call (.type "zip") [.ref r,.ref it]) Q E s:=by
 refine callType_new F.called_zip (by decide) (F.typeCall_zip_2 _ _) (F.newCall_zip_2 _ _) (λobj=>F.args_object_init_3 obj _ _) F.entry_zip_new
  (Nq r it l a b i ta tb tc hs) ⟨hr,hi,?_⟩
 have z1:(Amc s.heap a b).objs.size=s.heap.objs.size+1:=Heap.size_push ..;have z3:(Amd s.heap a b it).objs.size=s.heap.objs.size+2:=by rw [Heap.size_push,z1]
 have z4:(Ame s.heap a b it).objs.size=s.heap.objs.size+3:=by rw [Heap.size_push,z3]
 have g5:(Aga s.heap a b it).get? (Ame s.heap a b it).objs.size=some _:=aS _ rfl;have g4:(Aga s.heap a b it).get? (Amd s.heap a b it).objs.size=some _:=aE _ (aS _ rfl);have g3:(Aga s.heap a b it).get? (Amc s.heap a b).objs.size=some _:=aE _ (aE _ (aS _ rfl));have g1:(Aga s.heap a b it).get? s.heap.objs.size=some _:=aE _ (aE _ (aE _ (aS _ rfl)));refine⟨⟨_,g5,rfl⟩,h _ _ _ _ _ g5 g3 g4 g1 ?_ (λc hc=>?_) λc o x=>aE _ (aE _ (aE _ (aE _ x)))⟩
 . rw [z1,z3,z4];simp
 . refine cG ?_;rcases Avg hc with rfl | rfl | rfl | rfl
   . rw [z4];exact cB _ _
   . rw [z1];exact cB _ _
   . rw [z3];exact cB _ _
   . exact aU _
end
theorem Lc{L:List AV}{j:Nat}(h:j<L.length)(τ:Sto):srcNext (.froz (L.drop j)) τ=some (.ok (some (L.getD j .none,.froz (L.drop (j+1)))),τ):=by
 have hd:L.drop j=L[j]::L.drop (j+1):=dX h;rw [hd];simp [srcNext,Ik.Internal.M.ret,h]
theorem Nr{L:List AV}{n:Nat}(h:L.length<=n)(τ:Sto):srcNext (.froz (L.drop n)) τ=some (.ok Option.none,τ):=by
 rw [dD h];rfl
theorem Nt{L:List Nat}{j:Nat}(h:j<L.length)(τ:Sto):srcNext (.chars (L.drop j)) τ=some (.ok (some (mk [L.getD j 0],.chars (L.drop (j+1)))),τ):=by
 have hd:L.drop j=L[j]::L.drop (j+1):=dX h;rw [hd];simp [srcNext,Ik.Internal.M.ret,h]
theorem Pw{L:List Nat}{n:Nat}(h:L.length<=n)(τ:Sto):srcNext (.chars (L.drop n)) τ=some (.ok Option.none,τ):=by
 rw [dD h];rfl
section
variable{Z:Zt}{as ps U:List Addr}{s:Shared}{J J':Sto}{it v:Value}{src:Src}{a:AV}
theorem Sc{prog:Program}{w:World}{g h:Heap}{fr:List Addr}{k:Nat}{l:Addr}{o:Al}(I:Ivt prog w g h fr U J)(e1:U[k]?=some l)(e2:J[k]?=some o)(hl:live o=false):¬ Vt fr U J l:=by
 rintro (⟨i,o',q1,q2,q3⟩ | q)
 . obtain ⟨h1,g1⟩:=aN.mp q1;obtain ⟨h2,g2⟩:=aN.mp e1;have hi:i=k:=(List.getElem_inj I.nodup).mp (g1.trans g2.symm);subst hi;rw [e2] at q2;refine snE q2 λcc1=>?_;clear q2;subst cc1;rw [hl] at q3;exact nft q3
 . exact (I.frs l q).1 (aO e1)
theorem Amf(I:(Z.sub as).I s.heap U J)(r:SrcRel Z as s.heap U J ps it src)(hlive:∀ k,src=.iter k->∃ xs i,J[k]?=some (.iter xs i)){Q E:Value->Shared->Prop}(h:Q it s):wpAny Z.M Z.A (pyIter it) Q E s:=by
 induction r using SrcRel.casesOn with
 | walk W hi st lv hf hp h1 h2 h3=>exact W.self _ s Q E st h
 | live e i=>exact wpAny_pyIter_listiter i h
 | @iter JJ k e=>
  refine e21 (hlive k rfl) λxs i ho=>?_;refine e22 (I.obj e ho) λl vs hit _=>?_;exact wpAny_pyIter_listiter hit h
 | zip hz hTI hTO hi hl e nd=>exact wpAny_pyIter_zip hz h
theorem Hl(I:Z.I s.heap U J)(o:Obj)(nf:o.isFreed=false):Mv Z [] [s.heap.objs.size] s.heap U J (s.heap.push o) U J:=
 Mv.enter (Z:=Z) (as:=[]) (bs:=[s.heap.objs.size]) I (λb ob e=>aE _ e) λb hb=>by
  rw [aQ.mp hb];exact⟨Bb _,_,aS _ nf⟩
noncomputable def Avp(Z:Zt)(s:Shared)(U:List Addr)(J J':Sto)(src:Src)(Q:Value->Shared->Prop):Prop:=
 ∀ it ps h' tk,Mv Z [] ps s.heap U J h' U J'->(∀ b∈ps,s.heap.get? b=none)->SrcRel Z ps h' U J' ps it src->(∀ k,src=.iter k->∃ xs i,J'[k]?=some (.iter xs i))->Q it { s with heap:=h',toks:=tk}
theorem Amg(hh:Z.A.handled=none)(hsys:Z.Sys)(I:Z.I s.heap U J)(R:VRel s.heap (Z.V U J) U v a){q:Except Str Src}(e:Mr a J=some (q,J')) :
 ∃ src,q=.ok src/\∀ Q E,Avp Z s U J J' src Q->wpAny Z.M Z.A (pyIter v) Q E s:=by
 have new1:∀ b∈[s.heap.objs.size],s.heap.get? b=none:=λb hb=>by rw [aQ.mp hb];exact Bb _
 have notz:∀ {l:Addr} {o:Obj},s.heap.get? l=some o->l≠s.heap.objs.size:=λe=>aW (cR e)
 induction R using VRel.casesOn with
 | @lst l vs xs z i n r=>
  refine spE e λcc1 cc2=>?_;clear e;subst cc1;subst cc2;refine⟨_,rfl,λQ E hQ=>wpAny_pyIter_list i.isList ?_⟩;obtain ⟨m,i⟩:=i;have mv:=Hl I { cls:=.type "list_iterator",data:=.fields #[.ref l,.int 0 0]} rfl;have i':=mv.on.lx n ⟨m,i⟩;have hl:=r.length;refine hQ _ _ _ s.toks mv new1 ?_ (λ_ q=>by injection q);have:=SrcRel.walk (Z:=Z) (as:=[s.heap.objs.size]) (h:=s.heap.push { cls:=.type "list_iterator",data:=.fields #[.ref l,.int 0 0]}) (U:=U) (J:=J) (i:=0) (xs:=λj=>xs.getD j .none) (f:=λj=>.froz (xs.drop j))
   (Walks.list (prog:=Z.prog) (w:=Z.w) hh s.heap.objs.size l (notz i) vs.toArray) (bV _) ⟨⟨_,aS _ rfl,rfl,rfl⟩,i'.1.isList⟩ (λj h' st=>by obtain ⟨⟨o,ho,hc,hd⟩,_⟩:=st;exact⟨o,ho,Bf hc hd (by decide +kernel)⟩)
   (λb hb hne=>by
    rcases Wi hb with rfl | rfl
    . exact absurd rfl hne
    . exact⟨i'.2,_,i'.1.choose_spec⟩)
   (λj v hv=>by
    have hv:vs[j]?=some v:=by simpa using hv
    have hj:j<xs.length:=by rw [<- hl];exact (aN.mp hv).1
    refine e12 (r.get (k:=j) (x:=xs.getD j .none) (by simp [hj])) λv' h1 h2=>?_;rw [hv] at h1;refine snE h1 λcc1=>?_;clear h1;subst cc1;exact h2.on mv.on)
   (λj hj τ=>Lc (by simp at hj;exact ltc (fk [vs.length,xs.length,j] [(1,(.v 0),(.v 1)),(1,(.a (.v 2) (.n 1)),(.v 0)),(1,(.v 1),(.v 2))] rfl (aD hl) hj)) τ) (λτ=>Nr (by simp;exact lec (fk [xs.length,vs.length] [(1,(.v 0),(.v 1)),(1,(.a (.v 1) (.n 1)),(.v 0))] rfl (aD (Eq.symm hl)))) τ) (λ_=>rfl)
  simpa using this
 | @tup l vs xs z i n r=>
  refine spE e λcc1 cc2=>?_;clear e;subst cc1;subst cc2;refine⟨_,rfl,λQ E hQ=>wpAny_pyIter_tuple i.isTuple ?_⟩;obtain ⟨m,i⟩:=i;have mv:=Hl I { cls:=.type "tuple_iterator",data:=.fields #[.ref l,.int 0 0]} rfl;have i':=mv.on.tx n ⟨m,i⟩;have hl:=r.length;refine hQ _ _ _ s.toks mv new1 ?_ (λ_ q=>by injection q);have:=SrcRel.walk (Z:=Z) (as:=[s.heap.objs.size]) (h:=s.heap.push { cls:=.type "tuple_iterator",data:=.fields #[.ref l,.int 0 0]}) (U:=U) (J:=J) (i:=0) (xs:=λj=>xs.getD j .none) (f:=λj=>.froz (xs.drop j))
   (Walks.tuple (prog:=Z.prog) (w:=Z.w) hh s.heap.objs.size l (notz i) vs.toArray) (bV _) ⟨⟨_,aS _ rfl,rfl,rfl⟩,i'.1.isTuple⟩ (λj h' st=>by obtain ⟨⟨o,ho,hc,hd⟩,_⟩:=st;exact⟨o,ho,Bf hc hd (by decide +kernel)⟩)
   (λb hb hne=>by
    rcases Wi hb with rfl | rfl
    . exact absurd rfl hne
    . exact⟨i'.2,_,i'.1.choose_spec⟩)
   (λj v hv=>by
    have hv:vs[j]?=some v:=by simpa using hv
    have hj:j<xs.length:=by rw [<- hl];exact (aN.mp hv).1
    refine e12 (r.get (k:=j) (x:=xs.getD j .none) (by simp [hj])) λv' h1 h2=>?_;rw [hv] at h1;refine snE h1 λcc1=>?_;clear h1;subst cc1;exact h2.on mv.on)
   (λj hj τ=>Lc (by simp at hj;exact ltc (fk [vs.length,xs.length,j] [(1,(.v 0),(.v 1)),(1,(.a (.v 2) (.n 1)),(.v 0)),(1,(.v 1),(.v 2))] rfl (aD hl) hj)) τ) (λτ=>Nr (by simp;exact lec (fk [xs.length,vs.length] [(1,(.v 0),(.v 1)),(1,(.a (.v 1) (.n 1)),(.v 0))] rfl (aD (Eq.symm hl)))) τ) (λ_=>rfl)
  simpa using this
 | @rng r a b ta tb tc hr n=>
  obtain ⟨hs,e⟩:=Ce e;refine spE e λcc1 cc2=>?_;clear e;subst cc1;subst cc2;refine⟨_,rfl,λQ E hQ=>wpAny_pyIter_range hr (Uy hs) ?_⟩;rw [Iv];have mv:=Hl I { cls:=.type "range_iterator",data:=.fields #[rawInt a,rawInt ((b - a).toNat:Int),rawInt 1]} rfl;refine hQ _ _ _ s.toks mv new1 ?_ (λ_ q=>by injection q);have:=SrcRel.walk (Z:=Z) (as:=[s.heap.objs.size]) (h:=s.heap.push { cls:=.type "range_iterator",data:=.fields #[rawInt a,rawInt ((b - a).toNat:Int),rawInt 1]}) (U:=U) (J:=J) (i:=0) (xs:=λj=>.int (a+j)) (f:=λj=>.rng (a+j) b)
   (Walks.range (prog:=Z.prog) (w:=Z.w) hh s.heap.objs.size a 1 (b - a).toNat) (bV _) (by have:=aS s.heap (o:={ cls:=.type "range_iterator",data:=.fields #[rawInt a,rawInt ((b - a).toNat:Int),rawInt 1]}) rfl;simpa using this)
   (λj h' st=>⟨_,st,Bf rfl rfl (by decide +kernel)⟩)
   (λb hb hne=>absurd (aQ.mp hb) hne)
   (λj v hv=>by obtain ⟨t,rfl⟩:=hv;have:=VRel.int (h:=s.heap.push { cls:=.type "range_iterator",data:=.fields #[rawInt a,rawInt ((b - a).toNat:Int),rawInt 1]}) (F:=Vt ([s.heap.objs.size]++Z.fr) U J) (U:=U) (a+j) t;simpa using this)
   (λj hj τ=>by
    show Ik.Internal.M.ret (if a+j<b then some (AV.int (a+j),Src.rng (a+j+1) b) else Option.none) τ=_;rw [if_pos (by omega)];show some (Except.ok (some (AV.int (a+j),Src.rng (a+j+1) b)),τ)=some (Except.ok (some (AV.int (a+j),Src.rng (a+((j+1:Nat):Int)) b)),τ);rw [show a+((j+1:Nat):Int)=a+j+1 by push_cast;omega])
   (λτ=>by
    show Ik.Internal.M.ret (if a+((b - a).toNat:Int)<b then _ else Option.none) τ=_;rw [if_neg (by omega)];rfl) (λ_=>rfl)
  simpa using this
 | str x t z=>
  refine spE e λcc1 cc2=>?_;clear e;subst cc1;subst cc2;refine⟨_,rfl,λQ E hQ=>?_⟩
  cases ha:x.cps.all (·<128) with
  | true=>
   refine wpAny_pyIter_ascii ha ?_;have mv:=Hl I { cls:=.type "str_ascii_iterator",data:=.fields #[.str x t,.int 0 0]} rfl;refine hQ _ _ _ s.toks mv new1 ?_ (λ_ q=>by injection q);have:=SrcRel.walk (Z:=Z) (as:=[s.heap.objs.size]) (h:=s.heap.push { cls:=.type "str_ascii_iterator",data:=.fields #[.str x t,.int 0 0]}) (U:=U) (J:=J) (i:=0) (xs:=λj=>mk [x.cps.toList.getD j 0]) (f:=λj=>.chars (x.cps.toList.drop j))
    (Walks.strAscii (prog:=Z.prog) (w:=Z.w) hh s.heap.objs.size x t) (bV _) ⟨_,aS _ rfl,rfl,rfl⟩ (λj h' st=>by refine e13 st λo ho hc hd=>?_;clear st;exact⟨o,ho,Bf hc hd (by decide +kernel)⟩)
    (λb hb hne=>absurd (aQ.mp hb) hne)
    (λj v hv=>by
     refine e22 hv λc u hc zz3=>?_;clear hv;subst zz3;have e:x.cps.toList.getD j 0=c:=by simp [hc]
     rw [e];exact VRel.str ⟨#[c]⟩ u (by show 1<100000;decide))
    (λj hj τ=>Nt (by simpa using hj) τ) (λτ=>Pw (by simp) τ) (λ_=>rfl)
   simpa using this
  | false=>
   refine wpAny_pyIter_wide ha ?_;have mv:=Hl I { cls:=.type "str_iterator",data:=.fields #[.str x t,.int 0 0]} rfl;refine hQ _ _ _ s.toks mv new1 ?_ (λ_ q=>by injection q);have:=SrcRel.walk (Z:=Z) (as:=[s.heap.objs.size]) (h:=s.heap.push { cls:=.type "str_iterator",data:=.fields #[.str x t,.int 0 0]}) (U:=U) (J:=J) (i:=0) (xs:=λj=>mk [x.cps.toList.getD j 0]) (f:=λj=>.chars (x.cps.toList.drop j))
    (Walks.strWide (prog:=Z.prog) (w:=Z.w) hh s.heap.objs.size x t) (bV _) ⟨_,aS _ rfl,rfl,rfl⟩ (λj h' st=>by refine e13 st λo ho hc hd=>?_;clear st;exact⟨o,ho,Bf hc hd (by decide +kernel)⟩)
    (λb hb hne=>absurd (aQ.mp hb) hne)
    (λj v hv=>by
     refine e22 hv λc u hc zz3=>?_;clear hv;subst zz3;have e:x.cps.toList.getD j 0=c:=by simp [hc]
     rw [e];exact VRel.str ⟨#[c]⟩ u (by show 1<100000;decide))
    (λj hj τ=>Nt (by simpa using hj) τ) (λτ=>Pw (by simp) τ) (λ_=>rfl)
   simpa using this
 | @ref l k e1=>
  unfold Mr at e;simp only [Ik.Internal.M.bnd,Ik.Internal.M.get] at e
  cases ho:J[k]? with
  | none=>rw [ho] at e;exact nns e
  | some ob=>
   rw [ho] at e
   induction ob using Al.casesOn with
   | lst xs=>
    refine spE e λcc1 cc2=>?_;clear e;subst cc1;subst cc2;obtain ⟨z,vs,i,r⟩:=I.list e1 ho;refine⟨_,rfl,λQ E hQ=>wpAny_pyIter_list i.isList ?_⟩;have mv:=Hl I { cls:=.type "list_iterator",data:=.fields #[.ref l,.int 0 0]} rfl;exact hQ _ _ _ s.toks mv new1 (.live e1 ⟨_,aS _ rfl,rfl,rfl⟩) (λ_ q=>by injection q)
   | iter xs i=>
    refine spE e λcc1 cc2=>?_;clear e;subst cc1;subst cc2;refine e22 (I.obj e1 ho) λl' vs hit _=>?_;refine⟨_,rfl,λQ E hQ=>wpAny_pyIter_listiter hit ?_⟩;exact hQ _ [] s.heap s.toks (Mv.refl (Z:=Z) (as:=[]) I) (λb hb=>by cases hb) (.iter e1) (λk' q=>by injection q with cc1;subst cc1;exact⟨xs,i,ho⟩)
   | dict es=>
    dsimp only at e;obtain ⟨hk,e⟩:=Ce e;simp only [Ik.Internal.M.bnd,Ik.Internal.M.set,Ik.Internal.M.ret] at e;refine spE e λcc1 cc2=>?_;clear e;subst cc1;subst cc2;refine e22 (I.dict (.inl rfl) e1 ho) λvs ep D r=>?_;have hne:(l == sysModules)=false:=by
     obtain ⟨o,ho'⟩:=hsys;have hg:=I.out l (aO e1)
     cases q:l == sysModules with
     | false=>rfl
     | true=>
      have:l=sysModules:=by simpa using q
      rw [this,ho'] at hg;exact nsn hg
    refine⟨_,rfl,λQ E hQ=>wpAny_pyIter_dict (knd:=strKind Z.prog Z.w) hne D ?_⟩;generalize hO:({ cls:=.type "dict_keyiterator",data:=.fields #[.ref l,.int 0 0,.int ((es.map (·.1)).zip vs).length 0,.int ep 0]}:Obj)=o;have G:=Ivt.turn (h':=s.heap) (ao':=.fdict es) I e1 ho rfl (λb o _ _ e=>e) (λ_ _=>.refl) (I.there l (aO e1)) λx=>⟨vs,ep,D,r.on x⟩;have mv1:=Mv.of_go0 (Z:=Z) G;have mv:=mv1.trans (Hl (s:=s) mv1.inv o (hO▸rfl));have hσ:(J.set k (.fdict es))[k]?=some (.fdict es):=dQ (aN.mp ho).1;have hnl:=Sc mv.inv e1 hσ rfl;have hlt:l≠s.heap.objs.size:=aW D.lt_size;have hlen:((es.map (·.1)).zip vs).length=es.length:=by have:=r.length;simp at this;simp [this]
    refine hQ _ _ _ s.toks mv new1 ?_ (λ_ q=>by injection q);have:=SrcRel.walk (Z:=Z) (as:=[s.heap.objs.size]) (h:=s.heap.push o) (U:=U) (J:=J.set k (.fdict es)) (i:=0) (xs:=λj=>(es.map λe=>AV.str e.1).getD j .none) (f:=λj=>.froz ((es.map λe=>AV.str e.1).drop j))
     (Walks.dictKeys (knd:=strKind Z.prog Z.w) hh s.heap.objs.size l hlt ((es.map (·.1)).zip vs) ep) (bV _) ⟨⟨_,aS _ (hO▸rfl),hO▸rfl,hO▸rfl⟩,D.push _⟩ (λj h' st=>by obtain ⟨⟨o,ho,hc,hd⟩,_⟩:=st;exact⟨o,ho,Bf hc hd (by decide +kernel)⟩)
     (λb hb hne=>by
      rcases Wi hb with rfl | rfl
      . exact absurd rfl hne
      . refine e22 D λo' es' ho' _=>?_;clear D;exact⟨hnl,o',aE _ ho'⟩)
     (λj v hv=>by
      refine e22 hv λx y hxy hv=>?_;obtain ⟨t,rfl⟩:=Value.isStrOf_shape hv;obtain ⟨h1,h2⟩:=List.getElem?_zip_eq_some.mp hxy;rw [List.getElem?_map,bF] at h1;refine e12 h1 λe' he' zz2=>?_;clear h1;subst zz2;have:(es.map λe=>AV.str e.1).getD j .none=.str e'.1:=by simp [aY,he']
      rw [this];exact VRel.str _ _ (aB (bI.mp hk e' (aO he'))))
     (λj hj τ=>Lc (by simp [hlen] at hj;simpa using hj) τ) (λτ=>Nr (by simp [hlen]) τ) (λ_=>rfl)
    simpa using this
   | _=>exact nns e
 | _=>exact nns e
end
noncomputable def Uz{α:Type}(Z:Zt)(U:List Addr)(J:Sto)(q:Except Str α)(J':Sto)(E:Value->Shared->Prop)(s:Shared):Prop:=∀ m,q=.error m->Avh Z U J m J' E s
section
variable{α β γ δ:Type}{Z:Zt}{R:Ie β α}{s:Shared}{U U':List Addr}{J J' J1:Sto}{Q:β->Shared->Prop}{E:Value->Shared->Prop}
theorem Uz.go{q:Except Str α}{h':Heap}{tk:Nat}(x:Z.Go s.heap U J h' U' J1)(a:Uz Z U J q J' E s):Uz Z U' J1 q J' E { s with heap:=h',toks:=tk}:=
 λm e b hB h2 tk2 U2 G r=>a m e b hB h2 tk2 U2 (x.trans G) r
theorem At.use'{m:M α}{t:Sem β}{f:α->M γ}{r:Except Str γ}(x:At Z R m t s U J)(e:(m.bnd f) J=some (r,J'))(a:Uz Z U J r J' E s)
 (k:∀ v b h' tk U' J1,Z.Go s.heap U J h' U' J1->R h' (Z.V U' J1) U' b v->f v J1=some (r,J')->Q b { s with heap:=h',toks:=tk}):wpAny Z.M Z.A t Q E s:=by
 unfold M.bnd at e
 cases hm:m J with
 | none=>rw [hm] at e;exact nns e
 | some q=>
  obtain ⟨q,J1⟩:=q;rw [hm] at e
  induction q using Except.casesOn with
  | error y=>
   refine spE e λcc1 cc2=>?_;clear e;subst cc1;obtain rfl:=cc2.symm;exact x _ _ hm Q E (a y rfl)
  | ok v=>exact x _ _ hm Q E λb h' tk U' G r=>k v b h' tk U' J1 G r e
end
noncomputable def Iw(Z:Zt)(m:M Src)(iter:PySem.Expr)(env:Env)(s:Shared)(U:List Addr)(J:Sto):Prop:=
 ∀ q J',m J=some (q,J')->∀ Q E,Uz Z U J q J' E s->(∀ src,q=.ok src->∀ it ps h' tk U',Mv Z [] ps s.heap U J h' U' J'->(∀ b∈ps,b∉Z.fr)->SrcRel Z ps h' U' J' ps it src->(∀ k,src=.iter k->∃ xs i,J'[k]?=some (.iter xs i))->Q it { s with heap:=h',toks:=tk})->
  wpAny Z.M Z.A (eval iter env) (λx s1=>wpAny Z.M Z.A (pyIter x) Q E s1) E s
section
variable{C:Cx}{P:Bi}{n lv d:Nat}{Z:Zt}{env:Env}{rs:Rs}{Y:Ae}{s:Shared}{U U':List Addr}{J J':Sto}{v w:Value}{a b:AV}
theorem Iw.none{m:M Src}{iter:PySem.Expr}(h:m J=none):Iw Z m iter env s U J:=λq J' e=>by rw [h] at e;exact nns e
theorem Arz(L:Z.Lv lv)(X:Ih C P n lv Z env rs Y)(S:Am Z C.G env rs)(I:Z.I s.heap U J)(D:Ag Z env rs s.heap U J Y){iter:PySem.Expr}:Iw Z (itA P (n+1) lv Y (.val (cE C d rs iter))) iter env s U J:=by
 intro q J' e Q E er k;refine (X.ev d iter I D).use' e er λx xv h1 tk1 μ1 σ1 G1 R1 e1=>?_;refine e12 (Amg (s:={ s with heap:=h1,toks:=tk1}) L.hand L.sys G1.inv R1 e1) λsrc zz1 go=>?_;subst zz1;refine go Q E λit ps h' tk mv nw r lv=>?_;have mv1:=(Mv.of_go0 G1).trans mv;refine k src rfl it ps h' tk μ1 mv1 (λb hb q=>?_) r lv;obtain ⟨o,e⟩:=(G1.inv.frs b q).2.2;have:=nw b hb;rw [show ({ s with heap:=h1,toks:=tk1}:Shared).heap=h1 from rfl,e] at this;exact nsn this
theorem Xm{e:PySem.Expr}(h:Aq [e]=false):cE C d rs e=.stuck:=by
 cases e <;> first | exact ntf h | (cases d <;> rfl)
theorem Xn{x:PySem.Expr}{r:List PySem.Expr}(h:Aq (x::r)=true):Aq [x]=true:=by cases x <;> first | exact nft h | rfl
theorem Xo{x:PySem.Expr}{r:List PySem.Expr}(h:Aq (x::r)=true):Aq r=true:=by cases x <;> first | exact nft h | exact h
theorem Aal{a b:PySem.Expr}(h:Aq [a]=true)(h':Aq [b]=true):Aq [a,b]=true:=by
 cases a <;> first | exact nft h | exact h'
theorem Avq{x y:PySem.Expr}(hp:Aq [x]=true)(hp':Aq [y]=true):starEach [x,y] env=(false,eval x env)::starEach [y] env:=by
 rw [Dg (Aal hp hp'),Dg hp'];rfl
theorem Asa(L:Z.Lv lv)(X:Ih C P n lv Z env rs Y)(S:Am Z C.G env rs)(I:Z.I s.heap U J)(D:Ag Z env rs s.heap U J Y){f:Str}{p pos:Pos}{x:PySem.Expr}(hv:cE C 1 rs (.Name f p)=.lit (.con (.type "reversed"))) :
 Iw Z (itA P (n+1) lv Y (.rev (cE C d rs x))) (.Call (.Name f p) [x] [] pos) env s U J:=by
 cases hp:Aq [x] with
 | false=>rw [Xm hp];exact .none (by show ((evA P n lv Y .stuck).bnd _) J=none;exact Bg Au)
 | true=>
  intro q J' e Q E er k;rw [Cm (by trivial)]
  induction n using Nat.casesAuxOn with
  | zero=>exact nns e
  | succ n=>
   have X1:=X.ev 1 (.Name f p) I D;rw [hv] at X1;refine aA (X1 _ _ rfl _ _ λv' h1 tk1 μ1 G1 R1=>?_);have zz:=R1.inv;subst zz;have er1:=er.go (tk:=tk1) G1;have D1:=D.go S G1;refine Gh hp rfl (cW (he:=Nj hp) ((X.ev d x G1.inv D1).use' e er1 λxv xw h2 tk2 μ2 σ2 G2 R2 e2=>dS ?_))
   induction xv using AV.casesOn with
   | rng a b=>
    refine e43 (VRel.inv R2) λr ta tb tc hr hn zz6=>?_;subst zz6;obtain ⟨hg,e3⟩:=Ce e2;refine spE e3 λcc1 cc2=>?_;clear e3;subst cc1;obtain rfl:=cc2.symm;obtain ⟨h0,hs⟩:=aK.mp hg;obtain ⟨h0,hb⟩:=aB h0;subst h0
    . refine Ij (s:={ s with heap:=h2,toks:=tk2}) hr hb hs ?_;have mv0:=Hl (s:={ s with heap:=h2,toks:=tk2}) G2.inv (Ux b) rfl;have hst:IsRangeIter (h2.push (Ux b)) h2.objs.size (b - 1) b (-1):=aS _ rfl;refine wpAny_pyIter_rangeiter hst ?_;have mv:=((Mv.of_go0 G1).trans (Mv.of_go0 G2)).trans mv0;refine k _ rfl _ [h2.objs.size] _ tk2 μ2 mv (λc hc q=>?_) ?_ (λ_ q=>by injection q)
      . rw [aQ.mp hc] at q;obtain ⟨o,e⟩:=(G2.inv.frs _ q).2.2;rw [Bb] at e;exact nns e
      . have hbn:((b.toNat:Nat):Int)=b:=by omega
        have:=SrcRel.walk (Z:=Z) (as:=[h2.objs.size]) (h:=h2.push (Ux b)) (U:=μ2) (J:=J') (i:=0) (xs:=λj=>.int (b - 1 - j)) (f:=λj=>.rev (b - j))
         (Walks.range (prog:=Z.prog) (w:=Z.w) L.hand h2.objs.size (b - 1) (-1) b.toNat) (bV _) (by rw [hbn];simpa using hst)
         (λj h' st=>⟨_,st,Bf rfl rfl (by decide +kernel)⟩)
         (λc hc hne=>absurd (aQ.mp hc) hne)
         (λj v hv=>by
          obtain ⟨t,rfl⟩:=hv;have:=VRel.int (h:=h2.push (Ux b)) (F:=Vt ([h2.objs.size]++Z.fr) μ2 J') (U:=μ2) (b - 1 - j) t;rw [show b - 1+(j:Int)*(-1)=b - 1 - j by omega];exact this)
         (λj hj τ=>by
          show Ik.Internal.M.ret (if 0<b - j then some (AV.int (b - j - 1),Src.rev (b - j - 1)) else Option.none) τ=_;rw [if_pos (by omega)];show some (Except.ok (some (AV.int (b - j - 1),Src.rev (b - j - 1))),τ)=some (Except.ok (some (AV.int (b - 1 - j),Src.rev (b - ((j+1:Nat):Int)))),τ);rw [show b - ((j+1:Nat):Int)=b - j - 1 by push_cast;omega,show b - 1 - (j:Int)=b - j - 1 by omega])
         (λτ=>by
          show Ik.Internal.M.ret (if 0<b - (b.toNat:Int) then _ else Option.none) τ=_;rw [if_neg (by omega)];rfl) (λ_=>rfl)
        simpa using this
   | _=>exact nns e2
theorem Asb(L:Z.Lv lv)(X:Ih C P n lv Z env rs Y)(S:Am Z C.G env rs)(I:Z.I s.heap U J)(D:Ag Z env rs s.heap U J Y){f:Str}{p pos:Pos}{x y:PySem.Expr}(hv:cE C 1 rs (.Name f p)=.lit (.con (.type "zip")))(hns:Aq [x,y]=true) :
 Iw Z (itA P (n+1) lv Y (.zip (cE C d rs x) (cE C d rs y))) (.Call (.Name f p) [x,y] [] pos) env s U J:=by
 have hp:Aq [x]=true:=Xn hns;have hp':Aq [y]=true:=Xo hns;intro q J' e Q E er k;rw [Cm (by trivial)]
 induction n using Nat.casesAuxOn with
 | zero=>exact nns e
 | succ n=>
  have X1:=X.ev 1 (.Name f p) I D;rw [hv] at X1;refine aA (X1 _ _ rfl _ _ λv' h1 tk1 μ1 G1 R1=>?_);have zz:=R1.inv;subst zz;have er1:=er.go (tk:=tk1) G1;have D1:=D.go S G1;refine Gh (Aal hp hp') rfl (cW (he:=Avq hp hp') ((X.ev d x G1.inv D1).use' e er1 λxv xw h2 tk2 μ2 σ2 G2 R2 e2=>?_));have er2:=Uz.go (s:={ s with heap:=h1,toks:=tk1}) (tk:=tk2) G2 er1;have D2:=D1.go S G2;refine cW (he:=Nj hp') ((X.ev d y G2.inv D2).use' e2 er2 λyv yw h3 tk3 U3 J3 G3 R3 e3=>dS ?_);have R2':=VRel.on G3.on R2
  induction xv using AV.casesOn with
  | rng a b=>
   refine e43 (R2'.inv) λr ta tb tc hr hn zz=>?_;clear R2';subst zz
   induction yv using AV.casesOn with
   | ref kk=>
    refine e12 (VRel.inv R3) λit ek zz2=>?_;subst zz2;obtain ⟨hg,e4⟩:=Ce e3;refine e22 (Nk e4) λxs i ho e5=>?_;refine spE e5 λcc1 cc2=>?_;clear e5;subst cc1;obtain rfl:=cc2.symm;refine e22 (G3.inv.obj ek ho) λl vs hit _=>?_;refine Adc (s:={ s with heap:=h3,toks:=tk3}) hr (Uy hg) hit λh' z TI TO i1 a1 a2 a3 a4 nd nw kp=>?_;have mv0:Mv Z [] [z,TI,TO,i1] h3 U3 J' h' U3 J':=Mv.enter (Z:=Z) (as:=[]) (bs:=[z,TI,TO,i1]) G3.inv kp λc hc=>⟨nw c hc,by
     rcases Avg hc with rfl | rfl | rfl | rfl
     . exact⟨_,a1⟩
     . exact⟨_,a2⟩
     . exact⟨_,a3⟩
     . exact⟨_,a4⟩⟩
    refine wpAny_pyIter_zip a1 (k _ rfl _ [z,TI,TO,i1] _ tk3 U3 (((Mv.of_go0 G1).trans (Mv.of_go0 G2)).trans ((Mv.of_go0 G3).trans mv0)) (Uw G3.inv nw) ?_ (λ_ q=>by injection q));rw [Iv] at a4;refine .zip a1 a2 a3 a4 ?_ ek nd;by_cases hab:a<b
    . exact .inl ⟨hab,by omega⟩
    . exact .inr ⟨hab,by omega⟩
   | _=>exact nns e3
  | _=>exact nns e3
theorem Aam{f:Str}{v:Value}{p:Pos}(hd:¬ (f == ("__debug__":Str))=true)(h:isV rs f v=true):cE C 1 rs (.Name f p)=.lit (.con v):=by
 have e:rs f=.lit (.con v):=by
  unfold isV at h
  cases hr:rs f with
  | lit w=>
   rw [hr] at h
   induction w using AV.casesOn with
   | con u=>rw [show u=v from aB h]
   | _=>exact nft h
  | _=>rw [hr] at h;exact nft h
 show Tz C rs f p=_;unfold Tz;rw [if_neg hd,e]
theorem Agb{f:Str}{as:List PySem.Expr}(h:Pj rs f as≠0):¬ (f == ("__debug__":Str))=true/\((∃ a,as=[a]/\isV rs f (.type "reversed")=true/\Pj rs f as=1)\/∃ a b,as=[a,b]/\isV rs f (.type "zip")=true/\Pj rs f as=2):=by
 unfold Pj at h ⊢;by_cases hd:(f == ("__debug__":Str))=true
 . rw [if_pos hd] at h;exact absurd rfl h
 refine⟨hd,?_⟩;rw [if_neg hd] at h ⊢
 induction as using List.casesOn with
 | nil=>exact absurd rfl h
 | cons a as=>
  induction as using List.casesOn with
  | nil=>
   by_cases q:isV rs f (.type "reversed")=true
   . exact .inl ⟨a,rfl,q,if_pos q⟩
   . exact absurd (if_neg q) h
  | cons b as=>
   induction as using List.casesOn with
   | cons _ _=>exact absurd rfl h
   | nil=>
    by_cases q:isV rs f (.type "zip")=true
    . exact .inr ⟨a,b,rfl,q,if_pos q⟩
    . exact absurd (if_neg q) h
theorem Amh(L:Z.Lv lv)(X:Ih C P n lv Z env rs Y)(S:Am Z C.G env rs)(I:Z.I s.heap U J)(D:Ag Z env rs s.heap U J Y):∀ (d:Nat) (iter:PySem.Expr),Iw Z (itA P (n+1) lv Y (cI C d rs iter)) iter env s U J
 | 0,iter=>.none (by show ((evA P n lv Y .stuck).bnd _) J=none;exact Bg Au)
 | d+1,iter=>by
  have hval:Iw Z (itA P (n+1) lv Y (.val (cE C d rs iter))) iter env s U J:=Arz L X S I D
  induction iter using PySem.Expr.casesOn with
  | Set _ _=>exact .none (by show ((evA P n lv Y .stuck).bnd _) J=none;exact Bg Au)
  | Call f as kws pos=>
   induction f using PySem.Expr.casesOn with
   | Name x p=>
    show Iw Z (itA P (n+1) lv Y (if kws.isEmpty then _ else _)) _ _ _ _ _;by_cases hk:kws.isEmpty=true
    . rw [if_pos hk];have zz9:=bS.mp hk;subst zz9;by_cases h0:Pj rs x as=0
      . rw [h0];exact hval
      . obtain ⟨hd,⟨a,rfl,hv,hr⟩ | ⟨a,b,rfl,hv,hr⟩⟩:=Agb h0
        . rw [hr];exact Asa L X S I D (Aam hd hv)
        . rw [hr];show Iw Z (itA P (n+1) lv Y (if Aq [a,b]=true then .zip (cE C d rs a) (cE C d rs b) else .val .stuck)) _ _ _ _ _;by_cases hn:Aq [a,b]=true
          . rw [if_pos hn];exact Asb L X S I D (Aam hd hv) hn
          . rw [if_neg hn];exact .none (by show ((evA P n lv Y .stuck).bnd _) J=none;exact Bg Au)
    . rw [if_neg hk];exact hval
   | _=>exact hval
  | _=>exact hval
end
section
variable{Z:Zt}{G:Str->Option Value}{env:Env}{rs:Rs}{Y:Ae}{as U:List Addr}{s:Shared}{J:Sto}{v:Value}{a:AV}{x:Str}{i:Nat}{E:Value->Shared->Prop}{Q:Unit->Shared->Prop}
noncomputable def Xp(env:Env)(rs:Rs)(as:List Addr)(x:Str)(i:Nat):Prop:=(rs x=.var i/\env.locals∈as)\/(rs x=.cvar i/\env.kindOf x=some .cell/\∀ c,env.cells.lookup x=some c->c∈as)
noncomputable def Xq(Z:Zt)(env:Env)(rs:Rs)(as:List Addr)(s:Shared)(U:List Addr)(J:Sto)(Y:Ae)(Q:Unit->Shared->Prop):Prop:=
 ∀ h' tk,Mv Z as as s.heap U J h' U J->(∀ b o,b≠env.locals->(∀ y c,env.cells.lookup y=some c->b≠c)->s.heap.get? b=some o->h'.get? b=some o)->Ag (Z.sub as) env rs h' U J Y->Q () { s with heap:=h',toks:=tk}
theorem Agc(S:Am (Z.sub as) G env rs){c:Addr}(h:env.cells.lookup x=some c):c≠env.locals:=(S.cfr x c h).2
theorem Jz(S:Am (Z.sub as) G env rs)(I:(Z.sub as).I s.heap U J)(d:∀ a∈as,a∉Z.fr)(D:Ag (Z.sub as) env rs s.heap U J Y)(hx:Xp env rs as x i)(R:VRel s.heap (Vt (as++Z.fr) U J) U v a)(k:Xq Z env rs as s U J (put Y i a) Q) :
 wpAny Z.M Z.A (storeName env x v) Q E s:=by
 have hp:(env.scope.kind == .class||(env.scope.kind == .module&&env.locals != env.globals))=false:=by rw [S.kind];rfl
 rcases hx with ⟨hx,hin⟩ | ⟨hx,hk,hin⟩
 . have hk:env.kindOf x=some .local:=by
    rcases S.form x with ⟨j,q,hk⟩ | ⟨j,c,q,_⟩ | ⟨v,q,_⟩ | q
    . exact hk
    all_goals (rw [hx] at q;injection q)
   refine e11 D.ns λm hm=>?_;refine wpAny_storeName_local hk hm (λh' hn hs=>?_) hp;have hout:∀ b o,b≠env.locals->s.heap.get? b=some o->h'.get? b=some o:=hs.extBut;have mv:Mv Z as as s.heap U J h' U J:=Mv.spin I d (λb o n e=>hout b o (λq=>n (q▸hin)) e) λb hb=>by
    by_cases q:b=env.locals
    . subst q;refine e32 hn λo _ _ ho _=>?_;clear hn;exact⟨o,ho⟩
    . exact (I.frs b (aG _ hb)).2.2.imp λo e=>hout b o q e
   refine k h' _ mv (λb o n _ e=>hout b o n e) ⟨⟨_,hn⟩,λe he L hL=>?_,λy j c e1 e2=>?_,λy j b m2 e1 e2 e3=>?_,λy j b c e1 e2 e3=>?_⟩
   . by_cases q:L=env.locals
     . subst q;exact⟨_,hn⟩
     . refine e42 (D.outs e he L hL) λm' o es ep ho r=>?_;exact⟨m',o,es,ep,hout L o q ho,r⟩
   . refine e22 (D.cell y j c e1 e2) λov o ho r=>?_;exact⟨ov,o,hout c o (Agc S e2) ho,r⟩
   . have:=Ey hn e3;subst this;by_cases q:j=i
     . subst q;have hyx:=S.inj y x j (.inl e1) (.inl hx);subst hyx;have hb:a=b:=by simpa [put] using e2
       subst hb;exact⟨v,by simp,R.on mv.on⟩
     . have e2':Y j=some b:=by simpa [put,q] using e2
       refine e12 (D.val y j b m e1 e2' hm) λw h1 h2=>?_;have hyx:y≠x:=λz=>by subst z;rw [hx] at e1;injection e1 with cc1;subst cc1;exact q rfl
       exact⟨w,by simpa [hyx] using h1,h2.on mv.on⟩
   . have hj:j≠i:=λq=>by
      subst q;have:=S.inj y x j (.inr e1) (.inl hx);subst this;rw [hx] at e1;injection e1
     have e2':Y j=some b:=by simpa [put,hj] using e2
     obtain ⟨w,⟨o,ho,hd⟩,h2⟩:=D.cval y j b c e1 e2' e3;exact⟨w,⟨o,hout c o (Agc S e3) ho,hd⟩,h2.on mv.on⟩
 . obtain ⟨c,hc⟩:∃ c,env.cells.lookup x=some c:=by
    rcases S.form x with ⟨j,q,_⟩ | ⟨j,c,q,_,_,hc⟩ | ⟨v,q,_⟩ | q
    . rw [hx] at q;injection q
    . exact⟨c,hc⟩
    all_goals (rw [hx] at q;injection q)
   have hin:=hin c hc;refine e11 (D.cell x i c hx hc) λov hcell=>?_;refine wpAny_storeName_cell S.kind hk hc hcell λh' hn hs=>?_;have hout:∀ b o,b≠c->s.heap.get? b=some o->h'.get? b=some o:=hs.extBut;have hLc:env.locals≠c:=Ne.symm (Agc S hc);have mv:Mv Z as as s.heap U J h' U J:=Mv.spin I d (λb o n e=>hout b o (λq=>n (q▸hin)) e) λb hb=>by
    by_cases q:b=c
    . subst q;refine e12 hn λo ho _=>?_;clear hn;exact⟨o,ho⟩
    . exact (I.frs b (aG _ hb)).2.2.imp λo e=>hout b o q e
   refine e11 D.ns λm hm=>?_;have hm':h'.Ns env.locals m:=by
    refine e32 hm λo es ep ho r=>?_;clear hm;exact⟨o,es,ep,hout _ o hLc ho,r⟩
   refine k h' _ mv (λb o _ n e=>hout b o (n x c hc) e) ⟨⟨m,hm'⟩,λe he L hL=>?_,λy j c' e1 e2=>?_,λy j b m2 e1 e2 e3=>?_,λy j b c' e1 e2 e3=>?_⟩
   . refine e43 (D.outs e he L hL) λm' o es ep ho hd r=>?_;refine⟨m',o,es,ep,hout L o (λq=>?_) ho,hd,r⟩;subst q;refine e12 hcell λo' ho' hd'=>?_;clear hcell;rw [ho] at ho';refine snE ho' λcc1=>?_;clear ho';subst cc1;rw [hd] at hd';injection hd'
   . by_cases q:c'=c
     . subst q;exact⟨_,hn⟩
     . refine e22 (D.cell y j c' e1 e2) λov' o ho r=>?_;exact⟨ov',o,hout c' o q ho,r⟩
   . have hj:j≠i:=λq=>by
      subst q;have:=S.inj y x j (.inl e1) (.inr hx);subst this;rw [hx] at e1;injection e1
     have e2':Y j=some b:=by simpa [put,hj] using e2
     refine e12 (D.val y j b m e1 e2' hm) λw h1 h2=>?_;rw [<- Ey hm' e3];exact⟨w,h1,h2.on mv.on⟩
   . by_cases q:j=i
     . subst q;have:=S.inj y x j (.inr e1) (.inr hx);subst this;rw [hc] at e3;refine snE e3 λcc1=>?_;clear e3;subst cc1;have hb:a=b:=by simpa [put] using e2
       subst hb;exact⟨v,hn,R.on mv.on⟩
     . have e2':Y j=some b:=by simpa [put,q] using e2
       have hcc:c'≠c:=λz=>by
        subst z;have:=S.apart y x c' e3 hc;subst this;rw [hx] at e1;injection e1 with cc1;subst cc1;exact q rfl
       obtain ⟨w,⟨o,ho,hd⟩,h2⟩:=D.cval y j b c' e1 e2' e3;exact⟨w,⟨o,hout c' o hcc ho,hd⟩,h2.on mv.on⟩
theorem Dh{e:PySem.Expr}(h:Ma rs e=some i):∃ x p,e=.Name x p/\(rs x=.var i\/rs x=.cvar i):=by
 induction e using PySem.Expr.casesOn with
 | Name x p=>
  refine⟨x,p,rfl,?_⟩;unfold Ma at h;dsimp only at h;generalize rs x=r at h ⊢
  induction r using IE.casesOn with
  | var j=>exact snE h λq=>.inl (q▸rfl)
  | cvar j=>exact snE h λq=>.inr (q▸rfl)
  | _=>exact nns h
 | _=>exact nns h
noncomputable def Ami(env:Env)(rs:Rs)(as:List Addr)(is:List Nat):Prop:=∀ i∈is,∀ x,(rs x=.var i\/rs x=.cvar i)->Xp env rs as x i
theorem Gi{e:PySem.Expr}{r:List PySem.Expr}{is:List Nat}(h:Ed rs (e::r)=some is):∃ i is',Ma rs e=some i/\Ed rs r=some is'/\is=i::is':=by
 unfold Ed at h
 cases h1:Ma rs e with
 | none=>rw [h1] at h;exact nns h
 | some i=>
  cases h2:Ed rs r with
  | none=>rw [h1,h2] at h;exact nns h
  | some is'=>rw [h1,h2] at h;refine snE h λcc1=>?_;clear h;subst cc1;exact⟨i,is',rfl,rfl,rfl⟩
theorem Xq.trans{Y':Ae}{h':Heap}{tk:Nat}(mv:Mv Z as as s.heap U J h' U J)(hk:∀ b o,b≠env.locals->(∀ y c,env.cells.lookup y=some c->b≠c)->s.heap.get? b=some o->h'.get? b=some o)(k:Xq Z env rs as s U J Y' Q):Xq Z env rs as { s with heap:=h',toks:=tk} U J Y' Q:=
 λh'' tk' mv' hk' D'=>k h'' tk' (mv.trans mv') (λb o n1 n2 e=>hk' b o n1 n2 (hk b o n1 n2 e)) D'
theorem Ade:∀ (es:List PySem.Expr) (is:List Nat) (vs:List Value) (xs:List AV) {Y:Ae} {s:Shared},Am (Z.sub as) G env rs->(Z.sub as).I s.heap U J->(∀ a∈as,a∉Z.fr)->Ag (Z.sub as) env rs s.heap U J Y->Ami env rs as is->Ed rs es=some is->
 Ab s.heap (Vt (as++Z.fr) U J) U vs xs->xs.length=is.length->Xq Z env rs as s U J (Ev Y is xs) Q->wpAny Z.M Z.A (assignInOrder ((assignEach es env).map (·.2)) vs) Q E s:=by
 intro es
 induction es with
 | nil=>
  intro is vs xs Y s S I d D ho ht R hl k;refine snE ht λcc1=>?_;clear ht;subst cc1;refine assignInOrder_nil ?_;have:xs=[]:=List.length_eq_zero_iff.mp hl;subst this;exact k s.heap s.toks (.refl I) (λ_ _ _ _ e=>e) D
 | cons e es ih=>
  intro is vs xs Y s S I d D ho ht R hl k;refine e23 (Gi ht) λi is' h1 h2 zz4=>?_;clear ht;subst zz4;refine e22 (Dh h1) λx p zz2 hx=>?_;clear h1;subst zz2
  induction xs using List.casesOn with
  | nil=>injection hl
  | cons a xs=>
   refine e23 R.inv1 λv vs r R2 zz=>?_;clear R;subst zz;show wpAny _ _ (assignInOrder (assign (.Name x p) env::(assignEach es env).map (·.2)) (v::vs)) Q E s;refine assignInOrder_cons (wpAny_assign_Name (Jz S I d D (ho i (.head _) x hx) r λh' tk mv hk D'=>?_));exact ih is' vs xs S mv.inv d D' (λj hj=>ho j (.tail _ hj)) h2 (R2.on mv.on) (Nat.succ.inj hl) (k.trans mv hk)
theorem Agd{es:List PySem.Expr}:∀ {is:List Nat},Ed rs es=some is->(assignEach es env).length=is.length/\(assignEach es env).findIdx? (·.1)=none:=by
 induction es with
 | nil=>exact λh=>snE h λcc1=>cc1▸⟨rfl,rfl⟩
 | cons e es ih=>
  intro is h;refine e23 (Gi h) λi is' h1 h2 zz4=>?_;clear h;subst zz4;refine e22 (Dh h1) λx p zz2 hx=>?_;clear h1;subst zz2;refine e02 (ih h2) λa b=>⟨aJ Nat.succ a,?_⟩;show ((false,assign (.Name x p) env)::assignEach es env).findIdx? (·.1)=none;rw [List.findIdx?_cons,b];rfl
theorem Lq{es:List PySem.Expr}{is:List Nat}(h:Ed rs es=some is):is.length=es.length:=by
 induction es generalizing is with
 | nil=>refine snE h λcc1=>?_;clear h;subst cc1;rfl
 | cons e es ih=>refine e23 (Gi h) λi is' _ h2 zz4=>?_;subst zz4;exact aJ Nat.succ (ih h2)
theorem Va{es:List PySem.Expr}{n:Nat}{p:Pos}{ts:List Nat}(h:El rs (.Tuple es n p)=some ts):2<=es.length/\Ed rs es=some ts:=by
 have h:(if 2<=es.length then Ed rs es else none)=some ts:=h;by_cases q:2<=es.length
 . rw [if_pos q] at h;exact⟨q,h⟩
 . rw [if_neg q] at h;exact nns h
theorem Ld{γ:Type}{n:Nat}{f:List AV->Ik.Internal.M γ}{r:Except Str γ×Sto}(e:((Ms n a).bnd f) J=some r):∃ xs,a=.tup xs/\xs.length=n/\f xs J=some r:=by
 induction a using AV.casesOn with
 | tup xs=>
  by_cases h:xs.length=n
  . refine⟨xs,rfl,h,?_⟩;rw [<- e];show _=((if xs.length=n then Ik.Internal.M.ret xs else Ik.Internal.M.fail).bnd f) J;rw [if_pos h];rfl
  . have e:((if xs.length=n then Ik.Internal.M.ret xs else Ik.Internal.M.fail).bnd f) J=some r:=e;rw [if_neg h] at e;exact nns e
 | _=>exact nns e
theorem Nu{α:Type}{l:List α}{P:Prop}(h:2<=l.length)(k:∀ i j r,l=i::j::r->P):P:=by
 induction l using List.casesOn with
 | nil=>exact absurd h (Nat.not_succ_le_zero _)
 | cons i r=>
  induction r using List.casesOn with
  | nil=>exact absurd (Nat.le_of_succ_le_succ h) (Nat.not_succ_le_zero _)
  | cons j r=>exact k i j r rfl
theorem Sd{t:PySem.Expr}{ts:List Nat}{J':Sto}{q:Except Str Ae}(hh:Z.A.handled=none)(S:Am (Z.sub as) G env rs)(I:(Z.sub as).I s.heap U J)(d:∀ a∈as,a∉Z.fr)(D:Ag (Z.sub as) env rs s.heap U J Y)(ho:Ami env rs as ts)(ht:El rs t=some ts)
 (R:VRel s.heap (Vt (as++Z.fr) U J) U v a) (e:Jh Y ts a J=some (q,J')):∃ Y',q=.ok Y'/\J'=J/\(Xq Z env rs as s U J Y' Q->wpAny Z.M Z.A (assign t env v) Q E s):=by
 have name:∀ {t:PySem.Expr},(Ma rs t).map ([·])=some ts->∃ Y',q=.ok Y'/\J'=J/\(Xq Z env rs as s U J Y' Q->wpAny Z.M Z.A (assign t env v) Q E s):=λ{t} h=>by
  refine e12 (bF.mp h) λi h1 zz2=>?_;subst zz2;refine e22 (Dh h1) λx p zz2 hx=>?_;subst zz2;refine spE e λcc1 cc2=>?_;clear e;subst cc1;subst cc2;exact⟨_,rfl,rfl,λk=>wpAny_assign_Name (Jz S I d D (ho i (.head _) x hx) R k)⟩
 induction t using PySem.Expr.casesOn with
 | Tuple es n p=>
  refine e02 (Va ht) λhl ht=>?_;refine e02 (Agd (env:=env) ht) λhlen hstar=>?_;have h2:2<=ts.length:=by rw [Lq ht];exact hl
  refine Nu h2 λi j r zz2=>?_;subst zz2;obtain ⟨xs,rfl,hxl,e⟩:=Ld e;refine spE e λcc1 cc2=>?_;clear e;subst cc1;subst cc2;refine⟨_,rfl,rfl,λk=>?_⟩;refine e25 R.inv λti vs z hti n rr zz=>?_;clear R;subst zz;have hvl:=rr.length;refine assign_Tuple_tuple hh hti.isTup (by rw [hlen,<- hxl,<- hvl];simp) hstar λh' he=>?_;have keep:∀ b o,s.heap.get? b=some o->h'.get? b=some o:=λb o e=>he b o (aW (cR e)) e;have mv:Mv Z as as s.heap U J h' U J:=Mv.of_go (Ivt.keep I keep);exact Ade es (i::j::r) _ xs S mv.inv d (D.go S (Ivt.keep I keep)) ho ht (rr.on mv.on) hxl λh'' tk mv' hk D'=>k h'' tk (mv.trans mv') (λb o n1 n2 e=>hk b o n1 n2 (keep b o e)) D'
 | Name x p=>exact name ht
 | _=>exact nns ht
end
noncomputable def Du(env:Env):List (Str×NameKind)->List (Str×Addr)->List (Str×Addr)
 | [],acc=>acc
 | (n,k)::r,acc=>if k == .free then Du env r ((n,(env.cells.lookup n).getD 0)::acc) else Du env r acc
theorem Lr{env:Env}{scope:Scope}(h:∀ p∈scope.names,p.2=.free->∃ c,env.cells.lookup p.1=some c):closureFor scope env=pure (Du env scope.names []):=by
 have key:∀ (names:List (Str×NameKind)) (acc:List (Str×Addr)),(∀ p∈names,p.2=.free->∃ c,env.cells.lookup p.1=some c)->
  (forIn names acc (λ(p:Str×NameKind) (cs:List (Str×Addr))=>(if (p.2 == NameKind.free)=true then (do let a <- cellOf env p.1;pure (ForInStep.yield ((p.1,a)::cs))) else pure (ForInStep.yield cs):Sem (ForInStep (List (Str×Addr))))))=(pure (Du env names acc):Sem _):=by
  intro names
  induction names with
  | nil=>intro acc _;rfl
  | cons p r ih=>
   intro acc h;obtain ⟨n,k⟩:=p;rw [List.forIn_cons];unfold Du
   cases hk:(k == NameKind.free) with
   | true=>
    refine e11 (h (n,k) (.head _) (by simpa using hk)) λc hc=>?_;simp only [hk,if_true];have:cellOf env n=pure c:=by unfold cellOf;rw [show env.cells.lookup n=some c from hc]
    rw [this,show env.cells.lookup n=some c from hc];exact ih _ λp hp=>h p (.tail _ hp)
   | false=>
    simp only [hk,Bool.false_eq_true,if_false];exact ih _ λp hp=>h p (.tail _ hp)
 unfold closureFor;have:=key scope.names [] h;simp only [bind_pure];exact this
theorem Gj{env:Env}{n:Str}{k:NameKind}{r:List (Str×NameKind)}{acc:List (Str×Addr)}:Du env ((n,k)::r) acc=Du env r (if (k == NameKind.free)=true then (n,(env.cells.lookup n).getD 0)::acc else acc):=by
 by_cases h:(k == NameKind.free)=true
 . rw [if_pos h];exact if_pos h
 . rw [if_neg h];exact if_neg h
theorem Gk{env:Env}{names:List (Str×NameKind)}{x:Str}{c:Addr}:∀ {acc:List (Str×Addr)},(∀ p∈names,p.2=.free->∃ c,env.cells.lookup p.1=some c)->(Du env names acc).lookup x=some c->acc.lookup x=some c\/env.cells.lookup x=some c:=by
 induction names with
 | nil=>exact λ_ e=>.inl e
 | cons p r ih=>
  obtain ⟨n,k⟩:=p;intro acc h e;rw [Gj] at e;refine (ih (λp hp=>h p (.tail _ hp)) e).elim (λe=>?_) .inr;by_cases hk:(k == NameKind.free)=true
  . refine e11 (h (n,k) (.head _) (eq_of_beq hk)) λc' hc=>?_;rw [if_pos hk,cD] at e
    cases hx:x == n with
    | true=>
     have zz:=eq_of_beq hx;subst zz;rw [hx,show env.cells.lookup x=some c' from hc] at e;exact .inr (hc.trans e)
    | false=>rw [hx] at e;exact .inl e
  . rw [if_neg hk] at e;exact .inl e
theorem Adf{env:Env}{names:List (Str×NameKind)}{x:Str}{c:Addr}:∀ {acc:List (Str×Addr)},x∉names.map (·.1)->acc.lookup x=some c->(Du env names acc).lookup x=some c:=by
 induction names with
 | nil=>exact λ_ e=>e
 | cons p r ih=>
  obtain ⟨n,k⟩:=p;intro acc h e;rw [Gj];refine ih (λq=>h (.tail _ q)) ?_;by_cases hk:(k == NameKind.free)=true
  . rw [if_pos hk,cD,show (x == n)=false from cL.mpr λq=>h (q▸.head _)];exact e
  . rw [if_neg hk];exact e
theorem Xr{env:Env}{names:List (Str×NameKind)}{x:Str}{c:Addr}:∀ {acc:List (Str×Addr)},(names.map (·.1)).Nodup->(x,NameKind.free)∈names->env.cells.lookup x=some c->(Du env names acc).lookup x=some c:=by
 induction names with
 | nil=>exact λ_ hm=>absurd hm bH
 | cons p r ih=>
  intro acc nd hm e;have nd':=bZ.mp nd;rcases aM.mp hm with q | q
  . subst q;rw [Gj,if_pos (by rfl)];refine Adf nd'.1 ?_;rw [cD,show (x == x)=true from beq_self_eq_true x,e];rfl
  . obtain ⟨n,k⟩:=p;rw [Gj];exact ih nd'.2 q e
noncomputable def Gl(ifs:List PySem.Expr)(env:Env):Sem Bool:=forIn ifs true λc r=>if r=true then do let ok <- isTrue c env (eval c env);pure (ForInStep.yield ok) else pure (ForInStep.yield r)
theorem Ls{env:Env}:∀ ifs:List PySem.Expr,(forIn ifs false λc r=>if r=true then do let ok <- isTrue c env (eval c env);pure (ForInStep.yield ok) else pure (ForInStep.yield r):Sem Bool)=pure false
 | []=>rfl
 | c::r=>by rw [List.forIn_cons];exact Ls r
section
variable{prog:Program}{w:World}{A:Around}{R:Result->Shared->Prop}{s:Shared}{C:Cx}{P:Bi}{n lv d:Nat}{Z:Zt}{env:Env}{rs:Rs}{Y:Ae}{U U' as bs ps:List Addr}{J J':Sto}
theorem Pe{elt target iter:PySem.Expr}{ifs:List PySem.Expr}{scope:Scope}{pos:Pos}{it acc:Value}{env:Env}
 (turn:wpAny (model prog w) A (pyNext it) (λr s1=>match r with
  | none=>R (.ok .next) s1
  | some v=>wpAny (model prog w) A (letOwnedTupleGo target it v) (λ_ s1'=>wpAny (model prog w) A (assign target env v) (λ_ s2=>
   wpAny (model prog w) A (Gl ifs env) (λok s3=>
    if ok=true then wpAny (model prog w) A (eval elt env) (λx s4=>
     wpAny (model prog w) A (call (.builtin "list.append") [acc,x]) (λ_ s5=>codeAny (model prog w) A (.compLoop (.ListComp elt [⟨target,iter,ifs,0⟩] scope pos) 0 it acc env) R s5) (notedBy (model prog w) A env λe s'=>R (.error e) s') s4) (notedBy (model prog w) A env λe s'=>R (.error e) s') s3
    else codeAny (model prog w) A (.compLoop (.ListComp elt [⟨target,iter,ifs,0⟩] scope pos) 0 it acc env) R s3) (notedBy (model prog w) A env λe s'=>R (.error e) s') s2) (notedBy (model prog w) A env λe s'=>R (.error e) s') s1') (notedBy (model prog w) A env λe s'=>R (.error e) s') s1) (notedBy (model prog w) A env λe s'=>R (.error e) s') s) :
 codeAny (model prog w) A (.compLoop (.ListComp elt [⟨target,iter,ifs,0⟩] scope pos) 0 it acc env) R s:=by
 refine codeAny_of_tree ?_;show wpAny _ A ((compTurn (.ListComp elt [⟨target,iter,ifs,0⟩] scope pos) 0 it acc env).onRaise (λx=>do noteFrame x env;theTreesLotGoes x)) _ _ s;refine wpAny_noted ?_;rw [compTurn_list];refine aA (dO (aA (cC turn (λr s1 h1=>?_) λ_ _ h'=>h')))
 induction r using Option.casesOn with
 | none=>exact aH h1
 | some v=>
  refine aA (cC h1 (λ_ s1' h1'=>?_) λ_ _ h'=>h');refine aA (cC h1' (λ_ s2 h2=>aA (cC h2 (λok s3 h3=>?_) λ_ _ h'=>h')) λ_ _ h'=>h')
  induction ok using Bool.casesOn with
  | false=>exact aH ⟨rfl,h3⟩
  | true=>
   exact aA (aA (cC h3 (λx s4 h4=>aA (cC h4 (λ_ s5 h5=>aH (aH ⟨rfl,h5⟩)) λ_ _ h'=>h')) λ_ _ h'=>h'))
theorem Age(X:Ih C P n lv Z env rs Y)(YY:∀ (d:Nat) (es:List PySem.Expr) {s:Shared} {U:List Addr} {J:Sto},Z.I s.heap U J->Ag Z env rs s.heap U J Y->At Z EqR (Tv P n lv Y (cEs C d rs es)) (Gl es env) s U J)
 (S:Am Z C.G env rs) (I:Z.I s.heap U J) (D:Ag Z env rs s.heap U J Y):∀ (d:Nat) (es:List PySem.Expr),At Z EqR (Tv P (n+1) lv Y (cEs C d rs es)) (Gl es env) s U J
 | 0,es=>.none (by show ((evA P n lv Y .stuck).bnd _) J=none;exact Bg Au)
 | d+1,[]=>At.of λQ E k=>aH (k.now' I (R:=EqR) rfl)
 | d+1,e::es=>by
  rcases Cu (C:=C) (d:=d) (rs:=rs) e es with h | h
  . rw [h];exact .none (by show ((evA P n lv Y .stuck).bnd _) J=none;exact Bg Au)
  . rw [h];intro q J' e1 Q E an;have e2:(((evA P n lv Y (cE C d rs e)).bnd Ac).bnd λt=>if t then Tv P n lv Y (cEs C d rs es) else .ret false) J=some (q,J'):=by rw [Bo];exact e1
    unfold Gl;rw [List.forIn_cons];refine aA ?_;show wpAny _ _ (isTrue e env (eval e env) >>= λok=>pure (ForInStep.yield ok)) _ E s;refine aA ((X.tr d e I D).use e2 an λt tv h1 tk1 μ1 σ1 G1 R1 e3=>aH ?_);obtain rfl:=R1.symm
    induction t using Bool.casesOn with
    | true=>exact YY d es G1.inv (D.go S G1) _ _ e3 _ _ (an.go G1)
    | false=>
     refine spE e3 λcc1 cc2=>?_;clear e3;subst cc1;obtain rfl:=cc2.symm;show wpAny _ _ (forIn es false _) Q E _;rw [Ls];exact aH (OkR.now' (Z:=Z) (R:=EqR) (s:={ s with heap:=h1,toks:=tk1}) G1.inv (an.go (tk:=tk1) G1) rfl)
theorem Agf(I:(Z.sub as).I s.heap U J)(d:∀ a∈as,a∉Z.fr){D:Addr}{ws:List Value}{vF:List AV}{m:Bool}{q:Except Str AV}(hD:D∈as)(hb:∀ b∈bs,b∈as/\b≠D)(l:LX s.heap D ws)(r:Ab s.heap (Vt (as++Z.fr) U J) U ws vF)(z:vF.length<lim)
 (e:(if m then M.new (.lst vF) else M.ret (.lst vF)) J=some (q,J')):∃ av U',q=.ok av/\Mv Z as bs s.heap U J s.heap U' J'/\VRel s.heap (Vt (bs++Z.fr) U' J') U' (.ref D) av:=by
 induction m using Bool.casesOn with
 | true=>
  refine spE e λcc1 cc2=>?_;clear e;subst cc1;subst cc2;refine⟨_,U++[D],rfl,Mv.place I d hD hb λx=>⟨z,ws,l,r.on x⟩,.ref ?_⟩;rw [<- I.len];simp
 | false=>
  refine spE e λcc1 cc2=>?_;clear e;subst cc1;subst cc2;have mv:=Mv.outTo (h':=s.heap) I d (λb q=>(hb b q).1) λ_ _ _ e=>e;refine⟨_,U,rfl,mv,.lst z l (λq=>?_) (r.on mv.on)⟩;rcases q with ⟨i,o,e1,_⟩ | q
  . exact (I.frs D (aG _ hD)).1 (aO e1)
  . rcases aZ.mp q with q | q
    . exact (hb D q).2 rfl
    . exact d D hD q
theorem Ag.spin{G:Str->Option Value}{h h':Heap}(S:Am (Z.sub as) G env rs)(I:(Z.sub as).I h U J)(D:Ag (Z.sub as) env rs h U J Y)(mv:Mv Z as bs h U J h' U' J')(kp:∀ b o,b∉ps->b∉U->h.get? b=some o->h'.get? b=some o)(h1:env.locals∉ps)
 (h2:∀ y c,env.cells.lookup y=some c->c∉ps) (h3:∀ e∈Z.envs,∀ L,e.frame=some L->L∉ps):Ag (Z.sub bs) env rs h' U' J' Y:=by
 have nm:∀ {b},b∈as++Z.fr->b∉U:=λq=>(I.frs _ q).1;refine e42 D.ns λm o es ep ho r=>?_;have hm':h'.Ns env.locals m:=⟨o,es,ep,kp _ o h1 (nm S.infr) ho,r⟩;refine⟨⟨m,hm'⟩,λe he L hL=>?_,λy i c e1 e2=>?_,λy i a m2 e1 e2 e3=>?_,λy i a c e1 e2 e3=>?_⟩
 . obtain ⟨_,L',q1,q2⟩:=S.outs e he;rw [q1] at hL;refine snE hL λcc1=>?_;clear hL;obtain rfl:=cc1.symm;refine e42 (D.outs e he _ q1) λm' o' es' ep' ho' r'=>?_;exact⟨m',o',es',ep',kp _ o' (h3 e he _ q1) (nm q2) ho',r'⟩
 . refine e22 (D.cell y i c e1 e2) λov o' ho' r'=>?_;exact⟨ov,o',kp _ o' (h2 y c e2) (nm (S.cfr y c e2).1) ho',r'⟩
 . rw [<- Ey hm' e3];refine e12 (D.val y i a m e1 e2 ⟨o,es,ep,ho,r⟩) λv q1 q2=>?_;exact⟨v,q1,q2.on mv.on⟩
 . obtain ⟨v,⟨o',ho',r'⟩,q2⟩:=D.cval y i a c e1 e2 e3;exact⟨v,⟨o',kp _ o' (h2 y c e3) (nm (S.cfr y c e3).1) ho',r'⟩,q2.on mv.on⟩
noncomputable def Ix(C:Cx)(P:Bi)(n:Nat)(lv:Nat)(Z:Zt):Prop:=
 ∀ {as ps:List Addr} {cenv:Env} {rs:Rs} {Y:Ae} {elt target iter:PySem.Expr} {ifs:List PySem.Expr} {sc:Scope} {pos:Pos} {ts:List Nat} {d:Nat} {D:Addr} {it:Value} {src:Src} {acc vF:List AV} {vs:List Value} {s:Shared} {U:List Addr} {J JF:Sto} {R:Result->Shared->Prop},
  Am (Z.sub as) C.G cenv rs->(∀ a∈as,a∉Z.fr)->(∀ a∈ps,a∈as)->D∈as->D∉ps->cenv.locals∈as->cenv.locals∉ps->D≠cenv.locals->(∀ y c,cenv.cells.lookup y=some c->c∉as)->(∀ e∈Z.envs,∀ L,e.frame=some L->L∉as)->Ami cenv rs as ts->(∀ i∈ts,Y i=Option.none)->El rs target=some ts->(isZip src=true->∃ es k p,target=.Tuple es k p)->
  (Z.sub as).I s.heap U J->Ag (Z.sub as) cenv rs s.heap U J Y->SrcRel Z as s.heap U J ps it src->LX s.heap D vs->Ab s.heap (Vt (as++Z.fr) U J) U vs acc->acc.length<lim->
  Zq P n lv Y (cE C d rs elt) ts (cEs C d rs ifs) src acc J=some (.ok vF,JF)->
  (∀ h' tk U' ws,Mv Z as [cenv.locals,D] s.heap U J h' U' JF->LX h' D ws->Ab h' (Vt ([cenv.locals,D]++Z.fr) U' JF) U' ws vF->vF.length<lim->(∃ m,h'.Ns cenv.locals m)->R (.ok .next) { s with heap:=h',toks:=tk})->
  codeAny Z.M Z.A (.compLoop (.ListComp elt [⟨target,iter,ifs,0⟩] sc pos) 0 it (.ref D) cenv) R s
theorem Iy{src:Src}{x:AV}{src':Src}{J J':Sto}(e:srcNext src J=some (.ok (some (x,src')),J')):isZip src'=isZip src:=by
 induction src using Src.casesOn with
 | froz xs=>cases xs <;> (first | (refine spE e λcc1 cc2=>?_;clear e;refine okE cc1 λcc3=>?_;clear cc1;exact nns cc3) | (refine spE e λcc1 cc2=>?_;clear e;refine okE cc1 λcc3=>?_;clear cc1;refine spE cc3 λcc4 cc5=>?_;clear cc3;obtain rfl:=cc4.symm;subst cc5;subst cc2));rfl
 | chars xs=>cases xs <;> (first | (refine spE e λcc1 cc2=>?_;clear e;refine okE cc1 λcc3=>?_;clear cc1;exact nns cc3) | (refine spE e λcc1 cc2=>?_;clear e;refine okE cc1 λcc3=>?_;clear cc1;refine spE cc3 λcc4 cc5=>?_;clear cc3;subst cc4;subst cc5;subst cc2));rfl
 | rng a b=>
  by_cases h:a<b
  . rw [show srcNext (.rng a b)=M.ret (some (.int a,.rng (a+1) b)) from aJ M.ret (if_pos h)] at e;refine spE e λcc1 cc2=>?_;clear e;refine okE cc1 λcc3=>?_;clear cc1;refine spE cc3 λcc4 cc5=>?_;clear cc3;subst cc4;subst cc5;subst cc2;rfl
  . rw [show srcNext (.rng a b)=M.ret none from aJ M.ret (if_neg h)] at e;refine spE e λcc1 cc2=>?_;clear e;refine okE cc1 λcc3=>?_;clear cc1;exact nns cc3
 | rev a=>
  by_cases h:0<a
  . rw [show srcNext (.rev a)=M.ret (some (.int (a - 1),.rev (a - 1))) from aJ M.ret (if_pos h)] at e;refine spE e λcc1 cc2=>?_;clear e;refine okE cc1 λcc3=>?_;clear cc1;refine spE cc3 λcc4 cc5=>?_;clear cc3;subst cc4;subst cc5;subst cc2;rfl
  . rw [show srcNext (.rev a)=M.ret none from aJ M.ret (if_neg h)] at e;refine spE e λcc1 cc2=>?_;clear e;refine okE cc1 λcc3=>?_;clear cc1;exact nns cc3
 | live k i=>
  refine e12 (Fm e) λxs _ e=>?_
  cases hx:xs[i]? with
  | none=>rw [hx] at e;refine spE e λcc1 cc2=>?_;clear e;refine okE cc1 λcc3=>?_;clear cc1;exact nns cc3
  | some v=>rw [hx] at e;refine spE e λcc1 cc2=>?_;clear e;refine okE cc1 λcc3=>?_;clear cc1;refine spE cc3 λcc4 cc5=>?_;clear cc3;obtain rfl:=cc4.symm;subst cc5;subst cc2;rfl
 | iter k=>
  obtain ⟨xs,i,_,⟨v,_,e⟩ | ⟨_,e⟩⟩:=Jy e
  . refine spE e λcc1 cc2=>?_;clear e;refine okE cc1 λcc3=>?_;clear cc1;refine spE cc3 λcc4 cc5=>?_;clear cc3;obtain rfl:=cc4.symm;subst cc5;subst cc2;rfl
  . refine spE e λcc1 cc2=>?_;clear e;refine okE cc1 λcc3=>?_;clear cc1;exact nns cc3
 | zip a b k=>
  by_cases h:a<b
  . rw [show srcNext (.zip a b k)=(Ek k).bnd _ from if_pos h] at e;obtain ⟨xs,i,_,⟨v,_,e⟩ | ⟨_,e⟩⟩:=Jy e
    . refine spE e λcc1 cc2=>?_;clear e;refine okE cc1 λcc3=>?_;clear cc1;refine spE cc3 λcc4 cc5=>?_;clear cc3;subst cc4;subst cc5;subst cc2;rfl
    . exact nns e
  . rw [show srcNext (.zip a b k)=M.ret none from if_neg h] at e;refine spE e λcc1 cc2=>?_;clear e;refine okE cc1 λcc3=>?_;clear cc1;exact nns cc3
theorem Mj{α β:Type}{m:M α}{f:α->M β}{x:β}{J J':Sto}(e:(m.bnd f) J=some (.ok x,J')):∃ a J1,m J=some (.ok a,J1)/\f a J1=some (.ok x,J'):=by
 unfold M.bnd at e
 cases h:m J with
 | none=>rw [h] at e;exact nns e
 | some r=>
  obtain ⟨r,τ⟩:=r;rw [h] at e
  induction r using Except.casesOn with
  | error _=>refine spE e λcc1 cc2=>?_;clear e;exact neo cc1
  | ok a=>exact⟨a,τ,rfl,e⟩
theorem Ag.less{h:Heap}{ρ1:Ae}(D:Ag Z env rs h U J ρ1)(k:∀ i a,Y i=some a->ρ1 i=some a):Ag Z env rs h U J Y:=
 ⟨D.ns,D.outs,D.cell,λx i a m e1 e2 e3=>D.val x i a m e1 (k i a e2) e3,λx i a c e1 e2 e3=>D.cval x i a c e1 (k i a e2) e3⟩
theorem Hy:∀ {ts:List Nat} {xs:List AV} {Y Y':Ae},(∀ i∈ts,Y' i=Option.none)->(∀ i a,Y' i=some a->Y i=some a)->∀ i a,Y' i=some a->Ev Y ts xs i=some a
 | [],_,_,_,_,k,i,a,e=>k i a e
 | t::ts,[],_,_,_,k,i,a,e=>k i a e
 | t::ts,x::xs,Y,Y',hn,k,i,a,e=>Hy (ts:=ts) (xs:=xs) (Y:=put Y t x) (λj hj=>hn j (.tail _ hj)) (λj b eb=>by
  have:j≠t:=λq=>by rw [q,hn t (.head _)] at eb;exact nns eb
  show (if j=t then some x else Y j)=some b;rw [if_neg this];exact k j b eb) i a e
theorem Nv{ts:List Nat}{x:AV}{ρ1:Ae}{σ1 σ2:Sto}(e:Jh Y ts x σ1=some (.ok ρ1,σ2))(hn:∀ i∈ts,Y i=Option.none):∀ i a,Y i=some a->ρ1 i=some a:=by
 match ts,e,hn with
 | [i],e,hn=>refine spE e λcc1 cc2=>?_;clear e;refine okE cc1 λcc3=>?_;clear cc1;subst cc3;subst cc2;exact Hy (ts:=[_]) (xs:=[x]) hn λi a e=>e
 | [],e,hn=>
  refine e13 (Ld e) λxs _ _ e=>?_;refine spE e λcc1 cc2=>?_;clear e;refine okE cc1 λcc3=>?_;clear cc1;subst cc3;subst cc2;exact Hy hn λi a e=>e
 | _::_::_,e,hn=>
  refine e13 (Ld e) λxs _ _ e=>?_;refine spE e λcc1 cc2=>?_;clear e;refine okE cc1 λcc3=>?_;clear cc1;subst cc3;subst cc2;exact Hy hn λi a e=>e
theorem Nw(L:Z.Lv lv)(X:∀ {as:List Addr} {env:Env} {rs:Rs} {Y:Ae},Am (Z.sub as) C.G env rs->Ih C P n lv (Z.sub as) env rs Y)
 (YY:∀ {as:List Addr} {env:Env} {rs:Rs} {Y:Ae},Am (Z.sub as) C.G env rs->∀ (d:Nat) (es:List PySem.Expr) {s:Shared} {U:List Addr} {J:Sto},(Z.sub as).I s.heap U J->Ag (Z.sub as) env rs s.heap U J Y->At (Z.sub as) EqR (Tv P n lv Y (cEs C d rs es)) (Gl es env) s U J)
 (W:Ix C P n lv Z):Ix C P (n+1) lv Z:=by
 intro as ps cenv rs Y elt target iter ifs sc pos ts d D it src acc vF vs s U J JF R S dj hs hD hDp hC hCp hDC hcl hfr ho hn ht hz I Dr r lD rv z e hR;refine Pe ?_;refine e22 (Mj (show ((srcNext src).bnd _) J=some (.ok vF,JF) from e)) λrr σ1 e1 e2=>?_;refine e12 (Aak L.hand I dj hs r hz e1) λrr' hq go=>?_;refine okE hq λcc1=>?_;clear hq;subst cc1;refine go _ _ ?_
 induction rr using Option.casesOn with
 | none=>
  refine spE e2 λcc1 cc2=>?_;clear e2;refine okE cc1 λcc3=>?_;clear cc1;subst cc3;obtain rfl:=cc2.symm;intro h' tk mv kp;have hDU:D∉U:=(I.frs D (aG _ hD)).1;have m1:=mv [cenv.locals,D] λb hb=>by
   rcases Wi hb with rfl | rfl
   . exact⟨hC,hCp⟩
   . exact⟨hD,hDp⟩
  refine e11 lD λk lD=>?_;refine hR h' tk U vs m1 ⟨k,kp D _ hDp hDU lD⟩ (rv.on m1.on) z ?_;refine e42 Dr.ns λmm o es ep ho rr=>?_;exact⟨mm,o,es,ep,kp _ o hCp (I.frs _ (aG _ hC)).1 ho,rr⟩
 | some xr=>
  obtain ⟨x,src'⟩:=xr;intro v h1 tk1 mv1 kp1 rx lg;refine lg _ _ λh2 tk2 mv2 kp2 r2=>?_;have m2:=mv1.trans mv2;have hDU:∀ {h:Heap} {U:List Addr} {J:Sto},(Z.sub as).I h U J->D∉U:=λI=>(I.frs D (aG _ hD)).1;refine e11 lD λkD lD=>?_;have l2:LX h2 D vs:=⟨kD,kp2 D _ hDp (kp1 D _ hDp (hDU I) lD)⟩;have D2:Ag (Z.sub as) cenv rs h2 U σ1 Y:=Dr.spin S I m2 (ps:=ps) (λb o n1 n2 e=>kp2 b o n1 (kp1 b o n1 n2 e)) hCp (λy c q z=>hcl y c q (hs c z)) λe he L q z=>hfr e he L q (hs L z);refine e22 (Mj e2) λρ1 σ2 e3 e4=>?_;obtain ⟨Y2,hq,hσ,go2⟩:=Sd (s:={ s with heap:=h2,toks:=tk2}) (E:=notedBy Z.M Z.A cenv λe s'=>R (.error e) s') (Q:=λ_ s2=>wpAny Z.M Z.A (Gl ifs cenv) (λok s3=>
   if ok=true then wpAny Z.M Z.A (eval elt cenv) (λx s4=>
    wpAny Z.M Z.A (call (.builtin "list.append") [.ref D,x]) (λ_ s5=>codeAny Z.M Z.A (.compLoop (.ListComp elt [⟨target,iter,ifs,0⟩] sc pos) 0 it (.ref D) cenv) R s5) (notedBy Z.M Z.A cenv λe s'=>R (.error e) s') s4) (notedBy Z.M Z.A cenv λe s'=>R (.error e) s') s3
   else codeAny Z.M Z.A (.compLoop (.ListComp elt [⟨target,iter,ifs,0⟩] sc pos) 0 it (.ref D) cenv) R s3) (notedBy Z.M Z.A cenv λe s'=>R (.error e) s') s2) L.hand S m2.inv dj D2 ho ht (rx.on mv2.on) e3
  refine okE hq λcc1=>?_;clear hq;subst cc1;subst hσ;refine go2 λh3 tk3 mv3 hk3 D3=>?_;have S3:Ih C P n lv (Z.sub as) cenv rs ρ1:=X S;have DnL:D≠cenv.locals:=hDC;have DnC:∀ y c,cenv.cells.lookup y=some c->D≠c:=λy c q z=>hcl y c q (z▸hD);have pnL:∀ a∈ps,a≠cenv.locals:=λa ha q=>hCp (q▸ha);have pnC:∀ a∈ps,∀ y c,cenv.cells.lookup y=some c->a≠c:=λa ha y c q z=>hcl y c q (z▸hs a ha);refine e11 l2 λk2 l2=>?_;have l3:LX h3 D vs:=⟨k2,hk3 D _ DnL DnC l2⟩;have r3:=r2.on mv3.on λa ha o e _ _=>hk3 a o (pnL a ha) (pnC a ha) e;have m3:=m2.trans mv3;have rv3:=rv.on m3.on;refine e22 (Mj e4) λt J4 e5 e6=>?_;refine YY S d ifs (s:={ s with heap:=h3,toks:=tk3}) mv3.inv D3 _ _ e5 _ _ ?_;intro b h4 tk4 U4 G4 hb;have hb:b=t:=hb;subst hb;have m4:=m3.trans (Mv.of_go G4);have D4:Ag (Z.sub as) cenv rs h4 U4 J4 ρ1:=D3.go S G4;refine e11 l3 λk3 l3=>?_;have soft:∀ {h h':Heap} {U U':List Addr} {J J':Sto},(Z.sub as).Go h U J h' U' J'->∀ k vs,h.get? D=some ({ cls:=.type "list",data:=.seq vs k}:Obj)->h'.get? D=some ({ cls:=.type "list",data:=.seq vs k}:Obj):=λG k vs e=>
   (G.fk D (aG _ hD)).oth _ e (λes ep q=>by injection q) λv q=>by injection q
  have l4:=soft G4 _ _ l3;have r4:=r3.go hs G4
  induction b using Bool.casesOn with
  | false=>
   simp only [Bool.false_eq_true,if_false];refine W (s:={ s with heap:=h4,toks:=tk4}) S dj hs hD hDp hC hCp hDC hcl hfr ho hn ht (λq=>hz (by rw [Iy e1] at q;exact q)) G4.inv (D4.less (Nv e3 hn)) r4 ⟨_,l4⟩ (rv3.on G4.on) z e6 λh' tk U' ws mv lw rw' zw hm=>hR h' tk U' ws (m4.trans mv) lw rw' zw hm
  | true=>
   simp only [if_true];refine e22 (Mj e6) λx' J5 e7 e8=>?_;refine S3.ev d elt (s:={ s with heap:=h4,toks:=tk4}) G4.inv D4 _ _ e7 _ _ ?_;intro y h5 tk5 U5 G5 ry;have l5:=soft G5 _ _ l4;refine e02 (Ce e8) λhz5 e9=>?_;have hz5:=aB hz5;have D5:Ag (Z.sub as) cenv rs h5 U5 J5 ρ1:=D4.go S G5;have r5:=r4.go hs G5;have rv5:=(rv3.on G4.on).on G5.on;have hl5:=rv5.length;refine wpAny_list_append_plain ⟨_,l5⟩ (λh6 l6 sb6=>?_) (by have:=Hh (n:=acc.length) (by omega);simp;omega);have out6:∀ b o,b≠D->h5.get? b=some o->h6.get? b=some o:=sb6.extBut;refine e11 l6 λk6 l6=>?_;have m6:Mv Z as as h5 U5 J5 h6 U5 J5:=Mv.spin G5.inv dj (λb o n e=>out6 b o (λq=>n (q▸hD)) e) λb hb=>by
    by_cases q:b=D
    . subst q;exact⟨_,l6⟩
    . exact (G5.inv.frs b (aG _ hb)).2.2.imp λo e=>out6 b o q e
   have D6:Ag (Z.sub as) cenv rs h6 U5 J5 ρ1:=D5.spin (ps:=[D]) S G5.inv m6 (λb o n _ e=>out6 b o (by simpa using n) e) (by simpa using Ne.symm hDC) (λy c q=>by simpa using λz:c=D=>DnC y c q z.symm) λe he L q=>by simpa using λz:L=D=>hfr e he L q (z▸hD)
   have r6:=r5.on m6.on λa ha o e _ _=>out6 a o (λq=>hDp (q▸ha)) e;have rv6:Ab h6 (Vt (as++Z.fr) U5 J5) U5 (vs++[y]) (acc++[x']):=(rv5.append (.cons ry .nil)).on m6.on;refine W (s:={ s with heap:=h6,toks:=tk5}) S dj hs hD hDp hC hCp hDC hcl hfr ho hn ht (λq=>hz (by rw [Iy e1] at q;exact q)) m6.inv (D6.less (Nv e3 hn)) r6 ⟨k6,by simpa using l6⟩ rv6 (by simp;omega) e9 λh' tk U' ws mv lw rw' zw hm=>hR h' tk U' ws ((m4.trans (Mv.of_go G5)).trans (m6.trans mv)) lw rw' zw hm
end
theorem Nx{names:List (Str×NameKind)}{x:Str}:∀ {i:Nat},names.findIdx? (λp=>p.1 == x)=some i->∃ k,names[i]?=some (x,k)/\names.lookup x=some k:=by
 induction names with
 | nil=>exact λh=>nns h
 | cons p r ih=>
  obtain ⟨n,k⟩:=p;intro i h;rw [List.findIdx?_cons] at h;rw [cD];by_cases hn:n=x
  . subst hn;rw [if_pos (beq_self_eq_true n)] at h;refine snE h λcc1=>?_;clear h;subst cc1;exact⟨k,rfl,by rw [beq_self_eq_true n]⟩
  . rw [if_neg λz=>hn (eq_of_beq z)] at h;refine e12 (bF.mp h) λj hj zz2=>?_;clear h;subst zz2;refine e12 (ih hj) λk' h1 h2=>⟨k',h1,?_⟩;rw [cL.mpr (Ne.symm hn)];exact h2
theorem Xs{β γ:Type}(g:Str->β->γ)(names:List (Str×β))(x:Str):(names.map λp=>(p.1,g p.1 p.2)).lookup x=(names.lookup x).map (g x):=by
 induction names with
 | nil=>rfl
 | cons p r ih=>
  obtain ⟨n,k⟩:=p;rw [cP,cD,cD]
  cases hx:x == n with
  | true=>rw [eq_of_beq hx];rfl
  | false=>exact ih
theorem Ny{env:Env}{scope:Scope}:∀ {names:List (Str×NameKind)} {x:Str},
 (names.map λ(n,k)=>if (k == NameKind.free&&env.scope.kind == .function&&env.kindOf n == some .cell) then (n,NameKind.cell) else (n,k)).lookup x =
  (names.lookup x).map λk=>if (k == NameKind.free&&env.scope.kind == .function&&env.kindOf x == some .cell) then NameKind.cell else k
 := λ{names x}=>(aJ (λl:List (Str×NameKind)=>l.lookup x) (aJ (λf:Str×NameKind->Str×NameKind=>names.map f) (funext λp=>p.casesOn λn k=>(apply_ite (Prod.mk n) _ _ _).symm))).trans (Xs (λn k=>if (k == NameKind.free&&env.scope.kind == .function&&env.kindOf n == some .cell) then NameKind.cell else k) names x)
theorem Di{G:Str->Option Value}{names:List (Str×NameKind)}{off:Nat}{outer:Rs}{x:Str}:rsOf G names off outer x=.stuck\/(∃ i k,names[i]?=some (x,k)/\names.lookup x=some k/\
 ((k=.local/\rsOf G names off outer x=.var (off+i))\/(k=.cell/\rsOf G names off outer x=.cvar (off+i))\/(k=.free/\rsOf G names off outer x=outer x)\/(k=.globalImplicit/\∃ v,G x=some v/\rsOf G names off outer x=.lit (.con v)))):=by
 unfold rsOf
 cases h:names.findIdx? (λp=>p.1 == x) with
 | none=>exact .inl rfl
 | some i=>
  refine e12 (Nx h) λk h1 h2=>?_;dsimp only;rw [h1]
  induction k using PySem.NameKind.casesOn with
  | «local»=>exact .inr ⟨i,_,h1,h2,.inl ⟨rfl,rfl⟩⟩
  | cell=>exact .inr ⟨i,_,h1,h2,.inr (.inl ⟨rfl,rfl⟩)⟩
  | free=>exact .inr ⟨i,_,h1,h2,.inr (.inr (.inl ⟨rfl,rfl⟩))⟩
  | globalImplicit=>
   dsimp only
   cases hg:G x with
   | none=>exact .inl rfl
   | some v=>exact .inr ⟨i,_,h1,h2,.inr (.inr (.inr ⟨rfl,v,rfl,rfl⟩))⟩
  | _=>exact .inl rfl
section
variable{C:Cx}{P:Bi}{n lv d:Nat}{Z:Zt}{env:Env}{rs:Rs}{Y:Ae}{s:Shared}{U U' as bs ps:List Addr}{J J':Sto}{sc:Scope}{Cc:Addr}
structure Hz(rs:Rs)(sc:Scope):Prop where
 kind:sc.kind=.function
 len:sc.names.length<=32
 nd:(sc.names.map (·.1)).Nodup
 free:∀ x,(x,NameKind.free)∈sc.names->∃ i,rs x=.cvar i/\i<100
 nocell:∀ p∈sc.names,p.2≠.cell
theorem Nz(h:Ty rs sc=true):Hz rs sc:=by
 unfold Ty at h;refine e02 (aK.mp h) λh h4=>e02 (aK.mp h) λh h3=>e02 (aK.mp h) λh1 h2=>?_;have h2:=aB h2;have h3:=aB h3;have h4:=bI.mp h4;refine⟨by cases hk:sc.kind <;> first | rfl | (rw [hk] at h1;exact absurd h1 (by decide)),h2,h3,λx hx=>?_,λp hp q=>?_⟩
 . have t:(match rs x with | .cvar i=>decide (i<100) | _=>false)=true:=h4 (x,.free) hx;generalize rs x=r at t ⊢
   induction r using IE.casesOn with
   | cvar i=>exact⟨i,rfl,aB t⟩
   | _=>exact nft t
 . obtain ⟨x,k⟩:=p;obtain rfl:k=.cell:=q;exact nft (h4 _ hp)
theorem Br{α:Type}{l:List (Str×α)}{x:Str}{k:α}(h:l.lookup x=some k):(x,k)∈l:=mem_of_lookup h
theorem Fq(F:Hz rs sc)(S:Am Z C.G env rs):∀ p∈sc.names,p.2=.free->∃ c,env.cells.lookup p.1=some c:=λp hp hk=>by
 obtain ⟨x,k⟩:=p;obtain rfl:k=.free:=hk;refine e12 (F.free x hp) λi hi _=>?_;rcases S.form x with ⟨j,q,_⟩ | ⟨j,c,q,_,_,hc⟩ | ⟨v,q,_⟩ | q
 . rw [hi] at q;injection q
 . exact⟨c,hc⟩
 all_goals (rw [hi] at q;injection q)
theorem Adg(F:Hz rs sc)(S:Am Z C.G env rs)(hC:Cc∈as)(hCf:Cc∉Z.fr):Am (Z.sub as) C.G (compEnvC sc (Du env sc.names []) Cc env) (rsOf C.G sc.names 100 rs):=by
 have hcl:∀ {x c},(Du env sc.names []).lookup x=some c->env.cells.lookup x=some c:=λ{x c} h=>(Gk (Fq F S) h).elim (λh=>by exact nns h) id;refine⟨F.kind,S.glob,aG _ hC,λx c h=>?_,λx y c h1 h2=>S.apart x y c (hcl h1) (hcl h2),λx=>?_,λx y i hx hy=>?_,λe he=>?_⟩
 . have:=S.cfr x c (hcl h);exact⟨aI _ this.1,λq=>hCf ((show c=Cc from q)▸this.1)⟩
 . have kof:(compEnvC sc (Du env sc.names []) Cc env).kindOf x=(sc.names.lookup x).map λk=>if (k == NameKind.free&&env.scope.kind == .function&&env.kindOf x == some .cell) then NameKind.cell else k:=Ny (scope:=sc);rcases Di (G:=C.G) (names:=sc.names) (off:=100) (outer:=rs) (x:=x) with q | ⟨i,k,h1,h2,⟨rfl,q⟩ | ⟨rfl,q⟩ | ⟨rfl,q⟩ | ⟨rfl,v,hg,q⟩⟩
   . exact .inr (.inr (.inr q))
   . exact .inl ⟨_,q,by rw [kof,h2];rfl⟩
   . exact absurd rfl (F.nocell _ (Br h2))
   . refine e12 (F.free x (Br h2)) λj hj _=>?_;refine .inr (.inl ⟨j,?_⟩);rcases S.form x with ⟨j',q',_⟩ | ⟨j',c,q',hk,hn,hc⟩ | ⟨v,q',_⟩ | q'
     . rw [hj] at q';injection q'
     . refine⟨c,q.trans hj,?_,hn,Xr F.nd (Br h2) hc⟩;rw [kof,h2,S.kind];rcases hk with hk | hk <;> rw [hk]
       . exact .inl rfl
       . exact .inr rfl
     all_goals (rw [hj] at q';injection q')
   . exact .inr (.inr (.inl ⟨v,q,by rw [kof,h2];rfl,hg⟩))
 . have key:∀ {x i},(rsOf C.G sc.names 100 rs x=.var i\/rsOf C.G sc.names 100 rs x=.cvar i)->(∃ j k,i=100+j/\sc.names[j]?=some (x,k))\/(i<100/\rs x=.cvar i):=λ{x i} h=>by
    rcases Di (G:=C.G) (names:=sc.names) (off:=100) (outer:=rs) (x:=x) with q | ⟨j,k,h1,h2,⟨rfl,q⟩ | ⟨rfl,q⟩ | ⟨rfl,q⟩ | ⟨rfl,v,hg,q⟩⟩
    . rw [q] at h;rcases h with h | h <;> injection h
    . rw [q] at h;rcases h with h | h <;> (first | (injection h with cc1;subst cc1) | injection h)
      exact .inl ⟨j,_,rfl,h1⟩
    . exact absurd rfl (F.nocell _ (Br h2))
    . refine e12 (F.free x (Br h2)) λj' hj hlt=>?_;rw [q,hj] at h;rcases h with h | h <;> (first | (injection h with cc1;obtain rfl:=cc1.symm) | injection h)
      exact .inr ⟨hlt,hj⟩
    . rw [q] at h;rcases h with h | h <;> injection h
   rcases key hx with ⟨j,k,rfl,h1⟩ | ⟨hlt,h1⟩ <;> rcases key hy with ⟨j',k',h3,h2⟩ | ⟨hlt',h2⟩
   . have:j=j':=by exact eqc (fk [j,j'] [(1,(.a (.n 100) (.v 0)),(.a (.n 100) (.v 1))),(1,(.a (.v 1) (.n 1)),(.v 0))] rfl (aD h3)) (fk [j',j] [(1,(.a (.n 100) (.v 0)),(.a (.n 100) (.v 1))),(1,(.a (.v 1) (.n 1)),(.v 0))] rfl (aD (Eq.symm h3)))
     subst this;rw [h1] at h2;refine spE h2 λcc1 cc2=>?_;clear h2;subst cc1;subst cc2;rfl
   . omega
   . omega
   . exact S.inj x y i (.inr h1) (.inr h2)
 . obtain ⟨h1,L,h2,h3⟩:=S.outs e he;exact⟨h1,L,h2,aI _ h3⟩
theorem Adh{h h':Heap}(F:Hz rs sc)(S:Am Z C.G env rs)(D:Ag Z env rs h U J Y)(mv:Mv Z [] as h U J h' U' J')(hn:∃ m,h'.Ns Cc m)(h0:∀ i,100<=i->i<132->Y i=Option.none) :
 Ag (Z.sub as) (compEnvC sc (Du env sc.names []) Cc env) (rsOf C.G sc.names 100 rs) h' U' J' Y:=by
 have D':=D.sub0.mv S mv;have hcl:∀ {x c},(Du env sc.names []).lookup x=some c->env.cells.lookup x=some c:=λ{x c} h=>(Gk (Fq F S) h).elim (λh=>by exact nns h) id;have key:∀ {x i},rsOf C.G sc.names 100 rs x=.cvar i->rs x=.cvar i:=λ{x i} h=>by
  rcases Di (G:=C.G) (names:=sc.names) (off:=100) (outer:=rs) (x:=x) with q | ⟨j,k,h1,h2,⟨rfl,q⟩ | ⟨rfl,q⟩ | ⟨rfl,q⟩ | ⟨rfl,v,hg,q⟩⟩
  . rw [q] at h;injection h
  . rw [q] at h;injection h
  . exact absurd rfl (F.nocell _ (Br h2))
  . rw [<- q];exact h
  . rw [q] at h;injection h
 refine⟨hn,D'.outs,λx i c e1 e2=>D'.cell x i c (key e1) (hcl e2),λx i a m e1 e2 e3=>?_,λx i a c e1 e2 e3=>D'.cval x i a c (key e1) e2 (hcl e3)⟩;rcases Di (G:=C.G) (names:=sc.names) (off:=100) (outer:=rs) (x:=x) with q | ⟨j,k,h1,h2,⟨rfl,q⟩ | ⟨rfl,q⟩ | ⟨rfl,q⟩ | ⟨rfl,v,hg,q⟩⟩
 . rw [q] at e1;injection e1
 . rw [q] at e1;injection e1 with cc1;subst cc1;have:j<sc.names.length:=(aN.mp h1).1;have:=F.len;rw [h0 _ (by exact lec (fk [j] [(1,(.a (.a (.n 100) (.v 0)) (.n 1)),(.n 100))] rfl)) (by omega)] at e2;exact nns e2
 . exact absurd rfl (F.nocell _ (Br h2))
 . refine e12 (F.free x (Br h2)) λj' hj _=>?_;rw [q,hj] at e1;injection e1
 . rw [q] at e1;injection e1
theorem Agg{t:PySem.Expr}{ts:List Nat}(h:El rs t=some ts){i:Nat}(hi:i∈ts):∃ x,rs x=.var i\/rs x=.cvar i:=by
 have many:∀ {es:List PySem.Expr} {is:List Nat},Ed rs es=some is->i∈is->∃ x,rs x=.var i\/rs x=.cvar i:=by
  intro es
  induction es with
  | nil=>intro is h hi;refine snE h λcc1=>?_;clear h;subst cc1;cases hi
  | cons e es ih=>
   intro is h hi;refine e23 (Gi h) λj is' h1 h2 zz4=>?_;subst zz4;rcases aM.mp hi with rfl | hi
   . refine e22 (Dh h1) λx _ _ hx=>?_;exact⟨x,hx⟩
   . exact ih h2 hi
 have one:∀ {e:PySem.Expr},(Ma rs e).map ([·])=some ts->∃ x,rs x=.var i\/rs x=.cvar i:=λ{e} h=>by
  refine e12 (bF.mp h) λj h1 zz2=>?_;subst zz2;rw [aQ.mp hi];refine e22 (Dh h1) λx _ _ hx=>?_;exact⟨x,hx⟩
 induction t using PySem.Expr.casesOn with
 | Tuple es n p=>
  exact many (Va h).2 hi
 | Name x p=>exact one h
 | _=>exact nns h
theorem Agh{t:PySem.Expr}{ts:List Nat}{src:Src}(h:El rs t=some ts)(hs:Jg src ts.length=true)(hz:isZip src=true):∃ es k p,t=.Tuple es k p:=by
 induction src using Src.casesOn with
 | zip a b k=>
  have h2:2<=ts.length:=aB hs
  induction t using PySem.Expr.casesOn with
  | Tuple es n p=>exact⟨es,n,p,rfl⟩
  | Name x p=>
   refine e12 (bF.mp h) λj _ zz2=>?_;subst zz2;exact absurd h2 (show ¬ 2<=1 by decide)
  | _=>exact nns h
 | _=>exact nft hz
theorem Adi{α β:Type}{m:M α}{f:α->M β}{q:Except Str β×Sto}(e:((M.still m).bnd f) J=some q):∃ x J1,m J=some (.ok x,J1)/\f x J1=some q:=Pt e
theorem Px{elt t iter:PySem.Expr}{ifs:List PySem.Expr}{pos:Pos}{ts:List Nat}{f:List AV->M AV}{q:Except Str AV}{E:Value->Shared->Prop}{RR:Value->Addr->Result->Shared->Prop}(L:Z.Lv lv)
 (it:Iw Z (itA P n lv Y (cI C d rs iter)) iter env s U J) (W:Ix C P n lv Z) (S:Am Z C.G env rs) (I:Z.I s.heap U J) (D:Ag Z env rs s.heap U J Y) (F:Hz rs sc) (ht:El (rsOf C.G sc.names 100 rs) t=some ts)
 (hg:(((List.range 32).all λj=>(Y (100+j)).isNone)&&ts.all (λi=>decide (100<=i)))=true)
 (e:((itA P n lv Y (cI C d rs iter)).bnd λs=>M.grd (Jg s ts.length) <| (M.still (Zq P n lv Y (cE C d (rsOf C.G sc.names 100 rs) elt) ts (cEs C d (rsOf C.G sc.names 100 rs) ifs) s [])).bnd f) J=some (q,J')) (er:Uz Z U J q J' E s)
 (hRR:∀ Da Ca h' tk U' ws vF JF,f vF JF=some (q,J')->Mv Z [] [Ca,Da] s.heap U J h' U' JF->Ca≠Da->Ca∉Z.fr->Da∉Z.fr->(∃ m,h'.Ns Ca m)->LX h' Da ws->Ab h' (Vt ([Ca,Da]++Z.fr) U' JF) U' ws vF->vF.length<lim->RR (.ref Da) Ca (.ok .next) { s with heap:=h',toks:=tk}) :
 wpAny Z.M Z.A (eval iter env) (λxv s1=>wpAny Z.M Z.A (pyIter xv) (λit s2=>wpAny Z.M Z.A (newList []) (λacc s3=>wpAny Z.M Z.A (newFunctionEnv sc env.globals (Du env sc.names []) [] env.qual none .none (some env)) (λcenv s4=>
  codeAny Z.M Z.A (.compStart (.ListComp elt [⟨t,iter,ifs,0⟩] sc pos) 0 it acc { cenv with scope:=relabel sc env}) (RR acc cenv.locals) s4) E s3) E s2) E s1) E s:=by
 refine e02 (aK.mp hg) λhg1 hg2=>?_;have h0:∀ i,100<=i->i<132->Y i=Option.none:=λi h1 h2=>by
  have:=bI.mp hg1 (i - 100) (List.mem_range.mpr (by exact ltc (fk [i,i - 100] [(1,(.a (.v 0) (.n 1)),(.n 132)),(1,(.a (.v 1) (.n 100)),(.v 0)),(1,(.n 32),(.v 1))] rfl h2 (sbc (lec (fk [i] [(1,(.n 100),(.v 0)),(1,(.a (.v 0) (.n 1)),(.n 100))] rfl h1))))));rw [show 100+(i - 100)=i by exact eqc (fk [i - 100,i] [(1,(.a (.v 0) (.n 100)),(.v 1)),(1,(.a (.v 1) (.n 1)),(.a (.n 100) (.v 0)))] rfl (sbc (lec (fk [i] [(1,(.n 100),(.v 0)),(1,(.a (.v 0) (.n 1)),(.n 100))] rfl h1)))) (fk [i,i - 100] [(1,(.v 0),(.a (.v 1) (.n 100))),(1,(.a (.a (.n 100) (.v 1)) (.n 1)),(.v 0))] rfl (sbg (i) (100)))] at this;simpa using this
 have h100:∀ i∈ts,100<=i:=λi hi=>aB (bI.mp hg2 i hi);have hvar:∀ {x i},(rsOf C.G sc.names 100 rs x=.var i\/rsOf C.G sc.names 100 rs x=.cvar i)->100<=i->i<132/\rsOf C.G sc.names 100 rs x=.var i:=λ{x i} h hi=>by
  rcases Di (G:=C.G) (names:=sc.names) (off:=100) (outer:=rs) (x:=x) with q | ⟨j,k,h1,h2,⟨rfl,q⟩ | ⟨rfl,q⟩ | ⟨rfl,q⟩ | ⟨rfl,v,hg,q⟩⟩
  . rw [q] at h;rcases h with h | h <;> injection h
  . rw [q] at h;rcases h with h | h <;> (first | (injection h with cc1;subst cc1) | injection h)
    have:j<sc.names.length:=(aN.mp h1).1;have:=F.len;exact⟨by omega,q⟩
  . exact absurd rfl (F.nocell _ (Br h2))
  . refine e12 (F.free x (Br h2)) λj' hj hlt=>?_;rw [q,hj] at h;rcases h with h | h <;> (first | (injection h with cc1;obtain rfl:=cc1.symm) | injection h)
    omega
  . rw [q] at h;rcases h with h | h <;> injection h
 unfold M.bnd at e
 cases hi:itA P n lv Y (cI C d rs iter) J with
 | none=>rw [hi] at e;exact nns e
 | some r=>
  obtain ⟨r,σ1⟩:=r;rw [hi] at e
  induction r using Except.casesOn with
  | error m=>
   refine spE e λcc1 cc2=>?_;clear e;subst cc1;obtain rfl:=cc2.symm;exact it _ _ hi _ _ (λm' q=>by refine erE q λcc1=>?_;clear q;subst cc1;exact er m rfl) λsrc q=>by exact neo q
  | ok src=>
   dsimp only at e;refine e02 (Ce e) λhso e=>?_;refine e22 (Adi e) λvF JF e1 e2=>?_;refine it _ _ hi _ _ (λm' q=>by exact noe q) ?_;intro src' q it0 ps h1 tk1 μ1 mv1 hpf r1 hlv;refine okE q λcc1=>?_;clear q;subst cc1;refine wpAny_newObj_type (wpAny_newFunctionEnv (λp hp=>F.nocell p hp) (by intro y hy;simp at hy) (λh2 hns hsb=>?_) F.kind);dsimp only at hns hsb ⊢;generalize hH:h1.push { cls:=.type "list",dict:=none,data:=.seq ([]:List Value).toArray}=H at hns hsb ⊢;have hHs:H.objs.size=h1.objs.size+1:=by rw [<- hH,Heap.size_push]
   have old:∀ b o,h1.get? b=some o->h2.get? b=some o:=λb o e=>by
    have hlt:=cR e;refine hsb.extBut b o (aW (by rw [hHs];exact Nat.lt_succ_of_lt hlt)) (aE _ (hH▸aE _ e))
   have hD2:h2.get? h1.objs.size=some { cls:=.type "list",dict:=none,data:=.seq ([]:List Value).toArray}:=
    hsb.extBut _ _ (aW (by rw [hHs];exact cN _)) (aE _ (hH▸aS _ rfl))
   obtain ⟨oC,hoC⟩:∃ o,h2.get? H.objs.size=some o:=by refine e32 hns λo _ _ ho _=>?_;clear hns;exact⟨o,ho⟩
   have nC:h1.get? H.objs.size=none:=cG (by exact lec (fk [h1.objs.size,H.objs.size] [(1,(.a (.v 0) (.n 1)),(.v 1)),(1,(.a (.v 1) (.n 1)),(.v 0))] rfl (aD (Eq.symm hHs))));have nD:h1.get? h1.objs.size=none:=Bb _;have mv2:Mv Z ps ([H.objs.size,h1.objs.size]++ps) h1 μ1 σ1 h2 μ1 σ1:=Mv.enter mv1.inv old λb hb=>by
    rcases Wi hb with rfl | rfl
    . exact⟨nC,_,hoC⟩
    . exact⟨nD,_,hD2⟩
   have mv:=mv1.trans mv2;have nf:∀ {b},h1.get? b=none->b∉ps++Z.fr:=λhb q=>by
    refine e11 ((mv1.inv.frs _ q).2.2) λo e=>?_;rw [hb] at e;exact nns e
   have hCf:H.objs.size∉Z.fr:=λq=>nf nC (aI _ q);have hDf:h1.objs.size∉Z.fr:=λq=>nf nD (aI _ q);have hCp:H.objs.size∉ps:=λq=>nf nC (aG _ q);have hDp:h1.objs.size∉ps:=λq=>nf nD (aG _ q);have dj:∀ a∈[H.objs.size,h1.objs.size]++ps,a∉Z.fr:=λa ha=>by
    simp only [List.cons_append,List.nil_append,aM] at ha;rcases ha with rfl | rfl | ha
    . exact hCf
    . exact hDf
    . exact hpf a ha
   have r2:SrcRel Z ([H.objs.size,h1.objs.size]++ps) h2 μ1 σ1 ps it0 src:=by
    exact r1.on mv2.on λa ha o e _ _=>old a o e
   have S':=Adg (as:=[H.objs.size,h1.objs.size]++ps) F S (Cc:=H.objs.size) (by simp) hCf;have D':=Adh F S D mv ⟨_,hns⟩ h0;have loop:∀ tk,codeAny Z.M Z.A (.compLoop (.ListComp elt [⟨t,iter,ifs,0⟩] sc pos) 0 it0 (.ref h1.objs.size) (compEnvC sc (Du env sc.names []) H.objs.size env)) (RR (.ref h1.objs.size) H.objs.size) { s with heap:=h2,toks:=tk}:=λtk=>by
    refine W (s:={ s with heap:=h2,toks:=tk}) S' dj (λa ha=>aI _ ha) (D:=h1.objs.size) (by simp) hDp (by simp [compEnvC]) hCp (by show h1.objs.size≠H.objs.size;omega) (λy c hy q=>?_) (λe he L hL q=>?_) (λi hi x hx=>?_) (λi hi=>?_) ht (λhz=>Agh ht hso hz) mv.inv D' r2 ⟨0,hD2⟩ .nil (by decide) e1 λh' tk' U' ws m lw rw' zw hm=>?_
    . have hc:env.cells.lookup y=some c:=(Gk (Fq F S) hy).elim (λh=>by exact nns h) id;exact dj c q (S.cfr y c hc).1
    . obtain ⟨_,L',h1',h2'⟩:=S.outs e he;rw [h1'] at hL;refine snE hL λcc1=>?_;clear hL;obtain rfl:=cc1.symm;exact dj _ q h2'
    . exact .inl ⟨(hvar hx (h100 i hi)).2,by simp [compEnvC]⟩
    . refine e11 (Agg ht hi) λx hx=>?_;exact h0 i (h100 i hi) (hvar hx (h100 i hi)).1
    . exact hRR h1.objs.size H.objs.size h' tk' U' ws vF JF e2 (mv.trans m) (bT (by rw [hHs];exact cN _)) hCf hDf hm lw rw' zw
   refine codeAny_compStart_list (loop _) (Amf (s:={ s with heap:=h2,toks:=_}) mv.inv r2 hlv (loop _))
end
theorem Gm{iter:PySem.Expr}{env:Env}(h:∀ es k p,iter≠.Set es k p):∀ x,foldedSetIterable iter env x=pure x:=λx=>by
 cases iter <;> first | rfl | exact absurd rfl (h _ _ _)
theorem Xu{C:Cx}{d:Nat}{rs:Rs}{es:List PySem.Expr}{k:Nat}{p:Pos}:cI C d rs (.Set es k p)=.val .stuck:=by cases d <;> rfl
section
variable{C:Cx}{P:Bi}{n lv d:Nat}{Z:Zt}{env:Env}{rs:Rs}{Y:Ae}{s:Shared}{U U' as bs ps:List Addr}{J J':Sto}{sc:Scope}{Cc:Addr}
theorem Ff:itA P n lv Y (.val .stuck) J=none:=by
 induction n using Nat.casesAuxOn with
 | zero=>rfl
 | succ n=>show ((evA P n lv Y .stuck).bnd _) J=none;exact Bg Au
theorem Vb(F:Hz rs sc):∀ x∈sc.names,x.2=.local->sc.names.lookup x.1=some .local:=by
 have key:∀ {l:List (Str×NameKind)},(l.map (·.1)).Nodup->∀ p∈l,l.lookup p.1=some p.2:=by
  intro l
  induction l with
  | nil=>intro _ p hp;cases hp
  | cons q r ih=>
   intro nd p hp;obtain ⟨n1,n2⟩:=bZ.mp nd;obtain ⟨a,b⟩:=q;rcases aM.mp hp with rfl | hp
   . rw [cD,show (a == a)=true by simp]
   . rw [cD,show (p.1 == a)=false by
      have:p.1≠a:=λz=>n1 (z▸bY (f:=(·.1)) hp);simpa using this]
     exact ih n2 p hp
 exact λx hx hl=>hl▸key F.nd x hx
theorem Amj(L:Z.Lv lv)(IT:∀ (d:Nat) (iter:PySem.Expr),Iw Z (itA P n lv Y (cI C d rs iter)) iter env s U J)(W:Ix C P n lv Z)(S:Am Z C.G env rs)(I:Z.I s.heap U J)(D:Ag Z env rs s.heap U J Y){elt t iter:PySem.Expr}{ifs:List PySem.Expr}{ts:List Nat}{m:Bool}{pos:Pos}
 (hs:Ty rs sc=true) (ht:El (rsOf C.G sc.names 100 rs) t=some ts) :
 At Z VR (evA P (n+1) lv Y (.comp m (cE C d (rsOf C.G sc.names 100 rs) elt) ts (cI C d rs iter) (cEs C d (rsOf C.G sc.names 100 rs) ifs))) (eval (.ListComp elt [⟨t,iter,ifs,0⟩] sc pos) env) s U J:=by
 intro q J' e Q E an;have F:=Nz hs;obtain ⟨hg,e⟩:=Ce e;by_cases hset:∃ es k p,iter=.Set es k p
 . refine e31 hset λes k p zz3=>?_;clear hset;subst zz3;have e2:=(show ((itA P n lv Y (cI C d rs (.Set es k p))).bnd _) J=some (q,J') from e);rw [Xu,Bg Ff] at e2;exact nns e2
 . rw [eval_ListComp];refine wpAny_comprehension_free (use:=none) rfl (Gm λes k p h=>hset ⟨es,k,p,h⟩) (Lr (Fq F S)) F.kind (Vb F) ?_;refine Px (RR:=λacc C=>compPost Z.M Z.A E none Q acc C) L (IT d iter) W S I D F ht hg e (λmsg h=>by subst h;exact an) ?_;intro Da Ca h' tk μ1 ws vF JF ef mv hne hCf hDf hm l rv z;obtain ⟨mm,hm⟩:=hm;refine⟨mm,hm,λh'' sb=>?_⟩;have dj:∀ a∈[Ca,Da],a∉Z.fr:=λa ha=>by
    simp only [aM,bH,or_false] at ha;rcases ha with rfl | rfl
    . exact hCf
    . exact hDf
   have m1:Mv Z [Ca,Da] [Da] h' μ1 JF h'' μ1 JF:=Mv.outTo mv.inv dj (λb hb=>by simp at hb;simp [hb]) λb o hb eo=>sb.extBut b o (λq=>by
    subst q;rcases hb with hb | hb
    . exact hb (by simp)
    . exact hne (aQ.mp hb)) eo
   obtain ⟨k,l⟩:=l;obtain ⟨av,μ2,rfl,m2,rr⟩:=Agf (s:={ s with heap:=h''}) (bs:=[]) m1.inv (λa ha=>by rw [aQ.mp ha];exact hDf) (.head _) (λb hb=>by cases hb) ⟨k,sb.extBut _ _ (Ne.symm hne) l⟩ (rv.on m1.on) z ef;exact an _ h'' tk μ2 ((mv.trans m1).trans m2).go rr
end
noncomputable def Avr(hB h:Heap)(x:Value)(m:Str):Prop:=∃ (e:Addr) (tk:Tok),x=.ref e/\Heap.MadeExcOf hB h e (.type "ValueError") [.str m tk]/\m.length<lim
inductive FlR(h:Heap)(V:Addr->Prop)(U:List Addr):Flow->Fl->Prop
 | nxt:FlR h V U .next .nxt
 | brk:FlR h V U .brk .brk
 | cnt:FlR h V U .cont .cnt
 | ret {v:Value} {a:AV}:VRel h V U v a->FlR h V U (.ret v) (.ret a)
theorem FlR.inv_nxt{h:Heap}{V:Addr->Prop}{U:List Addr}{f:Flow}(r:FlR h V U f .nxt):f=.next:=by cases r;rfl
theorem FlR.inv_ret{h:Heap}{V:Addr->Prop}{U:List Addr}{f:Flow}{a:AV}(r:FlR h V U f (.ret a)):∃ v,VRel h V U v a/\f=.ret v:=by
 cases r with
 | ret r=>exact⟨_,r,rfl⟩
noncomputable def Pf(Z:Zt)(own:List Addr)(env:Env)(rs:Rs)(s:Shared)(U:List Addr)(J:Sto)(r:Except (Bool×Str) Fl)(Y':Ae)(J':Sto)(Q:Flow->Shared->Prop)(E:Value->Shared->Prop):Prop:=match r with
 | .ok fl=>∀ f h' tk U',Mv Z own own s.heap U J h' U' J'->Ag (Z.sub own) env rs h' U' J' Y'->FlR h' (Vt (own++Z.fr) U' J') U' f fl->Q f { s with heap:=h',toks:=tk}
 | .error (b,m)=>∀ x hB h' tk U',Mv Z own own s.heap U J hB U' J'->Ag (Z.sub own) env rs hB U' J' Y'->(if b then Avr hB h' x m else Fly Z.envs hB h' x m)->E x { s with heap:=h',toks:=tk}
noncomputable def XAt(Z:Zt)(own:List Addr)(env:Env)(rs:Rs)(m:X)(t:Sem Flow)(s:Shared)(U:List Addr)(J:Sto):Prop:=
 ∀ r Y' J',m J=some (r,Y',J')->∀ Q E,Pf Z own env rs s U J r Y' J' Q E->wpAny Z.M Z.A t Q E s
section
variable{Z:Zt}{own U U' as bs ps:List Addr}{env:Env}{rs:Rs}{Y Y' Y1:Ae}{s:Shared}{J J' J1:Sto}{r:Except (Bool×Str) Fl}{Q:Flow->Shared->Prop}{E:Value->Shared->Prop}{h' h:Heap}{tk n lv d:Nat}{C:Cx}{P:Bi}{sc:Scope}{Cc:Addr}
theorem Pf.go(x:Mv Z own own s.heap U J h' U' J1)(a:Pf Z own env rs s U J r Y' J' Q E):Pf Z own env rs { s with heap:=h',toks:=tk} U' J1 r Y' J' Q E:=by
 induction r using Except.casesOn with
 | ok fl=>exact λf h2 tk2 U2 G D r=>a f h2 tk2 U2 (x.trans G) D r
 | error m=>exact λb hB h2 tk2 U2 G D r=>a b hB h2 tk2 U2 (x.trans G) D r
theorem XAt.none{m:X}{t:Sem Flow}(h:m J=Option.none):XAt Z own env rs m t s U J:=λq Y' J' e=>by rw [h] at e;exact nns e
theorem XAt.fail{t:Sem Flow}:XAt Z own env rs X.fail t s U J:=.none rfl
theorem XAt.use{α β:Type}{R:Ie β α}{m:M α}{t:Sem β}{f:α->X}(x:At (Z.sub own) R m t s U J)(D:∀ h' U' J',(Z.sub own).Go s.heap U J h' U' J'->Ag (Z.sub own) env rs h' U' J' Y)(e:X.of m Y f J=some (r,Y',J'))(a:Pf Z own env rs s U J r Y' J' Q E)
 {Q:β->Shared->Prop} (k:∀ v b h' tk U' J1,(Z.sub own).Go s.heap U J h' U' J1->R h' ((Z.sub own).V U' J1) U' b v->f v J1=some (r,Y',J')->Q b { s with heap:=h',toks:=tk}):wpAny Z.M Z.A t Q E s:=by
 unfold X.of at e
 cases hm:m J with
 | none=>rw [hm] at e;exact nns e
 | some q=>
  obtain ⟨q,J1⟩:=q;rw [hm] at e
  induction q using Except.casesOn with
  | error y=>
   refine spE e λcc1 cc2=>?_;clear e;subst cc1;refine prE cc2 λcc3 cc4=>?_;clear cc2;subst cc3;obtain rfl:=cc4.symm;exact x _ _ hm Q E λz hB h' tk U' G fl=>a z hB h' tk U' (Mv.of_go G) (D _ _ _ G) fl
  | ok v=>exact x _ _ hm Q E λb h' tk U' G r=>k v b h' tk U' J1 G r e
noncomputable def Aan(C:Cx)(P:Bi)(n lv:Nat)(Z:Zt)(env:Env)(rs:Rs)(Y:Ae):Prop:=
 ∀ (d:Nat) (elt:PySem.Expr) (gens:List Comprehension) (sc:Scope) (pos:Pos) (u:Value->Sem Unit) {s:Shared} {U:List Addr} {J:Sto},Z.I s.heap U J->Ag Z env rs s.heap U J Y->∀ q J',evA P n lv Y (cE C d rs (.ListComp elt gens sc pos)) J=some (q,J')->
  ∀ (Q:Value->Shared->Prop) (E:Value->Shared->Prop),Uz Z U J q J' E s->
  (∀ a,q=.ok a->∀ v Ca h' tk U',Mv Z [] [Ca] s.heap U J h' U' J'->Ca∉Z.fr->(∃ m,h'.Ns Ca m)->VRel h' (Vt ([Ca]++Z.fr) U' J') U' v a->
   wpAny Z.M Z.A (u v) (λ_ s''=>∃ m,s''.heap.Ns Ca m/\∀ h'',Heap.SameBut Ca s''.heap h''->Q .none { s'' with heap:=h''}) E { s with heap:=h',toks:=tk})->
  wpAny Z.M Z.A (comprehension (.ListComp elt gens sc pos) sc env (firstIterPos gens pos) (newList []) (firstAsync gens) (firstIter gens env) (some u)) Q E s
theorem Xv{elt:PySem.Expr}{gens:List Comprehension}{pos:Pos}(h:cE C d rs (.ListComp elt gens sc pos)≠.stuck):∃ d' t iter ifs ts,d=d'+1/\gens=[⟨t,iter,ifs,0⟩]/\Ty rs sc=true/\El (rsOf C.G sc.names 100 rs) t=some ts/\
 cE C d rs (.ListComp elt gens sc pos)=.comp (C.mt pos) (cE C d' (rsOf C.G sc.names 100 rs) elt) ts (cI C d' rs iter) (cEs C d' (rsOf C.G sc.names 100 rs) ifs):=by
 induction d using Nat.casesAuxOn with
 | zero=>exact absurd rfl h
 | succ d=>
  induction gens using List.casesOn with
  | nil=>exact absurd rfl h
  | cons g r=>
   obtain ⟨t,iter,ifs,as⟩:=g;have e:cE C (d+1) rs (.ListComp elt (⟨t,iter,ifs,as⟩::r) sc pos)=if (r.isEmpty&&decide (as=0)&&Ty rs sc)=true then
    Wg ((El (rsOf C.G sc.names 100 rs) t).map λts=>.comp (C.mt pos) (cE C d (rsOf C.G sc.names 100 rs) elt) ts (cI C d rs iter) (cEs C d (rsOf C.G sc.names 100 rs) ifs)) else .stuck:=rfl
   rw [e] at h ⊢;by_cases q:(r.isEmpty&&decide (as=0)&&Ty rs sc)=true
   . rw [if_pos q] at h ⊢;refine e02 (aK.mp q) λq hs=>?_;refine e02 (aK.mp q) λq1 q2=>?_;have zz9:=bS.mp q1;subst zz9;have q2:as=0:=aB q2;subst q2
     cases ht:El (rsOf C.G sc.names 100 rs) t with
     | none=>rw [ht] at h;exact absurd rfl h
     | some ts=>exact⟨d,t,iter,ifs,ts,rfl,rfl,hs,ht,rfl⟩
   . rw [if_neg q] at h;exact absurd rfl h
theorem Agi(L:Z.Lv lv)(IT:∀ (d:Nat) (iter:PySem.Expr) {s:Shared} {U:List Addr} {J:Sto},Z.I s.heap U J->Ag Z env rs s.heap U J Y->Iw Z (itA P n lv Y (cI C d rs iter)) iter env s U J)(W:Ix C P n lv Z)(S:Am Z C.G env rs):Aan C P (n+1) lv Z env rs Y:=by
 intro d elt gens sc pos u s U J I D q J' e Q E er k;by_cases hst:cE C d rs (.ListComp elt gens sc pos)=.stuck
 . rw [hst] at e;exact nns e
 . obtain ⟨d',t,iter,ifs,ts,rfl,rfl,hs,ht,he⟩:=Xv hst;rw [he] at e;have F:=Nz hs;refine e02 (Ce e) λhg e=>?_;by_cases hset:∃ es k p,iter=.Set es k p
   . refine e31 hset λes k p zz3=>?_;clear hset;subst zz3;have e2:=(show ((itA P n lv Y (cI C d' rs (.Set es k p))).bnd _) J=some (q,J') from e);rw [Xu,Bg Ff] at e2;exact nns e2
   . refine wpAny_comprehension_free (use:=some u) rfl (Gm λes k p h=>hset ⟨es,k,p,h⟩) (Lr (Fq F S)) F.kind (Vb F) ?_;refine Px (RR:=λacc C=>compPost Z.M Z.A E (some u) Q acc C) L (IT d' iter I D) W S I D F ht hg e er ?_;intro Da Ca h' tk μ1 ws vF JF ef mv hne hCf hDf hm l rv z;have dj:∀ a∈[Ca,Da],a∉Z.fr:=λa ha=>by
      rcases Wi ha with rfl | rfl
      . exact hCf
      . exact hDf
     obtain ⟨av,μ2,rfl,m2,rr⟩:=Agf (s:={ s with heap:=h'}) (bs:=[Ca]) mv.inv dj (by simp) (λb hb=>by rw [aQ.mp hb];exact⟨by simp,hne⟩) l rv z ef;exact k av rfl (.ref Da) Ca h' tk μ2 (mv.trans m2) hCf hm rr
theorem Aao{fr fr':List Addr}(e:∀ a,a∈fr↔a∈fr'):Vt fr U J=Vt fr' U J:=funext λa=>propext ⟨λq=>q.imp id (e a).mp,λq=>q.imp id (e a).mpr⟩
theorem Ivt.perm{prog:Program}{w:World}{g:Heap}{fr fr':List Addr}(e:∀ a,a∈fr↔a∈fr')(I:Ivt prog w g h fr U J):Ivt prog w g h fr' U J:=
 ⟨I.base,I.len,I.nodup,I.out,I.there,λk a o e1 e2=>Aao e▸I.objs k a o e1 e2,λa ha=>I.frs a ((e a).mpr ha)⟩
theorem SrcRel.perm{it:Value}{src:Src}(e:∀ a,a∈as↔a∈bs)(r:SrcRel Z as h U J ps it src):SrcRel Z bs h U J ps it src:=
 r.on (bs:=bs) ⟨λ_ _ _ e=>e,λa q=>.inl (q.imp id λq=>(aZ.mp q).elim (λq=>aG _ ((e a).mpr q)) (aI _)),dC⟩ λ_ _ _ e _ _=>e
theorem Fu{a:Addr}:a∈own++(ps++Z.fr)↔a∈(ps++own)++Z.fr:=by simp only [aZ];exact⟨λh=>h.elim (λh=>.inl (.inr h)) λh=>h.elim (λh=>.inl (.inl h)) .inr,λh=>h.elim (λh=>h.elim (λh=>.inr (.inl h)) .inl) λh=>.inr (.inr h)⟩
theorem Ayi(I:(Z.sub (ps++own)).I h U J):((Z.sub ps).sub own).I h U J:=Ivt.perm (λa=>(Fu (Z:=Z)).symm) I
theorem Avs(I:((Z.sub ps).sub own).I h U J):(Z.sub (ps++own)).I h U J:=Ivt.perm (λa=>Fu (Z:=Z)) I
theorem Oa:Vt (own++(ps++Z.fr)) U J=Vt ((ps++own)++Z.fr) U J:=Aao λa=>Fu (Z:=Z)
theorem Ag.cast{Z Z':Zt}(hV:Z.V U J=Z'.V U J)(he:Z'.envs=Z.envs)(D:Ag Z env rs h U J Y):Ag Z' env rs h U J Y:=
 ⟨D.ns,λe q=>D.outs e (he▸q),D.cell,λx i a m e1 e2 e3=>by rw [<- hV];exact D.val x i a m e1 e2 e3,λx i a c e1 e2 e3=>by rw [<- hV];exact D.cval x i a c e1 e2 e3⟩
theorem Ayj(D:Ag (Z.sub (ps++own)) env rs h U J Y):Ag ((Z.sub ps).sub own) env rs h U J Y:=D.cast (Z:=Z.sub (ps++own)) (Z':=(Z.sub ps).sub own) (Oa (Z:=Z)).symm rfl
theorem Avt(D:Ag ((Z.sub ps).sub own) env rs h U J Y):Ag (Z.sub (ps++own)) env rs h U J Y:=D.cast (Z:=(Z.sub ps).sub own) (Z':=Z.sub (ps++own)) (Oa (Z:=Z)) rfl
theorem Asc(mv:Mv (Z.sub ps) own own h U J h' U' J'):Mv Z (ps++own) (ps++own) h U J h' U' J':=by
 refine⟨Avs mv.inv,?_,λa ha=>mv.fk a (aI _ ha)⟩;have:=mv.on;rw [show own++(Z.sub ps).fr=own++(ps++Z.fr) from rfl,Oa,Oa] at this;exact this
theorem Ayk(S:Am (Z.sub own) C.G env rs):Am ((Z.sub ps).sub own) C.G env rs:=
 ⟨S.kind,S.glob,(Fu (Z:=Z)).mpr (by have:=S.infr;simp only [aZ] at this ⊢;exact this.elim (λh=>.inl (.inr h)) .inr),λx c e=>⟨(Fu (Z:=Z)).mpr (by have:=(S.cfr x c e).1;simp only [aZ] at this ⊢;exact this.elim (λh=>.inl (.inr h)) .inr),(S.cfr x c e).2⟩,
  S.apart,S.form,S.inj,λe he=>let ⟨k,L,h1,h2⟩:=S.outs e he;⟨k,L,h1,(Fu (Z:=Z)).mpr (by simp only [aZ] at h2 ⊢;exact h2.elim (λh=>.inl (.inr h)) .inr)⟩⟩
theorem Xw(S:Am (Z.sub own) C.G env rs):Am (Z.sub (ps++own)) C.G env rs:=
 ⟨S.kind,S.glob,by have:=S.infr;simp only [aZ] at this ⊢;exact this.elim (λh=>.inl (.inr h)) .inr,λx c e=>⟨by have:=(S.cfr x c e).1;simp only [aZ] at this ⊢;exact this.elim (λh=>.inl (.inr h)) .inr,(S.cfr x c e).2⟩,
  S.apart,S.form,S.inj,λe he=>let ⟨k,L,h1,h2⟩:=S.outs e he;⟨k,L,h1,by simp only [aZ] at h2 ⊢;exact h2.elim (λh=>.inl (.inr h)) .inr⟩⟩
structure Cd(Z:Zt)(own:List Addr)(env:Env)(rs:Rs):Prop where
 envs:∃ outer,Z.envs=env::outer
 frame:env.frame=some env.locals
 loc:env.locals∈own
 cells:∀ y c,env.cells.lookup y=some c->c∈own
 kinds:∀ y i,rs y=.cvar i->env.kindOf y=some .cell
 dj:∀ a∈own,a∉Z.fr
theorem Cd.var(O:Cd Z own env rs){x:Str}{i:Nat}(h:rs x=.var i\/rs x=.cvar i)(hs:∀ a∈own,a∈as):Xp env rs as x i:=
 h.imp (λh=>⟨h,hs _ O.loc⟩) λh=>⟨h,O.kinds x i h,λc hc=>hs _ (O.cells x c hc)⟩
theorem Cd.t(O:Cd Z own env rs){ts:List Nat}(hs:∀ a∈own,a∈as):Ami env rs as ts:=λi _ x hx=>O.var hx hs
theorem Cd.sub(O:Cd Z own env rs)(hd:∀ a∈own,a∉ps):Cd (Z.sub ps) own env rs:=
 ⟨O.envs,O.frame,O.loc,O.cells,O.kinds,λa ha q=>(aZ.mp q).elim (hd a ha) (O.dj a ha)⟩
end
noncomputable def Amk(env:Env)(envs:List Env)(hB h:Heap)(x:Value)(m:Str):Prop:=
 ∃ (e t:Addr) (tk:Tok),x=.ref e/\Heap.HeldW (hideAll hB (frames envs)) envs e (.type "ValueError") (.ref t) env.locals h/\h.TupAt t [.str m tk]/\hB.get? e=none/\hB.get? t=none/\hB.UpToSlots h/\m.length<lim
noncomputable def Se(Z:Zt)(own:List Addr)(env:Env)(rs:Rs)(s:Shared)(U:List Addr)(J:Sto)(r:Except (Bool×Str) Fl)(Y':Ae)(J':Sto)(E:Value->Shared->Prop):Prop:=
 ∀ b m,r=.error (b,m)->∀ x hB h' tk U',Mv Z own own s.heap U J hB U' J'->Ag (Z.sub own) env rs hB U' J' Y'->(if b then Avr hB h' x m else Fly Z.envs hB h' x m)->E x { s with heap:=h',toks:=tk}
section
variable{C:Cx}{P:Bi}{n lv d tk:Nat}{Z:Zt}{own U U' as bs:List Addr}{env:Env}{rs:Rs}{Y Y' Y1:Ae}{s:Shared}{J J' J1:Sto}{r:Except (Bool×Str) Fl}{Q:Flow->Shared->Prop}{E:Value->Shared->Prop}{h' h:Heap}{prog:Program}{w:World}{A:Around}{R:Result->Shared->Prop}
theorem Se.go(x:Mv Z own own s.heap U J h' U' J1)(a:Se Z own env rs s U J r Y' J' E):Se Z own env rs { s with heap:=h',toks:=tk} U' J1 r Y' J' E:=
 λb m e y hB h2 tk2 U2 G D f=>a b m e y hB h2 tk2 U2 (x.trans G) D f
theorem Pf.err(a:Pf Z own env rs s U J r Y' J' Q E):Se Z own env rs s U J r Y' J' E:=λb m e x hB h' tk U' G D f=>by
 subst e;exact a x hB h' tk U' G D f
theorem Se.ok{fl:Fl}:Se Z own env rs s U J (.ok fl) Y' J' E:=λb m e=>by exact noe e
theorem At.x{α β:Type}{R:Ie β α}{m:M α}{t:Sem β}{f:α->X}(S:Am (Z.sub own) C.G env rs)(x:At (Z.sub own) R m t s U J)(D:Ag (Z.sub own) env rs s.heap U J Y)(e:X.of m Y f J=some (r,Y',J'))(a:Se Z own env rs s U J r Y' J' E)
 {Q:β->Shared->Prop} (k:∀ v b h' tk U' J1,(Z.sub own).Go s.heap U J h' U' J1->R h' ((Z.sub own).V U' J1) U' b v->f v J1=some (r,Y',J')->Q b { s with heap:=h',toks:=tk}):wpAny Z.M Z.A t Q E s:=by
 unfold X.of at e
 cases hm:m J with
 | none=>rw [hm] at e;exact nns e
 | some q=>
  obtain ⟨q,J1⟩:=q;rw [hm] at e
  induction q using Except.casesOn with
  | error y=>
   refine spE e λcc1 cc2=>?_;clear e;subst cc1;refine prE cc2 λcc3 cc4=>?_;clear cc2;subst cc3;obtain rfl:=cc4.symm;exact x _ _ hm Q E λz hB h' tk U' G fl=>a _ _ rfl z hB h' tk U' (Mv.of_go G) (D.go S G) fl
  | ok v=>exact x _ _ hm Q E λb h' tk U' G r=>k v b h' tk U' J1 G r e
theorem Agj{α β:Type}{m:M α}{g:α->M β}{f:β->X}:(X.of m Y λx=>X.of (g x) Y f)=X.of (m.bnd g) Y f:=by
 funext J
 unfold X.of M.bnd
 cases m J with
 | none=>rfl
 | some q=>obtain ⟨q,τ⟩:=q;cases q <;> rfl
theorem XAt.thn{m:X}{t:Sem Flow}{f:Fl->Ae->X}(x:XAt Z own env rs m t s U J)(e:X.thn m f J=some (r,Y',J'))(a:Se Z own env rs s U J r Y' J' E)
 (k:∀ fl fv h' tk U' Y1 J1,Mv Z own own s.heap U J h' U' J1->Ag (Z.sub own) env rs h' U' J1 Y1->FlR h' (Vt (own++Z.fr) U' J1) U' fv fl->f fl Y1 J1=some (r,Y',J')->Q fv { s with heap:=h',toks:=tk}):wpAny Z.M Z.A t Q E s:=by
 unfold X.thn at e
 cases hm:m J with
 | none=>rw [hm] at e;exact nns e
 | some q=>
  obtain ⟨q,Y1,J1⟩:=q;rw [hm] at e
  induction q using Except.casesOn with
  | error y=>
   refine spE e λcc1 cc2=>?_;clear e;subst cc1;refine prE cc2 λcc3 cc4=>?_;clear cc2;obtain rfl:=cc3.symm;obtain rfl:=cc4.symm;exact x _ _ _ hm Q E λz hB h' tk U' G D fl=>a _ _ rfl z hB h' tk U' G D fl
  | ok fl=>exact x _ _ _ hm Q E λfv h' tk U' G D r=>k fl fv h' tk U' Y1 J1 G D r e
theorem Ob{m:X}(e:X.still m J=some (r,Y',J')):∃ fl,r=.ok fl/\m J=some (.ok fl,Y',J'):=by
 unfold X.still at e
 cases hm:m J with
 | none=>rw [hm] at e;exact nns e
 | some q=>
  obtain ⟨q,τ⟩:=q;rw [hm] at e
  induction q using Except.casesOn with
  | error _=>exact nns e
  | ok fl=>refine spE e λcc1 cc2=>?_;clear e;subst cc1;subst cc2;exact⟨fl,rfl,rfl⟩
structure Xh(C:Cx)(P:Bi)(n lv:Nat)(Z:Zt)(own:List Addr)(env:Env)(rs:Rs):Prop where
 ih:∀ Y,Ih C P n lv (Z.sub own) env rs Y
 use:∀ Y,Aan C P n lv (Z.sub own) env rs Y
 it:∀ (Y:Ae) (d:Nat) (iter:PySem.Expr) {s:Shared} {U:List Addr} {J:Sto},(Z.sub own).I s.heap U J->Ag (Z.sub own) env rs s.heap U J Y->Iw (Z.sub own) (itA P n lv Y (cI C d rs iter)) iter env s U J
 ex:∀ (d:Nat) (st:Stmt) (Y:Ae) {s:Shared} {U:List Addr} {J:Sto},(Z.sub own).I s.heap U J->Ag (Z.sub own) env rs s.heap U J Y->XAt Z own env rs (exA P n lv Y (cS C d rs st)) (exec st env) s U J
 exs:∀ (d:Nat) (sts:List Stmt) (Y:Ae) {s:Shared} {U:List Addr} {J:Sto},(Z.sub own).I s.heap U J->Ag (Z.sub own) env rs s.heap U J Y->XAt Z own env rs (Fg P n lv Y (cSs C d rs sts)) (execs sts env) s U J
theorem App{x:Str}{i:Nat}{v:Value}{a:AV}{Q':Unit->Shared->Prop}(O:Cd Z own env rs)(S:Am (Z.sub own) C.G env rs)(I:(Z.sub own).I s.heap U J)(D:Ag (Z.sub own) env rs s.heap U J Y)(hx:rs x=.var i\/rs x=.cvar i)(R:VRel s.heap ((Z.sub own).V U J) U v a)
 (k:∀ h' tk,Mv Z own own s.heap U J h' U J->Ag (Z.sub own) env rs h' U J (put Y i a)->Q' () { s with heap:=h',toks:=tk}):wpAny Z.M Z.A (storeName env x v) Q' E s:=
 Jz S I O.dj D (O.var hx λ_ h=>h) R λh' tk mv _ D'=>k h' tk mv D'
theorem Agk(H:Xh C P n lv Z own env rs)(I:(Z.sub own).I s.heap U J)(D:Ag (Z.sub own) env rs s.heap U J Y):∀ (d:Nat) (sts:List Stmt),XAt Z own env rs (Fg P (n+1) lv Y (cSs C d rs sts)) (execs sts env) s U J
 | 0,sts=>.none (by show X.thn (exA P n lv Y .stuck) _ J=none;unfold X.thn;cases n <;> rfl)
 | d+1,[]=>λr Y' J' e Q E a=>by
  refine spE e λcc1 cc2=>?_;clear e;subst cc1;refine prE cc2 λcc3 cc4=>?_;clear cc2;subst cc3;subst cc4;exact wpAny_execs_nil (a .next s.heap s.toks U (.refl I) D .nxt)
 | d+1,st::sts=>λr Y' J' e Q E a=>by
  refine dF ((H.ex d st Y I D).thn (show X.thn (exA P n lv Y (cS C d rs st)) _ J=_ from e) a.err λfl fv h' tk U' Y1 J1 mv D' fr e'=>?_)
  induction fr using FlR.casesOn with
  | nxt=>exact H.exs d sts Y1 (s:={ s with heap:=h',toks:=tk}) mv.inv D' _ _ _ e' _ _ (a.go mv)
  | brk=>refine spE e' λcc1 cc2=>?_;clear e';subst cc1;refine prE cc2 λcc3 cc4=>?_;clear cc2;obtain rfl:=cc3.symm;obtain rfl:=cc4.symm;exact a.go (tk:=tk) mv _ h' tk U' (.refl mv.inv) D' .brk
  | cnt=>refine spE e' λcc1 cc2=>?_;clear e';subst cc1;refine prE cc2 λcc3 cc4=>?_;clear cc2;obtain rfl:=cc3.symm;obtain rfl:=cc4.symm;exact a.go (tk:=tk) mv _ h' tk U' (.refl mv.inv) D' .cnt
  | ret rv=>refine spE e' λcc1 cc2=>?_;clear e';subst cc1;refine prE cc2 λcc3 cc4=>?_;clear cc2;obtain rfl:=cc3.symm;obtain rfl:=cc4.symm;exact a.go (tk:=tk) mv _ h' tk U' (.refl mv.inv) D' (.ret rv)
theorem Mv.lift(mv:Mv (Z.sub own) as bs h U J h' U' J'):Mv Z (as++own) (bs++own) h U J h' U' J':=by
 refine⟨?_,?_,λa ha=>mv.fk a (aI _ ha)⟩
 . have:=mv.inv;have e:(bs++own)++Z.fr=bs++(own++Z.fr):=bC ..;show Ivt _ _ _ _ ((bs++own)++Z.fr) _ _;rw [e];exact this
 . have:=mv.on;rw [bC,bC];exact this
theorem Xx(L:Z.Lv lv)(H:Xh C P n lv Z own env rs)(O:Cd Z own env rs)(S:Am (Z.sub own) C.G env rs)(I:(Z.sub own).I s.heap U J)(D:Ag (Z.sub own) env rs s.heap U J Y){x:Str}{p pos:Pos}{e:PySem.Expr}{i:Nat}(hx:rs x=.var i\/rs x=.cvar i) :
 XAt Z own env rs (exA P (n+1) lv Y (.ass (.var i) (cE C d rs e))) (exec (.Assign [.Name x p] e pos) env) s U J:=by
 intro r Y' J' e0 Q E a;have e0':X.of (evA P n lv Y (cE C d rs e)) Y (λv=>X.ret .nxt (put Y i v)) J=some (r,Y',J'):=e0;have plain:swapsWith e (some (.Name x p)) pos.line env=pure false->wpAny Z.M Z.A (exec (.Assign [.Name x p] e pos) env) Q E s:=λhsw=>by
  refine wpAny_Assign_Name (At.x S ((H.ih Y).ev d e I D) D e0' a.err λxv v h1 tk1 μ1 σ1 G1 R1 e1=>?_) hsw;refine spE e1 λcc1 cc2=>?_;clear e1;subst cc1;refine prE cc2 λcc3 cc4=>?_;clear cc2;subst cc3;obtain rfl:=cc4.symm;exact App (s:={ s with heap:=h1,toks:=tk1}) O S G1.inv (D.go S G1) hx R1 λh' tk mv D'=>a .next h' tk μ1 ((Mv.of_go G1).trans mv) D' .nxt
 have hstuck:cE C d rs e=.stuck->wpAny Z.M Z.A (exec (.Assign [.Name x p] e pos) env) Q E s:=λh=>by
  rw [h] at e0';unfold X.of at e0';rw [Au] at e0';exact nns e0'
 induction e using PySem.Expr.casesOn with
 | ListComp elt gens sc lp=>
  cases hb:(env.blockKind == .function&&env.kindOf x == some .local&&p.line == (PySem.Expr.ListComp elt gens sc lp).pos.line&&!(sc.names.any λ(n,k)=>n == x&&(k == .local||k == .cell))) with
  | false=>exact plain (by show (pure _:Sem Bool)=_;rw [hb])
  | true=>
   rw [exec_Assign_Name_used _ _ _ _ (by show (pure _:Sem Bool)=_;rw [hb])];refine aA (dO (aA ?_));show wpAny _ Z.A (do let _ <- comprehension (.ListComp elt gens sc lp) sc env (firstIterPos gens lp) (newList []) (firstAsync gens) (firstIter gens env) (some (assign (.Name x p) env))) _ _ s;unfold X.of at e0'
   cases he:evA P n lv Y (cE C d rs (.ListComp elt gens sc lp)) J with
   | none=>rw [he] at e0';exact nns e0'
   | some q=>
    obtain ⟨q,σ1⟩:=q;rw [he] at e0';refine aA (cC (H.use Y d elt gens sc lp (assign (.Name x p) env) I D q σ1 he (λ_ s'=>Q .next s') E ?_ ?_) (λ_ s' hq=>aH (aH hq)) λ_ _ y=>y)
    . intro m hm;subst hm;refine spE e0' λcc1 cc2=>?_;clear e0';subst cc1;refine prE cc2 λcc3 cc4=>?_;clear cc2;subst cc3;obtain rfl:=cc4.symm;exact λz hB h' tk U' G fl=>a z hB h' tk U' (Mv.of_go G) (D.go S G) fl
    . intro av hq v Ca h' tk μ1 mv hCf hm rv;subst hq;refine spE e0' λcc1 cc2=>?_;clear e0';subst cc1;refine prE cc2 λcc3 cc4=>?_;clear cc2;subst cc3;obtain rfl:=cc4.symm;have hCo:Ca∉own:=λq=>hCf (aG _ q);have hCz:Ca∉Z.fr:=λq=>hCf (aI _ q);have mvl:Mv Z own ([Ca]++own) s.heap U J h' μ1 J':=mv.lift;have D1:Ag (Z.sub ([Ca]++own)) env rs h' μ1 J' Y:=Ag.mv (Z:=Z.sub own) S (Ag.sub0 (Z:=Z.sub own) D) mv;have dj:∀ a∈[Ca]++own,a∉Z.fr:=λa ha=>(aZ.mp ha).elim (λq=>by rw [aQ.mp q];exact hCz) (O.dj a);refine wpAny_assign_Name (Jz (Z:=Z) (s:={ s with heap:=h',toks:=tk}) (as:=[Ca]++own) (G:=C.G) (Xw (Z:=Z) (own:=own) (C:=C) (ps:=[Ca]) S) mvl.inv dj D1 (O.var hx λ_ h=>aI _ h) rv λh2 tk2 mv2 hk2 D2=>?_);refine e42 hm λmm o es ep ho rr=>?_;clear hm;refine⟨mm,⟨o,es,ep,hk2 Ca o (λq=>hCo (q▸O.loc)) (λy c hc q=>hCo (q▸O.cells y c hc)) ho,rr⟩,λh3 sb=>?_⟩;have m3:Mv Z ([Ca]++own) own h2 μ1 J' h3 μ1 J':=Mv.outTo mv2.inv dj (λb hb=>aI _ hb) λb o hb eo=>sb.extBut b o (λq=>by
       subst q;exact hb.elim (λh=>h (by simp)) hCo) eo
      have D3:Ag (Z.sub own) env rs h3 μ1 J' (put Y i av):=D2.spin (ps:=[Ca]) (Xw (Z:=Z) (own:=own) (C:=C) (ps:=[Ca]) S) mv2.inv m3 (λb o n _ e=>sb.extBut b o (by simpa using n) e) (by simpa using λq:env.locals=Ca=>hCo (q▸O.loc)) (λy c hc=>by simpa using λq:c=Ca=>hCo (q▸O.cells y c hc)) λe he L hL=>by
       obtain ⟨_,L',q1,q2⟩:=S.outs e he;rw [q1] at hL;refine snE hL λcc1=>?_;clear hL;obtain rfl:=cc1.symm;simpa using λq:L=Ca=>hCf (q▸q2)
      exact a .next h3 tk2 μ1 ((mvl.trans mv2).trans m3) D3 .nxt
 | SetComp _ _ _ _=>exact hstuck (by cases d <;> rfl)
 | DictComp _ _ _ _ _=>exact hstuck (by cases d <;> rfl)
 | _=>exact plain rfl
theorem Vc{xs:List AV}{n:Nat}(h:xs.length=n):Ms n (.tup xs)=M.ret xs:=if_pos h
theorem Agl{n:Nat}{v:AV}{f:List AV->X}{r:XR}(e:X.of (Ms n v) Y f J=some r):∃ xs,v=.tup xs/\xs.length=n/\f xs J=some r:=by
 induction v using AV.casesOn with
 | tup xs=>
  by_cases h:xs.length=n
  . rw [Vc h] at e;exact⟨xs,rfl,h,e⟩
  . rw [show Ms n (.tup xs)=M.fail from if_neg h] at e;exact nns e
 | _=>exact nns e
theorem Adj{Y:Ae}{is:List Nat}{vs:List AV}{J:Sto}(h:2<=is.length)(hl:vs.length=is.length):Jh Y is (.tup vs) J=some (.ok (Ev Y is vs),J):=by
 refine Nu h λi j r zz=>?_;subst zz;exact congrFun (aJ (λm:Ik.Internal.M (List AV)=>m.bnd λvs=>M.ret (Ev Y (i::j::r) vs)) (Vc hl)) J
theorem Adk(L:Z.Lv lv)(H:Xh C P n lv Z own env rs)(O:Cd Z own env rs)(S:Am (Z.sub own) C.G env rs)(I:(Z.sub own).I s.heap U J)(D:Ag (Z.sub own) env rs s.heap U J Y){es:List PySem.Expr}{k:Nat}{p pos:Pos}{e:PySem.Expr}{is:List Nat}(h2:2<=es.length)(ht:Ed rs es=some is)(hne:∀ es k p,e≠.Tuple es k p) :
 XAt Z own env rs (exA P (n+1) lv Y (.ass (.tup is) (cE C d rs e))) (exec (.Assign [.Tuple es k p] e pos) env) s U J:=by
 intro r Y' J' e0 Q E a;have e0':X.of (evA P n lv Y (cE C d rs e)) Y (λv=>X.of (Ms is.length v) Y λvs=>X.ret .nxt (Ev Y is vs)) J=some (r,Y',J'):=e0;have hs:swapsWithSole [.Tuple es k p] e pos.line env=pure false:=by cases e <;> rfl
 have hw:swappedStores [.Tuple es k p] e env=pure none:=by cases e <;> first | rfl | exact absurd rfl (hne _ _ _)
 refine Assign_Tuple (At.x S ((H.ih Y).ev d e I D) D e0' a.err λxv v h1 tk1 μ1 σ1 G1 R1 e1=>?_) hs hw;refine e13 (Agl e1) λvs zz1 hl e2=>?_;subst zz1;refine spE e2 λcc1 cc2=>?_;clear e2;subst cc1;refine prE cc2 λcc3 cc4=>?_;clear cc2;subst cc3;obtain rfl:=cc4.symm;have ht1:El rs (.Tuple es k p)=some is:=by show (if 2<=es.length then Ed rs es else none)=_;rw [if_pos h2];exact ht
 have hl2:2<=is.length:=by rw [Lq ht];exact h2
 refine e13 (Sd (s:={ s with heap:=h1,toks:=tk1}) (Q:=λ_ s'=>Q .next s') (E:=E) L.hand S G1.inv O.dj (D.go S G1) (O.t λ_ h=>h) ht1 R1 (Adj hl2 hl)) λY2 hq _ go=>?_;refine okE hq λcc1=>?_;clear hq;subst cc1;exact go λh2 tk2 mv hk D2=>a .next h2 tk2 μ1 ((Mv.of_go G1).trans mv) D2 .nxt
theorem Adl(H:Xh C P n lv Z own env rs)(S:Am (Z.sub own) C.G env rs)(I:(Z.sub own).I s.heap U J)(D:Ag (Z.sub own) env rs s.heap U J Y){o i e:PySem.Expr}{p pos:Pos} :
 XAt Z own env rs (exA P (n+1) lv Y (.ass (.idx (cE C d rs o) (cE C d rs i)) (cE C d rs e))) (exec (.Assign [.Subscript o i p] e pos) env) s U J:=by
 intro r Y' J' e0 Q E a;have e0':X.of (evA P n lv Y (cE C d rs e)) Y (λv=>X.of (evA P n lv Y (cE C d rs o)) Y λov=>X.of (evA P n lv Y (cE C d rs i)) Y λiv=>X.of (Gb ov iv v) Y λ_=>X.ret .nxt Y) J=some (r,Y',J'):=e0;refine wpAny_Assign_Subscript (At.x S ((H.ih Y).ev d e I D) D e0' a.err λxv v h1 tk1 μ1 σ1 G1 R1 e1=>?_) (by cases e <;> rfl)
 have D1:=D.go S G1;have a1:=a.go (tk:=tk1) (Mv.of_go G1);refine At.x (s:={ s with heap:=h1,toks:=tk1}) S ((H.ih Y).ev d o G1.inv D1) D1 e1 a1.err λov ow h2 tk2 μ2 σ2 G2 R2 e2=>?_;have D2:=D1.go S G2;have a2:=Pf.go (s:={ s with heap:=h1,toks:=tk1}) (tk:=tk2) (Mv.of_go G2) a1;refine At.x (s:={ s with heap:=h2,toks:=tk2}) S ((H.ih Y).ev d i G2.inv D2) D2 e2 a2.err λiv iw h3 tk3 U3 J3 G3 R3 e3=>?_;have D3:=D2.go S G3;have a3:=Pf.go (s:={ s with heap:=h2,toks:=tk2}) (tk:=tk3) (Mv.of_go G3) a2;refine At.x (s:={ s with heap:=h3,toks:=tk3}) S (Ace (s:={ s with heap:=h3,toks:=tk3}) G3.inv (R2.on G3.on) R3 ((R1.on G2.on).on G3.on)) D3 e3 a3.err λu uw h4 tk4 U4 J4 G4 R4 e4=>?_;refine spE e4 λcc1 cc2=>?_;clear e4;subst cc1;refine prE cc2 λcc3 cc4=>?_;clear cc2;subst cc3;obtain rfl:=cc4.symm;exact Pf.go (s:={ s with heap:=h3,toks:=tk3}) (tk:=tk4) (Mv.of_go G4) a3 .next h4 tk4 U4 (.refl G4.inv) (D3.go S G4) .nxt
theorem Avu(H:Xh C P n lv Z own env rs)(O:Cd Z own env rs)(S:Am (Z.sub own) C.G env rs)(I:(Z.sub own).I s.heap U J)(D:Ag (Z.sub own) env rs s.heap U J Y){x:Str}{p pos:Pos}{e:PySem.Expr}{i:Nat}{o:Operator}{op:Bin}(hx:rs x=.var i\/rs x=.cvar i)(ho:Aeo o=some op) :
 XAt Z own env rs (exA P (n+1) lv Y (.aug i op (cE C d rs e))) (exec (.AugAssign (.Name x p) o e pos) env) s U J:=by
 intro r Y' J' e0 Q E a;have e0':X.of (M.ofOpt (Y i)) Y (λx=>X.of (evA P n lv Y (cE C d rs e)) Y λy=>X.of (Vz op x y) Y λz=>X.ret .nxt (put Y i z)) J=some (r,Y',J'):=e0
 cases hi:Y i with
 | none=>rw [hi] at e0';exact nns e0'
 | some av=>
  rw [hi] at e0';have e1:X.of (evA P n lv Y (cE C d rs e)) Y (λy=>X.of (Vz op av y) Y λz=>X.ret .nxt (put Y i z)) J=some (r,Y',J'):=e0';refine e12 (Rq S I D hx hi) λv rv ld=>?_;rw [Afk ho];refine wpAny_AugAssign_Name (ld ?_);refine At.x S ((H.ih Y).ev d e I D) D e1 a.err λyv yw h1 tk1 μ1 σ1 G1 R1 e2=>?_;have D1:=D.go S G1;have a1:=a.go (tk:=tk1) (Mv.of_go G1);refine At.x (s:={ s with heap:=h1,toks:=tk1}) S (Arf (s:={ s with heap:=h1,toks:=tk1}) G1.inv op (rv.on G1.on) R1) D1 e2 a1.err λzv zw h2 tk2 μ2 σ2 G2 R2 e3=>?_;refine spE e3 λcc1 cc2=>?_;clear e3;subst cc1;refine prE cc2 λcc3 cc4=>?_;clear cc2;subst cc3;obtain rfl:=cc4.symm;exact App (s:={ s with heap:=h2,toks:=tk2}) O S G2.inv (D1.go S G2) hx R2 λh' tk mv D'=>a .next h' tk μ2 (((Mv.of_go G1).trans (Mv.of_go G2)).trans mv) D' .nxt
theorem Asd(H:Xh C P n lv Z own env rs)(S:Am (Z.sub own) C.G env rs)(I:(Z.sub own).I s.heap U J)(D:Ag (Z.sub own) env rs s.heap U J Y){f:PySem.Expr}{as:List PySem.Expr}{kw:List Keyword}{p pos:Pos} :
 XAt Z own env rs (exA P (n+1) lv Y (.expr (cE C d rs (.Call f as kw p)))) (exec (.Expr (.Call f as kw p) pos) env) s U J:=by
 intro r Y' J' e0 Q E a;have e0':X.of (evA P n lv Y (cE C d rs (.Call f as kw p))) Y (λ_=>X.ret .nxt Y) J=some (r,Y',J'):=e0;refine wpAny_Expr_any (At.x S ((H.ih Y).ev d _ I D) D e0' a.err λxv v h1 tk1 μ1 σ1 G1 R1 e1=>?_) (by unfold interactive;rw [S.kind];rfl);refine spE e1 λcc1 cc2=>?_;clear e1;subst cc1;refine prE cc2 λcc3 cc4=>?_;clear cc2;subst cc3;obtain rfl:=cc4.symm;exact a .next h1 tk1 μ1 (Mv.of_go G1) (D.go S G1) .nxt
theorem Avv(H:Xh C P n lv Z own env rs)(S:Am (Z.sub own) C.G env rs)(I:(Z.sub own).I s.heap U J)(D:Ag (Z.sub own) env rs s.heap U J Y){e:PySem.Expr}{pos:Pos} :
 XAt Z own env rs (exA P (n+1) lv Y (.ret (cE C d rs e))) (exec (.Return (some e) pos) env) s U J:=by
 intro r Y' J' e0 Q E a;have e0':X.of (evA P n lv Y (cE C d rs e)) Y (λv=>X.ret (.ret v) Y) J=some (r,Y',J'):=e0;refine wpAny_Return_some (At.x S ((H.ih Y).ev d _ I D) D e0' a.err λxv v h1 tk1 μ1 σ1 G1 R1 e1=>?_);refine spE e1 λcc1 cc2=>?_;clear e1;subst cc1;refine prE cc2 λcc3 cc4=>?_;clear cc2;subst cc3;obtain rfl:=cc4.symm;exact a (.ret v) h1 tk1 μ1 (Mv.of_go G1) (D.go S G1) (.ret R1)
theorem Ayl(H:Xh C P n lv Z own env rs)(S:Am (Z.sub own) C.G env rs)(I:(Z.sub own).I s.heap U J)(D:Ag (Z.sub own) env rs s.heap U J Y){c:PySem.Expr}{b el:List Stmt}{pos:Pos} :
 XAt Z own env rs (exA P (n+1) lv Y (.ite (cE C d rs c) (cSs C d rs b) (cSs C d rs el))) (exec (.If c b el pos) env) s U J:=by
 intro r Y' J' e0 Q E a;have e0':X.of ((evA P n lv Y (cE C d rs c)).bnd Ac) Y (λt=>if t then Fg P n lv Y (cSs C d rs b) else Fg P n lv Y (cSs C d rs el)) J=some (r,Y',J'):=by rw [<- Agj];exact e0
 refine wpAny_If (At.x S ((H.ih Y).tr d c I D) D e0' a.err λt tv h1 tk1 μ1 σ1 G1 R1 e1=>?_);obtain rfl:=R1.symm;have a1:=a.go (tk:=tk1) (Mv.of_go G1)
 induction t using Bool.casesOn with
 | true=>exact H.exs d b Y (s:={ s with heap:=h1,toks:=tk1}) G1.inv (D.go S G1) _ _ _ e1 _ _ a1
 | false=>exact H.exs d el Y (s:={ s with heap:=h1,toks:=tk1}) G1.inv (D.go S G1) _ _ _ e1 _ _ a1
theorem Ase(H:Xh C P n lv Z own env rs)(S:Am (Z.sub own) C.G env rs)(I:(Z.sub own).I s.heap U J)(D:Ag (Z.sub own) env rs s.heap U J Y){c:PySem.Expr}{pos:Pos} :
 XAt Z own env rs (exA P (n+1) lv Y (.asrt (cE C d rs c))) (exec (.Assert c Option.none pos) env) s U J:=by
 intro r Y' J' e0 Q E a;have e0':X.of ((evA P n lv Y (cE C d rs c)).bnd Ac) Y (λt=>if t then X.ret .nxt Y else X.fail) J=some (r,Y',J'):=by rw [<- Agj];exact e0
 refine wpAny_Assert_holds (At.x S ((H.ih Y).tr d c I D) D e0' a.err λt tv h1 tk1 μ1 σ1 G1 R1 e1=>?_);obtain rfl:=R1.symm
 induction t using Bool.casesOn with
 | true=>refine spE e1 λcc1 cc2=>?_;clear e1;subst cc1;refine prE cc2 λcc3 cc4=>?_;clear cc2;subst cc3;obtain rfl:=cc4.symm;exact⟨rfl,a .next h1 tk1 μ1 (Mv.of_go G1) (D.go S G1) .nxt⟩
 | false=>exact nns e1
theorem Asf(H:Xh C P n lv Z own env rs)(I:(Z.sub own).I s.heap U J)(D:Ag (Z.sub own) env rs s.heap U J Y){b el:List Stmt}{hd:ExceptHandler}{pos:Pos} :
 XAt Z own env rs (exA P (n+1) lv Y (.trye (cSs C d rs b) (cSs C d rs el))) (exec (.Try b [hd] el [] pos) env) s U J:=by
 intro r Y' J' e0 Q E a;have e0':X.thn (.still (Fg P n lv Y (cSs C d rs b))) (λfl Y'=>Akd Y' fl (Fg P n lv Y' (cSs C d rs el))) J=some (r,Y',J'):=e0;unfold X.thn at e0'
 cases hm:(X.still (Fg P n lv Y (cSs C d rs b))) J with
 | none=>rw [hm] at e0';exact nns e0'
 | some q=>
  obtain ⟨q,ρ1,σ1⟩:=q;refine e12 (Ob hm) λfl hq e2=>?_;subst hq;rw [hm] at e0';dsimp only at e0';refine wpAny_Try_except (H.exs d b Y I D _ _ _ e2 _ _ λfv h' tk μ1 mv D' fr=>?_)
  induction fr using FlR.casesOn with
  | nxt=>exact H.exs d el ρ1 (s:={ s with heap:=h',toks:=tk}) mv.inv D' _ _ _ e0' _ _ (a.go mv)
  | brk=>refine spE e0' λcc1 cc2=>?_;clear e0';subst cc1;refine prE cc2 λcc3 cc4=>?_;clear cc2;obtain rfl:=cc3.symm;obtain rfl:=cc4.symm;exact a .brk h' tk μ1 mv D' .brk
  | cnt=>refine spE e0' λcc1 cc2=>?_;clear e0';subst cc1;refine prE cc2 λcc3 cc4=>?_;clear cc2;obtain rfl:=cc3.symm;obtain rfl:=cc4.symm;exact a .cont h' tk μ1 mv D' .cnt
  | ret rv=>refine spE e0' λcc1 cc2=>?_;clear e0';subst cc1;refine prE cc2 λcc3 cc4=>?_;clear cc2;obtain rfl:=cc3.symm;obtain rfl:=cc4.symm;exact a _ h' tk μ1 mv D' (.ret rv)
theorem Agm{test:PySem.Expr}{body orelse:List Stmt}
 (turn:wpAny (model prog w) A (isTrue test env (eval test env)) (λb s2=>
  if b then wpAny (model prog w) A (execs body env) (λf s3=>match f with
   | .next | .cont=>codeAny (model prog w) A (.whileLoop test body orelse env) R s3
   | .brk=>R (.ok .next) s3
   | .ret v=>R (.ok (.ret v)) s3) (notedBy (model prog w) A env λe s'=>R (.error e) s') s2
  else wpAny (model prog w) A (execs orelse env) (λf s3=>R (.ok f) s3) (notedBy (model prog w) A env λe s'=>R (.error e) s') s2)
  (notedBy (model prog w) A env λe s'=>R (.error e) s') s) :
 codeAny (model prog w) A (.whileLoop test body orelse env) R s:=by
 refine codeAny_of_tree ?_;show wpAny _ A ((whileTurn test body orelse env).onRaise (λx=>do noteFrame x env;theTreesLotGoes x)) _ _ s;refine wpAny_noted ?_;simp only [whileTurn];refine aA (cC turn (λb s2 h2=>?_) λ_ _ h'=>h')
 induction b using Bool.casesOn with
 | false=>
  simp only [Bool.false_eq_true,if_false] at h2 ⊢;exact aA (cC h2 (λf s3 h3=>aH h3) λ_ _ h'=>h')
 | true=>
  simp only [if_true] at h2 ⊢;refine aA (cC h2 (λf s3 h3=>?_) λ_ _ h'=>h')
  induction f using PySem.Flow.casesOn with
  | next=>exact aH ⟨rfl,h3⟩
  | cont=>exact aH ⟨rfl,h3⟩
  | brk=>exact aH h3
  | ret v=>exact aH h3
theorem Agn{target:PySem.Expr}{it:Value}{body orelse:List Stmt}
 (turn:wpAny (model prog w) A (pyNext it) (λr s1=>match r with
  | none=>wpAny (model prog w) A (execs orelse env) (λf s3=>R (.ok f) s3) (notedBy (model prog w) A env λe s'=>R (.error e) s') s1
  | some v=>wpAny (model prog w) A (letOwnedTupleGo target it v) (λ_ s1'=>
   wpAny (model prog w) A (assign target env v) (λ_ s2=>wpAny (model prog w) A (execs body env) (λf s3=>match f with
    | .next | .cont=>codeAny (model prog w) A (.forLoop target it body orelse env) R s3
    | .brk=>R (.ok .next) s3
    | .ret v=>R (.ok (.ret v)) s3) (notedBy (model prog w) A env λe s'=>R (.error e) s') s2) (notedBy (model prog w) A env λe s'=>R (.error e) s') s1') (notedBy (model prog w) A env λe s'=>R (.error e) s') s1) (notedBy (model prog w) A env λe s'=>R (.error e) s') s) :
 codeAny (model prog w) A (.forLoop target it body orelse env) R s:=by
 refine codeAny_of_tree ?_;show wpAny _ A ((forTurn target it body orelse env).onRaise (λx=>do noteFrame x env;theTreesLotGoes x)) _ _ s;refine wpAny_noted ?_;simp only [forTurn];refine aA (dO (aA (wpAny_onRaise (cC turn (λr s1 h1=>?_) λ_ _ h'=>dO h'))))
 induction r using Option.casesOn with
 | none=>exact aH ⟨rfl,codeAny_block h1⟩
 | some v=>
  refine aA (cC h1 (λ_ s1' h1'=>?_) λ_ _ h'=>h');refine aA (cC h1' (λ_ s2 h2=>aA (cC h2 (λf s3 h3=>?_) λ_ _ h'=>h')) λ_ _ h'=>h')
  induction f using PySem.Flow.casesOn with
  | next=>exact aH ⟨rfl,h3⟩
  | cont=>exact aH ⟨rfl,h3⟩
  | brk=>exact aH h3
  | ret v=>exact aH h3
end
section
variable{C:Cx}{P:Bi}{n lv d tk:Nat}{Z:Zt}{own as bs ps U U':List Addr}{env:Env}{rs:Rs}{Y Y' Y1:Ae}{s:Shared}{J J' J1:Sto}{r:Except (Bool×Str) Fl}{Q:Flow->Shared->Prop}{E:Value->Shared->Prop}{h h' hB:Heap}{x:Value}{m:Str}
theorem Ago{Q:Unit->Shared->Prop}(O:Cd Z own env rs)(hA:Z.A.frames=some Z.envs)(F:Fly Z.envs hB s.heap x m)(k:∀ h',Amk env Z.envs hB h' x m->Q () { s with heap:=h'}):wpAny Z.M Z.A (noteFrame x env) Q E s:=by
 obtain ⟨outer,ho⟩:=O.envs;obtain ⟨e,t,tk,rfl,hfl,ht,n1,n2,up,hl⟩:=F;rw [ho] at hA;have hfl':Heap.FlyingW (hideAll hB (frames Z.envs)) (env::outer) e (.type "ValueError") (.ref t) s.heap:=ho▸hfl;exact wpAny_looks_onW hA O.frame hfl' λh' held up'=>k h' ⟨e,t,tk,rfl,ho▸held,ht.of_slots up',n1,n2,up.trans up',hl⟩
noncomputable def Xy(Z:Zt)(own:List Addr)(env:Env)(rs:Rs)(s:Shared)(U:List Addr)(J:Sto)(r:Except (Bool×Str) Fl)(Y':Ae)(J':Sto)(R:Result->Shared->Prop):Prop:=match r with
 | .ok fl=>∀ f h' tk U',Mv Z own own s.heap U J h' U' J'->Ag (Z.sub own) env rs h' U' J' Y'->FlR h' (Vt (own++Z.fr) U' J') U' f fl->R (.ok f) { s with heap:=h',toks:=tk}
 | .error (false,m)=>∀ x hB h' tk U',Mv Z own own s.heap U J hB U' J'->Ag (Z.sub own) env rs hB U' J' Y'->Amk env Z.envs hB h' x m->R (.error x) { s with heap:=h',toks:=tk}
 | .error (true,_)=>False
theorem Xy.go{R:Result->Shared->Prop}(x:Mv Z own own s.heap U J h' U' J1)(a:Xy Z own env rs s U J r Y' J' R):Xy Z own env rs { s with heap:=h',toks:=tk} U' J1 r Y' J' R:=by
 match r,a with
 | .ok fl,a=>exact λf h2 tk2 U2 G D r=>a f h2 tk2 U2 (x.trans G) D r
 | .error (false,m),a=>exact λb hB h2 tk2 U2 G D r=>a b hB h2 tk2 U2 (x.trans G) D r
 | .error (true,m),a=>exact a
theorem Xy.err{R:Result->Shared->Prop}(O:Cd Z own env rs)(hA:Z.A.frames=some Z.envs)(a:Xy Z own env rs s U J r Y' J' R):Se Z own env rs s U J r Y' J' (notedBy Z.M Z.A env λe s'=>R (.error e) s'):=by
 intro b m e x hB h' tk U' G D f;subst e
 induction b using Bool.casesOn with
 | true=>exact a.elim
 | false=>exact Ago (s:={ s with heap:=h',toks:=tk}) O hA f λh'' fh=>a x hB h'' tk U' G D fh
noncomputable def Py(C:Cx)(P:Bi)(n lv:Nat)(Z:Zt)(own:List Addr)(env:Env)(rs:Rs):Prop:=
 ∀ (d:Nat) (c:PySem.Expr) (b:List Stmt) (Y:Ae) {s:Shared} {U:List Addr} {J:Sto},(Z.sub own).I s.heap U J->Ag (Z.sub own) env rs s.heap U J Y->∀ r Y' J',Tw P n lv Y (cE C d rs c) (cSs C d rs b) J=some (r,Y',J')->
  ∀ R,Xy Z own env rs s U J r Y' J' R->codeAny Z.M Z.A (.whileLoop c b [] env) R s
theorem Agp(hA:Z.A.frames=some Z.envs)(H:Xh C P n lv Z own env rs)(W:Py C P n lv Z own env rs)(O:Cd Z own env rs)(S:Am (Z.sub own) C.G env rs):Py C P (n+1) lv Z own env rs:=by
 intro d c b Y s U J I D r Y' J' e R a
 have e':X.of ((evA P n lv Y (cE C d rs c)).bnd Ac) Y (λt=>if t then X.thn (Fg P n lv Y (cSs C d rs b)) (λfl Y'=>match fl with
  | .nxt | .cnt=>Tw P n lv Y' (cE C d rs c) (cSs C d rs b)
  | .brk=>.ret .nxt Y'
  | .ret v=>.ret (.ret v) Y') else .ret .nxt Y) J=some (r,Y',J'):=by rw [<- Agj];exact e
 refine Agm (At.x S ((H.ih Y).tr d c I D) D e' (a.err O hA) λt tv h1 tk1 μ1 σ1 G1 R1 e1=>?_);obtain rfl:=R1.symm;have D1:=D.go S G1;have a1:=a.go (tk:=tk1) (Mv.of_go G1)
 induction t using Bool.casesOn with
 | false=>
  refine spE e1 λcc1 cc2=>?_;clear e1;subst cc1;refine prE cc2 λcc3 cc4=>?_;clear cc2;subst cc3;obtain rfl:=cc4.symm;exact wpAny_execs_nil (a .next h1 tk1 μ1 (Mv.of_go G1) D1 .nxt)
 | true=>
  refine (H.exs d b Y (s:={ s with heap:=h1,toks:=tk1}) G1.inv D1).thn e1 (a1.err O hA) λfl fv h2 tk2 μ2 Y2 σ2 mv D2 fr e2=>?_;have a2:=Xy.go (s:={ s with heap:=h1,toks:=tk1}) (tk:=tk2) mv a1
  induction fr using FlR.casesOn with
  | nxt=>exact W d c b Y2 (s:={ s with heap:=h2,toks:=tk2}) mv.inv D2 r Y' J' e2 R a2
  | cnt=>exact W d c b Y2 (s:={ s with heap:=h2,toks:=tk2}) mv.inv D2 r Y' J' e2 R a2
  | brk=>refine spE e2 λcc1 cc2=>?_;clear e2;subst cc1;refine prE cc2 λcc3 cc4=>?_;clear cc2;obtain rfl:=cc3.symm;obtain rfl:=cc4.symm;exact a2 .next h2 tk2 μ2 (.refl mv.inv) D2 .nxt
  | ret rv=>refine spE e2 λcc1 cc2=>?_;clear e2;subst cc1;refine prE cc2 λcc3 cc4=>?_;clear cc2;obtain rfl:=cc3.symm;obtain rfl:=cc4.symm;exact a2 _ h2 tk2 μ2 (.refl mv.inv) D2 (.ret rv)
theorem Avw(W:Py C P n lv Z own env rs)(I:(Z.sub own).I s.heap U J)(D:Ag (Z.sub own) env rs s.heap U J Y){c:PySem.Expr}{b:List Stmt}{pos:Pos} :
 XAt Z own env rs (exA P (n+1) lv Y (.whl (cE C d rs c) (cSs C d rs b))) (exec (.While c b [] pos) env) s U J:=by
 intro r Y' J' e Q E a;refine e12 (Ob (show X.still (Tw P n lv Y (cE C d rs c) (cSs C d rs b)) J=_ from e)) λfl zz1 e1=>?_;subst zz1;exact wpAny_While (W d c b Y I D _ _ _ e1 _ λf h' tk U' mv D' fr=>a f h' tk U' mv D' fr)
noncomputable def Apq(C:Cx)(rs:Rs)(t:PySem.Expr)(T:IT)(ts:List Nat):Prop:=El rs t=some ts/\((∃ i,T=.var i/\ts=[i])\/T=.tup ts)
noncomputable def Vd(C:Cx)(P:Bi)(n lv:Nat)(Z:Zt)(own:List Addr)(env:Env)(rs:Rs):Prop:=
 ∀ {ps:List Addr} (d:Nat) (t:PySem.Expr) (T:IT) (ts:List Nat) (it:Value) (src:Src) (b:List Stmt) (Y:Ae) {s:Shared} {U:List Addr} {J:Sto},Apq C rs t T ts->isZip src=false->(∀ a∈ps,a∉own)->(∀ a∈ps,a∉Z.fr)->(Z.sub (ps++own)).I s.heap U J->Ag (Z.sub (ps++own)) env rs s.heap U J Y->SrcRel Z (ps++own) s.heap U J ps it src->
  ∀ fl Y' J',Abz P n lv Y T (cSs C d rs b) src J=some (.ok fl,Y',J')->
  ∀ R,(∀ f h' tk U',Mv Z (ps++own) own s.heap U J h' U' J'->Ag (Z.sub own) env rs h' U' J' Y'->FlR h' (Vt (own++Z.fr) U' J') U' f fl->R (.ok f) { s with heap:=h',toks:=tk})->codeAny Z.M Z.A (.forLoop t it b [] env) R s
theorem FlR.on{V V':Addr->Prop}(x:On h V U h' V' U'){f:Flow}{fl:Fl}(r:FlR h V U f fl):FlR h' V' U' f fl:=by
 induction r using FlR.casesOn with
 | nxt=>exact .nxt
 | brk=>exact .brk
 | cnt=>exact .cnt
 | ret v=>exact .ret (v.on x)
theorem Agq{α:Type}{m:M α}{f:α->X}{fl:Fl}(e:X.of m Y f J=some (.ok fl,Y',J')):∃ a J1,m J=some (.ok a,J1)/\f a J1=some (.ok fl,Y',J'):=by
 unfold X.of at e
 cases h:m J with
 | none=>rw [h] at e;exact nns e
 | some q=>
  obtain ⟨q,τ⟩:=q;rw [h] at e
  induction q using Except.casesOn with
  | error _=>refine spE e λcc1 cc2=>?_;clear e;exact neo cc1
  | ok a=>exact⟨a,τ,rfl,e⟩
theorem Asg{m:X}{f:Fl->Ae->X}{fl:Fl}(e:X.thn m f J=some (.ok fl,Y',J')):∃ f1 ρ1 J1,m J=some (.ok f1,ρ1,J1)/\f f1 ρ1 J1=some (.ok fl,Y',J'):=by
 unfold X.thn at e
 cases h:m J with
 | none=>rw [h] at e;exact nns e
 | some q=>
  obtain ⟨q,ρ1,τ⟩:=q;rw [h] at e
  induction q using Except.casesOn with
  | error _=>refine spE e λcc1 cc2=>?_;clear e;exact neo cc1
  | ok a=>exact⟨a,ρ1,τ,rfl,e⟩
theorem Agr(L:Z.Lv lv)(H:∀ {ps:List Addr},Cd (Z.sub ps) own env rs->Am ((Z.sub ps).sub own) C.G env rs->Xh C P n lv (Z.sub ps) own env rs)(W:Vd C P n lv Z own env rs)(O:Cd Z own env rs)(S:Am (Z.sub own) C.G env rs):Vd C P (n+1) lv Z own env rs:=by
 intro ps d t T ts it src b Y s U J ht hz ho hf I D sr fl Y' J' e R k;have dj:∀ a∈ps++own,a∉Z.fr:=λa ha=>(aZ.mp ha).elim (hf a) (O.dj a);have hs:∀ a∈ps,a∈ps++own:=λa ha=>aG _ ha;have Sw:=Xw (Z:=Z) (own:=own) (C:=C) (ps:=ps) S;have oLp:env.locals∉ps:=λq=>ho _ q O.loc;have oCp:∀ y c,env.cells.lookup y=some c->c∉ps:=λy c hc q=>ho _ q (O.cells y c hc);have oFp:∀ e∈Z.envs,∀ L,e.frame=some L->L∉ps:=λe he L hL q=>by
  obtain ⟨_,L',h1,h2⟩:=S.outs e he;rw [h1] at hL;refine snE hL λcc1=>?_;clear hL;obtain rfl:=cc1.symm;exact (aZ.mp h2).elim (ho _ q) (hf _ q)
 refine Agn ?_;refine e22 (Agq (show X.of (srcNext src) Y _ J=some (.ok fl,Y',J') from e)) λrr σ1 e1 e2=>?_;obtain ⟨rr',hq,go⟩:=Aak (target:=t) L.hand I dj hs sr (λq=>by rw [hz] at q;exact nft q) e1;refine okE hq λcc1=>?_;clear hq;subst cc1;refine go _ _ ?_
 induction rr using Option.casesOn with
 | none=>
  refine spE e2 λcc1 cc2=>?_;clear e2;refine okE cc1 λcc3=>?_;clear cc1;subst cc3;refine prE cc2 λcc4 cc5=>?_;clear cc2;subst cc4;obtain rfl:=cc5.symm;intro h' tk mv kp;have m1:=mv own λb hb=>⟨aI _ hb,λq=>ho b q hb⟩;exact wpAny_execs_nil (k .next h' tk U m1 (D.spin (bs:=own) Sw I m1 kp oLp oCp oFp) .nxt)
 | some xr=>
  obtain ⟨x,src'⟩:=xr;intro v h1 tk1 mv1 kp1 rx lg;refine lg _ _ λh2 tk2 mv2 kp2 r2=>?_;have m2:=mv1.trans mv2;have D2:Ag (Z.sub (ps++own)) env rs h2 U σ1 Y:=D.spin (ps:=ps) Sw I m2 (λb o n1 n2 e=>kp2 b o n1 (kp1 b o n1 n2 e)) oLp oCp oFp;refine e22 (Agq e2) λρ1 σ2 e3 e4=>?_;have e3':Jh Y ts x σ1=some (.ok ρ1,σ2):=by
   rcases ht.2 with ⟨i,rfl,rfl⟩ | rfl
   . exact e3
   . exact e3
  obtain ⟨Y2,hq,hσ,go2⟩:=Sd (Z:=Z) (s:={ s with heap:=h2,toks:=tk2}) (E:=notedBy Z.M Z.A env λe s'=>R (.error e) s') (Q:=λ_ s2=>wpAny Z.M Z.A (execs b env) (λf s3=>match f with
   | .next | .cont=>codeAny Z.M Z.A (.forLoop t it b [] env) R s3
   | .brk=>R (.ok .next) s3
   | .ret v=>R (.ok (.ret v)) s3) (notedBy Z.M Z.A env λe s'=>R (.error e) s') s2) L.hand Sw m2.inv dj D2 (O.t λ_ h=>aI _ h) ht.1 (rx.on mv2.on) e3'
  refine okE hq λcc1=>?_;clear hq;subst cc1;subst hσ;refine go2 λh3 tk3 mv3 hk3 D3=>?_;have r3:=r2.on mv3.on λa ha o e _ _=>hk3 a o (λq=>oLp (q▸ha)) (λy c hc q=>oCp y c hc (q▸ha)) e;have m3:=m2.trans mv3;refine e32 (Asg e4) λf1 Y3 J3 e5 e6=>?_;refine (H (ps:=ps) (O.sub λa ha q=>ho a q ha) (Ayk (C:=C) S)).exs d b ρ1 (s:={ s with heap:=h3,toks:=tk3}) (Ayi mv3.inv) (Ayj D3) _ _ _ e5 _ _ ?_;intro fv h4 tk4 U4 mv4 D4 fr;have m4:=Asc mv4;have r4:SrcRel Z (ps++own) h4 U4 J3 ps it src':=r3.on m4.on λa ha o e n1 n2=>(mv4.fk a (aG _ ha)).oth o e n1 n2;have D4':=Avt D4;have fin:∀ {f:Flow} {fl:Fl},FlR h4 (Vt (own++(ps++Z.fr)) U4 J3) U4 f fl->∃ m5:Mv Z (ps++own) own h4 U4 J3 h4 U4 J3,FlR h4 (Vt (own++Z.fr) U4 J3) U4 f fl:=λ{f fl} fr=>by
   have m5:Mv Z (ps++own) own h4 U4 J3 h4 U4 J3:=Mv.outTo m4.inv dj (λb hb=>aI _ hb) λ_ _ _ e=>e;rw [Oa] at fr;exact⟨m5,fr.on m5.on⟩
  have Dfin:Ag (Z.sub own) env rs h4 U4 J3 Y3:=by
   have m5:Mv Z (ps++own) own h4 U4 J3 h4 U4 J3:=Mv.outTo m4.inv dj (λb hb=>aI _ hb) λ_ _ _ e=>e;exact D4'.spin (ps:=[]) Sw m4.inv m5 (λ_ _ _ _ e=>e) (by simp) (λ_ _ _=>by simp) λ_ _ _ _=>by simp
  have again:Abz P n lv Y3 T (cSs C d rs b) src' J3=some (.ok fl,Y',J')->codeAny Z.M Z.A (.forLoop t it b [] env) R { s with heap:=h4,toks:=tk4}:=λe7=>
   W d t T ts it src' b Y3 (s:={ s with heap:=h4,toks:=tk4}) ht (by rw [Iy e1];exact hz) ho hf m4.inv D4' r4 fl Y' J' e7 R λf h' tk U' mv D' fr=>k f h' tk U' ((m3.trans m4).trans mv) D' fr
  induction fr using FlR.casesOn with
  | nxt=>exact again e6
  | cnt=>exact again e6
  | brk=>
   refine spE e6 λcc1 cc2=>?_;clear e6;refine okE cc1 λcc3=>?_;clear cc1;subst cc3;refine prE cc2 λcc4 cc5=>?_;clear cc2;obtain rfl:=cc4.symm;obtain rfl:=cc5.symm;obtain ⟨m5,fr⟩:=fin .brk;exact k .next h4 tk4 U4 ((m3.trans m4).trans m5) Dfin .nxt
  | ret rv=>
   refine spE e6 λcc1 cc2=>?_;clear e6;refine okE cc1 λcc3=>?_;clear cc1;subst cc3;refine prE cc2 λcc4 cc5=>?_;clear cc2;obtain rfl:=cc4.symm;obtain rfl:=cc5.symm;obtain ⟨m5,fr⟩:=fin (.ret rv);exact k _ h4 tk4 U4 ((m3.trans m4).trans m5) Dfin fr
theorem SrcRel.rebase{Z':Zt}{it:Value}{src:Src}(e:as++Z'.fr=bs++Z.fr)(r:SrcRel Z' as h U J ps it src)(hp:Z'.prog=Z.prog:=by rfl)(hw:Z'.w=Z.w:=by rfl)(hA:Z'.A=Z.A:=by rfl):SrcRel Z bs h U J ps it src:=by
 induction r using SrcRel.casesOn with
 | walk W hi st lv hf hp' h1 h2 h3=>exact .walk (hp▸hw▸hA▸W) hi st lv (e▸hf) (e▸hp') h1 h2 h3
 | live e i=>exact .live e i
 | iter e=>exact .iter e
 | zip a b c d e f g=>exact .zip a b c d e f g
theorem Db(H:Xh C P n lv Z own env rs)(W:Vd C P n lv Z own env rs)(O:Cd Z own env rs)(S:Am (Z.sub own) C.G env rs)(I:(Z.sub own).I s.heap U J)(D:Ag (Z.sub own) env rs s.heap U J Y){t iter:PySem.Expr}{T:IT}{ts:List Nat}{b:List Stmt}{pos:Pos}(ht:Apq C rs t T ts) :
 XAt Z own env rs (exA P (n+1) lv Y (.forr T (cI C d rs iter) (cSs C d rs b))) (exec (.For t iter b [] pos) env) s U J:=by
 intro r Y' J' e Q E a;have e':X.of (itA P n lv Y (cI C d rs iter)) Y (λs=>if Jg s 0 then X.still (Abz P n lv Y T (cSs C d rs b) s) else X.fail) J=some (r,Y',J'):=e;by_cases hset:∃ es k p,iter=.Set es k p
 . refine e31 hset λes k p zz3=>?_;clear hset;subst zz3;unfold X.of at e';rw [Xu,Ff] at e';exact nns e'
 . unfold X.of at e'
   cases hi:itA P n lv Y (cI C d rs iter) J with
   | none=>rw [hi] at e';exact nns e'
   | some q=>
    obtain ⟨q,σ1⟩:=q;rw [hi] at e'
    induction q using Except.casesOn with
    | error m=>
     refine spE e' λcc1 cc2=>?_;clear e';subst cc1;refine prE cc2 λcc3 cc4=>?_;clear cc2;subst cc3;obtain rfl:=cc4.symm;refine wpAny_For (H.it Y d iter I D _ _ hi _ _ (λm' q=>by refine erE q λcc1=>?_;clear q;subst cc1;exact λz hB h' tk U' G fl=>a z hB h' tk U' (Mv.of_go G) (D.go S G) fl) λsrc q=>by exact neo q) (Gm λes k p h=>hset ⟨es,k,p,h⟩)
    | ok src=>
     dsimp only at e';split at e'
     . rename_i hso;refine e12 (Ob e') λfl zz1 e1=>?_;subst zz1;refine wpAny_For (H.it Y d iter I D _ _ hi _ _ (λm' q=>by exact noe q) ?_) (Gm λes k p h=>hset ⟨es,k,p,h⟩);intro src' q it ps h1 tk1 μ1 mv hpf sr hlv;refine okE q λcc1=>?_;clear q;subst cc1;have mvl:Mv Z own (ps++own) s.heap U J h1 μ1 σ1:=mv.lift;have e0:ps++(Z.sub own).fr=(ps++own)++Z.fr:=(bC ..).symm;have D1:Ag (Z.sub (ps++own)) env rs h1 μ1 σ1 Y:=Ag.cast (Z:=(Z.sub own).sub ps) (Z':=Z.sub (ps++own)) (by show Vt (ps++(Z.sub own).fr) _ _=_;rw [e0]) rfl (Ag.mv (Z:=Z.sub own) S (Ag.sub0 (Z:=Z.sub own) D) mv);have sr':SrcRel Z (ps++own) h1 μ1 σ1 ps it src:=sr.rebase e0;refine W d t T ts it src b Y (s:={ s with heap:=h1,toks:=tk1}) ht (by cases src <;> first | rfl | (exact absurd hso (by show ¬ (decide (2<=0)=true);decide))) (λb hb q=>hpf b hb (aG _ q)) (λb hb q=>hpf b hb (aI _ q)) mvl.inv D1 sr' fl Y' J' e1 _ λf h' tk U' mv' D' fr=>a f h' tk U' (mvl.trans mv') D' fr
     . exact nns e'
theorem Aml(L:Z.Lv lv)(H:Xh C P n lv Z own env rs)(S:Am (Z.sub own) C.G env rs)(I:(Z.sub own).I s.heap U J)(D:Ag (Z.sub own) env rs s.heap U J Y){f:Str}{p cp pos:Pos}{e:PySem.Expr}(hv:Km (cE C d rs (.Name f p))=some (.type "ValueError"))(hp:Aq [e]=true) :
 XAt Z own env rs (exA P (n+1) lv Y (.raise (cE C d rs e))) (exec (.Raise (some (.Call (.Name f p) [e] [] cp)) Option.none pos) env) s U J:=by
 intro r Y' J' e0 Q E a;have e0':X.of (evA P n lv Y (cE C d rs e)) Y (Aen Y) J=some (r,Y',J'):=e0
 induction n using Nat.casesAuxOn with
 | zero=>exact nns e0
 | succ n=>
  have X1:=(H.ih Y).ev d (.Name f p) I D;rw [Fo hv] at X1;refine wpAny_Raise_call PySem.F.excCall_ValueError PySem.F.excRaise_ValueError L.hand (Gg hp) (X1 _ _ rfl _ _ λv' h1 tk1 μ1 G1 R1=>?_);have zz:=R1.inv;subst zz;refine⟨rfl,Jt hp (cW (he:=Nj hp) ?_)⟩;have D1:=D.go S G1;have a1:=a.go (tk:=tk1) (Mv.of_go G1);refine At.x (s:={ s with heap:=h1,toks:=tk1}) S ((H.ih Y).ev d e G1.inv D1) D1 e0' a1.err λxv v h2 tk2 μ2 σ2 G2 R2 e2=>dS ?_
  induction xv using AV.casesOn with
  | str y=>
   refine e12 (VRel.inv R2) λt z zz2=>?_;subst zz2;refine spE e2 λcc1 cc2=>?_;clear e2;subst cc1;refine prE cc2 λcc3 cc4=>?_;clear cc2;subst cc3;obtain rfl:=cc4.symm;refine⟨rfl,(by rw [sizeLine_eq];show 1<=_;exact lec (fk [] [(1,(.a (.n 16777216) (.n 1)),(.n 1))] rfl)),λh' ex hm=>?_⟩;exact a1.err true y rfl (.ref ex) h2 h' tk2 μ2 (Mv.of_go G2) (D1.go S G2) ⟨ex,t,rfl,⟨hm.keeps,hm.new,hm.there⟩,z⟩
  | _=>exact nns e2
theorem Aap(O:Cd Z own env rs)(S:Am (Z.sub own) C.G env rs)(I:(Z.sub own).I hB U J)(D:Ag (Z.sub own) env rs hB U J Y)(st:(hideAll hB (frames Z.envs)).StaysIn h)(up:hB.UpToSlots h):Mv Z own own hB U J h U J/\Ag (Z.sub own) env rs h U J Y:=by
 have hfr:∀ a∈frames Z.envs,a∈own++Z.fr/\∃ m,hB.Ns a m:=λa ha=>by
  refine e12 (List.mem_filterMap.mp ha) λe he hf=>?_;obtain ⟨_,L,h1,h2⟩:=S.outs e he;rw [h1] at hf;refine snE hf λcc1=>?_;clear hf;obtain rfl:=cc1.symm;exact⟨h2,D.outs e he _ h1⟩
 have k:∀ b o,b∉frames Z.envs->hB.get? b=some o->h.get? b=some o:=λb o n e=>st b o (hideAll_get _ e n);have sf:∀ a∈own++Z.fr,Hg hB h a:=λa ha=>by
  by_cases q:a∈frames Z.envs
  . obtain ⟨_,m,hm⟩:=hfr a q;refine e33 (id hm) λo es ep ho hd hr=>?_;refine⟨λm' x=>up.ns x,λv ⟨o',ho',hd'⟩=>?_,λo' ho' n1 _=>?_,λ_=>?_⟩
    . rw [ho] at ho';refine snE ho' λcc1=>?_;clear ho';subst cc1;rw [hd] at hd';injection hd'
    . rw [ho] at ho';refine snE ho' λcc1=>?_;clear ho';subst cc1;exact absurd hd (n1 es ep)
    . refine e32 (up.ns hm) λo' _ _ ho' _=>?_;exact⟨o',ho'⟩
  . exact .of λo e=>k a o q e
 have G:(Z.sub own).Go hB U J h U J:=Ivt.grow I (λb o n e=>k b o (λq=>n (hfr b q).1) e) sf;exact⟨Mv.of_go G,D.go S G⟩
theorem Oe{base:Heap}{l:List Env}{e L:Addr}{cls a0:Value}{M:Model}{A:Around}{Q:Unit->Shared->Prop}(R:Heap.HeldW base l e cls a0 L s.heap)
 (h:∀ h',Heap.HeldW base l e cls a0 L h'->s.heap.UpToSlots h'->Q () { s with heap:=h'}):wpAny M A (setFlight (.ref e) (some L)) Q E s:=by
 obtain ⟨hkb,hen,hl,oe,vs,T,oT,ts,he,hcls,hd,h1,hnT,hTe,hT,hdT,h3⟩:=R;have hsz3:3<ts.size:=(Array.getElem?_eq_some_iff.mp h3).1;have other:∀ b,b≠T->(s.heap.update T (Obj.mapFields (·.setIfInBounds 3 ((some L).elim Value.none λf=>rawInt f)))).get? b=s.heap.get? b:=
  λb hb=>dP _ _ (Ne.symm hb)
 have noRecord:∀ b o,s.heap.get? b=some o->(∀ vs,o.data≠.fields vs)->b≠T:=λb o hb hnf q=>by
  rw [q,hT] at hb;injection hb with hb;subst hb;exact hnf ts hdT
 unfold setFlight;refine aA (cU he hd h1 ?_);rw [if_pos (show (Value.ref T != Value.none)=true from by simp)];refine wpAny_setField hT hdT hsz3 (h _ ⟨λb o hbo=>(other b λq=>by rw [q,hnT] at hbo;exact nns hbo).trans (hkb b o hbo),hen,
  hl.of_keeps λb o hb hnf=>⟨o,(other b (noRecord b o hb hnf)).trans hb,rfl⟩,?_⟩ λb o hb hnf=>⟨o.slots,(other b (noRecord b o hb hnf)).trans hb⟩)
 exact⟨oe,vs,T,_,_,(other e (Ne.symm hTe)).trans he,hcls,hd,h1,hnT,hTe,dJ _ hT (Obj.isFreed_of_fields (Obj.data_mapFields hdT _)),Obj.data_mapFields hdT _,by simp [hsz3]⟩
theorem Amm(O:Cd Z own env rs){E':Value->Shared->Prop}(F:Amk env Z.envs hB s.heap x m)(k:∀ h',Amk env Z.envs hB h' x m->E' x { s with heap:=h'}):cameBackBy Z.M Z.A env E' x s:=by
 obtain ⟨e,t,tk,rfl,hh,ht,n1,n2,up,hl⟩:=F;obtain ⟨q1,q2,q3,oe,vs,T,oT,ts,he,hc,hd,h1,q4⟩:=id hh;show wpAny _ _ (field (.ref e) 1 >>= _) _ _ _;refine aA (cU he hd h1 ?_);rw [if_neg (show ¬ ((Value.ref T == Value.none)=true) from by simp),O.frame];exact Oe hh λh' hh' up'=>k h' ⟨e,t,tk,rfl,hh',ht.of_slots up',n1,n2,up.trans up',hl⟩
theorem Ash:isSubtype (.type "ValueError") (.type "BaseException")=pure true:=PySem.F.excRaise_ValueError.isExc
theorem Avx:isSubtype (.type "ValueError") (.type "ValueError")=pure true:=by rw [isSubtype_type];kernel_rfl
theorem Amn:isSubtype (.type ((Manifest.find? "ValueError").elim "type" λy=>y.metatype)) (.type "tuple")=pure false:=by
 rw [find?_eq_fast,isSubtype_type];kernel_rfl
theorem Ags{y:Str}{py:Pos}{v:Value}(h:Km (cE C d rs (.Name y py))=some v):rs y=.lit (.con v)/\(y == ("__debug__":Str))=false:=by
 induction d using Nat.casesAuxOn with
 | zero=>exact nns h
 | succ d=>
  have h:Tz C rs y py=.lit (.con v):=Fo h;unfold Tz at h
  cases hd:(y == ("__debug__":Str)) with
  | true=>rw [hd] at h;injection h
  | false=>
   rw [hd,if_neg Bool.false_ne_true] at h;refine⟨?_,rfl⟩
   cases hr:rs y with
   | var i=>rw [hr] at h;cases hz:C.fz py <;> (rw [hz] at h;injection h)
   | cvar i=>rw [hr] at h;cases hz:C.fz py <;> (rw [hz] at h;injection h)
   | _=>rw [hr] at h;exact h
theorem Asi(L:Z.Lv lv)(W:Py C P n lv Z own env rs)(O:Cd Z own env rs)(S:Am (Z.sub own) C.G env rs)(I:(Z.sub own).I s.heap U J)(D:Ag (Z.sub own) env rs s.heap U J Y){c:PySem.Expr}{b:List Stmt}{t xn wn f:Str}{tp wp fp yp cp ap hp wpos pos:Pos}{i j:Nat}
 (hx:rs xn=.var i) (hw:rs wn=.var j) (ht:Km (cE C d rs (.Name t tp))=some (.type "ValueError")) (hf:Km (cE C d rs (.Name f fp))=some (.type "str")) (hij:i≠j) (hxd:(xn == ("__debug__":Str))=false) :
 XAt Z own env rs (exA P (n+1) lv Y (.tryw (cE C d rs c) (cSs C d rs b) i j)) (exec (.Try [.While c b [] wpos] [.ExceptHandler (some (.Name t tp)) (some xn) [.Assign [.Name wn wp] (.Call (.Name f fp) [.Name xn yp] [] cp) ap] hp] [] [] pos) env) s U J:=by
 intro r Y' J' e0 Q E a;have e0':(Tw P n lv Y (cE C d rs c) (cSs C d rs b) J).bind (Zp i j)=some (r,Y',J'):=e0;have glob:∀ {y:Str} {py:Pos} {v:Value},Km (cE C d rs (.Name y py))=some v->rs y=.lit (.con v)/\(y == ("__debug__":Str))=false:=Ags;refine wpAny_Try_except (dF (wpAny_While ?_))
 cases hwh:Tw P n lv Y (cE C d rs c) (cSs C d rs b) J with
 | none=>rw [hwh] at e0';exact nns e0'
 | some q=>
  obtain ⟨q,ρ1,σ1⟩:=q;rw [hwh] at e0';have e0':Zp i j (q,ρ1,σ1)=some (r,Y',J'):=e0';refine W d c b Y I D _ _ _ hwh _ ?_
  induction q using Except.casesOn with
  | ok q=>
   induction q using Fl.casesOn with
   | nxt=>
    refine spE e0' λcc1 cc2=>?_;clear e0';subst cc1;refine prE cc2 λcc3 cc4=>?_;clear cc2;obtain rfl:=cc3.symm;obtain rfl:=cc4.symm;intro fv h1 tk1 μ1 mv D1 fr;have zz:=fr.inv_nxt;subst zz;exact wpAny_execs_nil (wpAny_execs_nil (a .next h1 tk1 μ1 mv D1 .nxt))
   | _=>exact nns e0'
  | error q=>
   obtain ⟨b,m⟩:=q
   induction b using Bool.casesOn with
   | true=>exact nns e0'
   | false=>
    refine spE e0' λcc1 cc2=>?_;clear e0';subst cc1;refine prE cc2 λcc3 cc4=>?_;clear cc2;subst cc3;obtain rfl:=cc4.symm;intro x hB h1 tk1 μ1 mv D1 F;refine Amm (s:={ s with heap:=h1,toks:=tk1}) O F λh2 F2=>?_;dsimp only;obtain ⟨e,tt,tkk,rfl,hh,htup,n1,n2,up,hl⟩:=F2;refine wpAny_noteFrame_againW O.frame hh.2.2.2 ?_;refine wpAny_landsW (s:={ s with heap:=h2,toks:=tk1}) hh λh3 fl3 up3=>?_;dsimp only;refine e12 fl3.there λob hob hoc=>?_;refine wpAny_handleBy_builtin_as (X:="ValueError") (T:="ValueError") (b:=true) Ash Amn Avx (cX (Rr S (by
     have:=(Aap O S mv.inv D1 fl3.1 (up.trans up3)).1.inv;exact this) (glob ht).1 ?_) (glob ht).2)
    refine⟨rfl,⟨ob,hob,hoc⟩,?_⟩;simp only [if_true];refine lands_againW (s:={ s with heap:=h3,toks:=tk1}) fl3 λh4 fl4 up4=>?_;dsimp only;have up04:=(up.trans up3).trans up4;have htup4:=(htup.of_slots up3).of_slots up4;obtain ⟨m4,D4⟩:=Aap O S mv.inv D1 fl4.1 up04;refine e24 fl4.first λoe ws hoe hoec hoed hoe0=>?_;have hkx:env.kindOf xn=some .local:=by
     rcases S.form xn with ⟨k,q,hk⟩ | ⟨k,c,q,_⟩ | ⟨v,q,_⟩ | q
     . exact hk
     all_goals (rw [hx] at q;injection q)
    have hkw:env.kindOf wn=some .local:=by
     rcases S.form wn with ⟨k,q,hk⟩ | ⟨k,c,q,_⟩ | ⟨v,q,_⟩ | q
     . exact hk
     all_goals (rw [hw] at q;injection q)
    have hpp:(env.scope.kind == .class||(env.scope.kind == .module&&env.locals != env.globals))=false:=by rw [S.kind];rfl
    have heL:e≠env.locals:=λq=>by
     refine e42 D1.ns λ_ o _ _ ho _=>?_;rw [q,ho] at n1;exact nsn n1
    have htL:tt≠env.locals:=λq=>by
     refine e42 D1.ns λ_ o _ _ ho _=>?_;rw [q,ho] at n2;exact nsn n2
    have hxw:wn≠xn:=λq=>by subst q;rw [hx] at hw;injection hw with cc1;subst cc1;exact hij rfl
    obtain ⟨m0,hm0⟩:=D4.ns;have hu:∀ e:Addr,(Z.A.mark (some (.ref e))).units+2<cLine:=λe=>by have:=L.room;show Z.A.units+2<cLine;exact ltc (fk [Z.A.units,3*lv,cLine] [(1,(.a (.a (.a (.v 0) (.v 1)) (.n 60)) (.n 1)),(.v 2)),(1,(.v 2),(.a (.v 0) (.n 2)))] rfl this)
    refine wpAny_storeName_local hkx hm0 (λh5 hn5 hs5=>?_) hpp;have hk5:∀ b o,b≠env.locals->h4.get? b=some o->h5.get? b=some o:=hs5.extBut;have mv5:Mv Z own own h4 μ1 J' h5 μ1 J':=Mv.spin m4.inv O.dj (λb o n e=>hk5 b o (λq=>n (q▸O.loc)) e) λb hb=>by
     by_cases q:b=env.locals
     . subst q;refine e32 hn5 λo _ _ ho _=>?_;clear hn5;exact⟨o,ho⟩
     . exact (m4.inv.frs b (aG _ hb)).2.2.imp λo e=>hk5 b o q e
    have hp1:Aq [PySem.Expr.Name xn yp]=true:=rfl;refine dF (wpAny_Assign_Name ?_);rw [Cm (by trivial)];refine aA (cX (Rr (Z:=Z.sub own) S mv5.inv (glob hf).1 ?_) (glob hf).2);refine Gh hp1 rfl (cW (he:=Nj hp1) (cX (dN (v:=.ref e) S.kind hkx hn5 (by simp) (dS ?_)) hxd));refine e23 htup4 λot nt hot hotc hotd=>?_;clear htup4;refine PySem.P.str_of_exc_one PySem.F.excStr_ValueError (hu e) ⟨oe,ws,hk5 e oe heL hoe,hoec,hoed,hoe0⟩ ⟨ot,nt,hk5 tt ot htL hot,hotc,hotd⟩ ?_;dsimp only;refine wpAny_storeName_local hkw hn5 (λh6 hn6 hs6=>?_) hpp;refine wpAny_execs_nil ?_;dsimp only;refine wpAny_nameGoes_keeps hkx hn6 hpp λh7 v0 hn7 hs7=>?_;have hk7:∀ b o,b≠env.locals->h4.get? b=some o->h7.get? b=some o:=λb o n e=>hs7.extBut b o n (hs6.extBut b o n (hk5 b o n e));have mv7:Mv Z own own h4 μ1 J' h7 μ1 J':=Mv.spin m4.inv O.dj (λb o n e=>hk7 b o (λq=>n (q▸O.loc)) e) λb hb=>by
     by_cases q:b=env.locals
     . subst q;refine e32 hn7 λo _ _ ho _=>?_;clear hn7;exact⟨o,ho⟩
     . exact (m4.inv.frs b (aG _ hb)).2.2.imp λo e=>hk7 b o q e
    refine (a .next h7 _ μ1 ((mv.trans m4).trans mv7) ⟨⟨_,hn7⟩,λe he L hL=>?_,λy k c e1 e2=>?_,λy k av m2 e1 e2 e3=>?_,λy k av c e1 e2 e3=>?_⟩ .nxt)
    . by_cases q:L=env.locals
      . subst q;exact⟨_,hn7⟩
      . refine e42 (D4.outs e he L hL) λm' o es ep ho r=>?_;exact⟨m',o,es,ep,hk7 L o q ho,r⟩
    . refine e22 (D4.cell y k c e1 e2) λov o ho r=>?_;exact⟨ov,o,hk7 c o (S.cfr y c e2).2 ho,r⟩
    . have:=Ey hn7 e3;subst this;have hki:k≠i:=λq=>by rw [if_pos q] at e2;exact nns e2
      have hyx:y≠xn:=λq=>by subst q;rw [hx] at e1;injection e1 with cc1;subst cc1;exact hki rfl
      rw [if_neg hki] at e2;by_cases q:k=j
      . subst q;have:=S.inj y wn k (.inl e1) (.inl hw);subst this;have hb:AV.str m=av:=bG ((if_pos rfl).symm.trans e2);subst hb;exact⟨.str m tkk,by simp [hyx],.str _ _ hl⟩
      . have e2':ρ1 k=some av:=(if_neg q).symm.trans e2;refine e12 (D4.val y k av m0 e1 e2' hm0) λu q1 q2=>?_;have hyw:y≠wn:=λz=>by subst z;rw [hw] at e1;injection e1 with cc1;subst cc1;exact q rfl
        exact⟨u,by simpa [hyx,hyw] using q1,q2.on mv7.on⟩
    . have hki:k≠i:=λq=>by rw [if_pos q] at e2;exact nns e2
      rw [if_neg hki] at e2;have q:k≠j:=λq=>by
       subst q;have:=S.inj y wn k (.inr e1) (.inl hw);subst this;rw [hw] at e1;injection e1
      have e2':ρ1 k=some av:=(if_neg q).symm.trans e2;obtain ⟨u,⟨o,ho,hd⟩,q2⟩:=D4.cval y k av c e1 e2' e3;exact⟨u,⟨o,hk7 c o (S.cfr y c e3).2 ho,hd⟩,q2.on mv7.on⟩
theorem ifx{c:Prop}[Decidable c]{x:IS}{t:Sem Flow}(h:c->XAt Z own env rs (exA P (n+1) lv Y x) t s U J):XAt Z own env rs (exA P (n+1) lv Y (if c then x else .stuck)) t s U J:=by
 by_cases q:c
 . rw [if_pos q];exact h q
 . rw [if_neg q];exact .none rfl
theorem Xz{o:Option IS}{t:Sem Flow}(h:∀ x,o=some x->XAt Z own env rs (exA P (n+1) lv Y x) t s U J):XAt Z own env rs (exA P (n+1) lv Y (Qo o)) t s U J:=by
 induction o using Option.casesOn with
 | none=>exact .none rfl
 | some x=>exact h x rfl
theorem Mk{a b:Bool}(h:(a&&b)=true):a=true/\b=true:=aK.mp h
theorem Agt{ts:List PySem.Expr}{k:Nat}{p:Pos}{e:PySem.Expr}(hne:∀ es k p,e≠.Tuple es k p):Aeq C d rs (.Tuple ts k p) e=Qo ((if 2<=ts.length then Ed rs ts else Option.none).map λis=>.ass (.tup is) (cE C d rs e)):=by
 induction e using PySem.Expr.casesOn with
 | Tuple es k p=>exact absurd rfl (hne _ _ _)
 | _=>rfl
theorem Agu{o i e:PySem.Expr}{p:Pos}(hne:∀ a b c p,i≠.Slice a b c p):Aeq C d rs (.Subscript o i p) e=.ass (.idx (cE C d rs o) (cE C d rs i)) (cE C d rs e):=by
 induction i using PySem.Expr.casesOn with
 | Slice a b c p=>exact absurd rfl (hne _ _ _ _)
 | _=>rfl
theorem Eo{α:Type}{l:List α}{a:α}(h:Kn l=some a):l=[a]:=by
 induction l using List.casesOn with
 | nil=>exact nns h
 | cons b r=>
  induction r using List.casesOn with
  | nil=>refine snE h λcc1=>?_;clear h;obtain rfl:=cc1.symm;rfl
  | cons _ _=>exact nns h
theorem Iz{e:PySem.Expr}{x:Str}(h:Qp e=some x):∃ p,e=.Name x p:=by
 induction e using PySem.Expr.casesOn with
 | Name y p=>refine snE h λcc1=>?_;clear h;obtain rfl:=cc1.symm;exact⟨p,rfl⟩
 | _=>exact nns h
theorem Og{e f:PySem.Expr}{as:List PySem.Expr}(h:Wh e=some (f,as)):∃ p,e=.Call f as [] p:=by
 induction e using PySem.Expr.casesOn with
 | Call f as kws p=>
  induction kws using List.casesOn with
  | nil=>refine spE h λcc1 cc2=>?_;clear h;obtain rfl:=cc1.symm;obtain rfl:=cc2.symm;exact⟨p,rfl⟩
  | cons _ _=>exact nns h
 | _=>exact nns h
theorem Adm{s:Stmt}{t e:PySem.Expr}(h:Api s=some (t,e)):∃ p,s=.Assign [t] e p:=by
 induction s using PySem.Stmt.casesOn with
 | Assign ts e p=>
  refine e12 (bF.mp h) λt ht q=>?_;refine prE q λcc1 cc2=>?_;clear q;obtain rfl:=cc1.symm;obtain rfl:=cc2.symm;rw [Eo ht];exact⟨p,rfl⟩
 | _=>exact nns h
theorem Ve{s:Stmt}{c:PySem.Expr}{b:List Stmt}(h:Zs s=some (c,b)):∃ p,s=.While c b [] p:=by
 induction s using PySem.Stmt.casesOn with
 | While c b orelse p=>
  induction orelse using List.casesOn with
  | nil=>refine spE h λcc1 cc2=>?_;clear h;obtain rfl:=cc1.symm;obtain rfl:=cc2.symm;exact⟨p,rfl⟩
  | cons _ _=>exact nns h
 | _=>exact nns h
theorem Sf{α:Type}{c:Prop}[Decidable c]{o:Option α}{a:α}(h:(if c then o else none)=some a):c/\o=some a:=by
 by_cases q:c
 . rw [if_pos q] at h;exact⟨q,h⟩
 . rw [if_neg q] at h;exact nns h
theorem Ja{e:PySem.Expr}{v:Value}(h:Qq C d rs e v=true):∃ x p,e=.Name x p/\Km (cE C d rs (.Name x p))=some v:=by
 obtain ⟨h1,h2⟩:=Mk h;obtain ⟨x,hx⟩:=Option.isSome_iff_exists.mp h1;obtain ⟨p,rfl⟩:=Iz hx;exact⟨x,p,rfl,aB h2⟩
theorem Agv{x w:Str}{hb:List Stmt}(h:Apj C d rs x hb=some w):∃ wp f fp yp cp ap,hb=[.Assign [.Name w wp] (.Call (.Name f fp) [.Name x yp] [] cp) ap]/\Km (cE C d rs (.Name f fp))=some (.type "str"):=by
 refine e12 (aX.mp h) λst h1 g1=>?_;obtain ⟨⟨t,e⟩,h2,g2⟩:=aX.mp g1;refine e12 (aX.mp g2) λw' h3 g3=>?_;obtain ⟨⟨f,as⟩,h4,g4⟩:=aX.mp g3;refine e12 (aX.mp g4) λa h5 g5=>?_;refine e12 (aX.mp g5) λy h6 g6=>?_;obtain ⟨g7,g8⟩:=Sf g6;obtain ⟨h7,h8⟩:=Mk g7;have h8:y=x:=aB h8;refine snE g8 λcc1=>?_;clear g8;obtain rfl:=cc1.symm;clear h g1 g2 g3 g4 g5 g6 g7;subst h8;refine e22 (Ja h7) λf fp zz2 hf=>?_;subst zz2;obtain ⟨wp,rfl⟩:=Iz h3;obtain ⟨yp,rfl⟩:=Iz h6;have zz9:=Eo h5;subst zz9;obtain ⟨cp,rfl⟩:=Og h4;obtain ⟨ap,rfl⟩:=Adm h2;exact⟨wp,f,fp,yp,cp,ap,Eo h1,hf⟩
theorem Vf{x:Str}{i:Nat}(h:Akg rs x=some i):rs x=.var i:=by
 unfold Akg at h
 cases hr:rs x with
 | var j=>rw [hr] at h;refine snE h λcc1=>?_;clear h;obtain rfl:=cc1.symm;rfl
 | _=>rw [hr] at h;exact nns h
theorem Amo(L:Z.Lv lv)(H:Xh C P n lv Z own env rs)(WW:Py C P n lv Z own env rs)(WF:Vd C P n lv Z own env rs)(O:Cd Z own env rs)(S:Am (Z.sub own) C.G env rs)(I:(Z.sub own).I s.heap U J)(D:Ag (Z.sub own) env rs s.heap U J Y):∀ (d:Nat) (st:Stmt),XAt Z own env rs (exA P (n+1) lv Y (cS C d rs st)) (exec st env) s U J
 | 0,st=>.none rfl
 | d+1,st=>by
  induction st using PySem.Stmt.casesOn with
  | Assign ts e pos=>
   induction ts using List.casesOn with
   | nil=>exact .none rfl
   | cons t ts=>
    refine ifx λh=>?_;have zz9:=bS.mp h;subst zz9
    induction t using PySem.Expr.casesOn with
    | Name x p=>
     refine Xz λz hz=>?_;refine e12 (bF.mp hz) λi hi zz2=>?_;subst zz2;refine e22 (Dh hi) λy q hy hx=>?_;injection hy with cc1 cc2;subst cc1;subst cc2;exact Xx L H O S I D hx
    | Tuple es k p=>
     by_cases hne:∃ es k p,e=.Tuple es k p
     . refine e31 hne λ_ _ _ zz3=>?_;clear hne;subst zz3;exact .none rfl
     . show XAt Z own env rs (exA P (n+1) lv Y (Aeq C d rs (.Tuple es k p) e)) _ _ _ _;rw [Agt λa b c q=>hne ⟨a,b,c,q⟩];refine Xz λz hz=>?_;refine e12 (bF.mp hz) λis ht zz2=>?_;subst zz2;by_cases h2:2<=es.length
       . rw [if_pos h2] at ht;exact Adk L H O S I D h2 ht (λa b c q=>hne ⟨a,b,c,q⟩)
       . rw [if_neg h2] at ht;exact nns ht
    | Subscript o i p=>
     by_cases hne:∃ a b c p,i=.Slice a b c p
     . refine e41 hne λ_ _ _ _ zz4=>?_;clear hne;subst zz4;exact .none rfl
     . show XAt Z own env rs (exA P (n+1) lv Y (Aeq C d rs (.Subscript o i p) e)) _ _ _ _;rw [Agu λa b c p q=>hne ⟨a,b,c,p,q⟩];exact Adl H S I D
    | _=>exact .none rfl
  | AugAssign t op e pos=>
   induction t using PySem.Expr.casesOn with
   | Name x p=>
    refine Xz λz hz=>?_;refine e12 (aX.mp hz) λi hi hz=>?_;refine e12 (bF.mp hz) λo ho zz2=>?_;subst zz2;refine e22 (Dh hi) λy q hy hx=>?_;injection hy with cc1 cc2;subst cc1;subst cc2;exact Avu H O S I D hx ho
   | _=>exact .none rfl
  | Expr e pos=>
   refine ifx λh=>?_
   induction e using PySem.Expr.casesOn with
   | Call f as kws p=>exact Asd H S I D
   | _=>exact nft h
  | Return v pos=>
   induction v using Option.casesOn with
   | none=>exact .none rfl
   | some e=>exact Avv H S I D
  | If c a b pos=>exact Ayl H S I D
  | While c b orelse pos=>
   refine ifx λh=>?_;have zz9:=bS.mp h;subst zz9;exact Avw WW I D
  | For t it b orelse pos=>
   refine ifx λh=>?_;have zz9:=bS.mp h;subst zz9
   induction t using PySem.Expr.casesOn with
   | Name x p=>
    refine Xz λz hz=>?_;refine e12 (bF.mp hz) λi hi zz2=>?_;subst zz2;exact Db H WF O S I D ⟨by show (Ma rs (.Name x p)).map ([·])=some [i];rw [hi];rfl,.inl ⟨i,rfl,rfl⟩⟩
   | Tuple es k p=>
    refine Xz λz hz=>?_;refine e12 (bF.mp hz) λis ht zz2=>?_;subst zz2;exact Db H WF O S I D ⟨ht,.inr rfl⟩
   | _=>exact .none rfl
  | Break _=>exact λr Y' J' e Q E a=>by refine spE e λcc1 cc2=>?_;clear e;subst cc1;refine prE cc2 λcc3 cc4=>?_;clear cc2;subst cc3;subst cc4;exact wpAny_Break (a .brk s.heap s.toks U (.refl I) D .brk)
  | Continue _=>exact λr Y' J' e Q E a=>by refine spE e λcc1 cc2=>?_;clear e;subst cc1;refine prE cc2 λcc3 cc4=>?_;clear cc2;subst cc3;subst cc4;exact wpAny_Continue (a .cont s.heap s.toks U (.refl I) D .cnt)
  | Pass _=>exact λr Y' J' e Q E a=>by refine spE e λcc1 cc2=>?_;clear e;subst cc1;refine prE cc2 λcc3 cc4=>?_;clear cc2;subst cc3;subst cc4;exact wpAny_Pass (a .next s.heap s.toks U (.refl I) D .nxt)
  | Assert c m pos=>
   refine ifx λh=>?_
   induction m using Option.casesOn with
   | some _=>exact nft h
   | none=>exact Ase H S I D
  | Raise e c pos=>
   induction e using Option.casesOn with
   | none=>exact .none rfl
   | some e=>
    refine ifx λh=>?_
    induction c using Option.casesOn with
    | some _=>exact nft h
    | none=>
     refine Xz λz hz=>?_;obtain ⟨⟨f,as⟩,h1,g1⟩:=aX.mp hz;refine e12 (aX.mp g1) λa h2 g2=>?_;obtain ⟨g3,g4⟩:=Sf g2;obtain ⟨h3,h4⟩:=Mk g3;refine snE g4 λcc1=>?_;clear g4;subst cc1;clear hz g1 g2 g3;have zz9:=Eo h2;subst zz9;obtain ⟨cp,rfl⟩:=Og h1;refine e22 (Ja h3) λx p zz2 hx=>?_;subst zz2;exact Aml L H S I D hx h4
  | Try b hs els fin pos=>
   refine ifx λh=>?_;have zz9:=bS.mp h;subst zz9
   induction hs using List.casesOn with
   | nil=>exact .none rfl
   | cons h hs=>
    refine ifx λq=>?_;have zz9:=bS.mp q;subst zz9;obtain ⟨ty,nm,hb,hp⟩:=h
    induction ty using Option.casesOn with
    | none=>exact .none rfl
    | some ty=>
     induction nm using Option.casesOn with
     | none=>exact Asf H I D
     | some x=>
      refine ifx λq=>?_;have zz9:=bS.mp q;subst zz9;refine Xz λz hz=>?_;refine e12 (aX.mp hz) λst h1 g1=>?_;obtain ⟨⟨c,b'⟩,h2,g2⟩:=aX.mp g1;obtain ⟨g3,g4⟩:=Sf g2;obtain ⟨h3,h4⟩:=Mk g3;refine e12 (aX.mp g4) λw hw g5=>?_;refine e12 (aX.mp g5) λi hi g6=>?_;refine e12 (aX.mp g6) λj hj g7=>?_;clear hz g1 g2 g3 g4 g5 g6;refine e62 (Agv hw) λwp f fp yp cp ap zz6 hf=>?_;subst zz6;have zz9:=Eo h1;subst zz9;obtain ⟨wpos,rfl⟩:=Ve h2;refine e22 (Ja h3) λt tp zz2 ht=>?_;subst zz2;by_cases hij:i=j
      . rw [if_pos hij] at g7;exact nns g7
      . rw [if_neg hij] at g7;refine snE g7 λcc1=>?_;clear g7;subst cc1;exact Asi L WW O S I D (Vf hi) (Vf hj) ht hf hij (by cases hd:(x == ("__debug__":Str)) with | false=>rfl | true=>rw [hd] at h4;exact nft h4)
  | _=>exact .none rfl
end
inductive Oh(g:Heap)(fd:FuncData)(f:Fn)(ns:List Str):Prop
 | plain:f.va=false->f.df=[]->f.np=ns.length->(∀ vs:List Value,vs.length=ns.length->bindArgs fd ⟨vs,[]⟩=pure (ns.zip vs))->Oh g fd f ns
 | va (n1 n2:Str):f.va=true->ns=[n1,n2]->(∀ v w:Value,bindArgs fd ⟨[v,w],[]⟩=(newTuple [w] >>= λt=>pure [(n1,v),(n2,t)]))->Oh g fd f ns
 | df (n1 n2 n3:Str) (T:Addr) (o:Obj) (k:Nat):f.va=false->f.df=[.none]->f.np=3->ns=[n1,n2,n3]->g.get? T=some o->o.data=.seq #[.none] k->
  (∀ (v w:Value) {M:Model} {A:Around} {Q:List (Str×Value)->Shared->Prop} {E:Value->Shared->Prop} {s:Shared},(∀ Q':Option (Array Value)->Shared->Prop,Q' (some #[.none]) s->wpAny M A (seqItems? (.ref T)) Q' E s)->Q [(n1,v),(n2,w),(n3,.none)] s->wpAny M A (bindArgs fd ⟨[v,w],[]⟩) Q E s)->Oh g fd f ns
structure Amp(C:Cx)(g:Heap)(a:Addr)(f:Fn)(o:Obj)(fd:FuncData)(body:List Stmt)(ns:List Str):Prop where
 here:g.get? a=some o
 data:o.data=.func fd
 bod:fd.body=.stmts body
 clo:fd.closure=[]
 rec_:g.CodeRec fd.code fd.qualname
 glob:Kz g fd.globals fd.builtins C.G
 kind:fd.scope.kind=.function
 co:fd.scope.isCoroutine=false
 gen:fd.scope.isGenerator=false
 comp:∃ d,f.body=cSs C d (rsOf C.G fd.scope.names 0 λ_=>.stuck) body
 bind:Oh g fd f ns
 nd:(fd.scope.names.map (·.1)).Nodup
 pre:ns<+:fd.scope.names.map (·.1)
 pk:∀ p∈fd.scope.names,p.1∈ns->p.2=.local\/p.2=.cell
 cls:∀ p∈fd.scope.names,(p.1 == ("__classdict__":Str))=false
section
variable{C:Cx}{P:Bi}{n lv d tk:Nat}{Z:Zt}{own as bs ps U U':List Addr}{env:Env}{rs:Rs}{Y Y' Y1:Ae}{s:Shared}{J J' J1:Sto}{h h' hB:Heap}{x:Value}{m:Str}
theorem Yb(S:Am Z C.G env rs)(D:Ag Z env rs hB U J Y):hB.FunFrames (hideAll hB (frames Z.envs)) Z.envs:=by
 have key:∀ l:List Env,(∀ e∈l,e∈Z.envs)->hB.FunFrames (hideAll hB (frames Z.envs)) l:=by
  intro l
  induction l with
  | nil=>intro _;trivial
  | cons e r ih=>
   intro hl;obtain ⟨k,L,h1,h2⟩:=S.outs e (hl e (.head _));refine e11 (D.outs e (hl e (.head _)) L h1) λm hm=>?_;refine Heap.FunFrames.cons (by rw [k];decide) h1 hm (hideAll_none _ (List.mem_filterMap.mpr ⟨e,hl e (.head _),h1⟩)) (ih λe he=>hl e (.tail _ he))
 exact key _ λ_ h=>h
theorem Aaq{outer:List Env}{B h:Heap}{e t:Addr}{tk:Tok}(hfr:frames (env::outer)=env.locals::frames outer)(hL:env.locals∈own)(hBe:B=hideAll hB (frames (env::outer)))(fl:Heap.FlyingW B outer e (.type "ValueError") (.ref t) h)(ht:h.TupAt t [.str m tk])(n1:hB.get? e=none)(n2:hB.get? t=none)(up:hB.UpToSlots h)(hl:m.length<lim) :
 Fly outer (hideAll hB own) h (.ref e) m:=by
 refine⟨e,t,tk,rfl,flyingW_base (λb o q=>?_) fl,ht,?_,?_,λb o q=>up b o (of_hideAll _ q),hl⟩
 . subst hBe;have h1:=of_hideAll _ q;have h2:=of_hideAll _ h1;refine hideAll_get _ h2 λhm=>?_;rw [hfr] at hm;rcases aM.mp hm with hm | hm
   . rw [hm,hideAll_none _ hL] at h1;exact nns h1
   . rw [hideAll_none _ hm] at q;exact nns q
 . cases q:(hideAll hB own).get? e with
   | none=>rfl
   | some o=>rw [of_hideAll _ q] at n1;exact nsn n1
 . cases q:(hideAll hB own).get? t with
   | none=>rfl
   | some o=>rw [of_hideAll _ q] at n2;exact nsn n2
theorem Yc{k:Str->Option NameKind}{n:Str}:∀ {r:List (Str×Value)} {m:Str->Option Value},n∉r.map (·.1)->bindL k r m n=m n:=by
 intro r
 induction r with
 | nil=>intro m _;rfl
 | cons p r ih=>
  intro m hx;refine (ih λq=>hx (.tail _ q)).trans ?_;have h1:n≠p.1:=λq=>hx (q▸.head _);by_cases h:k p.1=some .local
  . rw [if_pos h];exact if_neg h1
  . rw [if_neg h]
theorem Yd{k:Str->Option NameKind}{n:Str}:∀ {r:List (Str×Value)} {m:Str->Option Value},n∉r.map (·.1)->bindC k r m n=m n:=by
 intro r
 induction r with
 | nil=>intro m _;rfl
 | cons p r ih=>
  intro m hx;refine (ih λq=>hx (.tail _ q)).trans ?_;have h1:n≠p.1:=λq=>hx (q▸.head _);by_cases h:k p.1=some .local
  . rw [if_pos h]
  . rw [if_neg h];exact if_neg h1
theorem Adn{k:Str->Option NameKind}{Ht:List (Str×Value)}{x:Str}{v:Value}(nd:(Ht.map (·.1)).Nodup)(hm:(x,v)∈Ht)(hk:k x=some .local):∀ m,bindL k Ht m x=some v:=by
 induction Ht with
 | nil=>exact absurd hm bH
 | cons p r ih=>
  intro m;refine e02 (bZ.mp nd) λn1 n2=>?_;rcases aM.mp hm with q | q
  . subst q;exact (Yc n1).trans ((congrFun (if_pos hk) _).trans (if_pos rfl))
  . exact ih n2 q _
theorem Pz{k:Str->Option NameKind}{Ht:List (Str×Value)}{x:Str}{v:Value}(nd:(Ht.map (·.1)).Nodup)(hm:(x,v)∈Ht)(hk:k x≠some .local):∀ m,bindC k Ht m x=some v:=by
 induction Ht with
 | nil=>exact absurd hm bH
 | cons p r ih=>
  intro m;refine e02 (bZ.mp nd) λn1 n2=>?_;rcases aM.mp hm with q | q
  . subst q;exact (Yd n1).trans ((congrFun (if_neg hk) _).trans (if_pos rfl))
  . exact ih n2 q _
theorem Dq:∀ {names:List (Str×NameKind)} {n:Nat} {acc:List (Str×Addr)} {x:Str},((x,NameKind.cell)∈names\/∃ c,(x,c)∈acc)->∃ c,(x,c)∈cellsFrom n names acc
 | [],n,acc,x,h=>h.elim (λh=>by cases h) id
 | (y,k)::r,n,acc,x,h=>by
  unfold cellsFrom;split
  . refine Dq ?_;rcases h with h | ⟨c,h⟩
    . rcases aM.mp h with q | q
      . refine prE q λcc1 cc2=>?_;clear q;obtain rfl:=cc1.symm;subst cc2;exact .inr ⟨n,.head _⟩
      . exact .inl q
    . exact .inr ⟨c,.tail _ h⟩
  . rename_i hk;refine Dq ?_;rcases h with h | h
    . rcases aM.mp h with q | q
      . refine prE q λcc1 cc2=>?_;clear q;obtain rfl:=cc1.symm;subst cc2;exact absurd rfl hk
      . exact .inl q
    . exact .inr h
theorem Im{α:Type}{l:List (Str×α)}{x:Str}{c:α}(h:(x,c)∈l):∃ c',l.lookup x=some c':=by
 induction l with
 | nil=>exact absurd h bH
 | cons p r ih=>
  obtain ⟨y,d⟩:=p;rw [cD];by_cases hx:x=y
  . rw [beq_iff_eq.mpr hx];exact⟨d,rfl⟩
  . rw [cL.mpr hx];exact (aM.mp h).elim (λq=>absurd (aJ Prod.fst q) hx) ih
theorem Gn:∀ {names:List (Str×NameKind)} {n lo:Nat} {acc:List (Str×Addr)},lo<=n->(∀ p∈acc,lo<=p.2)->∀ p∈cellsFrom n names acc,lo<=p.2
 | [],n,lo,acc,hl,h=>h
 | (y,k)::r,n,lo,acc,hl,h=>by
  unfold cellsFrom;split
  . exact Gn (Nat.le_succ_of_le hl) λp hp=>by
     rcases aM.mp hp with q | q
     . subst q;exact hl
     . exact h p q
  . exact Gn hl h
end
section
set_option backward.match.sparseCases true
theorem Gp:∀ {names:List (Str×NameKind)} {n:Nat} {acc:List (Str×Addr)},(names.map (·.1)).Nodup->(acc.map (·.1)).Nodup->(∀ x∈names.map (·.1),x∉acc.map (·.1))->((cellsFrom n names acc).map (·.1)).Nodup
 | [],n,acc,_,h,_=>h
 | (y,k)::r,n,acc,nd,h,hd=>by
  refine e02 (bZ.mp nd) λn1 n2=>?_;unfold cellsFrom;split
  . refine Gp n2 (bZ.mpr ⟨hd y (.head _),h⟩) λx hx q=>?_;rcases aM.mp q with q | q
    . exact n1 (q▸hx)
    . exact hd x (.tail _ hx) q
  . exact Gp n2 h λx hx=>hd x (.tail _ hx)
theorem Le{α:Type}{l:List (Str×α)}{x:Str}{c:α}(nd:(l.map (·.1)).Nodup)(h:(x,c)∈l):l.lookup x=some c:=by
 induction l with
 | nil=>exact absurd h bH
 | cons p r ih=>
  refine e02 (bZ.mp nd) λn1 n2=>?_;rcases aM.mp h with q | q
  . subst q;rw [cD,beq_self_eq_true x]
  . obtain ⟨y,d⟩:=p;rw [cD,cL.mpr λz:x=y=>n1 (z▸bY (f:=(·.1)) q)];exact ih n2 q
structure Amq(Z:Zt)(h:Heap):Prop where
 st:∀ e∈Z.envs,e.scope.kind=.function/\∃ L,e.frame=some L/\L∈Z.fr
 dy:∀ e∈Z.envs,∀ L,e.frame=some L->∃ m,h.Ns L m
noncomputable abbrev Zt.callee(Z:Zt)(env:Env):Zt:={ Z with envs:=env::Z.envs,A:=Z.A.deeper env}
noncomputable def Agw(C:Cx)(P:Bi)(n lv:Nat)(Z:Zt):Prop:=
 ∀ (own:List Addr) (env:Env) (rs:Rs),(Z.callee env).Lv lv->Cd (Z.callee env) own env rs->Am ((Z.callee env).sub own) C.G env rs->∀ (d:Nat) (sts:List Stmt) (Y:Ae) {s:Shared} {U:List Addr} {J:Sto},((Z.callee env).sub own).I s.heap U J->Ag ((Z.callee env).sub own) env rs s.heap U J Y->
  XAt (Z.callee env) own env rs (Fg P n lv Y (cSs C d rs sts)) (execs sts env) s U J
section
variable{C:Cx}{P:Bi}{n lv d tk:Nat}{Z:Zt}{own as bs ps U U':List Addr}{env:Env}{rs:Rs}{Y Y' Y1:Ae}{s:Shared}{J J' J1:Sto}{h h' hB:Heap}{x:Value}{m:Str}
theorem Mv.callee(mv:Mv (Z.callee env) as bs h U J h' U' J'):Mv Z as bs h U J h' U' J':=⟨mv.inv,mv.on,mv.fk⟩
theorem Zt.Lv.callee(L:Z.Lv (lv+1)):(Z.callee env).Lv lv:=⟨by have:=L.room;show _+3*lv+60<cLine;simp only [units_deeper];omega,L.hand,by have:=L.deep;show _+3*lv+60<900;simp only [depth_deeper];omega,L.sys,Around.frames_deeper L.frames⟩
theorem Ado{mx:X}{q:Except Str AV}(e:mx.val J=some (q,J')):∃ r Y',mx J=some (r,Y',J')/\((∃ v,r=.ok (.ret v)/\q=.ok v)\/(r=.ok .nxt/\q=.ok .none)\/∃ b m,r=.error (b,m)/\q=.error m):=by
 unfold X.val at e
 cases h:mx J with
 | none=>rw [h] at e;exact nns e
 | some q'=>
  obtain ⟨r,ρ1,τ⟩:=q';rw [h] at e
  match r,e with
  | .ok (.ret v),e=>refine spE e λcc1 cc2=>?_;clear e;subst cc1;obtain rfl:=cc2.symm;exact⟨_,_,rfl,.inl ⟨v,rfl,rfl⟩⟩
  | .ok .nxt,e=>refine spE e λcc1 cc2=>?_;clear e;subst cc1;obtain rfl:=cc2.symm;exact⟨_,_,rfl,.inr (.inl ⟨rfl,rfl⟩)⟩
  | .error (b,m),e=>refine spE e λcc1 cc2=>?_;clear e;subst cc1;obtain rfl:=cc2.symm;exact⟨_,_,rfl,.inr (.inr ⟨b,m,rfl,rfl⟩)⟩
  | .ok .brk,e=>exact nns e
  | .ok .cnt,e=>exact nns e
theorem Lf{a:Addr}{f:Fn}{o:Obj}{fd:FuncData}{body:List Stmt}{ns:List Str}{vals:List Value}{ws:List AV}{q:Except Str AV}{Q E:Value->Shared->Prop}{E':Value->Shared->Prop}(F:Amp C Z.g a f o fd body ns)(NL:Z.g.NoLimit)(L:Z.Lv (lv+1))(HB:Agw C P n lv Z)
 (I:Z.I s.heap U J) (OS:Amq Z s.heap) (hl:vals.length=ns.length) (R:Ab s.heap (Z.V U J) U vals ws) (he:(Fg P n lv (λi=>ws[i]?) f.body).val J=some (q,J')) (an:Ans Z VR U J q J' Q E s) :
 wpAny Z.M Z.A.in1 (newFunctionEnv fd.scope fd.globals fd.closure (ns.zip vals) (fd.qualname++".<locals>.") (some a) fd.code none fd.builtins)
  (λenv s2=>s2.heap.NoLimit/\codeAny Z.M Z.A (.func body env) (λr s'=>match r with | .ok (.ret v)=>Q v s' | .ok _=>False | .error e=>E e s') s2) E' s:=by
 rw [F.clo];refine e11 F.comp λd hd=>?_;rw [hd] at he;have par_at:∀ {i:Nat} {y:Str},ns[i]?=some y->∃ k,fd.scope.names[i]?=some (y,k)/\(k=.local\/k=.cell):=λ{i y} hy=>by
  refine e11 F.pre λt ht=>?_;have h1:(fd.scope.names.map (·.1))[i]?=some y:=by
   rw [<- ht,bD (aN.mp hy).1];exact hy
  rw [List.getElem?_map,bF] at h1;obtain ⟨⟨y',k⟩,h2,h3⟩:=h1;have h3:y'=y:=h3;subst h3;exact⟨k,h2,F.pk (y',k) (aO h2) (aO hy)⟩
 have pnd:ns.Nodup:=F.pre.sublist.nodup F.nd;have bmem:∀ {p:Str×Value},p∈ns.zip vals->∃ i:Nat,ns[i]?=some p.1/\vals[i]?=some p.2:=λ{p} hp=>by
  refine e11 (List.mem_iff_getElem?.mp hp) λi hi=>?_;refine e02 (List.getElem?_zip_eq_some.mp hi) λh1 h2=>?_;exact⟨i,h1,h2⟩
 have bnd:((ns.zip vals).map (·.1)).Nodup:=by rw [List.map_fst_zip (by exact lec (fk [ns.length,vals.length] [(1,(.v 0),(.v 1)),(1,(.a (.v 1) (.n 1)),(.v 0))] rfl (aD (Eq.symm hl))))];exact pnd
 refine wpAny_newFunctionEnv_cells F.kind (λp hp=>?_) λenv he' s' x=>?_
 . refine e12 (bmem hp) λi h1 _=>?_;refine e12 (par_at h1) λk h2 hk=>?_;have hm:=aO h2;rcases hk with rfl | rfl
   . exact .inl (Le F.nd hm)
   . refine .inr ⟨Le F.nd hm,?_⟩;refine e11 (Dq (n:=s.heap.objs.size+1) (acc:=[]) (.inl hm)) λc hc=>?_;refine e11 (Im hc) λc' hc'=>?_;rw [hc'];rfl
 have hLoc:env.locals=s.heap.objs.size:=by subst he';rfl
 have hCells:env.cells=cellsFrom (s.heap.objs.size+1) fd.scope.names []:=by subst he';rfl
 have hScope:env.scope=fd.scope:=by subst he';rfl
 have hFrame:env.frame=some env.locals:=by subst he';rfl
 have hGl:env.globals=fd.globals:=by subst he';rfl
 have hBl:env.builtins=fd.builtins:=by subst he';rfl
 have hKind:∀ y,env.kindOf y=fd.scope.names.lookup y:=λy=>by unfold Env.kindOf;rw [hScope]
 clear he';refine e22 x.done λh' tk zz2 _=>?_;subst zz2;have keep:∀ b o,s.heap.get? b=some o->h'.get? b=some o:=x.toInCall.keep;have cnd:(env.cells.map (·.1)).Nodup:=by rw [hCells];exact Gp F.nd List.nodup_nil λ_ _=>by simp
 have cge:∀ p∈env.cells,s.heap.objs.size+1<=p.2:=by rw [hCells];exact Gn (aU _) λp hp=>by cases hp
 let own:List Addr:=env.locals::env.cells.map (·.2)
 have ownd:∀ b∈own,s.heap.get? b=none/\∃ o,h'.get? b=some o:=λb hb=>by
  rcases aM.mp hb with rfl | hb
  . refine⟨by rw [hLoc];exact Bb _,?_⟩;refine e32 x.toInCall.ns λo _ _ ho _=>?_;exact⟨o,ho⟩
  . obtain ⟨⟨y,c⟩,hc,rfl⟩:=bL.mp hb;refine⟨cG (Nat.le_of_succ_le (cge _ hc)),?_⟩;refine e12 (x.cell y c (Le cnd hc)) λo ho _=>?_;exact⟨o,ho⟩
 have mv0:Mv Z [] own s.heap U J h' U J:=by
  have:=Mv.enter (Z:=Z) (as:=[]) (bs:=own) I keep ownd
  rwa [bW] at this
 have dj:∀ b∈own,b∉Z.fr:=Uw I λb hb=>(ownd b hb).1;have hLo:env.locals∈own:=.head _;have hCo:∀ y c,env.cells.lookup y=some c->c∈own:=λy c hc=>.tail _ (bL.mpr ⟨(y,c),mem_of_lookup hc,rfl⟩)
 let rs:Rs:=rsOf C.G fd.scope.names 0 λ_=>.stuck
 have key:∀ y,rs y=.stuck\/(∃ i,fd.scope.names[i]?=some (y,.local)/\env.kindOf y=some .local/\rs y=.var i)\/(∃ i,fd.scope.names[i]?=some (y,.cell)/\env.kindOf y=some .cell/\rs y=.cvar i)\/(∃ v,env.kindOf y=some .globalImplicit/\C.G y=some v/\rs y=.lit (.con v)):=λy=>by
  rcases Di (G:=C.G) (names:=fd.scope.names) (off:=0) (outer:=λ_=>.stuck) (x:=y) with q | ⟨i,k,h1,h2,⟨rfl,q⟩ | ⟨rfl,q⟩ | ⟨rfl,q⟩ | ⟨rfl,v,hg,q⟩⟩
  . exact .inl q
  . exact .inr (.inl ⟨i,h1,by rw [hKind];exact h2,by rw [show rs y=_ from q,Nat.zero_add]⟩)
  . exact .inr (.inr (.inl ⟨i,h1,by rw [hKind];exact h2,by rw [show rs y=_ from q,Nat.zero_add]⟩))
  . exact .inl q
  . exact .inr (.inr (.inr ⟨v,by rw [hKind];exact h2,hg,q⟩))
 have kvar:∀ {y i},rs y=.var i->fd.scope.names[i]?=some (y,.local)/\env.kindOf y=some .local:=λ{y i} h=>by
  rcases key y with q | ⟨j,h1,h2,q⟩ | ⟨j,h1,h2,q⟩ | ⟨v,h1,h2,q⟩ <;> rw [h] at q <;> (first | (injection q with cc1;subst cc1) | injection q)
  exact⟨h1,h2⟩
 have kcvar:∀ {y i},rs y=.cvar i->fd.scope.names[i]?=some (y,.cell)/\env.kindOf y=some .cell:=λ{y i} h=>by
  rcases key y with q | ⟨j,h1,h2,q⟩ | ⟨j,h1,h2,q⟩ | ⟨v,h1,h2,q⟩ <;> rw [h] at q <;> (first | (injection q with cc1;subst cc1) | injection q)
  exact⟨h1,h2⟩
 have ccell:∀ {y},env.kindOf y=some .cell->∃ c,env.cells.lookup y=some c:=λ{y} h=>by
  rw [hKind] at h;refine e11 (Dq (n:=s.heap.objs.size+1) (acc:=[]) (.inl (mem_of_lookup h))) λc hc=>?_;rw [hCells];exact Im hc
 have S:Am ((Z.callee env).sub own) C.G env rs:=by
  refine⟨by rw [hScope];exact F.kind,by rw [hGl,hBl];exact F.glob,aG _ hLo,λy c hc=>⟨aG _ (hCo y c hc),λq=>?_⟩,λy z c h1 h2=>name_of_addr x.apart (mem_of_lookup h1) (mem_of_lookup h2),λy=>?_,λy z i hy hz=>?_,λe he=>?_⟩
  . have:=x.above y c (mem_of_lookup hc);rw [q] at this;exact cZ _ this
  . rcases key y with q | ⟨i,h1,h2,q⟩ | ⟨i,h1,h2,q⟩ | ⟨v,h1,h2,q⟩
    . exact .inr (.inr (.inr q))
    . exact .inl ⟨i,q,h2⟩
    . refine e11 (ccell h2) λc hc=>?_;exact .inr (.inl ⟨i,c,q,.inl h2,F.cls _ (aO h1),hc⟩)
    . exact .inr (.inr (.inl ⟨v,q,h1,h2⟩))
  . have g:∀ {y},(rs y=.var i\/rs y=.cvar i)->∃ k,fd.scope.names[i]?=some (y,k):=λ{y} h=>h.elim (λh=>⟨_,(kvar h).1⟩) λh=>⟨_,(kcvar h).1⟩;refine e11 (g hy) λk h1=>?_;refine e11 (g hz) λk' h2=>?_;rw [h1] at h2;refine spE h2 λcc1 cc2=>?_;clear h2;subst cc1;subst cc2;rfl
  . rcases aM.mp he with rfl | he
    . exact⟨by rw [hScope];exact F.kind,_,hFrame,aG _ hLo⟩
    . obtain ⟨h1,L',h2,h3⟩:=OS.st e he;exact⟨h1,L',h2,aI _ h3⟩
 have hlw:ws.length=ns.length:=by rw [<- R.length];exact hl
 have D:Ag ((Z.callee env).sub own) env rs h' U J (λi=>ws[i]?):=by
  have getw:∀ {i:Nat} {av:AV} {y:Str} {k:NameKind},ws[i]?=some av->fd.scope.names[i]?=some (y,k)->∃ v,(y,v)∈ns.zip vals/\VRel h' (Vt (own++Z.fr) U J) U v av:=λ{i av y k} hw hn=>by
   have hi:=(aN.mp hw).1;refine e12 (R.get hw) λv hv rv=>?_;have hy:=bB (show i<ns.length by exact ltc (fk [ws.length,ns.length,i] [(1,(.v 0),(.v 1)),(1,(.a (.v 2) (.n 1)),(.v 0)),(1,(.v 1),(.v 2))] rfl (aD hlw) hi));refine e12 (par_at hy) λk' h2 _=>?_;rw [hn] at h2;refine spE h2 λcc1 cc2=>?_;clear h2;subst cc1;subst cc2;refine⟨v,aO (i:=i) (List.getElem?_zip_eq_some.mpr ⟨hy,hv⟩),rv.on mv0.on⟩
  refine⟨⟨_,x.toInCall.ns⟩,λe he L' hL'=>?_,λy i c e1 e2=>⟨_,x.cell y c e2⟩,λy i av m2 e1 e2 e3=>?_,λy i av c e1 e2 e3=>?_⟩
  . rcases aM.mp he with rfl | he
    . rw [hFrame] at hL';refine snE hL' λcc1=>?_;clear hL';subst cc1;exact⟨_,x.toInCall.ns⟩
    . refine e11 (OS.dy e he L' hL') λm hm=>?_;exact⟨m,hm.keeps keep⟩
  . have:=Ey x.toInCall.ns e3;subst this;refine e02 (kvar e1) λh1 h2=>?_;refine e12 (getw e2 h1) λv hv rv=>?_;exact⟨v,Adn bnd hv h2 _,rv⟩
  . refine e02 (kcvar e1) λh1 h2=>?_;refine e12 (getw e2 h1) λv hv rv=>?_;have:=x.cell y c e3;rw [Pz bnd hv (by rw [h2];decide)] at this;exact⟨v,this,rv⟩
 have O:Cd (Z.callee env) own env rs:=⟨⟨Z.envs,rfl⟩,hFrame,hLo,hCo,λy i h=>(kcvar h).2,dj⟩;have hfr:frames (env::Z.envs)=env.locals::frames Z.envs:=by show List.filterMap _ _=_;rw [List.filterMap_cons,hFrame]
 have outG:∀ {h2:Heap} {μ2:List Addr} {σ2:Sto},Mv (Z.callee env) own own h' U J h2 μ2 σ2->Mv Z [] own s.heap U J h2 μ2 σ2:=λmv=>mv0.trans mv.callee;refine⟨NL.keeps λb o e=>keep b o (I.base b o e),codeAny_func ?_⟩;refine e22 (Ado he) λr ρ1 hx hr=>?_;refine HB own env rs L.callee O S d body (λi=>ws[i]?) (s:={ s with heap:=h',toks:=tk}) mv0.inv D _ _ _ hx _ _ ?_;dsimp only;rcases hr with ⟨v,rfl,rfl⟩ | ⟨rfl,rfl⟩ | ⟨b,m,rfl,rfl⟩
 . intro fv h2 tk2 μ2 mv D2 fr;refine e12 fr.inv_ret λv' rv zz=>?_;subst zz;have m2:=outG mv;have m3:=Mv.out' (Z:=Z) m2.inv dj;exact an _ h2 tk2 μ2 (m2.trans m3).go (rv.on m3.on)
 . intro fv h2 tk2 μ2 mv D2 fr;have zz:=fr.inv_nxt;subst zz;have m2:=outG mv;exact an _ h2 tk2 μ2 (m2.trans (Mv.out' (Z:=Z) m2.inv dj)).go .none
 . intro xv hB h2 tk2 μ2 mv D2 fl;have m2:=outG mv;have m3:Mv Z own [] hB μ2 J' (hideAll hB own) μ2 J':=Mv.out m2.inv dj λb o n e=>hideAll_get _ e n;have hA:(Z.A.deeper env).frames=some (env::Z.envs):=Around.frames_deeper L.frames
   induction b using Bool.casesOn with
   | true=>
    refine e23 fl λex tk3 zz2 hm hl'=>?_;clear fl;subst zz2;refine wpAny_leaves_madeW hA hFrame (λb o q=>of_hideAll _ q) (Yb (Z:=(Z.callee env).sub own) S D2) hm λh3 t fl3 ht3 hn3 up3=>?_;have up:=(Heap.UpToSlots.of_keeps hm.keeps).trans up3;have n2:hB.get? t=none:=by
     cases q:hB.get? t with
     | none=>rfl
     | some o=>
      have hmem:t∈frames (env::Z.envs):=by
       by_cases z:t∈frames (env::Z.envs)
       . exact z
       . rw [hideAll_get _ q z] at hn3;exact nsn hn3
      refine e12 (List.mem_filterMap.mp hmem) λe' he' hf'=>?_;refine e11 (D2.outs e' he' t hf') λm' hm'=>?_;refine e33 (up.ns hm') λo1 es ep ho1 hd1 _=>?_;refine e23 ht3 λo2 k2 ho2 _ hd2=>?_;clear ht3;rw [ho1] at ho2;refine snE ho2 λcc1=>?_;clear ho2;subst cc1;rw [hd1] at hd2;injection hd2
    exact an (.ref ex) (hideAll hB own) h3 tk2 μ2 (m2.trans m3).go (Aaq hfr hLo rfl fl3 ht3 hm.new n2 up hl')
   | false=>
    obtain ⟨ex,t,tk3,rfl,fl2,ht,n1,n2,up,hl'⟩:=fl;refine wpAny_leaves_onW hA hFrame fl2 λh3 fl3 up3=>?_;exact an (.ref ex) (hideAll hB own) h3 tk2 μ2 (m2.trans m3).go (Aaq hfr hLo rfl fl3 (ht.of_slots up3) n1 n2 (up.trans up3) hl')
end
end
section
set_option backward.match.sparseCases true
structure Hom(C:Cx)(P:Bi)(g:Heap):Prop where
 fns:∀ a f,P.fn a=some f->∃ o fd body ns,Amp C g a f o fd body ns
 lim:g.NoLimit
 strm:∃ o fd,g.get? P.stream=some o/\o.data=.func fd
noncomputable def Ye(P:Bi)(n lv:Nat)(Z:Zt):Prop:=
 ∀ (a:Addr) {vs:List Value} {xs:List AV} {s:Shared} {U:List Addr} {J:Sto},Z.I s.heap U J->Amq Z s.heap->Ab s.heap (Z.V U J) U vs xs->At Z VR (Pi P n lv a xs) (call (.ref a) vs) s U J
noncomputable def Agx(P:Bi)(Z:Zt):Prop:=
 ∀ {v:Value} {b:List UInt8} {s:Shared} {U:List Addr} {J:Sto},Z.I s.heap U J->Amq Z s.heap->VRel s.heap (Z.V U J) U v (.bytes b)->At Z VR (Lj b) (call (.ref P.stream) [v]) s U J
section
variable{C:Cx}{P:Bi}{n lv d:Nat}{Z:Zt}{env:Env}{rs:Rs}{Y:Ae}{s:Shared}{U U':List Addr}{J J' J1:Sto}
theorem Amr(x:AV):[x].length<lim:=by rw [dL];unfold lim;decide
theorem Qa{h:Heap}{V:Addr->Prop}{vs:List Value}{x y:AV}(R:Ab h V U vs [x,y]):∃ v w,vs=[v,w]/\VRel h V U v x/\VRel h V U w y:=by
 refine e23 R.inv1 λv r1 Rv R1 zz4=>?_;subst zz4;refine e23 R1.inv1 λw r2 Rw R2 zz4=>?_;subst zz4;obtain rfl:=R2.inv0;exact⟨v,w,rfl,Rv,Rw⟩
theorem Agy{γ:Type}{f:Fn}{xs:List AV}{k:List AV->Ik.Internal.M γ}{r:Except Str γ×Sto}(e:((Hf f xs).bnd k) J=some r) :
 (f.va=true/\∃ v w,xs=[v,w]/\k [v,.tup [w]] J=some r)\/(f.va=false/\xs.length+f.df.length=f.np/\k (xs++f.df) J=some r):=by
 unfold Hf at e
 cases h:f.va with
 | true=>
  rw [h] at e;refine .inl ⟨rfl,?_⟩
  induction xs using List.casesOn with
  | nil=>exact nns e
  | cons v r=>
   induction r using List.casesOn with
   | nil=>exact nns e
   | cons w r=>
    induction r using List.casesOn with
    | nil=>exact⟨v,w,rfl,e⟩
    | cons _ _=>exact nns e
 | false=>
  rw [h] at e;by_cases h1:xs.length+f.df.length=f.np
  . rw [aC h1] at e;exact .inr ⟨rfl,h1,e⟩
  . rw [aP h1] at e;exact nns e
theorem Agz{h h':Heap}{v:Value}{q:Str}(k:∀ b o,h.get? b=some o->h'.get? b=some o)(x:h.CodeRec v q):h'.CodeRec v q:=let ⟨c,o,vs,t,e,ho,r⟩:=x;⟨c,o,vs,t,e,k c o ho,r⟩
theorem Ams{α:Type}{l:List α}{P:Prop}(h:l.length=2)(k:∀ x y,l=[x,y]->P):P:=by
 refine Nu (aD h.symm) λx y r q=>?_;subst q;exact k x y (aJ (λr=>x::y::r) (List.length_eq_zero_iff.mp (Nat.succ.inj (Nat.succ.inj h))))
theorem Adp(HM:Hom C P Z.g)(L:Z.Lv (lv+1))(HB:Agw C P n lv Z)(HS:Agx P Z):Ye P (n+1) (lv+1) Z:=by
 intro a vs xs s U J I OS R q J' e Q E an;have e':(if a=P.stream then one (Ji Lj) xs else (Ik.Internal.M.ofOpt (P.fn a)).bnd λf=>(Hf f xs).bnd λws=>(Fg P n lv (λi=>ws[i]?) f.body).val) J=some (q,J'):=e;by_cases ha:a=P.stream
 . rw [if_pos ha] at e';subst ha;refine Cp (Z:=Z) (f:=Ji Lj) R (λv x hv r=>?_) _ _ e' _ _ an;subst hv
   induction x using AV.casesOn with
   | bytes b=>exact HS I OS r
   | _=>exact .fail
 . rw [if_neg ha] at e';refine e12 (Rt e') λf hf e'=>?_;refine e41 (HM.fns a f hf) λo fd body ns F=>?_;refine wpAny_call (codeAny_call_function (by have:=L.deep;rw [show recursionLimit=1000 from rfl];exact ltc (fk [Z.A.depth,3*(lv+1)] [(1,(.a (.a (.a (.v 0) (.v 1)) (.n 60)) (.n 1)),(.n 900)),(1,(.n 1000),(.v 0))] rfl this)) (I.base _ _ F.here) F.data F.co F.gen F.bod (Agz I.base F.rec_) ?_);rcases Agy e' with ⟨h1,x,y,rfl,he⟩ | ⟨h1,h2,he⟩
   . refine e23 (Qa R) λv w zz2 Rv Rw=>?_;subst zz2;rcases F.bind with ⟨b1,_⟩ | ⟨n1,n2,_,rfl,b⟩ | ⟨_,_,_,_,_,_,b1,_⟩
     . rw [h1] at b1;exact ntf b1
     . rw [b];have G:=I.keep (h':=s.heap.push { cls:=.type "tuple",data:=.seq [w].toArray}) λb ob e=>aE _ e;refine aA (wpAny_newTuple (aH ?_) (by rw [sizeLine_eq];simp));exact Lf (s:={ s with heap:=s.heap.push { cls:=.type "tuple",data:=.seq [w].toArray}}) (E':=λe s'=>E e s') F HM.lim L HB G.inv
        ⟨OS.st,λe he L' hL'=>(OS.dy e he L' hL').imp λm hm=>hm.keeps λb o e=>aE _ e⟩ rfl (.cons (Rv.on G.on) (.cons (Zw I (.cons Rw .nil) (Amr _) G) .nil)) he (Ans.go (tk:=s.toks) G an)
     . rw [h1] at b1;exact ntf b1
   . rcases F.bind with ⟨_,b2,b3,b⟩ | ⟨_,_,b1,_⟩ | ⟨n1,n2,n3,T,oT,k,_,b2,b3,rfl,hT,hd,b⟩
     . rw [b2] at h2 he;rw [bW] at he;have hl:vs.length=ns.length:=R.length.trans (h2.trans b3);rw [b vs hl];exact aH (Lf F HM.lim L HB I OS hl R he an)
     . rw [h1] at b1;exact nft b1
     . rw [b2,b3] at h2;rw [b2] at he;refine Ams (Nat.succ.inj h2) λx y zz2=>?_;subst zz2;refine e23 (Qa R) λv w zz2 Rv Rw=>?_;subst zz2;refine b v w (λQ' hq=>dM (I.base _ _ hT) hd hq) ?_;exact Lf F HM.lim L HB I OS rfl (.cons Rv (.cons Rw (.cons .none .nil))) he an
theorem Amt{α:Type}{f:Addr->Ik.Internal.M α}{v:AV}{r:Except Str α×Sto}(e:Qm f v J=some r):∃ a,v=.con (.ref a)/\f a J=some r:=by
 induction v using AV.casesOn with
 | con c=>induction c using PySem.Value.casesOn with
  | ref a=>exact⟨a,rfl,e⟩
  | _=>exact nns e
 | _=>exact nns e
theorem Amu(HM:Hom C P Z.g)(W:Ye P n lv Z)(X:Ih C P n lv Z env rs Y)(S:Am Z C.G env rs)(I:Z.I s.heap U J)(D:Ag Z env rs s.heap U J Y){f:PySem.Expr}{as:List PySem.Expr}{pos:Pos}(hf:Dp f)(hp:Aq as=true) :
 At Z VR (evA P (n+1) lv Y (.call (cE C d rs f) (cEs C d rs as))) (eval (.Call f as [] pos) env) s U J:=by
 intro q J' e Q E an;rw [Cm hf];refine aA ((X.ev d f I D).use e an λfv v h1 tk1 μ1 σ1 G1 R1 e1=>?_);have a1:=an.go (tk:=tk1) G1;have D1:=D.go S G1;have e1:((evsA P n lv Y (cEs C d rs as)).bnd λvs=>Qm (λa=>Pi P n lv a vs) fv) σ1=some (q,J'):=e1;unfold M.bnd at e1
 cases he:evsA P n lv Y (cEs C d rs as) σ1 with
 | none=>rw [he] at e1;exact nns e1
 | some r=>
  obtain ⟨r,σ2⟩:=r;rw [he] at e1
  induction r using Except.casesOn with
  | error m=>
   refine spE e1 λcc1 cc2=>?_;clear e1;subst cc1;obtain rfl:=cc2.symm;unfold callWith;exact aA (cQ (cC (Jt (Q:=λ_ _=>False) hp (X.evs d as pos (s:={ s with heap:=h1,toks:=tk1}) G1.inv D1 _ _ he (λ_ _=>False) E a1)) (λ_ _ z=>z.elim) λ_ _ x=>x))
  | ok xs=>
   refine e12 (Amt (show Qm (λa=>Pi P n lv a xs) fv σ2=some (q,J') from e1)) λa zz1 e1=>?_;subst zz1;have zz9:=VRel.inv R1;subst zz9;have hfn:∃ o fd,Z.g.get? a=some o/\o.data=.func fd:=by
    induction n using Nat.casesAuxOn with
    | zero=>exact nns e1
    | succ n=>
     induction lv using Nat.casesAuxOn with
     | zero=>exact nns e1
     | succ lv=>
      by_cases ha:a=P.stream
      . subst ha;exact HM.strm
      . have e2:(if a=P.stream then one (Ji Lj) xs else (Ik.Internal.M.ofOpt (P.fn a)).bnd λf=>(Hf f xs).bnd λws=>(Fg P n lv (λi=>ws[i]?) f.body).val) σ2=some (q,J'):=e1;rw [if_neg ha] at e2;refine e12 (Rt e2) λf hfn _=>?_;refine e41 (HM.fns a f hfn) λo fd body ns F=>?_;exact⟨o,fd,F.here,F.data⟩
   refine e22 hfn λo fd ho hd=>?_;clear hfn;refine callWith_function (o:=o) (fd:=fd) (Jt hp (X.evs d as pos (s:={ s with heap:=h1,toks:=tk1}) G1.inv D1 _ _ he _ _ λvs h2 tk2 μ2 G2 R2=>?_));refine⟨⟨G2.inv.base _ _ ho,hd⟩,?_⟩;have D2:=D1.go S G2;exact W a (s:={ s with heap:=h2,toks:=tk2}) G2.inv ⟨S.outs,D2.outs⟩ R2 _ _ e1 _ _ (Ans.go (s:={ s with heap:=h1,toks:=tk1}) (tk:=tk2) G2 a1)
end
end
section
set_option backward.match.sparseCases true
noncomputable def Yi(Z:Zt):Prop:=
 ∀ {K:List (Addr×Obj)} {l a:Addr} {oc:List UInt8},Ko K l a oc->∃ (r:Addr) (o:Obj) (fd:FuncData),(r,o)∈K/\o.data=.func fd/\
  (∀ {s:Shared} {V:Addr->Prop} {pl:Sem Bool} {Q:Value×List Value->Shared->Prop} {E:Value->Shared->Prop},Em s.heap V K->(∀ tk,Q (.ref r,[]) { s with toks:=tk})->wpAny Z.M Z.A (getMethod (.ref a) (Str.ofString "read") pl) Q E s)/\
  ∀ {s:Shared} {U:List Addr} {J:Sto} {ws:List Value} {xs:List AV} {k:Nat},Z.I s.heap U J->Amq Z s.heap->Em s.heap (Z.V U J) K->U[k]?=some l->Ab s.heap (Z.V U J) U ws xs->At Z VR (methA (.strm oc k) .read xs) (call (.ref r) ws) s U J
section
variable{C:Cx}{P:Bi}{n lv d:Nat}{Z:Zt}{env:Env}{rs:Rs}{Y:Ae}{s:Shared}{U U':List Addr}{J J' J1:Sto}
theorem Amv(HR:Yi Z)(X:Ih C P n lv Z env rs Y)(S:Am Z C.G env rs)(I:Z.I s.heap U J)(D:Ag Z env rs s.heap U J Y){as:List PySem.Expr}{m:ME}{pos:Pos}{pl:Sem Bool}{v:Value}{a:AV}(hp:Aq as=true)(R:VRel s.heap (Z.V U J) U v a)(hs:Kx a=true)
 {q:Except Str AV} (e:((kindA a m).bnd λ_=>(M.still (evsA P n lv Y (cEs C d rs as))).bnd λvs=>methA a m vs) J=some (q,J')) {Q:Value->Shared->Prop} {E:Value->Shared->Prop} (an:Ans Z VR U J q J' Q E s) :
 wpAny Z.M Z.A (getMethod v (Str.ofString (meS m)) pl) (λr s1=>wpAny Z.M Z.A (callWith pos r.1 r.2 (backTo pos (starEach as env)) []) Q E s1) E s:=by
 induction a using AV.casesOn with
 | strm oc k=>
  induction m using ME.casesOn with
  | read=>
   refine e34 R.inv λa l K fz sh ek zz=>?_;subst zz;refine e34 (HR sh) λr o fd hr hd hg hc=>?_;refine hg fz λtk=>?_;have e1:((M.still (evsA P n lv Y (cEs C d rs as))).bnd λvs=>methA (.strm oc k) .read vs) J=some (q,J'):=e;unfold M.bnd M.still at e1
   cases he:evsA P n lv Y (cEs C d rs as) J with
   | none=>rw [he] at e1;exact nns e1
   | some z=>
    obtain ⟨z,σ2⟩:=z;rw [he] at e1
    induction z using Except.casesOn with
    | error m=>exact nns e1
    | ok xs=>
     dsimp only at e1;have fr0:Z.Go s.heap U J s.heap U J:=Go.refl I;refine callWith_function (o:=o) (fd:=fd) (Jt hp (X.evs d as pos (s:={ s with toks:=tk}) I D _ _ he _ _ λvs h2 tk2 μ2 G2 R2=>?_));have fz2:=fz.on G2.on;have D2:=D.go S G2;exact⟨⟨(fz2 _ hr).1,hd⟩,hc (s:={ s with heap:=h2,toks:=tk2}) G2.inv ⟨S.outs,D2.outs⟩ fz2 (It G2.on.mu ek) R2 _ _ e1 _ _ (Ans.go (s:={ s with toks:=tk}) (tk:=tk2) G2 (Ans.go (tk:=tk) fr0 an))⟩
  | _=>exact nns e
 | _=>exact nft hs
end
structure Zok(prog:Program)(w:World)(g:Heap)(lv:Nat)(Z:Zt):Prop where
 prog:Z.prog=prog
 w:Z.w=w
 g:Z.g=g
 lv:Z.Lv lv
theorem Zok.sub{prog:Program}{w:World}{g:Heap}{lv:Nat}{Z:Zt}{as:List Addr}(K:Zok prog w g lv Z):Zok prog w g lv (Z.sub as):=⟨K.prog,K.w,K.g,K.lv.sub⟩
structure Sg(P:Bi)(prog:Program)(w:World)(g:Heap):Prop where
 made:∀ {lv:Nat} {Z:Zt},Zok prog w g lv Z->Agx P Z
 rd:∀ {lv:Nat} {Z:Zt},Zok prog w g lv Z->Yi Z
structure Adq(C:Cx)(P:Bi)(prog:Program)(w:World)(g:Heap)(n:Nat):Prop where
 ih:∀ {lv:Nat} {Z:Zt} {env:Env} {rs:Rs} {Y:Ae},Zok prog w g lv Z->Am Z C.G env rs->Ih C P n lv Z env rs Y
 ifs:∀ {lv:Nat} {Z:Zt} {env:Env} {rs:Rs} {Y:Ae},Zok prog w g lv Z->Am Z C.G env rs->∀ (d:Nat) (es:List PySem.Expr) {s:Shared} {U:List Addr} {J:Sto},Z.I s.heap U J->Ag Z env rs s.heap U J Y->At Z EqR (Tv P n lv Y (cEs C d rs es)) (Gl es env) s U J
 it:∀ {lv:Nat} {Z:Zt} {env:Env} {rs:Rs} {Y:Ae},Zok prog w g lv Z->Am Z C.G env rs->∀ (d:Nat) (iter:PySem.Expr) {s:Shared} {U:List Addr} {J:Sto},Z.I s.heap U J->Ag Z env rs s.heap U J Y->Iw Z (itA P n lv Y (cI C d rs iter)) iter env s U J
 comp:∀ {lv:Nat} {Z:Zt},Zok prog w g lv Z->Ix C P n lv Z
 use:∀ {lv:Nat} {Z:Zt} {env:Env} {rs:Rs} {Y:Ae},Zok prog w g lv Z->Am Z C.G env rs->Aan C P n lv Z env rs Y
 xh:∀ {lv:Nat} {Z:Zt} {own:List Addr} {env:Env} {rs:Rs},Zok prog w g lv Z->Cd Z own env rs->Am (Z.sub own) C.G env rs->Xh C P n lv Z own env rs
 whl:∀ {lv:Nat} {Z:Zt} {own:List Addr} {env:Env} {rs:Rs},Zok prog w g lv Z->Cd Z own env rs->Am (Z.sub own) C.G env rs->Py C P n lv Z own env rs
 forr:∀ {lv:Nat} {Z:Zt} {own:List Addr} {env:Env} {rs:Rs},Zok prog w g lv Z->Cd Z own env rs->Am (Z.sub own) C.G env rs->Vd C P n lv Z own env rs
 call:∀ {lv:Nat} {Z:Zt},Zok prog w g lv Z->Ye P n lv Z
section
variable{C:Cx}{P:Bi}{prog:Program}{w:World}{g:Heap}{n:Nat}
set_option tactic.hygienic true in
theorem Adq.zero:Adq C P prog w g 0 where
 ih _ _:=Ih.zero
 ifs _ _ d es _ _ _ _ _:=.none rfl
 it _ _ d iter _ _ _ _ _:=.none rfl
 comp _:=by
  unfold Ix
  intros
  rename_i e hR;exact nns e
 use _ _:=λd elt gens sc pos u _ _ _ _ _ q J' e=>by exact nns e
 xh _ _ _:=⟨λ_=>Ih.zero,λ_ d elt gens sc pos u _ _ _ _ _ q J' e=>(by exact nns e),λ_ d iter _ _ _ _ _=>.none rfl,λd st Y _ _ _ _ _=>.none rfl,λd st Y _ _ _ _ _=>.none rfl⟩
 whl _ _ _:=λd c b Y _ _ _ _ _ r Y' J' e=>by exact nns e
 forr _ _ _:=λd t T ts it src b Y _ _ _ _ _ _ _ _ _ _ fl Y' J' e=>by exact nns e
 call _:=λa _ _ _ _ _ _ _ _=>.none rfl
theorem Adq.step(HM:Hom C P g)(HS:Sg P prog w g)(N:Adq C P prog w g n):Adq C P prog w g (n+1):=by
 have ih:∀ {lv:Nat} {Z:Zt} {env:Env} {rs:Rs} {Y:Ae},Zok prog w g lv Z->Am Z C.G env rs->Ih C P (n+1) lv Z env rs Y:=λ{lv Z env rs Y} K S=>
  Ih.step K.lv (N.ih K S) ⟨λd f as pos _ _ _ hf hp I D=>Amu (K.g▸HM) (N.call K) (N.ih K S) S I D hf hp,
   λd elt t iter ifs sc ts m pos _ _ _ hs ht I D=>Amj K.lv (λd iter=>N.it K S d iter I D) (N.comp K) S I D hs ht,
   λd as m pos pl _ _ _ _ _ hp I D R hs q J' e Q E an=>Amv (HS.rd K) (N.ih K S) S I D hp R hs e an⟩ S
 have it:∀ {lv:Nat} {Z:Zt} {env:Env} {rs:Rs} {Y:Ae},Zok prog w g lv Z->Am Z C.G env rs->∀ (d:Nat) (iter:PySem.Expr) {s:Shared} {U:List Addr} {J:Sto},Z.I s.heap U J->Ag Z env rs s.heap U J Y->Iw Z (itA P (n+1) lv Y (cI C d rs iter)) iter env s U J:=
  λK S d iter _ _ _ I D=>Amh K.lv (N.ih K S) S I D d iter
 have use:∀ {lv:Nat} {Z:Zt} {env:Env} {rs:Rs} {Y:Ae},Zok prog w g lv Z->Am Z C.G env rs->Aan C P (n+1) lv Z env rs Y:=
  λK S=>Agi K.lv (λd iter _ _ _ I D=>N.it K S d iter I D) (N.comp K) S
 exact {
  ih:=ih
  ifs:=λK S d es _ _ _ I D=>Age (N.ih K S) (λd es _ _ _ I D=>N.ifs K S d es I D) S I D d es
  it:=it
  comp:=λK=>Nw K.lv (λS=>N.ih K.sub S) (λS d es _ _ _ I D=>N.ifs K.sub S d es I D) (N.comp K)
  use:=use
  xh:=λK O S=>⟨λ_=>ih K.sub S,λ_=>use K.sub S,λ_ d iter _ _ _ I D=>it K.sub S d iter I D,
   λd st Y _ _ _ I D=>Amo K.lv (N.xh K O S) (N.whl K O S) (N.forr K O S) O S I D d st,
   λd st Y _ _ _ I D=>Agk (N.xh K O S) I D d st⟩
  whl:=λK O S=>Agp K.lv.frames (N.xh K O S) (N.whl K O S) O S
  forr:=λK O S=>Agr K.lv (λO' S'=>N.xh K.sub O' S') (N.forr K O S) O S
  call:=λ{lv Z} K=>by
   induction lv using Nat.casesAuxOn with
   | zero=>exact λa _ _ _ _ _ _ _ _=>.none rfl
   | succ lv=>exact Adp (K.g▸HM) K.lv (λown env rs L' O S d sts Y _ _ _ I D=>(N.xh (Z:=Z.callee env) ⟨K.prog,K.w,K.g,L'⟩ O S).exs d sts Y I D) (HS.made K)}
theorem Aar(HM:Hom C P g)(HS:Sg P prog w g):∀ n,Adq C P prog w g n
 | 0=>.zero
 | n+1=>(Aar HM HS n).step HM HS
end
end
end Ik.Internal
namespace Ik.Internal
open PySem PySem.Calls PyProof.Rows PySem.W PySem.SeqAt PySem.Builtin PySem.Builtin.ObjectAttr
section
set_option backward.match.sparseCases true
theorem Asj:typeLookup (.type "function") "__setattr__"=pure (some (.builtin "object.__setattr__")):=by rw [typeLookup_type,builtinLookup_eq_fast];kernel_rfl
theorem Ask:typeLookup (.type "function") "__getattribute__"=pure (some (.builtin "object.__getattribute__")):=by rw [typeLookup_type,builtinLookup_eq_fast];kernel_rfl
theorem Asl:typeLookup (.type "function") "__getattr__"=pure none:=by rw [typeLookup_type,builtinLookup_eq_fast];kernel_rfl
theorem Oi:typeLookup (.type "function") (Str.ofString "read")=pure none:=by rw [typeLookup_type,builtinLookup_eq_fast];kernel_rfl
theorem Aym:mroOf (.type "function")=pure [.type "function",.type "object"]:=by kernel_rfl
theorem Amw(self:Value):refuseLoop self "__setattr__" [.type "function",.type "object"]=pure ():=by
 unfold refuseLoop;simp only [List.forIn_cons]
 kernel_rfl
theorem Yj:Slot "function" "__setattr__" "object.__setattr__":=
 .of (owner:="object") (n:="__setattr__") Asj (by decide +kernel) (by decide +kernel) (by decide +kernel) (by first | exact .inl (by decide +kernel) | exact .inr (by decide +kernel)) (by rw [isSubtype_type];kernel_rfl)
theorem Sh:Slot "function" "__getattribute__" "object.__getattribute__":=
 .of (owner:="object") (n:="__getattribute__") Ask (by decide +kernel) (by decide +kernel) (by decide +kernel) (by first | exact .inl (by decide +kernel) | exact .inr (by decide +kernel)) (by rw [isSubtype_type];kernel_rfl)
section
variable{prog:Program}{w:World}{A:Around}{E:Value->Shared->Prop}{h:Heap}{g:Array GenState}{d:Drawn}{t:Nat}{os:OsState}{a:Addr}{o:Obj}{v:Value}
theorem Apr{M:Model}(ho:h.get? a=some o)(hc:o.cls=.type "function"){Q:Value->Shared->Prop}(hq:Q (.type "function") ⟨h,g,d,t,os⟩):wpAny M A (typeOf (.ref a)) Q E ⟨h,g,d,t,os⟩:=wpAny_typeOf (T:="function") ⟨_,ho,hc⟩ hq
theorem Si{tk:Tok}{Q:Fin->Shared->Prop}(ho:h.get? a=some o)(hc:o.cls=.type "function")(hd:o.dict=none)(hf:∃ fd,o.data=.func fd)
 (hq:∀ h' tk',h'.get? a=some { o with dict:=some h.objs.size}->(∀ b ob,b≠a->h.get? b=some ob->h'.get? b=some ob)->h'.Ns h.objs.size (λy=>if y=Str.ofString "read" then some v else none)->Q (.done (.ret .none)) ⟨h',g,d,tk',os⟩) :
 wpAny (model prog w) A (Builtin.«object.__setattr__» ⟨[.ref a,.str (Str.ofString "read") tk,v],[]⟩) Q E ⟨h,g,d,t,os⟩:=by
 have hpass:=Amw (.ref a);unfold Builtin.«object.__setattr__»
 repeat (first | rw [refuse_eq] | rw [hpass] | rw [Aym] | rw [Oi] | (with_reducible refine Apr ho hc ?_) | wp_step)
 obtain ⟨oc,od,odt,osl⟩:=o;dsimp only at hc hd;subst hc hd;obtain ⟨fd,hf⟩:=hf;dsimp only at hf;subst hf;rw [show (!true||!typeHasDict (.type "function"))=false by decide +kernel];dsimp only;have hx1:(h.push { cls:=.type "dict",data:=.dict #[]}).get? a=some _:=aE _ ho;have hxs:a≠h.objs.size:=aW (cR ho);refine aA (wpAny_alloc' ?_);refine aA (wpAny_update' hx1 ?_);unfold dictMade;dsimp only;rw [show finalisedInACycleAlone "function"=false by decide +kernel];refine aH ?_;have hgd:((h.push { cls:=.type "dict",data:=.dict #[]}).update a λo=>{ cls:=o.cls,dict:=some h.objs.size,data:=o.data,slots:=o.slots}).get? h.objs.size
  = some { cls:=.type "dict",data:=.dict #[]}:=
  (Heap.get?_update_ne _ _ _ _ hxs.symm).trans (Heap.get?_push_at rfl rfl)
 have hnd:((h.push { cls:=.type "dict",data:=.dict #[]}).update a λo=>{ cls:=o.cls,dict:=some h.objs.size,data:=o.data,slots:=o.slots}).Ns h.objs.size (λ_=>none):=
  ⟨_,#[],_,hgd,rfl,λe he=>absurd he (by simp),λ_=>rfl⟩
 show wpAny _ _ (storeInDict h.objs.size (.str (Str.ofString "read") tk) (Str.ofString "read") v) _ _ _;unfold storeInDict newKeyGuard;refine aA (aH (aA (wpAny_nsSet1 (Heap.Ns1.of_empty hnd) λh' hn' hs=>?_)));refine e33 (hn'.count (Within.cons (Str.ofString "read") v Within.nil)) λoD esD epD hoD hdD hcD=>?_;refine aA (wpAny_lookBehind hoD (by rw [hdD];exact pastItsLine_dict (bA hcD (by rw [bE,List.length_nil,sizeLine_eq];exact lec (fk [] [(1,(.a (.a (.n 16777216) (.n 1)) (.n 1)),(.a (.n 0) (.n 1)))] rfl)))) ?_);have hx':h'.get? a=some { cls:=.type "function",dict:=some h.objs.size,data:=.func fd,slots:=osl}:=(hs.2 a hxs).trans (dJ _ hx1 rfl);refine aH (hq h' _ hx' (λb ob hb e=>?_) hn'.ns);exact (hs.2 b (aW (cR e))).trans ((Heap.get?_update_ne _ _ _ _ hb).trans (aE _ e))
theorem Yk{Q:Unit->Shared->Prop}{s:Shared}(ho:s.heap.get? a=some o)(hc:o.cls=.type "function")(hd:o.dict=none)(hf:∃ fd,o.data=.func fd)
 (hq:∀ h' tk',h'.get? a=some { o with dict:=some s.heap.objs.size}->(∀ b ob,b≠a->s.heap.get? b=some ob->h'.get? b=some ob)->h'.Ns s.heap.objs.size (λy=>if y=Str.ofString "read" then some v else none)->Q () { s with heap:=h',toks:=tk'}) :
 wpAny (model prog w) A (setAttr (.ref a) (Str.ofString "read") v) Q E s:=by
 have hT:s.TypeIs (.ref a) "function":=⟨_,ho,hc⟩;unfold setAttr;refine aA (wpAny_mkText (aA (wpAny_callSpecial?_slot (T:="function") hT Yj (wpAny_call (codeAny_call_builtin Yj.plain PySem.F.entry_object_setattr (Yj.check _ _ _ _ _ _ _ _ hT (PySem.F.args_object_setattr_3 _ _ _) ?_))))));refine Si ho hc hd hf λh' tk' e1 e2 e3=>?_;exact aH (hq h' tk' e1 e2 e3)
theorem Sj{Q:PySem.Fin->Shared->Prop}{D:Addr}{m:Str->Option Value}{tk:Tok}(ho:h.get? a=some o)(hc:o.cls=.type "function")(hd:o.dict=some D)(hf:∃ fd,o.data=.func fd)(hn:h.Ns D m)(hm:m (Str.ofString "read")=some v)
 (hq:Q (.done (.ret v)) ⟨h,g,d,t,os⟩):wpAny (model prog w) A (Builtin.«object.__getattribute__» ⟨[.ref a,.str (Str.ofString "read") tk],[]⟩) Q E ⟨h,g,d,t,os⟩:=by
 obtain ⟨oc,od,odt,osl⟩:=o;dsimp only at hc hd;subst hc hd;obtain ⟨fd,hf⟩:=hf;dsimp only at hf;subst hf;unfold Builtin.«object.__getattribute__»
 repeat (first | rw [Oi] | (with_reducible refine Apr ho rfl ?_) | (with_reducible refine wpAny_nsGet hn ?_;rw [hm]) | (with_reducible refine wpAny_loadPart_at ho ?_) | wp_step)
 exact hq
theorem Aha:(Manifest.canonical "object.__getattribute__" != "object.__getattribute__")=false:=by decide +kernel
theorem Adr{s:Shared}{pl:Sem Bool}{Q:Value×List Value->Shared->Prop}{D:Addr}{m:Str->Option Value}(ho:s.heap.get? a=some o)(hc:o.cls=.type "function")(hd:o.dict=some D)(hf:∃ fd,o.data=.func fd)(hn:s.heap.Ns D m){r:Addr}(hm:m (Str.ofString "read")=some (.ref r))
 (hq:Q (.ref r,[]) { s with toks:=s.toks+1}):wpAny (model prog w) A (getMethod (.ref a) (Str.ofString "read") pl) Q E s:=by
 obtain ⟨h,g,d,t,os⟩:=s;have hT:(⟨h,g,d,t,os⟩:Shared).TypeIs (.ref a) "function":=⟨_,ho,hc⟩;have hT1:(⟨h,g,d,t+1,os⟩:Shared).TypeIs (.ref a) "function":=⟨_,ho,hc⟩;have f1:=Sh.lookup;have f4:=Sh.bind (.ref a);have f2:=Asl;have f3:=Oi;unfold getMethod;refine aA (wpAny_specialOf hT f1 ?_);show wpAny _ A (if (Manifest.canonical "object.__getattribute__" != "object.__getattribute__")=true then _ else _) Q E _;rw [Aha,if_neg (by decide)]
 repeat (any_goals (first | assumption | wp_step))
 refine codeAny_call_builtin Sh.plain PySem.F.entry_object_getattribute (Sh.check _ _ _ _ _ _ _ _ hT1 (PySem.F.args_object_getattribute_2 _ _) (Sj ho hc hd hf hn hm ?_));exact aH (aH hq)
end
end
end Ik.Internal
namespace Ik.Internal
open PySem PySem.Calls PyProof.Rows PySem.W
section
set_option backward.match.sparseCases true
section
variable{M:Model}{A:Around}{E Q:Value->Shared->Prop}{s:Shared}{h h':Heap}{env:Env}{mg:Str->Option Value}{Ok:Addr->Prop}{cr cl:Addr}{clos:List (Str×Addr)}
noncomputable def Yl(Ok:Addr->Prop)(h:Heap)(cr cl:Addr):Prop:=
 h.get? An=some (Zv cr cl)/\h.CodeRec (.ref cr) Bw/\h.CodeRec (.ref cl) Hw/\Ok cr/\Ok cl
noncomputable def Ahb(Ok:Addr->Prop)(h:Heap):Prop:=h.get? An=some (tabObj #[])\/∃ cr cl,Yl Ok h cr cl
noncomputable def Ads(Ok:Addr->Prop)(h:Heap)(cr:Addr):Prop:=(h.get? An=some (tabObj #[rawInt Jm.line,rawInt Jm.col,.ref cr])/\h.CodeRec (.ref cr) Bw/\Ok cr)\/∃ cl,Yl Ok h cr cl
noncomputable abbrev Aps(h h':Heap):Prop:=∀ b o,b≠An->h.get? b=some o->h'.get? b=some o
theorem Bj{v:Value}{q:Str}(k:∀ b o,h.get? b=some o->h'.get? b=some o)(x:h.CodeRec v q):h'.CodeRec v q:=let ⟨c,o,vs,t,e,ho,r⟩:=x;⟨c,o,vs,t,e,k c o ho,r⟩
theorem Yl.keep(k:∀ b o,h.get? b=some o->h'.get? b=some o)(x:Yl Ok h cr cl):Yl Ok h' cr cl:=⟨k _ _ x.1,Bj k x.2.1,Bj k x.2.2.1,x.2.2.2⟩
theorem Ahb.keep(k:∀ b o,h.get? b=some o->h'.get? b=some o)(x:Ahb Ok h):Ahb Ok h':=x.imp (k _ _) λ⟨a,b,y⟩=>⟨a,b,y.keep k⟩
theorem Ads.keep(k:∀ b o,h.get? b=some o->h'.get? b=some o)(x:Ads Ok h cr):Ads Ok h' cr:=x.imp (λ⟨a,b,c⟩=>⟨k _ _ a,Bj k b,c⟩) λ⟨b,y⟩=>⟨b,y.keep k⟩
theorem Md{c:Addr}{q:Str}{ps:Array Value}(hP:h.get? An=some (tabObj ps))(hn:∀ a b r,ps.toList=a::b::r->∀ x t,b≠.str x t)(x:h.CodeRec (.ref c) q):c≠An:=by
 refine e44 x λc' o vs t e ho hd hv=>?_;clear x;injection e with cc1;subst cc1
 rintro rfl
 rw [hP] at ho;refine snE ho λcc1=>?_;clear ho;subst cc1;injection hd with cc1;subst cc1
 cases hl:ps.toList with
 | nil=>
  have:ps=#[]:=by simpa using hl
  subst this;simp at hv
 | cons a r=>
  induction r using List.casesOn with
  | nil=>rw [<- dI,hl] at hv;simp at hv
  | cons b r=>
   rw [<- dI,hl] at hv;simp at hv;exact hn a b r hl _ _ hv
theorem Amx(hcl:closureFor (Fi Bu) env=pure clos)(hge:env.globals=mainGlobals)(hg:s.heap.Ns mainGlobals mg)(hc:env.code=.ref 232)(C:CodeHd s.heap 232 An)(hb:s.heap.BuiltinsAt mg An)(hT:Ahb Ok s.heap)(hO:∀ x,s.heap.get? x=none->Ok x)
 (hQ:∀ f cr ctv doc h' tk,Aps s.heap h'->s.heap.get? f=none->h'.get? f=some (fnMade Ci Bw Ge Gf (Fi Bu) clos doc ((mg "__name__").getD .none) cr ctv)->Ads Ok h' cr->Q (.ref f) { s with heap:=h',toks:=tk}) :
 wpAny M A (makeFunction Ci Bw Ge (.stmts Gf) (Fi Bu) env [] [] [] Jm Jm.line) Q E s:=by
 rcases hT with hP | ⟨cr,cl,hP,h1,h2,h3,h4⟩
 . refine makeFunction_K hcl hge hg hc C hP trivial rfl (by decide) hb λc' ctv doc h' tk hx hge' hlt hrec htb=>?_;have hn:s.heap.get? h'.objs.size=none:=cG (by exact lec (fk [s.heap.objs.size,c',h'.objs.size] [(1,(.v 0),(.v 1)),(1,(.a (.v 1) (.n 1)),(.v 2)),(1,(.a (.v 2) (.n 1)),(.v 0))] rfl hge' hlt));refine hQ h'.objs.size c' ctv doc _ tk (λb o hb' e=>aE _ (hx b o hb' e)) hn (aS _ rfl) (.inl ⟨?_,Bj (λb o e=>aE _ e) hrec,hO _ (cG hge')⟩);have:=aE (fnMade Ci Bw Ge Gf (Fi Bu) clos doc ((mg "__name__").getD .none) c' ctv) htb;simpa using this
 . refine makeFunction_hit (cv:=.ref cr) hcl hge hg hc C hP (by simp [TriplesOk,rawInt]) (by simp [codeAmong,rawInt]) hb λctv doc h' tk hk hsz=>?_;have hn:s.heap.get? h'.objs.size=none:=cG hsz;have k:∀ b o,s.heap.get? b=some o->(h'.push (fnMade Ci Bw Ge Gf (Fi Bu) clos doc ((mg "__name__").getD .none) cr ctv)).get? b=some o:=λb o e=>aE _ (hk b o e);exact hQ h'.objs.size cr ctv doc _ tk (λb o _ e=>k b o e) hn (aS _ rfl) (.inr ⟨cl,k _ _ hP,Bj k h1,Bj k h2,h3,h4⟩)
theorem Asm{lps:Arguments}{le:PySem.Expr}{lsc:Scope}(hcl:closureFor lsc env=pure [])(hge:env.globals=mainGlobals)(hg:s.heap.Ns mainGlobals mg)(hc:env.code=.ref 232)(C:CodeHd s.heap 232 An)(hb:s.heap.BuiltinsAt mg An)(hT:Ads Ok s.heap cr)(hO:∀ x,s.heap.get? x=none->Ok x)
 (hQ:∀ f cl fd h' tk,Aps s.heap h'->s.heap.get? f=none->h'.get? f=some { cls:=.type "function",data:=.func fd}->Yl Ok h' cr cl->Q (.ref f) { s with heap:=h',toks:=tk}) :
 wpAny M A (makeFunction "<lambda>" Hw lps (.expr le) lsc env [] [] [] Ir Ir.line) Q E s:=by
 rcases hT with ⟨hP,h1,h3⟩ | ⟨cl,hP,h1,h2,h3,h4⟩
 . have hnt:cr≠An:=Md hP (λa b r e x t=>by simp [rawInt] at e;rw [<- e.2.1];nofun) h1;refine kla_makeFunction hcl hge hg hc C hP (by simp [TriplesOk,rawInt]) ?_ (by decide) hb λc' ctv h' tk hx hge' hlt hrec htb=>?_
   . simp only [codeAmong,rawInt];rw [if_neg (by decide)]
   have hn:s.heap.get? h'.objs.size=none:=cG (by exact lec (fk [s.heap.objs.size,c',h'.objs.size] [(1,(.v 0),(.v 1)),(1,(.a (.v 1) (.n 1)),(.v 2)),(1,(.a (.v 2) (.n 1)),(.v 0))] rfl hge' hlt));refine hQ h'.objs.size c' _ _ tk (λb o hb' e=>aE _ (hx b o hb' e)) hn (aS _ rfl) ⟨?_,?_,Bj (λb o e=>aE _ e) hrec,h3,hO _ (cG hge')⟩
   . have:=aE (kla_obj "<lambda>" Hw lps le lsc [] ((mg "__name__").getD .none) c' ctv) htb;exact this
   . refine e43 h1 λc o vs t e ho r=>?_;clear h1;injection e with cc1;subst cc1;exact⟨cr,o,vs,t,rfl,aE _ (hx cr o hnt ho),r⟩
 . refine kla_makeFunctionHit (cv:=.ref cl) hcl hge hg hc C hP (by simp [TriplesOk,rawInt]) ?_ hb λctv h' tk hk hsz=>?_
   . simp only [codeAmong,rawInt];rw [if_neg (by decide)];simp [codeAmong]
   have hn:s.heap.get? h'.objs.size=none:=cG hsz;refine hQ h'.objs.size cl _ _ tk (λb o _ e=>aE _ (hk b o e)) hn (aS _ rfl) ?_;have k:∀ b o,s.heap.get? b=some o->(h'.push (kla_obj "<lambda>" Hw lps le lsc [] ((mg "__name__").getD .none) cl ctv)).get? b=some o:=λb o e=>aE _ (hk b o e);exact⟨k _ _ hP,Bj k h1,Bj k h2,h3,h4⟩
end
end
end Ik.Internal
namespace Ik.Internal
open PySem PySem.Calls PyProof.Rows PySem.W PySem.SeqAt PySem.Builtin
section
set_option backward.match.sparseCases true
noncomputable def Cr:List (Str×NameKind):=[(Ap,.cell),(Ci,.local),(Fh,.local),(Bk,.cell)]
structure Ahc(g:Heap)(G:Str->Option Value)(a:Addr)(o:Obj)(fd:FuncData)(mg:Str->Option Value):Prop where
 here:g.get? a=some o
 data:o.data=.func fd
 bod:fd.body=.stmts Ud
 clo:fd.closure=[]
 rec_:g.CodeRec fd.code fd.qualname
 code:fd.code=.ref 232
 hd:CodeHd g 232 An
 qual:fd.qualname=Str.ofString "_law_stream"
 glb:fd.globals=mainGlobals
 blt:fd.builtins=builtinsNs
 scope:fd.scope=Fi Cr
 bind:∀ v:Value,bindArgs fd ⟨[v],[]⟩=pure [(Ap,v)]
 ns:g.Ns mainGlobals mg
 bat:g.BuiltinsAt mg An
 lim:g.NoLimit
 glob:Kz g mainGlobals builtinsNs G
 gmin:G Ub=some (.builtin "min")
 glen:G Uc=some (.builtin "len")
theorem Oj(n:Nat):cellsFrom n Cr []=[(Bk,n+1),(Ap,n)]:=rfl
theorem Sk{α:Type}(a b:α):List.lookup Bk [(Bk,a),(Ap,b)]=some a:=by rw [cD,show (Bk == Bk)=true by decide]
theorem Sl{α:Type}(a b:α):List.lookup Ap [(Bk,a),(Ap,b)]=some b:=by rw [cD,show (Ap == Bk)=false by decide,cD,show (Ap == Ap)=true by decide]
theorem Adt{env:Env}{a b:Addr}(hc:env.cells=[(Bk,a),(Ap,b)]):closureFor (Fi Bu) env=pure [(Bk,a),(Ap,b)]:=by
 have h1:cellOf env Bk=pure a:=by unfold cellOf;rw [hc,Sk]
 have h2:cellOf env Ap=pure b:=by unfold cellOf;rw [hc,Sl]
 unfold closureFor Fi Bu;simp only [List.forIn_cons,List.forIn_nil,show (NameKind.local == NameKind.free)=false by decide,show (NameKind.free == NameKind.free)=true by decide,show (NameKind.globalImplicit == NameKind.free)=false by decide,if_true,Bool.false_eq_true,if_false,h1,h2];rfl
theorem Ahd(env:Env):closureFor (Fi []) env=pure []:=rfl
section
variable{G mg:Str->Option Value}{lv:Nat}{Z:Zt}{a:Addr}{o:Obj}{fd:FuncData}{s:Shared}{U:List Addr}{J:Sto}
theorem Ayn{G:Prop}(k:∀ G':Prop,(G->G')->G'):G:=k G id
theorem Ahe{M:Model}{A:Around}{α:Type}{t:Sem α}{s:Shared}{Q:α->Shared->Prop}{E:Value->Shared->Prop}(P:(α->Shared->Prop)->Prop)(h:P Q)(k:∀ Q' E',P Q'->wpAny M A t Q' E' s):wpAny M A t Q E s:=k Q E h
theorem Amy{γ:Type}{f:Unit->Ik.Internal.M γ}{r:Except Str γ×Sto}(e:(Zn.bnd f) J=some r):∃ n,J[0]?=some (.tbl n)/\f () J=some r:=by
 unfold Zn Ik.Internal.M.bnd Ik.Internal.M.get at e
 cases h:J[0]? with
 | none=>rw [h] at e;exact nns e
 | some o=>
  rw [h] at e
  induction o using Al.casesOn with
  | tbl n=>exact⟨n,rfl,e⟩
  | _=>exact nns e
theorem Ahf{γ:Type}{k:Nat}{f:Nat->Ik.Internal.M γ}{r:Except Str γ×Sto}(e:((Ql k).bnd f) J=some r):∃ n,J[k]?=some (.spot n)/\f n J=some r:=by
 unfold Ql Ik.Internal.M.bnd Ik.Internal.M.get at e
 cases h:J[k]? with
 | none=>rw [h] at e;exact nns e
 | some o=>
  rw [h] at e
  induction o using Al.casesOn with
  | spot n=>exact⟨n,rfl,e⟩
  | _=>exact nns e
theorem Vg{h h':Heap}{a:Addr}{m:Str->Option Value}(x:h.Ns a m)(k:∀ o,h.get? a=some o->h'.get? a=some o):h'.Ns a m:=x.imp λ_ x=>x.imp λ_ x=>x.imp λ_ x=>⟨k _ x.1,x.2⟩
theorem Amz{h:Heap}{a:Addr}{v:Option Value}(x:h.IsCell a v):a<h.objs.size:=x.elim λ_ x=>cR x.1
theorem Adu{h h':Heap}{a:Addr}{v:Option Value}(x:h.IsCell a v)(k:∀ o,h.get? a=some o->h'.get? a=some o):h'.IsCell a v:=x.imp λ_ x=>⟨k _ x.1,x.2⟩
theorem Vh{h h':Heap}{m:Str->Option Value}{a:Addr}(x:h.BuiltinsAt m a)(k:∀ b o,h.get? b=some o->h'.get? b=some o):h'.BuiltinsAt m a:=let ⟨bm,ob,b1,b2,b3,b4,b5,b6⟩:=x;⟨bm,ob,b1,b2,b3,b4,k _ _ b5,b6⟩
theorem Ana(L:Z.Lv lv)(SG:Ahc Z.g G a o fd mg){v:Value}{b:List UInt8}(I:Z.I s.heap U J)(R:VRel s.heap (Z.V U J) U v (.bytes b)):At Z VR (Lj b) (call (.ref a) [v]) s U J:=by
 intro q J' e Q E an;refine e23 R.inv λarr t hz zz3 zz4=>?_;subst zz3;subst zz4;obtain ⟨N,hN⟩:∃ N,s.heap.objs.size=N:=⟨_,rfl⟩;refine e12 (Amy e) λn hp0 e=>?_;have e':q=.ok (.strm arr.toList (J.set 0 (.tbl 1)).length)/\J'=J.set 0 (.tbl 1)++[.spot 0]:=by refine spE e λcc1 cc2=>?_;clear e;subst cc1;subst cc2;exact⟨rfl,rfl⟩
 refine e02 (e') λzz0 zz1=>?_;clear e';subst zz0;subst zz1;refine Ayn λG0 hG0=>?_;refine e11 (I.mu hp0) λta hmu=>?_;refine e02 (I.obj hmu hp0) λzz0 hT=>?_;subst zz0;have hg0:Z.g.get? An=none:=I.out _ (aO hmu);have hVt:Z.V U J An:=.inl ⟨0,_,hmu,hp0,rfl⟩;have baseN:∀ b o,Z.g.get? b=some o->b≠An:=λb o e q=>by rw [q,hg0] at e;exact nns e
 refine hG0 ?_;refine wpAny_call (codeAny_call_function (by have:=L.deep;rw [show recursionLimit=1000 from rfl];exact ltc (fk [Z.A.depth,3*lv] [(1,(.a (.a (.a (.v 0) (.v 1)) (.n 60)) (.n 1)),(.n 900)),(1,(.n 1000),(.v 0))] rfl this)) (I.base _ _ SG.here) SG.data (by rw [SG.scope];rfl) (by rw [SG.scope];rfl) SG.bod (by
  refine e44 SG.rec_ λc oc ws t h1 h2 h3 h4=>?_;exact⟨c,oc,ws,t,h1,I.base _ _ h2,h3,h4⟩) ?_)
 rw [SG.bind,SG.clo,SG.scope];refine aH ?_;refine wpAny_newFunctionEnv_cells rfl (λp hp=>?_) λenv he s' x=>?_
 . have:p=(Ap,.bytes arr t):=by simpa using hp
   subst this;rw [show (Fi Cr).names=Cr from rfl,Oj];exact .inr ⟨rfl,by rw [Sl];rfl⟩
 have hLoc:env.locals=N:=by subst he;exact hN
 have hCells:env.cells=[(Bk,N+2),(Ap,N+1)]:=by subst he;show cellsFrom _ Cr _=_;rw [Oj,hN]
 have hScope:env.scope=Fi Cr:=by subst he;rfl
 have hGl:env.globals=mainGlobals:=by subst he;exact SG.glb
 have hCode:env.code=.ref 232:=by subst he;exact SG.code
 have hQual:env.qual=Str.ofString "_law_stream"++".<locals>.":=by subst he;show fd.qualname++_=_;rw [SG.qual]
 have hKind:∀ y,env.kindOf y=Cr.lookup y:=λy=>by unfold Env.kindOf;rw [hScope];rfl
 have hsk:env.scope.kind=.function:=by rw [hScope];rfl
 clear he;refine e22 x.done λh1 tk1 zz2 _=>?_;subst zz2;have keep1:∀ b o,s.heap.get? b=some o->h1.get? b=some o:=x.toInCall.keep;have hc1:env.cells.lookup Ap=some (N+1):=by rw [hCells,Sl]
 have hc2:env.cells.lookup Bk=some (N+2):=by rw [hCells,Sk]
 have cell1:h1.IsCell (N+1) (some (.bytes arr t)):=by
  have:=x.cell _ _ hc1
  rwa [Pz (x:=Ap) (v:=.bytes arr t) (by simp) (by simp) (by rw [hKind];decide)] at this
 have cell2:h1.IsCell (N+2) none:=by
  have:=x.cell _ _ hc2;have e0:bindC env.kindOf [(Ap,Value.bytes arr t)] (λ_=>none) Bk=none:=by
   unfold bindC;rw [if_neg (by rw [hKind];decide)];exact if_neg (t:=some (Value.bytes arr t)) (show ¬ (Bk=Ap) by decide)
  rwa [e0] at this
 have hns:h1.Ns N _:=hLoc▸x.toInCall.ns;have low:∀ {b:Nat} {o:Obj},s.heap.get? b=some o->b<N:=λe=>hN▸cR e;refine⟨SG.lim.keeps λb o e=>keep1 b o (I.base b o e),codeAny_func (Ahe (λQ'=>∀ v s',Q v s'->Q' (.ret v) s') (λv s' h=>h) λQ' E' hQ=>?_)⟩;have hk2:env.kindOf Bk=some .cell:=by rw [hKind];rfl
 have hkR:env.kindOf Ci=some .local:=by rw [hKind];rfl
 have hkS:env.kindOf Fh=some .local:=by rw [hKind];rfl
 have hp:(env.scope.kind == .class||(env.scope.kind == .module&&env.locals != env.globals))=false:=by rw [hsk];rfl
 have hN1:N+2<h1.objs.size:=Amz cell2;refine dF (wpAny_Assign_Name (wpAny_List (cW (wpAny_Constant_int (dS ⟨by rw [sizeLine_eq];simp,?_⟩)))));dsimp only;refine wpAny_storeName_cell hsk hk2 hc2 (Adu cell2 λo ho=>aE _ ho) λh3 cell3 sb3=>?_;dsimp only at sb3;obtain ⟨l,hl⟩:∃ l,h1.objs.size=l:=⟨_,rfl⟩;rw [hl] at hN1;have keep3:∀ b o,b≠N+2->h1.get? b=some o->h3.get? b=some o:=λb o hb e=>sb3.extBut b o hb (aE _ e);have hl3:h3.get? l=some { cls:=.type "list",data:=.seq [Value.int 0 tk1].toArray}:=sb3.extBut l _ (bT (by exact ltc (fk [N,l] [(1,(.a (.a (.v 0) (.n 2)) (.n 1)),(.v 1)),(1,(.v 1),(.a (.v 0) (.n 2)))] rfl hN1))) (by rw [<- hl];exact aS _ rfl);have old3:∀ b o,s.heap.get? b=some o->h3.get? b=some o:=λb o e=>keep3 b o (aW (by have:=low e;exact ltc (fk [b,N] [(1,(.a (.v 0) (.n 1)),(.v 1)),(1,(.a (.v 1) (.n 2)),(.v 0))] rfl this))) (keep1 b o e);have base3:∀ b o,Z.g.get? b=some o->h3.get? b=some o:=λb o e=>old3 b o (I.base b o e)
 let Ok:Addr->Prop:=λx=>¬ Z.V U J x/\x≠l
 have hO:∀ {h:Heap},(∀ b,(∃ o,h3.get? b=some o)->∃ o,h.get? b=some o)->∀ x,h.get? x=none->Ok x:=λ{h} k x hx=>by
  refine⟨λq=>?_,λq=>?_⟩
  . refine e11 (I.vt_lt q) λo ho=>?_;refine e11 (k x ⟨o,old3 x o ho⟩) λo' ho'=>?_;rw [hx] at ho';exact nns ho'
  . subst q;refine e11 (k x ⟨_,hl3⟩) λo' ho'=>?_;rw [hx] at ho';exact nns ho'
 have hTA:Ahb Ok h3:=by
  rcases hT with ⟨_,h⟩ | ⟨_,cr,cl,K,fz,c1,c2,h⟩
  . exact .inl (old3 _ _ h)
  . have key:∀ {c:Addr} {qq:Str},Qr K c qq->h3.CodeRec (.ref c) qq/\Ok c:=λ{c qq} ⟨o,vs,t,hm,hd,hv⟩=>
     ⟨⟨c,o,vs,t,rfl,old3 _ _ (fz _ hm).1,hd,hv⟩,(fz _ hm).2,aW (by have:=low (fz _ hm).1;exact ltc (fk [N,l,(c,o).fst] [(1,(.a (.a (.v 0) (.n 2)) (.n 1)),(.v 1)),(1,(.a (.v 2) (.n 1)),(.v 0)),(1,(.v 1),(.v 2))] rfl hN1 this))⟩
    exact .inr ⟨cr,cl,old3 _ _ h,(key c1).1,(key c2).1,(key c1).2,(key c2).2⟩
 have hns3:h3.Ns N _:=Vg hns λo ho=>keep3 N o (aW (by exact ltc (fk [N] [(1,(.a (.v 0) (.n 2)),(.v 0))] rfl))) ho;have htN:@LT.lt Nat instLTNat An N:=by refine e11 (I.there _ (aO hmu)) λo ho=>?_;exact low ho
 refine dF (nestDef_K rfl rfl rfl ?_);have hq1:qualnameIn env Ci Ci=Bw:=by
  unfold qualnameIn;rw [hkR,if_neg (by decide),hQual];decide
 rw [hq1];refine Amx (Ok:=Ok) (Adt hCells) hGl (SG.ns.keeps base3) hCode (SG.hd.keeps base3) (Vh SG.bat base3) hTA (hO λ_ h=>h) λf cr ctv doc h4 tk4 k4 hf hfo hTB=>?_;dsimp only;have there4:∀ b,(∃ o,h3.get? b=some o)->∃ o,h4.get? b=some o:=λb ⟨o,e⟩=>by
  by_cases q:b=An
  . subst q;rcases hTB with ⟨h,_⟩ | ⟨_,h,_⟩ <;> exact⟨_,h⟩
  . exact⟨o,k4 b o q e⟩
 have hns4:h4.Ns N _:=Vg hns3 λo ho=>k4 N o (bT (by exact ltc (fk [An,N] [(1,(.a (.v 0) (.n 1)),(.v 1)),(1,(.v 1),(.v 0))] rfl htN))) ho;refine wpAny_storeName_local hkR (hLoc▸hns4) (λh5 hns5 sb5=>?_) hp;rw [hLoc] at hns5 sb5;dsimp only at sb5;have k5:∀ b o,b≠N->h4.get? b=some o->h5.get? b=some o:=sb5.extBut;have hfN:f≠N:=λq=>by refine e32 hns3 λo _ _ ho _=>?_;clear hns3;rw [<- q,hf] at ho;exact nns ho
 have hfo5:=k5 f _ hfN hfo;have there5:∀ b,(∃ o,h3.get? b=some o)->∃ o,h5.get? b=some o:=λb q=>by
  refine e11 (there4 b q) λo e=>?_;by_cases q:b=N
  . subst q;refine e32 hns5 λo _ _ ho _=>?_;clear hns5;exact⟨o,ho⟩
  . exact⟨o,k5 b o q e⟩
 have base5:∀ b o,Z.g.get? b=some o->h5.get? b=some o:=λb o e=>k5 b o (aW (by have:=low (I.base b o e);exact ltc (fk [b,N] [(1,(.a (.v 0) (.n 1)),(.v 1)),(1,(.v 1),(.v 0))] rfl this))) (k4 b o (baseN b o e) (base3 b o e));have hTB5:Ads Ok h5 cr:=by
  have kk:∀ {c:Addr} {qq:Str},h4.CodeRec (.ref c) qq->h5.CodeRec (.ref c) qq:=λ{c qq} ⟨c',o,vs,t,e,ho,r⟩=>⟨c',o,vs,t,e,k5 c' o (λq=>by
   subst q;refine e33 hns4 λo2 _ _ ho2 hd2 _=>?_;clear hns4;rw [ho] at ho2;refine snE ho2 λcc1=>?_;clear ho2;subst cc1;rw [r.1] at hd2;injection hd2) ho,r⟩
  rcases hTB with ⟨h,c1,c2⟩ | ⟨cl,h,c1,c2,c3,c4⟩
  . exact .inl ⟨k5 _ _ (aW (by exact ltc (fk [An,N] [(1,(.a (.v 0) (.n 1)),(.v 1)),(1,(.v 1),(.v 0))] rfl htN))) h,kk c1,c2⟩
  . exact .inr ⟨cl,k5 _ _ (aW (by exact ltc (fk [An,N] [(1,(.a (.v 0) (.n 1)),(.v 1)),(1,(.v 1),(.v 0))] rfl htN))) h,kk c1,kk c2,c3,c4⟩
 refine dF (wpAny_Assign_Name (kla_eval rfl ?_));have hq2:env.qual++"<lambda>"=Hw:=by rw [hQual];decide
 rw [hq2];refine Asm (Ok:=Ok) (Ahd env) hGl (SG.ns.keeps base5) hCode (SG.hd.keeps base5) (Vh SG.bat base5) hTB5 (hO there5) λa' cl fd' h6 tk6 k6 ha' hao hF=>?_;dsimp only;have hns6:h6.Ns N _:=Vg hns5 λo ho=>k6 N o (bT (by exact ltc (fk [An,N] [(1,(.a (.v 0) (.n 1)),(.v 1)),(1,(.v 1),(.v 0))] rfl htN))) ho;refine wpAny_storeName_local hkS (hLoc▸hns6) (λh7 hns7 sb7=>?_) hp;rw [hLoc] at hns7 sb7;dsimp only at sb7;have k7:∀ b o,b≠N->h6.get? b=some o->h7.get? b=some o:=sb7.extBut;have haN:a'≠N:=λq=>by refine e32 hns5 λo _ _ ho _=>?_;clear hns5;rw [<- q,ha'] at ho;exact nns ho
 have hao7:=k7 a' _ haN hao;have hfa:f≠a':=λq=>by rw [q,ha'] at hfo5;exact nns hfo5
 have hft:f≠An:=λq=>by rw [q] at hf;have:=old3 _ _ (I.there _ (aO hmu)).choose_spec;rw [hf] at this;exact nns this
 have hfo7:=k7 f _ hfN (k6 f _ hft hfo5);have hrn:Ci≠Fh:=by decide
 refine dF (plainObj_wpAny_Assign_Attribute (cX (dN (v:=.ref f) hsk hkR (hLoc▸hns7) (by rw [if_neg hrn,if_pos rfl]) (cX (dN (v:=.ref a') hsk hkS (hLoc▸hns7) (by rw [if_pos rfl]) (Yk hao7 rfl rfl ⟨_,rfl⟩ λh8 tk8 e1 e2 e3=>?_))))));dsimp only at e1 e2 e3;have hns8:h8.Ns N _:=Vg hns7 λo ho=>e2 N o haN.symm ho;refine dF (wpAny_Return_some (cX (dN (v:=.ref a') hsk hkS (hLoc▸hns8) (by rw [if_pos rfl]) ?_)));refine hQ (.ref a') { s with heap:=h8,toks:=tk8} ?_;have hd7:h7.get? h7.objs.size=none:=Bb _;generalize hd:h7.objs.size=d at *;have k38:∀ b o,b≠An->b≠N->h3.get? b=some o->h8.get? b=some o:=λb o n1 n2 e=>by
  have e5:=k5 b o n2 (k4 b o n1 e);have e7:=k7 b o n2 (k6 b o n1 e5);exact e2 b o (λq=>by rw [q,ha'] at e5;exact nns e5) e7
 have k18:∀ b o,b≠An->s.heap.get? b=some o->h8.get? b=some o:=λb o n e=>k38 b o n (aW (by have:=low e;exact ltc (fk [b,N] [(1,(.a (.v 0) (.n 1)),(.v 1)),(1,(.v 1),(.v 0))] rfl this))) (old3 b o e);have hF8:Yl Ok h8 cr cl:=by
  refine e05 hF λf1 f2 f3 f4 f5=>?_;clear hF;have kk:∀ {b:Addr} {o:Obj},(∀ es ep,o.data≠.dict es ep)->(∀ fd,o.data≠.func fd)->h6.get? b=some o->h8.get? b=some o:=λ{b o} n1 n2 e=>by
   have e7:=k7 b o (λq=>by
    subst q;refine e33 hns6 λo2 es ep ho2 hd2 _=>?_;clear hns6;rw [e] at ho2;refine snE ho2 λcc1=>?_;clear ho2;subst cc1;exact n1 es ep hd2) e
   exact e2 b o (λq=>by subst q;rw [hao7] at e7;refine snE e7 λcc1=>?_;clear e7;subst cc1;exact n2 _ rfl) e7
  have kc:∀ {c:Addr} {qq:Str},h6.CodeRec (.ref c) qq->h8.CodeRec (.ref c) qq:=λ{c qq} ⟨c',o,vs,t,e,ho,hd,r⟩=>⟨c',o,vs,t,e,kk (λ_ _ q=>by rw [hd] at q;injection q) (λ_ q=>by rw [hd] at q;injection q) ho,hd,r⟩;exact⟨kk (λ_ _ q=>by injection q) (λ_ q=>by injection q) f1,kc f2,kc f3,f4,f5⟩
 refine e05 hF8 λF1 F2 F3 F4 F5=>?_;clear hF8;refine e44 F2 λcr' ocr vcr tcr q1 C1 C2 C3=>?_;clear F2;injection q1 with cc1;subst cc1;refine e44 F3 λcl' ocl vcl tcl q1 D1 D2 D3=>?_;clear F3;injection q1 with cc1;subst cc1;refine e33 (id e3) λod es ep O1 O2 O3=>?_;refine e12 cell1 λoc1 A1 A2=>?_;clear cell1;refine e12 cell3 λoc2 B1 B2=>?_;clear cell3;have hl8:h8.get? l=some { cls:=.type "list",data:=.seq [Value.int 0 tk1].toArray}:=k38 l _ (bT (by exact ltc (fk [N,l,An] [(1,(.a (.a (.v 0) (.n 2)) (.n 1)),(.v 1)),(1,(.a (.v 2) (.n 1)),(.v 0)),(1,(.v 1),(.v 2))] rfl hN1 htN))) (bT (by exact ltc (fk [N,l] [(1,(.a (.a (.v 0) (.n 2)) (.n 1)),(.v 1)),(1,(.v 1),(.v 0))] rfl hN1))) hl3;have A8:h8.get? (N+1)=some oc1:=k38 _ _ (bT (by exact ltc (fk [An,N] [(1,(.a (.v 0) (.n 1)),(.v 1)),(1,(.a (.v 1) (.n 1)),(.v 0))] rfl htN))) (bT (by exact ltc (fk [N] [(1,(.a (.v 0) (.n 1)),(.v 0))] rfl))) (keep3 _ _ (aW (by exact ltc (fk [N] [(1,(.a (.v 0) (.n 2)),(.a (.v 0) (.n 1)))] rfl))) A1);have B8:h8.get? (N+2)=some oc2:=k38 _ _ (bT (by exact ltc (fk [An,N] [(1,(.a (.v 0) (.n 1)),(.v 1)),(1,(.a (.v 1) (.n 2)),(.v 0))] rfl htN))) (bT (by exact ltc (fk [N] [(1,(.a (.v 0) (.n 2)),(.v 0))] rfl))) B1;have f8:h8.get? f=some (fnMade Ci Bw Ge Gf (Fi Bu) [(Bk,N+2),(Ap,N+1)] doc ((mg "__name__").getD .none) cr ctv):=e2 f _ hfa hfo7;have okN:∀ {x:Addr},s.heap.get? x=none->x≠l->Ok x:=λh n=>⟨I.new h,n⟩;have fresh:∀ {x:Addr},N<=x->s.heap.get? x=none:=λh=>cG (by omega);have fresh3:∀ {x:Addr},h3.get? x=none->s.heap.get? x=none:=λ{x} h=>by
  cases q:s.heap.get? x with
  | none=>rfl
  | some o=>rw [old3 x o q] at h;exact nsn h
 have ol:∀ {x:Addr} {o:Obj},h8.get? x=some o->(∀ k,o.data≠.seq [Value.int 0 tk1].toArray k)->x≠l:=λ{x o} e n q=>by
  subst q;rw [hl8] at e;refine snE e λcc1=>?_;clear e;subst cc1;exact n _ rfl
 have fr_t:∀ b∈Z.fr,b≠An:=λb hb q=>(I.frs b hb).1 (q▸aO hmu);have olde:∀ {x:Addr},s.heap.get? x=none->x≠l->¬ Z.V U J x:=λh _=>I.new h;have notV1:∀ {x:Addr},Ok x->¬ Vt Z.fr U (J.set 0 (.tbl 1)) x:=λ{x} h q=>h.1 (q.imp (λq=>Qu q λo ho=>by rw [hp0] at ho;refine snE ho λcc1=>?_;clear ho;subst cc1;rfl) id);have G1:Z.Go s.heap U J (hideAll h8 [l]) U (J.set 0 (.tbl 1)):=by
  have hk:∀ b o,b≠l->h8.get? b=some o->(hideAll h8 [l]).get? b=some o:=λb o n e=>hideAll_get _ e (by simpa using n);refine I.turn (ao':=.tbl 1) hmu hp0 rfl (λb o n _ e=>hk b o (aW (by have:=low e;exact ltc (fk [N,l,b] [(1,(.a (.a (.v 0) (.n 2)) (.n 1)),(.v 1)),(1,(.a (.v 2) (.n 1)),(.v 0)),(1,(.v 1),(.v 2))] rfl hN1 this))) (k18 b o n e)) (λb hb=>.of λo e=>hk b o (aW (by have:=low e;exact ltc (fk [N,l,b] [(1,(.a (.a (.v 0) (.n 2)) (.n 1)),(.v 1)),(1,(.a (.v 2) (.n 1)),(.v 0)),(1,(.v 1),(.v 2))] rfl hN1 this))) (k18 b o (fr_t b hb) e)) ⟨_,hk _ _ (aW (by exact ltc (fk [N,l,An] [(1,(.a (.a (.v 0) (.n 2)) (.n 1)),(.v 1)),(1,(.a (.v 2) (.n 1)),(.v 0)),(1,(.v 1),(.v 2))] rfl hN1 htN))) F1⟩ λon=>⟨rfl,.inr ⟨by decide,cr,cl,[(cr,ocr),(cl,ocl)],?_,⟨ocr,vcr,tcr,by simp,C2,C3⟩,⟨ocl,vcl,tcl,by simp,D2,D3⟩,hk _ _ (aW (by exact ltc (fk [N,l,An] [(1,(.a (.a (.v 0) (.n 2)) (.n 1)),(.v 1)),(1,(.a (.v 2) (.n 1)),(.v 0)),(1,(.v 1),(.v 2))] rfl hN1 htN))) F1⟩⟩;intro p hp';rcases aM.mp hp' with rfl | hp'
  . exact⟨hk _ _ F4.2 C1,notV1 F4⟩
  . rw [aQ] at hp';subst hp';exact⟨hk _ _ F5.2 D1,notV1 F5⟩
 have G2:Z.Go (hideAll h8 [l]) U (J.set 0 (.tbl 1)) h8 (U++[l]) (J.set 0 (.tbl 1)++[.spot 0]):=
  G1.inv.alloc (ao:=.spot 0) (λb o _ e=>of_hideAll _ e) (λb _=>.of λo e=>of_hideAll _ e) (hideAll_none _ (.head _)) ⟨_,hl8⟩ λ_=>⟨tk1,_,hl8⟩
 refine an (.ref a') h8 tk8 (U++[l]) (G1.trans G2) (.strm (l:=l) (K:=[(a',{ cls:=.type "function",dict:=some d,data:=.func fd',slots:=#[]}),(d,od),(f,fnMade Ci Bw Ge Gf (Fi Bu) [(Bk,N+2),(Ap,N+1)] doc ((mg "__name__").getD .none) cr ctv),(cr,ocr),(N+1,oc1),(N+2,oc2)]) ?_ ?_ ?_)
 . have notV:∀ {x:Addr},Ok x->¬ Z.V (U++[l]) (J.set 0 (.tbl 1)++[.spot 0]) x:=λ{x} h q=>by
    rcases q with q | q
    . rcases Wk (by simp [I.len]) q with z | z
      . exact notV1 h (.inl z)
      . exact h.2 z
    . exact h.1 (.inr q)
   intro p hp';simp only [aM,bH,or_false] at hp';rcases hp' with rfl | rfl | rfl | rfl | rfl | rfl
   . refine⟨e1,notV (okN ?_ (ol e1 λk q=>by injection q))⟩
     cases q:s.heap.get? a' with
     | none=>rfl
     | some o=>
      refine e11 (there5 a' ⟨o,old3 _ _ q⟩) λo' e'=>?_;rw [ha'] at e';exact nns e'
   . refine⟨O1,notV (okN ?_ (ol O1 λk q=>by rw [O2] at q;injection q))⟩
     cases q:s.heap.get? d with
     | none=>rfl
     | some o=>
      by_cases z:d=An
      . exfalso
        rw [z] at O1;rw [F1] at O1;refine snE O1 λcc1=>?_;clear O1;subst cc1;injection O2
      . have:=k7 d o (aW (by have:=low q;exact ltc (fk [d,N] [(1,(.a (.v 0) (.n 1)),(.v 1)),(1,(.v 1),(.v 0))] rfl this))) (k6 d o z (k5 d o (aW (by have:=low q;exact ltc (fk [d,N] [(1,(.a (.v 0) (.n 1)),(.v 1)),(1,(.v 1),(.v 0))] rfl this))) (k4 d o z (old3 d o q))));rw [hd7] at this;exact nns this
   . exact⟨f8,notV (okN (fresh3 hf) (ol f8 λk q=>by injection q))⟩
   . exact⟨C1,notV F4⟩
   . exact⟨A8,notV (okN (fresh (by omega)) (aW (by omega)))⟩
   . exact⟨B8,notV (okN (fresh (by omega)) (aW (by omega)))⟩
 . exact⟨_,d,od,f,_,doc,_,ctv,cr,N+1,N+2,oc1,oc2,arr,t,.head _,rfl,rfl,⟨_,rfl⟩,rfl,.tail _ (.head _),λh e=>⟨_,⟨od,es,ep,e,O2,O3⟩,by rw [if_pos rfl]⟩,.tail _ (.tail _ (.head _)),⟨ocr,vcr,tcr,by simp,C2,C3⟩,Sl _ _,Sk _ _,by simp,A2,rfl,hz,by simp,hl▸B2⟩
 . simp [I.len]
end
end
section
set_option backward.match.sparseCases true
section
variable{G mg:Str->Option Value}{lv:Nat}{Z:Zt}{a:Addr}{o:Obj}{fd:FuncData}{s:Shared}{U:List Addr}{J:Sto}
theorem Aas{g:Heap}{env:Env}{M:Model}{A:Around}{E Q:Value->Shared->Prop}{x:Str}{v:Value}(hG:Kz g env.globals env.builtins G)(hk:env.scope.kind=.function)(hx:env.kindOf x=some .globalImplicit)(hv:G x=some v)(b:∀ b o,g.get? b=some o->s.heap.get? b=some o)(hq:Q v s):wpAny M A (loadName env x) Q E s:=by
 refine e23 hG λmg mb h1 h2 h3=>?_;clear hG;rw [loadName_read hk hx];rcases h3 x v hv with h | ⟨ha,hb⟩
 . exact loadGlobal_global (h1.keeps b) h hq
 . exact loadGlobal_builtin (h1.keeps b) ha (h2.keeps b) hb hq
theorem Adv(clos:List (Str×Addr))(doc pm ctv:Value)(c:Addr){fd:FuncData}(h:(fnMade Ci Bw Ge Gf (Fi Bu) clos doc pm c ctv).data=.func fd)(v:Value):bindArgs fd ⟨[v],[]⟩=pure [(Jl,v)]:=by
 injection h with h;subst h;kernel_rfl
theorem Anb(L:Z.Lv lv)(SG:Ahc Z.g G a o fd mg):Yi Z:=by
 intro K l a' oc sh;obtain ⟨oa,d,od,r,clos,doc,pm,ctv,c',c1,c2,o1,o2,arr,tb,s1,s2,s3,s4,s5,s6,s7,s9,s10,s11,s12,s13,s14,s15,s16,s17,s18⟩:=sh;refine⟨r,_,_,s9,rfl,λ{s V pl Q E} fz hq=>?_,λ{s U J ws xs k} I OS fz ek R=>?_⟩
 . refine e12 (s7 s.heap (fz _ s6).1) λm hn hm=>?_;exact Adr (fz _ s1).1 s2 s3 s4 hn hm (hq _)
 . intro q J' e Q E an;refine Cp (Z:=Z) (f:=Kl (Zm oc k)) R (λw0 a0 hw r0=>Mi r0 λn tn hn0=>?_) q J' e Q E an;subst hw hn0;clear e an Q E J' q;intro q J' e Q E an;refine e02 (Ce e) λhn e'=>?_;have hn:=aB hn;refine e12 (Ahf e') λsp ho e'=>?_;have e2:q=.ok (.bytes ((oc.drop sp).take (min oc.length (sp+n.toNat) - sp)))/\J'=J.set k (.spot (min oc.length (sp+n.toNat))):=by refine spE e' λcc1 cc2=>?_;clear e';subst cc1;subst cc2;exact⟨rfl,rfl⟩
   refine e02 e2 λzz0 zz1=>?_;clear e2;subst zz0;subst zz1;refine e21 (I.obj ek ho) λt0 m0 hl0=>?_;refine e33 s10 λoc' vc tc q1 q2 q3=>?_;clear s10;have hoc:arr.toList=oc:=s15;subst hoc;have base:∀ b o,Z.g.get? b=some o->s.heap.get? b=some o:=I.base;refine wpAny_call (codeAny_call_function (by have:=L.deep;rw [show recursionLimit=1000 from rfl];exact ltc (fk [Z.A.depth,3*lv] [(1,(.a (.a (.a (.v 0) (.v 1)) (.n 60)) (.n 1)),(.n 900)),(1,(.n 1000),(.v 0))] rfl this)) (fz _ s9).1 rfl rfl rfl rfl ⟨c',oc',vc,tc,rfl,(fz _ q1).1,q2,q3⟩ ?_);rw [Adv _ _ _ _ _ rfl];refine aH ?_;dsimp only;refine wpAny_newFunctionEnv (show ∀ x∈Bu,x.2≠NameKind.cell by decide) (λx hx=>by
    rw [aQ.mp hx];rfl) (λh1 hns hs1=>?_) rfl
   generalize he:newEnv (Fi Bu) s.heap.objs.size mainGlobals clos _ (some r) (.ref c') none builtinsNs=env;have hLoc:env.locals=s.heap.objs.size:=by subst he;rfl
   have hCells:env.cells=clos:=by subst he;rfl
   have hScope:env.scope=Fi Bu:=by subst he;rfl
   have hGl:env.globals=mainGlobals:=by subst he;rfl
   have hBl:env.builtins=builtinsNs:=by subst he;rfl
   have hKind:∀ y,env.kindOf y=Bu.lookup y:=λy=>by unfold Env.kindOf;rw [hScope];rfl
   have hsk:env.scope.kind=.function:=by rw [hScope];rfl
   clear he;have k1:∀ b o,s.heap.get? b=some o->h1.get? b=some o:=λb o e=>hs1.extBut b o (aW (cR e)) (aE _ e);refine⟨SG.lim.keeps λb o e=>k1 b o (base b o e),codeAny_func (Ahe (λQ'=>∀ v s',Q v s'->Q' (.ret v) s') (λv s' h=>h) λQ' E' hQ=>?_)⟩;have low:∀ {b:Nat} {o:Obj},s.heap.get? b=some o->b<s.heap.objs.size:=λe=>cR e;generalize hN:s.heap.objs.size=N at *;have kB:env.kindOf Hv=some .local:=by rw [hKind];rfl
   have kC:env.kindOf Jl=some .local:=by rw [hKind];rfl
   have kO:env.kindOf Ap=some .free:=by rw [hKind];rfl
   have kS:env.kindOf Bk=some .free:=by rw [hKind];rfl
   have kM:env.kindOf Ub=some .globalImplicit:=by rw [hKind];rfl
   have kL:env.kindOf Uc=some .globalImplicit:=by rw [hKind];rfl
   have hp:(env.scope.kind == .class||(env.scope.kind == .module&&env.locals != env.globals))=false:=by rw [hsk];rfl
   have hG:Kz Z.g env.globals env.builtins G:=by rw [hGl,hBl];exact SG.glob
   have cS:env.cells.lookup Bk=some c2:=by rw [hCells];exact s12
   have cO:env.cells.lookup Ap=some c1:=by rw [hCells];exact s11
   have f1:=fz _ s13;have f2:=fz _ s17;have hVl:Z.V U J l:=.inl ⟨k,_,ek,ho,rfl⟩;have n1l:c1≠l:=λq=>f1.2 (q▸hVl);have n2l:c2≠l:=λq=>f2.2 (q▸hVl);have lN:∀ {b:Nat} {o:Obj},s.heap.get? b=some o->b≠N:=λe=>aW (low e);have hzs:arr.size<lim:=s16;have hlen:arr.toList.length=arr.size:=by simp
   rw [hlen] at an;refine dF (wpAny_Assign_Name (Ju (cX (wpAny_loadName_free hsk kS cS (v:=.ref l) ⟨o2,k1 _ _ f2.1,s18⟩ (wpAny_Constant_int ⟨Jv ⟨m0,k1 _ _ hl0⟩,wpAny_getItem_list (LX.isList ⟨m0,k1 _ _ hl0⟩) (by decide) (by decide) (x:=.int (sp:Int) t0) rfl ?_⟩) (by decide)))));refine wpAny_storeName_local kB (hLoc▸hns) (λh2 hns2 sb2=>?_) hp;rw [hLoc] at hns2 sb2;have k2:∀ b o,s.heap.get? b=some o->h2.get? b=some o:=λb o e=>sb2.extBut b o (lN e) (k1 b o e);refine dF (wpAny_Assign_Subscript ?_);rw [Cm (show Dp (.Name Ub (pp 280 18 21)) from trivial)];refine aA (cX (Aas hG hsk kM SG.gmin (λb o e=>k2 b o (base b o e)) ?_));refine Gh rfl (La (bi:=.min) rfl) (cW ?_);rw [Cm (show Dp (.Name Uc (pp 280 22 25)) from trivial)];refine aA (cX (Aas hG hsk kL SG.glen (λb o e=>k2 b o (base b o e)) ?_));refine Gh rfl (La (bi:=.len) rfl) (cW (cX (wpAny_loadName_free hsk kO cO (v:=.bytes arr tb) ⟨o1,k2 _ _ f1.1,s14⟩ (dS ?_) (by decide))));refine PySem.W.len_bytes (Bq hzs).2.2 ?_;dsimp only;refine cW (wpAny_BinOp (cX (dN (v:=.int (sp:Int) t0) hsk kB (hLoc▸hns2) (by rw [if_pos rfl]) (cX (dN (v:=.int n tn) hsk kC (hLoc▸hns2) (by rw [if_neg (by decide)];simp) (PyProof.Rows.add_int (dS ?_)))))));refine min_two_ints L.hand λh3 tk3 k23=>?_;dsimp only;have k3:∀ b o,s.heap.get? b=some o->h3.get? b=some o:=λb o e=>k23 b o (k2 b o e);have hv:∀ u1 u2,∃ tv,(if ((sp:Int)+n)<((arr.size:Nat):Int) then Value.int ((sp:Int)+n) u1 else .int (arr.size:Nat) u2)=.int ((min arr.size (sp+n.toNat):Nat):Int) tv:=λu1 u2=>by
    by_cases hc:((sp:Int)+n)<((arr.size:Nat):Int)
    . rw [if_pos hc];exact⟨_,by congr 1;omega⟩
    . rw [if_neg hc];exact⟨_,by congr 1;omega⟩
   rw [(hv _ _).choose_spec];generalize (hv _ _).choose=tv;generalize hmin:min arr.size (sp+n.toNat)=nw at *;have hl3:h3.get? l=some (listOf #[.int (sp:Int) t0] m0):=k3 _ _ hl0;refine cX (wpAny_loadName_free hsk kS cS (v:=.ref l) ⟨o2,k3 _ _ f2.1,s18⟩ (wpAny_Constant_int (ki_setAt hl3 (by decide) (by decide) (by simp) ?_)) (by decide));dsimp only;have oth:∀ b,b≠l->(h3.update l (Obj.mapSeq (·.setIfInBounds (0:Int).toNat (.int (nw:Int) tv)))).get? b=h3.get? b:=λb hb=>dP _ _ (Ne.symm hb);refine e11 (Po (h:=h3) (l:=l) (vs:=[.int (sp:Int) t0]) (ws:=[.int (nw:Int) tv]) ⟨m0,hl3⟩ (·.setIfInBounds (0:Int).toNat (.int (nw:Int) tv)) rfl) λm4 hl4=>?_;generalize h3.update l (Obj.mapSeq (·.setIfInBounds (0:Int).toNat (.int (nw:Int) tv)))=h4 at *;have k4:∀ b o,b≠l->s.heap.get? b=some o->h4.get? b=some o:=λb o hb e=>(oth b hb).trans (k3 b o e);have hns4:h4.Ns N _:=Vg hns2 λo ho=>(oth N (lN hl0).symm).trans (k23 N o ho);refine dF (wpAny_Return_some (Ju (cX (wpAny_loadName_free hsk kO cO (v:=.bytes arr tb) ⟨o1,k4 _ _ n1l f1.1,s14⟩ (wpAny_Slice ?_) (by decide)))));show wpAny _ _ (eval (.Name Hv (pp 281 22 27)) env) _ _ _;refine cX (dN (v:=.int (sp:Int) t0) hsk kB (hLoc▸hns4) (by rw [if_pos rfl]) ?_);show wpAny _ _ (eval (Zu 281 28) env) _ _ _;refine Ju (cX (wpAny_loadName_free hsk kS cS (v:=.ref l) ⟨o2,k4 _ _ n2l f2.1,s18⟩ (wpAny_Constant_int ⟨Jv ⟨m4,hl4⟩,wpAny_getItem_list (LX.isList ⟨m4,hl4⟩) (by decide) (by decide) (x:=.int (nw:Int) tv) rfl ?_⟩) (by decide)));refine aH ⟨⟨"bytes",_,typeIs_bytes _ _ _,FB.slot_bytes_getitem.lookup⟩,getItem_meets (typeIs_bytes _ _ _) (by decide) FB.slot_bytes_getitem FB.entry_bytes_getitem (FB.args_bytes_getitem_2 _ _) (KBc.meets_slice2 arr tb _ (lo:=some (sp:Int)) (hi:=some (nw:Int)) (by constructor) (by constructor)) ⟨Heap.IsSliceOf.new _ _ _ _,bA (KBc.size_picked_le arr _ _) (Hh hzs),λt' tk'=>?_⟩⟩;have hpick:(KBy.picked arr (some (sp:Int)) (some (nw:Int))).toList=(arr.toList.drop sp).take (nw - sp):=by
    rw [KBc.picked_eq];simp only [Option.elim_some,clipAt_nat];have:nw<=arr.size:=by omega
    by_cases h:sp<=arr.size
    . rw [Nat.min_eq_left h,Nat.min_eq_left this]
    . have d1:arr.toList.drop (min sp arr.size)=[]:=dD (by simp;omega);have d2:arr.toList.drop sp=[]:=dD (by simp;exact lec (fk [arr.size,sp] [(1,(.a (.v 0) (.n 1)),(.v 1)),(1,(.a (.v 1) (.n 1)),(.v 0))] rfl (Nat.not_le.mp h)));rw [d1,d2];simp
   have RV:∀ {h:Heap} {V:Addr->Prop},VRel h V U (.bytes (KBy.picked arr (some (sp:Int)) (some (nw:Int))) t') (.bytes ((arr.toList.drop sp).take (nw - sp))):=λ{h V}=>by
    rw [<- hpick];exact .bytes _ _ (aV (KBc.size_picked_le arr _ _) hzs)
   have k5:∀ b o,b≠l->s.heap.get? b=some o->(h4.push { cls:=.type "slice",data:=.fields #[Value.int (sp:Int) t0,.int (nw:Int) tv,.none]}).get? b=some o:=λb o hb e=>aE _ (k4 b o hb e);have hlf:l∉Z.fr:=λq=>(I.frs l q).1 (aO ek);refine hQ _ _ ?_;dsimp only;exact an _ _ _ U (I.turn (ao':=.spot nw) ek ho rfl (λb o hb _ e=>k5 b o hb e) (λb hb=>.of λo e=>k5 b o (λq=>hlf (q▸hb)) e) ⟨_,aE _ hl4⟩ λ_=>⟨tv,m4,aE _ hl4⟩) RV
end
end
end Ik.Internal
namespace Ik.Internal.Z
open PySem PySem.W PyProof.Rows
section
variable{cmp:Nat->Nat->Option Bool}{K:Nat->Nat}{n:Nat}
theorem Dv{α:Type}{i j:Nat}{k:Bool->KasT α}{b:Bool}(h:cmp i j=some b):Ga cmp (.ask i j k)=Ga cmp (k b):=by simp only [Ga,h]
theorem Dj{α β:Type}{f:α->KasT β}:∀ (t:KasT α) {a:α},Ga cmp t=some a->Ga cmp (t.bind f)=Ga cmp (f a):=by
 intro t
 induction t with
 | ret b=>intro a h;refine snE h λh=>?_;rw [h];rfl
 | ask i j k ih=>
  intro a h;show Ga cmp (.ask i j λb=>(k b).bind f)=_
  cases hc:cmp i j with
  | none=>simp only [Ga,hc] at h;exact nns h
  | some b=>rw [Dv hc] at h ⊢;exact ih b h
structure Rk(cmp:Nat->Nat->Option Bool)(K:Nat->Nat)(n:Nat):Prop where
 ask:∀ i j,i<n->j<n->cmp i j=some (decide (K i<K j))
 inj:∀ i j,i<n->j<n->K i=K j->i=j
noncomputable abbrev Wt(K:Nat->Nat)(p:Array Nat)(i:Nat):Nat:=K (p.getD i 0)
structure Dm(n:Nat)(p:Array Nat):Prop where
 perm:p.Perm (List.range n).toArray
theorem Dm.size{p:Array Nat}(h:Dm n p):p.size=n:=by rw [h.perm.size_eq];simp
theorem Dm.get{p:Array Nat}(h:Dm n p){i:Nat}(hi:i<n):p[i]?=some (p.getD i 0):=by
 have:i<p.size:=by rw [h.size];exact hi
 rw [dU,Array.getElem?_eq_getElem this];rfl
theorem Dm.lt{p:Array Nat}(h:Dm n p){i:Nat}(hi:i<n):p.getD i 0<n:=by
 have h1:p.getD i 0∈p:=Array.mem_of_getElem? (h.get hi);simpa using h.perm.mem_iff.mp h1
theorem Dm.nodup{p:Array Nat}(h:Dm n p):p.toList.Nodup:=(Array.perm_iff_toList_perm.mp h.perm).nodup_iff.mpr (by simpa using List.nodup_range)
theorem Dm.ne{p:Array Nat}(h:Dm n p){i j:Nat}(hi:i<n)(hj:j<n)(e:p.getD i 0=p.getD j 0):i=j:=by
 have h1:i<p.toList.length:=by rw [dW,h.size];exact hi
 refine (List.getElem?_inj h1 h.nodup).mp ?_;rw [dI,dI,h.get hi,h.get hj,e]
theorem Dm.of{p q:Array Nat}(h:Dm n p)(x:q.Perm p):Dm n q:=⟨x.trans h.perm⟩
theorem Rk.at(R:Rk cmp K n){p:Array Nat}(h:Dm n p){i j:Nat}(hi:i<n)(hj:j<n):cmp (p.getD i 0) (p.getD j 0)=some (decide (Wt K p i<Wt K p j)):=R.ask _ _ (h.lt hi) (h.lt hj)
theorem Rk.ne(R:Rk cmp K n){p:Array Nat}(h:Dm n p){i j:Nat}(hi:i<n)(hj:j<n)(e:Wt K p i=Wt K p j):i=j:=h.ne hi hj (R.inj _ _ (h.lt hi) (h.lt hj) e)
theorem Ol(R:Rk cmp K n){p:Array Nat}(h:Dm n p):∀ (f k:Nat),1<=k->k+f<=n->∃ m,Ga cmp (kas_asc p f k)=some m/\k<=m/\m<=k+f/\(∀ i,k<=i->i<m->Wt K p (i - 1)<Wt K p i)/\(m<k+f->Wt K p m<Wt K p (m - 1)):=by
 intro f
 induction f with
 | zero=>intro k h1 h2;exact⟨k,rfl,aU _,aU _,λi a b=>absurd b (bQ.mpr a),λq=>absurd q (cZ _)⟩
 | succ f ih=>
  intro k h1 h2;have ha:=R.at h (i:=k) (j:=k - 1) (by exact ltc (fk [k,f,n] [(1,(.a (.v 0) (.a (.v 1) (.n 1))),(.v 2)),(1,(.v 2),(.v 0))] rfl h2)) (by exact ltc (fk [k,f,n,k - 1] [(1,(.a (.v 0) (.a (.v 1) (.n 1))),(.v 2)),(1,(.v 3),(.v 0)),(1,(.v 2),(.v 3))] rfl h2 (cA (k) (1))));by_cases q:Wt K p k<Wt K p (k - 1)
  . refine⟨k,?_,aU _,cB _ _,λi a b=>absurd b (bQ.mpr a),λ_=>q⟩;unfold kas_asc;rw [Dv ha,aC q,if_pos rfl];rfl
  . refine e14 (ih (k+1) (by exact lec (fk [k] [(1,(.a (.a (.v 0) (.n 1)) (.n 1)),(.n 1))] rfl)) (by exact lec (fk [k,f,n] [(1,(.a (.v 0) (.a (.v 1) (.n 1))),(.v 2)),(1,(.a (.v 2) (.n 1)),(.a (.a (.v 0) (.n 1)) (.v 1)))] rfl h2))) λm e l1 l2 l3=>⟨m,?_,by exact lec (fk [k,m] [(1,(.a (.v 0) (.n 1)),(.v 1)),(1,(.a (.v 1) (.n 1)),(.v 0))] rfl l1),by exact lec (fk [m,k,f] [(1,(.v 0),(.a (.a (.v 1) (.n 1)) (.v 2))),(1,(.a (.a (.v 1) (.a (.v 2) (.n 1))) (.n 1)),(.v 0))] rfl l2),λi a b=>?_,λz=>l3.2 (by exact ltc (fk [m,k,f] [(1,(.a (.v 0) (.n 1)),(.a (.v 1) (.a (.v 2) (.n 1)))),(1,(.a (.a (.v 1) (.n 1)) (.v 2)),(.v 0))] rfl z))⟩
    . unfold kas_asc;rw [Dv ha,aP q,if_neg (by decide)];exact e
    . by_cases z:i=k
      . rw [z];refine bK (bQ.mp q) λw=>?_;have:=R.ne h (by exact ltc (fk [k,f,n,k - 1] [(1,(.a (.v 0) (.a (.v 1) (.n 1))),(.v 2)),(1,(.v 3),(.v 0)),(1,(.v 2),(.v 3))] rfl h2 (cA (k) (1)))) (by exact ltc (fk [k,f,n] [(1,(.a (.v 0) (.a (.v 1) (.n 1))),(.v 2)),(1,(.v 2),(.v 0))] rfl h2)) w;exact (fk [k,k - 1] [(1,(.v 0),(.v 1)),(1,(.a (.v 1) (.n 1)),(.v 0))] rfl (aD (Eq.symm this)) (sbc (lec (fk [k] [(1,(.n 1),(.v 0)),(1,(.a (.v 0) (.n 1)),(.n 1))] rfl h1))))
      . exact l3.1 i (by exact lec (fk [k,i] [(1,(.a (.v 0) (.n 1)),(.v 1)),(1,(.a (.v 1) (.n 1)),(.a (.v 0) (.n 1)))] rfl (bK (lec (fk [k,i] [(1,(.v 0),(.v 1)),(1,(.a (.v 1) (.n 1)),(.v 0))] rfl a)) (Ne.symm z)))) b
theorem Vi(R:Rk cmp K n){p:Array Nat}(h:Dm n p):∀ (f k:Nat),1<=k->k+f<=n->∃ m,Ga cmp (kas_desc f p k 0)=some (p,m,0)/\k<=m/\m<=k+f/\∀ i,k<=i->i<m->Wt K p i<Wt K p (i - 1):=by
 intro f
 induction f with
 | zero=>intro k h1 h2;exact⟨k,rfl,aU _,aU _,λi a b=>absurd b (bQ.mpr a)⟩
 | succ f ih=>
  intro k h1 h2;have ha:=R.at h (i:=k) (j:=k - 1) (by exact ltc (fk [k,f,n] [(1,(.a (.v 0) (.a (.v 1) (.n 1))),(.v 2)),(1,(.v 2),(.v 0))] rfl h2)) (by exact ltc (fk [k,f,n,k - 1] [(1,(.a (.v 0) (.a (.v 1) (.n 1))),(.v 2)),(1,(.v 3),(.v 0)),(1,(.v 2),(.v 3))] rfl h2 (cA (k) (1))));have hb:=R.at h (i:=k - 1) (j:=k) (by exact ltc (fk [k,f,n,k - 1] [(1,(.a (.v 0) (.a (.v 1) (.n 1))),(.v 2)),(1,(.v 3),(.v 0)),(1,(.v 2),(.v 3))] rfl h2 (cA (k) (1)))) (by exact ltc (fk [k,f,n] [(1,(.a (.v 0) (.a (.v 1) (.n 1))),(.v 2)),(1,(.v 2),(.v 0))] rfl h2));by_cases q:Wt K p k<Wt K p (k - 1)
  . refine e14 (ih (k+1) (by exact lec (fk [k] [(1,(.a (.a (.v 0) (.n 1)) (.n 1)),(.n 1))] rfl)) (by exact lec (fk [k,f,n] [(1,(.a (.v 0) (.a (.v 1) (.n 1))),(.v 2)),(1,(.a (.v 2) (.n 1)),(.a (.a (.v 0) (.n 1)) (.v 1)))] rfl h2))) λm e l1 l2 l3=>⟨m,?_,by exact lec (fk [k,m] [(1,(.a (.v 0) (.n 1)),(.v 1)),(1,(.a (.v 1) (.n 1)),(.v 0))] rfl l1),by exact lec (fk [m,k,f] [(1,(.v 0),(.a (.a (.v 1) (.n 1)) (.v 2))),(1,(.a (.a (.v 1) (.a (.v 2) (.n 1))) (.n 1)),(.v 0))] rfl l2),λi a b=>?_⟩
    . unfold kas_desc;rw [Dv ha,aC q,if_pos rfl,if_neg (by decide)];exact e
    . by_cases z:i=k
      . rw [z];exact q
      . exact l3 i (by exact lec (fk [k,i] [(1,(.a (.v 0) (.n 1)),(.v 1)),(1,(.a (.v 1) (.n 1)),(.a (.v 0) (.n 1)))] rfl (bK (lec (fk [k,i] [(1,(.v 0),(.v 1)),(1,(.a (.v 1) (.n 1)),(.v 0))] rfl a)) (Ne.symm z)))) b
  . have q2:Wt K p (k - 1)<Wt K p k:=bK (bQ.mp q) λw=>by
     have:=R.ne h (by exact ltc (fk [k,f,n,k - 1] [(1,(.a (.v 0) (.a (.v 1) (.n 1))),(.v 2)),(1,(.v 3),(.v 0)),(1,(.v 2),(.v 3))] rfl h2 (cA (k) (1)))) (by exact ltc (fk [k,f,n] [(1,(.a (.v 0) (.a (.v 1) (.n 1))),(.v 2)),(1,(.v 2),(.v 0))] rfl h2)) w;exact (fk [k,k - 1] [(1,(.v 0),(.v 1)),(1,(.a (.v 1) (.n 1)),(.v 0))] rfl (aD (Eq.symm this)) (sbc (lec (fk [k] [(1,(.n 1),(.v 0)),(1,(.a (.v 0) (.n 1)),(.n 1))] rfl h1))))
    refine⟨k,?_,aU _,cB _ _,λi a b=>absurd b (bQ.mpr a)⟩;unfold kas_desc;rw [Dv ha,aP q,if_neg (by decide),Dv hb,aC q2,if_pos rfl];rfl
noncomputable def Vj(K:Nat->Nat)(p:Array Nat)(m:Nat):Prop:=∀ i,1<=i->i<m->Wt K p (i - 1)<Wt K p i
theorem Vj.lt{p:Array Nat}{m:Nat}(s:Vj K p m):∀ {j i:Nat},i<j->j<m->Wt K p i<Wt K p j:=by
 intro j
 induction j with
 | zero=>intro i h;exact absurd h (Nat.not_lt_zero _)
 | succ j ih=>
  intro i h1 h2;have:=s (j+1) (by exact lec (fk [j] [(1,(.a (.a (.v 0) (.n 1)) (.n 1)),(.n 1))] rfl)) h2;by_cases q:i=j
  . rw [q];exact this
  . exact aT (ih (by exact ltc (fk [i,j] [(1,(.a (.v 0) (.n 1)),(.v 1)),(1,(.v 1),(.v 0))] rfl (bK (lec (fk [i,j] [(1,(.a (.v 0) (.n 1)),(.a (.v 1) (.n 1))),(1,(.a (.v 1) (.n 1)),(.v 0))] rfl h1)) q))) (by exact ltc (fk [j,m] [(1,(.a (.a (.v 0) (.n 1)) (.n 1)),(.v 1)),(1,(.v 1),(.v 0))] rfl h2))) this
theorem Ahg{p:Array Nat}(h:Dm n p){m i:Nat}(hm:m<=n)(hi:i<n):Wt K (kas_rev p 0 m) i=if i<m then Wt K p (m - 1 - i) else Wt K p i:=by
 have e:=getElem?_mirror_all (xs:=p) (i:=0) (j:=m) (by rw [h.size];exact hm) i;have e1:(kas_rev p 0 m).getD i 0=((mirror p 0 m ((m - 0) / 2))[i]?).getD 0:=dU ..;unfold Wt;rw [e1,e];by_cases q:i<m
 . rw [if_pos q,if_pos ⟨bV _,q⟩,h.get (by exact ltc (fk [m,n,0+m - 1 - i,0+m - 1] [(1,(.v 0),(.v 1)),(1,(.v 2),(.v 3)),(1,(.a (.v 3) (.n 1)),(.a (.n 0) (.v 0))),(1,(.v 1),(.v 2))] rfl hm (cA (0+m - 1) (i)) (sbc (lec (fk [i,m] [(1,(.a (.v 0) (.n 1)),(.v 1)),(1,(.a (.a (.n 0) (.v 1)) (.n 1)),(.n 1))] rfl q))))),show 0+m - 1 - i=m - 1 - i by exact eqc (fk [m - 1,m - 1 - i,i,m,0+m - 1,0+m - 1 - i] [(1,(.v 0),(.a (.v 1) (.v 2))),(1,(.v 3),(.a (.v 0) (.n 1))),(1,(.a (.v 4) (.n 1)),(.a (.n 0) (.v 3))),(1,(.a (.v 5) (.v 2)),(.v 4)),(1,(.a (.v 1) (.n 1)),(.v 5))] rfl (sbg (m - 1) (i)) (sbg (m) (1)) (sbc (lec (fk [i,m] [(1,(.a (.v 0) (.n 1)),(.v 1)),(1,(.a (.a (.n 0) (.v 1)) (.n 1)),(.n 1))] rfl q))) (sbc (lec (fk [i,m,0+m - 1] [(1,(.a (.v 0) (.n 1)),(.v 1)),(1,(.a (.n 0) (.v 1)),(.a (.v 2) (.n 1))),(1,(.a (.v 2) (.n 1)),(.v 0))] rfl q (sbg (0+m) (1)))))) (fk [0+m - 1,0+m - 1 - i,i,m,m - 1,m - 1 - i] [(1,(.v 0),(.a (.v 1) (.v 2))),(1,(.a (.n 0) (.v 3)),(.a (.v 0) (.n 1))),(1,(.a (.v 4) (.n 1)),(.v 3)),(1,(.a (.v 5) (.v 2)),(.v 4)),(1,(.a (.v 1) (.n 1)),(.v 5))] rfl (sbg (0+m - 1) (i)) (sbg (0+m) (1)) (sbc (lec (fk [i,m] [(1,(.a (.v 0) (.n 1)),(.v 1)),(1,(.a (.v 1) (.n 1)),(.n 1))] rfl q))) (sbc (lec (fk [i,m,m - 1] [(1,(.a (.v 0) (.n 1)),(.v 1)),(1,(.v 1),(.a (.v 2) (.n 1))),(1,(.a (.v 2) (.n 1)),(.v 0))] rfl q (sbg (m) (1))))))];rfl
 . rw [if_neg q,if_neg (λz=>q z.2),h.get hi];rfl
theorem Sm(R:Rk cmp K n){p:Array Nat}(h:Dm n p)(h2:2<=n):∃ m q,Ga cmp (kas_count n p)=some (m,q)/\Dm n q/\1<=m/\m<=n/\Vj K q m:=by
 refine e14 (Ol R h (n - 1) 1 (aU _) (by exact lec (fk [n - 1,n] [(1,(.a (.v 0) (.n 1)),(.v 1)),(1,(.a (.v 1) (.n 1)),(.a (.n 1) (.v 0)))] rfl (sbc (lec (fk [n] [(1,(.n 2),(.v 0)),(1,(.a (.v 0) (.n 1)),(.n 1))] rfl h2)))))) λm e l1 l2 l3=>?_;have so:Vj K p m:=l3.1;unfold kas_count;by_cases q:m=n
 . refine⟨m,p,?_,h,l1,by exact lec (fk [m,n] [(1,(.v 0),(.v 1)),(1,(.a (.v 1) (.n 1)),(.v 0))] rfl (aD q)),so⟩;rw [Dj _ e,if_pos (by simpa using q)];rfl
 . have qb:¬ (m == n)=true:=by simpa using q
   by_cases q1:m>1
   . refine⟨m,p,?_,h,l1,by exact lec (fk [m,n - 1,n] [(1,(.v 0),(.a (.n 1) (.v 1))),(1,(.a (.v 1) (.n 1)),(.v 2)),(1,(.a (.v 2) (.n 1)),(.v 0))] rfl l2 (sbc (lec (fk [n] [(1,(.n 2),(.v 0)),(1,(.a (.v 0) (.n 1)),(.n 1))] rfl h2)))),so⟩;rw [Dj _ e,if_neg qb,if_pos q1,Dv (R.at h (by exact ltc (fk [n] [(1,(.n 2),(.v 0)),(1,(.v 0),(.n 0))] rfl h2)) (by exact ltc (fk [m,n - 1,n,m - 1] [(1,(.v 0),(.a (.n 1) (.v 1))),(1,(.a (.v 1) (.n 1)),(.v 2)),(1,(.a (.v 3) (.n 1)),(.v 0)),(1,(.v 2),(.v 3))] rfl l2 (sbc (lec (fk [n] [(1,(.n 2),(.v 0)),(1,(.a (.v 0) (.n 1)),(.n 1))] rfl h2))) (sbc (lec (fk [m] [(1,(.n 1),(.v 0)),(1,(.a (.v 0) (.n 1)),(.n 1))] rfl l1)))))),aC (so.lt (by exact ltc (fk [m,m - 1] [(1,(.a (.n 1) (.n 1)),(.v 0)),(1,(.v 0),(.a (.v 1) (.n 1))),(1,(.v 1),(.n 0))] rfl q1 (sbg (m) (1)))) (by exact ltc (fk [m - 1,m] [(1,(.a (.v 0) (.n 1)),(.v 1)),(1,(.v 1),(.v 0))] rfl (sbc (lec (fk [m] [(1,(.n 1),(.v 0)),(1,(.a (.v 0) (.n 1)),(.n 1))] rfl l1)))))),if_pos rfl];rfl
   . have hm:m=1:=by exact eqc (fk [m] [(1,(.v 0),(.n 1)),(1,(.a (.n 1) (.n 1)),(.v 0))] rfl (bQ.mp q1)) (fk [m] [(1,(.n 1),(.v 0)),(1,(.a (.v 0) (.n 1)),(.n 1))] rfl l1)
     subst hm;refine e13 (Vi R h (n - 2) 2 (by exact lec (fk [] [(1,(.a (.n 2) (.n 1)),(.n 1))] rfl)) (by exact lec (fk [n - 2,n] [(1,(.a (.v 0) (.n 2)),(.v 1)),(1,(.a (.v 1) (.n 1)),(.a (.n 2) (.v 0)))] rfl (sbc (lec (fk [n] [(1,(.n 2),(.v 0)),(1,(.a (.v 0) (.n 1)),(.n 2))] rfl h2)))))) λm e' k1 k2=>?_;have hq:Dm n (kas_rev p 0 m):=h.of (mirror_perm _ _ _ _);refine e14 (Ol R hq (n - m) m (by exact lec (fk [m] [(1,(.n 2),(.v 0)),(1,(.a (.v 0) (.n 1)),(.n 1))] rfl k1)) (by exact lec (fk [n - m,m,n] [(1,(.a (.v 0) (.v 1)),(.v 2)),(1,(.a (.v 2) (.n 1)),(.a (.v 1) (.v 0)))] rfl (sbc (lec (fk [m,n - 2,n] [(1,(.v 0),(.a (.n 2) (.v 1))),(1,(.a (.v 1) (.n 2)),(.v 2)),(1,(.a (.v 2) (.n 1)),(.v 0))] rfl (And.left k2) (sbc (lec (fk [n] [(1,(.n 2),(.v 0)),(1,(.a (.v 0) (.n 1)),(.n 2))] rfl h2))))))))) λm' e'' j1 j2 j3=>?_;refine⟨m',kas_rev p 0 m,?_,hq,by exact lec (fk [m,m'] [(1,(.n 2),(.v 0)),(1,(.v 0),(.v 1)),(1,(.a (.v 1) (.n 1)),(.n 1))] rfl k1 j1),by exact lec (fk [m',m,n - m,n] [(1,(.v 0),(.a (.v 1) (.v 2))),(1,(.a (.v 2) (.v 1)),(.v 3)),(1,(.a (.v 3) (.n 1)),(.v 0))] rfl j2 (sbc (lec (fk [m,n - 2,n] [(1,(.v 0),(.a (.n 2) (.v 1))),(1,(.a (.v 1) (.n 2)),(.v 2)),(1,(.a (.v 2) (.n 1)),(.v 0))] rfl (And.left k2) (sbc (lec (fk [n] [(1,(.n 2),(.v 0)),(1,(.a (.v 0) (.n 1)),(.n 2))] rfl h2))))))),λi a b=>?_⟩
     . rw [Dj _ e,if_neg qb,if_neg q1];unfold kas_descPart;rw [Dj _ e',if_neg (cZ 0)];unfold kas_tail3;rw [Dj _ e''];rfl
     . by_cases z:i<m
       . rw [Ahg h (by exact lec (fk [n - m,m,n] [(1,(.a (.v 0) (.v 1)),(.v 2)),(1,(.a (.v 2) (.n 1)),(.v 1))] rfl (sbc (lec (fk [m,n - 2,n] [(1,(.v 0),(.a (.n 2) (.v 1))),(1,(.a (.v 1) (.n 2)),(.v 2)),(1,(.a (.v 2) (.n 1)),(.v 0))] rfl (And.left k2) (sbc (lec (fk [n] [(1,(.n 2),(.v 0)),(1,(.a (.v 0) (.n 1)),(.n 2))] rfl h2)))))))) (by exact ltc (fk [i,m,n - m,n,i - 1] [(1,(.a (.v 0) (.n 1)),(.v 1)),(1,(.a (.v 2) (.v 1)),(.v 3)),(1,(.v 4),(.v 0)),(1,(.v 3),(.v 4))] rfl z (sbc (lec (fk [m,n - 2,n] [(1,(.v 0),(.a (.n 2) (.v 1))),(1,(.a (.v 1) (.n 2)),(.v 2)),(1,(.a (.v 2) (.n 1)),(.v 0))] rfl (And.left k2) (sbc (lec (fk [n] [(1,(.n 2),(.v 0)),(1,(.a (.v 0) (.n 1)),(.n 2))] rfl h2)))))) (cA (i) (1)))),Ahg h (by exact lec (fk [n - m,m,n] [(1,(.a (.v 0) (.v 1)),(.v 2)),(1,(.a (.v 2) (.n 1)),(.v 1))] rfl (sbc (lec (fk [m,n - 2,n] [(1,(.v 0),(.a (.n 2) (.v 1))),(1,(.a (.v 1) (.n 2)),(.v 2)),(1,(.a (.v 2) (.n 1)),(.v 0))] rfl (And.left k2) (sbc (lec (fk [n] [(1,(.n 2),(.v 0)),(1,(.a (.v 0) (.n 1)),(.n 2))] rfl h2)))))))) (by exact ltc (fk [i,m,n - m,n] [(1,(.a (.v 0) (.n 1)),(.v 1)),(1,(.a (.v 2) (.v 1)),(.v 3)),(1,(.v 3),(.v 0))] rfl z (sbc (lec (fk [m,n - 2,n] [(1,(.v 0),(.a (.n 2) (.v 1))),(1,(.a (.v 1) (.n 2)),(.v 2)),(1,(.a (.v 2) (.n 1)),(.v 0))] rfl (And.left k2) (sbc (lec (fk [n] [(1,(.n 2),(.v 0)),(1,(.a (.v 0) (.n 1)),(.n 2))] rfl h2)))))))),if_pos z,if_pos (by exact ltc (fk [i,m,i - 1] [(1,(.a (.v 0) (.n 1)),(.v 1)),(1,(.v 2),(.v 0)),(1,(.v 1),(.v 2))] rfl z (cA (i) (1))))];by_cases w:m - 1 - i=0
         . rw [w,show m - 1 - (i - 1)=1 by exact eqc (fk [m - 1 - i,m - 1,i,i - 1,m - 1 - (i - 1)] [(1,(.v 0),(.n 0)),(1,(.v 1),(.a (.v 0) (.v 2))),(1,(.v 2),(.a (.v 3) (.n 1))),(1,(.a (.v 4) (.v 3)),(.v 1)),(1,(.a (.n 1) (.n 1)),(.v 4))] rfl (aD w) (sbg (m - 1) (i)) (sbg (i) (1)) (sbc (lec (fk [i,m,m - 1,i - 1] [(1,(.a (.v 0) (.n 1)),(.v 1)),(1,(.v 1),(.a (.v 2) (.n 1))),(1,(.v 3),(.v 0)),(1,(.a (.v 2) (.n 1)),(.v 3))] rfl z (sbg (m) (1)) (cA (i) (1)))))) (fk [m - 1,m - 1 - (i - 1),i - 1,i,m - 1 - i] [(1,(.v 0),(.a (.v 1) (.v 2))),(1,(.a (.v 2) (.n 1)),(.v 3)),(1,(.a (.v 4) (.v 3)),(.v 0)),(1,(.a (.v 1) (.n 1)),(.n 1))] rfl (sbg (m - 1) (i - 1)) (sbc (lec (fk [i] [(1,(.n 1),(.v 0)),(1,(.a (.v 0) (.n 1)),(.n 1))] rfl a))) (sbc (lec (fk [i,m,m - 1] [(1,(.a (.v 0) (.n 1)),(.v 1)),(1,(.v 1),(.a (.v 2) (.n 1))),(1,(.a (.v 2) (.n 1)),(.v 0))] rfl z (sbg (m) (1))))))];exact l3.2 (by exact ltc (fk [n,n - 1] [(1,(.n 2),(.v 0)),(1,(.v 0),(.a (.v 1) (.n 1))),(1,(.a (.n 1) (.v 1)),(.n 1))] rfl h2 (sbg (n) (1))))
         . have:=k2.2 (m - 1 - (i - 1)) (by exact lec (fk [m - 1,m - 1 - (i - 1),i - 1,i,m - 1 - i] [(1,(.v 0),(.a (.v 1) (.v 2))),(1,(.a (.v 2) (.n 1)),(.v 3)),(1,(.a (.v 4) (.v 3)),(.v 0)),(1,(.a (.n 0) (.n 1)),(.v 4)),(1,(.a (.v 1) (.n 1)),(.n 2))] rfl (sbg (m - 1) (i - 1)) (sbc (lec (fk [i] [(1,(.n 1),(.v 0)),(1,(.a (.v 0) (.n 1)),(.n 1))] rfl a))) (sbc (lec (fk [i,m,m - 1] [(1,(.a (.v 0) (.n 1)),(.v 1)),(1,(.v 1),(.a (.v 2) (.n 1))),(1,(.a (.v 2) (.n 1)),(.v 0))] rfl z (sbg (m) (1))))) (bK (lec (fk [m - 1 - i] [(1,(.a (.v 0) (.n 1)),(.n 0))] rfl)) (Ne.symm w)))) (by exact ltc (fk [m - 1 - (i - 1),m - 1,m] [(1,(.v 0),(.v 1)),(1,(.a (.v 1) (.n 1)),(.v 2)),(1,(.v 2),(.v 0))] rfl (cA (m - 1) (i - 1)) (sbc (lec (fk [m] [(1,(.n 2),(.v 0)),(1,(.a (.v 0) (.n 1)),(.n 1))] rfl k1)))))
           rwa [show m - 1 - (i - 1) - 1=m - 1 - i by exact eqc (fk [m - 1,m - 1 - i,i,i - 1,m - 1 - (i - 1),m - 1 - (i - 1) - 1] [(1,(.v 0),(.a (.v 1) (.v 2))),(1,(.v 2),(.a (.v 3) (.n 1))),(1,(.a (.v 4) (.v 3)),(.v 0)),(1,(.a (.v 5) (.n 1)),(.v 4)),(1,(.a (.v 1) (.n 1)),(.v 5))] rfl (sbg (m - 1) (i)) (sbg (i) (1)) (sbc (lec (fk [i,m,m - 1,i - 1] [(1,(.a (.v 0) (.n 1)),(.v 1)),(1,(.v 1),(.a (.v 2) (.n 1))),(1,(.v 3),(.v 0)),(1,(.a (.v 2) (.n 1)),(.v 3))] rfl z (sbg (m) (1)) (cA (i) (1))))) (sbc (lec (fk [i,m,m - 1,m - 1 - (i - 1),i - 1] [(1,(.a (.v 0) (.n 1)),(.v 1)),(1,(.v 1),(.a (.v 2) (.n 1))),(1,(.v 2),(.a (.v 3) (.v 4))),(1,(.a (.v 4) (.n 1)),(.v 0)),(1,(.a (.v 3) (.n 1)),(.n 1))] rfl z (sbg (m) (1)) (sbg (m - 1) (i - 1)) (sbc (lec (fk [i] [(1,(.n 1),(.v 0)),(1,(.a (.v 0) (.n 1)),(.n 1))] rfl a))))))) (fk [m - 1 - (i - 1),m - 1 - (i - 1) - 1,m - 1,i - 1,i,m - 1 - i] [(1,(.v 0),(.a (.v 1) (.n 1))),(1,(.v 2),(.a (.v 0) (.v 3))),(1,(.a (.v 3) (.n 1)),(.v 4)),(1,(.a (.v 5) (.v 4)),(.v 2)),(1,(.a (.v 1) (.n 1)),(.v 5))] rfl (sbg (m - 1 - (i - 1)) (1)) (sbg (m - 1) (i - 1)) (sbc (lec (fk [i] [(1,(.n 1),(.v 0)),(1,(.a (.v 0) (.n 1)),(.n 1))] rfl a))) (sbc (lec (fk [i,m,m - 1] [(1,(.a (.v 0) (.n 1)),(.v 1)),(1,(.v 1),(.a (.v 2) (.n 1))),(1,(.a (.v 2) (.n 1)),(.v 0))] rfl z (sbg (m) (1))))))] at this
       . exact j3.1 i (by exact lec (fk [m,i] [(1,(.v 0),(.v 1)),(1,(.a (.v 1) (.n 1)),(.v 0))] rfl (bQ.mp z))) b
theorem Sn(R:Rk cmp K n){p:Array Nat}(h:Dm n p){k:Nat}(hk:k<n)(so:Vj K p k):∀ (f l r:Nat),l<=r->r<=k->r - l<=f->(∀ i,i<l->Wt K p i<Wt K p k)->(∀ i,r<=i->i<k->Wt K p k<Wt K p i)->
 ∃ m,Ga cmp (kas_place p k f l r)=some m/\m<=k/\(∀ i,i<m->Wt K p i<Wt K p k)/\∀ i,m<=i->i<k->Wt K p k<Wt K p i:=by
 intro f
 induction f with
 | zero=>intro l r h1 h2 h3 h4 h5;exact⟨l,rfl,by exact lec (fk [l,r,k] [(1,(.v 0),(.v 1)),(1,(.v 1),(.v 2)),(1,(.a (.v 2) (.n 1)),(.v 0))] rfl h1 h2),h4,λi a b=>h5 i (by exact lec (fk [r - l,l,i,r] [(1,(.v 0),(.n 0)),(1,(.v 1),(.v 2)),(1,(.v 3),(.a (.v 0) (.v 1))),(1,(.a (.v 2) (.n 1)),(.v 3))] rfl h3 a (sbg (r) (l)))) b⟩
 | succ f ih=>
  intro l r h1 h2 h3 h4 h5;unfold kas_place;by_cases q:l>=r
  . rw [if_pos q];exact⟨l,rfl,by exact lec (fk [l,r,k] [(1,(.v 0),(.v 1)),(1,(.v 1),(.v 2)),(1,(.a (.v 2) (.n 1)),(.v 0))] rfl h1 h2),h4,λi a b=>h5 i (by exact lec (fk [r,l,i] [(1,(.v 0),(.v 1)),(1,(.v 1),(.v 2)),(1,(.a (.v 2) (.n 1)),(.v 0))] rfl q a)) b⟩
  . rw [if_neg q,Dv (R.at h hk (by exact ltc (fk [k,n,l,r,(l+r) / 2] [(2,(.a (.v 0) (.n 1)),(.v 1)),(1,(.v 2),(.v 3)),(2,(.v 3),(.v 0)),(1,(.m (.v 4) 2),(.a (.v 2) (.v 3))),(2,(.v 1),(.v 4))] rfl hk h1 h2 (dR (l+r) 2))))];by_cases c:Wt K p k<Wt K p ((l+r) / 2)
    . rw [aC c,if_pos rfl];refine ih _ _ (by exact lec (fk [l,r,(l+r) / 2] [(1,(.v 0),(.v 1)),(1,(.a (.a (.v 0) (.v 1)) (.n 1)),(.a (.m (.v 2) 2) (.n 2))),(2,(.a (.v 2) (.n 1)),(.v 0))] rfl h1 (dvu (l+r) 2 (by decide)))) (by exact lec (fk [l,r,k,(l+r) / 2] [(1,(.v 0),(.v 1)),(2,(.v 1),(.v 2)),(1,(.m (.v 3) 2),(.a (.v 0) (.v 1))),(2,(.a (.v 2) (.n 1)),(.v 3))] rfl h1 h2 (dR (l+r) 2))) (by exact lec (fk [r - l,f,r,l,(l+r) / 2,(l+r) / 2 - l] [(1,(.v 0),(.a (.v 1) (.n 1))),(1,(.v 2),(.a (.v 0) (.v 3))),(1,(.m (.v 4) 2),(.a (.v 3) (.v 2))),(2,(.a (.v 5) (.v 3)),(.v 4)),(2,(.a (.v 1) (.n 1)),(.v 5))] rfl h3 (sbg (r) (l)) (dR (l+r) 2) (sbc (lec (fk [l,r,(l+r) / 2] [(1,(.v 0),(.v 1)),(1,(.a (.a (.v 0) (.v 1)) (.n 1)),(.a (.m (.v 2) 2) (.n 2))),(2,(.a (.v 2) (.n 1)),(.v 0))] rfl h1 (dvu (l+r) 2 (by decide))))))) h4 λi a b=>?_;by_cases z:i=(l+r) / 2
      . rw [z];exact c
      . exact aT c (so.lt (by exact ltc (fk [(l+r) / 2,i] [(1,(.a (.v 0) (.n 1)),(.v 1)),(1,(.v 1),(.v 0))] rfl (bK (lec (fk [(l+r) / 2,i] [(1,(.v 0),(.v 1)),(1,(.a (.v 1) (.n 1)),(.v 0))] rfl a)) (Ne.symm z)))) b)
    . rw [aP c,if_neg (by decide)];have c':Wt K p ((l+r) / 2)<Wt K p k:=bK (bQ.mp c) λw=>by
       have:=R.ne h (by exact ltc (fk [k,n,l,r,(l+r) / 2] [(2,(.a (.v 0) (.n 1)),(.v 1)),(1,(.v 2),(.v 3)),(2,(.v 3),(.v 0)),(1,(.m (.v 4) 2),(.a (.v 2) (.v 3))),(2,(.v 1),(.v 4))] rfl hk h1 h2 (dR (l+r) 2))) hk w;exact (fk [r,k,l,(l+r) / 2] [(2,(.v 0),(.v 1)),(1,(.a (.v 2) (.n 1)),(.v 0)),(2,(.v 1),(.v 3)),(1,(.m (.v 3) 2),(.a (.v 2) (.v 0)))] rfl h2 (Nat.not_le.mp q) (aD (Eq.symm this)) (dR (l+r) 2))
      refine ih _ _ (by exact lec (fk [l,r,(l+r) / 2] [(1,(.a (.v 0) (.n 1)),(.v 1)),(1,(.m (.v 2) 2),(.a (.v 0) (.v 1))),(2,(.a (.v 1) (.n 1)),(.a (.v 2) (.n 1)))] rfl (Nat.not_le.mp q) (dR (l+r) 2))) (by exact lec (fk [r,k] [(1,(.v 0),(.v 1)),(1,(.a (.v 1) (.n 1)),(.v 0))] rfl h2)) (by exact lec (fk [r - l,f,r,l,(l+r) / 2,r - ((l+r) / 2+1)] [(1,(.v 0),(.a (.v 1) (.n 1))),(1,(.v 2),(.a (.v 0) (.v 3))),(1,(.a (.a (.v 3) (.v 2)) (.n 1)),(.a (.m (.v 4) 2) (.n 2))),(2,(.a (.v 5) (.a (.v 4) (.n 1))),(.v 2)),(1,(.a (.v 1) (.n 1)),(.v 5))] rfl h3 (sbg (r) (l)) (dvu (l+r) 2 (by decide)) (sbc (lec (fk [l,r,(l+r) / 2] [(1,(.a (.v 0) (.n 1)),(.v 1)),(1,(.m (.v 2) 2),(.a (.v 0) (.v 1))),(2,(.a (.v 1) (.n 1)),(.a (.v 2) (.n 1)))] rfl (Nat.not_le.mp q) (dR (l+r) 2)))))) (λi a=>?_) h5;by_cases z:i=(l+r) / 2
      . rw [z];exact c'
      . exact aT (so.lt (by exact ltc (fk [i,(l+r) / 2] [(1,(.a (.v 0) (.n 1)),(.v 1)),(1,(.v 1),(.v 0))] rfl (bK (lec (fk [i,(l+r) / 2] [(1,(.a (.v 0) (.n 1)),(.a (.v 1) (.n 1))),(1,(.a (.v 1) (.n 1)),(.v 0))] rfl a)) z))) (by exact ltc (fk [r,k,l,(l+r) / 2] [(2,(.v 0),(.v 1)),(1,(.a (.v 2) (.n 1)),(.v 0)),(1,(.m (.v 3) 2),(.a (.v 2) (.v 0))),(2,(.v 1),(.v 3))] rfl h2 (Nat.not_le.mp q) (dR (l+r) 2)))) c'
theorem Ahh{p:Array Nat}(h:Dm n p){k l i:Nat}(hk:k<n)(hl:l<=k)(hi:i<n):Wt K (bubble p k (k - l)) i=if i=l then Wt K p k else if l<i/\i<=k then Wt K p (i - 1) else Wt K p i:=by
 have e:=getElem?_bubble (xs:=p) (by rw [h.size];exact hk) (k - l) (by exact lec (fk [k - l,k] [(1,(.v 0),(.v 1)),(1,(.a (.v 1) (.n 1)),(.v 0))] rfl (cA (k) (l)))) i;have e1:(bubble p k (k - l)).getD i 0=((bubble p k (k - l))[i]?).getD 0:=dU ..;rw [show k - (k - l)=l by exact eqc (fk [k,k - l,l,k - (k - l)] [(1,(.v 0),(.a (.v 1) (.v 2))),(1,(.a (.v 3) (.v 1)),(.v 0)),(1,(.a (.v 2) (.n 1)),(.v 3))] rfl (sbg (k) (l)) (sbc (lec (fk [k - l,k] [(1,(.v 0),(.v 1)),(1,(.a (.v 1) (.n 1)),(.v 0))] rfl (cA (k) (l)))))) (fk [k,k - (k - l),k - l,l] [(1,(.v 0),(.a (.v 1) (.v 2))),(1,(.a (.v 2) (.v 3)),(.v 0)),(1,(.a (.v 1) (.n 1)),(.v 3))] rfl (sbg (k) (k - l)) (sbc (lec (fk [l,k] [(1,(.v 0),(.v 1)),(1,(.a (.v 1) (.n 1)),(.v 0))] rfl hl))))] at e;unfold Wt;rw [e1,e];by_cases q:i=l
 . rw [if_pos q,if_pos q,h.get hk];rfl
 . rw [if_neg q,if_neg q];by_cases q2:l<i/\i<=k
   . rw [if_pos q2,if_pos q2,h.get (by exact ltc (fk [i,n,i - 1] [(1,(.a (.v 0) (.n 1)),(.v 1)),(1,(.v 2),(.v 0)),(1,(.v 1),(.v 2))] rfl hi (cA (i) (1))))];rfl
   . rw [if_neg q2,if_neg q2,h.get hi];rfl
theorem Ym(R:Rk cmp K n):∀ (f:Nat) {p:Array Nat} {k:Nat},Dm n p->k+f=n->Vj K p k->∃ q,Ga cmp (kas_bin f p k)=some q/\Dm n q/\Vj K q n:=by
 intro f
 induction f with
 | zero=>intro p k h hk so;exact⟨p,rfl,h,by rwa [<- hk]⟩
 | succ f ih=>
  intro p k h hk so;refine e14 (Sn R h (k:=k) (by exact ltc (fk [k,f,n] [(1,(.a (.v 0) (.a (.v 1) (.n 1))),(.v 2)),(1,(.v 2),(.v 0))] rfl (aD hk))) so k 0 k (bV _) (aU _) (by exact lec (fk [k - 0,k] [(1,(.v 0),(.v 1)),(1,(.a (.v 1) (.n 1)),(.v 0))] rfl (cA (k) (0)))) (λi a=>absurd a (Nat.not_lt_zero _)) λi a b=>absurd b (bQ.mpr a)) λl e h1 h2 h3=>?_;refine e13 (ih (p:=bubble p k (k - l)) (k:=k+1) (h.of (bubble_perm _ _ _)) (by exact eqc (fk [k,f,n] [(1,(.a (.v 0) (.a (.v 1) (.n 1))),(.v 2)),(1,(.a (.v 2) (.n 1)),(.a (.a (.v 0) (.n 1)) (.v 1)))] rfl (aD hk)) (fk [n,k,f] [(1,(.v 0),(.a (.v 1) (.a (.v 2) (.n 1)))),(1,(.a (.a (.a (.v 1) (.n 1)) (.v 2)) (.n 1)),(.v 0))] rfl (aD (Eq.symm hk)))) λi a b=>?_) λq eq pq sq=>⟨q,?_,pq,sq⟩
  . rw [Ahh h (by exact ltc (fk [k,f,n] [(1,(.a (.v 0) (.a (.v 1) (.n 1))),(.v 2)),(1,(.v 2),(.v 0))] rfl (aD hk))) h1 (by exact ltc (fk [k,f,n,i,i - 1] [(1,(.a (.v 0) (.a (.v 1) (.n 1))),(.v 2)),(1,(.a (.v 3) (.n 1)),(.a (.v 0) (.n 1))),(1,(.v 4),(.v 3)),(1,(.v 2),(.v 4))] rfl (aD hk) b (cA (i) (1)))),Ahh h (by exact ltc (fk [k,f,n] [(1,(.a (.v 0) (.a (.v 1) (.n 1))),(.v 2)),(1,(.v 2),(.v 0))] rfl (aD hk))) h1 (by exact ltc (fk [k,f,n,i] [(1,(.a (.v 0) (.a (.v 1) (.n 1))),(.v 2)),(1,(.a (.v 3) (.n 1)),(.a (.v 0) (.n 1))),(1,(.v 2),(.v 3))] rfl (aD hk) b))];by_cases c1:i=l
    . rw [if_pos c1,if_neg (by exact λhh=>(fk [i,l,i - 1] [(1,(.v 0),(.v 1)),(1,(.v 1),(.v 2)),(1,(.a (.v 2) (.n 1)),(.v 0))] rfl (aD c1) (aD (Eq.symm hh)) (sbc (lec (fk [i] [(1,(.n 1),(.v 0)),(1,(.a (.v 0) (.n 1)),(.n 1))] rfl a))))),if_neg (by exact λhh=>(fk [i,l,i - 1] [(1,(.v 0),(.v 1)),(1,(.a (.v 1) (.n 1)),(.v 2)),(1,(.v 2),(.v 0))] rfl (aD c1) (And.left hh) (cA (i) (1))))];exact h2 _ (by exact ltc (fk [i,l,i - 1] [(1,(.v 0),(.v 1)),(1,(.a (.v 2) (.n 1)),(.v 0)),(1,(.v 1),(.v 2))] rfl (aD c1) (sbc (lec (fk [i] [(1,(.n 1),(.v 0)),(1,(.a (.v 0) (.n 1)),(.n 1))] rfl a)))))
    . rw [if_neg c1];by_cases c2:l<i
      . by_cases c3:i - 1=l
        . rw [if_pos c3,if_pos (show l<i/\i<=k from⟨c2,by exact lec (fk [i,k] [(1,(.a (.v 0) (.n 1)),(.a (.v 1) (.n 1))),(1,(.a (.v 1) (.n 1)),(.v 0))] rfl b)⟩)];exact h3 _ (by exact lec (fk [l,i - 1] [(1,(.v 0),(.v 1)),(1,(.a (.v 1) (.n 1)),(.v 0))] rfl (aD (Eq.symm c3)))) (by exact ltc (fk [i,k,i - 1] [(1,(.a (.v 0) (.n 1)),(.a (.v 1) (.n 1))),(1,(.a (.v 2) (.n 1)),(.v 0)),(1,(.v 1),(.v 2))] rfl b (sbc (lec (fk [i] [(1,(.n 1),(.v 0)),(1,(.a (.v 0) (.n 1)),(.n 1))] rfl a)))))
        . rw [if_neg c3,if_pos (show l<i - 1/\i - 1<=k by exact And.intro (ltc (fk [l,i - 1] [(1,(.a (.v 0) (.n 1)),(.v 1)),(1,(.v 1),(.v 0))] rfl (bK (lec (fk [l,i,i - 1] [(1,(.a (.v 0) (.n 1)),(.v 1)),(1,(.v 1),(.a (.v 2) (.n 1))),(1,(.a (.v 2) (.n 1)),(.v 0))] rfl c2 (sbg (i) (1)))) (Ne.symm c3)))) (lec (fk [i,k,i - 1] [(1,(.a (.v 0) (.n 1)),(.a (.v 1) (.n 1))),(1,(.v 2),(.v 0)),(1,(.a (.v 1) (.n 1)),(.v 2))] rfl b (cA (i) (1))))),if_pos (show l<i/\i<=k from⟨c2,by exact lec (fk [i,k] [(1,(.a (.v 0) (.n 1)),(.a (.v 1) (.n 1))),(1,(.a (.v 1) (.n 1)),(.v 0))] rfl b)⟩)];exact so _ (by exact lec (fk [l,i - 1] [(1,(.a (.v 0) (.n 1)),(.v 1)),(1,(.a (.v 1) (.n 1)),(.n 1))] rfl (bK (lec (fk [l,i,i - 1] [(1,(.a (.v 0) (.n 1)),(.v 1)),(1,(.v 1),(.a (.v 2) (.n 1))),(1,(.a (.v 2) (.n 1)),(.v 0))] rfl c2 (sbg (i) (1)))) (Ne.symm c3)))) (by exact ltc (fk [i,k,i - 1] [(1,(.a (.v 0) (.n 1)),(.a (.v 1) (.n 1))),(1,(.a (.v 2) (.n 1)),(.v 0)),(1,(.v 1),(.v 2))] rfl b (sbc (lec (fk [i] [(1,(.n 1),(.v 0)),(1,(.a (.v 0) (.n 1)),(.n 1))] rfl a)))))
      . rw [if_neg (by exact λhh=>(fk [l,i - 1,i] [(1,(.v 0),(.v 1)),(1,(.v 1),(.v 2)),(1,(.a (.v 2) (.n 1)),(.v 0))] rfl (aD (Eq.symm hh)) (cA (i) (1)) (bK (lec (fk [i,l] [(1,(.v 0),(.v 1)),(1,(.a (.v 1) (.n 1)),(.v 0))] rfl (bQ.mp c2))) c1))),if_neg (by exact λhh=>(fk [i,l,i - 1] [(1,(.v 0),(.v 1)),(1,(.a (.v 1) (.n 1)),(.v 2)),(1,(.v 2),(.v 0))] rfl (bQ.mp c2) (And.left hh) (cA (i) (1)))),if_neg (by exact λhh=>(fk [i,l] [(1,(.v 0),(.v 1)),(1,(.a (.v 1) (.n 1)),(.v 0))] rfl (bQ.mp c2) (And.left hh)))];exact so i a (by exact ltc (fk [l,k,i] [(1,(.v 0),(.v 1)),(1,(.a (.v 2) (.n 1)),(.v 0)),(1,(.v 1),(.v 2))] rfl h1 (bK (lec (fk [i,l] [(1,(.v 0),(.v 1)),(1,(.a (.v 1) (.n 1)),(.v 0))] rfl (bQ.mp c2))) c1)))
  . unfold kas_bin;rw [Dj _ e];exact eq
theorem Vk(R:Rk cmp K n)(h2:2<=n):∃ q,Ga cmp (kas_sort n)=some q/\Dm n q/\Vj K q n:=by
 have h0:Dm n (List.range n).toArray:=⟨Array.Perm.refl _⟩;refine e24 (Sm R h0 h2) λm q e hq h1 hm=>?_;unfold kas_sort;rw [Dj _ e];by_cases c:m<n
 . rw [if_pos c,Nat.max_eq_left h1];exact Ym R _ hq (by exact eqc (fk [n - m,m,n] [(1,(.a (.v 0) (.v 1)),(.v 2)),(1,(.a (.v 2) (.n 1)),(.a (.v 1) (.v 0)))] rfl (sbc (lec (fk [m,n] [(1,(.v 0),(.v 1)),(1,(.a (.v 1) (.n 1)),(.v 0))] rfl (And.left hm))))) (fk [n,n - m,m] [(1,(.v 0),(.a (.v 1) (.v 2))),(1,(.a (.a (.v 2) (.v 1)) (.n 1)),(.v 0))] rfl (sbg (n) (m)))) hm.2
 . rw [if_neg c];exact⟨q,rfl,hq,by rw [show n=m by exact eqc (fk [n,m] [(1,(.v 0),(.v 1)),(1,(.a (.v 1) (.n 1)),(.v 0))] rfl (bQ.mp c)) (fk [m,n] [(1,(.v 0),(.v 1)),(1,(.a (.v 1) (.n 1)),(.v 0))] rfl (And.left hm))];exact hm.2⟩
end
theorem Om{α:Type}(xs:List α)(d:α):(List.range xs.length).map (λi=>xs.getD i d)=xs:=by
 refine List.ext_getElem? λi=>?_;rw [List.getElem?_map];by_cases h:i<xs.length
 . rw [List.getElem?_range h,bB h,Option.map_some,aY,bB h];rfl
 . rw [List.getElem?_eq_none (by rw [List.length_range];exact bQ.mp h),List.getElem?_eq_none (bQ.mp h)];rfl
theorem Vl{xs ys:List AV}{r:AV->Nat}(h2:2<=xs.length)(h64:xs.length<64)(ht:(xs.all (λx=>Li Tr x)||xs.all (λx=>Li isTup x))=true)
 (hlt:∀ a∈xs,∀ b∈xs,ltA dp a b=some (decide (r a<r b))) (hp:ys.Perm xs) (hs:ys.Pairwise λa b=>r a<r b):Cy xs=some ys:=by
 have mem:∀ {i:Nat},i<xs.length->xs.getD i .none∈xs:=λ{i} h=>by
  rw [aY,bB h];exact List.getElem_mem h
 have nd:(xs.map r).Nodup:=(hp.map r).nodup_iff.mp (List.pairwise_map.mpr (hs.imp λh=>aW h));have R:Rk (λi j=>ltA dp (xs.getD i .none) (xs.getD j .none)) (λi=>r (xs.getD i .none)) xs.length:=by
  refine⟨λi j hi hj=>hlt _ (mem hi) _ (mem hj),λi j hi hj e=>?_⟩;refine (List.getElem?_inj (by rw [aF];exact hi) nd).mp ?_;rw [List.getElem?_map,List.getElem?_map,bB hi,bB hj];rw [aY,aY,bB hi,bB hj] at e;exact aJ some e
 refine e13 (Vk R h2) λq e pq sq=>?_;unfold Cy;rw [if_neg (bQ.mpr h2),if_neg (Nat.not_le.mpr h64),if_pos ht,e];refine aJ some ?_;refine List.Perm.eq_of_pairwise (le:=λa b=>r a<r b) (λa b _ _ h1 h2=>absurd h1 (Nat.lt_asymm h2)) ?_ hs ?_
 . refine List.pairwise_map.mpr (List.pairwise_iff_getElem.mpr λi j hi hj h=>?_);have hj':j<xs.length:=by rw [dW,pq.size] at hj;exact hj
   have:=sq.lt h hj';have gi:q.getD i 0=q.toList[i]:=by rw [dU,<- dI,bB hi];rfl
   have gj:q.getD j 0=q.toList[j]:=by rw [dU,<- dI,bB hj];rfl
   unfold Wt at this;rw [gi,gj] at this;exact this
 . have:=(Array.perm_iff_toList_perm.mp pq.perm).map λi=>xs.getD i .none;rw [List.toList_toArray,Om] at this;exact this.trans hp.symm
end Ik.Internal.Z
namespace Ik.Internal.Z
open PySem
noncomputable def Pa(i j:Nat):Prop:=j=2*i+1\/j=2*i+2
theorem Pa.lt{i j:Nat}(h:Pa i j):i<j:=h.elim (λh=>h▸Nat.lt_succ_of_le (Nat.le_mul_of_pos_left i (Nat.succ_pos 1))) λh=>h▸Nat.lt_succ_of_le (Nat.le_succ_of_le (Nat.le_mul_of_pos_left i (Nat.succ_pos 1)))
theorem Pa.at{i j:Nat}(h:Pa i j):(j - 1) / 2=i:=h.elim (λh=>h▸Nat.mul_div_cancel_left i (Nat.succ_pos 1)) λh=>h▸Nat.mul_add_div (Nat.succ_pos 1) i 1
theorem Pa.uniq{i i' j:Nat}(h:Pa i j)(h':Pa i' j):i=i':=h.at.symm.trans h'.at
theorem Pa.half{j:Nat}(h:0<j):Pa ((j - 1) / 2) j:=by
 induction j using Nat.casesAuxOn with
 | zero=>exact absurd h (cZ 0)
 | succ k=>exact (Nat.mod_two_eq_zero_or_one k).imp (λq=>aJ (·+1) ((Nat.div_add_mod k 2).symm.trans (aJ (2*(k / 2)+·) q))) λq=>aJ (·+1) ((Nat.div_add_mod k 2).symm.trans (aJ (2*(k / 2)+·) q))
inductive Dsc(s:Nat):Nat->Prop
 | nil:Dsc s s
 | cons {i j:Nat}:Dsc s i->Pa i j->Dsc s j
theorem Dsc.le{s p:Nat}(d:Dsc s p):s<=p:=by
 induction d with
 | nil=>exact aU _
 | cons _ h ih=>exact bA ih (cT h.lt)
theorem Dsc.up{s p i:Nat}(d:Dsc s p)(h:s<p)(q:Pa i p):Dsc s i:=by
 rcases d with _ | ⟨d,q'⟩
 . exact absurd h (cZ _)
 . rw [q.uniq q'];exact d
noncomputable abbrev gt(xs:List AV)(i:Nat):AV:=xs.getD i .none
theorem Eg{xs:List AV}{p:Nat}{y:AV}(h:p<xs.length):gt (xs.set p y) p=y:=by
 unfold gt;rw [aY,dQ h];rfl
theorem Ee{xs:List AV}{p i:Nat}{y:AV}(h:i≠p):gt (xs.set p y) i=gt xs i:=by
 unfold gt;rw [aY,bM (Ne.symm h),<- aY]
theorem Dn{xs:List AV}{p:Nat}(h:p<xs.length):xs[p]?=some (gt xs p):=by
 unfold gt;rw [aY,bB h];rfl
section
variable(k:AV->Nat)
noncomputable def sdF(s:Nat)(f:Nat):List AV->Nat->AV->List AV:=
 Nat.rec (λxs p x=>xs.set p x) (λ_ go xs p x=>if s<p then (if k x<k (gt xs ((p - 1) / 2)) then go (xs.set p (gt xs ((p - 1) / 2))) ((p - 1) / 2) x else xs.set p x) else xs.set p x) f
noncomputable def kid(xs:List AV)(p:Nat):Nat:=if 2*p+2<xs.length then (if k (gt xs (2*p+1))<k (gt xs (2*p+2)) then 2*p+1 else 2*p+2) else 2*p+1
noncomputable def suF(f:Nat):List AV->Nat->List AV×Nat:=
 Nat.rec (λxs p=>(xs,p)) (λ_ go xs p=>if 2*p+1<xs.length then go (xs.set p (gt xs (kid k xs p))) (kid k xs p) else (xs,p)) f
noncomputable def upF(xs:List AV)(p:Nat):List AV:=sdF k p xs.length ((suF k xs.length xs p).1.set (suF k xs.length xs p).2 (gt xs p)) (suF k xs.length xs p).2 (gt xs p)
noncomputable def Hp(s:Nat)(xs:List AV):Prop:=∀ i j,Pa i j->j<xs.length->s<=i->k (gt xs i)<=k (gt xs j)
noncomputable def Ha(s:Nat)(xs:List AV)(p:Nat):Prop:=∀ i j,Pa i j->j<xs.length->s<=i->j≠p->i≠p->k (gt xs i)<=k (gt xs j)
noncomputable def Hc(s:Nat)(xs:List AV)(p:Nat):Prop:=∀ i j,Pa i p->s<=i->Pa p j->j<xs.length->k (gt xs i)<=k (gt xs j)
variable{k}
theorem Qb{xs:List AV}{p q:Nat}{x:AV}(hp:p<xs.length)(hq:q<xs.length)(h:q≠p):((xs.set p (gt xs q)).set q x).Perm (xs.set p x):=by
 have h1:p<(xs.set p x).length:=by rw [aR];exact hp
 have h2:q<(xs.set p x).length:=by rw [aR];exact hq
 have:=List.set_set_perm h1 h2;have e1:(xs.set p x)[q]=gt xs q:=by
  have a:=bB h2;rw [bM (Ne.symm h),Dn hq] at a;exact (bG a).symm
 rw [List.getElem_set_self,e1,cV] at this;exact this
theorem Sp{s:Nat}{xs:List AV}{p:Nat}{x:AV}(hp:p<xs.length)(a:Ha k s xs p)(b:∀ j,Pa p j->j<xs.length->k x<=k (gt xs j))(t:∀ i,Pa i p->s<=i->k (gt xs i)<=k x):Hp k s (xs.set p x):=by
 intro i j hij hj hs;rw [aR] at hj;by_cases q:j=p
 . subst q;rw [Eg hp,Ee (aW hij.lt)];exact t i hij hs
 . rw [Ee q];by_cases q2:i=p
   . subst q2;rw [Eg hp];exact b j hij hj
   . rw [Ee q2];exact a i j hij hj hs q q2
theorem Apt{s:Nat}:∀ (f:Nat) {xs:List AV} {p:Nat} {x:AV},p<=f->p<xs.length->Dsc s p->Ha k s xs p->Hc k s xs p->(∀ j,Pa p j->j<xs.length->k x<=k (gt xs j))->Hp k s (sdF k s f xs p x)/\(sdF k s f xs p x).Perm (xs.set p x):=by
 intro f
 induction f with
 | zero=>
  intro xs p x hf hp d a c b;refine⟨Sp hp a b λi h hs=>?_,.refl _⟩;exact absurd h.lt (by exact (fk [p,i] [(1,(.v 0),(.n 0)),(1,(.a (.v 1) (.n 1)),(.v 0))] rfl hf))
 | succ f ih=>
  intro xs p x hf hp d a c b;unfold sdF;dsimp only;by_cases h:s<p
  . rw [if_pos h];have hq:=Pa.half (j:=p) (by exact ltc (fk [s,p] [(1,(.a (.v 0) (.n 1)),(.v 1)),(1,(.v 1),(.n 0))] rfl h));generalize (p - 1) / 2=q at hq ⊢;have hlt:=hq.lt;have dq:=d.up h hq;by_cases h2:k x<k (gt xs q)
    . rw [if_pos h2];have hql:q<xs.length:=by exact ltc (fk [p,xs.length,q] [(1,(.a (.v 0) (.n 1)),(.v 1)),(1,(.a (.v 2) (.n 1)),(.v 0)),(1,(.v 1),(.v 2))] rfl hp hlt)
      refine e02 (ih (xs:=xs.set p (gt xs q)) (p:=q) (x:=x) (by exact lec (fk [p,f,q] [(1,(.v 0),(.a (.v 1) (.n 1))),(1,(.a (.v 2) (.n 1)),(.v 0)),(1,(.a (.v 1) (.n 1)),(.v 2))] rfl hf hlt)) (by rw [aR];exact hql) dq ?_ ?_ ?_) λr1 r2=>⟨r1,r2.trans (Qb hp hql (aW hlt))⟩
      . intro i j hij hj hs n1 n2;rw [aR] at hj;have n3:j≠p:=λe=>n2 ((e▸hij).uniq hq);rw [Ee n3];by_cases z:i=p
        . subst z;rw [Eg hp];exact c q j hq dq.le hij hj
        . rw [Ee z];exact a i j hij hj hs n3 z
      . intro i j hiq hs hqj hj;rw [aR] at hj;have n1:i≠p:=by have:=hiq.lt;omega
        have b1:=a i q hiq hql hs (aW hlt) n1;rw [Ee n1];by_cases z:j=p
        . subst z;rw [Eg hp];exact b1
        . rw [Ee z];exact bA b1 (a q j hqj hj dq.le z (aW hlt))
      . intro j hqj hj;rw [aR] at hj;by_cases z:j=p
        . subst z;rw [Eg hp];exact cT h2
        . rw [Ee z];exact bA (cT h2) (a q j hqj hj dq.le z (aW hlt))
    . rw [if_neg h2];exact⟨Sp hp a b λi hi _=>by rw [hi.uniq hq];exact bQ.mp h2,.refl _⟩
  . rw [if_neg h];exact⟨Sp hp a b λi hi hs=>absurd (aV hs hi.lt) h,.refl _⟩
theorem Yn{xs:List AV}{p:Nat}(h:2*p+1<xs.length):Pa p (kid k xs p)/\kid k xs p<xs.length/\∀ j,Pa p j->j<xs.length->k (gt xs (kid k xs p))<=k (gt xs j):=by
 unfold kid;by_cases h1:2*p+2<xs.length
 . rw [if_pos h1];by_cases h2:k (gt xs (2*p+1))<k (gt xs (2*p+2))
   . rw [if_pos h2];refine⟨.inl rfl,h,λj hj _=>?_⟩;rcases hj with rfl | rfl
     . exact aU _
     . exact cT h2
   . rw [if_neg h2];refine⟨.inr rfl,h1,λj hj _=>?_⟩;rcases hj with rfl | rfl
     . exact bQ.mp h2
     . exact aU _
 . rw [if_neg h1];refine⟨.inl rfl,h,λj hj hl=>?_⟩;rcases hj with rfl | rfl
   . exact aU _
   . exact absurd hl h1
theorem Avy{s:Nat}{x:AV}:∀ (f:Nat) {xs:List AV} {p:Nat},xs.length<=f+p->p<xs.length->Dsc s p->Ha k s xs p->Hc k s xs p->
 (suF k f xs p).1.length=xs.length/\(suF k f xs p).2<xs.length/\Dsc s (suF k f xs p).2/\xs.length<=2*(suF k f xs p).2+1/\Ha k s (suF k f xs p).1 (suF k f xs p).2/\((suF k f xs p).1.set (suF k f xs p).2 x).Perm (xs.set p x):=by
 intro f
 induction f with
 | zero=>intro xs p hf hp;exact absurd hp (by exact (λ_=>fk [xs.length,p] [(1,(.v 0),(.a (.n 0) (.v 1))),(1,(.a (.v 1) (.n 1)),(.v 0))] rfl hf hp))
 | succ f ih=>
  intro xs p hf hp d a c;unfold suF;dsimp only;by_cases h:2*p+1<xs.length
  . rw [if_pos h];have hk:=Yn (k:=k) h;generalize kid k xs p=q at hk ⊢;refine e03 hk λhpq hq hm=>?_;have hlt:=hpq.lt;have dq:Dsc s q:=.cons d hpq;have:=ih (xs:=xs.set p (gt xs q)) (p:=q) (by rw [aR];exact lec (fk [xs.length,f,p,q] [(1,(.v 0),(.a (.a (.v 1) (.n 1)) (.v 2))),(1,(.a (.v 2) (.n 1)),(.v 3)),(1,(.a (.a (.v 1) (.v 3)) (.n 1)),(.v 0))] rfl hf hlt)) (by rw [aR];exact hq) dq ?_ ?_
    . rw [aR] at this;exact⟨this.1,this.2.1,this.2.2.1,this.2.2.2.1,this.2.2.2.2.1,this.2.2.2.2.2.trans (Qb hp hq (Ne.symm (aW hlt)))⟩
    . intro i j hij hj hs n1 n2;rw [aR] at hj;by_cases z:j=p
      . subst z;rw [Eg hp,Ee (aW hij.lt)];exact c i q hij hs hpq hq
      . rw [Ee z];by_cases z2:i=p
        . subst z2;rw [Eg hp];exact hm j hij hj
        . rw [Ee z2];exact a i j hij hj hs z z2
    . intro i j hiq hs hqj hj;rw [aR] at hj;rw [hiq.uniq hpq,Eg hp,Ee (by have:=hqj.lt;omega)];exact a q j hqj hj (bA d.le (cT hlt)) (by have:=hqj.lt;omega) (Ne.symm (aW hlt))
  . rw [if_neg h];exact⟨rfl,hp,d,bQ.mp h,a,.refl _⟩
theorem Ahi{s:Nat}{xs:List AV}(hs:s<xs.length)(h:Hp k (s+1) xs):Hp k s (upF k xs s)/\(upF k xs s).Perm xs:=by
 have hu:=Avy (k:=k) (s:=s) (x:=gt xs s) xs.length (xs:=xs) (p:=s) (cB _ _) hs .nil (λi j hij hj hi _ n=>h i j hij hj (bK hi (Ne.symm n))) λi j hi hsi=>absurd hi.lt (bQ.mpr hsi);unfold upF;generalize suF k xs.length xs s=r at hu ⊢;refine e06 hu λh1 h2 h3 h4 h5 h6=>?_;have h2':r.2<r.1.length:=by rw [h1];exact h2
 have no:∀ j,Pa r.2 j->¬ j<xs.length:=λj hj hl=>by unfold Pa at hj;omega
 refine e02 (Apt (k:=k) (s:=s) xs.length (xs:=r.1.set r.2 (gt xs s)) (p:=r.2) (x:=gt xs s) (cT h2) (by rw [aR];exact h2') h3 ?_ ?_ ?_) λq1 q2=>⟨q1,q2.trans ?_⟩
 . intro i j hij hj hi n1 n2;rw [aR] at hj;rw [Ee n1,Ee n2];exact h5 i j hij hj hi n1 n2
 . intro i j _ _ hj hl;rw [aR,h1] at hl;exact absurd hl (no j hj)
 . intro j hj hl;rw [aR,h1] at hl;exact absurd hl (no j hj)
 . rw [cV];refine h6.trans ?_;rw [show xs.set s (gt xs s)=xs from by
    have:=Dn hs;rw [bB hs] at this;rw [<- bG this,List.set_getElem_self]]
theorem Hp.root{xs:List AV}(h:Hp k 0 xs):∀ {j:Nat},j<xs.length->k (gt xs 0)<=k (gt xs j):=by
 intro j
 induction j using Nat.strongRecOn with
 | _ j ih=>
  intro hj;by_cases z:j=0
  . rw [z];exact aU _
  . have hp:=Pa.half (j:=j) (Nat.pos_of_ne_zero z);exact bA (ih _ hp.lt (aT hp.lt hj)) (h _ _ hp hj (bV _))
end
noncomputable def L28:List IS:=[.expr (.meth (.var 0) .append [(.var 1)]),.expr (.call (.lit (.con (.ref 63))) [(.var 0),(.lit (.int 0)),(.bin .sub (.blt .len [(.var 0)]) (.lit (.int 1)))])]
noncomputable def L35:List IS:=[.ass (.var 1) (.meth (.var 0) .pop []),.ite (.var 0) [.ass (.var 2) (.idx (.var 0) (.lit (.int 0))),.ass (.idx (.var 0) (.lit (.int 0))) (.var 1),.expr (.call (.lit (.con (.ref 70))) [(.var 0),(.lit (.int 0))]),.ret (.var 2)] [],.ret (.var 1)]
noncomputable def L42:List IS:=[.ass (.var 2) (.idx (.var 0) (.lit (.int 0))),.ass (.idx (.var 0) (.lit (.int 0))) (.var 1),.expr (.call (.lit (.con (.ref 70))) [(.var 0),(.lit (.int 0))]),.ret (.var 2)]
noncomputable def L49:List IS:=[.ass (.var 2) (.idx (.var 0) (.lit (.int 0))),.ass (.idx (.var 0) (.lit (.int 0))) (.var 1),.expr (.call (.lit (.con (.ref 84))) [(.var 0),(.lit (.int 0))]),.ret (.var 2)]
noncomputable def Apu:List IS:=[.expr (.call (.lit (.con (.ref 84))) [(.var 0),(.var 2)])]
noncomputable def L56:List IS:=[.ass (.var 1) (.blt .len [(.var 0)]),.forr (.var 2) (.rev (.blt .range [(.bin .fdiv (.var 1) (.lit (.int 2)))])) Apu]
noncomputable def Avz:List IS:=[.ass (.var 4) (.bin .shr (.bin .sub (.var 2) (.lit (.int 1))) (.lit (.int 1))),.ass (.var 5) (.idx (.var 0) (.var 4)),.ite (.cmp .lt (.var 3) (.var 5)) [.ass (.idx (.var 0) (.var 2)) (.var 5),.ass (.var 2) (.var 4),.cnt] [],.brk]
noncomputable def L63:List IS:=[.ass (.var 3) (.idx (.var 0) (.var 2)),.whl (.cmp .gt (.var 2) (.var 1)) Avz,.ass (.idx (.var 0) (.var 2)) (.var 3)]
noncomputable def Awa:List IS:=[.ass (.var 6) (.bin .add (.var 5) (.lit (.int 1))),.ite (.and [(.cmp .lt (.var 6) (.var 2)),(.not (.cmp .lt (.idx (.var 0) (.var 5)) (.idx (.var 0) (.var 6))))]) [.ass (.var 5) (.var 6)] [],.ass (.idx (.var 0) (.var 1)) (.idx (.var 0) (.var 5)),.ass (.var 1) (.var 5),.ass (.var 5) (.bin .add (.bin .mul (.lit (.int 2)) (.var 1)) (.lit (.int 1)))]
noncomputable def L70:List IS:=[.ass (.var 2) (.blt .len [(.var 0)]),.ass (.var 3) (.var 1),.ass (.var 4) (.idx (.var 0) (.var 1)),.ass (.var 5) (.bin .add (.bin .mul (.lit (.int 2)) (.var 1)) (.lit (.int 1))),.whl (.cmp .lt (.var 5) (.var 2)) Awa,.ass (.idx (.var 0) (.var 1)) (.var 4),.expr (.call (.lit (.con (.ref 63))) [(.var 0),(.var 3),(.var 1)])]
noncomputable def Awb:List IS:=[.ass (.var 4) (.bin .shr (.bin .sub (.var 2) (.lit (.int 1))) (.lit (.int 1))),.ass (.var 5) (.idx (.var 0) (.var 4)),.ite (.cmp .lt (.var 5) (.var 3)) [.ass (.idx (.var 0) (.var 2)) (.var 5),.ass (.var 2) (.var 4),.cnt] [],.brk]
noncomputable def L77:List IS:=[.ass (.var 3) (.idx (.var 0) (.var 2)),.whl (.cmp .gt (.var 2) (.var 1)) Awb,.ass (.idx (.var 0) (.var 2)) (.var 3)]
noncomputable def Awc:List IS:=[.ass (.var 6) (.bin .add (.var 5) (.lit (.int 1))),.ite (.and [(.cmp .lt (.var 6) (.var 2)),(.not (.cmp .lt (.idx (.var 0) (.var 6)) (.idx (.var 0) (.var 5))))]) [.ass (.var 5) (.var 6)] [],.ass (.idx (.var 0) (.var 1)) (.idx (.var 0) (.var 5)),.ass (.var 1) (.var 5),.ass (.var 5) (.bin .add (.bin .mul (.lit (.int 2)) (.var 1)) (.lit (.int 1)))]
noncomputable def L84:List IS:=[.ass (.var 2) (.blt .len [(.var 0)]),.ass (.var 3) (.var 1),.ass (.var 4) (.idx (.var 0) (.var 1)),.ass (.var 5) (.bin .add (.bin .mul (.lit (.int 2)) (.var 1)) (.lit (.int 1))),.whl (.cmp .lt (.var 5) (.var 2)) Awc,.ass (.idx (.var 0) (.var 1)) (.var 4),.expr (.call (.lit (.con (.ref 77))) [(.var 0),(.var 3),(.var 1)])]
noncomputable def Ahj:List IS:=[.ite (.cmp .lt (.var 7) (.var 8)) [.expr (.call (.var 10) [(.var 5),(.tup [(.var 7),(.var 9)])]),.ass (.tup [8,11]) (.idx (.var 5) (.lit (.int 0))),.aug 9 .add (.lit (.int 1))] []]
noncomputable def Awd:List IS:=[.ass (.var 12) (.call (.cvar 2) [(.var 7)]),.ite (.cmp .lt (.var 12) (.var 8)) [.expr (.call (.var 10) [(.var 5),(.tup [(.var 12),(.var 9),(.var 7)])]),.ass (.tup [8,11,13]) (.idx (.var 5) (.lit (.int 0))),.aug 9 .add (.lit (.int 1))] []]
noncomputable def L90:List IS:=[.ite (.cmp .eq (.var 0) (.lit (.int 1))) [.ass (.var 3) (.blt .iter [(.var 1)]),.ass (.var 4) (.blt .object []),.ass (.var 5) (.mink (.var 3) (.var 4) (.cvar 2)),.ret (.ite (.cmp .is (.var 5) (.var 4)) (.lst false []) (.lst false [(.var 5)]))] [],.trye [.ass (.var 6) (.blt .len [(.var 1)])] [.ite (.cmp .ge (.var 0) (.var 6)) [.ret (.slc (.sortk (.var 1) (.cvar 2)) none (some (.var 0)) none)] []],.ite (.cmp .is (.cvar 2) (.lit .none)) [.ass (.var 3) (.blt .iter [(.var 1)]),.ass (.var 5) (.comp true (.tup [(.var 102),(.var 101)]) [101,102] (.zip (.blt .range [(.var 0)]) (.var 3)) []),.ite (.not (.var 5)) [.ret (.frz 5)] [],.expr (.call (.lit (.con (.ref 56))) [(.var 5)]),.ass (.var 8) (.idx (.idx (.var 5) (.lit (.int 0))) (.lit (.int 0))),.ass (.var 9) (.var 0),.ass (.var 10) (.lit (.con (.ref 49))),.forr (.var 7) (.val (.var 3)) Ahj,.expr (.meth (.var 5) .sort []),.ret (.comp false (.var 101) [101,102] (.val (.var 5)) [])] [],.ass (.var 3) (.blt .iter [(.var 1)]),.ass (.var 5) (.comp false (.tup [(.call (.cvar 2) [(.var 102)]),(.var 101),(.var 102)]) [101,102] (.zip (.blt .range [(.var 0)]) (.var 3)) []),.ite (.not (.var 5)) [.ret (.var 5)] [],.expr (.call (.lit (.con (.ref 56))) [(.var 5)]),.ass (.var 8) (.idx (.idx (.var 5) (.lit (.int 0))) (.lit (.int 0))),.ass (.var 9) (.var 0),.ass (.var 10) (.lit (.con (.ref 49))),.forr (.var 7) (.val (.var 3)) Awd,.expr (.meth (.var 5) .sort []),.ret (.comp false (.var 103) [101,102,103] (.val (.var 5)) [])]
noncomputable def L97:List IS:=[.ass (.var 1) (.meth (.var 0) .read [(.lit (.int 1))]),.ite (.var 1) [.ret (.idx (.var 1) (.lit (.int 0)))] [],.raise (.lit (.str (Str.ofString "not enough data in stream to read uint1")))]
noncomputable def Ayo:List IS:=[.ass (.var 1) (.call (.lit (.con (.ref 97))) [(.var 0)]),.asrt (.cmp .ge (.var 1) (.lit (.int 0))),.ass (.var 2) (.meth (.var 0) .read [(.var 1)]),.ite (.cmp .eq (.blt .len [(.var 2)]) (.var 1)) [.ret (.meth (.var 2) .decode [(.lit (.str (Str.ofString "latin-1")))])] [],.raise (.bin .mod (.lit (.str (Str.ofString "expected %d bytes in a string1, but only %d remain"))) (.tup [(.var 1),(.blt .len [(.var 2)])]))]
noncomputable def Ayp:List IS:=[.ass (.var 1) (.call (.lit (.con (.ref 97))) [(.var 0)]),.asrt (.cmp .ge (.var 1) (.lit (.int 0))),.ass (.var 2) (.meth (.var 0) .read [(.var 1)]),.ite (.cmp .eq (.blt .len [(.var 2)]) (.var 1)) [.ret (.var 2)] [],.raise (.bin .mod (.lit (.str (Str.ofString "expected %d bytes in a bytes1, but only %d remain"))) (.tup [(.var 1),(.blt .len [(.var 2)])]))]
noncomputable def Ayq:List IS:=[.ass (.var 1) (.blt .type [(.var 0)]),.ite (.blt .issubclass [(.var 1),(.tup [(.lit (.con (.type "str"))),(.lit (.con (.type "bytes")))])]) [.ret (.var 0)] [],.expr (.call .stuck [(.var 1)]),.ass (.var 2) (.call .stuck [(.var 1),(.lit (.str (Str.ofString "__fspath__"))),(.lit .none)]),.ite (.cmp .is (.var 2) (.lit .none)) [.stuck] [],.ite .stuck [.expr (.call .stuck [(.lit (.int 5))])] [],.ass (.var 3) (.call (.var 2) [(.var 0)]),.ite (.blt .issubclass [(.blt .type [(.var 3)]),(.tup [(.lit (.con (.type "str"))),(.lit (.con (.type "bytes")))])]) [.ret (.var 3)] [],.ite (.cmp .gt (.blt .len [.stuck]) (.lit (.int 200))) [.expr (.call .stuck [(.lit (.int 6))])] [],.stuck]
noncomputable def Ayr:List IS:=[.ite (.blt .isinstance [(.var 0),(.lit (.con (.type "bytes")))]) [.ret (.lit (.bytes [47]))] [.ret (.lit (.str ⟨#[47]⟩))]]
noncomputable def Ahk:List IS:=[.ass (.var 4) (.call (.lit (.con (.ref 184))) [(.var 4)]),.ite (.or [(.meth (.var 4) .startswith [(.var 2)]),(.not (.var 3))]) [.ass (.var 3) (.var 4)] [.ite (.meth (.var 3) .endswith [(.var 2)]) [.aug 3 .add (.var 4)] [.aug 3 .add (.bin .add (.var 2) (.var 4))]]]
noncomputable def Ays:List IS:=[.ass (.var 0) (.call (.lit (.con (.ref 184))) [(.var 0)]),.ass (.var 2) (.call (.lit (.con (.ref 198))) [(.var 0)]),.ass (.var 3) (.var 0),.trye [.forr (.var 4) (.val (.var 1)) Ahk] [],.ret (.var 3)]
noncomputable def Ayt:List IS:=[.ass (.var 0) (.call (.lit (.con (.ref 184))) [(.var 0)]),.ite (.blt .isinstance [(.var 0),(.lit (.con (.type "bytes")))]) [.ass (.var 1) (.lit (.bytes [47])),.ass (.var 2) (.lit (.bytes []))] [.ass (.var 1) (.lit (.str ⟨#[47]⟩)),.ass (.var 2) (.lit (.str ⟨#[]⟩))],.ite (.cmp .ne (.slc (.var 0) none (some (.lit (.int 1))) none) (.var 1)) [.ret (.tup [(.var 2),(.var 2),(.var 0)])] [.ite (.or [(.cmp .ne (.slc (.var 0) (some (.lit (.int 1))) (some (.lit (.int 2))) none) (.var 1)),(.cmp .eq (.slc (.var 0) (some (.lit (.int 2))) (some (.lit (.int 3))) none) (.var 1))]) [.ret (.tup [(.var 2),(.var 1),(.slc (.var 0) (some (.lit (.int 1))) none none)])] [.ret (.tup [(.var 2),(.slc (.var 0) none (some (.lit (.int 2))) none),(.slc (.var 0) (some (.lit (.int 2))) none none)])]]]
noncomputable def Ayu:List IS:=[.ass (.var 0) (.call (.lit (.con (.ref 184))) [(.var 0)]),.ass (.var 1) (.call (.lit (.con (.ref 198))) [(.var 0)]),.ass (.var 2) (.bin .add (.meth (.var 0) .rfind [(.var 1)]) (.lit (.int 1))),.ass (.var 3) (.slc (.var 0) none (some (.var 2)) none),.ite (.and [(.var 3),(.cmp .ne (.var 3) (.bin .mul (.var 1) (.blt .len [(.var 3)])))]) [.ass (.var 3) (.meth (.var 3) .rstrip [(.var 1)])] [],.ret (.var 3)]
noncomputable def Yo:List IS:=[.ite (.or [(.not (.var 8)),(.cmp .eq (.var 8) (.var 2))]) [.cnt] [],.ite (.or [(.cmp .ne (.var 8) (.var 3)),(.and [(.not (.var 5)),(.not (.var 7))]),(.and [(.var 7),(.cmp .eq (.idx (.var 7) (.neg (.lit (.int 1)))) (.var 3))])]) [.expr (.meth (.var 7) .append [(.var 8)])] [.ite (.var 7) [.expr (.meth (.var 7) .pop [])] []]]
noncomputable def Ayv:List IS:=[.ass (.var 0) (.call (.lit (.con (.ref 184))) [(.var 0)]),.ite (.blt .isinstance [(.var 0),(.lit (.con (.type "bytes")))]) [.ass (.var 1) (.lit (.bytes [47])),.ass (.var 2) (.lit (.bytes [46])),.ass (.var 3) (.lit (.bytes [46,46]))] [.ass (.var 1) (.lit (.str ⟨#[47]⟩)),.ass (.var 2) (.lit (.str ⟨#[46]⟩)),.ass (.var 3) (.lit (.str ⟨#[46,46]⟩))],.ite (.not (.var 0)) [.ret (.var 2)] [],.ass (.tup [4,5,0]) (.call (.lit (.con (.ref 212))) [(.var 0)]),.ass (.var 6) (.meth (.var 0) .split [(.var 1)]),.ass (.var 7) (.lst true []),.forr (.var 8) (.val (.var 6)) Yo,.ass (.var 6) (.var 7),.ass (.var 0) (.bin .add (.var 5) (.meth (.var 1) .join [(.var 6)])),.ret (.or [(.var 0),(.var 2)])]
noncomputable def Ahl:List IS:=[.expr (.meth (.var 5) .append [(.idx (.tup [(.lit (.str ⟨#[97]⟩)),(.lit (.str ⟨#[98,47]⟩)),(.lit (.str ⟨#[46,46]⟩)),(.lit (.str ⟨#[46]⟩)),(.lit (.str ⟨#[46,46,47,46,46]⟩)),(.lit (.str ⟨#[97,45]⟩))]) (.bin .mod (.var 1) (.lit (.int 6))))]),.aug 1 .fdiv (.lit (.int 6))]
noncomputable def Ayw:List IS:=[.ass (.var 1) (.bin .add (.bin .mul (.bin .mod (.blt .abs [(.var 0)]) (.lit (.int 99991))) (.lit (.int 977))) (.lit (.int 61))),.ass (.var 2) (.idx (.tup [(.lit (.int 0)),(.lit (.int 1)),(.lit (.int 1)),(.lit (.int 2)),(.lit (.int 3)),(.lit (.int 5)),(.lit (.int 130)),(.lit (.int 255))]) (.bin .mod (.var 1) (.lit (.int 8)))),.aug 1 .fdiv (.lit (.int 8)),.ass (.var 3) (.idx (.tup [(.lit (.str ⟨#[]⟩)),(.lit (.str ⟨#[]⟩)),(.lit (.str ⟨#[47]⟩)),(.lit (.str ⟨#[46,47]⟩)),(.lit (.str ⟨#[47,46,46,47]⟩))]) (.bin .mod (.var 1) (.lit (.int 5)))),.aug 1 .fdiv (.lit (.int 5)),.ass (.var 4) (.bin .mod (.var 1) (.lit (.int 3))),.aug 1 .fdiv (.lit (.int 3)),.ass (.var 5) (.lst true []),.forr (.var 6) (.val (.blt .range [(.var 4)])) Ahl,.ret (.tup [(.var 2),(.bin .add (.var 3) (.meth (.lit (.str ⟨#[47]⟩)) .join [(.var 5)]))])]
noncomputable def Yp:List IS:=[.ass (.var 5) (.bin .add (.bin .add (.lst false [(.var 3),(.blt .len [(.var 4)])]) (.comp false (.blt .ord [(.var 101)]) [101] (.val (.var 4)) [])) (.bin .mul (.lst false [(.lit (.int 200))]) (.bin .mod (.var 3) (.lit (.int 3))))),.ass (.var 2) (.bin .add (.bin .add (.var 2) (.lst false [(.blt .len [(.var 5)])])) (.var 5))]
noncomputable def Ayx:List IS:=[.ass (.var 2) (.lst false []),.forr (.tup [3,4]) (.val (.var 0)) Yp,.ret (.blt .bytes [(.bin .add (.var 2) (.var 1))])]
noncomputable def Ayy:List IS:=[.ass (.var 1) (.bin .fdiv (.var 0) (.lit (.int 3))),.ite (.cmp .eq (.bin .mod (.var 0) (.lit (.int 3))) (.lit (.int 0))) [.ret (.tup [(.lst false []),(.lit (.str (Str.ofString "not enough data in stream to read uint1"))),(.lit (.bytes []))])] [],.ite (.cmp .eq (.bin .mod (.var 0) (.lit (.int 3))) (.lit (.int 1))) [.ass (.var 1) (.bin .mod (.var 1) (.lit (.int 9))),.ret (.tup [(.bin .add (.lst false [(.lit (.int 9))]) (.bin .mul (.lst false [(.lit (.int 97))]) (.var 1))),(.bin .add (.bin .add (.lit (.str (Str.ofString "expected 9 bytes in a bytes1, but only "))) (.blt .str [(.var 1)])) (.lit (.str (Str.ofString " remain")))),(.lit (.bytes []))])] [],.ass (.var 1) (.bin .mod (.var 1) (.lit (.int 7))),.ass (.var 2) (.bin .add (.bin .add (.lit (.str (Str.ofString "expected 7 bytes in a string1, but only "))) (.blt .str [(.var 1)])) (.lit (.str (Str.ofString " remain")))),.ret (.tup [(.bin .add (.lst false [(.bin .add (.var 1) (.lit (.int 2))),(.lit (.int 255)),(.lit (.int 7))]) (.bin .mul (.lst false [(.lit (.int 97))]) (.bin .add (.var 1) (.lit (.int 8))))),(.var 2),(.lit (.bytes [97,97,97,97,97,97,97,97]))])]
noncomputable def Yq:List IS:=[.ass (.var 7) (.call (.lit (.con (.ref 219))) [(.var 7)]),.ass (.idx (.var 2) (.var 7)) (.bin .add (.meth (.var 2) .get [(.var 7),(.lit (.int 0))]) (.var 6))]
noncomputable def Sq:List IS:=[.ass (.var 5) (.call (.lit (.con (.ref 233))) [(.call (.lit (.con (.ref 111))) [(.var 1)])]),.ass (.var 6) (.call (.lit (.con (.ref 97))) [(.var 5)]),.ass (.var 7) (.call (.lit (.con (.ref 226))) [(.call (.lit (.con (.ref 205))) [(.var 3),(.call (.lit (.con (.ref 104))) [(.var 5)])])]),.ass (.var 3) (.call (.lit (.con (.ref 219))) [(.var 7)]),.ass (.var 8) (.ite (.cmp .eq (.var 7) (.lit (.str ⟨#[47]⟩))) (.lit (.int 0)) (.meth (.var 7) .count [(.lit (.str ⟨#[47]⟩))])),.ass (.idx (.var 2) (.var 7)) (.bin .add (.meth (.var 2) .get [(.var 7),(.lit (.int 0))]) (.var 6)),.forr (.var 9) (.val (.blt .range [(.var 8)])) Yq]
noncomputable def Ayz:List IS:=[.ass (.var 1) (.call (.lit (.con (.ref 233))) [(.var 0)]),.ass (.var 2) .dict,.ass (.var 3) (.lit (.str ⟨#[47]⟩)),.ass (.var 4) (.lit (.str ⟨#[]⟩)),.tryw (.lit (.bool true)) Sq 10 4,.ret (.tup [(.var 2),(.var 4),(.meth (.var 1) .read [(.lit (.int 99))])])]
noncomputable def Aza:List IS:=[.ret (.comp false (.tup [(.neg (.idx (.cvar 0) (.var 101))),(.meth (.var 101) .split [(.lit (.str ⟨#[47]⟩))]),(.var 101)]) [101] (.val (.cvar 0)) [])]
noncomputable def Yr:List IS:=[.ite (.cmp .ne (.idx (.var 3) (.lit (.int 2))) (.lit (.str ⟨#[47]⟩))) [.ass (.var 4) (.call (.lit (.con (.ref 219))) [(.idx (.var 3) (.lit (.int 2)))]),.ass (.idx (.var 2) (.var 4)) (.bin .add (.meth (.var 2) .get [(.var 4),(.lst false [])]) (.lst false [(.var 3)]))] []]
noncomputable def Ahm:List IS:=[.expr (.call (.lit (.con (.ref 28))) [(.var 5),(.var 3)])]
noncomputable def Sr:List IS:=[.ass (.var 7) (.idx (.var 5) (.lit (.int 0))),.expr (.meth (.var 6) .append [(.var 7)]),.ass (.var 8) (.meth (.var 2) .get [(.idx (.var 7) (.lit (.int 2))),(.lst false [])]),.ite (.cmp .eq (.var 8) (.lst false [])) [.ass (.var 9) (.call (.lit (.con (.ref 35))) [(.var 5)])] [.ass (.var 10) (.tup [(.neg (.lit (.int 1000000))),(.lst false []),(.lit (.str ⟨#[]⟩))]),.ass (.var 9) (.call (.lit (.con (.ref 42))) [(.var 5),(.var 10)]),.ite (.cmp .ne (.call (.lit (.con (.ref 42))) [(.var 5),(.idx (.var 8) (.lit (.int 0)))]) (.var 10)) [.ret (.lit .none)] [],.forr (.var 3) (.val (.slc (.var 8) (some (.lit (.int 1))) none none)) Ahm],.ite (.cmp .ne (.var 9) (.var 7)) [.ret (.lit .none)] []]
noncomputable def Ys:List IS:=[.expr (.meth (.var 11) .append [(.call (.lit (.con (.ref 35))) [(.var 5)])])]
noncomputable def Azb:List IS:=[.ass (.var 2) .dict,.forr (.var 3) (.val (.var 0)) Yr,.ass (.var 5) (.comp true (.var 101) [101] (.val (.var 0)) [(.cmp .eq (.idx (.var 101) (.lit (.int 2))) (.lit (.str ⟨#[47]⟩)))]),.ass (.var 6) (.lst true []),.whl (.and [(.var 5),(.cmp .lt (.blt .len [(.var 6)]) (.var 1))]) Sr,.ass (.var 11) (.lst true []),.whl (.var 5) Ys,.ret (.tup [(.frz 6),(.frz 11)])]
noncomputable def Yt:List IS:=[.ite (.cmp .eq (.var 2) (.lit (.str ⟨#[46,46]⟩))) [.ass (.var 0) (.slc (.var 0) none (some (.neg (.lit (.int 1)))) none)] [.ite (.and [(.cmp .ne (.var 2) (.lit (.str ⟨#[]⟩))),(.cmp .ne (.var 2) (.lit (.str ⟨#[46]⟩)))]) [.ass (.var 0) (.bin .add (.var 0) (.lst false [(.var 2)]))] []]]
noncomputable def Azc:List IS:=[.ass (.var 0) (.ite (.cmp .eq (.slc (.var 1) none (some (.lit (.int 1))) none) (.lit (.str ⟨#[47]⟩))) (.lst false []) (.var 0)),.forr (.var 2) (.val (.meth (.var 1) .split [(.lit (.str ⟨#[47]⟩))])) Yt,.ret (.var 0)]
noncomputable def Yu:List IS:=[.ass (.var 5) (.call (.lit (.con (.ref 276))) [(.var 2),(.var 4)]),.ass (.var 2) (.slc (.var 5) none (some (.neg (.lit (.int 1)))) none),.expr (.meth (.var 1) .append [(.tup [(.var 3),(.var 5)])])]
noncomputable def Yv:List IS:=[.ite (.cmp .nin (.slc (.var 5) none (some (.var 7)) none) (.var 6)) [.expr (.meth (.var 6) .append [(.slc (.var 5) none (some (.var 7)) none)])] []]
noncomputable def Yw:List IS:=[.forr (.var 7) (.val (.blt .range [(.bin .add (.blt .len [(.var 5)]) (.lit (.int 1)))])) Yv]
noncomputable def Yx:List IS:=[.ass (.var 10) (.blt .sum [(.comp false (.var 101) [101,102] (.val (.var 1)) [(.cmp .eq (.slc (.var 102) none (some (.blt .len [(.cvar 9)])) none) (.cvar 9))])]),.expr (.meth (.var 8) .append [(.tup [(.neg (.var 10)),(.bin .add (.lst false [(.lit (.str ⟨#[]⟩))]) (.or [(.cvar 9),(.lst false [(.lit (.str ⟨#[]⟩))])])),(.bin .add (.lit (.str ⟨#[47]⟩)) (.meth (.lit (.str ⟨#[47]⟩)) .join [(.cvar 9)]))])])]
noncomputable def Azd:List IS:=[.ass (.var 1) (.lst true []),.ass (.var 2) (.lst false []),.forr (.tup [3,4]) (.val (.var 0)) Yu,.ass (.var 6) (.lst true []),.forr (.tup [3,5]) (.val (.var 1)) Yw,.ass (.var 8) (.lst true []),.forr (.var 9) (.val (.var 6)) Yx,.ret (.blt .sorted [(.var 8)])]
noncomputable def Yy:List IS:=[.expr (.meth (.var 1) .append [(.call (.lit (.con (.ref 240))) [(.blt .sum [(.slc (.var 0) (some (.var 2)) none (some (.lit (.int 3))))])])])]
noncomputable def Aze:List IS:=[.ass (.var 1) (.lst true [(.tup [(.lit (.int 3)),(.lit (.str ⟨#[97,47,98,47,97]⟩))]),(.tup [(.lit (.int 2)),(.lit (.str (Str.ofString "../../a")))]),(.tup [(.lit (.int 130)),(.lit (.str (Str.ofString "/../b/.")))]),(.tup [(.lit (.int 4)),(.lit (.str ⟨#[97,45]⟩))])]),.forr (.var 2) (.val (.blt .range [(.blt .min [(.lit (.int 3)),(.blt .len [(.var 0)])])])) Yy,.ass (.tup [3,4,5]) (.call (.lit (.con (.ref 252))) [(.blt .sum [(.var 0)])]),.ass (.tup [6,7,8]) (.call (.lit (.con (.ref 259))) [(.call (.lit (.con (.ref 245))) [(.var 1),(.var 3)])]),.ite (.cmp .ne (.tup [(.var 7),(.var 8)]) (.tup [(.var 4),(.var 5)])) [.ret (.lit (.bool false))] [],.ass (.var 9) (.call (.lit (.con (.ref 281))) [(.var 1)]),.ass (.var 10) (.call (.lit (.con (.ref 264))) [(.var 6)]),.ite (.cmp .ne (.blt .sorted [(.var 10)]) (.var 9)) [.ret (.lit (.bool false))] [],.ass (.var 11) (.bin .mod (.bin .add (.blt .sum [(.var 0)]) (.lit (.int 5))) (.bin .add (.blt .len [(.var 9)]) (.lit (.int 1)))),.ass (.var 12) (.comp false (.idx (.var 101) (.lit (.int 2))) [101] (.val (.slc (.var 9) none (some (.var 11)) none)) []),.ass (.var 13) (.comp false (.var 101) [101] (.val (.slc (.var 9) (some (.var 11)) none none)) [(.or [(.cmp .eq (.idx (.var 101) (.lit (.int 2))) (.lit (.str ⟨#[47]⟩))),(.cmp .isin (.bin .add (.lit (.str ⟨#[47]⟩)) (.meth (.lit (.str ⟨#[47]⟩)) .join [(.slc (.idx (.var 101) (.lit (.int 1))) (some (.lit (.int 1))) (some (.neg (.lit (.int 1)))) none)])) (.cvar 12))])]),.ret (.and [(.cmp .eq (.call (.lit (.con (.ref 90))) [(.var 11),(.var 10)]) (.slc (.var 9) none (some (.var 11)) none)),(.cmp .eq (.call (.lit (.con (.ref 269))) [(.var 10),(.var 11)]) (.tup [(.slc (.var 9) none (some (.var 11)) none),(.var 13)]))])]
noncomputable def Jb:List (Addr×Fn):=[(28,⟨2,false,[],L28⟩),(35,⟨1,false,[],L35⟩),(42,⟨2,false,[],L42⟩),(49,⟨2,false,[],L49⟩),(56,⟨1,false,[],L56⟩),(63,⟨3,false,[],L63⟩),(70,⟨2,false,[],L70⟩),(77,⟨3,false,[],L77⟩),(84,⟨2,false,[],L84⟩),(90,⟨3,false,[.none],L90⟩),(97,⟨1,false,[],L97⟩),(104,⟨1,false,[],Ayo⟩),(111,⟨1,false,[],Ayp⟩),(184,⟨1,false,[],Ayq⟩),(198,⟨1,false,[],Ayr⟩),(205,⟨1,true,[],Ays⟩),(212,⟨1,false,[],Ayt⟩),(219,⟨1,false,[],Ayu⟩),(226,⟨1,false,[],Ayv⟩),(240,⟨1,false,[],Ayw⟩),(245,⟨2,false,[],Ayx⟩),(252,⟨1,false,[],Ayy⟩),(259,⟨1,false,[],Ayz⟩),(264,⟨1,false,[],Aza⟩),(269,⟨2,false,[],Azb⟩),(276,⟨2,false,[],Azc⟩),(281,⟨1,false,[],Azd⟩),(286,⟨1,false,[],Aze⟩)]
noncomputable def Ai:Bi:=⟨λa=>Jb.lookup a,233⟩
noncomputable def Evt(A:Nat->Prop):Prop:=∃ N,∀ n,N<=n->A n
theorem Bl{A:Nat->Prop}(K:Nat)(k:∀ m,A (m+K)):Evt A:=⟨K,λn h=>by have:=k (n - K);rwa [Nat.sub_add_cancel h] at this⟩
theorem Az{A B:Nat->Prop}(h:Evt A)(k:∀ m,A m->B (m+1)):Evt B:=
 h.elim λN h=>⟨N+1,λn hn=>by have:=k (n - 1) (h (n - 1) (Nat.le_sub_of_add_le hn));rwa [Nat.sub_add_cancel (bA (Nat.le_add_left 1 N) hn)] at this⟩
theorem Eh{A B:Nat->Prop}(h:Evt A)(h':Evt B):Evt λn=>A n/\B n:=
 h.elim λN h=>h'.elim λN' h'=>⟨max N N',λn hn=>⟨h n (bA (Nat.le_max_left _ _) hn),h' n (bA (Nat.le_max_right _ _) hn)⟩⟩
theorem Aw{A A' B:Nat->Prop}(h:Evt A)(h':Evt A')(k:∀ m,A m->A' m->B (m+1)):Evt B:=Az (Eh h h') λm x=>k m x.1 x.2
theorem Ss{A A' A'' B:Nat->Prop}(h:Evt A)(h':Evt A')(h'':Evt A'')(k:∀ m,A m->A' m->A'' m->B (m+1)):Evt B:=Aw (Eh h h') h'' λm x y=>k m x.1 x.2 y
noncomputable def EvE(lv:Nat)(Y:Ae)(e:IE)(J:Sto)(q:Except Str AV)(J':Sto):Prop:=Evt λn=>evA Ai n lv Y e J=some (q,J')
noncomputable def EvL(lv:Nat)(Y:Ae)(es:List IE)(J:Sto)(q:Except Str (List AV))(J':Sto):Prop:=Evt λn=>evsA Ai n lv Y es J=some (q,J')
noncomputable def EvC(lv:Nat)(a:Addr)(vs:List AV)(J:Sto)(q:Except Str AV)(J':Sto):Prop:=Evt λn=>Pi Ai n lv a vs J=some (q,J')
noncomputable def EvB(lv:Nat)(Y:Ae)(ss:List IS)(J:Sto)(r:XR):Prop:=Evt λn=>Fg Ai n lv Y ss J=some r
noncomputable def EvX(lv:Nat)(Y:Ae)(s:IS)(J:Sto)(r:XR):Prop:=Evt λn=>exA Ai n lv Y s J=some r
noncomputable def EvW(lv:Nat)(Y:Ae)(c:IE)(b:List IS)(J:Sto)(r:XR):Prop:=Evt λn=>Tw Ai n lv Y c b J=some r
noncomputable def EvF(lv:Nat)(Y:Ae)(t:IT)(b:List IS)(s:Src)(J:Sto)(r:XR):Prop:=Evt λn=>Abz Ai n lv Y t b s J=some r
section
variable{lv i k j s p:Nat}{Y Y':Ae}{J J1 J2 σ₃:Sto}{x y v:AV}{r:XR}{rest:List IS}{a b c e:IE}{xs ys:List AV}{Q:AV->Prop}{K:AV->Nat}
theorem bO{α β:Type}{m:M α}{f:α->M β}{x:α}(h:m J=some (.ok x,J1)):(m.bnd f) J=f x J1:=by unfold M.bnd;rw [h]
theorem bX{α β:Type}{m:M α}{f:α->M β}{x:Str}(h:m J=some (.error x,J1)):(m.bnd f) J=some (.error x,J1):=by unfold M.bnd;rw [h]
theorem oO{α:Type}{m:M α}{f:α->X}{x:α}(h:m J=some (.ok x,J1)):(X.of m Y f) J=f x J1:=by unfold X.of;rw [h]
theorem oX{α:Type}{m:M α}{f:α->X}{x:Str}(h:m J=some (.error x,J1)):(X.of m Y f) J=some (.error (false,x),Y,J1):=by unfold X.of;rw [h]
theorem tO{m:X}{f:Fl->Ae->X}{fl:Fl}(h:m J=some (.ok fl,Y,J1)):(X.thn m f) J=f fl Y J1:=by unfold X.thn;rw [h]
theorem sO{m:X}{fl:Fl}(h:m J=some (.ok fl,Y,J1)):(X.still m) J=some (.ok fl,Y,J1):=by unfold X.still;rw [h]
theorem mS{α:Type}{m:M α}{x:α}(h:m J=some (.ok x,J1)):(M.still m) J=some (.ok x,J1):=by unfold M.still;rw [h]
theorem Aa(h:Y i=some v):EvE lv Y (.var i) J (.ok v) J:=Bl 1 λm=>by show M.ofOpt (Y i) J=_;rw [h];rfl
theorem Af:EvE lv Y (.lit v) J (.ok v) J:=Bl 1 λ_=>rfl
theorem Ba{op:Bin}{q:Except Str AV}(h1:EvE lv Y a J (.ok x) J1)(h2:EvE lv Y b J1 (.ok y) J2)(h:Iq op x y J2=some (q,σ₃)):EvE lv Y (.bin op a b) J q σ₃:=
 Aw h1 h2 λm e1 e2=>(bO (m:=evA Ai m lv Y a) e1).trans ((bO (m:=evA Ai m lv Y b) e2).trans h)
theorem Ay{op:Cmp}{q:Except Str AV}(h1:EvE lv Y a J (.ok x) J1)(h2:EvE lv Y b J1 (.ok y) J2)(h:Ts op x y J2=some (q,σ₃)):EvE lv Y (.cmp op a b) J q σ₃:=
 Aw h1 h2 λm e1 e2=>(bO (m:=evA Ai m lv Y a) e1).trans ((bO (m:=evA Ai m lv Y b) e2).trans h)
theorem Bp{q:Except Str AV}(h1:EvE lv Y a J (.ok x) J1)(h2:EvE lv Y b J1 (.ok y) J2)(h:Lz x y J2=some (q,σ₃)):EvE lv Y (.idx a b) J q σ₃:=
 Aw h1 h2 λm e1 e2=>(bO (m:=evA Ai m lv Y a) e1).trans ((bO (m:=evA Ai m lv Y b) e2).trans h)
theorem Lu{t:Bool}(h1:EvE lv Y a J (.ok x) J1)(h:Ac x J1=some (.ok t,J1)):EvE lv Y (.not a) J (.ok (.bool (!t))) J1:=
 Az h1 λm e1=>(bO (m:=evA Ai m lv Y a) e1).trans (bO h)
theorem Fv:EvL lv Y [] J (.ok []) J:=Bl 1 λ_=>rfl
theorem Yz{es:List IE}{vs:List AV}(h1:EvE lv Y a J (.ok x) J1)(h2:EvL lv Y es J1 (.ok vs) J2):EvL lv Y (a::es) J (.ok (x::vs)) J2:=
 Aw h1 h2 λm e1 e2=>(bO (m:=evA Ai m lv Y a) e1).trans (bO (m:=evsA Ai m lv Y es) e2)
theorem l1(h1:EvE lv Y a J (.ok x) J1):EvL lv Y [a] J (.ok [x]) J1:=Yz h1 Fv
theorem l2(h1:EvE lv Y a J (.ok x) J1)(h2:EvE lv Y b J1 (.ok y) J2):EvL lv Y [a,b] J (.ok [x,y]) J2:=Yz h1 (l1 h2)
theorem Bx{bi:BI}{es:List IE}{vs:List AV}{q:Except Str AV}(h1:EvL lv Y es J (.ok vs) J1)(h:Aby bi vs J1=some (q,J2)):EvE lv Y (.blt bi es) J q J2:=
 Az h1 λm e1=>(bO (m:=evsA Ai m lv Y es) e1).trans h
theorem Ao{f:Addr}{es:List IE}{vs:List AV}{q:Except Str AV}(h1:EvL lv Y es J (.ok vs) J1)(h2:EvC lv f vs J1 q J2):EvE lv Y (.call (.lit (.con (.ref f))) es) J q J2:=
 Az (Eh (Bl (A:=λn=>evA Ai n lv Y (.lit (.con (.ref f))) J=some (.ok (.con (.ref f)),J)) 1 λ_=>rfl) (Eh h1 h2)) λm x=>(bO (m:=evA Ai m lv Y _) x.1).trans ((bO (m:=evsA Ai m lv Y es) x.2.1).trans x.2.2)
theorem Av{o:IE}{me:ME}{es:List IE}{vs:List AV}{q:Except Str AV}(h1:EvE lv Y o J (.ok x) J1)(hk:kindA x me J1=some (.ok (),J1))(h2:EvL lv Y es J1 (.ok vs) J2)(h:methA x me vs J2=some (q,σ₃)):EvE lv Y (.meth o me es) J q σ₃:=
 Aw h1 h2 λm e1 e2=>(bO (m:=evA Ai m lv Y o) e1).trans ((bO hk).trans ((bO (mS (m:=evsA Ai m lv Y es) e2)).trans h))
theorem Hm(h1:EvE lv Y a J (.ok x) J1)(h:Ac x J1=some (.ok false,J1)):EvE lv Y (.and [a,b]) J (.ok x) J1:=
 Az (Az (B:=λn=>Mt Ai n lv Y [a,b] J=some (.ok x,J1)) h1 λm e1=>(bO (m:=evA Ai m lv Y a) e1).trans (bO h)) λm e=>e
theorem Dw{q:Except Str AV}(h1:EvE lv Y a J (.ok x) J1)(h:Ac x J1=some (.ok true,J1))(h2:EvE lv Y b J1 q J2):EvE lv Y (.and [a,b]) J q J2:=
 Az (Aw (B:=λn=>Mt Ai n lv Y [a,b] J=some (q,J2)) h1 (Az (B:=λn=>Mt Ai n lv Y [b] J1=some (q,J2)) h2 λm e=>e) λm e1 e2=>(bO (m:=evA Ai m lv Y a) e1).trans ((bO h).trans e2)) λm e=>e
theorem Ah:EvB lv Y [] J (.ok .nxt,Y,J):=Bl 1 λ_=>rfl
theorem Ad(h1:EvE lv Y e J (.ok v) J1)(k:EvB lv (put Y i v) rest J1 r):EvB lv Y (.ass (.var i) e::rest) J r:=
 Aw (Az (B:=λn=>exA Ai n lv Y (.ass (.var i) e) J=some (.ok .nxt,put Y i v,J1)) h1 λm e1=>oO (m:=evA Ai m lv Y e) e1) k λm e1 e2=>(tO (m:=exA Ai m lv Y _) e1).trans e2
theorem Lw{o j:IE}{iv:AV}(h1:EvE lv Y e J (.ok v) J1)(h2:EvE lv Y o J1 (.ok x) J1)(h3:EvE lv Y j J1 (.ok iv) J1)(h:Gb x iv v J1=some (.ok (),J2))(k:EvB lv Y rest J2 r):EvB lv Y (.ass (.idx o j) e::rest) J r:=
 Aw (Ss (B:=λn=>exA Ai n lv Y (.ass (.idx o j) e) J=some (.ok .nxt,Y,J2)) h1 h2 h3 λm e1 e2 e3=>(oO (m:=evA Ai m lv Y e) e1).trans ((oO (m:=evA Ai m lv Y o) e2).trans ((oO (m:=evA Ai m lv Y j) e3).trans (oO h)))) k λm e1 e2=>(tO (m:=exA Ai m lv Y _) e1).trans e2
theorem Bz(h1:EvE lv Y e J (.ok v) J1)(k:EvB lv Y rest J1 r):EvB lv Y (.expr e::rest) J r:=
 Aw (Az (B:=λn=>exA Ai n lv Y (.expr e) J=some (.ok .nxt,Y,J1)) h1 λm e1=>oO (m:=evA Ai m lv Y e) e1) k λm e1 e2=>(tO (m:=exA Ai m lv Y _) e1).trans e2
theorem Ck(h1:EvE lv Y e J (.ok v) J1):EvB lv Y (.ret e::rest) J (.ok (.ret v),Y,J1):=
 Az (Az (B:=λn=>exA Ai n lv Y (.ret e) J=some (.ok (.ret v),Y,J1)) h1 λm e1=>oO (m:=evA Ai m lv Y e) e1) λm e1=>tO (m:=exA Ai m lv Y _) e1
theorem Dc{s:IS}(h1:EvX lv Y s J (.ok .nxt,Y',J1))(k:EvB lv Y' rest J1 r):EvB lv Y (s::rest) J r:=
 Aw h1 k λm e1 e2=>(tO (m:=exA Ai m lv Y _) e1).trans e2
theorem Awe:EvB lv Y (.brk::rest) J (.ok .brk,Y,J):=Bl 2 λ_=>rfl
theorem Ahn:EvB lv Y (.cnt::rest) J (.ok .cnt,Y,J):=Bl 2 λ_=>rfl
theorem Vm{t:Bool}{p q:List IS}{r:XR}(h1:EvE lv Y c J (.ok x) J1)(h:Ac x J1=some (.ok t,J1))(k:EvB lv Y (if t then p else q) J1 r):EvX lv Y (.ite c p q) J r:=
 Aw h1 k λm e1 e2=>(oO (m:=evA Ai m lv Y c) e1).trans ((oO h).trans (by cases t <;> exact e2))
theorem Ar{t:Bool}{p q:List IS}(h1:EvE lv Y c J (.ok x) J1)(h:Ac x J1=some (.ok t,J1))(k:EvB lv Y (if t then p else q) J1 (.ok .nxt,Y',J2))(k2:EvB lv Y' rest J2 r):EvB lv Y (.ite c p q::rest) J r:=
 Aw (Vm h1 h k) k2 λm e1 e2=>(tO (m:=exA Ai m lv Y _) e1).trans e2
theorem Ez{t:Bool}{p q:List IS}{fl:Fl}(hf:∀ x:X,Akd Y' fl x=.ret fl Y')(h1:EvE lv Y c J (.ok x) J1)(h:Ac x J1=some (.ok t,J1))(k:EvB lv Y (if t then p else q) J1 (.ok fl,Y',J2)):EvB lv Y (.ite c p q::rest) J (.ok fl,Y',J2):=
 Az (Vm h1 h k) λm e1=>(tO (m:=exA Ai m lv Y _) e1).trans (congrFun (hf _) J2)
theorem Aat{b:List IS}(h1:EvW lv Y c b J (.ok .nxt,Y',J1))(k:EvB lv Y' rest J1 r):EvB lv Y (.whl c b::rest) J r:=
 Aw (Az (B:=λn=>exA Ai n lv Y (.whl c b) J=some (.ok .nxt,Y',J1)) h1 λm e1=>sO (m:=Tw Ai m lv Y c b) e1) k λm e1 e2=>(tO (m:=exA Ai m lv Y _) e1).trans e2
theorem Su{b:List IS}(h1:EvE lv Y c J (.ok x) J1)(h:Ac x J1=some (.ok false,J1)):EvW lv Y c b J (.ok .nxt,Y,J1):=
 Az h1 λm e1=>(oO (m:=evA Ai m lv Y c) e1).trans (oO h)
theorem Sv{b:List IS}{fl:Fl}(hf:∀ x:X,Zo Y' fl x=x)(h1:EvE lv Y c J (.ok x) J1)(h:Ac x J1=some (.ok true,J1))(k:EvB lv Y b J1 (.ok fl,Y',J2))(k2:EvW lv Y' c b J2 r):EvW lv Y c b J r:=
 Ss h1 k k2 λm e1 e2 e3=>(oO (m:=evA Ai m lv Y c) e1).trans ((oO h).trans ((tO (m:=Fg Ai m lv Y b) e2).trans ((congrFun (hf _) J2).trans e3)))
theorem Awf{b:List IS}(h1:EvE lv Y c J (.ok x) J1)(h:Ac x J1=some (.ok true,J1))(k:EvB lv Y b J1 (.ok .brk,Y',J2)):EvW lv Y c b J (.ok .nxt,Y',J2):=
 Aw h1 k λm e1 e2=>(oO (m:=evA Ai m lv Y c) e1).trans ((oO h).trans (tO (m:=Fg Ai m lv Y b) e2))
theorem Anc{f:Addr}{vs ws:List AV}{F:Fn}{fl:Fl}(hs:¬ f=233)(hf:Jb.lookup f=some F)(ha:Hf F vs J=some (.ok ws,J))(k:EvB lv (λi=>ws[i]?) F.body J (.ok fl,Y',J1))(hv:∀ m:X,m J=some (.ok fl,Y',J1)->m.val J=some (.ok v,J1)):EvC (lv+1) f vs J (.ok v) J1:=
 Az k λm e=>by
  show (if f=233 then _ else (M.ofOpt (Jb.lookup f)).bnd λF=>(Hf F vs).bnd λws=>(Fg Ai m lv (λi=>ws[i]?) F.body).val) J=_;rw [if_neg hs,hf];exact (bO ha).trans (hv _ e)
theorem Awg:∀ m:X,m J=some (.ok (.ret v),Y',J1)->m.val J=some (.ok v,J1):=λm h=>by unfold X.val;rw [h]
theorem Aho:∀ m:X,m J=some (.ok .nxt,Y',J1)->m.val J=some (.ok .none,J1):=λm h=>by unfold X.val;rw [h]
theorem Cs{f:Addr}{vs:List AV}(ws:List AV){F:Fn}(hs:¬ f=233)(hf:Jb.lookup f=some F)(ha:Hf F vs J=some (.ok ws,J))(k:∃ Y',EvB lv (λi=>ws[i]?) F.body J (.ok (.ret v),Y',J1)):EvC (lv+1) f vs J (.ok v) J1:=k.elim λY' k=>Anc (Y':=Y') hs hf ha k Awg
theorem Apv{f:Addr}{vs:List AV}(ws:List AV){F:Fn}(hs:¬ f=233)(hf:Jb.lookup f=some F)(ha:Hf F vs J=some (.ok ws,J))(k:∃ Y',EvB lv (λi=>ws[i]?) F.body J (.ok .nxt,Y',J1)):EvC (lv+1) f vs J (.ok .none) J1:=k.elim λY' k=>Anc (Y':=Y') hs hf ha k Aho
theorem tb{t:Bool}:Ac (.bool t) J=some (.ok t,J):=rfl
theorem Sx(h:j<xs.length):seqIndex? (j:Int) xs.length=some j:=by
 have h1:¬ (j:Int)<0:=by omega
 unfold seqIndex?;simp [h1,h]
theorem ix(hσ:J[k]?=some (.lst xs))(hj:j<xs.length)(hb:xs.length<=1000):Lz (.ref k) (.int j) J=some (.ok (gt xs j),J):=by
 unfold Lz;dsimp only;rw [if_pos (by omega)];show ((Bv (.ref k)).bnd (atA j)) J=_;have h1:Bv (.ref k) J=some (.ok xs,J):=by
  show ((M.get k).bnd _) J=_;rw [bO (x:=Al.lst xs) (J1:=J) (by unfold M.get;rw [hσ])];rfl
 rw [bO h1];unfold atA;rw [Sx hj];show M.ofOpt xs[j]? J=_;rw [Dn hj];rfl
theorem six(hσ:J[k]?=some (.lst xs))(hj:j<xs.length):Gb (.ref k) (.int j) v J=some (.ok (),J.set k (.lst (xs.set j v))):=by
 show ((M.get k).bnd _) J=_;rw [bO (x:=Al.lst xs) (J1:=J) (by unfold M.get;rw [hσ])];show (if 0<=(j:Int)/\(j:Int)<xs.length then M.set k (.lst (xs.set (j:Int).toNat v)) else M.fail) J=_;rw [if_pos (by omega)];rfl
theorem Ax{o o':Al}(hσ:J[k]?=some o):(J.set k o')[k]?=some o':=dQ (aN.mp hσ).1
theorem Fw{o:Al}(hσ:J[k]?=some o):J.set k o=J:=by
 obtain ⟨h,e⟩:=aN.mp hσ;rw [<- e,List.set_getElem_self]
theorem tru{t:Bool}(h:t=true):Ac (.bool t) J=some (.ok true,J):=by rw [h];rfl
theorem fal{t:Bool}(h:t=false):Ac (.bool t) J=some (.ok false,J):=by rw [h];rfl
theorem Ahp(h:0<p):(((p:Int) - 1) / 2)=(((p - 1) / 2:Nat):Int):=aJ (λx:Int=>x / 2) (Int.ofNat_sub h).symm
theorem Ka{f:Option Bool}{t:Bool}(h:f=some t):((M.ofOpt f).bnd λr=>M.ret (AV.bool r)) J=some (.ok (AV.bool t),J):=by rw [h];rfl
theorem Pg{Q:AV->Prop}(hq:∀ a∈xs,Q a)(h:j<xs.length):Q (gt xs j):=hq _ (aO (Dn h))
theorem Ly{Q:AV->Prop}(hq:∀ a∈xs,Q a)(h:Q v):∀ a∈xs.set j v,Q a:=λa ha=>(List.mem_or_eq_of_mem_set ha).elim (hq a) λe=>e▸h
theorem Awh(h2:Y 2=some (.int (p:Int)))(h:0<p):EvE lv Y (.bin .shr (.bin .sub (.var 2) (.lit (.int 1))) (.lit (.int 1))) J (.ok (.int (((p - 1) / 2:Nat):Int))) J:=by
 refine Ba (Ba (Aa h2) Af rfl) Af ?_;show (M.grd (decide ((1:Int)=1/\0<=(p:Int) - 1)) (M.ret (AV.int (((p:Int) - 1) / 2)))) J=_;rw [aC (by omega),Ahp h];rfl
theorem Asn{Q:AV->Prop}{K:AV->Nat}{a b:IE}{B:List IS}(hB:B=[.ass (.var 4) (.bin .shr (.bin .sub (.var 2) (.lit (.int 1))) (.lit (.int 1))),.ass (.var 5) (.idx (.var 0) (.var 4)),.ite (.cmp .lt a b) [.ass (.idx (.var 0) (.var 2)) (.var 5),.ass (.var 2) (.var 4),.cnt] [],.brk])
 (hc:∀ {Y:Ae} {J:Sto} {x y:AV},Q x->Q y->Y 3=some x->Y 5=some y->EvE lv Y (.cmp .lt a b) J (.ok (.bool (decide (K x<K y)))) J) :
 ∀ (f:Nat) {xs:List AV} {p:Nat} {Y:Ae} {J:Sto},p<=f->p<xs.length->xs.length<=1000->(∀ a∈xs,Q a)->Q x->J[k]?=some (.lst xs)->Y 0=some (.ref k)->Y 1=some (.int (s:Int))->Y 2=some (.int (p:Int))->Y 3=some x->
  ∃ Y' p' ys,EvW lv Y (.cmp .gt (.var 2) (.var 1)) B J (.ok .nxt,Y',J.set k (.lst ys))/\Y' 0=some (.ref k)/\Y' 2=some (.int (p':Nat))/\Y' 3=some x/\p'<xs.length/\ys.length=xs.length/\ys.set p' x=sdF K s f xs p x:=by
 intro f
 induction f with
 | zero=>
  intro xs p Y J hf hp hb hq hx hσ h0 h1 h2 h3;refine⟨Y,p,xs,?_,h0,h2,h3,hp,rfl,rfl⟩;rw [Fw hσ];exact Su (Ay (Aa h2) (Aa h1) rfl) (fal (aP (by omega)))
 | succ f ih=>
  intro xs p Y J hf hp hb hq hx hσ h0 h1 h2 h3;unfold sdF;dsimp only;by_cases h:s<p
  . rw [if_pos h];have hlt:=(Pa.half (j:=p) (by exact ltc (fk [s,p] [(1,(.a (.v 0) (.n 1)),(.v 1)),(1,(.v 1),(.n 0))] rfl h))).lt;have hpar:=Awh (lv:=lv) (J:=J) h2 (aV (bV s) h);generalize (p - 1) / 2=q at hlt hpar ⊢;have hql:q<xs.length:=aT hlt hp;have hc1:EvE lv Y (.cmp .gt (.var 2) (.var 1)) J (.ok (.bool (decide ((s:Int)<p)))) J:=Ay (Aa h2) (Aa h1) rfl;have ht:Ac (.bool (decide ((s:Int)<p))) J=some (.ok true,J):=tru (aC (by omega));have hi:EvE lv (put Y 4 (.int (q:Int))) (.idx (.var 0) (.var 4)) J (.ok (gt xs q)) J:=Bp (Aa h0) (Aa rfl) (ix hσ hql hb);have hcm:=hc (Y:=put (put Y 4 (.int (q:Int))) 5 (gt xs q)) (J:=J) hx (Pg hq hql) h3 rfl;by_cases h2':K x<K (gt xs q)
    . rw [if_pos h2'];have:=ih (xs:=xs.set p (gt xs q)) (p:=q) (Y:=put (put (put Y 4 (.int (q:Int))) 5 (gt xs q)) 2 (.int (q:Int))) (J:=J.set k (.lst (xs.set p (gt xs q)))) (Nat.le_of_lt_succ (cF hlt hf)) (by rw [aR];exact hql) (by rw [aR];exact hb) (Ly hq (Pg hq hql)) hx (Ax hσ) h0 h1 rfl h3;rw [aR] at this;refine e34 this λY' p' ys w g0 g2 g=>⟨Y',p',ys,?_,g0,g2,g⟩;rw [cV] at w;refine Sv (fl:=.cnt) (λ_=>rfl) hc1 ht ?_ w;rw [hB];refine Ad hpar (Ad hi (Ez (t:=true) (fl:=.cnt) (λ_=>rfl) hcm (tru (aC h2')) ?_));exact Lw (Aa rfl) (Aa h0) (Aa h2) (six hσ hp) (Ad (Aa rfl) Ahn)
    . rw [if_neg h2'];refine⟨put (put Y 4 (.int (q:Int))) 5 (gt xs q),p,xs,?_,h0,h2,h3,hp,rfl,rfl⟩;rw [Fw hσ];refine Awf hc1 ht ?_;rw [hB];exact Ad hpar (Ad hi (Ar (t:=false) hcm (fal (aP h2')) Ah Awe))
  . rw [if_neg h];refine⟨Y,p,xs,?_,h0,h2,h3,hp,rfl,rfl⟩;rw [Fw hσ];exact Su (Ay (Aa h2) (Aa h1) rfl) (fal (aP (by omega)))
theorem Aau{Q:AV->Prop}{K:AV->Nat}{f:Addr}{a b:IE}{B:List IS}{L:List IS}(hf0:¬ f=233)(hf:Jb.lookup f=some ⟨3,false,[],L⟩)(hL:L=[.ass (.var 3) (.idx (.var 0) (.var 2)),.whl (.cmp .gt (.var 2) (.var 1)) B,.ass (.idx (.var 0) (.var 2)) (.var 3)])
 (hB:B=[.ass (.var 4) (.bin .shr (.bin .sub (.var 2) (.lit (.int 1))) (.lit (.int 1))),.ass (.var 5) (.idx (.var 0) (.var 4)),.ite (.cmp .lt a b) [.ass (.idx (.var 0) (.var 2)) (.var 5),.ass (.var 2) (.var 4),.cnt] [],.brk])
 (hc:∀ {lv:Nat} {Y:Ae} {J:Sto} {x y:AV},Q x->Q y->Y 3=some x->Y 5=some y->EvE lv Y (.cmp .lt a b) J (.ok (.bool (decide (K x<K y)))) J)
 (hp:p<xs.length) (hb:xs.length<=1000) (hq:∀ a∈xs,Q a) (hσ:J[k]?=some (.lst xs)) (n:Nat) (hn:p<=n):EvC (lv+1) f [.ref k,.int (s:Int),.int (p:Int)] J (.ok .none) (J.set k (.lst (sdF K s n xs p (gt xs p)))):=by
 have:=Asn (lv:=lv) (k:=k) (s:=s) (Q:=Q) (K:=K) hB hc n (xs:=xs) (p:=p) (x:=gt xs p) (Y:=put (λi=>[AV.ref k,AV.int (s:Int),AV.int (p:Int)][i]?) 3 (gt xs p)) (J:=J) hn hp hb hq (Pg hq hp) hσ rfl rfl rfl rfl;refine e34 this λY' p' ys w g0 g2 g=>?_;refine Anc (Y':=Y') (fl:=.nxt) (ws:=[.ref k,.int (s:Int),.int (p:Int)]) hf0 hf rfl ?_ Aho;show EvB lv _ L J _;rw [hL];refine Ad (Bp (Aa rfl) (Aa rfl) (ix hσ hp hb)) (Aat w ?_);have h:=six (v:=gt xs p) (Ax (o':=.lst ys) hσ) (show p'<ys.length by rw [g.2.2.1];exact g.2.1);rw [cV,g.2.2.2] at h;exact Lw (Aa g.1) (Aa g0) (Aa g2) h Ah
theorem Ahq{Q:AV->Prop}{K:AV->Nat}(hk:∀ a b,Q a->Q b->ltA dp a b=some (decide (K a<K b)))(hp:p<xs.length)(hb:xs.length<=1000)(hq:∀ a∈xs,Q a)(hσ:J[k]?=some (.lst xs))(n:Nat)(hn:p<=n) :
 EvC (lv+1) 63 [.ref k,.int (s:Int),.int (p:Int)] J (.ok .none) (J.set k (.lst (sdF K s n xs p (gt xs p)))):=
 Aau (by decide) rfl rfl rfl (λhx hy h3 h5=>Ay (Aa h3) (Aa h5) (Ka (hk _ _ hx hy))) hp hb hq hσ n hn
theorem Aso{Q:AV->Prop}{K:AV->Nat}(hk:∀ a b,Q a->Q b->ltA dp b a=some (decide (K a<K b)))(hp:p<xs.length)(hb:xs.length<=1000)(hq:∀ a∈xs,Q a)(hσ:J[k]?=some (.lst xs))(n:Nat)(hn:p<=n) :
 EvC (lv+1) 77 [.ref k,.int (s:Int),.int (p:Int)] J (.ok .none) (J.set k (.lst (sdF K s n xs p (gt xs p)))):=
 Aau (by decide) rfl rfl rfl (λhx hy h3 h5=>Ay (Aa h5) (Aa h3) (Ka (hk _ _ hx hy))) hp hb hq hσ n hn
theorem Apw{i:Nat}(h1:Y i=some (.int (p:Int)))(hp:p<=1000):EvE lv Y (.bin .add (.bin .mul (.lit (.int 2)) (.var i)) (.lit (.int 1))) J (.ok (.int ((2*p+1:Nat):Int))) J:=by
 refine Ba (Ba Af (Aa h1) (x:=.int 2) (y:=.int p) (q:=.ok (.int (2*p))) ?_) Af rfl;unfold Iq Aeh;dsimp only;rw [aC (by omega)];rfl
theorem Ahr{a b:Int}(h:a<b):Ac (.bool (decide (a<b))) J=some (.ok true,J):=tru (aC h)
theorem Ahs{a b:Int}(h:¬ a<b):Ac (.bool (decide (a<b))) J=some (.ok false,J):=fal (aP h)
noncomputable def Sy(k:Nat)(Q:AV->Prop)(K:AV->Nat)(a b:IE):Prop:=∀ {lv:Nat} {Y:Ae} {J:Sto} {xs:List AV} {c:Nat},J[k]?=some (.lst xs)->(∀ a∈xs,Q a)->xs.length<=1000->c+1<xs.length->Y 0=some (.ref k)->Y 5=some (.int (c:Int))->Y 6=some (.int ((c:Int)+1))->
 EvE lv Y (.cmp .lt a b) J (.ok (.bool (decide (K (gt xs c)<K (gt xs (c+1)))))) J
theorem Asp{Q:AV->Prop}{K:AV->Nat}{a b:IE}{B:List IS}(hB:B=[.ass (.var 6) (.bin .add (.var 5) (.lit (.int 1))),.ite (.and [(.cmp .lt (.var 6) (.var 2)),(.not (.cmp .lt a b))]) [.ass (.var 5) (.var 6)] [],.ass (.idx (.var 0) (.var 1)) (.idx (.var 0) (.var 5)),.ass (.var 1) (.var 5),.ass (.var 5) (.bin .add (.bin .mul (.lit (.int 2)) (.var 1)) (.lit (.int 1)))])
 (hc:Sy k Q K a b) :
 ∀ (f:Nat) {xs:List AV} {p:Nat} {Y:Ae} {J:Sto},xs.length<=f+p->p<xs.length->xs.length<=1000->(∀ a∈xs,Q a)->J[k]?=some (.lst xs)->Y 0=some (.ref k)->Y 1=some (.int (p:Int))->Y 2=some (.int (xs.length:Int))->Y 3=some y->Y 4=some x->Y 5=some (.int ((2*p+1:Nat):Int))->
  ∃ Y',EvW lv Y (.cmp .lt (.var 5) (.var 2)) B J (.ok .nxt,Y',J.set k (.lst (suF K f xs p).1))/\Y' 0=some (.ref k)/\Y' 1=some (.int ((suF K f xs p).2:Nat))/\Y' 3=some y/\Y' 4=some x:=by
 intro f
 induction f with
 | zero=>intro xs p Y J hf hp;exact absurd hp (by exact (λ_=>fk [xs.length,p] [(1,(.v 0),(.a (.n 0) (.v 1))),(1,(.a (.v 1) (.n 1)),(.v 0))] rfl hf hp))
 | succ f ih=>
  intro xs p Y J hf hp hb hq hσ h0 h1 h2 h3 h4 h5;unfold suF;dsimp only;have hcond:EvE lv Y (.cmp .lt (.var 5) (.var 2)) J (.ok (.bool (decide (((2*p+1:Nat):Int)<(xs.length:Int))))) J:=Ay (Aa h5) (Aa h2) rfl;by_cases h:2*p+1<xs.length
  . rw [if_pos h];have hk:=Yn (k:=K) h;have pick:∃ ρ1,EvX lv (put Y 6 (.int (((2*p+1:Nat):Int)+1))) (.ite (.and [(.cmp .lt (.var 6) (.var 2)),(.not (.cmp .lt a b))]) [.ass (.var 5) (.var 6)] []) J (.ok .nxt,ρ1,J)/\ρ1 0=some (.ref k)/\ρ1 1=some (.int (p:Int))/\ρ1 2=some (.int (xs.length:Int))/\ρ1 3=some y/\ρ1 4=some x/\ρ1 5=some (.int (kid K xs p:Nat)):=by
     have c1:EvE lv (put Y 6 (.int (((2*p+1:Nat):Int)+1))) (.cmp .lt (.var 6) (.var 2)) J (.ok (.bool (decide ((((2*p+1:Nat):Int)+1)<(xs.length:Int))))) J:=Ay (Aa rfl) (Aa h2) rfl;unfold kid;by_cases z:2*p+2<xs.length
     . rw [if_pos z];have c2:=hc (lv:=lv) (Y:=put Y 6 (.int (((2*p+1:Nat):Int)+1))) (J:=J) (xs:=xs) (c:=2*p+1) hσ hq hb z h0 h5 rfl;by_cases w:K (gt xs (2*p+1))<K (gt xs (2*p+2))
       . rw [if_pos w];refine⟨put Y 6 (.int (((2*p+1:Nat):Int)+1)),Vm (t:=false) (Dw c1 (Ahr (by omega)) (Lu c2 tb)) ?_ Ah,h0,h1,h2,h3,h4,h5⟩;rw [aC w];rfl
       . rw [if_neg w];refine⟨put (put Y 6 (.int (((2*p+1:Nat):Int)+1))) 5 (.int (((2*p+1:Nat):Int)+1)),Vm (t:=true) (Dw c1 (Ahr (by omega)) (Lu c2 tb)) ?_ (Ad (Aa rfl) Ah),h0,h1,h2,h3,h4,rfl⟩;rw [aP w];rfl
     . rw [if_neg z];exact⟨put Y 6 (.int (((2*p+1:Nat):Int)+1)),Vm (t:=false) (Hm c1 (Ahs (by omega))) (Ahs (by omega)) Ah,h0,h1,h2,h3,h4,h5⟩
    generalize kid K xs p=q at hk pick ⊢;refine e03 hk λhpq hql hm=>?_;refine e16 pick λρ1 w1 g0 g1 g2 g3 g4=>?_;have:=ih (xs:=xs.set p (gt xs q)) (p:=q) (Y:=put (put ρ1 1 (.int (q:Int))) 5 (.int ((2*q+1:Nat):Int))) (J:=J.set k (.lst (xs.set p (gt xs q)))) (by rw [aR];have:=hpq.lt;exact lec (fk [xs.length,f,p,q] [(1,(.v 0),(.a (.a (.v 1) (.n 1)) (.v 2))),(1,(.a (.v 2) (.n 1)),(.v 3)),(1,(.a (.a (.v 1) (.v 3)) (.n 1)),(.v 0))] rfl hf this)) (by rw [aR];exact hql) (by rw [aR];exact hb) (Ly hq (Pg hq hql)) (Ax hσ) g0 rfl (by rw [aR];exact g2) g3 g4.1 rfl;refine e12 this λY' w gg=>⟨Y',?_,gg⟩;rw [cV] at w;refine Sv (fl:=.nxt) (λ_=>rfl) hcond (Ahr (by omega)) ?_ w;rw [hB];refine Ad (Ba (Aa h5) Af rfl) ?_;refine Dc w1 ?_;refine Lw (Bp (Aa g0) (Aa g4.2) (ix hσ hql hb)) (Aa g0) (Aa g1) (six hσ hp) (Ad (Aa g4.2) (Ad (Apw rfl (by exact lec (fk [xs.length,q] [(1,(.v 0),(.n 1000)),(1,(.a (.v 1) (.n 1)),(.v 0)),(1,(.a (.n 1000) (.n 1)),(.v 1))] rfl hb (And.left (And.right hk))))) Ah))
  . rw [if_neg h];refine⟨Y,?_,h0,h1,h3,h4⟩;rw [Fw hσ];exact Su hcond (Ahs (by omega))
theorem Asq:∀ (f:Nat) {xs:List AV} {p:Nat},p<xs.length->(suF K f xs p).1.length=xs.length/\(suF K f xs p).2<xs.length/\((∀ a∈xs,Q a)->∀ a∈(suF K f xs p).1,Q a):=by
 intro f
 induction f with
 | zero=>exact λh=>⟨rfl,h,id⟩
 | succ f ih=>
  intro xs p hp;unfold suF;dsimp only;by_cases h:2*p+1<xs.length
  . rw [if_pos h];have hk:=(Yn (k:=K) h).2.1;have:=ih (xs:=xs.set p (gt xs (kid K xs p))) (p:=kid K xs p) (by rw [aR];exact hk);rw [aR] at this;exact⟨this.1,this.2.1,λhq=>this.2.2 (Ly hq (Pg hq hk))⟩
  . rw [if_neg h];exact⟨rfl,hp,id⟩
theorem Cg(hσ:J[k]?=some (.lst xs)):Bv (.ref k) J=some (.ok xs,J):=by
 show ((M.get k).bnd _) J=_;rw [bO (x:=Al.lst xs) (J1:=J) (by unfold M.get;rw [hσ])];rfl
theorem Aht(h:Y i=some (.ref k))(hσ:J[k]?=some (.lst xs)):EvE lv Y (.blt .len [.var i]) J (.ok (.int (xs.length:Int))) J:=
 Bx (l1 (Aa h)) (bO (Cg hσ))
theorem l3{a b c:IE}{z:AV}{σ₃:Sto}(h1:EvE lv Y a J (.ok x) J1)(h2:EvE lv Y b J1 (.ok y) J2)(h3:EvE lv Y c J2 (.ok z) σ₃):EvL lv Y [a,b,c] J (.ok [x,y,z]) σ₃:=Yz h1 (l2 h2 h3)
theorem Aav{a b:IE}{B L:List IS}{f fd:Addr}(hf0:¬ f=233)(hf:Jb.lookup f=some ⟨2,false,[],L⟩)
 (hL:L=[.ass (.var 2) (.blt .len [(.var 0)]),.ass (.var 3) (.var 1),.ass (.var 4) (.idx (.var 0) (.var 1)),.ass (.var 5) (.bin .add (.bin .mul (.lit (.int 2)) (.var 1)) (.lit (.int 1))),.whl (.cmp .lt (.var 5) (.var 2)) B,.ass (.idx (.var 0) (.var 1)) (.var 4),.expr (.call (.lit (.con (.ref fd))) [(.var 0),(.var 3),(.var 1)])])
 (hB:B=[.ass (.var 6) (.bin .add (.var 5) (.lit (.int 1))),.ite (.and [(.cmp .lt (.var 6) (.var 2)),(.not (.cmp .lt a b))]) [.ass (.var 5) (.var 6)] [],.ass (.idx (.var 0) (.var 1)) (.idx (.var 0) (.var 5)),.ass (.var 1) (.var 5),.ass (.var 5) (.bin .add (.bin .mul (.lit (.int 2)) (.var 1)) (.lit (.int 1)))])
 (hc:Sy k Q K a b) (hd:∀ {xs:List AV} {s p:Nat} {J:Sto},p<xs.length->xs.length<=1000->(∀ a∈xs,Q a)->J[k]?=some (.lst xs)->∀ n,p<=n->EvC (lv+1) fd [.ref k,.int (s:Int),.int (p:Int)] J (.ok .none) (J.set k (.lst (sdF K s n xs p (gt xs p)))))
 (hp:p<xs.length) (hb:xs.length<=1000) (hq:∀ a∈xs,Q a) (hσ:J[k]?=some (.lst xs)):EvC (lv+2) f [.ref k,.int (p:Int)] J (.ok .none) (J.set k (.lst (upF K xs p))):=by
 have:=Asp (lv:=lv+1) (y:=.int (p:Int)) (x:=gt xs p) hB hc xs.length (xs:=xs) (p:=p) (Y:=put (put (put (put (λi=>[AV.ref k,AV.int (p:Int)][i]?) 2 (.int (xs.length:Int))) 3 (.int (p:Int))) 4 (gt xs p)) 5 (.int ((2*p+1:Nat):Int))) (J:=J) (cB _ _) hp hb hq hσ rfl rfl rfl rfl rfl rfl;refine e14 this λY' w g0 g1 g=>?_;have hl:=Asq (K:=K) (Q:=Q) xs.length hp;unfold upF;generalize suF K xs.length xs p=r at w g1 hl ⊢;refine Anc (Y':=Y') (fl:=.nxt) (ws:=[.ref k,.int (p:Int)]) hf0 hf rfl ?_ Aho;show EvB (lv+1) _ L J _;rw [hL];refine Ad (Aht rfl hσ) (Ad (Aa rfl) (Ad (Bp (Aa rfl) (Aa rfl) (ix hσ hp hb)) (Ad (Apw rfl (cT (cF hp hb))) (Aat w ?_))));have h2:r.2<r.1.length:=by rw [hl.1];exact hl.2.1
 have h6:=six (v:=gt xs p) (Ax (o':=.lst r.1) hσ) h2;rw [cV] at h6;refine Lw (Aa g.2) (Aa g0) (Aa g1) h6 ?_;have hz:=hd (xs:=r.1.set r.2 (gt xs p)) (s:=p) (p:=r.2) (J:=J.set k (.lst (r.1.set r.2 (gt xs p)))) (by rw [aR];exact h2) (by rw [aR,hl.1];exact hb) ?_ (Ax hσ) xs.length (cT hl.2.1)
 . rw [Eg h2,cV] at hz;exact Bz (Ao (l3 (Aa g0) (Aa g.1) (Aa g1)) hz) Ah
 . exact Ly (hl.2.2 hq) (Pg hq hp)
noncomputable def Lts(Q:AV->Prop)(K:AV->Nat):Prop:=∀ a b,Q a->Q b->ltA dp a b=some (decide (K a<K b))
noncomputable def Gts(Q:AV->Prop)(K:AV->Nat):Prop:=∀ a b,Q a->Q b->ltA dp b a=some (decide (K a<K b))
theorem Ane(h:Lts Q K):Sy k Q K (.idx (.var 0) (.var 5)) (.idx (.var 0) (.var 6)):=λ{lv Y J xs c} hσ hq hb hc h0 h5 h6=>
 Ay (Bp (Aa h0) (Aa h5) (ix hσ (Nat.lt_of_succ_lt hc) hb)) (Bp (Aa h0) (Aa h6) (ix (j:=c+1) hσ hc hb)) (Ka (h _ _ (Pg hq (Nat.lt_of_succ_lt hc)) (Pg hq hc)))
theorem Anf(h:Gts Q K):Sy k Q K (.idx (.var 0) (.var 6)) (.idx (.var 0) (.var 5)):=λ{lv Y J xs c} hσ hq hb hc h0 h5 h6=>
 Ay (Bp (Aa h0) (Aa h6) (ix (j:=c+1) hσ hc hb)) (Bp (Aa h0) (Aa h5) (ix hσ (Nat.lt_of_succ_lt hc) hb)) (Ka (h _ _ (Pg hq (Nat.lt_of_succ_lt hc)) (Pg hq hc)))
theorem Ahu(h:Lts Q K)(hp:p<xs.length)(hb:xs.length<=1000)(hq:∀ a∈xs,Q a)(hσ:J[k]?=some (.lst xs)):EvC (lv+2) 70 [.ref k,.int (p:Int)] J (.ok .none) (J.set k (.lst (upF K xs p))):=
 Aav (fd:=63) (by decide) rfl rfl rfl (Ane h) (λhp hb hq hσ n hn=>Ahq h hp hb hq hσ n hn) hp hb hq hσ
theorem Ahv(h:Gts Q K)(hp:p<xs.length)(hb:xs.length<=1000)(hq:∀ a∈xs,Q a)(hσ:J[k]?=some (.lst xs)):EvC (lv+2) 84 [.ref k,.int (p:Int)] J (.ok .none) (J.set k (.lst (upF K xs p))):=
 Aav (fd:=77) (by decide) rfl rfl rfl (Anf h) (λhp hb hq hσ n hn=>Aso h hp hb hq hσ n hn) hp hb hq hσ
theorem Ahw(h:Hp K 0 xs):Hp K 1 (xs.set 0 x):=λi j hij hj hs=>by
 rw [aR] at hj;rw [Ee (show j≠0 from bT (aV (bV i) hij.lt)),Ee (bT hs)];exact h i j hij hj (bV i)
theorem Vn{f fu:Addr}{L:List IS}(hf0:¬ f=233)(hf:Jb.lookup f=some ⟨2,false,[],L⟩)(hL:L=[.ass (.var 2) (.idx (.var 0) (.lit (.int 0))),.ass (.idx (.var 0) (.lit (.int 0))) (.var 1),.expr (.call (.lit (.con (.ref fu))) [(.var 0),(.lit (.int 0))]),.ret (.var 2)])
 (hu:∀ {xs:List AV} {p:Nat} {J:Sto},p<xs.length->xs.length<=1000->(∀ a∈xs,Q a)->J[k]?=some (.lst xs)->EvC (lv+2) fu [.ref k,.int (p:Int)] J (.ok .none) (J.set k (.lst (upF K xs p))))
 (hp:0<xs.length) (hb:xs.length<=1000) (hq:∀ a∈xs,Q a) (hx:Q x) (hh:Hp K 0 xs) (hσ:J[k]?=some (.lst xs)) :
 ∃ ys,EvC (lv+3) f [.ref k,x] J (.ok (gt xs 0)) (J.set k (.lst ys))/\Hp K 0 ys/\ys.Perm (xs.set 0 x):=by
 have h1:0<(xs.set 0 x).length:=by rw [aR];exact hp
 have h2:=hu (xs:=xs.set 0 x) (p:=0) (J:=J.set k (.lst (xs.set 0 x))) h1 (by rw [aR];exact hb) (Ly hq hx) (Ax hσ);rw [cV] at h2;refine⟨_,Cs [.ref k,x] hf0 hf rfl ?_,Ahi h1 (Ahw hh)⟩;show ∃ Y',EvB (lv+2) _ L J _;rw [hL];exact⟨_,Ad (Bp (Aa rfl) Af (ix (j:=0) hσ hp hb)) (Lw (Aa rfl) (Aa rfl) Af (six (j:=0) hσ hp) (Bz (Ao (l2 (Aa rfl) Af) h2) (Ck (Aa rfl))))⟩
theorem Aaw(h:Lts Q K)(hp:0<xs.length)(hb:xs.length<=1000)(hq:∀ a∈xs,Q a)(hx:Q x)(hh:Hp K 0 xs)(hσ:J[k]?=some (.lst xs)) :
 ∃ ys,EvC (lv+3) 42 [.ref k,x] J (.ok (gt xs 0)) (J.set k (.lst ys))/\Hp K 0 ys/\ys.Perm (xs.set 0 x):=Vn (by decide) rfl rfl (Ahu h) hp hb hq hx hh hσ
theorem Ang(h:Gts Q K)(hp:0<xs.length)(hb:xs.length<=1000)(hq:∀ a∈xs,Q a)(hx:Q x)(hh:Hp K 0 xs)(hσ:J[k]?=some (.lst xs)) :
 ∃ ys,EvC (lv+3) 49 [.ref k,x] J (.ok (gt xs 0)) (J.set k (.lst ys))/\Hp K 0 ys/\ys.Perm (xs.set 0 x):=Vn (by decide) rfl rfl (Ahv h) hp hb hq hx hh hσ
theorem Kb(hσ:J[k]?=some (.lst xs))(hb:xs.length<=1000):methA (.ref k) .append [x] J=some (.ok .none,J.set k (.lst (xs++[x]))):=by
 show ((Gd (.ref k)).bnd _) J=_;have h:Gd (.ref k) J=some (.ok (.lst k xs),J):=by
  show ((M.get k).bnd _) J=_;rw [bO (x:=Al.lst xs) (J1:=J) (by unfold M.get;rw [hσ])];rfl
 rw [bO h];show (M.grd (decide (xs.length+1<lim)) _) J=_;rw [aC (aV (cJ hb) (by unfold lim;decide))];rfl
theorem Fx{m:ME}(hσ:J[k]?=some (.lst xs))(hm:Aem m=true):kindA (.ref k) m J=some (.ok (),J):=by
 show ((Gd (.ref k)).bnd _) J=_;have h:Gd (.ref k) J=some (.ok (.lst k xs),J):=by
  show ((M.get k).bnd _) J=_;rw [bO (x:=Al.lst xs) (J1:=J) (by unfold M.get;rw [hσ])];rfl
 rw [bO h];show (M.grd (Aem m) (M.ret ())) J=_;rw [hm];rfl
theorem Apx(hσ:J[k]?=some (.lst (xs++[x]))):methA (.ref k) .pop [] J=some (.ok x,J.set k (.lst xs)):=by
 show ((Gd (.ref k)).bnd _) J=_;have h:Gd (.ref k) J=some (.ok (.lst k (xs++[x])),J):=by
  show ((M.get k).bnd _) J=_;rw [bO (x:=Al.lst (xs++[x])) (J1:=J) (by unfold M.get;rw [hσ])];rfl
 rw [bO h];show (match (xs++[x]).getLast? with | some v=>(M.set k (.lst (xs++[x]).dropLast)).bnd λ_=>M.ret v | Option.none=>M.fail) J=_;rw [List.getLast?_append,List.dropLast_concat];rfl
theorem Asr(h:Hp K 0 xs):Ha K 0 (xs++[x]) xs.length:=λi j hij hj hs n1 n2=>by
 rw [aL] at hj;have h1:j<xs.length:=bK (Nat.le_of_lt_succ hj) n1;have e:∀ {j},j<xs.length->gt (xs++[x]) j=gt xs j:=λ{j} h=>by unfold gt;rw [aY,bD h,<- aY]
 rw [e h1,e (aT hij.lt h1)];exact h i j hij h1 hs
theorem Azf:∀ p:Nat,Dsc 0 p:=λp=>by
 induction p using Nat.strongRecOn with
 | _ p ih=>
  by_cases h:p=0
  . rw [h];exact .nil
  . have:=Pa.half (Nat.pos_of_ne_zero h);exact .cons (ih _ this.lt) this
theorem z2{ys:List AV}{n:Nat}(h:ys.length=n+1):Iq .sub (.int (ys.length:Int)) (.int 1) J=some (.ok (.int (n:Int)),J):=by
 show some (Except.ok (AV.int ((ys.length:Int) - 1)),J)=_;rw [h,show ((n+1:Nat):Int) - 1=n by omega]
theorem Ass(hp:p<xs.length):xs.set p (gt xs p)=xs:=by
 have:=Dn hp;rw [bB hp] at this;rw [<- bG this,List.set_getElem_self]
theorem Ahx(h:Lts Q K)(hb:xs.length<1000)(hq:∀ a∈xs,Q a)(hx:Q x)(hh:Hp K 0 xs)(hσ:J[k]?=some (.lst xs)) :
 ∃ ys,EvC (lv+2) 28 [.ref k,x] J (.ok .none) (J.set k (.lst ys))/\Hp K 0 ys/\ys.Perm (xs++[x]):=by
 have hl:(xs++[x]).length=xs.length+1:=by rw [aL];rfl
 have hp:xs.length<(xs++[x]).length:=by rw [hl];exact cN _
 have hg:gt (xs++[x]) xs.length=x:=by unfold gt;rw [aY,cK (aU _),Nat.sub_self];rfl
 have no:∀ {j},Pa xs.length j->¬ j<(xs++[x]).length:=λ{j} h q=>by rw [hl] at q;exact absurd h.lt (bQ.mpr (Nat.le_of_lt_succ q))
 have h2:=Ahq (lv:=lv) (s:=0) (p:=xs.length) h hp (by rw [hl];exact hb) (λa ha=>(aZ.mp ha).elim (hq a) λe=>by rw [aQ.mp e];exact hx) (Ax (o':=.lst (xs++[x])) hσ) xs.length (aU _);rw [cV,hg] at h2;have h3:=Apt (k:=K) (s:=0) xs.length (xs:=xs++[x]) (p:=xs.length) (x:=x) (aU _) hp (Azf _) (Asr hh) (λi j _ _ hj hl=>absurd hl (no hj)) λj hj hl=>absurd hl (no hj);refine⟨_,Apv [.ref k,x] (by decide) rfl rfl ?_,h3.1,h3.2.trans ?_⟩
 . refine⟨_,Bz (Av (Aa rfl) (Fx hσ rfl) (l1 (Aa rfl)) (Kb hσ (cT hb))) (Bz (Ao (l3 (Aa rfl) Af (Ba (Aht rfl (Ax hσ)) Af (z2 hl))) h2) Ah)⟩
 . have:=Ass hp;rw [hg] at this;rw [this]
theorem Kc(hσ:J[k]?=some (.lst xs)):Ac (.ref k) J=some (.ok (decide (xs.length≠0)),J):=by
 show ((M.get k).bnd _) J=_;rw [bO (x:=Al.lst xs) (J1:=J) (by unfold M.get;rw [hσ])];rfl
theorem Za(h:j<xs.length):gt (xs++ys) j=gt xs j:=by unfold gt;rw [aY,bD h,<- aY]
theorem Ia{zs:List AV}:∀ {xs:List AV},0<xs.length->zs.Perm (xs.set 0 x)->(gt xs 0::zs).Perm (xs++[x]):=by
 intro xs
 cases xs with
 | nil=>exact λh=>absurd h (cZ 0)
 | cons a r=>exact λ_ h=>(h.cons a).trans ((List.Perm.cons a (List.perm_append_comm (l₁:=[x]) (l₂:=r))))
theorem Aax(h:Lts Q K)(hn:ys≠[])(hb:ys.length<=1000)(hq:∀ a∈ys,Q a)(hh:Hp K 0 ys)(hσ:J[k]?=some (.lst ys)) :
 ∃ zs,EvC (lv+3) 35 [.ref k] J (.ok (gt ys 0)) (J.set k (.lst zs))/\Hp K 0 zs/\(gt ys 0::zs).Perm ys:=by
 obtain ⟨xs,x,rfl⟩:∃ xs x,ys=xs++[x]:=⟨_,_,(dK hn).symm⟩;have hl:(xs++[x]).length=xs.length+1:=by rw [aL];rfl
 have hx:Q x:=hq x (aI _ dB);have hq':∀ a∈xs,Q a:=λa ha=>hq a (aG _ ha);have hh':Hp K 0 xs:=λi j hij hj hs=>by
  have:=hh i j hij (by rw [hl];exact Nat.lt_succ_of_lt hj) hs
  rwa [Za hj,Za (aT hij.lt hj)] at this
 have e1:EvE (lv+2) (λi=>[AV.ref k][i]?) (.meth (.var 0) .pop []) J (.ok x) (J.set k (.lst xs)):=Av (Aa rfl) (Fx hσ rfl) Fv (Apx hσ);by_cases hp:0<xs.length
 . have hp':0<(xs.set 0 x).length:=by rw [aR];exact hp
   have hb':xs.length<=1000:=bA (Nat.le_succ _) (bA (aD hl.symm) hb);have h2:=Ahu (lv:=lv) (p:=0) (xs:=xs.set 0 x) (J:=J.set k (.lst (xs.set 0 x))) h hp' (by rw [aR];exact hb') (Ly hq' hx) (Ax hσ);rw [cV] at h2;have h3:=Ahi hp' (Ahw (x:=x) hh');have h6:=six (j:=0) (v:=x) (Ax (o':=.lst xs) hσ) hp;rw [cV] at h6;rw [Za hp];refine⟨_,Cs [.ref k] (by decide) rfl rfl ?_,h3.1,Ia hp h3.2⟩;exact⟨_,Ad e1 (Ez (t:=true) (fl:=.ret (gt xs 0)) (λ_=>rfl) (Aa rfl) (by rw [Kc (Ax hσ),aC (bT hp)]) (Ad (Bp (Aa rfl) Af (ix (j:=0) (Ax hσ) hp hb')) (Lw (Aa rfl) (Aa rfl) Af h6 (Bz (Ao (l2 (Aa rfl) Af) h2) (Ck (Aa rfl))))))⟩
 . obtain rfl:xs=[]:=bJ (Nat.eq_zero_of_not_pos hp);refine⟨[],Cs [.ref k] (by decide) rfl rfl ?_,hh',.refl _⟩;exact⟨_,Ad e1 (Ar (t:=false) (Aa rfl) (by rw [Kc (Ax hσ)];rfl) Ah (Ck (Aa rfl)))⟩
end
noncomputable def Ahy(lv:Nat)(Y:Ae)(elt:IE)(ts:List Nat)(ifs:List IE)(s:Src)(acc:List AV)(J:Sto)(q:List AV)(J':Sto):Prop:=Evt λn=>Zq Ai n lv Y elt ts ifs s acc J=some (.ok q,J')
noncomputable def EvI(lv:Nat)(Y:Ae)(es:List IE)(J:Sto)(q:Bool):Prop:=Evt λn=>Tv Ai n lv Y es J=some (.ok q,J)
noncomputable def EvS(lv:Nat)(Y:Ae)(it:II)(J:Sto)(s:Src)(J':Sto):Prop:=Evt λn=>itA Ai n lv Y it J=some (.ok s,J')
section
variable{lv i:Nat}{Y Y' Y1:Ae}{J J1 J2 σ₃:Sto}{x y v:AV}{r:XR}{rest:List IS}{a b c e:IE}{w:Str}
theorem Oo{k:Int}(h1:EvE lv Y a J (.ok (.int k)) J1):EvE lv Y (.neg a) J (.ok (.int (-k))) J1:=Az h1 λm e1=>bO (m:=evA Ai m lv Y a) e1
theorem Ep(h:Y i=some v):EvE lv Y (.cvar i) J (.ok v) J:=Bl 1 λm=>by show M.ofOpt (Y i) J=_;rw [h];rfl
theorem Ahz{k:Nat}{xs:List AV}(h:Y i=some (.ref k))(hσ:J[k]?=some (.lst xs)):EvE lv Y (.frz i) J (.ok (.lst xs)) (J.set k .dead):=Bl 1 λm=>by
 show ((M.ofOpt (Y i)).bnd Auv) J=_;rw [h];exact bO (Cg hσ)
theorem Fa{es:List IE}{vs:List AV}(h1:EvL lv Y es J (.ok vs) J1)(hl:vs.length<1000):EvE lv Y (.tup es) J (.ok (.tup vs)) J1:=
 Az h1 λm e1=>(bO (m:=evsA Ai m lv Y es) e1).trans (by show M.grd (decide (vs.length<lim)) _ _=_;rw [aC (aT hl (by unfold lim;decide))];rfl)
theorem Dx{es:List IE}{vs:List AV}(h1:EvL lv Y es J (.ok vs) J1)(hl:vs.length<1000):EvE lv Y (.lst false es) J (.ok (.lst vs)) J1:=
 Az h1 λm e1=>(bO (m:=evsA Ai m lv Y es) e1).trans (by show M.grd (decide (vs.length<lim)) _ _=_;rw [aC (aT hl (by unfold lim;decide))];rfl)
theorem Jc:EvE lv Y (.lst true []) J (.ok (.ref J.length)) (J++[.lst []]):=Bl 2 λm=>rfl
theorem Aia{t:Bool}{q:Except Str AV}(h1:EvE lv Y c J (.ok x) J1)(h:Ac x J1=some (.ok t,J1))(k:EvE lv Y (if t then a else b) J1 q J2):EvE lv Y (.ite c a b) J q J2:=
 Aw h1 k λm e1 e2=>(bO (m:=evA Ai m lv Y c) e1).trans ((bO h).trans (by cases t <;> exact e2))
theorem Gq(h1:EvE lv Y a J (.ok x) J1)(h:Ac x J1=some (.ok true,J1)){as:List IE}:EvE lv Y (.or (a::b::as)) J (.ok x) J1:=
 Az (Az (B:=λn=>orA Ai n lv Y (a::b::as) J=some (.ok x,J1)) h1 λm e1=>(bO (m:=evA Ai m lv Y a) e1).trans (bO h)) λm e=>e
theorem Er{q:Except Str AV}{as:List IE}(h1:EvE lv Y a J (.ok x) J1)(h:Ac x J1=some (.ok false,J1))(h2:EvE lv Y (.or (b::as)) J1 q J2):EvE lv Y (.or (a::b::as)) J q J2:=
 Az (Aw (B:=λn=>orA Ai n lv Y (a::b::as) J=some (q,J2)) h1 (h2.elim λN h=>⟨N,λn hn=>h (n+1) (Nat.le_succ_of_le hn)⟩:Evt λn=>orA Ai n lv Y (b::as) J1=some (q,J2)) λm e1 e2=>(bO (m:=evA Ai m lv Y a) e1).trans ((bO h).trans e2)) λm e=>e
theorem Ke{q:Except Str AV}(h1:EvE lv Y a J q J1):EvE lv Y (.or [a]) J q J1:=Az (Az (B:=λn=>orA Ai n lv Y [a] J=some (q,J1)) h1 λm e=>e) λm e=>e
noncomputable def EvO(lv:Nat)(Y:Ae)(o:Option IE)(J:Sto)(v:Option AV):Prop:=Evt λn=>Wd Ai n lv Y o J=some (.ok v,J)
theorem Bs:EvO lv Y none J none:=Bl 1 λ_=>rfl
theorem Cq(h:EvE lv Y a J (.ok x) J):EvO lv Y (some a) J (some x):=Az h λm e=>bO (m:=evA Ai m lv Y a) e
theorem Gv{lo hi st:Option IE}{l h s:Option AV}{q:Except Str AV}(h1:EvE lv Y a J (.ok x) J1)(hl:EvO lv Y lo J1 l)(hh:EvO lv Y hi J1 h)(hs:EvO lv Y st J1 s)(k:Abx x l h s J1=some (q,J2)):EvE lv Y (.slc a lo hi st) J q J2:=
 Aw (Eh h1 hl) (Eh hh hs) λm p1 p2=>(bO (m:=evA Ai m lv Y a) p1.1).trans ((bO (m:=Wd Ai m lv Y lo) p1.2).trans ((bO (m:=Wd Ai m lv Y hi) p2.1).trans ((bO (m:=Wd Ai m lv Y st) p2.2).trans k)))
theorem tX{m:X}{f:Fl->Ae->X}{x:Bool×Str}(h:m J=some (.error x,Y,J1)):(X.thn m f) J=some (.error x,Y,J1):=by unfold X.thn;rw [h]
theorem lx(h1:EvE lv Y a J (.error w) J1){es:List IE}:EvL lv Y (a::es) J (.error w) J1:=Az h1 λm e1=>bX (m:=evA Ai m lv Y a) e1
theorem lcx{es:List IE}(h1:EvE lv Y a J (.ok x) J1)(h2:EvL lv Y es J1 (.error w) J2):EvL lv Y (a::es) J (.error w) J2:=Aw h1 h2 λm e1 e2=>(bO (m:=evA Ai m lv Y a) e1).trans (bX (m:=evsA Ai m lv Y es) e2)
theorem Ml{f:Addr}{es:List IE}(h1:EvL lv Y es J (.error w) J1):EvE lv Y (.call (.lit (.con (.ref f))) es) J (.error w) J1:=
 Az (Eh (Bl (A:=λn=>evA Ai n lv Y (.lit (.con (.ref f))) J=some (.ok (.con (.ref f)),J)) 1 λ_=>rfl) h1) λm x=>(bO (m:=evA Ai m lv Y _) x.1).trans (bX (m:=evsA Ai m lv Y es) x.2)
theorem Sz(h1:EvE lv Y e J (.error w) J1){t:IT}:EvB lv Y (.ass t e::rest) J (.error (false,w),Y,J1):=
 Az (Az (B:=λn=>exA Ai n lv Y (.ass t e) J=some (.error (false,w),Y,J1)) h1 λm e1=>oX (m:=evA Ai m lv Y e) e1) λm e1=>tX (m:=exA Ai m lv Y _) e1
theorem Aay(h1:EvE lv Y e J (.ok (.str w)) J1):EvB lv Y (.raise e::rest) J (.error (true,w),Y,J1):=
 Az (Az (B:=λn=>exA Ai n lv Y (.raise e) J=some (.error (true,w),Y,J1)) h1 λm e1=>oO (m:=evA Ai m lv Y e) e1) λm e1=>tX (m:=exA Ai m lv Y _) e1
theorem Aib{f:Addr}{vs:List AV}(ws:List AV){F:Fn}{n:Bool}(hs:¬ f=233)(hf:Jb.lookup f=some F)(ha:Hf F vs J=some (.ok ws,J))(k:∃ Y',EvB lv (λi=>ws[i]?) F.body J (.error (n,w),Y',J1)):EvC (lv+1) f vs J (.error w) J1:=
 k.elim λY' k=>Az k λm e=>by
  show (if f=233 then _ else (M.ofOpt (Jb.lookup f)).bnd λF=>(Hf F vs).bnd λws=>(Fg Ai m lv (λi=>ws[i]?) F.body).val) J=_;rw [if_neg hs,hf];refine (bO ha).trans ?_;unfold X.val;rw [e]
theorem Awi{q:List IS}{n:Bool}(h1:EvE lv Y c J (.ok x) J1)(h:Ac x J1=some (.ok true,J1))(k:EvB lv Y q J1 (.error (n,w),Y',J2)):EvW lv Y c q J (.error (n,w),Y',J2):=
 Aw h1 k λm e1 e2=>(oO (m:=evA Ai m lv Y c) e1).trans ((oO h).trans (tX (m:=Fg Ai m lv Y q) e2))
theorem Ast{q:List IS}{j:Nat}(h:EvW lv Y c q J (.error (false,w),Y',J1))(k:EvB lv (λk=>if k=i then none else put Y' j (.str w) k) rest J1 r):EvB lv Y (.tryw c q i j::rest) J r:=
 Aw (Az (B:=λn=>exA Ai n lv Y (.tryw c q i j) J=some (.ok .nxt,(λk=>if k=i then none else put Y' j (.str w) k),J1)) h λm e=>by
  show (Tw Ai m lv Y c q J).bind (Zp i j)=_;rw [e];rfl) k λm e1 e2=>(tO (m:=exA Ai m lv Y _) e1).trans e2
theorem Aaz{is:List Nat}{vs:List AV}(h1:EvE lv Y e J (.ok (.tup vs)) J1)(hl:vs.length=is.length)(k:EvB lv (Ev Y is vs) rest J1 r):EvB lv Y (.ass (.tup is) e::rest) J r:=
 Aw (Az (B:=λn=>exA Ai n lv Y (.ass (.tup is) e) J=some (.ok .nxt,Ev Y is vs,J1)) h1 λm e1=>(oO (m:=evA Ai m lv Y e) e1).trans (oO (by show (if vs.length=is.length then M.ret vs else M.fail) J1=_;rw [if_pos hl];rfl))) k λm e1 e2=>(tO (m:=exA Ai m lv Y _) e1).trans e2
theorem Aba{op:Bin}{z:AV}(h0:Y i=some x)(h1:EvE lv Y e J (.ok y) J1)(h:Vz op x y J1=some (.ok z,J2))(k:EvB lv (put Y i z) rest J2 r):EvB lv Y (.aug i op e::rest) J r:=
 Aw (Az (B:=λn=>exA Ai n lv Y (.aug i op e) J=some (.ok .nxt,put Y i z,J2)) h1 λm e1=>by
  show X.of (M.ofOpt (Y i)) Y _ J=_;rw [h0];exact (oO (m:=evA Ai m lv Y e) e1).trans (oO h)) k λm e1 e2=>(tO (m:=exA Ai m lv Y _) e1).trans e2
theorem Aic(h1:EvE lv Y e J (.ok x) J1)(h:Ac x J1=some (.ok true,J1))(k:EvB lv Y rest J1 r):EvB lv Y (.asrt e::rest) J r:=
 Aw (Az (B:=λn=>exA Ai n lv Y (.asrt e) J=some (.ok .nxt,Y,J1)) h1 λm e1=>(oO (m:=evA Ai m lv Y e) e1).trans (oO h)) k λm e1 e2=>(tO (m:=exA Ai m lv Y _) e1).trans e2
theorem Dd{s:Src}(h1:EvE lv Y e J (.ok x) J1)(h:Mr x J1=some (.ok s,J2)):EvS lv Y (.val e) J s J2:=Az h1 λm e1=>(bO (m:=evA Ai m lv Y e) e1).trans h
theorem Db{t:IT}{it:II}{q:List IS}{s:Src}(h1:EvS lv Y it J s J1)(hs:Jg s 0=true)(h2:EvF lv Y t q s J1 (.ok .nxt,Y',J2)):EvX lv Y (.forr t it q) J (.ok .nxt,Y',J2):=
 Aw h1 h2 λm e1 e2=>(oO (m:=itA Ai m lv Y it) e1).trans (by show (if Jg s 0=true then (X.still (Abz Ai m lv Y t q s):X) else X.fail) J1=_;rw [if_pos hs];exact sO (m:=Abz Ai m lv Y t q s) e2)
theorem Op{t:IT}{q:List IS}{s:Src}(h:srcNext s J=some (.ok none,J1)):EvF lv Y t q s J (.ok .nxt,Y,J1):=Bl 1 λm=>oO h
theorem Lg{t:IT}{q:List IS}{s s':Src}{fl:Fl}(hf:∀ x:X,Zo Y' fl x=x)(h:srcNext s J=some (.ok (some (v,s')),J1))(ht:Aqn Y t v J1=some (.ok Y1,J1))(k:EvB lv Y1 q J1 (.ok fl,Y',J2))(k2:EvF lv Y' t q s' J2 r):EvF lv Y t q s J r:=
 Aw k k2 λm e1 e2=>(oO h).trans ((oO ht).trans ((tO (m:=Fg Ai m lv Y1 q) e1).trans ((congrFun (hf _) J2).trans e2)))
inductive Jd(I:Sto->Prop):Src->List AV->Prop
 | nil {s:Src}:(∀ J,I J->srcNext s J=some (.ok none,J))->Jd I s []
 | cons {s s':Src} {x:AV} {xs:List AV}:(∀ J,I J->srcNext s J=some (.ok (some (x,s')),J))->Jd I s' xs->Jd I s (x::xs)
theorem Et{I:Sto->Prop}:∀ xs:List AV,Jd I (.froz xs) xs:=λxs=>by
 induction xs with
 | nil=>exact .nil λ_ _=>rfl
 | cons x r ih=>exact .cons (λ_ _=>rfl) ih
theorem Adw{I:Sto->Prop}:∀ xs:List Nat,Jd I (.chars xs) (xs.map λc=>mk [c]):=λxs=>by
 induction xs with
 | nil=>exact .nil λ_ _=>rfl
 | cons x r ih=>exact .cons (λ_ _=>rfl) ih
theorem Anh{I:Sto->Prop}:∀ n a:Nat,Jd I (.rng a (a+n:Nat)) ((List.range' a n).map λ(i:Nat)=>AV.int i):=λn=>by
 induction n with
 | zero=>exact λa=>.nil λJ _=>by show M.ret (if (a:Int)<(a:Nat) then _ else _) J=_;rw [if_neg (by omega)];rfl
 | succ n ih=>exact λa=>.cons (s':=.rng (a+1:Nat) (a+1+n:Nat)) (λJ _=>by show M.ret (if (a:Int)<(a+(n+1):Nat) then _ else _) J=_;rw [if_pos (by omega),show a+(n+1)=a+1+n by exact eqc (fk [a,n] [(1,(.a (.a (.a (.v 0) (.n 1)) (.v 1)) (.n 1)),(.a (.v 0) (.a (.v 1) (.n 1))))] rfl) (fk [a,n] [(1,(.a (.a (.v 0) (.a (.v 1) (.n 1))) (.n 1)),(.a (.a (.v 0) (.n 1)) (.v 1)))] rfl)];rfl) (ih (a+1))
theorem Fy{k:Nat}{xs:List AV}:∀ (ys:List AV) (i:Nat),xs.drop i=ys->Jd (λJ=>J[k]?=some (.lst xs)) (.live k i) ys:=λys=>by
 induction ys with
 | nil=>exact λi h=>.nil λJ hσ=>(bO (Cg hσ)).trans (by rw [List.getElem?_eq_none (List.drop_eq_nil_iff.mp h)];rfl)
 | cons y r ih=>
  intro i h;have h1:xs[i]?=some y:=by rw [<- List.head?_drop,h];rfl
  exact .cons (λJ hσ=>(bO (Cg hσ)).trans (by rw [h1];rfl)) (ih (i+1) (by rw [<- List.drop_drop,h];rfl))
theorem Hn{I:Sto->Prop}{Inv:List AV->Ae->Sto->Prop}{t:IT}{q:List IS}(hI:∀ xs Y J,Inv xs Y J->I J)(h:∀ x xs Y J,Inv (x::xs) Y J->∃ Y1,Aqn Y t x J=some (.ok Y1,J)/\∃ fl Y' J',(fl=.nxt\/fl=.cnt)/\EvB lv Y1 q J (.ok fl,Y',J')/\Inv xs Y' J') :
 ∀ {xs:List AV} {s:Src} {Y:Ae} {J:Sto},Jd I s xs->Inv xs Y J->∃ Y' J',EvF lv Y t q s J (.ok .nxt,Y',J')/\Inv [] Y' J':=by
 intro xs s Y J S
 induction S generalizing Y J with
 | nil hs=>exact λi=>⟨Y,J,Op (hs J (hI _ _ _ i)),i⟩
 | cons hs _ ih=>
  intro i;refine e12 (h _ _ _ _ i) λY1 ht k=>e33 k λfl Y' J' hf hb i'=>e22 (ih i') λρ2 J2 hF i2=>⟨ρ2,J2,Lg (fl:=fl) (λx=>?_) (hs J (hI _ _ _ i)) ht hb hF,i2⟩;rcases hf with rfl | rfl <;> rfl
theorem w_l{Inv:Nat->Ae->Sto->Prop}{q:List IS}(h0:∀ Y J,Inv 0 Y J->∃ x,EvE lv Y c J (.ok x) J/\Ac x J=some (.ok false,J))(h:∀ n Y J,Inv (n+1) Y J->∃ x,EvE lv Y c J (.ok x) J/\Ac x J=some (.ok true,J)/\∃ Y' J',EvB lv Y q J (.ok .nxt,Y',J')/\Inv n Y' J') :
 ∀ {n:Nat} {Y:Ae} {J:Sto},Inv n Y J->∃ Y' J',EvW lv Y c q J (.ok .nxt,Y',J')/\Inv 0 Y' J':=by
 intro n
 induction n with
 | zero=>exact λi=>e12 (h0 _ _ i) λx h1 h2=>⟨_,_,Su h1 h2,i⟩
 | succ n ih=>exact λi=>e13 (h _ _ _ i) λx h1 h2 k=>e22 k λY' J' hb i'=>e22 (ih i') λρ2 J2 hw i2=>⟨ρ2,J2,Sv (fl:=.nxt) (λ_=>rfl) h1 h2 hb hw,i2⟩
theorem Jd.i0{I:Sto->Prop}{s:Src}(S:Jd I s []):∀ J,I J->srcNext s J=some (.ok none,J):=by cases S;assumption
theorem Jd.i1{I:Sto->Prop}{s:Src}{xs:List AV}(S:Jd I s (x::xs)):∃ s',(∀ J,I J->srcNext s J=some (.ok (some (x,s')),J))/\Jd I s' xs:=by
 cases S with
 | cons h k=>exact⟨_,h,k⟩
theorem Abb{elt:IE}{ts:List Nat}{ifs:List IE}{s s':Src}{acc vs:List AV}(hs:srcNext s J=some (.ok (some (v,s')),J1))(hb:Jh Y ts v J1=some (.ok Y',J1))(hi:EvI lv Y' ifs J1 true)(he:EvE lv Y' elt J1 (.ok x) J1)(hl:acc.length<999)(k:Ahy lv Y elt ts ifs s' (acc++[x]) J1 vs J2):Ahy lv Y elt ts ifs s acc J vs J2:=
 Ss hi he k λm e1 e2 e3=>(bO hs).trans ((bO hb).trans ((bO (m:=Tv Ai m lv Y' ifs) e1).trans ((bO (m:=evA Ai m lv Y' elt) e2).trans (by
  show M.grd (decide (acc.length+1<lim)) _ _=_;rw [aC (aT (Nat.succ_lt_succ hl) (by unfold lim;decide))];exact e3))))
theorem Zb{β:Type}{I:Sto->Prop}{elt:IE}{ts:List Nat}{ifs:List IE}{fx gy:β->AV}{t:β->Bool}(hI:I J) :
 ∀ (l:List β) {s:Src} {acc:List AV},Jd I s (l.map fx)->acc.length+l.length<1000->(∀ x∈l,∃ Y',Jh Y ts (fx x) J=some (.ok Y',J)/\EvI lv Y' ifs J (t x)/\(t x=true->EvE lv Y' elt J (.ok (gy x)) J))->Ahy lv Y elt ts ifs s acc J (acc++(l.filter t).map gy) J:=by
 intro l
 induction l with
 | nil=>exact λS _ _=>Bl 1 λm=>(bO (S.i0 J hI)).trans (by rw [List.filter_nil,List.map_nil,bW];rfl)
 | cons x xs ih=>
  intro s acc S hl h;refine e12 S.i1 λs' hs S'=>?_;refine e13 (h x (.head _)) λY' hb hi he=>?_;rw [bE] at hl
  cases ht:t x with
  | true=>
   have:=ih (acc:=acc++[gy x]) S' (by rw [aL];exact (by rwa [Nat.add_assoc,Nat.add_comm [gy x].length]:acc.length+[gy x].length+xs.length<1000)) λy hy=>h y (.tail _ hy);rw [List.filter_cons_of_pos ht,cP,List.append_cons];rw [ht] at hi;exact Abb (hs J hI) hb hi (he ht) (Nat.lt_of_succ_lt_succ (aV (Nat.add_le_add_left (Nat.le_add_left 1 xs.length) _) hl)) this
  | false=>
   rw [eD (by rw [ht];decide)];rw [ht] at hi;exact Aw hi (ih (acc:=acc) S' (Nat.lt_of_succ_lt hl) λy hy=>h y (.tail _ hy)) λm e1 e3=>(bO (hs J hI)).trans ((bO hb).trans ((bO (m:=Tv Ai m lv Y' ifs) e1).trans e3))
theorem Qc:EvI lv Y [] J true:=Bl 1 λ_=>rfl
theorem Abc{t:Bool}(h1:EvE lv Y a J (.ok x) J)(h:Ac x J=some (.ok t,J)):EvI lv Y [a] J t:=Aw h1 (Qc (lv:=lv) (Y:=Y) (J:=J)) λm e1 e2=>(bO (m:=evA Ai m lv Y a) e1).trans ((bO h).trans (by cases t <;> first | exact e2 | rfl))
noncomputable abbrev Fr(Y:Ae):Prop:=((List.range 32).all λj=>(Y (100+j)).isNone)=true
theorem Ho{elt:IE}{ts:List Nat}{it:II}{ifs:List IE}{s:Src}{vs:List AV}(hn:Fr Y)(ht:ts.all (λi=>decide (100<=i))=true)(h1:EvS lv Y it J s J1)(hs:Jg s ts.length=true)(h2:Ahy lv Y elt ts ifs s [] J1 vs J2)(m:Bool) :
 EvE lv Y (.comp m elt ts it ifs) J (.ok (if m then .ref J2.length else .lst vs)) (if m then J2++[.lst vs] else J2):=
 Aw h1 h2 λn e1 e2=>by
  show M.grd (((List.range 32).all λj=>(Y (100+j)).isNone)&&ts.all (λi=>decide (100<=i))) _ J=_;rw [hn,ht];refine (bO (m:=itA Ai n lv Y it) e1).trans ?_;show (M.grd (Jg s ts.length) _) J1=_;rw [hs];refine (bO (mS (m:=Zq Ai n lv Y elt ts ifs s []) e2)).trans ?_
  cases m <;> rfl
end
noncomputable abbrev Nm:Type:=List Nat
noncomputable abbrev Pl:Type:=List Nm
noncomputable def Ak(p:Pl):List Nat:=47::Bm [47] p
noncomputable def nms:List Nm:=[[97],[97,45],[98]]
noncomputable def Awj(n:Nat):List Pl:=Nat.rec [[]] (λ_ l=>l.flatMap λp=>nms.map λx=>p++[x]) n
noncomputable def upP(n:Nat):List Pl:=Nat.rec [[]] (λn l=>l++Awj (n+1)) n
noncomputable def Cb(ys:Pl)(c:Nm):Pl:=if c=[]\/c=[46] then ys else if c=[46,46] then ys.dropLast else ys++[c]
noncomputable def Bd(f:Pl)(t:List Nat):Pl:=(Aj 47 t).foldl Cb (if t.head?=some 47 then [] else f)
noncomputable def Ea:List Nm:=[[],[46],[46,46]]++nms
noncomputable def okT(t:List Nat):Bool:=(Aj 47 t).all (λc=>Ea.contains c)&&t.all (λc=>decide (c<256))&&decide (t.length<=20)&&decide (t.head?=some 47->t.tail.head?≠some 47)
noncomputable def cnt(t:List Nat):Nat:=(Aj 47 t).countP λc=>nms.contains c
noncomputable def Bh(n:Nat)(p:Pl):Prop:=p.length<=n/\∀ x∈p,x∈nms
theorem Ani:∀ (n:Nat) {p:Pl},p.length=n->(∀ x∈p,x∈nms)->p∈Awj n:=λn=>by
 induction n with
 | zero=>intro p h _;rw [bJ h];exact .head _
 | succ n ih=>
  intro p h hn;have hp:p≠[]:=λe=>by rw [e] at h;exact absurd h (Nat.succ_ne_zero n).symm
  rw [<- dK hp] at h hn ⊢;rw [aL] at h;exact List.mem_flatMap.mpr ⟨_,ih (Nat.succ.inj h) λx hx=>hn x (aG _ hx),bL.mpr ⟨_,hn _ (aI _ (.head _)),rfl⟩⟩
theorem Zc:∀ (n:Nat) {p:Pl},Bh n p->p∈upP n:=λn=>by
 induction n with
 | zero=>intro p h;rw [bJ (Nat.le_zero.mp h.1)];exact .head _
 | succ n ih=>
  intro p h;by_cases z:p.length=n+1
  . exact aI _ (Ani _ z h.2)
  . exact aG _ (ih ⟨Nat.le_of_lt_succ (bK h.1 z),h.2⟩)
theorem Bh.drop{n:Nat}{p:Pl}(h:Bh n p):Bh (n - 1) p.dropLast:=⟨by rw [dZ];exact Nat.sub_le_sub_right h.1 1,λx hx=>h.2 x (List.dropLast_sublist p |>.mem hx)⟩
theorem Bh.mono{n m:Nat}{p:Pl}(h:Bh n p)(l:n<=m):Bh m p:=⟨bA h.1 l,h.2⟩
theorem Anj{n:Nat}{ys:Pl}{c:Nm}(h:Bh n ys)(hc:Ea.contains c=true):Bh (n+if nms.contains c then 1 else 0) (Cb ys c):=by
 unfold Cb;by_cases h1:c=[]\/c=[46]
 . rw [if_pos h1];exact h.mono (cB _ _)
 . rw [if_neg h1];by_cases h2:c=[46,46]
   . rw [if_pos h2];exact h.drop.mono (bA (cA _ _) (cB _ _))
   . rw [if_neg h2];have hm:c∈nms:=by
      have:=List.contains_iff_mem.mp hc;rcases aZ.mp this with h | h
      . rcases aM.mp h with h | h
        . exact absurd (.inl h) h1
        . rcases aM.mp h with h | h
          . exact absurd (.inr h) h1
          . exact absurd (aQ.mp h) h2
      . exact h
     rw [if_pos (List.contains_iff_mem.mpr hm)];exact⟨by rw [aL];exact cJ h.1,λx hx=>(aZ.mp hx).elim (h.2 x) λe=>aQ.mp e▸hm⟩
theorem Ank:∀ (cs:List Nm) {n:Nat} {ys:Pl},Bh n ys->cs.all (λc=>Ea.contains c)=true->Bh (n+cs.countP λc=>nms.contains c) (cs.foldl Cb ys):=λcs=>by
 induction cs with
 | nil=>exact λh _=>h
 | cons c r ih=>
  intro n ys h hc;rw [List.all_cons] at hc;refine e02 (aK.mp hc) λh1 h2=>?_;have:=ih (Anj h h1) h2;rw [List.countP_cons,Nat.add_comm (List.countP _ r),<- Nat.add_assoc];exact this
theorem Anl{n:Nat}{f:Pl}{t:List Nat}(h:Bh n f)(ht:okT t=true):Bh (n+cnt t) (Bd f t):=by
 have h1:(Aj 47 t).all (λc=>Ea.contains c)=true:=(aK.mp (aK.mp (aK.mp ht).1).1).1;refine Ank _ ?_ h1;by_cases z:t.head?=some 47
 . rw [if_pos z];exact⟨bV _,λx hx=>nomatch hx⟩
 . rw [if_neg z];exact h
theorem Azg:(λ(m lv:Nat) (J:Sto)=>(upP 4).map λp=>Pi Ai (m+30) (lv+3) 219 [mk (Ak p)] J)=λm lv J=>(upP 4).map λp=>some (.ok (mk (Ak p.dropLast)),J):=by kernel_rfl
noncomputable def Aid(x:List Nat):Pl:=if x=[47] then [] else (Aj 47 x).tail
theorem plT:((upP 4).all λp=>decide (Aj 47 (Ak p)=[]::(if p=[] then [[]] else p)/\(Ak p).count 47=(if p=[] then 1 else p.length)/\Aid (Ak p)=p/\(Ak p).length<20/\((Ak p).getLast?=some 47↔p=[])/\(Ak p=[47]↔p=[])))=true:=by kernel_rfl
section
variable{lv:Nat}{Y Y':Ae}{J J1:Sto}{x y t:List Nat}{p f g:Pl}{r:XR}{xs ys:List AV}
theorem Aie{q els:List IS}(h:EvB lv Y q J (.ok .nxt,Y',J1))(k:EvB lv Y' els J1 r):EvX lv Y (.trye q els) J r:=Aw h k λm e1 e2=>(tO (m:=X.still (Fg Ai m lv Y q)) (sO e1)).trans e2
theorem Aif(h:Bh 4 p):EvC (lv+3) 219 [mk (Ak p)] J (.ok (mk (Ak p.dropLast))) J:=Bl 30 λm=>List.map_inj_left.mp (congrFun (congrFun (congrFun Azg m) lv) J) p (Zc 4 h)
theorem Qd{x:Str}:EvC (lv+1) 184 [.str x] J (.ok (.str x)) J:=Bl 12 λ_=>rfl
theorem Awk{x:Str}:EvC (lv+1) 198 [.str x] J (.ok (mk [47])) J:=Bl 12 λ_=>rfl
theorem Je(h:x.length+y.length<1000):Vy (mk x) (mk y) J=some (.ok (mk (x++y)),J):=by
 show M.grd (decide (x.toArray.size+y.toArray.size<lim)) (M.ret (AV.str ⟨x.toArray++y.toArray⟩)) J=_;rw [aC (by rw [cY,cY];exact aT h (by unfold lim;decide)),List.append_toArray];rfl
theorem Cv:((⟨x.toArray⟩:Str) == ⟨y.toArray⟩)=decide (x=y):=by
 rw [Bool.eq_iff_iff,beq_iff_eq,decide_eq_true_iff];exact⟨λh=>by injection h with h;exact aJ Array.toList h,λh=>h▸rfl⟩
theorem Oq:Ts .eq (mk x) (mk y) J=some (.ok (.bool (decide (x=y))),J):=by
 show some (Except.ok (AV.bool ((⟨x.toArray⟩:Str) == ⟨y.toArray⟩)),J)=_;rw [Cv]
theorem Qf:Ts .ne (mk x) (mk y) J=some (.ok (.bool (!decide (x=y))),J):=by
 show some (Except.ok (AV.bool (!((⟨x.toArray⟩:Str) == ⟨y.toArray⟩))),J)=_;rw [Cv]
theorem Awl:Ac (mk x) J=some (.ok (decide (x≠[])),J):=by
 cases x <;> rfl
theorem Asu{t:List Nat}(h1:x.length<100)(h2:t.length<100)(hx:x≠[]):EvC (lv+2) 205 [mk x,mk t] J (.ok (mk (if t.head?=some 47 then t else if x.getLast?=some 47 then x++t else x++47::t))) J:=by
 have body:∃ Y',EvB (lv+1) (put (put (put (put (λi=>[mk x,.tup [mk t]][i]?) 0 (mk x)) 2 (mk [47])) 3 (mk x)) 4 (mk t)) Ahk J (.ok .nxt,Y',J)/\Y' 3=some (mk (if t.head?=some 47 then t else if x.getLast?=some 47 then x++t else x++47::t)):=by
  have es:EvE (lv+1) (put (put (put (put (put (λi=>[mk x,.tup [mk t]][i]?) 0 (mk x)) 2 (mk [47])) 3 (mk x)) 4 (mk t)) 4 (mk t)) (.meth (.var 4) .startswith [.var 2]) J (.ok (.bool (t.head? == some 47))) J:=Av (Aa rfl) rfl (l1 (Aa rfl)) rfl;by_cases z:t.head?=some 47
  . rw [if_pos z];exact⟨_,Ad (Ao (l1 (Aa rfl)) Qd) (Ar (t:=true) (Gq es (tru (beq_iff_eq.mpr z))) (tru (beq_iff_eq.mpr z)) (Ad (Aa rfl) Ah) Ah),rfl⟩
  . rw [if_neg z];have en:EvE (lv+1) (put (put (put (put (put (λi=>[mk x,.tup [mk t]][i]?) 0 (mk x)) 2 (mk [47])) 3 (mk x)) 4 (mk t)) 4 (mk t)) (.or [.meth (.var 4) .startswith [.var 2],.not (.var 3)]) J (.ok (.bool (!decide (x≠[])))) J:=Er es (fal (cL.mpr z)) (Ke (Lu (Aa rfl) Awl));have ee:EvE (lv+1) (put (put (put (put (put (λi=>[mk x,.tup [mk t]][i]?) 0 (mk x)) 2 (mk [47])) 3 (mk x)) 4 (mk t)) 4 (mk t)) (.meth (.var 3) .endswith [.var 2]) J (.ok (.bool (x.getLast? == some 47))) J:=Av (Aa rfl) rfl (l1 (Aa rfl)) rfl;have hf:(!decide (x≠[]))=false:=by rw [aC hx];rfl
    by_cases w:x.getLast?=some 47
    . rw [if_pos w];exact⟨_,Ad (Ao (l1 (Aa rfl)) Qd) (Ar (t:=false) en (fal hf) (Ar (t:=true) ee (tru (beq_iff_eq.mpr w)) (Aba rfl (Aa rfl) (Je (by exact ltc (fk [x.length,t.length] [(1,(.a (.v 0) (.n 1)),(.n 100)),(1,(.a (.v 1) (.n 1)),(.n 100)),(1,(.n 1000),(.a (.v 0) (.v 1)))] rfl h1 h2))) Ah) Ah) Ah),rfl⟩
    . rw [if_neg w];exact⟨_,Ad (Ao (l1 (Aa rfl)) Qd) (Ar (t:=false) en (fal hf) (Ar (t:=false) ee (fal (cL.mpr w)) (Aba rfl (Ba (Aa rfl) (Aa rfl) (Je (x:=[47]) (by rw [dL];exact ltc (fk [t.length] [(1,(.a (.v 0) (.n 1)),(.n 100)),(1,(.n 1000),(.a (.n 1) (.v 0)))] rfl h2)))) (Je (by rw [aL,dL];exact ltc (fk [x.length,t.length] [(1,(.a (.v 0) (.n 1)),(.n 100)),(1,(.a (.v 1) (.n 1)),(.n 100)),(1,(.n 1000),(.a (.v 0) (.a (.n 1) (.v 1))))] rfl h1 h2))) Ah) Ah) Ah),rfl⟩
 exact e12 body λY' hb h3=>Cs [mk x,.tup [mk t]] (by decide) rfl rfl ⟨Y',Ad (Ao (l1 (Aa rfl)) Qd) (Ad (Ao (l1 (Aa rfl)) Awk) (Ad (Aa rfl) (Dc (Aie (Dc (Db (Dd (Aa rfl) rfl) rfl (Lg (fl:=.nxt) (λ_=>rfl) rfl rfl hb (Op rfl))) Ah) Ah) (Ck (Aa h3)))))⟩
theorem Abd{c:Nat}:Cl none (some 1) (c::y)=[c]:=by simp [Cl,Bt]
theorem Asv{c:Nat}:Cl (some 1) (some 2) (c::y)=y.take 1:=by
 cases y <;> simp [Cl,Bt]
theorem Aig{c:Nat}:Cl (some 1) none (c::y)=y:=by simp [Cl,Bt]
theorem Asw(hy:y.head?≠some 47):EvC (lv+2) 212 [mk (47::y)] J (.ok (.tup [mk [],mk [47],mk y])) J:=by
 have s1:Abx (mk (47::y)) none (some (.int 1)) none J=some (.ok (mk [47]),J):=by show some (Except.ok (mk (Cl none (some 1) (47::y))),J)=_;rw [Abd]
 have s2:Abx (mk (47::y)) (some (.int 1)) (some (.int 2)) none J=some (.ok (mk (y.take 1)),J):=by show some (Except.ok (mk (Cl (some 1) (some 2) (47::y))),J)=_;rw [Asv]
 have s3:Abx (mk (47::y)) (some (.int 1)) none none J=some (.ok (mk y),J):=by show some (Except.ok (mk (Cl (some 1) none (47::y))),J)=_;rw [Aig]
 have hn:(!decide (y.take 1=[47]))=true:=by
  rw [aP];rfl
  cases y with
  | nil=>exact λh=>nomatch h
  | cons c r=>exact λh=>hy (by injection h with h;rw [h];rfl)
 refine Cs [mk (47::y)] (by decide) rfl rfl ⟨_,Ad (Ao (l1 (Aa rfl)) Qd) (Ar (t:=false) (Bx (l2 (Aa rfl) Af) rfl) rfl (Ad Af (Ad Af Ah))
  (Ez (t:=false) (fl:=.ret _) (λ_=>rfl) (Ay (Gv (Aa rfl) Bs (Cq Af) Bs s1) (Aa rfl) (Qf (x:=[47]) (y:=[47]))) rfl
   (Ez (t:=true) (fl:=.ret _) (λ_=>rfl) (Gq (Ay (Gv (Aa rfl) (Cq Af) (Cq Af) Bs s2) (Aa rfl) (Qf (y:=[47]))) (tru hn)) (tru hn) (Ck (Fa (l3 (Aa rfl) (Aa rfl) (Gv (Aa rfl) (Cq Af) Bs Bs s3)) (by show 3<1000;decide))))))⟩
theorem Vo{c:Nm}(h:Ea.contains c=true):(c=[]\/c=[46])\/(¬ (c=[]\/c=[46])/\c=[46,46])\/(¬ (c=[]\/c=[46])/\¬ c=[46,46]/\c∈nms):=by
 by_cases h1:c=[]\/c=[46]
 . exact .inl h1
 . by_cases h2:c=[46,46]
   . exact .inr (.inl ⟨h1,h2⟩)
   . refine .inr (.inr ⟨h1,h2,?_⟩);rcases aZ.mp (List.contains_iff_mem.mp h) with h | h
     . rcases aM.mp h with h | h
       . exact absurd (.inl h) h1
       . rcases aM.mp h with h | h
         . exact absurd (.inr h) h1
         . exact absurd (aQ.mp h) h2
     . exact h
structure Anm(J:Sto)(g:Pl)(rest:List AV)(Y:Ae)(J':Sto)(cs:List Nm)(ys:Pl):Prop where
 r:rest=cs.map mk
 f:cs.foldl Cb ys=g
 a:cs.all (λc=>Ea.contains c)=true
 n:∀ x∈ys,x∈nms
 l:ys.length+cs.length<=100
 s:J'=J++[.lst (ys.map mk)]
 v:(Y 1=some (mk [47])/\Y 2=some (mk [46])/\Y 3=some (mk [46,46]))/\Y 5=some (mk [47])/\Y 7=some (.ref J.length)
theorem Co{o:Al}:(J++[o])[J.length]?=some o:=by rw [cK (aU _),Nat.sub_self];rfl
theorem Ib{o o':Al}:(J++[o]).set J.length o'=J++[o']:=by rw [List.set_append_right _ _ (aU _),Nat.sub_self];rfl
theorem Ann{k:Nat}{ys:Pl}(h:ys≠[])(hσ:J[k]?=some (.lst (ys.map mk)))(hl:ys.length<=100):Ac (.ref k) J=some (.ok true,J)/\Lz (.ref k) (.int (-1)) J=some (.ok (mk (ys.getLast h)),J)/\methA (.ref k) .pop [] J=some (.ok (mk (ys.getLast h)),J.set k (.lst (ys.dropLast.map mk))):=by
 have hm:ys.map mk=ys.dropLast.map mk++[mk (ys.getLast h)]:=by
  have:=aJ (List.map mk) (dK h).symm
  rwa [bP] at this
 have hL:(ys.map mk).length=(ys.dropLast.map mk).length+1:=by rw [hm,aL];rfl
 refine⟨by rw [Kc hσ,hL];rfl,?_,by rw [hm] at hσ;exact Apx hσ⟩;show ((Bv (.ref k)).bnd (atA (-1))) _=_;rw [bO (Cg hσ)];unfold atA;rw [show seqIndex? (-1) (ys.map mk).length=some (ys.dropLast.map mk).length by rw [hL];unfold seqIndex?;simp;omega];show M.ofOpt (ys.map mk)[(ys.dropLast.map mk).length]? _=_;rw [hm,cK (aU _),Nat.sub_self];rfl
theorem ndd:∀ {z:Nm},z∈nms->decide (z=[46,46])=false:=λh=>aP λe=>by rw [e] at h;exact absurd h (by decide +kernel)
theorem Adx{g:Pl}{c:Nm}{cs:List Nm}{ys:Pl}{rest:List AV}{J':Sto}(N:Anm J g rest Y J' (c::cs) ys):∃ fl Y' J2,(fl=.nxt\/fl=.cnt)/\EvB lv (put Y 8 (mk c)) Yo J' (.ok fl,Y',J2)/\Anm J g (cs.map mk) Y' J2 cs (Cb ys c):=by
 have ha:=N.a;rw [List.all_cons] at ha;refine e02 (aK.mp ha) λa1 a2=>?_;have hl:=N.l;rw [bE] at hl;have hσ:J'[J.length]?=some (.lst (ys.map mk)):=N.s▸Co;have hS:∀ o,J'.set J.length o=J++[o]:=λo=>N.s▸Ib;have tail:∀ {zs:Pl} {Y1:Ae},Cb ys c=zs->(∀ x∈zs,x∈nms)->zs.length<=ys.length+1->Anm J g (cs.map mk) (put Y 8 (mk c)) (J++[.lst (zs.map mk)]) cs (Cb ys c):=λe h1 h2=>
  ⟨rfl,N.f,a2,e▸h1,by rw [e];omega,by rw [e],N.v⟩
 have ec:EvE lv (put Y 8 (mk c)) (.not (.var 8)) J' (.ok (.bool (!decide (c≠[])))) J':=Lu (Aa rfl) Awl;have ed:EvE lv (put Y 8 (mk c)) (.cmp .eq (.var 8) (.var 2)) J' (.ok (.bool (decide (c=[46])))) J':=Ay (Aa rfl) (Aa N.v.1.2.1) Oq;have en:EvE lv (put Y 8 (mk c)) (.cmp .ne (.var 8) (.var 3)) J' (.ok (.bool (!decide (c=[46,46])))) J':=Ay (Aa rfl) (Aa N.v.1.2.2) Qf;have e7:EvE lv (put Y 8 (mk c)) (.var 7) J' (.ok (.ref J.length)) J':=Aa N.v.2.2;have e5:EvE lv (put Y 8 (mk c)) (.and [.not (.var 5),.not (.var 7)]) J' (.ok (.bool false)) J':=Hm (Lu (t:=true) (Aa N.v.2.1) rfl) rfl;rcases Vo a1 with h | h | h
 . refine⟨.cnt,_,_,.inr rfl,?_,N.s▸tail (Y1:=Y) (if_pos h) N.n (Nat.le_succ _)⟩;by_cases z:c=[]
   . have ht:(!decide (c≠[]))=true:=by rw [z];rfl
     exact Ez (t:=true) (fl:=.cnt) (λ_=>rfl) (Gq ec (tru ht)) (tru ht) Ahn
   . exact Ez (t:=true) (fl:=.cnt) (λ_=>rfl) (Er ec (fal (by rw [aC z];rfl)) (Ke ed)) (tru (aC (h.resolve_left z))) Ahn
 . have hs:Cb ys c=ys.dropLast:=by unfold Cb;rw [if_neg h.1,if_pos h.2]
   have f1:(!decide (c≠[]))=false:=by rw [h.2];rfl
   have f2:decide (c=[46])=false:=by rw [h.2];rfl
   have f3:(!decide (c=[46,46]))=false:=by rw [h.2];rfl
   by_cases hy:ys=[]
   . have t7:Ac (.ref J.length) J'=some (.ok false,J'):=(Kc hσ).trans (by rw [hy];rfl);exact⟨.nxt,_,_,.inl rfl,Ar (t:=false) (Er ec (fal f1) (Ke ed)) (fal f2) Ah (Ar (t:=false) (Er en (fal f3) (Er e5 rfl (Ke (Hm e7 t7)))) t7 (Ar (t:=false) e7 t7 Ah Ah) Ah),
      by have:=tail (Y1:=Y) (zs:=ys) (hs.trans (by rw [hy];rfl)) N.n (Nat.le_succ _);rwa [<- N.s] at this⟩
   . refine e03 (Ann hy hσ (by exact lec (fk [List.length ys,cs.length] [(1,(.a (.v 0) (.a (.v 1) (.n 1))),(.n 100)),(1,(.a (.n 100) (.n 1)),(.v 0))] rfl hl))) λt7 ix hp=>?_;rw [hS] at hp;have el:EvE lv (put Y 8 (mk c)) (.cmp .eq (.idx (.var 7) (.neg (.lit (.int 1)))) (.var 3)) J' (.ok (.bool (decide (ys.getLast hy=[46,46])))) J':=Ay (Bp e7 (Oo Af) ix) (Aa N.v.1.2.2) Oq;exact⟨.nxt,_,_,.inl rfl,Ar (t:=false) (Er ec (fal f1) (Ke ed)) (fal f2) Ah (Ar (t:=false) (Er en (fal f3) (Er e5 rfl (Ke (Dw e7 t7 el)))) (fal (ndd (N.n _ (List.getLast_mem hy)))) (Ar (t:=true) e7 t7 (Bz (Av e7 (Fx hσ rfl) Fv hp) Ah) Ah) Ah),
      tail (Y1:=Y) hs (λx hx=>N.n x ((List.dropLast_sublist ys).mem hx)) (by rw [dZ];exact lec (fk [List.length ys - 1,List.length ys] [(1,(.v 0),(.v 1)),(1,(.a (.a (.v 1) (.n 1)) (.n 1)),(.v 0))] rfl (cA (List.length ys) (1))))⟩
 . have ht:(!decide (c=[46,46]))=true:=by rw [aP h.2.1];rfl
   have hp:=Kb (x:=mk c) hσ (by rw [aF];exact lec (fk [List.length ys,cs.length] [(1,(.a (.v 0) (.a (.v 1) (.n 1))),(.n 100)),(1,(.a (.n 1000) (.n 1)),(.v 0))] rfl hl));rw [hS] at hp;exact⟨.nxt,_,_,.inl rfl,Ar (t:=false) (Er ec (fal (by rw [aC (p:=c≠[]) λe=>h.1 (.inl e)];rfl)) (Ke ed)) (fal (aP λe=>h.1 (.inr e))) Ah (Ar (t:=true) (Gq en (tru ht)) (tru ht) (Bz (Av e7 (Fx hσ rfl) (l1 (Aa rfl)) hp) Ah) Ah),
    by rw [show [mk c]=[c].map mk from rfl,<- bP];exact tail (Y1:=Y) (by unfold Cb;rw [if_neg h.1,if_neg h.2.1]) (λx hx=>(aZ.mp hx).elim (N.n x) λe=>aQ.mp e▸h.2.2) (by rw [aL];exact aU _)⟩
theorem Dy(h:Bh 4 p):Aj 47 (Ak p)=[]::(if p=[] then [[]] else p)/\(Ak p).count 47=(if p=[] then 1 else p.length)/\Aid (Ak p)=p/\(Ak p).length<20/\((Ak p).getLast?=some 47↔p=[])/\(Ak p=[47]↔p=[]):=aB (bI.mp plT p (Zc 4 h))
theorem Mm:∀ g:Pl,Fc (g.map mk)=some g:=λg=>by
 induction g with
 | nil=>rfl
 | cons c r ih=>show (Fc (r.map mk)).map _=_;rw [ih];rfl
theorem Aih(h:x.length<1000):methA (mk x) .split [mk [47]] J=some (.ok (.lst ((Aj 47 x).map mk)),J):=by
 show M.grd (decide (x.length+1<lim)) _ J=_;rw [aC (aV h (by unfold lim;decide))];rfl
theorem Asx(hy:y.head?≠some 47)(h:(Aj 47 y).all (λc=>Ea.contains c)=true)(hl:(Aj 47 y).length<=100)(hg:Bh 4 ((Aj 47 y).foldl Cb []))(hb:y.length<100):EvC (lv+3) 226 [mk (47::y)] J (.ok (mk (Ak ((Aj 47 y).foldl Cb [])))) (J++[.lst (((Aj 47 y).foldl Cb []).map mk)]):=by
 have L:=Hn (lv:=lv+2) (I:=λ_=>True) (Inv:=λrest Y J'=>∃ cs ys,Anm J ((Aj 47 y).foldl Cb []) rest Y J' cs ys) (t:=.var 8) (q:=Yo) (λ_ _ _ _=>trivial) (λx xs Y J' i=>e21 i λcs ys N=>by
  match cs,N with
  | [],N=>exact absurd N.r (by simp)
  | c::cs,N=>
   refine cnE N.r λhx hr=>e33 (Adx N) λfl Y' J2 h1 h2 h3=>⟨put Y 8 x,rfl,fl,Y',J2,h1,by rw [hx];exact h2,cs,Cb ys c,by rw [hr];exact h3⟩) (Et ((Aj 47 y).map mk))
  (Y:=put (put (Ev (put (put (put (put (λi=>[mk (47::y)][i]?) 0 (mk (47::y))) 1 (mk [47])) 2 (mk [46])) 3 (mk [46,46])) [4,5,0] [mk [],mk [47],mk y]) 6 (.lst ((Aj 47 y).map mk))) 7 (.ref J.length)) (J:=J++[.lst []]) ⟨Aj 47 y,[],rfl,rfl,h,(λ_ h=>nomatch h),by rw [List.length_nil];exact lec (fk [(Aj 47 y).length] [(1,(.v 0),(.n 100)),(1,(.a (.n 100) (.n 1)),(.a (.n 0) (.v 0)))] rfl hl),rfl,⟨rfl,rfl,rfl⟩,rfl,rfl⟩
 refine e22 L λY' J' hF i=>e21 i λcs ys N=>?_;have hcs:cs=[]:=by cases cs with | nil=>rfl | cons c r=>exact absurd N.r (by simp)
 have hy':ys=(Aj 47 y).foldl Cb []:=by have:=N.f;rwa [hcs] at this
 have hj:methA (mk [47]) .join [.ref J.length] J'=some (.ok (mk (Bm [47] ys)),J'):=by
  show ((Bv (.ref J.length)).bnd (Tt [47])) J'=_;rw [bO (Cg (xs:=ys.map mk) (N.s▸Co))];show (match Fc (ys.map mk) with | some l=>_ | none=>_:M AV) J'=_;rw [Mm];show M.grd (decide ((Bm [47] ys).length<lim)) _ J'=_;rw [aC (by have:=(Dy hg).2.2.2.1;rw [hy'];exact aT (cN _) (aT this (by unfold lim;decide)))];rfl
 have ha:Vy (mk [47]) (mk (Bm [47] ys)) J'=some (.ok (mk (Ak ys)),J'):=Je (by have:=(Dy hg).2.2.2.1;rw [hy'];exact aV (aD (Nat.add_comm 1 _)) (aT this (by decide)));rw [<- hy',<- N.s];exact Cs [mk (47::y)] (by decide) rfl rfl ⟨_,Ad (Ao (l1 (Aa rfl)) Qd) (Ar (t:=false) (Bx (l2 (Aa rfl) Af) rfl) rfl (Ad Af (Ad Af (Ad Af Ah))) (Ar (t:=false) (Lu (t:=true) (Aa rfl) rfl) rfl Ah
  (Aaz (Ao (l1 (Aa rfl)) (Asw hy)) rfl (Ad (Av (Aa rfl) rfl (l1 (Aa rfl)) (Aih (aT hb (by decide)))) (Ad Jc (Dc (Db (Dd (Aa rfl) rfl) rfl hF) (Ad (Aa N.v.2.2) (Ad (Ba (Aa N.v.2.1) (Av (Aa N.v.1.1) rfl (l1 (Aa rfl)) hj) ha) (Ck (Gq (Aa rfl) rfl))))))))))⟩
theorem Asy:Cl none (some 1) t=t.take 1:=by
 cases t with
 | nil=>rfl
 | cons c r=>rw [Abd];rfl
theorem Apy:t.take 1=[47]↔t.head?=some 47:=by
 cases t with
 | nil=>exact⟨(λh=>nomatch h),(λh=>nomatch h)⟩
 | cons c r=>exact⟨λh=>by injection h with h;rw [h];rfl,λh=>by rw [show c=47 from bG h];rfl⟩
theorem Kf(h:xs.length+ys.length<1000):Vy (.lst xs) (.lst ys) J=some (.ok (.lst (xs++ys)),J):=by
 show M.grd (decide (xs.length+ys.length<lim)) _ J=_;rw [aC (aT h (by unfold lim;decide))];rfl
theorem Aii:Cl none (some (-1)) xs=xs.dropLast:=by
 show (xs.drop 0).take ((-1+(xs.length:Int)).toNat - 0)=_;rw [List.drop_zero,List.dropLast_eq_take,Nat.sub_zero,Int.add_comm];exact aJ (xs.take ·) (Int.toNat_sub xs.length 1)
structure Ano(g:Pl)(J:Sto)(rest:List AV)(Y:Ae)(J':Sto)(cs:List Nm)(ys:Pl):Prop where
 r:rest=cs.map mk
 f:cs.foldl Cb ys=g
 a:cs.all (λc=>Ea.contains c)=true
 l:ys.length+cs.length<=100
 s:J'=J
 v:Y 0=some (.lst (ys.map mk))
theorem Ady{c:Nm}{cs:List Nm}{ys:Pl}{rest:List AV}{J':Sto}(N:Ano g J rest Y J' (c::cs) ys):∃ fl Y' J2,(fl=.nxt\/fl=.cnt)/\EvB lv (put Y 2 (mk c)) Yt J' (.ok fl,Y',J2)/\Ano g J (cs.map mk) Y' J2 cs (Cb ys c):=by
 have ha:=N.a;rw [List.all_cons] at ha;refine e02 (aK.mp ha) λa1 a2=>?_;have hl:=N.l;rw [bE] at hl;have ed:EvE lv (put Y 2 (mk c)) (.cmp .eq (.var 2) (.lit (mk [46,46]))) J' (.ok (.bool (decide (c=[46,46])))) J':=Ay (Aa rfl) Af Oq;have e0:EvE lv (put Y 2 (mk c)) (.cmp .ne (.var 2) (.lit (mk []))) J' (.ok (.bool (!decide (c=[])))) J':=Ay (Aa rfl) Af Qf;have e1:EvE lv (put Y 2 (mk c)) (.cmp .ne (.var 2) (.lit (mk [46]))) J' (.ok (.bool (!decide (c=[46])))) J':=Ay (Aa rfl) Af Qf;have tail:∀ {zs:Pl} {Y1:Ae},Cb ys c=zs->zs.length<=ys.length+1->Y1 0=some (.lst (zs.map mk))->Ano g J (cs.map mk) Y1 J' cs (Cb ys c):=λe h1 h2=>⟨rfl,N.f,a2,by rw [e];omega,N.s,by rw [e];exact h2⟩;rcases Vo a1 with h | h | h
 . have f1:decide (c=[46,46])=false:=aP λe=>by rw [e] at h;exact absurd h (by decide)
   refine⟨.nxt,_,_,.inl rfl,?_,tail (Y1:=put Y 2 (mk c)) (if_pos h) (Nat.le_succ _) N.v⟩;by_cases z:c=[]
   . have f2:(!decide (c=[]))=false:=by rw [z];rfl
     exact Ar (t:=false) ed (fal f1) (Ar (t:=false) (Hm e0 (fal f2)) (fal f2) Ah Ah) Ah
   . exact Ar (t:=false) ed (fal f1) (Ar (t:=false) (Dw e0 (tru (by rw [aP z];rfl)) e1) (fal (by rw [h.resolve_left z];rfl)) Ah Ah) Ah
 . have hs:Cb ys c=ys.dropLast:=by unfold Cb;rw [if_neg h.1,if_pos h.2]
   exact⟨.nxt,_,_,.inl rfl,Ar (t:=true) ed (tru (aC h.2)) (Ad (Gv (Aa N.v) Bs (Cq (Oo Af)) Bs (by show some (Except.ok (AV.lst (Cl none (some (-1)) (ys.map mk))),J')=_;rw [Aii,<- List.map_dropLast])) Ah) Ah,
    tail hs (by rw [dZ];exact lec (fk [List.length ys - 1,List.length ys] [(1,(.v 0),(.v 1)),(1,(.a (.a (.v 1) (.n 1)) (.n 1)),(.v 0))] rfl (cA (List.length ys) (1)))) rfl⟩
 . have h46:¬ c=[46]:=λe=>h.1 (.inr e);exact⟨.nxt,_,_,.inl rfl,Ar (t:=false) ed (fal (aP h.2.1)) (Ar (t:=true) (Dw e0 (tru (by rw [aP λe=>h.1 (.inl e)];rfl)) e1) (tru (by rw [aP h46];rfl)) (Ad (Ba (Aa N.v) (Dx (l1 (Aa rfl)) (by show 1<1000;decide)) (Kf (by rw [aF];show _+1<_;exact ltc (fk [List.length ys,cs.length] [(1,(.a (.v 0) (.a (.v 1) (.n 1))),(.n 100)),(1,(.n 1000),(.a (.v 0) (.n 1)))] rfl hl)))) Ah) Ah) Ah,
    tail (by unfold Cb;rw [if_neg h.1,if_neg h.2.1]) (by rw [aL];exact aU _) (by show some (AV.lst (ys.map mk++[c].map mk))=_;rw [<- bP])⟩
theorem Asz(h:(Aj 47 t).all (λc=>Ea.contains c)=true)(hl:(Aj 47 t).length<=50)(hf:f.length<=50)(hb:t.length<100):EvC (lv+1) 276 [.lst (f.map mk),mk t] J (.ok (.lst ((Bd f t).map mk))) J:=by
 have L:=Hn (lv:=lv) (I:=λ_=>True) (Inv:=λrest Y J'=>∃ cs ys,Ano (Bd f t) J rest Y J' cs ys) (t:=.var 2) (q:=Yt) (λ_ _ _ _=>trivial) (λx xs Y J' i=>e21 i λcs ys N=>by
  match cs,N with
  | [],N=>exact absurd N.r (by simp)
  | c::cs,N=>
   refine cnE N.r λhx hr=>e33 (Ady N) λfl Y' J2 h1 h2 h3=>⟨put Y 2 x,rfl,fl,Y',J2,h1,by rw [hx];exact h2,cs,Cb ys c,by rw [hr];exact h3⟩) (Et ((Aj 47 t).map mk))
  (Y:=put (λi=>[.lst (f.map mk),mk t][i]?) 0 (.lst ((if t.head?=some 47 then [] else f).map mk))) (J:=J) ⟨Aj 47 t,_,rfl,rfl,h,by split <;> first | (rw [List.length_nil];exact lec (fk [(Aj 47 t).length] [(1,(.v 0),(.n 50)),(1,(.a (.n 100) (.n 1)),(.a (.n 0) (.v 0)))] rfl hl)) | exact lec (fk [(Aj 47 t).length,List.length f] [(1,(.v 0),(.n 50)),(1,(.v 1),(.n 50)),(1,(.a (.n 100) (.n 1)),(.a (.v 1) (.v 0)))] rfl hl hf),rfl,rfl⟩
 refine e22 L λY' J' hF i=>e21 i λcs ys N=>?_;have hcs:cs=[]:=by cases cs with | nil=>rfl | cons c r=>exact absurd N.r (by simp)
 have hy':ys=Bd f t:=by have:=N.f;rwa [hcs] at this
 have hS:=N.s;subst hS;have hv:=N.v;rw [hy'] at hv;have ec:EvE lv (λi=>[.lst (f.map mk),mk t][i]?) (.cmp .eq (.slc (.var 1) none (some (.lit (.int 1))) none) (.lit (mk [47]))) J' (.ok (.bool (decide (t.take 1=[47])))) J':=Ay (Gv (Aa rfl) Bs (Cq Af) Bs (by show some (Except.ok (mk (Cl none (some 1) t)),J')=_;rw [Asy])) Af Oq;refine Cs [.lst (f.map mk),mk t] (by decide) rfl rfl ⟨_,Ad (Aia (t:=decide (t.take 1=[47])) ec rfl ?_) (Dc (Db (Dd (Av (Aa rfl) rfl (l1 Af) (Aih (aT hb (by decide)))) rfl) rfl hF) (Ck (Aa hv)))⟩;by_cases z:t.head?=some 47
 . rw [if_pos z,if_pos (by rw [aC (Apy.mpr z)])];exact Dx Fv (by decide)
 . rw [if_neg z,if_neg (by rw [aP (λe=>z (Apy.mp e))];decide)];exact Aa rfl
end
noncomputable abbrev Oc:Type:=List UInt8
noncomputable def spO(oc rest:Oc):Al:=.spot (oc.length - rest.length)
noncomputable def w0:Str:=Str.ofString "not enough data in stream to read uint1"
section
variable{lv k n:Nat}{Y Y':Ae}{J J1:Sto}{oc rest r d:Oc}{b:UInt8}{v:AV}{w fm:Str}{F:Addr}{L:List IS}{R:IE}
theorem rd(hs:rest<:+oc)(hσ:J[k]?=some (spO oc rest))(hn:n<1000):methA (.strm oc k) .read [.int n] J=some (.ok (.bytes (rest.take n)),J.set k (spO oc (rest.drop n))):=by
 obtain ⟨pre,rfl⟩:=hs;have hl:(pre++rest).length - rest.length=pre.length:=by rw [aL,Nat.add_sub_cancel]
 unfold spO at hσ ⊢;rw [hl] at hσ;have e:methA (.strm (pre++rest) k) .read [.int n]=Zm (pre++rest) k n:=by kernel_rfl
 rw [e];unfold Zm;rw [aC ⟨bN _,dA.mpr (aT hn (by unfold lim;decide))⟩,Int.toNat_natCast];refine (bO (m:=Ql k) (x:=pre.length) (J1:=J) ?_).trans ?_
 . show ((M.get k).bnd _) J=_;rw [bO (x:=Al.spot pre.length) (J1:=J) (by unfold M.get;rw [hσ])];rfl
 . show some (Except.ok (AV.bytes (((pre++rest).drop pre.length).take (min (pre++rest).length (pre.length+n) - pre.length))),J.set k (.spot (min (pre++rest).length (pre.length+n))))=_;rw [List.drop_left,aL,List.length_drop];rcases Nat.le_total n rest.length with h | h
   . rw [Nat.min_eq_right (Nat.add_le_add_left h _),Nat.add_sub_cancel_left,Nat.add_sub_assoc (cA _ _),Nat.sub_sub_self h]
   . rw [Nat.min_eq_left (Nat.add_le_add_left h _),Nat.add_sub_cancel_left,Nat.sub_eq_zero_of_le h,Nat.sub_zero,List.take_of_length_le (aU _),List.take_of_length_le h]
theorem Anp(hs:b::r<:+oc)(hσ:J[k]?=some (spO oc (b::r))):EvC (lv+1) 97 [.strm oc k] J (.ok (.int b.toNat)) (J.set k (spO oc r)):=
 Cs [.strm oc k] (by decide) rfl rfl ⟨_,Ad (Av (Aa rfl) rfl (l1 Af) (rd hs hσ (by decide))) (Ez (t:=true) (fl:=.ret (.int b.toNat)) (λ_=>rfl) (Aa rfl) rfl (Ck (Bp (Aa rfl) Af rfl)))⟩
theorem Awm(hσ:J[k]?=some (spO oc [])):EvC (lv+1) 97 [.strm oc k] J (.error w0) J:=by
 have h:=rd (n:=1) (List.nil_suffix (l:=oc)) hσ (by decide);rw [List.drop_nil,Fw hσ] at h;exact Aib [.strm oc k] (by decide) rfl rfl ⟨_,Ad (Av (Aa rfl) rfl (l1 Af) h) (Ar (t:=false) (Aa rfl) rfl Ah (Aay Af))⟩
noncomputable def Ln(R:IE)(fm:Str):List IS:=[.ass (.var 1) (.call (.lit (.con (.ref 97))) [(.var 0)]),.asrt (.cmp .ge (.var 1) (.lit (.int 0))),.ass (.var 2) (.meth (.var 0) .read [(.var 1)]),.ite (.cmp .eq (.blt .len [(.var 2)]) (.var 1)) [.ret R] [],.raise (.bin .mod (.lit (.str fm)) (.tup [(.var 1),(.blt .len [(.var 2)])]))]
theorem Anq{a c:Nat}{h:a=c}:((a:Int) == (c:Int))=true:=by rw [h];exact beq_self_eq_true _
theorem u8:b.toNat<1000:=aT b.toNat_lt (by decide)
theorem c_n(hF0:¬ F=233)(hF:Jb.lookup F=some ⟨1,false,[],L⟩)(hL:L=Ln R fm)(hs:b::(d++r)<:+oc)(hσ:J[k]?=some (spO oc (b::(d++r))))(hd:d.length=b.toNat)(hR:∀ {Y:Ae} {J:Sto},Y 2=some (.bytes d)->EvE (lv+1) Y R J (.ok v) J):EvC (lv+2) F [.strm oc k] J (.ok v) (J.set k (spO oc r)):=by
 have h:=rd (n:=b.toNat) (J:=J.set k (spO oc (d++r))) ((List.suffix_cons b (d++r)).trans hs) (Ax hσ) u8;rw [<- hd,List.take_left,List.drop_left,cV,hd] at h;refine Cs [.strm oc k] hF0 hF rfl ?_;show ∃ Y',EvB (lv+1) _ L J _;rw [hL];have hc:EvE (lv+1) (put (put (λi=>[AV.strm oc k][i]?) 1 (.int b.toNat)) 2 (.bytes d)) (.cmp .eq (.blt .len [(.var 2)]) (.var 1)) (J.set k (spO oc r)) (.ok (.bool ((d.length:Int) == (b.toNat:Int)))) (J.set k (spO oc r)):=Ay (Bx (l1 (Aa rfl)) rfl) (Aa rfl) rfl;exact⟨_,Ad (Ao (l1 (Aa rfl)) (Anp hs hσ)) (Aic (Ay (Aa rfl) Af rfl) (tru (aC (bN _))) (Ad (Av (Aa rfl) rfl (l1 (Aa rfl)) h) (Ez (t:=true) (fl:=.ret v) (λ_=>rfl) hc (tru (Anq (h:=hd))) (Ck (hR rfl)))))⟩
theorem Awn(hF0:¬ F=233)(hF:Jb.lookup F=some ⟨1,false,[],L⟩)(hL:L=Ln R fm)(hs:b::d<:+oc)(hσ:J[k]?=some (spO oc (b::d)))(hd:d.length<b.toNat)(hw:Ip fm b.toNat d.length=some w):EvC (lv+2) F [.strm oc k] J (.error w) (J.set k (spO oc [])):=by
 have h:=rd (n:=b.toNat) (J:=J.set k (spO oc d)) ((List.suffix_cons b d).trans hs) (Ax hσ) u8;rw [List.take_of_length_le (cT hd),dD (cT hd),cV] at h;refine Aib (n:=true) [.strm oc k] hF0 hF rfl ?_;show ∃ Y',EvB (lv+1) _ L J _;rw [hL];have hc:EvE (lv+1) (put (put (λi=>[AV.strm oc k][i]?) 1 (.int b.toNat)) 2 (.bytes d)) (.cmp .eq (.blt .len [(.var 2)]) (.var 1)) (J.set k (spO oc [])) (.ok (.bool ((d.length:Int) == (b.toNat:Int)))) (J.set k (spO oc [])):=Ay (Bx (l1 (Aa rfl)) rfl) (Aa rfl) rfl;have hm:Aei (.str fm) (.tup [.int b.toNat,.int d.length]) (J.set k (spO oc []))=some (.ok (.str w),J.set k (spO oc [])):=by
  show M.grd (decide ((0:Int)<=b.toNat/\(b.toNat:Int)<1000/\(0:Int)<=d.length/\(d.length:Int)<1000)) _ _=_;rw [aC ⟨bN _,dA.mpr u8,bN _,dA.mpr (aT hd u8)⟩];exact bO (by show M.ofOpt (Ip fm b.toNat d.length) _=_;rw [hw];rfl)
 exact⟨_,Ad (Ao (l1 (Aa rfl)) (Anp hs hσ)) (Aic (Ay (Aa rfl) Af rfl) (tru (aC (bN _))) (Ad (Av (Aa rfl) rfl (l1 (Aa rfl)) h) (Ar (t:=false) hc (fal (cL.mpr λh=>aW hd (Int.ofNat_inj.mp h))) Ah (Aay (Ba Af (Fa (l2 (Aa rfl) (Bx (l1 (Aa rfl)) rfl)) (by show 2<1000;decide)) hm)))))⟩
theorem Azh(hs:b::(d++r)<:+oc)(hσ:J[k]?=some (spO oc (b::(d++r))))(hd:d.length=b.toNat):EvC (lv+2) 111 [.strm oc k] J (.ok (.bytes d)) (J.set k (spO oc r)):=c_n (by decide) rfl rfl hs hσ hd λh=>Aa h
theorem Azi(hs:b::(d++r)<:+oc)(hσ:J[k]?=some (spO oc (b::(d++r))))(hd:d.length=b.toNat):EvC (lv+2) 104 [.strm oc k] J (.ok (mk (d.map (·.toNat)))) (J.set k (spO oc r)):=
 c_n (by decide) rfl rfl hs hσ hd λh=>Av (Aa h) rfl (l1 Af) rfl
theorem Awo(hs:b::d<:+oc)(hσ:J[k]?=some (spO oc (b::d)))(hd:d.length<b.toNat)(hw:Ip Aeg b.toNat d.length=some w):EvC (lv+2) 111 [.strm oc k] J (.error w) (J.set k (spO oc [])):=Awn (by decide) rfl rfl hs hσ hd hw
theorem Awp(hs:b::d<:+oc)(hσ:J[k]?=some (spO oc (b::d)))(hd:d.length<b.toNat)(hw:Ip Aef b.toNat d.length=some w):EvC (lv+2) 104 [.strm oc k] J (.error w) (J.set k (spO oc [])):=Awn (by decide) rfl rfl hs hσ hd hw
theorem Aij{o:Al}(h0:∃ c,J[0]?=some (.tbl c)):EvC (lv+1) 233 [.bytes oc] J (.ok (.strm oc J.length)) (J.set 0 (.tbl 1)++[spO oc oc]):=by
 obtain ⟨c,h0⟩:=h0;refine Bl 1 λm=>?_;show Lj oc J=_;unfold Lj Zn;refine (bO (x:=()) (J1:=J) ?_).trans ((bO (x:=()) (J1:=J.set 0 (.tbl 1)) rfl).trans ?_)
 . rw [bO (x:=Al.tbl c) (J1:=J) (by unfold M.get;rw [h0])];rfl
 . rw [aR];unfold spO;rw [Nat.sub_self]
end
noncomputable def szL:List Nat:=[0,1,1,2,3,5,130,255]
noncomputable def frL:List (List Nat):=[[],[],[47],[46,47],[47,46,46,47]]
noncomputable def p6:List (List Nat):=[[97],[98,47],[46,46],[46],[46,46,47,46,46],[97,45]]
noncomputable def Ata:List (List (List Nat)):=[]::(p6.map λa=>[a])++p6.flatMap λa=>p6.map λb=>[a,b]
noncomputable def Ta(s:Nat)(t:List Nat):Prop:=s<=255/\okT t=true/\cnt t<=2
theorem Awq:((szL.all λs=>decide (s<=255))&&frL.all λfr=>Ata.all λq=>okT (fr++Bm [47] q)&&decide (cnt (fr++Bm [47] q)<=2/\fr.length<=4/\(Bm [47] q).length<20))=true:=by kernel_rfl
noncomputable abbrev Ei(l:List Nat):AV:=.lst (l.map λ(n:Nat)=>AV.int n)
section
variable{lv k n m:Nat}{Y Y':Ae}{J J1:Sto}{xs:List AV}{t:List Nat}{x:Int}
theorem Aik(hj:n<xs.length)(hb:xs.length<=1000):∃ v∈xs,Lz (.tup xs) (.int n) J=some (.ok v,J):=by
 refine⟨gt xs n,aO (Dn hj),?_⟩;unfold Lz;dsimp only;rw [if_pos ⟨Int.le_trans (by decide) (bN n),Int.lt_trans (dA.mpr (cF hj hb)) (by decide)⟩];show atA n xs J=_;unfold atA;rw [Sx hj];show M.ofOpt xs[n]? J=_;rw [Dn hj];rfl
theorem Apz{l:List (List Nat)}(hj:n<l.length)(hb:l.length<=1000):∃ a∈l,Lz (.tup (l.map mk)) (.int n) J=some (.ok (mk a),J):=by
 refine e12 (Aik (xs:=l.map mk) (J:=J) (by rwa [aF]) (by rwa [aF])) λv hv h=>?_;exact e12 (bL.mp hv) λa ha e=>⟨a,ha,e▸h⟩
theorem Azj(e:IE)(he:EvE lv Y e J (.ok (.int n)) J)(hn:n<6):∃ a∈p6,EvE lv Y (.idx (.tup [(.lit (.str ⟨#[97]⟩)),(.lit (.str ⟨#[98,47]⟩)),(.lit (.str ⟨#[46,46]⟩)),(.lit (.str ⟨#[46]⟩)),(.lit (.str ⟨#[46,46,47,46,46]⟩)),(.lit (.str ⟨#[97,45]⟩))]) e) J (.ok (mk a)) J:=
 e12 (Apz (l:=p6) (J:=J) hn (by decide)) λa ha h=>⟨a,ha,Bp (Bl 10 λ_=>rfl) he h⟩
theorem Abe(h:Y 1=some (.int n))(hm:0<m):EvE lv Y (.bin .mod (.var 1) (.lit (.int m))) J (.ok (.int (n % m:Nat))) J:=Ba (Aa h) Af (by
 unfold Iq Aei;dsimp only;rw [aC (Int.natCast_pos.mpr hm)];rfl)
theorem Abf{q:List IS}{r:XR}(h:Y 1=some (.int n))(hm:0<m/\m<100)(k:EvB lv (put Y 1 (.int (n / m:Nat))) q J r):EvB lv Y (.aug 1 .fdiv (.lit (.int m))::q) J r:=Aba h Af (by
 unfold Vz Aej Qj;dsimp only;rw [aC ⟨Int.natCast_pos.mpr hm.1,Int.lt_trans (dA.mpr hm.2) (by decide)⟩];rfl) k
theorem Anr{a b:Nat}(ha:a<1000000)(hb:b<1000000):Iq .mul (.int a) (.int b) J=some (.ok (.int (a*b:Nat)),J):=by
 unfold Iq Aeh;dsimp only;rw [aC ⟨Int.lt_of_lt_of_le (by decide) (bN a),Int.lt_trans (dA.mpr ha) (by decide),Int.lt_of_lt_of_le (by decide) (bN b),Int.lt_trans (dA.mpr hb) (by decide)⟩];rfl
structure Azk(J:Sto)(c:Nat)(sv tv:AV)(rest:List AV)(Y:Ae)(J':Sto)(ps:List (List Nat))(y:Nat):Prop where
 s:J'=J++[.lst (ps.map mk)]
 a:∀ a∈ps,a∈p6
 l:ps.length+rest.length=c
 v:Y 1=some (.int y)/\Y 2=some sv/\Y 3=some tv/\Y 5=some (.ref J.length)
theorem Atb:∀ {ps:List (List Nat)},ps.length<=2->(∀ a∈ps,a∈p6)->ps∈Ata
 | [],_,_=>.head _
 | [a],_,h=>aG _ (.tail _ (bY (f:=λa=>[a]) (h a (.head _))))
 | [a,b],_,h=>aI _ (List.mem_flatMap.mpr ⟨a,h a (.head _),bY (f:=λb=>[a,b]) (h b (.tail _ (.head _)))⟩)
 | _::_::_::r,h,_=>absurd h (by simp)
theorem Kg{I:Sto->Prop}:Jd I (.rng 0 n) ((List.range' 0 n).map λ(i:Nat)=>AV.int i):=by
 have:=Anh (I:=I) n 0
 rwa [Nat.zero_add] at this
theorem Abg{e:IE}(he:EvE lv Y e J (.ok (.int n)) J)(hn:n<1000):EvS lv Y (.val (.blt .range [e])) J (.rng 0 n) J:=Dd (Bx (l1 he) rfl) (by
 unfold Mr small;dsimp only;rw [aC ⟨by decide,by decide,Int.lt_of_lt_of_le (by decide) (bN n),Int.lt_trans (dA.mpr hn) (by decide)⟩];rfl)
theorem Atc:∃ s t ps,EvC (lv+1) 240 [.int x] J (.ok (.tup [.int (s:Nat),mk t])) (J++[.lst ps])/\Ta s t:=by
 obtain ⟨y,hy⟩:∃ y:Nat,EvE lv (λi=>[AV.int x][i]?) (.bin .add (.bin .mul (.bin .mod (.blt .abs [(.var 0)]) (.lit (.int 99991))) (.lit (.int 977))) (.lit (.int 61))) J (.ok (.int y)) J:=
  ⟨x.natAbs % 99991*977+61,Ba (Ba (x:=.int (x.natAbs % 99991:Nat)) (Ba (Bx (l1 (Aa rfl)) rfl) Af rfl) Af (Anr (b:=977) (aT (Nat.mod_lt _ (by decide)) (show 99991<1000000 by decide)) (by decide))) Af rfl⟩
 have ht:=aK.mp Awq;refine e12 (Aik (xs:=szL.map λ(n:Nat)=>AV.int n) (n:=y % 8) (J:=J) (Nat.mod_lt _ (by decide)) (by decide)) λvs hvs hs=>?_;refine e12 (bL.mp hvs) λs hs1 hs2=>?_;refine e12 (Apz (l:=frL) (n:=y / 8 % 5) (J:=J) (Nat.mod_lt _ (by decide)) (by decide)) λfr hfr hf=>?_;have hc:y / 8 / 5 % 3<3:=Nat.mod_lt _ (by decide);have L:=Hn (lv:=lv) (I:=λ_=>True) (Inv:=λrest Y J'=>∃ ps y',Azk J (y / 8 / 5 % 3) vs (mk fr) rest Y J' ps y') (t:=.var 6) (q:=Ahl) (λ_ _ _ _=>trivial) (λv rest Y J' i=>e21 i λps y' N=>by
  refine e12 (Azj (lv:=lv) (Y:=put Y 6 v) (J:=J') _ (Abe (m:=6) N.v.1 (by decide)) (Nat.mod_lt _ (by decide))) λa ha he=>?_;have hσ:J'[J.length]?=some (.lst (ps.map mk)):=N.s▸Co;have hl:=N.l;rw [bE] at hl;have hp:=Kb (x:=mk a) hσ (by rw [aF];exact lec (fk [y / 8 / 5 % 3,ps.length,rest.length] [(1,(.a (.v 0) (.n 1)),(.n 3)),(1,(.a (.v 1) (.a (.v 2) (.n 1))),(.v 0)),(1,(.a (.n 1000) (.n 1)),(.v 1))] rfl hc (aD hl)));rw [N.s,Ib] at hp;exact⟨_,rfl,.nxt,_,_,.inl rfl,Bz (Av (Aa N.v.2.2.2) (Fx hσ rfl) (l1 he) (N.s▸hp)) (Abf (m:=6) N.v.1 (by decide) Ah),ps++[a],y' / 6,by rw [bP];rfl,λb hb=>(aZ.mp hb).elim (N.a b) λe=>aQ.mp e▸ha,by rw [aL,dL];exact eqc (fk [ps.length,rest.length,y / 8 / 5 % 3] [(1,(.a (.v 0) (.a (.v 1) (.n 1))),(.v 2)),(1,(.a (.v 2) (.n 1)),(.a (.a (.v 0) (.n 1)) (.v 1)))] rfl (aD hl)) (fk [y / 8 / 5 % 3,ps.length,rest.length] [(1,(.v 0),(.a (.v 1) (.a (.v 2) (.n 1)))),(1,(.a (.a (.a (.v 1) (.n 1)) (.v 2)) (.n 1)),(.v 0))] rfl (aD (Eq.symm hl))),rfl,N.v.2.1,N.v.2.2.1,N.v.2.2.2⟩) Kg
  (Y:=put (put (put (put (put (put (put (put (λi=>[AV.int x][i]?) 1 (.int y)) 2 vs) 1 (.int (y / 8:Nat))) 3 (mk fr)) 1 (.int (y / 8 / 5:Nat))) 4 (.int (y / 8 / 5 % 3:Nat))) 1 (.int (y / 8 / 5 / 3:Nat))) 5 (.ref J.length)) (J:=J++[.lst []]) ⟨[],y / 8 / 5 / 3,rfl,(λ_ h=>nomatch h),by rw [aF,List.length_range'];exact Nat.zero_add _,rfl,rfl,rfl,rfl⟩
 refine e22 L λY' J' hF i=>e21 i λps y' N=>?_;have hps:ps∈Ata:=Atb (Nat.le_of_lt_succ (aV (aD N.l) hc)) N.a;have hq:=aK.mp (bI.mp (bI.mp ht.2 fr hfr) ps hps);refine e03 (aB hq.2) λq1 q2 q3=>?_;refine⟨s,fr++Bm [47] ps,ps.map mk,?_,aB (bI.mp ht.1 s hs1),hq.1,q1⟩;have hj:methA (mk [47]) .join [.ref J.length] J'=some (.ok (mk (Bm [47] ps)),J'):=by
  show ((Bv (.ref J.length)).bnd (Tt [47])) J'=_;rw [bO (Cg (xs:=ps.map mk) (N.s▸Co))];show (match Fc (ps.map mk) with | some l=>_ | none=>_:M AV) J'=_;rw [Mm];show M.grd (decide ((Bm [47] ps).length<lim)) _ J'=_;rw [aC (aT q3 (by unfold lim;decide))];rfl
 rw [<- N.s];subst hs2;exact Cs [.int x] (by decide) rfl rfl ⟨_,Ad hy (Ad (Bp (Bl 12 λ_=>rfl) (Abe (m:=8) rfl (by decide)) hs) (Abf (m:=8) rfl (by decide) (Ad (Bp (Bl 12 λ_=>rfl) (Abe (m:=5) rfl (by decide)) hf) (Abf (m:=5) rfl (by decide) (Ad (Abe (m:=3) rfl (by decide)) (Abf (m:=3) rfl (by decide) (Ad Jc
  (Dc (Db (Abg (Aa rfl) (aT hc (by decide))) rfl hF) (Ck (Fa (l2 (Aa N.v.2.1) (Ba (Aa N.v.2.2.1) (Av Af rfl (l1 (Aa N.v.2.2.2)) hj) (Je (cF (Nat.add_lt_add_of_le_of_lt q2 q3) (by decide))))) (by show 2<1000;decide)))))))))))⟩
end
noncomputable abbrev Fs:Type:=List (Nat×List Nat)
noncomputable def fAV(p:Nat×List Nat):AV:=.tup [.int p.1,mk p.2]
noncomputable def Dz(s:Nat)(t:List Nat):List Nat:=s::t.length::t++List.replicate (s % 3) 200
noncomputable def Gy:Fs->List Nat:=List.rec [] λp _ e=>(Dz p.1 p.2).length::Dz p.1 p.2++e
noncomputable def Hq(p:Nat×List Nat):Prop:=p.1<=255/\okT p.2=true
section
variable{lv k n m:Nat}{Y Y':Ae}{J J1:Sto}{xs:List AV}{t a b:List Nat}{p:Nat×List Nat}{fs:Fs}
theorem Gr(h:okT t=true):(Aj 47 t).all (λc=>Ea.contains c)=true/\(∀ c∈t,c<256)/\t.length<=20/\(t.head?=some 47->t.tail.head?≠some 47):=by
 refine e02 (aK.mp h) λh h4=>e02 (aK.mp h) λh h3=>e02 (aK.mp h) λh1 h2=>?_;exact⟨h1,λc hc=>aB (bI.mp h2 c hc),aB h3,aB h4⟩
theorem Tb(h:Hq p):(Dz p.1 p.2).length<=24:=by
 have:=(Gr h.2).2.2.1;show (p.2++List.replicate (p.1 % 3) 200).length+1+1<=24;rw [aL,dT];have:=Nat.mod_lt p.1 (show 0<3 by decide);omega
theorem Atd(h:Hq p):∀ c∈Dz p.1 p.2,c<256:=λc hc=>by
 rcases aM.mp hc with h1 | hc
 . rw [h1];exact Nat.lt_succ_of_le h.1
 . rcases aM.mp hc with h1 | hc
   . rw [h1];exact aV (Gr h.2).2.2.1 (by decide)
   . rcases aZ.mp hc with hc | hc
     . exact (Gr h.2).2.1 c hc
     . rw [List.eq_of_mem_replicate hc];decide
theorem Hr(h:a.length+b.length<1000):Vy (Ei a) (Ei b) J=some (.ok (Ei (a++b)),J):=by
 refine (Kf (by rwa [aF,aF])).trans ?_;rw [<- bP]
theorem Ate(hF:Fr Y)(h:Y 4=some (mk t))(hl:t.length<1000):EvE lv Y (.comp false (.blt .ord [(.var 101)]) [101] (.val (.var 4)) []) J (.ok (Ei t)) J:=by
 have C:=Zb (lv:=lv) (Y:=Y) (J:=J) (I:=λ_=>True) (elt:=.blt .ord [(.var 101)]) (ts:=[101]) (ifs:=[]) (fx:=λc=>mk [c]) (gy:=λ(c:Nat)=>AV.int c) (t:=λ_=>true) trivial t (acc:=[]) (Adw t) (aV (aD (Nat.zero_add _)) hl)
  λc _=>⟨_,rfl,Qc,λ_=>Bx (l1 (Aa rfl)) rfl⟩
 rw [List.nil_append,List.filter_eq_self.mpr (λ_ _=>rfl)] at C;exact Ho hF rfl (Dd (Aa h) rfl) rfl C false
theorem Ant{c:Nat}(hn:n<64):Aeh (Ei [c]) (.int n) J=some (.ok (Ei (List.replicate n c)),J):=by
 show M.grd (decide (1=1/\(0:Int)<=n/\(n:Int)<64)) (M.ret (AV.lst (List.replicate (n:Int).toNat [AV.int c]).flatten)) J=_;rw [aC ⟨rfl,bN n,dA.mpr hn⟩,Int.toNat_natCast];refine aJ (λl=>some (Except.ok (AV.lst l),J)) ?_
 induction n with
 | zero=>rfl
 | succ n ih=>rw [List.replicate_succ,List.flatten_cons,ih (Nat.lt_of_succ_lt hn),List.replicate_succ,cP];rfl
theorem Ail(hF:Fr Y)(hp:Hq p)(h2:Y 2=some (Ei a))(ha:a.length+(Dz p.1 p.2).length<900):∃ Y',EvB lv (Ev Y [3,4] [.int p.1,mk p.2]) Yp J (.ok .nxt,Y',J)/\Fr Y'/\Y' 1=Y 1/\Y' 2=some (Ei (a++((Dz p.1 p.2).length::Dz p.1 p.2))):=by
 have ht:=(Gr hp.2).2.2.1;have hm:=Nat.mod_lt p.1 (show 0<3 by decide);have e1:EvE lv (Ev Y [3,4] [.int p.1,mk p.2]) (.bin .add (.bin .add (.lst false [(.var 3),(.blt .len [(.var 4)])]) (.comp false (.blt .ord [(.var 101)]) [101] (.val (.var 4)) [])) (.bin .mul (.lst false [(.lit (.int 200))]) (.bin .mod (.var 3) (.lit (.int 3))))) J (.ok (Ei (Dz p.1 p.2))) J:=by
  refine Ba (x:=Ei (p.1::p.2.length::p.2)) (Ba (x:=Ei [p.1,p.2.length]) (Dx (l2 (Aa rfl) (Bx (l1 (Aa rfl)) rfl)) (by show 2<1000;decide)) (Ate hF rfl (aV ht (by decide))) (Hr (a:=[p.1,p.2.length]) (by show 2+_<1000;exact ltc (fk [p.snd.length] [(1,(.v 0),(.n 20)),(1,(.n 1000),(.a (.n 2) (.v 0)))] rfl ht))))
   (Ba (x:=Ei [200]) (y:=.int (p.1 % 3:Nat)) (Dx (l1 Af) (by show 1<1000;decide)) (Ba (Aa rfl) Af rfl) (Ant (aT hm (by decide)))) (Hr (by rw [dT];show p.2.length+1+1+_<1000;exact ltc (fk [p.snd.length,p.fst % 3] [(1,(.v 0),(.n 20)),(1,(.a (.v 1) (.n 1)),(.n 3)),(1,(.n 1000),(.a (.a (.a (.v 0) (.n 1)) (.n 1)) (.v 1)))] rfl ht hm)))
 have e2:EvE lv (put (Ev Y [3,4] [.int p.1,mk p.2]) 5 (Ei (Dz p.1 p.2))) (.blt .len [(.var 5)]) J (.ok (.int ((Dz p.1 p.2).length:Nat))) J:=Bx (l1 (Aa rfl)) (by show some (Except.ok (AV.int ((List.map _ (Dz p.1 p.2)).length:Nat)),J)=_;rw [aF]);refine⟨_,Ad e1 (Ad (Ba (x:=Ei (a++[(Dz p.1 p.2).length])) (Ba (Aa h2) (Dx (l1 e2) (by show 1<1000;decide)) (Hr (b:=[(Dz p.1 p.2).length]) (by show _+1<1000;exact ltc (fk [a.length,(Dz p.fst p.snd).length] [(1,(.a (.a (.v 0) (.v 1)) (.n 1)),(.n 900)),(1,(.n 1000),(.a (.v 0) (.n 1)))] rfl ha)))) (Aa rfl) (Hr (by rw [aL];show _+1+_<1000;exact ltc (fk [a.length,(Dz p.fst p.snd).length] [(1,(.a (.a (.v 0) (.v 1)) (.n 1)),(.n 900)),(1,(.n 1000),(.a (.a (.v 0) (.n 1)) (.v 1)))] rfl ha)))) Ah),hF,rfl,?_⟩;rw [<- List.append_cons];rfl
theorem Vp:∀ l:List Nat,De (l.map λ(n:Nat)=>AV.int n)=some (l.map λ(n:Nat)=>(n:Int)):=λl=>by
 induction l with
 | nil=>rfl
 | cons c r ih=>show (De (r.map _)).map _=_;rw [ih];rfl
theorem Aim(h:∀ c∈a,c<256):Aby .bytes [Ei a] J=some (.ok (.bytes (a.map UInt8.ofNat)),J):=by
 show (match De (a.map λ(n:Nat)=>AV.int n) with | some is=>_ | none=>_:M AV) J=_;rw [Vp];dsimp only;rw [if_pos (bI.mpr λi hi=>?_),List.map_map]
 . rfl
 . refine e12 (bL.mp hi) λc hc e=>?_;rw [<- e,aC (bN c)];exact aC (dA.mpr (h c hc))
theorem Atf:∀ {fs:Fs},(∀ p∈fs,Hq p)->∀ c∈Gy fs,c<256:=λ{fs}=>by
 induction fs with
 | nil=>exact λ_ _ h=>nomatch h
 | cons p r ih=>
  intro h c hc;rcases aM.mp hc with h1 | hc
  . rw [h1];exact aV (Tb (h p (.head _))) (by decide)
  . exact (aZ.mp hc).elim (Atd (h p (.head _)) c) (ih (λp hp=>h p (.tail _ hp)) c)
theorem Anu:∀ {fs:Fs},(∀ p∈fs,Hq p)->(Gy fs).length<=25*fs.length:=λ{fs}=>by
 induction fs with
 | nil=>exact λ_=>aU _
 | cons p r ih=>
  intro h;show (Dz p.1 p.2++Gy r).length+1<=_;rw [aL,bE];have:=Tb (h p (.head _));have:=ih λp hp=>h p (.tail _ hp);omega
structure Azl(tl:List Nat)(E:List Nat)(J:Sto)(rest:List AV)(Y:Ae)(J':Sto)(acc:List Nat)(fs:Fs):Prop where
 r:rest=fs.map fAV
 e:acc++Gy fs=E
 a:∀ p∈fs,Hq p
 s:J'=J
 f:Fr Y
 v:Y 1=some (Ei tl)/\Y 2=some (Ei acc)
theorem Ain{tl:List Nat}(hσ:J[k]?=some (.lst (fs.map fAV)))(hs:∀ p∈fs,Hq p)(hn:fs.length<=30)(ht:tl.length<100/\∀ c∈tl,c<256):EvC (lv+1) 245 [.ref k,Ei tl] J (.ok (.bytes ((Gy fs++tl).map UInt8.ofNat))) J:=by
 have hE:=Anu hs;have L:=Hn (lv:=lv) (I:=λJ=>J[k]?=some (.lst (fs.map fAV))) (Inv:=λrest Y J'=>∃ acc fs',Azl tl (Gy fs) J rest Y J' acc fs') (t:=.tup [3,4]) (q:=Yp) (λ_ _ _ i=>e21 i λacc fs' N=>N.s▸hσ) (λx rest Y J' i=>e21 i λacc fs' N=>by
  match fs',N with
  | [],N=>exact absurd N.r (by simp)
  | p::fs',N=>
   refine cnE N.r λhx hr=>?_;have he:=N.e;have hlen:=aJ List.length he;rw [aL] at hlen;have hlen:acc.length+((Dz p.1 p.2++Gy fs').length+1)=(Gy fs).length:=hlen;rw [aL] at hlen;refine e14 (Ail (lv:=lv) (J:=J') N.f (N.a p (.head _)) N.v.2 (by omega)) λY' hb h1 h2 h3=>⟨Ev Y [3,4] [.int p.1,mk p.2],by rw [hx];rfl,.nxt,Y',J',.inl rfl,hb,_,fs',hr,?_,λq hq=>N.a q (.tail _ hq),N.s,h1,h2.trans N.v.1,h3⟩;rw [bC];exact he) (Fy (k:=k) (fs.map fAV) 0 rfl)
  (Y:=put (λi=>[.ref k,Ei tl][i]?) 2 (.lst [])) (J:=J) ⟨[],fs,rfl,rfl,hs,rfl,by rfl,rfl,rfl⟩
 refine e22 L λY' J' hF i=>e21 i λacc fs' N=>?_;have hfs:fs'=[]:=by cases fs' with | nil=>rfl | cons c r=>exact absurd N.r (by simp)
 have he:=N.e;rw [hfs] at he;have he:acc++[]=Gy fs:=he;rw [bW] at he;have hS:=N.s;subst hS;have hv:=N.v.2;rw [he] at hv;exact Cs [.ref k,Ei tl] (by decide) rfl rfl ⟨_,Ad (Dx Fv (by show 0<1000;decide)) (Dc (Db (Dd (Aa rfl) (by show ((M.get k).bnd _) J'=_;rw [bO (x:=Al.lst (fs.map fAV)) (J1:=J') (by unfold M.get;rw [hσ])];rfl)) rfl hF) (Ck (Bx (l1 (Ba (Aa hv) (Aa N.v.1) (Hr (by omega)))) (Aim λc hc=>(aZ.mp hc).elim (Atf hs c) (ht.2 c)))))⟩
end
noncomputable def wB(j:Nat):Str:=(Ip Aeg (9:Nat) j).getD w0
noncomputable def wS(j:Nat):Str:=(Ip Aef (7:Nat) j).getD w0
noncomputable def rB:IE:=.tup [(.bin .add (.lst false [(.lit (.int 9))]) (.bin .mul (.lst false [(.lit (.int 97))]) (.var 1))),(.bin .add (.bin .add (.lit (.str (Str.ofString "expected 9 bytes in a bytes1, but only "))) (.blt .str [(.var 1)])) (.lit (.str (Str.ofString " remain")))),(.lit (.bytes []))]
noncomputable def rS1:IE:=.bin .add (.bin .add (.lit (.str (Str.ofString "expected 7 bytes in a string1, but only "))) (.blt .str [(.var 1)])) (.lit (.str (Str.ofString " remain")))
noncomputable def rS2:IE:=.tup [(.bin .add (.lst false [(.bin .add (.var 1) (.lit (.int 2))),(.lit (.int 255)),(.lit (.int 7))]) (.bin .mul (.lst false [(.lit (.int 97))]) (.bin .add (.var 1) (.lit (.int 8))))),(.var 2),(.lit (.bytes [97,97,97,97,97,97,97,97]))]
noncomputable def tB(j:Nat):List Nat:=9::List.replicate j 97
noncomputable def tS(j:Nat):List Nat:=(j+2)::255::7::List.replicate (j+8) 97
theorem tlB:(λ(m lv:Nat) (Y:Ae) (J:Sto)=>(List.range 9).map λj=>(evA Ai (m+20) lv (put Y 1 (.int (j:Nat))) rB J,Ip Aeg (9:Nat) j,(tB j).all λc=>decide (c<256),decide ((tB j).length<100)))=λm lv Y J=>(List.range 9).map λj=>(some (.ok (.tup [Ei (tB j),.str (wB j),.bytes []]),J),some (wB j),true,true):=by kernel_rfl
theorem tlS:(λ(m lv:Nat) (Y:Ae) (J:Sto)=>(List.range 7).map λj=>(evA Ai (m+20) lv (put Y 1 (.int (j:Nat))) rS1 J,evA Ai (m+20) lv (put (put Y 1 (.int (j:Nat))) 2 (.str (wS j))) rS2 J,Ip Aef (7:Nat) j,(tS j).all λc=>decide (c<256),decide ((tS j).length<100))) =
 λm lv Y J=>(List.range 7).map λj=>(some (.ok (.str (wS j)),J),some (.ok (.tup [Ei (tS j),.str (wS j),.bytes (List.replicate 8 97)]),J),some (wS j),true,true):=by kernel_rfl
inductive Eb:List Nat->Str->Oc->Prop
 | t0:Eb [] w0 []
 | t1 (j:Nat):j<9->Ip Aeg (9:Nat) j=some (wB j)->Eb (tB j) (wB j) []
 | t2 (j:Nat):j<7->Ip Aef (7:Nat) j=some (wS j)->Eb (tS j) (wS j) (List.replicate 8 97)
section
variable{lv:Nat}{J:Sto}{x:Int}
theorem md{a b:Nat}(hb:0<b):∃ j:Nat,j<b/\x % (b:Int)=j:=⟨(x % b).toNat,(Int.toNat_lt (Int.emod_nonneg _ (Int.ne_of_gt (Int.natCast_pos.mpr hb)))).mpr (Int.emod_lt_of_pos _ (Int.natCast_pos.mpr hb)),(Int.toNat_of_nonneg (Int.emod_nonneg _ (Int.ne_of_gt (Int.natCast_pos.mpr hb)))).symm⟩
theorem Atg:∃ T W R,EvC (lv+1) 252 [.int x] J (.ok (.tup [Ei T,.str W,.bytes R])) J/\Eb T W R/\T.length<100/\∀ c∈T,c<256:=by
 have m3:∀ {n:Nat} (Y:Ae),Y 0=some (.int x)->EvE lv Y (.cmp .eq (.bin .mod (.var 0) (.lit (.int 3))) (.lit (.int n))) J (.ok (.bool (x % 3 == (n:Int)))) J:=λY h=>Ay (Ba (Aa h) Af rfl) Af rfl;refine e12 (md (x:=x) (a:=0) (show 0<3 by decide)) λi hi e=>?_;have e:x % 3=(i:Int):=e
 match i,hi with
 | 0,_=>
  refine⟨[],w0,[],Cs [.int x] (by decide) rfl rfl ⟨_,Ad (Ba (Aa rfl) Af rfl) (Ez (t:=true) (fl:=.ret _) (λ_=>rfl) (m3 _ rfl (n:=0)) (tru (by rw [e];rfl)) (Ck (Bl 10 λ_=>rfl)))⟩,.t0,by decide,λ_ h=>nomatch h⟩
 | 1,_=>
  refine e12 (md (x:=x / 3) (a:=0) (show 0<9 by decide)) λj hj ej=>?_;have T:=λm=>List.map_inj_left.mp (congrFun (congrFun (congrFun (congrFun tlB m) lv) (put (λi=>[AV.int x][i]?) 1 (.int (x / 3)))) J) j (List.mem_range.mpr hj);have T0:=aJ (·.2) (T 0);refine⟨tB j,wB j,[],Cs [.int x] (by decide) rfl rfl ⟨_,Ad (Ba (Aa rfl) Af rfl) (Ar (t:=false) (m3 _ rfl (n:=0)) (fal (by rw [e];rfl)) Ah (Ez (t:=true) (fl:=.ret _) (λ_=>rfl) (m3 _ rfl (n:=1)) (tru (by rw [e];rfl)) (Ad (Ba (x:=.int (x / 3)) (y:=.int 9) (Aa rfl) Af (by show some (Except.ok (AV.int (x / 3 % 9)),J)=_;rw [show x / 3 % 9=(j:Int) from ej])) (Ck (Bl 20 λm=>aJ (·.1) (T m))))))⟩,.t1 j hj (aJ (·.1) T0),aB (aJ (·.2.2) T0),λc hc=>aB (bI.mp (show (tB j).all (λc=>decide (c<256))=true from aJ (·.2.1) T0) c hc)⟩
 | 2,_=>
  refine e12 (md (x:=x / 3) (a:=0) (show 0<7 by decide)) λj hj ej=>?_;have T:=λm=>List.map_inj_left.mp (congrFun (congrFun (congrFun (congrFun tlS m) lv) (put (λi=>[AV.int x][i]?) 1 (.int (x / 3)))) J) j (List.mem_range.mpr hj);have T0:=aJ (·.2.2) (T 0);refine⟨tS j,wS j,_,Cs [.int x] (by decide) rfl rfl ⟨_,Ad (Ba (Aa rfl) Af rfl) (Ar (t:=false) (m3 _ rfl (n:=0)) (fal (by rw [e];rfl)) Ah (Ar (t:=false) (m3 _ rfl (n:=1)) (fal (by rw [e];rfl)) Ah (Ad (Ba (x:=.int (x / 3)) (y:=.int 7) (Aa rfl) Af (by show some (Except.ok (AV.int (x / 3 % 7)),J)=_;rw [show x / 3 % 7=(j:Int) from ej])) (Ad (Bl 20 λm=>aJ (·.1) (T m)) (Ck (Bl 20 λm=>aJ (·.2.1) (T m)))))))⟩,.t2 j hj (aJ (·.1) T0),aB (aJ (·.2.2) T0),λc hc=>aB (bI.mp (show (tS j).all (λc=>decide (c<256))=true from aJ (·.2.1) T0) c hc)⟩
 | _+3,h=>exact absurd h (by omega)
end
noncomputable abbrev Dl:Type:=List (Pl×Int)
noncomputable def pS(p:Pl):Str:=⟨(Ak p).toArray⟩
noncomputable def dE(e:Pl×Int):Str×AV:=(pS e.1,.int e.2)
noncomputable def Ew(p:Pl)(s:Int):Dl->Dl:=List.rec [(p,s)] λe r ih=>if e.1=p then (e.1,e.2+s)::r else e::ih
noncomputable def ups(s:Int)(j:Nat):Dl->Pl->Dl:=Nat.rec (λD _=>D) (λ_ go D p=>go (Ew p.dropLast s D) p.dropLast) j
noncomputable def Kh(D:Dl)(p:Pl)(s:Int):Dl:=ups s p.length (Ew p s D) p
noncomputable def Gs(fs:Fs):Pl->Dl->Dl:=List.rec (λ_ D=>D) (λx _ go f D=>go (Bd f x.2).dropLast (Kh D (Bd f x.2) x.1)) fs
noncomputable def Gw(fs:Fs):Pl->Prop:=List.rec (λ_=>True) (λx _ go f=>Bh 2 f/\Hq x/\Bh 4 (Bd f x.2)/\go (Bd f x.2).dropLast) fs
noncomputable def DOk(D:Dl):Prop:=∀ e∈D,Bh 4 e.1
noncomputable def pre(f:Pl):List Nat:=if f=[] then [] else Bm [47] f++[47]
theorem Azm:(λt:List Nat=>(upP 2).map λf=>Aj 47 (pre f++t))=λt=>(upP 2).map λf=>f++Aj 47 t:=by kernel_rfl
theorem Azn:((upP 2).all λf=>decide (f.foldl Cb []=f/\(f.all λc=>Ea.contains c)=true/\(pre f).length<=10/\¬ (pre f).head?=some 47))=true:=by kernel_rfl
section
variable{lv k n ks kd:Nat}{Y Y':Ae}{J J1 J0:Sto}{t y:List Nat}{p f g:Pl}{D:Dl}{OC rest:Oc}{s:Int}{x:Nat×List Nat}
theorem Qg:∀ t:List Nat,(Aj 47 t).length<=t.length+1:=λt=>by
 induction t with
 | nil=>exact aU _
 | cons c r ih=>
  unfold Aj;split
  . exact cJ ih
  . split
    . rename_i h;rw [h] at ih;exact Nat.le_succ_of_le ih
    . exact cJ (bV _)
theorem Anv(hf:Bh 2 f)(ht:okT t=true):∃ y,(if t.head?=some 47 then t else if (Ak f).getLast?=some 47 then Ak f++t else Ak f++47::t)=47::y/\y.head?≠some 47/\(Aj 47 y).all (λc=>Ea.contains c)=true/\(Aj 47 y).length<=100/\(Aj 47 y).foldl Cb []=Bd f t/\y.length<100:=by
 refine e04 (Gr ht) λt1 t2 t3 t4=>?_;have hl:=Qg t;by_cases z:t.head?=some 47
 . obtain ⟨r,rfl⟩:∃ r,t=47::r:=by
    cases t with
    | nil=>exact nomatch z
    | cons c r=>exact⟨r,by rw [bG z]⟩
   exact⟨r,if_pos rfl,t4 rfl,t1,bA (Nat.le_of_succ_le hl) (bA (cJ t3) (by decide)),rfl,cF t3 (by decide)⟩
 . have hm:=Zc 2 hf;have h1:Aj 47 (pre f++t)=f++Aj 47 t:=List.map_inj_left.mp (congrFun Azm t) f hm;refine e04 (aB (bI.mp Azn f hm)) λb1 b2 b3 b4=>⟨pre f++t,?_,?_,?_,?_,?_,?_⟩
   . rw [if_neg z];unfold pre;by_cases w:f=[]
     . rw [if_pos ((Dy (hf.mono (by decide))).2.2.2.2.1.mpr w),if_pos w,w];rfl
     . rw [if_neg (λh=>w ((Dy (hf.mono (by decide))).2.2.2.2.1.mp h)),if_neg w];show 47::Bm [47] f++47::t=_;rw [bC];rfl
   . cases hp:pre f with
     | nil=>exact z
     | cons c r=>rw [hp] at b4;exact b4
   . rw [h1,List.all_append,b2,t1];rfl
   . rw [h1,aL];exact bA (Nat.add_le_add hf.1 (bA hl (cJ t3))) (by decide)
   . rw [h1,List.foldl_append,b1];unfold Bd;rw [if_neg z]
   . rw [aL];exact aV (Nat.add_le_add b3 t3) (by decide)
theorem Abh(hp:Bh 4 p)(hq:Bh 4 g):(pS p == pS g)=decide (p=g):=by
 unfold pS;rw [Cv];refine bU.mpr ⟨λh=>?_,λh=>h▸rfl⟩;rw [<- (Dy hp).2.2.1,h,(Dy hq).2.2.1]
theorem Awr(hp:Bh 4 p):DOk D->∃ v,(Be (D.map dE) (pS p)).getD (.int 0)=.int v/\Hb (D.map dE) (pS p) (.int (v+s))=(Ew p s D).map dE:=by
 induction D with
 | nil=>exact λ_=>⟨0,rfl,by rw [Int.zero_add];rfl⟩
 | cons e r ih=>
  intro h;have he:=h e (.head _);show ∃ v,(match pS p == pS e.1 with | true=>some (AV.int e.2) | false=>Be (r.map dE) (pS p)).getD (.int 0)=.int v/\(if (pS e.1 == pS p)=true then (pS e.1,AV.int (v+s))::r.map dE else dE e::Hb (r.map dE) (pS p) (.int (v+s)))=(if e.1=p then (e.1,e.2+s)::r else e::Ew p s r).map dE;rw [Abh hp he,Abh he hp];by_cases z:e.1=p
  . rw [aC z,aC z.symm,if_pos z];exact⟨e.2,rfl,rfl⟩
  . rw [aP z,aP (Ne.symm z),if_neg z];exact e12 (ih λq hq=>h q (.tail _ hq)) λv h1 h2=>⟨v,h1,aJ (dE e::·) h2⟩
theorem Mn:(Ew p s D).length<=D.length+1:=by
 induction D with
 | nil=>exact aU _
 | cons e r ih=>
  show (if e.1=p then (e.1,e.2+s)::r else e::Ew p s r).length<=_;split
  . exact Nat.le_succ _
  . exact cJ ih
theorem Ky(hp:Bh 4 p)(h:DOk D):DOk (Ew p s D):=by
 induction D with
 | nil=>exact λe he=>by rw [aQ.mp he];exact hp
 | cons e r ih=>
  intro q hq;have hq:q∈(if e.1=p then (e.1,e.2+s)::r else e::Ew p s r):=hq;split at hq
  . rcases aM.mp hq with h1 | h1
    . rw [h1];exact h e (.head _)
    . exact h q (.tail _ h1)
  . rcases aM.mp hq with h1 | h1
    . rw [h1];exact h e (.head _)
    . exact ih (λq hq=>h q (.tail _ hq)) q h1
theorem Aws{q:List IS}{r:XR}(hp:Bh 4 p)(hD:DOk D)(hl:D.length<1000)(h2:Y 2=some (.ref kd))(h7:Y 7=some (mk (Ak p)))(h6:Y 6=some (.int s))(hσ:J[kd]?=some (.dict (D.map dE)))(k:EvB lv Y q (J.set kd (.dict ((Ew p s D).map dE))) r) :
 EvB lv Y (.ass (.idx (.var 2) (.var 7)) (.bin .add (.meth (.var 2) .get [(.var 7),(.lit (.int 0))]) (.var 6))::q) J r:=by
 refine e12 (Awr (s:=s) hp hD) λv h1 h3=>?_;have hk:Gd (.ref kd) J=some (.ok (.dict kd (D.map dE)),J):=by
  show ((M.get kd).bnd _) J=_;rw [bO (x:=Al.dict (D.map dE)) (J1:=J) (by unfold M.get;rw [hσ])];rfl
 have hg:methA (.ref kd) .get [mk (Ak p),.int 0] J=some (.ok (.int v),J):=by
  show ((Gd (.ref kd)).bnd _) J=_;rw [bO hk];exact aJ (λa=>some (Except.ok a,J)) h1
 have hs:Gb (.ref kd) (mk (Ak p)) (.int (v+s)) J=some (.ok (),J.set kd (.dict ((Ew p s D).map dE))):=by
  show ((M.get kd).bnd _) J=_;rw [bO (x:=Al.dict (D.map dE)) (J1:=J) (by unfold M.get;rw [hσ])];show M.grd (decide ((D.map dE).length<lim)) (M.set kd (.dict (Hb (D.map dE) (pS p) (.int (v+s))))) J=_;rw [aC (by rw [aF];exact aT hl (by unfold lim;decide)),h3];rfl
 exact Lw (Ba (Av (Aa h2) (by show ((Gd (.ref kd)).bnd _) J=_;rw [bO hk];rfl) (l2 (Aa h7) Af) hg) (Aa h6) rfl) (Aa h2) (Aa h7) hs k
structure Azo(J0:Sto)(kd:Nat)(s:Int)(F:Dl)(Y0:Ae)(rest:List AV)(Y:Ae)(J:Sto)(D:Dl)(p:Pl):Prop where
 st:J=J0.set kd (.dict (D.map dE))
 f:ups s rest.length D p=F
 pk:Bh 4 p
 dk:DOk D
 l:D.length+rest.length<1000
 v:Y 7=some (mk (Ak p))/\Y 1=Y0 1/\Y 2=some (.ref kd)/\Y 3=Y0 3/\Y 6=some (.int s)
theorem Awt{o:Al}(hp:Bh 4 p)(hD:DOk D)(hl:D.length<900)(hσ:J[kd]?=some o)(h2:Y 2=some (.ref kd))(h6:Y 6=some (.int s))(h7:Y 7=some (mk (Ak p)))(h8:Y 8=some (.int p.length)) :
 ∃ Y',EvX (lv+3) Y (.forr (.var 9) (.val (.blt .range [(.var 8)])) Yq) (J.set kd (.dict (D.map dE))) (.ok .nxt,Y',J.set kd (.dict ((ups s p.length D p).map dE)))/\Y' 1=Y 1/\Y' 2=Y 2/\Y' 3=Y 3:=by
 have hp4:p.length<=4:=hp.1;have L:=Hn (lv:=lv+3) (I:=λ_=>True) (Inv:=λrest Y' J'=>∃ D' p',Azo J kd s (ups s p.length D p) Y rest Y' J' D' p') (t:=.var 9) (q:=Yq) (λ_ _ _ _=>trivial) (λx rest Y1 J' i=>e21 i λD' p' N=>by
  have hl:=N.l;rw [bE] at hl;have hJ':J'[kd]?=some (.dict (D'.map dE)):=by rw [N.st];exact Ax hσ
  have hS:J'.set kd (.dict ((Ew p'.dropLast s D').map dE))=J.set kd (.dict ((Ew p'.dropLast s D').map dE)):=by rw [N.st,cV]
  have hq:=(N.pk.drop.mono (show 4 - 1<=4 by decide));exact⟨put Y1 9 x,rfl,.nxt,put (put Y1 9 x) 7 (mk (Ak p'.dropLast)),J'.set kd (.dict ((Ew p'.dropLast s D').map dE)),.inl rfl,Ad (Ao (l1 (Aa N.v.1)) (Aif N.pk)) (Aws hq N.dk (aV (cB _ _) hl) N.v.2.2.1 rfl N.v.2.2.2.2 hJ' Ah),_,_,hS,N.f,hq,Ky hq N.dk,
   aV (by rw [Nat.add_comm rest.length 1,<- Nat.add_assoc];exact Nat.add_le_add_right Mn _) hl,rfl,N.v.2⟩) (Kg (n:=p.length)) (Y:=Y) (J:=J.set kd (.dict (D.map dE)))
  ⟨D,p,rfl,by rw [aF,List.length_range'],hp,hD,by rw [aF,List.length_range'];exact cF (Nat.add_lt_add_of_lt_of_le hl hp4) (by decide),h7,rfl,h2,rfl,h6⟩
 refine e22 L λY' J' hF i=>e21 i λD' p' N=>?_;have hX:=Db (Abg (lv:=lv+3) (J:=J.set kd (.dict (D.map dE))) (Aa h8) (aV hp4 (by decide))) rfl hF;rw [N.st,show D'=ups s p.length D p from N.f] at hX;exact⟨Y',hX,N.v.2.1,N.v.2.2.1.trans h2.symm,N.v.2.2.2.1⟩
end
structure SI(J0:Sto)(n ks kd:Nat)(OC rest:Oc)(D:Dl)(J:Sto):Prop where
 t:∃ c,J[0]?=some (.tbl c)
 sg:J[ks]?=some (spO OC rest)
 dg:J[kd]?=some (.dict (D.map dE))
 hl:n<=J.length
 hk:∀ k,k<n->k≠0->k≠ks->k≠kd->J[k]?=J0[k]?
structure Od(n ks kd:Nat):Prop where
 s:0<ks/\ks<n
 d:0<kd/\kd<n
 ne:ks≠kd
noncomputable abbrev by8(l:List Nat):Oc:=l.map UInt8.ofNat
section
variable{lv n ks kd j k:Nat}{Y Y':Ae}{J J1 J0 l:Sto}{t R T:List Nat}{p f g:Pl}{D D':Dl}{OC rest rest' Rm:Oc}{s:Int}{x:Nat×List Nat}{o:Al}{fs:Fs}{W:Str}
theorem SI.setS(S:SI J0 n ks kd OC rest D J)(O:Od n ks kd):SI J0 n ks kd OC rest' D (J.set ks (spO OC rest')):=
 ⟨S.t.imp λc h=>(bM (bT O.s.1)).trans h,Ax S.sg,(bM O.ne).trans S.dg,by rw [aR];exact S.hl,λk h1 h2 h3 h4=>(bM (Ne.symm h3)).trans (S.hk k h1 h2 h3 h4)⟩
theorem SI.setD(S:SI J0 n ks kd OC rest D J)(O:Od n ks kd):SI J0 n ks kd OC rest D' (J.set kd (.dict (D'.map dE))):=
 ⟨S.t.imp λc h=>(bM (bT O.d.1)).trans h,(bM (Ne.symm O.ne)).trans S.sg,Ax S.dg,by rw [aR];exact S.hl,λk h1 h2 h3 h4=>(bM (Ne.symm h4)).trans (S.hk k h1 h2 h3 h4)⟩
theorem SI.set0(S:SI J0 n ks kd OC rest D J)(O:Od n ks kd):SI J0 n ks kd OC rest D (J.set 0 (.tbl 1)):=
 ⟨S.t.elim λc h=>⟨1,Ax h⟩,(bM (aW O.s.1)).trans S.sg,(bM (aW O.d.1)).trans S.dg,by rw [aR];exact S.hl,λk h1 h2 h3 h4=>(bM (Ne.symm h2)).trans (S.hk k h1 h2 h3 h4)⟩
theorem SI.setN(S:SI J0 n ks kd OC rest D J)(O:Od n ks kd)(h:n<=j):SI J0 n ks kd OC rest D (J.set j o):=
 have q:∀ {k},k<n->(J.set j o)[k]?=J[k]?:=λhk=>bM (bT (cF hk h))
 ⟨S.t.imp λc h=>(q (aT O.s.1 O.s.2)).trans h,(q O.s.2).trans S.sg,(q O.d.2).trans S.dg,by rw [aR];exact S.hl,λk h1 h2 h3 h4=>(q h1).trans (S.hk k h1 h2 h3 h4)⟩
theorem SI.app(S:SI J0 n ks kd OC rest D J)(O:Od n ks kd):SI J0 n ks kd OC rest D (J++l):=
 have q:∀ {k},k<n->(J++l)[k]?=J[k]?:=λhk=>bD (cF hk S.hl)
 ⟨S.t.imp λc h=>(q (aT O.s.1 O.s.2)).trans h,(q O.s.2).trans S.sg,(q O.d.2).trans S.dg,by rw [aL];exact bA S.hl (cB _ _),λk h1 h2 h3 h4=>(q h1).trans (S.hk k h1 h2 h3 h4)⟩
theorem u8n{n:Nat}(h:n<256):(UInt8.ofNat n).toNat=n:=by rw [UInt8.toNat_ofNat'];exact Nat.mod_eq_of_lt h
theorem toN:∀ l:List Nat,(∀ c∈l,c<256)->(by8 l).map (·.toNat)=l:=λl=>by
 induction l with
 | nil=>exact λ_=>rfl
 | cons c r ih=>exact λh=>by show (UInt8.ofNat c).toNat::(by8 r).map (·.toNat)=_;rw [u8n (h c (.head _)),ih λc hc=>h c (.tail _ hc)]
theorem Ath:∀ (j:Nat) {D:Dl} {p:Pl},DOk D->Bh 4 p->DOk (ups s j D p)/\(ups s j D p).length<=D.length+j:=λj=>by
 induction j with
 | zero=>exact λh _=>⟨h,aU _⟩
 | succ j ih=>
  intro D p h hp;have hq:=(hp.drop.mono (show 4 - 1<=4 by decide));have:=ih (D:=Ew p.dropLast s D) (Ky hq h) hq;exact⟨this.1,bA this.2 (by rw [Nat.add_comm j 1,<- Nat.add_assoc];exact Nat.add_le_add_right Mn _)⟩
theorem Aio(h:DOk D)(hp:Bh 4 p):DOk (Kh D p s)/\(Kh D p s).length<=D.length+5:=
 have:=Ath (s:=s) p.length (Ky (s:=s) hp h) hp
 ⟨this.1,bA this.2 (bA (Nat.add_le_add Mn hp.1) (aU _))⟩
theorem Aip{b:Nat}{d:List Nat}(O:Od n ks kd)(S:SI J0 n ks kd OC (by8 (b::(d++R))) D J)(hs:by8 (b::(d++R))<:+OC)(hb:b<256)(hd:d.length=b)(h1:Y 1=some (.strm OC ks)) :
 ∃ J',EvE (lv+3) Y (.call (.lit (.con (.ref 233))) [(.call (.lit (.con (.ref 111))) [(.var 1)])]) J (.ok (.strm (by8 d) J.length)) J'/\SI J0 n ks kd OC (by8 R) D J'/\J'[J.length]?=some (spO (by8 d) (by8 d)):=by
 have e:by8 (b::(d++R))=UInt8.ofNat b::(by8 d++by8 R):=aJ (_::·) bP;have S':=S;rw [e] at S' hs;have c1:=Azh (lv:=lv+1) (J:=J) hs S'.sg (by rw [aF,u8n hb];exact hd);have S1:SI J0 n ks kd OC (by8 R) D (J.set ks (spO OC (by8 R))):=S.setS O;have c2:=Aij (lv:=lv+2) (oc:=by8 d) (J:=J.set ks (spO OC (by8 R))) (o:=.dead) S1.t;have hl:(J.set ks (spO OC (by8 R))).length=J.length:=aR;rw [hl] at c2;exact⟨_,Ao (l1 (Ao (l1 (Aa h1)) c1)) c2,(S1.set0 O).app O,by rw [cK (by rw [aR,hl];exact aU _),aR,hl,Nat.sub_self];rfl⟩
theorem Aiq(hg:Bh 4 g)(h:Y 7=some (mk (Ak g))):EvE lv Y (.ite (.cmp .eq (.var 7) (.lit (.str ⟨#[47]⟩))) (.lit (.int 0)) (.meth (.var 7) .count [(.lit (.str ⟨#[47]⟩))])) J (.ok (.int g.length)) J:=by
 have hF:=Dy hg;refine Aia (t:=decide (Ak g=[47])) (Ay (Aa h) Af (Oq (y:=[47]))) rfl ?_;by_cases z:g=[]
 . rw [aC (hF.2.2.2.2.2.mpr z),if_pos rfl,z];exact Af
 . rw [aP λh=>z (hF.2.2.2.2.2.mp h),if_neg (by decide)];have:=hF.2.1;rw [if_neg z] at this;exact Av (Aa h) rfl (l1 Af) (by show some (Except.ok (AV.int ((Ak g).count 47)),J)=_;rw [this])
theorem Awu(O:Od n ks kd)(S:SI J0 n ks kd OC (by8 ((Dz x.1 x.2).length::(Dz x.1 x.2++R))) D J)(hs:by8 ((Dz x.1 x.2).length::(Dz x.1 x.2++R))<:+OC)(hx:Hq x)(hf:Bh 2 f)(hg:Bh 4 (Bd f x.2))(hD:DOk D)(hl:D.length<800)(h1:Y 1=some (.strm OC ks))(h2:Y 2=some (.ref kd))(h3:Y 3=some (mk (Ak f))) :
 ∃ Y' J',EvB (lv+4) Y Sq J (.ok .nxt,Y',J')/\SI J0 n ks kd OC (by8 R) (Kh D (Bd f x.2) x.1) J'/\Y' 1=some (.strm OC ks)/\Y' 2=some (.ref kd)/\Y' 3=some (mk (Ak (Bd f x.2).dropLast)):=by
 have ht:=Gr hx.2;have hn1:x.1<256:=Nat.lt_succ_of_le hx.1;have hn2:x.2.length<256:=aV ht.2.2.1 (by decide);have hq:=hg.drop.mono (show 4 - 1<=4 by decide);have hF:=Dy (hf.mono (show 2<=4 by decide));obtain ⟨RR,hR⟩:∃ RR,by8 (List.replicate (x.1 % 3) 200)=RR:=⟨_,rfl⟩;obtain ⟨OB,hB⟩:∃ OB,by8 (Dz x.1 x.2)=OB:=⟨_,rfl⟩;have hbx:UInt8.ofNat x.1::UInt8.ofNat x.2.length::(by8 x.2++RR)=OB:=by rw [<- hB,<- hR];exact (aJ (λl=>UInt8.ofNat x.1::UInt8.ofNat x.2.length::l) bP).symm
 refine e16 (Anv hf hx.2) λy y1 y2 y3 y4 y5 y6=>?_;refine e13 (Aip (lv:=lv+1) O S hs (aV (Tb hx) (by decide)) rfl h1) λσ2 c1 S2 hk=>?_;have hkn:n<=J.length:=S.hl;rw [hB] at c1 hk;rw [show spO OB OB=spO OB (UInt8.ofNat x.1::UInt8.ofNat x.2.length::(by8 x.2++RR)) by rw [hbx]] at hk;have c2:=Anp (lv:=lv+3) ⟨[],hbx⟩ hk;rw [u8n hn1] at c2;have c3:=Azi (lv:=lv+2) ⟨[UInt8.ofNat x.1],hbx⟩ (Ax (o':=spO OB (UInt8.ofNat x.2.length::(by8 x.2++RR))) hk) (by rw [aF,u8n hn2]);rw [toN _ ht.2.1,cV] at c3;have c4:=λJ=>Asu (lv:=lv+2) (J:=J) (x:=Ak f) (t:=x.2) (aT hF.2.2.2.1 (by decide)) (aV ht.2.2.1 (by decide)) (λh=>nomatch h);rw [y1] at c4;have c5:=λJ=>Asx (lv:=lv+1) (J:=J) y2 y3 y4 (y5▸hg) y6;rw [y5] at c5;have S5:=λl o=>(S2.setN (j:=J.length) (o:=o) O hkn).app (l:=l) O;have V:=Mn (p:=Bd f x.2) (s:=x.1) (D:=D);have UU:=λY h2 h6 h7 h8=>Awt (lv:=lv+1) (Y:=Y) (s:=x.1) hg (Ky hg hD) (aV V (cF (Nat.succ_lt_succ hl) (by decide))) (S5 [.lst ((Bd f x.2).map mk)] (spO OB RR)).dg h2 h6 h7 h8;refine e14 (UU (put (put (put (put (put Y 5 (.strm OB J.length)) 6 (.int x.1)) 7 (mk (Ak (Bd f x.2)))) 3 (mk (Ak (Bd f x.2).dropLast))) 8 (.int (Bd f x.2).length)) h2 rfl rfl rfl) λY' c8 r1 r2 r3=>?_;exact⟨Y',_,Ad c1 (Ad (Ao (l1 (Aa rfl)) c2) (Ad (Ao (l1 (Ao (l2 (Aa h3) (Ao (l1 (Aa rfl)) c3)) (c4 _))) (c5 _)) (Ad (Ao (l1 (Aa rfl)) (Aif (lv:=lv+1) hg)) (Ad (Aiq hg rfl)
  (Aws (s:=x.1) hg hD (aT hl (by decide)) h2 rfl rfl (S5 _ _).dg (Dc c8 Ah)))))),(S5 _ _).setD O,r1.trans h1,r2.trans h2,r3⟩
theorem Awv(hσ:J[k]?=some (spO OC [])):EvC (lv+2) 111 [.strm OC k] J (.error w0) J:=Aib (n:=false) [.strm OC k] (by decide) rfl rfl ⟨_,Sz (Ao (l1 (Aa rfl)) (Awm hσ))⟩
theorem Ati(O:Od n ks kd)(S:SI J0 n ks kd OC (by8 T) D J)(hs:by8 T<:+OC)(hT:Eb T W Rm)(h1:Y 1=some (.strm OC ks))(h2:Y 2=some (.ref kd)){v:AV}(h3:Y 3=some v) :
 ∃ Y' J',EvB (lv+4) Y Sq J (.error (false,W),Y',J')/\SI J0 n ks kd OC Rm D J'/\Y' 1=some (.strm OC ks)/\Y' 2=some (.ref kd):=by
 induction hT using Eb.casesOn with
 | t0=>exact⟨_,_,Sz (Ml (lx (Ao (l1 (Aa h1)) (Awv S.sg)))),S,h1,h2⟩
 | t1 j hj hw=>
  refine⟨_,_,Sz (Ml (lx (Ao (l1 (Aa h1)) (Awo (lv:=lv+2) (b:=9) (d:=by8 (List.replicate j 97)) hs S.sg ?_ ?_)))),S.setS O,h1,h2⟩
  . rw [aF,dT];exact hj
  . rw [aF,dT];exact hw
 | t2 j hj hw=>
  have e:tS j=(j+2)::((255::7::List.replicate j 97)++List.replicate 8 97):=by
   unfold tS;rw [show j+8=j+8 from rfl,<- List.replicate_append_replicate];rfl
  rw [e] at S hs;refine e13 (Aip (lv:=lv+1) O S hs (by exact ltc (fk [j] [(1,(.a (.v 0) (.n 1)),(.n 7)),(1,(.n 256),(.a (.v 0) (.n 2)))] rfl hj)) (by rw [bE,bE,dT]) h1) λσ2 c1 S2 hk=>?_;have hb:by8 (255::7::List.replicate j 97)=255::7::by8 (List.replicate j 97):=rfl;rw [hb] at c1 hk;have c2:=Anp (lv:=lv+3) (List.suffix_refl _) hk;have c3:=Awp (lv:=lv+2) (w:=wS j) (List.suffix_cons _ _) (Ax (o':=spO (255::7::by8 (List.replicate j 97)) (7::by8 (List.replicate j 97))) hk) (by rw [aF,dT];exact hj) (by rw [aF,dT];exact hw);have h8:by8 (List.replicate 8 97)=List.replicate 8 97:=by decide +kernel
  exact⟨put (put Y 5 _) 6 _,_,Ad c1 (Ad (Ao (l1 (Aa rfl)) c2) (Sz (Ml (lx (Ml (lcx (Aa (i:=3) (Y:=put (put Y 5 _) 6 _) h3) (lx (Ao (l1 (Aa rfl)) c3)))))))),h8▸(S2.setN O S.hl).setN O S.hl,h1,h2⟩
theorem Atj(O:Od n ks kd)(hT:Eb T W Rm):∀ (fs:Fs) {f:Pl} {D:Dl} {J:Sto} {Y:Ae},Gw fs f->DOk D->D.length+5*fs.length<800->SI J0 n ks kd OC (by8 (Gy fs++T)) D J->by8 (Gy fs++T)<:+OC->Y 1=some (.strm OC ks)->Y 2=some (.ref kd)->Y 3=some (mk (Ak f))->
 ∃ Y' J',EvW (lv+4) Y (.lit (.bool true)) Sq J (.error (false,W),Y',J')/\SI J0 n ks kd OC Rm (Gs fs f D) J'/\Y' 1=some (.strm OC ks)/\Y' 2=some (.ref kd):=by
 intro fs
 induction fs with
 | nil=>exact λ_ _ _ S hs h1 h2 h3=>e24 (Ati O S hs hT h1 h2 h3) λY' J' hb S' r1 r2=>⟨Y',J',Awi Af rfl hb,S',r1,r2⟩
 | cons x r ih=>
  intro f D J Y hC hD hl S hs h1 h2 h3;refine e04 hC λhf hx hg hC'=>?_;have e:by8 (Gy (x::r)++T)=by8 ((Dz x.1 x.2).length::(Dz x.1 x.2++(Gy r++T))):=by rw [<- bC];rfl
  rw [e] at S hs;rw [bE] at hl;have V:=Aio (s:=x.1) hD hg;refine e25 (Awu (lv:=lv) O S hs hx hf hg hD (by exact ltc (fk [List.length D,5*(r.length+1)] [(1,(.a (.a (.v 0) (.v 1)) (.n 1)),(.n 800)),(1,(.n 800),(.v 0))] rfl hl)) h1 h2 h3) λY1 J1 hb S1 g1 g2 g3=>?_;have hs':by8 (Gy r++T)<:+OC:=List.IsSuffix.trans ⟨by8 ((Dz x.1 x.2).length::Dz x.1 x.2),by rw [<- bP];rfl⟩ hs;exact e24 (ih hC' V.1 (by omega) S1 hs' g1 g2 g3) λY' J' hw S' r1 r2=>⟨Y',J',Sv (fl:=.nxt) (λ_=>rfl) Af rfl hb hw,S',r1,r2⟩
theorem Air(hT:Eb T W Rm):Rm.length<=8:=by
 induction hT using Eb.casesOn with
 | t2 j hj hw=>exact aU _
 | _=>exact bV _
theorem Ais(hT:Eb T W Rm):Rm<:+by8 T:=by
 induction hT using Eb.casesOn with
 | t2 j hj hw=>
  refine⟨by8 ((j+2)::255::7::List.replicate j 97),?_⟩;rw [show (List.replicate 8 97:Oc)=by8 (List.replicate 8 97) by decide +kernel,<- bP];unfold tS;rw [<- List.replicate_append_replicate];rfl
 | _=>exact List.nil_suffix
noncomputable def Azp(J J':Sto):Prop:=(∃ c,J'[0]?=some (.tbl c))/\J.length<=J'.length/\∀ k,k<J.length->k≠0->J'[k]?=J[k]?
theorem Atk(hC:Gw fs [])(hn:fs.length<=30)(hT:Eb T W Rm)(h0:∃ c,J[0]?=some (.tbl c)):∃ J',EvC (lv+5) 259 [.bytes (by8 (Gy fs++T))] J (.ok (.tup [.ref (J.length+1),.str W,.bytes Rm])) J'/\Azp J J'/\J'[J.length+1]?=some (.dict ((Gs fs [] []).map dE)):=by
 obtain ⟨OC,hO⟩:∃ OC,by8 (Gy fs++T)=OC:=⟨_,rfl⟩;rw [hO];have h00:0<J.length:=h0.elim λc h=>(aN.mp h).1;have hl1:(J.set 0 (.tbl 1)++[spO OC OC]).length=J.length+1:=by rw [aL,aR];rfl
 obtain ⟨σ1,hJ1⟩:∃ σ1,σ1=J.set 0 (.tbl 1)++[spO OC OC]++[.dict []]:=⟨_,rfl⟩;have O:Od (J.length+2) J.length (J.length+1):=⟨⟨h00,by exact ltc (fk [List.length J] [(1,(.a (.v 0) (.n 2)),(.v 0))] rfl)⟩,⟨by exact ltc (fk [List.length J] [(1,(.a (.v 0) (.n 1)),(.n 0))] rfl),by exact ltc (fk [List.length J] [(1,(.a (.v 0) (.n 2)),(.a (.v 0) (.n 1)))] rfl)⟩,by omega⟩;have gA:∀ {k:Nat},k<J.length->σ1[k]?=(J.set 0 (.tbl 1))[k]?:=λ{k} h=>by rw [hJ1,bD (by rw [hl1];exact ltc (fk [k,List.length J] [(1,(.a (.v 0) (.n 1)),(.v 1)),(1,(.a (.v 1) (.n 1)),(.v 0))] rfl h)),bD (by rw [aR];exact h)]
 have S:SI σ1 (J.length+2) J.length (J.length+1) OC (by8 (Gy fs++T)) [] σ1:=by
  rw [hO];refine⟨⟨1,by rw [gA h00];exact h0.elim λc h=>Ax h⟩,?_,?_,by rw [hJ1,aL,hl1];exact aU _,λk _ _ _ _=>rfl⟩
  . rw [hJ1,bD (by rw [hl1];exact ltc (fk [List.length J] [(1,(.a (.v 0) (.n 1)),(.v 0))] rfl)),cK (by rw [aR];exact aU _),aR,Nat.sub_self];rfl
  . rw [hJ1,cK (by rw [hl1];exact aU _),hl1,Nat.sub_self];rfl
 have c1:=Aij (lv:=lv+3) (o:=.dead) (oc:=OC) (J:=J) h0;refine e24 (Atj (lv:=lv) O hT fs hC (λe h=>absurd h bH) (by rw [List.length_nil];omega) S (hO▸List.suffix_refl _) (Y:=put (put (put (put (λi=>[AV.bytes OC][i]?) 1 (.strm OC J.length)) 2 (.ref (J.length+1))) 3 (mk [47])) 4 (mk [])) rfl rfl rfl) λY' J' hw S' g1 g2=>?_;have hr:=rd (n:=99) ((Ais hT).trans ((by rw [<- hO];show T.map _<:+(Gy fs++T).map _;rw [bP];exact List.suffix_append _ _):by8 T<:+OC)) S'.sg (by decide);rw [List.take_of_length_le (bA (Air hT) (by decide))] at hr;have S2:SI σ1 (J.length+2) J.length (J.length+1) OC (Rm.drop 99) (Gs fs [] []) (J'.set J.length (spO OC (Rm.drop 99))):=S'.setS O;rw [hJ1] at hw;refine⟨_,Cs [.bytes OC] (by decide) rfl rfl ⟨_,Ad (Ao (l1 (Aa rfl)) c1) (Ad (v:=.ref (J.length+1)) (Bl 1 λm=>by show some (Except.ok (AV.ref (J.set 0 (.tbl 1)++[spO OC OC]).length),J.set 0 (.tbl 1)++[spO OC OC]++[.dict []])=_;rw [hl1]) (Ad Af (Ad Af (Ast hw (Ck (Fa (l3 (Aa (Y:=λk=>if k=10 then none else put Y' 4 (.str W) k) g2) (Aa rfl) (Av (Aa (Y:=λk=>if k=10 then none else put Y' 4 (.str W) k) g1) rfl (l1 Af) hr)) (by show 3<1000;decide)))))))⟩,⟨S2.t,bA (cB _ 2) S2.hl,λk hk h1=>?_⟩,S2.dg⟩;rw [S2.hk k (by exact ltc (fk [k,List.length J] [(1,(.a (.v 0) (.n 1)),(.v 1)),(1,(.a (.v 1) (.n 2)),(.v 0))] rfl hk)) h1 (aW hk) (by omega),gA hk,bM (Ne.symm h1)]
end
noncomputable abbrev Ps:Type:=List (Nat×Pl)
noncomputable def Bc(fs:Fs):Pl->Ps:=List.rec (λ_=>[]) (λx _ go f=>(x.1,Bd f x.2)::go (Bd f x.2).dropLast) fs
noncomputable def Cn(P:Ps)(q:Pl):Int:=List.rec 0 (λe _ t=>(if e.2.take q.length=q then (e.1:Int) else 0)+t) P
noncomputable def Ex(q:Pl)(D:Dl):Option Int:=List.rec none (λe _ r=>if e.1=q then some e.2 else r) D
noncomputable def Me(fr:List Pl)(q:Pl):List Pl:=if q∈fr then fr else fr++[q]
noncomputable def Zd(fr:List Pl)(g:Pl):List Pl:=(List.range (g.length+1)).foldl (λfr k=>Me fr (g.take k)) fr
noncomputable def frF(P:Ps)(fr:List Pl):List Pl:=P.foldl (λfr e=>Zd fr e.2) fr
noncomputable def Und(P:Ps)(q:Pl):Prop:=∃ e∈P,q<+:e.2
theorem Tc{q g:Pl}:g.take q.length=q↔q<+:g:=⟨λh=>List.prefix_iff_eq_take.mpr h.symm,λh=>(List.prefix_iff_eq_take.mp h).symm⟩
section
variable{P:Ps}{D:Dl}{p q g:Pl}{s:Int}{fr:List Pl}
theorem Anw:Ex q (Ew p s D)=if q=p then some ((Ex p D).getD 0+s) else Ex q D:=by
 induction D with
 | nil=>
  show (if p=q then some s else none)=_;by_cases z:q=p
  . rw [if_pos z,if_pos z.symm];exact aJ some (Int.zero_add s).symm
  . rw [if_neg z,if_neg (Ne.symm z)];rfl
 | cons e r ih=>
  show Ex q (if e.1=p then (e.1,e.2+s)::r else e::Ew p s r)=if q=p then some ((if e.1=p then some e.2 else Ex p r).getD 0+s) else (if e.1=q then some e.2 else Ex q r);by_cases w:e.1=p
  . rw [if_pos w,if_pos w];show (if e.1=q then some (e.2+s) else Ex q r)=_;by_cases z:q=p
    . rw [if_pos z,if_pos (w.trans z.symm)];rfl
    . rw [if_neg z];have:¬ e.1=q:=λh=>z (h.symm.trans w);rw [if_neg this,if_neg this]
  . rw [if_neg w,if_neg w];show (if e.1=q then some e.2 else Ex q (Ew p s r))=_;rw [ih];by_cases z:q=p
    . rw [if_pos z,if_pos z,if_neg λh=>w (h.trans z)]
    . rw [if_neg z,if_neg z]
theorem Ait:(Ew p s D).map (·.1)=if p∈D.map (·.1) then D.map (·.1) else D.map (·.1)++[p]:=by
 induction D with
 | nil=>exact (if_neg bH).symm
 | cons e r ih=>
  show (if e.1=p then (e.1,e.2+s)::r else e::Ew p s r).map (·.1)=_;by_cases w:e.1=p
  . rw [if_pos w,if_pos (w▸dB)];rfl
  . rw [if_neg w];show e.1::(Ew p s r).map (·.1)=_;rw [ih,cP];by_cases z:p∈r.map (·.1)
    . rw [if_pos z,if_pos (cH _ z)]
    . rw [if_neg z,if_neg (λh=>(aM.mp h).elim (λh=>w h.symm) z)];rfl
theorem Abi{α:Type}{l:List α}{a:α}(h:l.Nodup)(n:a∉l):(l++[a]).Nodup:=dH.mpr ⟨h,List.pairwise_singleton _ _,λx hx y hy e=>n (by rw [<- aQ.mp hy,<- e];exact hx)⟩
theorem Atl(h:(D.map (·.1)).Nodup):((Ew p s D).map (·.1)).Nodup:=by
 rw [Ait];split
 . exact h
 . rename_i z;exact Abi h z
theorem Mo(h:(D.map (·.1)).Nodup):∀ e:Pl×Int,e∈D↔Ex e.1 D=some e.2:=by
 induction D with
 | nil=>exact λe=>⟨λh=>absurd h bH,(λh=>nomatch h)⟩
 | cons d r ih=>
  intro e;show _↔(if d.1=e.1 then some d.2 else Ex e.1 r)=some e.2;have hd:=bZ.mp h;by_cases z:d.1=e.1
  . rw [if_pos z];refine⟨λh=>?_,λh=>?_⟩
    . rcases aM.mp h with h | h
      . rw [h]
      . exact absurd (by show d.1∈_;rw [z];exact bY (f:=(·.1)) h) hd.1
    . rw [show e=d from Prod.ext z.symm (bG h).symm];exact .head _
  . rw [if_neg z,<- ih hd.2 e];exact⟨λh=>(aM.mp h).resolve_left λh=>z (by rw [h]),.tail _⟩
noncomputable def chn(j:Nat):Pl->List Pl:=Nat.rec (λ_=>[]) (λ_ go p=>p.dropLast::go p.dropLast) j
noncomputable def Abj(s:Int)(l:List Pl)(D:Dl):Dl:=l.foldl (λD q=>Ew q s D) D
theorem Atm:∀ (j:Nat) {D:Dl} {p:Pl},ups s j D p=Abj s (chn j p) D:=λj=>by
 induction j with
 | zero=>exact rfl
 | succ j ih=>exact ih
theorem Atn:∀ (j:Nat) {p:Pl},p.length=j->(∀ q,q∈p::chn j p↔q<+:p)/\(p::chn j p).Nodup:=λj=>by
 induction j with
 | zero=>intro p h;rw [bJ h];exact⟨λq=>by rw [List.prefix_nil];exact aQ,List.pairwise_singleton _ _⟩
 | succ j ih=>
  intro p h;have hp:p≠[]:=λe=>by rw [e] at h;exact absurd h (Nat.succ_ne_zero j).symm
  have hd:p.dropLast.length=j:=by rw [dZ,h];rfl
  refine e02 (ih hd) λh1 h2=>?_;show (∀ q,q∈p::(p.dropLast::chn j p.dropLast)↔q<+:p)/\(p::(p.dropLast::chn j p.dropLast)).Nodup;refine⟨λq=>?_,bZ.mpr ⟨λhm=>?_,h2⟩⟩
  . rw [aM,h1];refine⟨λh=>h.elim (λh=>h▸dC) λh=>h.trans (List.dropLast_prefix p),λh=>?_⟩;rw [<- dK hp] at h;rcases List.prefix_concat_iff.mp h with h | h
    . exact .inl (h.trans (dK hp))
    . exact .inr h
  . have:=((h1 p).mp hm).length_le;rw [hd,h] at this;exact absurd this (Nat.not_succ_le_self j)
theorem Anx:∀ (l:List Pl) {D:Dl},l.Nodup->(D.map (·.1)).Nodup->((Abj s l D).map (·.1)).Nodup/\∀ q,Ex q (Abj s l D)=if q∈l then some ((Ex q D).getD 0+s) else Ex q D:=λl=>by
 induction l with
 | nil=>exact λ_ h=>⟨h,λq=>(if_neg bH).symm⟩
 | cons p r ih=>
  intro D hl hD;have hl:=bZ.mp hl;refine e02 (ih hl.2 (Atl (p:=p) (s:=s) hD)) λh1 h2=>⟨h1,λq=>(h2 q).trans ?_⟩;rw [Anw];by_cases z:q=p
  . rw [if_pos z,if_neg (z▸hl.1),if_pos (z▸dB),z]
  . rw [if_neg z];by_cases w:q∈r
    . rw [if_pos w,if_pos (cH _ w)]
    . rw [if_neg w,if_neg λh=>(aM.mp h).elim z w]
theorem Any(h:(D.map (·.1)).Nodup):((Kh D g s).map (·.1)).Nodup/\∀ q,Ex q (Kh D g s)=if q<+:g then some ((Ex q D).getD 0+s) else Ex q D:=by
 have e:Kh D g s=Abj s (g::chn g.length g) D:=Atm _;refine e02 (Atn g.length rfl) λh1 h2=>?_;rw [e];refine e02 (Anx (s:=s) _ h2 h) λh3 h4=>⟨h3,λq=>(h4 q).trans ?_⟩;by_cases z:q<+:g
 . rw [if_pos z,if_pos ((h1 q).mpr z)]
 . rw [if_neg z,if_neg λh=>z ((h1 q).mp h)]
theorem Abk:∀ (fs:Fs) {f:Pl} {D:Dl},(D.map (·.1)).Nodup->((Gs fs f D).map (·.1)).Nodup/\∀ q,(Und (Bc fs f) q->Ex q (Gs fs f D)=some ((Ex q D).getD 0+Cn (Bc fs f) q))/\(¬ Und (Bc fs f) q->Ex q (Gs fs f D)=Ex q D/\Cn (Bc fs f) q=0):=λfs=>by
 induction fs with
 | nil=>exact λh=>⟨h,λq=>⟨λ⟨e,he,_⟩=>absurd he bH,λ_=>⟨rfl,rfl⟩⟩⟩
 | cons x r ih=>
  intro f D h;refine e02 (Any (g:=Bd f x.2) (s:=x.1) h) λh1 h2=>e02 (ih (f:=(Bd f x.2).dropLast) h1) λh3 h4=>⟨h3,λq=>?_⟩;have ht:Cn (Bc (x::r) f) q=(if (Bd f x.2).take q.length=q then (x.1:Int) else 0)+Cn (Bc r (Bd f x.2).dropLast) q:=rfl;have hr:Gs (x::r) f D=Gs r (Bd f x.2).dropLast (Kh D (Bd f x.2) x.1):=rfl;rw [ht,hr];have h5:=h2 q;by_cases z:q<+:Bd f x.2
  . rw [if_pos (Tc.mpr z)];rw [if_pos z] at h5;refine⟨λ_=>?_,λn=>absurd ⟨_,.head _,z⟩ n⟩;by_cases w:Und (Bc r (Bd f x.2).dropLast) q
    . rw [(h4 q).1 w,h5];exact aJ some (Int.add_assoc _ _ _)
    . rw [((h4 q).2 w).1,((h4 q).2 w).2,h5,Int.add_zero]
  . rw [if_neg λh=>z (Tc.mp h),Int.zero_add];rw [if_neg z] at h5;have hu:Und (Bc (x::r) f) q↔Und (Bc r (Bd f x.2).dropLast) q:=⟨λ⟨e,he,h⟩=>(aM.mp he).elim (λe'=>absurd (by rw [e'] at h;exact h) z) λhe=>⟨e,he,h⟩,λ⟨e,he,h⟩=>⟨e,.tail _ he,h⟩⟩;rw [hu];exact⟨λw=>by rw [(h4 q).1 w,h5],λw=>⟨((h4 q).2 w).1.trans h5,((h4 q).2 w).2⟩⟩
theorem Anz(h:fr.Nodup):(Me fr p).Nodup/\∀ q,q∈Me fr p↔q∈fr\/q=p:=by
 unfold Me;by_cases z:p∈fr
 . rw [if_pos z];exact⟨h,λq=>⟨.inl,λh=>h.elim id λe=>e▸z⟩⟩
 . rw [if_neg z];exact⟨Abi h z,λq=>by rw [aZ,aQ]⟩
theorem Aoa(h:fr.Nodup):(Zd fr g).Nodup/\∀ q,q∈Zd fr g↔q∈fr\/q<+:g:=by
 have key:∀ (l:List Nat) {fr:List Pl},fr.Nodup->(l.foldl (λfr k=>Me fr (g.take k)) fr).Nodup/\∀ q,q∈l.foldl (λfr k=>Me fr (g.take k)) fr↔q∈fr\/∃ k∈l,q=g.take k:=λl=>by
  induction l with
  | nil=>exact λh=>⟨h,λq=>⟨.inl,λh=>h.elim id λ⟨k,hk,_⟩=>absurd hk bH⟩⟩
  | cons k r ih=>
   intro fr h;refine e02 (Anz (p:=g.take k) h) λh1 h2=>e02 (ih h1) λh3 h4=>⟨h3,λq=>(h4 q).trans ?_⟩;rw [h2,or_assoc];exact or_congr_right ⟨λh=>h.elim (λe=>⟨k,.head _,e⟩) λ⟨j,hj,e⟩=>⟨j,.tail _ hj,e⟩,λ⟨j,hj,e⟩=>(aM.mp hj).elim (λh=>.inl (h▸e)) λh=>.inr ⟨j,h,e⟩⟩
 refine e02 (key (List.range (g.length+1)) h) λh1 h2=>⟨h1,λq=>(h2 q).trans (or_congr_right ⟨λ⟨k,_,e⟩=>e▸List.take_prefix k g,λh=>⟨q.length,List.mem_range.mpr (Nat.lt_succ_of_le h.length_le),List.prefix_iff_eq_take.mp h⟩⟩)⟩
theorem Td:∀ (P:Ps) {fr:List Pl},fr.Nodup->(frF P fr).Nodup/\∀ q,q∈frF P fr↔q∈fr\/Und P q:=λP=>by
 induction P with
 | nil=>exact λh=>⟨h,λq=>⟨.inl,λh=>h.elim id λ⟨k,hk,_⟩=>absurd hk bH⟩⟩
 | cons e r ih=>
  intro fr h;refine e02 (Aoa (g:=e.2) h) λh1 h2=>e02 (ih h1) λh3 h4=>⟨h3,λq=>(h4 q).trans ?_⟩;rw [h2,or_assoc];exact or_congr_right ⟨λh=>h.elim (λh=>⟨e,.head _,h⟩) λ⟨d,hd,h⟩=>⟨d,.tail _ hd,h⟩,λ⟨d,hd,h⟩=>(aM.mp hd).elim (λe'=>.inl (e'▸h)) λhd=>.inr ⟨d,hd,h⟩⟩
theorem Aiu(fs:Fs):(Gs fs [] []).Perm ((frF (Bc fs []) []).map λq=>(q,Cn (Bc fs []) q)):=by
 refine e02 (Abk fs (f:=[]) (D:=[]) List.nodup_nil) λh1 h2=>e02 (Td (Bc fs []) List.nodup_nil) λh3 h4=>?_;have inj:((frF (Bc fs []) []).map λq=>(q,Cn (Bc fs []) q)).Nodup:=List.Pairwise.map _ (λa b h e=>h (aJ (·.1) e)) h3;refine (List.perm_ext_iff_of_nodup (List.Pairwise.of_map _ (λa b h e=>h (aJ (·.1) e)) h1) inj).mpr λe=>?_;rw [Mo h1 e];by_cases w:Und (Bc fs []) e.1
 . rw [(h2 e.1).1 w];refine⟨λh=>bL.mpr ⟨e.1,(h4 _).mpr (.inr w),Prod.ext rfl ?_⟩,λh=>e12 (bL.mp h) λq hq e'=>?_⟩
   . exact (Int.zero_add _).symm.trans (bG h)
   . rw [<- e'];exact aJ some (Int.zero_add _)
 . rw [((h2 e.1).2 w).1];exact⟨(λh=>nomatch h),λh=>e12 (bL.mp h) λq hq e'=>absurd (((h4 q).mp hq).resolve_left bH) (by rw [<- e'] at w;exact w)⟩
end
noncomputable def cpN(p:Pl):Pl:=[]::(if p=[] then [[]] else p)
noncomputable def eAV(e:Pl×Int):AV:=.tup [.int (-e.2),.lst ((cpN e.1).map mk),mk (Ak e.1)]
noncomputable def plV(p:Pl):AV:=.lst (p.map mk)
noncomputable def piV(e:Nat×Pl):AV:=.tup [.int e.1,plV e.2]
section
variable{lv k kd kf kp n:Nat}{Y Y':Ae}{J J' τ:Sto}{p q g f:Pl}{D:Dl}{fs:Fs}{fr F:List Pl}{P:Ps}{xs YY:List AV}
theorem Ato(hp:Bh 4 p):DOk D->Be (D.map dE) (pS p)=(Ex p D).map AV.int:=by
 induction D with
 | nil=>exact λ_=>rfl
 | cons e r ih=>
  intro h;show (match pS p == pS e.1 with | true=>some (AV.int e.2) | false=>Be (r.map dE) (pS p))=(if e.1=p then some e.2 else Ex p r).map AV.int;rw [Abh hp (h e (.head _))];by_cases z:e.1=p
  . rw [aC z.symm,if_pos z];rfl
  . rw [aP (Ne.symm z),if_neg z];exact ih λq hq=>h q (.tail _ hq)
theorem Adz(hD:DOk D)(hn:(D.map (·.1)).Nodup)(hl:D.length<900)(hσ:J[kd]?=some (.dict (D.map dE))):EvC (lv+1) 264 [.ref kd] J (.ok (.lst (D.map eAV))) (J.set kd (.fdict (D.map dE))):=by
 have hs:Mr (.ref kd) J=some (.ok (.froz (D.map λe=>mk (Ak e.1))),J.set kd (.fdict (D.map dE))):=by
  show ((M.get kd).bnd _) J=_;rw [bO (x:=Al.dict (D.map dE)) (J1:=J) (by unfold M.get;rw [hσ])];show M.grd ((D.map dE).all λe=>decide (e.1.length<lim)) ((M.set kd (.fdict (D.map dE))).bnd λ_=>M.ret (Src.froz ((D.map dE).map λe=>AV.str e.1))) J=_;rw [List.map_map,bI.mpr λx hx=>e12 (bL.mp hx) λe he e'=>by rw [<- e'];exact aC (aT (Dy (hD e he)).2.2.2.1 (by unfold lim;decide))];rfl
 have hJ2:=Ax (o':=.fdict (D.map dE)) hσ;have C:=Zb (lv:=lv) (Y:=λi=>[AV.ref kd][i]?) (J:=J.set kd (.fdict (D.map dE))) (I:=λ_=>True) (ts:=[101]) (ifs:=[]) (t:=λ_=>true) (gy:=eAV) (fx:=λe=>mk (Ak e.1)) (elt:=.tup [(.neg (.idx (.cvar 0) (.var 101))),(.meth (.var 101) .split [(.lit (.str ⟨#[47]⟩))]),(.var 101)])
  trivial D (acc:=[]) (Et _) (by show 0+_<1000;exact ltc (fk [List.length D] [(1,(.a (.v 0) (.n 1)),(.n 900)),(1,(.n 1000),(.a (.n 0) (.v 0)))] rfl hl)) λe he=>⟨_,rfl,Qc,λ_=>?_⟩
 . rw [List.nil_append,List.filter_eq_self.mpr (λ_ _=>rfl)] at C;exact Cs [.ref kd] (by decide) rfl rfl ⟨_,Ck (Ho rfl rfl (Dd (Ep rfl) hs) rfl C false)⟩
 . have hx:Lz (.ref kd) (mk (Ak e.1)) (J.set kd (.fdict (D.map dE)))=some (.ok (.int e.2),J.set kd (.fdict (D.map dE))):=by
    show ((dictOf kd).bnd λes=>M.ofOpt (Be es (pS e.1))) _=_;have hd:dictOf kd (J.set kd (.fdict (D.map dE)))=some (.ok (D.map dE),J.set kd (.fdict (D.map dE))):=by
     show ((M.get kd).bnd _) _=_;rw [bO (x:=Al.fdict (D.map dE)) (J1:=J.set kd (.fdict (D.map dE))) (by unfold M.get;rw [hJ2])];rfl
    rw [bO hd,Ato (hD e he) hD,(Mo hn e).mp he];rfl
   have hm:=Aih (J:=J.set kd (.fdict (D.map dE))) (x:=Ak e.1) (aT (Dy (hD e he)).2.2.2.1 (by decide));rw [(Dy (hD e he)).1] at hm;exact Fa (l3 (Oo (Bp (Ep rfl) (Aa rfl) hx)) (Av (Aa rfl) rfl (l1 Af) hm) (Aa rfl)) (by show 3<1000;decide)
theorem Atp:∀ p q:Pl,p.length=q.length->eqL (eqA 7) (p.map mk) (q.map mk)=some (decide (p=q)):=λp=>by
 induction p with
 | nil=>intro q h;rw [bJ h.symm];rfl
 | cons a r ih=>
  intro q h
  cases q with
  | nil=>exact nomatch h
  | cons b s=>
   show (match some ((⟨a.toArray⟩:Str) == ⟨b.toArray⟩),eqL (eqA 7) (r.map mk) (s.map mk) with | some b,some c=>some (b&&c) | _,_=>none)=_;rw [ih s (Nat.succ.inj h),Cv];refine aJ some ?_;rw [<- Bool.decide_and];exact bU.mpr ⟨λh=>by rw [h.1,h.2],λh=>by injection h with h1 h2;exact⟨h1,h2⟩⟩
theorem Aqa:eqA dp (plV p) (plV q)=some (decide (p=q)):=by
 show (if (p.map mk).length=(q.map mk).length then eqL (eqA 7) (p.map mk) (q.map mk) else some false)=_;rw [aF,aF];by_cases z:p.length=q.length
 . rw [if_pos z,Atp p q z]
 . rw [if_neg z,aP λh=>z (aJ List.length h)]
theorem Aww:inA (plV q) (fr.map plV)=some (decide (q∈fr)):=by
 induction fr with
 | nil=>exact aJ some (aP bH).symm
 | cons a r ih=>
  show (match eqA dp (plV a) (plV q),inA (plV q) (r.map plV) with | some b,some c=>some (b||c) | _,_=>none)=_;rw [Aqa,ih];refine aJ some ?_;rw [<- Bool.decide_or];exact bU.mpr ⟨λh=>h.elim (λe=>e▸.head _) (.tail _),λh=>(aM.mp h).imp Eq.symm id⟩
theorem Aiv:Cl none (some (n:Int)) xs=xs.take n:=by
 show (xs.drop 0).take ((if (n:Int)<0 then ((n:Int)+xs.length).toNat else min (n:Int).toNat xs.length) - 0)=_;rw [if_neg (Int.not_lt.mpr (bN n)),Int.toNat_natCast,List.drop_zero,Nat.sub_zero,<- List.take_eq_take_min]
theorem Aiw{a b:IE}(h1:EvE lv Y a J (.ok (plV p)) J)(h2:EvE lv Y b J (.ok (.int n)) J):EvE lv Y (.slc a none (some b) none) J (.ok (plV (p.take n))) J:=
 Gv h1 Bs (Cq h2) Bs (by show some (Except.ok (AV.lst (Cl none (some (n:Int)) (p.map mk))),J)=_;rw [Aiv,<- List.map_take];rfl)
theorem Aix{a:IE}(h1:EvE lv Y a J (.ok (plV p)) J):EvE lv Y (.blt .len [a]) J (.ok (.int p.length)) J:=Bx (l1 h1) (by show some (Except.ok (AV.int ((p.map mk).length:Nat)),J)=_;rw [aF])
structure Awx(τ:Sto)(F:List Pl)(g:Pl)(w:AV)(rest:List AV)(Y:Ae)(J:Sto)(ks:List Nat)(fr:List Pl):Prop where
 r:rest=ks.map λ(k:Nat)=>AV.int k
 f:ks.foldl (λfr k=>Me fr (g.take k)) fr=F
 s:J=τ++[.lst (fr.map plV)]
 l:fr.length+ks.length<900
 v:Y 5=some (plV g)/\Y 6=some (.ref τ.length)/\Y 1=some w/\Fr Y
theorem Vq:(Me fr q).length<=fr.length+1:=by
 unfold Me;split
 . exact Nat.le_succ _
 . rw [aL];exact aU _
theorem Awy{w:AV}(h5:Y 5=some (plV g))(h6:Y 6=some (.ref τ.length))(h1:Y 1=some w)(hR:Fr Y)(hl:fr.length+g.length<800):∃ Y',EvX lv Y (.forr (.var 7) (.val (.blt .range [(.bin .add (.blt .len [(.var 5)]) (.lit (.int 1)))])) Yv) (τ++[.lst (fr.map plV)]) (.ok .nxt,Y',τ++[.lst ((Zd fr g).map plV)])/\Y' 6=some (.ref τ.length)/\Y' 1=some w/\Fr Y':=by
 have L:=Hn (lv:=lv) (I:=λ_=>True) (Inv:=λrest Y J=>∃ ks fr',Awx τ (Zd fr g) g w rest Y J ks fr') (t:=.var 7) (q:=Yv) (λ_ _ _ _=>trivial) (λx rest Y J i=>e21 i λks fr' N=>by
  match ks,N with
  | [],N=>exact absurd N.r (by simp)
  | k::ks,N=>
   refine cnE N.r λhx hr=>?_;rw [hx];have hl:=N.l;rw [bE] at hl;have hσ:J[τ.length]?=some (.lst (fr'.map plV)):=N.s▸Co;have et:EvE lv (put Y 7 (.int k)) (.slc (.var 5) none (some (.var 7)) none) J (.ok (plV (g.take k))) J:=Aiw (Aa N.v.1) (Aa rfl);have ec:EvE lv (put Y 7 (.int k)) (.cmp .nin (.slc (.var 5) none (some (.var 7)) none) (.var 6)) J (.ok (.bool (!decide (g.take k∈fr')))) J:=Ay et (Aa N.v.2.1) (by
    show ((Bv (.ref τ.length)).bnd λys=>(M.ofOpt (inA (plV (g.take k)) ys)).bnd λr=>M.ret (AV.bool (!r))) J=_;rw [bO (Cg hσ),Aww];rfl)
   have hl2:=Vq (fr:=fr') (q:=g.take k);by_cases z:g.take k∈fr'
   . have e:Me fr' (g.take k)=fr':=if_pos z;exact⟨_,rfl,.nxt,_,_,.inl rfl,Ar (t:=false) ec (fal (by rw [aC z];rfl)) Ah Ah,ks,fr',hr,by have:=N.f;rw [List.foldl_cons,e] at this;exact this,N.s,by exact ltc (fk [fr'.length,ks.length] [(1,(.a (.a (.v 0) (.a (.v 1) (.n 1))) (.n 1)),(.n 900)),(1,(.n 900),(.a (.v 0) (.v 1)))] rfl hl),N.v⟩
   . have e:Me fr' (g.take k)=fr'++[g.take k]:=if_neg z;have hp:=Kb (x:=plV (g.take k)) hσ (by rw [aF];exact lec (fk [fr'.length,ks.length] [(1,(.a (.a (.v 0) (.a (.v 1) (.n 1))) (.n 1)),(.n 900)),(1,(.a (.n 1000) (.n 1)),(.v 0))] rfl hl));rw [N.s,Ib] at hp;exact⟨_,rfl,.nxt,_,_,.inl rfl,Ar (t:=true) ec (tru (by rw [aP z];rfl)) (Bz (Av (Aa N.v.2.1) (Fx hσ rfl) (l1 et) (N.s▸hp)) Ah) Ah,ks,fr'++[g.take k],hr,by have:=N.f;rw [List.foldl_cons,e] at this;exact this,by rw [bP];rfl,by rw [aL,dL];exact ltc (fk [fr'.length,ks.length] [(1,(.a (.a (.v 0) (.a (.v 1) (.n 1))) (.n 1)),(.n 900)),(1,(.n 900),(.a (.a (.v 0) (.n 1)) (.v 1)))] rfl hl),N.v⟩)
  (Kg (n:=g.length+1)) (Y:=Y) (J:=τ++[.lst (fr.map plV)]) ⟨List.range' 0 (g.length+1),fr,rfl,by rw [<- List.range_eq_range'];rfl,rfl,by rw [List.length_range'];exact ltc (fk [fr.length,List.length g] [(1,(.a (.a (.v 0) (.v 1)) (.n 1)),(.n 800)),(1,(.n 900),(.a (.v 0) (.a (.v 1) (.n 1))))] rfl hl),h5,h6,h1,hR⟩
 refine e22 L λY' J' hF i=>e21 i λks fr' N=>?_;have hks:ks=[]:=by cases ks with | nil=>rfl | cons c r=>exact absurd N.r (by simp)
 have hf:=N.f;rw [hks] at hf;have hf:fr'=Zd fr g:=hf;rw [N.s,hf] at hF;exact⟨Y',Db (Abg (n:=g.length+1) (Ba (Aix (Aa h5)) Af rfl) (by exact ltc (fk [fr.length,List.length g] [(1,(.a (.a (.v 0) (.v 1)) (.n 1)),(.n 800)),(1,(.n 1000),(.a (.v 1) (.n 1)))] rfl hl))) rfl hF,N.v.2⟩
theorem Aob{α:Type}{f:α->AV}{l:List α}(h:[]=l.map f):l=[]:=by cases l with | nil=>rfl | cons a r=>exact absurd h (by simp)
structure P1(J:Sto)(kf:Nat)(P:Ps)(rest:List AV)(Y:Ae)(J':Sto)(fs:Fs)(f:Pl)(acc:Ps):Prop where
 r:rest=fs.map fAV
 c:Gw fs f
 e:acc++Bc fs f=P
 s:J'=J++[.lst (acc.map piV)]
 v:Fr Y/\Y 1=some (.ref J.length)/\Y 2=some (plV f)
theorem Azq(hσ:J[kf]?=some (.lst (fs.map fAV)))(hC:Gw fs [])(hP:(Bc fs []).length<900)(hF:Fr Y)(h0:Y 0=some (.ref kf))(h1:Y 1=some (.ref J.length))(h2:Y 2=some (.lst [])) :
 ∃ Y',EvX (lv+1) Y (.forr (.tup [3,4]) (.val (.var 0)) Yu) (J++[.lst []]) (.ok .nxt,Y',J++[.lst ((Bc fs []).map piV)])/\Fr Y'/\Y' 1=some (.ref J.length):=by
 have hk:kf<J.length:=(aN.mp hσ).1;have hI:∀ l:Sto,(J++l)[kf]?=some (.lst (fs.map fAV)):=λl=>(bD hk).trans hσ;have L:=Hn (lv:=lv+1) (I:=λJ'=>J'[kf]?=some (.lst (fs.map fAV))) (Inv:=λrest Y J'=>∃ fs' f acc,P1 J kf (Bc fs []) rest Y J' fs' f acc) (t:=.tup [3,4]) (q:=Yu) (λ_ _ _ i=>e31 i λfs' f acc N=>N.s▸hI _) (λx rest Y J' i=>e31 i λfs' f acc N=>by
  match fs',N with
  | [],N=>exact absurd N.r (by simp)
  | x::fs',N=>
   refine cnE N.r λhx hr=>?_;refine e04 N.c λhf hs hg hC'=>?_;have ht:=Gr hs.2;have hJ':J'[J.length]?=some (.lst (acc.map piV)):=N.s▸Co;have hl:=aJ List.length N.e;rw [aL] at hl;have hp:=Kb (x:=piV (x.1,Bd f x.2)) hJ' (by rw [aF];exact lec (fk [List.length (Bc fs []),List.length acc,List.length (Bc (x::fs') f)] [(1,(.a (.v 0) (.n 1)),(.n 900)),(1,(.a (.v 1) (.v 2)),(.v 0)),(1,(.a (.n 1000) (.n 1)),(.v 1))] rfl hP (aD hl)));rw [N.s,Ib] at hp;have cg:=Asz (lv:=lv) (J:=J') (f:=f) ht.1 (bA (Qg x.2) (bA (cJ ht.2.2.1) (by decide))) (bA hf.1 (by decide)) (aV ht.2.2.1 (by decide));exact⟨Ev Y [3,4] [.int x.1,mk x.2],by rw [hx];rfl,.nxt,_,_,.inl rfl,Ad (Ao (l2 (Aa N.v.2.2) (Aa rfl)) cg) (Ad (v:=plV (Bd f x.2).dropLast) (Gv (Aa rfl) Bs (Cq (Oo Af)) Bs (by show some (Except.ok (AV.lst (Cl none (some (-1)) ((Bd f x.2).map mk))),J')=_;rw [Aii,<- List.map_dropLast];rfl)) (Bz (Av (Aa N.v.2.1) (Fx hJ' rfl) (l1 (Fa (l2 (Aa rfl) (Aa rfl)) (by show 2<1000;decide))) (N.s▸hp)) Ah)),
    fs',(Bd f x.2).dropLast,acc++[(x.1,Bd f x.2)],hr,hC',by rw [bC];exact N.e,by rw [bP];rfl,N.v.1,N.v.2.1,rfl⟩)
  (Fy (k:=kf) (fs.map fAV) 0 rfl) (Y:=Y) (J:=J++[.lst []]) ⟨fs,[],[],rfl,hC,rfl,rfl,hF,h1,h2⟩
 refine e22 L λY' J' hL i=>e31 i λfs' f acc N=>?_;have he:=N.e;rw [Aob N.r] at he;have he:acc++[]=Bc fs []:=he;rw [bW] at he;rw [N.s,he] at hL;exact⟨Y',Db (Dd (Aa h0) (by show ((M.get kf).bnd _) _=_;rw [bO (x:=Al.lst (fs.map fAV)) (J1:=J++[.lst []]) (by unfold M.get;rw [hI])];rfl)) rfl hL,N.v.1,N.v.2.1⟩
structure P2(τ:Sto)(w:AV)(F:List Pl)(rest:List AV)(Y:Ae)(J':Sto)(P:Ps)(fr:List Pl):Prop where
 r:rest=P.map piV
 e:frF P fr=F
 a:∀ e∈P,e.2.length<=4
 l:fr.length+5*P.length<700
 s:J'=τ++[.lst (fr.map plV)]
 v:Fr Y/\Y 1=some w/\Y 6=some (.ref τ.length)
theorem Aiy{k:Nat}:∀ (l:List Nat) {fr:List Pl},(l.foldl (λfr k=>Me fr (g.take k)) fr).length<=fr.length+l.length:=λl=>by
 induction l with
 | nil=>exact aU _
 | cons k r ih=>intro fr;exact bA ih (by rw [bE,Nat.add_comm r.length 1,<- Nat.add_assoc];exact Nat.add_le_add_right Vq _)
theorem Mp(hσ:J[k]?=some (.lst xs)):Mr (.ref k) J=some (.ok (.live k 0),J):=by show ((M.get k).bnd _) _=_;rw [bO (x:=Al.lst xs) (J1:=J) (by unfold M.get;rw [hσ])];rfl
theorem Azr(hτ:τ[kp]?=some (.lst (P.map piV)))(hP:P.length<100)(ha:∀ e∈P,e.2.length<=4)(hF:Fr Y)(h1:Y 1=some (.ref kp))(h6:Y 6=some (.ref τ.length)) :
 ∃ Y',EvX lv Y (.forr (.tup [3,5]) (.val (.var 1)) Yw) (τ++[.lst []]) (.ok .nxt,Y',τ++[.lst ((frF P []).map plV)])/\Fr Y'/\Y' 1=some (.ref kp)/\Y' 6=some (.ref τ.length):=by
 have hk:kp<τ.length:=(aN.mp hτ).1;have hI:∀ l:Sto,(τ++l)[kp]?=some (.lst (P.map piV)):=λl=>(bD hk).trans hτ;have L:=Hn (lv:=lv) (I:=λJ'=>J'[kp]?=some (.lst (P.map piV))) (Inv:=λrest Y J'=>∃ P' fr,P2 τ (.ref kp) (frF P []) rest Y J' P' fr) (t:=.tup [3,5]) (q:=Yw) (λ_ _ _ i=>e21 i λP' fr N=>N.s▸hI _) (λx rest Y J' i=>e21 i λP' fr N=>by
  match P',N with
  | [],N=>exact absurd N.r (by simp)
  | x::P',N=>
   refine cnE N.r λhx hr=>?_;have hl:=N.l;rw [bE] at hl;have ha:=N.a x (.head _);refine e14 (Awy (lv:=lv) (Y:=Ev Y [3,5] [.int x.1,plV x.2]) (τ:=τ) (fr:=fr) (g:=x.2) (w:=.ref kp) rfl N.v.2.2 N.v.2.1 N.v.1 (by exact ltc (fk [fr.length,5*(P'.length+1),List.length x.snd] [(1,(.a (.a (.v 0) (.v 1)) (.n 1)),(.n 700)),(1,(.v 2),(.n 4)),(1,(.n 800),(.a (.v 0) (.v 2)))] rfl hl ha))) λY' hX g6 g1 gF=>?_;have hv:=Aiy (g:=x.2) (k:=0) (List.range (x.2.length+1)) (fr:=fr);rw [List.length_range] at hv;exact⟨Ev Y [3,5] [.int x.1,plV x.2],by rw [hx];rfl,.nxt,Y',_,.inl rfl,Dc (N.s▸hX) Ah,P',Zd fr x.2,hr,N.e,λe he=>N.a e (.tail _ he),aV (Nat.add_le_add_right hv _) (by omega),rfl,gF,g1,g6⟩)
  (Fy (k:=kp) (P.map piV) 0 rfl) (Y:=Y) (J:=τ++[.lst []]) ⟨P,[],rfl,rfl,ha,by rw [List.length_nil];omega,rfl,hF,h1,h6⟩
 refine e22 L λY' J' hL i=>e21 i λP' fr N=>?_;have he:=N.e;rw [Aob N.r] at he;have he:fr=frF P []:=he;rw [N.s,he] at hL;exact⟨Y',Db (Dd (Aa h1) (Mp (hI _))) rfl hL,N.v⟩
theorem Aoc(P:Ps):((P.filter λe=>decide (e.2.take q.length=q)).map λe=>(e.1:Int)).sum=Cn P q:=by
 induction P with
 | nil=>rfl
 | cons e r ih=>
  show _=(if e.2.take q.length=q then (e.1:Int) else 0)+Cn r q;by_cases z:e.2.take q.length=q
  . rw [List.filter_cons_of_pos (p:=λe:Nat×Pl=>decide (e.2.take q.length=q)) (aC z),cP,List.sum_cons,ih,if_pos z]
  . rw [eD (p:=λe:Nat×Pl=>decide (e.2.take q.length=q)) (by rw [aP z];decide),ih,if_neg z,Int.zero_add]
theorem Awz(hF:Fr Y)(h1:Y 1=some (.ref kp))(h9:Y 9=some (plV q))(hσ:J[kp]?=some (.lst (P.map piV)))(hl:P.length<900):EvE lv Y (.blt .sum [(.comp false (.var 101) [101,102] (.val (.var 1)) [(.cmp .eq (.slc (.var 102) none (some (.blt .len [(.cvar 9)])) none) (.cvar 9))])]) J (.ok (.int (Cn P q))) J:=by
 have C:=Zb (lv:=lv) (Y:=Y) (J:=J) (I:=λJ=>J[kp]?=some (.lst (P.map piV))) (elt:=.var 101) (ts:=[101,102]) (ifs:=[(.cmp .eq (.slc (.var 102) none (some (.blt .len [(.cvar 9)])) none) (.cvar 9))]) (fx:=piV) (gy:=λe=>AV.int e.1) (t:=λe=>decide (e.2.take q.length=q)) hσ P (acc:=[]) (Fy (P.map piV) 0 rfl) (by show 0+_<1000;exact ltc (fk [List.length P] [(1,(.a (.v 0) (.n 1)),(.n 900)),(1,(.n 1000),(.a (.n 0) (.v 0)))] rfl hl))
  λe _=>⟨_,rfl,Abc (Ay (Aiw (p:=e.2) (Aa rfl) (Aix (Ep h9))) (Ep h9) (by show (M.ofOpt (eqA dp (plV (e.2.take q.length)) (plV q))).bnd _ J=_;rw [Aqa];rfl)) rfl,λ_=>Aa rfl⟩
 refine Bx (l1 (Ho hF rfl (Dd (Aa h1) (Mp hσ)) rfl C false)) ?_;show (M.ofOpt (De ((P.filter λe=>decide (e.2.take q.length=q)).map λe=>AV.int e.1))).bnd (λis=>M.ret (AV.int is.sum)) J=_;have hi:=Vp ((P.filter λe=>decide (e.2.take q.length=q)).map (·.1));rw [List.map_map,List.map_map] at hi;rw [show ((P.filter λe=>decide (e.2.take q.length=q)).map λe=>AV.int e.1)=(P.filter λe=>decide (e.2.take q.length=q)).map ((λ(n:Nat)=>AV.int n) ∘ (·.1)) from rfl,hi];exact aJ (λn=>some (Except.ok (AV.int n),J)) (Aoc P)
structure P3(τ:Sto)(P:Ps)(F:List Pl)(kp:Nat)(rest:List AV)(Y:Ae)(J':Sto)(F' acc:List Pl):Prop where
 r:rest=F'.map plV
 e:acc++F'=F
 s:J'=τ++[.lst ((acc.map λq=>(q,Cn P q)).map eAV)]
 v:Fr Y/\Y 1=some (.ref kp)/\Y 8=some (.ref τ.length)
theorem Azs(hp:τ[kp]?=some (.lst (P.map piV)))(hf:τ[kf]?=some (.lst (F.map plV)))(hP:P.length<100)(hl:F.length<900)(ha:∀ q∈F,Bh 4 q)(hF:Fr Y)(h1:Y 1=some (.ref kp))(h6:Y 6=some (.ref kf))(h8:Y 8=some (.ref τ.length)) :
 ∃ Y',EvX lv Y (.forr (.var 9) (.val (.var 6)) Yx) (τ++[.lst []]) (.ok .nxt,Y',τ++[.lst ((F.map λq=>(q,Cn P q)).map eAV)])/\Y' 8=some (.ref τ.length):=by
 have hI:∀ l:Sto,(τ++l)[kf]?=some (.lst (F.map plV)):=λl=>(bD (aN.mp hf).1).trans hf;have hJ:∀ l:Sto,(τ++l)[kp]?=some (.lst (P.map piV)):=λl=>(bD (aN.mp hp).1).trans hp;have L:=Hn (lv:=lv) (I:=λJ'=>J'[kf]?=some (.lst (F.map plV))) (Inv:=λrest Y J'=>∃ F' acc,P3 τ P F kp rest Y J' F' acc) (t:=.var 9) (q:=Yx) (λ_ _ _ i=>e21 i λP' fr N=>N.s▸hI _) (λx rest Y J' i=>e21 i λF' acc N=>by
  match F',N with
  | [],N=>exact absurd N.r (by simp)
  | q::F',N=>
   refine cnE N.r λhx hr=>?_;have hq:=ha q (by rw [<- N.e];exact aI _ (.head _));have hB:=(Dy hq).2.2.2.1;have hJ':J'[τ.length]?=some (.lst ((acc.map λq=>(q,Cn P q)).map eAV)):=N.s▸Co;have hlen:=aJ List.length N.e;rw [aL] at hlen;have hp:=Kb (x:=eAV (q,Cn P q)) hJ' (by rw [aF,aF];exact lec (fk [F.length,acc.length,(q::F').length] [(1,(.a (.v 0) (.n 1)),(.n 900)),(1,(.a (.v 1) (.v 2)),(.v 0)),(1,(.a (.n 1000) (.n 1)),(.v 1))] rfl hl (aD hlen)));rw [N.s,Ib] at hp;have et:=Awz (lv:=lv) (Y:=put Y 9 (plV q)) (J:=J') N.v.1 N.v.2.1 rfl (N.s▸hJ _) (aT hP (by decide));have hc:EvE lv (put (put Y 9 (plV q)) 10 (.int (Cn P q))) (.bin .add (.lst false [(.lit (.str ⟨#[]⟩))]) (.or [(.cvar 9),(.lst false [(.lit (.str ⟨#[]⟩))])])) J' (.ok (.lst ((cpN q).map mk))) J':=by
    unfold cpN;by_cases z:q=[]
    . rw [if_pos z];exact Ba (Dx (l1 Af) (by show 1<1000;decide)) (Er (Ep (v:=plV q) rfl) (by rw [z];rfl) (Ke (Dx (l1 Af) (by show 1<1000;decide)))) (Kf (xs:=[mk []]) (ys:=[mk []]) (by show 1+1<1000;decide))
    . rw [if_neg z];have hm:((q.map mk).length≠0):=by rw [aF];exact λh=>z (bJ h)
      exact Ba (Dx (l1 Af) (by show 1<1000;decide)) (Gq (Ep (v:=plV q) rfl) (by show some (Except.ok (decide ((q.map mk).length≠0)),J')=_;rw [aC hm])) (Kf (by rw [aF];exact aV (Nat.add_le_add_left hq.1 1) (by decide)))
   have hj:methA (mk [47]) .join [plV q] J'=some (.ok (mk (Bm [47] q)),J'):=by
    show (match Fc (q.map mk) with | some l=>_ | none=>_:M AV) J'=_;rw [Mm];show M.grd (decide ((Bm [47] q).length<lim)) _ J'=_;rw [aC (aT (cN _) (aT hB (by unfold lim;decide)))];rfl
   have hd:EvE lv (put (put Y 9 (plV q)) 10 (.int (Cn P q))) (.bin .add (.lit (.str ⟨#[47]⟩)) (.meth (.lit (.str ⟨#[47]⟩)) .join [(.cvar 9)])) J' (.ok (mk (Ak q))) J':=Ba Af (Av Af rfl (l1 (Ep rfl)) hj) (Je (x:=[47]) (aV (aD (Nat.add_comm 1 _)) (aT hB (by decide))));exact⟨put Y 9 (plV q),by rw [hx];rfl,.nxt,_,_,.inl rfl,Ad et (Bz (Av (Aa N.v.2.2) (Fx hJ' rfl) (l1 (Fa (l3 (Oo (Aa rfl)) hc hd) (by show 3<1000;decide))) (N.s▸hp)) Ah),F',acc++[q],hr,by rw [bC];exact N.e,by rw [bP,bP];rfl,N.v⟩)
  (Fy (k:=kf) (F.map plV) 0 rfl) (Y:=Y) (J:=τ++[.lst []]) ⟨F,[],rfl,rfl,rfl,hF,h1,h8⟩
 refine e22 L λY' J' hL i=>e21 i λF' acc N=>?_;have he:=N.e;rw [Aob N.r,bW] at he;rw [N.s,he] at hL;exact⟨Y',Db (Dd (Aa h6) (Mp (hI _))) rfl hL,N.v.2.2⟩
theorem Axa(hσ:J[kf]?=some (.lst (fs.map fAV)))(hC:Gw fs [])(hP:(Bc fs []).length<100)(hg:∀ e∈Bc fs [],Bh 4 e.2)(hl:(frF (Bc fs []) []).length<900)
 (hs:Cy (((frF (Bc fs []) []).map λq=>(q,Cn (Bc fs []) q)).map eAV)=some YY) (hY:YY.length<900):∃ l:Sto,EvC (lv+2) 281 [.ref kf] J (.ok (.lst YY)) (J++l):=by
 have a1:∀ {J:Sto} {o:Al},(J++[o]).length=J.length+1:=λ{J o}=>by rw [aL];rfl
 have hq:∀ q∈frF (Bc fs []) [],Bh 4 q:=λq hm=>by
  have:=((Td (Bc fs []) List.nodup_nil).2 q).mp hm;exact (this.resolve_left bH).elim λe h=>⟨bA h.2.length_le (hg e h.1).1,λx hx=>(hg e h.1).2 x (h.2.subset hx)⟩
 refine e13 (Azq (lv:=lv) (Y:=put (put (λi=>[AV.ref kf][i]?) 1 (.ref J.length)) 2 (.lst [])) hσ hC (aT hP (by decide)) rfl rfl rfl rfl) λρ1 x1 f1 g1=>?_;obtain ⟨τ2,h2⟩:∃ τ,τ=J++[Al.lst ((Bc fs []).map piV)]:=⟨_,rfl⟩;rw [<- h2] at x1;refine e14 (Azr (lv:=lv+1) (kp:=J.length) (τ:=τ2) (Y:=put ρ1 6 (.ref τ2.length)) (h2▸Co) hP (λe he=>(hg e he).1) f1 g1 rfl) λY2 x2 f2 g2 g3=>?_;obtain ⟨τ3,h3⟩:∃ τ,τ=τ2++[Al.lst ((frF (Bc fs []) []).map plV)]:=⟨_,rfl⟩;rw [<- h3] at x2;refine e12 (Azs (lv:=lv+1) (kp:=J.length) (kf:=τ2.length) (τ:=τ3) (P:=Bc fs []) (Y:=put Y2 8 (.ref τ3.length)) (by rw [h3,bD (by rw [h2,a1];exact cN _),h2];exact Co) (h3▸Co) hP hl hq f2 g2 g3 rfl) λY3 x3 g8=>?_;refine⟨[Al.lst ((Bc fs []).map piV),Al.lst ((frF (Bc fs []) []).map plV),Al.lst (((frF (Bc fs []) []).map λq=>(q,Cn (Bc fs []) q)).map eAV)],?_⟩;rw [show ∀ a b c:Al,J++[a,b,c]=J++[a]++[b]++[c] from λa b c=>by rw [bC,bC];rfl,<- h2,<- h3];refine Cs [.ref kf] (by decide) rfl rfl ⟨_,Ad Jc (Ad (Dx Fv (by decide)) (Dc x1 (Ad Jc (Dc x2 (Ad Jc (Dc x3 (Ck (Bx (l1 (Aa g8)) ?_))))))))⟩;show ((Bv (.ref τ3.length)).bnd λxs=>(M.ofOpt (Cy xs)).bnd λys=>M.grd (decide (ys.length<lim)) (M.ret (AV.lst ys))) _=_;rw [bO (Cg Co),hs];show M.grd (decide (YY.length<lim)) _ _=_;rw [aC (aT hY (by unfold lim;decide))];rfl
end
noncomputable def nm4:List Nm:=[[],[97],[97,45],[98]]
noncomputable def Ec(c:Nm):Nat:=if c=[] then 1 else if c=[97] then 2 else if c=[97,45] then 3 else 4
noncomputable def cd(n:Nat):Pl->Nat:=Nat.rec (λ_=>0) (λn go l=>List.rec 0 (λc r _=>Ec c*5 ^ n+go r) l) n
noncomputable def Azt(v:AV):Nat:=match v with
 | .str s=>Ec s.cps.toList
 | _=>0
noncomputable def cdV(n:Nat):List AV->Nat:=Nat.rec (λ_=>0) (λn go l=>List.rec 0 (λc r _=>Azt c*5 ^ n+go r) l) n
noncomputable def tri(i:Int)(l:Pl)(s:List Nat):AV:=.tup [.int i,.lst (l.map mk),mk s]
noncomputable def big:Int:=1000000
noncomputable def rk(v:AV):Nat:=match v with
 | .tup (.int i::.lst l::_)=>(i+big).toNat*5 ^ 5+cdV 5 l
 | _=>0
theorem nmT:(nm4.all λa=>nm4.all λb=>decide (Tq ⟨a.toArray⟩ ⟨b.toArray⟩=decide (Ec a<Ec b)/\(Ec a=Ec b->a=b)/\1<=Ec a/\Ec a<=4))=true:=by decide +kernel
section
variable{l m:Pl}{i j:Int}{s t:List Nat}{n:Nat}{a b:Nm}{f lt:AV->AV->Option Bool}
theorem Aod(ha:a∈nm4)(hb:b∈nm4):Tq ⟨a.toArray⟩ ⟨b.toArray⟩=decide (Ec a<Ec b)/\(Ec a=Ec b->a=b)/\1<=Ec a/\Ec a<=4:=aB (bI.mp (bI.mp nmT a ha) b hb)
theorem Atq:∀ (n:Nat) {l:Pl},cdV n (l.map mk)=cd n l:=λn=>by
 induction n with
 | zero=>exact rfl
 | succ n ih=>
  intro l
  cases l with
  | nil=>rfl
  | cons c r=>exact aJ (Ec c*5 ^ n+·) ih
theorem Os:∀ (n:Nat) {l:Pl},(∀ c∈l,c∈nm4)->cd n l<5 ^ n:=λn=>by
 induction n with
 | zero=>exact λ_=>Nat.one_pos
 | succ n ih=>
  intro l h
  cases l with
  | nil=>exact Nat.pow_pos (by decide)
  | cons c r=>
   have h1:=ih λx hx=>h x (.tail _ hx);have h2:=(Aod (h c (.head _)) (h c (.head _))).2.2.2;show Ec c*5 ^ n+cd n r<5 ^ n*5;have h3:=Nat.mul_le_mul_right (5 ^ n) h2;omega
theorem lex{x y w u v:Nat}(hu:u<w)(hv:v<w):(x*w+u<y*w+v↔x<y\/(x=y/\u<v))/\(x*w+u=y*w+v->x=y/\u=v):=by
 have key:∀ {x y u v:Nat},u<w->x<y->x*w+u<y*w+v:=λ{x y u v} hu h=>by
  have:=Nat.mul_le_mul_right w h;rw [Nat.succ_mul] at this;exact ltc (fk [u,w,x*w,y*w,v] [(1,(.a (.v 0) (.n 1)),(.v 1)),(1,(.a (.v 2) (.v 1)),(.v 3)),(1,(.a (.v 3) (.v 4)),(.a (.v 2) (.v 0)))] rfl hu this)
 rcases Nat.lt_trichotomy x y with h | h | h
 . exact⟨⟨λ_=>.inl h,λ_=>key hu h⟩,λe=>absurd e (aW (key hu h))⟩
 . subst h;exact⟨⟨λe=>.inr ⟨rfl,Nat.lt_of_add_lt_add_left e⟩,λe=>e.elim (λh=>absurd h (cZ _)) λh=>Nat.add_lt_add_left h.2 _⟩,λe=>⟨rfl,Nat.add_left_cancel e⟩⟩
 . have:=key (v:=u) hv h;exact⟨⟨λe=>absurd e (Nat.lt_asymm this),λe=>e.elim (λh'=>absurd h' (Nat.lt_asymm h)) λh'=>absurd h'.1 (bT h)⟩,λe=>absurd e (bT this)⟩
theorem Aiz(hf:∀ a b:Nm,f (mk a) (mk b)=some (decide (a=b))):∀ {l m:Pl},l.length=m.length->eqL f (l.map mk) (m.map mk)=some (decide (l=m)):=λ{l}=>by
 induction l with
 | nil=>intro m h;rw [bJ h.symm];rfl
 | cons a r ih=>
  intro m h
  cases m with
  | nil=>exact nomatch h
  | cons b s=>
   show (match f (mk a) (mk b),eqL f (r.map mk) (s.map mk) with | some b,some c=>some (b&&c) | _,_=>none)=_;rw [ih (Nat.succ.inj h),hf];refine aJ some ?_;rw [<- Bool.decide_and];exact bU.mpr ⟨λh=>by rw [h.1,h.2],λh=>by injection h with h1 h2;exact⟨h1,h2⟩⟩
theorem Axb(hf:∀ a b:Nm,f (mk a) (mk b)=some (decide (a=b)))(hl:∀ a b:Nm,lt (mk a) (mk b)=some (Tq ⟨a.toArray⟩ ⟨b.toArray⟩)):∀ (n:Nat) {l m:Pl},l.length<=n->m.length<=n->(∀ c∈l,c∈nm4)->(∀ c∈m,c∈nm4)->
 ltL f lt (l.map mk) (m.map mk)=some (decide (cd n l<cd n m))/\(cd n l=cd n m->l=m):=λn=>by
 induction n with
 | zero=>intro l m h1 h2 _ _;rw [bJ (Nat.le_zero.mp h1),bJ (Nat.le_zero.mp h2)];exact⟨rfl,λ_=>rfl⟩
 | succ n ih=>
  intro l m h1 h2 k1 k2;have pos:∀ {c:Nm} {r:Pl},(∀ x∈c::r,x∈nm4)->0<cd (n+1) (c::r):=λ{c r} h=>cF (Nat.mul_pos (Aod (h c (.head _)) (h c (.head _))).2.2.1 (Nat.pow_pos (by decide))) (cB (Ec c*5 ^ n) (cd n r))
  cases l with
  | nil=>cases m with
   | nil=>exact⟨rfl,λ_=>rfl⟩
   | cons b s=>exact⟨by rw [aC (show cd (n+1) []<_ from pos k2)];exact aJ some (aC (Nat.succ_pos _)),λe=>absurd e (aW (pos k2))⟩
  | cons a r=>cases m with
   | nil=>exact⟨by rw [aP (show ¬ _<cd (n+1) [] from Nat.not_lt_zero _)];exact aJ some (aP (Nat.not_lt_zero _)),λe=>absurd e (bT (pos k1))⟩
   | cons b s=>
    refine e02 (ih (Nat.le_of_succ_le_succ h1) (Nat.le_of_succ_le_succ h2) (λc hc=>k1 c (.tail _ hc)) λc hc=>k2 c (.tail _ hc)) λi1 i2=>?_;have hn:=Aod (k1 a (.head _)) (k2 b (.head _));have hx:=lex (x:=Ec a) (y:=Ec b) (Os n (l:=r) λc hc=>k1 c (.tail _ hc)) (Os n (l:=s) λc hc=>k2 c (.tail _ hc));show (match f (mk a) (mk b) with | some true=>ltL f lt (r.map mk) (s.map mk) | some false=>lt (mk a) (mk b) | Option.none=>Option.none)=some (decide (Ec a*5 ^ n+cd n r<Ec b*5 ^ n+cd n s))/\(Ec a*5 ^ n+cd n r=Ec b*5 ^ n+cd n s->a::r=b::s);refine⟨?_,λe=>by rw [hn.2.1 (hx.2 e).1,i2 (hx.2 e).2]⟩;rw [hf];by_cases z:a=b
    . rw [aC z];refine i1.trans (aJ some (bU.mpr ?_));rw [hx.1];exact⟨λh=>.inr ⟨by rw [z],h⟩,λh=>h.elim (λh=>absurd h (by rw [z];exact cZ _)) And.right⟩
    . rw [aP z];refine (hl a b).trans (aJ some ?_);rw [hn.1];refine bU.mpr ?_;rw [hx.1];exact⟨.inl,λh=>h.elim id λh=>absurd (hn.2.1 h.1) z⟩
theorem Lh:rk (tri i l s)=(i+big).toNat*5 ^ 5+cd 5 l:=aJ ((i+big).toNat*5 ^ 5+·) (Atq 5)
structure Abl(i:Int)(l:Pl):Prop where
 ok:0<=i+big
 len:l.length<=5
 nm:∀ c∈l,c∈nm4
theorem Te{k:Nat}(h1:Abl i l)(h2:Abl j m)(h:l=m->s=t):ltA (k+3) (tri i l s) (tri j m t)=some (decide (rk (tri i l s)<rk (tri j m t)))/\(rk (tri i l s)=rk (tri j m t)->i=j/\l=m):=by
 have hx:=lex (x:=(i+big).toNat) (y:=(j+big).toNat) (Os 5 h1.nm) (Os 5 h2.nm);have hL:=Axb (f:=eqA (k+1)) (lt:=ltA (k+1)) (λa b=>aJ some Cv) (λa b=>rfl) 5 h1.len h2.len h1.nm h2.nm;obtain ⟨a,ha⟩:=Int.eq_ofNat_of_zero_le h1.ok;obtain ⟨b,hb⟩:=Int.eq_ofNat_of_zero_le h2.ok;have hi:((i+big).toNat<(j+big).toNat↔i<j)/\((i+big).toNat=(j+big).toNat↔i=j):=by
  rw [<- Int.add_lt_add_iff_right (a:=i) (b:=j) (c:=big),<- Int.add_left_inj (i:=i) (j:=j) big,ha,hb];exact⟨dA.symm,Int.ofNat_inj.symm⟩
 rw [Lh,Lh];refine⟨?_,λe=>⟨hi.2.mp (hx.2 e).1,hL.2 (hx.2 e).2⟩⟩;show (match some (i == j) with | some true=>(match (if (l.map mk).length=(m.map mk).length then eqL (eqA (k+1)) (l.map mk) (m.map mk) else some false) with | some true=>(match eqA (k+2) (mk s) (mk t) with | some true=>some (decide (([]:List AV).length<([]:List AV).length)) | some false=>ltA (k+2) (mk s) (mk t) | Option.none=>Option.none) | some false=>ltL (eqA (k+1)) (ltA (k+1)) (l.map mk) (m.map mk) | Option.none=>Option.none) | some false=>some (decide (i<j)) | Option.none=>Option.none)=_;by_cases z:i=j
 . rw [show (i == j)=true from beq_iff_eq.mpr z];have hd:decide ((i+big).toNat*5 ^ 5+cd 5 l<(j+big).toNat*5 ^ 5+cd 5 m)=decide (cd 5 l<cd 5 m):=bU.mpr (by
    rw [hx.1,hi.1,hi.2];exact⟨λh=>h.elim (λh=>absurd z (Int.ne_of_lt h)) And.right,λh=>.inr ⟨z,h⟩⟩)
   rw [hd,aF,aF];by_cases w:l=m
   . rw [if_pos (aJ List.length w),Aiz (λa b=>aJ some Cv) (aJ List.length w),aC w,show eqA (k+2) (mk s) (mk t)=some (decide (s=t)) from aJ some Cv,aC (h w),w,aP (cZ (cd 5 m))];rfl
   . have:(if l.length=m.length then eqL (eqA (k+1)) (l.map mk) (m.map mk) else some false)=some false:=by
      by_cases q:l.length=m.length
      . rw [if_pos q,Aiz (λa b=>aJ some Cv) q,aP w]
      . exact if_neg q
     rw [this];exact hL.1
 . rw [show (i == j)=false from cL.mpr z];refine aJ some (bU.mpr ?_);rw [hx.1,hi.1,hi.2];exact⟨.inl,λh=>h.elim id λh=>absurd h.1 z⟩
end
noncomputable def mkV:AV:=tri (-1000000) [] []
noncomputable def EOk(e:Pl×Int):Prop:=Bh 4 e.1/\0<=e.2/\e.2<1000000
noncomputable def Qe(v:AV):Prop:=v=mkV\/∃ e,EOk e/\v=eAV e
noncomputable abbrev rE(e:Pl×Int):Nat:=rk (eAV e)
section
variable{e d:Pl×Int}{p q:Pl}{E S:Dl}
theorem Abm:∀ {c:Nm},c∈nms->c∈nm4/\c≠[]:=λ{c} h=>aB (bI.mp (show (nms.all λc=>decide (c∈nm4/\c≠[]))=true by decide +kernel) c h)
theorem Jf(h:EOk e):Abl (-e.2) (cpN e.1):=by
 refine⟨by have:=h.2.2;unfold big;omega,?_,λc hc=>?_⟩
 . unfold cpN;split
   . exact (by decide:2<=5)
   . exact cJ h.1.1
 . unfold cpN at hc;rcases aM.mp hc with hc | hc
   . rw [hc];decide +kernel
   . split at hc
     . rw [aQ.mp hc];decide +kernel
     . exact (Abm (h.1.2 c hc)).1
theorem Aja(hp:Bh 4 p)(hq:Bh 4 q)(h:cpN p=cpN q):p=q:=by
 rw [<- (Dy hp).2.2.1,<- (Dy hq).2.2.1];unfold Aid;have e1:Aj 47 (Ak p)=cpN p:=(Dy hp).1;have e2:Aj 47 (Ak q)=cpN q:=(Dy hq).1;by_cases z:p=[]
 . by_cases w:q=[]
   . rw [z,w]
   . unfold cpN at h;rw [if_pos z,if_neg w] at h;injection h with _ h;exact absurd rfl (Abm (hq.2 [] (h▸List.mem_singleton_self _))).2
 . by_cases w:q=[]
   . unfold cpN at h;rw [if_neg z,if_pos w] at h;injection h with _ h;exact absurd rfl (Abm (hp.2 [] (h▸List.mem_singleton_self _))).2
   . rw [if_neg λh=>z ((Dy hp).2.2.2.2.2.mp h),if_neg λh=>w ((Dy hq).2.2.2.2.2.mp h),e1,e2,h]
theorem Ze{k:Nat}(h1:EOk e)(h2:EOk d):ltA (k+3) (eAV e) (eAV d)=some (decide (rE e<rE d))/\(rE e=rE d->e.1=d.1/\e.2=d.2):=
 have:=Te (k:=k) (s:=Ak e.1) (t:=Ak d.1) (Jf h1) (Jf h2) λh=>aJ Ak (Aja h1.1 h2.1 h)
 ⟨this.1,λh=>⟨Aja h1.1 h2.1 (this.2 h).2,Int.neg_inj.mp (this.2 h).1⟩⟩
theorem Axc:rk mkV=0:=by decide +kernel
theorem Tf:Abl (-1000000) []:=⟨by decide,by decide,λc h=>nomatch h⟩
theorem Atr(h:EOk e):0<rE e:=by
 show 0<rk (tri _ _ _);rw [Lh];have h1:0<(-e.2+big).toNat:=by have:=h.2.2;unfold big;omega
 exact cF (Nat.mul_pos h1 (by decide)) (cB _ _)
theorem lts:Lts Qe rk:=by
 intro a b ha hb;rcases ha with rfl | ⟨e,he,rfl⟩
 . rcases hb with rfl | ⟨d,hd,rfl⟩
   . exact (Te (k:=5) Tf Tf λ_=>rfl).1
   . exact (Te (k:=5) (t:=Ak d.1) Tf (Jf hd) λh=>nomatch h).1
 . rcases hb with rfl | ⟨d,hd,rfl⟩
   . exact (Te (k:=5) (s:=Ak e.1) (Jf he) Tf λh=>nomatch h).1
   . exact (Ze (k:=5) he hd).1
theorem q_e(h:EOk e):Qe (eAV e):=.inr ⟨e,h,rfl⟩
noncomputable abbrev Srt(S:Dl):Prop:=S.Pairwise λa b=>rE a<rE b
theorem Abn(hE:∀ e∈E,EOk e)(hn:(E.map (·.1)).Nodup):∃ S:Dl,S.Perm E/\Srt S:=by
 refine⟨E.mergeSort λa b=>decide (rE a<=rE b),List.mergeSort_perm _ _,?_⟩;have hs:=List.pairwise_mergeSort (le:=λa b=>decide (rE a<=rE b)) (λa b c h1 h2=>aC (bA (aB h1) (aB h2))) (λa b=>by rcases Nat.le_total (rE a) (rE b) with h | h <;> simp [h]) E
 have hp:=List.mergeSort_perm E λa b=>decide (rE a<=rE b);have hd:((E.mergeSort λa b=>decide (rE a<=rE b)).map (·.1)).Nodup:=(hp.map _).nodup_iff.mpr hn;refine (hs.and (List.pairwise_map.mp hd)).imp_of_mem λ{a b} ha hb h=>bK (aB h.1) λq=>h.2 ((Ze (k:=0) (hE a (hp.mem_iff.mp ha)) (hE b (hp.mem_iff.mp hb))).2 q).1
theorem Jr(hE:∀ e∈E,EOk e)(h2:2<=E.length)(h64:E.length<64)(hp:S.Perm E)(hs:Srt S):Cy (E.map eAV)=some (S.map eAV):=by
 refine Vl (r:=rk) (by rwa [aF]) (by rwa [aF]) ?_ (λa ha b hb=>?_) (hp.map _) (List.pairwise_map.mpr hs)
 . rw [bI.mpr λx hx=>e12 (bL.mp hx) λe _ h=>h▸rfl];rfl
 . exact e12 (bL.mp ha) λe he h=>e12 (bL.mp hb) λd hd h'=>by rw [<- h,<- h'];exact (Ze (k:=5) (hE e he) (hE d hd)).1
end
noncomputable def Fz(A L:Dl):Dl:=L.filter λe=>decide (e.1=[]\/e.1.dropLast∈A.map (·.1))
noncomputable def Gu(E:Dl)(q:Pl):Dl:=E.filter λe=>decide (e.1≠[]/\e.1.dropLast=q)
structure Hs(S:Dl):Prop where
 ok:∀ e∈S,EOk e
 nd:(S.map (·.1)).Nodup
 st:Srt S
 up:∀ e∈S,e.1≠[]->∃ d∈S,d.1=e.1.dropLast/\rE d<rE e
section
variable{e d x:Pl×Int}{p q l:Pl}{E S A B:Dl}{P:Ps}{n:Nat}{c:Nm}
theorem Aoe:∀ (n:Nat) {l:Pl},l.length<n->c∈nm4->cd n l<cd n (l++[c]):=λn=>by
 induction n with
 | zero=>exact λh=>absurd h (Nat.not_lt_zero _)
 | succ n ih=>
  intro l h hc
  cases l with
  | nil=>exact cF (Nat.mul_pos (Aod hc hc).2.2.1 (Nat.pow_pos (by decide))) (cB (Ec c*5 ^ n) (cd n []))
  | cons a r=>exact Nat.add_lt_add_left (ih (Nat.lt_of_succ_lt_succ h) hc) (Ec a*5 ^ n)
theorem Axd(h:Bh 4 p)(hp:p≠[]):cd 5 (cpN p.dropLast)<cd 5 (cpN p):=by
 have hl:p.getLast hp∈nms:=h.2 _ (List.getLast_mem hp);have e:p.dropLast++[p.getLast hp]=p:=dK hp;have e1:cpN p=[]::(p.dropLast++[p.getLast hp]):=by rw [e];unfold cpN;rw [if_neg hp]
 rw [e1];by_cases z:p.dropLast=[]
 . rw [z];have:nms.all (λc=>decide (cd 5 (cpN [])<cd 5 ([]::([]++[c]))))=true:=by decide +kernel
   exact aB (bI.mp this _ hl)
 . rw [show cpN p.dropLast=[]::p.dropLast by unfold cpN;rw [if_neg z]];refine Aoe 5 (l:=[]::p.dropLast) ?_ (Abm hl).1;rw [bE,dZ];have:=h.1;omega
theorem Ats(hq:q<+:p)(P:Ps):Cn P p<=Cn P q:=by
 induction P with
 | nil=>exact Int.le_refl _
 | cons e r ih=>
  show (if e.2.take p.length=p then (e.1:Int) else 0)+Cn r p<=(if e.2.take q.length=q then (e.1:Int) else 0)+Cn r q;refine Int.add_le_add ?_ ih;by_cases z:e.2.take p.length=p
  . rw [if_pos z,if_pos (Tc.mpr (hq.trans (Tc.mp z)))];exact Int.le_refl _
  . rw [if_neg z];split
    . exact bN _
    . exact Int.le_refl _
theorem Ajb(P:Ps):0<=Cn P p:=by
 induction P with
 | nil=>exact Int.le_refl _
 | cons e r ih=>
  show 0<=(if e.2.take p.length=p then (e.1:Int) else 0)+Cn r p;refine Int.add_nonneg ?_ ih;split
  . exact bN _
  . exact Int.le_refl _
theorem Axe(h:EOk e)(hd:EOk d)(hp:e.1≠[])(h1:d.1=e.1.dropLast)(h2:e.2<=d.2):rE d<rE e:=by
 have a:=Jf h;have b:=Jf hd;show rk (tri (-d.2) (cpN d.1) (Ak d.1))<rk (tri (-e.2) (cpN e.1) (Ak e.1));rw [Lh,Lh];have hc:=Axd h.1 hp;rw [<- h1] at hc;refine (lex (Os 5 b.nm) (Os 5 a.nm)).1.mpr ?_;rcases Int.lt_or_eq_of_le h2 with h | h
 . refine .inl ((Int.toNat_lt_toNat (Int.lt_of_le_of_lt b.ok ?_)).mpr ?_) <;> exact Int.add_lt_add_right (Int.neg_lt_neg h) _
 . rw [h];exact .inr ⟨rfl,hc⟩
theorem Aof(hP:∀ e∈P,Bh 4 e.2)(hb:∀ q,Cn P q<1000000)(hp:S.Perm ((frF P []).map λq=>(q,Cn P q)))(hs:Srt S):Hs S:=by
 have hF:=Td P List.nodup_nil;have hm:∀ {q:Pl} {t:Int},(q,t)∈S↔Und P q/\t=Cn P q:=λ{q t}=>by
  rw [hp.mem_iff,bL];exact⟨λ⟨r,hr,h⟩=>prE h λh1 h2=>⟨by rw [<- h1];exact ((hF.2 r).mp hr).resolve_left bH,by rw [<- h1,h2]⟩,λh=>⟨q,(hF.2 q).mpr (.inr h.1),by rw [h.2]⟩⟩
 have ok:∀ e∈S,EOk e:=λe he=>by
  have h:=hm.mp he;refine⟨h.1.elim λd hd=>⟨bA hd.2.length_le (hP d hd.1).1,λx hx=>(hP d hd.1).2 x (hd.2.subset hx)⟩,?_,?_⟩
  . rw [h.2];exact Ajb P
  . rw [h.2];exact hb _
 refine⟨ok,(hp.map _).nodup_iff.mpr ?_,hs,λe he hn=>?_⟩
 . rw [List.map_map];exact (List.map_id (frF P [])).symm▸hF.1
 . have h:=hm.mp he;have hd:(e.1.dropLast,Cn P e.1.dropLast)∈S:=hm.mpr ⟨h.1.imp λd hd=>⟨hd.1,(List.dropLast_prefix e.1).trans hd.2⟩,rfl⟩;exact⟨_,hd,rfl,Axe (ok e he) (ok _ hd) hn rfl (by rw [h.2];exact Ats (List.dropLast_prefix e.1) P)⟩
theorem Zf(G:Hs (A++e::B)):(∀ a∈A,rE a<rE e)/\∀ b∈B,rE e<rE b:=by
 have h:=List.pairwise_append.mp G.st;exact⟨λa ha=>h.2.2 a ha e (.head _),(List.pairwise_cons.mp h.2.1).1⟩
theorem Abo(G:Hs S)(h1:d∈S)(h2:e∈S)(h:d.1=e.1):d=e:=by
 have:=(Mo G.nd d).mp h1;rw [h,(Mo G.nd e).mp h2] at this;exact Prod.ext h (bG this).symm
theorem Zg(G:Hs (A++e::B)):e∈Fz A (e::B)/\∀ d∈Fz A (e::B),d≠e->rE e<rE d:=by
 have he:e∈A++e::B:=aI _ (.head _);refine⟨cM.mpr ⟨.head _,aC ?_⟩,λd hd hn=>?_⟩
 . by_cases z:e.1=[]
   . exact .inl z
   . refine .inr (e13 (G.up e he z) λd hd h1 h2=>?_);rw [<- h1];refine bY (f:=(·.1)) ((aZ.mp hd).resolve_right λh=>?_);rcases aM.mp h with h | h
     . rw [h] at h2;exact absurd h2 (cZ _)
     . exact absurd h2 (Nat.lt_asymm ((Zf G).2 d h))
 . exact (Zf G).2 d ((aM.mp (cM.mp hd).1).resolve_left hn)
theorem Aog(G:Hs S):S.Nodup:=List.Pairwise.of_map _ (λa b h e=>h (aJ (·.1) e)) G.nd
theorem Ajc(G:Hs (A++e::B))(hE:E.Perm (A++e::B)):(Fz A (e::B)++Gu E e.1).Perm (e::Fz (A++[e]) B):=by
 have hn:=dH.mp (Aog G);have hn2:=bZ.mp hn.2.1;have he:e∈A++e::B:=aI _ (.head _);have hA:∀ {q:Pl},q∈(A++[e]).map (·.1)↔q∈A.map (·.1)\/q=e.1:=λ{q}=>by rw [bP,aZ];exact or_congr_right aQ
 have hk:e.1∉A.map (·.1):=λh=>e12 (bL.mp h) λd hd h=>hn.2.2 d hd e (.head _) (Abo G (aG _ hd) he h);have hKm:∀ {x:Pl×Int},x∈Gu E e.1↔x∈B/\x.1≠[]/\x.1.dropLast=e.1:=λ{x}=>by
  unfold Gu;rw [cM,hE.mem_iff,decide_eq_true_iff];refine⟨λh=>⟨?_,h.2⟩,λh=>⟨aI _ (.tail _ h.1),h.2⟩⟩;refine e13 (G.up x h.1 h.2.1) λd hd h1 h2=>?_;rw [h.2.2] at h1;rw [Abo G hd he h1] at h2;rcases aZ.mp h.1 with h' | h'
  . exact absurd h2 (Nat.lt_asymm ((Zf G).1 x h'))
  . exact (aM.mp h').resolve_left λh=>by rw [h] at h2;exact absurd h2 (cZ _)
 have hf:=Zg G;refine (List.perm_ext_iff_of_nodup (dH.mpr ⟨hn.2.1.filter _,((hE.nodup_iff.mpr (Aog G)).filter _),λa ha b hb h=>?_⟩) (bZ.mpr ⟨λh=>hn2.1 (cM.mp h).1,hn2.2.filter _⟩)).mpr λx=>?_
 . have hb:=hKm.mp hb;have ha:=aB (cM.mp ha).2;rw [h] at ha;exact ha.elim hb.2.1 λh=>hk (hb.2.2▸h)
 . refine aZ.trans ((or_congr_right hKm).trans ?_);rw [aM,cM,cM,decide_eq_true_iff,decide_eq_true_iff,hA,aM]
   constructor
   . rintro (⟨rfl | h1,h2⟩ | ⟨h1,h2,h3⟩)
     . exact .inl rfl
     . exact .inr ⟨h1,h2.imp id .inl⟩
     . exact .inr ⟨h1,.inr (.inr h3)⟩
   . rintro (rfl | ⟨h1,h2⟩)
     . exact .inl ⟨.inl rfl,aB (cM.mp hf.1).2⟩
     . by_cases z:x.1=[]
       . exact .inl ⟨.inr h1,.inl z⟩
       . rcases h2.resolve_left z with h | h
         . exact .inl ⟨.inr h1,.inr h⟩
         . exact .inr ⟨h1,z,h⟩
end
noncomputable abbrev Es:Type:=List (Str×AV)
noncomputable def Dk(es:Es)(E:Dl):Prop:=∀ q,Bh 4 q->(Be es (pS q)).getD (.lst [])=.lst ((Gu E q).map eAV)
section
variable{lv k kd kh n i c:Nat}{Y Y':Ae}{J J' τ l:Sto}{e d x:Pl×Int}{p q l1' l2':Pl}{E S A B C R L:Dl}{es:Es}{xs ys zs T:List AV}{v w:AV}{o:Al}{ii jj:Int}{s t:List Nat}
theorem Cw:(J++l)[J.length+i]?=l[i]?:=by rw [cK (cB _ _),Nat.add_sub_cancel_left]
theorem Zh:(J++l).set (J.length+i) o=J++l.set i o:=by rw [List.set_append_right _ _ (cB _ _),Nat.add_sub_cancel_left]
theorem Aoh{a b:Str}:Be (Hb es a v) b=if (b == a)=true then some v else Be es b:=by
 induction es with
 | nil=>show (match b == a with | true=>some v | false=>none)=_;cases b == a <;> rfl
 | cons c r ih=>
  show Be (if (c.1 == a)=true then (c.1,v)::r else c::Hb r a v) b=if (b == a)=true then some v else (match b == c.1 with | true=>some c.2 | false=>Be r b);by_cases z:c.1=a
  . rw [if_pos (beq_iff_eq.mpr z)];show (match b == c.1 with | true=>some v | false=>Be r b)=_;rw [z];cases b == a <;> rfl
  . rw [if_neg λh=>z (beq_iff_eq.mp h)];show (match b == c.1 with | true=>some c.2 | false=>Be (Hb r a v) b)=_;rw [ih];by_cases w:b=a
    . rw [if_pos (beq_iff_eq.mpr w),if_pos (beq_iff_eq.mpr w),show (b == c.1)=false from cL.mpr λh=>z (h.symm.trans w)]
    . rw [if_neg λh=>w (beq_iff_eq.mp h),if_neg λh=>w (beq_iff_eq.mp h)]
theorem Aoi{a:Str}:(Hb es a v).length<=es.length+1:=by
 induction es with
 | nil=>exact aU _
 | cons c r ih=>
  show (if (c.1 == a)=true then (c.1,v)::r else c::Hb r a v).length<=_;split
  . exact Nat.le_succ _
  . exact cJ ih
theorem Aoj(h:Dk es E)(he:Bh 4 e.1)(hn:e.1≠[]):Dk (Hb es (pS e.1.dropLast) (.lst ((Gu E e.1.dropLast).map eAV++[eAV e]))) (E++[e]):=λq hq=>by
 rw [Aoh,Abh hq (he.drop.mono (show 4 - 1<=4 by decide))];unfold Gu;rw [List.filter_append];by_cases z:q=e.1.dropLast
 . rw [if_pos (aC z),List.filter_cons_of_pos (p:=λe:Pl×Int=>decide (e.1≠[]/\e.1.dropLast=q)) (aC ⟨hn,z.symm⟩),z,bP];rfl
 . rw [if_neg (by rw [aP z];decide),eD (p:=λe:Pl×Int=>decide (e.1≠[]/\e.1.dropLast=q)) (by rw [aP λh=>z h.2.symm];decide)];rw [List.filter_nil,bW];exact h q hq
theorem Aok(h:Dk es E)(hn:e.1=[]):Dk es (E++[e]):=λq hq=>by
 unfold Gu;rw [List.filter_append,eD (p:=λe:Pl×Int=>decide (e.1≠[]/\e.1.dropLast=q)) (by rw [aP λh=>h.1 hn];decide),List.filter_nil,bW];exact h q hq
theorem Zi(hσ:J[kd]?=some (.dict es)):kindA (.ref kd) .get J=some (.ok (),J):=by
 show ((Gd (.ref kd)).bnd _) J=_;have:Gd (.ref kd) J=some (.ok (.dict kd es),J):=by
  show ((M.get kd).bnd _) J=_;rw [bO (x:=Al.dict es) (J1:=J) (by unfold M.get;rw [hσ])];rfl
 rw [bO this];rfl
theorem Aqb(hσ:J[kd]?=some (.dict es))(hD:Dk es E)(hq:Bh 4 q):methA (.ref kd) .get [mk (Ak q),.lst []] J=some (.ok (.lst ((Gu E q).map eAV)),J):=by
 show ((Gd (.ref kd)).bnd _) J=_;have:Gd (.ref kd) J=some (.ok (.dict kd es),J):=by
  show ((M.get kd).bnd _) J=_;rw [bO (x:=Al.dict es) (J1:=J) (by unfold M.get;rw [hσ])];rfl
 rw [bO this];exact aJ (λa=>some (Except.ok a,J)) (hD q hq)
structure R1(J:Sto)(E:Dl)(c:AV)(rest:List AV)(Y:Ae)(J':Sto)(E2 E1:Dl)(es:Es):Prop where
 r:rest=E2.map eAV
 e:E1++E2=E
 s:J'=J++[.dict es]
 d:Dk es E1
 l:es.length<=E1.length
 v:Fr Y/\Y 0=some (.lst (E.map eAV))/\Y 1=some c/\Y 2=some (.ref J.length)
theorem Azu{c:AV}(hE:∀ e∈E,EOk e)(hl:E.length<900)(hF:Fr Y)(h0:Y 0=some (.lst (E.map eAV)))(h1:Y 1=some c)(h2:Y 2=some (.ref J.length)) :
 ∃ Y' es,EvX (lv+3) Y (.forr (.var 3) (.val (.var 0)) Yr) (J++[.dict []]) (.ok .nxt,Y',J++[.dict es])/\Dk es E/\Fr Y'/\Y' 0=some (.lst (E.map eAV))/\Y' 1=some c/\Y' 2=some (.ref J.length):=by
 have L:=Hn (lv:=lv+3) (I:=λ_=>True) (Inv:=λrest Y J'=>∃ E2 E1 es,R1 J E c rest Y J' E2 E1 es) (t:=.var 3) (q:=Yr) (λ_ _ _ _=>trivial) (λx rest Y J' i=>e31 i λE2 E1 es N=>by
  match E2,N with
  | [],N=>exact absurd N.r (by simp)
  | e::E2,N=>
   refine cnE N.r λhx hr=>?_;have he:=hE e (by rw [<- N.e];exact aI _ (.head _));have hq:=he.1.drop.mono (show 4 - 1<=4 by decide);have hlen:=aJ List.length N.e;rw [aL,bE] at hlen;have hes:=N.l;have hσ:J'[J.length]?=some (.dict es):=N.s▸Co;have e3:EvE (lv+3) (put Y 3 (eAV e)) (.idx (.var 3) (.lit (.int 2))) J' (.ok (mk (Ak e.1))) J':=Bp (Aa rfl) Af rfl;have ec:=Ay e3 (Af (v:=mk [47])) (Qf (y:=[47]));rw [hx];by_cases z:e.1=[]
   . exact⟨_,rfl,.nxt,_,_,.inl rfl,Ar (t:=false) ec (fal (by rw [aC ((Dy he.1).2.2.2.2.2.mpr z)];rfl)) Ah Ah,E2,E1++[e],es,hr,by rw [bC];exact N.e,N.s,Aok N.d z,by rw [aL];exact Nat.le_succ_of_le N.l,N.v⟩
   . have hs:Gb (.ref J.length) (mk (Ak e.1.dropLast)) (.lst ((Gu E1 e.1.dropLast).map eAV++[eAV e])) J'=some (.ok (),J++[.dict (Hb es (pS e.1.dropLast) (.lst ((Gu E1 e.1.dropLast).map eAV++[eAV e])))]):=by
      show ((M.get J.length).bnd _) J'=_;rw [bO (x:=Al.dict es) (J1:=J') (by unfold M.get;rw [hσ])];show M.grd (decide (es.length<lim)) (M.set J.length (.dict (Hb es (pS e.1.dropLast) (.lst ((Gu E1 e.1.dropLast).map eAV++[eAV e]))))) J'=_;rw [aC (by unfold lim;exact ltc (fk [List.length E,List.length E1,E2.length,List.length es] [(1,(.a (.v 0) (.n 1)),(.n 900)),(1,(.a (.v 1) (.a (.v 2) (.n 1))),(.v 0)),(1,(.v 3),(.v 1)),(1,(.n 100000),(.v 3))] rfl hl (aD hlen) hes))];show some (Except.ok (),J'.set J.length _)=_;rw [N.s,Ib]
     have hk:((Gu E1 e.1.dropLast).map eAV).length<=E1.length:=by rw [aF];exact List.length_filter_le _ _
     exact⟨_,rfl,.nxt,_,_,.inl rfl,Ar (t:=true) ec (tru (by rw [aP λh=>z ((Dy he.1).2.2.2.2.2.mp h)];rfl)) (Ad (Ao (l1 e3) (Aif he.1)) (Lw (Ba (Av (Aa N.v.2.2.2) (Zi hσ) (l2 (Aa rfl) (Dx Fv (by decide))) (Aqb hσ N.d hq)) (Dx (l1 (Aa rfl)) (by show 1<1000;decide)) (Kf (by show _+1<1000;exact ltc (fk [List.length E,List.length E1,E2.length,(List.map eAV (Gu E1 (List.dropLast e.fst))).length] [(1,(.a (.v 0) (.n 1)),(.n 900)),(1,(.a (.v 1) (.a (.v 2) (.n 1))),(.v 0)),(1,(.v 3),(.v 1)),(1,(.n 1000),(.a (.v 3) (.n 1)))] rfl hl (aD hlen) hk)))) (Aa N.v.2.2.2) (Aa rfl) hs Ah)) Ah,
      E2,E1++[e],_,hr,by rw [bC];exact N.e,rfl,Aoj N.d he.1 z,by rw [aL];exact bA Aoi (cJ N.l),N.v⟩)
  (Et (E.map eAV)) (Y:=Y) (J:=J++[.dict []]) ⟨E,[],[],rfl,rfl,rfl,λ_ _=>rfl,aU _,hF,h0,h1,h2⟩
 refine e22 L λY' J' hL i=>e31 i λE2 E1 es N=>?_;have he:=N.e;rw [Aob N.r,bW] at he;rw [N.s] at hL;exact⟨Y',es,Db (Dd (Aa h0) rfl) rfl hL,he▸N.d,N.v⟩
theorem Ajd{k:Nat}:eqA (k+3) (tri ii l1' s) (tri jj l2' t)=some (decide (ii=jj/\l1'=l2'/\s=t)):=by
 show (Option.map (·&&decide (3=3)) (match some (ii == jj),(match (if (l1'.map mk).length=(l2'.map mk).length then eqL (eqA (k+1)) (l1'.map mk) (l2'.map mk) else some false),(match eqA (k+2) (mk s) (mk t),some true with | some b,some c=>some (b&&c) | _,_=>none) with | some b,some c=>some (b&&c) | _,_=>none) with | some b,some c=>some (b&&c) | _,_=>none))=_;have h1:(if (l1'.map mk).length=(l2'.map mk).length then eqL (eqA (k+1)) (l1'.map mk) (l2'.map mk) else some false)=some (decide (l1'=l2')):=by
  rw [aF,aF];by_cases z:l1'.length=l2'.length
  . rw [if_pos z,Aiz (λa b=>aJ some Cv) z]
  . rw [if_neg z,aP λh=>z (aJ List.length h)]
 rw [h1,show eqA (k+2) (mk s) (mk t)=some (decide (s=t)) from aJ some Cv,show (ii == jj)=decide (ii=jj) from rfl];show some (decide (ii=jj)&&(decide (l1'=l2')&&(decide (s=t)&&true))&&true)=_;rw [Bool.and_true,Bool.and_true,<- Bool.decide_and,<- Bool.decide_and]
theorem Abp{k:Nat}:eqA (k+3) (eAV e) (eAV e)=some true:=Ajd.trans (aJ some (aC ⟨rfl,rfl,rfl⟩))
theorem Aje(hx:xs.Perm (L.map eAV))(hh:Hp rk 0 xs)(he:e∈L)(hm:∀ d∈L,d≠e->rE e<rE d):0<xs.length/\gt xs 0=eAV e:=by
 have hp:0<xs.length:=by rw [hx.length_eq,aF];exact List.length_pos_of_mem he
 refine⟨hp,?_⟩;refine e12 (bL.mp (hx.mem_iff.mp (aO (Dn hp)))) λd hd h=>?_;by_cases z:d=e
 . rw [<- h,z]
 . obtain ⟨j,hj,hg⟩:=List.getElem_of_mem (hx.mem_iff.mpr (bY (f:=eAV) he));have hr:=hh.root hj;have hgt:=Dn hj;rw [bB hj,hg] at hgt;rw [<- bG hgt,<- h] at hr;exact absurd (hm d hd z) (bQ.mpr hr)
theorem Aqc(hx:xs.Perm (L.map eAV))(hL:∀ e∈L,EOk e):∀ a∈xs,Qe a:=λa ha=>e12 (bL.mp (hx.mem_iff.mp ha)) λe he h=>h▸q_e (hL e he)
theorem at0{o:Al}:(J++o::l)[J.length]?=some o:=by rw [cK (aU _),Nat.sub_self];rfl
theorem s1{a b c o:Al}:(J++[a,b,c]).set (J.length+1) o=J++[a,o,c]:=Zh
theorem s2{a b c o:Al}:(J++[a,b,c]).set (J.length+2) o=J++[a,b,o]:=Zh
theorem Att{a c:Al}:∀ (ks:Dl) {xs:List AV} {Y:Ae},(∀ e∈ks,EOk e)->(∀ a∈xs,Qe a)->Hp rk 0 xs->xs.length+ks.length<1000->Y 5=some (.ref (J.length+1))->
 ∃ Y' zs,EvF (lv+3) Y (.var 3) Ahm (.froz (ks.map eAV)) (J++[a,.lst xs,c]) (.ok .nxt,Y',J++[a,.lst zs,c])/\Hp rk 0 zs/\zs.Perm (xs++ks.map eAV)/\∀ j,j≠3->Y' j=Y j:=by
 intro ks
 induction ks with
 | nil=>exact λ_ _ hh _ _=>⟨_,_,Op rfl,hh,by rw [List.map_nil,bW],λ_ _=>rfl⟩
 | cons e r ih=>
  intro xs Y hk hq hh hl h5;rw [bE] at hl;refine e13 (Ahx (lv:=lv+1) (J:=J++[a,.lst xs,c]) (k:=J.length+1) (x:=eAV e) lts (by exact ltc (fk [xs.length,r.length] [(1,(.a (.a (.v 0) (.a (.v 1) (.n 1))) (.n 1)),(.n 1000)),(1,(.n 1000),(.v 0))] rfl hl)) hq (q_e (hk e (.head _))) hh Cw) λys c1 h1 h2=>?_;rw [s1] at c1;refine e24 (ih (xs:=ys) (Y:=put Y 3 (eAV e)) (λd hd=>hk d (.tail _ hd)) (λv hv=>(aZ.mp (h2.mem_iff.mp hv)).elim (hq v) λh=>aQ.mp h▸q_e (hk e (.head _))) h1 (by rw [h2.length_eq,aL];show xs.length+1+_<1000;exact ltc (fk [xs.length,r.length] [(1,(.a (.a (.v 0) (.a (.v 1) (.n 1))) (.n 1)),(.n 1000)),(1,(.n 1000),(.a (.a (.v 0) (.n 1)) (.v 1)))] rfl hl)) h5) λY' zs hF h3 h4 h6=>?_;exact⟨Y',zs,Lg (fl:=.nxt) (λ_=>rfl) rfl rfl (Bz (Ao (l2 (Aa h5) (Aa rfl)) c1) Ah) hF,h3,h4.trans (by rw [cP,List.append_cons];exact h2.append_right _),λj hj=>(h6 j hj).trans (if_neg hj)⟩
theorem Atu{v:AV}:Cl (some 1) none (v::xs)=xs:=by
 show ((v::xs).drop (min 1 (xs.length+1))).take (xs.length+1 - min 1 (xs.length+1))=xs;rw [Nat.min_eq_left (Nat.le_add_left 1 _),Nat.add_sub_cancel];exact List.take_length
theorem Axf{v:AV}:Lz (.lst (v::xs)) (.int 0) J=some (.ok v,J):=by
 show atA ((0:Nat):Int) (v::xs) J=_;unfold atA;rw [Sx (Nat.succ_pos _)];rfl
theorem Atv:Ts .ne mkV mkV J=some (.ok (.bool false),J):=by kernel_rfl
theorem eq_nil:eqA dp (.lst (L.map eAV)) (.lst [])=some (decide (L=[])):=by
 cases L <;> rfl
theorem Ajf{T:List AV}(G:Hs (A++e::B))(hE:E.Perm (A++e::B))(hS:(A++e::B).length<64)(hD:Dk es E)(hT:T.length<900)(hx:xs.Perm ((Fz A (e::B)).map eAV))(hh:Hp rk 0 xs)(h2:Y 2=some (.ref J.length))(h5:Y 5=some (.ref (J.length+1)))(h6:Y 6=some (.ref (J.length+2))) :
 ∃ Y' zs,EvB (lv+4) Y Sr (J++[.dict es,.lst xs,.lst T]) (.ok .nxt,Y',J++[.dict es,.lst zs,.lst (T++[eAV e])])/\Hp rk 0 zs/\zs.Perm ((Fz (A++[e]) B).map eAV)/\Y' 1=Y 1/\Y' 2=Y 2/\Y' 5=Y 5/\Y' 6=Y 6:=by
 have hf:=Zg G;have he:EOk e:=G.ok e (aI _ (.head _));have hLk:∀ d∈Fz A (e::B),EOk d:=λd hd=>G.ok d (aI _ (cM.mp hd).1);have hKk:∀ d∈Gu E e.1,EOk d:=λd hd=>G.ok d (hE.mem_iff.mp (cM.mp hd).1);refine e02 (Aje hx hh hf.1 hf.2) λhp ht=>?_;have hP:=(Ajc G hE).map eAV;rw [bP,cP] at hP;have hq:=Aqc hx hLk;have hfl:(Fz A (e::B)).length<64:=aV (bA (List.length_filter_le _ _) (by rw [aL];exact Nat.le_add_left _ _)) hS;have hl:xs.length<64:=by rw [hx.length_eq,aF];exact hfl
 have hkl:(Gu E e.1).length<64:=aV (List.length_filter_le _ _) (by rw [hE.length_eq];exact hS);have i0:=ix (J:=J++[.dict es,.lst xs,.lst T]) (k:=J.length+1) Cw hp (cT (aT hl (by decide)));rw [ht] at i0;have c1:=Kb (x:=eAV e) (J:=J++[.dict es,.lst xs,.lst T]) (k:=J.length+2) Cw (cT (aT hT (by decide)));rw [s2] at c1;have g2:=Aqb (J:=J++[.dict es,.lst xs,.lst (T++[eAV e])]) (kd:=J.length) at0 hD he.1;have eT:∀ {Y:Ae} {J:Sto},Y 9=some (eAV e)->Y 7=some (eAV e)->EvE (lv+4) Y (.cmp .ne (.var 9) (.var 7)) J (.ok (.bool false)) J:=λh9 h7=>Ay (Aa h9) (Aa h7) (by show (M.ofOpt (eqA dp (eAV e) (eAV e))).bnd _ _=_;rw [show eqA dp (eAV e) (eAV e)=some true from Abp];rfl);have eK:EvE (lv+4) (put (put Y 7 (eAV e)) 8 (.lst ((Gu E e.1).map eAV))) (.cmp .eq (.var 8) (.lst false [])) (J++[.dict es,.lst xs,.lst (T++[eAV e])]) (.ok (.bool (decide (Gu E e.1=[])))) (J++[.dict es,.lst xs,.lst (T++[eAV e])]):=Ay (Aa rfl) (Dx Fv (by decide)) (by show (M.ofOpt (eqA dp (.lst ((Gu E e.1).map eAV)) (.lst []))).bnd _ _=_;rw [eq_nil];rfl)
 cases hK:Gu E e.1 with
 | nil=>
  rw [hK] at hP eK g2;refine e13 (Aax (lv:=lv+1) (J:=J++[.dict es,.lst xs,.lst (T++[eAV e])]) (k:=J.length+1) (ys:=xs) lts (List.ne_nil_of_length_pos hp) (cT (aT hl (by decide))) hq hh Cw) λzs c2 z1 z2=>?_;rw [s1,ht] at c2;rw [ht] at z2;rw [List.map_nil,bW] at hP;exact⟨_,zs,Ad (Bp (Aa h5) Af i0) (Bz (Av (Aa h6) (Fx Cw rfl) (l1 (Aa rfl)) c1) (Ad (Av (Aa h2) (Zi at0) (l2 (Bp (Aa rfl) Af rfl) (Dx Fv (by decide))) g2) (Ar (t:=true) eK rfl (Ad (Ao (l1 (Aa h5)) c2) Ah) (Ar (t:=false) (eT rfl rfl) rfl Ah Ah)))),z1,(z2.trans (hx.trans hP)).cons_inv,rfl,rfl,rfl,rfl⟩
 | cons k0 kr=>
  rw [hK] at hP eK g2 hKk hkl;have hb:xs.length<=1000:=cT (aT hl (by decide));refine e13 (Aaw (lv:=lv+1) (J:=J++[.dict es,.lst xs,.lst (T++[eAV e])]) (k:=J.length+1) (x:=mkV) lts hp hb hq (.inl rfl) hh Cw) λys c2 y1 y2=>?_;rw [s1,ht] at c2;have yl:ys.length=xs.length:=by rw [y2.length_eq,aR]
  have yp:0<ys.length:=by rw [yl];exact hp
  have yq:∀ a∈ys,Qe a:=λa ha=>Ly hq (.inl rfl) a (y2.mem_iff.mp ha);have y0:gt ys 0=mkV:=by
   have hm:mkV∈ys:=y2.mem_iff.mpr (aO (dQ hp));obtain ⟨j,hj,hg⟩:=List.getElem_of_mem hm;have hr:=y1.root hj;have hgt:=Dn hj;rw [bB hj,hg] at hgt;rw [<- bG hgt,Axc] at hr;rcases yq _ (aO (Dn yp)) with h | ⟨d,hd,h⟩
   . exact h
   . rw [h] at hr;exact absurd (Atr hd) (bQ.mpr hr)
  refine e13 (Aaw (lv:=lv+1) (J:=J++[.dict es,.lst ys,.lst (T++[eAV e])]) (k:=J.length+1) (x:=eAV k0) lts yp (by rw [yl];exact hb) yq (q_e (hKk k0 (.head _))) y1 Cw) λws c3 w1 w2=>?_;rw [s1,y0] at c3;have wl:ws.length=xs.length:=by rw [w2.length_eq,aR,yl]
  refine e24 (Att (lv:=lv+1) (J:=J) (a:=.dict es) (c:=.lst (T++[eAV e])) kr (xs:=ws) (Y:=put (put (put (put Y 7 (eAV e)) 8 (.lst ((k0::kr).map eAV))) 10 mkV) 9 (eAV e)) (λd hd=>hKk d (.tail _ hd)) (λa ha=>Ly yq (q_e (hKk k0 (.head _))) a (w2.mem_iff.mp ha)) w1 (by rw [wl];rw [bE] at hkl;exact ltc (fk [xs.length,kr.length] [(1,(.a (.v 0) (.n 1)),(.n 64)),(1,(.a (.a (.v 1) (.n 1)) (.n 1)),(.n 64)),(1,(.n 1000),(.a (.v 0) (.v 1)))] rfl hl hkl)) h5) λY' zs hF z1 z2 z3=>?_;have eM:EvE (lv+4) (put (put (put (put Y 7 (eAV e)) 8 (.lst ((k0::kr).map eAV))) 10 mkV) 9 (eAV e)) (.cmp .ne (.call (.lit (.con (.ref 42))) [(.var 5),(.idx (.var 8) (.lit (.int 0)))]) (.var 10)) (J++[.dict es,.lst ys,.lst (T++[eAV e])]) (.ok (.bool false)) (J++[.dict es,.lst ws,.lst (T++[eAV e])]):=
   Ay (Ao (l2 (Aa h5) (Bp (Aa rfl) Af Axf)) c3) (Aa rfl) Atv
  refine⟨Y',zs,Ad (Bp (Aa h5) Af i0) (Bz (Av (Aa h6) (Fx Cw rfl) (l1 (Aa rfl)) c1) (Ad (Av (Aa h2) (Zi at0) (l2 (Bp (Aa rfl) Af rfl) (Dx Fv (by decide))) g2) (Ar (t:=false) eK rfl (Ad (Fa (l3 (Oo Af) (Dx Fv (by decide)) Af) (by decide)) (Ad (Ao (l2 (Aa h5) (Aa rfl)) c2) (Ar (t:=false) eM rfl Ah
   (Dc (Db (Dd (Gv (Aa rfl) (Cq Af) Bs Bs (by show some (Except.ok (AV.lst (Cl (some 1) none ((k0::kr).map eAV))),_)=_;rw [cP,Atu])) rfl) rfl hF) Ah))))
   (Ar (t:=false) (eT (z3 9 (by decide)) (z3 7 (by decide))) rfl Ah Ah)))),z1,?_,z3 1 (by decide),z3 2 (by decide),z3 5 (by decide),z3 6 (by decide)⟩
  have a1:(mkV::ws).Perm (ys++[eAV k0]):=by have:=Ia yp w2;rwa [y0] at this
  have a2:(eAV e::ys).Perm (xs++[mkV]):=by have:=Ia hp y2;rwa [ht] at this
  have a3:(eAV e::ws).Perm (xs++[eAV k0]):=by
   refine List.Perm.cons_inv (a:=mkV) (((List.Perm.swap (eAV e) mkV ws)).trans ((a1.cons (eAV e)).trans ?_));refine ((List.Perm.append_right [eAV k0] a2)).trans ?_;rw [bC];exact List.perm_middle
  have a4:(eAV e::zs).Perm (xs++(k0::kr).map eAV):=(z2.cons (eAV e)).trans ((List.Perm.append_right (kr.map eAV) a3).trans (by rw [bC];exact .refl _));exact (a4.trans ((hx.append_right _).trans hP)).cons_inv
structure W1(J:Sto)(S:Dl)(es:Es)(c n:Nat)(Y:Ae)(J':Sto)(A B:Dl)(xs:List AV):Prop where
 e:A++B=S
 ct:n+A.length=c
 s:J'=J++[.dict es,.lst xs,.lst (A.map eAV)]
 p:xs.Perm ((Fz A B).map eAV)
 h:Hp rk 0 xs
 v:Y 1=some (.int c)/\Y 2=some (.ref J.length)/\Y 5=some (.ref (J.length+1))/\Y 6=some (.ref (J.length+2))
theorem Azv(G:Hs S)(hE:E.Perm S)(hl:S.length<64)(hc:c<=S.length)(hD:Dk es E)(hx:xs.Perm ((Fz [] S).map eAV))(hh:Hp rk 0 xs)(h1:Y 1=some (.int c))(h2:Y 2=some (.ref J.length))(h5:Y 5=some (.ref (J.length+1)))(h6:Y 6=some (.ref (J.length+2))) :
 ∃ Y' ys,EvW (lv+4) Y (.and [(.var 5),(.cmp .lt (.blt .len [(.var 6)]) (.var 1))]) Sr (J++[.dict es,.lst xs,.lst []]) (.ok .nxt,Y',J++[.dict es,.lst ys,.lst ((S.take c).map eAV)])/\ys.Perm ((Fz (S.take c) (S.drop c)).map eAV)/\Hp rk 0 ys/\Y' 5=some (.ref (J.length+1))/\Y' 6=some (.ref (J.length+2)):=by
 have cond:∀ {n:Nat} {Y:Ae} {J':Sto} {A B:Dl} {xs:List AV},W1 J S es c n Y J' A B xs->EvE (lv+4) Y (.cmp .lt (.blt .len [(.var 6)]) (.var 1)) J' (.ok (.bool (decide ((A.length:Int)<c)))) J'/\EvE (lv+4) Y (.var 5) J' (.ok (.ref (J.length+1))) J'/\Ac (.ref (J.length+1)) J'=some (.ok (decide (xs.length≠0)),J'):=λ{n Y J' A B xs} N=>by
  have hT:J'[J.length+2]?=some (.lst (A.map eAV)):=by rw [N.s];exact Cw
  have e1:EvE (lv+4) Y (.blt .len [(.var 6)]) J' (.ok (.int A.length)) J':=Bx (l1 (Aa N.v.2.2.2)) (by
   show ((Bv (.ref (J.length+2))).bnd λxs=>M.ret (AV.int xs.length)) J'=_;rw [bO (Cg hT),aF];rfl)
  exact⟨Ay e1 (Aa N.v.1) rfl,Aa N.v.2.2.1,Kc (by rw [N.s];exact Cw)⟩
 have L:=w_l (lv:=lv+4) (c:=.and [(.var 5),(.cmp .lt (.blt .len [(.var 6)]) (.var 1))]) (q:=Sr) (Inv:=λn Y J'=>∃ A B xs,W1 J S es c n Y J' A B xs) (λY J' i=>e31 i λA B xs N=>by
  refine e03 (cond N) λc1 c2 c3=>?_;by_cases z:xs.length≠0
  . rw [aC z] at c3;exact⟨_,Dw c2 c3 c1,fal (aP (by have:=N.ct;omega))⟩
  . rw [aP z] at c3;exact⟨_,Hm c2 c3,c3⟩) (λn Y J' i=>e31 i λA B xs N=>by
  refine e03 (cond N) λc1 c2 c3=>?_;have hn:=N.ct;have hS:=N.e
  cases B with
  | nil=>rw [bW] at hS;rw [hS] at hn;exact absurd hc (by exact (λ_=>fk [c,List.length S,n] [(1,(.v 0),(.v 1)),(1,(.a (.a (.v 2) (.n 1)) (.v 1)),(.v 0))] rfl hc (aD hn)))
  | cons e B=>
   have hf:e∈Fz A (e::B):=(Zg (by rw [hS];exact G)).1;have hp:xs.length≠0:=by rw [N.p.length_eq,aF];exact bT (List.length_pos_of_mem hf)
   rw [aC hp] at c3;have hA:A.length<64:=by rw [<- hS,aL] at hl;exact ltc (fk [List.length A,(e::B).length] [(1,(.a (.a (.v 0) (.v 1)) (.n 1)),(.n 64)),(1,(.n 64),(.v 0))] rfl hl)
   refine⟨_,Dw c2 c3 c1,tru (aC (by omega)),e23 (Ajf (lv:=lv) (Y:=Y) (J:=J) (A:=A) (e:=e) (B:=B) (T:=A.map eAV) (xs:=xs) (by rw [hS];exact G) (by rw [hS];exact hE) (by rw [hS];exact hl) hD (by rw [aF];exact ltc (fk [List.length A] [(1,(.a (.v 0) (.n 1)),(.n 64)),(1,(.n 900),(.v 0))] rfl hA)) N.p N.h N.v.2.1 N.v.2.2.1 N.v.2.2.2) λY' zs hb z1 z2=>⟨Y',_,N.s▸hb,A++[e],B,zs,by rw [bC];exact hS,by rw [aL,dL];exact eqc (fk [n,List.length A,c] [(1,(.a (.a (.v 0) (.n 1)) (.v 1)),(.v 2)),(1,(.a (.v 2) (.n 1)),(.a (.v 0) (.a (.v 1) (.n 1))))] rfl (aD hn)) (fk [c,n,List.length A] [(1,(.v 0),(.a (.a (.v 1) (.n 1)) (.v 2))),(1,(.a (.a (.v 1) (.a (.v 2) (.n 1))) (.n 1)),(.v 0))] rfl (aD (Eq.symm hn))),by rw [bP];rfl,z2.1,z1,z2.2.1.trans N.v.1,z2.2.2.1.trans N.v.2.1,z2.2.2.2.1.trans N.v.2.2.1,z2.2.2.2.2.trans N.v.2.2.2⟩⟩)
  (n:=c) (Y:=Y) (J:=J++[.dict es,.lst xs,.lst []]) ⟨[],S,xs,rfl,rfl,rfl,hx,hh,h1,h2,h5,h6⟩
 refine e22 L λY' J' hw i=>e31 i λA B ys N=>?_;have hA:A.length=c:=by have:=N.ct;exact eqc (fk [List.length A,c] [(1,(.a (.n 0) (.v 0)),(.v 1)),(1,(.a (.v 1) (.n 1)),(.v 0))] rfl (aD this)) (fk [c,List.length A] [(1,(.v 0),(.a (.n 0) (.v 1))),(1,(.a (.v 1) (.n 1)),(.v 0))] rfl (aD (Eq.symm this)))
 have eA:A=S.take c:=by rw [<- N.e,<- hA,List.take_left]
 have eB:B=S.drop c:=by rw [<- N.e,<- hA,List.drop_left]
 have hp:=N.p;rw [N.s,eA] at hw;rw [eA,eB] at hp;exact⟨Y',ys,hw,hp,N.h,N.v.2.2.1,N.v.2.2.2⟩
structure W2(J:Sto)(o t:Al)(L:Dl)(n:Nat)(Y:Ae)(J':Sto)(C R:Dl)(xs:List AV):Prop where
 e:C++R=L
 c:R.length=n
 s:J'=J++[o,.lst xs,t,.lst (C.map eAV)]
 p:xs.Perm (R.map eAV)
 h:Hp rk 0 xs
 v:Y 5=some (.ref (J.length+1))/\Y 6=some (.ref (J.length+2))/\Y 11=some (.ref (J.length+3))
theorem Azw{o t:Al}(hk:∀ e∈L,EOk e)(hs:Srt L)(hl:L.length<64)(hx:xs.Perm (L.map eAV))(hh:Hp rk 0 xs)(h5:Y 5=some (.ref (J.length+1)))(h6:Y 6=some (.ref (J.length+2)))(h11:Y 11=some (.ref (J.length+3))) :
 ∃ Y' o',EvW (lv+4) Y (.var 5) Ys (J++[o,.lst xs,t,.lst []]) (.ok .nxt,Y',J++[o,o',t,.lst (L.map eAV)])/\Y' 6=some (.ref (J.length+2))/\Y' 11=some (.ref (J.length+3)):=by
 have LL:=w_l (lv:=lv+4) (c:=.var 5) (q:=Ys) (Inv:=λn Y J'=>∃ C R xs,W2 J o t L n Y J' C R xs) (λY J' i=>e31 i λC R xs N=>by
  have:xs=[]:=by have:=N.p;rw [bJ N.c] at this;exact this.eq_nil
  exact⟨_,Aa N.v.1,(Kc (xs:=xs) (by rw [N.s];exact Cw)).trans (by rw [this];rfl)⟩) (λn Y J' i=>e31 i λC R xs N=>by
  have hS:=N.e;have hn:=N.c
  cases R with
  | nil=>exact absurd hn (by simp)
  | cons e R=>
   have hR:∀ d∈e::R,EOk d:=λd hd=>hk d (by rw [<- hS];exact aI _ hd);have hsr:=(List.pairwise_append.mp (hS▸hs)).2.1;refine e02 (Aje N.p N.h (.head _) λd hd hn=>(List.pairwise_cons.mp hsr).1 d ((aM.mp hd).resolve_left hn)) λhp ht=>?_;have hl2:=aJ List.length hS;rw [aL,bE] at hl2;have hxl:=N.p.length_eq;rw [aF,bE] at hxl;refine e13 (Aax (lv:=lv+1) (J:=J') (k:=J.length+1) (ys:=xs) lts (List.ne_nil_of_length_pos hp) (by exact lec (fk [List.length L,List.length C,R.length,xs.length] [(1,(.a (.v 0) (.n 1)),(.n 64)),(1,(.a (.v 1) (.a (.v 2) (.n 1))),(.v 0)),(1,(.v 3),(.a (.v 2) (.n 1))),(1,(.a (.n 1000) (.n 1)),(.v 3))] rfl hl (aD hl2) (aD hxl))) (Aqc N.p hR) N.h (by rw [N.s];exact Cw)) λzs c2 z1 z2=>?_;rw [N.s,ht,show (J++[o,.lst xs,t,.lst (C.map eAV)]).set (J.length+1) (.lst zs)=J++[o,.lst zs,t,.lst (C.map eAV)] from Zh] at c2;rw [ht] at z2;have c1:=Kb (x:=eAV e) (J:=J++[o,.lst zs,t,.lst (C.map eAV)]) (k:=J.length+3) Cw (by rw [aF];exact lec (fk [List.length L,List.length C,R.length] [(1,(.a (.v 0) (.n 1)),(.n 64)),(1,(.a (.v 1) (.a (.v 2) (.n 1))),(.v 0)),(1,(.a (.n 1000) (.n 1)),(.v 1))] rfl hl (aD hl2)));rw [show ∀ u,(J++[o,.lst zs,t,.lst (C.map eAV)]).set (J.length+3) u=J++[o,.lst zs,t,u] from λu=>Zh] at c1;exact⟨_,Aa N.v.1,(Kc (xs:=xs) (by rw [N.s];exact Cw)).trans (by rw [aC (bT hp)]),Y,_,Bz (Av (Aa N.v.2.2) (Fx (by rw [N.s];exact Cw) rfl) (l1 (Ao (l1 (Aa N.v.1)) (N.s▸c2))) c1) Ah,C++[e],R,zs,by rw [bC];exact hS,by rw [bE] at hn;exact eqc (fk [R.length,n] [(1,(.a (.v 0) (.n 1)),(.a (.v 1) (.n 1))),(1,(.a (.v 1) (.n 1)),(.v 0))] rfl (aD hn)) (fk [n,R.length] [(1,(.a (.v 0) (.n 1)),(.a (.v 1) (.n 1))),(1,(.a (.v 1) (.n 1)),(.v 0))] rfl (aD (Eq.symm hn))),by rw [bP];rfl,(z2.trans N.p).cons_inv,z1,N.v⟩)
  (n:=L.length) (Y:=Y) (J:=J++[o,.lst xs,t,.lst []]) ⟨[],L,xs,rfl,rfl,rfl,hx,hh,h5,h6,h11⟩
 refine e22 LL λY' J' hw i=>e31 i λC R ys N=>?_;have he:=N.e;rw [bJ N.c,bW] at he;rw [N.s,he] at hw;exact⟨Y',_,hw,N.v.2⟩
end
section
variable{lv c:Nat}{J τ:Sto}{E S:Dl}{xs:List AV}
theorem Atw(h:xs.length<=1):Hp rk 0 xs:=λi j hij hj _=>absurd (cF hj h) (bQ.mpr (aV (bV i) hij.lt))
theorem Ajg:∀ {S:Dl},(S.map (·.1)).Nodup->(S.filter λe=>decide (e.1=[])).length<=1:=λ{S}=>by
 induction S with
 | nil=>exact λ_=>bV _
 | cons e r ih=>
  intro h;have h:=bZ.mp h;by_cases z:e.1=[]
  . rw [List.filter_cons_of_pos (p:=λe:Pl×Int=>decide (e.1=[])) (aC z),List.filter_eq_nil_iff.mpr λd hd=>?_]
    . exact aU _
    . rw [decide_eq_true_iff];exact λhz=>h.1 (by show e.1∈_;rw [z,<- hz];exact bY (f:=(·.1)) hd)
  . rw [eD (p:=λe:Pl×Int=>decide (e.1=[])) (by rw [aP z];decide)];exact ih h.2
theorem Axg(G:Hs S)(hE:E.Perm S)(hl:S.length<64)(hc:c<=S.length):∃ l:Sto,EvC (lv+5) 269 [.lst (E.map eAV),.int c] J (.ok (.tup [.lst ((S.take c).map eAV),.lst ((Fz (S.take c) (S.drop c)).map eAV)])) (J++l):=by
 have hk:∀ e∈E,EOk e:=λe he=>G.ok e (hE.mem_iff.mp he);have hEl:E.length<64:=by rw [hE.length_eq];exact hl
 refine e26 (Azu (lv:=lv+1) (J:=J) (E:=E) (c:=.int c) (Y:=put (λi=>[AV.lst (E.map eAV),AV.int c][i]?) 2 (.ref J.length)) hk (aT hEl (by decide)) rfl rfl rfl rfl) λρ1 es x1 hD f1 g0 g1 g2=>?_;obtain ⟨X,hX⟩:∃ X,X=(E.filter λe=>decide (e.1=[])).map eAV:=⟨_,rfl⟩;have C:=Zb (lv:=lv+4) (Y:=ρ1) (J:=J++[.dict es]) (I:=λ_=>True) (elt:=.var 101) (ts:=[101]) (ifs:=[(.cmp .eq (.idx (.var 101) (.lit (.int 2))) (.lit (.str ⟨#[47]⟩)))]) (fx:=eAV) (gy:=eAV) (t:=λe=>decide (e.1=[])) trivial E (acc:=[]) (Et _) (by show 0+_<1000;exact ltc (fk [List.length E] [(1,(.a (.v 0) (.n 1)),(.n 64)),(1,(.n 1000),(.a (.n 0) (.v 0)))] rfl hEl))
  λe he=>⟨_,rfl,Abc (Ay (Bp (x:=eAV e) (y:=.int 2) (Aa rfl) Af rfl) Af (Oq (y:=[47]))) (by rw [bU.mpr (Dy (hk e he).1).2.2.2.2.2];rfl),λ_=>Aa rfl⟩
 rw [List.nil_append,<- hX] at C;have x2:=Ho f1 rfl (Dd (Aa g0) rfl) rfl C true;have hXp:X.Perm ((Fz [] S).map eAV):=by
  rw [hX];refine ((hE.filter _).map eAV).trans (.of_eq (aJ (List.map eAV) (List.filter_congr λe _=>bU.mpr ⟨.inl,λh=>h.resolve_right bH⟩)))
 have hXh:Hp rk 0 X:=Atw (by rw [hX,aF];exact Ajg ((hE.map _).nodup_iff.mpr G.nd));have a3:∀ a b c:Al,J++[a]++[b]++[c]=J++[a,b,c]:=λa b c=>by rw [bC,bC];rfl
 have n1:∀ a:Al,(J++[a]).length=J.length+1:=λa=>by rw [aL];rfl
 have n2:∀ a b:Al,(J++[a]++[b]).length=J.length+2:=λa b=>by rw [aL,n1];rfl
 have x2':EvE (lv+4) ρ1 (.comp true (.var 101) [101] (.val (.var 0)) [(.cmp .eq (.idx (.var 101) (.lit (.int 2))) (.lit (.str ⟨#[47]⟩)))]) (J++[.dict es]) (.ok (.ref (J.length+1))) (J++[.dict es]++[.lst X]):=by rw [<- n1 (.dict es)];exact x2
 refine e25 (Azv (lv:=lv) (J:=J) (es:=es) (xs:=X) (Y:=put (put ρ1 5 (.ref (J.length+1))) 6 (.ref (J.length+2))) G hE hl hc hD hXp hXh g1 g2 rfl rfl) λY2 ys w1 yp yh g5 g6=>?_;have hLk:∀ e∈Fz (S.take c) (S.drop c),EOk e:=λe he=>G.ok e (List.mem_of_mem_drop (cM.mp he).1);have hLs:Srt (Fz (S.take c) (S.drop c)):=(G.st.sublist (List.drop_sublist c S)).filter _;have hLl:(Fz (S.take c) (S.drop c)).length<64:=aV (bA (List.length_filter_le _ _) (by rw [List.length_drop];exact cA _ _)) hl;refine e23 (Azw (lv:=lv) (J:=J) (o:=.dict es) (t:=.lst ((S.take c).map eAV)) (xs:=ys) (Y:=put Y2 11 (.ref (J.length+3))) hLk hLs hLl yp yh g5 g6 rfl) λY3 o' w2 h6 h11=>?_;have n3:∀ a b c:Al,(J++[a,b,c]).length=J.length+3:=λa b c=>by rw [aL];rfl
 have eN:EvE (lv+4) (put ρ1 5 (.ref (J.length+1))) (.lst true []) (J++[.dict es]++[.lst X]) (.ok (.ref (J.length+2))) (J++[.dict es,.lst X,.lst []]):=by rw [<- n2 (.dict es) (.lst X),<- a3];exact Jc
 have eH:EvE (lv+4) Y2 (.lst true []) (J++[.dict es,.lst ys,.lst ((S.take c).map eAV)]) (.ok (.ref (J.length+3))) (J++[.dict es,.lst ys,.lst ((S.take c).map eAV),.lst []]):=by
  rw [<- n3 (.dict es) (.lst ys) (.lst ((S.take c).map eAV)),show J++[.dict es,.lst ys,.lst ((S.take c).map eAV),.lst []]=J++[.dict es,.lst ys,.lst ((S.take c).map eAV)]++[.lst []] by rw [bC];rfl];exact Jc
 have z1:=Ahz (lv:=lv+4) (i:=6) h6 (J:=J++[.dict es,o',.lst ((S.take c).map eAV),.lst ((Fz (S.take c) (S.drop c)).map eAV)]) Cw;rw [Zh] at z1;have z2:=Ahz (lv:=lv+4) (i:=11) h11 (J:=J++[.dict es,o',.dead,.lst ((Fz (S.take c) (S.drop c)).map eAV)]) Cw;rw [Zh] at z2;exact⟨_,Cs [.lst (E.map eAV),.int c] (by decide) rfl rfl ⟨_,Ad (Bl 1 λm=>rfl) (Dc x1 (Ad x2' (Ad eN (Aat w1 (Ad eH (Aat w2 (Ck (Fa (l2 z1 z2) (by show 2<1000;decide)))))))))⟩⟩
end
noncomputable abbrev Tl:Type:=List ((Pl×Int)×Nat)
noncomputable def pV(t:(Pl×Int)×Nat):AV:=.tup [eAV t.1,.int t.2]
noncomputable def TOk(t:(Pl×Int)×Nat):Prop:=EOk t.1/\t.2<1000
noncomputable def rk2(v:AV):Nat:=match v with
 | .tup (x::.int i::_)=>rk x*1000+i.toNat
 | _=>0
noncomputable def Vr:Nat:=10000000000000
noncomputable def kx(v:AV):Nat:=Vr - rk2 v
noncomputable def Qt(v:AV):Prop:=∃ t,TOk t/\v=pV t
section
variable{lv k kr ki n m a i:Nat}{Y Y':Ae}{J J' τ l:Sto}{e d x:Pl×Int}{t u:(Pl×Int)×Nat}{E S M R O:Dl}{T T':Tl}{xs ys zs:List AV}{v w:AV}{o:Al}
theorem Ki:rk2 (pV t)=rE t.1*1000+t.2:=rfl
theorem Axh(h:EOk e):rE e<4000000000:=by
 have a:=Jf h;show rk (tri (-e.2) (cpN e.1) (Ak e.1))<_;rw [Lh];have h1:=Os 5 a.nm;have h2:(-e.2+big).toNat<=1000000:=by have:=h.2.1;unfold big;omega
 have h3:=Nat.mul_le_mul_right (5 ^ 5) h2;exact cF (Nat.add_lt_add_of_le_of_lt h3 h1) (by decide)
theorem Tg(h:TOk t):rk2 (pV t)<Vr:=by
 rw [Ki];have:=Axh h.1;have:=h.2;unfold Vr;omega
theorem Axi(h1:TOk t)(h2:TOk u):ltA dp (pV t) (pV u)=some (decide (rk2 (pV t)<rk2 (pV u))):=by
 have hx:=(lex (x:=rE t.1) (y:=rE u.1) h1.2 h2.2).1;have hL:=Ze (k:=4) h1.1 h2.1;show (match eqA 7 (eAV t.1) (eAV u.1) with | some true=>(match some ((t.2:Int) == (u.2:Int)) with | some true=>some (decide (([]:List AV).length<([]:List AV).length)) | some false=>some (decide ((t.2:Int)<u.2)) | Option.none=>Option.none) | some false=>ltA 7 (eAV t.1) (eAV u.1) | Option.none=>Option.none)=_;have hE:eqA 7 (eAV t.1) (eAV u.1)=some (decide (rE t.1=rE u.1)):=(Ajd (k:=4)).trans (aJ some (bU.mpr ⟨λh=>by show rk (tri _ _ _)=rk (tri _ _ _);rw [h.1,h.2.1,h.2.2],λh=>by rw [(hL.2 h).1,(hL.2 h).2];exact⟨rfl,rfl,rfl⟩⟩));rw [hE,Ki,Ki];by_cases z:rE t.1=rE u.1
 . rw [aC z,bU.mpr (hx.trans ⟨λh=>h.elim (λh=>absurd z (aW h)) And.right,λh=>.inr ⟨z,h⟩⟩)];by_cases w:t.2=u.2
   . rw [show ((t.2:Int) == (u.2:Int))=true by rw [w];exact beq_self_eq_true _,aP (show ¬ t.2<u.2 by rw [w];exact cZ _)];rfl
   . rw [show ((t.2:Int) == (u.2:Int))=false from cL.mpr λh=>w (Int.ofNat_inj.mp h)];exact aJ some (bU.mpr dA)
 . rw [aP z,bU.mpr (hx.trans ⟨λh=>h.elim id λh=>absurd h.1 z,.inl⟩)];exact hL.1
theorem gts:Gts Qt kx:=λa b ha hb=>by
 refine e12 ha λt ht h=>e12 hb λu hu h'=>?_;rw [h,h',Axi hu ht];have:=Tg ht;have:=Tg hu;exact aJ some (bU.mpr (by unfold kx;omega))
theorem hfy:∀ (m:Nat) {xs:List AV} {Y:Ae},m<=xs.length->xs.length<=1000->Hp kx m xs->(∀ a∈xs,Qt a)->J[k]?=some o->Y 0=some (.ref k)->
 ∃ Y' ys,EvF (lv+2) Y (.var 2) Apu (.rev m) (J.set k (.lst xs)) (.ok .nxt,Y',J.set k (.lst ys))/\Hp kx 0 ys/\ys.Perm xs:=by
 intro m
 induction m with
 | zero=>exact λ_ _ hh _ _ _=>⟨_,_,Op rfl,hh,.refl _⟩
 | succ m ih=>
  intro xs Y hm hb hh hq hσ h0;have c1:=Ahv (lv:=lv) (p:=m) gts hm hb hq (Ax (o':=.lst xs) hσ);rw [cV] at c1;refine e02 (Ahi hm hh) λu1 u2=>?_;refine e23 (ih (xs:=upF kx xs m) (Y:=put Y 2 (.int m)) (by rw [u2.length_eq];exact Nat.le_of_succ_le hm) (by rw [u2.length_eq];exact hb) u1 (λa ha=>hq a (u2.mem_iff.mp ha)) hσ h0) λY' ys hF z1 z2=>⟨Y',ys,Lg (fl:=.nxt) (s':=.rev m) (v:=.int m) (λ_=>rfl) ?_ rfl (Bz (Ao (l2 (Aa h0) (Aa rfl)) c1) Ah) hF,z1,z2.trans u2⟩;show M.ret (if (0:Int)<(m+1:Nat) then some (AV.int ((m+1:Nat) - 1),Src.rev ((m+1:Nat) - 1)) else none) _=_;rw [if_pos (show (0:Int)<((m+1:Nat):Int) from Int.natCast_pos.mpr (Nat.succ_pos m)),show (((m+1:Nat):Int) - 1)=m by omega];rfl
theorem Axj(hb:xs.length<=1000)(hq:∀ a∈xs,Qt a)(hσ:J[k]?=some (.lst xs)):∃ ys,EvC (lv+3) 56 [.ref k] J (.ok .none) (J.set k (.lst ys))/\Hp kx 0 ys/\ys.Perm xs:=by
 have h0:Hp kx (xs.length / 2) xs:=λi j hij hj hs=>by unfold Pa at hij;omega
 refine e23 (hfy (lv:=lv) (xs.length / 2) (xs:=xs) (Y:=put (λi=>[AV.ref k][i]?) 1 (.int xs.length)) (Nat.div_le_self _ _) hb h0 hq hσ rfl) λY' ys hF z1 z2=>⟨ys,?_,z1,z2⟩;rw [Fw hσ] at hF;refine Apv [.ref k] (by decide) rfl rfl ⟨_,Ad (Aht rfl hσ) (Dc (Db (s:=.rev (xs.length / 2:Nat)) ?_ rfl hF) Ah)⟩;refine Az (Bx (bi:=.range) (vs:=[.int (xs.length / 2:Nat)]) (q:=.ok (.rng 0 (xs.length / 2:Nat))) (l1 (Ba (x:=.int xs.length) (y:=.int 2) (Aa rfl) Af rfl)) rfl) λm e=>(bO (m:=evA Ai m (lv+2) _ _) e).trans ?_;unfold Auw small;dsimp only;rw [aC ⟨rfl,bN _⟩,aC ⟨by decide,by decide,Int.lt_of_lt_of_le (by decide) (bN _),Int.lt_trans (dA.mpr (aV (Nat.div_le_self _ _) (Nat.lt_succ_of_le hb))) (by decide)⟩];rfl
end
noncomputable def Th(l:Dl):Nat->Tl:=List.rec (λ_=>[]) (λe _ go a=>(e,a)::go (a+1)) l
section
variable{lv k kr ki n m a i j c:Nat}{Y Y':Ae}{J J' τ l J1 J2:Sto}{e d x:Pl×Int}{t u tt:(Pl×Int)×Nat}{E S M R O:Dl}{T T':Tl}{xs ys zs:List AV}{v w:AV}{o:Al}{rest:List IS}{s:IS}
theorem Abq{l:Sto}(h:xs[i]?=some v):Ek J.length (J++.iter xs i::l)=some (.ok (some v),J++.iter xs (i+1)::l):=by
 have h1:Gc J.length (J++.iter xs i::l)=some (.ok (xs,i),J++.iter xs i::l):=by
  show ((M.get J.length).bnd _) _=_;rw [bO (x:=Al.iter xs i) (J1:=J++.iter xs i::l) (by unfold M.get;rw [at0])];rfl
 refine (bO h1).trans ?_;show (match xs[i]? with | some v=>_ | none=>_:M (Option AV)) _=_;rw [h];show some (Except.ok (some v),(J++.iter xs i::l).set J.length (.iter xs (i+1)))=_;rw [List.set_append_right _ _ (aU _),Nat.sub_self];rfl
theorem Atx{l:Sto}(h:xs[i]?=none):Ek J.length (J++.iter xs i::l)=some (.ok none,J++.dead::l):=by
 have h1:Gc J.length (J++.iter xs i::l)=some (.ok (xs,i),J++.iter xs i::l):=by
  show ((M.get J.length).bnd _) _=_;rw [bO (x:=Al.iter xs i) (J1:=J++.iter xs i::l) (by unfold M.get;rw [at0])];rfl
 refine (bO h1).trans ?_;show (match xs[i]? with | some v=>_ | none=>_:M (Option AV)) _=_;rw [h];show some (Except.ok none,(J++.iter xs i::l).set J.length .dead)=_;rw [List.set_append_right _ _ (aU _),Nat.sub_self];rfl
theorem Abr{α:Type}{l r:List α}{x:α}:(l++x::r)[l.length]?=some x:=by rw [cK (aU _),Nat.sub_self];rfl
theorem Aty:∀ (l A r:Dl) {acc:List AV},E=A++(l++r)->A.length+l.length=n->acc.length+l.length<900->
 Ahy lv Y (.tup [(.var 102),(.var 101)]) [101,102] [] (.zip A.length n J.length) acc (J++[.iter (E.map eAV) A.length]) (acc++(Th l A.length).map pV) (J++[.iter (E.map eAV) n]):=by
 intro l
 induction l with
 | nil=>
  intro A r acc hE hn hl;have hn:A.length=n:=hn;rw [<- hn];refine Bl 1 λm=>(bO (m:=srcNext _) (x:=none) (J1:=J++[.iter (E.map eAV) A.length]) ?_).trans ?_
  . show (if (A.length:Int)<(A.length:Nat) then _ else M.ret none:M (Option (AV×Src))) _=_;rw [if_neg (Int.lt_irrefl _)];rfl
  . show _=some (Except.ok (acc++[]),_);rw [bW];rfl
 | cons e q ih=>
  intro A r acc hE hn hl;rw [bE] at hn hl;have hA:(A++[e]).length=A.length+1:=by rw [aL];rfl
  have h:=ih (A++[e]) r (acc:=acc++[pV (e,A.length)]) (by rw [hE,bC];rfl) (by rw [hA];exact eqc (fk [List.length A,q.length,n] [(1,(.a (.v 0) (.a (.v 1) (.n 1))),(.v 2)),(1,(.a (.v 2) (.n 1)),(.a (.a (.v 0) (.n 1)) (.v 1)))] rfl (aD hn)) (fk [n,List.length A,q.length] [(1,(.v 0),(.a (.v 1) (.a (.v 2) (.n 1)))),(1,(.a (.a (.a (.v 1) (.n 1)) (.v 2)) (.n 1)),(.v 0))] rfl (aD (Eq.symm hn)))) (by rw [aL,dL];exact ltc (fk [acc.length,q.length] [(1,(.a (.a (.v 0) (.a (.v 1) (.n 1))) (.n 1)),(.n 900)),(1,(.n 900),(.a (.a (.v 0) (.n 1)) (.v 1)))] rfl hl));rw [hA] at h;have hg:(E.map eAV)[A.length]?=some (eAV e):=by rw [hE,List.getElem?_map,List.cons_append,Abr];rfl
  have hs:srcNext (.zip A.length n J.length) (J++[.iter (E.map eAV) A.length])=some (.ok (some (.tup [.int A.length,eAV e],.zip ((A.length+1:Nat):Int) n J.length)),J++[.iter (E.map eAV) (A.length+1)]):=by
   show (if (A.length:Int)<n then _ else _:M (Option (AV×Src))) _=_;rw [if_pos (dA.mpr (by exact ltc (fk [List.length A,q.length,n] [(1,(.a (.v 0) (.a (.v 1) (.n 1))),(.v 2)),(1,(.v 2),(.v 0))] rfl (aD hn))))];exact (bO (Abq hg)).trans rfl
  have eT:EvE lv (Ev Y [101,102] [.int A.length,eAV e]) (.tup [(.var 102),(.var 101)]) (J++[.iter (E.map eAV) (A.length+1)]) (.ok (pV (e,A.length))) (J++[.iter (E.map eAV) (A.length+1)]):=Fa (l2 (Aa rfl) (Aa rfl)) (by show 2<1000;decide);rw [show acc++(Th (e::q) A.length).map pV=acc++[pV (e,A.length)]++(Th q (A.length+1)).map pV by rw [bC];rfl];exact Abb hs rfl Qc eT (by exact ltc (fk [acc.length,q.length] [(1,(.a (.a (.v 0) (.a (.v 1) (.n 1))) (.n 1)),(.n 900)),(1,(.n 999),(.v 0))] rfl hl)) h
theorem Aol{f:Addr}{j:Nat}{es:List IE}{vs:List AV}{q:Except Str AV}{J1 J2:Sto}(h:Y j=some (.con (.ref f)))(h1:EvL lv Y es J (.ok vs) J1)(h2:EvC lv f vs J1 q J2):EvE lv Y (.call (.var j) es) J q J2:=
 Az (Eh (Aa (lv:=lv) (J:=J) h) (Eh h1 h2)) λm x=>(bO (m:=evA Ai m lv Y _) x.1).trans ((bO (m:=evsA Ai m lv Y es) x.2.1).trans x.2.2)
structure Big(E M O:Dl)(T:Tl)(ys:List AV)(tt:(Pl×Int)×Nat):Prop where
 p:ys.Perm (T.map pV)
 h:Hp kx 0 ys
 g:0<ys.length/\gt ys 0=pV tt/\tt∈T
 m:(T.map (·.1)++O).Perm M
 l:∀ a∈T.map (·.1),∀ b∈O,rE a<rE b
 k:∀ t∈T,TOk t
theorem Abs(hx:ys.Perm (T.map pV))(hp:0<ys.length):∃ tt∈T,gt ys 0=pV tt:=e12 (bL.mp (hx.mem_iff.mp (aO (Dn hp)))) λt ht h=>⟨t,ht,h.symm⟩
theorem Big.max(G:Big E M O T ys tt)(hM:M.Nodup):∀ t∈T,rE t.1<=rE tt.1:=λt ht=>by
 obtain ⟨j,hj,hg⟩:=List.getElem_of_mem (G.p.mem_iff.mpr (bY (f:=pV) ht));have hr:=G.h.root hj;have hgt:=Dn hj;rw [bB hj,hg] at hgt;rw [<- bG hgt,G.g.2.1] at hr;have a1:=Tg (G.k t ht);have a2:=Tg (G.k tt G.g.2.2);have b1:=(G.k t ht).2;have b2:=(G.k tt G.g.2.2).2;unfold kx at hr;rw [Ki] at a1 a2 hr;rw [Ki] at hr;exact lec (fk [Vr - (rE tt.fst*1000+tt.snd),Vr - (rE t.fst*1000+t.snd),tt.snd,Vr,rE tt.fst,rE t.fst,t.snd] [(1,(.v 0),(.v 1)),(1,(.a (.v 2) (.n 1)),(.n 1000)),(1,(.v 3),(.a (.v 0) (.a (.m (.v 4) 1000) (.v 2)))),(1,(.a (.v 1) (.a (.m (.v 5) 1000) (.v 6))),(.v 3)),(1000,(.a (.v 4) (.n 1)),(.v 5))] rfl hr b2 (sbg (Vr) (rE tt.fst*1000+tt.snd)) (sbc (lec (fk [rE t.fst,t.snd,Vr] [(1,(.a (.a (.m (.v 0) 1000) (.v 1)) (.n 1)),(.v 2)),(1,(.a (.v 2) (.n 1)),(.a (.m (.v 0) 1000) (.v 1)))] rfl a1))))
theorem Zj(h1:EOk e)(h2:EOk d)(h:rE e=rE d):e=d:=have:=(Ze (k:=0) h1 h2).2 h;Prod.ext this.1 this.2
theorem s1'{a b o:Al}:(J++[a,b]).set (J.length+1) o=J++[a,o]:=Zh
theorem Big.out(G:Big E M O T ys tt)(hM:(M++[x]).Nodup)(hk:∀ e∈M++[x],EOk e)(h:¬ rE x<rE tt.1):Big E (M++[x]) (x::O) T ys tt:=by
 have hn:=dH.mp hM;refine⟨G.p,G.h,G.g,(List.perm_middle.trans (G.m.cons x)).trans (List.perm_append_comm (l₁:=[x])),λa ha b hb=>?_,G.k⟩;rcases aM.mp hb with rfl | hb
 . refine e12 (bL.mp ha) λt ht h'=>?_;have h1:=G.max hn.1 t ht;rw [h'] at h1;have haM:a∈M:=G.m.mem_iff.mp (aG _ ha);refine bK (bA h1 (bQ.mp h)) λq=>hn.2.2 a haM b (.head _) (Zj (hk a (aG _ haM)) (hk b (aI _ (.head _))) q)
 . exact G.l a ha b hb
theorem Big.ins(G:Big E M O T ys tt)(hM:(M++[x]).Nodup)(hk:∀ e∈M++[x],EOk e)(h:rE x<rE tt.1)(hc:c<1000)(hz:zs.Perm (ys.set 0 (pV (x,c))))(hh:Hp kx 0 zs):∃ T' tt',Big E (M++[x]) (tt.1::O) T' zs tt'/\T'.length=T.length:=by
 have hn:=dH.mp hM;obtain ⟨T1,T2,rfl⟩:=List.append_of_mem G.g.2.2;have hT:(T1++tt::T2).Perm (tt::(T1++T2)):=List.perm_middle;have a1:(pV tt::zs).Perm (ys++[pV (x,c)]):=by have:=Ia G.g.1 hz;rwa [G.g.2.1] at this
 have a2:zs.Perm (((x,c)::(T1++T2)).map pV):=by
  refine List.Perm.cons_inv (a:=pV tt) (a1.trans ((G.p.append_right _).trans (((hT.map pV).append_right _).trans ?_)));exact (List.perm_append_comm (l₁:=(T1++T2).map pV) (l₂:=[pV (x,c)])).cons (pV tt)
 have hl:zs.length=ys.length:=by rw [hz.length_eq,aR]
 have hp:0<zs.length:=by rw [hl];exact G.g.1
 refine e12 (Abs a2 hp) λt' ht' hg=>⟨(x,c)::(T1++T2),t',⟨a2,hh,⟨hp,hg,ht'⟩,?_,λa ha b hb=>?_,λt ht=>?_⟩,(hT.length_eq).symm⟩
 . have:=(hT.map (·.1)).append_right O;refine (((List.perm_middle (a:=tt.1) (l₁:=(((x,c)::(T1++T2)).map (·.1))) (l₂:=O))).trans ?_).trans ((List.perm_append_comm (l₁:=[x]) (l₂:=M)));exact (List.Perm.swap x tt.1 _).trans ((this.symm.trans G.m).cons x)
 . have hx:rE a<rE tt.1:=by
    rcases aM.mp ha with rfl | ha
    . exact h
    . refine e12 (bL.mp ha) λt ht h'=>?_;have hm:t∈T1++tt::T2:=hT.mem_iff.mpr (.tail _ ht);have h1:=G.max hn.1 t hm;rw [<- h'];refine bK h1 λq=>?_;have hN:((T1++tt::T2).map (·.1)).Nodup:=(dH.mp (G.m.nodup_iff.mpr hn.1)).1;have hN:=bZ.mp (((hT.map (·.1)).nodup_iff.mp hN));exact hN.1 (by show tt.1∈_;rw [<- Zj (G.k t hm).1 (G.k tt G.g.2.2).1 q];exact bY (f:=(·.1)) ht)
   rcases aM.mp hb with rfl | hb
   . exact hx
   . exact aT hx (G.l tt.1 (bY (f:=(·.1)) G.g.2.2) b hb)
 . rcases aM.mp ht with rfl | ht
   . exact⟨hk x (aI _ (.head _)),hc⟩
   . exact G.k t (hT.mem_iff.mpr (.tail _ ht))
theorem Ajh(hE:E.Nodup)(hk:∀ e∈E,EOk e):∀ (R M:Dl) {O:Dl} {T:Tl} {ys:List AV} {tt:(Pl×Int)×Nat} {Y:Ae} {c:Nat},E=M++R->Big E M O T ys tt->c+R.length<900->T.length<900->Y 5=some (.ref (J.length+1))->Y 8=some (eAV tt.1)->Y 9=some (.int c)->Y 10=some (.con (.ref 49))->Fr Y->
 ∃ Y' zs T' O' tt',EvF (lv+4) Y (.var 7) Ahj (.iter J.length) (J++[.iter (E.map eAV) M.length,.lst ys]) (.ok .nxt,Y',J++[.dead,.lst zs])/\Big E E O' T' zs tt'/\T'.length=T.length/\Y' 5=some (.ref (J.length+1))/\Fr Y':=by
 intro R
 induction R with
 | nil=>
  intro M O T ys tt Y c hM G hc hT h5 h8 h9 h10 hF;rw [bW] at hM;subst hM;refine⟨Y,ys,T,O,tt,Op ?_,G,rfl,h5,hF⟩;exact (bO (Atx (by rw [List.getElem?_eq_none (by rw [aF];exact aU _)]))).trans rfl
 | cons x R ih=>
  intro M O T ys tt Y c hM G hc hT h5 h8 h9 h10 hF;have hM':E=(M++[x])++R:=by rw [hM,bC];rfl
  have hn:(M++[x]).Nodup:=(dH.mp (hM'▸hE)).1;have hk':∀ e∈M++[x],EOk e:=λe he=>hk e (by rw [hM'];exact aG _ he);have hx:EOk x:=hk' x (aI _ (.head _));have ht:=G.k tt G.g.2.2;have hlen:(M++[x]).length=M.length+1:=by rw [aL];rfl
  rw [bE] at hc;have hs:srcNext (.iter J.length) (J++[.iter (E.map eAV) M.length,.lst ys])=some (.ok (some (eAV x,.iter J.length)),J++[.iter (E.map eAV) (M.length+1),.lst ys]):=(bO (Abq (by rw [hM,List.getElem?_map,Abr];rfl))).trans rfl;have ec:EvE (lv+4) (put Y 7 (eAV x)) (.cmp .lt (.var 7) (.var 8)) (J++[.iter (E.map eAV) (M.length+1),.lst ys]) (.ok (.bool (decide (rE x<rE tt.1)))) (J++[.iter (E.map eAV) (M.length+1),.lst ys]):=Ay (Aa rfl) (Aa h8) (Ka (Ze (k:=5) hx ht.1).1);have hyl:ys.length=T.length:=by rw [G.p.length_eq,aF]
  by_cases z:rE x<rE tt.1
  . have hq:∀ a∈ys,Qt a:=λa ha=>e12 (bL.mp (G.p.mem_iff.mp ha)) λt ht h=>⟨t,G.k t ht,h.symm⟩;refine e13 (Ang (lv:=lv+1) (J:=J++[.iter (E.map eAV) (M.length+1),.lst ys]) (k:=J.length+1) (x:=pV (x,c)) gts G.g.1 (by exact lec (fk [List.length T,ys.length] [(1,(.a (.v 0) (.n 1)),(.n 900)),(1,(.v 1),(.v 0)),(1,(.a (.n 1000) (.n 1)),(.v 1))] rfl hT (aD hyl))) hq ⟨(x,c),⟨hx,by show c<1000;exact ltc (fk [c,R.length] [(1,(.a (.a (.v 0) (.a (.v 1) (.n 1))) (.n 1)),(.n 900)),(1,(.n 1000),(.v 0))] rfl hc)⟩,rfl⟩ G.h Cw) λzs c1 z1 z2=>?_;rw [s1'] at c1;refine e22 (G.ins hn hk' z (c:=c) (by exact ltc (fk [c,R.length] [(1,(.a (.a (.v 0) (.a (.v 1) (.n 1))) (.n 1)),(.n 900)),(1,(.n 1000),(.v 0))] rfl hc)) z2 z1) λT' tt' G' hl'=>?_;have i0:=ix (J:=J++[.iter (E.map eAV) (M.length+1),.lst zs]) (k:=J.length+1) Cw G'.g.1 (by rw [z2.length_eq,aR];exact lec (fk [List.length T,ys.length] [(1,(.a (.v 0) (.n 1)),(.n 900)),(1,(.v 1),(.v 0)),(1,(.a (.n 1000) (.n 1)),(.v 1))] rfl hT (aD hyl)));rw [G'.g.2.1] at i0;have:=ih (M++[x]) (O:=tt.1::O) (T:=T') (ys:=zs) (tt:=tt') (Y:=put (Ev (put Y 7 (eAV x)) [8,11] [eAV tt'.1,.int tt'.2]) 9 (.int (c+1:Nat))) (c:=c+1) hM' G' (by exact ltc (fk [c,R.length] [(1,(.a (.a (.v 0) (.a (.v 1) (.n 1))) (.n 1)),(.n 900)),(1,(.n 900),(.a (.a (.v 0) (.n 1)) (.v 1)))] rfl hc)) (by rw [hl'];exact hT) h5 rfl rfl h10 hF;rw [hlen] at this;obtain ⟨Y2,zs2,T2,O2,t2,hF2,G2,q2,g5,gF⟩:=this;exact⟨Y2,zs2,T2,O2,t2,Lg (fl:=.nxt) (λ_=>rfl) hs rfl (Ar (t:=true) ec (tru (aC z)) (Bz (Aol h10 (l2 (Aa h5) (Fa (l2 (Aa rfl) (Aa h9)) (by show 2<1000;decide))) c1) (Aaz (vs:=[eAV tt'.1,.int tt'.2]) (Bp (Aa h5) Af i0) rfl (Aba h9 Af rfl Ah))) Ah) hF2,G2,q2.trans hl',g5,gF⟩
  . have:=ih (M++[x]) (O:=x::O) (T:=T) (ys:=ys) (tt:=tt) (Y:=put Y 7 (eAV x)) (c:=c) hM' (G.out hn hk' z) (by exact ltc (fk [c,R.length] [(1,(.a (.a (.v 0) (.a (.v 1) (.n 1))) (.n 1)),(.n 900)),(1,(.n 900),(.a (.v 0) (.v 1)))] rfl hc)) hT h5 h8 h9 h10 hF;rw [hlen] at this;obtain ⟨Y2,zs2,T2,O2,t2,hF2,G2,q2,g5,gF⟩:=this;exact⟨Y2,zs2,T2,O2,t2,Lg (fl:=.nxt) (λ_=>rfl) hs rfl (Ar (t:=false) ec (fal (aP z)) Ah Ah) hF2,G2,q2,g5,gF⟩
theorem Atz{A B:Dl}(h:A.Perm B)(ha:Srt A)(hb:Srt B):A=B:=List.Perm.eq_of_pairwise (le:=λa b=>rE a<rE b) (λa b _ _ h1 h2=>absurd h1 (Nat.lt_asymm h2)) ha hb h
theorem Aji(B:Big E E O T zs tt)(G:Hs S)(hE:E.Perm S)(h2:2<=T.length)(hl:T.length<64):∃ T':Tl,Cy zs=some (T'.map pV)/\T'.map (·.1)=S.take T.length/\T'.length=T.length:=by
 have hk:∀ e∈E,EOk e:=λe he=>G.ok e (hE.mem_iff.mp he);have hN:=dH.mp (B.m.nodup_iff.mpr (hE.nodup_iff.mpr (Aog G)));have hp:=List.mergeSort_perm T λa b=>decide (rk2 (pV a)<=rk2 (pV b));have hs:=List.pairwise_mergeSort (le:=λa b=>decide (rk2 (pV a)<=rk2 (pV b))) (λa b c h1 h2=>aC (bA (aB h1) (aB h2))) (λa b=>by rcases Nat.le_total (rk2 (pV a)) (rk2 (pV b)) with h | h <;> simp [h]) T
 generalize T.mergeSort (λa b=>decide (rk2 (pV a)<=rk2 (pV b)))=T' at hp hs;have hd:(T'.map (·.1)).Nodup:=(hp.map _).nodup_iff.mpr hN.1;have hk':∀ t∈T',TOk t:=λt ht=>B.k t (hp.mem_iff.mp ht);have hst:T'.Pairwise λa b=>rE a.1<rE b.1:=(hs.and (List.pairwise_map.mp hd)).imp_of_mem λ{a b} ha hb h=>by
  have h1:=aB h.1;rw [Ki,Ki] at h1;have ha':=(hk' a ha).2;have hb':=(hk' b hb).2;exact bK (by exact lec (fk [rE a.fst,a.snd,rE b.fst,b.snd] [(1,(.a (.m (.v 0) 1000) (.v 1)),(.a (.m (.v 2) 1000) (.v 3))),(1,(.a (.v 3) (.n 1)),(.n 1000)),(1000,(.a (.v 2) (.n 1)),(.v 0))] rfl h1 hb')) λq=>h.2 (Zj (hk' a ha).1 (hk' b hb).1 q)
 have hzl:zs.length=T.length:=by rw [B.p.length_eq,aF]
 refine⟨T',Vl (r:=rk2) (by rw [hzl];exact h2) (by rw [hzl];exact hl) ?_ (λa ha b hb=>?_) ((hp.map pV).trans B.p.symm) (List.pairwise_map.mpr (hst.imp_of_mem λ{a b} ha hb h=>?_)),?_,hp.length_eq⟩
 . rw [Bool.or_eq_true];exact .inr (bI.mpr λx hx=>e12 (bL.mp (B.p.mem_iff.mp hx)) λt _ h=>h▸rfl)
 . exact e12 (bL.mp (B.p.mem_iff.mp ha)) λt ht h=>e12 (bL.mp (B.p.mem_iff.mp hb)) λu hu h'=>by rw [<- h,<- h'];exact Axi (B.k t ht) (B.k u hu)
 . rw [Ki,Ki];have ha':=(hk' a ha).2;exact ltc (fk [rE a.fst,rE b.fst,a.snd,b.snd] [(1000,(.a (.v 0) (.n 1)),(.v 1)),(1,(.a (.v 2) (.n 1)),(.n 1000)),(1,(.a (.m (.v 1) 1000) (.v 3)),(.a (.m (.v 0) 1000) (.v 2)))] rfl h ha')
 . refine e12 (Abn (E:=O) (λe he=>hk e (B.m.mem_iff.mp (aI _ he))) ?_) λO' o1 o2=>?_
   . have h1:O.Nodup:=hN.2.1;have h2:((T.map (·.1)++O).map (·.1)).Nodup:=((B.m.trans hE).map (·.1)).nodup_iff.mpr G.nd;rw [bP] at h2;exact (dH.mp h2).2.1
   . have hS:T'.map (·.1)++O'=S:=Atz ((((hp.map (·.1)).append o1).trans B.m).trans hE) (List.pairwise_append.mpr ⟨List.pairwise_map.mpr hst,o2,λa ha b hb=>B.l a ((hp.map (·.1)).mem_iff.mp ha) b (o1.mem_iff.mp hb)⟩) G.st;rw [<- hS,<- hp.length_eq,show T'.length=(T'.map (·.1)).length by rw [aF],List.take_left]
theorem Aua:∀ (l:Dl) (a:Nat),(Th l a).map (·.1)=l/\(Th l a).length=l.length/\∀ t∈Th l a,t.1∈l/\t.2<a+l.length:=λl=>by
 induction l with
 | nil=>exact λa=>⟨rfl,rfl,λt h=>absurd h bH⟩
 | cons e r ih=>
  intro a;refine e03 (ih (a+1)) λh1 h2 h3=>⟨aJ (e::·) h1,aJ (·+1) h2,λt ht=>?_⟩;rw [bE];rcases aM.mp ht with rfl | ht
  . exact⟨.head _,by show a<_;exact ltc (fk [a,r.length] [(1,(.a (.v 0) (.a (.v 1) (.n 1))),(.v 0))] rfl)⟩
  . exact⟨.tail _ (h3 t ht).1,by have:=(h3 t ht).2;exact ltc (fk [t.snd,a,r.length] [(1,(.a (.v 0) (.n 1)),(.a (.a (.v 1) (.n 1)) (.v 2))),(1,(.a (.v 1) (.a (.v 2) (.n 1))),(.v 0))] rfl this)⟩
theorem Aub:∀ (L:Dl) {b:Pl×Int},(∀ e∈b::L,EOk e)->∃ m∈b::L,Ov (eAV b) (L.map eAV)=some (eAV m)/\∀ d∈b::L,rE m<=rE d:=λL=>by
 induction L with
 | nil=>exact λ_=>⟨_,.head _,rfl,λd hd=>by rw [aQ.mp hd];exact aU _⟩
 | cons x r ih=>
  intro b h;have hl:=(Ze (k:=5) (h x (.tail _ (.head _))) (h b (.head _))).1;show ∃ m∈b::x::r,(match ltA dp (eAV x) (eAV b) with | some true=>Ov (eAV x) (r.map eAV) | some false=>Ov (eAV b) (r.map eAV) | Option.none=>Option.none)=some (eAV m)/\∀ d∈b::x::r,rE m<=rE d;rw [show ltA dp (eAV x) (eAV b)=_ from hl];by_cases z:rE x<rE b
  . rw [aC z];refine e13 (ih (b:=x) λe he=>h e (.tail _ he)) λm m1 m2 m3=>⟨m,.tail _ m1,m2,λd hd=>?_⟩;rcases aM.mp hd with rfl | hd
    . exact bA (m3 x (.head _)) (cT z)
    . exact m3 d hd
  . rw [aP z];refine e13 (ih (b:=b) λe he=>h e ((aM.mp he).elim (λq=>q▸.head _) λq=>.tail _ (.tail _ q))) λm m1 m2 m3=>⟨m,(aM.mp m1).elim (λq=>q▸.head _) λq=>.tail _ (.tail _ q),m2,λd hd=>?_⟩;rcases aM.mp hd with rfl | hd
    . exact m3 _ (.head _)
    . rcases aM.mp hd with rfl | hd
      . exact bA (m3 b (.head _)) (bQ.mp z)
      . exact m3 d (.tail _ hd)
theorem Azx(h:EvX lv Y s J (.ok (.ret v),Y',J1)):EvB lv Y (s::rest) J (.ok (.ret v),Y',J1):=Az h λm e1=>tO (m:=exA Ai m lv Y s) e1
theorem Zk{e:IE}(h:EvE lv Y e J (.ok (.lst xs)) J):EvE lv Y (.blt .iter [e]) J (.ok (.ref J.length)) (J++[.iter xs 0]):=Bx (l1 h) rfl
theorem Auc(G:Hs S)(hE:E.Perm S)(h:0<S.length){q:List IS}:∃ Y' l,EvB lv (λi=>[AV.int 1,.lst (E.map eAV),.none][i]?) (.ite (.cmp .eq (.var 0) (.lit (.int 1))) [.ass (.var 3) (.blt .iter [(.var 1)]),.ass (.var 4) (.blt .object []),.ass (.var 5) (.mink (.var 3) (.var 4) (.cvar 2)),.ret (.ite (.cmp .is (.var 5) (.var 4)) (.lst false []) (.lst false [(.var 5)]))] []::q) J (.ok (.ret (.lst ((S.take 1).map eAV))),Y',J++l):=by
 cases S with
 | nil=>exact absurd h (cZ 0)
 | cons s0 S=>
  cases E with
  | nil=>exact nomatch hE.length_eq
  | cons b L=>
   refine e13 (Aub L (b:=b) λe he=>G.ok e (hE.mem_iff.mp he)) λm m1 m2 m3=>?_;have hm:m=s0:=by
    have h1:=m3 s0 (hE.mem_iff.mpr (.head _));rcases aM.mp (hE.mem_iff.mp m1) with h2 | h2
    . exact h2
    . exact absurd ((List.pairwise_cons.mp G.st).1 m h2) (bQ.mpr h1)
   have a1:(J++[Al.iter ((b::L).map eAV) 0]).length=J.length+1:=by rw [aL];rfl
   have h4:Apg (.ref J.length) .none (J++[.iter ((b::L).map eAV) 0,.sent])=some (.ok (eAV s0),J++[.dead,.sent]):=by
    have h1:Gc J.length (J++[.iter ((b::L).map eAV) 0,.sent])=some (.ok ((b::L).map eAV,0),J++[.iter ((b::L).map eAV) 0,.sent]):=by
     show ((M.get J.length).bnd _) _=_;rw [bO (x:=Al.iter ((b::L).map eAV) 0) (J1:=J++[.iter ((b::L).map eAV) 0,.sent]) (by unfold M.get;rw [at0])];rfl
    refine (bO h1).trans ?_;show ((M.ofOpt (Ov (eAV b) (L.map eAV))).bnd λv=>(M.set J.length .dead).bnd λ_=>M.ret v) _=_;rw [m2,hm];show some (Except.ok (eAV s0),(J++[Al.iter ((b::L).map eAV) 0,.sent]).set J.length .dead)=_;rw [List.set_append_right _ _ (aU _),Nat.sub_self];rfl
   have hO:∀ {Y},EvE lv Y (.blt .object []) (J++[.iter ((b::L).map eAV) 0]) (.ok (.ref (J.length+1))) (J++[.iter ((b::L).map eAV) 0,.sent]):=λ{Y}=>Bx Fv (by show some (Except.ok (AV.ref _),J++[Al.iter ((b::L).map eAV) 0]++[.sent])=_;rw [a1,bC];rfl);have hI:isA (eAV s0) (.ref (J.length+1)) (J++[.dead,.sent])=some (.ok (.bool false),J++[.dead,.sent]):=by
    show ((M.get (J.length+1)).bnd _) _=_;rw [bO (x:=Al.sent) (J1:=J++[.dead,.sent]) (by unfold M.get;rw [Cw];rfl)];rfl
   refine⟨_,[.dead,.sent],Ez (t:=true) (fl:=.ret _) (λ_=>rfl) (Ay (Aa rfl) Af rfl) rfl (Ad (Zk (Aa rfl)) (Ad hO (Ad (Ss (Aa (lv:=lv) (i:=3) (v:=.ref J.length) rfl) (Aa (lv:=lv) (i:=4) (v:=.ref (J.length+1)) rfl) (Ep (lv:=lv) (i:=2) (v:=.none) rfl) λm e1 e2 e3=>(bO (m:=evA Ai m lv _ _) e1).trans ((bO (m:=evA Ai m lv _ _) e2).trans ((bO (m:=evA Ai m lv _ _) e3).trans h4))) (Ck (Aia (t:=false) (Ay (Aa rfl) (Aa rfl) hI) rfl (Dx (l1 (Aa rfl)) (by show 1<1000;decide)))))))⟩
end
section
variable{lv k c:Nat}{Y Y':Ae}{J J1:Sto}{E S:Dl}{T:Tl}{xs:List AV}{q:List IS}
noncomputable def Azy:List IS:=[.ass (.var 3) (.blt .iter [(.var 1)]),.ass (.var 5) (.comp true (.tup [(.var 102),(.var 101)]) [101,102] (.zip (.blt .range [(.var 0)]) (.var 3)) []),.ite (.not (.var 5)) [.ret (.frz 5)] [],.expr (.call (.lit (.con (.ref 56))) [(.var 5)]),.ass (.var 8) (.idx (.idx (.var 5) (.lit (.int 0))) (.lit (.int 0))),.ass (.var 9) (.var 0),.ass (.var 10) (.lit (.con (.ref 49))),.forr (.var 7) (.val (.var 3)) Ahj,.expr (.meth (.var 5) .sort []),.ret (.comp false (.var 101) [101,102] (.val (.var 5)) [])]
theorem Azz{e:IE}(he:EvE lv Y e J (.ok (.int c)) J):EvE lv Y (.blt .range [e]) J (.ok (.rng 0 c)) J:=Bx (l1 he) rfl
theorem Axk{a b:IE}{i:Nat}(h1:EvE lv Y a J (.ok (.rng 0 c)) J)(h2:EvE lv Y b J (.ok (.ref k)) J)(hσ:J[k]?=some (.iter xs i))(hc:c<1000):EvS lv Y (.zip a b) J (.zip 0 c k) J:=by
 refine Aw h1 h2 λm e1 e2=>(bO (m:=evA Ai m lv Y a) e1).trans ((bO (m:=evA Ai m lv Y b) e2).trans ?_);unfold Aux small;dsimp only;rw [aC ⟨by decide,by decide,Int.lt_of_lt_of_le (by decide) (bN c),Int.lt_trans (dA.mpr hc) (by decide)⟩];have hi:Gc k J=some (.ok (xs,i),J):=by
  show ((M.get k).bnd _) _=_;rw [bO (x:=Al.iter xs i) (J1:=J) (by unfold M.get;rw [hσ])];rfl
 exact bO hi
theorem Aom(G:Hs S)(hE:E.Perm S)(hl:S.length<64)(hc:c<=S.length)(h1:c≠1)(h0:Y 0=some (.int c))(hx:Y 1=some (.lst (E.map eAV)))(hF:Fr Y):∃ Y' l,EvB (lv+4) Y Azy J (.ok (.ret (.lst ((S.take c).map eAV))),Y',J++l):=by
 have hk:∀ e∈E,EOk e:=λe he=>G.ok e (hE.mem_iff.mp he);have hEl:E.length=S.length:=hE.length_eq;have hN:E.Nodup:=hE.nodup_iff.mpr (Aog G);have hT:=Aua (E.take c) 0;have hTl:(Th (E.take c) 0).length=c:=by rw [hT.2.1,List.length_take,Nat.min_eq_left (by rw [hEl];exact hc)]
 have C:=Aty (lv:=lv+4) (Y:=put Y 3 (.ref J.length)) (J:=J) (E:=E) (n:=c) (E.take c) [] (E.drop c) (acc:=[]) (List.take_append_drop c E).symm (by rw [List.length_take,Nat.min_eq_left (by rw [hEl];exact hc)];exact Nat.zero_add c) (by rw [List.length_take];show 0+_<900;omega);rw [List.nil_append] at C;have a1:∀ n,(J++[Al.iter (E.map eAV) n]).length=J.length+1:=λn=>by rw [aL];rfl
 have a2:∀ (n:Nat) (o:Al),J++[Al.iter (E.map eAV) n]++[o]=J++[.iter (E.map eAV) n,o]:=λn o=>by rw [bC];rfl
 have hz:EvS (lv+4) (put Y 3 (.ref J.length)) (.zip (.blt .range [(.var 0)]) (.var 3)) (J++[.iter (E.map eAV) 0]) (.zip 0 c J.length) (J++[.iter (E.map eAV) 0]):=by
  exact Axk (Azz (Aa (i:=0) h0)) (Aa rfl) at0 (by exact ltc (fk [List.length S,c] [(1,(.a (.v 0) (.n 1)),(.n 64)),(1,(.v 1),(.v 0)),(1,(.n 1000),(.v 1))] rfl hl hc))
 have xC:=Ho (Y:=put Y 3 (.ref J.length)) hF rfl hz rfl C true;rw [if_pos rfl,if_pos rfl,a1,a2,show ([]:Dl).length=0 from rfl] at xC;by_cases z:c=0
 . have hTn:Th (E.take c) 0=[]:=by rw [z];rfl
   rw [hTn] at xC;have x0:=Ahz (lv:=lv+4) (Y:=put (put Y 3 (.ref J.length)) 5 (.ref (J.length+1))) (i:=5) (k:=J.length+1) (J:=J++[.iter (E.map eAV) c,.lst []]) rfl Cw;rw [s1'] at x0;rw [show (S.take c).map eAV=[] by rw [z];rfl];exact⟨_,_,Ad (Zk (Aa hx)) (Ad xC (Ez (t:=true) (fl:=.ret _) (λ_=>rfl) (Lu (t:=false) (Aa rfl) ((Kc (xs:=[]) Cw).trans rfl)) rfl (Ck x0)))⟩
 . have hc2:2<=c:=by exact lec (fk [c] [(1,(.a (.n 1) (.n 1)),(.v 0)),(1,(.a (.v 0) (.n 1)),(.n 2))] rfl (bK (lec (fk [c] [(1,(.a (.n 0) (.n 1)),(.v 0)),(1,(.a (.v 0) (.n 1)),(.n 1))] rfl (bK (lec (fk [c] [(1,(.a (.v 0) (.n 1)),(.n 0))] rfl)) (Ne.symm z)))) (Ne.symm h1)))
   obtain ⟨T,hTd⟩:∃ T,T=Th (E.take c) 0:=⟨_,rfl⟩;rw [<- hTd] at hT hTl;rw [<- hTd] at xC;have hTk:∀ t∈T,TOk t:=λt ht=>⟨hk _ (List.mem_of_mem_take (hT.2.2 t ht).1),by have:=(hT.2.2 t ht).2;rw [List.length_take] at this;omega⟩;have hq:∀ a∈T.map pV,Qt a:=λa ha=>e12 (bL.mp ha) λt ht h=>⟨t,hTk t ht,h.symm⟩;have hml:(T.map pV).length=c:=by rw [aF];exact hTl
   refine e13 (Axj (lv:=lv+1) (J:=J++[.iter (E.map eAV) c,.lst (T.map pV)]) (k:=J.length+1) (xs:=T.map pV) (by exact lec (fk [List.length S,c,(List.map pV T).length] [(1,(.a (.v 0) (.n 1)),(.n 64)),(1,(.v 1),(.v 0)),(1,(.v 2),(.v 1)),(1,(.a (.n 1000) (.n 1)),(.v 2))] rfl hl hc (aD hml))) hq Cw) λys c1 y1 y2=>?_;rw [s1'] at c1;have yp:0<ys.length:=by rw [y2.length_eq,hml];exact ltc (fk [c] [(1,(.n 2),(.v 0)),(1,(.v 0),(.n 0))] rfl hc2)
   refine e12 (Abs y2 yp) λtt ht hg=>?_;have B:Big E (E.take c) [] T ys tt:=⟨y2,y1,⟨yp,hg,ht⟩,by rw [bW,hT.1],λ_ _ _ h=>absurd h bH,hTk⟩;have i0:=ix (J:=J++[.iter (E.map eAV) c,.lst ys]) (k:=J.length+1) Cw yp (by rw [y2.length_eq,hml];exact lec (fk [List.length S,c] [(1,(.a (.v 0) (.n 1)),(.n 64)),(1,(.v 1),(.v 0)),(1,(.a (.n 1000) (.n 1)),(.v 1))] rfl hl hc));rw [hg] at i0;have hLp:=Ajh (lv:=lv) (J:=J) hN hk (E.drop c) (E.take c) (Y:=put (put (put (put (put Y 3 (.ref J.length)) 5 (.ref (J.length+1))) 8 (eAV tt.1)) 9 (.int c)) 10 (.con (.ref 49))) (c:=c) (List.take_append_drop c E).symm B (by rw [List.length_drop];exact ltc (fk [List.length S,List.length E,List.length E - c,c] [(1,(.a (.v 0) (.n 1)),(.n 64)),(1,(.v 1),(.v 0)),(1,(.a (.v 2) (.v 3)),(.v 1)),(1,(.n 900),(.a (.v 3) (.v 2)))] rfl hl (aD hEl) (sbc (lec (fk [c,List.length S,List.length E] [(1,(.v 0),(.v 1)),(1,(.v 1),(.v 2)),(1,(.a (.v 2) (.n 1)),(.v 0))] rfl hc (aD (Eq.symm hEl))))))) (by rw [hTl];exact ltc (fk [List.length S,c] [(1,(.a (.v 0) (.n 1)),(.n 64)),(1,(.v 1),(.v 0)),(1,(.n 900),(.v 1))] rfl hl hc)) rfl rfl rfl rfl hF;rw [List.length_take,Nat.min_eq_left (by rw [hEl];exact hc)] at hLp;obtain ⟨Y2,zs,T2,O2,t2,hF2,G2,q2,g5,gF⟩:=hLp;rw [hTl] at q2;refine e13 (Aji G2 G hE (by rw [q2];exact hc2) (by rw [q2];exact ltc (fk [List.length S,c] [(1,(.a (.v 0) (.n 1)),(.n 64)),(1,(.v 1),(.v 0)),(1,(.n 64),(.v 1))] rfl hl hc))) λT3 t31 t32 t33=>?_;have hso:methA (.ref (J.length+1)) .sort [] (J++[.dead,.lst zs])=some (.ok .none,J++[.dead,.lst (T3.map pV)]):=by
    show ((Gd (.ref (J.length+1))).bnd _) _=_;have hkd:Gd (.ref (J.length+1)) (J++[.dead,.lst zs])=some (.ok (.lst (J.length+1) zs),J++[.dead,.lst zs]):=by
     show ((M.get (J.length+1)).bnd _) _=_;rw [bO (x:=Al.lst zs) (J1:=J++[.dead,.lst zs]) (by unfold M.get;rw [Cw];rfl)];rfl
    rw [bO hkd];show ((M.ofOpt (Cy zs)).bnd λys=>M.grd (decide (ys.length<lim)) ((M.set (J.length+1) (.lst ys)).bnd λ_=>M.ret AV.none)) _=_;rw [t31];show M.grd (decide ((T3.map pV).length<lim)) _ _=_;rw [aC (by rw [aF,t33,q2];unfold lim;exact ltc (fk [List.length S,c] [(1,(.a (.v 0) (.n 1)),(.n 64)),(1,(.v 1),(.v 0)),(1,(.n 100000),(.v 1))] rfl hl hc))];show some (Except.ok AV.none,(J++[Al.dead,.lst zs]).set (J.length+1) _)=_;rw [s1']
   have C2:=Zb (lv:=lv+4) (Y:=Y2) (J:=J++[.dead,.lst (T3.map pV)]) (I:=λJ'=>J'[J.length+1]?=some (.lst (T3.map pV))) (elt:=.var 101) (ts:=[101,102]) (ifs:=[]) (fx:=pV) (gy:=λt=>eAV t.1) (t:=λ_=>true) Cw T3 (acc:=[]) (Fy (T3.map pV) 0 rfl) (by show 0+_<1000;exact ltc (fk [List.length S,c,List.length T2,List.length T3] [(1,(.a (.v 0) (.n 1)),(.n 64)),(1,(.v 1),(.v 0)),(1,(.v 2),(.v 1)),(1,(.v 3),(.v 2)),(1,(.n 1000),(.a (.n 0) (.v 3)))] rfl hl hc (aD q2) (aD t33))) λt _=>⟨_,rfl,Qc,λ_=>Aa rfl⟩;rw [List.nil_append,List.filter_eq_self.mpr (λ_ _=>rfl),show (T3.map λt=>eAV t.1)=(S.take c).map eAV by rw [<- q2,<- t32,List.map_map];rfl] at C2;exact⟨Y2,_,Ad (Zk (Aa hx)) (Ad xC (Ar (t:=false) (Lu (t:=true) (Aa rfl) ((Kc (xs:=T.map pV) Cw).trans (by rw [hml,aC z]))) rfl Ah (Bz (Ao (l1 (Aa rfl)) c1) (Ad (Bp (Bp (Aa rfl) Af i0) Af rfl) (Ad (Aa h0) (Ad Af (Dc (Db (Dd (Aa rfl) (by show ((M.get J.length).bnd _) _=_;rw [bO (x:=Al.iter (E.map eAV) c) (J1:=J++[.iter (E.map eAV) c,.lst ys]) (by unfold M.get;rw [at0])];rfl)) rfl hF2)
    (Bz (Av (Aa g5) (Fx Cw rfl) Fv hso) (Ck (Ho gF rfl (Dd (Aa g5) (Mp Cw)) rfl C2 false))))))))))⟩
theorem Axl{a b:IE}{YY:List AV}(h1:EvE lv Y a J (.ok (.lst xs)) J)(h2:EvE lv Y b J (.ok .none) J)(hs:Cy xs=some YY)(hY:YY.length<900):EvE lv Y (.sortk a b) J (.ok (.lst YY)) J:=
 Aw h1 h2 λm e1 e2=>(bO (m:=evA Ai m lv Y a) e1).trans ((bO (m:=evA Ai m lv Y b) e2).trans (by
  show (M.ofOpt (Cy xs)).bnd (λys=>M.grd (decide (ys.length<lim)) (M.ret (AV.lst ys))) J=_;rw [hs];show M.grd (decide (YY.length<lim)) _ J=_;rw [aC (aT hY (by unfold lim;decide))];rfl))
theorem Ti{a b:IE}(h1:EvE lv Y a J (.ok (.lst xs)) J)(h2:EvE lv Y b J (.ok (.int c)) J):EvE lv Y (.slc a none (some b) none) J (.ok (.lst (xs.take c))) J:=
 Gv h1 Bs (Cq h2) Bs (by show some (Except.ok (AV.lst (Cl none (some (c:Int)) xs)),J)=_;rw [Aiv])
theorem Aon(G:Hs S)(hE:E.Perm S)(h2:2<=S.length)(hl:S.length<64)(hc:c<=S.length):∃ l:Sto,EvC (lv+5) 90 [.int c,.lst (E.map eAV)] J (.ok (.lst ((S.take c).map eAV))) (J++l):=by
 have hk:∀ e∈E,EOk e:=λe he=>G.ok e (hE.mem_iff.mp he);have hEl:E.length=S.length:=hE.length_eq;have main:∃ Y' l,EvB (lv+4) (λi=>[AV.int c,.lst (E.map eAV),.none][i]?) L90 J (.ok (.ret (.lst ((S.take c).map eAV))),Y',J++l):=by
  by_cases h1:c=1
  . subst h1;exact Auc G hE (by exact ltc (fk [List.length S] [(1,(.n 2),(.v 0)),(1,(.v 0),(.n 0))] rfl h2))
  . have e1:EvE (lv+4) (λi=>[AV.int c,.lst (E.map eAV),.none][i]?) (.cmp .eq (.var 0) (.lit (.int 1))) J (.ok (.bool ((c:Int) == 1))) J:=Ay (Aa rfl) Af rfl;have f1:((c:Int) == 1)=false:=cL.mpr λh=>h1 (Int.ofNat_inj.mp h);have e6:EvB (lv+4) (λi=>[AV.int c,.lst (E.map eAV),.none][i]?) [.ass (.var 6) (.blt .len [(.var 1)])] J (.ok .nxt,put (λi=>[AV.int c,.lst (E.map eAV),.none][i]?) 6 (.int E.length),J):=Ad (Bx (l1 (Aa rfl)) (by show some (Except.ok (AV.int ((E.map eAV).length:Nat)),J)=_;rw [aF])) Ah;have e7:EvE (lv+4) (put (λi=>[AV.int c,.lst (E.map eAV),.none][i]?) 6 (.int E.length)) (.cmp .ge (.var 0) (.var 6)) J (.ok (.bool (decide ((E.length:Int)<=c)))) J:=Ay (Aa rfl) (Aa rfl) rfl;by_cases hce:c=S.length
    . have ht:decide ((E.length:Int)<=c)=true:=aC (by rw [hEl,hce];exact Int.le_refl _);have hs:=Jr hk (by rw [hEl];exact h2) (by rw [hEl];exact hl) hE.symm G.st;have x:=Ti (lv:=lv+4) (Y:=put (λi=>[AV.int c,.lst (E.map eAV),.none][i]?) 6 (.int E.length)) (a:=.sortk (.var 1) (.cvar 2)) (b:=.var 0) (c:=c) (J:=J) (Axl (Aa rfl) (Ep rfl) hs (by rw [aF];exact ltc (fk [List.length S] [(1,(.a (.v 0) (.n 1)),(.n 64)),(1,(.n 900),(.v 0))] rfl hl))) (Aa rfl);rw [<- List.map_take] at x;exact⟨_,[],by rw [bW];exact Ar (t:=false) e1 (fal f1) Ah (Azx (Aie e6 (Ez (t:=true) (fl:=.ret _) (λ_=>rfl) e7 (tru ht) (Ck x))))⟩
    . have ht:decide ((E.length:Int)<=c)=false:=aP (by rw [hEl];omega);refine e21 (Aom (lv:=lv) (Y:=put (λi=>[AV.int c,.lst (E.map eAV),.none][i]?) 6 (.int E.length)) (J:=J) G hE hl hc h1 rfl rfl rfl) λY' l hb=>?_;exact⟨Y',l,Ar (t:=false) e1 (fal f1) Ah (Dc (Aie e6 (Ar (t:=false) e7 (fal ht) Ah Ah)) (Ez (t:=true) (fl:=.ret _) (λ_=>rfl) (Ay (Ep rfl) Af rfl) rfl hb))⟩
 exact e21 main λY' l h=>⟨l,Cs [.int c,.lst (E.map eAV),.none] (by decide) rfl rfl ⟨Y',h⟩⟩
end
noncomputable def fs4:Fs:=[(3,[97,47,98,47,97]),(2,[46,46,47,46,46,47,97]),(130,[47,46,46,47,98,47,46]),(4,[97,45])]
noncomputable def ps4:Ps:=[(3,[[97],[98],[97]]),(2,[[97]]),(130,[[98]]),(4,[[97,45]])]
noncomputable def plB(n:Nat)(p:Pl):Bool:=decide (p.length<=n)&&p.all λx=>decide (x∈nms)
theorem Aud{n:Nat}{p:Pl}(h:plB n p=true):Bh n p:=e02 (aK.mp h) λh1 h2=>⟨aB h1,λx hx=>aB (bI.mp h2 x hx)⟩
noncomputable def chB(fs:Fs):Pl->Bool:=List.rec (λ_=>true) (λx _ go f=>(plB 2 f&&decide (x.1<=255))&&(okT x.2&&plB 4 (Bd f x.2))&&go (Bd f x.2).dropLast) fs
noncomputable def Aue(fs:Fs):Pl->Pl:=List.rec (λf=>f) (λx _ go f=>go (Bd f x.2).dropLast) fs
section
variable{gs fs:Fs}{f q p:Pl}{P:Ps}{D E S A:Dl}{lv k c n:Nat}{Y Y':Ae}{J J1 J':Sto}{xs ys YY:List AV}{is:List Int}{W:Str}{R:Oc}{x:List Nat}{e:Pl×Int}
theorem Auf:∀ (fs:Fs) {f:Pl},chB fs f=true->Gw gs (Aue fs f)->Gw (fs++gs) f:=λfs=>by
 induction fs with
 | nil=>exact λ_ h=>h
 | cons x r ih=>
  intro f h hc;refine e02 (aK.mp h) λh h3=>e02 (aK.mp h) λh1 h2=>?_;have h1:=aK.mp h1;have h2:=aK.mp h2;exact⟨Aud h1.1,⟨aB h1.2,h2.1⟩,Aud h2.2,ih h3 hc⟩
theorem Aoo:∀ (fs:Fs) {f:Pl},Bc (fs++gs) f=Bc fs f++Bc gs (Aue fs f):=λfs=>by
 induction fs with
 | nil=>exact rfl
 | cons x r ih=>intro f;exact aJ (_::·) ih
theorem Axm:∀ (gs:Fs) {d:Nat} {f:Pl},Bh d f->(∀ x∈gs,Ta x.1 x.2)->d+gs.length<=3->Gw gs f/\∀ e∈Bc gs f,Bh 4 e.2/\e.1<=255:=λgs=>by
 induction gs with
 | nil=>exact λ_ _ _=>⟨trivial,λe h=>absurd h bH⟩
 | cons x r ih=>
  intro d f hf h hl;rw [bE] at hl;have hx:=h x (.head _);have hg:=Anl hf hx.2.1;have hg2:=hg.mono (show _<=d+2 from Nat.add_le_add_left hx.2.2 d);refine e02 (ih (d:=d+1) hg2.drop (λy hy=>h y (.tail _ hy)) (by exact lec (fk [d,r.length] [(1,(.a (.v 0) (.a (.v 1) (.n 1))),(.n 3)),(1,(.a (.n 3) (.n 1)),(.a (.a (.v 0) (.n 1)) (.v 1)))] rfl hl))) λh1 h2=>⟨⟨hf.mono (by exact lec (fk [d,r.length] [(1,(.a (.v 0) (.a (.v 1) (.n 1))),(.n 3)),(1,(.a (.n 2) (.n 1)),(.v 0))] rfl hl)),⟨hx.1,hx.2.1⟩,hg2.mono (by exact lec (fk [d,r.length] [(1,(.a (.v 0) (.a (.v 1) (.n 1))),(.n 3)),(1,(.a (.n 4) (.n 1)),(.a (.v 0) (.n 2)))] rfl hl)),h1⟩,λe he=>?_⟩;rcases aM.mp he with rfl | he
  . exact⟨hg2.mono (by exact lec (fk [d,r.length] [(1,(.a (.v 0) (.a (.v 1) (.n 1))),(.n 3)),(1,(.a (.n 4) (.n 1)),(.a (.v 0) (.n 2)))] rfl hl)),hx.1⟩
  . exact h2 e he
theorem Aug:∀ (P:Ps),(∀ e∈P,e.1<=255)->Cn P q<=255*P.length:=λP=>by
 induction P with
 | nil=>exact λ_=>Int.le_refl _
 | cons e r ih=>
  intro h;have h1:=ih λd hd=>h d (.tail _ hd);have h2:=h e (.head _);show (if e.2.take q.length=q then (e.1:Int) else 0)+Cn r q<=_;rw [bE];split <;> omega
theorem Aop:∀ (fs:Fs) {f:Pl} {D:Dl},Gw fs f->DOk D->DOk (Gs fs f D)/\(Gs fs f D).length<=D.length+5*fs.length:=λfs=>by
 induction fs with
 | nil=>exact λ_ h=>⟨h,aU _⟩
 | cons x r ih=>
  intro f D hc h;have hv:=Aio (s:=x.1) h hc.2.2.1;have:=ih (D:=Kh D (Bd f x.2) x.1) hc.2.2.2 hv.1;exact⟨this.1,bA this.2 (by rw [bE];omega)⟩
theorem Aoq{α:Type}{l:List α}{a b:α}(ha:a∈l)(hb:b∈l)(h:a≠b):2<=l.length:=by
 match l,ha,hb with
 | [c],ha,hb=>exact absurd ((aQ.mp ha).trans (aQ.mp hb).symm) h
 | _::_::r,_,_=>exact Nat.le_add_left 2 r.length
structure Baa(fs:Fs)(S:Dl):Prop where
 c:Gw fs []
 p:(Bc fs []).length<100
 g:∀ e∈Bc fs [],Bh 4 e.2
 s:∀ p∈fs,Hq p
 l:fs.length<=30
 go:Hs S
 d:S.Perm (Gs fs [] [])
 e:S.Perm ((frF (Bc fs []) []).map λq=>(q,Cn (Bc fs []) q))
 n:2<=S.length/\S.length<64
 dk:DOk (Gs fs [] [])/\((Gs fs [] []).map (·.1)).Nodup
theorem Ajj:∀ {fs:Fs} {f:Pl},Gw fs f->∀ p∈fs,Hq p:=λ{fs}=>by
 induction fs with
 | nil=>exact λ_ p h=>absurd h bH
 | cons x r ih=>
  intro f h p hp;rcases aM.mp hp with rfl | hp
  . exact h.2.1
  . exact ih h.2.2.2 p hp
theorem Abt:∀ (fs:Fs) {f:Pl},(Bc fs f).length=fs.length:=λfs=>by
 induction fs with
 | nil=>exact rfl
 | cons x r ih=>exact aJ (·+1) ih
theorem Aor(h:∀ x∈gs,Ta x.1 x.2)(hl:gs.length<=3):∃ S,Baa (fs4++gs) S:=by
 have e1:Aue fs4 []=[]:=by decide +kernel
 have e2:Bc fs4 []=ps4:=by decide +kernel
 refine e02 (Axm gs (d:=0) (f:=[]) ⟨aU _,λx h=>absurd h bH⟩ h (by exact lec (fk [List.length gs] [(1,(.v 0),(.n 3)),(1,(.a (.n 3) (.n 1)),(.a (.n 0) (.v 0)))] rfl hl))) λc1 c2=>?_;have hC:Gw (fs4++gs) []:=Auf fs4 (by decide +kernel) (by rw [e1];exact c1);have hP:Bc (fs4++gs) []=ps4++Bc gs []:=by rw [Aoo,e1,e2]
 have hPl:(Bc (fs4++gs) []).length<=7:=by rw [Abt,aL];show 4+_<=7;exact lec (fk [List.length gs] [(1,(.v 0),(.n 3)),(1,(.a (.n 7) (.n 1)),(.a (.n 4) (.v 0)))] rfl hl)
 have hg:∀ e∈Bc (fs4++gs) [],Bh 4 e.2/\e.1<=255:=λe he=>by
  rw [hP] at he;rcases aZ.mp he with he | he
  . have:=bI.mp (show (ps4.all λe=>plB 4 e.2&&decide (e.1<=255))=true by decide +kernel) e he;exact e02 (aK.mp this) λh1 h2=>⟨Aud h1,aB h2⟩
  . exact c2 e he
 have hR:=Aiu (fs4++gs);have hD:=Aop (fs4++gs) (f:=[]) (D:=[]) hC λe h=>absurd h bH;have hN:=(Abk (fs4++gs) (f:=[]) (D:=[]) List.nodup_nil).1;have hb:∀ q,Cn (Bc (fs4++gs) []) q<1000000:=λq=>by have:=Aug (q:=q) (Bc (fs4++gs) []) λe he=>(hg e he).2;omega
 have hok:∀ e∈Gs (fs4++gs) [] [],EOk e:=λe he=>by
  refine⟨hD.1 e he,?_⟩;refine e12 (bL.mp (hR.mem_iff.mp he)) λq hq h=>?_;rw [<- h];exact⟨Ajb (Bc (fs4++gs) []),hb q⟩
 refine e12 (Abn hok hN) λS s1 s2=>⟨S,hC,aV hPl (by decide),λe he=>(hg e he).1,Ajj hC,by rw [aL];show 4+_<=30;exact lec (fk [List.length gs] [(1,(.v 0),(.n 3)),(1,(.a (.n 30) (.n 1)),(.a (.n 4) (.v 0)))] rfl hl),Aof (λe he=>(hg e he).1) hb (s1.trans hR) s2,s1,s1.trans hR,⟨?_,?_⟩,hD.1,hN⟩
 . rw [(s1.trans hR).length_eq,aF];have hF:=(Td (Bc (fs4++gs) []) List.nodup_nil).2;have hm:(3,[[97],[98],[97]])∈Bc (fs4++gs) []:=by rw [hP];exact .head _
   exact Aoq ((hF []).mpr (.inr ⟨_,hm,List.nil_prefix⟩)) ((hF [[97]]).mpr (.inr ⟨_,hm,⟨[[98],[97]],rfl⟩⟩)) (by decide)
 . rw [s1.length_eq];have:=hD.2;rw [List.length_nil,<- Abt (fs4++gs) (f:=[])] at this;omega
theorem Ajk{α β:Type}{f:α->β}{l:List α}{lo hi st:Option Int}:Gz (l.map f) lo hi st=(Gz l lo hi st).map f:=by
 unfold Gz;rw [aF,List.map_filterMap];exact aJ (λg=>List.filterMap g _) (funext λi=>List.getElem?_map)
theorem Ajl:∀ l:List Int,De (l.map AV.int)=some l:=λl=>by
 induction l with
 | nil=>rfl
 | cons c r ih=>show (De (r.map _)).map _=_;rw [ih];rfl
theorem Ajm{a:IE}(h:EvE lv Y a J (.ok (.lst (is.map .int))) J):EvE lv Y (.blt .sum [a]) J (.ok (.int is.sum)) J:=Bx (l1 h) (by
 show (M.ofOpt (De (is.map AV.int))).bnd (λis=>M.ret (AV.int is.sum)) J=_;rw [Ajl];rfl)
structure FsI(is:List Int)(m:Nat)(rest:List AV)(Y:Ae)(J':Sto)(ks:List Nat)(gs:Fs):Prop where
 r:rest=ks.map λ(k:Nat)=>AV.int k
 n:gs.length+ks.length=m
 s:J'[1]?=some (.lst ((fs4++gs).map fAV))/\∃ c,J'[0]?=some (.tbl c)
 a:∀ x∈gs,Ta x.1 x.2
 v:Y 0=some (.lst (is.map .int))/\Y 1=some (.ref 1)/\Fr Y
theorem Aos{m:Nat}{it:IE}(hm:m<=3)(hi:EvE (lv+1) Y it J (.ok (.int m)) J)(h1:J[1]?=some (.lst (fs4.map fAV)))(h0:∃ c,J[0]?=some (.tbl c))(hv:Y 0=some (.lst (is.map .int))/\Y 1=some (.ref 1)/\Fr Y) :
 ∃ Y' J' gs,EvX (lv+1) Y (.forr (.var 2) (.val (.blt .range [it])) Yy) J (.ok .nxt,Y',J')/\FsI is m [] Y' J' [] gs:=by
 have L:=Hn (lv:=lv+1) (I:=λ_=>True) (Inv:=λrest Y J'=>∃ ks gs,FsI is m rest Y J' ks gs) (t:=.var 2) (q:=Yy) (λ_ _ _ _=>trivial) (λx rest Y J' i=>e21 i λks gs N=>by
  match ks,N with
  | [],N=>exact absurd N.r (by simp)
  | k::ks,N=>
   refine cnE N.r λhx hr=>?_;have hn:=N.n;rw [bE] at hn;have es:EvE (lv+1) (put Y 2 (.int k)) (.blt .sum [(.slc (.var 0) (some (.var 2)) none (some (.lit (.int 3))))]) J' (.ok (.int (Gz is (some (k:Int)) none (some 3)).sum)) J':=
    Ajm (Gv (Aa N.v.1) (Cq (Aa rfl)) Bs (Cq Af) (by show some (Except.ok (AV.lst (Gz (is.map AV.int) (some (k:Int)) none (some 3))),J')=_;rw [Ajk]))
   refine e32 (Atc (lv:=lv) (J:=J') (x:=(Gz is (some (k:Int)) none (some 3)).sum)) λs t ps c1 f1=>?_;have hl:∀ {j:Nat} {o:Al},J'[j]?=some o->(J'++[.lst ps])[j]?=some o:=λ{j o} h=>(bD (aN.mp h).1).trans h;have hp:=Kb (x:=fAV (s,t)) (hl N.s.1) (by rw [aF,aL];show 4+_<=1000;exact lec (fk [m,List.length gs,ks.length] [(1,(.v 0),(.n 3)),(1,(.a (.v 1) (.a (.v 2) (.n 1))),(.v 0)),(1,(.a (.n 1000) (.n 1)),(.a (.n 4) (.v 1)))] rfl hm (aD hn)));refine⟨put Y 2 x,rfl,.nxt,put Y 2 x,_,.inl rfl,by rw [hx];exact Bz (Av (Aa N.v.2.1) (Fx N.s.1 rfl) (l1 (Ao (l1 es) c1)) hp) Ah,ks,gs++[(s,t)],hr,by rw [aL,dL];exact eqc (fk [List.length gs,ks.length,m] [(1,(.a (.v 0) (.a (.v 1) (.n 1))),(.v 2)),(1,(.a (.v 2) (.n 1)),(.a (.a (.v 0) (.n 1)) (.v 1)))] rfl (aD hn)) (fk [m,List.length gs,ks.length] [(1,(.v 0),(.a (.v 1) (.a (.v 2) (.n 1)))),(1,(.a (.a (.a (.v 1) (.n 1)) (.v 2)) (.n 1)),(.v 0))] rfl (aD (Eq.symm hn))),⟨?_,N.s.2.imp λc h=>(bM (by decide)).trans (hl h)⟩,λy hy=>(aZ.mp hy).elim (N.a y) λh=>aQ.mp h▸f1,N.v⟩;rw [Ax (hl N.s.1)];show some (Al.lst ((fs4++gs).map fAV++[(s,t)].map fAV))=_;rw [<- bP,bC])
  (Kg (n:=m)) (Y:=Y) (J:=J) ⟨List.range' 0 m,[],rfl,by rw [List.length_range'];exact Nat.zero_add m,⟨by rw [bW];exact h1,h0⟩,λ_ h=>absurd h bH,hv⟩
 refine e22 L λY' J' hF i=>e21 i λks gs N=>?_;have hks:ks=[]:=by have:=N.r;cases ks with | nil=>rfl | cons a r=>exact absurd this (by simp)
 subst hks;exact⟨Y',J',gs,Db (Abg hi (by exact ltc (fk [m] [(1,(.v 0),(.n 3)),(1,(.n 1000),(.v 0))] rfl hm))) rfl hF,N⟩
theorem Vs{f:AV->AV->Option Bool}:∀ l:List AV,(∀ a∈l,f a a=some true)->eqL f l l=some true:=λl=>by
 induction l with
 | nil=>exact λ_=>rfl
 | cons a r ih=>
  intro h;show (match f a a,eqL f r r with | some b,some c=>some (b&&c) | _,_=>none)=_;rw [h a (.head _),ih λb hb=>h b (.tail _ hb)];rfl
theorem Tj{k:Nat}:eqA (k+4) (.lst (S.map eAV)) (.lst (S.map eAV))=some true:=by
 show (if (S.map eAV).length=(S.map eAV).length then eqL (eqA (k+3)) (S.map eAV) (S.map eAV) else some false)=_;rw [if_pos rfl];exact Vs _ λa ha=>e12 (bL.mp ha) λe _ h=>h▸Abp
theorem Ajn{k:Nat}{a b:AV}(ha:eqA k a a=some true)(hb:eqA k b b=some true):eqA (k+1) (.tup [a,b]) (.tup [a,b])=some true:=by
 show Option.map (·&&decide (2=2)) (eqL (eqA k) [a,b] [a,b])=_;rw [Vs _ λc hc=>(aM.mp hc).elim (λh=>h▸ha) λh=>aQ.mp h▸hb];rfl
theorem Axn{a b:IE}{v:AV}{J2:Sto}(h1:EvE lv Y a J (.ok v) J1)(h2:EvE lv Y b J1 (.ok v) J2)(h:eqA dp v v=some true):EvE lv Y (.cmp .eq a b) J (.ok (.bool true)) J2:=Ay h1 h2 (by show (M.ofOpt (eqA dp v v)).bnd _ _=_;rw [h];rfl)
theorem Axo{a b:IE}{v:AV}{J2:Sto}(h1:EvE lv Y a J (.ok v) J1)(h2:EvE lv Y b J1 (.ok v) J2)(h:eqA dp v v=some true):EvE lv Y (.cmp .ne a b) J (.ok (.bool false)) J2:=Ay h1 h2 (by show (M.ofOpt (eqA dp v v)).bnd _ _=_;rw [h];rfl)
theorem Auh{a b:IE}(h1:EvE lv Y a J (.ok (.lst xs)) J)(h2:EvE lv Y b J (.ok (.int c)) J)(hc:c<=xs.length):EvE lv Y (.slc a (some b) none none) J (.ok (.lst (xs.drop c))) J:=
 Gv h1 (Cq h2) Bs Bs (by
  show some (Except.ok (AV.lst ((xs.drop (if (c:Int)<0 then ((c:Int)+xs.length).toNat else min (c:Int).toNat xs.length)).take (xs.length - (if (c:Int)<0 then ((c:Int)+xs.length).toNat else min (c:Int).toNat xs.length)))),J)=_;rw [if_neg (Int.not_lt.mpr (bN c)),Int.toNat_natCast,Nat.min_eq_left hc,List.take_of_length_le (by rw [List.length_drop];exact aU _)])
theorem Axp:∀ (l:List (List Nat)),inA (mk x) (l.map mk)=some (decide (x∈l)):=λl=>by
 induction l with
 | nil=>exact aJ some (aP bH).symm
 | cons a r ih=>
  show (match some ((⟨a.toArray⟩:Str) == ⟨x.toArray⟩),inA (mk x) (r.map mk) with | some b,some c=>some (b||c) | _,_=>none)=_;rw [Cv,ih];refine aJ some ?_;rw [<- Bool.decide_or];exact bU.mpr ⟨λh=>h.elim (λe=>e▸.head _) (.tail _),λh=>(aM.mp h).imp Eq.symm id⟩
theorem Aot(hA:∀ e∈A,Bh 4 e.1)(hq:Bh 4 q):Ak q∈A.map (λe=>Ak e.1)↔q∈A.map (·.1):=
 ⟨λh=>e12 (bL.mp h) λe he h=>by
  have:q=e.1:=by rw [<- (Dy hq).2.2.1,<- h,(Dy (hA e he)).2.2.1]
  rw [this];exact bY (f:=(·.1)) he,λh=>e12 (bL.mp h) λe he h=>by rw [<- h];exact bY (f:=λe=>Ak e.1) he⟩
theorem Aou{v:AV}{ys:List AV}:Cl (some 1) (some (-1)) (v::ys)=ys.dropLast:=by
 show ((v::ys).drop (min 1 (ys.length+1))).take ((-1+((ys.length+1:Nat):Int)).toNat - min 1 (ys.length+1))=_;rw [Nat.min_eq_left (Nat.le_add_left 1 _),Int.add_comm,show (((ys.length+1:Nat):Int) + -1).toNat=ys.length from by rw [Int.natCast_add];exact aJ Int.toNat (Int.add_neg_cancel_right _ 1),List.dropLast_eq_take];rfl
noncomputable def dnE:IE:=.comp false (.idx (.var 101) (.lit (.int 2))) [101] (.val (.slc (.var 9) none (some (.var 11)) none)) []
noncomputable def hdI:IE:=.or [(.cmp .eq (.idx (.var 101) (.lit (.int 2))) (.lit (.str ⟨#[47]⟩))),(.cmp .isin (.bin .add (.lit (.str ⟨#[47]⟩)) (.meth (.lit (.str ⟨#[47]⟩)) .join [(.slc (.idx (.var 101) (.lit (.int 1))) (some (.lit (.int 1))) (some (.neg (.lit (.int 1)))) none)])) (.cvar 12))]
noncomputable def hdE:IE:=.comp false (.var 101) [101] (.val (.slc (.var 9) (some (.var 11)) none none)) [hdI]
theorem Aui(G:Hs S)(hl:S.length<64)(hF:Fr Y)(h9:Y 9=some (.lst (S.map eAV)))(h11:Y 11=some (.int c)):EvE lv Y dnE J (.ok (.lst ((S.take c).map λe=>mk (Ak e.1)))) J:=by
 have C:=Zb (lv:=lv) (Y:=Y) (J:=J) (I:=λ_=>True) (elt:=.idx (.var 101) (.lit (.int 2))) (ts:=[101]) (ifs:=[]) (fx:=eAV) (gy:=λe=>mk (Ak e.1)) (t:=λ_=>true) trivial (S.take c) (acc:=[]) (Et _) (by rw [List.length_take];show 0+_<1000;omega) λe _=>⟨_,rfl,Qc,λ_=>Bp (x:=eAV e) (y:=.int 2) (Aa rfl) Af rfl⟩;rw [List.nil_append,List.filter_eq_self.mpr (λ_ _=>rfl),List.map_take] at C;exact Ho hF rfl (Dd (Ti (Aa h9) (Aa h11)) rfl) rfl C false
theorem Auj(G:Hs S)(hl:S.length<64)(hc:c<=S.length)(hF:Fr Y)(h9:Y 9=some (.lst (S.map eAV)))(h11:Y 11=some (.int c))(h12:Y 12=some (.lst ((S.take c).map λe=>mk (Ak e.1)))):EvE lv Y hdE J (.ok (.lst ((Fz (S.take c) (S.drop c)).map eAV))) J:=by
 have hA:∀ e∈S.take c,Bh 4 e.1:=λe he=>(G.ok e (List.mem_of_mem_take he)).1;have C:=Zb (lv:=lv) (Y:=Y) (J:=J) (I:=λ_=>True) (elt:=.var 101) (ts:=[101]) (ifs:=[hdI]) (fx:=eAV) (gy:=eAV) (t:=λe=>decide (e.1=[]\/e.1.dropLast∈(S.take c).map (·.1))) trivial (S.drop c) (acc:=[]) (Et _) (by rw [List.length_drop];show 0+_<1000;exact ltc (fk [List.length S,List.length S - c] [(1,(.a (.v 0) (.n 1)),(.n 64)),(1,(.v 1),(.v 0)),(1,(.n 1000),(.a (.n 0) (.v 1)))] rfl hl (cA (List.length S) (c)))) λe he=>⟨put Y 101 (eAV e),rfl,?_,λ_=>Aa rfl⟩
 . rw [List.nil_append,List.map_drop] at C;exact Ho hF rfl (Dd (Auh (Aa h9) (Aa h11) (by rw [aF];exact hc)) rfl) rfl C false
 . have hp:=(G.ok e (List.mem_of_mem_drop he)).1;have hq:=hp.drop.mono (show 4 - 1<=4 by decide);have hB:=(Dy hq).2.2.2.1;have ec:EvE lv (put Y 101 (eAV e)) (.cmp .eq (.idx (.var 101) (.lit (.int 2))) (.lit (.str ⟨#[47]⟩))) J (.ok (.bool (decide (Ak e.1=[47])))) J:=Ay (Bp (x:=eAV e) (y:=.int 2) (Aa rfl) Af rfl) Af (Oq (y:=[47]));by_cases z:e.1=[]
   . have hz:=tru (J:=J) (aC ((Dy hp).2.2.2.2.2.mpr z));rw [aC (.inl z)];exact Abc (Gq ec hz) hz
   . have hs:Abx (.lst ((cpN e.1).map mk)) (some (.int 1)) (some (.int (-1))) none J=some (.ok (plV e.1.dropLast),J):=by
      show some (Except.ok (AV.lst (Cl (some 1) (some (-1)) ((cpN e.1).map mk))),J)=_;unfold cpN;rw [if_neg z,cP,Aou,<- List.map_dropLast];rfl
     have hj:methA (mk [47]) .join [plV e.1.dropLast] J=some (.ok (mk (Bm [47] e.1.dropLast)),J):=by
      show (match Fc (e.1.dropLast.map mk) with | some l=>_ | none=>_:M AV) J=_;rw [Mm];show M.grd (decide ((Bm [47] e.1.dropLast).length<lim)) _ J=_;rw [aC (aT (cN _) (aT hB (by unfold lim;decide)))];rfl
     have ei:EvE lv (put Y 101 (eAV e)) (.cmp .isin (.bin .add (.lit (.str ⟨#[47]⟩)) (.meth (.lit (.str ⟨#[47]⟩)) .join [(.slc (.idx (.var 101) (.lit (.int 1))) (some (.lit (.int 1))) (some (.neg (.lit (.int 1)))) none)])) (.cvar 12)) J (.ok (.bool (decide (Ak e.1.dropLast∈(S.take c).map λe=>Ak e.1)))) J:=
      Ay (x:=mk (Ak e.1.dropLast)) (Ba Af (Av Af rfl (l1 (Gv (Bp (x:=eAV e) (y:=.int 1) (Aa rfl) Af rfl) (Cq Af) (Cq (Oo Af)) Bs hs)) hj) (Je (x:=[47]) (aV (aD (Nat.add_comm 1 _)) (aT hB (by decide))))) (Ep h12) (by
       show (M.ofOpt (inA (mk (Ak e.1.dropLast)) ((S.take c).map λe=>mk (Ak e.1)))).bnd _ J=_;rw [show ((S.take c).map λe=>mk (Ak e.1))=((S.take c).map λe=>Ak e.1).map mk by rw [List.map_map];rfl,Axp];rfl)
     refine Abc (Er ec (fal (aP λh=>z ((Dy hp).2.2.2.2.2.mp h))) (Ke ei)) ?_;rw [show decide (e.1=[]\/e.1.dropLast∈(S.take c).map (·.1))=decide (Ak e.1.dropLast∈(S.take c).map λe=>Ak e.1) from bU.mpr ((or_iff_right z).trans (Aot hA hq).symm)];rfl
theorem fin(G:Hs S)(hE:E.Perm S)(h2:2<=S.length)(hl:S.length<64){sm:Int}(h9:Y 9=some (.lst (S.map eAV)))(h10:Y 10=some (.lst (E.map eAV)))(h0:Y 0=some (.lst (is.map .int)))(hF:Fr Y) :
 ∃ Y' l,EvB (lv+5) Y [.ass (.var 11) (.bin .mod (.bin .add (.blt .sum [(.var 0)]) (.lit (.int 5))) (.bin .add (.blt .len [(.var 9)]) (.lit (.int 1)))),.ass (.var 12) dnE,.ass (.var 13) hdE,.ret (.and [(.cmp .eq (.call (.lit (.con (.ref 90))) [(.var 11),(.var 10)]) (.slc (.var 9) none (some (.var 11)) none)),(.cmp .eq (.call (.lit (.con (.ref 269))) [(.var 10),(.var 11)]) (.tup [(.slc (.var 9) none (some (.var 11)) none),(.var 13)]))])] J (.ok (.ret (.bool true)),Y',J++l):=by
 refine e12 (md (x:=is.sum+5) (a:=0) (Nat.succ_pos S.length)) λc hc e=>?_;have hc':c<=S.length:=Nat.le_of_lt_succ hc;have x11:EvE (lv+5) Y (.bin .mod (.bin .add (.blt .sum [(.var 0)]) (.lit (.int 5))) (.bin .add (.blt .len [(.var 9)]) (.lit (.int 1)))) J (.ok (.int c)) J:=by
  refine Ba (x:=.int (is.sum+5)) (y:=.int (S.length+1:Nat)) (Ba (Ajm (Aa h0)) Af rfl) (Ba (x:=.int S.length) (Bx (l1 (Aa h9)) (by show some (Except.ok (AV.int ((S.map eAV).length:Nat)),J)=_;rw [aF])) Af rfl) ?_;unfold Iq Aei;dsimp only;rw [aC (Int.natCast_pos.mpr (Nat.succ_pos _))];show some (Except.ok (AV.int ((is.sum+5) % ((S.length+1:Nat):Int))),J)=_;rw [show (is.sum+5) % ((S.length+1:Nat):Int)=c from e]
 have x12:=Aui (lv:=lv+5) (J:=J) (Y:=put Y 11 (.int c)) G hl hF h9 rfl;have x13:=Auj (lv:=lv+5) (J:=J) (Y:=put (put Y 11 (.int c)) 12 (.lst ((S.take c).map λe=>mk (Ak e.1)))) G hl hc' hF h9 rfl rfl;refine e11 (Aon (lv:=lv) (J:=J) G hE h2 hl hc') λl1' c1=>?_;refine e11 (Axg (lv:=lv) (J:=J++l1') G hE hl hc') λl2' c2=>?_;have eS:∀ {Y:Ae} {J:Sto},Y 9=some (.lst (S.map eAV))->Y 11=some (.int c)->EvE (lv+5) Y (.slc (.var 9) none (some (.var 11)) none) J (.ok (.lst ((S.take c).map eAV))) J:=λh9 h11=>by rw [List.map_take];exact Ti (Aa h9) (Aa h11)
 exact⟨_,l1'++l2',Ad x11 (Ad x12 (Ad x13 (Ck (Dw (Axn (Ao (l2 (Aa rfl) (Aa h10)) c1) (eS h9 rfl) Tj) rfl (by rw [<- bC];exact Axn (Ao (l2 (Aa h10) (Aa rfl)) c2) (Fa (l2 (eS h9 rfl) (Aa rfl)) (by show 2<1000;decide)) (Ajn (k:=7) (Tj (k:=3)) (Tj (k:=3))))))))⟩
theorem Axq{k:Nat}:eqA (k+2) (.tup [.str W,.bytes R]) (.tup [.str W,.bytes R])=some true:=
 Ajn (k:=k+1) (aJ some (beq_self_eq_true W)) (aJ some (beq_self_eq_true R))
theorem Ajo{a:IE}(h1:EvE lv Y a J (.ok (.lst xs)) J)(hs:Cy xs=some YY)(hY:YY.length<900):EvE lv Y (.blt .sorted [a]) J (.ok (.lst YY)) J:=Bx (l1 h1) (by
 show (M.ofOpt (Cy xs)).bnd (λys=>M.grd (decide (ys.length<lim)) (M.ret (AV.lst ys))) J=_;rw [hs];show M.grd (decide (YY.length<lim)) _ J=_;rw [aC (aT hY (by unfold lim;decide))];rfl)
theorem Bab(is:List Int):∃ J' m,EvC 20 286 [.lst (is.map .int)] [.tbl 0] (.ok (.bool true)) J'/\J'[0]?=some (.tbl m):=by
 obtain ⟨ρ0,hY0⟩:∃ Y:Ae,Y=λi=>[AV.lst (is.map .int)][i]?:=⟨_,rfl⟩;have xF:EvE 19 ρ0 (.lst true [(.tup [(.lit (.int 3)),(.lit (.str ⟨#[97,47,98,47,97]⟩))]),(.tup [(.lit (.int 2)),(.lit (.str (Str.ofString "../../a")))]),(.tup [(.lit (.int 130)),(.lit (.str (Str.ofString "/../b/.")))]),(.tup [(.lit (.int 4)),(.lit (.str ⟨#[97,45]⟩))])]) [.tbl 0] (.ok (.ref 1)) [.tbl 0,.lst (fs4.map fAV)]:=Bl 20 λm=>by kernel_rfl
 obtain ⟨m,hm,xm⟩:∃ m:Nat,m<=3/\EvE 19 (put ρ0 1 (.ref 1)) (.blt .min [(.lit (.int 3)),(.blt .len [(.var 0)])]) [.tbl 0,.lst (fs4.map fAV)] (.ok (.int m)) [.tbl 0,.lst (fs4.map fAV)]:=by
  have el:EvE 19 (put ρ0 1 (.ref 1)) (.blt .len [(.var 0)]) [.tbl 0,.lst (fs4.map fAV)] (.ok (.int ((is.map AV.int).length:Nat))) [.tbl 0,.lst (fs4.map fAV)]:=Bx (l1 (Aa (by rw [hY0];rfl))) rfl;by_cases z:(((is.map AV.int).length:Nat):Int)<3
  . exact⟨(is.map AV.int).length,by omega,Bx (l2 Af el) (by show some (Except.ok (AV.int (if (((is.map AV.int).length:Nat):Int)<3 then (((is.map AV.int).length:Nat):Int) else 3)),_)=_;rw [if_pos z])⟩
  . exact⟨3,aU _,Bx (l2 Af el) (by show some (Except.ok (AV.int (if (((is.map AV.int).length:Nat):Int)<3 then (((is.map AV.int).length:Nat):Int) else 3)),_)=_;rw [if_neg z];rfl)⟩
 refine e32 (Aos (lv:=18) (is:=is) hm xm rfl ⟨0,rfl⟩ ⟨by rw [hY0];rfl,rfl,by rw [hY0];rfl⟩) λρ1 σ1 gs x1 N=>?_;have hn:=N.n;rw [List.length_nil,Nat.add_zero] at hn;refine e11 (Aor N.a (by rw [hn];exact hm)) λS P=>?_;obtain ⟨fs,hfs⟩:∃ fs,fs=fs4++gs:=⟨_,rfl⟩;rw [<- hfs] at P;have hJ1:σ1[1]?=some (.lst (fs.map fAV)):=by rw [hfs];exact N.s.1
 have l1':1<σ1.length:=(aN.mp hJ1).1;obtain ⟨T,W,R,c1,t1,t2,t3⟩:=Atg (lv:=18) (J:=σ1) (x:=is.sum);have c2:=Ain (lv:=18) (J:=σ1) (k:=1) (tl:=T) hJ1 P.s P.l ⟨t2,t3⟩;refine e13 (Atk (lv:=14) (J:=σ1) P.c P.l t1 N.s.2) λσ2 c3 K hD=>?_;have hJ2:σ2[1]?=some (.lst (fs.map fAV)):=(K.2.2 1 l1' (by decide)).trans hJ1;have hY:(S.map eAV).length<64:=by rw [aF];exact P.n.2
 have hFl:(frF (Bc fs []) []).length=S.length:=by rw [P.e.length_eq,aF]
 have s1:=Jr (E:=(frF (Bc fs []) []).map λq=>(q,Cn (Bc fs []) q)) (S:=S) (λe he=>P.go.ok e (P.e.mem_iff.mpr he)) (by rw [aF,hFl];exact P.n.1) (by rw [aF,hFl];exact P.n.2) P.e P.go.st;refine e11 (Axa (lv:=17) (J:=σ2) (kf:=1) hJ2 P.c P.p P.g (by rw [hFl];exact aT P.n.2 (by decide)) s1 (aT hY (by decide))) λl3 c4=>?_;have hkd:σ1.length+1<σ2.length:=(aN.mp hD).1;have hDl:(Gs fs [] []).length=S.length:=P.d.length_eq.symm;have c5:=Adz (lv:=18) (J:=σ2++l3) (kd:=σ1.length+1) P.dk.1 P.dk.2 (by rw [hDl];exact aT P.n.2 (by decide)) ((bD hkd).trans hD);have s2:=Jr (E:=Gs fs [] []) (S:=S) (λe he=>P.go.ok e (P.d.mem_iff.mpr he)) (by rw [hDl];exact P.n.1) (by rw [hDl];exact P.n.2) P.d P.go.st;obtain ⟨J4,h4⟩:∃ J,J=(σ2++l3).set (σ1.length+1) (.fdict ((Gs fs [] []).map dE)):=⟨_,rfl⟩;rw [<- h4] at c5;have g0:∃ c,J4[0]?=some (.tbl c):=K.1.imp λc h=>by rw [h4];exact (bM (Nat.succ_ne_zero _)).trans ((bD (aT (Nat.succ_pos _) hkd)).trans h)
 refine e21 (fin (lv:=14) (J:=J4) (is:=is) (sm:=0) (Y:=put (put (Ev (Ev ρ1 [3,4,5] [Ei T,.str W,.bytes R]) [6,7,8] [.ref (σ1.length+1),.str W,.bytes R]) 9 (.lst (S.map eAV))) 10 (.lst ((Gs fs [] []).map eAV))) P.go P.d.symm P.n.1 P.n.2 rfl rfl N.v.1 N.v.2.2) λY' l5 c6=>?_;refine e11 g0 λc h0=>⟨J4++l5,c,?_,(bD (aN.mp h0).1).trans h0⟩;refine Cs [.lst (is.map .int)] (by decide) rfl rfl ⟨Y',?_⟩;rw [<- hY0];exact Ad xF (Dc x1 (Aaz (Ao (l1 (Ajm (Aa N.v.1))) c1) rfl (Aaz (Ao (l1 (Ao (l2 (Aa N.v.2.1) (Aa rfl)) c2)) c3) rfl (Ar (t:=false) (Axo (Fa (l2 (Aa rfl) (Aa rfl)) (by show 2<1000;decide)) (Fa (l2 (Aa rfl) (Aa rfl)) (by show 2<1000;decide)) (Axq (k:=6))) rfl Ah
  (Ad (Ao (l1 (Aa N.v.2.1)) c4) (Ad (Ao (l1 (Aa rfl)) c5) (Ar (t:=false) (Axo (Ajo (Aa rfl) s2 (aT hY (by decide))) (Aa rfl) Tj) rfl Ah c6)))))))
end
end Ik.Internal.Z
namespace Ik.Internal
open PySem PySem.W PyProof.Rows
noncomputable def pw:Program:=PySem.Challenge.pw_ik0078_01
noncomputable def qv:Program:={ pw with main:={ pw.main with body:=pw.main.body.drop (pw.main.body.length - 1)}}
noncomputable def lsv:List Str:=pw.boundNames.filter λn=>!(n == Str.ofString "law")
noncomputable def Aqd(d:Data):Option FuncData:=match d with
 | .func fd=>some { fd with pyModule:=.none}
 | _=>none
noncomputable def Aqe(d:Data):Option (Array Value):=match d with
 | .fields vs=>some vs
 | _=>none
noncomputable def Aqf(d:Data):Option (Array Value):=match d with
 | .seq vs _=>some vs
 | _=>none
noncomputable def Aqg(v:Value):Option Str:=match v with
 | .str q _=>some q
 | _=>none
noncomputable def Tk(h:Heap)(a:Addr):Option FuncData:=(h.get? a).bind λo=>Aqd o.data
noncomputable def Kj(h:Heap)(a:Addr):Option Str:=(h.get? a).bind λo=>(Aqe o.data).bind λvs=>vs[1]?.bind Aqg
noncomputable abbrev Ot:Type:=Str×Arguments×List Stmt×Scope
noncomputable def Aov(st:Stmt):Option Ot:=match st with
 | .FunctionDef name args body _ _ _ scope _ _ _=>some (name,args,body,scope)
 | _=>none
noncomputable def Tm(q:Ot)(a:Addr)(D:Value):FuncData:={ name:=q.1,qualname:=q.1,params:=q.2.1,body:=.stmts q.2.2.1,scope:=q.2.2.2,globals:=mainGlobals,closure:=[],defaults:=D,kwdefaults:=.none,code:=.ref (a - 1),builtins:=builtinsNs}
noncomputable def Eu(x:String):Option Ot:=(pw.main.body.find? λst=>match st with
 | .FunctionDef name _ _ _ _ _ _ _ _ _=>name == Str.ofString x
 | _=>false).bind Aov
theorem Axr:∀ w:World,(fencedOpening treeTable pw w 3000).map (λs=>(s.heap,s.gens,s.drawn,s.toks))=some (boot_heap w.params,Array.mk [],boot_drawn,boot_toks):=
 boot_open rfl rfl λs=>rfl
noncomputable def s0(w:World)(os:OsState):Shared:=⟨boot_heap w.params,Array.mk [],boot_drawn,boot_toks,os⟩
noncomputable def Aea(a:Addr):Value:=if a=90 then .ref 85 else .none
noncomputable def Abu(h:Heap):Option (Array Value):=(h.get? 85).bind λo=>Aqf o.data
noncomputable def Kk(h:Heap):Bool:=h.isNs mainGlobals&&h.isNs builtinsNs&&h.isNs cStatics&&(h.nsMap cStatics "sys.recursionlimit").isNone&&(h.get? sysModules).isSome&&h.bmainOk &&
 Aes.all λp=>decide (h.nsMap mainGlobals p.1=some p.2)||(decide (h.nsMap mainGlobals p.1=none)&&decide (h.nsMap builtinsNs p.1=some p.2))
noncomputable def Yh(h:Heap):=((Ch.map λp=>(Tk h p.2,Kj h (p.2 - 1))),h.tab0At 232,Abu h,Kk h)
noncomputable def Yg:=((Ch.map λp=>((Eu p.1).map λq=>Tm q p.2 (Aea p.2),some (Str.ofString p.1))),some 228,some #[Value.none],true)
theorem Bac(w:World)(os:OsState):((topRun treeTable pw w 11 ((s0 w os).heap.nsMap mainGlobals "__annotations__") 3000 (s0 w os) (topStub pw)).map λs=>
 (staticsOk (importedModules pw.main.body) (s0 w os).heap s.heap&&namesBound pw s.heap&&gensDone s&&laidKept (s0 w os).heap s.heap,openSeen qv lsv (importedModules pw.main.body) (λ_=>true) true s,Yh s.heap))=some (true,openGood qv lsv,Yg):=by
 rw [PySem.W.Fast.te14082659384304107361,PySem.W.Fast.te14364793385576792824,PySem.W.Fast.te4187177175401517315]
 kernel_rfl
theorem Auk{p:Program}{w:World}{N m:Nat}{s:Shared}{α:Type}{F:Shared->α}{g:α}(h1:(s.heap.isNs mainGlobals&&s.gens.size == 0)=true)(h2:s.heap.objs.size=m)
 (h:((topRun treeTable p w m (s.heap.nsMap mainGlobals "__annotations__") N s (topStub p)).map λs1=>(staticsOk (importedModules p.main.body) s.heap s1.heap&&namesBound p s1.heap&&gensDone s1&&laidKept s.heap s1.heap,F s1))=some (true,g)):(topFrom treeTable p w N s).map F=some g:=by
 subst h2;obtain ⟨s1,e,h⟩:=bF.mp h;unfold topFrom;rw [h1];dsimp only;rw [e];dsimp only [Option.bind_some];have hb:=aJ Prod.fst h;dsimp only at hb;rw [hb];exact aJ (λx=>some x.2) h
theorem Aow{p:Program}{w:World}{N:Nat}{s s':Shared}{α:Type}{F:Shared->α}{g:α}(e:fencedOpening treeTable p w N=some s')(e':s'=s)(h:(topFrom treeTable p w N s).map F=some g):(openEnds treeTable p w N).map F=some g:=by
 subst e';unfold openEnds;rw [e];exact h
theorem left:LeftO pw qv lsv (λ_=>true) (λs=>Yh s.heap) (λ_=>Yg) 3000:=λw=>by
 obtain ⟨⟨h,gs,d,k,os⟩,e,e'⟩:=bF.mp (Axr w);obtain ⟨rfl,rfl,rfl,rfl⟩:h=boot_heap w.params/\gs=Array.mk []/\d=boot_drawn/\k=boot_toks:=by simpa using e'
 exact Aow e rfl (Auk (s:=s0 w os) (by kernel_rfl) (by kernel_rfl) (Bac w os))
end Ik.Internal
namespace Ik.Internal
open PySem PySem.W PyProof.Rows Z
noncomputable def Vu(q:Ot):Fn:={ np:=q.2.1.args.length,va:=q.2.1.vararg.isSome,df:=q.2.1.defaults.filterMap dfC,body:=cSs Akj 60 (rsOf Aki q.2.2.2.names 0 λ_=>.stuck) q.2.2.1}
theorem trs:(Ch.filter λp=>p.2 != 233).map (λp=>(p.2,(Eu p.1).map Vu))=Jb.map λq=>(q.1,some q.2):=by kernel_rfl
noncomputable def Tn(q:Ot):List Str:=q.2.1.args.map (·.arg)++(q.2.1.vararg.map (·.arg)).toList
noncomputable def Bad(p:String×Addr)(q:Ot):Bool:=decide (q.2.2.2.kind=.function/\q.2.2.2.isCoroutine=false/\q.2.2.2.isGenerator=false/\(q.1=Str.ofString p.1/\p.2≠228/\p.2 - 1≠228)/\(q.2.2.2.names.map (·.1)).Nodup/\
 (Tn q<+:q.2.2.2.names.map (·.1)/\∀ x∈q.2.2.2.names,(x.1∈Tn q->x.2=.local\/x.2=.cell)/\(x.1 == ("__classdict__":Str))=false)/\
 ((p.2=205->p.1="join")/\(p.2=90->p.1="nsmallest")/\(p.2≠90->p.2≠205->q.2.1.args.length<=3/\q.2.1.vararg.isNone=true/\q.2.1.defaults.isEmpty=true)))
theorem pts:(Ch.all λp=>(Eu p.1).any (Bad p))=true:=by kernel_rfl
theorem Ht:(λ(pm v w u:Value)=>(Ch.filter λp=>p.2 != 90&&p.2 != 205).map λp=>(Eu p.1).map λq=>bindArgs { Tm q p.2 .none with pyModule:=pm} ⟨[v,w,u].take q.2.1.args.length,[]⟩) =
 λpm v w u=>(Ch.filter λp=>p.2 != 90&&p.2 != 205).map λp=>(Eu p.1).map λq=>pure ((q.2.1.args.map (·.arg)).zip ([v,w,u].take q.2.1.args.length)):=by kernel_rfl
theorem Aox:(λ(pm v w:Value)=>(Eu "join").map λq=>((Tn q,q.2.1.vararg.isSome),bindArgs { Tm q 205 .none with pyModule:=pm} ⟨[v,w],[]⟩))=λpm v w=>(Eu "join").map λq=>(([Str.ofString "a",Str.ofString "p"],true),newTuple [w] >>= λt=>pure [(Str.ofString "a",v),(Str.ofString "p",t)]):=by kernel_rfl
theorem Aoy:(Eu "nsmallest").map (·.2.1)=some ⟨[],[⟨"n",none,⟨80,14,80,15⟩⟩,⟨"iterable",none,⟨80,17,80,25⟩⟩,⟨"key",none,⟨80,27,80,30⟩⟩],none,[],[],none,[.Constant .none 0 ⟨80,31,80,35⟩]⟩:=by kernel_rfl
section
variable{H:Heap}{p:String×Addr}{q:Ot}
noncomputable abbrev gH(H:Heap):Heap:=hideAll H [An]
theorem Io{a:Addr}{o:Obj}(e:H.get? a=some o)(n:a≠228):(gH H).get? a=some o:=hideAll_get _ e λh=>n (aQ.mp h)
theorem Aoz{d:Data}{fd:FuncData}(e:Aqd d=some fd):∃ pm,d=.func { fd with pyModule:=pm}:=by
 induction d using Data.casesOn with
 | func f=>exact snE e λe=>⟨f.pyModule,by rw [<- e]⟩
 | _=>exact nns e
theorem Apa{d:Data}{vs:Array Value}(e:Aqe d=some vs):d=.fields vs:=by
 induction d using Data.casesOn with
 | fields f=>exact snE e λe=>e▸rfl
 | _=>exact nns e
theorem Apb{d:Data}{vs:Array Value}(e:Aqf d=some vs):∃ n,d=.seq vs n:=by
 induction d using Data.casesOn with
 | seq f n=>exact snE e λe=>⟨n,e▸rfl⟩
 | _=>exact nns e
theorem Ajp{v:Value}{x:Str}(e:Aqg v=some x):∃ t,v=.str x t:=by
 induction v using PySem.Value.casesOn with
 | str y t=>exact snE e λe=>⟨t,e▸rfl⟩
 | _=>exact nns e
theorem Ajq{a:Addr}{fd:FuncData}(e:Tk H a=some fd):∃ o pm,H.get? a=some o/\o.data=.func { fd with pyModule:=pm}:=
 e12 (aX.mp e) λo ho e=>e11 (Aoz e) λpm hd=>⟨o,pm,ho,hd⟩
theorem Vv{a:Addr}{x:Str}(e:Kj H a=some x):∃ o vs t,H.get? a=some o/\o.data=.fields vs/\vs[1]?=some (.str x t):=
 e12 (aX.mp e) λo ho e=>e12 (aX.mp e) λvs hv e=>e12 (aX.mp e) λv hw e=>e11 (Ajp e) λt ht=>⟨o,vs,t,ho,Apa hv,ht▸hw⟩
theorem Aqh(e:Yh H=Yg)(hp:p∈Ch)(hq:Eu p.1=some q):Tk H p.2=some (Tm q p.2 (Aea p.2))/\Kj H (p.2 - 1)=some (Str.ofString p.1):=by
 have h:Ch.map (λp=>(Tk H p.2,Kj H (p.2 - 1)))=Ch.map λp=>((Eu p.1).map λq=>Tm q p.2 (Aea p.2),some (Str.ofString p.1)):=aJ (·.1) e;have:=List.map_inj_left.mp h p hp;rw [hq] at this;exact Prod.mk.inj this
theorem Apc(e:Abu H=some #[Value.none]):∃ o n,H.get? 85=some o/\o.data=.seq #[Value.none] n:=
 e12 (aX.mp e) λo ho e=>e11 (Apb e) λn hd=>⟨o,n,ho,hd⟩
theorem Axs(e:Yh H=Yg):Kk H=true:=aJ (·.2.2.2) e
theorem Ajr(e:Yh H=Yg):Kz (gH H) mainGlobals builtinsNs Aki:=by
 have s:=Axs e;simp only [Kk,Bool.and_eq_true] at s;refine e02 s λs s7=>?_;have hk:∀ a:Addr,a≠228->H.isNs a=true->(gH H).Ns a (H.nsMap a):=λa n h=>by
  obtain ⟨o,es,ep,ho,r⟩:=Heap.Ns.of_isNs h;exact⟨o,es,ep,Io ho n,r⟩
 refine⟨_,_,hk _ (by decide) s.1.1.1.1.1,hk _ (by decide) s.1.1.1.1.2,λx v h=>?_⟩;have hm:(x,v)∈Aes:=by
  obtain ⟨l1,l2,h,_⟩:=List.lookup_eq_some_iff.mp h;rw [h];exact aI _ (.head _)
 have:=bI.mp s7 _ hm;simpa using this
theorem Apd{α β:Type}[BEq α][LawfulBEq α]{a:α}{b:β}{l:List (α×β)}(h:l.lookup a=some b):(a,b)∈l:=by
 obtain ⟨l1,l2,h,_⟩:=List.lookup_eq_some_iff.mp h;rw [h];exact aI _ (.head _)
theorem Ape{fd:FuncData}(hA:fd.params=⟨[],[⟨"n",none,⟨80,14,80,15⟩⟩,⟨"iterable",none,⟨80,17,80,25⟩⟩,⟨"key",none,⟨80,27,80,30⟩⟩],none,[],[],none,[.Constant .none 0 ⟨80,31,80,35⟩]⟩)(hd:fd.defaults=.ref 85)(v w:Value)
 {M:Model} {A:Around} {Q:List (Str×Value)->Shared->Prop} {E:Value->Shared->Prop} {s:Shared} (hs:∀ Q':Option (Array Value)->Shared->Prop,Q' (some #[.none]) s->wpAny M A (seqItems? (.ref 85)) Q' E s) (hQ:Q [("n",v),("iterable",w),("key",.none)] s):wpAny M A (bindArgs fd ⟨[v,w],[]⟩) Q E s:=by
 unfold bindArgs;rw [hA,hd];change wpAny M A (seqItems? (.ref 85) >>= λr=>_) Q E s;exact aA (hs _ (aH hQ))
theorem Axt{vs:List Value}{n:Nat}(h:n<=3)(e:vs.length=n):∃ v w u,vs=[v,w,u].take n:=by
 subst e
 induction vs using List.casesOn with
 | nil=>exact⟨.none,.none,.none,rfl⟩
 | cons v r=>
  induction r using List.casesOn with
  | nil=>exact⟨v,.none,.none,rfl⟩
  | cons w r=>
   induction r using List.casesOn with
   | nil=>exact⟨v,w,.none,rfl⟩
   | cons u r=>
    induction r using List.casesOn with
    | nil=>exact⟨v,w,u,rfl⟩
    | cons _ _=>exact absurd (Nat.le_of_succ_le_succ (Nat.le_of_succ_le_succ (Nat.le_of_succ_le_succ h))) (Nat.not_succ_le_zero _)
theorem Aul(e:Yh H=Yg)(hp:p∈Ch)(hq:Eu p.1=some q){pm:Value}
 (h:(p.2=205->p.1="join")/\(p.2=90->p.1="nsmallest")/\(p.2≠90->p.2≠205->q.2.1.args.length<=3/\q.2.1.vararg.isNone=true/\q.2.1.defaults.isEmpty=true)):Oh (gH H) { Tm q p.2 (Aea p.2) with pyModule:=pm} (Vu q) (Tn q):=by
 by_cases a1:p.2=90
 . have h90:=Aoy;rw [<- h.2.1 a1,hq] at h90;have hA:q.2.1=_:=bG h90;exact e22 (Apc (aJ (·.2.2.1) e)) λod n ho hdd=>
    .df _ _ _ 85 od n (by unfold Vu;rw [hA];rfl) (by unfold Vu;rw [hA];rfl) (by unfold Vu;rw [hA];rfl) (by unfold Tn;rw [hA];rfl) (Io ho (by decide)) hdd λv w=>Ape (fd:={ Tm q p.2 (Aea p.2) with pyModule:=pm}) hA (if_pos a1) v w
 . have hd0:Aea p.2=.none:=if_neg a1;rw [hd0];by_cases a2:p.2=205
   . have hv:(λv w=>_)=(λv w=>_):=congrFun Aox pm;rw [<- h.1 a2,hq] at hv;have hw:∀ v w:Value,(Tn q,q.2.1.vararg.isSome)=([Str.ofString "a",Str.ofString "p"],true)/\bindArgs { Tm q 205 .none with pyModule:=pm} ⟨[v,w],[]⟩=(newTuple [w] >>= λt=>pure [(Str.ofString "a",v),(Str.ofString "p",t)]):=λv w=>Prod.mk.inj (bG (congrFun (congrFun hv v) w));rw [a2];exact .va _ _ (aJ (·.2) (hw .none .none).1) (aJ (·.1) (hw .none .none).1) λv w=>(hw v w).2
   . refine e03 (h.2.2 a1 a2) λh1 h2 h3=>?_;have hn0:q.2.1.vararg=none:=Option.isNone_iff_eq_none.mp h2;have hns:Tn q=q.2.1.args.map (·.arg):=by unfold Tn;rw [hn0];exact bW _
     refine .plain (by unfold Vu;rw [hn0];rfl) (by unfold Vu;rw [bS.mp h3];rfl) (by rw [hns,aF];rfl) λvs hl=>?_;rw [hns];rw [hns,aF] at hl;refine e31 (Axt h1 hl) λv w u hv=>?_;have hb:(Ch.filter λp=>p.2 != 90&&p.2 != 205).map _=List.map _ _:=congrFun (congrFun (congrFun (congrFun Ht pm) v) w) u;have:=List.map_inj_left.mp hb p (cM.mpr ⟨hp,by rw [bne_iff_ne.mpr a1,bne_iff_ne.mpr a2];rfl⟩);rw [hq] at this;rw [hv];exact bG this
theorem Aqi(e:Yh H=Yg)(hp:p∈Ch)(hq:Eu p.1=some q):∃ o fd,Amp Akj (gH H) p.2 (Vu q) o fd q.2.2.1 (Tn q):=by
 refine e02 (Aqh e hp hq) λh1 h2=>?_;refine e22 (Ajq h1) λo pm ho hd=>?_;refine e33 (Vv h2) λoc vs t hc hv hn=>?_;have hk:=bI.mp pts p hp;rw [hq] at hk;exact e07 (aB hk) λk1 k2 k3 k4 k5 k6 k7=>⟨o,_,Io ho k4.2.1,hd,rfl,rfl,⟨p.2 - 1,oc,vs,t,rfl,Io hc k4.2.2,hv,by rw [hn,<- k4.1];rfl⟩,Ajr e,k1,k2,k3,⟨60,rfl⟩,Aul e hp hq k7,k5,k6.1,λx hx=>(k6.2 x hx).1,λx hx=>(k6.2 x hx).2⟩
theorem Axu(e:Yh H=Yg){a:Addr}{f:Fn}(h:Jb.lookup a=some f):∃ o fd body ns,Amp Akj (gH H) a f o fd body ns:=by
 have hm:=Apd h;have h1:(a,some f)∈Jb.map λq=>(q.1,some q.2):=bY (f:=λq:Addr×Fn=>(q.1,some q.2)) hm;rw [<- trs] at h1;refine e12 (bL.mp h1) λp hp he=>?_;refine prE he λhe hf=>?_;refine e12 (bF.mp hf) λq hq hf=>?_;rw [<- he,<- hf];exact e21 (Aqi e (cM.mp hp).1 hq) λo fd F=>⟨o,fd,_,_,F⟩
theorem Aum{a:Addr}(n:a≠228)(h:H.isNs a=true):(gH H).Ns a (H.nsMap a):=e33 (Heap.Ns.of_isNs h) λo es ep ho hr r=>⟨o,es,ep,Io ho n,hr,r⟩
theorem Ajs(e:Yh H=Yg):(H.isNs mainGlobals=true/\H.isNs builtinsNs=true)/\(H.isNs cStatics=true/\H.nsMap cStatics "sys.recursionlimit"=none)/\(∃ o,H.get? sysModules=some o)/\H.bmainOk=true:=by
 have s:=Axs e;simp only [Kk,Bool.and_eq_true] at s;exact⟨s.1.1.1.1.1,⟨s.1.1.1.1.2,Option.isNone_iff_eq_none.mp s.1.1.1.2⟩,Option.isSome_iff_exists.mp s.1.1.2,s.1.2⟩
theorem Tp(e:Yh H=Yg):H.IsCode 232 228 #[]/\H.TableAt 232 228 #[]:=Heap.tab0At_spec (aJ (·.2.1) e)
theorem Ou:(Eu "_law_stream").map (λq=>(q.1,q.2.2))=some (Str.ofString "_law_stream",Ud,Fi Cr):=by kernel_rfl
theorem Aeb:(λpm v=>(Eu "_law_stream").map λq=>bindArgs { Tm q 233 .none with pyModule:=pm} ⟨[v],[]⟩)=λpm v=>(Eu "_law_stream").map λq=>pure [(Ap,v)]:=by kernel_rfl
theorem Bae(e:Yh H=Yg):Hom Akj Ai (gH H):=by
 refine e03 (Ajs e) λs1 s2 s3=>⟨λa f h=>Axu e h,⟨_,Aum (by decide) s2.1,s2.2⟩,?_⟩;refine e12 (bF.mp Ou) λq hq _=>?_;exact e21 (Aqi (p:=("_law_stream",233)) e (by decide +kernel) hq) λo fd F=>⟨o,fd,F.here,F.data⟩
theorem Aun(e:Yh H=Yg):∃ o fd mg,Ahc (gH H) Aki 233 o fd mg:=by
 refine e12 (bF.mp Ou) λq hq hp=>?_;refine prE hp λhp1 hp2=>prE hp2 λhp2 hp3=>?_;have hm:("_law_stream",233)∈Ch:=by decide +kernel
 refine e02 (Aqh e hm hq) λh1 h2=>?_;refine e22 (Ajq h1) λo pm ho hd=>?_;refine e33 (Vv h2) λoc vs t hc hv hn=>?_;refine e03 (Ajs e) λs1 s2 s3=>?_;refine⟨o,_,_,Io ho (by decide),hd,aJ FuncBody.stmts hp2,rfl,⟨232,oc,vs,t,rfl,Io hc (by decide),hv,by rw [hn,<- hp1];rfl⟩,rfl,?_,hp1,rfl,rfl,hp3,λv=>?_,Aum (by decide) s1.1,?_,⟨_,Aum (by decide) s2.1,s2.2⟩,Ajr e,by decide +kernel,by decide +kernel⟩
 . obtain ⟨o,vs,file,tf,flags,tg,inF,text,tt,e,r⟩:=CodeHd.of (Tp e).1 (Tp e).2;exact⟨o,vs,file,tf,flags,tg,inF,text,tt,Io e (by decide),r⟩
 . have h:=congrFun (congrFun Aeb pm) v;rw [hq] at h;exact bG h
 . obtain ⟨bm,ob,b1,b2,b3,b4,b5,b6⟩:=Heap.bmainOk_spec s3.2;have n1:bm≠228:=λh=>by
    rw [h,(Tp e).2.2] at b3;rw [<- bG b3] at b6;exact absurd b6 (by simp)
   refine⟨bm,ob,b1,b2,?_,n1,Io b3 n1,b4,b5,b6⟩;intro h;obtain ⟨o,es,ep,ho,hr,_⟩:=Heap.Ns.of_isNs s1.1;rw [h,ho] at b3;rw [<- bG b3,hr] at b6;exact absurd b6 (by simp)
theorem Ajt{w:World}(e:Yh H=Yg):Sg Ai pw w (gH H):=by
 refine e31 (Aun e) λo fd mg S=>⟨λK=>?_,λK=>?_⟩
 . exact λI OS R=>Ana K.lv (K.g▸S) I R
 . exact Anb K.lv (K.g▸S)
end
theorem Baf:PySem.Challenge.rw_ik0078_01.wellSaid=true:=by
 rw [PySem.W.Fast.te9446332074065402090]
 kernel_rfl
noncomputable abbrev Aju:OpenRow:=PySem.Challenge.rw_ik0078_01.row
noncomputable def Abv:Prop:=∀ is:List Int,is.length<=63->∃ n J' m,Pi Ai n 20 286 [.lst (is.map .int)] [.tbl 0]=some (.ok (.bool true),J')/\J'[0]?=some (.tbl m)
theorem Abw{R:WRecords}:∀ {xs:List WData},WShape.hasItems R xs .int=true->∃ is:List Int,xs=is.map .int
 | [],_=>⟨[],rfl⟩
 | x::xs,h=>by
  have h:(WShape.has R x .int&&WShape.hasItems R xs .int)=true:=h;refine e02 (aK.mp h) λh1 h2=>e11 (hasW_int h1) λi hi=>e11 (Abw h2) λis his=>⟨i::is,?_⟩;rw [hi,his];rfl
noncomputable def WJ(P:Params)(h:Heap)(v:Value)(d:WData):Prop:=match d with
 | .int i=>∃ t,v=.int i t
 | .list xs=>∃ a vs,v=.ref a/\h.get? a=some { cls:=.type "list",data:=.seq vs.toArray}/\WellAll P h vs xs
 | _=>True
theorem Vw{P:Params}{h:Heap}{v:Value}{d:WData}(w:Well P h v d):WJ P h v d:=by
 induction w using Well.casesOn with
 | int i t=>exact⟨t,rfl⟩
 | list e r=>exact⟨_,_,rfl,e,r⟩
 | _=>trivial
noncomputable def WI(P:Params)(h:Heap)(vs:List Value)(ds:List WData):Prop:=match ds with
 | []=>vs=[]
 | d::ds=>∃ v r,vs=v::r/\Well P h v d/\WellAll P h r ds
theorem Ic{P:Params}{h:Heap}{vs:List Value}{ds:List WData}(w:WellAll P h vs ds):WI P h vs ds:=
 WellAll.casesOn (motive_2:=λvs ds _=>WI P h vs ds) w rfl λa b=>⟨_,_,rfl,a,b⟩
theorem Aec{P:Params}{h:Heap}{V:Addr->Prop}{U:List Addr}{is:List Int}:∀ {vs:List Value},WellAll P h vs (is.map .int)->Ab h V U vs (is.map .int):=by
 induction is with
 | nil=>intro vs w;rw [show vs=[] from Ic w];exact .nil
 | cons i is ih=>intro vs w;exact e23 (Ic w) λv r hv hw hr=>e11 (Vw hw) λt ht=>by rw [hv,ht];exact .cons (.int i t) (ih hr)
theorem Ajv:∀ d:Bool,WTm.holds [] (.and (.not (.lit (.bool d))) (.lit (.bool true))) { args:=[]}=true->d=false
 | true,h=>absurd h (by decide +kernel)
 | false,_=>rfl
theorem Apf{xs:List WData}(h:Aju.toRowW.pre.holds Aju.toRowW.records { args:=[.list xs]}=true):xs.length<=63:=by
 have e:(λxs:List WData=>Aju.toRowW.pre.holds Aju.toRowW.records { args:=[.list xs]})=λxs=>WTm.holds [] (.and (.not (.lit (.bool (decide ((63:Int)<xs.length))))) (.lit (.bool true))) { args:=[]}:=by kernel_rfl
 have:=of_decide_eq_false (Ajv _ ((congrFun e xs).symm.trans h));omega
theorem walk(LR:Abv){d:DefRec}{kwd:List (Str×PySem.Expr)}(hn:d.name=Str.ofString "law"):WalkO qv lsv (λ_ _=>True) (λw h=>∃ H,Yh H=Yg/\∀ b o,H.get? b=some o->h.get? b=some o) Aju.toRowW d kwd λf vs=>PySem.call f vs:=by
 intro w s0 s1 mg mb G YY a o pm cd doc dV kV ho hd hcd hD hmg hg args vals as hpre hlay hrd hwl hlo;refine e12 YY λH hY hk=>?_;refine e02 (pre_splitW hpre) λp1 p2=>?_;refine e23 (hasAllW_cons p1) λx r hx p1 p3=>?_;have hr:=hasAllW_nil p3;refine e12 (hasW_list p1) λxs hxs p1=>?_;refine e11 (Abw p1) λis his=>?_;subst hr hxs his hx;have hlen:is.length<=63:=by have:=Apf p2;rwa [aF] at this
 refine e23 (Ic hwl) λv r hv w1 w2=>?_;have hr:r=[]:=Ic w2;refine e23 (Vw w1) λl vs hl hlo' w3=>?_;subst hr hv hl;refine e32 (LR is hlen) λn J' m e hm=>?_;have tb:=Tp hY;have ht:s1.heap.get? 228=some (tabObj #[]):=hk _ _ tb.2.2
 let Z:Zt:={ prog:=pw,w:=w,g:=gH H,fr:=[],envs:=[],A:=callerA}
 have sd:=Ajs hY;have I:Z.I s1.heap [An] [.tbl 0]:=by
  refine⟨λb o e=>hk _ _ (of_hideAll _ e),rfl,by decide,λa ha=>hideAll_none _ ha,λa ha=>?_,λk a o e1 e2=>?_,λa ha=>absurd ha (by simp [Z])⟩
  . rw [aQ.mp ha];exact⟨_,ht⟩
  . cases k with
    | zero=>rw [<- bG e1,<- bG e2];exact⟨rfl,.inl ⟨rfl,ht⟩⟩
    | succ k=>exact absurd e1 (by simp)
 have nV:∀ b,¬ b=228->¬ Z.V [An] [.tbl 0] b:=λb n h=>by
  rcases h with ⟨k,o,h1,_⟩ | h
  . cases k with
    | zero=>exact n (bG h1).symm
    | succ k=>exact absurd h1 (by simp)
  . exact absurd h (by simp [Z])
 have na:¬ l=228:=λh=>by rw [h,ht] at hlo';exact absurd (aJ Obj.cls (bG hlo')) (by simp)
 have R:Ab s1.heap (Z.V [An] [.tbl 0]) [An] [Value.ref l] [AV.lst (is.map .int)]:=
  .cons (.lst (by rw [aF];unfold lim;omega) ⟨_,hlo'⟩ (nV l na) (Aec w3)) .nil
 have ha:Value.ref a=.ref 286:=by
  obtain ⟨mg',mb',n1,n2,hG⟩:=Ajr hY;have n3:s1.heap.Ns mainGlobals mg':=n1.keeps λb o e=>hk _ _ (of_hideAll _ e);rw [G.T.g.eq_nsMap,<- n3.eq_nsMap,hn] at hmg;rcases hG (Str.ofString "law") (.ref 286) (by decide +kernel) with h | h
  . exact bG (hmg.symm.trans h)
  . rw [h.1] at hmg;exact nns hmg
 have hL:Z.Lv 20:=⟨by show callerA.units+3*20+60<cLine;decide +kernel,rfl,by show callerA.depth+3*20+60<900;decide +kernel,sd.2.2.1.imp λo e=>Io e (by decide),rfl⟩;have K:Zok pw w (gH H) 20 Z:=⟨rfl,rfl,rfl,hL⟩;have A:=(Aar (Bae hY) (Ajt (w:=w) hY) n).call K 286 I ⟨λe he=>absurd he (by simp [Z]),λe he=>absurd he (by simp [Z])⟩ R (.ok (.bool true)) J' e;rw [ha];refine A _ _ λb h' tk U' Go r=>?_;have r:b=.bool true:=r.inv;subst r;have hmu:U'[0]?=some 228:=It Go.on.mu rfl;refine⟨.inl ⟨_,.bool true,[],rfl,λ_=>rfl,.bool true,by kernel_rfl,λ_=>⟨.nil,λ_ h=>nomatch h⟩⟩,⟨λb o e=>?_,λb o e=>?_⟩,rfl,.of_eq hg⟩
 . by_cases hb:b=228
   . subst hb;have ho:o=tabObj #[]:=bG (e.symm.trans ht);subst ho;rcases (Go.inv.objs 0 228 _ hmu hm).2 with ⟨_,h⟩ | ⟨_,cr,cl,K',_,_,_,h⟩
     . exact .inl h
     . exact .inr (.inl ⟨(tb.2.keeps hk).isCodeTable,rfl,#[],#[rawInt Jm.line,rawInt Jm.col,.ref cr,rawInt Ir.line,rawInt Ir.col,.ref cl],rfl,by rw [Array.empty_append];exact h⟩)
   . exact .inl (Go.on.kp b o (nV b hb) e)
 . by_cases hb:b=228
   . subst hb;exact Go.inv.there 228 (aO hmu)
   . exact⟨o,Go.on.kp b o (nV b hb) e⟩
theorem head(LR:Abv):PySem.Challenge.rw_ik0078_01.Holds:=by
 refine holds_law Baf λk1=>holds_open (q:=qv) (loose:=lsv) (Xt:=λ_=>true) (XP:=λ_ _=>True) (Yf:=λs=>Yh s.heap) (Ya:=λ_=>Yg) (YP:=λw h=>∃ H,Yh H=Yg/\∀ b o,H.get? b=some o->h.get? b=some o) (N:=3000)
  left (λw s h=>⟨s.heap,h,λ_ _ e=>e⟩) (λw h h' ⟨H,e,k⟩ k'=>⟨H,e,λb o x=>k' b o (k b o x)⟩) (λ_ _=>trivial) (λ_ _ _ _ _=>trivial) (by rfl) (by rfl) (by rfl) (λs e=>recFacts_of rfl) rfl k1 (by decide +kernel) ⟨rfl,rfl,rfl,rfl,rfl,by decide +kernel⟩ ⟨[.list []],by decide +kernel,by decide +kernel⟩ (walk LR rfl)
end Ik.Internal
open PySem PySem.W PyProof.Rows
theorem PySem.Challenge.cw_ik0078_01_holds : PySem.Challenge.rw_ik0078_01.Holds :=
  Ik.Internal.head fun is _ => (Ik.Internal.Z.Bab is).elim fun σ h => h.elim fun m h => h.1.elim fun N hN => ⟨N, σ, m, hN N (Nat.le_refl N), h.2⟩
