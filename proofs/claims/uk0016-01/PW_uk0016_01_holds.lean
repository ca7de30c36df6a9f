import PyProof.Rows.All
import Wide.All
import OpenK.AllK
import KE.KSortAsk
import Wide.FinOn
import Lean
import PySem.Challenge.RW_uk0016_01
set_option Elab.async false
set_option maxRecDepth 100000
set_option maxHeartbeats 8000000
set_option linter.unusedVariables false
set_option linter.unusedSectionVars false
set_option tactic.hygienic false
set_option backward.match.sparseCases false
set_option genInjectivity false
set_option genSizeOf false
set_option bootstrap.genMatcherCode false
namespace cb
theorem no {α:Type _} {v:α} {P:Prop} (h:none=some v):P:=by cases h
theorem eI {P:Prop} (h:false=true):P:=Bool.noConfusion h
theorem aj {aE:Sort _} {B0:aE->Prop} {B1:aE->Prop} {P:Prop} (h:∃a0,B0 a0/\B1 a0) (k:∀a0,B0 a0->B1 a0->P):P:=h.elim fun a0 h=>k a0 h.1 h.2
theorem xE {aE:Sort _} {B0:aE->Prop} {P:Prop} (h:∃a0,B0 a0) (k:∀a0,B0 a0->P):P:=h.elim fun a0 h=>k a0 h
theorem xA {B0:Prop} {B1:Prop} {P:Prop} (h:B0/\B1) (k:B0->B1->P):P:=k h.1 h.2
theorem aU {aE:Sort _} {aL:Sort _} {B0:aE->aL->Prop} {B1:aE->aL->Prop} {B2:aE->aL->Prop} {P:Prop} (h:∃a0,∃a1,B0 a0 a1/\B1 a0 a1/\B2 a0 a1) (k:∀a0,∀a1,B0 a0 a1->B1 a0 a1->B2 a0 a1->P):P:=h.elim fun a0 h=>h.elim fun a1 h=>k a0 a1 h.1 h.2.1 h.2.2
theorem bV {aE:Sort _} {B0:Prop} {B1:aE->Prop} {P:Prop} (h:B0/\∃a0,B1 a0) (k:B0->∀a0,B1 a0->P):P:=h.2.elim fun a0 g1=>k h.1 a0 g1
theorem bG {B0:Prop} {B1:Prop} {B2:Prop} {P:Prop} (h:B0/\B1/\B2) (k:B0->B1->B2->P):P:=k h.1 h.2.1 h.2.2
theorem cN {aE:Sort _} {aL:Sort _} {B0:aE->aL->Prop} {P:Prop} (h:∃a0,∃a1,B0 a0 a1) (k:∀a0,∀a1,B0 a0 a1->P):P:=h.elim fun a0 h=>h.elim fun a1 h=>k a0 a1 h
theorem cT {aE:Sort _} {aL:Sort _} {bp:Sort _} {bN:Sort _} {B0:aE->aL->bp->bN->Prop} {B1:aE->aL->bp->bN->Prop} {B2:aE->aL->bp->bN->Prop} {B3:aE->aL->bp->bN->Prop} {B4:aE->aL->bp->bN->Prop} {B5:aE->aL->bp->bN->Prop} {B6:aE->aL->bp->bN->Prop} {P:Prop} (h:∃a0,∃a1,∃a2,∃a3,B0 a0 a1 a2 a3/\B1 a0 a1 a2 a3/\B2 a0 a1 a2 a3/\B3 a0 a1 a2 a3/\B4 a0 a1 a2 a3/\B5 a0 a1 a2 a3/\B6 a0 a1 a2 a3) (k:∀a0,∀a1,∀a2,∀a3,B0 a0 a1 a2 a3->B1 a0 a1 a2 a3->B2 a0 a1 a2 a3->B3 a0 a1 a2 a3->B4 a0 a1 a2 a3->B5 a0 a1 a2 a3->B6 a0 a1 a2 a3->P):P:=h.elim fun a0 h=>h.elim fun a1 h=>h.elim fun a2 h=>h.elim fun a3 h=>k a0 a1 a2 a3 h.1 h.2.1 h.2.2.1 h.2.2.2.1 h.2.2.2.2.1 h.2.2.2.2.2.1 h.2.2.2.2.2.2
theorem dq {aE:Sort _} {aL:Sort _} {B0:aE->aL->Prop} {B1:aE->aL->Prop} {P:Prop} (h:∃a0,∃a1,B0 a0 a1/\B1 a0 a1) (k:∀a0,∀a1,B0 a0 a1->B1 a0 a1->P):P:=h.elim fun a0 h=>h.elim fun a1 h=>k a0 a1 h.1 h.2
theorem ew {aE:Sort _} {aL:Sort _} {B0:aE->aL->Prop} {B1:aE->aL->Prop} {B2:aE->aL->Prop} {B3:aE->aL->Prop} {P:Prop} (h:∃a0,∃a1,B0 a0 a1/\B1 a0 a1/\B2 a0 a1/\B3 a0 a1) (k:∀a0,∀a1,B0 a0 a1->B1 a0 a1->B2 a0 a1->B3 a0 a1->P):P:=h.elim fun a0 h=>h.elim fun a1 h=>k a0 a1 h.1 h.2.1 h.2.2.1 h.2.2.2
theorem ey {aE:Sort _} {B0:aE->Prop} {B1:aE->Prop} {B2:aE->Prop} {P:Prop} (h:∃a0,B0 a0/\B1 a0/\B2 a0) (k:∀a0,B0 a0->B1 a0->B2 a0->P):P:=h.elim fun a0 h=>k a0 h.1 h.2.1 h.2.2
theorem ir {aE:Sort _} {aL:Sort _} {bp:Sort _} {bN:Sort _} {B0:aE->aL->bp->bN->Prop} {B1:aE->aL->bp->bN->Prop} {B2:aE->aL->bp->bN->Prop} {P:Prop} (h:∃a0,∃a1,∃a2,∃a3,B0 a0 a1 a2 a3/\B1 a0 a1 a2 a3/\B2 a0 a1 a2 a3) (k:∀a0,∀a1,∀a2,∀a3,B0 a0 a1 a2 a3->B1 a0 a1 a2 a3->B2 a0 a1 a2 a3->P):P:=h.elim fun a0 h=>h.elim fun a1 h=>h.elim fun a2 h=>h.elim fun a3 h=>k a0 a1 a2 a3 h.1 h.2.1 h.2.2
theorem fm {B0:Prop} {B1:Prop} {B2:Prop} {B3:Prop} {P:Prop} (h:B0/\B1/\B2/\B3) (k:B0->B1->B2->B3->P):P:=k h.1 h.2.1 h.2.2.1 h.2.2.2
theorem eT {aE:Sort _} {B0:aE->Prop} {B1:aE->Prop} {B2:aE->Prop} {B3:aE->Prop} {P:Prop} (h:∃a0,B0 a0/\B1 a0/\B2 a0/\B3 a0) (k:∀a0,B0 a0->B1 a0->B2 a0->B3 a0->P):P:=h.elim fun a0 h=>k a0 h.1 h.2.1 h.2.2.1 h.2.2.2
theorem j9 {aE:Sort _} {aL:Sort _} {bp:Sort _} {bN:Sort _} {B0:aE->aL->bp->bN->Prop} {B1:aE->aL->bp->bN->Prop} {B2:aE->aL->bp->bN->Prop} {B3:aE->aL->bp->bN->Prop} {B4:aE->aL->bp->bN->Prop} {B5:aE->aL->bp->bN->Prop} {P:Prop} (h:∃a0,∃a1,∃a2,∃a3,B0 a0 a1 a2 a3/\B1 a0 a1 a2 a3/\B2 a0 a1 a2 a3/\B3 a0 a1 a2 a3/\B4 a0 a1 a2 a3/\B5 a0 a1 a2 a3) (k:∀a0,∀a1,∀a2,∀a3,B0 a0 a1 a2 a3->B1 a0 a1 a2 a3->B2 a0 a1 a2 a3->B3 a0 a1 a2 a3->B4 a0 a1 a2 a3->B5 a0 a1 a2 a3->P):P:=h.elim fun a0 h=>h.elim fun a1 h=>h.elim fun a2 h=>h.elim fun a3 h=>k a0 a1 a2 a3 h.1 h.2.1 h.2.2.1 h.2.2.2.1 h.2.2.2.2.1 h.2.2.2.2.2
theorem lg {aE:Sort _} {aL:Sort _} {bp:Sort _} {B0:aE->aL->bp->Prop} {B1:aE->aL->bp->Prop} {P:Prop} (h:∃a0,∃a1,∃a2,B0 a0 a1 a2/\B1 a0 a1 a2) (k:∀a0,∀a1,∀a2,B0 a0 a1 a2->B1 a0 a1 a2->P):P:=h.elim fun a0 h=>h.elim fun a1 h=>h.elim fun a2 h=>k a0 a1 a2 h.1 h.2
theorem pD {aE:Sort _} {aL:Sort _} {bp:Sort _} {bN:Sort _} {B0:aE->aL->bp->bN->Prop} {B1:aE->aL->bp->bN->Prop} {B2:aE->aL->bp->bN->Prop} {B3:aE->aL->bp->bN->Prop} {P:Prop} (h:∃a0,∃a1,∃a2,∃a3,B0 a0 a1 a2 a3/\B1 a0 a1 a2 a3/\B2 a0 a1 a2 a3/\B3 a0 a1 a2 a3) (k:∀a0,∀a1,∀a2,∀a3,B0 a0 a1 a2 a3->B1 a0 a1 a2 a3->B2 a0 a1 a2 a3->B3 a0 a1 a2 a3->P):P:=h.elim fun a0 h=>h.elim fun a1 h=>h.elim fun a2 h=>h.elim fun a3 h=>k a0 a1 a2 a3 h.1 h.2.1 h.2.2.1 h.2.2.2
theorem pE {aE:Sort _} {aL:Sort _} {bp:Sort _} {B0:aE->aL->bp->Prop} {P:Prop} (h:∃a0,∃a1,∃a2,B0 a0 a1 a2) (k:∀a0,∀a1,∀a2,B0 a0 a1 a2->P):P:=h.elim fun a0 h=>h.elim fun a1 h=>h.elim fun a2 h=>k a0 a1 a2 h
theorem tV {aE:Sort _} {aL:Sort _} {B0:aE->Prop} {B1:aE->aL->Prop} {B2:aE->aL->Prop} {P:Prop} (h:∃a0,B0 a0/\∃a1,B1 a0 a1/\B2 a0 a1) (k:∀a0,B0 a0->∀a1,B1 a0 a1->B2 a0 a1->P):P:=h.elim fun a0 g1=>g1.2.elim fun a1 g2=>k a0 g1.1 a1 g2.1 g2.2
theorem qY {aE:Sort _} {aL:Sort _} {bp:Sort _} {B0:aE->aL->bp->Prop} {B1:aE->aL->bp->Prop} {B2:aE->aL->bp->Prop} {B3:aE->aL->bp->Prop} {P:Prop} (h:∃a0,∃a1,∃a2,B0 a0 a1 a2/\B1 a0 a1 a2/\B2 a0 a1 a2/\B3 a0 a1 a2) (k:∀a0,∀a1,∀a2,B0 a0 a1 a2->B1 a0 a1 a2->B2 a0 a1 a2->B3 a0 a1 a2->P):P:=h.elim fun a0 h=>h.elim fun a1 h=>h.elim fun a2 h=>k a0 a1 a2 h.1 h.2.1 h.2.2.1 h.2.2.2
theorem pF {aE:Sort _} {aL:Sort _} {bp:Sort _} {B0:aE->aL->bp->Prop} {B1:aE->aL->bp->Prop} {B2:aE->aL->bp->Prop} {P:Prop} (h:∃a0,∃a1,∃a2,B0 a0 a1 a2/\B1 a0 a1 a2/\B2 a0 a1 a2) (k:∀a0,∀a1,∀a2,B0 a0 a1 a2->B1 a0 a1 a2->B2 a0 a1 a2->P):P:=h.elim fun a0 h=>h.elim fun a1 h=>h.elim fun a2 h=>k a0 a1 a2 h.1 h.2.1 h.2.2
theorem wZ {aE:Sort _} {aL:Sort _} {B0:aE->aL->Prop} {B1:aE->aL->Prop} {B2:aE->aL->Prop} {B3:aE->aL->Prop} {B4:aE->aL->Prop} {P:Prop} (h:∃a0,∃a1,B0 a0 a1/\B1 a0 a1/\B2 a0 a1/\B3 a0 a1/\B4 a0 a1) (k:∀a0,∀a1,B0 a0 a1->B1 a0 a1->B2 a0 a1->B3 a0 a1->B4 a0 a1->P):P:=h.elim fun a0 h=>h.elim fun a1 h=>k a0 a1 h.1 h.2.1 h.2.2.1 h.2.2.2.1 h.2.2.2.2
theorem tW {aE:Sort _} {B0:Prop} {B1:Prop} {B2:aE->Prop} {B3:aE->Prop} {P:Prop} (h:B0/\B1/\∃a0,B2 a0/\B3 a0) (k:B0->B1->∀a0,B2 a0->B3 a0->P):P:=h.2.2.elim fun a0 g1=>k h.1 h.2.1 a0 g1.1 g1.2
theorem w8 {B0:Prop} {B1:Prop} {B2:Prop} {B3:Prop} {B4:Prop} {B5:Prop} {P:Prop} (h:B0/\B1/\B2/\B3/\B4/\B5) (k:B0->B1->B2->B3->B4->B5->P):P:=k h.1 h.2.1 h.2.2.1 h.2.2.2.1 h.2.2.2.2.1 h.2.2.2.2.2
theorem AS {aE:Sort _} {aL:Sort _} {bp:Sort _} {bN:Sort _} {iu:Sort _} {lT:Sort _} {lU:Sort _} {Hw:Sort _} {B0:aE->aL->bp->bN->iu->lT->lU->Hw->Prop} {P:Prop} (h:∃a0,∃a1,∃a2,∃a3,∃a4,∃a5,∃a6,∃a7,B0 a0 a1 a2 a3 a4 a5 a6 a7) (k:∀a0,∀a1,∀a2,∀a3,∀a4,∀a5,∀a6,∀a7,B0 a0 a1 a2 a3 a4 a5 a6 a7->P):P:=h.elim fun a0 h=>h.elim fun a1 h=>h.elim fun a2 h=>h.elim fun a3 h=>h.elim fun a4 h=>h.elim fun a5 h=>h.elim fun a6 h=>h.elim fun a7 h=>k a0 a1 a2 a3 a4 a5 a6 a7 h
theorem AU {aE:Sort _} {aL:Sort _} {bp:Sort _} {bN:Sort _} {iu:Sort _} {lT:Sort _} {lU:Sort _} {B0:aE->aL->bp->bN->iu->lT->lU->Prop} {B1:aE->aL->bp->bN->iu->lT->lU->Prop} {B2:aE->aL->bp->bN->iu->lT->lU->Prop} {B3:aE->aL->bp->bN->iu->lT->lU->Prop} {B4:aE->aL->bp->bN->iu->lT->lU->Prop} {B5:aE->aL->bp->bN->iu->lT->lU->Prop} {B6:aE->aL->bp->bN->iu->lT->lU->Prop} {P:Prop} (h:∃a0,∃a1,∃a2,∃a3,∃a4,∃a5,∃a6,B0 a0 a1 a2 a3 a4 a5 a6/\B1 a0 a1 a2 a3 a4 a5 a6/\B2 a0 a1 a2 a3 a4 a5 a6/\B3 a0 a1 a2 a3 a4 a5 a6/\B4 a0 a1 a2 a3 a4 a5 a6/\B5 a0 a1 a2 a3 a4 a5 a6/\B6 a0 a1 a2 a3 a4 a5 a6) (k:∀a0,∀a1,∀a2,∀a3,∀a4,∀a5,∀a6,B0 a0 a1 a2 a3 a4 a5 a6->B1 a0 a1 a2 a3 a4 a5 a6->B2 a0 a1 a2 a3 a4 a5 a6->B3 a0 a1 a2 a3 a4 a5 a6->B4 a0 a1 a2 a3 a4 a5 a6->B5 a0 a1 a2 a3 a4 a5 a6->B6 a0 a1 a2 a3 a4 a5 a6->P):P:=h.elim fun a0 h=>h.elim fun a1 h=>h.elim fun a2 h=>h.elim fun a3 h=>h.elim fun a4 h=>h.elim fun a5 h=>h.elim fun a6 h=>k a0 a1 a2 a3 a4 a5 a6 h.1 h.2.1 h.2.2.1 h.2.2.2.1 h.2.2.2.2.1 h.2.2.2.2.2.1 h.2.2.2.2.2.2
theorem AV {aE:Sort _} {aL:Sort _} {bp:Sort _} {bN:Sort _} {iu:Sort _} {B0:aE->aL->bp->bN->iu->Prop} {B1:aE->aL->bp->bN->iu->Prop} {B2:aE->aL->bp->bN->iu->Prop} {B3:aE->aL->bp->bN->iu->Prop} {B4:aE->aL->bp->bN->iu->Prop} {P:Prop} (h:∃a0,∃a1,∃a2,∃a3,∃a4,B0 a0 a1 a2 a3 a4/\B1 a0 a1 a2 a3 a4/\B2 a0 a1 a2 a3 a4/\B3 a0 a1 a2 a3 a4/\B4 a0 a1 a2 a3 a4) (k:∀a0,∀a1,∀a2,∀a3,∀a4,B0 a0 a1 a2 a3 a4->B1 a0 a1 a2 a3 a4->B2 a0 a1 a2 a3 a4->B3 a0 a1 a2 a3 a4->B4 a0 a1 a2 a3 a4->P):P:=h.elim fun a0 h=>h.elim fun a1 h=>h.elim fun a2 h=>h.elim fun a3 h=>h.elim fun a4 h=>k a0 a1 a2 a3 a4 h.1 h.2.1 h.2.2.1 h.2.2.2.1 h.2.2.2.2
theorem AW {aE:Sort _} {aL:Sort _} {bp:Sort _} {bN:Sort _} {B0:aE->aL->bp->bN->Prop} {B1:aE->aL->bp->bN->Prop} {B2:aE->aL->bp->bN->Prop} {B3:aE->aL->bp->bN->Prop} {B4:aE->aL->bp->bN->Prop} {P:Prop} (h:∃a0,∃a1,∃a2,∃a3,B0 a0 a1 a2 a3/\B1 a0 a1 a2 a3/\B2 a0 a1 a2 a3/\B3 a0 a1 a2 a3/\B4 a0 a1 a2 a3) (k:∀a0,∀a1,∀a2,∀a3,B0 a0 a1 a2 a3->B1 a0 a1 a2 a3->B2 a0 a1 a2 a3->B3 a0 a1 a2 a3->B4 a0 a1 a2 a3->P):P:=h.elim fun a0 h=>h.elim fun a1 h=>h.elim fun a2 h=>h.elim fun a3 h=>k a0 a1 a2 a3 h.1 h.2.1 h.2.2.1 h.2.2.2.1 h.2.2.2.2
theorem ai {α β:Type _} {o:Option α} {f:α->Option β} {r:β} {P:Prop} (h:o.bind f=some r) (k:∀a,o=some a->f a=some r->P):P:=(Option.bind_eq_some_iff.mp h).elim fun a h=>k a h.1 h.2
theorem cO {α β:Type _} {o:Option α} {f:α->β} {r:β} {P:Prop} (h:o.map f=some r) (k:∀a,o=some a->f a=r->P):P:=(Option.map_eq_some_iff.mp h).elim fun a h=>k a h.1 h.2
theorem aO {α:Type _} {p:Prop} {_:Decidable p} {x:Option α} {r:α} {P:Prop} (h:(if p then x else none)=some r) (k:p->x=some r->P):P:=by
 by_cases q:p
 ·rw [if_pos q] at h;exact k q h
 ·rw [if_neg q] at h;exact no h
theorem tX {α:Type _} {p:Prop} {_:Decidable p} {x:Option α} {r:α} {P:Prop} (h:(if p then none else x)=some r) (k:¬p->x=some r->P):P:=by
 by_cases q:p
 ·rw [if_pos q] at h;exact no h
 ·rw [if_neg q] at h;exact k q h
theorem mU {α:Type _} {p:Prop} {_:Decidable p} {x y:Option α} {r:α} {P:Prop} (h:(if p then x else y)=some r) (k:p->x=some r->P) (k2:¬p->y=some r->P):P:=by
 by_cases q:p
 ·rw [if_pos q] at h;exact k q h
 ·rw [if_neg q] at h;exact k2 q h
set_option genSizeOf false in
set_option genInjectivity false in
inductive ZT | v (i:Nat) | k (n:Nat) | a (x y:ZT) | s (x y:ZT) | m (n:Nat) (x:ZT) | mi (x y:ZT) | ma (x y:ZT) | c (x:ZT) | n (x:ZT) | l (x y:ZT) | e (x y:ZT) | L (x y:ZT) | E (x y:ZT) | i (x y:ZT) | A (x y:ZT) | O (x y:ZT) | F
noncomputable def ZT.d (cn:List Nat) (ci:List Int):ZT->Nat × Int × Prop
 | v j=>(cn.getD j 0,ci.getD j 0,True)
 | k j=>(j,j,True)
 | a p q=>((p.d cn ci).1+(q.d cn ci).1,(p.d cn ci).2.1+(q.d cn ci).2.1,True)
 | s p q=>((p.d cn ci).1 - (q.d cn ci).1,(p.d cn ci).2.1 - (q.d cn ci).2.1,True)
 | m j p=>(j*(p.d cn ci).1,j*(p.d cn ci).2.1,True)
 | mi p q=>(min (p.d cn ci).1 (q.d cn ci).1,min (p.d cn ci).2.1 (q.d cn ci).2.1,True)
 | ma p q=>(max (p.d cn ci).1 (q.d cn ci).1,max (p.d cn ci).2.1 (q.d cn ci).2.1,True)
 | c p=>((p.d cn ci).2.1.toNat,(p.d cn ci).1,True)
 | n p=>(0, -(p.d cn ci).2.1,True)
 | l p q=>(0,0,(p.d cn ci).1<=(q.d cn ci).1)
 | e p q=>(0,0,(p.d cn ci).1=(q.d cn ci).1)
 | L p q=>(0,0,(p.d cn ci).2.1<=(q.d cn ci).2.1)
 | E p q=>(0,0,(p.d cn ci).2.1=(q.d cn ci).2.1)
 | i p q=>(0,0,(p.d cn ci).2.2->(q.d cn ci).2.2)
 | A p q=>(0,0,(p.d cn ci).2.2/\(q.d cn ci).2.2)
 | O p q=>(0,0,(p.d cn ci).2.2\/(q.d cn ci).2.2)
 | F=>(0,0,False)
noncomputable abbrev VV:=Int × List Int
noncomputable def eJ:List Int->(Nat->Int)->Int
 | [],_=>0
 | a::l,f=>a*f 0+eJ l (fun i=>f (i+1))
noncomputable def qZ:List Int->List Int->List Int
 | [],m=>m
 | a::l,[]=>a::l
 | a::l,b::m=>(a+b)::qZ l m
noncomputable def eK (f:Nat->Int) (p:VV):Int:=p.1+eJ p.2 f
noncomputable def rf (p q:VV):VV:=(p.1+q.1,qZ p.2 q.2)
noncomputable def mW (k:Int) (p:VV):VV:=(k*p.1,p.2.map (k* ·))
noncomputable def iP (p q:VV):VV:=rf p (mW (-1) q)
noncomputable def pG (z:Bool):Nat->List Int
 | 0=>bif z then [0,1] else [1]
 | n+1=>0::0::pG z n
noncomputable def fZ:List Nat->List Int->Nat->Int
 | cn,ci,0=>cn.headD 0
 | cn,ci,1=>ci.headD 0
 | cn,ci,k+2=>fZ cn.tail ci.tail k
theorem AX:∀(l m:List Int) (f:Nat->Int),eJ (qZ l m) f=eJ l f+eJ m f
 | [],m,f=>(Int.zero_add _).symm
 | a::l,[],f=>(Int.add_zero _).symm
 | a::l,b::m,f=>by
  show (a+b)*f 0+eJ (qZ l m) _=a*f 0+eJ l _+(b*f 0+eJ m _)
  rw [AX l m,Int.add_mul,Int.add_assoc,Int.add_assoc,Int.add_left_comm (b*_)]
theorem AY (k:Int):∀(l:List Int) (f:Nat->Int),eJ (l.map (k* ·)) f=k*eJ l f
 | [],f=>(Int.mul_zero k).symm
 | a::l,f=>by
  show k*a*f 0+eJ (l.map (k* ·)) _=k*(a*f 0+eJ l _)
  rw [AY k l,Int.mul_add,Int.mul_assoc]
noncomputable def ZT.val (cn:List Nat) (ci:List Int) (z:Bool) (t:ZT):Int:=bif z then (t.d cn ci).2.1 else (t.d cn ci).1
theorem w9:∀(i:Nat) (cn:List Nat) (ci:List Int) (z:Bool),eJ (pG z i) (fZ cn ci)=(ZT.v i).val cn ci z
 | 0,[],[],true=>rfl
 | 0,[],y::l,true=>by
  show 0*(0:Int)+(1*y+0)=y
  rw [Int.zero_mul,Int.one_mul,Int.add_zero,Int.zero_add]
 | 0,x::m,[],true=>(congrArg (· +(0:Int)) (Int.zero_mul x):)
 | 0,x::m,y::l,true=>by
  show 0*(x:Int)+(1*y+0)=y
  rw [Int.zero_mul,Int.one_mul,Int.add_zero,Int.zero_add]
 | 0,[],ci,false=>rfl
 | 0,x::m,ci,false=>(Int.add_zero _).trans (Int.one_mul (x:Int))
 | i+1,cn,ci,z=>by
  show 0*fZ cn ci 0+(0*fZ cn ci 1+eJ (pG z i) (fZ cn.tail ci.tail))=_
  rw [Int.zero_mul,Int.zero_mul,Int.zero_add,Int.zero_add,w9 i cn.tail ci.tail z]
  cases z with
  | true=>cases ci<;>rfl
  | false=>cases cn<;>rfl
theorem tY (f p q):eK f (rf p q)=eK f p+eK f q:=by
 show p.1+q.1+eJ (qZ p.2 q.2) f=p.1+eJ p.2 f+(q.1+eJ q.2 f)
 rw [AX,Int.add_assoc,Int.add_assoc,Int.add_left_comm q.1]
theorem tZ (f k p):eK f (mW k p)=k*eK f p:=by
 show k*p.1+eJ (p.2.map (k* ·)) f=k*(p.1+eJ p.2 f)
 rw [AY,Int.mul_add]
theorem xa (f p):eK f (mW (-1) p)= -eK f p:=(tZ f _ p).trans (Int.neg_one_mul _)
theorem t9 (f p q):eK f (iP p q)=eK f p - eK f q:=(tY f p _).trans (by rw [xa];rfl)
noncomputable def lh (p:VV):Int:=p.2.headD 0
noncomputable def rg (p:VV):VV:=(p.1,p.2.tail)
noncomputable def xb:Int->Bool
 | .negSucc _=>true
 | .ofNat _=>false
noncomputable def Hx (p q:VV):VV:=rf (mW (-lh q) (rg p)) (mW (lh p) (rg q))
noncomputable def AZ (cs:List VV) (p:VV):Int->List VV
 | .ofNat 0=>[rg p]
 | .ofNat (_+1)=>(cs.filter fun q=>xb (lh q)).map (Hx p)
 | .negSucc _=>[]
noncomputable def ua:Nat->List VV->Bool
 | 0,cs=>cs.any fun p=>xb p.1&&p.2.isEmpty
 | n+1,cs=>ua n (cs.flatMap fun p=>AZ cs p (lh p))
noncomputable def fq (f:Nat->Int) (cs:List VV):Prop:=∀p∈cs,0<=eK f p
theorem A0:∀{i:Int},xb i=true->i < 0
 | .negSucc _,_=>Int.negSucc_lt_zero _
theorem A1 (f:Nat->Int):∀(p:VV),eK f p=eK (fun i=>f (i+1)) (rg p)+lh p*f 0
 | (c,[])=>by
  show c+0=c+0+0*f 0
  rw [Int.zero_mul,Int.add_zero,Int.add_zero]
 | (c,a::l)=>by
  show c+(a*f 0+eJ l _)=c+eJ l _+a*f 0
  rw [Int.add_assoc,Int.add_comm (a*f 0)]
theorem Hy (f:Nat->Int) (cs:List VV) (H:fq f cs) (q:VV) (hq:q∈cs):∀k,lh q=k->∀p∈AZ cs q k,0<=eK (fun i=>f (i+1)) p
 | .ofNat 0,e,p,hp=>by
  have h:=H q hq
  rw [A1,e] at h
  rw [List.mem_singleton.mp hp]
  exact Int.le_trans h (Int.le_of_eq <| (congrArg _ (Int.zero_mul _)).trans (Int.add_zero _))
 | .ofNat (k+1),e,p,hp=>by
  obtain ⟨r,hr,e2⟩:=List.mem_map.mp hp
  obtain ⟨hr,hn⟩:=List.mem_filter.mp hr
  have h1:=H q hq
  have h2:=H r hr
  rw [A1] at h1 h2
  have h3:=Int.add_nonneg (Int.mul_nonneg (Int.le_of_lt (Int.neg_pos_of_neg (A0 hn))) h1) (Int.mul_nonneg (Int.le_trans (Int.natCast_nonneg (k+1)) (Int.le_of_eq e.symm)) h2)
  rw [Int.mul_add,Int.mul_add,Int.neg_mul (lh r) (lh q*f 0),Int.mul_left_comm (lh r),Int.add_comm (lh q*eK _ (rg r)), <- Int.add_assoc,Int.neg_add_cancel_right, <- tZ, <- tZ, <- tY] at h3
  rw [<- e2]
  exact h3
 | .negSucc _,e,p,hp=>absurd hp List.not_mem_nil
theorem A2:∀(n:Nat) (f:Nat->Int) (cs:List VV),ua n cs=true->fq f cs->False
 | 0,f,cs,h,H=>
  (List.any_eq_true.mp h).elim fun p h=>absurd (H p h.1) (Int.not_le.mpr (by
   have h:=Bool.and_eq_true_iff.mp h.2
   show p.1+eJ p.2 f < 0
   rw [List.isEmpty_iff.mp h.2]
   exact Int.lt_of_le_of_lt (Int.le_of_eq (Int.add_zero _)) (A0 h.1)))
 | n+1,f,cs,h,H=>A2 n (fun i=>f (i+1)) _ h fun p hp=>(List.mem_flatMap.mp hp).elim fun q h=>Hy f cs H q h.1 _ rfl p h.2
noncomputable def iQ:ZT->Bool->(List VV->VV->Bool)->List VV->Bool
 | .v i,z,K,cs=>K cs (0,pG z i)
 | .k m,_,K,cs=>K cs (m,[])
 | .a x y,z,K,cs=>iQ x z (fun cs p=>iQ y z (fun cs q=>K cs (rf p q)) cs) cs
 | .s x y,z,K,cs=>iQ x z (fun cs p=>iQ y z (fun cs q=>bif z then K cs (iP p q) else K (iP p q::cs) (iP p q)&&K (iP q p::cs) (0,[])) cs) cs
 | .m k x,z,K,cs=>iQ x z (fun cs p=>K cs (mW k p)) cs
 | .mi x y,z,K,cs=>iQ x z (fun cs p=>iQ y z (fun cs q=>K (iP q p::cs) p&&K (iP p q::cs) q) cs) cs
 | .ma x y,z,K,cs=>iQ x z (fun cs p=>iQ y z (fun cs q=>K (iP p q::cs) p&&K (iP q p::cs) q) cs) cs
 | .c x,z,K,cs=>iQ x (!z) (fun cs p=>bif z then K cs p else K (p::cs) p&&K (mW (-1) p::cs) (0,[])) cs
 | .n x,true,K,cs=>iQ x true (fun cs p=>K cs (mW (-1) p)) cs
 | _,_,_,_=>false
section
variable {cn:List Nat} {ci:List Int}
theorem fq.add {f cs q} (h1:fq f cs) (h2:0<=eK f q):fq f (q::cs):=fun p hp=>(List.mem_cons.mp hp).elim (fun e=>e▸h2) (h1 p)
theorem fq.sub {f cs} {p q:VV} {a b:Int} (h1:fq f cs) (e1:a=eK f p) (e2:b=eK f q) (h:b<=a):fq f (iP p q::cs):=h1.add (by rw [t9, <- e1, <- e2];exact Int.sub_nonneg_of_le h)
noncomputable def Hz (cn:List Nat) (ci:List Int) (t:ZT):Prop:=∀{z:Bool} {K:List VV->VV->Bool} {cs:List VV},iQ t z K cs=true->fq (fZ cn ci) cs->
  (∀iR p,K iR p=true->fq (fZ cn ci) iR->t.val cn ci z=eK (fZ cn ci) p->False)->False
theorem A3 (t:ZT):Hz cn ci t:=by
 induction t with
 | v i=>exact fun h hc k=>k _ _ h hc ((w9 i cn ci _).symm.trans (Int.zero_add _).symm)
 | k m=>exact fun {z} _ _ h hc k=>k _ _ h hc (by cases z<;>exact (Int.add_zero _).symm)
 | a p q hp hq=>exact fun {z} _ _ h hc k=>hp h hc fun _ _ h hc e1=>hq h hc fun _ _ h hc e2=>k _ _ h hc (by rw [tY, <- e1, <- e2];cases z<;>rfl)
 | s p q hp hq=>
  exact fun {z} _ _ h hc k=>hp h hc fun _ _ h hc e1=>hq h hc fun _ _ h hc e2=>by
   cases z with
   | true=>exact k _ _ h hc (by rw [t9, <- e1, <- e2];rfl)
   | false=>
    have h:=Bool.and_eq_true_iff.mp h
    exact (Nat.le_total (q.d cn ci).1 (p.d cn ci).1).elim (fun g=>k _ _ h.1 (hc.sub e1 e2 (Int.ofNat_le.mpr g)) (by rw [t9, <- e1, <- e2];exact Int.ofNat_sub g))
     (fun g=>k _ _ h.2 (hc.sub e2 e1 (Int.ofNat_le.mpr g)) (congrArg Nat.cast (Nat.sub_eq_zero_of_le g)))
 | m j p hp=>exact fun {z} _ _ h hc k=>hp h hc fun _ _ h hc e1=>k _ _ h hc (by rw [tZ, <- e1];cases z with | true=>rfl | false=>exact Int.natCast_mul _ _)
 | mi p q hp hq=>
  exact fun {z} _ _ h hc k=>hp h hc fun _ _ h hc e1=>hq h hc fun _ _ h hc e2=>
   have h:=Bool.and_eq_true_iff.mp h
   (Int.le_total (p.val cn ci z) (q.val cn ci z)).elim
    (fun g=>k _ _ h.1 (hc.sub e2 e1 g) (by cases z with | true=>exact (Int.min_eq_left g).trans e1 | false=>exact (congrArg Nat.cast (Nat.min_eq_left (Int.ofNat_le.mp g))).trans e1))
    (fun g=>k _ _ h.2 (hc.sub e1 e2 g) (by cases z with | true=>exact (Int.min_eq_right g).trans e2 | false=>exact (congrArg Nat.cast (Nat.min_eq_right (Int.ofNat_le.mp g))).trans e2))
 | ma p q hp hq=>
  exact fun {z} _ _ h hc k=>hp h hc fun _ _ h hc e1=>hq h hc fun _ _ h hc e2=>
   have h:=Bool.and_eq_true_iff.mp h
   (Int.le_total (p.val cn ci z) (q.val cn ci z)).elim
    (fun g=>k _ _ h.2 (hc.sub e2 e1 g) (by cases z with | true=>exact (Int.max_eq_right g).trans e2 | false=>exact (congrArg Nat.cast (Nat.max_eq_right (Int.ofNat_le.mp g))).trans e2))
    (fun g=>k _ _ h.1 (hc.sub e1 e2 g) (by cases z with | true=>exact (Int.max_eq_left g).trans e1 | false=>exact (congrArg Nat.cast (Nat.max_eq_left (Int.ofNat_le.mp g))).trans e1))
 | c p hp=>
  exact fun {z} _ _ h hc k=>hp h hc fun _ _ h hc e1=>by
   cases z with
   | true=>exact k _ _ h hc e1
   | false=>
    have h:=Bool.and_eq_true_iff.mp h
    exact (Int.le_total 0 (p.d cn ci).2.1).elim (fun g=>k _ _ h.1 (hc.add (Int.le_trans g (Int.le_of_eq e1))) ((Int.toNat_of_nonneg g).trans e1))
     (fun g=>k _ _ h.2 (hc.add (by rw [xa, <- e1];exact Int.neg_nonneg_of_nonpos g)) (congrArg Nat.cast (Int.toNat_of_nonpos g)))
 | n p hp=>
  exact fun {z} _ _ h hc k=>by
   cases z with
   | true=>exact hp h hc fun _ _ h hc e1=>k _ _ h hc (by rw [xa, <- e1];rfl)
   | false=>exact Bool.noConfusion h
 | _=>exact fun h=>Bool.noConfusion h
noncomputable def om (z:Bool) (x y:ZT) (cs:List VV) (G:List VV->VV->VV->Bool):Bool:=iQ x z (fun cs p=>iQ y z (fun cs q=>G cs p q) cs) cs
noncomputable def rj (p q:VV):VV:=rf (iP q p) (-1,[])
noncomputable def xd (b:Bool) (K:List VV->Bool) (cs:List VV) (p q:VV):Bool:=bif b then K (iP q p::cs) else K (rj q p::cs)
noncomputable def xe (b:Bool) (K:List VV->Bool) (cs:List VV) (p q:VV):Bool:=bif b then K (iP q p::iP p q::cs) else K (rj q p::cs)&&K (rj p q::cs)
noncomputable def iS:ZT->Bool->(List VV->Bool)->List VV->Bool
 | .l x y,b,K,cs=>om false x y cs (xd b K)
 | .L x y,b,K,cs=>om true x y cs (xd b K)
 | .e x y,b,K,cs=>om false x y cs (xe b K)
 | .E x y,b,K,cs=>om true x y cs (xe b K)
 | .i f g,b,K,cs=>bif b then iS f false K cs&&iS g true K cs else iS f true (iS g false K) cs
 | .A f g,b,K,cs=>bif b then iS f true (iS g true K) cs else iS f false K cs&&iS g false K cs
 | .O f g,b,K,cs=>bif b then iS f true K cs&&iS g true K cs else iS f false (iS g false K) cs
 | .F,b,K,cs=>b||K cs
 | _,_,_,_=>false
noncomputable def xf (b:Bool) (p:Prop):Prop:=bif b then p else ¬p
theorem A4 {z p q cs G} (h:om z p q cs G=true) (hc:fq (fZ cn ci) cs) (k:∀iR u v,G iR u v=true->fq (fZ cn ci) iR->p.val cn ci z=eK (fZ cn ci) u->q.val cn ci z=eK (fZ cn ci) v->False):False:=
 A3 _ h hc fun _ _ h hc e1=>A3 _ h hc fun _ _ h hc e2=>k _ _ _ h hc e1 e2
theorem fq.less {f cs} {p q:VV} {a b:Int} (h1:fq f cs) (e1:a=eK f p) (e2:b=eK f q) (h:a < b):fq f (rj p q::cs):=h1.add (by
 unfold rj
 rw [tY,t9, <- e1, <- e2];exact Int.le_sub_one_of_lt (Int.sub_pos_of_lt h))
theorem A5 {z p q cs b K} (h:om z p q cs (xd b K)=true) (hc:fq (fZ cn ci) cs) (hs:xf b (p.val cn ci z<=q.val cn ci z)) (k:∀iR,K iR=true->fq (fZ cn ci) iR->False):False:=
 A4 h hc fun _ _ _ h hc e1 e2=>by
  cases b with
  | true=>exact k _ h (hc.sub e2 e1 hs)
  | false=>exact k _ h (hc.less e2 e1 (Int.not_le.mp hs))
theorem A6 {z p q cs b K} (h:om z p q cs (xe b K)=true) (hc:fq (fZ cn ci) cs) (hs:xf b (p.val cn ci z=q.val cn ci z)) (k:∀iR,K iR=true->fq (fZ cn ci) iR->False):False:=
 A4 h hc fun _ _ _ h hc e1 e2=>by
  cases b with
  | true=>exact k _ h ((hc.sub e1 e2 (Int.le_of_eq hs.symm)).sub e2 e1 (Int.le_of_eq hs))
  | false=>
   have h:=Bool.and_eq_true_iff.mp h
   exact (Int.lt_or_gt_of_ne hs).elim (fun g=>k _ h.2 (hc.less e1 e2 g)) (fun g=>k _ h.1 (hc.less e2 e1 g))
theorem HA (t:ZT):∀{b:Bool} {K:List VV->Bool} {cs:List VV},iS t b K cs=true->fq (fZ cn ci) cs->xf b (t.d cn ci).2.2->(∀iR,K iR=true->fq (fZ cn ci) iR->False)->False:=by
 induction t with
 | l p q=>exact fun {b} _ _ h hc hs=>A5 h hc (by cases b with | true=>exact Int.ofNat_le.mpr hs | false=>exact fun g=>hs (Int.ofNat_le.mp g))
 | L p q=>exact fun h hc hs=>A5 h hc hs
 | e p q=>exact fun {b} _ _ h hc hs=>A6 h hc (by cases b with | true=>exact congrArg Nat.cast hs | false=>exact fun g=>hs (Int.ofNat_inj.mp g))
 | E p q=>exact fun h hc hs=>A6 h hc hs
 | i f g hf hg=>
  exact fun {b} _ _ h hc hs k=>by
   cases b with
   | true=>
    have h:=Bool.and_eq_true_iff.mp h
    exact hf h.1 hc (fun e=>hg h.2 hc (hs e) k) k
   | false=>exact hs fun e=>(hf h hc e fun _ h hc=>hg h hc (fun e2=>hs fun _=>e2) k).elim
 | A f g hf hg=>
  exact fun {b} _ _ h hc hs k=>by
   cases b with
   | true=>exact hf h hc hs.1 fun _ h hc=>hg h hc hs.2 k
   | false=>
    have h:=Bool.and_eq_true_iff.mp h
    exact hf h.1 hc (fun e=>hg h.2 hc (fun e2=>hs ⟨e,e2⟩) k) k
 | O f g hf hg=>
  exact fun {b} _ _ h hc hs k=>by
   cases b with
   | true=>
    have h:=Bool.and_eq_true_iff.mp h
    exact Or.elim hs (fun e=>hf h.1 hc e k) fun e=>hg h.2 hc e k
   | false=>exact hf h hc (fun e=>hs (.inl e)) fun _ h hc=>hg h hc (fun e=>hs (.inr e)) k
 | F=>
  exact fun {b} _ _ h hc hs k=>by
   cases b with
   | true=>exact hs
   | false=>exact k _ h hc
 | _=>exact fun h=>Bool.noConfusion h
end
noncomputable def A7:List VV:=(List.range 8).map fun i=>(0,pG false i)
noncomputable def A8 (t:ZT):Bool:=iS t false (ua 16) A7
theorem HB (t:ZT) (h:A8 t=true) (cn:List Nat) (ci:List Int):(t.d cn ci).2.2:=
 Classical.byContradiction fun hn=>HA (cn:=cn) (ci:=ci) (b:=false) (K:=ua 16) (cs:=A7) _ h (fun p hp=>(List.mem_map.mp hp).elim fun j e=>by
   rw [<- e.2]
   show 0<=0+eJ (pG false j) _
   rw [w9,Int.zero_add];exact Int.natCast_nonneg _) hn fun _ h hc=>A2 16 _ _ h hc
theorem bW (x:Nat):2*(x / 2)<=x/\x<=2*(x / 2)+1:=⟨Nat.mul_div_le x 2,Nat.le_of_lt_succ (Nat.lt_mul_div_succ x (Nat.le_succ 1))⟩
noncomputable def HC:List (ZT->ZT->ZT):=[.a, .s,fun p q=>(match p with | .k j=> .m j q | _=> .F), .mi, .ma, .l, .e, .L, .E, .i, .A, .O]
noncomputable def HD:List Nat:=[0,1,2,3,4,8,4096,4000,60,1000000,3000,9,16777216,16,7,100,1000,66,97,65,4095,64,254,249,1114112,5,20,5000,10000000,9223372036854775808,63,30,255,256,6,98,99]
noncomputable def ub:Nat->Nat->(ZT->Nat->ZT)->ZT
 | 0,_,_=> .F
 | f+1,n,K=>bif Nat.ble (n % 64) 11 then ub f (n / 64) fun x n'=>ub f n' fun y r=>K ((HC.getD (n % 64) .a) x y) r
  else bif Nat.ble (n % 64) 13 then ub f (n / 64) fun x r=>K ((bif Nat.beq (n % 64) 12 then ZT.c else ZT.n) x) r
  else bif Nat.beq (n % 64) 15 then K .F (n / 64)
  else bif Nat.ble (n % 64) 23 then K (.v (n % 64 - 16)) (n / 64)
  else K (.k (HD.getD (n % 64 - 24) 0)) (n / 64)
noncomputable def A9 (n:Nat):ZT:=ub 20 n fun t _=>t
noncomputable def gb (n:Nat):Bool:=A8 (A9 n)
theorem Zb {fs:List Nat} (h:fs.all gb=true) (i:Nat) (cn:List Nat) (ci:List Int):((A9 (fs.getD i 62409)).d cn ci).2.2:=HB _ (by
 rw [List.getD_eq_getElem?_getD]
 cases e:fs[i]? with
 | none=>rfl
 | some t=>exact List.all_eq_true.mp h t (List.mem_of_getElem? e)) cn ci
theorem Z0:List.all [2078855725449,142857877939589501747593,2078855725385,2078856249673,289408005,543522821,272957509,108288275503035805067694996755950242266316967107813821665929,476228529951328478983045500653530540928260387760439991217653605930128009,353384134938219958203580745,560304133,1378136773629807921808726294857,46582961982779707951710806013931967809250134923105817225,51180448603950126834079887214324609390656857153273877129,645944183284674333644226953,124741,2078857036105,2078857298313,560320517,4855805622878537,33625405759230104563211143637140242761,5645581002688146948962962188009801,545275040476563538565426049042137034015373521354653835687407265729962347063693961,40807116598763585865,41794945032032420233,4244999,336459173463333674915201353,116293,645944183284955808608289097,587915817730429903060599113,24258498391070485385478761099448046217,6835443279503908426004936150112370275994247979356809,219400504943514712867679271213141972114259299718913365559800202800116451791497,7111658476732745,1134766404428370043465,317066502891831968739381897,5598377422367379463153406684975753,336459173571420065972093257,7107256470519816,1378136773703558869305472319817] gb=true:=by decide+kernel
theorem Z1:List.all [82143352844107626053961,543526917,106665653371273,488411668049159249643725385,361270359325716291690457712753140297,1937202385152739634470041036340744494527092810335355268612433138313,116266730945148554403298098825512091124766244030369739243174322786953,426082311,423625733,587925211518095478486270281,355807883244913118113169737,336459173265175279499739465,108101,19889370426689737289,1366788047421277780406507667785,2078857822601,5644848262830939355202819050512905,5644848262840679236082671226266121,5644848262845254028608690587509257,67647080235465,29129634595827876169,5644848224145310821722522969440585,4838963697484169,384717313033695000325635997688757797456466569,33584228632368913431607859477391343945,18904211348416205129,336502850215868410003194185,7935070687325616974384635955249901306894372739080794957668795107791497,336459173247442355966968137,7107270412341253,20054529167809642502,4557218137604553,2328874724684953592411881230985,2491172847945,119332005814752331956681,142857661485344243319113,26195841031,1378136783148291843840855769545,10203839844057417,72045218168779306959177] gb=true:=by decide+kernel
theorem Z2:List.all [17730980233365946697,1457384255924950401844829487433,407338418439211948759729581967060480066322761,353315156271493567760826697,125125,3095605482719579924169800382138149554336358146619121721931580412233,160039052412870564572759230618459787596105,21059184063462506825,81466898052453047992649,1181387589127,82143352844107626054025,333692987271708786760679753,336459173210898771415990601,568572930829342463573885257,19910427575456911945,4609651385565641,7388731464007688,120199207665141489664393,645992581250827532697076041,2295013310469,46360032110355122127874250861307646351037081420948308297,72104002542007325057609,5644848224145310821740051539759497,137729661989806687186905714308127108628809,4954949325257954988602661954695753,387911016216771722218443751712642967511830921,77980553529899405398604577813065,33563394260095153549914021195081626185,24826310053089921353358598894412309336323306057,32571564743739834697,116421,116357,161747131063258503254345,336459175570745608756527561,336459175553294161273684425,23121298489562903748682075271045054921,353384134740338640792060233,24450978459342749779817728048334897481,5646848633944686461222525234839881,41794949430078931337] gb=true:=by decide+kernel
theorem Z3:List.all [5598439325142709004573090038960713,1366809501067877444791745118537,8204255734518433724432331437060425,104915986929141162839853962367109469045065,19892686526735515977,72104002542009606734153,81194788570512784097609,83135363381672148736988374132303415288201,86275423520475479802185,83135363381672148737209734216764073513353,294757136435164973739278729,71220343181641,2804243699763707667325059596617,9962674950832457,6508066911336611197682771345215629401718534120166025,157711902132456845017417,4855943061832137,333697708485833239191429577,19888007005230960969,429993155345168946683621355392949539896840777,4955253803845556333043935716311369,1447461415821417025493648802121,99468791090955945939135206191606123987273,6835443278115066963434226926618392097730721952584329,114679708291860631526594538361376365595777688775999459709577,1735173406725,77500330679939280630138944905801,1570535621136655277633990520689112953322806968649,435651824395600164548652783309511267029485367997759817,82154016165983498010953,1736244724741,17589160263733580105,353427810537556110815002953,423626309,489011748702433165531218249,1056987677001,18904250930834805065,19889383599224725833,23124299787009440552616643108673159497,133137751512913184571599917509913721213967157729979226712639927655131052003977] gb=true:=by decide+kernel
theorem Z4:List.all [108288107874649367865192190680055096180550802078968389849737,1667142869916180284775242679118255332680849183369,32500451712231268536297356474924720555655661053694755484157538992682193545,1378315674484194417542586433865,82143352843610903019849,333688278740565447377486217,5598045672305372687340267556381065,19889431977739489673,5319489496579569221210009537630857,5598372628629779689539284242813577,108288129863034273616486728876595234659292116994165752222345,8801591745642825,2078858346825,2147575202121,585201557516846045208580489,108039,2078859657545,7111658394943493,8204255737289118870247020932628809,4855803324682825,8520116768932233,128655887237513,524422964707988005056406115051668105,4557218137608649,72092371489225,26197938183,560300039,560304135,488411940121852560288010825,7636159059787428984586633,127815069253232723796482368733513,6432268683014968980716000795080383284660804365132105,8233518228308297,1185499382153,2168936958753949876553,17733275384163697097,459636743,493191175,1112824664071,1457389094493764822745839829321] gb=true:=by decide+kernel
theorem Z5:List.all [604487794575854064797745481,12777424717939081,2962700024799068293160232833673,1366712821284375429953479770441,28331865586249992097387534917495489033,28331865586249992097387811994425430537,19888287741808738633,6294065041226102710181320343421257,373033969656613373464281094,429290898966183125773352780734262721340527177,24279632661875370083844890218930897225,99449204489557221001741986111927865676105,317158861397939408171274569,1211039022400745070363599176009,343708329931094001370529350060528609506361673,23125645417824273291487173677657620809,388043856337443578512680641315718621938319689,19889383599224983945,1396229497893417145869982225735391064170257187145,22970849445355151223556953041678369097,23124299787007324924542621658374574409,334269273518533858694267209,24284372834790975112694544625912512841,336459173265149990577111369,1447461420543783512761206309193,489090848506166574269661577,20054529167813771269,8199195340287148834010891456872777,119313995532677901451593,82968112283349241009948209018570117480777,2001756674874772163334284247369,20254928451580758764957002320876405129,33610067185710010048644080524511412553,1457408739559711668963549446473,333669523734174530940764489,4579467058282566,105594246241266132990601116656032288866633,24450612206116546849930272587078697289,334269190490453339871445321,6294064736274564712469038910406985] gb=true:=by decide+kernel
theorem Z6:List.all [1457389089771217685137884184905,19928428370727075846,6294065040923871273369989445583177,1378136773622658801547259937097,5969465711702837078256776898412873,1447461415967908201720069488969,1126361792517,43508653826678211754809459393307634539156912419052294473,333688414422847557913280841,5644848225046548591263883314331977,1924264217645678292152178657650381232570502947146261879233840697993,469728085189249331283594450865102792321336498629506969530552969,6508911743998793522126977770623889464478028460479113,2574988575091912720825011310226661639824556548084218906138655364276256972036888297445097887019502686857,109187244255600861848222714343830176563842892377392964194953,115466260025064283215414674330757378069599815876096140087625,1924006236935562907146942138665007915610835160063105507924912919177,1587108232636892757111591596521868856562947821897,2764457812652395064670933610278760677941452214132773095189504692553,121717530455595062287930238636460298049543344491509540475529,5928801959843205756494422627844425,94717131927580805104671615437711312785737,410219347023740531125359088032943776628838729,336459173211175848346190153,5969465731045646733369817377902921,40807468136135983497,3597087997801714724001867844621956724529914786121,143534117120780735680841,138811750691232299352393,454869073230299910,5642668803931795417057695455184197213225289,48210476765143957622979031947008344457,228537468934298045251913,5498103091323911085752649,128655870460233,9962674950570313,23121298343465730850434267867487666505,82143352896251906298249,82143352891853859787145,6834095956293152557751176785144115561660805936075401] gb=true:=by decide+kernel
theorem Z7:List.all [41731465411021498641050572506140311881,2149694301683727836078572018734190821705,10837877841880162598517665802748233,336597296392604322187182409,82143352844136881324361,66567,5608196765741437908832005115609417,9963310522044421,4995969802509403301860733647585609,491206468690492105670263113,5644848228380465721337542017548617,4945215516358186660884939274191305,1605119430687104600024377014764241388293670620238227370774003450185,5598439325142709004617112518394185,81467113666694109725001,1564859619528649735232274202080035475977,41953712466278742239974732926669368910918193673,2500610194742146205048258576795153994249,440468824962326612311839595042618768290311442810278409,24826305056540302662035248068465131001620730377,17586908395200680265,1399105946005553110918241156785646448441028510025,2685009750852450461684377021181152228471432544585,5969465731045647800664516436005193,81480444013508827283785,22930893311231769689913200956311863625,9539169801946341576684833691664713,106348780576158106947323221949092985180587741434441,1817126044406160219598140764738425656457483644644955840439530815817,99449229999817649940883476457685904261449,6252075372080742969332314438369609,105002365979760219150455351936028758348105,1367034353069253102449574543689,334348270961439181094519113,137560995413503824544964898611287937880393,1298703451445153000078283395721,5644848227166540313956528475624073,5969465711702917996338935666573641,105596888709628627624881175572651351998793,111042751797236366056057188817666381447497] gb=true:=by decide+kernel
theorem Z8:List.all [19889662457616531849,5644848224141265056836468506649161,5598439557256466370590666074165641,12631291615935907611680743097913740421868409861345606613061406499639625,1575801754847882630451132840293357821233058566793,426082309,35042860613102272841,128131765227540006403837920350537,157711902132456845541705,1447176109918567770642003788105,72626272887369482928713,272679686,310749555676152582,164703670024301171133316537828893679419721,377826748988265354032162602388029769,5195797580969605599592777,92242858639713203483459079963017,77421083174759458396533671613001,5325782171192394457141258696045108070494793,107926386079759625406976417525610310042143045848664419336521,29937765411549402768414047934598783863713052185064272629338210633,410211841377353262712090497640344793324454217,317122939563592964387635529,18901613752195584329,333689002345177327679672649,4615200145772873,5645581002687851715361301911146825,119241363729686529835337,488435491031993091306393929,469092835699260978278695241,488435575044133148745007433,1058061685129,81490799307047139807625,1126443360585,18898582953829704009,81466897770983439995209,27975158703574954457497473041709081167549092314089017993,1667142124109031802537026519873535017345540969097,28041839247354122045011464960808639658072684443468321417,115468943477795682478006216782551724444003018030039075148425] gb=true:=by decide+kernel
theorem Z9:List.all [95951225437086873676439261136713490164826700130572409787017,115468947510271642828744837193065391265481854930144530551433,6508249595558205528287244969197254346603375098352265,2111988460052488965807629590602019863098522763928036331392438539993579206163552555657,2042482564661154233489954580704294274199282503166475990049898386057,115468943477520201372566109538892763884435185206235138380425,19910419451341771081,4855874325578121,274792517,67077,66565,353427810537837585791713673,295356142714088749336625481,1668570117608886523594045336075708558801199956297,488714171595248905130344777,20296719580551138712428357719874339145,114663265379408662101811422072263387580889807204318100324681,563449870252621098286706567747256950315811145,387961372375370977903974541592544372007633225,44641096914986073003505717846469132076068498743139206522252777876227096905,447230952471315274545639898532856029529109132059665617066656073,1378138038043398785061655413065,4614654701703497,19889660676154659145,585806020426657908012351817,142943821367746802745673,6508249596304012676769483185356499066918710406566537,26437531345001447292025737755380463328589608168137970313,333693143902422499974185289,82143352847940230054217,8233170319179781,1048395645257,2962700024422060384542932599113,2962700024790995266017123631433,43112959607977279817,20054529500657242697,336459173264889405403300169,723315435884130186012131657,142943821371994679349641,277042579206410569] gb=true:=by decide+kernel
theorem cy:List.all [81195690469183455822217,1209707400796316392609357521481,1282994647551400242180375707977,20274749285661452350392358982087889481,1394783819912594753066195168547312719630374343049,19889379361047970121,38503876858016235849,35045112345269436745,2078855463241,8238643939443017,8238641792221513,2766050492745,18898582954903445833,878057940434233305273205065,30430823042121224777,4294238493737289,1378318465396711898883226075465,77430209732643626787145,1378393041014285910386080219465,5646769405782172194914606853914953,100166992346847246874641642394328607228233,1680768700285905155106657128198997799312717513033,100166995348643765702935130544471480992073,1680768700300858969639347650883726979503830860105,24454832115929503567377546000734355785,1680768700298200513647777819137919365383270170953,336459173249514451777880393,878057940434228893268050249,7147925182415177,12495291101368269778433335794117617552407938881028425,41815922916234101065,11770135925349353059295964913205577,1404771380980544236659241014433510644885984670345,4855813004857737,81466879760982960771465,4955979058350266838256844024648073,23121298331047945891653029275960873353,82143352878791903154569,355806721118371929107992969,333688266058428896698769801] gb=true:=by decide+kernel
theorem cz:List.all [20299690223002382779082068010398646601,44389006699821858278975213479493894473,1298912213385249002906278003145,21354882138559320926757876297,693578229684716639417478460494315849,59003541769659805728454580689173591174311997966509471437208139480487166281,86350380015666248045129,1921404518675633611677716713865,27976713090130776457,109187534128764173209695414630159976422003742479230974296393,447230952521835909374227126535004888113722374020211672063955593,1378136774210578618954471702857,19890223628255564233,23688241534456372516787337473488936505588466621809185417,114565161656176668158810943431870898250871977449583771406985,7107256470519815,488406945679325615108391369,604618513521517797388194479635280147846100029584474761,8559698449268805,2671928336739923269499524987343252611046205292873,47892527651221010986232597888457955534655820543131910473,4855805639655753,2858898830235697560707653942964890862507105211017,158595809294663269093995271598827844202211117283564677235017,214369614417146837270857,45253749690760954185,12743691588449263251222378362437961,124677,560402437,875739817643205793079872952293808442201080137,2078861230409,333689297578774658629501257,2147575202185,16353962599231419181283095854813513,183782131905648771385867659979754927700042539378951378718604834439752246108553,2168933604551843381705,76457433053233761223113,5521627105287832740037065,128648719942089,5646848633944686462066950164971849] gb=true:=by decide+kernel
theorem cA:List.all [14406089817090051669934153677734807338714417789453167930316225553367369,322611768460270345423453024103976916605561882527660889363081,443523668053578608234129429516994118573279376775157382581342857,102103120132890781738332330562242107678436983713493233980041,78590457383647158021647013942780918069083425911538733705,333688266058428896699285897,701201933913897926959632713,336578406926672843606327625,2645790976275316374263514005833,3521964998985,99847,313187448186306243954999625,119253877268498366922824,1666651848775,2645966269990274071903724372297,524827710372003866230120121759170889,183727827445328848113570250789981529134303108435027262177609,568573004616595836265300297,119313828975572701675526,72043766175082275995977,2697331016073,294757136435164905019539849,153816171207924097263257902999107423801673,149125,8204270628837364884310297507332425,147666187846136952848713,142943821363267307635017,214535,17730707553410613705,67647080235529,1282816948985740314252073308553,1218621405215425210694414398089,1479191704076899909188140181209587132741357433481,4877262217442917373223345674674670871359363510921,5359553619563007802248590797803651277550217,88166696076209760182600347947513795342985,2078854414729,73299744518035048788617,9399724997673289,5646848633944686460941050258129225] gb=true:=by decide+kernel
theorem cB:List.all [71221416927561,5213580528816107408134473,8555301141283145,76472440102040574886217,1208469229052072374019152695881,476418053,39495734752563757385,142857665131779922399561,147580031614649567613257,568572930829338065527374153,1366810744275568385693646848393,19889662526336270729,10147543157061868274816863263261001,104005,17751289780525699401,7111658476732809,81467041864711561347465,488709449390869771467686281,17748687306296197513,72698623206597830181257,1112671273734,4893571148142197127315913,105596884618920038768787422082466901393737,147579991971329445229129,63865546713449103689,7963397,2232273681066661802569,560320519,2464084863933302702409,601583218734203209,1282742869207898814199280726665,83130381656655936186009322025609,36030342469534089545,147666187855495530807625,604884381017456153758531913,471864485441732187969814857,4991474748548038342134814920954441,1404795111815395680157742265148353009977144115529,87469366665342058265494646423881,271039019481838202651081] gb=true:=by decide+kernel
theorem cf:List.all [32382339022503971918199121106284393319220627980004378660491311336985665529335206015844483401,271039037496236712133065,1259473695159374275040201699913,19455801577533604297,295242418354237143162843721,72081821465029346591177,79764750233407055753801,19137674399390627000305603145,1816775748978531835371952591007497029023212265097762362852102394505,443548075829824190462285321261777782561162289077788752224998025,5646848633944686461504000211550537,5646848633944686459252200397865289,7107270294900741,23688615694575602296970969415091370683511766606615150921,258069001,120327,213693158728392260190537,119313995607151543857158,1056985579849,82152863244478891163977,19889409988711437001,5646848633944686461785475188261193,459898885,125253,560353285,29111382495587835910,568582398404261411690971465,161747436247030089908553,186683473004332534215895170200299850694985,10570166798943533020736252733022261075663494523752777,51050790745926721226248614840342421833,65713837074429083893951702213367177545,37093896790185255676486092536079196489,138136664096747530232137,4579469256098121,1666554331465,100151041615968429077637374700073634496841,314704406531214264605102665,18754463389295071817,353384208653112725857472841] gb=true:=by decide+kernel
theorem cJ:List.all [86867159276817362190665,18757506072983380297,4855805474513225,13621849651478921,13621849655935369,13621849656197513,5643611730226890591350558822601033,5600007560957360698504341170422089,2317525690924789619413816250761,328088031535204154800108813399834656506185,24450931555134211204559022416038199625,105596883598461407197700429171455812436297,410218560101712953999863060333610455831413065,1771621725058244311594780398057397378206417289545,105596888709628627317921376006163136512329,21058902245945376774,19889427579692978569,33724437256463520137,972001836536098013245149577,1209779365101852321452214714825,548017981201100447971882244086551976974104199172994813045580297,28331865586249992097388106663542465033,28331865586249992097388383740472406537,133793452441674914055631197350160252281461691683590325170761,133793452441674914055628497355793775476023895191488777187913,29471626702194999625,17604597967749382473,17604597968822862153,21059184063429476681,21059184132148953481,6835443275659993491391149753573968303009877939479241,353384135892415717260464521,432524750169880613060150777729600227245658441,25613601830830833519910003275571659081,19928428370731204614,5141333639758153,6294065040923871273287663512453449,25613601830830833521062929178225017161,432519305672785403629363735264188833917305161,1447461476030702450760654782793] gb=true:=by decide+kernel
theorem dv:List.all [1447176764481397551176811020617,1298932769465003978436964094281,128023552537012032759701434078137098410230093987017471820105,127333553056507116337197242673273355399533582135480366924105,128022020047318623404159059323375381833732467685360754753865,24326240395222073883606804429588398409,28045865687484332971881776812078372136925195986277237065,1761603201035922778055771106899038216776883110217,82143352847938082570569,1771621810809400775671273488342865051763079119177,24284372826179533449027064319111594313,100151015649832244817535958841574981370185,89261980232876999083778919208587400577353,72108347715753829466441,372350500229987428426842182,81553078072696031674697,407343941588491459573385111505087556494295369,29548903288169866366384208292483610178188267907165737545,24450978459342749852256216004836720969,295663022765950431066587465,1447176109473326223736193417545,100151041615968430021428232973052536684873,314704406531219203851026761,8317803807994276512822188727945932850254467140739797197056903888261705,488412604207131593155907913,114524759889221653627209,23124346611987101182413634481489445193,77431649683181498794313,132817816528330405001988003055932040122697] gb=true:=by decide+kernel
theorem bx{a:Nat}(h:a=8):a<=4096:=Zb Z0 0 [a] [] h
theorem dH{a b c:Nat}(h:a=b-c)(h1:b<=8):a<=4096:=Zb Z0 1 [a,b,c] [] h h1
theorem dW{a:Nat}(h:a<=8):a<=4096:=Zb Z0 2 [a] [] h
theorem ez{a:Nat}(h:a<=4000):a<=4096:=Zb Z0 3 [a] [] h
theorem g9{a b:Nat}:a<=a+b:=Zb Z0 4 [a,b] []
theorem hK:(0:Nat)<60:=Zb Z0 5 [] []
theorem lV{a b:Nat}:a-b<=a:=Zb Z0 6 [a,b] []
theorem mX{a b:Nat}(h:1<=a/\a<1+(b/2+1-1)):a<=b:=Zb Z0 7 [a,b,b/2] [] (bW b) h
theorem mY{a b:Nat}(h:1<=b/\b<1+(a/2+1-1)):((a:Nat):Int)-((b:Nat):Int)=((a-b:Nat):Int):=Zb Z0 8 [a,b,a/2] [] (bW a) h
theorem jH{a b c:Nat}(h:a+b<=8)(h1:c=8):a+b<=c:=Zb Z0 9 [a,b,c] [] h h1
theorem lj:(1:Nat)<1000000:=Zb Z0 10 [] []
theorem iT{a b c:Nat}(h:a<c)(h1:c<b):a<b:=Zb Z0 11 [a,b,c] [] h h1
theorem rm{a b c:Nat}(h:a=b-c)(h1:b<=8):a/2+1-1<=4096:=Zb Z0 12 [a,b,c,a/2] [] (bW a) h h1
theorem uc{a b c:Nat}(h:a=b-c)(h1:b<=8):a/2+1<1000000:=Zb Z0 13 [a,b,c,a/2] [] (bW a) h h1
theorem ud{a b c:Nat}(h:a=b-c)(h1:b<=8):a<1000000:=Zb Z0 14 [a,b,c] [] h h1
theorem lk:(8:Nat)<=4096:=Zb Z0 15 [] []
theorem lW{a:Nat}(h:a<=3000):a<=4096:=Zb Z0 16 [a] [] h
theorem lX{a:Nat}(h:a=9):a<=4096:=Zb Z0 17 [a] [] h
theorem lY:(8:Nat)<1000000:=Zb Z0 18 [] []
theorem lZ{a b:Nat}(h:a+1<=b):a<=b:=Zb Z0 19 [a,b] [] h
theorem xg{a b c d:Nat}(h:a+(b+2)<=c+d):a+(b+2)<=c+(d+1):=Zb Z0 20 [a,b,c,d] [] h
theorem xh{a b:Nat}(h:a<0+8)(h1:b=8):a-1<b:=Zb Z0 21 [a,b] [] h h1
theorem xj{a b c d e:Nat}(h:1<=b/\b<=d/2)(h1:c=8)(h2:d=e-a)(h3:e<=8):a-1+b<c:=Zb Z0 22 [a,b,c,d,e,d/2] [] (bW d) h h1 h2 h3
theorem mZ{a:Nat}(h:a<8):a<9:=Zb Z0 23 [a] [] h
theorem m4{a b:Nat}(h:a=b)(h1:b<=4096):a<=16777216:=Zb Z0 24 [a,b] [] h h1
theorem m5{a:Nat}:0<=((a:Nat):Int):=Zb Z0 25 [a] []
theorem m6{a b:Nat}(h:a<8)(h1:b=8):a<b:=Zb Z0 26 [a,b] [] h h1
theorem m7:(1:Nat)<=4:=Zb Z0 27 [] []
theorem ue{a b c:Nat}(h:b+a<=c)(h1:c<=8):a<1000000:=Zb Z0 28 [a,b,c] [] h h1
theorem uf{a b c:Nat}(h:b+a<=c)(h1:c<=8):a-1<=4096:=Zb Z0 29 [a,b,c] [] h h1
theorem ug{a b c:Nat}(h:1<=b/\b<1+(c-1)):a+b<=a+c:=Zb Z0 30 [a,b,c] [] h
theorem uh{a b c d:Nat}(h:1<=b/\b<1+(d-1))(h1:a+d<=8)(h2:c=8):a+b<=c:=Zb Z0 31 [a,b,c,d] [] h h1 h2
theorem ui{a b c d e f g:Nat}(h:1<=c/\c<1+(b-1))(h1:f+b<=g)(h2:g<=8):min (a+b-(a+c)) d+min (a+c-a) e<=4096:=Zb Z0 32 [a,b,c,d,e,f,g] [] h h1 h2
theorem rq{a b:Nat}(h:a<=b):a<=b+1:=Zb Z0 33 [a,b] [] h
theorem xk{a:Nat}(h:¬a=0):((a:Nat):Int)≠0:=Zb Z0 34 [a] [] h
theorem pH{a:Nat}(h:1<=a/\a<1+4):1<=a:=Zb Z0 35 [a] [] h
theorem pI{a b:Nat}(h:1<=a/\a<1+4)(h1:b=8):a<=b:=Zb Z0 36 [a,b] [] h h1
theorem pJ{a b:Nat}(h:a<8)(h1:b=9):a<b:=Zb Z0 37 [a,b] [] h h1
theorem pK{a:Nat}:((a:Nat):Int)+1=((a+1:Nat):Int):=Zb Z0 38 [a] []
theorem ry{a b c:Nat}(h:c<b)(h1:a<c):a<b:=Zb Z0 39 [a,b,c] [] h h1
theorem pL{a b c:Nat}(h:a+(c+1)<=b):a<b:=Zb Z1 0 [a,b,c] [] h
theorem pM:(1:Nat)<60:=Zb Z1 1 [] []
theorem Ba{a:Nat}(h:a=0):((a:Nat):Int)=0:=Zb Z1 2 [a] [] h
theorem Bb{a:Nat}(h:¬a=0):((a:Nat):Int)-1=((a-1:Nat):Int):=Zb Z1 3 [a] [] h
theorem Bc{a b:Nat}(h:¬a=0):((a:Nat):Int)-1+((b:Nat):Int)=((a-1+b:Nat):Int):=Zb Z1 4 [a,b] [] h
theorem Bd{a b c d:Nat}(h:1<=b/\b<=d/2)(h1:c=8)(h2:a<=8):a-b<c:=Zb Z1 5 [a,b,c,d,d/2] [] (bW d) h h1 h2
theorem Be{a b c d:Nat}(h:1<=b/\b<=c/2)(h1:c=a-d):((a:Nat):Int)-((b:Nat):Int)=((a-b:Nat):Int):=Zb Z1 6 [a,b,c,d,c/2] [] (bW c) h h1
theorem pN:(0:Int)<1:=Zb Z1 7 [] []
theorem uj{a b c:Nat}(h:a<c)(h1:b=c):a<b:=Zb Z1 11 [a,b,c] [] h h1
theorem HF{a b:Nat}(h:a<b):a<=b:=Zb Z0 19 [a,b] [] h
theorem HG{a b c:Nat}(h:c+2<=a/\a<c+2+(b+1-(c+2))):a<=b:=Zb Z1 23 [a,b,c] [] h
theorem HH{a b c d:Nat}(h:d<c)(h1:b<=d)(h2:¬a>=b):(a+b)/2<c:=Zb Z1 27 [a,b,c,d,(a+b)/2] [] (bW (a+b)) h h1 h2
theorem HI{a b c:Nat}(h:(a+c)/2+1<=b)(h1:a<c):a<=b:=Zb Z4 0 [a,b,c,(a+c)/2] [] (bW (a+c)) h h1
theorem HJ{a:Nat}:a<1+a:=Zb Z6 6 [a] []
theorem HK{a b c d:Nat}(h:1<=a)(h1:b+2*a<=c)(h2:d=8)(h3:c<=d):1<=a/\a<1+4:=Zb Z6 7 [a,b,c,d] [] h h1 h2 h3
theorem HM{a b c d:Nat}(h:c+2*a<=d)(h1:d<=b):a<=b:=Zb Z6 8 [a,b,c,d] [] h h1
theorem HN{a b c d:Nat}(h:a+2<=d/\d<a+2+(c+1-(a+2)))(h1:b<1+(d-a)/2):a-1+b<c:=Zb Z6 13 [a,b,c,d,(d-a)/2] [] (bW (d-a)) h h1
theorem HO{a b c d:Nat}(h:d<1+(c-a)/2)(h1:b<d):a+b<=c:=Zb Z6 16 [a,b,c,d,(c-a)/2] [] (bW (c-a)) h h1
theorem HP{a b c d e:Nat}(h:a<(c+d)/2+1)(h1:e<b)(h2:d<=e)(h3:¬c>=d):a<b:=Zb Z9 3 [a,b,c,d,e,(c+d)/2] [] (bW (c+d)) h h1 h2 h3
theorem HQ{a b c:Nat}(h:a<(b+c)/2+1)(h1:¬a=(b+c)/2):a<(b+c)/2:=Zb Z9 4 [a,b,c,(b+c)/2] [] (bW (b+c)) h h1
theorem HR{a b c:Nat}(h:b<=c)(h1:¬a>=b):(a+b)/2<c:=Zb Z9 5 [a,b,c,(a+b)/2] [] (bW (a+b)) h h1
theorem HS{a b c:Nat}(h:c<b)(h1:a<=(c+b)/2):a<=b:=Zb Z9 27 [a,b,c,(c+b)/2] [] (bW (c+b)) h h1
theorem HT{a b:Nat}(h:a<b)(h1:b=16):a<16:=Zb Z9 37 [a,b] [] h h1
theorem HU{a:Nat}(h:¬((63:Nat):Int)<((a:Nat):Int)):a<=4000:=Zb cB 23 [a] [] h
theorem HV{a b c:Nat}(h:c<b)(h1:a<=b\/a=(c+b)/2+1):a<=b:=Zb cf 8 [a,b,c,(c+b)/2] [] (bW (c+b)) h h1
theorem HW{a b c:Nat}(h:c<b)(h1:a<=(c+b)/2\/a=c):a<=b:=Zb cf 9 [a,b,c,(c+b)/2] [] (bW (c+b)) h h1
theorem pO{a b:Nat}(h:b=8):a%8<b:=by lia
theorem Bf{b c:Nat}{a:Prop}(h:b<c)(h1:c=0):a:=by lia
theorem Bg{b c d:Nat}{a:Prop}(h:b<c)(h1:d=c)(h2:d<=b):a:=by lia
theorem HX{a b:Nat}:((a:Nat):Int)=((b:Nat):Int)↔a=b:=by lia
end cb
namespace cb
open PySem PySem.W PyProof.Rows
section
open PySem PySem.W PyProof.Rows
theorem ws:PySem.Challenge.rw_uk0016_01.wellSaid=true:=by decide+kernel
open_top hd for PySem.Challenge.rw_uk0016_01.row
end
end cb
section
open PySem PySem.W PyProof.Rows
namespace cb
noncomputable def Go {α:Type} (c:Nat->Nat->Bool) (N:Nat):KasT α->α->Prop
 | .ret a,b=>a=b
 | .ask i j k,b=>i < N/\j < N/\Go c N (k (c i j)) b
theorem Go.bind {α β:Type} {c:Nat->Nat->Bool} {N:Nat} {f:α->KasT β} {a:α} {b:β}:∀{t:KasT α},Go c N t a->Go c N (f a) b->Go c N (t.bind f) b
 | .ret _,h,g=>by cases h;exact g
 | .ask _ _ _,h,g=>⟨h.1,h.2.1,Go.bind h.2.2 g⟩
theorem Go.inj {α:Type} {c:Nat->Nat->Bool} {N:Nat} {a b:α}:∀{t:KasT α},Go c N t a->Go c N t b->a=b
 | .ret _,h,g=>by cases h;exact g
 | .ask i j k,h,g=>Go.inj (t:=k (c i j)) h.2.2 g.2.2
structure l7 (c:Nat->Nat->Bool) (N:Nat):Prop where
 uk:∀i j,i < N->j < N->i≠j->c i j= !c j i
 tr:∀i j k,i < N->j < N->k < N->c i j=true->c j k=true->c i k=true
noncomputable def eU (p:Array Nat) (N:Nat):Prop:=p.toList.Perm (List.range N)
section
variable {c:Nat->Nat->Bool} {N:Nat} {p:Array Nat}
theorem eU.size (h:eU p N):p.size=N:=by
 have:=h.length_eq
 simpa using this
theorem eU.lt (h:eU p N) {i:Nat} (hi:i < N):p.getD i 0 < N:=by
 have hs:=h.size
 have e:p.getD i 0=p[i]'(by exact uj hi hs):=by simp [Array.getD,hs,hi]
 rw [e]
 have:p[i]'(by exact uj hi hs)∈p.toList:=by simp
 exact List.mem_range.mp (h.mem_iff.mp this)
theorem eU.ne (h:eU p N) {i j:Nat} (hi:i < N) (hj:j < N) (cU:i≠j):p.getD i 0≠p.getD j 0:=by
 have hs:=h.size
 have nd:p.toList.Nodup:=h.nodup_iff.mpr List.nodup_range
 have e1:p.getD i 0=p.toList[i]'(by simpa [hs] using hi):=by simp [Array.getD,hs,hi]
 have e2:p.getD j 0=p.toList[j]'(by simpa [hs] using hj):=by simp [Array.getD,hs,hj]
 rw [e1,e2]
 intro q
 exact cU ((List.getElem_inj nd).mp q)
noncomputable def kc (c:Nat->Nat->Bool) (p:Array Nat) (k:Nat):Prop:=∀i j,i < j->j < k->c (p.getD i 0) (p.getD j 0)=true
noncomputable def oq (c:Nat->Nat->Bool) (p:Array Nat) (k:Nat):Prop:=∀i j,i < j->j < k->c (p.getD j 0) (p.getD i 0)=true
theorem kc.step (O:l7 c N) (h:eU p N) {n:Nat} (a:kc c p n) (hn:n < N) (h1:1<=n) (q:c (p.getD (n - 1) 0) (p.getD n 0)=true):kc c p (n+1):=by
 intro i j cU hj
 by_cases e:j=n
 ·subst e
  by_cases e':i=j - 1
  ·subst e';exact q
  ·exact O.tr _ _ _ (h.lt (by exact ry hn cU)) (h.lt (by exact Zb Z3 29 [_,_] [] hn)) (h.lt hn) (a i (j - 1) (by exact Zb Z1 24 [_,_] [] cU e') (by exact Zb Z1 25 [_] [] h1)) q
 ·exact a i j cU (by exact Zb Z1 21 [_,_] [] hj e)
theorem oq.step (O:l7 c N) (h:eU p N) {n:Nat} (a:oq c p n) (hn:n < N) (h1:1<=n) (q:c (p.getD n 0) (p.getD (n - 1) 0)=true):oq c p (n+1):=by
 intro i j cU hj
 by_cases e:j=n
 ·subst e
  by_cases e':i=j - 1
  ·subst e';exact q
  ·exact O.tr _ _ _ (h.lt hn) (h.lt (by exact Zb Z3 29 [_,_] [] hn)) (h.lt (by exact ry hn cU)) q (a i (j - 1) (by exact Zb Z1 24 [_,_] [] cU e') (by exact Zb Z1 25 [_] [] h1))
 ·exact a i j cU (by exact Zb Z1 21 [_,_] [] hj e)
theorem um (O:l7 c N) (h:eU p N):∀(f n:Nat),n+f<=N->1<=n->kc c p n->∃m,Go c N (kas_asc p f n) m/\n<=m/\m<=n+f/\kc c p m
 | 0,n,_,_,a=>⟨n,rfl,Nat.le_refl _,Nat.le_refl _,a⟩
 | f+1,n,hf,h1,a=>by
  have hM:p.getD n 0 < N:=h.lt (by exact pL hf)
  have fE:p.getD (n - 1) 0 < N:=h.lt (by exact Zb Z1 26 [_,_,_] [] hf)
  show ∃m,(_/\_/\Go c N (if c (p.getD n 0) (p.getD (n - 1) 0)=true then KasT.ret n else kas_asc p f (n+1)) m)/\_
  by_cases q:c (p.getD n 0) (p.getD (n - 1) 0)=true
  ·rw [if_pos q];exact ⟨n,⟨hM,fE,rfl⟩,Nat.le_refl _,by exact Zb Z3 30 [_,_] [],a⟩
  ·rw [if_neg q]
   have q':c (p.getD (n - 1) 0) (p.getD n 0)=true:=by
    rw [O.uk _ _ fE hM (h.ne (by exact Zb Z1 26 [_,_,_] [] hf) (by exact pL hf) (by exact Zb Z3 31 [_] [] h1))]
    simpa using q
   refine eT (um O h f (n+1) (by exact Zb Z3 32 [_,_,_] [] hf) (by exact Zb Z3 33 [_] []) (a.step O h (by exact pL hf) h1 q'):) fun m e l1 l2 am=> ?_
   exact ⟨m,⟨hM,fE,e⟩,by exact lZ l1,by exact Zb Z3 34 [_,_,_] [] l2,am⟩
theorem Bh (O:l7 c N) (h:eU p N):∀(f n:Nat),n+f<=N->1<=n->oq c p n->∃m,Go c N (kas_desc f p n 0) (p,m,0)/\n<=m/\m<=n+f/\oq c p m
 | 0,n,_,_,a=>⟨n,rfl,Nat.le_refl _,Nat.le_refl _,a⟩
 | f+1,n,hf,h1,a=>by
  have hM:p.getD n 0 < N:=h.lt (by exact pL hf)
  have fE:p.getD (n - 1) 0 < N:=h.lt (by exact Zb Z1 26 [_,_,_] [] hf)
  show ∃m,(_/\_/\Go c N (if c (p.getD n 0) (p.getD (n - 1) 0)=true then (if 0 > 0 then kas_desc f (kas_rev p (n - (0+1)) n) (n+1) 0 else kas_desc f p (n+1) 0)
  else .ask (p.getD (n - 1) 0) (p.getD n 0) fun d=>if d=true then .ret (p,n,0) else kas_desc f p (n+1) (0+1)) (p,m,0))/\_
  by_cases q:c (p.getD n 0) (p.getD (n - 1) 0)=true
  ·rw [if_pos q,if_neg (by exact Zb Z3 35 [] [])]
   refine eT (Bh O h f (n+1) (by exact Zb Z3 32 [_,_,_] [] hf) (by exact Zb Z3 33 [_] []) (a.step O h (by exact pL hf) h1 q):) fun m e l1 l2 am=> ?_
   exact ⟨m,⟨hM,fE,e⟩,by exact lZ l1,by exact Zb Z3 34 [_,_,_] [] l2,am⟩
  ·rw [if_neg q]
   have q':c (p.getD (n - 1) 0) (p.getD n 0)=true:=by
    rw [O.uk _ _ fE hM (h.ne (by exact Zb Z1 26 [_,_,_] [] hf) (by exact pL hf) (by exact Zb Z3 31 [_] [] h1))]
    simpa using q
   show ∃m,(_/\_/\_/\_/\Go c N (if c (p.getD (n - 1) 0) (p.getD n 0)=true then KasT.ret (p,n,0) else kas_desc f p (n+1) (0+1)) (p,m,0))/\_
   rw [if_pos q']
   exact ⟨n,⟨hM,fE,fE,hM,rfl⟩,Nat.le_refl _,by exact Zb Z3 30 [_,_] [],a⟩
theorem getD_get? {p:Array Nat} {i:Nat}:p.getD i 0=(p[i]?).getD 0:=by simp [Array.getD_eq_getD_getElem?]
theorem Bi {i j:Nat} (h:eU p N):eU (kas_rev p i j) N:=(Array.perm_iff_toList_perm.mp (mirror_perm _ _ _ _)).trans h
theorem Bj (h:eU p N) {n i:Nat} (hn:n<=N) (hi:i < n):(kas_rev p 0 n).getD i 0=p.getD (n - 1 - i) 0:=by
 rw [getD_get?,getD_get?]
 unfold kas_rev
 rw [getElem?_mirror_all (by rw [h.size];exact hn),if_pos ⟨Nat.zero_le _,hi⟩,Nat.zero_add]
theorem HY (h:eU p N) {n:Nat} (hn:n<=N) (d:oq c p n):kc c (kas_rev p 0 n) n:=fun i j cU hj=>by
 rw [Bj h hn (by exact ry hj cU),Bj h hn hj]
 exact d _ _ (by exact Zb Z8 21 [_,_,_] [] hj cU) (by exact Zb Z8 22 [_,_,_] [] hj)
theorem HZ (O:l7 c N) (h:eU p N) (h1:1<=N):∃m p',Go c N (kas_count N p) (m,p')/\eU p' N/\1<=m/\m<=N/\kc c p' m:=by
 unfold kas_count
 refine eT (um O h (N - 1) 1 (by exact Zb Z8 23 [_] [] h1) (Nat.le_refl _) fun i j a b=>by lia:) fun n e l1 l2 an=> ?_
 by_cases q:(n==N)=true
 ·exact ⟨n,p,e.bind (by rw [if_pos q];exact rfl),h,l1,by lia,an⟩
 ·have qn:n≠N:=by simpa using q
  by_cases q2:n > 1
  ·refine ⟨n,p,e.bind ?_,h,l1,by exact Zb Z8 24 [_,_] [] h1 l2,an⟩
   rw [if_neg q,if_pos q2]
   refine ⟨h.lt (by exact Zb Z8 25 [_] [] h1),h.lt (by exact Zb Z8 26 [_,_] [] h1 l2), ?_⟩
   dsimp only
   rw [if_pos (an 0 (n - 1) (by exact Zb Z8 27 [_] [] q2) (by exact Zb Z1 25 [_] [] l1))]
   exact rfl
  ·have hn:n=1:=by exact Zb Z8 28 [_] [] l1 q2
   subst hn
   have hd:oq c p 2:=fun i j a b=>by
    have:i=0:=by exact Zb Z8 29 [_,_] [] b a
    have:j=1:=by exact Zb Z8 30 [_,_] [] b a
    subst i j
    obtain ⟨f,hf⟩:∃f,N - 1=f+1:=⟨N - 2,by lia⟩
    rw [hf] at e
    have e:Go c N (if c (p.getD 1 0) (p.getD (1 - 1) 0)=true then KasT.ret 1 else kas_asc p f (1+1)) 1:=e.2.2
    by_cases q:c (p.getD 1 0) (p.getD (1 - 1) 0)=true
    ·exact q
    ·rw [if_neg q] at e
     have q':c (p.getD (1 - 1) 0) (p.getD 1 0)=true:=by
      rw [O.uk _ _ (h.lt (by exact Zb Z3 36 [_] [] h1)) (h.lt (by lia)) (h.ne (by exact Zb Z3 36 [_] [] h1) (by lia) (by exact Zb Z8 31 [] []))]
      simpa using q
     refine ey (um O h f 2 (by exact Zb Z8 32 [_,_] [] hf) (by exact Zb Z1 12 [] []) (an.step O h (by lia) (Nat.le_refl _) q'):) fun m e' l _=> ?_
     have:=e.inj e'
     lia
   refine eT (Bh O h (N - (1+1)) 2 (by lia) (by exact Zb Z1 12 [] []) hd:) fun m e2 l3 l4 dm=> ?_
   refine eT (um O (Bi (i:=0) (j:=m) h) (N - m) m (by lia) (by exact Zb Z8 33 [_] [] l3) (HY h (by lia) dm):) fun m' e3 l5 l6 am=> ?_
   refine ⟨m',_,e.bind ?_,Bi h,by exact Zb Z8 34 [_,_] [] l3 l5,by lia,am⟩
   rw [if_neg q,if_neg q2]
   unfold kas_descPart
   refine Go.bind e2 ?_
   dsimp only
   rw [if_neg (by exact Zb Z3 35 [] [])]
   unfold kas_tail3
   exact Go.bind e3 rfl
theorem xl (O:l7 c N) (h:eU p N) {k:Nat} (hk:k < N) (a:kc c p k):∀(f l r:Nat),r - l<=f->l<=r->r<=k->(∀i,i < l->c (p.getD i 0) (p.getD k 0)=true)->(∀i,r<=i->i < k->c (p.getD k 0) (p.getD i 0)=true)->
  ∃t,Go c N (kas_place p k f l r) t/\t<=k/\(∀i,i < t->c (p.getD i 0) (p.getD k 0)=true)/\(∀i,t<=i->i < k->c (p.getD k 0) (p.getD i 0)=true)
 | 0,l,r,hf,xm,hr,lo,hi=>⟨l,rfl,by exact Zb Z3 37 [_,_,_] [] hr xm,lo,fun i a b=>hi i (by exact Zb Z8 35 [_,_,_] [] hf a) b⟩
 | f+1,l,r,hf,xm,hr,lo,hi=>by
  unfold kas_place
  by_cases q:l>=r
  ·rw [if_pos q];exact ⟨l,rfl,by exact Zb Z3 37 [_,_,_] [] hr xm,lo,fun i a b=>hi i (by exact Zb Z3 37 [_,_,_] [] a q) b⟩
  ·rw [if_neg q]
   have hM:p.getD k 0 < N:=h.lt hk
   have fE:p.getD ((l+r) / 2) 0 < N:=h.lt (by exact Zb Z1 27 [_,_,_,_,_] [] (bW _) hk hr q)
   show ∃t,(_/\_/\Go c N (if c (p.getD k 0) (p.getD ((l+r) / 2) 0)=true then kas_place p k f l ((l+r) / 2) else kas_place p k f ((l+r) / 2+1) r) t)/\_
   by_cases q2:c (p.getD k 0) (p.getD ((l+r) / 2) 0)=true
   ·rw [if_pos q2]
    refine aj (xl O h hk a f l ((l+r) / 2) (by exact Zb Z8 36 [_,_,_,_] [] (bW _) hf) (by exact Zb Z8 37 [_,_,_] [] (bW _) q) (by exact Zb Z8 38 [_,_,_,_] [] (bW _) hr q) lo fun i jj ke=>(by
     by_cases e:i=(l+r) / 2
     ·subst e;exact q2
     ·exact O.tr _ _ _ (h.lt hk) (h.lt (by exact Zb Z1 27 [_,_,_,_,_] [] (bW _) hk hr q)) (h.lt (by exact iT ke hk)) q2 (a _ i (by exact Zb Z8 39 [_,_,_,_] [] (bW _) jj e) ke)):) fun t e r=> ?_
    exact ⟨t,⟨hM,fE,e⟩,r⟩
   ·rw [if_neg q2]
    have q':c (p.getD ((l+r) / 2) 0) (p.getD k 0)=true:=by
     rw [O.uk _ _ fE hM (h.ne (by exact Zb Z1 27 [_,_,_,_,_] [] (bW _) hk hr q) hk (by exact Zb Z9 0 [_,_,_,_] [] (bW _) hr q))]
     simpa using q2
    refine aj (xl O h hk a f ((l+r) / 2+1) r (by exact Zb Z9 1 [_,_,_,_] [] (bW _) hf) (by exact Zb Z9 2 [_,_,_] [] (bW _) q) hr (fun i jj=>(by
     by_cases e:i=(l+r) / 2
     ·subst e;exact q'
     ·exact O.tr _ _ _ (h.lt (by exact HP jj hk hr q)) (h.lt (by exact HH hk hr q)) (h.lt hk) (a i _ (by exact HQ jj e) (by exact HR hr q)) q')) hi:) fun t e r=> ?_
    exact ⟨t,⟨hM,fE,e⟩,r⟩
theorem Bk (h:eU p N) {k t i:Nat} (hk:k < N) (ht:t<=k):(bubble p k (k - t)).getD i 0=if i=t then p.getD k 0 else if t < i/\i<=k then p.getD (i - 1) 0 else p.getD i 0:=by
 rw [getD_get?,getElem?_bubble (by rw [h.size];exact hk) _ (by exact lV),show k - (k - t)=t by exact Zb Z9 6 [_,_] [] ht]
 simp only [getD_get?]
 repeat' split
 all_goals rfl
theorem Bl (O:l7 c N):∀(f:Nat) (p:Array Nat) (k:Nat),eU p N->k+f=N->kc c p k->∃p',Go c N (kas_bin f p k) p'/\eU p' N/\kc c p' N
 | 0,p,k,h,e,a=>⟨p,rfl,h,by rwa [<- show k=N by exact Zb Z9 7 [_,_] [] e]⟩
 | f+1,p,k,h,e,a=>by
  refine eT (xl O h (by exact Zb Z2 10 [_,_,_] [] e) a k 0 k (by exact Zb Z9 8 [_] []) (by exact Zb Z9 9 [_] []) (by exact Zb Z9 10 [_] []) (fun i q=>by lia) (fun i q1 q2=>by lia):) fun t et ht lo hi=> ?_
  refine aj (Bl O f (bubble p k (k - t)) (k+1) ((Array.perm_iff_toList_perm.mp (bubble_perm _ _ _)).trans h) (by exact Zb Z9 11 [_,_,_] [] e) fun i j cU hj=>(by
   rw [Bk h (by exact Zb Z2 10 [_,_,_] [] e) ht,Bk h (by exact Zb Z2 10 [_,_,_] [] e) ht]
   by_cases i1:i=t
   ·rw [if_pos i1,if_neg (by exact Zb Z9 12 [_,_,_] [] cU i1),if_pos (by exact Zb Z9 13 [_,_,_,_] [] cU hj i1)]
    exact hi _ (by exact Zb Z9 14 [_,_,_] [] cU i1) (by exact Zb Z3 38 [_,_,_] [] cU hj)
   ·rw [if_neg i1]
    by_cases i2:t < i/\i<=k
    ·rw [if_pos i2,if_neg (by exact Zb Z9 15 [_,_,_,_] [] cU i2),if_pos (by exact Zb Z9 16 [_,_,_,_] [] cU hj i2)]
     exact a _ _ (by exact Zb Z9 17 [_,_,_,_] [] cU i2) (by exact Zb Z9 18 [_,_,_,_] [] hj i2)
    ·rw [if_neg i2]
     by_cases j1:j=t
     ·rw [if_pos j1];exact lo i (by exact Zb Z1 28 [_,_,_] [] cU j1)
     ·rw [if_neg j1]
      by_cases j2:t < j/\j<=k
      ·rw [if_pos j2]
       exact a _ _ (by exact Zb Z9 19 [_,_,_,_] [] cU j2 i2 i1) (by exact Zb Z3 38 [_,_,_] [] cU hj)
      ·rw [if_neg j2]
       exact a _ _ cU (by exact Zb Z9 20 [_,_,_] [] hj ht j2 j1)):) fun p' e' r=> ?_
  exact ⟨p',et.bind e',r⟩
theorem H2 (O:l7 c N) (h1:1<=N):∃p,Go c N (kas_sort N) p/\eU p N/\kc c p N:=by
 unfold kas_sort
 refine wZ (HZ O (p:=List.toArray (List.range N)) (List.Perm.refl _) h1:) fun m p' e hp l1 l2 am=> ?_
 by_cases q:m < N
 ·refine aj (Bl O (N - max m 1) p' (max m 1) hp (by exact Zb Z9 21 [_,_] [] q) (by rwa [show max m 1=m by exact Zb Z9 22 [_] [] l1]):) fun p2 e2 r=> ?_
  exact ⟨p2,e.bind (by dsimp only;rw [if_pos q];exact e2),r⟩
 ·exact ⟨p',e.bind (by dsimp only;rw [if_neg q];exact rfl),hp,by rwa [<- show m=N by exact Zb Z2 11 [_,_] [] l2 q]⟩
end
theorem Go.wp {α:Type} {c:Nat->Nat->Bool} {N:Nat} {cmp:Nat->Nat->(Bool->Shared->Prop)->Shared->Prop} {s:Shared} (hc:∀i j (C:Bool->Shared->Prop),i < N->j < N->C (c i j) s->cmp i j C s) {Q:α->Shared->Prop} {a:α}:
  ∀{t:KasT α},Go c N t a->Q a s->t.kasWp cmp Q s
 | .ret _,h,q=>by cases h;exact q
 | .ask i j k,h,q=>hc i j _ h.1 h.2.1 (Go.wp (t:=k (c i j)) hc h.2.2 q)
noncomputable def ins {α:Type} (lt:α->α->Bool) (x:α):List α->List α
 | []=>[x]
 | y::r=>if lt x y then x::y::r else y::ins lt x r
noncomputable def gF {α:Type} (lt:α->α->Bool):List α->List α
 | []=>[]
 | x::r=>ins lt x (gF lt r)
theorem Bm {α:Type} {lt:α->α->Bool} {x y:α} {r:List α}:ins lt x (y::r)=if lt x y then x::y::r else y::ins lt x r:=rfl
theorem xo {α:Type} {lt:α->α->Bool} {x:α}:∀l:List α,(ins lt x l).Perm (x::l)
 | []=>List.Perm.refl _
 | y::r=>by
  rw [Bm]
  split
  ·exact List.Perm.refl _
  ·exact ((xo r).cons y).trans (List.Perm.swap x y r)
theorem kf {α:Type} {lt:α->α->Bool}:∀l:List α,(gF lt l).Perm l
 | []=>List.Perm.refl _
 | x::r=>(xo _).trans ((kf r).cons x)
structure ot {α:Type} (lt:α->α->Bool):Prop where
 kg:∀a,lt a a=false
 ll:∀a b,lt a b=false->lt b a=false->a=b
 tr:∀a b c,lt a b=true->lt b c=true->lt a c=true
theorem Bn {α:Type} {lt:α->α->Bool} (T:ot lt) {x:α}:∀{l:List α},l.Pairwise (fun a b=>lt b a=false)->(ins lt x l).Pairwise (fun a b=>lt b a=false)
 | [],_=>List.pairwise_singleton _ _
 | y::r,h=>by
  rw [Bm]
  split
  ·rename_i q
   refine List.pairwise_cons.mpr ⟨fun z hz=> ?_,h⟩
   rcases List.mem_cons.mp hz with e | hz
   ·subst e
    cases e:lt z x with
    | false=>rfl
    | true=>have:=T.tr _ _ _ q e;rw [T.kg] at this;exact eI this
   ·have h1:=(List.pairwise_cons.mp h).1 z hz
    cases e:lt z x with
    | false=>rfl
    | true=>have:=T.tr _ _ _ e q;rw [h1] at this;exact eI this
  ·rename_i q
   refine List.pairwise_cons.mpr ⟨fun z hz=> ?_,Bn T (List.pairwise_cons.mp h).2⟩
   rcases List.mem_cons.mp ((xo r).mem_iff.mp hz) with e | hz
   ·subst e;simpa using q
   ·exact (List.pairwise_cons.mp h).1 z hz
theorem uo {α:Type} {lt:α->α->Bool} (T:ot lt):∀l:List α,(gF lt l).Pairwise (fun a b=>lt b a=false)
 | []=>List.Pairwise.nil
 | x::r=>Bn T (uo T r)
theorem H3 {α:Type} {lt:α->α->Bool} (T:ot lt) (l:List α) (d:α) (hn:l.Nodup) (h1:1<=l.length):
  ∃p,Go (fun i j=>lt (l.getD i d) (l.getD j d)) l.length (kas_sort l.length) p/\eU p l.length/\p.toList.map (fun i=>l.getD i d)=gF lt l:=by
 have O:l7 (fun i j=>lt (l.getD i d) (l.getD j d)) l.length:=by
  refine ⟨fun i j hi hj cU=> ?_,fun i j k _ _ _ a b=>T.tr _ _ _ a b⟩
  have ne:l.getD i d≠l.getD j d:=by
   simp only [List.getD_eq_getElem?_getD,List.getElem?_eq_getElem hi,List.getElem?_eq_getElem hj,Option.getD_some]
   intro q
   exact cU ((List.getElem_inj hn).mp q)
  cases e1:lt (l.getD i d) (l.getD j d) with
  | true=>
   cases e2:lt (l.getD j d) (l.getD i d) with
   | false=>rfl
   | true=>have:=T.tr _ _ _ e1 e2;rw [T.kg] at this;exact eI this
  | false=>
   cases e2:lt (l.getD j d) (l.getD i d) with
   | true=>rfl
   | false=>exact absurd (T.ll _ _ e1 e2) ne
 refine ey (H2 O h1:) fun p e hp ha=> ?_
 refine ⟨p,e,hp, ?_⟩
 have pm:(p.toList.map fun i=>l.getD i d).Perm (gF lt l):=by
  refine (hp.map _).trans ?_
  have:(List.range l.length).map (fun i=>l.getD i d)=l:=by
   refine List.ext_getElem (by simp) fun i h1 h2=> ?_
   simp [List.getD_eq_getElem?_getD,List.getElem?_eq_getElem h2]
  rw [this]
  exact (kf l).symm
 refine List.Perm.eq_of_pairwise (le:=fun a b=>lt b a=false) (fun a b _ _ h1 h2=>T.ll a b h2 h1) ?_ (uo T l) pm
 rw [List.pairwise_iff_getElem]
 intro i j hi hj cU
 have lq:i < l.length:=by simpa [hp.size] using hi
 have uq:j < l.length:=by simpa [hp.size] using hj
 have:=ha i j cU uq
 have e1:p.getD i 0=p.toList[i]'(by simpa [hp.size] using lq):=by simp [Array.getD,hp.size,lq]
 have e2:p.getD j 0=p.toList[j]'(by simpa [hp.size] using uq):=by simp [Array.getD,hp.size,uq]
 rw [e1,e2] at this
 simp only [List.getElem_map]
 cases q:lt (l.getD (p.toList[j]'(by simpa [hp.size] using uq)) d) (l.getD (p.toList[i]'(by simpa [hp.size] using lq)) d) with
 | false=>rfl
 | true=>have:=T.tr _ _ _ q this;rw [T.kg] at this;exact eI this
end cb
end
namespace cb
open PySem PySem.W PyProof.Rows
section
set_option backward.match.sparseCases true
open PySem PySem.W PyProof.Rows
noncomputable def H4 (M:Model) (Γ:PySem.Ctx) (p:Pos) (t:Sem Fin) (s:Shared) (e:End) (s':Shared):Prop:=match t with
 | .pure f=>(match f with | .done f=>e= .ret (.ok f)/\s'=s | .again c=>Runs M (Γ.goto c) p (M.den c) [] s e s')
 | .raise x=>e= .ret (.error x)/\s'=s
 | .rule _ k=>Runs M Γ p (k ()) [] s e s'
 | .at p' k=>Runs M Γ p' (k ()) [] s e s'
 | .load a _ k=>∃o,s.heap.get? a=some o/\Runs M Γ p (k o) [] s e s'
 | .update a _ f k=>Runs M Γ p (k ()) [] {s with heap:=s.heap.update a f} e s'
 | .loadIfAlive a k=>Runs M Γ p (k (s.heap.get? a)) [] s e s'
 | .point _ k=>Runs M Γ p (k ()) [] s e s'
 | .alloc o k=>Runs M Γ p (k s.heap.objs.size) [] {s with heap:=s.heap.push o} e s'
 | .fresh k=>Runs M Γ p (k s.toks) [] {s with toks:=s.toks+1} e s'
 | .ask k=>Runs M Γ p (k ⟨M.prog,M.w.params⟩) [] s e s'
 | .choose src n k=>Runs M Γ p (k (M.w.draws src (s.drawn.get src) % n)) [] {s with drawn:=s.drawn.bump src} e s'
 | .os q _ k=>Runs M Γ p (k (Os.step s.os q).2) [] {s with os:=(Os.step s.os q).1} e s'
 | .handled own k=>Runs M Γ p (k (if own then Γ.own else Γ.handled)) [] s e s'
 | .genState g k=>∃st,s.gens[g]? =some st/\Runs M Γ p (k st.seen) [] s e s'
 | .stack k=>Runs M Γ p (k ((Γ.code,p)::Γ.below)) [] s e s'
 | .thread k=>Runs M Γ p (k 0) [] s e s'
 | .newGen c k=>Runs M Γ p (k s.gens.size) [] {s with gens:=s.gens.push (.fresh c)} e s'
 | .call c h g l k=>∃eV ab,Runs M (Γ.enter c h p) p (M.den c) [] s eV ab/\(match eV with
   | .ret r=>Runs M Γ p (k r) [] ab e s'
   | .susp v jI ur ou c₀ oA fs=>e= .susp v jI ur ou c₀ oA (fs++[.ret k h g l Γ.code p []])/\s'=ab)
 | .yield v g l k=>e= .susp v g l k Γ.code p []/\s'=s
 | .resume g r _ k=>∃x ab,Wakes M Γ p g r s x ab/\Runs M Γ p (k x) [] ab e s'
 | _=>False
noncomputable def H5 (M:Model) (Γ:PySem.Ctx) (p:Pos) (t:Sem Fin) (F:Frame) (fs:List Frame) (s:Shared) (e:End) (s':Shared):Prop:=
 ∃eV ab,Runs M (Γ.over (F::fs)) p t [] s eV ab/\(match eV with
  | .ret r=>(match F with
   | .ret k _ _ _ c₁ oB _=>Runs M (Γ.goto c₁) oB (k r) fs ab e s'
   | .gen g k _ c₁ oB=>Runs M (Γ.goto c₁) oB (k (End.ret r).result) fs (ab.setGen g .finished) e s')
  | .susp v jI ur ou c₀ oA Bo=>(match splitAtGen (F::fs) with
   | none=>e= .susp v jI ur ou c₀ oA (Bo++F::fs)/\s'=ab
   | some (pre,(g,k,c₁,oB),rest)=>Runs M (Γ.goto c₁) oB (k (.yielded v)) rest (ab.setGen g (End.susp v jI ur ou c₀ oA (Bo++pre)).genState) e s'))
noncomputable def Inv (M:Model) (Γ:PySem.Ctx) (p:Pos) (t:Sem Fin) (fs:List Frame) (s:Shared) (e:End) (s':Shared):Prop:=match fs with
 | []=>H4 M Γ p t s e s'
 | F::fs=>H5 M Γ p t F fs s e s'
noncomputable def xq (M:Model) (Γ:PySem.Ctx) (p:Pos) (g:Nat) (r:Resume) (s:Shared) (x:GenResult) (ab:Shared) (G:Option GenState):Prop:=match G with
 | none=>False
 | some (.fresh c)=>
  match r with
  | .send .none=>∃eV aq,Runs M (Γ.wake c p) p (M.den c) [] (s.setGen g .running) eV aq/\eV.quiet=true/\x=eV.result/\ab=aq.setGen g eV.genState
  | .send _=>x= .justStarted/\ab=s
  | .throw y=>x= .raised y/\ab=s.setGen g .finished
 | some (.suspended ou _ c₀ oA fs _)=>
  ∃eV aq,Runs M (Γ.wake c₀ p) oA (ou r) fs (s.setGen g .running) eV aq/\eV.quiet=true/\x=eV.result/\ab=aq.setGen g eV.genState
 | some .running=>x= .running/\ab=s
 | some .finished=>x= .finished/\ab=s
section
variable {M:Model} {Γ:PySem.Ctx} {p:Pos} {g:Nat} {r:Resume} {s ab:Shared} {x:GenResult} {G:Option GenState}
theorem wk (e:s.gens[g]? =G) (h:xq M Γ p g r s x ab G):Wakes M Γ p g r s x ab:=by subst e;exact h
theorem m8 (e:s.gens[g]? =G) (h:Wakes M Γ p g r s x ab):xq M Γ p g r s x ab G:=by subst e;exact h
theorem Bp {v:Value} {c:Code} (e:s.gens[g]? =some (.fresh c)) (n:v≠ .none):Wakes M Γ p g (.send v) s x ab↔x= .justStarted/\ab=s:=by
 have:xq M Γ p g (.send v) s x ab (some (.fresh c))↔x= .justStarted/\ab=s:=by
  cases v<;>first | exact absurd rfl n | exact Iff.rfl
 exact ⟨fun h=>this.mp (m8 e h),fun h=>wk e (this.mpr h)⟩
end
theorem ft {M:Model} {Γ:PySem.Ctx} {p:Pos} {t:Sem Fin} {fs:List Frame} {s:Shared} {e:End} {s':Shared} (h:Runs M Γ p t fs s e s'):Inv M Γ p t fs s e s':=by
 induction h with
 | done=>exact ⟨rfl,rfl⟩
 | raise=>exact ⟨rfl,rfl⟩
 | again _ h=>exact h
 | load a h=>exact ⟨_,a,h⟩
 | update _ h=>exact h
 | choose _ h=>exact h
 | genState a h=>exact ⟨_,a,h⟩
 | call a b=>exact ⟨_,_,a,b⟩
 | callSusp a=>exact ⟨_,_,a,rfl,rfl⟩
 | yield=>exact ⟨rfl,rfl⟩
 | resumeFresh g a q b=>exact ⟨_,_,wk g ⟨_,_,a,q,rfl,rfl⟩,b⟩
 | resumeSuspended g a q b=>exact ⟨_,_,wk g ⟨_,_,a,q,rfl,rfl⟩,b⟩
 | resumeJustStarted g n b=>exact ⟨_,_,(Bp g n).mpr ⟨rfl,rfl⟩,b⟩
 | resumeThrowFresh g b=>exact ⟨_,_,wk g ⟨rfl,rfl⟩,b⟩
 | resumeRunning g b=>exact ⟨_,_,wk g ⟨rfl,rfl⟩,b⟩
 | resumeFinished g b=>exact ⟨_,_,wk g ⟨rfl,rfl⟩,b⟩
 | segRet a b=>exact ⟨_,_,a,b⟩
 | segGen a b=>exact ⟨_,_,a,b⟩
 | segSuspOut q a=>exact ⟨_,_,a,by dsimp only;rw [q];exact ⟨rfl,rfl⟩⟩
 | segSuspGen q a _ b=>exact ⟨_,_,a,by dsimp only;rw [q];exact b⟩
 | _=>assumption
set_option tactic.hygienic true in
theorem Bq {M:Model} {Γ:PySem.Ctx} {p:Pos} {t:Sem Fin} {fs:List Frame} {s:Shared} {eV:End} {ab:Shared} (bf:Runs M Γ p t fs s eV ab):∀{Br:End} {aq:Shared},Runs M Γ p t fs s Br aq->eV=Br/\ab=aq:=by
 induction bf with
 | done=>intro _ _ h;have h:=ft h;exact ⟨h.1.symm,h.2.symm⟩
 | raise=>intro _ _ h;have h:=ft h;exact ⟨h.1.symm,h.2.symm⟩
 | again _ _ ih=>intro _ _ h;exact ih (ft h)
 | load e _ ih=>intro _ _ h;refine aj (ft h:) fun o e' h=> ?_;rw [e] at e';injection e' with e';subst e';exact ih h
 | update _ _ ih=>intro _ _ h;exact ih (ft h)
 | choose _ _ ih=>intro _ _ h;exact ih (ft h)
 | genState e _ ih=>intro _ _ h;refine aj (ft h:) fun o e' h=> ?_;rw [e] at e';injection e' with e';subst e';exact ih h
 | call _ _ iv kh=>
  intro _ _ h
  refine dq (ft h:) fun e s a b=> ?_
  refine xA (iv a:) fun x y=> ?_
  subst x y;exact kh b
 | callSusp _ iv=>
  intro _ _ h
  refine dq (ft h:) fun e s a b=> ?_
  refine xA (iv a:) fun x y=> ?_
  subst x y;exact ⟨b.1.symm,b.2.symm⟩
 | yield=>intro _ _ h;have h:=ft h;exact ⟨h.1.symm,h.2.symm⟩
 | resumeFresh g _ _ _ iv kh=>
  intro _ _ h
  refine dq (ft h:) fun x s w b=> ?_
  (refine ew (m8 g w:) fun e t a _ ay aF=> ?_;subst ay;subst aF)
  refine xA (iv a:) fun x y=> ?_
  subst x y;exact kh b
 | resumeSuspended g _ _ _ iv kh=>
  intro _ _ h
  refine dq (ft h:) fun x s w b=> ?_
  (refine ew (m8 g w:) fun e t a _ aP bI=> ?_;subst aP;subst bI)
  refine xA (iv a:) fun x y=> ?_
  subst x y;exact kh b
 | resumeJustStarted g n _ ih=>
  intro _ _ h
  refine dq (ft h:) fun x s w b=> ?_
  (refine xA ((Bp g n).mp w:) fun bK bO=> ?_;subst bK;subst bO)
  exact ih b
 | resumeThrowFresh g _ ih=>
  intro _ _ h
  refine dq (ft h:) fun x s w b=> ?_
  (refine xA (m8 g w:) fun cF c9=> ?_;subst cF;subst c9)
  exact ih b
 | resumeRunning g _ ih=>
  intro _ _ h
  refine dq (ft h:) fun x s w b=> ?_
  (refine xA (m8 g w:) fun dy dz=> ?_;subst dy;subst dz)
  exact ih b
 | resumeFinished g _ ih=>
  intro _ _ h
  refine dq (ft h:) fun x s w b=> ?_
  (refine xA (m8 g w:) fun fu fw=> ?_;subst fu;subst fw)
  exact ih b
 | segRet _ _ iv kh=>
  intro _ _ h
  refine dq (ft h:) fun e s a b=> ?_
  refine xA (iv a:) fun x y=> ?_
  subst x y;exact kh b
 | segGen _ _ iv kh=>
  intro _ _ h
  refine dq (ft h:) fun e s a b=> ?_
  refine xA (iv a:) fun x y=> ?_
  subst x y;exact kh b
 | segSuspOut q _ iv=>
  intro _ _ h
  refine dq (ft h:) fun e s a b=> ?_
  refine xA (iv a:) fun x y=> ?_
  subst x y
  dsimp only at b
  rw [q] at b
  exact ⟨b.1.symm,b.2.symm⟩
 | segSuspGen q _ _ _ iv kh=>
  intro _ _ h
  refine dq (ft h:) fun e s a b=> ?_
  refine xA (iv a:) fun x y=> ?_
  subst x y
  dsimp only at b
  rw [q] at b
  exact kh b
 | _=>rename_i ih;intro _ _ h;exact ih (ft h)
theorem H6 {M:Model} {Γ:PySem.Ctx} {p:Pos} {g:Nat} {r:Resume} {s ab aq:Shared} {x y:GenResult} (bf:Wakes M Γ p g r s x ab) (bH:Wakes M Γ p g r s y aq):x=y/\ab=aq:=by
 have bf:=m8 (G:=s.gens[g]?) rfl bf
 have bH:=m8 (G:=s.gens[g]?) rfl bH
 generalize s.gens[g]? =G at bf bH
 have key:∀{xr p' t fs},(∃e s',Runs M xr p' t fs (s.setGen g .running) e s'/\e.quiet=true/\x=e.result/\ab=s'.setGen g e.genState)->(∃e s',Runs M xr p' t fs (s.setGen g .running) e s'/\e.quiet=true/\y=e.result/\aq=s'.setGen g e.genState)->x=y/\ab=aq:=fun {xr p' t fs} a b=>by
  (refine ew a ?_;clear a;intro e t a _ fx gG;subst fx;subst gG)
  (refine ew b ?_;clear b;intro e' t' a' _ ki oC;subst ki;subst oC)
  refine xA (Bq a a':) fun q q'=> ?_
  subst q q';exact ⟨rfl,rfl⟩
 have two:∀{z:GenResult} {s':Shared},(x=z/\ab=s')->(y=z/\aq=s')->x=y/\ab=aq:=fun a b=>⟨a.1.trans b.1.symm,a.2.trans b.2.symm⟩
 match G,r,bf,bH with
 | none,_,bf,_=>exact bf.elim
 | some (.fresh c), .send v,bf,bH=>cases v<;>first | exact key bf bH | exact two bf bH
 | some (.fresh c), .throw z,bf,bH=>exact two bf bH
 | some (.suspended ou l c₀ oA fs cl),_,bf,bH=>exact key bf bH
 | some .running,_,bf,bH=>exact two bf bH
 | some .finished,_,bf,bH=>exact two bf bH
theorem H7 {α:Type} (M:Model) (Γ:PySem.Ctx) (t:Sem α):∀(Q Q':α->Pos->Shared->Prop) (E E':Value->Pos->Shared->Prop) (p:Pos) (s:Shared),Sem.wp M Γ t Q E p s->Sem.wp M Γ t Q' E' p s->
  Sem.wp M Γ t (fun a p s=>Q a p s/\Q' a p s) (fun e p s=>E e p s/\E' e p s) p s:=by
 induction t with
 | pure a=>intro Q Q' E E' p s h h';exact ⟨h,h'⟩
 | raise e=>intro Q Q' E E' p s h h';exact ⟨h,h'⟩
 | unsupported _=>intro Q Q' E E' p s h h';exact h
 | finish _=>intro Q Q' E E' p s h h';exact h
 | rule _ k ih=>intro Q Q' E E' p s h h';exact ih () _ _ _ _ _ _ h h'
 | «at» p' k ih=>intro Q Q' E E' p s h h';exact ih () _ _ _ _ _ _ h h'
 | load a _ k ih=>intro Q Q' E E' p s h h';(refine aj h ?_;clear h;intro o ho h);(refine aj h' ?_;clear h';intro o' kl h');rw [ho] at kl;cases kl;exact ⟨o,ho,ih o _ _ _ _ _ _ h h'⟩
 | update a _ f k ih=>intro Q Q' E E' p s h h';exact ⟨h.1,ih () _ _ _ _ _ _ h.2 h'.2⟩
 | loadIfAlive a k ih=>intro Q Q' E E' p s h h';exact ih _ _ _ _ _ _ _ h h'
 | point _ k ih=>intro Q Q' E E' p s h h';exact ih () _ _ _ _ _ _ h h'
 | register _ _=>intro Q Q' E E' p s h h';exact h
 | alloc o k ih=>intro Q Q' E E' p s h h';exact ih _ _ _ _ _ _ _ h h'
 | fresh k ih=>intro Q Q' E E' p s h h';exact ih _ _ _ _ _ _ _ h h'
 | ask k ih=>intro Q Q' E E' p s h h';exact ih _ _ _ _ _ _ _ h h'
 | choose src m k ih=>intro Q Q' E E' p s h h';exact ⟨h.1,ih _ _ _ _ _ _ _ h.2 h'.2⟩
 | os q _ k ih=>intro Q Q' E E' p s h h';exact ih _ _ _ _ _ _ _ h h'
 | call c hd _ _ k ih=>intro Q Q' E E' p s h h';(refine dq h ?_;clear h;intro r s' hr h);(refine dq h' ?_;clear h';intro r2 s2 xt h');refine xA (Bq hr xt:) fun q q'=> ?_;cases q;subst q';exact ⟨r,s',hr,ih r _ _ _ _ _ _ h h'⟩
 | handled own k ih=>intro Q Q' E E' p s h h';exact ih _ _ _ _ _ _ _ h h'
 | genState g k ih=>intro Q Q' E E' p s h h';(refine aj h ?_;clear h;intro o ho h);(refine aj h' ?_;clear h';intro o' kl h');rw [ho] at kl;cases kl;exact ⟨o,ho,ih _ _ _ _ _ _ _ h h'⟩
 | newGen c k ih=>intro Q Q' E E' p s h h';exact ih _ _ _ _ _ _ _ h h'
 | resume g r _ k ih=>intro Q Q' E E' p s h h';(refine dq h ?_;clear h;intro res s' hw h);(refine dq h' ?_;clear h';intro r2 s2 rz h');refine xA (H6 hw rz:) fun q q'=> ?_;subst q q';exact ⟨res,s',hw,ih res _ _ _ _ _ _ h h'⟩
 | yield _ _ _ _=>intro Q Q' E E' p s h h';exact h
 | stack k ih=>intro Q Q' E E' p s h h';exact ih _ _ _ _ _ _ _ h h'
 | fork _ _=>intro Q Q' E E' p s h h';exact h
 | thread k ih=>intro Q Q' E E' p s h h';exact ih _ _ _ _ _ _ _ h h'
 | await _ _ _ _ _=>intro Q Q' E E' p s h h';exact h
theorem Bt {α:Type} {M:Model} {A:Around} {t:Sem α} {Q Q':α->Shared->Prop} {E E':Value->Shared->Prop} {s:Shared} (h:wpAny M A t Q E s) (h':wpAny M A t Q' E' s):wpAny M A t (fun a s=>Q a s/\Q' a s) (fun e s=>E e s/\E' e s) s:=
 fun Γ p Bu=>H7 M Γ t _ _ _ _ p s (h Γ p Bu) (h' Γ p Bu)
end
end cb
namespace cb
open PySem PySem.W PySem.Calls PyProof.Rows PySem.Spec
noncomputable def az:List Addr:=[254,249,2]
noncomputable def KI (P:Params):Frag:=(cb.hd.heap_1 P).tail
noncomputable def aA (h h':Heap):Prop:=∀b o,b∉az->h.get? b=some o->h'.get? b=some o
theorem aA.refl (h:Heap):aA h h:=fun _ _ _ e=>e
theorem aA.trans {bf bH uu:Heap} (x:aA bf bH) (y:aA bH uu):aA bf uu:=fun b o n e=>y b o n (x b o n e)
theorem aA.of {h h':Heap} (x:∀b o,h.get? b=some o->h'.get? b=some o):aA h h':=fun b o _ e=>x b o e
noncomputable def ba (X:List Addr) (h:Heap):Heap:=hideAll h (az++X)
theorem gc {X:List Addr} {h:Heap} {b:Addr} {o:Obj} (e:h.get? b=some o) (n:b∉az) (m:b∉X):(ba X h).get? b=some o:=
 hideAll_get _ e fun q=>(List.mem_append.mp q).elim n m
theorem dI {X:List Addr} {h:Heap} {b:Addr} {o:Obj} (e:(ba X h).get? b=some o):h.get? b=some o/\b∉az/\b∉X:=by
 refine ⟨of_hideAll _ e,fun q=> ?_,fun q=> ?_⟩
 ·have:=hideAll_none (h:=h) (az++X) (List.mem_append_left X q)
  unfold ba at e;rw [this] at e;exact no e
 ·have:=hideAll_none (h:=h) (az++X) (List.mem_append_right az q)
  unfold ba at e;rw [this] at e;exact no e
theorem jJ {X:List Addr} {h h':Heap} (g:aA h h'):∀b o,(ba X h).get? b=some o->(ba X h').get? b=some o:=fun b o e=>by
 refine bG (dI e:) fun e1 n m=> ?_
 exact gc (g b o n e1) n m
theorem pP {X Y:List Addr} {h:Heap} (s:∀a∈X,a∈Y):∀b o,(ba Y h).get? b=some o->(ba X h).get? b=some o:=fun b o e=>by
 refine bG (dI e:) fun e1 n m=> ?_
 exact gc e1 n fun q=>m (s b q)
theorem iw {X:List Addr} {h h':Heap} (g:∀b o,b∉az->b∉X->h.get? b=some o->h'.get? b=some o):∀b o,(ba X h).get? b=some o->(ba X h').get? b=some o:=fun b o e=>by
 refine bG (dI e:) fun e1 n m=> ?_
 exact gc (g b o n m e1) n m
noncomputable def fy (X:List Addr) (h:Heap) (P:Addr) (q:Str):Prop:=
 ∃ps:Array Value,h.get? P=some (tabObj ps)/\TriplesOk ps.toList/\∀pos cv,codeAmong pos ps.toList=some cv->∃c',cv= .ref c'/\(ba X h).CodeRec (.ref c') q
noncomputable def rA:Str:="_law_ranks.<locals>.<lambda>"
noncomputable def rB:Str:="_law_stop.<locals>.<lambda>"
noncomputable def o2 (P:Params):Obj:=match cb.hd.heap_1 P with | (_,o)::_=>o | []=>tabObj #[]
theorem H8 (P:Params) {h:Heap} (e:h.get? 2=some (o2 P)):h.NoLimit:=by
 refine ⟨_,⟨_,_,_,e,rfl,fun en rC=> ?_,fun _=>rfl⟩, ?_⟩
 ·rw [<- Array.mem_toList_iff] at rC
  simp only [List.mem_cons,List.not_mem_nil,or_false] at rC
  rcases rC with q | q | q | q | q | q | q | q | q<;>subst q<;>exact ⟨_,_,rfl⟩
 ·rfl
structure Ctx (P:Params) (mg mb:Str->Option Value) (X:List Addr) (h:Heap):Prop where
 dX:(KI P).In (ba X h)
 g:(ba X h).Ns mainGlobals mg
 b:(ba X h).Ns builtinsNs mb
 bi:∀x:Str,x≠"__name__"->mb x=bootBuiltins x
 bm:∃bm ob,mg "__builtins__"=some (.ref bm)/\bm≠builtinsNs/\bm≠mainGlobals/\(ba X h).get? bm=some ob/\ob.cls= .type "module"/\ob.dict=some builtinsNs/\ob.data= .plain
 t1:fy X h 249 rA
 t2:fy X h 254 rB
 l2:h.get? 2=some (o2 P)
theorem Ctx.nl {P:Params} {mg mb:Str->Option Value} {X:List Addr} {h:Heap} (C:Ctx P mg mb X h):h.NoLimit:=H8 P C.l2
theorem fy.keeps {X Y:List Addr} {h h':Heap} {P:Addr} {q:Str} (x:fy X h P q) (k:∀b o,(ba X h).get? b=some o->(ba Y h').get? b=some o) (e:∀o,h.get? P=some o->h'.get? P=some o):fy Y h' P q:=by
 (refine ey x ?_;clear x;intro ps h1 h2 h3)
 exact ⟨ps,e _ h1,h2,fun pos cv e=>by refine aj (h3 pos cv e:) fun c' e1 r=> ?_;exact ⟨c',e1,r.keeps k⟩⟩
theorem Ctx.step {P:Params} {mg mb:Str->Option Value} {X Y:List Addr} {h h':Heap} (C:Ctx P mg mb X h) (k:∀b o,(ba X h).get? b=some o->(ba Y h').get? b=some o) (t1:fy Y h' 249 rA) (t2:fy Y h' 254 rB) (l2:h'.get? 2=some (o2 P)):Ctx P mg mb Y h':=by
 refine wZ C.bm fun bm ob b1 b2 b3 b5 b6=> ?_
 exact ⟨C.dX.keeps k,C.g.keeps k,C.b.keeps k,C.bi,⟨bm,ob,b1,b2,b3,k _ _ b5,b6⟩,t1,t2,l2⟩
theorem Ctx.but {P:Params} {mg mb:Str->Option Value} {X Y:List Addr} {h h':Heap} (C:Ctx P mg mb X h) (k:∀b o,(ba X h).get? b=some o->(ba Y h').get? b=some o) (t:∀b o,b∈az->h.get? b=some o->h'.get? b=some o):Ctx P mg mb Y h':=
 C.step k (C.t1.keeps k fun o e=>t _ o (by decide) e) (C.t2.keeps k fun o e=>t _ o (by decide) e) (t _ _ (by decide) C.l2)
theorem Ctx.keeps {P:Params} {mg mb:Str->Option Value} {X:List Addr} {h h':Heap} (C:Ctx P mg mb X h) (k:∀b o,h.get? b=some o->h'.get? b=some o):Ctx P mg mb X h':=
 C.but (jJ (aA.of k)) fun b o _ e=>k b o e
theorem Ctx.less {P:Params} {mg mb:Str->Option Value} {X Y:List Addr} {h:Heap} (C:Ctx P mg mb Y h) (s:∀a∈X,a∈Y):Ctx P mg mb X h:=
 C.but (pP s) fun _ _ _ e=>e
section
variable (P:Params) (mg mb:Str->Option Value) (X:List Addr)
noncomputable def Kp (s s':Shared):Prop:=∃h' tk,s'={s with heap:=h',toks:=tk}/\aA s.heap h'/\Ctx P mg mb X h'
end
section
variable {P:Params} {mg mb:Str->Option Value} {X Y:List Addr} {s ab aq aS:Shared}
theorem Kp.refl (C:Ctx P mg mb X s.heap):Kp P mg mb X s s:=⟨s.heap,s.toks,rfl,aA.refl _,C⟩
theorem Kp.trans (x:Kp P mg mb X ab aq) (y:Kp P mg mb X aq aS):Kp P mg mb X ab aS:=by
 (refine aU x ?_;clear x;intro h1 t1 ay g1 _;subst ay)
 (refine aU y ?_;clear y;intro h2 t2 aF g2 c2;subst aF)
 exact ⟨h2,t2,rfl,g1.trans g2,c2⟩
theorem Kp.grow (x:Kp P mg mb X ab aq):aA ab.heap aq.heap:=by
 (refine aU x ?_;clear x;intro h1 t1 aP g1 _;subst aP);exact g1
theorem Kp.ctx (x:Kp P mg mb X ab aq):Ctx P mg mb X aq.heap:=by
 (refine aU x ?_;clear x;intro h1 t1 bI _ c;subst bI);exact c
theorem Kp.less (x:Kp P mg mb Y ab aq) (s:∀a∈X,a∈Y):Kp P mg mb X ab aq:=by
 (refine aU x ?_;clear x;intro h1 t1 bK g1 c;subst bK)
 exact ⟨h1,t1,rfl,g1,c.less s⟩
theorem Kp.of (C:Ctx P mg mb X s.heap) {h':Heap} {tk:Tok} (k:∀b o,s.heap.get? b=some o->h'.get? b=some o):Kp P mg mb X s {s with heap:=h',toks:=tk}:=
 ⟨h',tk,rfl,aA.of k,C.keeps k⟩
theorem Kp.toks (C:Ctx P mg mb X s.heap) {tk:Tok}:Kp P mg mb X s {s with toks:=tk}:=⟨s.heap,tk,rfl,aA.refl _,C⟩
theorem Kp.push (C:Ctx P mg mb X s.heap) (o:Obj) {tk:Tok}:Kp P mg mb X s {s with heap:=s.heap.push o,toks:=tk}:=Kp.of C fun _ _ e=>Heap.get?_push_of_some _ e
end
noncomputable def DL (h:Heap) (as:List Addr):Prop:=∀a∈as,∃o,h.get? a=some o/\o.cls= .type "list"/\o.dict=none/\o.slots= #[]
theorem DL.nil {h:Heap}:DL h []:=fun _ m=>nomatch m
theorem DL.keeps {h h':Heap} {as:List Addr} (x:DL h as) (k:∀b o,h.get? b=some o->h'.get? b=some o):DL h' as:=fun a m=>let ⟨o,e,q⟩:=x a m;⟨o,k _ _ e,q⟩
theorem DL.append {h:Heap} {as bs:List Addr} (x:DL h as) (y:DL h bs):DL h (as++bs):=fun a m=>(List.mem_append.mp m).elim (x a) (y a)
theorem DL.left {h:Heap} {as bs:List Addr} (x:DL h (as++bs)):DL h as:=fun a m=>x a (List.mem_append_left _ m)
theorem DL.right {h:Heap} {as bs:List Addr} (x:DL h (as++bs)):DL h bs:=fun a m=>x a (List.mem_append_right _ m)
theorem DL.cons {h:Heap} {a:Addr} {as:List Addr} {o:Obj} (e:h.get? a=some o) (qc:o.cls= .type "list") (q:o.dict=none) (q':o.slots= #[]) (x:DL h as):DL h (a::as):=fun b m=>by
 rcases List.mem_cons.mp m with rfl | m
 ·exact ⟨o,e,qc,q,q'⟩
 ·exact x b m
noncomputable def Rep (X:List Addr) (h:Heap) (v:Value) (d:PyData):Prop:=∃as,Reads (ba X h) v d as/\DL (ba X h) as
noncomputable def ax (X:List Addr) (h:Heap) (vs:List Value) (ds:List PyData):Prop:=∃as,ReadsAll (ba X h) vs ds as/\DL (ba X h) as
section
variable {X Y:List Addr} {h h':Heap} {v:Value} {d:PyData} {vs:List Value} {ds:List PyData}
theorem Rep.keeps (r:Rep X h v d) (k:∀b o,(ba X h).get? b=some o->(ba Y h').get? b=some o):Rep Y h' v d:=let ⟨as,r,l⟩:=r;⟨as,Reads.keeps k r,l.keeps k⟩
theorem ax.keeps (r:ax X h vs ds) (k:∀b o,(ba X h).get? b=some o->(ba Y h').get? b=some o):ax Y h' vs ds:=let ⟨as,r,l⟩:=r;⟨as,ReadsAll.keeps k r,l.keeps k⟩
theorem Rep.grow (r:Rep X h v d) (g:aA h h'):Rep X h' v d:=r.keeps (jJ g)
theorem ax.grow (r:ax X h vs ds) (g:aA h h'):ax X h' vs ds:=r.keeps (jJ g)
theorem Rep.more (r:Rep Y h v d) (s:∀a∈X,a∈Y):Rep X h v d:=r.keeps (pP s)
theorem ax.more (r:ax Y h vs ds) (s:∀a∈X,a∈Y):ax X h vs ds:=r.keeps (pP s)
theorem Rep.reads (r:Rep X h v d):∃as,Reads h v d as:=let ⟨as,r,_⟩:=r;⟨as,Reads.keeps (fun _ _ e=>(dI e).1) r⟩
theorem ax.reads (r:ax X h vs ds):∃as,ReadsAll h vs ds as:=let ⟨as,r,_⟩:=r;⟨as,ReadsAll.keeps (fun _ _ e=>(dI e).1) r⟩
theorem Rep.int (i:Int) (t:Tok):Rep X h (.int i t) (.int i):=⟨[], .int i t, .nil⟩
theorem Rep.bool (b:Bool):Rep X h (.bool b) (.bool b):=⟨[], .bool b, .nil⟩
theorem Rep.none:Rep X h .none .none:=⟨[], .none, .nil⟩
theorem Rep.str (x:Str) (t:Tok):Rep X h (.str x t) (.str x):=⟨[], .str x t, .nil⟩
theorem ax.nil:ax X h [] []:=⟨[], .nil, .nil⟩
theorem ax.cons (r:Rep X h v d) (rs:ax X h vs ds):ax X h (v::vs) (d::ds):=let ⟨_,r,l⟩:=r;let ⟨_,rs,m⟩:=rs;⟨_, .cons r rs,l.append m⟩
theorem Rep.int_inv {i:Int} (r:Rep X h v (.int i)):∃t,v= .int i t:=by
 (refine aj r ?_;clear r;intro as r _);cases r;exact ⟨_,rfl⟩
theorem Rep.bool_inv {b:Bool} (r:Rep X h v (.bool b)):v= .bool b:=by
 (refine aj r ?_;clear r;intro as r _);cases r;rfl
theorem Rep.none_inv (r:Rep X h v .none):v= .none:=by
 (refine aj r ?_;clear r;intro as r _);cases r;rfl
theorem Rep.str_inv {x:Str} (r:Rep X h v (.str x)):∃t,v= .str x t:=by
 (refine aj r ?_;clear r;intro as r _);cases r;exact ⟨_,rfl⟩
theorem Rep.dY {ds:List PyData} (r:Rep X h v (.list ds)):∃a o vs n,v= .ref a/\a∉az/\a∉X/\h.get? a=some o/\o.cls= .type "list"/\o.data= .seq vs n/\ax X h vs.toList ds:=by
 (refine aj r ?_;clear r;intro as r l)
 cases r with
 | list h1 h2 h3 h4=>refine bG (dI h1:) fun e n m=> ?_;exact ⟨_,_,_,_,rfl,n,m,e,h2,h3,_,h4,fun a m=>l a (.tail _ m)⟩
theorem Rep.list_dict {ds:List PyData} {a:Addr} {o:Obj} (r:Rep X h (.ref a) (.list ds)) (e:h.get? a=some o):o.dict=Option.none/\o.slots= #[]:=by
 (refine aj r ?_;clear r;intro as r l)
 cases r with
 | list h1 h2 h3 h4=>
  refine ey (l a (.head _):) fun o' e' _ q=> ?_
  have:=(dI e').1
  rw [e] at this;cases this;exact q
theorem Rep.oD {ds:List PyData} (r:Rep X h v (.tuple ds)):∃a o vs n,v= .ref a/\a∉az/\a∉X/\h.get? a=some o/\o.cls= .type "tuple"/\o.data= .seq vs n/\ax X h vs.toList ds:=by
 (refine aj r ?_;clear r;intro as r l)
 cases r with
 | tuple h1 h2 h3 h4=>refine bG (dI h1:) fun e n m=> ?_;exact ⟨_,_,_,_,rfl,n,m,e,h2,h3,_,h4,l⟩
theorem Rep.list {a:Addr} {o:Obj} {vs:Array Value} {n:Nat} (h1:h.get? a=some o) (h2:o.cls= .type "list") (h3:o.data= .seq vs n) (hd:o.dict=Option.none) (hs:o.slots= #[]) (t:a∉az) (m:a∉X) (r:ax X h vs.toList ds):Rep X h (.ref a) (.list ds):=
 let ⟨_,r,l⟩:=r;⟨_, .list (gc h1 t m) h2 h3 r,l.cons (gc h1 t m) h2 hd hs⟩
theorem Rep.tuple {a:Addr} {o:Obj} {vs:Array Value} {n:Nat} (h1:h.get? a=some o) (h2:o.cls= .type "tuple") (h3:o.data= .seq vs n) (t:a∉az) (m:a∉X) (r:ax X h vs.toList ds):Rep X h (.ref a) (.tuple ds):=
 let ⟨_,r,l⟩:=r;⟨_, .tuple (gc h1 t m) h2 h3 r,l⟩
theorem ax.cons_inv {d:PyData} {ds:List PyData} (r:ax X h vs (d::ds)):∃v ws,vs=v::ws/\Rep X h v d/\ax X h ws ds:=by
 (refine aj r ?_;clear r;intro as r l)
 cases r with
 | cons a b=>exact ⟨_,_,rfl,⟨_,a,l.left⟩,⟨_,b,l.right⟩⟩
theorem ax.nil_inv (r:ax X h vs []):vs=[]:=by
 (refine aj r ?_;clear r;intro as r _);cases r;rfl
theorem ax.length (r:ax X h vs ds):vs.length=ds.length:=by
 induction ds generalizing vs with
 | nil=>rw [r.nil_inv];rfl
 | cons d ds ih=>(refine aU r.cons_inv fun v ws cF _ b=> ?_;subst cF);simp [ih b]
theorem ax.append {ws:List Value} {es:List PyData} (r:ax X h vs ds) (q:ax X h ws es):ax X h (vs++ws) (ds++es):=by
 induction ds generalizing vs with
 | nil=>rw [r.nil_inv];exact q
 | cons d ds ih=>(refine aU r.cons_inv fun v us c9 a b=> ?_;subst c9);exact .cons a (ih b)
theorem ax.get {i:Nat} {d:PyData} (r:ax X h vs ds) (hd:ds[i]? =some d):∃v,vs[i]? =some v/\Rep X h v d:=by
 induction ds generalizing vs i with
 | nil=>simp at hd
 | cons e ds ih=>
  (refine aU r.cons_inv fun v us dy a b=> ?_;subst dy)
  cases i with
  | zero=>simp at hd;subst hd;exact ⟨v,rfl,a⟩
  | succ i=>
   simp at hd
   have q:=ih (vs:=us) (i:=i) b hd
   simpa using q
theorem ax.get' {i:Nat} {v:Value} (r:ax X h vs ds) (hv:vs[i]? =some v):∃d,ds[i]? =some d/\Rep X h v d:=by
 induction ds generalizing vs i with
 | nil=>rw [r.nil_inv] at hv;simp at hv
 | cons e ds ih=>
  (refine aU r.cons_inv fun u us dz a b=> ?_;subst dz)
  cases i with
  | zero=>simp at hv;subst hv;exact ⟨e,rfl,a⟩
  | succ i=>
   simp at hv
   have q:=ih (vs:=us) (i:=i) b hv
   simpa using q
noncomputable def iy (ds:List PyData):PyData:= .dict [(.list ds, .none)]
noncomputable def rD (X:List Addr) (h:Heap) (v:Value) (ds:List PyData):Prop:=∃a o vs n,v= .ref a/\(ba X h).get? a=some o/\o.cls= .type "list"/\o.data= .seq vs n/\ax X h vs.toList ds
noncomputable def eA (X:List Addr) (h:Heap) (v:Value) (d:PyData):Prop:=Rep X h v d\/∃ds,d=iy ds/\rD X h v ds
theorem eA.keeps (r:eA X h v d) (k:∀b o,(ba X h).get? b=some o->(ba Y h').get? b=some o):eA Y h' v d:=by
 rcases r with r | ⟨ds,e,a,o,vs,n,e1,e2,e3,e4,r⟩
 ·exact .inl (r.keeps k)
 ·exact .inr ⟨ds,e,a,o,vs,n,e1,k _ _ e2,e3,e4,r.keeps k⟩
theorem eA.grow (r:eA X h v d) (g:aA h h'):eA X h' v d:=r.keeps (jJ g)
theorem eA.more (r:eA Y h v d) (s:∀a∈X,a∈Y):eA X h v d:=r.keeps (pP s)
noncomputable def noDict:PyData->Option PyData
 | .dict _=>Option.none
 | d=>some d
theorem eA.Bv (r:eA X h v d) {d':PyData} (e:noDict d=some d'):Rep X h v d':=by
 rcases r with r | ⟨ds,rfl,_⟩
 ·cases d<;>first | (cases e;exact r) | (exact no e)
 ·exact no e
set_option tactic.hygienic true in
theorem eA.weak {ds:List PyData} (r:eA X h v (iy ds)):rD X h v ds:=by
 rcases r with ⟨as,r,_⟩ | ⟨fz,e,r⟩
 ·rename_i l
  cases r with
  | dict h1 h2 h3 h4 h5=>
   refine ey (l _ (.head _):) fun o e c _=> ?_
   rw [h1] at e;cases e
   rw [h2] at c
   injection c with c
   exact absurd c (by decide)
 ·cases e;exact r
end
noncomputable abbrev bh:=Str->Option PyData
noncomputable def upd (ρ:bh) (x:Str) (d:PyData):bh:=fun y=>if y=x then some d else ρ y
structure cV where
 gl:Str->Option PyData
 fn:Str->List PyData->Option PyData
 fk:Str->List PyData->(PyData->Option PyData)->Option PyData
noncomputable def intsOf:List PyData->Option (List Int)
 | []=>some []
 | .int i::r=>(intsOf r).map (i:: ·)
 | _::_=>none
noncomputable def strsOf:List PyData->Option (List Str)
 | []=>some []
 | .str x::r=>(strsOf r).map (x:: ·)
 | _::_=>none
noncomputable def aV:List Int->List Int->Bool
 | [],[]=>false
 | [],_::_=>true
 | _::_,[]=>false
 | a::r,b::t=>if a=b then aV r t else decide (a < b)
noncomputable def gI:PyData->Option Int | .int i=>some i | _=>none
noncomputable def gS:PyData->Option Str | .str x=>some x | _=>none
noncomputable def gB:PyData->Option Bool | .bool b=>some b | _=>none
noncomputable def gL:PyData->Option (List PyData) | .list xs=>some xs | _=>none
noncomputable def gN:PyData->Option Unit | .none=>some () | _=>none
noncomputable def two {α β:Type} (f:PyData->Option α) (a b:PyData) (g:α->α->Option β):Option β:=(f a).bind fun x=>(f b).bind fun y=>g x y
noncomputable def hO {α:Type}:Option α->Option α->Option α | some x,_=>some x | none,y=>y
theorem iU {α:Type} {a b:Option α} {r:α} (h:hO a b=some r):a=some r\/b=some r:=by
 cases a with
 | some x=>exact .inl h
 | none=>exact .inr h
theorem l8 {α β:Type} {f:PyData->Option α} {a b:PyData} {g:α->α->Option β} {r:β} (h:two f a b g=some r):∃x y,f a=some x/\f b=some y/\g x y=some r:=by
 refine ai h fun x hx h=> ?_
 refine ai h fun y hy h=> ?_
 exact ⟨x,y,hx,hy,h⟩
theorem gH {d:PyData} {i:Int} (h:gI d=some i):d= .int i:=by
 cases d with
 | int j=>exact congrArg _ (Option.some.inj h)
 | _=>exact no h
theorem fF {d:PyData} {x:Str} (h:gS d=some x):d= .str x:=by
 cases d with
 | str j=>exact congrArg _ (Option.some.inj h)
 | _=>exact no h
theorem uw {d:PyData} {b:Bool} (h:gB d=some b):d= .bool b:=by
 cases d with
 | bool j=>exact congrArg _ (Option.some.inj h)
 | _=>exact no h
theorem gd {d:PyData} {xs:List PyData} (h:gL d=some xs):d= .list xs:=by
 cases d with
 | list j=>exact congrArg _ (Option.some.inj h)
 | _=>exact no h
theorem Bw {d:PyData} {u:Unit} (h:gN d=some u):d= .none:=by
 cases d with
 | none=>rfl
 | _=>exact no h
noncomputable def gJ (op:Operator) (a b:PyData):Option PyData:=match op with
 | .Add=>hO (two gI a b fun x y=>some (.int (x+y))) (hO (two gS a b fun x y=>if x.length+y.length<=4096 then some (.str (x++y)) else none) (two gL a b fun x y=>if x.length+y.length<=4096 then some (.list (x++y)) else none))
 | .Sub=>two gI a b fun x y=>some (.int (x - y))
 | .Mod=>two gI a b fun x y=>if y≠0 then some (.int (x.fmod y)) else none
 | .FloorDiv=>two gI a b fun x y=>if 0<=x/\x < 1000000/\0 < y/\y < 1000000 then some (.int (x.fdiv y)) else none
 | .Mult=>two gI a b fun x y=>if x=2 then some (.int (x*y)) else none
 | _=>none
theorem Bx {a b:Int} (h:b≠0):gJ .Mod (.int a) (.int b)=some (.int (a.fmod b)):=if_pos h
theorem By {a b:Int} (h:0<=a/\a < 1000000/\0 < b/\b < 1000000):gJ .FloorDiv (.int a) (.int b)=some (.int (a.fdiv b)):=if_pos h
theorem H9 {x y:Str} (h:x.length+y.length<=4096):gJ .Add (.str x) (.str y)=some (.str (x++y)):=by
 show hO (if x.length+y.length<=4096 then some (PyData.str (x++y)) else none) none=_
 rw [if_pos h];rfl
theorem Bz {x y:List PyData} (h:x.length+y.length<=4096):gJ .Add (.list x) (.list y)=some (.list (x++y)):=if_pos h
noncomputable def eW (xs ys:List PyData):Option Bool:=
 if SeqAt.shaped (.list xs)=true/\SeqAt.shaped (.list ys)=true then some (PyData.eqv (.list xs) (.list ys)) else none
noncomputable def xu:PyData->Option Bool
 | .none=>some true
 | .bool _=>some false
 | .int _=>some false
 | .str _=>some false
 | _=>none
noncomputable def md (x:PyData) (ds:List PyData):Option Bool:=
 match x,strsOf ds with
 | .str y,some xs=>some (xs.any (· ==y))
 | _,_=>none
noncomputable def cg (op:CmpOp) (a b:PyData):Option Bool:=match op with
 | .Eq=>hO (two gI a b fun x y=>some (x==y)) (hO (two gS a b fun x y=>some (x.cps.toList==y.cps.toList)) (two gL a b eW))
 | .NotEq=>hO (two gI a b fun x y=>some (x != y)) (hO (two gS a b fun x y=>some (x.cps.toList != y.cps.toList)) (two gL a b fun x y=>(eW x y).map (!·)))
 | .Lt=>hO (two gI a b fun x y=>some (decide (x < y))) (hO (two gB a b fun x y=>some (!x&&y)) (two gL a b fun x y=>(intsOf x).bind fun a=>(intsOf y).bind fun b=>some (aV a b)))
 | .LtE=>hO (two gI a b fun x y=>some (decide (x<=y))) (two gS a b fun x y=>some (!(y.cps.toList < x.cps.toList)))
 | .Gt=>two gI a b fun x y=>some (decide (x > y))
 | .GtE=>hO (two gI a b fun x y=>some (decide (x>=y))) (two gS a b fun x y=>some (!(x.cps.toList < y.cps.toList)))
 | .Is=>hO (two gB a b fun x y=>some (x==y)) ((gN b).bind fun _=>xu a)
 | .IsNot=>hO (two gB a b fun x y=>some (!(x==y))) ((gN b).bind fun _=>(xu a).map (!·))
 | .In=>(gS a).bind fun y=>hO ((gS b).bind fun x=>some (Txt.contains x y)) ((gL b).bind fun ds=>md a ds)
 | .NotIn=>(gS a).bind fun y=>hO ((gS b).bind fun x=>some (!Txt.contains x y)) ((gL b).bind fun ds=>(md a ds).map (!·))
noncomputable def lr:PyData->Option Bool
 | .bool b=>some b
 | .str x=>if x.length<=4096 then some (!(x.length==0)) else none
 | _=>none
noncomputable def iz:PyData->PyData->Option PyData
 | .list xs, .int i=>if 0<=i/\i < 1000000 then xs[i.toNat]? else if i= -1/\xs.length < 1000000 then xs[xs.length - 1]? else none
 | .tuple xs, .int i=>if 0<=i/\i < 1000000 then xs[i.toNat]? else none
 | .str x, .int i=>if 0<=i/\i < 1000000/\i.toNat < x.cps.size then some (.str ⟨#[x.cps.getD i.toNat 0]⟩) else none
 | _,_=>none
noncomputable def lu:Option PyData->Option (Option Int)
 | none=>some none
 | some (.int i)=>some (some i)
 | _=>none
noncomputable def jK (x:Str) (l u:Option Int):Str:=
 if (Builtin.Str.strSliceIndices l u 1 x.length).length==x.length then x else ⟨((Builtin.Str.strSliceIndices l u 1 x.length).filterMap (x.cps[·]?)).toArray⟩
noncomputable def jk {α:Type} (xs:List α) (l u:Option Int):List α:=
 (PySem.sliceRange (PySem.sliceBounds l u none xs.length).1 (PySem.sliceBounds l u none xs.length).2.1 (PySem.sliceBounds l u none xs.length).2.2).filterMap (xs[·]?)
noncomputable def km:PyData->Option PyData->Option PyData->Option PyData
 | .str x,l,u=>(lu l).bind fun l=>(lu u).bind fun u=>if x.length<=4096 then some (.str (jK x l u)) else none
 | .list xs,l,u=>(lu l).bind fun l=>(lu u).bind fun u=>if xs.length<=4096 then some (.list (jk xs l u)) else none
 | _,_,_=>none
noncomputable def rangeInts (a b c:Int):List Int:=(List.range (Builtin.Range.rangeSize a b c).toNat).map fun (i:Nat)=>a+i*c
noncomputable def iV:List PyData->Option (List PyData)
 | [.int b]=>if -1000000 < b/\b < 1000000 then some ((rangeInts 0 b 1).map .int) else none
 | [.int a, .int b]=>if -1000000 < b/\b < 1000000/\ -1000000 < a/\a < 1000000 then some ((rangeInts a b 1).map .int) else none
 | [.int a, .int b, .int c]=>if -1000000 < b/\b < 1000000/\ -1000000 < a/\a < 1000000/\0 < c/\c < 1000000 then some ((rangeInts a b c).map .int) else none
 | _=>none
noncomputable def one {α:Type}:List α->Option α
 | [a]=>some a
 | _=>none
theorem fP {α:Type} {l:List α} {a:α} (h:one l=some a):l=[a]:=by
 match l,h with
 | [b],h=>cases h;rfl
 | [],h=>exact no h
 | _::_::_,h=>exact no h
noncomputable def nul {α:Type}:List α->Option Unit
 | []=>some ()
 | _=>none
theorem Ia {α:Type} {l:List α} {u:Unit} (h:nul l=some u):l=[]:=by
 cases l with
 | nil=>rfl
 | cons=>exact no h
noncomputable def ux {α:Type}:List α->Option (α × α × α)
 | [a,b,c]=>some (a,b,c)
 | _=>none
theorem Ib {α:Type} {l:List α} {a b c:α} (h:ux l=some (a,b,c)):l=[a,b,c]:=by
 match l,h with
 | [_,_,_],h=>cases h;rfl
 | [],h=>exact no h
 | [_],h=>exact no h
 | [_,_],h=>exact no h
 | _::_::_::_::_,h=>exact no h
noncomputable def BA (self:PyData) (args:List PyData):Option PyData:=
 (gS self).bind fun x=>((one args).bind gL).bind fun ds=>(strsOf ds).bind fun ys=>if JoinOk x ys=true then some (.str (Txt.join x ys)) else none
noncomputable def BB (self:PyData) (args:List PyData):Option PyData:=
 (gS self).bind fun x=>((one args).bind gS).bind fun y=>if (y.length==0)=false/\x.length<=4096/\(Txt.split x y).length<=4096 then some (.list ((Txt.split x y).map .str)) else none
noncomputable def BC (self:PyData) (args:List PyData):Option PyData:=
 (gS self).bind fun x=>((one args).bind gS).bind fun y=>some (.bool (Txt.startswith x y))
noncomputable def BD (self:PyData) (args:List PyData):Option PyData:=
 (gS self).bind fun x=>((one args).bind gS).bind fun y=>some (.bool (Txt.endswith x y))
noncomputable def BE (self:PyData) (args:List PyData):Option PyData:=
 (gS self).bind fun x=>(ux args).bind fun v=>(gS v.1).bind fun y=>(gI v.2.1).bind fun i=>(gI v.2.2).bind fun j=>if 0<=i/\i<=x.length/\0<=j/\j<=x.length then
    some (.int (match Builtin.Str.occurrences x y i.toNat j.toNat 1 with | k::_=>(k:Int) | []=> -1)) else none
noncomputable def BF (self:PyData) (args:List PyData):Option PyData:=
 (gS self).bind fun x=>(nul args).bind fun _=>if Builtin.Str.tooLong (Txt.lower x).length=false then some (.str (Txt.lower x)) else none
noncomputable def BG (self:PyData) (args:List PyData):Option PyData:=
 (gS self).bind fun x=>(nul args).bind fun _=>if Builtin.Str.tooLong (Txt.upper x).length=false then some (.str (Txt.upper x)) else none
noncomputable def BH (self:PyData) (args:List PyData):Option PyData:=
 (gL self).bind fun ds=>(one args).bind fun d=>if SeqAt.shaped (.list ds)=true/\SeqAt.shaped d=true/\ds.length<=4096 then (ds.findIdx? (fun e=>PyData.eqv e d)).map (fun (i:Nat)=> .int i) else none
noncomputable def iA (name:Str) (self:PyData) (args:List PyData):Option PyData:=
 if name="join" then BA self args
 else if name="split" then BB self args
 else if name="startswith" then BC self args
 else if name="endswith" then BD self args
 else if name="find" then BE self args
 else if name="lower" then BF self args
 else if name="upper" then BG self args
 else if name="index" then BH self args
 else none
noncomputable def dP (sc:Scope) (x:Str):Bool:=sc.names.lookup x==some .globalImplicit
noncomputable def lz (sc:Scope) (x:Str):Bool:=sc.names.lookup x==some .cell||sc.names.lookup x==some .free
noncomputable def freeOk (sc ao:Scope):Bool:=ao.names.all fun p=>p.2 != .free||lz sc p.1
noncomputable def df (x:Str):Bool:= !(x==("__debug__":Str))&& !(x==("__classdict__":Str))
noncomputable def gK (ao:Scope):Bool:=
 ao.kind== .function&&ao.names.all (fun p=>df p.1)&&ao.names.all fun p=>(p.2== .local||p.2== .free||p.2== .globalImplicit)&&(ao.names.lookup p.1==some p.2)
noncomputable def inner (ao:Scope) (ρ:bh):bh:=fun y=>if ao.names.lookup y=some .free then ρ y else none
noncomputable def iW (sc:Scope) (x:Str):Bool:=sc.names.lookup x==some .local
noncomputable def lA (a:Arguments) (aI:Scope):Option Str:=
 match a with
 | ⟨[],[⟨x,none,_⟩],none,[],[],none,[]⟩=>if x="one"/\aI.names.lookup x=some .local/\aI.kind= .function/\aI.isGenerator=false/\aI.isCoroutine=false/\gK aI=true then some x else none
 | _=>none
noncomputable def eB:Expr->Bool
 | .Name .. =>true
 | .Call .. =>true
 | .List .. =>true
 | .Subscript .. =>true
 | _=>false
noncomputable def uy:Expr->Bool
 | .Name .. =>true
 | .Constant .. =>true
 | .Subscript .. =>true
 | _=>false
noncomputable def isName:Expr->Option Str
 | .Name x _=>some x
 | _=>none
noncomputable def cC {α:Type} (f:Expr->Option α):List Expr->Option (List α)
 | []=>some []
 | e::r=>(f e).bind fun d=>(cC f r).map (d:: ·)
noncomputable def jl (body:PyData->Option (List PyData)):List PyData->Option (List PyData)
 | []=>some []
 | d::r=>(body d).bind fun l=>(jl body r).map (l++ ·)
noncomputable def jL (t:Expr->Option Bool):List Expr->Option Bool
 | []=>some true
 | e::r=>(t e).bind fun b=>if b then jL t r else some false
noncomputable def oE (t:Expr->Option Bool):List Expr->Option Bool
 | []=>some false
 | e::r=>(t e).bind fun b=>if b then some true else oE t r
structure aK where
 e:Scope->bh->Expr->Option PyData
 t:Scope->bh->Expr->Option Bool
 i:Scope->bh->Expr->Option (List PyData)
 g:Scope->bh->List PyData->Comprehension->List Comprehension->Expr->Option (List PyData)
noncomputable def eX:aK:=⟨fun _ _ _=>none,fun _ _ _=>none,fun _ _ _=>none,fun _ _ _ _ _ _=>none⟩
noncomputable def hU:Str:="key"
noncomputable def lB:Str:="range"
noncomputable def uz:Str:="list"
noncomputable def oF:Str:="len"
noncomputable def jM:PyData->Option (List PyData)
 | .dict [(.list ds, .none)]=>some ds
 | _=>none
theorem uA {d:PyData} {ds:List PyData} (h:jM d=some ds):d=iy ds:=by
 cases d with
 | dict l=>
  cases l with
  | nil=>exact no h
  | cons p r=>
   obtain ⟨k,v⟩:=p
   cases k with
   | list xs=>
    cases v with
    | none=>
     cases r with
     | nil=>cases h;rfl
     | cons=>exact no h
    | _=>exact no h
   | _=>exact no h
 | _=>exact no h
noncomputable def oG:Expr->Option (Option Expr × Option Expr × Option Expr)
 | .Slice l u s _=>some (l,u,s)
 | _=>none
theorem Ic {e:Expr} {l u s:Option Expr} (h:oG e=some (l,u,s)):∃p,e= .Slice l u s p:=by
 cases e with
 | Slice a b c p=>cases h;exact ⟨_,rfl⟩
 | _=>exact no h
theorem Ie {e:Expr} (h:oG e=none):∀l u s p,e≠ .Slice l u s p:=fun l u s p q=>by subst q;exact no h.symm
noncomputable def BJ:Expr->Option Expr
 | .List [a] _=>some a
 | _=>none
theorem Ig {e a:Expr} (h:BJ e=some a):∃p,e= .List [a] p:=by
 cases e with
 | List es p=>
  match es,h with
  | [b],h=>cases h;exact ⟨_,rfl⟩
  | [],h=>exact no h
  | _::_::_,h=>exact no h
 | _=>exact no h
noncomputable def cInt:Expr->Option Int
 | .Constant (.int k) _ _=>some k
 | _=>none
theorem Ih {e:Expr} {k:Int} (h:cInt e=some k):∃a p,e= .Constant (.int k) a p:=by
 cases e with
 | Constant c a p=>
  cases c with
  | int i=>cases h;exact ⟨_,_,rfl⟩
  | _=>exact no h
 | _=>exact no h
noncomputable def BK (op:Operator) (l r:Expr):Option (Expr × Int):=match op with
 | .Mult=>(BJ l).bind fun a=>(cInt r).map fun k=>(a,k)
 | _=>none
theorem Ii {op:Operator} {l r a:Expr} {k:Int} (h:BK op l r=some (a,k)):∃p b q,op= .Mult/\l= .List [a] p/\r= .Constant (.int k) b q:=by
 cases op with
 | Mult=>
  refine ai h fun a' h1 h=> ?_
  refine cO h fun k' h2 h=> ?_
  cases h
  refine xE (Ig h1:) fun p q1=> ?_
  refine cN (Ih h2:) fun b q q2=> ?_
  exact ⟨p,b,q,rfl,q1,q2⟩
 | _=>exact no h
noncomputable def BL (kw:Keyword):Option (Str × Arguments × Expr × Scope):=match kw with
 | ⟨some k, .Lambda la lb aI _,_⟩=>some (k,la,lb,aI)
 | _=>none
theorem Ij {kw:Keyword} {k:Str} {la:Arguments} {lb:Expr} {aI:Scope} (h:BL kw=some (k,la,lb,aI)):∃p q,kw=⟨some k, .Lambda la lb aI p,q⟩:=by
 obtain ⟨a,v,q⟩:=kw
 cases a with
 | none=>exact no h
 | some a=>
  cases v with
  | Lambda=>cases h;exact ⟨_,_,rfl⟩
  | _=>exact no h
noncomputable def rE:Expr->Option (Str × List Expr)
 | .Call (.Name r _) xv [] _=>some (r,xv)
 | _=>none
theorem BM {e:Expr} {r:Str} {a:List Expr} (h:rE e=some (r,a)):∃p q,e= .Call (.Name r p) a [] q:=by
 cases e with
 | Call f a k q=>
  cases f with
  | Name x p=>
   cases k with
   | nil=>cases h;exact ⟨_,_,rfl⟩
   | cons=>exact no h
  | _=>exact no h
 | _=>exact no h
noncomputable def pr {α:Type}:List α->Option (α × α)
 | [a,b]=>some (a,b)
 | _=>none
theorem rF {α:Type} {l:List α} {v:α × α} (h:pr l=some v):l=[v.1,v.2]:=by
 match l,h with
 | [x,y],h=>(obtain rfl:=Option.some.inj h;clear h);rfl
 | [],h=>exact no h
 | [_],h=>exact no h
 | _::_::_::_,h=>exact no h
theorem rG {α:Type} {l:List α} {n:Nat} (h:l.length=n) (e:n=1):∃a,l=[a]:=List.length_eq_one_iff.mp (h.trans e)
theorem xw {α:Type} {l:List α} {n:Nat} (h:l.length=n) (e:n=2):∃a b,l=[a,b]:=by
 have h:=h.trans e
 match l,h with
 | [a,b],_=>exact ⟨a,b,rfl⟩
theorem m9 {e:Expr} {x:Str} (h:isName e=some x):∃p,e= .Name x p:=by
 cases e with
 | Name=>cases h;exact ⟨_,rfl⟩
 | _=>exact no h
noncomputable def oM {α β:Type} (o:Option α) (f:α->Option β) (g:Option β):Option β:=match o with | some a=>f a | none=>g
theorem lC {α β:Type} {o:Option α} {f:α->Option β} {g:Option β} {r:β} (h:oM o f g=some r):(∃a,o=some a/\f a=some r)\/(o=none/\g=some r):=by
 cases o with
 | some a=>exact .inl ⟨a,rfl,h⟩
 | none=>exact .inr ⟨rfl,h⟩
theorem rH {α:Type} {p:Prop} {_:Decidable p} {x y:Option α} {r:α} (h:(if p then x else y)=some r):(p/\x=some r)\/(¬p/\y=some r):=by
 by_cases q:p
 ·rw [if_pos q] at h;exact .inl ⟨q,h⟩
 ·rw [if_neg q] at h;exact .inr ⟨q,h⟩
noncomputable def nf (I:aK) (sc:Scope) (ρ:bh):Option Expr->Option (Option PyData)
 | none=>some none
 | some e=>(I.e sc ρ e).map some
noncomputable def Ik:Const->Option PyData
 | .int i=>some (.int i)
 | .bool b=>some (.bool b)
 | .none=>some .none
 | .str x=>some (.str x)
 | _=>none
noncomputable def Il (Φ:cV) (I:aK) (sc:Scope) (ρ:bh) (f:Str) (args:List Expr):Option PyData:=
 oM ((one args).bind rE) (fun v=>if f=uz/\v.1=lB/\dP sc v.1=true then ((cC (I.e sc ρ) v.2).bind iV).map .list else (cC (I.e sc ρ) args).bind (Φ.fn f))
  (oM (((one args).bind isName).bind fun x=>if f=oF then (ρ x).bind jM else none) (fun ds=>if ds.length<=4096 then some (.int ds.length) else none) ((cC (I.e sc ρ) args).bind (Φ.fn f)))
noncomputable def rI (Φ:cV) (J I:aK) (sc:Scope) (ρ:bh):Expr->Option PyData
 | .Constant c _ _=>Ik c
 | .Name x _=>oM (ρ x) noDict (if dP sc x=true then Φ.gl x else none)
 | .BinOp l op r _=>oM (BK op l r) (fun v=>if v.2=3 then (I.e sc ρ v.1).map fun d=> .list [d,d,d] else none) ((I.e sc ρ l).bind fun a=>(I.e sc ρ r).bind fun b=>gJ op a b)
 | .UnaryOp op x _=>(match op with
   | .USub=>(I.e sc ρ x).bind fun d=>(gI d).map fun i=> .int (-i)
   | _=>none)
 | .IfExp t b o _=>(I.t sc ρ t).bind fun c=>if c then I.e sc ρ b else I.e sc ρ o
 | .BoolOp op vs _=>(match op with
   | .And=>(match vs with
    | [a,b]=>(I.e sc ρ a).bind fun d=>(gB d).bind fun c=>if c then I.e sc ρ b else some (.bool false)
    | _=>none)
   | _=>none)
 | .Compare l ops rs _=>(one ops).bind fun op=>(one rs).bind fun r=>if behindInMarks op r=true then none else
     (I.e sc ρ l).bind fun a=>(I.e sc ρ r).bind fun b=>(cg op a b).map .bool
 | .Subscript v i _=>oM (oG i) (fun s=>if s.2.2.isNone=true/\(isName v).isSome=true then
     (I.e sc ρ v).bind fun d=>(nf I sc ρ s.1).bind fun lo=>(nf I sc ρ s.2.1).bind fun hi=>km d lo hi else none)
    (oM (((isName v).bind ρ).bind jM) (fun ds=>(I.e sc ρ i).bind fun k=>iz (.list ds) k) ((I.e sc ρ v).bind fun d=>(I.e sc ρ i).bind fun k=>iz d k))
 | .List es _=>(cC (I.e sc ρ) es).bind fun ds=>if ds.length<=4096 then some (.list ds) else none
 | .Tuple es _ _=>(cC (I.e sc ρ) es).bind fun ds=>if ds.length<=4096 then some (.tuple ds) else none
 | .ListComp elt gens ao _=>(match gens with
   | [g]=>if gK ao=true/\freeOk sc ao=true/\eB g.iter=true/\g.is_async=0 then
     (I.i sc ρ g.iter).bind fun items=>(I.g ao (inner ao ρ) items g [] elt).bind fun ds=>if ds.length<=4096 then some (.list ds) else none
     else none
   | [g,g']=>if gK ao=true/\freeOk sc ao=true/\eB g.iter=true/\g.is_async=0/\g'.is_async=0 then
     (I.i sc ρ g.iter).bind fun items=>(I.g ao (inner ao ρ) items g [g'] elt).bind fun ds=>if ds.length<=4096 then some (.list ds) else none
     else none
   | _=>none)
 | .Call f args gf xx=>(match f with
   | .Name f _=>(match gf with
    | []=>if dP sc f=true then Il Φ I sc ρ f args else none
    | kw::gf=>if gf.isEmpty=true then (BL kw).bind fun v=>if dP sc f=true/\v.1=hU/\freeOk sc v.2.2.2=true then
      (lA v.2.1 v.2.2.2).bind fun x=>(cC (I.e sc ρ) args).bind fun ds=>Φ.fk f ds fun d=>J.e v.2.2.2 (upd (inner v.2.2.2 ρ) x d) v.2.2.1
     else none else none)
   | .Attribute o m apos=>if gf.isEmpty=true/\(apos.endLine==xx.line)=true/\args.length < 20/\uy o=true then (I.e sc ρ o).bind fun d=>(cC (I.e sc ρ) args).bind fun ds=>iA m d ds else none
   | _=>none)
 | _=>none
noncomputable def BO (I:aK) (sc:Scope) (ρ:bh):Expr->Option Bool
 | .UnaryOp op x _=>(match op with
   | .Not=>(I.t sc ρ x).map (!·)
   | _=>none)
 | .BoolOp op vs _=>(match op with
   | .And=>jL (I.t sc ρ) vs
   | .Or=>oE (I.t sc ρ) vs)
 | .Compare l ops rs _=>(one ops).bind fun op=>(one rs).bind fun r=>if behindInMarks op r=true then none else (I.e sc ρ l).bind fun a=>(I.e sc ρ r).bind fun b=>cg op a b
 | .Name x p=>(I.e sc ρ (.Name x p)).bind lr
 | .Call f a k p=>(I.e sc ρ (.Call f a k p)).bind lr
 | _=>none
noncomputable def BP (I:aK) (sc:Scope) (ρ:bh) (e:Expr):Option (List PyData):=
 oM (rE e) (fun v=>if v.1=lB/\dP sc v.1=true then (cC (I.e sc ρ) v.2).bind iV else (I.e sc ρ e).bind gL) ((I.e sc ρ e).bind gL)
noncomputable def rJ (I:aK) (ao:Scope) (ρ:bh) (x:Str) (ifs:List Expr) (elt:Expr) (d:PyData):Option (List PyData):=
 (jL (I.t ao (upd ρ x d)) ifs).bind fun b=>if b then (I.e ao (upd ρ x d) elt).map (fun d=>[d]) else some []
noncomputable def xB (I:aK) (ao:Scope) (ρ:bh) (x:Str) (ifs:List Expr) (g':Comprehension) (elt:Expr) (d:PyData):Option (List PyData):=
 (jL (I.t ao (upd ρ x d)) ifs).bind fun b=>if b then ((I.i ao (upd ρ x d) g'.iter).bind fun lD=>I.g ao (upd ρ x d) lD g' [] elt) else some []
noncomputable def Im (I:aK) (ao:Scope) (ρ:bh) (items:List PyData) (x:Str) (ifs:List Expr) (gs:List Comprehension) (elt:Expr):Option (List PyData):=
 match gs with
 | []=>jl (rJ I ao ρ x ifs elt) items
 | [g']=>if eB g'.iter=true/\g'.is_async=0 then jl (xB I ao ρ x ifs g' elt) items else none
 | _=>none
noncomputable def BQ (I:aK) (ao:Scope) (ρ:bh) (items:List PyData) (g:Comprehension) (gs:List Comprehension) (elt:Expr):Option (List PyData):=
 if items.length<=4096/\g.is_async=0 then (isName g.target).bind fun x=>if iW ao x=true/\(ρ x).isNone=true then Im I ao ρ items x g.ifs gs elt else none else none
noncomputable def ah (Φ:cV) (J:aK):Nat->aK
 | 0=>eX
 | n+1=>⟨rI Φ J (ah Φ J n),BO (ah Φ J n),BP (ah Φ J n),BQ (ah Φ J n)⟩
structure cG (A:Around):Prop where
 hd:A.handled=none
 dp:A.depth+8 < recursionLimit
 un:A.units+1000 < cLine
noncomputable def aN (X:List Addr) (h:Heap):Prop:=∀a∈X,a∉az/\∃o,h.get? a=some o
theorem aN.grow {X:List Addr} {h h':Heap} (x:aN X h) (g:aA h h'):aN X h':=fun a ha=>by
 refine bV (x a ha:) fun n o e=> ?_
 exact ⟨n,o,g a o n e⟩
theorem aN.new {X:List Addr} {h:Heap} (x:aN X h):h.objs.size∉X:=fun m=>by
 refine bV (x _ m:) fun _ o e=> ?_
 exact Nat.lt_irrefl _ (Heap.lt_size e)
inductive bq (h:Heap) (env:Env) (y:Str) (v:Value):Prop
 | loc {m:Str->Option Value} (hl:env.kindOf y=some .local) (n:env.locals∉az) (ns:h.Ns env.locals m) (hv:m y=some v):bq h env y v
 | cell {a:Addr} (hl:env.kindOf y=some .cell\/env.kindOf y=some .free) (hc:env.cells.lookup y=some a) (n:a∉az) (hv:h.IsCell a (some v)):bq h env y v
theorem uB {h h':Heap} (g:aA h h') {a:Addr} {m:Str->Option Value} (n:a∉az) (x:h.Ns a m):h'.Ns a m:=
 let ⟨o,es,ep,e,r⟩:=x;⟨o,es,ep,g _ _ n e,r⟩
theorem rK {h h':Heap} (g:aA h h') {a:Addr} {v:Option Value} (n:a∉az) (x:h.IsCell a v):h'.IsCell a v:=
 let ⟨o,e,r⟩:=x;⟨o,g _ _ n e,r⟩
theorem bq.grow {h h':Heap} {env:Env} {y:Str} {v:Value} (x:bq h env y v) (g:aA h h'):bq h' env y v:=by
 cases x with
 | loc hl n ns hv=>exact .loc hl n (uB g n ns) hv
 | cell hl hc n hv=>exact .cell hl hc n (rK g n hv)
structure ng (env:Env):Prop where
 it:∃c T q,((c,T,q)=(258,254,rB)\/(c,T,q)=(251,249,rA))/\env.code= .ref c/\env.qual++("<lambda>":Str)=q
structure bP (lm:Bool) (X:List Addr) (h:Heap) (env:Env) (sc:Scope) (ρ:bh):Prop where
 kind:env.scope.kind= .function
 gl:env.globals=mainGlobals
 bi:env.builtins=builtinsNs
 glob:∀x,dP sc x=true->env.kindOf x=some .globalImplicit
 loc:∀x,iW sc x=true->env.kindOf x=some .local
 cell:∀x,lz sc x=true->(env.kindOf x=some .cell\/env.kindOf x=some .free)/\(env.cells.lookup x).isSome=true
 vals:∀x d,ρ x=some d->∃v,bq h env x v/\eA X h v d
 cq:∀y k,env.kindOf y=some k->df y=true
 eY:∀y a,env.cells.lookup y=some a->a∉az/\∃o,h.get? a=some o
 lam:lm=true->ng env
theorem bP.grow {lm:Bool} {X:List Addr} {h h':Heap} {env:Env} {sc:Scope} {ρ:bh} (R:bP lm X h env sc ρ) (g:aA h h'):bP lm X h' env sc ρ:=
 ⟨R.kind,R.gl,R.bi,R.glob,R.loc,R.cell,fun x d e=>let ⟨v,a,b⟩:=R.vals x d e;⟨v,a.grow g,b.grow g⟩,R.cq,fun y a e=>let ⟨n,o,q⟩:=R.eY y a e;⟨n,o,g a o n q⟩,R.lam⟩
section
variable {prog:Program} {w:World} {mg mb:Str->Option Value}
noncomputable def Ev (prog:Program) (w:World) (mg mb:Str->Option Value) {α:Type} (A:Around) (X:List Addr) (ae:Shared) (t:Sem α) (R:α->Heap->Prop):Prop:=
 ∀E s,Kp w.params mg mb X ae s->wpAny (model prog w) A t (fun a s'=>Kp w.params mg mb X s s'/\R a s'.heap) E s
variable {α:Type} {A:Around} {ae:Shared} {X:List Addr} {lm:Bool} {env:Env} {sc:Scope} {ρ:bh}
theorem Ev.mono {t:Sem α} {R R':α->Heap->Prop} (x:Ev prog w mg mb A X ae t R) (h:∀a h,R a h->R' a h):Ev prog w mg mb A X ae t R':=
 fun E s k=>wpAny_mono (x E s k) (fun a s' q=>⟨q.1,h a _ q.2⟩) fun _ _ e=>e
theorem Ev.then {t:Sem α} {R:α->Heap->Prop} (x:Ev prog w mg mb A X ae t R) {E:Value->Shared->Prop} {s:Shared} (k:Kp w.params mg mb X ae s) {Q:α->Shared->Prop}
  (h:∀a s',Kp w.params mg mb X s s'->R a s'.heap->Q a s'):wpAny (model prog w) A t Q E s:=
 wpAny_mono (x E s k) (fun a s' q=>h a s' q.1 q.2) fun _ _ e=>e
theorem eZ {h:Heap} {y:Str} {v:Value} (hk:env.scope.kind= .function) (x:bq h env y v) {E:Value->Shared->Prop} {s:Shared} {Q:Value->Shared->Prop} (g:aA h s.heap) (hd:(y==("__classdict__":Str))=false) (q:Q v s):
  wpAny (model prog w) A (loadName env y) Q E s:=by
 cases x with
 | loc hl n ns hv=>exact wpAny_loadName_local hk hl (uB g n ns) hv q
 | cell hl hc n hv=>
  rcases hl with hl | hl
  ·exact wpAny_loadName_cell hk hl hc (rK g n hv) q
  ·exact wpAny_loadName_free hk hl hc (rK g n hv) q hd
theorem fQ {P:Params} {h:Heap} (C:Ctx P mg mb X h):h.objs.size∉az:=by
 refine aj C.t1 fun ps e _=> ?_
 refine aj C.t2 fun rL e' _=> ?_
 intro m
 simp only [az,List.mem_cons,List.not_mem_nil,or_false] at m
 have l1:=Heap.lt_size e
 have l2:=Heap.lt_size e'
 have l3:=Heap.lt_size C.l2
 rcases m with m | m | m
 ·rw [m] at l2;exact Nat.lt_irrefl _ l2
 ·rw [m] at l1;exact Nat.lt_irrefl _ l1
 ·rw [m] at l3;exact Nat.lt_irrefl _ l3
theorem Io (c:Const) (k:Nat) (pos:Pos) {d:PyData} (h:(match c with
   | .int i=>some (.int i)
   | .bool b=>some (.bool b)
   | .none=>some .none
   | .str x=>some (.str x)
   | _=>none)=some d):Ev prog w mg mb A X ae (eval (.Constant c k pos) env) (fun v h=>Rep X h v d):=by
 intro E s k
 cases c<;>simp only [Option.some.injEq,reduceCtorEq] at h
 ·subst h;exact wpAny_Constant_none ⟨Kp.refl k.ctx, .none⟩
 ·subst h;exact wpAny_Constant_bool ⟨Kp.refl k.ctx, .bool _⟩
 ·subst h;exact wpAny_Constant_int ⟨Kp.toks k.ctx, .int _ _⟩
 ·subst h;exact Calls.Constant_str ⟨Kp.toks k.ctx, .str _ _⟩
end
section
section
variable {prog:Program} {w:World} {mg mb:Str->Option Value}
variable {A:Around} {ae:Shared} {X:List Addr} {lm:Bool} {env:Env} {sc:Scope} {ρ:bh}
theorem bq.df {h:Heap} {y:Str} {v:Value} (x:bq h env y v) (R:∀y k,env.kindOf y=some k->df y=true):df y=true:=by
 cases x with
 | loc hl=>exact R _ _ hl
 | cell hl=>rcases hl with hl | hl<;>exact R _ _ hl
theorem fR {y:Str} (h:df y=true):(y==("__debug__":Str))=false/\(y==("__classdict__":Str))=false:=by
 unfold cb.df at h
 simpa using h
theorem Ip {x:Str} {pos:Pos} {d:PyData} (R:bP lm X ae.heap env sc ρ) (h:(ρ x).bind noDict=some d):Ev prog w mg mb A X ae (eval (.Name x pos) env) (fun v h=>Rep X h v d):=by
 intro E s k
 refine ai h fun d' hd h=> ?_
 refine aj (R.vals x d' hd:) fun v hv r=> ?_
 refine xA (fR (hv.df R.cq):) fun n1 n2=> ?_
 exact wpAny_Name (eZ R.kind hv k.grow n2 ⟨Kp.refl k.ctx,(r.grow k.grow).Bv h⟩) n1
theorem Kp.newObj {s:Shared} (C:Ctx w.params mg mb X s.heap) (o:Obj):Kp w.params mg mb X s {s with heap:=s.heap.push o}:=⟨s.heap.push o,s.toks,rfl,aA.of fun _ _ e=>Heap.get?_push_of_some _ e,C.keeps fun _ _ e=>Heap.get?_push_of_some _ e⟩
theorem Rep.new {h:Heap} {vs:Array Value} {ds:List PyData} {P:Params} (hx:aN X h) (C:Ctx P mg mb X h) (r:ax X h vs.toList ds):
  Rep X (h.push {cls:= .type "list",data:= .seq vs}) (.ref h.objs.size) (.list ds):=
 Rep.list (Heap.get?_push_size _ rfl) rfl rfl rfl rfl (fQ C) hx.new (r.grow (aA.of fun _ _ e=>Heap.get?_push_of_some _ e))
theorem Rep.Iq {h:Heap} {vs:Array Value} {ds:List PyData} {P:Params} (hx:aN X h) (C:Ctx P mg mb X h) (r:ax X h vs.toList ds):
  Rep X (h.push {cls:= .type "tuple",data:= .seq vs}) (.ref h.objs.size) (.tuple ds):=
 Rep.tuple (Heap.get?_push_size _ rfl) rfl rfl (fQ C) hx.new (r.grow (aA.of fun _ _ e=>Heap.get?_push_of_some _ e))
theorem Ir {a b:Addr} {oa ob:Obj} {xs ys:Array Value} {n m:Nat} {Q:Value->Shared->Prop} {E:Value->Shared->Prop} {s:Shared} (e1:s.heap.get? a=some oa) (c1:oa.cls= .type "list") (d1:oa.data= .seq xs n)
  (e2:s.heap.get? b=some ob) (c2:ob.cls= .type "list") (d2:ob.data= .seq ys m) (bQ:xs.size+ys.size<=sizeLine) (h:Q (.ref s.heap.objs.size) {s with heap:=s.heap.push {cls:= .type "list",data:= .seq (xs++ys)}}):
  wpAny (model prog w) A (binaryOp .Add (.ref a) (.ref b)) Q E s:=by
 obtain ⟨cls,dd,data,sl⟩:=oa
 obtain ⟨BR,lE,data2,lF⟩:=ob
 simp only at c1 d1 c2 d2
 subst c1 d1 c2 d2
 exact concat_meets ⟨_,e1,rfl⟩ ⟨_,e2,rfl⟩ noFill_list_add seq_list_add PySem.F.slot_list_add PySem.F.entry_list_add (PySem.F.args_list_add_2 _ _) (list_addW a b xs ys n m dd lE sl lF bQ) ⟨e1,e2,h⟩
theorem BS {y:Int} {n:Nat} (h0:0<=y) (h:y < n):y.natAbs < n:=Int.ofNat_lt.mp (by rw [Int.natAbs_of_nonneg h0];exact h)
theorem Iu {op:Operator} {a b:Value} {da db d:PyData} {s:Shared} {E:Value->Shared->Prop} (hx:aN X s.heap) (C:Ctx w.params mg mb X s.heap) (ra:Rep X s.heap a da) (rb:Rep X s.heap b db) (h:gJ op da db=some d):
  wpAny (model prog w) A (binaryOp op a b) (fun v s'=>Kp w.params mg mb X s s'/\Rep X s'.heap v d) E s:=by
 have ii:∀{g:Int->Int->Option PyData},two gI da db g=some d->∃x y t u,a= .int x t/\b= .int y u/\g x y=some d:=fun h=>by
  refine aU (l8 h:) fun x y h1 h2 h=> ?_
  refine xE ((gH h1▸ra).int_inv:) fun t q1=> ?_
  refine xE ((gH h2▸rb).int_inv:) fun u q2=> ?_
  exact ⟨x,y,t,u,q1,q2,h⟩
 cases op
 case Add=>
  rcases iU h with h | h
  ·(refine ir (ii h:) fun x y t u ay aF h=> ?_;subst ay;subst aF)
   (obtain rfl:=Option.some.inj h;clear h)
   exact P.add_int ⟨Kp.toks C, .int _ _⟩
  rcases iU h with h | h
  ·refine aU (l8 h:) fun x y q1 q2 h=> ?_
   refine aO h fun hb h=> ?_
   (obtain rfl:=Option.some.inj h;clear h)
   (refine xE ((fF q1▸ra).str_inv:) fun t aP=> ?_;subst aP)
   (refine xE ((fF q2▸rb).str_inv:) fun u bI=> ?_;subst bI)
   exact SB.add (fun t' k=>⟨Kp.toks C, .str _ _⟩) (by rw [sizeLine_eq];exact Zb cy 30 [_,_] [] hb)
  ·refine aU (l8 h:) fun x y q1 q2 h=> ?_
   refine aO h fun hb h=> ?_
   (obtain rfl:=Option.some.inj h;clear h)
   (refine cT ((gd q1▸ra).dY:) fun x ox vx nx bK t1 m1 e1 c1 d1 r1=> ?_;subst bK)
   (refine cT ((gd q2▸rb).dY:) fun y oy vy ny bO t2 m2 e2 c2 d2 r2=> ?_;subst bO)
   have l1:=r1.length
   have l2:=r2.length
   rw [Array.length_toList] at l1 l2
   exact Ir e1 c1 d1 e2 c2 d2 (by rw [sizeLine_eq];exact Zb cy 31 [_,_,_,_] [] hb l2 l1) ⟨Kp.newObj C _,Rep.new hx C (by rw [Array.toList_append];exact r1.append r2)⟩
 case Sub=>
  (refine ir (ii h:) fun x y t u cF c9 h=> ?_;subst cF;subst c9)
  (obtain rfl:=Option.some.inj h;clear h)
  exact P.sub_int ⟨Kp.toks C, .int _ _⟩
 case Mod=>
  (refine ir (ii h:) fun x y t u dy dz h=> ?_;subst dy;subst dz)
  refine aO h fun hb h=> ?_
  (obtain rfl:=Option.some.inj h;clear h)
  exact mod_int' hb ⟨Kp.toks C, .int _ _⟩
 case FloorDiv=>
  (refine ir (ii h:) fun x y t u fu fw h=> ?_;subst fu;subst fw)
  refine aO h fun hb h=> ?_
  (obtain rfl:=Option.some.inj h;clear h)
  exact floordiv_int (by exact Zb cy 32 [] [_,_] hb) ⟨Kp.toks C, .int _ _⟩ (.inl (PyProof.noPylong_small (BS (Int.le_of_lt hb.2.2.1) (Int.lt_trans hb.2.2.2 (by decide+kernel)))))
 case Mult=>
  (refine ir (ii h:) fun x y t u fx gG h=> ?_;subst fx;subst gG)
  refine aO h fun hb h=> ?_
  (obtain rfl:=Option.some.inj h;clear h)
  subst hb
  exact P.mul_int ⟨Kp.toks C, .int _ _⟩ (IntMulOk.of_left (by decide))
 all_goals exact no h
open MeetsSeq AutoSeq1 in
theorem Iv (l b:Addr) (items fS:Array Value) (n n2:Nat) (dd lE:Option Addr) (sl lF:Array (Option Value)) (xs ys:List Int) (hx:IntsAre items.toList xs) (hy:IntsAre fS.toList ys) (k:Nat):
  ∀i:Nat,items.size - i=k->i<=items.size->i<=fS.size->Meets (Builtin.«list.__eq__.loop» ⟨[.ref l, .ref b,rawInt i,rawInt 0],[]⟩)
   (fun _ R s=>s.heap.get? l=some {cls:= .type "list",dict:=dd,data:= .seq items n,slots:=sl}/\s.heap.get? b=some {cls:= .type "list",dict:=lE,data:= .seq fS n2,slots:=lF}/\
    R (.ok (.ret (.bool (aV (xs.drop i) (ys.drop i))))) s):=by
 have lx:items.size=xs.length:=by have:=hx.length;rw [Array.length_toList] at this;exact this
 have ly:fS.size=ys.length:=by have:=hy.length;rw [Array.length_toList] at this;exact this
 induction k with
 | zero=>
  intro i hk BU Iw prog w A R s h
  obtain ⟨hp,g,d,tk,os⟩:=s;(refine bG h ?_;clear h;intro hl hb h)
  wp_walk using wpAny_loadPart' hl,wpAny_loadPart' hb
  have jj:items[((i:Nat):Int).toNat]? =none:=by simp;exact Zb cy 33 [_,_] [] hk
  have hd:xs.drop i=[]:=by simp;exact Zb cy 34 [_,_,_] [] hk lx
  rw [hd] at h
  rw [jj]
  wp_walk using wpAny_loadPart' hl,wpAny_loadPart' hb
  show R (.ok (.ret (.bool (decide (items.size < fS.size))))) _
  have e:aV [] (ys.drop i)=decide (items.size < fS.size):=by
   cases hq:ys.drop i with
   | nil=>
    have:ys.length<=i:=by simpa using hq
    show false=_
    symm;apply decide_eq_false;exact Zb cy 35 [_,_,_,_] [] ly this BU
   | cons z r=>
    have:i < ys.length:=by
     by_cases q:i < ys.length
     ·exact q
     ·rw [List.drop_of_length_le (by exact Zb Z1 13 [_,_] [] q)] at hq;cases hq
    show true=_
    symm;apply decide_eq_true;exact Zb cy 36 [_,_,_,_] [] hk this ly
  rw [e] at h
  exact h
 | succ k ih=>
  intro i hk BU Iw prog w A R s h
  obtain ⟨hp,g,d,tk,os⟩:=s;(refine bG h ?_;clear h;intro hl hb h)
  wp_walk using wpAny_loadPart' hl,wpAny_loadPart' hb
  have bg:i < items.size:=by exact Zb cy 37 [_,_,_] [] hk
  have jj:items[((i:Nat):Int).toNat]? =some items[i]:=by simp [bg]
  have hc:((i:Int)+1)=((i+1:Nat):Int):=by push_cast;rfl
  have pQ:i < xs.length:=by exact Zb Z1 28 [_,_,_] [] bg lx
  have Iy:xs.drop i=xs[i]::xs.drop (i+1):=List.drop_eq_getElem_cons pQ
  refine xE (hx.get i xs[i] (by simp [pQ]):) fun t ht=> ?_
  have dJ:items[i]= .int xs[i] t:=by
   have:items.toList[i]? =some items[i]:=by simp [bg]
   rw [this] at ht;exact Option.some.inj ht
  rw [jj]
  rw [Iy] at h
  by_cases oH:i < fS.size
  ·have BV:i < ys.length:=by exact Zb Z1 28 [_,_,_] [] oH ly
   have xC:ys.drop i=ys[i]::ys.drop (i+1):=List.drop_eq_getElem_cons BV
   have ke:fS[((i:Nat):Int).toNat]? =some fS[i]:=by simp [oH]
   refine xE (hy.get i ys[i] (by simp [BV]):) fun u hu=> ?_
   have me:fS[i]= .int ys[i] u:=by
    have:fS.toList[i]? =some fS[i]:=by simp [oH]
    rw [this] at hu;exact Option.some.inj hu
   rw [ke,dJ,me]
   rw [xC] at h
   refine wpAny_bind (wpAny_eqBool_int ?_)
   by_cases hq:xs[i]=ys[i]
   ·have cK:(xs[i]==ys[i])=true:=by simpa using hq
    rw [cK]
    simp only [aV,hq,if_true] at h
    wp_walk
    rw [hc]
    exact ⟨plainId_quiet MeetsSeq3.plain_eq_loop _,codeAny_builtin MeetsSeq3.entry_eq_loop (by
     rw [Around.under_plainId MeetsSeq3.plain_eq_loop _]
     exact ih (i+1) (by exact Zb cy 38 [_,_,_] [] hk) (by exact bg) (by exact oH) prog w A R _ ⟨hl,hb,h⟩)⟩
   ·have cK:(xs[i]==ys[i])=false:=by simpa using hq
    rw [cK]
    simp only [aV,hq,if_false] at h
    wp_walk using wpAny_loadPart' hl,wpAny_loadPart' hb
    rw [jj,ke,dJ,me]
    refine wpAny_bind ?_
    refine P.lt_int (A:=A.in1) (E:=fun e s'=>R (.error e) s') ?_
    exact wpAny_pure h
  ·have ke:fS[((i:Nat):Int).toNat]? =none:=by simp;exact Zb Z1 13 [_,_] [] oH
   have xC:ys.drop i=[]:=by simp;exact Zb cy 39 [_,_,_] [] ly oH
   rw [ke]
   rw [xC] at h
   wp_walk using wpAny_loadPart' hl,wpAny_loadPart' hb
   show R (.ok (.ret (.bool (decide (items.size < fS.size))))) _
   have e:decide (items.size < fS.size)=false:=by apply decide_eq_false;exact Zb cz 0 [_,_,_] [] bg oH
   rw [e]
   exact h
open AutoSeq1 in
theorem BW (l b:Addr) (items fS:Array Value) (n n2:Nat) (dd lE:Option Addr) (sl lF:Array (Option Value)) (xs ys:List Int) (hx:IntsAre items.toList xs) (hy:IntsAre fS.toList ys):
  Meets (Builtin.«list.__lt__» ⟨[.ref l, .ref b],[]⟩)
   (fun _ R s=>s.heap.get? l=some {cls:= .type "list",dict:=dd,data:= .seq items n,slots:=sl}/\s.heap.get? b=some {cls:= .type "list",dict:=lE,data:= .seq fS n2,slots:=lF}/\
    R (.ok (.ret (.bool (aV xs ys)))) s):=by
 intro prog w A R s h
 obtain ⟨hp,g,d,tk,os⟩:=s;(refine bG h ?_;clear h;intro hl hb h)
 have f3:=AutoSeq1.sub_list_list
 wp_walk using wpAny_loadPart' hl,wpAny_loadPart' hb
 exact ⟨plainId_quiet MeetsSeq3.plain_eq_loop _,codeAny_builtin MeetsSeq3.entry_eq_loop (by
  rw [Around.under_plainId MeetsSeq3.plain_eq_loop _]
  exact Iv l b items fS n n2 dd lE sl lF xs ys hx hy _ 0 rfl (Nat.zero_le _) (Nat.zero_le _) prog w A R _ ⟨hl,hb,by simpa using h⟩)⟩
theorem oI {h:Heap}:∀{vs:List Value} {ds:List PyData} {xs:List Int},ax X h vs ds->intsOf ds=some xs->IntsAre vs xs
 | vs,[],xs,r,e=>by rw [r.nil_inv];(obtain rfl:=Option.some.inj e;clear e);exact .nil
 | vs, .int i::ds,xs,r,e=>by
  (refine aU r.cons_inv fun v us ki a b=> ?_;subst ki)
  (refine xE a.int_inv fun t oC=> ?_;subst oC)
  refine cO e fun ys e2 rM=> ?_;subst rM
  exact .cons i t (oI b e2)
 | _, .none::_,_,_,e=>by exact no e
 | _, .bool _::_,_,_,e=>by exact no e
 | _, .str _::_,_,_,e=>by exact no e
 | _, .list _::_,_,_,e=>by exact no e
 | _, .tuple _::_,_,_,e=>by exact no e
 | _, .dict _::_,_,_,e=>by exact no e
theorem BX {h:Heap}:∀{vs:List Value} {ds:List PyData} {xs:List Str},ax X h vs ds->strsOf ds=some xs->StrsAre vs xs
 | vs,[],xs,r,e=>by rw [r.nil_inv];(obtain rfl:=Option.some.inj e;clear e);exact .nil
 | vs, .str i::ds,xs,r,e=>by
  (refine aU r.cons_inv fun v us oJ a b=> ?_;subst oJ)
  (refine xE a.str_inv fun t oK=> ?_;subst oK)
  refine cO e fun ys e2 mh=> ?_;subst mh
  exact .cons i t (BX b e2)
 | _, .none::_,_,_,e=>by exact no e
 | _, .bool _::_,_,_,e=>by exact no e
 | _, .int _::_,_,_,e=>by exact no e
 | _, .list _::_,_,_,e=>by exact no e
 | _, .tuple _::_,_,_,e=>by exact no e
 | _, .dict _::_,_,_,e=>by exact no e
theorem BY:∀{ds:List PyData} {xs:List Str},strsOf ds=some xs->ds=xs.map .str
 | [],xs,e=>by (obtain rfl:=Option.some.inj e;clear e);rfl
 | .str i::ds,xs,e=>by
  refine cO e fun ys e2 ml=> ?_;subst ml
  rw [BY e2];rfl
 | .none::_,_,e=>by exact no e
 | .bool _::_,_,e=>by exact no e
 | .int _::_,_,e=>by exact no e
 | .list _::_,_,e=>by exact no e
 | .tuple _::_,_,e=>by exact no e
 | .dict _::_,_,e=>by exact no e
end
end
section
variable {prog:Program} {w:World} {mg mb:Str->Option Value}
variable {A:Around} {ae:Shared} {X:List Addr} {lm:Bool} {env:Env} {sc:Scope} {ρ:bh}
theorem BZ {v:Value} {d:PyData} {h:Heap} {b:Bool} (r:Rep X h v d) (e:xu d=some b):plainIs v .none=true/\(v==Value.none)=b:=by
 cases d with
 | none=>cases e;rw [r.none_inv];exact ⟨rfl,rfl⟩
 | bool=>cases e;rw [r.bool_inv];exact ⟨rfl,rfl⟩
 | int=>cases e;(refine xE r.int_inv fun t ay=> ?_;subst ay);exact ⟨rfl,rfl⟩
 | str=>cases e;(refine xE r.str_inv fun t aF=> ?_;subst aF);exact ⟨rfl,rfl⟩
 | _=>exact no e
theorem B7 {xs ys:List PyData} {b:Bool} (e:eW xs ys=some b):SeqAt.shaped (.list xs)=true/\SeqAt.shaped (.list ys)=true/\PyData.eqv (.list xs) (.list ys)=b:=by
 unfold eW at e
 split at e
 ·rename_i h;(obtain rfl:=Option.some.inj e;clear e);exact ⟨h.1,h.2,rfl⟩
 ·exact no e
theorem Iz (a b:Bool):decide (b2i a < b2i b)=(!a&&b):=by cases a<;>cases b<;>rfl
theorem IA {x:PyData} {ds:List PyData} {b:Bool} (e:md x ds=some b):∃y xs,x= .str y/\strsOf ds=some xs/\xs.any (· ==y)=b:=by
 cases x with
 | str y=>
  unfold md at e
  cases h:strsOf ds with
  | none=>rw [h] at e;exact no e
  | some xs=>rw [h] at e;exact ⟨_,_,rfl,rfl,Option.some.inj e⟩
 | _=>exact no e
theorem IB {a b:Addr} {oa ob:Obj} {vx vy:Array Value} {n m:Nat} {xs ys:List Int} {Q:Value->Shared->Prop} {E:Value->Shared->Prop} {s:Shared} (e1:s.heap.get? a=some oa) (c1:oa.cls= .type "list") (d1:oa.data= .seq vx n)
  (e2:s.heap.get? b=some ob) (c2:ob.cls= .type "list") (d2:ob.data= .seq vy m) (hx:IntsAre vx.toList xs) (hy:IntsAre vy.toList ys) (hu:A.units < cLine) (h:Q (.bool (aV xs ys)) s):
  wpAny (model prog w) A (compareOp .Lt (.ref a) (.ref b)) Q E s:=by
 obtain ⟨cls,dd,data,sl⟩:=oa
 obtain ⟨BR,lE,data2,lF⟩:=ob
 simp only at c1 d1 c2 d2
 subst c1 d1 c2 d2
 show wpAny (model prog w) A (richCompare .Lt (.ref a) (.ref b)) Q E s
 exact richCompare_meets_room (T:="list") (op:= .Lt) ⟨_,e1,rfl⟩ ⟨_,e2,rfl⟩ PySem.F.slot_list_lt PySem.F.entry_list_lt (PySem.F.args_list_lt_2 _ _) (BW a b vx vy n m dd lE sl lF xs ys hx hy)
  ⟨e1,e2,(fun x=>nomatch x),h⟩ hu
theorem pR {op:CmpOp} {a b:Value} {da db:PyData} {r:Bool} {s:Shared} {E:Value->Shared->Prop} (hA:cG A) (C:Ctx w.params mg mb X s.heap) (ra:Rep X s.heap a da) (rb:Rep X s.heap b db) (h:cg op da db=some r):
  wpAny (model prog w) A (compareOp op a b) (fun v s'=>Kp w.params mg mb X s s'/\Rep X s'.heap v (.bool r)) E s:=by
 have hu:A.units+64 < cLine:=by have:=hA.un;exact Zb Z7 3 [_,_] [] this
 have K:Kp w.params mg mb X s s:=Kp.refl C
 have bool:∀{x:Bool} {s':Shared},Kp w.params mg mb X s s'->x=r->Kp w.params mg mb X s s'/\Rep X s'.heap (.bool x) (.bool r):=fun K e=>⟨K,e▸ .bool _⟩
 have ii:∀{g:Int->Int->Option Bool},two gI da db g=some r->∃x y t u,a= .int x t/\b= .int y u/\g x y=some r:=fun h=>by
  refine aU (l8 h:) fun x y h1 h2 h=> ?_
  refine xE ((gH h1▸ra).int_inv:) fun t q1=> ?_
  refine xE ((gH h2▸rb).int_inv:) fun u q2=> ?_
  exact ⟨x,y,t,u,q1,q2,h⟩
 have ss:∀{g:Str->Str->Option Bool},two gS da db g=some r->∃x y t u,a= .str x t/\b= .str y u/\g x y=some r:=fun h=>by
  refine aU (l8 h:) fun x y h1 h2 h=> ?_
  refine xE ((fF h1▸ra).str_inv:) fun t q1=> ?_
  refine xE ((fF h2▸rb).str_inv:) fun u q2=> ?_
  exact ⟨x,y,t,u,q1,q2,h⟩
 have bb:∀{g:Bool->Bool->Option Bool},two gB da db g=some r->∃x y,a= .bool x/\b= .bool y/\g x y=some r:=fun h=>by
  refine aU (l8 h:) fun x y h1 h2 h=> ?_
  exact ⟨x,y,(uw h1▸ra).bool_inv,(uw h2▸rb).bool_inv,h⟩
 have eqv:∀(x y:Bool),(Value.bool x==Value.bool y)=(x==y):=fun x y=>by cases x<;>cases y<;>rfl
 have ins:∀{ds:List PyData} {b':Value} {c:Bool},Rep X s.heap b' (.list ds)->md da ds=some c->∃y t z vs ys,a= .str y t/\b'= .ref z/\s.heap.IsList z (List.toArray vs)/\StrsAre vs ys/\ys.any (· ==y)=c:=fun rb h=>by
  refine aU (IA h:) fun y xs q hs hr=> ?_
  (refine xE ((q▸ra).str_inv:) fun t aP=> ?_;subst aP)
  (refine cT rb.dY fun z oz vz nz bI t2 m2 e2 c2 d2 r2=> ?_;subst bI)
  exact ⟨y,t,z,vz.toList,xs,rfl,rfl,⟨_,e2,c2,_,by simpa using d2⟩,BX r2 hs,hr⟩
 cases op
 case Eq=>
  rcases iU h with h | h
  ·(refine ir (ii h:) fun x y t u bK bO h=> ?_;subst bK;subst bO);exact P.eq_int (bool K (Option.some.inj h))
  rcases iU h with h | h
  ·(refine ir (ss h:) fun x y t u cF c9 h=> ?_;subst cF;subst c9);exact P.eq_str (bool K (Option.some.inj h))
  ·refine aU (l8 h:) fun x y q1 q2 h=> ?_
   refine bG (B7 h:) fun h1 h2 h3=> ?_
   refine xE ra.reads fun as qa=> ?_
   refine xE rb.reads fun bs qb=> ?_
   exact SeqAt.compareEq_shaped (gd q1▸qa) (gd q2▸qb) h1 h2 hu (bool K h3)
 case NotEq=>
  rcases iU h with h | h
  ·(refine ir (ii h:) fun x y t u dy dz h=> ?_;subst dy;subst dz);exact P.ne_int (bool K (Option.some.inj h))
  rcases iU h with h | h
  ·(refine ir (ss h:) fun x y t u fu fw h=> ?_;subst fu;subst fw);exact P.ne_str (bool K (Option.some.inj h))
  ·refine aU (l8 h:) fun x y q1 q2 h=> ?_
   refine cO h fun c h hc=> ?_
   refine bG (B7 h:) fun h1 h2 h3=> ?_
   refine xE ra.reads fun as qa=> ?_
   refine xE rb.reads fun bs qb=> ?_
   exact SeqAt.compareNe_shaped (gd q1▸qa) (gd q2▸qb) h1 h2 hu (bool K (h3▸hc))
 case Lt=>
  rcases iU h with h | h
  ·(refine ir (ii h:) fun x y t u fx gG h=> ?_;subst fx;subst gG);exact P.lt_int (bool K (Option.some.inj h))
  rcases iU h with h | h
  ·(refine aU (bb h:) fun x y ki oC h=> ?_;subst ki;subst oC);exact lt_bool (bool K ((Iz x y).trans (Option.some.inj h)))
  ·refine aU (l8 h:) fun xs ys q1 q2 h=> ?_
   refine ai h fun is hx h=> ?_
   refine ai h fun js hy h=> ?_
   (refine cT ((gd q1▸ra).dY:) fun x ox vx nx rM t1 m1 e1 c1 d1 r1=> ?_;subst rM)
   (refine cT ((gd q2▸rb).dY:) fun y oy vy ny oJ t2 m2 e2 c2 d2 r2=> ?_;subst oJ)
   exact IB e1 c1 d1 e2 c2 d2 (oI r1 hx) (oI r2 hy) (by exact Zb Z7 4 [_,_] [] hu) (bool K (Option.some.inj h))
 case LtE=>
  rcases iU h with h | h
  ·(refine ir (ii h:) fun x y t u oK mh h=> ?_;subst oK;subst mh);exact P.le_int (bool K (Option.some.inj h))
  ·(refine ir (ss h:) fun x y t u ml rN h=> ?_;subst ml;subst rN);exact P.le_str (bool K (Option.some.inj h))
 case Gt=>
  (refine ir (ii h:) fun x y t u rO rP h=> ?_;subst rO;subst rP);exact P.gt_int (bool K (Option.some.inj h))
 case GtE=>
  rcases iU h with h | h
  ·(refine ir (ii h:) fun x y t u oL rQ h=> ?_;subst oL;subst rQ);exact P.ge_int (bool K (Option.some.inj h))
  ·(refine ir (ss h:) fun x y t u IC ID h=> ?_;subst IC;subst ID);exact P.ge_str (bool K (Option.some.inj h))
 case Is=>
  rcases iU h with h | h
  ·(refine aU (bb h:) fun x y xD xF h=> ?_;subst xD;subst xF);exact wpAny_is_plain rfl (bool K ((eqv x y).trans (Option.some.inj h)))
  ·refine ai h fun u q h=> ?_
   obtain rfl:=(Bw q▸rb).none_inv
   refine xA (BZ ra h:) fun p1 p2=> ?_
   exact wpAny_is_plain p1 (bool K p2)
 case IsNot=>
  rcases iU h with h | h
  ·(refine aU (bb h:) fun x y IE IF h=> ?_;subst IE;subst IF);exact wpAny_isNot_plain rfl (bool K (by rw [eqv];exact Option.some.inj h))
  ·refine ai h fun u q h=> ?_
   refine cO h fun c h hc=> ?_
   obtain rfl:=(Bw q▸rb).none_inv
   refine xA (BZ ra h:) fun p1 p2=> ?_
   exact wpAny_isNot_plain p1 (bool K (by rw [p2];exact hc))
 case In=>
  refine ai h fun y q h=> ?_
  rcases iU h with h | h
  ·refine ai h fun x q2 h=> ?_
   (refine xE ((fF q▸ra).str_inv:) fun t IG=> ?_;subst IG)
   (refine xE ((fF q2▸rb).str_inv:) fun u IH=> ?_;subst IH)
   exact SB.contains (bool K (Option.some.inj h))
  ·refine ai h fun ds q2 h=> ?_
   (refine AV (ins (gd q2▸rb) h:) fun y t z vs ys II IJ g1 g2 g3=> ?_;subst II;subst IJ)
   exact in_list_strs g1 g2 (bool K g3)
 case NotIn=>
  refine ai h fun y q h=> ?_
  rcases iU h with h | h
  ·refine ai h fun x q2 h=> ?_
   (refine xE ((fF q▸ra).str_inv:) fun t IK=> ?_;subst IK)
   (refine xE ((fF q2▸rb).str_inv:) fun u IM=> ?_;subst IM)
   exact SB.notContains (bool K (Option.some.inj h))
  ·refine ai h fun ds q2 h=> ?_
   refine cO h fun c h hc=> ?_
   (refine AV (ins (gd q2▸rb) h:) fun y t z vs ys IP IQ g1 g2 g3=> ?_;subst IP;subst IQ)
   exact notin_list_strs g1 g2 (bool K (by rw [g3];exact hc))
end
section
variable {prog:Program} {w:World} {mg mb:Str->Option Value}
variable {A:Around} {ae:Shared} {X:List Addr} {lm:Bool} {env:Env} {sc:Scope} {ρ:bh}
theorem IS {v:Value} {d:PyData} {b:Bool} {s:Shared} {E:Value->Shared->Prop} (C:Ctx w.params mg mb X s.heap) (r:Rep X s.heap v d) (h:lr d=some b):
  wpAny (model prog w) A (truthy v) (fun b' s'=>Kp w.params mg mb X s s'/\b'=b) E s:=by
 cases d with
 | bool b'=>
  cases h
  obtain rfl:=r.bool_inv
  exact wpAny_truthy_bool ⟨Kp.refl C,rfl⟩
 | str x=>
  refine aO h fun hx h=> ?_
  (obtain rfl:=Option.some.inj h;clear h)
  (refine xE r.str_inv fun t ay=> ?_;subst ay)
  refine P.truthy_str (by lia) ⟨Kp.toks C, ?_⟩
  cases hl:x.length with
  | zero=>rfl
  | succ n=>simp;exact Zb cA 29 [_] []
 | _=>exact no h
theorem pS {slice:Expr} (o i:Value) (h:∀l u st p,slice≠ .Slice l u st p):subscripted slice false o i=operate [o,i] (getItem o i):=by
 unfold subscripted
 cases slice<;>first | rfl | (exfalso;exact h _ _ _ _ rfl)
theorem IT {value slice:Expr} {o i:Value} {d k r:PyData} {s:Shared} {E:Value->Shared->Prop} (bX:∀l u st p,slice≠ .Slice l u st p) (C:Ctx w.params mg mb X s.heap) (ro:Rep X s.heap o d) (ri:Rep X s.heap i k)
  (h:iz d k=some r):wpAny (model prog w) A (subscriptTail value slice o i) (fun v s'=>Kp w.params mg mb X s s'/\Rep X s'.heap v r) E s:=by
 have K:Kp w.params mg mb X s s:=Kp.refl C
 cases d with
 | list xs=>
  cases k with
  | int j=>
  (refine xE ri.int_inv fun t aF=> ?_;subst aF)
  (refine cT ro.dY fun x ox vx nx aP t1 m1 e1 c1 d1 r1=> ?_;subst aP)
  have hL:s.heap.IsList x vx:=⟨_,e1,c1,_,d1⟩
  rcases rH h with ⟨hj,h⟩ | ⟨_,h⟩
  ·refine aj (r1.get h:) fun v hv rv=> ?_
   exact tail_any hL.typeIs PySem.F.slot_list_getitem.lookup (wpAny_getItem_list hL hj.1 (by lia) (by simpa using hv) ⟨K,rv⟩) (pS _ _ bX)
  ·refine aO h fun hj h5=> ?_
   ·(refine xA hj ?_;clear hj;intro bI hlen;subst bI)
    refine aj (r1.get h5:) fun v hv rv=> ?_
    have hl:=r1.length
    rw [Array.length_toList] at hl
    have oN:xs.length - 1 < xs.length:=by
     by_cases q:xs.length - 1 < xs.length
     ·exact q
     ·rw [List.getElem?_eq_none (by exact Zb Z4 28 [_] [] q)] at h5;exact no h5
    have hz:((-1:Int)+(vx.size:Int)).toNat=xs.length - 1:=by exact Zb Z4 29 [_,_] [] hl
    exact tail_any hL.typeIs PySem.F.slot_list_getitem.lookup (wpAny_getItem_list_neg hL (by exact Zb Z1 36 [] []) (by exact Zb Z4 30 [_,_] [] oN hl) (by lia) (by rw [hz];simpa using hv) ⟨K,rv⟩) (pS _ _ bX)
  | _=>exact no h
 | tuple xs=>
  cases k with
  | int j=>
  (refine xE ri.int_inv fun t bK=> ?_;subst bK)
  (refine cT ro.oD fun x ox vx nx bO t1 m1 e1 c1 d1 r1=> ?_;subst bO)
  refine aO h fun hj h=> ?_
  ·refine aj (r1.get h:) fun v hv rv=> ?_
   have hT:IsTup s.heap x vx:=⟨_,e1,c1,_,d1⟩
   have hl:=r1.length
   rw [Array.length_toList] at hl
   have bg:j.toNat < vx.size:=by
    by_cases q:j.toNat < vx.size
    ·exact q
    ·rw [List.getElem?_eq_none (by exact Zb cA 30 [_,_] [_] hl q)] at h;exact no h
   refine tail_any hT.typeIs PySem.F.slot_tuple_getitem.lookup (getItem_tuple (j:=j.toNat) hT (by lia) (by lia) ?_ (by simpa using hv) ⟨K,rv⟩) (pS _ _ bX)
   unfold seqIndex?
   simp only [show ¬j < 0 from by exact Zb cA 31 [] [_] hj,if_false]
   rw [if_pos (by simp;exact Zb cA 32 [_] [_] hj bg)]
  | _=>exact no h
 | str x=>
  cases k with
  | int j=>
  (refine xE ri.int_inv fun t cF=> ?_;subst cF)
  (refine xE ro.str_inv fun u c9=> ?_;subst c9)
  refine aO h fun hj h=> ?_
  ·(obtain rfl:=Option.some.inj h;clear h)
   refine tail_any (typeIs_str s x u) PySem.F.slot_str_getitem.lookup (P.getItem_str (c:=x.cps.getD j.toNat 0) ?_ ?_ ⟨Kp.toks C, .str _ _⟩) (pS _ _ bX)
   ·simp;exact Zb cA 33 [_] [_] hj
   ·have:seqIndex? j x.length=some j.toNat:=by
     unfold seqIndex?
     simp only [show ¬j < 0 from by exact Zb cA 34 [_] [_] hj,if_false]
     rw [if_pos (Bool.and_eq_true_iff.mpr ⟨decide_eq_true hj.1,decide_eq_true (by show j < (x.cps.size:Int);exact Zb cA 35 [_] [_] hj)⟩)]
    rw [this,Option.bind_some]
    simp [Array.getD,hj.2.2]
  | _=>exact no h
 | _=>exact no h
theorem IU {v:Value} {d:PyData} {l:Option Int} {h:Heap} (r:Rep X h v d) (e:lu (some d)=some l):∃i t,l=some i/\v= .int i t:=by
 cases d with
 | int i=>cases e;(refine xE r.int_inv fun t dy=> ?_;subst dy);exact ⟨_,_,rfl,rfl⟩
 | _=>exact no e
end
section
variable {prog:Program} {w:World} {mg mb:Str->Option Value}
variable {A:Around} {ae:Shared} {X:List Addr} {lm:Bool} {env:Env} {sc:Scope} {ρ:bh}
theorem xG {h:Heap} {vs:List Value} {ds:List PyData} (r:ax X h vs ds):∀idx:List Nat,ax X h (idx.filterMap (vs[·]?)) (idx.filterMap (ds[·]?))
 | []=> .nil
 | i::idx=>by
  simp only [List.filterMap_cons]
  have l:=r.length
  by_cases q:i < ds.length
  ·refine aj (r.get (i:=i) (d:=ds[i]) (by simp [q]):) fun v hv rv=> ?_
   rw [hv,show ds[i]? =some ds[i] from by simp [q]]
   exact .cons rv (xG r idx)
  ·rw [List.getElem?_eq_none (by exact Zb cA 5 [_,_,_] [] l q),List.getElem?_eq_none (by exact Zb Z1 13 [_,_] [] q)]
   exact xG r idx
theorem B8 {h:Heap} {vs:List Value} {ds:List PyData} (r:ax X h vs ds) (l u:Option Int):ax X h (jk vs l u) (jk ds l u):=by
 unfold jk
 rw [r.length]
 exact xG r _
theorem B9 (vs:Array Value) (l u:Option Int):(slicePick vs l u none).toList=jk vs.toList l u:=by
 unfold slicePick jk
 rw [Array.length_toList,List.toList_toArray]
 congr 1
 funext i
 simp
noncomputable def nh (X:List Addr) (h:Heap) (v:Value):Option PyData->Prop
 | none=>v= .none
 | some d=>Rep X h v d
theorem nh.grow {h h':Heap} {v:Value} {o:Option PyData} (r:nh X h v o) (g:aA h h'):nh X h' v o:=by
 cases o with
 | none=>exact r
 | some d=>exact Rep.grow r g
theorem nh.val {h:Heap} {v:Value} {o:Option PyData} {l:Option Int} (r:nh X h v o) (e:lu o=some l):∃p:Option (Int × Tok),v=partValue p/\p.map (·.1)=l:=by
 cases o with
 | none=>(obtain rfl:=Option.some.inj e;clear e);exact ⟨none,r,rfl⟩
 | some d=>
  (refine dq (IU r e:) fun i t ay aF=> ?_;subst ay;subst aF)
  exact ⟨some (i,t),rfl,rfl⟩
theorem uC (p:Option (Int × Tok)):IsPart (partValue p) (p.map (·.1)):=by
 cases p with
 | none=>exact .none
 | some q=>exact .int _ _
theorem IV (x:Str) (l u:Option (Int × Tok)):(slicePicked x l u none)=Builtin.Str.strSliceIndices (l.map (·.1)) (u.map (·.1)) 1 x.length:=rfl
theorem IW {o:Value} {p:Option (Int × Tok)} {q:Option (Int × Tok)} {a:Addr} {d r:PyData} {dl du:Option PyData} {s:Shared} {E:Value->Shared->Prop} (hx:aN X s.heap) (C:Ctx w.params mg mb X s.heap) (ro:Rep X s.heap o d)
  (hs:s.heap.IsSlice a p q none) (h:km d dl du=some r) (hl:∀l,lu dl=some l->p.map (·.1)=l) (hu:∀l,lu du=some l->q.map (·.1)=l):
  wpAny (model prog w) A (getItem o (.ref a)) (fun v s'=>Kp w.params mg mb X s s'/\Rep X s'.heap v r) E s:=by
 cases d with
 | str x=>
  refine ai h fun l el h=>ai h fun u eu h=>aO h fun bQ h=> ?_
  (refine xE ro.str_inv fun t aP=> ?_;subst aP)
  (obtain rfl:=Option.some.inj h;clear h)
  refine wpAny_getItem_str_slice hs rfl ?_
  unfold sliceMade jK
  rw [IV,hl _ el,hu _ eu]
  have e1:((Option.map (fun x:Int × Tok=>x.1) (none:Option (Int × Tok))).getD 1==1)=true:=rfl
  rw [e1,Bool.true_and]
  by_cases c:((Builtin.Str.strSliceIndices l u 1 x.length).length==x.length)=true
  ·rw [if_pos c,if_pos c];exact ⟨Kp.refl C, .str _ _⟩
  ·rw [if_neg c,if_neg c]
   refine ⟨?_,Kp.toks C, .str _ _⟩
   have h1:(List.filterMap (fun IX=>x.cps[IX]?) (Builtin.Str.strSliceIndices l u 1 x.length)).length<=(Builtin.Str.strSliceIndices l u 1 x.length).length:=List.length_filterMap_le _ _
   have h2:(Builtin.Str.strSliceIndices l u 1 x.length).length<=x.length:=indices_len_le l u x.length
   show (List.toArray _).size<=sizeLine
   rw [List.size_toArray,sizeLine_eq]
   exact Zb cA 6 [_,_,_] [] bQ h2 h1
 | list xs=>
  refine ai h fun l el h=>ai h fun u eu h=>aO h fun bQ h=> ?_
  (refine cT ro.dY fun x ox vx nx bI t1 m1 e1 c1 d1 r1=> ?_;subst bI)
  (obtain rfl:=Option.some.inj h;clear h)
  have hlen:=r1.length
  rw [Array.length_toList] at hlen
  have hp:=uC p
  have hq:=uC q
  rw [hl _ el] at hp
  rw [hu _ eu] at hq
  refine wpAny_getItem_list_slice (st:=none) ⟨_,e1,c1,_,d1⟩ hs hp hq .none (by simp) ⟨Kp.newObj C _,Rep.new hx C ?_⟩ (by rw [sizeLine_eq];exact m4 hlen bQ)
  rw [B9]
  exact B8 r1 l u
 | _=>exact no h
end
section
variable {prog:Program} {w:World} {mg mb:Str->Option Value}
variable {A:Around} {ae:Shared} {X:List Addr} {lm:Bool} {env:Env} {sc:Scope} {ρ:bh}
theorem rR {f:Expr->Option PyData} {es:List Expr} {ds:List PyData} (hs:∀e p,f (.Starred e p)=none)
  (hf:∀e∈es,∀d,f e=some d->Ev prog w mg mb A X ae (eval e env) (fun v h=>Rep X h v d)) (h:cC f es=some ds) (pos:Pos):
  Ev prog w mg mb A X ae (spliced (backTo pos (starEach es env))) (fun vs h=>ax X h vs ds):=by
 induction es generalizing ds with
 | nil=>
  (obtain rfl:=Option.some.inj h;clear h)
  intro E s k
  exact spliced_nil ⟨Kp.refl k.ctx, .nil⟩
 | cons e es ih=>
  simp only [cC,Option.bind_eq_some_iff,Option.map_eq_some_iff] at h
  (refine tV h ?_;clear h;intro d hd fz eL ay;subst ay)
  have e1:backTo pos (starEach (e::es) env)=(false,eval e env)::backTo pos (starEach es env):=by
   cases e<;>first | rfl | (rw [hs] at hd;exact no hd)
  rw [e1]
  intro E s k
  refine spliced_cons ((hf e (.head _) d hd).then k fun v ab k₁ mq=> ?_)
  refine (ih (fun e' m=>hf e' (.tail _ m)) eL).then (k.trans k₁) fun vs aq k₂ jm=> ?_
  exact ⟨k₁.trans k₂, .cons (mq.grow k₂.grow) jm⟩
theorem xH {f:Expr->Option PyData} {es:List Expr} {ds:List PyData} (hs:∀e p,f (.Starred e p)=none) (h:cC f es=some ds) (pos:Pos):(backTo pos (starEach es env)).any (·.1)=false:=by
 induction es generalizing ds with
 | nil=>rfl
 | cons e es ih=>
  simp only [cC,Option.bind_eq_some_iff,Option.map_eq_some_iff] at h
  (refine tV h ?_;clear h;intro d hd fz eL aF;subst aF)
  have e1:backTo pos (starEach (e::es) env)=(false,eval e env)::backTo pos (starEach es env):=by
   cases e<;>first | rfl | (rw [hs] at hd;exact no hd)
  rw [e1,List.any_cons,ih eL];rfl
noncomputable def gM (v:Value) (h:Heap):Prop:=(∃id,v= .builtin id)\/(∃T,v= .type T)\/∃a o fd,v= .ref a/\a∉az/\h.get? a=some o/\o.data= .func fd
theorem gM.pT {M:Model} {v:Value} {h:Heap} (x:gM v h):∃k,(k=Keeper.frame\/k=Keeper.machine\/k=Keeper.boundFrame)/\Looks M h (keeperOf v) k:=by
 rcases x with ⟨id,rfl⟩ | ⟨T,rfl⟩ | ⟨a,o,fd,rfl,n,ho,hd⟩
 ·exact ⟨.machine, .inr (.inl rfl),Looks.of_pure rfl⟩
 ·exact ⟨.machine, .inr (.inl rfl),Looks.of_pure rfl⟩
 ·obtain ⟨c,dd,dt,sl⟩:=o
  simp only at hd;subst hd
  exact ⟨.frame, .inl rfl,(Looks.ld (part:=none) ho).andThen .now⟩
theorem Ca {M:Model} {E:Value->Shared->Prop} {s:Shared} {f:Value} {trees:List (Bool × Sem Value)} {Q:Args->Shared->Prop} (hp:trees.any (·.1)=false)
  (h:wpAny M A (spliced trees) (fun vs s'=>Q ⟨vs,[]⟩ s') E s):wpAny M A (evalArgs f true trees []) Q E s:=by
 cases trees with
 | nil=>
  unfold evalArgs
  show wpAny M A (spliced [] >>= _) Q E s
  refine wpAny_bind (wpAny_mono h (fun vs s' h'=> ?_) fun _ _ x=>x)
  refine wpAny_holding ?_
  exact wpAny_bind (wpAny_pure (wpAny_bind (wpAny_pure (wpAny_pure h'))))
 | cons t r=>
  obtain ⟨st,x⟩:=t
  cases st with
  | true=>simp at hp
  | false=>exact evalArgs_plain h
theorem gO {E:Value->Shared->Prop} {s:Shared} {f:Value} {first:List Value} {trees:List (Bool × Sem Value)} {pos:Pos} {Q:Value->Shared->Prop} (hp:trees.any (·.1)=false)
  (h:wpAny (model prog w) A (spliced trees) (fun vs s'=>gM f s'.heap/\wpAny (model prog w) A (call f (first++vs)) Q E s') E s):
  wpAny (model prog w) A (callWith pos f first trees []) Q E s:=
 callWith_of (P:=gM f) (by rw [hp];rfl) (fun h x=>x.pT) (Ca hp h)
theorem IY {f:Expr->Option PyData} {es:List Expr} {ds:List PyData} (hs:∀e p,f (.Starred e p)=none) (hx:aN X ae.heap)
  (hf:∀e∈es,∀d,f e=some d->Ev prog w mg mb A X ae (eval e env) (fun v h=>Rep X h v d)) (h:cC f es=some ds) (hl:ds.length<=4096) (pos:Pos):
  Ev prog w mg mb A X ae (eval (.List es pos) env) (fun v h=>Rep X h v (.list ds)):=by
 intro E s k
 refine List_ ((rR hs hf h pos).then k fun vs ab k₁ mq=> ?_)
 have bY:=mq.length
 refine wpAny_newObj_type ⟨k₁.trans (Kp.newObj k₁.ctx _), ?_⟩ (by show vs.toArray.size<=sizeLine;rw [List.size_toArray,sizeLine_eq];exact m4 bY hl)
 exact Rep.new (hx.grow (k.trans k₁).grow) k₁.ctx (by simpa using mq)
theorem IZ {f:Expr->Option PyData} {es:List Expr} {ds:List PyData} (hs:∀e p,f (.Starred e p)=none) (hx:aN X ae.heap)
  (hf:∀e∈es,∀d,f e=some d->Ev prog w mg mb A X ae (eval e env) (fun v h=>Rep X h v d)) (h:cC f es=some ds) (hl:ds.length<=4096) (n:Nat) (pos:Pos):
  Ev prog w mg mb A X ae (eval (.Tuple es n pos) env) (fun v h=>Rep X h v (.tuple ds)):=by
 intro E s k
 refine Tuple_ ((rR hs hf h pos).then k fun vs ab k₁ mq=> ?_)
 have bY:=mq.length
 refine wpAny_newObj_type ⟨k₁.trans (Kp.newObj k₁.ctx _), ?_⟩ (by show vs.toArray.size<=sizeLine;rw [List.size_toArray,sizeLine_eq];exact m4 bY hl)
 exact Rep.Iq (hx.grow (k.trans k₁).grow) k₁.ctx (by simpa using mq)
end
section
variable {prog:Program} {w:World} {P:Params} {mg mb:Str->Option Value}
variable {A:Around} {ae:Shared} {X:List Addr} {lm:Bool} {env:Env} {sc:Scope} {ρ:bh}
noncomputable def Tn (P:Params) (mg mb:Str->Option Value) (X W:List Addr) (s s':Shared):Prop:=
 ∃h' tk,s'={s with heap:=h',toks:=tk}/\(∀b o,b∉az->b∉W->s.heap.get? b=some o->h'.get? b=some o)/\Ctx P mg mb X h'
theorem Tn.trans {W:List Addr} {ab aq aS:Shared} (x:Tn P mg mb X W ab aq) (y:Tn P mg mb X W aq aS):Tn P mg mb X W ab aS:=by
 (refine aU x ?_;clear x;intro h1 t1 ay g1 _;subst ay)
 (refine aU y ?_;clear y;intro h2 t2 aF g2 c2;subst aF)
 exact ⟨h2,t2,rfl,fun b o n m e=>g2 b o n m (g1 b o n m e),c2⟩
theorem Tn.more {W W':List Addr} {s s':Shared} (x:Tn P mg mb X W s s') (h:∀a∈W,a∈W'):Tn P mg mb X W' s s':=by
 (refine aU x ?_;clear x;intro h1 t1 aP g1 c;subst aP)
 exact ⟨h1,t1,rfl,fun b o n m e=>g1 b o n (fun q=>m (h b q)) e,c⟩
theorem Tn.less {Y W:List Addr} {s s':Shared} (x:Tn P mg mb Y W s s') (h:∀a∈X,a∈Y):Tn P mg mb X W s s':=by
 (refine aU x ?_;clear x;intro h1 t1 bI g1 c;subst bI)
 exact ⟨h1,t1,rfl,g1,c.less h⟩
theorem Kp.tn {W:List Addr} {s s':Shared} (x:Kp P mg mb X s s'):Tn P mg mb X W s s':=by
 (refine aU x ?_;clear x;intro h1 t1 bK g1 c;subst bK)
 exact ⟨h1,t1,rfl,fun b o n _ e=>g1 b o n e,c⟩
theorem Tn.ctx {W:List Addr} {s s':Shared} (x:Tn P mg mb X W s s'):Ctx P mg mb X s'.heap:=by
 (refine aU x ?_;clear x;intro h1 t1 bO g1 c;subst bO);exact c
theorem Tn.get {W:List Addr} {s s':Shared} (x:Tn P mg mb X W s s') {b:Addr} {o:Obj} (n:b∉az) (m:b∉W) (e:s.heap.get? b=some o):s'.heap.get? b=some o:=by
 (refine aU x ?_;clear x;intro h1 t1 cF g1 c;subst cF);exact g1 b o n m e
theorem Tn.rep {Y W:List Addr} {s s':Shared} (x:Tn P mg mb X W s s') (h:∀a∈W,a∈Y) {v:Value} {d:PyData} (r:Rep Y s.heap v d):Rep Y s'.heap v d:=
 r.keeps (iw fun _ _ n m e=>x.get n (fun q=>m (h _ q)) e)
theorem Tn.rS {Y W:List Addr} {s s':Shared} (x:Tn P mg mb X W s s') (h:∀a∈W,a∈Y) {v:List Value} {d:List PyData} (r:ax Y s.heap v d):ax Y s'.heap v d:=
 r.keeps (iw fun _ _ n m e=>x.get n (fun q=>m (h _ q)) e)
theorem Tn.one {a:Addr} {s:Shared} {h':Heap} {tk:Nat} (C:Ctx P mg mb X s.heap) (hs:Heap.ExtBut a s.heap h') (ha:a∈X) (ht:a∉az):Tn P mg mb X [a] s {s with heap:=h',toks:=tk}:=
 ⟨h',tk,rfl,fun b o _ m e=>hs b o (fun q=>m (by rw [q];exact .head _)) e,
  C.but (iw fun b o _ m e=>hs b o (fun q=>m (q▸ha)) e) fun b o hb e=>hs b o (fun q=>ht (q▸hb)) e⟩
theorem Tn.aD {Y W:List Addr} {s s':Shared} (x:Tn P mg mb X W s s') (h:aN Y s.heap) (hw:∀a∈W,∃o,s'.heap.get? a=some o):aN Y s'.heap:=fun a ha=>by
 refine bV (h a ha:) fun n o e=> ?_
 by_cases q:a∈W
 ·exact ⟨n,hw a q⟩
 ·exact ⟨n,o,x.get n q e⟩
theorem uD {X N:List Addr} {h:Heap} (f:∀a∈N,h.get? a=none):∀b o,(ba X h).get? b=some o->(ba (N++X) h).get? b=some o:=fun b o e=>by
 refine bG (dI e:) fun e1 n m=> ?_
 refine gc e1 n fun q=> ?_
 rcases List.mem_append.mp q with q | q
 ·rw [f b q] at e1;exact no e1
 ·exact m q
theorem Rep.fresh {N:List Addr} {h:Heap} {v:Value} {d:PyData} (r:Rep X h v d) (f:∀a∈N,h.get? a=Option.none):Rep (N++X) h v d:=r.keeps (uD f)
theorem eA.fresh {N:List Addr} {h:Heap} {v:Value} {d:PyData} (r:eA X h v d) (f:∀a∈N,h.get? a=none):eA (N++X) h v d:=r.keeps (uD f)
theorem ax.fresh {N:List Addr} {h:Heap} {v:List Value} {d:List PyData} (r:ax X h v d) (f:∀a∈N,h.get? a=none):ax (N++X) h v d:=r.keeps (uD f)
theorem Ctx.fresh {N:List Addr} {h:Heap} (C:Ctx P mg mb X h) (f:∀a∈N,h.get? a=none):Ctx P mg mb (N++X) h:=C.but (uD f) fun _ _ _ e=>e
theorem Cb {h:Heap} {a:Addr} {m m':Str->Option Value} (x:h.Ns a m) (y:h.Ns a m'):m=m':=by
 (refine qY x ?_;clear x;intro o es ep e hd _ hm)
 (refine qY y ?_;clear y;intro o' Sl Sm e' gP _ ni)
 rw [e] at e';cases e'
 rw [hd] at gP;cases gP
 funext n
 rw [<- hm n,ni n]
theorem bP.store {h h':Heap} {x:Str} {v:Value} {d:PyData} {m:Str->Option Value} (R:bP lm X h env sc ρ) (hl:env.kindOf x=some .local) (hX:env.locals∈X) (ht:env.locals∉az)
  (ns:h.Ns env.locals m) (dA:h'.Ns env.locals (fun y=>if y=x then some v else m y)) (hs:Heap.SameBut env.locals h h') (r:Rep X h v d) (hc:∀y a,env.cells.lookup y=some a->a≠env.locals):bP lm X h' env sc (upd ρ x d):=by
 have k:∀b o,(ba X h).get? b=some o->(ba X h').get? b=some o:=iw fun b o _ m e=>hs.extBut b o (fun q=>m (q▸hX)) e
 refine ⟨R.kind,R.gl,R.bi,R.glob,R.loc,R.cell,fun y d' e=> ?_,R.cq,fun y a e=>let ⟨n,o,q⟩:=R.eY y a e;⟨n,o,hs.extBut a o (hc y a e) q⟩,R.lam⟩
 by_cases q:y=x
 ·subst q
  have:d'=d:=by simp only [upd,if_true] at e;exact (Option.some.inj e).symm
  subst this
  exact ⟨v, .loc hl ht dA (by simp), .inl (r.keeps k)⟩
 ·simp only [upd,if_neg q] at e
  refine aj (R.vals y d' e:) fun v' a b=> ?_
  refine ⟨v', ?_,b.keeps k⟩
  cases a with
  | loc bY n rT hv=>
   have:=Cb ns rT
   subst this
   exact .loc bY n dA (by simp only [if_neg q];exact hv)
  | cell bY gQ n hv=>exact .cell bY gQ n (hv.sameBut hs (hc _ _ gQ))
theorem bP.sub {h:Heap} {Cc:bh} (R:bP lm X h env sc Cc) (s:∀y d,ρ y=some d->Cc y=some d):bP lm X h env sc ρ:=
 ⟨R.kind,R.gl,R.bi,R.glob,R.loc,R.cell,fun y d e=>R.vals y d (s y d e),R.cq,R.eY,R.lam⟩
theorem bP.tn {W:List Addr} {s s':Shared} (R:bP lm X s.heap env sc ρ) (x:Tn P mg mb X W s s') (hw:∀a∈W,a∈X) (hl:env.locals∉W) (hc:∀y a,env.cells.lookup y=some a->a∉W):bP lm X s'.heap env sc ρ:=by
 refine ⟨R.kind,R.gl,R.bi,R.glob,R.loc,R.cell,fun y d e=> ?_,R.cq,fun y a e=>let ⟨n,o,q⟩:=R.eY y a e;⟨n,o,x.get n (hc y a e) q⟩,R.lam⟩
 refine aj (R.vals y d e:) fun v a b=> ?_
 refine ⟨v, ?_,b.keeps (iw fun _ _ n m e=>x.get n (fun q=>m (hw _ q)) e)⟩
 cases a with
 | loc h1 n ns hv=>exact .loc h1 n (let ⟨o,es,ep,e,r⟩:=ns;⟨o,es,ep,x.get n hl e,r⟩) hv
 | cell h1 h2 n hv=>exact .cell h1 h2 n (let ⟨o,e,r⟩:=hv;⟨o,x.get n (hc _ _ h2) e,r⟩)
end
section
set_option backward.match.sparseCases true
section
variable {prog:Program} {w:World} {mg mb:Str->Option Value}
variable {A:Around} {ae:Shared} {X:List Addr} {lm:Bool} {env:Env} {sc:Scope} {ρ:bh}
inductive nj (X:List Addr) (h:Heap):Value->List PyData->Prop
 | list {v:Value} {ds:List PyData} (r:Rep X h v (.list ds)):nj X h v ds
 | range {r:Addr} {a b c:Int} {t u x:Tok} (n:r∉az) (hr:IsRange h r a b c t u x) (hs:Builtin.Range.small a b c=true) (hc:0 < c):nj X h (.ref r) ((rangeInts a b c).map .int)
structure jN (prog:Program) (w:World) (mg mb:Str->Option Value) (A:Around) (X:List Addr) (I:Addr) (ds:List PyData) (St:Nat->Heap->Prop):Prop where
 item:∀(i:Nat) (d:PyData) (s:Shared) (Q:Option Value->Shared->Prop) (E:Value->Shared->Prop),ds[i]? =some d->St i s.heap->Ctx w.params mg mb X s.heap->
  (∀v s',Tn w.params mg mb X [I] s s'->(∃o,s'.heap.get? I=some o)->Rep X s'.heap v d->St (i+1) s'.heap->Q (some v) s')->wpAny (model prog w) A (pyNext (.ref I)) Q E s
 done:∀(s:Shared) (Q:Option Value->Shared->Prop) (E:Value->Shared->Prop),St ds.length s.heap->Ctx w.params mg mb X s.heap->
  (∀s',Tn w.params mg mb X [I] s s'->Q none s')->wpAny (model prog w) A (pyNext (.ref I)) Q E s
 frame:∀(i:Nat) (h h':Heap),St i h->(∀b o,b∉az->b=I\/b∉X->h.get? b=some o->h'.get? b=some o)->St i h'
 owned:∀(i:Nat) (bz:Expr) (v:Value) (s:Shared) (Q:Unit->Shared->Prop) (E:Value->Shared->Prop),St i s.heap->Q () s->wpAny (model prog w) A (letOwnedTupleGo bz (.ref I) v) Q E s
 self:∀(i:Nat) (s:Shared) (Q:Value->Shared->Prop) (E:Value->Shared->Prop),St i s.heap->Q (.ref I) s->wpAny (model prog w) A (pyIter (.ref I)) Q E s
theorem Cd {bz:Expr} {v:Value} {I:Addr} {o:Obj} {n:String} {vs:Array Value} {s:Shared} {Q:Unit->Shared->Prop} {E:Value->Shared->Prop} (ho:s.heap.get? I=some o) (hc:o.cls= .type n) (hd:o.data= .fields vs)
  (hn:(["enumerate","zip","dict_itemiterator","dict_reverseitemiterator","odict_iterator","itertools.zip_longest","itertools.pairwise"].contains n)=false) (h:Q () s):wpAny (model prog w) A (letOwnedTupleGo bz (.ref I) v) Q E s:=by
 have key:wpAny (model prog w) A (match (Value.ref I,v) with
  | (.ref r, .ref a)=>(do
   let o <- load r
   match o.cls,o.data with
   | .type n, .fields vs=>
    if ["enumerate","zip","dict_itemiterator","dict_reverseitemiterator","odict_iterator","itertools.zip_longest","itertools.pairwise"].contains n&&vs[0]? ==some (rawInt a) then do
     rule "for.unpacks-the-owned-tuple"
     updateField r 0 .none
    else pure ()
   | _,_=>pure ())
  | _=>pure ()) Q E s:=by
  cases v with
  | ref a=>
   refine wpAny_bind (wpAny_load ho ?_)
   rw [hc,hd]
   dsimp only
   rw [hn]
   exact wpAny_pure h
  | _=>exact wpAny_pure h
 unfold letOwnedTupleGo
 cases bz<;>first | exact wpAny_pure h | exact key
theorem jN.ofList (hh:A.handled=none) {I l:Addr} {vs:Array Value} {ds:List PyData} (hI:I∈X) (fT:I∉az) (hl:l∉X) (bg:l∉az):
  jN prog w mg mb A X I ds (fun i h=>h.IsListIter I l i/\h.IsList l vs/\ax X h vs.toList ds) where
 item:=fun i d s Q E hd st C hQ=>by
  refine aj (st.2.2.get hd:) fun v hv rv=> ?_
  refine wpAny_pyNext_list_item st.1 st.2.1 (x:=v) (by simpa using hv) fun h' pU bR=> ?_
  have T:Tn w.params mg mb X [I] s {s with heap:=h'}:=Tn.one (tk:=s.toks) C bR.extBut hI fT
  refine hQ v _ T ?_ (T.rep (by intro a ha;rw [List.mem_singleton.mp ha];exact hI) rv) ⟨pU,st.2.1.extBut bR.extBut (fun e=>hl (e▸hI)),T.rS (by intro a ha;rw [List.mem_singleton.mp ha];exact hI) st.2.2⟩
  (refine aj pU ?_;clear pU;intro o ho _)
  exact ⟨o,ho⟩
 done:=fun s Q E st C hQ=>by
  have hlen:=st.2.2.length
  rw [Array.length_toList] at hlen
  exact wpAny_pyNext_list_end hh st.1 st.2.1 (by simp [hlen]) fun h' gh=>hQ _ (Tn.one (tk:=s.toks) C gh hI fT)
 frame:=fun i h h' st k=>⟨st.1.at fun o e=>k I o fT (.inl rfl) e,st.2.1.at fun o e=>k l o bg (.inr hl) e,st.2.2.keeps (iw fun b o n m e=>k b o n (.inr m) e)⟩
 owned:=fun _ bz v s Q E st hQ=>by
  refine ey st.1 fun o ho hc hd=> ?_
  exact Cd ho hc hd (by decide) hQ
 self:=fun _ _ _ _ st hQ=>wpAny_pyIter_listiter st.1 hQ
theorem rangeInts_get {a b c:Int} {i:Nat} {d:PyData} (h:((rangeInts a b c).map PyData.int)[i]? =some d):d= .int (a+i*c)/\i < (Builtin.Range.rangeSize a b c).toNat:=by
 unfold rangeInts at h
 simp only [List.map_map,List.getElem?_map,Option.map_eq_some_iff,Function.comp] at h
 (refine aj h ?_;clear h;intro j hj ay;subst ay)
 obtain ⟨bg,e⟩:=List.getElem?_eq_some_iff.mp hj
 rw [List.getElem_range] at e
 subst e
 exact ⟨rfl,by simpa using bg⟩
theorem Ce {a b c:Int}:(rangeInts a b c).length=(Builtin.Range.rangeSize a b c).toNat:=by simp [rangeInts]
theorem xI {a b c:Int} (hc:0 < c):0<=Builtin.Range.rangeSize a b c:=by
 unfold Builtin.Range.rangeSize
 rw [if_pos hc]
 by_cases q:a < b
 ·rw [if_pos q];exact Int.le_add_one (Int.ediv_nonneg (by exact Zb Z1 34 [] [_,_] q) (Int.le_of_lt hc))
 ·rw [if_neg q];exact Int.le_refl _
theorem Cg {a b c:Int} (hc:0 < c) {n:Int} (h0:0<=n) (h:b - a<=n):Builtin.Range.rangeSize a b c<=n:=by
 unfold Builtin.Range.rangeSize
 rw [if_pos hc]
 by_cases q:a < b
 ·rw [if_pos q];exact Int.le_trans (Int.add_le_add_right (Int.ediv_le_self _ (by exact Zb Z1 34 [] [_,_] q)) 1) (by rw [Int.sub_add_cancel];exact h)
 ·rw [if_neg q];exact h0
theorem jN.ofRange (hh:A.handled=none) {I:Addr} {a b c:Int} (hI:I∈X) (fT:I∉az) (hc:0 < c):
  jN prog w mg mb A X I ((rangeInts a b c).map .int) (fun i h=>IsRangeIter h I (a+(i:Nat)*c) (Builtin.Range.rangeSize a b c - (i:Nat)) c) where
 item:=fun i d s Q E hd st C hQ=>by
  (refine xA (rangeInts_get hd:) fun aF hi=> ?_;subst aF)
  refine wpAny_pyNext_range_item st (by exact Zb cA 11 [_] [_] hi) fun h' pU bR=> ?_
  refine hQ _ _ (Tn.one C bR.extBut hI fT) ⟨_,pU⟩ (.int _ _) ?_
  have e1:a+((i+1:Nat):Int)*c=a+(i:Int)*c+c:=by push_cast;rw [Int.add_mul,Int.one_mul,Int.add_assoc]
  have e2:Builtin.Range.rangeSize a b c - ((i+1:Nat):Int)=Builtin.Range.rangeSize a b c - (i:Nat) - 1:=by push_cast;exact Zb cA 12 [_] [_]
  rw [e1,e2]
  exact pU
 done:=fun s Q E st C hQ=>by
  refine wpAny_pyNext_range_end hh st ?_ fun h' gh=>hQ _ (Tn.one (tk:=s.toks) C gh hI fT)
  rw [List.length_map,Ce]
  have:=xI (a:=a) (b:=b) hc
  exact Zb cA 13 [] [_]
 frame:=fun i h h' st k=>k I _ fT (.inl rfl) st
 owned:=fun _ bz v s Q E st hQ=>Cd st rfl rfl (by decide) hQ
 self:=fun i s Q E st hQ=>wpAny_pyIter_rangeiter st hQ
theorem rU (hA:cG A) {v:Value} {ds:List PyData} {s:Shared} {Q:Value->Shared->Prop} {E:Value->Shared->Prop} (hx:aN X s.heap) (C:Ctx w.params mg mb X s.heap) (x:nj X s.heap v ds)
  (h:∀s',Kp w.params mg mb X s s'->s.heap.get? s.heap.objs.size=none->aN (s.heap.objs.size::X) s'.heap->Ctx w.params mg mb (s.heap.objs.size::X) s'.heap->
   (∀N:List Addr,(∀a∈N,s'.heap.get? a=none)->∃St,jN prog w mg mb A (s.heap.objs.size::(N++X)) s.heap.objs.size ds St/\St 0 s'.heap)->s'.heap.objs.size=s.heap.objs.size+1->Q (.ref s.heap.objs.size) s'):
  wpAny (model prog w) A (pyIter v) Q E s:=by
 have hn:s.heap.get? s.heap.objs.size=none:=by
  cases q:s.heap.get? s.heap.objs.size with
  | none=>rfl
  | some o=>exact absurd (Heap.lt_size q) (Nat.lt_irrefl _)
 have ht:s.heap.objs.size∉az:=fQ C
 have fr:∀a∈[s.heap.objs.size],s.heap.get? a=none:=fun a ha=>by rw [List.mem_singleton.mp ha];exact hn
 have ctx:∀o,Ctx w.params mg mb (s.heap.objs.size::X) (s.heap.push o):=fun o=>(C.fresh fr).keeps fun _ _ e=>Heap.get?_push_of_some _ e
 have aD:∀o,o.isFreed=false->aN (s.heap.objs.size::X) (s.heap.push o):=fun o ho a ha=>by
  rcases List.mem_cons.mp ha with rfl | ha
  ·exact ⟨ht,o,Heap.get?_push_size _ ho⟩
  ·refine bV (hx a ha:) fun n o' e=> ?_
   exact ⟨n,o',Heap.get?_push_of_some _ e⟩
 cases x with
 | list r=>
  (refine cT r.dY fun l ol vs n aP t1 m1 e1 c1 d1 r1=> ?_;subst aP)
  have hL:s.heap.IsList l vs:=⟨_,e1,c1,_,d1⟩
  have dZ:l≠s.heap.objs.size:=Nat.ne_of_lt (Heap.lt_size e1)
  refine wpAny_pyIter_list hL ?_
  refine h _ (Kp.newObj C _) hn (aD _ rfl) (ctx _) (fun N hN=> ?_) (Heap.size_push _ _)
  refine ⟨_,jN.ofList (l:=l) (vs:=vs) hA.hd (.head _) ht (fun q=> ?_) t1,⟨⟨_,Heap.get?_push_size _ rfl,rfl,rfl⟩,hL.push _, ?_⟩⟩
  ·rcases List.mem_cons.mp q with q | q
   ·exact dZ q
   ·rcases List.mem_append.mp q with q | q
    ·have:=hN l q
     rw [show ({s with heap:=s.heap.push _}:Shared).heap.get? l=some ol from Heap.get?_push_of_some _ e1] at this;cases this
    ·exact m1 q
  ·have f2:∀a∈s.heap.objs.size::N,s.heap.get? a=none:=fun a ha=>by
    rcases List.mem_cons.mp ha with rfl | ha
    ·exact hn
    ·cases q:s.heap.get? a with
     | none=>rfl
     | some o=>
      have:=hN a ha
      rw [show ({s with heap:=s.heap.push _}:Shared).heap.get? a=some o from Heap.get?_push_of_some _ q] at this;cases this
   exact (r1.fresh (N:=s.heap.objs.size::N) f2).grow (aA.of fun _ _ e=>Heap.get?_push_of_some _ e)
 | range n hr hs hc=>
  refine wpAny_pyIter_range hr hs ?_
  refine h _ (Kp.newObj C _) hn (aD _ rfl) (ctx _) (fun N hN=>⟨_,jN.ofRange hA.hd (.head _) ht hc, ?_⟩) (Heap.size_push _ _)
  show IsRangeIter _ _ _ _ _
  simpa using Heap.get?_push_size _ rfl
end
end
noncomputable def oO (target iter:Expr) (ifs:List Expr) (it:Value) (env:Env) (emit:Sem Fin->Sem Fin) (c:Code):Sem Fin:=do
 standAt iter.pos
 match <- pyNext it with
 | none=>pure (.done .next)
 | some v=>
  letOwnedTupleGo target it v
  assign target env v
  let mut ok:=true
  for c in ifs do
   if ok then ok <- isTrue c env (eval c env)
  if ok then emit (again c) else again c
noncomputable def rV (elt:Expr) (acc:Value) (env:Env) (t:Sem Fin):Sem Fin:=do
 (do let _ <- call (.builtin "list.append") [acc, <- eval elt env])
 t
noncomputable def uE (e:Expr) (iter:Expr) (acc:Value) (env:Env) (t:Sem Fin):Sem Fin:=do
 let x <- eval iter env
 standAt iter.pos
 let x <- foldedSetIterable iter env x
 let _ <- runOwn (.compStart e 1 (<- holding [x] (pyIter x)) acc env) env
 t
theorem I0 (elt target iter:Expr) (ifs:List Expr) (scope:Scope) (pos:Pos) (it acc:Value) (env:Env):
  compTurn (.ListComp elt [⟨target,iter,ifs,0⟩] scope pos) 0 it acc env=oO target iter ifs it env (rV elt acc env) (.compLoop (.ListComp elt [⟨target,iter,ifs,0⟩] scope pos) 0 it acc env):=by rfl
theorem I1 (elt target iter lG kn:Expr) (ifs lH:List Expr) (scope:Scope) (pos:Pos) (it acc:Value) (env:Env):
  compTurn (.ListComp elt [⟨target,iter,ifs,0⟩,⟨lG,kn,lH,0⟩] scope pos) 0 it acc env=oO target iter ifs it env (uE (.ListComp elt [⟨target,iter,ifs,0⟩,⟨lG,kn,lH,0⟩] scope pos) kn acc env) (.compLoop (.ListComp elt [⟨target,iter,ifs,0⟩,⟨lG,kn,lH,0⟩] scope pos) 0 it acc env):=by rfl
theorem I2 (elt target iter lG kn:Expr) (ifs lH:List Expr) (scope:Scope) (pos:Pos) (it acc:Value) (env:Env):
  compTurn (.ListComp elt [⟨lG,kn,lH,0⟩,⟨target,iter,ifs,0⟩] scope pos) 1 it acc env=oO target iter ifs it env (rV elt acc env) (.compLoop (.ListComp elt [⟨lG,kn,lH,0⟩,⟨target,iter,ifs,0⟩] scope pos) 1 it acc env):=by rfl
noncomputable def uF (c:Code) (target iter:Expr) (ifs:List Expr) (it:Value) (env:Env) (emit:Sem Fin->Sem Fin):Prop:=
 ∃elt gens scope pos depth acc,c= .compLoop (.ListComp elt gens scope pos) depth it acc env/\compTurn (.ListComp elt gens scope pos) depth it acc env=oO target iter ifs it env emit c
section
variable {prog:Program} {w:World} {mg mb:Str->Option Value}
variable {A:Around} {ae:Shared} {X:List Addr} {lm:Bool} {env:Env} {sc:Scope} {ρ:bh}
theorem Ci {c:Code} {target iter:Expr} {ifs:List Expr} {it:Value} {emit:Sem Fin->Sem Fin} {R:Result->Shared->Prop} {s:Shared} (hc:uF c target iter ifs it env emit)
  (h:∀E,wpAny (model prog w) A (oO target iter ifs it env emit c) (fun fin s'=>match fin with | .done f=>R (.ok f) s' | .again c'=>c'.quiet=true/\codeAny (model prog w) A c' R s') E s):
  codeAny (model prog w) A c R s:=by
 obtain ⟨elt,gens,scope,pos,depth,acc,rfl,e⟩:=hc
 refine codeAny_of_tree ?_
 show wpAny _ A ((compTurn (.ListComp elt gens scope pos) depth it acc env).onRaise (fun x=>do noteFrame x env;theTreesLotGoes x)) _ _ s
 refine wpAny_noted ?_
 rw [e]
 exact h _
structure CS (P:Params) (mg mb:Str->Option Value) (lm:Bool) (X:List Addr) (D:Addr) (env:Env) (ao:Scope) (ρ:bh) (out:List PyData) (s:Shared):Prop where
 ctx:Ctx P mg mb X s.heap
 aD:aN X s.heap
 acc:∃ys,s.heap.PlainList D ys/\ax X s.heap ys.toList out
 ns:∃m,s.heap.Ns env.locals m
 env:bP lm X s.heap env ao ρ
structure CF (X:List Addr) (D I:Addr) (env:Env):Prop where
 dx:D∈X
 cx:env.locals∈X
 ix:I∈X
 dt:D∉az
 ct:env.locals∉az
 it:I∉az
 dc:D≠env.locals
 di:D≠I
 ci:env.locals≠I
 cells:∀y a,env.cells.lookup y=some a->a≠D/\a≠env.locals/\a≠I
theorem CS.kp {D:Addr} {out:List PyData} {s s':Shared} {P:Params} (x:CS P mg mb lm X D env sc ρ out s) (k:Kp P mg mb X s s') (hd:D∉az) (hc:env.locals∉az):CS P mg mb lm X D env sc ρ out s':=by
 refine aj x.acc fun ys h1 h2=> ?_
 refine xE x.ns fun m h3=> ?_
 exact ⟨k.ctx,x.aD.grow k.grow,⟨ys,h1.at fun o e=>k.grow _ o hd e,h2.grow k.grow⟩,⟨m,uB k.grow hc h3⟩,x.env.grow k.grow⟩
theorem CS.less {D:Addr} {out:List PyData} {s:Shared} {P:Params} {Y:List Addr} (x:CS P mg mb lm Y D env sc ρ out s) (h:∀a∈X,a∈Y):CS P mg mb lm X D env sc ρ out s:=by
 refine aj x.acc fun ys h1 h2=> ?_
 exact ⟨x.ctx.less h,fun a ha=>x.aD a (h a ha),⟨ys,h1,h2.more h⟩,x.ns,⟨x.env.kind,x.env.gl,x.env.bi,x.env.glob,x.env.loc,x.env.cell,fun y d e=>let ⟨v,p,q⟩:=x.env.vals y d e;⟨v,p,q.more h⟩,x.env.cq,x.env.eY,x.env.lam⟩⟩
noncomputable def xJ (prog:Program) (w:World) (A:Around) (emit:Sem Fin->Sem Fin) (s:Shared) (I3:Shared->Prop):Prop:=
 ∀(t:Sem Fin) (Q:Fin->Shared->Prop) (E:Value->Shared->Prop),(∀s',I3 s'->wpAny (model prog w) A t Q E s')->wpAny (model prog w) A (emit t) Q E s
noncomputable def rW (ifs:List Expr) (env:Env):Sem Bool:=forIn ifs true fun c r=>if r=true then do let ok <- isTrue c env (eval c env);pure (ForInStep.yield ok) else pure (ForInStep.yield r)
noncomputable def BodyOk (prog:Program) (w:World) (mg mb:Str->Option Value) (A:Around) (lm:Bool) (X:List Addr) (D:Addr) (env:Env) (ao:Scope) (ifs:List Expr) (emit:Sem Fin->Sem Fin) (ρ:bh) (x:Str) (body:PyData->Option (List PyData)):Prop:=
 ∀d l out s E,body d=some l->out.length+l.length<=4096->CS w.params mg mb lm X D env ao (upd ρ x d) out s->
  wpAny (model prog w) A (rW ifs env) (fun ok ab=>
   if ok=true then xJ prog w A emit ab (fun aq=>Tn w.params mg mb X [D,env.locals] s aq/\CS w.params mg mb lm X D env ao (upd ρ x d) (out++l) aq)
   else Tn w.params mg mb X [D,env.locals] s ab/\CS w.params mg mb lm X D env ao (upd ρ x d) (out++l) ab) E s
theorem Cj {c:Code} {x:Str} {px:Pos} {iter:Expr} {ifs:List Expr} {emit:Sem Fin->Sem Fin} {D I:Addr} {items:List PyData} {St:Nat->Heap->Prop} {body:PyData->Option (List PyData)}
  (hc:uF c (.Name x px) iter ifs (.ref I) env emit) (hq:c.quiet=true) (F:CF (I::X) D I env) (iX:I∉X) (hl:env.kindOf x=some .local) (hk:env.scope.kind= .function) (uG:ρ x=none)
  (W:jN prog w mg mb A (I::X) I items St) (hb:BodyOk prog w mg mb A lm (I::X) D env sc ifs emit ρ x body):
  ∀(rem:List PyData) (i:Nat) (out res:List PyData) (s:Shared),items.drop i=rem->i<=items.length->jl body rem=some res->out.length+res.length<=4096->CS w.params mg mb lm (I::X) D env sc ρ out s->St i s.heap->
   codeAny (model prog w) A c (fun r s'=>r= .ok .next/\Tn w.params mg mb (I::X) [D,env.locals,I] s s'/\CS w.params mg mb lm X D env sc ρ (out++res) s') s:=by
 have hp:(env.scope.kind== .class||(env.scope.kind== .module&&env.locals != env.globals))=false:=by rw [hk];rfl
 have uH:∀a∈[I],a∈I::X:=fun a ha=>by rw [List.mem_singleton.mp ha];exact F.ix
 have I6:∀a∈[env.locals],a∈I::X:=fun a ha=>by rw [List.mem_singleton.mp ha];exact F.cx
 intro rem
 induction rem with
 | nil=>
  intro i out res s hd hi hg hlen S st
  (obtain rfl:=Option.some.inj hg;clear hg)
  refine Ci hc fun E=> ?_
  unfold oO
  have I7:i=items.length:=by
   have:items.length<=i:=by simpa using hd
   exact Zb Z9 23 [_,_] [] this hi
  subst I7
  refine wpAny_bind (wpAny_standAt (wpAny_bind (W.done s _ _ st S.ctx fun s' T=> ?_)))
  refine wpAny_pure ⟨rfl,T.more (by simp), ?_⟩
  rw [List.append_nil]
  have S':=S.less (X:=X) fun a ha=> .tail _ ha
  refine aj S.acc fun ys h1 h2=> ?_
  refine xE S.ns fun m h3=> ?_
  have E':=S.env.tn T uH (by simp [F.ci]) fun y a e=>by simp [(F.cells y a e).2.2]
  refine ⟨T.ctx.less fun a ha=> .tail _ ha,fun a ha=> ?_,⟨ys,h1.at fun o e=>T.get F.dt (by simp [F.di]) e,(T.rS uH h2).more fun a ha=> .tail _ ha⟩,⟨m,let ⟨o,es,ep,e,r⟩:=h3;⟨o,es,ep,T.get F.ct (by simp [F.ci]) e,r⟩⟩,
   ⟨E'.kind,E'.gl,E'.bi,E'.glob,E'.loc,E'.cell,fun y d e=>let ⟨v,p,q⟩:=E'.vals y d e;⟨v,p,q.more fun a ha=> .tail _ ha⟩,E'.cq,E'.eY,E'.lam⟩⟩
  refine bV (S'.aD a ha:) fun n o e=> ?_
  exact ⟨n,o,T.get n (fun q=>iX (List.mem_singleton.mp q▸ha)) e⟩
 | cons d rem ih=>
  intro i out res s hd hi hg hlen S st
  simp only [jl,Option.bind_eq_some_iff,Option.map_eq_some_iff] at hg
  (refine tV hg ?_;clear hg;intro l hM Ck hr ay;subst ay)
  rw [List.length_append] at hlen
  have Cm:items[i]? =some d:=by
   have:(items.drop i)[0]? =some d:=by rw [hd];rfl
   simpa using this
  have bg:i < items.length:=(List.getElem?_eq_some_iff.mp Cm).1
  refine Ci hc fun E=> ?_
  unfold oO
  refine wpAny_bind (wpAny_standAt (wpAny_bind (W.item i d s _ _ Cm st S.ctx fun v ab T hI rv oP=> ?_)))
  refine wpAny_bind (wpAny_of_eq (show letOwnedTupleGo (.Name x px) (.ref I) v=pure () from rfl) ?_)
  refine aj S.acc fun ys h1 h2=> ?_
  refine xE S.ns fun m h3=> ?_
  have Cn:ab.heap.Ns env.locals m:=let ⟨o,es,ep,e,r⟩:=h3;⟨o,es,ep,T.get F.ct (by simp [F.ci]) e,r⟩
  refine wpAny_bind (wpAny_assign_Name (wpAny_storeName_local hl Cn (fun bH uI pV=> ?_) hp))
  have kr:Tn w.params mg mb (I::X) [env.locals] ab {ab with heap:=bH,toks:=ab.toks+1}:=Tn.one T.ctx pV.extBut F.cx F.ct
  have I8:Tn w.params mg mb (I::X) [D,env.locals,I] s {ab with heap:=bH,toks:=ab.toks+1}:=(T.more (by simp)).trans (kr.more (by simp))
  have I9:CS w.params mg mb lm (I::X) D env sc (upd ρ x d) out {ab with heap:=bH,toks:=ab.toks+1}:=by
   refine ⟨kr.ctx,fun a ha=> ?_,⟨ys,h1.at fun o e=>kr.get F.dt (by simp [F.dc]) (T.get F.dt (by simp [F.di]) e),kr.rS I6 (T.rS uH h2)⟩,⟨_,uI⟩, ?_⟩
   ·refine bV (S.aD a ha:) fun n o e=> ?_
    by_cases q:a=env.locals
    ·(refine lg uI ?_;clear uI;intro o' _ _ e' _);exact ⟨n,o',q▸e'⟩
    ·by_cases q':a=I
     ·(refine xE hI ?_;clear hI;intro o' e')
      exact ⟨n,o',kr.get n (by simp [q]) (q'▸e')⟩
     ·exact ⟨n,o,kr.get n (by simp [q]) (T.get n (by simp [q']) e)⟩
   ·exact (S.env.tn T uH (by simp [F.ci]) fun y a e=>by simp [(F.cells y a e).2.2]).store hl F.cx F.ct Cn uI pV rv fun y a e=>(F.cells y a e).2.1
  have uJ:St (i+1) bH:=W.frame _ _ _ oP fun b o n m e=>kr.get n (by
   intro q
   have q:=List.mem_singleton.mp q
   rcases m with m | m
   ·exact F.ci (q▸m)
   ·exact m (q▸F.cx)) e
  have stI:∀aS,Tn w.params mg mb (I::X) [D,env.locals] {ab with heap:=bH,toks:=ab.toks+1} aS->St (i+1) aS.heap:=fun aS uK=>W.frame _ _ _ uJ fun b o n m e=>uK.get n (by
   intro q
   rcases List.mem_cons.mp q with q | q
   ·rcases m with m | m
    ·exact F.di (q▸m)
    ·exact m (q▸F.dx)
   ·have q:=List.mem_singleton.mp q
    rcases m with m | m
    ·exact F.ci (q▸m)
    ·exact m (q▸F.cx)) e
  -- uL turn is over:go on
  have on:∀aS,Tn w.params mg mb (I::X) [D,env.locals] {ab with heap:=bH,toks:=ab.toks+1} aS/\CS w.params mg mb lm (I::X) D env sc (upd ρ x d) (out++l) aS->
    c.quiet=true/\codeAny (model prog w) A c (fun r s'=>r= .ok .next/\Tn w.params mg mb (I::X) [D,env.locals,I] s s'/\CS w.params mg mb lm X D env sc ρ (out++(l++Ck)) s') aS:=by
   rintro aS ⟨uK,rX⟩
   refine ⟨hq, ?_⟩
   have:=ih (i+1) (out++l) Ck aS (by rw [<- List.drop_drop,hd];rfl) (by exact bg) hr (by rw [List.length_append];exact Zb Z9 24 [_,_,_] [] hlen)
    ⟨rX.ctx,rX.aD,rX.acc,rX.ns,rX.env.sub fun y d' e=>by
     by_cases q:y=x
     ·subst q;rw [uG] at e;exact no e
     ·simp only [upd,if_neg q];exact e⟩ (stI aS uK)
   refine codeAny_mono this fun r s' h=>⟨h.1,(I8.trans (uK.more (by simp))).trans h.2.1, ?_⟩
   have e:=h.2.2
   rw [List.append_assoc] at e
   exact e
  refine wpAny_bind ?_
  show wpAny (model prog w) A (rW ifs env) _ _ _
  refine wpAny_mono (hb d l out _ E hM (by exact Zb Z9 25 [_,_,_] [] hlen) I9) (fun ok aS h=> ?_) fun _ _ e=>e
  cases ok with
  | false=>
   simp only [Bool.false_eq_true,if_false] at h ⊢
   exact wpAny_pure (on _ h)
  | true=>
   simp only [if_true] at h ⊢
   exact h _ _ _ fun fG oQ=>wpAny_pure (on _ oQ)
end
section
variable {prog:Program} {w:World} {mg mb:Str->Option Value}
variable {A:Around} {ae:Shared} {X:List Addr} {lm:Bool} {env:Env} {sc:Scope} {ρ:bh}
inductive iB:List Comprehension->Nat->Comprehension->List Comprehension->Prop
 | one {g:Comprehension}:g.is_async=0->iB [g] 0 g []
 | rY {g g':Comprehension}:g.is_async=0->g'.is_async=0->iB [g,g'] 0 g [g']
 | xK {jI g:Comprehension}:jI.is_async=0->g.is_async=0->iB [jI,g] 1 g []
structure br (prog:Program) (w:World) (mg mb:Str->Option Value) (A:Around) (lm:Bool) (I:aK):Prop where
 e:∀{X:List Addr} {ae:Shared} {env:Env} {sc:Scope} {ρ:bh} {e:Expr} {d:PyData},Ctx w.params mg mb X ae.heap->aN X ae.heap->bP lm X ae.heap env sc ρ->I.e sc ρ e=some d->
  Ev prog w mg mb A X ae (eval e env) (fun v h=>Rep X h v d)
 t:∀{X:List Addr} {ae:Shared} {env:Env} {sc:Scope} {ρ:bh} {e:Expr} {b:Bool},Ctx w.params mg mb X ae.heap->aN X ae.heap->bP lm X ae.heap env sc ρ->I.t sc ρ e=some b->
  Ev prog w mg mb A X ae (isTrue e env (eval e env)) (fun b' _=>b'=b)
 i:∀{X:List Addr} {ae:Shared} {env:Env} {sc:Scope} {ρ:bh} {e:Expr} {ds:List PyData},Ctx w.params mg mb X ae.heap->aN X ae.heap->bP lm X ae.heap env sc ρ->I.i sc ρ e=some ds->
  Ev prog w mg mb A X ae (eval e env) (fun v h=>nj X h v ds)
 g:∀{X:List Addr} {s:Shared} {env:Env} {ao:Scope} {ρ:bh} {items ds out:List PyData} {g:Comprehension} {gs gens:List Comprehension} {elt:Expr} {depth:Nat} {scope:Scope} {pos:Pos} {D It:Addr} {St:Nat->Heap->Prop},
  I.g ao ρ items g gs elt=some ds->iB gens depth g gs->CF (It::X) D It env->It∉X->jN prog w mg mb A (It::X) It items St->St 0 s.heap->CS w.params mg mb lm (It::X) D env ao ρ out s->out.length+ds.length<=4096->
  codeAny (model prog w) A (.compLoop (.ListComp elt gens scope pos) depth (.ref It) (.ref D) env) (fun r s'=>r= .ok .next/\Tn w.params mg mb (It::X) [D,env.locals,It] s s'/\CS w.params mg mb lm X D env ao ρ (out++ds) s') s
 star:∀(sc:Scope) (ρ:bh) (e:Expr) (p:Pos),I.e sc ρ (.Starred e p)=none
theorem Ja (ifs:List Expr) (env:Env):(forIn ifs false fun c r=>if r=true then do let ok <- isTrue c env (eval c env);pure (ForInStep.yield ok) else pure (ForInStep.yield r):Sem Bool)=pure false:=by
 induction ifs with
 | nil=>rfl
 | cons c r ih=>rw [List.forIn_cons];exact ih
theorem Jb {ifs:List Expr} {t:Expr->Option Bool} {b:Bool} (ht:∀e∈ifs,∀b,t e=some b->Ev prog w mg mb A X ae (isTrue e env (eval e env)) (fun b' _=>b'=b)) (h:jL t ifs=some b):
  Ev prog w mg mb A X ae (rW ifs env) (fun b' _=>b'=b):=by
 induction ifs with
 | nil=>(obtain rfl:=Option.some.inj h;clear h);intro E s k;exact wpAny_pure ⟨Kp.refl k.ctx,rfl⟩
 | cons c r ih=>
  simp only [jL,Option.bind_eq_some_iff] at h
  (refine aj h ?_;clear h;intro Jc h1 h2)
  intro E s k
  unfold rW
  rw [List.forIn_cons]
  simp only [if_true]
  refine wpAny_bind (wpAny_bind ((ht c (.head _) Jc h1).then k fun b' ab k₁ e=>wpAny_pure ?_))
  subst e
  cases b' with
  | true=>
   simp only [if_true] at h2
   refine (ih (fun e m=>ht e (.tail _ m)) h2).then (k.trans k₁) fun Sn aq k₂ e=>⟨k₁.trans k₂,e⟩
  | false=>
   simp only [Bool.false_eq_true,if_false,Option.some.injEq] at h2
   subst h2
   show wpAny _ A (forIn r false _) _ _ _
   rw [Ja]
   exact wpAny_pure ⟨k₁,rfl⟩
theorem Jd {elt:Expr} {D:Addr} {out:List PyData} {d:PyData} {s:Shared} (S:CS w.params mg mb lm X D env sc ρ out s) (hD:D∈X) (nk:D∉az) (iY:env.locals∉az) (uM:D≠env.locals) (uN:∀y a,env.cells.lookup y=some a->a≠D)
  (hlen:out.length<=4096) (he:Ev prog w mg mb A X s (eval elt env) (fun v h=>Rep X h v d)):
  xJ prog w A (rV elt (.ref D) env) s (fun s'=>Tn w.params mg mb X [D,env.locals] s s'/\CS w.params mg mb lm X D env sc ρ (out++[d]) s'):=by
 intro t Q E h
 unfold rV
 refine wpAny_bind (wpAny_bind (he.then (Kp.refl S.ctx) fun v ab k₁ rv=> ?_))
 have rZ:=S.kp k₁ nk iY
 refine aj rZ.acc fun ys h1 h2=> ?_
 refine xE rZ.ns fun m h3=> ?_
 have hl:=h2.length
 rw [Array.length_toList] at hl
 refine wpAny_bind (wpAny_list_append_plain h1 (fun h' bY bR=>wpAny_pure ?_) (by rw [sizeLine_eq];exact m4 hl hlen))
 have xM:∀a∈[D],a∈X:=fun a ha=>by rw [List.mem_singleton.mp ha];exact hD
 have T:Tn w.params mg mb X [D] ab {ab with heap:=h'}:=Tn.one (tk:=ab.toks) rZ.ctx bR.extBut hD nk
 refine h _ ⟨(Kp.tn k₁).trans (T.more (by simp)),T.ctx,fun a ha=> ?_,⟨_,bY, ?_⟩,⟨m,h3.sameBut bR (Ne.symm uM)⟩,rZ.env.tn T xM (by simp [Ne.symm uM]) fun y a e=>by simp [uN y a e]⟩
 ·refine bV (rZ.aD a ha:) fun n o e=> ?_
  by_cases q:a=D
  ·(refine xE bY ?_;clear bY;intro n' e');exact ⟨n,_,q▸e'⟩
  ·exact ⟨n,o,T.get n (by simp [q]) e⟩
 ·rw [Array.toList_push]
  exact (T.rS xM h2).append (.cons (T.rep xM rv) .nil)
end
section
variable {prog:Program} {w:World} {mg mb:Str->Option Value}
variable {A:Around} {ae:Shared} {X:List Addr} {lm:Bool} {env:Env} {sc:Scope} {ρ:bh}
theorem Je {elt:Expr} {gens gs:List Comprehension} {scope:Scope} {pos:Pos} {depth:Nat} {it acc:Value} {g:Comprehension} {R:Result->Shared->Prop} {s:Shared} (hg:iB gens depth g gs)
  (h0:codeAny (model prog w) A (.compLoop (.ListComp elt gens scope pos) depth it acc env) R s)
  (h:∀E,wpAny (model prog w) A (pyIter it) (fun uO s'=>codeAny (model prog w) A (.compLoop (.ListComp elt gens scope pos) depth uO acc env) R s') E s):
  codeAny (model prog w) A (.compStart (.ListComp elt gens scope pos) depth it acc env) R s:=by
 refine codeAny_of_tree ?_
 show wpAny _ A ((compStart (.ListComp elt gens scope pos) depth it acc env).onRaise (fun x=>do noteFrame x env;standAt theWindowsPlace)) _ _ s
 refine wpAny_notedAt ?_
 unfold compStart
 cases hg with
 | one ha=>
  obtain ⟨target,iter,ifs,a⟩:=g
  simp only at ha;subst ha
  show wpAny _ A (ask >>= _) _ _ s
  refine wpAny_bind (wpAny_askSetting (wpAny_ite ?_))
  split
  ·first
    | exact wpAny_bind (wpAny_pure (wpAny_pure (And.intro rfl h0)))
    | exact wpAny_pure (And.intro rfl h0)
  ·refine wpAny_bind (wpAny_rule ?_)
   show wpAny _ _ (standAt iter.pos >>= _) _ _ s
   exact wpAny_bind (wpAny_standAt (wpAny_bind (wpAny_mono (h _) (fun uO s' h'=>wpAny_pure (And.intro rfl h')) fun _ _ x=>x)))
 | @rY _ g' ha hb=>
  obtain ⟨target,iter,ifs,a⟩:=g
  obtain ⟨lG,kn,lH,a'⟩:=g'
  simp only at ha hb;subst ha hb
  show wpAny _ A (ask >>= _) _ _ s
  refine wpAny_bind (wpAny_askSetting (wpAny_ite ?_))
  split
  ·first
    | exact wpAny_bind (wpAny_pure (wpAny_pure (And.intro rfl h0)))
    | exact wpAny_pure (And.intro rfl h0)
  ·refine wpAny_bind (wpAny_rule ?_)
   show wpAny _ _ (standAt iter.pos >>= _) _ _ s
   exact wpAny_bind (wpAny_standAt (wpAny_bind (wpAny_mono (h _) (fun uO s' h'=>wpAny_pure (And.intro rfl h')) fun _ _ x=>x)))
 | @xK g' _ ha hb=>
  obtain ⟨target,iter,ifs,a⟩:=g
  obtain ⟨lG,kn,lH,a'⟩:=g'
  simp only at ha hb;subst ha hb
  show wpAny _ A (ask >>= _) _ _ s
  refine wpAny_bind (wpAny_askSetting (wpAny_ite ?_))
  split
  ·first
    | exact wpAny_bind (wpAny_pure (wpAny_pure (And.intro rfl h0)))
    | exact wpAny_pure (And.intro rfl h0)
  ·refine wpAny_bind (wpAny_rule ?_)
   show wpAny _ _ (standAt iter.pos >>= _) _ _ s
   exact wpAny_bind (wpAny_standAt (wpAny_bind (wpAny_mono (h _) (fun uO s' h'=>wpAny_pure (And.intro rfl h')) fun _ _ x=>x)))
theorem Co {I:aK} (S:br prog w mg mb A lm I) {items ds out:List PyData} {g:Comprehension} {gs gens:List Comprehension} {elt:Expr} {depth:Nat} {scope:Scope} {pos:Pos} {D It:Addr} {St:Nat->Heap->Prop} {s:Shared}
  (h:I.g sc ρ items g gs elt=some ds) (hg:iB gens depth g gs) (F:CF (It::X) D It env) (iX:It∉X) (W:jN prog w mg mb A (It::X) It items St) (st:St 0 s.heap) (C:CS w.params mg mb lm (It::X) D env sc ρ out s) (hl:out.length+ds.length<=4096):
  codeAny (model prog w) A (.compStart (.ListComp elt gens scope pos) depth (.ref It) (.ref D) env) (fun r s'=>r= .ok .next/\Tn w.params mg mb (It::X) [D,env.locals,It] s s'/\CS w.params mg mb lm X D env sc ρ (out++ds) s') s:=by
 have q:=S.g (scope:=scope) (pos:=pos) h hg F iX W st C hl
 exact Je hg q fun E=>W.self 0 s _ E st q
theorem xN {e:Expr} (h:eB e=true) (env:Env) (x:Value):foldedSetIterable e env x=pure x:=by
 cases e<;>first | rfl | exact eI h
theorem Jf {I:aK} (hA:cG A) (S:br prog w mg mb A lm I) {elt:Expr} {jI g:Comprehension} {scope:Scope} {pos:Pos} {lD ds out:List PyData} {D:Addr} {s:Shared} (C:CS w.params mg mb lm X D env sc ρ out s)
  (h0:jI.is_async=0) (h1:g.is_async=0) (hp:eB g.iter=true) (hi:I.i sc ρ g.iter=some lD) (hg:I.g sc ρ lD g [] elt=some ds) (hl:out.length+ds.length<=4096)
  (hD:D∈X) (nk:D∉az) (Cp:env.locals∈X) (iY:env.locals∉az) (uM:D≠env.locals) (uN:∀y a,env.cells.lookup y=some a->a≠D/\a≠env.locals):
  xJ prog w A (uE (.ListComp elt [jI,g] scope pos) g.iter (.ref D) env) s (fun s'=>Tn w.params mg mb X [D,env.locals] s s'/\CS w.params mg mb lm X D env sc ρ (out++ds) s'):=by
 intro t Q E h
 unfold uE
 refine wpAny_bind ((S.i C.ctx C.aD C.env hi).then (Kp.refl C.ctx) fun x ab k₁ rx=> ?_)
 have d6:=C.kp k₁ nk iY
 refine wpAny_bind (wpAny_standAt (wpAny_bind (wpAny_of_eq (xN hp env x) ?_)))
 refine wpAny_bind (wpAny_holding (rU hA d6.aD d6.ctx rx fun aq k₂ hn mr mu WW bQ=> ?_))
 refine aj (WW [] (fun _ h=>nomatch h):) fun St W st=> ?_
 have lt:∀{a:Addr},(∃o,ab.heap.get? a=some o)->a≠ab.heap.objs.size:=fun ⟨o,e⟩=>Nat.ne_of_lt (Heap.lt_size e)
 have fr:∀a∈[ab.heap.objs.size],ab.heap.get? a=none:=fun a ha=>by rw [List.mem_singleton.mp ha];exact hn
 have iX:ab.heap.objs.size∉X:=d6.aD.new
 have F:CF (ab.heap.objs.size::X) D ab.heap.objs.size env:=
  ⟨.tail _ hD, .tail _ Cp, .head _,nk,iY,fQ d6.ctx,uM,lt (d6.aD D hD).2,lt (d6.aD _ Cp).2,fun y a e=>⟨(uN y a e).1,(uN y a e).2,lt (d6.env.eY y a e).2⟩⟩
 have ku:CS w.params mg mb lm (ab.heap.objs.size::X) D env sc ρ out aq:=by
  refine aj d6.acc fun ys h1 h2=> ?_
  refine xE d6.ns fun m h3=> ?_
  refine ⟨mu,mr,⟨ys,h1.at fun o e=>k₂.grow _ o nk e,(h2.fresh fr).grow k₂.grow⟩,⟨m,uB k₂.grow iY h3⟩, ?_⟩
  have R:=d6.env
  exact ⟨R.kind,R.gl,R.bi,R.glob,R.loc,R.cell,fun y d e=>let ⟨v,p,q⟩:=R.vals y d e;⟨v,p.grow k₂.grow,(q.fresh fr).grow k₂.grow⟩,R.cq,fun y a e=>let ⟨n,o,q⟩:=R.eY y a e;⟨n,o,k₂.grow a o n q⟩,R.lam⟩
 refine wpAny_bind (wpAny_runOwn (codeAny_mono (Co S hg (.xK h0 h1) F iX W st ku hl) fun r s' hr=> ?_))
 (refine bG hr ?_;clear hr;intro ay T C';subst ay)
 refine h s' ⟨?_,C'⟩
 have kr:Tn w.params mg mb X [D,env.locals] s ab:=Kp.tn k₁
 (refine aU k₂ ?_;clear k₂;intro bH Jg aF nq _;subst aF)
 (refine aU T ?_;clear T;intro h' r4 aP g c;subst aP)
 refine kr.trans ⟨h',r4,rfl,fun b o n m e=>g b o n (fun q=> ?_) (nq b o n e),C'.ctx⟩
 simp only [List.mem_cons,List.not_mem_nil,or_false] at q m
 rcases q with q | q | q
 ·exact m (.inl q)
 ·exact m (.inr q)
 ·rw [q,hn] at e;exact no e
end
section
variable {prog:Program} {w:World} {mg mb:Str->Option Value}
variable {A:Around} {ae:Shared} {X:List Addr} {lm:Bool} {env:Env} {sc:Scope} {ρ:bh}
theorem uP {sc:Scope} {x:Str}:iW sc x=true↔sc.names.lookup x=some .local:=by unfold iW;exact beq_iff_eq
theorem Jh {gens gs:List Comprehension} {depth:Nat} {g:Comprehension} (h:iB gens depth g gs) (Ji:gs=[]) (elt:Expr) (scope:Scope) (pos:Pos) (It D:Addr) (env:Env) {x:Str} {px:Pos} (ht:g.target= .Name x px):
  uF (.compLoop (.ListComp elt gens scope pos) depth (.ref It) (.ref D) env) (.Name x px) g.iter g.ifs (.ref It) env (rV elt (.ref D) env):=by
 cases h with
 | one ha=>
  obtain ⟨target,iter,ifs,a⟩:=g
  simp only at ha ht;subst ha ht
  exact ⟨_,_,_,_,_,_,rfl,I0 ..⟩
 | rY ha hb=>cases Ji
 | @xK jI _ ha hb=>
  obtain ⟨target,iter,ifs,a⟩:=g
  obtain ⟨lG,kn,lH,a'⟩:=jI
  simp only at ha hb ht;subst ha hb ht
  exact ⟨_,_,_,_,_,_,rfl,I2 ..⟩
theorem Jj {gens:List Comprehension} {depth:Nat} {g g':Comprehension} (h:iB gens depth g [g']) (elt:Expr) (scope:Scope) (pos:Pos) (It D:Addr) (env:Env) {x:Str} {px:Pos} (ht:g.target= .Name x px):
  gens=[g,g']/\g.is_async=0/\g'.is_async=0/\uF (.compLoop (.ListComp elt gens scope pos) depth (.ref It) (.ref D) env) (.Name x px) g.iter g.ifs (.ref It) env (uE (.ListComp elt gens scope pos) g'.iter (.ref D) env):=by
 cases h with
 | rY ha hb=>
  refine ⟨rfl,ha,hb, ?_⟩
  obtain ⟨target,iter,ifs,a⟩:=g
  obtain ⟨lG,kn,lH,a'⟩:=g'
  simp only at ha hb ht;subst ha hb ht
  exact ⟨_,_,_,_,_,_,rfl,I1 ..⟩
theorem Jk {I:aK} (hA:cG A) (S:br prog w mg mb A lm I) {s:Shared} {items ds out:List PyData} {g:Comprehension} {gs gens:List Comprehension} {elt:Expr} {depth:Nat} {scope:Scope} {pos:Pos} {D It:Addr} {St:Nat->Heap->Prop}
  (h:BQ I sc ρ items g gs elt=some ds) (hg:iB gens depth g gs) (F:CF (It::X) D It env) (iX:It∉X) (W:jN prog w mg mb A (It::X) It items St) (st:St 0 s.heap) (C:CS w.params mg mb lm (It::X) D env sc ρ out s) (hl:out.length+ds.length<=4096):
  codeAny (model prog w) A (.compLoop (.ListComp elt gens scope pos) depth (.ref It) (.ref D) env) (fun r s'=>r= .ok .next/\Tn w.params mg mb (It::X) [D,env.locals,It] s s'/\CS w.params mg mb lm X D env sc ρ (out++ds) s') s:=by
 refine aO h fun hlen h=>ai h fun x Jl h=>aO h fun hx h=> ?_
 refine xE (m9 Jl) fun px ht=> ?_
 have oR:env.kindOf x=some .local:=C.env.loc x hx.1
 have uG:ρ x=none:=by simpa using hx.2
 have test:∀(d:PyData) (s:Shared) (out:List PyData),CS w.params mg mb lm (It::X) D env sc (upd ρ x d) out s->∀b,jL (I.t sc (upd ρ x d)) g.ifs=some b->Ev prog w mg mb A (It::X) s (rW g.ifs env) (fun b' _=>b'=b):=fun d s out C b hb=>
  Jb (fun e _ b hb=>S.t C.ctx C.aD C.env hb) hb
 cases gs with
 | nil=>
  refine Cj (Jh hg rfl elt scope pos It D env ht) rfl F iX oR C.env.kind uG W (body:=_) ?_ items 0 out ds s rfl (Nat.zero_le _) h hl C st
  intro d l xO s' E hb bY C'
  refine ai hb fun b iC iZ=> ?_
  refine (test d s' xO C' b iC).then (Kp.refl C'.ctx) fun ok ab k₁ e=> ?_
  subst e
  have d6:=C'.kp k₁ F.dt F.ct
  cases ok with
  | false=>
   simp only [Bool.false_eq_true,if_false,Option.some.injEq] at iZ ⊢
   subst iZ
   exact ⟨Kp.tn k₁,by rw [List.append_nil];exact d6⟩
  | true=>
   simp only [if_true,Option.map_eq_some_iff] at iZ ⊢
   (refine aj iZ ?_;clear iZ;intro d' gP ay;subst ay)
   intro t Q E' hk
   refine Jd d6 F.dx F.dt F.ct F.dc (fun y a e=>(F.cells y a e).1) (by simp at bY;exact Zb Z4 16 [_] [] bY) (S.e d6.ctx d6.aD d6.env gP) t Q E' fun aq bH=>hk aq ⟨(Kp.tn k₁).trans bH.1,bH.2⟩
 | cons g' gs=>
 cases gs with
 | cons=>exact no h
 | nil=>
  refine aO h fun hp h=> ?_
  (refine fm (Jj hg elt scope pos It D env ht:) fun aF ha hb xP=> ?_;subst aF)
  refine Cj xP rfl F iX oR C.env.kind uG W (body:=_) ?_ items 0 out ds s rfl (Nat.zero_le _) h hl C st
  intro d l xO s' E iC bY C'
  refine ai iC fun b iC iZ=> ?_
  refine (test d s' xO C' b iC).then (Kp.refl C'.ctx) fun ok ab k₁ e=> ?_
  subst e
  have d6:=C'.kp k₁ F.dt F.ct
  cases ok with
  | false=>
   simp only [Bool.false_eq_true,if_false,Option.some.injEq] at iZ ⊢
   subst iZ
   exact ⟨Kp.tn k₁,by rw [List.append_nil];exact d6⟩
  | true=>
   simp only [if_true,Option.bind_eq_some_iff] at iZ ⊢
   (refine aj iZ ?_;clear iZ;intro lD hi Jm)
   intro t Q E' hk
   refine Jf hA S d6 ha hb hp.1 hi Jm bY F.dx F.dt F.cx F.ct F.dc (fun y a e=>⟨(F.cells y a e).1,(F.cells y a e).2.1⟩) t Q E' fun aq bH=>hk aq ⟨(Kp.tn k₁).trans bH.1,bH.2⟩
end
theorem xQ {env:Env} {f:Str × NameKind->List (Str × Addr)->Sem (ForInStep (List (Str × Addr)))}
  (hf:∀n k cs,f (n,k) cs=if (k== .free)=true then (do let a <- cellOf env n;pure (.yield ((n,a)::cs))) else pure (.yield cs)):
  ∀(names:List (Str × NameKind)) (acc:List (Str × Addr)),(∀p∈names,p.2= .free->(env.cells.lookup p.1).isSome=true)->(∀y a,acc.lookup y=some a->env.cells.lookup y=some a)->
   ∃cl,(forIn names acc f:Sem (List (Str × Addr)))=pure cl/\(∀y a,cl.lookup y=some a->env.cells.lookup y=some a)/\(∀y,(acc.lookup y).isSome=true->(cl.lookup y).isSome=true)/\(∀y,(y,NameKind.free)∈names->(cl.lookup y).isSome=true)
 | [],acc,_,h=>⟨acc,rfl,h,fun _ e=>e,fun _ m=>nomatch m⟩
 | (n,k)::r,acc,hn,h=>by
  rw [List.forIn_cons,hf]
  by_cases hk:(k==NameKind.free)=true
  ·have fU:k= .free:=beq_iff_eq.mp hk
   refine xE (Option.isSome_iff_exists.mp (hn (n,k) (.head _) fU):) fun a ha=> ?_
   refine eT (xQ hf r ((n,a)::acc) (fun p m=>hn p (.tail _ m)) (fun y b e=>by
    rw [List.lookup_cons] at e
    split at e
    ·rename_i q;cases e;rw [beq_iff_eq.mp q];exact ha
    ·exact h y b e):) fun cl e1 e2 e3 e4=> ?_
   refine ⟨cl, ?_,e2,fun y e=>e3 y ?_,fun y m=> ?_⟩
   ·have hc:cellOf env n=pure a:=by delta cellOf;rw [ha]
    rw [if_pos hk,hc,pure_bind,pure_bind];exact e1
   ·rw [List.lookup_cons];split<;>simp_all
   ·rcases List.mem_cons.mp m with m | m
    ·cases m;exact e3 _ (by rw [List.lookup_cons];simp)
    ·exact e4 y m
  ·refine eT (xQ hf r acc (fun p m=>hn p (.tail _ m)) h:) fun cl e1 e2 e3 e4=> ?_
   refine ⟨cl, ?_,e2,e3,fun y m=> ?_⟩
   ·rw [if_neg hk,pure_bind];exact e1
   ·rcases List.mem_cons.mp m with m | m
    ·cases m;exact absurd rfl hk
    ·exact e4 y m
theorem Cq {env:Env} {ao:Scope} (hn:∀p∈ao.names,p.2= .free->(env.cells.lookup p.1).isSome=true):
  ∃cl,closureFor ao env=pure cl/\(∀y a,cl.lookup y=some a->env.cells.lookup y=some a)/\(∀y,(y,NameKind.free)∈ao.names->(cl.lookup y).isSome=true):=by
 have key:∀(f:Str × NameKind->List (Str × Addr)->Sem (ForInStep (List (Str × Addr)))),(∀n k cs,f (n,k) cs=if (k== .free)=true then (do let a <- cellOf env n;pure (.yield ((n,a)::cs))) else pure (.yield cs))->closureFor ao env=(forIn ao.names [] f >>= fun cs=>pure cs)->
   ∃cl,closureFor ao env=pure cl/\(∀y a,cl.lookup y=some a->env.cells.lookup y=some a)/\(∀y,(y,NameKind.free)∈ao.names->(cl.lookup y).isSome=true):=by
  intro f hf e
  refine eT (xQ (env:=env) hf ao.names [] hn (fun _ _ e=>by cases e):) fun cl e1 e2 _ e4=> ?_
  refine ⟨cl, ?_,e2,e4⟩
  rw [e,e1];rfl
 refine key _ ?_ rfl
 intro n k cs
 by_cases h:(k==NameKind.free)=true
 ·simp [h]
 ·simp [h]
theorem xR {env:Env} {x:Str} {k:NameKind} (hk:k≠ .free):∀{names:List (Str × NameKind)},names.lookup x=some k->
  (names.map fun (n,k)=>if (k==NameKind.free&&env.scope.kind== .function&&env.kindOf n==some .cell) then (n,NameKind.cell) else (n,k)).lookup x=some k
 | [],h=>by simp at h
 | (n,k')::r,h=>by
  have ih:=@xR env x k hk r
  show List.lookup x ((if (k'==NameKind.free&&env.scope.kind== .function&&env.kindOf n==some .cell)=true then (n,NameKind.cell) else (n,k'))::_)=_
  cases hx:x==n with
  | true=>
   simp only [List.lookup_cons,hx] at h
   cases h
   have:(k==NameKind.free)=false:=by simpa using hk
   simp [List.lookup_cons,hx,this]
  | false=>
   simp only [List.lookup_cons,hx] at h
   by_cases hc:(k'==NameKind.free&&env.scope.kind== .function&&env.kindOf n==some .cell)=true
   ·rw [if_pos hc];simp only [List.lookup_cons,hx];exact ih h
   ·rw [if_neg hc];simp only [List.lookup_cons,hx];exact ih h
theorem Cr {env:Env} {x:Str}:∀{names:List (Str × NameKind)},names.lookup x=some .free->
  (names.map fun (n,k)=>if (k==NameKind.free&&env.scope.kind== .function&&env.kindOf n==some .cell) then (n,NameKind.cell) else (n,k)).lookup x=some .cell\/
  (names.map fun (n,k)=>if (k==NameKind.free&&env.scope.kind== .function&&env.kindOf n==some .cell) then (n,NameKind.cell) else (n,k)).lookup x=some .free
 | [],h=>by simp at h
 | (n,k')::r,h=>by
  have ih:=@Cr env x r
  show List.lookup x ((if (k'==NameKind.free&&env.scope.kind== .function&&env.kindOf n==some .cell)=true then (n,NameKind.cell) else (n,k'))::_)=_\/List.lookup x ((if (k'==NameKind.free&&env.scope.kind== .function&&env.kindOf n==some .cell)=true then (n,NameKind.cell) else (n,k'))::_)=_
  cases hx:x==n with
  | true=>
   simp only [List.lookup_cons,hx] at h
   (obtain rfl:=Option.some.inj h;clear h)
   by_cases hc:(NameKind.free==NameKind.free&&env.scope.kind== .function&&env.kindOf n==some .cell)=true
   ·rw [if_pos hc];left;simp [List.lookup_cons,hx]
   ·rw [if_neg hc];right;simp [List.lookup_cons,hx]
  | false=>
   simp only [List.lookup_cons,hx] at h
   by_cases hc:(k'==NameKind.free&&env.scope.kind== .function&&env.kindOf n==some .cell)=true
   ·rw [if_pos hc];simp only [List.lookup_cons,hx];exact ih h
   ·rw [if_neg hc];simp only [List.lookup_cons,hx];exact ih h
theorem Cs {env:Env} {x:Str} {k:NameKind}:∀{names:List (Str × NameKind)},
  (names.map fun (n,k)=>if (k==NameKind.free&&env.scope.kind== .function&&env.kindOf n==some .cell) then (n,NameKind.cell) else (n,k)).lookup x=some k->∃k',(x,k')∈names
 | [],h=>by simp at h
 | (n,k')::r,h=>by
  have ih:=@Cs env x k r
  have h:List.lookup x ((if (k'==NameKind.free&&env.scope.kind== .function&&env.kindOf n==some .cell)=true then (n,NameKind.cell) else (n,k'))::r.map fun (n,k)=>if (k==NameKind.free&&env.scope.kind== .function&&env.kindOf n==some .cell) then (n,NameKind.cell) else (n,k))=some k:=h
  cases hx:x==n with
  | true=>rw [beq_iff_eq.mp hx];exact ⟨k', .head _⟩
  | false=>
   by_cases hc:(k'==NameKind.free&&env.scope.kind== .function&&env.kindOf n==some .cell)=true
   ·rw [if_pos hc,List.lookup_cons] at h;simp only [hx] at h;refine xE (ih h:) fun q m=> ?_;exact ⟨q, .tail _ m⟩
   ·rw [if_neg hc,List.lookup_cons] at h;simp only [hx] at h;refine xE (ih h:) fun q m=> ?_;exact ⟨q, .tail _ m⟩
theorem uQ {ao:Scope} (h:gK ao=true):ao.kind= .function/\(∀p∈ao.names,df p.1=true)/\∀p∈ao.names,(p.2= .local\/p.2= .free\/p.2= .globalImplicit)/\ao.names.lookup p.1=some p.2:=by
 unfold gK at h
 simp only [Bool.and_eq_true,List.all_eq_true,beq_iff_eq,Bool.or_eq_true] at h
 exact ⟨h.1.1,h.1.2,fun p m=>⟨(h.2 p m).1.elim (fun q=>q.elim .inl fun q=> .inr (.inl q)) fun q=> .inr (.inr q),(h.2 p m).2⟩⟩
section
variable {lm:Bool} {X:List Addr} {env:Env} {sc ao:Scope} {ρ:bh} {h h':Heap} {cl:List (Str × Addr)}
theorem bP.inner {X':List Addr} {nr:Env} (R:bP lm X h env sc ρ) (g:aA h h') (hX:∀v d,eA X h v d->eA X' h' v d) (bt:gK ao=true) (d7:freeOk sc ao=true)
  (e1:∀y a,cl.lookup y=some a->env.cells.lookup y=some a) (e2:∀y,(y,NameKind.free)∈ao.names->(cl.lookup y).isSome=true)
  (s1:nr.scope=relabel ao env) (s2:nr.globals=env.globals) (s3:nr.builtins=env.builtins) (s4:nr.cells=cl) (s5:lm=true->ng nr):bP lm X' h' nr ao (inner ao ρ):=by
 refine bG (uQ bt:) fun k1 k2 k3=> ?_
 have fr:∀y,ao.names.lookup y=some .free->nr.kindOf y=some .cell\/nr.kindOf y=some .free:=fun y hy=>by
  unfold Env.kindOf;rw [s1];exact Cr hy
 refine ⟨by rw [s1];exact k1,s2.trans R.gl,s3.trans R.bi,fun x hx=> ?_,fun x hx=> ?_,fun x hx=> ?_,fun y d e=> ?_,fun y k e=> ?_,fun y a e=> ?_,s5⟩
 ·unfold Env.kindOf;rw [s1];exact xR (by decide) (beq_iff_eq.mp hx)
 ·unfold Env.kindOf;rw [s1];exact xR (by decide) (uP.mp hx)
 ·have hf:ao.names.lookup x=some .free:=by
   unfold lz at hx
   rcases Bool.or_eq_true_iff.mp hx with q | q
   ·have:=mem_of_lookup (beq_iff_eq.mp q)
    rcases (k3 _ this).1 with q | q | q<;>cases q
   ·exact beq_iff_eq.mp q
  exact ⟨fr x hf,by rw [s4];exact e2 x (mem_of_lookup hf)⟩
 ·unfold cb.inner at e
  split at e
  ·rename_i hf
   refine aj (R.vals y d e:) fun v hv rv=> ?_
   have hc:lz sc y=true:=by
    have:=List.all_eq_true.mp d7 _ (mem_of_lookup hf)
    simpa using this
   refine xA (R.cell y hc:) fun c1 c2=> ?_
   refine ⟨v, ?_,hX v d rv⟩
   cases hv with
   | loc hl=>rcases c1 with q | q<;>(rw [hl] at q;cases q)
   | @cell a hl aM n hv=>
    refine .cell (fr y hf) ?_ n (rK g n hv)
    rw [s4]
    refine xE (Option.isSome_iff_exists.mp (e2 y (mem_of_lookup hf)):) fun b hb=> ?_
    have:=e1 y b hb
    rw [aM] at this;cases this
    exact hb
  ·exact no e
 ·unfold Env.kindOf at e
  rw [s1] at e
  refine xE (Cs e:) fun k' m=> ?_
  exact k2 _ m
 ·rw [s4] at e
  refine bV (R.eY y a (e1 y a e):) fun n o q=> ?_
  exact ⟨n,o,g a o n q⟩
end
section
variable {prog:Program} {w:World} {mg mb:Str->Option Value}
variable {A:Around} {ae:Shared} {X:List Addr} {lm:Bool} {env:Env} {sc:Scope} {ρ:bh}
theorem get_none {h:Heap}:h.get? h.objs.size=none:=by
 cases q:h.get? h.objs.size with
 | none=>rfl
 | some o=>exact absurd (Heap.lt_size q) (Nat.lt_irrefl _)
theorem r6 {h:Heap} {a:Addr} (ha:h.objs.size<=a):h.get? a=none:=by
 cases q:h.get? a with
 | none=>rfl
 | some o=>exact absurd (Heap.lt_size q) (Nat.not_lt.mpr ha)
theorem mv {a b:Nat} (h:a < b):a≠b:=Nat.ne_of_lt h
theorem Ct {a b:Nat} (h:b < a):a≠b:=Nat.ne_of_gt h
theorem xS {a b:Nat} (h:a < b):a≠b+1:=Nat.ne_of_lt (Nat.lt_succ_of_lt h)
theorem Cu {I:aK} (hA:cG A) (S:br prog w mg mb A lm I) {s:Shared} (eM:aN X s.heap) (Cx:Ctx w.params mg mb X s.heap) (R:bP lm X s.heap env sc ρ) {elt:Expr} {g:Comprehension} {gs:List Comprehension} {ao:Scope} {items ds:List PyData}
  (hg:iB (g::gs) 0 g gs) (bt:gK ao=true) (d7:freeOk sc ao=true) (hp:eB g.iter=true) (hi:I.i sc ρ g.iter=some items) (hd:I.g ao (inner ao ρ) items g gs elt=some ds) (hl:ds.length<=4096) (pos p2:Pos)
  {use:Option (Value->Sem Unit)} {Q:Value->Shared->Prop} {E:Value->Shared->Prop}
  (h:∀(D C:Addr) s',D≠C->s.heap.get? D=none->s.heap.get? C=none->D∉az->C∉az->(∃h tk,s'={s with heap:=h,toks:=tk})->aA s.heap s'.heap->Ctx w.params mg mb ([D,C]++X) s'.heap->aN ([D,C]++X) s'.heap->
   (∃ys,s'.heap.PlainList D ys/\ax ([D,C]++X) s'.heap ys.toList ds)->(∃m,s'.heap.Ns C m)->compPost (model prog w) A E use Q (.ref D) C (.ok .next) s'):
  wpAny (model prog w) A (comprehension (.ListComp elt (g::gs) ao pos) ao env p2 (newList []) (firstAsync (g::gs)) (firstIter (g::gs) env) use) Q E s:=by
 refine bG (uQ bt:) fun k1 k2 k3=> ?_
 have hn:∀p∈ao.names,p.2= .free->(env.cells.lookup p.1).isSome=true:=fun p m e=>by
  have:=List.all_eq_true.mp d7 _ m
  rw [e] at this
  exact (R.cell p.1 (by simpa using this)).2
 refine ey (Cq hn:) fun cl e0 e1 e2=> ?_
 have Jn:firstAsync (g::gs)=false:=by
  have:g.is_async=0:=by cases hg<;>assumption
  obtain ⟨t,i,f,a⟩:=g
  simp only at this;subst this;rfl
 rw [Jn]
 refine wpAny_comprehension_free (use:=use) (g:=g) (gs:=gs) (cl:=cl) rfl (fun x=>xN hp env x) e0 k1 (fun x m e=>by rw [<- e];exact (k3 x m).2) ?_
 have e9:firstIter (g::gs) env=eval g.iter env:=by cases g;rfl
 rw [e9]
 have Rs:=R
 refine (S.i Cx eM Rs hi).then (Kp.refl Cx) fun x ab k₁ rx=> ?_
 have Cv:=eM.grow k₁.grow
 have pW:=Rs.grow k₁.grow
 refine rU hA Cv k₁.ctx rx fun aq k₂ So mr mu WW bQ=> ?_
 -- uL list,uL Sq table
 refine wpAny_newObj_type ?_ (by show (0:Nat)<=sizeLine;exact Nat.zero_le _)
 refine wpAny_newFunctionEnv (fun y m e=>by rcases (k3 y m).1 with q | q | q<;>(rw [e] at q;cases q)) (by simp) (fun oQ bX mw=> ?_) k1
 have Jo:ab.heap.objs.size∉az:=fQ k₁.ctx
 have xT:aq.heap.objs.size∉az:=fQ k₂.ctx
 have Cw:(aq.heap.push {cls:= .type "list",data:= .seq ([]:List Value).toArray}).objs.size=aq.heap.objs.size+1:=Heap.size_push _ _
 have xU:aq.heap.objs.size+1∉az:=by rw [<- Cw];exact fQ (k₂.ctx.keeps fun _ _ e=>Heap.get?_push_of_some _ e)
 have uR:aq.heap.objs.size=ab.heap.objs.size+1:=bQ
 dsimp only at bX mw ⊢
 rw [Cw] at bX mw ⊢
 generalize fT:ab.heap.objs.size=It at*
 generalize hD:aq.heap.objs.size=D at*
 have plain:∀b o,aq.heap.get? b=some o->oQ.get? b=some o:=fun b o e=>mw.extBut b o (xS (hD▸Heap.lt_size e)) (Heap.get?_push_of_some _ (Heap.get?_push_of_some _ e))
 have nu:oQ.PlainList D #[]:=⟨_,mw.extBut _ _ (mv (Nat.lt_succ_self _)) (Heap.get?_push_of_some _ (hD▸Heap.get?_push_size _ rfl))⟩
 have Cy:∀a∈[D,D+1],aq.heap.get? a=none:=fun a ha=>by
  simp only [List.mem_cons,List.not_mem_nil,or_false] at ha
  rcases ha with rfl | rfl
  ·exact r6 (by exact Zb Z4 33 [_,_] [] hD)
  ·exact r6 (by exact Zb cB 15 [_,_] [] hD)
 have Cz:∀a∈[It,D,D+1],ab.heap.get? a=none:=fun a ha=>by
  simp only [List.mem_cons,List.not_mem_nil,or_false] at ha
  rcases ha with rfl | rfl | rfl<;>exact r6 (by (first | exact Zb Z4 33 [_,_] [] fT | exact Zb cB 16 [_,_,_] [] fT bQ | exact Zb cB 17 [_,_,_] [] fT bQ))
 refine aj (WW [D,D+1] Cy:) fun St W st=> ?_
 have iX:It∉[D,D+1]++X:=fun m=>by
  rcases List.mem_append.mp m with m | m
  ·simp only [List.mem_cons,List.not_mem_nil,or_false] at m
   rcases m with m | m<;>(first | exact Zb cB 18 [_,_] [] m bQ | exact Zb cB 19 [_,_] [] m bQ)
  ·exact fT▸Cv.new <| m
 have CA:St 0 oQ:=W.frame _ _ _ st fun b o _ _ e=>plain b o e
 have F:CF (It::([D,D+1]++X)) D It (compEnvC ao cl (D+1) env):=by
  refine ⟨by simp,by simp [compEnvC], .head _,xT,xU,Jo,mv (Nat.lt_succ_self _),Ct (uR▸Nat.lt_succ_self _),Ct (uR▸Nat.lt_succ_of_lt (Nat.lt_succ_self _)),fun y a e=> ?_⟩
  refine bV (pW.eY y a (e1 y a e):) fun n o q=> ?_
  have bg:(a:Nat) < It:=fT▸Heap.lt_size q
  have r7:(a:Nat) < D:=uR▸Nat.lt_succ_of_lt bg
  exact ⟨mv r7,xS r7,mv bg⟩
 have C:CS w.params mg mb lm (It::([D,D+1]++X)) D (compEnvC ao cl (D+1) env) ao (inner ao ρ) [] {aq with heap:=oQ,toks:=aq.toks+([]:List (Str × Value)).length}:=by
  refine ⟨?_,fun a ha=> ?_,⟨#[],nu, .nil⟩,⟨_,bX⟩, ?_⟩
  ·have:=(mu.fresh Cy).keeps (h':=oQ) plain
   exact this.less fun a ha=>by
    simp only [List.mem_cons,List.mem_append,List.not_mem_nil,or_false] at ha ⊢
    rcases ha with h | (h | h) | h
    ·exact .inr (.inl h)
    ·exact .inl (.inl h)
    ·exact .inl (.inr h)
    ·exact .inr (.inr h)
  ·simp only [List.mem_cons,List.mem_append,List.not_mem_nil,or_false] at ha
   rcases ha with h | (h | h) | h
   ·refine bV (mr a (by rw [h];exact .head _):) fun n o e=> ?_;exact ⟨n,o,plain a o e⟩
   ·subst h;(refine xE nu ?_;clear nu;intro n' e);exact ⟨xT,_,e⟩
   ·subst h;(refine lg bX ?_;clear bX;intro o _ _ e _);exact ⟨xU,o,e⟩
   ·refine bV (mr a (.tail _ h):) fun n o e=> ?_;exact ⟨n,o,plain a o e⟩
  ·refine pW.inner (k₂.grow.trans (aA.of plain)) (fun v d r=>(r.fresh Cz).grow (k₂.grow.trans (aA.of plain))) bt d7 e1 e2 rfl rfl rfl rfl fun iD=> ?_
   refine pF ((R.lam iD).it:) fun c T q h1 h2 h3=> ?_
   exact ⟨c,T,q,h1,h2,h3⟩
 refine codeAny_mono (Co S (pos:=pos) hd hg F iX W CA C (by simpa using hl)) fun r s' hr=> ?_
 (refine bG hr ?_;clear hr;intro ay T C';subst ay)
 have below:∀a,a=D\/a=D+1->s.heap.get? a=none:=fun a ha=>by
  have f:ab.heap.get? a=none:=Cz a (by rcases ha with rfl | rfl<;>simp)
  cases q:s.heap.get? a with
  | none=>rfl
  | some o=>
   have fH:a∉az:=by rcases ha with rfl | rfl<;>assumption
   have:=k₁.grow a o fH q
   rw [f] at this;exact no this
 have Jp:(D:Addr)≠D+1:=mv (Nat.lt_succ_self _)
 refine h D (D+1) s' Jp (below _ (.inl rfl)) (below _ (.inr rfl)) xT xU ?_ ?_ C'.ctx C'.aD C'.acc C'.ns
 ·(refine dq k₁ ?_;clear k₁;intro Sr Ss aF _;subst aF)
  (refine aU k₂ ?_;clear k₂;intro Su Jg aP nq _;subst aP)
  (refine aU T ?_;clear T;intro hh tk bI g _;subst bI)
  exact ⟨hh,tk,rfl⟩
 ·refine k₁.grow.trans fun b o n e=> ?_
  have bg:(b:Nat) < It:=fT▸Heap.lt_size e
  have r7:(b:Nat) < D:=uR▸Nat.lt_succ_of_lt bg
  refine T.get n (fun q=> ?_) (plain b o (k₂.grow b o n e))
  simp only [List.mem_cons,List.not_mem_nil,or_false] at q
  rcases q with q | q | q
  ·exact mv r7 q
  ·exact xS r7 q
  ·exact mv bg q
theorem CB {I:aK} (hA:cG A) (S:br prog w mg mb A lm I) (hx:aN X ae.heap) (R:bP lm X ae.heap env sc ρ) {elt:Expr} {g:Comprehension} {gs:List Comprehension} {ao:Scope} {items ds:List PyData}
  (hg:iB (g::gs) 0 g gs) (bt:gK ao=true) (d7:freeOk sc ao=true) (hp:eB g.iter=true) (hi:I.i sc ρ g.iter=some items) (hd:I.g ao (inner ao ρ) items g gs elt=some ds) (hl:ds.length<=4096) (pos:Pos):
  Ev prog w mg mb A X ae (eval (.ListComp elt (g::gs) ao pos) env) (fun v h=>Rep X h v (.list ds)):=by
 intro E s k
 rw [eval_ListComp]
 refine Cu hA S (hx.grow k.grow) k.ctx (R.grow k.grow) hg bt d7 hp hi hd hl pos _ fun D C s' xV fD fC tD tC sh gr cx xi acc ns=> ?_
 (refine xE ns ?_;clear ns;intro m hm)
 refine ⟨m,hm,fun h' bR=> ?_⟩
 have kX:∀b o,(ba ([D,C]++X) s'.heap).get? b=some o->(ba X h').get? b=some o:=fun b o e=>by
  refine bG (dI e:) fun q1 n q2=> ?_
  exact gc (bR.extBut b o (fun q=>q2 (by rw [q];simp)) q1) n fun q=>q2 (List.mem_append_right _ q)
 (refine aj acc ?_;clear acc;intro ys h1 h2)
 refine ⟨?_, ?_⟩
 ·(refine cN sh ?_;clear sh;intro hh tk bK;subst bK)
  exact ⟨h',tk,rfl,fun b o n e=>bR.extBut b o (fun q=>by rw [q,fC] at e;exact no e) (gr b o n e),cx.but kX fun b o hb e=>bR.extBut b o (fun q=>tC (q▸hb)) e⟩
 ·refine xE (h1.extBut bR.extBut xV:) fun n' e'=> ?_
  refine Rep.list e' rfl rfl rfl rfl tD (fun q=> ?_) (h2.keeps kX)
  refine bV (hx.grow k.grow D q:) fun _ o e=> ?_
  rw [fD] at e;exact no e
theorem Jq {I:aK} (hA:cG A) (S:br prog w mg mb A lm I) {s:Shared} (hx:aN X s.heap) (Cx:Ctx w.params mg mb X s.heap) (R:bP lm X s.heap env sc ρ) {elt:Expr} {g:Comprehension} {gs:List Comprehension} {ao:Scope} {items ds:List PyData}
  (hg:iB (g::gs) 0 g gs) (bt:gK ao=true) (d7:freeOk sc ao=true) (hp:eB g.iter=true) (hi:I.i sc ρ g.iter=some items) (hd:I.g ao (inner ao ρ) items g gs elt=some ds) (hl:ds.length<=4096) (pos:Pos)
  {u:Value->Sem Unit} {Q:Shared->Prop} {E:Value->Shared->Prop}
  (h:∀(C:Addr) v s',s.heap.get? C=none->C∉az->(∃h tk,s'={s with heap:=h,toks:=tk})->aA s.heap s'.heap->Ctx w.params mg mb (C::X) s'.heap->aN (C::X) s'.heap->Rep (C::X) s'.heap v (.list ds)->(∃m,s'.heap.Ns C m)->
   wpAny (model prog w) A (u v) (fun _ nv=>(∃m,nv.heap.Ns C m)/\∀h',Heap.SameBut C nv.heap h'->Q {nv with heap:=h'}) E s'):
  wpAny (model prog w) A (evalThenUse (.ListComp elt (g::gs) ao pos) env u) (fun _=>Q) E s:=by
 rw [arm_evalThenUse_ListComp]
 refine wpAny_bind (Cu (use:=some u) (Q:=fun _ s'=>wpAny (model prog w) A (pure ()) (fun _=>Q) E s') hA S hx Cx R hg bt d7 hp hi hd hl pos _ fun D C s' xV fD fC tD tC sh gr cx xi acc ns=> ?_)
 (refine aj acc ?_;clear acc;intro ys bO h2;obtain ⟨n,e'⟩:=bO)
 have sub:∀a∈C::X,a∈[D,C]++X:=fun a ha=> .tail _ ha
 have:=h C (.ref D) s' fC tC sh gr (cx.less sub) (fun a ha=>xi a (sub a ha)) (Rep.list e' rfl rfl rfl rfl tD (fun q=> ?_) (h2.more sub)) ns
 ·exact wpAny_mono this (fun _ nv q=>let ⟨⟨m,hm⟩,hq⟩:=q;⟨m,hm,fun h' hs=>wpAny_pure (hq h' hs)⟩) fun _ _ q=>q
 ·rcases List.mem_cons.mp q with q | q
  ·exact xV q
  ·refine bV (hx D q:) fun _ o e=> ?_
   rw [fD] at e;exact no e
end
section
open PySem.Builtin PySem.Builtin.Str
section
variable {prog:Program} {w:World} {mg mb:Str->Option Value}
variable {A:Around} {ae:Shared} {X:List Addr} {lm:Bool} {env:Env} {sc:Scope} {ρ:bh}
theorem Jr (x y:Str) (i j:Int) (t u v z:Tok) (h0:0<=i) (h1:0<=j) (h2:j<=x.length):Gives («str.find» ⟨[.str x t, .str y u, .int i v, .int j z],[]⟩) (.int (match occurrences x y i.toNat j.toNat 1 with | k::_=>(k:Int) | []=> -1)):=by
 show Gives (match occurrences x y (fromIndex x.length i) (min (fromIndex x.length j) x.length) 1 with | k::_=>retInt k | []=>(do rule "str.find.not-found";retInt (-1))) _
 have e1:fromIndex x.length i=i.toNat:=by unfold fromIndex;rw [if_neg (by exact Zb Z4 35 [] [_] h0)];exact Zb cB 20 [] [_]
 have e2:min (fromIndex x.length j) x.length=j.toNat:=by unfold fromIndex;rw [if_neg (by exact Zb Z4 35 [] [_] h1)];exact Zb cB 21 [_] [_] h2
 rw [e1,e2]
 cases occurrences x y i.toNat j.toNat 1 with
 | nil=>exact .rule (.of_eq rfl)
 | cons k _=>exact .of_eq rfl
theorem CC {h:Heap}:∀{vs:List Value} {xs:List Str},ax X h vs (xs.map .str)->∃l:List (Str × Tok),vs=strValues l/\l.map (·.1)=xs
 | vs,[],r=>⟨[],by rw [r.nil_inv];rfl,rfl⟩
 | vs,x::xs,r=>by
  (refine aU r.cons_inv fun v us ay a b=> ?_;subst ay)
  (refine xE a.str_inv fun t aF=> ?_;subst aF)
  (refine aj (CC b:) fun l aP bI=> ?_;subst aP;subst bI)
  exact ⟨(x,t)::l,rfl,rfl⟩
theorem xW {h:Heap}:∀(l:List (Str × Tok)),ax X h (strValues l) ((l.map (·.1)).map .str)
 | []=> .nil
 | (x,t)::l=> .cons (.str x t) (xW l)
theorem xX {Q:Value->Shared->Prop} {s:Shared} (hx:aN X s.heap) (C:Ctx w.params mg mb X s.heap) {l:List (Str × Tok)} {k:Tok} {ys:List Str} (e:l.map (·.1)=ys)
  (h:∀v s',Kp w.params mg mb X s s'/\Rep X s'.heap v (.list (ys.map .str))->Q v s'):Q (.ref s.heap.objs.size) {s with toks:=k,heap:=s.heap.push {cls:= .type "list",data:= .seq (strValues l).toArray}}:=by
 refine h _ _ ⟨⟨_,k,rfl,aA.of fun _ _ e=>Heap.get?_push_of_some _ e,C.keeps fun _ _ e=>Heap.get?_push_of_some _ e⟩, ?_⟩
 subst e
 exact Rep.new hx C (by simpa using xW l)
theorem Js {E:Value->Shared->Prop} {s:Shared} {x y:Str} {t u:Tok} (hx:aN X s.heap) (C:Ctx w.params mg mb X s.heap) (hy:(y.length==0)=false) (bQ:x.length<=4096) (r8:(Txt.split x y).length<=4096):
  wpAny (model prog w) A (call (.builtin "str.split") [.str x t, .str y u]) (fun v s'=>Kp w.params mg mb X s s'/\Rep X s'.heap v (.list ((Txt.split x y).map .str))) E s:=by
 have hS:x.length<=sizeLine:=by rw [sizeLine_eq];exact Zb Z1 33 [_] [] bQ
 cases h1:(decide (x.length < y.length)||decide (strKind x < strKind y)) with
 | true=>
  exact call_meets F.slot_str_split (typeIs_str _ _ _) F.entry_str_split (F.args_str_split_2 _ _) (meets_str_split_cannot_occur x y t u h1)
   (xX (l:=[(x,t)]) (k:=s.toks) hx C (if_pos h1).symm fun v s' q=>q)
 | false=>
  cases hf:(occurrences x y 0 x.length (x.length+1)).isEmpty with
  | true=>
   exact call_meets F.slot_str_split (typeIs_str _ _ _) F.entry_str_split (F.args_str_split_2 _ _) (meets_str_split_not_found x y t u h1 hy hf)
    (xX (l:=[(x,t)]) (k:=s.toks) hx C ((if_neg (ne_true_of_eq_false h1)).trans (if_pos hf)).symm fun v s' q=>q)
  | false=>
   have e:Txt.split x y=partsBetween x (occurrences x y 0 x.length (x.length+1)) y.length:=(if_neg (ne_true_of_eq_false h1)).trans (if_neg (ne_true_of_eq_false hf))
   refine call_meets F.slot_str_split (typeIs_str _ _ _) F.entry_str_split (F.args_str_split_2 _ _) (meets_str_split_sep x y t u h1 hy hf hS (by rw [<- e,sizeLine_eq];exact Zb Z1 33 [_] [] r8)) ?_
   show wants _ E _ {s with toks:=_,heap:=s.heap.push {cls:= .type "list",data:= .seq (strsFrom s.toks (partsBetween x (occurrences x y 0 x.length (x.length+1)) y.length)).toArray}}
   rw [strsFrom_eq]
   exact xX (l:=numbered s.toks _) hx C ((numbered_texts _ _).trans e.symm) fun v s' q=>q
theorem Jt {E:Value->Shared->Prop} {s:Shared} {ov v:Value} {ds:List PyData} {d:PyData} {i:Nat} (hA:cG A) (C:Ctx w.params mg mb X s.heap) (r:Rep X s.heap ov (.list ds)) (rv:Rep X s.heap v d)
  (h1:SeqAt.shaped (.list ds)=true) (h2:SeqAt.shaped d=true) (h3:ds.length<=4096) (hi:ds.findIdx? (fun e=>PyData.eqv e d)=some i):
  wpAny (model prog w) A (call (.builtin "list.index") [ov,v]) (fun v s'=>Kp w.params mg mb X s s'/\Rep X s'.heap v (.int i)) E s:=by
 have c1:=SeqAt.canLay_of_shaped h1
 have c2:=SeqAt.canLay_of_shaped h2
 (refine cT r.dY fun a o vs n bK t1 m1 e1 k1 d1 r1=> ?_;subst bK)
 have hd:=(r.list_dict e1).1
 obtain ⟨cls,dd,data,sl⟩:=o
 simp only at k1 d1 hd
 subst k1 d1 hd
 refine xE r1.reads fun as q1=> ?_
 refine xE rv.reads fun bs q2=> ?_
 have CD:PyData.canLayAll0 ds=true:=by simpa [PyData.canLay0] using c1
 have Ju:=SeqAt.readsAll_map ds _ _ CD q1
 have hlen:vs.size=ds.length:=by rw [<- r1.length,Array.length_toList]
 obtain ⟨bg,Jv,Jw⟩:=List.findIdx?_eq_some_iff_getElem.mp hi
 have fH:∀m (hm:m < vs.size),SeqAt.readOf s.heap vs[m]=ds[m]'(hlen▸hm):=fun m hm=>by
  have:(vs.toList.map (SeqAt.readOf s.heap))[m]? =ds[m]? :=by rw [Ju]
  rw [List.getElem?_map,List.getElem?_eq_getElem (by simpa using hm),List.getElem?_eq_getElem (hlen▸hm)] at this
  simpa using this
 have Jx:=hA.un
 refine call_meets F.slot_list_index ⟨_,e1,rfl⟩ F.entry_list_index (F.args_list_index_2 _ _)
  (SeqAt.list_indexAt a vs n none sl v (fun y=>PyData.eqv (SeqAt.readOf s.heap y) d) i (by exact uj bg hlen) (by lia) ?_ ?_) ⟨e1,SeqAt.items_eqAt q1 q2 CD c2 ?_, ?_⟩
 ·rw [fH i (by exact uj bg hlen)];exact Jv
 ·intro m hm Jy
  rw [fH m hm]
  have:=Jw m Jy
  simpa using this
 ·have h4:=SeqAt.depth_of_shaped h2
  have h5:min (PyData.depthAll ds) d.depth<=d.depth:=Nat.min_le_right _ _
  exact Zb cB 22 [_,_,_,_] [] Jx h4
 ·exact ⟨Kp.toks C, .int _ _⟩
noncomputable def kx (prog:Program) (w:World) (mg mb:Str->Option Value) (A:Around) (X:List Addr) (m:Str) (d:PyData) (ds:List PyData) (r:PyData):Prop:=
  ∃T id,PlainAttrs T/\Slot T m id/\typeOf (.builtin id)=pure (.type "method_descriptor")/\
   (∀(s:Shared) ov,Rep X s.heap ov d->s.TypeIs ov T/\∀a,ov= .ref a->∃ob,s.heap.get? a=some ob/\ob.dict=none)/\
   ∀(s:Shared) ov vs (E:Value->Shared->Prop),aN X s.heap->Ctx w.params mg mb X s.heap->Rep X s.heap ov d->ax X s.heap vs ds->
    wpAny (model prog w) A (call (.builtin id) (ov::vs)) (fun v s'=>Kp w.params mg mb X s s'/\Rep X s'.heap v r) E s
theorem r9 {m:Str} {x:Str} {ds:List PyData} {r:PyData} {id:String} (h1:Slot "str" m id) (h2:typeOf (.builtin id)=pure (.type "method_descriptor")) (k:∀(s:Shared) t vs (E:Value->Shared->Prop),aN X s.heap->Ctx w.params mg mb X s.heap->ax X s.heap vs ds->
    wpAny (model prog w) A (call (.builtin id) (.str x t::vs)) (fun v s'=>Kp w.params mg mb X s s'/\Rep X s'.heap v r) E s):kx prog w mg mb A X m (.str x) ds r:=by
 refine ⟨"str",id,F.plainAttrs_str,h1,h2,fun s ov q=> ?_,fun s ov vs E hx C ro rv=> ?_⟩
 ·(refine xE q.str_inv fun t bO=> ?_;subst bO)
  exact ⟨typeIs_str _ _ _,fun a e=>nomatch e⟩
 ·(refine xE ro.str_inv fun t cF=> ?_;subst cF)
  exact k s t vs E hx C rv
theorem xY {m:Str} {x y:Str} {r:PyData} {id:String} (h1:Slot "str" m id) (h2:typeOf (.builtin id)=pure (.type "method_descriptor")) (k:∀(s:Shared) t u (E:Value->Shared->Prop),aN X s.heap->Ctx w.params mg mb X s.heap->
    wpAny (model prog w) A (call (.builtin id) [.str x t, .str y u]) (fun v s'=>Kp w.params mg mb X s s'/\Rep X s'.heap v r) E s):kx prog w mg mb A X m (.str x) [.str y] r:=
 r9 h1 h2 fun s t vs E hx C rv=>by
  (refine aU rv.cons_inv fun v us c9 q1 q2=> ?_;subst c9)
  rw [q2.nil_inv]
  (refine xE q1.str_inv fun u dy=> ?_;subst dy)
  exact k s t u E hx C
section
variable {d r:PyData} {ds:List PyData} {P:Prop}
theorem str1 {f:Str->Str->Option PyData} (h:((gS d).bind fun x=>((one ds).bind gS).bind fun y=>f x y)=some r) (k:∀x y,d= .str x->ds=[.str y]->f x y=some r->P):P:=by
 refine ai h fun x h1 h=> ?_
 refine ai h fun y h2 h=> ?_
 refine ai h2 fun e h3 h4=> ?_
 exact k x y (fF h1) (by rw [fP h3,fF h4]) h
theorem str0 {f:Str->Option PyData} (h:((gS d).bind fun x=>(nul ds).bind fun _=>f x)=some r) (k:∀x,d= .str x->ds=[]->f x=some r->P):P:=by
 refine ai h fun x h1 h=> ?_
 refine ai h fun u h2 h=> ?_
 exact k x (fF h1) (Ia h2) h
end
section
variable {d r:PyData} {ds:List PyData}
theorem Jz (h:BA d ds=some r):kx prog w mg mb A X "join" d ds r:=by
 refine ai h fun x h1 h=> ?_
 refine ai h fun es h2 h=> ?_
 refine ai h2 fun e h3 h4=> ?_
 refine ai h fun ys JA h=> ?_
 refine aO h fun bt h=> ?_
 (obtain rfl:=Option.some.inj h;clear h)
 obtain rfl:=fF h1
 obtain rfl:=fP h3
 obtain rfl:=gd h4
 refine r9 F.slot_str_join F.type_str_join fun s t vs E hx C rv=> ?_
 (refine aU rv.cons_inv fun v us dz q1 q2=> ?_;subst dz)
 rw [q2.nil_inv]
 (refine cT q1.dY fun a o ws n fu t1 m1 e1 k1 d1 r1=> ?_;subst fu)
 rw [BY JA] at r1
 refine aj (CC r1:) fun l hl fE=> ?_
 exact SC.join (l:=l) ⟨o,e1,k1,n,by rw [d1, <- hl]⟩ fE bt fun t' k=>⟨Kp.toks C, .str _ _⟩
theorem JB (h:BB d ds=some r):kx prog w mg mb A X "split" d ds r:=by
 refine str1 h fun x y fw fx hf=> ?_;subst fw;subst fx
 refine aO hf fun bt hf=> ?_
 (obtain rfl:=Option.some.inj hf;clear hf)
 exact xY F.slot_str_split F.type_str_split fun s t u E hx C=>Js hx C bt.1 bt.2.1 bt.2.2
theorem JC (h:BC d ds=some r):kx prog w mg mb A X "startswith" d ds r:=by
 refine str1 h fun x y fw fx hf=> ?_;subst fw;subst fx
 (obtain rfl:=Option.some.inj hf;clear hf)
 exact xY F.slot_str_startswith F.type_str_startswith fun s t u E hx C=>SC.startswith ⟨Kp.refl C, .bool _⟩
theorem JD (h:BD d ds=some r):kx prog w mg mb A X "endswith" d ds r:=by
 refine str1 h fun x y fw fx hf=> ?_;subst fw;subst fx
 (obtain rfl:=Option.some.inj hf;clear hf)
 exact xY F.slot_str_endswith F.type_str_endswith fun s t u E hx C=>SC.endswith ⟨Kp.refl C, .bool _⟩
theorem JE (h:BE d ds=some r):kx prog w mg mb A X "find" d ds r:=by
 refine ai h fun x h1 h=> ?_
 (refine ai h fun oJ h2 h=> ?_;obtain ⟨a,b,c⟩:=oJ)
 refine ai h fun y h3 h=> ?_
 refine ai h fun i h4 h=> ?_
 refine ai h fun j h5 h=> ?_
 refine aO h fun bt h=> ?_
 (obtain rfl:=Option.some.inj h;clear h)
 obtain rfl:=fF h1
 obtain rfl:=Ib h2
 obtain rfl:=fF h3
 obtain rfl:=gH h4
 obtain rfl:=gH h5
 refine r9 F.slot_str_find F.type_str_find fun s t vs E hx C rv=> ?_
 (refine aU rv.cons_inv fun v us oK q1 q2=> ?_;subst oK)
 (refine aU q2.cons_inv fun xZ JF mh q3 JG=> ?_;subst mh)
 (refine aU JG.cons_inv fun Sv JH ml q4 JI=> ?_;subst ml)
 rw [JI.nil_inv]
 (refine xE q1.str_inv fun u rN=> ?_;subst rN)
 (refine xE q3.int_inv fun JJ rO=> ?_;subst rO)
 (refine xE q4.int_inv fun JK rP=> ?_;subst rP)
 exact call_gives F.slot_str_find (typeIs_str _ _ _) F.entry_str_find (F.args_str_find_4 _ _ _ _) (Jr x y i j t u JJ JK bt.1 bt.2.2.1 bt.2.2.2) ⟨Kp.toks C, .int _ _⟩
theorem JL (h:BF d ds=some r):kx prog w mg mb A X "lower" d ds r:=by
 refine str0 h fun x oL rQ hf=> ?_;subst oL;subst rQ
 refine aO hf fun bt hf=> ?_
 (obtain rfl:=Option.some.inj hf;clear hf)
 exact r9 F.slot_str_lower F.type_str_lower fun s t vs E hx C rv=>by rw [rv.nil_inv];exact SC.lower bt ⟨Kp.toks C, .str _ _⟩
theorem JM (h:BG d ds=some r):kx prog w mg mb A X "upper" d ds r:=by
 refine str0 h fun x oL rQ hf=> ?_;subst oL;subst rQ
 refine aO hf fun bt hf=> ?_
 (obtain rfl:=Option.some.inj hf;clear hf)
 exact r9 F.slot_str_upper F.type_str_upper fun s t vs E hx C rv=>by rw [rv.nil_inv];exact SC.upper bt ⟨Kp.toks C, .str _ _⟩
theorem JN (hA:cG A) (h:BH d ds=some r):kx prog w mg mb A X "index" d ds r:=by
 refine ai h fun es h1 h=> ?_
 refine ai h fun e h2 h=> ?_
 refine aO h fun bt h=> ?_
 refine cO h fun i hi h=> ?_
 subst h
 obtain rfl:=gd h1
 obtain rfl:=fP h2
 refine ⟨"list",_,F.plainAttrs_list,F.slot_list_index,F.type_list_index,fun s ov q=> ?_,fun s ov vs E hx C ro rv=> ?_⟩
 ·(refine cT q.dY fun a o ws n xD t1 m1 e1 k1 d1 r1=> ?_;subst xD)
  exact ⟨⟨o,e1,k1⟩,fun b e=>by cases e;exact ⟨o,e1,(q.list_dict e1).1⟩⟩
 ·(refine aU rv.cons_inv fun v us xF q1 q2=> ?_;subst xF)
  rw [q2.nil_inv]
  exact Jt hA C ro q1 bt.1 bt.2.1 bt.2.2 hi
theorem JO {m:Str} (hA:cG A) (h:iA m d ds=some r):kx prog w mg mb A X m d ds r:=by
 refine mU h (fun hm h=>by subst hm;exact Jz h) fun _ h=> ?_
 refine mU h (fun hm h=>by subst hm;exact JB h) fun _ h=> ?_
 refine mU h (fun hm h=>by subst hm;exact JC h) fun _ h=> ?_
 refine mU h (fun hm h=>by subst hm;exact JD h) fun _ h=> ?_
 refine mU h (fun hm h=>by subst hm;exact JE h) fun _ h=> ?_
 refine mU h (fun hm h=>by subst hm;exact JL h) fun _ h=> ?_
 refine mU h (fun hm h=>by subst hm;exact JM h) fun _ h=> ?_
 refine aO h fun hm h=> ?_;subst hm
 exact JN hA h
end
end
end
structure Lv (m:Nat) (A:Around):Prop where
 hd:A.handled=none
 dp:A.depth+m+8 < recursionLimit
 un:A.units+100*m+1000 < cLine
theorem Lv.ok {m:Nat} {A:Around} (h:Lv m A):cG A:=⟨h.hd,by have:=h.dp;exact Zb cy 18 [_,_,_] [] this,by have:=h.un;exact Zb cy 19 [_,_,_] [] this⟩
theorem Lv.le {m n:Nat} {A:Around} (h:Lv m A) (l:n<=m):Lv n A:=⟨h.hd,by have:=h.dp;exact Zb cy 20 [_,_,_,_] [] this l,by have:=h.un;exact Zb cy 21 [_,_,_,_] [] this l⟩
theorem Lv.deeper {m:Nat} {A:Around} (h:Lv (m+1) A) (env:Env):Lv m (A.deeper env):=
 ⟨h.hd,by have:=h.dp;show A.depth+1+m+8 < _;exact Zb cy 22 [_,_,_] [] this,by have:=h.un;show A.units+3+100*m+1000 < _;exact Zb cy 23 [_,_,_] [] this⟩
theorem Lv.room {m:Nat} {A:Around} (h:Lv m A):A.depth < recursionLimit:=by have:=h.dp;exact Zb cy 26 [_,_,_] [] this
noncomputable def fb (prog:Program) (w:World) (mg mb:Str->Option Value) (m:Nat) (X:List Addr) (h₀:Heap) (kv:Value) (κ:PyData->Option PyData):Prop:=
 (∃a o fd,kv= .ref a/\a∉az/\h₀.get? a=some o/\o.data= .func fd)/\
 ∀(A:Around) (N:List Addr) (s:Shared) (v:Value) (d d':PyData) (E:Value->Shared->Prop),Lv m A->aA h₀ s.heap->(∀a∈N,h₀.get? a=none)->aN (N++X) s.heap->Ctx w.params mg mb (N++X) s.heap->Rep (N++X) s.heap v d->κ d=some d'->
  wpAny (model prog w) A (call kv [v]) (fun r s'=>Kp w.params mg mb (N++X) s s'/\Rep (N++X) s'.heap r d') E s
section
variable {prog:Program} {w:World} {mg mb:Str->Option Value}
variable {A:Around} {ae:Shared} {X:List Addr} {lm:Bool} {env:Env} {sc:Scope} {ρ:bh} {m:Nat}
theorem fb.keep {h:Heap} {kv:Value} {κ:PyData->Option PyData} (x:fb prog w mg mb m X h kv κ):gM kv h:= .inr (.inr x.1)
theorem fb.grow {h h':Heap} {kv:Value} {κ:PyData->Option PyData} (x:fb prog w mg mb m X h kv κ) (g:aA h h'):fb prog w mg mb m X h' kv κ:=by
 (refine xA x ?_;clear x;intro ay k;obtain ⟨a,o,fd,e,n,ho,hd⟩:=ay)
 refine ⟨⟨a,o,fd,e,n,g a o n ho,hd⟩,fun A N s v d d' E hl hg hf hx C r e=>k A N s v d d' E hl (g.trans hg) (fun b hb=> ?_) hx C r e⟩
 cases q:h.get? b with
 | none=>rfl
 | some ob=>
  have:=g b ob (hx b (List.mem_append_left _ hb)).1 q
  rw [hf b hb] at this;exact no this
theorem fb.fresh {h:Heap} {M:List Addr} {kv:Value} {κ:PyData->Option PyData} (x:fb prog w mg mb m X h kv κ) (f:∀a∈M,h.get? a=none):fb prog w mg mb m (M++X) h kv κ:=
 ⟨x.1,fun A N s v d d' E hl hg hf hx C r e=>by
  have:=x.2 A (N++M) s v d d' E hl hg (fun a ha=>(List.mem_append.mp ha).elim (hf a) (f a)) (by rw [List.append_assoc];exact hx) (by rw [List.append_assoc];exact C) (by rw [List.append_assoc];exact r) e
  rw [List.append_assoc] at this
  exact this⟩
theorem JP {pos:Pos} {cv a:Value} {i j:Int}:∀(l:List Value),TriplesOk l->codeAmong pos (l++[rawInt i,rawInt j,a])=some cv->codeAmong pos l=some cv\/cv=a
 | l,h,e=>by
  fun_induction TriplesOk l with
  | case1=>
   simp only [List.nil_append,codeAmong,rawInt] at e
   split at e
   ·exact .inr (Option.some.inj e).symm
   ·exact no e
  | case2 p t q u x rest ih=>
   simp only [List.cons_append,codeAmong] at e ⊢
   split at e
   ·rename_i hc;rw [if_pos hc];exact .inl e
   ·rename_i hc;rw [if_neg hc];exact ih h e
  | case3 l h1 h2=>exact h.elim
theorem JQ {P:Params} {h:Heap} (K:(KI P).In h):CodeHd h 258 254:=by
 obtain ⟨o,e,q⟩:∃o,(KI P).lookup 258=some o/\∃vs file tf flags tg oS text tt,o.cls= .type "code"/\o.data= .fields vs/\vs[11]? =some (.ref 254)/\vs.getD 11 .none= .ref 254/\vs.getD 18 .none= .str file tf/\
  vs.getD 7 .none= .int flags tg/\vs.getD 9 .none= .bool oS/\vs.getD 10 .none= .int text tt/\(258:Addr)≠254:=⟨_,rfl,_,_,_,_,_,_,_,_,rfl,rfl,rfl,rfl,rfl,rfl,rfl,rfl,by decide⟩
 (refine AS q ?_;clear q;intro vs file tf flags tg oS text tt r)
 exact ⟨o,vs,file,tf,flags,tg,oS,text,tt,K _ _ e,r⟩
theorem JR {P:Params} {h:Heap} (K:(KI P).In h):CodeHd h 251 249:=by
 obtain ⟨o,e,q⟩:∃o,(KI P).lookup 251=some o/\∃vs file tf flags tg oS text tt,o.cls= .type "code"/\o.data= .fields vs/\vs[11]? =some (.ref 249)/\vs.getD 11 .none= .ref 249/\vs.getD 18 .none= .str file tf/\
  vs.getD 7 .none= .int flags tg/\vs.getD 9 .none= .bool oS/\vs.getD 10 .none= .int text tt/\(251:Addr)≠249:=⟨_,rfl,_,_,_,_,_,_,_,_,rfl,rfl,rfl,rfl,rfl,rfl,rfl,rfl,by decide⟩
 (refine AS q ?_;clear q;intro vs file tf flags tg oS text tt r)
 exact ⟨o,vs,file,tf,flags,tg,oS,text,tt,K _ _ e,r⟩
theorem fc {h:Heap}:∀b o,(ba X h).get? b=some o->h.get? b=some o:=fun _ _ e=>(dI e).1
theorem CE {a:Arguments} {aI:Scope} {x:Str} (h:lA a aI=some x):(∃p,x="one"/\a=⟨[],[⟨x,none,p⟩],none,[],[],none,[]⟩)/\aI.names.lookup x=some .local/\aI.kind= .function/\aI.isGenerator=false/\aI.isCoroutine=false/\gK aI=true:=by
 obtain ⟨po,ar,va,ko,kd,kw,de⟩:=a
 cases po with
 | cons=>exact no h
 | nil=>
 cases ar with
 | nil=>exact no h
 | cons g ar=>
 obtain ⟨y,an,p⟩:=g
 cases an with
 | some=>exact no h
 | none=>
 cases ar with
 | cons=>exact no h
 | nil=>
 cases va with
 | some=>exact no h
 | none=>
 cases ko with
 | cons=>exact no h
 | nil=>
 cases kd with
 | cons=>exact no h
 | nil=>
 cases kw with
 | some=>exact no h
 | none=>
 cases de with
 | cons=>exact no h
 | nil=>
 refine aO h fun hc h=> ?_
 cases h;rcases hc with ⟨rfl,hc⟩;exact ⟨⟨_,rfl,rfl⟩,hc⟩
theorem JS {fd:FuncData} {x:Str} {p:Pos} {v:Value} (hx:x="one") (h:fd.params=⟨[],[⟨x,none,p⟩],none,[],[],none,[]⟩) (h8:fd.defaults= .none) (h9:fd.kwdefaults= .none):bindArgs fd ⟨[v],[]⟩=pure [(x,v)]:=by
 subst hx;cases fd;cases h;cases h8;cases h9;rfl
theorem CG {J:aK} (hJ:∀A,Lv m A->br prog w mg mb A false J) {h₀:Heap} (R:bP lm X h₀ env sc ρ) {la:Arguments} {lb:Expr} {aI:Scope} {x:Str} (gj:lA la aI=some x) (d7:freeOk sc aI=true)
  {cl:List (Str × Addr)} (e1:∀y a,cl.lookup y=some a->env.cells.lookup y=some a) (e2:∀y,(y,NameKind.free)∈aI.names->(cl.lookup y).isSome=true)
  {f:Addr} {fd:FuncData} {q:Str} (hf:f∉az) {bf:Heap} (CH:aA h₀ bf) (ho:bf.get? f=some {cls:= .type "function",data:= .func fd}) (JT:fd.scope=aI/\fd.body= .expr lb/\fd.params=la/\fd.globals=mainGlobals/\fd.closure=cl/\fd.builtins=builtinsNs/\fd.qualname=q/\fd.defaults= .none/\fd.kwdefaults= .none)
  (hc:(ba X bf).CodeRec fd.code q):fb prog w mg mb (m+1) X bf (.ref f) (fun d=>J.e aI (upd (inner aI ρ) x d) lb):=by
 refine ⟨⟨f,_,fd,rfl,hf,ho,rfl⟩,fun A N s v d d' E hl hg hN hx C r hd=> ?_⟩
 (refine w8 (CE gj:) fun aF pQ hk CI CJ bt=> ?_)
 refine aj aF fun p ay aP=> ?_;clear aF
 obtain ⟨f1,f2,f3,f4,f5,f6,f7,f8,f9⟩:=JT
 refine bG (uQ bt:) fun k1 k2 k3=> ?_
 have oT:s.heap.CodeRec fd.code fd.qualname:=by
  rw [f7]
  (refine pD hc ?_;clear hc;intro c o vs t c1 c2 c3 c4)
  refine bG (dI c2:) fun c2 c5 c6=> ?_
  exact ⟨c,o,vs,t,c1,hg _ _ c5 c2,c3,c4⟩
 refine wpAny_call (kla_callFunE hl.room (hg _ _ hf ho) rfl (by rw [f1];exact CJ) (by rw [f1];exact CI) f2 oT ?_)
 rw [JS ay (f3.trans aP) f8 f9,f1,f4,f5,f6]
 refine wpAny_pure (wpAny_newFunctionEnv (fun y hy e=>by rcases (k3 y hy).1 with q | q | q<;>(rw [e] at q;cases q)) (fun y hy=>by rw [List.mem_singleton.mp hy];exact pQ) (fun bH bX mw=> ?_) hk)
 have JU:s.heap.objs.size∉az:=fQ C
 have keep:∀b o,s.heap.get? b=some o->bH.get? b=some o:=fun b o e=>mw.extBut b o (mv (Heap.lt_size e)) (Heap.get?_push_of_some _ e)
 have ku:Ctx w.params mg mb (N++X) bH:=C.keeps keep
 refine aj ku.nl fun mc oU oV=> ?_
 refine ⟨⟨mc,oU,oV⟩,kla_codeExpr ?_⟩
 have gg:aA h₀ bH:=(CH.trans hg).trans (aA.of keep)
 have fr:∀y,aI.names.lookup y=some .free->aI.names.lookup y=some .cell\/aI.names.lookup y=some .free:=fun y h=> .inr h
 have JV:∀a∈N,h₀.get? a=none:=fun b hb=>by
  cases q:h₀.get? b with
  | none=>rfl
  | some ob=>
   have:=CH b ob (hx b (List.mem_append_left _ hb)).1 q
   rw [hN b hb] at this;exact no this
 have JW:bP false (N++X) bH (newEnv aI s.heap.objs.size mainGlobals cl (fd.qualname++".<locals>.") (some f) fd.code none builtinsNs) aI (upd (inner aI ρ) x d):=by
  refine ⟨hk,rfl,rfl,fun y hy=>beq_iff_eq.mp hy,fun y hy=>uP.mp hy,fun y hy=> ?_,fun y x6 e=> ?_,fun y k e=>k2 _ (mem_of_lookup e),fun y a e=> ?_,fun h=>nomatch h⟩
  ·have hf:aI.names.lookup y=some .free:=by
    unfold lz at hy
    rcases Bool.or_eq_true_iff.mp hy with q | q
    ·have:=mem_of_lookup (beq_iff_eq.mp q)
     rcases (k3 _ this).1 with q | q | q<;>cases q
    ·exact beq_iff_eq.mp q
   exact ⟨.inr hf,e2 y (mem_of_lookup hf)⟩
  ·by_cases hy:y=x
   ·subst hy
    have:x6=d:=by simp only [upd,if_true] at e;exact (Option.some.inj e).symm
    subst this
    exact ⟨v, .loc pQ JU bX (by simp [List.lookup]), .inl (r.grow (aA.of keep))⟩
   ·have e:inner aI ρ y=some x6:=by simpa only [upd,if_neg hy] using e
    unfold cb.inner at e
    split at e
    ·rename_i x7
     refine aj (R.vals y x6 e:) fun u hu ru=> ?_
     have hc:lz sc y=true:=by
      have:=List.all_eq_true.mp d7 _ (mem_of_lookup x7)
      simpa using this
     refine xA (R.cell y hc:) fun c1 c2=> ?_
     refine ⟨u, ?_,(ru.fresh JV).grow gg⟩
     cases hu with
     | loc hl=>rcases c1 with q | q<;>(rw [hl] at q;cases q)
     | @cell a hl aM n hv=>
      refine .cell (.inr x7) ?_ n (rK gg n hv)
      refine xE (Option.isSome_iff_exists.mp (e2 y (mem_of_lookup x7)):) fun b hb=> ?_
      have:=e1 y b hb
      rw [aM] at this;cases this
      exact hb
    ·exact no e
  ·refine bV (R.eY y a (e1 y a e):) fun n o q=> ?_
   exact ⟨n,o,gg a o n q⟩
 refine ((hJ _ (hl.deeper _)).e (ae:={s with heap:=bH,toks:=s.toks+1}) ku (hx.grow (aA.of keep)) JW hd).then (Kp.refl ku) fun r' s' k' rr=> ?_
 refine ⟨?_,rr⟩
 (refine aU k' ?_;clear k';intro h' t' aP g' c';subst aP)
 exact ⟨h',t',rfl,(aA.of keep).trans g',c'⟩
end
section
variable {prog:Program} {w:World} {mg mb:Str->Option Value}
variable {A:Around} {ae:Shared} {X:List Addr} {lm:Bool} {env:Env} {sc:Scope} {ρ:bh} {m:Nat}
theorem pX {P:Params} {h:Heap} (C:Ctx P mg mb X h):∀T∈az,T < h.objs.size:=fun T hT=>by
 refine aj C.t1 fun ps e _=> ?_
 refine aj C.t2 fun rL e' _=> ?_
 simp only [az,List.mem_cons,List.not_mem_nil,or_false] at hT
 have l3:=Heap.lt_size C.l2
 rcases hT with rfl | rfl | rfl
 ·exact Heap.lt_size e'
 ·exact Heap.lt_size e
 ·exact l3
theorem CK {J:aK} (hJ:∀A,Lv m A->br prog w mg mb A false J) (hx:aN X ae.heap) (R:bP lm X ae.heap env sc ρ) {la:Arguments} {lb:Expr} {aI:Scope} {x:Str} (gj:lA la aI=some x) (d7:freeOk sc aI=true)
  {c T T':Addr} {q q':Str} (hT:T∈az) (JX:(2:Addr)≠T) (JY:T'≠T) (CL:env.code= .ref c) (hq:env.qual++("<lambda>":Str)=q) (hd:∀{h:Heap},(KI w.params).In h->CodeHd h c T)
  (tt:∀{h:Heap},Ctx w.params mg mb X h->fy X h T q/\fy X h T' q') (tb:∀{h h':Heap},Ctx w.params mg mb X h->aA h h'->fy X h' T q->fy X h' T' q'->h'.get? 2=some (o2 w.params)->Ctx w.params mg mb X h') (pos:Pos):
  Ev prog w mg mb A X ae (eval (.Lambda la lb aI pos) env) (fun v h=>fb prog w mg mb (m+1) X h v (fun d=>J.e aI (upd (inner aI ρ) x d) lb)):=by
 intro E s k
 have C:=k.ctx
 have eM:=hx.grow k.grow
 have Rs:=R.grow k.grow
 (refine w8 (CE gj:) fun ay pQ hk CI CJ bt=> ?_)
 refine aj ay fun p _ hp=> ?_
 refine bG (uQ bt:) fun k1 k2 k3=> ?_
 have hn:∀p∈aI.names,p.2= .free->(env.cells.lookup p.1).isSome=true:=fun p m e=>by
  have:=List.all_eq_true.mp d7 _ m
  rw [e] at this
  exact (R.cell p.1 (by simpa using this)).2
 refine ey (Cq hn:) fun cl e0 e1 e2=> ?_
 refine xA (tt C:) fun ta JZ=> ?_
 (refine ey ta ?_;clear ta;intro ps hP uS CM)
 obtain ⟨bm,ob,b1,b2,b3,b5,b6,b7,b8⟩:=C.bm
 have CN:=dI b5
 have CO:s.heap.Ns mainGlobals mg:=C.g.keeps fc
 have J0:mainGlobals≠T:=fun e=>by
  refine lg C.g fun o es ep e1 _=> ?_
  exact (dI e1).2.1 (e▸hT)
 have J1:bm≠T:=fun e=>CN.2.1 (e▸hT)
 have CP:CodeHd s.heap c T:=(hd C.dX).keeps fc
 have hB:s.heap.BuiltinsAt mg T:=⟨bm,ob,b1,b2,b3,J1,CN.1,b6,b7,b8⟩
 refine kla_eval (by rw [hp];rfl) ?_
 cases hf:codeAmong pos ps.toList with
 | none=>
  refine kla_makeFunction (mg:=mg) e0 R.gl CO CL CP hP uS hf J0 hB fun c' pY h' tk jn x8 bg oT J6=> ?_
  rw [hq] at oT
  have x9:∀t∈az,t < h'.objs.size:=fun t ht=>Nat.lt_of_lt_of_le (pX C t ht) (Nat.le_trans x8 (Nat.le_of_lt bg))
  have g:aA s.heap (h'.push (kla_obj "<lambda>" (env.qual++("<lambda>":Str)) la lb aI cl ((mg "__name__").getD .none) c' pY)):=fun b o n e=>Heap.get?_push_of_some _ (jn b o (fun q=>n (q▸hT)) e)
  have J7:c'∉az:=fun m=>Nat.lt_irrefl _ (Nat.lt_of_lt_of_le (pX C _ m) x8)
  have J8:c'∉X:=fun m=>by
   refine bV (eM _ m:) fun _ o e=> ?_
   exact Nat.lt_irrefl _ (Nat.lt_of_lt_of_le (Heap.lt_size e) x8)
  have CQ:(ba X (h'.push (kla_obj "<lambda>" (env.qual++("<lambda>":Str)) la lb aI cl ((mg "__name__").getD .none) c' pY))).CodeRec (.ref c') q:=by
   (refine pD oT ?_;clear oT;intro c₂ oc vs t e2 ky hd hv)
   cases e2
   exact ⟨c',oc,vs,t,rfl,gc (Heap.get?_push_of_some _ ky) J7 J8,hd,hv⟩
  have t1:fy X (h'.push (kla_obj "<lambda>" (env.qual++("<lambda>":Str)) la lb aI cl ((mg "__name__").getD .none) c' pY)) T q:=by
   refine ⟨_,Heap.get?_push_of_some _ J6, ?_,fun pos' cv e=> ?_⟩
   ·rw [Array.toList_append];exact TriplesOk_snoc _ _ _ _ uS
   ·rw [Array.toList_append] at e
    rcases JP _ uS e with e | e
    ·refine aj (CM _ _ e:) fun c₂ e2 r=> ?_
     exact ⟨c₂,e2,r.keeps (jJ g)⟩
    ·exact ⟨c',e,CQ⟩
  have t2:fy X (h'.push (kla_obj "<lambda>" (env.qual++("<lambda>":Str)) la lb aI cl ((mg "__name__").getD .none) c' pY)) T' q':=JZ.keeps (jJ g) fun o e=>Heap.get?_push_of_some _ (jn _ _ JY e)
  refine ⟨⟨_,tk,rfl,g,tb C g t1 t2 (Heap.get?_push_of_some _ (jn _ _ JX C.l2))⟩, ?_⟩
  exact CG hJ Rs gj d7 e1 e2 (q:=q) (fun m=>Nat.lt_irrefl _ (x9 _ m)) g (Heap.get?_push_size _ rfl) ⟨rfl,rfl,rfl,rfl,rfl,rfl,hq,rfl,rfl⟩ CQ
 | some cv=>
  (refine aj (CM _ _ hf:) fun c' aF oT=> ?_;subst aF)
  refine kla_makeFunctionHit (mg:=mg) e0 R.gl CO CL CP hP uS hf hB fun pY h' tk fU bQ=> ?_
  have x9:∀t∈az,t < h'.objs.size:=fun t ht=>Nat.lt_of_lt_of_le (pX C t ht) bQ
  have keep:∀b o,s.heap.get? b=some o->(h'.push {cls:= .type "function",data:= .func (kla_fn "<lambda>" (env.qual++("<lambda>":Str)) la lb aI cl ((mg "__name__").getD .none) (.ref c') pY)}).get? b=some o:=fun b o e=>Heap.get?_push_of_some _ (fU b o e)
  have g:=aA.of keep
  refine ⟨⟨_,tk,rfl,g,C.keeps keep⟩, ?_⟩
  exact CG hJ Rs gj d7 e1 e2 (q:=q) (fun m=>Nat.lt_irrefl _ (x9 _ m)) g (Heap.get?_push_size _ rfl) ⟨rfl,rfl,rfl,rfl,rfl,rfl,hq,rfl,rfl⟩ (oT.keeps (jJ g))
theorem CR {J:aK} (hJ:∀A,Lv m A->br prog w mg mb A false J) (hx:aN X ae.heap) (R:bP lm X ae.heap env sc ρ) (iD:lm=true) {la:Arguments} {lb:Expr} {aI:Scope} {x:Str} (gj:lA la aI=some x) (d7:freeOk sc aI=true) (pos:Pos):
  Ev prog w mg mb A X ae (eval (.Lambda la lb aI pos) env) (fun v h=>fb prog w mg mb (m+1) X h v (fun d=>J.e aI (upd (inner aI ρ) x d) lb)):=by
 refine pF ((R.lam iD).it:) fun c T q h1 h2 h3=> ?_
 rcases h1 with h1 | h1
 ·cases h1
  exact CK hJ hx R gj d7 (T':=249) (q':=rA) (by decide) (by decide) (by decide) h2 h3 JQ (fun C=>⟨C.t2,C.t1⟩) (fun C g a b l=>C.step (jJ g) b a l) pos
 ·cases h1
  exact CK hJ hx R gj d7 (T':=254) (q':=rB) (by decide) (by decide) (by decide) h2 h3 JR (fun C=>⟨C.t1,C.t2⟩) (fun C g a b l=>C.step (jJ g) a b l) pos
end
theorem J9 {ds l:List PyData} {P:Prop} (h:iV ds=some l) (k1:∀b,ds=[.int b]-> -1000000 < b/\b < 1000000->l=(rangeInts 0 b 1).map .int->P)
  (k2:∀a b,ds=[.int a, .int b]-> -1000000 < b/\b < 1000000/\ -1000000 < a/\a < 1000000->l=(rangeInts a b 1).map .int->P)
  (k3:∀a b c,ds=[.int a, .int b, .int c]-> -1000000 < b/\b < 1000000/\ -1000000 < a/\a < 1000000/\0 < c/\c < 1000000->l=(rangeInts a b c).map .int->P):P:=by
 cases ds with
 | nil=>exact no h
 | cons a ds=>
 cases a with
 | int a=>
  cases ds with
  | nil=>exact aO h fun q h=>k1 _ rfl q (Option.some.inj h).symm
  | cons b ds=>
  cases b with
  | int b=>
   cases ds with
   | nil=>exact aO h fun q h=>k2 _ _ rfl q (Option.some.inj h).symm
   | cons c ds=>
   cases c with
   | int c=>
    cases ds with
    | nil=>exact aO h fun q h=>k3 _ _ _ rfl q (Option.some.inj h).symm
    | cons=>exact no h
   | _=>exact no h
  | _=>exact no h
 | _=>exact no h
noncomputable def jo (mg mb:Str->Option Value) (f:Str) (v:Value):Prop:=mg f=some v\/(mg f=none/\mb f=some v)
section
variable {prog:Program} {w:World} {mg mb:Str->Option Value}
variable {A:Around} {ae:Shared} {X:List Addr} {lm:Bool} {env:Env} {sc:Scope} {ρ:bh} {m:Nat}
theorem fI {P:Params} {h:Heap} {f:Str} {v:Value} (C:Ctx P mg mb X h) (e:nsIn (KI P) mainGlobals f=some (some v)):jo mg mb f v:= .inl (mg_of C.dX C.g e)
theorem kz {P:Params} {h:Heap} {f:Str} {v:Value} (C:Ctx P mg mb X h) (e:nsIn (KI P) mainGlobals f=some none) (hn:f≠"__name__") (hb:bootBuiltins f=some v):jo mg mb f v:=
 .inr ⟨mg_none_of C.dX C.g e,(C.bi f hn).trans hb⟩
theorem jq {f:Str} {v:Value} {p:Pos} (R:bP lm X ae.heap env sc ρ) (hg:dP sc f=true) (G:∀h,Ctx w.params mg mb X h->jo mg mb f v) (hd:(f==("__debug__":Str))=false):
  Ev prog w mg mb A X ae (eval (.Name f p) env) (fun u _=>u=v):=by
 intro E s k
 have C:=k.ctx
 refine Name_function_global R.kind (R.glob f hg) ?_ hd
 have h1:s.heap.Ns env.globals mg:=by rw [R.gl];exact C.g.keeps fc
 have h2:s.heap.Ns env.builtins mb:=by rw [R.bi];exact C.b.keeps fc
 rcases G _ C with g | ⟨g1,g2⟩
 ·exact loadGlobal_global h1 g ⟨Kp.refl C,rfl⟩
 ·exact loadGlobal_builtin h1 g1 h2 g2 ⟨Kp.refl C,rfl⟩
theorem CT {f:Str} {v:Value} {fp pos:Pos} {args:List Expr} {ds:List PyData} {g:Expr->Option PyData} {R':Value->Heap->Prop} (hx:aN X ae.heap) (R:bP lm X ae.heap env sc ρ) (hg:dP sc f=true) (G:∀h,Ctx w.params mg mb X h->jo mg mb f v) (hd:(f==("__debug__":Str))=false) (hk:∀h,Ctx w.params mg mb X h->gM v h)
  (hs:∀e p,g (.Starred e p)=none) (hf:∀e∈args,∀d,g e=some d->Ev prog w mg mb A X ae (eval e env) (fun v h=>Rep X h v d)) (h:cC g args=some ds)
  (hc:∀s vs E,aN X s.heap->Ctx w.params mg mb X s.heap->ax X s.heap vs ds->wpAny (model prog w) A (call v vs) (fun r s'=>Kp w.params mg mb X s s'/\R' r s'.heap) E s):
  Ev prog w mg mb A X ae (eval (.Call (.Name f fp) args [] pos) env) R':=by
 intro E s k
 refine wpAny_Call_Name_kw ((jq R hg G hd).then k fun u ab k₁ e=> ?_)
 subst e
 refine gO (first:=[]) (xH hs h pos) ((rR hs hf h pos).then (k.trans k₁) fun vs aq k₂ jm=> ?_)
 refine ⟨hk _ k₂.ctx, ?_⟩
 have kk:=(k.trans k₁).trans k₂
 exact wpAny_mono (hc aq vs E (hx.grow kk.grow) k₂.ctx jm) (fun r s' q=>⟨(k₁.trans k₂).trans q.1,q.2⟩) fun _ _ q=>q
theorem fits_of {i:Int} (h: -4000000<=i) (h':i<=4000000):Builtin.Range.rangeFitsLong i=true:=by
 unfold Builtin.Range.rangeFitsLong
 rw [Bool.and_eq_true,decide_eq_true_eq,decide_eq_true_eq]
 exact ⟨Int.le_trans (by decide+kernel) h,Int.lt_of_le_of_lt h' (by decide+kernel)⟩
theorem size_le {a b c:Int} (ha: -1000000 < a) (hV:b < 1000000) (hc:0 < c):Builtin.Range.rangeSize a b c<=4000000:=
 Cg hc (by decide+kernel) (Int.le_trans (Int.sub_le_sub (Int.le_of_lt hV) (Int.le_of_lt ha)) (by decide+kernel))
theorem ya {a b c:Int} (ha: -1000000 < a) (uT:a < 1000000) (hb: -1000000 < b) (hV:b < 1000000) (hc:0 < c) (gQ:c < 1000000):Builtin.Range.small a b c=true:=by
 unfold Builtin.Range.small
 have k:∀{i:Int}, -1000000 < i->i < 1000000->Builtin.Range.rangeFitsLong i=true:=fun h h'=>fits_of (Int.le_trans (by decide+kernel) (Int.le_of_lt h)) (Int.le_trans (Int.le_of_lt h') (by decide+kernel))
 have h4:Builtin.Range.rangeFitsLong (Builtin.Range.rangeSize a b c)=true:=fits_of (Int.le_trans (by decide+kernel) (xI hc)) (size_le ha hV hc)
 have h1:0<=c - 1:=Int.sub_nonneg_of_le hc
 have h5:Builtin.Range.rangeFitsLong (b+(c - 1))=true:=fits_of (Int.le_trans (by decide+kernel) (Int.add_le_add (Int.le_of_lt hb) h1)) (Int.le_trans (Int.add_le_add (Int.le_of_lt hV) (Int.sub_le_sub_right (Int.le_of_lt gQ) 1)) (by decide+kernel))
 rw [k ha uT,k hb hV,k (Int.lt_trans (by decide+kernel) hc) gQ,h4,if_pos hc,h5,Bool.or_true];rfl
theorem Ka {vs:List Value} {ds items:List PyData} {s:Shared} {E:Value->Shared->Prop} (C:Ctx w.params mg mb X s.heap) (r:ax X s.heap vs ds) (h:iV ds=some items):
  wpAny (model prog w) A (call (.type "range") vs) (fun v s'=>Kp w.params mg mb X s s'/\∃(r:Addr) (a b c:Int) (t u x:Tok),v= .ref r/\r∉az/\IsRange s'.heap r a b c t u x/\Builtin.Range.small a b c=true/\0 < c/\items=(rangeInts a b c).map .int/\Builtin.Range.rangeSize a b c<=10000000) E s:=by
 have sz:∀{a b c:Int}, -1000000 < a->a < 1000000-> -1000000 < b->b < 1000000->0 < c->Builtin.Range.rangeSize a b c<=10000000:=fun {a b c} ha uT hb hV hc=>Int.le_trans (size_le ha hV hc) (by decide+kernel)
 refine J9 h (fun b q hb q'=> ?_) (fun a b q hb q'=> ?_) (fun a b c q hb q'=> ?_)<;>subst q q'
 ·(refine aU r.cons_inv fun v us ay q1 q2=> ?_;subst ay)
  rw [q2.nil_inv]
  (refine xE q1.int_inv fun t aF=> ?_;subst aF)
  exact call_range_1 ⟨Kp.push C _,_,0,b,1,_,_,_,rfl,fQ C,IsRange.new ..,ya (by exact Zb Z4 25 [] []) (by exact Zb Z4 26 [] []) hb.1 hb.2 (by exact pN) (by exact Zb Z4 27 [] []),by exact pN,rfl,sz (by exact Zb Z4 25 [] []) (by exact Zb Z4 26 [] []) hb.1 hb.2 (by exact pN)⟩
 ·(refine aU r.cons_inv fun v us aP q1 q2=> ?_;subst aP)
  obtain ⟨v',us,rfl,q3,q2⟩:=q2.cons_inv
  rw [q2.nil_inv]
  (refine xE q1.int_inv fun t bK=> ?_;subst bK)
  (refine xE q3.int_inv fun t' bO=> ?_;subst bO)
  exact call_range_2 ⟨Kp.push C _,_,a,b,1,_,_,_,rfl,fQ C,IsRange.new ..,ya hb.2.2.1 hb.2.2.2 hb.1 hb.2.1 (by exact pN) (by exact Zb Z4 27 [] []),by exact pN,rfl,sz hb.2.2.1 hb.2.2.2 hb.1 hb.2.1 (by exact pN)⟩
 ·(refine aU r.cons_inv fun v us cF q1 q2=> ?_;subst cF)
  obtain ⟨v',us,rfl,q3,q2⟩:=q2.cons_inv
  obtain ⟨Sw,us,rfl,q4,q2⟩:=q2.cons_inv
  rw [q2.nil_inv]
  (refine xE q1.int_inv fun t dz=> ?_;subst dz)
  (refine xE q3.int_inv fun t' fu=> ?_;subst fu)
  (refine xE q4.int_inv fun Sx fw=> ?_;subst fw)
  (refine w8 hb ?_;clear hb;intro b1 b2 b3 b4 b5 b6)
  exact call_range_3 (by exact Zb cA 28 [] [_] b5) ⟨Kp.push C _,_,a,b,c,_,_,_,rfl,fQ C,IsRange.new ..,ya b3 b4 b1 b2 b5 b6,b5,rfl,sz b3 b4 b1 b2 b5⟩ (Or.inl (PyProof.noPylong_small (BS (Int.le_of_lt b5) (Int.lt_trans b6 (by decide+kernel)))))
theorem range_list {h:Heap}:∀(n:Nat) (acc:Array Value) {a c:Int},ItemsOf (fun (i:Nat) v=>∃t,v= .int (a+i*c) t) acc n->ax X h acc.toList ((List.range n).map fun (i:Nat)=> .int (a+i*c)):=by
 intro n acc a c nu
 (refine xA nu ?_;clear nu;intro h1 h2)
 have key:∀(l:List Value) (k:Nat),(∀j v,l[j]? =some v->∃t,v=Value.int (a+((k+j:Nat):Int)*c) t)->ax X h l ((List.range' k l.length).map fun (i:Nat)=> .int (a+i*c)):=by
  intro l
  induction l with
  | nil=>intro k _;exact .nil
  | cons v l ih=>
   intro k hk
   (refine xE (hk 0 v rfl:) fun t fx=> ?_;subst fx)
   refine .cons (.int _ _) (ih (k+1) fun j u e=> ?_)
   (refine xE (hk (j+1) u (by simpa using e):) fun t gG=> ?_;subst gG)
   exact ⟨t,by rw [show k+(j+1)=k+1+j by exact Zb Z1 30 [_,_] []]⟩
 have:=key acc.toList 0 fun j v e=>by
  (refine xE (h2 j v (by simpa using e):) fun t ki=> ?_;subst ki)
  exact ⟨t,by rw [Nat.zero_add]⟩
 rw [Array.length_toList,h1, <- List.range_eq_range'] at this
 exact this
theorem Kb {s:Shared} {E:Value->Shared->Prop} {r:Addr} {a b c:Int} {t u x:Tok} (hh:A.handled=none) (hx:aN X s.heap) (C:Ctx w.params mg mb X s.heap) (hr:IsRange s.heap r a b c t u x) (hs:Builtin.Range.small a b c=true) (hc:0 < c) (bQ:Builtin.Range.rangeSize a b c<=10000000):
  wpAny (model prog w) A (call (.type "list") [.ref r]) (fun v s'=>Kp w.params mg mb X s s'/\Rep X s'.heap v (.list ((rangeInts a b c).map .int))) E s:=by
 have h0:=xI (a:=a) (b:=b) hc
 refine call_list_range (n:=(Builtin.Range.rangeSize a b c).toNat) hh hr hs (by exact Zb Z1 31 [] [_] h0) (by lia) fun h' tk Kc c' hk hS nu=> ?_
 refine ⟨⟨h',tk,rfl,aA.of hk,C.keeps hk⟩,Rep.list hS rfl rfl rfl rfl (fQ C) hx.new ?_⟩
 unfold rangeInts
 rw [List.map_map]
 exact range_list _ Kc nu
end
section
set_option backward.match.sparseCases true
structure fJ (prog:Program) (w:World) (mg mb:Str->Option Value) (A:Around) (lm:Bool) (m:Nat) (Φ:cV):Prop where
 gl:∀x d,Φ.gl x=some d->(x==("__debug__":Str))=false/\∀X h,Ctx w.params mg mb X h->∃v,jo mg mb x v/\∀X' h',Rep X' h' v d
 fn:∀f ds d,Φ.fn f ds=some d->∃v,(∀X h,Ctx w.params mg mb X h->jo mg mb f v)/\(f==("__debug__":Str))=false/\(∀X h,Ctx w.params mg mb X h->gM v h)/\
  ∀X (s:Shared) vs (E:Value->Shared->Prop),aN X s.heap->Ctx w.params mg mb X s.heap->ax X s.heap vs ds->wpAny (model prog w) A (call v vs) (fun r s'=>Kp w.params mg mb X s s'/\Rep X s'.heap r d) E s
 fk:∀f ds κ d,Φ.fk f ds κ=some d->lm=true/\ds≠[]/\∃v,(∀X h,Ctx w.params mg mb X h->jo mg mb f v)/\(f==("__debug__":Str))=false/\(∀X h,Ctx w.params mg mb X h->gM v h)/\
  ∀X (s:Shared) vs kv (E:Value->Shared->Prop),aN X s.heap->Ctx w.params mg mb X s.heap->ax X s.heap vs ds->fb prog w mg mb (m+1) X s.heap kv κ->
   wpAny (model prog w) A (call v vs [(hU,kv)]) (fun r s'=>Kp w.params mg mb X s s'/\Rep X s'.heap r d) E s
section
variable {prog:Program} {w:World} {mg mb:Str->Option Value}
variable {A:Around} {ae:Shared} {X:List Addr} {lm:Bool} {env:Env} {sc:Scope} {ρ:bh} {m:Nat}
theorem Kd {l:Addr} {v:Value} {u:Tok} {o:Obj} {k:Nat} {Q:Value->Shared->Prop} {E:Value->Shared->Prop} {s:Shared} (hl:s.heap.get? l=some o) (h1:o.cls= .type "list") (h2:o.data= .seq #[v] k) (h3:o.dict=none) (h4:o.slots= #[])
  (h:Q (.ref s.heap.objs.size) {s with heap:=s.heap.push {cls:= .type "list",data:= .seq #[v,v,v]}}):
  wpAny (model prog w) A (binaryOp .Mult (.ref l) (.int 3 u)) Q E s:=by
 obtain ⟨cls,dd,data,sl⟩:=o
 simp only at h1 h2 h3 h4
 subst h1 h2 h3 h4
 exact wpAny_binaryOp_repeat_ref (T:="list") (U:="int") (by decide) ⟨_,hl,rfl⟩ (fun s'=>typeIs_int s' 3 u) noFill_list_mul F.fills_int_mul F.slot_int_rmul repeat_list F.slot_int_index.lookup
  (call_meets F.slot_int_rmul (typeIs_int s 3 u) F.entry_int_rmul (F.args_int_rmul_2 _ _) (int___rmul___int_list 3 u l #[v] k)
   ⟨hl,rfl,⟨_,hl,rfl⟩,call_meets F.slot_list_mul ⟨_,hl,rfl⟩ F.entry_list_mul (F.args_list_mul_2 _ _)
    (AutoListH.list___mul___list_int_3 l #[v] k 3 u (by simp [Builtin.List.listFitsIndex]) (by simp) (by simp [Builtin.List.listTooLong,sizeLine]))
    ⟨hl,h⟩⟩)
theorem CU {a b:Option (Option Int)} {f:Option Int->Option Int->Option PyData} {r:PyData} (h:(a.bind fun l=>b.bind fun u=>f l u)=some r):(∃l,a=some l)/\∃u,b=some u:=
 ai h fun l h1 h=>ai h fun u h2 _=>⟨⟨l,h1⟩,u,h2⟩
theorem Ke {value:Expr} {l u:Option Expr} {dl du:Option PyData} {d r:PyData} (hx:aN X ae.heap) {p pos:Pos} (hn:(isName value).isSome=true)
  (hv:Ev prog w mg mb A X ae (eval value env) (fun v h=>Rep X h v d)) (hl:Ev prog w mg mb A X ae (evalPart l env) (fun v h=>nh X h v dl)) (hu:Ev prog w mg mb A X ae (evalPart u env) (fun v h=>nh X h v du)) (h:km d dl du=some r):
  Ev prog w mg mb A X ae (eval (.Subscript value (.Slice l u none p) pos) env) (fun v h=>Rep X h v r):=by
 intro E s k
 have ht:∀o r,letTemporaryGo value o r=pure ():=by
  refine xE (Option.isSome_iff_exists.mp hn:) fun x hx=> ?_
  (refine xE (m9 hx:) fun p q=> ?_;subst q)
  intro _ _;rfl
 obtain ⟨T,hT,fE⟩:∃T id,typeLookup (.type T) "__getitem__"=pure (some (.builtin id))/\∀(s:Shared) v,Rep X s.heap v d->s.TypeIs v T:=by
  cases d with
  | str x=>exact ⟨"str",_,F.slot_str_getitem.lookup,fun s v r=>by (refine xE r.str_inv fun t aF=> ?_;subst aF);exact typeIs_str _ _ _⟩
  | list xs=>exact ⟨"list",_,list_getitem_lookup,fun s v r=>by (refine cT r.dY fun a o vs n aP t1 m1 e1 c1 d1 r1=> ?_;subst aP);exact ⟨o,e1,c1⟩⟩
  | _=>exact no h
 (refine xA fE ?_;clear fE;intro hM yb)
 have CV:(∃l',lu dl=some l')/\∃u',lu du=some u':=by
  cases d with
  | str x=>exact CU h
  | list xs=>exact CU h
  | _=>exact no h
 (refine bV CV ?_;clear CV;intro bI u' me;obtain ⟨l',bY⟩:=bI)
 refine wpAny_Subscript_Slice (T:=T) hM (hv.then k fun o ab k₁ ro=>wpAny_Slice (hl.then (k.trans k₁) fun vl aq k₂ rl=>hu.then ((k.trans k₁).trans k₂) fun vu aS bS ru=> ?_)) ht
 rw [evalPart_none]
 have K:Kp w.params mg mb X s aS:=(k₁.trans k₂).trans bS
 have CW:=(ro.grow k₂.grow).grow bS.grow
 have Kf:=rl.grow bS.grow
 (refine aj (Kf.val bY:) fun p bK hp=> ?_;subst bK)
 (refine aj (ru.val me:) fun q bO hq=> ?_;subst bO)
 have g:∀b o,aS.heap.get? b=some o->(aS.heap.push {cls:= .type "slice",data:= .fields #[partValue p,partValue q, .none]}).get? b=some o:=fun _ _ e=>Heap.get?_push_of_some _ e
 have C':=bS.ctx.keeps g
 refine wpAny_pure ⟨yb {aS with heap:=_} _ (CW.grow (aA.of g)), ?_⟩
 refine wpAny_mono (IW (s:={aS with heap:=aS.heap.push {cls:= .type "slice",data:= .fields #[partValue p,partValue q, .none]}}) (p:=p) (q:=q) (dl:=dl) (du:=du) (hx.grow ((k.trans K).grow.trans (aA.of g))) C' (CW.grow (aA.of g)) ?_ h (fun l e=> ?_) (fun l e=> ?_)) (fun v s' e=>⟨?_,e.2⟩) fun _ _ e=>e
 ·exact ⟨_,Heap.get?_push_size _ rfl,rfl,rfl⟩
 ·rw [bY] at e;cases e;exact hp
 ·rw [me] at e;cases e;exact hq
 ·exact K.trans (Kp.trans ⟨_,aS.toks,rfl,aA.of g,C'⟩ e.1)
end
end
section
variable {prog:Program} {w:World} {mg mb:Str->Option Value}
variable {A:Around} {ae:Shared} {X:List Addr} {lm:Bool} {env:Env} {sc:Scope} {ρ:bh} {m:Nat}
theorem CX {I:aK} (S:br prog w mg mb A lm I) (C:Ctx w.params mg mb X ae.heap) (hx:aN X ae.heap) (R:bP lm X ae.heap env sc ρ) {l:Option Expr} {dl:Option PyData} (h:(match l with | none=>some none | some e=>(I.e sc ρ e).map some)=some dl):
  Ev prog w mg mb A X ae (evalPart l env) (fun v h=>nh X h v dl):=by
 cases l with
 | none=>(obtain rfl:=Option.some.inj h;clear h);intro E s k;rw [evalPart_none];exact wpAny_pure ⟨Kp.refl k.ctx,rfl⟩
 | some e=>
  (refine cO h fun d hd ay=> ?_;subst ay)
  rw [evalPart_some]
  exact (S.e C hx R hd).mono fun v h r=>r
theorem CY {o:Expr} {m:Str} (h:uy o=true):attributeBase o m env (eval o env)=eval o env:=by
 cases o<;>first | rfl | exact eI h
theorem Kg {I:aK} (hA:cG A) (S:br prog w mg mb A lm I) (C:Ctx w.params mg mb X ae.heap) (hx:aN X ae.heap) (R:bP lm X ae.heap env sc ρ) {o:Expr} {mn:Str} {apos pos:Pos} {args:List Expr} {d r:PyData} {ds:List PyData}
  (cX:(apos.endLine==pos.line)=true) (hlen:args.length < 20) (hb:uy o=true) (ho:I.e sc ρ o=some d) (ha:cC (I.e sc ρ) args=some ds) (h:iA mn d ds=some r):
  Ev prog w mg mb A X ae (eval (.Call (.Attribute o mn apos) args [] pos) env) (fun v h=>Rep X h v r):=by
 intro E s k
 refine wZ (JO (prog:=prog) (w:=w) (mg:=mg) (mb:=mb) (X:=X) hA h:) fun T id pa slot yb hT hc=> ?_
 have bD:∀e p,I.e sc ρ (.Starred e p)=none:=S.star sc ρ
 have a8:=xH (env:=env) bD ha pos
 refine wpAny_Call_method_lateS (CY hb) ?_ cX ((S.e C hx R ho).then k fun ov ab k₁ ro=>⟨T,id,pa,slot,yb,(hT ab ov ro).1,(hT ab ov ro).2, ?_⟩)
 ·have e1:(backTo pos (starEach args env)).all (fun x=> !x.1)=true:=by
   rw [List.all_eq_true]
   intro x hx
   have:=List.any_eq_false.mp a8 x hx
   simpa using this
  rw [e1]
  rw [show backToKw pos (keywordEach [] env)=[] from rfl]
  simp
  exact Zb cB 24 [_] [] hlen
 refine gO (first:=[ov]) a8 ((rR bD (fun e _ d hd=>S.e C hx R hd) ha pos).then (k.trans k₁) fun vs aq k₂ rv=>⟨.inl ⟨_,rfl⟩, ?_⟩)
 have kk:=(k.trans k₁).trans k₂
 exact wpAny_mono (hc aq ov vs E (hx.grow kk.grow) k₂.ctx (ro.grow k₂.grow) rv) (fun r s' q=>⟨(k₁.trans k₂).trans q.1,q.2⟩) fun _ _ q=>q
theorem Kh {I J:aK} (S:br prog w mg mb A lm I) (hJ:∀A,Lv m A->br prog w mg mb A false J) (C:Ctx w.params mg mb X ae.heap) (hx:aN X ae.heap) (R:bP lm X ae.heap env sc ρ) (iD:lm=true) {f:Str} {v:Value} {fp pos yc CZ:Pos} {args:List Expr} {ds:List PyData} {la:Arguments} {lb:Expr} {aI:Scope} {x:Str} {d:PyData}
  (hg:dP sc f=true) (G:∀h,Ctx w.params mg mb X h->jo mg mb f v) (hd:(f==("__debug__":Str))=false) (hk:∀h,Ctx w.params mg mb X h->gM v h) (gj:lA la aI=some x) (d7:freeOk sc aI=true) (ha:cC (I.e sc ρ) args=some ds) (dZ:args≠[])
  (hc:∀s vs kv E,aN X s.heap->Ctx w.params mg mb X s.heap->ax X s.heap vs ds->fb prog w mg mb (m+1) X s.heap kv (fun d=>J.e aI (upd (inner aI ρ) x d) lb)->wpAny (model prog w) A (call v vs [(hU,kv)]) (fun r s'=>Kp w.params mg mb X s s'/\Rep X s'.heap r d) E s):
  Ev prog w mg mb A X ae (eval (.Call (.Name f fp) args [⟨some hU, .Lambda la lb aI yc,CZ⟩] pos) env) (fun v h=>Rep X h v d):=by
 intro E s k
 have bD:∀e p,I.e sc ρ (.Starred e p)=none:=S.star sc ρ
 have a8:=xH (env:=env) bD ha pos
 refine wpAny_Call_Name_kw ((jq R hg G hd).then k fun u ab k₁ e=> ?_)
 subst e
 refine callWith_of (P:=gM u) (first:=[]) (by rw [a8];rfl) (fun h x=>x.pT) ?_
 (refine cN (List.exists_cons_of_ne_nil dZ:) fun e0 er aF=> ?_;subst aF)
 have e1:backTo pos (starEach (e0::er) env)=(false,eval e0 env)::backTo pos (starEach er env):=by
  simp only [cC,Option.bind_eq_some_iff] at ha
  (refine aj ha ?_;clear ha;intro d0 nA _)
  cases e0<;>first | rfl | (rw [bD] at nA;exact no nA)
 have sp:=rR bD (fun e _ d hd=>S.e C hx R hd) ha pos
 rw [e1] at sp ⊢
 refine evalArgs_kw rfl (sp.then (k.trans k₁) fun vs aq k₂ rv=> ?_)
 have L:=CR (prog:=prog) (A:=A) (pos:=yc) hJ hx R iD gj d7 (lb:=lb)
 refine wpAny_evalAll_cons (wpAny_bind (L.then ((k.trans k₁).trans k₂) fun kv aS bS kA=>wpAny_bind (wpAny_standAt (wpAny_pure (wpAny_evalAll_nil ?_)))))
 refine ⟨hk _ bS.ctx, ?_⟩
 have kk:=((k.trans k₁).trans k₂).trans bS
 exact wpAny_mono (hc aS vs kv E (hx.grow kk.grow) bS.ctx (rv.grow bS.grow) kA) (fun r s' q=>⟨((k₁.trans k₂).trans bS).trans q.1,q.2⟩) fun _ _ q=>q
theorem Ki:∀(X:List Addr) (h:Heap),Ctx w.params mg mb X h->jo mg mb lB (.type "range"):=fun _ _ C=>kz C rfl (by decide) rfl
theorem Kj:∀(X:List Addr) (h:Heap),Ctx w.params mg mb X h->jo mg mb oF (.builtin "len"):=fun _ _ C=>kz C rfl (by decide) rfl
theorem Kk:∀(X:List Addr) (h:Heap),Ctx w.params mg mb X h->jo mg mb uz (.type "list"):=fun _ _ C=>kz C rfl (by decide) rfl
theorem C0 {I:aK} (S:br prog w mg mb A lm I) (C:Ctx w.params mg mb X ae.heap) (hx:aN X ae.heap) (R:bP lm X ae.heap env sc ρ) {args:List Expr} {p pos:Pos} {ds items:List PyData} (hg:dP sc lB=true) (ha:cC (I.e sc ρ) args=some ds) (h:iV ds=some items):
  Ev prog w mg mb A X ae (eval (.Call (.Name lB p) args [] pos) env) (fun v h=>∃(r:Addr) (a b c:Int) (t u x:Tok),v= .ref r/\r∉az/\IsRange h r a b c t u x/\Builtin.Range.small a b c=true/\0 < c/\items=(rangeInts a b c).map .int/\Builtin.Range.rangeSize a b c<=10000000):=
 CT hx R hg (Ki X) (by decide) (fun _ _=> .inr (.inl ⟨_,rfl⟩)) (S.star sc ρ) (fun e _ d hd=>S.e C hx R hd) ha fun s vs E _ C' rv=>Ka C' rv h
end
section
variable {prog:Program} {w:World} {mg mb:Str->Option Value}
variable {A:Around} {ae:Shared} {X:List Addr} {lm:Bool} {env:Env} {sc:Scope} {ρ:bh} {m:Nat}
theorem C1 {I:aK} (hA:cG A) (S:br prog w mg mb A lm I) (C:Ctx w.params mg mb X ae.heap) (hx:aN X ae.heap) (R:bP lm X ae.heap env sc ρ) {l r:Expr} {op:CmpOp} {a b:PyData} {c:Bool} {Q:Value->Shared->Prop} {E:Value->Shared->Prop} {s:Shared} (k:Kp w.params mg mb X ae s)
  (h1:I.e sc ρ l=some a) (h2:I.e sc ρ r=some b) (h:cg op a b=some c) (hq:∀v s',Kp w.params mg mb X s s'->Rep X s'.heap v (.bool c)->Q v s'):
  wpAny (model prog w) A (eval l env) (fun a ab=>wpAny (model prog w) A (eval r env) (fun b aq=>wpAny (model prog w) A (compareOp op a b) Q E aq) E ab) E s:=by
 refine (S.e C hx R h1).then k fun va ab k₁ ra=>(S.e C hx R h2).then (k.trans k₁) fun vb aq k₂ rb=> ?_
 exact wpAny_mono (pR hA k₂.ctx (ra.grow k₂.grow) rb h) (fun v s' q=>hq v s' ((k₁.trans k₂).trans q.1) q.2) fun _ _ q=>q
theorem Kl {value slice:Expr} {o i:Value} {ds:List PyData} {k r:PyData} {s:Shared} {E:Value->Shared->Prop} (bX:∀l u st p,slice≠ .Slice l u st p) (C:Ctx w.params mg mb X s.heap) (ro:rD X s.heap o ds) (ri:Rep X s.heap i k)
  (h:iz (.list ds) k=some r):wpAny (model prog w) A (subscriptTail value slice o i) (fun v s'=>Kp w.params mg mb X s s'/\Rep X s'.heap v r) E s:=by
 have K:Kp w.params mg mb X s s:=Kp.refl C
 (refine AW ro ?_;clear ro;intro x ox vx nx ay e1 c1 d1 r1;subst ay)
 have hL:s.heap.IsList x vx:=⟨_,(dI e1).1,c1,_,d1⟩
 cases k with
 | int j=>
  (refine xE ri.int_inv fun t aF=> ?_;subst aF)
  rcases rH h with ⟨hj,h⟩ | ⟨_,h⟩
  ·refine aj (r1.get h:) fun v hv rv=> ?_
   exact tail_any hL.typeIs PySem.F.slot_list_getitem.lookup (wpAny_getItem_list hL hj.1 (by lia) (by simpa using hv) ⟨K,rv⟩) (pS _ _ bX)
  ·refine aO h fun hj h5=> ?_
   ·(refine xA hj ?_;clear hj;intro aP hlen;subst aP)
    refine aj (r1.get h5:) fun v hv rv=> ?_
    have hl:=r1.length
    rw [Array.length_toList] at hl
    have oN:ds.length - 1 < ds.length:=by
     by_cases q:ds.length - 1 < ds.length
     ·exact q
     ·rw [List.getElem?_eq_none (by exact Zb Z4 28 [_] [] q)] at h5;exact no h5
    have hz:((-1:Int)+(vx.size:Int)).toNat=ds.length - 1:=by exact Zb Z4 29 [_,_] [] hl
    exact tail_any hL.typeIs PySem.F.slot_list_getitem.lookup (wpAny_getItem_list_neg hL (by exact Zb Z1 36 [] []) (by exact Zb Z4 30 [_,_] [] oN hl) (by lia) (by rw [hz];simpa using hv) ⟨K,rv⟩) (pS _ _ bX)
 | _=>exact no h
set_option maxHeartbeats 8000000 in
theorem Km {Φ:cV} {I J:aK} (hA:cG A) (S:br prog w mg mb A lm I) (hJ:∀A,Lv m A->br prog w mg mb A false J) (F:fJ prog w mg mb A lm m Φ) (C:Ctx w.params mg mb X ae.heap) (hx:aN X ae.heap) (R:bP lm X ae.heap env sc ρ) {e:Expr} {d:PyData}
  (h:rI Φ J I sc ρ e=some d):Ev prog w mg mb A X ae (eval e env) (fun v h=>Rep X h v d):=by
 have bD:=S.star sc ρ
 cases e with
 | Constant c kd pos=>exact Io c kd pos h
 | Name x pos=>
  rcases lC h with ⟨d',hd,h⟩ | ⟨_,h⟩
  ·exact Ip R (by rw [hd];exact h)
  ·refine aO h fun hg h=> ?_
   refine xA (F.gl x d h:) fun g1 g2=> ?_
   intro E s k
   refine aj (g2 _ _ k.ctx:) fun v gv gr=> ?_
   refine wpAny_mono (jq (A:=A) (v:=v) (R.grow k.grow) hg (fun h' C'=> ?_) g1 E s (Kp.refl k.ctx)) (fun u s' q=>⟨q.1,q.2▸gr _ _⟩) fun _ _ q=>q
   exact gv
 | BinOp l op r pos=>
  rcases lC h with ⟨⟨a,k⟩,hm,h⟩ | ⟨_,h⟩
  ·(refine pF (Ii hm:) fun ap kk kp bI bK bO=> ?_;subst bI;subst bK;subst bO)
   refine aO h fun hk h=> ?_
   have hk:k=3:=hk
   subst hk
   refine cO h fun da yd h=> ?_
   cases h
   intro E s k
   refine wpAny_BinOp (List_ ?_)
   have e1:backTo ap (starEach [a] env)=[(false,eval a env)]:=by cases a<;>first | rfl | (rw [bD] at yd;exact no yd)
   rw [e1]
   refine Calls.spliced_cons ((S.e C hx R yd).then k fun va ab k₁ ra=>Calls.spliced_nil ?_)
   refine wpAny_newObj_type ?_ (by show 1<=sizeLine;rw [sizeLine_eq];decide)
   refine wpAny_Constant_int ?_
   have k₂:Kp w.params mg mb X ab {ab with heap:=ab.heap.push {cls:= .type "list",data:= .seq #[va]},toks:=ab.toks+1}:=Kp.push k₁.ctx _
   have hl:(ab.heap.push {cls:= .type "list",data:= .seq #[va]}).get? ab.heap.objs.size=some {cls:= .type "list",data:= .seq #[va]}:=Heap.get?_push_size _ rfl
   change wpAny (model prog w) A (binaryOp .Mult (.ref ab.heap.objs.size) (.int 3 ab.toks)) _ E {ab with heap:=ab.heap.push {cls:= .type "list",data:= .seq #[va]},toks:=ab.toks+1}
   refine Kd (s:={ab with heap:=ab.heap.push {cls:= .type "list",data:= .seq #[va]},toks:=ab.toks+1}) (u:=ab.toks) (v:=va) (k:=0) hl rfl rfl rfl rfl ?_
   refine ⟨(k₁.trans k₂).trans (Kp.newObj k₂.ctx {cls:= .type "list",data:= .seq #[va,va,va]}),Rep.new (h:=ab.heap.push {cls:= .type "list",data:= .seq #[va]}) (vs:= #[va,va,va]) (hx.grow ((k.trans k₁).trans k₂).grow) k₂.ctx ?_⟩
   have ye:=ra.grow k₂.grow
   exact .cons ye (.cons ye (.cons ye .nil))
  ·refine ai h fun a ha h=> ?_
   refine ai h fun b hb h=> ?_
   intro E s k
   refine wpAny_BinOp ((S.e C hx R ha).then k fun va ab k₁ ra=>(S.e C hx R hb).then (k.trans k₁) fun vb aq k₂ rb=> ?_)
   exact wpAny_mono (Iu (hx.grow ((k.trans k₁).trans k₂).grow) k₂.ctx (ra.grow k₂.grow) rb h) (fun v s' q=>⟨(k₁.trans k₂).trans q.1,q.2⟩) fun _ _ q=>q
 | UnaryOp op x pos=>
  cases op with
  | USub=>
   refine ai h fun a ha h=> ?_
   refine cO h fun i hi h=> ?_
   cases h
   intro E s k
   refine wpAny_UnaryOp ((S.e C hx R ha).then k fun va ab k₁ ra=> ?_)
   (refine xE ((gH hi▸ra).int_inv:) fun t cF=> ?_;subst cF)
   exact PyProof.Rows.neg_int ⟨k₁.trans (Kp.toks k₁.ctx), .int _ _⟩
  | _=>exact no h
 | IfExp t b o pos=>
  refine ai h fun c hc h=> ?_
  intro E s k
  refine wpAny_IfExp ((S.t C hx R hc).then k fun b ab k₁ e=> ?_)
  subst e
  cases b with
  | true=>exact wpAny_mono (S.e C hx R h E ab (k.trans k₁)) (fun v s' q=>⟨k₁.trans q.1,q.2⟩) fun _ _ q=>q
  | false=>exact wpAny_mono (S.e C hx R h E ab (k.trans k₁)) (fun v s' q=>⟨k₁.trans q.1,q.2⟩) fun _ _ q=>q
 | BoolOp op vs pos=>
  cases op with
  | And=>
   match vs,h with
   | [a,b],h=>
    refine ai h fun da ha h=> ?_
    refine ai h fun c hc h=> ?_
    intro E s k
    refine wpAny_And2 ((S.e C hx R ha).then k fun va ab k₁ ra=> ?_)
    obtain rfl:=(uw hc▸ra).bool_inv
    refine wpAny_truthy_bool ?_
    cases c with
    | true=>exact wpAny_mono (S.e C hx R h E ab (k.trans k₁)) (fun v s' q=>⟨k₁.trans q.1,q.2⟩) fun _ _ q=>q
    | false=>(obtain rfl:=Option.some.inj h;clear h);exact ⟨k₁, .bool _⟩
   | [],h=>exact no h
   | [_],h=>exact no h
   | _::_::_::_,h=>exact no h
  | Or=>exact no h
 | Compare l ops rs pos=>
  refine ai h fun op h1 h=> ?_
  refine ai h fun r h2 h=> ?_
  obtain rfl:=fP h1
  obtain rfl:=fP h2
  refine tX h fun hm h=> ?_
  refine ai h fun a ha h=> ?_
  refine ai h fun b hb h=> ?_
  refine cO h fun c hc hd=> ?_
  subst hd
  intro E s k
  exact wpAny_Compare1 (C1 hA S C hx R k ha hb hc fun v s' k' r=>⟨k',r⟩) (by simpa using hm)
 | Subscript v i pos=>
  rcases lC h with ⟨⟨l,u,st⟩,iE,h⟩ | ⟨iE,h⟩
  ·(refine xE (Ic iE:) fun p c9=> ?_;subst c9)
   (refine aO h fun dy h=> ?_;obtain ⟨bD,hn⟩:=dy)
   cases st with
   | some _=>exact eI bD
   | none=>
   refine ai h fun d0 nA h=> ?_
   refine ai h fun lo my h=> ?_
   refine ai h fun hi oW h=> ?_
   exact Ke hx hn (S.e C hx R nA) (CX S C hx R my) (CX S C hx R oW) h
  have bX:=Ie iE
  rcases lC h with ⟨ds,hw,Kn⟩ | ⟨_,h⟩
  ·refine ai hw fun dw pZ yf=> ?_
   refine ai pZ fun x yg yh=> ?_
   obtain rfl:=uA yf
   (refine xE (m9 yg:) fun xp dz=> ?_;subst dz)
   refine ai Kn fun k0 yi hit=> ?_
   refine aj (R.vals _ _ yh:) fun v hv rv=> ?_
   intro E s k
   refine xA (fR (hv.df R.cq):) fun n1 n2=> ?_
   refine Subscript_ (wpAny_Name (eZ R.kind hv k.grow n2 ((S.e C hx R yi).then k fun vb aq k₂ rb=> ?_)) n1)
   exact wpAny_mono (Kl bX k₂.ctx ((rv.grow (k.trans k₂).grow).weak) rb hit) (fun v s' q=>⟨k₂.trans q.1,q.2⟩) fun _ _ q=>q
  ·refine ai h fun d0 nA h=> ?_
   refine ai h fun k0 yi h=> ?_
   intro E s k
   refine Subscript_ ((S.e C hx R nA).then k fun va ab k₁ ra=>(S.e C hx R yi).then (k.trans k₁) fun vb aq k₂ rb=> ?_)
   exact wpAny_mono (IT bX k₂.ctx (ra.grow k₂.grow) rb h) (fun v s' q=>⟨(k₁.trans k₂).trans q.1,q.2⟩) fun _ _ q=>q
 | List es pos=>
  refine ai h fun ds eL h=> ?_
  refine aO h fun hl h=> ?_
  (obtain rfl:=Option.some.inj h;clear h)
  exact IY bD hx (fun e _ d hd=>S.e C hx R hd) eL hl _
 | Tuple es _ pos=>
  refine ai h fun ds eL h=> ?_
  refine aO h fun hl h=> ?_
  (obtain rfl:=Option.some.inj h;clear h)
  exact IZ bD hx (fun e _ d hd=>S.e C hx R hd) eL hl _ _
 | ListComp elt gens ao pos=>
  match gens,h with
  | [],h=>exact no h
  | _::_::_::_,h=>exact no h
  | [g],h=>
   (refine aO h fun fu h=> ?_;obtain ⟨c1,c2,c3,c4⟩:=fu)
   refine ai h fun items hi h=> ?_
   refine ai h fun ds eL h=> ?_
   refine aO h fun hl h=> ?_
   (obtain rfl:=Option.some.inj h;clear h)
   exact CB hA S hx R (.one c4) c1 c2 c3 hi eL hl _
  | [g,g'],h=>
   (refine aO h fun fw h=> ?_;obtain ⟨c1,c2,c3,c4,c5⟩:=fw)
   refine ai h fun items hi h=> ?_
   refine ai h fun ds eL h=> ?_
   refine aO h fun hl h=> ?_
   (obtain rfl:=Option.some.inj h;clear h)
   exact CB hA S hx R (.rY c4 c5) c1 c2 c3 hi eL hl _
 | Call f args gf xx=>
  cases f with
  | Name f fp=>
   cases gf with
   | nil=>
    refine aO h fun hg h=> ?_
    have plain:(cC (I.e sc ρ) args).bind (Φ.fn f)=some d->Ev prog w mg mb A X ae (eval (.Call (.Name f fp) args [] xx) env) (fun v h=>Rep X h v d):=fun h=>by
     refine ai h fun ds eL h=> ?_
     refine eT (F.fn f ds d h:) fun v g1 g2 g3 g4=> ?_
     exact CT hx R hg (g1 X) g2 (g3 X) bD (fun e _ d hd=>S.e C hx R hd) eL fun s vs E jn C' rv=>g4 X s vs E jn C' rv
    rcases lC h with ⟨⟨r,xv⟩,hr,Ko⟩ | ⟨_,h⟩
    ·rcases rH Ko with ⟨hc,fK⟩ | ⟨_,h⟩
     ·refine ai hr fun e0 yj hr=> ?_
      obtain rfl:=fP yj
      (refine cN (BM hr:) fun rp Kq fx=> ?_;subst fx)
      (refine bG hc ?_;clear hc;intro h1 h2 C2)
      dsimp only at h1 h2 C2
      subst h1 h2
      refine cO fK fun items p0 sa=> ?_
      subst sa
      refine ai p0 fun ds eL h2=> ?_
      intro E s k
      refine wpAny_Call_Name_kw ((jq R hg (Kk X) (by decide)).then k fun u ab k₁ e=> ?_)
      subst e
      refine gO (first:=[]) rfl (Calls.spliced_cons ((C0 S C hx R C2 eL h2).then (k.trans k₁) fun rv aq k₂ rr=>Calls.spliced_nil ⟨.inr (.inl ⟨_,rfl⟩), ?_⟩))
      (refine AU rr ?_;clear rr;intro ra a b c t u x gG n1 hr hs hc ki bQ;subst gG;subst ki)
      exact wpAny_mono (Kb hA.hd (hx.grow ((k.trans k₁).trans k₂).grow) k₂.ctx hr hs hc bQ) (fun v s' q=>⟨(k₁.trans k₂).trans q.1,q.2⟩) fun _ _ q=>q
     ·exact plain h
    rcases lC h with ⟨ds,hw,Kr⟩ | ⟨_,h⟩
    ·refine ai hw fun x yg pZ=> ?_
     refine ai yg fun e0 Ks yh=> ?_
     obtain rfl:=fP Ks
     (refine xE (m9 yh:) fun xp oC=> ?_;subst oC)
     refine aO pZ fun hf rz=> ?_
     refine ai rz fun dw uU yf=> ?_
     obtain rfl:=uA yf
     subst hf
     refine aO Kr fun hl hd=> ?_
     (obtain rfl:=Option.some.inj hd;clear hd)
     refine aj (R.vals _ _ uU:) fun v hv rv=> ?_
     intro E s k
     refine xA (fR (hv.df R.cq):) fun n1 n2=> ?_
     refine wpAny_Call_Name_kw ((jq R hg (Kj X) (by decide)).then k fun u ab k₁ e=> ?_)
     subst e
     refine gO (first:=[]) rfl (Calls.spliced_cons (wpAny_Name (eZ R.kind hv (k.trans k₁).grow n2 (Calls.spliced_nil ⟨.inl ⟨_,rfl⟩, ?_⟩)) n1))
     (refine AW ((rv.grow (k.trans k₁).grow).weak:) fun a o vs n rM e1 e2 e3 r1=> ?_;subst rM)
     have hlen:=r1.length
     rw [Array.length_toList] at hlen
     refine Calls.call_len_list (items:=vs) ⟨o,(dI e1).1,e2,n,e3⟩ (by lia) ⟨k₁.trans (Kp.toks k₁.ctx), ?_⟩
     rw [hlen]
     exact .int _ _
    ·exact plain h
   | cons kw gf=>
    refine aO h fun hk hh=> ?_
    cases gf with
    | cons=>exact eI hk
    | nil=>
    (refine ai hh fun oJ kA sb=> ?_;obtain ⟨k,la,lb,aI⟩:=oJ)
    (refine cN (Ij kA:) fun yc CZ oK=> ?_;subst oK)
    (refine aO sb fun mh sd=> ?_;obtain ⟨hg,C3,d7⟩:=mh)
    dsimp only at C3
    subst C3
    refine ai sd fun x gj qd=> ?_
    refine ai qd fun ds eL yk=> ?_
    obtain ⟨iD,gk,v,g1,g2,g3,g4⟩:=F.fk f ds _ d yk
    by_cases dZ:args=[]
    ·subst dZ;(obtain rfl:=Option.some.inj eL;clear eL)
     exact absurd rfl gk
    ·exact Kh S hJ C hx R iD hg (g1 X) g2 (g3 X) gj d7 eL dZ fun s vs kv E jn C' rv hk=>g4 X s vs kv E jn C' rv hk
  | Attribute o m apos=>
   (refine aO h fun ml se=> ?_;obtain ⟨hk,hc⟩:=ml)
   cases gf with
   | cons=>exact eI hk
   | nil=>
   refine ai se fun d0 nA se=> ?_
   refine ai se fun ds eL se=> ?_
   exact Kg hA S C hx R hc.1 hc.2.1 hc.2.2 nA eL se
  | _=>exact no h
 | _=>exact no h
end
section
variable {prog:Program} {w:World} {mg mb:Str->Option Value}
variable {A:Around} {ae:Shared} {X:List Addr} {lm:Bool} {env:Env} {sc:Scope} {ρ:bh} {m:Nat}
theorem Kt {I:aK} (S:br prog w mg mb A lm I) (C:Ctx w.params mg mb X ae.heap) (hx:aN X ae.heap) (R:bP lm X ae.heap env sc ρ) {vs:List Expr} {b:Bool} (h:jL (I.t sc ρ) vs=some b):
  Ev prog w mg mb A X ae (allTrue .And vs env) (fun b' _=>b'=b):=by
 induction vs generalizing b with
 | nil=>(obtain rfl:=Option.some.inj h;clear h);intro E s k;exact wpAny_allTrue_And_nil ⟨Kp.refl k.ctx,rfl⟩
 | cons e r ih=>
  refine ai h fun c hc h=> ?_
  intro E s k
  refine wpAny_allTrue_And_cons ((S.t C hx R hc).then k fun c' ab k₁ e=> ?_)
  subst e
  cases c' with
  | true=>exact wpAny_mono (ih h E ab (k.trans k₁)) (fun v s' q=>⟨k₁.trans q.1,q.2⟩) fun _ _ q=>q
  | false=>(obtain rfl:=Option.some.inj h;clear h);exact ⟨k₁,rfl⟩
theorem Ku {I:aK} (S:br prog w mg mb A lm I) (C:Ctx w.params mg mb X ae.heap) (hx:aN X ae.heap) (R:bP lm X ae.heap env sc ρ) {vs:List Expr} {b:Bool} (h:oE (I.t sc ρ) vs=some b):
  Ev prog w mg mb A X ae (allTrue .Or vs env) (fun b' _=>b'=b):=by
 induction vs generalizing b with
 | nil=>(obtain rfl:=Option.some.inj h;clear h);intro E s k;exact wpAny_allTrue_Or_nil ⟨Kp.refl k.ctx,rfl⟩
 | cons e r ih=>
  refine ai h fun c hc h=> ?_
  intro E s k
  refine wpAny_allTrue_Or_cons ((S.t C hx R hc).then k fun c' ab k₁ e=> ?_)
  subst e
  cases c' with
  | false=>exact wpAny_mono (ih h E ab (k.trans k₁)) (fun v s' q=>⟨k₁.trans q.1,q.2⟩) fun _ _ q=>q
  | true=>(obtain rfl:=Option.some.inj h;clear h);exact ⟨k₁,rfl⟩
theorem C4 {I:aK} (S:br prog w mg mb A lm I) (C:Ctx w.params mg mb X ae.heap) (hx:aN X ae.heap) (R:bP lm X ae.heap env sc ρ) {e:Expr} {b:Bool} (h:(I.e sc ρ e).bind lr=some b)
  (he:isTrue e env (eval e env)=(do let v <- eval e env;standAt e.pos;holding [v] (truthy v))):Ev prog w mg mb A X ae (isTrue e env (eval e env)) (fun b' _=>b'=b):=by
 refine ai h fun d hd h=> ?_
 intro E s k
 refine isTrue_plain ((S.e C hx R hd).then k fun v ab k₁ rv=> ?_) he
 exact wpAny_mono (IS k₁.ctx rv h) (fun v s' q=>⟨k₁.trans q.1,q.2⟩) fun _ _ q=>q
theorem Kv {I:aK} (hA:cG A) (S:br prog w mg mb A lm I) (C:Ctx w.params mg mb X ae.heap) (hx:aN X ae.heap) (R:bP lm X ae.heap env sc ρ) {e:Expr} {b:Bool}
  (h:BO I sc ρ e=some b):Ev prog w mg mb A X ae (isTrue e env (eval e env)) (fun b' _=>b'=b):=by
 cases e with
 | UnaryOp op x pos=>
  cases op with
  | Not=>
   refine cO h fun c hc h=> ?_
   subst h
   intro E s k
   exact wpAny_isTrue_Not ((S.t C hx R hc).then k fun c' ab k₁ e=>⟨k₁,by rw [e]⟩)
  | _=>exact no h
 | BoolOp op vs pos=>
  cases op with
  | And=>intro E s k;exact wpAny_isTrue_BoolOp (Kt S C hx R h E s k)
  | Or=>intro E s k;exact wpAny_isTrue_BoolOp (Ku S C hx R h E s k)
 | Compare l ops rs pos=>
  refine ai h fun op h1 h=> ?_
  refine ai h fun r h2 h=> ?_
  obtain rfl:=fP h1
  obtain rfl:=fP h2
  refine tX h fun hm h=> ?_
  refine ai h fun a ha h=> ?_
  refine ai h fun c hc h=> ?_
  intro E s k
  refine wpAny_isTrue_Compare1 (C1 hA S C hx R k ha hc h fun v s' k' r=> ?_) (by simpa using hm)
  obtain rfl:=r.bool_inv
  exact wpAny_truthy_bool ⟨k',rfl⟩
 | Name=>exact C4 S C hx R h rfl
 | Call=>exact C4 S C hx R h rfl
 | _=>exact no h
theorem Kw {I:aK} (S:br prog w mg mb A lm I) (C:Ctx w.params mg mb X ae.heap) (hx:aN X ae.heap) (R:bP lm X ae.heap env sc ρ) {e:Expr} {ds:List PyData}
  (h:BP I sc ρ e=some ds):Ev prog w mg mb A X ae (eval e env) (fun v h=>nj X h v ds):=by
 have lst:(I.e sc ρ e).bind gL=some ds->Ev prog w mg mb A X ae (eval e env) (fun v h=>nj X h v ds):=fun h=>by
  refine ai h fun d hd h=> ?_
  exact (S.e C hx R hd).mono fun v h' r=> .list (gd h▸r)
 rcases lC h with ⟨⟨r,xv⟩,hr,h1⟩ | ⟨_,h⟩
 ·rcases rH h1 with ⟨hc,h2⟩ | ⟨_,h⟩
  ·refine cN (BM hr:) fun rp Kq q=> ?_
   subst q
   (refine xA hc ?_;clear hc;intro hc hg)
   dsimp only at hc hg
   subst hc
   refine ai h2 fun args Kx h3=> ?_
   refine (C0 S C hx R hg Kx h3).mono fun v h r=> ?_
   (refine AU r ?_;clear r;intro ra a b c t u x ay n1 hr hs hc aF bQ;subst ay;subst aF)
   exact .range n1 hr hs hc
  ·exact lst h
 ·exact lst h
theorem kB {Φ:cV} {J:aK} (hA:cG A) (hJ:∀A,Lv m A->br prog w mg mb A false J) (F:fJ prog w mg mb A lm m Φ):∀n,br prog w mg mb A lm (ah Φ J n)
 | 0=>⟨fun _ _ _ h=>(nomatch h),fun _ _ _ h=>(nomatch h),fun _ _ _ h=>(nomatch h),fun h=>(nomatch h),fun _ _ _ _=>rfl⟩
 | n+1=>
  have S:=kB hA hJ F n
  ⟨fun C hx R h=>Km hA S hJ F C hx R h,fun C hx R h=>Kv hA S C hx R h,fun C hx R h=>Kw S C hx R h,fun h hg F hI W st C hl=>Jk hA S h hg F hI W st C hl,fun _ _ _ _=>rfl⟩
theorem gR:∀A,Lv m A->br prog w mg mb A false eX:=fun _ _=>⟨fun _ _ _ h=>(nomatch h),fun _ _ _ h=>(nomatch h),fun _ _ _ h=>(nomatch h),fun h=>(nomatch h),fun _ _ _ _=>rfl⟩
end
structure St where
 vl:List (Str × PyData)
 ol:List (Str × List PyData)
 h:Option (List PyData)
noncomputable def St.v (st:St):bh:=fun x=>st.vl.lookup x
noncomputable def St.o (st:St) (x:Str):Option (List PyData):=st.ol.lookup x
noncomputable def fL {α:Type} (x:Str) (d:α):List (Str × α)->List (Str × α)
 | []=>[(x,d)]
 | p::r=>if p.1=x then (x,d)::r else p::fL x d r
noncomputable def i7 {α:Type} (x:Str):List (Str × α)->List (Str × α)
 | []=>[]
 | p::r=>if p.1=x then i7 x r else p::i7 x r
theorem Ky {α:Type} {x:Str} {d:α} {p:Str × α} {r:List (Str × α)}:fL x d (p::r)=if p.1=x then (x,d)::r else p::fL x d r:=rfl
theorem Kz {α:Type} {x:Str} {p:Str × α} {r:List (Str × α)}:i7 x (p::r)=if p.1=x then i7 x r else p::i7 x r:=rfl
theorem qe {α:Type} {x y:Str} {d:α}:∀{l:List (Str × α)},(fL x d l).lookup y=if y=x then some d else l.lookup y
 | []=>by
  show List.lookup y [(x,d)]=_
  rw [List.lookup_cons]
  by_cases q:y=x
  ·rw [beq_iff_eq.mpr q,if_pos q]
  ·rw [beq_eq_false_iff_ne.mpr q,if_neg q]
 | (z,e)::r=>by
  rw [Ky]
  by_cases q:z=x
  ·rw [if_pos q,List.lookup_cons,List.lookup_cons]
   by_cases q':y=x
   ·rw [beq_iff_eq.mpr q',if_pos q']
   ·rw [beq_eq_false_iff_ne.mpr q',if_neg q',beq_eq_false_iff_ne.mpr (fun h=>q' (h.trans q))]
  ·rw [if_neg q,List.lookup_cons,List.lookup_cons,qe]
   by_cases q':y=z
   ·have:y≠x:=fun h=>q (q'.symm.trans h)
    simp only [beq_iff_eq.mpr q',if_neg this]
   ·rw [beq_eq_false_iff_ne.mpr q']
theorem qf {α:Type} {x y:Str}:∀{l:List (Str × α)},(i7 x l).lookup y=if y=x then none else l.lookup y
 | []=>by simp [i7]
 | (z,e)::r=>by
  rw [Kz]
  by_cases q:z=x
  ·rw [if_pos q,qf,List.lookup_cons]
   by_cases q':y=x
   ·rw [if_pos q',if_pos q']
   ·rw [if_neg q',if_neg q',beq_eq_false_iff_ne.mpr (fun h=>q' (h.trans q))]
  ·rw [if_neg q,List.lookup_cons,List.lookup_cons,qf]
   by_cases q':y=z
   ·have:y≠x:=fun h=>q (q'.symm.trans h)
    simp only [beq_iff_eq.mpr q',if_neg this]
   ·rw [beq_eq_false_iff_ne.mpr q']
noncomputable def St.full (st:St):bh:=fun x=>match st.o x with | some ds=>some (.list ds) | none=>st.v x
noncomputable def St.set (st:St) (x:Str) (d:PyData):St:={st with vl:=fL x d st.vl,ol:=i7 x st.ol}
noncomputable def St.own (st:St) (x:Str) (ds:List PyData):St:={st with ol:=fL x ds st.ol}
theorem St.ec {st:St} {x y:Str} {d:PyData}:(st.set x d).v y=if y=x then some d else st.v y:=qe
theorem St.qg {st:St} {x y:Str} {d:PyData}:(st.set x d).o y=if y=x then none else st.o y:=qf
theorem St.uV {st:St} {x y:Str} {ds:List PyData}:(st.own x ds).o y=if y=x then some ds else st.o y:=qe
noncomputable def cY:Str:="claims._headers"
noncomputable def ef:Str:="claims"
noncomputable def fe (h:Heap) (c d l:Addr):Prop:=
 (∃o,h.get? c=some o/\o.cls= .ref 226/\o.dict=some d/\o.data= .plain)/\h.Ns d (fun x=>if x=("_headers":Str) then some (.ref l) else none)
noncomputable abbrev oa (own:List (Str × Addr)):List Addr:=own.map (·.2)
structure aX (cd:Option (Addr × Addr)) (fr af:List Addr) (env:Env) (sc:Scope):Prop where
 scope:env.scope=sc
 loc:env.locals∈fr
 nB:env.locals∉az
 eg:∀y a,env.cells.lookup y=some a->a∈fr/\a∉az/\a≠env.locals
 sf:env.cells.Pairwise fun x y=>x.2≠y.2
 off:∀a∈fr,a∉af
 jO:∀c d,cd=some (c,d)->c∈af/\d∈af
structure FS (P:Params) (mg mb:Str->Option Value) (lm:Bool) (cd:Option (Addr × Addr)) (af fr:List Addr) (ae:Shared) (env:Env) (sc:Scope) (own:List (Str × Addr)) (st:St) (s:Shared):Prop where
 eq:∃h tk,s={ae with heap:=h,toks:=tk}
 gr:aA ae.heap s.heap
 ctx:Ctx P mg mb (oa own++(fr++af)) s.heap
 aD:aN (oa own++(fr++af)) s.heap
 fresh:∀a∈oa own++fr,ae.heap.get? a=none
 ns:∃m,s.heap.Ns env.locals m
 cells:∀y a,env.cells.lookup y=some a->∃v,s.heap.IsCell a v
 er:bP lm (oa own++(fr++af)) s.heap env sc st.v
 ow:∀x ds,st.o x=some ds->∃a vs,own.lookup x=some a/\bq s.heap env x (.ref a)/\s.heap.PlainList a vs/\ax (oa own++(fr++af)) s.heap vs.toList ds
 hW:own.Pairwise fun x y=>x.2≠y.2
 dB:∀a∈oa own,a∉fr++af
 pl:∀p∈own,∃vs,s.heap.PlainList p.2 vs
 jP:∀ds,st.h=some ds->∃c d l vs,own.lookup cY=some l/\cd=some (c,d)/\bq s.heap env ef (.ref c)/\fe s.heap c d l/\s.heap.PlainList l vs/\ax (oa own++(fr++af)) s.heap vs.toList ds
section
variable {P:Params} {mg mb:Str->Option Value} {lm:Bool} {cd:Option (Addr × Addr)} {af fr:List Addr} {ae s s':Shared} {env:Env} {sc:Scope} {own:List (Str × Addr)} {st:St}
theorem dK {h h':Heap} {a:Addr} {vs:Array Value} (x:h.PlainList a vs) (k:∀o,h.get? a=some o->h'.get? a=some o):h'.PlainList a vs:=let ⟨n,e⟩:=x;⟨n,k _ e⟩
theorem lI {h h':Heap} {a:Addr} {m:Str->Option Value} (x:h.Ns a m) (k:∀o,h.get? a=some o->h'.get? a=some o):h'.Ns a m:=let ⟨o,es,ep,e,r⟩:=x;⟨o,es,ep,k _ e,r⟩
theorem oX {h h':Heap} {a:Addr} {v:Option Value} (x:h.IsCell a v) (k:∀o,h.get? a=some o->h'.get? a=some o):h'.IsCell a v:=let ⟨o,e,r⟩:=x;⟨o,k _ e,r⟩
theorem fe.at {h h':Heap} {c d l:Addr} (x:fe h c d l) (k:∀o,h.get? c=some o->h'.get? c=some o) (k':∀o,h.get? d=some o->h'.get? d=some o):fe h' c d l:=
 let ⟨⟨o,e,r⟩,n⟩:=x;⟨⟨o,k _ e,r⟩,lI n k'⟩
theorem cZ {x:Str} {a:Addr} (h:own.lookup x=some a):a∈oa own:=List.mem_map.mpr ⟨_,mem_of_lookup h,rfl⟩
theorem FS.go (F:FS P mg mb lm cd af fr ae env sc own st s) (O:aX cd fr af env sc) (k:∃h tk,s'={s with heap:=h,toks:=tk}) (g:aA s.heap s'.heap) (C:Ctx P mg mb (oa own++(fr++af)) s'.heap):FS P mg mb lm cd af fr ae env sc own st s':=by
 have at':∀a,a∈oa own++(fr++af)->∀o,s.heap.get? a=some o->s'.heap.get? a=some o:=fun a ha o e=>g a o (F.aD a ha).1 e
 have mo:∀{a},a∈oa own->a∈oa own++(fr++af):=fun h=>List.mem_append_left _ h
 have mf:∀{a},a∈fr->a∈oa own++(fr++af):=fun h=>List.mem_append_right _ (List.mem_append_left _ h)
 have mx:∀{a},a∈af->a∈oa own++(fr++af):=fun h=>List.mem_append_right _ (List.mem_append_right _ h)
 refine ⟨?_,F.gr.trans g,C,F.aD.grow g,F.fresh, ?_,fun y a e=> ?_,F.er.grow g,fun x ds e=> ?_,F.hW,F.dB,fun p hp=> ?_,fun ds e=> ?_⟩
 ·refine cN F.eq fun h tk e=> ?_
  (refine cN k ?_;clear k;intro h' r4 e')
  exact ⟨h',r4,by rw [e',e]⟩
 ·refine xE F.ns fun m h=> ?_
  exact ⟨m,lI h (at' _ (mf O.loc))⟩
 ·refine xE (F.cells y a e:) fun v h=> ?_
  exact ⟨v,oX h (at' _ (mf (O.eg y a e).1))⟩
 ·refine ew (F.ow x ds e:) fun a vs h1 h2 h3 h4=> ?_
  exact ⟨a,vs,h1,h2.grow g,dK h3 (at' _ (mo (cZ h1))),h4.grow g⟩
 ·refine xE (F.pl p hp:) fun vs h=> ?_
  exact ⟨vs,dK h (at' _ (mo (List.mem_map_of_mem hp)))⟩
 ·refine j9 (F.jP ds e:) fun c d l vs h1 eC h4 h5 h6 h7=> ?_
  refine xA (O.jO c d eC:) fun h2 h3=> ?_
  exact ⟨c,d,l,vs,h1,eC,h4.grow g,h5.at (at' _ (mx h2)) (at' _ (mx h3)),dK h6 (at' _ (mo (cZ h1))),h7.grow g⟩
theorem Kp.shape {X:List Addr} (k:Kp P mg mb X s s'):∃h tk,s'={s with heap:=h,toks:=tk}:=let ⟨h,tk,e,_⟩:=k;⟨h,tk,e⟩
theorem FS.kp (F:FS P mg mb lm cd af fr ae env sc own st s) (O:aX cd fr af env sc) (k:Kp P mg mb (oa own++(fr++af)) s s'):FS P mg mb lm cd af fr ae env sc own st s':=F.go O k.shape k.grow k.ctx
theorem Ctx.back {N X:List Addr} {h h':Heap} (C:Ctx P mg mb (N++X) h) (g:aA h h') (C':Ctx P mg mb X h') (hN:∀a∈N,∃o,h'.get? a=some o/\∀vs,o.data≠ .fields vs):Ctx P mg mb (N++X) h':=by
 have tb:∀{T q},fy X h' T q->fy (N++X) h' T q:=fun {T q} t=>by
  (refine ey t ?_;clear t;intro ps h1 h2 h3)
  refine ⟨ps,h1,h2,fun pos cv e=> ?_⟩
  obtain ⟨c',e1,c₂,oc,vs,tk,e2,ky,hd,hv⟩:=h3 pos cv e
  refine ⟨c',e1,c₂,oc,vs,tk,e2, ?_,hd,hv⟩
  refine bG (dI ky:) fun q1 q2 q3=> ?_
  refine gc q1 q2 fun m=> ?_
  rcases List.mem_append.mp m with m | m
  ·refine aj (hN _ m:) fun o e3 e4=> ?_
   rw [q1] at e3;cases e3
   exact e4 _ hd
  ·exact q3 m
 exact C.step (jJ g) (tb C'.t1) (tb C'.t2) C'.l2
theorem FS.dC (F:FS P mg mb lm cd af fr ae env sc own st s) (O:aX cd fr af env sc) (k:Kp P mg mb (fr++af) s s'):FS P mg mb lm cd af fr ae env sc own st s':=
 F.go O k.shape k.grow (F.ctx.back k.grow k.ctx fun a ha=>by
  (refine aj (List.mem_map.mp ha:) fun p hp ay=> ?_;subst ay)
  refine cN (F.pl p hp:) fun vs n e=> ?_
  exact ⟨_,k.grow _ _ (F.aD _ (List.mem_append_left _ ha)).1 e,fun _ h=>nomatch h⟩)
theorem FS.cu (F:FS P mg mb lm cd af fr ae env sc own st s):Ctx P mg mb (fr++af) s.heap:=F.ctx.less fun _ h=>List.mem_append_right _ h
theorem FS.ff (F:FS P mg mb lm cd af fr ae env sc own st s):aN (fr++af) s.heap:=fun a ha=>F.aD a (List.mem_append_right _ ha)
theorem FS.C5 (F:FS P mg mb lm cd af fr ae env sc own st s) {x:Str} {a:Addr} {vs:Array Value} {ds:List PyData} (h1:own.lookup x=some a) (h2:s.heap.PlainList a vs) (h3:ax (oa own++(fr++af)) s.heap vs.toList ds):Rep (fr++af) s.heap (.ref a) (.list ds):=by
 (refine xE h2 ?_;clear h2;intro n e)
 have m:=cZ h1
 exact Rep.list e rfl rfl rfl rfl (F.aD a (List.mem_append_left _ m)).1 (F.dB a m) (h3.more fun _ h=>List.mem_append_right _ h)
set_option tactic.hygienic true in
theorem FS.gm (F:FS P mg mb lm cd af fr ae env sc own st s):bP lm (fr++af) s.heap env sc st.full:=by
 have R:=F.er
 refine ⟨R.kind,R.gl,R.bi,R.glob,R.loc,R.cell,fun x d e=> ?_,R.cq,R.eY,R.lam⟩
 unfold St.full at e
 split at e
 ·rename_i ds ho
  (obtain rfl:=Option.some.inj e;clear e)
  refine ew (F.ow x ds ho:) fun a vs h1 h2 h3 h4=> ?_
  exact ⟨_,h2, .inl (F.C5 h1 h3 h4)⟩
 ·refine aj (R.vals x d e:) fun v h1 h2=> ?_
  exact ⟨v,h1,h2.more fun _ h=>List.mem_append_right _ h⟩
theorem bq.qh {h h':Heap} {x y:Str} {u v:Value} {m:Str->Option Value} (a:bq h env y u) (q:y≠x) (ns:h.Ns env.locals m) (dA:h'.Ns env.locals (fun y=>if y=x then some v else m y)) (hs:Heap.SameBut env.locals h h') (hc:∀y a,env.cells.lookup y=some a->a≠env.locals):bq h' env y u:=by
 cases a with
 | loc bY n rT hv=>
  have:=Cb ns rT
  subst this
  exact .loc bY n dA (by simp only [if_neg q];exact hv)
 | cell bY gQ n hv=>exact .cell bY gQ n (hv.sameBut hs (hc _ _ gQ))
theorem bq.stC {h h':Heap} {x y:Str} {u:Value} {c:Addr} (a:bq h env y u) (q:y≠x) (hx:env.cells.lookup x=some c) (hs:Heap.SameBut c h h') (hd:env.cells.Pairwise fun x y=>x.2≠y.2) (aM:c≠env.locals):bq h' env y u:=by
 cases a with
 | loc bY n rT hv=>exact .loc bY n (rT.sameBut hs (Ne.symm aM)) hv
 | cell bY gQ n hv=>exact .cell bY gQ n (hv.sameBut hs fun e=>q (name_of_addr hd (mem_of_lookup gQ) (e▸mem_of_lookup hx)))
structure C6 (X:List Addr) (own:List (Str × Addr)) (h:Heap) (x:Str) (v:Value) (st ag:St):Prop where
 fv:∀y d,ag.v y=some d->(y≠x/\st.v y=some d)\/(y=x/\Rep X h v d)
 fo:∀y ds,ag.o y=some ds->(y≠x/\st.o y=some ds)\/(y=x/\∃a vs,own.lookup x=some a/\v= .ref a/\h.PlainList a vs/\ax X h vs.toList ds)
 fh:ag.h=st.h
theorem FS.turned (F:FS P mg mb lm cd af fr ae env sc own st s) (O:aX cd fr af env sc) {x:Str} {v:Value} {ag:St} {a:Addr} {h':Heap} {tk:Tok} (ha:a∈fr) (hx:x≠ef) (hs:Heap.SameBut a s.heap h') (hex:∃o,h'.get? a=some o) (r:C6 (oa own++(fr++af)) own s.heap x v st ag)
  (hv:∀y u,y≠x->bq s.heap env y u->bq h' env y u) (sg:bq h' env x v) (bX:∃m,h'.Ns env.locals m) (aM:∀y b,env.cells.lookup y=some b->∃v,h'.IsCell b v):FS P mg mb lm cd af fr ae env sc own ag {s with heap:=h',toks:=tk}:=by
 have mf:a∈oa own++(fr++af):=List.mem_append_right _ (List.mem_append_left _ ha)
 have fH:a∉az:=(F.aD a mf).1
 have kk:∀b o,(ba (oa own++(fr++af)) s.heap).get? b=some o->(ba (oa own++(fr++af)) h').get? b=some o:=iw fun b o _ m e=>hs.extBut b o (fun q=>m (q▸mf)) e
 have nC:∀b∈oa own,b≠a:=fun b hb q=>F.dB b hb (List.mem_append_left _ (q▸ha))
 have kC:∀b∈af,b≠a:=fun b hb q=>O.off a ha (q▸hb)
 refine ⟨?_,fun b o n e=> ?_,F.ctx.but kk fun b o hb e=>hs.extBut b o (fun q=>fH (q▸hb)) e,fun b hb=> ?_,F.fresh,bX,aM, ?_,fun y ds e=> ?_,F.hW,F.dB,fun p hp=> ?_,fun ds e=> ?_⟩
 ·refine cN F.eq fun h t e=> ?_
  exact ⟨h',tk,by rw [e]⟩
 ·exact hs.extBut b o (fun q=>by rw [q,F.fresh a (List.mem_append_right _ ha)] at e;exact no e) (F.gr b o n e)
 ·refine bV (F.aD b hb:) fun n o e=> ?_
  by_cases q:b=a
  ·exact ⟨n,q▸hex⟩
  ·exact ⟨n,o,hs.extBut b o q e⟩
 ·have R:=F.er
  refine ⟨R.kind,R.gl,R.bi,R.glob,R.loc,R.cell,fun y d' e=> ?_,R.cq,fun y b e=> ?_,R.lam⟩
  ·rcases r.fv y d' e with ⟨q,e⟩ | ⟨rfl,rd⟩
   ·refine aj (R.vals y d' e:) fun u h1 h2=> ?_
    exact ⟨u,hv y u q h1,h2.keeps kk⟩
   ·exact ⟨v,sg, .inl (rd.keeps kk)⟩
  ·refine dq (aM y b e:) fun v o h _=> ?_
   exact ⟨(O.eg y b e).2.1,o,h⟩
 ·rcases r.fo y ds e with ⟨q,e⟩ | ⟨rfl,b,vs,h1,rfl,h3,h4⟩
  ·refine ew (F.ow y ds e:) fun b vs h1 h2 h3 h4=> ?_
   exact ⟨b,vs,h1,hv y _ q h2,dK h3 fun o e=>hs.extBut b o (nC b (cZ h1)) e,h4.keeps kk⟩
  ·exact ⟨b,vs,h1,sg,dK h3 fun o e=>hs.extBut b o (nC b (cZ h1)) e,h4.keeps kk⟩
 ·refine xE (F.pl p hp:) fun vs h=> ?_
  exact ⟨vs,dK h fun o e=>hs.extBut _ o (nC _ (List.mem_map_of_mem hp)) e⟩
 ·refine j9 (F.jP ds (r.fh▸e):) fun c d' l vs h1 eC h4 h5 h6 h7=> ?_
  refine xA (O.jO c d' eC:) fun h2 h3=> ?_
  exact ⟨c,d',l,vs,h1,eC,hv _ _ (Ne.symm hx) h4,h5.at (fun o e=>hs.extBut _ o (kC _ h2) e) (fun o e=>hs.extBut _ o (kC _ h3) e),dK h6 fun o e=>hs.extBut _ o (nC _ (cZ h1)) e,h7.keeps kk⟩
end
section
variable {prog:Program} {w:World} {mg mb:Str->Option Value}
variable {A:Around} {lm:Bool} {cd:Option (Addr × Addr)} {af fr:List Addr} {ae s s':Shared} {env:Env} {sc:Scope} {own:List (Str × Addr)} {st:St}
noncomputable def dD (sc:Scope) (x:Str):Bool:=(sc.names.lookup x==some .local||sc.names.lookup x==some .cell)&& !(x==ef)
theorem FS.C7 (F:FS w.params mg mb lm cd af fr ae env sc own st s) (O:aX cd fr af env sc) {x:Str} {v:Value} {ag:St} {E:Value->Shared->Prop} {Q:Unit->Shared->Prop} (hx:dD sc x=true) (r:C6 (oa own++(fr++af)) own s.heap x v st ag)
  (h:∀s',FS w.params mg mb lm cd af fr ae env sc own ag s'->(∀b o,b∉fr->s.heap.get? b=some o->s'.heap.get? b=some o)->Q () s'):wpAny (model prog w) A (storeName env x v) Q E s:=by
 unfold dD at hx
 simp only [Bool.and_eq_true,Bool.or_eq_true,beq_iff_eq,Bool.not_eq_true',beq_eq_false_iff_ne] at hx
 (refine xA hx ?_;clear hx;intro hx aM)
 have jQ:∀y a,env.cells.lookup y=some a->a≠env.locals:=fun y a e=>(O.eg y a e).2.2
 have hk:=F.er.kind
 have eh:env.kindOf x=sc.names.lookup x:=by unfold Env.kindOf;rw [O.scope]
 rcases hx with hx | hx
 ·refine xE F.ns fun m ns=> ?_
  refine wpAny_storeName_local (eh.trans hx) ns (fun h' dA hs=>h _ ?_ fun b o hb e=>hs.extBut b o (fun q=>hb (q▸O.loc)) e) (by rw [hk];rfl)
  refine lg (id dA:) fun o es ep e _=> ?_
  refine F.turned O O.loc aM hs ⟨o,e⟩ r (fun y u q a=>a.qh q ns dA hs jQ) (.loc (eh.trans hx) O.nB dA (by simp)) ⟨_,dA⟩ fun y b e=> ?_
  refine xE (F.cells y b e:) fun v hb=> ?_
  exact ⟨v,hb.sameBut hs (jQ y b e)⟩
 ·have fU:env.kindOf x=some .cell:=eh.trans hx
  have KA:lz sc x=true:=by unfold lz;rw [hx];rfl
  refine xE (Option.isSome_iff_exists.mp (F.er.cell x KA).2:) fun c hc=> ?_
  refine xE (F.cells x c hc:) fun Sy KC=> ?_
  refine bG (O.eg x c hc:) fun hf ht dZ=> ?_
  refine wpAny_storeName_cell hk fU hc KC fun h' gQ hs=>h _ ?_ fun b o hb e=>hs.extBut b o (fun q=>hb (q▸hf)) e
  refine aj (id gQ:) fun o e _=> ?_
  refine F.turned (tk:=s.toks) O hf aM hs ⟨o,e⟩ r (fun y u q a=>a.stC q hc hs O.sf dZ) (.cell (.inl fU) hc ht gQ) ?_ fun y b e=> ?_
  ·refine xE F.ns fun m ns=> ?_
   exact ⟨m,ns.sameBut hs (Ne.symm dZ)⟩
  ·by_cases q:b=c
   ·exact ⟨_,q▸gQ⟩
   ·refine xE (F.cells y b e:) fun v hb=> ?_
    exact ⟨v,hb.sameBut hs q⟩
theorem FS.store (F:FS w.params mg mb lm cd af fr ae env sc own st s) (O:aX cd fr af env sc) {x:Str} {v:Value} {d:PyData} {E:Value->Shared->Prop} {Q:Unit->Shared->Prop} (hx:dD sc x=true) (r:Rep (oa own++(fr++af)) s.heap v d)
  (h:∀s',FS w.params mg mb lm cd af fr ae env sc own (st.set x d) s'->(∀b o,b∉fr->s.heap.get? b=some o->s'.heap.get? b=some o)->Q () s'):wpAny (model prog w) A (storeName env x v) Q E s:=
 F.C7 (ag:=st.set x d) O hx ⟨fun y d' e=>(by
  by_cases q:y=x
  ·subst q
   rw [St.ec,if_pos rfl] at e
   cases e
   exact .inr ⟨rfl,r⟩
  ·rw [St.ec,if_neg q] at e
   exact .inl ⟨q,e⟩),fun y ds e=>(by
  by_cases q:y=x
  ·rw [St.qg,if_pos q] at e;exact no e
  ·rw [St.qg,if_neg q] at e
   exact .inl ⟨q,e⟩),rfl⟩ h
end
section
variable {P:Params} {mg mb:Str->Option Value} {lm:Bool} {cd:Option (Addr × Addr)} {af fr:List Addr} {ae s s':Shared} {env:Env} {sc:Scope} {own:List (Str × Addr)} {st:St} {I:Addr}
theorem hY {o f x:List Addr} {I a:Addr}:a∈o++(f++I::x)↔a∈I::(o++(f++x)):=by
 simp only [List.mem_append,List.mem_cons]
 constructor
 ·rintro (h | h | h | h)
  ·exact .inr (.inl h)
  ·exact .inr (.inr (.inl h))
  ·exact .inl h
  ·exact .inr (.inr (.inr h))
 ·rintro (h | h | h | h)
  ·exact .inr (.inr (.inl h))
  ·exact .inl h
  ·exact .inr (.inl h)
  ·exact .inr (.inr (.inr h))
theorem aX.hide (O:aX cd fr af env sc) (h:I∉fr):aX cd fr (I::af) env sc:=
 ⟨O.scope,O.loc,O.nB,O.eg,O.sf,fun a ha m=>by
  rcases List.mem_cons.mp m with q | q
  ·exact h (q▸ha)
  ·exact O.off a ha q,fun c d e=>⟨.tail _ (O.jO c d e).1, .tail _ (O.jO c d e).2⟩⟩
theorem FS.mz (F:FS P mg mb lm cd af fr ae env sc own st s) (h:s.heap.get? I=none):I∉oa own++(fr++af):=fun m=>by
 refine bV (F.aD I m:) fun _ o e=> ?_
 rw [h] at e;exact no e
theorem FS.hide (F:FS P mg mb lm cd af fr ae env sc own st s) (O:aX cd fr af env sc) (hI:s.heap.get? I=none) (k:∃h tk,s'={s with heap:=h,toks:=tk}) (g:aA s.heap s'.heap) (C:Ctx P mg mb (I::(oa own++(fr++af))) s'.heap) (xi:aN (I::(oa own++(fr++af))) s'.heap):
  FS P mg mb lm cd (I::af) fr ae env sc own st s':=by
 have G:=F.go O k g (C.less fun _ h=> .tail _ h)
 have up:∀b o,(ba (oa own++(fr++af)) s.heap).get? b=some o->(ba (oa own++(fr++I::af)) s'.heap).get? b=some o:=fun b o e=>by
  refine bG (dI e:) fun q1 q2 q3=> ?_
  refine gc (g b o q2 q1) q2 fun m=> ?_
  rcases List.mem_cons.mp (hY.mp m) with q | q
  ·rw [q,hI] at q1;exact no q1
  ·exact q3 q
 refine ⟨G.eq,G.gr,C.less fun _ h=>hY.mp h,fun a ha=>xi a (hY.mp ha),G.fresh,G.ns,G.cells, ?_,fun x ds e=> ?_,G.hW,fun a ha m=> ?_,G.pl,fun ds e=> ?_⟩
 ·have R:=G.er
  refine ⟨R.kind,R.gl,R.bi,R.glob,R.loc,R.cell,fun x d e=> ?_,R.cq,R.eY,R.lam⟩
  refine aj (F.er.vals x d e:) fun v h1 h2=> ?_
  exact ⟨v,h1.grow g,h2.keeps up⟩
 ·refine ew (F.ow x ds e:) fun a vs h1 h2 h3 h4=> ?_
  exact ⟨a,vs,h1,h2.grow g,dK h3 fun o e=>g _ _ (F.aD a (List.mem_append_left _ (cZ h1))).1 e,h4.keeps up⟩
 ·rcases List.mem_append.mp m with m | m
  ·exact F.dB a ha (List.mem_append_left _ m)
  ·rcases List.mem_cons.mp m with q | q
   ·exact F.mz hI (q▸List.mem_append_left _ ha)
   ·exact F.dB a ha (List.mem_append_right _ q)
 ·refine j9 (F.jP ds e:) fun c d l vs h1 eC h4 h5 h6 h7=> ?_
  refine xA (O.jO c d eC:) fun h2 h3=> ?_
  have mx:∀{a},a∈af->a∈oa own++(fr++af):=fun h=>List.mem_append_right _ (List.mem_append_right _ h)
  exact ⟨c,d,l,vs,h1,eC,h4.grow g,h5.at (fun o e=>g _ _ (F.aD _ (mx h2)).1 e) (fun o e=>g _ _ (F.aD _ (mx h3)).1 e),dK h6 fun o e=>g _ _ (F.aD l (List.mem_append_left _ (cZ h1))).1 e,h7.keeps up⟩
theorem FS.yl {h':Heap} {tk:Tok} (F:FS P mg mb lm cd (I::af) fr ae env sc own st s) (O:aX cd fr af env sc) (jr:I∉fr) (h0:ae.heap.get? I=none) (hX:∀c∈af,c≠I) (bR:∀b o,b∉az->b≠I->s.heap.get? b=some o->h'.get? b=some o) (C':Ctx P mg mb (oa own++(fr++af)) h'):FS P mg mb lm cd af fr ae env sc own st {s with heap:=h',toks:=tk}:=by
 have mI:I∈oa own++(fr++I::af):=hY.mpr (.head _)
 have up:∀b o,(ba (oa own++(fr++I::af)) s.heap).get? b=some o->(ba (oa own++(fr++af)) h').get? b=some o:=fun b o e=>by
  refine bG (dI e:) fun q1 q2 q3=> ?_
  exact gc (bR b o q2 (fun q=>q3 (q▸mI)) q1) q2 fun m=>q3 (hY.mpr (.tail _ m))
 have jR:∀a∈fr,a≠I:=fun a ha q=>jr (q▸ha)
 have nD:∀a∈oa own,a≠I:=fun a ha q=>F.dB a ha (List.mem_append_right _ (q▸ .head _))
 have hs:∀b o,b∈oa own++(fr++af)->b≠I->s.heap.get? b=some o->h'.get? b=some o:=fun b o m n e=>bR b o (F.aD b (hY.mpr (.tail _ m))).1 n e
 have mo:∀{a},a∈oa own->a∈oa own++(fr++af):=fun h=>List.mem_append_left _ h
 have mf:∀{a},a∈fr->a∈oa own++(fr++af):=fun h=>List.mem_append_right _ (List.mem_append_left _ h)
 have mx:∀{a},a∈af->a∈oa own++(fr++af):=fun h=>List.mem_append_right _ (List.mem_append_right _ h)
 have hv:∀y u,bq s.heap env y u->bq h' env y u:=fun y u a=>by
  cases a with
  | loc hl n ns hv=>exact .loc hl n (lI ns fun o e=>hs _ _ (mf O.loc) (jR _ O.loc) e) hv
  | cell hl hc n hv=>exact .cell hl hc n (oX hv fun o e=>hs _ _ (mf (O.eg _ _ hc).1) (jR _ (O.eg _ _ hc).1) e)
 refine ⟨?_,fun b o n e=>bR b o n (fun q=>by rw [q,h0] at e;exact no e) (F.gr b o n e),C',fun a ha=> ?_,F.fresh, ?_,fun y a e=> ?_, ?_,fun x ds e=> ?_,F.hW,fun a ha m=>F.dB a ha ?_,fun p hp=> ?_,fun ds e=> ?_⟩
 ·refine cN F.eq fun h t e=> ?_;exact ⟨h',tk,by rw [e]⟩
 ·refine bV (F.aD a (hY.mpr (.tail _ ha)):) fun n o e=> ?_
  refine ⟨n,o,hs a o ha (fun q=> ?_) e⟩
  rcases List.mem_append.mp ha with m | m
  ·exact nD a m q
  ·rcases List.mem_append.mp m with m | m
   ·exact jR a m q
   ·exact hX a m q
 ·refine xE F.ns fun m h=> ?_;exact ⟨m,lI h fun o e=>hs _ _ (mf O.loc) (jR _ O.loc) e⟩
 ·refine xE (F.cells y a e:) fun v h=> ?_;exact ⟨v,oX h fun o e'=>hs _ _ (mf (O.eg _ _ e).1) (jR _ (O.eg _ _ e).1) e'⟩
 ·have R:=F.er
  refine ⟨R.kind,R.gl,R.bi,R.glob,R.loc,R.cell,fun x d e=> ?_,R.cq,fun y a e=> ?_,R.lam⟩
  ·refine aj (R.vals x d e:) fun v h1 h2=> ?_
   exact ⟨v,hv _ _ h1,h2.keeps up⟩
  ·refine bV (R.eY y a e:) fun n o q=> ?_
   exact ⟨n,o,hs _ _ (mf (O.eg _ _ e).1) (jR _ (O.eg _ _ e).1) q⟩
 ·refine ew (F.ow x ds e:) fun a vs h1 h2 h3 h4=> ?_
  exact ⟨a,vs,h1,hv _ _ h2,dK h3 fun o e=>hs _ _ (mo (cZ h1)) (nD a (cZ h1)) e,h4.keeps up⟩
 ·rcases List.mem_append.mp m with m | m
  ·exact List.mem_append_left _ m
  ·exact List.mem_append_right _ (.tail _ m)
 ·refine xE (F.pl p hp:) fun vs h=> ?_;exact ⟨vs,dK h fun o e=>hs _ _ (mo (List.mem_map_of_mem hp)) (nD _ (List.mem_map_of_mem hp)) e⟩
 ·refine j9 (F.jP ds e:) fun c d l vs h1 eC h4 h5 h6 h7=> ?_
  refine xA (O.jO c d eC:) fun h2 h3=> ?_
  exact ⟨c,d,l,vs,h1,eC,hv _ _ h4,h5.at (fun o e=>hs _ _ (mx h2) (hX _ h2) e) (fun o e=>hs _ _ (mx h3) (hX _ h3) e),dK h6 fun o e=>hs _ _ (mo (cZ h1)) (nD l (cZ h1)) e,h7.keeps up⟩
end
noncomputable def bB (W:List Addr) (s s':Shared):Prop:=∀b o,b∉az->b∉W->s.heap.get? b=some o->s'.heap.get? b=some o
theorem bB.refl {W:List Addr} {s:Shared}:bB W s s:=fun _ _ _ _ e=>e
theorem bB.trans {W:List Addr} {ab aq aS:Shared} (x:bB W ab aq) (y:bB W aq aS):bB W ab aS:=fun b o n m e=>y b o n m (x b o n m e)
theorem bB.of {W:List Addr} {s s':Shared} (g:aA s.heap s'.heap):bB W s s':=fun b o n _ e=>g b o n e
section
variable {P:Params} {mg mb:Str->Option Value} {lm:Bool} {cd:Option (Addr × Addr)} {af fr:List Addr} {ae s s':Shared} {env:Env} {sc:Scope} {own:List (Str × Addr)} {st:St} {I:Addr}
theorem FS.mut (F:FS P mg mb lm cd af fr ae env sc own st s) (O:aX cd fr af env sc) {x:Str} {a:Addr} {dh:Array Value} {ds fz:List PyData} {h':Heap} {tk:Tok} (hx:st.o x=some ds) (h1:own.lookup x=some a) (hk:x≠cY) (hs:Heap.SameBut a s.heap h') (hp:h'.PlainList a dh)
  (r:ax (oa own++(fr++af)) s.heap dh.toList fz):FS P mg mb lm cd af fr ae env sc own (st.own x fz) {s with heap:=h',toks:=tk}:=by
 have ma:a∈oa own:=cZ h1
 have mf:a∈oa own++(fr++af):=List.mem_append_left _ ma
 have fH:a∉az:=(F.aD a mf).1
 have kk:∀b o,(ba (oa own++(fr++af)) s.heap).get? b=some o->(ba (oa own++(fr++af)) h').get? b=some o:=iw fun b o _ m e=>hs.extBut b o (fun q=>m (q▸mf)) e
 have kD:∀b∈fr,b≠a:=fun b hb q=>F.dB a ma (List.mem_append_left _ (q▸hb))
 have kC:∀b∈af,b≠a:=fun b hb q=>F.dB a ma (List.mem_append_right _ (q▸hb))
 have uW:∀y b,y≠x->own.lookup y=some b->b≠a:=fun y b q hb e=>q (name_of_addr F.hW (mem_of_lookup hb) (e▸mem_of_lookup h1))
 have hv:∀y u,bq s.heap env y u->bq h' env y u:=fun y u q=>by
  cases q with
  | loc hl n ns hv=>exact .loc hl n (ns.sameBut hs (kD _ O.loc)) hv
  | cell hl hc n hv=>exact .cell hl hc n (hv.sameBut hs (kD _ (O.eg _ _ hc).1))
 refine ⟨?_,fun b o n e=> ?_,F.ctx.but kk fun b o hb e=>hs.extBut b o (fun q=>fH (q▸hb)) e,fun b hb=> ?_,F.fresh, ?_,fun y b e=> ?_, ?_,fun y es e=> ?_,F.hW,F.dB,fun p eN=> ?_,fun es e=> ?_⟩
 ·refine cN F.eq fun h t e=> ?_
  exact ⟨h',tk,by rw [e]⟩
 ·exact hs.extBut b o (fun q=>by rw [q,F.fresh a (List.mem_append_left _ ma)] at e;exact no e) (F.gr b o n e)
 ·refine bV (F.aD b hb:) fun n o e=> ?_
  by_cases q:b=a
  ·(refine xE hp ?_;clear hp;intro k e');exact ⟨n,_,q▸e'⟩
  ·exact ⟨n,o,hs.extBut b o q e⟩
 ·refine xE F.ns fun m ns=> ?_;exact ⟨m,ns.sameBut hs (kD _ O.loc)⟩
 ·refine xE (F.cells y b e:) fun v h=> ?_;exact ⟨v,h.sameBut hs (kD _ (O.eg _ _ e).1)⟩
 ·have R:=F.er
  refine ⟨R.kind,R.gl,R.bi,R.glob,R.loc,R.cell,fun y d' e=> ?_,R.cq,fun y b e=> ?_,R.lam⟩
  ·refine aj (R.vals y d' e:) fun u h1 h2=> ?_
   exact ⟨u,hv _ _ h1,h2.keeps kk⟩
  ·refine bV (R.eY y b e:) fun n o q=> ?_
   exact ⟨n,o,hs.extBut _ _ (kD _ (O.eg _ _ e).1) q⟩
 ·by_cases q:y=x
  ·subst q
   have:es=fz:=by rw [St.uV,if_pos rfl] at e;exact (Option.some.inj e).symm
   subst this
   refine ew (F.ow y ds hx:) fun b vs g1 g2 g3 g4=> ?_
   rw [h1] at g1;cases g1
   exact ⟨a,dh,h1,hv _ _ g2,hp,r.keeps kk⟩
  ·have e:st.o y=some es:=by rw [St.uV,if_neg q] at e;exact e
   refine ew (F.ow y es e:) fun b vs g1 g2 g3 g4=> ?_
   exact ⟨b,vs,g1,hv _ _ g2,dK g3 fun o e=>hs.extBut b o (uW y b q g1) e,g4.keeps kk⟩
 ·by_cases q:p.2=a
  ·exact ⟨dh,q▸hp⟩
  ·refine xE (F.pl p eN:) fun vs h=> ?_
   exact ⟨vs,dK h fun o e=>hs.extBut _ o q e⟩
 ·refine j9 (F.jP es e:) fun c d' l vs uX eC h4 h5 h6 h7=> ?_
  refine xA (O.jO c d' eC:) fun h2 h3=> ?_
  exact ⟨c,d',l,vs,uX,eC,hv _ _ h4,h5.at (fun o e=>hs.extBut _ o (kC _ h2) e) (fun o e=>hs.extBut _ o (kC _ h3) e),dK h6 fun o e=>hs.extBut _ o (uW _ l (Ne.symm hk) uX) e,h7.keeps kk⟩
theorem FS.KD (F:FS P mg mb lm cd (I::af) fr ae env sc own st s) (O:aX cd fr af env sc) (jr:I∉fr) (hX:∀c∈af,c≠I) (h0:ae.heap.get? I=none) (T:Tn P mg mb (oa own++(fr++I::af)) [I] s s') (hex:∃o,s'.heap.get? I=some o):FS P mg mb lm cd (I::af) fr ae env sc own st s':=by
 have mI:I∈oa own++(fr++I::af):=hY.mpr (.head _)
 have fT:=(F.aD I mI).1
 have hs:∀b o,b∉az->b≠I->s.heap.get? b=some o->s'.heap.get? b=some o:=fun b o n m e=>T.get n (by simpa using m) e
 have up:∀b o,(ba (oa own++(fr++I::af)) s.heap).get? b=some o->(ba (oa own++(fr++I::af)) s'.heap).get? b=some o:=iw fun b o n m e=>hs b o n (fun q=>m (q▸mI)) e
 have jR:∀a∈fr,a≠I:=fun a ha q=>jr (q▸ha)
 have nD:∀a∈oa own,a≠I:=fun a ha q=>F.dB a ha (List.mem_append_right _ (q▸ .head _))
 have tf:∀a∈fr,a∉az:=fun a ha=>(F.aD a (List.mem_append_right _ (List.mem_append_left _ ha))).1
 have to:∀a∈oa own,a∉az:=fun a ha=>(F.aD a (List.mem_append_left _ ha)).1
 have tx:∀a∈af,a∉az:=fun a ha=>(F.aD a (hY.mpr (.tail _ (List.mem_append_right _ (List.mem_append_right _ ha))))).1
 have hv:∀y u,bq s.heap env y u->bq s'.heap env y u:=fun y u a=>by
  cases a with
  | loc hl n ns hv=>exact .loc hl n (lI ns fun o e=>hs _ _ n (jR _ O.loc) e) hv
  | cell hl hc n hv=>exact .cell hl hc n (oX hv fun o e=>hs _ _ n (jR _ (O.eg _ _ hc).1) e)
 refine ⟨?_,fun b o n e=>hs b o n (fun q=>by rw [q,h0] at e;exact no e) (F.gr b o n e),T.ctx,fun a ha=> ?_,F.fresh, ?_,fun y a e=> ?_, ?_,fun x ds e=> ?_,F.hW,F.dB,fun p hp=> ?_,fun ds e=> ?_⟩
 ·refine cN F.eq fun h t e=> ?_
  (refine dq T ?_;clear T;intro h' tk e' _)
  exact ⟨h',tk,by rw [e',e]⟩
 ·refine bV (F.aD a ha:) fun n o e=> ?_
  by_cases q:a=I
  ·exact ⟨n,q▸hex⟩
  ·exact ⟨n,o,hs a o n q e⟩
 ·refine xE F.ns fun m h=> ?_;exact ⟨m,lI h fun o e=>hs _ _ O.nB (jR _ O.loc) e⟩
 ·refine xE (F.cells y a e:) fun v h=> ?_;exact ⟨v,oX h fun o e'=>hs _ _ (O.eg _ _ e).2.1 (jR _ (O.eg _ _ e).1) e'⟩
 ·have R:=F.er
  refine ⟨R.kind,R.gl,R.bi,R.glob,R.loc,R.cell,fun x d e=> ?_,R.cq,fun y a e=> ?_,R.lam⟩
  ·refine aj (R.vals x d e:) fun v h1 h2=> ?_
   exact ⟨v,hv _ _ h1,h2.keeps up⟩
  ·refine bV (R.eY y a e:) fun n o q=> ?_
   exact ⟨n,o,hs _ _ n (jR _ (O.eg _ _ e).1) q⟩
 ·refine ew (F.ow x ds e:) fun a vs h1 h2 h3 h4=> ?_
  exact ⟨a,vs,h1,hv _ _ h2,dK h3 fun o e=>hs _ _ (to _ (cZ h1)) (nD a (cZ h1)) e,h4.keeps up⟩
 ·refine xE (F.pl p hp:) fun vs h=> ?_;exact ⟨vs,dK h fun o e=>hs _ _ (to _ (List.mem_map_of_mem hp)) (nD _ (List.mem_map_of_mem hp)) e⟩
 ·refine j9 (F.jP ds e:) fun c d l vs h1 eC h4 h5 h6 h7=> ?_
  refine xA (O.jO c d eC:) fun h2 h3=> ?_
  exact ⟨c,d,l,vs,h1,eC,hv _ _ h4,h5.at (fun o e=>hs _ _ (tx _ h2) (hX _ h2) e) (fun o e=>hs _ _ (tx _ h3) (hX _ h3) e),dK h6 fun o e=>hs _ _ (to _ (cZ h1)) (nD l (cZ h1)) e,h7.keeps up⟩
end
inductive Out where
 | aT
 | cont
 | ret (d:PyData)
structure Cf where
 m2:Str->Bool
 eO:List PyData->Str->Str->Option (Str × List PyData)
noncomputable def ym:Str:="append"
noncomputable def yn:Str:="extend"
noncomputable def yo:Str:="setdefault"
noncomputable def qi:PyData->Option PyData
 | .int i=>some (.int i)
 | .str x=>some (.str x)
 | .bool b=>some (.bool b)
 | .none=>some .none
 | _=>none
structure yp where
 p:Pos
 ap:Pos
 cp:Pos
 e1:Expr
 e2:Expr
structure MV where
 x:Str
 p:Pos
 m:Str
 ap:Pos
 args:List Expr
 cp:Pos
noncomputable def mV:Expr->Option MV
 | .Call f args gf cp=>(match f with
  | .Attribute o m ap=>(match o with
   | .Name x p=>if gf.isEmpty=true then some ⟨x,p,m,ap,args,cp⟩ else none
   | _=>none)
  | _=>none)
 | _=>none
theorem C8 {e:Expr} {v:MV} (h:mV e=some v):e= .Call (.Attribute (.Name v.x v.p) v.m v.ap) v.args [] v.cp:=by
 cases e with
 | Call f args gf cp=>
  cases f with
  | Attribute o m ap=>
   cases o with
   | Name x p=>
    refine aO h fun hk h=> ?_
    cases gf with
    | nil=>(obtain rfl:=Option.some.inj h;clear h);rfl
    | cons=>exact nomatch hk
   | _=>exact no h
  | _=>exact no h
 | _=>exact no h
noncomputable def uY:Expr->Option (Expr × CmpOp × Expr × Pos)
 | .Compare l ops rs p=>(one ops).bind fun op=>(one rs).map fun r=>(l,op,r,p)
 | _=>none
theorem KG {e l r:Expr} {op:CmpOp} {p:Pos} (h:uY e=some (l,op,r,p)):e= .Compare l [op] [r] p:=by
 cases e with
 | Compare l ops rs p=>
  refine ai h fun op h1 h=> ?_
  refine cO h fun r h2 h=> ?_
  obtain rfl:=fP h1
  obtain rfl:=fP h2
  cases h;rfl
 | _=>exact no h
noncomputable def C9:Expr->Option (Expr × Expr)
 | .BoolOp op vs _=>(match op with
  | .And=>pr vs
  | .Or=>none)
 | _=>none
theorem KH {e a b:Expr} (h:C9 e=some (a,b)):∃p,e= .BoolOp .And [a,b] p:=by
 cases e with
 | BoolOp op vs p=>
  cases op with
  | And=>obtain rfl:=rF h;exact ⟨_,rfl⟩
  | Or=>exact no h
 | _=>exact no h
noncomputable def Dc:Expr->Option (Str × Expr)
 | .Subscript v i _=>(isName v).map fun x=>(x,i)
 | _=>none
theorem KJ {e i:Expr} {x:Str} (h:Dc e=some (x,i)):∃q p,e= .Subscript (.Name x q) i p:=by
 cases e with
 | Subscript v i p=>
  refine cO h fun y h1 h=> ?_
  (refine xE (m9 h1:) fun q ay=> ?_;subst ay)
  cases h;exact ⟨_,_,rfl⟩
 | _=>exact no h
noncomputable def mA (e:Expr):Option yp:=(mV e).bind fun v=>(pr v.args).bind fun a=>if v.x=ef/\v.m=yo/\(v.ap.endLine==v.cp.line)=true then some ⟨v.p,v.ap,v.cp,a.1,a.2⟩ else none
noncomputable def uZ (I:aK) (c:Cf) (sc:Scope) (st:St) (k:yp) (op:CmpOp) (r:Expr):Option (Bool × St):=
 if behindInMarks op r=true\/(st.o cY).isSome=true then none else
 ((I.e sc st.full k.e1).bind gS).bind fun n=>((I.e sc st.full k.e2).bind gS).bind fun v=>st.h.bind fun hs=>(c.eO hs n v).bind fun y=>(I.e sc st.full r).bind fun d=>(cg op (.str y.1) d).map fun b=>(b,{st with h:=some y.2})
noncomputable def oY (I:aK) (c:Cf) (sc:Scope) (st:St) (e:Expr):Option (Bool × St):=
 (uY e).bind fun v=>(mA v.1).bind fun k=>uZ I c sc st k v.2.1 v.2.2.1
noncomputable def jS (I:aK) (c:Cf) (sc:Scope) (st:St) (e:Expr):Option (Bool × St):=
 oM ((uY e).bind fun v=>mA v.1) (fun _=>oY I c sc st e)
  (oM ((C9 e).bind fun v=>(uY v.2).bind fun u=>(mA u.1).map fun _=>v) (fun v=>(I.t sc st.full v.1).bind fun t=>if t then oY I c sc st v.2 else some (false,st))
   ((I.t sc st.full e).map (·,st)))
noncomputable def bindAll (sc:Scope):List Expr->List PyData->St->Option St
 | [],[],st=>some st
 | .Name x _::es,d::ds,st=>if dD sc x=true then bindAll sc es ds (st.set x d) else none
 | _,_,_=>none
noncomputable def dE (sc:Scope) (bz:Expr) (st:St) (d:PyData):Option St:=
 match bz with
 | .Name x _=>if dD sc x=true then some (st.set x d) else none
 | .Tuple es _ _=>(match d with
  | .tuple ds=>bindAll sc es ds st
  | _=>none)
 | _=>none
noncomputable def dM (bind:St->PyData->Option St) (body:St->Option (Out × St)):List PyData->St->Option (Out × St)
 | [],st=>some (.aT,st)
 | d::r,st=>(bind st d).bind fun bE=>(body bE).bind fun (o,aR)=>match o with
  | .aT=>dM bind body r aR
  | .cont=>dM bind body r aR
  | .ret d=>some (.ret d,aR)
noncomputable def u0 (k:Int) (ds:List PyData):Option (List PyData):=
 if k=0 then (match ds with | []=>none | _::r=>some r)
 else if k= -1 then (match ds with | []=>none | _=>some (ds.eraseIdx (ds.length - 1)))
 else none
noncomputable def bT (I:aK) (c:Cf) (B:Scope->St->List Stmt->Option (Out × St)) (sc:Scope) (st:St):Stmt->Option (Out × St)
 | .Assign ts e _=>(one ts).bind fun t=>(isName t).bind fun x=>if dD sc x=true then (if c.m2 x then (I.e sc st.full e).bind qi else I.e sc st.v e).map fun d=>(.aT,st.set x d) else none
 | .AugAssign t op e _=>(isName t).bind fun x=>if dD sc x=true then ((st.v x).bind gI).bind fun a=>((I.e sc st.full e).bind gI).bind fun b=>(match op with
      | .Add=>some (.aT,st.set x (.int (a+b)))
      | .Sub=>some (.aT,st.set x (.int (a - b)))
      | _=>none) else none
 | .If t b o _=>(jS I c sc st t).bind fun (t,ag)=>if t then B sc ag b else B sc ag o
 | .For bz it body orelse _=>if orelse.isEmpty=true/\eB it=true then (I.i sc st.v it).bind fun items=>if items.length<=4096 then dM (dE sc bz) (fun st=>B sc st body) items st else none else none
 | .Return v _=>v.bind fun e=>(I.e sc st.full e).map fun d=>(.ret d,st)
 | .Assert t _ _=>(I.t sc st.full t).bind fun b=>if b then some (.aT,st) else none
 | .Expr e _=>(mV e).bind fun v=>(one v.args).bind fun a=>if (v.ap.endLine==v.cp.line)=true/\v.x≠cY then (st.o v.x).bind fun ds=>if ds.length<=4096 then
       (if v.m=ym then (I.e sc st.v a).map fun d=>(.aT,st.own v.x (ds++[d]))
       else if v.m=yn then ((I.e sc st.v a).bind gL).bind fun es=>if es.length<=4096 then some (.aT,st.own v.x (ds++es)) else none
       else none) else none else none
 | .Delete ts _=>(one ts).bind fun t=>(Dc t).bind fun v=>if v.1≠cY then (st.o v.1).bind fun ds=>((I.e sc st.full v.2).bind gI).bind fun k=>if ds.length<=4096 then (u0 k ds).map fun fz=>(.aT,st.own v.1 fz) else none else none
 | _=>none
noncomputable def yq (S:Scope->St->Stmt->Option (Out × St)) (sc:Scope):St->List Stmt->Option (Out × St)
 | st,[]=>some (.aT,st)
 | st,s::r=>(S sc st s).bind fun (o,ag)=>match o with
  | .aT=>yq S sc ag r
  | .cont=>some (.cont,ag)
  | .ret d=>some (.ret d,ag)
noncomputable def bc (I:aK) (c:Cf):Nat->Scope->St->List Stmt->Option (Out × St)
 | 0=>fun _ _ _=>none
 | n+1=>yq (bT I c (bc I c n))
noncomputable def u4 (X:List Addr) (h:Heap):Out->Flow->Prop
 | .aT,f=>f= .next
 | .cont,f=>f= .cont
 | .ret d,f=>∃v,f= .ret v/\Rep X h v d
noncomputable def fV (prog:Program) (w:World) (mg mb:Str->Option Value) (A:Around) (c:Cf):Prop:=
 ∀{lm:Bool} {cd:Option (Addr × Addr)} {af fr:List Addr} {ae s:Shared} {env:Env} {sc:Scope} {own:List (Str × Addr)} {st:St} {n v x:Str} {hs bR:List PyData} {p ap cp:Pos} {e1 e2:Expr} {E:Value->Shared->Prop},
  aX cd fr af env sc->FS w.params mg mb lm cd af fr ae env sc own st s->st.h=some hs->st.o cY=none->c.eO hs n v=some (x,bR)->(ap.endLine==cp.line)=true->
  (starEach [e1,e2] env=[(false,eval e1 env),(false,eval e2 env)])->Ev prog w mg mb A (fr++af) s (eval e1 env) (fun u h=>Rep (fr++af) h u (.str n))->Ev prog w mg mb A (fr++af) s (eval e2 env) (fun u h=>Rep (fr++af) h u (.str v))->
  wpAny (model prog w) A (eval (.Call (.Attribute (.Name ef p) yo ap) [e1,e2] [] cp) env) (fun r s'=>(∃t,r= .str x t)/\FS w.params mg mb lm cd af fr ae env sc own {st with h:=some bR} s'/\bB (oa own++fr) s s') E s
section
set_option tactic.hygienic true
section
variable {prog:Program} {w:World} {mg mb:Str->Option Value}
variable {A:Around} {lm:Bool} {cd:Option (Addr × Addr)} {af fr:List Addr} {ae s s':Shared} {env:Env} {sc:Scope} {own:List (Str × Addr)} {st ag:St} {c:Cf} {I:aK}
theorem bB.kp {X W:List Addr} (k:Kp w.params mg mb X s s'):bB W s s':=bB.of k.grow
theorem KL {e:Expr} {k:yp} (h:mA e=some k):e= .Call (.Attribute (.Name ef k.p) yo k.ap) [k.e1,k.e2] [] k.cp/\(k.ap.endLine==k.cp.line)=true:=by
 refine ai h fun v h1 h=> ?_
 (refine ai h fun ay h2 h=> ?_;obtain ⟨a,b⟩:=ay)
 (refine aO h fun aF h=> ?_;obtain ⟨c1,c2,c3⟩:=aF)
 (obtain rfl:=Option.some.inj h;clear h)
 have:=C8 h1
 rw [rF h2,c1,c2] at this
 exact ⟨this,c3⟩
theorem KN {e1 e2:Expr} {d1 d2:PyData} {ρ:bh} (S:br prog w mg mb A lm I) (h1:I.e sc ρ e1=some d1) (h2:I.e sc ρ e2=some d2):starEach [e1,e2] env=[(false,eval e1 env),(false,eval e2 env)]:=by
 have a:starEach [e1,e2] env=(false,eval e1 env)::starEach [e2] env:=by cases e1<;>first | rfl | (rw [S.star] at h1;exact no h1)
 have b:starEach [e2] env=[(false,eval e2 env)]:=by cases e2<;>first | rfl | (rw [S.star] at h2;exact no h2)
 rw [a,b]
theorem Dd (hA:cG A) (S:br prog w mg mb A lm I) (H:fV prog w mg mb A c) (O:aX cd fr af env sc) (F:FS w.params mg mb lm cd af fr ae env sc own st s) {e:Expr} {b:Bool} {E:Value->Shared->Prop} {whole:Sem Value} (h:oY I c sc st e=some (b,ag)):
  wpAny (model prog w) A (isTrue e env whole) (fun b' s'=>b'=b/\FS w.params mg mb lm cd af fr ae env sc own ag s'/\bB (oa own++fr) s s') E s:=by
 (refine ai h fun aP hv h=> ?_;obtain ⟨l,op,r,pos⟩:=aP)
 refine ai h fun k hk h=> ?_
 obtain rfl:=KG hv
 refine xA (KL hk:) fun hl cX=> ?_
 dsimp only at hl
 subst hl
 refine tX (‹uZ I c sc st k op r=some (b,ag)›) fun hm hx=> ?_
 refine xA (not_or.mp hm:) fun hm KO=> ?_
 refine ai hx fun n h1 hx=> ?_
 refine ai h1 fun d1 h1 q1=> ?_
 obtain rfl:=fF q1
 refine ai hx fun v h2 hx=> ?_
 refine ai h2 fun d2 h2 q2=> ?_
 obtain rfl:=fF q2
 refine ai hx fun hs h3 hx=> ?_
 (refine ai hx fun bI h4 hx=> ?_;obtain ⟨x,bR⟩:=bI)
 refine ai hx fun d h5 hx=> ?_
 refine cO hx fun b' h6 h7=> ?_
 cases h7
 refine wpAny_isTrue_Compare1 (wpAny_mono (H O F h3 (by simpa using KO) h4 cX (KN S h1 h2) (S.e F.cu F.ff F.gm h1) (S.e F.cu F.ff F.gm h2)) (fun rv ab q=> ?_) fun _ _ q=>q) (by simpa using hm)
 (refine bG q ?_;clear q;intro bK au d8;obtain ⟨t,rfl⟩:=bK)
 have KP:I.e sc ({st with h:=some bR}:St).full r=some d:=h5
 refine (S.e au.cu au.ff au.gm KP).then (Kp.refl au.cu) fun vr aq k₂ rr=> ?_
 refine wpAny_mono (pR hA k₂.ctx (.str x t) rr h6) (fun cv aS q=> ?_) fun _ _ q=>q
 (refine xA q ?_;clear q;intro bS rc)
 obtain rfl:=rc.bool_inv
 exact wpAny_truthy_bool ⟨rfl,au.dC O (k₂.trans bS),d8.trans (bB.kp (k₂.trans bS))⟩
theorem yr (S:br prog w mg mb A lm I) (O:aX cd fr af env sc) (F:FS w.params mg mb lm cd af fr ae env sc own st s) {e:Expr} {b:Bool} {E:Value->Shared->Prop} (h:I.t sc st.full e=some b):
  wpAny (model prog w) A (isTrue e env (eval e env)) (fun b' s'=>b'=b/\FS w.params mg mb lm cd af fr ae env sc own st s'/\bB (oa own++fr) s s') E s:=
 (S.t F.cu F.ff F.gm h).then (Kp.refl F.cu) fun b' ab k₁ e=>⟨e,F.dC O k₁,bB.kp k₁⟩
theorem KQ (hA:cG A) (S:br prog w mg mb A lm I) (H:fV prog w mg mb A c) (O:aX cd fr af env sc) (F:FS w.params mg mb lm cd af fr ae env sc own st s) {e:Expr} {b:Bool} {E:Value->Shared->Prop} (h:jS I c sc st e=some (b,ag)):
  wpAny (model prog w) A (isTrue e env (eval e env)) (fun b' s'=>b'=b/\FS w.params mg mb lm cd af fr ae env sc own ag s'/\bB (oa own++fr) s s') E s:=by
 have dflt:∀{e:Expr},(I.t sc st.full e).map (·,st)=some (b,ag)->wpAny (model prog w) A (isTrue e env (eval e env)) (fun b' s'=>b'=b/\FS w.params mg mb lm cd af fr ae env sc own ag s'/\bB (oa own++fr) s s') E s:=fun {e} h=>by
  refine cO h fun b' hb h=> ?_
  cases h
  exact yr S O F hb
 rcases lC h with ⟨_,_,h⟩ | ⟨_,h⟩
 ·exact Dd hA S H O F h
 rcases lC h with ⟨⟨a,e2⟩,hv,h⟩ | ⟨_,h⟩
 ·(refine ai hv fun bO h1 hv=> ?_;obtain ⟨a',b'⟩:=bO)
  refine ai hv fun u h2 hv=> ?_
  refine cO hv fun _ _ q=> ?_
  cases q
  (refine xE (KH h1:) fun p cF=> ?_;subst cF)
  refine ai (‹((I.t sc st.full a).bind fun t=>if t then oY I c sc st e2 else some (false,st))=some (b,ag)›) fun t ht hx=> ?_
  refine wpAny_isTrue_BoolOp (wpAny_allTrue_And_cons (wpAny_mono (yr S O F ht) (fun t' ab q=> ?_) fun _ _ q=>q))
  (refine bG q ?_;clear q;intro c9 au d8;subst c9)
  cases t' with
  | false=>cases hx;exact ⟨rfl,au,d8⟩
  | true=>
   refine wpAny_allTrue_And_cons (wpAny_mono (Dd hA S H O au hx) (fun t' aq q=> ?_) fun _ _ q=>q)
   (refine bG q ?_;clear q;intro dy aB gT;subst dy)
   cases t' with
   | false=>exact ⟨rfl,aB,d8.trans gT⟩
   | true=>exact wpAny_allTrue_And_nil ⟨rfl,aB,d8.trans gT⟩
 ·exact dflt h
theorem KR:∀(es:List Expr) (ds:List PyData) {st ag:St} {s:Shared} {vs:List Value} {E:Value->Shared->Prop},aX cd fr af env sc->FS w.params mg mb lm cd af fr ae env sc own st s->ax (oa own++(fr++af)) s.heap vs ds->bindAll sc es ds st=some ag->
  wpAny (model prog w) A (assignInOrder ((assignEach es env).map (·.2)) vs) (fun _ s'=>FS w.params mg mb lm cd af fr ae env sc own ag s'/\bB (oa own++fr) s s') E s:=by
 intro es
 induction es with
 | nil=>
  intro ds st ag s vs E O F r h
  cases ds with
  | nil=>cases h;rw [r.nil_inv];exact wpAny_pure ⟨F,bB.refl⟩
  | cons d ds=>exact no h
 | cons e es ih=>
  intro ds st ag s vs E O F r h
  cases ds with
  | nil=>cases e<;>exact no h
  | cons d ds=>
   cases e<;>try (cases h;done)
   rename_i x px
   refine aO h fun hc h=> ?_
   (refine aU r.cons_inv fun v us dz r1 r2=> ?_;subst dz)
   show wpAny _ A (holding us (assign (.Name x px) env v) >>= fun _=>assignInOrder ((assignEach es env).map (·.2)) us) _ _ _
   refine wpAny_bind (wpAny_holding (wpAny_assign_Name (F.store O hc r1 fun ab au d8=> ?_)))
   have KS:bB (oa own++fr) s ab:=fun b o n m e=>d8 b o (fun q=>m (List.mem_append_right _ q)) e
   have KU:ax (oa own++(fr++af)) ab.heap us ds:=r2.keeps (iw fun b o n m e=>d8 b o (fun q=>m (List.mem_append_right _ (List.mem_append_left _ q))) e)
   exact wpAny_mono (ih ds O au KU h) (fun _ aq q=>⟨q.1,KS.trans q.2⟩) fun _ _ q=>q
end
end
section
variable {prog:Program} {w:World} {mg mb:Str->Option Value}
variable {A:Around} {lm:Bool} {cd:Option (Addr × Addr)} {af fr:List Addr} {ae s s':Shared} {env:Env} {sc:Scope} {own:List (Str × Addr)} {st ag:St} {c:Cf} {I:aK}
set_option tactic.hygienic true in
theorem KV:∀(es:List Expr) (ds:List PyData) {st ag:St},bindAll sc es ds st=some ag->(assignEach es env).length=ds.length/\(assignEach es env).findIdx? (·.1)=none:=by
 intro es
 induction es with
 | nil=>intro ds st ag h;cases ds with
  | nil=>exact ⟨rfl,rfl⟩
  | cons d ds=>exact no h
 | cons e es ih=>
  intro ds st ag h
  cases ds with
  | nil=>cases e<;>exact no h
  | cons d ds=>
   cases e<;>try (cases h;done)
   rename_i x px
   refine aO h fun _ h=> ?_
   refine xA (ih ds h:) fun h1 h2=> ?_
   refine ⟨by show (assignEach es env).length+1=_;rw [h1];rfl, ?_⟩
   show ((false,assign (.Name x px) env)::assignEach es env).findIdx? (·.1)=none
   rw [List.findIdx?_cons]
   simp [h2]
theorem KW (hA:cG A) (O:aX cd fr af env sc) (F:FS w.params mg mb lm cd af fr ae env sc own st s) {bz:Expr} {v:Value} {d:PyData} {E:Value->Shared->Prop} (r:Rep (oa own++(fr++af)) s.heap v d) (h:dE sc bz st d=some ag):
  wpAny (model prog w) A (assign bz env v) (fun _ s'=>FS w.params mg mb lm cd af fr ae env sc own ag s'/\bB (oa own++fr) s s') E s:=by
 cases bz with
 | Name x px=>
  refine aO h fun hc h=> ?_
  (obtain rfl:=Option.some.inj h;clear h)
  exact wpAny_assign_Name (F.store O hc r fun ab au d8=>⟨au,fun b o n m e=>d8 b o (fun q=>m (List.mem_append_right _ q)) e⟩)
 | Tuple es n pt=>
  cases d with
  | tuple ds=>
  (refine cT r.oD fun t o vs n ay t1 m1 e1 c1 d1 r1=> ?_;subst ay)
  refine xA (KV (env:=env) es ds h:) fun q1 q2=> ?_
  have hl:=r1.length
  rw [Array.length_toList] at hl
  refine wpAny_assign_Tuple hA.hd (items:=vs) ⟨o,e1,c1,n,d1⟩ (by rw [q1,hl]) q2 fun h' hx=> ?_
  have keep:∀b o,s.heap.get? b=some o->h'.get? b=some o:=fun b o e=>hx b o (mv (Heap.lt_size e)) e
  have F':FS w.params mg mb lm cd af fr ae env sc own st {s with heap:=h'}:=F.go O ⟨h',s.toks,rfl⟩ (aA.of keep) (F.ctx.keeps keep)
  exact wpAny_mono (KR es ds O F' (r1.grow (aA.of keep)) h) (fun _ aq q=>⟨q.1,fun b o n m e=>q.2 b o n m (keep b o e)⟩) fun _ _ q=>q
  | _=>exact no h
 | _=>exact no h
noncomputable def mB (prog:Program) (w:World) (mg mb:Str->Option Value) (A:Around) (lm:Bool) (B:Scope->St->List Stmt->Option (Out × St)):Prop:=
 ∀{cd:Option (Addr × Addr)} {af fr:List Addr} {ae s:Shared} {env:Env} {sc:Scope} {own:List (Str × Addr)} {st ag:St} {o:Out} {body:List Stmt} {E:Value->Shared->Prop},
  aX cd fr af env sc->FS w.params mg mb lm cd af fr ae env sc own st s->B sc st body=some (o,ag)->
  wpAny (model prog w) A (execs body env) (fun f s'=>FS w.params mg mb lm cd af fr ae env sc own ag s'/\bB (oa own++fr) s s'/\u4 (fr++af) s'.heap o f) E s
theorem De (hA:cG A) {B:Scope->St->List Stmt->Option (Out × St)} (hB:mB prog w mg mb A lm B) (O:aX cd fr af env sc) {It:Addr} (jr:It∉fr) (hX:∀c∈af,c≠It) (h0:ae.heap.get? It=none) {items:List PyData} {Si:Nat->Heap->Prop}
  (W:jN prog w mg mb A (It::(oa own++(fr++af))) It items Si) {bz:Expr} {body:List Stmt} {o:Out} {st ag:St} {s:Shared} (F:FS w.params mg mb lm cd (It::af) fr ae env sc own st s) (KY:Si 0 s.heap)
  (h:dM (dE sc bz) (fun st=>B sc st body) items st=some (o,ag)):
  codeAny (model prog w) A (.forLoop bz (.ref It) body [] env) (fun r s'=>∃f,r= .ok f/\FS w.params mg mb lm cd af fr ae env sc own ag s'/\bB (It::(oa own++fr)) s s'/\u4 (fr++af) s'.heap o f) s:=by
 have O':=O.hide jr
 refine codeAny_forLoop_any (fun k ab=>∃(i:Nat) (oP:St),k=items.length - i/\i<=items.length/\Si i ab.heap/\FS w.params mg mb lm cd (It::af) fr ae env sc own oP ab/\bB (It::(oa own++fr)) s ab/\dM (dE sc bz) (fun st=>B sc st body) (items.drop i) oP=some (o,ag)) ?_ items.length ⟨0,st,by simp,Nat.zero_le _,KY,F,bB.refl,by simpa using h⟩
 intro k ab hI
 obtain ⟨i,oP,rfl,hi,Df,au,d8,bf⟩:=hI
 have d6:Ctx w.params mg mb (It::(oa own++(fr++af))) ab.heap:=au.ctx.less fun _ q=>hY.mpr q
 have back:∀{aq},Tn w.params mg mb (It::(oa own++(fr++af))) [It] ab aq->Tn w.params mg mb (oa own++(fr++It::af)) [It] ab aq:=fun T=>T.less fun _ q=>hY.mp q
 by_cases bg:i < items.length
 ·have hd:items.drop i=items[i]::items.drop (i+1):=List.drop_eq_getElem_cons bg
  rw [hd] at bf
  refine ai bf fun uJ h2 bf=> ?_
  (refine ai bf fun aF h3 bf=> ?_;obtain ⟨yt,Dg⟩:=aF)
  refine W.item i items[i] ab _ _ (List.getElem?_eq_getElem bg) Df d6 fun v aq T hex rv Dh=> ?_
  have aB:=au.KD O jr hX h0 (back T) hex
  refine W.owned _ bz v aq _ _ Dh ?_
  have KZ:Rep (oa own++(fr++It::af)) aq.heap v items[i]:=rv.keeps (pP fun _ q=>hY.mp q)
  have gT:bB (It::(oa own++fr)) ab aq:=fun b ob n m e=>T.get n (fun q=>m (by rw [List.mem_singleton.mp q];exact .head _)) e
  refine wpAny_mono (KW hA O' aB KZ h2) (fun _ aS q=> ?_) fun _ _ q=>q
  (refine xA q ?_;clear q;intro bu sj)
  refine wpAny_mono (hB O' bu h3) (fun f fG q=> ?_) fun _ _ q=>q
  (refine bG q ?_;clear q;intro dQ Di hf)
  have lift:∀{a b},bB (oa own++fr) a b->bB (It::(oa own++fr)) a b:=fun y b ob n m e=>y b ob n (fun q=>m (.tail _ q)) e
  have yu:=((d8.trans gT).trans (lift sj)).trans (lift Di)
  have Dj:Si (i+1) fG.heap:=W.frame _ _ _ Dh fun b ob n m e=>by
   have ht:=(sj.trans Di) b ob n
   refine ht (fun q=> ?_) e
   rcases m with m | m
   ·subst m
    rcases List.mem_append.mp q with q | q
    ·exact au.dB _ q (List.mem_append_right _ (.head _))
    ·exact jr q
   ·refine m (.tail _ ?_)
    rcases List.mem_append.mp q with q | q
    ·exact List.mem_append_left _ q
    ·exact List.mem_append_right _ (List.mem_append_left _ q)
  cases yt with
  | aT=>cases hf;exact ⟨items.length - (i+1),by exact Zb Z5 3 [_,_] [] bg,i+1,Dg,rfl,by exact bg,Dj,dQ,yu,bf⟩
  | cont=>cases hf;exact ⟨items.length - (i+1),by exact Zb Z5 3 [_,_] [] bg,i+1,Dg,rfl,by exact bg,Dj,dQ,yu,bf⟩
  | ret d=>
   (refine aj hf ?_;clear hf;intro u aP ru;subst aP)
   cases bf
   exact ⟨_,rfl,dQ.yl (tk:=fG.toks) O jr h0 hX (fun _ _ _ _ e=>e) (dQ.ctx.less fun _ q=>hY.mpr (.tail _ q)),yu,u,rfl,ru.more fun a q=>by
    rcases List.mem_append.mp q with q | q
    ·exact List.mem_append_left _ q
    ·exact List.mem_append_right _ (.tail _ q)⟩
 ·have lq:i=items.length:=by exact Zb Z2 11 [_,_] [] hi bg
  subst lq
  rw [List.drop_length] at bf
  cases bf
  refine W.done ab _ _ Df d6 fun aq T=> ?_
  refine wpAny_execs_nil ⟨_,rfl, ?_,d8.trans fun b ob n m e=>T.get n (fun q=>m (by rw [List.mem_singleton.mp q];exact .head _)) e,rfl⟩
  (refine aU T ?_;clear T;intro h' tk bI g C';subst bI)
  exact au.yl O jr h0 hX (fun b ob n m e=>g b ob n (by simpa using m) e) (C'.less fun _ q=> .tail _ q)
end
section
variable {prog:Program} {w:World} {mg mb:Str->Option Value}
variable {A:Around} {lm:Bool} {cd:Option (Addr × Addr)} {af fr:List Addr} {ae s s':Shared} {env:Env} {sc:Scope} {own:List (Str × Addr)} {st ag:St} {c:Cf} {I:aK}
theorem Rep.flat {X:List Addr} {h:Heap} {v:Value} {d d':PyData} (r:Rep X h v d) (e:qi d=some d'):∀X' h',Rep X' h' v d':=by
 cases d with
 | int=>cases e;(refine xE r.int_inv fun t ay=> ?_;subst ay);exact fun _ _=> .int _ _
 | str=>cases e;(refine xE r.str_inv fun t aF=> ?_;subst aF);exact fun _ _=> .str _ _
 | bool=>cases e;obtain rfl:=r.bool_inv;exact fun _ _=> .bool _
 | none=>cases e;obtain rfl:=r.none_inv;exact fun _ _=> .none
 | _=>exact no e
theorem K0 (S:br prog w mg mb A lm I) (O:aX cd fr af env sc) (F:FS w.params mg mb lm cd af fr ae env sc own st s) {x:Str} {e:Expr} {d:PyData} {E:Value->Shared->Prop} (hc:dD sc x=true) (h:(if c.m2 x then (I.e sc st.full e).bind qi else I.e sc st.v e)=some d):
  wpAny (model prog w) A (eval e env) (fun v ab=>wpAny (model prog w) A (storeName env x v) (fun _ s'=>FS w.params mg mb lm cd af fr ae env sc own (st.set x d) s'/\bB (oa own++fr) s s') E ab) E s:=by
 split at h
 ·refine ai h fun d' hd hf=> ?_
  refine (S.e F.cu F.ff F.gm hd).then (Kp.refl F.cu) fun v ab k₁ r=> ?_
  exact (F.dC O k₁).store O hc (r.flat hf _ _) fun aq aB gT=>⟨aB,(bB.kp k₁).trans fun b o n m e=>gT b o (fun q=>m (List.mem_append_right _ q)) e⟩
 ·refine (S.e F.ctx F.aD F.er h).then (Kp.refl F.ctx) fun v ab k₁ r=> ?_
  exact (F.kp O k₁).store O hc r fun aq aB gT=>⟨aB,(bB.kp k₁).trans fun b o n m e=>gT b o (fun q=>m (List.mem_append_right _ q)) e⟩
theorem K3 (hA:cG A) (S:br prog w mg mb A lm I) (O:aX cd fr af env sc) (F:FS w.params mg mb lm cd af fr ae env sc own st s) {x:Str} {px:Pos} {elt:Expr} {g:Comprehension} {gs:List Comprehension} {ao:Scope} {items ds:List PyData} {pos:Pos} {E:Value->Shared->Prop} (hc:dD sc x=true)
  (hg:iB (g::gs) 0 g gs) (bt:gK ao=true) (d7:freeOk sc ao=true) (hp:eB g.iter=true) (hi:I.i sc st.v g.iter=some items) (hd:I.g ao (inner ao st.v) items g gs elt=some ds) (hl:ds.length<=4096):
  wpAny (model prog w) A (evalThenUse (.ListComp elt (g::gs) ao pos) env (assign (.Name x px) env)) (fun _ s'=>FS w.params mg mb lm cd af fr ae env sc own (st.set x (.list ds)) s'/\bB (oa own++fr) s s') E s:=by
 refine Jq hA S F.aD F.ctx F.er hg bt d7 hp hi hd hl pos fun C v ab hC Dk sh gr cx xi rv ns=> ?_
 have Dl:=F.mz hC
 have yv:C∉fr:=fun q=>Dl (List.mem_append_right _ (List.mem_append_left _ q))
 have K4:∀a∈af,a≠C:=fun a q e=>Dl (List.mem_append_right _ (List.mem_append_right _ (e▸q)))
 have K7:ae.heap.get? C=none:=by
  cases q:ae.heap.get? C with
  | none=>rfl
  | some o=>have:=F.gr C o Dk q;rw [hC] at this;exact no this
 have au:=F.hide O hC sh gr cx xi
 have K8:=O.hide yv
 refine wpAny_assign_Name (au.store K8 hc (rv.keeps (pP fun _ q=>hY.mp q)) fun aq aB gT=> ?_)
 (refine xE ns ?_;clear ns;intro m hm)
 refine ⟨⟨m,lI hm fun o e=>gT C o yv e⟩,fun h' hs=> ?_⟩
 have up:∀b o,(ba (oa own++(fr++C::af)) aq.heap).get? b=some o->(ba (oa own++(fr++af)) h').get? b=some o:=fun b o e=>by
  refine bG (dI e:) fun q1 q2 q3=> ?_
  exact gc (hs.extBut b o (fun q=>q3 (q▸hY.mpr (.head _))) q1) q2 fun m=>q3 (hY.mpr (.tail _ m))
 refine ⟨aB.yl (tk:=aq.toks) O yv K7 K4 (fun b o _ n e=>hs.extBut b o n e) (aB.ctx.but up fun b o hb e=>hs.extBut b o (fun q=>Dk (q▸hb)) e),fun b o n m e=> ?_⟩
 exact hs.extBut b o (fun q=>by rw [q,hC] at e;exact no e) (gT b o (fun q=>m (List.mem_append_right _ q)) (gr b o n e))
theorem K9 {e:Expr} {x:Str} {px:Pos} {line:Nat} (h1:∀a b c p,e≠ .ListComp a b c p) (h2:∀a b c p,e≠ .SetComp a b c p) (h3:∀a b c d p,e≠ .DictComp a b c d p):swapsWith e (some (.Name x px)) line env=pure false:=by
 cases e<;>first | rfl | (exfalso;exact h1 _ _ _ _ rfl) | (exfalso;exact h2 _ _ _ _ rfl) | (exfalso;exact h3 _ _ _ _ _ rfl)
theorem Dm {Φ:cV} {J I:aK} {sc:Scope} {ρ:bh} {elt:Expr} {gens:List Comprehension} {ao:Scope} {p:Pos} {d:PyData} {M:PyData->List Comprehension->Prop} (h:rI Φ J I sc ρ (.ListComp elt gens ao p)=some d)
  (k:∀{g:Comprehension} {gs:List Comprehension} {items ds:List PyData},iB (g::gs) 0 g gs->gK ao=true->freeOk sc ao=true->eB g.iter=true->I.i sc ρ g.iter=some items->I.g ao (inner ao ρ) items g gs elt=some ds->ds.length<=4096->M (.list ds) (g::gs)):M d gens:=by
 match gens,h with
 | [],h=>exact no h
 | _::_::_::_,h=>exact no h
 | [g],h=>
  (refine aO h fun aP h=> ?_;obtain ⟨c1,c2,c3,c4⟩:=aP)
  refine ai h fun items h4 h=> ?_
  refine ai h fun ds h5 h=> ?_
  refine aO h fun h6 h=> ?_
  (obtain rfl:=Option.some.inj h;clear h)
  exact k (.one c4) c1 c2 c3 h4 h5 h6
 | [g,g'],h=>
  (refine aO h fun bI h=> ?_;obtain ⟨c1,c2,c3,c4,c5⟩:=bI)
  refine ai h fun items h4 h=> ?_
  refine ai h fun ds h5 h=> ?_
  refine aO h fun h6 h=> ?_
  (obtain rfl:=Option.some.inj h;clear h)
  exact k (.rY c4 c5) c1 c2 c3 h4 h5 h6
theorem La {Φ:cV} {J:aK} {k:Nat} (hA:cG A) (S':br prog w mg mb A lm (ah Φ J k)) (S:br prog w mg mb A lm (ah Φ J (k+1))) (O:aX cd fr af env sc) (F:FS w.params mg mb lm cd af fr ae env sc own st s) {x:Str} {px pos:Pos} {e:Expr} {d:PyData} {E:Value->Shared->Prop} (hc:dD sc x=true)
  (h:(if c.m2 x then ((ah Φ J (k+1)).e sc st.full e).bind qi else (ah Φ J (k+1)).e sc st.v e)=some d):
  wpAny (model prog w) A (exec (.Assign [.Name x px] e pos) env) (fun f s'=>f= .next/\FS w.params mg mb lm cd af fr ae env sc own (st.set x d) s'/\bB (oa own++fr) s s') E s:=by
 have plain:swapsWith e (some (.Name x px)) pos.line env=pure false->wpAny (model prog w) A (exec (.Assign [.Name x px] e pos) env) (fun f s'=>f= .next/\FS w.params mg mb lm cd af fr ae env sc own (st.set x d) s'/\bB (oa own++fr) s s') E s:=fun hs=>
  wpAny_Assign_Name (wpAny_mono (K0 S O F hc h) (fun v ab q=>wpAny_mono q (fun _ _ q=>⟨rfl,q⟩) fun _ _ q=>q) fun _ _ q=>q) hs
 have Lb:∀a b cc p,e≠ .SetComp a b cc p:=fun a b cc p q=>by
  subst q;split at h
  ·refine ai h fun _ q _=> ?_;exact no q
  ·exact no h
 have Lc:∀a b cc dd p,e≠ .DictComp a b cc dd p:=fun a b cc dd p q=>by
  subst q;split at h
  ·refine ai h fun _ q _=> ?_;exact no q
  ·exact no h
 by_cases hl:∃a b cc p,e= .ListComp a b cc p
 ·obtain ⟨elt,gens,ao,p,rfl⟩:=hl
  have e1:∃b,swapsWith (.ListComp elt gens ao p) (some (.Name x px)) pos.line env=pure b:=⟨_,rfl⟩
  (refine xE e1 ?_;clear e1;intro b hb)
  cases b with
  | false=>exact plain hb
  | true=>
   rw [exec_Assign_Name_used _ _ _ _ hb]
   split at h
   ·-- a list is not flat
    refine ai h fun d' q hf=> ?_
    exfalso
    have q:rI Φ J (ah Φ J k) sc st.full (.ListComp elt gens ao p)=some d':=q
    have:∃ds,d'= .list ds:=Dm (M:=fun d _=>∃ds,d= .list ds) q fun _ _ _ _ _ _ _=>⟨_,rfl⟩
    (refine xE this ?_;clear this;intro ds bK;subst bK)
    exact no hf
   ·have q:rI Φ J (ah Φ J k) sc st.v (.ListComp elt gens ao p)=some d:=h
    have fin:∀{g:Comprehension} {gs:List Comprehension} {items ds:List PyData},iB (g::gs) 0 g gs->gK ao=true->freeOk sc ao=true->eB g.iter=true->(ah Φ J k).i sc st.v g.iter=some items->(ah Φ J k).g ao (inner ao st.v) items g gs elt=some ds->ds.length<=4096->
      wpAny (model prog w) A (do standAt pos;evalThenUse (.ListComp elt (g::gs) ao p) env (assign (.Name x px) env);return Flow.next) (fun f s'=>f= .next/\FS w.params mg mb lm cd af fr ae env sc own (st.set x (.list ds)) s'/\bB (oa own++fr) s s') E s:=fun hg h1 h2 h3 h4 h5 h6=>
     wpAny_bind (wpAny_standAt (wpAny_bind (wpAny_mono (K3 hA S' O F hc hg h1 h2 h3 h4 h5 h6) (fun _ _ q=>wpAny_pure ⟨rfl,q⟩) fun _ _ q=>q)))
    exact Dm (M:=fun d gens=>wpAny (model prog w) A (do standAt pos;evalThenUse (.ListComp elt gens ao p) env (assign (.Name x px) env);return Flow.next) (fun f s'=>f= .next/\FS w.params mg mb lm cd af fr ae env sc own (st.set x d) s'/\bB (oa own++fr) s s') E s) q fun hg h1 h2 h3 h4 h5 h6=>fin hg h1 h2 h3 h4 h5 h6
 ·exact plain (K9 (fun a b cc p q=>hl ⟨a,b,cc,p,q⟩) Lb Lc)
end
section
variable {prog:Program} {w:World} {mg mb:Str->Option Value}
variable {A:Around} {lm:Bool} {cd:Option (Addr × Addr)} {af fr:List Addr} {ae s s':Shared} {env:Env} {sc:Scope} {own:List (Str × Addr)} {st ag:St} {c:Cf} {I:aK}
theorem Dn {e1:Expr} {d1:PyData} {ρ:bh} (S:br prog w mg mb A lm I) (h1:I.e sc ρ e1=some d1):starEach [e1] env=[(false,eval e1 env)]:=by
 cases e1<;>first | rfl | (rw [S.star] at h1;exact no h1)
theorem yw (F:FS w.params mg mb lm cd af fr ae env sc own st s) {x:Str} {p:Pos} {a:Addr} {E:Value->Shared->Prop} {Q:Value->Shared->Prop} (h:bq s.heap env x (.ref a)) (q:Q (.ref a) s):wpAny (model prog w) A (eval (.Name x p) env) Q E s:=by
 refine xA (fR (h.df F.er.cq):) fun n1 n2=> ?_
 exact wpAny_Name (eZ F.er.kind h (aA.refl _) n2 q) n1
theorem Dp (S:br prog w mg mb A lm I) (O:aX cd fr af env sc) (F:FS w.params mg mb lm cd af fr ae env sc own st s) {x m:Str} {id:String} {p ap cp:Pos} {e:Expr} {d:PyData} {ds:List PyData} {E:Value->Shared->Prop} {Q:Value->Shared->Prop}
  (slot:Slot "list" m id) (ty:typeOf (.builtin id)=pure (.type "method_descriptor")) (hx:st.o x=some ds) (cX:(ap.endLine==cp.line)=true) (he:I.e sc st.v e=some d)
  (h:∀a vs v ab,FS w.params mg mb lm cd af fr ae env sc own st ab->bB (oa own++fr) s ab->own.lookup x=some a->ab.heap.PlainList a vs->ax (oa own++(fr++af)) ab.heap vs.toList ds->Rep (oa own++(fr++af)) ab.heap v d->wpAny (model prog w) A (call (.builtin id) [.ref a,v]) Q E ab):
  wpAny (model prog w) A (eval (.Call (.Attribute (.Name x p) m ap) [e] [] cp) env) Q E s:=by
 refine ew (F.ow x ds hx:) fun a vs h1 h2 h3 h4=> ?_
 have bD:=Dn (env:=env) S he
 refine wpAny_Call_method_lateS rfl (by rw [bD];rfl) cX (yw F h2 ⟨"list",id,PySem.F.plainAttrs_list,slot,ty, ?_,fun b e=> ?_, ?_⟩)
 ·(refine xE h3 ?_;clear h3;intro n e);exact ⟨_,e,rfl⟩
 ·cases e;(refine xE h3 ?_;clear h3;intro n e);exact ⟨_,e,rfl⟩
 ·refine gO (first:=[.ref a]) (by rw [bD];rfl) ?_
  rw [bD]
  refine Calls.spliced_cons ((S.e F.ctx F.aD F.er he).then (Kp.refl F.ctx) fun v ab k₁ r=>Calls.spliced_nil ⟨.inl ⟨_,rfl⟩, ?_⟩)
  have au:=F.kp O k₁
  refine ew (au.ow x ds hx:) fun a' dh g1 g2 g3 g4=> ?_
  rw [h1] at g1;cases g1
  exact h a dh v ab au (bB.kp k₁) h1 g3 g4 r
theorem u5 (F:FS w.params mg mb lm cd af fr ae env sc own st s):interactive env=false:=by
 unfold interactive;rw [F.er.kind];rfl
theorem Ld (vs:Array Value) (j:Nat):(vs.eraseIdxIfInBounds j).toList=vs.toList.eraseIdx j:=by
 unfold Array.eraseIdxIfInBounds
 split
 ·simp
 ·rename_i h;rw [List.eraseIdx_of_length_le];simpa using h
theorem Dq {X:List Addr} {h:Heap}:∀(j:Nat) {vs:List Value} {ds:List PyData},ax X h vs ds->ax X h (vs.eraseIdx j) (ds.eraseIdx j)
 | _,vs,[],r=>by rw [r.nil_inv];exact .nil
 | 0,vs,d::ds,r=>by
  (refine aU r.cons_inv fun v us ay a b=> ?_;subst ay)
  exact b
 | j+1,vs,d::ds,r=>by
  (refine aU r.cons_inv fun v us aF a b=> ?_;subst aF)
  exact .cons a (Dq j b)
theorem kq {α:Type} {c:Sem α} {P:α->Shared->Prop} {E:Value->Shared->Prop} {s:Shared} (h:∀Q:α->Shared->Prop,(∀f s',P f s'->Q f s')->wpAny (model prog w) A c Q E s):wpAny (model prog w) A c P E s:=h P fun _ _ q=>q
theorem Le {k:Int} {ds fz:List PyData} (h:u0 k ds=some fz):∃j,Builtin.List.listFitsIndex k=true/\seqIndex? k ds.length=some j/\fz=ds.eraseIdx j:=by
 refine mU h (fun hk h=> ?_) fun _ h=>aO h fun hk h=> ?_<;>subst hk
 ·cases ds with
  | nil=>exact no h
  | cons a r=>
   cases h
   refine ⟨0,by decide, ?_,rfl⟩
   unfold seqIndex?
   simp
 ·cases ds with
  | nil=>exact no h
  | cons a r=>
   cases h
   have oN:0 < (a::r).length:=Nat.succ_pos _
   refine ⟨(a::r).length - 1,by decide, ?_,rfl⟩
   unfold seqIndex?
   simp only [show ((-1:Int) < 0)=True by simp,if_true]
   rw [if_pos]
   ·congr 1;exact Zb Z6 29 [_] []
   ·simp only [Bool.and_eq_true,decide_eq_true_eq];exact Zb Z6 30 [_] [] oN
theorem u6 {Φ:cV} {J:aK} {k:Nat} {B:Scope->St->List Stmt->Option (Out × St)} (hA:cG A) (S':br prog w mg mb A lm (ah Φ J k)) (S:br prog w mg mb A lm (ah Φ J (k+1))) (H:fV prog w mg mb A c) (hB:mB prog w mg mb A lm B) (O:aX cd fr af env sc) (F:FS w.params mg mb lm cd af fr ae env sc own st s)
  {t:Stmt} {o:Out} {E:Value->Shared->Prop} (h:bT (ah Φ J (k+1)) c B sc st t=some (o,ag)):
  wpAny (model prog w) A (exec t env) (fun f s'=>FS w.params mg mb lm cd af fr ae env sc own ag s'/\bB (oa own++fr) s s'/\u4 (fr++af) s'.heap o f) E s:=by
 cases t with
 | Assign ts e pos=>
  refine ai h fun t h1 h=> ?_
  obtain rfl:=fP h1
  refine ai h fun x h2 h=> ?_
  refine xE (m9 h2:) fun px hn=> ?_
  refine aO h fun hc h=> ?_
  refine cO h fun d hd h=> ?_
  cases h
  cases hn
  exact wpAny_mono (La hA S' S O F hc hd) (fun f ab q=>⟨q.2.1,q.2.2,q.1⟩) fun _ _ q=>q
 | AugAssign t op e pos=>
  refine ai h fun x h2 hx=> ?_
  refine xE (m9 h2:) fun px hn=> ?_
  refine aO hx fun hc hx=> ?_
  refine ai hx fun a ha hx=> ?_
  refine ai ha fun da ha q=> ?_
  obtain rfl:=gH q
  refine ai hx fun b hb hx=> ?_
  refine ai hb fun db hd q=> ?_
  obtain rfl:=gH q
  clear h hb
  refine kq fun Q hQ=> ?_
  refine aj (F.er.vals x _ ha:) fun v hv rv=> ?_
  (refine xE ((rv.Bv (d':= .int a) rfl).int_inv:) fun t aP=> ?_;subst aP)
  refine xA (fR (hv.df F.er.cq):) fun n1 n2=> ?_
  subst hn
  refine wpAny_AugAssign_Name (eZ F.er.kind hv (aA.refl _) n2 ((S.e F.cu F.ff F.gm hd).then (Kp.refl F.cu) fun v ab k₁ r=> ?_))
  have au:=F.dC O k₁
  (refine xE r.int_inv fun u bI=> ?_;subst bI)
  cases op with
  | Add=>
   cases hx
   exact PyProof.Rows.iadd_int ((au.kp O (Kp.toks au.ctx)).store O hc (.int _ _) fun aq aB gT=>hQ _ _ ⟨aB,(bB.kp k₁).trans fun b o n m e=>gT b o (fun q=>m (List.mem_append_right _ q)) e,rfl⟩)
  | Sub=>
   cases hx
   exact PyProof.Rows.isub_int ((au.kp O (Kp.toks au.ctx)).store O hc (.int _ _) fun aq aB gT=>hQ _ _ ⟨aB,(bB.kp k₁).trans fun b o n m e=>gT b o (fun q=>m (List.mem_append_right _ q)) e,rfl⟩)
  | _=>exact no hx
 | If t b o pos=>
  (refine ai h fun bK h1 h=> ?_;obtain ⟨b,oP⟩:=bK)
  refine wpAny_If (wpAny_mono (KQ hA S H O F h1) (fun b' ab q=> ?_) fun _ _ q=>q)
  (refine bG q ?_;clear q;intro bO au d8;subst bO)
  cases b' with
  | true=>exact wpAny_mono (hB O au h) (fun f aq q=>⟨q.1,d8.trans q.2.1,q.2.2⟩) fun _ _ q=>q
  | false=>exact wpAny_mono (hB O au h) (fun f aq q=>⟨q.1,d8.trans q.2.1,q.2.2⟩) fun _ _ q=>q
 | For bz it body orelse pos=>
  (refine aO h fun cF hx=> ?_;obtain ⟨Lf,hp⟩:=cF)
  refine ai hx fun items hi hx=> ?_
  refine aO hx fun _ hx=> ?_
  clear h
  cases orelse with
  | cons=>exact eI Lf
  | nil=>
  refine kq fun Q hQ=> ?_
  refine wpAny_For ((S.i F.ctx F.aD F.er hi).then (Kp.refl F.ctx) fun x ab k₁ rx=> ?_) fun x=>xN hp env x
  have au:=F.kp O k₁
  refine rU hA au.aD au.ctx rx fun aq k₂ hn mr mu WW bQ=> ?_
  refine aj (WW [] (fun _ q=>nomatch q):) fun Si W si=> ?_
  have nE:=au.mz hn
  have jr:ab.heap.objs.size∉fr:=fun q=>nE (List.mem_append_right _ (List.mem_append_left _ q))
  have iX:∀a∈af,a≠ab.heap.objs.size:=fun a q e=>nE (List.mem_append_right _ (List.mem_append_right _ (e▸q)))
  have fT:ab.heap.objs.size∉az:=fQ au.ctx
  have h0:ae.heap.get? ab.heap.objs.size=none:=by
   cases q:ae.heap.get? ab.heap.objs.size with
   | none=>rfl
   | some o=>have:=au.gr _ o fT q;rw [hn] at this;exact no this
  have aB:=au.hide O hn k₂.shape k₂.grow mu mr
  refine codeAny_mono (De hA hB O jr iX h0 W aB si hx) fun r aS q=> ?_
  (refine eT q ?_;clear q;intro f c9 bu sj hf;subst c9)
  refine hQ _ _ ⟨bu,fun b ob n m e=> ?_,hf⟩
  have eV:=k₁.grow b ob n e
  refine sj b ob n (fun q=> ?_) (k₂.grow b ob n eV)
  rcases List.mem_cons.mp q with q | q
  ·rw [q,hn] at eV;exact no eV
  ·exact m q
 | Return v pos=>
  refine ai h fun e he h=> ?_
  refine cO h fun d hd h=> ?_
  cases h
  subst he
  exact wpAny_Return_some ((S.e F.cu F.ff F.gm hd).then (Kp.refl F.cu) fun v ab k₁ r=>⟨F.dC O k₁,bB.kp k₁,v,rfl,r⟩)
 | Assert t m pos=>
  refine ai h fun b hb h=> ?_
  refine aO h fun Lg h=> ?_
  cases h
  refine wpAny_Assert_holds (wpAny_mono (yr S O F hb) (fun b' ab q=> ?_) fun _ _ q=>q)
  (refine bG q ?_;clear q;intro dy au d8;subst dy)
  exact ⟨Lg,au,d8,rfl⟩
 | Expr e pos=>
  (refine ai h fun dz hv h=> ?_;obtain ⟨x,px,m,ap,args,cp⟩:=dz)
  refine ai h fun a ha h=> ?_
  have Dr:=C8 hv
  have Ds:=fP ha
  dsimp only at Ds Dr h
  (refine aO h fun fu h=> ?_;obtain ⟨cX,hk⟩:=fu)
  refine ai h fun ds hx h=> ?_
  refine aO h fun hlen hh=> ?_
  clear h ha hv
  subst Ds
  subst Dr
  refine wpAny_Expr (hi:=u5 F) (hs:=rfl) ?_
  rcases rH hh with ⟨hm,h⟩ | ⟨_,h⟩
  ·refine cO h fun d hd h=> ?_
   cases h
   subst hm
   refine kq fun Q hQ=> ?_
   refine Dp S O F PySem.F.slot_list_append PySem.F.type_list_append hx cX hd fun a vs v ab au d8 h1 h3 h4 r=> ?_
   have hl:=h4.length
   rw [Array.length_toList] at hl
   refine wpAny_list_append_plain h3 (fun h' eN bR=>hQ _ _ ⟨au.mut (tk:=ab.toks) O hx h1 hk bR eN ?_,d8.trans fun b ob n m e=>bR.extBut b ob (fun q=>m (List.mem_append_left _ (q▸cZ h1))) e,rfl⟩) (by rw [sizeLine_eq];exact m4 hl hlen)
   rw [Array.toList_push]
   exact h4.append (.cons r .nil)
  ·refine aO h fun hm h=> ?_
   refine ai h fun es hd h=> ?_
   refine ai hd fun de hd q=> ?_
   obtain rfl:=gd q
   refine aO h fun hle h=> ?_
   cases h
   subst hm
   refine kq fun Q hQ=> ?_
   refine Dp S O F PySem.F.slot_list_extend PySem.F.type_list_extend hx cX hd fun a vs v ab au d8 h1 h3 h4 r=> ?_
   (refine cT r.dY fun b ob vb nb fw t1 m1 e1 c1 d1 r1=> ?_;subst fw)
   refine xA (r.list_dict e1:) fun q1 q2=> ?_
   obtain ⟨cls,dd,data,sl⟩:=ob
   simp only at c1 d1 q1 q2
   subst c1 d1 q1 q2
   (refine xE h3 ?_;clear h3;intro na ea)
   have hl:=h4.length
   rw [Array.length_toList] at hl
   have fE:=r1.length
   rw [Array.length_toList] at fE
   have Dt:vs.size+vb.size<=sizeLine:=by rw [sizeLine_eq];exact Zb Z6 31 [_,_,_,_] [] hl fE hlen hle
   refine call_meets PySem.F.slot_list_extend ⟨_,ea,rfl⟩ PySem.F.entry_list_extend (PySem.F.args_list_extend_2 _ _) (AutoSeq1.list_extend_list_list_0 a vs na b vb nb (extend_door Dt) (Nat.le_trans (Nat.le_add_right _ _) Dt)) ⟨ea,e1, ?_⟩
   have kl:(ab.heap.update a (Obj.mapSeq fun x=>x++vb)).PlainList a (vs++vb):=⟨_,by
    rw [Heap.get?_update_self _ ea (by rw [mapSeq_app];rfl),mapSeq_app]⟩
   have bR:Heap.SameBut a ab.heap (ab.heap.update a (Obj.mapSeq fun x=>x++vb)):=Heap.SameBut.update ..
   refine hQ _ _ ⟨au.mut (tk:=ab.toks) O hx h1 hk bR kl ?_,d8.trans fun b ob n m e=>bR.extBut b ob (fun q=>m (List.mem_append_left _ (q▸cZ h1))) e,rfl⟩
   rw [Array.toList_append]
   exact h4.append r1
 | Delete ts pos=>
  refine ai h fun t h1 h=> ?_
  have h1:=fP h1
  (refine ai h fun fx h2 h=> ?_;obtain ⟨x,i⟩:=fx)
  refine cN (KJ h2:) fun q p h2=> ?_
  refine aO h fun hk h=> ?_
  refine ai h fun ds hx h=> ?_
  refine ai h fun kk hd h=> ?_
  refine ai hd fun dk hd q=> ?_
  obtain rfl:=gH q
  refine aO h fun hlen h=> ?_
  refine cO h fun fz Lh h=> ?_
  cases h
  subst h2
  subst h1
  refine kq fun Q hQ=> ?_
  refine ew (F.ow _ ds hx:) fun a vs h1 h2 h3 h4=> ?_
  refine wpAny_Delete (wpAny_deleteEach_cons (wpAny_delete_Subscript (yw F h2 ((S.e F.cu F.ff F.gm hd).then (Kp.refl F.cu) fun v ab k₁ r=> ?_))))
  (refine xE r.int_inv fun t gG=> ?_;subst gG)
  have au:=F.dC O k₁
  refine ew (au.ow _ ds hx:) fun a' dh g1 g2 g3 g4=> ?_
  rw [h1] at g1;cases g1
  have hl:=g4.length
  rw [Array.length_toList] at hl
  refine ey (Le Lh:) fun j Li Lj Lk=> ?_
  have bQ:dh.size<=sizeLine:=by rw [sizeLine_eq];exact m4 hl hlen
  refine wpAny_delItem_plain (k:=j) g3 Li (by rw [hl];exact Lj) (fun h' eN bR=>wpAny_deleteEach_nil (hQ _ _ ⟨au.mut (tk:=ab.toks) O hx h1 hk bR eN ?_,(bB.kp k₁).trans fun b ob n m e=>bR.extBut b ob (fun q=>m (List.mem_append_left _ (q▸cZ h1))) e,rfl⟩)) bQ
  rw [Lk,Ld]
  exact Dq j g4
 | _=>exact no h
end
section
variable {prog:Program} {w:World} {mg mb:Str->Option Value}
variable {A:Around} {lm:Bool} {c:Cf} {Φ:cV} {J:aK} {k m:Nat}
theorem Ll {B:Scope->St->List Stmt->Option (Out × St)} (hA:cG A) (S':br prog w mg mb A lm (ah Φ J k)) (S:br prog w mg mb A lm (ah Φ J (k+1))) (H:fV prog w mg mb A c) (hB:mB prog w mg mb A lm B):
  mB prog w mg mb A lm (yq (bT (ah Φ J (k+1)) c B)):=by
 intro cd af fr ae s env sc own st ag o body E O F h
 induction body generalizing s st with
 | nil=>cases h;exact wpAny_execs_nil ⟨F,bB.refl,rfl⟩
 | cons t r ih=>
  (refine ai h fun ay h1 h=> ?_;obtain ⟨Lm,oP⟩:=ay)
  refine wpAny_execs_cons (wpAny_mono (u6 hA S' S H hB O F h1) (fun f ab q=> ?_) fun _ _ q=>q)
  (refine bG q ?_;clear q;intro au d8 hf)
  cases Lm with
  | aT=>
   cases hf
   exact wpAny_mono (ih au h) (fun f aq q=>⟨q.1,d8.trans q.2.1,q.2.2⟩) fun _ _ q=>q
  | cont=>cases hf;cases h;exact ⟨au,d8,rfl⟩
  | ret d=>
   (refine aj hf ?_;clear hf;intro v aF rv;subst aF)
   cases h
   exact ⟨au,d8,v,rfl,rv⟩
theorem sk (hA:cG A) (hJ:∀A,Lv m A->br prog w mg mb A false J) (F:fJ prog w mg mb A lm m Φ) (H:fV prog w mg mb A c):∀n,mB prog w mg mb A lm (bc (ah Φ J (k+1)) c n)
 | 0=>fun _ _ h=>(nomatch h)
 | n+1=>Ll hA (kB hA hJ F k) (kB hA hJ F (k+1)) H (sk hA hJ F H n)
theorem fV.no {A:Around} (h:∀a b d,c.eO a b d=none):fV prog w mg mb A c:=by
 intro lm cd af fr ae s env sc own st n v x hs bR p ap cp e1 e2 E O F h1 _ h2
 rw [h] at h2;exact cb.no h2
end
section
variable {prog:Program} {w:World} {mg mb:Str->Option Value}
variable {A:Around} {lm:Bool} {X:List Addr} {s:Shared}
structure hZ (P:Params) (a:Addr) (fd:FuncData) (names:List Str) (body:List Stmt):Prop where
 obj:∃o,(KI P).lookup a=some o/\o.data= .func fd
 tab:a∉az
 body:fd.body= .stmts body
 co:fd.scope.isCoroutine=false
 gen:fd.scope.isGenerator=false
 kind:fd.scope.kind= .function
 glob:fd.globals=mainGlobals
 bi:fd.builtins=builtinsNs
 sm:fd.closure=[]
 code:∃c o vs t,fd.code= .ref c/\(KI P).lookup c=some o/\o.data= .fields vs/\vs[1]? =some (.str fd.qualname t)
 params:∀x∈names,fd.scope.names.lookup x=some .local\/fd.scope.names.lookup x=some .cell
 jt:fd.scope.names.all (fun p=>df p.1&&(p.2== .local||p.2== .cell||p.2== .globalImplicit)&&(fd.scope.names.lookup p.1==some p.2))=true
end
theorem cellsFrom_some:∀(names:List (Str × NameKind)) (n:Nat) (acc:List (Str × Addr)) {x:Str},((acc.lookup x).isSome=true\/(x,NameKind.cell)∈names)->((cellsFrom n names acc).lookup x).isSome=true
 | [],n,acc,x,h=>by
  rcases h with h | h
  ·exact h
  ·cases h
 | (y,k)::r,n,acc,x,h=>by
  unfold cellsFrom
  split
  ·rename_i hk
   refine cellsFrom_some r _ _ ?_
   rw [List.lookup_cons]
   by_cases q:x=y
   ·left;rw [beq_iff_eq.mpr q];rfl
   ·have q':(x==y)=false:=beq_eq_false_iff_ne.mpr q
    rw [q']
    rcases h with h | h
    ·exact .inl h
    ·rcases List.mem_cons.mp h with e | h
     ·cases e;exact absurd rfl q
     ·exact .inr h
  ·rename_i hk
   refine cellsFrom_some r _ _ ?_
   rcases h with h | h
   ·exact .inl h
   ·rcases List.mem_cons.mp h with e | h
    ·cases e;exact absurd rfl hk
    ·exact .inr h
theorem Du {kindOf:Str->Option NameKind} {x:Str} (hk:kindOf x=some .local):∀(binds:List (Str × Value)) (m:Str->Option Value),bindL kindOf binds m x=(match binds.reverse.lookup x with | some v=>some v | none=>m x)
 | [],m=>rfl
 | (n,v)::r,m=>by
  unfold bindL
  rw [Du hk r,List.reverse_cons,List.lookup_append]
  cases q:r.reverse.lookup x with
  | some u=>rfl
  | none=>
   simp only [Option.none_or,List.lookup_cons,List.lookup_nil]
   by_cases e:x=n
   ·subst e;simp [hk]
   ·have e':(x==n)=false:=beq_eq_false_iff_ne.mpr e
    rw [e']
    split<;>simp [e]
theorem Dv {kindOf:Str->Option NameKind} {x:Str} (hk:kindOf x≠some .local):∀(binds:List (Str × Value)) (m:Str->Option Value),bindC kindOf binds m x=(match binds.reverse.lookup x with | some v=>some v | none=>m x)
 | [],m=>rfl
 | (n,v)::r,m=>by
  unfold bindC
  rw [Dv hk r,List.reverse_cons,List.lookup_append]
  cases q:r.reverse.lookup x with
  | some u=>rfl
  | none=>
   simp only [Option.none_or,List.lookup_cons,List.lookup_nil]
   by_cases e:x=n
   ·subst e;simp [hk]
   ·have e':(x==n)=false:=beq_eq_false_iff_ne.mpr e
    rw [e']
    split<;>simp [e]
inductive eP (X:List Addr) (h:Heap):List (Str × Value)->List (Str × PyData)->Prop
 | nil:eP X h [] []
 | cons {n v d ps qs}:eA X h v d->eP X h ps qs->eP X h ((n,v)::ps) ((n,d)::qs)
theorem eP.append {X:List Addr} {h:Heap} {ps rL qs Dw} (a:eP X h ps qs) (b:eP X h rL Dw):eP X h (ps++rL) (qs++Dw):=by
 induction a with
 | nil=>exact b
 | cons r _ ih=>exact .cons r ih
theorem eP.reverse {X:List Addr} {h:Heap} {ps qs} (a:eP X h ps qs):eP X h ps.reverse qs.reverse:=by
 induction a with
 | nil=>exact .nil
 | cons r _ ih=>rw [List.reverse_cons,List.reverse_cons];exact ih.append (.cons r .nil)
theorem eP.look {X:List Addr} {h:Heap} {ps qs} (a:eP X h ps qs) {x:Str} {d:PyData} (e:qs.lookup x=some d):∃v,ps.lookup x=some v/\eA X h v d:=by
 induction a with
 | nil=>exact cb.no e
 | @cons n v d' ps qs r _ ih=>
  rw [List.lookup_cons] at e ⊢
  cases q:x==n with
  | true=>rw [q] at e;cases e;exact ⟨v,rfl,r⟩
  | false=>rw [q] at e;exact ih e
theorem eP.zip {X:List Addr} {h:Heap}:∀(names:List Str) {vs:List Value} {ds:List PyData},ax X h vs ds->eP X h (names.zip vs) (names.zip ds)
 | [],vs,ds,_=> .nil
 | n::ns,vs,[],r=>by rw [r.nil_inv];exact .nil
 | n::ns,vs,d::ds,r=>by
  (refine aU r.cons_inv fun v us aP a b=> ?_;subst aP)
  exact .cons (.inl a) (eP.zip ns b)
section
variable {prog:Program} {w:World} {mg mb:Str->Option Value}
variable {A:Around} {lm:Bool} {X:List Addr} {s:Shared} {a:Addr} {fd:FuncData} {names:List Str} {body:List Stmt}
noncomputable def kE (env:Env):List Addr:=env.locals::env.cells.filterMap fun p=>env.cells.lookup p.1
noncomputable def mC (names:List Str) (ds:List PyData):St:=⟨(names.zip ds).reverse,[],none⟩
theorem Dx (D:hZ w.params a fd names body) {vs:List Value} {ds:List PyData} (hx:aN X s.heap) (C:Ctx w.params mg mb X s.heap) (r:eP X s.heap (names.zip vs) (names.zip ds)) {ab:Shared} (iD:lm=true->ng (callEnvC fd s.heap.objs.size a))
  (x:InCallC s (callEnvC fd s.heap.objs.size a).locals (bindL (callEnvC fd s.heap.objs.size a).kindOf (names.zip vs) fun _=>none) (callEnvC fd s.heap.objs.size a).cells (bindC (callEnvC fd s.heap.objs.size a).kindOf (names.zip vs) fun _=>none) ab):
  aX none (kE (callEnvC fd s.heap.objs.size a)) X (callEnvC fd s.heap.objs.size a) fd.scope/\FS w.params mg mb lm none X (kE (callEnvC fd s.heap.objs.size a)) s (callEnvC fd s.heap.objs.size a) fd.scope [] (mC names ds) ab:=by
 have hL:(callEnvC fd s.heap.objs.size a).locals=s.heap.objs.size:=rfl
 have aQ:(callEnvC fd s.heap.objs.size a).scope=fd.scope:=rfl
 generalize oZ:callEnvC fd s.heap.objs.size a=env at*
 have eh:∀y,env.kindOf y=fd.scope.names.lookup y:=fun y=>by unfold Env.kindOf;rw [aQ]
 have above:∀y b,env.cells.lookup y=some b->s.heap.objs.size < b:=fun y b e=>hL▸x.above y b (mem_of_lookup e)
 have tb:=pX C
 have Dy:∀b∈kE env,s.heap.objs.size<=b:=fun b hb=>by
  unfold kE at hb
  rcases List.mem_cons.mp hb with q | q
  ·rw [q,hL];exact Nat.le_refl _
  ·refine aj (List.mem_filterMap.mp q:) fun p _ e=> ?_
   exact Nat.le_of_lt (above _ _ e)
 have u7:∀b∈kE env,s.heap.get? b=none:=fun b hb=>r6 (Dy b hb)
 have qj:∀b∈kE env,b∉az:=fun b hb m=>Nat.lt_irrefl _ (Nat.lt_of_lt_of_le (tb b m) (Dy b hb))
 have u9:∀y b,env.cells.lookup y=some b->b∈kE env:=fun y b e=> .tail _ (List.mem_filterMap.mpr ⟨(y,b),mem_of_lookup e,e⟩)
 have yx:env.locals∈kE env:= .head _
 have keep:∀b o,s.heap.get? b=some o->ab.heap.get? b=some o:=x.toInCall.keep
 have O:aX none (kE env) X env fd.scope:=⟨aQ,yx,qj _ yx,fun y b e=>⟨u9 y b e,qj _ (u9 y b e),fun q=>Nat.lt_irrefl _ (hL▸q▸above y b e)⟩,x.apart,fun b hb m=>(by
  refine bV (hx b m:) fun _ o e=> ?_
  rw [u7 b hb] at e;exact cb.no e),fun _ _ e=>(nomatch e)⟩
 have jt:=D.jt
 rw [List.all_eq_true] at jt
 have kinds:∀y k,fd.scope.names.lookup y=some k->df y=true/\(k= .local\/k= .cell\/k= .globalImplicit):=fun y k e=>by
  have:=jt _ (mem_of_lookup e)
  simp only [Bool.and_eq_true,Bool.or_eq_true,beq_iff_eq] at this
  refine ⟨this.1.1, ?_⟩
  rcases this.1.2 with (q | q) | q
  ·exact .inl q
  ·exact .inr (.inl q)
  ·exact .inr (.inr q)
 refine ⟨O,⟨?_,aA.of keep,(C.fresh u7).keeps keep,fun b hb=> ?_,fun b hb=>u7 b (by simpa using hb),⟨_,x.toInCall.ns⟩,fun y b e=>⟨_,x.cell y b e⟩, ?_,fun _ _ e=>(nomatch e), .nil,fun _ m=>(nomatch m),fun _ m=>(nomatch m),fun _ e=>(nomatch e)⟩⟩
 ·refine dq x.done fun h' tk e _=> ?_;exact ⟨h',tk,e⟩
 ·rcases List.mem_append.mp hb with m | m
  ·cases m
  rcases List.mem_append.mp m with m | m
  ·refine ⟨qj b m, ?_⟩
   unfold kE at m
   rcases List.mem_cons.mp m with q | q
   ·refine lg x.toInCall.ns fun o _ _ e _=> ?_
    exact ⟨o,q▸e⟩
   ·refine aj (List.mem_filterMap.mp q:) fun p _ e=> ?_
    refine aj (x.cell _ _ e:) fun o e' _=> ?_
    exact ⟨o,e'⟩
  ·refine bV (hx b m:) fun n o e=> ?_
   exact ⟨n,o,keep b o e⟩
 ·refine ⟨by rw [aQ];exact D.kind,by rw [<- oZ];exact D.glob,by rw [<- oZ];exact D.bi,fun y hy=>(eh y).trans (beq_iff_eq.mp hy),fun y hy=>(eh y).trans (uP.mp hy),fun y hy=> ?_,fun y d e=> ?_,fun y k e=>(kinds y k ((eh y).symm.trans e)).1,fun y b e=> ?_,iD⟩
  ·have hc:fd.scope.names.lookup y=some .cell:=by
    unfold lz at hy
    rcases Bool.or_eq_true_iff.mp hy with q | q
    ·exact beq_iff_eq.mp q
    ·rcases (kinds y _ (beq_iff_eq.mp q)).2 with q | q | q<;>cases q
   refine ⟨.inl ((eh y).trans hc), ?_⟩
   rw [<- oZ]
   exact cellsFrom_some _ _ _ (.inr (mem_of_lookup hc))
  ·have e:(names.zip ds).reverse.lookup y=some d:=e
   refine aj (r.reverse.look e:) fun v hv rv=> ?_
   have Ln:eA (oa []++(kE env++X)) ab.heap v d:=(rv.fresh u7).grow (aA.of keep)
   refine ⟨v, ?_,Ln⟩
   have so:y∈names:=(List.of_mem_zip (List.mem_reverse.mp (PySem.mem_of_lookup e))).1
   rcases D.params y so with hk | hk
   ·refine .loc ((eh y).trans hk) (qj _ yx) x.toInCall.ns ?_
    rw [Du ((eh y).trans hk),hv]
   ·have fU:env.kindOf y=some .cell:=(eh y).trans hk
    have hs:(env.cells.lookup y).isSome=true:=by rw [<- oZ];exact cellsFrom_some _ _ _ (.inr (mem_of_lookup hk))
    refine xE (Option.isSome_iff_exists.mp hs:) fun b hb=> ?_
    refine .cell (.inl fU) hb (qj _ (u9 y b hb)) ?_
    have:=x.cell y b hb
    rw [Dv (by rw [fU];decide),hv] at this
    exact this
  ·refine aj (x.cell y b e:) fun o e' _=> ?_
   exact ⟨qj _ (u9 y b e),o,e'⟩
theorem vd (D:hZ w.params a fd names body) {vs:List Value} {ds:List PyData} {d:PyData} {E:Value->Shared->Prop} (yy:A.depth < recursionLimit) (hx:aN X s.heap) (C:Ctx w.params mg mb X s.heap) (r:eP X s.heap (names.zip vs) (names.zip ds))
  (sr:bindArgs fd ⟨vs,[]⟩=pure (names.zip vs)) (iD:lm=true->ng (callEnvC fd s.heap.objs.size a))
  (h:∀(env:Env) (fr:List Addr) (ab:Shared) (E':Value->Shared->Prop),aX none fr X env fd.scope->FS w.params mg mb lm none X fr s env fd.scope [] (mC names ds) ab->
   wpAny (model prog w) (A.deeper env) (execs body env) (fun f s'=>(∃cd own ag,FS w.params mg mb lm cd X fr s env fd.scope own ag s')/\∃v,f= .ret v/\Rep X s'.heap v d) E' ab):
  wpAny (model prog w) A (call (.ref a) vs) (fun v s'=>Kp w.params mg mb X s s'/\Rep X s'.heap v d) E s:=by
 refine aj D.obj fun o ho hd=> ?_
 refine pD D.code fun c oc vc t hc ky o1 o4=> ?_
 have kl:=dI (C.dX _ _ ho)
 have yz:=dI (C.dX _ _ ky)
 refine aj C.nl fun mc oU oV=> ?_
 refine wpAny_call (codeAny_call_cells yy kl.1 hd ⟨mc,oU,oV⟩ ⟨c,oc,vc,t,hc,yz.1,o1,o4⟩ D.body sr D.sm (fun y hy=> ?_) (fun ab x=> ?_) D.co D.gen D.kind)
 ·have so:y.1∈names:=(List.of_mem_zip hy).1
  rcases D.params y.1 so with hk | hk
  ·exact .inl hk
  ·exact .inr ⟨hk,cellsFrom_some _ _ _ (.inr (mem_of_lookup hk))⟩
 ·refine xA (Dx D hx C r iD x:) fun O F=> ?_
  refine wpAny_mono (h _ _ ab _ O F) (fun f s' q=> ?_) fun _ _ q=>q
  obtain ⟨⟨cd,own,ag,F'⟩,v,rfl,rv⟩:=q
  refine cN F'.eq fun h' tk e=> ?_
  refine ⟨⟨h',tk,e, ?_, ?_⟩,rv⟩
  ·have:=F'.gr;rw [e] at this;exact this
  ·have:=F'.ctx.less (X:=X) fun _ q=>List.mem_append_right _ (List.mem_append_right _ q)
   rw [e] at this;exact this
end
section
variable {prog:Program} {w:World} {mg mb:Str->Option Value}
variable {A:Around} {lm:Bool} {cd:Option (Addr × Addr)} {af fr:List Addr} {ae s s':Shared} {env:Env} {sc:Scope} {own:List (Str × Addr)} {st ag:St} {c:Cf} {I:aK}
theorem FS.ju (F:FS w.params mg mb lm cd af fr ae env sc own st s) (O:aX cd fr af env sc) {x:Str} {vs:Array Value} {ds:List PyData} {tk:Tok} (ho:st.o x=none) (hk:x≠cY) (r:ax (oa own++(fr++af)) s.heap vs.toList ds):
  FS w.params mg mb lm cd af fr ae env sc ((x,s.heap.objs.size)::own) st {s with heap:=s.heap.push {cls:= .type "list",data:= .seq vs},toks:=tk}/\
   ax (oa ((x,s.heap.objs.size)::own)++(fr++af)) (s.heap.push {cls:= .type "list",data:= .seq vs}) vs.toList ds/\(s.heap.push {cls:= .type "list",data:= .seq vs}).PlainList s.heap.objs.size vs:=by
 have hn:s.heap.get? s.heap.objs.size=none:=get_none
 have nE:=F.mz hn
 have fH:s.heap.objs.size∉az:=fQ F.ctx
 have hp:(s.heap.push {cls:= .type "list",data:= .seq vs}).PlainList s.heap.objs.size vs:=⟨0,Heap.get?_push_size _ rfl⟩
 have keep:∀b o,s.heap.get? b=some o->(s.heap.push {cls:= .type "list",data:= .seq vs}).get? b=some o:=fun _ _ e=>Heap.get?_push_of_some _ e
 have f1:∀a∈[s.heap.objs.size],s.heap.get? a=none:=fun a ha=>by rw [List.mem_singleton.mp ha];exact hn
 have h0:ae.heap.get? s.heap.objs.size=none:=by
  cases q:ae.heap.get? s.heap.objs.size with
  | none=>rfl
  | some o=>have:=F.gr _ o fH q;rw [hn] at this;exact no this
 have G:=F.go (s':={s with heap:=s.heap.push {cls:= .type "list",data:= .seq vs},toks:=tk}) O ⟨_,_,rfl⟩ (aA.of keep) (F.ctx.keeps keep)
 refine ⟨⟨G.eq,G.gr,(F.ctx.fresh f1).keeps keep,fun a ha=> ?_,fun a ha=> ?_,G.ns,G.cells, ?_,fun y es e=> ?_, ?_,fun a ha=> ?_,fun p eN=> ?_,fun es e=> ?_⟩,(r.fresh f1).grow (aA.of keep),hp⟩
 ·rcases List.mem_cons.mp ha with q | q
  ·subst q;exact ⟨fH,_,Heap.get?_push_size _ rfl⟩
  ·exact G.aD a q
 ·rcases List.mem_cons.mp ha with q | q
  ·rw [q];exact h0
  ·exact F.fresh a q
 ·have R:=F.er
  refine ⟨R.kind,R.gl,R.bi,R.glob,R.loc,R.cell,fun y d e=> ?_,R.cq,G.er.eY,R.lam⟩
  refine aj (R.vals y d e:) fun v h1 h2=> ?_
  exact ⟨v,h1.grow (aA.of keep),(h2.fresh f1).grow (aA.of keep)⟩
 ·have hy:y≠x:=fun q=>by rw [q,ho] at e;exact no e
  refine ew (F.ow y es e:) fun a dh h1 h2 h3 h4=> ?_
  refine ⟨a,dh, ?_,h2.grow (aA.of keep),dK h3 fun o e=>keep _ _ e,(h4.fresh f1).grow (aA.of keep)⟩
  rw [List.lookup_cons,beq_eq_false_iff_ne.mpr hy]
  exact h1
 ·refine List.pairwise_cons.mpr ⟨fun p eN q=>nE (List.mem_append_left _ ?_),F.hW⟩
  have q:s.heap.objs.size=p.2:=q
  rw [q];exact List.mem_map_of_mem eN
 ·rcases List.mem_cons.mp ha with q | q
  ·rw [q];exact fun m=>nE (List.mem_append_right _ m)
  ·exact F.dB a q
 ·rcases List.mem_cons.mp eN with q | q
  ·rw [q];exact ⟨vs,hp⟩
  ·exact G.pl p q
 ·refine j9 (F.jP es e:) fun c d l dh h1 eC h4 h5 h6 h7=> ?_
  refine ⟨c,d,l,dh, ?_,eC,h4.grow (aA.of keep),h5.at (fun o e=>keep _ _ e) (fun o e=>keep _ _ e),dK h6 fun o e=>keep _ _ e,(h7.fresh f1).grow (aA.of keep)⟩
  rw [List.lookup_cons,beq_eq_false_iff_ne.mpr (Ne.symm hk)]
  exact h1
noncomputable def St.ju (st:St) (x:Str) (ds:List PyData):St:={st with vl:=i7 x st.vl,ol:=fL x ds st.ol}
theorem FS.Dz (F:FS w.params mg mb lm cd af fr ae env sc own st s) (O:aX cd fr af env sc) {x:Str} {vs:Array Value} {ds:List PyData} {a:Addr} {E:Value->Shared->Prop} {Q:Unit->Shared->Prop} (hx:dD sc x=true) (h1:own.lookup x=some a) (h3:s.heap.PlainList a vs) (r:ax (oa own++(fr++af)) s.heap vs.toList ds)
  (h:∀s',FS w.params mg mb lm cd af fr ae env sc own (st.ju x ds) s'->Q () s'):wpAny (model prog w) A (storeName env x (.ref a)) Q E s:=
 F.C7 (ag:=st.ju x ds) O hx ⟨fun y d' e=>(by
  have e:(i7 x st.vl).lookup y=some d':=e
  rw [qf] at e
  by_cases q:y=x
  ·rw [if_pos q] at e;exact no e
  ·rw [if_neg q] at e;exact .inl ⟨q,e⟩),fun y es e=>(by
  have e:(fL x ds st.ol).lookup y=some es:=e
  rw [qe] at e
  by_cases q:y=x
  ·subst q
   rw [if_pos rfl] at e;cases e
   exact .inr ⟨rfl,a,vs,h1,rfl,h3,r⟩
  ·rw [if_neg q] at e;exact .inl ⟨q,e⟩),rfl⟩ fun s' F' _=>h s' F'
theorem ve (F:FS w.params mg mb lm cd af fr ae env sc own st s) (O:aX cd fr af env sc) {x:Str} {px lp pos:Pos} {E:Value->Shared->Prop} {Q:Flow->Shared->Prop} (hx:dD sc x=true) (ho:st.o x=none) (hk:x≠cY)
  (h:∀a s',FS w.params mg mb lm cd af fr ae env sc ((x,a)::own) (st.ju x []) s'->Q .next s'):wpAny (model prog w) A (exec (.Assign [.Name x px] (.List [] lp) pos) env) Q E s:=by
 refine wpAny_Assign_Name (List_ (Calls.spliced_nil ?_)) rfl
 refine wpAny_newObj_type ?_ (by show (0:Nat)<=sizeLine;exact Nat.zero_le _)
 refine bG (F.ju (x:=x) (vs:= #[]) (ds:=[]) (tk:=s.toks) O ho hk .nil:) fun au mq oB=> ?_
 exact au.Dz O hx (by rw [List.lookup_cons,beq_self_eq_true]) oB mq fun s' F'=>h _ s' F'
noncomputable def St.free (st:St) (x:Str) (ds:List PyData):St:={st with vl:=fL x (.list ds) st.vl,ol:=i7 x st.ol}
theorem mD {Φ:cV} {J:aK} {k n:Nat} {t:Stmt} {r:List Stmt} {E:Value->Shared->Prop} {Q:Flow->Shared->Prop} {m:Nat} (hA:cG A) (hJ:∀A,Lv m A->br prog w mg mb A false J) (FO:fJ prog w mg mb A lm m Φ) (H:fV prog w mg mb A c) (O:aX cd fr af env sc) (F:FS w.params mg mb lm cd af fr ae env sc own st s)
  (h:bT (ah Φ J (k+1)) c (bc (ah Φ J (k+1)) c n) sc st t=some (.aT,ag)) (hr:∀s',FS w.params mg mb lm cd af fr ae env sc own ag s'->wpAny (model prog w) A (execs r env) Q E s'):
  wpAny (model prog w) A (execs (t::r) env) Q E s:=by
 refine wpAny_execs_cons (wpAny_mono (u6 hA (kB hA hJ FO k) (kB hA hJ FO (k+1)) H (sk hA hJ FO H n) O F h) (fun f ab q=> ?_) fun _ _ q=>q)
 (refine bG q ?_;clear q;intro au _ hf)
 cases hf
 exact hr ab au
end
noncomputable def mE (x:Str) (own:List (Str × Addr)):List (Str × Addr):=own.filter fun p=> !(p.1==x)
theorem yA {x:Str} {own:List (Str × Addr)} {a:Addr} (h:a∈oa (mE x own)):a∈oa own:=by
 (refine aj (List.mem_map.mp h:) fun p hp ay=> ?_;subst ay)
 exact List.mem_map_of_mem (List.mem_filter.mp hp).1
theorem vf {x y:Str} (dZ:y≠x):∀{own:List (Str × Addr)},(mE x own).lookup y=own.lookup y
 | []=>rfl
 | (z,b)::r=>by
  unfold mE
  rw [List.filter_cons]
  by_cases q:z=x
  ·subst q
   have e1:(!(z==z))=false:=by simp
   simp only [e1,Bool.false_eq_true,if_false]
   rw [List.lookup_cons,beq_eq_false_iff_ne.mpr dZ]
   exact vf dZ
  ·have e1:(!(z==x))=true:=by simp [q]
   simp only [e1,if_true]
   rw [List.lookup_cons,List.lookup_cons]
   have:=vf (own:=r) dZ
   unfold mE at this
   rw [this]
section
variable {P:Params} {mg mb:Str->Option Value} {lm:Bool} {cd:Option (Addr × Addr)} {af fr:List Addr} {ae s s':Shared} {env:Env} {sc:Scope} {own:List (Str × Addr)} {st:St}
theorem FS.free (F:FS P mg mb lm cd af fr ae env sc own st s) {x:Str} {ds:List PyData} (hx:st.o x=some ds) (hk:x≠cY):FS P mg mb lm cd af fr ae env sc (mE x own) (st.free x ds) s:=by
 have sub:∀a,a∈oa (mE x own)++(fr++af)->a∈oa own++(fr++af):=fun a ha=>by
  rcases List.mem_append.mp ha with m | m
  ·exact List.mem_append_left _ (yA m)
  ·exact List.mem_append_right _ m
 refine ⟨F.eq,F.gr,F.ctx.less sub,fun a ha=>F.aD a (sub a ha),fun a ha=>F.fresh a ?_,F.ns,F.cells, ?_,fun y es e=> ?_,F.hW.filter _,fun a ha=>F.dB a (yA ha),fun p hp=>F.pl p (List.mem_filter.mp hp).1,fun es e=> ?_⟩
 ·rcases List.mem_append.mp ha with m | m
  ·exact List.mem_append_left _ (yA m)
  ·exact List.mem_append_right _ m
 ·have R:=F.er
  refine ⟨R.kind,R.gl,R.bi,R.glob,R.loc,R.cell,fun y d e=> ?_,R.cq,R.eY,R.lam⟩
  have e:(fL x (.list ds) st.vl).lookup y=some d:=e
  rw [qe] at e
  by_cases q:y=x
  ·subst q
   rw [if_pos rfl] at e;(obtain rfl:=Option.some.inj e;clear e)
   refine ew (F.ow y ds hx:) fun a vs h1 h2 h3 h4=> ?_
   (refine xE h3 ?_;clear h3;intro n e)
   refine ⟨_,h2, .inl (Rep.list e rfl rfl rfl rfl (F.aD a (List.mem_append_left _ (cZ h1))).1 (fun m=> ?_) (h4.more sub))⟩
   rcases List.mem_append.mp m with m | m
   ·refine aj (List.mem_map.mp m:) fun p hp Lo=> ?_
    refine xA (List.mem_filter.mp hp:) fun kF lJ=> ?_
    have:p.1=y:=name_of_addr F.hW (c:=a) (by rw [<- Lo];exact kF) (PySem.mem_of_lookup h1)
    simp [this] at lJ
   ·exact F.dB a (cZ h1) m
  ·rw [if_neg q] at e
   refine aj (R.vals y d e:) fun v h1 h2=> ?_
   exact ⟨v,h1,h2.more sub⟩
 ·have e:(i7 x st.ol).lookup y=some es:=e
  rw [qf] at e
  by_cases q:y=x
  ·rw [if_pos q] at e;exact no e
  ·rw [if_neg q] at e
   refine ew (F.ow y es e:) fun a vs h1 h2 h3 h4=> ?_
   exact ⟨a,vs,(vf q).trans h1,h2,h3,h4.more sub⟩
 ·refine j9 (F.jP es e:) fun c d l vs h1 h2 h3 h4 h5 h6=> ?_
  exact ⟨c,d,l,vs,(vf (Ne.symm hk)).trans h1,h2,h3,h4,h5,h6.more sub⟩
end
noncomputable def i8:List Int->Int
 | []=>0
 | [a]=>a
 | a::b::r=>let m:=i8 (b::r);if m < a then m else a
theorem yB {a b:Int} {r:List Int}:i8 (a::b::r)=if i8 (b::r) < a then i8 (b::r) else a:=rfl
noncomputable def nF (ds:List PyData):Option PyData:=
 match ds with
 | [.list xs]=>if xs.length<=4096 then some (.int xs.length) else none
 | [.str x]=>if x.length<=4096 then some (.int x.length) else none
 | _=>none
noncomputable def sumF (ds:List PyData):Option PyData:=
 match ds with
 | [.list xs]=>(intsOf xs).map fun ns=> .int ns.sum
 | _=>none
noncomputable def su (ds:List PyData):Option PyData:=
 match ds with
 | [.list xs]=>(intsOf xs).bind fun ns=>if ns.isEmpty then none else some (.int (i8 ns))
 | _=>none
section
variable {prog:Program} {w:World} {mg mb:Str->Option Value}
variable {A:Around} {X:List Addr} {s:Shared}
theorem Lp {vs:List Value} {ds:List PyData} {d:PyData} {E:Value->Shared->Prop} (C:Ctx w.params mg mb X s.heap) (r:ax X s.heap vs ds) (h:nF ds=some d):
  wpAny (model prog w) A (call (.builtin "len") vs) (fun v s'=>Kp w.params mg mb X s s'/\Rep X s'.heap v d) E s:=by
 cases ds with
 | nil=>exact no h
 | cons d' ds=>
 cases ds with
 | cons=>cases d'<;>exact no h
 | nil=>
 cases d' with
 | list xs=>
  refine aO h fun hl h=> ?_
  (obtain rfl:=Option.some.inj h;clear h)
  (refine aU r.cons_inv fun v us aF q1 q2=> ?_;subst aF)
  rw [q2.nil_inv]
  (refine cT q1.dY fun a o ws n aP t1 m1 e1 c1 d1 r1=> ?_;subst aP)
  have hlen:=r1.length
  rw [Array.length_toList] at hlen
  refine Calls.call_len_list (items:=ws) ⟨o,e1,c1,n,d1⟩ (by lia) ⟨Kp.toks C, ?_⟩
  rw [hlen];exact .int _ _
 | str x=>
  refine aO h fun hl h=> ?_
  (obtain rfl:=Option.some.inj h;clear h)
  (refine aU r.cons_inv fun v us bI q1 q2=> ?_;subst bI)
  rw [q2.nil_inv]
  (refine xE q1.str_inv fun t bK=> ?_;subst bK)
  exact call_len_gives (T:="str") (typeIs_str _ _ _) F.slot_str_len F.entry_str_len (F.args_str_len_1 _) (gives_str_len x t) (by exact Zb Z1 19 [_] []) (by lia) ⟨Kp.toks C, .int _ _⟩
 | _=>exact no h
theorem Lq {ds:List PyData} {r:PyData} {P:Prop} (h:sumF ds=some r) (k:∀xs,ds=[.list xs]->(intsOf xs).map (fun ns=>PyData.int ns.sum)=some r->P):P:=by
 cases ds with
 | nil=>exact no h
 | cons d ds=>
 cases d with
 | list xs=>
  cases ds with
  | nil=>exact k _ rfl h
  | cons=>exact no h
 | _=>exact no h
theorem Lr {ds:List PyData} {r:PyData} {P:Prop} (h:su ds=some r) (k:∀xs,ds=[.list xs]->((intsOf xs).bind fun ns=>if ns.isEmpty then none else some (PyData.int (i8 ns)))=some r->P):P:=by
 cases ds with
 | nil=>exact no h
 | cons d ds=>
 cases d with
 | list xs=>
  cases ds with
  | nil=>exact k _ rfl h
  | cons=>exact no h
 | _=>exact no h
theorem Ls {vs:List Value} {ds:List PyData} {d:PyData} {E:Value->Shared->Prop} (hh:A.handled=none) (C:Ctx w.params mg mb X s.heap) (r:ax X s.heap vs ds) (h:sumF ds=some d):
  wpAny (model prog w) A (call (.builtin "sum") vs) (fun v s'=>Kp w.params mg mb X s s'/\Rep X s'.heap v d) E s:=by
 refine Lq h fun xs q h5=> ?_
 subst q
 (refine cO h5 fun ns bX bO=> ?_;subst bO)
 (refine aU r.cons_inv fun v us cF q1 q2=> ?_;subst cF)
 rw [q2.nil_inv]
 (refine cT q1.dY fun a o ws n c9 t1 m1 e1 c1 d1 r1=> ?_;subst c9)
 have hi:=oI r1 bX
 have yC:AllInts ws:=by simpa using hi.allInts
 have qk:numsOf ws.toList=ns:=hi.numsOf
 (refine xE yC.items fun xs dy=> ?_;subst dy)
 refine sum_intListG hh ⟨o,e1,c1,n,d1⟩ fun h' tk t' hk=>⟨⟨h',tk,rfl,aA.of hk,C.keeps hk⟩, ?_⟩
 rw [preSum_eq,List.take_of_length_le (by simp), <- nums_intItems,qk]
 exact .int _ _
theorem DA:∀{ns:List Int},ns≠[]->i8 ns∈ns/\∀a∈ns,i8 ns<=a
 | [],h=>absurd rfl h
 | [a],_=>⟨.head _,fun b hb=>by rw [List.mem_singleton.mp hb];exact Int.le_refl _⟩
 | a::b::r,_=>by
  refine xA (DA (ns:=b::r) (by simp):) fun h1 h2=> ?_
  rw [yB]
  split
  ·rename_i q
   exact ⟨.tail _ h1,fun c hc=>by
    rcases List.mem_cons.mp hc with e | hc
    ·rw [e];exact Zb Z3 16 [] [_,_] q
    ·exact h2 c hc⟩
  ·rename_i q
   exact ⟨.head _,fun c hc=>by
    rcases List.mem_cons.mp hc with e | hc
    ·rw [e];exact Int.le_refl _
    ·have:=h2 c hc;exact Zb Z3 17 [] [_,_,_] this q⟩
theorem Lu {vs:List Value} {ds:List PyData} {d:PyData} {E:Value->Shared->Prop} (hh:A.handled=none) (C:Ctx w.params mg mb X s.heap) (r:ax X s.heap vs ds) (h:su ds=some d):
  wpAny (model prog w) A (call (.builtin "min") vs) (fun v s'=>Kp w.params mg mb X s s'/\Rep X s'.heap v d) E s:=by
 refine Lr h fun xs q h5=> ?_
 subst q
 refine ai h5 fun ns bX h=> ?_
 refine tX h fun dZ h=> ?_
 (obtain rfl:=Option.some.inj h;clear h)
 have DB:ns≠[]:=by intro q;subst q;exact dZ rfl
 (refine aU r.cons_inv fun v us dz q1 q2=> ?_;subst dz)
 rw [q2.nil_inv]
 (refine cT q1.dY fun a o ws n fu t1 m1 e1 c1 d1 r1=> ?_;subst fu)
 have hi:=oI r1 bX
 have yC:AllInts ws:=by simpa using hi.allInts
 have qk:numsOf ws.toList=ns:=hi.numsOf
 (refine xE yC.items fun xs fw=> ?_;subst fw)
 rw [nums_intItems] at qk
 have bQ:0 < xs.size:=by
  rw [<- Array.length_toList]
  have:xs.toList.map (·.1)≠[]:=by rw [qk];exact DB
  cases q:xs.toList with
  | nil=>rw [q] at this;exact absurd rfl this
  | cons a r=>simp
 refine min_intList hh ⟨o,e1,c1,n,d1⟩ bQ fun v h' tk hv hk=> ?_
 (refine xE (intItems_at hv:) fun t fx=> ?_;subst fx)
 refine ⟨⟨h',tk,rfl,aA.of hk,C.keeps hk⟩, ?_⟩
 refine xA (argBest_lt (numAt xs) (xs.size - 1):) fun g1 g2=> ?_
 refine xA (DA DB:) fun m1 m2=> ?_
 have k1:numAt xs (argBest (fun i j=>decide (numAt xs i < numAt xs j)) (xs.size - 1))∈ns:=by
  rw [<- qk,numAt_eq];exact getD_mem (by rw [List.length_map,Array.length_toList];exact Zb cz 11 [_,_] [] bQ g1)
 have k2:∀a∈ns,numAt xs (argBest (fun i j=>decide (numAt xs i < numAt xs j)) (xs.size - 1))<=a:=fun a ha=>by
  rw [<- qk] at ha
  (refine aj (mem_getD ha:) fun j hj gG=> ?_;subst gG)
  rw [List.length_map,Array.length_toList] at hj
  rw [<- numAt_eq];exact g2 j (by exact Zb Z1 20 [_,_] [] hj)
 have:=m2 _ k1
 have:=k2 _ m1
 rw [show i8 ns=numAt xs (argBest (fun i j=>decide (numAt xs i < numAt xs j)) (xs.size - 1)) by exact Zb cz 12 [] [_,_] this ‹_›]
 exact .int _ _
end
noncomputable def ia:List PyData->Option (List (List Int))
 | []=>some []
 | .list ds::r=>(intsOf ds).bind fun a=>(ia r).map (a:: ·)
 | _::_=>none
noncomputable def vg:PyData->Option (Int × Int × Int)
 | .tuple [.int a, .int b, .int c]=>some (a,b,c)
 | _=>none
noncomputable def mF:List PyData->Option (List (Int × Int × Int))
 | []=>some []
 | d::r=>(vg d).bind fun a=>(mF r).map (a:: ·)
noncomputable def ib (x y:Int × Int × Int):Bool:=if x.1=y.1 then (if x.2.1=y.2.1 then decide (x.2.2 < y.2.2) else decide (x.2.1 < y.2.1)) else decide (x.1 < y.1)
noncomputable def bL (l:List Int):PyData:= .list (l.map .int)
noncomputable def bZ (x:Int × Int × Int):PyData:= .tuple [.int x.1, .int x.2.1, .int x.2.2]
noncomputable def nG (ds:List PyData):Option PyData:=
 ((one ds).bind gL).bind fun xs=>oM (ia xs) (fun ls=>if ls.length < 64/\ls.Nodup then some (.list ((gF aV ls).map bL)) else none)
  ((mF xs).bind fun ts=>if ts.length < 64/\ts.Nodup then some (.list ((gF ib ts).map bZ)) else none)
theorem Lw {xs:List PyData} {ls:List (List Int)} (h:ia xs=some ls) (h1:ls.length < 64) (h2:ls.Nodup):nG [.list xs]=some (.list ((gF aV ls).map bL)):=by
 show oM (ia xs) _ _=_
 rw [h];exact if_pos ⟨h1,h2⟩
theorem Lx {xs:List PyData} {ts:List (Int × Int × Int)} (h:ia xs=none) (h':mF xs=some ts) (h1:ts.length < 64) (h2:ts.Nodup):nG [.list xs]=some (.list ((gF ib ts).map bZ)):=by
 show oM (ia xs) _ ((mF xs).bind _)=_
 rw [h,h'];exact if_pos ⟨h1,h2⟩
theorem vi {a b:Int} {r t:List Int}:aV (a::r) (b::t)=if a=b then aV r t else decide (a < b):=rfl
theorem DC:∀a,aV a a=false
 | []=>rfl
 | a::r=>by rw [vi,if_pos rfl];exact DC r
theorem DD:∀a b,aV a b=false->aV b a=false->a=b
 | [],[],_,_=>rfl
 | [],_::_,h,_=>nomatch h
 | _::_,[],_,h=>nomatch h
 | a::r,b::t,h1,h2=>by
  rw [vi] at h1 h2
  by_cases q:a=b
  ·subst q
   rw [if_pos rfl] at h1 h2
   rw [DD r t h1 h2]
  ·rw [if_neg q] at h1
   rw [if_neg (Ne.symm q)] at h2
   simp at h1 h2
   lia
theorem DE:∀a b c,aV a b=true->aV b c=true->aV a c=true
 | [],[],_,h,_=>nomatch h
 | [],_::_,[],_,h=>nomatch h
 | [],_::_,_::_,_,_=>rfl
 | _::_,[],_,h,_=>nomatch h
 | _::_,_::_,[],_,h=>nomatch h
 | a::r,b::t,c::u,h1,h2=>by
  rw [vi] at h1 h2 ⊢
  by_cases q:a=b
  ·subst q
   rw [if_pos rfl] at h1
   by_cases q2:a=c
   ·subst q2
    rw [if_pos rfl] at h2 ⊢
    exact DE r t u h1 h2
   ·rw [if_neg q2] at h2 ⊢;exact h2
  ·rw [if_neg q] at h1
   by_cases q2:b=c
   ·subst q2;rw [if_neg q];exact h1
   ·rw [if_neg q2] at h2
    simp at h1 h2
    rw [if_neg (by exact Zb cJ 19 [] [_,_,_] h2 h1)]
    simp;exact Zb Z1 37 [] [_,_,_] h2 h1
theorem gU:ot aV:=⟨DC,DD,DE⟩
theorem ql:ot ib:=by
 refine ⟨fun a=> ?_,fun a b=> ?_,fun a b c=> ?_⟩
 ·unfold ib;simp
 ·obtain ⟨a1,a2,a3⟩:=a
  obtain ⟨b1,b2,b3⟩:=b
  unfold ib
  dsimp only
  intro h1 h2
  repeat' split at h1
  all_goals repeat' split at h2
  all_goals simp only [decide_eq_false_iff_not,Prod.mk.injEq] at*
  all_goals lia
 ·obtain ⟨a1,a2,a3⟩:=a
  obtain ⟨b1,b2,b3⟩:=b
  obtain ⟨c1,c2,c3⟩:=c
  unfold ib
  dsimp only
  intro h1 h2
  repeat' split at h1
  all_goals repeat' split at h2
  all_goals repeat' split
  all_goals simp only [decide_eq_true_eq] at*
  all_goals lia
section
variable {prog:Program} {w:World} {mg mb:Str->Option Value}
variable {A:Around} {X:List Addr} {s:Shared}
theorem Ly {d:PyData} {r:List PyData} {ls:List (List Int)} {P:Prop} (h:ia (d::r)=some ls) (k:∀xs a b,d= .list xs->intsOf xs=some a->ia r=some b->a::b=ls->P):P:=by
 cases d with
 | list xs=>exact ai h fun a ha h=>cO h fun b hb q=>k _ _ _ rfl ha hb q
 | _=>exact no h
theorem Lz {d:PyData} {r:List PyData} {ls:List (Int × Int × Int)} {P:Prop} (h:mF (d::r)=some ls) (k:∀a b,vg d=some a->mF r=some b->a::b=ls->P):P:=
 ai h fun a ha h=>cO h fun b hb q=>k _ _ ha hb q
theorem LA {d:PyData} {t:Int × Int × Int} (h:vg d=some t):d=bZ t:=by
 cases d with
 | tuple l=>
  cases l with
  | nil=>exact no h
  | cons a l=>
  cases a with
  | int a=>
   cases l with
   | nil=>exact no h
   | cons b l=>
   cases b with
   | int b=>
    cases l with
    | nil=>exact no h
    | cons c l=>
    cases c with
    | int c=>
     cases l with
     | nil=>cases h;rfl
     | cons=>exact no h
    | _=>exact no h
   | _=>exact no h
  | _=>exact no h
 | _=>exact no h
theorem sv:∀{ds:List PyData} {l:List Int},intsOf ds=some l->ds=l.map .int
 | [],_,h=>by (obtain rfl:=Option.some.inj h;clear h);rfl
 | d::r,l,h=>by
  cases d with
  | int i=>
   refine cO h fun b hb q=> ?_;subst q
   rw [sv hb];rfl
  | _=>exact no h
noncomputable def qm (L:Addr) (h:Heap):List (Addr × Obj):=(List.range h.objs.size).filterMap fun a=>if a=L then none else (h.get? a).map (a, ·)
theorem sx {L:Addr} {h:Heap} {a:Addr} {o:Obj}:(a,o)∈qm L h↔a≠L/\h.get? a=some o:=by
 unfold qm
 rw [List.mem_filterMap]
 constructor
 ·rintro ⟨b,_,e⟩
  split at e
  ·exact no e
  ·refine cO e fun o' e' q=> ?_
   cases q
   exact ⟨‹_›,e'⟩
 ·rintro ⟨n,e⟩
  exact ⟨a,List.mem_range.mpr (Heap.lt_size e),by rw [if_neg n,e];rfl⟩
noncomputable def o5:Heap:={objs:= #[]}
theorem vj (a:Addr):o5.get? a=none:=by
 cases e:o5.get? a with
 | none=>rfl
 | some o=>exact absurd (Heap.lt_size e) (by show ¬a < 0;exact Nat.not_lt_zero _)
theorem LB {L:Addr} {h:Heap}:News o5 L h (qm L h):=fun q hq=>by
 obtain ⟨a,o⟩:=q
 refine xA (sx.mp hq:) fun n e=> ?_
 exact ⟨e,n,vj _⟩
theorem DF {L:Addr} {h:Heap} {m:Str->Option Value} (hm:h.Ns L m):Fr o5 L h m:=⟨hm,fun b o e=>(by rw [vj] at e;exact no e),Nat.zero_le _⟩
noncomputable def jT (h h':Heap):Prop:=∀b o,b∉az->(∃vs n,o.data= .seq vs n)->h.get? b=some o->h'.get? b=some o
theorem aA.sq {h h':Heap} (g:aA h h'):jT h h':=fun b o n _ e=>g b o n e
theorem yD {X:List Addr} {h h':Heap}:∀{ns:List Int} {vs:List Value},ax X h vs (ns.map .int)->ax X h' vs (ns.map .int)
 | [],_,r=>by rw [r.nil_inv];exact .nil
 | n::ns,_,r=>by
  (refine aU r.cons_inv fun v ws bO a b=> ?_;subst bO)
  (refine xE a.int_inv fun t cF=> ?_;subst cF)
  exact .cons (Rep.int _ _) (yD b)
theorem LC {X:List Addr} {h h':Heap} {v:Value} {l:List Int} (g:jT h h') (r:Rep X h v (bL l)):Rep X h' v (bL l):=by
 (refine cT r.dY fun a o ws n c9 t1 m1 e1 c1 d1 r1=> ?_;subst c9)
 refine xA (r.list_dict e1:) fun q1 q2=> ?_
 exact Rep.list (g a o t1 ⟨_,_,d1⟩ e1) c1 d1 q1 q2 t1 m1 (yD r1)
theorem LD {X:List Addr} {h h':Heap} {v:Value} {t:Int × Int × Int} (g:jT h h') (r:Rep X h v (bZ t)):Rep X h' v (bZ t):=by
 (refine cT r.oD fun a o ws n dy t1 m1 e1 c1 d1 r1=> ?_;subst dy)
 exact Rep.tuple (g a o t1 ⟨_,_,d1⟩ e1) c1 d1 t1 m1 (yD (ns:=[t.1,t.2.1,t.2.2]) r1)
theorem DG {L:Addr} {m:Str->Option Value} (hm:s.heap.Ns L m) {l:Addr} {vs:List Value} {c:Nat->Nat->Bool} {p:Array Nat} {E:Value->Shared->Prop} {R:Shared->SortKind->Prop} (hl:s.heap.IsList l vs.toArray) (h2:2<=vs.length) (qo:vs.length < 64)
  (hg:Go c vs.length (kas_sort vs.length) p)
  (hk:∀(s':Shared) (Q':SortKind->Shared->Prop) (E':Value->Shared->Prop),jT s.heap s'.heap->(∀κ,R s' κ->Q' κ s')->wpAny (model prog w) A.in1.in1 (keyKind' vs.toArray) Q' E' s')
  (hc:∀(s':Shared) κ i j (C':Bool->Shared->Prop),jT s.heap s'.heap->R s' κ->i < vs.length->j < vs.length->C' (c i j) s'->wpAny (model prog w) A.in1.in1 (keyLt' κ (vs.getD i Value.none) (vs.getD j Value.none)) C' (fun _ _=>False) s'):
  wpAny (model prog w) A (call (.builtin "sorted") [.ref l]) (fun v s'=>∃D h' n,v= .ref D/\s'={s with heap:=h'}/\(∀b o,b≠L->s.heap.get? b=some o->h'.get? b=some o)/\(∀a o,s.heap.get? a=some o->a≠L->a < D)/\h'.get? D=some (listOf (List.toArray (p.toList.map fun i=>vs.getD i Value.none)) n)) E s:=by
 have gr:∀{h':Heap} {x},News o5 L h' (x::qm L s.heap)->∀b o,b≠L->s.heap.get? b=some o->h'.get? b=some o:=fun N' b o n e=>(N' (b,o) (.tail _ (sx.mpr ⟨n,e⟩))).1
 have gt:∀{h':Heap} {x},News o5 L h' (x::qm L s.heap)->jT s.heap h':=fun N' b o n ⟨dh,n',hT⟩ e=>gr N' b o (fun q=>by
  subst q
  (refine pF hm ?_;clear hm;intro o' es ep e' hd _)
  rw [e] at e';cases e'
  rw [hT] at hd;cases hd) e
 refine kat_sorted (DF hm) LB hl h2 qo fun D e1 bf au yE bg=> ?_
 refine hk _ _ _ (gt yE) fun κ hR=> ?_
 refine hg.wp (fun i j C' hi hj LF=> ?_) ?_
 ·exact hc {s with heap:=bf} κ i j C' (gt yE) hR hi hj LF
 ·refine KasFin.intro au yE (.head fun q hq=>Nat.ne_of_lt (bg q hq)) fun h' n aB DH=> ?_
  exact ⟨D,h',n,rfl,rfl,gr DH,fun a o e n=>bg (a,o) (sx.mpr ⟨n,e⟩),(DH _ (.head _)).1⟩
theorem LG {l:Addr} {vs:List Value} {c:Nat->Nat->Bool} {p:Array Nat} {E:Value->Shared->Prop} {Q:Value->Shared->Prop} {R:Shared->SortKind->Prop} (C:Ctx w.params mg mb X s.heap) (hx:aN X s.heap) (hl:s.heap.IsList l vs.toArray) (h2:2<=vs.length) (qo:vs.length < 64)
  (hg:Go c vs.length (kas_sort vs.length) p)
  (hk:∀(s':Shared) (Q':SortKind->Shared->Prop) (E':Value->Shared->Prop),jT s.heap s'.heap->(∀κ,R s' κ->Q' κ s')->wpAny (model prog w) A.in1.in1 (keyKind' vs.toArray) Q' E' s')
  (hc:∀(s':Shared) κ i j (C':Bool->Shared->Prop),jT s.heap s'.heap->R s' κ->i < vs.length->j < vs.length->C' (c i j) s'->wpAny (model prog w) A.in1.in1 (keyLt' κ (vs.getD i Value.none) (vs.getD j Value.none)) C' (fun _ _=>False) s')
  (h:∀D h' n,aA s.heap h'->Ctx w.params mg mb X h'->D∉az->D∉X->h'.get? D=some (listOf (List.toArray (p.toList.map fun i=>vs.getD i Value.none)) n)->Q (.ref D) {s with heap:=h'}):
  wpAny (model prog w) A (call (.builtin "sorted") [.ref l]) Q E s:=by
 refine aj C.nl fun m hm _=> ?_
 refine wpAny_mono (Bt (DG (E:=E) (L:=2) hm hl h2 qo hg hk hc) (DG (E:=E) (L:=mainGlobals) (C.g.keeps fc) hl h2 qo hg hk hc)) (fun v s' q=> ?_) fun _ _ q=>q.1
 obtain ⟨⟨D,h',n,rfl,rfl,g1,DI,hD⟩,D2,yF,n2,_,q2,g2,_,_⟩:=q
 have e2:h'=yF:=congrArg Shared.heap q2
 subst e2
 have nq:aA s.heap h':=fun b o nt e=>g1 b o (fun q=>nt (by rw [q];decide)) e
 have t:∀T∈az,T≠2->∃o,s.heap.get? T=some o/\h'.get? T=some o:=fun T hT n=>by
  refine aj C.t1 fun ps e1 _=> ?_
  refine aj C.t2 fun rL e2 _=> ?_
  simp only [az,List.mem_cons,List.not_mem_nil,or_false] at hT
  rcases hT with rfl | rfl | rfl
  ·exact ⟨_,e2,g1 _ _ n e2⟩
  ·exact ⟨_,e1,g1 _ _ n e1⟩
  ·exact absurd rfl n
 refine aj (t 249 (by decide) (by decide):) fun Sz SA _=> ?_
 refine aj (t 254 (by decide) (by decide):) fun LH LI _=> ?_
 have nk:D∉az:=fun hD=>by
  have b2:(254:Nat) < D:=DI 254 LH LI (by decide)
  simp only [az,List.mem_cons,List.not_mem_nil,or_false] at hD
  rcases hD with rfl | rfl | rfl
  ·exact absurd b2 (by decide)
  ·exact absurd b2 (by decide)
  ·exact absurd b2 (by decide)
 have LJ:D∉X:=fun hD=>by
  refine bV (hx D hD:) fun nt o e=> ?_
  exact absurd (DI D o e fun q=>nt (by rw [q];decide)) (Nat.lt_irrefl _)
 have tk:∀{T q},T∈az->T≠2->fy X s.heap T q->fy X h' T q:=fun {T q} hT n x=>x.keeps (jJ nq) fun o e=>by
  refine aj (t T hT n:) fun o' e1 e2=> ?_
  rw [e] at e1;cases e1;exact e2
 exact h D h' n nq (C.step (jJ nq) (tk (by decide) (by decide) C.t1) (tk (by decide) (by decide) C.t2) (g2 _ _ (by decide) C.l2)) nk LJ hD
theorem LK {l:Addr} {vs:List Value} {E:Value->Shared->Prop} {Q:Value->Shared->Prop} (hl:s.heap.IsList l vs.toArray) (h2:vs.length < 2)
  (h:Q (.ref (s.heap.objs.size+1)) {s with heap:=sortedAll s.heap vs vs.toArray}):
  wpAny (model prog w) A (call (.builtin "sorted") [.ref l]) Q E s:=by
 refine Calls.call_function_entry kind_sorted plain_sorted entry_sorted (args_sorted1 _) ?_
 unfold Builtin.«sorted»
 refine wpAny_bind (m:=checkCount "sorted" 1 1 _) (wpAny_pure ?_)
 refine wpAny_bind (collect_list hl ?_ (by rw [sizeLine_eq];exact Zb Z1 38 [_] [] h2))
 refine wpAny_bind (wpAny_newList ?_ (by rw [sizeLine_eq];exact Zb Z1 38 [_] [] h2))
 generalize hH:((s.heap.push (seqObj "list" #[] 0)).update s.heap.objs.size (Obj.mapSeq (· ++vs.toArray)))=H
 have bQ:H.objs.size=s.heap.objs.size+1:=by rw [<- hH,Heap.size_update,size_push']
 have sy:(H.push (seqObj "list" vs.toArray 0)).get? (s.heap.objs.size+1)=some (seqObj "list" vs.toArray 0):=by
  rw [<- bQ];exact Heap.get?_push_size _ rfl
 show wpAny _ _ _ _ _ {s with heap:=H.push (seqObj "list" vs.toArray 0)}
 rw [bQ]
 refine wpAny_bind (wpAny_holding (wpAny_call_entry slot_list_sort ⟨_,sy,rfl⟩ entry_list_sort ?body (args_list_sort _)))
 case body=>
  have ha:=Heap.lt_size sy
  rw [list_sort_plain]
  refine wpAny_bind (listItems_at sy rfl (wpAny_bind (listUpdate_at sy rfl ?_ (by rw [List.size_toArray,sizeLine_eq];exact Zb Z1 38 [_] [] h2) (Nat.zero_le _))))
  obtain ⟨e1,qp⟩:∃e1,((H.push (seqObj "list" vs.toArray 0)).update (s.heap.objs.size+1) (Obj.mapSeq fun _=>(#[]:Array Value))).get? (s.heap.objs.size+1)=some (seqObj "list" #[] e1):=⟨_,get?_update_seq sy fun _=> #[]⟩
  refine wpAny_bind (seqEpoch_at qp rfl (wpAny_bind (wpAny_newTuple (wpAny_bind (wpAny_newList (wpAny_holding ?_) (Nat.zero_le _))) (by show vs.length<=_;rw [sizeLine_eq];exact Zb Z1 38 [_] [] h2))))
  have hq:(((((H.push (seqObj "list" vs.toArray 0)).update (s.heap.objs.size+1) (Obj.mapSeq fun _=>(#[]:Array Value))).push (seqObj "tuple" vs.toArray 0)).push (seqObj "list" #[] 0)).get? (s.heap.objs.size+1))=some (seqObj "list" #[] e1):=by
   rw [Heap.get?_push_ne _ _ _ (by rw [size_push',Heap.size_update];exact Nat.ne_of_lt (Nat.lt_succ_of_lt ha)),Heap.get?_push_ne _ _ _ (by rw [Heap.size_update];exact Nat.ne_of_lt ha)]
   exact qp
  have hn:vs.toArray.size < 2:=by rw [List.size_toArray];exact h2
  dsimp only
  rw [if_pos hn,if_pos hn]
  refine wpAny_bind (wpAny_pure ?_)
  rw [StateT.run_pure]
  refine wpAny_bind (wpAny_pure ?_)
  dsimp only
  refine wpAny_bind (seqEpoch_at hq rfl (wpAny_bind (listUpdate_at hq rfl ?_ (Nat.zero_le _) (by rw [Array.size_map];show (pairsOf vs).size<=_;rw [pairsOf_size,sizeLine_eq];exact Zb cJ 25 [_] [] h2))))
  simp only [bne_self_eq_false,Bool.false_eq_true,if_false]
  refine wpAny_pure ⟨_,rfl,wpAny_pure ⟨_,rfl, ?_⟩⟩
  have e:(arrOf (SortSt.mk' general' (vs.toArray.zip vs.toArray) #[] 7 none)).map (·.2)=vs.toArray:=by
   show (vs.toArray.zip vs.toArray).map Prod.snd=_
   apply Array.toList_inj.mp
   rw [Array.toList_map,Array.toList_zip,List.map_snd_zip (by simp)]
  unfold sortedAll sortedHeap at h
  rw [hH] at h
  rw [e]
  exact h
end
section
variable {prog:Program} {w:World} {mg mb:Str->Option Value}
variable {A:Around} {X:List Addr} {s:Shared}
theorem DJ {α:Type} {lt:α->α->Bool} (T:ot lt) {ls:List α} (d0:α) (enc:α->PyData) {xs:List PyData} {l:Value} {E:Value->Shared->Prop} {R:Shared->SortKind->Prop} (C:Ctx w.params mg mb X s.heap) (hx:aN X s.heap) (hl:Rep X s.heap l (.list xs)) (eM:xs=ls.map enc) (qo:ls.length < 64) (hn:ls.Nodup) (hS:∀{h h':Heap} {v:Value} {a:α},jT h h'->Rep X h v (enc a)->Rep X h' v (enc a))
  (hk:∀(vs:List Value) (s':Shared) (Q':SortKind->Shared->Prop) (E':Value->Shared->Prop),2<=vs.length->ax X s'.heap vs xs->Ctx w.params mg mb X s'.heap\/True->(∀κ,R s' κ->Q' κ s')->wpAny (model prog w) A.in1.in1 (keyKind' vs.toArray) Q' E' s')
  (hc:∀(s':Shared) κ (u v:Value) (a b:α) (C':Bool->Shared->Prop),R s' κ->Rep X s'.heap u (enc a)->Rep X s'.heap v (enc b)->C' (lt a b) s'->wpAny (model prog w) A.in1.in1 (keyLt' κ u v) C' (fun _ _=>False) s'):
  wpAny (model prog w) A (call (.builtin "sorted") [l]) (fun v s'=>Kp w.params mg mb X s s'/\Rep X s'.heap v (.list ((gF lt ls).map enc))) E s:=by
 (refine cT hl.dY fun a o ws n ay t1 m1 e1 c1 d1 r1=> ?_;subst ay)
 have hlen:=r1.length
 rw [eM,List.length_map] at hlen
 have DK:s.heap.IsList a ws.toList.toArray:=by rw [Array.toArray_toList];exact ⟨o,e1,c1,n,d1⟩
 by_cases h2:2<=ws.toList.length
 ·refine ey (H3 T ls d0 hn (by exact Zb cy 12 [_,_] [] h2 hlen):) fun p hg hp LL=> ?_
  rw [<- hlen] at hg
  have at_:∀i,i < ws.toList.length->∀h',jT s.heap h'->Rep X h' (ws.toList.getD i Value.none) (enc (ls.getD i d0)):=fun i hi h' g=>by
   have lq:i < ls.length:=by exact Zb Z1 28 [_,_,_] [] hi hlen
   refine aj (r1.get (i:=i) (d:=enc (ls.getD i d0)) (by
    rw [eM,List.getElem?_map,List.getElem?_eq_getElem lq,List.getD_eq_getElem?_getD,List.getElem?_eq_getElem lq];rfl):) fun v hv rv=> ?_
   rw [List.getD_eq_getElem?_getD,hv]
   exact hS g rv
  have LM:∀(vs:List Value) (ls:List α),ax X s.heap vs (ls.map enc)->∀h',jT s.heap h'->ax X h' vs (ls.map enc):=by
   intro vs ls
   induction ls generalizing vs with
   | nil=>intro r h' g;rw [r.nil_inv];exact .nil
   | cons a ls ih=>
    intro r h' g
    (refine aU r.cons_inv fun v ws aF q1 q2=> ?_;subst aF)
    exact .cons (hS g q1) (ih ws q2 h' g)
  refine LG (R:=fun s' κ=>jT s.heap s'.heap/\R s' κ) C hx DK h2 (by exact Zb cy 13 [_,_] [] qo hlen) hg (fun s' Q' E' g hQ=> ?_) (fun s' κ i j C' g hR hi hj hC=> ?_) fun D h' n g C' ht hX hD=> ?_
  ·exact hk ws.toList s' Q' E' h2 (eM▸LM ws.toList ls (eM▸r1) _ g) (.inr trivial) fun κ hR=>hQ κ ⟨g,hR⟩
  ·exact hc s' κ _ _ _ _ C' hR.2 (at_ i hi _ g) (at_ j hj _ g) hC
  ·refine ⟨⟨h',s.toks,rfl,g,C'⟩,Rep.list hD rfl rfl rfl rfl ht hX ?_⟩
   show ax X h' (p.toList.map fun i=>ws.toList.getD i Value.none) _
   rw [<- LL]
   have:∀q:List Nat,(∀i∈q,i < ws.toList.length)->ax X h' (q.map fun i=>ws.toList.getD i Value.none) ((q.map fun i=>ls.getD i d0).map enc):=by
    intro q
    induction q with
    | nil=>intro _;exact .nil
    | cons i q ih=>
     intro hq
     exact .cons (at_ i (hq i (.head _)) h' g.sq) (ih fun j hj=>hq j (.tail _ hj))
   exact this _ fun i hi=>by
    have:=List.mem_range.mp (hp.mem_iff.mp hi)
    exact Zb Z1 11 [_,_,_] [] this hlen
 ·refine LK DK (by exact Zb cy 14 [_] [] h2) ?_
  have keep:∀b o,s.heap.get? b=some o->(sortedAll s.heap ws.toList ws.toList.toArray).get? b=some o:=fun _ _=>sortedAll_old
  refine xE (sortedAll_at s.heap ws.toList ws.toList.toArray:) fun e he=> ?_
  have dZ:s.heap.get? (s.heap.objs.size+1)=none:=r6 (Nat.le_succ _)
  have nH:gF lt ls=ls:=by
   match ls,hlen,h2 with
   | [],_,_=>rfl
   | [x],_,_=>rfl
   | x::y::r,hl,h2=>rw [List.length_cons,List.length_cons] at hl;lia
  rw [nH, <- eM]
  refine ⟨⟨_,s.toks,rfl,aA.of keep,C.keeps keep⟩,Rep.list he rfl rfl rfl rfl (fun hD=> ?_) (fun hD=> ?_) ?_⟩
  ·have:=pX C _ hD
   exact absurd this (by show ¬s.heap.objs.size+1 < s.heap.objs.size;exact Zb cy 15 [_] [])
  ·refine bV (hx _ hD:) fun _ o q=> ?_
   rw [dZ] at q;exact no q
  ·show ax X _ ws.toList xs
   exact r1.grow (aA.of keep)
theorem vm:∀{xs:List PyData} {ls:List (List Int)},ia xs=some ls->xs=ls.map bL
 | [],_,h=>by (obtain rfl:=Option.some.inj h;clear h);rfl
 | d::r,ls,h=>by
  refine Ly h fun xs a b h1 ha hb h2=> ?_;subst h1;subst h2
  rw [vm hb,sv ha];rfl
theorem yG:∀{xs:List PyData} {ls:List (Int × Int × Int)},mF xs=some ls->xs=ls.map bZ
 | [],_,h=>by (obtain rfl:=Option.some.inj h;clear h);rfl
 | d::r,ls,h=>by
  refine Lz h fun a b ha hb h2=> ?_;subst h2
  rw [yG hb,LA ha];rfl
theorem jU:∀{l:List Int},intsOf (l.map .int)=some l
 | []=>rfl
 | a::r=>by
  show (intsOf (r.map .int)).map (a:: ·)=_
  rw [jU];rfl
theorem LN {vs:List Value} {ds:List PyData} {d:PyData} {E:Value->Shared->Prop} (hu:A.units+66 < cLine) (C:Ctx w.params mg mb X s.heap) (hx:aN X s.heap) (r:ax X s.heap vs ds) (h:nG ds=some d):
  wpAny (model prog w) A (call (.builtin "sorted") vs) (fun v s'=>Kp w.params mg mb X s s'/\Rep X s'.heap v d) E s:=by
 refine ai h fun xs eM h=> ?_
 refine ai eM fun dx h1 h2=> ?_
 cases fP h1;cases gd h2;clear h1 h2 eM
 (refine aU r.cons_inv fun v us bK q1 q2=> ?_;subst bK)
 rw [q2.nil_inv]
 rcases lC h with ⟨ls,nH,h⟩ | ⟨_,h⟩
 ·refine aO h fun hh h=> ?_
  (obtain rfl:=Option.some.inj h;clear h)
  refine DJ gU [] bL (R:=fun s' κ=>κ=oneType') C hx q1 (vm nH) hh.1 hh.2 LC (fun vs s' Q' E' h2 rv _ hQ=> ?_) fun s' κ u v a b C' hR ru rv hC=> ?_
  ·refine kas_kind h2 (T:= .type "list") (fun v hv=> ?_) rfl rfl (hQ _ rfl)
   obtain ⟨i,hi,e⟩:=List.mem_iff_getElem.mp hv
   refine aj (rv.get' (i:=i) (v:=v) (by rw [List.getElem?_eq_getElem hi,e]):) fun d hd rd=> ?_
   rw [vm nH,List.getElem?_map] at hd
   (refine cO hd fun l _ bO=> ?_;subst bO)
   (refine cT rd.dY fun a o ws n cF t1 m1 e1 c1 d1 r1=> ?_;subst cF)
   exact show Looks _ _ _ (Value.type "list") from c1▸(Looks.ld e1).andThen .now
  ·subst hR
   (refine cT ru.dY fun x ox vx nx c9 t1 m1 e1 c1 d1 r1=> ?_;subst c9)
   (refine cT rv.dY fun y oy vy ny dy t2 m2 e2 c2 d2 r2=> ?_;subst dy)
   have i1:=oI r1 jU
   have i2:=oI r2 jU
   obtain ⟨cls,dd,data,sl⟩:=ox
   obtain ⟨BR,lE,data2,lF⟩:=oy
   simp only at c1 d1 c2 d2
   subst c1 d1 c2 d2
   rw [keyLt'_oneType,oneLt'_eq]
   simp only [if_true]
   have me:A.in1.in1.units < cLine:=by show A.units+1+1 < _;exact Zb cy 16 [_,_] [] hu
   refine wpAny_bind (wpAny_cRoomFor me (wpAny_bind (wpAny_callSpecialIfBound?_slot ⟨_,e1,rfl⟩ PySem.F.slot_list_lt (call_meets PySem.F.slot_list_lt ⟨_,e1,rfl⟩ PySem.F.entry_list_lt (PySem.F.args_list_lt_2 _ _) (BW x y vx vy nx ny dd lE sl lF a b i1 i2) ⟨e1,e2, ?_⟩))))
   exact wpAny_truthy_bool hC
 ·refine ai h fun ts DM h=> ?_
  refine aO h fun hh h=> ?_
  (obtain rfl:=Option.some.inj h;clear h)
  refine DJ ql (0,0,0) bZ (R:=fun s' κ=>κ=tuples' true) C hx q1 (yG DM) hh.1 hh.2 LD (fun vs s' Q' E' h2 rv _ hQ=> ?_) fun s' κ u v a b C' hR ru rv hC=> ?_
  ·rw [yG DM] at rv
   have kt:∀(vs:List Value) (ts:List (Int × Int × Int)),ax X s'.heap vs (ts.map bZ)->∃fs,KatTups s'.heap vs fs/\fs.length=vs.length/\∀f∈fs,∃i t,f=Value.int i t:=by
    intro vs ts
    induction ts generalizing vs with
    | nil=>intro rv;rw [rv.nil_inv];exact ⟨[],trivial,rfl,fun _ m=>nomatch m⟩
    | cons t ts ih=>
     intro rv
     (refine aU rv.cons_inv fun v us dz q1 q2=> ?_;subst dz)
     refine ey (ih us q2:) fun fs f1 f2 f3=> ?_
     (refine cT q1.oD fun a o ws n fu t1 m1 e1 c1 d1 r1=> ?_;subst fu)
     refine aU r1.cons_inv fun x SD eM rx _=> ?_
     (refine xE rx.int_inv fun tk fw=> ?_;subst fw)
     have h0:ws[0]? =some (.int t.1 tk):=by rw [<- Array.getElem?_toList,eM];rfl
     exact ⟨_::fs,KatTups.cons e1 c1 d1 h0 f1,by simp [f2],fun f hf=>by
      rcases List.mem_cons.mp hf with q | q
      ·exact ⟨_,_,q⟩
      ·exact f3 f q⟩
   refine ey (kt vs ts rv:) fun fs f1 f2 f3=> ?_
   refine kat_kind f1 (by exact Zb cy 17 [_,_] [] h2 f2) (T:= .type "int") (fun f hf=> ?_) rfl (hQ _ rfl)
   (refine cN (f3 f hf:) fun i t fx=> ?_;subst fx)
   exact Looks.of_pure rfl
  ·subst hR
   (refine cT ru.oD fun x ox vx nx gG t1 m1 e1 c1 d1 r1=> ?_;subst gG)
   (refine cT rv.oD fun y oy vy ny ki t2 m2 e2 c2 d2 r2=> ?_;subst ki)
   obtain ⟨a1,a2,a3⟩:=a
   obtain ⟨b1,b2,b3⟩:=b
   refine aU r1.cons_inv fun u1 SE sA p1 r1=> ?_
   obtain ⟨u2,JF,rfl,p2,r1⟩:=r1.cons_inv
   obtain ⟨u3,JH,rfl,p3,r1⟩:=r1.cons_inv
   refine aU r2.cons_inv fun v1 SF yH p4 r2=> ?_
   obtain ⟨v2,SG,rfl,p5,r2⟩:=r2.cons_inv
   obtain ⟨v3,SH,rfl,p6,r2⟩:=r2.cons_inv
   rw [r1.nil_inv] at sA
   rw [r2.nil_inv] at yH
   (refine xE p1.int_inv fun k1 mh=> ?_;subst mh)
   (refine xE p2.int_inv fun k2 ml=> ?_;subst ml)
   (refine xE p3.int_inv fun k3 rN=> ?_;subst rN)
   (refine xE p4.int_inv fun k4 rO=> ?_;subst rO)
   (refine xE p5.int_inv fun k5 rP=> ?_;subst rP)
   (refine xE p6.int_inv fun k6 oL=> ?_;subst oL)
   refine kat_lt e1 d1 e2 d2 ?_
   rw [sA,yH]
   have hC:C' (if a1=b1 then (if a2=b2 then decide (a3 < b3) else decide (a2 < b2)) else decide (a1 < b1)) s':=hC
   show KatLex prog w A.in1.in1 true _ C' [(.int a1 k1, .int b1 k4),(.int a2 k2, .int b2 k5),(.int a3 k3, .int b3 k6)] 0 s'
   have one:∀(a b:Int) (k k':Tok),C' (decide (a < b)) s'->wpAny (model prog w) A.in1.in1 (oneLt' false (.int a k) (.int b k')) C' (fun _ _=>False) s':=fun a b k k' h=>kat_one _ _ (P.lt_int h)
   refine kat_cons (wpAny_eqBool_int ?_)
   by_cases q:a1=b1
   ·subst q
    rw [if_pos rfl] at hC
    rw [show (a1==a1)=true by simp]
    refine kat_yes (kat_cons (wpAny_eqBool_int ?_))
    by_cases q:a2=b2
    ·subst q
     rw [if_pos rfl] at hC
     rw [show (a2==a2)=true by simp]
     refine kat_yes (kat_cons (wpAny_eqBool_int ?_))
     by_cases q:a3=b3
     ·subst q
      rw [show (a3==a3)=true by simp]
      refine kat_yes (kat_nil ?_)
      have:vx.size=vy.size:=by rw [<- Array.length_toList, <- Array.length_toList,sA,yH];rfl
      rw [this]
      simpa using hC
     ·rw [show (a3==b3)=false by simpa using q]
      exact kat_no (one _ _ _ _ hC)
    ·rw [if_neg q] at hC
     rw [show (a2==b2)=false by simpa using q]
     exact kat_no (one _ _ _ _ hC)
   ·rw [if_neg q] at hC
    rw [show (a1==b1)=false by simpa using q]
    exact kat_no (oneLt_int hC)
end
noncomputable def cV.add (Φ:cV) (x:Str) (f:List PyData->Option PyData):cV:={Φ with fn:=fun y ds=>if y=x then f ds else Φ.fn y ds}
noncomputable def kG (prog:Program) (w:World) (mg mb:Str->Option Value) (A:Around) (v:Value) (f:List PyData->Option PyData):Prop:=
 ∀X (s:Shared) vs ds d (E:Value->Shared->Prop),aN X s.heap->Ctx w.params mg mb X s.heap->ax X s.heap vs ds->f ds=some d->wpAny (model prog w) A (call v vs) (fun r s'=>Kp w.params mg mb X s s'/\Rep X s'.heap r d) E s
section
variable {prog:Program} {w:World} {mg mb:Str->Option Value}
variable {A:Around} {lm:Bool} {m:Nat} {Φ:cV}
theorem fJ.add (F:fJ prog w mg mb A lm m Φ) {x:Str} {f:List PyData->Option PyData} {v:Value} (hg:∀X h,Ctx w.params mg mb X h->jo mg mb x v) (hd:(x==("__debug__":Str))=false) (hk:∀X h,Ctx w.params mg mb X h->gM v h) (hc:kG prog w mg mb A v f):fJ prog w mg mb A lm m (Φ.add x f):=
 ⟨F.gl,fun y ds d e=>by
  have e:(if y=x then f ds else Φ.fn y ds)=some d:=e
  by_cases q:y=x
  ·subst q
   rw [if_pos rfl] at e
   exact ⟨v,hg,hd,hk,fun X s vs E hx C r=>hc X s vs ds d E hx C r e⟩
  ·rw [if_neg q] at e
   exact F.fn y ds d e,F.fk⟩
noncomputable def yI:Str->Option PyData:=fun x=>if x="ENDMARKER" then some (.int 0) else if x="NT_OFFSET" then some (.int 256) else if x="ELLIPSIS_MARKER" then some (.str "...") else none
noncomputable def yJ:cV:=⟨yI,fun _ _=>none,fun _ _ _=>none⟩
theorem DN:fJ prog w mg mb A lm m yJ:=by
 refine ⟨fun x d e=> ?_,fun _ _ _ e=>(nomatch e),fun _ _ _ _ e=>(nomatch e)⟩
 have e:yI x=some d:=e
 unfold yI at e
 split at e
 ·subst x;(obtain rfl:=Option.some.inj e;clear e)
  exact ⟨by decide,fun X h C=>⟨_,fI C rfl,fun _ _=> .int _ _⟩⟩
 ·split at e
  ·subst x;(obtain rfl:=Option.some.inj e;clear e)
   exact ⟨by decide,fun X h C=>⟨_,fI C rfl,fun _ _=> .int _ _⟩⟩
  ·split at e
   ·subst x;(obtain rfl:=Option.some.inj e;clear e)
    exact ⟨by decide,fun X h C=>⟨_,fI C rfl,fun _ _=> .str _ _⟩⟩
   ·exact no e
noncomputable def dR:cV:=(((yJ.add "len" nF).add "sum" sumF).add "min" su).add "sorted" nG
theorem nI (hh:A.handled=none) (hu:A.units+66 < cLine):fJ prog w mg mb A lm m dR:=
 (((DN.add (fun _ _ C=>kz C rfl (by decide) rfl) (by decide) (fun _ _ _=> .inl ⟨_,rfl⟩) (fun X s vs ds d E hx C r e=>Lp C r e)).add
  (fun _ _ C=>kz C rfl (by decide) rfl) (by decide) (fun _ _ _=> .inl ⟨_,rfl⟩) (fun X s vs ds d E hx C r e=>Ls hh C r e)).add
  (fun _ _ C=>kz C rfl (by decide) rfl) (by decide) (fun _ _ _=> .inl ⟨_,rfl⟩) (fun X s vs ds d E hx C r e=>Lu hh C r e)).add
  (fun _ _ C=>kz C rfl (by decide) rfl) (by decide) (fun _ _ _=> .inl ⟨_,rfl⟩) (fun X s vs ds d E hx C r e=>LN hu C hx r e)
end
noncomputable def bj (P:Params) (a:Addr) (dflt:FuncData):FuncData:=
 match (KI P).lookup a with
 | some o=>(match o.data with | .func fd=>fd | _=>dflt)
 | none=>dflt
noncomputable def bk:FuncData:={name:="",qualname:="",params:=⟨[],[],none,[],[],none,[]⟩,body:= .stmts [],scope:={kind:= .function,names:=[],isGenerator:=false,isCoroutine:=false},globals:=0,closure:=[],defaults:= .none,kwdefaults:= .none,doc:= .none,pyModule:= .none,annotations:=none,code:= .none,closureTuple:= .none,builtins:=0}
noncomputable def bU (P:Params) (a:Addr):List Stmt:=match (bj P a bk).body with | .stmts b=>b | _=>[]
noncomputable def c0:Cf:=⟨fun _=>false,fun _ _ _=>none⟩
section
variable {prog:Program} {w:World} {mg mb:Str->Option Value}
variable {A:Around} {lm:Bool} {m mj:Nat} {Φ:cV} {J:aK} {c:Cf} {X:List Addr} {s:Shared} {a:Addr} {fd:FuncData} {names:List Str} {body:List Stmt}
structure Under (prog:Program) (w:World) (mg mb:Str->Option Value) (lm:Bool) (m mj:Nat) (Φ:cV) (J:aK):Prop where
 fns:∀A,Lv m A->fJ prog w mg mb A lm mj Φ
 lam:∀A,Lv mj A->br prog w mg mb A false J
theorem Under.run (U:Under prog w mg mb lm m mj Φ J) (hA:Lv m A) (H:fV prog w mg mb A c) {k n:Nat} {cd:Option (Addr × Addr)} {fr af:List Addr} {ae s:Shared} {env:Env} {sc:Scope} {own:List (Str × Addr)} {st ag:St} {d:PyData} {E:Value->Shared->Prop} (O:aX cd fr af env sc) (F:FS w.params mg mb lm cd af fr ae env sc own st s)
  (h:bc (ah Φ J (k+1)) c n sc st body=some (.ret d,ag)):
  wpAny (model prog w) A (execs body env) (fun f s'=>(∃cd own ag,FS w.params mg mb lm cd af fr ae env sc own ag s')/\∃v,f= .ret v/\Rep af s'.heap v d) E s:=
 wpAny_mono (sk hA.ok U.lam (U.fns A hA) H n O F h) (fun f ab q=>by
  (refine tW q ?_;clear q;intro au _ v ay rv;subst ay)
  exact ⟨⟨_,_,_,au⟩,v,rfl,rv.more fun _ h=>List.mem_append_right _ h⟩) fun _ _ q=>q
theorem call_plain (D:hZ w.params a fd names body) (U:Under prog w mg mb lm m mj Φ J) (hA:Lv (m+1) A) (H:∀A,fV prog w mg mb A c) {k n:Nat} {vs:List Value} {ds:List PyData} {d:PyData} {ag:St} {E:Value->Shared->Prop} (hx:aN X s.heap) (C:Ctx w.params mg mb X s.heap) (r:eP X s.heap (names.zip vs) (names.zip ds))
  (sr:bindArgs fd ⟨vs,[]⟩=pure (names.zip vs)) (iD:lm=true->∀n,ng (callEnvC fd n a)) (h:bc (ah Φ J (k+1)) c n fd.scope (mC names ds) body=some (.ret d,ag)):
  wpAny (model prog w) A (call (.ref a) vs) (fun v s'=>Kp w.params mg mb X s s'/\Rep X s'.heap v d) E s:=
 vd D hA.room hx C r sr (fun q=>iD q _) fun env fr ab E' O F=>U.run (hA.deeper env) (H _) O F h
theorem yK {x:Str} {px lp pos:Pos} (D:hZ w.params a fd names (.Assign [.Name x px] (.List [] lp) pos::body)) (U:Under prog w mg mb lm m mj Φ J) (hA:Lv (m+1) A) (H:∀A,fV prog w mg mb A c) {k n:Nat} {vs:List Value} {ds:List PyData} {d:PyData} {ag:St} {E:Value->Shared->Prop} (hx:aN X s.heap) (C:Ctx w.params mg mb X s.heap) (r:eP X s.heap (names.zip vs) (names.zip ds))
  (sr:bindArgs fd ⟨vs,[]⟩=pure (names.zip vs)) (iD:lm=true->∀n,ng (callEnvC fd n a)) (eO:dD fd.scope x=true) (hk:x≠cY) (h:bc (ah Φ J (k+1)) c n fd.scope ((mC names ds).ju x []) body=some (.ret d,ag)):
  wpAny (model prog w) A (call (.ref a) vs) (fun v s'=>Kp w.params mg mb X s s'/\Rep X s'.heap v d) E s:=
 vd D hA.room hx C r sr (fun q=>iD q _) fun env fr ab E' O F=>wpAny_execs_cons (ve F O eO rfl hk fun o aq aB=>U.run (hA.deeper env) (H _) O aB h)
theorem H0:∀A,fV prog w mg mb A c0:=fun A=>fV.no fun _ _ _=>rfl
theorem mG {f:List PyData->Option PyData} (h:∀(X:List Addr) (s:Shared) vs ds d (E:Value->Shared->Prop),aN X s.heap->Ctx w.params mg mb X s.heap->vs.length=ds.length->eP X s.heap (names.zip vs) (names.zip ds)->f ds=some d->wpAny (model prog w) A (call (.ref a) vs) (fun r s'=>Kp w.params mg mb X s s'/\Rep X s'.heap r d) E s):kG prog w mg mb A (.ref a) f:=
 fun X s vs ds d E hx C r e=>h X s vs ds d E hx C r.length (eP.zip names r) e
theorem kH (D:hZ w.params a fd names body):∀X h,Ctx w.params mg mb X h->gM (.ref a) h:=fun X h C=>by
 refine aj D.obj fun o ho hd=> ?_
 exact .inr (.inr ⟨a,o,fd,rfl,D.tab,(dI (C.dX _ _ ho)).1,hd⟩)
end
theorem yL (P:Params):hZ P 93 (bj P 93 bk) ["x"] (bU P 93):=
 ⟨⟨_,rfl,rfl⟩,by decide,rfl,rfl,rfl,rfl,rfl,rfl,rfl,⟨_,_,_,_,rfl,rfl,rfl,rfl⟩,fun x hx=>by rw [List.mem_singleton.mp hx];exact .inl rfl,rfl⟩
theorem DO (P:Params):hZ P 86 (bj P 86 bk) ["x"] (bU P 86):=
 ⟨⟨_,rfl,rfl⟩,by decide,rfl,rfl,rfl,rfl,rfl,rfl,rfl,⟨_,_,_,_,rfl,rfl,rfl,rfl⟩,fun x hx=>by rw [List.mem_singleton.mp hx];exact .inl rfl,rfl⟩
theorem DP (P:Params):hZ P 79 (bj P 79 bk) ["x"] (bU P 79):=
 ⟨⟨_,rfl,rfl⟩,by decide,rfl,rfl,rfl,rfl,rfl,rfl,rfl,⟨_,_,_,_,rfl,rfl,rfl,rfl⟩,fun x hx=>by rw [List.mem_singleton.mp hx];exact .inl rfl,rfl⟩
noncomputable def yM (ds:List PyData):Option PyData:=((one ds).bind gI).map fun i=> .bool (i==0)
noncomputable def yN (ds:List PyData):Option PyData:=((one ds).bind gI).map fun i=> .bool (decide (i>=256))
noncomputable def tF (ds:List PyData):Option PyData:=((one ds).bind gI).map fun i=> .bool (decide (i < 256))
theorem yO {ds:List PyData} {f:Int->PyData} {d:PyData} (h:((one ds).bind gI).map f=some d):∃i,ds=[.int i]/\d=f i:=by
 refine cO h fun i h e=> ?_
 refine ai h fun d' h1 h2=> ?_
 obtain rfl:=fP h1
 exact ⟨i,by rw [gH h2],e.symm⟩
section
variable {prog:Program} {w:World} {mg mb:Str->Option Value} {A:Around}
theorem yP {m mj:Nat} {lm:Bool}:Under prog w mg mb lm m mj yJ eX:=⟨fun _ _=>DN,gR⟩
theorem DQ (hA:Lv 1 A):kG prog w mg mb A (.ref 93) yM:=mG (names:=["x"]) fun X s vs ds d E hx C hl r e=>by
 (refine aj (yO e:) fun i aF aP=> ?_;subst aF;subst aP)
 (refine xE (rG hl rfl:) fun v bI=> ?_;subst bI)
 exact call_plain (yL w.params) (yP (lm:=false) (m:=0) (mj:=0)) hA H0 (k:=3) (n:=3) (ds:=[_]) hx C r (by kernel_rfl) (fun q=>nomatch q) rfl
theorem LO (hA:Lv 1 A):kG prog w mg mb A (.ref 86) yN:=mG (names:=["x"]) fun X s vs ds d E hx C hl r e=>by
 (refine aj (yO e:) fun i bK bO=> ?_;subst bK;subst bO)
 (refine xE (rG hl rfl:) fun v cF=> ?_;subst cF)
 exact call_plain (DO w.params) (yP (lm:=false) (m:=0) (mj:=0)) hA H0 (k:=3) (n:=3) (ds:=[_]) hx C r (by kernel_rfl) (fun q=>nomatch q) rfl
theorem LP (hA:Lv 1 A):kG prog w mg mb A (.ref 79) tF:=mG (names:=["x"]) fun X s vs ds d E hx C hl r e=>by
 (refine aj (yO e:) fun i c9 dy=> ?_;subst c9;subst dy)
 (refine xE (rG hl rfl:) fun v dz=> ?_;subst dz)
 exact call_plain (DP w.params) (yP (lm:=false) (m:=0) (mj:=0)) hA H0 (k:=3) (n:=3) (ds:=[_]) hx C r (by kernel_rfl) (fun q=>nomatch q) rfl
end
end cb
namespace cb
open PySem PySem.W PySem.Calls PyProof.Rows PySem.Spec
noncomputable abbrev VL:=List (Str × PyData)
noncomputable abbrev OL:=List (Str × List PyData)
section
variable {Φ:cV} {J:aK} {n:Nat} {sc:Scope} {ρ:bh}
theorem aC {i:Int} {k p}:(ah Φ J (n+1)).e sc ρ (.Constant (.int i) k p)=some (.int i):=rfl
theorem iF {i:Bool} {k p}:(ah Φ J (n+1)).e sc ρ (.Constant (.bool i) k p)=some (.bool i):=rfl
theorem sC {k p}:(ah Φ J (n+1)).e sc ρ (.Constant .none k p)=some .none:=rfl
theorem jv {i:Str} {k p}:(ah Φ J (n+1)).e sc ρ (.Constant (.str i) k p)=some (.str i):=rfl
theorem aa {x p d d'} (h:ρ x=some d) (h2:noDict d=some d'):(ah Φ J (n+1)).e sc ρ (.Name x p)=some d':=by
 show oM (ρ x) noDict _=_
 rw [h];exact h2
theorem DR {x p d} (h:ρ x=none) (hg:dP sc x=true) (h2:Φ.gl x=some d):(ah Φ J (n+1)).e sc ρ (.Name x p)=some d:=by
 show oM (ρ x) noDict (if dP sc x=true then Φ.gl x else none)=_
 rw [h];exact (if_pos hg).trans h2
theorem aY {l r p a b d} (h1:(ah Φ J n).e sc ρ l=some a) (h2:(ah Φ J n).e sc ρ r=some b) (h3:gJ .Add a b=some d):(ah Φ J (n+1)).e sc ρ (.BinOp l .Add r p)=some d:=by
 show ((ah Φ J n).e sc ρ l).bind _=_
 rw [h1,Option.bind_some,h2];exact h3
theorem cP {l r p a b d} (h1:(ah Φ J n).e sc ρ l=some a) (h2:(ah Φ J n).e sc ρ r=some b) (h3:gJ .Sub a b=some d):(ah Φ J (n+1)).e sc ρ (.BinOp l .Sub r p)=some d:=by
 show ((ah Φ J n).e sc ρ l).bind _=_
 rw [h1,Option.bind_some,h2];exact h3
theorem o6 {l r p a b d} (h1:(ah Φ J n).e sc ρ l=some a) (h2:(ah Φ J n).e sc ρ r=some b) (h3:gJ .Mod a b=some d):(ah Φ J (n+1)).e sc ρ (.BinOp l .Mod r p)=some d:=by
 show ((ah Φ J n).e sc ρ l).bind _=_
 rw [h1,Option.bind_some,h2];exact h3
theorem sD {l r p a b d} (h1:(ah Φ J n).e sc ρ l=some a) (h2:(ah Φ J n).e sc ρ r=some b) (h3:gJ .FloorDiv a b=some d):(ah Φ J (n+1)).e sc ρ (.BinOp l .FloorDiv r p)=some d:=by
 show ((ah Φ J n).e sc ρ l).bind _=_
 rw [h1,Option.bind_some,h2];exact h3
theorem LQ {a p q k r d} (h1:(ah Φ J n).e sc ρ a=some d):(ah Φ J (n+1)).e sc ρ (.BinOp (.List [a] p) .Mult (.Constant (.int 3) k q) r)=some (.list [d,d,d]):=by
 show (if (3:Int)=3 then ((ah Φ J n).e sc ρ a).map _ else none)=_
 rw [if_pos rfl,h1];rfl
theorem DS {r p q k b} (h2:(ah Φ J (n+1)).e sc ρ r=some (.int b)):(ah Φ J (n+2)).e sc ρ (.BinOp (.Constant (.int 2) k q) .Mult r p)=some (.int (2*b)):=by
 show (some (PyData.int 2)).bind (fun a=>((ah Φ J (n+1)).e sc ρ r).bind fun b=>gJ .Mult a b)=_
 rw [h2];rfl
theorem yQ {x p i} (h1:(ah Φ J n).e sc ρ x=some (.int i)):(ah Φ J (n+1)).e sc ρ (.UnaryOp .USub x p)=some (.int (-i)):=by
 show ((ah Φ J n).e sc ρ x).bind _=_
 rw [h1];rfl
theorem sE {t b o p c d} (h1:(ah Φ J n).t sc ρ t=some c) (h2:(if c then (ah Φ J n).e sc ρ b else (ah Φ J n).e sc ρ o)=some d):(ah Φ J (n+1)).e sc ρ (.IfExp t b o p)=some d:=by
 show ((ah Φ J n).t sc ρ t).bind _=_
 rw [h1];exact h2
theorem LR {t b o p d} (h1:(ah Φ J n).t sc ρ t=some true) (h2:(ah Φ J n).e sc ρ b=some d):(ah Φ J (n+1)).e sc ρ (.IfExp t b o p)=some d:=sE h1 h2
theorem LS {t b o p d} (h1:(ah Φ J n).t sc ρ t=some false) (h2:(ah Φ J n).e sc ρ o=some d):(ah Φ J (n+1)).e sc ρ (.IfExp t b o p)=some d:=sE h1 h2
theorem LU {a b p d} (h1:(ah Φ J n).e sc ρ a=some (.bool true)) (h2:(ah Φ J n).e sc ρ b=some d):(ah Φ J (n+1)).e sc ρ (.BoolOp .And [a,b] p)=some d:=by
 show ((ah Φ J n).e sc ρ a).bind _=_
 rw [h1];exact h2
theorem LV {a b p} (h1:(ah Φ J n).e sc ρ a=some (.bool false)):(ah Φ J (n+1)).e sc ρ (.BoolOp .And [a,b] p)=some (.bool false):=by
 show ((ah Φ J n).e sc ρ a).bind _=_
 rw [h1];rfl
theorem nJ {l op r p a b c} (hm:behindInMarks op r=false) (h1:(ah Φ J n).e sc ρ l=some a) (h2:(ah Φ J n).e sc ρ r=some b) (h3:cg op a b=some c):(ah Φ J (n+1)).e sc ρ (.Compare l [op] [r] p)=some (.bool c):=by
 show (if behindInMarks op r=true then none else ((ah Φ J n).e sc ρ l).bind _)=_
 rw [hm,if_neg (by simp),h1,Option.bind_some,h2,Option.bind_some,h3];rfl
noncomputable def yR:Expr->Bool
 | .Slice .. =>true
 | _=>false
theorem DT {v i p d k r} (hs:yR i=false) (h1:(ah Φ J n).e sc ρ v=some d) (hw:∀x ds,isName v=some x->ρ x≠some (iy ds)) (h2:(ah Φ J n).e sc ρ i=some k) (h3:iz d k=some r):(ah Φ J (n+1)).e sc ρ (.Subscript v i p)=some r:=by
 have iE:oG i=none:=by cases i<;>first | rfl | cases hs
 show oM (oG i) _ (oM (((isName v).bind ρ).bind jM) _ _)=_
 rw [iE]
 show oM (((isName v).bind ρ).bind jM) _ _=_
 have hn:((isName v).bind ρ).bind jM=none:=by
  cases e:((isName v).bind ρ).bind jM with
  | none=>rfl
  | some ds=>
   refine ai e fun d' e q=> ?_
   refine ai e fun x hx e=> ?_
   obtain rfl:=uA q
   exact absurd e (hw x ds hx)
 rw [hn]
 show ((ah Φ J n).e sc ρ v).bind _=_
 rw [h1,Option.bind_some,h2];exact h3
theorem bF {x q i p d k r} (hs:yR i=false) (h1:ρ x=some d) (hd:noDict d=some d) (h2:(ah Φ J (n+1)).e sc ρ i=some k) (h3:iz d k=some r):(ah Φ J (n+2)).e sc ρ (.Subscript (.Name x q) i p)=some r:=by
 refine DT hs (aa h1 hd) (fun y ds e=> ?_) h2 h3
 cases e
 rw [h1]
 intro e;(obtain rfl:=Option.some.inj e;clear e);exact no hd
theorem LW {x q i p ds k r} (hs:yR i=false) (h1:ρ x=some (iy ds)) (h2:(ah Φ J n).e sc ρ i=some k) (h3:iz (.list ds) k=some r):(ah Φ J (n+1)).e sc ρ (.Subscript (.Name x q) i p)=some r:=by
 have iE:oG i=none:=by cases i<;>first | rfl | cases hs
 show oM (oG i) _ (oM ((ρ x).bind jM) _ _)=_
 rw [iE,h1]
 show ((ah Φ J n).e sc ρ i).bind _=_
 rw [h2];exact h3
theorem ej {I:aK}:nf I sc ρ none=some none:=rfl
theorem aZ {I:aK} {e d} (h:I.e sc ρ e=some d):nf I sc ρ (some e)=some (some d):=by
 show (I.e sc ρ e).map some=_
 rw [h];rfl
theorem bM {v l u p q d lo hi r} (hn:(isName v).isSome=true) (h1:(ah Φ J n).e sc ρ v=some d) (h2:nf (ah Φ J n) sc ρ l=some lo) (h3:nf (ah Φ J n) sc ρ u=some hi) (h4:km d lo hi=some r):(ah Φ J (n+1)).e sc ρ (.Subscript v (.Slice l u none q) p)=some r:=by
 refine (if_pos ⟨rfl,hn⟩).trans ?_
 show ((ah Φ J n).e sc ρ v).bind (fun d=>(nf (ah Φ J n) sc ρ l).bind fun lo=>(nf (ah Φ J n) sc ρ u).bind fun hi=>km d lo hi)=_
 rw [h1,Option.bind_some,h2,Option.bind_some,h3];exact h4
theorem av {α:Type} {f:Expr->Option α}:cC f []=some []:=rfl
theorem ak {α:Type} {f:Expr->Option α} {e:Expr} {es:List Expr} {d:α} {ds:List α} (h1:f e=some d) (h2:cC f es=some ds):cC f (e::es)=some (d::ds):=by
 show Option.bind _ _=_
 rw [h1,Option.bind_some,h2];rfl
theorem ic {es p ds} (h:cC ((ah Φ J n).e sc ρ) es=some ds) (hl:ds.length<=4096):(ah Φ J (n+1)).e sc ρ (.List es p)=some (.list ds):=by
 show (cC ((ah Φ J n).e sc ρ) es).bind _=_
 rw [h,Option.bind_some,if_pos hl]
theorem qq {es k p ds} (h:cC ((ah Φ J n).e sc ρ) es=some ds) (hl:ds.length<=4096):(ah Φ J (n+1)).e sc ρ (.Tuple es k p)=some (.tuple ds):=by
 show (cC ((ah Φ J n).e sc ρ) es).bind _=_
 rw [h,Option.bind_some,if_pos hl]
theorem bl {f q args p ds d} (hg:dP sc f=true) (hs:cC ((ah Φ J n).e sc ρ) args=some ds) (hf:Φ.fn f ds=some d) (hn:f≠uz):(ah Φ J (n+1)).e sc ρ (.Call (.Name f q) args [] p)=some d:=by
 have key:(cC ((ah Φ J n).e sc ρ) args).bind (Φ.fn f)=some d:=by rw [hs];exact hf
 refine (if_pos hg).trans ?_
 show oM ((one args).bind rE) _ (oM (((one args).bind isName).bind fun x=>if f=oF then (ρ x).bind jM else none) _ _)=_
 cases e1:(one args).bind rE with
 | some v=>exact (if_neg (fun h=>hn h.1)).trans key
 | none=>
  show oM (((one args).bind isName).bind fun x=>if f=oF then (ρ x).bind jM else none) _ _=_
  cases e2:((one args).bind isName).bind fun x=>if f=oF then (ρ x).bind jM else none with
  | none=>exact key
  | some fz=>
   exfalso
   refine ai e2 fun x e3 e4=> ?_
   refine ai e3 fun e0 e5 e6=> ?_
   obtain rfl:=fP e5
   (refine xE (m9 e6:) fun xp ay=> ?_;subst ay)
   refine aO e4 fun _ e7=> ?_
   refine ai e7 fun dw e8 e9=> ?_
   obtain rfl:=uA e9
   cases n with
   | zero=>simp [cC,ah,eX] at hs
   | succ n=>
    have:(ah Φ J (n+1)).e sc ρ (.Name x xp)=none:=by
     show oM (ρ x) noDict _=_
     rw [e8];rfl
    simp [cC,this] at hs
theorem LX {f q args r q' p p' ds items} (hg:dP sc f=true) (LY:dP sc r=true) (hf:f=uz) (hr:r=lB) (hs:cC ((ah Φ J n).e sc ρ) args=some ds) (hd:iV ds=some items):(ah Φ J (n+1)).e sc ρ (.Call (.Name f q) [.Call (.Name r q') args [] p'] [] p)=some (.list items):=by
 refine (if_pos hg).trans ((if_pos ⟨hf,hr,LY⟩).trans ?_)
 show ((cC ((ah Φ J n).e sc ρ) args).bind iV).map _=_
 rw [hs,Option.bind_some,hd];rfl
theorem LZ {f q x q' p ds} (hg:dP sc f=true) (hf:f=oF) (h:ρ x=some (iy ds)) (hl:ds.length<=4096):(ah Φ J (n+1)).e sc ρ (.Call (.Name f q) [.Name x q'] [] p)=some (.int ds.length):=by
 refine (if_pos hg).trans ?_
 show oM (if f=oF then (ρ x).bind jM else none) _ _=_
 rw [if_pos hf,h]
 exact if_pos hl
theorem ek {o m apos args p d ds r} (hl:(apos.endLine==p.line)=true) (hn:args.length < 20) (hb:uy o=true) (h1:(ah Φ J n).e sc ρ o=some d) (h2:cC ((ah Φ J n).e sc ρ) args=some ds) (h3:iA m d ds=some r):(ah Φ J (n+1)).e sc ρ (.Call (.Attribute o m apos) args [] p)=some r:=by
 refine (if_pos ⟨rfl,hl,hn,hb⟩).trans ?_
 show ((ah Φ J n).e sc ρ o).bind _=_
 rw [h1,Option.bind_some,h2];exact h3
theorem DU {f q args k la lb aI lp kp p ds x d} (hg:dP sc f=true) (hk:k=hU) (hf:freeOk sc aI=true) (gj:lA la aI=some x) (hs:cC ((ah Φ J n).e sc ρ) args=some ds) (hd:Φ.fk f ds (fun d=>J.e aI (upd (inner aI ρ) x d) lb)=some d):(ah Φ J (n+1)).e sc ρ (.Call (.Name f q) args [⟨some k, .Lambda la lb aI lp,kp⟩] p)=some d:=by
 refine (if_pos ⟨hg,hk,hf⟩).trans ?_
 show (lA la aI).bind _=_
 rw [gj]
 show (cC _ args).bind _=_
 rw [hs];exact hd
theorem dF {elt g ao p items ds} (h1:gK ao=true) (h2:freeOk sc ao=true) (h3:eB g.iter=true) (h4:g.is_async=0) (hi:(ah Φ J n).i sc ρ g.iter=some items) (hg:(ah Φ J n).g ao (inner ao ρ) items g [] elt=some ds) (hl:ds.length<=4096):(ah Φ J (n+1)).e sc ρ (.ListComp elt [g] ao p)=some (.list ds):=by
 show (if gK ao=true/\freeOk sc ao=true/\eB g.iter=true/\g.is_async=0 then _ else none)=_
 rw [if_pos ⟨h1,h2,h3,h4⟩,hi,Option.bind_some,hg,Option.bind_some,if_pos hl]
theorem DV {elt g g' ao p items ds} (h1:gK ao=true) (h2:freeOk sc ao=true) (h3:eB g.iter=true) (h4:g.is_async=0) (h5:g'.is_async=0) (hi:(ah Φ J n).i sc ρ g.iter=some items) (hg:(ah Φ J n).g ao (inner ao ρ) items g [g'] elt=some ds) (hl:ds.length<=4096):(ah Φ J (n+1)).e sc ρ (.ListComp elt [g,g'] ao p)=some (.list ds):=by
 show (if gK ao=true/\freeOk sc ao=true/\eB g.iter=true/\g.is_async=0/\g'.is_async=0 then _ else none)=_
 rw [if_pos ⟨h1,h2,h3,h4,h5⟩,hi,Option.bind_some,hg,Option.bind_some,if_pos hl]
theorem DW {b:PyData->Option (List PyData)}:jl b []=some []:=rfl
theorem nK {b:PyData->Option (List PyData)} {d:PyData} {r l ls:List PyData} (h1:b d=some l) (h2:jl b r=some ls):jl b (d::r)=some (l++ls):=by
 show Option.bind _ _=_
 rw [h1,Option.bind_some,h2];rfl
theorem DX {ι:Type} {b:PyData->Option (List PyData)} {enc:ι->PyData} {xs:List ι} {l:ι->List PyData} (h:∀x∈xs,b (enc x)=some (l x)):jl b (xs.map enc)=some (xs.flatMap l):=by
 induction xs with
 | nil=>rfl
 | cons x xs ih=>
  rw [List.flatMap_cons]
  exact nK (h x (.head _)) (ih fun y hy=>h y (.tail _ hy))
theorem dg {ao x px it ifs a elt items ds} (ha:a=0) (hl:items.length<=4096) (hx:iW ao x=true) (hn:ρ x=none) (h:jl (rJ (ah Φ J n) ao ρ x ifs elt) items=some ds):(ah Φ J (n+1)).g ao ρ items ⟨.Name x px,it,ifs,a⟩ [] elt=some ds:=by
 exact (if_pos ⟨hl,ha⟩).trans ((if_pos ⟨hx,by rw [hn];rfl⟩).trans h)
theorem DY {ao x px it ifs a g' elt items ds} (ha:a=0) (hl:items.length<=4096) (hx:iW ao x=true) (hn:ρ x=none) (hp:eB g'.iter=true) (uT:g'.is_async=0) (h:jl (xB (ah Φ J n) ao ρ x ifs g' elt) items=some ds):(ah Φ J (n+1)).g ao ρ items ⟨.Name x px,it,ifs,a⟩ [g'] elt=some ds:=by
 exact (if_pos ⟨hl,ha⟩).trans ((if_pos ⟨hx,by rw [hn];rfl⟩).trans ((if_pos ⟨hp,uT⟩).trans h))
theorem fg {I:aK} {ao x elt d r} (h:I.e ao (upd ρ x d) elt=some r):rJ I ao ρ x [] elt d=some [r]:=by
 show ((I.e ao (upd ρ x d) elt).map fun d=>[d])=_
 rw [h];rfl
theorem kI {I:aK} {ao x t elt d r} (ht:I.t ao (upd ρ x d) t=some true) (h:I.e ao (upd ρ x d) elt=some r):rJ I ao ρ x [t] elt d=some [r]:=by
 show ((I.t _ _ t).bind _).bind _=_
 rw [ht]
 show ((I.e ao (upd ρ x d) elt).map fun d=>[d])=_
 rw [h];rfl
theorem kJ {I:aK} {ao x t elt d} (ht:I.t ao (upd ρ x d) t=some false):rJ I ao ρ x [t] elt d=some []:=by
 show ((I.t _ _ t).bind _).bind _=_
 rw [ht];rfl
theorem DZ {I:aK} {ao x g' elt d lD r} (hi:I.i ao (upd ρ x d) g'.iter=some lD) (h:I.g ao (upd ρ x d) lD g' [] elt=some r):xB I ao ρ x [] g' elt d=some r:=by
 show ((I.i ao (upd ρ x d) g'.iter).bind fun lD=>I.g ao (upd ρ x d) lD g' [] elt)=_
 rw [hi];exact h
theorem eE {r q args p ds items} (hr:r=lB) (hg:dP sc r=true) (hs:cC ((ah Φ J n).e sc ρ) args=some ds) (hd:iV ds=some items):(ah Φ J (n+1)).i sc ρ (.Call (.Name r q) args [] p)=some items:=by
 show (if r=lB/\dP sc r=true then _ else _)=_
 rw [if_pos ⟨hr,hg⟩,hs];exact hd
theorem i9 {x p ds} (h:(ah Φ J n).e sc ρ (.Name x p)=some (.list ds)):(ah Φ J (n+1)).i sc ρ (.Name x p)=some ds:=by
 show ((ah Φ J n).e sc ρ (.Name x p)).bind _=_
 rw [h];rfl
theorem D0 {es p ds} (h:(ah Φ J n).e sc ρ (.List es p)=some (.list ds)):(ah Φ J (n+1)).i sc ρ (.List es p)=some ds:=by
 show ((ah Φ J n).e sc ρ (.List es p)).bind _=_
 rw [h];rfl
theorem vo {r q args p ds} (hr:r≠lB) (h:(ah Φ J n).e sc ρ (.Call (.Name r q) args [] p)=some (.list ds)):(ah Φ J (n+1)).i sc ρ (.Call (.Name r q) args [] p)=some ds:=by
 show (if r=lB/\dP sc r=true then _ else _)=_
 rw [if_neg (fun q=>hr q.1),h];rfl
theorem D1 {x p b} (h:(ah Φ J n).t sc ρ x=some b):(ah Φ J (n+1)).t sc ρ (.UnaryOp .Not x p)=some (!b):=by
 show ((ah Φ J n).t sc ρ x).map _=_
 rw [h];rfl
theorem vp {a b p c} (h1:(ah Φ J n).t sc ρ a=some true) (h2:(ah Φ J n).t sc ρ b=some c):(ah Φ J (n+1)).t sc ρ (.BoolOp .And [a,b] p)=some c:=by
 show jL _ _=_
 simp only [jL,h1,h2,Option.bind_some,if_true]
 cases c<;>rfl
theorem vq {a b p} (h1:(ah Φ J n).t sc ρ a=some false):(ah Φ J (n+1)).t sc ρ (.BoolOp .And [a,b] p)=some false:=by
 show jL _ _=_
 simp only [jL,h1,Option.bind_some];rfl
theorem sF {a b p} (h1:(ah Φ J n).t sc ρ a=some true):(ah Φ J (n+1)).t sc ρ (.BoolOp .Or [a,b] p)=some true:=by
 show oE _ _=_
 simp only [oE,h1,Option.bind_some];rfl
theorem kK {a b p c} (h1:(ah Φ J n).t sc ρ a=some false) (h2:(ah Φ J n).t sc ρ b=some c):(ah Φ J (n+1)).t sc ρ (.BoolOp .Or [a,b] p)=some c:=by
 show oE _ _=_
 simp only [oE,h1,h2,Option.bind_some]
 cases c<;>rfl
theorem aH {l op r p a b c} (hm:behindInMarks op r=false) (h1:(ah Φ J n).e sc ρ l=some a) (h2:(ah Φ J n).e sc ρ r=some b) (h3:cg op a b=some c):(ah Φ J (n+1)).t sc ρ (.Compare l [op] [r] p)=some c:=by
 show (if behindInMarks op r=true then none else ((ah Φ J n).e sc ρ l).bind _)=_
 rw [hm,if_neg (by simp),h1,Option.bind_some,h2];exact h3
theorem gV {x p d b} (h:(ah Φ J n).e sc ρ (.Name x p)=some d) (h2:lr d=some b):(ah Φ J (n+1)).t sc ρ (.Name x p)=some b:=by
 show ((ah Φ J n).e sc ρ (.Name x p)).bind lr=_
 rw [h];exact h2
theorem vt {f a k p d b} (h:(ah Φ J n).e sc ρ (.Call f a k p)=some d) (h2:lr d=some b):(ah Φ J (n+1)).t sc ρ (.Call f a k p)=some b:=by
 show ((ah Φ J n).e sc ρ (.Call f a k p)).bind lr=_
 rw [h];exact h2
end
noncomputable def kL:Option (Out × St)->Option PyData
 | some (.ret d,_)=>some d
 | _=>none
theorem sG {o:Option (Out × St)} {d:PyData} (h:kL o=some d):∃ag,o=some (.ret d,ag):=by
 cases o with
 | none=>exact no h
 | some p=>
 obtain ⟨a,ag⟩:=p
 cases a with
 | ret=>cases h;exact ⟨_,rfl⟩
 | _=>exact no h
section
variable {I:aK} {c:Cf} {n:Nat} {B:Scope->St->List Stmt->Option (Out × St)} {sc:Scope} {st bE:St} {t:Stmt} {r:List Stmt} {R:Option (Out × St)} {R':Option PyData}
theorem vv:bc I c (n+1) sc st (t::r)=(bT I c (bc I c n) sc st t).bind fun (o,ag)=>match o with
  | .aT=>bc I c (n+1) sc ag r
  | .cont=>some (.cont,ag)
  | .ret d=>some (.ret d,ag):=rfl
theorem yS (h1:bT I c (bc I c n) sc st t=some (.aT,bE)) (h2:kL (bc I c (n+1) sc bE r)=R'):kL (bc I c (n+1) sc st (t::r))=R':=by
 rw [vv,h1];exact h2
theorem sH {d:PyData} (h1:bT I c (bc I c n) sc st t=some (.ret d,bE)):kL (bc I c (n+1) sc st (t::r))=some d:=by
 rw [vv,h1];rfl
theorem a9:bc I c (n+1) sc st []=some (.aT,st):=rfl
theorem aW (h1:bT I c (bc I c n) sc st t=some (.aT,bE)) (h2:bc I c (n+1) sc bE r=R):bc I c (n+1) sc st (t::r)=R:=by
 rw [vv,h1];exact h2
theorem jV {d:PyData} (h1:bT I c (bc I c n) sc st t=some (.ret d,bE)):bc I c (n+1) sc st (t::r)=some (.ret d,bE):=by
 rw [vv,h1];rfl
theorem nL {bz it:Expr} {body:List Stmt} {p:Pos} {items:List PyData} (hp:eB it=true) (hi:I.i sc st.v it=some items) (hl:items.length<=4096):bT I c B sc st (.For bz it body [] p)=dM (dE sc bz) (fun st=>B sc st body) items st:=by
 refine (if_pos ⟨rfl,hp⟩).trans ?_
 show (I.i sc st.v it).bind _=_
 rw [hi,Option.bind_some,if_pos hl]
theorem iG {e p d} (h:I.e sc st.full e=some d):bT I c B sc st (.Return (some e) p)=some (.ret d,st):=by
 show (I.e sc st.full e).map _=_
 rw [h];rfl
theorem cm {x q e p d} (hs:dD sc x=true) (h2:c.m2 x=false) (h:I.e sc st.v e=some d):bT I c B sc st (.Assign [.Name x q] e p)=some (.aT,st.set x d):=by
 show (if dD sc x=true then (if c.m2 x then _ else I.e sc st.v e).map _ else none)=_
 rw [if_pos hs,h2]
 show (I.e sc st.v e).map _=_
 rw [h];rfl
theorem D3 {x q e p d d'} (hs:dD sc x=true) (h2:c.m2 x=true) (h:I.e sc st.full e=some d) (hf:qi d=some d'):bT I c B sc st (.Assign [.Name x q] e p)=some (.aT,st.set x d'):=by
 show (if dD sc x=true then (if c.m2 x then (I.e sc st.full e).bind qi else I.e sc st.v e).map _ else none)=_
 rw [if_pos hs,h2,if_pos rfl,h,Option.bind_some,hf];rfl
theorem D4 {t:Expr} {b o:List Stmt} {p:Pos} {τ:Bool} {ag:St} (h:jS I c sc st t=some (τ,ag)):bT I c B sc st (.If t b o p)=if τ then B sc ag b else B sc ag o:=by
 show (jS I c sc st t).bind _=_
 rw [h];rfl
theorem eF {t:Expr} {b o:List Stmt} {p:Pos} {ag:St} {R} (h:jS I c sc st t=some (true,ag)) (hb:B sc ag b=R):bT I c B sc st (.If t b o p)=R:=(D4 h).trans hb
theorem cQ {t:Expr} {b o:List Stmt} {p:Pos} {ag:St} {R} (h:jS I c sc st t=some (false,ag)) (hb:B sc ag o=R):bT I c B sc st (.If t b o p)=R:=(D4 h).trans hb
theorem sI {x m:Str} {a:Expr} {px ap cp ep:Pos} {ds:List PyData} {d:PyData} (hm:m=ym) (cX:(ap.endLine==cp.line)=true) (hk:x≠cY) (ho:st.o x=some ds) (hl:ds.length<=4096) (he:I.e sc st.v a=some d):
  bT I c B sc st (.Expr (.Call (.Attribute (.Name x px) m ap) [a] [] cp) ep)=some (.aT,st.own x (ds++[d])):=by
 subst hm
 refine (if_pos ⟨cX,hk⟩).trans ?_
 show (st.o x).bind _=_
 rw [ho]
 refine (if_pos hl).trans ((if_pos rfl).trans ?_)
 show (I.e sc st.v a).map _=_
 rw [he];rfl
theorem L0 {x m:Str} {a:Expr} {px ap cp ep:Pos} {ds es:List PyData} (hm:m=yn) (cX:(ap.endLine==cp.line)=true) (hk:x≠cY) (ho:st.o x=some ds) (hl:ds.length<=4096) (he:I.e sc st.v a=some (.list es)) (bY:es.length<=4096):
  bT I c B sc st (.Expr (.Call (.Attribute (.Name x px) m ap) [a] [] cp) ep)=some (.aT,st.own x (ds++es)):=by
 subst hm
 refine (if_pos ⟨cX,hk⟩).trans ?_
 show (st.o x).bind _=_
 rw [ho]
 refine (if_pos hl).trans ((if_neg (show ¬yn=ym by decide)).trans ((if_pos rfl).trans ?_))
 show ((I.e sc st.v a).bind gL).bind _=_
 rw [he]
 exact if_pos bY
theorem bA {e:Expr} {b:Bool} (h:jS I c sc st e=(I.t sc st.full e).map (·,st)) (h2:I.t sc st.full e=some b):jS I c sc st e=some (b,st):=by rw [h,h2];rfl
end
theorem vw {σ:Type} {bind:St->PyData->Option St} {body:St->Option (Out × St)} (inv:Nat->σ->St->Prop) (step:σ->Nat->σ):∀(n a:Nat)
  (h:∀k,a<=k->k < a+n->∀σ st,inv k σ st->∃bE,bind st (.int k)=some bE/\∃aR,body bE=some (.aT,aR)/\inv (k+1) (step σ k) aR)
  (s0:σ) (st:St),inv a s0 st->∃ag,dM bind body ((List.range' a n).map fun (k:Nat)=> .int k) st=some (.aT,ag)/\inv (a+n) ((List.range' a n).foldl step s0) ag
 | 0,a,h,s0,st,hi=>⟨st,rfl,hi⟩
 | n+1,a,h,s0,st,hi=>by
  refine tV (h a (Nat.le_refl _) (by exact Zb Z4 17 [_,_] []) s0 st hi:) fun bE h1 aR h2 ke=> ?_
  refine aj (vw inv step n (a+1) (fun k h1 h2=>h k (by exact lZ h1) (by exact Zb Z4 18 [_,_,_] [] h2)) _ _ ke:) fun ag h3 L3=> ?_
  refine ⟨ag, ?_,by rw [show a+(n+1)=a+1+n by exact Zb Z1 30 [_,_] []];exact L3⟩
  show (bind st (.int a)).bind _=_
  rw [h1,Option.bind_some,h2,Option.bind_some]
  exact h3
theorem yT {σ:Type} {I:aK} {c:Cf} {n:Nat} {sc:Scope} {st:St} {r:List Stmt} {R':Option PyData} {bz it:Expr} {body:List Stmt} {p:Pos} (inv:Nat->σ->St->Prop) (step:σ->Nat->σ) (a l:Nat) (s0:σ) (hp:eB it=true) (hl:l<=4096) (hi:I.i sc st.v it=some ((List.range' a l).map fun (k:Nat)=> .int k)) (h0:inv a s0 st)
  (hs:∀k,a<=k->k < a+l->∀σ st,inv k σ st->∃bE,dE sc bz st (.int k)=some bE/\∃aR,bc I c n sc bE body=some (.aT,aR)/\inv (k+1) (step σ k) aR)
  (hk:∀ag,inv (a+l) ((List.range' a l).foldl step s0) ag->kL (bc I c (n+1) sc ag r)=R'):kL (bc I c (n+1) sc st (.For bz it body [] p::r))=R':=by
 refine aj (vw (bind:=dE sc bz) (body:=fun st=>bc I c n sc st body) inv step l a hs s0 st h0:) fun ag h1 h2=> ?_
 exact yS ((nL hp hi (by rw [List.length_map,List.length_range'];exact hl)).trans h1) (hk ag h2)
theorem yU {σ:Type} {I:aK} {c:Cf} {n:Nat} {sc:Scope} {st:St} {bz it:Expr} {body:List Stmt} {p:Pos} (inv:Nat->σ->St->Prop) (step:σ->Nat->σ) (a l:Nat) (s0:σ) (hp:eB it=true) (hl:l<=4096) (hi:I.i sc st.v it=some ((List.range' a l).map fun (k:Nat)=> .int k)) (h0:inv a s0 st)
  (hs:∀k,a<=k->k < a+l->∀σ st,inv k σ st->∃bE,dE sc bz st (.int k)=some bE/\∃aR,bc I c n sc bE body=some (.aT,aR)/\inv (k+1) (step σ k) aR):
  ∃ag,bT I c (bc I c n) sc st (.For bz it body [] p)=some (.aT,ag)/\inv (a+l) ((List.range' a l).foldl step s0) ag:=by
 refine aj (vw (bind:=dE sc bz) (body:=fun st=>bc I c n sc st body) inv step l a hs s0 st h0:) fun ag h1 h2=> ?_
 exact ⟨ag,(nL hp hi (by rw [List.length_map,List.length_range'];exact hl)).trans h1,h2⟩
theorem len_list {α:Type} {f:α->PyData} {xs:List α} (h:xs.length<=4096):nF [.list (xs.map f)]=some (.int xs.length):=by
 refine (if_pos (show (xs.map f).length<=4096 by rw [List.length_map];exact h)).trans ?_
 rw [List.length_map]
theorem yV {xs:List PyData} {i:Int}:iz (.list xs) (.int i)=if 0<=i/\i < 1000000 then xs[i.toNat]? else if i= -1/\xs.length < 1000000 then xs[xs.length - 1]? else none:=rfl
theorem L4 {b:Int}:iV [.int b]=if -1000000 < b/\b < 1000000 then some ((rangeInts 0 b 1).map .int) else none:=rfl
theorem L5 {a b:Int}:iV [.int a, .int b]=if -1000000 < b/\b < 1000000/\ -1000000 < a/\a < 1000000 then some ((rangeInts a b 1).map .int) else none:=rfl
theorem item_at {α:Type} {f:α->PyData} {xs:List α} {i:Int} (j:Nat) (d:α) (e:i=j) (h:j < xs.length) (h':xs.length<=4096):iz (.list (xs.map f)) (.int i)=some (f (xs.getD j d)):=by
 subst e
 have hc:0<=(j:Int)/\(j:Int) < 1000000:=by exact Zb cz 1 [_,_] [] h h'
 rw [yV,if_pos hc,Int.toNat_natCast,List.getElem?_map,List.getElem?_eq_getElem h,List.getD_eq_getElem?_getD,List.getElem?_eq_getElem h]
 rfl
theorem qr {xs:List Int} {i:Int} (h0:0<=i) (h:i < xs.length) (h':xs.length<=4096):iz (.list (xs.map .int)) (.int i)=some (.int (xs.getD i.toNat 0)):=item_at i.toNat 0 (by exact Zb Z1 31 [] [_] h0) (by exact Zb cz 2 [_] [_] h0 h) h'
theorem D5 {a b:Nat}:rangeInts a b 1=(List.range' a (b - a)).map fun (k:Nat)=>(k:Int):=by
 unfold rangeInts Builtin.Range.rangeSize
 rw [if_pos (by exact Zb Z1 7 [] [])]
 have:(if (a:Int) < b then ((b:Int) - a - 1) / 1+1 else 0).toNat=b - a:=by
  by_cases q:a < b
  ·rw [if_pos (Int.ofNat_lt.mpr q),Int.ediv_one,Int.sub_add_cancel, <- Int.ofNat_sub (Nat.le_of_lt q)];rfl
  ·rw [if_neg (fun h=>q (Int.ofNat_lt.mp h)),Nat.sub_eq_zero_of_le (Nat.le_of_not_lt q)];rfl
 rw [this,List.range'_eq_map_range,List.map_map]
 refine List.map_congr_left fun i _=> ?_
 show (a:Int)+i*1=((a+i:Nat):Int)
 rw [Int.mul_one];rfl
theorem kM {i:Int} (b:Nat) (e:i=b) (h:b < 1000000):iV [.int i]=some ((List.range' 0 b).map fun (k:Nat)=> .int k):=by
 subst e
 have hc: -1000000 < (b:Int)/\(b:Int) < 1000000:=by exact Zb cz 4 [_] [] h
 rw [L4,if_pos hc]
 have:=D5 (a:=0) (b:=b)
 rw [show ((0:Nat):Int)=0 from rfl] at this
 rw [this,List.map_map]
 rfl
theorem jw {i j:Int} (a b:Nat) (e:i=a) (e':j=b) (ha:a < 1000000) (h:b < 1000000):iV [.int i, .int j]=some ((List.range' a (b - a)).map fun (k:Nat)=> .int k):=by
 subst e e'
 have hc: -1000000 < (b:Int)/\(b:Int) < 1000000/\ -1000000 < (a:Int)/\(a:Int) < 1000000:=by exact Zb cz 5 [_,_] [] h ha
 rw [L5,if_pos hc,D5,List.map_map]
 rfl
theorem sJ {a b:Int} (h:a=b):cg .Eq (.int a) (.int b)=some true:=by show some (a==b)=_;rw [beq_iff_eq.mpr h]
theorem nM {a b:Int} (h:a≠b):cg .Eq (.int a) (.int b)=some false:=by show some (a==b)=_;rw [beq_eq_false_iff_ne.mpr h]
theorem D6 {a b:Int} (h:a=b):cg .NotEq (.int a) (.int b)=some false:=by show some (!(a==b))=_;rw [beq_iff_eq.mpr h];rfl
theorem yW {a b:Int} (h:a < b):cg .Lt (.int a) (.int b)=some true:=by show some (decide (a < b))=_;rw [decide_eq_true h]
theorem yX {a b:Int} (h:¬a < b):cg .Lt (.int a) (.int b)=some false:=by show some (decide (a < b))=_;rw [decide_eq_false h]
theorem L6 {a b:Int} (h:a > b):cg .Gt (.int a) (.int b)=some true:=by show some (decide (a > b))=_;rw [decide_eq_true h]
theorem L7 {a b:Int} (h:¬a > b):cg .Gt (.int a) (.int b)=some false:=by show some (decide (a > b))=_;rw [decide_eq_false h]
theorem D7 {a b:Int} (h:a>=b):cg .GtE (.int a) (.int b)=some true:=by show some (decide (a>=b))=_;rw [decide_eq_true h]
theorem L8 {a b:Int} (h:¬a>=b):cg .GtE (.int a) (.int b)=some false:=by show some (decide (a>=b))=_;rw [decide_eq_false h]
noncomputable def vA:cV:=dR.add "ISEOF" yM
section
variable {prog:Program} {w:World} {mg mb:Str->Option Value} {A:Around}
theorem L9:Under prog w mg mb false 1 0 vA eX:=⟨fun A hA=>(nI hA.hd (by have:=hA.un;exact Zb Z2 38 [_,_] [] this)).add (fun _ _ C=>fI C rfl) (by decide) (kH (yL w.params)) (DQ hA),gR⟩
end
theorem qt {ds d} (h:nF ds=some d):vA.fn "len" ds=some d:=h
theorem yY {i d} (h:PyData.bool (i==0)=d):vA.fn "ISEOF" [.int i]=some d:=h▸rfl
theorem D8 (P:Params):∃px lp pos,hZ P 242 (bj P 242 bk) ["row","p"] (.Assign [.Name "found" px] (.List [] lp) pos::(bU P 242).drop 1):=
 ⟨_,_,_,⟨_,rfl,rfl⟩,by decide,rfl,rfl,rfl,rfl,rfl,rfl,rfl,⟨_,_,_,_,rfl,rfl,rfl,rfl⟩,fun x hx=>by
  rcases List.mem_cons.mp hx with e | hx
  ·rw [e];exact .inl rfl
  ·rw [List.mem_singleton.mp hx];exact .inl rfl,rfl⟩
noncomputable def jx (row:List Int) (p:Nat) (σ:List (Int × Int × Int) × Nat) (k:Nat):List (Int × Int × Int) × Nat:=
 if k=row.length - p\/row.getD k 0≠row.getD (k+p) 0 then ((if σ.2+p<=k then σ.1++[((p:Int),(σ.2:Int),(k:Int)+p)] else σ.1),k+1) else σ
noncomputable def nN (row:List Int) (p:Nat):List (Int × Int × Int):=((List.range' 0 (row.length - p+1)).foldl (jx row p) ([],0)).1
theorem Ma (P:Params) (row:List Int) (p:Nat) (hp:1<=p) (eN:p<=row.length) (hl:row.length<=4000):
  kL (bc (ah vA eX 8) c0 6 (bj P 242 bk).scope ((mC ["row","p"] [.list (row.map .int), .int p]).ju "found" []) ((bU P 242).drop 1))=some (.list ((nN row p).map bZ)):=by
 conv=>lhs;arg 1;arg 6;whnf
 conv=>lhs;arg 1;arg 4;whnf
 refine yS (cm rfl rfl aC) ?_
 refine yT (fun k σ st=>st.ol=([("found",σ.1.map bZ)]:OL)/\st.h=none/\(∀k,fL "k" (.int k) st.vl=([("p", .int p),("row", .list (row.map .int)),("begin", .int σ.2),("k", .int k)]:VL))/\σ.1.length<=k/\σ.2<=k) (jx row p) 0 (row.length - p+1) ([],0) rfl (by exact Zb Z8 6 [_,_] [] hl) ?_ ⟨rfl,rfl,fun k=>rfl,Nat.le_refl _,Nat.zero_le _⟩ (fun k _ hk σ st hi=> ?_) (fun ag hi=> ?_)
 ·refine' eE rfl rfl ?h1 ?h2
  case h1=>exact ak (aY (cP (bl rfl (ak (aa rfl rfl) av) (qt (len_list (by exact ez hl))) (by decide)) (aa rfl rfl) rfl) aC rfl) av
  case h2=>exact kM (row.length - p+1) (by exact Zb Z8 7 [_,_] [] eN) (by exact Zb Z8 8 [_,_] [] hl)
 ·have hk:k<=row.length - p:=by exact Zb Z8 9 [_,_,_] [] hk
  obtain ⟨h1,h2,h3,h4,h5⟩:=hi
  obtain ⟨found,b⟩:=σ
  dsimp only at h1 h2 h3 h4 h5
  obtain ⟨vl,ol,h⟩:=st
  dsimp only at h1 h2 h3
  subst h1 h2
  have fin:∀(vB:List (Int × Int × Int)) (b':Nat),jx row p (found,b) k=(vB,b')->vB.length<=k+1->b'<=k+1->∃aR:St,aR=⟨([("p", .int p),("row", .list (row.map .int)),("begin", .int b'),("k", .int k)]:VL),([("found",vB.map bZ)]:OL),none⟩/\(aR.ol=([("found",(jx row p (found,b) k).1.map bZ)]:OL)/\aR.h=none/\(∀k':Int,fL "k" (.int k') aR.vl=([("p", .int p),("row", .list (row.map .int)),("begin", .int (jx row p (found,b) k).2),("k", .int k')]:VL))/\(jx row p (found,b) k).1.length<=k+1/\(jx row p (found,b) k).2<=k+1):=fun vB b' e hf hb=>⟨_,rfl,by rw [e];exact ⟨rfl,rfl,fun _=>rfl,hf,hb⟩⟩
  refine ⟨⟨([("p", .int p),("row", .list (row.map .int)),("begin", .int b),("k", .int k)]:VL),([("found",found.map bZ)]:OL),none⟩, ?_, ?_⟩
  ·show some (St.mk (fL "k" (.int k) vl) (i7 "k" ([("found",found.map bZ)]:OL)) none)=_
   rw [h3];rfl
  ·have yZ:∀{u v:Int},cg .IsNot (.bool (u - v==0)) (.bool true)=some (decide (u≠v)):=fun {u v}=>by
    show some (!((u - v==0)==true))=_
    by_cases q:u=v
    ·subst q;simp
    ·have:¬(u - v=0):=by exact Zb Z8 10 [] [_,_] q
     simp [q,this]
   have tn:((k:Int)).toNat=k:=by exact Zb Z8 11 [_] []
   have y0:((k:Int)+(p:Int)).toNat=k+p:=by exact Zb Z8 12 [_,_] []
   by_cases c1:k=row.length - p\/row.getD k 0≠row.getD (k+p) 0
   ·by_cases c2:b+p<=k
    ·refine aj (fin (found++[((p:Int),(b:Int),(k:Int)+p)]) (k+1) (by unfold jx;rw [if_pos c1,if_pos c2]) (by rw [List.length_append];simp;exact h4) (by exact Zb Z3 25 [_] []):) fun aR e2 r2=> ?_
     refine ⟨aR, ?_,r2⟩
     rw [e2]
     refine' aW (eF (bA rfl ?dS) (aW (eF (bA rfl ?t2) (aW (sI rfl rfl (by decide) (show St.o ⟨_,([("found",found.map bZ)]:OL),none⟩ "found"=some (found.map bZ) from rfl) (by rw [List.length_map];exact Zb Z8 13 [_,_,_,_] [] ‹_› hl h4) ?tup) a9)) (aW (cm rfl rfl ?asg) a9))) ?fin
     case dS=>
      by_cases n1:k=row.length - p
      ·refine sF ?_
       exact aH rfl (aa rfl rfl) (cP (bl rfl (ak (aa rfl rfl) av) (qt (len_list (by exact ez hl))) (by decide)) (aa rfl rfl) rfl) (sJ (by exact Zb Z8 14 [_,_,_,_] [] c2 n1))
      ·refine kK ?_ ?_
       ·exact aH rfl (aa rfl rfl) (cP (bl rfl (ak (aa rfl rfl) av) (qt (len_list (by exact ez hl))) (by decide)) (aa rfl rfl) rfl) (nM (by exact Zb Z3 26 [_,_,_] [] n1))
       ·refine' aH rfl ?h1 ?h2 ?h3
        case h1=>exact bl rfl (ak (cP (bF rfl rfl rfl (aa rfl rfl) (qr (by exact m5) (by exact Zb Z3 27 [_,_,_] [] ‹_› n1) (by exact ez hl))) (bF rfl rfl rfl (aY (aa rfl rfl) (aa rfl rfl) rfl) (qr (by exact Zb Z2 9 [_,_] []) (by exact Zb Z3 28 [_,_,_] [] ‹_› n1) (by exact ez hl))) rfl) av) (yY rfl) (by decide)
        case h2=>exact iF
        case h3=>rw [yZ,tn,y0,decide_eq_true (c1.resolve_left n1)]
     case t2=>exact aH rfl (cP (aa rfl rfl) (aa rfl rfl) rfl) (aa rfl rfl) (D7 (by exact Zb Z8 15 [_,_,_] [] c2))
     case tup=>exact qq (ak (aa rfl rfl) (ak (aa rfl rfl) (ak (aY (aa rfl rfl) (aa rfl rfl) rfl) av))) (Nat.le_of_ble_eq_true rfl)
     case asg=>exact aY (aa rfl rfl) aC rfl
     case fin=>
      show some (Out.aT,_)=_
      congr 2
      show St.mk _ _ _=_
      rw [show (found++[((p:Int),(b:Int),(k:Int)+p)]).map bZ=found.map bZ++[.tuple [.int p, .int b, .int ((k:Int)+p)]] by rw [List.map_append];rfl]
      rfl
    ·refine aj (fin found (k+1) (by unfold jx;rw [if_pos c1,if_neg c2]) (by exact rq h4) (by exact Zb Z3 25 [_] []):) fun aR e2 r2=> ?_
     refine ⟨aR, ?_,r2⟩
     rw [e2]
     refine' aW (eF (bA rfl ?dS) (aW (cQ (bA rfl ?t2) a9) (aW (cm rfl rfl ?asg) a9))) ?fin
     case dS=>
      by_cases n1:k=row.length - p
      ·refine sF ?_
       exact aH rfl (aa rfl rfl) (cP (bl rfl (ak (aa rfl rfl) av) (qt (len_list (by exact ez hl))) (by decide)) (aa rfl rfl) rfl) (sJ (by exact Zb Z8 16 [_,_,_] [] n1 eN))
      ·refine kK ?_ ?_
       ·exact aH rfl (aa rfl rfl) (cP (bl rfl (ak (aa rfl rfl) av) (qt (len_list (by exact ez hl))) (by decide)) (aa rfl rfl) rfl) (nM (by exact Zb Z3 26 [_,_,_] [] n1))
       ·refine' aH rfl ?h1 ?h2 ?h3
        case h1=>exact bl rfl (ak (cP (bF rfl rfl rfl (aa rfl rfl) (qr (by exact m5) (by exact Zb Z3 27 [_,_,_] [] ‹_› n1) (by exact ez hl))) (bF rfl rfl rfl (aY (aa rfl rfl) (aa rfl rfl) rfl) (qr (by exact Zb Z2 9 [_,_] []) (by exact Zb Z3 28 [_,_,_] [] ‹_› n1) (by exact ez hl))) rfl) av) (yY rfl) (by decide)
        case h2=>exact iF
        case h3=>rw [yZ,tn,y0,decide_eq_true (c1.resolve_left n1)]
     case t2=>exact aH rfl (cP (aa rfl rfl) (aa rfl rfl) rfl) (aa rfl rfl) (L8 (by exact Zb Z8 17 [_,_,_] [] c2))
     case asg=>exact aY (aa rfl rfl) aC rfl
     case fin=>rfl
   ·refine aj (fin found b (by unfold jx;rw [if_neg c1]) (by exact rq h4) (by exact rq h5):) fun aR e2 r2=> ?_
    refine ⟨aR, ?_,r2⟩
    rw [e2]
    have n1:k≠row.length - p:=fun q=>c1 (.inl q)
    have n2:row.getD k 0=row.getD (k+p) 0:=Classical.byContradiction fun q=>c1 (.inr q)
    refine aW (cQ (bA rfl (kK ?_ ?_)) a9) a9
    ·exact aH rfl (aa rfl rfl) (cP (bl rfl (ak (aa rfl rfl) av) (qt (len_list (by exact ez hl))) (by decide)) (aa rfl rfl) rfl) (nM (by exact Zb Z8 18 [_,_,_] [_,_] c1))
    ·refine' aH rfl ?h1 ?h2 ?h3
     case h1=>exact bl rfl (ak (cP (bF rfl rfl rfl (aa rfl rfl) (qr (by exact m5) (by exact Zb Z8 19 [_,_,_] [_,_] ‹_› c1) (by exact ez hl))) (bF rfl rfl rfl (aY (aa rfl rfl) (aa rfl rfl) rfl) (qr (by exact Zb Z2 9 [_,_] []) (by exact Zb Z8 20 [_,_,_] [_,_] ‹_› c1) (by exact ez hl))) rfl) av) (yY rfl) (by decide)
     case h2=>exact iF
     case h3=>rw [yZ,tn,y0,decide_eq_false (fun q=>q n2)]
 ·(refine fm hi ?_;clear hi;intro h1 h2 h3 h4)
  refine sH (iG (aa (d:= .list ((nN row p).map bZ)) ?_ rfl))
  show (match ag.ol.lookup ("found":Str) with | some ds=>some (PyData.list ds) | none=>_)=_
  rw [h1];rfl
section
set_option backward.match.sparseCases true
structure lK (P:Params) (a:Addr) (fd:FuncData) (body:List Stmt):Prop where
 obj:∃o,(KI P).lookup a=some o/\o.data= .func fd
 tab:a∉az
 body:fd.body= .stmts body
 co:fd.scope.isCoroutine=false
 gen:fd.scope.isGenerator=false
 kind:fd.scope.kind= .function
 glob:fd.globals=mainGlobals
 bi:fd.builtins=builtinsNs
 sm:fd.closure=[]
 code:∃c o vs t,fd.code= .ref c/\(KI P).lookup c=some o/\o.data= .fields vs/\vs[1]? =some (.str fd.qualname t)
 jt:fd.scope.names.all (fun p=>df p.1&&(p.2== .local||p.2== .globalImplicit)&&(fd.scope.names.lookup p.1==some p.2))=true
section
variable {prog:Program} {w:World} {mg mb:Str->Option Value}
variable {A:Around} {X:List Addr} {s:Shared} {a:Addr} {fd:FuncData} {body:List Stmt} {binds:List (Str × Value)}
theorem Mb (D:lK w.params a fd body) (hx:aN X s.heap) (C:Ctx w.params mg mb X s.heap) {bf:Heap} {tk:Tok} (oR:∀y∈binds,fd.scope.names.lookup y.1=some .local) (vl:VL) (hv:∀x d,vl.lookup x=some d->∃v,binds.reverse.lookup x=some v/\eA X s.heap v d)
  (bX:bf.Ns s.heap.objs.size (fun x=>binds.reverse.lookup x)) (keep:∀b o,s.heap.get? b=some o->bf.get? b=some o):
  aX none [s.heap.objs.size] X (callEnv fd s.heap.objs.size a) fd.scope/\FS w.params mg mb false none X [s.heap.objs.size] s (callEnv fd s.heap.objs.size a) fd.scope [] ⟨vl,[],none⟩ {s with heap:=bf,toks:=tk}/\
   ∀y v,binds.reverse.lookup y=some v->bq bf (callEnv fd s.heap.objs.size a) y v:=by
 have hL:(callEnv fd s.heap.objs.size a).locals=s.heap.objs.size:=rfl
 have aQ:(callEnv fd s.heap.objs.size a).scope=fd.scope:=rfl
 have aM:(callEnv fd s.heap.objs.size a).cells=[]:=D.sm
 generalize oZ:callEnv fd s.heap.objs.size a=env at*
 have eh:∀y,env.kindOf y=fd.scope.names.lookup y:=fun y=>by unfold Env.kindOf;rw [aQ]
 have nc:∀y b,env.cells.lookup y=some b->False:=fun y b e=>by rw [aM] at e;exact no e
 have fn:∀b∈[s.heap.objs.size],s.heap.get? b=none:=fun b hb=>by rw [List.mem_singleton.mp hb];exact get_none
 have ht:s.heap.objs.size∉az:=fQ C
 have jt:=D.jt
 rw [List.all_eq_true] at jt
 have kinds:∀y k,fd.scope.names.lookup y=some k->df y=true/\(k= .local\/k= .globalImplicit):=fun y k e=>by
  have:=jt _ (mem_of_lookup e)
  simp only [Bool.and_eq_true,Bool.or_eq_true,beq_iff_eq] at this
  exact ⟨this.1.1,this.1.2⟩
 have D9:∀y v,binds.reverse.lookup y=some v->bq bf env y v:=fun y v e=>
  .loc ((eh y).trans (oR (y,v) (List.mem_reverse.mp (PySem.mem_of_lookup e)))) (by rw [hL];exact ht) (by rw [hL];exact bX) e
 refine ⟨⟨aQ,by rw [hL];exact .head _,by rw [hL];exact ht,fun y b e=>(nc y b e).elim,by rw [aM];exact .nil,fun b hb m=> ?_,fun _ _ e=>(nomatch e)⟩,⟨⟨_,_,rfl⟩,aA.of keep,(C.fresh fn).keeps keep,fun b hb=> ?_,fun b hb=>fn b (by simpa using hb),⟨_,by rw [hL];exact bX⟩,fun y b e=>(nc y b e).elim, ?_,fun _ _ e=>(nomatch e), .nil,fun _ m=>(nomatch m),fun _ m=>(nomatch m),fun _ e=>(nomatch e)⟩,D9⟩
 ·refine bV (hx b m:) fun _ o e=> ?_
  rw [fn b hb] at e;exact no e
 ·rcases List.mem_append.mp hb with m | m
  ·cases m
  rcases List.mem_append.mp m with m | m
  ·rw [List.mem_singleton.mp m]
   (refine lg bX ?_;clear bX;intro o _ _ e _)
   exact ⟨ht,o,e⟩
  ·refine bV (hx b m:) fun n o e=> ?_
   exact ⟨n,o,keep b o e⟩
 ·refine ⟨by rw [aQ];exact D.kind,by rw [<- oZ];exact D.glob,by rw [<- oZ];exact D.bi,fun y hy=>(eh y).trans (beq_iff_eq.mp hy),fun y hy=>(eh y).trans (uP.mp hy),fun y hy=> ?_,fun y d e=> ?_,fun y k e=>(kinds y k ((eh y).symm.trans e)).1,fun y b e=>(nc y b e).elim,fun h=>(nomatch h)⟩
  ·unfold lz at hy
   rcases Bool.or_eq_true_iff.mp hy with q | q
   ·rcases (kinds y _ (beq_iff_eq.mp q)).2 with q | q<;>cases q
   ·rcases (kinds y _ (beq_iff_eq.mp q)).2 with q | q<;>cases q
  ·refine aj (hv y d e:) fun v e1 r=> ?_
   exact ⟨v,D9 y v e1,(r.fresh fn).grow (aA.of keep)⟩
theorem nO (D:lK w.params a fd body):∀X h,Ctx w.params mg mb X h->gM (.ref a) h:=fun X h C=>by
 refine aj D.obj fun o ho hd=> ?_
 exact .inr (.inr ⟨a,o,fd,rfl,D.tab,(dI (C.dX _ _ ho)).1,hd⟩)
theorem o7 (D:lK w.params a fd body) (yy:A.depth < recursionLimit) (hx:aN X s.heap) (C:Ctx w.params mg mb X s.heap) {vs:List Value} {kw:List (Str × Value)} (hb:∀S,peek (KI w.params) S (bindArgs fd ⟨vs,kw⟩)=some binds) (oR:∀y∈binds,fd.scope.names.lookup y.1=some .local) (vl:VL) (hv:∀x d,vl.lookup x=some d->∃v,binds.reverse.lookup x=some v/\eA X s.heap v d)
  {R:Value->Shared->Prop} {E:Value->Shared->Prop}
  (h:∀(env:Env) (fr:List Addr) (ab:Shared) (E':Value->Shared->Prop),aX none fr X env fd.scope->FS w.params mg mb false none X fr s env fd.scope [] ⟨vl,[],none⟩ ab->(∀y v,binds.reverse.lookup y=some v->bq ab.heap env y v)->env.cells=[]->
   wpAny (model prog w) (A.deeper env) (execs body env) (fun f s'=>R (match f with | .ret v=>v | _=> .none) s') E' ab):
  wpAny (model prog w) A (call (.ref a) vs kw) R E s:=by
 refine aj D.obj fun o ho hd=> ?_
 refine pD D.code fun c oc vc t hc ky o1 o4=> ?_
 have K:(KI w.params).In s.heap:=C.dX.keeps fc
 refine aj C.nl fun mc oU oV=> ?_
 have jt:=D.jt
 rw [List.all_eq_true] at jt
 refine wpAny_call (codeAny_call_def yy (K _ _ ho) hd ⟨mc,oU,oV⟩ ⟨c,oc,vc,t,hc,K _ _ ky,o1,o4⟩ D.body (kp_binds K hb) (fun x hx e=> ?_) oR (fun bf bX keep=> ?_) D.co D.gen D.kind)
 ·have:=jt _ hx
  simp [e] at this
 ·refine bG (Mb (tk:=s.toks+binds.length) D hx C oR vl hv bX keep:) fun O F H=> ?_
  exact wpAny_mono (h _ _ _ _ O F H D.sm) (fun f s' q=>q) fun _ _ q=>q
end
section
variable {prog:Program} {w:World} {mg mb:Str->Option Value}
variable {A:Around} {lm:Bool} {cd:Option (Addr × Addr)} {af fr:List Addr} {ae s s':Shared} {env:Env} {sc:Scope} {own:List (Str × Addr)} {st:St}
theorem FS.o8 (F:FS w.params mg mb lm cd af fr ae env sc own st s) (O:aX cd fr af env sc) (aM:env.cells=[]) {x:Str} {v:Value} {d:PyData} {E:Value->Shared->Prop} {Q:Unit->Shared->Prop} (hx:iW sc x=true) (jn:x≠ef) (r:Rep (oa own++(fr++af)) s.heap v d)
  (h:∀s',FS w.params mg mb lm cd af fr ae env sc own (st.set x d) s'->(∀y u,y≠x->bq s.heap env y u->bq s'.heap env y u)->Q () s'):wpAny (model prog w) A (storeName env x v) Q E s:=by
 have hk:=F.er.kind
 have eh:env.kindOf x=some .local:=F.er.loc x hx
 have jQ:∀y a,env.cells.lookup y=some a->a≠env.locals:=fun y a e=>by rw [aM] at e;exact no e
 refine xE F.ns fun m ns=> ?_
 refine wpAny_storeName_local eh ns (fun h' dA hs=>h _ ?_ fun y u q a=>a.qh q ns dA hs jQ) (by rw [hk];rfl)
 refine lg (id dA:) fun o es ep e _=> ?_
 refine F.turned O O.loc jn hs ⟨o,e⟩ (ag:=st.set x d) (v:=v) ⟨fun y d' e=> ?_,fun y ds e=> ?_,rfl⟩ (fun y u q a=>a.qh q ns dA hs jQ) (.loc eh O.nB dA (by simp)) ⟨_,dA⟩ fun y b e=>by rw [aM] at e;exact no e
 ·by_cases q:y=x
  ·subst q
   rw [St.ec,if_pos rfl] at e
   cases e
   exact .inr ⟨rfl,r⟩
  ·rw [St.ec,if_neg q] at e
   exact .inl ⟨q,e⟩
 ·by_cases q:y=x
  ·rw [St.qg,if_pos q] at e;exact no e
  ·rw [St.qg,if_neg q] at e
   exact .inl ⟨q,e⟩
theorem y4 {m:Nat} {x:Str} {kv:Value} {κ:PyData->Option PyData} {e:Expr} {xp pos:Pos} {I:aK} {d d':PyData} (hA:Lv m A) (S:br prog w mg mb A lm I) (F:FS w.params mg mb lm cd af fr ae env sc [] st s) (O:aX cd fr af env sc) (hk:bq s.heap env x kv) (K:fb prog w mg mb m af ae.heap kv κ) (he:I.e sc st.v e=some d) (mH:κ d=some d'):
  Ev prog w mg mb A (fr++af) s (eval (.Call (.Name x xp) [e] [] pos) env) (fun v h=>Rep (fr++af) h v d'):=by
 intro E ab k
 refine xA (fR (hk.df F.er.cq):) fun n1 n2=> ?_
 have bD:=Dn (env:=env) S he
 have y5:st.full=st.v:=by
  funext y
  unfold St.full
  have:st.o y=none:=by
   cases q:st.o y with
   | none=>rfl
   | some ds=>refine dq (F.ow y ds q:) fun a vs h1 _=> ?_;exact no h1
  rw [this]
 refine wpAny_Call_Name_kw (wpAny_Name (eZ F.er.kind hk k.grow n2 ?_) n1)
 refine gO (first:=[]) (by rw [bD];rfl) ?_
 rw [bD]
 refine Calls.spliced_cons ((S.e F.cu F.ff F.gm (by rw [y5];exact he)).then k fun v aq k₂ r=>Calls.spliced_nil ⟨?_, ?_⟩)
 ·exact (K.grow (F.gr.trans (k.grow.trans k₂.grow))).keep
 ·exact wpAny_mono (K.2 A fr aq v d d' E hA (F.gr.trans (k.grow.trans k₂.grow)) (fun a ha=>F.fresh a (by simpa using ha)) (F.ff.grow (k.grow.trans k₂.grow)) k₂.ctx r mH) (fun r s' q=>⟨k₂.trans q.1,q.2⟩) fun _ _ q=>q
end
end
noncomputable def cH (left:Bool) (t:Nat->Option Bool):Nat->Nat->Nat->Option Nat
 | 0,lo,hi=>if lo < hi then none else some lo
 | f+1,lo,hi=>if lo < hi then (t ((lo+hi) / 2)).bind fun b=>if b==left then cH left t f ((lo+hi) / 2+1) hi else cH left t f lo ((lo+hi) / 2) else some lo
theorem sO {left:Bool} {t:Nat->Option Bool} {f lo hi:Nat}:cH left t (f+1) lo hi=if lo < hi then (t ((lo+hi) / 2)).bind fun b=>if b==left then cH left t f ((lo+hi) / 2+1) hi else cH left t f lo ((lo+hi) / 2) else some lo:=rfl
section
variable {prog:Program} {w:World} {mg mb:Str->Option Value}
variable {A:Around} {X fr:List Addr} {ae:Shared} {env:Env} {sc:Scope} {kv:Value} {ds:List PyData} {dx:PyData} {m:Nat}
structure BI (prog:Program) (w:World) (mg mb:Str->Option Value) (X fr:List Addr) (ae:Shared) (env:Env) (sc:Scope) (kv:Value) (ds:List PyData) (dx:PyData) (lo hi:Nat) (s:Shared) (st:St):Prop where
 F:FS w.params mg mb false none X fr ae env sc [] st s
 K:bq s.heap env "key" kv
 a:st.v "a"=some (.list ds)
 x:st.v "x"=some dx
 lo:st.v "lo"=some (.int lo)
 hi:st.v "hi"=some (.int hi)
structure BN (sc:Scope):Prop where
 lo:iW sc "lo"=true
 hi:iW sc "hi"=true
 mid:iW sc "mid"=true
theorem Ea (O:aX none fr X env sc) (aM:env.cells=[]) (N:BN sc) (S:br prog w mg mb A false (ah dR eX 6)) {lo hi mid:Nat} {s:Shared} {st:St} {q q' Mc k p p'} {E:Value->Shared->Prop} (B:BI prog w mg mb X fr ae env sc kv ds dx lo hi s st) (hm:st.v "mid"=some (.int mid)):
  wpAny (model prog w) A (execs [.Assign [.Name "lo" q] (.BinOp (.Name "mid" q') .Add (.Constant (.int 1) k Mc) p) p'] env) (fun f s'=>f= .next/\∃ag,BI prog w mg mb X fr ae env sc kv ds dx (mid+1) hi s' ag) E s:=by
 refine wpAny_execs_cons (wpAny_Assign_Name ((S.e B.F.ctx B.F.aD B.F.er (aY (aa hm rfl) aC rfl)).then (Kp.refl B.F.ctx) fun v ab k₁ r=> ?_) rfl)
 refine (B.F.kp O k₁).o8 O aM N.lo (by decide) r fun aq aB y6=>wpAny_execs_nil ⟨rfl,_,aB,y6 _ _ (by decide) (B.K.grow k₁.grow), ?_, ?_, ?_, ?_⟩
 ·rw [St.ec,if_neg (by decide)];exact B.a
 ·rw [St.ec,if_neg (by decide)];exact B.x
 ·rw [St.ec,if_pos rfl];rfl
 ·rw [St.ec,if_neg (by decide)];exact B.hi
theorem Eb (O:aX none fr X env sc) (aM:env.cells=[]) (N:BN sc) (S:br prog w mg mb A false (ah dR eX 6)) {lo hi mid:Nat} {s:Shared} {st:St} {q q' p'} {E:Value->Shared->Prop} (B:BI prog w mg mb X fr ae env sc kv ds dx lo hi s st) (hm:st.v "mid"=some (.int mid)):
  wpAny (model prog w) A (execs [.Assign [.Name "hi" q] (.Name "mid" q') p'] env) (fun f s'=>f= .next/\∃ag,BI prog w mg mb X fr ae env sc kv ds dx lo mid s' ag) E s:=by
 refine wpAny_execs_cons (wpAny_Assign_Name ((S.e B.F.ctx B.F.aD B.F.er (aa hm rfl)).then (Kp.refl B.F.ctx) fun v ab k₁ r=> ?_) rfl)
 refine (B.F.kp O k₁).o8 O aM N.hi (by decide) r fun aq aB y6=>wpAny_execs_nil ⟨rfl,_,aB,y6 _ _ (by decide) (B.K.grow k₁.grow), ?_, ?_, ?_, ?_⟩
 ·rw [St.ec,if_neg (by decide)];exact B.a
 ·rw [St.ec,if_neg (by decide)];exact B.x
 ·rw [St.ec,if_neg (by decide)];exact B.lo
 ·rw [St.ec,if_pos rfl]
theorem Md (O:aX none fr X env sc) (aM:env.cells=[]) (N:BN sc) (S:br prog w mg mb A false (ah dR eX 6)) (left:Bool) {t:Nat->Option Bool} {dS:Expr} {jW sP:List Stmt} {q1 q2 q3 q4 q5 q6 q7 q8 q9 o9 qu qv k1}
  (hT:∀(mid:Nat) (lo hi:Nat) (s:Shared) (st:St) (b:Bool) (E:Value->Shared->Prop),mid < 5000->BI prog w mg mb X fr ae env sc kv ds dx lo hi s st->st.v "mid"=some (.int mid)->t mid=some b->wpAny (model prog w) A (isTrue dS env (eval dS env)) (fun b' s'=>b'=b/\BI prog w mg mb X fr ae env sc kv ds dx lo hi s' st) E s)
  (hB:∀(b:Bool) (mid lo hi:Nat) (s:Shared) (st:St) (E:Value->Shared->Prop),BI prog w mg mb X fr ae env sc kv ds dx lo hi s st->st.v "mid"=some (.int mid)->wpAny (model prog w) A (execs (if b then jW else sP) env) (fun f s'=>f= .next/\∃ag,BI prog w mg mb X fr ae env sc kv ds dx (if b==left then mid+1 else lo) (if b==left then hi else mid) s' ag) E s)
  {f lo hi r:Nat} (hr:cH left t f lo hi=some r) (hb:hi<=5000) {s:Shared} {st:St} (B:BI prog w mg mb X fr ae env sc kv ds dx lo hi s st) {E:Value->Shared->Prop}:
  wpAny (model prog w) A (exec (.While (.Compare (.Name "lo" q1) [.Lt] [.Name "hi" q2] q3) [.Assign [.Name "mid" q4] (.BinOp (.BinOp (.Name "lo" q5) .Add (.Name "hi" q6) q7) .FloorDiv (.Constant (.int 2) k1 q8) q9) o9, .If dS jW sP qu] [] qv) env)
   (fun fl s'=>fl= .next/\∃ag lq,BI prog w mg mb X fr ae env sc kv ds dx r lq s' ag) E s:=by
 refine wpAny_While (codeAny_whileLoop (fun n s=>∃f lo hi st,n=hi - lo/\cH left t f lo hi=some r/\hi<=5000/\BI prog w mg mb X fr ae env sc kv ds dx lo hi s st) ?_ (hi - lo) ⟨f,lo,hi,st,rfl,hr,hb,B⟩)
 rintro n s ⟨f,lo,hi,st,rfl,hr,hb,B⟩
 refine (S.t B.F.ctx B.F.aD B.F.er (aH rfl (aa B.lo rfl) (aa B.hi rfl) rfl)).then (Kp.refl B.F.ctx) fun b ab k₁ e=> ?_
 subst e
 have gp:BI prog w mg mb X fr ae env sc kv ds dx lo hi ab st:=⟨B.F.kp O k₁,B.K.grow k₁.grow,B.a,B.x,B.lo,B.hi⟩
 by_cases bg:lo < hi
 ·have e1:decide ((lo:Int) < (hi:Int))=true:=by simp;exact bg
  rw [e1]
  simp only [if_true]
  cases f with
  | zero=>simp [cH,bg] at hr
  | succ f=>
   rw [sO,if_pos bg] at hr
   refine ai hr fun b iC hr=> ?_
   have hdiv:gJ .FloorDiv (.int ((lo:Int)+(hi:Int))) (.int 2)=some (.int (((lo+hi) / 2:Nat):Int)):=by
    rw [By (by exact Zb cA 0 [_,_] [] bg hb)]
    congr 2
    rw [Int.fdiv_eq_ediv_of_nonneg _ (by exact Zb Z4 15 [] [])]
    rfl
   refine wpAny_execs_cons (wpAny_Assign_Name ((S.e gp.F.ctx gp.F.aD gp.F.er (sD (aY (aa B.lo rfl) (aa B.hi rfl) rfl) aC hdiv)).then (Kp.refl gp.F.ctx) fun v aq k₂ rv=> ?_) rfl)
   refine (gp.F.kp O k₂).o8 O aM N.mid (by decide) rv fun aS bu sQ=> ?_
   have Me:BI prog w mg mb X fr ae env sc kv ds dx lo hi aS (st.set "mid" (.int (((lo+hi) / 2:Nat):Int))):=⟨bu,sQ _ _ (by decide) (gp.K.grow k₂.grow),by rw [St.ec,if_neg (by decide)];exact B.a,by rw [St.ec,if_neg (by decide)];exact B.x,by rw [St.ec,if_neg (by decide)];exact B.lo,by rw [St.ec,if_neg (by decide)];exact B.hi⟩
   have hm:(st.set "mid" (.int (((lo+hi) / 2:Nat):Int))).v "mid"=some (.int (((lo+hi) / 2:Nat):Int)):=by rw [St.ec,if_pos rfl]
   refine wpAny_execs_cons (wpAny_If (wpAny_mono (hT _ lo hi aS _ b _ (by exact Zb cA 1 [_,_,_] [] (bW _) bg hb) Me hm iC) (fun b' fG q=> ?_) fun _ _ q=>q))
   (refine xA q ?_;clear q;intro ay mJ;subst ay)
   have fin:∀c7:Shared,(∃ag,BI prog w mg mb X fr ae env sc kv ds dx (if b'==left then (lo+hi) / 2+1 else lo) (if b'==left then hi else (lo+hi) / 2) c7 ag)->∃m,m < hi - lo/\∃f lo hi st,m=hi - lo/\cH left t f lo hi=some r/\hi<=5000/\BI prog w mg mb X fr ae env sc kv ds dx lo hi c7 st:=by
    intro c7 q
    (refine xE q ?_;clear q;intro SI qw)
    cases hq:b'==left with
    | true=>
     rw [hq] at hr qw
     simp only [if_true] at hr qw
     exact ⟨hi - ((lo+hi) / 2+1),by exact Zb cA 2 [_,_,_] [] (bW _) bg,f,_,_,_,rfl,hr,hb,qw⟩
    | false=>
     rw [hq] at hr qw
     simp only [Bool.false_eq_true,if_false] at hr qw
     exact ⟨(lo+hi) / 2 - lo,by exact Zb cA 3 [_,_,_] [] (bW _) bg,f,_,_,_,rfl,hr,by exact Zb cA 4 [_,_,_] [] (bW _) bg hb,qw⟩
   cases b' with
   | true=>
    simp only [if_true]
    refine wpAny_mono (hB true _ lo hi fG _ _ mJ hm) (fun fl c7 q=> ?_) fun _ _ q=>q
    (refine xA q ?_;clear q;intro aF q;subst aF)
    exact wpAny_execs_nil (fin c7 q)
   | false=>
    simp only [Bool.false_eq_true,if_false]
    refine wpAny_mono (hB false _ lo hi fG _ _ mJ hm) (fun fl c7 q=> ?_) fun _ _ q=>q
    (refine xA q ?_;clear q;intro aP q;subst aP)
    exact wpAny_execs_nil (fin c7 q)
 ·have e1:decide ((lo:Int) < (hi:Int))=false:=by simp;exact Zb Z1 13 [_,_] [] bg
  rw [e1]
  simp only [Bool.false_eq_true,if_false]
  refine wpAny_execs_nil ⟨rfl,st,hi, ?_⟩
  have:r=lo:=by
   cases f with
   | zero=>simp [cH,bg] at hr;exact hr.symm
   | succ f=>simp [cH,bg] at hr;exact hr.symm
  subst this
  exact gp
end
noncomputable def Ec (P:Params) (a:Addr):Tok:=match (KI P).lookup a with
 | some o=>(match o.data with | .seq xs _=>(match xs.toList with | Value.int _ t::_=>t | _=>0) | _=>0)
 | _=>0
theorem Mf (P:Params) (S:Setting) (va vx kv:Value):peek (KI P) S (bindArgs (bj P 65 bk) ⟨[va,vx],[(hU,kv)]⟩)=some ([("a",va),("x",vx),("lo", .int 0 (Ec P 57)),("hi", .none),("key",kv)]:List (Str × Value)):=by kernel_rfl
theorem Mg (P:Params) (S:Setting) (va vx vl kv:Value):peek (KI P) S (bindArgs (bj P 65 bk) ⟨[va,vx,vl],[(hU,kv)]⟩)=some ([("a",va),("x",vx),("lo",vl),("hi", .none),("key",kv)]:List (Str × Value)):=by kernel_rfl
theorem Mh (P:Params) (S:Setting) (va vx vl vh kv:Value):peek (KI P) S (bindArgs (bj P 56 bk) ⟨[va,vx,vl,vh],[(hU,kv)]⟩)=some ([("a",va),("x",vx),("lo",vl),("hi",vh),("key",kv)]:List (Str × Value)):=by kernel_rfl
theorem Mi (P:Params) (S:Setting) (va vx kv:Value):peek (KI P) S (bindArgs (bj P 47 bk) ⟨[va,vx],[(hU,kv)]⟩)=some ([("a",va),("x",vx),("lo", .int 0 (Ec P 39)),("hi", .none),("key",kv)]:List (Str × Value)):=by kernel_rfl
theorem Ed (P:Params):lK P 65 (bj P 65 bk) (bU P 65):=⟨⟨_,rfl,rfl⟩,by decide,rfl,rfl,rfl,rfl,rfl,rfl,rfl,⟨_,_,_,_,rfl,rfl,rfl,rfl⟩,rfl⟩
theorem Ee (P:Params):lK P 56 (bj P 56 bk) (bU P 56):=⟨⟨_,rfl,rfl⟩,by decide,rfl,rfl,rfl,rfl,rfl,rfl,rfl,⟨_,_,_,_,rfl,rfl,rfl,rfl⟩,rfl⟩
theorem Ef (P:Params):lK P 47 (bj P 47 bk) (bU P 47):=⟨⟨_,rfl,rfl⟩,by decide,rfl,rfl,rfl,rfl,rfl,rfl,rfl,⟨_,_,_,_,rfl,rfl,rfl,rfl⟩,rfl⟩
theorem y7 (P:Params):BN (bj P 65 bk).scope:=⟨rfl,rfl,rfl⟩
theorem y8 (P:Params):BN (bj P 56 bk).scope:=⟨rfl,rfl,rfl⟩
section
variable {prog:Program} {w:World} {mg mb:Str->Option Value}
variable {A:Around} {X fr:List Addr} {ae:Shared} {env:Env} {sc:Scope} {kv:Value} {ds:List PyData} {dx:PyData} {m:Nat} {κ:PyData->Option PyData}
theorem fM (hA:cG A):∀n,br prog w mg mb A false (ah dR eX n):=kB (m:=0) hA gR (nI hA.hd (by have:=hA.un;exact Zb cA 7 [_,_] [] this))
theorem Mj (hA:cG A) (O:aX none fr X env sc) {s:Shared} {st:St} {E:Value->Shared->Prop} {p k q r:_} (F:FS w.params mg mb false none X fr ae env sc [] st s) (H:bq s.heap env "key" kv) (hk:∃a,kv= .ref a):
  wpAny (model prog w) A (isTrue (.Compare (.Name "key" p) [.Is] [.Constant .none k q] r) env (eval (.Compare (.Name "key" p) [.Is] [.Constant .none k q] r) env)) (fun b s'=>b=false/\FS w.params mg mb false none X fr ae env sc [] st s'/\bq s'.heap env "key" kv) E s:=by
 refine xA (fR (H.df F.er.cq):) fun n1 n2=> ?_
 refine wpAny_isTrue_Compare1 (wpAny_Name (eZ F.er.kind H (aA.refl _) n2 ?_) n1) rfl
 refine ((fM hA 1).e F.ctx F.aD F.er (sC (k:=k) (p:=q))).then (Kp.refl F.ctx) fun v ab k₁ rv=> ?_
 obtain rfl:=rv.none_inv
 (refine xE hk ?_;clear hk;intro a ay;subst ay)
 exact wpAny_is_plain rfl (wpAny_truthy_bool ⟨rfl,F.kp O k₁,H.grow k₁.grow⟩)
noncomputable def tL (ds:List PyData) (dx:PyData) (κ:PyData->Option PyData) (i:Nat):Option Bool:=(ds[i]?).bind fun d=>(κ d).bind fun d'=>cg .Lt d' dx
noncomputable def tR (ds:List PyData) (dx:PyData) (κ:PyData->Option PyData) (i:Nat):Option Bool:=(ds[i]?).bind fun d=>(κ d).bind fun d'=>cg .Lt dx d'
theorem Eg {ds:List PyData} {i:Nat} {d:PyData} (h:i < 5000) (e:ds[i]? =some d):iz (.list ds) (.int i)=some d:=by
 have hc:0<=(i:Int)/\(i:Int) < 1000000:=by exact Zb cA 8 [_] [] h
 rw [yV,if_pos hc,Int.toNat_natCast,e]
theorem Mk (hA:Lv m A) (O:aX none fr X env sc) (K:fb prog w mg mb m X ae.heap kv κ) {p1 p2 p3 p4 p5 p6 p7:Pos} (mid lo hi:Nat) (s:Shared) (st:St) (b:Bool) (E:Value->Shared->Prop) (pb:mid < 5000) (B:BI prog w mg mb X fr ae env sc kv ds dx lo hi s st) (hm:st.v "mid"=some (.int mid)) (ht:tL ds dx κ mid=some b):
  wpAny (model prog w) A (isTrue (.Compare (.Call (.Name "key" p1) [.Subscript (.Name "a" p2) (.Name "mid" p3) p4] [] p5) [.Lt] [.Name "x" p6] p7) env (eval (.Compare (.Call (.Name "key" p1) [.Subscript (.Name "a" p2) (.Name "mid" p3) p4] [] p5) [.Lt] [.Name "x" p6] p7) env)) (fun b' s'=>b'=b/\BI prog w mg mb X fr ae env sc kv ds dx lo hi s' st) E s:=by
 refine ai ht fun d hd ht=> ?_
 refine ai ht fun d' gP ht=> ?_
 have hx:noDict dx=some dx:=by
  cases dx<;>first | rfl | (cases d'<;>exact no ht)
 refine wpAny_isTrue_Compare1 ((y4 hA (fM hA.ok 6) B.F O B.K K (bF rfl B.a rfl (aa hm rfl) (Eg pb hd)) gP).then (Kp.refl B.F.cu) fun v ab k₁ rv=> ?_) rfl
 refine ((fM hA.ok 6).e k₁.ctx (B.F.ff.grow k₁.grow) (B.F.er.grow k₁.grow) (aa B.x hx)).then (Kp.refl k₁.ctx) fun u aq k₂ ru=> ?_
 refine wpAny_mono (pR hA.ok k₂.ctx (rv.grow k₂.grow) ru ht) (fun cv aS q=> ?_) fun _ _ q=>q
 (refine xA q ?_;clear q;intro bS rc)
 obtain rfl:=rc.bool_inv
 have kk:=(k₁.trans k₂).trans bS
 exact wpAny_truthy_bool ⟨rfl,B.F.dC O kk,B.K.grow kk.grow,B.a,B.x,B.lo,B.hi⟩
theorem Ml (hA:Lv m A) (O:aX none fr X env sc) (K:fb prog w mg mb m X ae.heap kv κ) {p1 p2 p3 p4 p5 p6 p7:Pos} (mid lo hi:Nat) (s:Shared) (st:St) (b:Bool) (E:Value->Shared->Prop) (pb:mid < 5000) (B:BI prog w mg mb X fr ae env sc kv ds dx lo hi s st) (hm:st.v "mid"=some (.int mid)) (ht:tR ds dx κ mid=some b):
  wpAny (model prog w) A (isTrue (.Compare (.Name "x" p6) [.Lt] [.Call (.Name "key" p1) [.Subscript (.Name "a" p2) (.Name "mid" p3) p4] [] p5] p7) env (eval (.Compare (.Name "x" p6) [.Lt] [.Call (.Name "key" p1) [.Subscript (.Name "a" p2) (.Name "mid" p3) p4] [] p5] p7) env)) (fun b' s'=>b'=b/\BI prog w mg mb X fr ae env sc kv ds dx lo hi s' st) E s:=by
 refine ai ht fun d hd ht=> ?_
 refine ai ht fun d' gP ht=> ?_
 have hx:noDict dx=some dx:=by
  cases dx<;>first | rfl | (cases d'<;>exact no ht)
 refine wpAny_isTrue_Compare1 (((fM hA.ok 6).e B.F.cu B.F.ff B.F.er (aa B.x hx)).then (Kp.refl B.F.cu) fun u ab k₁ ru=> ?_) rfl
 have gp:BI prog w mg mb X fr ae env sc kv ds dx lo hi ab st:=⟨B.F.dC O k₁,B.K.grow k₁.grow,B.a,B.x,B.lo,B.hi⟩
 refine (y4 hA (fM hA.ok 6) gp.F O gp.K K (bF rfl gp.a rfl (aa hm rfl) (Eg pb hd)) gP).then (Kp.refl gp.F.cu) fun v aq k₂ rv=> ?_
 refine wpAny_mono (pR hA.ok k₂.ctx (ru.grow k₂.grow) rv ht) (fun cv aS q=> ?_) fun _ _ q=>q
 (refine xA q ?_;clear q;intro bS rc)
 obtain rfl:=rc.bool_inv
 have kk:=k₂.trans bS
 exact wpAny_truthy_bool ⟨rfl,gp.F.dC O kk,gp.K.grow kk.grow,gp.a,gp.x,gp.lo,gp.hi⟩
theorem Eh (left:Bool) (hA:Lv m A) (O:aX none fr X env sc) (aM:env.cells=[]) (N:BN sc) (K:fb prog w mg mb m X ae.heap kv κ) {s:Shared} {st:St} {lo hi r:Nat} {hd:PyData} {t:Nat->Option Bool}
  {dS:Expr} {jW sP w1 rs:List Stmt} {q1 q2 q3 q4 q5 q6 q7 q8 q9 o9 qu qv k1 p1 p2 p3 p4 p5 p6 p7 p8 p9 vC vD vE vF y9 vG za zb vH zc k2 k3 k4}
  (hT:∀(mid:Nat) (lo hi:Nat) (s:Shared) (st:St) (b:Bool) (E:Value->Shared->Prop),mid < 5000->BI prog w mg mb X fr ae env sc kv ds dx lo hi s st->st.v "mid"=some (.int mid)->t mid=some b->wpAny (model prog w) A (isTrue dS env (eval dS env)) (fun b' s'=>b'=b/\BI prog w mg mb X fr ae env sc kv ds dx lo hi s' st) E s)
  (hB:∀(b:Bool) (mid lo hi:Nat) (s:Shared) (st:St) (E:Value->Shared->Prop),BI prog w mg mb X fr ae env sc kv ds dx lo hi s st->st.v "mid"=some (.int mid)->wpAny (model prog w) A (execs (if b then jW else sP) env) (fun f s'=>f= .next/\∃ag,BI prog w mg mb X fr ae env sc kv ds dx (if b==left then mid+1 else lo) (if b==left then hi else mid) s' ag) E s)
  (hlen:dP sc "len"=true) (F:FS w.params mg mb false none X fr ae env sc [] st s) (H:bq s.heap env "key" kv) (ha:st.v "a"=some (.list ds)) (sR:st.v "x"=some dx) (my:st.v "lo"=some (.int lo)) (oW:st.v "hi"=some hd) (Mm:(hd= .none/\hi=ds.length)\/hd= .int hi) (hb:hi<=4096) (hr:cH left t (hi+1) lo hi=some r) {E:Value->Shared->Prop}:
  wpAny (model prog w) A (execs [.If (.Compare (.Name "lo" p1) [.Lt] [.Constant (.int 0) k2 p2] p3) rs [] p4, .If (.Compare (.Name "hi" p5) [.Is] [.Constant .none k3 p6] p7) [.Assign [.Name "hi" p8] (.Call (.Name "len" p9) [.Name "a" vC] [] vD) vE] [] vF,
   .If (.Compare (.Name "key" y9) [.Is] [.Constant .none k4 vG] za) w1 [.While (.Compare (.Name "lo" q1) [.Lt] [.Name "hi" q2] q3) [.Assign [.Name "mid" q4] (.BinOp (.BinOp (.Name "lo" q5) .Add (.Name "hi" q6) q7) .FloorDiv (.Constant (.int 2) k1 q8) q9) o9, .If dS jW sP qu] [] qv] zb, .Return (some (.Name "lo" vH)) zc] env)
   (fun f s'=>Kp w.params mg mb X ae s'/\∃t,f= .ret (.int r t)) E s:=by
 have bo:=hA.ok
 have S:=fM (prog:=prog) (w:=w) (mg:=mg) (mb:=mb) bo
 refine wpAny_execs_cons (wpAny_If (((S 6).t F.ctx F.aD F.er (aH rfl (aa my rfl) aC rfl)).then (Kp.refl F.ctx) fun b ab k₁ e=> ?_))
 subst e
 have e1:decide ((lo:Int) < 0)=false:=by simp
 rw [e1]
 simp only [Bool.false_eq_true,if_false]
 refine wpAny_execs_nil ?_
 have au:=F.kp O k₁
 have Ei:=H.grow k₁.grow
 have part2:∀(E:Value->Shared->Prop),wpAny (model prog w) A (exec (.If (.Compare (.Name "hi" p5) [.Is] [.Constant .none k3 p6] p7) [.Assign [.Name "hi" p8] (.Call (.Name "len" p9) [.Name "a" vC] [] vD) vE] [] vF) env) (fun f s'=>f= .next/\∃ag,BI prog w mg mb X fr ae env sc kv ds dx lo hi s' ag) E ab:=fun E=>by
  rcases Mm with ⟨rfl,rfl⟩ | rfl
  ·refine wpAny_If (((S 6).t au.ctx au.aD au.er (aH rfl (aa oW rfl) sC rfl)).then (Kp.refl au.ctx) fun b aq k₂ e=> ?_)
   subst e
   simp only [if_true]
   have aB:=au.kp O k₂
   have hl:dR.fn "len" [.list ds]=some (.int ds.length):=by
    exact if_pos hb
   refine wpAny_execs_cons (wpAny_Assign_Name (((S 6).e aB.ctx aB.aD aB.er (bl hlen (ak (aa ha rfl) av) hl (by decide))).then (Kp.refl aB.ctx) fun v aS bS r=> ?_) rfl)
   refine (aB.kp O bS).o8 O aM N.hi (by decide) r fun fG dQ vI=>wpAny_execs_nil ⟨rfl,_,dQ,vI _ _ (by decide) ((Ei.grow k₂.grow).grow bS.grow), ?_, ?_, ?_, ?_⟩
   ·rw [St.ec,if_neg (by decide)];exact ha
   ·rw [St.ec,if_neg (by decide)];exact sR
   ·rw [St.ec,if_neg (by decide)];exact my
   ·rw [St.ec,if_pos rfl]
  ·refine wpAny_If (((S 6).t au.ctx au.aD au.er (aH rfl (aa oW rfl) sC rfl)).then (Kp.refl au.ctx) fun b aq k₂ e=> ?_)
   subst e
   simp only [Bool.false_eq_true,if_false]
   exact wpAny_execs_nil ⟨rfl,st,au.kp O k₂,Ei.grow k₂.grow,ha,sR,my,oW⟩
 refine wpAny_execs_cons (wpAny_mono (part2 _) (fun f aq q=> ?_) fun _ _ q=>q)
 (refine bV q ?_;clear q;intro aF uJ qx;subst aF)
 have kA:∃a,kv= .ref a:=by (refine xA K ?_;clear K;intro aP _;obtain ⟨a,_,_,e,_⟩:=aP);exact ⟨a,e⟩
 refine wpAny_execs_cons (wpAny_If (wpAny_mono (Mj bo O qx.F qx.K kA) (fun b aS q=> ?_) fun _ _ q=>q))
 (refine bG q ?_;clear q;intro bI bu sQ;subst bI)
 simp only [Bool.false_eq_true,if_false]
 refine wpAny_execs_cons (wpAny_mono (Md O aM N (S 6) left hT hB hr (by exact Zb cA 9 [_] [] hb) (s:=aS) (st:=uJ) ⟨bu,sQ,qx.a,qx.x,qx.lo,qx.hi⟩) (fun f fG q=> ?_) fun _ _ q=>q)
 obtain ⟨rfl,CA,SJ,mJ⟩:=q
 refine wpAny_execs_nil (wpAny_execs_cons (wpAny_Return_some (((S 6).e mJ.F.ctx mJ.F.aD mJ.F.er (aa mJ.lo rfl)).then (Kp.refl mJ.F.ctx) fun v c7 fA r=> ?_)))
 (refine xE r.int_inv fun t bK=> ?_;subst bK)
 have cI:=mJ.F.kp O fA
 refine cN cI.eq fun h' tk e=> ?_
 exact ⟨⟨h',tk,e,by have:=cI.gr;rw [e] at this;exact this,by have:=cI.ctx.less (X:=X) fun _ q=>List.mem_append_right _ (List.mem_append_right _ q);rw [e] at this;exact this⟩,t,rfl⟩
noncomputable def nP (ds:List PyData) (κ:PyData->Option PyData):Option PyData:=
 match ds with
 | [.list xs,x]=>if xs.length<=4096 then (cH true (tL xs x κ) (xs.length+1) 0 xs.length).map fun (r:Nat)=> .int r else none
 | [.list xs,x, .int k]=>if 0<=k/\xs.length<=4096 then (cH true (tL xs x κ) (xs.length+1) k.toNat xs.length).map fun (r:Nat)=> .int r else none
 | _=>none
theorem Mn {ds:List PyData} {κ:PyData->Option PyData} {d:PyData} {P:Prop} (h:nP ds κ=some d) (k1:∀xs x,ds=[.list xs,x]->xs.length<=4096->(cH true (tL xs x κ) (xs.length+1) 0 xs.length).map (fun (r:Nat)=>PyData.int r)=some d->P)
  (k2:∀xs x k,ds=[.list xs,x, .int k]->0<=k/\xs.length<=4096->(cH true (tL xs x κ) (xs.length+1) k.toNat xs.length).map (fun (r:Nat)=>PyData.int r)=some d->P):P:=by
 cases ds with
 | nil=>exact no h
 | cons a ds=>
 cases a with
 | list xs=>
  cases ds with
  | nil=>exact no h
  | cons x ds=>
  cases ds with
  | nil=>exact aO h fun q h=>k1 _ _ rfl q h
  | cons k ds=>
  cases k with
  | int k=>
   cases ds with
   | nil=>exact aO h fun q h=>k2 _ _ _ rfl q h
   | cons=>exact no h
  | _=>exact no h
 | _=>exact no h
theorem Mo {s:Shared} {vs:List Value} {d:PyData} {E:Value->Shared->Prop} (hA:Lv (m+1) A) (hx:aN X s.heap) (C:Ctx w.params mg mb X s.heap) (r:ax X s.heap vs ds) (K:fb prog w mg mb m X s.heap kv κ) (h:nP ds κ=some d):
  wpAny (model prog w) A (call (.ref 65) vs [(hU,kv)]) (fun v s'=>Kp w.params mg mb X s s'/\Rep X s'.heap v d) E s:=by
 have fin:∀{xs:List PyData} {x:PyData} {lo r:Nat} {va vx vl:Value} {binds:List (Str × Value)},(∀S,peek (KI w.params) S (bindArgs (bj w.params 65 bk) ⟨vs,[(hU,kv)]⟩)=some binds)->binds=([("a",va),("x",vx),("lo",vl),("hi", .none),("key",kv)]:List (Str × Value))->xs.length<=4096->cH true (tL xs x κ) (xs.length+1) lo xs.length=some r->Rep X s.heap va (.list xs)->Rep X s.heap vx x->Rep X s.heap vl (.int lo)->
   wpAny (model prog w) A (call (.ref 65) vs [(hU,kv)]) (fun v s'=>Kp w.params mg mb X s s'/\Rep X s'.heap v (.int r)) E s:=by
  intro xs x lo r va vx vl binds hb e hl hr ra rx rl
  subst e
  refine o7 (Ed w.params) hA.room hx C hb (fun y hy=> ?_) ([("a", .list xs),("x",x),("lo", .int lo),("hi", .none)]:VL) (fun y d e=> ?_) fun env fr ab E' O F H aM=> ?_
  ·simp only [List.mem_cons,List.not_mem_nil,or_false] at hy
   rcases hy with rfl | rfl | rfl | rfl | rfl<;>rfl
  ·rw [List.lookup_cons] at e
   by_cases q1:y="a"
   ·subst q1;(obtain rfl:=Option.some.inj e;clear e);exact ⟨va,rfl, .inl ra⟩
   ·rw [beq_eq_false_iff_ne.mpr q1] at e
    simp only [List.lookup_cons] at e
    by_cases q2:y="x"
    ·subst q2;cases e;exact ⟨vx,rfl, .inl rx⟩
    ·rw [beq_eq_false_iff_ne.mpr q2] at e
     by_cases q3:y="lo"
     ·subst q3;(obtain rfl:=Option.some.inj e;clear e);exact ⟨vl,rfl, .inl rl⟩
     ·rw [beq_eq_false_iff_ne.mpr q3] at e
      by_cases q4:y="hi"
      ·subst q4;(obtain rfl:=Option.some.inj e;clear e);exact ⟨.none,rfl, .inl .none⟩
      ·rw [beq_eq_false_iff_ne.mpr q4] at e
       exact no e
  ·have bo:Lv m (A.deeper env):=hA.deeper env
   refine wpAny_mono (Eh (left:=true) (kv:=kv) (κ:=κ) (ds:=xs) (dx:=x) (t:=tL xs x κ) (lo:=lo) (hi:=xs.length) (hd:= .none) (r:=r) bo O aM (y7 w.params) K (Mk bo O K) (fun b mid lo hi s st E B hm=> ?_) rfl F (H "key" kv rfl) rfl rfl rfl rfl (.inl ⟨rfl,rfl⟩) hl hr) (fun f s' q=> ?_) fun _ _ q=>q
   ·cases b with
    | true=>exact Ea O aM (y7 w.params) (fM bo.ok 6) B hm
    | false=>exact Eb O aM (y7 w.params) (fM bo.ok 6) B hm
   ·(refine bV q ?_;clear q;intro k t bO;subst bO)
    exact ⟨k, .int _ _⟩
 refine Mn h (fun xs x q hl h5=> ?_) (fun xs x k q hl h5=> ?_)<;>subst q
 ·(refine cO h5 fun r' hr cF=> ?_;subst cF)
  (refine aU r.cons_inv fun va us c9 ra q=> ?_;subst c9)
  obtain ⟨vx,us,rfl,rx,q⟩:=q.cons_inv
  rw [q.nil_inv]
  rw [q.nil_inv] at fin
  exact fin (fun S=>Mf _ S va vx kv) rfl hl hr ra rx (.int _ _)
 ·(refine cO h5 fun r' hr dz=> ?_;subst dz)
  (refine aU r.cons_inv fun va us fu ra q=> ?_;subst fu)
  obtain ⟨vx,us,rfl,rx,q⟩:=q.cons_inv
  obtain ⟨vl,us,rfl,rl,q⟩:=q.cons_inv
  rw [q.nil_inv]
  rw [q.nil_inv] at fin
  refine fin (fun S=>Mg _ S va vx vl kv) rfl hl.2 hr ra rx ?_
  rw [Int.toNat_of_nonneg hl.1];exact rl
noncomputable def nQ (xs:List PyData) (x:PyData) (κ:PyData->Option PyData):Option Nat:=if xs.length<=4096 then cH false (tR xs x κ) (xs.length+1) 0 xs.length else none
theorem Mp {s:Shared} {va vx vl:Value} {x:PyData} {r:Nat} {xs:List PyData} {E:Value->Shared->Prop} (hA:Lv (m+1) A) (hx:aN X s.heap) (C:Ctx w.params mg mb X s.heap) (ra:Rep X s.heap va (.list xs)) (rx:Rep X s.heap vx x) (rl:Rep X s.heap vl (.int 0)) (K:fb prog w mg mb m X s.heap kv κ) (h:nQ xs x κ=some r):
  wpAny (model prog w) A (call (.ref 56) [va,vx,vl, .none] [(hU,kv)]) (fun v s'=>Kp w.params mg mb X s s'/\∃t,v= .int r t) E s:=by
 unfold nQ at h
 split at h
 case isFalse=>exact no h
 rename_i hl
 refine o7 (Ee w.params) hA.room hx C (fun S=>Mh _ S va vx vl .none kv) (fun y hy=> ?_) ([("a", .list xs),("x",x),("lo", .int 0),("hi", .none)]:VL) (fun y d e=> ?_) fun env fr ab E' O F H aM=> ?_
 ·simp only [List.mem_cons,List.not_mem_nil,or_false] at hy
  rcases hy with rfl | rfl | rfl | rfl | rfl<;>rfl
 ·rw [List.lookup_cons] at e
  by_cases q1:y="a"
  ·subst q1;(obtain rfl:=Option.some.inj e;clear e);exact ⟨va,rfl, .inl ra⟩
  ·rw [beq_eq_false_iff_ne.mpr q1] at e
   simp only [List.lookup_cons] at e
   by_cases q2:y="x"
   ·subst q2;cases e;exact ⟨vx,rfl, .inl rx⟩
   ·rw [beq_eq_false_iff_ne.mpr q2] at e
    by_cases q3:y="lo"
    ·subst q3;(obtain rfl:=Option.some.inj e;clear e);exact ⟨vl,rfl, .inl rl⟩
    ·rw [beq_eq_false_iff_ne.mpr q3] at e
     by_cases q4:y="hi"
     ·subst q4;(obtain rfl:=Option.some.inj e;clear e);exact ⟨.none,rfl, .inl .none⟩
     ·rw [beq_eq_false_iff_ne.mpr q4] at e
      exact no e
 ·have bo:Lv m (A.deeper env):=hA.deeper env
  refine wpAny_mono (Eh (left:=false) (kv:=kv) (κ:=κ) (ds:=xs) (dx:=x) (t:=tR xs x κ) (lo:=0) (hi:=xs.length) (hd:= .none) (r:=r) bo O aM (y8 w.params) K (Ml bo O K) (fun b mid lo hi s st E B hm=> ?_) rfl F (H "key" kv rfl) rfl rfl rfl rfl (.inl ⟨rfl,rfl⟩) hl h) (fun f s' q=> ?_) fun _ _ q=>q
  ·cases b with
   | true=>exact Eb O aM (y8 w.params) (fM bo.ok 6) B hm
   | false=>exact Ea O aM (y8 w.params) (fM bo.ok 6) B hm
  ·(refine bV q ?_;clear q;intro k t gG;subst gG)
   exact ⟨k,t,rfl⟩
end
section
set_option backward.match.sparseCases true
theorem ax.take {X:List Addr} {h:Heap}:∀{vs:List Value} {ds:List PyData} (k:Nat),ax X h vs ds->ax X h (vs.take k) (ds.take k)
 | vs,[],k,r=>by rw [r.nil_inv];simpa using ax.nil
 | vs,d::ds,0,r=>by simpa using ax.nil
 | vs,d::ds,k+1,r=>by
  (refine aU r.cons_inv fun v us ay a b=> ?_;subst ay)
  exact .cons a (ax.take k b)
theorem ax.drop {X:List Addr} {h:Heap}:∀{vs:List Value} {ds:List PyData} (k:Nat),ax X h vs ds->ax X h (vs.drop k) (ds.drop k)
 | vs,[],k,r=>by rw [r.nil_inv];simpa using ax.nil
 | vs,d::ds,0,r=>r
 | vs,d::ds,k+1,r=>by
  (refine aU r.cons_inv fun v us aF a b=> ?_;subst aF)
  exact ax.drop k b
theorem ax.ints {X Z:List Addr} {h h':Heap}:∀{vs:List Value} {xs:List Int},ax X h vs (xs.map .int)->ax Z h' vs (xs.map .int)
 | vs,[],r=>by rw [r.nil_inv];exact .nil
 | vs,x::xs,r=>by
  (refine aU r.cons_inv fun v us aP a b=> ?_;subst aP)
  (refine xE a.int_inv fun t bI=> ?_;subst bI)
  exact .cons (.int _ _) (ax.ints b)
theorem Mq {X:List Addr} {h:Heap} {vs:Array Value} {xs:List Int} {x:Int} {t:Tok} {r:Nat} (rs:ax X h vs.toList (xs.map .int)) (hr:r<=xs.length):
  ax X h ((fun ws:Array Value=>have k:=if (r:Int) < 0 then ((r:Int)+(ws.size:Int)).toNat else min (r:Int).toNat ws.size;(ws.extract 0 k).push (.int x t)++ws.extract k) vs).toList ((xs.take r++x::xs.drop r).map .int):=by
 have hl:=rs.length
 rw [List.length_map,Array.length_toList] at hl
 dsimp only
 rw [if_neg (by exact Zb Z1 19 [_] []),Int.toNat_natCast,Nat.min_eq_left (by exact Zb Z5 17 [_,_,_] [] hl hr)]
 have e:((vs.extract 0 r).push (.int x t)++vs.extract r).toList=vs.toList.take r++ .int x t::vs.toList.drop r:=by
  rw [Array.toList_append,Array.toList_push,Array.toList_extract,Array.toList_extract,List.append_assoc]
  simp [List.extract_eq_take_drop]
  try (rw [List.take_of_length_le];simp)
 rw [e,List.map_append,List.map_cons,List.map_take,List.map_drop]
 exact (rs.take r).append (.cons (.int _ _) (rs.drop r))
section
variable {prog:Program} {w:World} {mg mb:Str->Option Value}
variable {A:Around} {X fr:List Addr} {ae:Shared} {env:Env} {sc:Scope} {kv:Value} {m:Nat} {κ:PyData->Option PyData}
theorem Mr (hA:cG A) {s:Shared} {st:St} {E:Value->Shared->Prop} {p k q r:_} (F:FS w.params mg mb false none X fr ae env sc [] st s) (H:bq s.heap env "key" kv) (hk:∃a,kv= .ref a):
  wpAny (model prog w) A (isTrue (.Compare (.Name "key" p) [.Is] [.Constant .none k q] r) env (eval (.Compare (.Name "key" p) [.Is] [.Constant .none k q] r) env)) (fun b s'=>b=false/\Kp w.params mg mb (fr++X) s s') E s:=by
 refine xA (fR (H.df F.er.cq):) fun n1 n2=> ?_
 refine wpAny_isTrue_Compare1 (wpAny_Name (eZ F.er.kind H (aA.refl _) n2 ?_) n1) rfl
 refine ((fM hA 1).e F.cu F.ff F.gm (sC (k:=k) (p:=q))).then (Kp.refl F.cu) fun v ab k₁ rv=> ?_
 obtain rfl:=rv.none_inv
 (refine xE hk ?_;clear hk;intro a bK;subst bK)
 exact wpAny_is_plain rfl (wpAny_truthy_bool ⟨rfl,k₁⟩)
theorem Ms (hA:Lv (m+1) A) (O:aX none fr X env sc) (aM:env.cells=[]) (K:fb prog w mg mb m X ae.heap kv κ) {s:Shared} {st:St} {a:Addr} {vs:Array Value} {xs:List Int} {x:Int} {d':PyData} {r:Nat}
  {w1:List Stmt} {p1 p2 p3 p4 p5 p6 p7 p8 p9 vC vD vE vF y9 vG za zb vH zc Mt Mu Mv k1:_}
  (Mw:iW sc "lo"=true) (hg:dP sc "bisect_right"=true) (F:FS w.params mg mb false none X fr ae env sc [] st s) (H:bq s.heap env "key" kv) (ha:st.v "a"=some (.list (xs.map .int))) (Mx:bq s.heap env "a" (.ref a)) (sR:st.v "x"=some (.int x)) (my:st.v "lo"=some (.int 0)) (oW:st.v "hi"=some .none)
  (fH:a∉az) (Ej:a∉fr) (zd:a∉X) (hp:ae.heap.PlainList a vs) (rs:ax X ae.heap vs.toList (xs.map .int)) (hl:xs.length<=4000) (mH:κ (.int x)=some d') (hr:nQ (xs.map .int) d' κ=some r) (fK:r<=xs.length) (My:(vG.endLine==vH.line)=true) {E:Value->Shared->Prop}:
  wpAny (model prog w) A (execs [.If (.Compare (.Name "key" p1) [.Is] [.Constant .none k1 p2] p3) w1 [.Assign [.Name "lo" p4] (.Call (.Name "bisect_right" p5) [.Name "a" p6, .Call (.Name "key" p7) [.Name "x" p8] [] p9, .Name "lo" vC, .Name "hi" vD] [⟨some "key", .Name "key" vE,vF⟩] y9) za] zb,
   .Expr (.Call (.Attribute (.Name "a" Mt) "insert" vG) [.Name "lo" Mu, .Name "x" Mv] [] vH) zc] env)
   (fun f s'=>(match f with | .ret v=>v | _=> .none)=Value.none/\∃aq h' tk dh,Kp w.params mg mb X ae aq/\s'={aq with heap:=h',toks:=tk}/\Heap.SameBut a aq.heap h'/\h'.PlainList a dh/\ax X h' dh.toList ((xs.take r++x::xs.drop r).map .int)) E s:=by
 have bo:=hA.ok
 have S:=fM (prog:=prog) (w:=w) (mg:=mg) (mb:=mb) bo
 have kA:∃a,kv= .ref a:=by (refine xA K ?_;clear K;intro bO _;obtain ⟨a,_,_,e,_⟩:=bO);exact ⟨a,e⟩
 have y5:st.full=st.v:=by
  funext y
  unfold St.full
  have:st.o y=none:=by
   cases q:st.o y with
   | none=>rfl
   | some ds=>refine dq (F.ow y ds q:) fun a vs h1 _=> ?_;exact no h1
  rw [this]
 refine wpAny_execs_cons (wpAny_If (wpAny_mono (Mr bo F H kA) (fun b ab q=> ?_) fun _ _ q=>q))
 (refine xA q ?_;clear q;intro cF k₁;subst cF)
 simp only [Bool.false_eq_true,if_false]
 have au:=F.dC O k₁
 have pW:=au.gm
 rw [y5] at pW
 have d6:=au.cu
 have Ek:=au.ff
 have hN:∀a∈fr,ae.heap.get? a=none:=fun a ha=>F.fresh a (by simpa using ha)
 have K':fb prog w mg mb m (fr++X) ae.heap kv κ:=K.fresh hN
 have val:∀{e:Expr} {d:PyData} {s':Shared},(ah dR eX 6).e sc st.v e=some d->Kp w.params mg mb (fr++X) ab s'->∀(E:Value->Shared->Prop),wpAny (model prog w) A (eval e env) (fun v nv=>Kp w.params mg mb (fr++X) s' nv/\Rep (fr++X) nv.heap v d) E s':=fun {e d s'} he k E=>
  ((S 6).e k.ctx (Ek.grow k.grow) (pW.grow k.grow) he).then (Kp.refl k.ctx) fun v nv k' r=>⟨k',r⟩
 refine wpAny_execs_cons (wpAny_Assign_Name (wpAny_Call_Name_kw ((jq pW hg (fun h C=>fI C rfl) (by decide)).then (Kp.refl d6) fun u aq k₂ e=> ?_)) rfl)
 subst e
 refine callWith_of (P:=gM (.ref 56)) (first:=[]) rfl (fun h x=>x.pT) ?_
 refine evalArgs_kw rfl (Calls.spliced_cons (wpAny_mono (val (aa ha rfl) k₂ _) (fun va aS q=> ?_) fun _ _ q=>q))
 (refine xA q ?_;clear q;intro bS ra)
 have bu:=(au.dC O k₂).dC O bS
 have sQ:=(H.grow k₁.grow).grow (k₂.trans bS).grow
 refine Calls.spliced_cons ((y4 (hA.le (Nat.le_succ _)) (S 6) bu O sQ K (aa sR rfl) mH).then (Kp.refl bu.cu) fun vx fG mK rx=> ?_)
 have ze:Kp w.params mg mb (fr++X) ab fG:=(k₂.trans bS).trans mK
 refine Calls.spliced_cons (wpAny_mono (val (aa my rfl) ze _) (fun vl c7 q=> ?_) fun _ _ q=>q)
 (refine xA q ?_;clear q;intro fA rl)
 refine Calls.spliced_cons (wpAny_mono (val (aa oW rfl) (ze.trans fA) _) (fun vh ie q=> ?_) fun _ _ q=>q)
 (refine xA q ?_;clear q;intro fW rh)
 obtain rfl:=rh.none_inv
 have qy:Kp w.params mg mb (fr++X) ab ie:=(ze.trans fA).trans fW
 have sS:=(H.grow k₁.grow).grow qy.grow
 refine xA (fR (sS.df F.er.cq):) fun n1 n2=> ?_
 refine Calls.spliced_nil (wpAny_evalAll_cons (wpAny_bind (wpAny_Name (eZ F.er.kind sS (aA.refl _) n2 (wpAny_bind (wpAny_standAt (wpAny_pure (wpAny_evalAll_nil ?_))))) n1)))
 refine ⟨nO (Ee w.params) _ _ qy.ctx, ?_⟩
 have Mz:aA ae.heap ie.heap:=F.gr.trans (k₁.grow.trans qy.grow)
 refine wpAny_mono (Mp (s:=ie) hA (Ek.grow qy.grow) qy.ctx (ra.grow ((mK.trans fA).trans fW).grow) (rx.grow (fA.trans fW).grow) (rl.grow fW.grow) (K'.grow Mz) hr) (fun vr ig q=> ?_) fun _ _ q=>q
 (refine bV q ?_;clear q;intro mL tr c9;subst c9)
 have El:Kp w.params mg mb (fr++X) s ig:=k₁.trans (qy.trans mL)
 refine (F.dC O El).o8 O aM Mw (by decide) (.int _ _) fun vJ d9 MA=>wpAny_execs_nil ?_
 have Em:=MA "a" _ (by decide) (Mx.grow El.grow)
 have SK:=d9.gm
 refine wpAny_execs_cons (wpAny_Expr (hi:=u5 d9) (hs:=rfl) ?_)
 refine xA (fR (Em.df d9.er.cq):) fun m1 m2=> ?_
 (refine xE hp ?_;clear hp;intro na ea)
 have Eo:=d9.gr _ _ fH ea
 refine wpAny_Call_method_lateS rfl rfl My (wpAny_Name (eZ d9.er.kind Em (aA.refl _) m2 ⟨"list","list.insert",PySem.F.plainAttrs_list,PySem.F.slot_list_insert,PySem.F.type_list_insert,⟨_,Eo,rfl⟩,fun b e=>(by cases e;exact ⟨_,Eo,rfl⟩), ?_⟩) m1)
 refine gO (first:=[.ref a]) rfl ?_
 have MB:(st.set "lo" (.int r)).v "lo"=some (.int r):=by rw [St.ec,if_pos rfl]
 have MC:(st.set "lo" (.int r)).v "x"=some (.int x):=by rw [St.ec,if_neg (by decide)];exact sR
 refine Calls.spliced_cons (((S 6).e d9.ctx d9.aD d9.er (aa MB rfl)).then (Kp.refl d9.ctx) fun MD Ep ME MF=> ?_)
 have kN:=d9.kp O ME
 refine Calls.spliced_cons (((S 6).e kN.ctx kN.aD kN.er (aa MC rfl)).then (Kp.refl kN.ctx) fun SM zf MG MH=> ?_)
 have mM:=kN.kp O MG
 (refine xE MF.int_inv fun t1 dy=> ?_;subst dy)
 (refine xE MH.int_inv fun t2 dz=> ?_;subst dz)
 refine Calls.spliced_nil ⟨.inl ⟨_,rfl⟩, ?_⟩
 have zg:=mM.gr _ _ fH ea
 have hlen:=rs.length
 rw [List.length_map,Array.length_toList] at hlen
 have fX:Builtin.List.listFitsIndex (r:Int)=true:=by
  unfold Builtin.List.listFitsIndex
  rw [decide_eq_true (by lia),decide_eq_true (by lia)];rfl
 have bQ:vs.size<=sizeLine:=by
  rw [sizeLine_eq]
  exact Zb Z2 39 [_,_] [] hlen hl
 show wpAny _ _ (call (.builtin "list.insert") [.ref a, .int (r:Int) t1, .int x t2]) _ _ _
 obtain ⟨ri,p0⟩:∃ri:Int,ri=(r:Int):=⟨_,rfl⟩
 rw [<- p0] at fX ⊢
 have MI:¬(!Builtin.List.listFitsIndex ri)=true:=by rw [fX];simp
 refine call_meets PySem.F.slot_list_insert ⟨_,zg,rfl⟩ PySem.F.entry_list_insert (PySem.F.args_list_insert_3 _ _ _) (PySem.AutoSeq1.list_insert_list_int_val_1 a vs na ri t1 (.int x t2) MI bQ) ⟨zg, ?_⟩
 subst p0
 refine wpAny_execs_nil ⟨rfl,zf,_,_,(fun ws:Array Value=>have k:=if (r:Int) < 0 then ((r:Int)+(ws.size:Int)).toNat else min (r:Int).toNat ws.size;(ws.extract 0 k).push (.int x t2)++ws.extract k) vs, ?_,rfl,Heap.SameBut.update .., ?_, ?_⟩
 ·refine cN mM.eq fun h' tk e=> ?_
  exact ⟨h',tk,e,by have:=mM.gr;rw [e] at this;exact this,by have:=mM.ctx.less (X:=X) fun _ q=>List.mem_append_right _ (List.mem_append_right _ q);rw [e] at this;exact this⟩
 ·exact ⟨_,get?_update_seq zg _⟩
 ·exact (Mq rs fK).ints
theorem MJ {s:Shared} {a:Addr} {vs:Array Value} {xs:List Int} {x:Int} {tx:Tok} {d':PyData} {r:Nat} {E:Value->Shared->Prop} (hA:Lv (m+2) A) (hx:aN X s.heap) (C:Ctx w.params mg mb X s.heap) (fH:a∉az) (zd:a∉X) (hp:s.heap.PlainList a vs) (rs:ax X s.heap vs.toList (xs.map .int)) (hl:xs.length<=4000)
  (K:fb prog w mg mb m X s.heap kv κ) (mH:κ (.int x)=some d') (hr:nQ (xs.map .int) d' κ=some r) (fK:r<=xs.length):
  wpAny (model prog w) A (call (.ref 47) [.ref a, .int x tx] [(hU,kv)]) (fun v s'=>v= .none/\∃aq h' tk dh,Kp w.params mg mb X s aq/\s'={aq with heap:=h',toks:=tk}/\Heap.SameBut a aq.heap h'/\h'.PlainList a dh/\ax X h' dh.toList ((xs.take r++x::xs.drop r).map .int)) E s:=by
 refine xE (id hp:) fun na ea=> ?_
 have ra:Rep X s.heap (.ref a) (.list (xs.map .int)):=Rep.list ea rfl rfl rfl rfl fH zd rs
 refine o7 (Ef w.params) hA.room hx C (fun S=>Mi _ S (.ref a) (.int x tx) kv) (fun y hy=> ?_) ([("a", .list (xs.map .int)),("x", .int x),("lo", .int 0),("hi", .none)]:VL) (fun y d e=> ?_) fun env fr ab E' O F H aM=> ?_
 ·simp only [List.mem_cons,List.not_mem_nil,or_false] at hy
  rcases hy with rfl | rfl | rfl | rfl | rfl<;>rfl
 ·rw [List.lookup_cons] at e
  by_cases q1:y="a"
  ·subst q1;(obtain rfl:=Option.some.inj e;clear e);exact ⟨_,rfl, .inl ra⟩
  ·rw [beq_eq_false_iff_ne.mpr q1] at e
   simp only [List.lookup_cons] at e
   by_cases q2:y="x"
   ·subst q2;(obtain rfl:=Option.some.inj e;clear e);exact ⟨_,rfl, .inl (.int _ _)⟩
   ·rw [beq_eq_false_iff_ne.mpr q2] at e
    by_cases q3:y="lo"
    ·subst q3;(obtain rfl:=Option.some.inj e;clear e);exact ⟨_,rfl, .inl (.int _ _)⟩
    ·rw [beq_eq_false_iff_ne.mpr q3] at e
     by_cases q4:y="hi"
     ·subst q4;(obtain rfl:=Option.some.inj e;clear e);exact ⟨.none,rfl, .inl .none⟩
     ·rw [beq_eq_false_iff_ne.mpr q4] at e
      exact no e
 ·have bo:Lv (m+1) (A.deeper env):=hA.deeper env
  have Ej:a∉fr:=fun h=>by
   have:=F.fresh a (by simpa using h)
   rw [ea] at this;cases this
  have hb:bU w.params 47=bU w.params 47:=rfl
  conv at hb=>rhs;whnf
  rw [hb]
  clear hb
  refine Ms (kv:=kv) (κ:=κ) bo O aM K ?_ ?_ F (H "key" kv rfl) ?_ (H "a" _ rfl) ?_ ?_ ?_ fH Ej zd hp rs hl mH hr fK ?_
  all_goals rfl
end
end
theorem Er {α:Type} (xs:List α) (a:Nat):∀k:Nat,((List.range k).map (a+ ·)).filterMap (xs[·]?)=(xs.drop a).take k
 | 0=>by simp
 | k+1=>by
  rw [List.range_succ,List.map_append,List.filterMap_append,Er xs a k,List.take_add_one]
  congr 1
  simp only [List.map_cons,List.map_nil,List.getElem?_drop]
  cases h:xs[a+k]? <;>simp [h]
theorem zh {α:Type} (xs:List α) (lo hi:Option Int):jk xs lo hi=(xs.drop (lo.elim 0 (clipAt xs.length))).take (hi.elim xs.length (clipAt xs.length) - lo.elim 0 (clipAt xs.length)):=by
 unfold jk
 rw [sliceBounds_plain]
 simp only [sliceRange_one,Er]
theorem MK {α:Type} (xs:List α) (a b:Nat):jk xs (some (a:Int)) (some (b:Int))=(xs.drop a).take (b - a):=by
 rw [zh]
 simp only [Option.elim,clipAt_nat]
 by_cases h:a<=xs.length
 ·rw [Nat.min_eq_left h]
  by_cases h2:b<=xs.length
  ·rw [Nat.min_eq_left h2]
  ·rw [show min b xs.length=xs.length by exact Zb Z2 14 [_,_] [] h2,List.take_of_length_le (by simp),List.take_of_length_le (by simp;exact Zb cz 6 [_,_,_] [] h2)]
 ·rw [show min a xs.length=xs.length by exact Zb Z2 14 [_,_] [] h,List.drop_of_length_le (Nat.le_refl _),List.drop_of_length_le (by exact Zb Z4 19 [_,_] [] h)]
  simp
theorem ML {α:Type} (xs:List α) (a:Nat):jk xs (some (a:Int)) none=xs.drop a:=by
 rw [zh]
 simp only [Option.elim,clipAt_nat]
 by_cases h:a<=xs.length
 ·rw [Nat.min_eq_left h,List.take_of_length_le (by simp)]
 ·rw [show min a xs.length=xs.length by exact Zb Z2 14 [_,_] [] h,List.drop_of_length_le (Nat.le_refl _),List.drop_of_length_le (by exact Zb Z4 19 [_,_] [] h)]
  simp
theorem MM {α:Type} {f:α->PyData} {xs:List α} {i j:Int} (a b:Nat) (e:i=a) (e':j=b) (h:xs.length<=4096):km (.list (xs.map f)) (some (.int i)) (some (.int j))=some (.list (((xs.drop a).take (b - a)).map f)):=by
 subst e e'
 refine (if_pos (show (xs.map f).length<=4096 by rw [List.length_map];exact h)).trans ?_
 rw [MK,List.map_take,List.map_drop]
theorem Es {α:Type} {f:α->PyData} {xs:List α} {i:Int} (a:Nat) (e:i=a) (h:xs.length<=4096):km (.list (xs.map f)) (some (.int i)) none=some (.list ((xs.drop a).map f)):=by
 subst e
 refine (if_pos (show (xs.map f).length<=4096 by rw [List.length_map];exact h)).trans ?_
 rw [ML,List.map_drop]
noncomputable def S (l:List Nat):Str:=⟨l.toArray⟩
theorem c8 {l:List Nat}:(S l).length=l.length:=by simp [S,Str.length]
theorem fN {l:List Nat}:(S l).cps.toList=l:=by simp [S]
theorem vK {l r:List Nat}:S l++S r=S (l++r):=by
 show Str.mk _=Str.mk _
 congr 1
 show l.toArray++r.toArray=_
 simp
theorem zi {l r:List Nat} (h:S l=S r):l=r:=by rw [<- fN (l:=l),h,fN]
theorem zj (x:Str):x=S x.cps.toList:=by
 cases x;simp [S]
theorem zk {l:List Nat} {a b:Nat} (nR:a<=b) (hb:b<=l.length):jK (S l) (some (a:Int)) (some (b:Int))=S ((l.drop a).take (b - a)):=by
 unfold jK
 have h1:=PySem.StrLaws.sliced_plain (S l) nR (by rw [c8];exact hb)
 have h2:=PySem.StrLaws.strSliceIndices_plain (len:=(S l).length) nR (by rw [c8];exact hb)
 rw [h1,h2,fN]
 split
 ·rename_i e
  rw [List.length_map,List.length_range,beq_iff_eq,c8] at e
  have:a=0:=by exact Zb cz 7 [_,_,_] [] e nR hb
  subst this
  rw [List.drop_zero,List.take_of_length_le (by exact Zb cz 8 [_,_] [] e)]
 ·rfl
theorem MN {l:List Nat} {a:Nat} (ha:a<=l.length):jK (S l) (some (a:Int)) none=S (l.drop a):=by
 have:jK (S l) (some (a:Int)) none=jK (S l) (some (a:Int)) (some ((S l).length:Int)):=by
  unfold jK
  rw [PySem.StrLaws.sliceIdx_none_hi]
 rw [this,c8,zk ha (Nat.le_refl _),List.take_of_length_le (by simp)]
theorem MO {l:List Nat} {b:Nat} (hb:b<=l.length):jK (S l) none (some (b:Int))=S (l.take b):=by
 have:jK (S l) none (some (b:Int))=jK (S l) (some ((0:Nat):Int)) (some (b:Int)):=by
  unfold jK
  rw [PySem.StrLaws.sliceIdx_none_lo]
  rfl
 rw [this,zk (Nat.zero_le _) hb,List.drop_zero,Nat.sub_zero]
theorem gq {l:List Nat} {i j:Int} (a b:Nat) (e:i=a) (e':j=b) (nR:a<=b) (hb:b<=l.length) (h:l.length<=4096):km (.str (S l)) (some (.int i)) (some (.int j))=some (.str (S ((l.drop a).take (b - a)))):=by
 subst e e'
 refine (if_pos (show (S l).length<=4096 by rw [c8];exact h)).trans ?_
 rw [zk nR hb]
theorem jX {l:List Nat} {i:Int} (a:Nat) (e:i=a) (hb:a<=l.length) (h:l.length<=4096):km (.str (S l)) (some (.int i)) none=some (.str (S (l.drop a))):=by
 subst e
 refine (if_pos (show (S l).length<=4096 by rw [c8];exact h)).trans ?_
 rw [MN hb]
theorem kO {l:List Nat} {j:Int} (b:Nat) (e:j=b) (hb:b<=l.length) (h:l.length<=4096):km (.str (S l)) none (some (.int j))=some (.str (S (l.take b))):=by
 subst e
 refine (if_pos (show (S l).length<=4096 by rw [c8];exact h)).trans ?_
 rw [MO hb]
theorem MP {x:Str} {i:Int}:iz (.str x) (.int i)=if 0<=i/\i < 1000000/\i.toNat < x.cps.size then some (.str ⟨#[x.cps.getD i.toNat 0]⟩) else none:=rfl
theorem item_str {l:List Nat} {i:Int} (a:Nat) (e:i=a) (ha:a < l.length) (h:l.length<=4096):iz (.str (S l)) (.int i)=some (.str (S [l.getD a 0])):=by
 subst e
 have hs:(S l).cps.size=l.length:=c8
 have hc:0<=(a:Int)/\(a:Int) < 1000000/\(a:Int).toNat < (S l).cps.size:=by exact Zb cz 9 [_,_,_] [] ha hs h
 rw [MP,if_pos hc,Int.toNat_natCast]
 have:(S l).cps.getD a 0=l.getD a 0:=by simp [S,Array.getD,ha]
 rw [this];rfl
theorem len_str {l:List Nat} (h:l.length<=4096):nF [.str (S l)]=some (.int l.length):=by
 refine (if_pos (show (S l).length<=4096 by rw [c8];exact h)).trans ?_
 rw [c8]
theorem MQ {xs:List Int}:sumF [.list (xs.map .int)]=some (.int xs.sum):=by
 show (intsOf _).map _=_
 rw [jU];rfl
theorem MR {xs:List Int} (h:xs≠[]):su [.list (xs.map .int)]=some (.int (i8 xs)):=by
 show (intsOf _).bind _=_
 rw [jU,Option.bind_some]
 cases xs with
 | nil=>exact absurd rfl h
 | cons a r=>rfl
theorem gu {ι:Type} {b:PyData->Option (List PyData)} {enc:ι->PyData} {xs:List ι} {r:ι->PyData} (h:∀x∈xs,b (enc x)=some [r x]):jl b (xs.map enc)=some (xs.map r):=by
 induction xs with
 | nil=>rfl
 | cons x xs ih=>
  exact nK (h x (.head _)) (ih fun y hy=>h y (.tail _ hy))
theorem kP {ι:Type} {b:PyData->Option (List PyData)} {enc:ι->PyData} {xs:List ι} {r:ι->PyData} (c:ι->Bool) (ht:∀x∈xs,c x=true->b (enc x)=some [r x]) (hf:∀x∈xs,c x=false->b (enc x)=some []):jl b (xs.map enc)=some ((xs.filter c).map r):=by
 induction xs with
 | nil=>rfl
 | cons x xs ih=>
  have Et:=ih (fun y hy=>ht y (.tail _ hy)) fun y hy=>hf y (.tail _ hy)
  rw [List.filter_cons]
  cases q:c x with
  | true=>exact nK (ht x (.head _) q) Et
  | false=>exact nK (hf x (.head _) q) Et
theorem MS {a b c x:Int} (hc:0 < c) (h:x∈rangeInts a b c):a<=x/\x < b:=by
 unfold rangeInts Builtin.Range.rangeSize at h
 (refine aj (List.mem_map.mp h:) fun i hi ay=> ?_;subst ay)
 have hi:=List.mem_range.mp hi
 rw [if_pos hc] at hi
 by_cases nR:a < b
 ·rw [if_pos nR,Int.lt_toNat] at hi
  have h3:(i:Int)*c<=b - a - 1:=Int.mul_le_of_le_ediv hc (Int.le_of_lt_add_one hi)
  have h0:0<=(i:Int)*c:=Int.mul_nonneg (by exact m5) (by exact Zb Z2 15 [] [_] hc)
  exact ⟨Int.le_add_of_nonneg_right h0,Int.add_lt_of_lt_sub_left (Int.lt_of_le_sub_one h3)⟩
 ·rw [if_neg nR] at hi;exact absurd hi (Nat.not_lt_zero _)
theorem MT {a b c:Int}:iV [.int a, .int b, .int c]=if -1000000 < b/\b < 1000000/\ -1000000 < a/\a < 1000000/\0 < c/\c < 1000000 then some ((rangeInts a b c).map .int) else none:=rfl
theorem MU {i j c:Int} (hc:0 < c) (gQ:c < 1000000) (h1: -1000000 < i) (h2:i < 1000000) (h3: -1000000 < j) (h4:j < 1000000):iV [.int i, .int j, .int c]=some ((rangeInts i j c).map .int):=by
 rw [MT,if_pos ⟨h3,h4,h1,h2,hc,gQ⟩]
theorem sT {left:Bool} {t t':Nat->Option Bool}:∀{f lo hi:Nat},(∀i,lo<=i->i < hi->t i=t' i)->cH left t f lo hi=cH left t' f lo hi
 | 0,lo,hi,h=>rfl
 | f+1,lo,hi,h=>by
  rw [sO,sO]
  by_cases q:lo < hi
  ·rw [if_pos q,if_pos q,h _ (by exact Zb Z4 1 [_,_,_] [] (bW _) q) (by exact Zb Z9 26 [_,_,_] [] (bW _) q)]
   cases t' ((lo+hi) / 2) with
   | none=>rfl
   | some b=>
    simp only [Option.bind_some]
    rw [sT (fun i h1 h2=>h i (by lia) h2),sT (fun i h1 h2=>h i h1 (by lia))]
  ·rw [if_neg q,if_neg q]
theorem eQ {ds d} (h:nF ds=some d):dR.fn "len" ds=some d:=h
theorem MW {ds d} (h:sumF ds=some d):dR.fn "sum" ds=some d:=h
theorem MX {ds d} (h:su ds=some d):dR.fn "min" ds=some d:=h
theorem qz {left:Bool} {t:Nat->Option Bool}:∀{f lo hi:Nat},(∀i,(t i).isSome=true)->hi - lo < f->∃r,cH left t f lo hi=some r/\(r<=hi\/r=lo)
 | 0,lo,hi,h,hf=>by lia
 | f+1,lo,hi,h,hf=>by
  rw [sO]
  by_cases q:lo < hi
  ·rw [if_pos q]
   refine xE (Option.isSome_iff_exists.mp (h ((lo+hi) / 2)):) fun b hb=> ?_
   rw [hb,Option.bind_some]
   split
   ·refine aj (qz (left:=left) (f:=f) (lo:=(lo+hi) / 2+1) (hi:=hi) h (by exact Zb Z3 39 [_,_,_,_] [] (bW _) hf q):) fun r e l=> ?_
    exact ⟨r,e, .inl (by exact HV q l)⟩
   ·refine aj (qz (left:=left) (f:=f) (lo:=lo) (hi:=(lo+hi) / 2) h (by exact Zb Z4 2 [_,_,_,_] [] (bW _) hf q):) fun r e l=> ?_
    exact ⟨r,e, .inl (by exact HW q l)⟩
  ·rw [if_neg q];exact ⟨lo,rfl, .inr rfl⟩
noncomputable def cV.key (Φ:cV):cV:={Φ with fk:=fun f ds κ=>if f="bisect_left" then nP ds κ else none}
section
variable {prog:Program} {w:World} {mg mb:Str->Option Value} {A:Around}
theorem fJ.key {m:Nat} {Φ:cV} (F:fJ prog w mg mb A true m Φ) (hA:Lv (m+2) A):fJ prog w mg mb A true m Φ.key:=
 ⟨F.gl,F.fn,fun f ds κ d e=>by
  have e:(if f="bisect_left" then nP ds κ else none)=some d:=e
  split at e
  ·subst f
   refine ⟨rfl,(fun q=>by subst q;exact no e), .ref 65,fun _ _ C=>fI C rfl,by decide,nO (Ed w.params),fun X s vs kv E hx C r K=>Mo hA hx C r K e⟩
  ·exact no e⟩
theorem MY:Under prog w mg mb true 2 0 dR.key (ah dR eX 8):=⟨fun A hA=>(nI hA.hd (by have:=hA.un;exact Zb cf 10 [_,_] [] this)).key hA,fun A hA=>fM hA.ok 8⟩
theorem zl {m:Nat}:Under prog w mg mb false m 0 dR eX:=⟨fun A hA=>nI hA.hd (by have:=hA.un;exact Zb cf 11 [_,_,_] [] this),gR⟩
end
theorem Eu {Φ:cV} {ds κ d} (h:nP ds κ=some d):Φ.key.fk "bisect_left" ds κ=some d:=by
 show (if ("bisect_left":Str)="bisect_left" then nP ds κ else none)=_
 rw [if_pos rfl];exact h
theorem MZ {xs:List PyData} {x:PyData} {i:Int} {κ:PyData->Option PyData} {t:Nat->Bool} (k:Nat) (e:i=k) (hl:xs.length<=4096) (ht:∀j,k<=j->j < xs.length->tL xs x κ j=some (t j)):nP [.list xs,x, .int i] κ=some (.int (((cH true (fun j=>some (t j)) (xs.length+1) k xs.length).getD 0:Nat):Int)):=by
 subst e
 refine (if_pos ⟨by exact m5,hl⟩).trans ?_
 rw [Int.toNat_natCast,sT ht]
 refine aj (qz (left:=true) (t:=fun j=>some (t j)) (f:=xs.length+1) (lo:=k) (hi:=xs.length) (fun _=>rfl) (by exact Zb cf 12 [_,_] []):) fun r e _=> ?_
 rw [e];rfl
theorem M0 {xs:List PyData} {x:PyData} {κ:PyData->Option PyData} {t:Nat->Bool} (hl:xs.length<=4096) (ht:∀j,j < xs.length->tL xs x κ j=some (t j)):nP [.list xs,x] κ=some (.int (((cH true (fun j=>some (t j)) (xs.length+1) 0 xs.length).getD 0:Nat):Int)):=by
 refine (if_pos hl).trans ?_
 rw [sT fun j _ h=>ht j h]
 refine aj (qz (left:=true) (t:=fun j=>some (t j)) (f:=xs.length+1) (lo:=0) (hi:=xs.length) (fun _=>rfl) (by exact Zb Z1 29 [_] []):) fun r e _=> ?_
 rw [e];rfl
theorem Ew {xs:List PyData} {x:PyData} {κ:PyData->Option PyData} {i:Nat} {b:Bool} (d d':PyData) (h1:xs[i]? =some d) (h2:κ d=some d') (h3:cg .Lt d' x=some b):tL xs x κ i=some b:=by
 unfold tL;rw [h1,Option.bind_some,h2];exact h3
theorem M1 {xs:List PyData} {x:PyData} {κ:PyData->Option PyData} {i:Nat} {b:Bool} (d d':PyData) (h1:xs[i]? =some d) (h2:κ d=some d') (h3:cg .Lt x d'=some b):tR xs x κ i=some b:=by
 unfold tR;rw [h1,Option.bind_some,h2];exact h3
theorem Ex (P:Params):hZ P 259 (bj P 259 bk) ["ranks","k"] (bU P 259):=
 ⟨⟨_,rfl,rfl⟩,by decide,rfl,rfl,rfl,rfl,rfl,rfl,rfl,⟨_,_,_,_,rfl,rfl,rfl,rfl⟩,fun x hx=>by
  rcases List.mem_cons.mp hx with e | hx
  ·rw [e];exact .inr rfl
  ·rw [List.mem_singleton.mp hx];exact .inr rfl,rfl⟩
noncomputable def sU (iH:List Int) (k i:Nat):Bool:= !(decide (i8 ((iH.drop (k+1)).take (i+1 - (k+1))) < iH.getD k 0))
noncomputable def jy (iH:List Int) (k:Nat):Nat:=(cH true (fun i=>some (sU iH k i)) 9 (k+1) 8).getD 0
theorem M2 (P:Params) (iH:List Int) (k:Nat) (hr:iH.length=8) (hk:k < 8):
  kL (bc (ah dR.key (ah dR eX 8) 8) c0 3 (bj P 259 bk).scope (mC ["ranks","k"] [.list (iH.map .int), .int k]) (bU P 259))=some (.int (jy iH k)):=by
 conv=>lhs;arg 1;arg 6;whnf
 conv=>lhs;arg 1;arg 4;whnf
 refine sH (iG ?_)
 refine' DU rfl rfl rfl rfl ?args ?fk
 case args=>exact ak (LX rfl rfl rfl rfl (ak aC av) (kM 8 rfl (by exact lY))) (ak iF (ak (by exact aY (aa rfl rfl) aC rfl) av))
 case fk=>
  have hx:((List.range' 0 8).map fun (k:Nat)=>PyData.int k).length=8:=by simp
  refine Eu ((MZ (t:=sU iH k) (k+1) (by exact pK) (by rw [hx];exact lk) fun j h1 h2=> ?_).trans (by rw [hx];rfl))
  rw [hx] at h2
  refine Ew (.int j) (.bool (decide (i8 ((iH.drop (k+1)).take (j+1 - (k+1))) < iH.getD k 0))) ?_ ?_ ?_
  ·rw [List.getElem?_map,List.getElem?_range' (by exact h2)]
   simp
  ·refine' nJ rfl ?h1 ?h2 ?h3
   case h1=>
    refine' bl rfl ?g1 ?g2 (by decide)
    case g1=>
     refine' ak ?z av
     case z=>
      refine' bM rfl ?k1 ?k2 ?k3 ?k4
      case k1=>exact aa rfl rfl
      case k2=>exact aZ (aY (aa rfl rfl) aC rfl)
      case k3=>exact aZ (aY (aa rfl rfl) aC rfl)
      case k4=>exact MM (k+1) (j+1) (by exact pK) (by exact pK) (by exact bx hr)
    case g2=>exact MX (MR (by intro q;have:=congrArg List.length q;simp at this;exact Zb cf 13 [_,_,_] [] h1 this h2 hr))
   case h2=>
    refine' bF rfl rfl rfl ?g1 ?g2
    case g1=>exact aa rfl rfl
    case g2=>exact item_at k 0 rfl (by exact m6 hk hr) (by exact bx hr)
   case h3=>rfl
  ·show some (!(decide _)&&true)=_
   rw [Bool.and_true];rfl
theorem Ey (P:Params):hZ P 235 (bj P 235 bk) ["script"] (bU P 235):=
 ⟨⟨_,rfl,rfl⟩,by decide,rfl,rfl,rfl,rfl,rfl,rfl,rfl,⟨_,_,_,_,rfl,rfl,rfl,rfl⟩,fun x hx=>by
  rw [List.mem_singleton.mp hx];exact .inr rfl,rfl⟩
noncomputable def vL:List Int:=[0,1,0,0,1,0,1,0]
noncomputable def qA (ns:List Int) (k:Nat):Int:=(vL.getD k 0+((rangeInts k ns.length 8).map fun i=>ns.getD i.toNat 0).sum).fmod 3
noncomputable def kQ (ns:List Int):List Int:=(List.range' 0 8).map (qA ns)
theorem M3 (ns:List Int) (k:Nat):qA ns k=0\/qA ns k=1\/qA ns k=2:=by
 unfold qA
 generalize vL.getD k 0+((rangeInts k ns.length 8).map fun i=>ns.getD i.toNat 0).sum=z
 have h1:=Int.fmod_nonneg_of_pos z (b:=3) (by exact Zb Z4 36 [] [])
 have h2:=Int.fmod_lt_of_pos z (b:=3) (by exact Zb Z4 36 [] [])
 lia
theorem Ez {a b:Nat} (hb:b<=4000):(rangeInts a b 8).length<=4096:=by
 rw [Ce]
 exact Int.toNat_le.mpr (Cg (by decide) (by decide) (Int.le_trans (Int.sub_le_self _ (Int.natCast_nonneg a)) (Int.le_trans (Int.ofNat_le.mpr hb) (by decide))))
theorem M4 (P:Params) (ns:List Int) (hl:ns.length<=4000):
  kL (bc (ah dR eX 12) c0 3 (bj P 235 bk).scope (mC ["script"] [iy (ns.map .int)]) (bU P 235))=some (.list ((kQ ns).map .int)):=by
 conv=>lhs;arg 1;arg 6;whnf
 conv=>lhs;arg 1;arg 4;whnf
 refine' yS (cm rfl rfl ?lst) ?rest
 case lst=>exact ic (ds:=vL.map .int) (ak aC (ak aC (ak aC (ak aC (ak aC (ak aC (ak aC (ak aC av)))))))) (by decide)
 case rest=>
  refine sH (iG ?_)
  refine' dF rfl rfl rfl rfl (eE rfl rfl (ak aC av) (kM 8 rfl (by exact lY))) (dg rfl (by simp) rfl rfl (gu (r:=fun k=> .int (qA ns k)) fun k hk=> ?body)) ?len
  case len=>simp [kQ]
  case body=>
   have ja:k < 8:=by have:=List.mem_range'_1.mp hk;exact Zb Z1 32 [_] [] this
   refine fg ?_
   refine' o6 (aY ?h1 ?h2 ?h4) aC ?h3
   case h1=>
    refine' bF rfl (d:= .list (vL.map .int)) rfl rfl ?g1 ?g2
    case g1=>exact aa rfl rfl
    case g2=>exact item_at k 0 rfl ja (by decide)
   case h2=>
    refine' bl rfl ?g1 (MW (MQ (xs:=(rangeInts k ns.length 8).map fun i=>ns.getD i.toNat 0))) (by decide)
    case g1=>
     refine ak ?_ av
     rw [List.map_map]
     have e:(ns.map PyData.int).length=ns.length:=List.length_map ..
     rw [<- e]
     refine' dF rfl rfl rfl rfl (eE rfl rfl (ak ?a1 (ak (LZ (ds:=ns.map .int) rfl rfl rfl (by rw [List.length_map];exact ez hl)) (ak aC av))) (MU (i:=(k:Int)) (j:=((ns.map PyData.int).length:Nat)) (c:=8) (by exact Zb Z4 37 [] []) (by exact Zb cB 27 [] []) ?b1 ?b2 ?b3 ?b4)) (dg rfl (by rw [List.length_map,List.length_map];exact Ez hl) rfl rfl (gu (r:=fun (i:Int)=> .int (ns.getD i.toNat 0)) fun i hi=>fg ?bd)) ?len
     case a1=>exact aa rfl rfl
     case b1=>exact Zb Z4 38 [_] []
     case b2=>exact Zb cB 28 [_] [] ja
     case b3=>exact Zb Z4 38 [_] []
     case b4=>rw [List.length_map];exact Zb cB 29 [_] [] hl
     case len=>rw [List.length_map,List.length_map];exact Ez hl
     case bd=>
      have:=MS (by exact Zb Z4 37 [] []) hi
      rw [List.length_map] at this
      refine' LW rfl (ds:=ns.map .int) rfl ?c1 ?c2
      case c1=>exact aa rfl rfl
      case c2=>exact item_at i.toNat 0 (by exact Zb cB 30 [_,_] [_] this) (by exact Zb cB 31 [_,_] [_] this) (by exact ez hl)
   case h4=>rfl
   case h3=>rfl
structure gw {α:Type} (enc:α->PyData) (ok:α->Prop) (n:Nat):Prop where
 lay:∀a,ok a->(enc a).canLay0=true
 EA:∀a,(enc a).depth<=n
 eqv:∀a b,PyData.eqv (enc a) (enc b)=true↔a=b
theorem zm {α:Type} {enc:α->PyData} {ok:α->Prop} {n:Nat} (E:gw enc ok n):∀{xs:List α},(∀a∈xs,ok a)->PyData.canLayAll0 (xs.map enc)=true
 | [],_=>by rw [List.map_nil,PyData.canLayAll0]
 | x::xs,h=>by
  rw [List.map_cons,PyData.canLayAll0,E.lay x (h x (.head _)),zm E fun a ha=>h a (.tail _ ha)];rfl
theorem zo {α:Type} {enc:α->PyData} {ok:α->Prop} {n:Nat} (E:gw enc ok n):∀{xs:List α},PyData.depthAll (xs.map enc)<=n
 | []=>by rw [List.map_nil,PyData.depthAll];exact Nat.zero_le _
 | x::xs=>by
  rw [List.map_cons,PyData.depthAll]
  exact Nat.max_le.mpr ⟨E.EA x,zo E⟩
theorem vM {α:Type} {enc:α->PyData} {ok:α->Prop} {n:Nat} (E:gw enc ok n):∀{xs ys:List α},PyData.eqvAll (xs.map enc) (ys.map enc)=true↔xs=ys
 | [],[]=>by rw [List.map_nil,PyData.eqvAll];simp
 | x::xs,[]=>by rw [List.map_nil,List.map_cons,PyData.eqvAll];simp
 | [],y::ys=>by rw [List.map_nil,List.map_cons,PyData.eqvAll];simp
 | x::xs,y::ys=>by
  rw [List.map_cons,List.map_cons,PyData.eqvAll,Bool.and_eq_true,E.eqv,vM E]
  simp
theorem gw.shaped {α:Type} {enc:α->PyData} {ok:α->Prop} {n:Nat} (E:gw enc ok n) (hn:n < 60) {xs:List α} (h:∀a∈xs,ok a):SeqAt.shaped (.list (xs.map enc))=true:=by
 unfold SeqAt.shaped
 rw [PyData.canLay0,zm E h,Bool.true_and,decide_eq_true_eq,PyData.depth]
 have:=zo E (xs:=xs)
 exact Zb cy 27 [_,_] [] hn this
theorem gw.eW {α:Type} {enc:α->PyData} {ok:α->Prop} {n:Nat} (E:gw enc ok n) (hn:n < 60) {xs ys:List α} (h:∀a∈xs,ok a) (h':∀a∈ys,ok a):eW (xs.map enc) (ys.map enc)=some (PyData.eqvAll (xs.map enc) (ys.map enc)):=by
 unfold cb.eW
 rw [if_pos ⟨E.shaped hn h,E.shaped hn h'⟩,PyData.eqv]
theorem gw.jb {α:Type} {enc:α->PyData} {ok:α->Prop} {n:Nat} (E:gw enc ok n) (hn:n < 60) {xs ys:List α} (h:∀a∈xs,ok a) (h':∀a∈ys,ok a) (q:xs=ys):cb.eW (xs.map enc) (ys.map enc)=some true:=by
 rw [E.eW hn h h',(vM E).mpr q]
theorem gw.jz {α:Type} {enc:α->PyData} {ok:α->Prop} {n:Nat} (E:gw enc ok n) (hn:n < 60) {xs ys:List α} (h:∀a∈xs,ok a) (h':∀a∈ys,ok a) (q:xs≠ys):cb.eW (xs.map enc) (ys.map enc)=some false:=by
 rw [E.eW hn h h']
 cases e:PyData.eqvAll (xs.map enc) (ys.map enc) with
 | false=>rfl
 | true=>exact absurd ((vM E).mp e) q
theorem encInt:gw PyData.int (fun _=>True) 0:=⟨fun a _=>by rw [PyData.canLay0],fun a=>by rw [PyData.depth];exact Nat.le_refl _,fun a b=>by rw [PyData.eqv];exact beq_iff_eq⟩
theorem jY:gw (fun (k:Nat)=>PyData.int k) (fun _=>True) 0:=⟨fun a _=>by rw [PyData.canLay0],fun a=>by rw [PyData.depth];exact Nat.le_refl _,fun a b=>by rw [PyData.eqv,beq_iff_eq];exact Int.ofNat_inj⟩
theorem M5:gw bZ (fun _=>True) 1:=by
 refine ⟨fun a _=> ?_,fun a=> ?_,fun a b=> ?_⟩
 ·unfold bZ;simp [PyData.canLay0,PyData.canLayAll0]
 ·unfold bZ;simp [PyData.depth,PyData.depthAll]
 ·unfold bZ
  simp only [PyData.eqv,PyData.eqvAll,Bool.and_true,Bool.and_eq_true,beq_iff_eq]
  exact ⟨fun h=>Prod.ext h.1 (Prod.ext h.2.1 h.2.2),fun h=>by subst h;exact ⟨rfl,rfl,rfl⟩⟩
theorem encList:gw bL (fun _=>True) 1:=by
 refine ⟨fun a _=> ?_,fun a=> ?_,fun a b=> ?_⟩
 ·unfold bL;rw [PyData.canLay0];exact zm encInt fun _ _=>trivial
 ·unfold bL;rw [PyData.depth];have:=zo encInt (xs:=a);exact Zb cy 28 [_] [] this
 ·unfold bL;rw [PyData.eqv];exact vM encInt
theorem vN {xs ys:List PyData} (h:eW xs ys=some false):cg .NotEq (.list xs) (.list ys)=some true:=by
 show (eW xs ys).map _=_
 rw [h];rfl
theorem vO {xs ys:List PyData} (h:eW xs ys=some true):cg .NotEq (.list xs) (.list ys)=some false:=by
 show (eW xs ys).map _=_
 rw [h];rfl
theorem jb {xs ys:List PyData} (h:eW xs ys=some true):cg .Eq (.list xs) (.list ys)=some true:=h
theorem jz {xs ys:List PyData} (h:eW xs ys=some false):cg .Eq (.list xs) (.list ys)=some false:=h
theorem mN {l r:List Nat}:cg .Eq (.str (S l)) (.str (S r))=some (l==r):=by
 show some ((S l).cps.toList==(S r).cps.toList)=_
 rw [fN,fN]
theorem M6 {l r:List Nat}:cg .NotEq (.str (S l)) (.str (S r))=some (!(l==r)):=by
 show some ((S l).cps.toList != (S r).cps.toList)=_
 rw [fN,fN];rfl
theorem sV {a b:Nat} {c:Bool} (h:(!(a==b))=c):cg .NotEq (.str (S [a])) (.str (S [b]))=some c:=by
 rw [M6, <- h]
 congr 2
 simp
theorem vP {n:Nat} (h:n < 1000000):gJ .FloorDiv (.int (n:Int)) (.int 2)=some (.int ((n / 2:Nat):Int)):=by
 rw [By (by exact Zb cy 29 [_] [] h),Int.fdiv_eq_ediv_of_nonneg _ (by exact Zb Z4 15 [] [])]
 rfl
theorem M7 {f:List (Int × Int × Int)} (hn:f.Nodup) (hl:f.length < 64):nG [.list (f.map bZ)]=some (.list ((gF ib f).map bZ)):=by
 have e2:∀l:List (Int × Int × Int),mF (l.map bZ)=some l:=fun l=>by
  induction l with
  | nil=>rfl
  | cons a r ih=>
   rw [List.map_cons]
   show (vg (bZ a)).bind _=_
   show ((mF (r.map bZ)).map (a:: ·))=_
   rw [ih];rfl
 cases f with
 | nil=>rfl
 | cons a r=>
  have e1:ia ((a::r).map bZ)=none:=rfl
  exact Lx e1 (e2 _) hl hn
theorem M8 {σ:Type} {I:aK} {c:Cf} {n:Nat} {sc:Scope} {st:St} {bz it:Expr} {body:List Stmt} {p:Pos} {G:St->Prop} (inv:Nat->σ->St->Prop) (step:σ->Nat->σ) (a l:Nat) (s0:σ) (hp:eB it=true) (hl:l<=4096) (hi:I.i sc st.v it=some ((List.range' a l).map fun (k:Nat)=> .int k)) (h0:inv a s0 st)
  (hs:∀k,a<=k->k < a+l->∀σ st,inv k σ st->∃bE,dE sc bz st (.int k)=some bE/\∃aR,bc I c n sc bE body=some (.aT,aR)/\inv (k+1) (step σ k) aR)
  (hG:∀ag,inv (a+l) ((List.range' a l).foldl step s0) ag->G ag):∃ag,bc I c (n+1) sc st [.For bz it body [] p]=some (.aT,ag)/\G ag:=by
 obtain ⟨ag,h1,h2⟩:=yU inv step a l s0 hp hl hi h0 hs
 exact ⟨ag,aW h1 a9,hG ag h2⟩
theorem EB (P:Params):∃px lp pos,hZ P 247 (bj P 247 bk) ["word"] (.Assign [.Name "found" px] (.List [] lp) pos::(bU P 247).drop 1):=
 ⟨_,_,_,⟨_,rfl,rfl⟩,by decide,rfl,rfl,rfl,rfl,rfl,rfl,rfl,⟨_,_,_,_,rfl,rfl,rfl,rfl⟩,fun x hx=>by
  rw [List.mem_singleton.mp hx];exact .inl rfl,rfl⟩
noncomputable def cD (wl:List Nat) (b e:Nat):List Nat:=(wl.drop b).take (e - b)
noncomputable def lL (part:List Nat):List Nat:=(List.range' 1 (part.length / 2)).filter fun q=>part.drop q==part.take (part.length - q)
noncomputable def jA (wl:List Nat) (b:Nat) (f:List (Int × Int × Int)) (e:Nat):List (Int × Int × Int):=
 match lL (cD wl b e) with
 | []=>f
 | p::_=>if (b=0\/wl.getD (b - 1) 0≠wl.getD (b - 1+p) 0)/\(e=wl.length\/wl.getD e 0≠wl.getD (e - p) 0) then f++[((p:Int),(b:Int),(e:Int))] else f
noncomputable def jB (wl:List Nat) (f:List (Int × Int × Int)) (b:Nat):List (Int × Int × Int):=(List.range' (b+2) (wl.length+1 - (b+2))).foldl (jA wl b) f
noncomputable def kR (wl:List Nat):List (Int × Int × Int):=gF ib ((List.range' 0 wl.length).foldl (jB wl) [])
theorem M9 {part:List Nat} {q:Nat} (h:q∈lL part):1<=q/\q<=part.length / 2:=by
 have:=(List.mem_filter.mp h).1
 have:=List.mem_range'_1.mp this
 exact Zb cz 14 [_,_,_] [] (bW _) this
inductive sW (wl:List Nat) (b:Nat):VL->Prop
 | a:sW wl b [("word", .str (S wl)),("begin", .int b)]
 | b {x y z}:sW wl b [("word", .str (S wl)),("begin", .int b),("end",x),("part",y),("fits",z)]
 | c {x y z p}:sW wl b [("word", .str (S wl)),("begin", .int b),("end",x),("part",y),("fits",z),("p",p)]
theorem sX {σ:Type} (inv:Nat->σ->Prop) (step:σ->Nat->σ):∀(n a:Nat) (s0:σ),inv a s0->(∀k s,a<=k->k < a+n->inv k s->inv (k+1) (step s k))->inv (a+n) ((List.range' a n).foldl step s0)
 | 0,a,s0,h,_=>h
 | n+1,a,s0,h,hs=>by
  have:=sX inv step n (a+1) (step s0 a) (hs a s0 (Nat.le_refl _) (by exact Zb Z4 17 [_,_] []) h) fun k s h1 h2=>hs k s (by exact lZ h1) (by exact Zb Z4 18 [_,_,_] [] h2)
  rw [show a+(n+1)=a+1+n by exact Zb Z1 30 [_,_] []]
  exact this
set_option tactic.hygienic true in
theorem Na {wl:List Nat} {b:Nat} {f:List (Int × Int × Int)} {e:Nat}:jA wl b f e=f\/∃p:Nat,jA wl b f e=f++[((p:Int),(b:Int),(e:Int))]:=by
 unfold jA
 split
 ·exact .inl rfl
 ·rename_i p r _
  split
  ·exact .inr ⟨p,rfl⟩
  ·exact .inl rfl
theorem Nb {wl:List Nat} {b:Nat} {f:List (Int × Int × Int)} (hn:f.Nodup) (hf:∀t∈f,t.2.1 < b):(jB wl f b).Nodup/\∀t∈jB wl f b,t.2.1 < ((b+1:Nat):Int):=by
 have:=sX (fun e g=>g.Nodup/\∀t∈g,t.2.1 < (b:Int)\/(t.2.1=(b:Int)/\t.2.2 < (e:Int))) (jA wl b) (wl.length+1 - (b+2)) (b+2) f ⟨hn,fun t ht=> .inl (hf t ht)⟩ fun e g h1 h2 h=>by
  (refine xA h ?_;clear h;intro g1 g2)
  rcases Na (wl:=wl) (b:=b) (f:=g) (e:=e) with q | ⟨p,q⟩
  ·rw [q]
   exact ⟨g1,fun t ht=>(g2 t ht).imp id fun h=>⟨h.1,by have:=h.2;exact Zb Z4 22 [_,_] [_,_] h⟩⟩
  ·rw [q]
   refine ⟨List.nodup_append.mpr ⟨g1,by simp,fun x hx y hy=> ?_⟩,fun t ht=> ?_⟩
   ·rw [List.mem_singleton.mp hy]
    intro q
    subst q
    rcases g2 _ hx with h | h
    ·exact absurd h (by simp)
    ·exact absurd h.2 (by simp)
   ·rcases List.mem_append.mp ht with ht | ht
    ·exact (g2 t ht).imp id fun h=>⟨h.1,by have:=h.2;exact Zb Z4 22 [_,_] [_,_] h⟩
    ·rw [List.mem_singleton.mp ht]
     exact .inr ⟨rfl,by dsimp only;exact Zb cz 15 [_] []⟩
 exact ⟨this.1,fun t ht=>by rcases this.2 t ht with h | h<;>(first | exact Zb cz 16 [_] [_] h | exact Zb cz 17 [_,_] [_,_] h)⟩
theorem EC {wl:List Nat} (n:Nat):((List.range' 0 n).foldl (jB wl) []).Nodup:=by
 have:=sX (fun b g=>g.Nodup/\∀t∈g,t.2.1 < (b:Int)) (jB wl) n 0 [] ⟨List.nodup_nil,fun _ h=>nomatch h⟩ fun b g _ _ h=>Nb h.1 h.2
 exact this.1
theorem Nc {ds d} (h:nG ds=some d):dR.fn "sorted" ds=some d:=h
theorem Nd (P:Params) (wl:List Nat) (hl:wl.length=8):
  kL (bc (ah dR eX 10) c0 6 (bj P 247 bk).scope ((mC ["word"] [.str (S wl)]).ju "found" []) ((bU P 247).drop 1))=some (.list ((kR wl).map bZ)):=by
 conv=>lhs;arg 1;arg 6;whnf
 conv=>lhs;arg 1;arg 4;whnf
 refine yT (fun b f st=>st.ol=([("found",f.map bZ)]:OL)/\st.h=none/\sW wl b (fL "begin" (.int b) st.vl)/\f.length<=7*b) (jB wl) 0 8 [] rfl (by exact lk) ?_ ⟨rfl,rfl, .a,Nat.zero_le _⟩ (fun b _ hb f st hi=> ?_) (fun ag hi=> ?_)
 ·refine' eE rfl rfl ?h1 ?h2
  case h1=>exact ak (bl rfl (ak (aa rfl rfl) av) (eQ (len_str (by exact bx hl))) (by decide)) av
  case h2=>exact kM 8 (by rw [hl]) (by exact lY)
 ·obtain ⟨vl,ol,h⟩:=st
  (refine fm hi ?_;clear hi;intro h1 h2 h3 h4)
  dsimp only at h1 h2 h3
  subst h1 h2
  refine ⟨⟨fL "begin" (.int b) vl,([("found",f.map bZ)]:OL),none⟩,rfl, ?_⟩
  generalize fL "begin" (.int b) vl=vl at h3
  refine M8 (fun e f' st=>st.ol=([("found",f'.map bZ)]:OL)/\st.h=none/\sW wl b st.vl/\f'.length+(b+2)<=f.length+e) (jA wl b) (b+2) (8+1 - (b+2)) f rfl (by exact Zb cz 18 [_] []) ?_ ⟨rfl,rfl,h3,Nat.le_refl _⟩ (fun e zp Nf f' st hi=> ?_) (fun ag hi=> ?_)
  ·cases h3<;>
   ·refine' eE rfl rfl ?h1 ?h2
    case h1=>exact ak (aY (aa rfl rfl) aC rfl) (ak (aY (bl rfl (ak (aa rfl rfl) av) (eQ (len_str (by exact bx hl))) (by decide)) aC rfl) av)
    case h2=>exact jw (b+2) (8+1) (by exact Zb Z2 16 [_] []) (by exact Zb Z2 17 [_] [] hl) (by exact Zb Z2 18 [_] [] hb) (by exact Zb Z2 19 [] [])
  ·obtain ⟨vl,ol,h⟩:=st
   (refine fm hi ?_;clear hi;intro g1 g2 g3 g4)
   dsimp only at g1 g2 g3
   subst g1 g2
   have bC:e<=8:=by exact Zb cz 19 [_,_] [] hb Nf
   have SN:f'.length<=4000:=by exact Zb cz 20 [_,_,_,_] [] g4 hb h4 bC
   refine ⟨⟨fL "end" (.int e) vl,([("found",f'.map bZ)]:OL),none⟩,rfl, ?_⟩
   have a8:(cD wl b e).length=e - b:=by unfold cD;rw [List.length_take,List.length_drop];exact Zb Z4 6 [_,_,_] [] hl bC
   generalize vQ:cD wl b e=pt at a8
   have iI:jA wl b f' e=match lL pt with
     | []=>f'
     | p::_=>if (b=0\/wl.getD (b - 1) 0≠wl.getD (b - 1+p) 0)/\(e=wl.length\/wl.getD e 0≠wl.getD (e - p) 0) then f'++[((p:Int),(b:Int),(e:Int))] else f':=by rw [<- vQ];rfl
   have vR:km (.str (S wl)) (some (.int b)) (some (.int e))=some (.str (S pt)):=by
    rw [<- vQ];exact gq b e rfl rfl (by exact Zb cz 21 [_,_] [] zp) (by exact Zb Z4 7 [_,_] [] hl bC) (by exact bx hl)
   cases nS:lL pt with
   | nil=>
    have qB:jA wl b f' e=f':=by rw [iI,nS]
    rw [qB]
    cases g3<;>
    ·refine' ⟨_,aW (cm rfl rfl ?part) (aW (cm rfl rfl ?fits) (aW (cQ (bA rfl ?dS) a9) a9)), ?inv⟩
     case part=>
      refine' bM rfl ?k1 ?k2 ?k3 ?k4
      case k1=>exact aa rfl rfl
      case k2=>exact aZ (aa rfl rfl)
      case k3=>exact aZ (aa rfl rfl)
      case k4=>exact vR
     case fits=>
      refine' dF rfl rfl rfl rfl (eE rfl rfl (ak aC (ak ?ln av)) (jw 1 (pt.length / 2+1) rfl ?e1 (by exact lj) (by exact uc a8 bC))) (dg rfl ?l1 rfl rfl (kP (r:=fun (k:Nat)=> .int k) (fun q=>pt.drop q==pt.take (pt.length - q)) (fun q hq ht=>kI ?y1 ?y2) (fun q hq ht=>kJ ?y3))) ?l2
      case ln=>
       refine' aY (sD ?z1 aC (vP (n:=pt.length) (by exact ud a8 bC))) aC ?z2
       case z1=>exact bl rfl (ak (aa rfl rfl) av) (eQ (len_str (by exact dH a8 bC))) (by decide)
       case z2=>rfl
      case e1=>rfl
      case l1=>rw [List.length_map,List.length_range'];exact rm a8 bC
      case l2=>rw [List.length_map];refine Nat.le_trans (List.length_filter_le _ _) ?_;rw [List.length_range'];exact rm a8 bC
      case y1=>
       have cK:=List.mem_range'_1.mp hq
       refine' aH rfl (bM rfl ?w1 ?w2 ?w3 (jX q rfl (by exact mX cK) (by exact dH a8 bC))) (bM rfl ?w4 ?w5 ?w6 (kO (pt.length - q) ?w7 (by exact lV) (by exact dH a8 bC))) (mN.trans (congrArg some ht))
       case w1=>exact aa rfl rfl
       case w2=>exact aZ (aa rfl rfl)
       case w3=>exact ej
       case w4=>exact aa rfl rfl
       case w5=>exact ej
       case w6=>exact aZ (cP (bl rfl (ak (aa rfl rfl) av) (eQ (len_str (by exact dH a8 bC))) (by decide)) (aa rfl rfl) rfl)
       case w7=>exact mY cK
      case y2=>exact aa rfl rfl
      case y3=>
       have cK:=List.mem_range'_1.mp hq
       refine' aH rfl (bM rfl ?w1 ?w2 ?w3 (jX q rfl (by exact mX cK) (by exact dH a8 bC))) (bM rfl ?w4 ?w5 ?w6 (kO (pt.length - q) ?w7 (by exact lV) (by exact dH a8 bC))) (mN.trans (congrArg some ht))
       case w1=>exact aa rfl rfl
       case w2=>exact aZ (aa rfl rfl)
       case w3=>exact ej
       case w4=>exact aa rfl rfl
       case w5=>exact ej
       case w6=>exact aZ (cP (bl rfl (ak (aa rfl rfl) av) (eQ (len_str (by exact dH a8 bC))) (by decide)) (aa rfl rfl) rfl)
       case w7=>exact mY cK
     case dS=>
      refine' aH rfl (aa rfl rfl) (ic (ds:=[]) av (Nat.zero_le _)) (vO (jY.jb (ys:=[]) (by exact hK) (fun _ _=>trivial) (fun _ _=>trivial) ?q))
      case q=>exact nS
     case inv=>exact ⟨rfl,rfl,by first | exact .b | exact .c,by exact xg g4⟩
   | cons p r=>
    have qC:(p::r).length<=4000:=by
     rw [<- nS]
     unfold lL
     refine Nat.le_trans (List.length_filter_le _ _) ?_
     rw [List.length_range'];exact Zb cz 22 [_,_,_,_] [] (bW _) a8 bC
    have hp:=M9 (part:=pt) (q:=p) (by rw [nS];exact .head _)
    have qB:jA wl b f' e=if (b=0\/wl.getD (b - 1) 0≠wl.getD (b - 1+p) 0)/\(e=wl.length\/wl.getD e 0≠wl.getD (e - p) 0) then f'++[((p:Int),(b:Int),(e:Int))] else f':=by rw [iI,nS]
    by_cases c1:b=0\/wl.getD (b - 1) 0≠wl.getD (b - 1+p) 0
    ·by_cases c2:e=wl.length\/wl.getD e 0≠wl.getD (e - p) 0
     ·rw [qB,if_pos ⟨c1,c2⟩]
      cases g3<;>
      ·refine' ⟨_,aW (cm rfl rfl ?part) (aW (cm rfl rfl ?fits) (aW (eF (bA rfl ?dS) (aW (cm rfl rfl ?sY) (aW (eF (bA rfl ?t1) (aW (eF (bA rfl ?t2) (aW (sI rfl rfl (by decide) (show St.o ⟨_,([("found",f'.map bZ)]:OL),none⟩ "found"=some (f'.map bZ) from rfl) (by rw [List.length_map];exact Zb Z2 20 [_,_,_,_] [] g4 hb h4 bC) ?tup) a9)) a9)) a9))) a9)), ?inv⟩
       case part=>
        refine' bM rfl ?k1 ?k2 ?k3 ?k4
        case k1=>exact aa rfl rfl
        case k2=>exact aZ (aa rfl rfl)
        case k3=>exact aZ (aa rfl rfl)
        case k4=>exact vR
       case fits=>
        refine' dF rfl rfl rfl rfl (eE rfl rfl (ak aC (ak ?ln av)) (jw 1 (pt.length / 2+1) rfl ?e1 (by exact lj) (by exact uc a8 bC))) (dg rfl ?l1 rfl rfl (kP (r:=fun (k:Nat)=> .int k) (fun q=>pt.drop q==pt.take (pt.length - q)) (fun q hq ht=>kI ?y1 ?y2) (fun q hq ht=>kJ ?y3) |>.trans (congrArg (fun l=>some (List.map (fun (k:Nat)=>PyData.int k) l)) nS))) ?l2
        case ln=>
         refine' aY (sD ?z1 aC (vP (n:=pt.length) (by exact ud a8 bC))) aC ?z2
         case z1=>exact bl rfl (ak (aa rfl rfl) av) (eQ (len_str (by exact dH a8 bC))) (by decide)
         case z2=>rfl
        case e1=>rfl
        case l1=>rw [List.length_map,List.length_range'];exact rm a8 bC
        case l2=>rw [List.length_map];exact ez qC
        case y1=>
         have cK:=List.mem_range'_1.mp hq
         refine' aH rfl (bM rfl ?w1 ?w2 ?w3 (jX q rfl (by exact mX cK) (by exact dH a8 bC))) (bM rfl ?w4 ?w5 ?w6 (kO (pt.length - q) ?w7 (by exact lV) (by exact dH a8 bC))) (mN.trans (congrArg some ht))
         case w1=>exact aa rfl rfl
         case w2=>exact aZ (aa rfl rfl)
         case w3=>exact ej
         case w4=>exact aa rfl rfl
         case w5=>exact ej
         case w6=>exact aZ (cP (bl rfl (ak (aa rfl rfl) av) (eQ (len_str (by exact dH a8 bC))) (by decide)) (aa rfl rfl) rfl)
         case w7=>exact mY cK
        case y2=>exact aa rfl rfl
        case y3=>
         have cK:=List.mem_range'_1.mp hq
         refine' aH rfl (bM rfl ?w1 ?w2 ?w3 (jX q rfl (by exact mX cK) (by exact dH a8 bC))) (bM rfl ?w4 ?w5 ?w6 (kO (pt.length - q) ?w7 (by exact lV) (by exact dH a8 bC))) (mN.trans (congrArg some ht))
         case w1=>exact aa rfl rfl
         case w2=>exact aZ (aa rfl rfl)
         case w3=>exact ej
         case w4=>exact aa rfl rfl
         case w5=>exact ej
         case w6=>exact aZ (cP (bl rfl (ak (aa rfl rfl) av) (eQ (len_str (by exact dH a8 bC))) (by decide)) (aa rfl rfl) rfl)
         case w7=>exact mY cK
       case dS=>
        exact aH rfl (aa rfl rfl) (ic (ds:=[]) av (Nat.zero_le _)) (vN (jY.jz (xs:=p::r) (ys:=[]) (by exact hK) (fun _ _=>trivial) (fun _ _=>trivial) (List.cons_ne_nil _ _)))
       case sY=>exact bF rfl rfl rfl aC (item_at 0 0 rfl (Nat.succ_pos _) (by exact ez qC))
       case t1=>
        by_cases gx:b=0
        ·refine sF ?_
         exact aH rfl (aa rfl rfl) aC (sJ (by exact Ba gx))
        ·refine' kK ?u1 ?u2
         case u1=>exact aH rfl (aa rfl rfl) aC (nM (by exact xk gx))
         case u2=>
          refine' aH rfl (bF rfl rfl rfl ?v1 (item_str (b - 1) ?v2 (by exact xh hb hl) (by exact bx hl))) (bF rfl rfl rfl ?v3 (item_str (b - 1+p) ?v4 (by exact xj hp hl a8 bC) (by exact bx hl))) (sV ?v5)
          case v1=>exact cP (aa rfl rfl) aC rfl
          case v2=>exact Bb gx
          case v3=>exact aY (cP (aa rfl rfl) aC rfl) (aa rfl rfl) rfl
          case v4=>show (b:Int) - 1+((p:Nat):Int)=_;exact Bc gx
          case v5=>rw [beq_eq_false_iff_ne.mpr (c1.resolve_left gx)];rfl
       case t2=>
        by_cases sZ:e=wl.length
        ·refine sF ?_
         exact aH rfl (aa rfl rfl) (bl rfl (ak (aa rfl rfl) av) (eQ (len_str (by exact bx hl))) (by decide)) (sJ (by exact Zb Z1 22 [_,_] [] sZ))
        ·refine' kK ?u1 ?u2
         case u1=>exact aH rfl (aa rfl rfl) (bl rfl (ak (aa rfl rfl) av) (eQ (len_str (by exact bx hl))) (by decide)) (nM (by exact Zb Z2 21 [_,_] [] sZ))
         case u2=>
          refine' aH rfl (bF rfl rfl rfl ?v1 (item_str e rfl (by exact Zb Z2 22 [_,_] [] hl bC sZ) (by exact bx hl))) (bF rfl rfl rfl ?v3 (item_str (e - p) ?v4 (by exact Bd hp hl bC) (by exact bx hl))) (sV ?v5)
          case v1=>exact aa rfl rfl
          case v3=>exact cP (aa rfl rfl) (aa rfl rfl) rfl
          case v4=>show (e:Int) - ((p:Nat):Int)=_;exact Be hp a8
          case v5=>rw [beq_eq_false_iff_ne.mpr (c2.resolve_left sZ)];rfl
       case tup=>exact qq (ak (aa rfl rfl) (ak (aa rfl rfl) (ak (aa rfl rfl) av))) (Nat.le_of_ble_eq_true rfl)
       case inv=>
        refine ⟨?_,rfl,by first | exact .b | exact .c,by rw [List.length_append];simp;exact Zb Z2 23 [_,_,_,_] [] g4⟩
        rw [List.map_append];rfl
     ·rw [qB,if_neg fun q=>c2 q.2]
      cases g3<;>
      ·refine' ⟨_,aW (cm rfl rfl ?part) (aW (cm rfl rfl ?fits) (aW (eF (bA rfl ?dS) (aW (cm rfl rfl ?sY) (aW (eF (bA rfl ?t1) (aW (cQ (bA rfl ?t2) a9) a9)) a9))) a9)), ?inv⟩
       case part=>
        refine' bM rfl ?k1 ?k2 ?k3 ?k4
        case k1=>exact aa rfl rfl
        case k2=>exact aZ (aa rfl rfl)
        case k3=>exact aZ (aa rfl rfl)
        case k4=>exact vR
       case fits=>
        refine' dF rfl rfl rfl rfl (eE rfl rfl (ak aC (ak ?ln av)) (jw 1 (pt.length / 2+1) rfl ?e1 (by exact lj) (by exact uc a8 bC))) (dg rfl ?l1 rfl rfl (kP (r:=fun (k:Nat)=> .int k) (fun q=>pt.drop q==pt.take (pt.length - q)) (fun q hq ht=>kI ?y1 ?y2) (fun q hq ht=>kJ ?y3) |>.trans (congrArg (fun l=>some (List.map (fun (k:Nat)=>PyData.int k) l)) nS))) ?l2
        case ln=>
         refine' aY (sD ?z1 aC (vP (n:=pt.length) (by exact ud a8 bC))) aC ?z2
         case z1=>exact bl rfl (ak (aa rfl rfl) av) (eQ (len_str (by exact dH a8 bC))) (by decide)
         case z2=>rfl
        case e1=>rfl
        case l1=>rw [List.length_map,List.length_range'];exact rm a8 bC
        case l2=>rw [List.length_map];exact ez qC
        case y1=>
         have cK:=List.mem_range'_1.mp hq
         refine' aH rfl (bM rfl ?w1 ?w2 ?w3 (jX q rfl (by exact mX cK) (by exact dH a8 bC))) (bM rfl ?w4 ?w5 ?w6 (kO (pt.length - q) ?w7 (by exact lV) (by exact dH a8 bC))) (mN.trans (congrArg some ht))
         case w1=>exact aa rfl rfl
         case w2=>exact aZ (aa rfl rfl)
         case w3=>exact ej
         case w4=>exact aa rfl rfl
         case w5=>exact ej
         case w6=>exact aZ (cP (bl rfl (ak (aa rfl rfl) av) (eQ (len_str (by exact dH a8 bC))) (by decide)) (aa rfl rfl) rfl)
         case w7=>exact mY cK
        case y2=>exact aa rfl rfl
        case y3=>
         have cK:=List.mem_range'_1.mp hq
         refine' aH rfl (bM rfl ?w1 ?w2 ?w3 (jX q rfl (by exact mX cK) (by exact dH a8 bC))) (bM rfl ?w4 ?w5 ?w6 (kO (pt.length - q) ?w7 (by exact lV) (by exact dH a8 bC))) (mN.trans (congrArg some ht))
         case w1=>exact aa rfl rfl
         case w2=>exact aZ (aa rfl rfl)
         case w3=>exact ej
         case w4=>exact aa rfl rfl
         case w5=>exact ej
         case w6=>exact aZ (cP (bl rfl (ak (aa rfl rfl) av) (eQ (len_str (by exact dH a8 bC))) (by decide)) (aa rfl rfl) rfl)
         case w7=>exact mY cK
       case dS=>
        exact aH rfl (aa rfl rfl) (ic (ds:=[]) av (Nat.zero_le _)) (vN (jY.jz (xs:=p::r) (ys:=[]) (by exact hK) (fun _ _=>trivial) (fun _ _=>trivial) (List.cons_ne_nil _ _)))
       case sY=>exact bF rfl rfl rfl aC (item_at 0 0 rfl (Nat.succ_pos _) (by exact ez qC))
       case t1=>
        by_cases gx:b=0
        ·refine sF ?_
         exact aH rfl (aa rfl rfl) aC (sJ (by exact Ba gx))
        ·refine' kK ?u1 ?u2
         case u1=>exact aH rfl (aa rfl rfl) aC (nM (by exact xk gx))
         case u2=>
          refine' aH rfl (bF rfl rfl rfl ?v1 (item_str (b - 1) ?v2 (by exact xh hb hl) (by exact bx hl))) (bF rfl rfl rfl ?v3 (item_str (b - 1+p) ?v4 (by exact xj hp hl a8 bC) (by exact bx hl))) (sV ?v5)
          case v1=>exact cP (aa rfl rfl) aC rfl
          case v2=>exact Bb gx
          case v3=>exact aY (cP (aa rfl rfl) aC rfl) (aa rfl rfl) rfl
          case v4=>show (b:Int) - 1+((p:Nat):Int)=_;exact Bc gx
          case v5=>rw [beq_eq_false_iff_ne.mpr (c1.resolve_left gx)];rfl
       case t2=>
        have sZ:e≠wl.length:=fun q=>c2 (.inl q)
        have hq:wl.getD e 0=wl.getD (e - p) 0:=Classical.byContradiction fun q=>c2 (.inr q)
        refine' kK ?u1 ?u2
        case u1=>exact aH rfl (aa rfl rfl) (bl rfl (ak (aa rfl rfl) av) (eQ (len_str (by exact bx hl))) (by decide)) (nM (by exact Zb Z2 24 [_,_,_,_] [] c2))
        case u2=>
          refine' aH rfl (bF rfl rfl rfl ?v1 (item_str e rfl (by exact Zb Z2 25 [_,_,_,_] [] hl bC c2) (by exact bx hl))) (bF rfl rfl rfl ?v3 (item_str (e - p) ?v4 (by exact Bd hp hl bC) (by exact bx hl))) (sV ?v5)
          case v1=>exact aa rfl rfl
          case v3=>exact cP (aa rfl rfl) (aa rfl rfl) rfl
          case v4=>show (e:Int) - ((p:Nat):Int)=_;exact Be hp a8
          case v5=>rw [hq,beq_self_eq_true];rfl
       case inv=>exact ⟨rfl,rfl,by first | exact .b | exact .c,by exact xg g4⟩
    ·rw [qB,if_neg fun q=>c1 q.1]
     cases g3<;>
     ·refine' ⟨_,aW (cm rfl rfl ?part) (aW (cm rfl rfl ?fits) (aW (eF (bA rfl ?dS) (aW (cm rfl rfl ?sY) (aW (cQ (bA rfl ?t1) a9) a9))) a9)), ?inv⟩
      case part=>
       refine' bM rfl ?k1 ?k2 ?k3 ?k4
       case k1=>exact aa rfl rfl
       case k2=>exact aZ (aa rfl rfl)
       case k3=>exact aZ (aa rfl rfl)
       case k4=>exact vR
      case fits=>
       refine' dF rfl rfl rfl rfl (eE rfl rfl (ak aC (ak ?ln av)) (jw 1 (pt.length / 2+1) rfl ?e1 (by exact lj) (by exact uc a8 bC))) (dg rfl ?l1 rfl rfl (kP (r:=fun (k:Nat)=> .int k) (fun q=>pt.drop q==pt.take (pt.length - q)) (fun q hq ht=>kI ?y1 ?y2) (fun q hq ht=>kJ ?y3) |>.trans (congrArg (fun l=>some (List.map (fun (k:Nat)=>PyData.int k) l)) nS))) ?l2
       case ln=>
        refine' aY (sD ?z1 aC (vP (n:=pt.length) (by exact ud a8 bC))) aC ?z2
        case z1=>exact bl rfl (ak (aa rfl rfl) av) (eQ (len_str (by exact dH a8 bC))) (by decide)
        case z2=>rfl
       case e1=>rfl
       case l1=>rw [List.length_map,List.length_range'];exact rm a8 bC
       case l2=>rw [List.length_map];exact ez qC
       case y1=>
        have cK:=List.mem_range'_1.mp hq
        refine' aH rfl (bM rfl ?w1 ?w2 ?w3 (jX q rfl (by exact mX cK) (by exact dH a8 bC))) (bM rfl ?w4 ?w5 ?w6 (kO (pt.length - q) ?w7 (by exact lV) (by exact dH a8 bC))) (mN.trans (congrArg some ht))
        case w1=>exact aa rfl rfl
        case w2=>exact aZ (aa rfl rfl)
        case w3=>exact ej
        case w4=>exact aa rfl rfl
        case w5=>exact ej
        case w6=>exact aZ (cP (bl rfl (ak (aa rfl rfl) av) (eQ (len_str (by exact dH a8 bC))) (by decide)) (aa rfl rfl) rfl)
        case w7=>exact mY cK
       case y2=>exact aa rfl rfl
       case y3=>
        have cK:=List.mem_range'_1.mp hq
        refine' aH rfl (bM rfl ?w1 ?w2 ?w3 (jX q rfl (by exact mX cK) (by exact dH a8 bC))) (bM rfl ?w4 ?w5 ?w6 (kO (pt.length - q) ?w7 (by exact lV) (by exact dH a8 bC))) (mN.trans (congrArg some ht))
        case w1=>exact aa rfl rfl
        case w2=>exact aZ (aa rfl rfl)
        case w3=>exact ej
        case w4=>exact aa rfl rfl
        case w5=>exact ej
        case w6=>exact aZ (cP (bl rfl (ak (aa rfl rfl) av) (eQ (len_str (by exact dH a8 bC))) (by decide)) (aa rfl rfl) rfl)
        case w7=>exact mY cK
      case dS=>
       exact aH rfl (aa rfl rfl) (ic (ds:=[]) av (Nat.zero_le _)) (vN (jY.jz (xs:=p::r) (ys:=[]) (by exact hK) (fun _ _=>trivial) (fun _ _=>trivial) (List.cons_ne_nil _ _)))
      case sY=>exact bF rfl rfl rfl aC (item_at 0 0 rfl (Nat.succ_pos _) (by exact ez qC))
      case t1=>
       have gx:b≠0:=fun q=>c1 (.inl q)
       have hq:wl.getD (b - 1) 0=wl.getD (b - 1+p) 0:=Classical.byContradiction fun q=>c1 (.inr q)
       refine' kK ?u1 ?u2
       case u1=>exact aH rfl (aa rfl rfl) aC (nM (by exact Zb Z2 26 [_,_,_] [] c1))
       case u2=>
         refine' aH rfl (bF rfl rfl rfl ?v1 (item_str (b - 1) ?v2 (by exact xh hb hl) (by exact bx hl))) (bF rfl rfl rfl ?v3 (item_str (b - 1+p) ?v4 (by exact xj hp hl a8 bC) (by exact bx hl))) (sV ?v5)
         case v1=>exact cP (aa rfl rfl) aC rfl
         case v2=>exact Zb Z2 27 [_,_,_] [] c1
         case v3=>exact aY (cP (aa rfl rfl) aC rfl) (aa rfl rfl) rfl
         case v4=>show (b:Int) - 1+((p:Nat):Int)=_;exact Zb Z2 28 [_,_,_,_] [] c1
         case v5=>rw [hq,beq_self_eq_true];rfl
      case inv=>exact ⟨rfl,rfl,by first | exact .b | exact .c,by exact xg g4⟩
  ·(refine fm hi ?_;clear hi;intro g1 g2 g3 g4)
   have e1:(List.range' (b+2) (8+1 - (b+2))).foldl (jA wl b) f=jB wl f b:=by unfold jB;rw [hl]
   rw [e1] at g1 g4
   refine ⟨g1,g2, ?_,by exact Zb cz 23 [_,_,_] [] g4 h4⟩
   generalize ag.vl=MD at g3
   cases g3<;>first | exact .a | exact .b | exact .c
 ·(refine fm hi ?_;clear hi;intro h1 h2 h3 h4)
  have hr:kR wl=gF ib ((List.range' 0 8).foldl (jB wl) []):=by unfold kR;rw [hl]
  rw [hr]
  refine sH (iG (bl rfl (ak (aa (d:= .list (((List.range' 0 8).foldl (jB wl) []).map bZ)) ?_ rfl) av) (Nc (M7 (EC 8) (by exact Zb cz 24 [_] [] h4))) (by decide)))
  show (match ag.ol.lookup ("found":Str) with | some ds=>some (PyData.list ds) | none=>_)=_
  rw [h1];rfl
noncomputable abbrev dG (l:List Nat):PyData:= .str (S l)
theorem encStr:gw dG (fun l=>∀c∈l,c < 1114112) 0:=by
 refine ⟨fun a h=> ?_,fun a=>by rw [PyData.depth];exact Nat.le_refl _,fun a b=> ?_⟩
 ·rw [PyData.canLay0]
  unfold PyData.strOk
  rw [<- Array.all_toList,fN,List.all_eq_true]
  exact fun c hc=>by have:=h c hc;simp;exact this
 ·rw [PyData.eqv,beq_iff_eq]
  exact ⟨zi,fun h=>by rw [h]⟩
theorem add_str {l r:List Nat} (h:l.length+r.length<=4096):gJ .Add (.str (S l)) (.str (S r))=some (.str (S (l++r))):=by
 rw [H9 (by rw [c8,c8];exact h),vK]
theorem vS {l r:List Nat}:cg .LtE (.str (S l)) (.str (S r))=some (!decide (r < l)):=by
 show some (!decide ((S r).cps.toList < (S l).cps.toList))=_
 rw [fN,fN]
theorem vT {l r:List Nat}:cg .GtE (.str (S l)) (.str (S r))=some (!decide (l < r)):=by
 show some (!decide ((S l).cps.toList < (S r).cps.toList))=_
 rw [fN,fN]
section
variable {Φ:cV} {J:aK} {n:Nat} {sc:Scope} {ρ:bh}
theorem ED {x p} (h:(ah Φ J n).t sc ρ x=some true):(ah Φ J (n+1)).t sc ρ (.UnaryOp .Not x p)=some false:=D1 h
theorem EE {x p} (h:(ah Φ J n).t sc ρ x=some false):(ah Φ J (n+1)).t sc ρ (.UnaryOp .Not x p)=some true:=D1 h
end
theorem EF (P:Params):∃px lp pos,hZ P 264 (bj P 264 bk) ["word","p","begin","end","rising"] (.Assign [.Name "found" px] (.List [] lp) pos::(bU P 264).drop 1):=
 ⟨_,_,_,⟨_,rfl,rfl⟩,by decide,rfl,rfl,rfl,rfl,rfl,rfl,rfl,⟨_,_,_,_,rfl,rfl,rfl,rfl⟩,fun x hx=>by
  simp only [List.mem_cons,List.not_mem_nil,or_false] at hx
  rcases hx with rfl | rfl | rfl | rfl | rfl<;>first | exact .inl rfl | exact .inr rfl,rfl⟩
noncomputable def gW (wl:List Nat) (k p t:Nat):List Nat:=(wl.drop (k+t)).take (k+p - (k+t))++(wl.drop k).take (k+t - k)
noncomputable def iJ (wl:List Nat) (k p:Nat):List (List Nat):=(List.range' 1 (p - 1)).map (gW wl k p)
noncomputable def eb (wl:List Nat) (p:Nat) (rising:Bool) (k:Nat):Bool:=
 if rising then ((iJ wl k p).filter fun l=> !decide ((wl.drop k).take (k+p - k) < l))==[] else ((iJ wl k p).filter fun l=> !decide (l < (wl.drop k).take (k+p - k)))==[]
noncomputable def jZ (wl:List Nat) (p:Nat) (rising:Bool) (f:List Nat) (k:Nat):List Nat:=if eb wl p rising k=true then f++[k] else f
noncomputable def jc (wl:List Nat) (p b e:Nat) (rising:Bool):List Nat:=(List.range' (b+1) (e - p+1 - (b+1))).foldl (jZ wl p rising) []
inductive zq (wl:List Nat) (p b e:Nat) (rising:Bool):VL->Prop
 | a:zq wl p b e rising [("rising", .bool rising),("end", .int e),("begin", .int b),("p", .int p),("word", .str (S wl))]
 | b {x y}:zq wl p b e rising [("rising", .bool rising),("end", .int e),("begin", .int b),("p", .int p),("word", .str (S wl)),("k",x),("turnings",y)]
theorem Ng {wl:List Nat} {k p t:Nat} (hw:∀c∈wl,c < 1114112):∀c∈gW wl k p t,c < 1114112:=fun c hc=>by
 unfold gW at hc
 rcases List.mem_append.mp hc with h | h
 ·exact hw c (List.mem_of_mem_drop (List.mem_of_mem_take h))
 ·exact hw c (List.mem_of_mem_drop (List.mem_of_mem_take h))
theorem Nh (P:Params) (wl:List Nat) (hl:wl.length=8) (hw:∀c∈wl,c < 1114112) (p b e:Nat) (rising:Bool) (hp:1<=p) (eo:b+p<=e) (he:e<=8):
  kL (bc (ah dR eX 10) c0 6 (bj P 264 bk).scope ((mC ["word","p","begin","end","rising"] [.str (S wl), .int p, .int b, .int e, .bool rising]).ju "found" []) ((bU P 264).drop 1))=some (.list ((jc wl p b e rising).map fun (k:Nat)=> .int k)):=by
 conv=>lhs;arg 1;arg 6;whnf
 conv=>lhs;arg 1;arg 4;whnf
 refine yT (fun k f st=>st.ol=([("found",f.map fun (k:Nat)=>PyData.int k)]:OL)/\st.h=none/\zq wl p b e rising st.vl/\f.length<=k) (jZ wl p rising) (b+1) (e - p+1 - (b+1)) [] rfl (by exact Zb Z1 9 [_,_,_] [] he) ?_ ⟨rfl,rfl, .a,Nat.zero_le _⟩ (fun k vU vV f st hi=> ?_) (fun ag hi=> ?_)
 ·refine' eE rfl rfl ?h1 (jw (b+1) (e - p+1) ?h2 ?h3 (by exact Zb cA 14 [_,_,_] [] eo he) (by exact Zb Z3 15 [_,_] [] he))
  case h1=>exact ak (aY (aa rfl rfl) aC rfl) (ak (aY (cP (aa rfl rfl) (aa rfl rfl) rfl) aC rfl) av)
  case h2=>exact pK
  case h3=>exact Zb cA 15 [_,_,_] [] eo
 ·obtain ⟨vl,ol,h⟩:=st
  (refine fm hi ?_;clear hi;intro g1 g2 g3 g4)
  dsimp only at g1 g2 g3
  subst g1 g2
  refine ⟨⟨fL "k" (.int k) vl,([("found",f.map fun (k:Nat)=>PyData.int k)]:OL),none⟩,rfl, ?_⟩
  have gy:k+p<=8:=by exact Zb cA 16 [_,_,_,_] [] eo vV he
  have hT:some ((List.range' 1 (p - 1)).map fun t=>dG (gW wl k p t))=some ((iJ wl k p).map dG):=by unfold iJ;rw [List.map_map];rfl
  have j0:(iJ wl k p).length<=8:=by unfold iJ;rw [List.length_map,List.length_range'];exact Zb cA 17 [_,_,_] [] eo he
  have bt:∀l∈iJ wl k p,∀c∈l,c < 1114112:=fun l hl=>by
   (refine aj (List.mem_map.mp hl:) fun t _ ay=> ?_;subst ay)
   exact Ng hw
  cases rising with
  | true=>
   by_cases hF:(iJ wl k p).filter (fun l=> !decide ((wl.drop k).take (k+p - k) < l))=[]
   ·have hs:jZ wl p true f k=f++[k]:=by unfold jZ eb;rw [if_pos rfl,hF];rfl
    rw [hs]
    cases g3<;>
    ·refine' ⟨_,aW (cm rfl rfl ?turn) (aW (eF (bA rfl ?dS) (aW (sI rfl rfl (by decide) (show St.o ⟨_,([("found",f.map fun (k:Nat)=>PyData.int k)]:OL),none⟩ "found"=some (f.map fun (k:Nat)=>PyData.int k) from rfl) (by rw [List.length_map];exact Zb Z1 35 [_,_,_] [] gy g4) ?ap) a9)) (aW (cQ (bA rfl (vq (ED (gV (aa rfl rfl) rfl)))) a9) a9)), ?inv⟩
     case turn=>
      refine' dF rfl rfl rfl rfl (eE rfl rfl (ak aC (ak ?ln av)) (jw 1 p rfl rfl (by exact lj) (by exact ue eo he))) (dg rfl ?l1 rfl rfl ((gu (r:=fun t=>dG (gW wl k p t)) fun t ht=>fg ?bd).trans hT)) ?l2
      case ln=>exact aa rfl rfl
      case l1=>rw [List.length_map,List.length_range'];exact uf eo he
      case l2=>rw [List.length_map];exact dW j0
      case bd=>
       have dJ:=List.mem_range'_1.mp ht
       refine' aY (bM rfl ?w1 ?w2 ?w3 (gq (k+t) (k+p) ?x1 ?x2 (by exact ug dJ) (by exact jH gy hl) (by exact bx hl))) (bM rfl ?w4 ?w5 ?w6 (gq k (k+t) ?x3 ?x4 (by exact g9) (by exact uh dJ gy hl) (by exact bx hl))) (add_str (by rw [List.length_take,List.length_take];exact ui dJ eo he))
       case w1=>exact aa rfl rfl
       case w2=>exact aZ (aY (aa rfl rfl) (aa rfl rfl) rfl)
       case w3=>exact aZ (aY (aa rfl rfl) (aa rfl rfl) rfl)
       case w4=>exact aa rfl rfl
       case w5=>exact aZ (aa rfl rfl)
       case w6=>exact aZ (aY (aa rfl rfl) (aa rfl rfl) rfl)
       case x1=>rfl
       case x2=>rfl
       case x3=>rfl
       case x4=>rfl
     case dS=>
      refine' vp (gV (aa rfl rfl) rfl) (aH rfl (dF rfl rfl rfl rfl (i9 (aa (d:= .list ((iJ wl k p).map dG)) rfl rfl)) (dg rfl ?l1 rfl rfl (kP (r:=dG) (fun l=> !decide ((wl.drop k).take (k+p - k) < l)) (fun l hl ht=>kI ?y1 ?y2) (fun l hl ht=>kJ ?y3))) ?l2) (ic (ds:=[]) av (Nat.zero_le _)) (jb (encStr.jb (ys:=[]) (by exact hK) ?ok (fun _ h=>nomatch h) hF)))
      case l1=>rw [List.length_map];exact dW j0
      case l2=>rw [List.length_map];refine Nat.le_trans (List.length_filter_le _ _) ?_;exact dW j0
      case ok=>exact fun l hl=>bt l (List.mem_filter.mp hl).1
      case y1=>
       refine' aH rfl (aa rfl rfl) (bM rfl ?w1 ?w2 ?w3 (gq k (k+p) ?x1 ?x2 (by exact g9) (by exact jH gy ‹_›) (by exact bx ‹_›))) (vS.trans (congrArg some ht))
       case w1=>exact aa rfl rfl
       case w2=>exact aZ (aa rfl rfl)
       case w3=>exact aZ (aY (aa rfl rfl) (aa rfl rfl) rfl)
       case x1=>rfl
       case x2=>rfl
      case y2=>exact aa rfl rfl
      case y3=>
       refine' aH rfl (aa rfl rfl) (bM rfl ?w1 ?w2 ?w3 (gq k (k+p) ?x1 ?x2 (by exact g9) (by exact jH gy ‹_›) (by exact bx ‹_›))) (vS.trans (congrArg some ht))
       case w1=>exact aa rfl rfl
       case w2=>exact aZ (aa rfl rfl)
       case w3=>exact aZ (aY (aa rfl rfl) (aa rfl rfl) rfl)
       case x1=>rfl
       case x2=>rfl
     case ap=>exact aa rfl rfl
     case inv=>
      refine ⟨?_,rfl, .b,by rw [List.length_append];simp;exact g4⟩
      rw [List.map_append];rfl
   ·have hs:jZ wl p true f k=f:=by
     unfold jZ eb
     rw [if_pos rfl]
     rw [if_neg (fun q=>hF (beq_iff_eq.mp q))]
    rw [hs]
    cases g3<;>
    ·refine' ⟨_,aW (cm rfl rfl ?turn) (aW (cQ (bA rfl ?dS) a9) (aW (cQ (bA rfl (vq (ED (gV (aa rfl rfl) rfl)))) a9) a9)), ?inv⟩
     case turn=>
      refine' dF rfl rfl rfl rfl (eE rfl rfl (ak aC (ak ?ln av)) (jw 1 p rfl rfl (by exact lj) (by exact ue eo he))) (dg rfl ?l1 rfl rfl ((gu (r:=fun t=>dG (gW wl k p t)) fun t ht=>fg ?bd).trans hT)) ?l2
      case ln=>exact aa rfl rfl
      case l1=>rw [List.length_map,List.length_range'];exact uf eo he
      case l2=>rw [List.length_map];exact dW j0
      case bd=>
       have dJ:=List.mem_range'_1.mp ht
       refine' aY (bM rfl ?w1 ?w2 ?w3 (gq (k+t) (k+p) ?x1 ?x2 (by exact ug dJ) (by exact jH gy hl) (by exact bx hl))) (bM rfl ?w4 ?w5 ?w6 (gq k (k+t) ?x3 ?x4 (by exact g9) (by exact uh dJ gy hl) (by exact bx hl))) (add_str (by rw [List.length_take,List.length_take];exact ui dJ eo he))
       case w1=>exact aa rfl rfl
       case w2=>exact aZ (aY (aa rfl rfl) (aa rfl rfl) rfl)
       case w3=>exact aZ (aY (aa rfl rfl) (aa rfl rfl) rfl)
       case w4=>exact aa rfl rfl
       case w5=>exact aZ (aa rfl rfl)
       case w6=>exact aZ (aY (aa rfl rfl) (aa rfl rfl) rfl)
       case x1=>rfl
       case x2=>rfl
       case x3=>rfl
       case x4=>rfl
     case dS=>
      refine' vp (gV (aa rfl rfl) rfl) (aH rfl (dF rfl rfl rfl rfl (i9 (aa (d:= .list ((iJ wl k p).map dG)) rfl rfl)) (dg rfl ?l1 rfl rfl (kP (r:=dG) (fun l=> !decide ((wl.drop k).take (k+p - k) < l)) (fun l hl ht=>kI ?y1 ?y2) (fun l hl ht=>kJ ?y3))) ?l2) (ic (ds:=[]) av (Nat.zero_le _)) (jz (encStr.jz (ys:=[]) (by exact hK) ?ok (fun _ h=>nomatch h) hF)))
      case l1=>rw [List.length_map];exact dW j0
      case l2=>rw [List.length_map];refine Nat.le_trans (List.length_filter_le _ _) ?_;exact dW j0
      case ok=>exact fun l hl=>bt l (List.mem_filter.mp hl).1
      case y1=>
       refine' aH rfl (aa rfl rfl) (bM rfl ?w1 ?w2 ?w3 (gq k (k+p) ?x1 ?x2 (by exact g9) (by exact jH gy ‹_›) (by exact bx ‹_›))) (vS.trans (congrArg some ht))
       case w1=>exact aa rfl rfl
       case w2=>exact aZ (aa rfl rfl)
       case w3=>exact aZ (aY (aa rfl rfl) (aa rfl rfl) rfl)
       case x1=>rfl
       case x2=>rfl
      case y2=>exact aa rfl rfl
      case y3=>
       refine' aH rfl (aa rfl rfl) (bM rfl ?w1 ?w2 ?w3 (gq k (k+p) ?x1 ?x2 (by exact g9) (by exact jH gy ‹_›) (by exact bx ‹_›))) (vS.trans (congrArg some ht))
       case w1=>exact aa rfl rfl
       case w2=>exact aZ (aa rfl rfl)
       case w3=>exact aZ (aY (aa rfl rfl) (aa rfl rfl) rfl)
       case x1=>rfl
       case x2=>rfl
     case inv=>exact ⟨rfl,rfl, .b,by exact rq g4⟩
  | false=>
   by_cases hF:(iJ wl k p).filter (fun l=> !decide (l < (wl.drop k).take (k+p - k)))=[]
   ·have hs:jZ wl p false f k=f++[k]:=by unfold jZ eb;rw [if_neg Bool.false_ne_true,hF];rfl
    rw [hs]
    cases g3<;>
    ·refine' ⟨_,aW (cm rfl rfl ?turn) (aW (cQ (bA rfl (vq (gV (aa rfl rfl) rfl))) a9) (aW (eF (bA rfl ?dS) (aW (sI rfl rfl (by decide) (show St.o ⟨_,([("found",f.map fun (k:Nat)=>PyData.int k)]:OL),none⟩ "found"=some (f.map fun (k:Nat)=>PyData.int k) from rfl) (by rw [List.length_map];exact Zb Z1 35 [_,_,_] [] gy g4) ?ap) a9)) a9)), ?inv⟩
     case turn=>
      refine' dF rfl rfl rfl rfl (eE rfl rfl (ak aC (ak ?ln av)) (jw 1 p rfl rfl (by exact lj) (by exact ue eo he))) (dg rfl ?l1 rfl rfl ((gu (r:=fun t=>dG (gW wl k p t)) fun t ht=>fg ?bd).trans hT)) ?l2
      case ln=>exact aa rfl rfl
      case l1=>rw [List.length_map,List.length_range'];exact uf eo he
      case l2=>rw [List.length_map];exact dW j0
      case bd=>
       have dJ:=List.mem_range'_1.mp ht
       refine' aY (bM rfl ?w1 ?w2 ?w3 (gq (k+t) (k+p) ?x1 ?x2 (by exact ug dJ) (by exact jH gy hl) (by exact bx hl))) (bM rfl ?w4 ?w5 ?w6 (gq k (k+t) ?x3 ?x4 (by exact g9) (by exact uh dJ gy hl) (by exact bx hl))) (add_str (by rw [List.length_take,List.length_take];exact ui dJ eo he))
       case w1=>exact aa rfl rfl
       case w2=>exact aZ (aY (aa rfl rfl) (aa rfl rfl) rfl)
       case w3=>exact aZ (aY (aa rfl rfl) (aa rfl rfl) rfl)
       case w4=>exact aa rfl rfl
       case w5=>exact aZ (aa rfl rfl)
       case w6=>exact aZ (aY (aa rfl rfl) (aa rfl rfl) rfl)
       case x1=>rfl
       case x2=>rfl
       case x3=>rfl
       case x4=>rfl
     case dS=>
      refine' vp (EE (gV (aa rfl rfl) rfl)) (aH rfl (dF rfl rfl rfl rfl (i9 (aa (d:= .list ((iJ wl k p).map dG)) rfl rfl)) (dg rfl ?l1 rfl rfl (kP (r:=dG) (fun l=> !decide (l < (wl.drop k).take (k+p - k))) (fun l hl ht=>kI ?y1 ?y2) (fun l hl ht=>kJ ?y3))) ?l2) (ic (ds:=[]) av (Nat.zero_le _)) (jb (encStr.jb (ys:=[]) (by exact hK) ?ok (fun _ h=>nomatch h) hF)))
      case l1=>rw [List.length_map];exact dW j0
      case l2=>rw [List.length_map];refine Nat.le_trans (List.length_filter_le _ _) ?_;exact dW j0
      case ok=>exact fun l hl=>bt l (List.mem_filter.mp hl).1
      case y1=>
       refine' aH rfl (aa rfl rfl) (bM rfl ?w1 ?w2 ?w3 (gq k (k+p) ?x1 ?x2 (by exact g9) (by exact jH gy ‹_›) (by exact bx ‹_›))) (vT.trans (congrArg some ht))
       case w1=>exact aa rfl rfl
       case w2=>exact aZ (aa rfl rfl)
       case w3=>exact aZ (aY (aa rfl rfl) (aa rfl rfl) rfl)
       case x1=>rfl
       case x2=>rfl
      case y2=>exact aa rfl rfl
      case y3=>
       refine' aH rfl (aa rfl rfl) (bM rfl ?w1 ?w2 ?w3 (gq k (k+p) ?x1 ?x2 (by exact g9) (by exact jH gy ‹_›) (by exact bx ‹_›))) (vT.trans (congrArg some ht))
       case w1=>exact aa rfl rfl
       case w2=>exact aZ (aa rfl rfl)
       case w3=>exact aZ (aY (aa rfl rfl) (aa rfl rfl) rfl)
       case x1=>rfl
       case x2=>rfl
     case ap=>exact aa rfl rfl
     case inv=>
      refine ⟨?_,rfl, .b,by rw [List.length_append];simp;exact g4⟩
      rw [List.map_append];rfl
   ·have hs:jZ wl p false f k=f:=by
     unfold jZ eb
     rw [if_neg Bool.false_ne_true]
     rw [if_neg (fun q=>hF (beq_iff_eq.mp q))]
    rw [hs]
    cases g3<;>
    ·refine' ⟨_,aW (cm rfl rfl ?turn) (aW (cQ (bA rfl (vq (gV (aa rfl rfl) rfl))) a9) (aW (cQ (bA rfl ?dS) a9) a9)), ?inv⟩
     case turn=>
      refine' dF rfl rfl rfl rfl (eE rfl rfl (ak aC (ak ?ln av)) (jw 1 p rfl rfl (by exact lj) (by exact ue eo he))) (dg rfl ?l1 rfl rfl ((gu (r:=fun t=>dG (gW wl k p t)) fun t ht=>fg ?bd).trans hT)) ?l2
      case ln=>exact aa rfl rfl
      case l1=>rw [List.length_map,List.length_range'];exact uf eo he
      case l2=>rw [List.length_map];exact dW j0
      case bd=>
       have dJ:=List.mem_range'_1.mp ht
       refine' aY (bM rfl ?w1 ?w2 ?w3 (gq (k+t) (k+p) ?x1 ?x2 (by exact ug dJ) (by exact jH gy hl) (by exact bx hl))) (bM rfl ?w4 ?w5 ?w6 (gq k (k+t) ?x3 ?x4 (by exact g9) (by exact uh dJ gy hl) (by exact bx hl))) (add_str (by rw [List.length_take,List.length_take];exact ui dJ eo he))
       case w1=>exact aa rfl rfl
       case w2=>exact aZ (aY (aa rfl rfl) (aa rfl rfl) rfl)
       case w3=>exact aZ (aY (aa rfl rfl) (aa rfl rfl) rfl)
       case w4=>exact aa rfl rfl
       case w5=>exact aZ (aa rfl rfl)
       case w6=>exact aZ (aY (aa rfl rfl) (aa rfl rfl) rfl)
       case x1=>rfl
       case x2=>rfl
       case x3=>rfl
       case x4=>rfl
     case dS=>
      refine' vp (EE (gV (aa rfl rfl) rfl)) (aH rfl (dF rfl rfl rfl rfl (i9 (aa (d:= .list ((iJ wl k p).map dG)) rfl rfl)) (dg rfl ?l1 rfl rfl (kP (r:=dG) (fun l=> !decide (l < (wl.drop k).take (k+p - k))) (fun l hl ht=>kI ?y1 ?y2) (fun l hl ht=>kJ ?y3))) ?l2) (ic (ds:=[]) av (Nat.zero_le _)) (jz (encStr.jz (ys:=[]) (by exact hK) ?ok (fun _ h=>nomatch h) hF)))
      case l1=>rw [List.length_map];exact dW j0
      case l2=>rw [List.length_map];refine Nat.le_trans (List.length_filter_le _ _) ?_;exact dW j0
      case ok=>exact fun l hl=>bt l (List.mem_filter.mp hl).1
      case y1=>
       refine' aH rfl (aa rfl rfl) (bM rfl ?w1 ?w2 ?w3 (gq k (k+p) ?x1 ?x2 (by exact g9) (by exact jH gy ‹_›) (by exact bx ‹_›))) (vT.trans (congrArg some ht))
       case w1=>exact aa rfl rfl
       case w2=>exact aZ (aa rfl rfl)
       case w3=>exact aZ (aY (aa rfl rfl) (aa rfl rfl) rfl)
       case x1=>rfl
       case x2=>rfl
      case y2=>exact aa rfl rfl
      case y3=>
       refine' aH rfl (aa rfl rfl) (bM rfl ?w1 ?w2 ?w3 (gq k (k+p) ?x1 ?x2 (by exact g9) (by exact jH gy ‹_›) (by exact bx ‹_›))) (vT.trans (congrArg some ht))
       case w1=>exact aa rfl rfl
       case w2=>exact aZ (aa rfl rfl)
       case w3=>exact aZ (aY (aa rfl rfl) (aa rfl rfl) rfl)
       case x1=>rfl
       case x2=>rfl
     case inv=>exact ⟨rfl,rfl, .b,by exact rq g4⟩
 ·(refine fm hi ?_;clear hi;intro h1 h2 h3 h4)
  refine sH (iG (aa (d:= .list ((jc wl p b e rising).map fun (k:Nat)=> .int k)) ?_ rfl))
  show (match ag.ol.lookup ("found":Str) with | some ds=>some (PyData.list ds) | none=>_)=_
  rw [h1];rfl
section
variable {prog:Program} {w:World} {mg mb:Str->Option Value}
variable {A:Around} {lm:Bool} {cd:Option (Addr × Addr)} {af fr X:List Addr} {ae s s':Shared} {env:Env} {sc:Scope} {own:List (Str × Addr)} {st ag:St} {c:Cf} {I:aK}
theorem qD {Φ:cV} {J:aK} {k n:Nat} {t:Stmt} {r:List Stmt} {d:PyData} {E:Value->Shared->Prop} {Q:Flow->Shared->Prop} {m:Nat} (hA:cG A) (hJ:∀A,Lv m A->br prog w mg mb A false J) (FO:fJ prog w mg mb A lm m Φ) (H:fV prog w mg mb A c) (O:aX cd fr af env sc) (F:FS w.params mg mb lm cd af fr ae env sc own st s)
  (h:bT (ah Φ J (k+1)) c (bc (ah Φ J (k+1)) c n) sc st t=some (.ret d,ag)) (hr:∀v s',FS w.params mg mb lm cd af fr ae env sc own ag s'->Rep af s'.heap v d->Q (.ret v) s'):
  wpAny (model prog w) A (execs (t::r) env) Q E s:=by
 refine wpAny_execs_cons (wpAny_mono (u6 hA (kB hA hJ FO k) (kB hA hJ FO (k+1)) H (sk hA hJ FO H n) O F h) (fun f ab q=> ?_) fun _ _ q=>q)
 (refine tW q ?_;clear q;intro au _ v ay rv;subst ay)
 exact hr v ab au (rv.more fun _ h=>List.mem_append_right _ h)
theorem Ni {E:Value->Shared->Prop} {Q:Value->Shared->Prop} {s:Shared} {x y:Str} {t u:Tok} (hy:(y.length==0)=false) (bQ:x.length<=4096) (r8:(Txt.split x y).length<=4096)
  (h:∀(l:List (Str × Tok)) (k:Tok),l.map (·.1)=Txt.split x y->Q (.ref s.heap.objs.size) {s with heap:=s.heap.push {cls:= .type "list",data:= .seq (strValues l).toArray},toks:=k}):
  wpAny (model prog w) A (call (.builtin "str.split") [.str x t, .str y u]) Q E s:=by
 have hS:x.length<=sizeLine:=by rw [sizeLine_eq];exact Zb Z1 33 [_] [] bQ
 cases h1:(decide (x.length < y.length)||decide (Builtin.Str.strKind x < Builtin.Str.strKind y)) with
 | true=>
  exact call_meets PySem.F.slot_str_split (typeIs_str _ _ _) PySem.F.entry_str_split (PySem.F.args_str_split_2 _ _) (meets_str_split_cannot_occur x y t u h1)
   (h [(x,t)] s.toks (if_pos h1).symm)
 | false=>
  cases hf:(Builtin.Str.occurrences x y 0 x.length (x.length+1)).isEmpty with
  | true=>
   exact call_meets PySem.F.slot_str_split (typeIs_str _ _ _) PySem.F.entry_str_split (PySem.F.args_str_split_2 _ _) (meets_str_split_not_found x y t u h1 hy hf)
    (h [(x,t)] s.toks ((if_neg (ne_true_of_eq_false h1)).trans (if_pos hf)).symm)
  | false=>
   have e:Txt.split x y=Builtin.Str.partsBetween x (Builtin.Str.occurrences x y 0 x.length (x.length+1)) y.length:=(if_neg (ne_true_of_eq_false h1)).trans (if_neg (ne_true_of_eq_false hf))
   refine call_meets PySem.F.slot_str_split (typeIs_str _ _ _) PySem.F.entry_str_split (PySem.F.args_str_split_2 _ _) (meets_str_split_sep x y t u h1 hy hf hS (by rw [<- e,sizeLine_eq];exact Zb Z1 33 [_] [] r8)) ?_
   show wants _ E _ {s with toks:=_,heap:=s.heap.push {cls:= .type "list",data:= .seq (strsFrom s.toks (Builtin.Str.partsBetween x (Builtin.Str.occurrences x y 0 x.length (x.length+1)) y.length)).toArray}}
   rw [strsFrom_eq]
   exact h (numbered s.toks _) _ ((numbered_texts _ _).trans e.symm)
theorem Nj (hA:cG A) (S:br prog w mg mb A lm I) (F:FS w.params mg mb lm cd af fr ae env sc own st s) (O:aX cd fr af env sc) {x:Str} {o a:Expr} {px ap cp pos:Pos} {t u:Str} {E:Value->Shared->Prop} {Q:Flow->Shared->Prop} (hx:dD sc x=true) (ho:st.o x=none) (hk:x≠cY) (Nk:attributeBase o "split" env (eval o env)=eval o env) (bD:starEach [a] env=[(false,eval a env)]) (cX:(ap.endLine==cp.line)=true)
  (h1:I.e sc st.v o=some (.str t)) (h2:I.e sc st.v a=some (.str u)) (hy:(u.length==0)=false) (bQ:t.length<=4096) (r8:(Txt.split t u).length<=4096) (zr:swapsWith (.Call (.Attribute o "split" ap) [a] [] cp) (some (.Name x px)) pos.line env=pure false)
  (h:∀a s',FS w.params mg mb lm cd af fr ae env sc ((x,a)::own) (st.ju x ((Txt.split t u).map .str)) s'->Q .next s'):wpAny (model prog w) A (exec (.Assign [.Name x px] (.Call (.Attribute o "split" ap) [a] [] cp) pos) env) Q E s:=by
 refine wpAny_Assign_Name ?_ zr
 refine wpAny_Call_method_lateS Nk (by rw [bD];rfl) cX ((S.e F.ctx F.aD F.er h1).then (Kp.refl F.ctx) fun ov ab k₁ ro=> ?_)
 (refine xE ro.str_inv fun tt aF=> ?_;subst aF)
 refine ⟨"str","str.split",PySem.F.plainAttrs_str,PySem.F.slot_str_split,PySem.F.type_str_split,typeIs_str _ _ _,fun b e=>(nomatch e), ?_⟩
 refine gO (first:=[.str t tt]) (by rw [bD];rfl) ?_
 rw [bD]
 have au:=F.kp O k₁
 refine Calls.spliced_cons ((S.e au.ctx au.aD au.er h2).then (Kp.refl au.ctx) fun uv aq k₂ ru=>Calls.spliced_nil ⟨.inl ⟨_,rfl⟩, ?_⟩)
 (refine xE ru.str_inv fun tu aP=> ?_;subst aP)
 have aB:=au.kp O k₂
 refine Ni hy bQ r8 fun l k e=> ?_
 have rl:ax (oa own++(fr++af)) aq.heap (strValues l) ((Txt.split t u).map .str):=by
  rw [<- e]
  have:=xW (X:=oa own++(fr++af)) (h:=aq.heap) l
  simpa using this
 refine bG (aB.ju (x:=x) (vs:=(strValues l).toArray) (tk:=k) O ho hk (by simpa using rl):) fun bu EG zt=> ?_
 exact bu.Dz O hx (by rw [List.lookup_cons,beq_self_eq_true]) zt (by simpa using EG) fun s' F'=>h _ s' F'
theorem Nl (hA:cG A) (S:br prog w mg mb A lm I) (F:FS w.params mg mb lm cd af fr ae env sc own st s) (O:aX cd fr af env sc) {x y:Str} {px py tp pos:Pos} {k:Nat} {value:Expr} {d1 d2:PyData} {E:Value->Shared->Prop} {Q:Flow->Shared->Prop} (hx:dD sc x=true) (hy:dD sc y=true)
  (h1:I.e sc st.v value=some (.tuple [d1,d2])) (zr:swapsWithSole [.Tuple [.Name x px, .Name y py] k tp] value pos.line env=pure false) (hw:swappedStores [.Tuple [.Name x px, .Name y py] k tp] value env=pure (some [x,y]))
  (h:∀s',FS w.params mg mb lm cd af fr ae env sc own ((st.set y d2).set x d1) s'->Q .next s'):wpAny (model prog w) A (exec (.Assign [.Tuple [.Name x px, .Name y py] k tp] value pos) env) Q E s:=by
 refine Assign_Tuple_swapped ((S.e F.ctx F.aD F.er h1).then (Kp.refl F.ctx) fun v ab k₁ r=> ?_) zr hw
 (refine cT r.oD fun t o vs n bI t1 m1 e1 c1 Nm r1=> ?_;subst bI)
 have hl:=r1.length
 rw [Array.length_toList] at hl
 have hl:vs.size=2:=hl
 show wpAny _ _ (unpackItems (.ref t) 2 none) _ _ _
 rw [<- hl]
 refine unpackItems_tuple hA.hd ⟨o,e1,c1,n,Nm⟩ fun h' jn=> ?_
 have keep:∀b o,ab.heap.get? b=some o->h'.get? b=some o:=fun b o e=>jn b o (Nat.ne_of_lt (Heap.lt_size e)) e
 have au:=F.kp O k₁
 have F':FS w.params mg mb lm cd af fr ae env sc own st {ab with heap:=h'}:=au.go O ⟨h',ab.toks,rfl⟩ (aA.of keep) (au.ctx.keeps keep)
 refine aU r1.cons_inv fun v1 us mO q1 r1=> ?_
 obtain ⟨v2,us,rfl,q2,r1⟩:=r1.cons_inv
 rw [r1.nil_inv] at mO
 rw [mO]
 show wpAny _ _ (assignInOrder [bindName env y,bindName env x] [v2,v1]) _ _ _
 refine wpAny_bind (wpAny_holding (bindName_ (F'.store O hy (q2.grow (aA.of keep)) fun aq aB gT=> ?_)))
 have r':Rep (oa own++(fr++af)) aq.heap v1 d1:=(q1.grow (aA.of keep)).keeps (iw fun b o n m e=>gT b o (fun q=>m (List.mem_append_right _ (List.mem_append_left _ q))) e)
 refine wpAny_bind (wpAny_holding (bindName_ (aB.store O hx r' fun aS bu _=> ?_)))
 exact wpAny_pure (h aS bu)
end
theorem s7 {x:Str} (h:x.length<=4096):nF [.str x]=some (.int x.length):=by
 exact if_pos h
section
variable {I:aK} {c:Cf} {n:Nat} {B:Scope->St->List Stmt->Option (Out × St)} {sc:Scope} {st bE:St}
theorem EH {x:Str} {q p' p:Pos} {i:Expr} {ds fz:List PyData} {k:Int} (hk:x≠cY) (ho:st.o x=some ds) (hi:I.e sc st.full i=some (.int k)) (hl:ds.length<=4096) (hd:u0 k ds=some fz):bT I c B sc st (.Delete [.Subscript (.Name x q) i p'] p)=some (.aT,st.own x fz):=by
 refine (if_pos hk).trans ?_
 show (st.o x).bind _=_
 rw [ho]
 show ((I.e sc st.full i).bind gI).bind _=_
 rw [hi]
 refine (if_pos hl).trans ?_
 rw [hd];rfl
theorem EI {x:Str} {q p:Pos} {e:Expr} {a b:Int} (hs:dD sc x=true) (hv:st.v x=some (.int a)) (he:I.e sc st.full e=some (.int b)):bT I c B sc st (.AugAssign (.Name x q) .Add e p)=some (.aT,st.set x (.int (a+b))):=by
 refine (if_pos hs).trans ?_
 show ((st.v x).bind gI).bind _=_
 rw [hv]
 show ((I.e sc st.full e).bind gI).bind _=_
 rw [he];rfl
theorem Nn {x:Str} {q p:Pos} {e:Expr} {a b:Int} (hs:dD sc x=true) (hv:st.v x=some (.int a)) (he:I.e sc st.full e=some (.int b)):bT I c B sc st (.AugAssign (.Name x q) .Sub e p)=some (.aT,st.set x (.int (a - b))):=by
 refine (if_pos hs).trans ?_
 show ((st.v x).bind gI).bind _=_
 rw [hv]
 show ((I.e sc st.full e).bind gI).bind _=_
 rw [he];rfl
theorem Np {t:Expr} {m:Option Expr} {p:Pos} (h:I.t sc st.full t=some true):bT I c B sc st (.Assert t m p)=some (.aT,st):=by
 show (I.t sc st.full t).bind _=_
 rw [h];rfl
end
section
variable {prog:Program} {w:World} {mg mb:Str->Option Value}
variable {A:Around} {lm:Bool} {cd:Option (Addr × Addr)} {af fr X:List Addr} {ae s s':Shared} {env:Env} {sc:Scope} {own:List (Str × Addr)} {st ag:St} {c:Cf} {I:aK}
theorem zu {Φ:cV} {J:aK} {k n:Nat} {t:Stmt} {r:List Stmt} {E:Value->Shared->Prop} {Q:Flow->Shared->Prop} {m:Nat} (hA:cG A) (hJ:∀A,Lv m A->br prog w mg mb A false J) (FO:fJ prog w mg mb A lm m Φ) (H:fV prog w mg mb A c) (O:aX cd fr af env sc) (F:FS w.params mg mb lm cd af fr ae env sc own st s) (P:St->Prop) (d:PyData)
  (h:(∃ag,bT (ah Φ J (k+1)) c (bc (ah Φ J (k+1)) c n) sc st t=some (.aT,ag)/\P ag)\/∃ag,bT (ah Φ J (k+1)) c (bc (ah Φ J (k+1)) c n) sc st t=some (.ret d,ag)) (hr:∀ag s',P ag->FS w.params mg mb lm cd af fr ae env sc own ag s'->wpAny (model prog w) A (execs r env) Q E s')
  (hq:∀v ag s',FS w.params mg mb lm cd af fr ae env sc own ag s'->Rep af s'.heap v d->Q (.ret v) s'):wpAny (model prog w) A (execs (t::r) env) Q E s:=by
 rcases h with ⟨ag,h,p⟩ | ⟨ag,h⟩
 ·exact mD hA hJ FO H O F h fun s' F'=>hr ag s' p F'
 ·exact qD hA hJ FO H O F h fun v s' F' r=>hq v ag s' F' r
end
theorem Nq {I:aK} {c:Cf} {B:Scope->St->List Stmt->Option (Out × St)} {sc:Scope} {st:St} {bz it:Expr} {body:List Stmt} {p:Pos} {items:List PyData} {o:Out} {G:Prop} (hp:eB it=true) (hi:I.i sc st.v it=some items) (hl:items.length<=4096) (hG:G) (h:∃ag,dM (dE sc bz) (fun st=>B sc st body) items st=some (o,ag)):∃ag,bT I c B sc st (.For bz it body [] p)=some (o,ag)/\G:=by
 (refine xE h ?_;clear h;intro ag h)
 exact ⟨ag,(nL hp hi hl).trans h,hG⟩
theorem Nr {I:aK} {c:Cf} {B:Scope->St->List Stmt->Option (Out × St)} {sc:Scope} {st:St} {bz it:Expr} {body:List Stmt} {p:Pos} {items:List PyData} {o:Out} (hp:eB it=true) (hi:I.i sc st.v it=some items) (hl:items.length<=4096) (h:∃ag,dM (dE sc bz) (fun st=>B sc st body) items st=some (o,ag)):∃ag,bT I c B sc st (.For bz it body [] p)=some (o,ag):=by
 (refine xE h ?_;clear h;intro ag h)
 exact ⟨ag,(nL hp hi hl).trans h⟩
theorem EJ {x:Str} (h:x.length=0):lr (.str x)=some false:=by
 have hc:x.length<=4096:=by exact Zb cA 36 [_] [] h
 refine (if_pos hc).trans ?_
 rw [h];rfl
theorem vW {x:Str} (h:x.length≠0) (h':x.length<=4096):lr (.str x)=some true:=by
 refine (if_pos h').trans ?_
 rw [beq_eq_false_iff_ne.mpr h];rfl
theorem item_last {α:Type} {f:α->PyData} {xs:List α} {l:α} (h:xs.getLast? =some l) (hl:xs.length<=4096):iz (.list (xs.map f)) (.int (-1))=some (f l):=by
 have hc:¬(0<=(-1:Int)/\(-1:Int) < 1000000):=by exact Zb cA 37 [] []
 have hd:(xs.map f).length < 1000000:=by rw [List.length_map];exact Zb cA 38 [_] [] hl
 rw [yV,if_neg hc,if_pos ⟨rfl,hd⟩,List.length_map,List.getElem?_map]
 rw [List.getLast?_eq_getElem?] at h
 rw [h];rfl
theorem Nt {g w:Str} (h:Txt.endswith g w=true):w.length<=g.length:=by
 unfold Txt.endswith at h
 simp only [Bool.and_eq_true,decide_eq_true_eq] at h
 lia
theorem EK (P:Params):hZ P 72 (bj P 72 bk) ["want","got"] (bU P 72):=
 ⟨⟨_,rfl,rfl⟩,by decide,rfl,rfl,rfl,rfl,rfl,rfl,rfl,⟨_,_,_,_,rfl,rfl,rfl,rfl⟩,fun x hx=>by
  rcases List.mem_cons.mp hx with e | hx
  ·rw [e];exact .inl rfl
  ·rw [List.mem_singleton.mp hx];exact .inl rfl,rfl⟩
noncomputable def cE:Cf:=⟨fun x=>x=="w",fun _ _ _=>none⟩
theorem HE {prog:Program} {w:World} {mg mb:Str->Option Value}:∀A,fV prog w mg mb A cE:=fun A=>fV.no fun _ _ _=>rfl
noncomputable def gz:Str:="..."
noncomputable def qE (g:Str) (ep:Nat):List Str->Nat->Option Bool
 | [],_=>some true
 | w::r,sp=>if sp<=g.length/\ep<=g.length/\w.length<=4096 then (match Builtin.Str.occurrences g w sp ep 1 with | k::_=>qE g ep r (k+w.length) | []=>some false) else none
noncomputable def qF (g:Str) (ls:List Str) (sp ep:Nat):Option Bool:=if sp > ep then some false else qE g ep ls sp
noncomputable def nT (g:Str) (ls:List Str) (sp:Nat):Option Bool:=
 match ls.getLast? with
 | none=>none
 | some w=>if w.length<=4096 then (if w.length=0 then qF g ls sp g.length else if Txt.endswith g w=true then qF g ls.dropLast sp (g.length - w.length) else some false) else none
noncomputable def vX (g:Str):List Str->Option Bool
 | []=>none
 | w::r=>if w.length<=4096 then (if w.length=0 then nT g (w::r) 0 else if Txt.startswith g w=true then nT g r w.length else some false) else none
noncomputable def nU (ds:List PyData):Option PyData:=(pr ds).bind fun v=>(gS v.1).bind fun x=>(gS v.2).bind fun g=>
 if Txt.contains x gz=true/\x.length<=4096/\g.length<=4096/\2<=(Txt.split x gz).length/\(Txt.split x gz).length<=4096 then (vX g (Txt.split x gz)).map .bool else none
set_option tactic.hygienic true in
theorem zv {g:Str} {ep:Nat} {bind:St->PyData->Option St} {body:St->Option (Out × St)} (gX:Nat->St->Prop)
  (iI:∀w sp st,gX sp st->sp<=g.length->ep<=g.length->w.length<=4096->∃bE,bind st (.str w)=some bE/\(match Builtin.Str.occurrences g w sp ep 1 with | k::_=>∃aR,body bE=some (.aT,aR)/\gX (k+w.length) aR | []=>∃aR,body bE=some (.ret (.bool false),aR))):
  ∀(ls:List Str) (sp:Nat) (st:St),gX sp st->∀b,qE g ep ls sp=some b->(b=true->∃ag,dM bind body (ls.map .str) st=some (.aT,ag))/\(b=false->∃ag,dM bind body (ls.map .str) st=some (.ret (.bool false),ag))
 | [],sp,st,hi,b,h=>by
  (obtain rfl:=Option.some.inj h;clear h)
  exact ⟨fun _=>⟨st,rfl⟩,(fun q=>nomatch q)⟩
 | w::r,sp,st,hi,b,h=>by
  unfold qE at h
  split at h
  case isFalse=>exact no h
  rename_i hc
  refine aj (iI w sp st hi hc.1 hc.2.1 hc.2.2:) fun bE h1 h2=> ?_
  have e:dM bind body ((w::r).map .str) st=(body bE).bind fun (o,aR)=>match o with
    | .aT=>dM bind body (r.map .str) aR
    | .cont=>dM bind body (r.map .str) aR
    | .ret d=>some (.ret d,aR):=by
   show (bind st (.str w)).bind _=_
   rw [h1];rfl
  rw [e]
  split at h
  ·rename_i k ks hk
   rw [hk] at h2
   (refine aj h2 ?_;clear h2;intro aR h2 h3)
   rw [h2]
   exact zv gX iI r _ aR h3 b h
  ·rename_i hk
   rw [hk] at h2
   (refine xE h2 ?_;clear h2;intro aR h2)
   (obtain rfl:=Option.some.inj h;clear h)
   rw [h2]
   exact ⟨(fun q=>nomatch q),fun _=>⟨aR,rfl⟩⟩
section
variable {prog:Program} {w:World} {mg mb:Str->Option Value} {A:Around}
set_option tactic.hygienic true in
theorem Nu (hA:Lv 1 A):kG prog w mg mb A (.ref 72) nU:=mG (names:=["want","got"]) fun X s vs ds d E hx C hl r e=>by
 (refine ai e fun ay h1 e=> ?_;obtain ⟨d1,d2⟩:=ay)
 refine ai e fun x h2 e=> ?_
 refine ai e fun g h3 e=> ?_
 (refine aO e fun aF e=> ?_;obtain ⟨hc,Nv,Nw,nV,nW⟩:=aF)
 refine cO e fun b hb e=> ?_
 subst e
 obtain rfl:=rF h1
 obtain rfl:=fF h2
 obtain rfl:=fF h3
 obtain ⟨ls,nH⟩:∃ls,ls=Txt.split x gz:=⟨_,rfl⟩
 rw [<- nH] at hb nV nW
 (refine cN (xw hl rfl:) fun v1 v2 aP=> ?_;subst aP)
 ·refine vd (EK w.params) hA.room hx C r (by kernel_rfl) (fun q=>nomatch q) (lm:=false) fun env fr ab E' O F=> ?_
  have bo:Lv 0 (A.deeper env):=hA.deeper env
  have FO:fJ prog w mg mb (A.deeper env) false 0 dR:=nI bo.hd (by have:=bo.un;exact Zb cA 39 [_,_] [] this)
  have S6:br prog w mg mb (A.deeper env) false (ah dR eX 8):=fM bo.ok 8
  have dT:bU w.params 72=bU w.params 72:=rfl
  conv at dT=>rhs;whnf
  rw [dT]
  clear dT
  generalize aQ:(bj w.params 72 bk).scope=sc at O F
  conv at aQ=>lhs;whnf
  subst aQ
  refine mD (c:=cE) (k:=7) (n:=3) bo.ok gR FO (HE _) O F (cQ (bA rfl ?t1) a9) fun aq aB=> ?_
  case t1=>
   exact aH rfl (DR rfl rfl rfl) (aa rfl rfl) (by show some (!Txt.contains x gz)=_;rw [hc];rfl)
  refine wpAny_execs_cons (Nj bo.ok S6 aB O (t:=x) (u:=gz) rfl rfl (by decide) (CY rfl) rfl rfl (aa rfl rfl) (DR rfl rfl rfl) rfl Nv (by rw [<- nH];exact nW) rfl fun a aS bu=> ?_)
  rw [<- nH] at bu
  refine mD (c:=cE) (k:=7) (n:=3) bo.ok gR FO (HE _) O bu (Np ?t2) fun fG dQ=> ?_
  case t2=>exact aH rfl (bl rfl (ak (aa (d:= .list (ls.map .str)) rfl rfl) av) (eQ (len_list nW)) (by decide)) aC (D7 (by exact Zb cB 0 [_] [] nV))
  refine wpAny_execs_cons (Nl bo.ok S6 dQ O rfl rfl (qq (ak aC (ak (bl rfl (ak (aa rfl rfl) av) (eQ (s7 Nw)) (by decide)) av)) (Nat.le_of_ble_eq_true rfl)) rfl ?sw fun c7 cI=> ?_)
  case sw=>
   unfold swappedStores Env.blockKind Env.kindOf
   rw [O.scope]
   rfl
  cases ls with
  | nil=>exact absurd nV (by simp)
  | cons w0 r0=>
  have ij:FS w.params mg mb false none X fr s env _ [("ws",a)] ⟨([("got", .str g),("want", .str x),("endpos", .int g.length),("startpos", .int 0)]:VL),([("ws",(w0::r0).map .str)]:OL),none⟩ c7:=cI
  refine mD (c:=cE) (k:=7) (n:=3) bo.ok gR FO (HE _) O ij (D3 rfl rfl (bF rfl rfl rfl aC (item_at 0 (S []) rfl (by simp) nW)) rfl) fun ie dj=> ?_
  refine zu (c:=cE) (k:=7) (n:=3) bo.ok gR FO (HE _) O dj (fun ag=>∃L1 sp,ag=⟨([("got", .str g),("want", .str x),("endpos", .int g.length),("startpos", .int (sp:Nat)),("w", .str w0)]:VL),([("ws",L1.map .str)]:OL),none⟩/\nT g L1 sp=some b/\L1.length<=4096) (.bool b) ?ha (fun SO ig hP fB=> ?_) fun v ag s' F' r'=>⟨⟨_,_,_,F'⟩,v,rfl,r'⟩
  case ha=>
   replace hb:(if w0.length<=4096 then (if w0.length=0 then nT g (w0::r0) 0 else if Txt.startswith g w0=true then nT g r0 w0.length else some false) else none)=some b:=hb
   split at hb
   case isFalse=>exact no hb
   rename_i kS
   split at hb
   ·rename_i h0
    exact .inl ⟨_,cQ (bA rfl (gV (aa rfl rfl) (EJ h0))) a9,w0::r0,0,rfl,hb,nW⟩
   ·rename_i h0
    split at hb
    ·rename_i bD
     refine .inl ⟨_,eF (bA rfl (gV (aa rfl rfl) (vW h0 kS))) (aW (eF (bA rfl (vt (ek rfl (by decide) rfl (aa rfl rfl) (ak (aa rfl rfl) av) rfl) (by show some (Txt.startswith g w0)=_;rw [bD]))) (aW (cm rfl rfl (bl rfl (ak (aa rfl rfl) av) (eQ (s7 kS)) (by decide))) (aW (EH (by decide) rfl aC (by rw [List.length_map];exact nW) rfl) a9))) a9),r0,w0.length,rfl,hb,by simp at nW;exact Zb Z4 16 [_] [] nW⟩
    ·rename_i bD
     (obtain rfl:=Option.some.inj hb;clear hb)
     exact .inr ⟨_,eF (bA rfl (gV (aa rfl rfl) (vW h0 kS))) (jV (cQ (bA rfl (vt (ek rfl (by decide) rfl (aa rfl rfl) (ak (aa rfl rfl) av) rfl) (by show some (Txt.startswith g w0)=_;simp at bD;rw [bD]))) (jV (iG iF))))⟩
  (refine aU hP ?_;clear hP;intro L1 sp bI hB vY;subst bI)
  unfold nT at hB
  split at hB
  ·exact no hB
  rename_i wl vZ
  refine mD (c:=cE) (k:=7) (n:=3) bo.ok gR FO (HE _) O fB (D3 rfl rfl (bF rfl rfl rfl (yQ aC) (item_last vZ vY)) rfl) fun vJ d9=> ?_
  by_cases kS:wl.length<=4096
  case neg=>rw [if_neg kS] at hB;exact no hB
  rw [if_pos kS] at hB
  refine zu (c:=cE) (k:=7) (n:=3) bo.ok gR FO (HE _) O d9 (fun ag=>∃L2 ep,ag=⟨([("got", .str g),("want", .str x),("endpos", .int (ep:Nat)),("startpos", .int sp),("w", .str wl)]:VL),([("ws",L2.map .str)]:OL),none⟩/\qF g L2 sp ep=some b/\L2.length<=4096) (.bool b) ?hb (fun SP Ep hP kN=> ?_) fun v ag s' F' r'=>⟨⟨_,_,_,F'⟩,v,rfl,r'⟩
  case hb=>
   split at hB
   ·rename_i h0
    exact .inl ⟨_,cQ (bA rfl (gV (aa rfl rfl) (EJ h0))) a9,L1,g.length,rfl,hB,vY⟩
   ·rename_i h0
    split at hB
    ·rename_i bD
     have hle:=Nt bD
     have ei:(g.length:Int) - (wl.length:Int)=((g.length - wl.length:Nat):Int):=by exact Zb cB 1 [_,_] [] hle
     have ed:u0 (-1) (L1.map PyData.str)=some (L1.dropLast.map .str):=by
      cases L1 with
      | nil=>exact no vZ
      | cons l1 r1=>
       show some (List.eraseIdx _ _)=_
       rw [List.map_dropLast]
       exact congrArg some List.eraseIdx_length_sub_one
     refine .inl ⟨_,eF (bA rfl (gV (aa rfl rfl) (vW h0 kS))) (aW (eF (bA rfl (vt (ek rfl (by decide) rfl (aa rfl rfl) (ak (aa rfl rfl) av) rfl) (by show some (Txt.endswith g wl)=_;rw [bD]))) (aW (Nn rfl rfl (bl rfl (ak (aa rfl rfl) av) (eQ (s7 kS)) (by decide))) (aW (EH (by decide) rfl (yQ aC) (by rw [List.length_map];exact vY) ed) a9))) a9),L1.dropLast,g.length - wl.length, ?_,hB,by rw [List.length_dropLast];exact Zb cB 2 [_] [] vY⟩
     rw [<- ei];rfl
    ·rename_i bD
     (obtain rfl:=Option.some.inj hB;clear hB)
     exact .inr ⟨_,eF (bA rfl (gV (aa rfl rfl) (vW h0 kS))) (jV (cQ (bA rfl (vt (ek rfl (by decide) rfl (aa rfl rfl) (ak (aa rfl rfl) av) rfl) (by show some (Txt.endswith g wl)=_;simp at bD;rw [bD]))) (jV (iG iF))))⟩
  (refine aU hP ?_;clear hP;intro L2 ep bK hC EM;subst bK)
  unfold qF at hC
  split at hC
  ·rename_i zw
   (obtain rfl:=Option.some.inj hC;clear hC)
   refine qD (c:=cE) (k:=7) (n:=3) bo.ok gR FO (HE _) O kN (eF (bA rfl (aH rfl (aa rfl rfl) (aa rfl rfl) (L6 (by exact Zb cB 3 [_,_] [] zw)))) (jV (iG iF))) fun v s' F' r'=>⟨⟨_,_,_,F'⟩,v,rfl,r'⟩
  rename_i zw
  refine mD (c:=cE) (k:=7) (n:=3) bo.ok gR FO (HE _) O kN (cQ (bA rfl (aH rfl (aa rfl rfl) (aa rfl rfl) (L7 (by exact Zb cB 4 [_,_] [] zw)))) a9) fun zf mM=> ?_
  have v7:=mM.free (x:="ws") (ds:=L2.map .str) rfl (by decide)
  refine zu (c:=cE) (k:=7) (n:=3) bo.ok gR FO (HE _) O v7 (fun _=>b=true) (.bool b) ?hl (fun SQ Nx hP zx=> ?_) fun v ag s' F' r'=>⟨⟨_,_,_,F'⟩,v,rfl,r'⟩
  case hl=>
   cases b with
   | true=>exact .inl (Nq rfl (i9 (aa (d:= .list (L2.map .str)) rfl rfl)) (by rw [List.length_map];exact EM) rfl ((zv (g:=g) (ep:=ep) (fun sp st=>∃y,st=⟨([("got", .str g),("want", .str x),("endpos", .int (ep:Nat)),("startpos", .int (sp:Nat)),("w",y),("ws", .list (L2.map .str))]:VL),([]:OL),none⟩) (fun wv sp st hi q1 q2 q3=>by
     (refine xE hi ?_;clear hi;intro y bO;subst bO)
     refine ⟨_,rfl, ?_⟩
     have gY:iA "find" (.str g) [.str wv, .int (sp:Nat), .int (ep:Nat)]=some (.int (match Builtin.Str.occurrences g wv sp ep 1 with | k::_=>(k:Int) | []=> -1)):=by
      show (if 0<=(sp:Int)/\(sp:Int)<=g.length/\0<=(ep:Int)/\(ep:Int)<=g.length then some (PyData.int (match Builtin.Str.occurrences g wv (sp:Int).toNat (ep:Int).toNat 1 with | k::_=>(k:Int) | []=> -1)) else none)=_
      rw [if_pos (by exact Zb Z4 31 [_,_,_] [] q2 q1),Int.toNat_natCast,Int.toNat_natCast]
     cases s9:Builtin.Str.occurrences g wv sp ep 1 with
     | nil=>
      rw [s9] at gY
      replace gY:iA "find" (.str g) [.str wv, .int (sp:Nat), .int (ep:Nat)]=some (.int (-1)):=gY
      exact ⟨_,aW (cm rfl rfl (ek rfl (by decide) rfl (aa rfl rfl) (ak (aa rfl rfl) (ak (aa rfl rfl) (ak (aa rfl rfl) av))) gY)) (jV (eF (bA rfl (aH rfl (aa rfl rfl) aC (yW (by exact Zb Z1 36 [] [])))) (jV (iG iF))))⟩
     | cons k ks=>
      rw [s9] at gY
      replace gY:iA "find" (.str g) [.str wv, .int (sp:Nat), .int (ep:Nat)]=some (.int (k:Int)):=gY
      exact ⟨_,aW (cm rfl rfl (ek rfl (by decide) rfl (aa rfl rfl) (ak (aa rfl rfl) (ak (aa rfl rfl) (ak (aa rfl rfl) av))) gY)) (aW (cQ (bA rfl (aH rfl (aa rfl rfl) aC (yX (by exact Zb Z1 19 [_] [])))) a9) (aW (EI rfl rfl (bl rfl (ak (aa rfl rfl) av) (eQ (s7 q3)) (by decide))) a9)),_,rfl⟩) L2 sp _ ⟨_,rfl⟩ true hC).1 rfl))
   | false=>exact .inr (Nr rfl (i9 (aa (d:= .list (L2.map .str)) rfl rfl)) (by rw [List.length_map];exact EM) ((zv (g:=g) (ep:=ep) (fun sp st=>∃y,st=⟨([("got", .str g),("want", .str x),("endpos", .int (ep:Nat)),("startpos", .int (sp:Nat)),("w",y),("ws", .list (L2.map .str))]:VL),([]:OL),none⟩) (fun wv sp st hi q1 q2 q3=>by
     (refine xE hi ?_;clear hi;intro y cF;subst cF)
     refine ⟨_,rfl, ?_⟩
     have gY:iA "find" (.str g) [.str wv, .int (sp:Nat), .int (ep:Nat)]=some (.int (match Builtin.Str.occurrences g wv sp ep 1 with | k::_=>(k:Int) | []=> -1)):=by
      show (if 0<=(sp:Int)/\(sp:Int)<=g.length/\0<=(ep:Int)/\(ep:Int)<=g.length then some (PyData.int (match Builtin.Str.occurrences g wv (sp:Int).toNat (ep:Int).toNat 1 with | k::_=>(k:Int) | []=> -1)) else none)=_
      rw [if_pos (by exact Zb Z4 31 [_,_,_] [] q2 q1),Int.toNat_natCast,Int.toNat_natCast]
     cases s9:Builtin.Str.occurrences g wv sp ep 1 with
     | nil=>
      rw [s9] at gY
      replace gY:iA "find" (.str g) [.str wv, .int (sp:Nat), .int (ep:Nat)]=some (.int (-1)):=gY
      exact ⟨_,aW (cm rfl rfl (ek rfl (by decide) rfl (aa rfl rfl) (ak (aa rfl rfl) (ak (aa rfl rfl) (ak (aa rfl rfl) av))) gY)) (jV (eF (bA rfl (aH rfl (aa rfl rfl) aC (yW (by exact Zb Z1 36 [] [])))) (jV (iG iF))))⟩
     | cons k ks=>
      rw [s9] at gY
      replace gY:iA "find" (.str g) [.str wv, .int (sp:Nat), .int (ep:Nat)]=some (.int (k:Int)):=gY
      exact ⟨_,aW (cm rfl rfl (ek rfl (by decide) rfl (aa rfl rfl) (ak (aa rfl rfl) (ak (aa rfl rfl) (ak (aa rfl rfl) av))) gY)) (aW (cQ (bA rfl (aH rfl (aa rfl rfl) aC (yX (by exact Zb Z1 19 [_] [])))) a9) (aW (EI rfl rfl (bl rfl (ak (aa rfl rfl) av) (eQ (s7 q3)) (by decide))) a9)),_,rfl⟩) L2 sp _ ⟨_,rfl⟩ false hC).2 rfl))
  subst hP
  exact qD (c:=cE) (k:=7) (n:=3) bo.ok gR FO (HE _) O zx (iG iF) fun v s' F' r'=>⟨⟨_,_,_,F'⟩,v,rfl,r'⟩
end
section
theorem bP.EN {lm:Bool} {X:List Addr} {h:Heap} {env:Env} {sc:Scope} {ρ:bh} (R:bP lm X h env sc ρ):bP false X h env sc ρ:=⟨R.kind,R.gl,R.bi,R.glob,R.loc,R.cell,R.vals,R.cq,R.eY,fun h=>nomatch h⟩
structure nX where
 f:Str
 kw:Str
 x:Str
 k:Str
 la:Arguments
 lb:Expr
 aI:Scope
 jW:List Stmt
 p:List Pos
 ck:Nat
noncomputable def nX.q (v:nX) (n:Nat):Pos:=v.p.getD n ⟨0,0,0,0⟩
noncomputable def nX.st (v:nX):List Stmt:=[.If (.Compare (.Call (.Name v.f (v.q 1)) [.Name v.x (v.q 2), .Name v.k (v.q 3)] [⟨some v.kw, .Lambda v.la v.lb v.aI (v.q 4),v.q 5⟩] (v.q 6)) [.IsNot] [.Constant .none v.ck (v.q 7)] (v.q 8)) v.jW [] (v.q 9)]
noncomputable def nX.of (body:List Stmt):Option nX:=match body with
 | [.If (.Compare (.Call (.Name f p1) [.Name x p2, .Name k p3] [⟨some kw, .Lambda la lb aI p4,p5⟩] p6) _ [.Constant _ ck p7] p8) jW _ p9]=>some ⟨f,kw,x,k,la,lb,aI,jW,[p1,p1,p2,p3,p4,p5,p6,p7,p8,p9],ck⟩
 | _=>none
noncomputable def Ny (J:aK) (sc:Scope) (st:St) (v:nX):Option (Out × St):=
 if v.f="insort_right"/\v.kw=hU/\dP sc v.f=true/\freeOk sc v.aI=true/\v.x≠cY then
  (st.o v.x).bind fun ds=>((st.v v.k).bind gI).bind fun i=>(lA v.la v.aI).bind fun one=>(intsOf ds).bind fun xs=>
   (J.e v.aI (upd (inner v.aI st.full) one (.int i)) v.lb).bind fun d'=>(nQ ds d' fun d=>J.e v.aI (upd (inner v.aI st.full) one d) v.lb).bind fun r=>
    if r<=xs.length/\xs.length<=4000 then some (.aT,st.own v.x ((xs.take r++i::xs.drop r).map .int)) else none
 else none
open Classical in
noncomputable def EO (J:aK) (sc:Scope) (st:St) (body:List Stmt):Option (Out × St):=(nX.of body).bind fun v=>if body=v.st then Ny J sc st v else none
section
variable {prog:Program} {w:World} {mg mb:Str->Option Value} {A:Around}
theorem Nz {m:Nat} {J:aK} (hA:Lv (m+3) A) (hJ:∀A,Lv m A->br prog w mg mb A false J):mB prog w mg mb A true (EO J):=by
 intro cd af fr ae s env sc own st ag o body E O F h
 (refine ai h fun ay _ h=> ?_;obtain ⟨f,kw,x,k,la,lb,aI,jW,ps,ck⟩:=ay)
 refine aO h fun hb hi=> ?_
 subst hb
 (refine aO hi fun aF h=> ?_;obtain ⟨h1,h2,hg,d7,v8⟩:=aF)
 dsimp only at h1 h2 hg d7 v8
 subst h1 h2
 refine ai h fun ds zy h=> ?_
 refine ai h fun i zz h=> ?_
 refine ai zz fun di zz hi=> ?_
 have hi:=gH hi
 subst hi
 refine ai h fun one gj h=> ?_
 refine ai h fun xs eM h=> ?_
 refine ai h fun d' gP h=> ?_
 refine ai h fun r hr h=> ?_
 refine aO h fun fK h=> ?_
 cases h
 have eL:=sv eM
 subst eL
 refine ew (F.ow x _ zy:) fun a vs h1 h2 h3 h4=> ?_
 have S:=fM (prog:=prog) (w:=w) (mg:=mg) (mb:=mb) hA.ok
 refine wpAny_execs_cons (wpAny_If (wpAny_isTrue_Compare1 ?_ rfl))
 refine wpAny_Call_Name_kw ((jq F.gm hg (fun h C=>fI C rfl) (by decide)).then (Kp.refl F.cu) fun u ab k₁ e=> ?_)
 subst e
 have au:=F.dC O k₁
 refine callWith_of (P:=gM (.ref 47)) (first:=[]) rfl (fun h x=>x.pT) ?_
 refine evalArgs_kw rfl (Calls.spliced_cons (yw au (h2.grow k₁.grow) (Calls.spliced_cons (((S 6).e au.ctx au.aD au.er.EN (aa zz rfl)).then (Kp.refl au.ctx) fun vk aq k₂ rk=>Calls.spliced_nil ?_))))
 have aB:=au.kp O k₂
 refine wpAny_evalAll_cons (wpAny_bind ((CR (lb:=lb) hJ aB.ff aB.gm rfl gj d7 _).then (Kp.refl aB.cu) fun kv aS bS kA=>wpAny_bind (wpAny_standAt (wpAny_pure (wpAny_evalAll_nil ?_)))))
 have bu:=aB.dC O bS
 refine ⟨nO (Ef w.params) _ _ bu.cu, ?_⟩
 (refine xE rk.int_inv fun tk aP=> ?_;subst aP)
 refine ew (bu.ow x _ zy:) fun a' NA g1 g2 g3 g4=> ?_
 rw [h1] at g1;cases g1
 have ma:a∈oa own:=cZ h1
 refine wpAny_mono (MJ (m:=m+1) hA bu.ff bu.cu (bu.aD a (List.mem_append_left _ ma)).1 (bu.dB a ma) g3 (g4.more fun _ h=>List.mem_append_right _ h) fK.2 kA gP hr fK.1) (fun v fG q=> ?_) fun _ _ q=>q
 obtain ⟨rfl,c7,h',r4,dh,fA,rfl,mw,a8,nY⟩:=q
 have cI:=bu.dC O fA
 have dj:=cI.mut (tk:=r4) O zy h1 v8 mw a8 nY.ints
 have SR:=dj.cu
 refine ((S 2).e dj.cu dj.ff dj.gm.EN sC).then (Kp.refl dj.cu) fun vn ig mL rn=> ?_
 obtain rfl:=rn.none_inv
 refine wpAny_isNot_plain rfl (wpAny_truthy_bool ?_)
 have fB:=dj.dC O mL
 refine wpAny_execs_nil (wpAny_execs_nil ⟨fB, ?_,rfl⟩)
 have y1:bB (oa own++fr) s c7:=(((bB.kp k₁).trans (bB.kp k₂)).trans (bB.kp bS)).trans (bB.kp fA)
 refine (y1.trans fun b o n mm e=> ?_).trans (bB.kp mL)
 exact mw.extBut b o (fun q=>mm (List.mem_append_left _ (q▸ma))) e
end
end
theorem NB {J:aK} {sc:Scope} {st:St} {f kw x k one:Str} {p1 p2 p3 p4 p5 p6 p7 p8 p9:Pos} {ck:Nat} {la:Arguments} {lb:Expr} {aI:Scope} {jW:List Stmt} {xs:List Int} {i:Int} {d':PyData} {r:Nat} (h1:f="insort_right") (h2:kw=hU) (h3:dP sc f=true) (h4:freeOk sc aI=true) (h5:x≠cY)
  (hx:st.o x=some (xs.map .int)) (hk:st.v k=some (.int i)) (gj:lA la aI=some one) (hd:J.e aI (upd (inner aI st.full) one (.int i)) lb=some d') (hr:nQ (xs.map .int) d' (fun d=>J.e aI (upd (inner aI st.full) one d) lb)=some r) (fK:r<=xs.length) (hl:xs.length<=4000):
  EO J sc st [.If (.Compare (.Call (.Name f p1) [.Name x p2, .Name k p3] [⟨some kw, .Lambda la lb aI p4,p5⟩] p6) [.IsNot] [.Constant .none ck p7] p8) jW [] p9]=some (.aT,st.own x ((xs.take r++i::xs.drop r).map .int)):=by
 refine (if_pos rfl).trans ?_
 refine (if_pos ⟨h1,h2,h3,h4,h5⟩).trans ?_
 show (st.o x).bind _=_
 rw [hx,Option.bind_some,hk,gj,Option.bind_some]
 show ((intsOf (xs.map PyData.int)).bind _)=_
 rw [jU,Option.bind_some]
 show (J.e aI (upd (inner aI st.full) one (.int i)) lb).bind _=_
 rw [hd,Option.bind_some,hr,Option.bind_some,if_pos ⟨fK,hl⟩]
section
variable {prog:Program} {w:World} {mg mb:Str->Option Value}
variable {A:Around} {lm:Bool} {cd:Option (Addr × Addr)} {af fr X:List Addr} {ae s s':Shared} {env:Env} {sc:Scope} {own:List (Str × Addr)} {st ag:St} {c:Cf} {I:aK}
theorem NC {σ:Type} {Φ:cV} {J:aK} {k:Nat} {B:Scope->St->List Stmt->Option (Out × St)} {bz it:Expr} {body:List Stmt} {p:Pos} {r:List Stmt} {E:Value->Shared->Prop} {Q:Flow->Shared->Prop} {m:Nat} (hA:cG A) (hJ:∀A,Lv m A->br prog w mg mb A false J) (FO:fJ prog w mg mb A lm m Φ) (H:fV prog w mg mb A c) (hB:mB prog w mg mb A lm B) (O:aX cd fr af env sc) (F:FS w.params mg mb lm cd af fr ae env sc own st s)
  (inv:Nat->σ->St->Prop) (step:σ->Nat->σ) (a l:Nat) (t0:σ) (hp:eB it=true) (hl:l<=4096) (hi:(ah Φ J (k+1)).i sc st.v it=some ((List.range' a l).map fun (k:Nat)=> .int k)) (h0:inv a t0 st)
  (hs:∀k,a<=k->k < a+l->∀σ st,inv k σ st->∃bE,dE sc bz st (.int k)=some bE/\∃aR,B sc bE body=some (.aT,aR)/\inv (k+1) (step σ k) aR)
  (hr:∀ag s',inv (a+l) ((List.range' a l).foldl step t0) ag->FS w.params mg mb lm cd af fr ae env sc own ag s'->wpAny (model prog w) A (execs r env) Q E s'):
  wpAny (model prog w) A (execs (.For bz it body [] p::r) env) Q E s:=by
 refine aj (vw (bind:=dE sc bz) (body:=fun st=>B sc st body) inv step l a hs t0 st h0:) fun ag h1 h2=> ?_
 refine wpAny_execs_cons (wpAny_mono (u6 hA (kB hA hJ FO k) (kB hA hJ FO (k+1)) H hB O F ((nL hp hi (by rw [List.length_map,List.length_range'];exact hl)).trans h1)) (fun f ab q=> ?_) fun _ _ q=>q)
 (refine bG q ?_;clear q;intro au _ hf)
 cases hf
 exact hr ag ab h2 au
end
theorem EP (P:Params):hZ P 252 (bj P 252 bk) ["ends"] (bU P 252):=
 ⟨⟨_,rfl,rfl⟩,by decide,rfl,rfl,rfl,rfl,rfl,rfl,rfl,⟨_,_,_,_,rfl,rfl,rfl,rfl⟩,fun x hx=>by
  rw [List.mem_singleton.mp hx];exact .inr rfl,rfl⟩
theorem ND (P:Params) (n:Addr):ng (callEnvC (bj P 252 bk) n 252):=⟨251,249,rA, .inr rfl,rfl,by kernel_rfl⟩
theorem NF (P:Params) (n:Addr):ng (callEnvC (bj P 259 bk) n 259):=⟨258,254,rB, .inl rfl,rfl,by kernel_rfl⟩
noncomputable def be (ends:List (List Int)) (k:Nat):List Int:=ends.getD (k % 8) []
noncomputable def gA (ends:List (List Int)) (xs:List Nat) (k:Nat):List Nat:=
 let r:=(cH false (fun j=>some (aV (be ends k) (be ends (xs.getD j 0)))) (xs.length+1) 0 xs.length).getD 0
 xs.take r++k::xs.drop r
noncomputable def dN (ends:List (List Int)):List Nat:=(List.range' 0 16).foldl (gA ends) []
noncomputable def jd (ends:List (List Int)):List Nat:=(gF aV ends).flatMap fun e=>[ends.findIdx (· ==e)+0,ends.findIdx (· ==e)+8]
noncomputable def gC (ends:List (List Int)) (row:List Nat):List Nat:=ends.map fun e=>(cH true (fun j=>some (aV (be ends (row.getD j 0)) e)) (row.length+1) 0 row.length).getD 0
noncomputable def kT (row:List Nat):List Nat:=(List.range' 0 8).map fun k=>row.findIdx (· ==k)
noncomputable def iK (ends:List (List Int)):List Nat:=if dN ends=jd ends then (if gC ends (dN ends)=kT (dN ends) then gC ends (dN ends) else []) else []
theorem ER {a b:List Int}:cg .Lt (bL a) (bL b)=some (aV a b):=by
 unfold bL
 show ((intsOf (a.map .int)).bind fun x=>(intsOf (b.map .int)).bind fun y=>some (aV x y))=_
 rw [jU,Option.bind_some,jU];rfl
theorem zA {xs:List Nat}:(xs.map fun (k:Nat)=>PyData.int k)=(xs.map fun (k:Nat)=>(k:Int)).map .int:=by rw [List.map_map];rfl
theorem NG {xs:List Nat} {x:List Int} {κ:PyData->Option PyData} {key:Nat->List Int} (mH:∀k∈xs,κ (.int (k:Nat))=some (bL (key k))) (hl:xs.length<=4000):
  nQ ((xs.map fun (k:Nat)=>(k:Int)).map .int) (bL x) κ=some ((cH false (fun j=>some (aV x (key (xs.getD j 0)))) (xs.length+1) 0 xs.length).getD 0):=by
 unfold nQ
 rw [<- zA,List.length_map,if_pos (by exact ez hl)]
 have e:∀j,0<=j->j < xs.length->tR (xs.map fun (k:Nat)=>PyData.int k) (bL x) κ j=(fun j=>some (aV x (key (xs.getD j 0)))) j:=fun j _ hj=>by
  have hg:xs.getD j 0=xs[j]:=by rw [List.getD_eq_getElem?_getD,List.getElem?_eq_getElem hj];rfl
  refine M1 (.int (xs[j]:Nat)) (bL (key xs[j])) (by rw [List.getElem?_map,List.getElem?_eq_getElem hj];rfl) (mH _ (List.getElem_mem hj)) ?_
  rw [ER,hg]
 rw [sT e]
 refine aj (qz (left:=false) (t:=fun j=>some (aV x (key (xs.getD j 0)))) (f:=xs.length+1) (lo:=0) (hi:=xs.length) (fun _=>rfl) (by exact Zb Z1 29 [_] []):) fun r e _=> ?_
 rw [e];rfl
theorem zB {k:Nat}:gJ .Mod (.int (k:Int)) (.int 8)=some (.int ((k % 8:Nat):Int)):=by
 rw [Bx (by exact Zb cf 14 [] []),Int.fmod_eq_emod_of_nonneg _ (by exact Zb cf 15 [] [])]
 rfl
theorem qG {α:Type} [BEq α] [LawfulBEq α] {enc:α->PyData} {ok:α->Prop} {n:Nat} (E:gw enc ok n) (hn:n < 60) {xs:List α} {e:α} (h:∀a∈xs,ok a) (he:e∈xs) (hl:xs.length<=4096):iA "index" (.list (xs.map enc)) [enc e]=some (.int ((xs.findIdx (· ==e):Nat):Int)):=by
 have hs:SeqAt.shaped (enc e)=true:=by
  unfold SeqAt.shaped
  rw [E.lay e (h e he),Bool.true_and,decide_eq_true_eq]
  have:=E.EA e
  exact Zb cf 16 [_,_] [] hn this
 show (if SeqAt.shaped (.list (xs.map enc))=true/\SeqAt.shaped (enc e)=true/\(xs.map enc).length<=4096 then ((xs.map enc).findIdx? (fun a=>PyData.eqv a (enc e))).map (fun (i:Nat)=>PyData.int i) else none)=_
 rw [if_pos ⟨E.shaped hn h,hs,by rw [List.length_map];exact hl⟩,List.findIdx?_map]
 have hf:((fun a=>PyData.eqv a (enc e))∘enc)=fun a=>a==e:=by
  funext a
  show PyData.eqv (enc a) (enc e)=_
  cases q:PyData.eqv (enc a) (enc e) with
  | true=>rw [(E.eqv a e).mp q,beq_self_eq_true]
  | false=>
   have:a≠e:=fun h=>by rw [(E.eqv a e).mpr h] at q;cases q
   rw [beq_eq_false_iff_ne.mpr this]
 rw [hf]
 have:xs.findIdx? (fun a=>a==e)=some (xs.findIdx fun a=>a==e):=by
  rw [List.findIdx?_eq_some_iff_findIdx_eq]
  exact ⟨List.findIdx_lt_length.mpr ⟨e,he,beq_self_eq_true e⟩,rfl⟩
 rw [this];rfl
theorem ES {f:List (List Int)} (hn:f.Nodup) (hl:f.length < 64):nG [.list (f.map bL)]=some (.list ((gF aV f).map bL)):=by
 have e2:∀l:List (List Int),ia (l.map bL)=some l:=fun l=>by
  induction l with
  | nil=>rfl
  | cons a r ih=>
   rw [List.map_cons]
   show (intsOf (a.map .int)).bind (fun a=>(ia (r.map bL)).map (a:: ·))=_
   rw [ih,jU];rfl
 exact Lw (e2 _) hl hn
theorem NH {ends:List (List Int)} {xs:List Nat} {k:Nat}:(gA ends xs k).length=xs.length+1:=by
 unfold gA
 dsimp only
 rw [List.length_append,List.length_cons,List.length_take,List.length_drop];exact Zb cf 17 [_,_] []
theorem NI {ends:List (List Int)} {xs:List Nat} {k:Nat} (h:xs.length=k/\∀j,j < k->j∈xs):(gA ends xs k).length=k+1/\∀j,j < k+1->j∈gA ends xs k:=by
 unfold gA
 dsimp only
 generalize (cH false _ _ _ _).getD 0=r
 refine ⟨by rw [List.length_append,List.length_cons,List.length_take,List.length_drop];exact (Zb cf 17 [_,_] []:_=xs.length+1).trans (congrArg (· +1) h.1),fun j hj=> ?_⟩
 by_cases q:j=k
 ·subst q;exact List.mem_append_right _ (.head _)
 ·have:=h.2 j (by exact Zb Z1 21 [_,_] [] hj q)
  rw [<- List.take_append_drop r xs] at this
  rcases List.mem_append.mp this with m | m
  ·exact List.mem_append_left _ m
  ·exact List.mem_append_right _ (.tail _ m)
theorem NJ (ends:List (List Int)):(dN ends).length=16/\∀j,j < 16->j∈dN ends:=
 sX (fun k xs=>xs.length=k/\∀j,j < k->j∈xs) (gA ends) 16 0 [] ⟨rfl,fun _ h=>absurd h (by exact Zb cf 18 [_] [])⟩ fun k xs _ _ h=>NI h
theorem NK {left:Bool} {t:Nat->Option Bool} {f hi:Nat} (h:∀i,(t i).isSome=true) (hf:hi < f):(cH left t f 0 hi).getD 0<=hi:=by
 refine aj (qz (left:=left) (t:=t) (f:=f) (lo:=0) (hi:=hi) h (by exact Zb cf 19 [_,_] [] hf):) fun r e l=> ?_
 rw [e]
 show r<=hi
 exact Zb cf 20 [_,_] [] l
theorem ET {ds d} (h:nG ds=some d):dR.key.fn "sorted" ds=some d:=h
noncomputable def v9 (ds:List PyData):Option PyData:=(one ds).bind fun d=>(gL d).bind fun xs=>(ia xs).bind fun ends=>if ends.length=8/\ends.Nodup then some (.list ((iK ends).map fun (k:Nat)=> .int k)) else none
section
variable {prog:Program} {w:World} {mg mb:Str->Option Value} {A:Around}
theorem NM (hA:Lv 4 A):kG prog w mg mb A (.ref 252) v9:=mG (names:=["ends"]) fun X s vs ds d E hx C hl r e=>by
 refine ai e fun d1 h1 e=> ?_
 refine ai e fun xs h2 e=> ?_
 refine ai e fun ends NN e=> ?_
 (refine aO e fun ay e=> ?_;obtain ⟨h8,gk⟩:=ay)
 (obtain rfl:=Option.some.inj e;clear e)
 obtain rfl:=fP h1
 obtain rfl:=gd h2
 have eM:=vm NN
 subst eM
 (refine xE (rG hl rfl:) fun v1 aF=> ?_;subst aF)
 ·refine vd (EP w.params) hA.room hx C r (by kernel_rfl) (lm:=true) (fun _=>ND w.params _) fun env fr ab E' O F=> ?_
  have bo:Lv 3 (A.deeper env):=hA.deeper env
  have hJ:∀A,Lv 0 A->br prog w mg mb A false (ah dR eX 8):=fun A hA=>fM hA.ok 8
  have FO:fJ prog w mg mb (A.deeper env) true 0 dR.key:=(nI bo.hd (by have:=bo.un;exact Zb cf 21 [_,_] [] this)).key (bo.le (by exact Zb cf 22 [] []))
  have dT:bU w.params 252=bU w.params 252:=rfl
  conv at dT=>rhs;whnf
  rw [dT]
  clear dT
  generalize aQ:(bj w.params 252 bk).scope=sc at O F
  conv at aQ=>lhs;whnf
  subst aQ
  refine wpAny_execs_cons (ve F O rfl rfl (by decide) fun a aq aB=> ?_)
  have wa:FS w.params mg mb true none X fr s env _ [("row",a)] ⟨([("ends", .list (ends.map bL))]:VL),([("row",([]:List Nat).map fun (k:Nat)=>PyData.int k)]:OL),none⟩ aq:=aB
  refine NC (c:=c0) (k:=9) bo.ok hJ FO (H0 _) (Nz bo hJ) O wa (fun k xs st=>st.ol=([("row",xs.map fun (k:Nat)=>PyData.int k)]:OL)/\st.h=none/\((k=0/\st.vl=([("ends", .list (ends.map bL))]:VL))\/∃y,st.vl=([("ends", .list (ends.map bL)),("k",y)]:VL))/\xs.length=k) (gA ends) 0 16 [] rfl (by exact Zb cf 23 [] []) (eE rfl rfl (ak aC av) (kM 16 rfl (by exact Zb cf 24 [] []))) ⟨rfl,rfl, .inl ⟨rfl,rfl⟩,rfl⟩ (fun k _ hk xs st hi=> ?_) fun ag aS hi bu=> ?_
  ·obtain ⟨vl,ol,h⟩:=st
   (refine fm hi ?_;clear hi;intro g1 g2 g3 g4)
   dsimp only at g1 g2 g3
   subst g1 g2
   refine ⟨⟨([("ends", .list (ends.map bL)),("k", .int (k:Nat))]:VL),([("row",xs.map fun (k:Nat)=>PyData.int k)]:OL),none⟩, ?_, ?_⟩
   ·show some (St.mk (fL "k" _ vl) (i7 "k" ([("row",xs.map fun (k:Nat)=>PyData.int k)]:OL)) none)=_
    rcases g3 with ⟨_,rfl⟩ | ⟨y,rfl⟩<;>rfl
   ·refine' ⟨_,NB rfl rfl rfl rfl (by decide) (xs:=xs.map fun (k:Nat)=>(k:Int)) (r:=(cH false (fun j=>some (aV (be ends k) (be ends (xs.getD j 0)))) (xs.length+1) 0 xs.length).getD 0) (d':=bL (be ends k)) ?hx rfl rfl ?hd (NG (key:=be ends) (fun k' _=> ?mH) (by exact Zb Z5 0 [_,_] [] hk g4)) ?fK ?hl, ?inv⟩
    case hx=>rw [<- zA];rfl
    case hd=>exact bF rfl (d:= .list (ends.map bL)) rfl rfl (o6 (aa rfl rfl) aC zB) (item_at (k % 8) [] rfl (by exact pO h8) (by exact bx h8))
    case mH=>exact bF rfl (d:= .list (ends.map bL)) rfl rfl (o6 (aa rfl rfl) aC zB) (item_at (k' % 8) [] rfl (by exact pO h8) (by exact bx h8))
    case fK=>rw [List.length_map];exact NK (fun _=>rfl) (by exact Zb Z3 25 [_] [])
    case hl=>rw [List.length_map];exact Zb Z5 0 [_,_] [] hk g4
    case inv=>
     refine ⟨?_,rfl, .inr ⟨_,rfl⟩,by rw [NH,g4]⟩
     show fL "row" _ _=_
     rw [<- List.map_take, <- List.map_drop,show (xs.take ((cH false (fun j=>some (aV (be ends k) (be ends (xs.getD j 0)))) (xs.length+1) 0 xs.length).getD 0)).map (fun (k:Nat)=>(k:Int))++(k:Int)::(xs.drop ((cH false (fun j=>some (aV (be ends k) (be ends (xs.getD j 0)))) (xs.length+1) 0 xs.length).getD 0)).map (fun (k:Nat)=>(k:Int))=(gA ends xs k).map (fun (k:Nat)=>(k:Int)) by unfold gA;rw [List.map_append,List.map_cons], <- zA]
     rfl
  ·have NO:(List.range' 0 16).foldl (gA ends) []=dN ends:=rfl
   rw [NO] at hi
   refine xA (NJ ends:) fun wb zC=> ?_
   generalize hR:dN ends=R at hi wb zC
   obtain ⟨vl,ol,h⟩:=ag
   (refine fm hi ?_;clear hi;intro g1 g2 g3 g4)
   dsimp only at g1 g2 g3
   subst g1 g2
   have dQ:=bu.free (x:="row") (ds:=R.map fun (k:Nat)=>PyData.int k) rfl (by decide)
   rcases g3 with ⟨q,_⟩ | ⟨y,rfl⟩
   ·lia
   have cI:FS w.params mg mb true none X fr s env _ (mE "row" [("row",a)]) ⟨([("ends", .list (ends.map bL)),("k",y),("row", .list (R.map fun (k:Nat)=>PyData.int k))]:VL),([]:OL),none⟩ aS:=dQ
   clear dQ bu wa aB
   have iE:(gF aV ends).length=8:=by rw [(kf ends).length_eq,h8]
   have EU:(jd ends).length=16:=by
    have:∀l:List (List Int),(l.flatMap fun e=>[ends.findIdx (· ==e)+0,ends.findIdx (· ==e)+8]).length=2*l.length:=fun l=>by
     induction l with
     | nil=>rfl
     | cons a r ih=>rw [List.flatMap_cons,List.length_append,ih,List.length_cons];simp;exact Zb cf 25 [_] []
    unfold jd
    rw [this,iE]
   by_cases tc:R=jd ends
   ·refine mD (c:=c0) (k:=9) (n:=3) bo.ok hJ FO (H0 _) O cI (cQ (bA rfl (aH rfl (aa rfl rfl) ?comp (vO (jY.jb (ys:=jd ends) (by exact hK) (fun _ _=>trivial) (fun _ _=>trivial) tc)))) a9) fun ie dj=> ?_
    case comp=>
     refine' DV rfl rfl rfl rfl rfl (vo (by decide) (bl rfl (ak (aa (d:= .list (ends.map bL)) rfl rfl) av) (ET (ES gk (by exact Zb Z5 1 [_] [] h8))) (by decide))) (DY rfl ?l1 rfl rfl rfl rfl ((DX (l:=fun e=>[PyData.int (ends.findIdx (· ==e)+0:Nat),PyData.int (ends.findIdx (· ==e)+8:Nat)]) fun e he=>DZ (D0 (ic (ak aC (ak aC av)) (Nat.le_of_ble_eq_true rfl))) (dg rfl (Nat.le_of_ble_eq_true rfl) rfl rfl (nK (fg (aY (ek rfl (by decide) rfl (aa (d:= .list (ends.map bL)) rfl rfl) (ak (aa rfl rfl) av) (qG encList (by exact pM) (fun _ _=>trivial) ?mem (by exact bx h8))) (aa rfl rfl) rfl)) (nK (fg (aY (ek rfl (by decide) rfl (aa (d:= .list (ends.map bL)) rfl rfl) (ak (aa rfl rfl) av) (qG encList (by exact pM) (fun _ _=>trivial) ?zD (by exact bx h8))) (aa rfl rfl) rfl)) DW)))).trans ?eqv)) ?l2
     case l1=>rw [List.length_map];exact bx iE
     case mem=>exact (kf ends).mem_iff.mp he
     case zD=>exact (kf ends).mem_iff.mp he
     case eqv=>
      unfold jd
      rw [List.map_flatMap];rfl
     case l2=>rw [List.length_map];exact Zb Z1 15 [_] [] EU
    have NP:(gC ends R).length=8:=by unfold gC;rw [List.length_map,h8]
    refine mD (c:=c0) (k:=9) (n:=3) bo.ok hJ FO (H0 _) O dj (ag:=⟨([("ends", .list (ends.map bL)),("k",y),("row", .list (R.map fun (k:Nat)=>PyData.int k)),("ranks", .list ((gC ends R).map fun (k:Nat)=>PyData.int k))]:VL),([]:OL),none⟩) ((cm rfl rfl (d:= .list ((gC ends R).map fun (k:Nat)=>PyData.int k)) ?rk).trans rfl) fun ig fB=> ?_
    case rk=>
     refine' dF rfl rfl rfl rfl (i9 (aa (d:= .list (ends.map bL)) rfl rfl)) (dg rfl ?l1 rfl rfl ((gu (r:=fun e=>PyData.int ((cH true (fun j=>some (aV (be ends (R.getD j 0)) e)) (R.length+1) 0 R.length).getD 0:Nat)) fun e he=>fg (DU rfl rfl rfl rfl (ak (aa (d:= .list (R.map fun (k:Nat)=>PyData.int k)) rfl rfl) (ak (aa (d:=bL e) rfl rfl) av)) (Eu ((M0 (t:=fun j=>aV (be ends (R.getD j 0)) e) ?l2 fun j hj=> ?ht).trans ?e1)))).trans ?e2)) ?l3
     case l1=>rw [List.length_map];exact bx h8
     case l2=>rw [List.length_map];exact Zb Z1 15 [_] [] wb
     case l3=>rw [List.length_map];exact bx NP
     case e1=>rw [List.length_map]
     case e2=>unfold gC;rw [List.map_map];rfl
     case ht=>
      rw [List.length_map] at hj
      have hg:R.getD j 0=R[j]:=by rw [List.getD_eq_getElem?_getD,List.getElem?_eq_getElem hj];rfl
      refine Ew (.int (R[j]:Nat)) (bL (be ends R[j])) (by rw [List.getElem?_map,List.getElem?_eq_getElem hj];rfl) ?_ (by rw [hg];exact ER)
      exact bF rfl (d:= .list (ends.map bL)) rfl rfl (o6 (aa rfl rfl) aC zB) (item_at (R[j] % 8) [] rfl (by exact pO h8) (by exact bx h8))
    by_cases wc:gC ends R=kT R
    ·have td:iK ends=gC ends R:=by unfold iK;rw [hR,if_pos tc,if_pos wc]
     rw [td]
     refine qD (c:=c0) (k:=9) (n:=3) bo.ok hJ FO (H0 _) O fB (iG (LR (aH rfl (aa (d:= .list ((gC ends R).map fun (k:Nat)=>PyData.int k)) rfl rfl) ?comp (jb (jY.jb (ys:=kT R) (by exact hK) (fun _ _=>trivial) (fun _ _=>trivial) wc))) (aa rfl rfl))) fun v s' F' r'=>⟨⟨_,_,_,F'⟩,v,rfl,r'⟩
     case comp=>
      refine Eq.trans (b:=some (.list ((List.range' 0 8).map fun (k:Nat)=>PyData.int (R.findIdx (· ==k):Nat)))) (dF rfl rfl rfl rfl (eE rfl rfl (ak aC av) (kM 8 rfl (by exact lY))) (dg rfl (by rw [List.length_map,List.length_range'];exact lk) rfl rfl (gu (r:=fun (k:Nat)=>PyData.int (R.findIdx (· ==k):Nat)) fun k hk=>fg (ek rfl (by decide) rfl (aa (d:= .list (R.map fun (k:Nat)=>PyData.int k)) rfl rfl) (ak (aa rfl rfl) av) (qG jY (by exact hK) (fun _ _=>trivial) (zC k (by have:=List.mem_range'_1.mp hk;exact Zb Z5 2 [_] [] this)) (by exact Zb Z1 15 [_] [] wb))))) (by rw [List.length_map,List.length_range'];exact lk)) ?_
      unfold kT;rw [List.map_map];rfl
    ·have td:iK ends=[]:=by unfold iK;rw [hR,if_pos tc,if_neg wc]
     rw [td]
     refine qD (c:=c0) (k:=9) (n:=3) bo.ok hJ FO (H0 _) O fB (iG (LS (aH rfl (aa (d:= .list ((gC ends R).map fun (k:Nat)=>PyData.int k)) rfl rfl) ?comp (jz (jY.jz (ys:=kT R) (by exact hK) (fun _ _=>trivial) (fun _ _=>trivial) wc))) (ic (ds:=[]) av (Nat.zero_le _)))) fun v s' F' r'=>⟨⟨_,_,_,F'⟩,v,rfl,r'⟩
     case comp=>
      refine Eq.trans (b:=some (.list ((List.range' 0 8).map fun (k:Nat)=>PyData.int (R.findIdx (· ==k):Nat)))) (dF rfl rfl rfl rfl (eE rfl rfl (ak aC av) (kM 8 rfl (by exact lY))) (dg rfl (by rw [List.length_map,List.length_range'];exact lk) rfl rfl (gu (r:=fun (k:Nat)=>PyData.int (R.findIdx (· ==k):Nat)) fun k hk=>fg (ek rfl (by decide) rfl (aa (d:= .list (R.map fun (k:Nat)=>PyData.int k)) rfl rfl) (ak (aa rfl rfl) av) (qG jY (by exact hK) (fun _ _=>trivial) (zC k (by have:=List.mem_range'_1.mp hk;exact Zb Z5 2 [_] [] this)) (by exact Zb Z1 15 [_] [] wb))))) (by rw [List.length_map,List.length_range'];exact lk)) ?_
      unfold kT;rw [List.map_map];rfl
   ·have td:iK ends=[]:=by unfold iK;rw [hR,if_neg tc]
    rw [td]
    refine qD (c:=c0) (k:=9) (n:=3) bo.ok hJ FO (H0 _) O cI (eF (bA rfl (aH rfl (aa rfl rfl) ?comp (vN (jY.jz (ys:=jd ends) (by exact hK) (fun _ _=>trivial) (fun _ _=>trivial) tc)))) (jV (iG (ic (ds:=[]) av (Nat.zero_le _))))) fun v s' F' r'=>⟨⟨_,_,_,F'⟩,v,rfl,r'⟩
    case comp=>
     refine' DV rfl rfl rfl rfl rfl (vo (by decide) (bl rfl (ak (aa (d:= .list (ends.map bL)) rfl rfl) av) (ET (ES gk (by exact Zb Z5 1 [_] [] h8))) (by decide))) (DY rfl ?l1 rfl rfl rfl rfl ((DX (l:=fun e=>[PyData.int (ends.findIdx (· ==e)+0:Nat),PyData.int (ends.findIdx (· ==e)+8:Nat)]) fun e he=>DZ (D0 (ic (ak aC (ak aC av)) (Nat.le_of_ble_eq_true rfl))) (dg rfl (Nat.le_of_ble_eq_true rfl) rfl rfl (nK (fg (aY (ek rfl (by decide) rfl (aa (d:= .list (ends.map bL)) rfl rfl) (ak (aa rfl rfl) av) (qG encList (by exact pM) (fun _ _=>trivial) ?mem (by exact bx h8))) (aa rfl rfl) rfl)) (nK (fg (aY (ek rfl (by decide) rfl (aa (d:= .list (ends.map bL)) rfl rfl) (ak (aa rfl rfl) av) (qG encList (by exact pM) (fun _ _=>trivial) ?zD (by exact bx h8))) (aa rfl rfl) rfl)) DW)))).trans ?eqv)) ?l2
     case l1=>rw [List.length_map];exact bx iE
     case mem=>exact (kf ends).mem_iff.mp he
     case zD=>exact (kf ends).mem_iff.mp he
     case eqv=>
      unfold jd
      rw [List.map_flatMap];rfl
     case l2=>rw [List.length_map];exact Zb Z1 15 [_] [] EU
end
end cb
namespace cb
open PySem PySem.W PySem.Calls PyProof.Rows PySem.Spec
theorem EV:Slot "re.Pattern" "search" "re.Pattern.search":=
 .of (owner:="re.Pattern") (n:="search") (by rw [typeLookup_type,builtinLookup_eq_fast];kernel_rfl) (by decide+kernel) (by decide+kernel) (by decide+kernel)
  (by first | exact .inl (by decide+kernel) | exact .inr (by decide+kernel)) (by rw [isSubtype_type];kernel_rfl)
theorem NQ:typeOf (.builtin "re.Pattern.search")=pure (.type "method_descriptor"):=by show builtinType _=_;rw [builtinType_eq_fast];kernel_rfl
theorem NR:entryFor table "re.Pattern.search"=some Builtin.«re.Pattern.search»:=entryFor_of_tree (by kernel_rfl)
theorem NS (a b:Value):argsOk "re.Pattern.search" ⟨[a,b],[]⟩:=by unfold argsOk;kernel_rfl
theorem NT:PlainAttrs "re.Pattern":=
 ⟨⟨"object.__getattribute__",by rw [typeLookup_type,builtinLookup_eq_fast];kernel_rfl,by decide+kernel⟩,by rw [typeLookup_type,builtinLookup_eq_fast];kernel_rfl⟩
section
variable {prog:Program} {w:World} {mg mb:Str->Option Value}
variable {A:Around} {lm:Bool} {cd:Option (Addr × Addr)} {af fr X:List Addr} {ae s s':Shared} {env:Env} {sc:Scope} {own:List (Str × Addr)} {st:St}
theorem FS.NU (F:FS w.params mg mb lm cd af fr ae env sc own st s) (O:aX cd fr af env sc) (aM:env.cells=[]) {x:Str} {v:Value} {E:Value->Shared->Prop} {Q:Unit->Shared->Prop} (hx:iW sc x=true) (jn:x≠ef) (hv:st.v x=none) (ho:st.o x=none)
  (h:∀s',FS w.params mg mb lm cd af fr ae env sc own st s'->bq s'.heap env x v->(∀y u,y≠x->bq s.heap env y u->bq s'.heap env y u)->Q () s'):wpAny (model prog w) A (storeName env x v) Q E s:=by
 have hk:=F.er.kind
 have eh:env.kindOf x=some .local:=F.er.loc x hx
 have jQ:∀y a,env.cells.lookup y=some a->a≠env.locals:=fun y a e=>by rw [aM] at e;exact no e
 refine xE F.ns fun m ns=> ?_
 have sg:∀{h':Heap},h'.Ns env.locals (fun y=>if y=x then some v else m y)->bq h' env x v:=fun dA=> .loc eh O.nB dA (by simp)
 refine wpAny_storeName_local eh ns (fun h' dA hs=>h _ ?_ (sg dA) fun y u q a=>a.qh q ns dA hs jQ) (by rw [hk];rfl)
 refine lg (id dA:) fun o es ep e _=> ?_
 refine F.turned O O.loc jn hs ⟨o,e⟩ (ag:=st) (v:=v) ⟨fun y d' e=> .inl ⟨(fun q=>by subst q;rw [hv] at e;exact no e),e⟩,fun y ds e=> .inl ⟨(fun q=>by subst q;rw [ho] at e;exact no e),e⟩,rfl⟩ (fun y u q a=>a.qh q ns dA hs jQ) (sg dA) ⟨_,dA⟩ fun y b e=>by rw [aM] at e;exact no e
end
noncomputable def kU (P:Params) (b:Bool) (x:Str):Prop:=∀(S:Setting) (t:Tok),peek (KI P) S (Builtin.«re.Pattern.search» ⟨[.ref (if b then 98 else 103), .str x t],[]⟩)=some (.done (.ret .none))
theorem zE (P:Params):lK P 125 (bj P 125 bk) (bU P 125):=⟨⟨_,rfl,rfl⟩,by decide,rfl,rfl,rfl,rfl,rfl,rfl,rfl,⟨_,_,_,_,rfl,rfl,rfl,rfl⟩,rfl⟩
theorem NV (P:Params) (S:Setting) (va vx vb:Value):peek (KI P) S (bindArgs (bj P 125 bk) ⟨[va,vx],[("name",vb)]⟩)=some ([("self",va),("value",vx),("name",vb)]:List (Str × Value)):=by kernel_rfl
section
variable {prog:Program} {w:World} {mg mb:Str->Option Value}
variable {A:Around} {X:List Addr} {s:Shared}
theorem EW {cv:Value} {x:Str} {t:Tok} {b:Bool} {E:Value->Shared->Prop} (hA:Lv 1 A) (hx:aN X s.heap) (C:Ctx w.params mg mb X s.heap) (bt:kU w.params b x):
  wpAny (model prog w) A (call (.ref 125) [cv, .str x t] [("name", .bool b)]) (fun v s'=>Kp w.params mg mb X s s'/\∃t',v= .str x t') E s:=by
 refine o7 (zE w.params) hA.room hx C (fun S=>NV _ S cv (.str x t) (.bool b)) (fun y hy=> ?_) ([("value", .str x),("name", .bool b)]:VL) (fun y d e=> ?_) fun env fr ab E' O F H aM=> ?_
 ·simp only [List.mem_cons,List.not_mem_nil,or_false] at hy
  rcases hy with rfl | rfl | rfl<;>rfl
 ·rw [List.lookup_cons] at e
  by_cases q1:y="value"
  ·subst q1;(obtain rfl:=Option.some.inj e;clear e);exact ⟨_,rfl, .inl (.str _ _)⟩
  ·rw [beq_eq_false_iff_ne.mpr q1] at e
   simp only [List.lookup_cons] at e
   by_cases q2:y="name"
   ·subst q2;(obtain rfl:=Option.some.inj e;clear e);exact ⟨_,rfl, .inl (.bool _)⟩
   ·rw [beq_eq_false_iff_ne.mpr q2] at e
    exact no e
 ·have bo:Lv 0 (A.deeper env):=hA.deeper env
  have S:=fM (prog:=prog) (w:=w) (mg:=mg) (mb:=mb) bo.ok
  have dT:bU w.params 125=bU w.params 125:=rfl
  conv at dT=>rhs;whnf
  rw [dT]
  clear dT
  generalize aQ:(bj w.params 125 bk).scope=sc at O F
  conv at aQ=>lhs;whnf
  subst aQ
  -- type(value) is str
  refine wpAny_execs_cons (wpAny_If (wpAny_isTrue_Compare1 (wpAny_Call_Name_kw ((jq (v:= .type "type") F.er rfl (fun h C=>kz C rfl (by decide) rfl) (by decide)).then (Kp.refl F.ctx) fun u aq k₂ e=> ?_)) rfl))
  subst e
  have aB:=F.kp O k₂
  refine gO (first:=[]) rfl (Calls.spliced_cons (((S 6).e aB.ctx aB.aD aB.er (aa rfl rfl)).then (Kp.refl aB.ctx) fun v aS bS r=>Calls.spliced_nil ⟨.inr (.inl ⟨_,rfl⟩), ?_⟩))
  (refine xE r.str_inv fun t3 ay=> ?_;subst ay)
  have bu:=aB.kp O bS
  refine call_type_of (Tx:="str") (typeIs_str _ _ _) rfl ?_
  refine (jq (v:= .type "str") bu.er rfl (fun h C=>kz C rfl (by decide) rfl) (by decide)).then (Kp.refl bu.ctx) fun u fG mK e=> ?_
  subst e
  have dQ:=bu.kp O mK
  refine wpAny_is_plain rfl (wpAny_truthy_bool ?_)
  have e1:(Value.type "str"==Value.type "str")=true:=by decide
  rw [e1]
  simp only [if_true]
  have EX:∃a,(if b then (98:Addr) else 103)=a/\(a=98\/a=103):=by cases b<;>exact ⟨_,rfl,by simp⟩
  (refine aj EX ?_;clear EX;intro ra te NW)
  have EY:∃o,(KI w.params).lookup ra=some o/\o.cls= .type "re.Pattern"/\o.dict=none:=by
   rcases NW with rfl | rfl
   ·exact ⟨_,rfl,rfl,rfl⟩
   ·exact ⟨_,rfl,rfl,rfl⟩
  (refine ey EY ?_;clear EY;intro ro EZ E0 sa)
  have pick:∀(p1 p2 p3 p4:Pos) (E:Value->Shared->Prop) (Q:Value->Shared->Prop),(∀c7,Kp w.params mg mb (oa []++(fr++X)) fG c7->Q (.ref ra) c7)->wpAny (model prog w) (A.deeper env) (eval (.IfExp (.Name "name" p1) (.Name "_name_disallowed_re" p2) (.Name "_value_disallowed_re" p3) p4) env) Q E fG:=fun p1 p2 p3 p4 E Q hQ=>by
   refine wpAny_IfExp (((S 6).t dQ.ctx dQ.aD dQ.er (gV (aa rfl rfl) rfl)).then (Kp.refl dQ.ctx) fun b' c7 fA e=> ?_)
   subst e
   have cI:=dQ.kp O fA
   cases b' with
   | true=>
    simp only [if_true] at te ⊢
    subst te
    refine (jq (v:= .ref 98) cI.er rfl (fun h C=>fI C rfl) (by decide)).then (Kp.refl cI.ctx) fun u ie fW e=> ?_
    subst e
    exact hQ ie (fA.trans fW)
   | false=>
    simp only [Bool.false_eq_true,if_false] at te ⊢
    subst te
    refine (jq (v:= .ref 103) cI.er rfl (fun h C=>fI C rfl) (by decide)).then (Kp.refl cI.ctx) fun u ie fW e=> ?_
    subst e
    exact hQ ie (fA.trans fW)
  refine wpAny_execs_cons (wpAny_Assign_Name (pick _ _ _ _ _ _ fun c7 fA=> ?_) rfl)
  have cI:=dQ.kp O fA
  refine cI.NU O aM rfl (by decide) rfl rfl fun ie dj sS _=> ?_
  refine xA (fR (sS.df dj.er.cq):) fun n1 n2=> ?_
  refine wpAny_execs_cons (wpAny_If (isTrue_plain ?_ rfl))
  have NX:(KI w.params).In ie.heap:=dj.ctx.dX.keeps fc
  have ho:=NX _ _ EZ
  refine wpAny_Call_method_lateS rfl rfl rfl (wpAny_Name (eZ dj.er.kind sS (aA.refl _) n2 ⟨"re.Pattern","re.Pattern.search",NT,EV,NQ,⟨_,ho,E0⟩,fun b e=>(by cases e;exact ⟨_,ho,sa⟩), ?_⟩) n1)
  refine gO (first:=[.ref ra]) rfl (Calls.spliced_cons (((S 6).e dj.ctx dj.aD dj.er (aa rfl rfl)).then (Kp.refl dj.ctx) fun v ig mL r=>Calls.spliced_nil ⟨.inl ⟨_,rfl⟩, ?_⟩))
  (refine xE r.str_inv fun t7 aF=> ?_;subst aF)
  have fB:=dj.kp O mL
  have E1:(KI w.params).In ig.heap:=fB.ctx.dX.keeps fc
  show wpAny _ _ (call (.builtin "re.Pattern.search") [.ref ra, .str x t7]) _ _ _
  refine wpAny_call_entry EV ⟨_,E1 _ _ EZ,E0⟩ NR ((Looks.of_peek E1 (te▸bt _ t7)).here ⟨_,rfl, ?_⟩) (NS _ _)
  refine PyProof.Rows.truthy_none ?_
  simp only [Bool.false_eq_true,if_false]
  refine wpAny_execs_nil (wpAny_execs_cons (wpAny_Return_some (((S 6).e fB.ctx fB.aD fB.er (aa rfl rfl)).then (Kp.refl fB.ctx) fun v vJ qH r=> ?_)))
  (refine xE r.str_inv fun t8 aP=> ?_;subst aP)
  have d9:=fB.kp O qH
  refine cN d9.eq fun h' tk e=> ?_
  exact ⟨⟨h',tk,e,by have:=d9.gr;rw [e] at this;exact this,by have:=d9.ctx.less (X:=X) fun _ q=>List.mem_append_right _ (List.mem_append_right _ q);rw [e] at this;exact this⟩,t8,rfl⟩
end
set_option tactic.hygienic true in
theorem NY {h:Heap} {d:Addr} {m:Str->Option Value} (x:h.Ns d m):∃o,h.get? d=some o/\∀name,lookIn name o=some (m name):=by
 (refine qY x ?_;clear x;intro o es ep e hd hk hm)
 refine ⟨o,e,fun name=> ?_⟩
 unfold lookIn
 rw [hd]
 dsimp only
 have ni:=hm name
 unfold nsFind findBy at ni
 rw [<- Array.find?_toList] at ni
 split
 ·rename_i en he
  rw [he] at ni
  rw [<- ni];rfl
 ·rename_i he
  rw [he] at ni
  rw [if_neg, <- ni]
  ·rfl
  ·intro q
   refine aj (List.any_eq_true.mp q:) fun en h1 h2=> ?_
   refine cN (hk en (by simpa using h1):) fun n t hn=> ?_
   unfold DictEntry.refKey at h2
   rw [hn] at h2
   exact eI h2
noncomputable def E2 (l:Addr):Str->Option Value:=fun x=>if x=("_headers":Str) then some (.ref l) else none
theorem fe.inst {h:Heap} {c d l:Addr} (x:fe h c d l):∃ox od,InstAt h c ox 226 (some od)/\∀name,lookIn name od=some (E2 l name):=by
 (refine xA x ?_;clear x;intro ay n;obtain ⟨o,e,hc,hd,hp⟩:=ay)
 refine aj (NY n:) fun od e2 hl=> ?_
 refine ⟨o,od,⟨e,hc,by unfold notCls;rw [hp], ?_⟩,hl⟩
 rw [hd];exact e2
theorem E3 (P:Params):findIn (KI P) (.ref 226) "__getattribute__"=some (some (.builtin "object.__getattribute__")):=by kernel_rfl
theorem NZ (P:Params):findIn (KI P) (.ref 226) "__getattr__"=some none:=by kernel_rfl
theorem N0 (P:Params):hasDictIn (KI P) 226=true:=by kernel_rfl
theorem N1 (P:Params):findIn (KI P) (.ref 226) "_headers"=some none:=by kernel_rfl
structure qI (P:Params) (name:Str) (f:Addr):Prop where
 ne:name≠"_headers"
 find:findIn (KI P) (.ref 226) name=some (some (.ref f))
 fn:typeIn (KI P) (.ref f)=some (.type "function")
theorem E4 (P:Params):qI P "_convert_string_type" 125:=⟨by decide,by kernel_rfl,by kernel_rfl⟩
theorem N2 (P:Params):qI P "get" 173:=⟨by decide,by kernel_rfl,by kernel_rfl⟩
theorem N3 (P:Params):qI P "setdefault" 216:=⟨by decide,by kernel_rfl,by kernel_rfl⟩
theorem N4 (P:Params):qI P "items" 190:=⟨by decide,by kernel_rfl,by kernel_rfl⟩
section
variable {prog:Program} {w:World} {mg mb:Str->Option Value}
variable {A:Around} {E:Value->Shared->Prop} {s:Shared} {env:Env}
theorem N5 {pl:Sem Bool} {Q:Value × List Value->Shared->Prop} {name:Str} {f c d l:Addr} (K:(KI w.params).In s.heap) (D:fe s.heap c d l) (M:qI w.params name f) (h:Q (.ref f,[.ref c]) s):wpAny (model prog w) A (getMethod (.ref c) name pl) Q E s:=by
 refine dq D.inst fun ox od I hl=> ?_
 refine method_fn K I (E3 _) (NZ _) M.find M.fn ?_ h
 show (lookIn name od).map _=_
 rw [hl]
 unfold E2
 rw [if_neg M.ne];rfl
theorem th {o:Expr} {name:Str} {apos pos:Pos} {args:List Expr} {gf:List Keyword} {f:Addr} {Q:Value->Shared->Prop} (M:qI w.params name f) (zF:attributeBase o name env (eval o env)=eval o env)
  (N6:methodCallForm (args.length+gf.length) (backTo pos (starEach args env)) (backToKw pos (keywordEach gf env))=true) (cX:(apos.endLine==pos.line)=true)
  (h:wpAny (model prog w) A (eval o env) (fun ov ab=>∃c d l,ov= .ref c/\(KI w.params).In ab.heap/\fe ab.heap c d l/\wpAny (model prog w) A (callWith pos (.ref f) [.ref c] (backTo pos (starEach args env)) (backToKw pos (keywordEach gf env))) Q E ab) E s):
  wpAny (model prog w) A (eval (.Call (.Attribute o name apos) args gf pos) env) Q E s:=by
 rw [arm_eval_Call,zF]
 refine wpAny_bind (wpAny_mono h (fun ov ab bf=> ?_) fun _ _ e=>e)
 (refine qY bf ?_;clear bf;intro c d l aF K D hc;subst aF)
 refine wpAny_bind (wpAny_standAt ?_)
 have oN:methodCallPos true o env apos pos=pure pos:=by unfold methodCallPos;simp [cX]
 unfold methodCall
 rw [N6]
 refine wpAny_bind (wpAny_holding (N5 K D M ?_))
 exact wpAny_bind (wpAny_of_eq oN hc)
theorem zG {o:Expr} {pos:Pos} {Q:Value->Shared->Prop} (zF:attributeBase o "_headers" env (eval o env)=eval o env) (ht:∀u v,letTemporaryGo o u v=pure ())
  (h:wpAny (model prog w) A (eval o env) (fun ov ab=>∃c d l,ov= .ref c/\(KI w.params).In ab.heap/\fe ab.heap c d l/\Q (.ref l) {ab with toks:=ab.toks+1}) E s):
  wpAny (model prog w) A (eval (.Attribute o "_headers" pos) env) Q E s:=by
 rw [arm_eval_Attribute,zF]
 refine wpAny_bind (wpAny_mono h (fun ov ab bf=> ?_) fun _ _ e=>e)
 (refine qY bf ?_;clear bf;intro c d l aP K D hq;subst aP)
 refine dq D.inst fun ox od I hl=> ?_
 refine wpAny_bind (wpAny_standAt (wpAny_bind (wpAny_holding ?_)))
 refine get_value (v:= .ref l) K I (E3 _) (findObj_own (N0 _) (N1 _) rfl ?_) rfl ?_
 ·rw [hl];rfl
 ·rw [ht]
  exact wpAny_bind (wpAny_pure (wpAny_pure hq))
end
section
variable {prog:Program} {w:World} {mg mb:Str->Option Value}
variable {A:Around} {lm:Bool} {cd:Option (Addr × Addr)} {af fr X:List Addr} {ae s s':Shared} {env:Env} {sc:Scope} {own:List (Str × Addr)} {st ag:St}
theorem E5 (hA:cG A) {B:Scope->St->List Stmt->Option (Out × St)} (hB:mB prog w mg mb A lm B) (O:aX cd fr af env sc) (F:FS w.params mg mb lm cd af fr ae env sc own st s) {bz it:Expr} {body:List Stmt} {pos:Pos} {items:List PyData} {o:Out} {E:Value->Shared->Prop}
  (hit:∀E Q,(∀x ab,Kp w.params mg mb (oa own++(fr++af)) s ab->nj (oa own++(fr++af)) ab.heap x items->Q x ab)->wpAny (model prog w) A (eval it env) Q E s) (qJ:∀x,foldedSetIterable it env x=pure x)
  (h:dM (dE sc bz) (fun st=>B sc st body) items st=some (o,ag)):
  wpAny (model prog w) A (exec (.For bz it body [] pos) env) (fun f s'=>FS w.params mg mb lm cd af fr ae env sc own ag s'/\u4 (fr++af) s'.heap o f) E s:=by
 refine wpAny_For (hit _ _ fun x ab k₁ rx=> ?_) qJ
 have au:=F.kp O k₁
 refine rU hA au.aD au.ctx rx fun aq k₂ hn mr mu WW bQ=> ?_
 refine aj (WW [] (fun _ q=>nomatch q):) fun Si W si=> ?_
 have nE:=au.mz hn
 have jr:ab.heap.objs.size∉fr:=fun q=>nE (List.mem_append_right _ (List.mem_append_left _ q))
 have iX:∀a∈af,a≠ab.heap.objs.size:=fun a q e=>nE (List.mem_append_right _ (List.mem_append_right _ (e▸q)))
 have fT:ab.heap.objs.size∉az:=fQ au.ctx
 have h0:ae.heap.get? ab.heap.objs.size=none:=by
  cases q:ae.heap.get? ab.heap.objs.size with
  | none=>rfl
  | some o=>have:=au.gr _ o fT q;rw [hn] at this;exact no this
 have aB:=au.hide O hn k₂.shape k₂.grow mu mr
 refine codeAny_mono (De hA hB O jr iX h0 W aB si h) fun r aS q=> ?_
 (refine eT q ?_;clear q;intro f ay bu sj hf;subst ay)
 exact ⟨bu,hf⟩
end
section
variable {prog:Program} {w:World} {mg mb:Str->Option Value}
variable {A:Around} {lm:Bool} {cd:Option (Addr × Addr)} {af fr X:List Addr} {ae s s':Shared} {env:Env} {sc:Scope} {own:List (Str × Addr)} {st ag:St}
theorem N7 (hA:cG A) {B:Scope->St->List Stmt->Option (Out × St)} (hB:mB prog w mg mb A lm B) (O:aX cd fr af env sc) (F:FS w.params mg mb lm cd af fr ae env sc own st s) {bz it:Expr} {body:List Stmt} {pos:Pos} {items:List PyData} {E:Value->Shared->Prop} {Q:Flow->Shared->Prop} (P:St->Prop) (d:PyData)
  (hit:∀E Q,(∀x ab,Kp w.params mg mb (oa own++(fr++af)) s ab->nj (oa own++(fr++af)) ab.heap x items->Q x ab)->wpAny (model prog w) A (eval it env) Q E s) (qJ:∀x,foldedSetIterable it env x=pure x)
  (h:(∃ag,dM (dE sc bz) (fun st=>B sc st body) items st=some (.aT,ag)/\P ag)\/∃ag,dM (dE sc bz) (fun st=>B sc st body) items st=some (.ret d,ag))
  (hr:∀ag s',P ag->FS w.params mg mb lm cd af fr ae env sc own ag s'->Q .next s') (hq:∀v ag s',FS w.params mg mb lm cd af fr ae env sc own ag s'->Rep af s'.heap v d->Q (.ret v) s'):
  wpAny (model prog w) A (exec (.For bz it body [] pos) env) Q E s:=by
 rcases h with ⟨ag,h,p⟩ | ⟨ag,h⟩
 ·refine wpAny_mono (E5 hA hB O F hit qJ h) (fun f ab q=> ?_) fun _ _ q=>q
  (refine xA q ?_;clear q;intro au hf)
  cases hf
  exact hr ag ab p au
 ·refine wpAny_mono (E5 hA hB O F hit qJ h) (fun f ab q=> ?_) fun _ _ q=>q
  obtain ⟨au,v,rfl,rv⟩:=q
  exact hq v ag ab au (rv.more fun _ h=>List.mem_append_right _ h)
end
noncomputable def cR (p:Str × Str):PyData:= .tuple [.str p.1, .str p.2]
noncomputable def mP (a b:Str):Bool:=(Txt.lower a).cps.toList==(Txt.lower b).cps.toList
noncomputable def eR (hs:List (Str × Str)) (n:Str):Option Str:=(hs.find? fun p=>mP p.1 n).map (·.2)
noncomputable def qK:Option Str->PyData
 | some v=> .str v
 | none=> .none
noncomputable def nZ (x:Str):Prop:=Builtin.Str.tooLong (Txt.lower x).length=false
theorem E6 {bind:St->PyData->Option St} {body:St->Option (Out × St)} {n:Str} (gX:St->Prop):∀(hs:List (Str × Str)) (st:St),(∀p∈hs,∀st,gX st->∃bE,bind st (cR p)=some bE/\(if mP p.1 n=true then ∃aR,body bE=some (.ret (.str p.2),aR) else ∃aR,body bE=some (.aT,aR)/\gX aR))->gX st->
  (∀v,eR hs n=some v->∃ag,dM bind body (hs.map cR) st=some (.ret (.str v),ag))/\(eR hs n=none->∃ag,dM bind body (hs.map cR) st=some (.aT,ag)/\gX ag)
 | [],st,_,hi=>⟨fun v h=>(nomatch h),fun _=>⟨st,rfl,hi⟩⟩
 | p::r,st,iI,hi=>by
  refine aj (iI p (.head _) st hi:) fun bE h1 h2=> ?_
  have e:dM bind body ((p::r).map cR) st=(body bE).bind fun (o,aR)=>match o with
    | .aT=>dM bind body (r.map cR) aR
    | .cont=>dM bind body (r.map cR) aR
    | .ret d=>some (.ret d,aR):=by
   show (bind st (cR p)).bind _=_
   rw [h1];rfl
  rw [e]
  cases q:mP p.1 n with
  | true=>
   rw [if_pos q] at h2
   (refine xE h2 ?_;clear h2;intro aR h2)
   have hg:eR (p::r) n=some p.2:=by unfold eR;rw [List.find?_cons,q];rfl
   rw [h2,hg]
   exact ⟨fun v hv=>by (obtain rfl:=Option.some.inj hv;clear hv);exact ⟨aR,rfl⟩,fun h=>nomatch h⟩
  | false=>
   rw [q,if_neg (by simp)] at h2
   (refine aj h2 ?_;clear h2;intro aR h2 ke)
   have hg:eR (p::r) n=eR r n:=by unfold eR;rw [List.find?_cons,q]
   rw [h2,hg]
   exact E6 gX r aR (fun p hp=>iI p (.tail _ hp)) ke
theorem N8 {bind:St->PyData->Option St} {body:St->Option (Out × St)} {n:Str} {gX:St->Prop} {hs:List (Str × Str)} {st:St} (hi:gX st) (iI:∀p∈hs,∀st,gX st->∃bE,bind st (cR p)=some bE/\(if mP p.1 n=true then ∃aR,body bE=some (.ret (.str p.2),aR) else ∃aR,body bE=some (.aT,aR)/\gX aR)):
  (∃ag,dM bind body (hs.map cR) st=some (.aT,ag)/\(eR hs n=none/\gX ag))\/∃ag,dM bind body (hs.map cR) st=some (.ret (qK (eR hs n)),ag):=by
 refine xA (E6 gX hs st iI hi:) fun k1 k2=> ?_
 cases hg:eR hs n with
 | some v=>
  refine xE (k1 v hg:) fun ag q=> ?_
  exact .inr ⟨ag,q⟩
 | none=>
  refine aj (k2 hg:) fun ag q hi=> ?_
  exact .inl ⟨ag,q,rfl,hi⟩
theorem E7 (P:Params):lK P 173 (bj P 173 bk) (bU P 173):=⟨⟨_,rfl,rfl⟩,by decide,rfl,rfl,rfl,rfl,rfl,rfl,rfl,⟨_,_,_,_,rfl,rfl,rfl,rfl⟩,rfl⟩
theorem N9 (P:Params) (S:Setting) (va vx:Value):peek (KI P) S (bindArgs (bj P 173 bk) ⟨[va,vx],[]⟩)=some ([("self",va),("name",vx),("default", .none)]:List (Str × Value)):=by kernel_rfl
theorem ti {x:Str} (h:nZ x):iA "lower" (.str x) []=some (.str (Txt.lower x)):=by
 show (if Builtin.Str.tooLong (Txt.lower x).length=false then some (PyData.str (Txt.lower x)) else none)=_
 rw [if_pos (show Builtin.Str.tooLong (Txt.lower x).length=false from h)]
section
variable {prog:Program} {w:World} {mg mb:Str->Option Value}
variable {A:Around} {X:List Addr} {s:Shared}
theorem wd {h h':Heap} {c d l:Addr} (x:fe h c d l) (hc:c∉az) (hd:d∉az) (g:aA h h'):fe h' c d l:=x.at (fun o e=>g _ _ hc e) fun o e=>g _ _ hd e
theorem Oa {c d l:Addr} {n:Str} {t:Tok} {hs:List (Str × Str)} {E:Value->Shared->Prop} (hA:Lv 2 A) (hx:aN X s.heap) (C:Ctx w.params mg mb X s.heap) (hD:fe s.heap c d l) (iY:c∉az) (kW:d∉az) (hl:Rep X s.heap (.ref l) (.list (hs.map cR))) (hlen:hs.length<=4096) (zH:nZ n) (fX:∀p∈hs,nZ p.1) (bt:kU w.params true (Txt.lower n)):
  wpAny (model prog w) A (call (.ref 173) [.ref c, .str n t]) (fun v s'=>Kp w.params mg mb X s s'/\Rep X s'.heap v (qK (eR hs n))) E s:=by
 refine o7 (E7 w.params) hA.room hx C (fun S=>N9 _ S (.ref c) (.str n t)) (fun y hy=> ?_) ([("name", .str n),("default", .none)]:VL) (fun y d e=> ?_) fun env fr ab E' O F H aM=> ?_
 ·simp only [List.mem_cons,List.not_mem_nil,or_false] at hy
  rcases hy with rfl | rfl | rfl<;>rfl
 ·rw [List.lookup_cons] at e
  by_cases q1:y="name"
  ·subst q1;(obtain rfl:=Option.some.inj e;clear e);exact ⟨_,rfl, .inl (.str _ _)⟩
  ·rw [beq_eq_false_iff_ne.mpr q1] at e
   simp only [List.lookup_cons] at e
   by_cases q2:y="default"
   ·subst q2;(obtain rfl:=Option.some.inj e;clear e);exact ⟨_,rfl, .inl .none⟩
   ·rw [beq_eq_false_iff_ne.mpr q2] at e
    exact no e
 ·have bo:Lv 1 (A.deeper env):=hA.deeper env
  have S:=fM (prog:=prog) (w:=w) (mg:=mg) (mb:=mb) bo.ok
  have FO:fJ prog w mg mb (A.deeper env) false 0 dR:=nI bo.hd (by have:=bo.un;exact Zb Z2 38 [_,_] [] this)
  have dT:bU w.params 173=bU w.params 173:=rfl
  conv at dT=>rhs;whnf
  rw [dT]
  clear dT
  generalize aQ:(bj w.params 173 bk).scope=sc at O F
  conv at aQ=>lhs;whnf
  subst aQ
  have jC:=H "self" (.ref c) rfl
  have lM:∀{s':Shared},aA s.heap s'.heap->fe s'.heap c d l:=fun g=>wd hD iY kW g
  refine xA (fR (jC.df F.er.cq):) fun n1 n2=> ?_
  -- name=self._convert_string_type(name.lower(),name=True)
  refine wpAny_execs_cons (wpAny_Assign_Name (th (E4 w.params) rfl rfl rfl (wpAny_Name (eZ F.er.kind jC (aA.refl _) n2 ⟨c,d,l,rfl,F.ctx.dX.keeps fc,lM F.gr, ?_⟩) n1)) rfl)
  refine callWith_of (P:=gM (.ref 125)) (first:=[.ref c]) rfl (fun h x=>x.pT) ?_
  refine evalArgs_kw rfl (Calls.spliced_cons (((S 6).e F.ctx F.aD F.er (ek rfl (by decide) rfl (aa rfl rfl) av (ti zH))).then (Kp.refl F.ctx) fun v aq k₂ r=>Calls.spliced_nil ?_))
  (refine xE r.str_inv fun t2 aF=> ?_;subst aF)
  have aB:=F.kp O k₂
  refine wpAny_evalAll_cons (wpAny_bind (((S 6).e aB.ctx aB.aD aB.er iF).then (Kp.refl aB.ctx) fun v aS bS r=>wpAny_bind (wpAny_standAt (wpAny_pure (wpAny_evalAll_nil ?_)))))
  obtain rfl:=r.bool_inv
  have bu:=aB.kp O bS
  refine ⟨nO (zE w.params) _ _ bu.ctx, ?_⟩
  refine wpAny_mono (EW (s:=aS) bo bu.aD bu.ctx bt) (fun v fG q=> ?_) fun _ _ q=>q
  (refine bV q ?_;clear q;intro mK t4 aP;subst aP)
  have dQ:=bu.kp O mK
  have zI:=((jC.grow k₂.grow).grow bS.grow).grow mK.grow
  refine dQ.o8 O aM (d:= .str (Txt.lower n)) rfl (by decide) (.str _ _) fun c7 cI Ob=> ?_
  have tj:=Ob "self" _ (by decide) zI
  have ij:FS w.params mg mb false none X fr s env _ [] ⟨([("name", .str (Txt.lower n)),("default", .none)]:VL),([]:OL),none⟩ c7:=cI
  clear cI dQ bu aB F
  have lst:∀{sc:Scope} {ag:St} {s':Shared},FS w.params mg mb false none X fr s env sc [] ag s'->Rep (fr++X) s'.heap (.ref l) (.list (hs.map cR)):=fun F=>(hl.fresh fun a ha=>F.fresh a (by simpa using ha)).grow F.gr
  have done:∀{sc:Scope} (v:Value) (d:PyData) (ag:St) (s':Shared),FS w.params mg mb false none X fr s env sc [] ag s'->Rep X s'.heap v d->Kp w.params mg mb X s s'/\Rep X s'.heap v d:=fun v d ag s' F' r=>by
   refine cN F'.eq fun h' tk e=> ?_
   exact ⟨⟨h',tk,e,by have:=F'.gr;rw [e] at this;exact this,by have:=F'.ctx.less (X:=X) fun _ q=>List.mem_append_right _ (List.mem_append_right _ q);rw [e] at this;exact this⟩,r⟩
  refine wpAny_execs_cons (N7 (P:=fun ag=>eR hs n=none/\((∃y z,ag=(⟨([("name", .str (Txt.lower n)),("default", .none),("k",y),("v",z)]:VL),([]:OL),none⟩:St))\/ag=⟨([("name", .str (Txt.lower n)),("default", .none)]:VL),([]:OL),none⟩)) (d:=qK (eR hs n)) bo.ok (sk (k:=7) bo.ok gR FO (H0 _) 3) O ij (items:=hs.map cR) ?hit (fun _=>rfl) ?h (fun ag s' hP F'=> ?_) fun v ag s' F' r=> ?_)
  case hit=>
   intro E Q hq
   refine zG rfl (fun _ _=>rfl) (wpAny_Name (eZ ij.er.kind tj (aA.refl _) n2 ⟨c,d,l,rfl,ij.ctx.dX.keeps fc,lM ij.gr,hq _ _ (Kp.toks ij.ctx) (by have:=lst ij;exact .list this)⟩) n1)
  case h=>
   refine N8 (gX:=fun ag=>(∃y z,ag=(⟨([("name", .str (Txt.lower n)),("default", .none),("k",y),("v",z)]:VL),([]:OL),none⟩:St))\/ag=⟨([("name", .str (Txt.lower n)),("default", .none)]:VL),([]:OL),none⟩) (.inr rfl) ?step
   case step=>
    intro p hp st hi
    refine ⟨⟨([("name", .str (Txt.lower n)),("default", .none),("k", .str p.1),("v", .str p.2)]:VL),([]:OL),none⟩, ?_, ?_⟩
    ·rcases hi with ⟨y,z,rfl⟩ | rfl<;>rfl
    ·cases q:mP p.1 n with
     | true=>
      rw [if_pos rfl]
      exact ⟨_,jV (eF (bA rfl (aH rfl (ek rfl (by decide) rfl (aa rfl rfl) av (ti (fX p hp))) (aa rfl rfl) (congrArg some q))) (jV (iG (aa rfl rfl))))⟩
     | false=>
      rw [if_neg (by decide)]
      exact ⟨_,aW (cQ (bA rfl (aH rfl (ek rfl (by decide) rfl (aa rfl rfl) av (ti (fX p hp))) (aa rfl rfl) (congrArg some q))) a9) a9, .inl ⟨_,_,rfl⟩⟩
  ·(refine xA hP ?_;clear hP;intro hg hi)
   rw [hg]
   refine wpAny_execs_cons (wpAny_Return_some (((S 6).e F'.ctx F'.aD F'.er (aa (d:= .none) ?_ rfl)).then (Kp.refl F'.ctx) fun v vJ qH r=> ?_))
   ·rcases hi with ⟨y,z,rfl⟩ | rfl<;>rfl
   ·obtain rfl:=r.none_inv
    exact done _ _ _ _ (F'.kp O qH) .none
  ·exact done v _ ag s' F' r
end
noncomputable def gZ (hs:List (Str × Str)) (n v:Str):Str × List (Str × Str):=match eR hs n with
 | some r=>(r,hs)
 | none=>(v,hs++[(n,v)])
theorem E8 (P:Params):lK P 216 (bj P 216 bk) (bU P 216):=⟨⟨_,rfl,rfl⟩,by decide,rfl,rfl,rfl,rfl,rfl,rfl,rfl,⟨_,_,_,_,rfl,rfl,rfl,rfl⟩,rfl⟩
theorem Oc (P:Params) (S:Setting) (va vx vy:Value):peek (KI P) S (bindArgs (bj P 216 bk) ⟨[va,vx,vy],[]⟩)=some ([("self",va),("name",vx),("value",vy)]:List (Str × Value)):=by kernel_rfl
section
variable {prog:Program} {w:World} {mg mb:Str->Option Value}
variable {A:Around} {lm:Bool} {cd:Option (Addr × Addr)} {af fr X:List Addr} {ae s s':Shared} {env:Env} {sc:Scope} {st ag:St}
theorem E9 (hA:Lv 1 A) (O:aX cd fr X env sc) (F:FS w.params mg mb false cd X fr ae env sc [] st s) {c d l:Addr} (jC:bq s.heap env "self" (.ref c)) (hD:fe s.heap c d l) {x y:Str} {b:Bool} {p1 p2 p3 p4 ap cp:Pos} {k:Nat} {E:Value->Shared->Prop} {Q:Value->Shared->Prop} (hx:st.v x=some (.str y)) (bt:kU w.params b y) (cX:(ap.endLine==cp.line)=true)
  (h:∀t s',Kp w.params mg mb (oa []++(fr++X)) s s'->Q (.str y t) s'):
  wpAny (model prog w) A (eval (.Call (.Attribute (.Name "self" p1) "_convert_string_type" ap) [.Name x p2] [⟨some "name", .Constant (.bool b) k p3,p4⟩] cp) env) Q E s:=by
 have S:=fM (prog:=prog) (w:=w) (mg:=mg) (mb:=mb) (A:=A) hA.ok
 refine xA (fR (jC.df F.er.cq):) fun n1 n2=> ?_
 refine th (E4 w.params) rfl rfl cX (wpAny_Name (eZ F.er.kind jC (aA.refl _) n2 ⟨c,d,l,rfl,F.ctx.dX.keeps fc,hD, ?_⟩) n1)
 refine callWith_of (P:=gM (.ref 125)) (first:=[.ref c]) rfl (fun h x=>x.pT) ?_
 refine evalArgs_kw rfl (Calls.spliced_cons (((S 6).e F.ctx F.aD F.er (aa hx rfl)).then (Kp.refl F.ctx) fun v aq k₂ r=>Calls.spliced_nil ?_))
 (refine xE r.str_inv fun t2 ay=> ?_;subst ay)
 have aB:=F.kp O k₂
 refine wpAny_evalAll_cons (wpAny_bind (((S 6).e aB.ctx aB.aD aB.er iF).then (Kp.refl aB.ctx) fun v aS bS r=>wpAny_bind (wpAny_standAt (wpAny_pure (wpAny_evalAll_nil ?_)))))
 obtain rfl:=r.bool_inv
 have bu:=aB.kp O bS
 refine ⟨nO (zE w.params) _ _ bu.ctx, ?_⟩
 refine wpAny_mono (EW (s:=aS) hA bu.aD bu.ctx bt) (fun v fG q=> ?_) fun _ _ q=>q
 (refine bV q ?_;clear q;intro mK t4 aF;subst aF)
 exact h _ _ ((k₂.trans bS).trans mK)
theorem Kp.back {N:List Addr} (C:Ctx w.params mg mb (N++X) s.heap) (k:Kp w.params mg mb X s s') (hN:∀a∈N,a∉az/\∃vs,s.heap.PlainList a vs):Kp w.params mg mb (N++X) s s':=by
 (refine aU k ?_;clear k;intro h' tk aP g C';subst aP)
 refine ⟨h',tk,rfl,g,C.back g C' fun a ha=> ?_⟩
 obtain ⟨t,vs,n,e⟩:=hN a ha
 exact ⟨_,g _ _ t e,fun _ h=>nomatch h⟩
theorem Kp.Od {l:Addr} {Y:List Addr} {vs:Array Value} (C:Ctx w.params mg mb Y s.heap) (k:Kp w.params mg mb X s s') (hl:l∉az) (hp:s.heap.PlainList l vs) (Oe:∀a∈X,a∈Y) (h:∀a∈Y,a=l\/a∈X) (Of:l∈Y):Kp w.params mg mb Y s s':=by
 refine (Kp.back (N:=[l]) (C.less fun a ha=> ?_) k fun a ha=> ?_).less fun a ha=> ?_
 ·rcases List.mem_cons.mp ha with q | q
  ·rw [q];exact Of
  ·exact Oe a q
 ·rw [List.mem_singleton.mp ha];exact ⟨hl,vs,hp⟩
 ·rcases h a ha with q | q
  ·rw [q];exact .head _
  ·exact .tail _ q
end
section
variable {prog:Program} {w:World} {mg mb:Str->Option Value}
variable {A:Around} {X:List Addr} {s:Shared}
theorem Og {c d l:Addr} {n v:Str} {t t':Tok} {hs:List (Str × Str)} {vs:Array Value} {E:Value->Shared->Prop} (hA:Lv 3 A) (hx:aN X s.heap) (C:Ctx w.params mg mb X s.heap) (hD:fe s.heap c d l) (iY:c∉az) (kW:d∉az) (pd:l∈X) (aM:c≠l) (Fb:d≠l) (hl:s.heap.PlainList l vs) (hr:ax X s.heap vs.toList (hs.map cR)) (hlen:hs.length<=4096) (zH:nZ n) (fX:∀p∈hs,nZ p.1) (zJ:kU w.params true (Txt.lower n)) (zK:kU w.params true n) (zL:kU w.params false v):
  wpAny (model prog w) A (call (.ref 216) [.ref c, .str n t, .str v t']) (fun r s'=>Tn w.params mg mb X [l] s s'/\∃dh t,r= .str (gZ hs n v).1 t/\s'.heap.PlainList l dh/\ax X s'.heap dh.toList ((gZ hs n v).2.map cR)) E s:=by
 have bg:l∉az:=(hx l pd).1
 refine o7 (E8 w.params) hA.room hx C (fun S=>Oc _ S (.ref c) (.str n t) (.str v t')) (fun y hy=> ?_) ([("name", .str n),("value", .str v)]:VL) (fun y d e=> ?_) fun env fr ab E' O F H we=> ?_
 ·simp only [List.mem_cons,List.not_mem_nil,or_false] at hy
  rcases hy with rfl | rfl | rfl<;>rfl
 ·rw [List.lookup_cons] at e
  by_cases q1:y="name"
  ·subst q1;(obtain rfl:=Option.some.inj e;clear e);exact ⟨_,rfl, .inl (.str _ _)⟩
  ·rw [beq_eq_false_iff_ne.mpr q1] at e
   simp only [List.lookup_cons] at e
   by_cases q2:y="value"
   ·subst q2;(obtain rfl:=Option.some.inj e;clear e);exact ⟨_,rfl, .inl (.str _ _)⟩
   ·rw [beq_eq_false_iff_ne.mpr q2] at e
    exact no e
 ·have bo:Lv 2 (A.deeper env):=hA.deeper env
  have S:=fM (prog:=prog) (w:=w) (mg:=mg) (mb:=mb) bo.ok
  have dT:bU w.params 216=bU w.params 216:=rfl
  conv at dT=>rhs;whnf
  rw [dT]
  clear dT
  generalize aQ:(bj w.params 216 bk).scope=sc at O F
  conv at aQ=>lhs;whnf
  subst aQ
  have jC:=H "self" (.ref c) rfl
  have lM:∀{s':Shared},aA s.heap s'.heap->fe s'.heap c d l:=fun g=>wd hD iY kW g
  have tl:∀{s':Shared},aA s.heap s'.heap->s'.heap.PlainList l vs:=fun g=>dK hl fun o e=>g _ _ bg e
  refine xA (fR (jC.df F.er.cq):) fun n1 n2=> ?_
  have Fc:∀a∈fr,a≠l:=fun a ha q=>O.off a ha (q▸pd)
  -- Oh SS without uL hidden list
  let qL:=X.filter fun a=> !(a==l)
  have Fd:∀a∈qL,a∈X/\a≠l:=fun a ha=>by
   refine xA (List.mem_filter.mp ha:) fun q1 q2=> ?_
   exact ⟨q1,by simpa using q2⟩
  have Oi:∀a∈X,a=l\/a∈qL:=fun a ha=>by
   by_cases q:a=l
   ·exact .inl q
   ·exact .inr (List.mem_filter.mpr ⟨ha,by simpa using q⟩)
  have sub:∀a∈fr++qL,a∈oa []++(fr++X):=fun a ha=>by
   show a∈fr++X
   rcases List.mem_append.mp ha with m | m
   ·exact List.mem_append_left _ m
   ·exact List.mem_append_right _ (Fd a m).1
  have Oj:∀a∈oa []++(fr++X),a=l\/a∈fr++qL:=fun a ha=>by
   have ha:a∈fr++X:=ha
   rcases List.mem_append.mp ha with m | m
   ·exact .inr (List.mem_append_left _ m)
   ·rcases Oi a m with q | q
    ·exact .inl q
    ·exact .inr (List.mem_append_right _ q)
  have Ol:∀{s':Shared},aA s.heap s'.heap->(∀a∈fr,s.heap.get? a=none)->Rep (fr++qL) s'.heap (.ref l) (.list (hs.map cR)):=fun {s'} g hf=>by
   refine xE (tl g:) fun n e=> ?_
   refine Rep.list e rfl rfl rfl rfl bg (fun m=> ?_) (((hr.fresh hf).grow g).more fun a ha=>sub a ha)
   rcases List.mem_append.mp m with m | m
   ·exact Fc l m rfl
   ·exact (Fd l m).2 rfl
  have Fe:∀a∈fr,s.heap.get? a=none:=fun a ha=>F.fresh a (by simpa using ha)
  -- result=self.get(name)
  refine wpAny_execs_cons (wpAny_Assign_Name (th (N2 w.params) rfl rfl rfl (wpAny_Name (eZ F.er.kind jC (aA.refl _) n2 ⟨c,d,l,rfl,F.ctx.dX.keeps fc,lM F.gr, ?_⟩) n1)) rfl)
  refine gO (first:=[.ref c]) rfl (Calls.spliced_cons (((S 6).e F.ctx F.aD F.er (aa rfl rfl)).then (Kp.refl F.ctx) fun v' aq k₂ r=>Calls.spliced_nil ⟨nO (E7 w.params) _ _ (F.kp O k₂).ctx, ?_⟩))
  (refine xE r.str_inv fun t2 bI=> ?_;subst bI)
  have aB:=F.kp O k₂
  refine wpAny_mono (Oa (X:=fr++qL) (l:=l) bo (fun a ha=>aB.aD a (sub a ha)) (aB.ctx.less sub) (lM aB.gr) iY kW (Ol aB.gr Fe) hlen zH fX zJ) (fun rv aS q=> ?_) fun _ _ q=>q
  (refine xA q ?_;clear q;intro bS rr)
  have Om:Kp w.params mg mb (oa []++(fr++X)) aq aS:=Kp.Od aB.ctx bS bg (tl aB.gr) sub Oj (List.mem_append_right _ (List.mem_append_right _ pd))
  have bu:=aB.kp O Om
  have Oo:=(jC.grow k₂.grow).grow bS.grow
  have Oq:Rep (oa []++(fr++X)) aS.heap rv (qK (eR hs n)):=by
   cases hg:eR hs n with
   | none=>rw [hg] at rr;obtain rfl:=rr.none_inv;exact .none
   | some u=>rw [hg] at rr;(refine xE rr.str_inv fun tu bK=> ?_;subst bK);exact .str _ _
  refine bu.o8 O we (d:=qK (eR hs n)) rfl (by decide) Oq fun fG dQ vI=> ?_
  have zI:=vI "self" _ (by decide) Oo
  have Ot:=vI "value" _ (by decide) (((H "value" (.str v t') rfl).grow k₂.grow).grow bS.grow)
  have j5:FS w.params mg mb false none X fr s env _ [] ⟨([("name", .str n),("value", .str v),("result",qK (eR hs n))]:VL),([]:OL),none⟩ fG:=dQ
  clear dQ bu aB
  -- Oh is given back
  have done:∀{sc:Scope} {ag:St} {s':Shared},FS w.params mg mb false none X fr s env sc [] ag s'->Tn w.params mg mb X [l] s s':=fun F'=>by
   refine cN F'.eq fun h' tk e=> ?_
   exact Kp.tn ⟨h',tk,e,by have:=F'.gr;rw [e] at this;exact this,by have:=F'.ctx.less (X:=X) fun _ q=>List.mem_append_right _ (List.mem_append_right _ q);rw [e] at this;exact this⟩
  cases hg:eR hs n with
  | some u=>
   rw [hg] at j5
   refine wpAny_execs_cons (wpAny_If (((S 6).t j5.ctx j5.aD j5.er (b:=false) ?_).then (Kp.refl j5.ctx) fun b c7 fA e=> ?_))
   ·rfl
   subst e
   have cI:=j5.kp O fA
   rw [if_neg (by simp)]
   refine wpAny_execs_cons (wpAny_Return_some (((S 6).e cI.ctx cI.aD cI.er (aa rfl rfl)).then (Kp.refl cI.ctx) fun x ie fW r=> ?_))
   (refine xE r.str_inv fun t6 bO=> ?_;subst bO)
   have dj:=cI.kp O fW
   refine ⟨done dj,vs,t6, ?_,tl dj.gr, ?_⟩
   ·show _=Value.str (gZ hs n v).1 t6
    unfold gZ;rw [hg]
   ·unfold gZ;rw [hg]
    exact hr.grow dj.gr
  | none=>
   rw [hg] at j5
   refine wpAny_execs_cons (wpAny_If (((S 6).t j5.ctx j5.aD j5.er (b:=true) ?_).then (Kp.refl j5.ctx) fun b c7 fA e=> ?_))
   ·rfl
   subst e
   have cI:=j5.kp O fA
   have tj:=zI.grow fA.grow
   rw [if_pos rfl]
   refine wpAny_execs_cons (wpAny_Expr (hi:=u5 cI) (hs:=rfl) ?_)
   refine wpAny_Call_method_lateS rfl rfl rfl (zG rfl (fun _ _=>rfl) (wpAny_Name (eZ cI.er.kind tj (aA.refl _) n2 ⟨c,d,l,rfl,cI.ctx.dX.keeps fc,lM cI.gr, ?_⟩) n1))
   have ij:=cI.kp O (Kp.toks (s:=c7) (tk:=c7.toks+1) cI.ctx)
   refine xE (tl ij.gr:) fun n5 e5=> ?_
   refine ⟨"list",_,PySem.F.plainAttrs_list,PySem.F.slot_list_append,PySem.F.type_list_append,⟨_,e5,rfl⟩,fun b e=>(by cases e;exact ⟨_,e5,rfl⟩), ?_⟩
   refine gO (first:=[.ref l]) rfl (Calls.spliced_cons (Tuple_ (k:=0) (Calls.spliced_cons (E9 (s:={c7 with toks:=c7.toks+1}) (bo.le (by exact Zb Z1 12 [] [])) O ij tj (lM ij.gr) (x:="name") (y:=n) rfl zK rfl fun t6 ie fW=> ?_))))
   have dj:=ij.kp O fW
   have Ou:=tj.grow fW.grow
   refine Calls.spliced_cons (E9 (bo.le (by exact Zb Z1 12 [] [])) O dj Ou (lM dj.gr) (x:="value") (y:=v) rfl zL rfl fun t7 ig mL=>Calls.spliced_nil ?_)
   have fB:=dj.kp O mL
   refine wpAny_newTuple (Calls.spliced_nil ⟨.inl ⟨_,rfl⟩, ?_⟩) (by show (2:Nat)<=sizeLine;rw [sizeLine_eq];exact Zb cA 23 [] [])
   have qH:=Kp.push (s:=ig) fB.ctx {cls:= .type "tuple",data:= .seq #[.str n t6, .str v t7]} (tk:=ig.toks)
   have d9:=fB.kp O qH
   have Ov:ig.heap.objs.size∉oa []++(fr++X):=fun m=>fB.mz get_none m
   have rt:Rep (oa []++(fr++X)) _ (.ref ig.heap.objs.size) (cR (n,v)):=Rep.tuple (Heap.get?_push_size ig.heap (o:={cls:= .type "tuple",data:= .seq #[.str n t6, .str v t7]}) rfl) rfl rfl (fQ fB.ctx) Ov (.cons (.str _ _) (.cons (.str _ _) .nil))
   have Ow:=tl d9.gr
   have bQ:vs.size=hs.length:=by
    have:=hr.length
    rw [Array.length_toList,List.length_map] at this;exact this
   refine wpAny_list_append_plain Ow (fun h' eN bR=> ?_) (by rw [sizeLine_eq];exact m4 bQ hlen)
   have Ox:Tn w.params mg mb X [l] _ {ig with heap:=h'}:=(done d9).trans (Tn.one (d9.ctx.less fun _ q=>List.mem_append_right _ (List.mem_append_right _ q)) bR.extBut pd bg)
   have Oy:=(((Ot.grow fA.grow).grow fW.grow).grow mL.grow).grow qH.grow
   have zM:env.locals≠l:=Fc _ O.loc
   have Ff:bq h' env "value" (.str v t'):=by
    cases Oy with
    | loc bY n ns hv=>exact .loc bY n (ns.sameBut bR zM) hv
    | cell bY hc n hv=>rw [we] at hc;exact no hc
   refine xA (fR (Ff.df d9.er.cq):) fun m1 m2=> ?_
   refine wpAny_execs_cons (wpAny_Return_some (wpAny_Name (eZ (s:={ig with heap:=h'}) d9.er.kind Ff (aA.refl _) m2 ?_) m1))
   have e1:gZ hs n v=(v,hs++[(n,v)]):=by unfold gZ;rw [hg]
   rw [e1]
   refine ⟨Ox,_,t',rfl,eN, ?_⟩
   rw [Array.toList_push,List.map_append]
   have kk:∀b o,(ba (oa []++(fr++X)) (ig.heap.push {cls:= .type "tuple",data:= .seq #[.str n t6, .str v t7]})).get? b=some o->(ba (oa []++(fr++X)) h').get? b=some o:=iw fun b o _ m e=>bR.extBut b o (fun q=>m (q▸List.mem_append_right _ (List.mem_append_right _ pd))) e
   refine ((((hr.fresh Fe).grow d9.gr).append (.cons rt .nil)).keeps kk).more fun a ha=>List.mem_append_right _ (List.mem_append_right _ ha)
end
section
variable {prog:Program} {w:World} {mg mb:Str->Option Value}
variable {A:Around} {X:List Addr} {s:Shared} {env:Env}
theorem Oz {o:Value} {p q:Option (Int × Tok)} {a:Addr} {xs:List PyData} {E:Value->Shared->Prop} (hx:aN X s.heap) (C:Ctx w.params mg mb X s.heap) (ro:Rep X s.heap o (.list xs)) (hs:s.heap.IsSlice a p q none) (bQ:xs.length<=4096):
  wpAny (model prog w) A (getItem o (.ref a)) (fun v s'=>Kp w.params mg mb X s s'/\Rep X s'.heap v (.list (jk xs (p.map (·.1)) (q.map (·.1))))/\∃a,v= .ref a/\s.heap.get? a=none) E s:=by
 (refine cT ro.dY fun x ox vx nx ay t1 m1 e1 c1 d1 r1=> ?_;subst ay)
 have hlen:=r1.length
 rw [Array.length_toList] at hlen
 have hp:=uC p
 have hq:=uC q
 refine wpAny_getItem_list_slice (st:=none) ⟨_,e1,c1,_,d1⟩ hs hp hq .none (by simp) ⟨Kp.newObj C _,Rep.new hx C ?_,_,rfl,get_none⟩ (by rw [sizeLine_eq];exact m4 hlen bQ)
 rw [B9]
 exact B8 r1 _ _
theorem OA {value:Expr} {p pos:Pos} {ds:List PyData} {E:Value->Shared->Prop} {Q:Value->Shared->Prop} (hl:ds.length<=4096)
  (h:wpAny (model prog w) A (eval value env) (fun o ab=>aN X ab.heap/\Ctx w.params mg mb X ab.heap/\Rep X ab.heap o (.list ds)/\∀v aq,Kp w.params mg mb X ab aq->Rep X aq.heap v (.list ds)->(∃a,v= .ref a/\ab.heap.get? a=none)->Q v aq) E s):
  wpAny (model prog w) A (eval (.Subscript value (.Slice none none none p) pos) env) Q E s:=by
 rw [eval_Subscript]
 refine wpAny_bind (wpAny_mono h (fun o ab bf=> ?_) fun _ _ x=>x)
 (refine fm bf ?_;clear bf;intro hx C r hQ)
 refine wpAny_bind (wpAny_holding (wpAny_Slice ?_))
 rw [evalPart_none]
 refine wpAny_pure (wpAny_pure (wpAny_pure ?_))
 have g:∀b o,ab.heap.get? b=some o->(ab.heap.push {cls:= .type "slice",data:= .fields #[.none, .none, .none]}).get? b=some o:=fun _ _ e=>Heap.get?_push_of_some _ e
 have C':=C.keeps g
 have r':=r.grow (aA.of g)
 (refine cT r'.dY fun a oo vs n aF t1 m1 e1 c1 d1 r1=> ?_;subst aF)
 have ty:Shared.TypeIs {ab with heap:=ab.heap.push {cls:= .type "slice",data:= .fields #[.none, .none, .none]}} (.ref a) "list":=⟨oo,e1,c1⟩
 have iE:jk ds none none=ds:=by
  rw [zh]
  simp
 have fin:wpAny (model prog w) A (operate [.ref ab.heap.objs.size, .ref a] (getItem (.ref a) (.ref ab.heap.objs.size))) (fun r aS=>wpAny (model prog w) A (letTemporaryGo value (.ref a) r >>= fun _=>pure r) Q E aS) E {ab with heap:=ab.heap.push {cls:= .type "slice",data:= .fields #[.none, .none, .none]}}:=by
  refine wpAny_operating (wpAny_mono (Oz (s:={ab with heap:=ab.heap.push {cls:= .type "slice",data:= .fields #[.none, .none, .none]}}) (p:=none) (q:=none) (hx.grow (aA.of g)) C' r' ⟨_,Heap.get?_push_size _ rfl,rfl,rfl⟩ hl) (fun v s' h=> ?_) fun _ _ x=>x)
  (refine tW h ?_;clear h;intro h1 h2 a' e1 h3)
  have h2:Rep X s'.heap v (.list (jk ds none none)):=h2
  rw [iE] at h2
  refine wpAny_bind (wpAny_letTemporaryGo (wpAny_pure (hQ _ _ (Kp.trans ⟨_,ab.toks,rfl,aA.of g,C'⟩ h1) h2 ⟨a',e1, ?_⟩)))
  cases q:ab.heap.get? a' with
  | none=>rfl
  | some o=>
   have h4:=g a' o q
   have h3:(ab.heap.push {cls:= .type "slice",data:= .fields #[.none, .none, .none]}).get? a'=none:=h3
   rw [h4] at h3;cases h3
 refine wpAny_bind (wpAny_standAt ?_)
 refine wpAny_bind ?_
 rw [getitemInPython_of_ne ty.not_modules]
 refine wpAny_bind (wpAny_specialOf ty list_getitem_lookup ?_)
 exact wpAny_pure (wpAny_bind fin)
end
theorem Fg (P:Params):lK P 190 (bj P 190 bk) (bU P 190):=⟨⟨_,rfl,rfl⟩,by decide,rfl,rfl,rfl,rfl,rfl,rfl,rfl,⟨_,_,_,_,rfl,rfl,rfl,rfl⟩,rfl⟩
theorem OB (P:Params) (S:Setting) (va:Value):peek (KI P) S (bindArgs (bj P 190 bk) ⟨[va],[]⟩)=some ([("self",va)]:List (Str × Value)):=by kernel_rfl
section
variable {prog:Program} {w:World} {mg mb:Str->Option Value}
variable {A:Around} {X:List Addr} {s:Shared}
theorem OC {c d l:Addr} {ds:List PyData} {E:Value->Shared->Prop} (hA:Lv 1 A) (hx:aN X s.heap) (C:Ctx w.params mg mb X s.heap) (hD:fe s.heap c d l) (iY:c∉az) (kW:d∉az) (hl:Rep X s.heap (.ref l) (.list ds)) (hlen:ds.length<=4096):
  wpAny (model prog w) A (call (.ref 190) [.ref c]) (fun v s'=>Kp w.params mg mb X s s'/\Rep X s'.heap v (.list ds)/\∃a,v= .ref a/\s.heap.get? a=none) E s:=by
 refine o7 (Fg w.params) hA.room hx C (fun S=>OB _ S (.ref c)) (fun y hy=> ?_) ([]:VL) (fun y d e=>(nomatch e)) fun env fr ab E' O F H aM=> ?_
 ·simp only [List.mem_cons,List.not_mem_nil,or_false] at hy
  rcases hy with rfl;rfl
 ·have dT:bU w.params 190=bU w.params 190:=rfl
  conv at dT=>rhs;whnf
  rw [dT]
  clear dT
  generalize aQ:(bj w.params 190 bk).scope=sc at O F
  conv at aQ=>lhs;whnf
  subst aQ
  have jC:=H "self" (.ref c) rfl
  have lM:∀{s':Shared},aA s.heap s'.heap->fe s'.heap c d l:=fun g=>wd hD iY kW g
  refine xA (fR (jC.df F.er.cq):) fun n1 n2=> ?_
  refine wpAny_execs_cons (wpAny_Return_some (OA (mg:=mg) (mb:=mb) (X:=oa []++(fr++X)) hlen (zG rfl (fun _ _=>rfl) (wpAny_Name (eZ F.er.kind jC (aA.refl _) n2 ⟨c,d,l,rfl,F.ctx.dX.keeps fc,lM F.gr, ?_⟩) n1))))
  have F':=F.kp O (Kp.toks (s:=ab) (tk:=ab.toks+1) F.ctx)
  refine ⟨F'.aD,F'.ctx, ?_,fun v aq k r Fh=> ?_⟩
  ·exact (hl.fresh (by intro a ha;exact F.fresh a (by simpa using ha))).grow F'.gr
  ·have aB:=F'.kp O k
   refine cN aB.eq fun h' tk e=> ?_
   refine ⟨⟨h',tk,e,by have:=aB.gr;rw [e] at this;exact this,by have:=aB.ctx.less (X:=X) fun _ q=>List.mem_append_right _ (List.mem_append_right _ q);rw [e] at this;exact this⟩,r.more fun _ q=>List.mem_append_right _ (List.mem_append_right _ q), ?_⟩
   (refine aj Fh ?_;clear Fh;intro a e1 e2)
   refine ⟨a,e1, ?_⟩
   refine pD r.dY fun a' o' dh n' q1 t' m' _=> ?_
   rw [e1] at q1;cases q1
   cases q:s.heap.get? a with
   | none=>rfl
   | some o=>have:=F'.gr a o t' q;rw [e2] at this;exact no this
end
section
set_option backward.match.sparseCases true
section
variable {prog:Program} {w:World} {mg mb:Str->Option Value}
variable {A:Around} {X:List Addr} {s:Shared} {a:Addr} {fd:FuncData} {body:List Stmt} {binds:List (Str × Value)}
theorem OD {h:Heap} {dx l:Addr} {t:Tok} {hs:Int} {n:Nat} (e:h.get? dx=some (dictOf [⟨hs, .str "_headers" t, .ref l⟩] n)):h.Ns dx (fun x=>if x=("_headers":Str) then some (.ref l) else none):=by
 refine ⟨_,_,_,e,rfl,fun en rC=> ?_,fun name=> ?_⟩
 ·have:en∈[(⟨hs, .str "_headers" t, .ref l⟩:DictEntry)]:=by simpa using rC
  rw [List.mem_singleton.mp this];exact ⟨_,_,rfl⟩
 ·unfold nsFind findBy
  rw [List.find?_toArray,List.find?_cons]
  have e1:Value.isStr (.str "_headers" t) name=decide (name="_headers"):=by
   show (("_headers":Str)==name)=_
   by_cases q:name="_headers"
   ·rw [q];simp
   ·rw [decide_eq_false q,beq_eq_false_iff_ne];exact fun e=>q e.symm
  simp only [e1]
  by_cases q:name="_headers"
  ·simp [q]
  ·simp [q]
theorem OE (P:Params):findIn (KI P) (.ref 226) "__setattr__"=some (some (.builtin "object.__setattr__")):=by kernel_rfl
theorem OF (P:Params):plainOver (KI P) 226=true:=by kernel_rfl
theorem OG (P:Params):takerIn (KI P) 226 "_headers"=some none:=by kernel_rfl
theorem OH (P:Params):(clsIn (KI P) 226).any (·.hasDict)=true:=by kernel_rfl
theorem OI {x dx l:Addr} {Q:Unit->Shared->Prop} {E:Value->Shared->Prop} (C:Ctx w.params mg mb X s.heap) (hx:s.heap.get? x=some (instObj 226 dx)) (hd:s.heap.get? dx=some (dictOf [] 0)) (hX:dx∈X) (ht:dx∉az)
  (h:∀s',Tn w.params mg mb X [dx] s s'->fe s'.heap x dx l->Q () s'):wpAny (model prog w) A (setAttr (.ref x) "_headers" (.ref l)) Q E s:=by
 have K:(KI w.params).In s.heap:=C.dX.keeps fc
 refine aj C.nl fun m hm SU=> ?_
 have I:InstAt s.heap x (instObj 226 dx) 226 (some (dictOf [] 0)):=⟨hx,rfl,rfl,hd⟩
 have raw:∀{L:Addr} {m:Str->Option Value},s.heap.Ns L m->dx≠L->wpAny (model prog w) A (setAttr (.ref x) "_headers" (.ref l)) (fun _ s'=>∃h',s'={s with heap:=h',toks:=s.toks+1+1}/\(∀b o,b≠L->b≠dx->s.heap.get? b=some o->h'.get? b=some o)/\h'.get? dx=some (dictOf [⟨PyData.keyHash w.params "_headers", .str "_headers" (s.toks+1), .ref l⟩] 1)) E s:=fun {L m} hm h2=>by
  have N:News o5 L s.heap ([]++(dx,dictOf [] 0)::(qm L s.heap).filter fun p=> !(p.1==dx)):=fun q hq=>by
   rcases List.mem_cons.mp hq with q' | q'
   ·subst q';exact ⟨hd,h2,vj _⟩
   ·obtain ⟨a,o⟩:=q
    refine xA (sx.mp (List.mem_filter.mp q').1:) fun n e=> ?_
    exact ⟨e,n,vj _⟩
  refine set_plain K I (OE _) (osa_dict (s:={s with toks:=s.toks+1}) (od':=dictOf [⟨PyData.keyHash w.params "_headers", .str "_headers" (s.toks+1), .ref l⟩] 1) (es:=[⟨PyData.keyHash w.params "_headers", .str "_headers" (s.toks+1), .ref l⟩]) (n:=1) (DF hm) N K I rfl (OF _) (OG _) (OH _) rfl (fun _ q=>(nomatch q)) (fun p hp=> ?_) (putName_dict _ _ _ _ _ _) rfl (by simp) fun h' F' N'=> ?_)
  ·have:=(List.mem_filter.mp hp).2
   simpa using this
  ·exact ⟨h',rfl,fun b o n1 n2 e=>(N' (b,o) (.tail _ (List.mem_filter.mpr ⟨sx.mpr ⟨n1,e⟩,by simpa using n2⟩))).1,(N' _ (.head _)).1⟩
 have d2:dx≠2:=fun q=>ht (by rw [q];decide)
 have d3:dx≠mainGlobals:=fun q=>by
  obtain ⟨o3,e3⟩:∃o,(KI w.params).lookup mainGlobals=some o:=⟨_,rfl⟩
  have:=(dI (C.dX _ _ e3)).2.2
  exact this (q▸hX)
 refine wpAny_mono (Bt (raw hm d2) (raw (C.g.keeps fc) d3)) (fun u s' q=> ?_) fun _ _ q=>q.1
 obtain ⟨⟨h',rfl,old,new⟩,yF,q2,OJ,_⟩:=q
 have e2:h'=yF:=congrArg Shared.heap q2
 subst e2
 have kk:∀b o,(ba X s.heap).get? b=some o->(ba X h').get? b=some o:=iw fun b o n m e=>old b o (fun q=>n (by rw [q];decide)) (fun q=>m (q▸hX)) e
 have tb:∀{T q},T≠2->T∈az->fy X s.heap T q->fy X h' T q:=fun {T q} n hT t=>t.keeps kk fun o e=>old _ _ n (fun q=>ht (q▸hT)) e
 have C':Ctx w.params mg mb X h':=C.step kk (tb (by decide) (by decide) C.t1) (tb (by decide) (by decide) C.t2) (OJ _ _ (by decide) (Ne.symm d2) C.l2)
 have OK:x≠dx:=fun q=>by rw [q,hd] at hx;cases hx
 refine h _ ⟨h',_,rfl,fun b o n m e=>old b o (fun q=>n (by rw [q];decide)) (fun q=>m (by rw [q];exact .head _)) e,C'⟩ ⟨⟨_,old x _ (fun q=> ?_) OK hx,rfl,rfl,rfl⟩,OD new⟩
 (refine pF hm ?_;clear hm;intro o es ep e gP _)
 rw [<- q,hx] at e
 (obtain rfl:=Option.some.inj e;clear e);cases gP
end
end
theorem OM (P:Params) (S:Setting) (va vx:Value):peek (KI P) S (bindArgs (bj P 118 bk) ⟨[va,vx],[]⟩)=some ([("self",va),("headers",vx)]:List (Str × Value)):=by kernel_rfl
section
variable {prog:Program} {w:World} {mg mb:Str->Option Value}
variable {A:Around} {X:List Addr} {s:Shared}
theorem ON {env:Env} {bz it:Expr} {body:List Stmt} {pos:Pos} {E:Value->Shared->Prop} {Q:Flow->Shared->Prop} (hA:cG A) (qJ:∀x,foldedSetIterable it env x=pure x)
  (h:wpAny (model prog w) A (eval it env) (fun v ab=>aN X ab.heap/\Ctx w.params mg mb X ab.heap/\Rep X ab.heap v (.list [])/\∀aq,Kp w.params mg mb X ab aq->Q .next aq) E s):
  wpAny (model prog w) A (exec (.For bz it body [] pos) env) Q E s:=by
 refine wpAny_For (wpAny_mono h (fun v ab bf=> ?_) fun _ _ e=>e) qJ
 (refine fm bf ?_;clear bf;intro hx C r hQ)
 refine rU hA hx C (.list r) fun aq k₂ hn mr mu WW bQ=> ?_
 refine aj (WW [] (fun _ q=>nomatch q):) fun Si W si=> ?_
 refine codeAny_forLoop_any (fun _ s=>s=aq) (fun k s hs=> ?_) 0 rfl
 subst hs
 refine W.done s _ _ si mu fun aS T=>wpAny_execs_nil ?_
 refine hQ aS ?_
 (refine aU k₂ ?_;clear k₂;intro bH SV ay nq c₂;subst ay)
 (refine aU T ?_;clear T;intro uu Fi aF zN zO;subst aF)
 exact ⟨uu,Fi,rfl,fun b o n e=>zN b o n (fun q=>by rw [List.mem_singleton.mp q,hn] at e;exact no e) (nq b o n e),zO.less fun _ q=> .tail _ q⟩
theorem Tn.of {W:List Addr} {s s':Shared} (C:Ctx w.params mg mb X s'.heap) (sh:∃h tk,s'={s with heap:=h,toks:=tk}) (g:∀b o,b∉az->b∉W->s.heap.get? b=some o->s'.heap.get? b=some o):Tn w.params mg mb X W s s':=by
 (refine cN sh ?_;clear sh;intro h tk aP;subst aP)
 exact ⟨h,tk,rfl,g,C⟩
theorem OO {x dx l:Addr} {R:Result->Shared->Prop} (hA:Lv 1 A) (hx:aN X s.heap) (C:Ctx w.params mg mb X s.heap) (OP:s.heap.get? x=some (instObj 226 dx)) (OQ:s.heap.get? dx=some (dictOf [] 0)) (OR:x∈X) (wg:dx∈X) (hl:Rep X s.heap (.ref l) (.list []))
  (h:∀s',Tn w.params mg mb X [dx] s s'->fe s'.heap x dx l->R (.ok (.ret .none)) s'):
  codeAny (model prog w) A (.call (.ref 118) ⟨[.ref x, .ref l],[]⟩) R s:=by
 have K:(KI w.params).In s.heap:=C.dX.keeps fc
 refine aj C.nl fun mc oU oV=> ?_
 obtain ⟨o,ho,hd⟩:∃o,(KI w.params).lookup 118=some o/\o.data= .func (bj w.params 118 bk):=⟨_,rfl,rfl⟩
 obtain ⟨c,oc,vc,t,hc,ky,o1,o4⟩:∃c o vs t,(bj w.params 118 bk).code= .ref c/\(KI w.params).lookup c=some o/\o.data= .fields vs/\vs[1]? =some (.str (bj w.params 118 bk).qualname t):=⟨_,_,_,_,rfl,rfl,rfl,rfl⟩
 have OS:(bj w.params 118 bk).body= .stmts (bU w.params 118):=rfl
 refine codeAny_call_def hA.room (K _ _ ho) hd ⟨mc,oU,oV⟩ ⟨c,oc,vc,t,hc,K _ _ ky,o1,o4⟩ OS (kp_binds K fun S=>OM _ S (.ref x) (.ref l)) (fun y hy e=> ?_) (fun y hy=> ?_) (fun bf bX keep=> ?_) rfl rfl rfl
 ·obtain ⟨y,k⟩:=y
  simp only at e
  subst e
  have:((bj w.params 118 bk).scope.names.all fun p=> !(p.2== .cell))=true:=by rfl
  have:=List.all_eq_true.mp this _ hy
  simp at this
 ·simp only [List.mem_cons,List.not_mem_nil,or_false] at hy
  rcases hy with rfl | rfl<;>rfl
 ·generalize pe:({s with heap:=bf,toks:=s.toks+[("self",Value.ref x),("headers",Value.ref l)].length}:Shared)=ab
  have e1:ab.heap=bf:=by rw [<- pe]
  have Fj:∃h tk,ab={s with heap:=h,toks:=tk}:=⟨_,_,pe.symm⟩
  clear pe
  subst e1
  have ht:s.heap.objs.size∉az:=fQ C
  have hn:s.heap.get? s.heap.objs.size=none:=get_none
  have hL:(callEnv (bj w.params 118 bk) s.heap.objs.size 118).locals=s.heap.objs.size:=rfl
  have zP:(callEnv (bj w.params 118 bk) s.heap.objs.size 118).scope.kind= .function:=rfl
  have k1:(callEnv (bj w.params 118 bk) s.heap.objs.size 118).kindOf "self"=some .local:=rfl
  have k2:(callEnv (bj w.params 118 bk) s.heap.objs.size 118).kindOf "headers"=some .local:=rfl
  have k3:(callEnv (bj w.params 118 bk) s.heap.objs.size 118).kindOf "type"=some .globalImplicit:=rfl
  have k4:(callEnv (bj w.params 118 bk) s.heap.objs.size 118).kindOf "list"=some .globalImplicit:=rfl
  have OT:(callEnv (bj w.params 118 bk) s.heap.objs.size 118).globals=mainGlobals:=rfl
  have OU:(callEnv (bj w.params 118 bk) s.heap.objs.size 118).builtins=builtinsNs:=rfl
  have bo:Lv 0 (A.deeper (callEnv (bj w.params 118 bk) s.heap.objs.size 118)):=hA.deeper _
  have dT:bU w.params 118=bU w.params 118:=rfl
  conv at dT=>rhs;whnf
  rw [dT]
  clear dT
  have jj:∀e,swapsWith (.IfExp e e e ⟨0,0,0,0⟩) none 0 (callEnv (bj w.params 118 bk) s.heap.objs.size 118)=pure false\/True:=fun _=> .inr trivial
  generalize callEnv (bj w.params 118 bk) s.heap.objs.size 118=env at*
  have pd:s.heap.objs.size∉X:=fun m=>by refine bV (hx _ m:) fun _ o e=> ?_;rw [hn] at e;exact no e
  have d6:Ctx w.params mg mb (s.heap.objs.size::X) ab.heap:=(C.fresh (N:=[s.heap.objs.size]) fun a ha=>by rw [List.mem_singleton.mp ha];exact hn).keeps keep
  have nm:∀{s':Shared} {p:Pos} {Q:Value->Shared->Prop} {E:Value->Shared->Prop} {y:Str} {v:Value},(y==("__debug__":Str))=false->(y==("__classdict__":Str))=false->bq s'.heap env y v->Q v s'->wpAny (model prog w) (A.deeper env) (eval (.Name y p) env) Q E s':=fun n1 n2 H q=>wpAny_Name (eZ zP H (aA.refl _) n2 q) n1
  have gn:∀{s':Shared} {p:Pos} {Q:Value->Shared->Prop} {E:Value->Shared->Prop} {y:Str} {v:Value},env.kindOf y=some .globalImplicit->(y==("__debug__":Str))=false->Ctx w.params mg mb (s.heap.objs.size::X) s'.heap->(∀h,Ctx w.params mg mb (s.heap.objs.size::X) h->jo mg mb y v)->Q v s'->wpAny (model prog w) (A.deeper env) (eval (.Name y p) env) Q E s':=fun {s'} {_ _ _ _ _} k n1 C G q=>by
   refine Name_function_global zP k ?_ n1
   have h1:s'.heap.Ns env.globals mg:=by rw [OT];exact C.g.keeps fc
   have h2:s'.heap.Ns env.builtins mb:=by rw [OU];exact C.b.keeps fc
   rcases G _ C with g | ⟨g1,g2⟩
   ·exact loadGlobal_global h1 g q
   ·exact loadGlobal_builtin h1 g1 h2 g2 q
  rw [<- hL] at bX
  have Hh:bq ab.heap env "headers" (.ref l):= .loc k2 (by rw [hL];exact ht) bX rfl
  have Hs:bq ab.heap env "self" (.ref x):= .loc k1 (by rw [hL];exact ht) bX rfl
  -- headers=headers if headers is not SW else []
  refine wpAny_execs_cons (wpAny_Assign_Name (wpAny_IfExp (wpAny_isTrue_Compare1 (nm (by decide) (by decide) Hh (wpAny_Constant_none (wpAny_isNot_plain rfl (wpAny_truthy_bool ?_)))) rfl)) rfl)
  rw [if_pos (show (!Value.ref l==Value.none)=true from rfl)]
  refine nm (by decide) (by decide) Hh (wpAny_storeName_local k2 bX (fun bH tm pV=> ?_) (by rw [zP];rfl))
  rw [hL] at pV
  have kr:Tn w.params mg mb (s.heap.objs.size::X) [s.heap.objs.size] ab {ab with heap:=bH,toks:=ab.toks+1}:=Tn.one d6 pV.extBut (.head _) ht
  have ku:=kr.ctx
  have Fk:bq bH env "headers" (.ref l):= .loc k2 (by rw [hL];exact ht) tm (by simp)
  have OV:bq bH env "self" (.ref x):= .loc k1 (by rw [hL];exact ht) tm rfl
  have tv:∀b o,s.heap.get? b=some o->bH.get? b=some o:=fun b o e=>pV.extBut b o (fun q=>by rw [q,hn] at e;exact no e) (keep b o e)
  -- type(headers) is not list
  refine wpAny_execs_cons (wpAny_If (wpAny_isTrue_Compare1 (wpAny_Call_Name_kw (gn (s':={ab with heap:=bH,toks:=ab.toks+1}) k3 (by decide) ku (fun h C=>kz C rfl (by decide) rfl) ?_)) rfl))
  refine gO (first:=[]) rfl (Calls.spliced_cons (nm (s':={ab with heap:=bH,toks:=ab.toks+1}) (by decide) (by decide) Fk (Calls.spliced_nil ⟨.inr (.inl ⟨_,rfl⟩), ?_⟩)))
  have rl:Rep (s.heap.objs.size::X) bH (.ref l) (.list []):=(hl.fresh (N:=[s.heap.objs.size]) fun a ha=>by rw [List.mem_singleton.mp ha];exact hn).grow (aA.of tv)
  refine cT rl.dY fun SX yt NA SY OW Fi S0 zN zO S3 EG=> ?_
  cases OW
  refine call_type_of (Tx:="list") ⟨yt,zN,zO⟩ rfl ?_
  refine gn k4 (by decide) ku (fun h C=>kz C rfl (by decide) rfl) ?_
  refine wpAny_isNot_plain rfl (wpAny_truthy_bool ?_)
  rw [if_neg (by decide)]
  refine wpAny_execs_nil ?_
  -- self._headers=headers
  have OX:=(hx x OR).1
  have kW:=(hx dx wg).1
  refine wpAny_execs_cons (plainObj_wpAny_Assign_Attribute (nm (s':={ab with heap:=bH,toks:=ab.toks+1}) (by decide) (by decide) Fk (nm (s':={ab with heap:=bH,toks:=ab.toks+1}) (by decide) (by decide) OV (OI (s:={ab with heap:=bH,toks:=ab.toks+1}) ku (tv _ _ OP) (tv _ _ OQ) (.tail _ wg) kW fun c7 pf Fl=> ?_))) rfl)
  have zM:env.locals≠dx:=fun q=>pd (by rw [<- hL,q];exact wg)
  have OY:bq c7.heap env "headers" (.ref l):= .loc k2 (by rw [hL];exact ht) (lI tm fun o e=>pf.get (by rw [hL];exact ht) (by simpa using zM) e) (by simp)
  have x5:aN (s.heap.objs.size::X) c7.heap:=pf.aD (fun a ha=>by
   rcases List.mem_cons.mp ha with q | q
   ·rw [q]
    (refine lg tm ?_;clear tm;intro o _ _ e _)
    exact ⟨ht,o,by rw [hL] at e;exact e⟩
   ·refine bV (hx a q:) fun n o e=> ?_
    exact ⟨n,o,tv _ _ e⟩) fun b hb=>by
   rw [List.mem_singleton.mp hb]
   obtain ⟨_,o,_,_,e,_⟩:=Fl
   exact ⟨_,e⟩
  have r5:Rep (s.heap.objs.size::X) c7.heap (.ref l) (.list []):=pf.rep (fun a ha=>by rw [List.mem_singleton.mp ha];exact .tail _ wg) rl
  refine wpAny_execs_cons (wpAny_If (isTrue_plain (wpAny_Constant_bool (wpAny_truthy_bool ?_)) rfl))
  rw [if_pos rfl]
  refine wpAny_execs_cons (ON (X:=s.heap.objs.size::X) bo.ok (fun _=>rfl) (nm (by decide) (by decide) OY ⟨x5,pf.ctx,r5,fun ie fW=> ?_⟩))
  refine wpAny_execs_nil (wpAny_execs_nil (h ie (Tn.of (fW.ctx.less fun _ q=> .tail _ q) ?_ fun b o n m e=> ?_) ?_))
  ·(refine cN Fj ?_;clear Fj;intro h1 t1 bI;subst bI)
   (refine dq pf ?_;clear pf;intro h5 t5 bK _;subst bK)
   (refine cN fW.shape fun h6 t6 bO=> ?_;subst bO)
   exact ⟨_,_,rfl⟩
  ·exact fW.grow b o n (pf.get n m (tv b o e))
  ·exact wd Fl OX kW fW.grow
end
section
variable {P:Params} {mg mb:Str->Option Value} {lm:Bool} {cd:Option (Addr × Addr)} {af fr N:List Addr} {ae s s':Shared} {env:Env} {sc:Scope} {own:List (Str × Addr)} {st:St}
theorem zQ {o f x N:List Addr} {a:Addr}:a∈o++(f++(N++x))↔a∈N++(o++(f++x)):=by
 simp only [List.mem_append]
 constructor
 ·rintro (h | h | h | h)
  ·exact .inr (.inl h)
  ·exact .inr (.inr (.inl h))
  ·exact .inl h
  ·exact .inr (.inr (.inr h))
 ·rintro (h | h | h | h)
  ·exact .inr (.inr (.inl h))
  ·exact .inl h
  ·exact .inr (.inl h)
  ·exact .inr (.inr (.inr h))
theorem FS.zR (F:FS P mg mb lm none af fr ae env sc own st s) (O:aX none fr af env sc) (bD:st.h=none) (hI:∀I∈N,s.heap.get? I=none) (k:∃h tk,s'={s with heap:=h,toks:=tk}) (g:aA s.heap s'.heap) (C:Ctx P mg mb (N++(oa own++(fr++af))) s'.heap) (xi:aN (N++(oa own++(fr++af))) s'.heap):
  FS P mg mb lm cd (N++af) fr ae env sc own st s':=by
 have G:=F.go O k g (C.less fun _ h=>List.mem_append_right _ h)
 have up:∀b o,(ba (oa own++(fr++af)) s.heap).get? b=some o->(ba (oa own++(fr++(N++af))) s'.heap).get? b=some o:=fun b o e=>by
  refine bG (dI e:) fun q1 q2 q3=> ?_
  refine gc (g b o q2 q1) q2 fun m=> ?_
  rcases List.mem_append.mp (zQ.mp m) with q | q
  ·rw [hI b q] at q1;exact no q1
  ·exact q3 q
 refine ⟨G.eq,G.gr,C.less fun _ h=>zQ.mp h,fun a ha=>xi a (zQ.mp ha),G.fresh,G.ns,G.cells, ?_,fun x ds e=> ?_,G.hW,fun a ha m=> ?_,G.pl,fun ds e=> ?_⟩
 ·have R:=G.er
  refine ⟨R.kind,R.gl,R.bi,R.glob,R.loc,R.cell,fun x d e=> ?_,R.cq,R.eY,R.lam⟩
  refine aj (F.er.vals x d e:) fun v h1 h2=> ?_
  exact ⟨v,h1.grow g,h2.keeps up⟩
 ·refine ew (F.ow x ds e:) fun a vs h1 h2 h3 h4=> ?_
  exact ⟨a,vs,h1,h2.grow g,dK h3 fun o e=>g _ _ (F.aD a (List.mem_append_left _ (cZ h1))).1 e,h4.keeps up⟩
 ·rcases List.mem_append.mp m with m | m
  ·exact F.dB a ha (List.mem_append_left _ m)
  ·rcases List.mem_append.mp m with q | q
   ·exact F.mz (hI a q) (List.mem_append_left _ ha)
   ·exact F.dB a ha (List.mem_append_right _ q)
 ·rw [bD] at e;exact no e
theorem aX.zR {c d:Addr} (O:aX none fr af env sc) (h:∀I∈[c,d],I∉fr):aX (some (c,d)) fr ([c,d]++af) env sc:=
 ⟨O.scope,O.loc,O.nB,O.eg,O.sf,fun a ha m=>by
  rcases List.mem_append.mp m with q | q
  ·exact h a q ha
  ·exact O.off a ha q,fun c' d' e=>by cases e;exact ⟨.head _, .tail _ (.head _)⟩⟩
theorem FS.rename {l:Addr} {y:Str} (F:FS P mg mb lm cd af fr ae env sc ((y,l)::own) st s) (h1:st.o y=none) (h2:st.o cY=none) (bD:st.h=none):FS P mg mb lm cd af fr ae env sc ((cY,l)::own) st s:=by
 refine ⟨F.eq,F.gr,F.ctx,F.aD,F.fresh,F.ns,F.cells,F.er,fun x ds e=> ?_, ?_,F.dB,fun p hp=> ?_,fun ds e=> ?_⟩
 ·refine dq (F.ow x ds e:) fun a vs g1 g2=> ?_
  refine ⟨a,vs, ?_,g2⟩
  have q1:x≠y:=fun q=>by rw [q,h1] at e;exact no e
  have q2:x≠cY:=fun q=>by rw [q,h2] at e;exact no e
  rw [List.lookup_cons,beq_eq_false_iff_ne.mpr q1] at g1
  rw [List.lookup_cons,beq_eq_false_iff_ne.mpr q2]
  exact g1
 ·have:=F.hW
  rw [List.pairwise_cons] at this ⊢
  exact this
 ·rcases List.mem_cons.mp hp with q | q
  ·rw [q];exact F.pl (y,l) (.head _)
  ·exact F.pl p (.tail _ q)
 ·rw [bD] at e;exact no e
end
section
variable {prog:Program} {w:World} {mg mb:Str->Option Value}
variable {A:Around} {lm:Bool} {cd:Option (Addr × Addr)} {af fr:List Addr} {ae s s':Shared} {env:Env} {sc:Scope} {own:List (Str × Addr)} {st:St}
theorem FS.OZ {c d l:Addr} {vs:Array Value} {ds:List PyData} {E:Value->Shared->Prop} {Q:Unit->Shared->Prop} (F:FS w.params mg mb lm (some (c,d)) af fr ae env sc own st s) (O:aX (some (c,d)) fr af env sc) (bD:st.h=none) (hx:iW sc ef=true) (hv:st.v ef=none) (ho:st.o ef=none)
  (hD:fe s.heap c d l) (hl:own.lookup cY=some l) (hp:s.heap.PlainList l vs) (hr:ax (oa own++(fr++af)) s.heap vs.toList ds)
  (h:∀s',FS w.params mg mb lm (some (c,d)) af fr ae env sc own {st with h:=some ds} s'->Q () s'):wpAny (model prog w) A (storeName env ef (.ref c)) Q E s:=by
 have hk:=F.er.kind
 have eh:env.kindOf ef=some .local:=F.er.loc _ hx
 have jQ:∀y a,env.cells.lookup y=some a->a≠env.locals:=fun y a e=>(O.eg y a e).2.2
 refine xE F.ns fun m ns=> ?_
 refine wpAny_storeName_local eh ns (fun h' dA hs=>h _ ?_) (by rw [hk];rfl)
 have ha:env.locals∈fr:=O.loc
 have mf:env.locals∈oa own++(fr++af):=List.mem_append_right _ (List.mem_append_left _ ha)
 have fH:env.locals∉az:=O.nB
 have kk:∀b o,(ba (oa own++(fr++af)) s.heap).get? b=some o->(ba (oa own++(fr++af)) h').get? b=some o:=iw fun b o _ m e=>hs.extBut b o (fun q=>m (q▸mf)) e
 have nC:∀b∈oa own,b≠env.locals:=fun b hb q=>F.dB b hb (List.mem_append_left _ (q▸ha))
 have kC:∀b∈af,b≠env.locals:=fun b hb q=>O.off _ ha (q▸hb)
 have mO:∀y u,y≠ef->bq s.heap env y u->bq h' env y u:=fun y u q a=>a.qh q ns dA hs jQ
 refine lg (id dA:) fun o es ep e _=> ?_
 refine xA (O.jO c d rfl:) fun O0 zS=> ?_
 refine ⟨?_,fun b o n e=> ?_,F.ctx.but kk fun b o hb e=>hs.extBut b o (fun q=>fH (q▸hb)) e,fun b hb=> ?_,F.fresh,⟨_,dA⟩,fun y b e=> ?_, ?_,fun y es e=> ?_,F.hW,F.dB,fun p hp=> ?_,fun fz e=> ?_⟩
 ·refine cN F.eq fun h t e=> ?_
  exact ⟨h',s.toks+1,by rw [e]⟩
 ·exact hs.extBut b o (fun q=>by rw [q,F.fresh _ (List.mem_append_right _ ha)] at e;exact no e) (F.gr b o n e)
 ·refine bV (F.aD b hb:) fun n o' e'=> ?_
  by_cases q:b=env.locals
  ·exact ⟨n,o,q▸e⟩
  ·exact ⟨n,o',hs.extBut b o' q e'⟩
 ·refine xE (F.cells y b e:) fun v hb=> ?_
  exact ⟨v,hb.sameBut hs (jQ y b e)⟩
 ·have R:=F.er
  refine ⟨R.kind,R.gl,R.bi,R.glob,R.loc,R.cell,fun y d' e=> ?_,R.cq,fun y b e=> ?_,R.lam⟩
  ·refine aj (R.vals y d' e:) fun u h1 h2=> ?_
   exact ⟨u,mO y u (fun q=>by rw [q,show ({st with h:=some ds}:St).v ef=st.v ef from rfl,hv] at e;exact no e) h1,h2.keeps kk⟩
  ·refine xE (F.cells y b e:) fun v hb=> ?_
   refine aj (hb.sameBut hs (jQ y b e):) fun o hV _=> ?_
   exact ⟨(O.eg y b e).2.1,o,hV⟩
 ·have hy:y≠ef:=fun q=>by rw [q,show ({st with h:=some ds}:St).o ef=st.o ef from rfl,ho] at e;exact no e
  refine ew (F.ow y _ e:) fun b vs h1 h2 h3 h4=> ?_
  exact ⟨b,vs,h1,mO y _ hy h2,dK h3 fun o e=>hs.extBut b o (nC b (cZ h1)) e,h4.keeps kk⟩
 ·refine xE (F.pl p hp:) fun vs h=> ?_
  exact ⟨vs,dK h fun o e=>hs.extBut _ o (nC _ (List.mem_map_of_mem hp)) e⟩
 ·cases e
  exact ⟨c,d,l,vs,hl,rfl, .loc eh fH dA (by simp),hD.at (fun o e=>hs.extBut _ o (kC _ O0) e) (fun o e=>hs.extBut _ o (kC _ zS) e),dK hp fun o e=>hs.extBut _ o (nC _ (cZ hl)) e,hr.keeps kk⟩
theorem Fm (P:Params):makesIn (KI P) 226=true:=by kernel_rfl
theorem O1 (P:Params):findIn (KI P) (.ref 226) "__init__"=some (some (.ref 118)):=by kernel_rfl
theorem O2 (P:Params):typeIn (KI P) (.ref 118)=some (.type "function"):=by kernel_rfl
theorem O3 {M:Model} {P:Params} {h:Heap} (K:(KI P).In h) (Y:Makes M h 226):∃k,(k=Keeper.frame\/k=Keeper.machine\/k=Keeper.boundFrame)/\Looks M h (keeperOf (.ref 226)) k:=by
 obtain ⟨o,ho,cd,hd⟩:∃o,(KI P).lookup 226=some o/\∃cd,o.data= .cls cd:=⟨_,rfl,_,rfl⟩
 obtain ⟨c,dd,dt,sl⟩:=o
 simp only at hd;subst hd
 refine ⟨.machine, .inr (.inl rfl),(Looks.ld (part:=none) (K _ _ ho)).andThen (Y.call.andThen ?_)⟩
 exact .now
theorem O4 (hA:Lv 3 A) (O:aX none fr af env sc) (F:FS w.params mg mb lm none af fr ae env sc own st s) (bD:st.h=none) (hg:dP sc "Headers"=true) (hx:iW sc ef=true) (hv:st.v ef=none) (ho:st.o ef=none) (qp:st.o cY=none) (wh:st.o "#"=none) {hp px lp cp pos:Pos} {E:Value->Shared->Prop} {Q:Flow->Shared->Prop}
  (h:∀c d l s',aX (some (c,d)) fr ([c,d]++af) env sc->FS w.params mg mb lm (some (c,d)) ([c,d]++af) fr ae env sc ((cY,l)::own) {st with h:=some []} s'->Q .next s'):
  wpAny (model prog w) A (exec (.Assign [.Name ef px] (.Call (.Name "Headers" hp) [.List [] lp] [] cp) pos) env) Q E s:=by
 refine wpAny_Assign_Name (wpAny_Call_Name_kw ((jq (v:= .ref 226) F.er hg (fun h C=>fI C rfl) (by decide)).then (Kp.refl F.ctx) fun u ab k₁ e=> ?_)) rfl
 subst e
 have au:=F.kp O k₁
 refine callWith_of (P:=fun h=>(KI w.params).In h) (first:=[]) rfl (fun h K=>O3 K (makes_of K (Fm _))) (Ca rfl (Calls.spliced_cons (List_ (Calls.spliced_nil (wpAny_newList (Calls.spliced_nil ?_) (Nat.zero_le _))))))
 refine bG (au.ju (x:="#") (vs:= #[]) (ds:=[]) (tk:=ab.toks) O wh (by decide) .nil:) fun wa jm wi=> ?_
 have aB:=wa.rename wh qp bD
 have O5:ab.heap.objs.size∉fr++af:=fun m=>au.mz get_none (List.mem_append_right _ m)
 generalize hl:ab.heap.objs.size=l at*
 generalize nV:({ab with heap:=ab.heap.push {cls:= .type "list",data:= .seq #[]},toks:=ab.toks}:Shared)=aq at*
 have e2:aq.heap=ab.heap.push {cls:= .type "list",data:= .seq #[]}:=by rw [<- nV]
 rw [<- e2] at wi jm
 have wj:(KI w.params).In aq.heap:=aB.ctx.dX.keeps fc
 refine ⟨wj, ?_⟩
 have nl:∀a,a∈oa ((cY,l)::own)->a∉az/\∃vs,aq.heap.PlainList a vs:=fun a ha=>by
  (refine aj (List.mem_map.mp ha:) fun p hp ay=> ?_;subst ay)
  exact ⟨(aB.aD _ (List.mem_append_left _ ha)).1,aB.pl p hp⟩
 show wpAny _ _ (call (.ref 226) [.ref l]) _ _ aq
 clear nV e2
 obtain ⟨hh,g,dr,t,os⟩:=aq
 have wm:hh.get? hh.objs.size=none:=get_none
 have zT:hh.get? (hh.objs.size+1)=none:=by
  cases q:hh.get? (hh.objs.size+1) with
  | none=>rfl
  | some o=>exact absurd (Heap.lt_size q) (Nat.not_lt.mpr (Nat.le_succ _))
 have zU:hh.objs.size∉az:=fQ aB.ctx
 have bQ:(254:Nat) < hh.objs.size:=pX aB.ctx 254 (by decide)
 have xP:hh.objs.size+1∉az:=fun m=>by
  simp only [az,List.mem_cons,List.not_mem_nil,or_false] at m
  exact Zb Z5 14 [_] [] bQ m
 have keep:∀b o,hh.get? b=some o->((hh.push emptyDict).push (instObj 226 hh.objs.size)).get? b=some o:=fun b o e=>Heap.get?_push_of_some _ (Heap.get?_push_of_some _ e)
 have hN:∀a∈[hh.objs.size+1,hh.objs.size],hh.get? a=none:=fun a ha=>by
  rcases List.mem_cons.mp ha with q | q
  ·rw [q];exact zT
  ·rw [List.mem_singleton.mp q];exact wm
 have g1:((hh.push emptyDict).push (instObj 226 hh.objs.size)).get? (hh.objs.size+1)=some (instObj 226 hh.objs.size):=by heap_get
 have g2:((hh.push emptyDict).push (instObj 226 hh.objs.size)).get? hh.objs.size=some (dictOf [] 0):=by heap_get
 have xn:∀{Y:List Addr},aN Y hh->aN ([hh.objs.size+1,hh.objs.size]++Y) ((hh.push emptyDict).push (instObj 226 hh.objs.size)):=fun {Y} xy a ha=>by
  rcases List.mem_append.mp ha with m | m
  ·rcases List.mem_cons.mp m with q | q
   ·rw [q];exact ⟨xP,_,g1⟩
   ·rw [List.mem_singleton.mp q];exact ⟨zU,_,g2⟩
  ·refine bV (xy a m:) fun n o e=> ?_
   exact ⟨n,o,keep _ _ e⟩
 have rl:Rep (fr++af) hh (.ref l) (.list []):=by
  (refine xE wi ?_;clear wi;intro n e)
  exact Rep.list e rfl rfl rfl rfl (aB.aD l (.head _)).1 O5 .nil
 have O6:Lv 1 (A.under (.builtin "type.__call__" ⟨.ref 226::[.ref l],[]⟩)):=⟨hA.hd,by have:=hA.dp;show A.depth+1+1+8 < _;exact Zb Z5 15 [_,_] [] this,by have:=hA.un;show A.units+1+100*1+1000 < _;exact Zb Z5 16 [_,_] [] this⟩
 refine wpAny_call (make_core (makes_of wj (Fm _)) (looks_findIn wj (O1 _)) (fun self=>bind_fn wj self (O2 _)) (.inl rfl) ?_)
 refine OO (X:=[hh.objs.size+1,hh.objs.size]++(fr++af)) O6 (xn aB.ff) ((aB.cu.fresh hN).keeps keep) g1 g2 (.head _) (.tail _ (.head _)) ((rl.fresh hN).grow (aA.of keep)) fun aS T D=> ?_
 refine ⟨rfl, ?_⟩
 have gr:aA hh aS.heap:=fun b o n e=>T.get n (fun q=>by rw [List.mem_singleton.mp q,wm] at e;exact no e) (keep b o e)
 have sh:∃h tk,aS={(⟨hh,g,dr,t,os⟩:Shared) with heap:=h,toks:=tk}:=by
  (refine dq T ?_;clear T;intro h3 t3 e _)
  exact ⟨h3,t3,e⟩
 have kp:Kp w.params mg mb ([hh.objs.size+1,hh.objs.size]++(fr++af)) (⟨hh,g,dr,t,os⟩:Shared) aS:=by
  (refine cN sh ?_;clear sh;intro h3 t3 e)
  have c3:=T.ctx
  subst e
  exact ⟨h3,t3,rfl,gr,c3⟩
 have mm:∀{O N Z:List Addr} {a:Addr},a∈O++(N++Z)↔a∈N++(O++Z):=fun {O N Z a}=>by
  simp only [List.mem_append]
  constructor
  ·rintro (h | h | h)
   ·exact .inr (.inl h)
   ·exact .inl h
   ·exact .inr (.inr h)
  ·rintro (h | h | h)
   ·exact .inr (.inl h)
   ·exact .inl h
   ·exact .inr (.inr h)
 have dC:=Kp.back (N:=oa ((cY,l)::own)) (s:=⟨hh,g,dr,t,os⟩) ((aB.ctx.fresh hN).less fun a ha=>mm.mp ha) kp nl
 have bu:=aB.zR (cd:=some (hh.objs.size+1,hh.objs.size)) (N:=[hh.objs.size+1,hh.objs.size]) O bD hN sh gr (dC.ctx.less fun a ha=>mm.mpr ha) (T.aD (xn aB.aD) fun b hb=>by
  rw [List.mem_singleton.mp hb]
  obtain ⟨_,o,_,_,e,_⟩:=D
  exact ⟨_,e⟩)
 have Fo:=O.zR (c:=hh.objs.size+1) (d:=hh.objs.size) fun I hI m=>aB.mz (hN I hI) (List.mem_append_right _ (List.mem_append_left _ m))
 have zt:aS.heap.PlainList l #[]:=dK wi fun o e=>gr _ _ (aB.aD l (.head _)).1 e
 exact bu.OZ Fo bD hx hv ho D (by rw [List.lookup_cons,beq_self_eq_true]) zt .nil fun s' F'=>h _ _ _ _ Fo F'
end
noncomputable def tw:PyData->Option (Str × Str)
 | .tuple [.str a, .str b]=>some (a,b)
 | _=>none
theorem O7 {d:PyData} {p:Str × Str} (h:tw d=some p):d=cR p:=by
 cases d with
 | tuple l=>
  cases l with
  | nil=>exact no h
  | cons a l=>
  cases a with
  | str a=>
   cases l with
   | nil=>exact no h
   | cons b l=>
   cases b with
   | str b=>
    cases l with
    | nil=>cases h;rfl
    | cons=>exact no h
   | _=>exact no h
  | _=>exact no h
 | _=>exact no h
theorem Fp:∀{ds:List PyData} {l:List (Str × Str)},ds.mapM tw=some l->ds=l.map cR
 | [],l,h=>by (obtain rfl:=Option.some.inj h;clear h);rfl
 | d::ds,l,h=>by
  rw [List.mapM_cons] at h
  refine ai h fun p h1 h=> ?_
  refine ai h fun r h2 h=> ?_
  (obtain rfl:=Option.some.inj h;clear h)
  rw [O7 h1,Fp h2];rfl
theorem Fq:∀l:List (Str × Str),(l.map cR).mapM tw=some l
 | []=>rfl
 | p::l=>by
  rw [List.map_cons,List.mapM_cons]
  show (some p).bind _=_
  rw [Option.bind_some,Fq l];rfl
noncomputable def lN:List Str:=(List.range 8).flatMap fun k=>[S [65+k],S [97+k]]
noncomputable def spans:List (Nat × Nat × Nat):=[1,2,3,4].flatMap fun p=>(List.range 9).flatMap fun b=>((List.range 9).filter fun e=>decide (b+2*p<=e)).map fun e=>(p,b,e)
noncomputable def cM (t:Nat × Nat × Nat):Str:=S [65+t.2.1,65+t.2.2,65+t.1]
noncomputable def n0:List Str:=S []::spans.map cM
theorem Fs {Q:Nat->Prop} (h0:Q 0) (h1:Q 1) (h2:Q 2) (h3:Q 3) (h4:Q 4) (h5:Q 5) (h6:Q 6) (h7:Q 7):∀k,k < 8->Q k:=by
 intro k h
 match k,h with
 | 0,_=>exact h0
 | 1,_=>exact h1
 | 2,_=>exact h2
 | 3,_=>exact h3
 | 4,_=>exact h4
 | 5,_=>exact h5
 | 6,_=>exact h6
 | 7,_=>exact h7
theorem O8 (P:Params):∀k,k < 8->kU P true (S [65+k]):=by
 refine Fs ?_ ?_ ?_ ?_ ?_ ?_ ?_ ?_<;>(intro S t;kernel_rfl)
theorem zV (P:Params):∀k,k < 8->kU P true (S [97+k]):=by
 refine Fs ?_ ?_ ?_ ?_ ?_ ?_ ?_ ?_<;>(intro S t;kernel_rfl)
theorem wo:∀k,k < 8->Txt.lower (S [65+k])=S [97+k]/\Txt.lower (S [97+k])=S [97+k]:=by decide+kernel
theorem Ft {n:Str} (h:n∈lN):∃k,k < 8/\(n=S [65+k]\/n=S [97+k]):=by
 refine aj (List.mem_flatMap.mp h:) fun k hk hn=> ?_
 refine ⟨k,List.mem_range.mp hk, ?_⟩
 simpa using hn
theorem O9:∀n∈lN,Builtin.Str.tooLong (Txt.lower n).length=false:=by decide+kernel
theorem Fu (P:Params) {n:Str} (hn:n∈lN):kU P true n/\kU P true (Txt.lower n)/\nZ n:=by
 refine ⟨?_, ?_,O9 n hn⟩
 ·(refine aj (Ft hn:) fun k hk ay=> ?_;obtain rfl | rfl:=ay)
  ·exact O8 P k hk
  ·exact zV P k hk
 ·(refine aj (Ft hn:) fun k hk aF=> ?_;obtain rfl | rfl:=aF)
  ·rw [(wo k hk).1];exact zV P k hk
  ·rw [(wo k hk).2];exact zV P k hk
theorem Pa:spans=[(1,0,2),(1,0,3),(1,0,4),(1,0,5),(1,0,6),(1,0,7),(1,0,8),(1,1,3),(1,1,4),(1,1,5),(1,1,6),(1,1,7),(1,1,8),(1,2,4),(1,2,5),(1,2,6),(1,2,7),(1,2,8),(1,3,5),(1,3,6),(1,3,7),(1,3,8),(1,4,6),(1,4,7),(1,4,8),(1,5,7),(1,5,8),(1,6,8),
  (2,0,4),(2,0,5),(2,0,6),(2,0,7),(2,0,8),(2,1,5),(2,1,6),(2,1,7),(2,1,8),(2,2,6),(2,2,7),(2,2,8),(2,3,7),(2,3,8),(2,4,8),(3,0,6),(3,0,7),(3,0,8),(3,1,7),(3,1,8),(3,2,8),(4,0,8)]:=by decide+kernel
theorem Pb {Q:Str->Prop} (h0:Q (S [])) (h:∀t∈spans,Q (cM t)):∀v∈n0,Q v:=by
 intro v hv
 rcases List.mem_cons.mp hv with q | q
 ·rw [q];exact h0
 ·(refine aj (List.mem_map.mp q:) fun t ht aP=> ?_;subst aP)
  exact h t ht
theorem Pc (P:Params):∀v∈n0,kU P false v:=by
 refine Pb ?_ ?_
 ·intro S t;kernel_rfl
 ·rw [Pa]
  simp only [List.forall_mem_cons]
  refine ⟨?_, ?_, ?_, ?_, ?_, ?_, ?_, ?_, ?_, ?_, ?_, ?_, ?_, ?_, ?_, ?_, ?_, ?_, ?_, ?_, ?_, ?_, ?_, ?_, ?_, ?_, ?_, ?_, ?_, ?_, ?_, ?_, ?_, ?_, ?_, ?_, ?_, ?_, ?_, ?_, ?_, ?_, ?_, ?_, ?_, ?_, ?_, ?_, ?_, ?_,fun _ h=>nomatch h⟩<;>(intro S t;kernel_rfl)
noncomputable def tz (hs:List PyData) (n v:Str):Option (Str × List PyData):=(hs.mapM tw).bind fun l=>if n∈lN/\v∈n0/\l.length<=4000/\(∀p∈l,p.1∈lN) then some ((gZ l n v).1,(gZ l n v).2.map cR) else none
theorem Fv {hs:List (Str × Str)} {n v:Str} (h1:n∈lN) (h2:v∈n0) (h3:hs.length<=4000) (h4:∀p∈hs,p.1∈lN):tz (hs.map cR) n v=some ((gZ hs n v).1,(gZ hs n v).2.map cR):=by
 unfold tz
 rw [Fq,Option.bind_some,if_pos ⟨h1,h2,h3,h4⟩]
noncomputable def cL (m2:Str->Bool):Cf:=⟨m2,tz⟩
section
variable {prog:Program} {w:World} {mg mb:Str->Option Value}
variable {A:Around} {lm:Bool} {cd:Option (Addr × Addr)} {af fr:List Addr} {ae s s':Shared} {env:Env} {sc:Scope} {own:List (Str × Addr)} {st:St}
theorem FS.Pd (F:FS w.params mg mb lm cd af fr ae env sc own st s) (O:aX cd fr af env sc) {l c d:Addr} {dh:Array Value} {fz:List PyData} (h1:own.lookup cY=some l) (eC:cd=some (c,d)) (hv:bq s.heap env ef (.ref c)) (hD:fe s.heap c d l) (bt:st.o cY=none)
  (T:Tn w.params mg mb (oa own++(fr++af)) [l] s s') (hp:s'.heap.PlainList l dh) (r:ax (oa own++(fr++af)) s'.heap dh.toList fz):FS w.params mg mb lm cd af fr ae env sc own {st with h:=some fz} s':=by
 have ma:l∈oa own:=cZ h1
 have mf:l∈oa own++(fr++af):=List.mem_append_left _ ma
 have bg:=(F.aD l mf).1
 have hs:∀b o,b∉az->b≠l->s.heap.get? b=some o->s'.heap.get? b=some o:=fun b o n m e=>T.get n (by simpa using m) e
 have kk:∀b o,(ba (oa own++(fr++af)) s.heap).get? b=some o->(ba (oa own++(fr++af)) s'.heap).get? b=some o:=iw fun b o n m e=>hs b o n (fun q=>m (q▸mf)) e
 have kD:∀b∈fr,b≠l:=fun b hb q=>F.dB l ma (List.mem_append_left _ (q▸hb))
 have kC:∀b∈af,b≠l:=fun b hb q=>F.dB l ma (List.mem_append_right _ (q▸hb))
 have tf:∀a∈fr,a∉az:=fun a ha=>(F.aD a (List.mem_append_right _ (List.mem_append_left _ ha))).1
 have to:∀a∈oa own,a∉az:=fun a ha=>(F.aD a (List.mem_append_left _ ha)).1
 have tx:∀a∈af,a∉az:=fun a ha=>(F.aD a (List.mem_append_right _ (List.mem_append_right _ ha))).1
 have uW:∀y b,y≠cY->own.lookup y=some b->b≠l:=fun y b q hb e=>q (name_of_addr F.hW (mem_of_lookup hb) (e▸mem_of_lookup h1))
 have mO:∀y u,bq s.heap env y u->bq s'.heap env y u:=fun y u q=>by
  cases q with
  | loc hl n ns hv=>exact .loc hl n (lI ns fun o e=>hs _ _ n (kD _ O.loc) e) hv
  | cell hl hc n hv=>exact .cell hl hc n (oX hv fun o e=>hs _ _ n (kD _ (O.eg _ _ hc).1) e)
 refine ⟨?_,fun b o n e=> ?_,T.ctx,fun b hb=> ?_,F.fresh, ?_,fun y b e=> ?_, ?_,fun y es e=> ?_,F.hW,F.dB,fun p eN=> ?_,fun es e=> ?_⟩
 ·refine cN F.eq fun h t e=> ?_
  (refine dq T ?_;clear T;intro h' tk e' _)
  exact ⟨h',tk,by rw [e',e]⟩
 ·exact hs b o n (fun q=>by rw [q,F.fresh l (List.mem_append_left _ ma)] at e;exact no e) (F.gr b o n e)
 ·refine bV (F.aD b hb:) fun n o e=> ?_
  by_cases q:b=l
  ·(refine xE hp ?_;clear hp;intro k e');exact ⟨n,_,q▸e'⟩
  ·exact ⟨n,o,hs b o n q e⟩
 ·refine xE F.ns fun m ns=> ?_;exact ⟨m,lI ns fun o e=>hs _ _ O.nB (kD _ O.loc) e⟩
 ·refine xE (F.cells y b e:) fun v h=> ?_;exact ⟨v,oX h fun o e'=>hs _ _ (O.eg _ _ e).2.1 (kD _ (O.eg _ _ e).1) e'⟩
 ·have R:=F.er
  refine ⟨R.kind,R.gl,R.bi,R.glob,R.loc,R.cell,fun y d' e=> ?_,R.cq,fun y b e=> ?_,R.lam⟩
  ·refine aj (R.vals y d' e:) fun u h1 h2=> ?_
   exact ⟨u,mO _ _ h1,h2.keeps kk⟩
  ·refine bV (R.eY y b e:) fun n o q=> ?_
   exact ⟨n,o,hs _ _ n (kD _ (O.eg _ _ e).1) q⟩
 ·have hy:y≠cY:=fun q=>by rw [q,show ({st with h:=some fz}:St).o cY=st.o cY from rfl,bt] at e;exact no e
  refine ew (F.ow y es e:) fun b vs g1 g2 g3 g4=> ?_
  exact ⟨b,vs,g1,mO _ _ g2,dK g3 fun o e=>hs b o (to _ (cZ g1)) (uW y b hy g1) e,g4.keeps kk⟩
 ·by_cases q:p.2=l
  ·exact ⟨dh,q▸hp⟩
  ·refine xE (F.pl p eN:) fun vs h=> ?_
   exact ⟨vs,dK h fun o e=>hs _ o (to _ (List.mem_map_of_mem eN)) q e⟩
 ·cases e
  refine xA (O.jO c d eC:) fun h2 h3=> ?_
  exact ⟨c,d,l,dh,h1,eC,mO _ _ hv,hD.at (fun o e=>hs _ _ (tx _ h2) (kC _ h2) e) (fun o e=>hs _ _ (tx _ h3) (kC _ h3) e),hp,r⟩
end
section
variable {prog:Program} {w:World} {mg mb:Str->Option Value}
variable {A:Around}
theorem HL (hA:Lv 4 A) {m2:Str->Bool}:fV prog w mg mb A (cL m2):=by
 intro lm cd af fr ae s env sc own st n v x hs bR p ap cp e1 e2 E O F hh bt eO cX bD h1 h2
 have eO:(hs.mapM tw).bind (fun l=>if n∈lN/\v∈n0/\l.length<=4000/\(∀p∈l,p.1∈lN) then some ((gZ l n v).1,(gZ l n v).2.map cR) else none)=some (x,bR):=eO
 refine ai eO fun l0 Pe eO=> ?_
 split at eO
 case isFalse=>exact no eO
 rename_i hg
 (refine fm hg ?_;clear hg;intro g1 g2 g3 g4)
 cases eO
 have Pf:=Fp Pe
 subst Pf
 refine bG (Fu w.params g1:) fun zJ zK zL=> ?_
 refine j9 (F.jP _ hh:) fun c d l vs f1 f2 f3 f4 f5 f6=> ?_
 refine xA (O.jO c d f2:) fun c1 c2=> ?_
 have xc:∀{a},a∈af->a∈oa own++(fr++af):=fun q=>List.mem_append_right _ (List.mem_append_right _ q)
 have iY:=(F.aD c (xc c1)).1
 have kW:=(F.aD d (xc c2)).1
 have aM:c≠l:=fun q=>F.dB l (cZ f1) (List.mem_append_right _ (q▸c1))
 have Fb:d≠l:=fun q=>F.dB l (cZ f1) (List.mem_append_right _ (q▸c2))
 refine xA (fR (f3.df F.er.cq):) fun n1 n2=> ?_
 refine th (N3 w.params) rfl (by rw [bD];rfl) cX (wpAny_Name (eZ F.er.kind f3 (aA.refl _) n2 ⟨c,d,l,rfl,F.ctx.dX.keeps fc,f4, ?_⟩) n1)
 refine gO (first:=[.ref c]) (by rw [bD];rfl) ?_
 rw [bD]
 refine Calls.spliced_cons (h1.then (Kp.refl F.cu) fun u1 ab k₁ r1=>Calls.spliced_cons (h2.then k₁ fun u2 aq k₂ r2=>Calls.spliced_nil ?_))
 have au:=F.dC O k₁
 have aB:=au.dC O k₂
 (refine xE r1.str_inv fun t1 ay=> ?_;subst ay)
 (refine xE r2.str_inv fun t2 aF=> ?_;subst aF)
 refine ⟨nO (E8 w.params) _ _ aB.ctx, ?_⟩
 refine j9 (aB.jP _ hh:) fun c' d' l' dh Fw Fx Pg Fy Ph Pj=> ?_
 rw [f1] at Fw;cases Fw
 rw [f2] at Fx;cases Fx
 refine wpAny_mono (Og (hA.le (by exact Zb Z2 30 [] [])) aB.aD aB.ctx Fy iY kW (List.mem_append_left _ (cZ f1)) aM Fb Ph Pj (by exact ez g3) zL (fun p hp=>(Fu w.params (g4 p hp)).2.2) zK zJ (Pc w.params v g2)) (fun r aS q=> ?_) fun _ _ q=>q
 obtain ⟨T,S4,t3,rfl,hp,hr⟩:=q
 refine ⟨⟨t3,rfl⟩,aB.Pd O f1 f2 Pg Fy bt T hp hr,((bB.kp k₁).trans (bB.kp k₂)).trans fun b o nt m e=>T.get nt (fun q=>m (List.mem_append_left _ (by rw [List.mem_singleton.mp q];exact cZ f1))) e⟩
noncomputable def tA (ds:List PyData):Option PyData:=(pr ds).bind fun v=>(gL v.1).bind fun xs=>(gI v.2).bind fun p=>(intsOf xs).bind fun row=>if 1<=p/\p.toNat<=row.length/\row.length<=4000 then some (.list ((nN row p.toNat).map bZ)) else none
noncomputable def wq (ds:List PyData):Option PyData:=(one ds).bind fun d=>(gS d).bind fun x=>if x.length=8 then some (.list ((kR x.cps.toList).map bZ)) else none
noncomputable def wt (ds:List PyData):Option PyData:=(pr ds).bind fun v=>(gL v.1).bind fun xs=>(gI v.2).bind fun k=>(intsOf xs).bind fun rk=>if rk.length=8/\0<=k/\k < 8 then some (.int (jy rk k.toNat)) else none
noncomputable def Fz {α:Type}:List α->Option (α × α × α × α × α)
 | [a,b,c,d,e]=>some (a,b,c,d,e)
 | _=>none
theorem Pk {α:Type} {l:List α} {a b c d e:α} (h:Fz l=some (a,b,c,d,e)):l=[a,b,c,d,e]:=by
 match l,h with
 | [_,_,_,_,_],h=>cases h;rfl
 | [],h=>exact no h
 | [_],h=>exact no h
 | [_,_],h=>exact no h
 | [_,_,_],h=>exact no h
 | [_,_,_,_],h=>exact no h
 | _::_::_::_::_::_::_,h=>exact no h
theorem Pl {α:Type} {l:List α} {n:Nat} (h:l.length=n) (e:n=5):∃a b c d f,l=[a,b,c,d,f]:=by
 have h:=h.trans e
 match l,h with
 | [a,b,c,d,f],_=>exact ⟨a,b,c,d,f,rfl⟩
noncomputable def wu (ds:List PyData):Option PyData:=(Fz ds).bind fun v=>(gS v.1).bind fun x=>(gI v.2.1).bind fun p=>(gI v.2.2.1).bind fun b=>(gI v.2.2.2.1).bind fun e=>(gB v.2.2.2.2).bind fun r=>if x.length=8/\(∀c∈x.cps.toList,c < 1114112)/\1<=p/\0<=b/\b+p<=e/\e<=8 then some (.list ((jc x.cps.toList p.toNat b.toNat e.toNat r).map fun (k:Nat)=> .int k)) else none
theorem Pm (hA:Lv 2 A):kG prog w mg mb A (.ref 242) tA:=mG (names:=["row","p"]) fun X s vs ds d E hx C hl r e=>by
 (refine ai e fun aP h1 e=> ?_;obtain ⟨d1,d2⟩:=aP)
 refine ai e fun xs h2 e=> ?_
 refine ai e fun p h3 e=> ?_
 refine ai e fun row wx e=> ?_
 (refine aO e fun bI e=> ?_;obtain ⟨g1,g2,g3⟩:=bI)
 (obtain rfl:=Option.some.inj e;clear e)
 obtain rfl:=rF h1
 obtain rfl:=gd h2
 obtain rfl:=gH h3
 have eM:=sv wx
 subst eM
 obtain ⟨n,rfl⟩:∃n:Nat,p=n:=⟨p.toNat,by exact Zb Z4 23 [] [_] g1⟩
 refine pE (D8 w.params:) fun px lp pos D=> ?_
 refine xE (sG (Ma w.params row n (by exact Zb Z4 24 [_] [] g1) (by simpa using g2) g3):) fun ag hr=> ?_
 (refine cN (xw hl rfl:) fun v1 v2 bK=> ?_;subst bK)
 exact yK D L9 hA H0 (ds:=[_,_]) hx C r (by kernel_rfl) (fun q=>nomatch q) rfl (by decide) hr
theorem Pn (hA:Lv 2 A):kG prog w mg mb A (.ref 247) wq:=mG (names:=["word"]) fun X s vs ds d E hx C hl r e=>by
 refine ai e fun d1 h1 e=> ?_
 refine ai e fun x h2 e=> ?_
 refine aO e fun bt e=> ?_
 (obtain rfl:=Option.some.inj e;clear e)
 obtain rfl:=fP h1
 obtain rfl:=fF h2
 refine pE (EB w.params:) fun px lp pos D=> ?_
 refine xE (sG (Nd w.params x.cps.toList (by rw [Array.length_toList];exact bt)):) fun ag hr=> ?_
 rw [<- zj] at hr
 (refine xE (rG hl rfl:) fun v1 bO=> ?_;subst bO)
 exact yK D (zl (m:=1)) hA H0 (ds:=[_]) hx C r (by kernel_rfl) (fun q=>nomatch q) rfl (by decide) hr
theorem Po (hA:Lv 3 A):kG prog w mg mb A (.ref 259) wt:=mG (names:=["ranks","k"]) fun X s vs ds d E hx C hl r e=>by
 (refine ai e fun cF h1 e=> ?_;obtain ⟨d1,d2⟩:=cF)
 refine ai e fun xs h2 e=> ?_
 refine ai e fun k h3 e=> ?_
 refine ai e fun rk mQ e=> ?_
 (refine aO e fun c9 e=> ?_;obtain ⟨g1,g2,g3⟩:=c9)
 (obtain rfl:=Option.some.inj e;clear e)
 obtain rfl:=rF h1
 obtain rfl:=gd h2
 obtain rfl:=gH h3
 have eM:=sv mQ
 subst eM
 obtain ⟨n,rfl⟩:∃n:Nat,k=n:=⟨k.toNat,by exact Zb Z1 31 [] [_] g2⟩
 refine xE (sG (M2 w.params rk n g1 (by exact Zb cz 35 [_] [] g3)):) fun ag hr=> ?_
 (refine cN (xw hl rfl:) fun v1 v2 dy=> ?_;subst dy)
 exact call_plain (Ex w.params) MY hA H0 (ds:=[_,_]) hx C r (by kernel_rfl) (fun _=>NF w.params) hr
theorem Pp (hA:Lv 2 A):kG prog w mg mb A (.ref 264) wu:=mG (names:=["word","p","begin","end","rising"]) fun X s vs ds d E hx C hl r e=>by
 (refine ai e fun dz h1 e=> ?_;obtain ⟨d1,d2,d3,d4,d5⟩:=dz)
 refine ai e fun x h2 e=> ?_
 refine ai e fun p h3 e=> ?_
 refine ai e fun b h4 e=> ?_
 refine ai e fun ee h5 e=> ?_
 refine ai e fun rising h6 e=> ?_
 (refine aO e fun fu e=> ?_;obtain ⟨g1,g2,g3,g4,g5,g6⟩:=fu)
 (obtain rfl:=Option.some.inj e;clear e)
 obtain rfl:=Pk h1
 obtain rfl:=fF h2
 obtain rfl:=gH h3
 obtain rfl:=gH h4
 obtain rfl:=gH h5
 obtain rfl:=uw h6
 obtain ⟨p,rfl⟩:∃n:Nat,p=n:=⟨p.toNat,by exact Zb Z4 23 [] [_] g3⟩
 obtain ⟨b,rfl⟩:∃n:Nat,b=n:=⟨b.toNat,by exact Zb Z1 31 [] [_] g4⟩
 obtain ⟨ee,rfl⟩:∃n:Nat,ee=n:=⟨ee.toNat,by exact Zb cz 36 [_,_] [_] g5⟩
 refine pE (EF w.params:) fun px lp pos D=> ?_
 refine xE (sG (Nh w.params x.cps.toList (by rw [Array.length_toList];exact g1) g2 p b ee rising (by exact Zb Z4 24 [_] [] g3) (by exact Zb cz 37 [_,_,_] [] g5) (by exact Zb cz 38 [_] [] g6)):) fun ag hr=> ?_
 rw [<- zj] at hr
 obtain ⟨v1,v2,v3,v4,v5,rfl⟩:=Pl hl rfl
 exact yK D (zl (m:=1)) hA H0 (ds:=[_,_,_,_,_]) hx C r (by kernel_rfl) (fun q=>nomatch q) rfl (by decide) hr
noncomputable def jD:cV:=((((((((dR.add "ISEOF" yM).add "ISTERMINAL" tF).add "ISNONTERMINAL" yN).add "_ellipsis_match" nU).add "_law_stretches" tA).add "_law_runs" wq).add "_law_ranks" v9).add "_law_stop" wt).add "_law_places" wu
theorem FA (hA:Lv 4 A) {lm:Bool} {m:Nat}:fJ prog w mg mb A lm m jD:=
 (((((((((nI hA.hd (by have:=hA.un;exact Zb cz 39 [_,_] [] this)).add (fun _ _ C=>fI C rfl) (by decide) (kH (yL w.params)) (DQ (hA.le (by exact m7)))).add
  (fun _ _ C=>fI C rfl) (by decide) (kH (DP w.params)) (LP (hA.le (by exact m7)))).add
  (fun _ _ C=>fI C rfl) (by decide) (kH (DO w.params)) (LO (hA.le (by exact m7)))).add
  (fun _ _ C=>fI C rfl) (by decide) (kH (EK w.params)) (Nu (hA.le (by exact m7)))).add
  (fun _ _ C=>fI C rfl) (by decide) (by refine pE (D8 w.params:) fun _ _ _ D=> ?_;exact kH D) (Pm (hA.le (by exact Zb Z2 31 [] [])))).add
  (fun _ _ C=>fI C rfl) (by decide) (by refine pE (EB w.params:) fun _ _ _ D=> ?_;exact kH D) (Pn (hA.le (by exact Zb Z2 31 [] [])))).add
  (fun _ _ C=>fI C rfl) (by decide) (kH (EP w.params)) (NM hA)).add
  (fun _ _ C=>fI C rfl) (by decide) (kH (Ex w.params)) (Po (hA.le (by exact Zb Z2 30 [] [])))).add
  (fun _ _ C=>fI C rfl) (by decide) (by refine pE (EF w.params:) fun _ _ _ D=> ?_;exact kH D) (Pp (hA.le (by exact Zb Z2 31 [] [])))
end
section
variable {st:St} {x y:Str} {d d':PyData} {ds es:List PyData} {ρ:bh} {ao:Scope} {r:Option (List PyData)}
theorem v_eq:(st.set x d).v x=some d:=by rw [St.ec,if_pos rfl]
theorem bw (h:y≠x) (e:st.v y=some d'):(st.set x d).v y=some d':=by rw [St.ec,if_neg h];exact e
theorem j6 (h:y≠x) (e:st.o y=some es):(st.set x d).o y=some es:=by rw [St.qg,if_neg h];exact e
theorem FC:(st.own x ds).o x=some ds:=by rw [St.uV,if_pos rfl]
noncomputable def je (x:Str) (st:St):Prop:=∀y,y≠x->st.o y=none
theorem je.set (h:je x st):je x (st.set y d):=fun z hz=>by
 rw [St.qg]
 split
 ·rfl
 ·exact h z hz
theorem je.own (h:je x st):je x (st.own x ds):=fun z hz=>by rw [St.uV,if_neg hz];exact h z hz
theorem cj (h:je x st) (hy:y≠x) (e:st.v y=some d):st.full y=some d:=by
 unfold St.full;rw [h y hy];exact e
theorem Pq (e:st.o y=some ds):st.full y=some (.list ds):=by unfold St.full;rw [e]
theorem gD:upd ρ x d x=some d:=by unfold upd;rw [if_pos rfl]
theorem g0 (h:y≠x) (e:ρ y=some d'):upd ρ x d y=some d':=by unfold upd;rw [if_neg h];exact e
theorem g7 (h:ao.names.lookup y=some .free) (e:ρ y=some d):inner ao ρ y=some d:=by unfold inner;rw [if_pos h];exact e
end
section
variable {P:Params} {mg mb:Str->Option Value} {lm:Bool} {cd:Option (Addr × Addr)} {af fr:List Addr} {ae s s':Shared} {env:Env} {sc:Scope} {own:List (Str × Addr)} {st ag:St}
theorem FS.forget (F:FS P mg mb lm cd af fr ae env sc own st s) (hv:∀x d,ag.v x=some d->st.v x=some d) (ho:∀x ds,ag.o x=some ds->st.o x=some ds) (hh:ag.h=st.h):FS P mg mb lm cd af fr ae env sc own ag s:=
 ⟨F.eq,F.gr,F.ctx,F.aD,F.fresh,F.ns,F.cells,⟨F.er.kind,F.er.gl,F.er.bi,F.er.glob,F.er.loc,F.er.cell,fun x d e=>F.er.vals x d (hv x d e),F.er.cq,F.er.eY,F.er.lam⟩,fun x ds e=>F.ow x ds (ho x ds e),F.hW,F.dB,F.pl,fun ds e=>F.jP ds (hh▸e)⟩
theorem zW {x:Str} {d:PyData} {l:VL} {ρ:bh} (h:ρ x=some d) (hl:∀y e,l.lookup y=some e->ρ y=some e):∀y e,((x,d)::l).lookup y=some e->ρ y=some e:=fun y e q=>by
 rw [List.lookup_cons] at q
 by_cases c:y=x
 ·subst c;rw [beq_self_eq_true] at q;cases q;exact h
 ·rw [beq_eq_false_iff_ne.mpr c] at q;exact hl y e q
theorem Pr {ρ:bh}:∀y e,(([]:VL).lookup y)=some e->ρ y=some e:=fun _ _ q=>nomatch q
end
noncomputable def qM:Pos:=⟨0,0,0,0⟩
noncomputable def sL (P:Params) (k:Nat):Stmt:=(bU P 269).getD k (.Pass qM)
theorem Pt (P:Params):bU P 269=[sL P 0,sL P 1,sL P 2,sL P 3,sL P 4,sL P 5,sL P 6,sL P 7,sL P 8,sL P 9,sL P 10,sL P 11,sL P 12,sL P 13,sL P 14,sL P 15,sL P 16]:=by rfl
noncomputable def aG (P:Params):Scope:=(bj P 269 bk).scope
noncomputable abbrev IL:aK:=ah jD eX 14
noncomputable abbrev cW:Cf:=cL fun _=>false
noncomputable def b9 (rl:List Nat):List Int:=rl.map fun (x:Nat)=>(x:Int)
noncomputable def fY (rl:List Nat):PyData:= .list ((b9 rl).map .int)
noncomputable def aJ (rl:List Nat):List Nat:=rl.map (97+ ·)
noncomputable def fO (t:Nat × Nat × Nat):Int × Int × Int:=((t.1:Int),(t.2.1:Int),(t.2.2:Int))
noncomputable def tD (t:Nat × Nat × Nat):PyData:=bZ (fO t)
noncomputable def cS:List Nat:=[46,46,46]
theorem wy {l:List Nat} (h:l.length<=4000):gJ .Add (.str (S l)) (.str "...")=some (.str (S (l++cS))):=by
 rw [show ("...":Str)=S cS from by decide]
 exact add_str (by have:cS.length=3:=rfl;exact Zb Z9 38 [_,_] [] this h)
noncomputable def dO (p:Nat) (part:List Nat):List Nat:=(List.range' 1 p).filter fun q=>part.drop q==part.take (part.length - q)
structure wz (p:Nat) (part:List Nat):Prop where
 len:2*p<=part.length/\part.length<=8/\1<=p
 S5:∀c∈part,c < 1114112
 FD:∀q,1<=q->q<=p->nU [dG (part.drop q++cS),dG part]=some (.bool (part.drop q==part.take (part.length - q)))
 one:dO p part=[p]->nU [dG (part.take p++cS++part.take p),dG part]=some (.bool (part.length % p==0))
 two:dO p part=[p]->nU [dG (part.take p++cS++part.take p++cS++part.take p),dG part]=some (.bool (part.length % p==0&&decide (part.length > 2*p)))
 ux:dO p part=[p]->nU [dG (part.drop p++cS++part.drop p),dG part]=some (.bool (part.length==2*p))
theorem tB {ds d} (h:nU ds=some d):jD.fn "_ellipsis_match" ds=some d:=h
theorem pg {ds d} (h:nF ds=some d):jD.fn "len" ds=some d:=h
theorem zX {a b:Nat} (h:1<=b):gJ .Mod (.int (a:Int)) (.int (b:Int))=some (.int ((a % b:Nat):Int)):=by
 rw [Bx (by exact Zb Z9 39 [_] [] h),Int.fmod_eq_emod_of_nonneg _ (by exact m5)]
 rfl
theorem zY {n:Nat}:cg .Eq (.int (n:Int)) (.int 0)=some (n==0):=by
 show some ((n:Int)==0)=_
 congr 1
 by_cases h:n=0
 ·subst h;rfl
 ·rw [beq_eq_false_iff_ne.mpr h,beq_eq_false_iff_ne];exact xk h
theorem eq_2 {n p:Nat}:cg .Eq (.int (n:Int)) (.int (2*(p:Int)))=some (n==2*p):=by
 show some ((n:Int)==2*(p:Int))=_
 congr 1
 by_cases h:n=2*p
 ·rw [beq_iff_eq.mpr h,beq_iff_eq];exact Zb cy 0 [_,_] [] h
 ·rw [beq_eq_false_iff_ne.mpr h,beq_eq_false_iff_ne];exact Zb cy 1 [_,_] [] h
theorem Pu {n p:Nat}:cg .Gt (.int (n:Int)) (.int (2*(p:Int)))=some (decide (n > 2*p)):=by
 show some (decide ((n:Int) > 2*(p:Int)))=_
 congr 1
 by_cases h:n > 2*p
 ·rw [decide_eq_true h,decide_eq_true];exact Zb cy 2 [_,_] [] h
 ·rw [decide_eq_false h,decide_eq_false];exact Zb cy 3 [_,_] [] h
theorem tE {b:Bool}:cg .IsNot (.bool b) (.bool b)=some false:=by
 show some (!(b==b))=_
 simp
theorem Pw {u:List Nat} (h:u.length<=1000):iA "join" (.str "...") [.list [dG u,dG u,dG u]]=some (dG (u++cS++u++cS++u)):=by
 rw [show ("...":Str)=S cS from by decide]
 have hj:Txt.join (S cS) [S u,S u,S u]=S (u++cS++u++cS++u):=by
  rw [eq_of_beq (join_plain_closes (S cS) [S u,S u,S u])]
  show S u++S cS++(S u++S cS++S u)=_
  simp only [vK,List.append_assoc]
 have bt:JoinOk (S cS) [S u,S u,S u]=true:=by
  unfold JoinOk
  simp only [List.foldl_toArray,List.foldl_cons,List.foldl_nil,c8]
  have:Builtin.Str.tooLong (0+u.length+cS.length+u.length+cS.length+u.length+cS.length)=false:=by
   unfold Builtin.Str.tooLong
   rw [decide_eq_false]
   have:cS.length=3:=rfl
   rw [sizeLine_eq];exact Zb cy 4 [_,_] [] this h
  simpa using this
 show (if JoinOk (S cS) [S u,S u,S u]=true then some (PyData.str (Txt.join (S cS) [S u,S u,S u])) else none)=_
 rw [if_pos bt,hj]
theorem jE {I:aK} {c:Cf} {n:Nat} {sc:Scope} {st bE:St} {t:Stmt} {r:List Stmt} {R:St->Prop} (h1:bT I c (bc I c n) sc st t=some (.aT,bE)) (h2:∃aR,bc I c (n+1) sc bE r=some (.aT,aR)/\R aR):∃aR,bc I c (n+1) sc st (t::r)=some (.aT,aR)/\R aR:=by
 (refine aj h2 ?_;clear h2;intro aR h hr)
 exact ⟨aR,aW h1 h,hr⟩
structure mR (rl:List Nat) (rs:List (Nat × Nat × Nat)) (st:St):Prop where
 row:st.v "row"=some (fY rl)
 word:st.v "word"=some (.str (S (aJ rl)))
 names:st.v "names"=some (.str "ABCDEFGHI")
 o:je "runs" st
 r:st.o "runs"=some (rs.map tD)
 h:st.h=none
theorem Px (P:Params) {rl:List Nat} (hl:rl.length=8) {p b e:Nat} (hp:p<=4) (eo:b+2*p<=e) (he:e<=8) (hE:wz p (cD (aJ rl) b e)) {rs:List (Nat × Nat × Nat)} {st:St} (hi:mR rl rs st) (lO:st.v "p"=some (.int p)) (nY:rs.length<=100)
  {body:List Stmt} {t0 i0:Expr} {tq iq:Expr} {q0 q1:Pos} (hs:sL P 4= .For tq iq [.For t0 i0 body [] q0] [] q1):
  ∃aR,bc IL cW 8 (aG P) (st.set "stretch" (tD (p,b,e))) body=some (.aT,aR)/\mR rl (if dO p (cD (aJ rl) b e)=[p] then rs++[(p,b,e)] else rs) aR/\aR.v "p"=some (.int p):=by
 have aQ:aG P=aG P:=rfl
 conv at aQ=>rhs;whnf
 have hb:sL P 4=sL P 4:=rfl
 conv at hb=>rhs;whnf
 rw [hb] at hs
 injection hs with e1 e2 e3 e4 e5
 injection e3 with e6 e7
 injection e6 with e8 e9 Py FE S7
 subst Py
 rw [aQ]
 clear aQ
 have zZ:(aJ rl).length=8:=by unfold aJ;rw [List.length_map,hl]
 have hlen:(cD (aJ rl) b e).length=e - b:=by unfold cD;rw [List.length_take,List.length_drop];exact Zb Z4 6 [_,_,_] [] zZ he
 have Pz:(st.set "stretch" (tD (p,b,e))).v "row"=some (fY rl):=bw (by decide) hi.row
 have pZ:(st.set "stretch" (tD (p,b,e))).v "word"=some (.str (S (aJ rl))):=bw (by decide) hi.word
 have wm:(st.set "stretch" (tD (p,b,e))).v "names"=some (.str "ABCDEFGHI"):=bw (by decide) hi.names
 have kF:(st.set "stretch" (tD (p,b,e))).v "p"=some (.int p):=bw (by decide) lO
 have pe:(st.set "stretch" (tD (p,b,e))).v "stretch"=some (tD (p,b,e)):=v_eq
 have qp:je "runs" (st.set "stretch" (tD (p,b,e))):=hi.o.set
 have sA:(st.set "stretch" (tD (p,b,e))).o "runs"=some (rs.map tD):=j6 (by decide) hi.r
 have sb:(st.set "stretch" (tD (p,b,e))).h=none:=hi.h
 generalize st.set "stretch" (tD (p,b,e))=s1 at*
 refine' jE (cm rfl rfl ?S1) ?S8
 case S1=>
  refine' bM rfl ?w1 ?w2 ?w3 (gq (l:=aJ rl) b e rfl rfl (by exact Zb cy 5 [_,_,_] [] eo) (by exact Zb Z4 7 [_,_] [] zZ he) (by exact bx zZ))
  case w1=>exact aa pZ rfl
  case w2=>exact aZ (bF rfl pe rfl aC rfl)
  case w3=>exact aZ (bF rfl pe rfl aC rfl)
 rw [show ((aJ rl).drop b).take (e - b)=cD (aJ rl) b e from rfl]
 generalize vQ:cD (aJ rl) b e=part at*
 have iL:part.length<=8:=hE.len.2.1
 have z0:1<=p:=hE.len.2.2
 have xt:(s1.set "part" (.str (S part))).v "row"=some (fY rl):=bw (by decide) Pz
 have rz:(s1.set "part" (.str (S part))).v "word"=some (.str (S (aJ rl))):=bw (by decide) pZ
 have zT:(s1.set "part" (.str (S part))).v "names"=some (.str "ABCDEFGHI"):=bw (by decide) wm
 have lJ:(s1.set "part" (.str (S part))).v "p"=some (.int p):=bw (by decide) kF
 have nV:(s1.set "part" (.str (S part))).v "stretch"=some (tD (p,b,e)):=bw (by decide) pe
 have tG:(s1.set "part" (.str (S part))).v "part"=some (.str (S part)):=v_eq
 have wh:je "runs" (s1.set "part" (.str (S part))):=qp.set
 have PA:(s1.set "part" (.str (S part))).o "runs"=some (rs.map tD):=j6 (by decide) sA
 have sd:(s1.set "part" (.str (S part))).h=none:=sb
 generalize s1.set "part" (.str (S part))=s2 at*
 refine' jE (cm (d:= .list ((dO p part).map fun (k:Nat)=> .int k)) rfl rfl ?S2) ?S9
 case S2=>
  refine' dF rfl rfl rfl rfl (eE rfl rfl ?sq (jw 1 (p+1) rfl ?e2 (by exact lj) (by exact Zb cy 6 [_] [] hp))) (dg rfl ?l1 rfl rfl (kP (r:=fun (k:Nat)=>PyData.int k) (fun q=>part.drop q==part.take (part.length - q)) (fun q hq hc=>kI ?y1 ?y2) (fun q hq hc=>kJ ?y3))) ?l2
  case sq=>refine' ak aC (ak (aY (aa lJ rfl) aC rfl) av)
  case e2=>exact pK
  case l1=>rw [List.length_map,List.length_range'];exact Zb cy 7 [_] [] hp
  case l2=>
   rw [List.length_map]
   refine Nat.le_trans (List.length_filter_le _ _) ?_
   rw [List.length_range'];exact Zb cy 8 [_] [] hp
  case y2=>exact aa gD rfl
  case y1=>
   have cK:=List.mem_range'_1.mp hq
   have hf:=hE.FD q (by exact Zb Z4 8 [_,_] [] cK) (by exact Zb Z4 9 [_,_] [] cK)
   rw [hc] at hf
   refine' aH rfl (bl rfl (ak (aY (bM rfl ?z1 ?z2 ?z3 (jX q rfl ?z4 ?z5)) jv (wy ?z6)) (ak ?z7 av)) (tB hf) (by decide)) iF rfl
   case z1=>exact aa (g0 (by decide) (g7 rfl tG)) rfl
   case z2=>exact aZ (aa gD rfl)
   case z3=>exact ej
   case z4=>exact Zb Z4 10 [_,_,_,_,_] [] cK eo hlen
   case z5=>exact dW iL
   case z6=>rw [List.length_drop];exact Zb Z4 11 [_,_] [] iL
   case z7=>exact aa (g0 (by decide) (g7 rfl tG)) rfl
  case y3=>
   have cK:=List.mem_range'_1.mp hq
   have hf:=hE.FD q (by exact Zb Z4 8 [_,_] [] cK) (by exact Zb Z4 9 [_,_] [] cK)
   rw [hc] at hf
   refine' aH rfl (bl rfl (ak (aY (bM rfl ?z1 ?z2 ?z3 (jX q rfl ?z4 ?z5)) jv (wy ?z6)) (ak ?z7 av)) (tB hf) (by decide)) iF rfl
   case z1=>exact aa (g0 (by decide) (g7 rfl tG)) rfl
   case z2=>exact aZ (aa gD rfl)
   case z3=>exact ej
   case z4=>exact Zb Z4 10 [_,_,_,_,_] [] cK eo hlen
   case z5=>exact dW iL
   case z6=>rw [List.length_drop];exact Zb Z4 11 [_,_] [] iL
   case z7=>exact aa (g0 (by decide) (g7 rfl tG)) rfl
 have FF:(s2.set "fits" (.list ((dO p part).map fun (k:Nat)=> .int k))).v "row"=some (fY rl):=bw (by decide) xt
 have uU:(s2.set "fits" (.list ((dO p part).map fun (k:Nat)=> .int k))).v "word"=some (.str (S (aJ rl))):=bw (by decide) rz
 have FG:(s2.set "fits" (.list ((dO p part).map fun (k:Nat)=> .int k))).v "names"=some (.str "ABCDEFGHI"):=bw (by decide) zT
 have wA:(s2.set "fits" (.list ((dO p part).map fun (k:Nat)=> .int k))).v "p"=some (.int p):=bw (by decide) lJ
 have PB:(s2.set "fits" (.list ((dO p part).map fun (k:Nat)=> .int k))).v "stretch"=some (tD (p,b,e)):=bw (by decide) nV
 have PC:(s2.set "fits" (.list ((dO p part).map fun (k:Nat)=> .int k))).v "part"=some (.str (S part)):=bw (by decide) tG
 have FH:(s2.set "fits" (.list ((dO p part).map fun (k:Nat)=> .int k))).v "fits"=some (.list ((dO p part).map fun (k:Nat)=> .int k)):=v_eq
 have qN:je "runs" (s2.set "fits" (.list ((dO p part).map fun (k:Nat)=> .int k))):=wh.set
 have FI:(s2.set "fits" (.list ((dO p part).map fun (k:Nat)=> .int k))).o "runs"=some (rs.map tD):=j6 (by decide) PA
 have qd:(s2.set "fits" (.list ((dO p part).map fun (k:Nat)=> .int k))).h=none:=sd
 generalize s2.set "fits" (.list ((dO p part).map fun (k:Nat)=> .int k))=s3 at*
 by_cases fX:dO p part=[p]
 ·rw [if_pos fX]
  have PD:(s3.own "runs" (rs.map tD++[tD (p,b,e)])).v "row"=some (fY rl):=FF
  have kS:(s3.own "runs" (rs.map tD++[tD (p,b,e)])).v "word"=some (.str (S (aJ rl))):=uU
  have PE:(s3.own "runs" (rs.map tD++[tD (p,b,e)])).v "names"=some (.str "ABCDEFGHI"):=FG
  have kY:(s3.own "runs" (rs.map tD++[tD (p,b,e)])).v "p"=some (.int p):=wA
  have jF:(s3.own "runs" (rs.map tD++[tD (p,b,e)])).v "part"=some (.str (S part)):=PC
  have eG:je "runs" (s3.own "runs" (rs.map tD++[tD (p,b,e)])):=qN.own
  have PF:(s3.own "runs" (rs.map tD++[tD (p,b,e)])).o "runs"=some ((rs++[(p,b,e)]).map tD):=by rw [List.map_append];exact FC
  have yk:(s3.own "runs" (rs.map tD++[tD (p,b,e)])).h=none:=qd
  have PG:∀{I:aK} {B:Scope->St->List Stmt->Option (Out × St)} {sc:Scope} {px ap cp ep:Pos} {a:Expr},(ap.endLine==cp.line)=true->I.e sc s3.v a=some (tD (p,b,e))->bT I cW B sc s3 (.Expr (.Call (.Attribute (.Name "runs" px) "append" ap) [a] [] cp) ep)=some (.aT,s3.own "runs" (rs.map tD++[tD (p,b,e)])):=fun h1 h2=>sI rfl h1 (by decide) FI (by rw [List.length_map];exact Zb Z4 12 [_] [] nY) h2
  generalize s3.own "runs" (rs.map tD++[tD (p,b,e)])=s4 at*
  have FJ:cS.length=3:=rfl
  have ht:(part.take p).length<=8:=by rw [List.length_take];exact Zb cy 9 [_,_] [] hp
  have hd:(part.drop p).length<=8:=by rw [List.length_drop];exact Zb cy 10 [_,_] [] iL
  refine' ⟨s4,aW (eF (bA rfl (aH rfl ?b1 (ic (ak ?b2 av) (Nat.le_of_ble_eq_true rfl)) (jb (jY.jb (ys:=[p]) (by exact hK) (fun _ _=>trivial) (fun _ _=>trivial) fX)))) (aW (PG rfl ?b3) (aW (cQ (bA rfl (aH rfl ?c1 ?c2 tE)) a9) (aW (cQ (bA rfl (aH rfl ?d1 ?d2 tE)) a9) (aW (cQ (bA rfl (aH rfl ?f1 ?f2 tE)) a9) a9))))) a9,⟨PD,kS,PE,eG,PF,yk⟩,kY⟩
  case b1=>exact aa (cj qN (by decide) FH) rfl
  case b2=>exact aa (cj qN (by decide) wA) rfl
  case b3=>exact aa PB rfl
  case c1=>
   refine' bl rfl (ak (aY (aY (bM rfl ?z1 ej (aZ ?z2) (kO (l:=part) p rfl (by exact Zb Z1 14 [_,_,_,_] [] eo hlen) (by exact dW iL))) jv (wy (by exact Zb Z4 13 [_] [] ht))) (bM rfl ?z3 ej (aZ ?z4) (kO (l:=part) p rfl (by exact Zb Z1 14 [_,_,_,_] [] eo hlen) (by exact dW iL))) (add_str (by rw [List.length_append];exact Zb Z4 14 [_,_] [] FJ ht))) (ak ?z5 av)) (tB (hE.one fX)) (by decide)
   case z1=>exact aa (cj eG (by decide) jF) rfl
   case z2=>exact aa (cj eG (by decide) kY) rfl
   case z3=>exact aa (cj eG (by decide) jF) rfl
   case z4=>exact aa (cj eG (by decide) kY) rfl
   case z5=>exact aa (cj eG (by decide) jF) rfl
  case c2=>
   refine' nJ rfl (o6 (bl rfl (ak ?z1 av) (pg (len_str (by exact dW iL))) (by decide)) ?z2 (zX z0)) aC zY
   case z1=>exact aa (cj eG (by decide) jF) rfl
   case z2=>exact aa (cj eG (by decide) kY) rfl
  case d1=>
   refine' bl rfl (ak (ek rfl (by decide) rfl jv (ak (LQ (bM rfl ?z1 ej (aZ ?z2) (kO (l:=part) p rfl (by exact Zb Z1 14 [_,_,_,_] [] eo hlen) (by exact dW iL)))) av) (Pw (by exact Zb cy 11 [_] [] ht))) (ak ?z5 av)) (tB (hE.two fX)) (by decide)
   case z1=>exact aa (cj eG (by decide) jF) rfl
   case z2=>exact aa (cj eG (by decide) kY) rfl
   case z5=>exact aa (cj eG (by decide) jF) rfl
  case d2=>
   cases hm:part.length % p==0 with
   | true=>
    refine' LU (nJ rfl (o6 (bl rfl (ak ?z1 av) (pg (len_str (by exact dW iL))) (by decide)) ?z2 (zX z0)) aC (zY.trans (congrArg some hm))) (nJ rfl (bl rfl (ak ?z3 av) (pg (len_str (by exact dW iL))) (by decide)) (DS ?z4) Pu)
    case z1=>exact aa (cj eG (by decide) jF) rfl
    case z2=>exact aa (cj eG (by decide) kY) rfl
    case z3=>exact aa (cj eG (by decide) jF) rfl
    case z4=>exact aa (cj eG (by decide) kY) rfl
   | false=>
    refine' LV (nJ rfl (o6 (bl rfl (ak ?z1 av) (pg (len_str (by exact dW iL))) (by decide)) ?z2 (zX z0)) aC (zY.trans (congrArg some hm)))
    case z1=>exact aa (cj eG (by decide) jF) rfl
    case z2=>exact aa (cj eG (by decide) kY) rfl
  case f1=>
   refine' bl rfl (ak (aY (aY (bM rfl ?z1 (aZ ?z2) ej (jX (l:=part) p rfl (by exact Zb Z1 14 [_,_,_,_] [] eo hlen) (by exact dW iL))) jv (wy (by exact Zb Z4 13 [_] [] hd))) (bM rfl ?z3 (aZ ?z4) ej (jX (l:=part) p rfl (by exact Zb Z1 14 [_,_,_,_] [] eo hlen) (by exact dW iL))) (add_str (by rw [List.length_append];exact Zb Z4 14 [_,_] [] FJ hd))) (ak ?z5 av)) (tB (hE.ux fX)) (by decide)
   case z1=>exact aa (cj eG (by decide) jF) rfl
   case z2=>exact aa (cj eG (by decide) kY) rfl
   case z3=>exact aa (cj eG (by decide) jF) rfl
   case z4=>exact aa (cj eG (by decide) kY) rfl
   case z5=>exact aa (cj eG (by decide) jF) rfl
  case f2=>
   refine' nJ rfl (bl rfl (ak ?z1 av) (pg (len_str (by exact dW iL))) (by decide)) (DS ?z2) eq_2
   case z1=>exact aa (cj eG (by decide) jF) rfl
   case z2=>exact aa (cj eG (by decide) kY) rfl
 ·rw [if_neg fX]
  refine' jE (cQ (bA rfl (aH rfl ?a1 (ic (ak ?a2 av) (Nat.le_of_ble_eq_true rfl)) (jz (jY.jz (ys:=[p]) (by exact hK) (fun _ _=>trivial) (fun _ _=>trivial) fX)))) a9) ?Ta
  case a1=>exact aa (cj qN (by decide) FH) rfl
  case a2=>exact aa (cj qN (by decide) wA) rfl
  exact ⟨_,a9,⟨FF,uU,FG,qN,FI,qd⟩,wA⟩
noncomputable def kZ (rl:List Nat) (rs:List (Nat × Nat × Nat)) (t:Nat × Nat × Nat):List (Nat × Nat × Nat):=if dO t.1 (cD (aJ rl) t.2.1 t.2.2)=[t.1] then rs++[t] else rs
theorem FK {rl:List Nat} {rs:List (Nat × Nat × Nat)} {t:Nat × Nat × Nat}:(kZ rl rs t).length<=rs.length+1:=by
 unfold kZ;split
 ·rw [List.length_append];exact Nat.le_refl _
 ·exact Zb Z1 8 [_] []
theorem FL {rl:List Nat}:∀{xs rs:List (Nat × Nat × Nat)},(xs.foldl (kZ rl) rs).length<=rs.length+xs.length
 | [],rs=>Nat.le_refl _
 | t::xs,rs=>by
  rw [List.foldl_cons,List.length_cons]
  have h1:=FL (rl:=rl) (xs:=xs) (rs:=kZ rl rs t)
  have h2:=FK (rl:=rl) (rs:=rs) (t:=t)
  exact Zb Z3 2 [_,_,_,_] [] h2 h1
theorem cs (P:Params) {x:Str} (h:x∈(["row","word","names","runs","p","stretch","part","fits","k","small","great","due","begin","end","told","rising","step","ranks","size","having","rest"]:List Str)):dD (aG P) x=true:=by
 have:(["row","word","names","runs","p","stretch","part","fits","k","small","great","due","begin","end","told","rising","step","ranks","size","having","rest"]:List Str).all (dD (aG P))=true:=by rfl
 exact List.all_eq_true.mp this x h
theorem wB (P:Params) {x:Str} {q:Pos} {st:St} {d:PyData} (h:dD (aG P) x=true):dE (aG P) (.Name x q) st d=some (st.set x d):=by
 show (if dD (aG P) x=true then _ else none)=_
 rw [if_pos h]
structure z8 (rl:List Nat) (p:Nat) (xs:List (Nat × Nat × Nat)):Prop where
 mem:∀t∈xs,t.1=p/\t.2.1+2*p<=t.2.2/\t.2.2<=8/\wz p (cD (aJ rl) t.2.1 t.2.2)
theorem FN (P:Params) {rl:List Nat} (hl:rl.length=8) {p:Nat} (hp:p<=4) {body:List Stmt} {t0 i0:Expr} {tq iq:Expr} {q0 q1 q2:Pos} (hs:sL P 4= .For tq iq [.For t0 i0 body [] q0] [] q1):∀(xs rs:List (Nat × Nat × Nat)) (st:St),rs.length+xs.length<=100->z8 rl p xs->mR rl rs st->st.v "p"=some (.int p)->
  ∃ag,dM (dE (aG P) (.Name "stretch" q2)) (fun st=>bc IL cW 8 (aG P) st body) (xs.map tD) st=some (.aT,ag)/\mR rl (xs.foldl (kZ rl) rs) ag/\ag.v "p"=some (.int p)
 | [],rs,st,hn,ho,hi,lO=>⟨st,rfl,hi,lO⟩
 | (p',b,e)::xs,rs,st,hn,ho,hi,lO=>by
  refine fm (ho.mem _ (.head _):) fun h1 h2 h3 h4=> ?_
  simp only at h1 h2 h3 h4
  subst h1
  rw [List.length_cons] at hn
  refine ey (Px P hl hp h2 h3 h4 hi lO (by exact Zb cz 25 [_,_] [] hn) hs:) fun aR g1 g2 g3=> ?_
  have iE:=FK (rl:=rl) (rs:=rs) (t:=(p',b,e))
  refine ey (FN P hl hp (q2:=q2) hs xs (kZ rl rs (p',b,e)) aR (by exact Zb cz 26 [_,_,_] [] hn iE) ⟨fun t ht=>ho.mem t (.tail _ ht)⟩ g2 g3:) fun ag f1 f2 f3=> ?_
  refine ⟨ag, ?_,f2,f3⟩
  have hb:dE (aG P) (.Name "stretch" q2) st (tD (p',b,e))=some (st.set "stretch" (tD (p',b,e))):=wB P (cs P (by decide))
  show (dE (aG P) (.Name "stretch" q2) st (tD (p',b,e))).bind _=_
  rw [hb,Option.bind_some]
  show (bc IL cW 8 (aG P) (st.set "stretch" (tD (p',b,e))) body).bind _=_
  rw [g1,Option.bind_some]
  exact f1
noncomputable def ik (rl:List Nat) (eS:Nat->List (Nat × Nat × Nat)):List (Nat × Nat × Nat):=(List.range' 1 4).foldl (fun rs p=>(eS p).foldl (kZ rl) rs) []
theorem PH {ds d} (h:tA ds=some d):jD.fn "_law_stretches" ds=some d:=h
theorem PI {rl:List Nat} {p:Nat} (h1:1<=p) (h2:p<=rl.length) (h3:rl.length<=4000):tA [fY rl, .int p]=some (.list ((nN (b9 rl) p).map bZ)):=by
 show (intsOf ((b9 rl).map .int)).bind _=_
 rw [jU,Option.bind_some,if_pos ⟨by exact Zb Z3 11 [_] [] h1,by unfold b9;rw [List.length_map];simpa using h2,by unfold b9;rw [List.length_map];exact h3⟩]
 rfl
theorem PJ (P:Params) {rl:List Nat} (hl:rl.length=8) (eS:Nat->List (Nat × Nat × Nat)) (PK:∀p,1<=p->p<=4->nN (b9 rl) p=(eS p).map fO) (bt:∀p,1<=p->p<=4->z8 rl p (eS p)) (PL:∀p,(eS p).length<=20) {st:St} (hi:mR rl [] st):
  ∃ag,bT IL cW (bc IL cW 9) (aG P) st (sL P 4)=some (.aT,ag)/\mR rl (ik rl eS) ag:=by
 have hb:sL P 4=sL P 4:=rfl
 conv at hb=>rhs;whnf
 rw [hb]
 refine Exists.elim (yU (I:=IL) (c:=cW) (n:=9) (sc:=aG P) (fun p rs st=>mR rl rs st/\rs.length<=20*(p - 1)) (fun rs p=>(eS p).foldl (kZ rl) rs) 1 4 [] rfl (by exact Zb cz 27 [] []) (eE rfl rfl (ak aC (ak aC av)) (jw 1 5 rfl rfl (by exact lj) (by exact Zb cz 28 [] []))) ⟨hi,Nat.zero_le _⟩ (fun p kF lJ rs st hi=> ?_)) (fun ag h=>⟨ag,h.1,h.2.1⟩)
 ·(refine xA hi ?_;clear hi;intro hi hn)
  have iC:∀{q:Pos},dE (aG P) (.Name "p" q) st (.int p)=some (st.set "p" (.int p)):=wB P (cs P (by decide))
  refine ⟨_,iC, ?_⟩
  have jj:mR rl rs (st.set "p" (.int p)):=⟨bw (by decide) hi.row,bw (by decide) hi.word,bw (by decide) hi.names,hi.o.set,j6 (by decide) hi.r,hi.h⟩
  have lO:(st.set "p" (.int p)).v "p"=some (.int p):=v_eq
  generalize st.set "p" (.int p)=s1 at*
  have hc:=PL p
  obtain ⟨s2,f1,f2,f3⟩:=FN P hl (p:=p) (by exact Zb Z2 29 [_] [] lJ) hb (eS p) rs s1 (by exact Zb cz 29 [_,_,_] [] lJ hc hn) (bt p (by exact kF) (by exact Zb Z2 29 [_] [] lJ)) jj lO
  refine ⟨s2,aW ?_ a9,f2, ?_⟩
  ·refine (nL rfl (items:=(eS p).map tD) ?_ (by rw [List.length_map];exact Zb cz 30 [_] [] hc)).trans f1
   have hd:tA [fY rl, .int p]=some (.list ((eS p).map tD)):=by
    rw [PI (by exact kF) (by exact Zb cz 31 [_,_] [] lJ hl) (by exact Zb cz 32 [_] [] hl),PK p (by exact kF) (by exact Zb Z2 29 [_] [] lJ),List.map_map];rfl
   refine' vo (by decide) (bl rfl (ak (aa jj.row rfl) (ak (aa lO rfl) av)) (PH hd) (by decide))
  ·have:=FL (rl:=rl) (xs:=eS p) (rs:=rs)
   have:20*(p+1 - 1)=20*(p - 1)+20:=by exact Zb cz 33 [_] [] kF
   exact Zb cz 34 [_,_,_,_] [] this hc hn ‹_›
noncomputable def NL:List Nat:=[65,66,67,68,69,70,71,72,73]
noncomputable def FP:List Nat:=[97,98,99,100,101,102,103,104,105]
theorem PM:("ABCDEFGHI":Str)=S NL:=by decide
theorem FQ:Txt.lower (S NL)=S FP:=by decide+kernel
noncomputable def sz (r:Bool) (k:Nat):Nat:=(if r then 97 else 65)+k
noncomputable abbrev Cl:=Nat × Bool × (Nat × Nat × Nat)
noncomputable def qO (x:Cl):Str × Str:=(S [sz x.2.1 x.1],cM x.2.2)
noncomputable def bJ (x:Cl):PyData:=cR (qO x)
theorem FR {r:Bool} {k:Nat} (h:k < 8):Txt.lower (S [sz r k])=S [97+k]:=by
 cases r with
 | true=>exact (wo k h).2
 | false=>exact (wo k h).1
theorem wC {r:Bool} {k:Nat} (h:k < 8):S [sz r k]∈lN:=by
 refine List.mem_flatMap.mpr ⟨k,List.mem_range.mpr h, ?_⟩
 cases r with
 | true=>exact .tail _ (.head _)
 | false=>exact .head _
theorem FT {r r':Bool} {k k':Nat} (h:k < 8) (h':k' < 8):mP (S [sz r k]) (S [sz r' k'])=(k==k'):=by
 unfold mP
 rw [FR h,FR h',fN,fN]
 by_cases q:k=k'
 ·subst q;simp
 ·rw [beq_eq_false_iff_ne.mpr q,beq_eq_false_iff_ne]
  intro e
  injection e with e _
  exact Zb cA 21 [_,_] [] e q
theorem PN {cl:List Cl} {r:Bool} {k:Nat} (h:∀x∈cl,x.1 < 8) (hk:k < 8):eR (cl.map qO) (S [sz r k])=(cl.find? fun x=>x.1==k).map fun x=>cM x.2.2:=by
 unfold eR
 induction cl with
 | nil=>rfl
 | cons x cl ih=>
  rw [List.map_cons,List.find?_cons,List.find?_cons]
  have e:mP (qO x).1 (S [sz r k])=(x.1==k):=FT (h x (.head _)) hk
  rw [e]
  cases q:x.1==k with
  | true=>rfl
  | false=>exact ih fun y hy=>h y (.tail _ hy)
theorem PO {cl:List Cl} {r:Bool} {k:Nat} {v:Str} (h:∀x∈cl,x.1 < 8) (hk:k < 8) (hn:k∉cl.map (·.1)):gZ (cl.map qO) (S [sz r k]) v=(v,cl.map qO++[(S [sz r k],v)]):=by
 unfold gZ
 have:(cl.find? fun x=>x.1==k)=none:=by
  rw [List.find?_eq_none]
  intro x hx q
  exact hn (List.mem_map.mpr ⟨x,hx,beq_iff_eq.mp q⟩)
 rw [PN h hk,this];rfl
noncomputable def iM (t:Nat × Nat × Nat):Prop:=1<=t.1/\t.1<=4/\t.2.1+2*t.1<=t.2.2/\t.2.2<=8
theorem z9 {t:Nat × Nat × Nat} (h:iM t):cM t∈n0:=by
 obtain ⟨p,b,e⟩:=t
 (refine fm h ?_;clear h;intro h1 h2 h3 h4)
 refine .tail _ (List.mem_map.mpr ⟨(p,b,e), ?_,rfl⟩)
 unfold spans
 simp only at h1 h2 h3 h4
 refine List.mem_flatMap.mpr ⟨p, ?_,List.mem_flatMap.mpr ⟨b,List.mem_range.mpr (by exact Zb Z3 12 [_,_,_] [] h3 h4),List.mem_map.mpr ⟨e,List.mem_filter.mpr ⟨List.mem_range.mpr (by exact Zb Z3 13 [_] [] h4),decide_eq_true h3⟩,rfl⟩⟩⟩
 have:p=1\/p=2\/p=3\/p=4:=by exact Zb cA 22 [_] [] h1 h2
 rcases this with rfl | rfl | rfl | rfl<;>decide
theorem PQ {cl:List Cl} {r:Bool} {k:Nat} {t:Nat × Nat × Nat} (h:∀x∈cl,x.1 < 8) (hk:k < 8) (hn:k∉cl.map (·.1)) (ht:iM t) (hl:cl.length<=4000):tz (cl.map bJ) (S [sz r k]) (cM t)=some (cM t,(cl++[(k,r,t)]).map bJ):=by
 have e:cl.map bJ=(cl.map qO).map cR:=by rw [List.map_map];rfl
 rw [e,Fv (wC hk) (z9 ht) (by rw [List.length_map];exact hl) (fun p hp=>by
  (refine aj (List.mem_map.mp hp:) fun x hx ay=> ?_;subst ay)
  exact wC (h x hx)),PO h hk hn]
 simp only [List.map_append,List.map_map,List.map_cons,List.map_nil]
 rfl
section
variable {I:aK} {c:Cf} {B:Scope->St->List Stmt->Option (Out × St)} {sc:Scope} {st:St}
theorem setC {p ap cp:Pos} {e1 e2:Expr} (cX:(ap.endLine==cp.line)=true):mA (.Call (.Attribute (.Name "claims" p) "setdefault" ap) [e1,e2] [] cp)=some ⟨p,ap,cp,e1,e2⟩:=by
 exact if_pos ⟨rfl,rfl,cX⟩
theorem FU {p ap cp q:Pos} {e1 e2 r:Expr} {op:CmpOp} {n v x:Str} {hs bR:List PyData} {d:PyData} {b:Bool} (cX:(ap.endLine==cp.line)=true) (hm:behindInMarks op r=false) (ho:st.o cY=none) (h1:I.e sc st.full e1=some (.str n)) (h2:I.e sc st.full e2=some (.str v)) (hh:st.h=some hs) (eO:c.eO hs n v=some (x,bR)) (h3:I.e sc st.full r=some d) (h4:cg op (.str x) d=some b):
  oY I c sc st (.Compare (.Call (.Attribute (.Name "claims" p) "setdefault" ap) [e1,e2] [] cp) [op] [r] q)=some (b,{st with h:=some bR}):=by
 show (mA (.Call (.Attribute (.Name "claims" p) "setdefault" ap) [e1,e2] [] cp)).bind _=_
 rw [setC cX]
 show uZ I c sc st ⟨p,ap,cp,e1,e2⟩ op r=_
 unfold uZ
 rw [if_neg (by rw [hm,ho];simp),h1,h2,hh]
 show (c.eO hs n v).bind _=_
 rw [eO,Option.bind_some,h3,Option.bind_some,h4];rfl
theorem PR {p ap cp q q2:Pos} {e1 e2 r a:Expr} {op:CmpOp} (cX:(ap.endLine==cp.line)=true) (ha:I.t sc st.full a=some false):jS I c sc st (.BoolOp .And [a, .Compare (.Call (.Attribute (.Name "claims" p) "setdefault" ap) [e1,e2] [] cp) [op] [r] q] q2)=some (false,st):=by
 show oM _ _ (oM ((mA (.Call (.Attribute (.Name "claims" p) "setdefault" ap) [e1,e2] [] cp)).map _) _ _)=_
 rw [setC cX]
 show (I.t sc st.full a).bind _=_
 rw [ha];rfl
theorem PS {p ap cp q q2:Pos} {e1 e2 r a:Expr} {op:CmpOp} {R:Option (Bool × St)} (cX:(ap.endLine==cp.line)=true) (ha:I.t sc st.full a=some true) (h:oY I c sc st (.Compare (.Call (.Attribute (.Name "claims" p) "setdefault" ap) [e1,e2] [] cp) [op] [r] q)=R):jS I c sc st (.BoolOp .And [a, .Compare (.Call (.Attribute (.Name "claims" p) "setdefault" ap) [e1,e2] [] cp) [op] [r] q] q2)=R:=by
 show oM _ _ (oM ((mA (.Call (.Attribute (.Name "claims" p) "setdefault" ap) [e1,e2] [] cp)).map _) _ _)=_
 rw [setC cX]
 show (I.t sc st.full a).bind _=_
 rw [ha];exact h
theorem PT {p ap cp q:Pos} {e1 e2 r:Expr} {op:CmpOp} {R:Option (Bool × St)} (cX:(ap.endLine==cp.line)=true) (h:oY I c sc st (.Compare (.Call (.Attribute (.Name "claims" p) "setdefault" ap) [e1,e2] [] cp) [op] [r] q)=R):jS I c sc st (.Compare (.Call (.Attribute (.Name "claims" p) "setdefault" ap) [e1,e2] [] cp) [op] [r] q)=R:=by
 show oM (mA (.Call (.Attribute (.Name "claims" p) "setdefault" ap) [e1,e2] [] cp)) _ _=_
 rw [setC cX]
 exact h
end
theorem Aa {wl:List Nat} {p:Nat} {r:Bool}:∀(ks f:List Nat),ks.foldl (jZ wl p r) f=f++ks.filter (eb wl p r)
 | [],f=>by simp
 | k::ks,f=>by
  rw [List.foldl_cons,Aa ks,List.filter_cons]
  unfold jZ
  cases eb wl p r k with
  | true=>rw [if_pos rfl,if_pos rfl,List.append_assoc];rfl
  | false=>rw [if_neg (by simp),if_neg (by simp)]
structure Bs (rl:List Nat) (small great:List Int) (st:St):Prop where
 row:st.v "row"=some (fY rl)
 word:st.v "word"=some (.str (S (aJ rl)))
 names:st.v "names"=some (.str (S NL))
 small:st.v "small"=some (.list (small.map .int))
 great:st.v "great"=some (.list (great.map .int))
 o:je "due" st
theorem Bs.set {rl:List Nat} {small great:List Int} {st:St} {y:Str} {d:PyData} (B:Bs rl small great st) (h:y∉(["row","word","names","small","great"]:List Str)):Bs rl small great (st.set y d):=by
 have f:∀x,x∈(["row","word","names","small","great"]:List Str)->x≠y:=fun x hx q=>h (q▸hx)
 exact ⟨bw (f _ (by decide)) B.row,bw (f _ (by decide)) B.word,bw (f _ (by decide)) B.names,bw (f _ (by decide)) B.small,bw (f _ (by decide)) B.great,B.o.set⟩
theorem Bs.own {rl:List Nat} {small great:List Int} {st:St} {ds:List PyData} (B:Bs rl small great st):Bs rl small great (st.own "due" ds):=⟨B.row,B.word,B.names,B.small,B.great,B.o.own⟩
theorem Bs.hh {rl:List Nat} {small great:List Int} {st:St} {hs:Option (List PyData)} (B:Bs rl small great st):Bs rl small great {st with h:=hs}:=⟨B.row,B.word,B.names,B.small,B.great,B.o⟩
noncomputable def j7:Stmt->List Stmt
 | .For _ _ b _ _=>b
 | _=>[]
noncomputable def sM (P:Params) (i:Nat):Stmt:=(j7 (sL P 11)).getD i (.Pass qM)
noncomputable def sK (P:Params):List Stmt:=j7 (sM P 5)
theorem PU (P:Params):j7 (sL P 11)=[sM P 0,sM P 1,sM P 2,sM P 3,sM P 4,sM P 5,sM P 6]:=by rfl
noncomputable def fi (r:Bool):List Nat:=if r then FP else NL
theorem Ab {r:Bool} {k:Nat} (h:k < 8):(fi r).getD k 0=sz r k:=by
 have:∀r:Bool,∀k,k < 8->(fi r).getD k 0=sz r k:=by decide
 exact this r k h
theorem qP {r:Bool}:(fi r).length=9:=by cases r<;>rfl
structure lP (rl:List Nat) (small great:List Int) (p b e:Nat) (r:Bool) (rk:List Int) (dl:List PyData) (cl:List Cl) (st:St):Prop where
 B:Bs rl small great st
 il:st.o "due"=some dl
 h:st.h=some (cl.map bJ)
 pv:st.v "p"=some (.int p)
 begin:st.v "begin"=some (.int b)
 fin:st.v "end"=some (.int e)
 n3:st.v "told"=some (.str (cM (p,b,e)))
 rising:st.v "rising"=some (.bool r)
 iH:st.v "ranks"=some (.list (rk.map .int))
 size:st.v "size"=some (.str (S (fi r)))
theorem lP.set {rl:List Nat} {small great rk:List Int} {p b e:Nat} {r:Bool} {dl:List PyData} {cl:List Cl} {st:St} {d:PyData} (K:lP rl small great p b e r rk dl cl st):lP rl small great p b e r rk dl cl (st.set "k" d):=
 ⟨K.B.set (by decide),j6 (by decide) K.il,K.h,bw (by decide) K.pv,bw (by decide) K.begin,bw (by decide) K.fin,bw (by decide) K.n3,bw (by decide) K.rising,bw (by decide) K.iH,bw (by decide) K.size⟩
theorem FV {ds d} (h:wt ds=some d):jD.fn "_law_stop" ds=some d:=h
theorem FW {rk:List Int} {k:Nat} (h:rk.length=8) (hk:k < 8):wt [.list (rk.map .int), .int k]=some (.int (jy rk k)):=by
 show (intsOf (rk.map .int)).bind _=_
 rw [jU,Option.bind_some,if_pos ⟨h,by exact m5,by exact Zb Z4 34 [_] [] hk⟩]
 rfl
noncomputable def n4 (rk:List Int) (p k:Nat):Bool:=((jy rk k:Int) - (k:Int))==(p:Int)
theorem PV (P:Params) {n:Nat} {rl:List Nat} {small great rk:List Int} (mQ:rk.length=8) {p b e:Nat} {r:Bool} (jf:iM (p,b,e)) {dl:List PyData} {cl:List Cl} {k:Nat} {st:St} (hk:k < 8) (bD:n4 rk p k=eb (aJ rl) p r k) (aM:∀x∈cl,x.1 < 8) (dn:cl.length<=4000) (Ac:eb (aJ rl) p r k=true->k∉cl.map (·.1)) (K:lP rl small great p b e r rk dl cl st):
  ∃ag,bc IL cW (n+2) (aG P) (st.set "k" (.int k)) (sK P)=some (.aT,ag)/\lP rl small great p b e r rk dl (if eb (aJ rl) p r k=true then cl++[(k,r,(p,b,e))] else cl) ag:=by
 have aQ:aG P=aG P:=rfl
 conv at aQ=>rhs;whnf
 have hb:sK P=sK P:=rfl
 conv at hb=>rhs;whnf
 rw [aQ,hb]
 clear aQ hb
 have K1:=K.set (d:= .int k)
 have kA:(st.set "k" (.int k)).v "k"=some (.int k):=v_eq
 generalize st.set "k" (.int k)=s1 at*
 have hB:=K1.B
 have ho:=hB.o
 have hp:=K1.pv
 have hr:=K1.iH
 have hz:=K1.size
 have ht:=K1.n3
 have wD:cg .Eq (.int ((jy rk k:Int) - (k:Int))) (.int (p:Int))=some (eb (aJ rl) p r k):=congrArg some bD
 have ph:s1.full "k"=some (.int k):=cj ho (by decide) kA
 have FX:s1.full "p"=some (.int p):=cj ho (by decide) hp
 have qQ:s1.full "ranks"=some (.list (rk.map .int)):=cj ho (by decide) hr
 have FY:s1.full "told"=some (.str (cM (p,b,e))):=cj ho (by decide) ht
 have Ad:s1.full "size"=some (.str (S (fi r))):=cj ho (by decide) hz
 cases a8:eb (aJ rl) p r k with
 | false=>
  rw [if_neg (by simp)]
  rw [a8] at wD
  exact ⟨s1,aW (cQ (PR rfl (aH rfl (cP (bl rfl (ak (aa qQ rfl) (ak (aa ph rfl) av)) (FV (FW mQ hk)) (by decide)) (aa ph rfl) rfl) (aa FX rfl) wD)) a9) a9,K1⟩
 | true=>
  rw [if_pos rfl]
  rw [a8] at wD
  have eO:cW.eO (cl.map bJ) (S [(fi r).getD k 0]) (cM (p,b,e))=some (cM (p,b,e),(cl++[(k,r,(p,b,e))]).map bJ):=by
   rw [Ab hk];exact PQ aM hk (Ac a8) jf dn
  refine ⟨{s1 with h:=some ((cl++[(k,r,(p,b,e))]).map bJ)},aW (cQ (PS rfl (aH rfl (cP (bl rfl (ak (aa qQ rfl) (ak (aa ph rfl) av)) (FV (FW mQ hk)) (by decide)) (aa ph rfl) rfl) (aa FX rfl) wD) (FU (d:= .str (cM (p,b,e))) rfl rfl (ho _ (by decide)) (bF rfl Ad rfl (aa ph rfl) (item_str k rfl (by rw [qP];exact mZ hk) (by rw [qP];exact Zb Z2 4 [] []))) (aa FY rfl) K1.h eO (aa FY rfl) ?b4)) a9) a9,⟨hB.hh,K1.il,rfl,hp,K1.begin,K1.fin,ht,K1.rising,hr,hz⟩⟩
  show some ((cM (p,b,e)).cps.toList != (cM (p,b,e)).cps.toList)=_
  simp
theorem FZ (P:Params) {n:Nat} {rl:List Nat} {small great rk:List Int} (mQ:rk.length=8) {p b e:Nat} {r:Bool} (jf:iM (p,b,e)) {dl:List PyData} {q:Pos}:∀(ks:List Nat) (cl:List Cl) (st:St),(∀k∈ks,k < 8/\n4 rk p k=eb (aJ rl) p r k)->(cl.map (·.1)++ks.filter (eb (aJ rl) p r)).Nodup->(∀x∈cl,x.1 < 8)->cl.length+ks.length<=4000->lP rl small great p b e r rk dl cl st->
  ∃ag,dM (dE (aG P) (.Name "k" q)) (fun st=>bc IL cW (n+2) (aG P) st (sK P)) (ks.map fun (k:Nat)=> .int k) st=some (.aT,ag)/\lP rl small great p b e r rk dl (cl++(ks.filter (eb (aJ rl) p r)).map fun k=>(k,r,(p,b,e))) ag
 | [],cl,st,_,_,_,_,K=>⟨st,rfl,by simpa using K⟩
 | k::ks,cl,st,F0,gk,aM,dn,K=>by
  refine xA (F0 k (.head _):) fun hk bD=> ?_
  rw [List.length_cons] at dn
  have Ac:eb (aJ rl) p r k=true->k∉cl.map (·.1):=fun h m=>by
   rw [List.filter_cons,if_pos h] at gk
   exact (List.nodup_append.mp gk).2.2 _ m _ (.head _) rfl
  refine aj (PV P (n:=n) mQ jf hk bD aM (by exact Zb cB 32 [_,_] [] dn) Ac K:) fun s2 g1 g2=> ?_
  have hb:dE (aG P) (.Name "k" q) st (.int k)=some (st.set "k" (.int k)):=wB P (cs P (by decide))
  have fin:∀pj,lP rl small great p b e r rk dl pj s2->(∀x∈pj,x.1 < 8)->pj.length+ks.length<=4000->(pj.map (·.1)++ks.filter (eb (aJ rl) p r)).Nodup->∃ag,dM (dE (aG P) (.Name "k" q)) (fun st=>bc IL cW (n+2) (aG P) st (sK P)) ((k::ks).map fun (k:Nat)=> .int k) st=some (.aT,ag)/\lP rl small great p b e r rk dl (pj++(ks.filter (eb (aJ rl) p r)).map fun k=>(k,r,(p,b,e))) ag:=fun pj K' h1 h2 h3=>by
   obtain ⟨ag,f1,f2⟩:=FZ P mQ jf (q:=q) ks pj s2 (fun k hk=>F0 k (.tail _ hk)) h3 h1 h2 K'
   refine ⟨ag, ?_,f2⟩
   show (dE (aG P) (.Name "k" q) st (.int k)).bind _=_
   rw [hb,Option.bind_some]
   show (bc IL cW (n+2) (aG P) (st.set "k" (.int k)) (sK P)).bind _=_
   rw [g1,Option.bind_some]
   exact f1
  cases a8:eb (aJ rl) p r k with
  | false=>
   rw [a8,if_neg (by simp)] at g2
   rw [List.filter_cons,if_neg (by rw [a8];simp)] at gk ⊢
   exact fin cl g2 aM (by exact Zb cB 33 [_,_] [] dn) gk
  | true=>
   rw [a8,if_pos rfl] at g2
   rw [List.filter_cons,if_pos a8] at gk ⊢
   refine aj (fin _ g2 (fun x hx=>by
    rcases List.mem_append.mp hx with m | m
    ·exact aM x m
    ·rw [List.mem_singleton.mp m];exact hk) (by rw [List.length_append,List.length_singleton];exact Zb cB 34 [_,_] [] dn) (by rw [List.map_append,List.append_assoc];exact gk):) fun ag f1 f2=> ?_
   refine ⟨ag,f1, ?_⟩
   rw [List.map_cons]
   rw [List.append_assoc] at f2
   exact f2
structure jG (rl:List Nat) (small great:List Int) (p b e:Nat) (r:Bool) (dl:List PyData) (cl:List Cl) (st:St):Prop where
 B:Bs rl small great st
 il:st.o "due"=some dl
 h:st.h=some (cl.map bJ)
 pv:st.v "p"=some (.int p)
 begin:st.v "begin"=some (.int b)
 fin:st.v "end"=some (.int e)
 n3:st.v "told"=some (.str (cM (p,b,e)))
 rising:st.v "rising"=some (.bool r)
theorem jG.set {rl:List Nat} {small great:List Int} {p b e:Nat} {r:Bool} {dl:List PyData} {cl:List Cl} {st:St} {y:Str} {d:PyData} (K:jG rl small great p b e r dl cl st) (h:y∉(["row","word","names","small","great","due","p","begin","end","told","rising"]:List Str)):jG rl small great p b e r dl cl (st.set y d):=by
 have f:∀x,x∈(["row","word","names","small","great","due","p","begin","end","told","rising"]:List Str)->x≠y:=fun x hx q=>h (q▸hx)
 refine ⟨K.B.set fun m=>h ?_,j6 (f _ (by decide)) K.il,K.h,bw (f _ (by decide)) K.pv,bw (f _ (by decide)) K.begin,bw (f _ (by decide)) K.fin,bw (f _ (by decide)) K.n3,bw (f _ (by decide)) K.rising⟩
 simp only [List.mem_cons,List.not_mem_nil,or_false] at m ⊢
 rcases m with q | q | q | q | q<;>simp [q]
theorem jG.rise {rl:List Nat} {small great:List Int} {p b e:Nat} {r r':Bool} {dl:List PyData} {cl:List Cl} {st:St} (K:jG rl small great p b e r dl cl st):jG rl small great p b e r' dl cl (st.set "rising" (.bool r')):=
 ⟨K.B.set (by decide),j6 (by decide) K.il,K.h,bw (by decide) K.pv,bw (by decide) K.begin,bw (by decide) K.fin,bw (by decide) K.n3,v_eq⟩
theorem pk {k:Nat} (h:k < 9):NL.getD k 0=65+k:=by
 have:∀k,k < 9->NL.getD k 0=65+k:=by decide
 exact this k h
noncomputable def dU (rl:List Nat) (p e:Nat):Bool:=if e < 8 then decide (rl.getD e 0 < rl.getD (e - p) 0) else true
theorem F4 {ds d} (h:tF ds=some d):jD.fn "ISTERMINAL" ds=some d:=h
theorem F5 {ds d} (h:yN ds=some d):jD.fn "ISNONTERMINAL" ds=some d:=h
theorem F6 {a b:Bool} (h:a=b):cg .IsNot (.bool a) (.bool b)=some false:=by subst h;exact tE
theorem PW {a b:Bool} (h:a= !b):cg .Is (.bool a) (.bool b)=some false:=by
 subst h
 show some ((!b)==b)=_
 cases b<;>rfl
theorem PX {I:aK} {c:Cf} {B:Scope->St->List Stmt->Option (Out × St)} {sc:Scope} {st ag:St} {t:Expr} {b o:List Stmt} {p:Pos} {R:St->Prop} (h:jS I c sc st t=some (true,ag)) (hb:∃s4,B sc ag b=some (.aT,s4)/\R s4):∃s4,bT I c B sc st (.If t b o p)=some (.aT,s4)/\R s4:=by
 (refine aj hb ?_;clear hb;intro s4 h1 h2)
 exact ⟨s4,eF h h1,h2⟩
theorem PY (P:Params) {n:Nat} {rl:List Nat} (hl:rl.length=8) {small great:List Int} {p b e:Nat} (jf:iM (p,b,e)) {dl:List PyData} {cl:List Cl} {st:St} (dZ:e < 8->rl.getD e 0≠rl.getD (e - p) 0) (K:jG rl small great p b e true dl cl st):
  ∃ag,bT IL cW (bc IL cW (n+3)) (aG P) st (sM P 2)=some (.aT,ag)/\jG rl small great p b e (dU rl p e) dl cl ag:=by
 have aQ:aG P=aG P:=rfl
 conv at aQ=>rhs;whnf
 have hb:sM P 2=sM P 2:=rfl
 conv at hb=>rhs;whnf
 rw [aQ,hb]
 clear aQ hb
 (refine fm jf ?_;clear jf;intro h1 h2 h3 h4)
 simp only at h1 h2 h3 h4
 have F7:st.full "end"=some (.int e):=cj K.B.o (by decide) K.fin
 by_cases he:e < 8
 ·have hr:dU rl p e=decide (rl.getD e 0 < rl.getD (e - p) 0):=if_pos he
  have dZ:=dZ he
  have g1:(b9 rl).getD e 0=(rl.getD e 0:Nat):=by
   unfold b9;rw [List.getD_eq_getElem?_getD,List.getElem?_map,List.getD_eq_getElem?_getD,List.getElem?_eq_getElem (by exact m6 he hl)];rfl
  have g2:(b9 rl).getD (e - p) 0=(rl.getD (e - p) 0:Nat):=by
   unfold b9;rw [List.getD_eq_getElem?_getD,List.getElem?_map,List.getD_eq_getElem?_getD,List.getElem?_eq_getElem (by exact Zb Z4 39 [_,_,_] [] he hl)];rfl
  obtain ⟨step,iI⟩:∃step:Int,step=(b9 rl).getD e 0 - (b9 rl).getD (e - p) 0:=⟨_,rfl⟩
  have nY:dU rl p e=decide (step < 0):=by
   rw [hr,iI,g1,g2]
   by_cases q:rl.getD e 0 < rl.getD (e - p) 0
   ·rw [decide_eq_true q,decide_eq_true (by exact Zb cB 35 [_,_] [] q)]
   ·rw [decide_eq_false q,decide_eq_false (by exact Zb cB 36 [_,_] [] q)]
  have qB:step≠0:=by rw [iI,g1,g2];exact Zb cB 37 [_,_,_] [] he ‹_›
  rw [nY]
  have hlen:(b9 rl).length=8:=by unfold b9;rw [List.length_map,hl]
  have wx:=K.B.row
  have F8:=K.fin
  have lO:=K.pv
  refine' PX (bA rfl (aH rfl (aa F7 rfl) aC (yW (by exact Zb Z4 34 [_] [] he)))) ?body
  refine' jE (cm (d:= .int step) rfl rfl ?S1) ?r1
  case S1=>
   rw [iI]
   exact cP (bF rfl wx rfl (aa F8 rfl) (item_at e 0 rfl (by exact m6 he hlen) (by exact bx hlen))) (bF rfl wx rfl (cP (aa F8 rfl) (aa lO rfl) rfl) (item_at (e - p) 0 (by exact Zb cB 38 [_,_,_] [] h3) (by exact Zb Z4 39 [_,_,_] [] he hlen) (by exact bx hlen))) rfl
  have K1:jG rl small great p b e true dl cl (st.set "step" (.int step)):=K.set (by decide)
  have F9:(st.set "step" (.int step)).v "step"=some (.int step):=v_eq
  generalize st.set "step" (.int step)=s1 at*
  have e1:decide ((255:Int)+step < 256)=decide (step < 0):=by
   by_cases q:step < 0
   ·rw [decide_eq_true q,decide_eq_true (by exact Zb cB 39 [] [_] q)]
   ·rw [decide_eq_false q,decide_eq_false (by exact Zb cf 0 [_,_,_] [_,_,_] he ‹_› g2 g1 iI q)]
  have e2:decide ((256:Int)+step < 256)=decide (step < 0):=by
   by_cases q:step < 0
   ·rw [decide_eq_true q,decide_eq_true (by exact Zb cf 1 [] [_] q)]
   ·rw [decide_eq_false q,decide_eq_false (by exact Zb cf 2 [] [_] q)]
  have e3:decide ((255:Int)+step>=256)=decide (step > 0):=by
   by_cases q:step > 0
   ·rw [decide_eq_true q,decide_eq_true (by exact Zb cf 3 [] [_] q)]
   ·rw [decide_eq_false q,decide_eq_false (by exact Zb cf 4 [] [_] q)]
  have e4:decide ((256:Int)+step>=256)= !decide (step < 0):=by
   by_cases q:step < 0
   ·rw [decide_eq_true q,decide_eq_false (by exact Zb cf 5 [] [_] q)];rfl
   ·rw [decide_eq_false q,decide_eq_true (by exact Zb cf 6 [] [_] q)];rfl
  refine' jE (cm (d:= .bool (decide (step < 0))) rfl rfl ?S2) ?r2
  case S2=>exact bl rfl (ak (aY aC (aa F9 rfl) rfl) av) (F4 (congrArg (fun b=>some (PyData.bool b)) e1)) (by decide)
  have K2:jG rl small great p b e (decide (step < 0)) dl cl (s1.set "rising" (.bool (decide (step < 0)))):=K1.rise
  have PZ:(s1.set "rising" (.bool (decide (step < 0)))).v "step"=some (.int step):=bw (by decide) F9
  generalize s1.set "rising" (.bool (decide (step < 0)))=s2 at*
  have tH:s2.full "step"=some (.int step):=cj K2.B.o (by decide) PZ
  have qQ:s2.full "rising"=some (.bool (decide (step < 0))):=cj K2.B.o (by decide) K2.rising
  exact ⟨s2,aW (cQ (bA rfl (kK (aH rfl (aa qQ rfl) (nJ rfl (aa tH rfl) aC rfl) tE) (aH rfl (bl rfl (ak (aY aC (aa tH rfl) rfl) av) (F4 rfl) (by decide)) (aa qQ rfl) (F6 e2)))) a9)
   (aW (cQ (bA rfl (kK (aH rfl (bl rfl (ak (aY aC (aa tH rfl) rfl) av) (F5 rfl) (by decide)) (nJ rfl (aa tH rfl) aC rfl) (F6 e3)) (aH rfl (bl rfl (ak (aY aC (aa tH rfl) rfl) av) (F5 rfl) (by decide)) (aa qQ rfl) (PW e4)))) a9) a9),K2⟩
 ·have hr:dU rl p e=true:=if_neg he
  rw [hr]
  exact ⟨st,cQ (bA rfl (aH rfl (aa F7 rfl) aC (yX (by exact Zb cf 7 [_] [] he)))) a9,K⟩
theorem P0 {ds d} (h:wu ds=some d):jD.fn "_law_places" ds=some d:=h
theorem P1 {rl:List Nat} (h:∀x∈rl,x < 3):∀c∈aJ rl,c < 1114112:=fun c hc=>by
 (refine aj (List.mem_map.mp hc:) fun x hx ay=> ?_;subst ay)
 have:=h x hx
 exact Zb Z6 32 [_] [] this
theorem P2 {rl:List Nat} (hl:rl.length=8) (h3:∀x∈rl,x < 3) {p b e:Nat} {r:Bool} (h1:1<=p) (h2:b+p<=e) (he:e<=8):wu [.str (S (aJ rl)), .int p, .int b, .int e, .bool r]=some (.list ((jc (aJ rl) p b e r).map fun (k:Nat)=> .int k)):=by
 show (if _ then _ else none)=_
 rw [if_pos ⟨by rw [c8];unfold aJ;rw [List.length_map,hl],by rw [fN];exact P1 h3,by exact Zb Z3 11 [_] [] h1,by exact m5,by exact Zb Z6 33 [_,_,_] [] h2,by exact Zb Z6 34 [_] [] he⟩,fN]
 rfl
theorem Ga {wl:List Nat} {p b e:Nat} {r:Bool} {k:Nat} (h:k∈jc wl p b e r):b+1<=k/\k < b+1+(e - p+1 - (b+1)):=by
 unfold jc at h
 rw [Aa] at h
 exact List.mem_range'_1.mp (List.mem_filter.mp h).1
theorem n6 {wl:List Nat} {p b e:Nat} {r:Bool}:jc wl p b e r=(List.range' (b+1) (e - p+1 - (b+1))).filter (eb wl p r):=by
 unfold jc
 rw [Aa];rfl
theorem P4 (P:Params) {n:Nat} {rl:List Nat} (hl:rl.length=8) (h3:∀x∈rl,x < 3) {small great:List Int} (Ae:small.length=8) (Af:great.length=8) {p b e:Nat} (jf:iM (p,b,e)) (dZ:e < 8->rl.getD e 0≠rl.getD (e - p) 0)
  (P5:∀k,b+1<=k->k<=e - p->n4 (if dU rl p e then small else great) p k=eb (aJ rl) p (dU rl p e) k) {cl:List Cl} (aM:∀x∈cl,x.1 < 8) (gk:(cl.map (·.1)++jc (aJ rl) p b e (dU rl p e)).Nodup) (dn:cl.length<=3000)
  {st:St} (B:Bs rl small great st) (Ag:st.o "due"=some (cl.map bJ)) (hh:st.h=some (cl.map bJ)) (hp:st.v "p"=some (.int p)) (hb:st.v "begin"=some (.int b)) (he:st.v "end"=some (.int e)):
  ∃ag,bc IL cW (n+5) (aG P) st (j7 (sL P 11))=some (.aT,ag)/\Bs rl small great ag/\ag.o "due"=some ((cl++(jc (aJ rl) p b e (dU rl p e)).map fun k=>(k,dU rl p e,(p,b,e))).map bJ)/\ag.h=some ((cl++(jc (aJ rl) p b e (dU rl p e)).map fun k=>(k,dU rl p e,(p,b,e))).map bJ):=by
 rw [PU]
 have aQ:aG P=aG P:=rfl
 conv at aQ=>rhs;whnf
 have Gb:=jf
 (refine fm Gb ?_;clear Gb;intro h1 h2 h4 h5)
 simp only at h1 h2 h4 h5
 have gx:sM P 0=sM P 0:=rfl
 conv at gx=>rhs;whnf
 have iC:sM P 1=sM P 1:=rfl
 conv at iC=>rhs;whnf
 have wF:sM P 3=sM P 3:=rfl
 conv at wF=>rhs;whnf
 have Gc:sM P 4=sM P 4:=rfl
 conv at Gc=>rhs;whnf
 have Tb:sM P 5= .For (.Name "k" qM) (.Name "k" qM) (sK P) [] qM\/True:= .inr trivial
 have Gd:sM P 6=sM P 6:=rfl
 conv at Gd=>rhs;whnf
 have l9:NL.length=9:=rfl
 have Ah:=B.names
 -- n3
 refine jE (bE:=st.set "told" (.str (cM (p,b,e)))) ?_ ?_
 ·rw [aQ,gx]
  refine cm rfl rfl ?_
  have e1:cM (p,b,e)=S (([NL.getD b 0]++[NL.getD e 0])++[NL.getD p 0]):=by rw [pk (by exact Zb Z3 12 [_,_,_] [] h4 h5),pk (by exact Zb Z3 13 [_] [] h5),pk (by exact Zb Z6 35 [_] [] h2)];rfl
  rw [e1]
  exact aY (aY (bF rfl Ah rfl (aa hb rfl) (item_str b rfl (by exact Zb Z6 36 [_,_,_,_] [] h4 l9 h5) (by exact lX l9))) (bF rfl Ah rfl (aa he rfl) (item_str e rfl (by exact Zb Z6 37 [_,_] [] l9 h5) (by exact lX l9))) (add_str (Nat.le_of_ble_eq_true rfl))) (bF rfl Ah rfl (aa hp rfl) (item_str p rfl (by exact Zb Z6 38 [_,_] [] l9 h2) (by exact lX l9))) (add_str (Nat.le_of_ble_eq_true rfl))
 have B1:Bs rl small great (st.set "told" (.str (cM (p,b,e)))):=B.set (by decide)
 have zS:(st.set "told" (.str (cM (p,b,e)))).o "due"=some (cl.map bJ):=j6 (by decide) Ag
 have sb:(st.set "told" (.str (cM (p,b,e)))).h=some (cl.map bJ):=hh
 have kF:(st.set "told" (.str (cM (p,b,e)))).v "p"=some (.int p):=bw (by decide) hp
 have P6:(st.set "told" (.str (cM (p,b,e)))).v "begin"=some (.int b):=bw (by decide) hb
 have zp:(st.set "told" (.str (cM (p,b,e)))).v "end"=some (.int e):=bw (by decide) he
 have zU:(st.set "told" (.str (cM (p,b,e)))).v "told"=some (.str (cM (p,b,e))):=v_eq
 generalize st.set "told" (.str (cM (p,b,e)))=s1 at*
 -- rising=True
 refine jE (bE:=s1.set "rising" (.bool true)) ?_ ?_
 ·rw [aQ,iC]
  exact cm rfl rfl iF
 have J2:jG rl small great p b e true (cl.map bJ) cl (s1.set "rising" (.bool true)):=⟨B1.set (by decide),j6 (by decide) zS,sb,bw (by decide) kF,bw (by decide) P6,bw (by decide) zp,bw (by decide) zU,v_eq⟩
 generalize s1.set "rising" (.bool true)=s2 at*
 -- if end < 8
 refine aj (PY P (n:=n+1) hl jf dZ J2:) fun s3 g3 J3=> ?_
 refine jE g3 ?_
 generalize hr:dU rl p e=r at*
 -- iH
 refine jE (bE:=s3.set "ranks" (.list ((if r then small else great).map .int))) ?_ ?_
 ·rw [aQ,wF]
  refine cm rfl rfl (sE (gV (aa J3.rising rfl) rfl) ?_)
  cases r with
  | true=>exact aa J3.B.small rfl
  | false=>exact aa J3.B.great rfl
 have J4:jG rl small great p b e r (cl.map bJ) cl (s3.set "ranks" (.list ((if r then small else great).map .int))):=J3.set (by decide)
 have P7:(s3.set "ranks" (.list ((if r then small else great).map .int))).v "ranks"=some (.list ((if r then small else great).map .int)):=v_eq
 generalize s3.set "ranks" (.list ((if r then small else great).map .int))=s4 at*
 -- size
 refine jE (bE:=s4.set "size" (.str (S (fi r)))) ?_ ?_
 ·rw [aQ,Gc]
  refine cm rfl rfl (sE (gV (aa J4.rising rfl) rfl) ?_)
  cases r with
  | true=>
   refine ek rfl (by decide) rfl (aa J4.B.names rfl) av ?_
   rw [ti (x:=S NL) (by unfold nZ;decide+kernel),FQ];rfl
  | false=>exact aa J4.B.names rfl
 have J5:jG rl small great p b e r (cl.map bJ) cl (s4.set "size" (.str (S (fi r)))):=J4.set (by decide)
 have P8:(s4.set "size" (.str (S (fi r)))).v "ranks"=some (.list ((if r then small else great).map .int)):=bw (by decide) P7
 have P9:(s4.set "size" (.str (S (fi r)))).v "size"=some (.str (S (fi r))):=v_eq
 generalize s4.set "size" (.str (S (fi r)))=s5 at*
 have K5:lP rl small great p b e r (if r then small else great) (cl.map bJ) cl s5:=⟨J5.B,J5.il,J5.h,J5.pv,J5.begin,J5.fin,J5.n3,J5.rising,P8,P9⟩
 -- uL places,Tc
 have mQ:(if r then small else great).length=8:=by cases r<;>assumption
 rw [n6] at gk
 have loop:=fun (q:Pos)=>FZ P (n:=n+2) (q:=q) mQ jf (List.range' (b+1) (e - p+1 - (b+1))) cl s5 (fun k hk=>by
  have:=List.mem_range'_1.mp hk
  exact ⟨by exact Zb Z2 5 [_,_,_,_] [] h1 this h5,P5 k (by exact Zb Z3 14 [_,_,_,_] [] this) (by exact Zb Z6 39 [_,_,_,_] [] this)⟩) gk aM (by rw [List.length_range'];exact Zb Z7 0 [_,_,_,_] [] dn h5) K5
 have pb:∃q1 q2 q3 q4 q5 q6 q7 q8 q9 o9 qu qv k1 k2,sM P 5= .For (.Name "k" q1) (.Call (.Name "range" q2) [.BinOp (.Name "begin" q3) .Add (.Constant (.int 1) k1 q4) q5, .BinOp (.BinOp (.Name "end" q6) .Sub (.Name "p" q7) q8) .Add (.Constant (.int 1) k2 q9) o9] [] qu) (sK P) [] qv:=⟨_,_,_,_,_,_,_,_,_,_,_,_,_,_,rfl⟩
 obtain ⟨q1,q2,q3,q4,q5,q6,q7,q8,q9,o9,qu,qv,c1,c2,pb⟩:=pb
 refine aj (loop q1:) fun s6 f6 K6=> ?_
 refine jE (bE:=s6) ?_ ?_
 ·rw [pb]
  refine (nL rfl (eE rfl ?_ (ak (aY (aa J5.begin rfl) aC rfl) (ak (aY (cP (aa J5.fin rfl) (aa J5.pv rfl) rfl) aC rfl) av)) (jw (b+1) (e - p+1) (by exact pK) (by exact Zb Z7 1 [_,_,_] [] h4) (by exact Zb Z7 2 [_,_,_] [] h4 h5) (by exact Zb Z3 15 [_,_] [] h5))) ?_).trans f6
  ·rw [aQ];rfl
  ·rw [List.length_map,List.length_range'];exact Zb Z1 9 [_,_,_] [] h5
 -- il
 refine ⟨s6.own "due" (cl.map bJ++((jc (aJ rl) p b e r).map fun k=>(k,r,(p,b,e))).map bJ),aW ?_ a9,K6.B.own, ?_, ?_⟩
 ·rw [aQ,Gd]
  refine L0 rfl rfl (by decide) K6.il (by rw [List.length_map];exact lW dn) ?_ ?_
  ·rw [List.map_map]
   refine dF rfl rfl rfl rfl (vo (by decide) (bl rfl (ak (aa K6.B.word rfl) (ak (aa K6.pv rfl) (ak (aa K6.begin rfl) (ak (aa K6.fin rfl) (ak (aa K6.rising rfl) av))))) (P0 (P2 hl h3 h1 (by exact Zb Z3 8 [_,_,_] [] h4) h5)) (by decide))) (dg rfl ?_ rfl rfl (gu fun k hk=>fg ?_)) ?_
   ·rw [List.length_map,n6]
    refine Nat.le_trans (List.length_filter_le _ _) ?_
    rw [List.length_range'];exact Zb Z1 9 [_,_,_] [] h5
   ·have:=Ga hk
    have ja:k < 8:=by exact Zb Z2 5 [_,_,_,_] [] h1 this h5
    show _=some (bJ (k,r,(p,b,e)))
    have e1:bJ (k,r,(p,b,e))= .tuple [.str (S [(fi r).getD k 0]), .str (cM (p,b,e))]:=by rw [Ab ja];rfl
    rw [e1]
    exact qq (ak (bF rfl (g0 (by decide) (g7 rfl K6.size)) rfl (aa gD rfl) (item_str k rfl (by rw [qP];exact mZ ja) (by rw [qP];exact Zb Z2 4 [] []))) (ak (aa (g0 (by decide) (g7 rfl K6.n3)) rfl) av)) (Nat.le_of_ble_eq_true rfl)
   ·rw [List.length_map,n6]
    refine Nat.le_trans (List.length_filter_le _ _) ?_
    rw [List.length_range'];exact Zb Z1 9 [_,_,_] [] h5
  ·rw [List.length_map,List.length_map,n6]
   refine Nat.le_trans (List.length_filter_le _ _) ?_
   rw [List.length_range'];exact Zb Z1 9 [_,_,_] [] h5
 ·rw [List.map_append];exact FC
 ·rw [n6];exact K6.h
structure Ai (rl:List Nat) (small great:List Int) (t:Nat × Nat × Nat):Prop where
 sp:iM t
 ne:t.2.2 < 8->rl.getD t.2.2 0≠rl.getD (t.2.2 - t.1) 0
 stop:∀k,t.2.1+1<=k->k<=t.2.2 - t.1->n4 (if dU rl t.1 t.2.2 then small else great) t.1 k=eb (aJ rl) t.1 (dU rl t.1 t.2.2) k
noncomputable def k7 (rl:List Nat) (t:Nat × Nat × Nat):List Nat:=jc (aJ rl) t.1 t.2.1 t.2.2 (dU rl t.1 t.2.2)
noncomputable def j8 (rl:List Nat) (t:Nat × Nat × Nat):List Cl:=(k7 rl t).map fun k=>(k,dU rl t.1 t.2.2,t)
theorem Ge {rl:List Nat} {t:Nat × Nat × Nat} (h:iM t) {k:Nat} (hk:k∈k7 rl t):k < 8:=by
 have:=Ga hk
 (refine fm h ?_;clear h;intro h1 h2 h3 h4)
 exact Zb Z2 5 [_,_,_,_] [] h1 this h4
theorem Qa {rl:List Nat} {t:Nat × Nat × Nat}:(j8 rl t).map (·.1)=k7 rl t:=by
 unfold j8
 rw [List.map_map]
 exact List.map_id _
theorem Gf {rl:List Nat} {t:Nat × Nat × Nat} (h:iM t):(k7 rl t).length<=8:=by
 unfold k7
 rw [n6]
 refine Nat.le_trans (List.length_filter_le _ _) ?_
 rw [List.length_range']
 (refine fm h ?_;clear h;intro h1 h2 h3 h4)
 exact Zb cf 26 [_,_,_] [] h4
theorem Qb (P:Params) {q1 q2 q3 q5:Pos} {n:Nat} {st:St} {t:Nat × Nat × Nat}:dE (aG P) (.Tuple [.Name "p" q1, .Name "begin" q2, .Name "end" q3] n q5) st (tD t)=some (((st.set "p" (.int t.1)).set "begin" (.int t.2.1)).set "end" (.int t.2.2)):=by
 show bindAll (aG P) [.Name "p" q1, .Name "begin" q2, .Name "end" q3] [.int t.1, .int t.2.1, .int t.2.2] st=_
 have h1:dD (aG P) "p"=true:=cs P (by decide)
 have h2:dD (aG P) "begin"=true:=cs P (by decide)
 have h3:dD (aG P) "end"=true:=cs P (by decide)
 exact (if_pos h1).trans ((if_pos h2).trans (if_pos h3))
theorem Gg (P:Params) {n:Nat} {rl:List Nat} (hl:rl.length=8) (h3:∀x∈rl,x < 3) {small great:List Int} (Ae:small.length=8) (Af:great.length=8) {q1 q2 q3 q5:Pos} {m:Nat}:∀(xs:List (Nat × Nat × Nat)) (cl:List Cl) (st:St),(∀t∈xs,Ai rl small great t)->(cl.map (·.1)++xs.flatMap (k7 rl)).Nodup->(∀x∈cl,x.1 < 8)->cl.length+8*xs.length<=3000->Bs rl small great st->st.o "due"=some (cl.map bJ)->st.h=some (cl.map bJ)->
  ∃ag,dM (dE (aG P) (.Tuple [.Name "p" q1, .Name "begin" q2, .Name "end" q3] m q5)) (fun st=>bc IL cW (n+5) (aG P) st (j7 (sL P 11))) (xs.map tD) st=some (.aT,ag)/\Bs rl small great ag/\ag.o "due"=some ((cl++xs.flatMap (j8 rl)).map bJ)/\ag.h=some ((cl++xs.flatMap (j8 rl)).map bJ)
 | [],cl,st,_,_,_,_,B,hd,hh=>⟨st,rfl,B,by simpa using hd,by simpa using hh⟩
 | t::xs,cl,st,bt,gk,aM,dn,B,hd,hh=>by
  obtain ⟨r1,r2,r3⟩:=bt t (.head _)
  rw [List.length_cons] at dn
  rw [List.flatMap_cons, <- List.append_assoc] at gk
  have B1:Bs rl small great (((st.set "p" (.int t.1)).set "begin" (.int t.2.1)).set "end" (.int t.2.2)):=((B.set (by decide)).set (by decide)).set (by decide)
  refine eT (P4 P (n:=n) hl h3 Ae Af (p:=t.1) (b:=t.2.1) (e:=t.2.2) r1 r2 r3 aM (List.nodup_append.mp gk).1 (by exact Zb cf 27 [_,_] [] dn) B1 (j6 (by decide) (j6 (by decide) (j6 (by decide) hd))) hh (bw (by decide) (bw (by decide) v_eq)) (bw (by decide) v_eq) v_eq:) fun s2 g1 B2 d2 h2=> ?_
  have e1:(jc (aJ rl) t.1 t.2.1 t.2.2 (dU rl t.1 t.2.2)).map (fun k=>(k,dU rl t.1 t.2.2,(t.1,t.2.1,t.2.2)))=j8 rl t:=rfl
  rw [e1] at d2 h2
  have hlen:(j8 rl t).length<=8:=by unfold j8;rw [List.length_map];exact Gf r1
  refine eT (Gg P (n:=n) hl h3 Ae Af (q1:=q1) (q2:=q2) (q3:=q3) (q5:=q5) (m:=m) xs (cl++j8 rl t) s2 (fun t ht=>bt t (.tail _ ht)) (by rw [List.map_append,Qa];exact gk) (fun x hx=>by
   rcases List.mem_append.mp hx with q | q
   ·exact aM x q
   ·obtain ⟨k,hk,rfl⟩:=List.mem_map.mp q
    exact Ge r1 hk) (by rw [List.length_append];exact Zb cf 28 [_,_,_] [] dn hlen) B2 d2 h2:) fun ag f1 f2 f3 f4=> ?_
  rw [List.flatMap_cons, <- List.append_assoc]
  refine ⟨ag, ?_,f2,f3,f4⟩
  show (dE (aG P) (.Tuple [.Name "p" q1, .Name "begin" q2, .Name "end" q3] m q5) st (tD t)).bind _=_
  rw [Qb,Option.bind_some]
  show (bc IL cW (n+5) (aG P) (((st.set "p" (.int t.1)).set "begin" (.int t.2.1)).set "end" (.int t.2.2)) (j7 (sL P 11))).bind _=_
  rw [g1,Option.bind_some]
  exact f1
noncomputable abbrev En:=Nat × Bool × Str
noncomputable def eH (x:En):Str × Str:=(S [sz x.2.1 x.1],x.2.2)
noncomputable def eD (x:En):PyData:=cR (eH x)
noncomputable def qR (x:Cl):En:=(x.1,x.2.1,cM x.2.2)
theorem Aj {cl:List Cl}:(cl.map qR).map eD=cl.map bJ:=by rw [List.map_map];rfl
theorem Qc {E:List En} {r:Bool} {k:Nat} (h:∀x∈E,x.1 < 8) (hk:k < 8):eR (E.map eH) (S [sz r k])=(E.find? fun x=>x.1==k).map fun x=>x.2.2:=by
 unfold eR
 induction E with
 | nil=>rfl
 | cons x E ih=>
  rw [List.map_cons,List.find?_cons,List.find?_cons]
  have e:mP (eH x).1 (S [sz r k])=(x.1==k):=FT (h x (.head _)) hk
  rw [e]
  cases q:x.1==k with
  | true=>rfl
  | false=>exact ih fun y hy=>h y (.tail _ hy)
section
variable {cl:List Cl} {k:Nat}
noncomputable def keysOf (cl:List Cl):List Nat:=cl.map (·.1)
noncomputable def mS (cl:List Cl) (k:Nat):List En:=((List.range k).filter fun j=> !(keysOf cl).contains j).map fun j=>(j,false,S [])
noncomputable def EL (cl:List Cl) (k:Nat):List En:=cl.map qR++mS cl k
noncomputable def hv (cl:List Cl) (k:Nat):Str:=((cl.find? fun x=>x.1==k).map fun x=>cM x.2.2).getD (S [])
noncomputable def iN (cl:List Cl) (k:Nat):Bool:=(cl.map fun x=>S [sz x.2.1 x.1]).any (· ==S [65+k])
theorem Gh (aM:∀x∈cl,x.1 < 8) (hk:k<=8):∀x∈EL cl k,x.1 < 8:=fun x hx=>by
 rcases List.mem_append.mp hx with q | q
 ·(refine aj (List.mem_map.mp q:) fun y hy ay=> ?_;subst ay)
  exact aM y hy
 ·(refine aj (List.mem_map.mp q:) fun j hj aF=> ?_;subst aF)
  have:=List.mem_range.mp (List.mem_filter.mp hj).1
  show j < 8
  exact Zb cB 9 [_,_] [] this hk
theorem Qd:mS cl (k+1)=mS cl k++(if (keysOf cl).contains k then [] else [(k,false,S [])]):=by
 unfold mS
 rw [List.range_succ,List.filter_append,List.map_append]
 congr 1
 cases h:(keysOf cl).contains k with
 | true=>have:=List.contains_iff_mem.mp h;simp [this]
 | false=>have:k∉keysOf cl:=(fun m=>by rw [List.contains_iff_mem.mpr m] at h;cases h);simp [this]
theorem Qe:(cl.map qR).find? (fun x=>x.1==k)=(cl.find? fun x=>x.1==k).map qR:=by
 induction cl with
 | nil=>rfl
 | cons x cl ih=>
  rw [List.map_cons,List.find?_cons,List.find?_cons]
  show (match x.1==k with | true=>_ | false=>_)=_
  cases x.1==k with
  | true=>rfl
  | false=>exact ih
theorem Gi:(keysOf cl).contains k=(cl.find? fun x=>x.1==k).isSome:=by
 unfold keysOf
 induction cl with
 | nil=>rfl
 | cons x cl ih=>
  rw [List.map_cons,List.contains_cons,List.find?_cons,ih]
  by_cases h:x.1=k
  ·subst h;simp
  ·rw [beq_eq_false_iff_ne.mpr h,beq_eq_false_iff_ne.mpr (Ne.symm h)];rfl
theorem Qf (hk:k < 8) (h:(keysOf cl).contains k=false):iN cl k=false:=by
 unfold iN
 rw [List.any_eq_false]
 intro s hs q
 (refine aj (List.mem_map.mp hs:) fun x hx aP=> ?_;subst aP)
 have e:=zi (beq_iff_eq.mp q)
 injection e with e _
 unfold sz at e
 have v8:x.1=k:=by
  cases hr:x.2.1 with
  | true=>rw [hr,if_pos rfl] at e;exact Zb cB 10 [_,_] [] e hk
  | false=>rw [hr,if_neg (by simp)] at e;exact Zb cB 11 [_,_] [] e
 have:(keysOf cl).contains k=true:=List.contains_iff_mem.mpr (List.mem_map.mpr ⟨x,hx,v8⟩)
 rw [h] at this;exact eI this
theorem Qg (aM:∀x∈cl,x.1 < 8) (hk:k < 8):gZ ((EL cl k).map eH) (S [sz (iN cl k) k]) (S [])=(hv cl k,(EL cl (k+1)).map eH):=by
 unfold gZ
 rw [Qc (Gh aM (by exact Zb Z4 32 [_] [] hk)) hk]
 have e1:(EL cl k).find? (fun x=>x.1==k)=(cl.find? fun x=>x.1==k).map qR:=by
  unfold EL
  rw [List.find?_append,Qe]
  have:(mS cl k).find? (fun x=>x.1==k)=none:=by
   rw [List.find?_eq_none]
   intro x hx q
   (refine aj (List.mem_map.mp hx:) fun j hj bI=> ?_;subst bI)
   have:=List.mem_range.mp (List.mem_filter.mp hj).1
   have:j=k:=beq_iff_eq.mp q
   lia
  rw [this,Option.or_none]
 rw [e1]
 have e2:EL cl (k+1)=EL cl k++(if (keysOf cl).contains k then [] else [(k,false,S [])]):=by
  unfold EL;rw [Qd,List.append_assoc]
 rw [e2]
 unfold hv
 cases hf:cl.find? fun x=>x.1==k with
 | some x=>
  have:(keysOf cl).contains k=true:=by rw [Gi,hf];rfl
  rw [this,if_pos rfl,List.append_nil];rfl
 | none=>
  have:(keysOf cl).contains k=false:=by rw [Gi,hf];rfl
  rw [this,if_neg (by simp),Qf hk this,List.map_append];rfl
theorem Qh:((cl.filter fun x=>x.1==k).map fun x=>PyData.str (cM x.2.2))++[PyData.str (S [])]=PyData.str (hv cl k)::List.tail (((cl.filter fun (x:Cl)=>x.1==k).map fun (x:Cl)=>PyData.str (cM x.2.2))++[PyData.str (S [])]):=by
 unfold hv
 induction cl with
 | nil=>rfl
 | cons x cl ih=>
  rw [List.filter_cons,List.find?_cons]
  cases x.1==k with
  | true=>rfl
  | false=>exact ih
theorem Gj:(mS cl k).length<=k:=by
 unfold mS
 rw [List.length_map]
 refine Nat.le_trans (List.length_filter_le _ _) ?_
 rw [List.length_range];exact Nat.le_refl _
theorem Qi (aM:∀x∈cl,x.1 < 8) (hk:k < 8) (hl:cl.length<=3000):tz ((EL cl k).map eD) (S [sz (iN cl k) k]) (S [])=some (hv cl k,(EL cl (k+1)).map eD):=by
 have e:∀E:List En,E.map eD=(E.map eH).map cR:=fun E=>by rw [List.map_map];rfl
 have hr:=Gj (cl:=cl) (k:=k)
 rw [e,e,Fv (wC hk) (.head _) (by unfold EL;rw [List.length_map,List.length_append,List.length_map];exact Zb cB 12 [_,_,_] [] hk hl hr) (fun p hp=>by
  (refine aj (List.mem_map.mp hp:) fun x hx bK=> ?_;subst bK)
  exact wC (Gh aM (by exact Zb Z4 32 [_] [] hk) x hx)),Qg aM hk]
end
theorem Qj:gw cR (fun p=>PyData.strOk p.1=true/\PyData.strOk p.2=true) 1:=by
 refine ⟨fun a h=> ?_,fun a=> ?_,fun a b=> ?_⟩
 ·unfold cR;simp [PyData.canLay0,PyData.canLayAll0,h.1,h.2]
 ·unfold cR;simp [PyData.depth,PyData.depthAll]
 ·unfold cR
  simp only [PyData.eqv,PyData.eqvAll,Bool.and_true,Bool.and_eq_true,beq_iff_eq]
  exact ⟨fun h=>Prod.ext h.1 h.2,fun h=>by subst h;exact ⟨rfl,rfl⟩⟩
theorem Qk:∀r:Bool,∀k,k < 8->PyData.strOk (S [sz r k])=true:=by decide+kernel
theorem Ql:∀v∈n0,PyData.strOk v=true:=by decide+kernel
theorem Gk {E:List En} (h:∀x∈E,x.1 < 8/\x.2.2∈n0):eW (E.map eD) (E.map eD)=some true:=by
 have e:E.map eD=(E.map eH).map cR:=by rw [List.map_map];rfl
 have ok:∀a∈E.map eH,PyData.strOk a.1=true/\PyData.strOk a.2=true:=fun a ha=>by
  (refine aj (List.mem_map.mp ha:) fun x hx bO=> ?_;subst bO)
  exact ⟨Qk _ _ (h x hx).1,Ql _ (h x hx).2⟩
 rw [e]
 exact Qj.jb (by exact pM) ok ok rfl
structure Fin (cl:List Cl) (E:List En) (st:St):Prop where
 names:st.v "names"=some (.str (S NL))
 il:st.v "due"=some (.list (cl.map bJ))
 o:je "#" st
 h:st.h=some (E.map eD)
theorem Fin.set {cl:List Cl} {E:List En} {st:St} {y:Str} {d:PyData} (F:Fin cl E st) (h1:("names":Str)≠y) (h2:("due":Str)≠y):Fin cl E (st.set y d):=⟨bw h1 F.names,bw h2 F.il,F.o.set,F.h⟩
noncomputable def sN (P:Params) (i:Nat):Stmt:=(j7 (sL P 14)).getD i (.Pass qM)
theorem Qm (P:Params):j7 (sL P 14)=[sN P 0,sN P 1,sN P 2]:=by rfl
theorem wG {α:Type} {f:α->Str}:∀{l:List α},strsOf (l.map fun x=>PyData.str (f x))=some (l.map f)
 | []=>rfl
 | a::r=>by
  show (strsOf (r.map fun x=>PyData.str (f x))).map (f a:: ·)=_
  rw [wG];rfl
theorem Qn:∀r:Bool,∀k,k < 8->Builtin.Str.tooLong (Txt.upper (S [sz r k])).length=false/\Txt.upper (S [sz r k])=S [65+k]:=by decide+kernel
theorem wH {r:Bool} {k:Nat} (h:k < 8):iA "upper" (.str (S [sz r k])) []=some (.str (S [65+k])):=by
 refine xA (Qn r k h:) fun h1 h2=> ?_
 show (if Builtin.Str.tooLong (Txt.upper (S [sz r k])).length=false then some (PyData.str (Txt.upper (S [sz r k]))) else none)=_
 rw [if_pos h1,h2]
theorem Gl {j k:Nat} (hk:k < 9):cg .Eq (.str (S [65+j])) (.str (S [NL.getD k 0]))=some (j==k):=by
 rw [pk hk,mN]
 congr 1
 by_cases q:j=k
 ·subst q;simp
 ·rw [beq_eq_false_iff_ne.mpr q,beq_eq_false_iff_ne]
  intro e
  injection e with e _
  exact Zb Z3 10 [_,_] [] e q
theorem Qo (P:Params) {n:Nat} {cl:List Cl} (aM:∀x∈cl,x.1 < 8) (dn:cl.length<=3000) {k:Nat} (hk:k < 8) {st:St} (F:Fin cl (EL cl k) st):
  ∃ag,bc IL cW (n+2) (aG P) (st.set "k" (.int k)) (j7 (sL P 14))=some (.aT,ag)/\Fin cl (EL cl (k+1)) ag:=by
 rw [Qm]
 have aQ:aG P=aG P:=rfl
 conv at aQ=>rhs;whnf
 rw [aQ]
 clear aQ
 have gx:sN P 0=sN P 0:=rfl
 conv at gx=>rhs;whnf
 have iC:sN P 1=sN P 1:=rfl
 conv at iC=>rhs;whnf
 have iZ:sN P 2=sN P 2:=rfl
 conv at iZ=>rhs;whnf
 have l9:NL.length=9:=rfl
 have F1:Fin cl (EL cl k) (st.set "k" (.int k)):=F.set (by decide) (by decide)
 have vU:(st.set "k" (.int k)).v "k"=some (.int k):=v_eq
 generalize st.set "k" (.int k)=s1 at*
 -- Td
 obtain ⟨L,hL⟩:∃L,L=(((cl.filter fun x=>x.1==k).map fun x=>PyData.str (cM x.2.2))++[PyData.str (S [])]):=⟨_,rfl⟩
 have Qp:L=PyData.str (hv cl k)::L.tail:=by rw [hL];exact Qh
 refine jE (bE:=s1.set "having" (.list L)) ?_ ?_
 ·rw [gx,hL]
  refine' cm rfl rfl (aY (dF rfl rfl rfl rfl (i9 (aa F1.il rfl)) (dg rfl ?l1 rfl rfl (kP (enc:=bJ) (r:=fun x=>PyData.str (cM x.2.2)) (fun x=>x.1==k) (fun x hx hc=>kI ?t1 ?t2) (fun x hx hc=>kJ ?t3))) ?l2) (ic (ak jv av) (Nat.le_of_ble_eq_true rfl)) ?ad)
  case l1=>rw [List.length_map];exact lW dn
  case l2=>
   rw [List.length_map]
   exact Nat.le_trans (List.length_filter_le _ _) (by exact lW dn)
  case t2=>exact bF rfl gD rfl aC rfl
  case t1=>exact aH rfl (ek rfl (by decide) rfl (bF rfl gD rfl aC rfl) av (wH (aM x hx))) (bF rfl (g0 (by decide) (g7 rfl F1.names)) rfl (aa (g0 (by decide) (g7 rfl vU)) rfl) (item_str k rfl (by exact pJ hk l9) (by exact lX l9))) ((Gl (by exact mZ hk)).trans (congrArg some hc))
  case t3=>exact aH rfl (ek rfl (by decide) rfl (bF rfl gD rfl aC rfl) av (wH (aM x hx))) (bF rfl (g0 (by decide) (g7 rfl F1.names)) rfl (aa (g0 (by decide) (g7 rfl vU)) rfl) (item_str k rfl (by exact pJ hk l9) (by exact lX l9))) ((Gl (by exact mZ hk)).trans (congrArg some hc))
  case ad=>
   have:((cl.filter fun x=>x.1==k).map fun x=>PyData.str (cM x.2.2)).length+1<=4096:=by
    rw [List.length_map]
    have:=List.length_filter_le (fun (x:Cl)=>x.1==k) cl
    exact Zb Z6 27 [_,_] [] dn this
   rw [Bz (by simpa using this)]
   rfl
 have F2:Fin cl (EL cl k) (s1.set "having" (.list L)):=F1.set (by decide) (by decide)
 have vV:(s1.set "having" (.list L)).v "k"=some (.int k):=bw (by decide) vU
 have sd:(s1.set "having" (.list L)).v "having"=some (.list L):=v_eq
 generalize s1.set "having" (.list L)=s2 at*
 -- size
 refine jE (bE:=s2.set "size" (.str (S (fi (iN cl k))))) ?_ ?_
 ·rw [iC]
  refine' cm rfl rfl (sE (c:=iN cl k) (aH rfl (bF rfl F2.names rfl (aa vV rfl) (item_str k rfl (by exact pJ hk l9) (by exact lX l9))) (dF rfl rfl rfl rfl (i9 (aa F2.il rfl)) (dg rfl ?l1 rfl rfl (gu (enc:=bJ) (r:=fun x=>PyData.str (S [sz x.2.1 x.1])) fun x hx=>fg (bF rfl gD rfl aC rfl))) ?l2) ?Qq) ?val)
  case l1=>rw [List.length_map];exact lW dn
  case l2=>rw [List.length_map];exact lW dn
  case Qq=>
   rw [pk (by exact mZ hk)]
   show md (.str (S [65+k])) (cl.map fun x=>PyData.str (S [sz x.2.1 x.1]))=_
   unfold md
   rw [wG]
   rfl
  case val=>
   cases iN cl k with
   | true=>
    refine ek rfl (by decide) rfl (aa F2.names rfl) av ?_
    rw [ti (x:=S NL) (by unfold nZ;decide+kernel),FQ];rfl
   | false=>exact aa F2.names rfl
 have F3:Fin cl (EL cl k) (s2.set "size" (.str (S (fi (iN cl k))))):=F2.set (by decide) (by decide)
 have Qr:(s2.set "size" (.str (S (fi (iN cl k))))).v "k"=some (.int k):=bw (by decide) vV
 have qd:=bw (st:=s2) (x:="size") (y:="having") (d:= .str (S (fi (iN cl k)))) (by decide) sd
 have Qs:(s2.set "size" (.str (S (fi (iN cl k))))).v "size"=some (.str (S (fi (iN cl k)))):=v_eq
 generalize s2.set "size" (.str (S (fi (iN cl k))))=s3 at*
 -- Te.Tf
 have ph:s3.full "k"=some (.int k):=cj F3.o (by decide) Qr
 have Qt:=cj F3.o (y:="having") (by decide) qd
 have Ad:s3.full "size"=some (.str (S (fi (iN cl k)))):=cj F3.o (by decide) Qs
 have eO:cW.eO ((EL cl k).map eD) (S [(fi (iN cl k)).getD k 0]) ""=some (hv cl k,(EL cl (k+1)).map eD):=by
  rw [Ab hk];exact Qi aM hk dn
 refine ⟨{s3 with h:=some ((EL cl (k+1)).map eD)},aW ?_ a9,⟨F3.names,F3.il,F3.o,rfl⟩⟩
 rw [iZ]
 refine cQ (PT rfl (FU (d:= .str (hv cl k)) rfl rfl (F3.o _ (by decide)) (bF rfl Ad rfl (aa ph rfl) (item_str k rfl (by rw [qP];exact mZ hk) (by rw [qP];exact Zb Z2 4 [] []))) jv F3.h eO (bF rfl Qt rfl aC (by rw [Qp];rfl)) ?_)) a9
 show some ((hv cl k).cps.toList != (hv cl k).cps.toList)=_
 simp
theorem Qu (P:Params) {n:Nat} {cl:List Cl} (aM:∀x∈cl,x.1 < 8) (dn:cl.length<=3000) {st:St} (F:Fin cl (EL cl 0) st):
  ∃ag,bT IL cW (bc IL cW (n+2)) (aG P) st (sL P 14)=some (.aT,ag)/\Fin cl (EL cl 8) ag:=by
 have hm:∃q1 q2 q3 c1 q4 q5,sL P 14= .For (.Name "k" q1) (.Call (.Name "range" q2) [.Constant (.int 8) c1 q3] [] q4) (j7 (sL P 14)) [] q5:=⟨_,_,_,_,_,_,rfl⟩
 obtain ⟨q1,q2,q3,c1,q4,q5,hm⟩:=hm
 have hg:dP (aG P) "range"=true:=by rfl
 have key:=yU (I:=IL) (c:=cW) (n:=n+2) (sc:=aG P) (bz:= .Name "k" q1) (p:=q5) (it:= .Call (.Name "range" q2) [.Constant (.int 8) c1 q3] [] q4) (body:=j7 (sL P 14)) (st:=st) (fun k (_:Unit) st=>Fin cl (EL cl k) st) (fun u _=>u) 0 8 () rfl (by exact lk) (eE rfl hg (ak aC av) (kM 8 rfl (by exact lY))) F (fun k _ hk u st F=>⟨_,wB P (cs P (by decide)),Qo P aM dn (by exact Zb Z6 28 [_] [] hk) F⟩)
 rw [<- hm] at key
 exact key
theorem Qv:∀l:List Nat,Txt.join (S []) (l.map fun x=>S [97+x])=S (l.map (97+ ·)):=by
 intro l
 rw [eq_of_beq (join_plain_closes (S []) (l.map fun x=>S [97+x]))]
 induction l with
 | nil=>rfl
 | cons x l ih=>
  cases l with
  | nil=>rfl
  | cons y l=>
   show S [97+x]++S []++Str.join (S []) ((y::l).map fun x=>S [97+x])=_
   rw [ih,vK,vK]
   rfl
theorem Qw {l:List Nat} (h:l.length<=100):JoinOk (S []) (l.map fun x=>S [97+x])=true:=by
 unfold JoinOk
 have key:∀(l:List Nat) (n:Nat),(l.map fun x=>S [97+x]).foldl (fun a y=>a+y.length+(S []).length) n=n+l.length:=by
  intro l
  induction l with
  | nil=>intro n;rfl
  | cons x l ih=>
   intro n
   rw [List.map_cons,List.foldl_cons,ih,List.length_cons]
   have e1:(S [97+x]).length=1:=rfl
   have e2:(S []).length=0:=rfl
   rw [e1,e2];exact Zb cA 18 [_,_] []
 rw [List.foldl_toArray,key]
 have:Builtin.Str.tooLong (0+l.length)=false:=by
  unfold Builtin.Str.tooLong
  rw [decide_eq_false]
  rw [sizeLine_eq];exact Zb cA 19 [_] [] h
 rw [this];rfl
theorem Qx {l:List Nat} (h:l.length<=100):iA "join" (.str "") [.list (l.map fun x=>PyData.str (S [97+x]))]=some (.str (S (l.map (97+ ·)))):=by
 have hs:strsOf (l.map fun x=>PyData.str (S [97+x]))=some (l.map fun x=>S [97+x]):=wG
 show (strsOf (l.map fun x=>PyData.str (S [97+x]))).bind (fun ys=>if JoinOk "" ys=true then some (PyData.str (Txt.join "" ys)) else none)=_
 rw [hs,Option.bind_some]
 rw [show ("":Str)=S [] from rfl,if_pos (Qw h),Qv]
theorem Qy {rl:List Nat}:(b9 rl).map PyData.int=rl.map fun (x:Nat)=>PyData.int x:=by
 unfold b9;rw [List.map_map];rfl
theorem Qz {x:Nat} (h:x < 3):iz (.str "abc") (.int (x:Int))=some (.str (S [97+x])):=by
 have e:("abc":Str)=S [97,98,99]:=by decide
 have:∀x,x < 3->[97,98,99].getD x 0=97+x:=by decide
 rw [e,item_str x rfl (by show x < 3;exact h) (by decide),this x h]
theorem QA (P:Params) {n:Nat} {rl:List Nat} (hl:rl.length=8) (h3:∀x∈rl,x < 3) {st:St} (hr:st.v "row"=some (fY rl)):
  bT IL cW (bc IL cW n) (aG P) st (sL P 1)=some (.aT,st.set "word" (.str (S (aJ rl)))):=by
 have aQ:aG P=aG P:=rfl
 conv at aQ=>rhs;whnf
 have hb:sL P 1=sL P 1:=rfl
 conv at hb=>rhs;whnf
 rw [aQ,hb]
 clear aQ hb
 unfold fY at hr
 rw [Qy] at hr
 refine' cm rfl rfl (ek rfl (by decide) rfl jv (ak (dF rfl rfl rfl rfl (i9 (aa hr rfl)) (dg rfl ?l1 rfl rfl (gu (enc:=fun (x:Nat)=>PyData.int x) (r:=fun x=>PyData.str (S [97+x])) fun x hx=>fg (DT rfl jv ?hw (aa gD rfl) (Qz (h3 x hx))))) ?l2) av) (Qx (by exact Zb cA 20 [_] [] hl)))
 case l1=>rw [List.length_map];exact bx hl
 case l2=>rw [List.length_map];exact bx hl
 case hw=>exact fun x ds h=>nomatch h
noncomputable def n7 (rl:List Nat):List (List Int):=(List.range' 0 8).map fun k=>(b9 rl).drop k
noncomputable def n8 (rl:List Nat):List (List Int):=(List.range' 0 8).map fun k=>((b9 rl).drop k).map fun x=> -x
theorem Gm:∀{l:List (List Int)},ia (l.map bL)=some l
 | []=>rfl
 | a::r=>by
  have:intsOf (a.map .int)=some a:=jU
  unfold bL at*
  simp only [List.map_cons,ia,this,Option.bind_some]
  rw [show (r.map fun l=>PyData.list (l.map .int))=r.map bL from rfl,Gm];rfl
theorem Gn {f:List Int->List Int} (hf:∀l,(f l).length=l.length) {l:List Int} (hl:l.length=8):((List.range' 0 8).map fun k=>f (l.drop k)).Nodup:=by
 unfold List.Nodup
 rw [List.pairwise_map]
 refine List.Pairwise.imp_of_mem (R:=(· < ·)) (fun {a b} ha hb bg e=> ?_) List.pairwise_lt_range'
 have ha:=List.mem_range'_1.mp ha
 have hb:=List.mem_range'_1.mp hb
 have:=congrArg List.length e
 rw [hf,hf,List.length_drop,List.length_drop] at this
 exact Zb cz 13 [_,_,_] [] ha this bg hl
theorem wI {rl:List Nat} (h:rl.length=8):(b9 rl).length=8:=by unfold b9;rw [List.length_map,h]
theorem Ak {rl:List Nat} (h:rl.length=8):(n7 rl).Nodup:=Gn (f:=id) (fun _=>rfl) (wI h)
theorem Al {rl:List Nat} (h:rl.length=8):(n8 rl).Nodup:=Gn (f:=fun l=>l.map fun x=> -x) (fun l=>List.length_map _) (wI h)
theorem wJ {rl:List Nat}:(n7 rl).length=8:=by unfold n7;simp
theorem wK {rl:List Nat}:(n8 rl).length=8:=by unfold n8;simp
noncomputable def jg (rl:List Nat):List Int:=(iK (n7 rl)).map fun (k:Nat)=>(k:Int)
noncomputable def jh (rl:List Nat):List Int:=(iK (n8 rl)).map fun (k:Nat)=>(k:Int)
theorem Gp {ds d} (h:v9 ds=some d):jD.fn "_law_ranks" ds=some d:=h
theorem Gq {E:List (List Int)} (h:E.length=8) (hn:E.Nodup):v9 [.list (E.map bL)]=some (.list (((iK E).map fun (k:Nat)=>(k:Int)).map .int)):=by
 show (ia (E.map bL)).bind _=_
 rw [Gm,Option.bind_some,if_pos ⟨h,hn⟩,List.map_map];rfl
theorem QB {Φ:cV} {J:aK} {n:Nat} {sc:Scope} {ρ:bh} {v i:Expr} {p:Pos} {ds:List PyData} (h:(ah Φ J n).e sc ρ (.Subscript v i p)=some (.list ds)):(ah Φ J (n+1)).i sc ρ (.Subscript v i p)=some ds:=by
 show ((ah Φ J n).e sc ρ (.Subscript v i p)).bind _=_
 rw [h];rfl
theorem QC (P:Params) {n:Nat} {rl:List Nat} (hl:rl.length=8) {st:St} (hr:st.v "row"=some (fY rl)):
  bT IL cW (bc IL cW n) (aG P) st (sL P 6)=some (.aT,st.set "small" (.list ((jg rl).map .int))):=by
 have aQ:aG P=aG P:=rfl
 conv at aQ=>rhs;whnf
 have hb:sL P 6=sL P 6:=rfl
 conv at hb=>rhs;whnf
 rw [aQ,hb]
 clear aQ hb
 have hlen:=wI hl
 have hE:(List.range' 0 8).map (fun k=>PyData.list (((b9 rl).drop k).map .int))=(n7 rl).map bL:=by unfold n7;rw [List.map_map];rfl
 refine' cm rfl rfl (bl rfl (ak (dF rfl rfl rfl rfl (eE rfl rfl (ak aC av) (kM 8 rfl (by exact lY))) (dg rfl (Nat.le_of_ble_eq_true rfl) rfl rfl ((gu (r:=fun k=>PyData.list (((b9 rl).drop k).map .int)) fun k hk=>fg (bM rfl (aa (g0 (by decide) (g7 rfl hr)) rfl) (aZ (aa gD rfl)) ej (Es k rfl (by exact bx hlen)))).trans (congrArg some hE))) (by rw [List.length_map,wJ];exact lk)) av) (Gp (Gq wJ (Ak hl))) (by decide))
theorem QD (P:Params) {n:Nat} {rl:List Nat} (hl:rl.length=8) {st:St} (hr:st.v "row"=some (fY rl)):
  bT IL cW (bc IL cW n) (aG P) st (sL P 7)=some (.aT,st.set "great" (.list ((jh rl).map .int))):=by
 have aQ:aG P=aG P:=rfl
 conv at aQ=>rhs;whnf
 have hb:sL P 7=sL P 7:=rfl
 conv at hb=>rhs;whnf
 rw [aQ,hb]
 clear aQ hb
 have hlen:=wI hl
 have hE:(List.range' 0 8).map (fun k=>PyData.list (((b9 rl).drop k).map fun x=> .int (-x)))=(n8 rl).map bL:=by
  unfold n8;rw [List.map_map]
  refine List.map_congr_left fun k _=> ?_
  show _=PyData.list ((((b9 rl).drop k).map fun x=> -x).map .int)
  rw [List.map_map];rfl
 refine' cm rfl rfl (bl rfl (ak (dF rfl rfl rfl rfl (eE rfl rfl (ak aC av) (kM 8 rfl (by exact lY))) (dg rfl (Nat.le_of_ble_eq_true rfl) rfl rfl ((gu (r:=fun k=>PyData.list (((b9 rl).drop k).map fun x=> .int (-x))) fun k hk=>fg (dF rfl rfl rfl rfl (QB (bM rfl (aa (g0 (by decide) (g7 rfl hr)) rfl) (aZ (aa gD rfl)) ej (Es k rfl (by exact bx hlen)))) (dg rfl ?l1 rfl rfl (gu (r:=fun x=>PyData.int (-x)) fun x hx=>fg (yQ (aa gD rfl)))) ?l2)).trans (congrArg some hE))) (by rw [List.length_map,wK];exact lk)) av) (Gp (Gq wK (Al hl))) (by decide))
 case l1=>rw [List.length_map,List.length_drop];exact Zb Z4 20 [_,_] [] hlen
 case l2=>rw [List.length_map,List.length_drop];exact Zb Z4 20 [_,_] [] hlen
theorem QE (P:Params) {n:Nat} {small great:List Int} (h1:small.length=8) (h2:great.length=8) {st:St} (hs:st.full "small"=some (.list (small.map .int))) (hg:st.full "great"=some (.list (great.map .int))):
  bT IL cW (bc IL cW (n+1)) (aG P) st (sL P 8)=some (.aT,st):=by
 have aQ:aG P=aG P:=rfl
 conv at aQ=>rhs;whnf
 have hb:sL P 8=sL P 8:=rfl
 conv at hb=>rhs;whnf
 rw [aQ,hb]
 clear aQ hb
 exact cQ (bA rfl (kK (aH rfl (bl rfl (ak (aa hs rfl) av) (pg (len_list (by exact bx h1))) (by decide)) aC (D6 (by exact Zb Z4 21 [_] [] h1))) (aH rfl (bl rfl (ak (aa hg rfl) av) (pg (len_list (by exact bx h2))) (by decide)) aC (D6 (by exact Zb Z4 21 [_] [] h2))))) a9
theorem QF {ds d} (h:wq ds=some d):jD.fn "_law_runs" ds=some d:=h
theorem QG (P:Params) {n:Nat} {rl:List Nat} (hl:rl.length=8) {rs:List (Nat × Nat × Nat)} (hR:rs.map fO=kR (aJ rl)) {st:St} (hr:st.full "runs"=some (.list (rs.map tD))) (hw:st.full "word"=some (.str (S (aJ rl)))):
  bT IL cW (bc IL cW (n+1)) (aG P) st (sL P 5)=some (.aT,st):=by
 have aQ:aG P=aG P:=rfl
 conv at aQ=>rhs;whnf
 have hb:sL P 5=sL P 5:=rfl
 conv at hb=>rhs;whnf
 rw [aQ,hb]
 clear aQ hb
 have hF:wq [.str (S (aJ rl))]=some (.list (rs.map tD)):=by
  show (if (S (aJ rl)).length=8 then _ else none)=_
  rw [if_pos (by rw [c8];unfold aJ;rw [List.length_map,hl]),fN, <- hR,List.map_map];rfl
 have hq:eW (rs.map tD) (rs.map tD)=some true:=by
  have:rs.map tD=(rs.map fO).map bZ:=by rw [List.map_map];rfl
  rw [this]
  exact M5.jb (by exact pM) (fun _ _=>trivial) (fun _ _=>trivial) rfl
 exact cQ (bA rfl (aH rfl (aa hr rfl) (bl rfl (ak (aa hw rfl) av) (QF hF) (by decide)) (vO hq))) a9
noncomputable def qS (cl:List Cl):List Nat:=(List.range' 0 8).filter fun j=> !(keysOf cl).contains j
theorem Gr {cl:List Cl}:mS cl 8=(qS cl).map fun j=>(j,false,S []):=by
 unfold mS qS
 rw [List.range_eq_range']
theorem Gs {k:Nat}:∀(cl:List Cl),(cl.map fun x=>S [65+x.1]).any (· ==S [65+k])=(cl.map (·.1)).contains k
 | []=>rfl
 | x::cl=>by
  rw [List.map_cons,List.any_cons,List.map_cons,List.contains_cons,Gs cl]
  congr 1
  by_cases q:x.1=k
  ·subst q;simp
  ·rw [beq_eq_false_iff_ne.mpr (Ne.symm q),beq_eq_false_iff_ne]
   intro e
   have:=zi e
   injection this with this _
   exact Zb Z3 10 [_,_] [] this q
theorem QH (P:Params) {n:Nat} {cl:List Cl} (aM:∀x∈cl,x.1 < 8) (dn:cl.length<=3000) {E:List En} {st:St} (F:Fin cl E st):
  bT IL cW (bc IL cW n) (aG P) st (sL P 15)=some (.aT,st.set "rest" (.list ((qS cl).map fun (k:Nat)=> .int k))):=by
 have aQ:aG P=aG P:=rfl
 conv at aQ=>rhs;whnf
 have hb:sL P 15=sL P 15:=rfl
 conv at hb=>rhs;whnf
 rw [aQ,hb]
 clear aQ hb
 have l9:NL.length=9:=rfl
 have key:∀k:Nat,k < 8->cg .NotIn (.str (S [NL.getD k 0])) (.list (cl.map fun x=>PyData.str (S [65+x.1])))=some (!(keysOf cl).contains k):=fun k hk=>by
  show (md (.str (S [NL.getD k 0])) (cl.map fun x=>PyData.str (S [65+x.1]))).map (!·)=_
  unfold md
  rw [wG,pk (by exact mZ hk)]
  show some (!((cl.map fun x=>S [65+x.1]).any (· ==S [65+k])))=_
  rw [Gs];rfl
 refine' cm rfl rfl (dF rfl rfl rfl rfl (eE rfl rfl (ak aC av) (kM 8 rfl (by exact lY))) (dg rfl (Nat.le_of_ble_eq_true rfl) rfl rfl (kP (r:=fun (k:Nat)=>PyData.int k) (fun j=> !(keysOf cl).contains j) (fun k hk hc=>kI ?t1 (aa gD rfl)) (fun k hk hc=>kJ ?t2))) ?l2)
 case l2=>
  rw [List.length_map]
  refine Nat.le_trans (List.length_filter_le _ _) ?_
  rw [List.length_range'];exact lk
 case t1=>
  have ja:k < 8:=by have:=List.mem_range'_1.mp hk;exact Zb Z1 32 [_] [] this
  refine aH rfl (bF rfl (g0 (by decide) (g7 rfl F.names)) rfl (aa gD rfl) (item_str k rfl (by exact pJ ja l9) (by exact lX l9))) (dF rfl rfl rfl rfl (i9 (aa (g0 (by decide) (g7 rfl F.il)) rfl)) (dg rfl (by rw [List.length_map];exact lW dn) rfl rfl (gu (enc:=bJ) (r:=fun x=>PyData.str (S [65+x.1])) fun x hx=>fg (ek rfl (by decide) rfl (bF rfl gD rfl aC rfl) av (wH (aM x hx))))) (by rw [List.length_map];exact lW dn)) ((key k ja).trans (congrArg some hc))
 case t2=>
  have ja:k < 8:=by have:=List.mem_range'_1.mp hk;exact Zb Z1 32 [_] [] this
  refine aH rfl (bF rfl (g0 (by decide) (g7 rfl F.names)) rfl (aa gD rfl) (item_str k rfl (by exact pJ ja l9) (by exact lX l9))) (dF rfl rfl rfl rfl (i9 (aa (g0 (by decide) (g7 rfl F.il)) rfl)) (dg rfl (by rw [List.length_map];exact lW dn) rfl rfl (gu (enc:=bJ) (r:=fun x=>PyData.str (S [65+x.1])) fun x hx=>fg (ek rfl (by decide) rfl (bF rfl gD rfl aC rfl) av (wH (aM x hx))))) (by rw [List.length_map];exact lW dn)) ((key k ja).trans (congrArg some hc))
section
variable {prog:Program} {w:World} {mg mb:Str->Option Value}
variable {A:Around} {lm:Bool} {cd:Option (Addr × Addr)} {af fr:List Addr} {ae s s':Shared} {env:Env} {sc:Scope} {own:List (Str × Addr)} {st:St}
theorem Am (hA:Lv 4 A):br prog w mg mb A false (ah jD eX 14):=kB (m:=0) hA.ok gR (FA hA) 14
theorem An (hA:Lv 1 A) (O:aX cd fr af env sc) (F:FS w.params mg mb lm cd af fr ae env sc own st s) {ds:List PyData} (hh:st.h=some ds) (hl:ds.length<=4096) {p ap cp:Pos} {E:Value->Shared->Prop} {Q:Value->Shared->Prop} (cX:(ap.endLine==cp.line)=true)
  (h:∀a s',Kp w.params mg mb (fr++af) s s'->Rep (fr++af) s'.heap (.ref a) (.list ds)->s.heap.get? a=none->Q (.ref a) s'):
  wpAny (model prog w) A (eval (.Call (.Attribute (.Name "claims" p) "items" ap) [] [] cp) env) Q E s:=by
 refine j9 (F.jP _ hh:) fun c d l vs f1 f2 f3 f4 f5 f6=> ?_
 refine xA (O.jO c d f2:) fun c1 c2=> ?_
 have xc:∀{a},a∈af->a∈oa own++(fr++af):=fun q=>List.mem_append_right _ (List.mem_append_right _ q)
 refine xA (fR (f3.df F.er.cq):) fun n1 n2=> ?_
 refine th (N4 w.params) rfl rfl cX (wpAny_Name (eZ F.er.kind f3 (aA.refl _) n2 ⟨c,d,l,rfl,F.ctx.dX.keeps fc,f4, ?_⟩) n1)
 refine gO (first:=[.ref c]) rfl (Calls.spliced_nil ⟨nO (Fg w.params) _ _ F.ctx, ?_⟩)
 refine wpAny_mono (OC (X:=fr++af) hA F.ff F.cu f4 (F.aD c (xc c1)).1 (F.aD d (xc c2)).1 (F.C5 f1 f5 f6) hl) (fun v ab q=> ?_) fun _ _ q=>q
 (refine tW q ?_;clear q;intro k r a ay ha;subst ay)
 exact h a ab k r ha
theorem QI (hA:Lv 4 A) (O:aX cd fr af env (aG w.params)) (F:FS w.params mg mb false cd af fr ae env (aG w.params) own st s) {ds:List PyData} (hh:st.h=some ds) (Ag:st.full "due"=some (.list ds)) (hl:ds.length<=4096) (heq:eW ds ds=some true) {r:List Stmt} {E:Value->Shared->Prop} {Q:Flow->Shared->Prop}
  (h:∀s',FS w.params mg mb false cd af fr ae env (aG w.params) own st s'->wpAny (model prog w) A (execs r env) Q E s'):wpAny (model prog w) A (execs (sL w.params 12::r) env) Q E s:=by
 have S:=Am (prog:=prog) (w:=w) (mg:=mg) (mb:=mb) hA
 have hb:sL w.params 12=sL w.params 12:=rfl
 conv at hb=>rhs;whnf
 rw [hb]
 clear hb
 refine wpAny_execs_cons (wpAny_If (wpAny_isTrue_Compare1 (An (hA.le (by exact m7)) O F hh hl rfl fun a ab k₁ ra ha=> ?_) rfl))
 have au:=F.dC O k₁
 refine (S.e au.cu au.ff au.gm (aa Ag rfl)).then (Kp.refl au.cu) fun xZ aq k₂ jm=> ?_
 have aB:=au.dC O k₂
 refine wpAny_mono (pR hA.ok k₂.ctx (ra.grow k₂.grow) jm (vO heq)) (fun cv aS q=> ?_) fun _ _ q=>q
 (refine xA q ?_;clear q;intro bS rc)
 obtain rfl:=rc.bool_inv
 refine wpAny_truthy_bool ?_
 rw [if_neg (by simp)]
 exact wpAny_execs_nil (h aS (aB.dC O bS))
theorem QJ (hA:Lv 4 A) (O:aX cd fr af env (aG w.params)) (F:FS w.params mg mb false cd af fr ae env (aG w.params) own st s) {ds:List PyData} (hh:st.h=some ds) (hl:ds.length<=4000) {r:List Stmt} {E:Value->Shared->Prop} {Q:Flow->Shared->Prop}
  (h:∀s',FS w.params mg mb false cd af fr ae env (aG w.params) own st s'->wpAny (model prog w) A (execs r env) Q E s'):wpAny (model prog w) A (execs (sL w.params 13::r) env) Q E s:=by
 have S:=Am (prog:=prog) (w:=w) (mg:=mg) (mb:=mb) hA
 have hb:sL w.params 13=sL w.params 13:=rfl
 conv at hb=>rhs;whnf
 rw [hb]
 clear hb
 refine wpAny_execs_cons (wpAny_Expr (hi:=u5 F) (hs:=rfl) ?_)
 refine wpAny_Call_method_lateS rfl rfl rfl (An (hA.le (by exact m7)) O F hh (by exact ez hl) rfl fun a ab k₁ ra ha=> ?_)
 have au:=F.dC O k₁
 refine cT ra.dY fun a' o vs n q t1 m1 e1 c1 d1 r1=> ?_
 cases q
 refine xA (ra.list_dict e1:) fun Ao Gu=> ?_
 refine ⟨"list",_,PySem.F.plainAttrs_list,PySem.F.slot_list_append,PySem.F.type_list_append,⟨_,e1,c1⟩,fun b e=>(by cases e;exact ⟨_,e1,Ao⟩), ?_⟩
 refine gO (first:=[.ref a]) rfl (Calls.spliced_cons ((S.e au.cu au.ff au.gm (qq (k:=0) (ak jv (ak jv av)) (Nat.le_of_ble_eq_true rfl))).then (Kp.refl au.cu) fun xZ aq k₂ jm=>Calls.spliced_nil ⟨.inl ⟨_,rfl⟩, ?_⟩))
 have aB:=au.dC O k₂
 have a8:aq.heap.PlainList a vs:=by
  refine ⟨n, ?_⟩
  rw [k₂.grow _ _ t1 e1]
  obtain ⟨oc,od,Tg,os⟩:=o
  simp only at c1 d1 Ao Gu
  subst c1 d1 Ao Gu
  rfl
 have hlen:=r1.length
 rw [Array.length_toList] at hlen
 refine wpAny_list_append_plain a8 (fun h' eN bR=> ?_) (by rw [sizeLine_eq];exact Zb Z2 39 [_,_] [] hlen hl)
 have kk:=k₁.trans k₂
 have ku:Ctx w.params mg mb ([a]++(oa own++(fr++af))) aq.heap:=(F.ctx.fresh (N:=[a]) fun b hb=>by rw [List.mem_singleton.mp hb];exact ha).back kk.grow aB.ctx fun b hb=>by
  rw [List.mem_singleton.mp hb]
  (refine xE a8 ?_;clear a8;intro n' e')
  exact ⟨_,e',fun _ h=>nomatch h⟩
 have T:Tn w.params mg mb ([a]++(oa own++(fr++af))) [a] aq {aq with heap:=h'}:=Tn.one ku bR.extBut (.head _) t1
 have bu:FS w.params mg mb false cd af fr ae env (aG w.params) own st {aq with heap:=h'}:=by
  refine F.go O ?_ (fun b o n e=>bR.extBut b o (fun q=>by rw [q,ha] at e;exact no e) (kk.grow b o n e)) (T.ctx.less fun _ q=>List.mem_append_right _ q)
  refine cN kk.shape fun h2 t2 e2=> ?_
  exact ⟨h',t2,by rw [e2]⟩
 exact h _ bu
end
structure Good (rl:List Nat) (eS:Nat->List (Nat × Nat × Nat)):Prop where
 len:rl.length=8
 Gv:∀x∈rl,x < 3
 QK:∀p,1<=p->p<=4->nN (b9 rl) p=(eS p).map fO
 ok:∀p,1<=p->p<=4->z8 rl p (eS p)
 cnt:∀p,(eS p).length<=20
 runs:(ik rl eS).map fO=kR (aJ rl)
 QL:(ik rl eS).length<=100
 s8:(jg rl).length=8
 g8:(jh rl).length=8
 each:∀t∈ik rl eS,Ai rl (jg rl) (jh rl) t
 sf:((ik rl eS).flatMap (k7 rl)).Nodup
noncomputable def tI (rl:List Nat) (rs:List (Nat × Nat × Nat)):List Cl:=rs.flatMap (j8 rl)
theorem QM {rl:List Nat} {rs:List (Nat × Nat × Nat)} (h:∀t∈rs,iM t):∀x∈tI rl rs,x.1 < 8/\iM x.2.2:=fun x hx=>by
 refine aj (List.mem_flatMap.mp hx:) fun t ht hx=> ?_
 (refine aj (List.mem_map.mp hx:) fun k hk ay=> ?_;subst ay)
 exact ⟨Ge (h t ht) hk,h t ht⟩
theorem Gw {rl:List Nat}:∀{rs:List (Nat × Nat × Nat)},(∀t∈rs,iM t)->(tI rl rs).length<=8*rs.length
 | [],_=>Nat.le_refl _
 | t::rs,h=>by
  unfold tI
  rw [List.flatMap_cons,List.length_append,List.length_cons]
  have h1:(j8 rl t).length<=8:=by unfold j8;rw [List.length_map];exact Gf (h t (.head _))
  have h2:=Gw (rl:=rl) (rs:=rs) fun t ht=>h t (.tail _ ht)
  unfold tI at h2
  exact Zb cA 24 [_,_,_] [] h1 h2
section
variable {prog:Program} {w:World} {mg mb:Str->Option Value}
variable {A:Around} {cd:Option (Addr × Addr)} {af fr:List Addr} {ae s s':Shared} {env:Env} {own:List (Str × Addr)} {st:St}
theorem QN (hA:Lv 4 A) (O:aX cd fr af env (aG w.params)) (F:FS w.params mg mb false cd af fr ae env (aG w.params) own st s) {cl:List Cl} (aM:∀x∈cl,x.1 < 8/\iM x.2.2) (dn:cl.length<=3000) (hf:Fin cl (EL cl 8) st) (QO:st.v "rest"=some (.list ((qS cl).map fun (k:Nat)=> .int k))) {E:Value->Shared->Prop} {Q:Flow->Shared->Prop}
  (h:∀s',FS w.params mg mb false cd af fr ae env (aG w.params) own st s'->Q (.ret (.bool true)) s'):wpAny (model prog w) A (execs [sL w.params 16] env) Q E s:=by
 have Sd:=Am (prog:=prog) (w:=w) (mg:=mg) (mb:=mb) hA
 have hb:sL w.params 16=sL w.params 16:=rfl
 conv at hb=>rhs;whnf
 rw [hb]
 clear hb
 have fK:=Gj (cl:=cl) (k:=8)
 have hlen:((EL cl 8).map eD).length<=4000:=by unfold EL;rw [List.length_map,List.length_append,List.length_map];exact Zb cA 25 [_,_] [] dn fK
 have Ap:(qS cl).length<=8:=by rw [Gr,List.length_map] at fK;exact fK
 have heq:eW ((EL cl 8).map eD) ((EL cl 8).map eD)=some true:=Gk fun x hx=>by
  rcases List.mem_append.mp hx with q | q
  ·(refine aj (List.mem_map.mp q:) fun y hy aF=> ?_;subst aF)
   exact ⟨(aM y hy).1,z9 (aM y hy).2⟩
  ·(refine aj (List.mem_map.mp q:) fun j hj aP=> ?_;subst aP)
   exact ⟨List.mem_range.mp (List.mem_filter.mp hj).1, .head _⟩
 have l9:NL.length=9:=rfl
 refine wpAny_execs_cons (wpAny_Return_some (wpAny_Compare1 (An (hA.le (by exact m7)) O F hf.h (by exact ez hlen) rfl fun a ab k₁ ra ha=> ?_) rfl))
 have au:=F.dC O k₁
 have Th:∀{q1 q2 q3 q4 q5 q6 q7 q8 q9 o9:Pos} {n1:Nat},True:=fun {_ _ _ _ _ _ _ _ _ _ _}=>trivial
 refine (Sd.e (d:= .list ((EL cl 8).map eD)) au.cu au.ff au.gm ?_).then (Kp.refl au.cu) fun xZ aq k₂ jm=> ?_
 ·refine' aY (aa (cj hf.o (by decide) hf.il) rfl) (dF (ds:=(qS cl).map fun k=>eD (k,false,S [])) rfl rfl rfl rfl (i9 (aa (cj hf.o (by decide) QO) rfl)) (dg rfl ?l1 rfl rfl (gu (r:=fun k=>eD (k,false,S [])) fun k hk=>fg ?el)) ?l2) ?ad
  case l1=>rw [List.length_map];exact dW Ap
  case l2=>rw [List.length_map];exact dW Ap
  case el=>
   have ja:k < 8:=by have:=List.mem_range'_1.mp (List.mem_filter.mp hk).1;exact Zb Z1 32 [_] [] this
   have e1:eD (k,false,S [])= .tuple [.str (S [NL.getD k 0]), .str ""]:=by rw [pk (by exact mZ ja)];rfl
   rw [e1]
   exact qq (ak (bF rfl (g0 (by decide) (g7 rfl (cj hf.o (by decide) hf.names))) rfl (aa gD rfl) (item_str k rfl (by exact pJ ja l9) (by exact lX l9))) (ak jv av)) (Nat.le_of_ble_eq_true rfl)
  case ad=>
   rw [Bz (by rw [List.length_map,List.length_map];exact Zb cA 26 [_,_] [] dn Ap)]
   congr 2
   unfold EL
   rw [List.map_append,Aj,Gr,List.map_map];rfl
 ·have aB:=au.dC O k₂
  refine wpAny_mono (pR hA.ok k₂.ctx (ra.grow k₂.grow) jm (jb heq)) (fun cv aS q=> ?_) fun _ _ q=>q
  (refine xA q ?_;clear q;intro bS rc)
  obtain rfl:=rc.bool_inv
  exact h aS (aB.dC O bS)
end
theorem QP (P:Params) {n:Nat} {st:St}:bT IL cW (bc IL cW n) (aG P) st (sL P 2)=some (.aT,st.set "names" (.str "ABCDEFGHI")):=by
 have aQ:aG P=aG P:=rfl
 conv at aQ=>rhs;whnf
 have hb:sL P 2=sL P 2:=rfl
 conv at hb=>rhs;whnf
 rw [aQ,hb]
 exact cm rfl rfl jv
section
variable {prog:Program} {w:World} {mg mb:Str->Option Value}
variable {A:Around} {cd:Option (Addr × Addr)} {af fr:List Addr} {ae s s':Shared} {env:Env} {own:List (Str × Addr)} {st ag:St}
theorem lQ (hA:Lv 4 A) (O:aX cd fr af env (aG w.params)) (F:FS w.params mg mb false cd af fr ae env (aG w.params) own st s) {n:Nat} {t:Stmt} {r:List Stmt} {E:Value->Shared->Prop} {Q:Flow->Shared->Prop} (h:bT IL cW (bc IL cW n) (aG w.params) st t=some (.aT,ag))
  (hr:∀s',FS w.params mg mb false cd af fr ae env (aG w.params) own ag s'->wpAny (model prog w) A (execs r env) Q E s'):wpAny (model prog w) A (execs (t::r) env) Q E s:=
 mD (Φ:=jD) (J:=eX) (k:=13) (c:=cW) (m:=0) hA.ok gR (FA hA) (HL hA) O F h hr
theorem QQ (hA:Lv 4 A) (O:aX none fr af env (aG w.params)) {ns:List Int} (bX:ns.length<=4000) {rl:List Nat} (fK:kQ ns=b9 rl) (F:FS w.params mg mb false none af fr ae env (aG w.params) [] ⟨([("script",iy (ns.map .int))]:VL),[],none⟩ s) {r:List Stmt} {E:Value->Shared->Prop} {Q:Flow->Shared->Prop}
  (h:∀s',FS w.params mg mb false none af fr ae env (aG w.params) [] ⟨([("script",iy (ns.map .int)),("row",fY rl)]:VL),[],none⟩ s'->wpAny (model prog w) A (execs r env) Q E s'):wpAny (model prog w) A (execs (sL w.params 0::r) env) Q E s:=by
 have hb:sL w.params 0=sL w.params 0:=rfl
 conv at hb=>rhs;whnf
 rw [hb]
 clear hb
 have hg:dP (aG w.params) "_law_letters"=true:=by rfl
 refine wpAny_execs_cons (wpAny_Assign_Name (wpAny_Call_Name_kw ((jq (v:= .ref 235) F.er hg (fun h C=>fI C rfl) (by decide)).then (Kp.refl F.ctx) fun u ab k₁ e=> ?_)) rfl)
 subst e
 have au:=F.kp O k₁
 refine aj (au.er.vals "script" (iy (ns.map .int)) rfl:) fun v hv rv=> ?_
 refine xA (fR (hv.df au.er.cq):) fun n1 n2=> ?_
 refine gO (first:=[]) rfl (Calls.spliced_cons (wpAny_Name (eZ au.er.kind hv (aA.refl _) n2 (Calls.spliced_nil ⟨kH (Ey w.params) _ _ au.ctx, ?_⟩)) n1))
 refine xE (sG (M4 w.params ns bX):) fun ag hr=> ?_
 have hp:eP (oa ([]:List (Str × Addr))++(fr++af)) ab.heap ((["script"]:List Str).zip [v]) ((["script"]:List Str).zip [iy (ns.map .int)]):= .cons rv .nil
 refine wpAny_mono (call_plain (Ey w.params) (zl (m:=1)) (hA.le (by exact Zb cB 5 [] [])) H0 (vs:=[v]) (ds:=[iy (ns.map .int)]) au.aD au.ctx hp (by kernel_rfl) (fun q=>nomatch q) hr) (fun rv aq q=> ?_) fun _ _ q=>q
 (refine xA q ?_;clear q;intro k₂ jm)
 have aB:=au.kp O k₂
 have hd:PyData.list ((kQ ns).map .int)=fY rl:=by rw [fK];rfl
 rw [hd] at jm
 exact aB.store O (cs w.params (by decide)) jm fun aS bu _=>h aS bu
theorem QR (hA:Lv 4 A) (O:aX none fr af env (aG w.params)) {ns:List Int} (bX:ns.length<=4000) {rl:List Nat} {eS:Nat->List (Nat × Nat × Nat)} (fK:kQ ns=b9 rl) (G:Good rl eS) (F:FS w.params mg mb false none af fr ae env (aG w.params) [] ⟨([("script",iy (ns.map .int))]:VL),[],none⟩ s) {E:Value->Shared->Prop} {Q:Flow->Shared->Prop}
  (h:∀s',(∃h tk,s'={ae with heap:=h,toks:=tk})->aA ae.heap s'.heap->Ctx w.params mg mb [] s'.heap->Q (.ret (.bool true)) s'):wpAny (model prog w) A (execs (bU w.params 269) env) Q E s:=by
 rw [Pt]
 generalize nY:ik rl eS=rs at*
 have Gx:=G.runs
 have Aq:=G.each
 have Gy:=G.sf
 have n9:=G.QL
 rw [nY] at Gx Aq Gy n9
 refine QQ hA O bX fK F fun ab au=> ?_
 refine lQ (n:=9) hA O au (QA w.params G.len G.Gv rfl) fun aq aB=> ?_
 refine lQ (n:=9) hA O aB (QP w.params) fun aS bu=> ?_
 obtain ⟨px,lp,pos,wF⟩:∃px lp pos,sL w.params 3= .Assign [.Name "runs" px] (.List [] lp) pos:=⟨_,_,_,rfl⟩
 rw [wF]
 refine wpAny_execs_cons (ve bu O (cs w.params (by decide)) rfl (by decide) fun a fG dQ=> ?_)
 have I4:mR rl [] ((((⟨([("script",iy (ns.map .int)),("row",fY rl)]:VL),[],none⟩:St).set "word" (.str (S (aJ rl)))).set "names" (.str "ABCDEFGHI")).ju "runs" []):=by
  refine ⟨rfl,rfl,rfl,fun y hy=> ?_,rfl,rfl⟩
  show ([("runs",([]:List PyData))]:OL).lookup y=none
  rw [List.lookup_cons,beq_eq_false_iff_ne.mpr hy];rfl
 refine aj (PJ w.params G.len eS G.QK G.ok G.cnt I4:) fun Ti e5 I5=> ?_
 refine lQ hA O dQ e5 fun c7 cI=> ?_
 rw [nY] at I5
 have ij:FS w.params mg mb false none af fr ae env (aG w.params) [("runs",a)] ⟨([("row",fY rl),("word", .str (S (aJ rl))),("names", .str (S NL))]:VL),([("runs",rs.map tD)]:OL),none⟩ c7:=by
  refine cI.forget (zW I5.row (zW I5.word (zW (by rw [I5.names,PM]) Pr))) (fun x ds e=> ?_) I5.h.symm
  have e:([("runs",rs.map tD)]:OL).lookup x=some ds:=e
  rw [List.lookup_cons] at e
  by_cases q:x="runs"
  ·subst q;(obtain rfl:=Option.some.inj e;clear e);exact I5.r
  ·rw [beq_eq_false_iff_ne.mpr q] at e;exact no e
 clear cI dQ bu aB au
 refine lQ (n:=10) hA O ij (QG w.params G.len Gx rfl rfl) fun ie dj=> ?_
 refine lQ (n:=9) hA O dj (QC w.params G.len rfl) fun ig fB=> ?_
 refine lQ (n:=9) hA O fB (QD w.params G.len rfl) fun vJ d9=> ?_
 refine lQ (n:=10) hA O d9 (QE w.params G.s8 G.g8 rfl rfl) fun Ep kN=> ?_
 have Ar:=kN.free (x:="runs") (ds:=rs.map tD) rfl (by decide)
 rw [show mE "runs" [("runs",a)]=[] by simp [mE]] at Ar
 obtain ⟨Tj,To,Tp,Tq,Tr,QS⟩:∃px hp lp cp pos,sL w.params 9= .Assign [.Name ef px] (.Call (.Name "Headers" hp) [.List [] lp] [] cp) pos:=⟨_,_,_,_,_,rfl⟩
 rw [QS]
 refine wpAny_execs_cons (O4 (hA.le (by exact Zb Z2 30 [] [])) O Ar rfl (by rfl) (by rfl) rfl rfl rfl rfl fun c d l zf pn mM=> ?_)
 clear kN Ar d9 fB dj ij
 obtain ⟨Ts,Tt,Tu,QT⟩:∃px lp pos,sL w.params 10= .Assign [.Name "due" px] (.List [] lp) pos:=⟨_,_,_,rfl⟩
 rw [QT]
 refine wpAny_execs_cons (ve mM pn (cs w.params (by decide)) rfl (by decide) fun a2 QU v7=> ?_)
 have jf:∀t∈rs,iM t:=fun t ht=>(Aq t ht).sp
 obtain ⟨q1,q2,q3,m,q5,q6,q7,QV⟩:∃q1 q2 q3 m q5 q6 q7,sL w.params 11= .For (.Tuple [.Name "p" q1, .Name "begin" q2, .Name "end" q3] m q5) (.Name "runs" q6) (j7 (sL w.params 11)) [] q7:=⟨_,_,_,_,_,_,_,rfl⟩
 generalize aM:tI rl rs=cl
 have tJ:=QM (rl:=rl) jf
 have qT:=Gw (rl:=rl) jf
 rw [aM] at tJ qT
 have Gz:∀x∈cl,x.1 < 8:=fun x hx=>(tJ x hx).1
 have QW:FS w.params mg mb false (some (c,d)) ([c,d]++af) fr ae env (aG w.params) [("due",a2),(cY,l)] ⟨([("row",fY rl),("word", .str (S (aJ rl))),("names", .str (S NL)),("small", .list ((jg rl).map .int)),("great", .list ((jh rl).map .int)),("runs", .list (rs.map tD))]:VL),([("due",([]:List Cl).map bJ)]:OL),some (([]:List Cl).map bJ)⟩ QU:=v7
 clear v7 mM
 have QX:Bs rl (jg rl) (jh rl) ⟨([("row",fY rl),("word", .str (S (aJ rl))),("names", .str (S NL)),("small", .list ((jg rl).map .int)),("great", .list ((jh rl).map .int)),("runs", .list (rs.map tD))]:VL),([("due",([]:List Cl).map bJ)]:OL),some (([]:List Cl).map bJ)⟩:=by
  refine ⟨rfl,rfl,rfl,rfl,rfl,fun y hy=> ?_⟩
  show ([("due",([]:List Cl).map bJ)]:OL).lookup y=none
  rw [List.lookup_cons,beq_eq_false_iff_ne.mpr hy];rfl
 refine eT (Gg w.params (n:=4) G.len G.Gv G.s8 G.g8 (q1:=q1) (q2:=q2) (q3:=q3) (q5:=q5) (m:=m) rs [] _ Aq (by simpa using Gy) (fun _ h=>nomatch h) (by rw [List.length_nil];exact Zb cB 6 [_] [] n9) QX rfl rfl:) fun pq QY GA wL tK=> ?_
 have FE:bT IL cW (bc IL cW 9) (aG w.params) ⟨([("row",fY rl),("word", .str (S (aJ rl))),("names", .str (S NL)),("small", .list ((jg rl).map .int)),("great", .list ((jh rl).map .int)),("runs", .list (rs.map tD))]:VL),([("due",([]:List Cl).map bJ)]:OL),some (([]:List Cl).map bJ)⟩ (sL w.params 11)=some (.aT,pq):=by
  rw [QV]
  exact (nL rfl (i9 (aa rfl rfl)) (by rw [List.length_map];exact Zb Z4 12 [_] [] n9)).trans QY
 refine lQ (n:=9) hA pn QW FE fun Nx zx=> ?_
 rw [List.nil_append] at wL tK
 have we:rs.flatMap (j8 rl)=cl:=aM
 rw [we] at wL tK
 have heq:eW (cl.map bJ) (cl.map bJ)=some true:=by
  rw [<- Aj]
  exact Gk fun x hx=>by
   (refine aj (List.mem_map.mp hx:) fun y hy ay=> ?_;subst ay)
   exact ⟨(tJ y hy).1,z9 (tJ y hy).2⟩
 refine QI hA pn zx tK (Pq wL) (by rw [List.length_map];exact Zb cB 7 [_,_] [] n9 qT) heq fun Tv QZ=> ?_
 have Q0:=QZ.free wL (by decide)
 have GB:∀y,(pq.free "due" (cl.map bJ)).v y=if y="due" then some (.list (cl.map bJ)) else pq.v y:=fun y=>qe
 have Q1:∀y,(pq.free "due" (cl.map bJ)).o y=if y="due" then none else pq.o y:=fun y=>qf
 have Q2:(EL cl 0).map eD=cl.map bJ:=by
  show (cl.map qR++[]).map eD=_
  rw [List.append_nil,Aj]
 have Fn:Fin cl (EL cl 0) (pq.free "due" (cl.map bJ)):=by
  refine ⟨?_, ?_,fun y hy=> ?_, ?_⟩
  ·rw [GB,if_neg (by decide)];exact GA.names
  ·rw [GB,if_pos rfl]
  ·rw [Q1]
   split
   ·rfl
   ·rename_i q;exact GA.o y q
  ·rw [Q2];exact tK
 refine QJ hA pn Q0 (show (pq.free "due" (cl.map bJ)).h=some (cl.map bJ) from tK) (by rw [List.length_map];exact Zb cB 8 [_,_] [] n9 qT) fun Tw Q3=> ?_
 refine aj (Qu w.params (n:=7) Gz (by exact Zb Z2 32 [_,_] [] n9 qT) Fn:) fun Tz Q4 GC=> ?_
 refine lQ (n:=9) hA pn Q3 Q4 fun TA Q5=> ?_
 refine lQ (n:=9) hA pn Q5 (QH w.params Gz (by exact Zb Z2 32 [_,_] [] n9 qT) GC) fun TB Q6=> ?_
 refine QN hA pn Q6 tJ (by exact Zb Z2 32 [_,_] [] n9 qT) (GC.set (by decide) (by decide)) v_eq fun Q7 As=> ?_
 exact h Q7 As.eq As.gr (As.ctx.less fun _ q=>(nomatch q))
end
end cb
namespace cb
theorem tM {left:Bool} {t:Nat->Bool}:∀{f lo hi:Nat},lo<=hi->hi - lo < f->∃r,cH left (fun i=>some (t i)) f lo hi=some r/\lo<=r/\r<=hi/\(r=lo\/t (r - 1)=left)/\(r=hi\/t r= !left)
 | 0,lo,hi,h,hf=>absurd hf (Nat.not_lt_zero _)
 | f+1,lo,hi,h,hf=>by
  rw [sO]
  by_cases q:lo < hi
  ·rw [if_pos q,Option.bind_some]
   by_cases c:t ((lo+hi) / 2)=left
   ·rw [if_pos (by rw [c];exact beq_self_eq_true left)]
    obtain ⟨r,e,h1,h2,h3,h4⟩:=tM (left:=left) (t:=t) (f:=f) (lo:=(lo+hi) / 2+1) (hi:=hi) (by exact Zb Z9 26 [_,_,_] [] (bW _) q) (by exact Zb Z3 39 [_,_,_,_] [] (bW _) hf q)
    refine ⟨r,e,by exact HI h1 q,h2, .inr ?_,h4⟩
    rcases h3 with h3 | h3
    ·rw [h3,Nat.add_sub_cancel];exact c
    ·exact h3
   ·rw [if_neg (by rw [beq_iff_eq];exact c)]
    obtain ⟨r,e,h1,h2,h3,h4⟩:=tM (left:=left) (t:=t) (f:=f) (lo:=lo) (hi:=(lo+hi) / 2) (by exact Zb Z4 1 [_,_,_] [] (bW _) q) (by exact Zb Z4 2 [_,_,_,_] [] (bW _) hf q)
    refine ⟨r,e,h1,by exact HS q h2,h3, .inr ?_⟩
    rcases h4 with h4 | h4
    ·rw [h4];cases left<;>cases e:t ((lo+hi) / 2)<;>simp_all
    ·exact h4
  ·rw [if_neg q]
   exact ⟨lo,rfl,Nat.le_refl _,h, .inl rfl, .inl (by exact Zb Z2 11 [_,_] [] h q)⟩
theorem ltB {α:Type} {lt:α->α->Bool} (T:ot lt) {a b:α} (h:lt a b=true):lt b a=false:=by
 cases e:lt b a with
 | false=>rfl
 | true=>have:=T.tr _ _ _ h e;rw [T.kg] at this;exact eI this
theorem Q8 {row:List Nat} {k:Nat} (h:k < 8):(kT row)[k]? =some (row.findIdx (· ==k)):=by
 unfold kT
 rw [List.getElem?_map,List.getElem?_range' (by simpa using h)]
 simp
section
variable {ends:List (List Int)}
noncomputable def RR (ends:List (List Int)) (a b:Nat):Prop:=aV (be ends a) (be ends b)=true\/(be ends a=be ends b/\a < b)
theorem RR.le {a b:Nat} (h:RR ends a b):aV (be ends b) (be ends a)=false:=by
 rcases h with h | ⟨h,_⟩
 ·exact ltB gU h
 ·rw [h];exact gU.kg _
theorem RR.pw {a b:Nat} (h:RR ends a b) (h':RR ends b a):a=b:=by
 rcases h with h | ⟨h,hl⟩
 ·have:=h'.le;rw [h] at this;cases this
 ·rcases h' with h' | ⟨_,bY⟩
  ·rw [h,gU.kg] at h';exact eI h'
  ·exact Zb Z9 28 [_,_] [] bY hl
theorem GD {a b c:List Int} (h:aV a b=true) (h':aV c b=false):aV a c=true:=by
 cases e:aV a c with
 | true=>rfl
 | false=>
  cases e2:aV c a with
  | true=>have:=gU.tr _ _ _ e2 h;rw [h'] at this;exact eI this
  | false=>have:=gU.ll _ _ e e2;rw [<- this,h] at h';cases h'
theorem GF {a b c:List Int} (h:aV b a=false) (h':aV b c=true):aV a c=true:=by
 cases e:aV a c with
 | true=>rfl
 | false=>
  cases e2:aV c a with
  | true=>have:=gU.tr _ _ _ h' e2;rw [h] at this;exact eI this
  | false=>have:=gU.ll _ _ e e2;rw [this] at h;rw [h'] at h;cases h
theorem tN {xs:List Nat} (h:xs.Pairwise (RR ends)) {i j:Nat} (cU:i < j) (hj:j < xs.length):RR ends (xs.getD i 0) (xs.getD j 0):=by
 have:=List.pairwise_iff_getElem.mp h i j (by exact ry hj cU) hj cU
 rw [List.getD_eq_getElem?_getD,List.getD_eq_getElem?_getD,List.getElem?_eq_getElem hj,List.getElem?_eq_getElem (by exact ry hj cU)]
 exact this
theorem Q9 {xs:List Nat} (h:xs.Pairwise (RR ends)) (e:List Int):∃r,cH false (fun j=>some (aV e (be ends (xs.getD j 0)))) (xs.length+1) 0 xs.length=some r/\r<=xs.length/\
  (∀j,j < r->aV e (be ends (xs.getD j 0))=false)/\∀j,r<=j->j < xs.length->aV e (be ends (xs.getD j 0))=true:=by
 obtain ⟨r,er,h1,h2,h3,h4⟩:=tM (left:=false) (t:=fun j=>aV e (be ends (xs.getD j 0))) (f:=xs.length+1) (lo:=0) (hi:=xs.length) (Nat.zero_le _) (by exact Zb Z1 29 [_] [])
 refine ⟨r,er,h2,fun j hj=> ?_,fun j hj hl=> ?_⟩
 ·rcases h3 with h3 | h3
  ·exact Bf hj h3
  ·by_cases q:j=r - 1
   ·rw [q];exact h3
   ·cases e1:aV e (be ends (xs.getD j 0)) with
    | false=>rfl
    | true=>
     have:=GD e1 (tN h (i:=j) (j:=r - 1) (by exact Zb Z1 24 [_,_] [] hj q) (by exact Zb Z4 3 [_,_,_] [] hj h2)).le
     exact absurd this (by rw [show aV e (be ends (xs.getD (r - 1) 0))=false from h3];simp)
 ·rcases h4 with h4 | h4
  ·exact Bg hl h4 hj
  ·by_cases q:j=r
   ·rw [q];exact h4
   ·exact GD (h4:aV e (be ends (xs.getD r 0))=true) (tN h (i:=r) (j:=j) (by exact Zb Z2 12 [_,_] [] hj q) hl).le
theorem Ra {xs:List Nat} (h:xs.Pairwise (RR ends)) (e:List Int):∃r,cH true (fun j=>some (aV (be ends (xs.getD j 0)) e)) (xs.length+1) 0 xs.length=some r/\r<=xs.length/\
  (∀j,j < r->aV (be ends (xs.getD j 0)) e=true)/\∀j,r<=j->j < xs.length->aV (be ends (xs.getD j 0)) e=false:=by
 obtain ⟨r,er,h1,h2,h3,h4⟩:=tM (left:=true) (t:=fun j=>aV (be ends (xs.getD j 0)) e) (f:=xs.length+1) (lo:=0) (hi:=xs.length) (Nat.zero_le _) (by exact Zb Z1 29 [_] [])
 refine ⟨r,er,h2,fun j hj=> ?_,fun j hj hl=> ?_⟩
 ·rcases h3 with h3 | h3
  ·exact Bf hj h3
  ·by_cases q:j=r - 1
   ·rw [q];exact h3
   ·exact GF (tN h (i:=j) (j:=r - 1) (by exact Zb Z1 24 [_,_] [] hj q) (by exact Zb Z4 3 [_,_,_] [] hj h2)).le (h3:aV (be ends (xs.getD (r - 1) 0)) e=true)
 ·rcases h4 with h4 | h4
  ·exact Bg hl h4 hj
  ·by_cases q:j=r
   ·rw [q];exact h4
   ·cases e1:aV (be ends (xs.getD j 0)) e with
    | false=>rfl
    | true=>
     have:=GF (tN h (i:=r) (j:=j) (by exact Zb Z2 12 [_,_] [] hj q) hl).le e1
     exact absurd this (by rw [show aV (be ends (xs.getD r 0)) e=false from h4];simp)
theorem Rb {xs:List Nat} {r a:Nat} (h:a∈xs.take r):∃j,j < r/\j < xs.length/\xs.getD j 0=a:=by
 obtain ⟨j,hj,e⟩:=List.mem_iff_getElem.mp h
 rw [List.length_take] at hj
 refine ⟨j,by exact Zb Z9 29 [_,_,_] [] hj,by exact Zb Z4 4 [_,_,_] [] hj, ?_⟩
 rw [List.getElem_take] at e
 rw [List.getD_eq_getElem?_getD,List.getElem?_eq_getElem (by exact Zb Z4 4 [_,_,_] [] hj)]
 exact e
theorem Rc {xs:List Nat} {r a:Nat} (h:a∈xs.drop r):∃j,r<=j/\j < xs.length/\xs.getD j 0=a:=by
 obtain ⟨j,hj,e⟩:=List.mem_iff_getElem.mp h
 rw [List.length_drop] at hj
 refine ⟨r+j,by exact g9,by exact Zb Z1 10 [_,_,_] [] hj, ?_⟩
 rw [List.getElem_drop] at e
 rw [List.getD_eq_getElem?_getD,List.getElem?_eq_getElem (by exact Zb Z1 10 [_,_,_] [] hj)]
 exact e
theorem Rd {xs:List Nat} {n:Nat} (h:xs.Pairwise (RR ends)) (bg:∀a∈xs,a < n):(gA ends xs n).Pairwise (RR ends):=by
 unfold gA
 refine eT (Q9 h (be ends n):) fun r er h1 h2 h3=> ?_
 rw [er]
 show (xs.take r++n::xs.drop r).Pairwise (RR ends)
 have hs:xs.take r++xs.drop r=xs:=List.take_append_drop r xs
 rw [<- hs] at h
 refine bG (List.pairwise_append.mp h:) fun a1 a2 a3=> ?_
 refine List.pairwise_append.mpr ⟨a1,List.pairwise_cons.mpr ⟨fun b hb=> ?_,a2⟩,fun a ha b hb=> ?_⟩
 ·(refine ey (Rc hb:) fun j j1 j2 ay=> ?_;subst ay)
  exact .inl (h3 j j1 j2)
 ·rcases List.mem_cons.mp hb with rfl | hb
  ·(refine ey (Rb ha:) fun j j1 j2 aF=> ?_;subst aF)
   cases e:aV (be ends (xs.getD j 0)) (be ends b) with
   | true=>exact .inl e
   | false=>exact .inr ⟨gU.ll _ _ e (h2 j j1),bg _ (List.mem_of_mem_take ha)⟩
  ·exact a3 a ha b hb
theorem Rf {xs:List Nat} {n:Nat}:(gA ends xs n).Perm (n::xs):=by
 unfold gA
 refine (List.perm_middle).trans ?_
 rw [List.take_append_drop]
theorem Au:∀(m n:Nat) (xs:List Nat),xs.Pairwise (RR ends)->xs.Perm (List.range n)->((List.range' n m).foldl (gA ends) xs).Pairwise (RR ends)/\((List.range' n m).foldl (gA ends) xs).Perm (List.range (n+m))
 | 0,n,xs,h,p=>⟨h,p⟩
 | m+1,n,xs,h,p=>by
  rw [List.range'_succ,List.foldl_cons]
  have:=Au m (n+1) (gA ends xs n) (Rd h fun a ha=>List.mem_range.mp (p.mem_iff.mp ha)) (Rf.trans ((p.cons n).trans (by
   rw [List.range_succ]
   exact (List.perm_append_comm (l₁:=[n]) (l₂:=List.range n)))))
  rw [show n+(m+1)=n+1+m by exact Zb Z1 30 [_,_] []]
  exact this
theorem Av:(dN ends).Pairwise (RR ends):=(Au 16 0 [] .nil (List.Perm.refl _)).1
theorem Aw:(dN ends).Perm (List.range 16):=(Au 16 0 [] .nil (List.Perm.refl _)).2
variable (h8:ends.length=8) (hn:ends.Nodup)
include h8 hn
theorem tO {e:List Int} (he:e∈ends):ends.findIdx (· ==e) < 8/\be ends (ends.findIdx (· ==e))=e/\be ends (ends.findIdx (· ==e)+8)=e:=by
 have hl:ends.findIdx (· ==e) < ends.length:=List.findIdx_lt_length_of_exists ⟨e,he,by simp⟩
 have hg:ends[ends.findIdx (· ==e)]=e:=by have:=List.findIdx_getElem (w:=hl);simpa using this
 have hx:ends.getD (ends.findIdx (· ==e)) []=e:=by rw [List.getD_eq_getElem?_getD,List.getElem?_eq_getElem hl];exact hg
 refine ⟨by exact Zb Z2 13 [_,_] [] hl h8, ?_, ?_⟩
 ·unfold be;rw [Nat.mod_eq_of_lt (by exact Zb Z2 13 [_,_] [] hl h8)];exact hx
 ·unfold be;rw [Nat.add_mod_right,Nat.mod_eq_of_lt (by exact Zb Z2 13 [_,_] [] hl h8)];exact hx
theorem GG {k:Nat}:be ends k∈ends:=by
 unfold be
 have:k % 8 < ends.length:=by exact pO h8
 rw [List.getD_eq_getElem?_getD,List.getElem?_eq_getElem this]
 exact List.getElem_mem this
theorem GH {a b:Nat} (h:be ends a=be ends b):a % 8=b % 8:=by
 unfold be at h
 have ha:a % 8 < ends.length:=by exact pO h8
 have hb:b % 8 < ends.length:=by exact pO h8
 rw [List.getD_eq_getElem?_getD,List.getD_eq_getElem?_getD,List.getElem?_eq_getElem ha,List.getElem?_eq_getElem hb] at h
 exact (List.getElem_inj hn).mp h
theorem Rg {k:Nat}:ends.findIdx (· ==be ends k)=k % 8:=by
 refine bG (tO h8 hn (GG h8 hn (k:=k)):) fun h1 h2 h3=> ?_
 exact (Nat.mod_eq_of_lt h1).symm.trans (GH h8 hn h2)
theorem GI:(jd ends).Pairwise (RR ends):=by
 unfold jd
 rw [List.pairwise_flatMap]
 have hs:=uo gU ends
 have hp:=kf (lt:=aV) ends
 refine ⟨fun e he=> ?_, ?_⟩
 ·refine bG (tO h8 hn (hp.mem_iff.mp he):) fun h1 h2 h3=> ?_
  refine List.pairwise_cons.mpr ⟨fun b hb=> ?_,List.pairwise_singleton _ _⟩
  rw [List.mem_singleton.mp hb]
  exact .inr ⟨by rw [Nat.add_zero,h2,h3],by exact Zb Z9 30 [_] []⟩
 ·refine (List.pairwise_and_iff.mpr ⟨hs,(hp.nodup_iff.mpr hn)⟩).imp_of_mem fun {e e'} he gh hh a ha b hb=> ?_
  refine bG (tO h8 hn (hp.mem_iff.mp he):) fun h1 h2 h3=> ?_
  refine bG (tO h8 hn (hp.mem_iff.mp gh):) fun g1 g2 g3=> ?_
  have ka:be ends a=e:=by
   rcases List.mem_cons.mp ha with q | q
   ·rw [q,Nat.add_zero,h2]
   ·rw [List.mem_singleton.mp q,h3]
  have kb:be ends b=e':=by
   rcases List.mem_cons.mp hb with q | q
   ·rw [q,Nat.add_zero,g2]
   ·rw [List.mem_singleton.mp q,g3]
  left
  rw [ka,kb]
  cases q:aV e e' with
  | true=>rfl
  | false=>exact absurd (gU.ll _ _ q hh.1) hh.2
theorem Rh:(jd ends).Perm (List.range 16):=by
 have nd:(jd ends).Nodup:=(GI h8 hn).imp fun {a b} h q=>by
  subst q
  rcases h with h | ⟨_,h⟩
  ·rw [gU.kg] at h;exact eI h
  ·exact Zb Z9 31 [_] [] h
 refine (List.perm_ext_iff_of_nodup nd List.nodup_range).mpr fun a=> ?_
 rw [List.mem_range]
 unfold jd
 rw [List.mem_flatMap]
 have hp:=kf (lt:=aV) ends
 constructor
 ·rintro ⟨e,he,ha⟩
  refine bG (tO h8 hn (hp.mem_iff.mp he):) fun h1 _ _=> ?_
  rcases List.mem_cons.mp ha with q | q
  ·exact Zb Z9 32 [_,_] [] h1 q
  ·have:=List.mem_singleton.mp q;exact Zb Z9 33 [_,_] [] h1 this
 ·intro ha
  refine ⟨be ends a,hp.mem_iff.mpr (GG h8 hn), ?_⟩
  rw [Rg h8 hn]
  by_cases q:a < 8
  ·have:a=a % 8+0:=(Nat.mod_eq_of_lt q).symm
   exact List.mem_cons.mpr (.inl this)
  ·have:a=a % 8+8:=by lia
   exact List.mem_cons.mpr (.inr (List.mem_singleton.mpr this))
theorem Ri:dN ends=jd ends:=
 List.Perm.eq_of_pairwise (le:=RR ends) (fun a b _ _ h1 h2=>h1.pw h2) Av (GI h8 hn) (Aw.trans (Rh h8 hn).symm)
theorem Ax {k:Nat} (hk:k < 8):∃r,cH true (fun j=>some (aV (be ends ((dN ends).getD j 0)) (be ends k))) ((dN ends).length+1) 0 (dN ends).length=some r/\r < 16/\(dN ends).getD r 0=k/\(dN ends).findIdx (· ==k)=r/\
  (∀j,j < r->aV (be ends ((dN ends).getD j 0)) (be ends k)=true)/\∀j,r<=j->j < 16->aV (be ends ((dN ends).getD j 0)) (be ends k)=false:=by
 have hl:(dN ends).length=16:=by rw [Aw.length_eq,List.length_range]
 refine eT (Ra (Av (ends:=ends)) (be ends k):) fun r e h1 h2 h3=> ?_
 have hm:k∈dN ends:=Aw.mem_iff.mpr (List.mem_range.mpr (by exact Zb Z9 34 [_] [] hk))
 obtain ⟨i,hi,ei⟩:=List.mem_iff_getElem.mp hm
 have gi:(dN ends).getD i 0=k:=by rw [List.getD_eq_getElem?_getD,List.getElem?_eq_getElem hi];exact ei
 have Rj:r<=i:=by
  apply Classical.byContradiction
  intro q
  have:=h2 i (by exact Zb Z9 35 [_,_] [] q)
  rw [gi,gU.kg] at this;exact eI this
 have p0:i=r:=by
  apply Classical.byContradiction
  intro q
  have h4:=h3 r (Nat.le_refl _) (by lia)
  rcases tN (Av (ends:=ends)) (i:=r) (j:=i) (by exact Zb Z2 12 [_,_] [] Rj q) hi with h | ⟨h,h'⟩
  ·rw [gi,h4] at h;exact eI h
  ·rw [gi] at h h'
   have:=GH h8 hn h
   lia
 subst p0
 rw [hl] at h3
 refine ⟨i,e,by exact HT hi hl,gi, ?_,h2,h3⟩
 refine (List.findIdx_eq hi).mpr ⟨by rw [ei];simp,fun j hj=> ?_⟩
 rw [beq_eq_false_iff_ne]
 intro q
 have:=h2 j hj
 rw [List.getD_eq_getElem?_getD,List.getElem?_eq_getElem (by exact iT hj hi),Option.getD_some,q,gU.kg] at this
 exact eI this
theorem Ay {k:Nat} (hk:k < 8):((gC ends (dN ends)).getD k 0)=(dN ends).findIdx (· ==k):=by
 obtain ⟨r,e,h1,h2,h3,h4⟩:=Ax h8 hn hk
 have hx:ends[k]? =some (be ends k):=by
  unfold be
  rw [Nat.mod_eq_of_lt hk,List.getElem?_eq_getElem (by exact m6 hk h8),List.getD_eq_getElem?_getD,List.getElem?_eq_getElem (by exact m6 hk h8)];rfl
 unfold gC
 rw [List.getD_eq_getElem?_getD,List.getElem?_map,hx,Option.map_some,Option.getD_some,e,h3];rfl
theorem Rk:gC ends (dN ends)=kT (dN ends):=by
 refine List.ext_getElem? fun k=> ?_
 have l1:(gC ends (dN ends)).length=8:=by unfold gC;rw [List.length_map,h8]
 have l2:(kT (dN ends)).length=8:=by unfold kT;simp
 by_cases hk:k < 8
 ·have h1:=Ay h8 hn hk
  rw [List.getD_eq_getElem?_getD,List.getElem?_eq_getElem (by exact m6 hk l1),Option.getD_some] at h1
  rw [Q8 hk,List.getElem?_eq_getElem (by exact m6 hk l1),h1]
 ·rw [List.getElem?_eq_none (by exact Zb Z4 5 [_,_] [] l1 hk),List.getElem?_eq_none (by exact Zb Z4 5 [_,_] [] l2 hk)]
theorem GJ:iK ends=gC ends (dN ends):=by
 unfold iK
 rw [if_pos (Ri h8 hn),if_pos (Rk h8 hn)]
theorem GK:(iK ends).length=8:=by
 rw [GJ h8 hn];unfold gC;rw [List.length_map,h8]
theorem GL {j k:Nat} (hj:j < 8) (hk:k < 8):decide ((iK ends).getD j 0 < (iK ends).getD k 0)=aV (ends.getD j []) (ends.getD k []):=by
 rw [GJ h8 hn,Ay h8 hn hj,Ay h8 hn hk]
 obtain ⟨r,e,h1,h2,h3,h4,h5⟩:=Ax h8 hn hj
 obtain ⟨r',e',g1,g2,g3,g4,g5⟩:=Ax h8 hn hk
 rw [h3,g3]
 have kj:be ends j=ends.getD j []:=by unfold be;rw [Nat.mod_eq_of_lt hj]
 have kk:be ends k=ends.getD k []:=by unfold be;rw [Nat.mod_eq_of_lt hk]
 rw [<- kj, <- kk]
 by_cases q:r < r'
 ·rw [decide_eq_true q]
  have:=g4 r q
  rw [h2] at this;exact this.symm
 ·rw [decide_eq_false q]
  have:=g5 r (by exact Zb Z1 13 [_,_] [] q) h1
  rw [h2] at this;exact this.symm
end
theorem GN:∀x y:List Int,aV x y=true↔∃m,(∀i,i < m->x.getD i 0=y.getD i 0)/\m < y.length/\m<=x.length/\(m=x.length\/(m < x.length/\x.getD m 0 < y.getD m 0))
 | [],[]=>⟨fun h=>by simp [aV] at h,fun ⟨m,_,h,_⟩=>absurd h (Nat.not_lt_zero _)⟩
 | [],b::t=>⟨fun _=>⟨0,fun i h=>absurd h (Nat.not_lt_zero _),Nat.zero_lt_succ _,Nat.zero_le _, .inl rfl⟩,fun _=>rfl⟩
 | a::r,[]=>⟨fun h=>by simp [aV] at h,fun ⟨m,_,h,_⟩=>absurd h (Nat.not_lt_zero _)⟩
 | a::r,b::t=>by
  have ih:=GN r t
  rw [vi]
  by_cases q:a=b
  ·rw [if_pos q,ih]
   constructor
   ·rintro ⟨m,h1,h2,h3,h4⟩
    refine ⟨m+1,fun i hi=> ?_,Nat.succ_lt_succ h2,Nat.succ_le_succ h3, ?_⟩
    ·cases i with
     | zero=>exact q
     | succ i=>exact h1 i (Nat.lt_of_succ_lt_succ hi)
    ·rcases h4 with h4 | ⟨h4,h5⟩
     ·exact .inl (by rw [List.length_cons,h4])
     ·exact .inr ⟨Nat.succ_lt_succ h4,h5⟩
   ·rintro ⟨m,h1,h2,h3,h4⟩
    cases m with
    | zero=>
     rcases h4 with h4 | ⟨h4,h5⟩
     ·rw [List.length_cons] at h4;cases h4
     ·have h5:a < b:=h5
      lia
    | succ m=>
     refine ⟨m,fun i hi=>h1 (i+1) (Nat.succ_lt_succ hi),Nat.lt_of_succ_lt_succ h2,Nat.le_of_succ_le_succ h3, ?_⟩
     rcases h4 with h4 | ⟨h4,h5⟩
     ·rw [List.length_cons] at h4;exact .inl (Nat.succ.inj h4)
     ·exact .inr ⟨Nat.lt_of_succ_lt_succ h4,h5⟩
  ·rw [if_neg q,decide_eq_true_iff]
   constructor
   ·intro h
    exact ⟨0,fun i h=>absurd h (Nat.not_lt_zero _),Nat.zero_lt_succ _,Nat.zero_le _, .inr ⟨Nat.zero_lt_succ _,h⟩⟩
   ·rintro ⟨m,h1,h2,h3,h4⟩
    cases m with
    | zero=>
     rcases h4 with h4 | ⟨h4,h5⟩
     ·rw [List.length_cons] at h4;cases h4
     ·exact h5
    | succ m=>exact absurd (h1 0 (Nat.zero_lt_succ _)) q
noncomputable def fj (r:Bool) (x y:Nat):Prop:=if r=true then x < y else y < x
section
variable {r:Bool} {x y z:Nat}
theorem fj.ne (h:fj r x y):x≠y:=by cases r<;>simp [fj] at h<;>(first | exact Zb cJ 26 [_,_] [] h | exact Zb cJ 27 [_,_] [] h)
theorem fj.pw (h:fj r x y) (h':fj r y x):False:=by cases r<;>simp [fj] at h h'<;>exact Zb Z1 39 [_,_] [] h' h
theorem fj.Rl (h:fj r x y) (h':fj (!r) x y):False:=by cases r<;>simp [fj] at h h'<;>exact Zb Z1 39 [_,_] [] h' h
theorem GO:fj r x y↔(if r=true then (x:Int) else -(x:Int)) < (if r=true then (y:Int) else -(y:Int)):=by cases r<;>simp [fj]<;>lia
end
noncomputable abbrev aw (w:List Nat) (i:Nat):Nat:=w.getD i 0
noncomputable def Suf (w:List Nat) (r:Bool) (j k:Nat):Prop:=∃m,(∀i,i < m->aw w (j+i)=aw w (k+i))/\k+m < w.length/\j+m<=w.length/\(j+m=w.length\/(j+m < w.length/\fj r (aw w (j+m)) (aw w (k+m))))
noncomputable def ji (w:List Nat) (r:Bool) (j:Nat):List Int:=(w.drop j).map fun (x:Nat)=>if r=true then (x:Int) else -(x:Int)
theorem qU {w:List Nat} {r:Bool} {j:Nat}:(ji w r j).length=w.length - j:=by unfold ji;rw [List.length_map,List.length_drop]
theorem oe {w:List Nat} {r:Bool} {j i:Nat}:(ji w r j).getD i 0=if r=true then (aw w (j+i):Int) else -(aw w (j+i):Int):=by
 unfold ji
 rw [List.getD_eq_getElem?_getD,List.getElem?_map,List.getElem?_drop]
 show _=if r=true then ((w.getD (j+i) 0:Nat):Int) else -((w.getD (j+i) 0:Nat):Int)
 rw [List.getD_eq_getElem?_getD]
 cases w[j+i]? <;>cases r<;>simp
theorem Rm {r:Bool} {x y:Nat}:(if r=true then (x:Int) else -(x:Int))=(if r=true then (y:Int) else -(y:Int))↔x=y:=by cases r<;>simp<;>exact HX
theorem pz {w:List Nat} {r:Bool} {j k:Nat} (hj:j<=w.length):Suf w r j k↔aV (ji w r j) (ji w r k)=true:=by
 rw [GN]
 unfold Suf
 constructor
 ·rintro ⟨m,h1,h2,h3,h4⟩
  refine ⟨m,fun i hi=> ?_,by rw [qU];exact Zb Z2 3 [_,_,_] [] h2,by rw [qU];exact Zb cJ 28 [_,_,_] [] h3, ?_⟩
  ·rw [oe,oe,h1 i hi]
  ·rw [qU,oe,oe]
   rcases h4 with h4 | ⟨h4,h5⟩
   ·exact .inl (by exact Zb cJ 29 [_,_,_] [] h4)
   ·exact .inr ⟨by exact Zb Z2 3 [_,_,_] [] h4,GO.mp h5⟩
 ·rintro ⟨m,h1,h2,h3,h4⟩
  rw [qU] at h2 h3 h4
  rw [oe,oe] at h4
  refine ⟨m,fun i hi=> ?_,by exact Zb Z1 10 [_,_,_] [] h2,by exact Zb cJ 30 [_,_,_] [_,_] h4 hj, ?_⟩
  ·have:=h1 i hi
   rw [oe,oe] at this
   exact Rm.mp this
  ·rcases h4 with h4 | ⟨h4,h5⟩
   ·exact .inl (by exact Zb cJ 31 [_,_,_] [] h4 hj)
   ·exact .inr ⟨by exact Zb Z1 10 [_,_,_] [] h4,GO.mpr h5⟩
theorem Suf.pw {w:List Nat} {r:Bool} {j k:Nat} (hj:j<=w.length) (hk:k<=w.length) (h:Suf w r j k) (h':Suf w r k j):False:=by
 have:=ltB gU ((pz hj).mp h)
 rw [(pz hk).mp h'] at this;cases this
theorem Suf.tr {w:List Nat} {r:Bool} {i j k:Nat} (hi:i<=w.length) (hj:j<=w.length) (h:Suf w r i j) (h':Suf w r j k):Suf w r i k:=
 (pz hi).mpr (gU.tr _ _ _ ((pz hi).mp h) ((pz hj).mp h'))
theorem Suf.ll {w:List Nat} {r:Bool} {j k:Nat} (hj:j < w.length) (hk:k < w.length) (hn:j≠k) (h:¬Suf w r j k):Suf w r k j:=by
 rw [pz (by (first | exact Zb Z0 19 [_,_] [] hk | exact Zb Z0 19 [_,_] [] hj))] at*
 cases e:aV (ji w r k) (ji w r j) with
 | true=>rfl
 | false=>
  have:=gU.ll _ _ (Bool.eq_false_iff.mpr h) e
  have:=congrArg List.length this
  rw [qU,qU] at this
  exact absurd ((Nat.sub_sub_self (Nat.le_of_lt hj)).symm.trans ((congrArg (w.length - ·) this).trans (Nat.sub_sub_self (Nat.le_of_lt hk)))) hn
structure Sp (w:List Nat) (p b e:Nat):Prop where
 p1:1<=p
 len:b+2*p<=e
 le:e<=w.length
 lR:∀i,b<=i->i+p < e->aw w i=aw w (i+p)
 wM:b=0\/aw w (b - 1)≠aw w (b - 1+p)
 tP:e=w.length\/aw w e≠aw w (e - p)
noncomputable def Dir (w:List Nat) (p e:Nat) (r:Bool):Prop:=e=w.length\/(e < w.length/\fj r (aw w e) (aw w (e - p)))
section
variable {w:List Nat} {p b e k:Nat} {r:Bool}
theorem Az (hs:Sp w p b e) (hd:Dir w p e r) (h1:b<=k) (h2:k<=e - p) (hk:k+p<=e):Suf w r (k+p) k:=by
 have:=hs.p1
 have:=hs.le
 refine ⟨e - (k+p),fun i hi=> ?_,by exact Zb cJ 32 [_,_,_,_] [] ‹_› hk this,by exact Zb cJ 33 [_,_,_,_] [] hk this, ?_⟩
 ·rw [show k+p+i=k+i+p by exact Zb cJ 34 [_,_,_] []]
  exact (hs.lR (k+i) (by exact Zb cJ 35 [_,_,_] [] h1) (by exact Zb cJ 36 [_,_,_,_] [] hi)).symm
 ·rcases hd with hd | ⟨hd,hl⟩
  ·exact .inl (by exact Zb cJ 37 [_,_,_,_] [] hk hd)
  ·refine .inr ⟨by exact Zb cJ 38 [_,_,_,_] [] hk hd, ?_⟩
   rw [show k+p+(e - (k+p))=e by exact Zb cJ 39 [_,_,_] [] hk,show k+(e - (k+p))=e - p by exact Zb dv 0 [_,_,_] [] hk]
   exact hl
noncomputable def mT (w:List Nat) (r:Bool) (p k:Nat):Prop:=∀t,1<=t->t < p->Suf w r k (k+t)
noncomputable def gE (w:List Nat) (p k t i:Nat):Nat:=if i < p - t then aw w (k+t+i) else aw w (k+i - (p - t))
noncomputable def qV (w:List Nat) (r:Bool) (p k:Nat):Prop:=∀t,1<=t->t < p->∃m,m < p/\(∀i,i < m->aw w (k+i)=gE w p k t i)/\fj r (aw w (k+m)) (gE w p k t m)
theorem mT.first (hs:Sp w p b e) (hd:Dir w p e r) (h1:b<=k) (hk:k+p<=e) (h:mT w r p k) {t:Nat} (ht:1<=t) (k8:t < p):
  ∃m,m < p - t/\(∀i,i < m->aw w (k+i)=aw w (k+t+i))/\fj r (aw w (k+m)) (aw w (k+t+m)):=by
 have hle:=hs.le
 refine eT (h t ht k8:) fun m a1 a2 a3 a4=> ?_
 rcases a4 with a4 | ⟨a4,a5⟩
 ·lia
 ·by_cases q:m < p - t
  ·exact ⟨m,q,a1,a5⟩
  ·exfalso
   have s1:Suf w r (k+p) k:=Az hs hd h1 (by exact Zb Z2 7 [_,_,_] [] hk) hk
   have s2:Suf w r k (k+(p - t)):=h (p - t) (by exact Zb Z5 6 [_,_] [] k8) (by exact Zb dv 1 [_,_] [] ht k8)
   have s3:Suf w r (k+p) (k+(p - t)):=s1.tr (by exact Zb Z2 36 [_,_,_,_] [] hk hle) (by exact Zb Z2 8 [_,_,_,_] [] hk hle) s2
   have s4:Suf w r (k+(p - t)) (k+p):=by
    refine ⟨m - (p - t),fun i hi=> ?_,by exact Zb dv 2 [_,_,_,_,_] [] a2 q,by exact Zb dv 3 [_,_,_,_,_] [] a2 q, .inr ⟨by exact Zb dv 4 [_,_,_,_,_] [] a4 q, ?_⟩⟩
    ·have:=a1 (p - t+i) (by exact Zb Z5 7 [_,_,_,_] [] hi)
     rw [show k+(p - t)+i=k+(p - t+i) by exact Zb Z5 8 [_,_,_,_] [],show k+p+i=k+t+(p - t+i) by exact Zb dv 5 [_,_,_,_] [] k8]
     exact this
    ·rw [show k+(p - t)+(m - (p - t))=k+m by exact Zb Z5 9 [_,_,_,_] [] q,show k+p+(m - (p - t))=k+t+m by exact Zb dv 6 [_,_,_,_] [] k8 q]
     exact a5
   exact s3.pw (by exact Zb Z2 36 [_,_,_,_] [] hk hle) (by exact Zb dv 7 [_,_,_,_,_] [] a2 q) s4
theorem GP (hs:Sp w p b e) (hd:Dir w p e r) (h1:b<=k) (hk:k+p<=e):mT w r p k↔qV w r p k:=by
 have hle:=hs.le
 constructor
 ·intro h t ht k8
  refine ey (h.first hs hd h1 hk ht k8:) fun m a1 a2 a3=> ?_
  refine ⟨m,by exact Zb dv 8 [_,_,_] [] a1,fun i hi=> ?_, ?_⟩
  ·unfold gE;rw [if_pos (by exact Zb Z5 10 [_,_,_,_] [] hi a1)];exact a2 i hi
  ·unfold gE;rw [if_pos a1];exact a3
 ·intro h t ht k8
  refine ey (h t ht k8:) fun m a1 a2 a3=> ?_
  by_cases q:m < p - t
  ·refine ⟨m,fun i hi=> ?_,by exact Zb dv 9 [_,_,_,_,_,_] [] hk q hle,by exact Zb dv 10 [_,_,_,_,_] [] hk a1 hle, .inr ⟨by exact Zb dv 11 [_,_,_,_,_] [] hk a1 hle, ?_⟩⟩
   ·have:=a2 i hi
    unfold gE at this
    rw [if_pos (by exact Zb Z5 10 [_,_,_,_] [] hi q)] at this;exact this
   ·unfold gE at a3
    rw [if_pos q] at a3;exact a3
  ·exfalso
   refine ey (h (p - t) (by exact Zb Z5 6 [_,_] [] k8) (by exact Zb dv 12 [_,_,_] [] a1 q):) fun m2 b1 b2 b3=> ?_
   have key:∀i,i < m - (p - t)->aw w (k+i)=aw w (k+(p - t)+i):=fun i hi=>by
    have:=a2 (p - t+i) (by exact Zb Z5 7 [_,_,_,_] [] hi)
    unfold gE at this
    rw [if_neg (by exact Zb dv 13 [_,_,_] [])] at this
    rw [show k+(p - t)+i=k+(p - t+i) by exact Zb Z5 8 [_,_,_,_] [],this,show k+(p - t+i) - (p - t)=k+i by exact Zb dv 14 [_,_,_,_] []]
   have last:fj r (aw w (k+(p - t)+(m - (p - t)))) (aw w (k+(m - (p - t)))):=by
    unfold gE at a3
    rw [if_neg q] at a3
    rw [show k+(p - t)+(m - (p - t))=k+m by exact Zb Z5 9 [_,_,_,_] [] q,show k+(m - (p - t))=k+m - (p - t) by exact Zb Z3 19 [_,_,_,_] [] q]
    exact a3
   have vQ:p - (p - t)=t:=by exact Zb dv 15 [_,_] [] k8
   by_cases c:m2 < m - (p - t)
   ·unfold gE at b3
    rw [if_pos (by exact Zb dv 16 [_,_,_,_] [] a1 c)] at b3
    exact b3.ne (key m2 c)
   ·by_cases c2:m - (p - t) < m2
    ·have:=b2 (m - (p - t)) c2
     unfold gE at this
     rw [if_pos (by exact Zb Z5 11 [_,_,_] [] ht a1)] at this
     exact last.ne this.symm
    ·have e2:m2=m - (p - t):=by exact Zb dv 17 [_,_,_,_] [] c2 c
     subst e2
     unfold gE at b3
     rw [if_pos (by exact Zb Z5 11 [_,_,_] [] ht a1)] at b3
     exact b3.pw last
theorem Rn {b' e':Nat} (h:Sp w p b e) (h':Sp w p b' e') {j:Nat} (hb:b<=j) (hV:b'<=j) (he:j+p < e) (gh:j+p < e'):b=b'/\e=e':=by
 have g:∀{b b' e e':Nat},Sp w p b e->Sp w p b' e'->b'<=j->j+p < e->¬b < b':=fun {b b' e e'} h h' hV he q=>by
  rcases h'.wM with l | l
  ·exact Zb Z2 0 [_,_] [] q l
  ·exact l (h.lR (b' - 1) (by exact Zb Z1 20 [_,_] [] q) (by exact Zb dv 18 [_,_,_,_] [] he hV))
 have g2:∀{b b' e e':Nat},Sp w p b e->Sp w p b' e'->b'<=j->j+p < e->¬e < e':=fun {b b' e e'} h h' hV he q=>by
  have:=h'.le
  rcases h.tP with l | l
  ·exact Zb dv 19 [_,_,_] [] q l this
  ·have:=h'.lR (e - p) (by exact Zb dv 20 [_,_,_,_] [] he hV) (by exact Zb dv 21 [_,_,_,_] [] he q)
   rw [show e - p+p=e by exact Zb dv 22 [_,_,_] [] he] at this
   exact l this.symm
 have:=g h h' hV he
 have:=g h' h hb gh
 have:=g2 h h' hV he
 have:=g2 h' h hb gh
 exact Zb dv 23 [_,_,_,_] [] this ‹_› ‹_› ‹_›
theorem Ro {p' b' e':Nat} {r':Bool} (h:Sp w p b e) (h':Sp w p' b' e') (hd:Dir w p e r) (gP:Dir w p' e' r') (hk:b+1<=k) (fU:b'+1<=k) (he:k+p<=e) (gh:k+p'<=e') (hl:mT w r p k) (bY:mT w r' p' k):p=p'/\b=b'/\e=e':=by
 have Rp:p=p':=by
  by_cases q:r=r'
  ·subst q
   have g:∀{p p' b b' e e':Nat},Sp w p b e->Sp w p' b' e'->Dir w p e r->b<=k->k+p<=e->k+p'<=e'->mT w r p' k->¬p < p':=fun {p p' b b' e e'} h h' hd hk he gh bY q=>by
    have s1:=Az h hd hk (by exact Zb Z2 7 [_,_,_] [] he) he
    have s2:=bY p h.p1 q
    have:=h.le
    exact s1.pw (by exact Zb Z2 36 [_,_,_,_] [] he this) (by exact Zb Z2 8 [_,_,_,_] [] he this) s2
   have:=g h h' hd (by exact lZ hk) he gh bY
   have:=g h' h gP (by exact lZ fU) gh he hl
   exact Zb Z3 0 [_,_] [] this ‹_›
  ·have hr:r'= !r:=by cases r<;>cases r'<;>simp_all
   subst hr
   have g:∀{p p' b b' e e':Nat} {r:Bool},Sp w p b e->Sp w p' b' e'->Dir w p' e' (!r)->b+1<=k->b'+1<=k->k+p<=e->k+p'<=e'->mT w (!r) p' k->p=1->p'=1:=fun {p p' b b' e e' r} h h' gP hk fU he gh bY q=>by
    subst q
    apply Classical.byContradiction
    intro c
    have:=h'.p1
    refine ey (bY.first h' gP (by exact lZ fU) gh (t:=p' - 1) (by exact Zb dv 24 [_] [] this c) (by exact Zb Z1 25 [_] [] this):) fun m m1 m2 m3=> ?_
    have m0:m=0:=by exact Zb dv 25 [_,_] [] m1
    subst m0
    have e1:=h.lR (k - 1) (by exact Zb Z1 20 [_,_] [] hk) (by exact Zb dv 26 [_,_,_] [] he ‹_›)
    have e2:=h'.lR (k - 1) (by exact Zb Z1 20 [_,_] [] fU) (by exact Zb Z2 37 [_,_,_,_] [] ‹_› gh)
    rw [show k - 1+1=k by exact Zb dv 27 [_,_] [] ‹_›] at e1
    rw [show k - 1+p'=k+(p' - 1)+0 by exact Zb dv 28 [_,_,_] [] this ‹_›] at e2
    exact m3.ne (by rw [<- e2,e1];rfl)
   have h1:=h.p1
   have uX:=h'.p1
   by_cases c:p=1
   ·rw [c,g (r:=r) h h' gP hk fU he gh bY c]
   ·by_cases c':p'=1
    ·rw [c',g (r:= !r) h' h (by rw [Bool.not_not];exact hd) fU hk gh he (by rw [Bool.not_not];exact hl) c']
    ·exfalso
     refine eT (hl 1 (Nat.le_refl _) (by exact Zb Z5 12 [_] [] h1 c):) fun m a1 a2 a3 a4=> ?_
     refine eT (bY 1 (Nat.le_refl _) (by exact Zb Z5 12 [_] [] uX c'):) fun m' b1 b2 b3 b4=> ?_
     rcases a4 with a4 | ⟨a4,a5⟩
     ·exact Zb Z5 13 [_,_,_] [] a2 a4
     rcases b4 with b4 | ⟨b4,b5⟩
     ·exact Zb Z5 13 [_,_,_] [] b2 b4
     rcases Nat.lt_trichotomy m m' with c | c | c
     ·exact a5.ne (b1 m c)
     ·subst c;exact a5.Rl b5
     ·exact b5.ne (a1 m' c)
 subst Rp
 have kF:=h.p1
 exact ⟨rfl,Rn h h' (j:=k - 1) (by exact Zb Z1 20 [_,_] [] hk) (by exact Zb Z1 20 [_,_] [] fU) (by exact Zb Z2 37 [_,_,_,_] [] hk he) (by exact Zb Z2 37 [_,_,_,_] [] hk gh)⟩
end
theorem GQ:∀(l:List Int),∀x∈l,i8 l<=x
 | [],x,h=>nomatch h
 | [a],x,h=>by rw [List.mem_singleton.mp h];exact Int.le_refl _
 | a::b::r,x,h=>by
  have ih:=GQ (b::r)
  rw [yB]
  rcases List.mem_cons.mp h with h | h
  ·subst h;split<;>(first | exact Zb Z3 16 [] [_,_] ‹_› | exact Zb Z7 5 [] [_])
  ·have:=ih x h
   split<;>(first | exact this | exact Zb Z3 17 [] [_,_,_] this ‹_›)
theorem GR:∀(l:List Int),l≠[]->i8 l∈l
 | [],h=>absurd rfl h
 | [a],_=> .head _
 | a::b::r,_=>by
  have ih:=GR (b::r) (fun h=>nomatch h)
  rw [yB]
  split
  ·exact .tail _ ih
  ·exact .head _
theorem GS {rk:List Int} {a b:Nat} {x:Int}:x∈(rk.drop a).take (b - a)↔∃j,a<=j/\j < b/\j < rk.length/\rk.getD j 0=x:=by
 rw [List.mem_iff_getElem?]
 constructor
 ·rintro ⟨i,h⟩
  rw [List.getElem?_take] at h
  split at h
  ·rw [List.getElem?_drop] at h
   obtain ⟨h1,h2⟩:=List.getElem?_eq_some_iff.mp h
   exact ⟨a+i,by exact g9,by exact Zb Z1 10 [_,_,_] [] ‹_›,h1,by rw [List.getD_eq_getElem?_getD,h];rfl⟩
  ·exact no h
 ·rintro ⟨j,h1,h2,h3,h4⟩
  refine ⟨j - a, ?_⟩
  rw [List.getElem?_take,if_pos (by exact Zb Z7 6 [_,_,_] [] h2 h1),List.getElem?_drop,show a+(j - a)=j by exact Zb Z3 4 [_,_] [] h1,List.getElem?_eq_getElem h3]
  rw [List.getD_eq_getElem?_getD,List.getElem?_eq_getElem h3] at h4
  rw [<- h4];rfl
theorem Rq {rk:List Int} {k:Nat} (hr:rk.length=8) (hk:k < 8):k+1<=jy rk k/\jy rk k<=8/\(∀j,k < j->j < jy rk k->¬rk.getD j 0 < rk.getD k 0)/\(jy rk k=8\/rk.getD (jy rk k) 0 < rk.getD k 0):=by
 obtain ⟨r,e,h1,h2,h3,h4⟩:=tM (left:=true) (t:=fun i=>sU rk k i) (f:=9) (lo:=k+1) (hi:=8) (by exact hk) (by exact Zb Z7 7 [_] [])
 have es:jy rk k=r:=by unfold jy;rw [e];rfl
 rw [es]
 have p3:∀j,k < j->j < r->¬rk.getD j 0 < rk.getD k 0:=fun j hj AA bg=>by
  rcases h3 with h3 | h3
  ·exact Zb Z7 8 [_,_,_] [] AA hj h3
  ·unfold sU at h3
   rw [Bool.not_eq_true',decide_eq_false_iff_not] at h3
   have hm:rk.getD j 0∈(rk.drop (k+1)).take (r - 1+1 - (k+1)):=GS.mpr ⟨j,by exact hj,by exact Zb Z7 9 [_,_] [] AA,by exact Zb Z7 10 [_,_,_] [] AA hr h2,rfl⟩
   have:=GQ _ _ hm
   exact Zb Z7 11 [] [_,_,_] bg this h3
 refine ⟨h1,h2,p3, ?_⟩
 rcases h4 with h4 | h4
 ·exact .inl h4
 ·by_cases q:r=8
  ·exact .inl q
  ·right
   unfold sU at h4
   rw [Bool.not_true,Bool.not_eq_false',decide_eq_true_iff] at h4
   have dZ:(rk.drop (k+1)).take (r+1 - (k+1))≠[]:=fun c=>by
    have:=congrArg List.length c
    rw [List.length_take,List.length_drop,List.length_nil] at this
    exact Zb Z7 12 [_,_,_] [] h1 hr h2 this q
   refine eT (GS.mp (GR _ dZ):) fun j j1 j2 j3 j4=> ?_
   rw [<- j4] at h4
   by_cases c:j < r
   ·exact absurd h4 (p3 j (by exact j1) c)
   ·rw [show j=r by exact Zb Z7 13 [_,_] [] j2 c] at h4;exact h4
theorem mapR {rl:List Nat} {j:Nat}:(b9 rl).drop j=ji rl true j:=by unfold b9 ji;rw [List.map_drop];rfl
theorem Rr {rl:List Nat} {j:Nat}:((b9 rl).drop j).map (fun x=> -x)=ji rl false j:=by
 unfold b9 ji;rw [<- List.map_drop,List.map_map];rfl
theorem GU {rl:List Nat} {j:Nat} (h:j < 8):(n7 rl).getD j []=ji rl true j:=by
 unfold n7
 rw [List.getD_eq_getElem?_getD,List.getElem?_map,List.getElem?_range' (by simpa using h),Option.map_some,Option.getD_some, <- mapR]
 simp
theorem GV {rl:List Nat} {j:Nat} (h:j < 8):(n8 rl).getD j []=ji rl false j:=by
 unfold n8
 rw [List.getD_eq_getElem?_getD,List.getElem?_map,List.getElem?_range' (by simpa using h),Option.map_some,Option.getD_some, <- Rr]
 simp
noncomputable def og (rl:List Nat) (r:Bool):List Int:=if r then jg rl else jh rl
theorem GW {rl:List Nat}:og rl true=jg rl:=if_pos rfl
theorem GX {rl:List Nat}:og rl false=jh rl:=if_neg Bool.false_ne_true
theorem tQ {l:List Nat} {j:Nat}:(l.map fun (k:Nat)=>(k:Int)).getD j 0=((l.getD j 0:Nat):Int):=by
 rw [List.getD_eq_getElem?_getD,List.getElem?_map,List.getD_eq_getElem?_getD]
 cases l[j]? <;>rfl
theorem GY {p:Prop} [Decidable p] {b:Bool} (h:decide p=b):p↔b=true:=by rw [<- h,decide_eq_true_iff]
theorem GZ {rl:List Nat} (h:rl.length=8):(jg rl).length=8:=by unfold jg;rw [List.length_map];exact GK wJ (Ak h)
theorem G0 {rl:List Nat} (h:rl.length=8):(jh rl).length=8:=by unfold jh;rw [List.length_map];exact GK wK (Al h)
theorem Rt {rl:List Nat} {r:Bool} (h:rl.length=8):(og rl r).length=8:=by
 cases r
 ·rw [GX];exact G0 h
 ·rw [GW];exact GZ h
theorem AB {rl:List Nat} {r:Bool} {j k:Nat} (h:rl.length=8) (hj:j < 8) (hk:k < 8):(og rl r).getD j 0 < (og rl r).getD k 0↔Suf rl r j k:=by
 rw [pz (by exact Zb Z7 14 [_,_] [] hj h)]
 cases r
 ·rw [GX]
  unfold jh
  rw [tQ,tQ,Int.ofNat_lt,GY (GL wK (Al h) hj hk),GV hj,GV hk]
 ·rw [GW]
  unfold jg
  rw [tQ,tQ,Int.ofNat_lt,GY (GL wJ (Ak h) hj hk),GU hj,GU hk]
theorem Ru {w:List Nat} {p b e k:Nat} {r:Bool} (h8:w.length=8) (hs:Sp w p b e) (hd:Dir w p e r) (h1:b<=k) (hk:k+p<=e):n4 (og w r) p k=true↔mT w r p k:=by
 have hle:=hs.le
 have hp:=hs.p1
 refine fm (Rq (Rt (r:=r) h8) (k:=k) (by exact Zb Z2 6 [_,_,_,_] [] hp hk h8 hle):) fun a1 a2 a3 a4=> ?_
 have s1:Suf w r (k+p) k:=Az hs hd h1 (by exact Zb Z2 7 [_,_,_] [] hk) hk
 unfold n4
 rw [beq_iff_eq]
 generalize jy (og w r) k=q at*
 constructor
 ·intro hq t t1 t2
  have:=a3 (k+t) (by exact Zb Z3 18 [_,_] [] t1) (by exact Zb Z7 15 [_,_,_,_] [] hq t2)
  rw [AB h8 (by exact Zb Z7 16 [_,_,_,_] [] hq t2 a2) (by exact Zb Z7 17 [_,_,_] [] hq hp a2)] at this
  exact Suf.ll (by exact Zb Z7 18 [_,_,_,_,_] [] hq t2 h8 a2) (by exact Zb Z7 19 [_,_,_,_] [] hq hp h8 a2) (by exact Zb Z7 20 [_,_] [] t1) this
 ·intro hl
  by_cases c:q < k+p
  ·exfalso
   rcases a4 with a4 | a4
   ·exact Zb Z7 21 [_,_,_,_,_] [] hk c a4 h8 hle
   ·rw [AB h8 (by exact Zb Z7 22 [_,_,_,_,_] [] hk c h8 hle) (by exact Zb Z2 6 [_,_,_,_] [] hp hk h8 hle)] at a4
    have:=hl (q - k) (by exact Zb Z5 6 [_,_] [] a1) (by exact Zb Z7 23 [_,_,_] [] hp c)
    rw [show k+(q - k)=q by exact Zb Z7 24 [_,_] [] a1] at this
    exact a4.pw (by exact Zb Z7 25 [_,_,_,_,_] [] hk c hle) (by exact Zb Z2 8 [_,_,_,_] [] hk hle) this
  ·by_cases c2:k+p < q
   ·have:=a3 (k+p) (by exact Zb Z3 18 [_,_] [] hp) c2
    rw [AB h8 (by exact Zb Z7 26 [_,_,_] [] c2 a2) (by exact Zb Z2 6 [_,_,_,_] [] hp hk h8 hle)] at this
    exact absurd s1 this
   ·exact Zb Z7 27 [_,_,_] [] c2 c
theorem AD:∀(u v:List Nat),u.length=v.length->(u < v↔∃m,m < u.length/\(∀i,i < m->u.getD i 0=v.getD i 0)/\u.getD m 0 < v.getD m 0)
 | [],[],_=>⟨fun h=>absurd h (by decide),fun ⟨m,h,_⟩=>absurd h (Nat.not_lt_zero _)⟩
 | [],b::t,h=>by cases h
 | a::r,[],h=>by cases h
 | a::r,b::t,h=>by
  have ih:=AD r t (Nat.succ.inj h)
  rw [List.cons_lt_cons_iff]
  constructor
  ·rintro (q | ⟨q,q'⟩)
   ·exact ⟨0,Nat.zero_lt_succ _,fun i h=>absurd h (Nat.not_lt_zero _),q⟩
   ·refine ey (ih.mp q':) fun m h1 h2 h3=> ?_
    refine ⟨m+1,Nat.succ_lt_succ h1,fun i hi=> ?_,h3⟩
    cases i with
    | zero=>exact q
    | succ i=>exact h2 i (Nat.lt_of_succ_lt_succ hi)
  ·rintro ⟨m,h1,h2,h3⟩
   cases m with
   | zero=>exact .inl h3
   | succ m=>exact .inr ⟨h2 0 (Nat.zero_lt_succ _),ih.mpr ⟨m,Nat.lt_of_succ_lt_succ h1,fun i hi=>h2 (i+1) (Nat.succ_lt_succ hi),h3⟩⟩
theorem Rv {l m:List Nat} {i:Nat}:(l++m).getD i 0=if i < l.length then l.getD i 0 else m.getD (i - l.length) 0:=by
 rw [List.getD_eq_getElem?_getD,List.getElem?_append]
 split<;>rw [List.getD_eq_getElem?_getD]
theorem wN {w:List Nat} {a n i:Nat} (h:i < n):((w.drop a).take n).getD i 0=aw w (a+i):=by
 show _=w.getD (a+i) 0
 rw [List.getD_eq_getElem?_getD,List.getElem?_take,if_pos h,List.getElem?_drop,List.getD_eq_getElem?_getD]
section
variable {w:List Nat} {p k t:Nat} {r:Bool}
theorem Rw (hp:k+p<=w.length) (h1:1<=t) (ht:t < p):(gW w k p t).length=p:=by
 unfold gW
 rw [List.length_append,List.length_take,List.length_take,List.length_drop,List.length_drop];exact Zb Z7 28 [_,_,_,_] [] hp ht
theorem oh (hp:k+p<=w.length) (h1:1<=t) (ht:t < p) {i:Nat} (hi:i < p):(gW w k p t).getD i 0=gE w p k t i:=by
 unfold gW gE
 have hl:((w.drop (k+t)).take (k+p - (k+t))).length=p - t:=by rw [List.length_take,List.length_drop];exact Zb Z7 29 [_,_,_,_] [] hp
 rw [Rv,hl]
 by_cases q:i < p - t
 ·rw [if_pos q,if_pos q,wN (by exact Zb Z7 30 [_,_,_,_] [] q)]
 ·rw [if_neg q,if_neg q,wN (by exact Zb Z7 31 [_,_,_,_] [] h1 hi),show k+(i - (p - t))=k+i - (p - t) by exact Zb Z3 19 [_,_,_,_] [] q]
theorem filter_none {α:Type} [BEq α] {l:List α} {f:α->Bool}:(l.filter f==[])=true↔∀x∈l,f x=false:=by
 rw [List.beq_nil_eq,List.isEmpty_iff,List.filter_eq_nil_iff]
 exact ⟨fun h x hx=>Bool.eq_false_iff.mpr (h x hx),fun h x hx=>by rw [h x hx];simp⟩
theorem G1 (hp:k+p<=w.length):eb w p r k=true↔qV w r p k:=by
 have hu:((w.drop k).take (k+p - k)).length=p:=by rw [List.length_take,List.length_drop];exact Zb Z7 32 [_,_,_] [] hp
 have hg:∀i,i < p->((w.drop k).take (k+p - k)).getD i 0=aw w (k+i):=fun i hi=>wN (by exact Zb Z7 33 [_,_,_] [] hi)
 generalize me:(w.drop k).take (k+p - k)=u at*
 have fwd:∀t,1<=t->t < p->((if r=true then u < gW w k p t else gW w k p t < u)↔∃m,m < p/\(∀i,i < m->aw w (k+i)=gE w p k t i)/\fj r (aw w (k+m)) (gE w p k t m)):=fun t h1 ht=>by
  have hl:=Rw hp h1 ht
  cases r
  ·show gW w k p t < u↔_
   rw [AD _ _ (hl.trans hu.symm),hl]
   constructor
   ·rintro ⟨m,m1,m2,m3⟩
    rw [oh hp h1 ht m1,hg m m1] at m3
    refine ⟨m,m1,fun i hi=> ?_,m3⟩
    have:=m2 i hi
    rw [oh hp h1 ht (by exact iT hi m1),hg i (by exact iT hi m1)] at this;exact this.symm
   ·rintro ⟨m,m1,m2,m3⟩
    refine ⟨m,m1,fun i hi=> ?_, ?_⟩
    ·rw [oh hp h1 ht (by exact iT hi m1),hg i (by exact iT hi m1)];exact (m2 i hi).symm
    ·rw [oh hp h1 ht m1,hg m m1];exact m3
  ·show u < gW w k p t↔_
   rw [AD _ _ (hu.trans hl.symm),hu]
   constructor
   ·rintro ⟨m,m1,m2,m3⟩
    rw [oh hp h1 ht m1,hg m m1] at m3
    refine ⟨m,m1,fun i hi=> ?_,m3⟩
    have:=m2 i hi
    rw [oh hp h1 ht (by exact iT hi m1),hg i (by exact iT hi m1)] at this;exact this
   ·rintro ⟨m,m1,m2,m3⟩
    refine ⟨m,m1,fun i hi=> ?_, ?_⟩
    ·rw [oh hp h1 ht (by exact iT hi m1),hg i (by exact iT hi m1)];exact m2 i hi
    ·rw [oh hp h1 ht m1,hg m m1];exact m3
 have mem:∀{q:List Nat->Prop},(∀l∈iJ w k p,q l)↔∀t,1<=t->t < p->q (gW w k p t):=fun {q}=>by
  unfold iJ
  constructor
  ·intro h t h1 h2
   exact h _ (List.mem_map.mpr ⟨t,List.mem_range'_1.mpr (by exact Zb Z7 34 [_,_] [] h1 h2),rfl⟩)
  ·intro h l hl
   (refine aj (List.mem_map.mp hl:) fun t ht ay=> ?_;subst ay)
   have:=List.mem_range'_1.mp ht
   exact h t (by exact Zb Z7 35 [_,_] [] this) (by exact Zb Z7 36 [_,_] [] this)
 unfold eb qV
 rw [me]
 cases r
 ·rw [if_neg (by simp),filter_none,mem]
  refine forall_congr' fun t=>forall_congr' fun h1=>forall_congr' fun h2=> ?_
  rw [<- fwd t h1 h2];simp
 ·rw [if_pos rfl,filter_none,mem]
  refine forall_congr' fun t=>forall_congr' fun h1=>forall_congr' fun h2=> ?_
  rw [<- fwd t h1 h2];simp
end
theorem oi {rl:List Nat}:(aJ rl).length=rl.length:=by unfold aJ;rw [List.length_map]
theorem iO {rl:List Nat} {i:Nat} (h:i < rl.length):aw (aJ rl) i=97+aw rl i:=by
 unfold aJ
 show (List.map _ rl).getD i 0=97+rl.getD i 0
 rw [List.getD_eq_getElem?_getD,List.getElem?_map,List.getD_eq_getElem?_getD,List.getElem?_eq_getElem h];rfl
theorem G2 {rl:List Nat} {r:Bool} {p k:Nat} (h:k+p<=rl.length):qV (aJ rl) r p k↔qV rl r p k:=by
 have ha:∀i,i < p->aw (aJ rl) (k+i)=97+aw rl (k+i):=fun i hi=>iO (by exact Zb Z7 37 [_,_,_,_] [] h hi)
 have hr:∀t i,1<=t->t < p->i < p->gE (aJ rl) p k t i=97+gE rl p k t i:=fun t i h1 h2 h3=>by
  unfold gE
  split
  ·exact iO (by exact Zb Z7 38 [_,_,_,_,_] [] h ‹_›)
  ·exact iO (by exact Zb Z7 39 [_,_,_,_,_] [] h h3)
 unfold qV
 refine forall_congr' fun t=>forall_congr' fun h1=>forall_congr' fun h2=> ?_
 constructor
 ·rintro ⟨m,m1,m2,m3⟩
  refine ⟨m,m1,fun i hi=> ?_, ?_⟩
  ·have:=m2 i hi
   rw [ha i (by exact iT hi m1),hr t i h1 h2 (by exact iT hi m1)] at this;exact Zb Z8 0 [_,_] [] this
  ·rw [ha m m1,hr t m h1 h2 m1] at m3
   cases r<;>simp [fj] at m3 ⊢ <;>exact m3
 ·rintro ⟨m,m1,m2,m3⟩
  refine ⟨m,m1,fun i hi=> ?_, ?_⟩
  ·rw [ha i (by exact iT hi m1),hr t i h1 h2 (by exact iT hi m1),m2 i hi]
  ·rw [ha m m1,hr t m h1 h2 m1]
   cases r<;>simp [fj] at m3 ⊢ <;>exact m3
section
variable {w:List Nat} {p b e:Nat}
theorem tS (h8:w.length=8) (h:Sp w p b e):Dir w p e (dU w p e):=by
 have:=h.le
 unfold dU Dir
 by_cases q:e < 8
 ·rw [if_pos q]
  refine .inr ⟨by exact m6 q h8, ?_⟩
  have:aw w e≠aw w (e - p):=by
   rcases h.tP with l | l
   ·exact Zb Z3 20 [_,_,_,_] [] q h8 l
   ·exact l
  have this:w.getD e 0≠w.getD (e - p) 0:=this
  unfold fj
  by_cases c:w.getD e 0 < w.getD (e - p) 0
  ·rw [if_pos (decide_eq_true c)];exact c
  ·rw [if_neg (by rw [decide_eq_false c];simp)]
   show w.getD (e - p) 0 < w.getD e 0
   exact Zb Z8 1 [_,_] [] ‹_› c
 ·exact .inl (by exact Zb Z8 2 [_,_] [] h8 this q)
theorem Rx (h8:w.length=8) (h:Sp w p b e):iM (p,b,e):=by
 have:=h.p1;have:=h.len;have:=h.le
 show 1<=p/\p<=4/\b+2*p<=e/\e<=8
 exact Zb Z8 3 [_,_,_,_] [] ‹_› ‹_› h8 this
theorem Ry (h8:w.length=8) (h:Sp w p b e):Ai w (jg w) (jh w) (p,b,e):=by
 refine ⟨Rx h8 h,fun h'=> ?_,fun k h1 h2=> ?_⟩
 ·rcases h.tP with l | l
  ·have h':e < 8:=h'
   exact Zb Z3 20 [_,_,_,_] [] ‹_› h8 l
  ·exact l
 ·have h1:b+1<=k:=h1
  have h2:k<=e - p:=h2
  have:=h.len
  have hle:=h.le
  have e1:=Ru h8 h (tS h8 h) (k:=k) (by exact lZ ‹_›) (by exact Zb Z3 21 [_,_,_,_] [] ‹_› ‹_›)
  have e2:=GP h (tS h8 h) (k:=k) (by exact lZ ‹_›) (by exact Zb Z3 21 [_,_,_,_] [] ‹_› ‹_›)
  have e3:=G2 (rl:=w) (r:=dU w p e) (p:=p) (k:=k) (by exact Zb Z3 22 [_,_,_,_,_] [] this hle ‹_›)
  have e4:=G1 (w:=aJ w) (p:=p) (k:=k) (r:=dU w p e) (by rw [oi];exact Zb Z3 22 [_,_,_,_,_] [] this hle ‹_›)
  have h:n4 (og w (dU w p e)) p k=true↔eb (aJ w) p (dU w p e) k=true:=by rw [e1,e2,e4,e3]
  show n4 (if dU w p e then jg w else jh w) p k=eb (aJ w) p (dU w p e) k
  exact Bool.eq_iff_iff.mpr h
theorem G3 (h8:w.length=8) (h:Sp w p b e) {k:Nat} (hk:k∈k7 w (p,b,e)):b+1<=k/\k+p<=e/\mT w (dU w p e) p k:=by
 have:=h.len
 have hle:=h.le
 unfold k7 at hk
 rw [n6] at hk
 refine xA (List.mem_filter.mp hk:) fun h1 h2=> ?_
 have h1:=List.mem_range'_1.mp h1
 dsimp only at h1 h2
 refine ⟨by exact Zb Z3 14 [_,_,_,_] [] h1,by exact Zb Z3 23 [_,_,_,_] [] h1, ?_⟩
 rw [GP h (tS h8 h) (by exact Zb Z8 4 [_,_,_,_] [] h1) (by exact Zb Z3 23 [_,_,_,_] [] h1), <- G2 (by exact Zb Z3 24 [_,_,_,_,_] [] h1 hle), <- G1 (by rw [oi];exact Zb Z3 24 [_,_,_,_,_] [] h1 hle)]
 exact h2
end
theorem Rz {w:List Nat} (h8:w.length=8) {rs:List (Nat × Nat × Nat)} (hn:rs.Nodup) (hs:∀t∈rs,Sp w t.1 t.2.1 t.2.2):(rs.flatMap (k7 w)).Nodup:=by
 unfold List.Nodup
 rw [List.pairwise_flatMap]
 refine ⟨fun t ht=> ?_, ?_⟩
 ·unfold k7
  rw [n6]
  exact List.Pairwise.filter _ (List.nodup_range' (step:=1) (h:=by exact Zb Z8 5 [] []))
 ·refine hn.imp_of_mem fun {t t'} ht dJ dZ k hk k' fU q=> ?_
  subst q
  refine bG (G3 h8 (hs t ht) hk:) fun a1 a2 a3=> ?_
  refine bG (G3 h8 (hs t' dJ) fU:) fun b1 b2 b3=> ?_
  refine bG (Ro (hs t ht) (hs t' dJ) (tS h8 (hs t ht)) (tS h8 (hs t' dJ)) a1 b1 a2 b2 a3 b3:) fun c1 c2 c3=> ?_
  exact dZ (Prod.ext c1 (Prod.ext c2 c3))
noncomputable def ip (w:List Nat) (p:Nat) (σ:List (Nat × Nat × Nat) × Nat) (k:Nat):List (Nat × Nat × Nat) × Nat:=
 if k=w.length - p\/aw w k≠aw w (k+p) then ((if σ.2+p<=k then σ.1++[(p,σ.2,k+p)] else σ.1),k+1) else σ
noncomputable def strN (w:List Nat) (p:Nat):List (Nat × Nat × Nat):=((List.range' 0 (w.length - p+1)).foldl (ip w p) ([],0)).1
theorem G4 {w:List Nat} {i:Nat}:(b9 w).getD i 0=(aw w i:Int):=tQ
theorem G5 {w:List Nat} {p:Nat}:∀(ks:List Nat) (σ:List (Nat × Nat × Nat) × Nat),ks.foldl (jx (b9 w) p) (σ.1.map fO,σ.2)=((ks.foldl (ip w p) σ).1.map fO,(ks.foldl (ip w p) σ).2)
 | [],σ=>rfl
 | k::ks,σ=>by
  have hl:(b9 w).length=w.length:=by unfold b9;rw [List.length_map]
  have e:jx (b9 w) p (σ.1.map fO,σ.2) k=((ip w p σ k).1.map fO,(ip w p σ k).2):=by
   unfold jx ip
   rw [hl,G4,G4]
   have hc:(k=w.length - p\/(aw w k:Int)≠(aw w (k+p):Int))↔(k=w.length - p\/aw w k≠aw w (k+p)):=by lia
   by_cases q:k=w.length - p\/aw w k≠aw w (k+p)
   ·rw [if_pos q,if_pos (hc.mpr q)]
    dsimp only
    split
    ·rw [List.map_append];rfl
    ·rfl
   ·rw [if_neg q,if_neg (fun c=>q (hc.mp c))]
  rw [List.foldl_cons,List.foldl_cons,e]
  exact G5 ks (ip w p σ k)
theorem RA {w:List Nat} {p:Nat}:nN (b9 w) p=(strN w p).map fO:=by
 unfold nN strN
 have hl:(b9 w).length=w.length:=by unfold b9;rw [List.length_map]
 rw [hl]
 exact congrArg Prod.fst (G5 (List.range' 0 (w.length - p+1)) ([],0))
structure wO (w:List Nat) (p k:Nat) (σ:List (Nat × Nat × Nat) × Nat):Prop where
 le:σ.2<=k
 lR:∀i,σ.2<=i->i < k->aw w i=aw w (i+p)
 wM:σ.2=0\/aw w (σ.2 - 1)≠aw w (σ.2 - 1+p)\/k=w.length - p+1
 mem:∀t,t∈σ.1↔t.1=p/\Sp w p t.2.1 t.2.2/\t.2.2 < k+p
 RB:σ.1.Pairwise fun t t'=>t.2.1 < t'.2.1
 lt:∀t∈σ.1,t.2.1 < σ.2
theorem RC {w:List Nat} {p k:Nat} (h1:1<=p) (hp:p<=w.length) (hk:k < w.length - p+1) {σ:List (Nat × Nat × Nat) × Nat} (I:wO w p k σ):wO w p (k+1) (ip w p σ k):=by
 obtain ⟨f,b⟩:=σ
 obtain ⟨i1,i2,i3,i4,i5,i6⟩:=I
 dsimp only at i1 i2 i3 i4 i5 i6
 have i3:b=0\/aw w (b - 1)≠aw w (b - 1+p):=by
  rcases i3 with h | h | h
  ·exact .inl h
  ·exact .inr h
  ·exact Zb Z5 18 [_,_,_,_,_,_] [] hk h
 have uniq:∀b0,Sp w p b0 (k+p)->b0=b:=fun b0 h=>by
  have hl:=h.len
  have n1:¬b0 < b:=fun q=>by
   rcases i3 with l | l
   ·exact Zb Z2 0 [_,_] [] q l
   ·exact l (h.lR (b - 1) (by exact Zb Z1 20 [_,_] [] q) (by exact Zb Z5 19 [_,_,_,_] [] q i1))
  have n2:¬b < b0:=fun q=>by
   rcases h.wM with l | l
   ·exact Zb Z2 0 [_,_] [] q l
   ·exact l (i2 (b0 - 1) (by exact Zb Z1 20 [_,_] [] q) (by exact Zb Z5 20 [_,_,_] [] h1 hl))
  exact Zb Z3 0 [_,_] [] n2 n1
 unfold ip
 dsimp only
 by_cases q:k=w.length - p\/aw w k≠aw w (k+p)
 ·rw [if_pos q]
  have RD:b+p<=k->Sp w p b (k+p):=fun hb=>by
   refine ⟨h1,by exact Zb Z5 21 [_,_,_] [] hb,by exact Zb Z5 22 [_,_,_,_] [] hb hk,fun i hi hj=>i2 i hi (by exact Zb Z5 23 [_,_,_] [] hj),i3, ?_⟩
   rcases q with q | q
   ·exact .inl (by exact Zb Z5 24 [_,_,_,_] [] hb q)
   ·right;rw [Nat.add_sub_cancel];exact Ne.symm q
  have G6:k+1=0\/aw w (k+1 - 1)≠aw w (k+1 - 1+p)\/k+1=w.length - p+1:=by
   rcases q with q | q
   ·exact .inr (.inr (by exact Zb Z5 25 [_,_,_] [] q))
   ·exact .inr (.inl q)
  by_cases hb:b+p<=k
  ·rw [if_pos hb]
   refine ⟨Nat.le_refl _,fun i hi hj=> ?_,G6,fun t=> ?_, ?_,fun t ht=> ?_⟩
   ·dsimp only at hi;exact Zb Z3 1 [_,_,_,_] [] hi hj
   ·dsimp only
    rw [List.mem_append,List.mem_singleton,i4]
    constructor
    ·rintro (⟨a1,a2,a3⟩ | a)
     ·exact ⟨a1,a2,by exact Zb Z2 1 [_,_,_] [] a3⟩
     ·subst a
      exact ⟨rfl,RD hb,by show k+p < k+1+p;exact Zb Z5 26 [_,_] []⟩
    ·rintro ⟨a1,a2,a3⟩
     by_cases c:t.2.2 < k+p
     ·exact .inl ⟨a1,a2,c⟩
     ·right
      have e:t.2.2=k+p:=by exact Zb Z2 2 [_,_,_] [] a3 c
      rw [e] at a2
      exact Prod.ext a1 (Prod.ext (uniq _ a2) e)
   ·dsimp only
    rw [List.pairwise_append]
    refine ⟨i5,List.pairwise_singleton _ _,fun t ht t' dJ=> ?_⟩
    rw [List.mem_singleton.mp dJ]
    exact i6 t ht
   ·dsimp only at ht ⊢
    rcases List.mem_append.mp ht with ht | ht
    ·have:=i6 t ht;exact Zb Z5 27 [_,_,_,_] [] hb this
    ·rw [List.mem_singleton.mp ht];show b < k+1;exact Zb Z5 28 [_,_,_] [] hb
  ·rw [if_neg hb]
   refine ⟨Nat.le_refl _,fun i hi hj=> ?_,G6,fun t=> ?_,i5,fun t ht=> ?_⟩
   ·dsimp only at hi;exact Zb Z3 1 [_,_,_,_] [] hi hj
   ·dsimp only
    rw [i4]
    constructor
    ·rintro ⟨a1,a2,a3⟩;exact ⟨a1,a2,by exact Zb Z2 1 [_,_,_] [] a3⟩
    ·rintro ⟨a1,a2,a3⟩
     refine ⟨a1,a2, ?_⟩
     apply Classical.byContradiction
     intro c
     have e:t.2.2=k+p:=by exact Zb Z2 2 [_,_,_] [] a3 c
     rw [e] at a2
     have:=uniq _ a2
     have:=a2.len
     exact Zb Z5 29 [_,_,_,_] [] this ‹_› hb
   ·dsimp only at ht ⊢
    have:=i6 t ht;exact Zb Z5 30 [_,_,_] [] this i1
 ·rw [if_neg q]
  have q1:k≠w.length - p:=fun c=>q (.inl c)
  have q2:aw w k=aw w (k+p):=Classical.byContradiction fun c=>q (.inr c)
  refine ⟨Nat.le_succ_of_le i1,fun i hi hj=> ?_, ?_,fun t=> ?_,i5,i6⟩
  ·by_cases c:i=k
   ·subst c;exact q2
   ·exact i2 i hi (by exact Zb Z1 21 [_,_] [] hj c)
  ·rcases i3 with l | l
   ·exact .inl l
   ·exact .inr (.inl l)
  ·dsimp only
   rw [i4]
   constructor
   ·rintro ⟨a1,a2,a3⟩;exact ⟨a1,a2,by exact Zb Z2 1 [_,_,_] [] a3⟩
   ·rintro ⟨a1,a2,a3⟩
    refine ⟨a1,a2, ?_⟩
    apply Classical.byContradiction
    intro c
    have e:t.2.2=k+p:=by exact Zb Z2 2 [_,_,_] [] a3 c
    rw [e] at a2
    rcases a2.tP with l | l
    ·exact Zb Z5 31 [_,_,_,_,_] [] l q
    ·rw [Nat.add_sub_cancel] at l;exact l q2.symm
theorem G7 {w:List Nat} {p:Nat} (h1:1<=p) (hp:p<=w.length):wO w p (0+(w.length - p+1)) ((List.range' 0 (w.length - p+1)).foldl (ip w p) ([],0)):=by
 refine sX (wO w p) (ip w p) (w.length - p+1) 0 ([],0) ?_ fun k σ _ hk I=>RC h1 hp (by exact Zb Z5 32 [_,_,_] [] hk) I
 refine ⟨Nat.le_refl _,fun i _ h=>absurd h (Nat.not_lt_zero _), .inl rfl,fun t=>⟨fun h=>(nomatch h),fun ⟨_,h2,h3⟩=> ?_⟩, .nil,fun t h=>(nomatch h)⟩
 have:=h2.len
 lia
theorem pA {w:List Nat} {p:Nat} (h1:1<=p) (hp:p<=w.length) {t:Nat × Nat × Nat}:t∈strN w p↔t.1=p/\Sp w p t.2.1 t.2.2:=by
 rw [show (t∈strN w p)=(t∈((List.range' 0 (w.length - p+1)).foldl (ip w p) ([],0)).1) from rfl,(G7 h1 hp).mem t]
 constructor
 ·rintro ⟨a,b,_⟩;exact ⟨a,b⟩
 ·rintro ⟨a,b⟩
  have:=b.le
  exact ⟨a,b,by exact Zb Z5 33 [_,_,_] [] this⟩
theorem RE {w:List Nat} {p:Nat} (h1:1<=p) (hp:p<=w.length):(strN w p).Pairwise fun t t'=>t.2.1 < t'.2.1:=(G7 h1 hp).RB
theorem G8 {w:List Nat} {p:Nat}:(strN w p).length<=w.length - p+1:=by
 have:∀(ks:List Nat) (σ:List (Nat × Nat × Nat) × Nat),(ks.foldl (ip w p) σ).1.length<=σ.1.length+ks.length:=by
  intro ks
  induction ks with
  | nil=>intro σ;exact Nat.le_refl _
  | cons k ks ih=>
   intro σ
   rw [List.foldl_cons,List.length_cons]
   have h1:=ih (ip w p σ k)
   have h2:(ip w p σ k).1.length<=σ.1.length+1:=by
    unfold ip
    split
    ·dsimp only
     split
     ·rw [List.length_append];exact Nat.le_refl _
     ·exact Zb Z1 8 [_] []
    ·exact Zb Z1 8 [_] []
   exact Zb Z3 2 [_,_,_,_] [] h2 h1
 have:=this (List.range' 0 (w.length - p+1)) ([],0)
 rw [List.length_range'] at this
 unfold strN
 simpa using this
theorem G9:∀(l m:List Nat),l.length=m.length->(l=m↔∀i,i < l.length->l.getD i 0=m.getD i 0)
 | l,m,h=>by
  constructor
  ·intro e i _;rw [e]
  ·intro e
   refine List.ext_getElem h fun i h1 h2=> ?_
   have:=e i h1
   rw [List.getD_eq_getElem?_getD,List.getD_eq_getElem?_getD,List.getElem?_eq_getElem h1,List.getElem?_eq_getElem h2] at this
   exact this
noncomputable def oj (w:List Nat) (q b e:Nat):Prop:=∀i,b<=i->i+q < e->aw w i=aw w (i+q)
theorem wQ {w:List Nat} {b e:Nat} (he:e<=w.length):(cD w b e).length=e - b:=by unfold cD;rw [List.length_take,List.length_drop];exact Zb Z5 34 [_,_,_] [] he
theorem qW {w:List Nat} {b e i:Nat} (h:b+i < e):(cD w b e).getD i 0=aw w (b+i):=by unfold cD;rw [wN (by exact Zb Z2 3 [_,_,_] [] h)]
theorem Ha {l:List Nat} {a i:Nat}:(l.drop a).getD i 0=l.getD (a+i) 0:=by rw [List.getD_eq_getElem?_getD,List.getElem?_drop,List.getD_eq_getElem?_getD]
theorem AE {l:List Nat} {n i:Nat} (h:i < n):(l.take n).getD i 0=l.getD i 0:=by rw [List.getD_eq_getElem?_getD,List.getElem?_take,if_pos h,List.getD_eq_getElem?_getD]
theorem Hb {w:List Nat} {b e q:Nat} (he:e<=w.length) (hq:b+q<=e):((cD w b e).drop q==(cD w b e).take ((cD w b e).length - q))=true↔oj w q b e:=by
 have hl:=wQ (b:=b) he
 rw [beq_iff_eq,G9 _ _ (by rw [List.length_drop,List.length_take];exact Zb Z5 35 [_,_] []),List.length_drop,hl]
 constructor
 ·intro h i h1 h2
  have:=h (i - b) (by exact Zb Z3 3 [_,_,_,_] [] h2 h1)
  rw [Ha,AE (by exact Zb Z3 3 [_,_,_,_] [] h2 h1),qW (by exact Zb Z5 36 [_,_,_,_] [] h2 h1),qW (by exact Zb Z5 37 [_,_,_,_] [] h2 h1),show b+(q+(i - b))=i+q by exact Zb Z5 38 [_,_,_] [] h1,show b+(i - b)=i by exact Zb Z3 4 [_,_] [] h1] at this
  exact this.symm
 ·intro h i hi
  rw [Ha,AE (by exact hi),qW (by exact Zb Z5 39 [_,_,_,_] [] hi),qW (by exact Zb Z6 0 [_,_,_,_] [] hi),show b+(q+i)=b+i+q by exact Zb Z6 1 [_,_,_] []]
  exact (h (b+i) (by exact g9) (by exact Zb Z6 2 [_,_,_,_] [] hi)).symm
theorem Hc {w:List Nat} {q b e:Nat} (he:e<=w.length):oj (aJ w) q b e↔oj w q b e:=by
 unfold oj
 refine forall_congr' fun i=>forall_congr' fun h1=>forall_congr' fun h2=> ?_
 rw [iO (by exact Zb Z6 3 [_,_,_,_] [] h2 he),iO (by exact Zb Z6 4 [_,_,_,_] [] h2 he)];lia
theorem AF {f:Nat->Bool} {m p:Nat}:(List.range' 1 m).find? f=some p↔f p=true/\1<=p/\p < 1+m/\∀q,1<=q->q < p->f q=false:=by
 rw [List.find?_range'_eq_some,List.mem_range'_1]
 constructor
 ·rintro ⟨h1,h2,h3⟩
  exact ⟨h1,h2.1,h2.2,fun q a b=>by have:=h3 q a b;simpa using this⟩
 ·rintro ⟨h1,h2,h3,h4⟩
  exact ⟨h1,⟨h2,h3⟩,fun q a b=>by have:=h4 q a b;simpa using this⟩
theorem RF {p:Nat} {part:List Nat}:dO p part=[p]↔(List.range' 1 p).find? (fun q=>part.drop q==part.take (part.length - q))=some p:=by
 unfold dO
 rw [<- List.head?_filter]
 constructor
 ·intro h;rw [h];rfl
 ·intro h
  have hs:((List.range' 1 p).filter fun q=>part.drop q==part.take (part.length - q)).Pairwise (· < ·):=List.Pairwise.filter _ List.pairwise_lt_range'
  have hm:∀x∈(List.range' 1 p).filter fun q=>part.drop q==part.take (part.length - q),x < 1+p:=fun x hx=>(List.mem_range'_1.mp (List.mem_filter.mp hx).1).2
  generalize (List.range' 1 p).filter (fun q=>part.drop q==part.take (part.length - q))=l at*
  cases l with
  | nil=>exact no h
  | cons a l=>
   have h:some a=some p:=h
   cases h
   cases l with
   | nil=>rfl
   | cons c l=>
    have h1:=(List.pairwise_cons.mp hs).1 c (.head _)
    have h2:=hm c (.tail _ (.head _))
    lia
noncomputable def Run (w:List Nat) (t:Nat × Nat × Nat):Prop:=Sp w t.1 t.2.1 t.2.2/\∀q,1<=q->q < t.1->¬oj w q t.2.1 t.2.2
theorem wR {b:Bool} {p:Prop} (h:b=true↔p):b=false↔¬p:=by rw [<- h];simp
theorem Hd {w:List Nat} {p b e:Nat} (hs:Sp w p b e):dO p (cD (aJ w) b e)=[p]↔∀q,1<=q->q < p->¬oj w q b e:=by
 have:=hs.p1;have:=hs.len;have hle:=hs.le
 have key:∀q,q<=p->(((cD (aJ w) b e).drop q==(cD (aJ w) b e).take ((cD (aJ w) b e).length - q))=true↔oj w q b e):=fun q hq=>by
  rw [Hb (by rw [oi];exact hle) (by exact Zb Z6 5 [_,_,_,_] [] this hq),Hc hle]
 rw [RF,AF]
 constructor
 ·rintro ⟨_,_,_,h⟩ q h1 h2
  exact (wR (key q (by exact Zb Z0 19 [_,_] [] h2))).mp (h q h1 h2)
 ·intro h
  exact ⟨(key p (Nat.le_refl _)).mpr hs.lR,by lia,by exact HJ,fun q h1 h2=>(wR (key q (by exact HF h2))).mpr (h q h1 h2)⟩
theorem He {rl:List Nat}:∀(xs rs:List (Nat × Nat × Nat)),xs.foldl (kZ rl) rs=rs++xs.filter fun t=>decide (dO t.1 (cD (aJ rl) t.2.1 t.2.2)=[t.1])
 | [],rs=>by simp
 | t::xs,rs=>by
  rw [List.foldl_cons,He xs,List.filter_cons]
  unfold kZ
  by_cases q:dO t.1 (cD (aJ rl) t.2.1 t.2.2)=[t.1]
  ·rw [if_pos q,decide_eq_true q,if_pos rfl,List.append_assoc];rfl
  ·rw [if_neg q,decide_eq_false q,if_neg (by simp)]
theorem wU {α β:Type} {g:α->List β}:∀(xs:List α) (f:List β),xs.foldl (fun f x=>f++g x) f=f++xs.flatMap g
 | [],f=>by simp
 | x::xs,f=>by rw [List.foldl_cons,wU xs,List.flatMap_cons,List.append_assoc]
theorem AG {rl:List Nat}:ik rl (strN rl)=(List.range' 1 4).flatMap fun p=>(strN rl p).filter fun t=>decide (dO t.1 (cD (aJ rl) t.2.1 t.2.2)=[t.1]):=by
 unfold ik
 have:(fun (rs:List (Nat × Nat × Nat)) p=>(strN rl p).foldl (kZ rl) rs)=fun rs p=>rs++(strN rl p).filter fun t=>decide (dO t.1 (cD (aJ rl) t.2.1 t.2.2)=[t.1]):=by
  funext rs p;rw [He]
 rw [this,wU,List.nil_append]
theorem AH {rl:List Nat} (h8:rl.length=8) {t:Nat × Nat × Nat}:t∈ik rl (strN rl)↔Run rl t:=by
 rw [AG,List.mem_flatMap]
 constructor
 ·rintro ⟨p,hp,ht⟩
  have hp:=List.mem_range'_1.mp hp
  refine xA (List.mem_filter.mp ht:) fun h1 h2=> ?_
  refine xA ((pA (by exact pH hp) (by exact pI hp h8)).mp h1:) fun e hs=> ?_
  subst e
  exact ⟨hs,(Hd hs).mp (of_decide_eq_true h2)⟩
 ·rintro ⟨hs,hm⟩
  have:=hs.p1;have:=hs.len;have:=hs.le
  exact ⟨t.1,List.mem_range'_1.mpr (by exact HK ‹_› ‹_› h8 this),List.mem_filter.mpr ⟨(pA (by lia) (by exact HM ‹_› this)).mpr ⟨rfl,hs⟩,decide_eq_true ((Hd hs).mpr hm)⟩⟩
theorem Hf {t t':Nat × Nat × Nat} (h:t.1 < t'.1\/(t.1=t'.1/\t.2.1 < t'.2.1)):ib (fO t) (fO t')=true:=by
 unfold ib fO
 dsimp only
 rcases h with h | ⟨h,h'⟩
 ·rw [if_neg (by exact Zb Z3 5 [_,_] [] h),decide_eq_true_iff];exact Zb Z3 6 [_,_] [] h
 ·rw [if_pos (by exact Zb Z1 22 [_,_] [] h),if_neg (by exact Zb Z3 5 [_,_] [] h'),decide_eq_true_iff];exact Zb Z3 6 [_,_] [] h'
theorem Hg {rl:List Nat} (h8:rl.length=8):(ik rl (strN rl)).Pairwise fun t t'=>ib (fO t) (fO t')=true:=by
 rw [AG,List.pairwise_flatMap]
 refine ⟨fun p hp=> ?_, ?_⟩
 ·have hp:=List.mem_range'_1.mp hp
  refine ((RE (w:=rl) (p:=p) (by exact pH hp) (by exact pI hp h8)).filter _).imp_of_mem fun {t t'} ht dJ h=> ?_
  have e1:=((pA (by exact pH hp) (by exact pI hp h8)).mp (List.mem_filter.mp ht).1).1
  have e2:=((pA (by exact pH hp) (by exact pI hp h8)).mp (List.mem_filter.mp dJ).1).1
  exact Hf (.inr ⟨e1.trans e2.symm,h⟩)
 ·refine (List.pairwise_lt_range' (s:=1) (n:=4) (step:=1)).imp_of_mem fun {p p'} hp eN h t ht t' dJ=> ?_
  have hp:=List.mem_range'_1.mp hp
  have eN:=List.mem_range'_1.mp eN
  have e1:=((pA (by exact pH hp) (by exact pI hp h8)).mp (List.mem_filter.mp ht).1).1
  have e2:=((pA (by exact pH eN) (by exact pI eN h8)).mp (List.mem_filter.mp dJ).1).1
  exact Hf (.inl (by exact Zb Z6 9 [_,_,_,_] [] h e2 e1))
noncomputable def pB (wl:List Nat) (b e:Nat):List (Int × Int × Int):=
 match lL (cD wl b e) with
 | []=>[]
 | p::_=>if (b=0\/wl.getD (b - 1) 0≠wl.getD (b - 1+p) 0)/\(e=wl.length\/wl.getD e 0≠wl.getD (e - p) 0) then [((p:Int),(b:Int),(e:Int))] else []
theorem RG {wl:List Nat} {b e:Nat} {f:List (Int × Int × Int)}:jA wl b f e=f++pB wl b e:=by
 unfold jA pB
 cases lL (cD wl b e) with
 | nil=>exact (List.append_nil _).symm
 | cons p l=>
  dsimp only
  split
  ·rfl
  ·exact (List.append_nil _).symm
theorem RH {wl:List Nat} {n:Nat}:(List.range' 0 n).foldl (jB wl) []=(List.range' 0 n).flatMap fun b=>(List.range' (b+2) (wl.length+1 - (b+2))).flatMap (pB wl b):=by
 have:jB wl=fun f b=>f++(List.range' (b+2) (wl.length+1 - (b+2))).flatMap (pB wl b):=by
  funext f b
  unfold jB
  have e:jA wl b=fun f e=>f++pB wl b e:=by funext f e;exact RG
  rw [e,wU]
 rw [this,wU,List.nil_append]
set_option tactic.hygienic true in
theorem Hi {wl:List Nat} {b e:Nat} {x:Int × Int × Int}:x∈pB wl b e↔∃p:Nat,(lL (cD wl b e)).head? =some p/\(b=0\/wl.getD (b - 1) 0≠wl.getD (b - 1+p) 0)/\(e=wl.length\/wl.getD e 0≠wl.getD (e - p) 0)/\x=((p:Int),(b:Int),(e:Int)):=by
 unfold pB
 split
 ·rename_i h
  rw [h]
  exact ⟨fun h=>(nomatch h),fun ⟨p,h,_⟩=>(nomatch h)⟩
 ·rename_i p l h
  rw [h]
  split
  ·rename_i c
   rw [List.mem_singleton]
   exact ⟨fun h=>⟨p,rfl,c.1,c.2,h⟩,fun ⟨p',h,_,_,h'⟩=>by cases h;exact h'⟩
  ·rename_i c
   exact ⟨fun h=>(nomatch h),fun ⟨p',h,h1,h2,_⟩=>by cases h;exact absurd ⟨h1,h2⟩ c⟩
theorem RI {rl:List Nat} (h8:rl.length=8) {x:Int × Int × Int}:x∈kR (aJ rl)↔∃t,Run rl t/\fO t=x:=by
 unfold kR
 rw [(kf (lt:=ib) _).mem_iff,RH,List.mem_flatMap]
 have key:∀{b e:Nat} (q:Nat),e<=rl.length->b+q<=e->(((cD (aJ rl) b e).drop q==(cD (aJ rl) b e).take ((cD (aJ rl) b e).length - q))=true↔oj rl q b e):=fun {b e} q he hq=>by
  rw [Hb (by rw [oi];exact he) (by exact hq),Hc he]
 have hw:(aJ rl).length=rl.length:=oi
 constructor
 ·rintro ⟨b,hb,hx⟩
  refine aj (List.mem_flatMap.mp hx:) fun e he hx=> ?_
  have hb:=List.mem_range'_1.mp hb
  have he:=List.mem_range'_1.mp he
  refine eT (Hi.mp hx:) fun p h1 h2 h3 h4=> ?_
  rw [hw] at hb he h3
  have hl:(cD (aJ rl) b e).length=e - b:=wQ (by rw [oi];exact Zb Z1 23 [_,_,_] [] he)
  unfold lL at h1
  rw [List.head?_filter,AF] at h1
  (refine fm h1 ?_;clear h1;intro a1 a2 a3 a4)
  rw [hl] at a3
  have hs:Sp rl p b e:=by
   refine ⟨a2,by lia,by lia,(key p (by lia) (by lia)).mp a1, ?_, ?_⟩
   ·rcases h2 with h2 | h2
    ·exact .inl h2
    ·right
     have e1:=iO (rl:=rl) (i:=b - 1) (by exact Zb Z6 12 [_,_,_] [] he)
     have e2:=iO (rl:=rl) (i:=b - 1+p) (by exact HN he a3)
     unfold aw at*
     exact Zb Z3 7 [_,_,_,_] [] e2 e1 h2
   ·rcases h3 with h3 | h3
    ·exact .inl h3
    ·by_cases c:e=rl.length
     ·exact .inl c
     ·right
      have e1:=iO (rl:=rl) (i:=e) (by exact Zb Z6 14 [_,_,_] [] he c)
      have e2:=iO (rl:=rl) (i:=e - p) (by exact Zb Z6 15 [_,_,_,_] [] a2 he)
      unfold aw at*
      exact Zb Z3 7 [_,_,_,_] [] e2 e1 h3
  exact ⟨(p,b,e),⟨hs,fun q q1 q2=>by have q2:q < p:=q2;exact (wR (key (b:=b) (e:=e) q (by exact HG he) (by exact HO a3 ‹_›))).mp (a4 q q1 q2)⟩,h4.symm⟩
 ·rintro ⟨⟨p,b,e⟩,⟨hs,hm⟩,rfl⟩
  dsimp only at hs hm
  have:=hs.p1;have:=hs.len;have hle:=hs.le
  have hl:(cD (aJ rl) b e).length=e - b:=wQ (by rw [oi];exact hle)
  refine ⟨b,List.mem_range'_1.mpr (by rw [hw];exact Zb Z6 17 [_,_,_,_] [] ‹_› this hle),List.mem_flatMap.mpr ⟨e,List.mem_range'_1.mpr (by rw [hw];exact Zb Z6 18 [_,_,_,_] [] ‹_› this hle),Hi.mpr ⟨p, ?_, ?_, ?_,rfl⟩⟩⟩
  ·unfold lL
   rw [List.head?_filter,AF]
   exact ⟨(key p hle (by exact Zb Z3 8 [_,_,_] [] this)).mpr hs.lR,hs.p1,by rw [hl];exact Zb Z6 19 [_,_,_,_] [] (bW _) this,fun q q1 q2=>(wR (key q hle (by exact Zb Z6 20 [_,_,_,_] [] this q2))).mpr (hm q q1 q2)⟩
  ·rcases hs.wM with h | h
   ·exact .inl h
   ·right
    have e1:=iO (rl:=rl) (i:=b - 1) (by exact Zb Z6 21 [_,_,_,_] [] ‹_› this hle)
    have e2:=iO (rl:=rl) (i:=b - 1+p) (by exact Zb Z6 22 [_,_,_,_] [] ‹_› this hle)
    unfold aw at*
    exact Zb Z3 9 [_,_,_,_] [] e2 e1 h
  ·rw [hw]
   rcases hs.tP with h | h
   ·exact .inl h
   ·by_cases c:e=rl.length
    ·exact .inl c
    ·right
     have e1:=iO (rl:=rl) (i:=e) (by exact Zb Z6 23 [_,_] [] hle c)
     have e2:=iO (rl:=rl) (i:=e - p) (by exact Zb Z6 24 [_,_,_] [] ‹_› h8 hle)
     unfold aw at*
     exact Zb Z3 9 [_,_,_,_] [] e2 e1 h
theorem RJ {rl:List Nat} (h8:rl.length=8):(ik rl (strN rl)).map fO=kR (aJ rl):=by
 have s1:((ik rl (strN rl)).map fO).Pairwise fun a b=>ib a b=true:=List.pairwise_map.mpr (Hg h8)
 have n1:((ik rl (strN rl)).map fO).Nodup:=s1.imp fun {a b} h q=>by subst q;rw [ql.kg] at h;exact eI h
 have n2:(kR (aJ rl)).Nodup:=by
  unfold kR
  rw [(kf (lt:=ib) _).nodup_iff]
  exact EC _
 refine List.Perm.eq_of_pairwise (le:=fun a b=>ib b a=false) (fun a b _ _ h1 h2=>ql.ll a b h2 h1) (s1.imp fun {a b} h=>ltB ql h) (uo ql _) ((List.perm_ext_iff_of_nodup n1 n2).mpr fun x=> ?_)
 rw [RI h8,List.mem_map]
 exact ⟨fun ⟨t,h1,h2⟩=>⟨t,(AH h8).mp h1,h2⟩,fun ⟨t,h1,h2⟩=>⟨t,(AH h8).mpr h1,h2⟩⟩
theorem RK {rl:List Nat} (h8:rl.length=8):(ik rl (strN rl)).Nodup:=(Hg h8).imp fun {a b} h q=>by subst q;rw [ql.kg] at h;exact eI h
theorem RL {rl:List Nat} (h8:rl.length=8):(ik rl (strN rl)).length<=100:=by
 rw [AG]
 have e:List.range' 1 4=[1,2,3,4]:=rfl
 rw [e]
 simp only [List.flatMap_cons,List.flatMap_nil,List.length_append,List.length_nil]
 have g:∀p,((strN rl p).filter fun t=>decide (dO t.1 (cD (aJ rl) t.2.1 t.2.2)=[t.1])).length<=9:=fun p=>by
  refine Nat.le_trans (List.length_filter_le _ _) (Nat.le_trans G8 ?_)
  exact Zb Z6 25 [_,_] [] h8
 have:=g 1;have:=g 2;have:=g 3;have:=g 4
 exact Zb Z6 26 [_,_,_,_] [] this ‹_› ‹_› ‹_›
end cb
namespace cb
open PySem PySem.W PySem.Calls PyProof.Rows PySem.Spec
noncomputable def lS (g w:List Nat) (hi k9:Nat):Nat->Nat->Nat->Nat->List Nat
 | 0,_,_,_=>[]
 | f+1,i,free,c=>if c < k9/\free<=i/\i+w.length<=hi/\((g.drop i).take w.length==w)=true then i::lS g w hi k9 f (i+1) (i+w.length) (c+1) else lS g w hi k9 f (i+1) free c
theorem AI {g w:List Nat} {i:Nat}:Builtin.Str.subAt (S g) (S w) i=((g.drop i).take w.length==w):=by
 rw [StrLaws.subAt_eq,fN,fN,c8]
theorem AJ {g w:List Nat} {hi k9:Nat}:∀(n i:Nat) (st:Array Nat × Nat),(forIn (List.range' i n) st (StrLaws.occBody (S g) (S w) hi k9)).run.fst.toList=st.fst.toList++lS g w hi k9 n i st.snd st.fst.size
 | 0,i,st=>by
  show st.fst.toList=_
  rw [show lS g w hi k9 0 i st.snd st.fst.size=[] from rfl,List.append_nil]
 | n+1,i,st=>by
  rw [List.range'_succ,List.forIn_cons]
  unfold StrLaws.occBody lS
  rw [AI,c8]
  by_cases q:st.fst.size < k9/\st.snd<=i/\i+w.length<=hi/\((g.drop i).take w.length==w)=true
  ·rw [if_pos q,if_pos ⟨⟨⟨q.1,q.2.1⟩,q.2.2.1⟩,q.2.2.2⟩]
   refine (AJ n (i+1) (st.fst.push i,i+w.length)).trans ?_
   rw [Array.toList_push,Array.size_push,List.append_assoc];rfl
  ·rw [if_neg q,if_neg (fun c=>q ⟨c.1.1.1,c.1.1.2,c.1.2,c.2⟩)]
   exact AJ n (i+1) st
theorem AK {g w:List Nat} {lo hi k9:Nat}:Builtin.Str.occurrences (S g) (S w) lo hi k9=lS g w hi k9 (hi+1 - lo) lo lo 0:=by
 rw [StrLaws.occ_eq,AJ];rfl
theorem AL:gz=S cS:=by decide
noncomputable def AM (x:List Nat):Bool:= !(lS x cS x.length 1 (x.length+1) 0 0 0).isEmpty
theorem RM {x:List Nat}:Txt.contains (S x) gz=AM x:=by
 unfold Txt.contains AM
 rw [AL,c8,AK];rfl
noncomputable def wV (x:List Nat):List Nat:=lS x cS x.length (x.length+1) (x.length+1) 0 0 0
noncomputable def tT (x:List Nat):List (List Nat):=if x.length < 3 then [x] else if (wV x).isEmpty then [x] else ((0::(wV x).map (· +3)).zip (wV x++[x.length])).map fun p=>(x.drop p.1).take (p.2 - p.1)
theorem RN {x:Str}:1<=Builtin.Str.strKind x:=by unfold Builtin.Str.strKind;split<;>(try split)<;>(first | exact Zb cB 13 [] [] | exact Zb Z1 12 [] [] | exact m7)
theorem RO:Builtin.Str.strKind gz=1:=by decide+kernel
theorem RP {x:List Nat}:Txt.split (S x) gz=(tT x).map S:=by
 unfold Txt.split tT
 have hk:decide (Builtin.Str.strKind (S x) < Builtin.Str.strKind gz)=false:=by
  rw [RO,decide_eq_false_iff_not]
  have:=RN (x:=S x)
  exact Zb cB 14 [_] [] this
 have hl:gz.length=3:=by rw [AL];exact c8
 rw [hk,Bool.or_false,c8,hl]
 have ho:Builtin.Str.occurrences (S x) gz 0 x.length (x.length+1)=wV x:=by
  rw [AL,AK];rfl
 rw [ho]
 by_cases hx:x.length < 3
 ·rw [if_pos hx,if_pos (decide_eq_true hx)];rfl
 ·rw [if_neg hx,if_neg (fun c=>hx (of_decide_eq_true c))]
  split
  ·rfl
  ·unfold Builtin.Str.partsBetween
   rw [List.map_map,c8]
   refine List.map_congr_left fun p _=> ?_
   obtain ⟨i,j⟩:=p
   show Builtin.Str.strSub (S x) i j=S ((x.drop i).take (j - i))
   rw [zj (Builtin.Str.strSub (S x) i j),StrLaws.strSub_toList,fN]
noncomputable def AN (g w:List Nat):Bool:=decide (w.length<=g.length)&&(g.take w.length==w)
noncomputable def endsN (g w:List Nat):Bool:=decide (w.length<=g.length)&&((g.drop (g.length - w.length)).take w.length==w)
theorem RQ {g w:List Nat}:Txt.startswith (S g) (S w)=AN g w:=by
 unfold Txt.startswith AN
 rw [AI,c8,c8,Nat.zero_add,List.drop_zero]
theorem RS {g w:List Nat}:Txt.endswith (S g) (S w)=endsN g w:=by
 unfold Txt.endswith endsN
 rw [c8,c8,AI,Nat.zero_add]
noncomputable def wW (g:List Nat) (ep:Nat):List (List Nat)->Nat->Option Bool
 | [],_=>some true
 | w::r,sp=>if sp<=g.length/\ep<=g.length/\w.length<=4096 then (match lS g w ep 1 (ep+1 - sp) sp sp 0 with | k::_=>wW g ep r (k+w.length) | []=>some false) else none
noncomputable def wX (g:List Nat) (ls:List (List Nat)) (sp ep:Nat):Option Bool:=if sp > ep then some false else wW g ep ls sp
noncomputable def wY (g:List Nat) (ls:List (List Nat)) (sp:Nat):Option Bool:=
 match ls.getLast? with
 | none=>none
 | some w=>if w.length<=4096 then (if w.length=0 then wX g ls sp g.length else if endsN g w=true then wX g ls.dropLast sp (g.length - w.length) else some false) else none
noncomputable def AO (g:List Nat):List (List Nat)->Option Bool
 | []=>none
 | w::r=>if w.length<=4096 then (if w.length=0 then wY g (w::r) 0 else if AN g w=true then wY g r w.length else some false) else none
noncomputable def qX (x g:List Nat):Option Bool:=if AM x=true/\x.length<=4096/\g.length<=4096/\2<=(tT x).length/\(tT x).length<=4096 then AO g (tT x) else none
theorem Hj {g:List Nat} {ep:Nat}:∀(ls:List (List Nat)) (sp:Nat),qE (S g) ep (ls.map S) sp=wW g ep ls sp
 | [],sp=>rfl
 | w::r,sp=>by
  rw [List.map_cons]
  unfold qE wW
  rw [c8,c8,AK]
  cases lS g w ep 1 (ep+1 - sp) sp sp 0 with
  | nil=>rfl
  | cons k l=>
   dsimp only
   rw [Hj r]
theorem Hk {g:List Nat} {ls:List (List Nat)} {sp ep:Nat}:qF (S g) (ls.map S) sp ep=wX g ls sp ep:=by
 unfold qF wX
 rw [Hj]
theorem Hl {g:List Nat} {ls:List (List Nat)} {sp:Nat}:nT (S g) (ls.map S) sp=wY g ls sp:=by
 unfold nT wY
 rw [List.getLast?_map]
 cases ls.getLast? with
 | none=>rfl
 | some w=>
  rw [Option.map_some]
  dsimp only
  rw [c8,Hk,c8,RS, <- List.map_dropLast,Hk]
theorem RT {g:List Nat}:∀(ls:List (List Nat)),vX (S g) (ls.map S)=AO g ls
 | []=>rfl
 | w::r=>by
  have h:=Hl (g:=g) (ls:=w::r) (sp:=0)
  rw [List.map_cons] at*
  unfold vX AO
  dsimp only
  rw [c8,h,RQ,Hl]
theorem Hm {x g:List Nat}:nU [dG x,dG g]=(qX x g).map PyData.bool:=by
 show (if Txt.contains (S x) gz=true/\(S x).length<=4096/\(S g).length<=4096/\2<=(Txt.split (S x) gz).length/\(Txt.split (S x) gz).length<=4096 then (vX (S g) (Txt.split (S x) gz)).map PyData.bool else none)=_
 unfold qX
 rw [RM,RP,c8,c8,List.length_map,RT]
 split<;>rfl
noncomputable def rep (u:List Nat) (L:Nat):List Nat:=(List.range' 0 L).map fun i=>u.getD (i % u.length) 0
noncomputable def Hn (p:Nat) (part:List Nat):Bool:=
 ((List.range' 1 p).all fun q=>qX (part.drop q++cS) part==some (part.drop q==part.take (part.length - q)))&&
 (!(dO p part==[p])||((qX (part.take p++cS++part.take p) part==some (part.length % p==0))&&
  (qX (part.take p++cS++part.take p++cS++part.take p) part==some (part.length % p==0&&decide (part.length > 2*p)))&&
  (qX (part.drop p++cS++part.drop p) part==some (part.length==2*p))))
noncomputable def AP:Nat->List (List Nat)
 | 0=>[[]]
 | n+1=>(AP n).flatMap fun u=>[97::u,98::u,99::u]
noncomputable def tU (p:Nat) (L:Nat):Bool:=(AP p).all fun u=>Hn p (rep u L)
theorem RU:(List.range' 2 7).all (tU 1)=true:=by decide+kernel
theorem RV:(List.range' 4 5).all (tU 2)=true:=by decide+kernel
theorem RW:(List.range' 6 3).all (tU 3)=true:=by decide+kernel
theorem RX:tU 4 8=true:=by decide+kernel
theorem RY {p L:Nat} (h1:1<=p) (h2:2*p<=L) (h3:L<=8):tU p L=true:=by
 have hp:p=1\/p=2\/p=3\/p=4:=by exact Zb cf 29 [_,_] [] h1 h2 h3
 rcases hp with rfl | rfl | rfl | rfl
 ·exact List.all_eq_true.mp RU L (List.mem_range'_1.mpr (by exact Zb cf 30 [_] [] h2 h3))
 ·exact List.all_eq_true.mp RV L (List.mem_range'_1.mpr (by exact Zb cf 31 [_] [] h2 h3))
 ·exact List.all_eq_true.mp RW L (List.mem_range'_1.mpr (by exact Zb cf 32 [_] [] h2 h3))
 ·rw [show L=8 by exact Zb cf 33 [_] [] h2 h3];exact RX
theorem Ho:∀(n:Nat) (u:List Nat),u.length=n->(∀c∈u,c=97\/c=98\/c=99)->u∈AP n
 | 0,[],_,_=> .head _
 | 0,_::_,h,_=>by cases h
 | n+1,[],h,_=>by cases h
 | n+1,c::u,h,hc=>by
  refine List.mem_flatMap.mpr ⟨u,Ho n u (Nat.succ.inj h) fun x hx=>hc x (.tail _ hx), ?_⟩
  rcases hc c (.head _) with q | q | q<;>subst q
  ·exact .head _
  ·exact .tail _ (.head _)
  ·exact .tail _ (.tail _ (.head _))
theorem RZ {part:List Nat} {p:Nat} (h1:1<=p) (hl:p<=part.length) (hp:∀i,i+p < part.length->part.getD i 0=part.getD (i+p) 0):part=rep (part.take p) part.length:=by
 have hu:(part.take p).length=p:=by rw [List.length_take];exact Zb cf 34 [_,_] [] hl
 have key:∀n i,i<=n->i < part.length->part.getD i 0=part.getD (i % p) 0:=by
  intro n
  induction n with
  | zero=>intro i hi _;rw [show i=0 by exact Zb cf 35 [_] [] hi,Nat.zero_mod]
  | succ n ih=>
   intro i hi bg
   by_cases q:i < p
   ·rw [Nat.mod_eq_of_lt q]
   ·have h2:=hp (i - p) (by exact Zb cf 36 [_,_,_] [] bg q)
    rw [show i - p+p=i by exact Zb cf 37 [_,_] [] q] at h2
    have e:i % p=(i - p) % p:=Nat.mod_eq_sub_mod (by exact Zb cf 38 [_,_] [] q)
    rw [e, <- h2]
    exact ih (i - p) (by exact Zb cf 39 [_,_,_] [] h1 hi) (by exact Zb cJ 0 [_,_,_] [] bg)
 rw [G9 _ _ (by unfold rep;rw [List.length_map,List.length_range'])]
 intro i hi
 unfold rep
 have hm:i % p < p:=Nat.mod_lt _ h1
 rw [hu]
 have e:((List.range' 0 part.length).map fun i=>(part.take p).getD (i % p) 0).getD i 0=(part.take p).getD (i % p) 0:=by
  rw [List.getD_eq_getElem?_getD,List.getElem?_map,List.getElem?_range' hi,Option.map_some,Option.getD_some,Nat.zero_add,Nat.one_mul]
 rw [e,AE hm]
 exact key i i (Nat.le_refl _) hi
theorem R0 {p:Nat} {part:List Nat} (h1:1<=p) (h2:2*p<=part.length) (h3:part.length<=8) (hc:∀c∈part,c=97\/c=98\/c=99) (hp:∀i,i+p < part.length->part.getD i 0=part.getD (i+p) 0):wz p part:=by
 have ha:=List.all_eq_true.mp (RY h1 h2 h3) (part.take p) (Ho p _ (by rw [List.length_take];exact Zb cJ 1 [_,_] [] h2) fun c h=>hc c (List.mem_of_mem_take h))
 rw [<- RZ h1 (by exact Zb cJ 2 [_,_] [] h2) hp] at ha
 unfold Hn at ha
 rw [Bool.and_eq_true,List.all_eq_true] at ha
 (refine xA ha ?_;clear ha;intro hf hr)
 refine ⟨⟨h2,h3,h1⟩,fun c h=>by rcases hc c h with q | q | q<;>(first | exact Zb cJ 3 [_] [] q | exact Zb cJ 4 [_] [] q | exact Zb cJ 5 [_] [] q),fun q q1 q2=> ?_,fun fX=> ?_,fun fX=> ?_,fun fX=> ?_⟩
 ·have:=hf q (List.mem_range'_1.mpr (by exact Zb cJ 6 [_,_] [] q1 q2))
  rw [Hm,eq_of_beq this];rfl
 all_goals
  rw [fX,beq_self_eq_true,Bool.not_true,Bool.false_or,Bool.and_eq_true,Bool.and_eq_true] at hr
  rw [Hm]
 ·rw [eq_of_beq hr.1.1];rfl
 ·rw [eq_of_beq hr.1.2];rfl
 ·rw [eq_of_beq hr.2];rfl
theorem R1 {rl:List Nat} (h8:rl.length=8) (h3:∀x∈rl,x < 3) {p b e:Nat} (hs:Sp rl p b e):wz p (cD (aJ rl) b e):=by
 have:=hs.p1;have:=hs.len;have:=hs.le
 have hl:(cD (aJ rl) b e).length=e - b:=wQ (by rw [oi];exact this)
 refine R0 hs.p1 (by exact Zb cJ 7 [_,_,_,_] [] ‹_› hl) (by exact Zb cJ 8 [_,_,_,_] [] h8 hl this) (fun c hc=> ?_) fun i hi=> ?_
 ·have:c∈aJ rl:=List.mem_of_mem_drop (List.mem_of_mem_take hc)
  (refine aj (List.mem_map.mp this:) fun x hx ay=> ?_;subst ay)
  have:=h3 x hx
  exact Zb cJ 9 [_] [] this
 ·rw [qW (by exact Zb cJ 10 [_,_,_,_,_] [] hi hl),qW (by exact Zb cJ 11 [_,_,_,_,_] [] hi hl),iO (by exact Zb cJ 12 [_,_,_,_,_,_] [] hi hl this),iO (by exact Zb cJ 13 [_,_,_,_,_,_] [] hi hl this),hs.lR (b+i) (by exact g9) (by exact Zb cJ 14 [_,_,_,_,_] [] hi hl),show b+i+p=b+(i+p) by exact Zb cJ 15 [_,_,_] []]
theorem R2 {rl:List Nat} (h8:rl.length=8) (h3:∀x∈rl,x < 3):Good rl (strN rl):=by
 have hr:∀t∈ik rl (strN rl),Sp rl t.1 t.2.1 t.2.2:=fun t ht=>((AH h8).mp ht).1
 refine ⟨h8,h3,fun p _ _=>RA,fun p h1 h2=>⟨fun t ht=> ?_⟩,fun p=> ?_,RJ h8,RL h8,GZ h8,G0 h8,fun t ht=>Ry h8 (hr t ht),Rz h8 (RK h8) hr⟩
 ·refine xA ((pA h1 (by exact Zb cJ 16 [_,_] [] h8 h2)).mp ht:) fun e hs=> ?_
  have:=hs.len;have:=hs.le
  exact ⟨e,hs.len,by exact Zb cJ 17 [_,_] [] h8 this,R1 h8 h3 hs⟩
 ·have:=G8 (w:=rl) (p:=p)
  exact Zb cJ 18 [_,_,_] [] h8 this
noncomputable def pC (ns:List Int):List Nat:=(kQ ns).map Int.toNat
theorem AQ (ns:List Int):(pC ns).length=8/\(∀x∈pC ns,x < 3)/\kQ ns=b9 (pC ns):=by
 have hm:∀z∈kQ ns,z=0\/z=1\/z=2:=fun z hz=>by
  (refine aj (List.mem_map.mp hz:) fun k _ aF=> ?_;subst aF)
  exact M3 ns k
 refine ⟨?_,fun x hx=> ?_, ?_⟩
 ·unfold pC kQ
  rw [List.length_map,List.length_map,List.length_range']
 ·(refine aj (List.mem_map.mp hx:) fun z hz aP=> ?_;subst aP)
  rcases hm z hz with q | q | q<;>subst q<;>decide
 ·unfold b9 pC
  rw [List.map_map]
  have:(kQ ns).map ((fun (x:Nat)=>(x:Int))∘Int.toNat)=(kQ ns).map id:=List.map_congr_left fun z hz=>by
   rcases hm z hz with q | q | q<;>subst q<;>rfl
  rw [this,List.map_id]
theorem R3 (ns:List Int):Good (pC ns) (strN (pC ns)):=R2 (AQ ns).1 (AQ ns).2.1
theorem Hp {a:Addr} {o:Obj}:∀{K:Frag},K.lookup a=some o->a∈K.map (·.1)
 | (b,o')::r,e=>by
  rw [List.lookup_cons] at e
  by_cases q:a=b
  ·subst q;exact .head _
  ·rw [beq_eq_false_iff_ne.mpr q] at e
   exact .tail _ (Hp e)
theorem R4 (P:Params):((KI P).map (·.1)).all (fun a=> !az.contains a)=true:=by rfl
theorem R5 (P:Params):∃o,cb.hd.heap_1 P=(2,o)::KI P:=⟨_,rfl⟩
theorem R6 {P:Params} {h:Heap} (x:(cb.hd.heap_1 P).In h):(KI P).In (ba [] h):=fun a o e=>by
 have hm:a∈(KI P).map (·.1):=Hp e
 have ht:a∉az:=fun c=>by
  have:=List.all_eq_true.mp (R4 P) a hm
  rw [List.contains_iff_mem.mpr c] at this;exact eI this
 refine gc (x a o ?_) ht (fun c=>nomatch c)
 refine xE (R5 P:) fun o2 e2=> ?_
 rw [e2]
 show List.lookup a ((2,o2)::KI P)=some o
 rw [List.lookup_cons,beq_eq_false_iff_ne.mpr (fun c=>ht (by rw [c];decide))]
 exact e
theorem R7 {p:Program} {loose:List Str} {R8:ExcName->Option Value} {P:Params} {mg mb:Str->Option Value} {h:Heap} (T:Top p loose R8 mg mb h) (KX:(cb.hd.heap_1 P).In h) (ht:∀Q∈([254,249]:List Addr),h.get? Q=some (tabObj #[])):Ctx P mg mb [] h:=by
 have ns:∀{a:Addr} {m:Str->Option Value},h.Ns a m->a∉az->(ba [] h).Ns a m:=fun x n=>let ⟨o,es,ep,e,r⟩:=x;⟨o,es,ep,gc e n (fun c=>nomatch c),r⟩
 have tab:∀{Q:Addr} {q:Str},Q∈([254,249]:List Addr)->fy [] h Q q:=fun hQ=>⟨#[],ht _ hQ,trivial,fun _ _ e=>nomatch e⟩
 refine ⟨R6 KX,ns T.g (by decide),ns T.b (by decide),T.builtins, ?_,tab (by decide),tab (by decide),KX 2 _ rfl⟩
 obtain ⟨bm,ob,h1,h2,h3,h4,h5,h6⟩:=T.bmain
 have Hq:∀{a:Addr} {m:Str->Option Value},h.Ns a m->bm≠a:=fun x q=>by
  (refine pF x ?_;clear x;intro o es ep e hd _)
  rw [<- q,h3] at e;cases e
  rw [h6] at hd;cases hd
 have Hr:∀{Q:Addr},Q∈([254,249]:List Addr)->bm≠Q:=fun hQ q=>by
  have:=ht _ hQ
  rw [<- q,h3] at this;(obtain rfl:=Option.some.inj this;clear this)
  cases h6
 refine ⟨bm,ob,h1,h2,Hq T.g,gc h3 (fun c=> ?_) (fun c=>nomatch c),h4,h5,h6⟩
 simp only [az,List.mem_cons,List.not_mem_nil,or_false] at c
 rcases c with c | c | c
 ·exact Hr (by decide) c
 ·exact Hr (by decide) c
 ·refine aj T.nolimit fun mc x _=> ?_
  exact Hq x c
theorem R9 {P:Params} {mg mb:Str->Option Value} {h h':Heap} (C:Ctx P mg mb [] h) (ht:∀Q∈([254,249]:List Addr),h.get? Q=some (tabObj #[])) (h9:TabsAt [(258,254),(251,249)] h) (g:aA h h') (C':Ctx P mg mb [] h'):OldK h h':=by
 have code:∀{c Q:Addr},(c,Q)∈([(258,254),(251,249)]:List (Addr × Addr))->isCodeTable h Q:=fun hm=>by
  (refine xA (h9 _ hm:) fun ay _=> ?_;obtain ⟨o,vs,_,_,_,_,_,_,_,e1,e2,e3,e4,_⟩:=ay)
  exact ⟨_,o,vs,e1,e2,e3,e4⟩
 have tab:∀{c Q:Addr} {q:Str},(c,Q)∈([(258,254),(251,249)]:List (Addr × Addr))->Q∈([254,249]:List Addr)->fy [] h' Q q->∀o,h.get? Q=some o->asItWas h h' Q o:=fun hm hQ t o e=>by
  (refine aj t ?_;clear t;intro ps e' _)
  rw [ht _ hQ] at e
  (obtain rfl:=Option.some.inj e;clear e)
  exact .inr (.inl ⟨code hm,rfl, #[],ps,rfl,by rw [e'];simp [tabObj]⟩)
 refine ⟨fun b o e=> ?_,fun b o e=> ?_⟩
 ·by_cases n:b∈az
  ·simp only [az,List.mem_cons,List.not_mem_nil,or_false] at n
   rcases n with rfl | rfl | rfl
   ·exact tab (.head _) (by decide) C'.t2 o e
   ·exact tab (.tail _ (.head _)) (by decide) C'.t1 o e
   ·rw [C.l2] at e
    (obtain rfl:=Option.some.inj e;clear e)
    exact .inl C'.l2
  ·exact .inl (g b o n e)
 ·by_cases n:b∈az
  ·simp only [az,List.mem_cons,List.not_mem_nil,or_false] at n
   rcases n with rfl | rfl | rfl
   ·refine aj C'.t2 fun ps e' _=> ?_;exact ⟨_,e'⟩
   ·refine aj C'.t1 fun ps e' _=> ?_;exact ⟨_,e'⟩
   ·exact ⟨_,C'.l2⟩
  ·exact ⟨o,g b o n e⟩
theorem Ht {X:List Addr} {h h':Heap}:∀{ns:List Int} {vs:List Value} {as:List Addr},ReadsAll h vs (ns.map .int) as->ax X h' vs (ns.map .int)
 | [],_,_,r=>by cases r;exact .nil
 | n::ns,_,_,r=>by
  cases r with
  | cons a b=>cases a;exact .cons (Rep.int _ _) (Ht b)
theorem Sa {P:Params} {mg mb:Str->Option Value} {h:Heap} (C:Ctx P mg mb [] h) {ns:List Int} {v:Value} {as:List Addr} (r:Reads h v (.list (ns.map .int)) as):rD [] h v (ns.map .int):=by
 cases r with
 | @list a o vs n xs bs h1 h2 h3 h4=>
  refine ⟨a,o,vs,n,rfl,gc h1 (fun m=> ?_) (fun m=>nomatch m),h2,h3,Ht h4⟩
  simp only [az,List.mem_cons,List.not_mem_nil,or_false] at m
  rcases m with rfl | rfl | rfl
  ·refine aj C.t2 fun ps e' _=> ?_;rw [e'] at h1;(obtain rfl:=Option.some.inj h1;clear h1);cases h2
  ·refine aj C.t1 fun ps e' _=> ?_;rw [e'] at h1;(obtain rfl:=Option.some.inj h1;clear h1);cases h2
  ·rw [C.l2] at h1
   have hc:(o2 P).cls= .none:=rfl
   (obtain rfl:=Option.some.inj h1;clear h1);rw [hc] at h2;cases h2
theorem Sb (P:Params):hZ P 269 (bj P 269 bk) ["script"] (bU P 269):=
 ⟨⟨_,rfl,rfl⟩,by decide,rfl,rfl,rfl,rfl,rfl,rfl,rfl,⟨_,_,_,_,rfl,rfl,rfl,rfl⟩,fun x hx=>by
  rw [List.mem_singleton.mp hx];exact .inl rfl,rfl⟩
theorem Se:Lv 5 callerA:=⟨rfl,by show 1+claimMargin+5+8 < recursionLimit;decide,by show 4+100*5+1000 < cLine;decide⟩
theorem Sf {prog:Program} {w:World} {mg mb:Str->Option Value} {A:Around} {s:Shared} (hA:Lv 5 A) (C:Ctx w.params mg mb [] s.heap) {v:Value} {ns:List Int} (bX:ns.length<=4000) (hv:rD [] s.heap v (ns.map .int)) {E:Value->Shared->Prop}:
  wpAny (model prog w) A (call (.ref 269) [v]) (fun r s'=>r= .bool true/\(∃h tk,s'={s with heap:=h,toks:=tk})/\aA s.heap s'.heap/\Ctx w.params mg mb [] s'.heap) E s:=by
 have D:=Sb w.params
 refine aj D.obj fun o ho hd=> ?_
 refine pD D.code fun c oc vc t hc ky o1 o4=> ?_
 have kl:=dI (C.dX _ _ ho)
 have yz:=dI (C.dX _ _ ky)
 have hx:aN [] s.heap:=fun a h=>(nomatch h)
 have r:eP [] s.heap ((["script"]:List Str).zip [v]) ((["script"]:List Str).zip [iy (ns.map .int)]):= .cons (.inr ⟨_,rfl,hv⟩) .nil
 refine wpAny_call (codeAny_call_cells (binds:=(["script"]:List Str).zip [v]) hA.room kl.1 hd C.nl ⟨c,oc,vc,t,hc,yz.1,o1,o4⟩ D.body (by kernel_rfl) D.sm (fun y hy=> ?_) (fun ab x=> ?_) D.co D.gen D.kind)
 ·have so:y.1∈(["script"]:List Str):=(List.of_mem_zip hy).1
  rcases D.params y.1 so with hk | hk
  ·exact .inl hk
  ·exact .inr ⟨hk,cellsFrom_some _ _ _ (.inr (PySem.mem_of_lookup hk))⟩
 ·refine xA (Dx (lm:=false) D hx C r (fun q=>nomatch q) x:) fun O F=> ?_
  exact QR (hA.deeper _) O bX (AQ ns).2.2 (R3 ns) F fun s' e g C'=>⟨rfl,e,g,C'⟩
end cb
section
namespace cb
open PySem PySem.W PySem.Calls PyProof.Rows PySem.Spec
end cb
open PySem PySem.W PyProof.Rows
theorem PySem.Challenge.cw_uk0016_01_holds : PySem.Challenge.rw_uk0016_01.Holds := by
 refine holds_law cb.ws fun _=>cb.hd ?_
 intro w ae ab mg mb G Y fa o pm cd doc dV kV ho hd eC hD Hu hg args vals as Sg Sh sa vZ my
 have KX:=km_in_of Y
 have C:=cb.R7 G.T KX (km_tabs_of Y)
 have Sj:mg "law"=some (.ref 269):=mg_of C.dX C.g rfl
 wrow_args Sg Sh sa vZ my
 have Hv:mg (Str.ofString "law")=some (.ref fa):=Hu
 rw [Sj] at Hv
 cases Hv
 clear Hu eC hD hd
 have AR:=km_tabs_of Y
 have Sk:TabsAt [(258,254),(251,249)] ab.heap:=List.forall_mem_cons.mpr ⟨⟨codeHd_of_K (c:=258) (P:=254) KX (by kernel_rfl),AR 254 (by decide)⟩,List.forall_mem_cons.mpr ⟨⟨codeHd_of_K (c:=251) (P:=249) KX (by kernel_rfl),AR 249 (by decide)⟩,fun _ h=>nomatch h⟩⟩
 rename Reads ab.heap _ _ _=>yj
 rename ¬((63:Nat):Int) < _=>hlen
 have hv:=cb.Sa C yj
 refine wpAny_mono (cb.Sf cb.Se C ?len hv) (fun r s' q=> ?_) fun _ _ q=>q
 case len=>exact cb.HU hlen
 obtain ⟨rfl,⟨h',tk,rfl⟩,g,C'⟩:=q
 exact ⟨.inl ⟨.bool true, .bool true,[],rfl,fun _=>rfl, .bool true,postW_of rfl rfl (by decide+kernel),fun _=>⟨List.nodup_nil,fun _ h=>(nomatch h)⟩⟩,cb.R9 C AR Sk g C',rfl,AllBare.of_eq hg⟩
end
