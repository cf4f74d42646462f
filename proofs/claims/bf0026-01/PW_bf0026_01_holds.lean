import PyProof.Rows.All
import Wide.All
import OpenK.AllK
import Wide.FinOn
import PyProof.AutoIntOps
import PyProof.EnumIter
import PyProof.ZipIter
import PyProof.ListRange
import PySem.Challenge.RW_bf0026_01
set_option Elab.async false
set_option linter.unusedVariables false
set_option linter.unusedSimpArgs false
set_option linter.deprecated false
open PySem PySem.W PyProof.Rows
namespace Mine
theorem bj {P:Prop} (h:∀ G:Prop,(P->G)->G):P:=h P id
theorem ae  {p0 p1:Prop} {G:Prop} (h:p0∧p1) (k:p0->p1->G):G:=k h.1 h.2
theorem ai {T0:Sort _} {p0:T0->Prop} {G:Prop} (h:∃ x0,p0 x0) (k:∀ x0,p0 x0->G):G:=h.elim λ x0 h=>k x0 h
theorem bP  {p0 p1 p2:Prop} {G:Prop} (h:p0∧p1∧p2) (k:p0->p1->p2->G):G:=k h.1 h.2.1 h.2.2
theorem ac {T0:Sort _} {p0 p1:T0->Prop} {G:Prop} (h:∃ x0,p0 x0∧p1 x0) (k:∀ x0,p0 x0->p1 x0->G):G:=h.elim λ x0 h=>k x0 h.1 h.2
theorem c6 {T0:Sort _} {T1:Sort _} {p0:T0->T1->Prop} {G:Prop} (h:∃ x0 x1,p0 x0 x1) (k:∀ x0 x1,p0 x0 x1->G):G:=h.elim λ x0 h=>ai h (k x0)
theorem aU {T0:Sort _} {p0 p1 p2:T0->Prop} {G:Prop} (h:∃ x0,p0 x0∧p1 x0∧p2 x0) (k:∀ x0,p0 x0->p1 x0->p2 x0->G):G:=h.elim λ x0 h=>k x0 h.1 h.2.1 h.2.2
theorem bC {T0:Sort _} {T1:Sort _} {p0 p1:T0->T1->Prop} {G:Prop} (h:∃ x0 x1,p0 x0 x1∧p1 x0 x1) (k:∀ x0 x1,p0 x0 x1->p1 x0 x1->G):G:=h.elim λ x0 h=>ac h (k x0)
theorem cw {T0:Sort _} {T1:Sort _} {T2:Sort _} {p0:T0->T1->T2->Prop} {G:Prop} (h:∃ x0 x1 x2,p0 x0 x1 x2) (k:∀ x0 x1 x2,p0 x0 x1 x2->G):G:=h.elim λ x0 h=>c6 h (k x0)
theorem fu  {p0 p1 p2 p3 p4:Prop} {G:Prop} (h:p0∧p1∧p2∧p3∧p4) (k:p0->p1->p2->p3->p4->G):G:=k h.1 h.2.1 h.2.2.1 h.2.2.2.1 h.2.2.2.2
theorem fc {T0:Sort _} {p0 p1 p2 p3:T0->Prop} {G:Prop} (h:∃ x0,p0 x0∧p1 x0∧p2 x0∧p3 x0) (k:∀ x0,p0 x0->p1 x0->p2 x0->p3 x0->G):G:=h.elim λ x0 h=>k x0 h.1 h.2.1 h.2.2.1 h.2.2.2
theorem aV {T0:Sort _} {T1:Sort _} {p0 p1 p2:T0->T1->Prop} {G:Prop} (h:∃ x0 x1,p0 x0 x1∧p1 x0 x1∧p2 x0 x1) (k:∀ x0 x1,p0 x0 x1->p1 x0 x1->p2 x0 x1->G):G:=h.elim λ x0 h=>aU h (k x0)
theorem eZ {T0:Sort _} {T1:Sort _} {T2:Sort _} {p0 p1:T0->T1->T2->Prop} {G:Prop} (h:∃ x0 x1 x2,p0 x0 x1 x2∧p1 x0 x1 x2) (k:∀ x0 x1 x2,p0 x0 x1 x2->p1 x0 x1 x2->G):G:=h.elim λ x0 h=>bC h (k x0)
theorem cK {T0:Sort _} {T1:Sort _} {p0 p1 p2 p3:T0->T1->Prop} {G:Prop} (h:∃ x0 x1,p0 x0 x1∧p1 x0 x1∧p2 x0 x1∧p3 x0 x1) (k:∀ x0 x1,p0 x0 x1->p1 x0 x1->p2 x0 x1->p3 x0 x1->G):G:=h.elim λ x0 h=>fc h (k x0)
theorem kY {T0:Sort _} {T1:Sort _} {T2:Sort _} {p0 p1 p2:T0->T1->T2->Prop} {G:Prop} (h:∃ x0 x1 x2,p0 x0 x1 x2∧p1 x0 x1 x2∧p2 x0 x1 x2) (k:∀ x0 x1 x2,p0 x0 x1 x2->p1 x0 x1 x2->p2 x0 x1 x2->G):G:=h.elim λ x0 h=>aV h (k x0)
theorem eX {T0:Sort _} {T1:Sort _} {T2:Sort _} {T3:Sort _} {p0 p1:T0->T1->T2->T3->Prop} {G:Prop} (h:∃ x0 x1 x2 x3,p0 x0 x1 x2 x3∧p1 x0 x1 x2 x3) (k:∀ x0 x1 x2 x3,p0 x0 x1 x2 x3->p1 x0 x1 x2 x3->G):G:=h.elim λ x0 h=>eZ h (k x0)
theorem iC {T0:Sort _} {T1:Sort _} {p0 p1 p2 p3 p4:T0->T1->Prop} {G:Prop} (h:∃ x0 x1,p0 x0 x1∧p1 x0 x1∧p2 x0 x1∧p3 x0 x1∧p4 x0 x1) (k:∀ x0 x1,p0 x0 x1->p1 x0 x1->p2 x0 x1->p3 x0 x1->p4 x0 x1->G):G:=h.elim λ x0 h=>h.elim λ x1 h=>k x0 x1 h.1 h.2.1 h.2.2.1 h.2.2.2.1 h.2.2.2.2
theorem dq {T0:Sort _} {T1:Sort _} {T2:Sort _} {p0 p1 p2 p3:T0->T1->T2->Prop} {G:Prop} (h:∃ x0 x1 x2,p0 x0 x1 x2∧p1 x0 x1 x2∧p2 x0 x1 x2∧p3 x0 x1 x2) (k:∀ x0 x1 x2,p0 x0 x1 x2->p1 x0 x1 x2->p2 x0 x1 x2->p3 x0 x1 x2->G):G:=h.elim λ x0 h=>cK h (k x0)
theorem dQ {T0:Sort _} {T1:Sort _} {T2:Sort _} {p0 p1 p2 p3 p4:T0->T1->T2->Prop} {G:Prop} (h:∃ x0 x1 x2,p0 x0 x1 x2∧p1 x0 x1 x2∧p2 x0 x1 x2∧p3 x0 x1 x2∧p4 x0 x1 x2) (k:∀ x0 x1 x2,p0 x0 x1 x2->p1 x0 x1 x2->p2 x0 x1 x2->p3 x0 x1 x2->p4 x0 x1 x2->G):G:=h.elim λ x0 h=>iC h (k x0)
theorem ir {T0:Sort _} {T1:Sort _} {T2:Sort _} {p0 p1 p2 p3 p4 p5:T0->T1->T2->Prop} {G:Prop} (h:∃ x0 x1 x2,p0 x0 x1 x2∧p1 x0 x1 x2∧p2 x0 x1 x2∧p3 x0 x1 x2∧p4 x0 x1 x2∧p5 x0 x1 x2) (k:∀ x0 x1 x2,p0 x0 x1 x2->p1 x0 x1 x2->p2 x0 x1 x2->p3 x0 x1 x2->p4 x0 x1 x2->p5 x0 x1 x2->G):G:=h.elim λ x0 h=>h.elim λ x1 h=>h.elim λ x2 h=>k x0 x1 x2 h.1 h.2.1 h.2.2.1 h.2.2.2.1 h.2.2.2.2.1 h.2.2.2.2.2
theorem cx {T0:Sort _} {T1:Sort _} {T2:Sort _} {T3:Sort _} {p0 p1 p2 p3 p4:T0->T1->T2->T3->Prop} {G:Prop} (h:∃ x0 x1 x2 x3,p0 x0 x1 x2 x3∧p1 x0 x1 x2 x3∧p2 x0 x1 x2 x3∧p3 x0 x1 x2 x3∧p4 x0 x1 x2 x3) (k:∀ x0 x1 x2 x3,p0 x0 x1 x2 x3->p1 x0 x1 x2 x3->p2 x0 x1 x2 x3->p3 x0 x1 x2 x3->p4 x0 x1 x2 x3->G):G:=h.elim λ x0 h=>dQ h (k x0)
theorem gw {T0:Sort _} {T1:Sort _} {T2:Sort _} {T3:Sort _} {T4:Sort _} {p0 p1 p2 p3:T0->T1->T2->T3->T4->Prop} {G:Prop} (h:∃ x0 x1 x2 x3 x4,p0 x0 x1 x2 x3 x4∧p1 x0 x1 x2 x3 x4∧p2 x0 x1 x2 x3 x4∧p3 x0 x1 x2 x3 x4) (k:∀ x0 x1 x2 x3 x4,p0 x0 x1 x2 x3 x4->p1 x0 x1 x2 x3 x4->p2 x0 x1 x2 x3 x4->p3 x0 x1 x2 x3 x4->G):G:=h.elim λ x0 h=>h.elim λ x1 h=>dq h (k x0 x1)
theorem iM {T0:Sort _} {T1:Sort _} {T2:Sort _} {T3:Sort _} {T4:Sort _} {T5:Sort _} {p0 p1 p2 p3 p4:T0->T1->T2->T3->T4->T5->Prop} {G:Prop} (h:∃ x0 x1 x2 x3 x4 x5,p0 x0 x1 x2 x3 x4 x5∧p1 x0 x1 x2 x3 x4 x5∧p2 x0 x1 x2 x3 x4 x5∧p3 x0 x1 x2 x3 x4 x5∧p4 x0 x1 x2 x3 x4 x5) (k:∀ x0 x1 x2 x3 x4 x5,p0 x0 x1 x2 x3 x4 x5->p1 x0 x1 x2 x3 x4 x5->p2 x0 x1 x2 x3 x4 x5->p3 x0 x1 x2 x3 x4 x5->p4 x0 x1 x2 x3 x4 x5->G):G:=h.elim λ x0 h=>h.elim λ x1 h=>cx h (k x0 x1)
theorem n8 {T0:Sort _} {T1:Sort _} {T2:Sort _} {T3:Sort _} {T4:Sort _} {T5:Sort _} {T6:Sort _} {T7:Sort _} {p0 p1 p2 p3 p4:T0->T1->T2->T3->T4->T5->T6->T7->Prop} {G:Prop} (h:∃ x0 x1 x2 x3 x4 x5 x6 x7,p0 x0 x1 x2 x3 x4 x5 x6 x7∧p1 x0 x1 x2 x3 x4 x5 x6 x7∧p2 x0 x1 x2 x3 x4 x5 x6 x7∧p3 x0 x1 x2 x3 x4 x5 x6 x7∧p4 x0 x1 x2 x3 x4 x5 x6 x7) (k:∀ x0 x1 x2 x3 x4 x5 x6 x7,p0 x0 x1 x2 x3 x4 x5 x6 x7->p1 x0 x1 x2 x3 x4 x5 x6 x7->p2 x0 x1 x2 x3 x4 x5 x6 x7->p3 x0 x1 x2 x3 x4 x5 x6 x7->p4 x0 x1 x2 x3 x4 x5 x6 x7->G):G:=h.elim λ x0 h=>h.elim λ x1 h=>iM h (k x0 x1)
theorem aJ  {p0 p1:Prop}  (h0:p0) (h1:p1):p0∧p1:=⟨h0,h1⟩
theorem c5 {T0:Sort _} {p0:T0->Prop} (x0:T0) (h0:p0 x0):∃ x0,p0 x0:=⟨x0,h0⟩
theorem aQ  {p0 p1 p2:Prop}  (h0:p0) (h1:p1) (h2:p2):p0∧p1∧p2:=⟨h0,h1,h2⟩
theorem ad {T0:Sort _} {p0 p1:T0->Prop} (x0:T0) (h0:p0 x0) (h1:p1 x0):∃ x0,p0 x0∧p1 x0:=⟨x0,h0,h1⟩
theorem c8 {T0:Sort _} {T1:Sort _} {p0:T0->T1->Prop} (x0:T0) (x1:T1) (h0:p0 x0 x1):∃ x0 x1,p0 x0 x1:=⟨x0,c5 x1 h0⟩
theorem bl {T0:Sort _} {p0 p1 p2:T0->Prop} (x0:T0) (h0:p0 x0) (h1:p1 x0) (h2:p2 x0):∃ x0,p0 x0∧p1 x0∧p2 x0:=⟨x0,h0,h1,h2⟩
theorem br {T0:Sort _} {T1:Sort _} {p0 p1:T0->T1->Prop} (x0:T0) (x1:T1) (h0:p0 x0 x1) (h1:p1 x0 x1):∃ x0 x1,p0 x0 x1∧p1 x0 x1:=⟨x0,ad x1 h0 h1⟩
theorem bk {T0:Sort _} {T1:Sort _} {T2:Sort _} {p0:T0->T1->T2->Prop} (x0:T0) (x1:T1) (x2:T2) (h0:p0 x0 x1 x2):∃ x0 x1 x2,p0 x0 x1 x2:=⟨x0,c8 x1 x2 h0⟩
theorem gu  {p0 p1 p2 p3 p4:Prop}  (h0:p0) (h1:p1) (h2:p2) (h3:p3) (h4:p4):p0∧p1∧p2∧p3∧p4:=⟨h0,h1,h2,h3,h4⟩
theorem dT {T0:Sort _} {p0 p1 p2 p3:T0->Prop} (x0:T0) (h0:p0 x0) (h1:p1 x0) (h2:p2 x0) (h3:p3 x0):∃ x0,p0 x0∧p1 x0∧p2 x0∧p3 x0:=⟨x0,h0,h1,h2,h3⟩
theorem bc {T0:Sort _} {T1:Sort _} {p0 p1 p2:T0->T1->Prop} (x0:T0) (x1:T1) (h0:p0 x0 x1) (h1:p1 x0 x1) (h2:p2 x0 x1):∃ x0 x1,p0 x0 x1∧p1 x0 x1∧p2 x0 x1:=⟨x0,bl x1 h0 h1 h2⟩
theorem cc {T0:Sort _} {T1:Sort _} {T2:Sort _} {p0 p1:T0->T1->T2->Prop} (x0:T0) (x1:T1) (x2:T2) (h0:p0 x0 x1 x2) (h1:p1 x0 x1 x2):∃ x0 x1 x2,p0 x0 x1 x2∧p1 x0 x1 x2:=⟨x0,br x1 x2 h0 h1⟩
theorem dK {T0:Sort _} {T1:Sort _} {p0 p1 p2 p3:T0->T1->Prop} (x0:T0) (x1:T1) (h0:p0 x0 x1) (h1:p1 x0 x1) (h2:p2 x0 x1) (h3:p3 x0 x1):∃ x0 x1,p0 x0 x1∧p1 x0 x1∧p2 x0 x1∧p3 x0 x1:=⟨x0,dT x1 h0 h1 h2 h3⟩
theorem dO {T0:Sort _} {T1:Sort _} {T2:Sort _} {T3:Sort _} {p0 p1:T0->T1->T2->T3->Prop} (x0:T0) (x1:T1) (x2:T2) (x3:T3) (h0:p0 x0 x1 x2 x3) (h1:p1 x0 x1 x2 x3):∃ x0 x1 x2 x3,p0 x0 x1 x2 x3∧p1 x0 x1 x2 x3:=⟨x0,cc x1 x2 x3 h0 h1⟩
theorem dW {T0:Sort _} {T1:Sort _} {T2:Sort _} {p0 p1 p2 p3:T0->T1->T2->Prop} (x0:T0) (x1:T1) (x2:T2) (h0:p0 x0 x1 x2) (h1:p1 x0 x1 x2) (h2:p2 x0 x1 x2) (h3:p3 x0 x1 x2):∃ x0 x1 x2,p0 x0 x1 x2∧p1 x0 x1 x2∧p2 x0 x1 x2∧p3 x0 x1 x2:=⟨x0,dK x1 x2 h0 h1 h2 h3⟩
theorem eE {T0:Sort _} {T1:Sort _} {T2:Sort _} {p0 p1 p2 p3 p4:T0->T1->T2->Prop} (x0:T0) (x1:T1) (x2:T2) (h0:p0 x0 x1 x2) (h1:p1 x0 x1 x2) (h2:p2 x0 x1 x2) (h3:p3 x0 x1 x2) (h4:p4 x0 x1 x2):∃ x0 x1 x2,p0 x0 x1 x2∧p1 x0 x1 x2∧p2 x0 x1 x2∧p3 x0 x1 x2∧p4 x0 x1 x2:=⟨x0,x1,x2,h0,h1,h2,h3,h4⟩
theorem eN {T0:Sort _} {T1:Sort _} {T2:Sort _} {p0 p1 p2 p3 p4 p5:T0->T1->T2->Prop} (x0:T0) (x1:T1) (x2:T2) (h0:p0 x0 x1 x2) (h1:p1 x0 x1 x2) (h2:p2 x0 x1 x2) (h3:p3 x0 x1 x2) (h4:p4 x0 x1 x2) (h5:p5 x0 x1 x2):∃ x0 x1 x2,p0 x0 x1 x2∧p1 x0 x1 x2∧p2 x0 x1 x2∧p3 x0 x1 x2∧p4 x0 x1 x2∧p5 x0 x1 x2:=⟨x0,x1,x2,h0,h1,h2,h3,h4,h5⟩
theorem fw {T0:Sort _} {T1:Sort _} {T2:Sort _} {T3:Sort _} {p0 p1 p2 p3 p4:T0->T1->T2->T3->Prop} (x0:T0) (x1:T1) (x2:T2) (x3:T3) (h0:p0 x0 x1 x2 x3) (h1:p1 x0 x1 x2 x3) (h2:p2 x0 x1 x2 x3) (h3:p3 x0 x1 x2 x3) (h4:p4 x0 x1 x2 x3):∃ x0 x1 x2 x3,p0 x0 x1 x2 x3∧p1 x0 x1 x2 x3∧p2 x0 x1 x2 x3∧p3 x0 x1 x2 x3∧p4 x0 x1 x2 x3:=⟨x0,eE x1 x2 x3 h0 h1 h2 h3 h4⟩
theorem gA {T0:Sort _} {T1:Sort _} {T2:Sort _} {T3:Sort _} {T4:Sort _} {p0 p1 p2 p3:T0->T1->T2->T3->T4->Prop} (x0:T0) (x1:T1) (x2:T2) (x3:T3) (x4:T4) (h0:p0 x0 x1 x2 x3 x4) (h1:p1 x0 x1 x2 x3 x4) (h2:p2 x0 x1 x2 x3 x4) (h3:p3 x0 x1 x2 x3 x4):∃ x0 x1 x2 x3 x4,p0 x0 x1 x2 x3 x4∧p1 x0 x1 x2 x3 x4∧p2 x0 x1 x2 x3 x4∧p3 x0 x1 x2 x3 x4:=⟨x0,x1,dW x2 x3 x4 h0 h1 h2 h3⟩
theorem jJ {T0:Sort _} {T1:Sort _} {T2:Sort _} {T3:Sort _} {p0 p1 p2 p3 p4 p5:T0->T1->T2->T3->Prop} (x0:T0) (x1:T1) (x2:T2) (x3:T3) (h0:p0 x0 x1 x2 x3) (h1:p1 x0 x1 x2 x3) (h2:p2 x0 x1 x2 x3) (h3:p3 x0 x1 x2 x3) (h4:p4 x0 x1 x2 x3) (h5:p5 x0 x1 x2 x3):∃ x0 x1 x2 x3,p0 x0 x1 x2 x3∧p1 x0 x1 x2 x3∧p2 x0 x1 x2 x3∧p3 x0 x1 x2 x3∧p4 x0 x1 x2 x3∧p5 x0 x1 x2 x3:=⟨x0,eN x1 x2 x3 h0 h1 h2 h3 h4 h5⟩
theorem lJ {T0:Sort _} {T1:Sort _} {T2:Sort _} {T3:Sort _} {T4:Sort _} {T5:Sort _} {p0 p1 p2 p3 p4:T0->T1->T2->T3->T4->T5->Prop} (x0:T0) (x1:T1) (x2:T2) (x3:T3) (x4:T4) (x5:T5) (h0:p0 x0 x1 x2 x3 x4 x5) (h1:p1 x0 x1 x2 x3 x4 x5) (h2:p2 x0 x1 x2 x3 x4 x5) (h3:p3 x0 x1 x2 x3 x4 x5) (h4:p4 x0 x1 x2 x3 x4 x5):∃ x0 x1 x2 x3 x4 x5,p0 x0 x1 x2 x3 x4 x5∧p1 x0 x1 x2 x3 x4 x5∧p2 x0 x1 x2 x3 x4 x5∧p3 x0 x1 x2 x3 x4 x5∧p4 x0 x1 x2 x3 x4 x5:=⟨x0,x1,fw x2 x3 x4 x5 h0 h1 h2 h3 h4⟩
theorem lh {T0:Sort _} {T1:Sort _} {T2:Sort _} {T3:Sort _} {T4:Sort _} {T5:Sort _} {T6:Sort _} {p0 p1 p2 p3:T0->T1->T2->T3->T4->T5->T6->Prop} (x0:T0) (x1:T1) (x2:T2) (x3:T3) (x4:T4) (x5:T5) (x6:T6) (h0:p0 x0 x1 x2 x3 x4 x5 x6) (h1:p1 x0 x1 x2 x3 x4 x5 x6) (h2:p2 x0 x1 x2 x3 x4 x5 x6) (h3:p3 x0 x1 x2 x3 x4 x5 x6):∃ x0 x1 x2 x3 x4 x5 x6,p0 x0 x1 x2 x3 x4 x5 x6∧p1 x0 x1 x2 x3 x4 x5 x6∧p2 x0 x1 x2 x3 x4 x5 x6∧p3 x0 x1 x2 x3 x4 x5 x6:=⟨x0,x1,gA x2 x3 x4 x5 x6 h0 h1 h2 h3⟩
theorem jK {T0:Sort _} {T1:Sort _} {T2:Sort _} {T3:Sort _} {T4:Sort _} {T5:Sort _} {T6:Sort _} {p0 p1 p2 p3 p4 p5:T0->T1->T2->T3->T4->T5->T6->Prop} (x0:T0) (x1:T1) (x2:T2) (x3:T3) (x4:T4) (x5:T5) (x6:T6) (h0:p0 x0 x1 x2 x3 x4 x5 x6) (h1:p1 x0 x1 x2 x3 x4 x5 x6) (h2:p2 x0 x1 x2 x3 x4 x5 x6) (h3:p3 x0 x1 x2 x3 x4 x5 x6) (h4:p4 x0 x1 x2 x3 x4 x5 x6) (h5:p5 x0 x1 x2 x3 x4 x5 x6):∃ x0 x1 x2 x3 x4 x5 x6,p0 x0 x1 x2 x3 x4 x5 x6∧p1 x0 x1 x2 x3 x4 x5 x6∧p2 x0 x1 x2 x3 x4 x5 x6∧p3 x0 x1 x2 x3 x4 x5 x6∧p4 x0 x1 x2 x3 x4 x5 x6∧p5 x0 x1 x2 x3 x4 x5 x6:=⟨x0,x1,x2,jJ x3 x4 x5 x6 h0 h1 h2 h3 h4 h5⟩
theorem ip {T0:Sort _} {T1:Sort _} {T2:Sort _} {T3:Sort _} {T4:Sort _} {T5:Sort _} {T6:Sort _} {T7:Sort _} {p0 p1 p2 p3 p4:T0->T1->T2->T3->T4->T5->T6->T7->Prop} (x0:T0) (x1:T1) (x2:T2) (x3:T3) (x4:T4) (x5:T5) (x6:T6) (x7:T7) (h0:p0 x0 x1 x2 x3 x4 x5 x6 x7) (h1:p1 x0 x1 x2 x3 x4 x5 x6 x7) (h2:p2 x0 x1 x2 x3 x4 x5 x6 x7) (h3:p3 x0 x1 x2 x3 x4 x5 x6 x7) (h4:p4 x0 x1 x2 x3 x4 x5 x6 x7):∃ x0 x1 x2 x3 x4 x5 x6 x7,p0 x0 x1 x2 x3 x4 x5 x6 x7∧p1 x0 x1 x2 x3 x4 x5 x6 x7∧p2 x0 x1 x2 x3 x4 x5 x6 x7∧p3 x0 x1 x2 x3 x4 x5 x6 x7∧p4 x0 x1 x2 x3 x4 x5 x6 x7:=⟨x0,x1,lJ x2 x3 x4 x5 x6 x7 h0 h1 h2 h3 h4⟩
noncomputable def prog:PySem.Program:=PySem.Challenge.pw_bf0026_01
theorem A1 {k j n:Nat} (h:k + (j + 1) = n):k + 1 + j = n:=(Nat.succ_add k j).trans h
theorem A2 {k j n:Nat} (h:k + (j + 1) = n):k < n:=h▸Nat.lt_add_of_pos_right (Nat.succ_pos j)
theorem A3 {n:Nat}:((n:Int) - 0).toNat = n:=by simp
theorem A7 {n:Nat}:(0:Int)≤n:=Int.natCast_nonneg n
theorem A4 {n m:Nat} (h:n≤6) (q:6≤m:=by decide):n≤m:=Nat.le_trans h q
theorem A5 {n m:Nat} (h:n≤100) (q:100≤m:=by decide):n≤m:=Nat.le_trans h q
theorem A6 {n m:Nat} (h:n≤1000) (q:1000≤m:=by decide):n≤m:=Nat.le_trans h q
theorem A8 {n a b m:Nat} (h:n = a) (h1:a≤b) (q:b≤m:=by decide):n≤m:=h▸Nat.le_trans h1 q
theorem A9 {n a b c m:Nat} (h:n = a) (h1:a = b) (h2:b≤c) (q:c≤m:=by decide):n≤m:=h▸h1▸Nat.le_trans h2 q
theorem B1 {i j n m:Nat} (h:i < j∧j < n) (h2:m = n):i < m:=h2▸Nat.lt_trans h.1 h.2
theorem B2 {i j n m:Nat} (h:i < j∧j < n) (h2:m = n):j < m:=h2▸h.2
theorem B3 {i j n m:Nat} (h:i < j) (h1:j < n) (h2:m = n):i < m:=h2▸Nat.lt_trans h h1
theorem B4 {j n m:Nat} (h:j < n) (h2:m = n):j < m:=h2▸h
theorem B5 {i j n:Nat} (h:i < j) (h1:j < n):i < n:=Nat.lt_trans h h1
theorem B6 {i j n m:Nat} (h:i < j∧j < n) (h2:n = m):i < m:=h2▸Nat.lt_trans h.1 h.2
theorem C1 {k n b:Nat} (h:k < n) (h1:n≤b) (q:(b:Int) < 2 ^ 63:=by decide):(k:Int) < 2 ^ 63:=Int.lt_trans (Int.ofNat_lt.mpr (Nat.lt_of_lt_of_le h h1)) q
theorem C2 {n b:Nat} (h1:n≤b) (q:(b:Int) < 2 ^ 63:=by decide):(n:Int) < 2 ^ 63:=Int.lt_of_le_of_lt (Int.ofNat_le.mpr h1) q
theorem C3 {n b:Nat} {c:Int} (h1:n≤b) (q:(b:Int)≤c:=by decide):(n:Int)≤c:=Int.le_trans (Int.ofNat_le.mpr h1) q
theorem C4 {k n m b:Nat} (h:k < n) (h0:n < m) (h1:m≤b) (q:(b:Int) < 2 ^ 63:=by decide):(k:Int) < 2 ^ 63:=C1 (Nat.lt_trans h h0) h1 q
theorem E1 {a b n:Nat} (h:a + (b + 1)≤n):a + 1 + b≤n:=(Nat.succ_add a b).symm▸h
theorem E2 {a b n:Nat} (h:a + (b + 1)≤n):a + b≤n:=Nat.le_of_succ_le h
theorem E3 {a b n:Nat} (h:a + b≤n):a≤n:=Nat.le_trans (Nat.le_add_right a b) h
theorem E4 {n m:Nat} (h:n + 1≤m):n≤m:=Nat.le_of_succ_le h
theorem E5 {k n:Nat} (h:k < n):k + 1≤n:=h
theorem E6 {k n b:Nat} (h:k < n) (h1:n≤b):k < b:=Nat.lt_of_lt_of_le h h1
theorem E7 {k n m b:Nat} (h:k < n) (h0:n < m) (h1:m≤b):k < b:=Nat.lt_of_lt_of_le (Nat.lt_trans h h0) h1
theorem E8 {v k:Nat} (h:v < k):v < k + 1:=Nat.lt_succ_of_lt h
theorem E9 {n:Nat} (h:¬n = 0):1≤n:=Nat.pos_of_ne_zero h
theorem lt6:∀ k,k < 6->(k = 0∨k = 1∨k = 2∨k = 3∨k = 4∨k = 5):=by decide
theorem an2 {a b:Bool} {G:Prop} (h:(a && b) = true) (F:a = true->b = true->G):G:=F (Bool.and_eq_true_iff.mp h).1 (Bool.and_eq_true_iff.mp h).2
theorem an3 {x0 x1 x2:Bool} {G:Prop} (h:(x0 && x1 && x2) = true) (F:x0 = true->x1 = true->x2 = true->G):G:=an2 h λ h q=>an2 h λ x0 x1=>F x0 x1 q
theorem an4 {x0 x1 x2 x3:Bool} {G:Prop} (h:(x0 && x1 && x2 && x3) = true) (F:x0 = true->x1 = true->x2 = true->x3 = true->G):G:=an2 h λ h q=>an3 h λ x0 x1 x2=>F x0 x1 x2 q
theorem an5 {x0 x1 x2 x3 x4:Bool} {G:Prop} (h:(x0 && x1 && x2 && x3 && x4) = true) (F:x0 = true->x1 = true->x2 = true->x3 = true->x4 = true->G):G:=an2 h λ h q=>an4 h λ x0 x1 x2 x3=>F x0 x1 x2 x3 q
theorem an6 {x0 x1 x2 x3 x4 x5:Bool} {G:Prop} (h:(x0 && x1 && x2 && x3 && x4 && x5) = true) (F:x0 = true->x1 = true->x2 = true->x3 = true->x4 = true->x5 = true->G):G:=an2 h λ h q=>an5 h λ x0 x1 x2 x3 x4=>F x0 x1 x2 x3 x4 q
theorem an7 {x0 x1 x2 x3 x4 x5 x6:Bool} {G:Prop} (h:(x0 && x1 && x2 && x3 && x4 && x5 && x6) = true) (F:x0 = true->x1 = true->x2 = true->x3 = true->x4 = true->x5 = true->x6 = true->G):G:=an2 h λ h q=>an6 h λ x0 x1 x2 x3 x4 x5=>F x0 x1 x2 x3 x4 x5 q
theorem an8 {x0 x1 x2 x3 x4 x5 x6 x7:Bool} {G:Prop} (h:(x0 && x1 && x2 && x3 && x4 && x5 && x6 && x7) = true) (F:x0 = true->x1 = true->x2 = true->x3 = true->x4 = true->x5 = true->x6 = true->x7 = true->G):G:=an2 h λ h q=>an7 h λ x0 x1 x2 x3 x4 x5 x6=>F x0 x1 x2 x3 x4 x5 x6 q
theorem an9 {x0 x1 x2 x3 x4 x5 x6 x7 x8:Bool} {G:Prop} (h:(x0 && x1 && x2 && x3 && x4 && x5 && x6 && x7 && x8) = true) (F:x0 = true->x1 = true->x2 = true->x3 = true->x4 = true->x5 = true->x6 = true->x7 = true->x8 = true->G):G:=an2 h λ h q=>an8 h λ x0 x1 x2 x3 x4 x5 x6 x7=>F x0 x1 x2 x3 x4 x5 x6 x7 q
theorem sk {x0 x1 x2 x3 x4 x5 x6 x7 x8 x9:Bool} {G:Prop} (h:(x0 && x1 && x2 && x3 && x4 && x5 && x6 && x7 && x8 && x9) = true) (F:x0 = true->x1 = true->x2 = true->x3 = true->x4 = true->x5 = true->x6 = true->x7 = true->x8 = true->x9 = true->G):G:=an2 h λ h q=>an9 h λ x0 x1 x2 x3 x4 x5 x6 x7 x8=>F x0 x1 x2 x3 x4 x5 x6 x7 x8 q
theorem mT {x0 x1 x2 x3 x4 x5 x6 x7 x8 x9 x10:Bool} {G:Prop} (h:(x0 && x1 && x2 && x3 && x4 && x5 && x6 && x7 && x8 && x9 && x10) = true) (F:x0 = true->x1 = true->x2 = true->x3 = true->x4 = true->x5 = true->x6 = true->x7 = true->x8 = true->x9 = true->x10 = true->G):G:=an2 h λ h q=>sk h λ x0 x1 x2 x3 x4 x5 x6 x7 x8 x9=>F x0 x1 x2 x3 x4 x5 x6 x7 x8 x9 q
theorem rU {x0 x1 x2 x3 x4 x5 x6 x7 x8 x9 x10 x11:Bool} {G:Prop} (h:(x0 && x1 && x2 && x3 && x4 && x5 && x6 && x7 && x8 && x9 && x10 && x11) = true) (F:x0 = true->x1 = true->x2 = true->x3 = true->x4 = true->x5 = true->x6 = true->x7 = true->x8 = true->x9 = true->x10 = true->x11 = true->G):G:=an2 h λ h q=>mT h λ x0 x1 x2 x3 x4 x5 x6 x7 x8 x9 x10=>F x0 x1 x2 x3 x4 x5 x6 x7 x8 x9 x10 q
noncomputable def pmG {α:Type}:List (List α)->Nat->List α
 | [],_=>[]
 | l :: _,0=>l
 | _ :: ls,i + 1=>pmG ls i
noncomputable def pmE {α:Type} (l y:List α):List α:=match l with
 | a :: _=>a :: y
 | []=>y
noncomputable def pmA {α:Type} (ls:List (List α)) (t:Nat) (s:List (List α)):List (List α) :=
 match t with
 | 0=>[] :: s
 | 1=>match s with
  | x :: y :: s=>(x++y) :: s
  | s=>s
 | t + 2=>match t % 3 with
  | 0=>match s with
   | y :: s=>pmE (pmG ls (t / 3)) y :: s
   | []=>[pmE (pmG ls (t / 3)) []]
  | 1=>match s with
   | y :: s=>(pmG ls (t / 3)++y) :: s
   | []=>[pmG ls (t / 3)]
  | _=>pmG ls (t / 3) :: s
noncomputable def pmD {α:Type} (ls:List (List α)):List Nat->List (List α)
 | []=>[]
 | t :: ts=>pmA ls t (pmD ls ts)
noncomputable def pmO {α:Type}:List (List α)->List α
 | [x]=>x
 | s=>s.flatten
noncomputable def pmV {α:Type} (ls:List (List α)):Nat->List α
 | 0=>[]
 | 1=>[]
 | t + 2=>match t % 3 with
  | 0=>pmE (pmG ls (t / 3)) []
  | _=>pmG ls (t / 3)
theorem rn {α:Type} (l y:List α):pmE l y = pmE l []++y:=by cases l <;> rfl
theorem oU {α:Type} (s:List (List α)):pmO s = s.flatten:=by
 unfold pmO;split <;> simp
theorem re {α:Type} (ls:List (List α)) (t:Nat) (s:List (List α)):(pmA ls t s).flatten = pmV ls t++s.flatten:=by
 unfold pmA pmV
 split
 ·rfl
 ·split <;> simp
 ·rename_i t
  generalize pmG ls (t / 3) = l
  generalize t % 3 = r
  split
  ·split
   ·rw [List.flatten_cons,rn,List.flatten_cons,List.append_assoc];rfl
   ·simp
  ·split <;> simp
  ·split
   ·simp_all
   ·simp
theorem nr {α:Type} (ls:List (List α)):∀ ts,(pmD ls ts).flatten = ts.flatMap (pmV ls)
 | []=>rfl
 | t :: ts=>by rw [pmD,re,nr ls ts,List.flatMap_cons]
noncomputable def pmN (t:Nat):Nat:=match t with | 0=>0 | 1=>0 | t + 2=>match t % 3 with | 2=>t + 1 | _=>t + 2
theorem rv {α:Type} (ls:List (List α)) (k:Nat):pmV ls (3 * k + 2 + 2) = pmV ls (3 * k + 1 + 2):=by
 have h1:(3 * k + 2) % 3 = 2:=by omega
 have h2:(3 * k + 1) % 3 = 1:=by omega
 have h3:(3 * k + 2) / 3 = k:=by omega
 have h4:(3 * k + 1) / 3 = k:=by omega
 show (match (3 * k + 2) % 3 with | 0=>pmE (pmG ls ((3 * k + 2) / 3)) [] | _=>pmG ls ((3 * k + 2) / 3)) = (match (3 * k + 1) % 3 with | 0=>pmE (pmG ls ((3 * k + 1) / 3)) [] | _=>pmG ls ((3 * k + 1) / 3))
 rw [h1,h2,h3,h4];rfl
theorem qC {α:Type} (ls:List (List α)):∀ t:Nat,pmV ls t = pmV ls (pmN t)
 | 0=>rfl
 | 1=>rfl
 | t + 2=>by
  show _ = pmV ls (match t % 3 with | 2=>t + 1 | _=>t + 2)
  split
  ·next h=>
   have e:t = 3 * (t / 3) + 2:=by omega
   rw [e];exact rv ls (t / 3)
  ·rfl
theorem pN {α:Type} (ls:List (List α)):∀ ts:List Nat,ts.flatMap (pmV ls) = ((ts.map pmN).filter (· != 0)).flatMap (pmV ls)
 | []=>rfl
 | t :: ts=>by
  rw [List.flatMap_cons,pN ls ts,qC,List.map_cons]
  cases h:pmN t with
  | zero=>rfl
  | succ n=>rfl
theorem pm {α:Type} (ls:List (List α)) (x y:List Nat) (h:((x.map pmN).filter (· != 0)).isPerm ((y.map pmN).filter (· != 0)) = true) :
  (pmO (pmD ls x)).Perm (pmO (pmD ls y)):=by
 rw [oU,oU,nr,nr,pN ls x,pN ls y]
 exact List.Perm.flatMap_right _ (List.isPerm_iff.mp h)
set_option maxRecDepth 100000
set_option maxHeartbeats 0
section
open PySem PySem.W PySem.Calls PyProof.Rows
namespace Z0
abbrev pw:=PySem.Challenge.pw_bf0026_01
noncomputable abbrev s (a:String):Str:=Str.ofString a
noncomputable abbrev v (a:String) (t:Nat):Value:=.str (Str.ofString a) t
noncomputable abbrev r (a:Nat):Value:=.ref a
noncomputable abbrev n (a:Int):Value:=.int a 0
noncomputable abbrev E (P:Params) (a:String) (t:Nat) (x:Value):DictEntry:=⟨PyData.keyHash P (Str.ofString a),.str (Str.ofString a) t,x⟩
noncomputable def nth:List Stmt->Nat->Stmt
 | a :: _,0=>a
 | _ :: l,k+1=>nth l k
 | [],_=>.Pass ⟨0,0,0,0⟩
noncomputable def fA:Stmt->Arguments
 | .FunctionDef _ a ..=>a
 | _=>⟨[],[],none,[],[],none,[]⟩
noncomputable def fB:Stmt->FuncBody
 | .FunctionDef _ _ b ..=>.stmts b
 | _=>.stmts []
noncomputable def fC:Stmt->Scope
 | .FunctionDef _ _ _ _ _ _ c ..=>c
 | _=>⟨.module,[],false,false,[]⟩
noncomputable def cb:Stmt->List Stmt
 | .ClassDef _ _ _ b ..=>b
 | _=>[]
noncomputable def top (i:Nat):Stmt:=nth pw.main.body i
noncomputable def mem (i j:Nat):Stmt:=nth (cb (top i)) j
noncomputable abbrev mA (i:Nat):=fA (top i)
noncomputable abbrev mB (i:Nat):=fB (top i)
noncomputable abbrev mC (i:Nat):=fC (top i)
noncomputable abbrev mA2 (i j:Nat):=fA (mem i j)
noncomputable abbrev mB2 (i j:Nat):=fB (mem i j)
noncomputable abbrev mC2 (i j:Nat):=fC (mem i j)
noncomputable abbrev t0 (a:String):Obj:=Obj.mk (.type a) none (.seq (.mk []) 0) (.mk [])
noncomputable abbrev tu:Obj:=t0 "tuple"
noncomputable abbrev t1:Obj:=Obj.mk .none none (.fields (.mk [])) (.mk [])
noncomputable abbrev t2 (a b:String) (c:Arguments) (d:FuncBody) (e:Scope):Obj:=Obj.mk .none none (.func (FuncData.mk (s a) (s b) c d e 0 [] .none .none .none .none none .none .none 0)) (.mk [])
noncomputable abbrev t3 (a:String) (b:Nat) (c:String) (d e f g h i:Nat):Obj:=Obj.mk (.type "code") none (.fields (.mk [v a b,v c (b+1),v "/claim/cut.py" (b+2),n d,n e,n 0,n f,n g,r h,.bool true,n 181,r (h+1),.none,r (h+2),r (h+3),r (h+4),n i,n d,v "/claim/cut.py" (i+1)])) (.mk [])
noncomputable abbrev t4 (a b:String) (c:Arguments) (d:FuncBody) (e:Scope) (f:String) (g h:Nat):Obj:=Obj.mk (.type "function") none (.func (FuncData.mk (s a) (s b) c d e 3 [] .none .none .none (v f g) none (r h) .none 0)) (.mk [])
noncomputable abbrev t5 (a b:String) (c d:Nat):Obj:=Obj.mk (.type a) none (.seq (.mk [v b c]) d) (.mk [])
noncomputable abbrev t6 (a:String) (b c d e:Nat):Obj:=Obj.mk (.type "code") none (.fields (.mk [v a b,v a (b+1),v "/claim/cut.py" (b+2),n c,n 0,n 0,n 0,n 0,r d,.bool false,n e,r (d+1),.none,.none,.none,.none,n (b+3),n c,v "/claim/cut.py" (b+4)])) (.mk [])
noncomputable abbrev t7 (a b:Nat) (c:String) (d:Nat):Obj:=Obj.mk (.type "frame") none .plain (.mk [some (r a),some (r 3),some (r b),none,some (v c d),none,some (r 0)])
noncomputable abbrev t8 (a:String) (b:Nat) (c:String):Obj:=Obj.mk (.type "tuple") none (.seq (.mk [v a b,v c (b+1)]) 0) (.mk [])
noncomputable abbrev t9 (a b:String) (c:Nat) (d e:String) (f:Nat):Obj:=Obj.mk (.type a) none (.seq (.mk [v b c,v d (c+1),v e (c+2)]) f) (.mk [])
noncomputable abbrev t10:Obj:=Obj.mk (.type "builtin_function_or_method") none (.fields (.mk [.builtin "type.__prepare__",.type "type"])) (.mk [])
noncomputable abbrev t11 (a:Nat):Obj:=Obj.mk (.type "super") none (.fields (.mk [r a,r a,r a])) (.mk [])
noncomputable abbrev t12 (a:Nat):Obj:=Obj.mk (.type "builtin_function_or_method") none (.fields (.mk [.builtin "object.__init_subclass__",r a])) (.mk [])
noncomputable abbrev t13 (a:String) (b:Nat) (c d e:String):Obj:=Obj.mk (.type "tuple") none (.seq (.mk [v a b,v c (b+1),v d (b+2),v e (b+3)]) 0) (.mk [])
noncomputable abbrev t14 (a b:String) (c:Arguments) (d:FuncBody) (e:Scope) (f:Nat) (g:String) (h i:Nat):Obj:=Obj.mk (.type "function") none (.func (FuncData.mk (s a) (s b) c d e 3 [] (r f) .none .none (v g h) none (r i) .none 0)) (.mk [])
noncomputable abbrev t15 (P:Params) (a b:String) (c d:Nat) (e:String) (f:Nat):Obj:=Obj.mk (.type a) none (.dict (.mk [E P b c (r d),E P e (c+1) (r f)]) 2) (.mk [])
noncomputable abbrev t16 (a:String) (b c d:Nat):Obj:=Obj.mk (.type "member_descriptor") none (.fields (.mk [v a b,r c,.builtin "proto.slot",.builtin "proto.slot#set",n d])) (.mk [])
noncomputable abbrev t17 (P:Params) (a b:Nat) (c d:String) (e:Nat):Obj:=Obj.mk (.type "dict") none (.dict (.mk [E P "func" a (r b),E P "attrname" (a+2) (v c (a+9)),E P "__doc__" (a+5) .none,E P "__module__" (a+8) (v d e)]) 4) (.mk [])
noncomputable abbrev t18 (a:Nat):Obj:=Obj.mk (r 574) (some a) .plain (.mk [])
noncomputable abbrev t19 (P:Params) (a b c:Nat) (d:String) (e:Nat):Obj:=Obj.mk (.type "frame") none (.dict (.mk [E P "self" a (r b),E P "owner" (a+1) (r c),E P "name" (a+2) (v d e)]) 3) (.mk [])
noncomputable abbrev t20 (a:Nat):Obj:=Obj.mk (.type "tuple") none (.seq (.mk [r a]) 0) (.mk [])
noncomputable abbrev t21:Obj:=Obj.mk (.type "tuple") none (.seq (.mk [.none]) 0) (.mk [])
noncomputable abbrev t22 (a:String) (b:Nat) (c d e f:String):Obj:=Obj.mk (.type "tuple") none (.seq (.mk [v a b,v c (b+1),v d (b+2),v e (b+3),v f (b+4)]) 0) (.mk [])
noncomputable abbrev t23 (a b:String) (c:Nat) (d e f g h i:String) (j:Nat):Obj:=Obj.mk (.type a) none (.seq (.mk [v b c,v d (c+1),v e (c+2),v f (c+3),v g (c+4),v h (c+5),v i (c+6)]) j) (.mk [])
noncomputable abbrev t24 (P:Params) (a:Nat) (b:String) (c d:Nat):Obj:=Obj.mk (.type "dict") none (.dict (.mk [E P "__module__" a (v "networkx.exception" 194),E P "__qualname__" (a+2) (v b (a+1)),E P "__firstlineno__" (a+4) (.int c (a+3)),E P "__static_attributes__" (a+5) (r d)]) 4) (.mk [])
noncomputable abbrev t25 (a b:Nat):Obj:=Obj.mk (.type "getset_descriptor") none (.fields (.mk [v "__weakref__" a,r b,.builtin "ExceptionGroup.__weakref__",.none])) (.mk [])
noncomputable abbrev t26 (a:String) (b:Nat) (c:String) (d e f g h:Nat):Obj:=Obj.mk (.type "code") none (.fields (.mk [v a b,v c (b+1),v "/claim/cut.py" (b+2),n d,n e,n 0,n f,n g,r h,.bool true,n 181,r (h+1),.none,.none,.none,r (h+2),n (b+3),n d,v "/claim/cut.py" (b+4)])) (.mk [])
noncomputable abbrev t27 (P:Params) (a b c:Nat):Obj:=Obj.mk (.type "dict") none (.dict (.mk [E P "__module__" a (v "networkx.exception" 194),E P "__firstlineno__" (a+4) (.int b (a+3)),E P "__static_attributes__" (a+5) (r c),E P "__doc__" (a+6) .none]) 2) (.mk [])
noncomputable abbrev t28 (P:Params) (a:Nat) (b:String) (c:Nat) (d:String) (e f g:Nat) (h:String) (i j:Nat) (k:String) (l m:Nat) (o p:String) (q:Nat) (t:String) (u w x:Nat):Obj:=Obj.mk (.type "dict") none (.dict (.mk [E P "__module__" a (v b c),E P "__qualname__" (a+2) (v d (a+1)),E P "__firstlineno__" (a+4) (.int e (a+3)),E P "__slots__" f (r g),E P h i (r j),E P k l (r m),E P o (l+7) (r (m+7)),E P p q (r (m+14)),E P "__contains__" (a+44) (r (m+21)),E P t u (r w),E P "__static_attributes__" x (r (w+1))]) 11) (.mk [])
noncomputable abbrev t29 (a b c d e f g h:Nat):Obj:=Obj.mk .none none (.fields (.mk [n a,n 4,r b,n c,n 4,r (b+7),n (c+3),n 4,r d,n e,n 4,r (d+7),n f,n 4,r (d+14),n g,n 4,r h])) (.mk [])
noncomputable abbrev t30 (P:Params) (a:Nat) (b:String) (c d:Nat) (e:String) (f g:Nat) (h:String) (i j:Nat) (k:String) (l m:Nat) (o:String) (p:Nat) (q:String) (t:Nat) (u:String) (w:Nat) (x:String) (y z:Nat) (a22:String) (a23:Nat) (a24:String) (a25 a26:Nat):Obj:=Obj.mk (.type "dict") none (.dict (.mk [E P "__module__" a (v b c),E P "__firstlineno__" (a+4) (.int d (a+3)),E P e f (r g),E P h i (r j),E P k l (r m),E P o p (r (m+7)),E P q t (r (m+14)),E P u w (r (m+21)),E P x y (r z),E P a22 (y+2) (r a23),E P a24 (y+4) (r a25),E P "__doc__" (y+5) .none]) a26) (.mk [])
noncomputable abbrev t31 (P:Params) (a:Nat) (b:String) (c:Nat) (d:String) (e:Nat) (f:String) (g h:Nat) (i:String) (j:Nat):Obj:=Obj.mk (.type "dict") none (.dict (.mk [E P "__module__" a (v b c),E P "__qualname__" (a+2) (v d (a+1)),E P "__firstlineno__" (a+4) (.int e (a+3)),E P f g (r h),E P i j (r (h+7)),E P "__static_attributes__" (j+1) (r (h+8))]) 6) (.mk [])
noncomputable abbrev t32 (P:Params) (a:Nat) (b:String) (c d:Nat) (e:String) (f g:Nat) (h:String) (i:Nat):Obj:=Obj.mk (.type "dict") none (.dict (.mk [E P "__module__" a (v b c),E P "__firstlineno__" (a+4) (.int d (a+3)),E P e f (r g),E P h i (r (g+7)),E P "__static_attributes__" (i+1) (r (g+8)),E P "__doc__" (i+2) .none]) 2) (.mk [])
noncomputable abbrev t33:Obj:=Obj.mk (.type "tuple") none (.seq (.mk [.none,.none]) 0) (.mk [])
noncomputable abbrev t34 (a b:Nat):Obj:=Obj.mk (.type "getset_descriptor") none (.fields (.mk [v "__dict__" a,r b,.builtin "function.__dict__",.builtin "function.__dict__#set"])) (.mk [])
noncomputable abbrev t35 (a:String) (b c d e f:Nat):Obj:=Obj.mk (.type "type") none (.cls (ClassData.mk (s a) [r b] [r c,r b,.type "object"] d (s a) true [] [] false none false)) (.mk [some (r e),none,some (v a f),some (v a (f+8)),some (.builtin "object.__new__"),some (.bool true)])
noncomputable abbrev t36 (a:Nat):Obj:=Obj.mk (.type "module") (some a) .plain (.mk [])
noncomputable abbrev t37:Obj:=Obj.mk (.type "dict") none (.dict (.mk []) 0) (.mk [])
noncomputable abbrev t38 (a b c d e f g h i j k l m o p q t u w x y z a22 a23 a24 a25 a26 a27 a28 a29 a30 a31 a32 a33 a34 a35 a36 a37 a38 a39 a40 a41 a42 a43 a44:Nat):Obj:=Obj.mk .none none (.fields (.mk (n a::n b::r c::n d::n b::r (c+7)::n e::n b::r f::n g::n b::r h::n i::n b::r j::n (i+3)::n b::r k::n l::n b::r m::n o::n b::r (m+7)::n p::n b::r q::n t::n b::r (m+21)::n u::n b::r w::n x::n b::r y::n z::n b::r a22::n a23::n b::r (a22+7)::n a24::n b::r a25::n a26::n b::r (p+270)::n a27::n b::r a28::n a29::n b::r a30::n a31::n b::r a32::n a33::n b::r a34::n a35::n b::r a36::n a37::n b::r a38::n a39::n b::r a40::n a41::n b::r a42::n a43::n b::r a44::[]))) (.mk [])
noncomputable abbrev t39:Obj:=Obj.mk (.type "tuple") none (.seq (.mk [.bool false]) 0) (.mk [])
noncomputable abbrev t40 (a:String) (b:Nat) (c d e f g:String):Obj:=Obj.mk (.type "tuple") none (.seq (.mk [v a b,v c (b+1),v d (b+2),v e (b+3),v f (b+4),v g (b+5)]) 0) (.mk [])
noncomputable abbrev t41 (a b:Nat):Obj:=Obj.mk .none none (.fields (.mk [n a,n 4,r b,n (a+7),n 4,r (b+7)])) (.mk [])
noncomputable abbrev t42 (P:Params) (a:Nat) (b:String) (c d e:Nat) (f:String) (g h i j k l m:Nat):Obj:=Obj.mk (.type "dict") none (.dict (.mk [E P "__module__" a (v "networkx.classes.reportviews" 413),E P "__qualname__" (a+2) (v b (a+1)),E P "__firstlineno__" (a+4) (.int c (a+3)),E P "__slots__" d (r e),E P f g (r h),E P "__len__" i (r j),E P "__iter__" k (r (j+7)),E P "__contains__" l (r (j+14)),E P "__static_attributes__" m (r (j+15))]) 9) (.mk [])
noncomputable abbrev t43 (a b c d e f:Nat):Obj:=Obj.mk .none none (.fields (.mk [n a,n 4,r b,n c,n 4,r (b+7),n d,n 4,r e,n f,n 4,r (e+7)])) (.mk [])
noncomputable abbrev t44:Obj:=Obj.mk (.type "tuple") none (.seq (.mk [.none,.bool false]) 0) (.mk [])
noncomputable abbrev t45 (P:Params) (a:Nat):Obj:=Obj.mk (.type "dict") none (.dict (.mk [E P "default" a .none]) 1) (.mk [])
noncomputable abbrev t46 (a b:String) (c:Arguments) (d:FuncBody) (e:Scope) (f g:Nat):Obj:=Obj.mk (.type "function") none (.func (FuncData.mk (s a) (s b) c d e 3 [] (r f) (r (f+1)) .none (v "networkx.classes.reportviews" 413) none (r g) .none 0)) (.mk [])
noncomputable abbrev t47 (P:Params) (a:Nat) (b:String) (c:Nat) (d:String) (e:Nat) (f:String) (g h:Nat) (i:String) (j:Nat) (k:String) (l m:Nat) (o:String) (p:Nat):Obj:=Obj.mk (.type "dict") none (.dict (.mk [E P "__module__" a (v b c),E P "__qualname__" (a+2) (v d (a+1)),E P "__firstlineno__" (a+4) (.int e (a+3)),E P f g (r h),E P i j (r (h+7)),E P k l (r m),E P o (g+30) (r (m+7)),E P "__static_attributes__" p (r (m+8))]) 8) (.mk [])
noncomputable abbrev t48 (a b c:Nat):Obj:=Obj.mk .none none (.fields (.mk [n a,n 4,r b,n c,n 4,r (b+7),n (c+9),n 4,r (b+14)])) (.mk [])
noncomputable abbrev t49 (a:Nat):Obj:=Obj.mk (.type "tuple") none (.seq (.mk [v "self" a,v "ebunch_to_add" (a+1),v "attr" (a+2),v "e" (a+3),v "ne" (a+4),v "u" (a+5),v "v" (a+6),v "dd" (a+7),v "datadict" (a+8)]) 0) (.mk [])
noncomputable def g3 (P:Params) (k:Nat) (a:String) (t:Nat):Obj:=Obj.mk (.type "dict") none (.dict (.mk (E P "__name__" 165 (v a t)::List.take k ([E P "__doc__" 166 .none,E P "__package__" 167 .none,E P "__loader__" 168 (.builtin "__main__.__loader__#opaque"),E P "__spec__" 169 .none,E P "__annotations__" 170 (r 6),E P "__builtins__" 171 (r 4),E P "__file__" 173 (v "/claim/cut.py" 172),E P "__cached__" 174 .none,E P "_wall" 193 (r 21),E P "NetworkXException" 215 (r 31),E P "NetworkXError" 231 (r 44),E P "NetworkXAlgorithmError" 247 (r 56),E P "NetworkXUnfeasible" 263 (r 68),E P "pairwise" 275 (r 78),E P "topological_generations" 283 (r 83),E P "topological_sort" 291 (r 90),E P "dag_longest_path" 299 (r 96),E P "dag_longest_path_length" 318 (r 104),E P "AtlasView" 387 (r 158),E P "AdjacencyView" 412 (r 180),E P "_nbunch_iter" 424 (r 190),E P "NodeView" 492 (r 245),E P "DiDegreeView" 587 (r 305),E P "DegreeView" 624 (r 333),E P "InDegreeView" 661 (r 359),E P "OutEdgeDataView" 739 (r 401),E P "EdgeDataView" 786 (r 443),E P "OutEdgeView" 861 (r 494),E P "EdgeView" 908 (r 532),E P "_NOT_FOUND" 911 (r 535),E P "cached_property" 974 (r 574),E P "Graph" 1289 (r 782),E P "DiGraph" 1609 (r 951),E P "law" 1617 (r 966)]))) (k+1)) (.mk [])
noncomputable def g12 (k:Nat):Obj:=Obj.mk .none none (.fields (.mk (List.take k ((n 1::n 0::r 20::n 5::n 0::r 27::n 7::n 0::r 40::n 9::n 0::r 52::n 11::n 0::r 64::n 14::n 0::r 77::n 19::n 0::r 82::n 42::n 0::r 89::n 45::n 0::r 95::n 64::n 0::r 103::n 76::n 0::r 110::n 96::n 0::r 167::n 102::n 0::r 189::n 117::n 0::r 196::n 138::n 0::r 254::n 188::n 0::r 315::n 208::n 0::r 341::n 228::n 0::r 367::n 264::n 0::r 416::n 288::n 0::r 451::n 315::n 0::r 505::n 340::n 0::r 541::n 379::n 0::r 585::n 518::n 0::r 796::n 636::n 0::r 965::[]))))) (.mk [])
noncomputable def K (P:Params):Frag:=(2,Obj.mk .none none (.dict (.mk [E P "type.__subclasses__.Exception.0" 212 (n 31),E P "type.__subclasses__.Exception.n" 213 (n 1)]) 2) (.mk []))::
(3,g3 P 34 "law_bf0026_01" 1610)::
(15,tu)::
(17,t5 "tuple" "k" 190 0)::
(18,tu)::
(20,t3 "_wall" 187 "_wall" 1 1 0 3 15 191)::
(21,t4 "_wall" "_wall" (mA 0) (mB 0) (mC 0) "__main__" 164 20)::
(22,Obj.mk (.type "tuple") none (.seq (.mk [.type "Exception"]) 0) (.mk []))::
(29,tu)::
(30,Obj.mk (.type "dict") none (.dict (.mk [E P "__module__" 203 (v "networkx.exception" 194),E P "__firstlineno__" 207 (.int 5 206),E P "__static_attributes__" 208 (r 29),E P "__weakref__" 210 (r 32),E P "__doc__" 211 .none]) 3) (.mk []))::
(31,Obj.mk (.type "type") none (.cls (ClassData.mk (s "NetworkXException") [.type "Exception"] [r 31,.type "Exception",.type "BaseException",.type "object"] 30 (s "NetworkXException") true [] [r 44,r 56] false none false)) (.mk [some (r 22),none,some (v "NetworkXException" 196),some (v "NetworkXException" 204),some (.builtin "Exception.__new__"),some (.bool true)]))::
(32,t25 209 31)::
(35,t20 31)::
(42,tu)::
(43,t27 P 223 7 42)::
(44,Obj.mk (.type "type") none (.cls (ClassData.mk (s "NetworkXError") [r 31] [r 44,r 31,.type "Exception",.type "BaseException",.type "object"] 43 (s "NetworkXError") true [] [] false none false)) (.mk [some (r 35),none,some (v "NetworkXError" 216),some (v "NetworkXError" 224),some (.builtin "Exception.__new__"),some (.bool true)]))::
(47,t20 31)::
(54,tu)::
(55,t27 P 239 9 54)::
(56,Obj.mk (.type "type") none (.cls (ClassData.mk (s "NetworkXAlgorithmError") [r 31] [r 56,r 31,.type "Exception",.type "BaseException",.type "object"] 55 (s "NetworkXAlgorithmError") true [] [r 68] false none false)) (.mk [some (r 47),none,some (v "NetworkXAlgorithmError" 232),some (v "NetworkXAlgorithmError" 240),some (.builtin "Exception.__new__"),some (.bool true)]))::
(59,t20 56)::
(66,tu)::
(67,t27 P 255 11 66)::
(68,Obj.mk (.type "type") none (.cls (ClassData.mk (s "NetworkXUnfeasible") [r 56] [r 68,r 56,r 31,.type "Exception",.type "BaseException",.type "object"] 67 (s "NetworkXUnfeasible") true [] [] false none false)) (.mk [some (r 59),none,some (v "NetworkXUnfeasible" 248),some (v "NetworkXUnfeasible" 256),some (.builtin "Exception.__new__"),some (.bool true)]))::
(71,t39)::
(72,tu)::
(74,t13 "iterable" 269 "cyclic" "a" "b")::
(75,tu)::
(77,t3 "pairwise" 266 "pairwise" 14 2 0 3 72 273)::
(78,t14 "pairwise" "pairwise" (mA 7) (mB 7) (mC 7) 71 "networkx.utils.misc" 264 77)::
(79,tu)::
(82,t26 "topological_generations" 278 "topological_generations" 19 1 0 35 79)::
(83,t4 "topological_generations" "topological_generations" (mA 9) (mB 9) (mC 9) "networkx.algorithms.dag" 276 82)::
(84,tu)::
(86,t8 "G" 287 "generation")::
(87,tu)::
(89,t3 "topological_sort" 284 "topological_sort" 42 1 0 35 84 289)::
(90,t4 "topological_sort" "topological_sort" (mA 10) (mB 10) (mC 10) "networkx.algorithms.dag" 276 89)::
(91,Obj.mk (.type "tuple") none (.seq (.mk [v "weight" 292,.int 1 293,.none]) 0) (.mk []))::
(92,tu)::
(95,t26 "dag_longest_path" 294 "dag_longest_path" 45 4 0 3 92)::
(96,t14 "dag_longest_path" "dag_longest_path" (mA 11) (mB 11) (mC 11) 91 "networkx.algorithms.dag" 276 95)::
(97,Obj.mk (.type "tuple") none (.seq (.mk [v "weight" 300,.int 1 301]) 0) (.mk []))::
(98,tu)::
(100,t40 "G" 305 "weight" "default_weight" "path" "path_length" "i")::
(101,t22 "G" 311 "weight" "default_weight" "u" "v")::
(103,t3 "dag_longest_path_length" 302 "dag_longest_path_length" 64 3 0 3 98 316)::
(104,t14 "dag_longest_path_length" "dag_longest_path_length" (mA 12) (mB 12) (mC 12) 97 "networkx.algorithms.dag" 276 103)::
(112,t5 "tuple" "_atlas" 333 0)::
(113,tu)::
(115,t8 "self" 338 "d")::
(116,tu)::
(118,t3 "__init__" 335 "AtlasView.__init__" 79 2 0 3 113 340)::
(119,t4 "__init__" "AtlasView.__init__" (mA2 14 1) (mB2 14 1) (mC2 14 1) "networkx.classes.coreviews" 319 118)::
(120,tu)::
(122,t5 "tuple" "self" 346 0)::
(123,tu)::
(125,t3 "__len__" 343 "AtlasView.__len__" 82 1 0 3 120 347)::
(126,t4 "__len__" "AtlasView.__len__" (mA2 14 2) (mB2 14 2) (mC2 14 2) "networkx.classes.coreviews" 319 125)::
(127,tu)::
(129,t5 "tuple" "self" 353 0)::
(130,tu)::
(132,t3 "__iter__" 350 "AtlasView.__iter__" 85 1 0 3 127 354)::
(133,t4 "__iter__" "AtlasView.__iter__" (mA2 14 3) (mB2 14 3) (mC2 14 3) "networkx.classes.coreviews" 319 132)::
(134,tu)::
(136,t8 "self" 360 "key")::
(137,tu)::
(139,t3 "__getitem__" 357 "AtlasView.__getitem__" 88 2 0 3 134 362)::
(140,t4 "__getitem__" "AtlasView.__getitem__" (mA2 14 4) (mB2 14 4) (mC2 14 4) "networkx.classes.coreviews" 319 139)::
(141,tu)::
(143,t8 "self" 368 "key")::
(144,tu)::
(146,t3 "__contains__" 365 "AtlasView.__contains__" 91 2 0 3 141 370)::
(147,t4 "__contains__" "AtlasView.__contains__" (mA2 14 5) (mB2 14 5) (mC2 14 4) "networkx.classes.coreviews" 319 146)::
(148,tu)::
(150,t5 "tuple" "self" 376 0)::
(151,t5 "tuple" "self" 377 0)::
(153,t3 "items" 373 "AtlasView.items" 94 1 0 3 148 378)::
(154,t4 "items" "AtlasView.items" (mA2 14 6) (mB2 14 6) (mC2 14 6) "networkx.classes.coreviews" 319 153)::
(155,t5 "tuple" "_atlas" 381 0)::
(157,t30 P 328 "networkx.classes.coreviews" 319 76 "__slots__" 334 112 "__init__" 342 119 "__len__" 349 126 "__iter__" 356 "__getitem__" 364 "__contains__" 372 "items" 380 154 "__static_attributes__" 155 "_atlas" 159 3)::
(158,Obj.mk (.type "type") none (.cls (ClassData.mk (s "AtlasView") [.type "object"] [r 158,.type "object"] 157 (s "AtlasView") false [s "_atlas"] [r 180] false none false)) (.mk [none,none,some (v "AtlasView" 321),some (v "AtlasView" 329),some (.builtin "object.__new__"),some (.bool false)]))::
(159,t16 "_atlas" 383 158 0)::
(162,t20 158)::
(169,tu)::
(170,tu)::
(172,t8 "self" 404 "name")::
(173,tu)::
(175,t3 "__getitem__" 401 "AdjacencyView.__getitem__" 99 2 0 3 170 406)::
(176,t4 "__getitem__" "AdjacencyView.__getitem__" (mA2 15 1) (mB2 15 1) (mC2 15 1) "networkx.classes.coreviews" 319 175)::
(177,tu)::
(179,t32 P 395 "networkx.classes.coreviews" 319 96 "__slots__" 400 169 "__getitem__" 408)::
(180,Obj.mk (.type "type") none (.cls (ClassData.mk (s "AdjacencyView") [r 158] [r 180,r 158,.type "object"] 179 (s "AdjacencyView") false [s "_atlas"] [] false none false)) (.mk [some (r 162),none,some (v "AdjacencyView" 388),some (v "AdjacencyView" 396),some (.builtin "object.__new__"),some (.bool false)]))::
(183,t21)::
(184,tu)::
(186,t13 "adj" 418 "nbunch" "single" "bunch_iter")::
(187,tu)::
(189,t3 "_nbunch_iter" 415 "_nbunch_iter" 102 2 0 3 184 422)::
(190,t14 "_nbunch_iter" "_nbunch_iter" (mA 17) (mB 17) (mC 17) 183 "networkx.classes.reportviews" 413 189)::
(198,t5 "tuple" "_nodes" 437 0)::
(199,tu)::
(201,t8 "self" 442 "graph")::
(202,tu)::
(204,t3 "__init__" 439 "NodeView.__init__" 120 2 0 3 199 444)::
(205,t4 "__init__" "NodeView.__init__" (mA2 18 1) (mB2 18 1) (mC2 18 1) "networkx.classes.reportviews" 413 204)::
(206,tu)::
(208,t5 "tuple" "self" 450 0)::
(209,tu)::
(211,t3 "__len__" 447 "NodeView.__len__" 123 1 0 3 206 451)::
(212,t4 "__len__" "NodeView.__len__" (mA2 18 2) (mB2 18 2) (mC2 14 2) "networkx.classes.reportviews" 413 211)::
(213,tu)::
(215,t5 "tuple" "self" 457 0)::
(216,tu)::
(218,t3 "__iter__" 454 "NodeView.__iter__" 126 1 0 3 213 458)::
(219,t4 "__iter__" "NodeView.__iter__" (mA2 18 3) (mB2 18 3) (mC2 14 3) "networkx.classes.reportviews" 413 218)::
(220,tu)::
(222,t8 "self" 464 "n")::
(223,tu)::
(225,t3 "__getitem__" 461 "NodeView.__getitem__" 129 2 0 3 220 466)::
(226,t4 "__getitem__" "NodeView.__getitem__" (mA2 18 4) (mB2 18 4) (mC2 18 4) "networkx.classes.reportviews" 413 225)::
(227,tu)::
(229,t8 "self" 472 "n")::
(230,tu)::
(232,t3 "__contains__" 469 "NodeView.__contains__" 132 2 0 3 227 474)::
(233,t4 "__contains__" "NodeView.__contains__" (mA2 18 5) (mB2 18 5) (mC2 18 4) "networkx.classes.reportviews" 413 232)::
(234,Obj.mk (.type "tuple") none (.seq (.mk [.bool false,.none]) 0) (.mk []))::
(235,tu)::
(237,t9 "tuple" "self" 480 "data" "default" 0)::
(238,tu)::
(240,t3 "__call__" 477 "NodeView.__call__" 135 3 0 3 235 483)::
(241,t14 "__call__" "NodeView.__call__" (mA2 18 6) (mB2 18 6) (mC2 18 6) 234 "networkx.classes.reportviews" 413 240)::
(242,t5 "tuple" "_nodes" 486 0)::
(244,t30 P 432 "networkx.classes.reportviews" 413 117 "__slots__" 438 198 "__init__" 446 205 "__len__" 453 212 "__iter__" 460 "__getitem__" 468 "__contains__" 476 "__call__" 485 241 "__static_attributes__" 242 "_nodes" 246 3)::
(245,Obj.mk (.type "type") none (.cls (ClassData.mk (s "NodeView") [.type "object"] [r 245,.type "object"] 244 (s "NodeView") false [s "_nodes"] [] false none false)) (.mk [none,none,some (v "NodeView" 425),some (v "NodeView" 433),some (.builtin "object.__new__"),some (.bool false)]))::
(246,t16 "_nodes" 488 245 0)::
(256,t33)::
(257,tu)::
(259,t13 "self" 508 "G" "nbunch" "weight")::
(260,tu)::
(262,t3 "__init__" 505 "DiDegreeView.__init__" 140 4 0 3 257 512)::
(263,t14 "__init__" "DiDegreeView.__init__" (mA2 19 0) (mB2 19 0) (mC2 19 0) 256 "networkx.classes.reportviews" 413 262)::
(264,tu)::
(266,t13 "cls" 518 "view" "nbunch" "weight")::
(267,tu)::
(269,t3 "_from_view" 515 "DiDegreeView._from_view" 146 4 0 3 264 522)::
(270,Obj.mk (.type "function") none (.func (FuncData.mk (s "_from_view") (s "DiDegreeView._from_view") (mA2 19 1) (mB2 19 1) (mC2 19 1) 3 [] .none .none .none (v "networkx.classes.reportviews" 413) (some 273) (r 269) .none 0)) (.mk []))::
(271,Obj.mk (.type "dict") none (.dict (.mk [E P "__module__" 525 (v "networkx.classes.reportviews" 413),E P "__name__" 528 (v "_from_view" 527),E P "__qualname__" 531 (v "DiDegreeView._from_view" 530),E P "__doc__" 533 .none,E P "__annotations__" 535 (r 273)]) 5) (.mk []))::
(272,Obj.mk (.type "classmethod") (some 271) (.fields (.mk [r 270,.bool false])) (.mk []))::
(273,t37)::
(274,t33)::
(275,tu)::
(277,t9 "tuple" "self" 540 "nbunch" "weight" 0)::
(278,tu)::
(280,t3 "__call__" 537 "DiDegreeView.__call__" 150 3 0 3 275 543)::
(281,t14 "__call__" "DiDegreeView.__call__" (mA2 19 2) (mB2 19 2) (mC2 19 2) 274 "networkx.classes.reportviews" 413 280)::
(282,tu)::
(284,t13 "self" 549 "n" "succs" "preds")::
(285,t5 "tuple" "weight" 553 0)::
(287,t3 "__getitem__" 546 "DiDegreeView.__getitem__" 164 2 0 3 282 554)::
(288,t4 "__getitem__" "DiDegreeView.__getitem__" (mA2 19 3) (mB2 19 3) (mC2 19 3) "networkx.classes.reportviews" 413 287)::
(289,tu)::
(291,t22 "self" 560 "n" "succs" "preds" "deg")::
(292,t5 "tuple" "weight" 565 0)::
(294,t3 "__iter__" 557 "DiDegreeView.__iter__" 172 1 0 35 289 566)::
(295,t4 "__iter__" "DiDegreeView.__iter__" (mA2 19 4) (mB2 19 4) (mC2 19 4) "networkx.classes.reportviews" 413 294)::
(296,tu)::
(298,t5 "tuple" "self" 572 0)::
(299,tu)::
(301,t3 "__len__" 569 "DiDegreeView.__len__" 186 1 0 3 296 573)::
(302,t4 "__len__" "DiDegreeView.__len__" (mA2 19 5) (mB2 19 5) (mC2 14 2) "networkx.classes.reportviews" 413 301)::
(303,t13 "_nodes" 576 "_pred" "_succ" "_weight")::
(304,t30 P 500 "networkx.classes.reportviews" 413 138 "__init__" 514 263 "_from_view" 536 272 "__call__" 545 281 "__getitem__" 556 "__iter__" 568 "__len__" 575 "__static_attributes__" 580 303 "__dict__" 306 "__weakref__" 307 4)::
(305,Obj.mk (.type "type") none (.cls (ClassData.mk (s "DiDegreeView") [.type "object"] [r 305,.type "object"] 304 (s "DiDegreeView") true [] [r 333,r 359] false none false)) (.mk [none,none,some (v "DiDegreeView" 493),some (v "DiDegreeView" 501),some (.builtin "object.__new__"),some (.bool true)]))::
(306,t34 581 305)::
(307,t25 583 305)::
(310,t20 305)::
(317,tu)::
(319,t9 "tuple" "self" 603 "n" "nbrs" 0)::
(320,t5 "tuple" "weight" 606 0)::
(322,t3 "__getitem__" 600 "DegreeView.__getitem__" 190 2 0 3 317 607)::
(323,t4 "__getitem__" "DegreeView.__getitem__" (mA2 20 0) (mB2 20 0) (mC2 20 0) "networkx.classes.reportviews" 413 322)::
(324,tu)::
(326,t13 "self" 613 "n" "nbrs" "deg")::
(327,t5 "tuple" "weight" 617 0)::
(329,t3 "__iter__" 610 "DegreeView.__iter__" 197 1 0 35 324 618)::
(330,t4 "__iter__" "DegreeView.__iter__" (mA2 20 1) (mB2 20 1) (mC2 20 1) "networkx.classes.reportviews" 413 329)::
(331,tu)::
(332,t32 P 595 "networkx.classes.reportviews" 413 188 "__getitem__" 609 323 "__iter__" 620)::
(333,t35 "DegreeView" 305 333 332 310 588)::
(336,t20 305)::
(343,tu)::
(345,t9 "tuple" "self" 640 "n" "nbrs" 0)::
(346,t5 "tuple" "weight" 643 0)::
(348,t3 "__getitem__" 637 "InDegreeView.__getitem__" 210 2 0 3 343 644)::
(349,t4 "__getitem__" "InDegreeView.__getitem__" (mA2 21 0) (mB2 21 0) (mC2 20 0) "networkx.classes.reportviews" 413 348)::
(350,tu)::
(352,t13 "self" 650 "n" "preds" "deg")::
(353,t5 "tuple" "weight" 654 0)::
(355,t3 "__iter__" 647 "InDegreeView.__iter__" 217 1 0 35 350 655)::
(356,t4 "__iter__" "InDegreeView.__iter__" (mA2 21 1) (mB2 21 1) (mC2 21 1) "networkx.classes.reportviews" 413 355)::
(357,tu)::
(358,t32 P 632 "networkx.classes.reportviews" 413 208 "__getitem__" 646 349 "__iter__" 657)::
(359,t35 "InDegreeView" 305 359 358 336 625)::
(369,t23 "tuple" "_viewer" 674 "_nbunch" "_data" "_default" "_adjdict" "_nodes_nbrs" "_report" 0)::
(370,t44)::
(371,t45 P 682)::
(372,tu)::
(375,t26 "__init__" 683 "OutEdgeDataView.__init__" 231 4 1 3 372)::
(376,t46 "__init__" "OutEdgeDataView.__init__" (mA2 22 1) (mB2 22 1) (mC2 22 1) 370 375)::
(377,tu)::
(379,t5 "tuple" "self" 692 0)::
(380,tu)::
(382,t3 "__len__" 689 "OutEdgeDataView.__len__" 249 1 0 3 377 693)::
(383,t4 "__len__" "OutEdgeDataView.__len__" (mA2 22 2) (mB2 22 2) (mC2 22 2) "networkx.classes.reportviews" 413 382)::
(384,tu)::
(386,t5 "tuple" "self" 699 0)::
(387,t5 "tuple" "self" 700 0)::
(389,t3 "__iter__" 696 "OutEdgeDataView.__iter__" 252 1 0 3 384 701)::
(390,t4 "__iter__" "OutEdgeDataView.__iter__" (mA2 22 3) (mB2 22 3) (mC2 14 6) "networkx.classes.reportviews" 413 389)::
(391,tu)::
(393,t22 "self" 707 "e" "u" "v" "ddict")::
(394,tu)::
(396,t3 "__contains__" 704 "OutEdgeDataView.__contains__" 255 2 0 3 391 712)::
(397,t4 "__contains__" "OutEdgeDataView.__contains__" (mA2 22 4) (mB2 22 4) (mC2 22 4) "networkx.classes.reportviews" 413 396)::
(398,t23 "tuple" "_adjdict" 715 "_data" "_default" "_nbunch" "_nodes_nbrs" "_report" "_viewer" 0)::
(400,Obj.mk (.type "dict") none (.dict (.mk [E P "__module__" 669 (v "networkx.classes.reportviews" 413),E P "__firstlineno__" 673 (.int 228 672),E P "__slots__" 681 (r 369),E P "__init__" 688 (r 376),E P "__len__" 695 (r 383),E P "__iter__" 703 (r 390),E P "__contains__" 714 (r 397),E P "__static_attributes__" 722 (r 398),E P "_adjdict" 724 (r 402),E P "_data" 726 (r 403),E P "_default" 728 (r 404),E P "_nbunch" 730 (r 405),E P "_nodes_nbrs" 732 (r 406),E P "_report" 734 (r 407),E P "_viewer" 736 (r 408),E P "__doc__" 737 .none]) 9) (.mk []))::
(401,Obj.mk (.type "type") none (.cls (ClassData.mk (s "OutEdgeDataView") [.type "object"] [r 401,.type "object"] 400 (s "OutEdgeDataView") false [s "_adjdict",s "_data",s "_default",s "_nbunch",s "_nodes_nbrs",s "_report",s "_viewer"] [r 443] false none false)) (.mk [none,none,some (v "OutEdgeDataView" 662),some (v "OutEdgeDataView" 670),some (.builtin "object.__new__"),some (.bool false)]))::
(402,t16 "_adjdict" 723 401 6)::
(403,t16 "_data" 725 401 5)::
(404,t16 "_default" 727 401 4)::
(405,t16 "_nbunch" 729 401 3)::
(406,t16 "_nodes_nbrs" 731 401 2)::
(407,t16 "_report" 733 401 1)::
(408,t16 "_viewer" 735 401 0)::
(411,t20 401)::
(418,tu)::
(419,tu)::
(421,t5 "tuple" "self" 756 0)::
(422,tu)::
(424,t3 "__len__" 753 "EdgeDataView.__len__" 267 1 0 3 419 757)::
(425,t4 "__len__" "EdgeDataView.__len__" (mA2 23 1) (mB2 23 1) (mC2 22 2) "networkx.classes.reportviews" 413 424)::
(426,tu)::
(428,t40 "self" 763 "seen" "n" "nbrs" "nbr" "dd")::
(429,tu)::
(431,t3 "__iter__" 760 "EdgeDataView.__iter__" 270 1 0 35 426 769)::
(432,t4 "__iter__" "EdgeDataView.__iter__" (mA2 23 2) (mB2 23 2) (mC2 23 2) "networkx.classes.reportviews" 413 431)::
(433,tu)::
(435,t22 "self" 775 "e" "u" "v" "ddict")::
(436,tu)::
(438,t3 "__contains__" 772 "EdgeDataView.__contains__" 279 2 0 3 433 780)::
(439,t4 "__contains__" "EdgeDataView.__contains__" (mA2 23 3) (mB2 23 3) (mC2 22 4) "networkx.classes.reportviews" 413 438)::
(440,tu)::
(442,Obj.mk (.type "dict") none (.dict (.mk [E P "__module__" 747 (v "networkx.classes.reportviews" 413),E P "__firstlineno__" 751 (.int 264 750),E P "__slots__" 752 (r 418),E P "__len__" 759 (r 425),E P "__iter__" 771 (r 432),E P "__contains__" 782 (r 439),E P "__static_attributes__" 783 (r 440),E P "__doc__" 784 .none]) 2) (.mk []))::
(443,Obj.mk (.type "type") none (.cls (ClassData.mk (s "EdgeDataView") [r 401] [r 443,r 401,.type "object"] 442 (s "EdgeDataView") false [s "_adjdict",s "_data",s "_default",s "_nbunch",s "_nodes_nbrs",s "_report",s "_viewer"] [] false none false)) (.mk [some (r 411),none,some (v "EdgeDataView" 740),some (v "EdgeDataView" 748),some (.builtin "object.__new__"),some (.bool false)]))::
(453,t9 "tuple" "_adjdict" 799 "_graph_ref" "_nodes_nbrs" 0)::
(454,tu)::
(456,t8 "self" 807 "G")::
(457,tu)::
(459,t3 "__init__" 804 "OutEdgeView.__init__" 292 2 0 3 454 809)::
(460,t4 "__init__" "OutEdgeView.__init__" (mA2 24 2) (mB2 24 2) (mC2 24 2) "networkx.classes.reportviews" 413 459)::
(461,tu)::
(463,t5 "tuple" "self" 815 0)::
(464,tu)::
(466,t3 "__len__" 812 "OutEdgeView.__len__" 296 1 0 3 461 816)::
(467,t4 "__len__" "OutEdgeView.__len__" (mA2 24 3) (mB2 24 3) (mC2 22 2) "networkx.classes.reportviews" 413 466)::
(468,tu)::
(470,t13 "self" 822 "n" "nbrs" "nbr")::
(471,tu)::
(473,t3 "__iter__" 819 "OutEdgeView.__iter__" 299 1 0 35 468 826)::
(474,t4 "__iter__" "OutEdgeView.__iter__" (mA2 24 4) (mB2 24 4) (mC2 24 4) "networkx.classes.reportviews" 413 473)::
(475,tu)::
(477,t13 "self" 832 "e" "u" "v")::
(478,tu)::
(480,t3 "__contains__" 829 "OutEdgeView.__contains__" 304 2 0 3 475 836)::
(481,t4 "__contains__" "OutEdgeView.__contains__" (mA2 24 5) (mB2 24 5) (mC2 24 5) "networkx.classes.reportviews" 413 480)::
(482,t44)::
(483,t45 P 839)::
(484,tu)::
(486,t13 "self" 843 "nbunch" "data" "default")::
(487,tu)::
(489,t3 "__call__" 840 "OutEdgeView.__call__" 311 3 1 3 484 847)::
(490,t46 "__call__" "OutEdgeView.__call__" (mA2 24 6) (mB2 24 6) (mC2 24 6) 482 489)::
(491,t8 "_adjdict" 850 "_nodes_nbrs")::
(493,Obj.mk (.type "dict") none (.dict (.mk [E P "__module__" 794 (v "networkx.classes.reportviews" 413),E P "__firstlineno__" 798 (.int 288 797),E P "__slots__" 802 (r 453),E P "dataview" 803 (r 401),E P "__init__" 811 (r 460),E P "__len__" 818 (r 467),E P "__iter__" 828 (r 474),E P "__contains__" 838 (r 481),E P "__call__" 849 (r 490),E P "__static_attributes__" 852 (r 491),E P "_adjdict" 854 (r 495),E P "_graph_ref" 856 (r 496),E P "_nodes_nbrs" 858 (r 497),E P "__doc__" 859 .none]) 5) (.mk []))::
(494,Obj.mk (.type "type") none (.cls (ClassData.mk (s "OutEdgeView") [.type "object"] [r 494,.type "object"] 493 (s "OutEdgeView") false [s "_adjdict",s "_graph_ref",s "_nodes_nbrs"] [r 532] false none false)) (.mk [none,none,some (v "OutEdgeView" 787),some (v "OutEdgeView" 795),some (.builtin "object.__new__"),some (.bool false)]))::
(495,t16 "_adjdict" 853 494 2)::
(496,t16 "_graph_ref" 855 494 1)::
(497,t16 "_nodes_nbrs" 857 494 0)::
(500,t20 494)::
(507,tu)::
(508,tu)::
(510,t8 "self" 879 "num_nbrs")::
(511,tu)::
(513,t3 "__len__" 876 "EdgeView.__len__" 319 1 0 3 508 881)::
(514,t4 "__len__" "EdgeView.__len__" (mA2 25 2) (mB2 25 2) (mC2 25 2) "networkx.classes.reportviews" 413 513)::
(515,tu)::
(517,t22 "self" 887 "seen" "n" "nbrs" "nbr")::
(518,tu)::
(520,t3 "__iter__" 884 "EdgeView.__iter__" 323 1 0 35 515 892)::
(521,t4 "__iter__" "EdgeView.__iter__" (mA2 25 3) (mB2 25 3) (mC2 25 3) "networkx.classes.reportviews" 413 520)::
(522,tu)::
(524,t13 "self" 898 "e" "u" "v")::
(525,tu)::
(527,t3 "__contains__" 895 "EdgeView.__contains__" 332 2 0 3 522 902)::
(528,t4 "__contains__" "EdgeView.__contains__" (mA2 25 4) (mB2 25 4) (mC2 25 4) "networkx.classes.reportviews" 413 527)::
(529,tu)::
(531,Obj.mk (.type "dict") none (.dict (.mk [E P "__module__" 869 (v "networkx.classes.reportviews" 413),E P "__firstlineno__" 873 (.int 315 872),E P "__slots__" 874 (r 507),E P "dataview" 875 (r 443),E P "__len__" 883 (r 514),E P "__iter__" 894 (r 521),E P "__contains__" 904 (r 528),E P "__static_attributes__" 905 (r 529),E P "__doc__" 906 .none]) 2) (.mk []))::
(532,Obj.mk (.type "type") none (.cls (ClassData.mk (s "EdgeView") [r 494] [r 532,r 494,.type "object"] 531 (s "EdgeView") false [s "_adjdict",s "_graph_ref",s "_nodes_nbrs"] [] false none false)) (.mk [some (r 500),none,some (v "EdgeView" 862),some (v "EdgeView" 870),some (.builtin "object.__new__"),some (.bool false)]))::
(535,Obj.mk (.type "object") none .plain (.mk []))::
(543,tu)::
(545,t8 "self" 927 "func")::
(546,tu)::
(548,t3 "__init__" 924 "cached_property.__init__" 342 2 0 3 543 929)::
(549,t4 "__init__" "cached_property.__init__" (mA2 28 0) (mB2 28 0) (mC2 28 0) "functools" 909 548)::
(550,tu)::
(552,t9 "tuple" "self" 935 "owner" "name" 0)::
(553,tu)::
(555,t3 "__set_name__" 932 "cached_property.__set_name__" 348 3 0 3 550 938)::
(556,t4 "__set_name__" "cached_property.__set_name__" (mA2 28 1) (mB2 28 1) (mC2 28 1) "functools" 909 555)::
(557,t21)::
(558,tu)::
(560,t23 "tuple" "self" 944 "instance" "owner" "cache" "kind" "msg" "val" 0)::
(561,tu)::
(563,t3 "__get__" 941 "cached_property.__get__" 354 3 0 3 558 951)::
(564,t14 "__get__" "cached_property.__get__" (mA2 28 2) (mB2 28 2) (mC2 28 2) 557 "functools" 909 563)::
(565,tu)::
(567,t8 "cls" 957 "item")::
(568,tu)::
(570,t3 "__class_getitem__" 954 "cached_property.__class_getitem__" 376 2 0 3 565 959)::
(571,t4 "__class_getitem__" "cached_property.__class_getitem__" (mA2 28 3) (mB2 28 3) (mC2 28 3) "functools" 909 570)::
(572,t13 "__doc__" 962 "__module__" "attrname" "func")::
(573,Obj.mk (.type "dict") none (.dict (.mk [E P "__module__" 919 (v "functools" 909),E P "__firstlineno__" 923 (.int 340 922),E P "__init__" 931 (r 549),E P "__set_name__" 940 (r 556),E P "__get__" 953 (r 564),E P "__class_getitem__" 961 (r 575),E P "__static_attributes__" 966 (r 572),E P "__dict__" 969 (r 576),E P "__weakref__" 971 (r 577),E P "__doc__" 972 .none]) 4) (.mk []))::
(574,Obj.mk (.type "type") none (.cls (ClassData.mk (s "cached_property") [.type "object"] [r 574,.type "object"] 573 (s "cached_property") true [] [] false none false)) (.mk [none,none,some (v "cached_property" 912),some (v "cached_property" 920),some (.builtin "object.__new__"),some (.bool true)]))::
(575,Obj.mk (.type "classmethod") none (.fields (.mk [r 571])) (.mk []))::
(576,t34 968 574)::
(577,t25 970 574)::
(587,t21)::
(588,tu)::
(590,t9 "tuple" "self" 998 "incoming_graph_data" "attr" 0)::
(591,tu)::
(593,t3 "__init__" 995 "Graph.__init__" 387 2 0 11 588 1001)::
(594,t14 "__init__" "Graph.__init__" (mA2 30 6) (mB2 30 6) (mC2 30 6) 587 "networkx.classes.graph" 975 593)::
(595,tu)::
(597,t5 "tuple" "self" 1007 0)::
(598,tu)::
(600,t3 "adj" 1004 "Graph.adj" 395 1 0 3 595 1008)::
(601,t4 "adj" "Graph.adj" (mA2 30 7) (mB2 30 7) (mC2 30 7) "networkx.classes.graph" 975 600)::
(602,t17 P 1013 601 "adj" "networkx.classes.graph" 975)::
(603,t18 602)::
(605,tu)::
(607,t5 "tuple" "self" 1026 0)::
(608,tu)::
(610,t3 "__iter__" 1023 "Graph.__iter__" 399 1 0 3 605 1027)::
(611,t4 "__iter__" "Graph.__iter__" (mA2 30 8) (mB2 30 8) (mC2 14 3) "networkx.classes.graph" 975 610)::
(612,tu)::
(614,t8 "self" 1033 "n")::
(615,tu)::
(617,t3 "__contains__" 1030 "Graph.__contains__" 402 2 0 3 612 1035)::
(618,t4 "__contains__" "Graph.__contains__" (mA2 30 9) (mB2 30 9) (mC2 30 9) "networkx.classes.graph" 975 617)::
(619,tu)::
(621,t5 "tuple" "self" 1041 0)::
(622,tu)::
(624,t3 "__len__" 1038 "Graph.__len__" 408 1 0 3 619 1042)::
(625,t4 "__len__" "Graph.__len__" (mA2 30 10) (mB2 30 10) (mC2 14 2) "networkx.classes.graph" 975 624)::
(626,tu)::
(628,t8 "self" 1048 "n")::
(629,tu)::
(631,t3 "__getitem__" 1045 "Graph.__getitem__" 411 2 0 3 626 1050)::
(632,t4 "__getitem__" "Graph.__getitem__" (mA2 30 11) (mB2 30 11) (mC2 18 4) "networkx.classes.graph" 975 631)::
(633,tu)::
(635,t9 "tuple" "self" 1056 "node_for_adding" "attr" 0)::
(636,tu)::
(638,t3 "add_node" 1053 "Graph.add_node" 414 2 0 11 633 1059)::
(639,t4 "add_node" "Graph.add_node" (mA2 30 12) (mB2 30 12) (mC2 30 12) "networkx.classes.graph" 975 638)::
(640,tu)::
(642,t23 "tuple" "self" 1065 "nodes_for_adding" "attr" "n" "newnode" "newdict" "ndict" 0)::
(643,tu)::
(645,t3 "add_nodes_from" 1062 "Graph.add_nodes_from" 417 2 0 11 640 1072)::
(646,t4 "add_nodes_from" "Graph.add_nodes_from" (mA2 30 13) (mB2 30 13) (mC2 30 13) "networkx.classes.graph" 975 645)::
(647,tu)::
(649,t8 "self" 1078 "n")::
(650,tu)::
(652,t3 "remove_node" 1075 "Graph.remove_node" 434 2 0 3 647 1080)::
(653,t4 "remove_node" "Graph.remove_node" (mA2 30 14) (mB2 30 14) (mC2 30 14) "networkx.classes.graph" 975 652)::
(654,tu)::
(656,t5 "tuple" "self" 1086 0)::
(657,tu)::
(659,t3 "nodes" 1083 "Graph.nodes" 437 1 0 3 654 1087)::
(660,t4 "nodes" "Graph.nodes" (mA2 30 15) (mB2 30 15) (mC2 30 15) "networkx.classes.graph" 975 659)::
(661,t17 P 1092 660 "nodes" "networkx.classes.graph" 975)::
(662,t18 661)::
(664,tu)::
(666,t5 "tuple" "self" 1105 0)::
(667,tu)::
(669,t3 "number_of_nodes" 1102 "Graph.number_of_nodes" 441 1 0 3 664 1106)::
(670,t4 "number_of_nodes" "Graph.number_of_nodes" (mA2 30 16) (mB2 30 16) (mC2 14 2) "networkx.classes.graph" 975 669)::
(671,tu)::
(673,t5 "tuple" "self" 1112 0)::
(674,tu)::
(676,t3 "order" 1109 "Graph.order" 444 1 0 3 671 1113)::
(677,t4 "order" "Graph.order" (mA2 30 17) (mB2 30 17) (mC2 14 2) "networkx.classes.graph" 975 676)::
(678,tu)::
(680,t13 "self" 1119 "u_of_edge" "v_of_edge" "attr")::
(681,tu)::
(683,t3 "add_edge" 1116 "Graph.add_edge" 447 3 0 11 678 1123)::
(684,t4 "add_edge" "Graph.add_edge" (mA2 30 18) (mB2 30 18) (mC2 30 18) "networkx.classes.graph" 975 683)::
(685,tu)::
(687,t49 1129)::
(688,tu)::
(690,t3 "add_edges_from" 1126 "Graph.add_edges_from" 450 2 0 11 685 1138)::
(691,t4 "add_edges_from" "Graph.add_edges_from" (mA2 30 19) (mB2 30 19) (mC2 30 19) "networkx.classes.graph" 975 690)::
(692,tu)::
(694,t9 "tuple" "self" 1144 "u" "v" 0)::
(695,tu)::
(697,t3 "has_edge" 1141 "Graph.has_edge" 476 3 0 3 692 1147)::
(698,t4 "has_edge" "Graph.has_edge" (mA2 30 20) (mB2 30 20) (mC2 30 20) "networkx.classes.graph" 975 697)::
(699,tu)::
(701,t9 "tuple" "self" 1153 "n" "err" 0)::
(702,tu)::
(704,t3 "neighbors" 1150 "Graph.neighbors" 479 2 0 3 699 1156)::
(705,t4 "neighbors" "Graph.neighbors" (mA2 30 21) (mB2 30 21) (mC2 30 21) "networkx.classes.graph" 975 704)::
(706,tu)::
(708,t5 "tuple" "self" 1162 0)::
(709,tu)::
(711,t3 "edges" 1159 "Graph.edges" 485 1 0 3 706 1163)::
(712,t4 "edges" "Graph.edges" (mA2 30 22) (mB2 30 22) (mC2 30 22) "networkx.classes.graph" 975 711)::
(713,t17 P 1168 712 "edges" "networkx.classes.graph" 975)::
(714,t18 713)::
(716,t21)::
(717,tu)::
(719,t13 "self" 1181 "u" "v" "default")::
(720,tu)::
(722,t3 "get_edge_data" 1178 "Graph.get_edge_data" 489 4 0 3 717 1185)::
(723,t14 "get_edge_data" "Graph.get_edge_data" (mA2 30 23) (mB2 30 23) (mC2 30 23) 716 "networkx.classes.graph" 975 722)::
(724,tu)::
(726,t5 "tuple" "self" 1191 0)::
(727,tu)::
(729,t3 "degree" 1188 "Graph.degree" 492 1 0 3 724 1192)::
(730,t4 "degree" "Graph.degree" (mA2 30 24) (mB2 30 24) (mC2 30 24) "networkx.classes.graph" 975 729)::
(731,t17 P 1197 730 "degree" "networkx.classes.graph" 975)::
(732,t18 731)::
(734,tu)::
(736,t5 "tuple" "self" 1210 0)::
(737,tu)::
(739,t3 "is_multigraph" 1207 "Graph.is_multigraph" 496 1 0 3 734 1211)::
(740,t4 "is_multigraph" "Graph.is_multigraph" (mA2 30 25) (mB2 30 25) (mC2 30 25) "networkx.classes.graph" 975 739)::
(741,tu)::
(743,t5 "tuple" "self" 1217 0)::
(744,tu)::
(746,t3 "is_directed" 1214 "Graph.is_directed" 499 1 0 3 741 1218)::
(747,t4 "is_directed" "Graph.is_directed" (mA2 30 26) (mB2 30 26) (mC2 30 25) "networkx.classes.graph" 975 746)::
(748,t39)::
(749,tu)::
(751,t9 "tuple" "self" 1224 "as_view" "G" 0)::
(752,tu)::
(754,t3 "copy" 1221 "Graph.copy" 502 2 0 3 749 1227)::
(755,t14 "copy" "Graph.copy" (mA2 30 27) (mB2 30 27) (mC2 30 27) 748 "networkx.classes.graph" 975 754)::
(756,t21)::
(757,tu)::
(759,t8 "self" 1233 "weight")::
(760,tu)::
(762,t3 "size" 1230 "Graph.size" 509 2 0 3 757 1235)::
(763,t14 "size" "Graph.size" (mA2 30 28) (mB2 30 28) (mC2 30 28) 756 "networkx.classes.graph" 975 762)::
(764,t33)::
(765,tu)::
(767,t9 "tuple" "self" 1241 "u" "v" 0)::
(768,tu)::
(770,t3 "number_of_edges" 1238 "Graph.number_of_edges" 512 3 0 3 765 1244)::
(771,t14 "number_of_edges" "Graph.number_of_edges" (mA2 30 29) (mB2 30 29) (mC2 30 20) 764 "networkx.classes.graph" 975 770)::
(772,t21)::
(773,tu)::
(775,t8 "self" 1250 "nbunch")::
(776,tu)::
(778,t3 "nbunch_iter" 1247 "Graph.nbunch_iter" 515 2 0 3 773 1252)::
(779,t14 "nbunch_iter" "Graph.nbunch_iter" (mA2 30 30) (mB2 30 30) (mC2 30 30) 772 "networkx.classes.graph" 975 778)::
(780,t9 "tuple" "_adj" 1255 "_node" "graph" 0)::
(781,Obj.mk (.type "dict") none (.dict (.mk [E P "__module__" 984 (v "networkx.classes.graph" 975),E P "__firstlineno__" 988 (.int 379 987),E P "node_dict_factory" 989 (.type "dict"),E P "node_attr_dict_factory" 990 (.type "dict"),E P "adjlist_outer_dict_factory" 991 (.type "dict"),E P "adjlist_inner_dict_factory" 992 (.type "dict"),E P "edge_attr_dict_factory" 993 (.type "dict"),E P "graph_attr_dict_factory" 994 (.type "dict"),E P "__init__" 1003 (r 594),E P "adj" 1022 (r 603),E P "__iter__" 1029 (r 611),E P "__contains__" 1037 (r 618),E P "__len__" 1044 (r 625),E P "__getitem__" 1052 (r 632),E P "add_node" 1061 (r 639),E P "add_nodes_from" 1074 (r 646),E P "remove_node" 1082 (r 653),E P "nodes" 1101 (r 662),E P "number_of_nodes" 1108 (r 670),E P "order" 1115 (r 677),E P "add_edge" 1125 (r 684),E P "add_edges_from" 1140 (r 691),E P "has_edge" 1149 (r 698),E P "neighbors" 1158 (r 705),E P "edges" 1177 (r 714),E P "get_edge_data" 1187 (r 723),E P "degree" 1206 (r 732),E P "is_multigraph" 1213 (r 740),E P "is_directed" 1220 (r 747),E P "copy" 1229 (r 755),E P "size" 1237 (r 763),E P "number_of_edges" 1246 (r 771),E P "nbunch_iter" 1254 (r 779),E P "__static_attributes__" 1258 (r 780),E P "__dict__" 1260 (r 783),E P "__weakref__" 1262 (r 784),E P "__doc__" 1263 .none]) 4) (.mk []))::
(782,Obj.mk (.type "type") none (.cls (ClassData.mk (s "Graph") [.type "object"] [r 782,.type "object"] 781 (s "Graph") true [] [r 951] false none false)) (.mk [none,none,some (v "Graph" 977),some (v "Graph" 985),some (.builtin "object.__new__"),some (.bool true)]))::
(783,t34 1259 782)::
(784,t25 1261 782)::
(791,t20 782)::
(798,t21)::
(799,tu)::
(801,t9 "tuple" "self" 1307 "incoming_graph_data" "attr" 0)::
(802,tu)::
(804,t3 "__init__" 1304 "DiGraph.__init__" 520 2 0 11 799 1310)::
(805,t14 "__init__" "DiGraph.__init__" (mA2 32 0) (mB2 32 0) (mC2 30 6) 798 "networkx.classes.digraph" 1290 804)::
(806,tu)::
(808,t5 "tuple" "self" 1316 0)::
(809,tu)::
(811,t3 "adj" 1313 "DiGraph.adj" 530 1 0 3 806 1317)::
(812,t4 "adj" "DiGraph.adj" (mA2 32 1) (mB2 32 1) (mC2 30 7) "networkx.classes.digraph" 1290 811)::
(813,t17 P 1322 812 "adj" "networkx.classes.digraph" 1290)::
(814,t18 813)::
(816,tu)::
(818,t5 "tuple" "self" 1335 0)::
(819,tu)::
(821,t3 "succ" 1332 "DiGraph.succ" 534 1 0 3 816 1336)::
(822,t4 "succ" "DiGraph.succ" (mA2 32 2) (mB2 32 2) (mC2 30 7) "networkx.classes.digraph" 1290 821)::
(823,t17 P 1341 822 "succ" "networkx.classes.digraph" 1290)::
(824,t18 823)::
(826,tu)::
(828,t5 "tuple" "self" 1354 0)::
(829,tu)::
(831,t3 "pred" 1351 "DiGraph.pred" 538 1 0 3 826 1355)::
(832,t4 "pred" "DiGraph.pred" (mA2 32 3) (mB2 32 3) (mC2 30 7) "networkx.classes.digraph" 1290 831)::
(833,t17 P 1360 832 "pred" "networkx.classes.digraph" 1290)::
(834,t18 833)::
(836,tu)::
(838,t9 "tuple" "self" 1373 "node_for_adding" "attr" 0)::
(839,tu)::
(841,t3 "add_node" 1370 "DiGraph.add_node" 542 2 0 11 836 1376)::
(842,t4 "add_node" "DiGraph.add_node" (mA2 32 4) (mB2 32 4) (mC2 30 12) "networkx.classes.digraph" 1290 841)::
(843,tu)::
(845,t23 "tuple" "self" 1382 "nodes_for_adding" "attr" "n" "newnode" "newdict" "ndict" 0)::
(846,tu)::
(848,t3 "add_nodes_from" 1379 "DiGraph.add_nodes_from" 545 2 0 11 843 1389)::
(849,t4 "add_nodes_from" "DiGraph.add_nodes_from" (mA2 32 5) (mB2 32 5) (mC2 30 13) "networkx.classes.digraph" 1290 848)::
(850,tu)::
(852,t8 "self" 1395 "n")::
(853,tu)::
(855,t3 "remove_node" 1392 "DiGraph.remove_node" 563 2 0 3 850 1397)::
(856,t4 "remove_node" "DiGraph.remove_node" (mA2 32 6) (mB2 32 6) (mC2 30 14) "networkx.classes.digraph" 1290 855)::
(857,tu)::
(859,t13 "self" 1403 "u_of_edge" "v_of_edge" "attr")::
(860,tu)::
(862,t3 "add_edge" 1400 "DiGraph.add_edge" 566 3 0 11 857 1407)::
(863,t4 "add_edge" "DiGraph.add_edge" (mA2 32 7) (mB2 32 7) (mC2 30 18) "networkx.classes.digraph" 1290 862)::
(864,tu)::
(866,t49 1413)::
(867,tu)::
(869,t3 "add_edges_from" 1410 "DiGraph.add_edges_from" 569 2 0 11 864 1422)::
(870,t4 "add_edges_from" "DiGraph.add_edges_from" (mA2 32 8) (mB2 32 8) (mC2 30 19) "networkx.classes.digraph" 1290 869)::
(871,tu)::
(873,t9 "tuple" "self" 1428 "n" "err" 0)::
(874,tu)::
(876,t3 "successors" 1425 "DiGraph.successors" 597 2 0 3 871 1431)::
(877,t4 "successors" "DiGraph.successors" (mA2 32 9) (mB2 32 9) (mC2 30 21) "networkx.classes.digraph" 1290 876)::
(878,tu)::
(880,t9 "tuple" "self" 1438 "n" "err" 0)::
(881,tu)::
(883,t3 "predecessors" 1435 "DiGraph.predecessors" 604 2 0 3 878 1441)::
(884,t4 "predecessors" "DiGraph.predecessors" (mA2 32 11) (mB2 32 11) (mC2 30 21) "networkx.classes.digraph" 1290 883)::
(885,tu)::
(887,t5 "tuple" "self" 1447 0)::
(888,tu)::
(890,t3 "edges" 1444 "DiGraph.edges" 610 1 0 3 885 1448)::
(891,t4 "edges" "DiGraph.edges" (mA2 32 12) (mB2 32 12) (mC2 32 12) "networkx.classes.digraph" 1290 890)::
(892,t17 P 1453 891 "edges" "networkx.classes.digraph" 1290)::
(893,t18 892)::
(895,tu)::
(897,t5 "tuple" "self" 1466 0)::
(898,tu)::
(900,t3 "out_edges" 1463 "DiGraph.out_edges" 614 1 0 3 895 1467)::
(901,t4 "out_edges" "DiGraph.out_edges" (mA2 32 13) (mB2 32 13) (mC2 32 13) "networkx.classes.digraph" 1290 900)::
(902,t17 P 1472 901 "out_edges" "networkx.classes.digraph" 1290)::
(903,t18 902)::
(905,tu)::
(907,t5 "tuple" "self" 1485 0)::
(908,tu)::
(910,t3 "degree" 1482 "DiGraph.degree" 618 1 0 3 905 1486)::
(911,t4 "degree" "DiGraph.degree" (mA2 32 14) (mB2 32 14) (mC2 32 14) "networkx.classes.digraph" 1290 910)::
(912,t17 P 1491 911 "degree" "networkx.classes.digraph" 1290)::
(913,t18 912)::
(915,tu)::
(917,t5 "tuple" "self" 1504 0)::
(918,tu)::
(920,t3 "in_degree" 1501 "DiGraph.in_degree" 622 1 0 3 915 1505)::
(921,t4 "in_degree" "DiGraph.in_degree" (mA2 32 15) (mB2 32 15) (mC2 32 15) "networkx.classes.digraph" 1290 920)::
(922,t17 P 1510 921 "in_degree" "networkx.classes.digraph" 1290)::
(923,t18 922)::
(925,tu)::
(927,t5 "tuple" "self" 1523 0)::
(928,tu)::
(930,t3 "out_degree" 1520 "DiGraph.out_degree" 626 1 0 3 925 1524)::
(931,t4 "out_degree" "DiGraph.out_degree" (mA2 32 16) (mB2 32 16) (mC2 32 13) "networkx.classes.digraph" 1290 930)::
(932,t17 P 1529 931 "out_degree" "networkx.classes.digraph" 1290)::
(933,t18 932)::
(935,tu)::
(937,t5 "tuple" "self" 1542 0)::
(938,tu)::
(940,t3 "is_multigraph" 1539 "DiGraph.is_multigraph" 630 1 0 3 935 1543)::
(941,t4 "is_multigraph" "DiGraph.is_multigraph" (mA2 32 17) (mB2 32 17) (mC2 30 25) "networkx.classes.digraph" 1290 940)::
(942,tu)::
(944,t5 "tuple" "self" 1549 0)::
(945,tu)::
(947,t3 "is_directed" 1546 "DiGraph.is_directed" 633 1 0 3 942 1550)::
(948,t4 "is_directed" "DiGraph.is_directed" (mA2 32 18) (mB2 32 18) (mC2 30 25) "networkx.classes.digraph" 1290 947)::
(949,t22 "_adj" 1553 "_node" "_pred" "_succ" "graph")::
(950,Obj.mk (.type "dict") none (.dict (.mk [E P "__module__" 1299 (v "networkx.classes.digraph" 1290),E P "__firstlineno__" 1303 (.int 518 1302),E P "__init__" 1312 (r 805),E P "adj" 1331 (r 814),E P "succ" 1350 (r 824),E P "pred" 1369 (r 834),E P "add_node" 1378 (r 842),E P "add_nodes_from" 1391 (r 849),E P "remove_node" 1399 (r 856),E P "add_edge" 1409 (r 863),E P "add_edges_from" 1424 (r 870),E P "successors" 1433 (r 877),E P "neighbors" 1434 (r 877),E P "predecessors" 1443 (r 884),E P "edges" 1462 (r 893),E P "out_edges" 1481 (r 903),E P "degree" 1500 (r 913),E P "in_degree" 1519 (r 923),E P "out_degree" 1538 (r 933),E P "is_multigraph" 1545 (r 941),E P "is_directed" 1552 (r 948),E P "__static_attributes__" 1558 (r 949),E P "__doc__" 1559 .none]) 2) (.mk []))::
(951,t35 "DiGraph" 782 951 950 791 1292)::
(962,tu)::
(965,t26 "law" 1612 "law" 636 1 0 3 962)::
(966,t4 "law" "law" (mA 34) (mB 34) (mC 34) "law_bf0026_01" 1610 965)::[]
noncomputable def R (P:Params):Frag:=(0,boot_o_0 P)::
(1,boot_o_1 P)::
(4,boot_o_4 P)::
(5,boot_o_5 P)::
(6,boot_o_6 P)::
(7,boot_o_7 P)::
(8,boot_o_8 P)::
(9,boot_o_9 P)::
(10,boot_o_10 P)::
(11,tu)::
(12,g12 75)::
(13,t6 "<module>" 182 1 11 181)::
(14,t7 13 3 "__main__" 164)::
(16,t1)::
(19,t2 "_wall" "_wall" (mA 0) (mB 0) (mC 0))::
(23,t10)::
(24,t24 P 203 "NetworkXException" 5 29)::
(25,tu)::
(26,t1)::
(27,t6 "NetworkXException" 198 5 25 181)::
(28,t7 27 24 "networkx.exception" 194)::
(33,t11 31)::
(34,t12 31)::
(36,t10)::
(37,t24 P 223 "NetworkXError" 7 42)::
(38,tu)::
(39,t1)::
(40,t6 "NetworkXError" 218 7 38 181)::
(41,t7 40 37 "networkx.exception" 194)::
(45,t11 44)::
(46,t12 44)::
(48,t10)::
(49,t24 P 239 "NetworkXAlgorithmError" 9 54)::
(50,tu)::
(51,t1)::
(52,t6 "NetworkXAlgorithmError" 234 9 50 181)::
(53,t7 52 49 "networkx.exception" 194)::
(57,t11 56)::
(58,t12 56)::
(60,t10)::
(61,t24 P 255 "NetworkXUnfeasible" 11 66)::
(62,tu)::
(63,t1)::
(64,t6 "NetworkXUnfeasible" 250 11 62 181)::
(65,t7 64 61 "networkx.exception" 194)::
(69,t11 68)::
(70,t12 68)::
(73,t1)::
(76,t2 "pairwise" "pairwise" (mA 7) (mB 7) (mC 7))::
(80,t1)::
(81,t2 "topological_generations" "topological_generations" (mA 9) (mB 9) (mC 9))::
(85,t1)::
(88,t2 "topological_sort" "topological_sort" (mA 10) (mB 10) (mC 10))::
(93,t1)::
(94,t2 "dag_longest_path" "dag_longest_path" (mA 11) (mB 11) (mC 11))::
(99,t1)::
(102,t2 "dag_longest_path_length" "dag_longest_path_length" (mA 12) (mB 12) (mC 12))::
(105,tu)::
(106,t10)::
(107,t28 P 328 "networkx.classes.coreviews" 319 "AtlasView" 76 334 112 "__init__" 342 119 "__len__" 349 126 "__iter__" "__getitem__" 364 "items" 380 154 382)::
(108,tu)::
(109,t29 79 118 82 132 88 91 94 153)::
(110,t6 "AtlasView" 323 76 108 181)::
(111,t7 110 107 "networkx.classes.coreviews" 319)::
(114,t1)::
(117,t2 "__init__" "AtlasView.__init__" (mA2 14 1) (mB2 14 1) (mC2 14 1))::
(121,t1)::
(124,t2 "__len__" "AtlasView.__len__" (mA2 14 2) (mB2 14 2) (mC2 14 2))::
(128,t1)::
(131,t2 "__iter__" "AtlasView.__iter__" (mA2 14 3) (mB2 14 3) (mC2 14 3))::
(135,t1)::
(138,t2 "__getitem__" "AtlasView.__getitem__" (mA2 14 4) (mB2 14 4) (mC2 14 4))::
(142,t1)::
(145,t2 "__contains__" "AtlasView.__contains__" (mA2 14 5) (mB2 14 5) (mC2 14 4))::
(149,t1)::
(152,t2 "items" "AtlasView.items" (mA2 14 6) (mB2 14 6) (mC2 14 6))::
(156,t5 "list" "_atlas" 333 1)::
(160,t11 158)::
(161,t12 158)::
(163,t10)::
(164,t31 P 395 "networkx.classes.coreviews" 319 "AdjacencyView" 96 "__slots__" 400 169 "__getitem__" 408)::
(165,tu)::
(166,Obj.mk .none none (.fields (.mk [n 99,n 4,r 175])) (.mk []))::
(167,t6 "AdjacencyView" 390 96 165 181)::
(168,t7 167 164 "networkx.classes.coreviews" 319)::
(171,t1)::
(174,t2 "__getitem__" "AdjacencyView.__getitem__" (mA2 15 1) (mB2 15 1) (mC2 15 1))::
(178,t0 "list")::
(181,t11 180)::
(182,t12 180)::
(185,t1)::
(188,t2 "_nbunch_iter" "_nbunch_iter" (mA 17) (mB 17) (mC 17))::
(191,tu)::
(192,t10)::
(193,t28 P 432 "networkx.classes.reportviews" 413 "NodeView" 117 438 198 "__init__" 446 205 "__len__" 453 212 "__iter__" "__getitem__" 468 "__call__" 485 241 487)::
(194,tu)::
(195,t29 120 204 123 218 129 132 135 240)::
(196,t6 "NodeView" 427 117 194 181)::
(197,t7 196 193 "networkx.classes.reportviews" 413)::
(200,t1)::
(203,t2 "__init__" "NodeView.__init__" (mA2 18 1) (mB2 18 1) (mC2 18 1))::
(207,t1)::
(210,t2 "__len__" "NodeView.__len__" (mA2 18 2) (mB2 18 2) (mC2 14 2))::
(214,t1)::
(217,t2 "__iter__" "NodeView.__iter__" (mA2 18 3) (mB2 18 3) (mC2 14 3))::
(221,t1)::
(224,t2 "__getitem__" "NodeView.__getitem__" (mA2 18 4) (mB2 18 4) (mC2 18 4))::
(228,t1)::
(231,t2 "__contains__" "NodeView.__contains__" (mA2 18 5) (mB2 18 5) (mC2 18 4))::
(236,t1)::
(239,t2 "__call__" "NodeView.__call__" (mA2 18 6) (mB2 18 6) (mC2 18 6))::
(243,t5 "list" "_nodes" 437 1)::
(247,t11 245)::
(248,t12 245)::
(249,tu)::
(250,t10)::
(251,Obj.mk (.type "dict") none (.dict (.mk [E P "__module__" 500 (v "networkx.classes.reportviews" 413),E P "__qualname__" 502 (v "DiDegreeView" 501),E P "__firstlineno__" 504 (.int 138 503),E P "__init__" 514 (r 263),E P "_from_view" 536 (r 272),E P "__call__" 545 (r 281),E P "__getitem__" 556 (r 288),E P "__iter__" 568 (r 295),E P "__len__" 575 (r 302),E P "__static_attributes__" 580 (r 303)]) 10) (.mk []))::
(252,tu)::
(253,t29 140 262 147 280 164 172 186 301)::
(254,t6 "DiDegreeView" 495 138 252 181)::
(255,t7 254 251 "networkx.classes.reportviews" 413)::
(258,t1)::
(261,t2 "__init__" "DiDegreeView.__init__" (mA2 19 0) (mB2 19 0) (mC2 19 0))::
(265,t1)::
(268,t2 "_from_view" "DiDegreeView._from_view" (mA2 19 1) (mB2 19 1) (mC2 19 1))::
(276,t1)::
(279,t2 "__call__" "DiDegreeView.__call__" (mA2 19 2) (mB2 19 2) (mC2 19 2))::
(283,t1)::
(286,t2 "__getitem__" "DiDegreeView.__getitem__" (mA2 19 3) (mB2 19 3) (mC2 19 3))::
(290,t1)::
(293,t2 "__iter__" "DiDegreeView.__iter__" (mA2 19 4) (mB2 19 4) (mC2 19 4))::
(297,t1)::
(300,t2 "__len__" "DiDegreeView.__len__" (mA2 19 5) (mB2 19 5) (mC2 14 2))::
(308,t11 305)::
(309,t12 305)::
(311,t10)::
(312,t31 P 595 "networkx.classes.reportviews" 413 "DegreeView" 188 "__getitem__" 609 323 "__iter__" 620)::
(313,tu)::
(314,t41 190 322)::
(315,t6 "DegreeView" 590 188 313 181)::
(316,t7 315 312 "networkx.classes.reportviews" 413)::
(318,t1)::
(321,t2 "__getitem__" "DegreeView.__getitem__" (mA2 20 0) (mB2 20 0) (mC2 20 0))::
(325,t1)::
(328,t2 "__iter__" "DegreeView.__iter__" (mA2 20 1) (mB2 20 1) (mC2 20 1))::
(334,t11 333)::
(335,t12 333)::
(337,t10)::
(338,t31 P 632 "networkx.classes.reportviews" 413 "InDegreeView" 208 "__getitem__" 646 349 "__iter__" 657)::
(339,tu)::
(340,t41 210 348)::
(341,t6 "InDegreeView" 627 208 339 181)::
(342,t7 341 338 "networkx.classes.reportviews" 413)::
(344,t1)::
(347,t2 "__getitem__" "InDegreeView.__getitem__" (mA2 21 0) (mB2 21 0) (mC2 20 0))::
(351,t1)::
(354,t2 "__iter__" "InDegreeView.__iter__" (mA2 21 1) (mB2 21 1) (mC2 21 1))::
(360,t11 359)::
(361,t12 359)::
(362,tu)::
(363,t10)::
(364,t42 P 669 "OutEdgeDataView" 228 681 369 "__init__" 688 376 695 383 703 714 722)::
(365,tu)::
(366,t43 231 375 249 252 389 255)::
(367,t6 "OutEdgeDataView" 664 228 365 181)::
(368,t7 367 364 "networkx.classes.reportviews" 413)::
(373,t1)::
(374,t2 "__init__" "OutEdgeDataView.__init__" (mA2 22 1) (mB2 22 1) (mC2 22 1))::
(378,t1)::
(381,t2 "__len__" "OutEdgeDataView.__len__" (mA2 22 2) (mB2 22 2) (mC2 22 2))::
(385,t1)::
(388,t2 "__iter__" "OutEdgeDataView.__iter__" (mA2 22 3) (mB2 22 3) (mC2 14 6))::
(392,t1)::
(395,t2 "__contains__" "OutEdgeDataView.__contains__" (mA2 22 4) (mB2 22 4) (mC2 22 4))::
(399,t23 "list" "_viewer" 674 "_nbunch" "_data" "_default" "_adjdict" "_nodes_nbrs" "_report" 1)::
(409,t11 401)::
(410,t12 401)::
(412,t10)::
(413,t47 P 747 "networkx.classes.reportviews" 413 "EdgeDataView" 264 "__slots__" 752 418 "__len__" 759 "__iter__" 771 432 "__contains__" 783)::
(414,tu)::
(415,t48 267 424 270)::
(416,t6 "EdgeDataView" 742 264 414 181)::
(417,t7 416 413 "networkx.classes.reportviews" 413)::
(420,t1)::
(423,t2 "__len__" "EdgeDataView.__len__" (mA2 23 1) (mB2 23 1) (mC2 22 2))::
(427,t1)::
(430,t2 "__iter__" "EdgeDataView.__iter__" (mA2 23 2) (mB2 23 2) (mC2 23 2))::
(434,t1)::
(437,t2 "__contains__" "EdgeDataView.__contains__" (mA2 23 3) (mB2 23 3) (mC2 22 4))::
(441,t0 "list")::
(444,t11 443)::
(445,t12 443)::
(446,tu)::
(447,t10)::
(448,t28 P 794 "networkx.classes.reportviews" 413 "OutEdgeView" 288 802 453 "dataview" 803 401 "__init__" 811 460 "__len__" "__iter__" 828 "__call__" 849 490 852)::
(449,tu)::
(450,Obj.mk .none none (.fields (.mk [n 292,n 4,r 459,n 296,n 4,r 466,n 299,n 4,r 473,n 304,n 4,r 480,n 311,n 4,r 489])) (.mk []))::
(451,t6 "OutEdgeView" 789 288 449 181)::
(452,t7 451 448 "networkx.classes.reportviews" 413)::
(455,t1)::
(458,t2 "__init__" "OutEdgeView.__init__" (mA2 24 2) (mB2 24 2) (mC2 24 2))::
(462,t1)::
(465,t2 "__len__" "OutEdgeView.__len__" (mA2 24 3) (mB2 24 3) (mC2 22 2))::
(469,t1)::
(472,t2 "__iter__" "OutEdgeView.__iter__" (mA2 24 4) (mB2 24 4) (mC2 24 4))::
(476,t1)::
(479,t2 "__contains__" "OutEdgeView.__contains__" (mA2 24 5) (mB2 24 5) (mC2 24 5))::
(485,t1)::
(488,t2 "__call__" "OutEdgeView.__call__" (mA2 24 6) (mB2 24 6) (mC2 24 6))::
(492,t9 "list" "_adjdict" 799 "_graph_ref" "_nodes_nbrs" 1)::
(498,t11 494)::
(499,t12 494)::
(501,t10)::
(502,t42 P 869 "EdgeView" 315 874 507 "dataview" 875 443 883 514 894 904 905)::
(503,tu)::
(504,t48 319 513 323)::
(505,t6 "EdgeView" 864 315 503 181)::
(506,t7 505 502 "networkx.classes.reportviews" 413)::
(509,t1)::
(512,t2 "__len__" "EdgeView.__len__" (mA2 25 2) (mB2 25 2) (mC2 25 2))::
(516,t1)::
(519,t2 "__iter__" "EdgeView.__iter__" (mA2 25 3) (mB2 25 3) (mC2 25 3))::
(523,t1)::
(526,t2 "__contains__" "EdgeView.__contains__" (mA2 25 4) (mB2 25 4) (mC2 25 4))::
(530,t0 "list")::
(533,t11 532)::
(534,t12 532)::
(536,tu)::
(537,t10)::
(538,t47 P 919 "functools" 909 "cached_property" 340 "__init__" 931 549 "__set_name__" 940 "__get__" 953 564 "__class_getitem__" 966)::
(539,tu)::
(540,t43 342 548 348 354 563 376)::
(541,t6 "cached_property" 914 340 539 181)::
(542,t7 541 538 "functools" 909)::
(544,t1)::
(547,t2 "__init__" "cached_property.__init__" (mA2 28 0) (mB2 28 0) (mC2 28 0))::
(551,t1)::
(554,t2 "__set_name__" "cached_property.__set_name__" (mA2 28 1) (mB2 28 1) (mC2 28 1))::
(559,t1)::
(562,t2 "__get__" "cached_property.__get__" (mA2 28 2) (mB2 28 2) (mC2 28 2))::
(566,t1)::
(569,t2 "__class_getitem__" "cached_property.__class_getitem__" (mA2 28 3) (mB2 28 3) (mC2 28 3))::
(578,t11 574)::
(579,t12 574)::
(580,tu)::
(581,t10)::
(582,Obj.mk (.type "dict") none (.dict (.mk [E P "__module__" 984 (v "networkx.classes.graph" 975),E P "__qualname__" 986 (v "Graph" 985),E P "__firstlineno__" 988 (.int 379 987),E P "node_dict_factory" 989 (.type "dict"),E P "node_attr_dict_factory" 990 (.type "dict"),E P "adjlist_outer_dict_factory" 991 (.type "dict"),E P "adjlist_inner_dict_factory" 992 (.type "dict"),E P "edge_attr_dict_factory" 993 (.type "dict"),E P "graph_attr_dict_factory" 994 (.type "dict"),E P "__init__" 1003 (r 594),E P "adj" 1022 (r 603),E P "__iter__" 1029 (r 611),E P "__contains__" 1037 (r 618),E P "__len__" 1044 (r 625),E P "__getitem__" 1052 (r 632),E P "add_node" 1061 (r 639),E P "add_nodes_from" 1074 (r 646),E P "remove_node" 1082 (r 653),E P "nodes" 1101 (r 662),E P "number_of_nodes" 1108 (r 670),E P "order" 1115 (r 677),E P "add_edge" 1125 (r 684),E P "add_edges_from" 1140 (r 691),E P "has_edge" 1149 (r 698),E P "neighbors" 1158 (r 705),E P "edges" 1177 (r 714),E P "get_edge_data" 1187 (r 723),E P "degree" 1206 (r 732),E P "is_multigraph" 1213 (r 740),E P "is_directed" 1220 (r 747),E P "copy" 1229 (r 755),E P "size" 1237 (r 763),E P "number_of_edges" 1246 (r 771),E P "nbunch_iter" 1254 (r 779),E P "__static_attributes__" 1258 (r 780)]) 35) (.mk []))::
(583,tu)::
(584,t38 387 4 593 396 399 610 402 617 408 624 631 414 638 417 434 652 438 441 669 444 676 447 683 450 476 697 479 486 711 489 722 493 729 496 739 499 746 502 754 509 762 512 770 515 778)::
(585,t6 "Graph" 979 379 583 181)::
(586,t7 585 582 "networkx.classes.graph" 975)::
(589,t1)::
(592,t2 "__init__" "Graph.__init__" (mA2 30 6) (mB2 30 6) (mC2 30 6))::
(596,t1)::
(599,t2 "adj" "Graph.adj" (mA2 30 7) (mB2 30 7) (mC2 30 7))::
(604,t15 P "frame" "self" 1010 603 "func" 601)::
(606,t1)::
(609,t2 "__iter__" "Graph.__iter__" (mA2 30 8) (mB2 30 8) (mC2 14 3))::
(613,t1)::
(616,t2 "__contains__" "Graph.__contains__" (mA2 30 9) (mB2 30 9) (mC2 30 9))::
(620,t1)::
(623,t2 "__len__" "Graph.__len__" (mA2 30 10) (mB2 30 10) (mC2 14 2))::
(627,t1)::
(630,t2 "__getitem__" "Graph.__getitem__" (mA2 30 11) (mB2 30 11) (mC2 18 4))::
(634,t1)::
(637,t2 "add_node" "Graph.add_node" (mA2 30 12) (mB2 30 12) (mC2 30 12))::
(641,t1)::
(644,t2 "add_nodes_from" "Graph.add_nodes_from" (mA2 30 13) (mB2 30 13) (mC2 30 13))::
(648,t1)::
(651,t2 "remove_node" "Graph.remove_node" (mA2 30 14) (mB2 30 14) (mC2 30 14))::
(655,t1)::
(658,t2 "nodes" "Graph.nodes" (mA2 30 15) (mB2 30 15) (mC2 30 15))::
(663,t15 P "frame" "self" 1089 662 "func" 660)::
(665,t1)::
(668,t2 "number_of_nodes" "Graph.number_of_nodes" (mA2 30 16) (mB2 30 16) (mC2 14 2))::
(672,t1)::
(675,t2 "order" "Graph.order" (mA2 30 17) (mB2 30 17) (mC2 14 2))::
(679,t1)::
(682,t2 "add_edge" "Graph.add_edge" (mA2 30 18) (mB2 30 18) (mC2 30 18))::
(686,t1)::
(689,t2 "add_edges_from" "Graph.add_edges_from" (mA2 30 19) (mB2 30 19) (mC2 30 19))::
(693,t1)::
(696,t2 "has_edge" "Graph.has_edge" (mA2 30 20) (mB2 30 20) (mC2 30 20))::
(700,t1)::
(703,t2 "neighbors" "Graph.neighbors" (mA2 30 21) (mB2 30 21) (mC2 30 21))::
(707,t1)::
(710,t2 "edges" "Graph.edges" (mA2 30 22) (mB2 30 22) (mC2 30 22))::
(715,t15 P "frame" "self" 1165 714 "func" 712)::
(718,t1)::
(721,t2 "get_edge_data" "Graph.get_edge_data" (mA2 30 23) (mB2 30 23) (mC2 30 23))::
(725,t1)::
(728,t2 "degree" "Graph.degree" (mA2 30 24) (mB2 30 24) (mC2 30 24))::
(733,t15 P "frame" "self" 1194 732 "func" 730)::
(735,t1)::
(738,t2 "is_multigraph" "Graph.is_multigraph" (mA2 30 25) (mB2 30 25) (mC2 30 25))::
(742,t1)::
(745,t2 "is_directed" "Graph.is_directed" (mA2 30 26) (mB2 30 26) (mC2 30 25))::
(750,t1)::
(753,t2 "copy" "Graph.copy" (mA2 30 27) (mB2 30 27) (mC2 30 27))::
(758,t1)::
(761,t2 "size" "Graph.size" (mA2 30 28) (mB2 30 28) (mC2 30 28))::
(766,t1)::
(769,t2 "number_of_edges" "Graph.number_of_edges" (mA2 30 29) (mB2 30 29) (mC2 30 20))::
(774,t1)::
(777,t2 "nbunch_iter" "Graph.nbunch_iter" (mA2 30 30) (mB2 30 30) (mC2 30 30))::
(785,t19 P 1264 603 782 "adj" 1022)::
(786,t19 P 1270 662 782 "nodes" 1101)::
(787,t19 P 1276 714 782 "edges" 1177)::
(788,t19 P 1282 732 782 "degree" 1206)::
(789,t11 782)::
(790,t12 782)::
(792,t10)::
(793,Obj.mk (.type "dict") none (.dict (.mk [E P "__module__" 1299 (v "networkx.classes.digraph" 1290),E P "__qualname__" 1301 (v "DiGraph" 1300),E P "__firstlineno__" 1303 (.int 518 1302),E P "__init__" 1312 (r 805),E P "adj" 1331 (r 814),E P "succ" 1350 (r 824),E P "pred" 1369 (r 834),E P "add_node" 1378 (r 842),E P "add_nodes_from" 1391 (r 849),E P "remove_node" 1399 (r 856),E P "add_edge" 1409 (r 863),E P "add_edges_from" 1424 (r 870),E P "successors" 1433 (r 877),E P "neighbors" 1434 (r 877),E P "predecessors" 1443 (r 884),E P "edges" 1462 (r 893),E P "out_edges" 1481 (r 903),E P "degree" 1500 (r 913),E P "in_degree" 1519 (r 923),E P "out_degree" 1538 (r 933),E P "is_multigraph" 1545 (r 941),E P "is_directed" 1552 (r 948),E P "__static_attributes__" 1558 (r 949)]) 23) (.mk []))::
(794,tu)::
(795,Obj.mk .none none (.fields (.mk (n 520::n 4::r 804::n 531::n 4::r 811::n 535::n 4::r 821::n 539::n 4::r 831::n 542::n 4::r 841::n 545::n 4::r 848::n 563::n 4::r 855::n 566::n 4::r 862::n 569::n 4::r 869::n 597::n 4::r 876::n 604::n 4::r 883::n 611::n 4::r 890::n 615::n 4::r 900::n 619::n 4::r 910::n 623::n 4::r 920::n 627::n 4::r 930::n 630::n 4::r 940::n 633::n 4::r 947::[]))) (.mk []))::
(796,t6 "DiGraph" 1294 518 794 181)::
(797,t7 796 793 "networkx.classes.digraph" 1290)::
(800,t1)::
(803,t2 "__init__" "DiGraph.__init__" (mA2 32 0) (mB2 32 0) (mC2 30 6))::
(807,t1)::
(810,t2 "adj" "DiGraph.adj" (mA2 32 1) (mB2 32 1) (mC2 30 7))::
(815,t15 P "frame" "self" 1319 814 "func" 812)::
(817,t1)::
(820,t2 "succ" "DiGraph.succ" (mA2 32 2) (mB2 32 2) (mC2 30 7))::
(825,t15 P "frame" "self" 1338 824 "func" 822)::
(827,t1)::
(830,t2 "pred" "DiGraph.pred" (mA2 32 3) (mB2 32 3) (mC2 30 7))::
(835,t15 P "frame" "self" 1357 834 "func" 832)::
(837,t1)::
(840,t2 "add_node" "DiGraph.add_node" (mA2 32 4) (mB2 32 4) (mC2 30 12))::
(844,t1)::
(847,t2 "add_nodes_from" "DiGraph.add_nodes_from" (mA2 32 5) (mB2 32 5) (mC2 30 13))::
(851,t1)::
(854,t2 "remove_node" "DiGraph.remove_node" (mA2 32 6) (mB2 32 6) (mC2 30 14))::
(858,t1)::
(861,t2 "add_edge" "DiGraph.add_edge" (mA2 32 7) (mB2 32 7) (mC2 30 18))::
(865,t1)::
(868,t2 "add_edges_from" "DiGraph.add_edges_from" (mA2 32 8) (mB2 32 8) (mC2 30 19))::
(872,t1)::
(875,t2 "successors" "DiGraph.successors" (mA2 32 9) (mB2 32 9) (mC2 30 21))::
(879,t1)::
(882,t2 "predecessors" "DiGraph.predecessors" (mA2 32 11) (mB2 32 11) (mC2 30 21))::
(886,t1)::
(889,t2 "edges" "DiGraph.edges" (mA2 32 12) (mB2 32 12) (mC2 32 12))::
(894,t15 P "frame" "self" 1450 893 "func" 891)::
(896,t1)::
(899,t2 "out_edges" "DiGraph.out_edges" (mA2 32 13) (mB2 32 13) (mC2 32 13))::
(904,t15 P "frame" "self" 1469 903 "func" 901)::
(906,t1)::
(909,t2 "degree" "DiGraph.degree" (mA2 32 14) (mB2 32 14) (mC2 32 14))::
(914,t15 P "frame" "self" 1488 913 "func" 911)::
(916,t1)::
(919,t2 "in_degree" "DiGraph.in_degree" (mA2 32 15) (mB2 32 15) (mC2 32 15))::
(924,t15 P "frame" "self" 1507 923 "func" 921)::
(926,t1)::
(929,t2 "out_degree" "DiGraph.out_degree" (mA2 32 16) (mB2 32 16) (mC2 32 13))::
(934,t15 P "frame" "self" 1526 933 "func" 931)::
(936,t1)::
(939,t2 "is_multigraph" "DiGraph.is_multigraph" (mA2 32 17) (mB2 32 17) (mC2 30 25))::
(943,t1)::
(946,t2 "is_directed" "DiGraph.is_directed" (mA2 32 18) (mB2 32 18) (mC2 30 25))::
(952,t19 P 1560 814 951 "adj" 1331)::
(953,t19 P 1566 824 951 "succ" 1350)::
(954,t19 P 1572 834 951 "pred" 1369)::
(955,t19 P 1578 893 951 "edges" 1462)::
(956,t19 P 1584 903 951 "out_edges" 1481)::
(957,t19 P 1590 913 951 "degree" 1500)::
(958,t19 P 1596 923 951 "in_degree" 1519)::
(959,t19 P 1602 933 951 "out_degree" 1538)::
(960,t11 951)::
(961,t12 951)::
(963,t1)::
(964,t2 "law" "law" (mA 34) (mB 34) (mC 34))::[]
noncomputable def as:List Addr:=2::3::15::17::18::20::21::22::29::30::31::32::35::42::43::44::47::54::55::56::59::66::67::68::71::72::74::75::77::78::79::82::83::84::86::87::89::90::91::92::95::96::97::98::100::101::103::104::112::113::115::116::118::119::120::122::123::125::126::127::129::130::132::133::134::136::137::139::140::141::143::144::146::147::148::150::151::153::154::155::157::158::159::162::169::170::172::173::175::176::177::179::180::183::184::186::187::189::190::198::199::201::202::204::205::206::208::209::211::212::213::215::216::218::219::220::222::223::225::226::227::229::230::232::233::234::235::237::238::240::241::242::244::245::246::256::257::259::260::262::263::264::266::267::269::270::271::272::273::274::275::277::278::280::281::282::284::285::287::288::289::291::292::294::295::296::298::299::301::302::303::304::305::306::307::310::317::319::320::322::323::324::326::327::329::330::331::332::333::336::343::345::346::348::349::350::352::353::355::356::357::358::359::369::370::371::372::375::376::377::379::380::382::383::384::386::387::389::390::391::393::394::396::397::398::400::401::402::403::404::405::406::407::408::411::418::419::421::422::424::425::426::428::429::431::432::433::435::436::438::439::440::442::443::453::454::456::457::459::460::461::463::464::466::467::468::470::471::473::474::475::477::478::480::481::482::483::484::486::487::489::490::491::493::494::495::496::497::500::507::508::510::511::513::514::515::517::518::520::521::522::524::525::527::528::529::531::532::535::543::545::546::548::549::550::552::553::555::556::557::558::560::561::563::564::565::567::568::570::571::572::573::574::575::576::577::587::588::590::591::593::594::595::597::598::600::601::602::603::605::607::608::610::611::612::614::615::617::618::619::621::622::624::625::626::628::629::631::632::633::635::636::638::639::640::642::643::645::646::647::649::650::652::653::654::656::657::659::660::661::662::664::666::667::669::670::671::673::674::676::677::678::680::681::683::684::685::687::688::690::691::692::694::695::697::698::699::701::702::704::705::706::708::709::711::712::713::714::716::717::719::720::722::723::724::726::727::729::730::731::732::734::736::737::739::740::741::743::744::746::747::748::749::751::752::754::755::756::757::759::760::762::763::764::765::767::768::770::771::772::773::775::776::778::779::780::781::782::783::784::791::798::799::801::802::804::805::806::808::809::811::812::813::814::816::818::819::821::822::823::824::826::828::829::831::832::833::834::836::838::839::841::842::843::845::846::848::849::850::852::853::855::856::857::859::860::862::863::864::866::867::869::870::871::873::874::876::877::878::880::881::883::884::885::887::888::890::891::892::893::895::897::898::900::901::902::903::905::907::908::910::911::912::913::915::917::918::920::921::922::923::925::927::928::930::931::932::933::935::937::938::940::941::942::944::945::947::948::949::950::951::962::965::966::[]
noncomputable def mg:Nat->Frag->Frag->List Obj
 | 0,_,_=>[]
 | _+1,[],[]=>[]
 | f+1,[],(_,p)::k=>p :: mg f [] k
 | f+1,(_,o)::k,[]=>o :: mg f k []
 | f+1,(a,o)::k,(b,p)::l=>bif Nat.ble a b then o :: mg f k ((b,p)::l) else p :: mg f ((a,o)::k) l
noncomputable def sel:List Obj->Bool->List Obj
 | [],_=>[]
 | a :: l,b=>bif b then a :: sel l false else sel l true
noncomputable def bt:Nat->List Obj->BT
 | 0,_=>.nil
 | _+1,[]=>.nil
 | k+1,a :: l=>.node a (bt k (sel l true)) (bt k (sel l false))
noncomputable def L (P:Params):List Obj:=mg 967 (K P) (R P)
noncomputable def T (P:Params) (m k:Nat) (a:String) (t j:Nat):BT:=((bt 11 ((L P).take m)).set 3 λ _=>g3 P k a t).set 12 λ _=>g12 j
noncomputable def S (T:BT) (w:World) (m tk:Nat) (os:OsState):SharedT:=⟨T,m,(boot_heap w.params).life,.mk [],⟨0,0,0,0⟩,tk,os⟩
noncomputable def ev:Env:={ scope:=pw.main.scope,locals:=mainNs,globals:=mainNs,cells:=[],code:=.ref 13,frame:=some 14 }
noncomputable abbrev cE:Code:=.body (behindTheImports pw) ev
noncomputable abbrev stm (i k:Nat):List Stmt:=((behindTheImports pw).drop i).take k
noncomputable abbrev tB:List Frame:=[topFrame ⟨0,0,0,0⟩]
noncomputable def S0 (w:World) (os:OsState):SharedT:=S ((T w.params 15 8 "__main__" 164 0).set 2 λ _=>Obj.mk .none none (.dict (.mk []) 0) (.mk [])) w 15 187 os
noncomputable def S1 (w:World) (os:OsState):SharedT:=S (T w.params 105 18 "networkx.classes.coreviews" 319 30) w 105 321 os
noncomputable def S2 (w:World) (os:OsState):SharedT:=S (T w.params 249 22 "networkx.classes.reportviews" 413 42) w 249 493 os
noncomputable def S3 (w:World) (os:OsState):SharedT:=S (T w.params 362 25 "networkx.classes.reportviews" 413 51) w 362 662 os
noncomputable def S4 (w:World) (os:OsState):SharedT:=S (T w.params 535 29 "networkx.classes.reportviews" 413 63) w 535 909 os
noncomputable def S5 (w:World) (os:OsState):SharedT:=S (T w.params 580 31 "networkx.classes.graph" 975 66) w 580 977 os
noncomputable def S6 (w:World) (os:OsState):SharedT:=S ((T w.params 791 32 "networkx.classes.graph" 975 69).set 782 λ _=>Obj.mk (.type "type") none (.cls (ClassData.mk (s "Graph") [.type "object"] [r 782,.type "object"] 781 (s "Graph") true [] [] false none false)) (.mk [none,none,some (v "Graph" 977),some (v "Graph" 985),some (.builtin "object.__new__"),some (.bool true)])) w 791 1290 os
noncomputable def S7 (w:World) (os:OsState):SharedT:=S (T w.params 962 33 "networkx.classes.digraph" 1290 72) w 962 1610 os
noncomputable def S8 (w:World) (os:OsState):SharedT:=S (T w.params 967 34 "law_bf0026_01" 1610 75) w 967 1618 os
theorem i9 {p w m ann k s t r} (h:Fast.tw10110043849684766642 Fast.tw14364793385576792824 p w m ann 1 k s t = r):segRunT treeTable p w m ann 1 k s t = r:=by
 rw [Fast.te10110043849684766642,Fast.te14364793385576792824];exact h
theorem p1 (w:World) (os:OsState):segRun treeTable pw w 11 (some (.ref 6)) 1 1075 (S0 w os).abs (piecesOf (stm 0 14) ev cE ⟨0,0,0,0⟩ tB) = some (.next,(S1 w os).abs,cE,⟨75,0,75,8⟩):=segRun_of (i9 (by kernel_rfl))
theorem p2 (w:World) (os:OsState):segRun treeTable pw w 11 (some (.ref 6)) 1 1113 (S1 w os).abs (piecesOf (stm 14 5) ev cE ⟨75,0,75,8⟩ tB) = some (.next,(S2 w os).abs,cE,⟨117,0,137,23⟩):=segRun_of (i9 (by kernel_rfl))
theorem p3 (w:World) (os:OsState):segRun treeTable pw w 11 (some (.ref 6)) 1 1093 (S2 w os).abs (piecesOf (stm 19 3) ev cE ⟨117,0,137,23⟩ tB) = some (.next,(S3 w os).abs,cE,⟨208,0,227,30⟩):=segRun_of (i9 (by kernel_rfl))
theorem p4 (w:World) (os:OsState):segRun treeTable pw w 11 (some (.ref 6)) 1 1516 (S3 w os).abs (piecesOf (stm 22 4) ev cE ⟨208,0,227,30⟩ tB) = some (.next,(S4 w os).abs,cE,⟨315,0,337,24⟩):=segRun_of (i9 (by kernel_rfl))
theorem p5 (w:World) (os:OsState):segRun treeTable pw w 11 (some (.ref 6)) 1 379 (S4 w os).abs (piecesOf (stm 26 4) ev cE ⟨315,0,337,24⟩ tB) = some (.next,(S5 w os).abs,cE,⟨378,0,378,8⟩):=segRun_of (i9 (by kernel_rfl))
theorem p6 (w:World) (os:OsState):segRun treeTable pw w 11 (some (.ref 6)) 1 2243 (S5 w os).abs (piecesOf (stm 30 1) ev cE ⟨378,0,378,8⟩ tB) = some (.next,(S6 w os).abs,cE,⟨379,0,516,46⟩):=segRun_of (i9 (by kernel_rfl))
theorem p7 (w:World) (os:OsState):segRun treeTable pw w 11 (some (.ref 6)) 1 3121 (S6 w os).abs (piecesOf (stm 31 2) ev cE ⟨379,0,516,46⟩ tB) = some (.next,(S7 w os).abs,cE,⟨518,0,634,19⟩):=segRun_of (i9 (by kernel_rfl))
theorem p8 (w:World) (os:OsState):segRun treeTable pw w 11 (some (.ref 6)) 1 36 (S7 w os).abs (piecesOf (stm 33 2) ev cE ⟨518,0,634,19⟩ tB) = some (.next,(S8 w os).abs,cE,⟨636,0,659,63⟩):=segRun_of (i9 (by kernel_rfl))
theorem pre (w:World) (os:OsState):topGo treeTable pw w 11 (some (.ref 6)) 12 ⟨boot_heap w.params,.mk [],boot_drawn,boot_toks,os⟩ (topStub pw) = some ((S0 w os).abs,⟨denote treeTable cE,cE,⟨0,0,0,0⟩,tB⟩):=by
 rw [Fast.te15667345088766844465,Fast.te14364793385576792824,Fast.te11892475500146522536];kernel_rfl
theorem blk (w:World) (os:OsState):segRun treeTable pw w 11 (some (.ref 6)) 1 1 (S0 w os).abs (blockOf (behindTheImports pw) ev cE ⟨0,0,0,0⟩ tB) = some (.next,(S0 w os).abs,cE,⟨0,0,0,0⟩):=by
 rw [Fast.te14374325043358763698,Fast.te14364793385576792824];kernel_rfl
noncomputable def H1 (P:Params):Heap:=⟨.mk (L P),(boot_heap P).life⟩
theorem fin (w:World) (os:OsState):topRun treeTable pw w 11 (some (.ref 6)) 2 (S8 w os).abs ⟨doneF .next,cE,⟨636,0,659,63⟩,tB⟩ = some ⟨H1 w.params,.mk [],⟨0,0,0,0⟩,1618,os⟩:=by
 rw [Fast.te14082659384304107361,Fast.te14364793385576792824];kernel_rfl
theorem cut:behindTheImports pw = stm 0 14++(stm 14 5++(stm 19 3++(stm 22 4++(stm 26 4++(stm 30 1++(stm 31 2++(stm 33 2++[]))))))):=by kernel_rfl
theorem run (w:World) (os:OsState):topRun treeTable pw w 11 (some (.ref 6)) (12 + (1 + (1075 + (1113 + (1093 + (1516 + (379 + (2243 + (3121 + (36 + 2)))))))))) ⟨boot_heap w.params,.mk [],boot_drawn,boot_toks,os⟩ (topStub pw) = some ⟨H1 w.params,.mk [],⟨0,0,0,0⟩,1618,os⟩ :=
 go_top (pre w os) (piece_block (blk w os) (by
  have h:=piece_app (p1 w os) (piece_app (p2 w os) (piece_app (p3 w os) (piece_app (p4 w os) (piece_app (p5 w os) (piece_app (p6 w os) (piece_app (p7 w os) (piece_app (p8 w os) (piece_nil (env:=ev) (fin w os)))))))))
  rw [show restOf (behindTheImports pw) ev cE ⟨0,0,0,0⟩ tB = restOf (stm 0 14++(stm 14 5++(stm 19 3++(stm 22 4++(stm 26 4++(stm 30 1++(stm 31 2++(stm 33 2++[])))))))) ev cE ⟨0,0,0,0⟩ tB from congrArg (λ l=>restOf l ev cE ⟨0,0,0,0⟩ tB) cut]
  exact h))
end Z0
end
set_option maxRecDepth 512
set_option maxHeartbeats 200000
theorem G1 {v j n:Nat} (h:v + (j + 1) = n):((n:Int) - ((v:Int) + 1)).toNat = j:=by omega
theorem G3 {a v k j n:Nat} (h:a≤v * 6 + (k - (v + 1))) (f7:v < k) (f:k + (j + 1) = n) (hn:n≤6):a≤50:=by omega
theorem G4 {a b v k:Nat} (h:a≤v * 6 + (k - (v + 1))) (q:b≤a + 1) (f7:v < k):b≤v * 6 + (k + 1 - (v + 1)):=by omega
theorem G6 {a v k j n:Nat} (h:a≤v * 6 + (k - (v + 1))) (f:k + j = n) (hj:j = 0) (hn:n≤6):a≤(v + 1) * 6:=by omega
theorem G7 {a v j n:Nat} (h:a≤v * 6) (f:v + j = n) (hj:j = 0) (hn:n≤6):a≤36:=by omega
local macro_rules | `(tactic| walk_at "r")=>`(tactic| first | (with_reducible first | assumption | exact A7 | exact A3 | exact A1 ‹_› | exact A2 ‹_› | exact A4 ‹_› | exact A5 ‹_› | exact A6 ‹_› | exact B1 ‹_› ‹_› | exact B2 ‹_› ‹_› | exact B3 ‹_› ‹_› ‹_› | exact B4 ‹_› ‹_› | exact B5 ‹_› ‹_› | exact B6 ‹_› ‹_› | exact A8 ‹_› ‹_› | exact A9 ‹_› ‹_› ‹_› | exact C1 ‹_› ‹_› | exact C2 ‹_› | exact C3 ‹_› | exact C4 ‹_› ‹_› ‹_› | exact E1 ‹_› | exact E2 ‹_› | exact E3 ‹_› | exact E4 ‹_› | exact E5 ‹_› | exact E6 ‹_› ‹_› | exact E7 ‹_› ‹_› ‹_› | exact E8 ‹_› | exact E9 ‹_› | exact lt6 _ ‹_›) | lia | omega)
noncomputable def cv:Value->Value
 | .int i _=>.int i 0
 | .float b _=>.float b 0
 | .str s _=>.str s 0
 | .bytes b _=>.bytes b 0
 | v=>v
theorem ap {v:Value} {i:Int} (h:cv v = .int i 0):∃ t,v = .int i t:=by
 cases v <;> simp_all [cv]
theorem cW {v:Value} {x:Str} (h:cv v = .str x 0):∃ t,v = .str x t:=by
 cases v <;> simp_all [cv]
theorem ak {v:Value} {a:Addr} (h:cv v = .ref a):v = .ref a:=by
 cases v <;> simp_all [cv]
theorem bS {v:Value} {a:Bool} (h:cv v = .bool a):v = .bool a:=by
 cases v <;> simp_all [cv]
theorem ce {v:Value} (h:cv v = .none):v = .none:=by
 cases v <;> simp_all [cv]
theorem ca {v:Value} {n:String} (h:cv v = .type n):v = .type n:=by
 cases v <;> simp_all [cv]
theorem bX {v:Value} {n:String} (h:cv v = .builtin n):v = .builtin n:=by
 cases v <;> simp_all [cv]
inductive AObj where
 | frame (m:Str->Option Value)
 | cell (v:Option Value)
 | list (vs:List Value)
 | tup (vs:List Value)
 | idict (kvs:List (Int×Value))
 | idictE (kvs:List (Int×Value)) (ep:Nat)
 | tdict (kvs:List (List Int×Value))
 | sdict (kvs:List (Str×Value))
 | inst (C d:Addr)
 | raw (o:Obj)
 | is (P:Obj->Prop)
section
variable (prog:Program) (w:World)
noncomputable def Real (h:Heap) (a:Addr):AObj->Prop
 | .frame m=>∃ m0,h.Ns a m0∧∀ x,(m0 x).map cv = m x
 | .cell v=>∃ v0,h.IsCell a v0∧v0.map cv = v
 | .list vs=>∃ items,h.PlainList a items∧items.toList.map cv = vs
 | .tup vs=>∃ items,h.IsTuple a items∧items.toList.map cv = vs
 | .idict kvs=>∃ kvs0,h.DictOf (intKind prog w) a kvs0∧kvs0.map (λ x=>(x.1,cv x.2)) = kvs
 | .idictE kvs ep=>∃ kvs0,h.DictAt (intKind prog w) a kvs0 ep∧kvs0.map (λ x=>(x.1,cv x.2)) = kvs
 | .tdict kvs=>∃ xs,h.DictOfH (tupleKind (intKind prog w)) a xs∧xs.map (λ x=>(x.1,cv x.2.2)) = kvs
 | .sdict kvs=>∃ kvs0,h.DictOf (strKind prog w) a kvs0∧kvs0.map (λ x=>(x.1,cv x.2)) = kvs
 | .inst C d=>h.get? a = some (instObj C d)
 | .raw o=>h.get? a = some o
 | .is P=>∃ o,h.get? a = some o∧P o
noncomputable def NT (h:Heap) (b:Addr):Prop:=∀ o,h.get? b = some o->o.cls = .type "tuple"->∀ xs n,o.data≠.seq xs n
end
section
variable {w:World}
theorem Real.lt {h:Heap} {a:Addr} {o:AObj} (x:Real prog w h a o):a < h.objs.size:=by
 cases o with
 | frame m=>revert x;refine λ zq=>ac zq λ zz x zz=>?_;clear zq;exact x.lt
 | cell m=>revert x;refine λ zq=>ac zq λ zz x zz=>?_;clear zq;exact x.lt
 | list m=>refine ac x λ zz zh1 zz=>?_;clear x;refine ai zh1 λ zz x=>?_;clear zh1;exact Heap.lt_size x
 | tup m=>refine ac x λ zz zh1 zz=>?_;clear x;refine ac zh1 λ zz x zz=>?_;clear zh1;exact Heap.lt_size x
 | idict m=>refine ac x λ zz zh1 zz=>?_;clear x;refine eZ zh1 λ zz zz zz x zz=>?_;clear zh1;exact Heap.lt_size x
 | idictE m=>refine ac x λ zz zh1 zz=>?_;clear x;refine bC zh1 λ zz zz x zz=>?_;clear zh1;exact Heap.lt_size x
 | tdict m=>refine ac x λ zz zh1 zz=>?_;clear x;refine eZ zh1 λ zz zz zz x zz=>?_;clear zh1;exact Heap.lt_size x
 | sdict m=>refine ac x λ zz zh1 zz=>?_;clear x;refine eZ zh1 λ zz zz zz x zz=>?_;clear zh1;exact Heap.lt_size x
 | inst _ _=>exact Heap.lt_size x
 | raw _=>exact Heap.lt_size x
 | is _=>revert x;refine λ zq=>ac zq λ zz x zz=>?_;clear zq;exact Heap.lt_size x
theorem eF {h h':Heap} {a:Addr} {xs:List (List Int×Addr×Value)} (x:h.DictOfH (tupleKind (intKind prog w)) a xs)
  (ha:∀ o,h.get? a = some o->h'.get? a = some o) (hk:∀ b o xs n,h.get? b = some o->o.cls = .type "tuple"->o.data = .seq xs n->h'.get? b = some o):h'.DictOfH (tupleKind (intKind prog w)) a xs:=by
 refine ir x λ o es ep ho hc hd he hi hn=>?_;clear x
 refine (eN o es ep (ha _ ho) hc hd he (λ x hx=>?_) hn)
 refine dq (hi x hx) λ o' items n h1 h2 h3 h4=>?_
 exact (dW o' items n (hk _ _ _ _ h1 h2 h3) h2 h3 h4)
theorem Real.keeps {h h':Heap} {a:Addr} {o:AObj} (x:Real prog w h a o) (k:∀ b o,h.get? b = some o->h'.get? b = some o):Real prog w h' a o:=by
 cases o with
 | frame m=>revert x;refine λ zq=>ac zq λ zz x r=>?_;clear zq;exact (ad _ (x.keeps k) r)
 | cell m=>revert x;refine λ zq=>ac zq λ zz x r=>?_;clear zq;exact (ad _ (x.keeps k) r)
 | list m=>refine ac x λ zz zh1 r=>?_;clear x;refine ai zh1 λ n x=>?_;clear zh1;exact (ad _ ⟨n,k _ _ x⟩ r)
 | tup m=>refine ac x λ zz zh1 r=>?_;clear x;refine ac zh1 λ o x r'=>?_;clear zh1;exact (ad _ (ad o (k _ _ x) r') r)
 | idict m=>refine ac x λ zz zh1 r=>?_;clear x;refine eZ zh1 λ o es ep x r'=>?_;clear zh1;exact (ad _ (cc o es ep (k _ _ x) r') r)
 | idictE m=>refine ac x λ zz zh1 r=>?_;clear x;refine bC zh1 λ o es x r'=>?_;clear zh1;exact (ad _ (br o es (k _ _ x) r') r)
 | tdict m=>revert x;refine λ zq=>ac zq λ zz x r=>?_;clear zq;exact (ad _ (eF x (λ o e=>k _ _ e) (λ b o _ _ e _ _=>k _ _ e)) r)
 | sdict m=>refine ac x λ zz zh1 r=>?_;clear x;refine eZ zh1 λ o es ep x r'=>?_;clear zh1;exact (ad _ (cc o es ep (k _ _ x) r') r)
 | inst _ _=>exact k _ _ x
 | raw _=>exact k _ _ x
 | is _=>revert x;refine λ zq=>ac zq λ o x r=>?_;clear zq;exact (ad o (k _ _ x) r)
theorem Real.sameBut {h h':Heap} {a b:Addr} {o:AObj} (x:Real prog w h a o) (hs:Heap.ExtBut b h h') (hab:a≠b) (ht:NT h b):Real prog w h' a o:=by
 cases o with
 | frame m=>revert x;refine λ zq=>ac zq λ zz x r=>?_;clear zq;exact (ad _ (x.extBut hs hab) r)
 | cell m=>refine ac x λ zz zh1 r=>?_;clear x;refine ac zh1 λ o x r'=>?_;clear zh1;exact (ad _ (ad o (hs _ _ hab x) r') r)
 | list m=>refine ac x λ zz zh1 r=>?_;clear x;refine ai zh1 λ n x=>?_;clear zh1;exact (ad _ ⟨n,hs _ _ hab x⟩ r)
 | tup m=>refine ac x λ zz zh1 r=>?_;clear x;refine ac zh1 λ o x r'=>?_;clear zh1;exact (ad _ (ad o (hs _ _ hab x) r') r)
 | idict m=>refine ac x λ zz zh1 r=>?_;clear x;refine eZ zh1 λ o es ep x r'=>?_;clear zh1;exact (ad _ (cc o es ep (hs _ _ hab x) r') r)
 | idictE m=>refine ac x λ zz zh1 r=>?_;clear x;refine bC zh1 λ o es x r'=>?_;clear zh1;exact (ad _ (br o es (hs _ _ hab x) r') r)
 | tdict m=>
  revert x;refine λ zq=>ac zq λ zz x r=>?_;clear zq
  refine (ad _ (eF x (λ o e=>hs _ _ hab e) (λ c o xs n e hc hd=>hs _ _ (λ q=>?_) e)) r)
  subst q;exact ht _ e hc _ _ hd
 | sdict m=>refine ac x λ zz zh1 r=>?_;clear x;refine eZ zh1 λ o es ep x r'=>?_;clear zh1;exact (ad _ (cc o es ep (hs _ _ hab x) r') r)
 | inst _ _=>exact hs _ _ hab x
 | raw _=>exact hs _ _ hab x
 | is _=>revert x;refine λ zq=>ac zq λ o x r=>?_;clear zq;exact (ad o (hs _ _ hab x) r)
theorem NT.ns {h:Heap} {b:Addr} {m} (x:h.Ns b m):NT h b:=by
 refine kY x λ o es ep ho hd zz=>?_;clear x
 intro o' ho' _ xs n q
 rw [ho] at ho';cases ho';rw [hd] at q;cases q
theorem NT.cell {h:Heap} {b:Addr} {m} (x:h.IsCell b m):NT h b:=by
 refine ac x λ o ho hd=>?_;clear x
 intro o' ho' _ xs n q
 rw [ho] at ho';cases ho';rw [hd] at q;cases q
theorem NT.list {h:Heap} {b:Addr} {m} (x:h.IsList b m):NT h b:=by
 refine aU x λ o ho hc hd=>?_;clear x
 intro o' ho' hc' xs n q
 rw [ho] at ho';cases ho';rw [hc] at hc';exact absurd hc' (by decide)
theorem NT.data {h:Heap} {b:Addr} {o:Obj} (ho:h.get? b = some o) (hd:∀ xs n,o.data≠.seq xs n):NT h b:=by
 intro o' ho' _ xs n q
 rw [ho] at ho';cases ho';exact hd _ _ q
theorem NT.dict {h:Heap} {b:Addr} {o:Obj} {es ep} (ho:h.get? b = some o) (hd:o.data = .dict es ep):NT h b :=
 NT.data ho λ xs n q=>by rw [hd] at q;cases q
theorem NT.fields {h:Heap} {b:Addr} {o:Obj} {vs} (ho:h.get? b = some o) (hd:o.data = .fields vs):NT h b :=
 NT.data ho λ xs n q=>by rw [hd] at q;cases q
structure GW (g:List (Nat×GenState)) (arr:Array GenState):Prop where
 at_:∀ p∈g,arr[p.1]? = some p.2
 nd:(g.map (·.1)).Nodup
 bare:∀ x∈arr,x.bare = true
end
section
variable (prog:Program) (w:World)
structure W (B:Heap) (g:List (Nat×GenState)) (os:OsState) (σ:List (Addr×AObj)) (s:Shared):Prop where
 keep:∀ b o,B.get? b = some o->s.heap.get? b = some o
 own:∀ p∈σ,Real prog w s.heap p.1 p.2
 off:∀ p∈σ,B.get? p.1 = none∧p.1≠sysModules
 nd:(σ.map (·.1)).Nodup
 gens:GW g s.gens
 eos:s.os = os
 sm:∃ o,B.get? cStatics = some o
end
section
variable {w:World}
variable {B:Heap} {g:List (Nat×GenState)} {os:OsState} {σ:List (Addr×AObj)} {s:Shared}
theorem W.toks (H:W prog w B g os σ s) {s':Shared} (e1:s'.heap = s.heap) (e2:s'.gens = s.gens) (e3:s'.os = s.os):W prog w B g os σ s' :=
 ⟨λ b o e=>e1▸H.keep b o e,λ p hp=>e1▸H.own p hp,H.off,H.nd,e2▸H.gens,e3.trans H.eos,H.sm⟩
theorem W.tok (H:W prog w B g os σ s) {t:Nat}:W prog w B g os σ { s with toks:=t }:=H.toks rfl rfl rfl
theorem W.grow (H:W prog w B g os σ s) {h':Heap} {t:Nat} (k:∀ b o,s.heap.get? b = some o->h'.get? b = some o):W prog w B g os σ { s with heap:=h',toks:=t } :=
 ⟨λ b o e=>k _ _ (H.keep b o e),λ p hp=>(H.own p hp).keeps k,H.off,H.nd,H.gens,H.eos,H.sm⟩
theorem W.push (H:W prog w B g os σ s) {o:Obj} {t:Nat}:W prog w B g os σ { s with heap:=s.heap.push o,toks:=t } :=
 H.grow λ _ _ e=>Heap.get?_push_of_some _ e
theorem W.offNew (H:W prog w B g os σ s) {a:Addr} (ha:s.heap.objs.size≤a):B.get? a = none∧a≠sysModules:=by
 refine ⟨?_,λ q=>?_⟩
 ·cases q:B.get? a with
  | none=>rfl
  | some o=>exact absurd (Heap.lt_size (H.keep _ _ q)) (Nat.not_lt.mpr ha)
 ·refine ai H.sm λ o e=>?_
  have h1:=Heap.lt_size (H.keep _ _ e)
  rw [q] at ha
  exact absurd (Nat.lt_of_lt_of_le h1 ha) (by decide)
theorem W.add (H:W prog w B g os σ s) {h':Heap} {t:Nat} {a:Addr} {ao:AObj} (k:∀ b o,s.heap.get? b = some o->h'.get? b = some o) (ha:s.heap.objs.size≤a) (hr:Real prog w h' a ao) :
  W prog w B g os ((a,ao) :: σ) { s with heap:=h',toks:=t }:=by
 have H':=H.grow (t:=t) k
 refine ⟨H'.keep,λ p hp=>?_,λ p hp=>?_,?_,H.gens,H.eos,H.sm⟩
 ·rcases List.mem_cons.mp hp with rfl | hp
  ·exact hr
  ·exact H'.own p hp
 ·rcases List.mem_cons.mp hp with rfl | hp
  ·exact H.offNew ha
  ·exact H.off p hp
 ·rw [List.map_cons,List.nodup_cons]
  refine ⟨λ hm=>?_,H.nd⟩
  refine ac (List.mem_map.mp hm) λ p hp e=>?_
  exact absurd (H.own p hp).lt (Nat.not_lt.mpr (e▸ha))
theorem W.drop {p:Addr×AObj} (H:W prog w B g os (p :: σ) s):W prog w B g os σ s :=
 ⟨H.keep,λ q hq=>H.own q (.tail _ hq),λ q hq=>H.off q (.tail _ hq),(List.nodup_cons.mp H.nd).2,H.gens,H.eos,H.sm⟩
theorem W.perm {σ':List (Addr×AObj)} (H:W prog w B g os σ s) (hp:σ.Perm σ'):W prog w B g os σ' s :=
 ⟨H.keep,λ p hm=>H.own p (hp.mem_iff.mpr hm),λ p hm=>H.off p (hp.mem_iff.mpr hm),((hp.map (·.1)).nodup_iff).mp H.nd,H.gens,H.eos,H.sm⟩
theorem W.sub {σ':List (Addr×AObj)} (H:W prog w B g os σ s) (hp:σ'.Sublist σ):W prog w B g os σ' s :=
 ⟨H.keep,λ p hm=>H.own p (hp.subset hm),λ p hm=>H.off p (hp.subset hm),H.nd.sublist (hp.map (·.1)),H.gens,H.eos,H.sm⟩
inductive Up (a:Addr) (o:AObj):List (Addr×AObj)->(AObj->List (Addr×AObj))->Prop
 | head {r:List (Addr×AObj)}:Up a o ((a,o) :: r) (λ x=>(a,x) :: r)
 | tail {p:Addr×AObj} {r:List (Addr×AObj)} {f:AObj->List (Addr×AObj)}:Up a o r f->Up a o (p :: r) (λ x=>p :: f x)
 | app {l r:List (Addr×AObj)} {f:AObj->List (Addr×AObj)}:Up a o r f->Up a o (l++r) (λ x=>l++f x)
 | appL {l r:List (Addr×AObj)} {f:AObj->List (Addr×AObj)}:Up a o l f->Up a o (l++r) (λ x=>f x++r)
theorem Up.split {a:Addr} {o:AObj} {σ:List (Addr×AObj)} {f:AObj->List (Addr×AObj)} (u:Up a o σ f):∃ l r,σ = l++(a,o) :: r∧∀ x,f x = l++(a,x) :: r:=by
 induction u with
 | head=>exact (br [] _ rfl (λ _=>rfl))
 | @tail p _ _ _ ih=>refine bC ih λ l r zh1 h=>?_;clear ih;obtain rfl:=zh1;exact (br (p :: l) r rfl (λ x=>by show p :: _ = _;rw [h];rfl))
 | @app l' _ _ _ ih=>refine bC ih λ l r zh1 h=>?_;clear ih;obtain rfl:=zh1;exact (br (l'++l) r (by rw [List.append_assoc]) (λ x=>by show l'++_ = _;rw [h,List.append_assoc]))
 | @appL _ r' _ _ ih=>refine bC ih λ l r zh1 h=>?_;clear ih;obtain rfl:=zh1;exact (br l (r++r') (by rw [List.append_assoc];rfl) (λ x=>by show _++r' = _;rw [h,List.append_assoc];rfl))
theorem Up.mem {a:Addr} {o:AObj} {σ:List (Addr×AObj)} {f:AObj->List (Addr×AObj)} (u:Up a o σ f):(a,o)∈σ:=by
 refine bC u.split λ l r zh1 zz=>?_;obtain rfl:=zh1;simp
theorem W.ne_sys (H:W prog w B g os σ s) {a:Addr} {o:AObj} (h:(a,o)∈σ):(a == sysModules) = false:=by
 rw [beq_eq_false_iff_ne]
 exact (H.off _ h).2
theorem W.get (H:W prog w B g os σ s) {a:Addr} {o:AObj} (h:(a,o)∈σ):Real prog w s.heap a o:=H.own _ h
theorem W.upd (H:W prog w B g os σ s) {a:Addr} {o o':AObj} {f:AObj->List (Addr×AObj)} (u:Up a o σ f) {h':Heap} {t:Nat} (hs:Heap.ExtBut a s.heap h') (ht:NT s.heap a) (hr:Real prog w h' a o') :
  W prog w B g os (f o') { s with heap:=h',toks:=t }:=by
 refine bC u.split λ l r zh1 hf=>?_;obtain rfl:=zh1
 have hnd:=H.nd
 rw [List.map_append,List.map_cons,List.nodup_append,List.nodup_cons] at hnd
 have hB:B.get? a = none:=(H.off (a,o) (by simp)).1
 refine ⟨λ b ob e=>hs b ob (λ q=>by rw [q,hB] at e;cases e) (H.keep b ob e),λ p hp=>?_,λ p hp=>?_,?_,H.gens,H.eos,H.sm⟩
 ·rw [hf] at hp
  rcases List.mem_append.mp hp with hp | hp
  ·exact (H.own p (List.mem_append_left _ hp)).sameBut hs (hnd.2.2 p.1 (List.mem_map_of_mem hp) a (.head _)) ht
  ·rcases List.mem_cons.mp hp with rfl | hp
   ·exact hr
   ·exact (H.own p (List.mem_append_right _ (.tail _ hp))).sameBut hs (λ q=>hnd.2.1.1 (List.mem_map.mpr (ad p hp q))) ht
 ·rw [hf] at hp
  rcases List.mem_append.mp hp with hp | hp
  ·exact H.off p (List.mem_append_left _ hp)
  ·rcases List.mem_cons.mp hp with rfl | hp
   ·exact H.off (a,o) (by simp)
   ·exact H.off p (List.mem_append_right _ (.tail _ hp))
 ·have:=H.nd
  rw [hf]
  simpa using this
end
structure Rm (A:Around) (d u:Nat):Prop where
 hd:A.handled = none
 dp:A.depth + d < recursionLimit
 un:A.units + u < cLine
theorem Rm.in1 {A:Around} {d u:Nat} (R:Rm A d (u + 1)):Rm A.in1 d u:=⟨R.hd,R.dp,by have:=R.un;show A.units + 1 + u < cLine;walk_at "r"⟩
theorem Rm.mono {A:Around} {d u d' u':Nat} (R:Rm A d u) (h1:d'≤d) (h2:u'≤u):Rm A d' u':=⟨R.hd,by have:=R.dp;walk_at "r",by have:=R.un;walk_at "r"⟩
theorem Rm.deeper {A:Around} {d u:Nat} {env:Env} (R:Rm A (d + 1) (u + 3)):Rm (A.deeper env) d u :=
 ⟨R.hd,by have:=R.dp;show A.depth + 1 + d < recursionLimit;walk_at "r",by have:=R.un;simp only [Around.deeper_units];walk_at "r"⟩
theorem Rm.room {A:Around} {d u:Nat} (R:Rm A d u):A.depth < recursionLimit:=by have:=R.dp;walk_at "r"
theorem Rm.units {A:Around} {d u:Nat} (R:Rm A d u):A.units < cLine:=by have:=R.un;walk_at "r"
section
variable {w:World} {A:Around} {env:Env} {K:Frag}
variable {B:Heap} {g:List (Nat×GenState)} {os:OsState} {σ:List (Addr×AObj)} {E:Value->Shared->Prop} {s:Shared} {f:AObj->List (Addr×AObj)} {mg mb:Str->Option Value} {Q:Value->Shared->Prop}
section
variable {M:Model} {A:Around} {E E':Value->Shared->Prop} {s:Shared}
theorem jy {α β:Type} {t1:Sem α} {t2:Sem β} {Q:β->Shared->Prop} (h:∀ Q':β->Shared->Prop,(∀ f s',Q f s'->Q' f s')->wpAny M A t1 (λ _ s2=>wpAny M A t2 Q' E' s2) E s) :
  wpAny M A t1 (λ _ s2=>wpAny M A t2 Q E' s2) E s:=h Q λ _ _ x=>x
theorem eL {α:Type} {t:Sem α} {Q:α->Shared->Prop} (h:∀ Q':α->Shared->Prop,(∀ f s',Q f s'->Q' f s')->wpAny M A t Q' E s):wpAny M A t Q E s:=h Q λ _ _ x=>x
theorem nM {P R:Prop} (f:P->R) (x:P):R:=f x
theorem qu {w:World} {B:Heap} {g:List (Nat×GenState)} {os:OsState} {σ:List (Addr×AObj)} {G:Shared->Prop} (H:W prog w B g os σ s) (h:∀ s,W prog w B g os σ s->G s):G s:=h s H
theorem au {w:World} {B:Heap} {g:List (Nat×GenState)} {os:OsState} {σ:List (Addr×AObj)} {a:Addr} {P:Value->Shared->Prop} (h:∀ s,W prog w B g os σ s->P (.ref a) s):∀ v s,cv v = .ref a->W prog w B g os σ s->P v s :=
 λ v s e H=>ak e▸h s H
theorem dL {a:Addr} {P:Value->Prop} (h:P (.ref a)):∀ v,cv v = .ref a->P v:=λ v e=>ak e▸h
theorem co {ws:List Value} {a b:Value} (e:ws.map cv = [a,b]):∃ a0 b0,ws = [a0,b0]∧cv a0 = a∧cv b0 = b:=by
 refine aV (List.map_eq_cons_iff.mp e) λ a0 t zh1 h1 h2=>?_;obtain rfl:=zh1
 refine aV (List.map_eq_cons_iff.mp h2) λ b0 t zh1 h3 h4=>?_;obtain rfl:=zh1
 cases List.map_eq_nil_iff.mp h4
 exact (bc a0 b0 rfl h1 h3)
theorem l8 {ws:List Value} {a b c:Value} (e:ws.map cv = [a,b,c]):∃ a0 b0 c0,ws = [a0,b0,c0]∧cv a0 = a∧cv b0 = b∧cv c0 = c:=by
 refine aV (List.map_eq_cons_iff.mp e) λ a0 t zh1 h1 h2=>?_;obtain rfl:=zh1
 refine bC (co h2) λ b0 c0 zh1 h3=>?_;obtain rfl:=zh1
 exact (cc a0 b0 c0 rfl (aJ h1 h3))
end
section
variable (prog:Program) (w:World) (A:Around) (B:Heap) (g:List (Nat×GenState)) (os:OsState) (σ:List (Addr×AObj))
noncomputable def Gv (t:Sem Value) (v:Value):Prop:=∀ E s,W prog w B g os σ s->wpAny (model prog w) A t (λ v0 s'=>cv v0 = v∧W prog w B g os σ s') E s
noncomputable def Gb (t:Sem Bool) (b:Bool):Prop:=∀ E s,W prog w B g os σ s->wpAny (model prog w) A t (λ b' s'=>b' = b∧W prog w B g os σ s') E s
end
section
variable {w:World} {A:Around} {env:Env}
variable {B:Heap} {g:List (Nat×GenState)} {os:OsState} {σ:List (Addr×AObj)}
theorem Gv.use {t:Sem Value} {v:Value} {E:Value->Shared->Prop} {s:Shared} (x:Gv prog w A B g os σ t v) (H:W prog w B g os σ s) (h:∀ v0 s',cv v0 = v->W prog w B g os σ s'->Q v0 s'):wpAny (model prog w) A t Q E s :=
 wpAny_mono (x E s H) (λ v0 s' y=>h v0 s' y.1 y.2) λ _ _ e=>e
theorem Gb.use {t:Sem Bool} {v:Bool} {Q:Bool->Shared->Prop} {E:Value->Shared->Prop} {s:Shared} (x:Gb prog w A B g os σ t v) (H:W prog w B g os σ s) (h:∀ s',W prog w B g os σ s'->Q v s'):wpAny (model prog w) A t Q E s :=
 wpAny_mono (x E s H) (λ v0 s' y=>by revert y;refine λ zq=>ae zq λ zh1 y=>?_;clear zq;obtain rfl:=zh1;exact h s' y) λ _ _ e=>e
theorem aa {x:Str} {p:Pos} {m:Str->Option Value} {v:Value} (hm:(env.locals,AObj.frame m)∈σ) (hv:m x = some v)
  (hx:env.kindOf x = some .local:=by rfl) (hk:env.scope.kind = .function:=by rfl) (hd:(x == ("__debug__":Str)) = false:=by decide):Gv prog w A B g os σ (eval (.Name x p) env) v:=by
 intro E s H
 refine ac (H.get hm) λ m0 hn hr=>?_
 have:=hr x
 rw [hv] at this
 cases e:m0 x with
 | none=>rw [e] at this;cases this
 | some v0=>
  rw [e] at this
  exact wpAny_Name (wpAny_loadName_local hk hx hn e ⟨Option.some.inj this,H⟩) hd
theorem aq {x:Str} {p:Pos} {c:Addr} {v:Value} (hc:env.cells.lookup x = some c) (hm:(c,AObj.cell (some v))∈σ)
  (hx:env.kindOf x = some .cell:=by rfl) (hk:env.scope.kind = .function:=by rfl) (hd:(x == ("__debug__":Str)) = false:=by decide):Gv prog w A B g os σ (eval (.Name x p) env) v:=by
 intro E s H
 refine ac (H.get hm) λ v0 hn hr=>?_
 cases v0 with
 | none=>cases hr
 | some v0=>exact wpAny_Name (wpAny_loadName_cell hk hx hc hn ⟨Option.some.inj hr,H⟩) hd
theorem js {x:Str} {p:Pos} {c:Addr} {v:Value} (hc:env.cells.lookup x = some c) (hm:(c,AObj.cell (some v))∈σ)
  (hx:env.kindOf x = some .free:=by rfl) (hk:env.scope.kind = .function:=by rfl) (hd:(x == ("__debug__":Str)) = false:=by decide) (hn:(x == ("__classdict__":Str)) = false:=by decide) :
  Gv prog w A B g os σ (eval (.Name x p) env) v:=by
 intro E s H
 refine ac (H.get hm) λ v0 hn' hr=>?_
 cases v0 with
 | none=>cases hr
 | some v0=>exact wpAny_Name (wpAny_loadName_free hk hx hc hn' ⟨Option.some.inj hr,H⟩ hn) hd
theorem pY {x:Str} {p:Pos} {mg:Str->Option Value} {v:Value} (hg:B.Ns mainGlobals mg) (hv:mg x = some v) (hc:cv v = v)
  (hx:env.kindOf x = some .globalImplicit:=by rfl) (hk:env.scope.kind = .function:=by rfl) (he:env.globals = mainGlobals:=by rfl) (hd:(x == ("__debug__":Str)) = false:=by decide) :
  Gv prog w A B g os σ (eval (.Name x p) env) v:=by
 intro E s H
 exact Calls.Name_function_global hk hx (Calls.loadGlobal_global (by rw [he];exact hg.keeps H.keep) hv ⟨hc,H⟩) hd
theorem pz {x:Str} {p:Pos} {mg mb:Str->Option Value} {v:Value} (hg:B.Ns mainGlobals mg) (hv:mg x = none) (hb:B.Ns builtinsNs mb) (hv':mb x = some v) (hc:cv v = v)
  (hx:env.kindOf x = some .globalImplicit:=by rfl) (hk:env.scope.kind = .function:=by rfl) (he:env.globals = mainGlobals:=by rfl) (heb:env.builtins = builtinsNs:=by rfl) (hd:(x == ("__debug__":Str)) = false:=by decide) :
  Gv prog w A B g os σ (eval (.Name x p) env) v:=by
 intro E s H
 exact Calls.Name_function_global hk hx (Calls.loadGlobal_builtin (by rw [he];exact hg.keeps H.keep) hv (by rw [heb];exact hb.keeps H.keep) hv' ⟨hc,H⟩) hd
theorem aC {i:Int} {k:Nat} {p:Pos}:Gv prog w A B g os σ (eval (.Constant (.int i) k p) env) (.int i 0):=λ _ _ H=>wpAny_Constant_int ⟨rfl,H.tok⟩
theorem ev_str {x:Str} {k:Nat} {p:Pos}:Gv prog w A B g os σ (eval (.Constant (.str x) k p) env) (.str x 0):=λ _ _ H=>wpAny_Constant_str ⟨rfl,H.tok⟩
theorem bH {k:Nat} {p:Pos}:Gv prog w A B g os σ (eval (.Constant .none k p) env) .none:=λ _ _ H=>wpAny_Constant_none ⟨rfl,H⟩
theorem nc {b:Bool} {k:Nat} {p:Pos}:Gv prog w A B g os σ (eval (.Constant (.bool b) k p) env) (.bool b):=λ _ _ H=>wpAny_Constant_bool ⟨rfl,H⟩
theorem iJ {l r:Expr} {op:Operator} {p:Pos} {a b v:Value} (hl:Gv prog w A B g os σ (eval l env) a) (hr:Gv prog w A B g os σ (eval r env) b)
  (ho:∀ a0 b0,cv a0 = a->cv b0 = b->Gv prog w A B g os σ (binaryOp op a0 b0) v):Gv prog w A B g os σ (eval (.BinOp l op r p) env) v:=λ E s H=>
 wpAny_BinOp (hl.use H λ a0 s1 e1 H₁=>hr.use H₁ λ b0 s2 e2 H₂=>ho a0 b0 e1 e2 E s2 H₂)
theorem kB {l r:Expr} {p:Pos} {a b:Int} (hl:Gv prog w A B g os σ (eval l env) (.int a 0)) (hr:Gv prog w A B g os σ (eval r env) (.int b 0)):Gv prog w A B g os σ (eval (.BinOp l .Add r p) env) (.int (a + b) 0) :=
 iJ hl hr λ a0 b0 ea eb E s H=>by refine ai (ap ea) λ zz zh1=>?_;obtain rfl:=zh1;refine ai (ap eb) λ zz zh1=>?_;obtain rfl:=zh1;exact add_int ⟨rfl,H.tok⟩
theorem mj {l r:Expr} {p:Pos} {a b:Int} (hl:Gv prog w A B g os σ (eval l env) (.int a 0)) (hr:Gv prog w A B g os σ (eval r env) (.int b 0)):Gv prog w A B g os σ (eval (.BinOp l .Sub r p) env) (.int (a - b) 0) :=
 iJ hl hr λ a0 b0 ea eb E s H=>by refine ai (ap ea) λ zz zh1=>?_;obtain rfl:=zh1;refine ai (ap eb) λ zz zh1=>?_;obtain rfl:=zh1;exact sub_int ⟨rfl,H.tok⟩
theorem ku {l r:Expr} {p:Pos} {a b:Int} (hb:b≠0) (hl:Gv prog w A B g os σ (eval l env) (.int a 0)) (hr:Gv prog w A B g os σ (eval r env) (.int b 0)):Gv prog w A B g os σ (eval (.BinOp l .Mod r p) env) (.int (a.fmod b) 0) :=
 iJ hl hr λ a0 b0 ea eb E s H=>by refine ai (ap ea) λ zz zh1=>?_;obtain rfl:=zh1;refine ai (ap eb) λ zz zh1=>?_;obtain rfl:=zh1;exact mod_int' hb ⟨rfl,H.tok⟩
theorem nx {l r:Expr} {p:Pos} {a b:Int} (hb:b≠0) (hp:Builtin.divisionGoesByPylong a b = false) (hl:Gv prog w A B g os σ (eval l env) (.int a 0)) (hr:Gv prog w A B g os σ (eval r env) (.int b 0)):Gv prog w A B g os σ (eval (.BinOp l .FloorDiv r p) env) (.int (a.fdiv b) 0) :=
 iJ hl hr λ a0 b0 ea eb E s H=>by refine ai (ap ea) λ zz zh1=>?_;obtain rfl:=zh1;refine ai (ap eb) λ zz zh1=>?_;obtain rfl:=zh1;exact floordiv_int hb ⟨rfl,H.tok⟩ (.inl hp)
theorem pa {l r:Expr} {p:Pos} {a n:Int} (hn:0≤n) (hsz:(Builtin.Int.intBits a:Int) * n≤2 ^ 27) (hl:Gv prog w A B g os σ (eval l env) (.int a 0)) (hr:Gv prog w A B g os σ (eval r env) (.int n 0)):Gv prog w A B g os σ (eval (.BinOp l .Pow r p) env) (.int (a ^ n.toNat) 0) :=
 iJ hl hr λ a0 b0 ea eb E s H=>by refine ai (ap ea) λ zz zh1=>?_;obtain rfl:=zh1;refine ai (ap eb) λ zz zh1=>?_;obtain rfl:=zh1;exact pow_int hn hsz ⟨rfl,H.tok⟩
theorem ki {l r:Expr} {op:CmpOp} {p:Pos} {a b v:Value} (hl:Gv prog w A B g os σ (eval l env) a) (hr:Gv prog w A B g os σ (eval r env) b)
  (ho:∀ a0 b0,cv a0 = a->cv b0 = b->Gv prog w A B g os σ (compareOp op a0 b0) v) (hm:behindInMarks op r = false:=by with_unfolding_all rfl):Gv prog w A B g os σ (eval (.Compare l [op] [r] p) env) v:=λ E s H=>
 wpAny_Compare1 (hl.use H λ a0 s1 e1 H₁=>hr.use H₁ λ b0 s2 e2 H₂=>ho a0 b0 e1 e2 E s2 H₂) hm
theorem aT {l r:Expr} {op:CmpOp} {p:Pos} {whole:Sem Value} {a b:Value} {v:Bool} (hl:Gv prog w A B g os σ (eval l env) a) (hr:Gv prog w A B g os σ (eval r env) b)
  (ho:∀ a0 b0,cv a0 = a->cv b0 = b->Gv prog w A B g os σ (compareOp op a0 b0) (.bool v)) (hm:behindInMarks op r = false:=by with_unfolding_all rfl):Gb prog w A B g os σ (isTrue (.Compare l [op] [r] p) env whole) v:=λ E s H=>
 wpAny_isTrue_Compare1 (hl.use H λ a0 s1 e1 H₁=>hr.use H₁ λ b0 s2 e2 H₂=>(ho a0 b0 e1 e2).use H₂ λ v0 s3 e3 H₃=>by cases bS e3;exact wpAny_truthy_bool ⟨rfl,H₃⟩) hm
theorem ry {a b:Int} {a0 b0:Value} (ea:cv a0 = .int a 0) (eb:cv b0 = .int b 0):Gv prog w A B g os σ (compareOp .Lt a0 b0) (.bool (decide (a < b))):=λ E s H=>by
 refine ai (ap ea) λ zz zh1=>?_;obtain rfl:=zh1;refine ai (ap eb) λ zz zh1=>?_;obtain rfl:=zh1;exact lt_int ⟨rfl,H⟩
theorem nq {a b:Int} {a0 b0:Value} (ea:cv a0 = .int a 0) (eb:cv b0 = .int b 0):Gv prog w A B g os σ (compareOp .Gt a0 b0) (.bool (decide (a > b))):=λ E s H=>by
 refine ai (ap ea) λ zz zh1=>?_;obtain rfl:=zh1;refine ai (ap eb) λ zz zh1=>?_;obtain rfl:=zh1;exact gt_int ⟨rfl,H⟩
theorem rN {a b:Int} {a0 b0:Value} (ea:cv a0 = .int a 0) (eb:cv b0 = .int b 0):Gv prog w A B g os σ (compareOp .GtE a0 b0) (.bool (decide (a ≥ b))):=λ E s H=>by
 refine ai (ap ea) λ zz zh1=>?_;obtain rfl:=zh1;refine ai (ap eb) λ zz zh1=>?_;obtain rfl:=zh1;exact ge_int ⟨rfl,H⟩
theorem jX {a b:Int} {a0 b0:Value} (ea:cv a0 = .int a 0) (eb:cv b0 = .int b 0):Gv prog w A B g os σ (compareOp .Eq a0 b0) (.bool (a == b)):=λ E s H=>by
 refine ai (ap ea) λ zz zh1=>?_;obtain rfl:=zh1;refine ai (ap eb) λ zz zh1=>?_;obtain rfl:=zh1;exact PyProof.Rows.eq_int ⟨rfl,H⟩
theorem qc {a b:Int} {a0 b0:Value} (ea:cv a0 = .int a 0) (eb:cv b0 = .int b 0):Gv prog w A B g os σ (compareOp .NotEq a0 b0) (.bool (a != b)):=λ E s H=>by
 refine ai (ap ea) λ zz zh1=>?_;obtain rfl:=zh1;refine ai (ap eb) λ zz zh1=>?_;obtain rfl:=zh1;exact PyProof.Rows.ne_int ⟨rfl,H⟩
theorem gv {b:Int} {a0 b0:Value} (ea:cv a0 = .none) (eb:cv b0 = .int b 0):Gv prog w A B g os σ (compareOp .NotEq a0 b0) (.bool true):=λ E s H=>by
 cases ce ea;refine ai (ap eb) λ zz zh1=>?_;obtain rfl:=zh1;exact EqNone.ne_none_int ⟨rfl,H⟩
theorem a9 {a:Value} {a0 b0:Value} (ea:cv a0 = a) (eb:cv b0 = .none) (hp:plainIs a0 .none = true):Gv prog w A B g os σ (compareOp .Is a0 b0) (.bool (a0 == .none)):=λ E s H=>by
 cases ce eb;exact wpAny_is_plain hp ⟨rfl,H⟩
theorem aS {e:Expr} {v:Value} {b:Bool} (hv:Gv prog w A B g os σ (eval e env) v) (ht:∀ v0,cv v0 = v->Gb prog w A B g os σ (truthy v0) b)
  (he:isTrue e env (eval e env) = (do let v ← eval e env;standAt e.pos;holding [v] (truthy v)):=by rfl):Gb prog w A B g os σ (isTrue e env (eval e env)) b:=λ E s H=>
 wpAny_isTrue_value (hv.use H λ v0 s1 e1 H₁=>ht v0 e1 E s1 H₁) he
theorem gQ {x:Expr} {p:Pos} {whole:Sem Value} {b:Bool} (h:Gb prog w A B g os σ (isTrue x env (eval x env)) b):Gb prog w A B g os σ (isTrue (.UnaryOp .Not x p) env whole) (!b):=λ E s H=>
 wpAny_isTrue_Not (h.use H λ s1 H₁=>⟨rfl,H₁⟩)
theorem cf {b:Bool} {v0:Value} (e:cv v0 = .bool b):Gb prog w A B g os σ (truthy v0) b:=λ E s H=>by cases bS e;exact wpAny_truthy_bool ⟨rfl,H⟩
theorem j4 {t e1 e2:Expr} {p:Pos} {v:Value} (ht:Gb prog w A B g os σ (isTrue t env (eval t env)) true) (h:Gv prog w A B g os σ (eval e1 env) v):Gv prog w A B g os σ (eval (.IfExp t e1 e2 p) env) v:=λ E s H=>
 wpAny_IfExp (ht.use H λ s1 H₁=>by simp only [if_true];exact h E s1 H₁)
theorem iW {t e1 e2:Expr} {p:Pos} {v:Value} (ht:Gb prog w A B g os σ (isTrue t env (eval t env)) false) (h:Gv prog w A B g os σ (eval e2 env) v):Gv prog w A B g os σ (eval (.IfExp t e1 e2 p) env) v:=λ E s H=>
 wpAny_IfExp (ht.use H λ s1 H₁=>by simp only [Bool.false_eq_true,if_false];exact h E s1 H₁)
theorem qP {t e1 e2:Expr} {p:Pos} {b:Bool} {v:Value} (ht:Gb prog w A B g os σ (isTrue t env (eval t env)) b) (h1:b = true->Gv prog w A B g os σ (eval e1 env) v) (h2:b = false->Gv prog w A B g os σ (eval e2 env) v):Gv prog w A B g os σ (eval (.IfExp t e1 e2 p) env) v:=by
 cases b with
 | true=>exact j4 ht (h1 rfl)
 | false=>exact iW ht (h2 rfl)
end
noncomputable def put (x:Str) (v:Value) (m:Str->Option Value):Str->Option Value:=λ y=>if y = x then some v else m y
theorem al {x:Str} {v0 v:Value} {m:Str->Option Value} {Q:Unit->Shared->Prop} (H:W prog w B g os σ s) (u:Up env.locals (.frame m) σ f) (hc:cv v0 = v)
  (h:∀ s',W prog w B g os (f (.frame (put x v m))) s'->Q () s') (hx:env.kindOf x = some .local:=by rfl) (hk:env.scope.kind = .function:=by rfl):wpAny (model prog w) A (storeName env x v0) Q E s:=by
 refine ac (H.get u.mem) λ m0 hn hr=>?_
 refine wpAny_storeName_local hx hn (λ h' hn' hs=>h _ (H.upd u hs.extBut (.ns hn) (ad _ hn' (λ y=>?_)))) (by rw [hk];rfl)
 unfold put
 by_cases hy:y = x
 ·simp only [hy,if_true];show some (cv v0) = _;rw [hc]
 ·simp only [hy,if_false];exact hr y
theorem bJ {x:Str} {c:Addr} {v0 v:Value} {ov:Option Value} {Q:Unit->Shared->Prop} (H:W prog w B g os σ s) (hcl:env.cells.lookup x = some c) (u:Up c (.cell ov) σ f) (hc:cv v0 = v)
  (h:∀ s',W prog w B g os (f (.cell (some v))) s'->Q () s') (hx:env.kindOf x = some .cell:=by rfl) (hk:env.scope.kind = .function:=by rfl):wpAny (model prog w) A (storeName env x v0) Q E s:=by
 refine ac (H.get u.mem) λ m0 hn hr=>?_
 exact wpAny_storeName_cell hk hx hcl hn (λ h' hn' hs=>h _ (H.upd (t:=s.toks) u hs.extBut (.cell hn) (ad _ hn' (by rw [← hc];rfl))))
theorem ay {Q:Flow->Shared->Prop} (h:Q .next s):wpAny (model prog w) A (execs [] env) Q E s:=wpAny_execs_nil h
theorem bh {x:Str} {e:Expr} {p p':Pos} {rest:List Stmt} {v:Value} {m:Str->Option Value} {Q:Flow->Shared->Prop} (H:W prog w B g os σ s) (he:Gv prog w A B g os σ (eval e env) v) (u:Up env.locals (.frame m) σ f)
  (h:∀ s',W prog w B g os (f (.frame (put x v m))) s'->wpAny (model prog w) A (execs rest env) Q E s') (hx:env.kindOf x = some .local:=by rfl) (hk:env.scope.kind = .function:=by rfl)
  (hs:swapsWith e (some (.Name x p)) p'.line env = pure false:=by rfl):wpAny (model prog w) A (execs (.Assign [.Name x p] e p' :: rest) env) Q E s :=
 wpAny_execs_cons (wpAny_Assign_Name (he.use H λ v0 s1 e1 H₁=>al H₁ u e1 (λ s2 H₂=>h s2 H₂) hx hk) hs)
theorem mx {x:Str} {c:Addr} {e:Expr} {p p':Pos} {rest:List Stmt} {v:Value} {ov:Option Value} {Q:Flow->Shared->Prop} (H:W prog w B g os σ s) (he:Gv prog w A B g os σ (eval e env) v)
  (hcl:env.cells.lookup x = some c) (u:Up c (.cell ov) σ f)
  (h:∀ s',W prog w B g os (f (.cell (some v))) s'->wpAny (model prog w) A (execs rest env) Q E s') (hx:env.kindOf x = some .cell:=by rfl) (hk:env.scope.kind = .function:=by rfl)
  (hs:swapsWith e (some (.Name x p)) p'.line env = pure false:=by rfl):wpAny (model prog w) A (execs (.Assign [.Name x p] e p' :: rest) env) Q E s :=
 wpAny_execs_cons (wpAny_Assign_Name (he.use H λ v0 s1 e1 H₁=>bJ H₁ hcl u e1 (λ s2 H₂=>h s2 H₂) hx hk) hs)
theorem aB {x:Str} {e:Expr} {p p':Pos} {rest:List Stmt} {Q:Flow->Shared->Prop}
  (h:wpAny (model prog w) A (eval e env) (λ v s1=>wpAny (model prog w) A (storeName env x v) (λ _ s2=>wpAny (model prog w) A (execs rest env) Q E s2) E s1) E s)
  (hs:swapsWith e (some (.Name x p)) p'.line env = pure false:=by rfl):wpAny (model prog w) A (execs (.Assign [.Name x p] e p' :: rest) env) Q E s :=
 wpAny_execs_cons (wpAny_Assign_Name h hs)
theorem gr {e:Expr} {p:Pos} {rest:List Stmt} {v:Value} {Q:Flow->Shared->Prop} (H:W prog w B g os σ s) (he:Gv prog w A B g os σ (eval e env) v) (h:∀ v0 s',cv v0 = v->W prog w B g os σ s'->Q (.ret v0) s') :
  wpAny (model prog w) A (execs (.Return (some e) p :: rest) env) Q E s :=
 wpAny_execs_cons (wpAny_Return_some (he.use H λ v0 s1 e1 H₁=>h v0 s1 e1 H₁))
theorem cX {e:Expr} {p:Pos} {rest:List Stmt} {Q:Flow->Shared->Prop} (h:wpAny (model prog w) A (eval e env) (λ v s'=>Q (.ret v) s') E s) :
  wpAny (model prog w) A (execs (.Return (some e) p :: rest) env) Q E s :=
 wpAny_execs_cons (wpAny_Return_some h)
theorem d9 {t:Expr} {b1 b2 rest:List Stmt} {p:Pos} {b:Bool} {Q:Flow->Shared->Prop} (H:W prog w B g os σ s) (ht:Gb prog w A B g os σ (isTrue t env (eval t env)) b)
  (h1:b = true->∀ s',W prog w B g os σ s'->wpAny (model prog w) A (execs b1 env) (λ f s'=>match f with | .next=>wpAny (model prog w) A (execs rest env) Q E s' | f=>Q f s') E s')
  (h2:b = false->∀ s',W prog w B g os σ s'->wpAny (model prog w) A (execs b2 env) (λ f s'=>match f with | .next=>wpAny (model prog w) A (execs rest env) Q E s' | f=>Q f s') E s') :
  wpAny (model prog w) A (execs (.If t b1 b2 p :: rest) env) Q E s :=
 wpAny_execs_cons (wpAny_If (ht.use H λ s1 H₁=>by
  cases b with
  | true=>simp only [if_true];exact h1 rfl s1 H₁
  | false=>simp only [Bool.false_eq_true,if_false];exact h2 rfl s1 H₁))
theorem cQ {e:Expr} {p:Pos} {rest:List Stmt} {Q:Flow->Shared->Prop} (h:wpAny (model prog w) A (eval e env) (λ v s'=>v = .none∧wpAny (model prog w) A (execs rest env) Q E s') E s)
  (hi:interactive env = false:=by rfl) (hs:swapsWith e none p.line env = pure false:=by rfl):wpAny (model prog w) A (execs (.Expr e p :: rest) env) Q E s :=
 wpAny_execs_cons (wpAny_Expr (wpAny_mono h (λ v s' y=>by revert y;refine λ zq=>ae zq λ zh1 y=>?_;clear zq;obtain rfl:=zh1;exact y) λ _ _ e=>e) hi hs)
theorem ah {pos:Pos} {Q:List Value->Shared->Prop} (h:Q [] s):wpAny (model prog w) A (spliced (backTo pos (starEach [] env))) Q E s:=wpAny_items_nil h
theorem ab {pos:Pos} {e:Expr} {rest:List Expr} {v:Value} {Q:List Value->Shared->Prop} (H:W prog w B g os σ s) (he:Gv prog w A B g os σ (eval e env) v)
  (h:∀ v0 s',cv v0 = v->W prog w B g os σ s'->wpAny (model prog w) A (spliced (backTo pos (starEach rest env))) (λ vs s2=>Q (v0 :: vs) s2) E s')
  (hs:starEach (e :: rest) env = (false,eval e env) :: starEach rest env:=by rfl):wpAny (model prog w) A (spliced (backTo pos (starEach (e :: rest) env))) Q E s :=
 wpAny_items_cons (he.use H λ v0 s1 e1 H₁=>h v0 s1 e1 H₁) hs
noncomputable def nH (M:Model) (f:Value) (h:Heap):Prop:=∃ k,(k = Keeper.frame∨k = Keeper.machine∨k = Keeper.boundFrame)∧Looks M h (keeperOf f) k
theorem cw0 {pos:Pos} {fv:Value} {first:List Value} (k:nH (model prog w) fv s.heap) (h:wpAny (model prog w) A (call fv (first++[])) Q E s) :
  wpAny (model prog w) A (callWith pos fv first (backTo pos (starEach [] env)) []) Q E s :=
 callWith_of (P:=λ h=>nH (model prog w) fv h) rfl (λ _ x=>x) (evalArgs_nil3 ⟨k,h⟩)
theorem cw1 {pos:Pos} {fv:Value} {first:List Value} {e:Expr} {rest:List Expr}
  (h:wpAny (model prog w) A (spliced (backTo pos (starEach (e :: rest) env))) (λ vs s1=>nH (model prog w) fv s1.heap∧wpAny (model prog w) A (call fv (first++vs)) Q E s1) E s)
  (he:starEach (e :: rest) env = (false,eval e env) :: starEach rest env:=by rfl) (hplain:(backTo pos (starEach rest env)).any (·.1) = false:=by rfl) :
  wpAny (model prog w) A (callWith pos fv first (backTo pos (starEach (e :: rest) env)) []) Q E s:=by
 rw [he] at h ⊢
 exact callWith_of (P:=λ h=>nH (model prog w) fv h) (by show ((false || (backTo pos (starEach rest env)).any (·.1)) || false) = false;rw [hplain];rfl) (λ _ x=>x) (Calls.evalArgs_plain h)
theorem az {id:String} {h:Heap}:nH (model prog w) (.builtin id) h:=(ad .machine (.inr (.inl rfl)) (Looks.of_pure rfl))
theorem bo {id:String} {h:Heap}:nH (model prog w) (.type id) h:=(ad .machine (.inr (.inl rfl)) (Looks.of_pure rfl))
theorem aW {K:Frag} {fv:Value} {h:Heap} (X:K.In h) (hk:keepIn K fv = true):nH (model prog w) fv h:=keeps_K hk h X
theorem aw {x:Str} {np pos:Pos} {args:List Expr} {fv:Value} (H:W prog w B g os σ s) (hf:Gv prog w A B g os σ (eval (.Name x np) env) fv) (hc:∀ f0,cv f0 = fv->f0 = fv)
  (h:∀ s',W prog w B g os σ s'->wpAny (model prog w) A (callWith pos fv [] (backTo pos (starEach args env)) []) Q E s'):wpAny (model prog w) A (eval (.Call (.Name x np) args [] pos) env) Q E s :=
 wpAny_Call_NameR (hf.use H λ f0 s1 e1 H₁=>by rw [hc _ e1];exact h s1 H₁)
theorem ax {o:Expr} {name:Str} {apos pos:Pos} {args:List Expr} {ov:Value} {pl:Sem Bool} (H:W prog w B g os σ s) (ho:Gv prog w A B g os σ (eval o env) ov)
  (h:∀ o0 s',cv o0 = ov->W prog w B g os σ s'->wpAny (model prog w) A (getMethod o0 name pl) (λ fx s2=>wpAny (model prog w) A (callWith pos fx.1 fx.2 (backTo pos (starEach args env)) []) Q E s2) E s')
  (he:eval (.Call (.Attribute o name apos) args [] pos) env = (do
   let ov ← eval o env
   standAt apos.atName
   let (f,first) ← holding [ov] (getMethod ov name pl)
   callWith pos f first (backTo pos (starEach args env)) (backToKw pos (keywordEach [] env))):=by rfl) :
  wpAny (model prog w) A (eval (.Call (.Attribute o name apos) args [] pos) env) Q E s :=
 methodCall_KW (ho.use H λ o0 s1 e1 H₁=>h o0 s1 e1 H₁) he
theorem aD {α:Type} [DecidableEq α] (kvs:List (α×Value)) (k:α):valueAt (kvs.map λ x=>(x.1,cv x.2)) k = (valueAt kvs k).map cv:=by
 induction kvs with
 | nil=>rfl
 | cons x r ih=>
  unfold valueAt at *
  rw [List.map_cons,List.find?_cons,List.find?_cons]
  by_cases h:x.1 = k
  ·simp [h]
  ·simp only [h,decide_false];exact ih
theorem qs {α:Type} [DecidableEq α] (kvs:List (α×Value)) (k:α):(kvs.map λ x=>(x.1,cv x.2)).any (λ kv=>kv.1 = k) = kvs.any (λ kv=>kv.1 = k):=by
 induction kvs with
 | nil=>rfl
 | cons x r ih=>rw [List.map_cons,List.any_cons,List.any_cons,ih]
theorem dB {α:Type} [DecidableEq α] (kvs:List (α×Value)) (k:α) (v:Value):(stored kvs k v).map (λ x=>(x.1,cv x.2)) = stored (kvs.map λ x=>(x.1,cv x.2)) k (cv v):=by
 unfold stored
 rw [qs]
 split
 ·rw [List.map_map,List.map_map]
  refine List.map_congr_left λ x _=>?_
  simp only [Function.comp]
  split <;> rfl
 ·rw [List.map_append];rfl
theorem cm {h:Heap} {d:Addr} {kvs:List (Str×Value)} (D:h.DictOf (strKind prog w) d kvs):∃ o,h.get? d = some o∧∀ name,lookIn name o = some (valueAt kvs name):=by
 refine ir D λ o es ep ho hc hd hk hp hn=>?_;clear D
 refine (ad o ho (λ name=>?_))
 have e:(λ e:DictEntry=>e.key.isStr name) = λ e=>(strKind prog w).is name e.key:=funext λ e=>isStr_of name e.key
 have hv:=hp.find name
 rw [← e] at hv
 unfold lookIn
 rw [hd]
 dsimp only
 cases q:es.toList.find? (λ e=>e.key.isStr name) with
 | some x=>rw [q] at hv;rw [← hv];rfl
 | none=>
  rw [q] at hv
  have:es.toList.any (·.refKey) = false:=by
   rw [List.any_eq_false]
   intro x hx
   refine ac (hk x (Array.mem_toList_iff.mp hx)) λ k h1 h2=>?_
   refine ai (Value.isStrOf_shape h1) λ t h3=>?_
   unfold DictEntry.refKey
   rw [h3];exact Bool.false_ne_true
  dsimp only
  rw [this,← hv];rfl
theorem jS {d:Addr} {kvs:List (Str×Value)} {name:Str} {v:Value} {Q:Unit->Shared->Prop} (D:s.heap.DictOf (strKind prog w) d kvs) (hz:kvs.length≤1000)
  (h:∀ h',h'.DictOf (strKind prog w) d (stored kvs name v)->Heap.SameBut d s.heap h'->Q () { s with heap:=h',toks:=s.toks + 1 }):wpAny (model prog w) A (nsSet d name v) Q E s:=by
 refine ir D λ o es ep ho hc hd hk hp hn=>?_;clear D
 have hes:es.size≤1000:=by have e1:=hp.length;have e2:es.toList.length = es.size:=(by simp);walk_at "r"
 have e:(λ e:DictEntry=>e.key.isStr name) = λ e=>(strKind prog w).is name e.key:=funext λ e=>isStr_of name e.key
 have hidx:(es.findIdx? λ e=>(strKind prog w).is name e.key) = kvs.findIdx? λ kv=>decide (kv.1 = name):=by
  rw [← hp.findIdx name];obtain ⟨l⟩:=es;simp
 have hr:es.any (·.refKey) = false:=by
  rw [← Array.any_toList,List.any_eq_false]
  intro x hx
  refine ac (hk x (Array.mem_toList_iff.mp hx)) λ k h1 h2=>?_
  refine ai (Value.isStrOf_shape h1) λ t h3=>?_
  unfold DictEntry.refKey
  rw [h3];exact Bool.false_ne_true
 unfold nsSet
 refine wpAny_bind (wpAny_bind (wpAny_askSetting (wpAny_pure (wpAny_bind (wpAny_mkText (wpAny_bind (wpAny_loadPart ho ?_)))))))
 rw [hd]
 dsimp only
 rw [aRefKeyMayBeTheName_at,hr,Bool.and_false]
 rw [Obj.putName_eq,if_neg Bool.false_ne_true]
 refine wpAny_updatePart ho ?_
 obtain ⟨oc,odi,oda,osl⟩:=o
 dsimp only at hd
 subst hd
 cases hi:es.findIdx? λ e=>(strKind prog w).is name e.key with
 | some i=>
  have hf:Obj.putNameByArray name (PyData.keyHash w.params name) (.str name s.toks) v ⟨oc,odi,.dict es ep,osl⟩ = ⟨oc,odi,.dict (es.modify i λ e=>{ e with val:=v }) ep,osl⟩:=by
   show (match es.findIdx? (λ e=>e.key.isStr name) with | some i=>_ | none=>_) = _
   rw [e,hi]
  have ho':=Heap.get?_update_self (h:=s.heap) (Obj.putNameByArray name (PyData.keyHash w.params name) (.str name s.toks) v) ho (by rw [hf];rfl)
  rw [hf] at ho'
  refine (h _ (eN _ _ ep ho' hc rfl (hk.modify _ _) ?_ ?_) (Heap.SameBut.update ..))
  ·rw [stored,if_pos (any_of_findIdx_some (hidx▸hi))]
   have hl:(es.toList.findIdx? λ e=>(strKind prog w).is name e.key) = some i:=by rw [← hi];obtain ⟨l⟩:=es;simp
   have:=hp.modify hn hl v
   obtain ⟨l⟩:=es
   simpa using this
  ·rw [stored,if_pos (any_of_findIdx_some (hidx▸hi)),keys_map_store];exact hn
 | none=>
  have hf:Obj.putNameByArray name (PyData.keyHash w.params name) (.str name s.toks) v ⟨oc,odi,.dict es ep,osl⟩ = ⟨oc,odi,.dict (es.push ⟨PyData.keyHash w.params name,.str name s.toks,v⟩) (ep + 1),osl⟩:=by
   show (match es.findIdx? (λ e=>e.key.isStr name) with | some i=>_ | none=>_) = _
   rw [e,hi]
  have ho':=Heap.get?_update_self (h:=s.heap) (Obj.putNameByArray name (PyData.keyHash w.params name) (.str name s.toks) v) ho (by rw [hf];rfl)
  rw [hf] at ho'
  have hnot:name∉kvs.map (·.1):=not_mem_of_findIdx_none (hidx▸hi)
  have hany:¬ (kvs.any λ kv=>decide (kv.1 = name)) = true:=by
   rw [List.any_eq_true];intro zr;refine ac zr λ kv hkv he=>?_;clear zr
   exact hnot (List.mem_map.mpr (ad kv hkv (of_decide_eq_true he)))
  have hkey:(strKind prog w).is name (.str name s.toks) = true:=strKind_is prog w name s.toks
  refine (h _ (eN _ _ (ep + 1) ho' hc rfl (hk.push hkey _) ?_ ?_) (Heap.SameBut.update ..))
  ·rw [stored,if_neg hany]
   have:=hp.append hkey (PyData.keyHash w.params name) v
   obtain ⟨l⟩:=es
   simpa using this
  ·rw [stored,if_neg hany,List.map_append,List.nodup_append]
   refine (aQ hn (by simp) ?_)
   intro a ha b hb
   simp only [List.map_cons,List.map_nil,List.mem_singleton] at hb
   subst hb
   exact λ e=>hnot (e▸ha)
noncomputable def bM (K:Frag) (C:Addr) (name:Str):Bool:=plainGet K C name && hasDictIn K C && (match findIn K (.ref C) name with
 | some none=>true
 | some (some a)=>(match specialIn K a "__get__" with
  | some none=>true
  | some (some _)=>takesIn K a == some false
  | none=>false)
 | none=>false)
theorem dy {C:Addr} {name:Str} {od:Obj} {v:Value} (e:bM K C name = true) (hl:lookIn name od = some (some v)):findObj K C (some od) name = some (.value v):=by
 unfold bM at e
 refine bj λ GZ hGZ=>?_
 refine ae (Bool.and_eq_true_iff.mp e) λ e e3=>?_
 refine ae (Bool.and_eq_true_iff.mp e) λ _ hh=>?_
 refine ac (any_some hh) λ cd hc hd=>?_
 refine hGZ ?_
 have ho:W.ownOf cd (some od) name = some (some v):=by unfold W.ownOf;rw [if_pos hd];exact hl
 unfold findObj
 rw [hc,Option.bind_some]
 split at e3
 ·rename_i q;rw [q];simp [ho]
 ·rename_i a q
  rw [q]
  split at e3
  ·rename_i q';simp [q',ho]
  ·rename_i q';simp [q',beq_iff_eq.mp e3,ho]
  ·cases e3
 ·cases e3
theorem bs {C:Addr} {name:Str} (e:bM K C name = true):plainGet K C name = true:=by
 unfold bM at e
 exact (Bool.and_eq_true_iff.mp (Bool.and_eq_true_iff.mp e).1).1
noncomputable def qz (K:Frag) (C:Addr) (name:Str) (a:Value):Bool:=plainGet K C name && hasDictIn K C && findIn K (.ref C) name == some (some a) && specialIn K a "__get__" == some none && handedIn a && !copiedNames.contains name
noncomputable def eB (K:Frag) (C:Addr) (name:Str) (a fg:Value):Bool:=plainGet K C name && hasDictIn K C && findIn K (.ref C) name == some (some a) && specialIn K a "__get__" == some (some fg) && takesIn K a == some false && !copiedNames.contains name
noncomputable def bZ (K:Frag) (C:Addr) (name:Str) (f:Addr):Bool:=plainGet K C name && findIn K (.ref C) name == some (some (.ref f)) && isFn K (.ref f)
theorem fb {x d C:Addr} {kvs:List (Str×Value)} (H:W prog w B g os σ s) (hx:(x,AObj.inst C d)∈σ) (hd:(d,AObj.sdict kvs)∈σ) :
  ∃ od kvs0,InstAt s.heap x (instObj C d) C (some od)∧(∀ name,lookIn name od = some (valueAt kvs0 name))∧kvs0.map (λ x=>(x.1,cv x.2)) = kvs:=by
 refine ac (H.get hd) λ kvs0 D hk=>?_
 refine ac (cm D) λ od h1 h2=>?_
 exact (bc od kvs0 ⟨H.get hx,rfl,rfl,h1⟩ h2 hk)
theorem jn {v0 v:Value} (e:cv v0 = v) (h:handedIn v = true):handedIn v0 = true:=by
 subst e;cases v0 <;> first | rfl | exact h
theorem bQ {x d C:Addr} {kvs:List (Str×Value)} {name:Str} {v:Value} {expr:Bool} (X:K.In B) (hok:bM K C name = true) (hx:(x,AObj.inst C d)∈σ) (hd:(d,AObj.sdict kvs)∈σ) (hv:valueAt kvs name = some v)
  (hh:handedIn v = true:=by rfl):Gv prog w A B g os σ (getAttr (.ref x) name expr) v:=by
 intro E s H
 refine aV (fb H hx hd) λ od kvs0 I hl hk=>?_
 subst hk
 rw [aD] at hv
 cases q:valueAt kvs0 name with
 | none=>rw [q] at hv;cases hv
 | some v0=>
  rw [q] at hv
  have e:cv v0 = v:=Option.some.inj hv
  exact get_value (X.keeps H.keep) I (plainGet_of (bs hok)).1 (dy hok (by rw [hl,q])) (jn e hh) ⟨e,H.tok⟩
theorem rX {x d C:Addr} {kvs:List (Str×Value)} {name:Str} {v:Value} {expr:Bool} (X:K.In B) (hok:qz K C name v = true) (hx:(x,AObj.inst C d)∈σ) (hd:(d,AObj.sdict kvs)∈σ) (hv:valueAt kvs name = none) (hc:cv v = v) :
  Gv prog w A B g os σ (getAttr (.ref x) name expr) v:=by
 intro E s H
 refine aV (fb H hx hd) λ od kvs0 I hl hk=>?_
 subst hk
 rw [aD,Option.map_eq_none_iff] at hv
 simp only [qz,Bool.and_eq_true,beq_iff_eq,Bool.not_eq_true'] at hok
 refine bj λ GZ hGZ=>?_
 refine ae hok λ zh1 h6=>?_;clear hok;refine ae zh1 λ zh2 h5=>?_;clear zh1;refine ae zh2 λ zh3 h4=>?_;clear zh2;refine ae zh3 λ zh4 h3=>?_;clear zh3;refine ae zh4 λ h1 h2=>?_;clear zh4
 refine hGZ ?_
 exact get_value (X.keeps H.keep) I (plainGet_of h1).1 (findObj_cls h2 h3 h4 h5 h6 (by rw [hl,hv])) h5 ⟨hc,H.tok⟩
theorem qE {x d C f:Addr} {kvs:List (Str×Value)} {name:Str} {pl:Sem Bool} {Q:Value×List Value->Shared->Prop} (X:K.In B) (hok:bZ K C name f = true) (H:W prog w B g os σ s) (hx:(x,AObj.inst C d)∈σ) (hd:(d,AObj.sdict kvs)∈σ) (hv:valueAt kvs name = none)
  (h:Q (.ref f,[.ref x]) s):wpAny (model prog w) A (getMethod (.ref x) name pl) Q E s:=by
 refine aV (fb H hx hd) λ od kvs0 I hl hk=>?_
 subst hk
 rw [aD,Option.map_eq_none_iff] at hv
 simp only [bZ,Bool.and_eq_true,beq_iff_eq] at hok
 refine ae hok λ zh1 h3=>?_;clear hok;refine ae zh1 λ h1 h2=>?_;clear zh1
 exact method_fn (X.keeps H.keep) I (plainGet_of h1).1 (plainGet_of h1).2 h2 (beq_iff_eq.mp h3) (by show (lookIn name od).map _ = _;rw [hl,hv];rfl) h
theorem aF {e:Expr} {attr:Str} {pos:Pos} {o v:Value} (he:Gv prog w A B g os σ (eval e env) o) (ha:∀ o0,cv o0 = o->Gv prog w A B g os σ (getAttr o0 attr true) v)
  (hs:eval (.Attribute e attr pos) env = (do
   let o ← eval e env
   standAt pos.atName
   let r ← holding [o] (getAttr o attr true)
   letTemporaryGo e o r
   pure r):=by rfl) (hl:∀ o r,letTemporaryGo e o r = pure ():=by intro _ _;rfl):Gv prog w A B g os σ (eval (.Attribute e attr pos) env) v:=λ E s H=>by
 rw [hs]
 refine wpAny_bind (he.use H λ o0 s1 e1 H₁=>wpAny_bind (wpAny_standAt (wpAny_bind (wpAny_holding ((ha o0 e1).use H₁ λ r s2 e2 H₂=>?_)))))
 rw [hl]
 exact wpAny_bind (wpAny_pure (wpAny_pure ⟨e2,H₂⟩))
theorem pH {e:Expr} {attr:Str} {pos:Pos} {o:Value} (H:W prog w B g os σ s) (he:Gv prog w A B g os σ (eval e env) o) (ha:∀ o0 s',cv o0 = o->W prog w B g os σ s'->wpAny (model prog w) A (getAttr o0 attr true) Q E s')
  (hs:eval (.Attribute e attr pos) env = (do
   let o ← eval e env
   standAt pos.atName
   let r ← holding [o] (getAttr o attr true)
   letTemporaryGo e o r
   pure r):=by rfl) (hl:∀ o r,letTemporaryGo e o r = pure ():=by intro _ _;rfl):wpAny (model prog w) A (eval (.Attribute e attr pos) env) Q E s:=by
 rw [hs]
 refine wpAny_bind (he.use H λ o0 s1 e1 H₁=>wpAny_bind (wpAny_standAt (wpAny_bind (wpAny_holding (wpAny_mono (ha o0 s1 e1 H₁) (λ r s2 q=>?_) λ _ _ e=>e)))))
 rw [hl]
 exact wpAny_bind (wpAny_pure (wpAny_pure q))
noncomputable def fE (K:Frag) (C:Addr) (name:Str):Bool:=findIn K (.ref C) "__setattr__" == some (some (.builtin "object.__setattr__")) && plainOver K C && takerIn K C name == some none && hasDictIn K C
theorem eU {x d C:Addr} {kvs:List (Str×Value)} {name:Str} {v0 v:Value} {Q:Unit->Shared->Prop} (X:K.In B) (hok:fE K C name = true) (H:W prog w B g os σ s) (hx:(x,AObj.inst C d)∈σ) (u:Up d (.sdict kvs) σ f) (hc:cv v0 = v) (hz:kvs.length≤1000)
  (h:∀ s',W prog w B g os (f (.sdict (stored kvs name v))) s'->Q () s'):wpAny (model prog w) A (setAttr (.ref x) name v0) Q E s:=by
 refine ac (H.get u.mem) λ kvs0 D hk=>?_
 refine ac (cm D) λ od h1 h2=>?_
 have I:InstAt s.heap x (instObj C d) C (some od):=⟨H.get hx,rfl,rfl,h1⟩
 simp only [fE,Bool.and_eq_true,beq_iff_eq] at hok
 refine ae hok λ zh1 a4=>?_;clear hok;refine ae zh1 λ zh2 a3=>?_;clear zh1;refine ae zh2 λ a1 a2=>?_;clear zh2
 refine set_plain (X.keeps H.keep) I a1 (osa_open (s:={ s with toks:=s.toks + 1 }) (X.keeps H.keep) I a2 a3 λ b=>?_)
 refine ac (any_some a4) λ cd hcl hd'=>?_
 refine wpAny_bind (wpAny_pure (wpAny_bind (wpAny_bind (wpAny_loadPart (I.at_) (wpAny_bind (looks_clsIn (X.keeps H.keep) hcl _ _ _ _ (λ _ _ e=>e) ?_))))))
 rw [hd']
 refine wpAny_pure (a:=some d) (wpAny_bind (wpAny_pure (wpAny_bind ?_)))
 have hzk:kvs0.length≤1000:=by rw [← hk,List.length_map] at hz;exact hz
 refine jS (s:={ s with toks:=s.toks + 1 }) D hzk λ h' D' hs=>?_
 refine ir (id D') λ o' es' ep' ho' _ hd2 _ hp' _=>?_
 have hl':es'.size≤1001:=by
  have e1:=hp'.length
  have e2:es'.toList.length = es'.size:=by simp
  have e3:=stored_length_le kvs0 name v0
  walk_at "r"
 refine wpAny_bind (wpAny_lookBehind ho' (by rw [hd2];exact pastItsLine_dict (by rw [sizeLine_eq];walk_at "r")) (wpAny_pure ?_))
 refine dq (id D) λ o es ep ho _ hdd _=>?_
 exact h _ (H.upd u hs.extBut (.dict ho hdd) (ad _ D' (by rw [dB,hk,hc])))
noncomputable def mv (K:Frag) (C:Addr) (name:Str) (T:String):Bool:=plainGet K C name && hasDictIn K C && findIn K (.ref C) name == some (some (.type T)) && !copiedNames.contains name
theorem bA:specialOf (.type "dict") "__get__" = pure none:=by kernel_rfl
open Builtin Builtin.ObjectAttr in
theorem rO {x d C:Addr} {kvs:List (Str×Value)} {name:Str} {T:String} {expr:Bool} (X:K.In B) (hok:mv K C name T = true) (hT:specialOf (.type T) "__get__" = pure none) (hx:(x,AObj.inst C d)∈σ) (hd:(d,AObj.sdict kvs)∈σ) (hv:valueAt kvs name = none) :
  Gv prog w A B g os σ (getAttr (.ref x) name expr) (.type T):=by
 intro E s H
 refine aV (fb H hx hd) λ od kvs0 I hl hk=>?_
 subst hk
 rw [aD,Option.map_eq_none_iff] at hv
 simp only [mv,Bool.and_eq_true,beq_iff_eq,Bool.not_eq_true'] at hok
 refine ae hok λ zh1 h6=>?_;clear hok;refine ae zh1 λ zh2 h3=>?_;clear zh1;refine ae zh2 λ h1 h2=>?_;clear zh2
 have X':=X.keeps H.keep
 refine ac (any_some h2) λ cd hcd hdd=>?_
 have ho:W.ownOf cd (some od) name = some none:=by unfold W.ownOf;rw [if_pos hdd];show lookIn name od = _;rw [hl,hv]
 have L1:=looks_findIn (M:=model prog w) X' h3
 have L2:Looks (model prog w) s.heap (getOf (some (.type T))) none:=Looks.of_pure hT
 have G:Looks (model prog w) s.heap (copiedAttributeGuard name (.ref x)) ():=by
  unfold copiedAttributeGuard
  dsimp only
  split
  ·rename_i q2
   have q2:copiedNames.contains name = true:=q2
   rw [h6] at q2;cases q2
  ·exact .now
 have L3:Looks (model prog w) s.heap (find (.ref x) (.ref C) name) (.value (.type T)):=by
  refine L1.andThen (L2.andThen (Looks.now.andThen ?_))
  refine (looks_own X' I hcd ho).andThen (G.andThen ?_)
  exact Looks.tag ((Looks.of_pure (handedOut_of rfl)).andThen .now)
 refine get_open X' I (plainGet_of h1).1 ?_
 have L0:=I.type (M:=model prog w)
 refine wpAny_bind (wpAny_pure (wpAny_bind (L0 _ _ _ _ (λ _ _ e=>e) (wpAny_bind (L3 _ _ _ _ (λ _ _ e=>e) ?_)))))
 refine wpAny_pure ?_
 show wpAny _ _ (handedOut (.type T)) _ _ _
 rw [handedOut_of rfl];exact wpAny_pure ⟨rfl,H.tok⟩
structure FnIn (K:Frag) (a:Addr) (fd:FuncData) (body:List Stmt):Prop where
 ho:∃ oc od osl,K.lookup a = some ⟨oc,od,.func fd,osl⟩
 hcd:codeIn K fd.code fd.qualname = true
 hbody:fd.body = .stmts body
noncomputable def pU (binds:List (Str×Value)):Str->Option Value:=λ x=>(binds.reverse.lookup x).map cv
theorem du {vs ws:List Value} (H:W prog w B g os σ s) (e:vs.map cv = ws) (hz:vs.length≤1000) (h:∀ a s',W prog w B g os ((a,.list ws) :: σ) s'->Q (.ref a) s'):wpAny (model prog w) A (newList vs) Q E s :=
 wpAny_newObj_type (h _ _ (H.add (t:=s.toks) (λ _ _ e=>Heap.get?_push_of_some _ e) (Nat.le_refl _) (ad vs.toArray ⟨_,Heap.get?_push_size _ rfl⟩ e))) (by show vs.toArray.size≤sizeLine;rw [List.size_toArray,sizeLine_eq];walk_at "r")
theorem bD {vs ws:List Value} (H:W prog w B g os σ s) (e:vs.map cv = ws) (hz:vs.length≤1000) (h:∀ a s',W prog w B g os ((a,.tup ws) :: σ) s'->Q (.ref a) s'):wpAny (model prog w) A (newTuple vs) Q E s :=
 wpAny_newObj_type (h _ _ (H.add (t:=s.toks) (λ _ _ e=>Heap.get?_push_of_some _ e) (Nat.le_refl _) (ad vs.toArray (bl _ (Heap.get?_push_size _ rfl) rfl (c5 _ rfl)) e))) (by show vs.toArray.size≤sizeLine;rw [List.size_toArray,sizeLine_eq];walk_at "r")
theorem i8 {elts:List Expr} {pos:Pos} (h:wpAny (model prog w) A (spliced (backTo pos (starEach elts env))) (λ vs s1=>wpAny (model prog w) A (newList vs) Q E s1) E s) :
  wpAny (model prog w) A (eval (.List elts pos) env) Q E s:=List_ h
theorem d6 {elts:List Expr} {k:Nat} {pos:Pos} (h:wpAny (model prog w) A (spliced (backTo pos (starEach elts env))) (λ vs s1=>wpAny (model prog w) A (newTuple vs) Q E s1) E s) :
  wpAny (model prog w) A (eval (.Tuple elts k pos) env) Q E s:=Tuple_ h
theorem bU {vs:List Value} {i:Nat} {v:Value} (h:(vs.map cv)[i]? = some v):∃ v0,vs[i]? = some v0∧cv v0 = v:=by
 rw [List.getElem?_map] at h
 cases q:vs[i]? with
 | none=>rw [q] at h;cases h
 | some v0=>rw [q] at h;exact (ad v0 rfl (Option.some.inj h))
theorem lU {a:Addr} {vs:List Value} {k:Int} {i0 v:Value} (hm:(a,AObj.list vs)∈σ) (hk:cv i0 = .int k 0) (h0:0≤k) (hx:vs[k.toNat]? = some v) (hz:k < 2 ^ 63):Gv prog w A B g os σ (getItem (.ref a) i0) v:=by
 intro E s H
 refine ac (H.get hm) λ items hl e=>?_
 refine ai (ap hk) λ t zh1=>?_;obtain rfl:=zh1
 rw [← e] at hx
 refine ac (bU hx) λ v0 h1 h2=>?_
 exact wpAny_getItem_list hl.isList h0 hz (by rw [← Array.getElem?_toList];exact h1) ⟨h2,H⟩
theorem ro {a:Addr} {vs:List Value} {k:Int} {i0 v:Value} (hm:(a,AObj.tup vs)∈σ) (hk:cv i0 = .int k 0) (h0:0≤k) (hx:vs[k.toNat]? = some v) (hz:k < 2 ^ 63):Gv prog w A B g os σ (getItem (.ref a) i0) v:=by
 intro E s H
 refine bj λ GZ hGZ=>?_
 refine ac (H.get hm) λ items zh1 e=>?_;refine aU zh1 λ o ho hc zh2=>?_;clear zh1;refine ai zh2 λ n hd=>?_;clear zh2
 refine hGZ ?_
 refine ai (ap hk) λ t zh1=>?_;obtain rfl:=zh1
 rw [← e] at hx
 refine ac (bU hx) λ v0 h1 h2=>?_
 have hlt:k.toNat < items.size:=by
  have:=(List.getElem?_eq_some_iff.mp h1).1
  simpa using this
 refine PyProof.Rows.getItem_tuple (bl o ho hc (c5 n hd)) (by walk_at "r") hz (j:=k.toNat) ?_ (by rw [← Array.getElem?_toList];exact h1) ⟨h2,H⟩
 unfold seqIndex?
 simp only [show ¬ k < 0 from Int.not_lt.mpr h0,if_false]
 rw [if_pos (by simp only [Bool.and_eq_true,decide_eq_true_eq];walk_at "r")]
theorem ia {a:Addr} {kvs:List (Int×Value)} {k:Int} {i0 v:Value} (hm:(a,AObj.idict kvs)∈σ) (hk:cv i0 = .int k 0) (hx:valueAt kvs k = some v):Gv prog w A B g os σ (getItem (.ref a) i0) v:=by
 intro E s H
 refine ac (H.get hm) λ kvs0 hl e=>?_
 refine ai (ap hk) λ t zh1=>?_;obtain rfl:=zh1
 rw [← e,aD] at hx
 cases q:valueAt kvs0 k with
 | none=>rw [q] at hx;cases hx
 | some v0=>rw [q] at hx;exact wpAny_getItem_of (intKind_is prog w k t) hl.mapOf q ⟨Option.some.inj hx,H.tok⟩
theorem qg {P:Value->Prop} {k:Int} (h:∀ t,P (.int k t)):∀ k0,cv k0 = .int k 0->P k0:=λ k0 e=>by
 refine ai (ap e) λ t q=>?_;rw [q];exact h t
theorem cz {e i:Expr} {pos:Pos} {a:Addr} {k v:Value} (T id:String) (he:Gv prog w A B g os σ (eval e env) (.ref a)) (hi:Gv prog w A B g os σ (eval i env) k)
  (hT:∀ s,W prog w B g os σ s->s.TypeIs (.ref a) T) (hg:∀ k0,cv k0 = k->Gv prog w A B g os σ (getItem (.ref a) k0) v)
  (hl:typeLookup (.type T) "__getitem__" = pure (some (.builtin id)))
  (hs:∀ k0,cv k0 = k->subscripted i false (.ref a) k0 = operate [.ref a,k0] (getItem (.ref a) k0)) :
  Gv prog w A B g os σ (eval (.Subscript e i pos) env) v:=λ E s H=>
 Subscript_ (he.use H λ o0 s1 e1 H₁=>by
  cases ak e1
  exact hi.use H₁ λ k0 s2 e2 H₂=>tail_any (hT s2 H₂) hl (hg k0 e2 E s2 H₂) (hs k0 e2))
theorem hV {a:Addr} {vs:List Value} (hm:(a,AObj.list vs)∈σ):∀ s,W prog w B g os σ s->s.TypeIs (.ref a) "list":=λ s H=>by refine ac (H.get hm) λ zz hl zz=>?_;exact hl.isList.typeIs
theorem qx {a:Addr} {vs:List Value} (hm:(a,AObj.tup vs)∈σ):∀ s,W prog w B g os σ s->s.TypeIs (.ref a) "tuple":=λ s H=>by refine ac (H.get hm) λ zz hl zz=>?_;exact hl.typeIs
theorem oy {a:Addr} {vs:List (Int×Value)} (hm:(a,AObj.idict vs)∈σ):∀ s,W prog w B g os σ s->s.TypeIs (.ref a) "dict":=λ s H=>by refine ac (H.get hm) λ zz hl zz=>?_;exact hl.typeIs
theorem ko {a:Addr} {vs:List (List Int×Value)} (hm:(a,AObj.tdict vs)∈σ):∀ s,W prog w B g os σ s->s.TypeIs (.ref a) "dict":=λ s H=>by refine ac (H.get hm) λ zz hl zz=>?_;exact hl.typeIs
theorem cq {e i:Expr} {pos:Pos} {a:Addr} {vs:List Value} {k:Int} {v:Value} (he:Gv prog w A B g os σ (eval e env) (.ref a)) (hi:Gv prog w A B g os σ (eval i env) (.int k 0)) (hm:(a,AObj.list vs)∈σ) (h0:0≤k) (hx:vs[k.toNat]? = some v) (hz:k < 2 ^ 63)
  (hs:∀ t,subscripted i false (.ref a) (.int k t) = operate [.ref a,.int k t] (getItem (.ref a) (.int k t)):=by intro;with_unfolding_all rfl):Gv prog w A B g os σ (eval (.Subscript e i pos) env) v :=
 cz "list" _ he hi (hV hm) (λ k0 ek=>lU hm ek h0 hx hz) slot_list_getitem.lookup (qg hs)
theorem fN {e i:Expr} {pos:Pos} {a:Addr} {vs:List Value} {k:Int} {v:Value} (he:Gv prog w A B g os σ (eval e env) (.ref a)) (hi:Gv prog w A B g os σ (eval i env) (.int k 0)) (hm:(a,AObj.tup vs)∈σ) (h0:0≤k) (hx:vs[k.toNat]? = some v) (hz:k < 2 ^ 63)
  (hs:∀ t,subscripted i false (.ref a) (.int k t) = operate [.ref a,.int k t] (getItem (.ref a) (.int k t)):=by intro;with_unfolding_all rfl):Gv prog w A B g os σ (eval (.Subscript e i pos) env) v :=
 cz "tuple" _ he hi (qx hm) (λ k0 ek=>ro hm ek h0 hx hz) slot_tuple_getitem.lookup (qg hs)
theorem cH {e i:Expr} {pos:Pos} {a:Addr} {kvs:List (Int×Value)} {k:Int} {v:Value} (he:Gv prog w A B g os σ (eval e env) (.ref a)) (hi:Gv prog w A B g os σ (eval i env) (.int k 0)) (hm:(a,AObj.idict kvs)∈σ) (hx:valueAt kvs k = some v)
  (hs:∀ t,subscripted i false (.ref a) (.int k t) = operate [.ref a,.int k t] (getItem (.ref a) (.int k t)):=by intro;with_unfolding_all rfl):Gv prog w A B g os σ (eval (.Subscript e i pos) env) v :=
 cz "dict" _ he hi (oy hm) (λ k0 ek=>ia hm ek hx) slot_dict_getitem.lookup (qg hs)
theorem jY {a:Addr} {kvs:List (Int×Value)} {k:Int} {k0 d0:Value} (hm:(a,AObj.idict kvs)∈σ) (hk:cv k0 = .int k 0) (hd:cv d0 = .ref a):Gv prog w A B g os σ (compareOp .In k0 d0) (.bool (valueAt kvs k).isSome):=by
 intro E s H
 refine ac (H.get hm) λ kvs0 hl e=>?_
 refine ai (ap hk) λ t zh1=>?_;obtain rfl:=zh1
 cases ak hd
 exact wpAny_in_of (intKind_is prog w k t) (H.ne_sys hm) hl.mapOf ⟨by rw [← e,aD,Option.isSome_map];rfl,H.tok⟩
theorem cn {a:Addr} {kvs:List (Int×Value)} {k:Int} {k0 d0:Value} (hm:(a,AObj.idict kvs)∈σ) (hk:cv k0 = .int k 0) (hd:cv d0 = .ref a):Gv prog w A B g os σ (compareOp .NotIn k0 d0) (.bool (!(valueAt kvs k).isSome)):=by
 intro E s H
 refine ac (H.get hm) λ kvs0 hl e=>?_
 refine ai (ap hk) λ t zh1=>?_;obtain rfl:=zh1
 cases ak hd
 exact wpAny_notIn_of (intKind_is prog w k t) (H.ne_sys hm) hl.mapOf ⟨by rw [← e,aD,Option.isSome_map];rfl,H.tok⟩
theorem bT {a:Addr} {kvs:List (Int×Value)} {k:Int} {k0 v0 v:Value} {Q:Unit->Shared->Prop} (H:W prog w B g os σ s) (u:Up a (.idict kvs) σ f) (hk:cv k0 = .int k 0) (hv:cv v0 = v) (hz:kvs.length≤1000)
  (h:∀ s',W prog w B g os (f (.idict (stored kvs k v))) s'->Q () s'):wpAny (model prog w) A (setItem (.ref a) k0 v0) Q E s:=by
 refine ac (H.get u.mem) λ kvs0 hl e=>?_
 refine ai (ap hk) λ t zh1=>?_;obtain rfl:=zh1
 refine dq (id hl) λ o es ep ho zz hdd zz=>?_
 exact wpAny_setItem_pairs (intKind_is prog w k t) hl (λ h' D' hs=>h _ (H.upd u hs.extBut (.dict ho hdd) (ad _ D' (by rw [dB,e,hv])))) (by rw [← e,List.length_map] at hz;rw [sizeLine_eq];walk_at "r")
theorem eD {o i:Expr} {e:Expr} {p p':Pos} {rest:List Stmt} {Q:Flow->Shared->Prop}
  (h:wpAny (model prog w) A (eval e env) (λ v s1=>wpAny (model prog w) A (eval o env) (λ ov s2=>wpAny (model prog w) A (eval i env) (λ iv s3=>wpAny (model prog w) A (setItem ov iv v) (λ _ s4=>wpAny (model prog w) A (execs rest env) Q E s4) E s3) E s2) E s1) E s)
  (hs:swapsWith e (some (.Subscript o i p)) p'.line env = pure false:=by rfl):wpAny (model prog w) A (execs (.Assign [.Subscript o i p] e p' :: rest) env) Q E s :=
 wpAny_execs_cons (wpAny_Assign_Subscript h hs)
theorem W.idict0 (H:W prog w B g os σ s) {a:Addr} (u:Up a (.sdict []) σ f):W prog w B g os (f (.idict [])) s:=by
 refine bC u.split λ l r zh1 hf=>?_;obtain rfl:=zh1
 rw [hf]
 refine ⟨H.keep,λ p hp=>?_,λ p hp=>?_,by have:=H.nd;simpa using this,H.gens,H.eos,H.sm⟩
 ·rcases List.mem_append.mp hp with hp | hp
  ·exact H.own p (List.mem_append_left _ hp)
  ·rcases List.mem_cons.mp hp with rfl | hp
   ·refine ac (H.own (a,.sdict []) (by simp)) λ kvs0 zh1 e=>?_;refine ir zh1 λ o es ep ho hc hd hk hpp hn=>?_;clear zh1
    have:kvs0 = []:=by simpa using e
    subst this
    have hes:es.toList = []:=by cases h:es.toList with
     | nil=>rfl
     | cons x y=>rw [h] at hpp;cases hpp
    have:es = #[]:=Array.toList_inj.mp (by simpa using hes)
    subst this
    exact (ad [] (eN o (#[]) ep ho hc hd (λ e he=>by simp at he) .nil List.nodup_nil) rfl)
   ·exact H.own p (List.mem_append_right _ (.tail _ hp))
 ·rcases List.mem_append.mp hp with hp | hp
  ·exact H.off p (List.mem_append_left _ hp)
  ·rcases List.mem_cons.mp hp with rfl | hp
   ·exact H.off (a,.sdict []) (by simp)
   ·exact H.off p (List.mem_append_right _ (.tail _ hp))
noncomputable abbrev Led:=List (Addr×AObj)
noncomputable abbrev c9:=List (Nat×GenState)
noncomputable abbrev eT:=Value->Led->Prop
noncomputable def one (v:Value):eT:=λ v0 ν=>cv v0 = v∧ν = []
noncomputable def tup (vs:List Value):eT:=λ v0 ν=>∃ t,v0 = .ref t∧ν = [(t,.tup vs)]
noncomputable def kg:Expr->Prop | .Tuple ..=>True | _=>False
noncomputable def aM:Expr->Prop | .Name ..=>True | _=>False
section
variable (prog:Program) (w:World) (B:Heap) (os:OsState) {C:Type} (ρ:C->Led) (tg:Expr->Prop) (d u:Nat) (I:Addr)
noncomputable def bV:List eT->Led->c9->Prop
 | [],μ,γ=>∀ A c o γo E s,Rm A d u->W prog w B (γ++γo) os (μ++(ρ c++o)) s ->
   wpAny (model prog w) A (pyNext (.ref I)) (λ r s'=>r = none∧∃ c',W prog w B γo os (ρ c'++o) s') E s
 | x :: xs,μ,γ=>∀ A c o γo E s,Rm A d u->W prog w B (γ++γo) os (μ++(ρ c++o)) s ->
   wpAny (model prog w) A (pyNext (.ref I)) (λ r s'=>∃ v ν μ' γ' c',r = some v∧x v ν∧bV xs μ' γ' ∧
    ∀ t,tg t->∀ E',wpAny (model prog w) A (letOwnedTupleGo t (.ref I) v) (λ _ s''=>W prog w B (γ'++γo) os (ν++(μ'++(ρ c'++o))) s'') E' s') E s
end
section
variable {w:World} {A:Around} {env:Env}
variable {B:Heap} {g:List (Nat×GenState)} {os:OsState} {σ:List (Addr×AObj)} {E:Value->Shared->Prop} {s:Shared} {f:AObj->List (Addr×AObj)}
theorem W.repl (H:W prog w B g os σ s) {σ':Led} (e:σ'.map (·.1) = σ.map (·.1)) (h:∀ p∈σ',Real prog w s.heap p.1 p.2):W prog w B g os σ' s :=
 ⟨H.keep,h,λ p hp=>by
  have:p.1∈σ.map (·.1):=e▸List.mem_map_of_mem hp
  refine ac (List.mem_map.mp this) λ q hq e'=>?_
  rw [← e'];exact H.off q hq,e▸H.nd,H.gens,H.eos,H.sm⟩
theorem W.head (H:W prog w B g os σ s) {a:Addr} {x x':AObj} {r:Led} (e:σ = (a,x) :: r) (h:Real prog w s.heap a x->Real prog w s.heap a x'):W prog w B g os ((a,x') :: r) s:=by
 subst e
 refine H.repl rfl λ p hp=>?_
 rcases List.mem_cons.mp hp with rfl | hp
 ·exact h (H.own _ (.head _))
 ·exact H.own _ (.tail _ hp)
theorem W.lose {a:Addr} {x:AObj} (H:W prog w B g os ((a,x) :: σ) s) {h':Heap} {t:Nat} (hs:Heap.ExtBut a s.heap h') (ht:NT s.heap a):W prog w B g os σ { s with heap:=h',toks:=t }:=by
 have hB:B.get? a = none:=(H.off (a,x) (.head _)).1
 refine ⟨λ b ob e=>hs b ob (λ q=>by rw [q,hB] at e;cases e) (H.keep b ob e),λ p hp=>?_,λ p hp=>H.off p (.tail _ hp),(List.nodup_cons.mp H.nd).2,H.gens,H.eos,H.sm⟩
 exact (H.own p (.tail _ hp)).sameBut hs (λ q=>(List.nodup_cons.mp H.nd).1 (List.mem_map.mpr (ad p hp q))) ht
inductive Pick (p:Addr×AObj):Led->Led->Prop
 | head {r:Led}:Pick p (p :: r) r
 | tail {q:Addr×AObj} {r r':Led}:Pick p r r'->Pick p (q :: r) (q :: r')
 | app {l r r':Led}:Pick p r r'->Pick p (l++r) (l++r')
 | appL {l r l':Led}:Pick p l l'->Pick p (l++r) (l'++r)
theorem Pick.perm {p:Addr×AObj} {σ σ':Led} (h:Pick p σ σ'):σ.Perm (p :: σ'):=by
 induction h with
 | head=>exact .refl _
 | tail _ ih=>exact (ih.cons _).trans (.swap ..)
 | @app l r r' _ ih=>exact (ih.append_left l).trans List.perm_middle
 | @appL l r l' _ ih=>exact ih.append_right r
theorem W.pick {a:Addr} {o:AObj} {σ':Led} (H:W prog w B g os σ s) (h:Pick (a,o) σ σ'):W prog w B g os ((a,o) :: σ') s:=H.perm h.perm
theorem dR {t:Expr} {I:Addr} {v:Value} {o:Obj} {n:String} {Q:Unit->Shared->Prop} (ho:s.heap.get? I = some o) (hc:o.cls = .type n)
  (hn:["enumerate","zip","dict_itemiterator","dict_reverseitemiterator","odict_iterator","itertools.zip_longest","itertools.pairwise"].contains n = false) (hQ:Q () s) :
  wpAny (model prog w) A (letOwnedTupleGo t (.ref I) v) Q E s:=by
 have key:wpAny (model prog w) A (do
   let (.ref r,.ref a):=(Value.ref I,v) | return
   let o ← load r
   match o.cls,o.data with
   | .type n,.fields vs=>
    if ["enumerate","zip","dict_itemiterator","dict_reverseitemiterator","odict_iterator","itertools.zip_longest","itertools.pairwise"].contains n && vs[0]? == some (rawInt a) then
     rule "for.unpacks-the-owned-tuple"
     updateField r 0 .none
   | _,_=>pure ()) Q E s:=by
  cases v with
  | ref a=>
   refine wpAny_bind (wpAny_load ho ?_)
   obtain ⟨oc,od,oda,osl⟩:=o
   dsimp only at hc
   subst hc
   cases oda with
   | fields vs=>
    dsimp only
    rw [hn,Bool.false_and]
    exact wpAny_pure hQ
   | _=>exact wpAny_pure hQ
  | _=>exact wpAny_pure hQ
 cases t <;> first | exact key | exact wpAny_pure hQ
theorem qb {k:Int} {key:Value} (h:(intKind prog w).is k key = true):∃ t,key = .int k t:=Value.isInt_shape h
noncomputable def a7 (l:Addr) (i:Nat):AObj:=.is λ o=>o.cls = .type "list_iterator"∧o.data = .fields #[.ref l,.int i 0]
noncomputable def eW (l:Addr) (i:Nat):AObj:=.is λ o=>o.cls = .type "tuple_iterator"∧o.data = .fields #[.ref l,.int i 0]
noncomputable def cM (d:Addr) (i n ep:Nat):AObj:=.is λ o=>o.cls = .type "dict_keyiterator"∧o.data = .fields #[.ref d,.int i 0,.int n 0,.int ep 0]
noncomputable def dA (x left:Int):AObj:=.raw { cls:=.type "range_iterator",dict:=none,data:=.fields #[rawInt x,rawInt left,rawInt 1],slots:=#[] }
theorem Real.listIt {h:Heap} {a l:Addr} {i:Nat}:Real prog w h a (a7 l i) ↔ h.IsListIter a l i :=
 ⟨λ ⟨o,x,y⟩=>(ad o x y),λ ⟨o,x,y⟩=>(ad o x y)⟩
theorem Real.tupIt {h:Heap} {a l:Addr} {i:Nat}:Real prog w h a (eW l i) ↔ h.IsTupleIter a l i :=
 ⟨λ ⟨o,x,y⟩=>(ad o x y),λ ⟨o,x,y⟩=>(ad o x y)⟩
theorem Real.keyIt {h:Heap} {a d:Addr} {i n ep:Nat}:Real prog w h a (cM d i n ep) ↔ h.IsKeyIter a d i n ep :=
 ⟨λ ⟨o,x,y⟩=>(ad o x y),λ ⟨o,x,y⟩=>(ad o x y)⟩
theorem NT.is {h:Heap} {b:Addr} {o:Obj} (ho:h.get? b = some o) {vs} (hd:o.data = .fields vs):NT h b:=.fields ho hd
theorem bG {C:Type} {ρ:C->Led} {tg:Expr->Prop} {d u:Nat} {I l:Addr} {vs:List Value} (hρ:∀ c,(l,AObj.list vs)∈ρ c) :
  ∀ (xs:List Value) (i:Nat),vs.drop i = xs->bV prog w B os ρ tg d u I (xs.map one) [(I,a7 l i)] []
 | [],i,hx=>by
  intro A c o γo E s R H
  refine ac (H.get (List.mem_append_right _ (List.mem_append_left _ (hρ c)))) λ items hl e=>?_
  have hit:=Real.listIt.mp (H.get (.head _))
  have hlen:items[i]? = none:=by
   have h1:vs.length≤i:=List.drop_eq_nil_iff.mp hx
   rw [← e,List.length_map] at h1
   rw [← Array.getElem?_toList];exact List.getElem?_eq_none h1
  refine wpAny_pyNext_list_end R.hd hit hl.isList hlen λ h' hs=>(aJ rfl (c5 c ?_))
  refine aU hit λ o ho hc hd=>?_;clear hit
  exact H.lose (t:=s.toks) hs (.fields ho hd)
 | x :: xs,i,hx=>by
  intro A c o γo E s R H
  refine ac (H.get (List.mem_append_right _ (List.mem_append_left _ (hρ c)))) λ items hl e=>?_
  have hit:=Real.listIt.mp (H.get (.head _))
  have h1:vs[i]? = some x:=by rw [← List.head?_drop,hx];rfl
  have h2:vs.drop (i + 1) = xs:=by rw [← List.drop_drop,hx];rfl
  rw [← e] at h1
  refine ac (bU h1) λ v h3 h4=>?_
  refine wpAny_pyNext_list_item hit hl.isList (by rw [← Array.getElem?_toList];exact h3) λ h' hit' hs=>?_
  refine aU (id hit) λ ob ho hc hd=>?_
  refine (gA v [] [(I,a7 l (i + 1))] [] c rfl ⟨h4,rfl⟩ (bG hρ xs (i + 1) h2) (λ t _ E'=>?_))
  refine aU (id hit') λ ob' ho' hc' hd'=>?_
  exact dR ho' hc' (by decide) (H.upd (t:=s.toks) .head hs.extBut (.fields ho hd) (Real.listIt.mpr hit'))
end
theorem aG {x:Str} {p:Pos} {v0:Value} {Q:Unit->Shared->Prop} (h:wpAny (model prog w) A (storeName env x v0) Q E s):wpAny (model prog w) A (assign (.Name x p) env v0) Q E s:=wpAny_assign_Name h
theorem W.ext (H:W prog w B g os σ s) {h':Heap} {t:Nat} (hs:Heap.ExtBut s.heap.objs.size s.heap h'):W prog w B g os σ { s with heap:=h',toks:=t } :=
 H.grow λ b o e=>hs b o (Nat.ne_of_lt (Heap.lt_size e)) e
theorem j5 {elts:List Expr} {k:Nat} {pos:Pos} {t:Addr} {vs:List Value} {Q:Unit->Shared->Prop} (hh:A.handled = none) (H:W prog w B g os σ s) (hm:(t,AObj.tup vs)∈σ)
  (hn:(assignEach elts env).length = vs.length) (hstar:(assignEach elts env).findIdx? (·.1) = none)
  (h:∀ ws s',ws.map cv = vs->W prog w B g os σ s'->wpAny (model prog w) A (assignInOrder ((assignEach elts env).map (·.2)) ws) Q E s'):wpAny (model prog w) A (assign (.Tuple elts k pos) env (.ref t)) Q E s:=by
 refine ac (H.get hm) λ items ht e=>?_
 refine PySem.wpAny_assign_Tuple hh ht (by rw [hn,← e];simp) hstar λ h' hs=>h _ _ e (H.ext (t:=s.toks) hs)
theorem gL {Q:Unit->Shared->Prop} {xs:List Value} (h:Q () s):wpAny (model prog w) A (assignInOrder [] xs) Q E s:=wpAny_pure h
theorem bK {t:Value->Sem Unit} {ts:List (Value->Sem Unit)} {x:Value} {xs:List Value} {Q:Unit->Shared->Prop} (h:wpAny (model prog w) A (t x) (λ _ s'=>wpAny (model prog w) A (assignInOrder ts xs) Q E s') E s) :
  wpAny (model prog w) A (assignInOrder (t :: ts) (x :: xs)) Q E s:=by
 unfold assignInOrder
 exact wpAny_bind (wpAny_holding h)
theorem kI {x y:Str} {p1 p2 pos:Pos} {k:Nat} {t:Addr} {a b:Value} {m:Str->Option Value} {Q:Unit->Shared->Prop} (hh:A.handled = none) (H:W prog w B g os σ s) (hm:(t,AObj.tup [a,b])∈σ) (u:Up env.locals (.frame m) σ f)
  (hf:∀ v,Up env.locals (.frame v) (f (.frame v)) f)
  (h:∀ s',W prog w B g os (f (.frame (put y b (put x a m)))) s'->Q () s') (hx:env.kindOf x = some .local:=by rfl) (hy:env.kindOf y = some .local:=by rfl) (hk:env.scope.kind = .function:=by rfl) :
  wpAny (model prog w) A (assign (.Tuple [.Name x p1,.Name y p2] k pos) env (.ref t)) Q E s:=by
 refine j5 hh H hm rfl rfl λ ws s' e H'=>?_
 refine aV (co e) λ a0 b0 zh1 e1 e2=>?_;obtain rfl:=zh1
 refine bK (aG (al H' u e1 (λ s2 H₂=>?_) hx hk))
 refine bK (aG (al H₂ (hf _) e2 (λ s3 H₃=>?_) hy hk))
 exact gL (h _ H₃)
theorem fQ {C:Type} {ρ:C->Led} {tg:Expr->Prop} {d u:Nat} {I:Addr} {target:Expr} {body:List Stmt} {R:Result->Shared->Prop} (J:List eT->Led->c9->Prop) (htg:tg target) (hR:Rm A d u)
  (turn:∀ x xs μ γ o γo c v ν s E',J (x :: xs) o γo->x v ν->W prog w B (γ++γo) os (ν++(μ++(ρ c++o))) s ->
   wpAny (model prog w) A (assign target env v) (λ _ s2=>wpAny (model prog w) A (execs body env) (λ fl s3=>(fl = .next∨fl = .cont)∧∃ c' o' γo',J xs o' γo'∧W prog w B (γ++γo') os (μ++(ρ c'++o')) s3) E' s2) E' s)
  (done:∀ o γo c s,J [] o γo->W prog w B γo os (ρ c++o) s->R (.ok .next) s) :
  ∀ (xs:List eT) (μ:Led) (γ:c9) (c:C) (o:Led) (γo:c9) (s:Shared),bV prog w B os ρ tg d u I xs μ γ->J xs o γo->W prog w B (γ++γo) os (μ++(ρ c++o)) s ->
   codeAny (model prog w) A (.forLoop target (.ref I) body [] env) R s:=by
 intro xs μ γ c o γo s G hJ H
 refine codeAny_forLoop_any (λ n s'=>∃ xs μ γ c o γo,n = xs.length∧bV prog w B os ρ tg d u I xs μ γ∧J xs o γo∧W prog w B (γ++γo) os (μ++(ρ c++o)) s') ?_ xs.length (bk xs μ γ (dW c o γo rfl G hJ H))
 intro n s' zr;refine cw zr λ xs μ γ zk0=>?_;refine dq zk0 λ c o γo zh1 G hJ H=>?_;clear zk0;clear zr;obtain rfl:=zh1
 cases xs with
 | nil=>
  refine wpAny_mono (G A c o γo _ s' hR H) (λ r s1 h1=>?_) λ _ _ e=>e
  refine ae h1 λ zh1 zh2=>?_;clear h1;obtain rfl:=zh1;refine ai zh2 λ c' H'=>?_;clear zh2
  exact ay (done _ _ _ _ hJ H')
 | cons x xs=>
  refine wpAny_mono (G A c o γo _ s' hR H) (λ r s1 h1=>?_) λ _ _ e=>e
  refine gw h1 λ v ν μ' γ' c' zh1 hx G' hl=>?_;clear h1;obtain rfl:=zh1
  refine wpAny_mono (hl target htg _) (λ _ s2 H₂=>?_) λ _ _ e=>e
  refine wpAny_mono (turn x xs μ' γ' o γo c' v ν s2 _ hJ hx H₂) (λ _ s3 h3=>?_) λ _ _ e=>e
  refine wpAny_mono h3 (λ fl s4 h4=>?_) λ _ _ e=>e
  refine ae h4 λ hfl zh1=>?_;clear h4;refine eZ zh1 λ c'' o' γo' hJ' H'=>?_;clear zh1
  rcases hfl with rfl | rfl
  ·exact (ad _ (Nat.lt_succ_self _) (bk xs μ' γ' (dW c'' o' γo' rfl G' hJ' H')))
  ·exact (ad _ (Nat.lt_succ_self _) (bk xs μ' γ' (dW c'' o' γo' rfl G' hJ' H')))
theorem lj {C:Type} {ρ:C->Led} {tg:Expr->Prop} {d u:Nat} {target iter:Expr} {body rest:List Stmt} {pos:Pos} {Q:Flow->Shared->Prop} (J:List eT->Led->c9->Prop) (htg:tg target) (hR:Rm A d u)
  (it:wpAny (model prog w) A (eval iter env) (λ v s1=>wpAny (model prog w) A (pyIter v) (λ i s2=>∃ I xs μ γ c o γo,i = .ref I∧bV prog w B os ρ tg d u I xs μ γ∧J xs o γo∧W prog w B (γ++γo) os (μ++(ρ c++o)) s2) E s1) E s)
  (turn:∀ x xs μ γ o γo c v ν s E',J (x :: xs) o γo->x v ν->W prog w B (γ++γo) os (ν++(μ++(ρ c++o))) s ->
   wpAny (model prog w) A (assign target env v) (λ _ s2=>wpAny (model prog w) A (execs body env) (λ fl s3=>(fl = .next∨fl = .cont)∧∃ c' o' γo',J xs o' γo'∧W prog w B (γ++γo') os (μ++(ρ c'++o')) s3) E' s2) E' s)
  (done:∀ o γo c s,J [] o γo->W prog w B γo os (ρ c++o) s->wpAny (model prog w) A (execs rest env) Q E s)
  (hs:∀ x,foldedSetIterable iter env x = pure x:=by intro _;rfl) :
  wpAny (model prog w) A (execs (.For target iter body [] pos :: rest) env) Q E s :=
 wpAny_execs_cons (wpAny_For (wpAny_mono it (λ v s1 h1=>wpAny_mono h1 (λ i s2 h2=>by
  refine cw h2 λ I xs μ zk0=>?_;refine eX zk0 λ γ c o γo zh1 zk1=>?_;clear zk0;refine bP zk1 λ G hJ H=>?_;clear zk1;clear h2;obtain rfl:=zh1
  exact fQ J htg hR turn (λ o γo c s hJ H=>done o γo c s hJ H) xs μ γ c o γo s2 G hJ H) λ _ _ e=>e) λ _ _ e=>e) hs)
noncomputable def oj (prog:Program) (w:World) (B:Heap) (os:OsState) {C:Type} (ρ:C->Led) (I:Addr) (μ:Led) (γ:c9):Prop :=
 ∀ A c o γo E s,W prog w B (γ++γo) os (μ++(ρ c++o)) s->wpAny (model prog w) A (pyIter (.ref I)) (λ it s'=>it = .ref I∧W prog w B (γ++γo) os (μ++(ρ c++o)) s') E s
theorem jf {C:Type} {ρ:C->Led} {I l:Addr} {i:Nat}:oj prog w B os ρ I [(I,a7 l i)] []:=λ A c o γo E s H=>
 wpAny_pyIter_listiter (Real.listIt.mp (H.get (.head _))) ⟨rfl,H⟩
theorem dG {C:Type} {ρ:C->Led} {I:Addr} {a n:Int}:oj prog w B os ρ I [(I,dA a n)] []:=λ A c o γo E s H=>
 wpAny_pyIter_rangeiter (H.get (.head _)) ⟨rfl,H⟩
noncomputable def bO (ifs:List Expr) (env:Env):Sem Bool:=forIn ifs true λ c r=>if r = true then do let ok ← isTrue c env (eval c env);pure (ForInStep.yield ok) else pure (ForInStep.yield r)
theorem i7 {Q:Bool->Shared->Prop} (h:Q true s):wpAny (model prog w) A (bO [] env) Q E s:=wpAny_tests_nil h
theorem i5 {c:Expr} {Q:Bool->Shared->Prop} (h:wpAny (model prog w) A (isTrue c env (eval c env)) Q E s):wpAny (model prog w) A (bO [c] env) Q E s:=wpAny_tests_one h
theorem er {elt target iter:Expr} {ifs:List Expr} {scope:Scope} {pos:Pos} {it acc:Value} {R:Result->Shared->Prop} (I:Nat->Shared->Prop)
  (turn:∀ n s E',I n s->wpAny (model prog w) A (pyNext it) (λ r s1=>match r with
   | none=>R (.ok .next) s1
   | some v=>wpAny (model prog w) A (letOwnedTupleGo target it v) (λ _ s1'=>wpAny (model prog w) A (assign target env v) (λ _ s2=>
     wpAny (model prog w) A (bO ifs env) (λ ok s3=>
      if ok = true then wpAny (model prog w) A (eval elt env) (λ x s4=>
       wpAny (model prog w) A (call (.builtin "list.append") [acc,x]) (λ _ s5=>∃ m,m < n∧I m s5) E' s4) E' s3
      else ∃ m,m < n∧I m s3) E' s2) E' s1') E' s1) E' s)
  (n:Nat) (h:I n s):codeAny (model prog w) A (.compLoop (.ListComp elt [⟨target,iter,ifs,0⟩] scope pos) 0 it acc env) R s:=by
 refine codeAny_loop rfl I (λ n s hI=>?_) n h
 show wpAny _ A ((compTurn (.ListComp elt [⟨target,iter,ifs,0⟩] scope pos) 0 it acc env).onRaise (λ x=>do noteFrame x env;theTreesLotGoes x)) _ _ s
 refine wpAny_noted ?_
 rw [compTurn_list]
 refine wpAny_bind (wpAny_standAt (wpAny_bind (wpAny_mono (turn n s _ hI) (λ r s1 h1=>?_) λ _ _ h'=>h')))
 cases r with
 | none=>exact wpAny_pure h1
 | some v=>
  refine wpAny_bind (wpAny_mono h1 (λ _ s1' h1'=>?_) λ _ _ h'=>h')
  refine wpAny_bind (wpAny_mono h1' (λ _ s2 h2=>wpAny_bind (wpAny_mono h2 (λ ok s3 h3=>?_) λ _ _ h'=>h')) λ _ _ h'=>h')
  cases ok with
  | false=>exact wpAny_pure ⟨rfl,h3⟩
  | true=>
   exact wpAny_bind (wpAny_bind (wpAny_mono h3 (λ kv s4 h4=>wpAny_bind (wpAny_mono h4 (λ vv s5 h5=>wpAny_pure (wpAny_pure ⟨rfl,h5⟩)) λ _ _ h'=>h')) λ _ _ h'=>h'))
theorem j2 {a:Addr} {vs:List Value} {x₀ x:Value} (H:W prog w B g os σ s) (u:Up a (.list vs) σ f) (hx:cv x₀ = x) (hz:vs.length≤1000)
  (h:∀ s',W prog w B g os (f (.list (vs++[x]))) s'->Q .none s'):wpAny (model prog w) A (call (.builtin "list.append") [.ref a,x₀]) Q E s:=by
 refine ac (H.get u.mem) λ items hl e=>?_
 refine wpAny_list_append_plain hl (λ h' hl' hs=>h _ (H.upd (t:=s.toks) u hs.extBut (.list hl.isList) (ad _ hl' ?_))) (by
  have:items.size≤1000:=by rw [← e,List.length_map] at hz;simpa using hz
  rw [sizeLine_eq];walk_at "r")
 rw [Array.toList_push,List.map_append,e];show vs++[cv x₀] = _;rw [hx]
theorem oI {C:Type} {ρ:C->Led} {tg:Expr->Prop} {d u:Nat} {elt target iter:Expr} {ifs:List Expr} {scope:Scope} {cl:List (Str×Addr)} {pos:Pos}
  (J:List eT->List Value->Led->c9->Prop) (htg:tg target) (hR:Rm A d u)
  (hclos:closureFor scope env = pure cl)
  (it:wpAny (model prog w) A (eval iter env) (λ v s1=>wpAny (model prog w) A (pyIter v) (λ i s2=>∃ I xs μ γ c o γo,i = .ref I∧xs.length≤1000∧bV prog w B os ρ tg d u I xs μ γ∧oj prog w B os ρ I μ γ ∧
   J xs [] o γo∧W prog w B (γ++γo) os (μ++(ρ c++o)) s2) E s1) E s)
  (turn:∀ x xs ws D Cf m μ γ o γo c v ν s E',J (x :: xs) ws o γo->x v ν->W prog w B (γ++γo) os ((Cf,.frame m) :: (D,.list ws) :: (ν++(μ++(ρ c++o)))) s ->
   wpAny (model prog w) A (assign target (compEnvC scope cl Cf env) v) (λ _ s2=>wpAny (model prog w) A (bO ifs (compEnvC scope cl Cf env)) (λ ok s3=>
    if ok = true then wpAny (model prog w) A (eval elt (compEnvC scope cl Cf env)) (λ y s4=>∃ m' c' o' γo',J xs (ws++[cv y]) o' γo'∧W prog w B (γ++γo') os ((Cf,.frame m') :: (D,.list ws) :: (μ++(ρ c'++o'))) s4) E' s3
    else ∃ m' c' o' γo',J xs ws o' γo'∧W prog w B (γ++γo') os ((Cf,.frame m') :: (D,.list ws) :: (μ++(ρ c'++o'))) s3) E' s2) E' s)
  (done:∀ D ws o γo c s,J [] ws o γo->W prog w B γo os ((D,.list ws) :: (ρ c++o)) s->Q (.ref D) s)
  (hcell:∀ y∈scope.names,y.2≠.cell:=by decide +kernel) (hkind:scope.kind = .function:=by rfl)
  (hnames:∀ x∈scope.names,x.2 = .local->scope.names.lookup x.1 = some .local:=by decide +kernel)
  (hs:∀ x,foldedSetIterable iter env x = pure x:=by intro _;rfl) :
  wpAny (model prog w) A (eval (.ListComp elt [⟨target,iter,ifs,0⟩] scope pos) env) Q E s:=by
 rw [eval_ListComp]
 refine wpAny_comprehension_free (use:=none) rfl hs hclos hkind hnames (wpAny_mono it (λ xv s1 h₁=>wpAny_mono h₁ (λ it s2 h₂=>?_) λ _ _ e=>e) λ _ _ e=>e)
 refine cw h₂ λ I xs μ zk0=>?_;refine cx zk0 λ γ c o γo zh1 hlen G S zk1=>?_;clear zk0;refine ae zk1 λ hJ H=>?_;clear zk1;clear h₂;obtain rfl:=zh1
 refine du H rfl (by simp) λ D s3 H₃=>?_
 refine wpAny_newFunctionEnv hcell (by intro y hy;simp at hy) (λ h₁ hns1 hsb1=>?_) hkind
 have hkp:∀ b o,s3.heap.get? b = some o->h₁.get? b = some o:=λ b o e=>hsb1.extBut b o (Nat.ne_of_lt (Heap.lt_size e)) (Heap.get?_push_of_some _ e)
 have H₄:W prog w B (γ++γo) os ((s3.heap.objs.size,.frame λ _=>none) :: (D,.list []) :: (μ++(ρ c++o))) { s3 with heap:=h₁,toks:=s3.toks + ([]:List (Str×Value)).length } :=
  H₃.add hkp (Nat.le_refl _) (ad _ hns1 (λ x=>rfl))
 generalize s3.heap.objs.size = Cf at H₄ ⊢
 generalize ({ s3 with heap:=h₁,toks:=s3.toks + ([]:List (Str×Value)).length }:Shared) = s4 at H₄ ⊢
 have loop:∀ s5,W prog w B (γ++γo) os ((Cf,.frame λ _=>none) :: (D,.list []) :: (μ++(ρ c++o))) s5 ->
   codeAny (model prog w) A (.compLoop (.ListComp elt [⟨target,iter,ifs,0⟩] scope pos) 0 (.ref I) (.ref D) (compEnvC scope cl Cf env)) (compPost (model prog w) A E none Q (.ref D) Cf) s5:=by
  intro s5 H₅
  refine er (λ n s'=>∃ xs ws m μ γ c o γo,n = xs.length∧ws.length + xs.length≤1000∧bV prog w B os ρ tg d u I xs μ γ∧J xs ws o γo∧W prog w B (γ++γo) os ((Cf,.frame m) :: (D,.list ws) :: (μ++(ρ c++o))) s')
   ?_ xs.length (ip xs [] _ μ γ c o γo rfl (by simpa using hlen) G hJ H₅)
  intro n s' E' hJ0
  refine eL λ Q1 hQ1=>?_
  refine n8 hJ0 λ xs ws m μ γ c o γo zh1 hz G hJ H=>?_;clear hJ0;obtain rfl:=zh1
  have H':W prog w B (γ++γo) os (μ++(ρ c++((Cf,.frame m) :: (D,.list ws) :: o))) s':=H.perm (by
   have h1:((Cf,AObj.frame m) :: (D,AObj.list ws) :: (μ++(ρ c++o))) = [(Cf,AObj.frame m),(D,AObj.list ws)]++((μ++ρ c)++o):=by simp
   have h2:μ++(ρ c++((Cf,AObj.frame m) :: (D,AObj.list ws) :: o)) = (μ++ρ c)++([(Cf,AObj.frame m),(D,AObj.list ws)]++o):=by simp
   rw [h1,h2];exact List.perm_append_comm_assoc ..)
  cases xs with
  | nil=>
   refine wpAny_mono (G A c _ γo _ s' hR H') (λ r s1 h₁=>hQ1 _ _ ?_) λ _ _ e=>e
   refine ae h₁ λ zh1 zh2=>?_;clear h₁;obtain rfl:=zh1;refine ai zh2 λ c' H''=>?_;clear zh2
   have H3:W prog w B γo os ((Cf,.frame m) :: (D,.list ws) :: (ρ c'++o)) s1:=H''.perm (by
    have h2:ρ c'++((Cf,AObj.frame m) :: (D,AObj.list ws) :: o) = ρ c'++([(Cf,AObj.frame m),(D,AObj.list ws)]++o):=by simp
    rw [h2];exact (List.perm_append_comm_assoc ..))
   refine ac (H3.get (.head _)) λ m0 hn zz=>?_
   exact (ad m0 hn (λ h' hs'=>done D ws o γo c' _ hJ (H3.lose (t:=s1.toks) hs'.extBut (.ns hn))))
  | cons x xs=>
   refine wpAny_mono (G A c _ γo _ s' hR H') (λ r s1 h₁=>hQ1 _ _ ?_) λ _ _ e=>e
   refine gw h₁ λ v ν μ' γ' c' zh1 hx G' hl=>?_;clear h₁;obtain rfl:=zh1
   refine wpAny_mono (hl target htg _) (λ _ s2 H₂=>?_) λ _ _ e=>e
   have H3:W prog w B (γ'++γo) os ((Cf,.frame m) :: (D,.list ws) :: (ν++(μ'++(ρ c'++o)))) s2:=H₂.perm (by
    have h1:ν++(μ'++(ρ c'++((Cf,AObj.frame m) :: (D,AObj.list ws) :: o))) = (ν++μ'++ρ c')++([(Cf,AObj.frame m),(D,AObj.list ws)]++o):=by simp
    have h2:((Cf,AObj.frame m) :: (D,AObj.list ws) :: (ν++(μ'++(ρ c'++o)))) = [(Cf,AObj.frame m),(D,AObj.list ws)]++((ν++μ'++ρ c')++o):=by simp
    rw [h1,h2];exact (List.perm_append_comm_assoc ..))
   refine wpAny_mono (turn x xs ws D Cf m μ' γ' o γo c' v ν s2 E' hJ hx H3) (λ _ s3 h3=>wpAny_mono h3 (λ ok s4 h4=>?_) λ _ _ e=>e) λ _ _ e=>e
   have hz':ws.length + 1 + xs.length≤1000:=by simp only [List.length_cons] at hz;walk_at "r"
   cases ok with
   | false=>
    simp only [Bool.false_eq_true,if_false] at h4 ⊢
    refine eX h4 λ m' c'' o' γo' hJ' H4=>?_;clear h4
    exact (ad _ (Nat.lt_succ_self _) (ip xs ws m' μ' γ' c'' o' γo' rfl (by walk_at "r") G' hJ' H4))
   | true=>
    simp only [if_true] at h4 ⊢
    refine wpAny_mono h4 (λ y s5 h5=>?_) λ _ _ e=>e
    refine eX h5 λ m' c'' o' γo' hJ' H4=>?_;clear h5
    refine j2 H4 (.tail .head) rfl (by walk_at "r") λ s₆ H₆=>?_
    exact (ad _ (Nat.lt_succ_self _) (ip xs (ws++[cv y]) m' μ' γ' c'' o' γo' rfl (by simp;walk_at "r") G' hJ' H₆))
 refine codeAny_compStart_list (loop _ H₄) (wpAny_mono (S A c ((Cf,.frame λ _=>none) :: (D,.list []) :: o) γo _ s4 (H₄.perm ?_)) (λ it' s5 h5=>?_) λ _ _ e=>e)
 ·have h1:((Cf,AObj.frame λ _=>none) :: (D,AObj.list []) :: (μ++(ρ c++o))) = [(Cf,AObj.frame λ _=>none),(D,AObj.list [])]++((μ++ρ c)++o):=by simp
  have h2:μ++(ρ c++((Cf,AObj.frame λ _=>none) :: (D,AObj.list []) :: o)) = (μ++ρ c)++([(Cf,AObj.frame λ _=>none),(D,AObj.list [])]++o):=by simp
  rw [h1,h2];exact List.perm_append_comm_assoc ..
 ·refine ae h5 λ zh1 H₅=>?_;clear h5;obtain rfl:=zh1
  refine loop _ (H₅.perm ?_)
  have h1:((Cf,AObj.frame λ _=>none) :: (D,AObj.list []) :: (μ++(ρ c++o))) = [(Cf,AObj.frame λ _=>none),(D,AObj.list [])]++((μ++ρ c)++o):=by simp
  have h2:μ++(ρ c++((Cf,AObj.frame λ _=>none) :: (D,AObj.list []) :: o)) = (μ++ρ c)++([(Cf,AObj.frame λ _=>none),(D,AObj.list [])]++o):=by simp
  rw [h1,h2];exact List.perm_append_comm_assoc ..
section
variable {w:World} {A:Around} {env:Env}
variable {B:Heap} {g:List (Nat×GenState)} {os:OsState} {σ:List (Addr×AObj)} {E:Value->Shared->Prop} {s:Shared} {f:AObj->List (Addr×AObj)}
theorem W.addAll (H:W prog w B g os σ s) {h':Heap} {t:Nat} {es:Led} (k:∀ b o,s.heap.get? b = some o->h'.get? b = some o) (ha:∀ p∈es,s.heap.objs.size≤p.1) (hn:(es.map (·.1)).Nodup) (hr:∀ p∈es,Real prog w h' p.1 p.2) :
  W prog w B g os (es++σ) { s with heap:=h',toks:=t }:=by
 have H':=H.grow (t:=t) k
 refine ⟨H'.keep,λ p hp=>?_,λ p hp=>?_,?_,H.gens,H.eos,H.sm⟩
 ·rcases List.mem_append.mp hp with hp | hp
  ·exact hr p hp
  ·exact H'.own p hp
 ·rcases List.mem_append.mp hp with hp | hp
  ·exact H.offNew (ha p hp)
  ·exact H.off p hp
 ·rw [List.map_append,List.nodup_append]
  refine (aQ hn H.nd (λ a h1 b h2 e=>?_))
  refine ac (List.mem_map.mp h1) λ p hp zh1=>?_;obtain rfl:=zh1
  refine ac (List.mem_map.mp h2) λ q hq zh1=>?_;obtain rfl:=zh1
  exact absurd (H.own q hq).lt (Nat.not_lt.mpr (e▸ha p hp))
noncomputable def dY (fd:FuncData) (binds:List (Str×Value)) (L a:Addr):Led :=
 (L,.frame λ x=>(bindL (callEnvC fd L a).kindOf binds (λ _=>none) x).map cv) ::
  (callEnvC fd L a).cells.map λ x=>(x.2,.cell ((bindC (callEnvC fd L a).kindOf binds (λ _=>none) x.1).map cv))
theorem fK {fd:FuncData} {a:Addr} {binds:List (Str×Value)} {s s1:Shared} (H:W prog w B g os σ s) (x:InCallC s s.heap.objs.size (bindL (callEnvC fd s.heap.objs.size a).kindOf binds λ _=>none) (callEnvC fd s.heap.objs.size a).cells (bindC (callEnvC fd s.heap.objs.size a).kindOf binds λ _=>none) s1)
  (hnd:((callEnvC fd s.heap.objs.size a).cells.map (·.1)).Nodup):W prog w B g os (dY fd binds s.heap.objs.size a++σ) s1:=by
 refine c6 x.toInCall.same λ h tk zh1=>?_;obtain rfl:=zh1
 refine H.addAll x.toInCall.keep (λ p hp=>?_) ?_ (λ p hp=>?_)
 ·rcases List.mem_cons.mp hp with rfl | hp
  ·exact Nat.le_refl _
  ·refine ac (List.mem_map.mp hp) λ y hy zh1=>?_;obtain rfl:=zh1
   exact Nat.le_of_lt (x.above y.1 y.2 hy)
 ·show (_ :: _).Nodup
  rw [List.nodup_cons]
  refine ⟨λ hm=>?_,?_⟩
  ·refine ac (List.mem_map.mp hm) λ p hp e=>?_
   refine ac (List.mem_map.mp hp) λ y hy zh1=>?_;obtain rfl:=zh1
   exact absurd (x.above y.1 y.2 hy) (by rw [show y.2 = s.heap.objs.size from e];exact Nat.lt_irrefl _)
  ·have:(List.map (λ x=>x.2) (callEnvC fd s.heap.objs.size a).cells).Nodup:=List.pairwise_map.mpr x.apart
   rw [List.map_map]
   exact this
 ·rcases List.mem_cons.mp hp with rfl | hp
  ·exact (ad _ x.toInCall.ns (λ _=>rfl))
  ·refine ac (List.mem_map.mp hp) λ y hy zh1=>?_;obtain rfl:=zh1
   refine (ad _ (x.cell y.1 y.2 ?_) rfl)
   have key:∀ (l:List (Str×Addr)),(l.map (·.1)).Nodup->y∈l->l.lookup y.1 = some y.2:=by
    intro l
    induction l with
    | nil=>intro _ h;cases h
    | cons z r ih=>
     intro hn hm
     rw [List.map_cons,List.nodup_cons] at hn
     rcases List.mem_cons.mp hm with rfl | hm
     ·rw [List.lookup_cons,beq_self_eq_true]
     ·rw [List.lookup_cons]
      have:(y.1 == z.1) = false:=by
       rw [beq_eq_false_iff_ne];intro e;exact hn.1 (e▸List.mem_map_of_mem hm)
      rw [this];exact ih hn.2 hm
   exact key _ hnd hy
noncomputable def Sg (M:Model) (A:Around) (Φ:End->Shared->Prop) (c:Code) (t:Sem Fin) (fs:List Frame) (s:Shared):Prop :=
 ∀ Γ p,Γ.code = c->Γ.Woken A->∃ e s',Runs M Γ p t fs s e s'∧Φ e s'
end
section
variable {M:Model} {A:Around} {Φ:End->Shared->Prop} {c:Code} {fs:List Frame} {s:Shared}
theorem bb {α:Type} {m:Sem α} {K:α->Sem Fin} {H:Value->Sem Fin} {gd lv} (h:wpAny M (A.over c fs) m (λ a s'=>Sg M A Φ c (K a) fs s') (λ x s'=>Sg M A Φ c (H x) fs s') s):Sg M A Φ c (m.wrap K H gd lv) fs s:=by
 rintro Γ p rfl hΓ
 exact runs_wrap_of_wp K H gd lv m (h (Γ.over fs) p (hΓ.over fs)) (λ a p' s' h'=>h' Γ p' rfl hΓ) (λ x p' s' h'=>h' Γ p' rfl hΓ)
theorem bx {α:Type} {m:Sem α} {K:α->Sem Fin} (h:wpAny M (A.over c fs) m (λ a s'=>Sg M A Φ c (K a) fs s') (λ x s'=>Sg M A Φ c (.raise x) fs s') s):Sg M A Φ c (m >>= K) fs s:=by
 rw [Sem.bind_eq_wrap'];exact bb h
theorem gC {p':Pos} {k:Unit->Sem Fin} (h:Sg M A Φ c (k ()) fs s):Sg M A Φ c (.at p' k) fs s :=
 bb (m:=standAt p') (K:=k) (H:=.raise) (gd:=id) (lv:=id) (wpAny_standAt h)
theorem oe {l:List Value} {k:Unit->Sem Fin} (h:Sg M A Φ c (k ()) fs s):Sg M A Φ c (.point l k) fs s :=
 bb (m:=point) (K:=k) (H:=.raise) (gd:=id) (lv:=λ _=>l) (wpAny_point h)
theorem jQ {c':Code} {h g l} {k:Result->Sem Fin} (hc:∀ p,Sg M A Φ c' (M.den c') (.ret k h g l c p [] :: fs) s):Sg M A Φ c (.call c' h g l k) fs s:=by
 rintro Γ p rfl hΓ
 refine bC (hc p (Γ.goto c') p rfl (hΓ.goto c')) λ e s' hr he=>?_
 exact (br e s' (runs_call_seg hr) he)
theorem pQ {k h g l c₁ p1 kp} (r:Result) (hk:Sg M A Φ c₁ (k r) fs s):Sg M A Φ c (leafOf r) (.ret k h g l c₁ p1 kp :: fs) s:=by
 rintro Γ p rfl hΓ
 refine bC (hk (Γ.goto c₁) p1 rfl (hΓ.goto c₁)) λ e s' hr he=>?_
 exact (br e s' (Runs.pop r hr) he)
theorem lT {k h g l c₁ p1 kp} (f:Flow) (hk:Sg M A Φ c₁ (k (.ok f)) fs s):Sg M A Φ c (.pure (.done f)) (.ret k h g l c₁ p1 kp :: fs) s:=pQ (.ok f) hk
theorem cj {c':Code} (hq:c'.quiet = true) (hc:Sg M A Φ c' (M.den c') fs s):Sg M A Φ c (.pure (.again c')) fs s:=by
 rintro Γ p rfl hΓ
 refine bC (hc (Γ.goto c') p rfl (hΓ.goto c')) λ e s' hr he=>?_
 exact (br e s' (Runs.head (c₁:=c') (λ _ _ x=>.again hq x) hr) he)
theorem iP (f:Flow) (h:Φ (.ret (.ok f)) s):Sg M A Φ c (.pure (.done f)) [] s:=by
 rintro Γ p rfl _
 exact (br (.ret (.ok f)) s (Runs.leaf (.ok f)) h)
theorem io {v g l} {k:Resume->Sem Fin} (hfs:splitAtGen fs = none) (h:∀ p,Φ (.susp v g l k c p fs) s):Sg M A Φ c (.yield v g l k) fs s:=by
 rintro Γ p rfl _
 exact (br _ s (Runs.yield' fs hfs) (h p))
noncomputable def Goes (M:Model) (A:Around) (gs:GenState) (r:Resume) (s:Shared) (Φ:End->Shared->Prop):Prop :=
 match gs with
 | .fresh c=>r = .send .none∧Sg M A Φ c (M.den c) [] s
 | .suspended k _ c _ fs _=>Sg M A Φ c (k r) fs s
 | _=>False
theorem Sg.mono {Ψ:End->Shared->Prop} {t:Sem Fin} (x:Sg M A Φ c t fs s) (h:∀ e s',Φ e s'->Ψ e s'):Sg M A Ψ c t fs s:=λ Γ p hc hΓ=>
 let ⟨e,s',hr,he⟩:=x Γ p hc hΓ;(br e s' hr (h e s' he))
theorem Goes.mono {Ψ:End->Shared->Prop} {gs:GenState} {r:Resume} (x:Goes M A gs r s Φ) (h:∀ e s',Φ e s'->Ψ e s'):Goes M A gs r s Ψ:=by
 cases gs with
 | fresh c=>exact ⟨x.1,x.2.mono h⟩
 | suspended k0 l0 c0 p0 fs0 cl=>exact Sg.mono x h
 | running=>exact x.elim
 | finished=>exact x.elim
theorem wp_resume {α:Type} {E:Value->Shared->Prop} {g:Nat} {gs:GenState} {r:Resume} {l:List Value} {k:GenResult->Sem α} {Q:α->Shared->Prop} (hg:s.gens[g]? = some gs)
  (hgo:Goes M A gs r (s.setGen g .running) λ e s1=>e.quiet = true∧wpAny M A (k e.result) Q E (s1.setGen g e.genState)):wpAny M A (.resume g r l k) Q E s:=by
 intro Γ p hΓ
 rw [Sem.wp_resume]
 have hB:∀ c,(Γ.wake c p).Woken A:=λ c=>hΓ.wake c p
 cases gs with
 | fresh c=>
  refine ae hgo λ zh1 hs=>?_;clear hgo;obtain rfl:=zh1
  refine aV (hs (Γ.wake c p) p rfl (hB c)) λ e1 s1 hr hq he=>?_
  exact (br _ _ (by unfold Wakes;rw [hg];exact (dK e1 s1 hr hq rfl rfl)) (he Γ p hΓ))
 | suspended k0 l0 c0 p0 fs0 cl=>
  refine aV (hgo (Γ.wake c0 p) p0 rfl (hB c0)) λ e1 s1 hr hq he=>?_
  exact (br _ _ (by unfold Wakes;rw [hg];exact (dK e1 s1 hr hq rfl rfl)) (he Γ p hΓ))
 | running=>exact hgo.elim
 | finished=>exact hgo.elim
end
section
variable {w:World} {A:Around} {env:Env}
variable {B:Heap} {g:List (Nat×GenState)} {os:OsState} {σ:List (Addr×AObj)} {E:Value->Shared->Prop} {s:Shared} {f:AObj->List (Addr×AObj)}
theorem kD {a:Addr} {i:Nat} {gs:GenState} {Q:Option Value->Shared->Prop} (hh:A.handled = none) (hl:s.heap.NoLimit) (hroom:A.depth < recursionLimit)
  (hg:s.heap.IsGen a i) (hgs:s.gens[i]? = some gs)
  (hgo:Goes (model prog w) A.in1 gs (.send .none) (s.setGen i .running) λ e s1=>e.quiet = true∧(match e with
   | .ret r=>(r = .ok (.ret .none)∨r = .ok .next)∧∀ h',(∀ b o,s1.heap.get? b = some o->h'.get? b = some o)->Q none { s1.setGen i .finished with heap:=h' }
   | .susp v _ _ _ _ _ _=>Q (some v) (s1.setGen i e.genState))) :
  wpAny (model prog w) A (pyNext (.ref a)) Q E s:=by
 unfold pyNext
 refine wpAny_bind (wpAny_attempt (wpAny_callSpecial?_slot (name:=Str.ofString "__next__") hg.typeIs slot_gen_next
  (wpAny_call_entry slot_gen_next hg.typeIs entry_gen_next ?_ (args_gen_next _))))
 show wpAny _ A.in1 (Builtin.Generator.genWake (.ref a) (.send .none)) _ _ s
 unfold Builtin.Generator.genWake
 refine wpAny_bind (wpAny_holding (wpAny_genNumber hg (wpAny_bind (wpAny_genState hgs ?_))))
 cases gs with
 | running=>exact hgo.elim
 | finished=>exact hgo.elim
 | _=>
  refine wpAny_bind (wpAny_roomToWake hl hroom ?_)
  show wpAny _ A.in1 (.resume i (.send .none) [] _) _ _ s
  refine wp_resume hgs (hgo.mono λ e s1 he=>⟨he.1,?_⟩)
  revert he;refine λ zq=>ae zq λ zz he=>?_;clear zq
  cases e with
  | susp v _ _ _ _ _ _=>exact wpAny_pure (ad v rfl (wpAny_pure he))
  | ret r=>
   refine ae he λ hr hp=>?_;clear he
   have fin:∀ k':PUnit->Sem Fin,wpAny (model prog w) A.in1 (newExc (.type "StopIteration") [] >>= λ x=>raiseNew x >>= k') (λ (fin:Fin) s'=>∃ v,fin = .done (.ret v)∧wpAny (model prog w) A (pure (some v)) Q E s') (λ e s'=>wpAny (model prog w) A (do
     let b ← isInstance e (.type "StopIteration")
     if b = true then pure none else throw e) Q E s') (s1.setGen i .finished):=by
    intro k'
    refine wpAny_bind ?_
    simp only [newExc,newTuple]
    refine wpAny_bind (wpAny_newObj_type ?_ (by size_fits))
    refine wpAny_bind (m:=firstArgMember _ _) (wpAny_of_eq (a:=Value.none) (by first | rfl | (simp only [firstArgMember];rfl)) ?_)
    refine wpAny_newObj_type ?_ (by size_fits)
    simp only [raiseNew]
    refine wpAny_bind (wpAny_bind (wpAny_handled ?_))
    rw [show A.in1.handled = none from hh]
    refine wpAny_throw ?_
    refine wpAny_bind (wpAny_isInstance (T:="StopIteration") (b:=true) (ad _ (Heap.get?_push_size _ rfl) rfl) isSubtype_stop ?_)
    exact wpAny_pure (hp _ λ b o hb=>Heap.get?_push_of_some _ (Heap.get?_push_of_some _ hb))
   rcases hr with rfl | rfl
   ·exact wpAny_bind (wpAny_pure (fin _))
   ·exact wpAny_bind (wpAny_pure (fin _))
end
noncomputable def Ends (ret:Shared->Prop) (yld:Value->GenState->Shared->Prop):End->Shared->Prop:=λ e s=>
 e.quiet = true∧match e with
  | .ret r=>(r = .ok (.ret .none)∨r = .ok .next)∧ret s
  | .susp v _ _ _ _ _ _=>yld v e.genState s
section
variable {M:Model} {A:Around} {Φ:End->Shared->Prop} {c:Code} {fs:List Frame} {s:Shared} {env:Env} {K:Flow->Sem Fin} {H:Value->Sem Fin} {gd:Bool->Bool} {lv:List Value->List Value}
theorem fV (st:Stmt) (rest:List Stmt):execs (st :: rest) env = execs [st] env >>= λ f=>match f with | .next=>execs rest env | f=>pure f:=by
 rw [execs_cons,execs_cons,bind_assoc]
 congr 1
 funext f
 cases f <;> rfl
theorem dM {st:Stmt} {rest:List Stmt} (h:∀ E,wpAny M (A.over c fs) (execs [st] env) (λ f s'=>f = .next∧Sg M A Φ c ((execs rest env).wrap K H gd lv) fs s') E s):Sg M A Φ c ((execs (st :: rest) env).wrap K H gd lv) fs s:=by
 rw [fV,Sem.bind_eq_wrap',Sem.wrap_wrap]
 exact bb (wpAny_mono (h _) (λ f s' y=>by revert y;refine λ zq=>ae zq λ zh1 y=>?_;clear zq;obtain rfl:=zh1;exact y) λ _ _ e=>e)
theorem fJ (h:Sg M A Φ c (K .next) fs s):Sg M A Φ c ((execs [] env).wrap K H gd lv) fs s:=h
theorem dh {st:Stmt} {rest:List Stmt} (h:Sg M A Φ c ((exec st env).wrap (λ f=>match f with | .next=>(execs rest env).wrap K H gd lv | f=>K f) H gd lv) fs s):Sg M A Φ c ((execs (st :: rest) env).wrap K H gd lv) fs s:=by
 rw [execs_cons_wrap];exact h
theorem rK {t:Expr} {b1 b2:List Stmt} {pos:Pos} {b:Bool} (h:∀ E,wpAny M (A.over c fs) (isTrue t env (eval t env)) (λ b' s'=>b' = b∧Sg M A Φ c ((execs (if b then b1 else b2) env).wrap K H gd lv) fs s') E s) :
  Sg M A Φ c ((exec (.If t b1 b2 pos) env).wrap K H gd lv) fs s:=by
 show Sg M A Φ c (.at pos λ _=>((isTrue t env (eval t env)) >>= λ b=>if b then execs b1 env else execs b2 env).wrap K H gd lv) fs s
 refine gC ?_
 rw [Sem.bind_eq_wrap',Sem.wrap_wrap]
 refine bb (wpAny_mono (h _) (λ b' s' y=>?_) λ _ _ e=>e)
 revert y;refine λ zq=>ae zq λ zh1 y=>?_;clear zq;obtain rfl:=zh1
 cases b' <;> exact y
theorem j8 {ret:Shared->Prop} {yld:Value->GenState->Shared->Prop} {e:Expr} {ypos pos:Pos} (hfs:splitAtGen fs = none) (hgd:gd false = false) (hfg:fs.any Frame.guarded = false)
  (h:∀ E,wpAny M (A.over c fs) (eval e env) (λ v s'=>∀ gs,gs.bare = true->(∀ A Φ s'',Sg M A Φ c (K .next) fs s''->Goes M A gs (.send .none) s'' Φ)->yld v gs s') E s)
  (hco:env.scope.isCoroutine = false:=by rfl) (hi:interactive env = false:=by rfl) :
  Sg M A (Ends ret yld) c ((exec (.Expr (.Yield (some e) ypos) pos) env).wrap K H gd lv) fs s:=by
 rw [exec_Expr env _ pos hi rfl]
 have hy:∀ v,yieldOut env v = yieldValue v:=λ v=>by simp only [yieldOut,hco,Bool.false_eq_true,if_false]
 show Sg M A _ c (.at pos λ _=>((eval e env >>= λ v=>(standAt ypos >>= λ _=>yieldOut env v)) >>= λ x=>dropValue (.Yield (some e) ypos) pos x).wrap K H gd lv) fs s
 simp only [hy]
 refine gC ?_
 rw [Sem.bind_eq_wrap',Sem.bind_eq_wrap',Sem.wrap_wrap,Sem.wrap_wrap]
 refine bb (wpAny_mono (h _) (λ v s' h'=>?_) λ _ _ x=>x)
 refine gC (io hfs λ p=>⟨?_,h' _ ?_ ?_⟩)
 ·show (!(gd false || fs.any Frame.guarded)) = true
  rw [hgd,hfg];rfl
 ·show (!(gd false || fs.any Frame.guarded)) = true
  rw [hgd,hfg];rfl
 ·intro A' Φ' s'' hs
  exact hs
noncomputable def runFrame (env:Env) (K:Flow->Sem Fin) (H:Value->Sem Fin) (gd:Bool->Bool) (lv:List Value->List Value) (c:Code) (p:Pos):Frame :=
 .ret (λ r=>((match r with | .ok f=>(.pure f:Sem Flow) | .error e=>.raise e).onRaise λ (x:Value)=>do
    if (← field x 1) == Value.none then unsupported "frame.own-activation:exception-without-traceback"
    setFlight x env.frame).wrap K H gd lv) none (gd false) (lv []) c p []
theorem oq {test:Expr} {body orelse:List Stmt} {pos:Pos} (h:∀ p,Sg M A Φ (.whileLoop test body orelse env) (M.den (.whileLoop test body orelse env)) (runFrame env K H gd lv c p :: fs) s) :
  Sg M A Φ c ((exec (.While test body orelse pos) env).wrap K H gd lv) fs s:=gC (jQ h)
theorem oY {target iter:Expr} {body:List Stmt} {pos:Pos}
  (h:∀ E,wpAny M (A.over c fs) (eval iter env) (λ v s1=>wpAny M (A.over c fs) (pyIter v) (λ i s2=>∀ p,Sg M A Φ (.forLoop target i body [] env) (M.den (.forLoop target i body [] env)) (runFrame env K H gd lv c p :: fs) s2) E s1) E s)
  (hs:∀ x,foldedSetIterable iter env x = pure x:=by intro _;rfl) :
  Sg M A Φ c ((exec (.For target iter body [] pos) env).wrap K H gd lv) fs s:=by
 show Sg M A Φ c (.at pos λ _=>((eval iter env) >>= λ x=>foldedSetIterable iter env x >>= λ x=>standAt iter.pos >>= λ _=>holding [x] (pyIter x) >>= λ i=>runOwn (.forLoop target i body [] env) env).wrap K H gd lv) fs s
 refine gC ?_
 rw [Sem.bind_eq_wrap',Sem.wrap_wrap]
 refine bb (wpAny_mono (h _) (λ v s1 h1=>?_) λ _ _ e=>e)
 rw [hs]
 show Sg M A Φ c (.at iter.pos λ _=>(holding [v] (pyIter v) >>= λ i=>runOwn (.forLoop target i body [] env) env).wrap K H gd lv) fs s1
 refine gC ?_
 rw [Sem.bind_eq_wrap',Sem.wrap_wrap]
 refine bb (wpAny_holding (wpAny_mono h1 (λ i s2 h2=>?_) λ _ _ e=>e))
 exact jQ h2
theorem dD {p:Pos} {c':Code} (h:Sg M A Φ c (K .next) fs s):Sg M A Φ c' (.pure (.done .next)) (runFrame env K H gd lv c p :: fs) s:=lT .next h
end
section
variable {w:World} {A:Around} {Φ:End->Shared->Prop} {c:Code} {fs:List Frame} {s:Shared} {env:Env} {K:Flow->Sem Fin} {H:Value->Sem Fin} {gd:Bool->Bool} {lv:List Value->List Value}
theorem kj {fs:List Frame} (h:Sg (model prog w) A Φ (.block [] env) (.pure (.done .next)) fs s):Sg (model prog w) A Φ c (.pure (.again (.block [] env))) fs s:=cj rfl h
theorem gV {target:Expr} {it:Value} {body:List Stmt}
  (h:∀ E,wpAny (model prog w) (A.over (.forLoop target it body [] env) fs) (pyNext it) (λ r s1=>match r with
   | none=>Sg (model prog w) A Φ (.block [] env) (.pure (.done .next)) fs s1
   | some v=>wpAny (model prog w) (A.over (.forLoop target it body [] env) fs) (letOwnedTupleGo target it v) (λ _ s2=>wpAny (model prog w) (A.over (.forLoop target it body [] env) fs) (assign target env v) (λ _ s3=>
     ∀ gd' lv',gd' false = false->Sg (model prog w) A Φ (.forLoop target it body [] env) ((execs body env).wrap (λ f=>match f with
      | .next | .cont=>.pure (.again (.forLoop target it body [] env))
      | .brk=>.pure (.done .next)
      | .ret v=>.pure (.done (.ret v))) (λ e=>(do noteFrame e env;theTreesLotGoes e:Sem Unit).wrap (λ _=>.raise e) .raise id id) gd' lv') fs s3) E s2) E s1) E s) :
  Sg (model prog w) A Φ (.forLoop target it body [] env) ((model prog w).den (.forLoop target it body [] env)) fs s:=by
 show Sg (model prog w) A Φ (.forLoop target it body [] env) (.at target.pos λ _=>(((pyNext it).onRaise (λ _=>standAt { target.pos with line:=0 })) >>= λ (r:Option Value)=>(match r with
  | none=>(again (.block [] env):Sem Fin)
  | some v=>letOwnedTupleGo target it v >>= λ _=>assign target env v >>= λ _=>execs body env >>= λ f=>match f with
   | .next | .cont=>again (.forLoop target it body [] env)
   | .brk=>pure (.done .next)
   | .ret v=>pure (.done (.ret v)))).onRaise (λ x=>do noteFrame x env;theTreesLotGoes x)) fs s
 refine gC ?_
 rw [Sem.onRaise_eq_wrap]
 rw [Sem.bind_eq_wrap',Sem.wrap_wrap]
 refine bb (wpAny_onRaise (wpAny_mono (h _) (λ r s1 h1=>?_) λ _ _ e=>wpAny_standAt e))
 cases r with
 | none=>exact kj h1
 | some v=>
  show Sg _ A Φ _ (Sem.wrap _ _ _ _ (letOwnedTupleGo target it v >>= _)) fs s1
  rw [Sem.bind_eq_wrap',Sem.wrap_wrap]
  refine bb (wpAny_mono h1 (λ _ s2 h2=>?_) λ _ _ e=>e)
  rw [Sem.bind_eq_wrap',Sem.wrap_wrap]
  refine bb (wpAny_mono h2 (λ _ s3 h3=>?_) λ _ _ e=>e)
  rw [Sem.bind_eq_wrap',Sem.wrap_wrap]
  rw [Sem.wrap_congr (execs body env) _ _ (K':=λ f=>match f with
      | .next | .cont=>.pure (.again (.forLoop target it body [] env))
      | .brk=>.pure (.done .next)
      | .ret v=>.pure (.done (.ret v))) (H':=(λ e=>(do noteFrame e env;theTreesLotGoes e:Sem Unit).wrap (λ _=>.raise e) .raise id id))
    (λ f=>by cases f <;> rfl)
    (λ e=>by first | exact Sem.bind_eq_wrap _ _ | (show (do noteFrame e env;theTreesLotGoes e:Sem Unit).bind (λ _=>.raise e) = _;rw [Sem.bind_eq_wrap]))]
  exact h3 _ _ rfl
theorem ff {test:Expr} {body:List Stmt} {b:Bool}
  (h:∀ E,wpAny (model prog w) (A.over (.whileLoop test body [] env) fs) (isTrue test env (eval test env)) (λ b' s'=>b' = b ∧
    if b = true then ∀ gd' lv',gd' false = false ->
     Sg (model prog w) A Φ (.whileLoop test body [] env) ((execs body env).wrap (λ f=>match f with
      | .next | .cont=>.pure (.again (.whileLoop test body [] env))
      | .brk=>.pure (.done .next)
      | .ret v=>.pure (.done (.ret v))) (λ e=>(do noteFrame e env;theTreesLotGoes e:Sem Unit).wrap (λ _=>.raise e) .raise id id) gd' lv') fs s'
    else Sg (model prog w) A Φ (.whileLoop test body [] env) (.pure (.done .next)) fs s') E s) :
  Sg (model prog w) A Φ (.whileLoop test body [] env) ((model prog w).den (.whileLoop test body [] env)) fs s:=by
 show Sg _ A Φ _ ((whileTurn test body [] env).onRaise (λ x=>do noteFrame x env;theTreesLotGoes x)) fs s
 unfold whileTurn
 rw [Sem.onRaise_eq_wrap,Sem.bind_eq_wrap',Sem.wrap_wrap]
 refine bb (wpAny_mono (h _) (λ b' s' hb=>?_) λ _ _ e=>e)
 revert hb;refine λ zq=>ae zq λ zh1 hb=>?_;clear zq;obtain rfl:=zh1
 cases b' with
 | true=>
  rw [if_pos rfl] at hb
  show Sg _ A Φ _ (Sem.wrap _ _ _ _ (if true = true then _ else _)) fs s'
  rw [if_pos rfl,Sem.bind_eq_wrap',Sem.wrap_wrap]
  rw [Sem.wrap_congr (execs body env) _ _ (K':=λ f=>match f with
      | .next | .cont=>.pure (.again (.whileLoop test body [] env))
      | .brk=>.pure (.done .next)
      | .ret v=>.pure (.done (.ret v))) (H':=(λ e=>(do noteFrame e env;theTreesLotGoes e:Sem Unit).wrap (λ _=>.raise e) .raise id id))
    (λ f=>by cases f <;> rfl)
    (λ e=>by first | exact Sem.bind_eq_wrap _ _ | (show (do noteFrame e env;theTreesLotGoes e:Sem Unit).bind (λ _=>.raise e) = _;rw [Sem.bind_eq_wrap]))]
  exact hb _ _ rfl
 | false=>exact hb
theorem jP {body:List Stmt}
  (h:∀ H gd lv,gd false = false->Sg (model prog w) A Φ (.func body env) ((execs body env).wrap (λ f=>.pure (.done (.ret (match f with | .ret v=>v | _=>.none)))) H gd lv) fs s) :
  Sg (model prog w) A Φ (.func body env) ((model prog w).den (.func body env)) fs s:=by
 show Sg (model prog w) A Φ (.func body env) (.point [] λ _=>((execs body env).onRaise (leaving env)) >>= _) fs s
 refine oe ?_
 rw [Sem.onRaise_eq_wrap,Sem.bind_eq_wrap',Sem.wrap_wrap]
 rw [Sem.wrap_congr (execs body env) _ _ (K':=λ f=>.pure (.done (.ret (match f with | .ret v=>v | _=>.none))))
  (H':=λ e=>(leaving env e).wrap (λ _=>.raise e) .raise id id) (λ f=>by cases f <;> rfl)
  (λ e=>by rw [Sem.bind_eq_wrap,Sem.wrap_wrap];rfl)]
 exact h _ _ _ rfl
end
theorem GW.set {g:c9} {arr:Array GenState} {i:Nat} {x y:GenState} (H:GW ((i,x) :: g) arr) (hy:y.bare = true):GW ((i,y) :: g) (arr.setIfInBounds i y):=by
 have hlt:i < arr.size:=by
  have:=H.at_ (i,x) (.head _)
  rcases Nat.lt_or_ge i arr.size with h' | h'
  ·exact h'
  ·rw [Array.getElem?_eq_none h'] at this;cases this
 have hni:i∉g.map (·.1):=(List.nodup_cons.mp H.nd).1
 refine ⟨λ p hp=>?_,H.nd,λ z hz=>?_⟩
 ·rcases List.mem_cons.mp hp with rfl | hp
  ·simp [hlt]
  ·have hne:i≠p.1:=λ e=>hni (List.mem_map.mpr (ad p hp e.symm))
   rw [Array.getElem?_setIfInBounds_ne hne];exact H.at_ p (.tail _ hp)
 ·rcases Array.mem_or_eq_of_mem_setIfInBounds hz with h | h
  ·exact H.bare z h
  ·rw [h];exact hy
theorem GW.drop {g:c9} {arr:Array GenState} {p:Nat×GenState} (H:GW (p :: g) arr):GW g arr :=
 ⟨λ q hq=>H.at_ q (.tail _ hq),(List.nodup_cons.mp H.nd).2,H.bare⟩
theorem GW.push {g:c9} {arr:Array GenState} {y:GenState} (H:GW g arr) (hy:y.bare = true):GW ((arr.size,y) :: g) (arr.push y):=by
 refine ⟨λ p hp=>?_,?_,λ z hz=>?_⟩
 ·rcases List.mem_cons.mp hp with rfl | hp
  ·simp
  ·have h:=H.at_ p hp
   have hlt:p.1 < arr.size:=by
    rcases Nat.lt_or_ge p.1 arr.size with h' | h'
    ·exact h'
    ·rw [Array.getElem?_eq_none h'] at h;cases h
   rw [Array.getElem?_push,if_neg (Nat.ne_of_lt hlt)];exact h
 ·rw [List.map_cons,List.nodup_cons]
  refine ⟨λ hm=>?_,H.nd⟩
  refine ac (List.mem_map.mp hm) λ p hp e=>?_
  have h:=H.at_ p hp
  have e:p.1 = arr.size:=e
  rw [e,Array.getElem?_eq_none (Nat.le_refl _)] at h;cases h
 ·rcases Array.mem_push.mp hz with h | h
  ·exact H.bare z h
  ·rw [h];exact hy
theorem GW.perm {g g':c9} {arr:Array GenState} (H:GW g arr) (hp:g.Perm g'):GW g' arr :=
 ⟨λ p hm=>H.at_ p (hp.mem_iff.mpr hm),((hp.map (·.1)).nodup_iff).mp H.nd,H.bare⟩
theorem W.gset {i:Nat} {x y:GenState} (H:W prog w B ((i,x) :: g) os σ s) (hy:y.bare = true):W prog w B ((i,y) :: g) os σ (s.setGen i y) :=
 ⟨H.keep,H.own,H.off,H.nd,H.gens.set hy,H.eos,H.sm⟩
theorem W.gdrop {p:Nat×GenState} (H:W prog w B (p :: g) os σ s):W prog w B g os σ s:=⟨H.keep,H.own,H.off,H.nd,H.gens.drop,H.eos,H.sm⟩
theorem W.gperm {g':c9} (H:W prog w B g os σ s) (hp:g.Perm g'):W prog w B g' os σ s:=⟨H.keep,H.own,H.off,H.nd,H.gens.perm hp,H.eos,H.sm⟩
noncomputable def ar (i:Nat):AObj:=.is λ o=>o.cls = .type "generator"∧(∃ nm qn,o.data = .fields #[.int i 0,nm,qn])∧o.slots = #[]
theorem Real.gen {h:Heap} {a:Addr} {i:Nat}:Real prog w h a (ar i) ↔ h.IsGen a i :=
 ⟨λ ⟨o,x,y,⟨nm,qn,z⟩,u⟩=>(dW o nm qn x y z u),λ ⟨o,nm,qn,x,y,z,u⟩=>(dT o x y (c8 nm qn z) u)⟩
noncomputable def GSt (prog:Program) (w:World) (B:Heap) (os:OsState) {C:Type} (ρ:C->Led) (d u i:Nat):List eT->Led->c9->GenState->Prop
 | [],μ,γ,gs=>∀ A c o γo ret yld s,Rm A d u->W prog w B ((i,.running) :: (γ++γo)) os (μ++(ρ c++o)) s ->
   (∀ c' s',W prog w B ((i,.running) :: γo) os (ρ c'++o) s'->ret s')->Goes (model prog w) A gs (.send .none) s (Ends ret yld)
 | x :: xs,μ,γ,gs=>∀ A c o γo ret yld s,Rm A d u->W prog w B ((i,.running) :: (γ++γo)) os (μ++(ρ c++o)) s ->
   (∀ c' v ν μ' γ' gs' s',gs'.bare = true->x v ν->GSt prog w B os ρ d u i xs μ' γ' gs'->W prog w B ((i,.running) :: (γ'++γo)) os (ν++(μ'++(ρ c'++o))) s'->yld v gs' s') ->
   Goes (model prog w) A gs (.send .none) s (Ends ret yld)
theorem bz {C:Type} {ρ:C->Led} {tg:Expr->Prop} {d u i:Nat} {I:Addr} (hlim:B.NoLimit) :
  ∀ (xs:List eT) (μ:Led) (γ:c9) (gs:GenState),GSt prog w B os ρ d u i xs μ γ gs->bV prog w B os ρ tg d (u + 1) I xs ((I,ar i) :: μ) ((i,gs) :: γ)
 | [],μ,γ,gs,G=>by
  intro A c o γo E s R H
  have hg:=Real.gen.mp (H.get (.head _))
  have hgs:=H.gens.at_ (i,gs) (.head _)
  have H1:W prog w B ((i,.running) :: (γ++γo)) os (μ++(ρ c++((I,ar i) :: o))) (s.setGen i .running):=(H.gset rfl).perm (by
   have h1:((I,ar i) :: μ)++(ρ c++o) = [(I,ar i)]++((μ++ρ c)++o):=by simp
   have h2:μ++(ρ c++((I,ar i) :: o)) = (μ++ρ c)++([(I,ar i)]++o):=by simp
   rw [h1,h2];exact List.perm_append_comm_assoc ..)
  refine kD R.hd (hlim.keeps H.keep) R.room hg hgs ((G A.in1 c ((I,ar i) :: o) γo (λ s1=>∀ h',(∀ b o,s1.heap.get? b = some o->h'.get? b = some o)->∃ c',W prog w B γo os (ρ c'++o) { s1.setGen i .finished with heap:=h' })
   (λ _ _ _=>False) _ R.in1 H1 (λ c' s' H' h' hk=>?_)).mono λ e s1 he=>⟨he.1,?_⟩)
  ·have H2:W prog w B γo os ((I,ar i) :: (ρ c'++o)) (s'.setGen i .finished):=(H'.gset (y:=.finished) rfl).gdrop.perm (by
    have h2:ρ c'++((I,ar i) :: o) = ρ c'++([(I,ar i)]++o):=by simp
    rw [h2];exact List.perm_append_comm_assoc ..)
   exact ⟨c',(H2.drop).grow (t:=s'.toks) hk⟩
  ·revert he;refine λ zq=>ae zq λ zz he=>?_;clear zq
   cases e with
   | ret r=>exact ⟨he.1,λ h' hk=>⟨rfl,he.2 h' hk⟩⟩
   | susp v _ _ _ _ _ _=>exact he.elim
 | x :: xs,μ,γ,gs,G=>by
  intro A c o γo E s R H
  have hg:=Real.gen.mp (H.get (.head _))
  have hgs:=H.gens.at_ (i,gs) (.head _)
  have H1:W prog w B ((i,.running) :: (γ++γo)) os (μ++(ρ c++((I,ar i) :: o))) (s.setGen i .running):=(H.gset rfl).perm (by
   have h1:((I,ar i) :: μ)++(ρ c++o) = [(I,ar i)]++((μ++ρ c)++o):=by simp
   have h2:μ++(ρ c++((I,ar i) :: o)) = (μ++ρ c)++([(I,ar i)]++o):=by simp
   rw [h1,h2];exact List.perm_append_comm_assoc ..)
  refine kD R.hd (hlim.keeps H.keep) R.room hg hgs ((G A.in1 c ((I,ar i) :: o) γo (λ _=>False)
   (λ v gs' s1=>∃ ν μ' γ' c',x v ν∧GSt prog w B os ρ d u i xs μ' γ' gs'∧W prog w B ((i,gs') :: (γ'++γo)) os ((I,ar i) :: (ν++(μ'++(ρ c'++o)))) (s1.setGen i gs')) _ R.in1 H1
   (λ c' v ν μ' γ' gs' s' hb hx G' H'=>(dO ν μ' γ' c' hx (aJ G' ((H'.gset hb).perm ?_))))).mono λ e s1 he=>⟨he.1,?_⟩)
  ·have h1:ν++(μ'++(ρ c'++((I,ar i) :: o))) = (ν++μ'++ρ c')++([(I,ar i)]++o):=by simp
   have h2:(I,ar i) :: (ν++(μ'++(ρ c'++o))) = [(I,ar i)]++((ν++μ'++ρ c')++o):=by simp
   rw [h1,h2];exact List.perm_append_comm_assoc ..
  ·revert he;refine λ zq=>ae zq λ zz he=>?_;clear zq
   cases e with
   | ret r=>exact he.2.elim
   | susp v _ _ _ _ _ _=>
    refine eX he λ ν μ' γ' c' hx zk0=>?_;refine ae zk0 λ G' H'=>?_;clear zk0;clear he
    refine (gA v ν ((I,ar i) :: μ') ((i,_) :: γ') c' rfl hx (bz hlim xs μ' γ' _ G') (λ t _ E'=>?_))
    refine aU (H'.get (.head _)) λ ob ho hc zz=>?_
    refine dR ho hc (by decide) (H'.perm ?_)
    have h1:(I,ar i) :: (ν++(μ'++(ρ c'++o))) = [(I,ar i)]++(ν++(μ'++(ρ c'++o))):=by simp
    have h2:ν++((I,ar i) :: μ'++(ρ c'++o)) = ν++([(I,ar i)]++(μ'++(ρ c'++o))):=by simp
    rw [h1,h2];exact List.perm_append_comm_assoc ..
theorem eu {C:Type} {ρ:C->Led} {I:Addr} {i:Nat} {μ:Led} {γ:c9}:oj prog w B os ρ I ((I,ar i) :: μ) γ:=λ A c o γo E s H=>
 wpAny_pyIter_gen (Real.gen.mp (H.get (.head _))) ⟨rfl,H⟩
theorem eG {d u:Nat} {a:Addr} {fd:FuncData} {body:List Stmt} {args:Args} {binds:List (Str×Value)} {cl:Addr->Led} (H:W prog w B g os σ s) (R:Rm A d u) (X:Frag) (hX:X.In B) (hlim:B.NoLimit)
  (F:FnIn X a fd body) (hbind:∀ s',W prog w B g os σ s'->BindsTo s' fd args binds) (hclo:fd.closure = [])
  (hcl:∀ L,dY fd binds L a = cl L)
  (h:∀ I i L s',W prog w B ((i,.fresh (.func body (callEnvC fd L a))) :: g) os ((I,ar i) :: (cl L++σ)) s'->Q (.ref I) s')
  (hloc:∀ L,∀ x∈binds,fd.scope.names.lookup x.1 = some .local∨(fd.scope.names.lookup x.1 = some .cell∧((cellsFrom (L + 1) fd.scope.names []).lookup x.1).isSome = true))
  (hnd:∀ L,((callEnvC fd L a).cells.map (·.1)).Nodup)
  (hco:fd.scope.isCoroutine = false:=by rfl) (hgen:fd.scope.isGenerator = true:=by rfl) (hk:fd.scope.kind = .function:=by rfl) :
  wpAny (model prog w) A (call (.ref a) args.pos args.kw) Q E s:=by
 refine cw F.ho λ oc od osl ho=>?_
 refine wpAny_call (codeAny_call_generator R.room (H.keep _ _ (hX _ _ ho)) rfl hco hgen F.hbody (codeRec_of (hX.keeps H.keep) F.hcd) ?_)
 refine hbind s H _ _ _ _ ?_
 rw [hclo]
 refine wpAny_newFunctionEnv_cells hk (hloc _) λ env he s' x=>?_
 subst he
 have H1:=fK H x (hnd _)
 rw [hcl] at H1
 refine ⟨(hlim.keeps H.keep).keeps x.toInCall.keep,h _ s'.gens.size s.heap.objs.size _ ?_⟩
 have H2:W prog w B ((s'.gens.size,.fresh (.func body (callEnvC fd s.heap.objs.size a))) :: g) os (cl s.heap.objs.size++σ) { s' with gens:=s'.gens.push (.fresh (.func body (callEnvC fd s.heap.objs.size a))) } :=
  ⟨H1.keep,H1.own,H1.off,H1.nd,H1.gens.push rfl,H1.eos,H1.sm⟩
 exact H2.add (t:=s'.toks + 1 + 1) (λ _ _ e=>Heap.get?_push_of_some _ e) (Nat.le_refl _) (Real.gen.mpr (dW _ _ _ (Heap.get?_push_size _ rfl) rfl rfl rfl))
theorem Rm.over {d u d' u':Nat} {c:Code} {fs:List Frame} (R:Rm A d u) (h1:(marksOver fs (none,none)).1 = none) (h2:d' + (frameCount (fs.map Frame.where_) + c.weight)≤d) (h3:u' + (unitsOf (fs.map Frame.where_) + c.cUnits)≤u):Rm (A.over c fs) d' u':=by
 have hh:=R.hd
 refine ⟨?_,?_,?_⟩
 ·show (marksOver fs (A.handled,A.handled)).1 = none
  rw [hh];exact h1
 ·have:=R.dp
  show A.depth + frameCount (fs.map Frame.where_) + c.weight + d' < recursionLimit
  walk_at "r"
 ·have:=R.un
  show A.units + unitsOf (fs.map Frame.where_) + c.cUnits + u' < cLine
  walk_at "r"
theorem bN {M:Model} {A:Around} {E:Value->Shared->Prop} {s:Shared} {α:Type} {t:Sem α} {Q:α->Shared->Prop} {d u:Nat} (R:Rm A d u) (h:∀ A',Rm A' d u->wpAny M A' t Q E s):wpAny M A t Q E s:=h A R
set_option maxRecDepth 100000
noncomputable def cC:Code->Bool
 | .builtin "lifetime.gc.finalise" _=>true
 | _=>false
noncomputable def NoFin (Γ:Ctx):Prop:=cC Γ.code = false∧∀ x∈Γ.below,cC x.1 = false
section
variable {α β:Type} {M:Model} {A:Around} {E:Value->Shared->Prop} {s:Shared}
noncomputable def wpF {α:Type} (M:Model) (A:Around) (t:Sem α) (Q:α->Shared->Prop) (E:Value->Shared->Prop) (s:Shared):Prop :=
 ∀ Γ p,Γ.In A->NoFin Γ->Sem.wp M Γ t (λ a _ s'=>Q a s') (λ e _ s'=>E e s') p s
noncomputable def cR (M:Model) (A:Around) (c:Code) (R:Result->Shared->Prop) (s:Shared):Prop :=
 ∀ Γ p,Γ.code = c->Γ.Below A->NoFin Γ->wpCode M Γ R p s
theorem aZ {t:Sem α} {Q:α->Shared->Prop} (h:wpAny M A t Q E s):wpF M A t Q E s:=λ Γ p hΓ _=>h Γ p hΓ
theorem et {c:Code} {R:Result->Shared->Prop} (h:codeAny M A c R s):cR M A c R s:=λ Γ p hc hΓ _=>h Γ p hc hΓ
theorem aN {a:α} {Q:α->Shared->Prop} (h:Q a s):wpF M A (pure a) Q E s:=λ _ _ _ _=>h
theorem aL {t:Sem α} {Q Q':α->Shared->Prop} {E':Value->Shared->Prop} (h:wpF M A t Q E s) (hQ:∀ a s,Q a s->Q' a s) (hE:∀ e s,E e s->E' e s):wpF M A t Q' E' s :=
 λ Γ p hΓ hF=>Sem.wp_mono M Γ t (λ a _ s=>hQ a s) (λ e _ s=>hE e s) p s (h Γ p hΓ hF)
theorem aI {m:Sem α} {f:α->Sem β} {Q:β->Shared->Prop} (h:wpF M A m (λ a s'=>wpF M A (f a) Q E s') E s):wpF M A (m >>= f) Q E s:=λ Γ p hΓ hF=>by
 rw [Sem.wp_bind']
 exact Sem.wp_mono M Γ m (λ a p' s' h'=>h' Γ p' hΓ hF) (λ _ _ _ h'=>h') p s (h Γ p hΓ hF)
theorem aj {m:Sem α} {f:α->Sem β} {Q:β->Shared->Prop} (h:wpAny M A m (λ a s'=>wpF M A (f a) Q E s') E s):wpF M A (m >>= f) Q E s:=aI (aZ h)
theorem bF {m:Sem α} {k:Value->Sem Unit} {Q:α->Shared->Prop} (h:wpF M A m Q (λ e s'=>wpF M A (k e) (λ _ s''=>E e s'') E s') s):wpF M A (m.onRaise k) Q E s:=λ Γ p hΓ hF=>by
 rw [Sem.wp_onRaise]
 exact Sem.wp_mono M Γ m (λ _ _ _ h'=>h') (λ e p' s' h'=>h' Γ p' hΓ hF) p s (h Γ p hΓ hF)
theorem fZ {m:Sem α} {Q:Except Value α->Shared->Prop} (h:wpF M A m (λ a=>Q (.ok a)) (λ e=>Q (.error e)) s):wpF M A m.attempt Q E s:=λ Γ p hΓ hF=>by rw [Sem.wp_attempt];exact h Γ p hΓ hF
theorem bL {vs:List Value} {m:Sem α} {Q:α->Shared->Prop} (h:wpF M A m Q E s):wpF M A (holding vs m) Q E s:=λ Γ p hΓ hF=>by rw [Sem.wp_holding];exact h Γ p hΓ hF
theorem mr {Q:List (Code×Pos)->Shared->Prop} (h:∀ st:List (Code×Pos),(∀ x∈st,cC x.1 = false)->Q st s):wpF M A stack Q E s:=λ Γ p hΓ hF=>by
 show Q ((Γ.code,p) :: Γ.below) s
 refine h _ λ x hx=>?_
 rcases List.mem_cons.mp hx with rfl | hx
 ·exact hF.1
 ·exact hF.2 x hx
theorem NoFin.enter {Γ:Ctx} (h:NoFin Γ) {c:Code} {hd:Option Value} {p:Pos} (hc:cC c = false):NoFin (Γ.enter c hd p) :=
 ⟨hc,λ x hx=>(List.mem_cons.mp hx).elim (λ e=>by rw [e];exact h.1) (h.2 x)⟩
theorem NoFin.goto {Γ:Ctx} (h:NoFin Γ) {c:Code} (hc:cC c = false):NoFin (Γ.goto c):=⟨hc,h.2⟩
theorem NoFin.wake {Γ:Ctx} (h:NoFin Γ) {c:Code} {p:Pos} (hc:cC c = false):NoFin (Γ.wake c p) :=
 ⟨hc,λ x hx=>(List.mem_cons.mp hx).elim (λ e=>by rw [e];exact h.1) (h.2 x)⟩
theorem pL {c:Code} {h:Option Value} {Q:Flow->Shared->Prop} (hn:cC c = false) (hc:cR M (A.mark h) c (λ r s'=>match r with | .ok f=>Q f s' | .error e=>E e s') s) (hnb:h≠some byPass:=by intro x;cases x):wpF M A (run c h) Q E s :=
 λ Γ p hΓ hF=>by rw [Sem.wp_run];exact hc _ p rfl (hΓ.enter c h p hnb) (hF.enter hn)
theorem fh {c:Code} (hn:cC c = false) (hc:cR M A c (λ r s'=>match r with | .ok (.ret v)=>Q v s' | .ok _=>False | .error e=>E e s') s):wpF M A (runValue c) Q E s :=
 λ Γ p hΓ hF=>by rw [Sem.wp_runValue];exact hc _ p rfl (hΓ.enter c none p (by intro x;cases x)) (hF.enter hn)
theorem eA {f:Value} {pos:List Value} {kw:List (Str×Value)} (hc:cR M A (.call f ⟨pos,kw⟩) (λ r s'=>match r with | .ok (.ret v)=>Q v s' | .ok _=>False | .error e=>E e s') s):wpF M A (call f pos kw) Q E s:=fh rfl hc
theorem la {c:Code} {R R':Result->Shared->Prop} (h:cR M A c R s) (hR:∀ r s,R r s->R' r s):cR M A c R' s:=λ Γ p hc hΓ hF=>wpCode_mono hR (h Γ p hc hΓ hF)
theorem bp {c:Code} {R:Result->Shared->Prop}
  (h:wpF M (A.under c) (M.den c) (λ fin s'=>match fin with | .done f=>R (.ok f) s' | .again c'=>c'.quiet = true∧cC c' = false∧cR M A c' R s') (λ e s'=>R (.error e) s') s):cR M A c R s:=λ Γ p hc hΓ hF=>by
 rw [wpCode_iff_wp,hc]
 refine Sem.wp_mono M Γ _ (λ fin p' s' h'=>?_) (λ _ _ _ h'=>h') p s (h Γ p (hc▸hΓ.in) hF)
 cases fin with
 | done f=>exact h'
 | again c'=>exact ⟨h'.1,h'.2.2 (Γ.goto c') p' rfl (hΓ.goto c') (hF.goto h'.2.1)⟩
end
section
variable {w:World} {A:Around} {E:Value->Shared->Prop} {R:Result->Shared->Prop} {s:Shared} {env:Env}
theorem cg {id:String} {args:Args} {b:Builtin} (hq:plainId id = true) (hb:entryFor table id = some b) (hn:cC (.builtin id args) = false)
  (h:wpAny (model prog w) A.in1 (checkBuiltinCall id args) (λ _ s1=>wpF (model prog w) A.in1 (b args)
   (λ fin s'=>match fin with | .done f=>R (.ok f) s' | .again c'=>c'.quiet = true∧cC c' = false∧cR (model prog w) A c' R s') (λ e s'=>R (.error e) s') s1) (λ e s'=>R (.error e) s') s):cR (model prog w) A (.call (.builtin id) args) R s:=by
 refine bp ?_
 show wpF _ A.in1 (do checkBuiltinCall id args;again (.builtin id args)) _ _ s
 refine aj (wpAny_mono h (λ _ s1 h1=>aN (And.intro (plainId_quiet hq args) ⟨hn,bp ?_⟩)) λ _ _ h'=>h')
 show wpF _ _ (match entryFor table id with | some b=>b args | none=>unsupported ((withoutEnding? id "#data").getD id)) _ _ s1
 rw [hb,Around.under_plainId hq args];exact h1
theorem eg {id:String} {args:Args} {b:Builtin} (hb:entryFor table id = some b)
  (h:wpF (model prog w) (A.under (.builtin id args)) (b args) (λ fin s'=>match fin with | .done f=>R (.ok f) s' | .again c'=>c'.quiet = true∧cC c' = false∧cR (model prog w) A c' R s') (λ e s'=>R (.error e) s') s) :
  cR (model prog w) A (.builtin id args) R s:=by
 refine bp ?_
 show wpF _ _ (match entryFor table id with | some b=>b args | none=>unsupported ((withoutEnding? id "#data").getD id)) _ _ s
 rw [hb];exact h
theorem lf {body env} (h:wpF (model prog w) (A.deeper env) (execs body env) (λ f s'=>R (.ok (.ret (match f with | .ret v=>v | _=>.none))) s')
   (λ e s'=>wpF (model prog w) (A.deeper env) (leaving env e) (λ _ s''=>R (.error e) s'') (λ e' s''=>R (.error e') s'') s') s):cR (model prog w) A (.func body env) R s:=by
 refine bp ?_
 show wpF _ (A.deeper env) (do point;match ← (execs body env).onRaise (leaving env) with | .ret v=>ret v | _=>ret .none) _ _ s
 refine aj (wpAny_point (aI (bF (aL h (λ f s' h'=>?_) λ _ _ h'=>h'))))
 cases f <;> exact aN h'
theorem dZ {a:Addr} {args:Args} {o:Obj} {fd:FuncData} {body:List Stmt} (hroom:A.depth < recursionLimit) (ho:s.heap.get? a = some o)
  (hd':o.data = .func fd) (hco:fd.scope.isCoroutine = false) (hgen:fd.scope.isGenerator = false) (hbody:fd.body = .stmts body) (hcd:s.heap.CodeRec fd.code fd.qualname)
  (h:wpAny (model prog w) A.in1 (bindArgs fd args) (λ binds s1=>
   wpAny (model prog w) A.in1 (newFunctionEnv fd.scope fd.globals fd.closure binds (fd.qualname++".<locals>.") (some a) fd.code none fd.builtins)
    (λ env s2=>s2.heap.NoLimit∧cR (model prog w) A (.func body env) R s2) (λ e s'=>R (.error e) s') s1) (λ e s'=>R (.error e) s') s) :
  cR (model prog w) A (.call (.ref a) args) R s:=by
 refine bp ?_
 show wpF _ A.in1 (callAny (.ref a) args) _ _ s
 simp only [callAny]
 refine aj (wpAny_load ho ?_)
 refine eX hcd λ c oc vs tq hc zk0=>?_;refine bP zk0 λ hoc hdc hq=>?_;clear zk0;clear hcd
 simp only [hd',callFunction,hco,hgen,hbody,hc]
 rw [hc] at h
 refine aj (m:=field (.ref c) 1) (wpAny_field hoc hdc hq (aj (wpAny_pure ?_)))
 exact aj (wpAny_mono h (λ binds s1 h1=>aj (wpAny_mono h1 (λ env s2 h2=>aj (wpAny_enterFrame h2.1 hroom
  (aN (And.intro rfl ⟨rfl,h2.2⟩)))) λ _ _ h'=>h')) λ _ _ h'=>h')
variable {K:Frag} {x C:Addr} {ox:Obj} {od:Option Obj} {name:Str} {expr:Bool}
theorem ms (X:K.In s.heap) (I:InstAt s.heap x ox C od) (hga:findIn K (.ref C) "__getattribute__" = some (some (.builtin "object.__getattribute__")))
  (h:wpF (model prog w) A.in1 (Builtin.«proto.getattr_hooked» ⟨[.ref x,.str name s.toks],[]⟩)
   (λ fin s'=>match fin with | .done (.ret v)=>wpF (model prog w) A (handedOut v) Q E s' | _=>False) (λ e s'=>wpF (model prog w) A (noteIf true (.ref x) (.str name s.toks) e) (λ _ s''=>E e s'') E s') { s with toks:=s.toks + 1 }) :
  wpF (model prog w) A (getAttr (.ref x) name expr) Q E s:=by
 obtain ⟨hh,g,d,t,os⟩:=s
 have L0:=I.type (M:=model prog w)
 have L1:=looks_findIn (M:=model prog w) X hga
 unfold getAttr getAttrBy
 refine aj (wpAny_mkText (bL (aj (L0.at (aj (L1.at ?_))))))
 show wpF _ _ (getAttrEveryday _ _ _) _ _ _
 refine aI (bF (fh rfl (eg F.plainObj_entry_getattr_hooked (aL h (λ fin s' z=>?_) λ _ _ z=>z))))
 rcases fin with (_ | _ | _ | _) | _ <;> first | exact z | exact z.elim
theorem iO {g a:Value} (X:K.In s.heap) (I:InstAt s.heap x ox C od) (hga:findIn K (.ref C) "__getattribute__" = some (some (.builtin "object.__getattribute__")))
  (hf:findObj K C od name = some (.bind g a)) (hk:findIn K (.ref C) "__getattr__" = some none)
  (h:wpF (model prog w) A.in1 (call g [a,.ref x,.ref C]) (λ v s'=>wpF (model prog w) A (handedOut v) Q E s') (λ e s'=>wpF (model prog w) A (noteIf true (.ref x) (.str name s.toks) e) (λ _ s''=>E e s'') E s') { s with toks:=s.toks + 1 }) :
  wpF (model prog w) A (getAttr (.ref x) name expr) Q E s:=by
 refine ms X I hga ?_
 obtain ⟨hh',gg,d,t,os⟩:=s
 have L0:=I.type (M:=model prog w)
 have L1:=looks_find (M:=model prog w) X I hf
 have L2:=looks_findIn (M:=model prog w) X hk
 refine aj (wpAny_pure (aj (L0.at (aj (L1.at (aj (L2.at ?_)))))))
 show wpF _ _ (holding [a] (call g [a,.ref x,.ref C]) >>= ret) _ _ _
 exact aI (bL (aL h (λ v s' z=>aN z) λ _ _ z=>z))
end
set_option maxRecDepth 512
theorem mn {M:Model} {A:Around} {E:Value->Shared->Prop} {s:Shared} {α:Type} {t:Sem α} {Q:α->Shared->Prop} {d u:Nat} (R:Rm A d u) (h:∀ A',Rm A' d u->wpF M A' t Q E s):wpF M A t Q E s:=h A R
theorem gq {h:Heap} {a:Addr} (ho:h.get? a = some emptyDict):Real prog w h a (.sdict []) :=
 (ad [] (eN _ (#[]) 0 ho (aQ rfl rfl rfl) rfl (λ e he=>by simp at he) .nil List.nodup_nil) rfl)
noncomputable def iZ (prog:Program) (w:World) (A:Around) (B:Heap) (g:c9) (os:OsState) (σ:Led) (fd:FuncData) (args:Args) (bd:Addr->List (Str×Value)) (kl:Addr->Led):Prop :=
 ∀ E Q s,W prog w B g os σ s->(∀ D s',W prog w B g os (kl D++σ) s'->Q (bd D) s')->wpAny (model prog w) A (bindArgs fd args) Q E s
theorem aR {fd:FuncData} {args:Args} {bd:List (Str×Value)} (h:bindArgs fd args = pure bd):iZ prog w A B g os σ fd args (λ _=>bd) (λ _=>[]) :=
 λ E Q s H hQ=>by rw [h];exact wpAny_pure (hQ 0 s H)
theorem aY {fd:FuncData} {args:Args} {bd:List (Str×Value)} {T:Addr} {o:Obj} {items:Array Value} {n:Nat} {k:Option (Array Value)->Sem (List (Str×Value))} (X:K.In B)
  (hd:fd.defaults = .ref T) (ho:K.lookup T = some o) (hs:o.data = .seq items n) (h1:bindArgs fd args = seqItems? fd.defaults >>= k) (h2:k (some items) = pure bd) :
  iZ prog w A B g os σ fd args (λ _=>bd) (λ _=>[]) :=
 λ E Q s H hQ=>by rw [h1,hd];exact wpAny_bind (wpAny_seqItems (H.keep _ _ (X _ _ ho)) hs (h2▸wpAny_pure (hQ 0 s H)))
theorem gM {Q:Addr->Shared->Prop} (H:W prog w B g os σ s) (h:∀ D s',W prog w B g os ((D,.sdict []) :: σ) s'->Q D s'):wpAny (model prog w) A (alloc emptyDict) Q E s :=
 wpAny_alloc (h _ _ (H.add (t:=s.toks) (λ _ _ e=>Heap.get?_push_of_some _ e) (Nat.le_refl _) (gq (Heap.get?_push_size _ rfl))))
theorem j7 {fd:FuncData} {args:Args} {bd:Addr->List (Str×Value)} (h:bindArgs fd args = alloc emptyDict >>= λ D=>pure (bd D)):iZ prog w A B g os σ fd args bd (λ D=>[(D,.sdict [])]) :=
 λ E Q s H hQ=>by rw [h];exact wpAny_bind (gM H λ D s' H'=>wpAny_pure (hQ D s' H'))
theorem nB {fd:FuncData} {args:Args} {bd:Addr->List (Str×Value)} {T:Addr} {o:Obj} {items:Array Value} {n:Nat} {k:Option (Array Value)->Sem (List (Str×Value))} (X:K.In B)
  (hd:fd.defaults = .ref T) (ho:K.lookup T = some o) (hs:o.data = .seq items n) (h1:bindArgs fd args = seqItems? fd.defaults >>= k) (h2:k (some items) = alloc emptyDict >>= λ D=>pure (bd D)) :
  iZ prog w A B g os σ fd args bd (λ D=>[(D,.sdict [])]) :=
 λ E Q s H hQ=>by
  rw [h1,hd];exact wpAny_bind (wpAny_seqItems (H.keep _ _ (X _ _ ho)) hs (h2▸wpAny_bind (gM H λ D s' H'=>wpAny_pure (hQ D s' H'))))
theorem fR {d u:Nat} {a:Addr} {fd:FuncData} {body:List Stmt} {args:Args} {bd:Addr->List (Str×Value)} {kl:Addr->Led} {cl:Addr->Addr->Led} {R:Result->Shared->Prop} (H:W prog w B g os σ s) (hR:Rm A (d + 1) (u + 3)) (X:K.In B) (hlim:B.NoLimit)
  (F:FnIn K a fd body) (hbind:iZ prog w A.in1 B g os σ fd args bd kl) (hclo:fd.closure = [])
  (hcl:∀ D L,dY fd (bd D) L a = cl D L)
  (h:∀ E' D L s',W prog w B g os (cl D L++(kl D++σ)) s'->Rm (A.deeper (callEnvC fd L a)) d u ->
   wpAny (model prog w) (A.deeper (callEnvC fd L a)) (execs body (callEnvC fd L a)) (λ f s''=>R (.ok (.ret (match f with | .ret v=>v | _=>.none))) s'') E' s')
  (hloc:∀ D L,∀ x∈bd D,fd.scope.names.lookup x.1 = some .local∨(fd.scope.names.lookup x.1 = some .cell∧((cellsFrom (L + 1) fd.scope.names []).lookup x.1).isSome = true))
  (hnd:∀ L,((callEnvC fd L a).cells.map (·.1)).Nodup)
  (hco:fd.scope.isCoroutine = false:=by rfl) (hgen:fd.scope.isGenerator = false:=by rfl) (hk:fd.scope.kind = .function:=by rfl) :
  codeAny (model prog w) A (.call (.ref a) args) R s:=by
 refine cw F.ho λ oc od osl ho=>?_
 refine codeAny_call_function hR.room (H.keep _ _ (X _ _ ho)) rfl hco hgen F.hbody (codeRec_of (X.keeps H.keep) F.hcd) ?_
 refine hbind _ _ s H λ D s1 H₁=>?_
 rw [hclo]
 refine wpAny_newFunctionEnv_cells hk (hloc D _) λ env he s' x=>?_
 subst he
 exact ⟨(hlim.keeps H₁.keep).keeps x.toInCall.keep,codeAny_func (wpAny_mono (h (λ e s'=>wpAny (model prog w) (A.deeper _) (leaving _ e) _ _ s') D _ s' (hcl _ _▸fK H₁ x (hnd _)) hR.deeper) (λ _ _ q=>q) λ _ _ q=>q)⟩
theorem aO {d u:Nat} {a:Addr} {fd:FuncData} {body:List Stmt} {args:Args} {bd:Addr->List (Str×Value)} {kl:Addr->Led} {cl:Addr->Addr->Led} (H:W prog w B g os σ s) (hR:Rm A (d + 1) (u + 3)) (X:K.In B) (hlim:B.NoLimit)
  (F:FnIn K a fd body) (hbind:iZ prog w A.in1 B g os σ fd args bd kl) (hclo:fd.closure = [])
  (hcl:∀ D L,dY fd (bd D) L a = cl D L)
  (h:∀ E' D L s',W prog w B g os (cl D L++(kl D++σ)) s'->Rm (A.deeper (callEnvC fd L a)) d u ->
   wpAny (model prog w) (A.deeper (callEnvC fd L a)) (execs body (callEnvC fd L a)) (λ f s''=>Q (match f with | .ret v=>v | _=>.none) s'') E' s')
  (hloc:∀ D L,∀ x∈bd D,fd.scope.names.lookup x.1 = some .local∨(fd.scope.names.lookup x.1 = some .cell∧((cellsFrom (L + 1) fd.scope.names []).lookup x.1).isSome = true))
  (hnd:∀ L,((callEnvC fd L a).cells.map (·.1)).Nodup)
  (hco:fd.scope.isCoroutine = false:=by rfl) (hgen:fd.scope.isGenerator = false:=by rfl) (hk:fd.scope.kind = .function:=by rfl) :
  wpAny (model prog w) A (call (.ref a) args.pos args.kw) Q E s :=
 wpAny_call (fR (R:=λ r s'=>match r with | .ok (.ret v)=>Q v s' | .ok _=>False | .error e=>E e s') H hR X hlim F hbind hclo hcl h hloc hnd hco hgen hk)
theorem jE {d u:Nat} {C fI:Addr} {rest:List Value} {kw:List (Str×Value)} (H:W prog w B g os σ s) (hR:Rm A (d + 1) (u + 6)) (X:K.In B) (hm:makesIn K C = true)
  (hi:findIn K (.ref C) "__init__" = some (some (.ref fI))) (hf:typeIn K (.ref fI) = some (.type "function"))
  (h:∀ A' x dx s',Rm A' d u->W prog w B g os ((x,.inst C dx) :: (dx,.sdict []) :: σ) s'->codeAny (model prog w) A' (.call (.ref fI) ⟨.ref x :: rest,kw⟩) (λ r s''=>match r with | .ok (.ret v)=>v = .none∧Q (.ref x) s'' | .ok _=>False | .error e=>E e s'') s') :
  wpAny (model prog w) A (call (.ref C) rest kw) Q E s:=by
 refine wpAny_call ?_
 obtain ⟨hh,gg,dd,t,oo⟩:=s
 have X':=X.keeps H.keep
 refine make_core (makes_of X' hm) (looks_findIn X' hi) (λ self=>bind_fn X' self hf) (.inl rfl) ?_
 have H1:=H.add (t:=t) (h':=hh.push emptyDict) (λ _ _ e=>Heap.get?_push_of_some _ e) (Nat.le_refl _) (gq (Heap.get?_push_size _ rfl))
 have H2:=H1.add (t:=t) (h':=(hh.push emptyDict).push (instObj C hh.objs.size)) (a:=hh.objs.size + 1) (ao:=.inst C hh.objs.size) (λ _ _ e=>Heap.get?_push_of_some _ e) (by rw [Heap.size_push];exact Nat.le_refl _)
  (by show Heap.get? _ _ = _;have:=Heap.get?_push_size (o:=instObj C hh.objs.size) (hh.push emptyDict) rfl;rwa [Heap.size_push] at this)
 have hR':Rm (A.under (.builtin "type.__call__" ⟨.ref C :: rest,kw⟩)) d u:=by
  refine ⟨hR.hd,?_,?_⟩
  ·have:=hR.dp
   rw [depth_under_kw];walk_at "r"
  ·have:=hR.un
   have e:(A.under (.builtin "type.__call__" ⟨.ref C :: rest,kw⟩)).units = A.units + 1:=rfl
   walk_at "r"
 refine codeAny_mono (h _ _ _ _ hR' H2) λ r s' z=>?_
 rcases r with e | (v | _ | _ | _) <;> exact z
set_option maxRecDepth 100000
theorem df:typeOf (.type "dict") = pure (.type "type"):=by kernel_rfl
theorem gy:checkTypeCall "dict" ⟨[],[]⟩ = pure ():=by kernel_rfl
theorem iH:checkBuiltinCall "dict.__new__" ⟨[.type "dict"],[]⟩ = pure ():=by kernel_rfl
theorem gF {Q₁:Value->Shared->Prop} (h:Q₁ (.ref s.heap.objs.size) { s with heap:=s.heap.push { cls:=.type "dict",data:=.dict #[] } }) :
  codeAny (model prog w) A (.call (.builtin "dict.__new__") ⟨[.type "dict"],[]⟩) (wants Q₁ E) s:=by
 refine codeAny_call_builtin F.kt_plain_dict_new F.kt_entry_dict_new (wpAny_of_eq iH ?_)
 have hsub:=F.kt_sub_dict
 have hmro:=F.kt_mro_dict
 obtain ⟨hp,g,d,tk,os⟩:=s
 unfold Builtin.«dict.__new__»
 wp_walk
 exact h
theorem jo (H:W prog w B g os σ s) (h:∀ D s',W prog w B g os ((D,.sdict []) :: σ) s'->Q (.ref D) s'):wpAny (model prog w) A (call (.type "dict") []) Q E s:=by
 refine callType_codes (Q₁:=λ obj s1=>∃ D,obj = .ref D∧W prog w B g os ((D,.sdict []) :: σ) s1) F.kt_called_dict gy F.entry_dict_init (gF (ad _ rfl ?_)) ?_
 ·exact H.add (t:=s.toks) (λ _ _ e=>Heap.get?_push_of_some _ e) (Nat.le_refl _) (gq (Heap.get?_push_size _ rfl))
 intro obj s1 zr;refine ac zr λ D zh1 H₁=>?_;clear zr;obtain rfl:=zh1
 refine ac (H₁.get (.head _)) λ kvs0 hd e=>?_
 refine (aQ hd.typeIs (F.args_dict_init_1 _) ?_)
 unfold Builtin.«dict.__init__»
 refine wpAny_bind ?_
 unfold Builtin.Dict.selfAndRest
 refine wpAny_bind (wpAny_notOrdered_dict hd.typeIs ?_)
 show wpAny _ _ (pure (D,[])) _ _ _
 refine wpAny_pure ?_
 show wpAny _ _ (Builtin.Dict.addKeywords D [] >>= _) _ _ _
 exact wpAny_bind (wpAny_pure (wpAny_pure ⟨rfl,h _ _ H₁⟩))
theorem dP {K:Type} [DecidableEq K] {knd:KeyKind prog w K} {a:Addr} {kvs:List (K×Value)} {name:Str} {idn:String} {pl:Sem Bool} {Q:Value×List Value->Shared->Prop} (D:s.heap.DictOf knd a kvs) (slot:Slot "dict" name idn)
  (hty:typeOf (.builtin idn) = pure (.type "method_descriptor")) (h:Q (.builtin idn,[.ref a]) s):wpAny (model prog w) A (getMethod (.ref a) name pl) Q E s:=by
 refine kY (id D) λ o es ep ho hc r=>?_
 exact getMethod_builtin D.typeIs F.plainAttrs_dict slot hty (λ b e=>by cases e;exact (ad o ho hc.2.1)) h
theorem ie {a:Addr} {vs:Array Value} {name:Str} {idn:String} {pl:Sem Bool} {Q:Value×List Value->Shared->Prop} (D:s.heap.PlainList a vs) (slot:Slot "list" name idn)
  (hty:typeOf (.builtin idn) = pure (.type "method_descriptor")) (h:Q (.builtin idn,[.ref a]) s):wpAny (model prog w) A (getMethod (.ref a) name pl) Q E s:=by
 refine ai (id D) λ n ho=>?_
 exact getMethod_builtin D.isList.typeIs F.plainAttrs_list slot hty (λ b e=>by cases e;exact (ad _ ho rfl)) h
theorem fG {a b:Addr} {kvs more:List (Str×Value)} (H:W prog w B g os σ s) (u:Up a (.sdict kvs) σ f) (hb:(b,AObj.sdict more)∈σ) (hab:a≠b) (hz:kvs.length + more.length≤1000)
  (h:∀ s',W prog w B g os (f (.sdict (merged kvs more))) s'->Q .none s'):wpAny (model prog w) A (call (.builtin "dict.update") [.ref a,.ref b]) Q E s:=by
 refine bj λ GZ hGZ=>?_
 refine ac (H.get u.mem) λ kvs0 D e=>?_
 refine ac (H.get hb) λ more0 D' e'=>?_
 refine dq (id D) λ o es ep ho _ hdd _=>?_
 refine hGZ ?_
 refine call_meetsIn F.slot_dict_update D.typeIs F.entry_dict_update (F.args_dict_update_2 _ _) (meets_dict_update _ _ _ hab (H.ne_sys hb)) (dK kvs0 more0 D D' ?_ (λ h' D1 D2 hs=>?_))
 ·rw [sizeLine_eq]
  rw [← e,← e',List.length_map,List.length_map] at hz
  walk_at "r"
 ·refine h _ (H.upd (t:=s.toks) u hs.extBut (.dict ho hdd) (ad _ D1 ?_))
  rw [← e,← e']
  clear e e' D D' D1 D2 hdd ho hz hs h'
  rename_i hks
  clear hks
  induction more0 generalizing kvs0 with
  | nil=>rfl
  | cons x r ih=>
   show (merged (stored kvs0 x.1 x.2) r).map _ = merged (stored _ x.1 (cv x.2)) (r.map _)
   rw [ih,dB]
theorem oX {a:Addr} {kvs:List (Str×Value)} {k:Str} {k0 d0 d:Value} (H:W prog w B g os σ s) (hm:(a,AObj.sdict kvs)∈σ) (hk:cv k0 = .str k 0) (hd:cv d0 = d)
  (h:∀ v s',cv v = (valueAt kvs k).getD d->W prog w B g os σ s'->Q v s'):wpAny (model prog w) A (call (.builtin "dict.get") [.ref a,k0,d0]) Q E s:=by
 refine ac (H.get hm) λ kvs0 D e=>?_
 refine ai (cW hk) λ t zh1=>?_;obtain rfl:=zh1
 refine call_meetsIn F.slot_dict_get D.typeIs F.entry_dict_get (F.args_dict_get_3 _ _ _) (meets_dict_get_default (strKind prog w) _ (strKind_is prog w k t) (H.ne_sys hm) d0) (ad _ D.mapOf (h _ _ ?_ H.tok))
 rw [← e,aD,← hd]
 cases valueAt kvs0 k <;> rfl
theorem pI {a:Addr} {kvs:List (Int×Value)} {k:Int} {k0 d0 d:Value} (H:W prog w B g os σ s) (hm:(a,AObj.idict kvs)∈σ) (hk:cv k0 = .int k 0) (hd:cv d0 = d)
  (h:∀ v s',cv v = (valueAt kvs k).getD d->W prog w B g os σ s'->Q v s'):wpAny (model prog w) A (call (.builtin "dict.get") [.ref a,k0,d0]) Q E s:=by
 refine ac (H.get hm) λ kvs0 D e=>?_
 refine ai (ap hk) λ t zh1=>?_;obtain rfl:=zh1
 refine call_meetsIn F.slot_dict_get D.typeIs F.entry_dict_get (F.args_dict_get_3 _ _ _) (meets_dict_get_default (intKind prog w) _ (intKind_is prog w k t) (H.ne_sys hm) d0) (ad _ D.mapOf (h _ _ ?_ H.tok))
 rw [← e,aD,← hd]
 cases valueAt kvs0 k <;> rfl
theorem rD {a:Addr} {vs:List Value} {v:Value} (H:W prog w B g os σ s) (u:Up a (.list (vs++[v])) σ f) (hz:vs.length≤1000)
  (h:∀ v0 s',cv v0 = v->W prog w B g os (f (.list vs)) s'->Q v0 s'):wpAny (model prog w) A (call (.builtin "list.pop") [.ref a]) Q E s:=by
 refine ac (H.get u.mem) λ items zh1 e=>?_;refine ai zh1 λ n ho=>?_;clear zh1
 have hsz:items.size = vs.length + 1:=by have:=congrArg List.length e;simpa using this
 have hlast:∃ y,items[items.size - 1]? = some y∧cv y = v:=by
  have:(items.toList.map cv)[vs.length]? = some v:=by rw [e];simp
  refine ac (bU this) λ y h1 h2=>?_
  exact (ad y (by rw [hsz,Nat.add_sub_cancel,← Array.getElem?_toList];exact h1) h2)
 refine ac hlast λ y hy hc=>?_;clear hlast
 refine call_meets F.slot_list_pop (ad _ ho rfl) F.entry_list_pop (F.args_list_pop_1 _) (MeetsSeq.list_pop_last a items n y hy (by rw [sizeLine_eq];walk_at "r")) ⟨ho,h _ _ hc ?_⟩
 refine ai (Obj.data_mapSeq (o:={ cls:=.type "list",dict:=none,data:=.seq items n,slots:=#[] }) rfl (λ xs=>xs.eraseIdxIfInBounds (items.size - 1))) λ n' hd'=>?_
 refine H.upd (t:=s.toks) u (Heap.SameBut.update ..).extBut (.list (bl _ ho rfl (c5 _ rfl))) (ad (items.eraseIdxIfInBounds (items.size - 1)) ⟨_,Heap.get?_update_self _ ho rfl⟩ ?_)
 have hlt:items.size - 1 < items.size:=by walk_at "r"
 rw [Array.eraseIdxIfInBounds,dif_pos hlt]
 have e2:items.toList.eraseIdx (items.size - 1) = items.toList.take vs.length:=by
  rw [List.eraseIdx_eq_take_drop_succ,hsz,Nat.add_sub_cancel,List.drop_of_length_le (by simp [hsz]),List.append_nil]
 rw [Array.toList_eraseIdx,e2,List.map_take,e];simp
theorem md {a:Addr} {vs:List Value} (H:W prog w B g os σ s) (u:Up a (.list vs) σ f) (hz:vs.length≤1000)
  (h:∀ s',W prog w B g os (f (.list vs.reverse)) s'->Q .none s'):wpAny (model prog w) A (call (.builtin "list.reverse") [.ref a]) Q E s:=by
 refine ac (H.get u.mem) λ items zh1 e=>?_;refine ai zh1 λ n ho=>?_;clear zh1
 have hsz:items.size≤sizeLine:=by rw [← e,List.length_map,Array.length_toList] at hz;rw [sizeLine_eq];walk_at "r"
 refine call_meets F.slot_list_reverse (ad _ ho rfl) F.entry_list_reverse (F.args_list_reverse_1 _) (AutoSeq1.list_reverse_list_0 a items n hsz) ⟨ho,h _ ?_⟩
 refine H.upd (t:=s.toks) u (Heap.SameBut.update ..).extBut (.list (bl _ ho rfl (c5 _ rfl))) (ad items.toList.reverse.toArray ⟨n,?_⟩ (by rw [← e];simp))
 rw [Heap.get?_update_self _ ho (by rw [mapSeq_reverse];rfl),mapSeq_reverse]
theorem gb {a:Addr} {vs:List Value} {v0:Value} (hm:(a,AObj.list vs)∈σ) (e:cv v0 = .ref a) (hz:vs.length≤1000):Gb prog w A B g os σ (truthy v0) (!vs.isEmpty):=λ E s H=>by
 cases ak e
 refine ac (H.get hm) λ items hl e=>?_
 have hsz:items.size = vs.length:=by rw [← e];simp
 refine wpAny_truthy_list hl.isList (by walk_at "r") ⟨?_,H.tok⟩
 rw [← e]
 cases items with | mk l=>cases l <;> rfl
theorem nN {a:Addr} {vs:List (Int×Value)} {v0:Value} (hm:(a,AObj.idict vs)∈σ) (e:cv v0 = .ref a) (hz:vs.length≤1000):Gb prog w A B g os σ (truthy v0) (!vs.isEmpty):=λ E s H=>by
 cases ak e
 refine ac (H.get hm) λ items hl e=>?_
 have hsz:items.length = vs.length:=by rw [← e];simp
 refine wpAny_truthy_dict (H.ne_sys hm) hl (by walk_at "r") ⟨?_,H.tok⟩
 rw [← e]
 cases items <;> rfl
theorem j9 {a:Addr} {vs:List Value} {v0:Value} (hm:(a,AObj.list vs)∈σ) (e:cv v0 = .ref a) (hz:vs.length≤1000):Gv prog w A B g os σ (call (.builtin "len") [v0]) (.int vs.length 0):=λ E s H=>by
 cases ak e
 refine ac (H.get hm) λ items hl e=>?_
 have hsz:items.size = vs.length:=by rw [← e];simp
 exact Calls.call_len_list hl.isList (by walk_at "r") ⟨by rw [hsz];rfl,H.tok⟩
theorem nC {a:Addr} {vs:List (Int×Value)} {v0:Value} (hm:(a,AObj.idict vs)∈σ) (e:cv v0 = .ref a) (hz:vs.length≤1000):Gv prog w A B g os σ (call (.builtin "len") [v0]) (.int vs.length 0):=λ E s H=>by
 cases ak e
 refine ac (H.get hm) λ items hl e=>?_
 have hsz:items.length = vs.length:=by rw [← e];simp
 exact call_len_dict (H.ne_sys hm) hl (by walk_at "r") ⟨by rw [hsz];rfl,H.tok⟩
theorem my {x d C:Addr} {kvs:List (Str×Value)} {name:Str} {T:String} {pl:Sem Bool} {Q:Value×List Value->Shared->Prop} (X:K.In B) (hok:mv K C name T = true) (hT:specialOf (.type T) "__get__" = pure none)
  (hty:typeOf (.type T) = pure (.type "type")) (H:W prog w B g os σ s) (hx:(x,AObj.inst C d)∈σ) (hd:(d,AObj.sdict kvs)∈σ) (hv:valueAt kvs name = none)
  (h:∀ s',W prog w B g os σ s'->Q (.type T,[]) s'):wpAny (model prog w) A (getMethod (.ref x) name pl) Q E s:=by
 refine aV (fb H hx hd) λ od kvs0 I hl hk=>?_
 have hok':=hok
 simp only [mv,Bool.and_eq_true,beq_iff_eq,Bool.not_eq_true'] at hok'
 refine ae hok' λ zh1 h6=>?_;clear hok';refine ae zh1 λ zh2 h3=>?_;clear zh1;refine ae zh2 λ h1 h2=>?_;clear zh2
 have X':=X.keeps H.keep
 have u:wpAny (model prog w) A (do return (← getAttr (.ref x) name,([]:List Value))) Q E s :=
  wpAny_bind ((rO X hok hT hx hd hv).use H λ v0 s' e H'=>by cases ca e;exact wpAny_pure (h s' H'))
 unfold getMethod specialOf
 refine wpAny_bind (wpAny_bind (I.type.here ((looks_findIn X' (plainGet_of h1).1).here ?_)))
 dsimp only
 rw [PySem.F.canon_object_ga,if_neg (by decide)]
 refine wpAny_bind (wpAny_bind (I.type.here ((looks_findIn X' (plainGet_of h1).2).here ?_)))
 refine wpAny_bind (wpAny_bind (I.type.here ((looks_findIn X' h3).here ?_)))
 refine wpAny_bind (wpAny_of_eq hty ?_)
 rw [if_pos (by decide)];exact u
theorem eQ {T:String} {pos:Pos} (h:wpAny (model prog w) A (call (.type T) []) Q E s) :
  wpAny (model prog w) A (callWith pos (.type T) [] (backTo pos (starEach [] env)) []) Q E s:=cw0 bo h
theorem dS {o:Expr} {attr:Str} {e:Expr} {p p':Pos} {rest:List Stmt} {Q:Flow->Shared->Prop}
  (h:wpAny (model prog w) A (eval e env) (λ v s1=>wpAny (model prog w) A (eval o env) (λ ov s2=>wpAny (model prog w) A (setAttr ov attr v) (λ _ s3=>wpAny (model prog w) A (execs rest env) Q E s3) E s2) E s1) E s)
  (hs:swapsWith e (some (.Attribute o attr p)) p'.line env = pure false:=by rfl):wpAny (model prog w) A (execs (.Assign [.Attribute o attr p] e p' :: rest) env) Q E s :=
 wpAny_execs_cons (plainObj_wpAny_Assign_Attribute h hs)
theorem ib {a:Value} {a0 b0:Value} (ea:cv a0 = a) (eb:cv b0 = .none) (hp:plainIs a0 .none = true):Gv prog w A B g os σ (compareOp .IsNot a0 b0) (.bool (!(a0 == .none))):=λ E s H=>by
 cases ce eb;exact wpAny_isNot_plain hp ⟨rfl,H⟩
theorem W.ne {a b:Addr} {x y:AObj} {σ':Led} (H:W prog w B g os σ s) (h:Pick (a,x) σ σ') (hb:(b,y)∈σ'):a≠b:=by
 have:=(H.pick h).nd
 rw [List.map_cons,List.nodup_cons] at this
 exact λ e=>this.1 (e▸List.mem_map_of_mem (f:=(·.1)) hb)
noncomputable def bB (a b:Int):AObj:=.is λ o=>∃ t u v,o = { cls:=.type "range",dict:=none,data:=.fields #[.int a t,.int b u,.int 1 v],slots:=#[] }
theorem gf {a b:Int} (h0:0≤a) (hb:b≤1000) (hb':0≤b) (ha:a≤1000):Builtin.Range.small a b 1 = true:=by
 unfold Builtin.Range.small
 rw [rangeSize_one]
 unfold Builtin.Range.rangeFitsLong
 simp only [Bool.and_eq_true,Bool.or_eq_true,decide_eq_true_eq]
 refine ⟨⟨⟨⟨?_,?_⟩,?_⟩,?_⟩,?_⟩
 ·walk_at "r"
 ·walk_at "r"
 ·walk_at "r"
 ·split <;> walk_at "r"
 ·right
  rw [if_pos (by decide)]
  simp only [Bool.and_eq_true,decide_eq_true_eq]
  walk_at "r"
theorem cU {b:Int} {b0:Value} (H:W prog w B g os σ s) (eb:cv b0 = .int b 0) (h:∀ r s',W prog w B g os ((r,bB 0 b) :: σ) s'->Q (.ref r) s'):wpAny (model prog w) A (call (.type "range") [b0]) Q E s:=by
 refine ai (ap eb) λ zz zh1=>?_;obtain rfl:=zh1
 exact call_range_1 (h _ _ (H.add (t:=s.toks + 1 + 1) (λ _ _ e=>Heap.get?_push_of_some _ e) (Nat.le_refl _) (ad _ (Heap.get?_push_size _ rfl) (bk _ _ _ rfl))))
theorem nT {a b:Int} {a0 b0:Value} (H:W prog w B g os σ s) (ea:cv a0 = .int a 0) (eb:cv b0 = .int b 0) (h:∀ r s',W prog w B g os ((r,bB a b) :: σ) s'->Q (.ref r) s'):wpAny (model prog w) A (call (.type "range") [a0,b0]) Q E s:=by
 refine ai (ap ea) λ zz zh1=>?_;obtain rfl:=zh1
 refine ai (ap eb) λ zz zh1=>?_;obtain rfl:=zh1
 exact call_range_2 (h _ _ (H.add (t:=s.toks + 1) (λ _ _ e=>Heap.get?_push_of_some _ e) (Nat.le_refl _) (ad _ (Heap.get?_push_size _ rfl) (bk _ _ _ rfl))))
theorem cN {r:Addr} {a b:Int} (H:W prog w B g os σ s) (hm:(r,bB a b)∈σ) (h0:0≤a) (hab:a≤b) (hb:b≤1000) (h:∀ I s',W prog w B g os ((I,dA a (b - a).toNat) :: σ) s'->Q (.ref I) s') :
  wpAny (model prog w) A (pyIter (.ref r)) Q E s:=by
 refine ac (H.get hm) λ o ho zh1=>?_;refine cw zh1 λ t u v zh2=>?_;clear zh1;obtain rfl:=zh2
 refine wpAny_pyIter_range ho (gf h0 hb (by walk_at "r") (by walk_at "r")) (h _ _ (H.add (t:=s.toks) (λ _ _ e=>Heap.get?_push_of_some _ e) (Nat.le_refl _) ?_))
 have:Builtin.Range.rangeSize a b 1 = ((b - a).toNat:Int):=by rw [rangeSize_one];split <;> walk_at "r"
 rw [this]
 exact Heap.get?_push_size _ rfl
theorem dw {l:Addr} {vs:List Value} (H:W prog w B g os σ s) (hm:(l,AObj.list vs)∈σ) (h:∀ I s',W prog w B g os ((I,a7 l 0) :: σ) s'->Q (.ref I) s'):wpAny (model prog w) A (pyIter (.ref l)) Q E s:=by
 refine ac (H.get hm) λ items hl e=>?_
 exact wpAny_pyIter_list hl.isList (h _ _ (H.add (t:=s.toks) (λ _ _ e=>Heap.get?_push_of_some _ e) (Nat.le_refl _) (bl _ (Heap.get?_push_size _ rfl) rfl rfl)))
theorem oW {l:Addr} {vs:List Value} (H:W prog w B g os σ s) (hm:(l,AObj.tup vs)∈σ) (h:∀ I s',W prog w B g os ((I,eW l 0) :: σ) s'->Q (.ref I) s'):wpAny (model prog w) A (pyIter (.ref l)) Q E s:=by
 refine ac (H.get hm) λ items hl e=>?_
 exact wpAny_pyIter_tuple hl (h _ _ (H.add (t:=s.toks) (λ _ _ e=>Heap.get?_push_of_some _ e) (Nat.le_refl _) (bl _ (Heap.get?_push_size _ rfl) rfl rfl)))
theorem iB {l:Addr} {vs:List (Int×Value)} {ep:Nat} (H:W prog w B g os σ s) (hm:(l,AObj.idictE vs ep)∈σ) (h:∀ I s',W prog w B g os ((I,cM l 0 vs.length ep) :: σ) s'->Q (.ref I) s'):wpAny (model prog w) A (pyIter (.ref l)) Q E s:=by
 refine ac (H.get hm) λ items hl e=>?_
 refine wpAny_pyIter_dict (H.ne_sys hm) hl (h _ _ (H.add (t:=s.toks) (λ _ _ e=>Heap.get?_push_of_some _ e) (Nat.le_refl _) (bl _ (Heap.get?_push_size _ rfl) rfl ?_)))
 rw [← e,List.length_map];rfl
theorem iR {C:Type} {ρ:C->Led} {tg:Expr->Prop} {d u:Nat} {I l:Addr} {vs:List Value} (hρ:∀ c,(l,AObj.tup vs)∈ρ c) :
  ∀ (xs:List Value) (i:Nat),vs.drop i = xs->bV prog w B os ρ tg d u I (xs.map one) [(I,eW l i)] []
 | [],i,hx=>by
  intro A c o γo E s R H
  refine ac (H.get (List.mem_append_right _ (List.mem_append_left _ (hρ c)))) λ items hl e=>?_
  have hit:=Real.tupIt.mp (H.get (.head _))
  have hlen:items[i]? = none:=by
   have h1:vs.length≤i:=List.drop_eq_nil_iff.mp hx
   rw [← e,List.length_map] at h1
   rw [← Array.getElem?_toList];exact List.getElem?_eq_none h1
  refine wpAny_pyNext_tuple_end R.hd hit hl hlen λ h' hs=>(aJ rfl (c5 c ?_))
  refine aU hit λ o ho hc hd=>?_;clear hit
  exact H.lose (t:=s.toks) hs (.fields ho hd)
 | x :: xs,i,hx=>by
  intro A c o γo E s R H
  refine ac (H.get (List.mem_append_right _ (List.mem_append_left _ (hρ c)))) λ items hl e=>?_
  have hit:=Real.tupIt.mp (H.get (.head _))
  have h1:vs[i]? = some x:=by rw [← List.head?_drop,hx];rfl
  have h2:vs.drop (i + 1) = xs:=by rw [← List.drop_drop,hx];rfl
  rw [← e] at h1
  refine ac (bU h1) λ v h3 h4=>?_
  refine wpAny_pyNext_tuple_item hit hl (by rw [← Array.getElem?_toList];exact h3) λ h' hit' hs=>?_
  refine aU (id hit) λ ob ho hc hd=>?_
  refine (gA v [] [(I,eW l (i + 1))] [] c rfl ⟨h4,rfl⟩ (iR hρ xs (i + 1) h2) (λ t _ E'=>?_))
  refine aU (id hit') λ ob' ho' hc' hd'=>?_
  exact dR ho' hc' (by decide) (H.upd (t:=s.toks) .head hs.extBut (.fields ho hd) (Real.tupIt.mpr hit'))
theorem cy {C:Type} {ρ:C->Led} {tg:Expr->Prop} {d u:Nat} {I l:Addr} {vs:List (Int×Value)} {ep:Nat} (hρ:∀ c,(l,AObj.idictE vs ep)∈ρ c) :
  ∀ (xs:List (Int×Value)) (i:Nat),vs.drop i = xs->bV prog w B os ρ tg d u I (xs.map λ x=>one (.int x.1 0)) [(I,cM l i vs.length ep)] []
 | [],i,hx=>by
  intro A c o γo E s R H
  refine ac (H.get (List.mem_append_right _ (List.mem_append_left _ (hρ c)))) λ items hl e=>?_
  have hit:=Real.keyIt.mp (H.get (.head _))
  have hln:vs.length = items.length:=by rw [← e,List.length_map]
  rw [hln] at hit
  have hlen:items[i]? = none:=by
   have h1:vs.length≤i:=List.drop_eq_nil_iff.mp hx
   rw [hln] at h1
   exact List.getElem?_eq_none h1
  refine wpAny_pyNext_dict_end R.hd hit hl hlen λ h' hs=>(aJ rfl (c5 c ?_))
  refine aU hit λ o ho hc hd=>?_;clear hit
  exact H.lose (t:=s.toks) hs (.fields ho hd)
 | x :: xs,i,hx=>by
  intro A c o γo E s R H
  refine ac (H.get (List.mem_append_right _ (List.mem_append_left _ (hρ c)))) λ items hl e=>?_
  have hit:=Real.keyIt.mp (H.get (.head _))
  have hln:vs.length = items.length:=by rw [← e,List.length_map]
  rw [hln] at hit
  have h1:vs[i]? = some x:=by rw [← List.head?_drop,hx];rfl
  have h2:vs.drop (i + 1) = xs:=by rw [← List.drop_drop,hx];rfl
  rw [← e,List.getElem?_map] at h1
  cases q:items[i]? with
  | none=>rw [q] at h1;cases h1
  | some y=>
   rw [q] at h1
   have h3:y.1 = x.1:=by have:=Option.some.inj h1;rw [← this]
   refine wpAny_pyNext_dict_item hit hl (k:=y.1) (v:=y.2) q λ key h' hkey hit' hs=>?_
   refine aU (id hit) λ ob ho hc hd=>?_
   rw [← hln] at hit'
   refine (gA key [] [(I,cM l (i + 1) vs.length ep)] [] c rfl ⟨?_,rfl⟩ (cy hρ xs (i + 1) h2) (λ t _ E'=>?_))
   ·refine ai (qb hkey) λ t zh1=>?_;obtain rfl:=zh1
    rw [h3];rfl
   ·refine aU (id hit') λ ob' ho' hc' hd'=>?_
    exact dR ho' hc' (by decide) (H.upd (t:=s.toks) .head hs.extBut (.fields ho hd) (Real.keyIt.mpr hit'))
theorem bn {C:Type} {ρ:C->Led} {tg:Expr->Prop} {d u:Nat} {I:Addr} :
  ∀ (n:Nat) (a:Int),bV prog w B os ρ tg d u I ((List.range n).map λ (k:Nat)=>one (.int (a + k) 0)) [(I,dA a n)] []
 | 0,a=>by
  intro A c o γo E s R H
  have hit:IsRangeIter s.heap I a (0:Nat) 1:=H.get (.head _)
  refine wpAny_pyNext_range_end R.hd hit (by simp) λ h' hs=>(aJ rfl (c5 c ?_))
  exact H.lose (t:=s.toks) hs (.fields hit rfl)
 | n + 1,a=>by
  have e:(List.range (n + 1)).map (λ (k:Nat)=>one (.int (a + k) 0)) = one (.int a 0) :: (List.range n).map (λ (k:Nat)=>one (.int (a + 1 + k) 0)):=by
   rw [List.range_succ_eq_map,List.map_cons,List.map_map]
   refine congr (congrArg List.cons ?_) (List.map_congr_left λ k _=>?_)
   ·congr 2;walk_at "r"
   ·simp only [Function.comp]
    congr 2
    walk_at "r"
  rw [e]
  intro A c o γo E s R H
  have hit:IsRangeIter s.heap I a (n + 1:Nat) 1:=H.get (.head _)
  refine wpAny_pyNext_range_item hit (by walk_at "r") λ h' hit' hs=>?_
  have e2:((n + 1:Nat):Int) - 1 = n:=by walk_at "r"
  rw [e2] at hit'
  refine (gA _ [] [(I,dA (a + 1) n)] [] c rfl ⟨rfl,rfl⟩ (bn n (a + 1)) (λ t _ E'=>?_))
  exact dR hit' rfl (by decide) (H.upd (t:=s.toks + 1) .head hs.extBut (.fields hit rfl) hit')
theorem iK {body rest:List Stmt} {h0:ExceptHandler} {hs:List ExceptHandler} {pos:Pos} {Q:Flow->Shared->Prop}
  (h:∀ E',wpAny (model prog w) A (execs body env) (λ f s1=>match f with | .next=>wpAny (model prog w) A (execs rest env) Q E s1 | f=>Q f s1) E' s):wpAny (model prog w) A (execs (.Try body (h0 :: hs) [] [] pos :: rest) env) Q E s:=by
 refine wpAny_execs_cons (wpAny_Try_except (wpAny_mono (h _) (λ f s1 z=>?_) λ _ _ z=>z))
 cases f <;> first | exact ay z | exact z
theorem a8 {α:Type} [DecidableEq α] (ns:List α) (F:α->Value) (n:α):valueAt (ns.map λ m=>(m,F m)) n = if n∈ns then some (F n) else none:=by
 induction ns with
 | nil=>rfl
 | cons x r ih=>
  unfold valueAt at *
  rw [List.map_cons,List.find?_cons]
  by_cases h:x = n
  ·subst h;simp
  ·simp only [h,decide_false]
   rw [ih]
   simp [Ne.symm h]
theorem aA {α:Type} [DecidableEq α] {kvs:List (α×Value)} {k:α} {v:Value} (h:valueAt kvs k = none):stored kvs k v = kvs++[(k,v)]:=by
 unfold stored
 have:kvs.any (λ kv=>kv.1 = k) = false:=by
  unfold valueAt at h
  rw [Option.map_eq_none_iff,List.find?_eq_none] at h
  rw [List.any_eq_false]
  intro x hx
  exact h x hx
 rw [this];rfl
theorem oT {α:Type} {ns:List α} {F:α->Addr×AObj} {a:Addr} {o:AObj} {n:α} (hn:ns.Nodup) (hm:n∈ns) (e:F n = (a,o)) :
  ∃ f,Up a o (ns.map F) f∧∀ x,∀ G:α->Addr×AObj,G n = (a,x)->(∀ m∈ns,m≠n->G m = F m)->f x = ns.map G:=by
 induction ns with
 | nil=>cases hm
 | cons y r ih=>
  rw [List.nodup_cons] at hn
  rcases List.mem_cons.mp hm with rfl | hm
  ·refine (ad (λ x=>(a,x) :: r.map F) (by rw [List.map_cons,e];exact .head) (λ x G h1 h2=>?_))
   show (a,x) :: r.map F = G _ :: r.map G
   rw [h1,show r.map F = r.map G from List.map_congr_left λ m hm=>(h2 m (.tail _ hm) (λ q=>hn.1 (q▸hm))).symm]
  ·refine ac (ih hn.2 hm) λ f h1 h2=>?_
   refine (ad (λ x=>F y :: f x) (.tail h1) (λ x G h3 h4=>?_))
   show F y :: f x = G y :: r.map G
   rw [h2 x G h3 (λ m hm=>h4 m (.tail _ hm)),h4 y (.head _) (λ q=>hn.1 (q▸hm))]
theorem pZ {a:Addr} {vs:List Value} {v0:Value} (hm:(a,AObj.tup vs)∈σ) (e:cv v0 = .ref a) (hz:vs.length≤1000):Gv prog w A B g os σ (call (.builtin "len") [v0]) (.int vs.length 0):=λ E s H=>by
 cases ak e
 refine bj λ GZ hGZ=>?_
 refine ac (H.get hm) λ items zh1 e=>?_;refine aU zh1 λ o ho hc zh2=>?_;clear zh1;refine ai zh2 λ n hd=>?_;clear zh2
 refine hGZ ?_
 have hsz:items.size = vs.length:=by rw [← e];simp
 exact PyProof.Rows.len_tuple (bl o ho hc (c5 n hd)) (by walk_at "r") ⟨by rw [hsz];rfl,H.tok⟩
theorem iU {elts:List Expr} {k:Nat} {tpos pos:Pos} {e:Expr} {rest:List Stmt} {Q:Flow->Shared->Prop}
  (h:wpAny (model prog w) A (eval e env) (λ v s1=>wpAny (model prog w) A (assign (.Tuple elts k tpos) env v) (λ _ s2=>wpAny (model prog w) A (execs rest env) Q E s2) E s1) E s)
  (hs:swapsWithSole [.Tuple elts k tpos] e pos.line env = pure false:=by rfl) (hw:swappedStores [.Tuple elts k tpos] e env = pure none:=by rfl) :
  wpAny (model prog w) A (execs (.Assign [.Tuple elts k tpos] e pos :: rest) env) Q E s:=wpAny_execs_cons (Assign_Tuple h hs hw)
theorem jk {elts:List Expr} {k:Nat} {tpos pos:Pos} {e:Expr} {rest:List Stmt} {names:List Str} {Q:Flow->Shared->Prop}
  (h:wpAny (model prog w) A (eval e env) (λ v s1=>wpAny (model prog w) A (unpackItems v names.length none) (λ items s2=>
   wpAny (model prog w) A (assignInOrder (names.reverse.map λ n=>bindName env n) items.reverse) (λ _ s3=>wpAny (model prog w) A (execs rest env) Q E s3) E s2) E s1) E s)
  (hs:swapsWithSole [.Tuple elts k tpos] e pos.line env = pure false:=by rfl) (hw:swappedStores [.Tuple elts k tpos] e env = pure (some names):=by rfl) :
  wpAny (model prog w) A (execs (.Assign [.Tuple elts k tpos] e pos :: rest) env) Q E s:=wpAny_execs_cons (Assign_Tuple_swapped h hs hw)
theorem gW {t:Addr} {vs:List Value} {n:Nat} {Q:List Value->Shared->Prop} (hh:A.handled = none) (H:W prog w B g os σ s) (hm:(t,AObj.tup vs)∈σ) (hn:vs.length = n)
  (h:∀ ws s',ws.map cv = vs->W prog w B g os σ s'->Q ws s'):wpAny (model prog w) A (unpackItems (.ref t) n none) Q E s:=by
 refine ac (H.get hm) λ items ht e=>?_
 have:items.size = n:=by rw [← hn,← e];simp
 subst this
 exact wpAny_unpackItems_tuple hh ht λ h' hs=>h _ _ e (H.ext (t:=s.toks) hs)
theorem nP {x y z:Str} {p1 p2 p3 pos:Pos} {k:Nat} {t:Addr} {a b c:Value} {m:Str->Option Value} {Q:Unit->Shared->Prop} (hh:A.handled = none) (H:W prog w B g os σ s) (hm:(t,AObj.tup [a,b,c])∈σ) (u:Up env.locals (.frame m) σ f)
  (hf:∀ v,Up env.locals (.frame v) (f (.frame v)) f)
  (h:∀ s',W prog w B g os (f (.frame (put z c (put y b (put x a m))))) s'->Q () s') (hx:env.kindOf x = some .local:=by rfl) (hy:env.kindOf y = some .local:=by rfl) (hz:env.kindOf z = some .local:=by rfl) (hk:env.scope.kind = .function:=by rfl) :
  wpAny (model prog w) A (assign (.Tuple [.Name x p1,.Name y p2,.Name z p3] k pos) env (.ref t)) Q E s:=by
 refine j5 hh H hm rfl rfl λ ws s' e H'=>?_
 refine dq (l8 e) λ a0 b0 c0 zh1 e1 e2 e3=>?_;obtain rfl:=zh1
 refine bK (aG (al H' u e1 (λ s2 H₂=>?_) hx hk))
 refine bK (aG (al H₂ (hf _) e2 (λ s3 H₃=>?_) hy hk))
 refine bK (aG (al H₃ (hf _) e3 (λ s4 H₄=>?_) hz hk))
 exact gL (h _ H₄)
theorem be {pos:Pos} {e:Expr} {rest:List Expr} {Q:List Value->Shared->Prop}
  (h:wpAny (model prog w) A (eval e env) (λ v0 s'=>wpAny (model prog w) A (spliced (backTo pos (starEach rest env))) (λ vs s2=>Q (v0 :: vs) s2) E s') E s)
  (hs:starEach (e :: rest) env = (false,eval e env) :: starEach rest env:=by rfl):wpAny (model prog w) A (spliced (backTo pos (starEach (e :: rest) env))) Q E s:=wpAny_items_cons h hs
theorem dJ {x:Str} {np pos:Pos} {e:Expr} {id:String} {v r:Value} (hf:Gv prog w A B g os σ (eval (.Name x np) env) (.builtin id)) (he:Gv prog w A B g os σ (eval e env) v)
  (hc:∀ v0,cv v0 = v->Gv prog w A B g os σ (call (.builtin id) [v0]) r) (hs:starEach [e] env = (false,eval e env) :: starEach [] env:=by rfl):Gv prog w A B g os σ (eval (.Call (.Name x np) [e] [] pos) env) r:=λ E s H=>
 aw H hf (λ f0 e=>bX e) λ s1 H₁=>cw1 (ab H₁ he (λ v0 s2 e2 H₂=>ah ⟨az,hc v0 e2 E s2 H₂⟩) hs) hs rfl
section
open PySem PySem.W PyProof.Rows PySem.Builtin PySem.Builtin.ObjectAttr PySem.Builtin.Getset_descriptor
theorem pf {v:Value} (h:wpAny (model prog w) A.in1 (pyIter v) Q E s):wpAny (model prog w) A (call (.builtin "iter") [v]) Q E s:=by
 refine Calls.call_function_entry (by decide +kernel) (by decide +kernel) kdk_entry_iter (kdk_args_iter _) ?_
 unfold Builtin.«iter»
 refine wpAny_bind (m:=someArgs "iter" 1 2 _) (wpAny_of_eq (a:=[v]) (by first | rfl | kernel_rfl!) ?_)
 exact wpAny_bind (wpAny_mono h (λ r s' q=>wpAny_pure (ad _ rfl q)) λ _ _ e=>e)
noncomputable def jC (K:Frag) (C:Addr) (name:Str) (a:Addr):Bool:=findIn K (.ref C) name == some (some (.ref a)) && isFn K (.ref a)
theorem jL {x d C:Addr} {kvs:List (Str×Value)} (H:W prog w B g os σ s) (hx:(x,AObj.inst C d)∈σ) (hd:(d,AObj.sdict kvs)∈σ):∃ od,InstAt s.heap x (instObj C d) C (some od):=by
 refine bC (fb H hx hd) λ od _ I _=>?_;exact ⟨od,I⟩
noncomputable def aK (C d:Addr) (v:Value):Obj:={ cls:=.ref C,dict:=some d,data:=.plain,slots:=#[some v] }
theorem cu {x d C:Addr} {v:Value} {kvs:List (Str×Value)} (H:W prog w B g os σ s) (hx:(x,AObj.raw (aK C d v))∈σ) (hd:(d,AObj.sdict kvs)∈σ):∃ od,InstAt s.heap x (aK C d v) C (some od):=by
 refine ac (H.get hd) λ kvs0 D _=>?_
 refine ac (cm D) λ od h1 _=>?_
 exact ⟨od,H.get hx,rfl,rfl,h1⟩
theorem lq {x C a:Addr} {ox:Obj} {od:Option Obj} {v:Value} {Q:Bool->Shared->Prop} (X:K.In s.heap) (I:InstAt s.heap x ox C od) (hok:jC K C "__contains__" a = true)
  (h:wpAny (model prog w) A (call (.ref a) [.ref x,v]) (λ r s'=>wpAny (model prog w) A (truthy r) Q E s') E s):wpAny (model prog w) A (contains (.ref x) v) Q E s:=by
 refine ae (Bool.and_eq_true_iff.mp hok) λ h1 h2=>?_
 have h1:=beq_iff_eq.mp h1
 unfold contains
 refine wpAny_holding (wpAny_bind (wpAny_bind (I.type.here ((looks_findIn X h1).here ?_))))
 rw [if_neg (by simp)]
 exact wpAny_bind (unlessNone_K X I h1 h2 h)
theorem p9 {x C a:Addr} {ox:Obj} {od:Option Obj} {v:Value} (X:K.In s.heap) (I:InstAt s.heap x ox C od) (hok:jC K C "__contains__" a = true)
  (h:wpAny (model prog w) A (call (.ref a) [.ref x,v]) (λ r s'=>wpAny (model prog w) A (truthy r) (λ b=>Q (.bool (!b))) E s') E s):wpAny (model prog w) A (compareOp .NotIn v (.ref x)) Q E s :=
 wpAny_bind (lq X I hok (wpAny_mono h (λ _ _ z=>wpAny_mono z (λ _ _ z=>wpAny_pure z) λ _ _ z=>z) λ _ _ z=>z))
theorem oL {x C a:Addr} {ox:Obj} {od:Option Obj} {n:Int} {Q:Bool->Shared->Prop} (X:K.In s.heap) (I:InstAt s.heap x ox C od) (hb:findIn K (.ref C) "__bool__" = some none) (hok:jC K C "__len__" a = true) (hn:0≤n) (hn':n < 2 ^ 63)
  (h:wpAny (model prog w) A.in1 (call (.ref a) [.ref x]) (λ r s'=>∃ t,r = .int n t∧Q (n != 0) { s' with toks:=s'.toks + 1 }) E s):wpAny (model prog w) A (truthy (.ref x)) Q E s:=by
 refine ae (Bool.and_eq_true_iff.mp hok) λ h1 h2=>?_
 have h1:=beq_iff_eq.mp h1
 unfold truthy
 refine wpAny_bind (m:=callSpecial? (.ref x) (Str.ofString "__bool__")) (wpAny_bind (wpAny_bind (I.type.here ((looks_findIn X hb).here (wpAny_pure ?_)))))
 refine wpAny_bind (wpAny_bind (I.type.here ((looks_findIn X h1).here ?_)))
 show wpAny _ A (runValue (.builtin "len" ⟨[.ref x],[]⟩) >>= _) Q E s
 have key:wpAny (model prog w) A (runValue (.builtin "len" ⟨[.ref x],[]⟩)) (λ r s'=>(∃ t,r = .int n t)∧Q (n != 0) s') E s:=by
  refine wpAny_runValue (codeAny_builtin entry_len ?_)
  unfold Builtin.«len»
  refine wpAny_bind (m:=oneArg "len" _) (wpAny_pure ?_)
  refine wpAny_bind (m:=callSpecial? (.ref x) (Str.ofString "__len__")) (special_fn X I h1 (beq_iff_eq.mp h2) (wpAny_mono h (λ r s' hr=>?_) λ _ _ y=>y))
  refine ac hr λ t zh1 hq=>?_;clear hr;obtain rfl:=zh1
  refine wpAny_bind (wpAny_holding (wpAny_pure ?_))
  refine wpAny_bind (wpAny_letGo ?_)
  show wpAny _ _ (if n < 0 then _ else _) _ _ _
  rw [if_neg (by walk_at "r")]
  show wpAny _ _ (if n ≥ 2 ^ 63 then _ else _) _ _ _
  rw [if_neg (by walk_at "r")]
  exact wpAny_bind (wpAny_mkInt (wpAny_pure ⟨⟨_,rfl⟩,hq⟩))
 refine wpAny_bind (wpAny_mono key (λ r s' z=>?_) λ _ _ z=>z)
 revert z;refine λ zq=>ae zq λ zh1 z=>?_;clear zq;refine ai zh1 λ t zh2=>?_;clear zh1;obtain rfl:=zh2
 exact wpAny_pure z
theorem mt {x C a:Addr} {ox:Obj} {od:Option Obj} {value slice:Expr} {i:Value} (X:K.In s.heap) (I:InstAt s.heap x ox C od) (hok:jC K C "__getitem__" a = true) (hf:fnIn K a = true)
  (h:wpAny (model prog w) A.in1 (call (.ref a) [.ref x,i]) Q E s)
  (hsl:subscripted slice true (.ref x) i = runValue (.builtin "lifetime.subscript" ⟨[.ref x,i],[]⟩):=by with_unfolding_all rfl) :
  wpAny (model prog w) A (subscriptTail value slice (.ref x) i) Q E s:=by
 refine ae (Bool.and_eq_true_iff.mp hok) λ h1 h2=>?_
 have h1:=beq_iff_eq.mp h1
 unfold fnIn at hf
 split at hf
 ·rename_i e
  unfold subscriptTail getitemInPython
  refine wpAny_bind (wpAny_bind (wpAny_bind (I.type.here ((looks_findIn X h1).here ?_))))
  dsimp only
  refine wpAny_bind (wpAny_load (X _ _ e) (wpAny_pure ?_))
  dsimp only
  rw [hsl]
  refine wpAny_bind (wpAny_runValue (codeAny_builtin entry_sub ?_))
  unfold Builtin.«lifetime.subscript»
  refine wpAny_bind (special_fn X I h1 (beq_iff_eq.mp h2) (wpAny_mono h (λ v s' z=>?_) λ _ _ z=>z))
  refine wpAny_pure ?_
  show wpAny (model prog w) A (letTemporaryGo value (.ref x) v >>= λ _=>pure v) Q E s'
  exact wpAny_bind (wpAny_letTemporaryGo (wpAny_pure z))
 ·cases hf
theorem o5 {x C a:Addr} {ox:Obj} {od:Option Obj} (X:K.In s.heap) (I:InstAt s.heap x ox C od) (hok:jC K C "__iter__" a = true)
  (h:wpAny (model prog w) A (call (.ref a) [.ref x]) (λ it s'=>∃ T r,s'.TypeIs it T∧typeLookup (.type T) "__next__" = pure (some r)∧Q it s') E s):wpAny (model prog w) A (pyIter (.ref x)) Q E s:=by
 refine ae (Bool.and_eq_true_iff.mp hok) λ h1 h2=>?_
 have h1:=beq_iff_eq.mp h1
 unfold pyIter
 refine wpAny_bind (wpAny_bind (I.type.here ((looks_findIn X h1).here ?_)))
 dsimp only
 have fin:∀ Q',(∀ it s',(∃ T r,s'.TypeIs it T∧typeLookup (.type T) "__next__" = pure (some r)∧Q it s')->Q' (some it) s')->wpAny (model prog w) A (callSpecialIfBoundUnlessNone? (.ref x) "__iter__" (do rule "iter.none";raiseError "TypeError" s!"'{← typeNameOf (.ref x)}' object is not iterable")) Q' E s:=by
  intro Q' hq
  simp only [callSpecialIfBoundUnlessNone?,bindSpecialIfBound?]
  refine wpAny_holding (wpAny_bind (wpAny_bind (wpAny_bind (I.type.here ((looks_findIn X h1).here ?_)))))
  refine wpAny_bind (wpAny_askSetting (wpAny_ite ?_))
  have fin:wpAny (model prog w) A (call (.ref a) [.ref x] >>= λ v=>pure (some v)) Q' E s:=wpAny_bind (wpAny_mono h (λ v s' h'=>wpAny_pure (hq v s' h')) λ _ _ h'=>h')
  split
  ·exact wpAny_bind ((bind_fn X _ (beq_iff_eq.mp h2)).here (wpAny_pure (by exact fin)))
  ·exact wpAny_tryCatch (wpAny_bind ((bind_fn X _ (beq_iff_eq.mp h2)).here (wpAny_pure (by exact fin))))
 refine wpAny_bind (fin _ λ it s' z=>?_)
 refine aV z λ T r hT hl hq=>?_;clear z
 exact wpAny_bind (wpAny_specialOf hT hl (wpAny_pure hq))
noncomputable def gX (K:Frag) (C:Addr) (name:Str) (p:Addr):Bool:=plainGet K C name && isClsIn K C && findIn K (.ref C) name == some (some (.ref p)) && specialIn K (.ref p) "__get__" == some (some (.builtin "member_descriptor.__get__")) && takesIn K (.ref p) == some true && slotIn K p C == some 0
noncomputable def dC (K:Frag) (C:Addr) (name:Str) (p:Addr):Bool:=findIn K (.ref C) "__setattr__" == some (some (.builtin "object.__setattr__")) && plainOver K C && takerIn K C name == some (some (.ref p)) && typeIn K (.ref p) == some (.type "member_descriptor") && slotIn K p C == some 0
theorem jW {x d C p:Addr} {v:Value} {kvs:List (Str×Value)} {name:Str} {expr:Bool} (X:K.In B) (hok:gX K C name p = true) (hx:(x,AObj.raw (aK C d v))∈σ) (hd:(d,AObj.sdict kvs)∈σ) (hh:handedIn v = true) :
  Gv prog w A B g os σ (getAttr (.ref x) name expr) (cv v):=by
 intro E s H
 refine ai (cu H hx hd) λ od I=>?_
 have X':=X.keeps H.keep
 simp only [gX,Bool.and_eq_true,beq_iff_eq] at hok
 refine bj λ GZ hGZ=>?_
 refine ae hok λ zh1 h6=>?_;clear hok;refine ae zh1 λ zh2 h5=>?_;clear zh1;refine ae zh2 λ zh3 h4=>?_;clear zh2;refine ae zh3 λ zh4 h3=>?_;clear zh3;refine ae zh4 λ h1 h2=>?_;clear zh4
 refine hGZ ?_
 exact get_bind X' I (plainGet_of h1).1 (findObj_data h2 h3 h4 h5) (plainGet_of h1).2 (wpAny_call (slot_get (s:={ s with toks:=s.toks + 1 }) X' I h6 (v:=v) rfl (handed_on hh ⟨rfl,H.tok⟩)))
theorem ma {R:Result->Shared->Prop} {x p C:Addr} {ox:Obj} {od:Option Obj} {v:Value} {i:Nat} (X:K.In s.heap) (I:InstAt s.heap x ox C od) (hp:slotIn K p C = some i) (hi:i < 1000)
  (h:R (.ok (.ret .none)) { s with heap:=s.heap.update x λ o=>{ o with slots:=(o.slots++Array.replicate (i + 1 - o.slots.size) none).setIfInBounds i (some v) } }) :
  codeAny (model prog w) A (.call (.builtin "member_descriptor.__set__") ⟨[.ref p,.ref x,v],[]⟩) R s:=by
 refine n8 (slot_of X hp) λ n tn owner behind tb d sl cd ho hc hm hb zh1=>?_;obtain rfl:=zh1
 obtain ⟨hh,g,dr,t,os⟩:=s
 have L0:=I.type (M:=model prog w)
 have L1:=looks_mroIn (M:=model prog w) X hm
 have L2:Looks (model prog w) hh (Slots.slotNamesOf (.ref C)) cd.slotNames:=(looks_clsIn X hc).andThen .now
 have hx:=I.at_
 dsimp only at ho hx L0 L1
 have f0:=looks_field (M:=model prog w) ho 0 (v:=.str n tn) rfl
 have f1:=looks_field (M:=model prog w) ho 1 (v:=owner) rfl
 have f3:=looks_field (M:=model prog w) ho 3 (v:=.builtin "proto.slot#set") rfl
 have f4:=looks_field (M:=model prog w) ho 4 (v:=.int behind tb) rfl
 refine codeAny_call_builtin KF.slot_mset.plain KF.entry_mset (KF.slot_mset.check _ _ _ _ _ _ _ _ (ad _ ho rfl) (KF.args_mset _ _ _) ?_)
 unfold Builtin.«member_descriptor.__set__» descrSet descrStoreThrough descrCheckInstance descrNameAndClass isInstance
 have f5:Looks (model prog w) hh (descrItself (.ref p)) [.ref p]:=((Looks.ld (part:=none) ho).andThen .now).andThen (Looks.of_pure (by kernel_rfl))
 repeat lk
 refine ⟨Code.quiet_builtin _ (by decide +kernel),codeAny_builtin KF.entry_slotset ?_⟩
 unfold Builtin.«proto.slot#set» Slots.target
 repeat lk
 rw [if_neg hb]
 refine wpAny_pure (wpAny_bind ?_)
 unfold setSlotAt
 dsimp only
 rw [if_neg (by rw [sizeLine_eq];walk_at "r")]
 exact wpAny_updatePart hx (wpAny_pure h)
theorem pC {x d C p:Addr} {kvs:List (Str×Value)} {name:Str} {v:Value} {Q:Unit->Shared->Prop} (X:K.In B) (hok:dC K C name p = true) (H:W prog w B g os σ s) (u:Up x (.inst C d) σ f) (hd:(d,AObj.sdict kvs)∈σ)
  (h:∀ s',W prog w B g os (f (.raw (aK C d v))) s'->Q () s'):wpAny (model prog w) A (setAttr (.ref x) name v) Q E s:=by
 refine ai (jL H u.mem hd) λ od I=>?_
 have X':=X.keeps H.keep
 simp only [dC,Bool.and_eq_true,beq_iff_eq] at hok
 refine bj λ GZ hGZ=>?_
 refine ae hok λ zh1 h5=>?_;clear hok;refine ae zh1 λ zh2 h4=>?_;clear zh1;refine ae zh2 λ zh3 h3=>?_;clear zh2;refine ae zh3 λ h1 h2=>?_;clear zh3
 refine hGZ ?_
 refine set_plain X' I h1 (osa_descr (s:={ s with toks:=s.toks + 1 }) KF.slot_mset X' I h2 h3 h4 (ma (s:={ s with toks:=s.toks + 1 }) X' I h5 (by decide) ?_))
 have hx:s.heap.get? x = some (instObj C d):=H.get u.mem
 exact h _ (H.upd (t:=s.toks + 1) u (Heap.SameBut.update ..).extBut (.data hx (λ xs n q=>by cases q)) (Heap.get?_update_self _ hx rfl))
end
section
open PySem PySem.W PyProof.Rows PySem.Builtin PySem.Builtin.ObjectAttr PySem.Builtin.Getset_descriptor
structure NDict (prog:Program) (w:World) (made:Bool) (kvs0:List (Str×Value)) (o:Obj):Prop where
 cls:o.cls = .type "dict"
 dict:o.dict = none
 slots:o.slots = if made then #[none] else #[]
 data:∃ es ep,o.data = .dict es ep∧KeysOf (strKind prog w) es∧Pairs (strKind prog w) es.toList kvs0∧(kvs0.map (·.1)).Nodup
noncomputable def ndict (prog:Program) (w:World) (made:Bool) (kvs:List (Str×Value)):AObj:=.is λ o=>∃ kvs0,NDict prog w made kvs0 o∧kvs0.map (λ x=>(x.1,cv x.2)) = kvs
theorem W.chg (H:W prog w B g os σ s) {a:Addr} {o o':AObj} (u:Up a o σ f) (h:Real prog w s.heap a o->Real prog w s.heap a o'):W prog w B g os (f o') s:=by
 have hr:=h (H.get u.mem)
 refine bC u.split λ l r zh1 hf=>?_;obtain rfl:=zh1
 rw [hf]
 refine H.repl (by simp) λ p hp=>?_
 rcases List.mem_append.mp hp with hp | hp
 ·exact H.own p (List.mem_append_left _ hp)
 ·rcases List.mem_cons.mp hp with rfl | hp
  ·exact hr
  ·exact H.own p (List.mem_append_right _ (.tail _ hp))
theorem jI {h:Heap} {a:Addr} {kvs:List (Str×Value)} (x:Real prog w h a (.sdict kvs)):Real prog w h a (ndict prog w false kvs):=by
 refine ac x λ kvs0 zh1 e=>?_;clear x;refine ir zh1 λ o es ep ho hc hd hk hp hn=>?_;clear zh1
 exact (ad o ho (ad kvs0 ⟨hc.1,hc.2.1,hc.2.2,es,ep,hd,hk,hp,hn⟩ e))
theorem NDict.look {made:Bool} {kvs0:List (Str×Value)} {o:Obj} (D:NDict prog w made kvs0 o) (name:Str):lookIn name o = some (valueAt kvs0 name):=by
 obtain ⟨_,_,_,es,ep,hd,hk,hp,hn⟩:=D
 have e:(λ e:DictEntry=>e.key.isStr name) = λ e=>(strKind prog w).is name e.key:=funext λ e=>isStr_of name e.key
 have hv:=hp.find name
 rw [← e] at hv
 unfold lookIn
 rw [hd]
 dsimp only
 cases q:es.toList.find? (λ e=>e.key.isStr name) with
 | some x=>rw [q] at hv;rw [← hv];rfl
 | none=>
  rw [q] at hv
  have:es.toList.any (·.refKey) = false:=by
   rw [List.any_eq_false]
   intro x hx
   refine ac (hk x (Array.mem_toList_iff.mp hx)) λ k h1 h2=>?_
   refine ai (Value.isStrOf_shape h1) λ t h3=>?_
   unfold DictEntry.refKey
   rw [h3];exact Bool.false_ne_true
  dsimp only
  rw [this,← hv];rfl
theorem d7 {x d C:Addr} {made:Bool} {kvs:List (Str×Value)} (H:W prog w B g os σ s) (hx:(x,AObj.inst C d)∈σ) (hd:(d,ndict prog w made kvs)∈σ) :
  ∃ od kvs0,InstAt s.heap x (instObj C d) C (some od)∧NDict prog w made kvs0 od∧s.heap.get? d = some od∧kvs0.map (λ x=>(x.1,cv x.2)) = kvs:=by
 refine ac (H.get hd) λ od ho zh1=>?_;refine ac zh1 λ kvs0 D e=>?_;clear zh1
 exact (dK od kvs0 ⟨H.get hx,rfl,rfl,ho⟩ D ho e)
theorem cp {x d C:Addr} {made:Bool} {kvs:List (Str×Value)} {name:Str} {v:Value} {expr:Bool} (X:K.In B) (hok:bM K C name = true) (hx:(x,AObj.inst C d)∈σ) (hd:(d,ndict prog w made kvs)∈σ) (hv:valueAt kvs name = some v)
  (hh:handedIn v = true:=by rfl):Gv prog w A B g os σ (getAttr (.ref x) name expr) v:=by
 intro E s H
 refine cK (d7 H hx hd) λ od kvs0 I D zz hk=>?_
 subst hk
 rw [aD] at hv
 cases q:valueAt kvs0 name with
 | none=>rw [q] at hv;cases hv
 | some v0=>
  rw [q] at hv
  have e:cv v0 = v:=Option.some.inj hv
  exact get_value (X.keeps H.keep) I (plainGet_of (bs hok)).1 (dy hok (by rw [D.look,q])) (jn e hh) ⟨e,H.tok⟩
theorem eR {x C:Addr} {od:Obj} {name:Str} {a fg:Value} (hok:eB K C name a fg = true) (hl:lookIn name od = some none):findObj K C (some od) name = some (.bind fg a):=by
 simp only [eB,Bool.and_eq_true,beq_iff_eq,Bool.not_eq_true'] at hok
 refine bj λ GZ hGZ=>?_
 refine ae hok λ zh1 h6=>?_;clear hok;refine ae zh1 λ zh2 h5=>?_;clear zh1;refine ae zh2 λ zh3 h4=>?_;clear zh2;refine ae zh3 λ zh4 h3=>?_;clear zh3;refine ae zh4 λ h1 h2=>?_;clear zh4
 refine ac (any_some h2) λ cd hc hdd=>?_
 refine hGZ ?_
 have ho:W.ownOf cd (some od) name = some none:=by unfold W.ownOf;rw [if_pos hdd];exact hl
 unfold findObj
 rw [hc,Option.bind_some,h3,Option.bind_some]
 have hcn:¬ name∈copiedNames:=λ h=>by have:=List.contains_iff_mem.mpr h;rw [h6] at this;cases this
 simp [h4,h5,ho,hcn]
theorem ck {C:Addr} {name:Str} {a fg:Value} (hok:eB K C name a fg = true):plainGet K C name = true:=by
 simp only [eB,Bool.and_eq_true] at hok
 exact hok.1.1.1.1.1
theorem j6 {x d C:Addr} {made:Bool} {kvs:List (Str×Value)} {name:Str} {a fg:Value} {expr:Bool} (X:K.In B) (hok:eB K C name a fg = true) (H:W prog w B g os σ s) (hx:(x,AObj.inst C d)∈σ) (hd:(d,ndict prog w made kvs)∈σ) (hv:valueAt kvs name = none)
  (h:∀ E' s',W prog w B g os σ s'->wpAny (model prog w) A.in1 (call fg [a,.ref x,.ref C]) (λ v s'=>handedIn v = true∧Q v s') E' s'):wpAny (model prog w) A (getAttr (.ref x) name expr) Q E s:=by
 refine cK (d7 H hx hd) λ od kvs0 I D zz hk=>?_
 subst hk
 rw [aD,Option.map_eq_none_iff] at hv
 exact get_bind (g:=fg) (a:=a) (X.keeps H.keep) I (plainGet_of (ck hok)).1 (eR (x:=x) hok (by rw [D.look,hv])) (plainGet_of (ck hok)).2 (wpAny_mono (h _ _ H.tok) (λ v s' y=>by rw [handedOut_of y.1];exact wpAny_pure y.2) λ _ _ e=>e)
theorem oB {x d C:Addr} {made:Bool} {kvs:List (Str×Value)} {name:Str} {a fg:Value} {expr:Bool} (X:K.In B) (hok:eB K C name a fg = true) (H:W prog w B g os σ s) (hx:(x,AObj.inst C d)∈σ) (hd:(d,ndict prog w made kvs)∈σ) (hv:valueAt kvs name = none)
  (h:∀ E' s',W prog w B g os σ s'->wpF (model prog w) A.in1 (call fg [a,.ref x,.ref C]) (λ v s'=>handedIn v = true∧Q v s') E' s'):wpF (model prog w) A (getAttr (.ref x) name expr) Q E s:=by
 refine cK (d7 H hx hd) λ od kvs0 I D zz hk=>?_
 subst hk
 rw [aD,Option.map_eq_none_iff] at hv
 exact iO (g:=fg) (a:=a) (X.keeps H.keep) I (plainGet_of (ck hok)).1 (eR (x:=x) hok (by rw [D.look,hv])) (plainGet_of (ck hok)).2 (aL (h _ _ H.tok) (λ v s' y=>by rw [handedOut_of y.1];exact aN y.2) λ _ _ e=>e)
theorem fm {x d C fn:Addr} {made:Bool} {kvs:List (Str×Value)} {name:Str} {pl:Sem Bool} {Q:Value×List Value->Shared->Prop} (X:K.In B) (hok:bZ K C name fn = true) (H:W prog w B g os σ s) (hx:(x,AObj.inst C d)∈σ) (hd:(d,ndict prog w made kvs)∈σ) (hv:valueAt kvs name = none)
  (h:Q (.ref fn,[.ref x]) s):wpAny (model prog w) A (getMethod (.ref x) name pl) Q E s:=by
 refine cK (d7 H hx hd) λ od kvs0 I D zz hk=>?_
 subst hk
 rw [aD,Option.map_eq_none_iff] at hv
 simp only [bZ,Bool.and_eq_true,beq_iff_eq] at hok
 refine ae hok λ zh1 h3=>?_;clear hok;refine ae zh1 λ h1 h2=>?_;clear zh1
 exact method_fn (X.keeps H.keep) I (plainGet_of h1).1 (plainGet_of h1).2 h2 (beq_iff_eq.mp h3) (by show (lookIn name od).map _ = _;rw [D.look,hv];rfl) h
theorem qZ {d:Addr} {made:Bool} {kvs0:List (Str×Value)} {o:Obj} {k:Str} {t:Tok} {Q:Option Value->Shared->Prop} (D:NDict prog w made kvs0 o) (ho:s.heap.get? d = some o) (h:Q (valueAt kvs0 k) { s with toks:=s.toks + 1 }) :
  wpAny (model prog w) A (dictGet d (.str k t)) Q E s:=by
 obtain ⟨_,_,_,es,ep,hd,hk,hp,hn⟩:=D
 have hf:valueAt kvs0 k = (es.toList.find? λ e=>(strKind prog w).is k e.key).map (·.val):=(hp.find k).symm
 unfold dictGet
 try with_reducible refine wpAny_holding ?_
 refine wpAny_bind ((strKind prog w).pyHash (strKind_is prog w k t) (wpAny_bind (wpAny_dictFind_of (s:={ s with toks:=s.toks + 1 }) (strKind_is prog w k t) ho hd hk ?_)))
 have hfb:findBy (strKind prog w).is es k = valueAt kvs0 k:=by
  rw [hf];unfold findBy;obtain ⟨l⟩:=es;simp
 rw [← hfb,findBy_of_findIdx?] at h
 cases hi:es.findIdx? λ e=>(strKind prog w).is k e.key with
 | none=>rw [hi] at h;exact wpAny_pure h
 | some i=>rw [hi] at h;exact wpAny_bind (wpAny_dictEntries (s:={ s with toks:=s.toks + 1 }) ho hd (wpAny_pure h))
theorem nz {d:Addr} {made:Bool} {kvs:List (Str×Value)} {k:Str} {k0 d0 dv:Value} (H:W prog w B g os σ s) (hm:(d,ndict prog w made kvs)∈σ) (hk:cv k0 = .str k 0) (hd:cv d0 = dv)
  (h:∀ v s',cv v = (valueAt kvs k).getD dv->W prog w B g os σ s'->Q v s'):wpAny (model prog w) A (call (.builtin "dict.get") [.ref d,k0,d0]) Q E s:=by
 refine ac (H.get hm) λ o ho zh1=>?_;refine ac zh1 λ kvs0 D e=>?_;clear zh1
 refine ai (cW hk) λ t zh1=>?_;obtain rfl:=zh1
 refine wpAny_call_entry F.slot_dict_get (ad o ho D.cls) F.entry_dict_get ?_ (F.args_dict_get_3 _ _ _)
 show wpAny _ _ (dictGet d (.str k t) >>= _) _ _ s
 refine wpAny_bind (qZ D ho ?_)
 have hq:∀ v,valueAt kvs0 k = some v->Q v { s with toks:=s.toks + 1 }:=λ v hv=>h v _ (by rw [← e,aD,hv];rfl) H.tok
 cases hf:valueAt kvs0 k with
 | some v=>exact wpAny_pure (ad v rfl (hq v hf))
 | none=>
  show wpAny _ _ (Builtin.Dict.missed d (.str k t) >>= _) _ _ _
  exact wpAny_bind (wpAny_missed_other (H.ne_sys hm) (wpAny_pure (ad d0 rfl (h d0 _ (by rw [← e,aD,hf];exact hd) H.tok))))
end
section
open PySem PySem.W PyProof.Rows PySem.Builtin PySem.Builtin.ObjectAttr PySem.Builtin.Getset_descriptor
theorem ge:entryFor table "function.__dict__" = some Builtin.«function.__dict__»:=entryFor_of_tree (by kernel_rfl)
noncomputable def iL (K:Frag) (C p:Addr):Bool:=(match recIn K p "getset_descriptor" with
 | some [.str _ _,owner,.builtin gi,.builtin _]=>gi == "function.__dict__" && mroIn K C owner == some true
 | _=>false) && subIn K (.ref C) (.type "staticmethod") == some false && subIn K (.ref C) (.type "classmethod") == some false && hasDictIn K C
theorem iS {C p:Addr} (e:iL K C p = true):(∃ n t owner g2,recIn K p "getset_descriptor" = some [.str n t,owner,.builtin "function.__dict__",.builtin g2]∧mroIn K C owner = some true) ∧
  subIn K (.ref C) (.type "staticmethod") = some false∧subIn K (.ref C) (.type "classmethod") = some false∧hasDictIn K C = true:=by
 unfold iL at e
 simp only [Bool.and_eq_true,beq_iff_eq] at e
 refine ae e λ zh1 e4=>?_;clear e;refine ae zh1 λ zh2 e3=>?_;clear zh1;refine ae zh2 λ e1 e2=>?_;clear zh2
 refine (aQ ?_ e2 (aJ e3 e4))
 split at e1
 ·rename_i n t owner gi g2 h
  simp only [Bool.and_eq_true,beq_iff_eq] at e1
  revert e1;refine λ zq=>ae zq λ zh1 e1=>?_;clear zq;obtain rfl:=zh1
  exact (dO n t owner g2 h e1)
 ·cases e1
theorem qk {α:Type} {M:Model} {c:Prop} [Decidable c] {a b:Sem α} {Q:α->Shared->Prop} (h1:c->wpF M A a Q E s) (h2:¬c->wpF M A b Q E s):wpF M A (if c then a else b) Q E s:=by
 split
 ·exact h1 ‹_›
 ·exact h2 ‹_›
theorem oH {x d C:Addr} {od:Obj} {made:Bool} {kvs0:List (Str×Value)} {Q:Option Addr->Shared->Prop} (X:K.In s.heap) (I:InstAt s.heap x (instObj C d) C (some od)) (hh:hasDictIn K C = true) (D:NDict prog w made kvs0 od) (ho:s.heap.get? d = some od)
  (hth:∃ m,s.heap.Ns cStatics m∧m "_thread.count" = none)
  (h:Q (some d) { s with heap:=s.heap.update d λ o=>if o.slots.isEmpty then { o with slots:=#[none] } else o }):wpF (model prog w) A (instanceDictHandedOut x) Q E s:=by
 refine ac (any_some hh) λ cd hc hdd=>?_
 have hcl:Looks (model prog w) s.heap (classData C) cd:=looks_clsIn X hc
 unfold instanceDictHandedOut
 refine aj (m:=instanceDict x true) ?_
 unfold instanceDict
 refine wpAny_bind (wpAny_loadPart I.at_ ?_)
 dsimp only [instObj]
 refine wpAny_bind (hcl.here ?_)
 rw [hdd]
 refine wpAny_pure (a:=some d) ?_
 dsimp only
 refine aj (wpAny_loadPart I.at_ ?_)
 dsimp only [instObj]
 have fin:wpF (model prog w) A (update d (λ o=>if o.slots.isEmpty then { o with slots:=#[none] } else o) >>= λ _=>pure (some d)) Q E s:=aj (wpAny_update ho (aN h))
 refine aI ?_
 show wpF _ _ (load d >>= _) _ _ s
 refine aj (wpAny_load ho ?_)
 dsimp only
 refine qk (λ _=>aN fin) λ _=>?_
 ·refine aI (mr λ st hst=>?_)
  have hno:∀ (F:Code×Pos->Option (Option Value×List (Str×Value))),(∀ x,cC x.1 = false->F x = none)->List.findSome? F st = none:=λ F hF=>List.findSome?_eq_none_iff.mpr λ x hx=>hF x (hst x hx)
  rw [hno _ (λ x hx=>by
   split
   ·rename_i q
    rw [q] at hx;cases hx
   ·rfl)]
  refine ac hth λ m hm hc'=>?_;clear hth
  refine aj (wpAny_nsGet hm ?_)
  rw [hc']
  exact aN fin
theorem oO {x d C:Addr} {od:Obj} {kvs0:List (Str×Value)} {Q:Option Addr->Shared->Prop} (X:K.In s.heap) (I:InstAt s.heap x (instObj C d) C (some od)) (hh:hasDictIn K C = true) (D:NDict prog w true kvs0 od) (ho:s.heap.get? d = some od)
  (h:Q (some d) { s with heap:=s.heap.update d λ o=>if o.slots.isEmpty then { o with slots:=#[none] } else o }):wpAny (model prog w) A (instanceDictHandedOut x) Q E s:=by
 refine ac (any_some hh) λ cd hc hdd=>?_
 have hcl:Looks (model prog w) s.heap (classData C) cd:=looks_clsIn X hc
 unfold instanceDictHandedOut
 refine wpAny_bind (m:=instanceDict x true) ?_
 unfold instanceDict
 refine wpAny_bind (wpAny_loadPart I.at_ ?_)
 dsimp only [instObj]
 refine wpAny_bind (hcl.here ?_)
 rw [hdd]
 refine wpAny_pure (a:=some d) ?_
 dsimp only
 refine wpAny_bind (wpAny_loadPart I.at_ ?_)
 dsimp only [instObj]
 have fin:wpAny (model prog w) A (update d (λ o=>if o.slots.isEmpty then { o with slots:=#[none] } else o) >>= λ _=>pure (some d)) Q E s:=wpAny_bind (wpAny_update ho (wpAny_pure h))
 refine wpAny_bind ?_
 show wpAny _ _ (load d >>= _) _ _ s
 refine wpAny_bind (wpAny_load ho ?_)
 dsimp only
 have hs:od.slots = #[none]:=D.slots
 rw [if_pos (by rw [hs];rfl)]
 exact wpAny_pure fin
theorem fY {x C p:Addr} {ox:Obj} {od:Option Obj} {owner:Value} {rest:List Value} {nm:Str} {t:Tok} {Q:Unit->Shared->Prop} (X:K.In s.heap) (I:InstAt s.heap x ox C od) (hr:recIn K p "getset_descriptor" = some (.str nm t :: owner :: rest)) (hm:mroIn K C owner = some true) (h:Q () s) :
  wpAny (model prog w) A (descrCheckInstance (.ref p) (.ref x)) Q E s:=by
 refine c6 (rec_of X hr) λ d sl ho=>?_
 obtain ⟨hh,g,dr,tk,os⟩:=s
 have L0:=I.type (M:=model prog w)
 have L1:=looks_mroIn (M:=model prog w) X hm
 dsimp only at ho L0 L1
 have f0:=looks_field (M:=model prog w) ho 0 (v:=.str nm t) rfl
 have f1:=looks_field (M:=model prog w) ho 1 (v:=owner) rfl
 unfold descrCheckInstance descrNameAndClass isInstance
 repeat lk
 exact h
theorem gP {x C:Addr} {ox:Obj} {od:Option Obj} {Q:Bool->Shared->Prop} (X:K.In s.heap) (I:InstAt s.heap x ox C od) (h1:subIn K (.ref C) (.type "staticmethod") = some false) (h2:subIn K (.ref C) (.type "classmethod") = some false) (h:Q false s) :
  wpAny (model prog w) A (isInstance (.ref x) (.type "staticmethod")<||> isInstance (.ref x) (.type "classmethod")) Q E s:=by
 have L0:=I.type (M:=model prog w)
 have L1:=looks_subIn (M:=model prog w) X h1
 have L2:=looks_subIn (M:=model prog w) X h2
 unfold orM isInstance
 refine wpAny_bind (wpAny_bind (L0.here (L1.here ?_)))
 exact wpAny_bind (L0.here (L2.here h))
theorem kW {d:Addr} {od:Obj} {made:Bool} {kvs0:List (Str×Value)} (H:W prog w B g os σ s) (D:NDict prog w made kvs0 od) (ho:s.heap.get? d = some od) {kvs:List (Str×Value)} (u:Up d (ndict prog w made kvs) σ f) (hk:kvs0.map (λ x=>(x.1,cv x.2)) = kvs) {t:Nat} :
  W prog w B g os (f (ndict prog w true kvs)) { s with heap:=s.heap.update d λ o=>if o.slots.isEmpty then { o with slots:=#[none] } else o,toks:=t }:=by
 refine bC D.data λ es ep hd r=>?_
 have hdd:∀ b:Bool,(if b = true then ({ od with slots:=#[none] }:Obj) else od).data = od.data:=by intro b;cases b <;> rfl
 refine H.upd (t:=t) u (Heap.SameBut.update ..).extBut (.dict ho hd) (ad _ (Heap.get?_update_self _ ho (Obj.isFreed_of_dict ((hdd _).trans hd))) (ad kvs0 ⟨?_,?_,?_,es,ep,(hdd _).trans hd,r⟩ hk))
 ·cases od.slots.isEmpty <;> exact D.cls
 ·cases od.slots.isEmpty <;> exact D.dict
 ·have:=D.slots
  cases made with
  | true=>rw [this];show (if (#[none]:Array (Option Value)).isEmpty = true then _ else od).slots = _;rw [if_neg (by decide)];exact this
  | false=>rw [this];rfl
theorem rA {x d C p:Addr} {made:Bool} {kvs:List (Str×Value)} {tp:Value} (X:K.In B) (hok:iL K C p = true) (hth:∃ m,B.Ns cStatics m∧m "_thread.count" = none) (H:W prog w B g os σ s) (hx:(x,AObj.inst C d)∈σ) (u:Up d (ndict prog w made kvs) σ f)
  (h:∀ s',W prog w B g os (f (ndict prog w true kvs)) s'->Q (.ref d) s'):wpF (model prog w) A (call (.builtin "getset_descriptor.__get__") [.ref p,.ref x,tp]) Q E s:=by
 refine bj λ GZ hGZ=>?_
 refine bP (iS hok) λ zh1 h1 zk0=>?_;refine ae zk0 λ h2 h3=>?_;clear zk0;refine eX zh1 λ n t owner g2 hr hm=>?_;clear zh1
 refine hGZ ?_
 have X':=X.keeps H.keep
 refine cK (d7 H hx u.mem) λ od kvs0 I D ho hk=>?_
 refine c6 (rec_of X' hr) λ dd sl hp=>?_
 refine eA (cg KF.slot_gs.plain KF.entry_gs rfl (KF.slot_gs.check _ _ _ _ _ _ _ _ (ad _ hp rfl) (KF.args_gs _ _ _) ?_))
 unfold Builtin.«getset_descriptor.__get__» descrGet
 rw [dga_obj]
 refine aj (wpAny_pure ?_)
 unfold descrGetter
 refine aj (fY X' I hr hm ?_)
 dsimp only
 refine aj ((looks_field (M:=model prog w) hp 2 (v:=.builtin "function.__dict__") rfl).here ?_)
 dsimp only
 refine aj (wpAny_rule ?_)
 have f5:Looks (model prog w) s.heap (descrItself (.ref p)) []:=((Looks.ld (part:=none) hp).andThen .now).andThen (Looks.of_pure (by kernel_rfl))
 refine aj (f5.here ?_)
 refine aN (aQ (Code.quiet_builtin _ (by decide +kernel)) rfl (eg ge ?_))
 unfold Builtin.«function.__dict__»
 dsimp only
 refine aj (gP X' I h1 h2 ?_)
 rw [if_neg Bool.false_ne_true]
 refine ac hth λ m hm1 hm2=>?_;clear hth
 refine aI (oH X' I h3 D ho (ad m (hm1.keeps H.keep) hm2) ?_)
 exact aN (h _ (kW H D ho u hk))
theorem rH {x d C p:Addr} {kvs:List (Str×Value)} {tp:Value} (X:K.In B) (hok:iL K C p = true) (H:W prog w B g os σ s) (hx:(x,AObj.inst C d)∈σ) (u:Up d (ndict prog w true kvs) σ f)
  (h:∀ s',W prog w B g os (f (ndict prog w true kvs)) s'->Q (.ref d) s'):wpAny (model prog w) A (call (.builtin "getset_descriptor.__get__") [.ref p,.ref x,tp]) Q E s:=by
 refine bj λ GZ hGZ=>?_
 refine bP (iS hok) λ zh1 h1 zk0=>?_;refine ae zk0 λ h2 h3=>?_;clear zk0;refine eX zh1 λ n t owner g2 hr hm=>?_;clear zh1
 refine hGZ ?_
 have X':=X.keeps H.keep
 refine cK (d7 H hx u.mem) λ od kvs0 I D ho hk=>?_
 refine c6 (rec_of X' hr) λ dd sl hp=>?_
 refine wpAny_call (codeAny_call_builtin KF.slot_gs.plain KF.entry_gs (KF.slot_gs.check _ _ _ _ _ _ _ _ (ad _ hp rfl) (KF.args_gs _ _ _) ?_))
 unfold Builtin.«getset_descriptor.__get__» descrGet
 rw [dga_obj]
 refine wpAny_bind (wpAny_pure ?_)
 unfold descrGetter
 refine wpAny_bind (fY X' I hr hm ?_)
 dsimp only
 refine wpAny_bind ((looks_field (M:=model prog w) hp 2 (v:=.builtin "function.__dict__") rfl).here ?_)
 dsimp only
 refine wpAny_bind (wpAny_rule ?_)
 have f5:Looks (model prog w) s.heap (descrItself (.ref p)) []:=((Looks.ld (part:=none) hp).andThen .now).andThen (Looks.of_pure (by kernel_rfl))
 refine wpAny_bind (f5.here ?_)
 refine wpAny_pure ⟨Code.quiet_builtin _ (by decide +kernel),codeAny_builtin ge ?_⟩
 unfold Builtin.«function.__dict__»
 dsimp only
 refine wpAny_bind (gP X' I h1 h2 ?_)
 rw [if_neg Bool.false_ne_true]
 refine wpAny_bind (oO X' I h3 D ho ?_)
 exact wpAny_pure (h _ (kW H D ho u hk))
theorem pc {d:Addr} {made:Bool} {kvs:List (Str×Value)} {k:Str} {k0 v0 v:Value} {Q:Unit->Shared->Prop} (H:W prog w B g os σ s) (u:Up d (ndict prog w made kvs) σ f) (hk:cv k0 = .str k 0) (hv:cv v0 = v) (hz:kvs.length≤1000)
  (h:∀ s',W prog w B g os (f (ndict prog w made (stored kvs k v))) s'->Q () s'):wpAny (model prog w) A (setItem (.ref d) k0 v0) Q E s:=by
 refine ac (H.get u.mem) λ o ho zh1=>?_;refine ac zh1 λ kvs0 D e=>?_;clear zh1
 refine ai (cW hk) λ t zh1=>?_;obtain rfl:=zh1
 have hT:s.TypeIs (.ref d) "dict":=(ad o ho D.cls)
 have D':=D
 obtain ⟨hcl,hdi,hsl,es,ep,hd,hks,hp,hn⟩:=D
 have hkey:=strKind_is prog w k t
 have hes:es.size≤sizeLine:=by
  have e1:=hp.length
  have e2:es.toList.length = es.size:=by simp
  rw [← e,List.length_map] at hz
  rw [sizeLine_eq];walk_at "r"
 unfold setItem
 try with_reducible refine wpAny_holding ?_
 refine wpAny_bind (wpAny_sequenceKey hT (by decide) ?_)
 refine wpAny_bind (wpAny_callSpecial?_slot (name:=Str.ofString "__setitem__") hT slot_dict_setitem
  (wpAny_call_entry slot_dict_setitem hT entry_dict_setitem ?_ (args_dict_setitem _ _ _)))
 show wpAny _ _ (Builtin.Dict.notOrdered "__setitem__" ⟨[.ref d,.str k t,v0],[]⟩ >>= _) _ _ s
 refine wpAny_bind (wpAny_notOrdered_dict hT ?_)
 show wpAny _ _ (dictSet d (.str k t) v0 >>= _) _ _ s
 refine wpAny_bind ?_
 unfold dictSet
 try with_reducible refine wpAny_holding ?_
 refine wpAny_bind ((strKind prog w).pyHash hkey ?_)
 unfold dictSetHashed
 try with_reducible refine wpAny_holding ?_
 refine wpAny_bind (wpAny_dictFind_of (s:={ s with toks:=s.toks + 1 }) hkey ho hd hks ?_)
 have hidx:(es.findIdx? λ e=>(strKind prog w).is k e.key) = kvs0.findIdx? λ kv=>decide (kv.1 = k):=by
  rw [← hp.findIdx k];obtain ⟨l⟩:=es;simp
 have fin:∀ o' t',NDict prog w made (stored kvs0 k v0) o'->o'.isFreed = false->∀ F:Obj->Obj,F o = o'->W prog w B g os (f (ndict prog w made (stored kvs k v))) { s with heap:=s.heap.update d F,toks:=t' }:=by
  intro o' t' D' hf F hF
  refine H.upd (t:=t') u (Heap.SameBut.update ..).extBut (.dict ho hd) (ad o' ?_ (ad _ D' (by rw [dB,e,hv])))
  rw [Heap.get?_update_self F ho (by rw [hF];exact hf),hF]
 have hmc:∀ F,(o.mapDict F).cls = o.cls∧(o.mapDict F).dict = o.dict∧(o.mapDict F).slots = o.slots:=by
  intro F;obtain ⟨c,dd,dt,sl⟩:=o;cases dt <;> exact (aQ rfl rfl rfl)
 have hmk:∀ F,(o.mapDictKeys F).cls = o.cls∧(o.mapDictKeys F).dict = o.dict∧(o.mapDictKeys F).slots = o.slots:=by
  intro F;obtain ⟨c,dd,dt,sl⟩:=o;cases dt <;> exact (aQ rfl rfl rfl)
 cases hi:es.findIdx? λ e=>(strKind prog w).is k e.key with
 | some i=>
  refine wpAny_bind (wpAny_rule (wpAny_bind (wpAny_updateDict (s:={ s with toks:=s.toks + 1 }) ho hd (wpAny_point (wpAny_pure (ad .none rfl (wpAny_pure (h _ (fin _ _ ⟨(hmc _).1.trans hcl,(hmc _).2.1.trans hdi,(hmc _).2.2.trans hsl,_,ep,Obj.data_mapDict hd _,hks.modify _ _,?_,?_⟩ (Obj.isFreed_of_dict (Obj.data_mapDict hd _)) _ rfl)))))))))
  ·rw [stored,if_pos (any_of_findIdx_some (hidx▸hi))]
   have hl:(es.toList.findIdx? λ e=>(strKind prog w).is k e.key) = some i:=by rw [← hi];obtain ⟨l⟩:=es;simp
   have:=hp.modify hn hl v0
   obtain ⟨l⟩:=es
   simpa using this
  ·rw [stored,if_pos (any_of_findIdx_some (hidx▸hi)),keys_map_store];exact hn
 | none=>
  have hnot:k∉kvs0.map (·.1):=not_mem_of_findIdx_none (hidx▸hi)
  have hany:¬ (kvs0.any λ kv=>decide (kv.1 = k)) = true:=by
   rw [List.any_eq_true];intro zr;refine ac zr λ kv hkv he=>?_;clear zr
   exact hnot (List.mem_map.mpr (ad kv hkv (of_decide_eq_true he)))
  refine wpAny_bind (wpAny_rule (wpAny_updateDictKeys (hz:=hes) (s:={ s with toks:=s.toks + 1 }) ho hd (wpAny_pure (ad .none rfl (wpAny_pure (h _ (fin _ _ ⟨(hmk _).1.trans hcl,(hmk _).2.1.trans hdi,(hmk _).2.2.trans hsl,_,ep + 1,Obj.data_mapDictKeys hd _,hks.push hkey _,?_,?_⟩ (Obj.isFreed_of_dict (Obj.data_mapDictKeys hd _)) _ rfl)))))))
  ·rw [stored,if_neg hany]
   have:=hp.append hkey ((strKind prog w).hash k) v0
   obtain ⟨l⟩:=es
   simpa using this
  ·rw [stored,if_neg hany,List.map_append,List.nodup_append]
   refine (aQ hn (by simp) ?_)
   intro a ha b hb
   simp only [List.map_cons,List.map_nil,List.mem_singleton] at hb
   subst hb
   exact λ e=>hnot (e▸ha)
end
local macro_rules | `(tactic| walk_at "l")=>`(tactic| first | exact Up.head | exact Pick.head | exact List.Mem.head _ | (apply Up.tail;walk_at "l") | (apply Pick.tail;walk_at "l") | (refine List.Mem.tail _ ?_;walk_at "l") | (apply Up.app;walk_at "l") | (refine List.mem_append_right _ ?_;walk_at "l") | (apply Pick.app;walk_at "l"))
noncomputable def frM (fd:FuncData) (binds:List (Str×Value)) (L a:Addr):Str->Option Value:=λ x=>(bindL (callEnvC fd L a).kindOf binds (λ _=>none) x).map cv
theorem aH {fd:FuncData} {binds:List (Str×Value)} {L a:Addr} (h:cellsFrom (L + 1) fd.scope.names [] = []):dY fd binds L a = [(L,.frame (frM fd binds L a))]:=by
 unfold dY frM
 have:(callEnvC fd L a).cells = []:=h
 rw [this];rfl
theorem kTy (P:Params):(mv (Z0.K P) 951 "graph_attr_dict_factory" "dict" && mv (Z0.K P) 951 "node_dict_factory" "dict" && mv (Z0.K P) 951 "adjlist_outer_dict_factory" "dict") = true:=by kernel_rfl
theorem r9 (P:Params):(fE (Z0.K P) 951 "graph" && fE (Z0.K P) 951 "_node" && fE (Z0.K P) 951 "_adj" && fE (Z0.K P) 951 "_pred" && fE (Z0.K P) 951 "_succ") = true:=by kernel_rfl
theorem kMk (P:Params):(makesIn (Z0.K P) 951 && findIn (Z0.K P) (.ref 951) "__init__" == some (some (.ref 805)) && typeIn (Z0.K P) (.ref 805) == some (.type "function")) = true:=by kernel_rfl
theorem rY (P:Params):(bM (Z0.K P) 951 "_adj" && bM (Z0.K P) 951 "graph") = true:=by kernel_rfl
section
variable {w:World} {A:Around} {env:Env} {K:Frag}
variable {B:Heap} {g:List (Nat×GenState)} {os:OsState} {σ:List (Addr×AObj)} {E:Value->Shared->Prop} {s:Shared} {f:AObj->List (Addr×AObj)}
theorem cI {v:Str} {attr name:Str} {p1 p2 p3 p4 p5 p6:Pos} {rest:List Stmt} {x d C:Addr} {m:Str->Option Value} {kvs:List (Str×Value)} {pl:Sem Bool} {Q:Flow->Shared->Prop} (X:K.In B) (hok:mv K C name "dict" = true) (hset:fE K C attr = true)
  (H:W prog w B g os σ s) (hm:(env.locals,AObj.frame m)∈σ) (hv:m v = some (.ref x)) (hx:(x,AObj.inst C d)∈σ) (u:Up d (.sdict kvs) σ f) (hn:valueAt kvs name = none) (hz:kvs.length≤100)
  (h:∀ D s',W prog w B g os ((D,.sdict []) :: f (.sdict (stored kvs attr (.ref D)))) s'->wpAny (model prog w) A (execs rest env) Q E s')
  (hl:env.kindOf v = some .local:=by rfl) (hk:env.scope.kind = .function:=by rfl) (hd:(v == ("__debug__":Str)) = false:=by decide)
  (hs:swapsWith (.Call (.Attribute (.Name v p1) name p2) [] [] p3) (some (.Attribute (.Name v p4) attr p5)) p6.line env = pure false:=by rfl)
  (he:eval (.Call (.Attribute (.Name v p1) name p2) [] [] p3) env = (do
   let ov ← eval (.Name v p1) env
   standAt p2.atName
   let (f,first) ← holding [ov] (getMethod ov name pl)
   callWith p3 f first (backTo p3 (starEach [] env)) (backToKw p3 (keywordEach [] env))):=by rfl) :
  wpAny (model prog w) A (execs (.Assign [.Attribute (.Name v p4) attr p5] (.Call (.Attribute (.Name v p1) name p2) [] [] p3) p6 :: rest) env) Q E s:=by
 refine dS (ax H (aa hm hv hl hk hd) (λ o0 s1 e1 H₁=>?_) he) hs
 cases ak e1
 refine my X hok bA df H₁ hx u.mem hn λ s2 H₂=>eQ (jo H₂ λ D s3 H₃=>?_)
 refine (aa (.tail _ hm) hv hl hk hd).use H₃<|au λ s4 H₄=>?_
 exact eU X hset H₄ (.tail _ hx) (.tail u) rfl (by walk_at "r") λ s5 H₅=>h D s5 H₅
end
section
variable {w:World} {A:Around}
variable {B:Heap} {g:List (Nat×GenState)} {os:OsState} {σ:List (Addr×AObj)} {E:Value->Shared->Prop} {s:Shared}
theorem mq (H:W prog w B g os σ s) (R:Rm A 2 12) (X:(Z0.K w.params).In B) (hlim:B.NoLimit)
  (h:∀ net d gd nd sd pd s',W prog w B g os ((net,.inst 951 d) :: (d,.sdict [("graph",.ref gd),("_node",.ref nd),("_adj",.ref sd),("_pred",.ref pd),("_succ",.ref sd)]) :: (gd,.sdict []) :: (nd,.sdict []) :: (sd,.sdict []) :: (pd,.sdict []) :: σ) s'->Q (.ref net) s') :
  wpAny (model prog w) A (call (.ref 951) []) Q E s:=by
 refine an3 (kMk w.params) λ k1a k1b k1c=>?_
 replace k1b:=beq_iff_eq.mp k1b
 replace k1c:=beq_iff_eq.mp k1c
 refine an3 (kTy w.params) λ k2a k2b k2c=>?_
 refine an5 (r9 w.params) λ k3a k3b k3c k3d k3e=>?_
 refine an2 (rY w.params) λ k4a k4b=>?_
 refine jE (d:=1) (u:=6) H R X k1a k1b k1c λ A' x dx s1 R' H₁=>?_
 refine fR (cl:=λ D L=>[(L,.frame (frM _ _ L 805))]) H₁ R' X hlim ⟨(bk _ _ _ rfl),by kernel_rfl,rfl⟩ (nB X rfl rfl rfl rfl rfl) rfl (λ D L=>aH rfl) ?_ ?_ ?_
 ·intro E' D L s2 H₂ R₂
  refine bN R₂ λ A R₂=>?_
  refine cI X k2a k3a H₂ (by walk_at "l") rfl (by walk_at "l") (by walk_at "l") rfl (Nat.le_of_ble_eq_true rfl) λ gd s3 H₃=>?_
  refine cI X k2b k3b H₃ (by walk_at "l") rfl (by walk_at "l") (by walk_at "l") rfl (Nat.le_of_ble_eq_true rfl) λ nd s4 H₄=>?_
  refine cI X k2c k3c H₄ (by walk_at "l") rfl (by walk_at "l") (by walk_at "l") rfl (Nat.le_of_ble_eq_true rfl) λ sd s5 H₅=>?_
  refine cI X k2c k3d H₅ (by walk_at "l") rfl (by walk_at "l") (by walk_at "l") rfl (Nat.le_of_ble_eq_true rfl) λ pd s₆ H₆=>?_
  refine dS ((aF (aa (by walk_at "l") rfl)<|dL<|bQ X k4a (by walk_at "l") (by walk_at "l") rfl).use H₆ λ v0 s7 e7 H₇=>?_)
  refine (aa (by walk_at "l") rfl).use H₇<|au λ s8 H₈=>?_
  refine eU X k3e H₈ (by walk_at "l") (by walk_at "l") e7 (Nat.le_of_ble_eq_true rfl) λ s9 H₉=>?_
  refine d9 H₉ (aT (aa (by walk_at "l") rfl) bH λ a0 b0 ea eb=>by cases ce ea;exact ib rfl eb rfl) (λ q=>by cases q) λ _ s10 H10=>?_
  refine ay ?_
  refine cQ (ax H10 (aF (aa (by walk_at "l") rfl)<|dL<|bQ X k4b (by walk_at "l") (by walk_at "l") rfl)<|au λ s11 H11=>?_)
  refine ac (H11.get (show (gd,AObj.sdict [])∈_ by walk_at "l")) λ kv hD zz=>?_
  refine dP hD F.slot_dict_update F.type_dict_update (cw1 (ab H11 (aa (by walk_at "l") rfl) λ a0 s12 ea H12=>ah ⟨az,?_⟩))
  cases ak ea
  have hne:gd≠D:=by
   have:=H12.nd
   simp only [List.map_cons,List.map_nil,List.map_append,List.nodup_cons,List.mem_cons,List.mem_append,List.cons_append,List.nil_append,not_or] at this
   exact this.2.2.2.1.2.1
  refine fG H12 (by walk_at "l") (by walk_at "l") hne (Nat.le_of_ble_eq_true rfl) λ s13 H13=>⟨rfl,ay ⟨rfl,?_⟩⟩
  refine h x dx gd nd sd pd _ ?_
  exact (((((((((((H13.pick (a:=L) (by walk_at "l")).drop).pick (a:=D) (by walk_at "l")).drop).pick (a:=pd) (by walk_at "l")).pick (a:=sd) (by walk_at "l")).pick (a:=nd) (by walk_at "l")).pick (a:=gd) (by walk_at "l"))).pick (a:=dx) (by walk_at "l")).pick (a:=x) (by walk_at "l"))
 ·intro D L x hx
  exact .inl (by revert x;exact locs rfl)
 ·intro L;exact List.nodup_nil
end
set_option maxHeartbeats 2000000
structure GA where
 net:Addr
 d:Addr
 gd:Addr
 nd:Addr
 sd:Addr
 pd:Addr
 sA:Int->Addr
 pA:Int->Addr
 nA:Int->Addr
noncomputable def GA.base (a:GA):List (Str×Value):=[("graph",.ref a.gd),("_node",.ref a.nd),("_adj",.ref a.sd),("_pred",.ref a.pd),("_succ",.ref a.sd)]
noncomputable def GA.six (a:GA) (kvs:List (Str×Value)) (ns:List Int):Led :=
 [(a.net,.inst 951 a.d),(a.d,.sdict kvs),(a.gd,.sdict []),(a.nd,.idict (ns.map λ n=>(n,.ref (a.nA n)))),(a.sd,.idict (ns.map λ n=>(n,.ref (a.sA n)))),(a.pd,.idict (ns.map λ n=>(n,.ref (a.pA n))))]
noncomputable def GA.per (a:GA) (ns:List Int) (su pr:Int->List (Int×Value)):Led :=
 ns.map (λ n=>(a.nA n,.sdict []))++(ns.map (λ n=>(a.sA n,.idict (su n)))++ns.map (λ n=>(a.pA n,.idict (pr n))))
noncomputable def GA.at_ (a:GA) (n:Int) (x y z:Addr):GA:={ a with sA:=λ m=>if m = n then x else a.sA m,pA:=λ m=>if m = n then y else a.pA m,nA:=λ m=>if m = n then z else a.nA m }
theorem GA.six_at {a:GA} {kvs:List (Str×Value)} {ns:List Int} {n:Int} {x y z:Addr} (h:n∉ns) :
  (a.at_ n x y z).six kvs (ns++[n]) = [(a.net,.inst 951 a.d),(a.d,.sdict kvs),(a.gd,.sdict []),(a.nd,.idict (ns.map (λ n=>(n,.ref (a.nA n)))++[(n,.ref z)])),(a.sd,.idict (ns.map (λ n=>(n,.ref (a.sA n)))++[(n,.ref x)])),(a.pd,.idict (ns.map (λ n=>(n,.ref (a.pA n)))++[(n,.ref y)]))]:=by
 have e:∀ F:Int->Addr,∀ q,(ns++[n]).map (λ m=>(m,Value.ref (if m = n then q else F m))) = ns.map (λ m=>(m,.ref (F m)))++[(n,.ref q)]:=by
  intro F q
  rw [List.map_append,List.map_cons,List.map_nil,if_pos rfl]
  congr 1
  exact List.map_congr_left λ m hm=>by rw [if_neg (show ¬ m = n from λ e=>h (e▸hm))]
 unfold six at_
 simp only [e]
theorem GA.per_at {a:GA} {ns:List Int} {su pr:Int->List (Int×Value)} {n:Int} {x y z:Addr} (h:n∉ns):((z,AObj.sdict []) :: (x,.idict (su n)) :: (y,.idict (pr n)) :: a.per ns su pr).Perm ((a.at_ n x y z).per (ns++[n]) su pr):=by
 have e:∀ (F:Int->Addr) (o:Int->AObj) q,(ns++[n]).map (λ m=>((if m = n then q else F m),o m)) = ns.map (λ m=>(F m,o m))++[(q,o n)]:=by
  intro F o q
  rw [List.map_append,List.map_cons,List.map_nil,if_pos rfl]
  congr 1
  exact List.map_congr_left λ m hm=>by rw [if_neg (show ¬ m = n from λ e=>h (e▸hm))]
 unfold per at_
 simp only [e a.nA λ _=>AObj.sdict [],e a.sA λ m=>.idict (su m),e a.pA λ m=>.idict (pr m)]
 generalize ns.map (λ m=>(a.nA m,AObj.sdict [])) = M1
 generalize ns.map (λ m=>(a.sA m,AObj.idict (su m))) = M2
 generalize ns.map (λ m=>(a.pA m,AObj.idict (pr m))) = M3
 generalize (z,AObj.sdict []) = p
 generalize (x,AObj.idict (su n)) = q
 generalize (y,AObj.idict (pr n)) = r
 have h1:(M1++[p])++((M2++[q])++(M3++[r])) = M1++(p :: (M2++(q :: (M3++[r])))):=by simp
 rw [h1]
 refine List.Perm.trans ?_ List.perm_middle.symm
 refine List.Perm.cons _ ?_
 have h2:M1++(M2++q :: (M3++[r])) = (M1++M2)++q :: (M3++[r]):=by simp
 rw [h2]
 refine List.Perm.trans ?_ List.perm_middle.symm
 refine List.Perm.cons _ ?_
 have h3:M1++M2++(M3++[r]) = (M1++(M2++M3))++[r]:=by simp
 rw [h3]
 exact (List.perm_append_singleton _ _).symm
theorem oP {p q r:Addr×AObj} {H τ per' σ μ:Led} (h:(p :: q :: r :: τ).Perm per'):(p :: q :: r :: (H++((τ++σ)++μ))).Perm (μ++(H++(per'++σ))):=by
 have h1:p :: q :: r :: (H++((τ++σ)++μ)) = [p,q,r]++(H++(τ++(σ++μ))):=by simp
 rw [h1]
 refine (List.perm_append_comm_assoc ..).trans ?_
 have h2:H++([p,q,r]++(τ++(σ++μ))) = H++((p :: q :: r :: τ)++(σ++μ)):=by simp
 rw [h2]
 refine ((h.append_right _).append_left H).trans ?_
 have h3:H++(per'++(σ++μ)) = (H++(per'++σ))++μ:=by simp
 rw [h3]
 exact List.perm_append_comm
theorem kAN (P:Params):(bZ (Z0.K P) 951 "add_nodes_from" 849 && bM (Z0.K P) 951 "_node" && bM (Z0.K P) 951 "_succ" && bM (Z0.K P) 951 "_pred"
 && mv (Z0.K P) 951 "adjlist_inner_dict_factory" "dict" && mv (Z0.K P) 951 "node_attr_dict_factory" "dict" && mv (Z0.K P) 951 "edge_attr_dict_factory" "dict") = true:=by kernel_rfl
theorem na {a:GA} {r:Addr} {many:Nat} (hmany:many≤100) (H:W prog w B g os ((r,bB 0 many) :: (a.six a.base []++σ)) s) (R:Rm A 2 12) (X:(Z0.K w.params).In B) (hlim:B.NoLimit)
  (h:∀ x y z s',W prog w B g os (GA.six { a with sA:=x,pA:=y,nA:=z } a.base ((List.range many).map λ (k:Nat)=>(k:Int))++(GA.per { a with sA:=x,pA:=y,nA:=z } ((List.range many).map λ (k:Nat)=>(k:Int)) (λ _=>[]) (λ _=>[])++σ)) s'->Q .none s') :
  wpAny (model prog w) A (call (.ref 849) [.ref a.net,.ref r]) Q E s:=by
 refine an7 (kAN w.params) λ _ k1b k1c k1d k1e k1f _=>?_
 generalize hall:((List.range many).map λ (k:Nat)=>(k:Int)) = all at h
 have hnd:all.Nodup:=by
  rw [← hall]
  exact List.Pairwise.map _ (λ a b hab e=>hab (by exact_mod_cast e)) List.nodup_range
 have hlen:all.length≤100:=by rw [← hall];simpa using hmany
 refine aO (args:=⟨[_,_],[]⟩) (d:=1) (u:=9) (cl:=λ D L=>[(L,.frame (frM _ _ L 849))]) H R X hlim ⟨(bk _ _ _ rfl),by kernel_rfl,rfl⟩ (j7 rfl) rfl (λ D L=>aH rfl) ?_ ?_ ?_
 ·intro E' D L s2 H₂ R₂
  refine bN R₂ λ A R₂=>?_
  refine lj (C:=Unit) (B:=B) (os:=os) (ρ:=λ _=>[]) (tg:=aM) (d:=1) (u:=9) (λ xs o γo=>γo = g∧∃ m x y z ns ys,xs = ys.map (λ n=>one (.int n 0))∧ns++ys = all ∧
   m ("self":Str) = some (.ref a.net)∧m ("attr":Str) = some (.ref D) ∧
   o = (L,.frame m) :: (D,.sdict []) :: (GA.six { a with sA:=x,pA:=y,nA:=z } a.base ns++(GA.per { a with sA:=x,pA:=y,nA:=z } ns (λ _=>[]) (λ _=>[])++σ))) trivial R₂ ?_ ?_ ?_
  ·refine (aa (by walk_at "l") rfl).use H₂<|au λ s3 H₃=>?_
   refine cN H₃ (by walk_at "l") (by decide) (by walk_at "r") (by walk_at "r") λ I s4 H₄=>?_
   have H₅:=((H₄.pick (a:=r) (by walk_at "l")).drop)
   refine (lh I _ _ [] () _ g rfl (bn _ 0) (aJ rfl (lJ (frM _ _ L 849) a.sA a.pA a.nA [] all ?_ rfl rfl rfl rfl)) H₅)
   rw [← hall,List.map_map]
   refine congrArg (λ n=>List.map _ (List.range n)) (show ((many:Int) - 0).toNat = many by walk_at "r") |>.trans ?_
   refine List.map_congr_left λ k _=>?_
   simp
  ·intro xq xs μ γ o γo c v ν s E' zr;refine ae zr λ zh1 zh2=>?_;clear zr;obtain rfl:=zh1;refine iM zh2 λ m x y z ns ys e1 e2 m1 m2 zh3=>?_;clear zh2;obtain rfl:=zh3;intro hxv H
   cases ys with
   | nil=>cases e1
   | cons n ys=>
   rw [List.map_cons,List.cons.injEq] at e1
   refine ae e1 λ zh1 zh2=>?_;clear e1;obtain rfl:=zh1;obtain rfl:=zh2
   refine ae hxv λ hv zh1=>?_;clear hxv;obtain rfl:=zh1
   have hnn:n∉ns:=by
    intro hm
    rw [← e2,List.nodup_append] at hnd
    exact hnd.2.2 n hm n (.head _) rfl
   have hnl:ns.length≤100:=by rw [← e2,List.length_append] at hlen;walk_at "r"
   generalize hτ:GA.per { a with sA:=x,pA:=y,nA:=z } ns (λ _=>[]) (λ _=>[]) = τ at H
   have H1:W prog w B (γ++γo) os ((L,.frame m) :: (D,.sdict []) :: (a.net,.inst 951 a.d) :: (a.d,.sdict a.base) :: (a.gd,.sdict []) :: (a.nd,.idict (ns.map λ n=>(n,.ref (z n)))) :: (a.sd,.idict (ns.map λ n=>(n,.ref (x n)))) :: (a.pd,.idict (ns.map λ n=>(n,.ref (y n)))) :: ((τ++σ)++μ)) s:=H.perm (by
    refine (List.perm_append_comm (l₁:=μ)).trans ?_
    simp [GA.six])
   have hin:∀ F:Int->Value,valueAt (ns.map λ n=>(n,F n)) n = none:=λ F=>by rw [a8,if_neg hnn]
   have hmap:∀ F:Int->Value,(ns.map λ n=>(n,F n)).length≤1000:=λ F=>by rw [List.length_map];walk_at "r"
   obtain ⟨kz,hz⟩:∃ k,k = ns.map (λ n=>(n,Value.ref (z n))):=⟨_,rfl⟩
   obtain ⟨kx,hx⟩:∃ k,k = ns.map (λ n=>(n,Value.ref (x n))):=⟨_,rfl⟩
   obtain ⟨ky,hy⟩:∃ k,k = ns.map (λ n=>(n,Value.ref (y n))):=⟨_,rfl⟩
   obtain ⟨ω,hω⟩:∃ k,k = (τ++σ)++μ:=⟨_,rfl⟩
   rw [← hz,← hx,← hy,← hω] at H1
   have iz:valueAt kz n = none:=hz▸hin _
   have ix:valueAt kx n = none:=hx▸hin _
   have iy:valueAt ky n = none:=hy▸hin _
   have lz:kz.length≤1000:=hz▸hmap _
   have lx:kx.length≤1000:=hx▸hmap _
   have ly:ky.length≤1000:=hy▸hmap _
   refine jy λ Q' hQ=>?_
   refine aG (al H1 (by walk_at "l") hv λ s3 H3=>?_)
   refine iK λ E''=>?_
   refine qu H3 ?_
   apply nM
   ·intro h s3 H3
    exact bh (v:=.bool true) H3 (ki (aa (by walk_at "l") rfl) (aF (aa (by walk_at "l") (by exact m1))<|dL<|bQ X k1b (by walk_at "l") (by walk_at "l") rfl) λ a0 b0 ea eb=>by rw [show true = !(valueAt kz n).isSome by rw [iz];rfl];exact cn (by walk_at "l") ea eb) (by walk_at "l") h
   apply nM
   ·intro h s4 H4
    refine bh H4 (aa (by walk_at "l") (by exact m2)) (by walk_at "l") λ s5 H5=>ay ?_
    exact d9 (b:=true) H5 (aS (v:=.bool true) (aa (by walk_at "l") rfl) λ v0 e=>cf e) (λ _=>h) (λ q=>by cases q)
   apply nM
   ·intro h s₆ H6
    exact d9 H6 (aT (aa (by walk_at "l") rfl) bH λ a0 b0 ea eb=>by refine ai (ap ea) λ zz zh1=>?_;obtain rfl:=zh1;exact a9 rfl eb rfl) (λ q=>by cases q) (λ _=>h)
   apply nM
   ·intro h s7 H7
    refine ay ?_
    refine eD (ax H7 (aa (by walk_at "l") (by exact m1))<|au λ s8 H8=>?_)
    exact my X k1e bA df H8 (by walk_at "l") (by walk_at "l") rfl λ s9 H9=>eQ (jo H9 h)
   intro D1
   apply nM
   ·intro h s10 H10
    refine (aF (aa (by walk_at "l") (by exact m1))<|dL<|bQ X k1c (by walk_at "l") (by walk_at "l") rfl).use H10<|au λ s11 H11=>?_
    refine (aa (by walk_at "l") rfl).use H11 λ i0 s12 e12 H12=>?_
    exact bT H12 (by walk_at "l") e12 rfl lx h
   apply nM
   ·intro h s13 H13
    rw [aA ix] at H13
    refine eD (ax H13 (aa (by walk_at "l") (by exact m1))<|au λ s8 H8=>?_)
    exact my X k1e bA df H8 (by walk_at "l") (by walk_at "l") rfl λ s9 H9=>eQ (jo H9 h)
   intro D2
   apply nM
   ·intro h s10 H10
    refine (aF (aa (by walk_at "l") (by exact m1))<|dL<|bQ X k1d (by walk_at "l") (by walk_at "l") rfl).use H10<|au λ s11 H11=>?_
    refine (aa (by walk_at "l") rfl).use H11 λ i0 s12 e12 H12=>?_
    exact bT H12 (by walk_at "l") e12 rfl ly h
   apply nM
   ·intro h s13 H14
    rw [aA iy] at H14
    refine eD (ax H14 (aa (by walk_at "l") (by exact m1))<|au λ s8 H8=>?_)
    exact my X k1f bA df H8 (by walk_at "l") (by walk_at "l") rfl λ s9 H9=>eQ (jo H9 h)
   intro D3
   apply nM
   ·intro h s10 H10
    refine (aF (aa (by walk_at "l") (by exact m1))<|dL<|bQ X k1b (by walk_at "l") (by walk_at "l") rfl).use H10<|au λ s11 H11=>?_
    refine (aa (by walk_at "l") rfl).use H11 λ i0 s12 e12 H12=>?_
    exact bT H12 (by walk_at "l") e12 rfl lz h
   intro s13 H15
   rw [aA iz] at H15
   refine ay ?_
   have hlast:valueAt (kz++[(n,Value.ref D3)]) n = some (.ref D3):=by
    have h1:=iz
    unfold valueAt at h1 ⊢
    rw [Option.map_eq_none_iff] at h1
    rw [List.find?_append,h1];simp
   refine cQ (ax H15 (cH (aF (aa (by walk_at "l") (by exact m1))<|dL<|bQ X k1b (by walk_at "l") (by walk_at "l") rfl) (aa (by walk_at "l") rfl) (by walk_at "l") hlast)<|au λ s11 H16=>?_)
   refine ac (H16.get (show (D3,AObj.sdict [])∈_ by walk_at "l")) λ kv hD zz=>?_
   refine dP hD F.slot_dict_update F.type_dict_update (cw1 (ab H16 (aa (by walk_at "l") rfl) λ a0 s12 ea H17=>ah ⟨az,?_⟩))
   cases ak ea
   have hne:D3≠D:=H17.ne .head (by walk_at "l")
   refine fG H17 (by walk_at "l") (by walk_at "l") hne (Nat.le_of_ble_eq_true rfl) λ s13 H18=>⟨rfl,ay (hQ _ _ ⟨.inl rfl,?_⟩)⟩
   have H19:=W.idict0 (a:=D1) H18 (by walk_at "l")
   have H20:=W.idict0 (a:=D2) H19 (by walk_at "l")
   have H21:=((H20.pick (a:=D2) (by walk_at "l")).pick (a:=D1) (by walk_at "l")).pick (a:=D3) (by walk_at "l")
   rw [hz,hx,hy,hω] at H21
   have e6:=GA.six_at (a:={ a with sA:=x,pA:=y,nA:=z }) (kvs:=a.base) (x:=D1) (y:=D2) (z:=D3) hnn
   have e7:=GA.per_at (a:={ a with sA:=x,pA:=y,nA:=z }) (su:=λ _=>[]) (pr:=λ _=>[]) (x:=D1) (y:=D2) (z:=D3) hnn
   refine (cc () _ γo (aJ rfl (lJ ?mm (λ m=>if m = n then D1 else x m) (λ m=>if m = n then D2 else y m) (λ m=>if m = n then D3 else z m) (ns++[n]) ys rfl (by rw [List.append_assoc];exact e2) ?q1 ?q2 rfl)) ?ww)
   case ww=>
    refine H21.perm ?_
    show List.Perm _ (μ++((L,_) :: (D,_) :: (GA.six (GA.at_ { a with sA:=x,pA:=y,nA:=z } n D1 D2 D3) a.base (ns++[n])++(GA.per (GA.at_ { a with sA:=x,pA:=y,nA:=z } n D1 D2 D3) (ns++[n]) (λ _=>[]) (λ _=>[])++σ))))
    rw [e6]
    rw [hτ] at e7
    exact oP (H:=[_,_,_,_,_,_,_,_]) (τ:=τ) (σ:=σ) (μ:=μ) e7
   case q1=>exact m1
   case q2=>exact m2
  ·intro o γo c s zr;refine ae zr λ zh1 zh2=>?_;clear zr;obtain rfl:=zh1;refine iM zh2 λ m x y z ns ys e1 e2 m1 m2 zh3=>?_;clear zh2;obtain rfl:=zh3;intro H
   have:ys = []:=by cases ys with | nil=>rfl | cons=>cases e1
   subst this
   rw [List.append_nil] at e2
   subst e2
   exact ay (h x y z _ (H.drop.drop))
 ·intro D L x hx
  exact .inl (by revert x;exact locs rfl)
 ·intro L;exact List.nodup_nil
local macro_rules | `(tactic| walk_at "a")=>`(tactic| first | exact Up.head | exact Pick.head | exact List.Mem.head _ | assumption | (apply Up.tail;walk_at "a") | (apply Pick.tail;walk_at "a") | (refine List.Mem.tail _ ?_;walk_at "a") | (apply Up.app;walk_at "a") | (refine List.mem_append_right _ ?_;walk_at "a") | (apply Pick.app;walk_at "a"))
theorem cV {α:Type} {e:α} {X Y H T:List α} (h1:X = e :: (H++T)) (h2:Y = H++e :: T):X.Perm Y:=by
 subst h1 h2;exact List.perm_middle.symm
theorem iY {e:Addr×AObj} {μ X σ:Led}:(μ++([e]++(X++σ))).Perm (X++(σ++(e :: μ))):=by
 refine (List.perm_append_comm (l₁:=μ)).trans ?_
 have h1:[e]++(X++σ)++μ = e :: ((X++σ)++μ):=by simp
 have h2:X++(σ++(e :: μ)) = (X++σ)++e :: μ:=by simp
 rw [h1,h2];exact List.perm_middle.symm
theorem rF {α:Type} {a b c d e:α} {r:List α}:(e :: a :: b :: c :: d :: r).Perm (a :: b :: c :: d :: e :: r) :=
 (cV (H:=[a,b,c,d]) rfl rfl)
noncomputable def bList:List (Str×Value):=[("len",.builtin "len"),("range",.type "range"),("list",.type "list"),("sorted",.builtin "sorted"),("max",.builtin "max"),("sum",.builtin "sum"),("zip",.type "zip"),("iter",.builtin "iter"),("hasattr",.builtin "hasattr")]
noncomputable def gList:List (Str×Value):=[("DiGraph",.ref 951),("dag_longest_path",.ref 96),("dag_longest_path_length",.ref 104),("topological_generations",.ref 83),("topological_sort",.ref 90),("pairwise",.ref 78),("AtlasView",.ref 158),("AdjacencyView",.ref 180),("_NOT_FOUND",.ref 535),("InDegreeView",.ref 359)]
structure TE (w:World) (B:Heap) (mg mb:Str->Option Value):Prop where
 X:(Z0.K w.params).In B
 lim:B.NoLimit
 g:B.Ns mainGlobals mg
 b:B.Ns builtinsNs mb
 nb:∀ p∈bList,mg p.1 = none∧mb p.1 = some p.2
 ng:∀ p∈gList,mg p.1 = some p.2
theorem TE.boot (T:TE w B mg mb) {x:Str} {v:Value} {p:Pos} (h:(x,v)∈bList) (hx:env.kindOf x = some .globalImplicit:=by rfl) (hk:env.scope.kind = .function:=by rfl) (he:env.globals = mainGlobals:=by rfl) (heb:env.builtins = builtinsNs:=by rfl)
  (hd:(x == ("__debug__":Str)) = false:=by decide) (hc:cv v = v:=by rfl):Gv prog w A B g os σ (eval (.Name x p) env) v:=pz T.g (T.nb _ h).1 T.b (T.nb _ h).2 hc hx hk he heb hd
theorem TE.glob (T:TE w B mg mb) {x:Str} {v:Value} {p:Pos} (h:(x,v)∈gList) (hx:env.kindOf x = some .globalImplicit:=by rfl) (hk:env.scope.kind = .function:=by rfl) (he:env.globals = mainGlobals:=by rfl)
  (hd:(x == ("__debug__":Str)) = false:=by decide) (hc:cv v = v:=by rfl):Gv prog w A B g os σ (eval (.Name x p) env) v:=pY T.g (T.ng _ h) hc hx hk he hd
theorem add_edge {a:GA} {l t dd:Addr} {p q:Int} {ns:List Int} {su pr:Int->List (Int×Value)} {attrs:List (Str×Value)} (hnd:ns.Nodup) (hns:ns.length≤100) (hp:p∈ns) (hq:q∈ns)
  (hs1:valueAt (su p) q = none) (hs2:valueAt (pr q) p = none) (hz1:(su p).length≤100) (hz2:(pr q).length≤100) (hat:merged [] attrs = attrs) (hza:attrs.length≤100)
  (H:W prog w B g os ((l,.list [.ref t]) :: (t,.tup [.int p 0,.int q 0,.ref dd]) :: (dd,.sdict attrs) :: (a.six a.base ns++(a.per ns su pr++σ))) s) (R:Rm A 2 12) (T:TE w B mg mb)
  (h:∀ D s',W prog w B g os ((D,.sdict attrs) :: (a.six a.base ns++(a.per ns (λ n=>if n = p then su p++[(q,.ref D)] else su n) (λ n=>if n = q then pr q++[(p,.ref D)] else pr n)++σ))) s'->Q .none s') :
  wpAny (model prog w) A (call (.ref 870) [.ref a.net,.ref l]) Q E s:=by
 have X:=T.X
 refine an7 (kAN w.params) λ _ _ k1c k1d _ _ k1g=>?_
 refine an2 (rY w.params) λ k4a _=>?_
 have hmem:∀ (F:Int->Value) n,n∈ns->valueAt (ns.map λ n=>(n,F n)) n = some (F n):=λ F n hn=>by rw [a8,if_pos hn]
 refine ac (oT (F:=λ n=>(a.sA n,AObj.idict (su n))) hnd hp rfl) λ fM1 uM1 eM1=>?_
 refine ac (oT (F:=λ n=>(a.pA n,AObj.idict (pr n))) hnd hq rfl) λ fM2 uM2 eM2=>?_
 refine aO (args:=⟨[_,_],[]⟩) (d:=1) (u:=9) (cl:=λ D L=>[(L,.frame (frM _ _ L 870))]) H R X T.lim ⟨(bk _ _ _ rfl),by kernel_rfl,rfl⟩ (j7 rfl) rfl (λ D L=>aH rfl) ?_ ?_ ?_
 ·intro E' D L s2 H₂ R₂
  refine bN R₂ λ A R₂=>?_
  refine lj (C:=Unit) (B:=B) (os:=os) (ρ:=λ _=>[(l,.list [.ref t])]) (tg:=aM) (d:=1) (u:=9) (λ xs o γo=>γo = g∧∃ m,m ("self":Str) = some (.ref a.net)∧m ("attr":Str) = some (.ref D) ∧
   ((xs = [one (.ref t)]∧o = (L,.frame m) :: (D,.sdict []) :: (t,.tup [.int p 0,.int q 0,.ref dd]) :: (dd,.sdict attrs) :: (a.six a.base ns++(a.per ns su pr++σ))) ∨
    (xs = []∧∃ D',o = (L,.frame m) :: (D,.sdict []) :: (t,.tup [.int p 0,.int q 0,.ref dd]) :: (dd,.sdict attrs) :: (D',.sdict attrs) :: (a.six a.base ns++(a.per ns (λ n=>if n = p then su p++[(q,.ref D')] else su n) (λ n=>if n = q then pr q++[(p,.ref D')] else pr n)++σ))))) trivial R₂ ?_ ?_ ?_
  ·refine (aa (by walk_at "a") rfl).use H₂<|au λ s3 H₃=>?_
   refine dw H₃ (by walk_at "a") λ I s4 H₄=>?_
   refine (lh I _ _ [] () _ g rfl (bG (vs:=[.ref t]) (λ _=>.head _) [.ref t] 0 rfl) (aJ rfl (bl ?mm ?q1 ?q2 (.inl ⟨rfl,rfl⟩))) ?ww)
   case ww=>exact ((H₄.pick (a:=l) (by walk_at "a")).pick (a:=I) (by walk_at "a"))
   case q1=>rfl
   case q2=>rfl
  ·intro xq xs μ γ o γo c v ν s E' hJ hxv H
   refine jy λ Q' hQ=>?_
   refine ae hJ λ zh1 zh2=>?_;clear hJ;obtain rfl:=zh1;refine aU zh2 λ m m1 m2 zh3=>?_;clear zh2;obtain (⟨e1,rfl⟩ | ⟨e1,_⟩):=zh3
   case inr=>cases e1
   refine ae (List.cons.inj e1) λ zh1 zh2=>?_;obtain rfl:=zh1;obtain rfl:=zh2
   refine ae hxv λ hv zh1=>?_;clear hxv;obtain rfl:=zh1
   have H1:W prog w B (γ++γo) os ((L,.frame m) :: (D,.sdict []) :: (t,.tup [.int p 0,.int q 0,.ref dd]) :: (dd,.sdict attrs) :: (a.six a.base ns++(a.per ns su pr++(σ++((l,.list [.ref t]) :: μ))))) s:=H.perm (by
    have:=iY (e:=(l,.list [.ref t])) (μ:=μ) (X:=(L,.frame m) :: (D,.sdict []) :: (t,.tup [.int p 0,.int q 0,.ref dd]) :: (dd,.sdict attrs) :: (a.six a.base ns++a.per ns su pr)) (σ:=σ)
    simp only [List.cons_append,List.nil_append,List.append_assoc] at this ⊢
    exact this)
   obtain ⟨ω,hω⟩:∃ k,k = σ++((l,.list [.ref t]) :: μ):=⟨_,rfl⟩
   rw [← hω] at H1
   have hpm:(a.sA p,AObj.idict (su p))∈a.per ns su pr:=List.mem_append_right _ (List.mem_append_left _ (List.mem_map.mpr (ad p hp rfl)))
   obtain ⟨τ,hτ⟩:∃ k,k = a.per ns su pr++ω:=⟨_,rfl⟩
   rw [← hτ] at H1
   have hpm':(a.sA p,AObj.idict (su p))∈τ:=hτ▸List.mem_append_left _ hpm
   have y1:(a.net,AObj.inst 951 a.d)∈a.six a.base ns:=.head _
   have y2:(a.d,AObj.sdict a.base)∈a.six a.base ns:=.tail _ (.head _)
   have y3:(a.nd,AObj.idict (ns.map λ n=>(n,Value.ref (a.nA n))))∈a.six a.base ns:=.tail _ (.tail _ (.tail _ (.head _)))
   have y4:(a.sd,AObj.idict (ns.map λ n=>(n,Value.ref (a.sA n))))∈a.six a.base ns:=.tail _ (.tail _ (.tail _ (.tail _ (.head _))))
   have y5:(a.pd,AObj.idict (ns.map λ n=>(n,Value.ref (a.pA n))))∈a.six a.base ns:=.tail _ (.tail _ (.tail _ (.tail _ (.tail _ (.head _)))))
   obtain ⟨ξ,hξ⟩:∃ k,k = a.six a.base ns++τ:=⟨_,rfl⟩
   rw [← hξ] at H1
   replace y1:(a.net,AObj.inst 951 a.d)∈ξ:=hξ▸List.mem_append_left _ y1
   replace y2:(a.d,AObj.sdict a.base)∈ξ:=hξ▸List.mem_append_left _ y2
   replace y3:(a.nd,AObj.idict (ns.map λ n=>(n,Value.ref (a.nA n))))∈ξ:=hξ▸List.mem_append_left _ y3
   replace y4:(a.sd,AObj.idict (ns.map λ n=>(n,Value.ref (a.sA n))))∈ξ:=hξ▸List.mem_append_left _ y4
   replace y5:(a.pd,AObj.idict (ns.map λ n=>(n,Value.ref (a.pA n))))∈ξ:=hξ▸List.mem_append_left _ y5
   have y6:(a.sA p,AObj.idict (su p))∈ξ:=hξ▸List.mem_append_right _ hpm'
   refine aG (al H1 (by walk_at "a") hv λ s3 H3=>?_)
   refine bh H3 (dJ (T.boot (by decide)) (aa (by walk_at "a") rfl) λ v0 e=>pZ (by walk_at "a") e (Nat.le_of_ble_eq_true rfl)) (by walk_at "a") λ s4 H4=>?_
   refine d9 (b:=true) H4 (aT (aa (by walk_at "a") rfl) aC λ a0 b0 ea eb=>jX ea eb) (λ _ s5 H5=>?_) (λ q=>by cases q)
   refine iU ((aa (by walk_at "a") rfl).use H5<|au λ s₆ H6=>?_)
   refine nP R₂.hd H6 (by walk_at "a") (by walk_at "a") (λ v=>by walk_at "a") λ s7 H7=>ay ?_
   refine d9 (b:=false) H7 (aT (aa (by walk_at "a") rfl) (aF (aa (by walk_at "a") (by exact m1))<|dL<|bQ X k1c (by walk_at "a") (by walk_at "a") rfl) λ a0 b0 ea eb=>by
    rw [show false = !(valueAt (ns.map λ n=>(n,Value.ref (a.sA n))) p).isSome by rw [hmem _ _ hp];rfl];exact cn (by walk_at "a") ea eb) (λ q=>by cases q) (λ _ s8 H8=>ay ?_)
   refine d9 (b:=false) H8 (aT (aa (by walk_at "a") rfl) (aF (aa (by walk_at "a") (by exact m1))<|dL<|bQ X k1c (by walk_at "a") (by walk_at "a") rfl) λ a0 b0 ea eb=>by
    rw [show false = !(valueAt (ns.map λ n=>(n,Value.ref (a.sA n))) q).isSome by rw [hmem _ _ hq];rfl];exact cn (by walk_at "a") ea eb) (λ q=>by cases q) (λ _ s9 H9=>ay ?_)
   refine aB (ax H9 (cH (aF (aa (by walk_at "a") (by exact m1))<|dL<|bQ X k4a (by walk_at "a") (by walk_at "a") rfl) (aa (by walk_at "a") rfl) (by walk_at "a") (hmem _ _ hp))<|au λ s10 H10=>?_)
   refine ac (H10.get (show (a.sA p,AObj.idict (su p))∈_ by walk_at "a")) λ kv hD hkv=>?_
   refine dP hD F.slot_dict_get F.type_dict_get (cw1 (ab H10 (aa (by walk_at "a") rfl) λ a0 s11 ea H11=>?_))
   refine be (ax H11 (aa (by walk_at "a") (by exact m1))<|au λ s12 H12=>?_)
   refine my X k1g bA df H12 (by walk_at "a") (by walk_at "a") rfl λ s13 H13=>eQ (jo H13 λ D' s14 H14=>ah ⟨az,?_⟩)
   refine pI H14 (by walk_at "a") ea rfl λ v0 s15 e15 H15=>?_
   rw [hs1] at e15
   cases ak e15
   refine al H15 (by walk_at "a") rfl λ s16 H16=>?_
   refine cQ (ax H16 (aa (by walk_at "a") rfl)<|au λ s11 H17=>?_)
   refine ac (H17.get (show (D',AObj.sdict [])∈_ by walk_at "a")) λ kv' hD' zz=>?_
   refine dP hD' F.slot_dict_update F.type_dict_update (cw1 (ab H17 (aa (by walk_at "a") (by exact m2)) λ a0 s12 ea H18=>ah ⟨az,?_⟩))
   cases ak ea
   refine fG H18 (by walk_at "a") (by walk_at "a") (H18.ne .head (by walk_at "a")) (Nat.le_of_ble_eq_true rfl) λ s13 H19=>⟨rfl,?_⟩
   refine cQ (ax H19 (aa (by walk_at "a") rfl)<|au λ s11 H20=>?_)
   refine ac (H20.get (show (D',AObj.sdict (merged [] []))∈_ by walk_at "a")) λ kv' hD' zz=>?_
   refine dP hD' F.slot_dict_update F.type_dict_update (cw1 (ab H20 (aa (by walk_at "a") rfl) λ a0 s12 ea H21=>ah ⟨az,?_⟩))
   cases ak ea
   refine fG (more:=attrs) H21 (by walk_at "a") (by walk_at "a") (H21.ne .head (by walk_at "a")) (by show 0 + attrs.length≤1000;walk_at "r") λ s13 H22=>⟨rfl,?_⟩
   rw [show merged (merged [] []) attrs = attrs from hat] at H22
   refine eD ((aa (by walk_at "a") rfl).use H22 λ v1 s23 e23 H23=>?_)
   refine (cH (aF (aa (by walk_at "a") (by exact m1))<|dL<|bQ X k1c (by walk_at "a") (by walk_at "a") rfl) (aa (by walk_at "a") rfl) (by walk_at "a") (hmem _ _ hp)).use H23<|au λ s24 H24=>?_
   refine (aa (by walk_at "a") rfl).use H24 λ i0 s25 e25 H25=>?_
   rw [hξ,hτ] at H25
   refine bT H25 (.tail (.tail (.tail (.tail (.tail (.app (.appL (.app (.appL uM1))))))))) e25 e23 (by walk_at "r") λ s26 H26=>?_
   rw [eM1 _ (λ n=>(a.sA n,AObj.idict (if n = p then su p++[(q,.ref D')] else su n))) (by rw [if_pos rfl,aA hs1];rfl) (λ m _ hm=>by rw [if_neg hm])] at H26
   obtain ⟨τ',hτ'⟩:∃ k,k = a.per ns (λ n=>if n = p then su p++[(q,.ref D')] else su n) pr++ω:=⟨_,rfl⟩
   obtain ⟨ξ',hξ'⟩:∃ k,k = a.six a.base ns++τ':=⟨_,rfl⟩
   replace H26:W prog w B (γ++γo) os (_ :: _ :: _ :: _ :: _ :: (a.six a.base ns++(a.per ns (λ n=>if n = p then su p++[(q,.ref D')] else su n) pr++ω))) _:=H26
   rw [← hτ',← hξ'] at H26
   replace y1:(a.net,AObj.inst 951 a.d)∈ξ':=hξ'▸List.mem_append_left _ (.head _)
   replace y2:(a.d,AObj.sdict a.base)∈ξ':=hξ'▸List.mem_append_left _ (.tail _ (.head _))
   replace y5:(a.pd,AObj.idict (ns.map λ n=>(n,Value.ref (a.pA n))))∈ξ':=hξ'▸List.mem_append_left _ (.tail _ (.tail _ (.tail _ (.tail _ (.tail _ (.head _))))))
   refine eD ((aa (by walk_at "a") rfl).use H26 λ v1 s23 e23 H27=>?_)
   refine (cH (aF (aa (by walk_at "a") (by exact m1))<|dL<|bQ X k1d (by walk_at "a") (by walk_at "a") rfl) (aa (by walk_at "a") rfl) (by walk_at "a") (hmem _ _ hq)).use H27<|au λ s24 H28=>?_
   refine (aa (by walk_at "a") rfl).use H28 λ i0 s25 e25 H29=>?_
   rw [hξ',hτ'] at H29
   refine bT H29 (.tail (.tail (.tail (.tail (.tail (.app (.appL (.app (.app uM2))))))))) e25 e23 (by walk_at "r") λ s26 H30=>?_
   rw [eM2 _ (λ n=>(a.pA n,AObj.idict (if n = q then pr q++[(p,.ref D')] else pr n))) (by rw [if_pos rfl,aA hs2];rfl) (λ m _ hm=>by rw [if_neg hm])] at H30
   rw [hω] at H30
   refine ay (hQ _ _ (aJ (.inl rfl) (cc () _ γo (aJ rfl (bl ?m9 ?r1 ?r2 (.inr (aJ rfl (c5 D' rfl))))) ?w9)))
   case w9=>
    refine H30.perm ?_
    have h1:=(iY (e:=(l,.list [.ref t])) (μ:=μ) (X:=(L,.frame ?m9) :: (D,.sdict []) :: (t,.tup [.int p 0,.int q 0,.ref dd]) :: (dd,.sdict attrs) :: (D',.sdict attrs) :: (a.six a.base ns++a.per ns (λ n=>if n = p then su p++[(q,.ref D')] else su n) (λ n=>if n = q then pr q++[(p,.ref D')] else pr n))) (σ:=σ)).symm
    simp only [GA.per,List.cons_append,List.nil_append,List.append_assoc] at h1 ⊢
    refine List.Perm.trans ?_ h1
    exact rF
   case r1=>exact m1
   case r2=>exact m2
  ·rintro o γo c s ⟨rfl,m,m1,m2,⟨e1,rfl⟩ | ⟨e1,D',rfl⟩⟩ H
   case inl=>cases e1
   have H5:W prog w B γo os ((l,.list [.ref t]) :: (L,.frame m) :: (D,.sdict []) :: (t,.tup [.int p 0,.int q 0,.ref dd]) :: (dd,.sdict attrs) :: (D',.sdict attrs) :: (a.six a.base ns++(a.per ns (λ n=>if n = p then su p++[(q,.ref D')] else su n) (λ n=>if n = q then pr q++[(p,.ref D')] else pr n)++σ))) s:=H
   exact ay (h D' _ H5.drop.drop.drop.drop.drop)
 ·intro D L x hx
  exact .inl (by revert x;exact locs rfl)
 ·intro L;exact List.nodup_nil
noncomputable def gN (K:Frag) (p C:Addr) (name:Str) (P:Value->Bool):Bool:=match K.lookup p with
 | some o=>o.cls == .ref C && notCls o && plainGet K C name && (match o.dict with
  | some dp=>(match K.lookup dp with
   | some od=>(match findObj K C (some od) name with
    | some (.value v)=>P v && handedIn v
    | _=>false)
   | none=>false)
  | none=>false)
 | none=>false
section
variable {w:World} {A:Around} {env:Env} {K:Frag}
variable {B:Heap} {g:List (Nat×GenState)} {os:OsState} {σ:List (Addr×AObj)} {E:Value->Shared->Prop} {s:Shared} {f:AObj->List (Addr×AObj)}
theorem mR {p C:Addr} {name:Str} {P:Value->Bool} (e:gN K p C name P = true) (X:K.In s.heap):∃ o od v,InstAt s.heap p o C (some od)∧plainGet K C name = true∧findObj K C (some od) name = some (.value v)∧P v = true∧handedIn v = true:=by
 unfold gN at e
 split at e
 ·rename_i o ho
  simp only [Bool.and_eq_true,beq_iff_eq] at e
  refine ae e λ zh1 e4=>?_;clear e;refine ae zh1 λ zh2 e3=>?_;clear zh1;refine ae zh2 λ e1 e2=>?_;clear zh2
  split at e4
  ·rename_i dp hdp
   split at e4
   ·rename_i od hod
    split at e4
    ·rename_i v hv
     simp only [Bool.and_eq_true] at e4
     exact (eE o od v ⟨X _ _ ho,e1,e2,by rw [hdp];exact X _ _ hod⟩ e3 hv e4.1 e4.2)
    ·cases e4
   ·cases e4
  ·cases e4
 ·cases e
theorem fe {p C:Addr} {name nm:Str} {expr:Bool} (X:K.In B) (e:gN K p C name (λ v=>match v with | .str x _=>x == nm | _=>false) = true):Gv prog w A B g os σ (getAttr (.ref p) name expr) (.str nm 0):=λ E s H=>by
 refine dQ (mR (s:=s) e (X.keeps H.keep)) λ o od v I h1 h2 h3 h4=>?_
 refine get_value (X.keeps H.keep) I (plainGet_of h1).1 h2 h4 ⟨?_,H.tok⟩
 cases v <;> first | cases h3 | skip
 have:=beq_iff_eq.mp h3
 subst this;rfl
theorem nv {p C fn:Addr} {name:Str} {pl:Sem Bool} {Q:Value×List Value->Shared->Prop} (X:K.In B) (e:gN K p C name (λ v=>v == .ref fn) = true) (hf:findIn K (.ref C) name = some none) (H:W prog w B g os σ s)
  (h:∀ s',W prog w B g os σ s'->Q (.ref fn,[]) s'):wpAny (model prog w) A (getMethod (.ref p) name pl) Q E s:=by
 refine dQ (mR (s:=s) e (X.keeps H.keep)) λ o od v I h1 h2 h3 h4=>?_
 have h3:=beq_iff_eq.mp h3
 subst h3
 exact method_usual (X.keeps H.keep) I (plainGet_of h1).1 (plainGet_of h1).2 hf rfl (get_value (X.keeps H.keep) I (plainGet_of h1).1 h2 h4 (h _ H.tok))
theorem ii {d u:Nat} {a:Addr} {fd:FuncData} {body:List Stmt} {args:Args} {bd:Addr->List (Str×Value)} {kl:Addr->Led} {cl:Addr->Addr->Led} {R:Result->Shared->Prop} (H:W prog w B g os σ s) (hR:Rm A (d + 1) (u + 3)) (X:K.In B) (hlim:B.NoLimit)
  (F:FnIn K a fd body) (hbind:iZ prog w A.in1 B g os σ fd args bd kl) (hclo:fd.closure = [])
  (hcl:∀ D L,dY fd (bd D) L a = cl D L)
  (h:∀ E' D L s',W prog w B g os (cl D L++(kl D++σ)) s'->Rm (A.deeper (callEnvC fd L a)) d u ->
   wpF (model prog w) (A.deeper (callEnvC fd L a)) (execs body (callEnvC fd L a)) (λ f s''=>R (.ok (.ret (match f with | .ret v=>v | _=>.none))) s'') E' s')
  (hloc:∀ D L,∀ x∈bd D,fd.scope.names.lookup x.1 = some .local∨(fd.scope.names.lookup x.1 = some .cell∧((cellsFrom (L + 1) fd.scope.names []).lookup x.1).isSome = true))
  (hnd:∀ L,((callEnvC fd L a).cells.map (·.1)).Nodup)
  (hco:fd.scope.isCoroutine = false:=by rfl) (hgen:fd.scope.isGenerator = false:=by rfl) (hk:fd.scope.kind = .function:=by rfl) :
  cR (model prog w) A (.call (.ref a) args) R s:=by
 refine cw F.ho λ oc od osl ho=>?_
 refine dZ hR.room (H.keep _ _ (X _ _ ho)) rfl hco hgen F.hbody (codeRec_of (X.keeps H.keep) F.hcd) ?_
 refine hbind _ _ s H λ D s1 H₁=>?_
 rw [hclo]
 refine wpAny_newFunctionEnv_cells hk (hloc D _) λ env he s' x=>?_
 subst he
 exact ⟨(hlim.keeps H₁.keep).keeps x.toInCall.keep,lf (aL (h (λ e s'=>wpF (model prog w) (A.deeper _) (leaving _ e) _ _ s') D _ s' (hcl _ _▸fK H₁ x (hnd _)) hR.deeper) (λ _ _ q=>q) λ _ _ q=>q)⟩
theorem b9 {st:Stmt} {rest:List Stmt} {Q:Flow->Shared->Prop} (h:∀ E',wpAny (model prog w) A (execs [st] env) (λ f s'=>f = .next∧wpF (model prog w) A (execs rest env) Q E s') E' s):wpF (model prog w) A (execs (st :: rest) env) Q E s:=by
 rw [fV]
 refine aj (wpAny_mono (h _) (λ f s' y=>?_) λ _ _ e=>e)
 revert y;refine λ zq=>ae zq λ zh1 y=>?_;clear zq;obtain rfl:=zh1
 exact y
theorem h7 {st:Stmt} {rest:List Stmt} {Q:Flow->Shared->Prop} (h:wpF (model prog w) A (exec st env) (λ f s'=>match f with | .next=>wpF (model prog w) A (execs rest env) Q E s' | f=>Q f s') E s):wpF (model prog w) A (execs (st :: rest) env) Q E s:=by
 show wpF _ _ (exec st env >>= _) Q E s
 refine aI (aL h (λ f s' y=>?_) λ _ _ e=>e)
 cases f <;> first | exact y | exact aN y
theorem qA {body rest:List Stmt} {h0:ExceptHandler} {hs:List ExceptHandler} {pos:Pos} {Q:Flow->Shared->Prop}
  (h:∀ E',wpF (model prog w) A (execs body env) (λ f s1=>match f with | .next=>wpF (model prog w) A (execs rest env) Q E s1 | f=>Q f s1) E' s):wpF (model prog w) A (execs (.Try body (h0 :: hs) [] [] pos :: rest) env) Q E s:=by
 refine h7 ?_
 rw [arm_exec_Try]
 refine aj (wpAny_standAt ?_)
 unfold tryStmt
 simp only [List.isEmpty_nil,if_true,List.isEmpty_cons,Bool.false_and,Bool.false_eq_true,if_false]
 refine aI (fZ (aL (h (λ e s1=>wpF (model prog w) A _ _ _ s1)) (λ f s1 h1=>?_) λ e s1 h1=>h1))
 cases f with
 | next=>
  show wpF (model prog w) A (execs [] env) _ E s1
  exact aN h1
 | _=>exact aN h1
theorem l4 {x:Str} {e:Expr} {p p':Pos} {rest:List Stmt} {Q:Flow->Shared->Prop}
  (h:wpF (model prog w) A (eval e env) (λ v s1=>wpAny (model prog w) A (storeName env x v) (λ _ s2=>wpF (model prog w) A (execs rest env) Q E s2) E s1) E s)
  (hs:swapsWith e (some (.Name x p)) p'.line env = pure false:=by rfl):wpF (model prog w) A (execs (.Assign [.Name x p] e p' :: rest) env) Q E s:=by
 refine h7 λ Γ q hΓ hF=>?_
 simp only [exec_Assign_Name env x p e p' hs,Sem.wp_bind',Sem.wp_cmd_standAt,Sem.wp_bindName,Sem.wp_pure']
 exact Sem.wp_mono _ Γ _ (λ v _ s1 h1=>h1 Γ _ hΓ) (λ _ _ _ h'=>h') _ _ (h Γ _ hΓ hF)
theorem nW {e:Expr} {attr:Str} {pos:Pos} {o:Value} (H:W prog w B g os σ s) (he:Gv prog w A B g os σ (eval e env) o) (ha:∀ o0 s',cv o0 = o->W prog w B g os σ s'->wpF (model prog w) A (getAttr o0 attr true) Q E s')
  (hs:eval (.Attribute e attr pos) env = (do
   let o ← eval e env
   standAt pos.atName
   let r ← holding [o] (getAttr o attr true)
   letTemporaryGo e o r
   pure r):=by rfl) (hl:∀ o r,letTemporaryGo e o r = pure ():=by intro _ _;rfl):wpF (model prog w) A (eval (.Attribute e attr pos) env) Q E s:=by
 rw [hs]
 refine aj (he.use H λ o0 s1 e1 H₁=>aj (wpAny_standAt (aI (bL (aL (ha o0 s1 e1 H₁) (λ r s2 q=>?_) λ _ _ e=>e)))))
 rw [hl]
 exact aj (wpAny_pure (aN q))
end
noncomputable def ja (K:Frag) (C:Addr) (name:Str) (a fg:Value):Bool:=plainGet K C name && isClsIn K C && findIn K (.ref C) name == some (some a) && specialIn K a "__get__" == some (some fg) && takesIn K a == some true
section
variable {w:World} {A:Around} {env:Env} {K:Frag}
variable {B:Heap} {g:List (Nat×GenState)} {os:OsState} {σ:List (Addr×AObj)} {E:Value->Shared->Prop} {s:Shared} {f:AObj->List (Addr×AObj)}
theorem oJ {x d C:Addr} {made:Bool} {kvs:List (Str×Value)} {name:Str} {a fg:Value} {expr:Bool} (X:K.In B) (hok:ja K C name a fg = true) (H:W prog w B g os σ s) (hx:(x,AObj.inst C d)∈σ) (hd:(d,ndict prog w made kvs)∈σ)
  (h:∀ E' s',W prog w B g os σ s'->wpF (model prog w) A.in1 (call fg [a,.ref x,.ref C]) (λ v s'=>handedIn v = true∧Q v s') E' s'):wpF (model prog w) A (getAttr (.ref x) name expr) Q E s:=by
 refine cK (d7 H hx hd) λ od kvs0 I D _ hk=>?_
 simp only [ja,Bool.and_eq_true,beq_iff_eq] at hok
 refine bj λ GZ hGZ=>?_
 refine ae hok λ zh1 h5=>?_;clear hok;refine ae zh1 λ zh2 h4=>?_;clear zh1;refine ae zh2 λ zh3 h3=>?_;clear zh2;refine ae zh3 λ h1 h2=>?_;clear zh3
 refine hGZ ?_
 exact iO (g:=fg) (a:=a) (X.keeps H.keep) I (plainGet_of h1).1 (findObj_data h2 h3 h4 h5) (plainGet_of h1).2 (aL (h _ _ H.tok) (λ v s' y=>by rw [handedOut_of y.1];exact aN y.2) λ _ _ e=>e)
theorem nR {x d C:Addr} {made:Bool} {kvs:List (Str×Value)} {name:Str} {a fg:Value} {expr:Bool} (X:K.In B) (hok:ja K C name a fg = true) (H:W prog w B g os σ s) (hx:(x,AObj.inst C d)∈σ) (hd:(d,ndict prog w made kvs)∈σ)
  (h:∀ E' s',W prog w B g os σ s'->wpAny (model prog w) A.in1 (call fg [a,.ref x,.ref C]) (λ v s'=>handedIn v = true∧Q v s') E' s'):wpAny (model prog w) A (getAttr (.ref x) name expr) Q E s:=by
 refine cK (d7 H hx hd) λ od kvs0 I D _ hk=>?_
 simp only [ja,Bool.and_eq_true,beq_iff_eq] at hok
 refine bj λ GZ hGZ=>?_
 refine ae hok λ zh1 h5=>?_;clear hok;refine ae zh1 λ zh2 h4=>?_;clear zh1;refine ae zh2 λ zh3 h3=>?_;clear zh2;refine ae zh3 λ h1 h2=>?_;clear zh3
 refine hGZ ?_
 exact get_bind (g:=fg) (a:=a) (X.keeps H.keep) I (plainGet_of h1).1 (findObj_data h2 h3 h4 h5) (plainGet_of h1).2 (wpAny_mono (h _ _ H.tok) (λ v s' y=>by rw [handedOut_of y.1];exact wpAny_pure y.2) λ _ _ e=>e)
end
noncomputable def cO (K:Frag) (p:Addr) (nm:Str) (fn:Addr):Bool :=
 gN K p 574 "attrname" (λ v=>match v with | .str x _=>x == nm | _=>false) && gN K p 574 "func" (λ v=>v == .ref fn) && findIn K (.ref 574) "func" == some none && keepIn K (.ref fn)
theorem qN (P:Params):(iL (Z0.K P) 951 783 && ja (Z0.K P) 951 "__dict__" (.ref 783) (.builtin "getset_descriptor.__get__")) = true:=by kernel_rfl
theorem kCp (P:Params):(cO (Z0.K P) 923 "in_degree" 921 && cO (Z0.K P) 834 "pred" 832) = true:=by kernel_rfl
theorem qy {a:Addr} {made:Bool} {kvs:List (Str×Value)} {name:Str} {idn:String} {pl:Sem Bool} {Q:Value×List Value->Shared->Prop} (H:W prog w B g os σ s) (hm:(a,ndict prog w made kvs)∈σ) (slot:Slot "dict" name idn)
  (hty:typeOf (.builtin idn) = pure (.type "method_descriptor")) (h:Q (.builtin idn,[.ref a]) s):wpAny (model prog w) A (getMethod (.ref a) name pl) Q E s:=by
 refine ac (H.get hm) λ o ho zh1=>?_;refine ac zh1 λ kvs0 D zz=>?_;clear zh1
 exact getMethod_builtin (ad o ho D.cls) F.plainAttrs_dict slot hty (λ b e=>by cases e;exact (ad o ho D.dict)) h
theorem gR {a:Addr} {a0 b0:Value} (ea:cv a0 = .ref a) (eb:cv b0 = .ref a):Gv prog w A B g os σ (compareOp .Is a0 b0) (.bool true):=λ E s H=>by
 cases ak ea;cases ak eb;exact wpAny_is_ref_self ⟨rfl,H⟩
theorem kM {p fn net d:Addr} {nm:Str} {kvs:List (Str×Value)} {P:Addr->Led->Prop} (T:TE w B mg mb) (hok:cO (Z0.K w.params) p nm fn = true) {dd uu:Nat} (R:Rm A (dd + 1) (uu + 3)) (H:W prog w B g os σ s)
  (hnet:∀ x,(net,AObj.inst 951 d)∈f x) (e0:f (ndict prog w true kvs) = σ) (hup:∀ v,Up d v (f v) f) (hn:valueAt kvs nm = none) (hz:kvs.length≤100)
  (hfn:∀ A' E' s' Q' τ,Rm A' dd uu->W prog w B g os (τ++f (ndict prog w true kvs)) s'->(∀ v ν s'',P v ν->W prog w B g os (ν++(τ++f (ndict prog w true kvs))) s''->Q' (.ref v) s'')->wpAny (model prog w) A' (call (.ref fn) [.ref net]) Q' E' s')
  (h:∀ v ν s',P v ν->W prog w B g os (ν++f (ndict prog w true (stored kvs nm (.ref v)))) s'->Q (.ref v) s') :
  wpAny (model prog w) A (call (.ref 564) [.ref p,.ref net,.ref 951]) Q E s:=by
 have X:=T.X
 subst e0
 refine an2 (qN w.params) λ kd1 kd2=>?_
 unfold cO at hok
 simp only [Bool.and_eq_true,beq_iff_eq] at hok
 refine ae hok λ zh1 k4=>?_;clear hok;refine ae zh1 λ zh2 k3=>?_;clear zh1;refine ae zh2 λ k1 k2=>?_;clear zh2
 refine aO (args:=⟨[_,_,_],[]⟩) (d:=dd) (u:=uu) (cl:=λ D L=>[(L,.frame (frM _ _ L 564))]) H R X T.lim ⟨(bk _ _ _ rfl),by kernel_rfl,rfl⟩ (aY X rfl rfl rfl rfl rfl) rfl (λ D L=>aH rfl) ?_ ?_ ?_
 ·intro E' D L s2 H₂ R₂
  first | refine bN R₂ λ A R₂=>?_ | refine mn R₂ λ A R₂=>?_
  refine d9 (b:=false) H₂ (aT (aa (by walk_at "l") rfl) bH λ a0 b0 ea eb=>by cases ak ea;exact a9 rfl eb rfl) (λ q=>by cases q) λ _ s3 H₃=>ay ?_
  refine d9 (b:=false) H₃ (aT (aF (aa (by walk_at "l") rfl)<|dL<|fe X k1) bH λ a0 b0 ea eb=>by refine ai (cW ea) λ zz zh1=>?_;obtain rfl:=zh1;exact a9 rfl eb rfl) (λ q=>by cases q) λ _ s4 H₄=>ay ?_
  refine iK λ E''=>aB (pH H₄ (aa (by walk_at "l") rfl)<|au λ s5 H₅=>?_)
  refine nR X kd2 H₅ (.tail _ (hnet _)) (.tail _ (hup _).mem) λ E3 s' H'=>rH X kd1 H' (.tail _ (hnet _)) (.tail (hup _)) λ s'' H''=>⟨rfl,?_⟩
  refine al H'' (by walk_at "l") rfl λ s₆ H6=>ay ?_
  refine aB (ax H6 (aa (by walk_at "l") rfl)<|au λ s7 H7=>?_)
  refine qy H7 (.tail _ (hup _).mem) F.slot_dict_get F.type_dict_get (cw1 (ab H7 (aF (aa (by walk_at "l") rfl)<|dL<|fe X k1) λ a0 s8 ea H8=>ab H8 (T.glob (x:="_NOT_FOUND") (v:=.ref 535) (by decide)) λ b0 s9 eb H9=>ah ⟨az,?_⟩))
  refine nz H9 (.tail _ (hup _).mem) ea eb λ v0 s10 e10 H10=>?_
  rw [hn] at e10
  refine al H10 (by walk_at "l") e10 λ s11 H11=>?_
  refine d9 (b:=true) H11 (aT (aa (by walk_at "l") rfl) (T.glob (x:="_NOT_FOUND") (v:=.ref 535) (by decide)) λ a0 b0 ea eb=>gR ea eb) (λ _ s12 H12=>?_) (λ q=>by cases q)
  refine aB (ax H12 (aa (by walk_at "l") rfl)<|au λ s13 H13=>?_)
  refine nv X k2 k3 H13 λ s14 H14=>cw1 (ab H14 (aa (by walk_at "l") rfl) λ a0 s15 ea H15=>ah ⟨aW (X.keeps H15.keep) k4,?_⟩)
  cases ak ea
  refine hfn _ _ _ _ [(L,_)] R₂ H15 λ v ν s16 hP H16=>?_
  refine al H16 (.app .head) rfl λ s17 H17=>?_
  refine iK λ E3=>eD ?_
  refine (aa (by walk_at "l") rfl).use H17 λ v1 s18 e18 H18=>?_
  refine (aa (by walk_at "l") rfl).use H18<|au λ s19 H19=>?_
  refine (aF (aa (by walk_at "l") rfl)<|dL<|fe X k1).use H19 λ i1 s20 e20 H20=>?_
  refine pc H20 (.app (.tail (hup _))) e20 e18 (by walk_at "r") λ s21 H21=>ay (ay ?_)
  rw [aA hn] at H21
  refine gr H21 (aa (by walk_at "l") rfl)<|au λ s22 H22=>?_
  refine h v ν _ hP ?_
  rw [aA hn]
  exact (H22.pick (a:=L) (.app .head)).drop
 ·intro D L x hx
  exact .inl (by revert x;exact locs rfl)
 ·intro L;exact List.nodup_nil
theorem oN {p fn net d:Addr} {nm:Str} {kvs:List (Str×Value)} {P:Addr->Led->Prop} (T:TE w B mg mb) (hth:∃ m,B.Ns cStatics m∧m ("_thread.count":Str) = none) (made:Bool) (hok:cO (Z0.K w.params) p nm fn = true) {dd uu:Nat} (R:Rm A (dd + 1) (uu + 3)) (H:W prog w B g os σ s)
  (hnet:∀ x,(net,AObj.inst 951 d)∈f x) (e0:f (ndict prog w made kvs) = σ) (hup:∀ v,Up d v (f v) f) (hn:valueAt kvs nm = none) (hz:kvs.length≤100)
  (hfn:∀ A' E' s' Q' τ,Rm A' dd uu->W prog w B g os (τ++f (ndict prog w true kvs)) s'->(∀ v ν s'',P v ν->W prog w B g os (ν++(τ++f (ndict prog w true kvs))) s''->Q' (.ref v) s'')->wpAny (model prog w) A' (call (.ref fn) [.ref net]) Q' E' s')
  (h:∀ v ν s',P v ν->W prog w B g os (ν++f (ndict prog w true (stored kvs nm (.ref v)))) s'->Q (.ref v) s') :
  wpF (model prog w) A (call (.ref 564) [.ref p,.ref net,.ref 951]) Q E s:=by
 have X:=T.X
 subst e0
 refine an2 (qN w.params) λ kd1 kd2=>?_
 unfold cO at hok
 simp only [Bool.and_eq_true,beq_iff_eq] at hok
 refine ae hok λ zh1 k4=>?_;clear hok;refine ae zh1 λ zh2 k3=>?_;clear zh1;refine ae zh2 λ k1 k2=>?_;clear zh2
 refine eA (ii (args:=⟨[_,_,_],[]⟩) (d:=dd) (u:=uu) (cl:=λ D L=>[(L,.frame (frM _ _ L 564))]) H R X T.lim ⟨(bk _ _ _ rfl),by kernel_rfl,rfl⟩ (aY X rfl rfl rfl rfl rfl) rfl (λ D L=>aH rfl) ?_ ?_ ?_)
 ·intro E' D L s2 H₂ R₂
  first | refine bN R₂ λ A R₂=>?_ | refine mn R₂ λ A R₂=>?_
  refine b9 λ E1=>d9 (b:=false) H₂ (aT (aa (by walk_at "l") rfl) bH λ a0 b0 ea eb=>by cases ak ea;exact a9 rfl eb rfl) (λ q=>by cases q) λ _ s3 H₃=>ay (ay ⟨rfl,?_⟩)
  refine b9 λ E1=>d9 (b:=false) H₃ (aT (aF (aa (by walk_at "l") rfl)<|dL<|fe X k1) bH λ a0 b0 ea eb=>by refine ai (cW ea) λ zz zh1=>?_;obtain rfl:=zh1;exact a9 rfl eb rfl) (λ q=>by cases q) λ _ s4 H₄=>ay (ay ⟨rfl,?_⟩)
  refine qA λ E''=>l4 (nW H₄ (aa (by walk_at "l") rfl)<|au λ s5 H₅=>?_)
  refine oJ X kd2 H₅ (.tail _ (hnet _)) (.tail _ (hup _).mem) λ E3 s' H'=>rA X kd1 hth H' (.tail _ (hnet _)) (.tail (hup _)) λ s'' H''=>⟨rfl,?_⟩
  refine al H'' (by walk_at "l") rfl λ s₆ H6=>aZ (ay ?_)
  refine aZ ?_
  refine aB (ax H6 (aa (by walk_at "l") rfl)<|au λ s7 H7=>?_)
  refine qy H7 (.tail _ (hup _).mem) F.slot_dict_get F.type_dict_get (cw1 (ab H7 (aF (aa (by walk_at "l") rfl)<|dL<|fe X k1) λ a0 s8 ea H8=>ab H8 (T.glob (x:="_NOT_FOUND") (v:=.ref 535) (by decide)) λ b0 s9 eb H9=>ah ⟨az,?_⟩))
  refine nz H9 (.tail _ (hup _).mem) ea eb λ v0 s10 e10 H10=>?_
  rw [hn] at e10
  refine al H10 (by walk_at "l") e10 λ s11 H11=>?_
  refine d9 (b:=true) H11 (aT (aa (by walk_at "l") rfl) (T.glob (x:="_NOT_FOUND") (v:=.ref 535) (by decide)) λ a0 b0 ea eb=>gR ea eb) (λ _ s12 H12=>?_) (λ q=>by cases q)
  refine aB (ax H12 (aa (by walk_at "l") rfl)<|au λ s13 H13=>?_)
  refine nv X k2 k3 H13 λ s14 H14=>cw1 (ab H14 (aa (by walk_at "l") rfl) λ a0 s15 ea H15=>ah ⟨aW (X.keeps H15.keep) k4,?_⟩)
  cases ak ea
  refine hfn _ _ _ _ [(L,_)] R₂ H15 λ v ν s16 hP H16=>?_
  refine al H16 (.app .head) rfl λ s17 H17=>?_
  refine iK λ E3=>eD ?_
  refine (aa (by walk_at "l") rfl).use H17 λ v1 s18 e18 H18=>?_
  refine (aa (by walk_at "l") rfl).use H18<|au λ s19 H19=>?_
  refine (aF (aa (by walk_at "l") rfl)<|dL<|fe X k1).use H19 λ i1 s20 e20 H20=>?_
  refine pc H20 (.app (.tail (hup _))) e20 e18 (by walk_at "r") λ s21 H21=>ay (ay ?_)
  rw [aA hn] at H21
  refine gr H21 (aa (by walk_at "l") rfl)<|au λ s22 H22=>?_
  refine h v ν _ hP ?_
  rw [aA hn]
  exact (H22.pick (a:=L) (.app .head)).drop
 ·intro D L x hx
  exact .inl (by revert x;exact locs rfl)
 ·intro L;exact List.nodup_nil
theorem kVw (P:Params):(makesIn (Z0.K P) 180 && findIn (Z0.K P) (.ref 180) "__init__" == some (some (.ref 119)) && typeIn (Z0.K P) (.ref 119) == some (.type "function") && dC (Z0.K P) 180 "_atlas" 159 && gX (Z0.K P) 180 "_atlas" 159
 && keepIn (Z0.K P) (.ref 180) && bM (Z0.K P) 951 "_pred" && bM (Z0.K P) 951 "_succ") = true:=by kernel_rfl
theorem sj (P:Params):(makesIn (Z0.K P) 158 && findIn (Z0.K P) (.ref 158) "__init__" == some (some (.ref 119)) && dC (Z0.K P) 158 "_atlas" 159 && gX (Z0.K P) 158 "_atlas" 159
 && keepIn (Z0.K P) (.ref 158)) = true:=by kernel_rfl
theorem kDv (P:Params):(makesIn (Z0.K P) 359 && findIn (Z0.K P) (.ref 359) "__init__" == some (some (.ref 263)) && typeIn (Z0.K P) (.ref 263) == some (.type "function") && fE (Z0.K P) 359 "_succ" && fE (Z0.K P) 359 "_pred" && fE (Z0.K P) 359 "_nodes" && fE (Z0.K P) 359 "_weight"
 && keepIn (Z0.K P) (.ref 359) && bM (Z0.K P) 359 "_succ" && bM (Z0.K P) 359 "_pred" && bM (Z0.K P) 359 "_nodes" && bM (Z0.K P) 359 "_weight") = true:=by kernel_rfl
theorem iq {C m:Addr} (T:TE w B mg mb) (h1:makesIn (Z0.K w.params) C = true) (h2:findIn (Z0.K w.params) (.ref C) "__init__" = some (some (.ref 119))) (h3:dC (Z0.K w.params) C "_atlas" 159 = true)
  (R:Rm A 2 9) (H:W prog w B g os σ s) (h:∀ v dv s',W prog w B g os ((v,.raw (aK C dv (.ref m))) :: (dv,.sdict []) :: σ) s'->Q (.ref v) s'):wpAny (model prog w) A (call (.ref C) [.ref m]) Q E s:=by
 have X:=T.X
 refine an8 (kVw w.params) λ _ _ k3 _ _ _ _ _=>?_
 replace k3:=beq_iff_eq.mp k3
 refine jE (d:=1) (u:=3) H R X h1 h2 k3 λ A' x dx s1 R' H₁=>?_
 refine fR (d:=0) (u:=0) (cl:=λ D L=>[(L,.frame (frM _ _ L 119))]) H₁ R' X T.lim ⟨(bk _ _ _ rfl),by kernel_rfl,rfl⟩ (aR rfl) rfl (λ D L=>aH rfl) ?_ ?_ ?_
 ·intro E' D L s2 H₂ R₂
  refine bN R₂ λ A R₂=>?_
  refine dS ((aa (by walk_at "l") rfl).use H₂<|au λ s3 H₃=>?_)
  refine (aa (by walk_at "l") rfl).use H₃<|au λ s4 H₄=>?_
  refine pC X h3 H₄ (by walk_at "l") (by walk_at "l") λ s5 H₅=>ay ⟨rfl,?_⟩
  exact h x dx _ H₅.drop
 ·intro D L x hx
  exact .inl (by revert x;exact locs rfl)
 ·intro L;exact List.nodup_nil
theorem m6 {net d pd:Addr} {made:Bool} {kvs:List (Str×Value)} (T:TE w B mg mb) (R:Rm A 4 13) (H:W prog w B g os σ s) (hx:(net,AObj.inst 951 d)∈σ) (hd:(d,ndict prog w made kvs)∈σ) (hv:valueAt kvs "_pred" = some (.ref pd))
  (h:∀ v dv s',W prog w B g os ((v,.raw (aK 180 dv (.ref pd))) :: (dv,.sdict []) :: σ) s'->Q (.ref v) s'):wpAny (model prog w) A (call (.ref 832) [.ref net]) Q E s:=by
 have X:=T.X
 refine an8 (kVw w.params) λ k1 k2 _ k4 _ k6 k7 _=>?_
 replace k2:=beq_iff_eq.mp k2
 refine aO (args:=⟨[_],[]⟩) (d:=3) (u:=10) (cl:=λ D L=>[(L,.frame (frM _ _ L 832))]) H R X T.lim ⟨(bk _ _ _ rfl),by kernel_rfl,rfl⟩ (aR rfl) rfl (λ D L=>aH rfl) ?_ ?_ ?_
 ·intro E' D L s2 H₂ R₂
  refine bN R₂ λ A R₂=>?_
  refine cX (aw H₂ (T.glob (x:="AdjacencyView") (v:=.ref 180) (by decide)) (λ f0 e=>ak e) λ s3 H₃=>?_)
  refine cw1 (ab H₃ (aF (aa (by walk_at "l") rfl)<|dL<|cp X k7 (.tail _ hx) (.tail _ hd) hv) λ a0 s4 ea H₄=>ah ⟨aW (X.keeps H₄.keep) k6,?_⟩)
  cases ak ea
  refine iq T k1 k2 k4 (R₂.mono (by decide) (by decide)) H₄ λ v dv s5 H₅=>?_
  exact h v dv _ (H₅.pick (a:=L) (by walk_at "l")).drop
 ·intro D L x hx
  exact .inl (by revert x;exact locs rfl)
 ·intro L;exact List.nodup_nil
theorem iu:entryFor table "hasattr" = some Builtin.«hasattr»:=entryFor_of_tree (by kernel_rfl)
theorem jc (a b:Value):argsOk "hasattr" ⟨[a,b],[]⟩:=by unfold argsOk;kernel_rfl
theorem pE {x d C:Addr} {made:Bool} {kvs:List (Str×Value)} {name:Str} {t:Tok} {v:Value} (X:K.In B) (hok:bM K C name = true) (H:W prog w B g os σ s) (hx:(x,AObj.inst C d)∈σ) (hd:(d,ndict prog w made kvs)∈σ) (hv:valueAt kvs name = some v)
  (hh:∀ v0,cv v0 = v->handedIn v0 = true) (h:∀ v0 s',cv v0 = v->W prog w B g os σ s'->Q v0 s'):wpAny (model prog w) A (getAttrBy (.ref x) (.str name t) false) Q E s:=by
 refine cK (d7 H hx hd) λ od kvs0 I D zz hk=>?_
 subst hk
 rw [aD] at hv
 cases q:valueAt kvs0 name with
 | none=>rw [q] at hv;cases hv
 | some v0=>
  rw [q] at hv
  have e:cv v0 = v:=Option.some.inj hv
  have X':=X.keeps H.keep
  have hf:=dy (od:=od) hok (by rw [D.look,q])
  obtain ⟨hh',g,d,tk,os⟩:=s
  have L0:=I.type (M:=model prog w)
  have L1:=looks_findIn (M:=model prog w) X' (plainGet_of (bs hok)).1
  have L2:=looks_find (M:=model prog w) X' I hf
  unfold getAttrBy
  refine wpAny_holding (wpAny_bind (L0.at (wpAny_bind (L1.at ?_))))
  show wpAny _ _ (getAttrEveryday _ _ _) _ _ _
  refine wpAny_bind (wpAny_onRaise (wpAny_runValue (codeAny_builtin F.plainObj_entry_getattr_hooked ?_)))
  refine wpAny_bind (wpAny_pure (wpAny_bind (L0.at (wpAny_bind (L2.at ?_)))))
  refine wpAny_pure ?_
  show wpAny _ _ (handedOut v0) _ _ _
  rw [handedOut_of (hh v0 e)]
  exact wpAny_pure (h v0 _ e H)
theorem jd {x d C:Addr} {made:Bool} {kvs:List (Str×Value)} {name:Str} {n0:Value} {v:Value} (X:K.In B) (hok:bM K C name = true) (hmod:subIn K (.ref C) (.type "module") = some false) (H:W prog w B g os σ s) (hx:(x,AObj.inst C d)∈σ) (hd:(d,ndict prog w made kvs)∈σ) (hv:valueAt kvs name = some v)
  (en:cv n0 = .str name 0) (hh:∀ v0,cv v0 = v->handedIn v0 = true) (h:∀ s',W prog w B g os σ s'->Q (.bool true) s'):wpAny (model prog w) A (call (.builtin "hasattr") [.ref x,n0]) Q E s:=by
 refine ai (cW en) λ t zh1=>?_;obtain rfl:=zh1
 refine Calls.call_function_entry (by decide +kernel) (by decide +kernel) iu (jc _ _) ?_
 refine cK (d7 H hx hd) λ od kvs0 I D zz hk=>?_
 have L0:=I.type (M:=model prog w)
 have L1:=looks_subIn (M:=model prog w) (X.keeps H.keep) hmod
 unfold Builtin.«hasattr»
 refine wpAny_bind (m:=someArgs "hasattr" 2 2 _) (wpAny_of_eq (a:=[Value.ref x,.str name t]) (by first | rfl | kernel_rfl!) ?_)
 dsimp only
 refine wpAny_bind ?_
 show wpAny _ _ (asStr? (.str name t) >>= _) _ _ s
 refine wpAny_bind (wpAny_pure ?_)
 refine wpAny_pure ?_
 rw [if_neg (show ¬ (Value.ref x == Value.builtin "__main__.__loader__#opaque") = true from Bool.false_ne_true)]
 refine wpAny_bind (L0.here ?_)
 dsimp only
 refine wpAny_bind ?_
 show wpAny _ _ (asStr? (.str name t) >>= _) _ _ s
 refine wpAny_bind (wpAny_pure ?_)
 dsimp only
 unfold isInstance
 refine wpAny_bind (wpAny_bind (L0.here (L1.here ?_)))
 rw [if_pos (show (!false) = true from rfl)]
 refine wpAny_pure ?_
 rw [if_neg (show ¬ ((0:Nat) == 1) = true by decide)]
 unfold getAttrBy?
 refine wpAny_bind (wpAny_bind (wpAny_attempt (pE X hok H hx hd hv hh λ v0 s' e H'=>wpAny_pure ?_)))
 rw [if_neg (show ¬ ((some v0).isNone && ((0:Nat) == 2)) = true from Bool.false_ne_true)]
 exact wpAny_pure (ad _ rfl (h s' H'))
theorem iE {x:Str} {np pos:Pos} {e1 e2:Expr} {id:String} {v1 v2 r:Value} (hf:Gv prog w A B g os σ (eval (.Name x np) env) (.builtin id)) (h1:Gv prog w A B g os σ (eval e1 env) v1) (h2:Gv prog w A B g os σ (eval e2 env) v2)
  (hc:∀ a b,cv a = v1->cv b = v2->Gv prog w A B g os σ (call (.builtin id) [a,b]) r) (hs:starEach [e1,e2] env = (false,eval e1 env) :: starEach [e2] env:=by rfl) (hs2:starEach [e2] env = (false,eval e2 env) :: starEach [] env:=by rfl)
  (hp:∀ pos:Pos,(backTo pos (starEach [e2] env)).any (·.1) = false:=by intro _;rfl):Gv prog w A B g os σ (eval (.Call (.Name x np) [e1,e2] [] pos) env) r:=λ E s H=>
 aw H hf (λ f0 e=>bX e) λ s1 H₁=>cw1 (ab H₁ h1 (λ v0 s2 e₂ H₂=>ab H₂ h2 (λ v₁ s3 e3 H₃=>ah ⟨az,hc v0 v₁ e₂ e3 E s3 H₃⟩) hs2) hs) hs (hp _)
theorem sh (P:Params):(subIn (Z0.K P) (.ref 951) (.type "module") == some false && bM (Z0.K P) 951 "_succ" && bM (Z0.K P) 951 "_pred") = true:=by kernel_rfl
theorem mh {net d sd pd:Addr} {made:Bool} {kvs:List (Str×Value)} (T:TE w B mg mb) (R:Rm A 2 15) (H:W prog w B g os σ s) (hx:(net,AObj.inst 951 d)∈σ) (hd:(d,ndict prog w made kvs)∈σ) (hv1:valueAt kvs "_succ" = some (.ref sd)) (hv2:valueAt kvs "_pred" = some (.ref pd))
  (h:∀ v dv s',W prog w B g os ((v,.inst 359 dv) :: (dv,.sdict [("_succ",.ref sd),("_pred",.ref pd),("_nodes",.ref sd),("_weight",.none)]) :: σ) s'->Q (.ref v) s'):wpAny (model prog w) A (call (.ref 359) [.ref net]) Q E s:=by
 have X:=T.X
 refine rU (kDv w.params) λ k1 k2 k3 k4 k5 k6 k7 _ k9 _ _ _=>?_
 replace k2:=beq_iff_eq.mp k2
 replace k3:=beq_iff_eq.mp k3
 refine an3 (sh w.params) λ km ks kp=>?_
 replace km:=beq_iff_eq.mp km
 refine jE (d:=1) (u:=9) H R X k1 k2 k3 λ A' x dx s1 R' H₁=>?_
 refine fR (d:=0) (u:=6) (cl:=λ D L=>[(L,.frame (frM _ _ L 263))]) H₁ R' X T.lim ⟨(bk _ _ _ rfl),by kernel_rfl,rfl⟩ (aY X rfl rfl rfl rfl rfl) rfl (λ D L=>aH rfl) ?_ ?_ ?_
 ·intro E' D L s2 H₂ R₂
  refine bN R₂ λ A R₂=>?_
  have hh:∀ (a:Addr) (v0:Value),cv v0 = .ref a->handedIn v0 = true:=λ a v0 e=>by cases ak e;rfl
  refine dS ((j4 (aS (v:=.bool true) (iE (T.boot (x:="hasattr") (v:=.builtin "hasattr") (by decide)) (aa (by walk_at "l") rfl) ev_str λ a b ea eb=>by
   cases ak ea;exact λ E s H=>jd X ks km H (.tail _ (.tail _ (.tail _ hx))) (.tail _ (.tail _ (.tail _ hd))) hv1 eb (hh _) λ s' H'=>⟨rfl,H'⟩) λ v0 e=>cf e)
   (aF (aa (by walk_at "l") rfl)<|dL<|cp X ks (.tail _ (.tail _ (.tail _ hx))) (.tail _ (.tail _ (.tail _ hd))) hv1)).use H₂ λ v0 s3 e3 H₃=>?_)
  refine (aa (by walk_at "l") rfl).use H₃<|au λ s4 H₄=>?_
  refine eU X k4 H₄ (by walk_at "l") (by walk_at "l") e3 (Nat.le_of_ble_eq_true rfl) λ s5 H₅=>?_
  refine dS ((j4 (aS (v:=.bool true) (iE (T.boot (x:="hasattr") (v:=.builtin "hasattr") (by decide)) (aa (by walk_at "l") rfl) ev_str λ a b ea eb=>by
   cases ak ea;exact λ E s H=>jd X kp km H (.tail _ (.tail _ (.tail _ hx))) (.tail _ (.tail _ (.tail _ hd))) hv2 eb (hh _) λ s' H'=>⟨rfl,H'⟩) λ v0 e=>cf e)
   (aF (aa (by walk_at "l") rfl)<|dL<|cp X kp (.tail _ (.tail _ (.tail _ hx))) (.tail _ (.tail _ (.tail _ hd))) hv2)).use H₅ λ v0 s3 e3 H₃=>?_)
  refine (aa (by walk_at "l") rfl).use H₃<|au λ s4 H₄=>?_
  refine eU X k5 H₄ (by walk_at "l") (by walk_at "l") e3 (Nat.le_of_ble_eq_true rfl) λ s5 H₅=>?_
  refine dS ((j4 (aT (aa (by walk_at "l") rfl) bH λ a0 b0 ea eb=>by cases ce ea;exact a9 rfl eb rfl)
   (aF (aa (by walk_at "l") rfl)<|dL<|bQ X k9 (by walk_at "l") (by walk_at "l") rfl)).use H₅ λ v0 s3 e3 H₃=>?_)
  refine (aa (by walk_at "l") rfl).use H₃<|au λ s4 H₄=>?_
  refine eU X k6 H₄ (by walk_at "l") (by walk_at "l") e3 (Nat.le_of_ble_eq_true rfl) λ s5 H₅=>?_
  refine dS ((aa (by walk_at "l") rfl).use H₅ λ v0 s3 e3 H₃=>?_)
  refine (aa (by walk_at "l") rfl).use H₃<|au λ s4 H₄=>?_
  refine eU X k7 H₄ (by walk_at "l") (by walk_at "l") e3 (Nat.le_of_ble_eq_true rfl) λ s5 H₅=>ay ⟨rfl,?_⟩
  exact h x dx _ H₅.drop
 ·intro D L x hx
  exact .inl (by revert x;exact locs rfl)
 ·intro L;exact List.nodup_nil
theorem ln {net d sd pd:Addr} {made:Bool} {kvs:List (Str×Value)} (T:TE w B mg mb) (R:Rm A 4 20) (H:W prog w B g os σ s) (hx:(net,AObj.inst 951 d)∈σ) (hd:(d,ndict prog w made kvs)∈σ) (hv1:valueAt kvs "_succ" = some (.ref sd)) (hv2:valueAt kvs "_pred" = some (.ref pd))
  (h:∀ v dv s',W prog w B g os ((v,.inst 359 dv) :: (dv,.sdict [("_succ",.ref sd),("_pred",.ref pd),("_nodes",.ref sd),("_weight",.none)]) :: σ) s'->Q (.ref v) s'):wpAny (model prog w) A (call (.ref 921) [.ref net]) Q E s:=by
 have X:=T.X
 refine rU (kDv w.params) λ _ _ _ _ _ _ _ k8 _ _ _ _=>?_
 refine aO (args:=⟨[_],[]⟩) (d:=3) (u:=17) (cl:=λ D L=>[(L,.frame (frM _ _ L 921))]) H R X T.lim ⟨(bk _ _ _ rfl),by kernel_rfl,rfl⟩ (aR rfl) rfl (λ D L=>aH rfl) ?_ ?_ ?_
 ·intro E' D L s2 H₂ R₂
  refine bN R₂ λ A R₂=>?_
  refine cX (aw H₂ (T.glob (x:="InDegreeView") (v:=.ref 359) (by decide)) (λ f0 e=>ak e) λ s3 H₃=>?_)
  refine cw1 (ab H₃ (aa (by walk_at "l") rfl) λ a0 s4 ea H₄=>ah ⟨aW (X.keeps H₄.keep) k8,?_⟩)
  cases ak ea
  refine mh T (R₂.mono (by decide) (by decide)) H₄ (.tail _ hx) (.tail _ hd) hv1 hv2 λ v dv s5 H₅=>?_
  exact h v dv _ (H₅.pick (a:=L) (by walk_at "l")).drop
 ·intro D L x hx
  exact .inl (by revert x;exact locs rfl)
 ·intro L;exact List.nodup_nil
theorem kIv (P:Params):(jC (Z0.K P) 359 "__call__" 281 && fnIn (Z0.K P) 281 && jC (Z0.K P) 359 "__iter__" 356) = true:=by kernel_rfl
theorem lM {a0 b0:Value} (ea:cv a0 = .none) (eb:cv b0 = .none):Gv prog w A B g os σ (compareOp .Eq a0 b0) (.bool true):=λ E s H=>by
 cases ce ea;cases ce eb
 show wpAny _ A (richCompare .Eq _ _) _ E s
 exact richCompare_gives (T:="NoneType") rfl rfl PySem.F.slot_NoneType_eq PySem.F.entry_NoneType_eq (PySem.F.args_NoneType_eq_2 _ _) EqNone.NoneType___eq___none_none_0 nofun ⟨rfl,H⟩
theorem qR {x C a:Addr} {ox:Obj} {od:Option Obj} {args:List Value} (X:K.In s.heap) (I:InstAt s.heap x ox C od) (hp:ox.data = .plain) (hok:jC K C "__call__" a = true) (hf:fnIn K a = true)
  (h:codeAny (model prog w) A (.call (.ref a) ⟨.ref x :: args,[]⟩) (λ r s'=>match r with | .ok (.ret v)=>Q v s' | .ok _=>False | .error e=>E e s') s):wpAny (model prog w) A (call (.ref x) args) Q E s:=by
 refine ae (Bool.and_eq_true_iff.mp hok) λ h1 h2=>?_
 have h1:=beq_iff_eq.mp h1
 refine wpAny_call (codeAny_of_tree ?_)
 show wpAny _ _ (callAny (.ref x) _) _ _ _
 have hx:=I.at_
 obtain ⟨oc,odi,oda,osl⟩:=ox
 dsimp only at hp
 subst hp
 refine wpAny_bind (wpAny_load hx ?_)
 show wpAny _ _ (callAny.viaDunder (.ref x) _) _ _ _
 unfold callAny.viaDunder
 refine wpAny_bind (wpAny_bind (I.type.here ((looks_findIn X h1).here ?_)))
 dsimp only
 refine wpAny_bind ((bind_fn X _ (beq_iff_eq.mp h2)).here ?_)
 dsimp only
 unfold fnIn at hf
 split at hf
 ·rename_i e
  unfold callAny.plainCallee
  refine wpAny_bind (wpAny_bind (wpAny_load (X _ _ e) (wpAny_pure ?_)))
  exact wpAny_pure (And.intro rfl h)
 ·cases hf
noncomputable def gj (iv ivd sd pd:Addr):Led:=[(iv,.inst 359 ivd),(ivd,.sdict [("_succ",.ref sd),("_pred",.ref pd),("_nodes",.ref sd),("_weight",.none)])]
theorem eY {iv ivd sd pd:Addr} (T:TE w B mg mb) (R:Rm A 1 3) (H:W prog w B g os σ s) (h1:(iv,AObj.inst 359 ivd)∈σ) (h2:(ivd,AObj.sdict [("_succ",.ref sd),("_pred",.ref pd),("_nodes",.ref sd),("_weight",.none)])∈σ)
  (h:∀ s',W prog w B g os σ s'->Q (.ref iv) s'):wpAny (model prog w) A (call (.ref iv) []) Q E s:=by
 have X:=T.X
 refine an3 (kIv w.params) λ k1 k2 _=>?_
 have kd:=kDv w.params
 simp only [Bool.and_eq_true,beq_iff_eq] at kd
 refine ai (jL H h1 h2) λ od I=>?_
 refine qR (X.keeps H.keep) I rfl k1 k2 (fR (d:=0) (u:=0) (cl:=λ D L=>[(L,.frame (frM _ _ L 281))]) H R X T.lim ⟨(bk _ _ _ rfl),by kernel_rfl,rfl⟩ (aY X rfl rfl rfl rfl rfl) rfl (λ D L=>aH rfl) ?_ ?_ ?_)
 ·intro E' D L s2 H₂ R₂
  refine bN R₂ λ A R₂=>?_
  refine d9 (b:=true) H₂ (aT (aa (by walk_at "l") rfl) bH λ a0 b0 ea eb=>by cases ce ea;exact a9 rfl eb rfl) (λ _ s3 H₃=>?_) (λ q=>by cases q)
  refine d9 (b:=true) H₃ (aT (aa (by walk_at "l") rfl) (aF (aa (by walk_at "l") rfl)<|dL<|bQ X kd.2 (.tail _ h1) (.tail _ h2) rfl) λ a0 b0 ea eb=>lM ea eb) (λ _ s4 H₄=>?_) (λ q=>by cases q)
  refine gr H₄ (aa (by walk_at "l") rfl)<|au λ s5 H₅=>?_
  exact h _ H₅.drop
 ·intro D L x hx
  exact .inl (by revert x;exact locs rfl)
 ·intro L;exact List.nodup_nil
noncomputable def lp (prog:Program) (w:World) (B:Heap) (os:OsState) {C:Type} (ρ:C->Led) (d u i:Nat) (items:List eT) (γo:c9) (o:Led) (ret:Shared->Prop) (yld:Value->GenState->Shared->Prop):Prop :=
 match items with
 | []=>∀ c' s',W prog w B ((i,.running) :: γo) os (ρ c'++o) s'->ret s'
 | x :: xs=>∀ c' v ν μ' γ' gs' s',gs'.bare = true->x v ν->GSt prog w B os ρ d u i xs μ' γ' gs'->W prog w B ((i,.running) :: (γ'++γo)) os (ν++(μ'++(ρ c'++o))) s'->yld v gs' s'
theorem fk {C:Type} {ρ:C->Led} {d u i:Nat} {items:List eT} {μ:Led} {γ:c9} {gs:GenState}
  (h:∀ A c o γo ret yld s,Rm A d u->W prog w B ((i,.running) :: (γ++γo)) os (μ++(ρ c++o)) s->lp prog w B os ρ d u i items γo o ret yld->Goes (model prog w) A gs (.send .none) s (Ends ret yld)):GSt prog w B os ρ d u i items μ γ gs:=by
 cases items with
 | nil=>exact h
 | cons x xs=>exact h
theorem dm {h:Heap} {a:Addr} {kvs:List (Int×Value)} {ep:Nat} (x:Real prog w h a (.idictE kvs ep)):Real prog w h a (.idict kvs):=by
 refine ac x λ kvs0 D e=>?_;clear x
 exact (ad kvs0 D.dictOf e)
theorem mF {a:Addr} {kvs:List (Int×Value)} {ep:Nat} {k:Int} {i0 v:Value} (hm:(a,AObj.idictE kvs ep)∈σ) (hk:cv i0 = .int k 0) (hx:valueAt kvs k = some v):Gv prog w A B g os σ (getItem (.ref a) i0) v:=by
 intro E s H
 refine ac (dm (H.get hm)) λ kvs0 hl e=>?_
 refine ai (ap hk) λ t zh1=>?_;obtain rfl:=zh1
 rw [← e,aD] at hx
 cases q:valueAt kvs0 k with
 | none=>rw [q] at hx;cases hx
 | some v0=>rw [q] at hx;exact wpAny_getItem_of (intKind_is prog w k t) hl.mapOf q ⟨Option.some.inj hx,H.tok⟩
theorem mZ {a:Addr} {vs:List (Int×Value)} {ep:Nat} (hm:(a,AObj.idictE vs ep)∈σ):∀ s,W prog w B g os σ s->s.TypeIs (.ref a) "dict":=λ s H=>by refine ac (dm (H.get hm)) λ zz hl zz=>?_;exact hl.typeIs
theorem ga {e i:Expr} {pos:Pos} {a:Addr} {kvs:List (Int×Value)} {ep:Nat} {k:Int} {v:Value} (he:Gv prog w A B g os σ (eval e env) (.ref a)) (hi:Gv prog w A B g os σ (eval i env) (.int k 0)) (hm:(a,AObj.idictE kvs ep)∈σ) (hx:valueAt kvs k = some v)
  (hs:∀ t,subscripted i false (.ref a) (.int k t) = operate [.ref a,.int k t] (getItem (.ref a) (.int k t)):=by intro;with_unfolding_all rfl):Gv prog w A B g os σ (eval (.Subscript e i pos) env) v :=
 cz "dict" _ he hi (mZ hm) (λ k0 ek=>mF hm ek hx) slot_dict_getitem.lookup (qg hs)
theorem lP {a:Addr} {vs:List (Int×Value)} {ep:Nat} {v0:Value} (hm:(a,AObj.idictE vs ep)∈σ) (e:cv v0 = .ref a) (hz:vs.length≤1000):Gv prog w A B g os σ (call (.builtin "len") [v0]) (.int vs.length 0):=λ E s H=>by
 cases ak e
 refine ac (dm (H.get hm)) λ items hl e=>?_
 have hsz:items.length = vs.length:=by rw [← e];simp
 exact call_len_dict (H.ne_sys hm) hl (by walk_at "r") ⟨by rw [hsz];rfl,H.tok⟩
theorem Rm.overFn {d u:Nat} {body:List Stmt} {env:Env} (R:Rm A (d + 1) (u + 3)):Rm (A.over (.func body env) []) d u:=R.over rfl (Nat.le_refl _) (Nat.le_refl _)
theorem Rm.overFor {d u:Nat} {t:Expr} {it:Value} {b o:List Stmt} {env env':Env} {KK:Flow->Sem Fin} {HH:Value->Sem Fin} {gd:Bool->Bool} {lv:List Value->List Value} {body:List Stmt} {p:Pos} (R:Rm A (d + 1) (u + 3)) :
  Rm (A.over (.forLoop t it b o env') [runFrame env KK HH gd lv (.func body env) p]) d u:=R.over rfl (Nat.le_refl _) (Nat.le_refl _)
theorem Rm.overWhile {d u:Nat} {t:Expr} {b o:List Stmt} {env env':Env} {KK:Flow->Sem Fin} {HH:Value->Sem Fin} {gd:Bool->Bool} {lv:List Value->List Value} {body:List Stmt} {p:Pos} (R:Rm A (d + 1) (u + 3)) :
  Rm (A.over (.whileLoop t b o env') [runFrame env KK HH gd lv (.func body env) p]) d u:=R.over rfl (Nat.le_refl _) (Nat.le_refl _)
theorem nf {a b c:Addr×AObj} {X o:Led}:(a :: b :: c :: (X++o)).Perm ([a]++(X++([b,c]++o))):=by
 refine List.Perm.cons _ ?_
 have:X++([b,c]++o) = X++([b,c]++o):=rfl
 exact (List.perm_append_comm_assoc [b,c] X o)
theorem kZ {b c:Addr×AObj} {μ X o:Led}:([]++(μ++(X++([b,c]++o)))).Perm (b :: c :: (X++(o++μ))):=by
 have h1:[]++(μ++(X++([b,c]++o))) = μ++(X++([b,c]++o)):=rfl
 rw [h1]
 refine (List.perm_append_comm (l₁:=μ)).trans ?_
 have h2:X++([b,c]++o)++μ = X++([b,c]++(o++μ)):=by simp
 rw [h2]
 exact List.perm_append_comm_assoc X [b,c] (o++μ)
theorem lB {t b c:Addr×AObj} {μ X o:Led}:(t :: b :: c :: (X++(o++μ))).Perm ([t]++((μ++[b,c])++(X++o))):=by
 refine List.Perm.cons _ ?_
 have h1:b :: c :: (X++(o++μ)) = ([b,c]++(X++o))++μ:=by simp
 have h2:[]++((μ++[b,c])++(X++o)) = μ++([b,c]++(X++o)):=by simp
 rw [h1]
 refine List.perm_append_comm.trans ?_
 exact List.Perm.of_eq (by simp)
theorem lb {b c:Addr×AObj} {μ X o:Led}:((μ++[b,c])++(X++o)).Perm (μ++(X++([b,c]++o))):=by
 have h1:(μ++[b,c])++(X++o) = μ++([b,c]++(X++o)):=by simp
 rw [h1]
 exact (List.perm_append_comm_assoc [b,c] X o).append_left μ
theorem lL {b c:Addr×AObj} {X o:Led}:(X++([b,c]++o)).Perm (b :: c :: (X++o)):=List.perm_append_comm_assoc X [b,c] o
theorem W.gfront {p:Nat×GenState} {γ γo:c9} (H:W prog w B (p :: (γ++γo)) os σ s):W prog w B (γ++(p :: γo)) os σ s:=H.gperm (List.perm_middle.symm)
theorem W.gback {p:Nat×GenState} {γ γo:c9} (H:W prog w B (γ++(p :: γo)) os σ s):W prog w B (p :: (γ++γo)) os σ s:=H.gperm List.perm_middle
theorem hU {C:Type} {ρ:C->Led} {tg:Expr->Prop} {d u d' u' i:Nat} {I:Addr} {target:Expr} {body:List Stmt} {fs:List Frame} (P:List eT->List eT->Led->Prop) (htg:tg target)
  (hR:∀ A,Rm A d u->Rm (A.over (.forLoop target (.ref I) body [] env) fs) d' u')
  (turn:∀ A c o γo ret yld s x xs Y μ₁ γ₁ ω v ν E,Rm A d u->P (x :: xs) Y ω->x v ν->W prog w B ((i,.running) :: (γ₁++γo)) os (ν++(μ₁++(ρ c++(ω++o)))) s->lp prog w B os ρ d u i Y γo o ret yld ->
   (∀ A c o γo ret yld s Y' ω',Rm A d u->P xs Y' ω'->W prog w B ((i,.running) :: (γ₁++γo)) os (μ₁++(ρ c++(ω'++o))) s->lp prog w B os ρ d u i Y' γo o ret yld ->
    Sg (model prog w) A (Ends ret yld) (.forLoop target (.ref I) body [] env) (.pure (.again (.forLoop target (.ref I) body [] env))) fs s) ->
   wpAny (model prog w) (A.over (.forLoop target (.ref I) body [] env) fs) (assign target env v) (λ _ s3=>∀ gd' lv',gd' false = false->Sg (model prog w) A (Ends ret yld) (.forLoop target (.ref I) body [] env) ((execs body env).wrap (λ f=>match f with
      | .next | .cont=>.pure (.again (.forLoop target (.ref I) body [] env))
      | .brk=>.pure (.done .next)
      | .ret v=>.pure (.done (.ret v))) (λ e=>(do noteFrame e env;theTreesLotGoes e:Sem Unit).wrap (λ _=>.raise e) .raise id id) gd' lv') fs s3) E s)
  (done:∀ A c o γo ret yld s Y ω,Rm A d u->P [] Y ω->W prog w B ((i,.running) :: γo) os (ρ c++(ω++o)) s->lp prog w B os ρ d u i Y γo o ret yld->Sg (model prog w) A (Ends ret yld) (.block [] env) (.pure (.done .next)) fs s) :
  ∀ (xs:List eT) A c o γo ret yld s Y μ₁ γ₁ ω,Rm A d u->P xs Y ω->bV prog w B os ρ tg d' u' I xs μ₁ γ₁->W prog w B ((i,.running) :: (γ₁++γo)) os (μ₁++(ρ c++(ω++o))) s->lp prog w B os ρ d u i Y γo o ret yld ->
   Sg (model prog w) A (Ends ret yld) (.forLoop target (.ref I) body [] env) ((model prog w).den (.forLoop target (.ref I) body [] env)) fs s
 | [],A,c,o,γo,ret,yld,s,Y,μ₁,γ₁,ω,R,hP,G,H,hc=>by
  refine gV λ E=>?_
  refine wpAny_mono (G _ c (ω++o) ((i,.running) :: γo) _ s (hR A R) H.gfront) (λ r s1 h1=>?_) λ _ _ e=>e
  refine ae h1 λ zh1 zh2=>?_;clear h1;obtain rfl:=zh1;refine ai zh2 λ c' H'=>?_;clear zh2
  exact done A c' o γo ret yld s1 Y ω R hP H' hc
 | x :: xs,A,c,o,γo,ret,yld,s,Y,μ₁,γ₁,ω,R,hP,G,H,hc=>by
  refine gV λ E=>?_
  refine wpAny_mono (G _ c (ω++o) ((i,.running) :: γo) _ s (hR A R) H.gfront) (λ r s1 h1=>?_) λ _ _ e=>e
  refine gw h1 λ v ν μ' γ' c' zh1 hx G' hl=>?_;clear h1;obtain rfl:=zh1
  refine wpAny_mono (hl target htg _) (λ _ s2 H₂=>?_) λ _ _ e=>e
  exact turn A c' o γo ret yld s2 x xs Y μ' γ' ω v ν _ R hP hx H₂.gback hc λ A c o γo ret yld s Y' ω' R' hP' H' hc'=>
   cj rfl (hU P htg hR turn done xs A c o γo ret yld s Y' μ' γ' ω' R' hP' G' H' hc')
structure IvFacts {C:Type} (ρ:C->Led) (iv ivd sd pd:Addr) (ns:List Int) (sA pA:Int->Addr) (pr:Int->List (Int×Value)) (e0:Nat) (eP:Int->Nat):Prop where
 h1:∀ c,(iv,AObj.inst 359 ivd)∈ρ c
 h2:∀ c,(ivd,AObj.sdict [("_succ",.ref sd),("_pred",.ref pd),("_nodes",.ref sd),("_weight",.none)])∈ρ c
 h3:∀ c,(sd,AObj.idictE (ns.map λ n=>(n,.ref (sA n))) e0)∈ρ c
 h4:∀ c,(pd,AObj.idict (ns.map λ n=>(n,.ref (pA n))))∈ρ c
 h5:∀ c,∀ n∈ns,(pA n,AObj.idictE (pr n) (eP n))∈ρ c
 h6:∀ n∈ns,(pr n).length≤100
noncomputable def gY (pr:Int->List (Int×Value)) (n:Int):eT:=tup [.int n 0,.int (pr n).length 0]
theorem lu {C:Type} {ρ:C->Led} {iv ivd sd pd:Addr} {ns:List Int} {sA pA:Int->Addr} {pr:Int->List (Int×Value)} {e0:Nat} {eP:Int->Nat} (T:TE w B mg mb) (R:Rm A 0 0) (F:IvFacts ρ iv ivd sd pd ns sA pA pr e0 eP) (H:W prog w B g os σ s)
  (h:∀ I i μ gs s',gs.bare = true->GSt prog w B os ρ 2 12 i (ns.map (gY pr)) μ [] gs->W prog w B ((i,gs) :: g) os ((I,ar i) :: (μ++σ)) s'->Q (.ref I) s'):wpAny (model prog w) A (call (.ref 356) [.ref iv]) Q E s:=by
 have X:=T.X
 refine rU (kDv w.params) λ _ _ _ _ _ _ _ _ _ k10 k11 k12=>?_
 refine eG (args:=⟨[_],[]⟩) (cl:=λ L=>[(L,.frame (frM _ _ L 356)),(L + 1,.cell none)]) H R _ X T.lim ⟨(bk _ _ _ rfl),by kernel_rfl,rfl⟩ (λ s' _=>BindsTo.of_eq rfl) rfl (λ L=>rfl) ?_ ?_ ?_
 ·intro I i L s1 H₁
  refine h I i _ _ s1 rfl (fk ?_) H₁
  intro A' c o γo ret yld s2 R₂ H₂ hc
  refine ⟨rfl,jP λ HH gd lv hgd=>?_⟩
  have m1:=F.h1
  have m2:=F.h2
  refine dM λ E'=>?_
  refine mx (v:=.none) (c:=L + 1) H₂ (aF (aa (by walk_at "l") rfl)<|dL<|bQ X k12 (.tail _ (.tail _ (show _∈ρ c++o from List.mem_append_left _ (m1 c)))) (.tail _ (.tail _ (show _∈ρ c++o from List.mem_append_left _ (m2 c)))) (by rfl)) rfl (by walk_at "l") λ s3 H₃=>ay ⟨rfl,?_⟩
  refine dh (rK (b:=true) λ E'=>(aT (aq (c:=L + 1) rfl (by walk_at "l")) bH λ a0 b0 ea eb=>by cases ce ea;exact a9 rfl eb rfl).use H₃ λ s4 H₄=>⟨rfl,?_⟩)
  refine dh (oY λ E'=>(aF (aa (by walk_at "l") rfl)<|dL<|bQ X k11 (.tail _ (.tail _ (show _∈ρ c++o from List.mem_append_left _ (m1 c)))) (.tail _ (.tail _ (show _∈ρ c++o from List.mem_append_left _ (m2 c)))) (by rfl)).use H₄<|au λ s5 H₅=>?_)
  refine iB H₅ (.tail _ (.tail _ (show _∈ρ c++o from List.mem_append_left _ (F.h3 c)))) λ I₁ s₆ H₆ p=>?_
  have G:=cy (w:=w) (B:=B) (os:=os) (ρ:=ρ) (tg:=aM) (d:=1) (u:=9) (I:=I₁) (λ c=>F.h3 c) _ 0 rfl
  have G:bV prog w B os ρ aM 1 9 I₁ (ns.map λ n=>one (.int n 0)) [(I₁,cM sd 0 (ns.map λ n=>(n,Value.ref (sA n))).length e0)] []:=by
   have e:(ns.map λ n=>(n,Value.ref (sA n))).map (λ x=>one (.int x.1 0)) = ns.map λ n=>one (.int n 0):=by rw [List.map_map];rfl
   rw [← e];exact G
  have H7:=H₆.perm (nf (X:=ρ c) (o:=o))
  refine hU (P:=λ xs Y ω=>∃ ys m,xs = ys.map (λ n=>one (.int n 0))∧Y = ys.map (gY pr)∧(∀ n∈ys,n∈ns)∧m ("self":Str) = some (.ref iv)∧ω = [(L,.frame m),(L + 1,.cell (some .none))]) trivial (λ A R=>R.overFor (d:=1) (u:=9)) ?_ ?_ _ A' c o γo ret yld s₆ _ _ [] _ R₂ (dK ns _ rfl rfl (λ _ h=>h) (aJ ?q1 rfl)) G H7 hc
  case q1=>rfl
  ·intro A c o γo ret yld s xq xs Y μ₁ γ₁ ω v ν E R zr;refine iC zr λ ys m e1 zh1 hsub hm zh2=>?_;clear zr;obtain rfl:=zh1;obtain rfl:=zh2;intro hx H hc ag
   cases ys with
   | nil=>cases e1
   | cons n ys=>
   refine ae (List.cons.inj e1) λ zh1 zh2=>?_;obtain rfl:=zh1;obtain rfl:=zh2
   refine ae hx λ hv zh1=>?_;clear hx;obtain rfl:=zh1
   have hn:=hsub n (.head _)
   have H0:W prog w B ((i,.running) :: (γ₁++γo)) os ((L,.frame m) :: (L + 1,.cell (some .none)) :: (ρ c++(o++μ₁))) s:=H.perm kZ
   refine aG (al H0 (by walk_at "l") hv λ s3 H3=>?_)
   intro gd' lv' hgd'
   refine dM λ E'=>?_
   refine bh H3 (cH (aF (aa (by walk_at "l") (by exact hm))<|dL<|bQ X k10 (.tail _ (.tail _ (List.mem_append_left _ (F.h1 c)))) (.tail _ (.tail _ (List.mem_append_left _ (F.h2 c)))) (by rfl)) (aa (by walk_at "l") rfl) (.tail _ (.tail _ (List.mem_append_left _ (F.h4 c)))) (by rw [a8,if_pos hn])) (by walk_at "l") λ s4 H4=>ay ⟨rfl,?_⟩
   refine dh (j8 rfl hgd' (by show (gd false || false) = false;rw [hgd];rfl) λ E'=>?_)
   refine d6 (ab H4 (aa (by walk_at "l") rfl) λ a0 s5 ea H5=>ab H5 (dJ (T.boot (by decide)) (aa (by walk_at "l") rfl) λ v0 e=>lP (.tail _ (.tail _ (List.mem_append_left _ (F.h5 c n hn)))) e (by have:=F.h6 n hn;walk_at "r")) λ b0 s₆ eb H6=>ah ?_)
   refine bD H6 (ws:=[.int n 0,.int (pr n).length 0]) (by simp [ea,eb]) (by simp) λ t s7 H7=>?_
   intro gs hb hgs
   refine hc c (.ref t) [(t,.tup [.int n 0,.int (pr n).length 0])] (μ₁++[(L,.frame _),(L + 1,.cell (some .none))]) γ₁ gs s7 hb (ad t rfl rfl) (fk ?_) (H7.perm lB)
   intro A2 c2 o2 γ2 ret2 yld2 s8 R8 H8 hc8
   have H9:=H8.perm (lb (X:=ρ c2) (o:=o2) (μ:=μ₁))
   refine hgs _ _ _ (ag A2 c2 o2 γ2 ret2 yld2 s8 _ _ R8 (dK ys _ rfl rfl (λ n hn=>hsub n (.tail _ hn)) (aJ ?q2 rfl)) H9 hc8)
   case q2=>exact hm
  ·intro A c o γo ret yld s Y ω R zr;refine iC zr λ ys m e1 zh1 hsub hm zh2=>?_;clear zr;obtain rfl:=zh1;obtain rfl:=zh2;intro H hc
   have:ys = []:=by cases ys with | nil=>rfl | cons=>cases e1
   subst this
   refine dD (fJ (fJ (iP (.ret .none) (aQ rfl (.inl rfl) (hc c s (W.drop (W.drop (H.perm (lL (X:=ρ c) (o:=o))))))))))
 ·intro L x hx
  exact .inl (by revert x;exact locs rfl)
 ·intro L;exact List.nodup_cons.mpr ⟨by simp,List.nodup_nil⟩
set_option maxRecDepth 512
set_option maxHeartbeats 200000
theorem oA {a:Addr} {kvs:List (Int×Value)} {k:Int} {k0 v0 v:Value} {Q:Unit->Shared->Prop} (H:W prog w B g os σ s) (u:Up a (.idict kvs) σ f) (hk:cv k0 = .int k 0) (hv:cv v0 = v) (hz:kvs.length≤1000)
  (h:∀ s',W prog w B g os (f (.idict (stored kvs k v))) s'->Q () s'):wpAny (model prog w) A (dictSet a k0 v0) Q E s:=by
 refine ac (H.get u.mem) λ kvs0 hl e=>?_
 refine ai (ap hk) λ t zh1=>?_;obtain rfl:=zh1
 refine dq (id hl) λ o es ep ho zz hdd zz=>?_
 exact wpAny_dictSet_pairs (intKind_is prog w k t) hl (λ h' D' hs=>h _ (H.upd u hs.extBut (.dict ho hdd) (ad _ D' (by rw [dB,e,hv])))) (by rw [← e,List.length_map] at hz;rw [sizeLine_eq];walk_at "r")
theorem mD (H:W prog w B g os σ s) (h:∀ D s',W prog w B g os ((D,.idict []) :: σ) s'->Q (.ref D) s'):wpAny (model prog w) A newDict Q E s :=
 wpAny_newObj_type (h _ _ (H.add (t:=s.toks) (λ _ _ e=>Heap.get?_push_of_some _ e) (Nat.le_refl _) (ad [] (eN _ (#[]) 0 (Heap.get?_push_size _ rfl) (aQ rfl rfl rfl) rfl (λ e he=>by simp at he) .nil List.nodup_nil) rfl))) (by size_fits)
theorem h9 {kx vx target iter:Expr} {ifs:List Expr} {scope:Scope} {pos:Pos} {it:Value} {D:Addr} {R:Result->Shared->Prop} (I:Nat->Shared->Prop)
  (turn:∀ n s E',I n s->wpAny (model prog w) A (pyNext it) (λ r s1=>match r with
   | none=>R (.ok .next) s1
   | some v=>wpAny (model prog w) A (letOwnedTupleGo target it v) (λ _ s1'=>wpAny (model prog w) A (assign target env v) (λ _ s2=>
     wpAny (model prog w) A (bO ifs env) (λ ok s3=>
      if ok = true then wpAny (model prog w) A (eval kx env) (λ kv s4=>wpAny (model prog w) A (eval vx env) (λ vv s5=>
       wpAny (model prog w) A (dictSet D kv vv) (λ _ s₆=>∃ m,m < n∧I m s₆) E' s5) E' s4) E' s3
      else ∃ m,m < n∧I m s3) E' s2) E' s1') E' s1) E' s)
  (n:Nat) (h:I n s):codeAny (model prog w) A (.compLoop (.DictComp kx vx [⟨target,iter,ifs,0⟩] scope pos) 0 it (.ref D) env) R s:=by
 refine codeAny_loop rfl I (λ n s hI=>?_) n h
 show wpAny _ A ((compTurn (.DictComp kx vx [⟨target,iter,ifs,0⟩] scope pos) 0 it (.ref D) env).onRaise (λ x=>do noteFrame x env;theTreesLotGoes x)) _ _ s
 refine wpAny_noted ?_
 rw [compTurn_dict]
 refine wpAny_bind (wpAny_standAt (wpAny_bind (wpAny_mono (turn n s _ hI) (λ r s1 h1=>?_) λ _ _ h'=>h')))
 cases r with
 | none=>exact wpAny_pure h1
 | some v=>
  refine wpAny_bind (wpAny_mono h1 (λ _ s1' h1'=>?_) λ _ _ h'=>h')
  refine wpAny_bind (wpAny_mono h1' (λ _ s2 h2=>wpAny_bind (wpAny_mono h2 (λ ok s3 h3=>?_) λ _ _ h'=>h')) λ _ _ h'=>h')
  cases ok with
  | false=>exact wpAny_pure ⟨rfl,h3⟩
  | true=>
   exact wpAny_bind (wpAny_bind (wpAny_mono h3 (λ kv s4 h4=>wpAny_bind (wpAny_holding (wpAny_mono h4 (λ vv s5 h5=>wpAny_bind (wpAny_standAt (wpAny_holding (wpAny_mono h5 (λ _ s₆ h6=>wpAny_pure ⟨rfl,h6⟩) λ _ _ h'=>h')))) λ _ _ h'=>h'))) λ _ _ h'=>h'))
theorem gm {C:Type} {ρ:C->Led} {tg:Expr->Prop} {d u:Nat} {elt target iter:Expr} {ifs:List Expr} {scope:Scope} {cl:List (Str×Addr)} {pos:Pos} {Q:Unit->Shared->Prop} {u0:Value->Sem Unit}
  (J:List eT->List Value->Led->c9->Prop) (htg:tg target) (hR:Rm A d u)
  (hclos:closureFor scope env = pure cl)
  (it:wpAny (model prog w) A (eval iter env) (λ v s1=>wpAny (model prog w) A (pyIter v) (λ i s2=>∃ I xs μ γ c o γo,i = .ref I∧xs.length≤1000∧bV prog w B os ρ tg d u I xs μ γ∧oj prog w B os ρ I μ γ ∧
   J xs [] o γo∧W prog w B (γ++γo) os (μ++(ρ c++o)) s2) E s1) E s)
  (turn:∀ x xs ws D Cf m μ γ o γo c v ν s E',J (x :: xs) ws o γo->x v ν->W prog w B (γ++γo) os ((Cf,.frame m) :: (D,.list ws) :: (ν++(μ++(ρ c++o)))) s ->
   wpAny (model prog w) A (assign target (compEnvC scope cl Cf env) v) (λ _ s2=>wpAny (model prog w) A (bO ifs (compEnvC scope cl Cf env)) (λ ok s3=>
    if ok = true then wpAny (model prog w) A (eval elt (compEnvC scope cl Cf env)) (λ y s4=>∃ m' c' o' γo',J xs (ws++[cv y]) o' γo'∧W prog w B (γ++γo') os ((Cf,.frame m') :: (D,.list ws) :: (μ++(ρ c'++o'))) s4) E' s3
    else ∃ m' c' o' γo',J xs ws o' γo'∧W prog w B (γ++γo') os ((Cf,.frame m') :: (D,.list ws) :: (μ++(ρ c'++o'))) s3) E' s2) E' s)
  (done:∀ D Cf m ws o γo c s,J [] ws o γo->W prog w B γo os ((Cf,.frame m) :: (D,.list ws) :: (ρ c++o)) s->wpAny (model prog w) A (u0 (.ref D)) (λ _ s''=>∃ m' σ',W prog w B γo os ((Cf,.frame m') :: σ') s''∧∀ s3,W prog w B γo os σ' s3->Q () s3) E s)
  (hcell:∀ y∈scope.names,y.2≠.cell:=by decide +kernel) (hkind:scope.kind = .function:=by rfl)
  (hnames:∀ x∈scope.names,x.2 = .local->scope.names.lookup x.1 = some .local:=by decide +kernel)
  (hs:∀ x,foldedSetIterable iter env x = pure x:=by intro _;rfl) :
  wpAny (model prog w) A (evalThenUse (.ListComp elt [⟨target,iter,ifs,0⟩] scope pos) env u0) Q E s:=by
 show wpAny _ A (comprehension _ scope env _ (newList []) _ _ (some u0) >>= λ _=>pure ()) Q E s
 refine wpAny_bind (wpAny_mono (Q:=λ _ s'=>Q () s') ?_ (λ _ _ z=>wpAny_pure z) λ _ _ z=>z)
 refine wpAny_comprehension_free (use:=some u0) rfl hs hclos hkind hnames (wpAny_mono it (λ xv s1 h₁=>wpAny_mono h₁ (λ it s2 h₂=>?_) λ _ _ e=>e) λ _ _ e=>e)
 refine cw h₂ λ I xs μ zk0=>?_;refine cx zk0 λ γ c o γo zh1 hlen G S zk1=>?_;clear zk0;refine ae zk1 λ hJ H=>?_;clear zk1;clear h₂;obtain rfl:=zh1
 refine du H rfl (by simp) λ D s3 H₃=>?_
 refine wpAny_newFunctionEnv hcell (by intro y hy;simp at hy) (λ h₁ hns1 hsb1=>?_) hkind
 have hkp:∀ b o,s3.heap.get? b = some o->h₁.get? b = some o:=λ b o e=>hsb1.extBut b o (Nat.ne_of_lt (Heap.lt_size e)) (Heap.get?_push_of_some _ e)
 have H₄:W prog w B (γ++γo) os ((s3.heap.objs.size,.frame λ _=>none) :: (D,.list []) :: (μ++(ρ c++o))) { s3 with heap:=h₁,toks:=s3.toks + ([]:List (Str×Value)).length } :=
  H₃.add hkp (Nat.le_refl _) (ad _ hns1 (λ x=>rfl))
 generalize s3.heap.objs.size = Cf at H₄ ⊢
 generalize ({ s3 with heap:=h₁,toks:=s3.toks + ([]:List (Str×Value)).length }:Shared) = s4 at H₄ ⊢
 have loop:∀ s5,W prog w B (γ++γo) os ((Cf,.frame λ _=>none) :: (D,.list []) :: (μ++(ρ c++o))) s5 ->
   codeAny (model prog w) A (.compLoop (.ListComp elt [⟨target,iter,ifs,0⟩] scope pos) 0 (.ref I) (.ref D) (compEnvC scope cl Cf env)) (compPost (model prog w) A E (some u0) (λ _ s'=>Q () s') (.ref D) Cf) s5:=by
  intro s5 H₅
  refine er (λ n s'=>∃ xs ws m μ γ c o γo,n = xs.length∧ws.length + xs.length≤1000∧bV prog w B os ρ tg d u I xs μ γ∧J xs ws o γo∧W prog w B (γ++γo) os ((Cf,.frame m) :: (D,.list ws) :: (μ++(ρ c++o))) s')
   ?_ xs.length (ip xs [] _ μ γ c o γo rfl (by simpa using hlen) G hJ H₅)
  intro n s' E' hJ0
  refine eL λ Q1 hQ1=>?_
  refine n8 hJ0 λ xs ws m μ γ c o γo zh1 hz G hJ H=>?_;clear hJ0;obtain rfl:=zh1
  have H':W prog w B (γ++γo) os (μ++(ρ c++((Cf,.frame m) :: (D,.list ws) :: o))) s':=H.perm (by
   have h1:((Cf,AObj.frame m) :: (D,AObj.list ws) :: (μ++(ρ c++o))) = [(Cf,AObj.frame m),(D,AObj.list ws)]++((μ++ρ c)++o):=by simp
   have h2:μ++(ρ c++((Cf,AObj.frame m) :: (D,AObj.list ws) :: o)) = (μ++ρ c)++([(Cf,AObj.frame m),(D,AObj.list ws)]++o):=by simp
   rw [h1,h2];exact List.perm_append_comm_assoc ..)
  cases xs with
  | nil=>
   refine wpAny_mono (G A c _ γo _ s' hR H') (λ r s1 h₁=>hQ1 _ _ ?_) λ _ _ e=>e
   refine ae h₁ λ zh1 zh2=>?_;clear h₁;obtain rfl:=zh1;refine ai zh2 λ c' H''=>?_;clear zh2
   have H3:W prog w B γo os ((Cf,.frame m) :: (D,.list ws) :: (ρ c'++o)) s1:=H''.perm (by
    have h2:ρ c'++((Cf,AObj.frame m) :: (D,AObj.list ws) :: o) = ρ c'++([(Cf,AObj.frame m),(D,AObj.list ws)]++o):=by simp
    rw [h2];exact (List.perm_append_comm_assoc ..))
   refine wpAny_mono (done D Cf m ws o γo c' _ hJ H3) (λ _ s'' z=>?_) λ _ _ z=>z
   refine bC z λ m' σ' H4 hq=>?_;clear z
   refine ac (H4.get (.head _)) λ m0 hn zz=>?_
   exact (ad m0 hn (λ h' hs'=>hq _ (H4.lose (t:=s''.toks) hs'.extBut (.ns hn))))
  | cons x xs=>
   refine wpAny_mono (G A c _ γo _ s' hR H') (λ r s1 h₁=>hQ1 _ _ ?_) λ _ _ e=>e
   refine gw h₁ λ v ν μ' γ' c' zh1 hx G' hl=>?_;clear h₁;obtain rfl:=zh1
   refine wpAny_mono (hl target htg _) (λ _ s2 H₂=>?_) λ _ _ e=>e
   have H3:W prog w B (γ'++γo) os ((Cf,.frame m) :: (D,.list ws) :: (ν++(μ'++(ρ c'++o)))) s2:=H₂.perm (by
    have h1:ν++(μ'++(ρ c'++((Cf,AObj.frame m) :: (D,AObj.list ws) :: o))) = (ν++μ'++ρ c')++([(Cf,AObj.frame m),(D,AObj.list ws)]++o):=by simp
    have h2:((Cf,AObj.frame m) :: (D,AObj.list ws) :: (ν++(μ'++(ρ c'++o)))) = [(Cf,AObj.frame m),(D,AObj.list ws)]++((ν++μ'++ρ c')++o):=by simp
    rw [h1,h2];exact (List.perm_append_comm_assoc ..))
   refine wpAny_mono (turn x xs ws D Cf m μ' γ' o γo c' v ν s2 E' hJ hx H3) (λ _ s3 h3=>wpAny_mono h3 (λ ok s4 h4=>?_) λ _ _ e=>e) λ _ _ e=>e
   have hz':ws.length + 1 + xs.length≤1000:=by simp only [List.length_cons] at hz;walk_at "r"
   cases ok with
   | false=>
    simp only [Bool.false_eq_true,if_false] at h4 ⊢
    refine eX h4 λ m' c'' o' γo' hJ' H4=>?_;clear h4
    exact (ad _ (Nat.lt_succ_self _) (ip xs ws m' μ' γ' c'' o' γo' rfl (by walk_at "r") G' hJ' H4))
   | true=>
    simp only [if_true] at h4 ⊢
    refine wpAny_mono h4 (λ y s5 h5=>?_) λ _ _ e=>e
    refine eX h5 λ m' c'' o' γo' hJ' H4=>?_;clear h5
    refine j2 H4 (.tail .head) rfl (by walk_at "r") λ s₆ H₆=>?_
    exact (ad _ (Nat.lt_succ_self _) (ip xs (ws++[cv y]) m' μ' γ' c'' o' γo' rfl (by simp;walk_at "r") G' hJ' H₆))
 refine codeAny_compStart_list (loop _ H₄) (wpAny_mono (S A c ((Cf,.frame λ _=>none) :: (D,.list []) :: o) γo _ s4 (H₄.perm ?_)) (λ it' s5 h5=>?_) λ _ _ e=>e)
 ·have h1:((Cf,AObj.frame λ _=>none) :: (D,AObj.list []) :: (μ++(ρ c++o))) = [(Cf,AObj.frame λ _=>none),(D,AObj.list [])]++((μ++ρ c)++o):=by simp
  have h2:μ++(ρ c++((Cf,AObj.frame λ _=>none) :: (D,AObj.list []) :: o)) = (μ++ρ c)++([(Cf,AObj.frame λ _=>none),(D,AObj.list [])]++o):=by simp
  rw [h1,h2];exact List.perm_append_comm_assoc ..
 ·refine ae h5 λ zh1 H₅=>?_;clear h5;obtain rfl:=zh1
  refine loop _ (H₅.perm ?_)
  have h1:((Cf,AObj.frame λ _=>none) :: (D,AObj.list []) :: (μ++(ρ c++o))) = [(Cf,AObj.frame λ _=>none),(D,AObj.list [])]++((μ++ρ c)++o):=by simp
  have h2:μ++(ρ c++((Cf,AObj.frame λ _=>none) :: (D,AObj.list []) :: o)) = (μ++ρ c)++([(Cf,AObj.frame λ _=>none),(D,AObj.list [])]++o):=by simp
  rw [h1,h2];exact List.perm_append_comm_assoc ..
theorem i3 {first:Sem Value} {cpos:Pos} {C:Type} {ρ:C->Led} {tg:Expr->Prop} {d u:Nat} {kx vx target iter:Expr} {ifs:List Expr} {scope:Scope} {cl:List (Str×Addr)} {pos:Pos} {Q:Shared->Prop} {u0:Value->Sem Unit}
  (J:List eT->List (Int×Value)->Led->c9->Prop) (htg:tg target) (hR:Rm A d u)
  (hclos:closureFor scope env = pure cl)
  (it:wpAny (model prog w) A first (λ v s1=>wpAny (model prog w) A (pyIter v) (λ i s2=>∃ I xs μ γ c o γo,i = .ref I∧xs.length≤1000∧bV prog w B os ρ tg d u I xs μ γ∧oj prog w B os ρ I μ γ ∧
   J xs [] o γo∧W prog w B (γ++γo) os (μ++(ρ c++o)) s2) E s1) E s)
  (turn:∀ x xs ws D Cf m μ γ o γo c v ν s E',J (x :: xs) ws o γo->x v ν->W prog w B (γ++γo) os ((Cf,.frame m) :: (D,.idict ws) :: (ν++(μ++(ρ c++o)))) s ->
   wpAny (model prog w) A (assign target (compEnvC scope cl Cf env) v) (λ _ s2=>wpAny (model prog w) A (bO ifs (compEnvC scope cl Cf env)) (λ ok s3=>
    if ok = true then wpAny (model prog w) A (eval kx (compEnvC scope cl Cf env)) (λ y s4=>wpAny (model prog w) A (eval vx (compEnvC scope cl Cf env)) (λ z s5=>∃ k m' c' o' γo',cv y = .int k 0∧J xs (stored ws k (cv z)) o' γo'∧W prog w B (γ++γo') os ((Cf,.frame m') :: (D,.idict ws) :: (μ++(ρ c'++o'))) s5) E' s4) E' s3
    else ∃ m' c' o' γo',J xs ws o' γo'∧W prog w B (γ++γo') os ((Cf,.frame m') :: (D,.idict ws) :: (μ++(ρ c'++o'))) s3) E' s2) E' s)
  (done:∀ D Cf m ws o γo c s,J [] ws o γo->W prog w B γo os ((Cf,.frame m) :: (D,.idict ws) :: (ρ c++o)) s->wpAny (model prog w) A (u0 (.ref D)) (λ _ s''=>∃ m' σ',W prog w B γo os ((Cf,.frame m') :: σ') s''∧∀ s3,W prog w B γo os σ' s3->Q s3) E s)
  (hcell:∀ y∈scope.names,y.2≠.cell:=by decide +kernel) (hkind:scope.kind = .function:=by rfl)
  (hnames:∀ x∈scope.names,x.2 = .local->scope.names.lookup x.1 = some .local:=by decide +kernel)
  (hs:∀ x,foldedSetIterable iter env x = pure x:=by intro _;rfl) :
  wpAny (model prog w) A (comprehension (.DictComp kx vx [⟨target,iter,ifs,0⟩] scope pos) scope env cpos newDict false first (some u0)) (λ _ s'=>Q s') E s:=by
 refine wpAny_comprehension_free (use:=some u0) rfl hs hclos hkind hnames (wpAny_mono it (λ xv s1 h₁=>wpAny_mono h₁ (λ it s2 h₂=>?_) λ _ _ e=>e) λ _ _ e=>e)
 refine cw h₂ λ I xs μ zk0=>?_;refine cx zk0 λ γ c o γo zh1 hlen G S zk1=>?_;clear zk0;refine ae zk1 λ hJ H=>?_;clear zk1;clear h₂;obtain rfl:=zh1
 refine mD H λ D s3 H₃=>?_
 refine wpAny_newFunctionEnv hcell (by intro y hy;simp at hy) (λ h₁ hns1 hsb1=>?_) hkind
 have hkp:∀ b o,s3.heap.get? b = some o->h₁.get? b = some o:=λ b o e=>hsb1.extBut b o (Nat.ne_of_lt (Heap.lt_size e)) (Heap.get?_push_of_some _ e)
 have H₄:W prog w B (γ++γo) os ((s3.heap.objs.size,.frame λ _=>none) :: (D,.idict []) :: (μ++(ρ c++o))) { s3 with heap:=h₁,toks:=s3.toks + ([]:List (Str×Value)).length } :=
  H₃.add hkp (Nat.le_refl _) (ad _ hns1 (λ x=>rfl))
 generalize s3.heap.objs.size = Cf at H₄ ⊢
 generalize ({ s3 with heap:=h₁,toks:=s3.toks + ([]:List (Str×Value)).length }:Shared) = s4 at H₄ ⊢
 have loop:∀ s5,W prog w B (γ++γo) os ((Cf,.frame λ _=>none) :: (D,.idict []) :: (μ++(ρ c++o))) s5 ->
   codeAny (model prog w) A (.compLoop (.DictComp kx vx [⟨target,iter,ifs,0⟩] scope pos) 0 (.ref I) (.ref D) (compEnvC scope cl Cf env)) (compPost (model prog w) A E (some u0) (λ _ s'=>Q s') (.ref D) Cf) s5:=by
  intro s5 H₅
  refine h9 (λ n s'=>∃ xs ws m μ γ c o γo,n = xs.length∧ws.length + xs.length≤1000∧bV prog w B os ρ tg d u I xs μ γ∧J xs ws o γo∧W prog w B (γ++γo) os ((Cf,.frame m) :: (D,.idict ws) :: (μ++(ρ c++o))) s')
   ?_ xs.length (ip xs [] _ μ γ c o γo rfl (by simpa using hlen) G hJ H₅)
  intro n s' E' hJ0
  refine eL λ Q1 hQ1=>?_
  refine n8 hJ0 λ xs ws m μ γ c o γo zh1 hz G hJ H=>?_;clear hJ0;obtain rfl:=zh1
  have H':W prog w B (γ++γo) os (μ++(ρ c++((Cf,.frame m) :: (D,.idict ws) :: o))) s':=H.perm (by
   have h1:((Cf,AObj.frame m) :: (D,AObj.idict ws) :: (μ++(ρ c++o))) = [(Cf,AObj.frame m),(D,AObj.idict ws)]++((μ++ρ c)++o):=by simp
   have h2:μ++(ρ c++((Cf,AObj.frame m) :: (D,AObj.idict ws) :: o)) = (μ++ρ c)++([(Cf,AObj.frame m),(D,AObj.idict ws)]++o):=by simp
   rw [h1,h2];exact List.perm_append_comm_assoc ..)
  cases xs with
  | nil=>
   refine wpAny_mono (G A c _ γo _ s' hR H') (λ r s1 h₁=>hQ1 _ _ ?_) λ _ _ e=>e
   refine ae h₁ λ zh1 zh2=>?_;clear h₁;obtain rfl:=zh1;refine ai zh2 λ c' H''=>?_;clear zh2
   have H3:W prog w B γo os ((Cf,.frame m) :: (D,.idict ws) :: (ρ c'++o)) s1:=H''.perm (by
    have h2:ρ c'++((Cf,AObj.frame m) :: (D,AObj.idict ws) :: o) = ρ c'++([(Cf,AObj.frame m),(D,AObj.idict ws)]++o):=by simp
    rw [h2];exact (List.perm_append_comm_assoc ..))
   refine wpAny_mono (done D Cf m ws o γo c' _ hJ H3) (λ _ s'' z=>?_) λ _ _ z=>z
   refine bC z λ m' σ' H4 hq=>?_;clear z
   refine ac (H4.get (.head _)) λ m0 hn zz=>?_
   exact (ad m0 hn (λ h' hs'=>hq _ (H4.lose (t:=s''.toks) hs'.extBut (.ns hn))))
  | cons x xs=>
   refine wpAny_mono (G A c _ γo _ s' hR H') (λ r s1 h₁=>hQ1 _ _ ?_) λ _ _ e=>e
   refine gw h₁ λ v ν μ' γ' c' zh1 hx G' hl=>?_;clear h₁;obtain rfl:=zh1
   refine wpAny_mono (hl target htg _) (λ _ s2 H₂=>?_) λ _ _ e=>e
   have H3:W prog w B (γ'++γo) os ((Cf,.frame m) :: (D,.idict ws) :: (ν++(μ'++(ρ c'++o)))) s2:=H₂.perm (by
    have h1:ν++(μ'++(ρ c'++((Cf,AObj.frame m) :: (D,AObj.idict ws) :: o))) = (ν++μ'++ρ c')++([(Cf,AObj.frame m),(D,AObj.idict ws)]++o):=by simp
    have h2:((Cf,AObj.frame m) :: (D,AObj.idict ws) :: (ν++(μ'++(ρ c'++o)))) = [(Cf,AObj.frame m),(D,AObj.idict ws)]++((ν++μ'++ρ c')++o):=by simp
    rw [h1,h2];exact (List.perm_append_comm_assoc ..))
   refine wpAny_mono (turn x xs ws D Cf m μ' γ' o γo c' v ν s2 E' hJ hx H3) (λ _ s3 h3=>wpAny_mono h3 (λ ok s4 h4=>?_) λ _ _ e=>e) λ _ _ e=>e
   have hz':ws.length + 1 + xs.length≤1000:=by simp only [List.length_cons] at hz;walk_at "r"
   cases ok with
   | false=>
    simp only [Bool.false_eq_true,if_false] at h4 ⊢
    refine eX h4 λ m' c'' o' γo' hJ' H4=>?_;clear h4
    exact (ad _ (Nat.lt_succ_self _) (ip xs ws m' μ' γ' c'' o' γo' rfl (by walk_at "r") G' hJ' H4))
   | true=>
    simp only [if_true] at h4 ⊢
    refine wpAny_mono h4 (λ y s5 h5=>wpAny_mono h5 (λ z s₆ h6=>?_) λ _ _ e=>e) λ _ _ e=>e
    refine cw h6 λ k m' c'' zk0=>?_;refine aV zk0 λ o' γo' hk hJ' H4=>?_;clear zk0;clear h6
    refine oA H4 (.tail .head) hk rfl (by walk_at "r") λ s7 H₇=>?_
    exact (ad _ (Nat.lt_succ_self _) (ip xs (stored ws k (cv z)) m' μ' γ' c'' o' γo' rfl (by have:=stored_length_le ws k (cv z);walk_at "r") G' hJ' H₇))
 refine codeAny_compStart_dict (loop _ H₄) (wpAny_mono (S A c ((Cf,.frame λ _=>none) :: (D,.idict []) :: o) γo _ s4 (H₄.perm ?_)) (λ it' s5 h5=>?_) λ _ _ e=>e)
 ·have h1:((Cf,AObj.frame λ _=>none) :: (D,AObj.idict []) :: (μ++(ρ c++o))) = [(Cf,AObj.frame λ _=>none),(D,AObj.idict [])]++((μ++ρ c)++o):=by simp
  have h2:μ++(ρ c++((Cf,AObj.frame λ _=>none) :: (D,AObj.idict []) :: o)) = (μ++ρ c)++([(Cf,AObj.frame λ _=>none),(D,AObj.idict [])]++o):=by simp
  rw [h1,h2];exact List.perm_append_comm_assoc ..
 ·refine ae h5 λ zh1 H₅=>?_;clear h5;obtain rfl:=zh1
  refine loop _ (H₅.perm ?_)
  have h1:((Cf,AObj.frame λ _=>none) :: (D,AObj.idict []) :: (μ++(ρ c++o))) = [(Cf,AObj.frame λ _=>none),(D,AObj.idict [])]++((μ++ρ c)++o):=by simp
  have h2:μ++(ρ c++((Cf,AObj.frame λ _=>none) :: (D,AObj.idict []) :: o)) = (μ++ρ c)++([(Cf,AObj.frame λ _=>none),(D,AObj.idict [])]++o):=by simp
  rw [h1,h2];exact List.perm_append_comm_assoc ..
theorem mE {C:Type} {ρ:C->Led} {tg:Expr->Prop} {d u:Nat} {kx vx target iter:Expr} {ifs:List Expr} {scope:Scope} {cl:List (Str×Addr)} {pos:Pos} {Q:Unit->Shared->Prop} {u0:Value->Sem Unit}
  (J:List eT->List (Int×Value)->Led->c9->Prop) (htg:tg target) (hR:Rm A d u)
  (hclos:closureFor scope env = pure cl)
  (it:wpAny (model prog w) A (eval iter env) (λ v s1=>wpAny (model prog w) A (pyIter v) (λ i s2=>∃ I xs μ γ c o γo,i = .ref I∧xs.length≤1000∧bV prog w B os ρ tg d u I xs μ γ∧oj prog w B os ρ I μ γ ∧
   J xs [] o γo∧W prog w B (γ++γo) os (μ++(ρ c++o)) s2) E s1) E s)
  (turn:∀ x xs ws D Cf m μ γ o γo c v ν s E',J (x :: xs) ws o γo->x v ν->W prog w B (γ++γo) os ((Cf,.frame m) :: (D,.idict ws) :: (ν++(μ++(ρ c++o)))) s ->
   wpAny (model prog w) A (assign target (compEnvC scope cl Cf env) v) (λ _ s2=>wpAny (model prog w) A (bO ifs (compEnvC scope cl Cf env)) (λ ok s3=>
    if ok = true then wpAny (model prog w) A (eval kx (compEnvC scope cl Cf env)) (λ y s4=>wpAny (model prog w) A (eval vx (compEnvC scope cl Cf env)) (λ z s5=>∃ k m' c' o' γo',cv y = .int k 0∧J xs (stored ws k (cv z)) o' γo'∧W prog w B (γ++γo') os ((Cf,.frame m') :: (D,.idict ws) :: (μ++(ρ c'++o'))) s5) E' s4) E' s3
    else ∃ m' c' o' γo',J xs ws o' γo'∧W prog w B (γ++γo') os ((Cf,.frame m') :: (D,.idict ws) :: (μ++(ρ c'++o'))) s3) E' s2) E' s)
  (done:∀ D Cf m ws o γo c s,J [] ws o γo->W prog w B γo os ((Cf,.frame m) :: (D,.idict ws) :: (ρ c++o)) s->wpAny (model prog w) A (u0 (.ref D)) (λ _ s''=>∃ m' σ',W prog w B γo os ((Cf,.frame m') :: σ') s''∧∀ s3,W prog w B γo os σ' s3->Q () s3) E s)
  (hcell:∀ y∈scope.names,y.2≠.cell:=by decide +kernel) (hkind:scope.kind = .function:=by rfl)
  (hnames:∀ x∈scope.names,x.2 = .local->scope.names.lookup x.1 = some .local:=by decide +kernel)
  (hs:∀ x,foldedSetIterable iter env x = pure x:=by intro _;rfl) :
  wpAny (model prog w) A (evalThenUse (.DictComp kx vx [⟨target,iter,ifs,0⟩] scope pos) env u0) Q E s:=by
 show wpAny _ A (comprehension _ scope env _ newDict _ _ (some u0) >>= λ _=>pure ()) Q E s
 exact wpAny_bind (wpAny_mono (i3 (Q:=Q ()) J htg hR hclos it turn done hcell hkind hnames hs) (λ _ _ z=>wpAny_pure z) λ _ _ z=>z)
theorem ph {Cf D:Addr} {m:Str->Option Value} {ws:List Value} {ν μ σ o:Led}:((Cf,AObj.frame m) :: (D,.list ws) :: (ν++(μ++(σ++o)))).Perm ((Cf,.frame m) :: (ν++(o++((D,.list ws) :: (μ++σ))))):=by
 refine .cons _ ((List.perm_middle (a:=(D,AObj.list ws)) (l₁:=ν) (l₂:=μ++(σ++o))).symm.trans (.append_left ν ?_))
 refine List.Perm.trans (.of_eq ?_) (List.perm_append_comm (l₁:=(D,AObj.list ws) :: (μ++σ)) (l₂:=o))
 rw [List.cons_append,List.append_assoc]
theorem kt {Cf D:Addr} {m:Str->Option Value} {ws:List Value} {μ σ o:Led}:((Cf,AObj.frame m) :: (o++((D,.list ws) :: (μ++σ)))).Perm ((Cf,.frame m) :: (D,.list ws) :: (μ++(σ++o))) :=
 (ph (ν:=[])).symm
theorem fS {α:Type} {a b:α} {X T:List α}:(a :: b :: (X++T)).Perm (b :: ((X++[a])++T)) :=
 (List.Perm.swap b a _).trans (.cons b (by rw [List.append_assoc];exact List.perm_middle.symm))
theorem dl {tg:Expr->Prop} {d u:Nat} {elt target iter:Expr} {ifs:List Expr} {scope:Scope} {cl:List (Str×Addr)} {pos:Pos}
  (J:List eT->List Value->Led->Prop) (htg:tg target) (hR:Rm A d u)
  (hclos:closureFor scope env = pure cl)
  (it:wpAny (model prog w) A (eval iter env) (λ v s1=>wpAny (model prog w) A (pyIter v) (λ i s2=>∃ I xs μ γ,i = .ref I∧xs.length≤1000∧bV prog w B os (λ _:Unit=>σ) tg d u I xs μ γ∧oj prog w B os (λ _:Unit=>σ) I μ γ ∧
   J xs [] []∧W prog w B (γ++g) os (μ++σ) s2) E s1) E s)
  (turn:∀ x xs ws Cf m γ o v ν τ s E' (Qy:Value->Shared->Prop) (Qn:Shared->Prop),(∀ p∈σ,p∈τ)->J (x :: xs) ws o->x v ν->W prog w B γ os ((Cf,.frame m) :: (ν++(o++τ))) s ->
   (∀ y m' o' s',J xs (ws++[cv y]) o'->W prog w B γ os ((Cf,.frame m') :: (o'++τ)) s'->Qy y s')->(∀ m' o' s',J xs ws o'->W prog w B γ os ((Cf,.frame m') :: (o'++τ)) s'->Qn s') ->
   wpAny (model prog w) A (assign target (compEnvC scope cl Cf env) v) (λ _ s2=>wpAny (model prog w) A (bO ifs (compEnvC scope cl Cf env)) (λ ok s3=>
    if ok = true then wpAny (model prog w) A (eval elt (compEnvC scope cl Cf env)) Qy E' s3 else Qn s3) E' s2) E' s)
  (done:∀ D ws o s,J [] ws o->W prog w B g os ((D,.list ws) :: (σ++o)) s->Q (.ref D) s)
  (hcell:∀ y∈scope.names,y.2≠.cell:=by decide +kernel) (hkind:scope.kind = .function:=by rfl)
  (hnames:∀ x∈scope.names,x.2 = .local->scope.names.lookup x.1 = some .local:=by decide +kernel)
  (hs:∀ x,foldedSetIterable iter env x = pure x:=by intro _;rfl) :
  wpAny (model prog w) A (eval (.ListComp elt [⟨target,iter,ifs,0⟩] scope pos) env) Q E s:=by
 refine oI (C:=Unit) (B:=B) (os:=os) (ρ:=λ _=>σ) (λ xs ws o γo=>γo = g∧J xs ws o) htg hR hclos (wpAny_mono it (λ v s1 h1=>wpAny_mono h1 (λ i s2 h2=>?_) λ _ _ e=>e) λ _ _ e=>e) ?_ ?_ hcell hkind hnames hs
 ·refine cx h2 λ I xs μ γ zh1 hl G S zk0=>?_;refine ae zk0 λ hJ H=>?_;clear zk0;clear h2;obtain rfl:=zh1
  exact (jK I xs μ γ () [] g rfl hl G S ⟨rfl,hJ⟩ (by rw [List.append_nil];exact H))
 ·intro x xs ws D Cf m μ γ o γo c v ν s E' zr;refine ae zr λ zh1 hJ=>?_;clear zr;obtain rfl:=zh1;intro hx H
  refine turn x xs ws Cf m _ o v ν ((D,.list ws) :: (μ++σ)) s E' _ _ (λ p hp=>.tail _ (List.mem_append_right _ hp)) hJ hx (H.perm ph) (λ y m' o' s' hJ' H'=>?_) λ m' o' s' hJ' H'=>?_
  ·exact (dO m' () o' _ ⟨rfl,hJ'⟩ (H'.perm kt))
  ·exact (dO m' () o' _ ⟨rfl,hJ'⟩ (H'.perm kt))
 ·intro D ws o γo c s zr;refine ae zr λ zh1 hJ=>?_;clear zr;obtain rfl:=zh1;intro H
  exact done D ws o s hJ H
theorem lo {tg:Expr->Prop} {d u:Nat} {elt target iter:Expr} {ifs:List Expr} {scope:Scope} {cl:List (Str×Addr)} {pos:Pos} {Q:Unit->Shared->Prop} {u0:Value->Sem Unit}
  (J:List eT->List Value->Led->Prop) (htg:tg target) (hR:Rm A d u)
  (hclos:closureFor scope env = pure cl)
  (it:wpAny (model prog w) A (eval iter env) (λ v s1=>wpAny (model prog w) A (pyIter v) (λ i s2=>∃ I xs μ γ,i = .ref I∧xs.length≤1000∧bV prog w B os (λ _:Unit=>σ) tg d u I xs μ γ∧oj prog w B os (λ _:Unit=>σ) I μ γ ∧
   J xs [] []∧W prog w B (γ++g) os (μ++σ) s2) E s1) E s)
  (turn:∀ x xs ws Cf m γ o v ν τ s E' (Qy:Value->Shared->Prop) (Qn:Shared->Prop),(∀ p∈σ,p∈τ)->J (x :: xs) ws o->x v ν->W prog w B γ os ((Cf,.frame m) :: (ν++(o++τ))) s ->
   (∀ y m' o' s',J xs (ws++[cv y]) o'->W prog w B γ os ((Cf,.frame m') :: (o'++τ)) s'->Qy y s')->(∀ m' o' s',J xs ws o'->W prog w B γ os ((Cf,.frame m') :: (o'++τ)) s'->Qn s') ->
   wpAny (model prog w) A (assign target (compEnvC scope cl Cf env) v) (λ _ s2=>wpAny (model prog w) A (bO ifs (compEnvC scope cl Cf env)) (λ ok s3=>
    if ok = true then wpAny (model prog w) A (eval elt (compEnvC scope cl Cf env)) Qy E' s3 else Qn s3) E' s2) E' s)
  (done:∀ D Cf m ws o s (Qd:Shared->Prop),J [] ws o->W prog w B g os ((Cf,.frame m) :: (D,.list ws) :: (σ++o)) s->(∀ m' σ' s'',W prog w B g os ((Cf,.frame m') :: σ') s''->(∀ s3,W prog w B g os σ' s3->Q () s3)->Qd s'')->wpAny (model prog w) A (u0 (.ref D)) (λ _=>Qd) E s)
  (hcell:∀ y∈scope.names,y.2≠.cell:=by decide +kernel) (hkind:scope.kind = .function:=by rfl)
  (hnames:∀ x∈scope.names,x.2 = .local->scope.names.lookup x.1 = some .local:=by decide +kernel)
  (hs:∀ x,foldedSetIterable iter env x = pure x:=by intro _;rfl) :
  wpAny (model prog w) A (evalThenUse (.ListComp elt [⟨target,iter,ifs,0⟩] scope pos) env u0) Q E s:=by
 refine gm (C:=Unit) (B:=B) (os:=os) (ρ:=λ _=>σ) (λ xs ws o γo=>γo = g∧J xs ws o) htg hR hclos (wpAny_mono it (λ v s1 h₁=>wpAny_mono h₁ (λ i s2 h₂=>?_) λ _ _ e=>e) λ _ _ e=>e) ?_ ?_ hcell hkind hnames hs
 ·refine cx h₂ λ I xs μ γ zh1 hl G S zk0=>?_;refine ae zk0 λ hJ H=>?_;clear zk0;clear h₂;obtain rfl:=zh1
  exact (jK I xs μ γ () [] g rfl hl G S ⟨rfl,hJ⟩ (by rw [List.append_nil];exact H))
 ·intro x xs ws D Cf m μ γ o γo c v ν s E' zr;refine ae zr λ zh1 hJ=>?_;clear zr;obtain rfl:=zh1;intro hx H
  refine turn x xs ws Cf m _ o v ν ((D,.list ws) :: (μ++σ)) s E' _ _ (λ p hp=>.tail _ (List.mem_append_right _ hp)) hJ hx (H.perm ph) (λ y m' o' s' hJ' H'=>?_) λ m' o' s' hJ' H'=>?_
  ·exact (dO m' () o' _ ⟨rfl,hJ'⟩ (H'.perm kt))
  ·exact (dO m' () o' _ ⟨rfl,hJ'⟩ (H'.perm kt))
 ·intro D Cf m ws o γo c s zr;refine ae zr λ zh1 hJ=>?_;clear zr;obtain rfl:=zh1;intro H
  exact done D Cf m ws o s _ hJ H λ m' σ' s'' h1 h2=>(br m' σ' h1 h2)
set_option maxRecDepth 100000
set_option maxHeartbeats 2000000
theorem kGm (P:Params):(bZ (Z0.K P) 951 "is_directed" 948 && bZ (Z0.K P) 951 "is_multigraph" 941 && bZ (Z0.K P) 951 "neighbors" 877 && jC (Z0.K P) 951 "__contains__" 618 && jC (Z0.K P) 951 "__len__" 625
 && bM (Z0.K P) 951 "_node" && bM (Z0.K P) 951 "_succ" && keepIn (Z0.K P) (.ref 948) && keepIn (Z0.K P) (.ref 941) && keepIn (Z0.K P) (.ref 877) && findIn (Z0.K P) (.ref 951) "__bool__" == some none) = true:=by kernel_rfl
theorem eK {x:Str} {e:Expr} {p p':Pos} {rest:List Stmt} {Q:Flow->Shared->Prop} (h:wpAny (model prog w) A (evalThenUse e env (assign (.Name x p) env)) (λ _ s'=>wpAny (model prog w) A (execs rest env) Q E s') E s)
  (hs:swapsWith e (some (.Name x p)) p'.line env = pure true:=by rfl):wpAny (model prog w) A (execs (.Assign [.Name x p] e p' :: rest) env) Q E s:=by
 refine wpAny_execs_cons ?_
 rw [exec_Assign_Name_used x p e p' hs]
 exact wpAny_bind (wpAny_standAt (wpAny_bind (wpAny_mono h (λ _ s' z=>wpAny_pure z) λ _ _ z=>z)))
theorem gt {net:Addr} (T:TE w B mg mb) (R:Rm A 1 3) (H:W prog w B g os σ s) (h:∀ s',W prog w B g os σ s'->Q (.bool true) s'):wpAny (model prog w) A (call (.ref 948) [.ref net]) Q E s:=by
 refine aO (args:=⟨[_],[]⟩) (d:=0) (u:=0) (cl:=λ D L=>[(L,.frame (frM _ _ L 948))]) H R T.X T.lim ⟨(bk _ _ _ rfl),by kernel_rfl,rfl⟩ (aR rfl) rfl (λ D L=>aH rfl) ?_ ?_ ?_
 ·intro E' D L s2 H₂ R₂
  refine bN R₂ λ A R₂=>?_
  refine gr H₂ nc λ v0 s3 e H₃=>?_
  cases bS e
  exact h _ H₃.drop
 ·intro D L x hx
  exact .inl (by revert x;exact locs rfl)
 ·intro L;exact List.nodup_nil
theorem eH {net:Addr} (T:TE w B mg mb) (R:Rm A 1 3) (H:W prog w B g os σ s) (h:∀ s',W prog w B g os σ s'->Q (.bool false) s'):wpAny (model prog w) A (call (.ref 941) [.ref net]) Q E s:=by
 refine aO (args:=⟨[_],[]⟩) (d:=0) (u:=0) (cl:=λ D L=>[(L,.frame (frM _ _ L 941))]) H R T.X T.lim ⟨(bk _ _ _ rfl),by kernel_rfl,rfl⟩ (aR rfl) rfl (λ D L=>aH rfl) ?_ ?_ ?_
 ·intro E' D L s2 H₂ R₂
  refine bN R₂ λ A R₂=>?_
  refine gr H₂ nc λ v0 s3 e H₃=>?_
  cases bS e
  exact h _ H₃.drop
 ·intro D L x hx
  exact .inl (by revert x;exact locs rfl)
 ·intro L;exact List.nodup_nil
theorem jN {net d nd:Addr} {made:Bool} {kvs:List (Str×Value)} {ks:List (Int×Value)} {n:Int} {v:Value} (T:TE w B mg mb) (R:Rm A 1 3) (H:W prog w B g os σ s) (hx:(net,AObj.inst 951 d)∈σ) (hd:(d,ndict prog w made kvs)∈σ)
  (hv:valueAt kvs "_node" = some (.ref nd)) (hn:(nd,AObj.idict ks)∈σ) (ev:cv v = .int n 0) (h:∀ s',W prog w B g os σ s'->Q (.bool (valueAt ks n).isSome) s'):wpAny (model prog w) A (call (.ref 618) [.ref net,v]) Q E s:=by
 have X:=T.X
 refine mT (kGm w.params) λ _ _ _ _ _ k6 _ _ _ _ _=>?_
 refine ai (ap ev) λ t zh1=>?_;obtain rfl:=zh1
 refine aO (args:=⟨[_,_],[]⟩) (d:=0) (u:=0) (cl:=λ D L=>[(L,.frame (frM _ _ L 618))]) H R T.X T.lim ⟨(bk _ _ _ rfl),by kernel_rfl,rfl⟩ (aR rfl) rfl (λ D L=>aH rfl) ?_ ?_ ?_
 ·intro E' D L s2 H₂ R₂
  refine bN R₂ λ A R₂=>?_
  refine iK λ E''=>gr H₂ (ki (aa (by walk_at "l") rfl) (aF (aa (by walk_at "l") rfl)<|dL<|cp X k6 (.tail _ hx) (.tail _ hd) hv) λ a0 b0 ea eb=>jY (.tail _ hn) ea eb) λ v0 s3 e H₃=>?_
  cases bS e
  exact h _ H₃.drop
 ·intro D L x hx
  exact .inl (by revert x;exact locs rfl)
 ·intro L;exact List.nodup_nil
theorem qX {net d nd:Addr} {made:Bool} {kvs:List (Str×Value)} {ks:List (Int×Value)} (T:TE w B mg mb) (R:Rm A 1 3) (H:W prog w B g os σ s) (hx:(net,AObj.inst 951 d)∈σ) (hd:(d,ndict prog w made kvs)∈σ)
  (hv:valueAt kvs "_node" = some (.ref nd)) (hn:(nd,AObj.idict ks)∈σ) (hz:ks.length≤1000) (h:∀ t s',W prog w B g os σ s'->Q (.int ks.length t) s'):wpAny (model prog w) A (call (.ref 625) [.ref net]) Q E s:=by
 have X:=T.X
 refine mT (kGm w.params) λ _ _ _ _ _ k6 _ _ _ _ _=>?_
 refine aO (args:=⟨[_],[]⟩) (d:=0) (u:=0) (cl:=λ D L=>[(L,.frame (frM _ _ L 625))]) H R T.X T.lim ⟨(bk _ _ _ rfl),by kernel_rfl,rfl⟩ (aR rfl) rfl (λ D L=>aH rfl) ?_ ?_ ?_
 ·intro E' D L s2 H₂ R₂
  refine bN R₂ λ A R₂=>?_
  refine gr H₂ (dJ (T.boot (by decide)) (aF (aa (by walk_at "l") rfl)<|dL<|cp X k6 (.tail _ hx) (.tail _ hd) hv) λ v0 e=>nC (.tail _ hn) e hz) λ v0 s3 e H₃=>?_
  refine ai (ap e) λ t zh1=>?_;obtain rfl:=zh1
  exact h _ _ H₃.drop
 ·intro D L x hx
  exact .inl (by revert x;exact locs rfl)
 ·intro L;exact List.nodup_nil
theorem jg {net d sd a:Addr} {made:Bool} {kvs:List (Str×Value)} {ks:List (Int×Value)} {e0:Nat} {n:Int} {v:Value} {vs:List (Int×Value)} {e1:Nat} (T:TE w B mg mb) (R:Rm A 1 4) (H:W prog w B g os σ s) (hx:(net,AObj.inst 951 d)∈σ) (hd:(d,ndict prog w made kvs)∈σ)
  (hv:valueAt kvs "_succ" = some (.ref sd)) (hn:(sd,AObj.idictE ks e0)∈σ) (ev:cv v = .int n 0) (hk:valueAt ks n = some (.ref a)) (ha:(a,AObj.idictE vs e1)∈σ)
  (h:∀ I s',W prog w B g os ((I,cM a 0 vs.length e1) :: σ) s'->Q (.ref I) s'):wpAny (model prog w) A (call (.ref 877) [.ref net,v]) Q E s:=by
 have X:=T.X
 refine mT (kGm w.params) λ _ _ _ _ _ _ k7 _ _ _ _=>?_
 refine ai (ap ev) λ t zh1=>?_;obtain rfl:=zh1
 refine aO (args:=⟨[_,_],[]⟩) (d:=0) (u:=1) (cl:=λ D L=>[(L,.frame (frM _ _ L 877))]) H R T.X T.lim ⟨(bk _ _ _ rfl),by kernel_rfl,rfl⟩ (aR rfl) rfl (λ D L=>aH rfl) ?_ ?_ ?_
 ·intro E' D L s2 H₂ R₂
  refine bN R₂ λ A R₂=>?_
  refine iK λ E''=>cX (aw H₂ (T.boot (x:="iter") (v:=.builtin "iter") (by decide)) (λ f0 e=>bX e) λ s3 H₃=>?_)
  refine cw1 (ab H₃ (ga (aF (aa (by walk_at "l") rfl)<|dL<|cp X k7 (.tail _ hx) (.tail _ hd) hv) (aa (by walk_at "l") rfl) (.tail _ hn) hk) λ a0 s4 ea H₄=>ah ⟨az,?_⟩)
  cases ak ea
  refine pf (iB H₄ (.tail _ ha) λ I s5 H₅=>?_)
  exact h I _ (H₅.pick (a:=L) (by walk_at "l")).drop
 ·intro D L x hx
  exact .inl (by revert x;exact locs rfl)
 ·intro L;exact List.nodup_nil
theorem lN {α:Type} [DecidableEq α] (kvs:List (α×Value)) (k:α):(without kvs k).map (λ x=>(x.1,cv x.2)) = without (kvs.map λ x=>(x.1,cv x.2)) k:=by
 unfold without
 induction kvs with
 | nil=>rfl
 | cons x r ih=>simp only [List.map_cons,List.filter_cons];split <;> simp_all
theorem nI {a:Addr} {kvs:List (Int×Value)} {k:Int} {k0 v:Value} {Q:Unit->Shared->Prop} (H:W prog w B g os σ s) (u:Up a (.idict kvs) σ f) (hk:cv k0 = .int k 0) (hv:valueAt kvs k = some v) (hz:kvs.length≤1000)
  (h:∀ s',W prog w B g os (f (.idict (without kvs k))) s'->Q () s'):wpAny (model prog w) A (delItem (.ref a) k0) Q E s:=by
 refine ac (H.get u.mem) λ kvs0 hl e=>?_
 refine ai (ap hk) λ t zh1=>?_;obtain rfl:=zh1
 refine dq (id hl) λ o es ep ho zz hdd zz=>?_
 have hv':valueAt kvs0 k≠none:=by
  intro q
  rw [← e,aD,q] at hv;cases hv
 refine wpAny_delItem_slot hl.typeIs (by decide) F.slot_dict_delitem (call_meetsIn F.slot_dict_delitem hl.typeIs F.entry_dict_delitem (F.args_dict_delitem_2 _ _) (meets_dict_delitem_pairs (intKind prog w) a (intKind_is prog w k t)) (dT kvs0 hl (by rw [← e,List.length_map] at hz;rw [sizeLine_eq];walk_at "r") (Option.isSome_iff_ne_none.mpr hv') (λ h' D' hs=>h _ (H.upd u hs.extBut (.dict ho hdd) (ad _ D' (by rw [lN,e]))))))
theorem kX {o:Expr} {x:Str} {px pos':Pos} {op:Operator} {value:Expr} {pos:Pos} {rest:List Stmt} {Q:Flow->Shared->Prop}
  (h:wpAny (model prog w) A (eval o env) (λ ov s1=>wpAny (model prog w) A (eval (.Name x px) env) (λ iv s2=>wpAny (model prog w) A (getItem ov iv) (λ old s3=>
   wpAny (model prog w) A (eval value env) (λ v s4=>wpAny (model prog w) A (inplaceOp op old v) (λ new s5=>
    wpAny (model prog w) A (setItem ov iv new) (λ _ s₆=>wpAny (model prog w) A (execs rest env) Q E s₆) E s5) E s4) E s3) E s2) E s1) E s) :
  wpAny (model prog w) A (execs (.AugAssign (.Subscript o (.Name x px) pos') op value pos :: rest) env) Q E s:=wpAny_execs_cons (wpAny_AugAssign_Subscript h)
theorem nV {o i:Expr} {p pos:Pos} {rest:List Stmt} {Q:Flow->Shared->Prop}
  (h:wpAny (model prog w) A (eval o env) (λ ov s1=>wpAny (model prog w) A (eval i env) (λ iv s2=>wpAny (model prog w) A (delItem ov iv) (λ _ s3=>wpAny (model prog w) A (execs rest env) Q E s3) E s2) E s1) E s) :
  wpAny (model prog w) A (execs (.Delete [.Subscript o i p] pos :: rest) env) Q E s :=
 wpAny_execs_cons (wpAny_Delete (wpAny_deleteEach_cons (wpAny_delete_Subscript (wpAny_mono h (λ _ _ z=>wpAny_mono z (λ _ _ z=>wpAny_mono z (λ _ _ z=>wpAny_deleteEach_nil z) λ _ _ e=>e) λ _ _ e=>e) λ _ _ e=>e))))
inductive Kids:List (Int×Value)->List Int->List Int->List (Int×Value)->List Int->Prop
 | nil {ind z}:Kids ind z [] ind z
 | zero {ind z c cs ind' z'}:valueAt ind c = some (.int 1 0)->Kids (without (stored ind c (.int 0 0)) c) (z++[c]) cs ind' z'->Kids ind z (c :: cs) ind' z'
 | more {ind z c cs ind' z' k}:valueAt ind c = some (.int k 0)->k≠1->Kids (stored ind c (.int (k - 1) 0)) z cs ind' z'->Kids ind z (c :: cs) ind' z'
inductive Nods (su:Int->List (Int×Value)) (ns:List Int):List (Int×Value)->List Int->List Int->List (Int×Value)->List Int->Prop
 | nil {ind z}:Nods su ns ind z [] ind z
 | cons {ind z n nodes ind1 z1 ind' z'}:n∈ns->Kids ind z ((su n).map (·.1)) ind1 z1->Nods su ns ind1 z1 nodes ind' z'->Nods su ns ind z (n :: nodes) ind' z'
inductive Kahn (su:Int->List (Int×Value)) (ns:List Int):List (Int×Value)->List Int->List (List Int)->Prop
 | done:Kahn su ns [] [] []
 | step {ind z ind' z' gs}:z≠[]->Nods su ns ind [] z ind' z'->Kahn su ns ind' z' gs->Kahn su ns ind z (z :: gs)
noncomputable def af (l:List Int):List Value:=l.map λ n=>.int n 0
theorem jH {kvs:List (Int×Value)} {k:Int} (h:valueAt kvs k≠none):(without kvs k).length + 1≤kvs.length:=by
 induction kvs with
 | nil=>exact absurd rfl h
 | cons x r ih=>
  unfold without at *
  unfold valueAt at *
  rw [List.filter_cons]
  rw [List.find?_cons] at h
  by_cases e:x.1 = k
  ·simp only [e,ne_eq,not_true,decide_false,Bool.false_eq_true,if_false]
   have:=List.length_filter_le (λ kv:Int×Value=>decide (kv.1≠k)) r
   simp only [List.length_cons];simp only [ne_eq] at this;walk_at "r"
  ·simp only [e,decide_false] at h
   have:=ih h
   simp only [ne_eq,e,not_false_eq_true,decide_true,if_true,List.length_cons]
   simp only [ne_eq] at this;walk_at "r"
theorem g6 {kvs:List (Int×Value)} {k:Int} {v:Value} (h:valueAt kvs k≠none):(stored kvs k v).length = kvs.length:=by
 unfold stored
 have:kvs.any (λ kv=>decide (kv.1 = k)) = true:=by
  cases q:kvs.any (λ kv=>decide (kv.1 = k)) with
  | true=>rfl
  | false=>
   refine absurd ?_ h
   unfold valueAt
   rw [Option.map_eq_none_iff,List.find?_eq_none]
   intro x hx
   exact λ hh=>absurd (List.any_eq_false.mp q x hx) (by rw [hh];exact λ q=>q rfl)
 rw [if_pos this,List.length_map]
theorem bq {kvs:List (Int×Value)} {k:Int} {v:Value}:valueAt (stored kvs k v) k = some v:=by
 by_cases h:valueAt kvs k = none
 ·rw [aA h]
  unfold valueAt at *
  rw [Option.map_eq_none_iff] at h
  rw [List.find?_append,h];simp
 ·unfold stored
  induction kvs with
  | nil=>exact absurd rfl h
  | cons x r ih=>
   by_cases e:x.1 = k
   ·unfold valueAt;simp [e]
   ·have h':valueAt r k≠none:=by
     unfold valueAt at *
     rw [List.find?_cons] at h
     simpa [e] using h
    have:=ih h'
    have ha:r.any (λ kv=>decide (kv.1 = k)) = (x :: r).any (λ kv=>decide (kv.1 = k)):=by rw [List.any_cons];simp [e]
    rw [ha] at this
    split at this
    ·rename_i q
     rw [if_pos q]
     unfold valueAt at *
     rw [List.map_cons,List.find?_cons]
     simpa [e] using this
    ·rename_i q
     rw [if_neg q]
     unfold valueAt at *
     rw [List.cons_append,List.find?_cons]
     simpa [e] using this
structure TgFacts (prog:Program) (w:World) {C:Type} (ρ:C->Led) (net d nd sd pd iv ivd:Addr) (kvs:C->List (Str×Value)) (ns:List Int) (sA pA nA:Int->Addr) (su pr:Int->List (Int×Value)) (e0:Nat) (eS eP:Int->Nat):Prop where
 I:IvFacts ρ iv ivd sd pd ns sA pA pr e0 eP
 g1:∀ c,(net,AObj.inst 951 d)∈ρ c
 g2:∀ c,(d,ndict prog w true (kvs c))∈ρ c
 k1:∀ c,valueAt (kvs c) "_node" = some (.ref nd)
 k2:∀ c,valueAt (kvs c) "_succ" = some (.ref sd)
 k3:∀ c,valueAt (kvs c) "in_degree" = some (.ref iv)
 k4:∀ c,valueAt (kvs c) "is_directed" = none
 k5:∀ c,valueAt (kvs c) "is_multigraph" = none
 k6:∀ c,valueAt (kvs c) "neighbors" = none
 g4:∀ c,(nd,AObj.idict (ns.map λ n=>(n,.ref (nA n))))∈ρ c
 g5:∀ c,∀ n∈ns,(sA n,AObj.idictE (su n) (eS n))∈ρ c
 l1:ns.length≤100
 nd:ns.Nodup
 l2:∀ n∈ns,(su n).length≤100
theorem iA {C:Type} {ρ:C->Led} {iv ivd sd pd:Addr} {ns:List Int} {sA pA:Int->Addr} {pr:Int->List (Int×Value)} {e0:Nat} {eP:Int->Nat} {c:C} {o:Led} (T:TE w B mg mb) (R:Rm A 0 0) (F:IvFacts ρ iv ivd sd pd ns sA pA pr e0 eP) (H:W prog w B g os σ s)
  (hσ:∀ p∈ρ c,p∈σ) (h:∀ I i μ gs s',gs.bare = true->GSt prog w B os ρ 2 12 i (ns.map (gY pr)) μ [] gs->W prog w B ((i,gs) :: g) os ((I,ar i) :: (μ++σ)) s'->Q (.ref I) s'):wpAny (model prog w) A (pyIter (.ref iv)) Q E s:=by
 have k:=kIv w.params
 simp only [Bool.and_eq_true] at k
 refine ai (jL H (hσ _ (F.h1 c)) (hσ _ (F.h2 c))) λ od I=>?_
 refine o5 (T.X.keeps H.keep) I k.2 (lu T R F H λ I i μ gs s' hb hg H'=>?_)
 exact (bc ("generator") _ ((Real.gen.mp (H'.get (.head _))).typeIs) slot_gen_next.lookup (h I i μ gs s' hb hg H'))
set_option maxHeartbeats 4000000
theorem mM {a L:Addr×AObj} {μ X o:Led}:(a :: (μ++(L :: (X++o)))).Perm ((a :: μ)++(X++(L :: o))):=by
 show (a :: (μ++(L :: (X++o)))).Perm (a :: (μ++(X++(L :: o))))
 exact List.Perm.cons _ ((List.perm_middle.symm).append_left μ)
theorem mI {L D:Addr×AObj} {X o:Led}:(D :: (X++(L :: o))).Perm (L :: D :: (X++o)):=by
 show ((D :: X)++(L :: o)).Perm (L :: ((D :: X)++o))
 exact List.perm_middle
theorem qV {Z L D:Addr×AObj} {X o:Led}:(Z :: (X++(L :: D :: o))).Perm (L :: D :: Z :: (X++o)):=by
 refine (List.Perm.cons Z (List.perm_append_comm_assoc X [L,D] o)).trans ?_
 exact cV (H:=[L,D]) rfl rfl
theorem pt {J Z Z' L D:Addr×AObj} {X o:Led}:(J :: Z' :: L :: D :: Z :: (X++o)).Perm ([J]++([Z]++(L :: D :: Z' :: (X++o)))):=by
 refine List.Perm.cons J ?_
 refine (cV (e:=Z') (H:=[L,D,Z]) rfl rfl).trans ?_
 exact (cV (e:=Z) (H:=[L,D]) (T:=Z' :: (X++o)) rfl rfl).symm
theorem pV {a L D:Addr×AObj} {μ X o:Led}:(a :: (μ++(L :: D :: (X++o)))).Perm ((a :: μ)++(X++(L :: D :: o))):=by
 show (a :: (μ++(L :: D :: (X++o)))).Perm (a :: (μ++(X++(L :: D :: o))))
 exact List.Perm.cons _ ((List.perm_append_comm_assoc [L,D] X o).append_left μ)
theorem perm_kid2 {μ X o Y:Led}:(X++(Y++(o++μ))).Perm (μ++(Y++(X++o))):=by
 refine (List.perm_append_comm_assoc X Y (o++μ)).trans ?_
 have:Y++(X++(o++μ)) = (Y++(X++o))++μ:=by simp
 rw [this];exact List.perm_append_comm
theorem nZ {I:Addr×AObj} {μ X o Y:Led}:(I :: (μ++(Y++(X++o)))).Perm ([I]++(X++(Y++(o++μ)))):=List.Perm.cons I perm_kid2.symm
theorem kTg (P:Params):(bZ (Z0.K P) 951 "is_directed" 948 && bZ (Z0.K P) 951 "is_multigraph" 941 && bM (Z0.K P) 951 "in_degree" && findIn (Z0.K P) (.ref 951) "in_degree" == some (some (.ref 923)) && (typeIn (Z0.K P) (.ref 923)).any (λ t=>t != .type "function" && t != .type "method_descriptor" && t != .type "wrapper_descriptor")) = true:=by kernel_rfl
noncomputable def di (z:List Int):eT:=λ v ν=>∃ a,v = .ref a∧ν = [(a,.list (af z))]
theorem dU {a C d:Addr} (H:W prog w B g os σ s) (h:(a,AObj.inst C d)∈σ):Looks (model prog w) s.heap (keeperOf (.ref a)) .caller :=
 (Looks.ld (part:=none) (H.get h)).andThen .now
theorem rt {pos:Pos} {fv:Value} (L:Looks (model prog w) s.heap (keeperOf fv) .caller) (h:wpAny (model prog w) A (call fv []) Q E s) :
  wpAny (model prog w) A (callWith pos fv [] (backTo pos (starEach [] env)) []) Q E s:=by
 unfold callWith
 refine wpAny_bind (wpAny_holding (evalArgs_nil3 (wpAny_bind (wpAny_standAt ?_))))
 refine wpAny_bind (L.here ?_)
 exact wpAny_bind (wpAny_operate' (wpAny_mono h (λ r s2 hr=>wpAny_bind (wpAny_holding (wpAny_point (wpAny_pure hr)))) λ _ _ x=>x))
theorem o7 {x d C p:Addr} {made:Bool} {kvs:List (Str×Value)} {name:Str} {v:Addr} {pl:Sem Bool} {Q:Value×List Value->Shared->Prop} (X:K.In B) (hok:bM K C name = true) (hf:findIn K (.ref C) name = some (some (.ref p)))
  (ht:(typeIn K (.ref p)).any (λ t=>t != .type "function" && t != .type "method_descriptor" && t != .type "wrapper_descriptor") = true) (H:W prog w B g os σ s) (hx:(x,AObj.inst C d)∈σ) (hd:(d,ndict prog w made kvs)∈σ) (hv:valueAt kvs name = some (.ref v))
  (h:∀ s',W prog w B g os σ s'->Q (.ref v,[]) s'):wpAny (model prog w) A (getMethod (.ref x) name pl) Q E s:=by
 refine cK (d7 H hx hd) λ od kvs0 I D _ hk=>?_
 refine method_usual (X.keeps H.keep) I (plainGet_of (bs hok)).1 (plainGet_of (bs hok)).2 hf (by simpa using ht) ?_
 exact (cp X hok hx hd hv).use H λ v0 s' e H'=>by cases ak e;exact h s' H'
noncomputable def f83 (P:Params):{ fd:FuncData // ∃ oc od osl,(Z0.K P).lookup 83 = some ⟨oc,od,.func fd,osl⟩ }:=⟨_,_,_,_,rfl⟩
noncomputable def b83 (P:Params):{ b:List Stmt // (f83 P).1.body = .stmts b }:=⟨_,rfl⟩
noncomputable abbrev e83 (P:Params) (L:Addr):Env:=callEnvC (f83 P).1 L 83
theorem mY {C:Type} {ρ:C->Led} {net d nd sd pd iv ivd:Addr} {kvs:C->List (Str×Value)} {ns:List Int} {sA pA nA:Int->Addr} {su pr:Int->List (Int×Value)} {e0:Nat} {eS eP:Int->Nat} {gs:List (List Int)} (T:TE w B mg mb)
  (F:TgFacts prog w ρ net d nd sd pd iv ivd kvs ns sA pA nA su pr e0 eS eP) {A':Around} {c':C} {o:Led} {γo:c9} {i:Nat} {ret:Shared->Prop} {yld:Value->GenState->Shared->Prop} {L D:Addr} {m1:Str->Option Value} {ind0:List (Int×Value)} {s₆:Shared}
  {HH:Value->Sem Fin} {gd:Bool->Bool} {lv:List Value->List Value}
  (R₂:Rm A' 3 16) (hgd:gd false = false) (hm1:m1 ("G":Str) = some (.ref net)) (hm2:m1 ("multigraph":Str) = some (.bool false)) (hm3:m1 ("indegree_map":Str) = some (.ref D))
  (hDm:((ns.filter λ n=>decide (0 < (pr n).length)).map λ n=>(n,Value.int (pr n).length 0)) = ind0) (hK:Kahn su ns ind0 (ns.filter λ n=>(pr n).length == 0) gs)
  (H7:W prog w B ((i,.running) :: γo) os ((L,.frame m1) :: (D,.idict ind0) :: (ρ c'++o)) s₆) (hc:lp prog w B os ρ 3 16 i (gs.map di) γo o ret yld) :
  Sg (model prog w) A' (Ends ret yld) (.func (b83 w.params).1 (e83 w.params L)) ((execs ((b83 w.params).1.drop 3) (e83 w.params L)).wrap (λ f=>.pure (.done (.ret (match f with | .ret v=>v | _=>.none)))) HH gd lv) [] s₆:=by
 have X:=T.X
 refine an5 (kTg w.params) λ k1 k2 k3 k4 k5=>?_
 replace k4:=beq_iff_eq.mp k4
 refine mT (kGm w.params) λ _ _ q3 q4 _ _ _ _ _ q10 _=>?_
 have Rf:∀ body env,Rm (A'.over (.func body env) []) 2 13:=λ _ _=>R₂.overFn
 dsimp only [e83,b83,f83,List.drop]
 have g1':(net,AObj.inst 951 d)∈ρ c'++o:=List.mem_append_left _ (F.g1 c')
 have g2':(d,ndict prog w true (kvs c'))∈ρ c'++o:=List.mem_append_left _ (F.g2 c')
 have hv1':(iv,AObj.inst 359 ivd)∈ρ c'++o:=List.mem_append_left _ (F.I.h1 c')
 have hv2':(ivd,AObj.sdict [("_succ",.ref sd),("_pred",.ref pd),("_nodes",.ref sd),("_weight",.none)])∈ρ c'++o:=List.mem_append_left _ (F.I.h2 c')
 refine dM λ E3=>?_
 refine eK ?_
 refine gm (C:=C) (ρ:=ρ) (tg:=kg) (d:=2) (u:=13) (B:=B) (os:=os) (cl:=[])
  (λ xs ws o' γ'=>γ' = (i,.running) :: γo∧(∃ m,m ("G":Str) = some (.ref net)∧m ("multigraph":Str) = some (.bool false)∧m ("indegree_map":Str) = some (.ref D)∧o' = (L,.frame m) :: (D,.idict ind0) :: o)∧∃ da ys,xs = ys.map (gY pr)∧da++ys = ns∧ws = af (da.filter λ n=>(pr n).length == 0))
  trivial (Rf _ _) rfl ?_ ?_ ?_
 ·refine ax H7 (aa (by walk_at "l") (by exact hm1))<|au λ s5 H₅=>?_
  refine o7 X k3 k4 (by simpa using k5) H₅ (.tail _ (.tail _ g1')) (.tail _ (.tail _ g2')) (F.k3 c') λ s₆ H₆=>rt (dU H₆ (.tail _ (.tail _ hv1'))) ?_
  refine eY T ((Rf _ _).mono (by decide) (by decide)) H₆ (.tail _ (.tail _ hv1')) (.tail _ (.tail _ hv2')) λ s7 H₇=>?_
  refine iA (c:=c') (o:=o) T ((Rf _ _).mono (by decide) (by decide)) F.I H₇ (λ p hp=>.tail _ (.tail _ (show _∈ρ c'++o from List.mem_append_left _ hp))) λ I₁ i1 μ₁ st1 s8 hb hg H₈=>?_
  have H9:=H₈.perm (pV (X:=ρ c') (o:=o))
  refine (jK I₁ _ _ _ c' _ _ rfl ?_ (bz T.lim _ _ _ _ hg) eu (aQ rfl (dT m1 hm1 hm2 hm3 rfl) (bc [] ns rfl rfl rfl)) H9)
  rw [List.length_map];have:=F.l1;walk_at "r"
 ·intro xq xs ws D2 Cf m μ γ o' γ' c2 v ν s' E4 hJ
  refine bP hJ λ zh1 zh2 zh3=>?_;clear hJ;obtain rfl:=zh1;refine fc zh2 λ mf hf1 hf2 hf3 zh4=>?_;clear zh2;obtain rfl:=zh4;refine aV zh3 λ da ys e1 e2 e3=>?_;clear zh3
  intro hx H
  refine eL λ Q1 hQ1=>?_
  cases ys with
  | nil=>cases e1
  | cons n ys=>
  refine ae (List.cons.inj e1) λ zh1 zh2=>?_;obtain rfl:=zh1;obtain rfl:=zh2
  refine ac hx λ tp zh1 zh2=>?_;clear hx;obtain rfl:=zh1;obtain rfl:=zh2
  refine kI (Rf _ _).hd H (by walk_at "l") (by walk_at "l") (λ v=>by walk_at "l") λ s5 H5=>hQ1 _ _<|?_
  refine i5 ((aT (aa (by walk_at "l") rfl) aC λ a0 b0 ea eb=>jX ea eb).use H5 λ s₆ H6=>?_)
  have hd6:=(H6.pick (a:=tp) (.tail (.tail .head))).drop
  by_cases hpos:(pr n).length = 0
  ·rw [if_pos (by simp [hpos])]
   refine (aa (by walk_at "l") rfl).use hd6 λ a0 s7 ea H7=>?_
   refine (dO _ c2 _ _ (aQ rfl (dT mf hf1 hf2 hf3 rfl) (bc (da++[n]) ys rfl (by rw [List.append_assoc];exact e2) ?_)) H7)
   rw [ea,e3,List.filter_append]
   simp [af,hpos]
  ·rw [if_neg (by simpa using hpos)]
   refine (dO _ c2 _ _ (aQ rfl (dT mf hf1 hf2 hf3 rfl) (bc (da++[n]) ys rfl (by rw [List.append_assoc];exact e2) ?_)) hd6)
   rw [e3,List.filter_append]
   simp [hpos]
 ·intro Z Cf m ws o' γ' c2 s' hJ
  refine bP hJ λ zh1 zh2 zh3=>?_;clear hJ;obtain rfl:=zh1;refine fc zh2 λ mf hf1 hf2 hf3 zh4=>?_;clear zh2;obtain rfl:=zh4;refine aV zh3 λ da ys e1 e2 e3=>?_;clear zh3
  intro H
  refine eL λ Q1 hQ1=>?_
  have:ys = []:=by cases ys with | nil=>rfl | cons=>cases e1
  subst this
  rw [List.append_nil] at e2
  subst e2
  refine aG (al H (.tail (.tail (.app .head))) rfl λ s5 H5=>hQ1 _ _<|⟨_,_,H5,λ s₆ H6=>ay ⟨rfl,?_⟩⟩)
  subst e3
  clear H H5 H7 hQ1
  have H8:=H6.perm (qV (X:=ρ c2) (o:=o))
  generalize hmf':put "zero_indegree" (cv (.ref Z)) mf = m2 at H8
  have n1:m2 ("G":Str) = some (.ref net):=by rw [← hmf'];exact hf1
  have n2:m2 ("multigraph":Str) = some (.bool false):=by rw [← hmf'];exact hf2
  have n3:m2 ("indegree_map":Str) = some (.ref D):=by rw [← hmf'];exact hf3
  have n4:m2 ("zero_indegree":Str) = some (.ref Z):=by rw [← hmf'];rfl
  have hlen:ind0.length + (da.filter λ n=>(pr n).length == 0).length≤300:=by
   have h1:=List.length_filter_le (λ n=>decide (0 < (pr n).length)) da
   have h2:=List.length_filter_le (λ n=>(pr n).length == 0) da
   have h3:=F.l1
   rw [← hDm,List.length_map]
   walk_at "r"
  generalize (da.filter λ n=>(pr n).length == 0) = z0 at H8 hK hlen
  refine dh (oq λ p=>?_)
  clear hmf' hf1 hf2 hf3 H6 hv1' hv2' g1' g2' hm1 hm2 hm3 Rf hDm
  induction hK generalizing A' c2 o γo ret yld s₆ m2 Z with
  | done=>
   refine ff (b:=false) λ E5=>(aS (aa (by walk_at "l") (by exact n4)) λ v0 e=>gb (by walk_at "l") e (Nat.zero_le _)).use H8 λ s9 H9=>⟨rfl,?_⟩
   show Sg _ _ _ _ (.pure (.done .next)) _ _
   refine dD (dM λ E6=>?_)
   refine d9 (b:=false) H9 (aS (aa (by walk_at "l") (by exact n3)) λ v0 e=>(nN (vs:=[]) (by walk_at "l") e (Nat.zero_le _):Gb _ _ _ _ _ _ _ _ false)) (λ q=>by cases q) λ _ s10 H10=>ay (ay ⟨rfl,?_⟩)
   exact fJ (iP (.ret .none) (aQ rfl (.inl rfl) (hc c2 _ H10.drop.drop.drop)))
  | @step ind z ind' z' gs' hz hN hK ih=>
   refine ff (b:=true) λ E5=>(aS (aa (by walk_at "l") (by exact n4)) λ v0 e=>by
    have h1:(!(af z).isEmpty) = true:=by
     cases z with
     | nil=>exact absurd rfl hz
     | cons x r=>rfl
    rw [← h1];exact gb (by walk_at "l") e (by unfold af;rw [List.length_map];walk_at "r")).use H8 λ s9 H9=>⟨rfl,?_⟩
   rw [if_pos rfl]
   intro gd' lv' hgd'
   refine dM λ E6=>?_
   refine bh H9 (aa (by walk_at "l") (by exact n4)) (by walk_at "l") λ s10 H10=>ay ⟨rfl,?_⟩
   refine dM λ E7=>?_
   refine aB (i8 (ah (du H10 (ws:=[]) rfl (Nat.zero_le _) λ Z' s11 H11=>al H11 (by walk_at "l") rfl λ s12 H12=>ay ⟨rfl,?_⟩)))
   refine dM λ E8=>?_
   refine bN (d:=2) (u:=13) R₂.overWhile λ A₂ Rw=>?_
   refine eL λ Q0 hQ0=>?_
   obtain ⟨Γ,hΓ⟩:∃ Γ,Γ = (i,GenState.running) :: γo:=⟨_,rfl⟩
   rw [← hΓ] at H12
   refine lj (C:=Unit) (B:=B) (os:=os) (ρ:=λ _=>[(Z,.list (af z))]) (tg:=aM) (d:=2) (u:=13) (λ xs oo γ''=>Γ = γ''∧∃ nodes m ind1 z1,xs = (af nodes).map one∧Nods su da ind1 z1 nodes ind' z'∧ind1.length + z1.length≤300 ∧
    (m ("G":Str) = some (.ref net)∧m ("multigraph":Str) = some (.bool false)∧m ("indegree_map":Str) = some (.ref D)∧m ("zero_indegree":Str) = some (.ref Z')∧m ("this_generation":Str) = some (.ref Z)) ∧
    oo = (L,.frame m) :: (D,.idict ind1) :: (Z',.list (af z1)) :: (ρ c2++o)) trivial Rw ?_ ?_ ?_
   ·refine (aa (by walk_at "l") rfl).use H12<|au λ s13 H13=>?_
    refine dw H13 (by walk_at "l") λ J1 s14 H14=>?_
    have H15:=H14.perm (pt (X:=ρ c2) (o:=o))
    refine (lh J1 _ _ [] () _ _ rfl (bG (vs:=af z) (λ _=>.head _) _ 0 rfl) (aJ rfl (fw z _ ind [] rfl hN (by simp;walk_at "r") (gu ?p1 ?p2 ?p3 ?p4 ?p5) rfl)) H15)
    case p1=>exact n1
    case p2=>exact n2
    case p3=>exact n3
    case p4=>rfl
    case p5=>rfl
   ·intro x xs μ1 γ1 oo γ'' c3 v ν s13 E9 hJ hx H13
    refine jy λ Q1 hQ1=>?_
    refine ae hJ λ zh1 zh2=>?_;clear hJ;obtain rfl:=zh1;refine cx zh2 λ nodes m ind1 z1 e1 hN1 hl1 zh3 zh4=>?_;clear zh2;refine fu zh3 λ r1 r2 r3 r4 r5=>?_;clear zh3;obtain rfl:=zh4
    cases nodes with
    | nil=>cases e1
    | cons n nodes=>
    refine ae (List.cons.inj e1) λ zh1 zh2=>?_;obtain rfl:=zh1;obtain rfl:=zh2
    refine ae hx λ ev zh1=>?_;clear hx;obtain rfl:=zh1
    cases hN1 with
    | @cons _ _ _ _ ind2 z2 _ _ hn hk hN2=>
    have H13':W prog w B (γ1++Γ) os (μ1++((Z,.list (af z)) :: (L,.frame m) :: (D,.idict ind1) :: (Z',.list (af z1)) :: (ρ c2++o))) s13:=H13
    refine aG (al H13' (by walk_at "l") ev λ s14 H14=>?_)
    have hρ:∀ p∈ρ c2,p∈μ1++((Z,.list (af z)) :: (L,.frame (put "node" (.int n 0) m)) :: (D,.idict ind1) :: (Z',.list (af z1)) :: (ρ c2++o)):=λ p hp=>List.mem_append_right _ (.tail _ (.tail _ (.tail _ (.tail _ (List.mem_append_left _ hp)))))
    refine d9 (b:=false) H14 (aT (aa (by walk_at "l") rfl) (aa (by walk_at "l") (by exact r1)) λ a0 b0 ea eb=>?nin) (λ q=>by cases q) λ _ s15 H15=>ay ?_
    case nin=>
     intro E' s15 H15
     cases ak eb
     refine cK (d7 H15 (hρ _ (F.g1 c2)) (hρ _ (F.g2 c2))) λ od kvs0 I₀ D₀ _ hk0=>?_
     refine p9 (X.keeps H15.keep) I₀ q4 (jN T (Rw.mono (by decide) (by decide)) H15 (hρ _ (F.g1 c2)) (hρ _ (F.g2 c2)) (F.k1 c2) (hρ _ (F.g4 c2)) ea λ s' H'=>?_)
     rw [a8,if_pos hn]
     exact wpAny_truthy_bool ⟨rfl,H'⟩
    ·have H16:=H15
     refine lj (C:=Unit) (B:=B) (os:=os) (ρ:=λ _=>ρ c2) (tg:=aM) (d:=2) (u:=13) (λ xs oo γ''=>γ1++Γ = γ''∧∃ kids m ind1 z1,xs = kids.map (λ x=>one (.int x 0))∧Kids ind1 z1 kids ind2 z2∧ind1.length + z1.length≤300 ∧
      (m ("G":Str) = some (.ref net)∧m ("multigraph":Str) = some (.bool false)∧m ("indegree_map":Str) = some (.ref D)∧m ("zero_indegree":Str) = some (.ref Z')∧m ("this_generation":Str) = some (.ref Z)) ∧
      oo = (Z,.list (af z)) :: (L,.frame m) :: (D,.idict ind1) :: (Z',.list (af z1)) :: (o++μ1)) trivial Rw ?_ ?_ ?_
     ·refine ax H16 (aa (by walk_at "l") (by exact r1))<|au λ s16 H17=>?_
      refine fm X q3 H17 (hρ _ (F.g1 c2)) (hρ _ (F.g2 c2)) (F.k6 c2) (cw1 (ab H17 (aa (by walk_at "l") rfl) λ a0 s17 ea H18=>ah ⟨aW (X.keeps H18.keep) q10,?_⟩))
      refine jg T (Rw.mono (by decide) (by decide)) H18 (hρ _ (F.g1 c2)) (hρ _ (F.g2 c2)) (F.k2 c2) (hρ _ (F.I.h3 c2)) ea (by rw [a8,if_pos hn]) (hρ _ (F.g5 c2 n hn)) λ I₁ s18 H19=>?_
      refine wpAny_pyIter_keyiter (Real.keyIt.mp (H19.get (.head _))) ?_
      have G:=cy (w:=w) (B:=B) (os:=os) (ρ:=λ _:Unit=>ρ c2) (tg:=aM) (d:=2) (u:=13) (I:=I₁) (λ _=>F.g5 c2 n hn) _ 0 rfl
      refine (lh I₁ _ _ [] () _ _ rfl G (aJ rfl (fw ((su n).map (·.1)) _ ind1 z1 (by rw [List.map_map];rfl) hk hl1 (gu ?p1 ?p2 ?p3 ?p4 ?p5) rfl)) (H19.perm (nZ (I:=(I₁,_)) (X:=ρ c2) (o:=o) (Y:=[_,_,_,_]))))
      case p1=>exact r1
      case p2=>exact r2
      case p3=>exact r3
      case p4=>exact r4
      case p5=>exact r5
     ·intro x xs μ2 γ2 oo γ'' c4 v ν s16 E10 hJ hx H16
      refine jy λ Q2 hQ2=>?_
      refine ae hJ λ zh1 zh2=>?_;clear hJ;obtain rfl:=zh1;refine cx zh2 λ kids m' ind3 z3 e1 hk3 hl3 zh3 zh4=>?_;clear zh2;refine fu zh3 λ t1 t2 t3 t4 t5=>?_;clear zh3;obtain rfl:=zh4
      cases kids with
      | nil=>cases e1
      | cons ch kids=>
      refine ae (List.cons.inj e1) λ zh1 zh2=>?_;obtain rfl:=zh1;obtain rfl:=zh2
      refine ae hx λ ev zh1=>?_;clear hx;obtain rfl:=zh1
      have H16':W prog w B (γ2++(γ1++Γ)) os (μ2++(ρ c2++((Z,.list (af z)) :: (L,.frame m') :: (D,.idict ind3) :: (Z',.list (af z3)) :: (o++μ1)))) s16:=H16
      refine aG (al H16' (by walk_at "l") ev λ s17 H17=>?_)
      rcases hk3 with _ | ⟨hv,hk4⟩ | ⟨hv,hne,hk4⟩
      ·refine iK λ E11=>kX ?_
       refine (aa (by walk_at "l") (by exact t3)).use H17 λ ov s18 eo H18=>(aa (by walk_at "l") rfl).use H18 λ iv s19 ei H19=>?_
       cases ak eo
       refine (ia (by walk_at "l") ei hv).use H19 λ old s20 eold H20=>?_
       refine (iW (aS (aa (by walk_at "l") (by exact t2)) λ v0 e=>cf e) aC).use H20 λ dv s21 ed H21=>?_
       refine ai (ap eold) λ to zh1=>?_;obtain rfl:=zh1
       refine ai (ap ed) λ td zh1=>?_;obtain rfl:=zh1
       refine AutoIntOps.isub_0 ?_
       refine bT H21.tok (by walk_at "l") ei rfl (by walk_at "r") λ s22 H22=>ay ?_
       have hst:=g6 (kvs:=ind3) (k:=ch) (v:=.int 0 0) (by rw [hv];exact λ q=>by cases q)
       refine d9 (b:=true) H22 (aT (cH (aa (by walk_at "l") (by exact t3)) (aa (by walk_at "l") rfl) (by walk_at "l") bq) aC λ a0 b0 ea eb=>by rw [show true = decide ((0:Int) = 0) by rfl];exact jX ea eb) (λ q s23 H23=>?_) (λ q s23 H23=>?_)
       ·refine cQ (ax H23 (aa (by walk_at "l") (by exact t4))<|au λ s24 H24=>?_)
        refine ac (H24.get (show (Z',AObj.list (af z3))∈_ by walk_at "l")) λ items hl _=>?_
        refine ie hl PySem.slot_list_append PySem.type_list_append (cw1 (ab H24 (aa (by walk_at "l") rfl) λ a0 s25 ea H25=>ah ⟨az,?_⟩))
        refine j2 H25 (by walk_at "l") ea (by unfold af;rw [List.length_map];walk_at "r") λ s26 H26=>⟨rfl,?_⟩
        refine nV ((aa (by walk_at "l") (by exact t3)).use H26 λ ov s27 eo H27=>(aa (by walk_at "l") rfl).use H27 λ iv s28 ei2 H28=>?_)
        cases ak eo
        have hwl:=jH (kvs:=stored ind3 ch (.int 0 0)) (k:=ch) (by rw [bq];exact λ q=>by cases q)
        refine nI H28 (by walk_at "l") ei2 bq (by show (stored ind3 ch (.int 0 0)).length≤1000;walk_at "r") λ s29 H29=>ay (ay (hQ2 _ _ (aJ (.inl rfl) (cc () _ _ (aJ rfl (fw kids (put "child" (.int ch 0) m') _ (z3++[ch]) rfl hk4 (by rw [List.length_append];show _ + (_ + 1)≤_;walk_at "r") (gu ?t1 ?t2 ?t3 ?t4 ?t5) rfl)) ?_))))
        case t1=>exact t1
        case t2=>exact t2
        case t3=>exact t3
        case t4=>exact t4
        case t5=>exact t5
        rw [show af (z3++[ch]) = af z3++[.int ch 0] by unfold af;rw [List.map_append];rfl]
        exact H29
       ·cases q
      ·rename_i k
       refine iK λ E11=>kX ?_
       refine (aa (by walk_at "l") (by exact t3)).use H17 λ ov s18 eo H18=>(aa (by walk_at "l") rfl).use H18 λ iv s19 ei H19=>?_
       cases ak eo
       refine (ia (by walk_at "l") ei hv).use H19 λ old s20 eold H20=>?_
       refine (iW (aS (aa (by walk_at "l") (by exact t2)) λ v0 e=>cf e) aC).use H20 λ dv s21 ed H21=>?_
       refine ai (ap eold) λ to zh1=>?_;obtain rfl:=zh1
       refine ai (ap ed) λ td zh1=>?_;obtain rfl:=zh1
       refine AutoIntOps.isub_0 ?_
       refine bT H21.tok (by walk_at "l") ei rfl (by walk_at "r") λ s22 H22=>ay ?_
       have hst:=g6 (kvs:=ind3) (k:=ch) (v:=.int (k - 1) 0) (by rw [hv];exact λ q=>by cases q)
       refine d9 (b:=false) H22 (aT (cH (aa (by walk_at "l") (by exact t3)) (aa (by walk_at "l") rfl) (by walk_at "l") bq) aC λ a0 b0 ea eb=>by rw [show false = decide (k - 1 = 0) by exact (decide_eq_false (by walk_at "r")).symm];exact jX ea eb) (λ q s23 H23=>?_) (λ q s23 H23=>?_)
       ·cases q
       ·refine ay (ay (hQ2 _ _ (aJ (.inl rfl) (cc () _ _ (aJ rfl (fw kids (put "child" (.int ch 0) m') _ z3 rfl hk4 (by walk_at "r") (gu ?u1 ?u2 ?u3 ?u4 ?u5) rfl)) H23))))
        case u1=>exact t1
        case u2=>exact t2
        case u3=>exact t3
        case u4=>exact t4
        case u5=>exact t5
     ·intro oo γ'' c4 s16 zr;refine ae zr λ zh1 zh2=>?_;clear zr;obtain rfl:=zh1;refine cx zh2 λ kids m' ind3 z3 e1 hk3 hl3 zh3 zh4=>?_;clear zh2;refine fu zh3 λ t1 t2 t3 t4 t5=>?_;clear zh3;obtain rfl:=zh4;intro H16
      have:kids = []:=by cases kids with | nil=>rfl | cons=>cases e1
      subst this
      cases hk3
      refine ay (hQ1 _ _ (aJ (.inl rfl) (cc () _ _ (aJ rfl (fw nodes m' ind2 z2 rfl hN2 hl3 (gu t1 t2 t3 t4 t5) rfl)) ?_)))
      exact H16.perm (perm_kid2 (X:=ρ c2) (o:=o) (Y:=[_,_,_,_]))
   ·intro oo γ'' c3 s13 zr;refine ae zr λ zh1 zh2=>?_;clear zr;obtain rfl:=zh1;refine cx zh2 λ nodes m ind1 z1 e1 hN1 hl1 zh3 zh4=>?_;clear zh2;refine fu zh3 λ r1 r2 r3 r4 r5=>?_;clear zh3;obtain rfl:=zh4;intro H13
    rw [hΓ] at H13
    have:nodes = []:=by cases nodes with | nil=>rfl | cons=>cases e1
    subst this
    cases hN1
    refine ay (hQ0 _ _ ⟨rfl,?_⟩)
    clear hQ0
    have H14:W prog w B ((i,.running) :: γo) os ((Z,.list (af z)) :: (L,.frame m) :: (D,.idict ind') :: (Z',.list (af z')) :: (ρ c2++o)) s13:=H13
    refine dh (j8 rfl hgd' (by show (gd false || false) = false;rw [hgd];rfl) λ E9=>(aa (by walk_at "l") (by exact r5)).use H14 λ v0 s14 e14 H15=>?_)
    intro st hb hst
    cases ak e14
    refine hc c2 (.ref Z) [(Z,.list (af z))] [(L,.frame m),(D,.idict ind'),(Z',.list (af z'))] [] st s14 hb (ad Z rfl rfl) (fk ?_) H15
    intro A2 c4 o4 γ4 ret4 yld4 s4 R4 H4 hc4
    refine hst _ _ _ ?_
    exact cj rfl (by apply ih (A':=A2) (o:=o4) (γo:=γ4) (ret:=ret4) (yld:=yld4) (Z:=Z') (c2:=c4) (s₆:=s4) (m2:=m)  <;> assumption)
theorem si {C:Type} {ρ:C->Led} {net d nd sd pd iv ivd:Addr} {kvs:C->List (Str×Value)} {ns:List Int} {sA pA nA:Int->Addr} {su pr:Int->List (Int×Value)} {e0:Nat} {eS eP:Int->Nat} {gs:List (List Int)} (T:TE w B mg mb) (R:Rm A 0 0)
  (F:TgFacts prog w ρ net d nd sd pd iv ivd kvs ns sA pA nA su pr e0 eS eP)
  (hK:Kahn su ns ((ns.filter λ n=>decide (0 < (pr n).length)).map λ n=>(n,.int (pr n).length 0)) (ns.filter λ n=>(pr n).length == 0) gs) (H:W prog w B g os σ s)
  (h:∀ I i μ st s',st.bare = true->GSt prog w B os ρ 3 16 i (gs.map di) μ [] st->W prog w B ((i,st) :: g) os ((I,ar i) :: (μ++σ)) s'->Q (.ref I) s'):wpAny (model prog w) A (call (.ref 83) [.ref net]) Q E s:=by
 have X:=T.X
 refine an5 (kTg w.params) λ k1 k2 k3 k4 k5=>?_
 replace k4:=beq_iff_eq.mp k4
 refine mT (kGm w.params) λ _ _ _ _ _ _ _ q8 q9 _ _=>?_
 refine eG (args:=⟨[_],[]⟩) (cl:=λ L=>[(L,.frame (frM _ _ L 83))]) H R _ X T.lim ⟨(bk _ _ _ rfl),by kernel_rfl,rfl⟩ (λ s' _=>BindsTo.of_eq rfl) rfl (λ L=>aH rfl) ?_ ?_ ?_
 ·intro I i L s1 H₁
  refine h I i _ _ s1 rfl (fk ?_) H₁
  intro A' c o γo ret yld s2 R₂ H₂ hc
  refine ⟨rfl,jP λ HH gd lv hgd=>?_⟩
  have g1:(net,AObj.inst 951 d)∈ρ c++o:=List.mem_append_left _ (F.g1 c)
  have g2:(d,ndict prog w true (kvs c))∈ρ c++o:=List.mem_append_left _ (F.g2 c)
  refine dM λ E'=>?_
  refine d9 (b:=false) H₂ (gQ (b:=true) (aS (v:=.bool true) (λ E s H=>ax H (aa (by walk_at "l") rfl) λ o0 s3 e₃ H₃=>by
   cases ak e₃
   exact fm X k1 H₃ (.tail _ g1) (.tail _ g2) (F.k4 c) (cw0 (aW (X.keeps H₃.keep) q8) (gt T ((R₂.overFn (d:=2) (u:=13)).mono (by decide) (by decide)) H₃ λ s4 H₄=>⟨rfl,H₄⟩))) λ v0 e=>cf e)) (λ q=>by cases q) λ _ s3 H₃=>ay (ay ⟨rfl,?_⟩)
  refine dM λ E'=>?_
  refine bh (v:=.bool false) H₃ (λ E s H=>ax H (aa (by walk_at "l") rfl) λ o0 s3 e₃ H₃=>by
   cases ak e₃
   exact fm X k2 H₃ (.tail _ g1) (.tail _ g2) (F.k5 c) (cw0 (aW (X.keeps H₃.keep) q9) (eH T ((R₂.overFn (d:=2) (u:=13)).mono (by decide) (by decide)) H₃ λ s4 H₄=>⟨rfl,H₄⟩))) (by walk_at "l") λ s4 H₄=>ay ⟨rfl,?_⟩
  refine dM λ E'=>?_
  refine eK ?_
  have hv1:(iv,AObj.inst 359 ivd)∈ρ c++o:=List.mem_append_left _ (F.I.h1 c)
  have hv2:(ivd,AObj.sdict [("_succ",.ref sd),("_pred",.ref pd),("_nodes",.ref sd),("_weight",.none)])∈ρ c++o:=List.mem_append_left _ (F.I.h2 c)
  have Rf:∀ body env,Rm (A'.over (.func body env) []) 2 13:=λ _ _=>R₂.overFn
  refine mE (C:=C) (ρ:=ρ) (tg:=kg) (d:=2) (u:=13) (B:=B) (os:=os) (cl:=[])
   (λ xs ws o' γ'=>γ' = (i,.running) :: γo∧(∃ m,m ("G":Str) = some (.ref net)∧m ("multigraph":Str) = some (.bool false)∧o' = (L,.frame m) :: o)∧∃ dn ys,xs = ys.map (gY pr)∧dn++ys = ns∧ws = (dn.filter λ n=>decide (0 < (pr n).length)).map λ n=>(n,.int (pr n).length 0))
   trivial (Rf _ _) rfl ?_ ?_ ?_
  ·refine ax H₄ (aa (by walk_at "l") rfl)<|au λ s5 H₅=>?_
   refine o7 X k3 k4 (by simpa using k5) H₅ (.tail _ g1) (.tail _ g2) (F.k3 c) λ s₆ H₆=>rt (dU H₆ (.tail _ hv1)) ?_
   refine eY T ((Rf _ _).mono (by decide) (by decide)) H₆ (.tail _ hv1) (.tail _ hv2) λ s7 H₇=>?_
   refine iA (c:=c) (o:=o) T ((Rf _ _).mono (by decide) (by decide)) F.I H₇ (λ p hp=>.tail _ (show _∈ρ c++o from List.mem_append_left _ hp)) λ I₁ i1 μ₁ st1 s8 hb hg H₈=>?_
   have H9:=H₈.perm (mM (X:=ρ c) (o:=o))
   refine (jK I₁ _ _ _ c _ _ rfl ?_ (bz T.lim _ _ _ _ hg) eu (aQ rfl (bl _ ?_ ?_ rfl) (bc [] ns rfl rfl rfl)) H9)
   ·rw [List.length_map];have:=F.l1;walk_at "r"
   ·rfl
   ·rfl
  ·intro xq xs ws D Cf m μ γ o' γ' c' v ν s' E2 hJ
   refine bP hJ λ zh1 zh2 zh3=>?_;clear hJ;obtain rfl:=zh1;refine aU zh2 λ mf hf1 hf2 zh4=>?_;clear zh2;obtain rfl:=zh4;refine aV zh3 λ dn ys e1 e2 e3=>?_;clear zh3
   intro hx H
   refine eL λ Q1 hQ1=>?_
   cases ys with
   | nil=>cases e1
   | cons n ys=>
   refine ae (List.cons.inj e1) λ zh1 zh2=>?_;obtain rfl:=zh1;obtain rfl:=zh2
   refine ac hx λ tp zh1 zh2=>?_;clear hx;obtain rfl:=zh1;obtain rfl:=zh2
   refine kI (Rf _ _).hd H (by walk_at "l") (by walk_at "l") (λ v=>by walk_at "l") λ s5 H5=>hQ1 _ _<|?_
   refine i5 ((aT (aa (by walk_at "l") rfl) aC λ a0 b0 ea eb=>nq ea eb).use H5 λ s₆ H6=>?_)
   have hd6:=(H6.pick (a:=tp) (.tail (.tail .head))).drop
   by_cases hpos:0 < (pr n).length
   ·rw [if_pos (by simpa using hpos)]
    refine (aa (by walk_at "l") rfl).use hd6 λ a0 s7 ea H7=>(aa (by walk_at "l") rfl).use H7 λ b0 s8 eb H8=>?_
    refine (bk n _ c' (bc _ _ ea (aQ rfl (bl mf hf1 hf2 rfl) (bc (dn++[n]) ys rfl (by rw [List.append_assoc];exact e2) ?_)) H8))
    rw [eb,e3,List.filter_append,List.map_append,aA]
    ·simp [hpos]
    ·rw [a8,if_neg]
     intro hm
     have hnd:=F.nd
     rw [← e2,List.nodup_append] at hnd
     exact hnd.2.2 n (List.mem_filter.mp hm).1 n (.head _) rfl
   ·rw [if_neg (by simpa using hpos)]
    refine (dO _ c' _ _ (aQ rfl (bl mf hf1 hf2 rfl) (bc (dn++[n]) ys rfl (by rw [List.append_assoc];exact e2) ?_)) hd6)
    rw [e3,List.filter_append]
    simp [hpos]
  ·intro D Cf m ws o' γ' c' s' hJ
   refine bP hJ λ zh1 zh2 zh3=>?_;clear hJ;obtain rfl:=zh1;refine aU zh2 λ mf hf1 hf2 zh4=>?_;clear zh2;obtain rfl:=zh4;refine aV zh3 λ dn ys e1 e2 e3=>?_;clear zh3
   intro H
   refine eL λ Q1 hQ1=>?_
   have:ys = []:=by cases ys with | nil=>rfl | cons=>cases e1
   subst this
   rw [List.append_nil] at e2
   subst e2
   refine aG (al H (.tail (.tail (.app .head))) rfl λ s5 H5=>hQ1 _ _<|⟨_,_,H5,λ s₆ H6=>ay ⟨rfl,?_⟩⟩)
   subst e3
   clear H H5
   generalize hDm:((dn.filter λ n=>decide (0 < (pr n).length)).map λ n=>(n,Value.int (pr n).length 0)) = ind0 at H6 hK
   have H7:W prog w B ((i,.running) :: γo) os ((L,.frame (put "indegree_map" (.ref D) mf)) :: (D,.idict ind0) :: (ρ c'++o)) s₆:=H6.perm (mI (X:=ρ c') (o:=o))
   clear H6
   generalize hmf:put "indegree_map" (.ref D) mf = m1 at H7
   have hm1:m1 ("G":Str) = some (.ref net):=by rw [← hmf];exact hf1
   have hm2:m1 ("multigraph":Str) = some (.bool false):=by rw [← hmf];exact hf2
   have hm3:m1 ("indegree_map":Str) = some (.ref D):=by rw [← hmf];rfl
   exact mY T F R₂ hgd hm1 hm2 hm3 hDm hK H7 hc
 ·intro L x hx
  exact .inl (by revert x;exact locs rfl)
 ·intro L;exact List.nodup_nil
set_option maxHeartbeats 2000000
theorem pg {it l:Addr} {i:Nat} {items:Array Value} {x:Value} {Q:Option Value->Shared->Prop} (hit:s.heap.IsListIter it l i)
  (hl:s.heap.IsList l items) (hx:items[i]? = some x)
  (hQ:∀ h',h'.IsListIter it l (i + 1)->Heap.SameBut it s.heap h'->Q (some x) { s with heap:=h' }) :
  wpAny (model prog w) A (callSpecial? (.ref it) (Str.ofString "__next__")) Q E s:=by
 refine bj λ GZ hGZ=>?_
 refine aU (id hit) λ o ho hc hd=>?_
 refine aU hl λ ol hol zz zh1=>?_;clear hl;refine ai zh1 λ nl hdl=>?_;clear zh1
 refine hGZ ?_
 refine (wpAny_callSpecial?_slot (name:=Str.ofString "__next__") hit.typeIs slot_listiter_next
  (wpAny_call_entry slot_listiter_next hit.typeIs entry_listiter_next ?_ (args_listiter_next _)))
 show wpAny _ _ (field (.ref it) 0 >>= _) _ _ s
 refine wpAny_bind (wpAny_field ho hd (x:=.ref l) rfl ?_)
 show wpAny _ _ (if (Value.ref l == Value.none) = true then _ else _) _ _ s
 rw [if_neg (show ¬ ((Value.ref l == Value.none) = true) from Bool.false_ne_true)]
 show wpAny _ _ (field (.ref it) 1 >>= _) _ _ s
 refine wpAny_bind (wpAny_field ho hd (x:=.int i 0) rfl ?_)
 show wpAny _ _ (seqItems? (.ref l) >>= _) _ _ s
 refine wpAny_bind (wpAny_seqItems hol hdl ?_)
 simp only [Int.toNat_natCast,hx]
 refine wpAny_bind (wpAny_setField ho hd (by simp) (wpAny_pure (ad x rfl (hQ _ ?_ (Heap.SameBut.update ..)))))
 exact (bl _ (Heap.get?_update_self _ ho (Obj.isFreed_of_fields (Obj.data_mapFields hd _))) ((Obj.cls_mapFields ..).trans hc) (by
  rw [Obj.data_mapFields hd];simp [rawInt]))
theorem rf {it l:Addr} {i:Nat} {items:Array Value} {Q:Option Value->Shared->Prop} (hh:A.handled = none)
  (hit:s.heap.IsListIter it l i) (hl:s.heap.IsList l items) (hx:items[i]? = none)
  (hE:∀ h' e,Heap.ExtBut it s.heap h'->(∃ o vs,h'.get? e = some o∧o.cls = .type "StopIteration"∧o.data = .fields vs∧vs[5]? = some .none)->E (.ref e) { s with heap:=h' }) :
  wpAny (model prog w) A (callSpecial? (.ref it) (Str.ofString "__next__")) Q E s:=by
 refine bj λ GZ hGZ=>?_
 refine aU (id hit) λ o ho hc hd=>?_
 refine aU hl λ ol hol zz zh1=>?_;clear hl;refine ai zh1 λ nl hdl=>?_;clear zh1
 refine hGZ ?_
 refine (wpAny_callSpecial?_slot (name:=Str.ofString "__next__") hit.typeIs slot_listiter_next
  (wpAny_call_entry slot_listiter_next hit.typeIs entry_listiter_next ?_ (args_listiter_next _)))
 show wpAny _ _ (field (.ref it) 0 >>= _) _ _ s
 refine wpAny_bind (wpAny_field ho hd (x:=.ref l) rfl ?_)
 show wpAny _ _ (if (Value.ref l == Value.none) = true then _ else _) _ _ s
 rw [if_neg (show ¬ ((Value.ref l == Value.none) = true) from Bool.false_ne_true)]
 show wpAny _ _ (field (.ref it) 1 >>= _) _ _ s
 refine wpAny_bind (wpAny_field ho hd (x:=.int i 0) rfl ?_)
 show wpAny _ _ (seqItems? (.ref l) >>= _) _ _ s
 refine wpAny_bind (wpAny_seqItems hol hdl ?_)
 simp only [Int.toNat_natCast,hx]
 refine wpAny_bind (wpAny_rule (wpAny_bind (wpAny_setField ho hd (by simp) ?_)))
 show wpAny _ _ (newExc (.type "StopIteration") [] >>= _) _ _ _
 refine wpAny_bind ?_
 simp only [newExc,newTuple]
 refine wpAny_bind (wpAny_newObj_type ?_ (by size_fits))
 refine wpAny_bind (m:=firstArgMember _ _) (wpAny_of_eq (a:=Value.none) (by first | rfl | (simp only [firstArgMember];rfl)) ?_)
 refine wpAny_newObj_type ?_ (by size_fits)
 simp only [raiseNew]
 refine wpAny_bind (wpAny_handled ?_)
 first | rw [show A.in1.handled = none from hh] | rw [hh]
 refine wpAny_bind (wpAny_pure (wpAny_throw ?_))
 exact hE _ _ (((Heap.SameBut.update ..).extBut.push _).push _) (dK _ _ (Heap.get?_push_size _ rfl) rfl rfl (by first | rfl | simp))
theorem oz:entryFor table "proto.yield_from" = some Builtin.«proto.yield_from»:=entryFor_of_fast (by kernel_rfl)
section
variable {w:World} {A:Around} {Φ:End->Shared->Prop} {fs:List Frame} {s:Shared}
theorem rT {id:String} {args:Args} {b:Builtin} (hb:entryFor table id = some b):(model prog w).den (.builtin id args) = b args:=by
 show (match entryFor table id with | some b=>b args | none=>unsupported ((withoutEnding? id "#data").getD id)) = _
 rw [hb]
theorem o9 {args:Args}:(model prog w).den (.builtin "proto.yield_from" args) = Builtin.«proto.yield_from» args:=rT oz
theorem lI:typeLookup (.type "list_iterator") "close" = pure none:=by rw [typeLookup_type,builtinLookup_eq_fast];kernel_rfl
theorem fW {it l:Addr} {i:Nat} {b:Bool} {E:Value->Shared->Prop} {Q:Unit->Shared->Prop} (hit:s.heap.IsListIter it l i) (h:Q () s):wpAny (model prog w) A (Builtin.Generator.sleptOver (.ref it) b) Q E s:=by
 refine aU (id hit) λ o ho hc hd=>?_
 unfold Builtin.Generator.sleptOver
 refine wpAny_bind (wpAny_load ho ?_)
 rw [hc]
 exact wpAny_pure h
theorem lE {it l:Addr} {i:Nat} {items:Array Value} {x:Value} {ret:Shared->Prop} {yld:Value->GenState->Shared->Prop} (hfs:splitAtGen fs = none) (hfg:fs.any Frame.guarded = false) (hit:s.heap.IsListIter it l i)
  (hl:s.heap.IsList l items) (hx:items[i]? = some x)
  (h:∀ h',h'.IsListIter it l (i + 1)->Heap.SameBut it s.heap h'->∀ gs,gs.bare = true->(∀ A Φ s'' l' j,s''.heap.IsListIter it l' j->Sg (model prog w) A Φ (.builtin "proto.yield_from" ⟨[.ref it,.bool false,.none],[]⟩) ((model prog w).den (.builtin "proto.yield_from" ⟨[.ref it,.bool false,.none],[]⟩)) fs s''->Goes (model prog w) A gs (.send .none) s'' Φ) ->
   yld x gs { s with heap:=h' }) :
  Sg (model prog w) A (Ends ret yld) (.builtin "proto.yield_from" ⟨[.ref it,.bool false,.none],[]⟩) ((model prog w).den (.builtin "proto.yield_from" ⟨[.ref it,.bool false,.none],[]⟩)) fs s:=by
 rw [o9]
 unfold Builtin.«proto.yield_from»
 refine bx (m:=pure Value.none) (wpAny_pure ?_)
 refine bx (wpAny_attempt (wpAny_holding ?_))
 refine wpAny_bind (wpAny_rule (wpAny_bind (pg hit hl hx λ h' hit' hs=>wpAny_pure ?_)))
 refine bx (wpAny_typeOf hit'.typeIs ?_)
 refine bx (m:=typeLookup (.type "list_iterator") "close") (wpAny_of_eq lI ?_)
 refine bx (m:=pure _) (wpAny_pure ?_)
 refine bx (fW hit' ?_)
 refine io hfs λ p=>⟨?_,h h' hit' hs _ ?_ ?_⟩
 ·show (!(_ || fs.any Frame.guarded)) = true
  rw [hfg];rfl
 ·show (!(_ || fs.any Frame.guarded)) = true
  rw [hfg];rfl
 ·intro A' Φ' s'' l' j hj hs''
  show Sg _ A' Φ' _ _ fs s''
  refine bx (m:=Builtin.Generator.sleptOver _ _) (fW hj ?_)
  refine bx (m:=pure Value.none) (wpAny_pure ?_)
  exact cj (by kernel_rfl) hs''
end
theorem jG:typeOf (.type "StopIteration") = pure (.type "type"):=by kernel_rfl
section
variable {w:World} {A:Around} {Φ:End->Shared->Prop} {c:Code} {fs:List Frame} {s:Shared} {env:Env} {K:Flow->Sem Fin} {H:Value->Sem Fin} {gd:Bool->Bool} {lv:List Value->List Value}
noncomputable def dN (it:Addr):Code:=.builtin "proto.yield_from" ⟨[.ref it,.bool false,.none],[]⟩
theorem mV {it l:Addr} {i:Nat} {items:Array Value} (hh:(A.over (dN it) fs).handled = none) (hit:s.heap.IsListIter it l i)
  (hl:s.heap.IsList l items) (hx:items[i]? = none)
  (h:∀ h',Heap.ExtBut it s.heap h'->Sg (model prog w) A Φ (dN it) (.pure (.done (.ret .none))) fs { s with heap:=h' }) :
  Sg (model prog w) A Φ (dN it) ((model prog w).den (dN it)) fs s:=by
 unfold dN at *
 rw [o9]
 unfold Builtin.«proto.yield_from»
 refine bx (m:=pure Value.none) (wpAny_pure ?_)
 refine bx (wpAny_attempt (wpAny_holding ?_))
 refine wpAny_bind (wpAny_rule (wpAny_bind (rf hh hit hl hx λ h' e hs he=>?_)))
 refine cK he λ o vs ho hc hd h5=>?_;clear he
 dsimp only
 refine bx (m:=Builtin.Generator.endsTheTurnAsAValue false (.ref e)) ?_
 unfold Builtin.Generator.endsTheTurnAsAValue Builtin.Generator.isStopAndMetaclass
 refine wpAny_bind (wpAny_bind (wpAny_typeOf (T:="StopIteration") (ad o ho hc) ?_))
 dsimp only
 refine wpAny_bind (wpAny_of_eq isSubtype_stop ?_)
 refine wpAny_bind (wpAny_of_eq jG (wpAny_pure ?_))
 dsimp only
 refine wpAny_pure ?_
 rw [if_pos rfl]
 refine bx (m:=pure _) (wpAny_pure ?_)
 refine bx (m:=rule _) (wpAny_rule ?_)
 refine bx (m:=field (.ref e) 5) (wpAny_field ho hd h5 ?_)
 exact h h' hs
noncomputable def mQ (v:Expr) (ypos pos:Pos) (K:Flow->Sem Fin) (H:Value->Sem Fin) (gd:Bool->Bool) (lv:List Value->List Value) (c:Code) (p:Pos):Frame :=
 .ret (λ r=>Sem.wrap (λ a=>Sem.wrap K H gd lv (dropValue (v.YieldFrom ypos) pos a)) (λ e=>Sem.wrap K H gd lv (Sem.raise e)) (λ g=>gd g) (λ l=>lv l)
  ((match r with | .ok f=>(.pure f:Sem Flow) | .error e=>.raise e).bind λ f=>match f with
   | .ret v=>pure v
   | _=>unsupported "internal:call-without-return-value")) none (gd false) (lv []) c p []
theorem ji {v:Expr} {ypos pos p:Pos} {c':Code} (h:Sg (model prog w) A Φ c (K .next) fs s):Sg (model prog w) A Φ c' (.pure (.done (.ret .none))) (mQ v ypos pos K H gd lv c p :: fs) s:=lT (.ret .none) h
theorem fj {v:Expr} {ypos pos:Pos} 
  (h:∀ E,wpAny (model prog w) (A.over c fs) (eval v env) (λ x s1=>s1.TypeIs x "list"∧wpAny (model prog w) (A.over c fs) (pyIter x) (λ i s2=>∃ it,i = .ref it∧∀ p,Sg (model prog w) A Φ (dN it) ((model prog w).den (dN it)) (mQ v ypos pos K H gd lv c p :: fs) s2) E s1) E s)
  (hi:interactive env = false:=by rfl) (hs:swapsWith (.YieldFrom v ypos) none pos.line env = pure false:=by rfl) :
  Sg (model prog w) A Φ c ((exec (.Expr (.YieldFrom v ypos) pos) env).wrap K H gd lv) fs s:=by
 rw [exec_Expr env _ pos hi hs]
 show Sg _ A Φ c (.at pos λ _=>((eval v env >>= λ v=>(standAt ypos >>= λ _=>yieldFrom env v)) >>= λ x=>dropValue (.YieldFrom v ypos) pos x).wrap K H gd lv) fs s
 refine gC ?_
 rw [Sem.bind_eq_wrap',Sem.bind_eq_wrap',Sem.wrap_wrap,Sem.wrap_wrap]
 refine bb (wpAny_mono (h _) (λ x s' h'=>?_) λ _ _ e=>e)
 revert h';refine λ zq=>ae zq λ hT h'=>?_;clear zq
 refine gC ?_
 show Sg _ A Φ c (Sem.wrap _ _ _ _ (yieldFrom env x)) fs s'
 unfold yieldFrom
 rw [Sem.bind_eq_wrap',Sem.wrap_wrap]
 refine bb (wpAny_typeOf hT ?_)
 show Sg _ A Φ c (Sem.wrap _ _ _ _ (holding [x] (pyIter x) >>= _)) fs s'
 rw [Sem.bind_eq_wrap',Sem.wrap_wrap]
 refine bb (wpAny_holding (wpAny_mono h' (λ i s2 h2=>?_) λ _ _ e=>e))
 revert h2;refine λ zq=>ac zq λ it zh1 h2=>?_;clear zq;obtain rfl:=zh1
 exact jQ h2
end
theorem perm_yf1 {a b:Addr×AObj} {μ X ω o:Led}:(a :: b :: (μ++(X++(ω++o)))).Perm ([]++((a :: b :: (μ++ω))++(X++o))):=by
 show (a :: b :: (μ++(X++(ω++o)))).Perm (a :: b :: ((μ++ω)++(X++o)))
 refine List.Perm.cons _ (List.Perm.cons _ ?_)
 rw [List.append_assoc]
 exact (List.perm_append_comm_assoc X ω o).append_left μ
theorem oQ {a b:Addr×AObj} {μ X ω o:Led}:((a :: b :: (μ++ω))++(X++o)).Perm (a :: b :: (μ++(X++(ω++o)))):=perm_yf1.symm
theorem oM {a:Addr×AObj} {μ X o:Led} {L:Addr×AObj}:(a :: (μ++(L :: (X++o)))).Perm ((a :: μ)++(X++([L]++o))):=by
 show (a :: (μ++([L]++(X++o)))).Perm (a :: (μ++(X++([L]++o))))
 exact List.Perm.cons _ ((List.perm_append_comm_assoc [L] X o).append_left μ)
theorem perm_yf4 {a L:Addr×AObj} {μ X o:Led}:([a]++(μ++(X++([L]++o)))).Perm (L :: a :: (μ++(X++o))):=by
 have h1:[a]++(μ++(X++([L]++o))) = ([a]++(μ++X))++L :: o:=by simp
 have h2:L :: a :: (μ++(X++o)) = L :: (([a]++(μ++X))++o):=by simp
 rw [h1,h2];exact List.perm_middle
theorem kE {I a L:Addr×AObj} {μ X o:Led}:(I :: L :: a :: (μ++(X++o))).Perm (I :: a :: (μ++(X++([L]++o)))) :=
 List.Perm.cons _ (perm_yf4.symm.trans (.refl _))
noncomputable abbrev kA (n:Int):eT:=one (.int n 0)
theorem jT {C:Type} {ρ:C->Led} {d u i:Nat} {Z It:Addr} {z:List Int} {fs:List Frame} (hfs:splitAtGen fs = none) (hfg:fs.any Frame.guarded = false) (hm:(marksOver fs (none,none)).1 = none)
  {Yr:List eT} {ω μ₁:Led} {γ₁:c9}
  (done:∀ A c o γo ret yld s,Rm A d u->W prog w B ((i,.running) :: (γ₁++γo)) os (μ₁++(ρ c++(ω++o))) s->lp prog w B os ρ d u i Yr γo o ret yld->Sg (model prog w) A (Ends ret yld) (dN It) (.pure (.done (.ret .none))) fs s) :
  ∀ (r:List Int) (j:Nat),z.drop j = r->∀ A c o γo ret yld s,Rm A d u->W prog w B ((i,.running) :: (γ₁++γo)) os ((It,a7 Z j) :: (Z,.list (af z)) :: (μ₁++(ρ c++(ω++o)))) s ->
   lp prog w B os ρ d u i (r.map kA++Yr) γo o ret yld->Sg (model prog w) A (Ends ret yld) (dN It) ((model prog w).den (dN It)) fs s
 | [],j,hr,A,c,o,γo,ret,yld,s,R,H,hc=>by
  refine ac (H.get (show (Z,AObj.list (af z))∈_ by walk_at "l")) λ items hl e=>?_
  have hit:=Real.listIt.mp (H.get (.head _))
  have hlen:items[j]? = none:=by
   have h1:z.length≤j:=List.drop_eq_nil_iff.mp hr
   have h2:items.toList.length = z.length:=by rw [← List.length_map (f:=cv),e];simp [af]
   rw [← Array.getElem?_toList];exact List.getElem?_eq_none (by walk_at "r")
  refine aU (id hit) λ oi ho hcl hd=>?_
  refine mV ?_ hit hl.isList hlen λ h' hs=>done A c o γo ret yld _ R (H.lose (t:=s.toks) hs (.fields ho hd)).drop hc
  show (marksOver fs (A.handled,A.handled)).1 = none
  rw [R.hd];exact hm
 | x :: r,j,hr,A,c,o,γo,ret,yld,s,R,H,hc=>by
  refine ac (H.get (show (Z,AObj.list (af z))∈_ by walk_at "l")) λ items hl e=>?_
  have hit:=Real.listIt.mp (H.get (.head _))
  have h1:(af z)[j]? = some (.int x 0):=by
   unfold af
   rw [List.getElem?_map,← List.head?_drop,hr];rfl
  have h2:z.drop (j + 1) = r:=by rw [← List.drop_drop,hr];rfl
  rw [← e] at h1
  refine ac (bU h1) λ v h3 h4=>?_
  refine aU (id hit) λ oi ho hcl hd=>?_
  refine lE hfs hfg hit hl.isList (by rw [← Array.getElem?_toList];exact h3) λ h' hit' hs gs hb hgs=>?_
  have H':=H.upd (t:=s.toks) .head hs.extBut (.fields ho hd) (Real.listIt.mpr hit')
  refine hc c v [] ((It,a7 Z (j + 1)) :: (Z,.list (af z)) :: (μ₁++ω)) γ₁ gs _ hb ⟨h4,rfl⟩ (fk ?_) (H'.perm (perm_yf1 (X:=ρ c) (o:=o)))
  intro A2 c2 o2 γ2 ret2 yld2 s2 R2 H2 hc2
  have H3:=H2.perm (oQ (X:=ρ c2) (o:=o2) (ω:=ω))
  exact hgs _ _ _ Z (j + 1) (Real.listIt.mp (H3.get (.head _))) (jT hfs hfg hm done r (j + 1) h2 A2 c2 o2 γ2 ret2 yld2 s2 R2 H3 hc2)
theorem kTs (P:Params):keepIn (Z0.K P) (.ref 83) = true:=by kernel_rfl
theorem rJ {C:Type} {ρ:C->Led} {net d nd sd pd iv ivd:Addr} {kvs:C->List (Str×Value)} {ns:List Int} {sA pA nA:Int->Addr} {su pr:Int->List (Int×Value)} {e0:Nat} {eS eP:Int->Nat} {gs:List (List Int)} (T:TE w B mg mb) (R:Rm A 0 0)
  (F:TgFacts prog w ρ net d nd sd pd iv ivd kvs ns sA pA nA su pr e0 eS eP)
  (hK:Kahn su ns ((ns.filter λ n=>decide (0 < (pr n).length)).map λ n=>(n,.int (pr n).length 0)) (ns.filter λ n=>(pr n).length == 0) gs) (H:W prog w B g os σ s)
  (h:∀ I i μ st s',st.bare = true->GSt prog w B os ρ 4 20 i (gs.flatten.map kA) μ [] st->W prog w B ((i,st) :: g) os ((I,ar i) :: (μ++σ)) s'->Q (.ref I) s'):wpAny (model prog w) A (call (.ref 90) [.ref net]) Q E s:=by
 have X:=T.X
 have k:=kTs w.params
 refine eG (args:=⟨[_],[]⟩) (cl:=λ L=>[(L,.frame (frM _ _ L 90))]) H R _ X T.lim ⟨(bk _ _ _ rfl),by kernel_rfl,rfl⟩ (λ s' _=>BindsTo.of_eq rfl) rfl (λ L=>aH rfl) ?_ ?_ ?_
 ·intro I i L s1 H₁
  refine h I i _ _ s1 rfl (fk ?_) H₁
  intro A' c o γo ret yld s2 R₂ H₂ hc
  refine ⟨rfl,jP λ HH gd lv hgd=>?_⟩
  refine dh (oY λ E'=>?_)
  refine aw H₂ (T.glob (x:="topological_generations") (v:=.ref 83) (by decide)) (λ f0 e=>ak e) λ s3 H₃=>?_
  refine cw1 (ab H₃ (aa (by walk_at "l") rfl) λ a0 s4 ea H₄=>ah ⟨aW (X.keeps H₄.keep) k,?_⟩)
  cases ak ea
  refine si T ((R₂.overFn (d:=3) (u:=17)).mono (by decide) (by decide)) F hK H₄ λ I₁ i1 μ₁ st1 s5 hb1 hg1 H₅=>?_
  refine eu (w:=w) (B:=B) (os:=os) (ρ:=ρ) (I:=I₁) (i:=i1) (μ:=μ₁) (γ:=[(i1,st1)]) _ c ((L,.frame _) :: o) ((i,.running) :: γo) _ _ (H₅.perm (oM (X:=ρ c) (o:=o))) |> λ z=>wpAny_mono z (λ it s₆ h6=>?_) λ _ _ e=>e
  refine ae h6 λ zh1 H₆=>?_;clear h6;obtain rfl:=zh1
  intro p
  have G:=bz (tg:=aM) (I:=I₁) T.lim _ _ _ _ hg1
  refine hU (P:=λ xs Y ω=>∃ gss m,xs = gss.map di∧Y = (gss.flatten.map kA)∧ω = [(L,.frame m)]) trivial (λ A R=>R.overFor (d:=3) (u:=17)) ?_ ?_ _ A' c o γo ret yld s₆ _ _ _ _ R₂ (bc gs _ rfl rfl rfl) G H₆.gback hc
  ·intro A c o γo ret yld s xq xs Y μ γ₁ ω v ν E R zr;refine aV zr λ gss m e1 zh1 zh2=>?_;clear zr;obtain rfl:=zh1;obtain rfl:=zh2;intro hx H hc ag
   cases gss with
   | nil=>cases e1
   | cons z gss=>
   refine ae (List.cons.inj e1) λ zh1 zh2=>?_;obtain rfl:=zh1;obtain rfl:=zh2
   refine ac hx λ Z zh1 zh2=>?_;clear hx;obtain rfl:=zh1;obtain rfl:=zh2
   have H1:=H.perm (perm_yf4 (X:=ρ c) (o:=o))
   refine aG (al H1 (by walk_at "l") rfl λ s3 H3=>?_)
   intro gd' lv' hgd'
   refine dh (fj λ E'=>?_)
   refine (aa (by walk_at "l") rfl).use H3<|au λ s4 H4=>?_
   refine ⟨hV (by walk_at "l") _ H4,dw H4 (by walk_at "l") λ It s5 H5=>(ad It rfl (λ p'=>?_))⟩
   refine jT (z:=z) (Yr:=(gss.flatten.map kA)) (ω:=[(L,.frame _)]) (μ₁:=μ) (γ₁:=γ₁) rfl ?_ rfl ?_ z 0 rfl A c o γo ret yld s5 R (H5.perm (kE (X:=ρ c) (o:=o))) (by rw [← List.map_append];exact hc)
   ·show (gd' false || (gd false || false)) = false
    rw [hgd',hgd];rfl
   ·intro A3 c3 o3 γ3 ret3 yld3 s8 R8 H8 hc8
    exact ji (fJ (ag A3 c3 o3 γ3 ret3 yld3 s8 _ _ R8 (bc gss _ rfl rfl rfl) H8 hc8))
  ·intro A c o γo ret yld s Y ω R zr;refine aV zr λ gss m e1 zh1 zh2=>?_;clear zr;obtain rfl:=zh1;obtain rfl:=zh2;intro H hc
   have:gss = []:=by cases gss with | nil=>rfl | cons=>cases e1
   subst this
   exact dD (fJ (iP (.ret .none) (aQ rfl (.inl rfl) (hc c s (W.drop (H.perm (List.perm_append_comm_assoc (ρ c) [(L,AObj.frame m)] o)))))))
 ·intro L x hx
  exact .inl (by revert x;exact locs rfl)
 ·intro L;exact List.nodup_nil
noncomputable def NFs (fs:List Frame):Prop:=∀ x∈fs.map Frame.where_,cC x.1 = false
noncomputable def SgF (M:Model) (A:Around) (Φ:End->Shared->Prop) (c:Code) (t:Sem Fin) (fs:List Frame) (s:Shared):Prop :=
 ∀ Γ p,Γ.code = c->Γ.Woken A->NoFin Γ->∃ e s',Runs M Γ p t fs s e s'∧Φ e s'
theorem NoFin.over {Γ:Ctx} {fs:List Frame} (h:NoFin Γ) (hf:NFs fs):NoFin (Γ.over fs) :=
 ⟨h.1,λ x hx=>(List.mem_append.mp hx).elim (hf x) (h.2 x)⟩
section
variable {M:Model} {A:Around} {Φ:End->Shared->Prop} {c:Code} {fs:List Frame} {s:Shared} {env:Env} {K:Flow->Sem Fin} {H:Value->Sem Fin} {gd:Bool->Bool} {lv:List Value->List Value}
theorem kq {t:Sem Fin} (h:Sg M A Φ c t fs s):SgF M A Φ c t fs s:=λ Γ p hc hΓ _=>h Γ p hc hΓ
theorem dH {α:Type} {m:Sem α} {K:α->Sem Fin} {H:Value->Sem Fin} {gd lv} (hf:NFs fs) (h:wpF M (A.over c fs) m (λ a s'=>SgF M A Φ c (K a) fs s') (λ x s'=>SgF M A Φ c (H x) fs s') s):SgF M A Φ c (m.wrap K H gd lv) fs s:=by
 rintro Γ p rfl hΓ hF
 exact runs_wrap_of_wp K H gd lv m (h (Γ.over fs) p (hΓ.over fs) (hF.over hf)) (λ a p' s' h'=>h' Γ p' rfl hΓ hF) (λ x p' s' h'=>h' Γ p' rfl hΓ hF)
theorem mw {p':Pos} {k:Unit->Sem Fin} (hf:NFs fs) (h:SgF M A Φ c (k ()) fs s):SgF M A Φ c (.at p' k) fs s :=
 dH (m:=standAt p') (K:=k) (H:=.raise) (gd:=id) (lv:=id) hf (aZ (wpAny_standAt h))
theorem mO {l:List Value} {k:Unit->Sem Fin} (hf:NFs fs) (h:SgF M A Φ c (k ()) fs s):SgF M A Φ c (.point l k) fs s :=
 dH (m:=point) (K:=k) (H:=.raise) (gd:=id) (lv:=λ _=>l) hf (aZ (wpAny_point h))
theorem n7 {c':Code} {h g l} {k:Result->Sem Fin} (hn:cC c' = false) (hc:∀ p,SgF M A Φ c' (M.den c') (.ret k h g l c p [] :: fs) s):SgF M A Φ c (.call c' h g l k) fs s:=by
 rintro Γ p rfl hΓ hF
 refine bC (hc p (Γ.goto c') p rfl (hΓ.goto c') (hF.goto hn)) λ e s' hr he=>?_
 exact (br e s' (runs_call_seg hr) he)
theorem NFs.nil:NFs []:=λ x hx=>by cases hx
theorem NFs.runFrame {p:Pos} (hc:cC c = false) (hf:NFs fs):NFs (runFrame env K H gd lv c p :: fs):=λ x hx=>by
 rw [List.map_cons] at hx
 rcases List.mem_cons.mp hx with rfl | hx
 ·exact hc
 ·exact hf x hx
theorem jA {st:Stmt} {rest:List Stmt} (hf:NFs fs) (h:∀ E,wpF M (A.over c fs) (execs [st] env) (λ f s'=>f = .next∧SgF M A Φ c ((execs rest env).wrap K H gd lv) fs s') E s):SgF M A Φ c ((execs (st :: rest) env).wrap K H gd lv) fs s:=by
 rw [fV,Sem.bind_eq_wrap',Sem.wrap_wrap]
 exact dH hf (aL (h _) (λ f s' y=>by revert y;refine λ zq=>ae zq λ zh1 y=>?_;clear zq;obtain rfl:=zh1;exact y) λ _ _ e=>e)
theorem oR {st:Stmt} {rest:List Stmt} (h:SgF M A Φ c ((exec st env).wrap (λ f=>match f with | .next=>(execs rest env).wrap K H gd lv | f=>K f) H gd lv) fs s):SgF M A Φ c ((execs (st :: rest) env).wrap K H gd lv) fs s:=by
 rw [execs_cons_wrap];exact h
theorem pP {target iter:Expr} {body:List Stmt} {pos:Pos} (hf:NFs fs)
  (h:∀ E,wpAny M (A.over c fs) (eval iter env) (λ v s1=>wpAny M (A.over c fs) (pyIter v) (λ i s2=>∀ p,SgF M A Φ (.forLoop target i body [] env) (M.den (.forLoop target i body [] env)) (runFrame env K H gd lv c p :: fs) s2) E s1) E s)
  (hs:∀ x,foldedSetIterable iter env x = pure x:=by intro _;rfl) :
  SgF M A Φ c ((exec (.For target iter body [] pos) env).wrap K H gd lv) fs s:=by
 show SgF M A Φ c (.at pos λ _=>((eval iter env) >>= λ x=>foldedSetIterable iter env x >>= λ x=>standAt iter.pos >>= λ _=>holding [x] (pyIter x) >>= λ i=>runOwn (.forLoop target i body [] env) env).wrap K H gd lv) fs s
 refine mw hf ?_
 rw [Sem.bind_eq_wrap',Sem.wrap_wrap]
 refine dH hf (aZ (wpAny_mono (h _) (λ v s1 h1=>?_) λ _ _ e=>e))
 rw [hs]
 show SgF M A Φ c (.at iter.pos λ _=>(holding [v] (pyIter v) >>= λ i=>runOwn (.forLoop target i body [] env) env).wrap K H gd lv) fs s1
 refine mw hf ?_
 rw [Sem.bind_eq_wrap',Sem.wrap_wrap]
 refine dH hf (aZ (wpAny_holding (wpAny_mono h1 (λ i s2 h2=>?_) λ _ _ e=>e)))
 exact n7 rfl h2
end
section
variable {w:World} {A:Around} {Φ:End->Shared->Prop} {c:Code} {fs:List Frame} {s:Shared} {env:Env} {K:Flow->Sem Fin} {H:Value->Sem Fin} {gd:Bool->Bool} {lv:List Value->List Value} {E:Value->Shared->Prop}
theorem jt {target:Expr} {it:Value} {body:List Stmt} (hf:NFs fs)
  (h:∀ E,wpF (model prog w) (A.over (.forLoop target it body [] env) fs) (pyNext it) (λ r s1=>match r with
   | none=>Sg (model prog w) A Φ (.block [] env) (.pure (.done .next)) fs s1
   | some v=>wpAny (model prog w) (A.over (.forLoop target it body [] env) fs) (letOwnedTupleGo target it v) (λ _ s2=>wpAny (model prog w) (A.over (.forLoop target it body [] env) fs) (assign target env v) (λ _ s3=>
     ∀ gd' lv',gd' false = false->Sg (model prog w) A Φ (.forLoop target it body [] env) ((execs body env).wrap (λ f=>match f with
      | .next | .cont=>.pure (.again (.forLoop target it body [] env))
      | .brk=>.pure (.done .next)
      | .ret v=>.pure (.done (.ret v))) (λ e=>(do noteFrame e env;theTreesLotGoes e:Sem Unit).wrap (λ _=>.raise e) .raise id id) gd' lv') fs s3) E s2) E s1) E s) :
  SgF (model prog w) A Φ (.forLoop target it body [] env) ((model prog w).den (.forLoop target it body [] env)) fs s:=by
 show SgF (model prog w) A Φ (.forLoop target it body [] env) (.at target.pos λ _=>(((pyNext it).onRaise (λ _=>standAt { target.pos with line:=0 })) >>= λ (r:Option Value)=>(match r with
  | none=>(again (.block [] env):Sem Fin)
  | some v=>letOwnedTupleGo target it v >>= λ _=>assign target env v >>= λ _=>execs body env >>= λ f=>match f with
   | .next | .cont=>again (.forLoop target it body [] env)
   | .brk=>pure (.done .next)
   | .ret v=>pure (.done (.ret v)))).onRaise (λ x=>do noteFrame x env;theTreesLotGoes x)) fs s
 refine mw hf ?_
 rw [Sem.onRaise_eq_wrap]
 rw [Sem.bind_eq_wrap',Sem.wrap_wrap]
 refine dH hf (bF (aL (h λ x s'=>Sg (model prog w) A Φ (.forLoop target it body [] env) (Sem.wrap Sem.pure (λ e=>(do noteFrame e env;theTreesLotGoes e:Sem Unit).bind λ _=>Sem.raise e) id id (Sem.raise x)) fs s') (λ r s1 h1=>?_) λ _ _ e=>aZ (wpAny_standAt (kq e))))
 cases r with
 | none=>exact kq (kj h1)
 | some v=>
  refine kq ?_
  show Sg _ A Φ _ (Sem.wrap _ _ _ _ (letOwnedTupleGo target it v >>= _)) fs s1
  rw [Sem.bind_eq_wrap',Sem.wrap_wrap]
  refine bb (wpAny_mono h1 (λ _ s2 h2=>?_) λ _ _ e=>e)
  rw [Sem.bind_eq_wrap',Sem.wrap_wrap]
  refine bb (wpAny_mono h2 (λ _ s3 h3=>?_) λ _ _ e=>e)
  rw [Sem.bind_eq_wrap',Sem.wrap_wrap]
  rw [Sem.wrap_congr (execs body env) _ _ (K':=λ f=>match f with
      | .next | .cont=>.pure (.again (.forLoop target it body [] env))
      | .brk=>.pure (.done .next)
      | .ret v=>.pure (.done (.ret v))) (H':=(λ e=>(do noteFrame e env;theTreesLotGoes e:Sem Unit).wrap (λ _=>.raise e) .raise id id))
    (λ f=>by cases f <;> rfl)
    (λ e=>by first | exact Sem.bind_eq_wrap _ _ | (show (do noteFrame e env;theTreesLotGoes e:Sem Unit).bind (λ _=>.raise e) = _;rw [Sem.bind_eq_wrap]))]
  exact h3 _ _ rfl
theorem kP {body:List Stmt}
  (h:∀ H gd lv,gd false = false->SgF (model prog w) A Φ (.func body env) ((execs body env).wrap (λ f=>.pure (.done (.ret (match f with | .ret v=>v | _=>.none)))) H gd lv) [] s) :
  SgF (model prog w) A Φ (.func body env) ((model prog w).den (.func body env)) [] s:=by
 show SgF (model prog w) A Φ (.func body env) (.point [] λ _=>((execs body env).onRaise (leaving env)) >>= _) [] s
 refine mO .nil ?_
 rw [Sem.onRaise_eq_wrap,Sem.bind_eq_wrap',Sem.wrap_wrap]
 rw [Sem.wrap_congr (execs body env) _ _ (K':=λ f=>.pure (.done (.ret (match f with | .ret v=>v | _=>.none))))
  (H':=λ e=>(leaving env e).wrap (λ _=>.raise e) .raise id id) (λ f=>by cases f <;> rfl)
  (λ e=>by rw [Sem.bind_eq_wrap,Sem.wrap_wrap];rfl)]
 exact h _ _ _ rfl
theorem lK {M:Model} {α:Type} {i:Nat} {c:Code} {l:List Value} {k:GenResult->Sem α} {Q:α->Shared->Prop} (hn:cC c = false) (hg:s.gens[i]? = some (.fresh c))
  (hgo:SgF M A (λ e s1=>e.quiet = true∧wpF M A (k e.result) Q E (s1.setGen i e.genState)) c (M.den c) [] (s.setGen i .running)):wpF M A (.resume i (.send .none) l k) Q E s:=by
 intro Γ p hΓ hF
 rw [Sem.wp_resume]
 refine aV (hgo (Γ.wake c p) p rfl (hΓ.wake c p) (hF.wake hn)) λ e1 s1 hr hq he=>?_
 exact (br _ _ (by unfold Wakes;rw [hg];exact (dK e1 s1 hr hq rfl rfl)) (he Γ p hΓ hF))
theorem wpF_callSpecial?_slot {self:Value} {T:String} {name:Str} {id:String} {args:List Value} {kw:List (Str×Value)} {M:Model}
  {Q:Option Value->Shared->Prop} (hT:s.TypeIs self T) (h:Slot T name id)
  (hc:wpF M A (call (.builtin id) (self :: args) kw) (λ v=>Q (some v)) E s):wpF M A (callSpecial? self name args kw) Q E s:=by
 simp only [callSpecial?]
 refine aj (wpAny_specialOf hT h.lookup ?_)
 simp only [h.bind]
 exact bL (aj (wpAny_pure (aI (aL hc (λ v s' h'=>aN h') λ _ _ h'=>h'))))
theorem gB {T:String} {name:Str}
  {id:String} {b:Builtin} {self:Value} {rest:List Value} (h:Slot T name id) (hT:s.TypeIs self T) (hn:cC (.builtin id ⟨self :: rest,[]⟩) = false)
  (hb:entryFor table id = some b)
  (hc:wpF (model prog w) A.in1 (b ⟨self :: rest,[]⟩) (λ fin s'=>∃ v,fin = .done (.ret v)∧Q v s') E s)
  (ha:argsOk id ⟨self :: rest,[]⟩:=by rfl) :
  wpF (model prog w) A (call (.builtin id) (self :: rest)) Q E s:=by
 refine eA (cg h.plain hb hn (h.check _ _ _ _ _ _ _ _ hT ha (aL hc (λ fin s' h'=>?_) λ _ _ h'=>h')))
 refine ac h' λ v zh1 hv=>?_;clear h';obtain rfl:=zh1;exact hv
theorem i6 {a:Addr} {i:Nat} {c:Code} {Q:Option Value->Shared->Prop} (hh:A.handled = none) (hl:s.heap.NoLimit) (hroom:A.depth < recursionLimit) (hn:cC c = false)
  (hg:s.heap.IsGen a i) (hgs:s.gens[i]? = some (.fresh c))
  (hgo:SgF (model prog w) A.in1 (λ e s1=>e.quiet = true∧(match e with
   | .ret r=>(r = .ok (.ret .none)∨r = .ok .next)∧∀ h',(∀ b o,s1.heap.get? b = some o->h'.get? b = some o)->Q none { s1.setGen i .finished with heap:=h' }
   | .susp v _ _ _ _ _ _=>Q (some v) (s1.setGen i e.genState))) c ((model prog w).den c) [] (s.setGen i .running)) :
  wpF (model prog w) A (pyNext (.ref a)) Q E s:=by
 unfold pyNext
 refine aI (fZ (wpF_callSpecial?_slot (name:=Str.ofString "__next__") hg.typeIs slot_gen_next
  (gB slot_gen_next hg.typeIs rfl entry_gen_next ?_ (args_gen_next _))))
 show wpF _ A.in1 (Builtin.Generator.genWake (.ref a) (.send .none)) _ _ s
 unfold Builtin.Generator.genWake
 refine aj (wpAny_holding (wpAny_genNumber hg (aj (wpAny_genState hgs ?_))))
 refine aj (wpAny_roomToWake hl hroom ?_)
 show wpF _ A.in1 (.resume i (.send .none) [] _) _ _ s
 refine lK hn hgs (λ Γ p hc hΓ hF=>?_)
 refine bC (hgo Γ p hc hΓ hF) λ e s1 hr he=>?_
 refine (bc e s1 hr he.1 (aZ ?_))
 revert he;refine λ zq=>ae zq λ zz he=>?_;clear zq
 cases e with
 | susp v _ _ _ _ _ _=>exact wpAny_pure (ad v rfl (aZ (wpAny_pure he)))
 | ret r=>
  refine ae he λ hr hp=>?_;clear he
  have fin:∀ k':PUnit->Sem Fin,wpAny (model prog w) A.in1 (newExc (.type "StopIteration") [] >>= λ x=>raiseNew x >>= k') (λ (fin:Fin) s'=>∃ v,fin = .done (.ret v)∧wpF (model prog w) A (pure (some v)) Q E s') (λ e s'=>wpF (model prog w) A (do
    let b ← isInstance e (.type "StopIteration")
    if b = true then pure none else throw e) Q E s') (s1.setGen i .finished):=by
   intro k'
   refine wpAny_bind ?_
   simp only [newExc,newTuple]
   refine wpAny_bind (wpAny_newObj_type ?_ (by size_fits))
   refine wpAny_bind (m:=firstArgMember _ _) (wpAny_of_eq (a:=Value.none) (by first | rfl | (simp only [firstArgMember];rfl)) ?_)
   refine wpAny_newObj_type ?_ (by size_fits)
   simp only [raiseNew]
   refine wpAny_bind (wpAny_bind (wpAny_handled ?_))
   rw [show A.in1.handled = none from hh]
   refine wpAny_throw ?_
   refine aj (wpAny_isInstance (T:="StopIteration") (b:=true) (ad _ (Heap.get?_push_size _ rfl) rfl) isSubtype_stop ?_)
   exact aZ (wpAny_pure (hp _ λ b o hb=>Heap.get?_push_of_some _ (Heap.get?_push_of_some _ hb)))
  rcases hr with rfl | rfl
  ·exact wpAny_bind (wpAny_pure (fin _))
  ·exact wpAny_bind (wpAny_pure (fin _))
noncomputable def CB (M:Model) (A:Around) (env:Env) (E:Value->Shared->Prop):Value->Shared->Prop :=
 λ x s'=>wpAny M A (do
  if (← field x 1) == .none then unsupported "frame.own-activation:exception-without-traceback"
  setFlight x env.frame) (λ _ s''=>E x s'') E s'
theorem me {target iter:Expr} {body rest:List Stmt} {pos:Pos} {Q:Flow->Shared->Prop}
  (h:wpF (model prog w) A (eval iter env) (λ v s1=>wpAny (model prog w) A (pyIter v) (λ i s2=>cR (model prog w) A (.forLoop target i body [] env) (λ r s'=>match r with | .ok .next=>wpF (model prog w) A (execs rest env) Q E s' | .ok f=>Q f s' | .error e=>CB (model prog w) A env E e s') s2) E s1) E s)
  (hs:∀ x,foldedSetIterable iter env x = pure x:=by intro _;rfl):wpF (model prog w) A (execs (.For target iter body [] pos :: rest) env) Q E s:=by
 refine h7 ?_
 rw [exec_For]
 refine aj (wpAny_standAt (aI (aL h (λ x s1 h1=>aj (wpAny_of_eq (hs x) (aj (wpAny_standAt (aj (wpAny_holding (wpAny_mono h1 (λ it s2 h2=>?_) λ _ _ h'=>h'))))))) λ _ _ h'=>h')))
 unfold runOwn
 refine bF (pL rfl (la h2 λ r s' z=>?_))
 rcases r with e | (v | _ | _ | _) <;> first | exact z | exact aZ z
theorem gx {R:Result->Shared->Prop} {target:Expr} {it:Value} {body:List Stmt}
  (h:∀ E,wpF (model prog w) A (pyNext it) (λ r s1=>match r with
   | none=>R (.ok .next) s1
   | some v=>wpAny (model prog w) A (letOwnedTupleGo target it v) (λ _ s1'=>wpAny (model prog w) A (assign target env v) (λ _ s2=>wpAny (model prog w) A (execs body env) (λ f s3=>(f = .next∨f = .cont)∧codeAny (model prog w) A (.forLoop target it body [] env) R s3) E s2) E s1') E s1) E s) :
  cR (model prog w) A (.forLoop target it body [] env) R s:=by
 refine bp ?_
 show wpF _ A ((forTurn target it body [] env).onRaise (λ x=>do noteFrame x env;theTreesLotGoes x)) _ _ s
 refine bF (aL (Q:=λ fin s'=>match fin with | .done f=>R (.ok f) s' | .again c'=>c'.quiet = true∧cC c' = false∧cR (model prog w) A c' R s')
  (E:=λ e s'=>wpAny (model prog w) A (do noteFrame e env;theTreesLotGoes e) (λ _ s''=>R (.error e) s'') (λ e s''=>R (.error e) s'') s') ?_ (λ _ _ z=>z) λ _ _ z=>aZ z)
 simp only [forTurn]
 refine aj (wpAny_standAt (aI (bF (aL (h _) (λ r s1 h1=>?_) λ _ _ h'=>aZ (wpAny_standAt h')))))
 cases r with
 | none=>exact aN (aQ rfl rfl (et (codeAny_block (wpAny_pure h1))))
 | some v=>
  refine aZ (wpAny_bind (wpAny_mono h1 (λ _ s1' h1'=>?_) λ _ _ h'=>h'))
  refine wpAny_bind (wpAny_mono h1' (λ _ s2 h2=>wpAny_bind (wpAny_mono h2 (λ f s3 h3=>?_) λ _ _ h'=>h')) λ _ _ h'=>h')
  revert h3;refine λ zq=>ae zq λ hf h3=>?_;clear zq
  rcases hf with rfl | rfl
  ·exact wpAny_pure (aQ rfl rfl (et h3))
  ·exact wpAny_pure (aQ rfl rfl (et h3))
theorem mo {elts:List Expr} {k:Nat} {pos:Pos} (h:wpF (model prog w) A (spliced (backTo pos (starEach elts env))) (λ vs s1=>wpF (model prog w) A (newTuple vs) Q E s1) E s) :
  wpF (model prog w) A (eval (.Tuple elts k pos) env) Q E s:=by
 show wpF _ A (do standAt pos;newTuple (← spliced (backTo pos (starEach elts env)))) Q E s
 exact aj (wpAny_standAt (aI h))
theorem gU {pos:Pos} {e:Expr} {rest:List Expr} {Q:List Value->Shared->Prop}
  (h:wpF (model prog w) A (eval e env) (λ v0 s'=>wpF (model prog w) A (spliced (backTo pos (starEach rest env))) (λ vs s2=>Q (v0 :: vs) s2) E s') E s)
  (hs:starEach (e :: rest) env = (false,eval e env) :: starEach rest env:=by rfl):wpF (model prog w) A (spliced (backTo pos (starEach (e :: rest) env))) Q E s:=by
 rw [hs]
 show wpF _ A (do
  let v ← eval e env
  let here ← (pure [v]:Sem (List Value))
  return here++(← holding here (spliced (backTo pos (starEach rest env))))) Q E s
 exact aI (aL h (λ v s1 h1=>aj (wpAny_pure (aI (bL (aL h1 (λ vs s2 h2=>aN h2) λ _ _ x=>x))))) λ _ _ x=>x)
theorem om {M:Model} {α:Type} {vs:List Value} {m:Sem α} {Q:α->Shared->Prop} (h:wpF M A m Q E s):wpF M A (m.keep vs) Q E s :=
 λ Γ p hΓ hF=>by rw [Sem.wp_keep];exact h Γ p hΓ hF
theorem mi {pos:Pos} {f:Value} {args:List (Bool×Sem Value)} (hplain:args.any (·.1) = false)
  (h:wpAny (model prog w) A (evalArgs f true args []) (λ a s1=>nH (model prog w) f s1.heap∧wpF (model prog w) A (call f ([]++a.pos) a.kw) Q E s1) E s):wpF (model prog w) A (callWith pos f [] args []) Q E s:=by
 unfold callWith
 refine aj (wpAny_holding (wpAny_mono h (λ a s1 h1=>aj (wpAny_standAt ?_)) λ _ _ x=>x))
 revert h1;refine λ zq=>ae zq λ zh1 h1=>?_;clear zq;refine ac zh1 λ k hk' L=>?_;clear zh1
 have hp:(args.any (·.1) || ([]:List (Option Str×Sem Value)).any (·.1.isNone)) = false:=by rw [hplain];rfl
 simp only [hp]
 refine aj (L.here ?_)
 have tail:∀ {t:Sem Value},wpF (model prog w) A t Q E s1->wpF (model prog w) A (t >>= λ r=>holding [r] point >>= λ _=>pure r) Q E s1 :=
  λ ht=>aI (aL ht (λ r s2 hr=>aj (wpAny_holding (wpAny_point (aN hr)))) λ _ _ x=>x)
 have marked (mk:Value):wpF (model prog w) A (callMarked mk f ([]++a.pos) a.kw) Q E s1:=by unfold callMarked;exact om h1
 rcases hk' with rfl | rfl | rfl <;> dsimp only <;> first | exact tail h1 | (split <;> first | exact tail h1 | exact tail (marked _))
theorem gZ {B:Heap} {g:c9} {os:OsState} {σ:Led} {x:Str} {np pos:Pos} {args:List Expr} {fv:Value} (Hs:W prog w B g os σ s) (hf:Gv prog w A B g os σ (eval (.Name x np) env) fv) (hc:∀ f0,cv f0 = fv->f0 = fv)
  (h:∀ s',W prog w B g os σ s'->wpF (model prog w) A (callWith pos fv [] (backTo pos (starEach args env)) []) Q E s'):wpF (model prog w) A (eval (.Call (.Name x np) args [] pos) env) Q E s:=by
 show wpF _ A (do callWith pos (← eval (.Name x np) env) [] (backTo pos (starEach args env)) (backToKw pos (keywordEach [] env))) Q E s
 exact aj (hf.use Hs λ f0 s1 e1 H₁=>by rw [hc _ e1];exact h s1 H₁)
theorem lO {B:Heap} {g:c9} {os:OsState} {σ:Led} {o:Expr} {name:Str} {apos pos:Pos} {args:List Expr} {ov:Value} {pl:Sem Bool} (Hs:W prog w B g os σ s) (ho:Gv prog w A B g os σ (eval o env) ov)
  (h:∀ o0 s',cv o0 = ov->W prog w B g os σ s'->wpF (model prog w) A (getMethod o0 name pl) (λ fx s2=>wpF (model prog w) A (callWith pos fx.1 fx.2 (backTo pos (starEach args env)) []) Q E s2) E s')
  (he:eval (.Call (.Attribute o name apos) args [] pos) env = (do
   let ov ← eval o env
   standAt apos.atName
   let (f,first) ← holding [ov] (getMethod ov name pl)
   callWith pos f first (backTo pos (starEach args env)) (backToKw pos (keywordEach [] env))):=by rfl) :
  wpF (model prog w) A (eval (.Call (.Attribute o name apos) args [] pos) env) Q E s:=by
 rw [he]
 exact aj (ho.use Hs λ o0 s1 e1 H₁=>aj (wpAny_standAt (aI (bL (aL (h o0 s1 e1 H₁) (λ fx s2 h2=>h2) λ _ _ e=>e)))))
theorem iF {K:Frag} {x C:Addr} {ox:Obj} {od:Option Obj} {name:Str} {pl:Sem Bool} {r:Option Value} {Q:Value×List Value->Shared->Prop} (X:K.In s.heap) (I:InstAt s.heap x ox C od) (hga:findIn K (.ref C) "__getattribute__" = some (some (.builtin "object.__getattribute__"))) (hk:findIn K (.ref C) "__getattr__" = some none)
  (hf:findIn K (.ref C) name = some r) (ht:r.all (λ a=>(typeIn K a).any λ t=>t != .type "function" && t != .type "method_descriptor" && t != .type "wrapper_descriptor") = true)
  (h:wpF (model prog w) A (getAttr (.ref x) name) (λ v=>Q (v,[])) E s):wpF (model prog w) A (getMethod (.ref x) name pl) Q E s:=by
 have hcan:=PySem.F.canon_object_ga
 have u:wpF (model prog w) A (do return (← getAttr (.ref x) name,([]:List Value))) Q E s:=aI (aL h (λ _ _ z=>aN z) λ _ _ z=>z)
 unfold getMethod specialOf
 refine aj (wpAny_bind (I.type.here ((looks_findIn X hga).here ?_)))
 dsimp only
 rw [hcan,if_neg (by decide)]
 refine aj (wpAny_bind (I.type.here ((looks_findIn X hk).here ?_)))
 refine aj (wpAny_bind (I.type.here ((looks_findIn X hf).here ?_)))
 cases r with
 | none=>exact u
 | some a=>
  refine ac (any_some ht) λ t a1 a2=>?_
  refine aj ((looks_typeIn X a1).here ?_)
  rw [if_pos a2];exact u
end
structure GG where
 a:GA
 e0:Nat
 eS:Int->Nat
 eP:Int->Nat
 ns:List Int
 su:Int->List (Int×Value)
 pr:Int->List (Int×Value)
structure GG.Ok (G:GG):Prop where
 nd:G.ns.Nodup
 l1:G.ns.length≤100
 l2:∀ n∈G.ns,(G.su n).length≤100
 l3:∀ n∈G.ns,(G.pr n).length≤100
noncomputable def GG.rest (G:GG):Led :=
 (G.a.gd,.sdict []) :: (G.a.nd,.idict (G.ns.map λ n=>(n,.ref (G.a.nA n)))) :: (G.a.sd,.idictE (G.ns.map λ n=>(n,.ref (G.a.sA n))) G.e0) :: (G.a.pd,.idict (G.ns.map λ n=>(n,.ref (G.a.pA n)))) ::
  (G.ns.map (λ n=>(G.a.nA n,.sdict []))++(G.ns.map (λ n=>(G.a.sA n,.idictE (G.su n) (G.eS n)))++G.ns.map (λ n=>(G.a.pA n,.idictE (G.pr n) (G.eP n)))))
noncomputable def GG.led (prog:Program) (w:World) (G:GG) (made:Bool) (kvs:List (Str×Value)):Led:=(G.a.net,.inst 951 G.a.d) :: (G.a.d,ndict prog w made kvs) :: G.rest
noncomputable abbrev OA:=Option (Addr×Addr)
noncomputable def kvC (G:GG) (iv:Addr):OA->List (Str×Value)
 | none=>G.a.base++([("in_degree",.ref iv)]:List (Str×Value))
 | some p=>G.a.base++([("in_degree",.ref iv),("pred",.ref p.1)]:List (Str×Value))
noncomputable def lF (G:GG):OA->Led
 | none=>[]
 | some p=>[(p.1,.raw (aK 180 p.2 (.ref G.a.pd))),(p.2,.sdict [])]
noncomputable def rho (prog:Program) (w:World) (G:GG) (iv ivd:Addr) (c:OA):Led:=G.led prog w true (kvC G iv c)++(gj iv ivd G.a.sd G.a.pd++lF G c)
theorem rS (P:Params):eB (Z0.K P) 951 "in_degree" (.ref 923) (.ref 564) = true:=by kernel_rfl
theorem dj {G:GG} (hG:G.Ok) (iv ivd:Addr):TgFacts prog w (rho prog w G iv ivd) G.a.net G.a.d G.a.nd G.a.sd G.a.pd iv ivd (kvC G iv) G.ns G.a.sA G.a.pA G.a.nA G.su G.pr G.e0 G.eS G.eP where
 I:={
  h1:=λ c=>List.mem_append_right _ (.head _)
  h2:=λ c=>List.mem_append_right _ (.tail _ (.head _))
  h3:=λ c=>List.mem_append_left _ (.tail _ (.tail _ (.tail _ (.tail _ (.head _)))))
  h4:=λ c=>List.mem_append_left _ (.tail _ (.tail _ (.tail _ (.tail _ (.tail _ (.head _))))))
  h5:=λ c n hn=>List.mem_append_left _ (.tail _ (.tail _ (.tail _ (.tail _ (.tail _ (.tail _ (List.mem_append_right _ (List.mem_append_right _ (List.mem_map.mpr (ad n hn rfl))))))))))
  h6:=hG.l3 }
 g1:=λ c=>List.mem_append_left _ (.head _)
 g2:=λ c=>List.mem_append_left _ (.tail _ (.head _))
 k1:=λ c=>by cases c <;> rfl
 k2:=λ c=>by cases c <;> rfl
 k3:=λ c=>by cases c <;> rfl
 k4:=λ c=>by cases c <;> rfl
 k5:=λ c=>by cases c <;> rfl
 k6:=λ c=>by cases c <;> rfl
 g4:=λ c=>List.mem_append_left _ (.tail _ (.tail _ (.tail _ (.head _))))
 g5:=λ c n hn=>List.mem_append_left _ (.tail _ (.tail _ (.tail _ (.tail _ (.tail _ (.tail _ (List.mem_append_right _ (List.mem_append_left _ (List.mem_map.mpr (ad n hn rfl))))))))))
 l1:=hG.l1
 nd:=hG.nd
 l2:=hG.l2
theorem mL {G:GG} {τ o:Led} {pl:Sem Bool} {Q:Value×List Value->Shared->Prop} (T:TE w B mg mb) (hth:∃ m,B.Ns cStatics m∧m ("_thread.count":Str) = none) (R:Rm A 5 24)
  (H:W prog w B g os (τ++(G.led prog w false G.a.base++o)) s)
  (h:∀ iv ivd s',W prog w B g os (gj iv ivd G.a.sd G.a.pd++(τ++(G.led prog w true (kvC G iv none)++o))) s'->Q (.ref iv,[]) s'):wpF (model prog w) A (getMethod (.ref G.a.net) "in_degree" pl) Q E s:=by
 have X:=T.X
 refine an5 (kTg w.params) λ _ _ k3 k4 k5=>?_
 replace k4:=beq_iff_eq.mp k4
 have kc:=kCp w.params
 simp only [Bool.and_eq_true] at kc
 have hx:(G.a.net,AObj.inst 951 G.a.d)∈τ++(G.led prog w false G.a.base++o):=List.mem_append_right _ (.head _)
 have hgd:(G.a.d,ndict prog w false G.a.base)∈τ++(G.led prog w false G.a.base++o):=List.mem_append_right _ (.tail _ (.head _))
 refine cK (d7 H hx hgd) λ od kvs0 I D zz hk=>?_
 refine iF (X.keeps H.keep) I (plainGet_of (bs k3)).1 (plainGet_of (bs k3)).2 k4 (by simpa using k5) ?_
 have kb:=rS w.params
 refine oB X kb H hx hgd rfl λ E' s1 H₁=>?_
 refine oN (f:=λ x=>τ++((G.a.net,.inst 951 G.a.d) :: (G.a.d,x) :: (G.rest++o))) (P:=λ v ν=>∃ dv,ν = gj v dv G.a.sd G.a.pd) (dd:=4) (uu:=20) T hth false kc.1 R.in1 H₁ (λ x=>List.mem_append_right _ (.head _)) rfl (λ v=>.app (.tail .head)) rfl (Nat.le_of_ble_eq_true rfl) ?_ ?_
 ·intro A' E' s' Q' τ' R' H' hq
  refine ln T R' H' (List.mem_append_right _ (List.mem_append_right _ (.head _))) (List.mem_append_right _ (List.mem_append_right _ (.tail _ (.head _)))) rfl rfl λ v dv s2 H₂=>hq v _ s2 ⟨dv,rfl⟩ H₂
 ·intro v ν s' zr;refine ai zr λ dv zh1=>?_;clear zr;obtain rfl:=zh1;intro H'
  exact ⟨rfl,h v dv s' H'⟩
noncomputable def f90 (P:Params):{ fd:FuncData // ∃ oc od osl,(Z0.K P).lookup 90 = some ⟨oc,od,.func fd,osl⟩ }:=⟨_,_,_,_,rfl⟩
noncomputable def b90 (P:Params):{ b:List Stmt // (f90 P).1.body = .stmts b }:=⟨_,rfl⟩
noncomputable abbrev e90 (P:Params) (L:Addr):Env:=callEnvC (f90 P).1 L 90
theorem nO {a b L:Addr×AObj} {X Y o:Led}:(a :: b :: L :: (X++o)).Perm (L :: (X++([a,b]++o))):=by
 refine (cV (e:=a) (H:=[b,L]) (T:=X++o) rfl rfl).trans ?_
 show (b :: L :: a :: (X++o)).Perm _
 refine (List.Perm.swap L b _).trans (List.Perm.cons _ ?_)
 refine (List.Perm.swap a b _).trans ?_
 show ([a,b]++(X++o)).Perm (X++([a,b]++o))
 exact List.perm_append_comm_assoc ..
theorem qj {net:Addr} (T:TE w B mg mb) (R:Rm A 0 0) (H:W prog w B g os σ s)
  (h:∀ I i L m s',m ("G":Str) = some (.ref net)->W prog w B ((i,.fresh (.func (b83 w.params).1 (e83 w.params L))) :: g) os ((I,ar i) :: ([(L,.frame m)]++σ)) s'->Q (.ref I) s'):wpAny (model prog w) A (call (.ref 83) [.ref net]) Q E s:=by
 refine eG (args:=⟨[_],[]⟩) (fd:=(f83 w.params).1) (body:=(b83 w.params).1) (cl:=λ L=>[(L,.frame (frM _ _ L 83))]) H R _ T.X T.lim ⟨(f83 w.params).2,by kernel_rfl,(b83 w.params).2⟩ (λ s' _=>BindsTo.of_eq rfl) rfl (λ L=>aH rfl) ?_ ?_ ?_
 ·intro I i L s1 H₁
  exact h I i L _ s1 rfl H₁
 ·intro L x hx
  exact .inl (by revert x;exact locs rfl)
 ·intro L;exact List.nodup_nil
theorem qp {net:Addr} (T:TE w B mg mb) (R:Rm A 0 0) (H:W prog w B g os σ s)
  (h:∀ I i L m s',m ("G":Str) = some (.ref net)->W prog w B ((i,.fresh (.func (b90 w.params).1 (e90 w.params L))) :: g) os ((I,ar i) :: ([(L,.frame m)]++σ)) s'->Q (.ref I) s'):wpAny (model prog w) A (call (.ref 90) [.ref net]) Q E s:=by
 refine eG (args:=⟨[_],[]⟩) (fd:=(f90 w.params).1) (body:=(b90 w.params).1) (cl:=λ L=>[(L,.frame (frM _ _ L 90))]) H R _ T.X T.lim ⟨(f90 w.params).2,by kernel_rfl,(b90 w.params).2⟩ (λ s' _=>BindsTo.of_eq rfl) rfl (λ L=>aH rfl) ?_ ?_ ?_
 ·intro I i L s1 H₁
  exact h I i L _ s1 rfl H₁
 ·intro L x hx
  exact .inl (by revert x;exact locs rfl)
 ·intro L;exact List.nodup_nil
theorem lm {e:Expr} {scope:Scope} {pos:Pos} {newAcc first:Sem Value} {use:Option (Value->Sem Unit)} {b:Bool}:comprehension e scope env pos newAcc b first use = first >>= λ x=>comprehension e scope env pos newAcc b (pure x) use:=by
 unfold comprehension;rfl
theorem lQ {x:Str} {e:Expr} {p p':Pos} {rest:List Stmt} {Q:Flow->Shared->Prop} (h:wpF (model prog w) A (evalThenUse e env (assign (.Name x p) env)) (λ _ s'=>wpF (model prog w) A (execs rest env) Q E s') E s)
  (hs:swapsWith e (some (.Name x p)) p'.line env = pure true:=by rfl):wpF (model prog w) A (execs (.Assign [.Name x p] e p' :: rest) env) Q E s:=by
 refine h7 ?_
 rw [exec_Assign_Name_used x p e p' hs]
 exact aj (wpAny_standAt (aI (aL h (λ _ s' z=>aN z) λ _ _ z=>z)))
theorem rL {G:GG} (hG:G.Ok) {gs:List (List Int)} (T:TE w B mg mb) (hth:∃ m,B.Ns cStatics m∧m ("_thread.count":Str) = none)
  (hK:Kahn G.su G.ns ((G.ns.filter λ n=>decide (0 < (G.pr n).length)).map λ n=>(n,.int (G.pr n).length 0)) (G.ns.filter λ n=>(G.pr n).length == 0) gs)
  {A':Around} {L i:Nat} {o:Led} {γo:c9} {ret:Shared->Prop} {yld:Value->GenState->Shared->Prop} {m:Str->Option Value} {s2:Shared} (hm:m ("G":Str) = some (.ref G.a.net))
  (R₂:Rm A' 6 27) (H₂:W prog w B ((i,.running) :: γo) os ((L,.frame m) :: (G.led prog w false G.a.base++o)) s2)
  (hc:∀ iv ivd,lp prog w B os (rho prog w G iv ivd) 3 16 i (gs.map di) γo o ret yld) :
  SgF (model prog w) A' (Ends ret yld) (.func (b83 w.params).1 (e83 w.params L)) ((model prog w).den (.func (b83 w.params).1 (e83 w.params L))) [] s2:=by
 have X:=T.X
 refine an5 (kTg w.params) λ k1 k2 _ _ _=>?_
 refine mT (kGm w.params) λ _ _ _ _ _ _ _ q8 q9 _ _=>?_
 refine kP λ HH gd lv hgd=>?_
 dsimp only [e83,b83,f83]
 have g1:(G.a.net,AObj.inst 951 G.a.d)∈G.led prog w false G.a.base++o:=.head _
 have g2:(G.a.d,ndict prog w false G.a.base)∈G.led prog w false G.a.base++o:=.tail _ (.head _)
 refine jA .nil λ E'=>aZ ?_
 refine d9 (b:=false) H₂ (gQ (b:=true) (aS (v:=.bool true) (λ E s H=>ax H (aa (by walk_at "l") (by exact hm)) λ o0 s3 e₃ H₃=>by
  cases ak e₃
  exact fm X k1 H₃ (.tail _ g1) (.tail _ g2) rfl (cw0 (aW (X.keeps H₃.keep) q8) (gt T ((R₂.overFn (d:=5) (u:=24)).mono (by decide) (by decide)) H₃ λ s4 H₄=>⟨rfl,H₄⟩))) λ v0 e=>cf e)) (λ q=>by cases q) λ _ s3 H₃=>ay (ay ⟨rfl,?_⟩)
 refine jA .nil λ E'=>aZ ?_
 refine bh (v:=.bool false) H₃ (λ E s H=>ax H (aa (by walk_at "l") (by exact hm)) λ o0 s3 e₃ H₃=>by
  cases ak e₃
  exact fm X k2 H₃ (.tail _ g1) (.tail _ g2) rfl (cw0 (aW (X.keeps H₃.keep) q9) (eH T ((R₂.overFn (d:=5) (u:=24)).mono (by decide) (by decide)) H₃ λ s4 H₄=>⟨rfl,H₄⟩))) (by walk_at "l") λ s4 H₄=>ay ⟨rfl,?_⟩
 refine jA .nil λ E'=>?_
 have Rf:∀ body env,Rm (A'.over (.func body env) []) 5 24:=λ _ _=>R₂.overFn
 refine lQ ?_
 show wpF _ _ (comprehension _ _ _ _ newDict _ _ (some _) >>= λ _=>pure ()) _ _ _
 refine aI ?_
 rw [lm]
 refine aI ?_
 refine lO H₄ (aa (by walk_at "l") (by exact hm))<|au λ s5 H₅=>?_
 refine mL (τ:=[(L,_)]) T hth (Rf _ _) H₅ λ iv ivd s₆ H₆=>aZ ?_
 have F:=dj (w:=w) hG iv ivd
 have H₆:=H₆.perm (nO (X:=G.led prog w true (kvC G iv none)) (o:=o) (Y:=[]))
 have H₆:W prog w B ((i,.running) :: γo) os ((L,.frame (put "multigraph" (.bool false) m)) :: (rho prog w G iv ivd none++o)) s₆:=H₆.perm (List.Perm.of_eq (by unfold rho gj lF;simp))
 have hv1:(iv,AObj.inst 359 ivd)∈rho prog w G iv ivd none++o:=List.mem_append_left _ (F.I.h1 none)
 have hv2:(ivd,AObj.sdict [("_succ",.ref G.a.sd),("_pred",.ref G.a.pd),("_nodes",.ref G.a.sd),("_weight",.none)])∈rho prog w G iv ivd none++o:=List.mem_append_left _ (F.I.h2 none)
 refine rt (dU H₆ (.tail _ hv1)) ?_
 refine eY T ((Rf _ _).mono (by decide) (by decide)) H₆ (.tail _ hv1) (.tail _ hv2) λ s7 H₇=>?_
 refine aZ ?_
 have hc:=hc iv ivd
 generalize hρ:rho prog w G iv ivd = ρ at *
 refine i3 (C:=OA) (ρ:=ρ) (tg:=kg) (d:=2) (u:=13) (B:=B) (os:=os) (cl:=[])
   (λ xs ws o' γ'=>γ' = (i,.running) :: γo∧(∃ m,m ("G":Str) = some (.ref G.a.net)∧m ("multigraph":Str) = some (.bool false)∧o' = (L,.frame m) :: o)∧∃ dn ys,xs = ys.map (gY G.pr)∧dn++ys = G.ns∧ws = (dn.filter λ n=>decide (0 < (G.pr n).length)).map λ n=>(n,.int (G.pr n).length 0))
   trivial ((Rf _ _).mono (by decide) (by decide)) rfl ?_ ?_ ?_
 ·refine wpAny_pure ?_
  refine iA (c:=none) (o:=o) T ((Rf _ _).mono (by decide) (by decide)) F.I H₇ (λ p hp=>.tail _ (show _∈ρ none++o from List.mem_append_left _ hp)) λ I₁ i1 μ₁ st1 s8 hb hg H₈=>?_
  have H9:=H₈.perm (mM (X:=ρ none) (o:=o))
  refine (jK I₁ _ _ _ none _ _ rfl ?_ (bz T.lim _ _ _ _ hg) eu (aQ rfl (bl _ ?_ ?_ rfl) (bc [] G.ns rfl rfl rfl)) H9)
  ·rw [List.length_map];have:=F.l1;walk_at "r"
  ·exact hm
  ·rfl
 ·intro xq xs ws D Cf m μ γ o' γ' c' v ν s' E2 hJ
  refine bP hJ λ zh1 zh2 zh3=>?_;clear hJ;obtain rfl:=zh1;refine aU zh2 λ mf hf1 hf2 zh4=>?_;clear zh2;obtain rfl:=zh4;refine aV zh3 λ dn ys e1 e2 e3=>?_;clear zh3
  intro hx H
  refine eL λ Q1 hQ1=>?_
  cases ys with
  | nil=>cases e1
  | cons n ys=>
  refine ae (List.cons.inj e1) λ zh1 zh2=>?_;obtain rfl:=zh1;obtain rfl:=zh2
  refine ac hx λ tp zh1 zh2=>?_;clear hx;obtain rfl:=zh1;obtain rfl:=zh2
  refine kI (Rf _ _).hd H (by walk_at "l") (by walk_at "l") (λ v=>by walk_at "l") λ s5 H5=>hQ1 _ _<|?_
  refine i5 ((aT (aa (by walk_at "l") rfl) aC λ a0 b0 ea eb=>nq ea eb).use H5 λ s₆ H6=>?_)
  have hd6:=(H6.pick (a:=tp) (.tail (.tail .head))).drop
  by_cases hpos:0 < (G.pr n).length
  ·rw [if_pos (by simpa using hpos)]
   refine (aa (by walk_at "l") rfl).use hd6 λ a0 s7 ea H7=>(aa (by walk_at "l") rfl).use H7 λ b0 s8 eb H8=>?_
   refine (bk n _ c' (bc _ _ ea (aQ rfl (bl mf hf1 hf2 rfl) (bc (dn++[n]) ys rfl (by rw [List.append_assoc];exact e2) ?_)) H8))
   rw [eb,e3,List.filter_append,List.map_append,aA]
   ·simp [hpos]
   ·rw [a8,if_neg]
    intro hm
    have hnd:=F.nd
    rw [← e2,List.nodup_append] at hnd
    exact hnd.2.2 n (List.mem_filter.mp hm).1 n (.head _) rfl
  ·rw [if_neg (by simpa using hpos)]
   refine (dO _ c' _ _ (aQ rfl (bl mf hf1 hf2 rfl) (bc (dn++[n]) ys rfl (by rw [List.append_assoc];exact e2) ?_)) hd6)
   rw [e3,List.filter_append]
   simp [hpos]
 ·intro D Cf mc ws o' γ' c' s' hJ
  refine bP hJ λ zh1 zh2 zh3=>?_;clear hJ;obtain rfl:=zh1;refine aU zh2 λ mf hf1 hf2 zh4=>?_;clear zh2;obtain rfl:=zh4;refine aV zh3 λ dn ys e1 e2 e3=>?_;clear zh3
  intro H
  refine eL λ Q1 hQ1=>?_
  have:ys = []:=by cases ys with | nil=>rfl | cons=>cases e1
  subst this
  rw [List.append_nil] at e2
  refine aG (al H (.tail (.tail (.app .head))) rfl λ s5 H5=>hQ1 _ _<|⟨_,_,H5,λ s₆ H6=>aN (aZ (ay ⟨rfl,kq ?_⟩))⟩)
  subst e3
  rw [e2] at H6
  have H7:W prog w B ((i,.running) :: γo) os ((L,.frame (put "indegree_map" (.ref D) mf)) :: (D,.idict _) :: (ρ c'++o)) s₆:=H6.perm (mI (X:=ρ c') (o:=o))
  exact mY T F (R₂.mono (by decide) (by decide)) hgd (by exact hf1) (by exact hf2) rfl rfl hK H7 hc
noncomputable def bi (P:Params):{ x:Expr×Expr×List Stmt×Pos // (b90 P).1 = [.For x.1 x.2.1 x.2.2.1 [] x.2.2.2] }:=⟨(_,_,_,_),rfl⟩
theorem SgF.mono {M:Model} {A:Around} {Φ Ψ:End->Shared->Prop} {c:Code} {t:Sem Fin} {fs:List Frame} (x:SgF M A Φ c t fs s) (h:∀ e s',Φ e s'->Ψ e s'):SgF M A Ψ c t fs s:=λ Γ p hc hΓ hF=>
 let ⟨e,s',hr,he⟩:=x Γ p hc hΓ hF;(br e s' hr (h e s' he))
theorem mH {C:Type} {ρ:C->Led} {L I₁:Addr} {i:Nat} {fs:List Frame} (hfs:splitAtGen fs = none) (hfg:fs.any Frame.guarded = false) (hmk:marksOver fs (none,none) = (none,none))
  {xs:List eT} {gss:List (List Int)} {z:List Int}
  (A:Around) (c:C) (o:Led) (γo:c9) (ret:Shared->Prop) (yld:Value->GenState->Shared->Prop) (s:Shared) (μ₁:Led) (γ₁:c9) (m:Str->Option Value) (v:Value) (ν:Led) (E:Value->Shared->Prop) (R:Rm A 4 20)
  (hx:di z v ν) (H:W prog w B ((i,.running) :: (γ₁++γo)) os (ν++(μ₁++(ρ c++([(L,.frame m)]++o)))) s) (hc:lp prog w B os ρ 4 20 i (((z :: gss).flatten).map kA) γo o ret yld)
  (ag:∀ A c o γo ret yld s m,Rm A 4 20->W prog w B ((i,.running) :: (γ₁++γo)) os (μ₁++(ρ c++([(L,.frame m)]++o))) s->lp prog w B os ρ 4 20 i (gss.flatten.map kA) γo o ret yld ->
    Sg (model prog w) A (Ends ret yld) (.forLoop (bi w.params).1.1 (.ref I₁) (bi w.params).1.2.2.1 [] (e90 w.params L)) (.pure (.again (.forLoop (bi w.params).1.1 (.ref I₁) (bi w.params).1.2.2.1 [] (e90 w.params L)))) fs s) :
  wpAny (model prog w) (A.over (.forLoop (bi w.params).1.1 (.ref I₁) (bi w.params).1.2.2.1 [] (e90 w.params L)) fs) (assign (bi w.params).1.1 (e90 w.params L) v) (λ _ s3=>∀ gd' lv',gd' false = false ->
    Sg (model prog w) A (Ends ret yld) (.forLoop (bi w.params).1.1 (.ref I₁) (bi w.params).1.2.2.1 [] (e90 w.params L)) ((execs (bi w.params).1.2.2.1 (e90 w.params L)).wrap (λ f=>match f with
      | .next | .cont=>.pure (.again (.forLoop (bi w.params).1.1 (.ref I₁) (bi w.params).1.2.2.1 [] (e90 w.params L)))
      | .brk=>.pure (.done .next)
      | .ret v=>.pure (.done (.ret v))) (λ e=>(do noteFrame e (e90 w.params L);theTreesLotGoes e:Sem Unit).wrap (λ _=>.raise e) .raise id id) gd' lv') fs s3) E s:=by
 dsimp only [bi,e90,f90,b90] at ag ⊢
 refine ac hx λ Z zh1 zh2=>?_;clear hx;obtain rfl:=zh1;obtain rfl:=zh2
 have H1:=H.perm (perm_yf4 (X:=ρ c) (o:=o))
 refine aG (al H1 (by walk_at "l") rfl λ s3 H3=>?_)
 intro gd' lv' hgd'
 refine dh (fj λ E'=>?_)
 refine (aa (by walk_at "l") rfl).use H3<|au λ s4 H4=>?_
 refine ⟨hV (by walk_at "l") _ H4,dw H4 (by walk_at "l") λ It s5 H5=>(ad It rfl (λ p'=>?_))⟩
 refine jT (z:=z) (Yr:=(gss.flatten.map kA)) (ω:=[(L,.frame _)]) (μ₁:=μ₁) (γ₁:=γ₁) ?_ ?_ ?_ ?_ z 0 rfl A c o γo ret yld s5 R (H5.perm (kE (X:=ρ c) (o:=o))) (by rw [← List.map_append];exact hc)
 ·show (splitAtGen fs).map _ = none
  rw [hfs];rfl
 ·show (gd' false || fs.any Frame.guarded) = false
  rw [hgd',hfg];rfl
 ·have h1:∀ f:Frame,marksOver (f :: fs) (none,none) = Frame.marks f (marksOver fs (none,none)):=λ _=>rfl
  rw [h1,hmk];rfl
 ·intro A3 c3 o3 γ3 ret3 yld3 s8 R8 H8 hc8
  exact ji (fJ (ag A3 c3 o3 γ3 ret3 yld3 s8 _ R8 H8 hc8))
theorem qH {G:GG} (hG:G.Ok) {gs:List (List Int)} (T:TE w B mg mb) (hth:∃ m,B.Ns cStatics m∧m ("_thread.count":Str) = none) (hne:gs≠[])
  (hK:Kahn G.su G.ns ((G.ns.filter λ n=>decide (0 < (G.pr n).length)).map λ n=>(n,.int (G.pr n).length 0)) (G.ns.filter λ n=>(G.pr n).length == 0) gs)
  {A':Around} {L i:Nat} {o:Led} {γo:c9} {ret:Shared->Prop} {yld:Value->GenState->Shared->Prop} {m:Str->Option Value} {s₂:Shared} (hm:m ("G":Str) = some (.ref G.a.net))
  (R₂:Rm A' 7 31) (H₂:W prog w B ((i,.running) :: γo) os ((L,.frame m) :: (G.led prog w false G.a.base++o)) s₂)
  (hc:∀ iv ivd,lp prog w B os (rho prog w G iv ivd) 4 20 i (gs.flatten.map kA) γo o ret yld) :
  SgF (model prog w) A' (Ends ret yld) (.func (b90 w.params).1 (e90 w.params L)) ((model prog w).den (.func (b90 w.params).1 (e90 w.params L))) [] s₂:=by
 have X:=T.X
 have k:=kTs w.params
 refine kP λ HH gd lv hgd=>?_
 rw [(bi w.params).2]
 have Rf:Rm (A'.over (.func (b90 w.params).1 (e90 w.params L)) []) 6 28:=R₂.overFn
 rw [(bi w.params).2] at Rf
 refine oR (pP .nil λ E'=>?_)
 have hbody:=(bi w.params).2
 have key:∀ E' (Q:Value->Shared->Prop),(∀ i1 I₁ L₁ m1 s4,m1 ("G":Str) = some (.ref G.a.net)->W prog w B ((i1,.fresh (.func (b83 w.params).1 (e83 w.params L₁))) :: (i,.running) :: γo) os ((I₁,ar i1) :: ([(L₁,.frame m1)]++((L,.frame m) :: (G.led prog w false G.a.base++o)))) s4->Q (.ref I₁) s4) ->
   wpAny (model prog w) (A'.over (.func [.For (bi w.params).1.1 (bi w.params).1.2.1 (bi w.params).1.2.2.1 [] (bi w.params).1.2.2.2] (e90 w.params L)) []) (eval (bi w.params).1.2.1 (e90 w.params L)) Q E' s₂:=by
  intro E' Q hq
  dsimp only [bi,e90,f90,b90] at Rf ⊢
  refine aw H₂ (T.glob (x:="topological_generations") (v:=.ref 83) (by decide)) (λ f0 e=>ak e) λ s3 H₃=>?_
  refine cw1 (ab H₃ (aa (by walk_at "l") (by exact hm)) λ a0 s4 ea H₄=>ah ⟨aW (X.keeps H₄.keep) k,?_⟩)
  cases ak ea
  refine qj T (Rf.mono (by decide) (by decide)) H₄ λ I₁ i1 L₁ m1 s5 hm1 H₅=>?_
  exact hq i1 I₁ L₁ m1 s5 hm1 H₅
 refine key _ _ λ i1 I₁ L₁ m1 s4 hm1 H₄=>?_
 refine wpAny_pyIter_gen (Real.gen.mp (H₄.get (.head _))) ?_
 intro p
 have hnf:NFs [runFrame (e90 w.params L) (λ f=>match f with | .next=>(execs [] (e90 w.params L)).wrap (λ f=>.pure (.done (.ret (match f with | .ret v=>v | _=>.none)))) HH gd lv | f=>.pure (.done (.ret (match f with | .ret v=>v | _=>.none)))) HH gd lv (.func [.For (bi w.params).1.1 (bi w.params).1.2.1 (bi w.params).1.2.2.1 [] (bi w.params).1.2.2.2] (e90 w.params L)) p]:=NFs.runFrame rfl .nil
 refine jt hnf λ E1=>?_
 have hg:=Real.gen.mp (H₄.get (.head _))
 have hgs:=H₄.gens.at_ (i1,_) (.head _)
 have Rl:Rm (A'.over (.forLoop (bi w.params).1.1 (.ref I₁) (bi w.params).1.2.2.1 [] (e90 w.params L)) [runFrame (e90 w.params L) (λ f=>match f with | .next=>(execs [] (e90 w.params L)).wrap (λ f=>.pure (.done (.ret (match f with | .ret v=>v | _=>.none)))) HH gd lv | f=>.pure (.done (.ret (match f with | .ret v=>v | _=>.none)))) HH gd lv (.func [.For (bi w.params).1.1 (bi w.params).1.2.1 (bi w.params).1.2.2.1 [] (bi w.params).1.2.2.2] (e90 w.params L)) p]) 6 28:=R₂.overFor
 have H5:W prog w B ((i1,.running) :: (i,.running) :: γo) os ((L₁,.frame m1) :: (G.led prog w false G.a.base++((I₁,ar i1) :: (L,.frame m) :: o))) (s4.setGen i1 .running):=(H₄.gset rfl).perm ?pp
 case pp=>
  have h1:(I₁,ar i1) :: ([(L₁,AObj.frame m1)]++((L,.frame m) :: (G.led prog w false G.a.base++o))) = (I₁,ar i1) :: (L₁,AObj.frame m1) :: (L,.frame m) :: (G.led prog w false G.a.base++o):=rfl
  rw [h1]
  refine (List.Perm.swap _ _ _).trans (List.Perm.cons _ ?_)
  exact List.perm_append_comm_assoc [(I₁,ar i1),(L,AObj.frame m)] (G.led prog w false G.a.base) o
 cases gs with
 | nil=>exact absurd rfl hne
 | cons z gss=>
 refine i6 Rl.hd (T.lim.keeps H₄.keep) Rl.room rfl hg hgs ((rL hG T hth hK (o:=(I₁,ar i1) :: (L,.frame m) :: o) (γo:=(i,.running) :: γo) (ret:=λ _=>False)
  (yld:=λ v gs' s1=>∃ iv ivd ν μ' γ' c',di z v ν∧GSt prog w B os (rho prog w G iv ivd) 3 16 i1 (gss.map di) μ' γ' gs'∧W prog w B ((i1,gs') :: (γ'++((i,.running) :: γo))) os ((I₁,ar i1) :: (ν++(μ'++(rho prog w G iv ivd c'++([(L,.frame m)]++o))))) (s1.setGen i1 gs'))
  hm1 (Rl.in1.mono (by decide) (by decide)) H5 (λ iv ivd c' v ν μ' γ' gs' s' hb hx G' H'=>(bk iv ivd ν (cc μ' γ' c' hx (aJ G' ((H'.gset hb).perm ?_)))))).mono λ e s1 he=>⟨he.1,?_⟩)
 ·have h1:ν++(μ'++(rho prog w G iv ivd c'++((I₁,ar i1) :: (L,.frame m) :: o))) = (ν++μ'++rho prog w G iv ivd c')++([(I₁,ar i1)]++((L,.frame m) :: o)):=by simp
  have h2:(I₁,ar i1) :: (ν++(μ'++(rho prog w G iv ivd c'++([(L,.frame m)]++o)))) = [(I₁,ar i1)]++((ν++μ'++rho prog w G iv ivd c')++((L,.frame m) :: o)):=by simp
  rw [h1,h2];exact List.perm_append_comm_assoc ..
 ·revert he;refine λ zq=>ae zq λ zz he=>?_;clear zq
  cases e with
  | ret r=>exact he.2.elim
  | susp v _ _ _ _ _ _=>
   refine bj λ GZ hGZ=>?_
   refine cw he λ iv ivd ν zk0=>?_;refine kY zk0 λ μ' γ' c' hx G' H'=>?_;clear zk0;clear he
   refine aU (H'.get (.head _)) λ ob ho hcl zz=>?_
   refine hGZ ?_
   refine dR ho hcl (by decide) ?_
   generalize hρ:rho prog w G iv ivd = ρ at *
   have Gr:=bz (tg:=aM) (I:=I₁) T.lim _ _ _ _ G'
   have hcv:=hc iv ivd
   rw [hρ] at hcv
   have H6:=H'.perm (σ':=ν++(((I₁,ar i1) :: μ')++(ρ c'++([(L,.frame m)]++o)))) (by
    have h1:(I₁,ar i1) :: (ν++(μ'++(ρ c'++([(L,.frame m)]++o)))) = [(I₁,ar i1)]++(ν++(μ'++(ρ c'++([(L,.frame m)]++o)))):=by simp
    have h2:ν++((I₁,ar i1) :: μ'++(ρ c'++([(L,.frame m)]++o))) = ν++([(I₁,ar i1)]++(μ'++(ρ c'++([(L,.frame m)]++o)))):=by simp
    rw [h1,h2];exact List.perm_append_comm_assoc ..)
   have hgu:([runFrame (e90 w.params L) (λ f=>match f with | .next=>(execs [] (e90 w.params L)).wrap (λ f=>.pure (.done (.ret (match f with | .ret v=>v | _=>.none)))) HH gd lv | f=>.pure (.done (.ret (match f with | .ret v=>v | _=>.none)))) HH gd lv (.func [.For (bi w.params).1.1 (bi w.params).1.2.1 (bi w.params).1.2.2.1 [] (bi w.params).1.2.2.2] (e90 w.params L)) p]:List Frame).any Frame.guarded = false:=by
    show (gd false || false) = false
    rw [hgd];rfl
   refine mH (gss:=gss) (xs:=[]) rfl hgu rfl A' c' o γo ret yld _ ((I₁,ar i1) :: μ') ((i1,_) :: γ') m v ν _ (R₂.mono (by decide) (by decide)) hx (W.gback (γ:=(i1,_) :: γ') H6) hcv ?_
   ·intro A2 c2 o2 γ2 ret2 yld2 s2 m2 R2 H2 hc2
    refine cj rfl (hU (d':=3) (u':=17) (P:=λ xs Y ω=>∃ gss m,xs = gss.map di∧Y = (gss.flatten.map kA)∧ω = [(L,.frame m)]) trivial (λ A R=>R.overFor (d:=3) (u:=17)) ?_ ?_ _ A2 c2 o2 γ2 ret2 yld2 s2 _ _ _ _ R2 (bc gss m2 rfl rfl rfl) Gr H2 hc2)
    ·intro A c o γo ret yld s xq xs Y μ γ₁ ω v ν E R zr;refine aV zr λ gss m e1 zh1 zh2=>?_;clear zr;obtain rfl:=zh1;obtain rfl:=zh2;intro hx H hc ag
     cases gss with
     | nil=>cases e1
     | cons z gss=>
     refine ae (List.cons.inj e1) λ zh1 zh2=>?_;obtain rfl:=zh1;obtain rfl:=zh2
     exact mH (gss:=gss) (xs:=[]) rfl hgu rfl A c o γo ret yld s μ γ₁ m v ν E R hx H hc λ A c o γo ret yld s m R H hc=>ag A c o γo ret yld s _ _ R (bc gss m rfl rfl rfl) H hc
    ·intro A c o γo ret yld s Y ω R zr;refine aV zr λ gss m e1 zh1 zh2=>?_;clear zr;obtain rfl:=zh1;obtain rfl:=zh2;intro H hc
     have:gss = []:=by cases gss with | nil=>rfl | cons=>cases e1
     subst this
     exact dD (fJ (iP (.ret .none) (aQ rfl (.inl rfl) (hc c s (W.drop (H.perm (List.perm_append_comm_assoc (ρ c) [(L,AObj.frame m)] o)))))))
structure TX (w:World) (B:Heap) (mg mb:Str->Option Value):Prop extends TE w B mg mb where
 th:∃ m,B.Ns cStatics m∧m ("_thread.count":Str) = none
 bm:∃ bm ob,mg "__builtins__" = some (.ref bm)∧bm≠builtinsNs∧bm≠mainGlobals∧B.get? bm = some ob∧ob.cls = .type "module"∧ob.dict = some builtinsNs∧ob.data = .plain
noncomputable def iV (es:List ((Nat×Nat)×Addr)):List Value:=es.flatMap λ e=>[rawInt e.1.1,rawInt e.1.2,.ref e.2]
noncomputable def jU (es:List ((Nat×Nat)×Addr)):AObj:=.raw (tabObj (iV es).toArray)
noncomputable def bg:AObj:=.is λ o=>∃ ps,o = tabObj ps∧TriplesOk ps.toList
theorem mJ (es:List ((Nat×Nat)×Addr)):TriplesOk (iV es):=by
 induction es with
 | nil=>trivial
 | cons e r ih=>exact ih
theorem lX (es:List ((Nat×Nat)×Addr)) (l c:Nat) (a:Addr):iV (es++[((l,c),a)]) = iV es++[rawInt l,rawInt c,.ref a]:=by
 unfold iV;rw [List.flatMap_append];rfl
noncomputable def jR (q:Str):AObj:=.is λ o=>∃ vs t,o.data = .fields vs∧vs[1]? = some (.str q t)
noncomputable def rs (qual:Str) (params:Arguments) (body:Expr) (scope:Scope) (clos:List (Str×Addr)) (c':Addr):AObj:=.is λ o=>∃ pm ctv,o = kla_obj "<lambda>" qual params body scope clos pm c' ctv
noncomputable def bI (K:Frag) (c P:Addr):Bool:=match K.lookup c with
 | some ⟨oc,_,.fields vs,_⟩=>oc == .type "code" && vs[11]? == some (.ref P) && (match vs.getD 18 .none with | .str _ _=>true | _=>false) && (match vs.getD 7 .none with | .int _ _=>true | _=>false) &&
   (match vs.getD 9 .none with | .bool _=>true | _=>false) && (match vs.getD 10 .none with | .int _ _=>true | _=>false) && c != P
 | _=>false
theorem ee {K:Frag} {c P:Addr} {h:Heap} (X:K.In h) (e:bI K c P = true):CodeHd h c P:=by
 unfold bI at e
 split at e
 ·rename_i oc od vs osl ho
  simp only [Bool.and_eq_true,beq_iff_eq,bne_iff_ne,ne_eq] at e
  refine bj λ GZ hGZ=>?_
  refine ae e λ zh1 e7=>?_;clear e;refine ae zh1 λ zh2 e6=>?_;clear zh1;refine ae zh2 λ zh3 e5=>?_;clear zh2;refine ae zh3 λ zh4 e4=>?_;clear zh3;refine ae zh4 λ zh5 e3=>?_;clear zh4;refine ae zh5 λ e1 e2=>?_;clear zh5
  refine hGZ ?_
  have h3:∃ f t,vs.getD 18 .none = .str f t:=by
   split at e3
   ·rename_i f t q;exact (c8 f t q)
   ·cases e3
  have h4:∃ f t,vs.getD 7 .none = .int f t:=by
   split at e4
   ·rename_i f t q;exact (c8 f t q)
   ·cases e4
  have h5:∃ f,vs.getD 9 .none = .bool f:=by
   split at e5
   ·rename_i f q;exact ⟨f,q⟩
   ·cases e5
  have h6:∃ f t,vs.getD 10 .none = .int f t:=by
   split at e6
   ·rename_i f t q;exact (c8 f t q)
   ·cases e6
  revert h3;refine λ zq=>c6 zq λ f3 t3 h3=>?_;clear zq
  revert h4;refine λ zq=>c6 zq λ f4 t4 h4=>?_;clear zq
  revert h5;refine λ zq=>ai zq λ f5 h5=>?_;clear zq
  revert h6;refine λ zq=>c6 zq λ f6 t6 h6=>?_;clear zq
  exact (bk _ vs f3 (lJ t3 f4 t4 f5 f6 t6 (X _ _ ho) e1 rfl e2 (gu (by rw [Array.getD_eq_getD_getElem?,e2];rfl) h3 h4 h5 (aJ h6 e7))))
 ·cases e
theorem NT.tab {h:Heap} {a:Addr} {ps:Array Value} (x:h.get? a = some (tabObj ps)):NT h a:=.fields x rfl
theorem n9 {params:Arguments} {body:Expr} {scope:Scope} {pos:Pos} {c P:Addr} {es:List ((Nat×Nat)×Addr)} {clos:List (Str×Addr)} (T:TX w B mg mb) (hX:K.In B) (hcK:bI K c P = true)
  (H:W prog w B g os σ s) (u:Up P (jU es) σ f) (hcode:env.code = .ref c) (hclos:closureFor scope env = pure clos) (hnf:codeAmong pos (iV es) = none)
  (h:∀ F c' s',W prog w B g os ((F,rs (env.qual++"<lambda>") params body scope clos c') :: (c',jR (env.qual++"<lambda>")) :: f (jU (es++[((pos.line,pos.col),c')]))) s'->Q (.ref F) s')
  (hdef:defaultsOf params env = ([],[]):=by rfl) (hge:env.globals = mainGlobals:=by rfl):wpAny (model prog w) A (eval (.Lambda params body scope pos) env) Q E s:=by
 refine kla_eval hdef ?_
 have hP:s.heap.get? P = some (tabObj (iV es).toArray):=H.get u.mem
 have hBP:B.get? P = none:=(H.off _ u.mem).1
 refine iC T.bm λ bm ob b1 b2 b3 b4 zk0=>?_;refine bP zk0 λ b5 b6 b7=>?_;clear zk0
 have hgs:=T.g.keeps H.keep
 have hgP:mainGlobals≠P:=λ q=>by
  refine kY T.g λ o es ep e hd _=>?_
  rw [q,hBP] at e;cases e
 have hbP:bm≠P:=λ q=>by rw [q,hBP] at b4;cases b4
 refine kla_makeFunction (mg:=mg) hclos hge hgs hcode (ee (hX.keeps H.keep) hcK) hP (mJ es) hnf hgP (dK bm ob b1 b2 b3 (gu hbP (H.keep _ _ b4) b5 b6 b7)) λ c' ctv h' tk hx hge' hlt hrec htb=>?_
 refine eX hrec λ c2 oc vs t e2 zk0=>?_;refine bP zk0 λ hoc hd hv=>?_;clear zk0;clear hrec
 cases e2
 have e3:(iV es).toArray++#[rawInt pos.line,rawInt pos.col,.ref c'] = (iV (es++[((pos.line,pos.col),c')])).toArray:=by rw [lX];simp
 rw [e3] at htb
 have H1:W prog w B g os (f (jU (es++[((pos.line,pos.col),c')]))) { s with heap:=h',toks:=tk }:=H.upd u hx (.tab hP) htb
 have hne:∀ p∈f (jU (es++[((pos.line,pos.col),c')])),p.1≠c':=λ p hp q=>by
  refine bC u.split λ l r zh1 hf=>?_;obtain rfl:=zh1
  rw [hf] at hp
  have key:p.1 < s.heap.objs.size:=by
   rcases List.mem_append.mp hp with hp | hp
   ·exact (H.own p (List.mem_append_left _ hp)).lt
   ·rcases List.mem_cons.mp hp with rfl | hp
    ·exact Heap.lt_size hP
    ·exact (H.own p (List.mem_append_right _ (.tail _ hp))).lt
  rw [q] at key
  exact absurd hge' (Nat.not_le.mpr key)
 have H2:W prog w B g os ((c',jR (env.qual++"<lambda>")) :: f (jU (es++[((pos.line,pos.col),c')]))) { s with heap:=h',toks:=tk }:=by
  refine ⟨H1.keep,λ p hp=>?_,λ p hp=>?_,?_,H1.gens,H1.eos,H1.sm⟩
  ·rcases List.mem_cons.mp hp with rfl | hp
   ·exact (ad oc hoc (br vs t hd hv))
   ·exact H1.own p hp
  ·rcases List.mem_cons.mp hp with rfl | hp
   ·exact H.offNew hge'
   ·exact H1.off p hp
  ·rw [List.map_cons,List.nodup_cons]
   refine ⟨λ hm=>?_,H1.nd⟩
   refine ac (List.mem_map.mp hm) λ p hp e=>?_
   exact hne p hp e
 exact h _ c' _ (H2.add (t:=tk) (λ _ _ e=>Heap.get?_push_of_some _ e) (Nat.le_refl _) (ad _ (Heap.get?_push_size _ rfl) (c8 _ _ rfl)))
theorem nL {params:Arguments} {body:Expr} {scope:Scope} {pos:Pos} {c P c':Addr} {es:List ((Nat×Nat)×Addr)} {clos:List (Str×Addr)} (T:TX w B mg mb) (hX:K.In B) (hcK:bI K c P = true)
  (H:W prog w B g os σ s) (hm:(P,jU es)∈σ) (hcode:env.code = .ref c) (hclos:closureFor scope env = pure clos) (hf:codeAmong pos (iV es) = some (.ref c'))
  (h:∀ F s',W prog w B g os ((F,rs (env.qual++"<lambda>") params body scope clos c') :: σ) s'->Q (.ref F) s')
  (hdef:defaultsOf params env = ([],[]):=by rfl) (hge:env.globals = mainGlobals:=by rfl):wpAny (model prog w) A (eval (.Lambda params body scope pos) env) Q E s:=by
 refine kla_eval hdef ?_
 have hP:s.heap.get? P = some (tabObj (iV es).toArray):=H.get hm
 have hBP:B.get? P = none:=(H.off _ hm).1
 refine iC T.bm λ bm ob b1 b2 b3 b4 zk0=>?_;refine bP zk0 λ b5 b6 b7=>?_;clear zk0
 have hgs:=T.g.keeps H.keep
 have hbP:bm≠P:=λ q=>by rw [q,hBP] at b4;cases b4
 refine kla_makeFunctionHit (mg:=mg) hclos hge hgs hcode (ee (hX.keeps H.keep) hcK) hP (mJ es) hf (dK bm ob b1 b2 b3 (gu hbP (H.keep _ _ b4) b5 b6 b7)) λ ctv h' tk hk hsz=>?_
 exact h _ _ (H.add (t:=tk) (λ b o e=>Heap.get?_push_of_some _ (hk b o e)) hsz (ad _ (Heap.get?_push_size _ rfl) (c8 _ _ rfl)))
noncomputable abbrev lW (qual:Str) (scope:Scope) (clos:List (Str×Addr)) (c' L F:Addr):Env:=newEnv scope L mainGlobals clos (qual++".<locals>.") (some F) (.ref c') none builtinsNs
theorem iD {qual:Str} {params:Arguments} {body:Expr} {scope:Scope} {clos:List (Str×Addr)} {c' F:Addr} {d u:Nat} {args:Args} {binds:List (Str×Value)} (H:W prog w B g os σ s) (R:Rm A (d + 1) (u + 3)) (hlim:B.NoLimit)
  (hF:(F,rs qual params body scope clos c')∈σ) (hc:(c',jR qual)∈σ)
  (hbind:∀ pm ctv,bindArgs (kla_fn "<lambda>" qual params body scope clos pm (.ref c') ctv) args = pure binds)
  (h:∀ E' L s',W prog w B g os ((L,.frame (pU binds)) :: σ) s'->Rm (A.deeper (lW qual scope clos c' L F)) d u->wpAny (model prog w) (A.deeper (lW qual scope clos c' L F)) (eval body (lW qual scope clos c' L F)) Q E' s')
  (hcell:∀ x∈scope.names,x.2≠.cell:=by decide +kernel) (hloc:∀ y∈binds,scope.names.lookup y.1 = some .local:=by exact locs rfl)
  (hco:scope.isCoroutine = false:=by rfl) (hgen:scope.isGenerator = false:=by rfl) (hk:scope.kind = .function:=by rfl) :
  wpAny (model prog w) A (call (.ref F) args.pos args.kw) Q E s:=by
 refine ac (H.get hF) λ o ho zh1=>?_;refine c6 zh1 λ pm ctv zh2=>?_;clear zh1;obtain rfl:=zh2
 refine ac (H.get hc) λ oc hoc zh1=>?_;refine bC zh1 λ vs t hd hv=>?_;clear zh1
 refine wpAny_call (kla_callFunE R.room ho rfl hco hgen rfl (dO c' oc vs t rfl (aQ hoc hd hv)) ?_)
 rw [hbind]
 refine wpAny_pure (wpAny_newFunctionEnv hcell hloc (λ h1 hns hsb=>?_) hk)
 have hk1:∀ b o,s.heap.get? b = some o->h1.get? b = some o:=λ b o e=>hsb.extBut b o (Nat.ne_of_lt (Heap.lt_size e)) (Heap.get?_push_of_some _ e)
 refine ⟨(hlim.keeps H.keep).keeps hk1,?_⟩
 exact kla_codeExpr (h _ s.heap.objs.size _ (H.add (t:=s.toks + binds.length) hk1 (Nat.le_refl _) (ad _ hns (λ _=>rfl))) R.deeper)
section
variable {M:Model} {A:Around} {Φ:End->Shared->Prop} {c:Code} {fs:List Frame} {s:Shared} {env:Env}
theorem hO {α β:Type} {m:Sem α} {f:α->Sem β} {K:β->Sem Fin} {H:Value->Sem Fin} {gd lv} (h:wpAny M (A.over c fs) m (λ a s'=>Sg M A Φ c ((f a).wrap K H gd lv) fs s') (λ x s'=>Sg M A Φ c ((Sem.raise x:Sem β).wrap K H gd lv) fs s') s):Sg M A Φ c ((m >>= f).wrap K H gd lv) fs s:=by
 rw [Sem.bind_eq_wrap',Sem.wrap_wrap]
 exact bb h
end
section
variable {w:World} {A:Around} {Φ:End->Shared->Prop} {c:Code} {s:Shared} {ret:Shared->Prop} {yld:Value->GenState->Shared->Prop}
theorem gS {elt target iter:Expr} {scope:Scope} {pos:Pos} {it:Value} {cenv:Env}
  (h:∀ E,wpAny (model prog w) (A.over (.compLoop (.GeneratorExp elt [⟨target,iter,[],0⟩] scope pos) 0 it .none cenv) []) (pyNext it) (λ r s1=>match r with
   | none=>ret s1
   | some v=>wpAny (model prog w) (A.over (.compLoop (.GeneratorExp elt [⟨target,iter,[],0⟩] scope pos) 0 it .none cenv) []) (letOwnedTupleGo target it v) (λ _ s2=>
     wpAny (model prog w) (A.over (.compLoop (.GeneratorExp elt [⟨target,iter,[],0⟩] scope pos) 0 it .none cenv) []) (assign target cenv v) (λ _ s3=>
      wpAny (model prog w) (A.over (.compLoop (.GeneratorExp elt [⟨target,iter,[],0⟩] scope pos) 0 it .none cenv) []) (eval elt cenv) (λ y s4=>∀ gs,gs.bare = true ->
       (∀ A Φ s'',Sg (model prog w) A Φ (.compLoop (.GeneratorExp elt [⟨target,iter,[],0⟩] scope pos) 0 it .none cenv) ((model prog w).den (.compLoop (.GeneratorExp elt [⟨target,iter,[],0⟩] scope pos) 0 it .none cenv)) [] s'' ->
        Goes (model prog w) A gs (.send .none) s'' Φ)->yld y gs s4) E s3) E s2) E s1) E s) (hco:cenv.scope.isCoroutine = false:=by rfl) :
  Sg (model prog w) A (Ends ret yld) (.compLoop (.GeneratorExp elt [⟨target,iter,[],0⟩] scope pos) 0 it .none cenv) ((model prog w).den (.compLoop (.GeneratorExp elt [⟨target,iter,[],0⟩] scope pos) 0 it .none cenv)) [] s:=by
 show Sg _ A _ _ ((compTurn (.GeneratorExp elt [⟨target,iter,[],0⟩] scope pos) 0 it .none cenv).onRaise (leaving cenv)) [] s
 rw [compTurn_gen,Sem.onRaise_eq_wrap]
 refine hO (wpAny_standAt ?_)
 refine hO (wpAny_mono (h _) (λ r s1 h1=>?_) λ _ _ e=>e)
 cases r with
 | none=>exact iP .next (aQ rfl (.inr rfl) h1)
 | some v=>
  refine hO (wpAny_mono h1 (λ _ s2 h2=>?_) λ _ _ e=>e)
  refine hO (wpAny_mono h2 (λ _ s3 h3=>?_) λ _ _ e=>e)
  have hy:∀ v,yieldOut cenv v = yieldValue v:=λ v=>by simp only [yieldOut,hco,Bool.false_eq_true,if_false]
  simp only [hy]
  refine hO (m:=pure true) (wpAny_pure ?_)
  simp only [if_true]
  rw [Sem.bind_eq_wrap',Sem.bind_eq_wrap',Sem.wrap_wrap,Sem.wrap_wrap]
  refine bb (wpAny_mono h3 (λ y s4 h4=>?_) λ _ _ e=>e)
  refine gC (io rfl λ p=>⟨rfl,h4 _ rfl ?_⟩)
  intro A' Φ' s'' hs
  exact cj rfl hs
theorem jZ {elt target iter:Expr} {scope:Scope} {pos:Pos} {it:Value} {cenv:Env}
  (hi:∀ E,wpAny (model prog w) (A.over (.compStart (.GeneratorExp elt [⟨target,iter,[],0⟩] scope pos) 0 it .none cenv) []) (pyIter it) (λ it' s'=>it' = it∧Sg (model prog w) A Φ (.compLoop (.GeneratorExp elt [⟨target,iter,[],0⟩] scope pos) 0 it .none cenv) ((model prog w).den (.compLoop (.GeneratorExp elt [⟨target,iter,[],0⟩] scope pos) 0 it .none cenv)) [] s') E s)
  (h:Sg (model prog w) A Φ (.compLoop (.GeneratorExp elt [⟨target,iter,[],0⟩] scope pos) 0 it .none cenv) ((model prog w).den (.compLoop (.GeneratorExp elt [⟨target,iter,[],0⟩] scope pos) 0 it .none cenv)) [] s) :
  Sg (model prog w) A Φ (.compStart (.GeneratorExp elt [⟨target,iter,[],0⟩] scope pos) 0 it .none cenv) ((model prog w).den (.compStart (.GeneratorExp elt [⟨target,iter,[],0⟩] scope pos) 0 it .none cenv)) [] s:=by
 show Sg _ A _ _ ((compStart (.GeneratorExp elt [⟨target,iter,[],0⟩] scope pos) 0 it .none cenv).onRaise (leaving cenv)) [] s
 unfold compStart
 rw [Sem.onRaise_eq_wrap]
 show Sg _ A _ _ ((ask >>= _).wrap _ _ _ _) [] s
 refine hO (wpAny_askSetting ?_)
 split
 ·exact cj rfl h
 ·refine hO (wpAny_rule ?_)
  show Sg _ A _ _ ((standAt iter.pos >>= _).wrap _ _ _ _) [] s
  refine hO (wpAny_standAt (hO (wpAny_mono (hi _) (λ it' s' h'=>?_) λ _ _ e=>e)))
  revert h';refine λ zq=>ae zq λ zh1 h'=>?_;clear zq;obtain rfl:=zh1
  exact cj rfl h'
end
section
variable {w:World} {A:Around} {env:Env} {K:Frag}
variable {B:Heap} {g:List (Nat×GenState)} {os:OsState} {σ:List (Addr×AObj)} {E:Value->Shared->Prop} {s:Shared} {f:AObj->List (Addr×AObj)} {mg mb:Str->Option Value} {Q:Value->Shared->Prop}
theorem pS {M:Model} {c P:Addr} {ps:Array Value} {pos:Pos} {qualname:Str} {scope:Scope} (hc:env.code = .ref c) (hok:s.heap.IsCode c P ps) (htab:s.heap.TableAt c P ps) (hps:TriplesOk ps.toList)
  (hQ:∀ code h' tk ps',Heap.ExtBut P s.heap h'->h'.get? P = some (tabObj ps')->TriplesOk ps'.toList->Q code { s with heap:=h',toks:=tk }):wpAny M A (genexprCode env pos qualname scope) Q E s:=by
 cases hnf:codeAmong pos ps.toList with
 | some cv=>exact wpAny_genexprCode_hit hc hok hnf (hQ cv s.heap s.toks ps (Heap.ExtBut.refl _ _) htab.2 hps)
 | none=>
  refine wpAny_genexprCodeX hc hok htab hnf λ c' h' tk hx _ _ hIs _ hT _=>hQ _ h' tk _ hx hT.2 ?_
  refine bj λ GZ hGZ=>?_
  refine cw hIs λ zz zz zz zk0=>?_;refine cw zk0 λ zz zz zz zk1=>?_;clear zk0;refine cx zk1 λ zz zz zz zz zz zz zz zz zk2=>?_;clear zk1;refine fu zk2 λ zz zz zz zz zk3=>?_;clear zk2;refine bP zk3 λ zz h3 zz=>?_;clear zk3;clear hIs
  refine hGZ ?_
  exact h3
theorem rG {elt target iter:Expr} {scope:Scope} {pos:Pos} {c P:Addr} {cl:List (Str×Addr)} (T:TX w B mg mb) (hX:K.In B) (hcK:bI K c P = true) (hroom:A.depth < recursionLimit)
  (hcode:env.code = .ref c) (hclos:closureFor scope env = pure cl)
  (it:wpAny (model prog w) A (eval iter env) (λ xv s1=>wpAny (model prog w) A (pyIter xv) (λ it s2=>∃ σ2 f,W prog w B g os σ2 s2∧Up P bg σ2 f ∧
   ∀ I i C code s',W prog w B ((i,.fresh (.compStart (.GeneratorExp elt [⟨target,iter,[],0⟩] scope pos) 0 it .none (genEnv scope cl C code builtinsNs env))) :: g) os
    ((I,ar i) :: (C,.frame (λ y=>if y = ".0" then some (cv it) else none)) :: f bg) s'->Q (.ref I) s') E s1) E s)
  (hge:env.globals = mainGlobals:=by rfl) (hco:scope.isCoroutine = false:=by rfl) (hcell:∀ y∈scope.names,y.2≠.cell:=by decide +kernel) (h0:scope.names.lookup (".0":Str) = some NameKind.local:=by rfl) (hkind:scope.kind = .function:=by rfl)
  (hs:∀ x,genFold iter env x = pure x:=by intro _;rfl) :
  wpAny (model prog w) A (eval (.GeneratorExp elt [⟨target,iter,[],0⟩] scope pos) env) Q E s:=by
 refine wpAny_GeneratorExp_make hco hclos hcell h0 hkind hroom (wpAny_mono it (λ xv s1 h1=>wpAny_mono h1 (λ it s2 h2=>?_) λ _ _ e=>e) λ _ _ e=>e) hs
 refine aV h2 λ σ2 f H u hq=>?_;clear h2
 refine ⟨T.lim.keeps H.keep,?_⟩
 refine ac (H.get u.mem) λ zz hP zh1=>?_;refine ac zh1 λ ps zh2 hps=>?_;clear zh1;obtain rfl:=zh2
 refine bj λ GZ hGZ=>?_
 refine cw (ee (hX.keeps H.keep) hcK) λ o vs file zk0=>?_;refine iM zk0 λ tf flags tg inF text tt e1 e2 e3 e4 zk1=>?_;clear zk0;refine fu zk1 λ e5 e6 e7 e8 zk2=>?_;clear zk1;refine ae zk2 λ e9 e10=>?_;clear zk2
 refine hGZ ?_
 have hIs:s2.heap.IsCode c P ps:=(bk o vs file (jK tf flags tg inF text tt (tabObj ps) e1 e3 e5 e6 e7 (gu e8 e9 hP rfl (aJ hps e10))))
 refine pS hcode hIs ⟨(dK o vs e1 e2 e3 e4),hP⟩ hps λ code h' tk ps' hx hP' hps'=>?_
 have H1:=H.upd (t:=tk) (o':=bg) u hx (.fields hP rfl) (ad (tabObj ps') hP' (ad ps' rfl hps'))
 refine iC T.bm λ bm ob b1 b2 b3 b4 zk0=>?_;refine bP zk0 λ b5 b6 b7=>?_;clear zk0
 have hgs:=T.g.keeps H1.keep
 rw [hge]
 refine wpAny_builtinsFor hgs b1 b2 (H1.keep _ _ b4) b5 b6 b7 ?_
 intro h'' hns hsb
 have hk1:∀ b o,h'.get? b = some o->h''.get? b = some o:=λ b o e=>hsb.extBut b o (Nat.ne_of_lt (Heap.lt_size e)) (Heap.get?_push_of_some _ e)
 have H2:W prog w B g os ((h'.objs.size,.frame (λ y=>if y = ".0" then some (cv it) else none)) :: f bg) { s2 with heap:=h'',toks:=tk }:=H1.add hk1 (Nat.le_refl _) (ad _ hns (λ x=>by dsimp only;split <;> rfl))
 have H3:W prog w B ((s2.gens.size,.fresh (.compStart (.GeneratorExp elt [⟨target,iter,[],0⟩] scope pos) 0 it .none (genEnv scope cl h'.objs.size code builtinsNs env))) :: g) os ((h'.objs.size,.frame (λ y=>if y = ".0" then some (cv it) else none)) :: f bg)
   { s2 with heap:=h'',toks:=tk,gens:=s2.gens.push (.fresh (.compStart (.GeneratorExp elt [⟨target,iter,[],0⟩] scope pos) 0 it .none (genEnv scope cl h'.objs.size code builtinsNs env))) } :=
  ⟨H2.keep,H2.own,H2.off,H2.nd,H2.gens.push rfl,H2.eos,H2.sm⟩
 exact hq _ _ _ code _ (H3.add (t:=tk + 1 + 1 + 1) (λ _ _ e=>Heap.get?_push_of_some _ e) (Nat.le_refl _) (Real.gen.mpr (dW _ _ _ (Heap.get?_push_size _ rfl) rfl rfl rfl)))
end
theorem kAv (P:Params):(jC (Z0.K P) 158 "__getitem__" 140 && fnIn (Z0.K P) 140 && jC (Z0.K P) 158 "__iter__" 133 && bZ (Z0.K P) 158 "items" 154 && jC (Z0.K P) 180 "__getitem__" 176 && fnIn (Z0.K P) 176
 && keepIn (Z0.K P) (.ref 154) && gX (Z0.K P) 180 "_atlas" 159 && gX (Z0.K P) 158 "_atlas" 159) = true:=by kernel_rfl
theorem kCi (P:Params):bI (Z0.K P) 153 149 = true:=by kernel_rfl
section
variable {w:World} {A:Around} {env:Env} {K:Frag}
variable {B:Heap} {g:List (Nat×GenState)} {os:OsState} {σ:List (Addr×AObj)} {E:Value->Shared->Prop} {s:Shared} {f:AObj->List (Addr×AObj)} {mg mb:Str->Option Value} {Q:Value->Shared->Prop}
theorem qQ {x d C f:Addr} {v:Value} {kvs:List (Str×Value)} {name:Str} {pl:Sem Bool} {Q:Value×List Value->Shared->Prop} (X:K.In B) (hok:bZ K C name f = true) (H:W prog w B g os σ s) (hx:(x,AObj.raw (aK C d v))∈σ) (hd:(d,AObj.sdict kvs)∈σ) (hv:valueAt kvs name = none)
  (h:Q (.ref f,[.ref x]) s):wpAny (model prog w) A (getMethod (.ref x) name pl) Q E s:=by
 refine ac (H.get hd) λ kvs0 D hk=>?_
 refine ac (cm D) λ od h1 hl=>?_
 have I:InstAt s.heap x (aK C d v) C (some od):=⟨H.get hx,rfl,rfl,h1⟩
 subst hk
 rw [aD,Option.map_eq_none_iff] at hv
 simp only [bZ,Bool.and_eq_true,beq_iff_eq] at hok
 refine ae hok λ zh1 h3=>?_;clear hok;refine ae zh1 λ h1 h2=>?_;clear zh1
 exact method_fn (X.keeps H.keep) I (plainGet_of h1).1 (plainGet_of h1).2 h2 (beq_iff_eq.mp h3) (by show (lookIn name od).map _ = _;rw [hl,hv];rfl) h
theorem iQ {v dv m:Addr} {vs:List (Int×Value)} {e:Nat} {k:Int} {k0 x:Value} {kvs:List (Str×Value)} (T:TE w B mg mb) (R:Rm A 1 3) (hv:(v,AObj.raw (aK 158 dv (.ref m)))∈σ) (hdv:(dv,AObj.sdict kvs)∈σ) (hm:(m,AObj.idictE vs e)∈σ)
  (ek:cv k0 = .int k 0) (hx:valueAt vs k = some x):Gv prog w A B g os σ (call (.ref 140) [.ref v,k0]) x:=by
 intro E s H
 have X:=T.X
 refine an9 (kAv w.params) λ _ _ _ _ _ _ _ _ k9=>?_
 refine ai (ap ek) λ tk zh1=>?_;obtain rfl:=zh1
 refine aO (args:=⟨[_,_],[]⟩) (d:=0) (u:=0) (cl:=λ D L=>[(L,.frame (frM _ _ L 140))]) H R X T.lim ⟨(bk _ _ _ rfl),by kernel_rfl,rfl⟩ (aR rfl) rfl (λ D L=>aH rfl) ?_ ?_ ?_
 ·intro E' D L s2 H₂ R₂
  refine bN R₂ λ A R₂=>?_
  refine gr H₂ (ga (aF (aa (by walk_at "l") rfl)<|dL<|jW X k9 (.tail _ hv) (.tail _ hdv) rfl) (aa (by walk_at "l") rfl) (.tail _ hm) hx) λ v0 s3 e3 H₃=>?_
  exact ⟨e3,H₃.drop⟩
 ·intro D L x hx
  exact .inl (by revert x;exact locs rfl)
 ·intro L;exact List.nodup_nil
theorem qe {x C a:Addr} {value slice:Expr} {pos:Pos} {i r:Value} (hok:jC K C "__getitem__" a = true) (hf:fnIn K a = true) (X:K.In B)
  (he:Gv prog w A B g os σ (eval value env) (.ref x)) (hi:Gv prog w A B g os σ (eval slice env) i) (hI:∀ s,W prog w B g os σ s->∃ ox od,InstAt s.heap x ox C od)
  (h:∀ i0,cv i0 = i->Gv prog w A.in1 B g os σ (call (.ref a) [.ref x,i0]) r)
  (hsl:∀ i0,cv i0 = i->subscripted slice true (.ref x) i0 = runValue (.builtin "lifetime.subscript" ⟨[.ref x,i0],[]⟩)) :
  Gv prog w A B g os σ (eval (.Subscript value slice pos) env) r:=λ E s H=>
 Subscript_ (he.use H λ o0 s1 e1 H₁=>by
  cases ak e1
  exact hi.use H₁ λ k0 s2 e2 H₂=>by
   refine c6 (hI s2 H₂) λ ox od I=>?_
   exact mt (X.keeps H₂.keep) I hok hf (h k0 e2 E s2 H₂) (hsl k0 e2))
theorem lA {v dv m:Addr} {vs:List (Int×Value)} {e:Nat} {kvs:List (Str×Value)} (T:TE w B mg mb) (R:Rm A 1 4) (H:W prog w B g os σ s) (hv:(v,AObj.raw (aK 158 dv (.ref m)))∈σ) (hdv:(dv,AObj.sdict kvs)∈σ) (hm:(m,AObj.idictE vs e)∈σ)
  (h:∀ I s',W prog w B g os ((I,cM m 0 vs.length e) :: σ) s'->Q (.ref I) s'):wpAny (model prog w) A (pyIter (.ref v)) Q E s:=by
 have X:=T.X
 refine an9 (kAv w.params) λ _ _ k3 _ _ _ _ _ k9=>?_
 refine ai (cu H hv hdv) λ od I=>?_
 refine o5 (X.keeps H.keep) I k3 ?_
 refine aO (args:=⟨[_],[]⟩) (d:=0) (u:=1) (cl:=λ D L=>[(L,.frame (frM _ _ L 133))]) H R X T.lim ⟨(bk _ _ _ rfl),by kernel_rfl,rfl⟩ (aR rfl) rfl (λ D L=>aH rfl) ?_ ?_ ?_
 ·intro E' D L s2 H₂ R₂
  refine bN R₂ λ A R₂=>?_
  refine cX (aw H₂ (T.boot (x:="iter") (v:=.builtin "iter") (by decide)) (λ f0 e=>bX e) λ s3 H₃=>?_)
  refine cw1 (ab H₃ (aF (aa (by walk_at "l") rfl)<|dL<|jW X k9 (.tail _ hv) (.tail _ hdv) rfl) λ a0 s4 ea H₄=>ah ⟨az,?_⟩)
  cases ak ea
  refine pf (iB H₄ (.tail _ hm) λ I s5 H₅=>?_)
  have H₆:=(H₅.pick (a:=L) (by walk_at "l")).drop
  exact (bc ("dict_keyiterator") _ ((Real.keyIt.mp (H₆.get (.head _))).typeIs) PySem.F.slot_dict_keyiterator_next.lookup (h I _ H₆))
 ·intro D L x hx
  exact .inl (by revert x;exact locs rfl)
 ·intro L;exact List.nodup_nil
end
noncomputable def pF (P:Params):{ fd:FuncData // ∃ oc od osl,(Z0.K P).lookup 154 = some ⟨oc,od,.func fd,osl⟩ }:=⟨_,_,_,_,rfl⟩
noncomputable def rr (P:Params):{ b:List Stmt // (pF P).1.body = .stmts b }:=⟨_,rfl⟩
structure GX where
 elt:Expr
 target:Expr
 iter:Expr
 scope:Scope
 pos:Pos
 rpos:Pos
noncomputable def cZ (P:Params):{ x:GX // (rr P).1 = [.Return (some (.GeneratorExp x.elt [⟨x.target,x.iter,[],0⟩] x.scope x.pos)) x.rpos] }:=⟨⟨_,_,_,_,_,_⟩,rfl⟩
noncomputable def eC (p:Int×Value):eT:=tup [.int p.1 0,p.2]
theorem gk {vs:List (Int×Value)} (hn:(vs.map (·.1)).Nodup) {p:Int×Value} (hp:p∈vs):valueAt vs p.1 = some p.2:=by
 induction vs with
 | nil=>cases hp
 | cons x r ih=>
  rw [List.map_cons,List.nodup_cons] at hn
  unfold valueAt at *
  rw [List.find?_cons]
  rcases List.mem_cons.mp hp with rfl | hp
  ·simp
  ·have:x.1≠p.1:=λ e=>hn.1 (e▸List.mem_map_of_mem hp)
   simp only [this,decide_false]
   exact ih hn.2 hp
theorem Rm.overCL {A:Around} {d u:Nat} {elt target iter:Expr} {scope:Scope} {pos:Pos} {it:Value} {cenv:Env} (R:Rm A (d + 1) (u + 3)):Rm (A.over (.compLoop (.GeneratorExp elt [⟨target,iter,[],0⟩] scope pos) 0 it .none cenv) []) d u:=R.over rfl (Nat.le_refl _) (Nat.le_refl _)
theorem nY {ω μ X o:Led}:([]++(μ++(X++(ω++o)))).Perm (ω++(X++(o++μ))):=by
 show (μ++(X++(ω++o))).Perm _
 refine List.perm_append_comm.trans ?_
 have h1:X++(ω++o)++μ = X++(ω++(o++μ)):=by simp
 rw [h1];exact List.perm_append_comm_assoc ..
theorem nS {t:Addr×AObj} {ω μ X o:Led}:(t :: (ω++(X++(o++μ)))).Perm ([t]++((μ++ω)++(X++o))):=by
 refine List.Perm.cons t ?_
 show (ω++(X++(o++μ))).Perm ((μ++ω)++(X++o))
 have h1:ω++(X++(o++μ)) = (ω++(X++o))++μ:=by simp
 have h2:(μ++ω)++(X++o) = μ++(ω++(X++o)):=by simp
 rw [h1,h2];exact List.perm_append_comm
theorem kO {ω μ X o:Led}:((μ++ω)++(X++o)).Perm (μ++(X++(ω++o))):=by
 rw [List.append_assoc];exact (List.perm_append_comm_assoc ..).append_left μ
section
variable {w:World} {A:Around} {env:Env} {K:Frag}
variable {B:Heap} {g:List (Nat×GenState)} {os:OsState} {σ:List (Addr×AObj)} {E:Value->Shared->Prop} {s:Shared} {f:AObj->List (Addr×AObj)} {mg mb:Str->Option Value} {Q:Value->Shared->Prop}
theorem eV {C:Type} {ρ:C->Led} {v dv m Cf SC It:Addr} {vs:List (Int×Value)} {e i:Nat} {cl:List (Str×Addr)} {code:Value} {env0:Env} (T:TE w B mg mb) (hm:∀ c,(m,AObj.idictE vs e)∈ρ c) (hnd:(vs.map (·.1)).Nodup)
  (hcl:cl.lookup (Str.ofString "self") = some SC) :
  ∀ (r:List (Int×Value)),(∀ p∈r,p∈vs)->∀ μ₁ γ₁,bV prog w B os ρ aM 1 4 It (r.map λ p=>one (.int p.1 0)) μ₁ γ₁->∀ A c o γo ret yld s mf,Rm A 2 7 ->
   W prog w B ((i,.running) :: (γ₁++γo)) os (μ₁++(ρ c++([(Cf,.frame mf),(SC,.cell (some (.ref v))),(v,.raw (aK 158 dv (.ref m))),(dv,.sdict [])]++o))) s->lp prog w B os ρ 2 7 i (r.map eC) γo o ret yld ->
   Sg (model prog w) A (Ends ret yld) (.compLoop (.GeneratorExp (cZ w.params).1.elt [⟨(cZ w.params).1.target,(cZ w.params).1.iter,[],0⟩] (cZ w.params).1.scope (cZ w.params).1.pos) 0 (.ref It) .none (genEnv (cZ w.params).1.scope cl Cf code builtinsNs env0))
    ((model prog w).den (.compLoop (.GeneratorExp (cZ w.params).1.elt [⟨(cZ w.params).1.target,(cZ w.params).1.iter,[],0⟩] (cZ w.params).1.scope (cZ w.params).1.pos) 0 (.ref It) .none (genEnv (cZ w.params).1.scope cl Cf code builtinsNs env0))) [] s
 | [],_,μ₁,γ₁,G,A,c,o,γo,ret,yld,s,mf,R,H,hc=>by
  refine gS λ E=>?_
  refine wpAny_mono (G _ c _ ((i,.running) :: γo) _ s (R.overCL (d:=1) (u:=4)) H.gfront) (λ r s1 h1=>?_) λ _ _ e=>e
  refine ae h1 λ zh1 zh2=>?_;clear h1;obtain rfl:=zh1;refine ai zh2 λ c' H'=>?_;clear zh2
  refine hc c' s1 ?_
  have H2:=H'.perm (List.perm_append_comm_assoc (ρ c') [(Cf,_),(SC,_),(v,_),(dv,_)] o)
  exact W.drop (W.drop (W.drop (W.drop H2)))
 | p :: r,hr,μ₁,γ₁,G,A,c,o,γo,ret,yld,s,mf,R,H,hc=>by
  have X:=T.X
  refine an9 (kAv w.params) λ k1 k2 _ _ _ _ _ _ _=>?_
  refine gS λ E=>?_
  refine wpAny_mono (G _ c _ ((i,.running) :: γo) _ s (R.overCL (d:=1) (u:=4)) H.gfront) (λ r' s1 h1=>?_) λ _ _ e=>e
  refine gw h1 λ k0 ν μ' γ' c' zh1 zh2 G' hl=>?_;clear h1;obtain rfl:=zh1;refine ae zh2 λ ek zh3=>?_;clear zh2;obtain rfl:=zh3
  refine wpAny_mono (hl (cZ w.params).1.target trivial _) (λ _ s2 H₂=>?_) λ _ _ e=>e
  have H3:=H₂.gback.perm (nY (X:=ρ c') (o:=o) (ω:=[(Cf,_),(SC,_),(v,_),(dv,_)]))
  have Rl:=R.overCL (d:=1) (u:=4) (elt:=(cZ w.params).1.elt) (target:=(cZ w.params).1.target) (iter:=(cZ w.params).1.iter) (scope:=(cZ w.params).1.scope) (pos:=(cZ w.params).1.pos) (it:=.ref It) (cenv:=genEnv (cZ w.params).1.scope cl Cf code builtinsNs env0)
  have key:∀ E' (Q:Value->Shared->Prop),(∀ t mf' s',W prog w B ((i,.running) :: (γ'++γo)) os ((t,.tup [.int p.1 0,p.2]) :: ([(Cf,.frame mf'),(SC,.cell (some (.ref v))),(v,.raw (aK 158 dv (.ref m))),(dv,.sdict [])]++(ρ c'++(o++μ')))) s'->Q (.ref t) s') ->
    wpAny (model prog w) (A.over (.compLoop (.GeneratorExp (cZ w.params).1.elt [⟨(cZ w.params).1.target,(cZ w.params).1.iter,[],0⟩] (cZ w.params).1.scope (cZ w.params).1.pos) 0 (.ref It) .none (genEnv (cZ w.params).1.scope cl Cf code builtinsNs env0)) [])
     (assign (cZ w.params).1.target (genEnv (cZ w.params).1.scope cl Cf code builtinsNs env0) k0) (λ _ s3=>wpAny (model prog w) (A.over (.compLoop (.GeneratorExp (cZ w.params).1.elt [⟨(cZ w.params).1.target,(cZ w.params).1.iter,[],0⟩] (cZ w.params).1.scope (cZ w.params).1.pos) 0 (.ref It) .none (genEnv (cZ w.params).1.scope cl Cf code builtinsNs env0)) [])
      (eval (cZ w.params).1.elt (genEnv (cZ w.params).1.scope cl Cf code builtinsNs env0)) Q E' s3) E' s2:=by
   intro E' Q hq
   dsimp only [cZ,rr,pF] at Rl ⊢
   refine aG (al H3 (by walk_at "l") ek λ s3 H4=>?_)
   refine d6 (ab H4 (aa (by walk_at "l") rfl) λ a0 s5 ea H5=>ab H5 (qe (hsl:=qg λ _=>by with_unfolding_all rfl) k1 k2 X (js hcl (by walk_at "l")) (aa (by walk_at "l") rfl) (λ s H=>by
    refine ai (cu H (show (v,AObj.raw (aK 158 dv (.ref m)))∈_ by walk_at "l") (show (dv,AObj.sdict [])∈_ by walk_at "l")) λ od I=>?_
    exact (c8 _ _ I)) λ i0 ei=>iQ T (Rl.in1.mono (by decide) (by decide)) (by walk_at "l") (by walk_at "l") (show _∈[(Cf,_),(SC,_),(v,_),(dv,_)]++(ρ c'++(o++μ')) from List.mem_append_right _ (List.mem_append_left _ (hm c'))) ei (gk hnd (hr p (.head _)))) λ b0 s₆ eb H6=>ah ?_)
   exact bD H6 (ws:=[.int p.1 0,p.2]) (by simp [ea,eb]) (by simp) λ t s7 H7=>hq t _ s7 H7
  refine key _ _ λ t mf' s' H5=>?_
  intro gs hb hgs
  refine hc c' (.ref t) [(t,.tup [.int p.1 0,p.2])] (μ'++[(Cf,.frame mf'),(SC,.cell (some (.ref v))),(v,.raw (aK 158 dv (.ref m))),(dv,.sdict [])]) γ' gs s' hb (ad t rfl rfl) (fk ?_) (H5.perm nS)
  intro A2 c2 o2 γ2 ret2 yld2 s8 R8 H8 hc8
  exact hgs _ _ _ (eV T hm hnd hcl r (λ p hp=>hr p (.tail _ hp)) μ' γ' G' A2 c2 o2 γ2 ret2 yld2 s8 mf' R8 (H8.perm kO) hc8)
end
theorem o6 (P:Params):(eB (Z0.K P) 951 "pred" (.ref 834) (.ref 564) && bM (Z0.K P) 951 "pred" && eB (Z0.K P) 951 "adj" (.ref 814) (.ref 564) && bM (Z0.K P) 951 "adj" && cO (Z0.K P) 814 "adj" 812) = true:=by kernel_rfl
theorem ju {C:Type} {ρ:C->Led} {c:C} {o:Led} {v dv m:Addr} {vs:List (Int×Value)} {e:Nat} (T:TX w B mg mb) (R:Rm A 2 7) (hm:∀ c,(m,AObj.idictE vs e)∈ρ c) (hnd:(vs.map (·.1)).Nodup)
  (H:W prog w B g os ((v,.raw (aK 158 dv (.ref m))) :: (dv,.sdict []) :: (149,bg) :: (ρ c++o)) s)
  (h:∀ I i μ gs s',gs.bare = true->GSt prog w B os ρ 2 7 i (vs.map eC) μ [] gs->W prog w B ((i,gs) :: g) os ((I,ar i) :: (μ++((149,bg) :: (ρ c++o)))) s'->Q (.ref I) s'):wpAny (model prog w) A (call (.ref 154) [.ref v]) Q E s:=by
 have X:=T.X
 refine aO (args:=⟨[_],[]⟩) (d:=1) (u:=4) (fd:=(pF w.params).1) (body:=(rr w.params).1) (cl:=λ D L=>[(L,.frame (frM (pF w.params).1 [("self",.ref v)] L 154)),(L + 1,.cell (some (.ref v)))]) H R X T.lim ⟨(pF w.params).2,by kernel_rfl,(rr w.params).2⟩ (aR rfl) rfl (λ D L=>rfl) ?_ ?_ ?_
 ·intro E' D L s2 H₂ R₂
  refine bN R₂ λ A R₂=>?_
  have H₂:W prog w B g os ((L,.frame (frM (pF w.params).1 [("self",.ref v)] L 154)) :: (L + 1,.cell (some (.ref v))) :: (v,.raw (aK 158 dv (.ref m))) :: (dv,.sdict []) :: (149,bg) :: (ρ c++o)) s2:=H₂
  rw [(cZ w.params).2]
  refine cX ?_
  refine rG (g:=g) (os:=os) (c:=153) (P:=149) (cl:=[("self",L + 1)]) T X (kCi _) R₂.room rfl rfl ?_ (hcell:=by dsimp only [cZ];decide +kernel)
  refine (aq (c:=L + 1) rfl (by walk_at "l")).use H₂<|au λ s3 H₃=>?_
  refine lA T.toTE (R₂.mono (by decide) (by decide)) H₃ (by walk_at "l") (by walk_at "l") (show _∈[(L,_),(L + 1,_),(v,_),(dv,_),(149,_)]++(ρ c++o) from List.mem_append_right _ (List.mem_append_left _ (hm c))) λ It s4 H₄=>?_
  refine (bc _ _ H₄ (.tail (.tail (.tail (.tail (.tail .head))))) (λ I i C code s5 H₅=>?_))
  have H₆:=H₅.perm (σ':=(L,.frame (frM (pF w.params).1 [("self",.ref v)] L 154)) :: (I,ar i) :: ((It,cM m 0 vs.length e) :: [(C,.frame (λ y=>if y = ".0" then some (cv (.ref It)) else none)),(L + 1,.cell (some (.ref v))),(v,.raw (aK 158 dv (.ref m))),(dv,.sdict [])]++((149,bg) :: (ρ c++o)))) (by
   refine List.Perm.trans ?_ (List.Perm.swap _ _ _)
   refine List.Perm.cons _ ?_
   show ((C,_) :: (It,_) :: (L,_) :: _).Perm ((L,_) :: (It,_) :: (C,_) :: _)
   refine (List.Perm.swap _ _ _).trans ?_
   refine (List.Perm.cons _ (List.Perm.swap _ _ _)).trans ?_
   exact List.Perm.swap _ _ _)
  refine h I i _ _ s5 rfl (fk ?_) H₆.drop
  intro A' c' o' γo ret yld s₆ R₆ H₇ hc
  have H8:=H₇.perm (kO (μ:=[(It,_)]) (ω:=[(C,_),(L + 1,_),(v,_),(dv,_)]) (X:=ρ c') (o:=o'))
  have G:=cy (w:=w) (B:=B) (os:=os) (ρ:=ρ) (tg:=aM) (d:=1) (u:=4) (I:=It) hm vs 0 rfl
  refine ⟨rfl,jZ (λ E=>wpAny_pyIter_keyiter (Real.keyIt.mp (H8.get (.head _))) ⟨rfl,?_⟩) ?_⟩
  ·exact eV T.toTE hm hnd rfl vs (λ _ h=>h) _ _ G A' c' o' γo ret yld s₆ _ R₆ H8 hc
  ·exact eV T.toTE hm hnd rfl vs (λ _ h=>h) _ _ G A' c' o' γo ret yld s₆ _ R₆ H8 hc
 ·intro D L x hx
  revert x
  refine List.forall_mem_cons.mpr ⟨.inr ⟨rfl,rfl⟩,λ x hx=>by cases hx⟩
 ·intro L;exact List.nodup_cons.mpr ⟨by simp,List.nodup_nil⟩
theorem oF {e i:Expr} {pos:Pos} {a:Addr} {kvs:List (Int×Value)} {k:Int} {v:Value} (he:Gv prog w A B g os σ (eval e env) (.ref a)) (hi:Gv prog w A B g os σ (eval i env) (.int k 0)) (hm:(a,AObj.idict kvs)∈σ∨∃ e,(a,AObj.idictE kvs e)∈σ) (hx:valueAt kvs k = some v)
  (hs:∀ t,subscripted i false (.ref a) (.int k t) = operate [.ref a,.int k t] (getItem (.ref a) (.int k t)):=by intro;with_unfolding_all rfl):Gv prog w A B g os σ (eval (.Subscript e i pos) env) v:=by
 rcases hm with hm | ⟨ep,hm⟩
 ·exact cH he hi hm hx hs
 ·exact ga he hi hm hx hs
theorem nh {pv dv pd m:Addr} {ks:List (Int×Value)} {kvs:List (Str×Value)} {k:Int} {k0:Value} (T:TE w B mg mb) (R:Rm A 3 12) (H:W prog w B g os σ s) (hv:(pv,AObj.raw (aK 180 dv (.ref pd)))∈σ) (hdv:(dv,AObj.sdict kvs)∈σ)
  (hm:(pd,AObj.idict ks)∈σ∨∃ e,(pd,AObj.idictE ks e)∈σ) (ek:cv k0 = .int k 0) (hx:valueAt ks k = some (.ref m))
  (h:∀ av dav s',W prog w B g os ((av,.raw (aK 158 dav (.ref m))) :: (dav,.sdict []) :: σ) s'->Q (.ref av) s'):wpAny (model prog w) A (call (.ref 176) [.ref pv,k0]) Q E s:=by
 have X:=T.X
 refine an5 (sj w.params) λ k1 k2 k4 _ k6=>?_
 replace k2:=beq_iff_eq.mp k2
 refine an8 (kVw w.params) λ _ _ _ _ p5 _ _ _=>?_
 refine ai (ap ek) λ tk zh1=>?_;obtain rfl:=zh1
 refine aO (args:=⟨[_,_],[]⟩) (d:=2) (u:=9) (cl:=λ D L=>[(L,.frame (frM _ _ L 176))]) H R X T.lim ⟨(bk _ _ _ rfl),by kernel_rfl,rfl⟩ (aR rfl) rfl (λ D L=>aH rfl) ?_ ?_ ?_
 ·intro E' D L s2 H₂ R₂
  refine bN R₂ λ A R₂=>?_
  refine cX (aw H₂ (T.glob (x:="AtlasView") (v:=.ref 158) (by decide)) (λ f0 e=>ak e) λ s3 H₃=>?_)
  refine cw1 (ab H₃ (oF (aF (aa (by walk_at "l") rfl)<|dL<|jW X p5 (.tail _ hv) (.tail _ hdv) rfl) (aa (by walk_at "l") rfl) (hm.imp (.tail _) λ ⟨e,hm⟩=>⟨e,.tail _ hm⟩) hx) λ a0 s4 ea H₄=>ah ⟨aW (X.keeps H₄.keep) k6,?_⟩)
  cases ak ea
  exact iq T k1 k2 k4 R₂ H₄ λ v dv s5 H₅=>h v dv _ (H₅.pick (a:=L) (by walk_at "l")).drop
 ·intro D L x hx
  exact .inl (by revert x;exact locs rfl)
 ·intro L;exact List.nodup_nil
theorem pj {G:GG} {iv ivd:Addr} {c:OA} {τ o:Led} {expr:Bool} (T:TE w B mg mb) (R:Rm A 5 17) (H:W prog w B g os (τ++(rho prog w G iv ivd c++o)) s)
  (h:∀ p s',W prog w B g os (τ++(rho prog w G iv ivd (some p)++o)) s'->Q (.ref p.1) s'):wpAny (model prog w) A (getAttr (.ref G.a.net) "pred" expr) Q E s:=by
 have X:=T.X
 refine an5 (o6 w.params) λ b1 b2 _ _ _=>?_
 have kc:=kCp w.params
 simp only [Bool.and_eq_true] at kc
 have hx:(G.a.net,AObj.inst 951 G.a.d)∈τ++(rho prog w G iv ivd c++o):=List.mem_append_right _ (.head _)
 cases c with
 | some p=>
  exact (cp X b2 hx (show (G.a.d,ndict prog w true (kvC G iv (some p)))∈_ from List.mem_append_right _ (.tail _ (.head _))) rfl).use H λ v0 s' e H'=>by cases ak e;exact h p s' H'
 | none=>
  refine j6 X b1 H hx (show (G.a.d,ndict prog w true (kvC G iv none))∈_ from List.mem_append_right _ (.tail _ (.head _))) rfl λ E' s1 H₁=>?_
  refine kM (f:=λ x=>τ++((G.a.net,.inst 951 G.a.d) :: (G.a.d,x) :: (G.rest++(gj iv ivd G.a.sd G.a.pd++([]++o))))) (kvs:=kvC G iv none) (P:=λ v ν=>∃ dv,ν = [(v,.raw (aK 180 dv (.ref G.a.pd))),(dv,.sdict [])]) (dd:=4) (uu:=13) T kc.2 R.in1 H₁ (λ x=>List.mem_append_right _ (.head _))
   (by unfold rho GG.led lF;simp) (λ v=>.app (.tail .head)) rfl (Nat.le_of_ble_eq_true rfl) ?_ ?_
  ·intro A' E' s' Q' τ' R' H' hq
   refine m6 T R' H' (List.mem_append_right _ (List.mem_append_right _ (.head _))) (List.mem_append_right _ (List.mem_append_right _ (.tail _ (.head _)))) rfl λ v dv s2 H₂=>hq v _ s2 ⟨dv,rfl⟩ H₂
  ·intro v ν s' zr;refine ai zr λ dv zh1=>?_;clear zr;obtain rfl:=zh1;intro H'
   refine ⟨rfl,h (v,dv) s' (H'.perm ?_)⟩
   have e1:stored (kvC G iv none) (Str.ofString "pred") (.ref v) = kvC G iv (some (v,dv)):=aA rfl
   rw [e1]
   have h1:τ++(rho prog w G iv ivd (some (v,dv))++o) = (τ++((G.a.net,.inst 951 G.a.d) :: (G.a.d,ndict prog w true (kvC G iv (some (v,dv)))) :: (G.rest++gj iv ivd G.a.sd G.a.pd)))++([(v,.raw (aK 180 dv (.ref G.a.pd))),(dv,.sdict [])]++o):=by
    unfold rho GG.led lF;simp
   rw [h1]
   have h2:∀ (a b:Addr×AObj) (M:Led),[a,b]++(τ++((G.a.net,AObj.inst 951 G.a.d) :: (G.a.d,ndict prog w true (kvC G iv (some (v,dv)))) :: (G.rest++(gj iv ivd G.a.sd G.a.pd++([]++o))))) = [a,b]++((τ++((G.a.net,.inst 951 G.a.d) :: (G.a.d,ndict prog w true (kvC G iv (some (v,dv)))) :: (G.rest++gj iv ivd G.a.sd G.a.pd)))++o):=by
    intro a b M;simp
   rw [h2 _ _ []]
   exact List.perm_append_comm_assoc ..
theorem ll {G:GG} (hG:G.Ok) {iv ivd Gc:Addr} {c:OA} {o:Led} {m:Str->Option Value} {n:Int} {p1 p2 p3 p4 p5 p6:Pos} {pl:Sem Bool} (T:TX w B mg mb) (R:Rm A 5 17) (hn:n∈G.ns) (hnd:((G.pr n).map (·.1)).Nodup)
  (H:W prog w B g os ((149,bg) :: (rho prog w G iv ivd c++o)) s) (hGc:env.cells.lookup ("G":Str) = some Gc) (hGm:(Gc,AObj.cell (some (.ref G.a.net)))∈o) (hm:(env.locals,AObj.frame m)∈o) (hv:m ("v":Str) = some (.int n 0))
  (h:∀ I i μ gs p s',gs.bare = true->GSt prog w B os (rho prog w G iv ivd) 2 7 i ((G.pr n).map eC) μ [] gs->W prog w B ((i,gs) :: g) os ((I,ar i) :: (μ++((149,bg) :: (rho prog w G iv ivd (some p)++o)))) s'->Q (.ref I) s')
  (k1:env.kindOf "G" = some .cell:=by rfl) (k2:env.kindOf "v" = some .local:=by rfl) (k3:env.scope.kind = .function:=by rfl)
  (he:eval (.Call (.Attribute (.Subscript (.Attribute (.Name "G" p1) "pred" p2) (.Name "v" p3) p4) "items" p5) [] [] p6) env = (do
   let ov ← eval (.Subscript (.Attribute (.Name "G" p1) "pred" p2) (.Name "v" p3) p4) env
   standAt p5.atName
   let (f,first) ← holding [ov] (getMethod ov "items" pl)
   callWith p6 f first (backTo p6 (starEach [] env)) (backToKw p6 (keywordEach [] env))):=by rfl)
  (hs:eval (.Attribute (.Name "G" p1) "pred" p2) env = (do
   let o ← eval (.Name "G" p1) env
   standAt p2.atName
   let r ← holding [o] (getAttr o "pred" true)
   letTemporaryGo (.Name "G" p1) o r
   pure r):=by rfl) :
  wpAny (model prog w) A (eval (.Call (.Attribute (.Subscript (.Attribute (.Name "G" p1) "pred" p2) (.Name "v" p3) p4) "items" p5) [] [] p6) env) Q E s:=by
 have X:=T.X
 refine an9 (kAv w.params) λ _ _ _ q4 q5 q6 q7 _ _=>?_
 refine methodCall_KW (pl:=pl) (Subscript_ (pH H (aq hGc (.tail _ (List.mem_append_right _ hGm)) k1 k3) (λ o0 s1 e1 H₁=>?_) hs)) he
 cases ak e1
 refine pj (τ:=[(149,bg)]) T.toTE R H₁ λ p s2 H₂=>?_
 refine (aa (.tail _ (List.mem_append_right _ hm)) hv k2 k3).use H₂ λ k0 s3 e3 H₃=>?_
 have hpv:(p.1,AObj.raw (aK 180 p.2 (.ref G.a.pd)))∈[(149,bg)]++(rho prog w G iv ivd (some p)++o):=List.mem_append_right _ (List.mem_append_left _ (List.mem_append_right _ (List.mem_append_right _ (.head _))))
 have hpd:(p.2,AObj.sdict [])∈[(149,bg)]++(rho prog w G iv ivd (some p)++o):=List.mem_append_right _ (List.mem_append_left _ (List.mem_append_right _ (List.mem_append_right _ (.tail _ (.head _)))))
 refine ai (cu H₃ hpv hpd) λ od I=>?_
 refine mt (X.keeps H₃.keep) I q5 q6 ?_ (by refine ai (ap e3) λ zz zh1=>?_;obtain rfl:=zh1;with_unfolding_all rfl)
 have F:=dj (w:=w) hG iv ivd
 refine nh T.toTE (R.in1.mono (by decide) (by decide)) H₃ hpv hpd (.inl (List.Mem.tail _ (show _∈rho prog w G iv ivd (some p)++o from List.mem_append_left _ (F.I.h4 (some p))))) e3 (show valueAt (G.ns.map λ n=>(n,Value.ref (G.a.pA n))) n = some (.ref (G.a.pA n)) by rw [a8,if_pos hn]) λ av dav s4 H₄=>?_
 refine qQ X q4 H₄ (.head _) (.tail _ (.head _)) rfl ?_
 refine cw0 (aW (X.keeps H₄.keep) q7) ?_
 refine ju (ρ:=rho prog w G iv ivd) (c:=some p) (o:=o) T (R.mono (by decide) (by decide)) (λ c=>F.I.h5 c n hn) hnd H₄ λ I i μ gs s5 hb hg H₅=>?_
 exact h I i μ gs p s5 hb hg H₅
noncomputable def ba {α:Type} (kf:α->Int) (b:α) (xs:List α):α:=xs.foldl (λ b y=>if kf y > kf b then y else b) b
theorem oZ {l:List Value} {a b:Value} (e:l.map cv = [a,b]):∃ a0 b0,l = [a0,b0]∧cv a0 = a∧cv b0 = b:=by
 match l with
 | []=>cases e
 | [_]=>cases e
 | [x,y]=>simp only [List.map_cons,List.map_nil,List.cons.injEq,and_true] at e;exact (br x y rfl e)
 | _ :: _ :: _ :: _=>simp at e
theorem perm_mx {S:Addr×AObj} {μ X o:Led}:(S :: (μ++(X++o))).Perm (μ++(X++(S :: o))):=by
 have h1:S :: (μ++(X++o)) = S :: ((μ++X)++o):=by simp
 have h2:μ++(X++(S :: o)) = (μ++X)++S :: o:=by simp
 rw [h1,h2];exact List.perm_middle.symm
theorem kC {α:Type} {M:Model} {t:Expr} {I:Addr} {v:Value} {P:Shared->Prop} {X:Sem α} {Q:α->Shared->Prop} {E':Value->Shared->Prop} (ht:aM t) (x:wpAny M A (letOwnedTupleGo t (.ref I) v) (λ _ s'=>P s') E' s) (h:∀ s',P s'->wpAny M A X Q E s'):wpAny M A X Q E s:=by
 cases t <;> first | exact ht.elim | exact λ Γ p hΓ=>h s (x Γ p hΓ) Γ p hΓ
theorem W.upd_seq (H:W prog w B g os σ s) {S:Addr} {vs:List Value} {items:Array Value} {n:Nat} {fn:Array Value->Array Value} {ws:List Value} (u:Up S (.list vs) σ f) (ho:s.heap.get? S = some { cls:=.type "list",dict:=none,data:=.seq items n,slots:=#[] })
  (hw:(fn items).toList.map cv = ws) {t:Nat}:W prog w B g os (f (.list ws)) { s with heap:=s.heap.update S (Obj.mapSeq fn),toks:=t }:=by
 refine ai (Obj.data_mapSeq (o:={ cls:=.type "list",dict:=none,data:=.seq items n,slots:=#[] }) rfl fn) λ n' hd'=>?_
 refine H.upd (t:=t) u (Heap.SameBut.update ..).extBut (.list (bl _ ho rfl (c5 _ rfl))) (ad (fn items) ⟨_,Heap.get?_update_self _ ho rfl⟩ hw)
theorem oK {α:Type} {val:α->Value} {C:Type} {ρ:C->Led} {d u:Nat} {F S I:Addr} {all:List α} {kf:α->Int} {o:Led} {γo:c9} {R:Result->Shared->Prop} (hR:Rm A d (u + 1))
  (key:∀ x∈all,∀ x₀ γ c σ',cv x₀ = val x->(∀ p∈ρ c++o,p∈σ')->Gv prog w A.in1 B γ os σ' (call (.ref F) [x₀]) (.int (kf x) 0)) :
  ∀ (xs:List α) (b:α) (μ:Led) (γ:c9) (c:C) (s:Shared),(∀ x∈xs,x∈all)->bV prog w B os ρ aM d u I (xs.map λ x=>one (val x)) μ γ->W prog w B (γ++γo) os ((S,.list [val b,.int (kf b) 0]) :: (μ++(ρ c++o))) s ->
   (∀ b0 c' s',cv b0 = val (ba kf b xs)->W prog w B γo os (ρ c'++o) s'->R (.ok (.ret b0)) s')->codeAny (model prog w) A (.builtin "max.loop" ⟨[.ref I,.ref F,.ref S],[]⟩) R s:=by
 have hname:(toString "max"++toString ".loop":String) = "max.loop":=by decide
 intro xs
 induction xs with
 | nil=>
  intro b μ γ c s hsub G H hq
  refine bj λ GZ hGZ=>?_
  refine ac (H.get (.head _)) λ items zh1 e=>?_;refine ai zh1 λ n ho=>?_;clear zh1
  obtain ⟨l⟩:=items
  refine hGZ ?_
  refine bC (oZ e) λ b0 k0 zh1 e2=>?_;obtain rfl:=zh1
  clear e
  have e:=e2
  refine codeAny_builtin PySem.F.entry_max_loop ?_
  rw [Around.under_plainId PySem.F.plain_max_loop _]
  show wpAny _ A.in1 (seqItems? (.ref S) >>= _) _ _ _
  refine wpAny_bind (wpAny_seqItems ho rfl ?_)
  show wpAny _ A.in1 (tryCatch (pyNext (.ref I)) _ >>= _) _ _ _
  refine wpAny_bind (wpAny_tryCatch (wpAny_mono (G _ c _ γo _ s hR.in1 (H.perm perm_mx)) (λ r s1 h1=>?_) λ _ _ e=>e))
  refine ae h1 λ zh1 zh2=>?_;clear h1;obtain rfl:=zh1;refine ai zh2 λ c' H1=>?_;clear zh2
  refine ac (H1.get (show (S,AObj.list [val b,.int (kf b) 0])∈ρ c'++((S,_) :: o) from List.mem_append_right _ (.head _))) λ items' zh1 e'=>?_;refine ai zh1 λ n' ho'=>?_;clear zh1
  have hz':items'.size≤sizeLine:=by
   have:items'.toList.length = 2:=by rw [← List.length_map (f:=cv),e'];rfl
   rw [Array.length_toList] at this;rw [sizeLine_eq];walk_at "r"
  show wpAny _ A.in1 (updateSeq S (λ _=>#[]) >>= _) _ _ _
  refine wpAny_bind (wpAny_updateSeq ho' rfl ?_ hz' (by simp))
  refine wpAny_bind (wpAny_letGo (wpAny_pure ?_))
  have H2:=(H1.upd_seq (t:=s1.toks) (ws:=[]) (.app .head) ho' (fn:=λ _=>#[]) rfl)
  have H3:W prog w B γo os ((S,.list []) :: (ρ c'++o)) _:=H2.perm (List.perm_middle (l₁:=ρ c'))
  exact hq b0 c' _ e.1 H3.drop
 | cons x xs ih=>
  intro b μ γ c s hsub G H hq
  refine bj λ GZ hGZ=>?_
  refine ac (H.get (.head _)) λ items zh1 e=>?_;refine ai zh1 λ n ho=>?_;clear zh1
  obtain ⟨l⟩:=items
  refine hGZ ?_
  refine bC (oZ e) λ b0 k0 zh1 e2=>?_;obtain rfl:=zh1
  clear e
  have e:=e2
  refine ai (ap e.2) λ tk zh1=>?_;obtain rfl:=zh1
  refine codeAny_builtin PySem.F.entry_max_loop ?_
  rw [Around.under_plainId PySem.F.plain_max_loop _]
  show wpAny _ A.in1 (seqItems? (.ref S) >>= _) _ _ _
  refine wpAny_bind (wpAny_seqItems ho rfl ?_)
  show wpAny _ A.in1 (tryCatch (pyNext (.ref I)) _ >>= _) _ _ _
  refine wpAny_bind (wpAny_tryCatch (wpAny_mono (G _ c _ γo _ s hR.in1 (H.perm perm_mx)) (λ r s1 h1=>?_) λ _ _ e=>e))
  refine gw h1 λ v ν μ' γ' c' zh1 zh2 G' hl=>?_;clear h1;obtain rfl:=zh1;refine ae zh2 λ ev zh3=>?_;clear zh2;obtain rfl:=zh3
  refine kC (t:=.Name "x" ⟨0,0,0,0⟩) trivial (hl (.Name "x" ⟨0,0,0,0⟩) trivial λ _ _=>True) λ s2 H2=>?_
  have H3:W prog w B (γ'++γo) os ((S,.list [val b,.int (kf b) 0]) :: (μ'++(ρ c'++o))) s2:=H2.perm perm_mx.symm
  show wpAny _ A.in1 (tryCatch (holding [v] (call (.ref F) [v])) _ >>= _) _ _ _
  refine wpAny_bind (wpAny_tryCatch (wpAny_holding ((key x (hsub x (.head _)) v _ c' _ ev (λ p hp=>.tail _ (List.mem_append_right _ hp))).use H3 λ k1 s3 ek H4=>?_)))
  refine ai (ap ek) λ tk1 zh1=>?_;obtain rfl:=zh1
  show wpAny _ A.in1 (tryCatch (holding [v,.int (kf x) tk1] (richCompare .Gt (.int (kf x) tk1) (.int (kf b) tk) >>= _)) _ >>= _) _ _ _
  refine wpAny_bind (wpAny_tryCatch (wpAny_holding (wpAny_bind ?_)))
  refine PyProof.Rows.gt_int ?_
  refine wpAny_bind (wpAny_holding (wpAny_truthy_bool ?_))
  refine wpAny_bind (wpAny_letGo (wpAny_pure ?_))
  by_cases hb:kf b < kf x
  ·simp only [hb,decide_true,if_true]
   refine ac (H4.get (.head _)) λ items' zh1 e'=>?_;refine ai zh1 λ n' ho'=>?_;clear zh1
   have hz':items'.size≤sizeLine:=by
    have:items'.toList.length = 2:=by rw [← List.length_map (f:=cv),e'];rfl
    rw [Array.length_toList] at this;rw [sizeLine_eq];walk_at "r"
   refine wpAny_bind (wpAny_updateSeq ho' rfl ?_ hz' (by rw [sizeLine_eq];simp))
   refine wpAny_bind (wpAny_letGo ?_)
   rw [hname]
   refine wpAny_pure ⟨plainId_quiet PySem.F.plain_max_loop _,ih x μ' γ' c' _ (λ y hy=>hsub y (.tail _ hy)) G' (H4.upd_seq (t:=s3.toks) (ws:=[val x,.int (kf x) 0]) .head ho' (fn:=λ _=>#[v,.int (kf x) tk1]) (by show [cv v,cv (.int (kf x) tk1)] = _;rw [ev];rfl)) λ b1 c₁ s5 e5 H5=>hq b1 c₁ s5 ?_ H5⟩
   rw [e5];unfold ba;rw [List.foldl_cons,if_pos hb]
  ·simp only [hb,decide_false,Bool.false_eq_true,if_false]
   refine wpAny_bind (wpAny_letGo ?_)
   rw [hname]
   refine wpAny_pure ⟨plainId_quiet PySem.F.plain_max_loop _,ih b μ' γ' c' _ (λ y hy=>hsub y (.tail _ hy)) G' H4 λ b1 c₁ s5 e5 H5=>hq b1 c₁ s5 ?_ H5⟩
   rw [e5];unfold ba;rw [List.foldl_cons,if_neg hb]
theorem qt {α:Type} {val:α->Value} {C:Type} {ρ:C->Led} {d u:Nat} {F:Addr} {x:α} {xs:List α} {v:Value} {kf:α->Int} {o:Led} {γo:c9} (hR:Rm A d (u + 1))
  (key:∀ y∈x :: xs,∀ x₀ γ c σ',cv x₀ = val y->(∀ p∈ρ c++o,p∈σ')->Gv prog w A.in1 B γ os σ' (call (.ref F) [x₀]) (.int (kf y) 0))
  (it:wpAny (model prog w) A.in1 (pyIter v) (λ i s2=>∃ I μ γ c,i = .ref I∧bV prog w B os ρ aM d u I ((x :: xs).map λ x=>one (val x)) μ γ∧W prog w B (γ++γo) os (μ++(ρ c++o)) s2) E s)
  (hq:∀ b0 c' s',cv b0 = val (ba kf x xs)->W prog w B γo os (ρ c'++o) s'->Q b0 s'):wpAny (model prog w) A (call (.builtin "max") [v] [(Str.ofString "key",.ref F)]) Q E s:=by
 have hname:(toString "max"++toString ".loop":String) = "max.loop":=by decide
 refine kmk_tree PySem.F.kind_max PySem.F.plain_max PySem.F.entry_max (kmk_max_key _ _) ?_
 show wpAny _ A.in1 (Builtin.Builtins.bindParams "max" ["key","default"] 0 ⟨[],[(Str.ofString "key",.ref F)]⟩ >>= _) _ _ s
 refine wpAny_bind (wpAny_of_eq (show Builtin.Builtins.bindParams "max" ["key","default"] 0 ⟨[],[(Str.ofString "key",.ref F)]⟩ = pure [some (.ref F),none] from rfl) ?_)
 refine wpAny_bind (wpAny_pure ?_)
 refine wpAny_bind (wpAny_mono it (λ i s2 h2=>?_) λ _ _ e=>e)
 refine eX h2 λ I μ γ c zh1 zk0=>?_;refine ae zk0 λ G H=>?_;clear zk0;clear h2;obtain rfl:=zh1
 refine wpAny_bind (du H (ws:=[]) rfl (Nat.zero_le _) λ S s3 H1=>?_)
 rw [hname]
 refine wpAny_pure ⟨plainId_quiet PySem.F.plain_max_loop _,?_⟩
 refine bj λ GZ hGZ=>?_
 refine ac (H1.get (.head _)) λ items zh1 e=>?_;refine ai zh1 λ n ho=>?_;clear zh1
 obtain ⟨l⟩:=items
 refine hGZ ?_
 obtain rfl:l = []:=by simpa using e
 refine codeAny_builtin PySem.F.entry_max_loop ?_
 rw [Around.under_plainId PySem.F.plain_max_loop _]
 show wpAny _ A.in1 (seqItems? (.ref S) >>= _) _ _ _
 refine wpAny_bind (wpAny_seqItems ho rfl ?_)
 show wpAny _ A.in1 (tryCatch (pyNext (.ref I)) _ >>= _) _ _ _
 refine wpAny_bind (wpAny_tryCatch (wpAny_mono (G _ c _ γo _ _ hR.in1 (H1.perm perm_mx)) (λ r s1 h1=>?_) λ _ _ e=>e))
 refine gw h1 λ v ν μ' γ' c' zh1 zh2 G' hl=>?_;clear h1;obtain rfl:=zh1;refine ae zh2 λ ev zh3=>?_;clear zh2;obtain rfl:=zh3
 refine kC (t:=.Name "x" ⟨0,0,0,0⟩) trivial (hl (.Name "x" ⟨0,0,0,0⟩) trivial λ _ _=>True) λ s2 H2=>?_
 have H3:W prog w B (γ'++γo) os ((S,.list []) :: (μ'++(ρ c'++o))) s2:=H2.perm perm_mx.symm
 show wpAny _ A.in1 (tryCatch (holding [v] (call (.ref F) [v])) _ >>= _) _ _ _
 refine wpAny_bind (wpAny_tryCatch (wpAny_holding ((key x (.head _) v _ c' _ ev (λ p hp=>.tail _ (List.mem_append_right _ hp))).use H3 λ k1 s3 ek H4=>?_)))
 refine ai (ap ek) λ tk1 zh1=>?_;obtain rfl:=zh1
 refine ac (H4.get (.head _)) λ items' zh1 e'=>?_;refine ai zh1 λ n' ho'=>?_;clear zh1
 have hz':items'.size≤sizeLine:=by
  have:items'.toList.length = 0:=by rw [← List.length_map (f:=cv),e'];rfl
  rw [Array.length_toList] at this;rw [sizeLine_eq];walk_at "r"
 show wpAny _ A.in1 (updateSeq S (λ _=>#[v,.int (kf x) tk1]) >>= _) _ _ _
 refine wpAny_bind (wpAny_updateSeq ho' rfl ?_ hz' (by rw [sizeLine_eq];simp))
 rw [hname]
 refine wpAny_pure ⟨plainId_quiet PySem.F.plain_max_loop _,oK hR (λ y hy=>key y hy) xs x μ' γ' c' _ (λ y hy=>.tail _ hy) G' (H4.upd_seq (t:=s3.toks) (ws:=[val x,.int (kf x) 0]) .head ho' (fn:=λ _=>#[v,.int (kf x) tk1]) (by show [cv v,cv (.int (kf x) tk1)] = _;rw [ev];rfl)) λ b0 c' s' eb H'=>hq b0 c' s' eb H'⟩
set_option maxRecDepth 512
set_option maxHeartbeats 200000
noncomputable def MS (α:Type):Type:=Quotient (List.isSetoid α)
noncomputable def MS.mk {α:Type} (l:List α):MS α:=Quotient.mk _ l
noncomputable def MS.add {α:Type} (x y:MS α):MS α:=Quotient.liftOn₂ x y (λ a b=>MS.mk (a++b)) λ _ _ _ _ h1 h2=>Quotient.sound (List.Perm.append h1 h2)
theorem MS.app {α:Type} (a b:List α):MS.mk (a++b) = MS.add (MS.mk a) (MS.mk b):=rfl
noncomputable def MS.one {α:Type} (x:α):MS α:=MS.mk [x]
theorem MS.cons {α:Type} (x:α) (b:List α):MS.mk (x :: b) = MS.add (MS.one x) (MS.mk b):=rfl
theorem MS.assoc {α:Type}:Std.Associative (α:=MS α) MS.add:=⟨λ a b c=>by
 induction a using Quotient.ind;induction b using Quotient.ind;induction c using Quotient.ind
 exact congrArg MS.mk (List.append_assoc ..)⟩
theorem MS.comm {α:Type}:Std.Commutative (α:=MS α) MS.add:=⟨λ a b=>by
 induction a using Quotient.ind;induction b using Quotient.ind
 exact Quotient.sound List.perm_append_comm⟩
theorem MS.id {α:Type}:Std.LawfulIdentity (α:=MS α) MS.add (MS.mk []) where
 left_id a:=by induction a using Quotient.ind;rfl
 right_id a:=by induction a using Quotient.ind;exact congrArg MS.mk (List.append_nil _)
theorem MS.perm {α:Type} {a b:List α} (h:MS.mk a = MS.mk b):a.Perm b:=Quotient.exact h
theorem MS.nilr {α:Type} (a:MS α):MS.add a (MS.mk []) = a:=MS.id.right_id a
theorem MS.nill {α:Type} (a:MS α):MS.add (MS.mk []) a = a:=MS.id.left_id a
theorem test {a b c d e:Addr×AObj} {X Y o:Led}:(a :: b :: (X++(c :: (Y++(d :: e :: o))))).Perm ([e,c]++(o++(Y++(b :: X++([a,d]++[]))))):=by exact pm [[_],[_],_,[_],_,[_],[_],_] [2,5,9,11,15,17,20,25] [1,20,11,0,24,15,1,5,10,1,2,17,0,0] rfl
set_option maxRecDepth 100000
set_option maxHeartbeats 2000000
noncomputable def an (P:Addr) (q:Str) (es:List ((Nat×Nat)×Addr)):Led:=(P,jU es) :: es.map λ e=>(e.2,jR q)
theorem j0 {P:Addr} {q:Str} {es:List ((Nat×Nat)×Addr)} {p:Nat×Nat} {c:Addr} {σ:Led}:((c,jR q) :: ((P,jU (es++[(p,c)])) :: (es.map (λ e=>(e.2,jR q))++σ))).Perm (an P q (es++[(p,c)])++σ):=by
 unfold an
 rw [List.map_append]
 show ((c,jR q) :: ((P,jU (es++[(p,c)])) :: (es.map (λ e=>(e.2,jR q))++σ))).Perm ((P,jU (es++[(p,c)])) :: (es.map (λ e=>(e.2,jR q))++[(c,jR q)])++σ)
 exact pm [[_],[_],_,_] [2,5,9,13] [1,5,9,2,0,13] rfl
theorem iG {pos:Pos} {es:List ((Nat×Nat)×Addr)} {cv:Value} (h:codeAmong pos (iV es) = some cv):∃ e∈es,cv = .ref e.2:=by
 induction es with
 | nil=>cases h
 | cons e r ih=>
  have h1:codeAmong pos (iV (e :: r)) = if ((e.1.1:Int) == pos.line && (e.1.2:Int) == pos.col) then some (.ref e.2) else codeAmong pos (iV r):=rfl
  rw [h1] at h
  split at h
  ·exact (ad e (.head _) ((Option.some.inj h).symm))
  ·refine ac (ih h) λ x hx e2=>?_;exact (ad x (.tail _ hx) e2)
theorem pD {q:Str} {params:Arguments} {body:Expr} {scope:Scope} {pos:Pos} {c P:Addr} {es:List ((Nat×Nat)×Addr)} {clos:List (Str×Addr)} (T:TX w B mg mb) (hX:K.In B) (hcK:bI K c P = true)
  (H:W prog w B g os (an P q es++σ) s) (hcode:env.code = .ref c) (hclos:closureFor scope env = pure clos) (hq:env.qual++"<lambda>" = q)
  (h:∀ F c' es' s' LA,LA = rs q params body scope clos c'->(c',jR q)∈an P q es'->W prog w B g os ((F,LA) :: (an P q es'++σ)) s'->Q (.ref F) s')
  (hdef:defaultsOf params env = ([],[]):=by rfl) (hge:env.globals = mainGlobals:=by rfl):wpAny (model prog w) A (eval (.Lambda params body scope pos) env) Q E s:=by
 subst hq
 cases hf:codeAmong pos (iV es) with
 | none=>
  refine n9 T hX hcK H (u:=(.head:Up P (jU es) ((P,jU es) :: (es.map (λ e=>(e.2,jR _))++σ)) _)) hcode hclos hf (λ F c' s' H'=>?_) hdef hge
  refine h F c' (es++[((pos.line,pos.col),c')]) s' _ rfl (.tail _ (List.mem_map.mpr (ad _ (List.mem_append_right _ (.head _)) rfl))) (H'.perm (List.Perm.cons _ j0))
 | some cv=>
  refine ac (iG hf) λ e he zh1=>?_;obtain rfl:=zh1
  refine nL T hX hcK H (.head _) hcode hclos hf (λ F s' H'=>?_) hdef hge
  exact h F e.2 es s' _ rfl (.tail _ (List.mem_map.mpr (ad e he rfl))) H'
theorem ic {x:Str} {np pos kp:Pos} {e ke:Expr} {id:String} {kw:Str} (H:W prog w B g os σ s) (hf:Gv prog w A B g os σ (eval (.Name x np) env) (.builtin id))
  (h:∀ s',W prog w B g os σ s'->wpAny (model prog w) A (eval e env) (λ v s1=>wpAny (model prog w) A (eval ke env) (λ k s2=>wpAny (model prog w) A (call (.builtin id) [v] [(kw,k)]) Q E s2) E s1) E s')
  (he:starEach [e] env = (false,eval e env) :: starEach [] env:=by rfl):wpAny (model prog w) A (eval (.Call (.Name x np) [e] [⟨some kw,ke,kp⟩] pos) env) Q E s:=by
 show wpAny _ A (do callWith pos (← eval (.Name x np) env) [] (backTo pos (starEach [e] env)) (backToKw pos (keywordEach [⟨some kw,ke,kp⟩] env))) Q E s
 refine wpAny_bind (hf.use H λ f0 s1 e1 H₁=>?_)
 cases bX e1
 refine callWith_of (P:=λ _=>True) (by rw [he];rfl) (λ _ _=>(ad .machine (.inr (.inl rfl)) (Looks.of_pure rfl))) (evalArgs_kw2 rfl (wpAny_items_cons (wpAny_mono (h s1 H₁) (λ v s2 h2=>wpAny_items_nil ?_) λ _ _ e=>e) he) he)
 exact kwAll_cons (wpAny_mono h2 (λ k s3 h3=>kwAll_nil ⟨trivial,h3⟩) λ _ _ e=>e)
set_option maxHeartbeats 4000000
structure DE where
 v:Int
 c:Int
 u:Int
 t:Addr
noncomputable def ci (dd:List DE):List (Int×Value):=dd.map λ e=>(e.v,.ref e.t)
noncomputable def fy (dd:List DE):Led:=dd.map λ e=>(e.t,.tup [.int e.c 0,.int e.u 0])
noncomputable def cB (dd:List DE):List (Int×Int×Int):=dd.map λ e=>(e.v,e.c,e.u)
noncomputable def cIn (dp:List (Int×Int×Int)) (u:Int):Int:=((dp.find? λ e=>e.1 == u).map (·.2.1)).getD 0
noncomputable def usL (dp:List (Int×Int×Int)) (ps:List (Int×Int)):List (Int×Int):=ps.map λ p=>(cIn dp p.1 + p.2,p.1)
noncomputable def nX (v:Int):List (Int×Int)->Int×Int
 | []=>(0,v)
 | x :: xs=>ba (·.1) x xs
noncomputable def cF (ps:List (Int×Int)) (dp:List (Int×Int×Int)) (v:Int):Int×Int:=if (nX v (usL dp ps)).1 ≥ 0 then nX v (usL dp ps) else (0,v)
inductive DPath (prw:Int->List (Int×Int)):List (Int×Int×Int)->List Int->List (Int×Int×Int)->Prop
 | nil {dp}:DPath prw dp [] dp
 | cons {dp v order dp'}:(∀ p∈prw v,∃ e∈dp,e.1 = p.1)->(∀ e∈dp,e.1≠v)->DPath prw (dp++[(v,cF (prw v) dp v)]) order dp'->DPath prw dp (v :: order) dp'
noncomputable def qL:Str:="dag_longest_path.<locals>.<lambda>"
noncomputable def dlL (L D net:Addr) (bare:Int) (m:Str->Option Value) (dd:List DE) (es:List ((Nat×Nat)×Addr)):Led :=
 (L,.frame m) :: (L + 1,.cell (some (.ref net))) :: (L + 2,.cell (some (.str "weight" 0))) :: (L + 3,.cell (some (.int bare 0))) :: (L + 4,.cell (some (.ref D))) :: (D,.idict (ci dd)) :: (149,bg) :: (fy dd++an 93 qL es)
noncomputable def f96 (P:Params):{ fd:FuncData // ∃ oc od osl,(Z0.K P).lookup 96 = some ⟨oc,od,.func fd,osl⟩ }:=⟨_,_,_,_,rfl⟩
noncomputable def b96 (P:Params):{ b:List Stmt // (f96 P).1.body = .stmts b }:=⟨_,rfl⟩
noncomputable abbrev e96 (P:Params) (L:Addr):Env:=callEnvC (f96 P).1 L 96
structure FX where
 pre:List Stmt
 target:Expr
 iter:Expr
 body:List Stmt
 pos:Pos
 rest:List Stmt
noncomputable def x96 (P:Params):{ x:FX // (b96 P).1 = x.pre++(.For x.target x.iter x.body [] x.pos :: x.rest)∧x.pre.length = 3 }:=⟨⟨[_,_,_],_,_,_,_,_⟩,rfl,rfl⟩
theorem jl {dd:List DE} {u:Int} (h:∃ e∈dd,e.v = u):∃ e∈dd,valueAt (ci dd) u = some (.ref e.t)∧cIn (cB dd) u = e.c:=by
 induction dd with
 | nil=>revert h;refine λ zq=>ac zq λ zz h zz=>?_;clear zq;cases h
 | cons x r ih=>
  by_cases hx:x.v = u
  ·refine (bl x (.head _) ?_ ?_)
   ·unfold valueAt ci;simp [hx]
   ·unfold cIn cB;simp [hx]
  ·refine ac h λ e he hu=>?_;clear h
   rcases List.mem_cons.mp he with rfl | he
   ·exact absurd hu hx
   ·refine aU (ih ⟨e,he,hu⟩) λ e' he' h1 h2=>?_
    refine (bl e' (.tail _ he') ?_ ?_)
    ·unfold valueAt ci at *;simp [hx] at *;exact h1
    ·unfold cIn cB at *;simp [hx] at *;exact h2
theorem cD {dd:List DE} {u:Int} (h:∀ e∈dd,e.v≠u):valueAt (ci dd) u = none:=by
 unfold valueAt ci
 rw [Option.map_eq_none_iff,List.find?_eq_none]
 intro x hx
 refine ac (List.mem_map.mp hx) λ e he zh1=>?_;obtain rfl:=zh1
 simpa using h e he
theorem rP {t e1 e2:Expr} {p:Pos} {b:Bool} (H:W prog w B g os σ s) (ht:Gb prog w A B g os σ (isTrue t env (eval t env)) b)
  (h1:b = true->∀ s',W prog w B g os σ s'->wpAny (model prog w) A (eval e1 env) Q E s') (h2:b = false->∀ s',W prog w B g os σ s'->wpAny (model prog w) A (eval e2 env) Q E s'):wpAny (model prog w) A (eval (.IfExp t e1 e2 p) env) Q E s :=
 wpAny_IfExp (ht.use H λ s1 H₁=>by
  cases b with
  | true=>simp only [if_true];exact h1 rfl s1 H₁
  | false=>simp only [Bool.false_eq_true,if_false];exact h2 rfl s1 H₁)
theorem r7 (P:Params):bI (Z0.K P) 95 93 = true:=by kernel_rfl
theorem ct {α:Type} (kf:α->Int):∀ (xs:List α) (b:α),ba kf b xs∈b :: xs
 | [],b=>.head _
 | x :: xs,b=>by
  unfold ba
  rw [List.foldl_cons]
  split
  ·have:=ct kf xs x
   exact .tail _ this
  ·rcases List.mem_cons.mp (ct kf xs b) with h | h
   ·show ba kf b xs∈_
    rw [h];exact .head _
   ·exact .tail _ (.tail _ h)
theorem dF {α β:Type} (f:α->β) (kf:β->Int):∀ (xs:List α) (b:α),ba kf (f b) (xs.map f) = f (ba (λ x=>kf (f x)) b xs)
 | [],b=>rfl
 | x :: xs,b=>by
  unfold ba
  rw [List.map_cons,List.foldl_cons,List.foldl_cons]
  split
  ·exact dF f kf xs x
  ·exact dF f kf xs b
structure UE where
 c:Int
 u:Int
 t:Addr
noncomputable def c7 (us:List UE):Led:=us.map λ e=>(e.t,.tup [.int e.c 0,.int e.u 0])
theorem lZ {L D net:Addr} {bare:Int} {dd:List DE} {m:Str->Option Value} {X:Led} {n c0 u0:Int} {t:Addr} {Q:Shared->Prop} (hfr:∀ e∈dd,e.v≠n) (hz:dd.length≤100)
  (hv:m ("v":Str) = some (.int n 0)) (hu:m ("maxu":Str) = some (.ref t))
  (H:W prog w B g os ((L,.frame m) :: (L + 1,.cell (some (.ref net))) :: (L + 2,.cell (some (.str "weight" 0))) :: (L + 3,.cell (some (.int bare 0))) :: (L + 4,.cell (some (.ref D))) :: (D,.idict (ci dd)) :: (t,.tup [.int c0 0,.int u0 0]) :: X) s)
  (h:∀ t' s',W prog w B g os ((L,.frame m) :: (L + 1,.cell (some (.ref net))) :: (L + 2,.cell (some (.str "weight" 0))) :: (L + 3,.cell (some (.int bare 0))) :: (L + 4,.cell (some (.ref D))) :: (D,.idict (ci dd++[(n,.ref t')])) :: (t',.tup [.int (if c0 ≥ 0 then (c0,u0) else (0,n)).1 0,.int (if c0 ≥ 0 then (c0,u0) else (0,n)).2 0]) :: X) s'->Q s') :
  wpAny (model prog w) A (execs ((x96 w.params).1.body.drop 2) (e96 w.params L)) (λ fl s3=>(fl = .next∨fl = .cont)∧Q s3) E s:=by
 dsimp only [x96,e96,f96,b96,List.drop]
 have hkv:(ci dd).length≤1000:=by unfold ci;rw [List.length_map];walk_at "r"
 refine eD (rP H (b:=decide (c0 ≥ 0)) (aT (fN (aa (by walk_at "a") (by exact hu)) aC (vs:=[.int c0 0,.int u0 0]) (by walk_at "a") (by decide) rfl (by decide)) aC λ a0 b0 ea eb=>rN ea eb) (λ hc s1 H1=>?_) (λ hc s1 H1=>?_))
 ·have hc:c0 ≥ 0:=by simpa using hc
  refine (aa (by walk_at "a") (by exact hu)).use H1 λ v0 s2 e2 H2=>?_
  refine (aq (c:=L + 4) rfl (by walk_at "a")).use H2 λ o0 s3 e3 H3=>(aa (by walk_at "a") (by exact hv)).use H3 λ i0 s4 e4 H4=>?_
  cases ak e3
  refine bT H4 (by walk_at "a") e4 e2 hkv λ s5 H5=>ay ⟨.inl rfl,?_⟩
  rw [aA (cD hfr)] at H5
  refine h t _ ?_
  rw [if_pos hc];exact H5
 ·have hc:¬ c0 ≥ 0:=by simpa using hc
  refine d6 (ab H1 aC λ a0 s2 ea H2=>ab H2 (aa (by walk_at "a") (by exact hv)) λ b0 s3 eb H3=>ah ?_)
  refine bD H3 (ws:=[.int 0 0,.int n 0]) (by simp [ea,eb]) (by simp) λ t' s4 H4=>?_
  refine (aq (c:=L + 4) rfl (by walk_at "a")).use H4 λ o0 s5 e5 H5=>(aa (by walk_at "a") (by exact hv)).use H5 λ i0 s₆ e6 H6=>?_
  cases ak e5
  refine bT H6 (by walk_at "a") e6 rfl hkv λ s7 H7=>ay ⟨.inl rfl,?_⟩
  rw [aA (cD hfr)] at H7
  refine h t' _ ?_
  rw [if_neg hc]
  have H8:=W.drop (H7.pick (a:=t) (by walk_at "a"))
  refine H8.perm ?_
  show ((t',_) :: (L,_) :: (L + 1,_) :: (L + 2,_) :: (L + 3,_) :: (L + 4,_) :: (D,_) :: X).Perm _
  exact cV (H:=[_,_,_,_,_,_]) rfl rfl
theorem kr {G:GG} (hG:G.Ok) {iv ivd L D:Addr} {bare:Int} {wt:Int->Int} {dd:List DE} {es:List ((Nat×Nat)×Addr)} {m:Str->Option Value} {o:Led} {c:OA} {n:Int} {v0:Value} (T:TX w B mg mb)
  (R:Rm A 5 18) (hn:n∈G.ns) (hnd:((G.pr n).map (·.1)).Nodup)
  (hw:∀ p∈G.pr n,∃ a attrs,p.2 = .ref a∧(a,AObj.sdict attrs)∈o∧(valueAt attrs "weight").getD (.int bare 0) = .int (wt p.1) 0)
  (hdep:∀ p∈G.pr n,∃ e∈dd,e.v = p.1) (hfr:∀ e∈dd,e.v≠n) (hz:dd.length≤100)
  (H:W prog w B g os (rho prog w G iv ivd c++(dlL L D G.a.net bare m dd es++o)) s) (ev:cv v0 = .int n 0)
  {Q:Shared->Prop} (h:∀ c' m' es' t s',W prog w B g os (rho prog w G iv ivd c'++(dlL L D G.a.net bare m' (dd++[⟨n,(cF ((G.pr n).map λ p=>(p.1,wt p.1)) (cB dd) n).1,(cF ((G.pr n).map λ p=>(p.1,wt p.1)) (cB dd) n).2,t⟩]) es'++o)) s'->Q s') :
  wpAny (model prog w) A (assign (x96 w.params).1.target (e96 w.params L) v0) (λ _ s2=>wpAny (model prog w) A (execs (x96 w.params).1.body (e96 w.params L)) (λ fl s3=>(fl = .next∨fl = .cont)∧Q s3) E s2) E s:=by
 have X:=T.X
 refine mT (kGm w.params) λ _ q2 _ _ _ _ _ _ q9 _ _=>?_
 have FF:=dj (w:=w) hG iv ivd
 dsimp only [x96,e96,f96,b96]
 have H0:W prog w B g os ((L,.frame m) :: (L + 1,.cell (some (.ref G.a.net))) :: (L + 2,.cell (some (.str "weight" 0))) :: (L + 3,.cell (some (.int bare 0))) :: (L + 4,.cell (some (.ref D))) :: (D,.idict (ci dd)) :: (149,bg) :: (fy dd++(an 93 qL es++(rho prog w G iv ivd c++o)))) s:=H.perm (by unfold dlL;exact pm [_,[_],[_],[_],[_],[_],[_],[_],_,_,_] [3,1,5,8,11,14,17,20,23,27,31,34] [5,8,11,14,17,20,23,27,30,3,34] rfl)
 refine aG (al H0 (by walk_at "a") ev λ s1 H1=>?_)
 generalize hm1:put "v" (.int n 0) m = m1 at H1
 replace H1:W prog w B g os ((L,.frame m1) :: (L + 1,.cell (some (.ref G.a.net))) :: (L + 2,.cell (some (.str "weight" 0))) :: (L + 3,.cell (some (.int bare 0))) :: (L + 4,.cell (some (.ref D))) :: (D,.idict (ci dd)) :: (149,bg) :: (fy dd++(an 93 qL es++(rho prog w G iv ivd c++o)))) s1:=H1
 have n1:m1 ("v":Str) = some (.int n 0):=by rw [← hm1];rfl
 refine eK ?_
 refine gm (C:=OA) (ρ:=rho prog w G iv ivd) (tg:=kg) (d:=2) (u:=8) (B:=B) (os:=os) (cl:=[("weight",L + 2),("dist",L + 4),("default_weight",L + 3),("G",L + 1)])
  (λ xs ws o' γ'=>γ' = g∧∃ us:List UE,∃ dn ys,xs = ys.map eC∧dn++ys = G.pr n∧ws = us.map (λ e=>.ref e.t)∧us.map (λ e=>(e.c,e.u)) = usL (cB dd) (dn.map λ p=>(p.1,wt p.1)) ∧
   o' = c7 us++(dlL L D G.a.net bare m1 dd es++o)) trivial (R.mono (by decide) (by decide)) rfl ?_ ?_ ?_
 ·refine ll (Gc:=L + 1) (m:=m1) (o:=(L,.frame m1) :: (L + 1,.cell (some (.ref G.a.net))) :: (L + 2,.cell (some (.str "weight" 0))) :: (L + 3,.cell (some (.int bare 0))) :: (L + 4,.cell (some (.ref D))) :: (D,.idict (ci dd)) :: (fy dd++(an 93 qL es++o)))
   hG T (R.mono (by decide) (by decide)) hn hnd (H1.perm (by exact pm [[_],[_],[_],[_],[_],[_],[_],_,_,_,_] [2,5,8,11,14,17,20,24,27,30,34] [20,30,2,5,8,11,14,17,24,27,34] rfl)) rfl (by walk_at "a") (.head _) n1 λ I i μ gs p s' hb hg H'=>?_
  refine wpAny_pyIter_gen (Real.gen.mp (H'.get (.head _))) (jK I _ ((I,ar i) :: μ) [(i,gs)] (some p) _ g rfl ?_ (bz T.lim _ _ _ _ hg) eu (aJ rfl (eE [] [] (G.pr n) rfl rfl rfl rfl rfl)) (H'.perm ?_))
  ·rw [List.length_map];have:=hG.l3 n hn;walk_at "r"
  ·have e1:c7 [] = []:=rfl
   rw [e1];unfold dlL
   refine MS.perm ?_
   haveI:=@MS.assoc (Addr×AObj)
   haveI:=@MS.comm (Addr×AObj)
   simp only [MS.app,MS.cons,List.append_eq,MS.nilr,MS.nill]
   ac_rfl
 ·intro xq xs ws Dl Cf mc μ γ o' γ' c2 v ν s' E2 hJ
  refine ae hJ λ zh1 zh2=>?_;clear hJ;obtain rfl:=zh1;refine dQ zh2 λ us dn ys e1 e2 e3 e4 zh3=>?_;clear zh2;obtain rfl:=zh3
  intro hx H2
  refine eL λ Q1 hQ1=>?_
  cases ys with
  | nil=>cases e1
  | cons pq ys=>
  refine ae (List.cons.inj e1) λ zh1 zh2=>?_;obtain rfl:=zh1;obtain rfl:=zh2
  refine ac hx λ tp zh1 zh2=>?_;clear hx;obtain rfl:=zh1;obtain rfl:=zh2
  have hmem:pq∈G.pr n:=e2▸List.mem_append_right _ (.head _)
  obtain ⟨pu,pv⟩:=pq
  refine aV (hw _ hmem) λ a attrs zh1 ha hwt=>?_;obtain rfl:=zh1
  refine aU (jl (hdep _ hmem)) λ de hde hdv hdc=>?_
  obtain ⟨Z,hZ⟩:∃ Z,Z = [(L,AObj.frame m1),(L + 1,.cell (some (.ref G.a.net))),(L + 2,.cell (some (.str "weight" 0))),(L + 3,.cell (some (.int bare 0))),(L + 4,.cell (some (.ref D))),(D,.idict (ci dd))]++(fy dd++(o++(rho prog w G iv ivd c2++((Dl,.list ws) :: (149,bg) :: (an 93 qL es++(c7 us++μ)))))):=⟨_,rfl⟩
  have z1:(de.t,AObj.tup [.int de.c 0,.int de.u 0])∈Z:=hZ▸List.mem_append_right _ (List.mem_append_left _ (List.mem_map.mpr (ad de hde rfl)))
  have z2:(a,AObj.sdict attrs)∈Z:=hZ▸List.mem_append_right _ (List.mem_append_right _ (List.mem_append_left _ ha))
  have z3:(G.a.net,AObj.inst 951 G.a.d)∈Z:=hZ▸List.mem_append_right _ (List.mem_append_right _ (List.mem_append_right _ (List.mem_append_left _ (FF.g1 c2))))
  have z4:(G.a.d,ndict prog w true (kvC G iv c2))∈Z:=hZ▸List.mem_append_right _ (List.mem_append_right _ (List.mem_append_right _ (List.mem_append_left _ (FF.g2 c2))))
  have y1:(L + 1,AObj.cell (some (.ref G.a.net)))∈Z:=hZ▸List.mem_append_left _ (.tail _ (.head _))
  have y2:(L + 2,AObj.cell (some (.str "weight" 0)))∈Z:=hZ▸List.mem_append_left _ (.tail _ (.tail _ (.head _)))
  have y3:(L + 3,AObj.cell (some (.int bare 0)))∈Z:=hZ▸List.mem_append_left _ (.tail _ (.tail _ (.tail _ (.head _))))
  have y4:(L + 4,AObj.cell (some (.ref D)))∈Z:=hZ▸List.mem_append_left _ (.tail _ (.tail _ (.tail _ (.tail _ (.head _)))))
  have yD:(D,AObj.idict (ci dd))∈Z:=hZ▸List.mem_append_left _ (.tail _ (.tail _ (.tail _ (.tail _ (.tail _ (.head _))))))
  have H3:=H2.perm (σ':=(Cf,.frame mc) :: (tp,.tup [.int pu 0,.ref a]) :: Z) (by rw [hZ];unfold dlL;exact pm [[_],[_],[_],_,_,_,[_],[_],[_],[_],[_],[_],[_],_,_,_] [2,5,1,8,0,12,15,18,1,20,23,26,29,32,35,38,42,46,49] [2,8,1,20,23,26,29,32,35,0,42,48,15,5,38,45,18,13] rfl)
  have hM:∀ (x:Addr×AObj),x∈Z->∀ mc':Str->Option Value,x∈(Cf,AObj.frame mc') :: (tp,.tup [.int pu 0,.ref a]) :: Z:=λ x hx mc'=>.tail _ (.tail _ hx)
  have Rl:Rm A 5 18:=R
  refine kI R.hd H3 (by walk_at "a") (by walk_at "a") (λ v=>by walk_at "a") λ s5 H5=>hQ1 _ _ ?_
  refine i7 ?_
  rw [if_pos rfl]
  refine d6 (ab H5 (kB (a:=de.c) (b:=wt pu) (fN (cH (aq (c:=L + 4) rfl (by walk_at "a")) (aa (by walk_at "a") rfl) (by walk_at "a") hdv) aC (vs:=[.int de.c 0,.int de.u 0]) (hM _ z1 _) (by decide) rfl (by decide)) ?getv) λ a0 s₆ ea H6=>ab H6 (aa (by walk_at "a") rfl) λ b0 s7 eb H7=>ah ?tail)
  case getv=>
   intro E s H
   refine ax H (iW (aS (v:=.bool false) (λ E s H=>ax H (aq (c:=L + 1) rfl (by walk_at "a")) λ o0 s3 e₃ H₃=>by
    cases ak e₃
    exact fm X q2 H₃ (hM _ z3 _) (hM _ z4 _) (FF.k5 c2) (cw0 (aW (X.keeps H₃.keep) q9) (eH T.toTE (R.mono (by decide) (by decide)) H₃ λ s4 H₄=>⟨rfl,H₄⟩))) λ v0 e=>cf e) (aa (by walk_at "a") rfl))<|au λ s3 H₃=>?_
   have hda:=hM _ z2 (put "data" (.ref a) (put "u" (.int pu 0) mc))
   refine ac (H₃.get hda) λ kv hD zz=>?_
   refine dP hD F.slot_dict_get F.type_dict_get (cw1 (ab H₃ (aq (c:=L + 2) rfl (by walk_at "a")) λ a0 s4 ea H₄=>ab H₄ (aq (c:=L + 3) rfl (by walk_at "a")) λ b0 s5 eb H₅=>ah ⟨az,?_⟩))
   exact oX H₅ hda ea eb λ v s₆ ev H₆=>⟨by rw [ev];exact hwt,H₆⟩
  case tail=>
   refine bD H7 (ws:=[.int (de.c + wt pu) 0,.int pu 0]) (by simp [ea,eb]) (by simp) λ t' s8 H8=>?_
   refine (dO (put "data" (.ref a) (put "u" (.int pu 0) mc)) c2 _ γ' (aJ rfl (eE (us++[⟨de.c + wt pu,pu,t'⟩]) (dn++[(pu,.ref a)]) ys rfl (by rw [List.append_assoc];exact e2) (by rw [e3,List.map_append];rfl) ?_ rfl)) ?_)
   ·rw [List.map_append,e4]
    unfold usL
    rw [List.map_append,List.map_append]
    simp only [List.map_cons,List.map_nil,hdc]
   ·have H9:=W.drop (H8.pick (a:=tp) (.tail (.tail .head)))
    rw [hZ] at H9
    have e5:c7 (us++[⟨de.c + wt pu,pu,t'⟩]) = c7 us++[(t',.tup [.int (de.c + wt pu) 0,.int pu 0])]:=by unfold c7;rw [List.map_append];rfl
    refine H9.perm ?_
    rw [e5];unfold dlL
    show ((t',_) :: (Cf,_) :: _).Perm _
    exact pm [[_],[_],[_],[_],[_],[_],[_],[_],_,_,_,[_],[_],_,_,_] [2,5,1,8,11,14,17,20,23,0,27,30,33,35,38,42,45,49] [5,35,48,33,1,45,2,0,1,8,11,14,17,20,23,38,27,43,31] rfl
 ·intro Dl Cf mc ws o' γ' c2 s2 hJ
  refine ae hJ λ zh1 zh2=>?_;clear hJ;obtain rfl:=zh1;refine dQ zh2 λ us dn ys e1 e2 e3 e4 zh3=>?_;clear zh2;obtain rfl:=zh3
  intro H2
  refine eL λ Q1 hQ1=>?_
  have:ys = []:=by cases ys with | nil=>rfl | cons=>cases e1
  subst this
  rw [List.append_nil] at e2
  subst e2
  have H3:=H2.perm (σ':=(Cf,.frame mc) :: (L,.frame m1) :: (L + 1,.cell (some (.ref G.a.net))) :: (L + 2,.cell (some (.str "weight" 0))) :: (L + 3,.cell (some (.int bare 0))) :: (L + 4,.cell (some (.ref D))) :: (D,.idict (ci dd)) :: (Dl,.list ws) ::
   (c7 us++(an 93 qL es++(fy dd++((149,bg) :: (rho prog w G iv ivd c2++o)))))) (by unfold dlL;exact pm [[_],[_],_,_,[_],[_],[_],[_],[_],[_],[_],_,_,_] [2,5,9,12,1,14,17,20,23,26,29,32,36,40,43] [2,14,17,20,23,26,29,5,12,39,36,32,9,43] rfl)
  refine aG (al H3 (by walk_at "a") rfl λ s3 H4=>hQ1 _ _ (br _ _ H4 (λ s4 H5=>?_)))
  have H6:W prog w B _ os ((L,.frame (put "us" (.ref Dl) m1)) :: (L + 1,.cell (some (.ref G.a.net))) :: (L + 2,.cell (some (.str "weight" 0))) :: (L + 3,.cell (some (.int bare 0))) :: (L + 4,.cell (some (.ref D))) :: (D,.idict (ci dd)) :: (Dl,.list ws) ::
   (c7 us++(an 93 qL es++(fy dd++((149,bg) :: (rho prog w G iv ivd c2++o)))))) s4:=H5
  clear H5
  generalize hm2:put "us" (.ref Dl) m1 = m2 at H6
  have n2:m2 ("v":Str) = some (.int n 0):=by rw [← hm2];exact n1
  have n3:m2 ("us":Str) = some (.ref Dl):=by rw [← hm2];rfl
  have hlen:us.length = (G.pr n).length:=by
   have:=congrArg List.length e4
   unfold usL at this
   simpa using this
  have hws:ws.length≤100:=by rw [e3,List.length_map,hlen];exact hG.l3 n hn
  have hfin:∀ (m3:Str->Option Value) (es3:List ((Nat×Nat)×Addr)) (J:Led) (t:Addr) (c0 u0:Int) (s9:Shared),(c0,u0) = nX n (usL (cB dd) ((G.pr n).map λ p=>(p.1,wt p.1)))->m3 ("v":Str) = some (.int n 0)->m3 ("maxu":Str) = some (.ref t) ->
    W prog w B γ' os ((L,.frame m3) :: (L + 1,.cell (some (.ref G.a.net))) :: (L + 2,.cell (some (.str "weight" 0))) :: (L + 3,.cell (some (.int bare 0))) :: (L + 4,.cell (some (.ref D))) :: (D,.idict (ci dd)) :: (t,.tup [.int c0 0,.int u0 0]) ::
     (J++(an 93 qL es3++(fy dd++((149,bg) :: (rho prog w G iv ivd c2++o)))))) s9->∀ E,wpAny (model prog w) A (execs ((x96 w.params).1.body.drop 2) (e96 w.params L)) (λ fl s3=>(fl = .next∨fl = .cont)∧Q s3) E s9:=by
   intro m3 es3 J t c0 u0 s9 hcu k1 k2 H9 E
   refine lZ hfr hz k1 k2 H9 λ t' s10 H10=>?_
   have hds:cF ((G.pr n).map λ p=>(p.1,wt p.1)) (cB dd) n = (if c0 ≥ 0 then (c0,u0) else (0,n)):=by
    unfold cF;rw [← hcu]
   refine h c2 m3 es3 t' s10 ?_
   rw [hds]
   refine (H10.perm ?_).sub (List.sublist_append_right J _)
   have k3:∀ a b,ci (dd++[⟨n,a,b,t'⟩]) = ci dd++[(n,.ref t')]:=λ a b=>by unfold ci;rw [List.map_append];rfl
   have k4:∀ a b,fy (dd++[⟨n,a,b,t'⟩]) = fy dd++[(t',.tup [.int a 0,.int b 0])]:=λ a b=>by unfold fy;rw [List.map_append];rfl
   unfold dlL
   rw [k3,k4]
   exact pm [[_],[_],[_],[_],[_],[_],[_],_,_,_,[_],_,_] [2,5,8,11,14,17,20,24,27,30,32,36,40] [24,36,1,2,5,8,11,14,17,32,1,30,20,0,28,40] rfl
  refine aB (rP H6 (b:=!ws.isEmpty) (aS (aa (by walk_at "a") (by exact n3)) λ v0 e=>gb (by walk_at "a") e (by walk_at "r")) (λ hb s5 H7=>?ne) (λ hb s5 H7=>?em))
  case em=>
   have hus:us = []:=by
    cases us with
    | nil=>rfl
    | cons=>rw [e3] at hb;cases hb
   refine d6 (ab H7 aC λ a0 s₆ ea H8=>ab H8 (aa (by walk_at "a") (by exact n2)) λ b0 s7 eb H9=>ah ?_)
   refine bD H9 (ws:=[.int 0 0,.int n 0]) (by simp [ea,eb]) (by simp) λ t s8 H10=>?_
   refine al H10 (by walk_at "a") rfl λ s9 H11=>?_
   refine hfin (put "maxu" (.ref t) m2) es ((Dl,.list ws) :: c7 us) t 0 n s9 ?_ n2 rfl (H11.perm ?_) _
   ·rw [hus] at e4
    rw [← e4];rfl
   ·show ((t,_) :: (L,_) :: (L + 1,_) :: (L + 2,_) :: (L + 3,_) :: (L + 4,_) :: (D,_) :: _).Perm _
    exact cV (H:=[_,_,_,_,_,_]) rfl rfl
  case ne=>
   cases us with
   | nil=>rw [e3] at hb;cases hb
   | cons ux us=>
   refine ic H7 (T.toTE.boot (x:="max") (v:=.builtin "max") (by decide)) λ s₆ H8=>?_
   refine (aa (by walk_at "a") (by exact n3)).use H8<|au λ s7 H9=>?_
   have H10:=H9.perm (σ':=an 93 qL es++((L,.frame m2) :: (L + 1,.cell (some (.ref G.a.net))) :: (L + 2,.cell (some (.str "weight" 0))) :: (L + 3,.cell (some (.int bare 0))) :: (L + 4,.cell (some (.ref D))) :: (D,.idict (ci dd)) :: (Dl,.list ws) ::
    (c7 (ux :: us)++(fy dd++((149,bg) :: (rho prog w G iv ivd c2++o)))))) (by
     show ((L,_) :: (L + 1,_) :: (L + 2,_) :: (L + 3,_) :: (L + 4,_) :: (D,_) :: (Dl,_) :: _).Perm _
     exact pm [[_],[_],[_],[_],[_],[_],[_],_,_,_,[_],_,_] [2,5,8,11,14,17,20,24,27,30,32,36,40] [27,2,5,8,11,14,17,20,24,30,32,36,40] rfl)
   refine pD T X (r7 _) H10 rfl rfl rfl λ F c' es' s8 LA hLA hc' H11=>?_
   refine qt (B:=B) (os:=os) (γo:=γ') (α:=UE) (val:=λ e=>.ref e.t) (kf:=λ e=>e.c) (x:=ux) (xs:=us) (ρ:=λ _:Unit=>[(Dl,.list ws)]) (d:=3) (u:=10)
    (o:=(L,.frame m2) :: (L + 1,.cell (some (.ref G.a.net))) :: (L + 2,.cell (some (.str "weight" 0))) :: (L + 3,.cell (some (.int bare 0))) :: (L + 4,.cell (some (.ref D))) :: (D,.idict (ci dd)) ::
     (c7 (ux :: us)++((F,LA) :: (an 93 qL es'++(fy dd++((149,bg) :: (rho prog w G iv ivd c2++o))))))) (R.mono (by decide) (by decide)) ?key ?it ?hq
   case key=>
    intro y hy x₀ γ c3 σ' ex hσ E s H
    cases ak ex
    have hF:(F,LA)∈σ':=hσ _ (.tail _ (.tail _ (.tail _ (.tail _ (.tail _ (.tail _ (.tail _ (List.mem_append_right _ (.head _)))))))))
    rw [hLA] at hF
    have hcm:(c',jR qL)∈σ':=hσ _ (.tail _ (.tail _ (.tail _ (.tail _ (.tail _ (.tail _ (.tail _ (List.mem_append_right _ (.tail _ (List.mem_append_left _ hc'))))))))))
    have hy':(y.t,AObj.tup [.int y.c 0,.int y.u 0])∈σ':=hσ _ (.tail _ (.tail _ (.tail _ (.tail _ (.tail _ (.tail _ (.tail _ (List.mem_append_left _ (List.mem_map.mpr (ad y hy rfl))))))))))
    refine iD (args:=⟨[_],[]⟩) (binds:=[("x",.ref y.t)]) (d:=2) (u:=7) H (R.in1.mono (by decide) (by decide)) T.lim hF hcm (λ _ _=>rfl) λ E' L' s' H' R'=>?_
    exact (fN (aa (.head _) rfl) aC (vs:=[.int y.c 0,.int y.u 0]) (.tail _ hy') (by decide) rfl (by decide)).use H' λ v s'' e H''=>⟨e,H''.drop⟩
   case it=>
    have H12:=H11.perm (σ':=(Dl,.list ws) :: ((L,.frame m2) :: (L + 1,.cell (some (.ref G.a.net))) :: (L + 2,.cell (some (.str "weight" 0))) :: (L + 3,.cell (some (.int bare 0))) :: (L + 4,.cell (some (.ref D))) :: (D,.idict (ci dd)) ::
     (c7 (ux :: us)++((F,LA) :: (an 93 qL es'++(fy dd++((149,bg) :: (rho prog w G iv ivd c2++o)))))))) (by exact pm [[_],_,[_],[_],[_],[_],[_],[_],[_],_,_,[_],_,_] [2,6,8,11,14,17,20,23,26,30,33,35,39,43] [26,8,11,14,17,20,23,30,2,6,33,35,39,43] rfl)
    refine dw H12 (.head _) λ I s9 H13=>(dO I [(I,a7 Dl 0)] [] () rfl (aJ ?_ H13))
    have hG2:=bG (w:=w) (B:=B) (os:=os) (ρ:=λ _:Unit=>[(Dl,AObj.list ws)]) (tg:=aM) (d:=3) (u:=10) (I:=I) (l:=Dl) (λ _=>.head _) ws 0 rfl
    rw [e3,List.map_map] at hG2
    rw [e3]
    exact hG2
   case hq=>
    intro b0 c3 s9 eb H12
    cases ak eb
    have hmem:=ct (λ e:UE=>e.c) us ux
    generalize hbb:ba (λ e:UE=>e.c) ux us = ub at hmem H12
    refine c6 (List.append_of_mem hmem) λ l1 l2 hl=>?_
    have hul:c7 (ux :: us) = c7 l1++(ub.t,.tup [.int ub.c 0,.int ub.u 0]) :: c7 l2:=by rw [hl];unfold c7;rw [List.map_append];rfl
    have H13:=H12.perm (σ':=(L,.frame m2) :: (L + 1,.cell (some (.ref G.a.net))) :: (L + 2,.cell (some (.str "weight" 0))) :: (L + 3,.cell (some (.int bare 0))) :: (L + 4,.cell (some (.ref D))) :: (D,.idict (ci dd)) :: (ub.t,.tup [.int ub.c 0,.int ub.u 0]) ::
     (((F,LA) :: (Dl,.list ws) :: (c7 l1++c7 l2))++(an 93 qL es'++(fy dd++((149,bg) :: (rho prog w G iv ivd c2++o)))))) (by rw [hul];exact pm [[_],[_],[_],[_],[_],[_],[_],_,[_],_,[_],_,_,[_],_,_] [1,2,0,5,8,11,14,17,20,1,24,26,31,32,36,39,41,45,49] [5,8,11,14,17,20,26,1,32,2,24,31,36,39,41,45,49] rfl)
    refine al H13 (by walk_at "a") rfl λ s10 H14=>?_
    refine hfin (put "maxu" (.ref ub.t) m2) es' _ ub.t ub.c ub.u s10 ?_ n2 rfl H14 _
    rw [← e4,← hbb]
    show _ = ba _ _ (us.map _)
    rw [dF (λ e:UE=>(e.c,e.u))]
inductive Chain (dd:List DE):Int->List Int->Prop
 | stop {e}:e∈dd->e.u = e.v->Chain dd e.v [e.v]
 | next {e p}:e∈dd->e.u≠e.v->Chain dd e.u p->Chain dd e.v (e.v :: p)
theorem Chain.inv {dd:List DE} {v:Int} {p:List Int} (h:Chain dd v p):∃ e∈dd,e.v = v∧∃ r,p = v :: r∧((r = []∧e.u = v)∨(e.u≠v∧Chain dd e.u r)):=by
 cases h with
 | @stop e he hu=>exact (bl e he rfl (ad [] rfl (.inl ⟨rfl,hu⟩)))
 | @next e p he hu hc=>exact (bl e he rfl (ad p rfl (.inr ⟨hu,hc⟩)))
theorem lD {l:List Int} {x:Int}:af (l++[x]) = af l++[.int x 0]:=by unfold af;rw [List.map_append];rfl
theorem fo {l:List Int}:(af l).length = l.length:=by unfold af;rw [List.length_map]
theorem hH {l:List Int}:(af l).reverse = af l.reverse:=by unfold af;rw [List.map_reverse]
theorem cY {dd:List DE} (hn:(dd.map (·.v)).Nodup) {e:DE} (he:e∈dd):valueAt (ci dd) e.v = some (.ref e.t):=by
 have h1:((ci dd).map (·.1)).Nodup:=by
  have:(ci dd).map (·.1) = dd.map (·.v):=by unfold ci;rw [List.map_map];rfl
  rw [this];exact hn
 exact gk h1 (p:=(e.v,.ref e.t)) (List.mem_map.mpr (ad e he rfl))
theorem W.toE {a:Addr} {kvs:List (Int×Value)} (H:W prog w B g os σ s) (u:Up a (.idict kvs) σ f):∃ ep,W prog w B g os (f (.idictE kvs ep)) s:=by
 refine ac (H.get u.mem) λ kvs0 zh1 e=>?_;refine cw zh1 λ o es ep r=>?_;clear zh1
 exact ⟨ep,H.chg u λ _=>(ad kvs0 (c8 o es r) e)⟩
theorem l7 {test:Expr} {body rest:List Stmt} {pos:Pos} {Q:Flow->Shared->Prop} (I:Nat->Shared->Prop) (Dn:Shared->Prop) (n:Nat) (h:I n s)
  (turn:∀ n s E,I n s->wpAny (model prog w) A (isTrue test env (eval test env)) (λ b s2=>if b = true then wpAny (model prog w) A (execs body env) (λ f s3=>(f = .next∨f = .cont)∧∃ m,m < n∧I m s3) E s2 else Dn s2) E s)
  (done:∀ s,Dn s->wpAny (model prog w) A (execs rest env) Q E s):wpAny (model prog w) A (execs (.While test body [] pos :: rest) env) Q E s:=by
 refine wpAny_execs_cons (wpAny_While (codeAny_whileLoop I (λ n s hI=>?_) n h))
 refine wpAny_mono (turn n s _ hI) (λ b s2 h2=>?_) λ _ _ e=>e
 cases b with
 | true=>
  simp only [if_true] at h2 ⊢
  refine wpAny_mono h2 (λ f s3 h3=>?_) λ _ _ e=>e
  revert h3;refine λ zq=>ae zq λ hf h3=>?_;clear zq
  rcases hf with rfl | rfl <;> exact h3
 | false=>
  simp only [Bool.false_eq_true,if_false] at h2 ⊢
  exact ay (done s2 h2)
theorem mU {L D net:Addr} {bare:Int} {m:Str->Option Value} {d0:DE} {ds:List DE} {es:List ((Nat×Nat)×Addr)} {X:Led} {p:List Int} (T:TX w B mg mb) (R:Rm A 4 14) (hn:((d0 :: ds).map (·.v)).Nodup) (hz:(d0 :: ds).length≤100) (hp:p.length≤100)
  (hch:Chain (d0 :: ds) (ba (λ e:DE=>e.c) d0 ds).v p)
  (H:W prog w B g os (dlL L D net bare m (d0 :: ds) es++X) s) (h:∀ P es' s',W prog w B g os ((P,.list (af p.reverse)) :: (an 93 qL es'++((149,bg) :: X))) s'->Q (.ref P) s') :
  wpAny (model prog w) A (execs (x96 w.params).1.rest (e96 w.params L)) (λ f s''=>Q (match f with | .ret v=>v | _=>.none) s'') E s:=by
 have X':=T.X
 dsimp only [x96,e96,f96,b96]
 generalize hdd:(d0 :: ds) = dd at *
 have H0:W prog w B g os ((L,.frame m) :: (L + 1,.cell (some (.ref net))) :: (L + 2,.cell (some (.str "weight" 0))) :: (L + 3,.cell (some (.int bare 0))) :: (L + 4,.cell (some (.ref D))) :: (D,.idict (ci dd)) :: (fy dd++(an 93 qL es++((149,bg) :: X)))) s:=H.perm (by unfold dlL;exact pm [[_],[_],[_],[_],[_],[_],[_],_,_,_] [1,2,5,8,11,14,17,20,24,28,31] [2,5,8,11,14,17,24,27,20,31] rfl)
 refine ai (H0.toE (a:=D) (.tail (.tail (.tail (.tail (.tail .head)))))) λ ep H1=>?_
 refine bh H1 bH (by walk_at "a") λ s2 H2=>?_
 have H3:=H2.perm (σ':=an 93 qL es++((L,.frame (put "u" .none m)) :: (L + 1,.cell (some (.ref net))) :: (L + 2,.cell (some (.str "weight" 0))) :: (L + 3,.cell (some (.int bare 0))) :: (L + 4,.cell (some (.ref D))) :: (D,.idictE (ci dd) ep) :: (fy dd++((149,bg) :: X)))) (by
  show ((L,_) :: (L + 1,_) :: (L + 2,_) :: (L + 3,_) :: (L + 4,_) :: (D,_) :: _).Perm _
  exact pm [[_],[_],[_],[_],[_],[_],_,_,[_],_] [2,5,8,11,14,17,21,24,26,31] [24,2,5,8,11,14,17,21,26,31] rfl)
 refine aB (ic H3 (T.toTE.boot (x:="max") (v:=.builtin "max") (by decide)) λ s3 H4=>?_)
 refine (aq (c:=L + 4) rfl (by walk_at "a")).use H4<|au λ s4 H5=>?_
 refine pD T X' (r7 _) H5 rfl rfl rfl λ F c' es' s5 LA hLA hc' H6=>?_
 refine qt (B:=B) (os:=os) (γo:=g) (α:=DE) (val:=λ e=>.int e.v 0) (kf:=λ e=>e.c) (x:=d0) (xs:=ds) (ρ:=λ _:Unit=>[(D,.idictE (ci dd) ep)]) (d:=3) (u:=10)
  (o:=(L,.frame (put "u" .none m)) :: (L + 1,.cell (some (.ref net))) :: (L + 2,.cell (some (.str "weight" 0))) :: (L + 3,.cell (some (.int bare 0))) :: (L + 4,.cell (some (.ref D))) :: (F,LA) :: (fy dd++(an 93 qL es'++((149,bg) :: X)))) (R.mono (by decide) (by decide)) ?key ?it ?hq
 case key=>
  intro y hy x₀ γ c3 σ' ex hσ E s H
  refine ai (ap ex) λ tk zh1=>?_;obtain rfl:=zh1
  rw [hdd] at hy
  have hF:(F,LA)∈σ':=hσ _ (.tail _ (.tail _ (.tail _ (.tail _ (.tail _ (.tail _ (.head _)))))))
  have hcd:(L + 4,AObj.cell (some (.ref D)))∈σ':=hσ _ (.tail _ (.tail _ (.tail _ (.tail _ (.tail _ (.head _))))))
  have hD:(D,AObj.idictE (ci dd) ep)∈σ':=hσ _ (.head _)
  have hcm:(c',jR qL)∈σ':=hσ _ (.tail _ (.tail _ (.tail _ (.tail _ (.tail _ (.tail _ (.tail _ (List.mem_append_right _ (List.mem_append_left _ hc')))))))))
  have hy':(y.t,AObj.tup [.int y.c 0,.int y.u 0])∈σ':=hσ _ (.tail _ (.tail _ (.tail _ (.tail _ (.tail _ (.tail _ (.tail _ (List.mem_append_left _ (List.mem_map.mpr (ad y hy rfl))))))))))
  rw [hLA] at hF
  refine iD (args:=⟨[_],[]⟩) (binds:=[("x",.int y.v tk)]) (d:=2) (u:=7) H (R.in1.mono (by decide) (by decide)) T.lim hF hcm (λ _ _=>rfl) λ E' L' s' H' R'=>?_
  exact (fN (ga (js (c:=L + 4) rfl (.tail _ hcd)) (aa (.head _) rfl) (.tail _ hD) (cY hn hy)) aC (vs:=[.int y.c 0,.int y.u 0]) (.tail _ hy') (by decide) rfl (by decide)).use H' λ v s'' e H''=>⟨e,H''.drop⟩
 case it=>
  have H12:=H6.perm (σ':=(D,.idictE (ci dd) ep) :: ((L,.frame (put "u" .none m)) :: (L + 1,.cell (some (.ref net))) :: (L + 2,.cell (some (.str "weight" 0))) :: (L + 3,.cell (some (.int bare 0))) :: (L + 4,.cell (some (.ref D))) :: (F,LA) :: (fy dd++(an 93 qL es'++((149,bg) :: X))))) (by exact pm [[_],_,[_],[_],[_],[_],[_],[_],_,[_],_] [2,6,8,11,14,17,20,23,27,29,34] [23,8,11,14,17,20,2,27,6,29,34] rfl)
  refine iB H12 (.head _) λ I s9 H13=>(dO I [(I,cM D 0 (ci dd).length ep)] [] () rfl (aJ ?_ H13))
  have hG2:=cy (w:=w) (B:=B) (os:=os) (ρ:=λ _:Unit=>[(D,AObj.idictE (ci dd) ep)]) (tg:=aM) (d:=3) (u:=10) (I:=I) (l:=D) (λ _=>.head _) _ 0 rfl
  have e9:(ci dd).map (λ x=>one (.int x.1 0)) = (d0 :: ds).map λ e=>one (.int e.v 0):=by rw [hdd];unfold ci;rw [List.map_map];rfl
  rw [← e9];exact hG2
 case hq=>
  intro b0 c3 s₆ eb H7
  obtain ⟨ω,hω⟩:∃ k,k = (L + 1,AObj.cell (some (.ref net))) :: (L + 2,.cell (some (.str "weight" 0))) :: (L + 3,.cell (some (.int bare 0))) :: (L + 4,.cell (some (.ref D))) :: (D,.idictE (ci dd) ep) :: (F,LA) :: (fy dd++(an 93 qL es'++((149,bg) :: X))):=⟨_,rfl⟩
  have zc:(L + 4,AObj.cell (some (.ref D)))∈ω:=by rw [hω];walk_at "a"
  have zD:(D,AObj.idictE (ci dd) ep)∈ω:=by rw [hω];walk_at "a"
  have zt:∀ x∈fy dd,x∈ω:=λ x hx=>by rw [hω];exact .tail _ (.tail _ (.tail _ (.tail _ (.tail _ (.tail _ (List.mem_append_left _ hx))))))
  have H8:=H7.perm (σ':=(L,.frame (put "u" .none m)) :: ω) (by rw [hω];exact pm [[_],[_],[_],[_],[_],[_],[_],_,_,[_],_] [1,2,0,5,8,11,14,17,20,24,27,29,34] [5,8,11,14,17,2,20,24,27,29,34] rfl)
  refine al H8 (by walk_at "a") eb λ s7 H9=>?_
  refine aB (i8 (ah (du H9 (ws:=[]) rfl (Nat.zero_le _) λ P s8 H10=>al H10 (by walk_at "a") rfl λ s9 H11=>?_)))
  generalize hv0:(ba (λ e:DE=>e.c) d0 ds).v = v0 at *
  refine l7 (λ n s=>∃ m pth rem uu v,W prog w B g os ((P,.list (af pth)) :: (L,.frame m) :: ω) s ∧
    m ("u":Str) = some uu∧m ("v":Str) = some (.int v 0)∧m ("path":Str) = some (.ref P)∧pth++rem = p∧n = rem.length∧((rem = []∧uu = .int v 0)∨(Chain dd v rem∧(uu = .none∨∃ u,uu = .int u 0∧u≠v))))
   (λ s=>∃ m,W prog w B g os ((P,.list (af p)) :: (L,.frame m) :: ω) s∧m ("path":Str) = some (.ref P))
   p.length (gA _ [] p .none v0 H11 rfl rfl (aQ rfl rfl (aJ rfl (.inr ⟨hch,.inl rfl⟩)))) ?turn ?done
  case turn=>
   intro n s E hJ
   refine eL λ Q1 hQ1=>?_
   refine gw hJ λ m pth rem uu v H k1 k2 zk0=>?_;refine bP zk0 λ k3 hpr zk1=>?_;clear zk0;refine ae zk1 λ zh1 zh2=>?_;clear zk1;clear hJ;obtain rfl:=zh1;obtain (⟨rfl,rfl⟩ | ⟨hc,hu⟩):=zh2
   ·refine (aT (aa (by walk_at "a") (by exact k1)) (aa (by walk_at "a") (by exact k2)) λ a0 b0 ea eb=>qc ea eb).use H λ s2 H'=>hQ1 _ _ ?_
    have hvv:(v != v) = false:=by simp
    rw [hvv,if_neg Bool.false_ne_true]
    rw [List.append_nil] at hpr
    subst hpr
    exact (ad m H' k3)
   ·have key:Gb prog w A B g os ((P,AObj.list (af pth)) :: (L,.frame m) :: ω)
      (isTrue (.Compare (.Name "u" ⟨58,10,58,11⟩) [.NotEq] [.Name "v" ⟨58,15,58,16⟩] ⟨58,10,58,16⟩) (e96 w.params L) (eval (.Compare (.Name "u" ⟨58,10,58,11⟩) [.NotEq] [.Name "v" ⟨58,15,58,16⟩] ⟨58,10,58,16⟩) (e96 w.params L))) true:=by
     dsimp only [e96,f96]
     rcases hu with rfl | ⟨u,rfl,hne⟩
     ·exact aT (aa (by walk_at "a") (by exact k1)) (aa (by walk_at "a") (by exact k2)) λ a0 b0 ea eb=>gv ea eb
     ·have h1:true = (u != v):=by simp [hne]
      rw [h1]
      exact aT (aa (by walk_at "a") (by exact k1)) (aa (by walk_at "a") (by exact k2)) λ a0 b0 ea eb=>qc ea eb
    refine key.use H λ s2 H1=>hQ1 _ _ ?_
    rw [if_pos rfl]
    refine aU hc.inv λ e he zh1 zh2=>?_;obtain rfl:=zh1;refine ac zh2 λ r zh3 hr=>?_;clear zh2;obtain rfl:=zh3
    have hpl:pth.length≤100:=by
     have:=congrArg List.length hpr
     rw [List.length_append] at this;walk_at "r"
    refine cQ (ax H1 (aa (by walk_at "a") (by exact k3))<|au λ s3 H2=>?_)
    refine ac (H2.get (show (P,AObj.list (af pth))∈_ by walk_at "a")) λ items hl zz=>?_
    refine ie hl PySem.slot_list_append PySem.type_list_append (cw1 (ab H2 (aa (by walk_at "a") (by exact k2)) λ a0 s4 ea H3=>ah ⟨az,?_⟩))
    refine j2 H3 (by walk_at "a") ea (by rw [fo];walk_at "r") λ s5 H4=>⟨rfl,?_⟩
    refine bh H4 (aa (by walk_at "a") (by exact k2)) (by walk_at "a") λ s₆ H5=>?_
    have he':(e.t,AObj.tup [.int e.c 0,.int e.u 0])∈ω:=zt _ (List.mem_map.mpr (ad e he rfl))
    refine bh H5 (fN (k:=1) (ga (aq (c:=L + 4) rfl (by walk_at "a")) (aa (by walk_at "a") (by exact k2)) (by walk_at "a") (cY hn he)) aC (vs:=[.int e.c 0,.int e.u 0]) (.tail _ (.tail _ he')) (by decide) rfl (by decide)) (by walk_at "a") λ s7 H6=>ay (aJ (.inl rfl) (ad r.length (Nat.lt_succ_self _) (gA (put "v" (.int e.u 0) (put "u" (.int e.v 0) m)) (pth++[e.v]) r (.int e.v 0) e.u ?_ rfl rfl (aQ ?_ (by rw [List.append_assoc];exact hpr) (aJ rfl ?_)))))
    ·rw [lD];exact H6
    ·exact k3
    ·rcases hr with ⟨rfl,hu⟩ | ⟨hu,hc'⟩
     ·exact .inl ⟨rfl,by rw [hu]⟩
     ·exact .inr ⟨hc',.inr (ad e.v rfl (λ q=>hu q.symm))⟩
  case done=>
   intro s zr;refine ac zr λ m H k3=>?_;clear zr
   refine cQ (ax H (aa (by walk_at "a") (by exact k3))<|au λ s3 H2=>?_)
   refine ac (H2.get (show (P,AObj.list (af p))∈_ by walk_at "a")) λ items hl zz=>?_
   refine ie hl PySem.F.slot_list_reverse PySem.F.type_list_reverse (cw0 az ?_)
   refine md H2 (by walk_at "a") (by rw [fo];walk_at "r") λ s4 H3=>⟨rfl,?_⟩
   refine gr H3 (aa (by walk_at "a") (by exact k3))<|au λ s5 H4=>?_
   rw [hH] at H4
   refine h P es' s5 ?_
   rw [hω] at H4
   refine (H4.perm (σ':=((L,.frame m) :: (L + 1,.cell (some (.ref net))) :: (L + 2,.cell (some (.str "weight" 0))) :: (L + 3,.cell (some (.int bare 0))) :: (L + 4,.cell (some (.ref D))) :: (D,.idictE (ci dd) ep) :: (F,LA) :: fy dd)++((P,.list (af p.reverse)) :: (an 93 qL es'++((149,bg) :: X)))) ?_).sub (List.sublist_append_right _ _)
   exact pm [[_],[_],[_],[_],[_],[_],[_],[_],_,_,[_],_] [2,5,8,11,14,17,20,23,27,30,32,37] [1,5,8,11,14,17,20,23,28,2,30,32,37] rfl
inductive ChainP (dp:List (Int×Int×Int)):Int->List Int->Prop
 | stop {e}:e∈dp->e.2.2 = e.1->ChainP dp e.1 [e.1]
 | next {e p}:e∈dp->e.2.2≠e.1->ChainP dp e.2.2 p->ChainP dp e.1 (e.1 :: p)
theorem ChainP.chain {dd:List DE} {v:Int} {p:List Int} (h:ChainP (cB dd) v p):Chain dd v p:=by
 induction h with
 | stop he hu=>
  refine ac (List.mem_map.mp he) λ e1 he1 zh1=>?_;obtain rfl:=zh1
  exact .stop he1 hu
 | next he hu _ ih=>
  refine ac (List.mem_map.mp he) λ e1 he1 zh1=>?_;obtain rfl:=zh1
  exact .next he1 hu ih
structure WtOk (G:GG) (bare:Int) (wt:Int->Int->Int) (o:Led):Prop where
 w:∀ n∈G.ns,∀ p∈G.pr n,∃ a attrs,p.2 = .ref a∧(a,AObj.sdict attrs)∈o∧(valueAt attrs "weight").getD (.int bare 0) = .int (wt p.1 n) 0
 nd:∀ n∈G.ns,((G.pr n).map (·.1)).Nodup
noncomputable def prw (G:GG) (wt:Int->Int->Int) (n:Int):List (Int×Int):=(G.pr n).map λ p=>(p.1,wt p.1 n)
theorem WtOk.mono {G:GG} {bare:Int} {wt:Int->Int->Int} {o o':Led} (W:WtOk G bare wt o) (h:∀ p∈o,p∈o'):WtOk G bare wt o' :=
 ⟨λ n hn p hp=>let ⟨a,at_,h1,h2,h3⟩:=W.w n hn p hp;(bc a at_ h1 (h _ h2) h3),W.nd⟩
theorem jv {G:GG} (hG:G.Ok) {iv ivd L D I:Addr} {bare:Int} {wt:Int->Int->Int} {o ext:Led} {d u:Nat} {dpF:List (Int×Int×Int)} {Rs:Result->Shared->Prop} (T:TX w B mg mb) (R:Rm A 5 21) (hdu:Rm A d u) (hW:WtOk G bare wt o)
  {γo:c9} (hend:∀ c dd m es s',cB dd = dpF->W prog w B γo os ((rho prog w G iv ivd c++ext)++(dlL L D G.a.net bare m dd es++o)) s'->Rs (.ok .next) s') :
  ∀ (order:List Int) (μ:Led) (γ:c9) (c:OA) (dd:List DE) (m:Str->Option Value) (es:List ((Nat×Nat)×Addr)) (s:Shared),(∀ n∈order,n∈G.ns)->DPath (prw G wt) (cB dd) order dpF->dd.length + order.length≤100 ->
   bV prog w B os (λ c=>rho prog w G iv ivd c++ext) aM d u I (order.map kA) μ γ->W prog w B (γ++γo) os (μ++((rho prog w G iv ivd c++ext)++(dlL L D G.a.net bare m dd es++o))) s ->
   codeAny (model prog w) A (.forLoop (x96 w.params).1.target (.ref I) (x96 w.params).1.body [] (e96 w.params L)) Rs s:=by
 intro order μ γ c dd m es s hsub hD hz Gv H
 refine fQ (C:=OA) (ρ:=λ c=>rho prog w G iv ivd c++ext) (B:=B) (os:=os) (λ xs o' γ'=>γ' = γo∧∃ ys dd m es,xs = ys.map kA∧(∀ n∈ys,n∈G.ns)∧DPath (prw G wt) (cB dd) ys dpF∧dd.length + ys.length≤100∧o' = dlL L D G.a.net bare m dd es++o)
  trivial hdu ?_ ?_ _ μ γ c _ γo s Gv (aJ rfl (fw order dd m es rfl hsub hD hz rfl)) H
 ·intro x xs μ γ o' γ' c v ν s E' zr;refine ae zr λ zh1 zh2=>?_;clear zr;obtain rfl:=zh1;refine cx zh2 λ ys dd m es e1 hsub hD hz zh3=>?_;clear zh2;obtain rfl:=zh3;intro hx H
  cases ys with
  | nil=>cases e1
  | cons n ys=>
  refine ae (List.cons.inj e1) λ zh1 zh2=>?_;obtain rfl:=zh1;obtain rfl:=zh2
  refine ae hx λ ev zh1=>?_;clear hx;obtain rfl:=zh1
  have hn:=hsub n (.head _)
  cases hD with
  | cons h1 h2 h3=>
  have hz':dd.length + (ys.length + 1)≤100:=hz
  refine kr (dd:=dd) (es:=es) (L:=L) (D:=D) (bare:=bare) (c:=c) (m:=m) (wt:=λ u=>wt u n) (o:=o++(ext++μ)) hG T (R.mono (by decide) (by decide)) hn (hW.nd n hn) (λ p hp=>?_) (λ p hp=>?_) (λ e he=>?_) (by walk_at "r") (H.perm (by exact pm [_,_,_,_,_] [1,0,3,1,6,10,12,16] [6,12,15,9,4] rfl)) ev λ c' m' es' t s' H'=>?_
  ·refine aV (hW.w n hn p hp) λ a at_ q1 q2 q3=>?_
   exact (bc a at_ q1 (List.mem_append_left _ q2) q3)
  ·refine ac (h1 (p.1,wt p.1 n) (List.mem_map.mpr ⟨p,hp,rfl⟩)) λ e he q=>?_
   refine ac (List.mem_map.mp he) λ e' he' zh1=>?_;obtain rfl:=zh1
   exact (ad e' he' q)
  ·exact h2 _ (List.mem_map.mpr (ad e he rfl))
  ·refine (cc c' _ γ' (aJ rfl (fw ys (dd++[⟨n,(cF ((G.pr n).map λ p=>(p.1,wt p.1 n)) (cB dd) n).1,(cF ((G.pr n).map λ p=>(p.1,wt p.1 n)) (cB dd) n).2,t⟩]) m' es' rfl (λ n hn=>hsub n (.tail _ hn)) ?_ ?_ rfl)) (H'.perm ?_))
   ·unfold cB
    rw [List.map_append]
    exact h3
   ·rw [List.length_append];show dd.length + 1 + ys.length≤100;walk_at "r"
   ·exact pm [_,_,_,_,_] [3,6,9,12,16] [15,1,3,13,6,10] rfl
 ·intro o' γ' c s zr;refine ae zr λ zh1 zh2=>?_;clear zr;obtain rfl:=zh1;refine cx zh2 λ ys dd m es e1 hsub hD hz zh3=>?_;clear zh2;obtain rfl:=zh3;intro H
  have:ys = []:=by cases ys with | nil=>rfl | cons=>cases e1
  subst this
  cases hD
  exact hend c dd m es s rfl H
theorem fU {pos:Pos} (H:W prog w B g os σ s) (h:∀ D s',W prog w B g os ((D,.idict []) :: σ) s'->Q (.ref D) s'):wpAny (model prog w) A (eval (.Dict [] [] pos) env) Q E s:=by
 rw [eval_Dict_empty]
 exact wpAny_bind (wpAny_standAt (mD H h))
theorem g9 {net d nd:Addr} {made:Bool} {kvs:List (Str×Value)} {ks:List (Int×Value)} {v0:Value} (T:TE w B mg mb) (R:Rm A 1 4) (hx:(net,AObj.inst 951 d)∈σ) (hd:(d,ndict prog w made kvs)∈σ)
  (hv:valueAt kvs "_node" = some (.ref nd)) (hn:(nd,AObj.idict ks)∈σ) (hz:ks.length≤1000) (e:cv v0 = .ref net):Gb prog w A B g os σ (truthy v0) (!ks.isEmpty):=by
 intro E s H
 cases ak e
 have X:=T.X
 refine mT (kGm w.params) λ _ _ _ _ k5 _ _ _ _ _ k11=>?_
 replace k11:=beq_iff_eq.mp k11
 refine cK (d7 H hx hd) λ od kvs0 I D zz zz=>?_
 refine oL (n:=ks.length) (X.keeps H.keep) I k11 k5 (by walk_at "r") (by walk_at "r") (qX T R.in1 H hx hd hv hn hz λ t s' H'=>(bl t rfl ?_ H'.tok))
 cases ks with
 | nil=>rfl
 | cons x r=>
  have h1:(((x :: r).length:Int) != 0) = true:=bne_iff_ne.mpr (by simp only [List.length_cons];walk_at "r")
  rw [h1];rfl
theorem jM {L D net:Addr} {bare:Int} {m:Str->Option Value} {dd:List DE} {es:List ((Nat×Nat)×Addr)} {Y o:Led} {p:List Int} {dpF ts:List (Int×Int×Int)} {t0:Int×Int×Int} (T:TX w B mg mb) (R:Rm A 4 14)
  (hpd:cB dd = dpF) (hdp:dpF = t0 :: ts) (hnF:(dpF.map (·.1)).Nodup) (hz:dpF.length≤100) (hC:ChainP dpF (ba (λ e:Int×Int×Int=>e.2.1) t0 ts).1 p) (hp:p.length≤100)
  (H:W prog w B g os (Y++(dlL L D net bare m dd es++o)) s) (h:∀ P es' s',W prog w B g os ((P,.list (af p.reverse)) :: (Y++(an 93 qL es'++((149,bg) :: o)))) s'->Q (.ref P) s') :
  wpAny (model prog w) A (execs (x96 w.params).1.rest (e96 w.params L)) (λ f s''=>Q (match f with | .ret v=>v | _=>.none) s'') E s:=by
 subst hpd
 cases dd with
 | nil=>cases hdp
 | cons d0 ds=>
  refine ae (List.cons.inj hdp) λ zh1 zh2=>?_;obtain rfl:=zh1;obtain rfl:=zh2
  have e1:ba (λ e:Int×Int×Int=>e.2.1) (d0.v,d0.c,d0.u) (ds.map λ e=>(e.v,e.c,e.u)) = (λ e:DE=>(e.v,e.c,e.u)) (ba (λ e:DE=>e.c) d0 ds):=dF (λ e:DE=>(e.v,e.c,e.u)) (λ e:Int×Int×Int=>e.2.1) ds d0
  rw [e1] at hC
  refine mU (X:=Y++o) T R ?_ ?_ hp hC.chain (H.perm (by exact pm [_,_,_] [3,6,10] [6,3,10] rfl)) λ P es' s' H'=>h P es' s' (H'.perm (by exact pm [[_],_,[_],_,_] [2,6,8,12,16] [2,12,6,8,16] rfl))
  ·unfold cB at hnF
   rw [List.map_map] at hnF
   exact hnF
  ·unfold cB at hz
   rw [List.length_map] at hz;exact hz
structure RunOk (G:GG) (wt:Int->Int->Int) (order:List Int) (p:List Int):Prop where
 sub:∀ n∈order,n∈G.ns
 len:order.length≤100
 run:∃ dpF t0 ts,DPath (prw G wt) [] order dpF∧dpF = t0 :: ts∧(dpF.map (·.1)).Nodup∧dpF.length≤100∧ChainP dpF (ba (λ e:Int×Int×Int=>e.2.1) t0 ts).1 p
 plen:p.length≤100
noncomputable def rI (net:Addr) (bare:Int) (m:Str->Option Value) (L:Addr):Led:=[(L,.frame m),(L + 4,.cell none),(L + 3,.cell (some (.int bare 0))),(L + 2,.cell (some (.str "weight" 0))),(L + 1,.cell (some (.ref net)))]
theorem mN {G:GG} (hG:G.Ok) {iv ivd l:Addr} {bare:Int} {wt:Int->Int->Int} {o:Led} {c:OA} {es:List ((Nat×Nat)×Addr)} {order p:List Int} {w0 b0:Value} (T:TX w B mg mb) (R:Rm A 6 24) (hW:WtOk G bare wt o) (hne:G.ns≠[])
  (hR:RunOk G wt order p) (ew:cv w0 = .str "weight" 0) (eb:cv b0 = .int bare 0)
  (H:W prog w B g os (rho prog w G iv ivd c++(an 93 qL es++((149,bg) :: (l,.list (af order)) :: o))) s)
  (h:∀ P c' es' s',W prog w B g os ((P,.list (af p.reverse)) :: (rho prog w G iv ivd c'++(an 93 qL es'++((149,bg) :: (l,.list (af order)) :: o)))) s'->Q (.ref P) s') :
  wpAny (model prog w) A (call (.ref 96) [.ref G.a.net,w0,b0,.ref l]) Q E s:=by
 have X:=T.X
 refine ai (cW ew) λ tw zh1=>?_;obtain rfl:=zh1
 refine ai (ap eb) λ tb zh1=>?_;obtain rfl:=zh1
 have FF:=dj (w:=w) hG iv ivd
 refine dQ hR.run λ dpF t0 ts hD hdp hnF hz hC=>?_
 refine aO (args:=⟨[_,_,_,_],[]⟩) (d:=5) (u:=21) (fd:=(f96 w.params).1) (body:=(b96 w.params).1) (bd:=λ _=>[("G",.ref G.a.net),("weight",.str "weight" tw),("default_weight",.int bare tb),("topo_order",.ref l)]) (cl:=λ D L=>rI G.a.net bare (frM (f96 w.params).1 [("G",.ref G.a.net),("weight",.str "weight" tw),("default_weight",.int bare tb),("topo_order",.ref l)] L 96) L) H R X T.lim ⟨(f96 w.params).2,by kernel_rfl,(b96 w.params).2⟩ (aY X rfl rfl rfl rfl rfl) rfl (λ D L=>rfl) ?_ ?_ ?_
 ·intro E' D L s2 H₂ R₂
  refine bN R₂ λ A R₂=>?_
  rw [(x96 w.params).2.1]
  generalize hm0:frM (f96 w.params).1 [("G",.ref G.a.net),("weight",.str "weight" tw),("default_weight",.int bare tb),("topo_order",.ref l)] L 96 = m0 at H₂
  have n1:m0 ("topo_order":Str) = some (.ref l):=by rw [← hm0];rfl
  have hne':true = !(G.ns.map λ n=>(n,Value.ref (G.a.nA n))).isEmpty:=by
   cases hq:G.ns with
   | nil=>exact absurd hq hne
   | cons=>rfl
  have H3:W prog w B g os ((L,.frame m0) :: (L + 4,.cell none) :: (L + 3,.cell (some (.int bare 0))) :: (L + 2,.cell (some (.str "weight" 0))) :: (L + 1,.cell (some (.ref G.a.net))) :: (rho prog w G iv ivd c++(an 93 qL es++((149,bg) :: (l,.list (af order)) :: o)))) s2:=H₂
  have hr:∀ x∈rho prog w G iv ivd c,x∈(L,AObj.frame m0) :: (L + 4,.cell none) :: (L + 3,.cell (some (.int bare 0))) :: (L + 2,.cell (some (.str "weight" 0))) :: (L + 1,.cell (some (.ref G.a.net))) :: (rho prog w G iv ivd c++(an 93 qL es++((149,bg) :: (l,.list (af order)) :: o))) :=
   λ x hx=>.tail _ (.tail _ (.tail _ (.tail _ (.tail _ (List.mem_append_left _ hx)))))
  refine d9 (b:=false) H3 (gQ (b:=true) (aS (aq (c:=L + 1) rfl (by walk_at "l")) λ v0 e=>by rw [hne'];exact g9 T.toTE (R₂.mono (by decide) (by decide)) (hr _ (FF.g1 c)) (hr _ (FF.g2 c)) (FF.k1 c) (hr _ (FF.g4 c)) (by rw [List.length_map];have:=hG.l1;walk_at "r") e)) (λ q=>by cases q) λ _ s3 H4=>ay ?_
  refine d9 (b:=false) H4 (aT (aa (by walk_at "l") (by exact n1)) bH λ a0 b0 ea eb=>by cases ak ea;exact a9 rfl eb rfl) (λ q=>by cases q) λ _ s4 H5=>ay ?_
  refine aB (fU H5 λ D s5 H6=>bJ (c:=L + 4) H6 rfl (by walk_at "l") rfl λ s₆ H7=>?_)
  replace H7:W prog w B g os ((D,.idict []) :: (L,.frame m0) :: (L + 4,.cell (some (.ref D))) :: (L + 3,.cell (some (.int bare 0))) :: (L + 2,.cell (some (.str "weight" 0))) :: (L + 1,.cell (some (.ref G.a.net))) :: (rho prog w G iv ivd c++(an 93 qL es++((149,bg) :: (l,.list (af order)) :: o)))) s₆:=H7
  refine wpAny_execs_cons (wpAny_For ((aa (m:=m0) (v:=.ref l) (by walk_at "l") (by exact n1)).use H7<|au λ s7 H8=>?_))
  refine dw H8 (show _∈[(D,_),(L,_),(L + 4,_),(L + 3,_),(L + 2,_),(L + 1,_)]++(rho prog w G iv ivd c++(an 93 qL es++((149,bg) :: (l,.list (af order)) :: o))) from List.mem_append_right _ (List.mem_append_right _ (List.mem_append_right _ (.tail _ (.head _))))) λ I s8 H9=>?_
  have Gv:=bG (w:=w) (B:=B) (os:=os) (ρ:=λ c=>rho prog w G iv ivd c++[(l,AObj.list (af order))]) (tg:=aM) (d:=5) (u:=21) (I:=I) (l:=l) (λ _=>List.mem_append_right _ (.head _)) (af order) 0 rfl
  have e9:(af order).map one = order.map kA:=by unfold af;rw [List.map_map];rfl
  rw [e9] at Gv
  refine jv (iv:=iv) (ivd:=ivd) (D:=D) (o:=o) (ext:=[(l,.list (af order))]) (d:=5) (u:=21) (dpF:=dpF) hG T R₂ R₂ hW ?_ order [(I,a7 l 0)] [] c [] m0 es s8 hR.sub hD (by have:=hR.len;simpa using this) Gv (H9.perm ?_)
  ·intro c' dd m es' s9 hpd H10
   refine jM (Y:=rho prog w G iv ivd c'++[(l,.list (af order))]) T (R₂.mono (by decide) (by decide)) hpd hdp hnF hz hC hR.plen H10 λ P es'' s' H'=>h P c' es'' s' (H'.perm (by exact pm [[_],_,[_],_,[_],_] [2,1,6,8,0,12,14,19] [2,6,12,14,8,19] rfl))
  ·have e1:fy [] = []:=rfl
   have e2:ci [] = []:=rfl
   unfold dlL
   rw [e1,e2]
   exact pm [[_],[_],[_],[_],[_],[_],[_],_,_,[_],[_],_] [2,5,8,11,14,17,20,24,27,29,32,37] [1,2,0,1,24,32,0,1,8,20,17,14,11,5,29,1,0,28,37] rfl
 ·intro D L x hx
  revert x
  exact List.forall_mem_cons.mpr ⟨.inr ⟨rfl,rfl⟩,List.forall_mem_cons.mpr ⟨.inr ⟨rfl,rfl⟩,List.forall_mem_cons.mpr ⟨.inr ⟨rfl,rfl⟩,List.forall_mem_cons.mpr ⟨.inl rfl,λ x hx=>by cases hx⟩⟩⟩⟩
 ·intro L
  show [("dist":Str),"default_weight","weight","G"].Nodup
  decide
theorem r6 (P:Params):keepIn (Z0.K P) (.ref 90) = true:=by kernel_rfl
theorem lH {G:GG} (hG:G.Ok) {iv ivd:Addr} {bare:Int} {wt:Int->Int->Int} {o:Led} {c:OA} {es:List ((Nat×Nat)×Addr)} {gs:List (List Int)} {p:List Int} {w0 b0:Value} (T:TX w B mg mb) (R:Rm A 6 24) (hW:WtOk G bare wt o) (hne:G.ns≠[])
  (hK:Kahn G.su G.ns ((G.ns.filter λ n=>decide (0 < (G.pr n).length)).map λ n=>(n,.int (G.pr n).length 0)) (G.ns.filter λ n=>(G.pr n).length == 0) gs)
  (hR:RunOk G wt gs.flatten p) (ew:cv w0 = .str "weight" 0) (eb:cv b0 = .int bare 0)
  (H:W prog w B g os (rho prog w G iv ivd c++(an 93 qL es++((149,bg) :: o))) s)
  (h:∀ P c' es' s',W prog w B g os ((P,.list (af p.reverse)) :: (rho prog w G iv ivd c'++(an 93 qL es'++((149,bg) :: o)))) s'->Q (.ref P) s') :
  wpAny (model prog w) A (call (.ref 96) [.ref G.a.net,w0,b0]) Q E s:=by
 have X:=T.X
 refine ai (cW ew) λ tw zh1=>?_;obtain rfl:=zh1
 refine ai (ap eb) λ tb zh1=>?_;obtain rfl:=zh1
 have FF:=dj (w:=w) hG iv ivd
 refine dQ hR.run λ dpF t0 ts hD hdp hnF hz hC=>?_
 refine aO (args:=⟨[_,_,_],[]⟩) (d:=5) (u:=21) (fd:=(f96 w.params).1) (body:=(b96 w.params).1) (bd:=λ _=>[("G",.ref G.a.net),("weight",.str "weight" tw),("default_weight",.int bare tb),("topo_order",.none)]) (cl:=λ D L=>rI G.a.net bare (frM (f96 w.params).1 [("G",.ref G.a.net),("weight",.str "weight" tw),("default_weight",.int bare tb),("topo_order",.none)] L 96) L) H R X T.lim ⟨(f96 w.params).2,by kernel_rfl,(b96 w.params).2⟩ (aY X rfl rfl rfl rfl rfl) rfl (λ D L=>rfl) ?_ ?_ ?_
 ·intro E' D L s2 H₂ R₂
  refine bN R₂ λ A R₂=>?_
  rw [(x96 w.params).2.1]
  generalize hm0:frM (f96 w.params).1 [("G",.ref G.a.net),("weight",.str "weight" tw),("default_weight",.int bare tb),("topo_order",.none)] L 96 = m0 at H₂
  have n1:m0 ("topo_order":Str) = some .none:=by rw [← hm0];rfl
  have hne':true = !(G.ns.map λ n=>(n,Value.ref (G.a.nA n))).isEmpty:=by
   cases hq:G.ns with
   | nil=>exact absurd hq hne
   | cons=>rfl
  have H3:W prog w B g os ((L,.frame m0) :: (L + 4,.cell none) :: (L + 3,.cell (some (.int bare 0))) :: (L + 2,.cell (some (.str "weight" 0))) :: (L + 1,.cell (some (.ref G.a.net))) :: (rho prog w G iv ivd c++(an 93 qL es++((149,bg) :: o)))) s2:=H₂
  have hr:∀ x∈rho prog w G iv ivd c,x∈(L,AObj.frame m0) :: (L + 4,.cell none) :: (L + 3,.cell (some (.int bare 0))) :: (L + 2,.cell (some (.str "weight" 0))) :: (L + 1,.cell (some (.ref G.a.net))) :: (rho prog w G iv ivd c++(an 93 qL es++((149,bg) :: o))) :=
   λ x hx=>.tail _ (.tail _ (.tail _ (.tail _ (.tail _ (List.mem_append_left _ hx)))))
  refine d9 (b:=false) H3 (gQ (b:=true) (aS (aq (c:=L + 1) rfl (by walk_at "l")) λ v0 e=>by rw [hne'];exact g9 T.toTE (R₂.mono (by decide) (by decide)) (hr _ (FF.g1 c)) (hr _ (FF.g2 c)) (FF.k1 c) (hr _ (FF.g4 c)) (by rw [List.length_map];have:=hG.l1;walk_at "r") e)) (λ q=>by cases q) λ _ s3 H4=>ay ?_
  refine d9 (b:=true) H4 (aT (aa (by walk_at "l") (by exact n1)) bH λ a0 b0 ea eb=>by cases ce ea;exact a9 rfl eb rfl) (λ _ s4 H5=>?_) (λ q=>by cases q)
  refine aB (aw H5 (T.toTE.glob (x:="topological_sort") (v:=.ref 90) (by decide)) (λ f0 e=>ak e) λ s5 H6=>?_)
  refine cw1 (ab H6 (aq (c:=L + 1) rfl (by walk_at "l")) λ a0 s₆ ea H7=>ah ⟨aW (X.keeps H7.keep) (r6 _),?_⟩)
  cases ak ea
  refine rJ T.toTE (R₂.mono (by decide) (by decide)) FF hK H7 λ I i μ st s7 hb hg H8=>?_
  refine al H8 (by walk_at "l") rfl λ s8 H9=>ay ?_
  generalize hm1:put "topo_order" (cv (.ref I)) m0 = m1 at H9
  have n2:m1 ("topo_order":Str) = some (.ref I):=by rw [← hm1];rfl
  refine aB (fU H9 λ D s5 H6=>bJ (c:=L + 4) H6 rfl (by walk_at "l") rfl λ s₆ H7=>?_)
  replace H7:W prog w B ((i,st) :: g) os ((D,.idict []) :: (I,ar i) :: (μ++((L,.frame m1) :: (L + 4,.cell (some (.ref D))) :: (L + 3,.cell (some (.int bare 0))) :: (L + 2,.cell (some (.str "weight" 0))) :: (L + 1,.cell (some (.ref G.a.net))) :: (rho prog w G iv ivd c++(an 93 qL es++((149,bg) :: o)))))) s₆:=H7
  refine wpAny_execs_cons (wpAny_For ((aa (m:=m1) (v:=.ref I) (by walk_at "l") (by exact n2)).use H7<|au λ s7 H8=>?_))
  refine wpAny_pyIter_gen (Real.gen.mp (H8.get (show (I,ar i)∈_ by walk_at "l"))) ?_
  have Gv:=bz (tg:=aM) (I:=I) T.lim _ _ _ _ hg
  have e9:(λ c=>rho prog w G iv ivd c++[]) = rho prog w G iv ivd:=funext λ c=>List.append_nil _
  refine jv (iv:=iv) (ivd:=ivd) (D:=D) (o:=o) (ext:=[]) (d:=4) (u:=21) (dpF:=dpF) hG T R₂ (R₂.mono (by decide) (by decide)) hW ?_ gs.flatten ((I,ar i) :: μ) [(i,st)] c [] m1 es _ hR.sub hD (by have:=hR.len;simpa using this) (by rw [e9];exact Gv) (H8.perm ?_)
  ·intro c' dd m es' s9 hpd H10
   refine jM (Y:=rho prog w G iv ivd c'++[]) T (R₂.mono (by decide) (by decide)) hpd hdp hnF hz hC hR.plen H10 λ P es'' s' H'=>h P c' es'' s' (H'.perm (by exact pm [[_],_,_,[_],_] [2,1,6,0,9,11,16] [2,6,9,11,16] rfl))
  ·have e1:fy [] = []:=rfl
   have e2:ci [] = []:=rfl
   unfold dlL
   rw [e1,e2]
   exact pm [[_],[_],_,[_],[_],[_],[_],[_],_,_,[_],_] [2,5,9,11,14,17,20,23,27,30,32,37] [1,5,10,1,27,0,1,11,23,20,17,14,2,32,1,0,31,37] rfl
 ·intro D L x hx
  revert x
  exact List.forall_mem_cons.mpr ⟨.inr ⟨rfl,rfl⟩,List.forall_mem_cons.mpr ⟨.inr ⟨rfl,rfl⟩,List.forall_mem_cons.mpr ⟨.inr ⟨rfl,rfl⟩,List.forall_mem_cons.mpr ⟨.inl rfl,λ x hx=>by cases hx⟩⟩⟩⟩
 ·intro L
  show [("dist":Str),"default_weight","weight","G"].Nodup
  decide
theorem gl {G:GG} {bare:Int} {o:Led} {made:Bool} {kvs:List (Str×Value)} {args:List Value} {binds:List (Str×Value)} (T:TX w B mg mb) (R:Rm A 3 10) (hne:G.ns = []) (hv:valueAt kvs "_node" = some (.ref G.a.nd))
  (hl:args.length = 3∨args.length = 4) (ha:args[0]? = some (.ref G.a.net)) (H:W prog w B g os (G.led prog w made kvs++o) s)
  (h:∀ P s',W prog w B g os ((P,.list []) :: (G.led prog w made kvs++o)) s'->Q (.ref P) s') :
  wpAny (model prog w) A (call (.ref 96) args) Q E s:=by
 have X:=T.X
 have key:∀ a b c:Value,∀ args,iZ prog w A.in1 B g os (G.led prog w made kvs++o) (f96 w.params).1 ⟨args,[]⟩ (λ _=>[("G",.ref G.a.net),("weight",a),("default_weight",b),("topo_order",c)]) (λ _=>[])->wpAny (model prog w) A (call (.ref 96) args) Q E s:=by
  intro a b c args hb
  refine aO (args:=⟨args,[]⟩) (d:=2) (u:=7) (fd:=(f96 w.params).1) (body:=(b96 w.params).1) (bd:=λ _=>[("G",.ref G.a.net),("weight",a),("default_weight",b),("topo_order",c)])
   (cl:=λ D L=>[(L,.frame (frM (f96 w.params).1 [("G",.ref G.a.net),("weight",a),("default_weight",b),("topo_order",c)] L 96)),(L + 4,.cell none),(L + 3,.cell (some (cv b))),(L + 2,.cell (some (cv a))),(L + 1,.cell (some (.ref G.a.net)))]) H R X T.lim ⟨(f96 w.params).2,by kernel_rfl,(b96 w.params).2⟩ hb rfl (λ D L=>rfl) ?_ ?_ ?_
  ·intro E' D L s2 H₂ R₂
   refine bN R₂ λ A R₂=>?_
   rw [(x96 w.params).2.1]
   have hr:∀ m,∀ x∈G.led prog w made kvs,x∈(L,AObj.frame m) :: (L + 4,.cell none) :: (L + 3,.cell (some (cv b))) :: (L + 2,.cell (some (cv a))) :: (L + 1,.cell (some (.ref G.a.net))) :: (G.led prog w made kvs++o) :=
    λ m x hx=>.tail _ (.tail _ (.tail _ (.tail _ (.tail _ (List.mem_append_left _ hx)))))
   have hne':false = !(G.ns.map λ n=>(n,Value.ref (G.a.nA n))).isEmpty:=by rw [hne];rfl
   refine d9 (b:=true) H₂ (gQ (b:=false) (aS (aq (c:=L + 1) rfl (by walk_at "l")) λ v0 e=>by rw [hne'];exact g9 T.toTE (R₂.mono (by decide) (by decide)) (hr _ _ (.head _)) (hr _ _ (.tail _ (.head _))) hv (hr _ _ (.tail _ (.tail _ (.tail _ (.head _))))) (by rw [hne];exact Nat.zero_le _) e)) (λ _ s3 H4=>?_) (λ q=>by cases q)
   refine cX (i8 (ah (du H4 (ws:=[]) rfl (Nat.zero_le _) λ P s4 H5=>?_)))
   refine h P s4 ?_
   refine (H5.perm (σ':=[(L,.frame (frM (f96 w.params).1 [("G",.ref G.a.net),("weight",a),("default_weight",b),("topo_order",c)] L 96)),(L + 4,.cell none),(L + 3,.cell (some (cv b))),(L + 2,.cell (some (cv a))),(L + 1,.cell (some (.ref G.a.net)))]++((P,.list []) :: (G.led prog w made kvs++o))) ?_).sub (List.sublist_append_right _ _)
   show ((P,_) :: (L,_) :: (L + 4,_) :: (L + 3,_) :: (L + 2,_) :: (L + 1,_) :: (G.led prog w made kvs++o)).Perm _
   exact pm [[_],[_],[_],[_],[_],[_],_,_] [2,5,8,11,14,17,21,25] [1,5,8,11,14,17,0,2,21,25] rfl
  ·intro D L x hx
   revert x
   exact List.forall_mem_cons.mpr ⟨.inr ⟨rfl,rfl⟩,List.forall_mem_cons.mpr ⟨.inr ⟨rfl,rfl⟩,List.forall_mem_cons.mpr ⟨.inr ⟨rfl,rfl⟩,List.forall_mem_cons.mpr ⟨.inl rfl,λ x hx=>by cases hx⟩⟩⟩⟩
  ·intro L
   show [("dist":Str),"default_weight","weight","G"].Nodup
   decide
 match args,hl,ha with
 | [x,a,b],_,ha=>
  obtain rfl:=Option.some.inj ha
  exact key a b .none _ (aY X rfl rfl rfl rfl rfl)
 | [x,a,b,c],_,ha=>
  obtain rfl:=Option.some.inj ha
  exact key a b c _ (aY X rfl rfl rfl rfl rfl)
 | [],.inl h,_=>cases h
 | [_],.inl h,_=>cases h
 | [_,_],.inl h,_=>cases h
 | [],.inr h,_=>cases h
 | [_],.inr h,_=>cases h
 | [_,_],.inr h,_=>cases h
 | _ :: _ :: _ :: _ :: _ :: _,.inl h,_=>simp at h
 | _ :: _ :: _ :: _ :: _ :: _,.inr h,_=>simp at h
theorem mG {G:GG} (hG:G.Ok) {bare:Int} {wt:Int->Int->Int} {o:Led} {es:List ((Nat×Nat)×Addr)} {gs:List (List Int)} {p:List Int} {w0 b0:Value} (T:TX w B mg mb) (R:Rm A 8 36) (hW:WtOk G bare wt o) (hne:G.ns≠[])
  (hK:Kahn G.su G.ns ((G.ns.filter λ n=>decide (0 < (G.pr n).length)).map λ n=>(n,.int (G.pr n).length 0)) (G.ns.filter λ n=>(G.pr n).length == 0) gs)
  (hR:RunOk G wt gs.flatten p) (ew:cv w0 = .str "weight" 0) (eb:cv b0 = .int bare 0)
  (H:W prog w B g os (G.led prog w false G.a.base++(an 93 qL es++((149,bg) :: o))) s)
  (h:∀ P iv ivd c' es' s',W prog w B g os ((P,.list (af p.reverse)) :: (rho prog w G iv ivd c'++(an 93 qL es'++((149,bg) :: o)))) s'->Q (.ref P) s') :
  wpF (model prog w) A (call (.ref 96) [.ref G.a.net,w0,b0]) Q E s:=by
 have X:=T.X
 refine ai (cW ew) λ tw zh1=>?_;obtain rfl:=zh1
 refine ai (ap eb) λ tb zh1=>?_;obtain rfl:=zh1
 refine dQ hR.run λ dpF t0 ts hD hdp hnF hz hC=>?_
 refine eA (ii (args:=⟨[_,_,_],[]⟩) (d:=7) (u:=33) (fd:=(f96 w.params).1) (body:=(b96 w.params).1) (bd:=λ _=>[("G",.ref G.a.net),("weight",.str "weight" tw),("default_weight",.int bare tb),("topo_order",.none)]) (cl:=λ D L=>rI G.a.net bare (frM (f96 w.params).1 [("G",.ref G.a.net),("weight",.str "weight" tw),("default_weight",.int bare tb),("topo_order",.none)] L 96) L) H R X T.lim ⟨(f96 w.params).2,by kernel_rfl,(b96 w.params).2⟩ (aY X rfl rfl rfl rfl rfl) rfl (λ D L=>rfl) ?_ ?_ ?_)
 ·intro E' D L s2 H₂ R₂
  refine mn R₂ λ A R₂=>?_
  rw [(x96 w.params).2.1]
  generalize hm0:frM (f96 w.params).1 [("G",.ref G.a.net),("weight",.str "weight" tw),("default_weight",.int bare tb),("topo_order",.none)] L 96 = m0 at H₂
  have n1:m0 ("topo_order":Str) = some .none:=by rw [← hm0];rfl
  have hne':true = !(G.ns.map λ n=>(n,Value.ref (G.a.nA n))).isEmpty:=by
   cases hq:G.ns with
   | nil=>exact absurd hq hne
   | cons=>rfl
  have H3:W prog w B g os ((L,.frame m0) :: (L + 4,.cell none) :: (L + 3,.cell (some (.int bare 0))) :: (L + 2,.cell (some (.str "weight" 0))) :: (L + 1,.cell (some (.ref G.a.net))) :: (G.led prog w false G.a.base++(an 93 qL es++((149,bg) :: o)))) s2:=H₂
  obtain ⟨ω,hω⟩:∃ k,k = G.led prog w false G.a.base++(an 93 qL es++((149,bg) :: o)):=⟨_,rfl⟩
  rw [← hω] at H3
  have hr:∀ x∈G.led prog w false G.a.base,x∈(L,AObj.frame m0) :: (L + 4,.cell none) :: (L + 3,.cell (some (.int bare 0))) :: (L + 2,.cell (some (.str "weight" 0))) :: (L + 1,.cell (some (.ref G.a.net))) :: ω :=
   λ x hx=>.tail _ (.tail _ (.tail _ (.tail _ (.tail _ (hω▸List.mem_append_left _ hx)))))
  refine b9 λ E1=>d9 (b:=false) H3 (gQ (b:=true) (aS (aq (c:=L + 1) rfl (by walk_at "l")) λ v0 e=>by rw [hne'];exact g9 T.toTE (R₂.mono (by decide) (by decide)) (hr _ (.head _)) (hr _ (.tail _ (.head _))) rfl (hr _ (.tail _ (.tail _ (.tail _ (.head _))))) (by rw [List.length_map];have:=hG.l1;walk_at "r") e)) (λ q=>by cases q) λ _ s3 H4=>ay (ay ⟨rfl,?_⟩)
  refine b9 λ E1=>d9 (b:=true) H4 (aT (aa (by walk_at "l") (by exact n1)) bH λ a0 b0 ea eb=>by cases ce ea;exact a9 rfl eb rfl) (λ _ s4 H5=>?_) (λ q=>by cases q)
  refine aB (aw H5 (T.toTE.glob (x:="topological_sort") (v:=.ref 90) (by decide)) (λ f0 e=>ak e) λ s5 H6=>?_)
  refine cw1 (ab H6 (aq (c:=L + 1) rfl (by walk_at "l")) λ a0 s₆ ea H7=>ah ⟨aW (X.keeps H7.keep) (r6 _),?_⟩)
  cases ak ea
  refine qp T.toTE (R₂.mono (by decide) (by decide)) H7 λ I i Lg mg' s7 hmg H8=>?_
  refine al H8 (by walk_at "l") rfl λ s8 H9=>ay (ay ⟨rfl,?_⟩)
  generalize hm1:put "topo_order" (cv (.ref I)) m0 = m1 at H9
  have n2:m1 ("topo_order":Str) = some (.ref I):=by rw [← hm1];rfl
  refine b9 λ E1=>aB (fU H9 λ D s5 H6=>bJ (c:=L + 4) H6 rfl (by walk_at "l") rfl λ s₆ H7=>ay ⟨rfl,?_⟩)
  replace H7:W prog w B ((i,.fresh (.func (b90 w.params).1 (e90 w.params Lg))) :: g) os ((D,.idict []) :: (I,ar i) :: (Lg,.frame mg') :: (L,.frame m1) :: (L + 4,.cell (some (.ref D))) :: (L + 3,.cell (some (.int bare 0))) :: (L + 2,.cell (some (.str "weight" 0))) :: (L + 1,.cell (some (.ref G.a.net))) :: ω) s₆:=H7
  refine me (aZ ((aa (m:=m1) (v:=.ref I) (by walk_at "l") (by exact n2)).use H7<|au λ s7 H8=>?_))
  have hgen:=Real.gen.mp (H8.get (show (I,ar i)∈_ by walk_at "l"))
  refine wpAny_pyIter_gen hgen ?_
  refine gx λ E2=>?_
  have hgs:=H8.gens.at_ (i,_) (.head _)
  cases hord:gs.flatten with
  | nil=>rw [hord] at hD;cases hD;cases hdp
  | cons x rest=>
  have hgne:gs≠[]:=λ q=>by rw [q] at hord;cases hord
  rw [hord] at hD
  have hsub:=hR.sub
  have hlen:=hR.len
  rw [hord] at hsub hlen
  cases hD with
  | cons h1 h2 h3=>
  obtain ⟨κ,hκ⟩:∃ k,k = dlL L D G.a.net bare m1 [] es++o:=⟨_,rfl⟩
  rw [hω] at H8
  have H9:W prog w B ((i,.running) :: g) os ((Lg,.frame mg') :: (G.led prog w false G.a.base++((I,ar i) :: κ))) (s7.setGen i .running):=(H8.gset rfl).perm (by
   have e1:fy [] = []:=rfl
   have e2:ci [] = []:=rfl
   rw [hκ];unfold dlL
   rw [e1,e2]
   exact pm [[_],[_],[_],[_],[_],[_],[_],[_],_,_,[_],_] [2,5,8,11,14,17,20,23,27,30,32,37] [8,27,5,1,11,23,20,17,14,2,32,1,0,31,37] rfl)
  refine i6 R₂.hd (T.lim.keeps H8.keep) R₂.room rfl hgen hgs ((qH hG T.toTE T.th hgne hK (o:=(I,ar i) :: κ) (γo:=g) (ret:=λ _=>False)
   (yld:=λ v gs' s1=>∃ iv ivd ν μ' γ' c',kA x v ν∧GSt prog w B os (rho prog w G iv ivd) 4 20 i (rest.map kA) μ' γ' gs'∧W prog w B ((i,gs') :: (γ'++g)) os ((I,ar i) :: (ν++(μ'++(rho prog w G iv ivd c'++κ)))) (s1.setGen i gs'))
   hmg (R₂.in1.mono (by decide) (by decide)) H9 (λ iv ivd=>by
    rw [hord]
    exact λ c' v ν μ' γ' gs' s' hb hx G' H'=>(bk iv ivd ν (cc μ' γ' c' hx (aJ G' ((H'.gset hb).perm (by exact pm [_,_,_,[_],_] [3,6,9,11,16] [11,3,6,9,16] rfl))))))).mono λ e s1 he=>⟨he.1,?_⟩)
  revert he;refine λ zq=>ae zq λ zz he=>?_;clear zq
  cases e with
  | ret r=>exact he.2.elim
  | susp v _ _ _ _ _ _=>
   refine cw he λ iv ivd ν zk0=>?_;refine kY zk0 λ μ' γ' c' zh1 G' H'=>?_;clear zk0;clear he;refine ae zh1 λ ev zh2=>?_;clear zh1;obtain rfl:=zh2
   refine aU (H'.get (.head _)) λ ob ho hcl zz=>?_
   refine dR ho hcl (by decide) ?_
   have hn:=hsub x (.head _)
   refine kr (dd:=[]) (es:=es) (L:=L) (D:=D) (bare:=bare) (c:=c') (m:=m1) (wt:=λ u=>wt u x) (o:=o++((I,ar i) :: μ')) hG T (R₂.mono (by decide) (by decide)) hn (hW.nd x hn) (λ p hp=>?_) (λ p hp=>?_) (λ e he=>by cases he) (Nat.zero_le _) (H'.perm (by rw [hκ];exact pm [[_],_,_,_,_] [2,1,0,6,9,12,16] [9,12,15,2,7] rfl)) ev λ c'' m' es' t s' H''=>?_
   ·refine aV (hW.w x hn p hp) λ a at_ q1 q2 q3=>?_
    exact (bc a at_ q1 (List.mem_append_left _ q2) q3)
   ·refine ac (h1 (p.1,wt p.1 x) (List.mem_map.mpr ⟨p,hp,rfl⟩)) λ e he q=>?_
    cases he
   ·have Gv:=bz (tg:=aM) (I:=I) T.lim _ _ _ _ G'
    have e9:(λ c=>rho prog w G iv ivd c++[]) = rho prog w G iv ivd:=funext λ c=>List.append_nil _
    refine jv (iv:=iv) (ivd:=ivd) (D:=D) (o:=o) (ext:=[]) (d:=4) (u:=21) (dpF:=dpF) hG T (R₂.mono (by decide) (by decide)) (R₂.mono (by decide) (by decide)) hW ?_ rest ((I,ar i) :: μ') ((i,_) :: γ') c'' ([]++[⟨x,(cF ((G.pr x).map λ p=>(p.1,wt p.1 x)) (cB []) x).1,(cF ((G.pr x).map λ p=>(p.1,wt p.1 x)) (cB []) x).2,t⟩]) m' es' _ (λ n hn=>hsub n (.tail _ hn)) (by exact h3) ?_ (by rw [e9];exact Gv) (H''.perm (by exact pm [_,_,_,[_],_] [3,6,9,11,16] [1,11,16,1,3,0,6,10] rfl))
    ·intro c4 dd m4 es4 s9 hpd H10
     refine aZ (jM (Y:=rho prog w G iv ivd c4++[]) T (R₂.mono (by decide) (by decide)) hpd hdp hnF hz hC hR.plen H10 λ P es'' s' H'=>h P iv ivd c4 es'' s' (H'.perm (by exact pm [[_],_,_,[_],_] [2,1,6,0,9,11,16] [2,6,9,11,16] rfl)))
    ·simp only [List.length_cons,List.nil_append,List.length_nil] at hlen ⊢
     walk_at "r"
 ·intro D L x hx
  revert x
  exact List.forall_mem_cons.mpr ⟨.inr ⟨rfl,rfl⟩,List.forall_mem_cons.mpr ⟨.inr ⟨rfl,rfl⟩,List.forall_mem_cons.mpr ⟨.inr ⟨rfl,rfl⟩,List.forall_mem_cons.mpr ⟨.inl rfl,λ x hx=>by cases hx⟩⟩⟩⟩
 ·intro L
  show [("dist":Str),"default_weight","weight","G"].Nodup
  decide
noncomputable def rp:AObj->Bool
 | .tdict _=>true
 | _=>false
noncomputable def NoT (σ:Led):Prop:=∀ p∈σ,rp p.2 = false
theorem Real.at_ {h h':Heap} {a:Addr} {o:AObj} (x:Real prog w h a o) (k:∀ ob,h.get? a = some ob->h'.get? a = some ob) (ht:rp o = false):Real prog w h' a o:=by
 cases o with
 | frame m=>refine ac x λ zz zh1 r=>?_;clear x;refine eZ zh1 λ o es ep x r'=>?_;clear zh1;exact (ad _ (cc o es ep (k _ x) r') r)
 | cell m=>refine ac x λ zz zh1 r=>?_;clear x;refine ac zh1 λ o x r'=>?_;clear zh1;exact (ad _ (ad o (k _ x) r') r)
 | list m=>refine ac x λ zz zh1 r=>?_;clear x;refine ai zh1 λ n x=>?_;clear zh1;exact (ad _ ⟨n,k _ x⟩ r)
 | tup m=>refine ac x λ zz zh1 r=>?_;clear x;refine ac zh1 λ o x r'=>?_;clear zh1;exact (ad _ (ad o (k _ x) r') r)
 | idict m=>refine ac x λ zz zh1 r=>?_;clear x;refine eZ zh1 λ o es ep x r'=>?_;clear zh1;exact (ad _ (cc o es ep (k _ x) r') r)
 | idictE m=>refine ac x λ zz zh1 r=>?_;clear x;refine bC zh1 λ o es x r'=>?_;clear zh1;exact (ad _ (br o es (k _ x) r') r)
 | tdict m=>cases ht
 | sdict m=>refine ac x λ zz zh1 r=>?_;clear x;refine eZ zh1 λ o es ep x r'=>?_;clear zh1;exact (ad _ (cc o es ep (k _ x) r') r)
 | inst _ _=>exact k _ x
 | raw _=>exact k _ x
 | is _=>revert x;refine λ zq=>ac zq λ o x r=>?_;clear zq;exact (ad o (k _ x) r)
theorem W.change {σ1 σ₁' σ:Led} (H:W prog w B g os (σ1++σ) s) (hn:NoT σ) {h':Heap} {t:Nat} (hk:∀ c o,(∀ p∈σ1,p.1≠c)->s.heap.get? c = some o->h'.get? c = some o)
  (hnew:∀ p∈σ₁',(∃ q∈σ1,q.1 = p.1)∨s.heap.objs.size≤p.1) (hnd:(σ₁'.map (·.1)).Nodup) (hr:∀ p∈σ₁',Real prog w h' p.1 p.2):W prog w B g os (σ₁'++σ) { s with heap:=h',toks:=t }:=by
 have hd:=H.nd
 rw [List.map_append,List.nodup_append] at hd
 refine ⟨λ b o e=>hk b o (λ p hp q=>?_) (H.keep b o e),λ p hp=>?_,λ p hp=>?_,?_,H.gens,H.eos,H.sm⟩
 ·have:=(H.off p (List.mem_append_left _ hp)).1
  rw [q,e] at this;cases this
 ·rcases List.mem_append.mp hp with hp | hp
  ·exact hr p hp
  ·exact (H.own p (List.mem_append_right _ hp)).at_ (λ ob e=>hk _ _ (λ q hq=>hd.2.2 _ (List.mem_map_of_mem hq) _ (List.mem_map_of_mem hp)) e) (hn p hp)
 ·rcases List.mem_append.mp hp with hp | hp
  ·rcases hnew p hp with ⟨q,hq,e⟩ | hge
   ·rw [← e];exact H.off q (List.mem_append_left _ hq)
   ·exact H.offNew hge
  ·exact H.off p (List.mem_append_right _ hp)
 ·rw [List.map_append,List.nodup_append]
  refine (aQ hnd hd.2.1 (λ a ha b hb e=>?_))
  refine ac (List.mem_map.mp ha) λ p hp zh1=>?_;obtain rfl:=zh1
  refine ac (List.mem_map.mp hb) λ q hq zh1=>?_;obtain rfl:=zh1
  rcases hnew p hp with ⟨r,hr,e'⟩ | hge
  ·exact hd.2.2 _ (List.mem_map_of_mem hr) _ (List.mem_map_of_mem hq) (e'.trans e)
  ·exact absurd (H.own q (List.mem_append_right _ hq)).lt (Nat.not_lt.mpr (e▸hge))
noncomputable def rE (f0:Value) (TI TO:Addr):AObj:=.raw { cls:=.type "zip",dict:=none,data:=.fields #[f0,.bool false,.bool false,.ref TI,.ref TO],slots:=#[] }
noncomputable def qB (a b:Addr):AObj:=.raw { cls:=.type "tuple",data:=.seq #[.ref a,.ref b] }
noncomputable def pJ:AObj:=.is λ o=>∃ a b,o = { cls:=.type "tuple",data:=.seq #[a,b] }
noncomputable def zL (f0:Value) (z TI TO i1 i2 a b:Addr) (k:Nat) (vs ws:List Value):Led:=[(z,rE f0 TI TO),(TI,qB i1 i2),(TO,pJ),(i1,a7 a k),(i2,a7 b k),(a,.list vs),(b,.list ws)]
theorem mK {elts:List Expr} {kk:Nat} {pos:Pos} {body:List Stmt} {z TI TO i1 i2 a b:Addr} {vs ws:List Value} {R:Result->Shared->Prop} (J:List (Value×Value)->Led->Prop) (hh:A.handled = none)
  (turn:∀ x y r n t σ s E',J ((x,y) :: r) σ->NoT σ->W prog w B g os ((t,.tup [x,y]) :: (zL .none z TI TO i1 i2 a b (n + 1) vs ws++σ)) s ->
   wpAny (model prog w) A (assign (.Tuple elts kk pos) env (.ref t)) (λ _ s2=>wpAny (model prog w) A (execs body env) (λ fl s3=>(fl = .next∨fl = .cont)∧∃ σ',J r σ'∧NoT σ'∧W prog w B g os (zL .none z TI TO i1 i2 a b (n + 1) vs ws++σ') s3) E' s2) E' s)
  (done:∀ σ s,J [] σ->W prog w B g os σ s->R (.ok .next) s) (r:List (Value×Value)) (n:Nat) (σ:Led) (hr:(vs.drop n).zip (ws.drop n) = r) (hJ:J r σ) (hn:NoT σ)
  (H:W prog w B g os (zL .none z TI TO i1 i2 a b n vs ws++σ) s):codeAny (model prog w) A (.forLoop (.Tuple elts kk pos) (.ref z) body [] env) R s:=by
 refine codeAny_forLoop_any (λ m s'=>∃ r n σ,m = r.length∧(vs.drop n).zip (ws.drop n) = r∧J r σ∧NoT σ∧W prog w B g os (zL .none z TI TO i1 i2 a b n vs ws++σ) s') ?_ r.length (eE r n σ rfl hr hJ hn H)
 intro m s zr;refine dQ zr λ r n σ zh1 hr hJ hn H=>?_;clear zr;obtain rfl:=zh1
 have gz:IsZip s.heap z TI TO .none:=H.get (.head _)
 have gI:IsPair s.heap TI (.ref i1) (.ref i2):=H.get (.tail _ (.head _))
 refine ac (H.get (show (TO,pJ)∈_ from .tail _ (.tail _ (.head _)))) λ oo hoo zh1=>?_;refine c6 zh1 λ v1 v2 zh2=>?_;clear zh1;obtain rfl:=zh2
 have gO:IsPair s.heap TO v1 v2:=hoo
 have g1:=Real.listIt.mp (H.get (show (i1,a7 a n)∈_ from .tail _ (.tail _ (.tail _ (.head _)))))
 have g2:=Real.listIt.mp (H.get (show (i2,a7 b n)∈_ from .tail _ (.tail _ (.tail _ (.tail _ (.head _))))))
 refine ac (H.get (show (a,AObj.list vs)∈_ from .tail _ (.tail _ (.tail _ (.tail _ (.tail _ (.head _))))))) λ xs ha ea=>?_
 refine ac (H.get (show (b,AObj.list ws)∈_ from .tail _ (.tail _ (.tail _ (.tail _ (.tail _ (.tail _ (.head _)))))))) λ ys hb eb=>?_
 have hnd:=H.nd
 have hnd7:(([z,TI,TO,i1,i2,a,b]:List Addr)).Nodup:=by
  rw [List.map_append,List.nodup_append] at hnd
  exact hnd.1
 simp only [List.nodup_cons,List.mem_cons,not_or,List.not_mem_nil,not_false_eq_true,and_true] at hnd7
 refine bj λ GZ hGZ=>?_
 refine fu hnd7 λ zh1 zh2 zh3 zh4 zk0=>?_;refine bP zk0 λ zh5 eab zz=>?_;clear zk0;clear hnd7;refine fu zh1 λ zI zO z1 z2 zk0=>?_;refine ae zk0 λ za zb=>?_;clear zk0;clear zh1;refine fu zh2 λ IO I1 I2 Ia Ib=>?_;clear zh2;refine bP zh3 λ O1 O2 zk0=>?_;refine ae zk0 λ Oa Ob=>?_;clear zk0;clear zh3;refine bP zh4 λ e12 e1a e1b=>?_;clear zh4;refine ae zh5 λ e2a e2b=>?_;clear zh5
 refine hGZ ?_
 have D:ZipApart z TI TO i1 i2 a b:=⟨Ne.symm zI,Ne.symm zO,Ne.symm z1,Ne.symm z2,IO,I1,I2,O1,O2,e12,Ne.symm za,Ne.symm Oa,Ne.symm e1a,Ne.symm e2a,Ne.symm zb,Ne.symm Ob,Ne.symm e1b,Ne.symm e2b⟩
 have fin:∀ (k:Nat) (vs:List Value) (xs:Array Value),xs.toList.map cv = vs->∀ x,vs[k]? = some x->∃ x₀,xs[k]? = some x₀∧cv x₀ = x:=by
  intro k vs xs e x hx
  rw [← e] at hx
  refine ac (bU hx) λ v h1 h2=>?_
  exact (ad v (by rw [← Array.getElem?_toList];exact h1) h2)
 cases r with
 | nil=>
  have hend:xs[n]? = none∨ys[n]? = none:=by
   have hl:=congrArg List.length hr
   rw [List.length_zip,List.length_drop,List.length_drop] at hl
   have e1:xs.size = vs.length:=by rw [← ea,List.length_map,Array.length_toList]
   have e2:ys.size = ws.length:=by rw [← eb,List.length_map,Array.length_toList]
   simp only [List.length_nil] at hl
   rcases Nat.le_total vs.length n with h | h
   ·exact .inl (Array.getElem?_eq_none (by walk_at "r"))
   ·rcases Nat.le_total ws.length n with h' | h'
    ·exact .inr (Array.getElem?_eq_none (by walk_at "r"))
    ·have:vs.length - n = 0∨ws.length - n = 0:=by walk_at "r"
     rcases this with h'' | h''
     ·exact .inl (Array.getElem?_eq_none (by walk_at "r"))
     ·exact .inr (Array.getElem?_eq_none (by walk_at "r"))
  refine wpAny_pyNext_zip_end hh D gz gI gO g1 g2 ha.isList hb.isList hend λ h' hk=>?_
  have H1:=H.change (t:=s.toks) (σ₁':=[]) hn (λ c o hc e=>hk c o (λ q=>hc _ (.head _) q.symm) (λ q=>hc _ (.tail _ (.tail _ (.head _))) q.symm) (λ q=>hc _ (.tail _ (.tail _ (.tail _ (.head _)))) q.symm) (λ q=>hc _ (.tail _ (.tail _ (.tail _ (.tail _ (.head _))))) q.symm) e)
   (λ p hp=>by cases hp) List.nodup_nil (λ p hp=>by cases hp)
  exact ay (done σ _ hJ H1)
 | cons xy r=>
  obtain ⟨x,y⟩:=xy
  have hx:vs[n]? = some x:=by
   rw [← List.head?_drop]
   cases q:vs.drop n with
   | nil=>rw [q] at hr;cases hr
   | cons x' r'=>
    cases q2:ws.drop n with
    | nil=>rw [q,q2] at hr;cases hr
    | cons y' r''=>rw [q,q2] at hr;simp only [List.zip_cons_cons,List.cons.injEq,Prod.mk.injEq] at hr;simp [hr.1.1]
  have hy:ws[n]? = some y:=by
   rw [← List.head?_drop]
   cases q:vs.drop n with
   | nil=>rw [q] at hr;cases hr
   | cons x' r'=>
    cases q2:ws.drop n with
    | nil=>rw [q,q2] at hr;cases hr
    | cons y' r''=>rw [q,q2] at hr;simp only [List.zip_cons_cons,List.cons.injEq,Prod.mk.injEq] at hr;simp [hr.1.2]
  have hr':(vs.drop (n + 1)).zip (ws.drop (n + 1)) = r:=by
   rw [← List.drop_drop,← List.drop_drop]
   cases q:vs.drop n with
   | nil=>rw [q] at hr;cases hr
   | cons x' r'=>
    cases q2:ws.drop n with
    | nil=>rw [q,q2] at hr;cases hr
    | cons y' r''=>rw [q,q2] at hr;exact (List.cons.inj hr).2
  refine ac (fin n vs xs ea x hx) λ x₀ hx0 ex=>?_
  refine ac (fin n ws ys eb y hy) λ y0 hy0 ey=>?_
  refine wpAny_pyNext_zip_item D gz gI gO g1 g2 ha.isList hb.isList hx0 hy0 λ h' a1 a2 a3 a4 a5 a6 hk=>?_
  dsimp only
  have lt:∀ p∈zL .none z TI TO i1 i2 a b n vs ws,p.1 < s.heap.objs.size:=λ p hp=>(H.own p (List.mem_append_left _ hp)).lt
  have H1:=H.change (t:=s.toks) (σ₁':=(s.heap.objs.size,.tup [x,y]) :: zL (rawInt s.heap.objs.size) z TI TO i1 i2 a b (n + 1) vs ws) hn
   (λ c o hc e=>hk c o (λ q=>hc _ (.head _) q.symm) (λ q=>hc _ (.tail _ (.tail _ (.head _))) q.symm) (λ q=>hc _ (.tail _ (.tail _ (.tail _ (.head _)))) q.symm) (λ q=>hc _ (.tail _ (.tail _ (.tail _ (.tail _ (.head _))))) q.symm) e)
   (λ p hp=>by
    rcases List.mem_cons.mp hp with rfl | hp
    ·exact .inr (Nat.le_refl _)
    ·refine .inl ?_
     simp only [zL,List.mem_cons,List.not_mem_nil,or_false] at hp
     rcases hp with rfl | rfl | rfl | rfl | rfl | rfl | rfl
     ·exact (ad _ (.head _) rfl)
     ·exact (ad _ (.tail _ (.head _)) rfl)
     ·exact (ad _ (.tail _ (.tail _ (.head _))) rfl)
     ·exact (ad _ (.tail _ (.tail _ (.tail _ (.head _)))) rfl)
     ·exact (ad _ (.tail _ (.tail _ (.tail _ (.tail _ (.head _))))) rfl)
     ·exact (ad _ (.tail _ (.tail _ (.tail _ (.tail _ (.tail _ (.head _)))))) rfl)
     ·exact (ad _ (.tail _ (.tail _ (.tail _ (.tail _ (.tail _ (.tail _ (.head _))))))) rfl))
   (by
    rw [List.map_cons,List.nodup_cons]
    refine ⟨λ hm=>?_,?_⟩
    ·refine ac (List.mem_map.mp hm) λ p hp e=>?_
     have hp':p.1∈(zL .none z TI TO i1 i2 a b n vs ws).map (·.1):=List.mem_map_of_mem (f:=(·.1)) hp
     refine ac (List.mem_map.mp hp') λ q hq e'=>?_
     have:=lt q hq
     rw [e',e] at this
     exact Nat.lt_irrefl _ this
    ·have hnd':=H.nd
     rw [List.map_append,List.nodup_append] at hnd'
     exact hnd'.1)
   (λ p hp=>by
    rcases List.mem_cons.mp hp with rfl | hp
    ·exact (ad (#[x₀,y0]) (bl _ a5 rfl (c5 _ rfl)) (by show [cv x₀,cv y0] = _;rw [ex,ey]))
    ·simp only [zL,List.mem_cons,List.not_mem_nil,or_false] at hp
     rcases hp with rfl | rfl | rfl | rfl | rfl | rfl | rfl
     ·exact a1
     ·exact hk _ _ (Ne.symm zI) IO I1 I2 gI
     ·exact (ad _ a2 (c8 _ _ rfl))
     ·exact Real.listIt.mpr a3
     ·exact Real.listIt.mpr a4
     ·refine ai ha λ nn ha'=>?_;clear ha
      exact (ad xs ⟨nn,hk _ _ (Ne.symm za) (Ne.symm Oa) (Ne.symm e1a) (Ne.symm e2a) ha'⟩ ea)
     ·refine ai hb λ nn hb'=>?_;clear hb
      exact (ad ys ⟨nn,hk _ _ (Ne.symm zb) (Ne.symm Ob) (Ne.symm e1b) (Ne.symm e2b) hb'⟩ eb))
  refine wpAny_letOwnedTupleGo_zip (s:={ s with heap:=h' }) a1 λ h'' hz'' hs''=>?_
  have H2:W prog w B g os ((s.heap.objs.size,.tup [x,y]) :: (zL .none z TI TO i1 i2 a b (n + 1) vs ws++σ)) { s with heap:=h'' } :=
   H1.upd (t:=s.toks) (u:=(.tail .head:Up z (rE (rawInt s.heap.objs.size) TI TO) (_ :: (z,_) :: _) _)) hs''.extBut (.fields a1 rfl) hz''
  refine wpAny_mono (turn x y r n _ σ _ _ hJ hn H2) (λ _ s2 h₂=>wpAny_mono h₂ (λ fl s3 h3=>?_) λ _ _ e=>e) λ _ _ e=>e
  refine ae h3 λ hfl zh1=>?_;clear h3;refine aU zh1 λ σ' hJ' hn' H3=>?_;clear zh1
  rcases hfl with rfl | rfl <;> exact (ad r.length (Nat.lt_succ_self _) (eE r (n + 1) σ' rfl hr' hJ' hn' H3))
noncomputable def kvA (G:GG) (iv:Addr) (c:OA):OA->List (Str×Value)
 | none=>kvC G iv c
 | some p=>kvC G iv c++([("adj",.ref p.1)]:List (Str×Value))
noncomputable def oa (G:GG):OA->Led
 | none=>[]
 | some p=>[(p.1,.raw (aK 180 p.2 (.ref G.a.sd))),(p.2,.sdict [])]
noncomputable def d8 (prog:Program) (w:World) (G:GG) (iv ivd:Addr) (c a:OA):Led:=G.led prog w true (kvA G iv c a)++(gj iv ivd G.a.sd G.a.pd++(lF G c++oa G a))
theorem mX {w:World} {G:GG} {iv ivd:Addr} {c:OA}:d8 prog w G iv ivd c none = rho prog w G iv ivd c:=by
 unfold d8 rho oa kvA
 rw [List.append_nil]
theorem so (P:Params):(jC (Z0.K P) 951 "__getitem__" 632 && fnIn (Z0.K P) 632) = true:=by kernel_rfl
theorem ot {net d sd:Addr} {made:Bool} {kvs:List (Str×Value)} (T:TE w B mg mb) (R:Rm A 4 13) (H:W prog w B g os σ s) (hx:(net,AObj.inst 951 d)∈σ) (hd:(d,ndict prog w made kvs)∈σ) (hv:valueAt kvs "_succ" = some (.ref sd))
  (h:∀ v dv s',W prog w B g os ((v,.raw (aK 180 dv (.ref sd))) :: (dv,.sdict []) :: σ) s'->Q (.ref v) s'):wpAny (model prog w) A (call (.ref 812) [.ref net]) Q E s:=by
 have X:=T.X
 refine an8 (kVw w.params) λ k1 k2 _ k4 _ k6 _ k8=>?_
 replace k2:=beq_iff_eq.mp k2
 refine aO (args:=⟨[_],[]⟩) (d:=3) (u:=10) (cl:=λ D L=>[(L,.frame (frM _ _ L 812))]) H R X T.lim ⟨(bk _ _ _ rfl),by kernel_rfl,rfl⟩ (aR rfl) rfl (λ D L=>aH rfl) ?_ ?_ ?_
 ·intro E' D L s2 H₂ R₂
  refine bN R₂ λ A R₂=>?_
  refine cX (aw H₂ (T.glob (x:="AdjacencyView") (v:=.ref 180) (by decide)) (λ f0 e=>ak e) λ s3 H₃=>?_)
  refine cw1 (ab H₃ (aF (aa (by walk_at "l") rfl)<|dL<|cp X k8 (.tail _ hx) (.tail _ hd) hv) λ a0 s4 ea H₄=>ah ⟨aW (X.keeps H₄.keep) k6,?_⟩)
  cases ak ea
  refine iq T k1 k2 k4 (R₂.mono (by decide) (by decide)) H₄ λ v dv s5 H₅=>?_
  exact h v dv _ (H₅.pick (a:=L) (by walk_at "l")).drop
 ·intro D L x hx
  exact .inl (by revert x;exact locs rfl)
 ·intro L;exact List.nodup_nil
theorem qS {G:GG} {iv ivd:Addr} {c a:OA} {τ o:Led} {expr:Bool} (T:TE w B mg mb) (R:Rm A 5 17) (H:W prog w B g os (τ++(d8 prog w G iv ivd c a++o)) s)
  (h:∀ p s',W prog w B g os (τ++(d8 prog w G iv ivd c (some p)++o)) s'->Q (.ref p.1) s'):wpAny (model prog w) A (getAttr (.ref G.a.net) "adj" expr) Q E s:=by
 have X:=T.X
 refine an5 (o6 w.params) λ _ _ b3 b4 b5=>?_
 have hx:(G.a.net,AObj.inst 951 G.a.d)∈τ++(d8 prog w G iv ivd c a++o):=List.mem_append_right _ (.head _)
 cases a with
 | some p=>
  exact (cp X b4 hx (show (G.a.d,ndict prog w true (kvA G iv c (some p)))∈_ from List.mem_append_right _ (.tail _ (.head _))) (by cases c <;> rfl)).use H λ v0 s' e H'=>by cases ak e;exact h p s' H'
 | none=>
  refine j6 X b3 H hx (show (G.a.d,ndict prog w true (kvA G iv c none))∈_ from List.mem_append_right _ (.tail _ (.head _))) (by cases c <;> rfl) λ E' s1 H₁=>?_
  refine kM (f:=λ x=>τ++((G.a.net,.inst 951 G.a.d) :: (G.a.d,x) :: (G.rest++(gj iv ivd G.a.sd G.a.pd++(lF G c++([]++o)))))) (kvs:=kvA G iv c none) (P:=λ v ν=>∃ dv,ν = [(v,.raw (aK 180 dv (.ref G.a.sd))),(dv,.sdict [])]) (dd:=4) (uu:=13) T b5 R.in1 H₁ (λ x=>List.mem_append_right _ (.head _))
   (by unfold d8 GG.led oa;simp) (λ v=>.app (.tail .head)) (by cases c <;> rfl) (by cases c <;> exact Nat.le_of_ble_eq_true rfl) ?_ ?_
  ·intro A' E' s' Q' τ' R' H' hq
   refine ot T R' H' (List.mem_append_right _ (List.mem_append_right _ (.head _))) (List.mem_append_right _ (List.mem_append_right _ (.tail _ (.head _)))) (by cases c <;> rfl) λ v dv s2 H₂=>hq v _ s2 ⟨dv,rfl⟩ H₂
  ·intro v ν s' zr;refine ai zr λ dv zh1=>?_;clear zr;obtain rfl:=zh1;intro H'
   refine ⟨rfl,h (v,dv) s' (H'.perm ?_)⟩
   have e1:stored (kvA G iv c none) (Str.ofString "adj") (.ref v) = kvA G iv c (some (v,dv)):=aA (by cases c <;> rfl)
   rw [e1]
   unfold d8 GG.led oa
   exact pm [[_],[_],_,[_],[_],_,_,_,_] [1,2,5,0,9,11,14,18,21,24,1,0,28] [9,1,1,11,14,19,21,24,2,5,0,28] rfl
theorem mu {G:GG} (hG:G.Ok) {iv ivd:Addr} {c a:OA} {o:Led} {x:Int} {x₀:Value} (T:TE w B mg mb) (R:Rm A 7 21) (hx:x∈G.ns) (ex:cv x₀ = .int x 0)
  (H:W prog w B g os (d8 prog w G iv ivd c a++o) s)
  (h:∀ p av dav s',W prog w B g os ((av,.raw (aK 158 dav (.ref (G.a.sA x)))) :: (dav,.sdict []) :: (d8 prog w G iv ivd c (some p)++o)) s'->Q (.ref av) s'):wpAny (model prog w) A (call (.ref 632) [.ref G.a.net,x₀]) Q E s:=by
 have X:=T.X
 refine an9 (kAv w.params) λ _ _ _ _ q5 q6 _ _ _=>?_
 refine ai (ap ex) λ tk zh1=>?_;obtain rfl:=zh1
 refine aO (args:=⟨[_,_],[]⟩) (d:=6) (u:=18) (cl:=λ D L=>[(L,.frame (frM _ _ L 632))]) H R X T.lim ⟨(bk _ _ _ rfl),by kernel_rfl,rfl⟩ (aR rfl) rfl (λ D L=>aH rfl) ?_ ?_ ?_
 ·intro E' D L s2 H₂ R₂
  refine bN R₂ λ A R₂=>?_
  refine cX (Subscript_ (pH H₂ (aa (by walk_at "l") rfl)<|au λ s1 H₁=>?_))
  refine qS (τ:=[(L,_)]) T (R₂.mono (by decide) (by decide)) H₁ λ p s3 H₃=>?_
  refine (aa (by walk_at "l") rfl).use H₃ λ k0 s4 e4 H₄=>?_
  have hpv:∀ fr:AObj,(p.1,AObj.raw (aK 180 p.2 (.ref G.a.sd)))∈[(L,fr)]++(d8 prog w G iv ivd c (some p)++o):=λ fr=>List.mem_append_right _ (List.mem_append_left _ (List.mem_append_right _ (List.mem_append_right _ (List.mem_append_right _ (.head _)))))
  have hpd:∀ fr:AObj,(p.2,AObj.sdict [])∈[(L,fr)]++(d8 prog w G iv ivd c (some p)++o):=λ fr=>List.mem_append_right _ (List.mem_append_left _ (List.mem_append_right _ (List.mem_append_right _ (List.mem_append_right _ (.tail _ (.head _))))))
  have hsd:∀ fr:AObj,(G.a.sd,AObj.idictE (G.ns.map λ n=>(n,.ref (G.a.sA n))) G.e0)∈[(L,fr)]++(d8 prog w G iv ivd c (some p)++o):=λ fr=>List.mem_append_right _ (List.mem_append_left _ (List.mem_append_left _ (.tail _ (.tail _ (.tail _ (.tail _ (.head _)))))))
  refine ai (cu H₄ (hpv _) (hpd _)) λ od I=>?_
  refine mt (X.keeps H₄.keep) I q5 q6 ?_ (by refine ai (ap e4) λ zz zh1=>?_;obtain rfl:=zh1;with_unfolding_all rfl)
  refine nh T (R₂.in1.mono (by decide) (by decide)) H₄ (hpv _) (hpd _) (.inr ⟨_,hsd _⟩) e4 (show valueAt (G.ns.map λ n=>(n,Value.ref (G.a.sA n))) x = some (.ref (G.a.sA x)) by rw [a8,if_pos hx]) λ av dav s5 H₅=>?_
  exact h p av dav s5 (H₅.pick (a:=L) (.tail (.tail .head))).drop
 ·intro D L x hx
  exact .inl (by revert x;exact locs rfl)
 ·intro L;exact List.nodup_nil
theorem qr {l:Addr} {vs:List Value} (H:W prog w B g os σ s) (hm:(l,AObj.list vs)∈σ) (hz:vs.length≤1000) (h:∀ a s',W prog w B g os ((a,.list vs) :: σ) s'->Q (.ref a) s'):wpAny (model prog w) A (call (.type "list") [.ref l]) Q E s:=by
 refine ac (H.get hm) λ items zh1 e=>?_;refine ai zh1 λ n ho=>?_;clear zh1
 have hsz:items.size≤sizeLine:=by rw [← e,List.length_map,Array.length_toList] at hz;rw [sizeLine_eq];walk_at "r"
 exact call_list_seq (hsz:=hsz) l (.inl rfl) ho rfl rfl λ h' c' hk hD=>h _ _ (H.add (t:=s.toks) hk (Nat.le_refl _) (ad items ⟨c',hD⟩ e))
theorem rl {value e:Expr} {p pos:Pos} {l:Addr} {vs:List Value} {k:Nat} (H:W prog w B g os σ s) (hv:Gv prog w A B g os σ (eval value env) (.ref l)) (he:Gv prog w A B g os σ (eval e env) (.int k 0)) (hm:(l,AObj.list vs)∈σ) (hz:vs.length≤1000)
  (h:∀ a s',W prog w B g os ((a,.list (vs.drop k)) :: σ) s'->Q (.ref a) s') (ht:∀ o r,letTemporaryGo value o r = pure ():=by intro _ _;rfl):wpAny (model prog w) A (eval (.Subscript value (.Slice (some e) none none p) pos) env) Q E s:=by
 refine wpAny_Subscript_Slice slot_list_getitem.lookup (hv.use H λ o s1 e1 H₁=>?_) ht
 cases ak e1
 refine wpAny_Slice (he.use H₁ λ k0 s2 ek H₂=>wpAny_pure (wpAny_pure ?_))
 refine ai (ap ek) λ tk zh1=>?_;obtain rfl:=zh1
 have H3:W prog w B g os σ { s2 with heap:=s2.heap.push { cls:=.type "slice",data:=.fields #[.int k tk,.none,.none] } }:=H₂.push (t:=s2.toks)
 refine ac (H3.get hm) λ items hl e2=>?_
 have hsz:items.size≤sizeLine:=by rw [← e2,List.length_map,Array.length_toList] at hz;rw [sizeLine_eq];walk_at "r"
 refine ⟨hl.isList.typeIs,wpAny_getItem_list_slice hl.isList (Heap.IsSliceOf.new ..) (.int k tk) .none .none (by simp) ?_ hsz⟩
 refine h _ _ (H3.add (t:=s2.toks) (λ _ _ e=>Heap.get?_push_of_some _ e) (Nat.le_refl _) (ad (slicePick items (some k) none none) ⟨_,Heap.get?_push_size _ rfl⟩ ?_))
 rw [slicePick_from',← e2,List.map_drop]
theorem nd5 (n:Nat):([n + 4,n + 2,n + 3,n,n + 1]:List Nat).Nodup:=by
 simp only [List.nodup_cons,List.mem_cons,List.not_mem_nil,or_false,not_or,not_false_eq_true,and_true,List.nodup_nil]
 walk_at "r"
theorem rC {a b:Addr} {vs ws:List Value} (H:W prog w B g os ((a,.list vs) :: (b,.list ws) :: σ) s) (h:∀ z TI TO i1 i2 s',W prog w B g os (zL .none z TI TO i1 i2 a b 0 vs ws++σ) s'->Q (.ref z) s') :
  wpAny (model prog w) A (call (.type "zip") [.ref a,.ref b]) Q E s:=by
 refine ac (H.get (.head _)) λ xs ha ea=>?_
 refine ac (H.get (.tail _ (.head _))) λ ys hb eb=>?_
 refine call_zip_2 ha.isList hb.isList λ h' b1 b2 b3 b4 b5 b6 hk=>?_
 have H1:=H.addAll (t:=s.toks) (h':=h') (es:=[(s.heap.objs.size + 4,rE .none (s.heap.objs.size + 2) (s.heap.objs.size + 3)),(s.heap.objs.size + 2,qB s.heap.objs.size (s.heap.objs.size + 1)),(s.heap.objs.size + 3,pJ),(s.heap.objs.size,a7 a 0),(s.heap.objs.size + 1,a7 b 0)]) hk
  (λ p hp=>by
   simp only [List.mem_cons,List.not_mem_nil,or_false] at hp
   rcases hp with rfl | rfl | rfl | rfl | rfl <;> dsimp only <;> walk_at "r")
  (nd5 s.heap.objs.size)
  (λ p hp=>by
   simp only [List.mem_cons,List.not_mem_nil,or_false] at hp
   rcases hp with rfl | rfl | rfl | rfl | rfl
   ·exact b1
   ·exact b2
   ·exact (ad _ b3 (c8 _ _ rfl))
   ·exact Real.listIt.mpr b4
   ·exact Real.listIt.mpr b5)
 exact h _ _ _ _ _ _ H1
theorem gT {l:Addr} {vs:List Value} (T:TE w B mg mb) (R:Rm A 1 4) (H:W prog w B g os σ s) (hm:(l,AObj.list vs)∈σ) (hz:vs.length≤100)
  (h:∀ z TI TO i1 i2 a b s',W prog w B g os (zL .none z TI TO i1 i2 a b 0 vs (vs.drop 1)++σ) s'->Q (.ref z) s'):wpAny (model prog w) A (call (.ref 78) [.ref l]) Q E s:=by
 have X:=T.X
 refine aO (args:=⟨[_],[]⟩) (d:=0) (u:=1) (cl:=λ D L=>[(L,.frame (frM _ _ L 78))]) H R X T.lim ⟨(bk _ _ _ rfl),by kernel_rfl,rfl⟩ (aY X rfl rfl rfl rfl rfl) rfl (λ D L=>aH rfl) ?_ ?_ ?_
 ·intro E' D L s2 H₂ R₂
  refine aB (aw H₂ (T.boot (x:="list") (v:=.type "list") (by decide)) (λ f0 e=>ca e) λ s3 H₃=>?_)
  refine cw1 (ab H₃ (aa (by walk_at "l") rfl) λ a0 s4 ea H₄=>ah ⟨bo,?_⟩)
  cases ak ea
  refine qr H₄ (.tail _ hm) (by walk_at "r") λ a s5 H₅=>?_
  refine al H₅ (by walk_at "l") rfl λ s₆ H₆=>?_
  refine aB (rl (k:=1) H₆ (aa (by walk_at "l") rfl) aC (by walk_at "l") (by walk_at "r") λ b s7 H₇=>?_)
  refine al H₇ (by walk_at "l") rfl λ s8 H₈=>?_
  refine cX (aw H₈ (T.boot (x:="zip") (v:=.type "zip") (by decide)) (λ f0 e=>ca e) λ s9 H₉=>?_)
  refine cw1 (ab H₉ (aa (by walk_at "l") rfl) λ a0 s10 ea H10=>ab H10 (iW (aS (v:=.bool false) (aa (by walk_at "l") rfl) λ v0 e=>cf e) (aa (by walk_at "l") rfl)) λ b0 s11 eb H11=>ah ⟨bo,?_⟩)
  cases ak ea
  cases ak eb
  refine rC (H11.perm (List.Perm.swap _ _ _)) λ z TI TO i1 i2 s12 H12=>?_
  refine h z TI TO i1 i2 a b s12 ?_
  exact (H12.pick (a:=L) (.app .head)).drop
 ·intro D L x hx
  exact .inl (by revert x;exact locs rfl)
 ·intro L;exact List.nodup_nil
noncomputable def prs:List Int->List (Value×Value)
 | x :: y :: r=>(.int x 0,.int y 0) :: prs (y :: r)
 | _=>[]
noncomputable def iI (wt:Int->Int->Int):List Int->Int
 | x :: y :: r=>wt x y + iI wt (y :: r)
 | _=>0
noncomputable def Nbr (P:Int->Int->Prop):List Int->Prop
 | x :: y :: r=>P x y∧Nbr P (y :: r)
 | _=>True
theorem o8:∀ q:List Int,(af q).zip ((af q).drop 1) = prs q
 | []=>rfl
 | [_]=>rfl
 | x :: y :: r=>by
  have h:=o8 (y :: r)
  show (Value.int x 0,Value.int y 0) :: (af (y :: r)).zip ((af (y :: r)).drop 1) = _
  rw [h];rfl
noncomputable def i4 (G:GG) (bare:Int) (wt:Int->Int->Int) (o:Led) (x y:Int):Prop :=
 x∈G.ns∧∃ a attrs,valueAt (G.su x) y = some (.ref a)∧(a,AObj.sdict attrs)∈o∧(valueAt attrs "weight").getD (.int bare 0) = .int (wt x y) 0
noncomputable def nD (P:Params):{ fd:FuncData // ∃ oc od osl,(Z0.K P).lookup 104 = some ⟨oc,od,.func fd,osl⟩ }:=⟨_,_,_,_,rfl⟩
noncomputable def qi (P:Params):{ b:List Stmt // (nD P).1.body = .stmts b }:=⟨_,rfl⟩
noncomputable def eI (net:Addr) (bare:Int) (m:Str->Option Value) (ou ov:Option Value) (L:Addr):Led:=[(L,.frame m),(L + 5,.cell ov),(L + 4,.cell ou),(L + 3,.cell (some (.int bare 0))),(L + 2,.cell (some (.str "weight" 0))),(L + 1,.cell (some (.ref net)))]
theorem kLe (P:Params):keepIn (Z0.K P) (.ref 96) = true:=by kernel_rfl
theorem kPw (P:Params):keepIn (Z0.K P) (.ref 78) = true:=by kernel_rfl
theorem bf {a b:Led} (h1:NoT a) (h2:NoT b):NoT (a++b):=λ p hp=>(List.mem_append.mp hp).elim (h1 p) (h2 p)
theorem am {a:Addr} {x:AObj} {b:Led} (h1:rp x = false) (h2:NoT b):NoT ((a,x) :: b):=λ p hp=>by
 rcases List.mem_cons.mp hp with rfl | hp
 ·exact h1
 ·exact h2 p hp
theorem cP:NoT []:=λ p hp=>by cases hp
theorem dc {α:Type} {l:List α} {F:α->Addr×AObj} (h:∀ x,rp (F x).2 = false):NoT (l.map F):=λ p hp=>by
 refine ac (List.mem_map.mp hp) λ x zz zh1=>?_;obtain rfl:=zh1
 exact h x
theorem kQ {w:World} {G:GG} {iv ivd:Addr} {c a:OA}:NoT (d8 prog w G iv ivd c a):=by
 unfold d8 GG.led GG.rest gj
 refine bf (am rfl (am rfl (am rfl (am rfl (am rfl (am rfl (bf (dc λ _=>rfl) (bf (dc λ _=>rfl) (dc λ _=>rfl))))))))) (bf (am rfl (am rfl cP)) (bf ?_ ?_))
 ·cases c with
  | none=>exact cP
  | some p=>exact am rfl (am rfl cP)
 ·cases a with
  | none=>exact cP
  | some p=>exact am rfl (am rfl cP)
theorem il {P:Addr} {q:Str} {es:List ((Nat×Nat)×Addr)}:NoT (an P q es):=am rfl (dc λ _=>rfl)
theorem kh {x:Str} {m:Str->Option Value} {v:Value} (hm:(env.locals,AObj.frame m)∈σ) (hv:m x = some v)
  (hx:env.kindOf x = some .local:=by rfl) (hk:env.scope.kind = .function:=by rfl):Gv prog w A B g os σ (loadName env x) v:=by
 intro E s H
 refine ac (H.get hm) λ m0 hn hr=>?_
 have:=hr x
 rw [hv] at this
 cases e:m0 x with
 | none=>rw [e] at this;cases this
 | some v0=>
  rw [e] at this
  exact wpAny_loadName_local hk hx hn e ⟨Option.some.inj this,H⟩
theorem lR {o:Expr} {name:Str} {apos pos:Pos} {args:List Expr} {pl:Sem Bool}
  (h:wpAny (model prog w) A (eval o env) (λ o0 s'=>wpAny (model prog w) A (getMethod o0 name pl) (λ fx s2=>wpAny (model prog w) A (callWith pos fx.1 fx.2 (backTo pos (starEach args env)) []) Q E s2) E s') E s)
  (he:eval (.Call (.Attribute o name apos) args [] pos) env = (do
   let ov ← eval o env
   standAt apos.atName
   let (f,first) ← holding [ov] (getMethod ov name pl)
   callWith pos f first (backTo pos (starEach args env)) (backToKw pos (keywordEach [] env))):=by rfl) :
  wpAny (model prog w) A (eval (.Call (.Attribute o name apos) args [] pos) env) Q E s :=
 methodCall_KW h he
theorem rh {x:Str} {pos' pos:Pos} {value:Expr} {rest:List Stmt} {m:Str->Option Value} {n:Int} {Q:Flow->Shared->Prop} (H:W prog w B g os σ s) (hm:(env.locals,AObj.frame m)∈σ) (hv:m x = some (.int n 0))
  (h:∀ s',W prog w B g os σ s'->wpAny (model prog w) A (eval value env) (λ v s2=>∃ k,cv v = .int k 0∧∀ v0 t,cv v0 = .int (n + k) 0->wpAny (model prog w) A (storeName env x v0) (λ _ s3=>wpAny (model prog w) A (execs rest env) Q E s3) E { s2 with toks:=s2.toks + t }) E s')
  (hx:env.kindOf x = some .local:=by rfl) (hk:env.scope.kind = .function:=by rfl):wpAny (model prog w) A (execs (.AugAssign (.Name x pos') .Add value pos :: rest) env) Q E s:=by
 refine wpAny_execs_cons (wpAny_AugAssign_Name ((kh hm hv hx hk).use H λ v0 s1 e1 H₁=>wpAny_mono (h s1 H₁) (λ v s2 h2=>?_) λ _ _ e=>e))
 refine ac h2 λ k ek h3=>?_;clear h2
 refine ai (ap e1) λ tn zh1=>?_;obtain rfl:=zh1
 refine ai (ap ek) λ tk zh1=>?_;obtain rfl:=zh1
 exact AutoIntOps.iadd_0 (h3 _ 1 rfl)
noncomputable def leL (prog:Program) (w:World) (G:GG) (iv ivd:Addr) (bare:Int) (es:List ((Nat×Nat)×Addr)) (o:Led) (L:Addr) (c a:OA) (m:Str->Option Value) (ou ov:Option Value):Led :=
 eI G.a.net bare m ou ov L++(d8 prog w G iv ivd c a++(an 93 qL es++((149,bg) :: o)))
theorem pO {G:GG} (hG:G.Ok) {iv ivd L P:Addr} {bare:Int} {wt:Int->Int->Int} {o:Led} {c:OA} {es:List ((Nat×Nat)×Addr)} {q:List Int} {m:Str->Option Value} (T:TX w B mg mb) (R:Rm A 7 24)
  (hq:Nbr (i4 G bare wt o) q) (hl:q.length≤100) (ho:NoT o) (hm:m "path" = some (.ref P))
  (H:W prog w B g os ((P,.list (af q)) :: leL prog w G iv ivd bare es o L c none m none none) s)
  (h:∀ t c' a' s',W prog w B g os (d8 prog w G iv ivd c' a'++(an 93 qL es++((149,bg) :: o))) s'->Q (.int (iI wt q) t) s') :
  wpAny (model prog w) (A) (execs ((qi w.params).1.drop 1) (callEnvC (nD w.params).1 L 104)) (λ f s''=>Q (match f with | .ret v=>v | _=>.none) s'') E s:=by
 have X:=T.X
 refine mT (kGm w.params) λ _ q2 _ _ _ _ _ _ q9 _ _=>?_
 refine an9 (kAv w.params) λ a1 a2 _ _ _ _ _ _ _=>?_
 have ka:=so w.params
 simp only [Bool.and_eq_true] at ka
 have hnet:∀ (x:Led) (p:Addr×AObj),p∈d8 prog w G iv ivd c none->∀ m' ou ov P' q',p∈(P',q') :: (L,AObj.frame m') :: (L + 5,.cell ov) :: (L + 4,.cell ou) :: (L + 3,.cell (some (.int bare 0))) :: (L + 2,.cell (some (.str "weight" 0))) :: (L + 1,.cell (some (.ref G.a.net))) :: (d8 prog w G iv ivd c none++x) :=
  λ x p hp m' ou ov P' q'=>.tail _ (.tail _ (.tail _ (.tail _ (.tail _ (.tail _ (.tail _ (List.mem_append_left _ hp)))))))
 replace H:W prog w B g os ((P,.list (af q)) :: (L,.frame m) :: (L + 5,.cell none) :: (L + 4,.cell none) :: (L + 3,.cell (some (.int bare 0))) :: (L + 2,.cell (some (.str "weight" 0))) :: (L + 1,.cell (some (.ref G.a.net))) :: (d8 prog w G iv ivd c none++(an 93 qL es++((149,bg) :: o)))) s:=H
 obtain ⟨ω,hω⟩:∃ k,k = an 93 qL es++((149,bg) :: o):=⟨_,rfl⟩
 rw [← hω] at H
 have hnω:NoT ω:=hω▸bf il (am rfl ho)
 refine bh H (v:=.int 0 0) aC (by walk_at "l") λ s1 H1=>?_
 replace H1:W prog w B g os ((P,.list (af q)) :: (L,.frame (put "path_length" (.int 0 0) m)) :: (L + 5,.cell none) :: (L + 4,.cell none) :: (L + 3,.cell (some (.int bare 0))) :: (L + 2,.cell (some (.str "weight" 0))) :: (L + 1,.cell (some (.ref G.a.net))) :: (d8 prog w G iv ivd c none++ω)) s1:=H1
 refine d9 (b:=false) H1 (aS (v:=.bool false) (λ E s H=>ax H (aq (c:=L + 1) rfl (by walk_at "l")) λ o0 s3 e3 H₃=>by
  cases ak e3
  exact fm X q2 H₃ (hnet _ _ (.head _) _ _ _ _ _) (hnet _ (G.a.d,ndict prog w true (kvA G iv c none)) (.tail _ (.head _)) _ _ _ _ _) (by cases c <;> rfl) (cw0 (aW (X.keeps H₃.keep) q9) (eH T.toTE (R.mono (by decide) (by decide)) H₃ λ s4 H₄=>⟨rfl,H₄⟩))) λ v0 e=>cf e) (λ q=>by cases q) λ _ s2 H2=>?_
 refine wpAny_execs_cons (wpAny_For (aw H2 (T.toTE.glob (x:="pairwise") (v:=.ref 78) (by decide)) (λ f0 e=>ak e) λ s3 H3=>?_))
 refine cw1 (ab H3 (aa (m:=put "path_length" (.int 0 0) m) (v:=.ref P) (by walk_at "l") (by exact hm)) λ a₀ s4 ea H4=>ah ⟨aW (X.keeps H4.keep) (kPw _),?_⟩)
 cases ak ea
 refine gT T.toTE (R.mono (by decide) (by decide)) H4 (.head _) (by unfold af;rw [List.length_map];exact hl) λ z TI TO i1 i2 l1 l2 s5 H5=>?_
 refine wpAny_pyIter_zip (H5.get (.head _)) ?_
 have H6:W prog w B g os (zL .none z TI TO i1 i2 l1 l2 0 (af q) ((af q).drop 1)++(eI G.a.net bare (put "path_length" (.int 0 0) m) none none L++(d8 prog w G iv ivd c none++ω))) s5:=(H5.pick (a:=P) (.app .head)).drop
 refine mK (λ r σ'=>∃ q' a m' ou ov acc,r = prs q'∧Nbr (i4 G bare wt o) q'∧acc + iI wt q' = iI wt q∧m' ("path_length":Str) = some (.int acc 0)∧σ' = eI G.a.net bare m' ou ov L++(d8 prog w G iv ivd c a++ω)) R.hd ?_ ?_ _ 0 _ rfl (lJ q none _ none none 0 (by rw [List.drop_zero];exact o8 q) hq (by walk_at "r") rfl rfl) ?_ H6
 ·intro x y r n t σ' s E' hJ hnt H
  refine jy λ Q' hQ'=>?_
  refine iM hJ λ q' a m' ou ov acc e1 hN hs hmm zh1=>?_;clear hJ;obtain rfl:=zh1
  match q',e1 with
  | X0 :: Y0 :: rq,e1=>
  refine ae (List.cons.inj e1) λ e2 zh1=>?_;obtain rfl:=zh1
  refine ae (Prod.mk.inj e2) λ zh1 zh2=>?_;obtain rfl:=zh1;obtain rfl:=zh2
  refine bj λ GZ hGZ=>?_
  refine ae hN λ zh1 hN'=>?_;clear hN;refine ae zh1 λ hx zh2=>?_;clear zh1;refine aV zh2 λ a0 attrs g1 g2 g3=>?_;clear zh2
  refine hGZ ?_
  obtain ⟨ζ,hζ⟩:∃ k,k = zL .none z TI TO i1 i2 l1 l2 (n + 1) (af q) ((af q).drop 1):=⟨_,rfl⟩
  rw [← hζ] at H
  replace H:W prog w B g os ((t,.tup [.int X0 0,.int Y0 0]) :: (ζ++([(L,AObj.frame m'),(L + 5,.cell ov),(L + 4,.cell ou),(L + 3,.cell (some (.int bare 0))),(L + 2,.cell (some (.str "weight" 0))),(L + 1,.cell (some (.ref G.a.net)))]++(d8 prog w G iv ivd c a++ω)))) s:=H
  refine j5 R.hd H (.head _) rfl rfl λ ws s' e H'=>?_
  refine aV (co e) λ a₀ b0 zh1 e1' e2'=>?_;obtain rfl:=zh1
  refine ai (ap e1') λ ta zh1=>?_;obtain rfl:=zh1
  refine ai (ap e2') λ tb zh1=>?_;obtain rfl:=zh1
  refine bK (aG (bJ (c:=L + 4) (v:=.int X0 0) H' rfl (by walk_at "l") rfl λ s2 H2=>?_))
  replace H2:W prog w B g os ((t,.tup [.int X0 0,.int Y0 0]) :: (ζ++([(L,AObj.frame m'),(L + 5,.cell ov),(L + 4,.cell (some (.int X0 0))),(L + 3,.cell (some (.int bare 0))),(L + 2,.cell (some (.str "weight" 0))),(L + 1,.cell (some (.ref G.a.net)))]++(d8 prog w G iv ivd c a++ω)))) s2:=H2
  refine bK (aG (bJ (c:=L + 5) (v:=.int Y0 0) H2 rfl (by walk_at "l") rfl λ s3 H3=>gL ?_))
  replace H3:W prog w B g os ((t,.tup [.int X0 0,.int Y0 0]) :: (ζ++([(L,AObj.frame m'),(L + 5,.cell (some (.int Y0 0))),(L + 4,.cell (some (.int X0 0))),(L + 3,.cell (some (.int bare 0))),(L + 2,.cell (some (.str "weight" 0))),(L + 1,.cell (some (.ref G.a.net)))]++(d8 prog w G iv ivd c a++ω)))) s3:=H3
  have H4:=(H3.perm (σ':=d8 prog w G iv ivd c a++([(L,AObj.frame m'),(L + 5,.cell (some (.int Y0 0))),(L + 4,.cell (some (.int X0 0))),(L + 3,.cell (some (.int bare 0))),(L + 2,.cell (some (.str "weight" 0))),(L + 1,.cell (some (.ref G.a.net)))]++((t,.tup [.int X0 0,.int Y0 0]) :: (ζ++ω)))) (by exact pm [[_],_,[_],[_],[_],[_],[_],[_],_,_] [2,6,1,8,11,14,17,20,23,0,27,31] [27,1,8,11,14,17,20,23,0,2,6,31] rfl))
  refine rh (m:=m') H4 (by walk_at "l") (by exact hmm) λ s4 H5=>?_
  refine lR (Subscript_ (Subscript_ ((aq (c:=L + 1) (v:=.ref G.a.net) rfl (by walk_at "l")).use H5<|au λ s5 H6=>?_)))
  refine (aq (c:=L + 4) (v:=.int X0 0) rfl (by walk_at "l")).use H6 λ k0 s₆ ek H7=>?_
  refine ai (ap ek) λ tk zh1=>?_;obtain rfl:=zh1
  have hI:∃ ox od,InstAt s₆.heap G.a.net ox 951 od:=by
   refine cK (d7 H7 (List.mem_append_left _ (.head _)) (List.mem_append_left _ (.tail _ (.head _)))) λ od kvs0 I D zz zz=>?_
   exact (c8 _ _ I)
  refine c6 hI λ ox od I=>?_;clear hI
  refine mt (X.keeps H7.keep) I ka.1 ka.2 ?_
  refine mu hG T.toTE (R.in1.mono (by decide) (by decide)) hx rfl H7 λ p av dav s7 H8=>?_
  refine (aq (c:=L + 5) (v:=.int Y0 0) rfl (by walk_at "l")).use H8 λ k0 s8 ek H9=>?_
  refine ai (ap ek) λ tk2 zh1=>?_;obtain rfl:=zh1
  refine ai (cu H9 (.head _) (.tail _ (.head _))) λ od2 I2=>?_
  refine mt (X.keeps H9.keep) I2 a1 a2 ?_
  refine (iQ T.toTE (R.in1.mono (by decide) (by decide)) (.head _) (.tail _ (.head _)) (e:=G.eS X0) (vs:=G.su X0) (k:=Y0) ?_ rfl g1).use H9 λ o0 s9 e9 H10=>?_
  ·refine .tail _ (.tail _ (List.mem_append_left _ (List.mem_append_left _ (.tail _ (.tail _ (.tail _ (.tail _ (.tail _ (.tail _ (List.mem_append_right _ (List.mem_append_left _ (List.mem_map.mpr (ad X0 hx rfl)))))))))))))
  cases ak e9
  have hda:(a0,AObj.sdict attrs)∈(av,AObj.raw (aK 158 dav (.ref (G.a.sA X0)))) :: (dav,.sdict []) :: (d8 prog w G iv ivd c (some p)++([(L,AObj.frame m'),(L + 5,.cell (some (.int Y0 0))),(L + 4,.cell (some (.int X0 0))),(L + 3,.cell (some (.int bare 0))),(L + 2,.cell (some (.str "weight" 0))),(L + 1,.cell (some (.ref G.a.net)))]++((t,.tup [.int X0 0,.int Y0 0]) :: (ζ++ω)))) :=
   .tail _ (.tail _ (List.mem_append_right _ (List.mem_append_right _ (.tail _ (List.mem_append_right _ (hω▸List.mem_append_right _ (.tail _ g2)))))))
  refine ac (H10.get hda) λ kv hD zz=>?_
  refine dP hD F.slot_dict_get F.type_dict_get (cw1 (ab H10 (aq (c:=L + 2) rfl (by walk_at "l")) λ a₀ s4 ea H11=>ab H11 (aq (c:=L + 3) rfl (by walk_at "l")) λ b0 s5 eb H12=>ah ⟨az,?_⟩))
  refine oX H12 hda ea eb λ v s₆ ev H13=>(ad (wt X0 Y0) (by rw [ev];exact g3) (λ v0 tt e=>?_))
  refine al H13.tok (by walk_at "l") e λ s7 H14=>ay (hQ' _ _ ⟨.inl rfl,?_⟩)
  refine (bl _ (lJ (Y0 :: rq) (some p) (put "path_length" (.int (acc + wt X0 Y0) 0) m') (some (.int X0 0)) (some (.int Y0 0)) (acc + wt X0 Y0) rfl hN' ?_ rfl rfl) ?_ ?_)
  ·have:iI wt (X0 :: Y0 :: rq) = wt X0 Y0 + iI wt (Y0 :: rq):=rfl
   walk_at "r"
  ·exact bf (am rfl (am rfl (am rfl (am rfl (am rfl (am rfl cP)))))) (bf kQ hnω)
  ·have H15:=H14.drop.drop
   replace H15:W prog w B g os (d8 prog w G iv ivd c (some p)++([(L,AObj.frame (put "path_length" (.int (acc + wt X0 Y0) 0) m')),(L + 5,.cell (some (.int Y0 0))),(L + 4,.cell (some (.int X0 0))),(L + 3,.cell (some (.int bare 0))),(L + 2,.cell (some (.str "weight" 0))),(L + 1,.cell (some (.ref G.a.net)))]++((t,.tup [.int X0 0,.int Y0 0]) :: (ζ++ω)))) s7:=H15
   rw [← hζ]
   refine (H15.perm (σ':=(t,.tup [.int X0 0,.int Y0 0]) :: _) ?_).drop
   unfold eI
   exact pm [_,[_],[_],[_],[_],[_],[_],[_],_,_] [3,1,5,8,11,14,17,20,0,23,27,31] [23,27,1,5,8,11,14,17,20,0,3,31] rfl
 ·intro σ' s zr;refine iM zr λ q' a m' ou ov acc e1 hN hs hmm zh1=>?_;clear zr;obtain rfl:=zh1;intro H
  have hw0:iI wt q' = 0:=by
   match q',e1 with
   | [],_=>rfl
   | [_],_=>rfl
   | _ :: _ :: _,e1=>cases e1
  dsimp only
  refine ay ?_
  dsimp only
  unfold eI at H
  refine gr H (aa (m:=m') (v:=.int acc 0) (by walk_at "l") (by exact hmm)) λ v0 s3 e H3=>?_
  refine ai (ap e) λ tv zh1=>?_;obtain rfl:=zh1
  have:acc = iI wt q:=by walk_at "r"
  subst this
  exact h tv c a s3 (hω▸H3.sub (List.sublist_append_right _ _))
 ·exact bf (am rfl (am rfl (am rfl (am rfl (am rfl (am rfl cP)))))) (bf kQ hnω)
theorem lC {G:GG} (hG:G.Ok) {iv ivd:Addr} {bare:Int} {wt:Int->Int->Int} {o:Led} {c:OA} {es:List ((Nat×Nat)×Addr)} {gs:List (List Int)} {p:List Int} {w0 b0:Value} (T:TX w B mg mb) (R:Rm A 8 30) (hW:WtOk G bare wt o) (hne:G.ns≠[]) (ho:NoT o)
  (hK:Kahn G.su G.ns ((G.ns.filter λ n=>decide (0 < (G.pr n).length)).map λ n=>(n,.int (G.pr n).length 0)) (G.ns.filter λ n=>(G.pr n).length == 0) gs)
  (hR:RunOk G wt gs.flatten p) (hE:Nbr (i4 G bare wt o) p.reverse) (ew:cv w0 = .str "weight" 0) (eb:cv b0 = .int bare 0)
  (H:W prog w B g os (rho prog w G iv ivd c++(an 93 qL es++((149,bg) :: o))) s)
  (h:∀ t c' a' es' s',W prog w B g os (d8 prog w G iv ivd c' a'++(an 93 qL es'++((149,bg) :: o))) s'->Q (.int (iI wt p.reverse) t) s') :
  wpAny (model prog w) A (call (.ref 104) [.ref G.a.net,w0,b0]) Q E s:=by
 have X:=T.X
 refine ai (cW ew) λ tw zh1=>?_;obtain rfl:=zh1
 refine ai (ap eb) λ tb zh1=>?_;obtain rfl:=zh1
 refine aO (args:=⟨[_,_,_],[]⟩) (d:=7) (u:=27) (fd:=(nD w.params).1) (body:=(qi w.params).1) (bd:=λ _=>[("G",.ref G.a.net),("weight",.str "weight" tw),("default_weight",.int bare tb)]) (cl:=λ D L=>eI G.a.net bare (frM (nD w.params).1 [("G",.ref G.a.net),("weight",.str "weight" tw),("default_weight",.int bare tb)] L 104) none none L) H R X T.lim ⟨(nD w.params).2,by kernel_rfl,(qi w.params).2⟩ (aY X rfl rfl rfl rfl rfl) rfl (λ D L=>rfl) ?_ ?_ ?_
 ·intro E' D L s2 H₂ R₂
  refine bN R₂ λ A R₂=>?_
  generalize hm0:frM (nD w.params).1 [("G",.ref G.a.net),("weight",.str "weight" tw),("default_weight",.int bare tb)] L 104 = m0 at H₂
  refine aB (aw (H₂:W prog w B g os ([(L,AObj.frame m0),(L + 5,.cell none),(L + 4,.cell none),(L + 3,.cell (some (.int bare 0))),(L + 2,.cell (some (.str "weight" 0))),(L + 1,.cell (some (.ref G.a.net)))]++(rho prog w G iv ivd c++(an 93 qL es++((149,bg) :: o)))) s2) (T.toTE.glob (x:="dag_longest_path") (v:=.ref 96) (by decide)) (λ f0 e=>ak e) λ s3 H3=>?_)
  refine cw1 (ab H3 (aq (c:=L + 1) (v:=.ref G.a.net) rfl (by walk_at "l")) λ a0 s4 ea H4=>ab H4 (aq (c:=L + 2) (v:=.str "weight" 0) rfl (by walk_at "l")) λ w0 s5 ew H5=>ab H5 (aq (c:=L + 3) (v:=.int bare 0) rfl (by walk_at "l")) λ b0 s₆ eb H6=>ah ⟨aW (X.keeps H6.keep) (kLe _),?_⟩)
  cases ak ea
  refine lH (gs:=gs) (p:=p) hG T (R₂.mono (by decide) (by decide)) (hW.mono (o':=o++[(L,AObj.frame m0),(L + 5,.cell none),(L + 4,.cell none),(L + 3,.cell (some (.int bare 0))),(L + 2,.cell (some (.str "weight" 0))),(L + 1,.cell (some (.ref G.a.net)))]) λ _ h=>List.mem_append_left _ h) hne hK hR ew eb (H6.perm (by unfold eI;exact pm [[_],[_],[_],[_],[_],[_],_,_,[_],_] [1,2,5,8,11,14,17,0,1,0,21,24,26,31] [21,24,26,30,2,5,8,11,14,17,0] rfl)) λ P c' es' s7 H7=>?_
  have H8:=H7.perm (σ':=(L,AObj.frame m0) :: (P,.list (af p.reverse)) :: ((L + 5,.cell none) :: (L + 4,.cell none) :: (L + 3,.cell (some (.int bare 0))) :: (L + 2,.cell (some (.str "weight" 0))) :: (L + 1,.cell (some (.ref G.a.net))) :: (d8 prog w G iv ivd c' none++(an 93 qL es'++((149,bg) :: o))))) (by rw [mX];exact pm [[_],_,_,[_],_,[_],[_],[_],[_],[_],[_]] [2,6,9,11,15,17,20,23,26,29,32,0] [17,2,20,23,26,29,32,6,9,11,16] rfl)
  refine al (m:=m0) H8 (.head) rfl λ s8 H9=>?_
  have hpl:=hR.plen
  refine pO (P:=P) (q:=p.reverse) (m:=put "path" (.ref P) m0) hG T (R₂.mono (by decide) (by decide)) hE (by rw [List.length_reverse];exact hpl) ho rfl (H9.perm (List.Perm.swap _ _ _)) λ t c2 a2 s' H'=>h t c2 a2 es' s' H'
 ·intro D L x hx
  revert x
  exact List.forall_mem_cons.mpr ⟨.inr ⟨rfl,rfl⟩,List.forall_mem_cons.mpr ⟨.inr ⟨rfl,rfl⟩,List.forall_mem_cons.mpr ⟨.inr ⟨rfl,rfl⟩,λ x hx=>by cases hx⟩⟩⟩
 ·intro L
  show [("v":Str),"u","default_weight","weight","G"].Nodup
  decide
theorem pi {G:GG} {made:Bool} {kvs:List (Str×Value)}:NoT (G.led prog w made kvs):=by
 unfold GG.led GG.rest
 exact am rfl (am rfl (am rfl (am rfl (am rfl (am rfl (bf (dc λ _=>rfl) (bf (dc λ _=>rfl) (dc λ _=>rfl))))))))
theorem no {G:GG} {bare:Int} {o:Led} {w0 b0:Value} (T:TX w B mg mb) (R:Rm A 4 14) (hne:G.ns = []) (ho:NoT o) (ew:cv w0 = .str "weight" 0) (eb:cv b0 = .int bare 0)
  (H:W prog w B g os (G.led prog w false G.a.base++o) s)
  (h:∀ t s',W prog w B g os (G.led prog w false G.a.base++o) s'->Q (.int 0 t) s') :
  wpAny (model prog w) A (call (.ref 104) [.ref G.a.net,w0,b0]) Q E s:=by
 have X:=T.X
 refine mT (kGm w.params) λ _ q2 _ _ _ _ _ _ q9 _ _=>?_
 refine ai (cW ew) λ tw zh1=>?_;obtain rfl:=zh1
 refine ai (ap eb) λ tb zh1=>?_;obtain rfl:=zh1
 refine aO (args:=⟨[_,_,_],[]⟩) (d:=3) (u:=11) (fd:=(nD w.params).1) (body:=(qi w.params).1) (bd:=λ _=>[("G",.ref G.a.net),("weight",.str "weight" tw),("default_weight",.int bare tb)]) (cl:=λ D L=>eI G.a.net bare (frM (nD w.params).1 [("G",.ref G.a.net),("weight",.str "weight" tw),("default_weight",.int bare tb)] L 104) none none L) H R X T.lim ⟨(nD w.params).2,by kernel_rfl,(qi w.params).2⟩ (aY X rfl rfl rfl rfl rfl) rfl (λ D L=>rfl) ?_ ?_ ?_
 ·intro E' D L s2 H₂ R₂
  refine bN R₂ λ A R₂=>?_
  generalize hm0:frM (nD w.params).1 [("G",.ref G.a.net),("weight",.str "weight" tw),("default_weight",.int bare tb)] L 104 = m0 at H₂
  refine aB (aw (H₂:W prog w B g os ([(L,AObj.frame m0),(L + 5,.cell none),(L + 4,.cell none),(L + 3,.cell (some (.int bare 0))),(L + 2,.cell (some (.str "weight" 0))),(L + 1,.cell (some (.ref G.a.net)))]++(G.led prog w false G.a.base++o)) s2) (T.toTE.glob (x:="dag_longest_path") (v:=.ref 96) (by decide)) (λ f0 e=>ak e) λ s3 H3=>?_)
  refine cw1 (ab H3 (aq (c:=L + 1) (v:=.ref G.a.net) rfl (by walk_at "l")) λ a0 s4 ea H4=>ab H4 (aq (c:=L + 2) (v:=.str "weight" 0) rfl (by walk_at "l")) λ w0 s5 ew H5=>ab H5 (aq (c:=L + 3) (v:=.int bare 0) rfl (by walk_at "l")) λ b0 s₆ eb H6=>ah ⟨aW (X.keeps H6.keep) (kLe _),?_⟩)
  cases ak ea
  refine gl (bare:=0) (binds:=[]) (made:=false) (kvs:=G.a.base) (o:=o++eI G.a.net bare m0 none none L) T (R₂.mono (by decide) (by decide)) hne rfl (.inl rfl) rfl (H6.perm (by unfold eI;exact pm [[_],[_],[_],[_],[_],[_],_,_] [1,2,5,8,11,14,17,0,1,0,21,25] [21,24,2,5,8,11,14,17,0] rfl)) λ P s7 H7=>?_
  have H8:=H7.perm (σ':=(L,AObj.frame m0) :: (P,.list []) :: ((L + 5,.cell none) :: (L + 4,.cell none) :: (L + 3,.cell (some (.int bare 0))) :: (L + 2,.cell (some (.str "weight" 0))) :: (L + 1,.cell (some (.ref G.a.net))) :: (G.led prog w false G.a.base++o))) (by unfold eI;exact pm [[_],_,_,[_],[_],[_],[_],[_],[_]] [2,6,9,11,14,17,20,23,26,0] [11,2,14,17,20,23,26,6,10] rfl)
  refine al (m:=m0) H8 (.head) rfl λ s8 H9=>?_
  have hm1:put "path" (cv (.ref P)) m0 "path" = some (.ref P):=rfl
  generalize put "path" (cv (.ref P)) m0 = m at hm1 H9
  have H:=H9.perm (List.Perm.swap _ _ _)
  refine bh H (v:=.int 0 0) aC (by walk_at "l") λ s1 H1=>?_
  replace H1:W prog w B g os ((P,.list []) :: (L,.frame (put "path_length" (.int 0 0) m)) :: (L + 5,.cell none) :: (L + 4,.cell none) :: (L + 3,.cell (some (.int bare 0))) :: (L + 2,.cell (some (.str "weight" 0))) :: (L + 1,.cell (some (.ref G.a.net))) :: (G.led prog w false G.a.base++o)) s1:=H1
  have hnet:∀ (p:Addr×AObj),p∈G.led prog w false G.a.base->∀ m',p∈(P,.list []) :: (L,AObj.frame m') :: (L + 5,.cell none) :: (L + 4,.cell none) :: (L + 3,.cell (some (.int bare 0))) :: (L + 2,.cell (some (.str "weight" 0))) :: (L + 1,.cell (some (.ref G.a.net))) :: (G.led prog w false G.a.base++o) :=
   λ p hp m'=>.tail _ (.tail _ (.tail _ (.tail _ (.tail _ (.tail _ (.tail _ (List.mem_append_left _ hp)))))))
  refine d9 (b:=false) H1 (aS (v:=.bool false) (λ E s H=>ax H (aq (c:=L + 1) rfl (by walk_at "l")) λ o0 s3 e3 H₃=>by
   cases ak e3
   exact fm X q2 H₃ (hnet _ (.head _) _) (hnet (G.a.d,ndict prog w false G.a.base) (.tail _ (.head _)) _) rfl (cw0 (aW (X.keeps H₃.keep) q9) (eH T.toTE (R₂.mono (by decide) (by decide)) H₃ λ s4 H₄=>⟨rfl,H₄⟩))) λ v0 e=>cf e) (λ q=>by cases q) λ _ s2 H2=>?_
  refine wpAny_execs_cons (wpAny_For (aw H2 (T.toTE.glob (x:="pairwise") (v:=.ref 78) (by decide)) (λ f0 e=>ak e) λ s3 H3=>?_))
  refine cw1 (ab H3 (aa (m:=put "path_length" (.int 0 0) m) (v:=.ref P) (by walk_at "l") (by exact hm1)) λ a0 s4 ea H4=>ah ⟨aW (X.keeps H4.keep) (kPw _),?_⟩)
  cases ak ea
  refine gT T.toTE (R₂.mono (by decide) (by decide)) H4 (.head _) (Nat.zero_le _) λ z TI TO i1 i2 l1 l2 s5 H5=>?_
  refine wpAny_pyIter_zip (H5.get (.head _)) ?_
  have H6:W prog w B g os (zL .none z TI TO i1 i2 l1 l2 0 [] []++(eI G.a.net bare (put "path_length" (.int 0 0) m) none none L++(G.led prog w false G.a.base++o))) s5:=(H5.pick (a:=P) (.app .head)).drop
  refine mK (λ r σ'=>r = []∧σ' = eI G.a.net bare (put "path_length" (.int 0 0) m) none none L++(G.led prog w false G.a.base++o)) R₂.hd ?_ ?_ _ 0 _ rfl ⟨rfl,rfl⟩ ?_ H6
  ·intro x y r n t σ' s E' zr;refine ae zr λ e zz=>?_;clear zr
   cases e
  ·intro σ' s zr;refine ae zr λ zz zh1=>?_;clear zr;obtain rfl:=zh1;intro H
   dsimp only
   refine ay ?_
   dsimp only
   unfold eI at H
   refine gr H (aa (m:=put "path_length" (.int 0 0) m) (v:=.int 0 0) (by walk_at "l") rfl) λ v0 s3 e H3=>?_
   refine ai (ap e) λ tv zh1=>?_;obtain rfl:=zh1
   exact h tv s3 (H3.sub (List.sublist_append_right _ _))
  ·exact bf (am rfl (am rfl (am rfl (am rfl (am rfl (am rfl cP)))))) (bf pi ho)
 ·intro D L x hx
  revert x
  exact List.forall_mem_cons.mpr ⟨.inr ⟨rfl,rfl⟩,List.forall_mem_cons.mpr ⟨.inr ⟨rfl,rfl⟩,List.forall_mem_cons.mpr ⟨.inr ⟨rfl,rfl⟩,λ x hx=>by cases hx⟩⟩⟩
 ·intro L
  show [("v":Str),"u","default_weight","weight","G"].Nodup
  decide
theorem fF (xs:List (List Int×Addr×Value)) (k:List Int):valueAt (xs.map λ x=>(x.1,cv x.2.2)) k = (atKey xs k).map (λ p=>cv p.2):=by
 induction xs with
 | nil=>rfl
 | cons x r ih=>
  unfold valueAt atKey at *
  rw [List.map_cons,List.find?_cons,List.find?_cons]
  by_cases h:x.1 = k
  ·simp [h]
  ·simp only [h,decide_false]
   exact ih
theorem kU {a:Addr} {i j:Int} (H:W prog w B g os σ s) (hm:(a,AObj.tup [.int i 0,.int j 0])∈σ):(tupleKind (intKind prog w)).is s.heap [i,j] a:=by
 refine bj λ GZ hGZ=>?_
 refine ac (H.get hm) λ items zh1 e=>?_;refine aU zh1 λ o ho hc zh2=>?_;clear zh1;refine ai zh2 λ n hd=>?_;clear zh2
 refine hGZ ?_
 refine (dW o items n ho hc hd ?_)
 refine aV (co e) λ a0 b0 e' e1 e2=>?_
 rw [e']
 refine ai (ap e1) λ t1 zh1=>?_;obtain rfl:=zh1
 refine ai (ap e2) λ t2 zh1=>?_;obtain rfl:=zh1
 exact .cons (intKind_is prog w i t1) (.cons (intKind_is prog w j t2) .nil)
theorem jO {d k:Addr} {kvs:List (List Int×Value)} {i j:Int} {k0 d0:Value} (R:Rm A 0 1) (hm:(d,AObj.tdict kvs)∈σ) (hk:(k,AObj.tup [.int i 0,.int j 0])∈σ) (ek:cv k0 = .ref k) (ed:cv d0 = .ref d) :
  Gv prog w A B g os σ (compareOp .In k0 d0) (.bool (valueAt kvs [i,j]).isSome):=by
 intro E s H
 cases ak ek
 cases ak ed
 refine ac (H.get hm) λ xs D e=>?_
 refine wpAny_in_heap (tupleKind_room_in1 R.un) (kU H hk) (H.ne_sys hm) D ⟨?_,H.tok⟩
 rw [← e,fF,Option.isSome_map];rfl
theorem gE {d k:Addr} {kvs:List (List Int×Value)} {i j:Int} {k0 d0:Value} (R:Rm A 0 1) (hm:(d,AObj.tdict kvs)∈σ) (hk:(k,AObj.tup [.int i 0,.int j 0])∈σ) (ek:cv k0 = .ref k) (ed:cv d0 = .ref d) :
  Gv prog w A B g os σ (compareOp .NotIn k0 d0) (.bool (!(valueAt kvs [i,j]).isSome)):=by
 intro E s H
 cases ak ek
 cases ak ed
 refine ac (H.get hm) λ xs D e=>?_
 refine wpAny_notIn_heap (tupleKind_room_in1 R.un) (kU H hk) (H.ne_sys hm) D ⟨?_,H.tok⟩
 rw [← e,fF,Option.isSome_map];rfl
theorem kN {d k:Addr} {kvs:List (List Int×Value)} {i j:Int} {k0 v:Value} (R:Rm A 0 1) (hm:(d,AObj.tdict kvs)∈σ) (hk:(k,AObj.tup [.int i 0,.int j 0])∈σ) (ek:cv k0 = .ref k) (hv:valueAt kvs [i,j] = some v) :
  Gv prog w A B g os σ (getItem (.ref d) k0) v:=by
 intro E s H
 cases ak ek
 refine ac (H.get hm) λ xs D e=>?_
 rw [← e,fF] at hv
 cases hp:atKey xs [i,j] with
 | none=>rw [hp] at hv;cases hv
 | some p=>
  rw [hp] at hv
  exact wpAny_getItem_heap (tupleKind_room_in1 R.un) (kU H hk) D hp ⟨Option.some.inj hv,H.tok⟩
theorem oE {d k:Addr} {kvs:List (List Int×Value)} {i j:Int} {k0 v0 v:Value} {Q:Unit->Shared->Prop} (R:Rm A 0 1) (H:W prog w B g os σ s) (u:Up d (.tdict kvs) σ f) (hk:(k,AObj.tup [.int i 0,.int j 0])∈σ) (ek:cv k0 = .ref k) (ev:cv v0 = v) (hz:kvs.length≤1000) (hn:valueAt kvs [i,j] = none)
  (h:∀ s',W prog w B g os (f (.tdict (kvs++[([i,j],v)]))) s'->Q () s'):wpAny (model prog w) A (setItem (.ref d) k0 v0) Q E s:=by
 cases ak ek
 refine ac (H.get u.mem) λ xs D e=>?_
 rw [← e,fF,Option.map_eq_none_iff] at hn
 refine dq (id D) λ o es ep ho zz hdd zz=>?_
 refine wpAny_setItem_heap (tupleKind_room_in1 R.un) (kU H hk) D (λ h' D' hs=>h _ (H.upd u hs.extBut (.dict ho hdd) (ad _ D' ?_))) (by rw [← e,List.length_map] at hz;rw [sizeLine_eq];walk_at "r")
 rw [storedH_new hn,List.map_append,e]
 simp only [List.map_cons,List.map_nil,ev]
theorem gK:isSeqSlot (some (.builtin "list.__iadd__")) = true:=by decide +kernel
theorem jw:fillsInplaceSlot (.type "list") "add" (Operator.Add == .Add) = pure false:=by
 unfold fillsInplaceSlot
 show (typeLookup (.type "list") (dunderI "add") >>= λ fi=>pure (fi.isSome && !isSeqSlot fi)) = pure false
 rw [F.slot_list_iadd.lookup,pure_bind,gK];rfl
theorem nj:seqSlot? (.type "list") (dunderI "add") = pure (some (.builtin "list.__iadd__")):=PySem.seqSlot_of F.slot_list_iadd.lookup gK
noncomputable def bu (a:Int) (n:Nat):List eT:=(List.range n).map λ (k:Nat)=>one (.int (a + k) 0)
theorem gn (a:Int) (n:Nat):bu a (n + 1) = one (.int a 0) :: bu (a + 1) n:=by
 unfold bu
 rw [List.range_succ_eq_map,List.map_cons,List.map_map]
 refine congr (congrArg List.cons ?_) (List.map_congr_left λ k _=>?_)
 ·congr 2;walk_at "r"
 ·simp only [Function.comp]
  congr 2
  walk_at "r"
theorem dI (a:Int) (n:Nat):(bu a n).length = n:=by unfold bu;rw [List.length_map,List.length_range]
theorem bE {a:Int} {n:Nat} {x:eT} {xs:List eT} (h:x :: xs = bu a n):∃ n',n = n' + 1∧x = one (.int a 0)∧xs = bu (a + 1) n':=by
 cases n with
 | zero=>cases h
 | succ n'=>rw [gn] at h;refine ae (List.cons.inj h) λ h1 h2=>?_;exact (bl n' rfl h1 h2)
theorem bY {a:Int} {n:Nat} (h:[] = bu a n):n = 0:=by
 cases n with
 | zero=>rfl
 | succ n'=>rw [gn] at h;cases h
theorem pB {a b:Addr} {vs ws:List Value} (H:W prog w B g os σ s) (u:Up a (.list vs) σ f) (hb:(b,AObj.list ws)∈σ) (hz:vs.length + ws.length≤1000)
  (h:∀ s',W prog w B g os (f (.list (vs++ws))) s'->Q (.ref a) s'):wpAny (model prog w) A (inplaceOp .Add (.ref a) (.ref b)) Q E s:=by
 refine bj λ GZ hGZ=>?_
 refine ac (H.get u.mem) λ items zh1 e=>?_;refine ai zh1 λ n ho=>?_;clear zh1
 refine ac (H.get hb) λ items2 zh1 e2=>?_;refine ai zh1 λ n2 ho2=>?_;clear zh1
 refine hGZ ?_
 have hT:s.TypeIs (.ref a) "list":=(ad _ ho rfl)
 have hT2:s.TypeIs (.ref b) "list":=(ad _ ho2 rfl)
 have hs1:items.size + items2.size≤1000:=by rw [← e,← e2,List.length_map,List.length_map,Array.length_toList,Array.length_toList] at hz;exact hz
 have hsl:=sizeLine_eq
 unfold inplaceOp
 refine wpAny_holding ?_
 refine wpAny_bind (wpAny_typeOf hT (wpAny_bind (wpAny_of_eq jw ?_)))
 show wpAny _ A (if false = true then _ else _) Q E s
 rw [if_neg Bool.false_ne_true]
 refine wpAny_bind (wpAny_binaryOp1_none (nm:="add") hT hT2 noFill_list_add ?_)
 refine wpAny_bind (wpAny_of_eq nj ?_)
 refine wpAny_bind (wpAny_rule ?_)
 refine call_meets F.slot_list_iadd hT F.entry_list_iadd (F.args_list_iadd_2 _ _) (AutoSeq1.list___iadd___list_list_0 a items n b items2 n2 (by
  unfold Builtin.List.listTooLong
  simp only [Bool.and_eq_true,decide_eq_true_eq,not_and]
  intro _;walk_at "r") (by walk_at "r") (by walk_at "r")) (aQ ho ho2 (h _ ?_))
 refine ai (Obj.data_mapSeq (o:={ cls:=.type "list",dict:=none,data:=.seq items n,slots:=#[] }) rfl (λ xs=>xs++items2)) λ n' hd'=>?_
 refine H.upd (t:=s.toks) u (Heap.SameBut.update ..).extBut (.list (bl _ ho rfl (c5 _ rfl))) (ad (items++items2) ⟨_,Heap.get?_update_self _ ho rfl⟩ ?_)
 rw [Array.toList_append,List.map_append,e,e2]
theorem qO {a b:Int} {a0 b0:Value} (hh:A.handled = none) (ea:cv a0 = .int a 0) (eb:cv b0 = .int b 0):Gv prog w A B g os σ (call (.builtin "max") [a0,b0]) (.int (max a b) 0):=by
 intro E s H
 refine ai (ap ea) λ ta zh1=>?_;obtain rfl:=zh1
 refine ai (ap eb) λ tb zh1=>?_;obtain rfl:=zh1
 refine max_two_ints hh λ h' tk hk=>⟨?_,H.grow (t:=tk) hk⟩
 by_cases h:b > a
 ·rw [if_pos h,show max a b = b by walk_at "r"];rfl
 ·rw [if_neg h,show max a b = a by walk_at "r"];rfl
theorem fO:∀ (items:List Value) (ns:List Int),items.map cv = af ns->∃ xs:List (Int×Tok),items = xs.map (λ p=>.int p.1 p.2)∧xs.map (·.1) = ns
 | [],[],_=>(ad [] rfl rfl)
 | [],_ :: _,e=>by cases e
 | _ :: _,[],e=>by cases e
 | v :: vs,n :: ns,e=>by
  refine ae (List.cons.inj e) λ e1 e2=>?_
  refine ai (ap e1) λ t zh1=>?_;obtain rfl:=zh1
  refine ac (fO vs ns e2) λ xs zh1 zh2=>?_;obtain rfl:=zh1;obtain rfl:=zh2
  exact (ad ((n,t) :: xs) rfl rfl)
theorem rR {l:Addr} {ns:List Int} (hh:A.handled = none) (hm:(l,AObj.list (af ns))∈σ):Gv prog w A B g os σ (call (.builtin "sum") [.ref l]) (.int ns.sum 0):=by
 intro E s H
 refine ac (H.get hm) λ items hl e=>?_
 refine ac (fO _ _ e) λ xs e1 e2=>?_
 have e3:items = intItems xs.toArray:=by
  unfold intItems
  rw [← Array.toArray_toList (xs:=items),e1];simp
 have hl':=hl.isList
 rw [e3] at hl'
 refine sum_intListG hh hl' λ h' tk t' hk=>⟨?_,H.grow (t:=tk) hk⟩
 show Value.int _ 0 = _
 congr 1
 rw [preSum_eq,List.take_of_length_le (by simp),← e2]
theorem li {a b:Bool} {a0 b0:Value} (ea:cv a0 = .bool a) (eb:cv b0 = .bool b):Gv prog w A B g os σ (compareOp .NotEq a0 b0) (.bool (!(a == b))):=λ E s H=>by
 cases bS ea
 cases bS eb
 exact SeqAt.RcNeAt.bool_bool a b prog w E _ ⟨rfl,H⟩
theorem nw {r:Addr} {n:Nat} (H:W prog w B g os σ s) (hm:(r,bB 0 ((n:Int) - 1))∈σ) (hb:n≤1000) (h:∀ I s',W prog w B g os ((I,dA 0 ((n - 1:Nat):Int)) :: σ) s'->Q (.ref I) s') :
  wpAny (model prog w) A (pyIter (.ref r)) Q E s:=by
 cases n with
 | succ n=>
  have e:((n + 1:Nat):Int) - 1 = n:=by walk_at "r"
  rw [e] at hm
  refine cN H hm (by walk_at "r") (by walk_at "r") (by walk_at "r") λ I s' H'=>h I s' ?_
  have e2:((n:Int) - 0).toNat = n + 1 - 1:=by walk_at "r"
  rw [e2] at H'
  exact H'
 | zero=>
  refine ac (H.get hm) λ o ho zh1=>?_;refine cw zh1 λ t u v zh2=>?_;clear zh1;obtain rfl:=zh2
  have h1:(((0:Nat):Int) - 1) = -1:=rfl
  rw [h1] at ho
  have hs:Builtin.Range.small 0 (-1) 1 = true:=by decide
  refine wpAny_pyIter_range ho hs (h _ _ (H.add (t:=s.toks) (λ _ _ e=>Heap.get?_push_of_some _ e) (Nat.le_refl _) ?_))
  have:Builtin.Range.rangeSize 0 (-1) 1 = ((0 - 1:Nat):Int):=by decide
  rw [this]
  exact Heap.get?_push_size _ rfl
noncomputable def jq (P:Params):{ fd:FuncData // ∃ oc od osl,(Z0.K P).lookup 966 = some ⟨oc,od,.func fd,osl⟩ }:=⟨_,_,_,_,rfl⟩
noncomputable def fq (P:Params):{ b:List Stmt // (jq P).1.body = .stmts b }:=⟨_,rfl⟩
noncomputable abbrev cr (P:Params) (L:Addr):Env:=callEnvC (jq P).1 L 966
structure WX where
 target:Expr
 iter:Expr
 body:List Stmt
 pos:Pos
 rest:List Stmt
noncomputable def gG (P:Params):{ x:WX // (fq P).1.drop 9 = .For x.target x.iter x.body [] x.pos :: x.rest }:=⟨⟨_,_,_,_,_⟩,rfl⟩
structure IX where
 test:Expr
 body:List Stmt
 pos:Pos
 s0:Stmt
noncomputable def lG (P:Params):{ x:IX // (gG P).1.body = [x.s0,.If x.test x.body [] x.pos] }:=⟨⟨_,_,_,_⟩,rfl⟩
noncomputable def jr (q:List Int):List (Int×Int):=(List.range (q.length - 1)).map λ k=>(q.getD k 0,q.getD (k + 1) 0)
structure ST where
 t:Addr
 a:Int
 b:Int
noncomputable def aP (st:List ST):Led:=st.map λ e=>(e.t,.tup [.int e.a 0,.int e.b 0])
noncomputable def aE (st:List ST):List Value:=st.map λ e=>.ref e.t
noncomputable def eO (st:List ST):List (Int×Int):=st.map λ e=>(e.a,e.b)
theorem oG {L Tb P:Addr} {m:Str->Option Value} {ow:Option Value} {many best:Int} {q:List Int} {tk:List (List Int×Value)} {wf:Int×Int->Int} {o:Led} {Q:Shared->Prop} (T:TX w B mg mb) (R:Rm A 3 10)
  (n1:m "many" = some (.int many 0)) (n2:m "best" = some (.int best 0)) (hst:∀ p∈jr q,valueAt tk [p.1,p.2] = some (.int (wf p) 0)) (hsum:((jr q).map wf).sum = best)
  (hq:decide (many > 0) = decide ((q.length:Int) > 0)) (hl:q.length≤100)
  (H:W prog w B g os ((L,.frame m) :: (L + 5,.cell ow) :: (L + 2,.cell (some (.ref Tb))) :: (P,.list (af q)) :: (Tb,.tdict tk) :: o) s)
  (h:∀ v s',W prog w B g os ((L,.frame (put "steps" v m)) :: (L + 5,.cell (some (.ref P))) :: (L + 2,.cell (some (.ref Tb))) :: (P,.list (af q)) :: (Tb,.tdict tk) :: o) s'->Q s') :
  wpAny (model prog w) A (assign (gG w.params).1.target (cr w.params L) (.ref P)) (λ _ s2=>wpAny (model prog w) A (execs (gG w.params).1.body (cr w.params L)) (λ fl s3=>(fl = .next∨fl = .cont)∧Q s3) E s2) E s:=by
 have X:=T.X
 dsimp only [gG,cr,jq,fq]
 refine aG (bJ (c:=L + 5) (v:=.ref P) H rfl (by walk_at "a") rfl λ s1 H1=>?_)
 replace H1:W prog w B g os ((L,.frame m) :: (L + 5,.cell (some (.ref P))) :: (L + 2,.cell (some (.ref Tb))) :: (P,.list (af q)) :: (Tb,.tdict tk) :: o) s1:=H1
 refine eK ?_
 obtain ⟨σ,hσ⟩:∃ k,k = (L,AObj.frame m) :: (L + 5,.cell (some (.ref P))) :: (L + 2,.cell (some (.ref Tb))) :: (P,.list (af q)) :: (Tb,.tdict tk) :: o:=⟨_,rfl⟩
 rw [← hσ] at H1
 have f5:(L + 5,AObj.cell (some (.ref P)))∈σ:=by rw [hσ];walk_at "a"
 have fP:(P,AObj.list (af q))∈σ:=by rw [hσ];walk_at "a"
 refine lo (σ:=σ) (g:=g) (tg:=aM) (d:=2) (u:=8) (B:=B) (os:=os) (cl:=[("way",L + 5)])
  (λ xs ws o'=>∃ (st:List ST) (k n:Nat),xs = bu k n∧k + n = q.length - 1∧ws = aE st∧eO st = (List.range k).map (λ k=>(q.getD k 0,q.getD (k + 1) 0))∧o' = aP st) trivial (R.mono (by decide) (by decide)) rfl ?_ ?_ ?_
 ·refine aw H1 (T.toTE.boot (x:="range") (v:=.type "range") (by decide)) (λ f0 e=>ca e) λ s2 H2=>?_
  refine cw1 (ab H2 (mj (dJ (T.toTE.boot (by decide)) (aq (c:=L + 5) rfl f5) λ v0 e=>j9 (vs:=af q) fP e (by unfold af;rw [List.length_map];walk_at "r")) aC) λ a0 s3 ea H3=>ah ⟨bo,?_⟩)
  refine cU H3 ea λ r s4 H4=>?_
  have e0:((af q).length:Int) - 1 = (q.length:Int) - 1:=by unfold af;rw [List.length_map]
  rw [e0] at H4
  refine nw H4 (.head _) (by walk_at "r") λ I s5 H5=>?_
  exact (jJ I (bu 0 (q.length - 1)) _ [] rfl (by rw [dI];walk_at "r") (bn _ 0) dG (eE [] 0 (q.length - 1) rfl (by walk_at "r") rfl rfl rfl) ((H5.pick (a:=r) (.tail .head)).drop))
 ·intro xq xs ws Cf mc γ o' v ν τ s' E2 Qy Qn hτ hJ
  refine dQ hJ λ st k n e1 e2 e3 e4 zh1=>?_;clear hJ;obtain rfl:=zh1
  intro hx H2 hy hn
  refine aU (bE e1) λ n zh1 zh2 zh3=>?_;obtain rfl:=zh1;obtain rfl:=zh2;obtain rfl:=zh3
  refine ae hx λ ev zh1=>?_;clear hx;obtain rfl:=zh1
  replace f5:=hτ _ f5
  replace fP:=hτ _ fP
  replace H2:W prog w B γ os ((Cf,.frame mc) :: (aP st++τ)) s':=H2
  refine aG (al H2 (by walk_at "a") ev λ s3 H3=>i7 ?_)
  rw [if_pos rfl]
  have hk1:k + 1 < q.length:=by walk_at "r"
  have hg1:(af q)[(k:Int).toNat]? = some (.int (q.getD k 0) 0):=by
   show (af q)[k]? = _
   unfold af
   rw [List.getElem?_map,List.getD_eq_getElem?_getD,List.getElem?_eq_getElem (by walk_at "r")];rfl
  have hg2:(af q)[((k:Int) + 1).toNat]? = some (.int (q.getD (k + 1) 0) 0):=by
   show (af q)[k + 1]? = _
   unfold af
   rw [List.getElem?_map,List.getD_eq_getElem?_getD,List.getElem?_eq_getElem (by walk_at "r")];rfl
  refine d6 (ab H3 (cq (k:=k) (aq (c:=L + 5) rfl (by walk_at "a")) (aa (by walk_at "a") rfl) (by walk_at "a") (by walk_at "r") hg1 (by walk_at "r")) λ a0 s4 ea H4=>
   ab H4 (cq (k:=(k:Int) + 1) (aq (c:=L + 5) rfl (by walk_at "a")) (kB (a:=k) (b:=1) (aa (by walk_at "a") rfl) aC) (by walk_at "a") (by walk_at "r") hg2 (by walk_at "r")) λ b0 s5 eb H5=>ah ?_)
  refine bD H5 (ws:=[.int (q.getD k 0) 0,.int (q.getD (k + 1) 0) 0]) (by simp [ea,eb]) (by simp) λ t' s₆ H6=>?_
  refine hy _ (put "k" (.int k 0) mc) (aP st++[(t',.tup [.int (q.getD k 0) 0,.int (q.getD (k + 1) 0) 0])]) _ (eE (st++[⟨t',q.getD k 0,q.getD (k + 1) 0⟩]) (k + 1) n rfl (by walk_at "r") ?_ ?_ (by unfold aP;rw [List.map_append];rfl)) (H6.perm (fS (b:=(Cf,_)) (X:=aP st) (T:=τ)))
  ·rw [e3];unfold aE;rw [List.map_append];rfl
  ·unfold eO at *
   rw [List.map_append,e4,List.range_succ,List.map_append];rfl
 ·intro Dl Cf mc ws o' s2 Qd hJ
  refine dQ hJ λ st k n e1 e2 e3 e4 zh1=>?_;clear hJ;obtain rfl:=zh1
  intro H2 hd
  have hn:=bY e1
  subst hn
  obtain rfl:k = q.length - 1:=by walk_at "r"
  have hpr:eO st = jr q:=e4
  clear e4 e1 f5 fP
  rw [hσ] at H2
  replace H2:W prog w B g os ((Cf,.frame mc) :: (Dl,.list ws) :: (L,.frame m) :: (L + 5,.cell (some (.ref P))) :: (L + 2,.cell (some (.ref Tb))) :: (P,.list (af q)) :: (Tb,.tdict tk) :: (o++aP st)) s2:=H2
  refine aG (al H2 (by walk_at "a") rfl λ s3 H3=>hd _ _ _ H3 λ s4 H4=>?_)
  subst e3
  have h':∀ s',W prog w B g os ((L,.frame (put "steps" (.ref Dl) m)) :: (L + 5,.cell (some (.ref P))) :: (L + 2,.cell (some (.ref Tb))) :: (P,.list (af q)) :: (Tb,.tdict tk) :: o) s'->Q s':=λ s' H'=>h _ s' H'
  replace H4:W prog w B g os ((Dl,.list (aE st)) :: (L,.frame (put "steps" (.ref Dl) m)) :: (L + 5,.cell (some (.ref P))) :: (L + 2,.cell (some (.ref Tb))) :: (P,.list (af q)) :: (Tb,.tdict tk) :: (o++aP st)) s4:=H4
  have k1:put "steps" (.ref Dl) m "many" = some (.int many 0):=n1
  have k2:put "steps" (.ref Dl) m "best" = some (.int best 0):=n2
  have k3:put "steps" (.ref Dl) m "steps" = some (.ref Dl):=rfl
  generalize put "steps" (.ref Dl) m = m1 at H4 h' k1 k2 k3
  clear H2 H3 H1 H
  obtain ⟨θ,hθ⟩:∃ k,k = (Dl,AObj.list (aE st)) :: (L,.frame m1) :: (L + 5,.cell (some (.ref P))) :: (L + 2,.cell (some (.ref Tb))) :: (P,.list (af q)) :: (Tb,.tdict tk) :: (o++aP st):=⟨_,rfl⟩
  rw [← hθ] at H4
  have fD:(Dl,AObj.list (aE st))∈θ:=by rw [hθ];walk_at "a"
  have fL:((cr w.params L).locals,AObj.frame m1)∈θ:=by rw [hθ];walk_at "a"
  have f5:(L + 5,AObj.cell (some (.ref P)))∈θ:=by rw [hθ];walk_at "a"
  have f2:(L + 2,AObj.cell (some (.ref Tb)))∈θ:=by rw [hθ];walk_at "a"
  have fP:(P,AObj.list (af q))∈θ:=by rw [hθ];walk_at "a"
  have fT:(Tb,AObj.tdict tk)∈θ:=by rw [hθ];walk_at "a"
  have ft:∀ e∈st,(e.t,AObj.tup [.int e.a 0,.int e.b 0])∈θ:=λ e he=>by
   rw [hθ];exact .tail _ (.tail _ (.tail _ (.tail _ (.tail _ (.tail _ (List.mem_append_right _ (List.mem_map.mpr (ad e he rfl))))))))
  have hfin:∀ s,W prog w B g os θ s->Q s:=λ s H=>by
   rw [hθ] at H
   exact h' s (H.drop.sub (.cons₂ _ (.cons₂ _ (.cons₂ _ (.cons₂ _ (.cons₂ _ (List.sublist_append_left _ _)))))))
  clear h h' hθ
  have hlen:st.length = q.length - 1:=by
   have:=congrArg List.length hpr
   unfold eO jr at this
   simpa using this
  have hgoal:∀ E',wpAny (model prog w) A (isTrue (lG w.params).1.test (cr w.params L) (eval (lG w.params).1.test (cr w.params L))) (λ b s'=>b = false∧W prog w B g os θ s') E' s4:=by
   intro E'
   dsimp only [lG,gG,cr,jq,fq]
   refine eL λ Q3 hQ3=>?_
   refine wpAny_isTrue_BoolOp (wpAny_allTrue_Or_cons ?_)
   have hb:(!(decide (many > 0) == decide ((q.length:Int) > 0))) = false:=by rw [hq];simp
   have hlq:((af q).length:Int) = q.length:=by unfold af;rw [List.length_map]
   refine (aT (v:=false) (ki (v:=.bool (decide (many > 0))) (aa fL k1) aC λ a0 b0 ea eb=>nq ea eb)
    (ki (v:=.bool (decide ((q.length:Int) > 0))) (dJ (T.toTE.boot (by decide)) (aq (c:=L + 5) rfl f5) λ v0 e=>j9 (vs:=af q) fP e (by unfold af;rw [List.length_map];walk_at "r")) aC λ a0 b0 ea eb=>by rw [hlq] at ea;exact nq ea eb)
    λ a0 b0 ea eb=>by rw [← hb];exact li ea eb).use H4 λ s5 H5=>?_
   simp only [Bool.false_eq_true,if_false]
   refine wpAny_allTrue_Or_cons (wpAny_isTrue_value (?_))
   refine dl (σ:=θ) (g:=g) (tg:=aM) (d:=2) (u:=8) (B:=B) (os:=os) (cl:=[("table",L + 2)])
    (λ xs ws o'=>ws = []∧o' = []∧∃ (r:List ST),xs = (aE r).map one∧(∀ e∈r,e∈st)) trivial (R.mono (by decide) (by decide)) rfl ?_ ?_ ?_
   ·refine (aa fL k3).use H5<|au λ s₆ H6=>?_
    refine dw H6 fD λ I s7 H7=>?_
    exact (jJ I ((aE st).map one) [(I,a7 Dl 0)] [] rfl (by unfold aE;rw [List.length_map,List.length_map];walk_at "r") (bG (vs:=aE st) (λ _=>fD) _ 0 rfl) jf (aQ rfl rfl (ad st rfl (λ e he=>he))) H7)
   ·intro xq xs ws Cf mc γ o' v ν τ s' E2 Qy Qn hτ hJ
    refine bP hJ λ zh1 zh2 zh3=>?_;clear hJ;obtain rfl:=zh1;obtain rfl:=zh2;refine ac zh3 λ r e1 e2=>?_;clear zh3
    intro hx H6 hy hn
    cases r with
    | nil=>cases e1
    | cons e r=>
    refine ae (List.cons.inj e1) λ zh1 zh2=>?_;obtain rfl:=zh1;obtain rfl:=zh2
    refine ae hx λ ev zh1=>?_;clear hx;obtain rfl:=zh1
    have hep:(e.a,e.b)∈jr q:=by rw [← hpr];exact List.mem_map.mpr (ad e (e2 e (.head _)) rfl)
    have hmt:=hτ _ (ft e (e2 e (.head _)))
    replace f2:=hτ _ f2
    replace fT:=hτ _ fT
    refine aG (al (v:=.ref e.t) (H6:W prog w B γ os ((Cf,.frame mc) :: τ) s') (by walk_at "a") ev λ s7 H7=>i5 ?_)
    have hs:=hst _ hep
    refine (aT (v:=false) (aa (v:=.ref e.t) (by walk_at "a") rfl) (aq (c:=L + 2) (v:=.ref Tb) rfl (by walk_at "a")) λ a0 b0 ea eb=>by
     rw [show false = !(valueAt tk [e.a,e.b]).isSome by rw [hs];rfl]
     exact gE (R.mono (by decide) (by decide)) (by walk_at "a") (.tail _ hmt) ea eb).use H7 λ s8 H8=>?_
    rw [if_neg Bool.false_ne_true]
    exact hn _ [] _ (aQ rfl rfl (ad r rfl (λ e he=>e2 e (.tail _ he)))) H8
   ·intro D2 ws o' s₆ hJ
    refine bP hJ λ zh1 zh2 zh3=>?_;clear hJ;obtain rfl:=zh1;obtain rfl:=zh2;refine ac zh3 λ r e1 e2=>?_;clear zh3
    intro H6
    rw [List.append_nil] at H6
    refine (gb (vs:=[]) (.head _) rfl (Nat.zero_le _)).use H6 λ s7 H7=>?_
    rw [if_neg (by decide)]
    refine wpAny_allTrue_Or_cons (wpAny_isTrue_Compare1 ?_)
    refine aw H7.drop (T.toTE.boot (x:="sum") (v:=.builtin "sum") (by decide)) (λ f0 e=>bX e) λ s8 H8=>?_
    refine cw1 (be ?_)
    refine dl (σ:=θ) (g:=g) (tg:=aM) (d:=2) (u:=8) (B:=B) (os:=os) (cl:=[("table",L + 2)])
     (λ xs ws o'=>o' = []∧∃ (dn r:List ST),xs = (aE r).map one∧dn++r = st∧ws = af ((eO dn).map wf)) trivial (R.mono (by decide) (by decide)) rfl ?_ ?_ ?_
    ·refine (aa fL k3).use H8<|au λ s9 H9=>?_
     refine dw H9 fD λ I s10 H10=>?_
     exact (jJ I ((aE st).map one) [(I,a7 Dl 0)] [] rfl (by unfold aE;rw [List.length_map,List.length_map];walk_at "r") (bG (vs:=aE st) (λ _=>fD) _ 0 rfl) jf (aJ rfl (bc [] st rfl rfl rfl)) H10)
    ·intro xq xs ws Cf mc γ o' v ν τ s' E2 Qy Qn hτ hJ
     refine ae hJ λ zh1 zh2=>?_;clear hJ;obtain rfl:=zh1;refine aV zh2 λ dn r e1 e2 zh3=>?_;clear zh2;obtain rfl:=zh3
     intro hx H9 hy hn
     cases r with
     | nil=>cases e1
     | cons e r=>
     refine ae (List.cons.inj e1) λ zh1 zh2=>?_;obtain rfl:=zh1;obtain rfl:=zh2
     refine ae hx λ ev zh1=>?_;clear hx;obtain rfl:=zh1
     have hest:e∈st:=by rw [← e2];exact List.mem_append_right _ (.head _)
     have hep:(e.a,e.b)∈jr q:=by rw [← hpr];exact List.mem_map.mpr (ad e hest rfl)
     have hmt:=hτ _ (ft e hest)
     replace f2:=hτ _ f2
     replace fT:=hτ _ fT
     refine aG (al (v:=.ref e.t) (H9:W prog w B γ os ((Cf,.frame mc) :: τ) s') (by walk_at "a") ev λ s10 H10=>i7 ?_)
     rw [if_pos rfl]
     refine (cz (k:=.ref e.t) (v:=.int (wf (e.a,e.b)) 0) "dict" _ (aq (c:=L + 2) (v:=.ref Tb) rfl (by walk_at "a")) (aa (v:=.ref e.t) (by walk_at "a") rfl) (ko (vs:=tk) (by walk_at "a")) (λ k0 ek=>kN (R.mono (by decide) (by decide)) (by walk_at "a") (.tail _ hmt) ek (hst _ hep)) slot_dict_getitem.lookup (λ k0 ek=>by cases ak ek;with_unfolding_all rfl)).use H10 λ v0 s11 e11 H11=>?_
     refine hy _ _ [] _ (aJ rfl (bc (dn++[e]) r rfl (by rw [List.append_assoc];exact e2) ?_)) H11
     rw [e11];unfold eO af;rw [List.map_append,List.map_append,List.map_append];rfl
    ·intro D3 ws o' s9 hJ
     refine ae hJ λ zh1 zh2=>?_;clear hJ;obtain rfl:=zh1;refine aV zh2 λ dn r e1 e2 zh3=>?_;clear zh2;obtain rfl:=zh3
     intro H9
     have:r = []:=by cases r with | nil=>rfl | cons=>cases e1
     subst this
     rw [List.append_nil] at e2 H9
     subst e2
     refine ah ⟨az,?_⟩
     rw [hpr] at H9
     refine (rR (ns:=(jr q).map wf) R.hd (.head _)).use H9 λ v0 s10 e10 H10=>?_
     rw [hsum] at e10
     refine (aa (v:=.int best 0) fL k2).use H10.drop λ b0 s11 e11 H11=>?_
     refine (qc e10 e11).use H11 λ c0 s12 e12 H12=>?_
     rw [show (best != best) = false by simp] at e12
     cases bS e12
     refine wpAny_truthy_bool ?_
     rw [if_neg Bool.false_ne_true]
     exact wpAny_allTrue_Or_nil (hQ3 _ _ ⟨rfl,H12⟩)
  have hex:∀ E',wpAny (model prog w) A (execs [Stmt.If (lG w.params).1.test (lG w.params).1.body [] (lG w.params).1.pos] (cr w.params L)) (λ fl s3=>(fl = .next∨fl = .cont)∧Q s3) E' s4:=by
   intro E'
   refine wpAny_execs_cons (wpAny_If (wpAny_mono (hgoal _) (λ b s5 h5=>?_) λ _ _ e=>e))
   refine ae h5 λ zh1 H5=>?_;clear h5;obtain rfl:=zh1
   exact ay (ay ⟨.inl rfl,hfin s5 H5⟩)
  exact hex _
theorem rZ (P:Params):keepIn (Z0.K P) (.ref 104) = true:=by kernel_rfl
structure RX where
 e:Expr
 b:Expr
 p:Pos
 pos:Pos
noncomputable def qq (P:Params):{ x:RX // (gG P).1.rest = [.Return (some (.Compare x.e [.Eq] [x.b] x.p)) x.pos] }:=⟨⟨_,_,_,_⟩,rfl⟩
structure LM (net l:Addr) (many best bare:Int) (m:Str->Option Value):Prop where
 many:m "many" = some (.int many 0)
 best:m "best" = some (.int best 0)
 bare:m "bare" = some (.int bare 0)
 net:m "net" = some (.ref net)
 names:m "names" = some (.ref l)
theorem LM.steps {net l:Addr} {many best bare:Int} {m:Str->Option Value} {v:Value} (h:LM net l many best bare m):LM net l many best bare (put "steps" v m):=⟨h.1,h.2,h.3,h.4,h.5⟩
structure WayOk (tk:List (List Int×Value)) (wf:Int×Int->Int) (many best:Int) (q:List Int):Prop where
 st:∀ p∈jr q,valueAt tk [p.1,p.2] = some (.int (wf p) 0)
 sum:((jr q).map wf).sum = best
 ne:decide (many > 0) = decide ((q.length:Int) > 0)
 len:q.length≤100
noncomputable def lwE (L Tb l:Addr) (m:Str->Option Value) (ow:Option Value) (names:List Int) (tk:List (List Int×Value)):Led :=
 [(L,.frame m),(L + 5,.cell ow),(L + 2,.cell (some (.ref Tb))),(Tb,.tdict tk),(l,.list (af names))]
theorem iT {L Tb l P1 P2 net t:Addr} {names q1 q2:List Int} {many best bare:Int} {tk:List (List Int×Value)} {wf:Int×Int->Int} {o:Led} {Rs:Result->Shared->Prop} {m:Str->Option Value} {ow:Option Value} {I:Addr} (T:TX w B mg mb) (R:Rm A 3 10)
  (h1:WayOk tk wf many best q1) (h2:WayOk tk wf many best q2) (hm:LM net l many best bare m)
  (H:W prog w B g os ((I,eW t 0) :: (t,.tup [.ref P1,.ref P2]) :: (P1,.list (af q1)) :: (P2,.list (af q2)) :: (lwE L Tb l m ow names tk++o)) s)
  (h:∀ m ow s',LM net l many best bare m->W prog w B g os (lwE L Tb l m ow names tk++o) s'->Rs (.ok .next) s') :
  codeAny (model prog w) A (.forLoop (gG w.params).1.target (.ref I) (gG w.params).1.body [] (cr w.params L)) Rs s:=by
 refine fQ (C:=Unit) (ρ:=λ _=>[(t,.tup [.ref P1,.ref P2])]) (B:=B) (os:=os) (tg:=aM) (d:=3) (u:=10)
  (λ xs o' γ'=>γ' = g∧∃ r:List (Addr×List Int),∃ m ow,xs = r.map (λ e=>one (.ref e.1))∧(∀ e∈r,e∈[(P1,q1),(P2,q2)])∧LM net l many best bare m∧o' = (P1,.list (af q1)) :: (P2,.list (af q2)) :: (lwE L Tb l m ow names tk++o))
  (htg:=?tt) R ?_ ?_ [one (.ref P1),one (.ref P2)] [(I,eW t 0)] [] () _ g s (iR (vs:=[.ref P1,.ref P2]) (λ _=>.head _) [.ref P1,.ref P2] 0 rfl) (aJ rfl (dW [(P1,q1),(P2,q2)] m ow rfl (λ e he=>he) hm rfl)) H
 case tt=>exact trivial
 ·intro x xs μ γ o' γ' c v ν s E' zr;refine ae zr λ zh1 zh2=>?_;clear zr;obtain rfl:=zh1;refine dq zh2 λ r m ow e1 e2 hm zh3=>?_;clear zh2;obtain rfl:=zh3;intro hx H
  cases r with
  | nil=>cases e1
  | cons e r=>
  refine ae (List.cons.inj e1) λ zh1 zh2=>?_;obtain rfl:=zh1;obtain rfl:=zh2
  refine ae hx λ ev zh1=>?_;clear hx;obtain rfl:=zh1
  cases ak ev
  have hW:WayOk tk wf many best e.2:=by
   have:=e2 e (.head _)
   simp only [List.mem_cons,List.not_mem_nil,or_false] at this
   rcases this with rfl | rfl
   ·exact h1
   ·exact h2
  obtain ⟨X,hX⟩:∃ X,((P1,AObj.list (af q1)) :: (P2,.list (af q2)) :: ([]:Led)).Perm ((e.1,.list (af e.2)) :: X):=by
   have:=e2 e (.head _)
   simp only [List.mem_cons,List.not_mem_nil,or_false] at this
   rcases this with rfl | rfl
   ·exact ⟨_,.refl _⟩
   ·exact ⟨_,List.Perm.swap _ _ _⟩
  have hp:∀ m ow,(μ++([(t,AObj.tup [.ref P1,.ref P2])]++((P1,AObj.list (af q1)) :: (P2,.list (af q2)) :: (lwE L Tb l m ow names tk++o)))).Perm
    ((L,.frame m) :: (L + 5,.cell ow) :: (L + 2,.cell (some (.ref Tb))) :: (e.1,.list (af e.2)) :: (Tb,.tdict tk) :: ((l,.list (af names)) :: (t,.tup [.ref P1,.ref P2]) :: (X++(μ++o)))):=by
   intro m ow
   have h3:(μ++([(t,AObj.tup [.ref P1,.ref P2])]++((P1,AObj.list (af q1)) :: (P2,.list (af q2)) :: (lwE L Tb l m ow names tk++o)))).Perm (((P1,AObj.list (af q1)) :: (P2,.list (af q2)) :: ([]:Led))++(μ++((t,AObj.tup [.ref P1,.ref P2]) :: (lwE L Tb l m ow names tk++o)))):=by exact pm [_,[_],[_],[_],_,_] [3,1,5,0,8,11,15,19] [1,8,11,0,3,5,15,19] rfl
   refine h3.trans ((hX.append_right _).trans ?_)
   unfold lwE
   exact pm [[_],_,_,[_],[_],[_],[_],[_],[_],_] [1,2,7,9,11,1,14,17,20,23,26,0,31] [14,17,20,2,23,26,11,6,9,31] rfl
  refine oG (wf:=wf) T R hm.many hm.best hW.st hW.sum hW.ne hW.len (H.perm (hp m ow)) λ v s' H'=>(cc () _ γ' (aJ rfl (dW r (put "steps" v m) (some (.ref e.1)) rfl (λ e he=>e2 e (.tail _ he)) hm.steps rfl)) (H'.perm (hp _ _).symm))
 ·intro o' γ' c s zr;refine ae zr λ zh1 zh2=>?_;clear zr;obtain rfl:=zh1;refine dq zh2 λ r m ow e1 e2 hm zh3=>?_;clear zh2;obtain rfl:=zh3;intro H
  exact h m ow s hm H.drop.drop.drop
theorem Nbr.mono {P P':Int->Int->Prop} (h:∀ x y,P x y->P' x y):∀ {q:List Int},Nbr P q->Nbr P' q
 | [],_=>trivial
 | [_],_=>trivial
 | _ :: _ :: _,⟨h1,h2⟩=>⟨h _ _ h1,Nbr.mono h h2⟩
theorem rW {pos:Pos} {fv:Value} {e:Expr} {rest:List Expr}
  (h:wpAny (model prog w) A (spliced (backTo pos (starEach (e :: rest) env))) (λ vs s1=>nH (model prog w) fv s1.heap∧wpF (model prog w) A (call fv ([]++vs)) Q E s1) E s)
  (he:starEach (e :: rest) env = (false,eval e env) :: starEach rest env:=by rfl) (hplain:(backTo pos (starEach rest env)).any (·.1) = false:=by rfl) :
  wpF (model prog w) A (callWith pos fv [] (backTo pos (starEach (e :: rest) env)) []) Q E s:=by
 rw [he] at h ⊢
 exact mi (by show (false || (backTo pos (starEach rest env)).any (·.1)) = false;rw [hplain];rfl) (Calls.evalArgs_plain h)
theorem qa {G:GG} (hG:G.Ok) {L Tb l:Addr} {names p1 p2:List Int} {many best bare:Int} {tk:List (List Int×Value)} {wf:Int×Int->Int} {wt:Int->Int->Int} {o:Led} {gs:List (List Int)} {m:Str->Option Value} {ow:Option Value} {es:List ((Nat×Nat)×Addr)}
  {Q:Flow->Shared->Prop} (T:TX w B mg mb) (R:Rm A 9 40) (hW:WtOk G bare wt o) (hne:G.ns≠[]) (ho:NoT o)
  (hK:Kahn G.su G.ns ((G.ns.filter λ n=>decide (0 < (G.pr n).length)).map λ n=>(n,.int (G.pr n).length 0)) (G.ns.filter λ n=>(G.pr n).length == 0) gs)
  (hR1:RunOk G wt gs.flatten p1) (hR2:RunOk G wt names p2) (h1:WayOk tk wf many best p1.reverse) (h2:WayOk tk wf many best p2.reverse) (hE:Nbr (i4 G bare wt o) p1.reverse) (hb:iI wt p1.reverse = best)
  (hm:LM G.a.net l many best bare m)
  (H:W prog w B g os (G.led prog w false G.a.base++(an 93 qL es++((149,bg) :: (lwE L Tb l m ow names tk++o)))) s)
  (h:∀ σ g s' es',W prog w B g os σ s'->(93,jU es')∈σ->(149,bg)∈σ->(∀ p∈o,p∈σ)->Q (.ret (.bool true)) s'):wpF (model prog w) A (execs ((fq w.params).1.drop 9) (cr w.params L)) Q E s:=by
 have X:=T.X
 rw [(gG w.params).2]
 refine me (mo (gU ?_))
 have hlw:∀ m ow,∀ x∈lwE L Tb l m ow names tk,x∈G.led prog w false G.a.base++(an 93 qL es++((149,bg) :: (lwE L Tb l m ow names tk++o))):=λ m ow x hx=>List.mem_append_right _ (List.mem_append_right _ (.tail _ (List.mem_append_left _ hx)))
 refine gZ H (T.toTE.glob (x:="dag_longest_path") (v:=.ref 96) (by decide)) (λ f0 e=>ak e) λ s1 H1=>?_
 refine rW (ab H1 (aa (m:=m) (v:=.ref G.a.net) (hlw _ _ _ (.head _)) hm.net) λ a0 s2 ea H2=>ab H2 ev_str λ w0 s3 ew H3=>ab H3 (aa (m:=m) (v:=.int bare 0) (hlw _ _ _ (.head _)) hm.bare) λ b0 s4 eb H4=>ah ⟨aW (X.keeps H4.keep) (kLe _),?_⟩)
 cases ak ea
 refine mG (gs:=gs) (p:=p1) hG T (R.mono (by decide) (by decide)) (hW.mono (o':=lwE L Tb l m ow names tk++o) λ _ h=>List.mem_append_right _ h) hne hK hR1 ew eb H4 λ P1 iv ivd c es1 s5 H5=>?_
 refine aZ (be ?_)
 replace H5:W prog w B g os ((L,.frame m) :: (l,.list (af names)) :: (rho prog w G iv ivd c++(an 93 qL es1++((149,bg) :: ((L + 5,.cell ow) :: (L + 2,.cell (some (.ref Tb))) :: (Tb,.tdict tk) :: (P1,.list (af p1.reverse)) :: o))))) s5:=H5.perm (by unfold lwE;exact pm [[_],_,_,[_],[_],[_],[_],[_],[_],_] [2,6,9,11,1,14,17,20,23,26,0,31] [14,26,6,9,11,17,20,23,2,31] rfl)
 refine aw H5 (T.toTE.glob (x:="dag_longest_path") (v:=.ref 96) (by decide)) (λ f0 e=>ak e) λ s₆ H6=>?_
 refine cw1 (ab H6 (aa (m:=m) (v:=.ref G.a.net) (.head _) hm.net) λ a0 s2 ea H2=>ab H2 ev_str λ w0 s3 ew H3=>ab H3 (aa (m:=m) (v:=.int bare 0) (.head _) hm.bare) λ b0 s4 eb H4=>ab H4 (aa (m:=m) (v:=.ref l) (.head _) hm.names) λ l0 s5 el H5=>ah ⟨aW (X.keeps H5.keep) (kLe _),?_⟩)
 cases ak ea
 cases ak el
 refine mN (order:=names) (p:=p2) (l:=l) hG T (R.mono (by decide) (by decide)) (hW.mono (o':=(L,.frame m) :: (L + 5,.cell ow) :: (L + 2,.cell (some (.ref Tb))) :: (Tb,.tdict tk) :: (P1,.list (af p1.reverse)) :: o) λ _ h=>.tail _ (.tail _ (.tail _ (.tail _ (.tail _ h))))) hne hR2 ew eb (H5.perm (by exact pm [[_],[_],_,_,[_],[_],[_],[_],[_],_] [2,5,9,12,14,17,20,23,26,31] [9,12,14,5,2,17,20,23,26,31] rfl)) λ P2 c2 es2 s7 H7=>?_
 refine ah (aZ (bD H7 (ws:=[.ref P1,.ref P2]) rfl (by simp) λ t s8 H8=>?_))
 refine oW H8 (.head _) λ I s9 H9=>?_
 refine et ?_
 refine iT (wf:=wf) (t:=t) (P1:=P1) (P2:=P2) (Tb:=Tb) (names:=names) (I:=I) (o:=rho prog w G iv ivd c2++(an 93 qL es2++((149,bg) :: o))) (m:=m) (ow:=ow) T (R.mono (by decide) (by decide)) h1 h2 hm (H9.perm (by unfold lwE;exact pm [[_],[_],[_],_,_,[_],[_],[_],[_],[_],[_],[_],_] [2,5,8,12,15,17,20,23,26,29,32,35,40] [2,5,35,8,1,23,26,29,32,20,0,12,15,17,40] rfl)) λ m' ow' s' hm' H'=>?_
 dsimp only
 rw [(qq w.params).2]
 refine aZ (cX (wpAny_Compare1 ?_))
 unfold lwE at H'
 refine aw H' (T.toTE.glob (x:="dag_longest_path_length") (v:=.ref 104) (by decide)) (λ f0 e=>ak e) λ s₆ H6=>?_
 refine cw1 (ab H6 (aa (m:=m') (v:=.ref G.a.net) (.head _) hm'.net) λ a0 s2 ea H2=>ab H2 ev_str λ w0 s3 ew H3=>ab H3 (aa (m:=m') (v:=.int bare 0) (.head _) hm'.bare) λ b0 s4 eb H4=>ah ⟨aW (X.keeps H4.keep) (rZ _),?_⟩)
 cases ak ea
 have H5':=(H4.perm (σ':=(Tb,.tdict tk) :: (rho prog w G iv ivd c2++(an 93 qL es2++((149,bg) :: ((L,.frame m') :: o)))++[(L + 5,.cell ow'),(L + 2,.cell (some (.ref Tb))),(l,.list (af names))])) (by exact pm [[_],[_],[_],[_],[_],_,_,[_],_] [1,2,5,8,11,14,0,18,21,23,28] [11,1,18,21,23,2,28,5,8,14,0] rfl)).drop.sub (List.sublist_append_left _ _)
 refine lC (gs:=gs) (p:=p1) hG T (R.mono (by decide) (by decide)) (hW.mono (o':=(L,.frame m') :: o) λ _ h=>.tail _ h) hne (am rfl ho) hK hR1 ?_ ew eb H5' λ t' c' a' es' s8 H8=>?_
 ·exact hE.mono λ x y ⟨q1,a,at_,q2,q3,q4⟩=>(aJ q1 (bc a at_ q2 (.tail _ q3) q4))
 ·rw [hb]
  refine (aa (m:=m') (v:=.int best 0) (show (L,AObj.frame m')∈_ from List.mem_append_right _ (List.mem_append_right _ (.tail _ (.head _)))) hm'.best).use H8 λ b0 s9 e9 H9=>?_
  refine (jX (a:=best) (b:=best) rfl e9).use H9 λ v0 s10 e10 H10=>?_
  rw [show (best == best) = true by simp] at e10
  cases bS e10
  exact h _ _ s10 es' H10 (List.mem_append_right _ (.head _)) (List.mem_append_right _ (List.mem_append_right _ (.head _))) λ p hp=>List.mem_append_right _ (List.mem_append_right _ (.tail _ (.tail _ hp)))
theorem nQ {G:GG} {L Tb l:Addr} {bare:Int} {tk:List (List Int×Value)} {o:Led} {m:Str->Option Value} {ow:Option Value}
  {Q:Flow->Shared->Prop} (T:TX w B mg mb) (R:Rm A 9 40) (hne:G.ns = []) (ho:NoT o)
  (hm:LM G.a.net l 0 0 bare m)
  (H:W prog w B g os (G.led prog w false G.a.base++(lwE L Tb l m ow [] tk++o)) s)
  (h:∀ σ g s',W prog w B g os σ s'->(∀ p∈o,p∈σ)->Q (.ret (.bool true)) s'):wpF (model prog w) A (execs ((fq w.params).1.drop 9) (cr w.params L)) Q E s:=by
 have X:=T.X
 rw [(gG w.params).2]
 refine me (mo (gU ?_))
 have hlw:∀ m ow,∀ x∈lwE L Tb l m ow [] tk,x∈G.led prog w false G.a.base++(lwE L Tb l m ow [] tk++o):=λ m ow x hx=>List.mem_append_right _ (List.mem_append_left _ hx)
 refine gZ H (T.toTE.glob (x:="dag_longest_path") (v:=.ref 96) (by decide)) (λ f0 e=>ak e) λ s1 H1=>?_
 refine rW (ab H1 (aa (m:=m) (v:=.ref G.a.net) (hlw _ _ _ (.head _)) hm.net) λ a0 s2 ea H2=>ab H2 ev_str λ w0 s3 ew H3=>ab H3 (aa (m:=m) (v:=.int bare 0) (hlw _ _ _ (.head _)) hm.bare) λ b0 s4 eb H4=>ah ⟨aW (X.keeps H4.keep) (kLe _),?_⟩)
 cases ak ea
 refine aZ (gl (bare:=0) (binds:=[]) (made:=false) (kvs:=G.a.base) T (R.mono (by decide) (by decide)) hne rfl (.inl rfl) rfl H4 λ P1 s5 H5=>?_)
 refine aZ (be ?_)
 replace H5:W prog w B g os ((L,.frame m) :: (l,.list (af [])) :: (G.led prog w false G.a.base++((L + 5,.cell ow) :: (L + 2,.cell (some (.ref Tb))) :: (Tb,.tdict tk) :: (P1,.list (af [])) :: o))) s5:=H5.perm (by unfold lwE;have e:af [] = []:=rfl;rw [e];exact pm [[_],_,[_],[_],[_],[_],[_],_] [2,6,1,8,11,14,17,20,0,25] [8,20,6,11,14,17,2,25] rfl)
 refine aw H5 (T.toTE.glob (x:="dag_longest_path") (v:=.ref 96) (by decide)) (λ f0 e=>ak e) λ s₆ H6=>?_
 refine cw1 (ab H6 (aa (m:=m) (v:=.ref G.a.net) (.head _) hm.net) λ a0 s2 ea H2=>ab H2 ev_str λ w0 s3 ew H3=>ab H3 (aa (m:=m) (v:=.int bare 0) (.head _) hm.bare) λ b0 s4 eb H4=>ab H4 (aa (m:=m) (v:=.ref l) (.head _) hm.names) λ l0 s5 el H5=>ah ⟨aW (X.keeps H5.keep) (kLe _),?_⟩)
 cases ak ea
 cases ak el
 refine gl (bare:=0) (binds:=[]) (made:=false) (kvs:=G.a.base) (o:=(L,.frame m) :: (l,.list (af [])) :: ((L + 5,.cell ow) :: (L + 2,.cell (some (.ref Tb))) :: (Tb,.tdict tk) :: (P1,.list (af [])) :: o)) T (R.mono (by decide) (by decide)) hne rfl (.inr rfl) rfl (H5.perm (by exact pm [[_],[_],_,[_],[_],[_],[_],_] [2,5,9,11,14,17,20,25] [9,2,5,11,14,17,20,25] rfl)) λ P2 s7 H7=>?_
 refine ah (aZ (bD H7 (ws:=[.ref P1,.ref P2]) rfl (by simp) λ t s8 H8=>?_))
 refine oW H8 (.head _) λ I s9 H9=>?_
 refine et ?_
 have hw:WayOk tk (λ _=>0) 0 0 []:=⟨λ p hp=>(by cases hp),rfl,rfl,Nat.zero_le _⟩
 refine iT (wf:=λ _=>0) (q1:=[]) (q2:=[]) (t:=t) (P1:=P1) (P2:=P2) (Tb:=Tb) (names:=[]) (I:=I) (o:=G.led prog w false G.a.base++o) (m:=m) (ow:=ow) T (R.mono (by decide) (by decide)) hw hw hm (H9.perm (by unfold lwE;have e:af [] = []:=rfl;rw [e];exact pm [[_],[_],[_],_,[_],[_],[_],[_],[_],[_],_] [2,5,8,12,14,17,20,23,26,29,34] [2,5,29,8,1,14,20,23,26,17,0,12,34] rfl)) λ m' ow' s' hm' H'=>?_
 dsimp only
 rw [(qq w.params).2]
 refine aZ (cX (wpAny_Compare1 ?_))
 unfold lwE at H'
 refine aw H' (T.toTE.glob (x:="dag_longest_path_length") (v:=.ref 104) (by decide)) (λ f0 e=>ak e) λ s₆ H6=>?_
 refine cw1 (ab H6 (aa (m:=m') (v:=.ref G.a.net) (.head _) hm'.net) λ a0 s2 ea H2=>ab H2 ev_str λ w0 s3 ew H3=>ab H3 (aa (m:=m') (v:=.int bare 0) (.head _) hm'.bare) λ b0 s4 eb H4=>ah ⟨aW (X.keeps H4.keep) (rZ _),?_⟩)
 cases ak ea
 have H5':=(H4.perm (σ':=(Tb,.tdict tk) :: (G.led prog w false G.a.base++((L,.frame m') :: o)++[(L + 5,.cell ow'),(L + 2,.cell (some (.ref Tb))),(l,.list (af []))])) (by exact pm [[_],[_],[_],[_],[_],_,_] [1,2,5,8,11,14,0,18,22] [11,1,18,2,22,5,8,14,0] rfl)).drop.sub (List.sublist_append_left _ _)
 refine no (bare:=bare) T (R.mono (by decide) (by decide)) hne (am rfl ho) ew eb H5' λ t' s8 H8=>?_
 refine (aa (m:=m') (v:=.int 0 0) (show (L,AObj.frame m')∈_ from List.mem_append_right _ (.head _)) hm'.best).use H8 λ b0 s9 e9 H9=>?_
 refine (jX (a:=0) (b:=0) rfl e9).use H9 λ v0 s10 e10 H10=>?_
 rw [show ((0:Int) == 0) = true by rfl] at e10
 cases bS e10
 exact h _ _ s10 H10 λ p hp=>List.mem_append_right _ (.tail _ hp)
structure SX where
 elts:List Expr
 k:Nat
 tpos:Pos
 e:Expr
 pos:Pos
structure HX where
 test:Expr
 body:List Stmt
 pos:Pos
noncomputable def fp (P:Params):{ x:SX×HX // (fq P).1.drop 7 = .Assign [.Tuple x.1.elts x.1.k x.1.tpos] x.1.e x.1.pos :: .While x.2.test x.2.body [] x.2.pos :: (fq P).1.drop 9 }:=⟨(⟨_,_,_,_,_⟩,⟨_,_,_⟩),rfl⟩
noncomputable def kids (ef:Int->Int->Option Int) (many:Nat) (c v:Int):List (Int×Int):=(List.range many).filterMap λ (w:Nat)=>(ef v w).map λ k=>(c + k,(w:Int))
noncomputable def kF (ef:Int->Int->Option Int) (n:Nat) (c v:Int):List (Int×Int):=(List.range n).filterMap λ (w:Nat)=>(ef v w).map λ k=>(c + k,(w:Int))
theorem jV (ef:Int->Int->Option Int) (n:Nat) (c v:Int):kF ef (n + 1) c v = kF ef n c v++((ef v n).map λ k=>(c + k,(n:Int))).toList:=by
 unfold kF
 rw [List.range_succ,List.filterMap_append]
 congr 1
noncomputable def lwB (L Tb Rl:Addr) (m:Str->Option Value) (oc ov:Option Value) (tk:List (List Int×Value)) (stk:List ST):Led :=
 (L,.frame m) :: (L + 4,.cell oc) :: (L + 3,.cell ov) :: (L + 2,.cell (some (.ref Tb))) :: (Tb,.tdict tk) :: (Rl,.list (aE stk)) :: aP stk
theorem nu:∀ {stk:List ST},stk≠[]->∃ st' e,stk = st'++[e]
 | stk,h=>(c8 stk.dropLast (stk.getLast h) ((List.dropLast_concat_getLast h).symm))
theorem l5 {L Tb Rl:Addr} {m:Str->Option Value} {oc ov:Option Value} {tk:List (List Int×Value)} {ef:Int->Int->Option Int} {st:List ST} {e:ST} {many best:Int} {n:Nat} {o:Led} {Q:Shared->Prop} (T:TX w B mg mb) (R:Rm A 3 10)
  (hef:∀ v x,valueAt tk [v,x] = (ef v x).map λ k=>.int k 0) (hmn:many = n) (hn:n≤100) (hz:st.length≤500)
  (n1:m "many" = some (.int many 0)) (n2:m "best" = some (.int best 0)) (n3:m "rest" = some (.ref Rl))
  (H:W prog w B g os (lwB L Tb Rl m oc ov tk (st++[e])++o) s)
  (h:∀ ks s',eO ks = kids ef n e.a e.b->W prog w B g os (lwB L Tb Rl (put "rest" (.ref Rl) (put "best" (.int (max best e.a) 0) m)) (some (.int e.a 0)) (some (.int e.b 0)) tk (st++ks)++o) s'->Q s') :
  wpAny (model prog w) A (execs (fp w.params).1.2.body (cr w.params L)) (λ fl s3=>(fl = .next∨fl = .cont)∧Q s3) E s:=by
 have X:=T.X
 dsimp only [fp,cr,jq,fq]
 have e1:aE (st++[e]) = aE st++[.ref e.t]:=by unfold aE;rw [List.map_append];rfl
 have e2:aP (st++[e]) = aP st++[(e.t,.tup [.int e.a 0,.int e.b 0])]:=by unfold aP;rw [List.map_append];rfl
 have hr:(aE st).length≤500:=by unfold aE;rw [List.length_map];exact hz
 unfold lwB at H
 rw [e1,e2] at H
 replace H:W prog w B g os ((Rl,.list (aE st++[.ref e.t])) :: (L,.frame m) :: (L + 4,.cell oc) :: (L + 3,.cell ov) :: (e.t,.tup [.int e.a 0,.int e.b 0]) :: (L + 2,.cell (some (.ref Tb))) :: (Tb,.tdict tk) :: (aP st++o)) s:=H.perm (by exact pm [[_],[_],[_],[_],[_],[_],_,[_],_] [1,2,5,8,11,14,17,21,23,0,28] [17,2,5,8,23,11,14,21,28] rfl)
 refine iU (ax H (aa (by walk_at "a") (by exact n3))<|au λ s1 H1=>?_)
 refine ac (H1.get (.head _)) λ items hl zz=>?_
 refine ie hl F.slot_list_pop F.type_list_pop (cw0 az ?_)
 refine rD H1 .head (by walk_at "r")<|au λ s2 H2=>?_
 refine j5 R.hd H2 (show (e.t,AObj.tup [.int e.a 0,.int e.b 0])∈_ by walk_at "a") rfl rfl λ ws s3 ew H3=>?_
 refine aV (co ew) λ a0 b0 zh1 ea eb=>?_;obtain rfl:=zh1
 refine bK (aG (bJ (c:=L + 4) (v:=.int e.a 0) H3 rfl (by walk_at "a") ea λ s4 H4=>?_))
 replace H4:W prog w B g os ((Rl,.list (aE st)) :: (L,.frame m) :: (L + 4,.cell (some (.int e.a 0))) :: (L + 3,.cell ov) :: (e.t,.tup [.int e.a 0,.int e.b 0]) :: (L + 2,.cell (some (.ref Tb))) :: (Tb,.tdict tk) :: (aP st++o)) s4:=H4
 refine bK (aG (bJ (c:=L + 3) (v:=.int e.b 0) H4 rfl (by walk_at "a") eb λ s5 H5=>gL ?_))
 replace H5:W prog w B g os ((L,.frame m) :: (L + 4,.cell (some (.int e.a 0))) :: (L + 3,.cell (some (.int e.b 0))) :: (L + 2,.cell (some (.ref Tb))) :: (Tb,.tdict tk) :: (Rl,.list (aE st)) :: (aP st++o)) s5:=(H5.perm (σ':=(e.t,.tup [.int e.a 0,.int e.b 0]) :: (L,.frame m) :: (L + 4,.cell (some (.int e.a 0))) :: (L + 3,.cell (some (.int e.b 0))) :: (L + 2,.cell (some (.ref Tb))) :: (Tb,.tdict tk) :: (Rl,.list (aE st)) :: (aP st++o)) (by show ((Rl,_) :: (L,_) :: (L + 4,_) :: (L + 3,_) :: (e.t,_) :: _).Perm _;exact pm [[_],[_],[_],[_],[_],[_],[_],_,_] [2,5,8,11,14,17,20,24,28] [14,5,8,11,17,20,2,24,28] rfl)).drop
 refine bh H5 (iE (r:=.int (max best e.a) 0) (T.toTE.boot (x:="max") (v:=.builtin "max") (by decide)) (aa (by walk_at "a") (by exact n2)) (aq (c:=L + 4) rfl (by walk_at "a")) λ a b ea eb=>qO R.hd ea eb) (by walk_at "a") λ s₆ H6=>?_
 replace H6:W prog w B g os ((L,.frame (put "best" (.int (max best e.a) 0) m)) :: (L + 4,.cell (some (.int e.a 0))) :: (L + 3,.cell (some (.int e.b 0))) :: (L + 2,.cell (some (.ref Tb))) :: (Tb,.tdict tk) :: (Rl,.list (aE st)) :: (aP st++o)) s₆:=H6
 have k1:put "best" (.int (max best e.a) 0) m "rest" = some (.ref Rl):=n3
 have k2:put "best" (.int (max best e.a) 0) m "many" = some (.int n 0):=by rw [← hmn];exact n1
 generalize put "best" (.int (max best e.a) 0) m = m1 at H6 h k1 k2
 clear H H1 H2 H3 H4 H5 n1 n2 n3
 obtain ⟨θ,hθ⟩:∃ k,k = (L,AObj.frame m1) :: (L + 4,.cell (some (.int e.a 0))) :: (L + 3,.cell (some (.int e.b 0))) :: (L + 2,.cell (some (.ref Tb))) :: (Tb,.tdict tk) :: (Rl,.list (aE st)) :: (aP st++o):=⟨_,rfl⟩
 rw [← hθ] at H6
 have fL:((cr w.params L).locals,AObj.frame m1)∈θ:=by rw [hθ];walk_at "a"
 have c4:(L + 4,AObj.cell (some (.int e.a 0)))∈θ:=by rw [hθ];walk_at "a"
 have c3:(L + 3,AObj.cell (some (.int e.b 0)))∈θ:=by rw [hθ];walk_at "a"
 have c2:(L + 2,AObj.cell (some (.ref Tb)))∈θ:=by rw [hθ];walk_at "a"
 have cT:(Tb,AObj.tdict tk)∈θ:=by rw [hθ];walk_at "a"
 refine wpAny_execs_cons (wpAny_AugAssign_Name ((kh (v:=.ref Rl) fL (by exact k1)).use H6<|au λ s7 H7=>?_))
 refine dl (σ:=θ) (g:=g) (tg:=aM) (d:=2) (u:=8) (B:=B) (os:=os) (cl:=[("v",L + 3),("table",L + 2),("cost",L + 4)])
  (λ xs ws o'=>∃ (ks:List ST) (k j:Nat),xs = bu k j∧k + j = n∧ws = aE ks∧eO ks = kF ef k e.a e.b∧ks.length≤k∧o' = aP ks) trivial (R.mono (by decide) (by decide)) rfl ?_ ?_ ?_
 ·refine aw H7 (T.toTE.boot (x:="range") (v:=.type "range") (by decide)) (λ f0 e=>ca e) λ s8 H8=>?_
  refine cw1 (ab H8 (aa (v:=.int n 0) fL (by exact k2)) λ a0 s9 ea H9=>ah ⟨bo,?_⟩)
  refine cU H9 ea λ r s10 H10=>?_
  refine cN H10 (.head _) (by walk_at "r") (by walk_at "r") (by walk_at "r") λ I s11 H11=>?_
  rw [show ((n:Int) - 0).toNat = n by walk_at "r"] at H11
  exact (jJ I (bu 0 n) _ [] rfl (by rw [dI];walk_at "r") (bn _ 0) dG (eN [] 0 n rfl (Nat.zero_add n) rfl rfl (Nat.zero_le _) rfl) ((H11.pick (a:=r) (.tail .head)).drop))
 ·intro xq xs ws Cf mc γ o' v ν τ s' E2 Qy Qn hτ hJ
  refine ir hJ λ ks k j f1 f2 f3 f4 f5 zh1=>?_;clear hJ;obtain rfl:=zh1
  intro hx H2 hy hn
  refine aU (bE f1) λ j zh1 zh2 zh3=>?_;obtain rfl:=zh1;obtain rfl:=zh2;obtain rfl:=zh3
  refine ae hx λ ev zh1=>?_;clear hx;obtain rfl:=zh1
  replace c4:=List.mem_append_right (aP ks) (hτ _ c4)
  replace c3:=List.mem_append_right (aP ks) (hτ _ c3)
  replace c2:=List.mem_append_right (aP ks) (hτ _ c2)
  replace cT:=List.mem_append_right (aP ks) (hτ _ cT)
  obtain ⟨ω,hω⟩:∃ k,k = aP ks++τ:=⟨_,rfl⟩
  replace H2:W prog w B γ os ((Cf,.frame mc) :: (aP ks++τ)) s':=H2
  rw [← hω] at H2 c4 c3 c2 cT
  refine aG (al (v:=.int k 0) H2 (by walk_at "a") ev λ s3 H3=>i5 (wpAny_isTrue_Compare1 ?_))
  have kw:put "w" (.int k 0) mc "w" = some (.int k 0):=rfl
  replace H3:W prog w B γ os ((Cf,.frame (put "w" (.int k 0) mc)) :: ω) s3:=H3
  generalize put "w" (.int k 0) mc = mc1 at H3 kw
  refine d6 (ab H3 (aq (c:=L + 3) (v:=.int e.b 0) rfl (by walk_at "a")) λ a0 s4 ea H4=>ab H4 (aa (v:=.int k 0) (by walk_at "a") (by exact kw)) λ b0 s5 eb H5=>ah ?_)
  refine bD H5 (ws:=[.int e.b 0,.int k 0]) (by simp [ea,eb]) (by simp) λ t1 s₆ H6=>?_
  refine (aq (c:=L + 2) (v:=.ref Tb) rfl (by walk_at "a")).use H6 λ d0 s7 ed H7=>?_
  refine (jO (i:=e.b) (j:=k) (kvs:=tk) (R.mono (by decide) (by decide)) (by walk_at "a") (.head _) rfl ed).use H7 λ v0 s8 e8 H8=>?_
  rw [hef] at e8
  have hks:=jV ef k e.a e.b
  cases hk:ef e.b k with
  | none=>
   rw [hk] at e8 hks
   cases bS e8
   refine wpAny_truthy_bool ?_
   rw [show (Option.map (λ k:Int=>Value.int k 0) none).isSome = false from rfl,if_neg Bool.false_ne_true]
   exact hn mc1 _ _ (eN ks (k + 1) j rfl (by walk_at "r") f3 (by rw [f4,hks];exact (List.append_nil _).symm) (Nat.le_succ_of_le f5) rfl) (hω▸H8.drop)
  | some c=>
   rw [hk] at e8 hks
   cases bS e8
   refine wpAny_truthy_bool ?_
   rw [show (Option.map (λ k:Int=>Value.int k 0) (some c)).isSome = true from rfl,if_pos rfl]
   have H9:=H8.drop
   refine d6 (be (wpAny_BinOp ((aq (c:=L + 4) (v:=.int e.a 0) rfl (by walk_at "a")).use H9 λ a0 s9 ea H10=>Subscript_ ((aq (c:=L + 2) (v:=.ref Tb) rfl (by walk_at "a")).use H10<|au λ s10 H11=>?_))))
   refine d6 (ab H11 (aq (c:=L + 3) (v:=.int e.b 0) rfl (by walk_at "a")) λ a1 s4 ea1 H12=>ab H12 (aa (v:=.int k 0) (by walk_at "a") (by exact kw)) λ b1 s5 eb1 H13=>ah ?_)
   refine bD H13 (ws:=[.int e.b 0,.int k 0]) (by simp [ea1,eb1]) (by simp) λ t2 s₆ H14=>?_
   refine tail_any (ko (vs:=tk) (by walk_at "a") _ H14) slot_dict_getitem.lookup ((kN (i:=e.b) (j:=k) (kvs:=tk) (v:=.int c 0) (R.mono (by decide) (by decide)) (by walk_at "a") (.head _) rfl (by rw [hef,hk];rfl)).use H14 λ x₀ s7 ex H15=>?_) (by with_unfolding_all rfl)
   refine ai (ap ea) λ ta zh1=>?_;obtain rfl:=zh1
   refine ai (ap ex) λ tx zh1=>?_;obtain rfl:=zh1
   refine add_int (ab H15.drop.tok (aa (v:=.int k 0) (by walk_at "a") (by exact kw)) λ b2 s8 eb2 H16=>ah ?_)
   refine bD H16 (ws:=[.int (e.a + c) 0,.int k 0]) (by simp [eb2];rfl) (by simp) λ t3 s9 H17=>?_
   refine hy _ mc1 (aP ks++[(t3,.tup [.int (e.a + c) 0,.int k 0])]) _ (eN (ks++[⟨t3,e.a + c,k⟩]) (k + 1) j rfl (by walk_at "r") ?_ ?_ ?_ (by unfold aP;rw [List.map_append];rfl)) ((W.perm (σ:=(t3,_) :: (Cf,_) :: (aP ks++τ)) (hω▸?_) (fS (b:=(Cf,_)) (X:=aP ks) (T:=τ))))
   ·rw [f3];unfold aE;rw [List.map_append];rfl
   ·rw [hks,← f4];unfold eO;rw [List.map_append];rfl
   ·rw [List.length_append];show ks.length + 1≤k + 1;walk_at "r"
   ·exact H17
 ·intro Dl ws o' s8 hJ
  refine ir hJ λ ks k j f1 f2 f3 f4 f5 zh1=>?_;clear hJ;obtain rfl:=zh1
  intro H8
  have hj:=bY f1
  subst hj
  obtain rfl:k = n:=by walk_at "r"
  subst f3
  rw [hθ] at H8
  replace H8:W prog w B g os ((Dl,.list (aE ks)) :: (Rl,.list (aE st)) :: (L,.frame m1) :: (L + 4,.cell (some (.int e.a 0))) :: (L + 3,.cell (some (.int e.b 0))) :: (L + 2,.cell (some (.ref Tb))) :: (Tb,.tdict tk) :: (aP st++(aP ks++o))) s8:=H8.perm (by exact pm [[_],[_],[_],[_],[_],[_],[_],_,_,_] [2,1,5,8,11,14,17,20,24,28,31] [2,20,5,8,11,14,17,24,30,28] rfl)
  have hkl:(aE ks).length≤100:=by unfold aE;rw [List.length_map];walk_at "r"
  refine pB H8 (.tail .head) (.head _) (by walk_at "r") λ s9 H9=>?_
  have H10:=H9.drop
  replace H10:W prog w B g os ((Rl,.list (aE st++aE ks)) :: (L,.frame m1) :: (L + 4,.cell (some (.int e.a 0))) :: (L + 3,.cell (some (.int e.b 0))) :: (L + 2,.cell (some (.ref Tb))) :: (Tb,.tdict tk) :: (aP st++(aP ks++o))) s9:=H10
  refine al (v:=.ref Rl) H10 (by walk_at "a") rfl λ s10 H11=>ay ⟨.inl rfl,?_⟩
  refine h ks s10 f4 ?_
  have g1:aE (st++ks) = aE st++aE ks:=by unfold aE;rw [List.map_append]
  have g2:aP (st++ks) = aP st++aP ks:=by unfold aP;rw [List.map_append]
  unfold lwB
  rw [g1,g2]
  refine H11.perm ?_
  show ((Rl,_) :: (L,_) :: _).Perm _
  exact pm [[_],[_],[_],[_],[_],[_],_,_,_] [2,5,8,11,14,17,21,24,28] [1,5,8,11,14,17,2,21,25,28] rfl
theorem ql {L Tb:Addr} {m:Str->Option Value} {oc ov:Option Value} {tk:List (List Int×Value)} {n:Nat} {o:Led} {Q:Shared->Prop} (T:TX w B mg mb) (R:Rm A 3 10) (hn:n≤100)
  (n1:m "many" = some (.int n 0))
  (H:W prog w B g os ((L,.frame m) :: (L + 4,.cell oc) :: (L + 3,.cell ov) :: (L + 2,.cell (some (.ref Tb))) :: (Tb,.tdict tk) :: o) s)
  (h:∀ Rl st s',eO st = (List.range n).map (λ (v:Nat)=>((0:Int),(v:Int)))->W prog w B g os (lwB L Tb Rl (put "best" (.int 0 0) (put "rest" (.ref Rl) m)) oc ov tk st++o) s'->Q s') :
  wpAny (model prog w) A (execs [.Assign [.Tuple (fp w.params).1.1.elts (fp w.params).1.1.k (fp w.params).1.1.tpos] (fp w.params).1.1.e (fp w.params).1.1.pos] (cr w.params L)) (λ fl s3=>fl = .next∧Q s3) E s:=by
 have X:=T.X
 dsimp only [fp,cr,jq,fq]
 refine jk (names:=["best","rest"]) (d6 (ab H aC λ a0 s1 ea H1=>be ?_))
 obtain ⟨θ,hθ⟩:∃ k,k = (L,AObj.frame m) :: (L + 4,.cell oc) :: (L + 3,.cell ov) :: (L + 2,.cell (some (.ref Tb))) :: (Tb,.tdict tk) :: o:=⟨_,rfl⟩
 rw [← hθ] at H1
 have fL:((cr w.params L).locals,AObj.frame m)∈θ:=by rw [hθ];walk_at "a"
 refine dl (σ:=θ) (g:=g) (tg:=aM) (d:=2) (u:=8) (B:=B) (os:=os) (cl:=[])
  (λ xs ws o'=>∃ (st:List ST) (k j:Nat),xs = bu k j∧k + j = n∧ws = aE st∧eO st = (List.range k).map (λ (v:Nat)=>((0:Int),(v:Int)))∧o' = aP st) trivial (R.mono (by decide) (by decide)) rfl ?_ ?_ ?_
 ·refine aw H1 (T.toTE.boot (x:="range") (v:=.type "range") (by decide)) (λ f0 e=>ca e) λ s8 H8=>?_
  refine cw1 (ab H8 (aa (v:=.int n 0) fL (by exact n1)) λ a0 s9 ea H9=>ah ⟨bo,?_⟩)
  refine cU H9 ea λ r s10 H10=>?_
  refine cN H10 (.head _) (by walk_at "r") (by walk_at "r") (by walk_at "r") λ I s11 H11=>?_
  rw [show ((n:Int) - 0).toNat = n by walk_at "r"] at H11
  exact (jJ I (bu 0 n) _ [] rfl (by rw [dI];walk_at "r") (bn _ 0) dG (eE [] 0 n rfl (Nat.zero_add n) rfl rfl rfl) ((H11.pick (a:=r) (.tail .head)).drop))
 ·intro xq xs ws Cf mc γ o' v ν τ s' E2 Qy Qn hτ hJ
  refine dQ hJ λ st k j f1 f2 f3 f4 zh1=>?_;clear hJ;obtain rfl:=zh1
  intro hx H2 hy hn
  refine aU (bE f1) λ j zh1 zh2 zh3=>?_;obtain rfl:=zh1;obtain rfl:=zh2;obtain rfl:=zh3
  refine ae hx λ ev zh1=>?_;clear hx;obtain rfl:=zh1
  replace H2:W prog w B γ os ((Cf,.frame mc) :: (aP st++τ)) s':=H2
  refine aG (al (v:=.int k 0) H2 (by walk_at "a") ev λ s3 H3=>i7 ?_)
  rw [if_pos rfl]
  have kw:put "v" (.int k 0) mc "v" = some (.int k 0):=rfl
  replace H3:W prog w B γ os ((Cf,.frame (put "v" (.int k 0) mc)) :: (aP st++τ)) s3:=H3
  generalize put "v" (.int k 0) mc = mc1 at H3 kw
  refine d6 (ab H3 aC λ a0 s4 ea H4=>ab H4 (aa (v:=.int k 0) (by walk_at "a") (by exact kw)) λ b0 s5 eb H5=>ah ?_)
  refine bD H5 (ws:=[.int 0 0,.int k 0]) (by simp [ea,eb]) (by simp) λ t3 s9 H17=>?_
  refine hy _ mc1 (aP st++[(t3,.tup [.int 0 0,.int k 0])]) _ (eE (st++[⟨t3,0,k⟩]) (k + 1) j rfl (by walk_at "r") ?_ ?_ (by unfold aP;rw [List.map_append];rfl)) (W.perm (σ:=(t3,_) :: (Cf,_) :: (aP st++τ)) H17 (fS (b:=(Cf,_)) (X:=aP st) (T:=τ)))
  ·rw [f3];unfold aE;rw [List.map_append];rfl
  ·unfold eO at *;rw [List.map_append,f4,List.range_succ,List.map_append];rfl
 ·intro Dl ws o' s8 hJ
  refine dQ hJ λ st k j f1 f2 f3 f4 zh1=>?_;clear hJ;obtain rfl:=zh1
  intro H8
  rw [hθ] at H8
  have hj:=bY f1
  subst hj
  obtain rfl:k = n:=by walk_at "r"
  subst f3
  refine ah (bD H8 (ws:=[.int 0 0,.ref Dl]) (by simp [ea];rfl) (by simp) λ t s9 H9=>?_)
  refine gW R.hd H9 (.head _) rfl λ ws s10 ew H10=>?_
  refine aV (co ew) λ x₀ y0 zh1 ex ey=>?_;obtain rfl:=zh1
  have H11:W prog w B g os ((L,.frame m) :: (L + 4,.cell oc) :: (L + 3,.cell ov) :: (L + 2,.cell (some (.ref Tb))) :: (Tb,.tdict tk) :: (Dl,.list (aE st)) :: (aP st++o)) s10:=(H10.drop).perm (by exact pm [[_],[_],[_],[_],[_],[_],_,_] [2,1,5,8,11,14,17,22,25] [5,8,11,14,17,2,24,22] rfl)
  cases ak ey
  refine bK (wpAny_bindName (al (x:="rest") (v:=.ref Dl) H11 (by walk_at "a") rfl λ s11 H12=>?_))
  refine bK (wpAny_bindName (al (x:="best") (v:=.int 0 0) H12 (by walk_at "a") ex λ s12 H13=>?_))
  exact gL (ay ⟨rfl,h Dl st s12 f4 H13⟩)
theorem iN {Inv:List (Int×Int)->Int->Prop} {μ:List (Int×Int)->Nat} {L Tb Rl:Addr} {m:Str->Option Value} {oc ov:Option Value} {tk:List (List Int×Value)} {ef:Int->Int->Option Int} {st:List ST} {best:Int} {n:Nat} {o:Led} {Q:Shared->Prop} (T:TX w B mg mb) (R:Rm A 3 10)
  (hef:∀ v x,valueAt tk [v,x] = (ef v x).map λ k=>.int k 0) (hn:n≤100)
  (hstep:∀ stk c v best,Inv (stk++[(c,v)]) best->Inv (stk++kids ef n c v) (max best c)∧μ (stk++kids ef n c v) < μ (stk++[(c,v)])) (hsz:∀ stk best,Inv stk best->stk.length≤500)
  (n1:m "many" = some (.int n 0)) (n2:m "best" = some (.int best 0)) (n3:m "rest" = some (.ref Rl)) (hI:Inv (eO st) best)
  (H:W prog w B g os (lwB L Tb Rl m oc ov tk st++o) s)
  (h:∀ m' oc' ov' best' s',(∀ x,x≠("best":Str)->x≠("rest":Str)->m' x = m x)->m' "best" = some (.int best' 0)->Inv [] best' ->
   W prog w B g os ((L,.frame m') :: (L + 4,.cell oc') :: (L + 3,.cell ov') :: (L + 2,.cell (some (.ref Tb))) :: (Tb,.tdict tk) :: o) s'->Q s') :
  wpAny (model prog w) A (execs [.While (fp w.params).1.2.test (fp w.params).1.2.body [] (fp w.params).1.2.pos] (cr w.params L)) (λ fl s3=>fl = .next∧Q s3) E s:=by
 refine l7 (λ k s'=>∃ m' oc' ov' best' st',μ (eO st') = k∧(∀ x,x≠("best":Str)->x≠("rest":Str)->m' x = m x)∧m' "best" = some (.int best' 0)∧m' "rest" = some (.ref Rl)∧Inv (eO st') best'∧W prog w B g os (lwB L Tb Rl m' oc' ov' tk st'++o) s')
  (λ s'=>Q s') (μ (eO st)) (gA m oc ov best st rfl (λ _ _ _=>rfl) n2 (aQ n3 hI H)) ?_ λ s' h'=>ay ⟨rfl,h'⟩
 intro k s' E' zr;refine gw zr λ m' oc' ov' best' st' zh1 f1 f2 zk0=>?_;refine bP zk0 λ f3 hI H=>?_;clear zk0;clear zr;obtain rfl:=zh1
 have hlen:=hsz _ _ hI
 have hl2:(aE st').length≤500:=by unfold eO at hlen;unfold aE;rw [List.length_map] at hlen ⊢;exact hlen
 have hnm:m' "many" = some (.int n 0):=by rw [f1 _ (by decide) (by decide)];exact n1
 refine ((aS (v:=.ref Rl) (aa (env:=cr w.params L) (m:=m') (.head _) f3) λ v0 e=>gb (vs:=aE st') (.tail _ (.tail _ (.tail _ (.tail _ (.tail _ (.head _)))))) e (by walk_at "r")):Gb prog w A B g os _ _ _).use H λ s1 H1=>?_
 by_cases hst:st' = []
 ·subst hst
  rw [show (!(aE []).isEmpty) = false from rfl,if_neg Bool.false_ne_true]
  refine h m' oc' ov' best' s1 f1 f2 hI ?_
  replace H1:W prog w B g os ((L,.frame m') :: (L + 4,.cell oc') :: (L + 3,.cell ov') :: (L + 2,.cell (some (.ref Tb))) :: (Tb,.tdict tk) :: (Rl,.list (aE [])) :: o) s1:=H1
  exact (H1.pick (a:=Rl) (by walk_at "a")).drop
 ·refine c6 (nu hst) λ st2 e zh1=>?_;obtain rfl:=zh1
  rw [show (!(aE (st2++[e])).isEmpty) = true by unfold aE;simp,if_pos rfl]
  have hI':Inv (eO st2++[(e.a,e.b)]) best':=by
   have e9:eO (st2++[e]) = eO st2++[(e.a,e.b)]:=by unfold eO;rw [List.map_append];rfl
   rw [← e9];exact hI
  refine ae (hstep _ _ _ _ hI') λ g1 g2=>?_
  refine l5 (n:=n) (ef:=ef) (best:=best') (many:=n) T R hef rfl hn (by
   unfold eO at hlen;rw [List.length_map,List.length_append] at hlen;simp only [List.length_cons,List.length_nil] at hlen;walk_at "r") hnm f2 f3 H1 λ ks s2 hk H2=>?_
  have e9:eO (st2++[e]) = eO st2++[(e.a,e.b)]:=by unfold eO;rw [List.map_append];rfl
  have e8:eO (st2++ks) = eO st2++kids ef n e.a e.b:=by rw [← hk];unfold eO;rw [List.map_append]
  refine (ad (μ (eO (st2++ks))) (by rw [e8,e9];exact g2) (gA _ _ _ (max best' e.a) (st2++ks) rfl (λ x h1 h2=>?_) rfl (aQ rfl (by rw [e8];exact g1) H2)))
  show (if x = "rest" then _ else if x = "best" then _ else m' x) = m x
  rw [if_neg h2,if_neg h1];exact f1 x h1 h2
theorem g7 {h:Heap} {a:Addr} (x:Real prog w h a (.idict [])):∃ o es ep,h.get? a = some o∧o.ExactDict∧o.data = .dict es ep∧es.toList = []:=by
 refine ac x λ kvs0 zh1 e=>?_;clear x;refine ir zh1 λ o es ep ho hc hd hk hpp hn=>?_;clear zh1
 have:kvs0 = []:=by simpa using e
 subst this
 exact (dW o es ep ho hc hd (List.eq_nil_of_length_eq_zero hpp.length))
theorem jz {h:Heap} {a:Addr} (x:Real prog w h a (.idict [])):Real prog w h a (.tdict []):=by
 refine dq (g7 x) λ o es ep ho hc hd he=>?_
 exact (ad [] (eN o es ep ho hc hd (by rw [he];rfl) (λ x hx=>by cases hx) List.nodup_nil) rfl)
theorem jF {h:Heap} {a:Addr} (x:Real prog w h a (.idict [])):Real prog w h a (.sdict []):=by
 refine dq (g7 x) λ o es ep ho hc hd he=>?_
 have:es = #[]:=Array.toList_inj.mp (by simpa using he)
 subst this
 exact (ad [] (eN o (#[]) ep ho hc hd (λ e he=>by simp at he) .nil List.nodup_nil) rfl)
theorem pb {e:Expr} {p:Pos} {a:Int} (he:Gv prog w A B g os σ (eval e env) (.int a 0)):Gv prog w A B g os σ (eval (.UnaryOp .USub e p) env) (.int (-a) 0):=λ E s H=>
 wpAny_UnaryOp (he.use H λ v s1 e1 H₁=>by
  refine ai (ap e1) λ t zh1=>?_;obtain rfl:=zh1
  exact PyProof.Rows.neg_int ⟨rfl,H₁.tok⟩)
theorem po {k:Str} {j:Nat} {kp pos:Pos} {e:Expr} {v:Value} (H:W prog w B g os σ s) (he:∀ D,Gv prog w A B g os ((D,.sdict []) :: σ) (eval e env) v) (h:∀ D s',W prog w B g os ((D,.sdict [(k,v)]) :: σ) s'->Q (.ref D) s') :
  wpAny (model prog w) A (eval (.Dict [some (.Constant (.str k) j kp)] [e] pos) env) Q E s:=by
 refine wpAny_Dict_pairs (knd:=strKind prog w) (pairs:=[(eval (.Constant (.str k) j kp) env,do let x ← eval e env;standAt pos;pure x)]) rfl (by simp) (by simp) ?_
 have H1:W prog w B g os ((s.heap.objs.size,.sdict []) :: σ) { s with heap:=s.heap.push { cls:=.type "dict",data:=.dict #[] } } :=
  H.add (t:=s.toks) (λ _ _ e=>Heap.get?_push_of_some _ e) (Nat.le_refl _) (ad [] (Heap.DictOf.new _) rfl)
 show wpAny _ A (do
  let kv ← eval (.Constant (.str k) j kp) env
  let vv ← holding [kv] (do let x ← eval e env;standAt pos;pure x)
  return (kv,vv) :: (← holding [kv,vv] (evalPairs []))) _ _ _
 refine wpAny_bind (ev_str.use H1 λ k0 s1 ek H2=>wpAny_bind (wpAny_holding (wpAny_bind ((he _).use H2 λ v0 s2 ev H3=>wpAny_bind (wpAny_standAt (wpAny_pure ?_))))))
 refine wpAny_bind (wpAny_holding (wpAny_pure (wpAny_pure ?_)))
 refine ai (cW ek) λ tk zh1=>?_;obtain rfl:=zh1
 refine ac (H3.get (.head _)) λ kvs0 D e0=>?_
 have:kvs0 = []:=by simpa using e0
 subst this
 refine dq (id D) λ o es ep ho zz hdd zz=>?_
 refine (bl [(k,v0)] (aQ (strKind_is prog w k tk) rfl trivial) D (λ h' D' hs=>h _ _ (H3.upd .head hs.extBut (.dict ho hdd) (ad _ D' ?_))))
 show [(k,cv v0)] = _
 rw [ev]
theorem kAe (P:Params):(bZ (Z0.K P) 951 "add_edges_from" 870 && keepIn (Z0.K P) (.ref 870)) = true:=by kernel_rfl
theorem pM (k:Nat):(9:Int) ^ k≠0:=Int.pow_ne_zero (by decide)
theorem sf {k:Nat} (h:k < 6) (a:Int):Builtin.divisionGoesByPylong a (9 ^ k) = false:=by
 have:k = 0∨k = 1∨k = 2∨k = 3∨k = 4∨k = 5:=by walk_at "r"
 rcases this with rfl | rfl | rfl | rfl | rfl | rfl <;> (unfold Builtin.divisionGoesByPylong;rw [Bool.and_eq_false_iff];left;decide)
structure OX where
 tv:Expr
 itv:Expr
 posv:Pos
 tw:Expr
 itw:Expr
 posw:Pos
 body:List Stmt
noncomputable def fX (P:Params):{ x:OX // (fq P).1.drop 6 = .For x.tv x.itv [.For x.tw x.itw x.body [] x.posw] [] x.posv :: (fq P).1.drop 7 }:=⟨⟨_,_,_,_,_,_,_⟩,rfl⟩
structure EE where
 i:Nat
 j:Nat
 c:Int
 dg:Bool
 D:Addr
noncomputable def EE.attrs (e:EE):List (Str×Value):=if e.dg then [] else [("weight",.int e.c 0)]
noncomputable def nmA (names:List Int) (i:Nat):Int:=names.getD i 0
noncomputable def gD (names:List Int) (ed:List EE):List (List Int×Value):=ed.map λ e=>([nmA names e.i,nmA names e.j],.int e.c 0)
noncomputable def dE (names:List Int) (ed:List EE) (n:Int):List (Int×Value):=(ed.filter λ e=>nmA names e.i == n).map λ e=>(nmA names e.j,.ref e.D)
noncomputable def bR (names:List Int) (ed:List EE) (n:Int):List (Int×Value):=(ed.filter λ e=>nmA names e.j == n).map λ e=>(nmA names e.i,.ref e.D)
noncomputable def cS (ed:List EE):Led:=ed.map λ e=>(e.D,.sdict e.attrs)
structure EM (net l:Addr) (n:Nat) (bare:Int) (m:Str->Option Value):Prop where
 many:m "many" = some (.int n 0)
 bare:m "bare" = some (.int bare 0)
 net:m "net" = some (.ref net)
 names:m "names" = some (.ref l)
theorem fM {names:List Int} {i:Nat} (h:i < names.length):nmA names i∈names:=by
 unfold nmA
 rw [List.getD_eq_getElem?_getD,List.getElem?_eq_getElem h];exact List.getElem_mem h
theorem cL {names:List Int} (hn:names.Nodup) {i j:Nat} (hi:i < names.length) (hj:j < names.length) (h:nmA names i = nmA names j):i = j:=by
 unfold nmA at h
 rw [List.getD_eq_getElem?_getD,List.getD_eq_getElem?_getD,List.getElem?_eq_getElem hi,List.getElem?_eq_getElem hj] at h
 exact (List.getElem?_inj hi hn).mp (by rw [List.getElem?_eq_getElem hi,List.getElem?_eq_getElem hj];exact congrArg some h)
theorem nt (names:List Int) (ed:List EE) (e:EE):dE names (ed++[e]) = λ n=>if n = nmA names e.i then dE names ed (nmA names e.i)++[(nmA names e.j,.ref e.D)] else dE names ed n:=by
 funext n
 unfold dE
 rw [List.filter_append,List.map_append]
 by_cases h:n = nmA names e.i
 ·subst h;simp
 ·rw [if_neg h]
  have:(nmA names e.i == n) = false:=beq_eq_false_iff_ne.mpr (Ne.symm h)
  simp [this]
theorem lY (names:List Int) (ed:List EE) (e:EE):bR names (ed++[e]) = λ n=>if n = nmA names e.j then bR names ed (nmA names e.j)++[(nmA names e.i,.ref e.D)] else bR names ed n:=by
 funext n
 unfold bR
 rw [List.filter_append,List.map_append]
 by_cases h:n = nmA names e.j
 ·subst h;simp
 ·rw [if_neg h]
  have:(nmA names e.j == n) = false:=beq_eq_false_iff_ne.mpr (Ne.symm h)
  simp [this]
theorem db {α:Type} [DecidableEq α] {kvs:List (α×Value)} {k:α} (h:∀ e∈kvs,e.1≠k):valueAt kvs k = none:=by
 unfold valueAt
 rw [Option.map_eq_none_iff,List.find?_eq_none]
 intro x hx
 simpa using h x hx
structure EdOk (n:Nat) (bare:Int) (ed:List EE):Prop where
 ij:∀ e∈ed,e.i < e.j∧e.j < n
 nd:(ed.map λ e=>(e.i,e.j)).Nodup
 bare:∀ e∈ed,e.dg = true->e.c = bare
noncomputable def oC (bare:Int):List Int:=[bare,-3,-1,0,2,5]
noncomputable def edF (L Tb Nm l:Addr) (m:Str->Option Value) (oc ov:Option Value) (names numbers:List Int) (ed:List EE):Led :=
 [(L,.frame m),(L + 6,.cell (some (.ref Nm))),(L + 4,.cell oc),(L + 3,.cell ov),(L + 2,.cell (some (.ref Tb))),(Tb,.tdict (gD names ed)),(l,.list (af names)),(Nm,.list (af numbers))]
noncomputable def edL (L Tb Nm l:Addr) (m:Str->Option Value) (oc ov:Option Value) (names numbers ns:List Int) (ed:List EE) (a:GA):Led :=
 edF L Tb Nm l m oc ov names numbers ed++(cS ed++(a.six a.base ns++a.per ns (dE names ed) (bR names ed)))
theorem mW {L Tb Nm l:Addr} {m:Str->Option Value} {oc:Option Value} {names numbers ns:List Int} {ed:List EE} {a:GA} {n v k:Nat} {bare:Int} {o:Led} {v0:Value} {Q:Shared->Prop} (T:TX w B mg mb) (R:Rm A 3 14)
  (hm:EM a.net l n bare m) (hv:v < k) (hk:k < n) (hn:n≤6) (hnl:names.length = n) (hnd:names.Nodup) (hns:∀ x,x∈names->x∈ns) (hnsd:ns.Nodup) (hnsl:ns.length≤100) (hnum:numbers.length = 9)
  (hed:EdOk n bare ed) (hfr:∀ e∈ed,e.i < v∨e.i = v∧e.j < k) (hz:ed.length≤50)
  (ev:cv v0 = .int k 0) (H:W prog w B g os (edL L Tb Nm l m oc (some (.int v 0)) names numbers ns ed a++o) s)
  (h:∀ m' oc' ed' s',EM a.net l n bare m'->EdOk n bare ed'->(∀ e∈ed',e.i < v∨e.i = v∧e.j < k + 1)->ed'.length≤ed.length + 1->W prog w B g os (edL L Tb Nm l m' oc' (some (.int v 0)) names numbers ns ed' a++o) s'->Q s') :
  wpAny (model prog w) A (assign (fX w.params).1.tw (cr w.params L) v0) (λ _ s₂=>wpAny (model prog w) A (execs (fX w.params).1.body (cr w.params L)) (λ fl s₃=>(fl = .next∨fl = .cont)∧Q s₃) E s₂) E s:=by
 have X:=T.X
 dsimp only [fX,cr,jq,fq]
 refine jy λ Q' hQ'=>?_
 unfold edL edF at H
 obtain ⟨Z,hZ⟩:∃ Z,Z = (L + 6,AObj.cell (some (.ref Nm))) :: (L + 3,.cell (some (.int v 0))) :: (L + 2,.cell (some (.ref Tb))) :: (l,.list (af names)) :: (Nm,.list (af numbers)) :: (cS ed++(a.six a.base ns++(a.per ns (dE names ed) (bR names ed)++o))):=⟨_,rfl⟩
 have H0:W prog w B g os ((L,.frame m) :: (L + 4,.cell oc) :: (Tb,.tdict (gD names ed)) :: Z) s:=H.perm (by rw [hZ];exact pm [[_],[_],[_],[_],[_],[_],[_],[_],_,_,_,_] [1,1,2,5,8,11,14,17,20,23,0,27,30,34,37] [2,8,17,5,11,14,20,23,27,30,33,37] rfl)
 have y6:(L + 6,AObj.cell (some (.ref Nm)))∈Z:=hZ▸.head _
 have y3:(L + 3,AObj.cell (some (.int v 0)))∈Z:=hZ▸.tail _ (.head _)
 have y2:(L + 2,AObj.cell (some (.ref Tb)))∈Z:=hZ▸.tail _ (.tail _ (.head _))
 have yl:(l,AObj.list (af names))∈Z:=hZ▸.tail _ (.tail _ (.tail _ (.head _)))
 have yN:(Nm,AObj.list (af numbers))∈Z:=hZ▸.tail _ (.tail _ (.tail _ (.tail _ (.head _))))
 refine aG (al (v:=.int k 0) H0 (by walk_at "a") ev λ s₁ H1=>?_)
 obtain ⟨d,hd⟩:∃ d:Int,d = (Int.fdiv (numbers.getD (2 + v) 0) (9 ^ k)).fmod 9:=⟨_,rfl⟩
 have hg1:(af numbers)[((2:Int) + v).toNat]? = some (.int (numbers.getD (2 + v) 0) 0):=by
  rw [show ((2:Int) + v).toNat = 2 + v by walk_at "r"]
  unfold af
  rw [List.getElem?_map,List.getD_eq_getElem?_getD,List.getElem?_eq_getElem (by walk_at "r")];rfl
 refine bh (v:=.int d 0) H1 ?e1 (by walk_at "a") λ s₂ H2=>?_
 case e1=>
  rw [hd]
  refine ku (by decide) (nx (a:=numbers.getD (2 + v) 0) (b:=9 ^ k) ?_ ?_ (cq (aq (c:=L + 6) rfl (by walk_at "a")) (kB aC (aq (c:=L + 3) rfl (by walk_at "a"))) (by walk_at "a") (by walk_at "r") hg1 (by walk_at "r")) (pa (a:=9) (n:=k) (by walk_at "r") ?_ aC (aa (by walk_at "a") rfl))) aC
  ·exact pM k
  ·exact sf (by walk_at "r") _
  ·rw [show Builtin.Int.intBits 9 = 4 by decide];walk_at "r"
 replace H2:W prog w B g os ((L,.frame (put "digit" (.int d 0) (put "w" (.int k 0) m))) :: (L + 4,.cell oc) :: (Tb,.tdict (gD names ed)) :: Z) s₂:=H2
 have hm1:EM a.net l n bare (put "digit" (.int d 0) (put "w" (.int k 0) m)):=⟨hm.1,hm.2,hm.3,hm.4⟩
 have kd:put "digit" (.int d 0) (put "w" (.int k 0) m) "digit" = some (.int d 0):=rfl
 have kw:put "digit" (.int d 0) (put "w" (.int k 0) m) "w" = some (.int k 0):=rfl
 generalize put "digit" (.int d 0) (put "w" (.int k 0) m) = m1 at H2 hm1 kd kw
 refine d9 (b:=decide (d > 2)) H2 (aT (aa (by walk_at "a") (by exact kd)) aC λ a0 b0 ea eb=>nq ea eb) (λ hb s₃ H3=>?_) (λ hb s₃ H3=>?_)
 ·have hd2:d > 2:=by simpa using hb
  have hd9:d < 9:=by rw [hd];exact Int.fmod_lt_of_pos _ (by decide)
  obtain ⟨c,hc⟩:∃ c,c = (oC bare).getD (d - 3).toNat 0:=⟨_,rfl⟩
  have hgc:(af (oC bare))[(d - 3).toNat]? = some (.int c 0):=by
   rw [hc]
   unfold af
   rw [List.getElem?_map,List.getD_eq_getElem?_getD,List.getElem?_eq_getElem (by show _ < 6;walk_at "r")];rfl
  refine aB (Subscript_ (i8 (ab H3 (aa (v:=.int bare 0) (by walk_at "a") (by exact hm1.bare)) λ x1 s4 f1 H4=>ab H4 (pb aC) λ x2 s5 f2 H5=>ab H5 (pb aC) λ x3 s₆ f3 H6=>ab H6 aC λ x4 s7 f4 H7=>ab H7 aC λ x5 s8 f5 H8=>ab H8 aC λ x6 s9 f6 H9=>ah
   (du H9 (ws:=af (oC bare)) (by simp only [List.map_cons,List.map_nil,f1,f2,f3,f4,f5,f6];rfl) (by simp) λ lc s10 H10=>?_))))
  refine (mj (a:=d) (b:=3) (aa (by walk_at "a") (by exact kd)) aC).use H10 λ i0 s11 ei H11=>?_
  refine ai (ap ei) λ ti zh1=>?_;obtain rfl:=zh1
  refine tail_any (hV (vs:=af (oC bare)) (.head _) _ H11) slot_list_getitem.lookup ((lU (k:=d - 3) (.head _) rfl (by walk_at "r") hgc (by walk_at "r")).use H11 λ c0 s12 ec H12=>?_) (by with_unfolding_all rfl)
  refine bJ (c:=L + 4) (v:=.int c 0) H12.drop rfl (by walk_at "a") ec λ s13 H13=>?_
  replace H13:W prog w B g os ((L,.frame m1) :: (L + 4,.cell (some (.int c 0))) :: (Tb,.tdict (gD names ed)) :: Z) s13:=H13
  have hnv:(af names)[((v:Nat):Int).toNat]? = some (.int (nmA names v) 0):=by
   show (af names)[v]? = _
   unfold af nmA
   rw [List.getElem?_map,List.getD_eq_getElem?_getD,List.getElem?_eq_getElem (by walk_at "r")];rfl
  have hnk:(af names)[((k:Nat):Int).toNat]? = some (.int (nmA names k) 0):=by
   show (af names)[k]? = _
   unfold af nmA
   rw [List.getElem?_map,List.getD_eq_getElem?_getD,List.getElem?_eq_getElem (by walk_at "r")];rfl
  have hpn:nmA names v∈ns:=hns _ (fM (by walk_at "r"))
  have hqn:nmA names k∈ns:=hns _ (fM (by walk_at "r"))
  have z1:(a.net,AObj.inst 951 a.d)∈Z:=by rw [hZ];exact .tail _ (.tail _ (.tail _ (.tail _ (.tail _ (List.mem_append_right _ (List.mem_append_left _ (.head _)))))))
  have z2:(a.d,AObj.sdict a.base)∈Z:=by rw [hZ];exact .tail _ (.tail _ (.tail _ (.tail _ (.tail _ (List.mem_append_right _ (List.mem_append_left _ (.tail _ (.head _))))))))
  have ke:=kAe w.params
  simp only [Bool.and_eq_true] at ke
  have hfresh:∀ e∈ed,¬ (nmA names e.i = nmA names v∧nmA names e.j = nmA names k):=by
   intro e he zr;refine ae zr λ q1 q2=>?_;clear zr
   refine ae (hed.ij e he) λ h1 h2=>?_
   have:=cL hnd (by walk_at "r") (by walk_at "r") q1
   have:=cL hnd (by walk_at "r") (by walk_at "r") q2
   rcases hfr e he with h3 | h3 <;> walk_at "r"
  obtain ⟨at_,hat⟩:∃ at_,at_ = EE.attrs ⟨v,k,c,d == 3,0⟩:=⟨_,rfl⟩
  refine cQ (ax H13 (aa (v:=.ref a.net) (by walk_at "a") (by exact hm1.net))<|au λ s14 H14=>?_)
  refine qE X ke.1 H14 (.tail _ (.tail _ (.tail _ z1))) (.tail _ (.tail _ (.tail _ z2))) rfl ?_
  refine cw1 (be (i8 (be (d6 (ab H14 (cq (k:=v) (aa (v:=.ref l) (by walk_at "a") (by exact hm1.names)) (aq (c:=L + 3) rfl (by walk_at "a")) (by walk_at "a") (by walk_at "r") hnv (by walk_at "r")) λ p0 s15 ep H15=>
   ab H15 (cq (k:=k) (aa (v:=.ref l) (by walk_at "a") (by exact hm1.names)) (aa (by walk_at "a") (by exact kw)) (by walk_at "a") (by walk_at "r") hnk (by walk_at "r")) λ q0 s16 eq H16=>be ?_)))))
  refine wpAny_mono (Q:=λ x s'=>∃ dd,x = .ref dd∧W prog w B g os ((dd,.sdict at_) :: (L,.frame m1) :: (L + 4,.cell (some (.int c 0))) :: (Tb,.tdict (gD names ed)) :: Z) s')
   (rP (b:=d == 3) H16 (aT (aa (by walk_at "a") (by exact kd)) aC λ a0 b0 ea eb=>jX ea eb) (λ hb s' H'=>?_) (λ hb s' H'=>?_)) (λ x s' hx=>?_) λ _ _ e=>e
  ·refine fU H' λ dd s'' H''=>(ad dd rfl ?_)
   rw [show at_ = [] by rw [hat];unfold EE.attrs;rw [show (EE.mk v k c (d == 3) 0).dg = true from hb];rfl]
   exact H''.chg .head jF
  ·refine po H' (v:=.int c 0) (λ D=>aq (c:=L + 4) rfl (by walk_at "a")) λ dd s'' H''=>(ad dd rfl ?_)
   rw [show at_ = ([("weight",.int c 0)]:List (Str×Value)) by rw [hat];unfold EE.attrs;rw [show (EE.mk v k c (d == 3) 0).dg = false from hb];rfl]
   exact H''
  refine ac hx λ dd zh1 H17=>?_;clear hx;obtain rfl:=zh1
  refine ah (bD H17 (ws:=[.int (nmA names v) 0,.int (nmA names k) 0,.ref dd]) (by simp [ep,eq];rfl) (by simp) λ t s18 H18=>?_)
  refine ah (du H18 (ws:=[.ref t]) rfl (by simp) λ ld s19 H19=>?_)
  refine ah ⟨aW (X.keeps H19.keep) ke.2,?_⟩
  rw [hZ] at H19
  have hsu:∀ p q,(dE names ed p).length≤50∧(bR names ed q).length≤50:=λ p q=>by
   unfold dE bR
   rw [List.length_map,List.length_map]
   exact ⟨Nat.le_trans (List.length_filter_le _ _) hz,Nat.le_trans (List.length_filter_le _ _) hz⟩
  refine add_edge (l:=ld) (t:=t) (dd:=dd) (a:=a) (ns:=ns) (su:=dE names ed) (pr:=bR names ed) (attrs:=at_) (p:=nmA names v) (q:=nmA names k) (σ:=(L,.frame m1) :: (L + 6,.cell (some (.ref Nm))) :: (L + 4,.cell (some (.int c 0))) :: (L + 3,.cell (some (.int v 0))) :: (L + 2,.cell (some (.ref Tb))) :: (Tb,.tdict (gD names ed)) :: (l,.list (af names)) :: (Nm,.list (af numbers)) :: (cS ed++o))
   hnsd hnsl hpn hqn (db ?s1) (db ?s2) (by have:=(hsu (nmA names v) 0).1;walk_at "r") (by have:=(hsu 0 (nmA names k)).2;walk_at "r") ?mer ?atl (H19.perm (by exact pm [[_],[_],[_],[_],[_],[_],[_],[_],[_],[_],[_],_,_,_,_] [2,5,8,11,14,17,20,23,26,29,32,36,39,42,46] [2,5,8,39,42,11,20,14,23,26,17,29,32,36,46] rfl)) (R.mono (by decide) (by decide)) T.toTE λ D s20 H20=>⟨rfl,?_⟩
  case s1=>
   intro x hx q
   refine ac (List.mem_map.mp hx) λ e he zh1=>?_;obtain rfl:=zh1
   refine ae (List.mem_filter.mp he) λ he h1=>?_
   exact hfresh e he ⟨by simpa using h1,q⟩
  case s2=>
   intro x hx q
   refine ac (List.mem_map.mp hx) λ e he zh1=>?_;obtain rfl:=zh1
   refine ae (List.mem_filter.mp he) λ he h1=>?_
   exact hfresh e he ⟨q,by simpa using h1⟩
  case mer=>rw [hat];unfold EE.attrs;split <;> rfl
  case atl=>rw [hat];unfold EE.attrs;split <;> simp
  obtain ⟨e',he'⟩:∃ e':EE,e' = ⟨v,k,c,d == 3,D⟩:=⟨_,rfl⟩
  have g1:dE names (ed++[e']) = λ n=>if n = nmA names v then dE names ed (nmA names v)++[(nmA names k,.ref D)] else dE names ed n:=by rw [nt,he']
  have g2:bR names (ed++[e']) = λ n=>if n = nmA names k then bR names ed (nmA names k)++[(nmA names v,.ref D)] else bR names ed n:=by rw [lY,he']
  have g3:cS (ed++[e']) = cS ed++[(D,.sdict at_)]:=by unfold cS;rw [List.map_append,he',hat];rfl
  have g4:gD names (ed++[e']) = gD names ed++[([nmA names v,nmA names k],.int c 0)]:=by unfold gD;rw [List.map_append,he'];rfl
  rw [← g1,← g2] at H20
  replace H20:W prog w B g os ((Tb,.tdict (gD names ed)) :: (L,.frame m1) :: (L + 6,.cell (some (.ref Nm))) :: (L + 4,.cell (some (.int c 0))) :: (L + 3,.cell (some (.int v 0))) :: (L + 2,.cell (some (.ref Tb))) :: (l,.list (af names)) :: (Nm,.list (af numbers)) ::
   ((D,.sdict at_) :: (a.six a.base ns++(a.per ns (dE names (ed++[e'])) (bR names (ed++[e']))++(cS ed++o))))) s20:=H20.perm (by exact pm [[_],_,_,[_],[_],[_],[_],[_],[_],[_],[_],_,_] [2,6,9,11,14,17,20,23,26,29,32,36,40] [26,11,14,17,20,23,29,32,2,6,9,36,40] rfl)
  refine eD ((aq (c:=L + 4) (v:=.int c 0) rfl (by walk_at "a")).use H20 λ v1 s21 e21 H21=>(aq (c:=L + 2) (v:=.ref Tb) rfl (by walk_at "a")).use H21<|au λ s22 H22=>?_)
  refine d6 (ab H22 (cq (k:=v) (aa (v:=.ref l) (by walk_at "a") (by exact hm1.names)) (aq (c:=L + 3) rfl (by walk_at "a")) (by walk_at "a") (by walk_at "r") hnv (by walk_at "r")) λ p0 s15 ep H23=>
   ab H23 (cq (k:=k) (aa (v:=.ref l) (by walk_at "a") (by exact hm1.names)) (aa (by walk_at "a") (by exact kw)) (by walk_at "a") (by walk_at "r") hnk (by walk_at "r")) λ q0 s16 eq H24=>ah ?_)
  refine bD H24 (ws:=[.int (nmA names v) 0,.int (nmA names k) 0]) (by simp [ep,eq]) (by simp) λ t2 s25 H25=>?_
  refine oE (i:=nmA names v) (j:=nmA names k) (kvs:=gD names ed) (R.mono (by decide) (by decide)) H25 (.tail .head) (.head _) rfl e21 (by unfold gD;rw [List.length_map];walk_at "r") (db ?s3) λ s26 H26=>?_
  case s3=>
   intro x hx q
   refine ac (List.mem_map.mp hx) λ e he zh1=>?_;obtain rfl:=zh1
   simp only [List.cons.injEq,and_true] at q
   exact hfresh e he q
  rw [← g4] at H26
  refine ay (ay<|hQ' _ _ ⟨.inl rfl,h m1 (some (.int c 0)) (ed++[e']) s26 hm1 ?_ ?_ ?_ ?_⟩)
  ·refine ⟨λ e he=>?_,?_,λ e he hdg=>?_⟩
   ·rcases List.mem_append.mp he with he | he
    ·exact hed.ij e he
    ·rw [List.mem_singleton] at he
     rw [he,he']
     exact ⟨hv,hk⟩
   ·rw [List.map_append,List.nodup_append]
    refine (aQ hed.nd (by simp) (λ x hx y hy q=>?_))
    refine ac (List.mem_map.mp hx) λ e he zh1=>?_;obtain rfl:=zh1
    rw [he'] at hy
    simp only [List.map_cons,List.map_nil,List.mem_singleton] at hy
    rw [hy] at q
    refine ae (Prod.mk.inj q) λ q1 q2=>?_
    rcases hfr e he with h3 | h3 <;> walk_at "r"
   ·rcases List.mem_append.mp he with he | he
    ·exact hed.bare e he hdg
    ·rw [List.mem_singleton] at he
     rw [he,he'] at hdg
     rw [he,he']
     have hd3:d = 3:=by simpa using hdg
     show c = bare
     rw [hc,hd3];rfl
  ·intro e he
   rcases List.mem_append.mp he with he | he
   ·rcases hfr e he with q | q
    ·exact .inl q
    ·exact .inr ⟨q.1,by walk_at "r"⟩
   ·rw [List.mem_singleton] at he
    rw [he,he']
    exact .inr ⟨rfl,Nat.lt_succ_self _⟩
  ·rw [List.length_append];simp
  ·unfold edL edF
   rw [g3]
   refine H26.drop.perm ?_
   exact pm [[_],[_],[_],[_],[_],[_],[_],[_],[_],_,_,_,_] [2,5,8,11,14,17,20,23,26,30,33,36,40] [1,1,5,8,11,14,17,2,20,23,0,1,36,26,0,30,34,40] rfl
 ·refine ay (ay<|hQ' _ _ ⟨.inl rfl,h m1 oc ed s₃ hm1 hed (λ e he=>?_) (by walk_at "r") ?_⟩)
  ·rcases hfr e he with q | q
   ·exact .inl q
   ·exact .inr ⟨q.1,by walk_at "r"⟩
  ·unfold edL edF
   rw [hZ] at H3
   exact H3.perm (by exact pm [[_],[_],[_],[_],[_],[_],[_],[_],_,_,_,_] [2,5,8,11,14,17,20,23,27,30,33,37] [1,1,2,11,5,14,17,8,20,23,0,27,30,34,37] rfl)
theorem m5 {L Tb Nm l:Addr} {m:Str->Option Value} {oc ov:Option Value} {names numbers ns:List Int} {a:GA} {n:Nat} {bare:Int} {o:Led} {Q:Shared->Prop} (T:TX w B mg mb) (R:Rm A 3 14)
  (hm:EM a.net l n bare m) (hn:n≤6) (hnl:names.length = n) (hnd:names.Nodup) (hns:∀ x,x∈names->x∈ns) (hnsd:ns.Nodup) (hnsl:ns.length≤100) (hnum:numbers.length = 9)
  (H:W prog w B g os (edL L Tb Nm l m oc ov names numbers ns [] a++o) s)
  (h:∀ m' oc' ov' ed' s',EM a.net l n bare m'->EdOk n bare ed'->ed'.length≤36->W prog w B g os (edL L Tb Nm l m' oc' ov' names numbers ns ed' a++o) s'->Q s') :
  wpAny (model prog w) A (execs [.For (fX w.params).1.tv (fX w.params).1.itv [.For (fX w.params).1.tw (fX w.params).1.itw (fX w.params).1.body [] (fX w.params).1.posw] [] (fX w.params).1.posv] (cr w.params L)) (λ fl s3=>fl = .next∧Q s3) E s:=by
 have X:=T.X
 refine lj (C:=Unit) (ρ:=λ _=>[]) (tg:=aM) (d:=2) (u:=8) (B:=B) (os:=os)
  (λ xs o' γ'=>γ' = g∧∃ (v j:Nat),xs = bu v j∧v + j = n∧∃ m oc ov ed,EM a.net l n bare m∧EdOk n bare ed∧(∀ e∈ed,e.i < v)∧ed.length≤v * 6∧o' = edL L Tb Nm l m oc ov names numbers ns ed a++o)
  trivial (R.mono (by decide) (by decide)) ?_ ?_ ?_
 ·unfold edL edF at H
  refine aw (env:=cr w.params L) H (T.toTE.boot (x:="range") (v:=.type "range") (by decide)) (λ f0 e=>ca e) λ s8 H8=>?_
  refine cw1 (ab H8 (aa (env:=cr w.params L) (m:=m) (v:=.int n 0) (.head _) hm.many) λ a0 s9 ea H9=>ah ⟨bo,?_⟩)
  refine cU H9 ea λ r s10 H10=>?_
  refine cN H10 (.head _) (by walk_at "r") (by walk_at "r") (by walk_at "r") λ I s11 H11=>?_
  rw [show ((n:Int) - 0).toNat = n by walk_at "r"] at H11
  refine (lh I (bu 0 n) _ [] () _ g rfl (bn _ 0) (aJ rfl (bc 0 n rfl (Nat.zero_add n) (fw m oc ov [] hm ⟨λ e he=>(by cases he),List.nodup_nil,λ e he=>(by cases he)⟩ (λ e he=>(by cases he)) (Nat.zero_le _) rfl))) ?_)
  exact (H11.pick (a:=r) (.tail .head)).drop
 ·intro x xs μ γ o' γ' c2 x₀ ν s' E2 hJ hx H2
  refine jy λ Q' hQ'=>?_
  refine ae hJ λ zh1 zh2=>?_;clear hJ;obtain rfl:=zh1;refine aV zh2 λ v j f1 f2 zh3=>?_;clear zh2;refine cx zh3 λ m oc ov ed hm hed f3 f4 zh4=>?_;clear zh3;obtain rfl:=zh4
  refine aU (bE f1) λ j zh1 zh2 zh3=>?_;obtain rfl:=zh1;obtain rfl:=zh2;obtain rfl:=zh3
  refine ae hx λ ev zh1=>?_;clear hx;obtain rfl:=zh1
  unfold edL edF at H2
  replace H2:W prog w B (γ++γ') os ((L + 3,.cell ov) :: (L,.frame m) :: (L + 6,.cell (some (.ref Nm))) :: (L + 4,.cell oc) :: (L + 2,.cell (some (.ref Tb))) :: (Tb,.tdict (gD names ed)) :: (l,.list (af names)) :: (Nm,.list (af numbers)) ::
   (cS ed++(a.six a.base ns++(a.per ns (dE names ed) (bR names ed)++(μ++o))))) s':=H2.perm (by exact pm [_,[_],[_],[_],[_],[_],[_],[_],[_],_,_,_,_] [1,0,3,1,0,1,1,5,8,11,14,17,20,23,26,0,30,33,37,40] [14,5,8,11,17,20,23,26,30,33,36,3,40] rfl)
  refine aG (bJ (env:=cr w.params L) (c:=L + 3) (v:=.int v 0) H2 rfl .head ev λ s3 H3=>?_)
  refine wpAny_mono (Q:=λ fl s3=>fl = .next∧∃ m oc ov ed,EM a.net l n bare m∧EdOk n bare ed∧(∀ e∈ed,e.i < v + 1)∧ed.length≤(v + 1) * 6∧W prog w B (γ++γ') os (edL L Tb Nm l m oc ov names numbers ns ed a++(μ++o)) s3) ?_ (λ fl s4 h4=>?_) λ _ _ e=>e
  ·refine lj (C:=Unit) (ρ:=λ _=>[]) (tg:=aM) (d:=2) (u:=8) (B:=B) (os:=os)
    (λ xs o' γ2=>γ2 = γ++γ'∧∃ (k j:Nat),xs = bu k j∧k + j = n∧v < k∧∃ m oc ed,EM a.net l n bare m∧EdOk n bare ed∧(∀ e∈ed,e.i < v∨e.i = v∧e.j < k)∧ed.length≤v * 6 + (k - (v + 1))∧o' = edL L Tb Nm l m oc (some (.int v 0)) names numbers ns ed a++(μ++o))
    trivial (R.mono (by decide) (by decide)) ?_ ?_ ?_
   ·refine aw (env:=cr w.params L) H3 (T.toTE.boot (x:="range") (v:=.type "range") (by decide)) (λ f0 e=>ca e) λ s8 H8=>?_
    refine cw1 (ab H8 (kB (a:=v) (b:=1) (aq (env:=cr w.params L) (c:=L + 3) (v:=.int v 0) rfl (.head _)) aC) λ a0 s9 ea H9=>ab H9 (aa (env:=cr w.params L) (m:=m) (v:=.int n 0) (.tail _ (.head _)) hm.many) λ b0 s10 eb H10=>ah ⟨bo,?_⟩)
    refine nT H10 ea eb λ r s11 H11=>?_
    refine cN H11 (.head _) (by walk_at "r") (by walk_at "r") (by walk_at "r") λ I s12 H12=>?_
    rw [show ((n:Int) - ((v:Int) + 1)).toNat = j from G1 f2] at H12
    refine (lh I (bu ((v:Int) + 1) j) _ [] () _ (γ++γ') rfl (bn _ _) (aJ rfl (dK (v + 1) j rfl (A1 f2) (Nat.lt_succ_self v) (eE m oc ed hm hed (λ e he=>.inl (f3 e he)) (Nat.le_trans f4 (Nat.le_add_right _ _)) rfl))) ?_)
    refine (H12.pick (a:=r) (.tail .head)).drop.perm ?_
    unfold edL edF
    show ((I,_) :: (L + 3,_) :: _).Perm _
    exact pm [[_],[_],[_],[_],[_],[_],[_],[_],[_],_,_,_,_,_] [2,5,8,11,14,17,20,23,26,30,33,36,39,43] [1,2,0,1,0,1,1,8,11,14,5,17,20,23,26,0,30,33,37,39,43] rfl
   ·intro x xs μ2 γ2 o' γ3 c3 x₁ ν s4 E3 zr;refine ae zr λ zh1 zh2=>?_;clear zr;obtain rfl:=zh1;refine cK zh2 λ k j f5 f6 f7 zh3=>?_;clear zh2;refine dQ zh3 λ m oc ed hm hed f8 f9 zh4=>?_;clear zh3;obtain rfl:=zh4;intro hx H4
    refine aU (bE f5) λ j zh1 zh2 zh3=>?_;obtain rfl:=zh1;obtain rfl:=zh2;obtain rfl:=zh3
    refine ae hx λ ev2 zh1=>?_;clear hx;obtain rfl:=zh1
    refine mW (n:=n) (o:=μ2++(μ++o)) T R hm f7 (A2 f6) hn hnl hnd hns hnsd hnsl hnum hed f8 (G3 f9 f7 f6 hn) ev2 (H4.perm (by exact pm [_,_,_,_] [1,0,3,1,0,6,9,13] [6,3,9,13] rfl)) λ m' oc' ed' s' hm' hed' q1 q2 H'=>?_
    exact (cc () _ _ (aJ rfl (dK (k + 1) j rfl (A1 f6) (E8 f7) (eE m' oc' ed' hm' hed' q1 (G4 f9 q2 f7) rfl))) (H'.perm (by exact pm [_,_,_,_] [3,6,9,13] [6,1,0,3,9,13] rfl)))
   ·intro o' γ3 c3 s4 zr;refine ae zr λ zh1 zh2=>?_;clear zr;obtain rfl:=zh1;refine cK zh2 λ k j f5 f6 f7 zh3=>?_;clear zh2;refine dQ zh3 λ m oc ed hm hed f8 f9 zh4=>?_;clear zh3;obtain rfl:=zh4;intro H4
    have hj:=bY f5
    exact ay (aJ rfl (fw m oc _ ed hm hed (λ e he=>(f8 e he).elim Nat.lt_succ_of_lt λ q=>Nat.lt_succ_of_le (Nat.le_of_eq q.1)) (G6 f9 f6 hj hn) H4))
  ·refine ae h4 λ zh1 zh2=>?_;clear h4;obtain rfl:=zh1;refine cx zh2 λ m oc ov ed hm hed q1 q2 H4=>?_;clear zh2
   exact hQ' _ _ (aJ (.inl rfl) (cc () _ _ (aJ rfl (bc (v + 1) j rfl (A1 f2) (fw m oc ov ed hm hed q1 q2 rfl))) (H4.perm (by exact pm [_,_,_] [3,6,10] [6,1,0,3,10] rfl))))
 ·intro o' γ' c2 s' zr;refine ae zr λ zh1 zh2=>?_;clear zr;obtain rfl:=zh1;refine aV zh2 λ v j f1 f2 zh3=>?_;clear zh2;refine cx zh3 λ m oc ov ed hm hed f3 f4 zh4=>?_;clear zh3;obtain rfl:=zh4;intro H2
  have hj:=bY f1
  exact ay ⟨rfl,h m oc ov ed s' hm hed (G7 f4 f2 hj hn) H2⟩
noncomputable def qY {α:Type} (n:Nat) (P:α->Bool):KasT α->Bool
 | .ret a=>P a
 | .ask i j k=>decide (i < n) && decide (j < n) && qY n P (k true) && qY n P (k false)
noncomputable def jB (n:Nat):Bool:=qY n (λ p:Array Nat=>p.toList.isPerm (List.range n)) (kas_sort n)
theorem qw:jB 2 = true:=by decide +kernel
theorem rg:jB 3 = true:=by decide +kernel
theorem qG:jB 4 = true:=by decide +kernel
theorem qM:jB 5 = true:=by decide +kernel
theorem qW:jB 6 = true:=by decide +kernel
theorem rc {n:Nat} (h2:2≤n) (h6:n≤6):jB n = true:=by
 have:n = 2∨n = 3∨n = 4∨n = 5∨n = 6:=by walk_at "r"
 rcases this with rfl | rfl | rfl | rfl | rfl
 ·exact qw
 ·exact rg
 ·exact qG
 ·exact qM
 ·exact qW
theorem go {α:Type} {n:Nat} {P:α->Bool} {cmp:Nat->Nat->(Bool->Shared->Prop)->Shared->Prop} {I:Shared->Prop} {G:α->Shared->Prop}
  (hc:∀ i j C s,i < n->j < n->I s->(∀ b s',I s'->C b s')->cmp i j C s) (hG:∀ a s,P a = true->I s->G a s):∀ (t:KasT α) s,qY n P t = true->I s->t.kasWp cmp G s
 | .ret a,s,h,hI=>hG a s h hI
 | .ask i j k,s,h,hI=>by
  simp only [qY,Bool.and_eq_true,decide_eq_true_eq] at h
  refine hc i j _ s h.1.1.1 h.1.1.2 hI λ b s' hI'=>?_
  cases b with
  | true=>exact go hc hG (k true) s' h.1.2 hI'
  | false=>exact go hc hG (k false) s' h.2 hI'
noncomputable def bv (n:Nat):List Int:=(List.range n).map λ (k:Nat)=>(k:Int)
theorem gH {r:Addr} {n:Nat} {Q:List Value->Shared->Prop} (hh:A.handled = none) (H:W prog w B g os σ s) (hm:(r,bB 0 n)∈σ) (hn:n≤100)
  (h:∀ vs s',vs.map cv = af (bv n)->W prog w B g os σ s'->Q vs s'):wpAny (model prog w) A (collect (.ref r)) Q E s:=by
 refine ac (H.get hm) λ o ho zh1=>?_;refine cw zh1 λ t u v zh2=>?_;clear zh1;obtain rfl:=zh2
 have hr:IsRange s.heap r 0 n 1 t u v:=ho
 have hrn:Builtin.Range.rangeSize 0 (n:Int) 1 = n:=by rw [rangeSize_one];split <;> walk_at "r"
 unfold collect
 refine wpAny_bind (wpAny_runValue (codeAny_builtin entry_proto_collect' ?_))
 rw [Around.under_plainId PySem.F.plain_proto_collect _]
 show wpAny _ A.in1 (newList [] >>= λ l=>again (.builtin "list.__iadd__" ⟨[l,.ref r],[]⟩)) _ _ s
 refine wpAny_bind (wpAny_newObj_type ?_)
 refine wpAny_pure ⟨plainId_quiet PySem.F.plain_list_iadd _,codeAny_builtin entry_list_iadd' ?_⟩
 rw [Around.under_plainId PySem.F.plain_list_iadd _]
 have hS1:(s.heap.push { cls:=.type "list",data:=.seq ([]:List Value).toArray }).get? s.heap.objs.size = some { cls:=.type "list",data:=.seq #[] }:=Heap.get?_push_size _ rfl
 show wpAny _ A.in1 (Builtin.List.listExtendWith (.ref s.heap.objs.size) (.ref r) (.ref s.heap.objs.size)) _ _ _
 have key:=wpAny_extend_range (prog:=prog) (A:=A) (s:={ s with heap:=s.heap.push { cls:=.type "list",data:=.seq ([]:List Value).toArray } })
  (R:=λ (q:Result) (s':Shared)=>∃ (h':Heap) (tk:Nat) (acc':Array Value) (c':Nat),q = .ok (.ret (.ref s.heap.objs.size))∧s' = { s with heap:=h',toks:=tk } ∧
   (∀ b o,s.heap.get? b = some o->h'.get? b = some o)∧h'.get? s.heap.objs.size = some { cls:=.type "list",dict:=none,data:=.seq acc' c',slots:=#[] }∧ItemsOf (λ i v=>∃ t,v = .int (0 + i * 1) t) acc' n)
  (w:=w) hh (Heap.get?_push_of_some _ hr) (gf (by walk_at "r") (by walk_at "r") (by walk_at "r") (by walk_at "r")) hrn (by walk_at "r") s.heap.objs.size (.ref s.heap.objs.size) 0 hS1
  (λ h' tk acc' c' hk hS' hacc=>(fw h' tk acc' c' rfl rfl (λ b o e=>hk b o (Nat.ne_of_lt (Heap.lt_size e)) (Heap.get?_push_of_some _ e)) hS' hacc))
 have hit:∀ (acc:Array Value),ItemsOf (λ i v=>∃ t,v = .int (0 + i * 1) t) acc n->acc.toList.map cv = af (bv n):=by
  intro acc hacc
  refine List.ext_getElem? λ i=>?_
  unfold af bv
  rw [List.getElem?_map,List.getElem?_map,List.getElem?_map]
  by_cases hi:i < n
  ·rw [List.getElem?_range hi]
   have hsz:i < acc.size:=by rw [hacc.1];exact hi
   refine ai (hacc.2 i acc[i] (by rw [Array.getElem?_eq_getElem hsz])) λ t ht=>?_
   rw [Array.getElem?_toList,Array.getElem?_eq_getElem hsz,ht]
   show some (Value.int (0 + (i:Int) * 1) 0) = some (Value.int i 0)
   rw [Int.mul_one,Int.zero_add]
  ·rw [List.getElem?_eq_none (l:=acc.toList) (by rw [Array.length_toList,hacc.1];walk_at "r"),List.getElem?_eq_none (l:=List.range n) (by rw [List.length_range];walk_at "r")];rfl
 refine wpAny_mono key (λ fin s' x=>?_) λ e s' x=>?_
 ·cases fin with
  | done f=>
   refine cx x λ h' tk acc' c' e zh1 hk hS' hacc=>?_;clear x;obtain rfl:=zh1
   cases e
   show wpAny _ A (load s.heap.objs.size >>= _) _ _ _
   refine wpAny_bind (wpAny_load hS' ?_)
   exact wpAny_pure (h acc'.toList _ (hit _ hacc) (H.grow (t:=tk) hk))
  | again c₁=>
   refine ⟨x.1,codeAny_mono x.2 λ q s2 y=>?_⟩
   refine cx y λ h' tk acc' c' zh1 zh2 hk hS' hacc=>?_;clear y;obtain rfl:=zh1;obtain rfl:=zh2
   show wpAny _ A (load s.heap.objs.size >>= _) _ _ _
   refine wpAny_bind (wpAny_load hS' ?_)
   exact wpAny_pure (h acc'.toList _ (hit _ hacc) (H.grow (t:=tk) hk))
 ·refine eX x λ zz zz zz zz e' zz=>?_;clear x
  cases e'
theorem kG {a:Addr} {xs:Array Value} {n:Nat} {fn:Array Value->Array Value} {Q:Unit->Shared->Prop} (H:W prog w B g os σ s) (u:Up a (.raw (seqObj "list" xs n)) σ f) (h1:xs.size≤1000) (h2:(fn xs).size≤1000)
  (h:∀ n' s',W prog w B g os (f (.raw (seqObj "list" (fn xs) n'))) s'->Q () s'):wpAny (model prog w) A (Builtin.List.listUpdate (.ref a) fn) Q E s:=by
 have ho:s.heap.get? a = some (seqObj "list" xs n):=H.get u.mem
 obtain ⟨e1,ho1⟩:∃ e1,(s.heap.update a (Obj.mapSeq fn)).get? a = some (seqObj "list" (fn xs) e1):=⟨_,get?_update_seq ho fn⟩
 have hsl:=sizeLine_eq
 exact listUpdate_at ho rfl (h e1 _ (H.upd (t:=s.toks) u (Heap.SameBut.update ..).extBut (.list (bl _ ho rfl (c5 _ rfl))) ho1)) (by walk_at "r") (by walk_at "r")
theorem jh {body:Value->PUnit->Sem (ForInStep PUnit)} (I:List Value->Shared->Prop) (hb:∀ x r s,I (x :: r) s->wpAny (model prog w) A (body x ⟨⟩) (λ q s'=>q = .yield ⟨⟩∧I r s') E s) :
  ∀ (r:List Value) (s:Shared),I r s->wpAny (model prog w) A (forIn r PUnit.unit body) (λ _ s'=>I [] s') E s
 | [],s,h=>by rw [List.forIn_nil];exact wpAny_pure h
 | x :: r,s,h=>by
  rw [List.forIn_cons]
  refine wpAny_bind (wpAny_mono (hb x r s h) (λ q s' hq=>?_) λ _ _ x=>x)
  refine ae hq λ zh1 h'=>?_;clear hq;obtain rfl:=zh1
  exact jh I hb r s' h'
theorem mz:∀ (KL:List ST),(∀ e∈KL,(e.t,AObj.tup [.int e.a 0,.int e.b 0])∈σ)->W prog w B g os σ s->∃ fs,KatTups s.heap (aE KL) fs∧fs.length = KL.length∧∀ v∈fs,∃ c t,v = Value.int c t
 | [],_,_=>(bl [] trivial rfl (λ v hv=>by cases hv))
 | e :: r,hm,H=>by
  refine bj λ GZ hGZ=>?_
  refine aU (mz r (λ x hx=>hm x (.tail _ hx)) H) λ fs h1 h2 h3=>?_
  refine ac (H.get (hm e (.head _))) λ items zh1 ei=>?_;refine aU zh1 λ o ho hc zh2=>?_;clear zh1;refine ai zh2 λ n hd=>?_;clear zh2
  refine aV (co ei) λ a0 b0 e' e1 e2=>?_
  refine hGZ ?_
  refine ai (ap e1) λ t1 zh1=>?_;obtain rfl:=zh1
  refine (bl (.int e.a t1 :: fs) (KatTups.cons ho hc hd (by rw [← Array.getElem?_toList,e'];rfl) h1) (by rw [List.length_cons,List.length_cons,h2]) (λ v hv=>?_))
  rcases List.mem_cons.mp hv with rfl | hv
  ·exact (c8 _ _ rfl)
  ·exact h3 v hv
theorem r8 {x y:Addr} {a b c d:Int} {C:Bool->Shared->Prop} (H:W prog w B g os σ s) (hx:(x,AObj.tup [.int a 0,.int b 0])∈σ) (hy:(y,AObj.tup [.int c 0,.int d 0])∈σ) (h:∀ r s',W prog w B g os σ s'->C r s') :
  wpAny (model prog w) A (keyLt' (tuples' true) (.ref x) (.ref y)) C E s:=by
 refine bj λ GZ hGZ=>?_
 refine ac (H.get hx) λ items zh1 ei=>?_;refine aU zh1 λ o ho hc zh2=>?_;clear zh1;refine ai zh2 λ n hd=>?_;clear zh2
 refine ac (H.get hy) λ items2 zh1 ei2=>?_;refine aU zh1 λ o2 ho2 hc2 zh2=>?_;clear zh1;refine ai zh2 λ n2 hd2=>?_;clear zh2
 refine aV (co ei) λ a0 b0 e' e1 e2=>?_
 refine aV (co ei2) λ c0 d0 e'' e3 e4=>?_
 refine hGZ ?_
 refine ai (ap e1) λ t1 zh1=>?_;obtain rfl:=zh1
 refine ai (ap e2) λ t2 zh1=>?_;obtain rfl:=zh1
 refine ai (ap e3) λ t3 zh1=>?_;obtain rfl:=zh1
 refine ai (ap e4) λ t4 zh1=>?_;obtain rfl:=zh1
 refine kat_lt ho hd ho2 hd2 ?_
 rw [e',e'']
 refine kat_cons (wpAny_eqBool_int (kat_go (λ _=>kat_yes (kat_cons (wpAny_eqBool_int (kat_go (λ _=>kat_yes (kat_nil (h _ _ H))) λ _=>kat_no (kat_one _ _ (lt_int (h _ _ H))))))) λ _=>kat_no (oneLt_int (h _ _ H))))
theorem oV {D kS:Addr} {kl:List Value} {ek e1:Nat} {out:List Value} {st:SortSt} {P:PySem.Fin->Shared->Prop} (H:W prog w B g os ((kS,.raw (seqObj "list" kl.toArray ek)) :: (D,.raw (seqObj "list" #[] e1)) :: σ) s)
  (hk:kl.length≤100) (ho:out.length≤100) (hout:(arrOf st).map (·.2) = out.toArray) (hf:failedOf st = none)
  (h:∀ e2 s',W prog w B g os ((D,.raw (seqObj "list" out.toArray e2)) :: σ) s'->P (.done (.ret .none)) s'):wpAny (model prog w) A (ksk_tail D false e1 (.ref kS) st) P E s:=by
 unfold ksk_tail
 try dsimp only
 rw [hout]
 refine wpAny_bind (kG H .head (by rw [List.size_toArray];walk_at "r") (Nat.zero_le _) λ e2 s1 H1=>?_)
 refine wpAny_bind (wpAny_letGo ?_)
 refine wpAny_bind (seqEpoch_at (H1.get (.tail _ (.head _))) rfl ?_)
 refine wpAny_bind (kG H1 (.tail .head) (Nat.zero_le _) (by show out.toArray.size≤1000;rw [List.size_toArray];walk_at "r") λ e3 s2 H2=>?_)
 rw [hf]
 simp only [bne_self_eq_false,Bool.false_eq_true,if_false]
 exact wpAny_pure (h e3 s2 H2.drop)
theorem mP {r F:Addr} {n:Nat} (hh:A.handled = none) (hn:n≤6) (H:W prog w B g os σ s) (hm:(r,bB 0 n)∈σ)
  (hcall:∀ v (i:Int) E s ρ,cv v = .int i 0->0≤i->i < n->W prog w B g os (ρ++σ) s->wpAny (model prog w) A.in1.in1 (call (.ref F) [v]) (λ k s'=>∃ t c,k = .ref t∧W prog w B g os ((t,.tup [.int c 0,.int i 0]) :: (ρ++σ)) s') E s)
  (h:∀ D ns s',ns.Perm (bv n)->W prog w B g os ((D,.list (af ns)) :: σ) s'->Q (.ref D) s'):wpAny (model prog w) A (call (.builtin "sorted") [.ref r] [(Str.ofString "key",.ref F)]) Q E s:=by
 have hsl:=sizeLine_eq
 refine call_function_entry_kw kind_sorted plain_sorted entry_sorted (ksk_s1 _ _) ?_
 unfold Builtin.«sorted»
 refine wpAny_bind (m:=checkCount "sorted" 1 1 _) (wpAny_pure ?_)
 refine wpAny_bind (gH hh H hm (by walk_at "r") λ vs s1 hvs H1=>?_)
 have hvl:vs.length = n:=by
  have:=congrArg List.length hvs
  unfold af bv at this
  simpa using this
 refine wpAny_bind (wpAny_newList ?_ (by walk_at "r"))
 obtain ⟨D,hD⟩:∃ D,D = s1.heap.objs.size:=⟨_,rfl⟩
 have H2:W prog w B g os ((D,.raw (seqObj "list" vs.toArray 0)) :: σ) { s1 with heap:=s1.heap.push (seqObj "list" vs.toArray 0) }:=by
  rw [hD];exact H1.add (t:=s1.toks) (λ _ _ e=>Heap.get?_push_of_some _ e) (Nat.le_refl _) (Heap.get?_push_size _ rfl)
 rw [← hD]
 refine wpAny_bind (wpAny_holding (wpAny_call_entry_kw slot_list_sort (ad _ (H2.get (.head _)) rfl) entry_list_sort ?body (ksk_l1 _ _)))
 rw [ksk_t1]
 unfold ksk_tree
 refine wpAny_bind (listItems_at (H2.get (.head _)) rfl ?_)
 refine wpAny_bind (kG H2 .head (by rw [List.size_toArray];walk_at "r") (Nat.zero_le _) λ e1 s2 H3=>?_)
 refine wpAny_bind (seqEpoch_at (H3.get (.head _)) rfl ?_)
 refine wpAny_bind (bD H3 (ws:=af (bv n)) (by simpa using hvs) (by simp;walk_at "r") λ hl s3 H4=>?_)
 replace H4:=H4.drop
 refine wpAny_bind (wpAny_newList ?_ (Nat.zero_le _))
 refine wpAny_holding ?_
 obtain ⟨kS,hkS⟩:∃ kS,kS = s3.heap.objs.size:=⟨_,rfl⟩
 have H5:W prog w B g os ((kS,.raw (seqObj "list" #[] 0)) :: (D,.raw (seqObj "list" #[] e1)) :: σ) { s3 with heap:=s3.heap.push (seqObj "list" #[] 0) }:=by
  rw [hkS];exact H4.add (t:=s3.toks) (λ _ _ e=>Heap.get?_push_of_some _ e) (Nat.le_refl _) (Heap.get?_push_size _ rfl)
 rw [← hkS]
 unfold ksk_rest
 refine wpAny_bind (wpAny_rule ?_)
 first
  | rw [List.forIn_toArray]
  | (rw [← Array.forIn_toList];simp only [List.toList_toArray])
  | rw [← Array.forIn_toList]
 have hvi:∀ v∈vs,∃ i:Int,cv v = .int i 0∧0≤i∧i < n:=by
  intro v hv
  have:cv v∈af (bv n):=by rw [← hvs];exact List.mem_map_of_mem hv
  unfold af bv at this
  rw [List.map_map] at this
  refine ac (List.mem_map.mp this) λ k hk e=>?_
  exact (bl k e.symm (by walk_at "r") (by have:=List.mem_range.mp hk;walk_at "r"))
 refine wpAny_bind (wpAny_mono (jh (λ r s=>∃ (KL:List ST) (ek:Nat),KL.length + r.length = n∧(∀ v∈r,∃ i:Int,cv v = .int i 0∧0≤i∧i < n) ∧
   W prog w B g os ((kS,.raw (seqObj "list" (aE KL).toArray ek)) :: (D,.raw (seqObj "list" #[] e1)) :: (aP KL++σ)) s) (λ x r s hI=>?_) vs _ (bc [] 0 (by simpa using hvl) hvi H5)) (λ _ s4 hI=>?_) λ _ _ e=>e)
 ·refine aV hI λ KL ek hlen hr H6=>?_;clear hI
  refine aU (hr x (.head _)) λ i ei i0 i1=>?_
  refine wpAny_bind (wpAny_attempt (wpAny_mono (hcall x i _ s ((kS,.raw (seqObj "list" (aE KL).toArray ek)) :: (D,.raw (seqObj "list" #[] e1)) :: aP KL) ei i0 i1 H6) (λ k s' hk=>?_) λ _ _ e=>e))
  refine bC hk λ t c zh1 H7=>?_;clear hk;obtain rfl:=zh1
  try dsimp only
  have hl:(aE KL).length = KL.length:=by unfold aE;rw [List.length_map]
  simp only [List.length_cons] at hlen
  refine wpAny_bind (kG H7 (.tail .head) (by rw [List.size_toArray];walk_at "r") (by rw [Array.size_push,List.size_toArray];walk_at "r") λ ek' s'' H8=>wpAny_pure (aJ rfl (bc (KL++[⟨t,c,i⟩]) ek' (by simp;walk_at "r") (λ v hv=>hr v (.tail _ hv)) ?_)))
  have g1:(aE KL).toArray.push (.ref t) = (aE (KL++[⟨t,c,i⟩])).toArray:=by unfold aE;simp
  have g2:aP (KL++[⟨t,c,i⟩]) = aP KL++[(t,.tup [.int c 0,.int i 0])]:=by unfold aP;rw [List.map_append];rfl
  rw [g2,← g1]
  refine H8.perm ?_
  show ((t,_) :: (kS,_) :: (D,_) :: (aP KL++σ)).Perm _
  exact pm [[_],[_],[_],_,_] [2,5,8,12,16] [5,8,1,12,2,0,16] rfl
 ·refine aV hI λ KL ek hlen hr H6=>?_;clear hI
  simp only [List.length_nil,Nat.add_zero] at hlen
  try dsimp only
  have hl:(aE KL).length = n:=by unfold aE;rw [List.length_map];exact hlen
  refine wpAny_bind (listItems_at (H6.get (.head _)) rfl ?_)
  have fin:∀ (ns:List Int) (out:List Value) e2 s',ns.Perm (bv n)->out.map cv = af ns->W prog w B g os ((D,.raw (seqObj "list" out.toArray e2)) :: (aP KL++σ)) s'->Q (.ref D) s':=by
   intro ns out e2 s' hp he H9
   refine h D ns s' hp ?_
   have H10:=H9.head (x':=.list (af ns)) rfl λ x=>(ad out.toArray ⟨e2,x⟩ (by simpa using he))
   exact H10.sub (.cons₂ _ (List.sublist_append_right _ _))
  unfold ksk_end
  try dsimp only
  simp only [Bool.false_eq_true,if_false]
  have hvsz:vs.toArray.size = n:=by rw [List.size_toArray,hvl]
  have hpp:∀ (p:List Nat),p.Perm (List.range n)->(p.map λ i=>vs.getD i Value.none).map cv = af (p.map λ (i:Nat)=>(i:Int)):=by
   intro p hp
   unfold af
   rw [List.map_map,List.map_map]
   refine List.map_congr_left λ i hi=>?_
   have hin:i < n:=List.mem_range.mp ((hp.mem_iff).mp hi)
   have h1:(vs.map cv)[i]? = some (.int i 0):=by
    rw [hvs];unfold af bv
    rw [List.getElem?_map,List.getElem?_map,List.getElem?_range hin];rfl
   refine ac (bU h1) λ v0 hv0 hc0=>?_
   show cv (vs.getD i .none) = .int i 0
   rw [List.getD_eq_getElem?_getD,hv0];exact hc0
  by_cases h2:n < 2
  ·rw [if_pos (by rw [hvsz];exact h2),if_pos (by rw [hvsz];exact h2)]
   refine wpAny_bind (wpAny_pure ?_)
   rw [StateT.run_pure]
   refine wpAny_bind (wpAny_pure ?_)
   try dsimp only
   refine oV (out:=vs) H6 (by walk_at "r") (by walk_at "r") ?_ rfl λ e2 s' H9=>(ad _ rfl (wpAny_pure (ad _ rfl (fin (bv n) vs e2 s' (.refl _) hvs H9))))
   apply Array.toList_inj.mp
   have:(arrOf (SortSt.mk' general' ((aE KL).toArray.zip vs.toArray) #[] 7 none)) = (aE KL).toArray.zip vs.toArray:=rfl
   rw [this,Array.toList_map,Array.toList_zip]
   exact List.map_snd_zip (by show vs.length≤(aE KL).length;walk_at "r")
  ·rw [if_neg (by rw [hvsz];exact h2),if_neg (by rw [hvsz];exact h2)]
   have hmem:∀ e∈KL,(e.t,AObj.tup [.int e.a 0,.int e.b 0])∈(kS,AObj.raw (seqObj "list" (aE KL).toArray ek)) :: (D,.raw (seqObj "list" #[] e1)) :: (aP KL++σ) :=
    λ e he=>.tail _ (.tail _ (List.mem_append_left _ (List.mem_map.mpr (ad e he rfl))))
   refine aU (mz KL hmem H6) λ fs f1 f2 f3=>?_
   refine wpAny_bind (kat_kind (T:=.type "int") f1 (by walk_at "r") (λ v hv=>by refine c6 (f3 v hv) λ c t zh1=>?_;obtain rfl:=zh1;exact Looks.of_pure rfl) (by decide) ?_)
   rw [show (Value.type "int" != Value.type "tuple") = true by decide]
   refine wpAny_bind (wpAny_mono (kat_run (ks:=aE KL) (vs:=vs) (κ:=tuples' true) (G:=λ p s'=>(p.toList.isPerm (List.range n)) = true∧W prog w B g os ((kS,.raw (seqObj "list" (aE KL).toArray ek)) :: (D,.raw (seqObj "list" #[] e1)) :: (aP KL++σ)) s')
    (Q:=λ st' s'=>∃ p:Array Nat,p.size = vs.length∧arrOf st' = p.map (kas_item ((aE KL).toArray.zip vs.toArray))∧failedOf st' = none∧(p.toList.isPerm (List.range n)) = true∧W prog w B g os ((kS,.raw (seqObj "list" (aE KL).toArray ek)) :: (D,.raw (seqObj "list" #[] e1)) :: (aP KL++σ)) s')
    (by rw [hl,hvl]) (by walk_at "r") (by walk_at "r") (λ p st' s' a1 a2 a3 a4=>(dT p a1 a2 a3 (aJ a4.1 a4.2))) ?_) ?_ λ _ _ e=>e)
   ·have hk:=rc (n:=n) (by walk_at "r") hn
    unfold jB at hk
    rw [hvl]
    refine go (I:=λ s'=>W prog w B g os ((kS,.raw (seqObj "list" (aE KL).toArray ek)) :: (D,.raw (seqObj "list" #[] e1)) :: (aP KL++σ)) s') (λ i j C s' hi hj hI hC=>?_) (λ p s' hp hI=>⟨hp,hI⟩) (kas_sort n) _ hk H6
    have hgi:∀ i,i < n->∃ e∈KL,(aE KL).getD i Value.none = .ref e.t:=by
     intro i hi
     have hlt:i < KL.length:=by walk_at "r"
     refine (ad (KL[i]) (List.getElem_mem hlt) ?_)
     unfold aE
     rw [List.getD_eq_getElem?_getD,List.getElem?_map,List.getElem?_eq_getElem hlt];rfl
    refine ac (hgi i hi) λ x hx ex=>?_
    refine ac (hgi j hj) λ y hy ey=>?_
    unfold kas_ask
    rw [ex,ey]
    exact r8 hI (hmem x hx) (hmem y hy) λ r s'' H'=>hC r s'' H'
   ·rintro ⟨⟨⟩,st'⟩ s' ⟨p,hp,har,hf,hpm,H7⟩
    try dsimp only
    have hP:p.toList.Perm (List.range n):=List.isPerm_iff.mp hpm
    refine oV (out:=p.toList.map λ i=>vs.getD i Value.none) H7 (by walk_at "r") (by rw [List.length_map,Array.length_toList,hp];walk_at "r") (kat_snds (by rw [hl,hvl]) har) hf λ e2 s'' H9=>
     (ad _ rfl (wpAny_pure (ad _ rfl (fin (p.toList.map λ (i:Nat)=>(i:Int)) _ e2 s'' (hP.map _) (hpp _ hP) H9))))
theorem pX (P:Params):(bI (Z0.K P) 965 963 && keepIn (Z0.K P) (.ref 951) && bZ (Z0.K P) 951 "add_nodes_from" 849 && keepIn (Z0.K P) (.ref 849)) = true:=by kernel_rfl
noncomputable def h8:Str:="law.<locals>.<lambda>"
structure S1 where
 e:Expr
 p:Pos
 pos:Pos
structure S2 where
 elts:List Expr
 k:Nat
 tpos:Pos
 e:Expr
 pos:Pos
structure S3 where
 e:Expr
 p:Pos
 pos:Pos
noncomputable def dX (P:Params):{ x:S1×S2×S3 // (fq P).1 = .Assign [.Name "numbers" x.1.p] x.1.e x.1.pos :: .Assign [.Tuple x.2.1.elts x.2.1.k x.2.1.tpos] x.2.1.e x.2.1.pos :: .Assign [.Name "names" x.2.2.p] x.2.2.e x.2.2.pos :: (fq P).1.drop 3 }:=⟨(⟨_,_,_⟩,⟨_,_,_,_,_⟩,⟨_,_,_⟩),rfl⟩
noncomputable def jp (sc:List Int):List Int:=(List.range 9).map λ k=>sc.getD k 0
noncomputable def ej (sc:List Int):Int:=(sc.getD 0 0).fmod 7
noncomputable def kn (sc:List Int):Int:=(sc.getD 1 0).fmod 7 - 2
noncomputable def BList (B:Heap) (S:Addr) (vs:List Value):Prop:=∃ items,B.PlainList S items∧items.toList.map cv = vs
theorem BList.get {S:Addr} {vs:List Value} (h:BList B S vs) (H:W prog w B g os σ s):∃ items,s.heap.PlainList S items∧items.toList.map cv = vs:=by
 refine ac h λ items zh1 e=>?_;clear h;refine ai zh1 λ n hl=>?_;clear zh1
 exact (ad items ⟨n,H.keep _ _ hl⟩ e)
theorem lV {a:Addr} {vs:List Value} {v0:Value} (hm:BList B a vs) (e:cv v0 = .ref a) (hz:vs.length≤1000):Gv prog w A B g os σ (call (.builtin "len") [v0]) (.int vs.length 0):=λ E s H=>by
 cases ak e
 refine ac (hm.get H) λ items hl e=>?_
 have hsz:items.size = vs.length:=by rw [← e];simp
 exact Calls.call_len_list hl.isList (by walk_at "r") ⟨by rw [hsz];rfl,H.tok⟩
theorem nJ {a:Addr} {vs:List Value} {k:Int} {i0 v:Value} (hm:BList B a vs) (hk:cv i0 = .int k 0) (h0:0≤k) (hx:vs[k.toNat]? = some v) (hz:k < 2 ^ 63):Gv prog w A B g os σ (getItem (.ref a) i0) v:=by
 intro E s H
 refine ac (hm.get H) λ items hl e=>?_
 refine ai (ap hk) λ t zh1=>?_;obtain rfl:=zh1
 rw [← e] at hx
 refine ac (bU hx) λ v0 h1 h2=>?_
 exact wpAny_getItem_list hl.isList h0 hz (by rw [← Array.getElem?_toList];exact h1) ⟨h2,H⟩
theorem oh {e i:Expr} {pos:Pos} {a:Addr} {vs:List Value} {k:Int} {v:Value} (hm:BList B a vs) (he:Gv prog w A B g os σ (eval e env) (.ref a)) (hi:Gv prog w A B g os σ (eval i env) (.int k 0)) (h0:0≤k) (hx:vs[k.toNat]? = some v) (hz:k < 2 ^ 63)
  (hs:∀ t,subscripted i false (.ref a) (.int k t) = operate [.ref a,.int k t] (getItem (.ref a) (.int k t)):=by intro;with_unfolding_all rfl):Gv prog w A B g os σ (eval (.Subscript e i pos) env) v :=
 cz "list" _ he hi (λ s H=>by refine ac (hm.get H) λ items hl zz=>?_;exact hl.isList.typeIs) (λ k0 ek=>nJ hm ek h0 hx hz) slot_list_getitem.lookup (qg hs)
theorem qK {L S:Addr} {m:Str->Option Value} {on:Option Value} {sc:List Int} {o:Led} {Q:Shared->Prop} (T:TX w B mg mb) (R:Rm A 3 10) (hl:sc.length≤100) (hS:BList B S (af sc))
  (H:W prog w B g os ((L,.frame m) :: (L + 6,.cell on) :: (L + 1,.cell (some (.ref S))) :: o) s)
  (h:∀ Nm s',W prog w B g os ((L,.frame m) :: (L + 6,.cell (some (.ref Nm))) :: (L + 1,.cell (some (.ref S))) :: (Nm,.list (af (jp sc))) :: o) s'->Q s') :
  wpAny (model prog w) A (execs [.Assign [.Name "numbers" (dX w.params).1.1.p] (dX w.params).1.1.e (dX w.params).1.1.pos] (cr w.params L)) (λ fl s3=>fl = .next∧Q s3) E s:=by
 have X:=T.X
 dsimp only [dX,cr,jq,fq]
 refine aB ?_
 obtain ⟨θ,hθ⟩:∃ k,k = (L,AObj.frame m) :: (L + 6,.cell on) :: (L + 1,.cell (some (.ref S))) :: o:=⟨_,rfl⟩
 rw [← hθ] at H
 have c1:(L + 1,AObj.cell (some (.ref S)))∈θ:=by rw [hθ];walk_at "a"
 refine dl (σ:=θ) (g:=g) (tg:=aM) (d:=2) (u:=8) (B:=B) (os:=os) (cl:=[("script",L + 1)])
  (λ xs ws o'=>o' = []∧∃ (k j:Nat),xs = bu k j∧k + j = 9∧ws = af ((List.range k).map λ k=>sc.getD k 0)) trivial (R.mono (by decide) (by decide)) rfl ?_ ?_ ?_
 ·refine aw H (T.toTE.boot (x:="range") (v:=.type "range") (by decide)) (λ f0 e=>ca e) λ s8 H8=>?_
  refine cw1 (ab H8 aC λ a0 s9 ea H9=>ah ⟨bo,?_⟩)
  refine cU H9 ea λ r s10 H10=>?_
  refine cN H10 (.head _) (by decide) (by decide) (by decide) λ I s11 H11=>?_
  rw [show ((9:Int) - 0).toNat = 9 from rfl] at H11
  exact (jJ I (bu 0 9) _ [] rfl (by rw [dI];decide) (bn _ 0) dG (aJ rfl (bc 0 9 rfl rfl rfl)) ((H11.pick (a:=r) (.tail .head)).drop))
 ·intro xq xs ws Cf mc γ o' v ν τ s' E2 Qy Qn hτ hJ
  refine ae hJ λ zh1 zh2=>?_;clear hJ;obtain rfl:=zh1;refine aV zh2 λ k j f1 f2 f3=>?_;clear zh2
  intro hx H2 hy hn
  refine aU (bE f1) λ j zh1 zh2 zh3=>?_;obtain rfl:=zh1;obtain rfl:=zh2;obtain rfl:=zh3
  refine ae hx λ ev zh1=>?_;clear hx;obtain rfl:=zh1
  replace c1:=hτ _ c1
  replace H2:W prog w B γ os ((Cf,.frame mc) :: τ) s':=H2
  refine aG (al (v:=.int k 0) H2 (by walk_at "a") ev λ s3 H3=>i7 ?_)
  rw [if_pos rfl]
  have kw:put "k" (.int k 0) mc "k" = some (.int k 0):=rfl
  replace H3:W prog w B γ os ((Cf,.frame (put "k" (.int k 0) mc)) :: τ) s3:=H3
  generalize put "k" (.int k 0) mc = mc1 at H3 kw
  have hlq:((af sc).length:Int) = sc.length:=by unfold af;rw [List.length_map]
  refine (qP (b:=decide ((k:Int) < sc.length)) (v:=.int (sc.getD k 0) 0) (aT (aa (v:=.int k 0) (by walk_at "a") (by exact kw)) (dJ (T.toTE.boot (by decide)) (aq (c:=L + 1) (v:=.ref S) rfl (by walk_at "a")) λ v0 e=>lV hS e (by unfold af;rw [List.length_map];walk_at "r")) λ a0 b0 ea eb=>by rw [hlq] at eb;exact ry ea eb)
   (λ hb=>?_) (λ hb=>?_)).use H3 λ v0 s4 e4 H4=>?_
  ·have hk:k < sc.length:=by simpa using hb
   refine oh (k:=k) hS (aq (c:=L + 1) rfl (by walk_at "a")) (aa (v:=.int k 0) (by walk_at "a") (by exact kw)) (by walk_at "r") ?_ (by walk_at "r")
   show (af sc)[k]? = _
   unfold af
   rw [List.getElem?_map,List.getD_eq_getElem?_getD,List.getElem?_eq_getElem hk];rfl
  ·have hk:¬ k < sc.length:=by simpa using hb
   rw [List.getD_eq_getElem?_getD,List.getElem?_eq_none (by walk_at "r")]
   exact aC
  ·refine hy _ mc1 [] _ (aJ rfl (bc (k + 1) j rfl (by walk_at "r") ?_)) H4
   rw [f3,e4,List.range_succ,List.map_append];unfold af;rw [List.map_append];rfl
 ·intro Dl ws o' s2 hJ
  refine ae hJ λ zh1 zh2=>?_;clear hJ;obtain rfl:=zh1;refine aV zh2 λ k j f1 f2 f3=>?_;clear zh2
  intro H2
  rw [hθ,List.append_nil] at H2
  have hj:=bY f1
  subst hj
  obtain rfl:k = 9:=by walk_at "r"
  replace H2:W prog w B g os ((L,.frame m) :: (L + 6,.cell on) :: (L + 1,.cell (some (.ref S))) :: (Dl,.list ws) :: o) s2:=H2.perm (by exact pm [[_],[_],[_],[_],_] [2,5,8,11,16] [5,8,11,2,16] rfl)
  refine bJ (c:=L + 6) (v:=.ref Dl) H2 rfl (by walk_at "a") rfl λ s3 H3=>ay ⟨rfl,h Dl s3 ?_⟩
  rw [f3] at H3
  exact H3
theorem qD {L Nm:Addr} {m:Str->Option Value} {sc:List Int} {o:Led} {Q:Shared->Prop} (T:TX w B mg mb) (R:Rm A 3 10)
  (H:W prog w B g os ((L,.frame m) :: (L + 6,.cell (some (.ref Nm))) :: (Nm,.list (af (jp sc))) :: o) s)
  (h:∀ s',W prog w B g os ((L,.frame (put "many" (.int (ej sc) 0) (put "bare" (.int (kn sc) 0) m))) :: (L + 6,.cell (some (.ref Nm))) :: (Nm,.list (af (jp sc))) :: o) s'->Q s') :
  wpAny (model prog w) A (execs [.Assign [.Tuple (dX w.params).1.2.1.elts (dX w.params).1.2.1.k (dX w.params).1.2.1.tpos] (dX w.params).1.2.1.e (dX w.params).1.2.1.pos] (cr w.params L)) (λ fl s3=>fl = .next∧Q s3) E s:=by
 have X:=T.X
 dsimp only [dX,cr,jq,fq]
 have g0:(af (jp sc))[(0:Int).toNat]? = some (.int (sc.getD 0 0) 0):=rfl
 have g1:(af (jp sc))[(1:Int).toNat]? = some (.int (sc.getD 1 0) 0):=rfl
 refine jk (names:=["many","bare"]) (d6 (ab H (ku (a:=sc.getD 0 0) (b:=7) (by decide) (cq (k:=0) (aq (c:=L + 6) rfl (by walk_at "a")) aC (by walk_at "a") (by walk_at "r") g0 (by walk_at "r")) aC) λ a0 s1 ea H1=>
  ab H1 (mj (a:=(sc.getD 1 0).fmod 7) (b:=2) (ku (a:=sc.getD 1 0) (b:=7) (by decide) (cq (k:=1) (aq (c:=L + 6) rfl (by walk_at "a")) aC (by walk_at "a") (by walk_at "r") g1 (by walk_at "r")) aC) aC) λ b0 s2 eb H2=>ah
   (bD H2 (ws:=[.int (ej sc) 0,.int (kn sc) 0]) (by simp [ea,eb];exact ⟨rfl,rfl⟩) (by simp) λ t s3 H3=>?_)))
 refine gW R.hd H3 (.head _) rfl λ ws s10 ew H10=>?_
 refine aV (co ew) λ x₀ y0 zh1 ex ey=>?_;obtain rfl:=zh1
 refine bK (wpAny_bindName (al (x:="bare") (v:=.int (kn sc) 0) H10.drop (by walk_at "a") ey λ s11 H12=>?_))
 refine bK (wpAny_bindName (al (x:="many") (v:=.int (ej sc) 0) H12 (by walk_at "a") ex λ s12 H13=>?_))
 exact gL (ay ⟨rfl,h s12 H13⟩)
theorem qd (k:Nat):(8:Int) ^ k≠0:=Int.pow_ne_zero (by decide)
theorem sp {k:Nat} (h:k < 6) (a:Int):Builtin.divisionGoesByPylong a (8 ^ k) = false:=by
 have:k = 0∨k = 1∨k = 2∨k = 3∨k = 4∨k = 5:=by walk_at "r"
 rcases this with rfl | rfl | rfl | rfl | rfl | rfl <;> (unfold Builtin.divisionGoesByPylong;rw [Bool.and_eq_false_iff];left;decide)
theorem qU {L Nm:Addr} {m:Str->Option Value} {num:List Int} {n:Nat} {es:List ((Nat×Nat)×Addr)} {o:Led} {Q:Shared->Prop} (T:TX w B mg mb) (R:Rm A 3 10) (hn:n≤6) (hnum:num.length = 9) (n1:m "many" = some (.int n 0))
  (H:W prog w B g os (an 963 h8 es++((L,.frame m) :: (L + 6,.cell (some (.ref Nm))) :: (Nm,.list (af num)) :: o)) s)
  (h:∀ l names es' s',names.Perm (bv n)->W prog w B g os (an 963 h8 es'++((L,.frame (put "names" (.ref l) m)) :: (L + 6,.cell (some (.ref Nm))) :: (Nm,.list (af num)) :: (l,.list (af names)) :: o)) s'->Q s') :
  wpAny (model prog w) A (execs [.Assign [.Name "names" (dX w.params).1.2.2.p] (dX w.params).1.2.2.e (dX w.params).1.2.2.pos] (cr w.params L)) (λ fl s3=>fl = .next∧Q s3) E s:=by
 have X:=T.X
 have kc:=pX w.params
 simp only [Bool.and_eq_true] at kc
 dsimp only [dX,cr,jq,fq]
 refine aB ?_
 refine ic H (T.toTE.boot (x:="sorted") (v:=.builtin "sorted") (by decide)) λ s1 H1=>?_
 refine aw H1 (T.toTE.boot (x:="range") (v:=.type "range") (by decide)) (λ f0 e=>ca e) λ s2 H2=>?_
 refine cw1 (ab H2 (aa (v:=.int n 0) (by walk_at "a") (by exact n1)) λ a0 s3 ea H3=>ah ⟨bo,?_⟩)
 refine cU H3 ea λ r s4 H4=>?_
 replace H4:=H4.perm (σ':=an 963 h8 es++((r,bB 0 n) :: (L,.frame m) :: (L + 6,.cell (some (.ref Nm))) :: (Nm,.list (af num)) :: o)) (by exact pm [[_],_,[_],[_],[_],_] [2,6,8,11,14,19] [6,2,8,11,14,19] rfl)
 refine pD (q:=h8) (clos:=[("numbers",L + 6)]) T X kc.1.1.1 H4 rfl rfl rfl λ F c' es' s5 LA hLA hc' H5=>?_
 obtain ⟨σ',hσ'⟩:∃ σ':Led,σ' = (F,LA) :: (an 963 h8 es'++((r,bB 0 n) :: (L,.frame m) :: (L + 6,.cell (some (.ref Nm))) :: (Nm,.list (af num)) :: o)):=⟨_,rfl⟩
 rw [← hσ'] at H5
 have hmr:(r,bB 0 n)∈σ':=hσ'▸.tail _ (List.mem_append_right _ (.head _))
 have hm6:(L + 6,AObj.cell (some (.ref Nm)))∈σ':=hσ'▸.tail _ (List.mem_append_right _ (.tail _ (.tail _ (.head _))))
 have hmN:(Nm,AObj.list (af num))∈σ':=hσ'▸.tail _ (List.mem_append_right _ (.tail _ (.tail _ (.tail _ (.head _)))))
 have g8:(af num)[(8:Int).toNat]? = some (.int (num.getD 8 0) 0):=by
  show (af num)[8]? = _
  unfold af
  rw [List.getElem?_map,List.getD_eq_getElem?_getD,List.getElem?_eq_getElem (by walk_at "r")];rfl
 refine mP R.hd hn H5 hmr (λ v i E s ρ ei i0 i1 H=>?_) λ D ns s₆ hp H6=>?_
 ·refine ai (ap ei) λ ti zh1=>?_;obtain rfl:=zh1
  obtain ⟨k,rfl⟩:∃ k:Nat,i = k:=⟨i.toNat,by walk_at "r"⟩
  have hF:(F,LA)∈ρ++σ':=List.mem_append_right _ (hσ'▸.head _)
  have hcm:(c',jR h8)∈ρ++σ':=List.mem_append_right _ (hσ'▸.tail _ (List.mem_append_left _ hc'))
  rw [hLA] at hF
  refine iD (args:=⟨[_],[]⟩) (binds:=[("v",.int k ti)]) (d:=1) (u:=4) H (R.in1.in1.mono (by decide) (by decide)) T.lim hF hcm (λ _ _=>rfl) λ E' L' s' H' R'=>?_
  refine d6 (ab H' (ku (a:=(num.getD 8 0).fdiv (8 ^ k)) (b:=8) (by decide) (nx (a:=num.getD 8 0) (b:=8 ^ k) (qd k) (sp (by walk_at "r") _) (cq (k:=8) (js (c:=L + 6) rfl (.tail _ (List.mem_append_right _ hm6))) aC (.tail _ (List.mem_append_right _ hmN)) (by walk_at "r") g8 (by walk_at "r"))
   (pa (a:=8) (n:=k) (by walk_at "r") (by rw [show Builtin.Int.intBits 8 = 4 by decide];walk_at "r") aC (aa (.head _) rfl))) aC) λ a0 s7 ea H7=>ab H7 (aa (v:=.int k 0) (.head _) rfl) λ b0 s8 eb H8=>ah ?_)
  refine bD H8 (ws:=[.int (((num.getD 8 0).fdiv (8 ^ k)).fmod 8) 0,.int k 0]) (by simp [ea,eb]) (by simp) λ t s9 H9=>?_
  exact (br t _ rfl (H9.pick (a:=L') (.tail .head) |>.drop))
 ·subst hσ'
  have H7:=H6.perm (σ':=(F,LA) :: (r,bB 0 n) :: (an 963 h8 es'++((L,.frame m) :: (L + 6,.cell (some (.ref Nm))) :: (Nm,.list (af num)) :: (D,.list (af ns)) :: o))) (by exact pm [[_],[_],_,[_],[_],[_],[_],_] [2,5,9,11,14,17,20,25] [5,11,9,14,17,20,2,25] rfl)
  refine al (v:=.ref D) H7.drop.drop (by walk_at "a") rfl λ s7 H8=>ay ⟨rfl,h D ns es' s7 hp H8⟩
structure S4 where
 e:Expr
 p:Pos
 pos:Pos
noncomputable def fz (P:Params):{ x:S4×S4×S4 // (fq P).1.drop 3 = .Assign [.Name "net" x.1.p] x.1.e x.1.pos :: .Expr x.2.1.e x.2.1.pos :: .Assign [.Name "table" x.2.2.p] x.2.2.e x.2.2.pos :: (fq P).1.drop 6 }:=⟨(⟨_,_,_⟩,⟨_,⟨0,0,0,0⟩,_⟩,⟨_,_,_⟩),rfl⟩
theorem rm {L:Addr} {m:Str->Option Value} {o:Led} {Q:Shared->Prop} (T:TX w B mg mb) (R:Rm A 2 12)
  (H:W prog w B g os ((L,.frame m) :: o) s) (h:∀ a:GA,∀ s',W prog w B g os ((L,.frame (put "net" (.ref a.net) m)) :: (a.six a.base []++o)) s'->Q s') :
  wpAny (model prog w) A (execs [.Assign [.Name "net" (fz w.params).1.1.p] (fz w.params).1.1.e (fz w.params).1.1.pos] (cr w.params L)) (λ fl s3=>fl = .next∧Q s3) E s:=by
 have X:=T.X
 have kc:=pX w.params
 simp only [Bool.and_eq_true] at kc
 dsimp only [fz,cr,jq,fq]
 refine aB (aw H (T.toTE.glob (x:="DiGraph") (v:=.ref 951) (by decide)) (λ f0 e=>ak e) λ s1 H1=>cw0 (aW (X.keeps H1.keep) kc.1.1.2) ?_)
 refine mq H1 R X T.lim λ net d gd nd sd pd s2 H2=>?_
 have H3:=W.idict0 (H2.idict0 (.tail (.tail (.tail .head)))) (.tail (.tail (.tail (.tail .head))))
 have H4:=W.idict0 H3 (.tail (.tail (.tail (.tail (.tail .head)))))
 refine al (v:=.ref net) (m:=m) H4 (.tail (.tail (.tail (.tail (.tail (.tail .head)))))) rfl λ s3 H5=>ay ⟨rfl,h ⟨net,d,gd,nd,sd,pd,λ _=>0,λ _=>0,λ _=>0⟩ s3 (H5.perm ?_)⟩
 show ((net,_) :: (d,_) :: (gd,_) :: (nd,_) :: (sd,_) :: (pd,_) :: (L,_) :: o).Perm _
 unfold GA.six
 exact pm [[_],[_],[_],[_],[_],[_],[_],_] [2,5,8,11,14,17,20,25] [20,1,2,5,8,11,14,17,0,25] rfl
theorem qo {L:Addr} {m:Str->Option Value} {n:Nat} {a:GA} {o:Led} {Q:Shared->Prop} (T:TX w B mg mb) (R:Rm A 2 12) (hn:n≤6) (n1:m "many" = some (.int n 0)) (n2:m "net" = some (.ref a.net))
  (H:W prog w B g os ((L,.frame m) :: (a.six a.base []++o)) s)
  (h:∀ a':GA,a'.net = a.net->∀ s',W prog w B g os ((L,.frame m) :: (a'.six a'.base (bv n)++(a'.per (bv n) (λ _=>[]) (λ _=>[])++o))) s'->Q s') :
  wpAny (model prog w) A (execs [.Expr (fz w.params).1.2.1.e (fz w.params).1.2.1.pos] (cr w.params L)) (λ fl s3=>fl = .next∧Q s3) E s:=by
 have X:=T.X
 have kc:=pX w.params
 simp only [Bool.and_eq_true] at kc
 dsimp only [fz,cr,jq,fq]
 refine cQ (ax H (aa (v:=.ref a.net) (.head _) n2)<|au λ s1 H1=>?_)
 refine qE X kc.1.2 H1 (.tail _ (List.mem_append_left _ (.head _))) (.tail _ (List.mem_append_left _ (.tail _ (.head _)))) rfl ?_
 refine cw1 (be ?_)
 refine aw H1 (T.toTE.boot (x:="range") (v:=.type "range") (by decide)) (λ f0 e=>ca e) λ s2 H2=>?_
 refine cw1 (ab H2 (aa (v:=.int n 0) (.head _) n1) λ a0 s3 ea H3=>ah ⟨bo,?_⟩)
 refine cU H3 ea λ r s4 H4=>?_
 refine ah ⟨aW (X.keeps H4.keep) kc.2,?_⟩
 refine na (a:=a) (r:=r) (many:=n) (σ:=(L,.frame m) :: o) (by walk_at "r") (H4.perm (by exact pm [[_],[_],_,_] [2,5,9,13] [2,9,5,13] rfl)) R X T.lim λ x y z s5 H5=>⟨rfl,ay ⟨rfl,h { a with sA:=x,pA:=y,nA:=z } rfl s5 (H5.perm ?_)⟩⟩
 unfold bv
 exact pm [_,_,[_],_] [3,6,8,13] [8,3,6,13] rfl
theorem rj {L:Addr} {m:Str->Option Value} {ov:Option Value} {o:Led} {Q:Shared->Prop} (T:TX w B mg mb)
  (H:W prog w B g os ((L,.frame m) :: (L + 2,.cell ov) :: o) s)
  (h:∀ Tb s',W prog w B g os ((L,.frame m) :: (L + 2,.cell (some (.ref Tb))) :: (Tb,.tdict []) :: o) s'->Q s') :
  wpAny (model prog w) A (execs [.Assign [.Name "table" (fz w.params).1.2.2.p] (fz w.params).1.2.2.e (fz w.params).1.2.2.pos] (cr w.params L)) (λ fl s3=>fl = .next∧Q s3) E s:=by
 dsimp only [fz,cr,jq,fq]
 refine aB (fU H λ D s5 H6=>bJ (c:=L + 2) (v:=.ref D) H6 rfl (.tail (.tail .head)) rfl λ s₆ H7=>ay ⟨rfl,h D s₆ ?_⟩)
 have H8:=H7.chg .head jz
 refine H8.perm ?_
 show ((D,_) :: (L,_) :: (L + 2,_) :: o).Perm _
 exact pm [[_],[_],[_],_] [2,5,8,13] [5,8,2,13] rfl
noncomputable def bW (names:List Int) (ed:List EE) (p q:Int):Option Int:=(ed.find? λ e=>nmA names e.i == p && nmA names e.j == q).map (·.c)
noncomputable def gJ (names:List Int) (ed:List EE) (p q:Int):Int:=(bW names ed p q).getD 0
theorem qf (names:List Int) (ed:List EE) (v x:Int):valueAt (gD names ed) [v,x] = (bW names ed v x).map λ k=>.int k 0:=by
 unfold valueAt gD bW
 induction ed with
 | nil=>rfl
 | cons e r ih=>
  rw [List.map_cons,List.find?_cons,List.find?_cons]
  by_cases h:nmA names e.i = v∧nmA names e.j = x
  ·refine ae h λ h1 h2=>?_;clear h
   simp [h1,h2]
  ·have h1:decide ([nmA names e.i,nmA names e.j] = [v,x]) = false:=by simpa using h
   have h2:(nmA names e.i == v && nmA names e.j == x) = false:=by
    rw [Bool.and_eq_false_iff]
    simp only [beq_eq_false_iff_ne]
    by_cases h3:nmA names e.i = v
    ·exact .inr λ h4=>h ⟨h3,h4⟩
    ·exact .inl h3
   rw [h1,h2]
   exact ih
structure WayP (names:List Int) (ed:List EE) (best:Int) (q:List Int):Prop where
 edge:∀ p∈jr q,(bW names ed p.1 p.2).isSome
 sum:((jr q).map λ p=>gJ names ed p.1 p.2).sum = best
 ne:q≠[]
 len:q.length≤100
structure PlainLaw (n:Nat) (names:List Int) (ed:List EE) (a:GA) (e0:Nat) (eS eP:Int->Nat):Prop where
 all:∃ (best:Int) (gs:List (List Int)) (p1 p2:List Int) (Inv:List (Int×Int)->Int->Prop) (μ:List (Int×Int)->Nat),
  Kahn (dE names ed) (bv n) (((bv n).filter λ x=>decide (0 < (bR names ed x).length)).map λ x=>(x,.int (bR names ed x).length 0)) ((bv n).filter λ x=>(bR names ed x).length == 0) gs ∧
  RunOk ⟨a,e0,eS,eP,bv n,dE names ed,bR names ed⟩ (gJ names ed) gs.flatten p1∧RunOk ⟨a,e0,eS,eP,bv n,dE names ed,bR names ed⟩ (gJ names ed) names p2 ∧
  WayP names ed best p1.reverse∧WayP names ed best p2.reverse∧Nbr (λ x y=>x∈bv n∧(bW names ed x y).isSome) p1.reverse∧iI (gJ names ed) p1.reverse = best ∧
  (∀ stk c v best,Inv (stk++[(c,v)]) best->Inv (stk++kids (bW names ed) n c v) (max best c)∧μ (stk++kids (bW names ed) n c v) < μ (stk++[(c,v)]))∧(∀ stk best,Inv stk best->stk.length≤500) ∧
  Inv ((List.range n).map λ (v:Nat)=>((0:Int),(v:Int))) 0∧∀ b,Inv [] b->b = best
theorem j1 {h:Heap} {a:Addr} {kvs:List (Int×Value)} (x:Real prog w h a (.idict kvs)):∃ e,Real prog w h a (.idictE kvs e):=by
 refine ac x λ kvs0 zh1 e=>?_;clear x;refine eZ zh1 λ o es ep ho r=>?_;clear zh1
 exact (br ep kvs0 (br o es ho r) e)
open Classical in
theorem rQ {a:GA} {ns:List Int} {su pr:Int->List (Int×Value)} {o:Led} (H:W prog w B g os (a.six a.base ns++(a.per ns su pr++o)) s) :
  ∃ e0 eS eP,W prog w B g os (GG.led prog w ⟨a,e0,eS,eP,ns,su,pr⟩ false a.base++o) s:=by
 have hS:∀ n∈ns,∃ e,Real prog w s.heap (a.sA n) (.idictE (su n) e):=λ n hn=>
  j1 (H.get (show (a.sA n,AObj.idict (su n))∈_ from List.mem_append_right _ (List.mem_append_left _ (List.mem_append_right _ (List.mem_append_left _ (List.mem_map.mpr (ad n hn rfl)))))))
 have hP:∀ n∈ns,∃ e,Real prog w s.heap (a.pA n) (.idictE (pr n) e):=λ n hn=>
  j1 (H.get (show (a.pA n,AObj.idict (pr n))∈_ from List.mem_append_right _ (List.mem_append_left _ (List.mem_append_right _ (List.mem_append_right _ (List.mem_map.mpr (ad n hn rfl)))))))
 refine ai (j1 (H.get (show (a.sd,AObj.idict (ns.map λ n=>(n,.ref (a.sA n))))∈_ from List.mem_append_left _ (.tail _ (.tail _ (.tail _ (.tail _ (.head _)))))))) λ e0 h0=>?_
 refine (bk e0 (λ n=>if h:∃ e,Real prog w s.heap (a.sA n) (.idictE (su n) e) then h.choose else 0) (λ n=>if h:∃ e,Real prog w s.heap (a.pA n) (.idictE (pr n) e) then h.choose else 0) ?_)
 refine H.repl ?_ λ p hp=>?_
 ·unfold GG.led GG.rest GA.six GA.per
  simp only [List.map_cons,List.map_append,List.map_map,List.cons_append,List.nil_append,List.append_assoc]
  rfl
 ·unfold GG.led GG.rest at hp
  rcases List.mem_append.mp hp with hp | hp
  ·rcases List.mem_cons.mp hp with rfl | hp
   ·exact H.get (List.mem_append_left _ (.head _))
   rcases List.mem_cons.mp hp with rfl | hp
   ·exact jI (H.get (show (a.d,AObj.sdict a.base)∈_ from List.mem_append_left _ (.tail _ (.head _))))
   rcases List.mem_cons.mp hp with rfl | hp
   ·exact H.get (List.mem_append_left _ (.tail _ (.tail _ (.head _))))
   rcases List.mem_cons.mp hp with rfl | hp
   ·exact H.get (List.mem_append_left _ (.tail _ (.tail _ (.tail _ (.head _)))))
   rcases List.mem_cons.mp hp with rfl | hp
   ·exact h0
   rcases List.mem_cons.mp hp with rfl | hp
   ·exact H.get (List.mem_append_left _ (.tail _ (.tail _ (.tail _ (.tail _ (.tail _ (.head _)))))))
   rcases List.mem_append.mp hp with hp | hp
   ·exact H.get (List.mem_append_right _ (List.mem_append_left _ (List.mem_append_left _ hp)))
   rcases List.mem_append.mp hp with hp | hp
   ·refine ac (List.mem_map.mp hp) λ n hn zh1=>?_;obtain rfl:=zh1
    dsimp only
    rw [dif_pos (hS n hn)]
    exact (hS n hn).choose_spec
   ·refine ac (List.mem_map.mp hp) λ n hn zh1=>?_;obtain rfl:=zh1
    dsimp only
    rw [dif_pos (hP n hn)]
    exact (hP n hn).choose_spec
  ·exact H.get (List.mem_append_right _ (List.mem_append_right _ hp))
theorem cG (n:Nat):(bv n).Nodup:=by
 unfold bv
 exact List.Pairwise.map _ (λ a b h q=>h (by exact_mod_cast q)) List.nodup_range
theorem eM (n:Nat):(bv n).length = n:=by unfold bv;rw [List.length_map,List.length_range]
theorem jb {ed:List EE}:NoT (cS ed):=dc λ _=>rfl
theorem eJ {names:List Int} {ed:List EE} {n:Nat} {bare:Int} (hed:EdOk n bare ed) (hnd:names.Nodup) (hl:names.length = n) {e:EE} (he:e∈ed):bW names ed (nmA names e.i) (nmA names e.j) = some e.c:=by
 unfold bW
 cases hf:ed.find? λ x=>nmA names x.i == nmA names e.i && nmA names x.j == nmA names e.j with
 | none=>
  rw [List.find?_eq_none] at hf
  have:=hf e he
  simp at this
 | some x=>
  have h1:=List.find?_some hf
  have h2:=List.mem_of_find?_eq_some hf
  simp only [Bool.and_eq_true,beq_iff_eq] at h1
  have hx:=hed.ij x h2
  have hE:=hed.ij e he
  have i1:=cL hnd (by walk_at "r") (by walk_at "r") h1.1
  have i2:=cL hnd (by walk_at "r") (by walk_at "r") h1.2
  have hxe:x = e:=by
   have hnd2:=hed.nd
   refine bj λ GZ hGZ=>?_
   refine ai (List.getElem_of_mem h2) λ a zh1=>?_;refine ai zh1 λ ha ea=>?_;clear zh1
   refine ai (List.getElem_of_mem he) λ b zh1=>?_;refine ai zh1 λ hb eb=>?_;clear zh1
   refine hGZ ?_
   have:(ed.map λ e=>(e.i,e.j))[a]? = (ed.map λ e=>(e.i,e.j))[b]?:=by
    rw [List.getElem?_map,List.getElem?_map,List.getElem?_eq_getElem ha,List.getElem?_eq_getElem hb,ea,eb]
    show some (x.i,x.j) = some (e.i,e.j)
    rw [i1,i2]
   have hab:=(List.getElem?_inj (by rw [List.length_map];exact ha) hnd2).mp this
   subst hab
   exact ea.symm.trans eb
  rw [hxe];rfl
theorem kH {n:Nat} {bare:Int} {ed:List EE} (hed:EdOk n bare ed) {e:EE} (he:e∈ed):(valueAt e.attrs "weight").getD (.int bare 0) = .int e.c 0:=by
 unfold EE.attrs
 by_cases h:e.dg = true
 ·rw [if_pos h,hed.bare e he h];rfl
 ·rw [if_neg h];rfl
theorem l6 {n:Nat} {names:List Int} {ed:List EE} {bare:Int} {a:GA} {e0:Nat} {eS eP:Int->Nat} {o:Led} (hed:EdOk n bare ed) (hnd:names.Nodup) (hl:names.length = n) (ho:∀ p∈cS ed,p∈o) :
  WtOk ⟨a,e0,eS,eP,bv n,dE names ed,bR names ed⟩ bare (gJ names ed) o where
 w:=λ x hx p hp=>by
  refine ac (List.mem_map.mp hp) λ e he zh1=>?_;obtain rfl:=zh1
  refine ae (List.mem_filter.mp he) λ he h1=>?_
  have h1:nmA names e.j = x:=by simpa using h1
  refine (bc e.D e.attrs rfl (ho _ (List.mem_map.mpr (ad e he rfl))) ?_)
  rw [kH hed he]
  unfold gJ
  rw [← h1]
  rw [eJ hed hnd hl he];rfl
 nd:=λ x hx=>by
  show ((bR names ed x).map (·.1)).Nodup
  unfold bR
  rw [List.map_map]
  have h1:(ed.filter λ e=>nmA names e.j == x).map ((λ p:Int×Value=>p.1) ∘ λ e:EE=>(nmA names e.i,Value.ref e.D)) = (ed.filter λ e=>nmA names e.j == x).map λ e=>nmA names e.i:=rfl
  rw [h1]
  have hnd2:=hed.nd
  have key:∀ l:List EE,(∀ e∈l,e∈ed)->(l.map λ e=>(e.i,e.j)).Nodup->(∀ e∈l,nmA names e.j = x)->(l.map λ e=>nmA names e.i).Nodup:=by
   intro l
   induction l with
   | nil=>intro _ _ _;exact List.nodup_nil
   | cons e r ih=>
    intro h1 h2 h3
    rw [List.map_cons,List.nodup_cons] at h2 ⊢
    refine ⟨λ hm=>?_,ih (λ e he=>h1 e (.tail _ he)) h2.2 (λ e he=>h3 e (.tail _ he))⟩
    refine ac (List.mem_map.mp hm) λ y hy ey=>?_
    have g1:=hed.ij e (h1 e (.head _))
    have g2:=hed.ij y (h1 y (.tail _ hy))
    have i1:=cL hnd (by walk_at "r") (by walk_at "r") ey
    have i2:=cL hnd (by walk_at "r") (by walk_at "r") ((h3 y (.tail _ hy)).trans (h3 e (.head _)).symm)
    exact h2.1 (List.mem_map.mpr (ad y hy (by rw [i1,i2])))
  refine key _ (λ e he=>(List.mem_filter.mp he).1) ?_ λ e he=>by simpa using (List.mem_filter.mp he).2
  exact hnd2.sublist (List.Sublist.map _ List.filter_sublist)
theorem mS {n:Nat} {names:List Int} {ed:List EE} {bare:Int} {a:GA} {e0:Nat} {eS eP:Int->Nat} {o:Led} (hed:EdOk n bare ed) (hnd:names.Nodup) (hl:names.length = n) (ho:∀ p∈cS ed,p∈o) {x y:Int} (hx:x∈bv n) (h:(bW names ed x y).isSome) :
  i4 ⟨a,e0,eS,eP,bv n,dE names ed,bR names ed⟩ bare (gJ names ed) o x y:=by
 refine ⟨hx,?_⟩
 have h0:=h
 unfold bW at h
 rw [Option.isSome_map] at h
 refine ai (Option.isSome_iff_exists.mp h) λ e he=>?_
 have h1:=List.find?_some he
 have h2:=List.mem_of_find?_eq_some he
 simp only [Bool.and_eq_true,beq_iff_eq] at h1
 refine (bc e.D e.attrs ?_ (ho _ (List.mem_map.mpr (ad e h2 rfl))) ?_)
 ·show valueAt (dE names ed x) y = _
  have key:∀ l:List EE,(l.find? λ e=>nmA names e.i == x && nmA names e.j == y) = some e->valueAt ((l.filter λ e=>nmA names e.i == x).map λ e=>(nmA names e.j,Value.ref e.D)) y = some (.ref e.D):=by
   intro l
   induction l with
   | nil=>intro h;cases h
   | cons z r ih=>
    intro h
    rw [List.find?_cons] at h
    rw [List.filter_cons]
    by_cases hz:nmA names z.i = x
    ·rw [if_pos (by simpa using hz),List.map_cons]
     unfold valueAt
     rw [List.find?_cons]
     by_cases hy:nmA names z.j = y
     ·have:(nmA names z.i == x && nmA names z.j == y) = true:=by simp [hz,hy]
      rw [this] at h
      cases h
      simp [hy]
     ·have:(nmA names z.i == x && nmA names z.j == y) = false:=by simp [hy]
      rw [this] at h
      simp only [hy,decide_false]
      exact ih h
    ·have:(nmA names z.i == x && nmA names z.j == y) = false:=by simp [hz]
     rw [this] at h
     rw [if_neg (by simpa using hz)]
     exact ih h
  exact key ed he
 ·rw [kH hed h2]
  unfold gJ
  rw [← h1.1,← h1.2,eJ hed hnd hl h2];rfl
theorem sg {n:Nat} {names:List Int} {ed:List EE} {a:GA} {e0:Nat} {eS eP:Int->Nat} (hn:n≤6) (hz:ed.length≤36):GG.Ok ⟨a,e0,eS,eP,bv n,dE names ed,bR names ed⟩ where
 nd:=cG n
 l1:=by show (bv n).length≤100;rw [eM];walk_at "r"
 l2:=λ x _=>by show (dE names ed x).length≤100;unfold dE;rw [List.length_map];have:=List.length_filter_le (λ e=>nmA names e.i == x) ed;walk_at "r"
 l3:=λ x _=>by show (bR names ed x).length≤100;unfold bR;rw [List.length_map];have:=List.length_filter_le (λ e=>nmA names e.j == x) ed;walk_at "r"
noncomputable def pK (S:Addr) (m:Str->Option Value) (L:Addr):Led:=[(L,.frame m),(L + 6,.cell none),(L + 5,.cell none),(L + 4,.cell none),(L + 3,.cell none),(L + 2,.cell none),(L + 1,.cell (some (.ref S)))]
noncomputable def ik:Prop:=∀ (n:Nat) (bare:Int) (names:List Int) (ed:List EE) (a:GA) (e0:Nat) (eS eP:Int->Nat),1≤n->n≤6->names.Perm (bv n)->EdOk n bare ed->ed.length≤36->PlainLaw n names ed a e0 eS eP
theorem kR {names:List Int} {ed:List EE} {best:Int} {n:Nat} {q:List Int} (h1:1≤n) (hw:WayP names ed best q):WayOk (gD names ed) (λ p=>gJ names ed p.1 p.2) n best q where
 st:=λ p hp=>by
  rw [qf]
  refine ai (Option.isSome_iff_exists.mp (hw.edge p hp)) λ c hc=>?_
  unfold gJ
  rw [hc];rfl
 sum:=hw.sum
 ne:=by
  have h2:q.length > 0:=List.length_pos_iff.mpr hw.ne
  rw [decide_eq_true (by walk_at "r":(n:Int) > 0),decide_eq_true (by walk_at "r":(q.length:Int) > 0)]
 len:=hw.len
theorem nU (PA:ik) {L S:Addr} {m:Str->Option Value} {sc:List Int} {Q:Flow->Shared->Prop} (T:TX w B mg mb) (R:Rm A 9 40) (hl:sc.length≤100) (hS:BList B S (af sc))
  (H:W prog w B g os (pK S m L++(an 963 h8 []++(an 93 qL []++[(149,bg)]))) s)
  (h:∀ σ g s' es es',W prog w B g os σ s'->(93,jU es)∈σ->(149,bg)∈σ->(963,jU es')∈σ->Q (.ret (.bool true)) s'):wpF (model prog w) A (execs (fq w.params).1 (cr w.params L)) Q E s:=by
 have X:=T.X
 obtain ⟨n,hn⟩:∃ n:Nat,ej sc = n:=⟨(ej sc).toNat,by
  have:0≤ej sc:=by unfold ej;exact Int.fmod_nonneg_of_pos _ (by decide)
  walk_at "r"⟩
 have hn6:n≤6:=by
  have:ej sc < 7:=by unfold ej;exact Int.fmod_lt_of_pos _ (by decide)
  walk_at "r"
 obtain ⟨bare,hbare⟩:∃ bare,kn sc = bare:=⟨_,rfl⟩
 rw [(dX w.params).2]
 unfold pK at H
 refine b9 λ E1=>qK (o:=(L + 5,.cell none) :: (L + 4,.cell none) :: (L + 3,.cell none) :: (L + 2,.cell none) :: (an 963 h8 []++(an 93 qL []++[(149,bg)]))) T (R.mono (by decide) (by decide)) hl hS (H.perm (by exact pm [[_],[_],[_],[_],[_],[_],[_],_,_,[_]] [1,2,5,8,11,14,17,20,0,24,27,29,0] [2,5,20,8,11,14,17,24,27,29,0] rfl)) λ Nm s1 H1=>?_
 refine b9 λ E1=>qD (o:=(L + 5,.cell none) :: (L + 4,.cell none) :: (L + 3,.cell none) :: (L + 2,.cell none) :: (L + 1,.cell (some (.ref S))) :: (an 963 h8 []++(an 93 qL []++[(149,bg)]))) T (R.mono (by decide) (by decide)) (H1.perm (by exact pm [[_],[_],[_],[_],[_],[_],[_],[_],_,_,[_]] [2,5,8,11,14,17,20,23,27,30,32,0] [2,5,11,14,17,20,23,8,27,30,32,0] rfl)) λ s2 H2=>?_
 rw [hn,hbare] at H2
 have hm2a:put "many" (.int n 0) (put "bare" (.int bare 0) m) "many" = some (.int n 0):=rfl
 have hm2b:put "many" (.int n 0) (put "bare" (.int bare 0) m) "bare" = some (.int bare 0):=rfl
 generalize put "many" (.int n 0) (put "bare" (.int bare 0) m) = m2 at H2 hm2a hm2b
 refine b9 λ E1=>qU (num:=jp sc) (n:=n) (o:=(L + 5,.cell none) :: (L + 4,.cell none) :: (L + 3,.cell none) :: (L + 2,.cell none) :: (L + 1,.cell (some (.ref S))) :: (an 93 qL []++[(149,bg)])) T (R.mono (by decide) (by decide)) hn6 (by unfold jp;simp) hm2a (H2.perm (by exact pm [[_],[_],[_],[_],[_],[_],[_],[_],_,_,[_]] [2,5,8,11,14,17,20,23,27,30,32,0] [27,2,5,8,11,14,17,20,23,30,32,0] rfl)) λ l names es s3 hperm H3=>?_
 rw [(fz w.params).2]
 refine b9 λ E1=>rm (m:=put "names" (.ref l) m2) (o:=(L + 6,.cell (some (.ref Nm))) :: (Nm,.list (af (jp sc))) :: (l,.list (af names)) :: (L + 5,.cell none) :: (L + 4,.cell none) :: (L + 3,.cell none) :: (L + 2,.cell none) :: (L + 1,.cell (some (.ref S))) :: (an 963 h8 es++(an 93 qL []++[(149,bg)]))) T (R.mono (by decide) (by decide)) (H3.perm (by exact pm [_,[_],[_],[_],[_],[_],[_],[_],[_],[_],_,[_]] [3,5,8,11,14,17,20,23,26,29,33,35,0] [5,8,11,14,17,20,23,26,29,3,33,35,0] rfl)) λ a s4 H4=>?_
 have hm4:EM a.net l n bare (put "net" (.ref a.net) (put "names" (.ref l) m2)):=⟨hm2a,hm2b,rfl,rfl⟩
 generalize put "net" (.ref a.net) (put "names" (.ref l) m2) = m4 at H4 hm4
 refine b9 λ E1=>qo T (R.mono (by decide) (by decide)) hn6 hm4.many hm4.net H4 λ a' ha' s5 H5=>?_
 rw [← ha'] at hm4
 refine b9 λ E1=>rj (o:=(L + 6,.cell (some (.ref Nm))) :: (Nm,.list (af (jp sc))) :: (l,.list (af names)) :: (L + 5,.cell none) :: (L + 4,.cell none) :: (L + 3,.cell none) :: (L + 1,.cell (some (.ref S))) :: (an 963 h8 es++(an 93 qL []++((149,bg) :: (a'.six a'.base (bv n)++a'.per (bv n) (λ _=>[]) (λ _=>[])))))) T (H5.perm (by exact pm [[_],_,_,[_],[_],[_],[_],[_],[_],[_],[_],_,_,[_]] [2,6,9,11,14,17,20,23,26,29,32,36,39,41,0] [2,29,11,14,17,20,23,26,32,36,39,41,6,10] rfl)) λ Tb s₆ H6=>?_
 have hnl:names.length = n:=by rw [hperm.length_eq,eM]
 have hnd:names.Nodup:=hperm.nodup_iff.mpr (cG n)
 rw [(fX w.params).2]
 refine b9 λ E1=>m5 (Tb:=Tb) (Nm:=Nm) (l:=l) (m:=m4) (oc:=none) (ov:=none) (names:=names) (numbers:=jp sc) (ns:=bv n) (a:=a') (n:=n) (bare:=bare) (o:=(L + 5,.cell none) :: (L + 1,.cell (some (.ref S))) :: (an 963 h8 es++(an 93 qL []++[(149,bg)])))
  T (R.mono (by decide) (by decide)) hm4 hn6 hnl hnd (λ x hx=>hperm.mem_iff.mp hx) (cG n) (by rw [eM];walk_at "r") (by unfold jp;simp) (H6.perm ?_) λ m7 oc ov ed s7 hm7 hed hedl H7=>?_
 ·have e1:gD names [] = []:=rfl
  have e2:cS [] = []:=rfl
  have e3:dE names [] = λ _=>[]:=rfl
  have e4:bR names [] = λ _=>[]:=rfl
  unfold edL edF
  rw [e1,e2,e3,e4]
  exact pm [[_],[_],[_],[_],[_],[_],[_],[_],[_],[_],_,_,[_],_,_] [2,5,8,11,14,17,20,23,26,29,33,36,38,42,46] [1,1,2,11,23,26,5,8,17,14,0,1,0,42,46,20,29,33,36,38,0] rfl
 rw [(fp w.params).2]
 unfold edL edF at H7
 obtain ⟨e0,eS,eP,H8⟩:=rQ (H7.perm (σ':=a'.six a'.base (bv n)++(a'.per (bv n) (dE names ed) (bR names ed)++((L,.frame m7) :: (L + 4,.cell oc) :: (L + 3,.cell ov) :: (L + 2,.cell (some (.ref Tb))) :: (Tb,.tdict (gD names ed)) ::
  ((L + 6,.cell (some (.ref Nm))) :: (l,.list (af names)) :: (Nm,.list (af (jp sc))) :: (L + 5,.cell none) :: (L + 1,.cell (some (.ref S))) :: (cS ed++(an 963 h8 es++(an 93 qL []++[(149,bg)]))))))) (by exact pm [[_],[_],[_],[_],[_],[_],[_],[_],_,_,_,[_],[_],_,_,[_]] [1,1,2,5,8,11,14,17,20,23,0,27,30,34,35,38,42,45,47,0] [30,33,2,8,11,14,17,5,20,23,35,38,27,42,45,47,0] rfl))
 refine b9 λ E1=>ql (n:=n) (tk:=gD names ed) (o:=(L + 6,.cell (some (.ref Nm))) :: (l,.list (af names)) :: (Nm,.list (af (jp sc))) :: (L + 5,.cell none) :: (L + 1,.cell (some (.ref S))) :: (cS ed++(an 963 h8 es++(an 93 qL []++((149,bg) :: GG.led prog w ⟨a',e0,eS,eP,bv n,dE names ed,bR names ed⟩ false a'.base)))))
  T (R.mono (by decide) (by decide)) (by walk_at "r") hm7.many (H8.perm (by exact pm [_,[_],[_],[_],[_],[_],[_],[_],[_],[_],[_],_,_,_,[_]] [3,5,8,11,14,17,20,23,26,29,32,36,39,42,44,0] [5,8,11,14,17,20,23,26,29,32,36,39,42,44,4] rfl)) λ Rl st s8 hst H9=>?_
 have k1:put "best" (.int 0 0) (put "rest" (.ref Rl) m7) "many" = some (.int n 0):=hm7.many
 have k2:put "best" (.int 0 0) (put "rest" (.ref Rl) m7) "best" = some (.int 0 0):=rfl
 have k3:put "best" (.int 0 0) (put "rest" (.ref Rl) m7) "rest" = some (.ref Rl):=rfl
 have fin:∀ (m9:Str->Option Value) (oc' ov':Option Value) (best:Int) (s9:Shared),(∀ x,x≠("best":Str)->x≠("rest":Str)->m9 x = put "best" (.int 0 0) (put "rest" (.ref Rl) m7) x)->m9 "best" = some (.int best 0)->LM a'.net l n best bare m9:=by
  intro m9 oc' ov' best s9 h1 h2
  have h3:∀ x,x≠("best":Str)->x≠("rest":Str)->m9 x = m7 x:=by
   intro x hx1 hx2
   rw [h1 x hx1 hx2]
   show (if x = "best" then _ else if x = "rest" then _ else m7 x) = m7 x
   rw [if_neg hx1,if_neg hx2]
  exact ⟨by rw [h3 _ (by decide) (by decide)];exact hm7.many,h2,by rw [h3 _ (by decide) (by decide)];exact hm7.bare,by rw [h3 _ (by decide) (by decide)];exact hm7.net,by rw [h3 _ (by decide) (by decide)];exact hm7.names⟩
 generalize put "best" (.int 0 0) (put "rest" (.ref Rl) m7) = m8 at H9 fin k1 k2 k3
 by_cases h0:n = 0
 ·refine b9 λ E1=>iN (Inv:=λ stk b=>stk = []∧b = 0) (μ:=λ _=>0) (ef:=bW names ed) (n:=n) (best:=0) T (R.mono (by decide) (by decide)) (qf names ed) (by walk_at "r") (λ stk c v best hI=>by simp at hI) (λ stk best hI=>by rw [hI.1];exact Nat.zero_le _) k1 k2 k3 (by rw [hst,h0];exact ⟨rfl,rfl⟩) H9 λ m9 oc' ov' b' s9 f1 f2 hI H10=>?_
  have hb:=hI.2
  subst hb
  have hm9:=fin m9 oc' ov' 0 s9 f1 f2
  have hnm:names = []:=by
   apply List.eq_nil_of_length_eq_zero;walk_at "r"
  rw [h0] at hm9 H10
  rw [hnm] at H10
  refine nQ (G:=⟨a',e0,eS,eP,bv 0,dE [] ed,bR [] ed⟩) (l:=l) (Tb:=Tb) (m:=m9) (ow:=none) (tk:=gD [] ed) (bare:=bare) (o:=cS ed++((L + 6,.cell (some (.ref Nm))) :: (L + 4,.cell oc') :: (L + 3,.cell ov') :: (L + 1,.cell (some (.ref S))) :: (Nm,.list (af (jp sc))) :: (an 963 h8 es++(an 93 qL []++[(149,bg)]))))
   T R rfl ?_ hm9 (H10.perm ?_) (λ σ g s' H' ho=>h σ g s' [] es H' (ho _ (by walk_at "l")) (ho _ (by walk_at "l")) (ho _ (by walk_at "l")))
  ·exact bf jb (am rfl (am rfl (am rfl (am rfl (am rfl (bf il (bf il (am rfl cP))))))))
  ·unfold lwE
   exact pm [[_],[_],[_],[_],[_],[_],[_],[_],[_],[_],_,_,_,[_],_] [2,5,8,11,14,17,20,23,26,29,33,36,39,41,46] [45,1,2,26,11,14,20,0,33,17,5,8,29,23,36,39,41,0] rfl
 ·refine iM ((PA n bare names ed a' e0 eS eP (by walk_at "r") hn6 hperm hed hedl).all) λ best gs p1 p2 Inv μ hK hR1 hR2 w1 zk0=>?_;refine fu zk0 λ w2 hNbr hws hstep zk1=>?_;clear zk0;refine bP zk1 λ hsz hI0 hfin=>?_;clear zk1
  refine b9 λ E1=>iN (Inv:=Inv) (μ:=μ) (ef:=bW names ed) (n:=n) (best:=0) T (R.mono (by decide) (by decide)) (qf names ed) (by walk_at "r") hstep hsz k1 k2 k3 (by rw [hst];exact hI0) H9 λ m9 oc' ov' b' s9 f1 f2 hI H10=>?_
  have hb:=hfin _ hI
  subst hb
  have hm9:=fin m9 oc' ov' b' s9 f1 f2
  have hne:bv n≠[]:=λ q=>by have:=eM n;rw [q] at this;exact h0 this.symm
  have hmo:∀ p∈cS ed,p∈cS ed++((L + 6,AObj.cell (some (.ref Nm))) :: (L + 4,.cell oc') :: (L + 3,.cell ov') :: (L + 1,.cell (some (.ref S))) :: (Nm,.list (af (jp sc))) :: (an 963 h8 es)):=λ p hp=>List.mem_append_left _ hp
  refine qa (G:=⟨a',e0,eS,eP,bv n,dE names ed,bR names ed⟩) (sg hn6 hedl) (gs:=gs) (p1:=p1) (p2:=p2) (wf:=λ p=>gJ names ed p.1 p.2) (wt:=gJ names ed) (l:=l) (Tb:=Tb) (m:=m9) (ow:=none) (tk:=gD names ed) (bare:=bare) (es:=[]) (names:=names) (many:=n)
   (o:=cS ed++((L + 6,.cell (some (.ref Nm))) :: (L + 4,.cell oc') :: (L + 3,.cell ov') :: (L + 1,.cell (some (.ref S))) :: (Nm,.list (af (jp sc))) :: (an 963 h8 es)))
   T R (l6 hed hnd hnl hmo) hne ?_ hK hR1 hR2 (kR (by walk_at "r") w1) (kR (by walk_at "r") w2) (hNbr.mono λ x y hxy=>mS hed hnd hnl hmo hxy.1 hxy.2) hws hm9 (H10.perm ?_) (λ σ g s' es' H' h93 h149 ho=>h σ g s' es' es H' h93 h149 (ho _ (by walk_at "l")))
  ·exact bf jb (am rfl (am rfl (am rfl (am rfl (am rfl il)))))
  ·unfold lwE
   exact pm [[_],[_],[_],[_],[_],[_],[_],[_],[_],[_],_,_,_,[_],_] [2,5,8,11,14,17,20,23,26,29,33,36,39,41,46] [45,39,41,1,2,26,11,14,20,0,33,17,5,8,29,23,37] rfl
noncomputable def rk (names:List Int) (x:Int):Nat:=names.idxOf x
theorem qh {names:List Int} {x:Int} (h:x∈names):nmA names (rk names x) = x:=by
 unfold nmA rk
 rw [List.getD_eq_getElem?_getD,List.getElem?_eq_getElem (List.idxOf_lt_length_of_mem h)]
 exact List.getElem_idxOf _
theorem oD {names:List Int} (hn:names.Nodup) {i:Nat} (h:i < names.length):rk names (nmA names i) = i:=by
 have hm:=fM h
 have h1:rk names (nmA names i) < names.length:=List.idxOf_lt_length_of_mem hm
 exact cL hn h1 h (qh hm)
theorem l9 {names:List Int} {ed:List EE} {p q c:Int} (h:bW names ed p q = some c):∃ e∈ed,nmA names e.i = p∧nmA names e.j = q∧e.c = c:=by
 unfold bW at h
 refine ac (Option.map_eq_some_iff.mp h) λ e he hc=>?_
 have h1:=List.find?_some he
 simp only [Bool.and_eq_true,beq_iff_eq] at h1
 exact (dT e (List.mem_of_find?_eq_some he) h1.1 h1.2 hc)
structure Dg (n:Nat) (bare:Int) (names:List Int) (ed:List EE):Prop where
 n1:1≤n
 n6:n≤6
 pm:names.Perm (bv n)
 ok:EdOk n bare ed
section
variable {n:Nat} {bare:Int} {names:List Int} {ed:List EE}
theorem Dg.nd (D:Dg n bare names ed):names.Nodup:=D.pm.nodup_iff.mpr (cG n)
theorem Dg.len (D:Dg n bare names ed):names.length = n:=by rw [D.pm.length_eq,eM]
theorem Dg.edge (D:Dg n bare names ed) {p q c:Int} (h:bW names ed p q = some c):p∈names∧q∈names∧rk names p < rk names q:=by
 refine fc (l9 h) λ e he zh1 zh2 zh3=>?_;obtain rfl:=zh1;obtain rfl:=zh2;obtain rfl:=zh3
 refine ae (D.ok.ij e he) λ h1 h2=>?_
 have hl:=D.len
 refine (aQ (fM (by walk_at "r")) (fM (by walk_at "r")) ?_)
 rw [oD D.nd (by walk_at "r"),oD D.nd (by walk_at "r")];exact h1
theorem Dg.rk_lt (D:Dg n bare names ed) {x:Int} (h:x∈names):rk names x < n:=by
 have:=List.idxOf_lt_length_of_mem h
 rw [D.len] at this;exact this
inductive Wk (names:List Int) (ed:List EE):Int->Int->Int->Prop
 | nil {x}:x∈names->Wk names ed x x 0
 | cons {x y z k c}:bW names ed x y = some k->Wk names ed y z c->Wk names ed x z (k + c)
theorem Wk.src (D:Dg n bare names ed) {x z c:Int} (h:Wk names ed x z c):x∈names:=by
 cases h with
 | nil h=>exact h
 | cons h _=>exact (D.edge h).1
theorem Wk.dst (D:Dg n bare names ed) {x z c:Int} (h:Wk names ed x z c):z∈names:=by
 induction h with
 | nil h=>exact h
 | cons _ _ ih=>exact ih
theorem Wk.snoc (D:Dg n bare names ed) {x v w c k:Int} (h:Wk names ed x v c) (e:bW names ed v w = some k):Wk names ed x w (c + k):=by
 induction h with
 | nil h=>
  have:=Wk.cons e (.nil (D.edge e).2.1)
  rw [Int.add_zero] at this
  rw [Int.zero_add];exact this
 | cons h1 _ ih=>
  rw [Int.add_assoc]
  exact .cons h1 (ih e)
theorem Wk.last (D:Dg n bare names ed) {x z c:Int} (h:Wk names ed x z c):(x = z∧c = 0)∨∃ p c' k,Wk names ed x p c'∧bW names ed p z = some k∧c = c' + k:=by
 induction h with
 | nil h=>exact .inl ⟨rfl,rfl⟩
 | @cons x y z k c h1 h2 ih=>
  rcases ih with ⟨rfl,rfl⟩ | ⟨p,c',k',g1,g2,g3⟩
  ·exact .inr (cc x 0 k (.nil (D.edge h1).1) (aJ h1 (by walk_at "r")))
  ·exact .inr (cc p (k + c') k' (.cons h1 g1) (aJ g2 (by walk_at "r")))
structure Best (names:List Int) (ed:List EE) (b:Int):Prop where
 is:∃ x z,Wk names ed x z b
 le:∀ x z c,Wk names ed x z c->c≤b
theorem Best.uniq {a b:Int} (h1:Best names ed a) (h2:Best names ed b):a = b:=by
 refine c6 h1.is λ x z hx=>?_
 refine c6 h2.is λ x' z' hx'=>?_
 have:=h1.le _ _ _ hx'
 have:=h2.le _ _ _ hx
 walk_at "r"
noncomputable def wgt (names:List Int) (n:Nat) (stk:List (Int×Int)):Nat:=(stk.map λ e=>2 ^ (n - rk names e.2)).sum
theorem lS {a b:List (Int×Int)}:wgt names n (a++b) = wgt names n a + wgt names n b:=by unfold wgt;rw [List.map_append,List.sum_append]
theorem ml:∀ stk:List (Int×Int),stk.length≤wgt names n stk
 | []=>Nat.le_refl _
 | e :: r=>by
  have:=ml r
  have h1:1≤2 ^ (n - rk names e.2):=Nat.one_le_two_pow
  show r.length + 1≤2 ^ (n - rk names e.2) + wgt names n r
  walk_at "r"
structure StkI (n:Nat) (names:List Int) (ed:List EE) (stk:List (Int×Int)) (b:Int):Prop where
 ent:∀ e∈stk,e.2∈names∧∃ x,Wk names ed x e.2 e.1
 is:∃ x z,Wk names ed x z b
 le:∀ x z c,Wk names ed x z c->c≤b∨∃ e∈stk,∃ c',Wk names ed e.2 z c'∧c≤e.1 + c'
 size:wgt names n stk≤126
theorem oS {c v:Int} {p:Int×Int} (h:p∈kids (bW names ed) n c v):∃ k,bW names ed v p.2 = some k∧p.1 = c + k:=by
 unfold kids at h
 refine ac (List.mem_filterMap.mp h) λ w hw e=>?_
 refine ac (Option.map_eq_some_iff.mp e) λ k hk zh1=>?_;obtain rfl:=zh1
 exact (ad k hk rfl)
theorem Dg.kids_of (D:Dg n bare names ed) {c v y k:Int} (h:bW names ed v y = some k):(c + k,y)∈kids (bW names ed) n c v:=by
 have hy:y∈bv n:=D.pm.mem_iff.mp (D.edge h).2.1
 unfold bv at hy
 refine ac (List.mem_map.mp hy) λ w hw zh1=>?_;obtain rfl:=zh1
 unfold kids
 exact List.mem_filterMap.mpr (ad w hw (by rw [h];rfl))
noncomputable def nE (n r:Nat):Nat:=((List.range n).map λ i=>if r < i then 2 ^ (n - i) else 0).sum
theorem og {n r:Nat} (h:r < n) (hn:n≤6):nE n r < 2 ^ (n - r):=by
 have:∀ n,n≤6->∀ r,r < n->nE n r < 2 ^ (n - r):=by decide
 exact this n hn r h
theorem Dg.names_eq (D:Dg n bare names ed):names = (List.range n).map (nmA names):=by
 refine List.ext_getElem? λ i=>?_
 rw [List.getElem?_map]
 by_cases h:i < n
 ·rw [List.getElem?_range h]
  have hl:=D.len
  rw [List.getElem?_eq_getElem (by walk_at "r")]
  show some _ = some (nmA names i)
  unfold nmA
  rw [List.getD_eq_getElem?_getD,List.getElem?_eq_getElem (by walk_at "r")];rfl
 ·have hl:=D.len
  rw [List.getElem?_eq_none (l:=names) (by walk_at "r"),List.getElem?_eq_none (l:=List.range n) (by rw [List.length_range];walk_at "r")];rfl
theorem Dg.kids_w (D:Dg n bare names ed) {c v:Int} (hv:v∈names):wgt names n (kids (bW names ed) n c v) < 2 ^ (n - rk names v):=by
 have h1:wgt names n (kids (bW names ed) n c v)≤((bv n).map λ w=>if rk names v < rk names w then 2 ^ (n - rk names w) else 0).sum:=by
  unfold wgt kids bv
  induction (List.range n) with
  | nil=>exact Nat.le_refl _
  | cons w r ih=>
   rw [List.filterMap_cons]
   simp only [List.map_cons,List.sum_cons]
   cases hk:bW names ed v (w:Int) with
   | none=>
    simp only [Option.map_none]
    walk_at "r"
   | some k=>
    simp only [Option.map_some,List.map_cons,List.sum_cons]
    rw [if_pos (D.edge hk).2.2]
    walk_at "r"
 have h2:((bv n).map λ w=>if rk names v < rk names w then 2 ^ (n - rk names w) else 0).sum = nE n (rk names v):=by
  rw [← (D.pm.map _).sum_nat]
  conv=>lhs;rw [D.names_eq]
  rw [List.map_map]
  unfold nE
  congr 1
  refine List.map_congr_left λ i hi=>?_
  have hl:=D.len
  simp only [Function.comp]
  rw [← D.names_eq,oD D.nd (by have:=List.mem_range.mp hi;walk_at "r")]
 exact Nat.lt_of_le_of_lt (h2▸h1) (og (D.rk_lt hv) D.n6)
theorem pk {n:Nat} (hn:n≤6):((List.range n).map λ i=>2 ^ (n - i)).sum≤126:=by
 have:∀ n,n≤6->((List.range n).map λ i=>2 ^ (n - i)).sum≤126:=by decide
 exact this n hn
theorem Dg.init (D:Dg n bare names ed):StkI n names ed ((List.range n).map λ (v:Nat)=>((0:Int),(v:Int))) 0 where
 ent:=λ e he=>by
  refine ac (List.mem_map.mp he) λ v hv zh1=>?_;obtain rfl:=zh1
  have:(v:Int)∈names:=D.pm.mem_iff.mpr (List.mem_map.mpr (ad v hv rfl))
  exact (aJ this (c5 _ (.nil this)))
 is:=by
  have:((0:Nat):Int)∈names:=D.pm.mem_iff.mpr (List.mem_map.mpr (ad 0 (List.mem_range.mpr D.n1) rfl))
  exact (c8 _ _ (.nil this))
 le:=λ x z c h=>by
  have hx:=D.pm.mem_iff.mp (h.src D)
  refine ac (List.mem_map.mp hx) λ v hv zh1=>?_;obtain rfl:=zh1
  exact .inr (ad (0,(v:Int)) (List.mem_map.mpr (ad v hv rfl)) (ad c h (by show c≤0 + c;walk_at "r")))
 size:=by
  have h1:wgt names n ((List.range n).map λ (v:Nat)=>((0:Int),(v:Int))) = ((bv n).map λ w=>2 ^ (n - rk names w)).sum:=by
   unfold wgt bv
   rw [List.map_map,List.map_map];rfl
  rw [h1,← (D.pm.map _).sum_nat]
  have h2:(names.map λ w=>2 ^ (n - rk names w)) = (List.range n).map λ i=>2 ^ (n - i):=by
   conv=>lhs;rw [D.names_eq]
   rw [List.map_map]
   refine List.map_congr_left λ i hi=>?_
   have hl:=D.len
   simp only [Function.comp]
   rw [← D.names_eq,oD D.nd (by have:=List.mem_range.mp hi;walk_at "r")]
  rw [h2]
  exact pk D.n6
theorem Dg.step (D:Dg n bare names ed) {stk:List (Int×Int)} {c v b:Int} (h:StkI n names ed (stk++[(c,v)]) b) :
  StkI n names ed (stk++kids (bW names ed) n c v) (max b c)∧wgt names n (stk++kids (bW names ed) n c v) < wgt names n (stk++[(c,v)]):=by
 refine ae (h.ent (c,v) (List.mem_append_right _ (.head _))) λ hv zh1=>?_;refine ai zh1 λ x0 hx0=>?_;clear zh1
 have hw:wgt names n (stk++kids (bW names ed) n c v) < wgt names n (stk++[(c,v)]):=by
  rw [lS,lS]
  have h1:wgt names n (kids (bW names ed) n c v) < 2 ^ (n - rk names v):=D.kids_w (c:=c) (v:=v) hv
  have h2:wgt names n [(c,v)] = 2 ^ (n - rk names v):=by unfold wgt;simp
  walk_at "r"
 refine ⟨⟨λ e he=>?_,?_,λ x z d hd=>?_,by have:=h.size;walk_at "r"⟩,hw⟩
 ·rcases List.mem_append.mp he with he | he
  ·exact h.ent e (List.mem_append_left _ he)
  ·refine ac (oS he) λ k hk e1=>?_
   exact (aJ ((D.edge hk).2.1) (c5 x0 (by rw [e1];exact hx0.snoc D hk)))
 ·refine c6 h.is λ x z hb=>?_
  rcases Int.le_total b c with h1 | h1
  ·rw [Int.max_eq_right h1];exact (c8 _ _ hx0)
  ·rw [Int.max_eq_left h1];exact (c8 _ _ hb)
 ·rcases h.le x z d hd with h1 | ⟨e,he,c',h1,h2⟩
  ·exact .inl (by walk_at "r")
  ·rcases List.mem_append.mp he with he | he
   ·exact .inr (ad e (List.mem_append_left _ he) (ad c' h1 h2))
   ·rw [List.mem_singleton] at he
    subst he
    cases h1 with
    | nil _=>exact .inl (by have:d≤c + 0:=h2;walk_at "r")
    | @cons _ y _ k c'' g1 g2=>
     refine .inr (ad (c + k,y) (List.mem_append_right _ (D.kids_of g1)) (ad c'' g2 ?_))
     have:d≤c + (k + c''):=h2
     show d≤c + k + c''
     walk_at "r"
theorem StkI.best {b:Int} (h:StkI n names ed [] b):Best names ed b where
 is:=h.is
 le:=λ x z c hc=>by
  rcases h.le x z c hc with h1 | ⟨e,he,_⟩
  ·exact h1
  ·cases he
end
theorem cA {α:Type} (kf:α->Int):∀ (xs:List α) (b:α),∀ y∈b :: xs,kf y≤kf (ba kf b xs)
 | [],b,y,h=>by rw [List.mem_singleton] at h;subst h;exact Int.le_refl _
 | x :: xs,b,y,h=>by
  have e:ba kf b (x :: xs) = ba kf (if kf x > kf b then x else b) xs:=rfl
  rw [e]
  by_cases q:kf x > kf b
  ·rw [if_pos q]
   have hb:=cA kf xs x x (.head _)
   rcases List.mem_cons.mp h with rfl | h
   ·walk_at "r"
   ·exact cA kf xs x y h
  ·rw [if_neg q]
   have hb:=cA kf xs b b (.head _)
   rcases List.mem_cons.mp h with rfl | h
   ·exact hb
   ·rcases List.mem_cons.mp h with rfl | h
    ·walk_at "r"
    ·exact cA kf xs b y (.tail _ h)
theorem qm {dp:List (Int×Int×Int)} (hn:(dp.map (·.1)).Nodup) {e:Int×Int×Int} (he:e∈dp):cIn dp e.1 = e.2.1:=by
 unfold cIn
 induction dp with
 | nil=>cases he
 | cons x r ih=>
  rw [List.map_cons,List.nodup_cons] at hn
  rw [List.find?_cons]
  rcases List.mem_cons.mp he with rfl | he
  ·simp
  ·have:(x.1 == e.1) = false:=beq_eq_false_iff_ne.mpr λ q=>hn.1 (List.mem_map.mpr (ad e he q.symm))
   rw [this]
   exact ih hn.2 he
theorem cJ (ps:List (Int×Int)) (dp:List (Int×Int×Int)) (v:Int):(cF ps dp v = (0,v)∧∀ p∈ps,cIn dp p.1 + p.2≤0)∨∃ p∈ps,cF ps dp v = (cIn dp p.1 + p.2,p.1)∧0≤cIn dp p.1 + p.2∧∀ p'∈ps,cIn dp p'.1 + p'.2≤cIn dp p.1 + p.2:=by
 cases ps with
 | nil=>exact .inl ⟨rfl,λ p hp=>by cases hp⟩
 | cons x r=>
  have hm:=ct (λ e:Int×Int=>e.1) (usL dp r) (cIn dp x.1 + x.2,x.1)
  have hg:=cA (λ e:Int×Int=>e.1) (usL dp r) (cIn dp x.1 + x.2,x.1)
  have hu:(cIn dp x.1 + x.2,x.1) :: usL dp r = usL dp (x :: r):=rfl
  have hp:nX v (usL dp (x :: r)) = ba (λ e:Int×Int=>e.1) (cIn dp x.1 + x.2,x.1) (usL dp r):=rfl
  rw [hu] at hm hg
  refine ac (List.mem_map.mp hm) λ p hpm hpe=>?_
  have hall:∀ p'∈x :: r,cIn dp p'.1 + p'.2≤cIn dp p.1 + p.2:=by
   intro p' hp'
   have:=hg (cIn dp p'.1 + p'.2,p'.1) (List.mem_map.mpr (ad p' hp' rfl))
   rw [← hpe] at this
   exact this
  unfold cF
  rw [hp,← hpe]
  by_cases h0:cIn dp p.1 + p.2 ≥ 0
  ·rw [if_pos h0]
   exact .inr (dT p hpm rfl h0 hall)
  ·rw [if_neg h0]
   exact .inl ⟨rfl,λ p' hp'=>by have:=hall p' hp';walk_at "r"⟩
theorem ChainP.mono {dp dp':List (Int×Int×Int)} (h:∀ e∈dp,e∈dp') {v:Int} {p:List Int} (c:ChainP dp v p):ChainP dp' v p:=by
 induction c with
 | stop he hu=>exact .stop (h _ he) hu
 | next he hu _ ih=>exact .next (h _ he) hu ih
theorem kT {P:Int->Int->Prop} {p v:Int}:∀ {l:List Int},Nbr P (l++[p])->P p v->Nbr P (l++[p]++[v])
 | [],_,h=>⟨h,trivial⟩
 | [x],h1,h=>(aQ h1.1 h trivial)
 | x :: y :: r,h1,h=>⟨h1.1,kT (l:=y :: r) h1.2 h⟩
theorem jm {wt:Int->Int->Int} {p v:Int}:∀ {l:List Int},iI wt (l++[p]++[v]) = iI wt (l++[p]) + wt p v
 | []=>by show wt p v + 0 = 0 + wt p v;walk_at "r"
 | [x]=>by show wt x p + (wt p v + 0) = wt x p + 0 + wt p v;walk_at "r"
 | x :: y :: r=>by
  have:=jm (wt:=wt) (p:=p) (v:=v) (l:=y :: r)
  show wt x y + iI wt (y :: r++[p]++[v]) = wt x y + iI wt (y :: r++[p]) + wt p v
  rw [this];walk_at "r"
theorem jj (x y:Int) (r:List Int):jr (x :: y :: r) = (x,y) :: jr (y :: r):=by
 unfold jr
 show (List.range (r.length + 1)).map _ = _ :: (List.range r.length).map _
 rw [List.range_succ_eq_map,List.map_cons,List.map_map]
 rfl
theorem j3 {P:Int->Int->Prop}:∀ {q:List Int},Nbr P q->∀ p∈jr q,P p.1 p.2
 | [],_,p,hp=>by cases hp
 | [_],_,p,hp=>by cases hp
 | x :: y :: r,h,p,hp=>by
  rw [jj] at hp
  rcases List.mem_cons.mp hp with rfl | hp
  ·exact h.1
  ·exact j3 h.2 p hp
theorem kK {wt:Int->Int->Int}:∀ {q:List Int},((jr q).map λ p=>wt p.1 p.2).sum = iI wt q
 | []=>rfl
 | [_]=>rfl
 | x :: y :: r=>by
  rw [jj,List.map_cons,List.sum_cons,kK (q:=y :: r)];rfl
section
variable {n:Nat} {bare:Int} {names:List Int} {ed:List EE}
noncomputable def prd (names:List Int) (ed:List EE) (v:Int):List (Int×Int):=(bR names ed v).map λ p=>(p.1,gJ names ed p.1 v)
theorem Dg.prd_mem (D:Dg n bare names ed) {v p w:Int}:(p,w)∈prd names ed v ↔ bW names ed p v = some w:=by
 constructor
 ·intro h
  refine ac (List.mem_map.mp h) λ q hq e=>?_
  refine ac (List.mem_map.mp hq) λ e' he' zh1=>?_;obtain rfl:=zh1
  refine ae (List.mem_filter.mp he') λ he hv=>?_
  have hv:nmA names e'.j = v:=by simpa using hv
  have h1:=eJ D.ok D.nd D.len he
  rw [hv] at h1
  refine ae (Prod.mk.inj e) λ zh1 zh2=>?_;obtain rfl:=zh1;obtain rfl:=zh2
  unfold gJ
  show bW names ed (nmA names e'.i) v = some ((bW names ed (nmA names e'.i) v).getD 0)
  rw [h1];rfl
 ·intro h
  refine fc (l9 h) λ e he zh1 zh2 zh3=>?_;obtain rfl:=zh1;obtain rfl:=zh2;obtain rfl:=zh3
  refine List.mem_map.mpr (ad (nmA names e.i,.ref e.D) (List.mem_map.mpr (ad e (List.mem_filter.mpr ⟨he,by simp⟩) rfl)) ?_)
  unfold gJ
  rw [h];rfl
structure DpI (n:Nat) (names:List Int) (ed:List EE) (dp:List (Int×Int×Int)):Prop where
 nd:(dp.map (·.1)).Nodup
 ent:∀ e∈dp,0≤e.2.1∧(∃ x,Wk names ed x e.1 e.2.1)∧∀ x k,Wk names ed x e.1 k->k≤e.2.1
 ch:∀ e∈dp,∃ r,ChainP dp e.1 (e.1 :: r)∧(e.1 :: r).length≤dp.length∧iI (gJ names ed) (e.1 :: r).reverse = e.2.1∧Nbr (λ x y=>x∈bv n∧(bW names ed x y).isSome) (e.1 :: r).reverse
theorem Dg.dp_step (D:Dg n bare names ed) {dp:List (Int×Int×Int)} {v:Int} (h:DpI n names ed dp) (hv:v∈names) (hnew:∀ e∈dp,e.1≠v) (hpre:∀ p w,bW names ed p v = some w->∃ e∈dp,e.1 = p) :
  DpI n names ed (dp++[(v,cF (prd names ed v) dp v)]):=by
 have hps:∀ p∈prd names ed v,∃ e∈dp,e.1 = p.1∧cIn dp p.1 = e.2.1∧bW names ed p.1 v = some p.2:=by
  intro zr;obtain ⟨p,w⟩:=zr;intro hp
  have hw:=D.prd_mem.mp hp
  refine ac (hpre p w hw) λ e he zh1=>?_;obtain rfl:=zh1
  exact (dT e he rfl (qm h.nd he) hw)
 have hsub:∀ e∈dp,e∈dp++[(v,cF (prd names ed v) dp v)]:=λ e he=>List.mem_append_left _ he
 have hlast:(v,cF (prd names ed v) dp v)∈dp++[(v,cF (prd names ed v) dp v)]:=List.mem_append_right _ (.head _)
 have hup:∀ x k,Wk names ed x v k->k≤(cF (prd names ed v) dp v).1:=by
  intro x k hk
  rcases hk.last D with ⟨rfl,rfl⟩ | ⟨p,c',w,g1,g2,rfl⟩
  ·rcases cJ (prd names ed x) dp x with ⟨e,_⟩ | ⟨p,_,e,h0,_⟩
   ·rw [e];exact Int.le_refl _
   ·rw [e];exact h0
  ·have hm:=D.prd_mem.mpr g2
   refine fc (hps _ hm) λ e he e1 e2 zz=>?_
   have h3:=(h.ent e he).2.2 x c' (by rw [e1];exact g1)
   rw [← e2] at h3
   rcases cJ (prd names ed v) dp v with ⟨e',hall⟩ | ⟨p',_,e',h0,hall⟩
   ·rw [e']
    have:=hall _ hm
    show c' + w≤0
    have h5:cIn dp p + w≤0:=this
    have h6:c'≤cIn dp p:=h3
    walk_at "r"
   ·rw [e']
    have h5:cIn dp p + w≤cIn dp p'.1 + p'.2:=hall _ hm
    have h6:c'≤cIn dp p:=h3
    show c' + w≤cIn dp p'.1 + p'.2
    walk_at "r"
 refine ⟨?_,λ e he=>?_,λ e he=>?_⟩
 ·rw [List.map_append,List.nodup_append]
  refine (aQ h.nd (by simp) (λ a ha b hb q=>?_))
  refine ac (List.mem_map.mp ha) λ e he zh1=>?_;obtain rfl:=zh1
  simp only [List.map_cons,List.map_nil,List.mem_singleton] at hb
  exact hnew e he (q.trans hb)
 ·rcases List.mem_append.mp he with he | he
  ·exact h.ent e he
  ·rw [List.mem_singleton] at he
   subst he
   refine (aQ (hup v 0 (.nil hv)) ?_ hup)
   rcases cJ (prd names ed v) dp v with ⟨e',_⟩ | ⟨p,hp,e',h0,_⟩
   ·rw [e'];exact ⟨v,.nil hv⟩
   ·rw [e']
    refine fc (hps p hp) λ e he e1 e2 e3=>?_
    refine ai ((h.ent e he).2.1) λ x hx=>?_
    refine ⟨x,?_⟩
    show Wk names ed x v (cIn dp p.1 + p.2)
    rw [e2]
    rw [← e1] at e3
    exact hx.snoc D e3
 ·rcases List.mem_append.mp he with he | he
  ·refine fc (h.ch e he) λ r g1 g2 g3 g4=>?_
   exact (dT r (g1.mono hsub) (by rw [List.length_append];exact Nat.le_succ_of_le g2) g3 g4)
  ·rw [List.mem_singleton] at he
   subst he
   rcases cJ (prd names ed v) dp v with ⟨e',_⟩ | ⟨p,hp,e',h0,_⟩
   ·refine (dT [] (.stop hlast (by rw [e'])) (by simp) ?_ trivial)
    rw [e'];rfl
   ·refine fc (hps p hp) λ e he e1 e2 e3=>?_
    refine fc (h.ch e he) λ r g1 g2 g3 g4=>?_
    have hne:p.1≠v:=λ q=>by
     have:=(D.edge e3).2.2
     rw [q] at this
     exact Nat.lt_irrefl _ this
    refine (dT (e.1 :: r) (.next hlast (by rw [e'];exact hne) ?_) ?_ ?_ ?_)
    ·have e5:(cF (prd names ed v) dp v).2 = e.1:=by rw [e',e1]
     show ChainP _ (cF (prd names ed v) dp v).2 _
     rw [e5]
     exact g1.mono hsub
    ·rw [List.length_append]
     show (e.1 :: r).length + 1≤dp.length + 1
     walk_at "r"
    ·rw [e',List.reverse_cons,List.reverse_cons,jm,← List.reverse_cons,g3]
     show e.2.1 + gJ names ed e.1 v = cIn dp p.1 + p.2
     unfold gJ
     rw [e2,e1,e3];rfl
    ·rw [List.reverse_cons,List.reverse_cons]
     refine kT (by rw [← List.reverse_cons];exact g4) ⟨D.pm.mem_iff.mp ?_,by rw [e1,e3];rfl⟩
     rw [e1];exact (D.edge e3).1
structure Topo (names:List Int) (ed:List EE) (order:List Int):Prop where
 nd:order.Nodup
 mem:∀ x,x∈order ↔ x∈names
 pre:∀ a v b,order = a++v :: b->∀ p w,bW names ed p v = some w->p∈a
theorem Dg.topo_names (D:Dg n bare names ed):Topo names ed names where
 nd:=D.nd
 mem:=λ x=>Iff.rfl
 pre:=λ a v b e p w h=>by
  refine bP (D.edge h) λ h1 h2 h3=>?_
  have hv:rk names v = a.length:=by
   have hnd:=D.nd
   rw [e] at hnd ⊢
   unfold rk
   have hva:v∉a:=by
    rw [List.nodup_append] at hnd
    exact λ q=>hnd.2.2 v q v (.head _) rfl
   rw [List.idxOf_append,if_neg hva]
   simp
  rw [hv] at h3
  have hp:=qh h1
  unfold nmA at hp
  rw [List.getD_eq_getElem?_getD] at hp
  generalize hr:rk names p = i at *
  rw [e,List.getElem?_append_left h3] at hp
  rw [List.getElem?_eq_getElem h3] at hp
  have:a[i] = p:=hp
  rw [← this]
  exact List.getElem_mem h3
theorem Dg.dpath (D:Dg n bare names ed) {order:List Int} (T:Topo names ed order):∀ (rest:List Int) (dp:List (Int×Int×Int)),dp.map (·.1)++rest = order->DpI n names ed dp->∃ dpF,DPath (prd names ed) dp rest dpF∧DpI n names ed dpF∧dpF.map (·.1) = order
 | [],dp,e,h=>(bl dp .nil h (by rw [List.append_nil] at e;exact e))
 | v :: rest,dp,e,h=>by
  have hpre:=T.pre _ _ _ e.symm
  have hnew:∀ e'∈dp,e'.1≠v:=by
   intro e' he q
   have hnd:=T.nd
   rw [← e,List.nodup_append] at hnd
   exact hnd.2.2 v (List.mem_map.mpr (ad e' he q)) v (.head _) rfl
  have hv:v∈names:=(T.mem v).mp (by rw [← e];exact List.mem_append_right _ (.head _))
  have hpr:∀ p w,bW names ed p v = some w->∃ e∈dp,e.1 = p:=λ p w hw=>List.mem_map.mp (hpre p w hw)
  have h2:=D.dp_step h hv hnew hpr
  refine aU (D.dpath T rest (dp++[(v,cF (prd names ed v) dp v)]) (by rw [List.map_append,List.append_assoc];exact e) h2) λ dpF g1 g2 g3=>?_
  refine (bl dpF (.cons (λ p hp=>?_) hnew g1) g2 g3)
  exact hpr p.1 p.2 (D.prd_mem.mp hp)
theorem Dg.run (D:Dg n bare names ed) {order:List Int} (T:Topo names ed order) (a:GA) (e0:Nat) (eS eP:Int->Nat):∃ p b,RunOk ⟨a,e0,eS,eP,bv n,dE names ed,bR names ed⟩ (gJ names ed) order p∧Best names ed b∧WayP names ed b p.reverse ∧
  Nbr (λ x y=>x∈bv n∧(bW names ed x y).isSome) p.reverse∧iI (gJ names ed) p.reverse = b:=by
 refine aU (D.dpath T order [] rfl ⟨List.nodup_nil,λ e he=>(by cases he),λ e he=>(by cases he)⟩) λ dpF h1 h2 h3=>?_
 have hlen:order.length = n:=by
  have hp:order.Perm names:=(List.perm_ext_iff_of_nodup T.nd D.nd).mpr T.mem
  rw [hp.length_eq,D.len]
 have hdl:dpF.length = n:=by rw [← hlen,← h3,List.length_map]
 have hn1:=D.n1
 have hn6:=D.n6
 cases hd:dpF with
 | nil=>rw [hd] at hdl;simp at hdl;walk_at "r"
 | cons t0 ts=>
  have hm:=ct (λ e:Int×Int×Int=>e.2.1) ts t0
  have hg:=cA (λ e:Int×Int×Int=>e.2.1) ts t0
  rw [← hd] at hm hg
  refine fc (h2.ch _ hm) λ r g1 g2 g3 g4=>?_
  refine bP (h2.ent _ hm) λ k1 k2 k3=>?_
  have hB:Best names ed (ba (λ e:Int×Int×Int=>e.2.1) t0 ts).2.1:=by
   refine ⟨let ⟨x,hx⟩:=k2;(c8 x _ hx),λ x z c hc=>?_⟩
   have hz:=(T.mem z).mpr (hc.dst D)
   rw [← h3] at hz
   refine ac (List.mem_map.mp hz) λ e he zh1=>?_;obtain rfl:=zh1
   have h5:=(h2.ent e he).2.2 x c hc
   have h6:e.2.1≤(ba (λ e:Int×Int×Int=>e.2.1) t0 ts).2.1:=hg e he
   walk_at "r"
  refine (dK ((ba (λ e:Int×Int×Int=>e.2.1) t0 ts).1 :: r) _ ⟨λ x hx=>D.pm.mem_iff.mp ((T.mem x).mp hx),by walk_at "r",(eE dpF t0 ts h1 hd h2.nd (by walk_at "r") g1),by walk_at "r"⟩ hB ⟨λ p hp=>(j3 g4 p hp).2,by rw [kK];exact g3,by simp,by rw [List.length_reverse];walk_at "r"⟩ (aJ g4 g3))
end
theorem aX {kvs:List (Int×Value)} {k k':Int} {v:Value} (h:k'≠k):valueAt (stored kvs k v) k' = valueAt kvs k':=by
 unfold stored
 split
 ·unfold valueAt
  induction kvs with
  | nil=>rfl
  | cons x r ih=>
   rename_i hany
   rw [List.map_cons,List.find?_cons,List.find?_cons]
   by_cases hx:x.1 = k
   ·have h1:decide (x.1 = k') = false:=by simpa using λ q=>h (q.symm.trans hx)
    simp only [hx,if_true,decide_eq_true_eq]
    have h2:decide (k = k') = false:=by simpa using Ne.symm h
    rw [h2]
    clear ih
    induction r with
    | nil=>rfl
    | cons y r ih2=>
     rw [List.map_cons,List.find?_cons,List.find?_cons]
     by_cases hy:y.1 = k
     ·simp only [hy,if_true,h2]
      exact ih2 (by simp [hx])
     ·simp only [hy,if_false]
      by_cases hy':y.1 = k'
      ·simp [hy']
      ·simp only [hy',decide_false]
       exact ih2 (by simp [hx])
   ·simp only [hx,if_false]
    by_cases hx':x.1 = k'
    ·simp [hx']
    ·simp only [hx',decide_false]
     have:r.any (λ kv=>kv.1 = k) = true:=by simpa [hx] using hany
     exact ih this
 ·unfold valueAt
  rw [List.find?_append]
  cases hf:kvs.find? (λ kv=>decide (kv.1 = k')) with
  | some x=>rfl
  | none=>
   have:decide (k = k') = false:=by simpa using Ne.symm h
   simp [this]
theorem bw {kvs:List (Int×Value)} {k k':Int} (h:k'≠k):valueAt (without kvs k) k' = valueAt kvs k':=by
 unfold without valueAt
 induction kvs with
 | nil=>rfl
 | cons x r ih=>
  rw [List.filter_cons,List.find?_cons]
  by_cases hx:x.1 = k
  ·have h1:decide (x.1 = k') = false:=by simpa using λ q=>h (q.symm.trans hx)
   rw [if_neg (by simpa using hx),h1]
   exact ih
  ·rw [if_pos (by simpa using hx),List.find?_cons]
   by_cases hx':x.1 = k'
   ·simp [hx']
   ·simp only [hx',decide_false]
    exact ih
theorem gh {kvs:List (Int×Value)} {k:Int}:valueAt (without kvs k) k = none:=by
 unfold without valueAt
 rw [Option.map_eq_none_iff,List.find?_eq_none]
 intro x hx
 simpa using (List.mem_filter.mp hx).2
section
variable {n:Nat} {bare:Int} {names:List Int} {ed:List EE}
noncomputable def pn (names:List Int) (ed:List EE) (x:Int):List Int:=(bR names ed x).map (·.1)
noncomputable def sn (names:List Int) (ed:List EE) (v:Int):List Int:=(dE names ed v).map (·.1)
theorem Dg.pn_mem (D:Dg n bare names ed) {x p:Int}:p∈pn names ed x ↔ ∃ w,bW names ed p x = some w:=by
 constructor
 ·intro h
  refine ac (List.mem_map.mp h) λ q hq zh1=>?_;obtain rfl:=zh1
  exact ⟨_,D.prd_mem.mp (List.mem_map.mpr (ad q hq rfl))⟩
 ·intro zr;refine ai zr λ w hw=>?_;clear zr
  refine ac (List.mem_map.mp (D.prd_mem.mpr hw)) λ q hq e=>?_
  exact List.mem_map.mpr (ad q hq ((Prod.mk.inj e).1))
theorem Dg.pn_nd (D:Dg n bare names ed) {x:Int} (hx:x∈names):(pn names ed x).Nodup :=
 (l6 (a:=⟨0,0,0,0,0,0,λ _=>0,λ _=>0,λ _=>0⟩) (e0:=0) (eS:=λ _=>0) (eP:=λ _=>0) (o:=cS ed) D.ok D.nd D.len λ p hp=>hp).nd x (D.pm.mem_iff.mp hx)
theorem Dg.sn_mem (D:Dg n bare names ed) {v c:Int}:c∈sn names ed v ↔ ∃ w,bW names ed v c = some w:=by
 constructor
 ·intro h
  refine ac (List.mem_map.mp h) λ q hq zh1=>?_;obtain rfl:=zh1
  refine ac (List.mem_map.mp hq) λ e he zh1=>?_;obtain rfl:=zh1
  refine ae (List.mem_filter.mp he) λ he hv=>?_
  have hv:nmA names e.i = v:=by simpa using hv
  exact ⟨e.c,by rw [← hv];exact eJ D.ok D.nd D.len he⟩
 ·intro zr;refine ai zr λ w hw=>?_;clear zr
  refine fc (l9 hw) λ e he zh1 zh2 zh3=>?_;obtain rfl:=zh1;obtain rfl:=zh2;obtain rfl:=zh3
  exact List.mem_map.mpr (ad (nmA names e.j,.ref e.D) (List.mem_map.mpr (ad e (List.mem_filter.mpr ⟨he,by simp⟩) rfl)) rfl)
theorem Dg.sn_nd (D:Dg n bare names ed) (v:Int):(sn names ed v).Nodup:=by
 unfold sn dE
 rw [List.map_map]
 have h1:(ed.filter λ e=>nmA names e.i == v).map ((λ p:Int×Value=>p.1) ∘ λ e:EE=>(nmA names e.j,Value.ref e.D)) = (ed.filter λ e=>nmA names e.i == v).map λ e=>nmA names e.j:=rfl
 rw [h1]
 have hl:=D.len
 have key:∀ l:List EE,(∀ e∈l,e∈ed)->(l.map λ e=>(e.i,e.j)).Nodup->(∀ e∈l,nmA names e.i = v)->(l.map λ e=>nmA names e.j).Nodup:=by
  intro l
  induction l with
  | nil=>intro _ _ _;exact List.nodup_nil
  | cons e r ih=>
   intro h1 h2 h3
   rw [List.map_cons,List.nodup_cons] at h2 ⊢
   refine ⟨λ hm=>?_,ih (λ e he=>h1 e (.tail _ he)) h2.2 (λ e he=>h3 e (.tail _ he))⟩
   refine ac (List.mem_map.mp hm) λ y hy ey=>?_
   have g1:=D.ok.ij e (h1 e (.head _))
   have g2:=D.ok.ij y (h1 y (.tail _ hy))
   have i1:=cL D.nd (by walk_at "r") (by walk_at "r") ey
   have i2:=cL D.nd (by walk_at "r") (by walk_at "r") ((h3 y (.tail _ hy)).trans (h3 e (.head _)).symm)
   exact h2.1 (List.mem_map.mpr (ad y hy (by rw [i1,i2])))
 exact key _ (λ e he=>(List.mem_filter.mp he).1) (D.ok.nd.sublist (List.Sublist.map _ List.filter_sublist)) λ e he=>by simpa using (List.mem_filter.mp he).2
noncomputable def cnt (names:List Int) (ed:List EE) (dn:List (Int×Int)) (x:Int):Nat:=((pn names ed x).filter λ p=>!dn.contains (p,x)).length
structure KI (names:List Int) (ed:List EE) (dn:List (Int×Int)) (rd:List Int) (ind:List (Int×Value)):Prop where
 rdy:∀ x∈names,x∈rd->cnt names ed dn x = 0∧valueAt ind x = none
 wait:∀ x∈names,x∉rd->0 < cnt names ed dn x∧valueAt ind x = some (.int (cnt names ed dn x) 0)
 keys:∀ x,valueAt ind x≠none->x∈names
 nd:rd.Nodup
 sub:∀ x∈rd,x∈names
theorem ez {dn:List (Int×Int)} {v c x:Int} (h:x≠c):cnt names ed (dn++[(v,c)]) x = cnt names ed dn x:=by
 unfold cnt
 congr 1
 refine List.filter_congr λ p _=>?_
 congr 1
 rw [Bool.eq_iff_iff,List.contains_iff_mem,List.contains_iff_mem,List.mem_append]
 constructor
 ·rintro (h1 | h1)
  ·exact h1
  ·rw [List.mem_singleton] at h1
   exact absurd (Prod.mk.inj h1).2 h
 ·exact .inl
theorem Dg.cnt_self (D:Dg n bare names ed) {dn:List (Int×Int)} {v c w:Int} (h:bW names ed v c = some w) (hn:(v,c)∉dn):cnt names ed (dn++[(v,c)]) c + 1 = cnt names ed dn c:=by
 unfold cnt
 have hm:=D.pn_mem.mpr ⟨w,h⟩
 have hnd:=D.pn_nd (D.edge h).2.1
 revert hm hnd
 generalize pn names ed c = l
 intro hm hnd
 induction l with
 | nil=>cases hm
 | cons p r ih=>
  rw [List.nodup_cons] at hnd
  rw [List.filter_cons,List.filter_cons]
  by_cases hp:p = v
  ·subst hp
   have h1:(!(dn++[(p,c)]).contains (p,c)) = false:=by simp
   have h2:(!dn.contains (p,c)) = true:=by simpa using hn
   rw [h1,h2]
   simp only [Bool.false_eq_true,if_false,if_true,List.length_cons]
   congr 2
   refine List.filter_congr λ q hq=>?_
   congr 1
   rw [Bool.eq_iff_iff,List.contains_iff_mem,List.contains_iff_mem,List.mem_append]
   constructor
   ·rintro (h3 | h3)
    ·exact h3
    ·rw [List.mem_singleton] at h3
     exact absurd ((Prod.mk.inj h3).1▸hq) hnd.1
   ·exact .inl
  ·have hm':v∈r:=by
    rcases List.mem_cons.mp hm with q | q
    ·exact absurd q.symm hp
    ·exact q
   have h1:(!(dn++[(v,c)]).contains (p,c)) = !dn.contains (p,c):=by
    congr 1
    rw [Bool.eq_iff_iff,List.contains_iff_mem,List.contains_iff_mem,List.mem_append]
    constructor
    ·rintro (h3 | h3)
     ·exact h3
     ·rw [List.mem_singleton] at h3
      exact absurd (Prod.mk.inj h3).1 hp
    ·exact .inl
   rw [h1]
   have:=ih hm' hnd.2
   split
   ·simp only [List.length_cons];walk_at "r"
   ·exact this
theorem Dg.cnt_done (D:Dg n bare names ed) {dn:List (Int×Int)} {x:Int} (h:cnt names ed dn x = 0) {p w:Int} (e:bW names ed p x = some w):(p,x)∈dn:=by
 unfold cnt at h
 have h1:=List.eq_nil_of_length_eq_zero h
 rw [List.filter_eq_nil_iff] at h1
 have:=h1 p (D.pn_mem.mpr ⟨w,e⟩)
 simpa using this
noncomputable def Pre (names:List Int) (ed:List EE) (rd:List Int):Prop:=∀ a v b,rd = a++v :: b->∀ p w,bW names ed p v = some w->p∈a
theorem Pre.snoc {rd:List Int} {c:Int} (h:Pre names ed rd) (hc:∀ p w,bW names ed p c = some w->p∈rd):Pre names ed (rd++[c]):=by
 intro a v b e p w hw
 rcases List.append_eq_append_iff.mp e with ⟨a',rfl,h2⟩ | ⟨b',rfl,h2⟩
 ·cases a' with
  | nil=>
   rw [List.nil_append] at h2
   refine ae (List.cons.inj h2) λ zh1 _=>?_;obtain rfl:=zh1
   rw [List.append_nil]
   exact hc p w hw
  | cons y t=>
   have:=(List.cons.inj h2).2
   have h3:t++v :: b = []:=this.symm
   simp at h3
 ·cases b' with
  | nil=>
   rw [List.nil_append] at h2
   refine ae (List.cons.inj h2) λ zh1 _=>?_;obtain rfl:=zh1
   have:=hc p w hw
   rw [List.append_nil] at this
   exact this
  | cons y t=>
   refine ae (List.cons.inj h2) λ zh1 h3=>?_;obtain rfl:=zh1
   exact h a v t rfl p w hw
theorem Dg.kids (D:Dg n bare names ed) {v:Int}:∀ (cs:List Int) (dn:List (Int×Int)) (rd z:List Int) (ind:List (Int×Value)),(∀ c∈cs,(∃ w,bW names ed v c = some w)∧(v,c)∉dn)->cs.Nodup->KI names ed dn rd ind->Pre names ed rd->(∀ p x,(p,x)∈dn->p∈rd)->v∈rd ->
  ∃ ind' new,Kids ind z cs ind' (z++new)∧KI names ed (dn++cs.map λ c=>(v,c)) (rd++new) ind'∧Pre names ed (rd++new)
 | [],dn,rd,z,ind,_,_,h,hp,_,_=>(bc ind [] (by rw [List.append_nil];exact .nil) (by rw [List.map_nil,List.append_nil,List.append_nil];exact h) (by rw [List.append_nil];exact hp))
 | c :: cs,dn,rd,z,ind,hcs,hnd,h,hp,hdn,hv=>by
  refine ae (hcs c (.head _)) λ zh1 hnc=>?_;refine ai zh1 λ w hw=>?_;clear zh1
  rw [List.nodup_cons] at hnd
  have hc:=(D.edge hw).2.1
  have h1:=D.cnt_self hw hnc
  have hcr:c∉rd:=λ q=>by have:=(h.rdy c hc q).1;walk_at "r"
  refine ae (h.wait c hc hcr) λ h2 h3=>?_
  have hcs':∀ c'∈cs,(∃ w,bW names ed v c' = some w)∧(v,c')∉dn++[(v,c)]:=λ c' hc'=>by
   refine ae (hcs c' (.tail _ hc')) λ g1 g2=>?_
   refine ⟨g1,λ q=>?_⟩
   rcases List.mem_append.mp q with q | q
   ·exact g2 q
   ·rw [List.mem_singleton] at q
    exact hnd.1 ((Prod.mk.inj q).2▸hc')
  have hdn':∀ p x,(p,x)∈dn++[(v,c)]->p∈rd:=λ p x q=>by
   rcases List.mem_append.mp q with q | q
   ·exact hdn p x q
   ·rw [List.mem_singleton] at q
    rw [(Prod.mk.inj q).1];exact hv
  have hmap:dn++(c :: cs).map (λ c=>(v,c)) = (dn++[(v,c)])++cs.map λ c=>(v,c):=by rw [List.map_cons,List.append_assoc];rfl
  by_cases hone:cnt names ed dn c = 1
  ·have hz:cnt names ed (dn++[(v,c)]) c = 0:=by walk_at "r"
   have hI:KI names ed (dn++[(v,c)]) (rd++[c]) (without (stored ind c (.int 0 0)) c):=by
    refine ⟨λ x hx hxr=>?_,λ x hx hxr=>?_,λ x hx=>?_,?_,λ x hx=>?_⟩
    ·by_cases hxc:x = c
     ·subst hxc;exact ⟨hz,gh⟩
     ·have hxr':x∈rd:=by
       rcases List.mem_append.mp hxr with q | q
       ·exact q
       ·exact absurd (List.mem_singleton.mp q) hxc
      rw [ez hxc,bw hxc,aX hxc]
      exact h.rdy x hx hxr'
    ·have hxc:x≠c:=λ q=>hxr (q▸List.mem_append_right _ (.head _))
     rw [ez hxc,bw hxc,aX hxc]
     exact h.wait x hx λ q=>hxr (List.mem_append_left _ q)
    ·by_cases hxc:x = c
     ·subst hxc;exact hc
     ·rw [bw hxc,aX hxc] at hx
      exact h.keys x hx
    ·rw [List.nodup_append]
     exact (aQ h.nd (by simp) (λ a ha b hb q=>hcr (by rw [List.mem_singleton] at hb;subst hb;exact q▸ha)))
    ·rcases List.mem_append.mp hx with q | q
     ·exact h.sub x q
     ·rw [List.mem_singleton] at q;subst q;exact hc
   have hP:=hp.snoc (c:=c) λ p w' hw'=>hdn' p c (D.cnt_done hz hw')
   refine aV (D.kids cs (dn++[(v,c)]) (rd++[c]) (z++[c]) _ hcs' hnd.2 hI hP (λ p x q=>List.mem_append_left _ (hdn' p x q)) (List.mem_append_left _ hv)) λ ind' new k1 k2 k3=>?_
   refine (bc ind' (c :: new) (.zero (by rw [h3,hone];rfl) ?_) ?_ ?_)
   ·have:z++c :: new = z++[c]++new:=by rw [List.append_assoc];rfl
    rw [this];exact k1
   ·rw [hmap]
    have:rd++c :: new = rd++[c]++new:=by rw [List.append_assoc];rfl
    rw [this];exact k2
   ·have:rd++c :: new = rd++[c]++new:=by rw [List.append_assoc];rfl
    rw [this];exact k3
  ·have hI:KI names ed (dn++[(v,c)]) rd (stored ind c (.int ((cnt names ed dn c:Int) - 1) 0)):=by
    refine ⟨λ x hx hxr=>?_,λ x hx hxr=>?_,λ x hx=>?_,h.nd,h.sub⟩
    ·have hxc:x≠c:=λ q=>hcr (q▸hxr)
     rw [ez hxc,aX hxc]
     exact h.rdy x hx hxr
    ·by_cases hxc:x = c
     ·subst hxc
      refine ⟨by walk_at "r",?_⟩
      rw [bq]
      congr 2
      walk_at "r"
     ·rw [ez hxc,aX hxc]
      exact h.wait x hx hxr
    ·by_cases hxc:x = c
     ·subst hxc;exact hc
     ·rw [aX hxc] at hx
      exact h.keys x hx
   refine aV (D.kids cs (dn++[(v,c)]) rd z _ hcs' hnd.2 hI hp hdn' hv) λ ind' new k1 k2 k3=>?_
   refine (bc ind' new (.more h3 (by walk_at "r") k1) ?_ k3)
   rw [hmap];exact k2
noncomputable def nk (names:List Int) (ed:List EE) (dn:List (Int×Int)) (pr:List Int):Prop:=∀ p x,(p,x)∈dn ↔ p∈pr∧∃ w,bW names ed p x = some w
theorem Dg.nods (D:Dg n bare names ed):∀ (zs:List Int) (dn:List (Int×Int)) (pr rd z:List Int) (ind:List (Int×Value)),KI names ed dn rd ind->Pre names ed rd->nk names ed dn pr->(∀ x∈pr,x∈rd)->(∀ v∈zs,v∈rd∧v∉pr)->zs.Nodup ->
  ∃ dn' ind' new,Nods (dE names ed) (bv n) ind z zs ind' (z++new)∧KI names ed dn' (rd++new) ind'∧Pre names ed (rd++new)∧nk names ed dn' (pr++zs)
 | [],dn,pr,rd,z,ind,h,hp,hw,_,_,_=>(dW dn ind [] (by rw [List.append_nil];exact .nil) (by rw [List.append_nil];exact h) (by rw [List.append_nil];exact hp) (by rw [List.append_nil];exact hw))
 | v :: zs,dn,pr,rd,z,ind,h,hp,hw,hpr,hzs,hnd=>by
  refine ae (hzs v (.head _)) λ hv hvp=>?_
  rw [List.nodup_cons] at hnd
  refine aV (D.kids (v:=v) (sn names ed v) dn rd z ind (λ c hc=>⟨D.sn_mem.mp hc,λ q=>hvp ((hw v c).mp q).1⟩) (D.sn_nd v) h hp (λ p x q=>hpr p ((hw p x).mp q).1) hv) λ ind1 new1 k1 k2 k3=>?_
  have hW:nk names ed (dn++(sn names ed v).map λ c=>(v,c)) (pr++[v]):=by
   intro p x
   rw [List.mem_append,List.mem_append]
   constructor
   ·rintro (q | q)
    ·exact ⟨.inl ((hw p x).mp q).1,((hw p x).mp q).2⟩
    ·refine ac (List.mem_map.mp q) λ c hc e=>?_
     refine ae (Prod.mk.inj e) λ zh1 zh2=>?_;obtain rfl:=zh1;obtain rfl:=zh2
     exact ⟨.inr (.head _),D.sn_mem.mp hc⟩
   ·intro zr;refine ae zr λ zh1 e=>?_;clear zr;obtain (q | q):=zh1
    ·exact .inl ((hw p x).mpr ⟨q,e⟩)
    ·rw [List.mem_singleton] at q
     subst q
     exact .inr (List.mem_map.mpr (ad x (D.sn_mem.mpr e) rfl))
  obtain ⟨dn',ind',new,m1,m2,m3,m4⟩:=D.nods zs _ (pr++[v]) (rd++new1) (z++new1) ind1 k2 k3 hW (λ x hx=>by
   rcases List.mem_append.mp hx with q | q
   ·exact List.mem_append_left _ (hpr x q)
   ·rw [List.mem_singleton] at q;subst q;exact List.mem_append_left _ hv) (λ y hy=>by
   refine ae (hzs y (.tail _ hy)) λ g1 g2=>?_
   refine ⟨List.mem_append_left _ g1,λ q=>?_⟩
   rcases List.mem_append.mp q with q | q
   ·exact g2 q
   ·rw [List.mem_singleton] at q;subst q;exact hnd.1 hy) hnd.2
  rw [List.append_assoc] at m1 m2 m3
  refine (dW dn' ind' (new1++new) (.cons (D.pm.mem_iff.mp (h.sub v hv)) k1 ?_) m2 m3 ?_)
  ·exact m1
  ·rw [List.append_assoc] at m4;exact m4
theorem Dg.all_ready (D:Dg n bare names ed) {dn:List (Int×Int)} {rd:List Int} {ind:List (Int×Value)} (h:KI names ed dn rd ind) (hw:nk names ed dn rd):∀ (k:Nat) (x:Int),rk names x = k->x∈names->x∈rd:=by
 intro k
 induction k using Nat.strongRecOn with
 | ind k ih=>
  intro x hk hx
  by_cases hxr:x∈rd
  ·exact hxr
  ·have h1:=(h.wait x hx hxr).1
   unfold cnt at h1
   refine bj λ GZ hGZ=>?_
   refine ai (List.exists_mem_of_length_pos h1) λ p hp=>?_
   refine ae (List.mem_filter.mp hp) λ hp1 hp2=>?_
   refine ai (D.pn_mem.mp hp1) λ w e=>?_
   refine hGZ ?_
   have hlt:=(D.edge e).2.2
   have hpr:=ih (rk names p) (by walk_at "r") p rfl (D.edge e).1
   have:=(hw p x).mpr (aJ hpr (c5 w e))
   simp at hp2
   exact absurd this hp2
theorem iX:∀ (l r:List Int),l.Nodup->(∀ x∈l,x∈r)->l.length≤r.length
 | [],r,_,_=>Nat.zero_le _
 | x :: l,r,hn,hs=>by
  rw [List.nodup_cons] at hn
  have hx:=hs x (.head _)
  have h1:=iX l (r.erase x) hn.2 λ y hy=>(List.mem_erase_of_ne (by rintro rfl;exact hn.1 hy)).mpr (hs y (.tail _ hy))
  rw [List.length_erase_of_mem hx] at h1
  have:=List.length_pos_of_mem hx
  rw [List.length_cons]
  walk_at "r"
theorem Dg.rounds (D:Dg n bare names ed):∀ (fuel:Nat) (dn:List (Int×Int)) (pr z:List Int) (ind:List (Int×Value)),n - pr.length≤fuel->KI names ed dn (pr++z) ind->Pre names ed (pr++z)->nk names ed dn pr ->
  ∃ gs,Kahn (dE names ed) (bv n) ind z gs∧Topo names ed (pr++gs.flatten)
 | fuel,dn,pr,[],ind,hf,h,hp,hw=>by
  rw [List.append_nil] at h hp
  have hall:=λ x hx=>D.all_ready h hw _ x rfl hx
  have hind:ind = []:=by
   cases ind with
   | nil=>rfl
   | cons q r=>
    have h1:valueAt (q :: r) q.1≠none:=by unfold valueAt;simp
    have hx:=h.keys q.1 h1
    exact absurd (h.rdy q.1 hx (hall q.1 hx)).2 h1
  subst hind
  refine (ad [] .done ?_)
  show Topo names ed (pr++[])
  rw [List.append_nil]
  exact ⟨h.nd,λ x=>⟨h.sub x,hall x⟩,hp⟩
 | 0,dn,pr,v :: z,ind,hf,h,hp,hw=>by
  have h1:(pr++v :: z).length≤names.length:=by
   exact iX _ _ h.nd h.sub
  rw [D.len,List.length_append,List.length_cons] at h1
  walk_at "r"
 | fuel + 1,dn,pr,v :: z,ind,hf,h,hp,hw=>by
  have hnd:=h.nd
  rw [List.nodup_append] at hnd
  refine dq (D.nods (v :: z) dn pr (pr++v :: z) [] ind h hp hw (λ x hx=>List.mem_append_left _ hx) (λ y hy=>⟨List.mem_append_right _ hy,λ q=>hnd.2.2 y q y hy rfl⟩) hnd.2.1) λ dn' ind' new m1 m2 m3 m4=>?_
  refine ac (D.rounds fuel dn' (pr++v :: z) new ind' (by rw [List.length_append,List.length_cons];walk_at "r") m2 m3 m4) λ gs g1 g2=>?_
  refine (ad ((v :: z) :: gs) (.step (by simp) m1 g1) ?_)
  rw [List.flatten_cons,← List.append_assoc]
  exact g2
theorem Dg.kahn (D:Dg n bare names ed):∃ gs,Kahn (dE names ed) (bv n) (((bv n).filter λ x=>decide (0 < (bR names ed x).length)).map λ x=>(x,.int (bR names ed x).length 0)) ((bv n).filter λ x=>(bR names ed x).length == 0) gs∧Topo names ed gs.flatten:=by
 have hc:∀ x,cnt names ed [] x = (bR names ed x).length:=by
  intro x
  unfold cnt pn
  rw [List.filter_eq_self.mpr (λ p _=>by rfl),List.length_map]
 have hv:∀ x,valueAt (((bv n).filter λ x=>decide (0 < (bR names ed x).length)).map λ x=>(x,Value.int (bR names ed x).length 0)) x = if x∈(bv n).filter (λ x=>decide (0 < (bR names ed x).length)) then some (.int (bR names ed x).length 0) else none:=λ x=>a8 _ (λ x=>Value.int (bR names ed x).length 0) x
 have h:=D.rounds n [] [] ((bv n).filter λ x=>(bR names ed x).length == 0) (((bv n).filter λ x=>decide (0 < (bR names ed x).length)).map λ x=>(x,.int (bR names ed x).length 0)) (by simp) ?_ ?_ ?_
 ·exact h
 ·refine ⟨λ x hx hr=>?_,λ x hx hr=>?_,λ x hx=>?_,?_,λ x hx=>?_⟩
  ·refine ae (List.mem_filter.mp hr) λ h1 h2=>?_
   have h3:(bR names ed x).length = 0:=by simpa using h2
   refine ⟨by rw [hc,h3],?_⟩
   rw [hv,if_neg]
   intro q
   have:=(List.mem_filter.mp q).2
   rw [h3] at this
   simp at this
  ·have hxu:=D.pm.mem_iff.mp hx
   have h3:0 < (bR names ed x).length:=by
    rcases Nat.eq_zero_or_pos (bR names ed x).length with q | q
    ·exact absurd (List.mem_filter.mpr ⟨hxu,by simpa using q⟩) hr
    ·exact q
   refine ⟨by rw [hc];exact h3,?_⟩
   rw [hv,if_pos (List.mem_filter.mpr ⟨hxu,by simpa using h3⟩),hc]
  ·rw [hv] at hx
   split at hx
   ·rename_i q
    exact D.pm.mem_iff.mpr (List.mem_filter.mp q).1
   ·exact absurd rfl hx
  ·exact (cG n).sublist List.filter_sublist
  ·exact D.pm.mem_iff.mpr (List.mem_filter.mp hx).1
 ·intro a v b e p w hw
  have hvm:v∈(bv n).filter λ x=>(bR names ed x).length == 0:=by
   show v∈[]++_
   rw [e];exact List.mem_append_right _ (.head _)
  have h3:(bR names ed v).length = 0:=by simpa using (List.mem_filter.mp hvm).2
  have h4:=D.pn_mem.mpr ⟨w,hw⟩
  unfold pn at h4
  rw [List.eq_nil_of_length_eq_zero h3] at h4
  cases h4
 ·intro p x
  exact Iff.intro (λ q=>absurd q List.not_mem_nil) (λ q=>absurd q.1 List.not_mem_nil)
theorem nF:ik:=by
 intro n bare names ed a e0 eS eP h1 h6 hp hed hl
 have D:Dg n bare names ed:=⟨h1,h6,hp,hed⟩
 refine bj λ GZ hGZ=>?_
 refine ac D.kahn λ gs hK hT=>?_
 refine iC (D.run hT a e0 eS eP) λ p1 b1 r1 B1 w1 n1 s1=>?_
 refine iC (D.run D.topo_names a e0 eS eP) λ p2 b2 r2 B2 w2 n2 s2=>?_
 refine hGZ ?_
 have:=B1.uniq B2
 subst this
 exact ⟨b1,gs,p1,p2,StkI n names ed,wgt names n,hK,r1,r2,w1,w2,n1,s1,λ stk c v b h=>D.step h,λ stk b h=>Nat.le_trans (ml stk) (Nat.le_trans h.size (by decide)),D.init,λ b h=>h.best.uniq B1⟩
end
section
open PySem PySem.W PySem.Spec PySem.Calls PyProof.Rows
theorem n5 {prog:Program} {w:World} {t:Sem Fin} {s:Shared} {R:Result->Shared->Prop} (hreg:s.asleep)
  (h:wpF (model prog w) callerA t (λ fin s'=>∃ f,fin = .done f∧(R (.ok f) s'∧AllBare s'.gens)) (λ e s'=>R (.error e) s'∧AllBare s'.gens) s) :
  ∃ n r s' s'',runN (denote table) prog w n s ⟨t,.builtin "claim.caller" {},default,[]⟩ = .halted (outcomeOf r) s' ∧
   schedN (denote table) prog w n (.single s ⟨t,.builtin "claim.caller" {},default,[]⟩) = .halted (outcomeOf r) s'∧s'.forget = s''.forget∧R r s'':=by
 have hw:=h _ default caller_in ⟨rfl,λ x hx=>by cases hx⟩
 obtain ⟨n,r,s1,s2,hs,hn,hfo,hR⟩:=wp_halts_full (M:=model prog w) (R:=R) hreg (Sem.wp_mono _ _ t (λ fin p' s' h'=>by
  refine aU h' λ f zh1 hf hb=>?_;clear h';obtain rfl:=zh1
  exact (⟨hf,leftWithCleanup_false_of_bare hb⟩:R (.ok f) s'∧leftWithCleanup s'.gens = false)) (λ e p' s' h'=>(⟨h'.1,leftWithCleanup_false_of_bare h'.2⟩:R (.error e) s'∧leftWithCleanup s'.gens = false)) default s hw)
 exact (dO n r s2 s1 hn (aQ hs hfo hR))
theorem lw {c:ClaimW} {tree:List Value->Sem Fin} {w:World} {s:Shared} {free:Addr->Prop} {gens:Prop} {kept:Heap->Prop} (hz:s.asleep) (hgens:s.gens = #[])
  (hspec:∀ args,c.pre args = true->WData.layableAll args = true->∀ ord:List DictEntry->List DictEntry,(∀ l,(ord l).Perm l) ->
   ∃ vs s1,layAllW c.records (classAt s.heap) w.params ord args s = some (vs,s1) ∧
    wpF (model c.prog w) callerA (tree vs) (λ fin s'=>∃ f,fin = .done f∧(c.Ends s args vs s1 (.ok f) s'∧s'.os = s.os∧kept s'.heap)∧AllBare s'.gens)
     (λ e s'=>(c.Ends s args vs s1 (.error e) s'∧s'.os = s.os∧kept s'.heap)∧AllBare s'.gens) s1) :
  c.CallFrom (λ vs=>⟨tree vs,.builtin "claim.caller" {},default,[]⟩) w free gens kept s:=λ args hpre hlay ord hord=>by
 refine bj λ G3 hG=>?_
 refine bC (hspec args hpre hlay ord hord) λ vs s1 hlaid hcode=>?_
 have hal:=layAllW_rest _ _ _ hlaid
 refine bj λ GZ hGZ=>?_
 refine cx (n5 (R:=λ r s'=>c.Ends s args vs s1 r s'∧s'.os = s.os∧kept s'.heap) (Shared.asleep_of_life hal.2.2.2 hz) hcode) λ k r s' s'' hrun hsched hfo hends zk0=>?_;refine ae zk0 λ hos hkp=>?_;clear zk0
 refine fu (Shared.forget_eq hfo) λ eh zz zz eo zz=>?_
 refine hGZ ?_
 have hends:=hends.congr eh
 rw [← eh] at hkp
 rw [← eo] at hos
 have hlife:s'.heap.life = s.heap.life:=(runN_life _ _ _ hrun).trans hal.2.2.2
 refine hG (br vs s1 hlaid (eN k _ s' hsched ?_ (λ _ i x hx=>by rw [hgens] at hx;simp at hx) hkp (by rw [hlife]) (Shared.rest_eq hos)))
 clear hsched hrun hfo hcode hkp hos hlife
 rcases hends with ⟨v,rfl,d1,d2,d3,d4,d5⟩ | ⟨e,ob,cls,rfl,d1,d2,d3,d4,d5⟩
 ·exact .inl (dT v rfl d1 d2 (aQ d3 (λ b o y _=>d4 b o y) d5))
 ·exact .inr (eN e ob cls rfl d1 d2 d3 d4 (λ b o y _=>d5 b o y))
noncomputable abbrev rb (q:Program) (dz:List Str) (XP:(Str->Option Value)->Heap->Prop) (YP:World->Heap->Prop) (r:RowW) (d:DefRec) (kwd:List (Str×Expr)):Prop :=
 ∀ (w:World) (s0 s1:Shared) (mg mb:Str->Option Value),Ground q dz r.records XP w s0 mg mb s1.heap->YP w s1.heap->∀ (a:Addr) (o:Obj) (pm cd doc dV kV:Value),s1.heap.get? a = some o ->
  o.data = .func { docDef d.name d.params d.body d.scope pm cd doc with defaults:=dV,kwdefaults:=kV }->s1.heap.CodeRec cd d.name->Dflts mg s1.heap d.params kwd dV kV->mg d.name = some (.ref a)->s1.gens = #[] ->
  ∀ (args:List WData) (vals:List Value) (as:List Addr),Laid r.records w s0 s1 args vals as->YP w s0.heap->r.claim.pre args = true->WData.layableAll args = true->ReadsAllW r.records (classAt s0.heap) s1.heap vals args as->WellAll w.params s1.heap vals args->(∀ a∈as,(a == sysModules) = false) ->
   wpF (model r.prog w) callerA (PySem.call (.ref a) vals) (λ v s'=>GoodWG r.claim (classAt s0.heap) (ExcName.means s0.heap) args s1 (.ok (.ret v)) s')
    (λ e s'=>GoodWG r.claim (classAt s0.heap) (ExcName.means s0.heap) args s1 (.error e) s') s1
theorem pW {r:OpenRow} {q:Program} {dz:List Str} {Xt:Shared->Bool} {XP:(Str->Option Value)->Heap->Prop} {α:Type} {Yf:Shared->α} {Ya:World->α} {YP:World->Heap->Prop} {d:DefRec} {kwd:List (Str×Expr)} {N:Nat}
  (left:LeftO r.prog q dz Xt Yf Ya N) (hY:∀ w s,Yf s = Ya w->YP w s.heap) (hYk:∀ w h h',YP w h->(∀ b o,h.get? b = some o->h'.get? b = some o)->YP w h')
  (hX:∀ s,Xt s = true->XP (s.heap.nsMap mainGlobals) s.heap) (hXk:∀ mg h h',XP mg h->(∀ b o,h.get? b = some o->h'.get? b = some o)->XP mg h')
  (hdef:defOf q r.name = some (d,kwd)) (hp:r.prog.theDef r.name = some (d.params,d.body,d.scope)) (hk:kwWritten? d.params.kwonlyargs d.params.kw_defaults = some kwd) (hRf:∀ s,Xt s = true->RecFacts r.records s.heap) (hwr:(!r.writes || r.records.isEmpty) = true)
  (k1:r.wellSaid = true) (ok:(chainsOk q && opensWell r.prog && (frees r.toRowW && r.within.isEmpty)) = true) (hb:r.prog.bare) (hw:r.toRowW.promised)
  (call:rb q dz XP YP r.toRowW d kwd):r.Holds:=by
 refine (aQ k1 hw ?_)
 refine bj λ GZ hGZ=>?_
 refine ae (Bool.and_eq_true_iff.mp ok) λ ok k5=>?_
 refine ae (Bool.and_eq_true_iff.mp ok) λ hch o1=>?_
 refine ae (Bool.and_eq_true_iff.mp k5) λ k5 k6=>?_
 refine fu (frees_parts k5) λ hsame hu ha hap hm=>?_
 refine hGZ ?_
 refine (aQ (aQ hb o1 (by show r.toRowW.makers.map _ = [];rw [hm];rfl)) hw.witness (λ w=>⟨(left.behind hX hch w).1,λ s' hs'=>?_⟩))
 refine bj λ G1 hG1=>?_
 refine bj λ GZ hGZ=>?_
 refine aU ((left.behind (XP:=λ mg h=>XP mg h∧RecFacts r.records h) (λ s hs=>⟨hX s hs,hRf s hs⟩) hch w).2 s' hs') λ s0 hf hg0 zh1=>?_;refine fc zh1 λ s hT hz hgens zk0=>?_;refine bP zk0 λ hg G00 y=>?_;clear zk0;clear zh1
 refine hGZ ?_
 have G0:Ground q dz [] XP w s (s.heap.nsMap mainGlobals) (s.heap.nsMap builtinsNs) s.heap:=⟨G00.T,G00.B,G00.D,G00.TE,G00.TD,G00.W,G00.X.1,G00.cls,G00.has,G00.apart,G00.once,G00.K⟩
 have RF:=G00.X.2
 refine hG1 (bl s0 hf hg0 (dT s hT ?_ RF.1 (aJ RF.2.1 ?_)))
 ·intro n hn
  obtain rfl:n = r.name:=by split at hn <;> simp_all
  exact pinned_of_view hg G0 hdef hp hk
 have hgens:s.gens = #[]:=Array.eq_empty_of_size_eq_zero (beq_iff_eq.mp hgens)
 have G:Ground q dz r.records XP w s _ _ s.heap:=RF.ground G0
 refine lw (c:=r.toRowW.claim) hz hgens λ args hpre hlay ord hord=>?_
 refine bj λ G3 hG=>?_
 refine ai (Option.isSome_iff_exists.mp (layAllW_isSome (P:=w.params) (ord:=ord) G.has args r.args s (pre_splitW hpre).1)) λ zh1 hlaid=>?_;obtain ⟨vs,s1⟩:=zh1
 have keeps:=layAllW_keeps _ _ _ hlaid
 have hal:=layAllW_rest _ _ _ hlaid
 refine aU (reads_layAllW hord _ _ _ hlaid hlay s1.heap (λ _ _ e=>e)) λ as hrd hin hold=>?_
 have L:Laid r.records w s s1 args vs as:=⟨(ad ord hord hlaid),hrd,hin,hold,keeps,hal.1.trans hgens,hal.2.2.1⟩
 have G₁:=G.keeps hXk keeps
 refine cw (G₁.fn hdef) λ a o pm zk0=>?_;refine cx zk0 λ cd doc dV kV h1 h2 h3 h4 h5=>?_;clear zk0
 have h:=call w s s1 _ _ G₁ (hYk _ _ _ (hY w s y) keeps) a o pm cd doc dV kV h2 h3 h4 h5 (defOf_name hdef▸h1) L.gens args vs as L (hY w s y) hpre hlay L.reads L.well (L.low G.low)
 have hi:=ident_freeW hu ha hap
 have hwi:r.toRowW.claim.within = []:=List.isEmpty_iff.mp k6
 refine hG (br vs s1 hlaid ?_)
 refine aj (wpAny_nsGet G₁.T.g ?_)
 rw [h1]
 refine aI (aL h (λ v s' g=>?_) λ e s' g=>?_)
 ·refine aN (ad _ rfl ?_)
  have z:=g.laid (c:=r.toRowW.claim) hsame hwi hi L
  exact ⟨(aQ z.1 z.2.1 (λ q=>⟨namesKept_of hT hg _ keeps g.2.1.old,noTable hwr q⟩)),z.2.2⟩
 ·have z:=g.laid (c:=r.toRowW.claim) hsame hwi hi L
  exact ⟨(aQ z.1 z.2.1 (λ q=>⟨namesKept_of hT hg _ keeps g.2.1.old,noTable hwr q⟩)),z.2.2⟩
end
end
set_option maxHeartbeats 0
section
open PySem PySem.W PySem.Calls PyProof.Rows
namespace Z0
noncomputable def mgp:Nat->Frag->Frag->Frag
 | 0,_,_=>[]
 | _+1,[],[]=>[]
 | f+1,[],(b,p)::k=>(b,p) :: mgp f [] k
 | f+1,(a,o)::k,[]=>(a,o) :: mgp f k []
 | f+1,(a,o)::k,(b,p)::l=>bif Nat.ble a b then (a,o) :: mgp f k ((b,p)::l) else (b,p) :: mgp f ((a,o)::k) l
noncomputable def q:Program:=view pw [34]
noncomputable def dz:List Str:=["_wall","NetworkXException","NetworkXError","NetworkXAlgorithmError","NetworkXUnfeasible","topological_generations","topological_sort","DegreeView","InDegreeView","pairwise","dag_longest_path","dag_longest_path_length","AtlasView","AdjacencyView","_nbunch_iter","NodeView","DiDegreeView","OutEdgeDataView","EdgeDataView","OutEdgeView","EdgeView","_NOT_FOUND","cached_property","Graph","DiGraph"]
noncomputable abbrev row:=PySem.Challenge.rw_bf0026_01.row
noncomputable def Y:Hook:=kmHook K as (λ _=>by kernel_rfl) [149,185,373,99,93,963]
noncomputable abbrev Xt (s:Shared):Bool:=xlAt q [] s && recOk (RowW.records row.toRowW) s
theorem opn:∀ w:World,(fencedOpening treeTable pw w 30000).map (λ s=>(s.heap,s.gens,s.drawn,s.toks)) = some (boot_heap w.params,.mk [],boot_drawn,boot_toks) :=
 boot_open (by kernel_rfl) (by kernel_rfl) (λ s=>by kernel_rfl)
theorem size (w:World):((boot_heap w.params).isNs mainGlobals && (Array.mk []:Array GenState).size == 0,(boot_heap w.params).objs.size,(boot_heap w.params).nsMap mainGlobals "__annotations__") = (true,11,some (.ref 6)):=by kernel_rfl
theorem lk1 (w:World):(λ os:OsState=>(staticsOk (importedModules pw.main.body) (boot_heap w.params) (H1 w.params) && namesBound pw (H1 w.params) && gensDone ⟨H1 w.params,.mk [],⟨0,0,0,0⟩,1618,os⟩ && laidKept (boot_heap w.params) (H1 w.params))) = λ _=>true:=by
 rw [Fast.te5923862056798008813];kernel_rfl
theorem lk2 (w:World):(λ os:OsState=>openSeen q dz (importedModules pw.main.body) Xt true ⟨H1 w.params,.mk [],⟨0,0,0,0⟩,1618,os⟩) = λ _=>openGood q dz:=by
 rw [Fast.te5923862056798008813,Fast.te4187177175401517315];kernel_rfl
theorem je:∀ (f:Nat) (k l:Frag),mg f k l = (mgp f k l).map (·.2)
 | 0,_,_=>rfl
 | _+1,[],[]=>rfl
 | f+1,[],(_,_)::k=>congrArg (_ :: ·) (je f [] k)
 | f+1,(_,_)::k,[]=>congrArg (_ :: ·) (je f k [])
 | f+1,(a,o)::k,(b,p)::l=>by
  show (bif Nat.ble a b then o :: mg f k ((b,p)::l) else p :: mg f ((a,o)::k) l) = (bif Nat.ble a b then (a,o) :: mgp f k ((b,p)::l) else (b,p) :: mgp f ((a,o)::k) l).map (·.2)
  cases Nat.ble a b
  ·exact congrArg (_ :: ·) (je f _ l)
  ·exact congrArg (_ :: ·) (je f k _)
theorem kL:∀ (f:Nat) (k l:Frag),k.length + l.length≤f->∀ p∈k,p∈mgp f k l
 | 0,k,l,h,p,hp=>by
  cases k with
  | nil=>cases hp
  | cons a k=>simp at h
 | f+1,[],_,_,p,hp=>by cases hp
 | f+1,(a,o)::k,[],h,p,hp=>by
  rcases List.mem_cons.mp hp with rfl | hp
  ·exact .head _
  ·exact .tail _ (kL f k [] (by simp at h ⊢;omega) p hp)
 | f+1,(a,o)::k,(b,q)::l,h,p,hp=>by
  show p∈(bif Nat.ble a b then (a,o) :: mgp f k ((b,q)::l) else (b,q) :: mgp f ((a,o)::k) l)
  simp only [List.length_cons] at h
  cases Nat.ble a b
  ·exact .tail _ (kL f _ l (by simp only [List.length_cons];omega) p hp)
  ·rcases List.mem_cons.mp hp with rfl | hp
   ·exact .head _
   ·exact .tail _ (kL f k _ (by simp only [List.length_cons];omega) p hp)
noncomputable def sa (p:Nat×Obj):Bool:=match p.2 with
 | ⟨_,_,.freed,_⟩=>false
 | _=>true
theorem qF (P:Params):(mgp 967 (K P) (R P)).map (·.1) = List.range 967:=by kernel_rfl
theorem ri (P:Params):(K P).length + (R P).length≤967:=Nat.le_of_ble_eq_true (by kernel_rfl)
theorem qT (P:Params):(K P).all sa = true:=by kernel_rfl
theorem rM (P:Params) {a:Nat} {o:Obj} (h:(a,o)∈K P):(H1 P).get? a = some o:=by
 have h1:=kL 967 _ _ (ri P) _ h
 refine ai (List.getElem_of_mem h1) λ i zh1=>?_;refine ai zh1 λ hi e=>?_;clear zh1
 have h2:((mgp 967 (K P) (R P)).map (·.1))[i]'(by rw [List.length_map];exact hi) = a:=by rw [List.getElem_map,e]
 have h3:i = a:=by
  have:((mgp 967 (K P) (R P)).map (·.1))[i]? = some a:=by rw [List.getElem?_eq_getElem (by rw [List.length_map];exact hi),h2]
  rw [qF,List.getElem?_range (by have:=congrArg List.length (qF P);rw [List.length_map,List.length_range] at this;omega)] at this
  exact Option.some.inj this
 subst h3
 have h4:(H1 P).objs[i]? = some o:=by
  show (Array.mk (L P))[i]? = some o
  rw [List.getElem?_toArray]
  show (mg 967 (K P) (R P))[i]? = some o
  rw [je,List.getElem?_map,List.getElem?_eq_getElem hi,e];rfl
 have h5:=List.all_eq_true.mp (qT P) _ h
 unfold Heap.get?
 rw [h4]
 obtain ⟨c,d,dt,sl⟩:=o
 cases dt <;> first | rfl | cases h5
theorem rz (P:Params):as = (K P).map (·.1):=by kernel_rfl
theorem sb (P:Params):as.map (H1 P).get? = (K P).map λ p=>some p.2:=by
 rw [rz P,List.map_map]
 exact List.map_congr_left λ p hp=>rM P hp
theorem se (P:Params):([149,185,373,99,93,963]:List Nat).map (H1 P).get? = ([149,185,373,99,93,963]:List Nat).map λ _=>some (tabObj #[]):=by kernel_rfl
theorem lk3 (w:World):(λ os:OsState=>Y.obs ⟨H1 w.params,.mk [],⟨0,0,0,0⟩,1618,os⟩) = λ _=>Y.val w:=funext λ os=>Prod.ext (sb w.params) (se w.params)
theorem left:LeftO row.prog q dz Xt Y.obs Y.val 30000 :=
 LeftO.of_pieces opn size run (by kernel_rfl) (λ w=>funext λ os=>Prod.ext (congrFun (lk1 w) os) (Prod.ext (congrFun (lk2 w) os) (congrFun (lk3 w) os)))
theorem rx:(R.filterR (Fast.tw13343964577679436407 (Fast.tw2368527892694137696 PySem.Challenge.rw_bf0026_01).prog (Fast.tw2368527892694137696 PySem.Challenge.rw_bf0026_01).prog.main.body) [⟨⟨[118,97,114,115]⟩⟩,⟨⟨[100,105,114]⟩⟩,⟨⟨[108,111,99,97,108,115]⟩⟩]) = []:=by kernel_rfl
theorem rV:OpenLaw.wellSaid PySem.Challenge.rw_bf0026_01 = true:=by
 rw [Fast.te9446332074065402090]
 delta Fast.tw9446332074065402090 Fast.tw17960256430627541270 Fast.tw2436336058641802641 Fast.tw12908688711261696721
 rw [rx];kernel_rfl
theorem ni:(defOf q row.name).isSome = true:=by kernel_rfl
noncomputable def dk:=(defOf q row.name).get ni
theorem hd (c:rb q dz (XL q []) Y.says row.toRowW dk.1 dk.2):PySem.Challenge.rw_bf0026_01.Holds :=
 holds_law rV λ rV=>pW (r:=row) left Y.of Y.keeps (λ s e=>xl_of s (Bool.and_eq_true_iff.mp e).1) XL.keeps (show defOf q row.name = some (dk.1,dk.2) from (Option.some_get (ni)).symm) (by kernel_rfl) (by kernel_rfl) (λ s e=>recFacts_of (Bool.and_eq_true_iff.mp e).2) (by kernel_rfl) rV (by kernel_rfl) (gu rfl rfl rfl rfl (aJ rfl (by decide +kernel))) (ad [.list []] (by decide +kernel) (by decide +kernel)) c
end Z0
end
section
variable {w:World} {A:Around} {env:Env} {K:Frag}
variable {B:Heap} {g:List (Nat×GenState)} {os:OsState} {σ:List (Addr×AObj)} {E:Value->Shared->Prop} {s:Shared} {f:AObj->List (Addr×AObj)} {mg mb:Str->Option Value} {Q:Value->Shared->Prop}
set_option maxHeartbeats 4000000
section
open PySem PySem.W PySem.W.X PyProof.Rows
noncomputable def pG (h:Heap) (a:Addr):Heap:=h.update a λ o=>{ o with data:=.freed }
theorem gp (h:Heap) (a:Addr):(pG h a).get? a = none:=by
 unfold pG Heap.get?
 cases h with
 | mk objs life=>
 show (match (objs.modify a _)[a]? with | some ⟨_,_,.freed,_⟩=>none | o=>o) = none
 rw [Array.getElem?_modify,if_pos rfl]
 cases objs[a]? <;> rfl
theorem jD (h:Heap) {a b:Addr} (hb:b≠a):(pG h a).get? b = h.get? b:=by
 unfold pG
 exact Heap.get?_update_ne _ _ _ _ hb
noncomputable def iw (h:Heap):Heap:=pG (pG (pG h 149) 93) 963
theorem b8 (h:Heap) (b:Addr):(iw h).get? b = if b = 149∨b = 93∨b = 963 then none else h.get? b:=by
 unfold iw
 by_cases h3:b = 963
 ·subst h3;rw [gp];rfl
 rw [jD _ h3]
 by_cases h2:b = 93
 ·subst h2;rw [gp];rfl
 rw [jD _ h2]
 by_cases h1:b = 149
 ·subst h1;rw [gp];rfl
 rw [jD _ h1,if_neg (by rintro (q | q | q) <;> contradiction)]
theorem lg (h:Heap) (b:Addr) (o:Obj) (e:(iw h).get? b = some o):h.get? b = some o:=by
 rw [b8] at e
 split at e
 ·cases e
 ·exact e
theorem fH (h:Heap) {b:Addr} {o:Obj} (e:h.get? b = some o) (h1:b≠149) (h2:b≠93) (h3:b≠963):(iw h).get? b = some o:=by
 rw [b8,if_neg (by rintro (q | q | q) <;> contradiction)];exact e
noncomputable def kJ (K:Frag):Bool:=match K.lookup mainGlobals with
 | some ⟨_,_,.dict es _,_⟩=>(gList.all λ p=>nsFind es p.1 == some p.2) && (bList.all λ p=>nsFind es p.1 == none) && nsFind es "law" == some (.ref 966)
 | _=>false
noncomputable def pe (K:Frag):Bool:=match K.lookup cStatics with
 | some ⟨_,_,.dict es _,_⟩=>nsFind es "_thread.count" == none
 | _=>false
noncomputable def hA (K:Frag):Bool:=(K.lookup 149).isNone && (K.lookup 93).isNone && (K.lookup 963).isNone && (K.lookup cStatics).isSome
theorem pR (P:Params):kJ (Z0.K P) = true:=by kernel_rfl
theorem rB (P:Params):pe (Z0.K P) = true:=by kernel_rfl
theorem ig (P:Params):hA (Z0.K P) = true:=by kernel_rfl
theorem qJ:(bList.all λ p=>bootBuiltins p.1 == some p.2) = true:=by kernel_rfl
theorem im {h:Heap} {a:Addr} {m:Str->Option Value} (x:h.Ns a m) (h1:a≠149) (h2:a≠93) (h3:a≠963):(iw h).Ns a m :=
 let ⟨o,es,ep,e,r⟩:=x;(cc o es ep (fH h e h1 h2 h3) r)
theorem nK {K:Frag} {h:Heap} {a:Addr} {m:Str->Option Value} {oc od es ep osl} (X:K.In h) (e:K.lookup a = some ⟨oc,od,.dict es ep,osl⟩) (x:h.Ns a m) (k:Str):nsFind es k = m k:=by
 refine dq x λ o es' ep' ho hd _ hf=>?_;clear x
 have h2:=X _ _ e
 rw [h2] at ho
 cases ho
 cases hd
 exact hf k
theorem ny {K:Frag} {h:Heap} (X:K.In h) (k:hA K = true):K.In (iw h):=by
 intro a o e
 unfold hA at k
 simp only [Bool.and_eq_true,Option.isNone_iff_eq_none] at k
 refine ae k λ zh1 _=>?_;clear k;refine ae zh1 λ zh2 k3=>?_;clear zh1;refine ae zh2 λ k1 k2=>?_;clear zh2
 refine fH h (X a o e) ?_ ?_ ?_
 ·rintro rfl;rw [k1] at e;cases e
 ·rintro rfl;rw [k2] at e;cases e
 ·rintro rfl;rw [k3] at e;cases e
theorem qv {p:Program} {dz:List Str} {mean:ExcName->Option Value} {w:World} {h:Heap} {mg mb:Str->Option Value} (T:Top p dz mean mg mb h) (X:(Z0.K w.params).In h) (tabs:∀ P∈[149,93,963],h.get? P = some (tabObj #[])):TX w (iw h) mg mb where
 X:=ny X (ig _)
 lim:=let ⟨mc,h1,h2⟩:=T.nolimit;(ad mc (im h1 (by decide) (by decide) (by decide)) h2)
 g:=im T.g (by decide) (by decide) (by decide)
 b:=im T.b (by decide) (by decide) (by decide)
 nb:=λ q hq=>by
  have k:=pR w.params
  unfold kJ at k
  split at k
  ·rename_i oc od es ep osl e
   simp only [Bool.and_eq_true,List.all_eq_true,beq_iff_eq] at k
   refine ⟨by rw [← nK X e T.g];exact k.1.2 q hq,?_⟩
   rw [T.builtins _ (by
    have:∀ q∈bList,q.1≠("__name__":Str):=by decide
    exact this q hq)]
   have hb:=qJ
   simp only [List.all_eq_true,beq_iff_eq] at hb
   exact hb q hq
  ·cases k
 ng:=λ q hq=>by
  have k:=pR w.params
  unfold kJ at k
  split at k
  ·rename_i oc od es ep osl e
   simp only [Bool.and_eq_true,List.all_eq_true,beq_iff_eq] at k
   rw [← nK X e T.g];exact k.1.1 q hq
  ·cases k
 th:=by
  refine ac T.nodigits λ mc h1 h2=>?_
  refine (ad mc (im h1 (by decide) (by decide) (by decide)) ?_)
  have k:=rB w.params
  unfold pe at k
  split at k
  ·rename_i oc od es ep osl e
   rw [← nK X e h1];exact beq_iff_eq.mp k
  ·cases k
 bm:=by
  refine iC T.bmain λ bm ob b1 b2 b3 b4 zk0=>?_;refine ae zk0 λ b5 b6=>?_;clear zk0
  have hne:∀ P∈[149,93,963],bm≠P:=by
   rintro P hP rfl
   rw [tabs bm hP] at b3
   cases b3
   cases b6
  refine (dK bm ob b1 b2 ?_ (aQ (fH h b3 (hne _ (by simp)) (hne _ (by simp)) (hne _ (by simp))) b4 (aJ b5 b6)))
  rintro rfl
  refine kY T.g λ o es ep ho hd _=>?_
  rw [b3] at ho
  cases ho
  rw [b6] at hd;cases hd
theorem qI {p:Program} {dz:List Str} {mean:ExcName->Option Value} {w:World} {h:Heap} {mg mb:Str->Option Value} (T:Top p dz mean mg mb h) (X:(Z0.K w.params).In h):mg "law" = some (.ref 966):=by
 have k:=pR w.params
 unfold kJ at k
 split at k
 ·rename_i oc od es ep osl e
  simp only [Bool.and_eq_true,beq_iff_eq] at k
  rw [← nK X e T.g];exact k.2
 ·cases k
theorem ru (P:Params):(bI (Z0.K P) 153 149 && bI (Z0.K P) 95 93 && bI (Z0.K P) 965 963) = true:=by kernel_rfl
theorem jx {K:Frag} {c P:Addr} {h:Heap} (X:K.In h) (e:bI K c P = true):isCodeTable h P:=by
 refine cw (ee X e) λ o vs file zk0=>?_;refine iM zk0 λ tf flags tg inF text tt e1 e2 e3 e4 _=>?_;clear zk0
 exact (dW c o vs e1 e2 e3 e4)
theorem nG:Rm callerA 10 43:=⟨rfl,by decide +kernel,by decide +kernel⟩
theorem lr (PA:ik) {p:Program} {dz:List Str} {mean:ExcName->Option Value} {w:World} {s1:Shared} {mg mb:Str->Option Value} {S:Addr} {sc:List Int} {E:Value->Shared->Prop}
  (T:Top p dz mean mg mb s1.heap) (X:(Z0.K w.params).In s1.heap) (tabs:∀ P∈[149,93,963],s1.heap.get? P = some (tabObj #[])) (hg:s1.gens = #[]) (hl:sc.length≤100)
  (hS:BList s1.heap S (af sc))
  (h:∀ s',OldK s1.heap s'.heap->s'.os = s1.os->AllBare s'.gens->Q (.bool true) s'):wpF (model prog w) callerA (call (.ref 966) [.ref S]) Q E s1:=by
 have TT:=qv T X tabs
 have XB:=ny X (ig w.params)
 have hSne:∀ P∈[149,93,963],S≠P:=by
  rintro P hP rfl
  refine ac hS λ items zh1 _=>?_;clear hS;refine ai zh1 λ n hl=>?_;clear zh1
  rw [tabs S hP] at hl
  cases hl
 have hSB:BList (iw s1.heap) S (af sc):=by
  refine ac hS λ items zh1 e=>?_;clear hS;refine ai zh1 λ n hl=>?_;clear zh1
  exact (ad items ⟨n,fH _ hl (hSne _ (by simp)) (hSne _ (by simp)) (hSne _ (by simp))⟩ e)
 have H:W prog w (iw s1.heap) [] s1.os (an 963 h8 []++(an 93 qL []++[(149,bg)])) s1:=by
  refine ⟨lg _,?_,?_,?_,⟨λ p hp=>(by cases hp),List.nodup_nil,λ x hx=>(by rw [hg] at hx;simp at hx)⟩,rfl,?_⟩
  ·intro q hq
   simp only [an,List.map_nil,List.cons_append,List.nil_append,List.mem_cons,List.not_mem_nil,or_false] at hq
   rcases hq with rfl | rfl | rfl
   ·exact tabs _ (by simp)
   ·exact tabs _ (by simp)
   ·exact (ad _ (tabs _ (by simp)) (ad (#[]) rfl trivial))
  ·intro q hq
   simp only [an,List.map_nil,List.cons_append,List.nil_append,List.mem_cons,List.not_mem_nil,or_false] at hq
   rcases hq with rfl | rfl | rfl
   ·exact ⟨by rw [b8];simp,by decide⟩
   ·exact ⟨by rw [b8];simp,by decide⟩
   ·exact ⟨by rw [b8];simp,by decide⟩
  ·show [963,93,149].Nodup
   decide
  ·have k:=ig w.params
   unfold hA at k
   simp only [Bool.and_eq_true] at k
   refine ai (Option.isSome_iff_exists.mp k.2) λ o ho=>?_
   exact ⟨o,XB _ _ ho⟩
 refine eA (ii (args:=⟨[.ref S],[]⟩) (d:=9) (u:=40) (fd:=(jq w.params).1) (body:=(fq w.params).1) (bd:=λ _=>[("script",.ref S)]) (kl:=λ _=>[]) (cl:=λ D L=>pK S (frM (jq w.params).1 [("script",.ref S)] L 966) L) H nG XB TT.lim ⟨(jq w.params).2,by kernel_rfl,(fq w.params).2⟩ (aR rfl) rfl (λ D L=>rfl) ?_ ?_ ?_)
 ·intro E' D L s2 H₂ R₂
  refine nU PA TT R₂ hl hSB H₂ λ σ g s' es es' H' h93 h149 h963=>?_
  have kc:=ru w.params
  simp only [Bool.and_eq_true] at kc
  refine h s' ⟨λ b o e=>?_,λ b o e=>?_⟩ H'.eos H'.gens.bare
  ·by_cases hb:b = 149∨b = 93∨b = 963
   ·refine .inr (.inl ?_)
    rcases hb with rfl | rfl | rfl
    ·rw [tabs _ (by simp)] at e
     cases e
     refine ac (H'.get h149) λ _ ho zh1=>?_;refine ac zh1 λ ps zh2 _=>?_;clear zh1;obtain rfl:=zh2
     exact (aQ (jx X kc.1.1) rfl (br (#[]) ps rfl (by rw [ho];simp [tabObj])))
    ·rw [tabs _ (by simp)] at e
     cases e
     have ho:=H'.get h93
     exact (aQ (jx X kc.1.2) rfl (br (#[]) ((iV es).toArray) rfl (by rw [show s'.heap.get? 93 = _ from ho];simp [tabObj])))
    ·rw [tabs _ (by simp)] at e
     cases e
     have ho:=H'.get h963
     exact (aQ (jx X kc.2) rfl (br (#[]) ((iV es').toArray) rfl (by rw [show s'.heap.get? 963 = _ from ho];simp [tabObj])))
   ·exact .inl (H'.keep _ _ (by rw [b8,if_neg hb];exact e))
  ·by_cases hb:b = 149∨b = 93∨b = 963
   ·rcases hb with rfl | rfl | rfl
    ·refine ac (H'.get h149) λ o' ho _=>?_
     exact ⟨o',ho⟩
    ·exact ⟨_,H'.get h93⟩
    ·exact ⟨_,H'.get h963⟩
   ·exact ⟨o,H'.keep _ _ (by rw [b8,if_neg hb];exact e)⟩
 ·intro D L x hx
  revert x
  exact List.forall_mem_cons.mpr ⟨.inr ⟨rfl,rfl⟩,λ x hx=>by cases hx⟩
 ·intro L
  show [("numbers":Str),"way","cost","v","table","script"].Nodup
  decide
end
set_option maxHeartbeats 8000000
section
open PySem PySem.W PySem.W.X PyProof.Rows
theorem pT:∀ {items:List Value} {ns:List Int},IntsAre items ns->items.map cv = af ns:=by
 intro items ns h
 induction h with
 | nil=>rfl
 | cons n t _ ih=>
  rw [List.map_cons,ih]
  rfl
theorem final:PySem.Challenge.rw_bf0026_01.Holds:=by
 refine Z0.hd ?_
 intro w s0 s1 mg mb G Y fa o pm cd doc dV kV ho hd' hcd hD hmg hg args vals as L Y0 hpre hlay hrd hwl hlo
 have X:=km_in_of Y
 have hfa:fa = 966:=by
  have h1:=qI G.T X
  have h2:mg "law" = some (.ref fa):=hmg
  rw [h1] at h2
  cases h2;rfl
 subst hfa
 clear ho hd' hcd hD hmg
 wrow_args hpre hlay hrd hwl hlo
 rename_i ns hs hlay0 hL1 hr1 hl2 as1 as2 a items as3 hL ra w1 r0 hI hr hc ht
 have tabs:=km_tabs_of Y
 have hob:=script_obj L hL
 refine lr nF (S:=a) (sc:=ns) G.T X (λ P hP=>tabs P (by
  revert hP;revert P;decide)) hg (by omega) (ad items.toArray ⟨0,hob⟩ (pT hI)) λ s' h1 h2 h3=>?_
 refine (aQ (.inl (eE (.bool true) (.bool true) [] rfl (λ _=>rfl) (.bool true) ?_ (λ _=>⟨List.nodup_nil,by simp⟩))) h1 (aJ h2 h3))
 wrow_post
end
end
end Mine
theorem PySem.Challenge.cw_bf0026_01_holds : PySem.Challenge.rw_bf0026_01.Holds := by
  exact Mine.final
