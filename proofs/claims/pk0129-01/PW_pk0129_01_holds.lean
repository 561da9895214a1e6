import PyProof.Rows.All
import Wide.All
import OpenK.AllK
import Wide.FinOn
import KE.KNest
import PyProof.FactsAll.set_1
import Wide.Txt2
import KE.KSetDisp
import KE.KLam
import PyProof.NeKinds
import PyProof.FactsAll.list_2
import KE.KBoundM
import KE.KItemsList
import PyProof.FitsReplace
import KE.KIntText
import PyProof.SliceMore
import KE.KBits
import Open.Head
import Wide.Vals
import Wide.Well
import Wide.ObjOpen
import Lean
import PySem.Challenge.RW_pk0129_01
open PySem PySem.W PyProof.Rows
open PySem.Str (ofString)
set_option Elab.async false
set_option linter.all false
set_option maxRecDepth 100000
set_option genSizeOf false
set_option compiler.extract_closed false
namespace Mine
theorem bh {A0 A1:Prop} {P:Prop} (h:A0/\A1) (k:A0->A1->P):P:=by
 obtain ⟨a0,a1⟩:=h;exact k a0 a1
theorem qS {A0 A1 A2:Prop} {P:Prop} (h:A0/\A1/\A2) (k:A0->A1->A2->P):P:=by
 obtain ⟨a0,a1,a2⟩:=h;exact k a0 a1 a2
theorem mN {A0 A1 A2 A3:Prop} {P:Prop} (h:A0/\A1/\A2/\A3) (k:A0->A1->A2->A3->P):P:=by
 obtain ⟨a0,a1,a2,a3⟩:=h;exact k a0 a1 a2 a3
theorem B8 {A0 A1 A2 A3 A4 A5:Prop} {P:Prop} (h:A0/\A1/\A2/\A3/\A4/\A5) (k:A0->A1->A2->A3->A4->A5->P):P:=by
 obtain ⟨a0,a1,a2,a3,a4,a5⟩:=h;exact k a0 a1 a2 a3 a4 a5
theorem aH {α0:Sort _} {A0:α0->Prop} {P:Prop} (h:∃ x0,A0 x0) (k:∀ x0,A0 x0->P):P:=by
 obtain ⟨x0,a0⟩:=h;exact k x0 a0
theorem ap {α0:Sort _} {A0 A1:α0->Prop} {P:Prop} (h:∃ x0,A0 x0/\A1 x0) (k:∀ x0,A0 x0->A1 x0->P):P:=by
 obtain ⟨x0,a0,a1⟩:=h;exact k x0 a0 a1
theorem du {α0:Sort _} {A0 A1 A2:α0->Prop} {P:Prop} (h:∃ x0,A0 x0/\A1 x0/\A2 x0) (k:∀ x0,A0 x0->A1 x0->A2 x0->P):P:=by
 obtain ⟨x0,a0,a1,a2⟩:=h;exact k x0 a0 a1 a2
theorem y4 {α0:Sort _} {A0 A1 A2 A3:α0->Prop} {P:Prop} (h:∃ x0,A0 x0/\A1 x0/\A2 x0/\A3 x0) (k:∀ x0,A0 x0->A1 x0->A2 x0->A3 x0->P):P:=by
 obtain ⟨x0,a0,a1,a2,a3⟩:=h;exact k x0 a0 a1 a2 a3
theorem Cr {α0:Sort _} {A0 A1 A2 A3 A4:α0->Prop} {P:Prop} (h:∃ x0,A0 x0/\A1 x0/\A2 x0/\A3 x0/\A4 x0) (k:∀ x0,A0 x0->A1 x0->A2 x0->A3 x0->A4 x0->P):P:=by
 obtain ⟨x0,a0,a1,a2,a3,a4⟩:=h;exact k x0 a0 a1 a2 a3 a4
theorem i4 {α0:Sort _} {α1:Sort _} {A0:α0->α1->Prop} {P:Prop} (h:∃ x0 x1,A0 x0 x1) (k:∀ x0 x1,A0 x0 x1->P):P:=by
 obtain ⟨x0,x1,a0⟩:=h;exact k x0 x1 a0
theorem bb {α0:Sort _} {α1:Sort _} {A0 A1:α0->α1->Prop} {P:Prop} (h:∃ x0 x1,A0 x0 x1/\A1 x0 x1) (k:∀ x0 x1,A0 x0 x1->A1 x0 x1->P):P:=by
 obtain ⟨x0,x1,a0,a1⟩:=h;exact k x0 x1 a0 a1
theorem bl {α0:Sort _} {α1:Sort _} {A0 A1 A2:α0->α1->Prop} {P:Prop} (h:∃ x0 x1,A0 x0 x1/\A1 x0 x1/\A2 x0 x1) (k:∀ x0 x1,A0 x0 x1->A1 x0 x1->A2 x0 x1->P):P:=by
 obtain ⟨x0,x1,a0,a1,a2⟩:=h;exact k x0 x1 a0 a1 a2
theorem tZ {α0:Sort _} {α1:Sort _} {A0 A1 A2 A3:α0->α1->Prop} {P:Prop} (h:∃ x0 x1,A0 x0 x1/\A1 x0 x1/\A2 x0 x1/\A3 x0 x1) (k:∀ x0 x1,A0 x0 x1->A1 x0 x1->A2 x0 x1->A3 x0 x1->P):P:=by
 obtain ⟨x0,x1,a0,a1,a2,a3⟩:=h;exact k x0 x1 a0 a1 a2 a3
theorem xD {α0:Sort _} {α1:Sort _} {α2:Sort _} {A0:α0->α1->α2->Prop} {P:Prop} (h:∃ x0 x1 x2,A0 x0 x1 x2) (k:∀ x0 x1 x2,A0 x0 x1 x2->P):P:=by
 obtain ⟨x0,x1,x2,a0⟩:=h;exact k x0 x1 x2 a0
theorem md {α0:Sort _} {α1:Sort _} {α2:Sort _} {A0 A1:α0->α1->α2->Prop} {P:Prop} (h:∃ x0 x1 x2,A0 x0 x1 x2/\A1 x0 x1 x2) (k:∀ x0 x1 x2,A0 x0 x1 x2->A1 x0 x1 x2->P):P:=by
 obtain ⟨x0,x1,x2,a0,a1⟩:=h;exact k x0 x1 x2 a0 a1
theorem f9 {α0:Sort _} {α1:Sort _} {α2:Sort _} {A0 A1 A2:α0->α1->α2->Prop} {P:Prop} (h:∃ x0 x1 x2,A0 x0 x1 x2/\A1 x0 x1 x2/\A2 x0 x1 x2) (k:∀ x0 x1 x2,A0 x0 x1 x2->A1 x0 x1 x2->A2 x0 x1 x2->P):P:=by
 obtain ⟨x0,x1,x2,a0,a1,a2⟩:=h;exact k x0 x1 x2 a0 a1 a2
theorem qT {α0:Sort _} {α1:Sort _} {α2:Sort _} {A0 A1 A2 A3:α0->α1->α2->Prop} {P:Prop} (h:∃ x0 x1 x2,A0 x0 x1 x2/\A1 x0 x1 x2/\A2 x0 x1 x2/\A3 x0 x1 x2) (k:∀ x0 x1 x2,A0 x0 x1 x2->A1 x0 x1 x2->A2 x0 x1 x2->A3 x0 x1 x2->P):P:=by
 obtain ⟨x0,x1,x2,a0,a1,a2,a3⟩:=h;exact k x0 x1 x2 a0 a1 a2 a3
theorem Ba {α0:Sort _} {α1:Sort _} {α2:Sort _} {A0 A1 A2 A3 A4:α0->α1->α2->Prop} {P:Prop} (h:∃ x0 x1 x2,A0 x0 x1 x2/\A1 x0 x1 x2/\A2 x0 x1 x2/\A3 x0 x1 x2/\A4 x0 x1 x2) (k:∀ x0 x1 x2,A0 x0 x1 x2->A1 x0 x1 x2->A2 x0 x1 x2->A3 x0 x1 x2->A4 x0 x1 x2->P):P:=by
 obtain ⟨x0,x1,x2,a0,a1,a2,a3,a4⟩:=h;exact k x0 x1 x2 a0 a1 a2 a3 a4
theorem B9 {α0:Sort _} {α1:Sort _} {α2:Sort _} {α3:Sort _} {A0:α0->α1->α2->α3->Prop} {P:Prop} (h:∃ x0 x1 x2 x3,A0 x0 x1 x2 x3) (k:∀ x0 x1 x2 x3,A0 x0 x1 x2 x3->P):P:=by
 obtain ⟨x0,x1,x2,x3,a0⟩:=h;exact k x0 x1 x2 x3 a0
theorem Cs {α0:Sort _} {α1:Sort _} {α2:Sort _} {α3:Sort _} {A0 A1 A2:α0->α1->α2->α3->Prop} {P:Prop} (h:∃ x0 x1 x2 x3,A0 x0 x1 x2 x3/\A1 x0 x1 x2 x3/\A2 x0 x1 x2 x3) (k:∀ x0 x1 x2 x3,A0 x0 x1 x2 x3->A1 x0 x1 x2 x3->A2 x0 x1 x2 x3->P):P:=by
 obtain ⟨x0,x1,x2,x3,a0,a1,a2⟩:=h;exact k x0 x1 x2 x3 a0 a1 a2
theorem Bb {α0:Sort _} {α1:Sort _} {α2:Sort _} {α3:Sort _} {A0 A1 A2 A3:α0->α1->α2->α3->Prop} {P:Prop} (h:∃ x0 x1 x2 x3,A0 x0 x1 x2 x3/\A1 x0 x1 x2 x3/\A2 x0 x1 x2 x3/\A3 x0 x1 x2 x3) (k:∀ x0 x1 x2 x3,A0 x0 x1 x2 x3->A1 x0 x1 x2 x3->A2 x0 x1 x2 x3->A3 x0 x1 x2 x3->P):P:=by
 obtain ⟨x0,x1,x2,x3,a0,a1,a2,a3⟩:=h;exact k x0 x1 x2 x3 a0 a1 a2 a3
theorem zW {α0:Sort _} {α1:Sort _} {α2:Sort _} {α3:Sort _} {A0 A1 A2 A3 A4:α0->α1->α2->α3->Prop} {P:Prop} (h:∃ x0 x1 x2 x3,A0 x0 x1 x2 x3/\A1 x0 x1 x2 x3/\A2 x0 x1 x2 x3/\A3 x0 x1 x2 x3/\A4 x0 x1 x2 x3) (k:∀ x0 x1 x2 x3,A0 x0 x1 x2 x3->A1 x0 x1 x2 x3->A2 x0 x1 x2 x3->A3 x0 x1 x2 x3->A4 x0 x1 x2 x3->P):P:=by
 obtain ⟨x0,x1,x2,x3,a0,a1,a2,a3,a4⟩:=h;exact k x0 x1 x2 x3 a0 a1 a2 a3 a4
theorem Ct {α0:Sort _} {α1:Sort _} {α2:Sort _} {α3:Sort _} {A0 A1 A2 A3 A4 A5:α0->α1->α2->α3->Prop} {P:Prop} (h:∃ x0 x1 x2 x3,A0 x0 x1 x2 x3/\A1 x0 x1 x2 x3/\A2 x0 x1 x2 x3/\A3 x0 x1 x2 x3/\A4 x0 x1 x2 x3/\A5 x0 x1 x2 x3) (k:∀ x0 x1 x2 x3,A0 x0 x1 x2 x3->A1 x0 x1 x2 x3->A2 x0 x1 x2 x3->A3 x0 x1 x2 x3->A4 x0 x1 x2 x3->A5 x0 x1 x2 x3->P):P:=by
 obtain ⟨x0,x1,x2,x3,a0,a1,a2,a3,a4,a5⟩:=h;exact k x0 x1 x2 x3 a0 a1 a2 a3 a4 a5
theorem Cu {α0:Sort _} {α1:Sort _} {α2:Sort _} {α3:Sort _} {A0 A1 A2 A3 A4 A5 A6:α0->α1->α2->α3->Prop} {P:Prop} (h:∃ x0 x1 x2 x3,A0 x0 x1 x2 x3/\A1 x0 x1 x2 x3/\A2 x0 x1 x2 x3/\A3 x0 x1 x2 x3/\A4 x0 x1 x2 x3/\A5 x0 x1 x2 x3/\A6 x0 x1 x2 x3) (k:∀ x0 x1 x2 x3,A0 x0 x1 x2 x3->A1 x0 x1 x2 x3->A2 x0 x1 x2 x3->A3 x0 x1 x2 x3->A4 x0 x1 x2 x3->A5 x0 x1 x2 x3->A6 x0 x1 x2 x3->P):P:=by
 obtain ⟨x0,x1,x2,x3,a0,a1,a2,a3,a4,a5,a6⟩:=h;exact k x0 x1 x2 x3 a0 a1 a2 a3 a4 a5 a6
theorem Cv {α0:Sort _} {α1:Sort _} {α2:Sort _} {α3:Sort _} {A0 A1 A2 A3 A4 A5 A6 A7:α0->α1->α2->α3->Prop} {P:Prop} (h:∃ x0 x1 x2 x3,A0 x0 x1 x2 x3/\A1 x0 x1 x2 x3/\A2 x0 x1 x2 x3/\A3 x0 x1 x2 x3/\A4 x0 x1 x2 x3/\A5 x0 x1 x2 x3/\A6 x0 x1 x2 x3/\A7 x0 x1 x2 x3) (k:∀ x0 x1 x2 x3,A0 x0 x1 x2 x3->A1 x0 x1 x2 x3->A2 x0 x1 x2 x3->A3 x0 x1 x2 x3->A4 x0 x1 x2 x3->A5 x0 x1 x2 x3->A6 x0 x1 x2 x3->A7 x0 x1 x2 x3->P):P:=by
 obtain ⟨x0,x1,x2,x3,a0,a1,a2,a3,a4,a5,a6,a7⟩:=h;exact k x0 x1 x2 x3 a0 a1 a2 a3 a4 a5 a6 a7
theorem Cw {α0:Sort _} {α1:Sort _} {α2:Sort _} {α3:Sort _} {α4:Sort _} {A0 A1 A2:α0->α1->α2->α3->α4->Prop} {P:Prop} (h:∃ x0 x1 x2 x3 x4,A0 x0 x1 x2 x3 x4/\A1 x0 x1 x2 x3 x4/\A2 x0 x1 x2 x3 x4) (k:∀ x0 x1 x2 x3 x4,A0 x0 x1 x2 x3 x4->A1 x0 x1 x2 x3 x4->A2 x0 x1 x2 x3 x4->P):P:=by
 obtain ⟨x0,x1,x2,x3,x4,a0,a1,a2⟩:=h;exact k x0 x1 x2 x3 x4 a0 a1 a2
theorem Cy {α0:Sort _} {α1:Sort _} {α2:Sort _} {α3:Sort _} {α4:Sort _} {A0 A1 A2 A3 A4:α0->α1->α2->α3->α4->Prop} {P:Prop} (h:∃ x0 x1 x2 x3 x4,A0 x0 x1 x2 x3 x4/\A1 x0 x1 x2 x3 x4/\A2 x0 x1 x2 x3 x4/\A3 x0 x1 x2 x3 x4/\A4 x0 x1 x2 x3 x4) (k:∀ x0 x1 x2 x3 x4,A0 x0 x1 x2 x3 x4->A1 x0 x1 x2 x3 x4->A2 x0 x1 x2 x3 x4->A3 x0 x1 x2 x3 x4->A4 x0 x1 x2 x3 x4->P):P:=by
 obtain ⟨x0,x1,x2,x3,x4,a0,a1,a2,a3,a4⟩:=h;exact k x0 x1 x2 x3 x4 a0 a1 a2 a3 a4
theorem zX {α0:Sort _} {α1:Sort _} {α2:Sort _} {α3:Sort _} {α4:Sort _} {α5:Sort _} {α6:Sort _} {α7:Sort _} {A0:α0->α1->α2->α3->α4->α5->α6->α7->Prop} {P:Prop} (h:∃ x0 x1 x2 x3 x4 x5 x6 x7,A0 x0 x1 x2 x3 x4 x5 x6 x7) (k:∀ x0 x1 x2 x3 x4 x5 x6 x7,A0 x0 x1 x2 x3 x4 x5 x6 x7->P):P:=by
 obtain ⟨x0,x1,x2,x3,x4,x5,x6,x7,a0⟩:=h;exact k x0 x1 x2 x3 x4 x5 x6 x7 a0
theorem Cz {α0:Sort _} {α1:Sort _} {α2:Sort _} {α3:Sort _} {α4:Sort _} {α5:Sort _} {α6:Sort _} {α7:Sort _} {A0 A1:α0->α1->α2->α3->α4->α5->α6->α7->Prop} {P:Prop} (h:∃ x0 x1 x2 x3 x4 x5 x6 x7,A0 x0 x1 x2 x3 x4 x5 x6 x7/\A1 x0 x1 x2 x3 x4 x5 x6 x7) (k:∀ x0 x1 x2 x3 x4 x5 x6 x7,A0 x0 x1 x2 x3 x4 x5 x6 x7->A1 x0 x1 x2 x3 x4 x5 x6 x7->P):P:=by
 obtain ⟨x0,x1,x2,x3,x4,x5,x6,x7,a0,a1⟩:=h;exact k x0 x1 x2 x3 x4 x5 x6 x7 a0 a1
theorem CA {α0:Sort _} {α1:Sort _} {α2:Sort _} {α3:Sort _} {α4:Sort _} {α5:Sort _} {α6:Sort _} {α7:Sort _} {A0 A1 A2 A3 A4:α0->α1->α2->α3->α4->α5->α6->α7->Prop} {P:Prop} (h:∃ x0 x1 x2 x3 x4 x5 x6 x7,A0 x0 x1 x2 x3 x4 x5 x6 x7/\A1 x0 x1 x2 x3 x4 x5 x6 x7/\A2 x0 x1 x2 x3 x4 x5 x6 x7/\A3 x0 x1 x2 x3 x4 x5 x6 x7/\A4 x0 x1 x2 x3 x4 x5 x6 x7) (k:∀ x0 x1 x2 x3 x4 x5 x6 x7,A0 x0 x1 x2 x3 x4 x5 x6 x7->A1 x0 x1 x2 x3 x4 x5 x6 x7->A2 x0 x1 x2 x3 x4 x5 x6 x7->A3 x0 x1 x2 x3 x4 x5 x6 x7->A4 x0 x1 x2 x3 x4 x5 x6 x7->P):P:=by
 obtain ⟨x0,x1,x2,x3,x4,x5,x6,x7,a0,a1,a2,a3,a4⟩:=h;exact k x0 x1 x2 x3 x4 x5 x6 x7 a0 a1 a2 a3 a4
theorem J0 {x0 x1 k0 k1:Nat} (h0:(x0<=x1)) (h1:(x1<=k1)) (e:Nat.ble (k1+1) k0=true):(x0 < k0):=Nat.lt_of_le_of_lt (Nat.le_trans h0 h1) (Nat.le_of_ble_eq_true e)
theorem J1 {x0 k0 k1:Nat} (h0:(x0<=k1)) (e:Nat.ble k1 k0=true):(x0<=k0):=Nat.le_trans h0 (Nat.le_of_ble_eq_true e)
theorem J2 {x0 x1 x2:Nat} (h0:(x0 < x2)) (h1:(x2 < x1)):(x0 < x1):=Nat.lt_trans h0 h1
theorem J3 {x0 x1 k0:Nat} (h0:(x0 < x1)) (h1:(x1<=14)) (e:Nat.ble 14 k0=true):(x0<=k0):=Nat.le_trans (Nat.le_of_lt (Nat.lt_of_lt_of_le h0 h1)) (Nat.le_of_ble_eq_true e)
theorem J4 {x0 x1:Nat} (h0:(x0<=x1)):(x0 < (x1+1)):=Nat.lt_succ_of_le h0
theorem J5 {x0 k0 k1:Nat} (h0:(x0 < k1)) (e:Nat.ble k1 k0=true):(x0<=k0):=Nat.le_trans (Nat.le_of_lt h0) (Nat.le_of_ble_eq_true e)
theorem J6 {x0 x1:Nat} (h0:x1+1<=x0):x0 - (x1+1) < x0:=Nat.sub_lt (Nat.lt_of_lt_of_le (Nat.succ_pos x1) h0) (Nat.succ_pos x1)
theorem J7 {x0 x1:Nat} (h0:x1+1<=x0):x0 - (x1+1)+1=x0 - x1:=Nat.succ_pred_eq_of_pos (Nat.sub_pos_of_lt h0)
theorem J8 {x0 x1:Nat} (h0:((x0+1)<=x1)):(x0<=x1):=Nat.le_of_succ_le h0
theorem J9 {x0 x1:Nat} (h0:(x0 < x1)) (h1:(x0<=x1)):((x0+1)<=x1):=h0
theorem Aw {x0 x1 x2:Nat} (h0:((x0 - x1)=(x2+1))) (h1:(x1 < x0)) (h2:(x1<=x0)):((x0 - (x1+1))=x2):=congrArg Nat.pred h0
theorem Bt {x0 x1:Int} :((((x0 / x1) % (2:Int))=(0:Int))\/(((x0 / x1) % (2:Int))=(1:Int))):=Int.emod_two_eq _
theorem zH {x0 k1:Int}  (e:decide (16<=k1)=true):((0:Int)<=((x0 / k1) % (16:Int))):=Int.emod_nonneg _ (by decide)
theorem zI {x0 k0:Int}  (e:decide (16<=k0)=true):(((x0 / k0) % (16:Int)) < ((16:Nat):Int)):=Int.emod_lt_of_pos _ (by decide)
theorem Bu {x0 x1:Int} :(((0:Int)<=((x0 / x1) % (8:Int)))/\(((x0 / x1) % (8:Int)) < (8:Int))):=⟨Int.emod_nonneg _ (by decide),Int.emod_lt_of_pos _ (by decide)⟩
theorem AJ {x0:Int} (h0:((0:Int) < x0)):(x0≠(0:Int)):=Int.ne_of_gt h0
theorem yG {x0 x1 k0 k2:Nat} (h0:((x0+(x1+1))<=k2)) (e:Nat.ble k2 k0=true):(x0<=k0):=Nat.le_trans (Nat.le_trans (Nat.le_add_right _ _) h0) (Nat.le_of_ble_eq_true e)
theorem zJ {x0 x1 k1 k3:Nat} (h0:((x0+(x1+1))<=k3)) (e:Nat.ble k3 k1=true):(((x0+1)+x1)<=k1):=Nat.le_trans (Nat.le_of_eq (Nat.add_right_comm x0 1 x1)) (Nat.le_trans h0 (Nat.le_of_ble_eq_true e))
theorem Bv {x0 x1 k2:Nat} (h0:(x0<=k2)) (e:Nat.ble k2 16000000=true):((x0+(x1*0))<=16777216):=Nat.le_trans h0 (Nat.le_trans (Nat.le_of_ble_eq_true e) (by decide))
theorem Bw {x0:Nat} (h0:(x0<=3)):((x0=0)\/((x0=1)\/((x0=2)\/(x0=3)))):=by lia -abstractProof
theorem sG {x0 k0 k1:Nat} (h0:(x0 < k1)) (e:Nat.ble k1 k0=true):(x0 < k0):=Nat.lt_of_lt_of_le h0 (Nat.le_of_ble_eq_true e)
theorem zK {x0 k1 k2:Nat} (h0:(x0<=k2)) (e:Nat.ble (k2+2) k1=true):((x0+1) < k1):=Nat.lt_of_lt_of_le (Nat.succ_lt_succ (Nat.lt_succ_of_le h0)) (Nat.le_of_ble_eq_true e)
theorem Bx {x0:Nat} (h0:(x0<=1000000)):(((x0:Nat):Int) < (2 ^ 63:Int)):=Int.lt_of_le_of_lt (Int.ofNat_le.mpr h0) (by decide)
theorem AK {x0:Nat} (h0:(x0<=14)):((x0+1)<=1000000):=Nat.le_trans (Nat.succ_le_succ h0) (by decide)
theorem By {x0 x1 k1:Nat} {k0:Int} (h0:(x1=x0)) (h1:(x1<=k1)) (e:decide (((k1:Int)+1)<=k0)=true):(((x0:Nat):Int) < k0):=Int.lt_of_lt_of_le (Int.ofNat_lt.mpr (Nat.lt_succ_of_le (h0 ▸ h1))) (of_decide_eq_true e)
theorem Bz {x0 x1 x2:Nat} {x3:Prop} (h0:((x0 < x2)/\x3)) (h1:(x2 < x1)):((x0+1)<=x1):=Nat.le_trans h0.1 (Nat.le_of_lt h1)
theorem yU {x0 x1 x2:Nat} (h0:(x0 < x2)) (h1:(x2<=x1)):(x0 < x1):=Nat.lt_of_lt_of_le h0 h1
theorem AL {x0:Int} (h0:((0:Int)<=x0)):((-1:Int) < x0):=Int.lt_of_lt_of_le (by decide) h0
theorem xg {x0 x1 k0 k2:Nat} (h0:(x0<=(3*x1))) (h1:(x1<=k2)) (e:Nat.ble (3*k2) k0=true):(x0<=k0):=Nat.le_trans h0 (Nat.le_trans (Nat.mul_le_mul_left 3 h1) (Nat.le_of_ble_eq_true e))
theorem zD {x0 x1 x2:Nat} (h0:((x0+(x2+1))=x1)):(x0 < x1):=h0 ▸ Nat.lt_add_of_pos_right (Nat.succ_pos x2)
theorem Ax {x0 x1 x2:Nat} (h0:((x0+(x1+1))=x2)):(((x0+1)+x1)=x2):=(Nat.add_right_comm x0 1 x1).trans h0
theorem Ay {x0 x1 k0 k1:Nat} (h0:(x0 < x1)) (h1:(x1<=k1)) (e:Nat.ble k1 k0=true):(x0 < k0):=Nat.lt_of_lt_of_le h0 (Nat.le_trans h1 (Nat.le_of_ble_eq_true e))
theorem AM {x0 x1:Nat} (h0:(x0 < x1)):((x0+1)<=(x1+1)):=Nat.le_succ_of_le h0
theorem sH {x0:Nat} :((0:Int)<=((x0:Nat):Int)):=Int.natCast_nonneg x0
theorem Az {x0 x1:Nat} (h0:(x0 < x1)):(x0 < (x1+1)):=Nat.lt_succ_of_lt h0
theorem BA {x0:Int} (h0:((0:Int) < x0)):((0:Int)<=x0):=Int.le_of_lt h0
theorem BB {x0:Int} (h0:(((0:Int)<=x0)/\(x0<=(2:Int)))):(x0<=(1000000:Int)):=Int.le_trans h0.2 (by decide)
theorem BC {x0:Int} (h0:((0:Int)<=x0)):((0:Int)<=(x0 / (4096:Int))):=Int.ediv_nonneg h0 (by decide)
theorem BD {x0:Int} (h0:(x0 < (32768:Int))):((x0 / (4096:Int)) < ((8:Nat):Int)):=Int.ediv_lt_of_lt_mul (by decide) h0
theorem AN {x0 x1:Nat} (h0:(2<=x1)) (h1:(x0=x1)):(2<=x0):=h1.symm ▸ h0
theorem BE {x0 x1:Nat} (h0:(x0=x1)) (h1:(x1<=3)):(x0 < 64):=Nat.lt_of_le_of_lt (Nat.le_trans (Nat.le_of_eq h0) h1) (by decide)
theorem AO {x0 x1:Nat} (h0:((x1 - x0)=0)) (h1:(x0<=x1)):(x0=x1):=Nat.le_antisymm h1 (Nat.le_of_sub_eq_zero h0)
theorem AP {x0 x1 x2:Nat} (h0:((x1 - x0)=(x2+1))) (h1:(x0<=x1)):(x0 < x1):=Nat.lt_of_sub_eq_succ h0
theorem BF {x0 k0:Int}  (e:decide (k0<=0)=true):(k0<=(((x0 / (65536:Int)) % (4:Int)) / (2:Int))):=Int.le_trans (of_decide_eq_true e) (Int.ediv_nonneg (Int.emod_nonneg _ (by decide)) (by decide))
theorem BG {x0 k3:Int}  (e:decide (2<=k3)=true):((((x0 / (65536:Int)) % (4:Int)) / (2:Int)) < k3):=by simp at e;lia -abstractProof
theorem zE {x0 x1 k0 k1:Nat} (h0:((x0+x1)<=k1)) (e:Nat.ble k1 k0=true):(x0<=k0):=Nat.le_trans (Nat.le_trans (Nat.le_add_right _ _) h0) (Nat.le_of_ble_eq_true e)
theorem BH {x0 k0:Int}  (e:decide (k0<=0)=true):(k0<=(((x0 / (65536:Int)) % (4:Int)) % (2:Int))):=Int.le_trans (of_decide_eq_true e) (Int.emod_nonneg _ (by decide))
theorem BI {x0 k3:Int}  (e:decide (2<=k3)=true):((((x0 / (65536:Int)) % (4:Int)) % (2:Int)) < k3):=Int.lt_of_lt_of_le (Int.emod_lt_of_pos _ (by decide)) (of_decide_eq_true e)
theorem yV {x0 x1 k2 k4:Nat} (h0:((x0+(x1+1))<=k4)) (e:Nat.ble k4 k2=true):(((x0+(0+1))+x1)<=k2):=Nat.le_trans (Nat.le_of_eq (Nat.add_right_comm x0 1 x1)) (Nat.le_trans h0 (Nat.le_of_ble_eq_true e))
theorem zL {x0 k0 k1:Nat} (h0:(x0<=k1)) (e:Nat.ble (k1+1) k0=true):(x0 < k0):=Nat.lt_of_lt_of_le (Nat.lt_succ_of_le h0) (Nat.le_of_ble_eq_true e)
theorem AQ {x0:Nat} (h0:(x0<=3)):((0+x0)<=1000000):=Nat.le_trans (Nat.le_of_eq (Nat.zero_add x0)) (Nat.le_trans h0 (by decide))
theorem u0 {x0 k0 k1:Nat} (h0:(x0=k1)) (e:Nat.ble k1 k0=true):(x0<=k0):=Nat.le_trans (Nat.le_of_eq h0) (Nat.le_of_ble_eq_true e)
theorem BJ {x0 x1 x2:Nat} (h0:(x0<=100)) (h1:(x1=1)) (h2:(x2=1)):(((x0+x1)+x2)<=1000000):=Nat.le_trans (Nat.add_le_add (Nat.add_le_add h0 (Nat.le_of_eq h1)) (Nat.le_of_eq h2)) (by decide)
theorem zM {x0 x1 k0 k1 k2:Nat} (h0:(x0=k1)) (h1:(x1<=k2)) (e:Nat.ble (k1+k2) k0=true):((x0+x1)<=k0):=Nat.le_trans (Nat.add_le_add (Nat.le_of_eq h0) h1) (Nat.le_of_ble_eq_true e)
theorem AR {x0 k1:Nat} (h0:(x0 < k1)) (e:Nat.ble k1 1000=true):(((x0:Nat):Int) < (2 ^ 63:Int)):=Int.lt_of_lt_of_le (Int.ofNat_lt.mpr (Nat.lt_of_lt_of_le h0 (Nat.le_of_ble_eq_true e))) (by decide)
theorem BK {x0 x1 k0:Nat} (h0:(x0<=x1)) (h1:(x1 < 15)) (e:Nat.ble 1000 k0=true):(x0<=k0):=Nat.le_trans (Nat.le_of_lt (Nat.lt_of_le_of_lt h0 h1)) (Nat.le_trans (by decide) (Nat.le_of_ble_eq_true e))
theorem AS {x0 k2:Int} (h0:(((0:Int)<=x0)/\(x0 < k2))) (e:decide (k2<=16)=true):((0:Int)<=x0):=h0.1
theorem AT {x0 k0 k2:Int} (h0:(((0:Int)<=x0)/\(x0 < k2))) (e:decide (k2<=k0)=true):(x0 < k0):=Int.lt_of_lt_of_le h0.2 (of_decide_eq_true e)
theorem AA {x0 k1:Int} (h0:(((0:Int)<=x0)/\(x0 < (8:Int)))) (e:decide (1<=k1)=true):((0:Int)<=(x0+k1)):=Int.add_nonneg h0.1 (Int.le_trans (by decide) (of_decide_eq_true e))
theorem AB {x0 k0:Int} (h0:(((0:Int)<=x0)/\(x0 < (8:Int)))) (e:decide (k0<=2)=true):((x0+k0) < (10:Int)):=Int.lt_of_lt_of_le (Int.add_lt_add_of_lt_of_le h0.2 (of_decide_eq_true e)) (by decide)
theorem BL {x0 x1 x2:Nat} (h0:(x0=2)) (h1:(x1<=102)) (h2:(x2=1)):(((x0+x1)+x2)<=1000000):=Nat.le_trans (Nat.add_le_add (Nat.add_le_add (Nat.le_of_eq h0) h1) (Nat.le_of_eq h2)) (by decide)
theorem BM {x0:Nat} (h0:(x0<=(0+3))):(x0<=3):=h0
theorem BN {x0 x1:Int} (h0:(((0:Int) < x0)/\(x0 < (2 ^ 20:Int)))) (h1:(x1=x0)):(x0 < (2 ^ 60:Int)):=Int.lt_trans h0.2 (by decide)
theorem BO {x0 x1:Nat} (h0:((x1+0)=x0)):(x0<=x1):=Nat.le_of_eq h0.symm
theorem AC {x0 x1 x2 k0 k2:Nat} (h0:((x0+(x1+1))=x2)) (h1:(x2<=k2)) (e:Nat.ble k2 k0=true):(x0 < k0):=Nat.lt_of_lt_of_le (zD h0) (Nat.le_trans h1 (Nat.le_of_ble_eq_true e))
theorem AD {x0 x1 k0 k1 k2:Nat} (h0:(x0=(x1+k1))) (h1:(x1<=k2)) (e:Nat.ble (k2+k1) k0=true):(x0<=k0):=Nat.le_trans (Nat.le_of_eq h0) (Nat.le_trans (Nat.add_le_add_right h1 k1) (Nat.le_of_ble_eq_true e))
theorem BP {x0 x1:Nat} (h0:(x0=(x1+1))) (h1:(x1<=14)):(x0 < 16):=h0 ▸ Nat.lt_of_le_of_lt (Nat.succ_le_succ h1) (by decide)
theorem AU {x0:Nat} :((0+x0)=x0):=Nat.zero_add x0
theorem BQ {x0:Nat} (h0:(¬ (x0 < 2))):(2<=x0):=Nat.not_lt.mp h0
theorem Cg {x0 x1 k0 k2:Nat} (h0:((x0+(k2*(x1+1)))<=900000)) (e:Nat.ble k0 7=true):((x0+k0)<=1000000):=Nat.le_trans (Nat.add_le_add (Nat.le_trans (Nat.le_add_right _ _) h0) (Nat.le_of_ble_eq_true e)) (by decide)
theorem AE {x0 x1 k0 k2:Nat} (h0:((x0+(x1+1))<=k2)) (e:Nat.ble k2 k0=true):((x0+x1)<=k0):=Nat.le_trans (Nat.le_trans (Nat.le_succ _) h0) (Nat.le_of_ble_eq_true e)
theorem CE {x0 x1 x2 x3 x4:Nat} (h0:(x4 < x1)) (h1:(x4<=x1)):((((x0+(x1+x2)) - ((x3+x2)+1)) - x0) < x1):=by lia -abstractProof
theorem BR {x0 x1:Nat} (h0:((x0+1)<=x1)):(x0 < x1):=h0
theorem BS {x0 x1:Nat} (h0:(x0=x1)) (h1:(x1 < 64)):(x0 < 64):=h0.symm ▸ h1
theorem BT {x0 x1 k0 k1:Nat} (h0:(x0=x1)) (h1:(x1 < k1)) (e:Nat.ble k1 k0=true):(x0<=k0):=Nat.le_trans (Nat.le_of_eq h0) (Nat.le_trans (Nat.le_of_lt h1) (Nat.le_of_ble_eq_true e))
theorem AV {x0 x1 x2:Nat} (h0:(x0 < x2)) (h1:(x2=x1)):(x0 < x1):=h1 ▸ h0
theorem BU {x0 x1 k0:Nat} (h0:((x0+1)<=x1)) (h1:(x1<=15)) (e:Nat.ble 1000 k0=true):(x0<=k0):=Nat.le_trans (Nat.le_of_lt h0) (Nat.le_trans h1 (Nat.le_trans (by decide) (Nat.le_of_ble_eq_true e)))
theorem BV {x0 x1 x2 x3 x4:Nat} (h0:(x0=1)) (h1:(x2=2)) (h2:(x4=1)) (h3:(x1<=1000)) (h4:(x3<=10000)):(((((x0+x1)+x2)+x3)+x4)<=1000000):=Nat.le_trans (Nat.add_le_add (Nat.add_le_add (Nat.add_le_add (Nat.add_le_add (Nat.le_of_eq h0) h3) (Nat.le_of_eq h1)) h4) (Nat.le_of_eq h2)) (by decide)
theorem BX {x0 x1 x2 x3:Nat} (h0:(x2 < x3)) (h1:(x3<=x2)):(x0=x1):=absurd h0 (Nat.not_lt.mpr h1)
theorem BY {x0 x1:Nat} (h0:(x0=(x1+1))):((x0 - 1)=x1):=Nat.sub_eq_of_eq_add h0
theorem BZ {x0:Nat} (h0:(¬ (x0=0))):(((x0 - 1)+1)=x0):=Nat.sub_add_cancel (Nat.one_le_iff_ne_zero.mpr h0)
theorem zN {x0 x1 x2:Nat} (h0:(x0 < x2)) (h1:(x1=x2)):(x0 < x1):=h1.symm ▸ h0
theorem AW {x0 x1:Nat} (h0:(x0<=x1)):(x0<=(x1+1)):=Nat.le_succ_of_le h0
theorem AX {x0 x1 x2:Nat} (h0:(x0 < x1)) (h1:(x1<=x2)) (h2:(x2<=14)):(((x0:Nat):Int) < (2 ^ 63:Int)):=Int.lt_of_lt_of_le (Int.ofNat_lt.mpr (Nat.lt_of_lt_of_le (Nat.lt_of_lt_of_le h0 h1) h2)) (by decide)
theorem AY {x0 x1 x2:Nat} (h0:(x0 < x2)) (h1:(x2<=x1)):(x0<=x1):=Nat.le_of_lt (Nat.lt_of_lt_of_le h0 h1)
theorem AZ {x0 k0:Nat} (h0:((x0<=100)/\(x0≠0))) (e:Nat.ble 1000000 k0=true):(x0<=k0):=Nat.le_trans h0.1 (Nat.le_trans (by decide) (Nat.le_of_ble_eq_true e))
theorem B0 {x0 x1 x2:Nat} (h0:((x0<=100)/\(x0≠0))) (h1:(x1=1)) (h2:(x2<=100)):(((x0+x1)+x2)<=1000000):=Nat.le_trans (Nat.add_le_add (Nat.add_le_add h0.1 (Nat.le_of_eq h1)) h2) (by decide)
theorem zO {x0 x1:Nat} (h0:(x0 < x1)) (h1:(x1<=14)):(((x0:Nat):Int) < (2 ^ 63:Int)):=Int.lt_of_lt_of_le (Int.ofNat_lt.mpr (Nat.lt_of_lt_of_le h0 h1)) (by decide)
theorem B1 {x0 x1:Nat} (h0:(x0<=x1)):((x0+(x1 - x0))=x1):=Nat.add_sub_cancel' h0
theorem B2 {x0 x1 x2:Nat} (h0:((x0+(x1+1))=x2)) (h1:(x2<=15)):(x0<=15):=Nat.le_trans (Nat.le_of_lt (zD h0)) h1
theorem B3 {x0 x1 k0:Nat} (h0:(x0<=90000)) (h1:(x1<=1)) (e:Nat.ble 100000 k0=true):((x0+x1)<=k0):=Nat.le_trans (Nat.add_le_add h0 h1) (Nat.le_trans (by decide) (Nat.le_of_ble_eq_true e))
theorem B4 {x0 x1 k0:Nat} (h0:((x0+(20*(x1+1)))<=2000)) (e:Nat.ble k0 3=true):(((x0+k0)+(20*x1))<=2000):=by simp at e;lia -abstractProof
theorem B5 {x0 k6:Nat}  (e:Nat.ble 8 k6=true):(((min 4 x0)+((((0+1)+1)+1)+1))<=k6):=by simp at e;lia -abstractProof
theorem zg {x y:Nat} (h:x < y):(x+y) / 2 < y:=by lia
theorem zf {x y:Nat} (h:x<=y):x<=(x+y) / 2:=by lia
theorem Br {a l t d j:Nat} (h:l - j=d+1):a+(l+t) - (d+t+1)=a+j:=by lia
theorem Bs {a l t d j:Nat} (h:l - j=d+1):d+t+1<=a+(l+t):=by lia
theorem Bm {n v p:Nat} (h:p < v) (hv:v < n+1):v - 1 < n:=Nat.lt_of_lt_of_le (Nat.sub_one_lt (Nat.ne_of_gt (Nat.zero_lt_of_lt h))) (Nat.le_of_lt_succ hv)
theorem tz {p q c n m:Nat} (h:q<=p+c) (hl:p+c*(n+1)<=m):q+c*n<=m:=Nat.le_trans (Nat.add_le_add_right h _) (by rw [Nat.mul_succ,Nat.add_comm (c*n),<-Nat.add_assoc] at hl;exact hl)
theorem tA {p q c n x:Nat} (h:q<=p+c) (hl:x<=q+c*n):x<=p+c*(n+1):=Nat.le_trans hl (Nat.le_trans (Nat.add_le_add_right h _) (Nat.le_of_eq (by rw [Nat.mul_succ,Nat.add_comm (c*n),Nat.add_assoc])))
theorem Ae {i j n:Nat} (h:i < j) (k:j<=n) (e:min (j - i) (n - i)=0):False:=by
 rw [Nat.min_eq_left (Nat.sub_le_sub_right k i)] at e;exact absurd e (Nat.ne_of_gt (Nat.sub_pos_of_lt h))
theorem Ca {a b:Nat} (h:a < b):∃ k,b - a=k+1:=⟨_,(Nat.succ_pred_eq_of_pos (Nat.sub_pos_of_lt h)).symm⟩
theorem Cb {a n:Nat} (h:a<=n) (e:Nat.ble n 1000000=true):(a:Int) < 2 ^ 63:=Int.lt_of_le_of_lt (Int.ofNat_le.mpr (Nat.le_trans h (Nat.le_of_ble_eq_true e))) (by decide)
theorem nM {α:Type _} {x:α} {P:Prop} (h:x∈[]):P:=absurd h List.not_mem_nil
theorem nQ {α:Type _} {x:α} {P:Prop} (h:none=some x):P:=by cases h
theorem nS {α:Type _} {x:α} {P:Prop} (h:some x=none):P:=by cases h
theorem fV {α:Type} {l:List α} {n:Nat} (h:l.length=n+1):∃ a r,l=a::r/\r.length=n:=by
 cases l with
 | nil=>cases h
 | cons a l=>exact ⟨a,l,rfl,Nat.succ.inj h⟩
theorem lz {α:Type} {l:List α} (h:l.length=1):∃ a,l=[a]:=List.length_eq_one_iff.mp h
theorem py {α:Type} {l:List α} (h:l.length=2):∃ a b,l=[a,b]:=by
 refine bb (fV h) λa l1 z0_ h1=>?_;obtain rfl:=z0_;refine aH (lz h1) λb z1_=>?_;clear h1 h;obtain rfl:=z1_;exact ⟨a,b,rfl⟩
theorem wm {α:Type} {l:List α} (h:l.length=3):∃ a b c,l=[a,b,c]:=by
 refine bb (fV h) λa l1 z2_ h1=>?_;obtain rfl:=z2_;refine i4 (py h1) λb c z3_=>?_;clear h1 h;obtain rfl:=z3_;exact ⟨a,b,c,rfl⟩
theorem Ac {α:Type} {l:List α} (h:l.length=4):∃ a b c d,l=[a,b,c,d]:=by
 refine bb (fV h) λa l1 z4_ h1=>?_;obtain rfl:=z4_;refine xD (wm h1) λb c d z5_=>?_;clear h1 h;obtain rfl:=z5_;exact ⟨a,b,c,d,rfl⟩
theorem el {G:Prop} (h:∀ P:Prop,(G->P)->P):G:=h G id
theorem Ap {α:Type} {l:List α} (h:l.length=10):∃ a b c d e f g i j k,l=[a,b,c,d,e,f,g,i,j,k]:=by
 refine el λP kP=>?_;refine bb (fV h) λa l1 e1 h1=>?_;refine bb (fV h1) λb l2 e2 h2=>?_;refine bb (fV h2) λc l3 e3 h3=>?_;refine bb (fV h3) λd l4 e4 h4=>?_;refine bb (fV h4) λe l5 e5 h5=>?_;refine bb (fV h5) λf l6 e6 h6=>?_;refine B9 (Ac h6) λg i j k e7=>?_;exact kP ⟨a,b,c,d,e,f,g,i,j,k,by rw [e1,e2,e3,e4,e5,e6,e7]⟩
theorem Ad {i:Nat} (h:i < 3):i=0\/i=1\/i=2:=by lia
theorem zm {α:Type} {x a:α} (h:x∈[a]):x=a:=List.mem_singleton.mp h
theorem dc {α:Type} {x a b:α} (h:x∈[a,b]):x=a\/x=b:=(List.mem_cons.mp h).imp_right zm
theorem gq {α:Type} {x a b c:α} (h:x∈[a,b,c]):x=a\/x=b\/x=c:=(List.mem_cons.mp h).imp_right dc
theorem oh {α:Type} {x a b c d:α} (h:x∈[a,b,c,d]):x=a\/x=b\/x=c\/x=d:=(List.mem_cons.mp h).imp_right gq
theorem zo {α:Type} {x a b c d e:α} (h:x∈[a,b,c,d,e]):x=a\/x=b\/x=c\/x=d\/x=e:=(List.mem_cons.mp h).imp_right oh
theorem zp {α:Type} {x a b c d e f:α} (h:x∈[a,b,c,d,e,f]):x=a\/x=b\/x=c\/x=d\/x=e\/x=f:=(List.mem_cons.mp h).imp_right zo
theorem zq {α:Type} {x a b c d e f g:α} (h:x∈[a,b,c,d,e,f,g]):x=a\/x=b\/x=c\/x=d\/x=e\/x=f\/x=g:=(List.mem_cons.mp h).imp_right zp
theorem zr {α:Type} {x a b c d e f g i:α} (h:x∈[a,b,c,d,e,f,g,i]):x=a\/x=b\/x=c\/x=d\/x=e\/x=f\/x=g\/x=i:=(List.mem_cons.mp h).imp_right zq
theorem Bl {α:Type} {x a b c d e f g i j:α} (h:x∈[a,b,c,d,e,f,g,i,j]):x=a\/x=b\/x=c\/x=d\/x=e\/x=f\/x=g\/x=i\/x=j:=(List.mem_cons.mp h).imp_right zr
theorem rF {α:Type} (L:List α) (is:List Nat) {g:List α} (h:L.Nodup) (e:g.map some=is.map (L[·]?)) (hi:is.Nodup:=by decide):g.Nodup:=by
 induction is generalizing g with
 | nil=>cases g with
   | nil=>exact .nil
   | cons _ _=>cases e
 | cons i is ih=>cases g with
   | nil=>cases e
   | cons a g =>
     refine bh (List.cons.inj e) λe1 e2=>?_;refine bh (List.nodup_cons.mp hi) λn1 n2=>?_;refine List.nodup_cons.mpr ⟨λm=>?_,ih e2 n2⟩;have:some a∈g.map some:=List.mem_map.mpr ⟨a,m,rfl⟩;rw [e2] at this;refine ap (List.mem_map.mp this) λj hj ej=>?_;have hl:i < L.length:=(List.getElem?_eq_some_iff.mp e1.symm).1;exact n1 ((List.getElem?_inj hl h).mp (e1.symm.trans ej.symm) ▸ hj)
theorem Af {α:Type} {L:List α} (h:L.Nodup) (i j:Nat) {a b:α} (hi:L[i]?=some a:=by rfl) (hj:L[j]?=some b:=by rfl) (ij:i≠j:=by decide):a≠b:=λe=>by
 have hl:i < L.length:=(List.getElem?_eq_some_iff.mp hi).1;exact ij ((List.getElem?_inj hl h).mp (hi.trans (e ▸ hj.symm)))
theorem bF {α:Type} {L:List α} (i:Nat) {a:α} (h:L[i]?=some a:=by rfl):a∈L:=List.mem_of_getElem? h
noncomputable abbrev pg:Program:=PySem.Challenge.pw_pk0129_01
noncomputable abbrev aM (vs:List Value) (n:Nat):Obj:=⟨.type "tuple",none,.seq vs.toArray n,#[]⟩
noncomputable abbrev az (vs:List Value) (n:Nat):Obj:=⟨.type "list",none,.seq vs.toArray n,#[]⟩
theorem yN {vs us:List Value} {n m:Nat} (e:some (az vs n)=some (az us m)):vs=us/\n=m:=by cases e;exact ⟨rfl,rfl⟩
noncomputable abbrev dQ (es:List DictEntry) (n:Nat):Obj:=⟨.type "dict",none,.dict es.toArray n,#[]⟩
noncomputable abbrev eR (id:String) (v:Value):Obj:=⟨.type "builtin_function_or_method",none,.fields #[.builtin id,v],#[]⟩
noncomputable abbrev kj (f:Addr) (v:Value):Obj:=⟨.type "method",none,.fields #[.ref f,v],#[]⟩
noncomputable def bu (i:Nat):Option Stmt:=pg.main.body[i]?
noncomputable def dE:Expr:=.Constant .none 0 default
noncomputable def oO:Option Stmt->Expr × List Stmt × List Stmt × Arguments × Scope
 | some (.FunctionDef _ a b _ _ _ s _ _ _)=>(dE,b,[],a,s)
 | some (.ClassDef _ _ _ b _ _ _ _ _ _ _)=>(dE,b,[],default,default)
 | some (.For t _ b e _)=>(t,b,e,default,default)
 | some (.While t b _ _)=>(t,b,[],default,default)
 | some (.If _ b _ _)=>(dE,b,[],default,default)
 | some (.Try b _ _ _ _)=>(dE,b,[],default,default)
 | some (.Assign _ v _)=>(v,[],[],default,default)
 | _=>(dE,[],[],default,default)
noncomputable def b0 (i:Nat):Option Stmt:=(oO (bu 31)).2.1[i]?
noncomputable def qe (s:Option Stmt):Arguments:=(oO s).2.2.2.1
noncomputable def bG (s:Option Stmt):List Stmt:=(oO s).2.1
noncomputable def aE (s:Option Stmt):Scope:=(oO s).2.2.2.2
noncomputable def xk:Expr->Expr × List Comprehension × Scope × List Keyword × Option (Arguments × Expr × Scope × Pos)
 | .ListComp e gs s _=>(e,gs,s,[],none)
 | .DictComp _ _ gs s _=>(dE,gs,s,[],none)
 | .Call _ _ k _=>(dE,[],default,k,none)
 | .Lambda p b s pos=>(dE,[],default,[],some (p,b,s,pos))
 | _=>(dE,[],default,[],none)
noncomputable abbrev uX (name qual:Str) (st:Option Stmt) (d k pm:Value) (cd:Addr):FuncData :=
 { name:=name,qualname:=qual,params:=qe st,body:=.stmts (bG st),scope:=aE st,globals:=3,closure:=[],defaults:=d,kwdefaults:=k,doc:=.none,pyModule:=pm,code:=.ref cd,builtins:=0 }
noncomputable abbrev bV (name qual:Str) (st:Option Stmt) (d k pm:Value) (cd:Addr):Obj:=⟨.type "function",none,.func (uX name qual st d k pm cd),#[]⟩
noncomputable abbrev cm (P:Params) (k:Str) (t:Tok) (v:Value):DictEntry:=⟨PyData.keyHash P k,.str k t,v⟩
noncomputable def KF (P:Params):Frag:=[
 (3,dQ [cm P "__name__" 165 (.str (ofString "law_pk0129_01") 631),cm P "__doc__" 166 (.none),cm P "__package__" 167 (.none),cm P "__loader__" 168 (.builtin "__main__.__loader__#opaque"),cm P "__spec__" 169 (.none),cm P "__annotations__" 170 (.ref 6),cm P "__builtins__" 171 (.ref 4),cm P "__file__" 173 (.str (ofString "/claim/cut.py") 172),cm P "__cached__" 174 (.none),cm P "_sre" 275 (.ref 12),cm P "_wall" 288 (.ref 38),cm P "S_IMODE" 297 (.ref 45),cm P "S_IFMT" 304 (.ref 52),cm P "S_IFDIR" 306 (.int 16384 305),cm P "S_IFCHR" 308 (.int 8192 307),cm P "S_IFBLK" 310 (.int 24576 309),cm P "S_IFREG" 312 (.int 32768 311),cm P "S_IFIFO" 314 (.int 4096 313),cm P "S_IFLNK" 316 (.int 40960 315),cm P "S_IFSOCK" 318 (.int 49152 317),cm P "S_ISUID" 320 (.int 2048 319),cm P "S_ISGID" 322 (.int 1024 321),cm P "S_ISVTX" 324 (.int 512 323),cm P "S_IRUSR" 326 (.int 256 325),cm P "S_IWUSR" 328 (.int 128 327),cm P "S_IXUSR" 330 (.int 64 329),cm P "S_IRGRP" 332 (.int 32 331),cm P "S_IWGRP" 334 (.int 16 333),cm P "S_IXGRP" 336 (.int 8 335),cm P "S_IROTH" 338 (.int 4 337),cm P "S_IWOTH" 340 (.int 2 339),cm P "S_IXOTH" 342 (.int 1 341),cm P "_filemode_table" 368 (.ref 85),cm P "filemode" 380 (.ref 92),cm P "_twin_re_1" 420 (.ref 97),cm P "_namespace_map" 442 (.ref 98),cm P "_raise_serialization_error" 449 (.ref 105),cm P "_looks_like_prefix_name" 451 (.ref 106),cm P "C14NWriterTarget" 616 (.ref 204),cm P "_escape_cdata_c14n" 623 (.ref 215),cm P "_escape_attrib_c14n" 630 (.ref 222),cm P "_law_modes" 645 (.ref 229),cm P "_law_told" 661 (.ref 236),cm P "_law_codes" 678 (.ref 243),cm P "_law_row" 688 (.ref 250),cm P "_law_due" 694 (.ref 255),cm P "law" 703 (.ref 262)] 47),
 (4,⟨.type "module",some 0,.plain,#[]⟩),
 (45,bV "S_IMODE" "S_IMODE" (bu 3) (.none) (.none) (.str (ofString "cpy313.stat") 289) 44),
 (52,bV "S_IFMT" "S_IFMT" (bu 4) (.none) (.none) (.str (ofString "cpy313.stat") 289) 51),
 (53,aM [.int 40960 315,.str (ofString "l") 343] 0),
 (54,aM [.int 49152 317,.str (ofString "s") 344] 0),
 (55,aM [.int 32768 311,.str (ofString "-") 345] 0),
 (56,aM [.int 24576 309,.str (ofString "b") 346] 0),
 (57,aM [.int 16384 305,.str (ofString "d") 347] 0),
 (58,aM [.int 8192 307,.str (ofString "c") 348] 0),
 (59,aM [.int 4096 313,.str (ofString "p") 349] 0),
 (60,aM [.ref 53,.ref 54,.ref 55,.ref 56,.ref 57,.ref 58,.ref 59] 0),
 (61,aM [.int 256 325,.str (ofString "r") 350] 0),
 (62,aM [.ref 61] 0),
 (63,aM [.int 128 327,.str (ofString "w") 351] 0),
 (64,aM [.ref 63] 0),
 (65,aM [.int 2112 352,.str (ofString "s") 353] 0),
 (66,aM [.int 2048 319,.str (ofString "S") 354] 0),
 (67,aM [.int 64 329,.str (ofString "x") 355] 0),
 (68,aM [.ref 65,.ref 66,.ref 67] 0),
 (69,aM [.int 32 331,.str (ofString "r") 356] 0),
 (70,aM [.ref 69] 0),
 (71,aM [.int 16 333,.str (ofString "w") 357] 0),
 (72,aM [.ref 71] 0),
 (73,aM [.int 1032 358,.str (ofString "s") 359] 0),
 (74,aM [.int 1024 321,.str (ofString "S") 360] 0),
 (75,aM [.int 8 335,.str (ofString "x") 361] 0),
 (76,aM [.ref 73,.ref 74,.ref 75] 0),
 (77,aM [.int 4 337,.str (ofString "r") 362] 0),
 (78,aM [.ref 77] 0),
 (79,aM [.int 2 339,.str (ofString "w") 363] 0),
 (80,aM [.ref 79] 0),
 (81,aM [.int 513 364,.str (ofString "t") 365] 0),
 (82,aM [.int 512 323,.str (ofString "T") 366] 0),
 (83,aM [.int 1 341,.str (ofString "x") 367] 0),
 (84,aM [.ref 81,.ref 82,.ref 83] 0),
 (85,aM [.ref 60,.ref 62,.ref 64,.ref 68,.ref 70,.ref 72,.ref 76,.ref 78,.ref 80,.ref 84] 0),
 (92,bV "filemode" "filemode" (bu 25) (.none) (.none) (.str (ofString "cpy313.stat") 289) 91),
 (114,dQ [cm P "with_comments" 464 (.bool false),cm P "strip_text" 465 (.bool false),cm P "rewrite_prefixes" 466 (.bool false),cm P "qname_aware_tags" 467 (.none),cm P "qname_aware_attrs" 468 (.none),cm P "exclude_attrs" 469 (.none),cm P "exclude_tags" 470 (.none)] 7),
 (121,bV "__init__" "C14NWriterTarget.__init__" (b0 0) (.none) (.ref 114) (.str (ofString "cpy313.xml.etree.ElementTree") 381) 120),
 (122,aM [.type "reversed"] 0),
 (129,bV "_iter_namespaces" "C14NWriterTarget._iter_namespaces" (b0 1) (.ref 122) (.none) (.str (ofString "cpy313.xml.etree.ElementTree") 381) 128),
 (137,aM [.none] 0),
 (144,bV "_qname" "C14NWriterTarget._qname" (b0 3) (.ref 137) (.none) (.str (ofString "cpy313.xml.etree.ElementTree") 381) 143),
 (151,bV "data" "C14NWriterTarget.data" (b0 4) (.none) (.none) (.str (ofString "cpy313.xml.etree.ElementTree") 381) 150),
 (152,eR "str.join" (.str (ofString "") 529)),
 (153,aM [.ref 152] 0),
 (160,bV "_flush" "C14NWriterTarget._flush" (b0 5) (.ref 153) (.none) (.str (ofString "cpy313.xml.etree.ElementTree") 381) 159),
 (174,bV "start" "C14NWriterTarget.start" (b0 7) (.none) (.none) (.str (ofString "cpy313.xml.etree.ElementTree") 381) 173),
 (175,aM [.none] 0),
 (180,bV "_start" "C14NWriterTarget._start" (b0 8) (.ref 175) (.none) (.str (ofString "cpy313.xml.etree.ElementTree") 381) 179),
 (187,bV "end" "C14NWriterTarget.end" (b0 9) (.none) (.none) (.str (ofString "cpy313.xml.etree.ElementTree") 381) 186),
 (203,dQ [cm P "__module__" 459 (.str (ofString "cpy313.xml.etree.ElementTree") 381),cm P "__firstlineno__" 463 (.int 53 462),cm P "__init__" 485 (.ref 121),cm P "_iter_namespaces" 495 (.ref 129),cm P "_resolve_prefix_name" 507 (.ref 136),cm P "_qname" 520 (.ref 144),cm P "data" 528 (.ref 151),cm P "_flush" 541 (.ref 160),cm P "start_ns" 550 (.ref 167),cm P "start" 560 (.ref 174),cm P "_start" 566 (.ref 180),cm P "end" 574 (.ref 187),cm P "comment" 582 (.ref 194),cm P "pi" 591 (.ref 201),cm P "__static_attributes__" 609 (.ref 202),cm P "__dict__" 611 (.ref 205),cm P "__weakref__" 613 (.ref 206),cm P "__doc__" 614 (.none)] 4),
 (204,⟨.type "type",none,.cls { name:=ofString "C14NWriterTarget",bases:=[.type "object"],mro:=[.ref 204,.type "object"],ns:=203,qualname:=ofString "C14NWriterTarget" },#[none,none,some (.str (ofString "C14NWriterTarget") 452),some (.str (ofString "C14NWriterTarget") 460),some (.builtin "object.__new__"),some (.bool true)]⟩),
 (215,bV "_escape_cdata_c14n" "_escape_cdata_c14n" (bu 32) (.none) (.none) (.str (ofString "cpy313.xml.etree.ElementTree") 381) 214),
 (222,bV "_escape_attrib_c14n" "_escape_attrib_c14n" (bu 33) (.none) (.none) (.str (ofString "cpy313.xml.etree.ElementTree") 381) 221),
 (229,bV "_law_modes" "_law_modes" (bu 35) (.none) (.none) (.str (ofString "law_pk0129_01") 631) 228),
 (236,bV "_law_told" "_law_told" (bu 36) (.none) (.none) (.str (ofString "law_pk0129_01") 631) 235),
 (243,bV "_law_codes" "_law_codes" (bu 37) (.none) (.none) (.str (ofString "law_pk0129_01") 631) 242),
 (250,bV "_law_row" "_law_row" (bu 38) (.none) (.none) (.str (ofString "law_pk0129_01") 631) 249),
 (255,bV "_law_due" "_law_due" (bu 39) (.none) (.none) (.str (ofString "law_pk0129_01") 631) 254),
 (262,bV "law" "law" (bu 40) (.none) (.none) (.str (ofString "law_pk0129_01") 631) 261)
]
noncomputable def Aa:List Addr:=[3,4,45,52,53,54,55,56,57,58,59,60,61,62,63,64,65,66,67,68,69,70,71,72,73,74,75,76,77,78,79,80,81,82,83,84,85,92,114,121,122,129,137,144,151,152,153,160,174,175,180,187,203,204,215,222,229,236,243,250,255,262]
noncomputable def oU:List Addr:=[44,51,91,120,128,143,150,159,173,179,186,214,221,228,235,242,249,254,261]
noncomputable def qM:List Str:=[ofString "S_IMODE",ofString "S_IFMT",ofString "filemode",ofString "C14NWriterTarget.__init__",ofString "C14NWriterTarget._iter_namespaces",ofString "C14NWriterTarget._qname",ofString "C14NWriterTarget.data",ofString "C14NWriterTarget._flush",ofString "C14NWriterTarget.start",ofString "C14NWriterTarget._start",ofString "C14NWriterTarget.end",ofString "_escape_cdata_c14n",ofString "_escape_attrib_c14n",ofString "_law_modes",ofString "_law_told",ofString "_law_codes",ofString "_law_row",ofString "_law_due",ofString "law"]
noncomputable def vk:Value->Nat
 | .str _ _=>1
 | .int _ _=>2
 | .bool _=>3
 | _=>0
noncomputable def vS:Value->Option Str
 | .str q _=>some q
 | _=>none
noncomputable def fv (o:Obj):Option (Array Value):=match o.3 with
 | .fields vs=>some vs
 | _=>none
theorem vU {o:Obj} {vs:Array Value} (e:fv o=some vs):o.3=.fields vs:=by
 obtain ⟨_,_,p,_⟩:=o;cases p with
 | fields _=>exact congrArg _ (Option.some.inj e)
 | _=>cases e
theorem zB {v:Value} {q:Str} (e:vS v=some q):∃ t,v=.str q t:=by
 cases v with
 | str _ t=>exact ⟨t,Option.some.inj e ▸ rfl⟩
 | _=>cases e
theorem CC {v:Value} (e:vk v=1):∃ s t,v=.str s t:=by
 cases v with
 | str s t=>exact ⟨s,t,rfl⟩
 | _=>cases e
theorem Cd {v:Value} (e:vk v=2):∃ s t,v=.int s t:=by
 cases v with
 | int s t=>exact ⟨s,t,rfl⟩
 | _=>cases e
theorem CD {v:Value} (e:vk v=3):∃ s,v=.bool s:=by
 cases v with
 | bool s=>exact ⟨s,rfl⟩
 | _=>cases e
noncomputable def qO (h:Heap) (a:Addr):Option Str:=(h.get? a).bind λo=>(fv o).bind λvs=>vs[1]?.bind vS
theorem qP {h:Heap} {a:Addr} {q:Str} (e:qO h a=some q):h.CodeRec (.ref a) q:=by
 refine ap (Option.bind_eq_some_iff.mp e) λo g e=>?_;refine ap (Option.bind_eq_some_iff.mp e) λvs f e=>?_;refine ap (Option.bind_eq_some_iff.mp e) λv hv e=>?_;refine aH (zB e) λt e=>?_;exact ⟨a,o,vs,t,rfl,g,vU f,e ▸ hv⟩
noncomputable def sN (h:Heap):Option (Value × Option Value × Bool):=(h.get? 179).bind λo=>(fv o).map λvs=>(o.1,vs[11]?,vk (vs.getD 18 .none)==1 && (vk (vs.getD 7 .none)==2 && (vk (vs.getD 9 .none)==3 && vk (vs.getD 10 .none)==2)))
theorem tR {h:Heap} (e:sN h=some (.type "code",some (.ref 177),true)):CodeHd h 179 177:=by
 refine ap (Option.bind_eq_some_iff.mp e) λo g e=>?_;refine ap (Option.map_eq_some_iff.mp e) λvs f e=>?_;refine bh (Prod.mk.inj e) λe1 e=>?_;refine bh (Prod.mk.inj e) λe2 e=>?_;refine bh (Bool.and_eq_true_iff.mp e) λk1 e=>?_;refine bh (Bool.and_eq_true_iff.mp e) λk2 e=>?_;refine bh (Bool.and_eq_true_iff.mp e) λk3 k4=>?_;refine i4 (CC (eq_of_beq k1)) λ_ _ k1=>?_;refine i4 (Cd (eq_of_beq k2)) λ_ _ k2=>?_;refine aH (CD (eq_of_beq k3)) λ_ k3=>?_;refine i4 (Cd (eq_of_beq k4)) λ_ _ k4=>?_;refine ⟨o,vs,_,_,_,_,_,_,_,g,e1,vU f,e2,?_,k1,k2,k3,k4,by decide⟩
 rw [Array.getD_eq_getD_getElem?,e2];rfl
structure yW (w:World) (h:Heap):Prop where
 kin:(KF w.params).In h
 cod:∀ p∈oU.zip qM,h.CodeRec (.ref p.1) p.2
 sys:∃ o,h.get? 1=some o
 hdr:CodeHd h 179 177
noncomputable def hk:Hook where
 α:=List (Option Obj) × List (Option Str) × Bool × Option (Value × Option Value × Bool) × Option Obj
 obs:=λs=>(Aa.map s.heap.get?,oU.map (qO s.heap),(s.heap.get? 1).isSome,sN s.heap,s.heap.get? 177)
 val:=λw=>((KF w.params).map λp=>some p.2,qM.map some,true,some (.type "code",some (.ref 177),true),some (tabObj #[]))
 says:=λw h=>yW w h/\h.get? 177=some (tabObj #[])
 of:=λw s e=>by
   refine bh (Prod.mk.inj e) λe1 bl=>?_;refine bh (Prod.mk.inj bl) λe2 qT=>?_;refine bh (Prod.mk.inj qT) λe3 zW=>?_;refine bh (Prod.mk.inj zW) λe4 e5=>?_;refine ⟨⟨InK.of (K:=KF) (as:=Aa) (λ_=>rfl) w s e1,?_,Option.isSome_iff_exists.mp e3,tR e4⟩,e5⟩;have key:∀ (as:List Addr) (ns:List Str),as.map (qO s.heap)=ns.map some->∀ p∈as.zip ns,s.heap.CodeRec (.ref p.1) p.2:=by
     intro as;induction as with
     | nil=>intro ns _ p hp;simp at hp
     | cons a as ih =>
       intro ns h p hp;cases ns with
       | nil=>simp at hp
       | cons n ns =>
         simp only [List.map_cons,List.cons.injEq] at h;rw [List.zip_cons_cons] at hp;rcases List.mem_cons.mp hp with rfl | hp
         . exact qP h.1
         . exact ih ns h.2 p hp
   exact key _ _ e2
 keeps:=λw h h' T k=>⟨⟨T.1.kin.keeps k,λp hp=>(T.1.cod p hp).keeps k,aH T.1.sys λo e=>⟨o,k _ _ e⟩,T.1.hdr.keeps k⟩,k _ _ T.2⟩
structure qG (w:World) (hb:Heap):Prop where
 top:yW w hb
 nolimit:hb.NoLimit
 nodigits:∃ mc,hb.Ns cStatics mc/\mc "sys.int_max_str_digits"=none
 blt:∃ mb,hb.Ns builtinsNs mb/\∀ x:Str,x≠"__name__"->mb x=bootBuiltins x
theorem qG.keeps {w:World} {h h':Heap} (B:qG w h) (k:∀ b o,h.get? b=some o->h'.get? b=some o):qG w h' :=
 ⟨⟨B.top.kin.keeps k,λp hp=>(B.top.cod p hp).keeps k,aH B.top.sys λo e=>⟨o,k _ _ e⟩,B.top.hdr.keeps k⟩,B.nolimit.keeps k,ap B.nodigits λmc a b=>⟨mc,a.keeps k,b⟩,ap B.blt λmb a b=>⟨mb,a.keeps k,b⟩⟩
inductive LV where
 | none
 | bool (b:Bool)
 | int (i:Int)
 | str (s:Str)
 | tup (l:List LV)
 | loc (a:Addr)
 | val (v:Value)
 | bm (id:String) (a:Addr)
 | meth (f a:Addr)
inductive LO where
 | list (l:List LV)
 | dict (l:List (Str × LV))
 | inst (d:Addr)
 | cell (x:Option LV)
 | frame (l:List (Str × LV))
 | raw (f:Obj->Prop)
noncomputable def z4:Value->Bool
 | .builtin _=>true
 | .type _=>true
 | .ref a=>a < 263
 | _=>false
mutual
inductive RV (h:Heap):LV->Value->Prop where
 | none:RV h .none .none
 | bool (b:Bool):RV h (.bool b) (.bool b)
 | int (i:Int) (t:Tok):RV h (.int i) (.int i t)
 | str (s:Str) (t:Tok):RV h (.str s) (.str s t)
 | tup {l:List LV} {a:Addr} {vs:List Value} {n:Nat}:h.get? a=some (aM vs n)->aK h l vs->RV h (.tup l) (.ref a)
 | loc (a:Addr):RV h (.loc a) (.ref a)
 | val {v:Value}:z4 v=true->RV h (.val v) v
 | bm {id:String} {a b:Addr}:h.get? b=some (eR id (.ref a))->RV h (.bm id a) (.ref b)
 | meth {f a b:Addr}:h.get? b=some (kj f (.ref a))->RV h (.meth f a) (.ref b)
inductive aK (h:Heap):List LV->List Value->Prop where
 | nil:aK h [] []
 | cons {x:LV} {v:Value} {xs:List LV} {vs:List Value}:RV h x v->aK h xs vs->aK h (x::xs) (v::vs)
end
noncomputable def zQ (h:Heap):LV->Value->Prop
 | .none,w=>w=.none
 | .bool b,w=>w=.bool b
 | .int i,w=>∃ t,w=.int i t
 | .str s,w=>∃ t,w=.str s t
 | .loc a,w=>w=.ref a
 | .val v,w=>w=v
 | .tup l,w=>∃ a vs n,w=.ref a/\h.get? a=some (aM vs n)/\aK h l vs
 | .bm id a,w=>∃ b,w=.ref b/\h.get? b=some (eR id (.ref a))
 | .meth f a,w=>∃ b,w=.ref b/\h.get? b=some (kj f (.ref a))
theorem RV.inv {h:Heap} {lv:LV} {v:Value} (r:RV h lv v):zQ h lv v:=by
 cases r with
 | tup e q=>exact ⟨_,_,_,rfl,e,q⟩
 | bm e=>exact ⟨_,rfl,e⟩
 | meth e=>exact ⟨_,rfl,e⟩
 | int=>exact ⟨_,rfl⟩
 | str=>exact ⟨_,rfl⟩
 | none=>rfl
 | bool=>rfl
 | loc=>rfl
 | val=>rfl
theorem RV.tref {h:Heap} {l:List LV} {a:Addr} (r:RV h (.tup l) (.ref a)):∃ vs n,h.get? a=some (aM vs n)/\aK h l vs:=by
 refine f9 r.inv λ_ vs n ea e q=>?_;obtain rfl:=Value.ref.inj ea;exact ⟨vs,n,e,q⟩
theorem RV.bref {h:Heap} {id:String} {a b:Addr} (r:RV h (.bm id a) (.ref b)):h.get? b=some (eR id (.ref a)):=by
 refine ap r.inv λ_ eb e=>?_;obtain rfl:=Value.ref.inj eb;exact e
theorem RV.mref {h:Heap} {f a b:Addr} (r:RV h (.meth f a) (.ref b)):h.get? b=some (kj f (.ref a)):=by
 refine ap r.inv λ_ eb e=>?_;obtain rfl:=Value.ref.inj eb;exact e
theorem aK.inv {h:Heap} {x:LV} {xs:List LV} {ws:List Value} (r:aK h (x::xs) ws):∃ v vs,ws=v::vs/\RV h x v/\aK h xs vs:=by
 cases r with | cons a b=>exact ⟨_,_,rfl,a,b⟩
theorem aK.nil_ {h:Heap} {ws:List Value} (r:aK h [] ws):ws=[]:=by cases r;rfl
theorem aK.inv1 {h:Heap} {x:LV} {ws:List Value} (r:aK h [x] ws):∃ v,ws=[v]/\RV h x v:=by
 refine bl r.inv λv vs z0_ a b=>?_;clear r;obtain rfl:=z0_;rw [b.nil_];exact ⟨v,rfl,a⟩
theorem aK.inv2 {h:Heap} {x y:LV} {ws:List Value} (r:aK h [x,y] ws):∃ v w,ws=[v,w]/\RV h x v/\RV h y w:=by
 refine bl r.inv λv vs z1_ a b=>?_;obtain rfl:=z1_;refine ap b.inv1 λw z2_ b2=>?_;clear b r;obtain rfl:=z2_;exact ⟨v,w,rfl,a,b2⟩
theorem aK.inv3 {h:Heap} {x y z:LV} {ws:List Value} (r:aK h [x,y,z] ws):∃ v w u,ws=[v,w,u]/\RV h x v/\RV h y w/\RV h z u:=by
 refine bl r.inv λv vs z3_ a b=>?_;obtain rfl:=z3_;refine bl b.inv2 λw u z4_ b2 d=>?_;clear b r;obtain rfl:=z4_;exact ⟨v,w,u,rfl,a,b2,d⟩
noncomputable def gR (o:Obj):Prop:=(∃ vs n,o=aM vs n)\/(∃ id v,o=eR id v)\/∃ f v,o=kj f v
noncomputable def pn:Value->Bool
 | .type t=>t=="tuple" || t=="builtin_function_or_method" || t=="method"
 | _=>false
theorem z7 {o:Obj} (i:gR o):pn o.cls=true:=by
 rcases i with ⟨_,_,rfl⟩ | ⟨_,_,rfl⟩ | ⟨_,_,rfl⟩
 . exact (by decide:pn (.type "tuple")=true)
 . exact (by decide:pn (.type "builtin_function_or_method")=true)
 . exact (by decide:pn (.type "method")=true)
theorem kq {o:Obj} (h:pn o.cls=false):¬ gR o:=λi=>Bool.false_ne_true (h.symm.trans (z7 i))
noncomputable def cC (h h':Heap):Prop:=∀ b o,h.get? b=some o->gR o->h'.get? b=some o
theorem RV.keeps {h h':Heap} (k:cC h h') {x:LV} {v:Value} (r:RV h x v):RV h' x v :=
 RV.rec (motive_1:=λx v _=>RV h' x v) (motive_2:=λxs vs _=>aK h' xs vs) .none .bool .int .str (λe _ q=>.tup (k _ _ e (.inl ⟨_,_,rfl⟩)) q) .loc .val (λe=>.bm (k _ _ e (.inr (.inl ⟨_,_,rfl⟩)))) (λe=>.meth (k _ _ e (.inr (.inr ⟨_,_,rfl⟩)))) .nil (λ_ _ a b=>.cons a b) r
theorem aK.keeps {h h':Heap} (k:cC h h') {xs:List LV} {vs:List Value} (r:aK h xs vs):aK h' xs vs:=by
 induction xs generalizing vs with
 | nil=>rw [r.nil_];exact .nil
 | cons x xs ih=>refine bl r.inv λv vs z5_ a b=>?_;clear r;obtain rfl:=z5_;exact .cons (a.keeps k) (ih b)
inductive mf (P:Params) (h:Heap):List (Str × LV)->List DictEntry->Prop where
 | nil:mf P h [] []
 | cons {k:Str} {t:Tok} {x:LV} {v:Value} {l:List (Str × LV)} {es:List DictEntry}:RV h x v->mf P h l es->mf P h ((k,x)::l) (⟨PyData.keyHash P k,.str k t,v⟩::es)
theorem mf.keeps {P:Params} {h h':Heap} (k:cC h h') {l:List (Str × LV)} {es:List DictEntry} (d:mf P h l es):mf P h' l es:=by
 induction d with
 | nil=>exact .nil
 | cons r _ ih=>exact .cons (r.keeps k) ih
noncomputable def RO (P:Params) (h:Heap) (a:Addr):LO->Prop
 | .list l=>∃ vs n,h.get? a=some (az vs n)/\aK h l vs
 | .dict l=>∃ es n,h.get? a=some (dQ es n)/\mf P h l es/\(l.map (·.1)).Nodup
 | .inst d=>h.get? a=some ⟨.ref 204,some d,.plain,#[]⟩
 | .cell none=>∃ o,h.get? a=some o/\o.data=.cell none
 | .cell (some x)=>∃ o v,h.get? a=some o/\o.data=.cell (some v)/\RV h x v
 | .frame l=>∃ m,h.Ns a m/\∀ x lv,l.lookup x=some lv->∃ v,m x=some v/\RV h lv v
 | .raw f=>∃ o,h.get? a=some o/\f o/\¬ gR o
theorem RO.same {P:Params} {h h':Heap} {a:Addr} {o:LO} (r:RO P h a o) (k:cC h h') (e:∀ x,h.get? a=some x->h'.get? a=some x):RO P h' a o:=by
 cases o with
 | list l=>refine bb r λvs n g q=>?_;exact ⟨vs,n,e _ g,q.keeps k⟩
 | dict l=>refine bl r λvs n g q z=>?_;exact ⟨vs,n,e _ g,q.keeps k,z⟩
 | inst d=>exact e _ r
 | cell x =>
   cases x with
   | none=>refine ap r λo g d=>?_;exact ⟨o,e _ g,d⟩
   | some x=>refine bl r λo v g d q=>?_;exact ⟨o,v,e _ g,d,q.keeps k⟩
 | frame l =>
   refine ap r λm z6_ q=>?_;refine md z6_ λo es ep g rest=>?_;exact ⟨m,⟨o,es,ep,e _ g,rest⟩,λx lv hx=>ap (q x lv hx) λv hm rv=>⟨v,hm,rv.keeps k⟩⟩
 | raw f=>refine ap r λx g q=>?_;exact ⟨x,e _ g,q⟩
theorem RO.there {P:Params} {h:Heap} {a:Addr} {o:LO} (r:RO P h a o):∃ x,h.get? a=some x/\¬ gR x:=by
 cases o with
 | list l=>refine bb r λvs n g _=>?_;exact ⟨_,g,kq (by decide:pn (.type "list")=false)⟩
 | dict l=>refine bb r λvs n g _=>?_;exact ⟨_,g,kq (by decide:pn (.type "dict")=false)⟩
 | inst d=>exact ⟨_,r,kq rfl⟩
 | cell x =>
   have key:∀ (o:Obj) (y:Option Value),o.data=.cell y->¬ gR o:=λo y hd=>by
     rintro (⟨vs,n,rfl⟩ | ⟨id,v,rfl⟩ | ⟨f,v,rfl⟩)<;>cases hd
   cases x with
   | none=>refine ap r λo g d=>?_;exact ⟨_,g,key o _ d⟩
   | some x=>refine bl r λo v g d _=>?_;exact ⟨_,g,key o _ d⟩
 | frame l =>
   refine ap r λm z7_ _=>?_;refine f9 z7_ λo es ep g d _=>?_;refine ⟨_,g,?_⟩;rintro (⟨vs,n,rfl⟩ | ⟨id,v,rfl⟩ | ⟨f,v,rfl⟩)<;>cases d
 | raw f=>refine du r λx g _ q=>?_;exact ⟨x,g,q⟩
noncomputable abbrev ak:=List (Str × LV)
noncomputable abbrev aa:=List (Addr × LO)
theorem cZ {o:Obj} {es:Array DictEntry} {n:Nat} (h:o.data=.dict es n):¬ gR o:=by
 rintro (⟨vs,n,rfl⟩ | ⟨id,v,rfl⟩ | ⟨f,v,rfl⟩)<;>cases h
structure Cx where
 w:World
 hb:Heap
 os:OsState
 L:Addr
inductive bt where
 | v (x:LV) (u:Value)
 | o (a:Addr) (f:Obj->Prop)
 | g (i:Nat) (y:GenState)
noncomputable def bt.isG:bt->Bool
 | .g _ _=>true
 | _=>false
noncomputable def bt.adr:bt->Option Addr
 | .o a _=>some a
 | _=>none
noncomputable def tJ (c:Cx) (σ:aa) (s:Shared):bt->Prop
 | .v x u=>RV s.heap x u
 | .o a f=>(∃ b,s.heap.get? a=some b/\f b)/\a∉σ.map (·.1)/\a≠c.L/\c.hb.get? a=none
 | .g i y=>s.gens[i]?=some y
theorem tJ.same {c:Cx} {σ σ':aa} {s s':Shared} {p:bt} (h:tJ c σ s p) (ki:cC s.heap s'.heap) (ko:∀ a b,s.heap.get? a=some b->a∉σ.map (·.1)->a≠c.L->s'.heap.get? a=some b/\a∉σ'.map (·.1))
   (kg:s'.gens=s.gens):tJ c σ' s' p:=by
 cases p with
 | v x u=>exact RV.keeps ki h
 | o a f=>refine mN h λz8_ h2 h3 h4=>?_;obtain ⟨b,e,hf⟩:=z8_;exact ⟨⟨b,(ko a b e h2 h3).1,hf⟩,(ko a b e h2 h3).2,h3,h4⟩
 | g i y=>show s'.gens[i]?=some y;rw [kg];exact h
structure St (c:Cx) (le:ak) (σ:aa) (tmp:List bt) (s:Shared):Prop where
 fr:∃ m,Fr c.hb c.L s.heap m/\∀ x lv,le.lookup x=some lv->∃ v,m x=some v/\RV s.heap lv v
 ob:∀ p∈σ,RO c.w.params s.heap p.1 p.2
 nd:(σ.map (·.1)).Nodup
 ab:∀ p∈σ,c.hb.get? p.1=none/\p.1≠c.L
 tm:∀ p∈tmp,tJ c σ s p
 td:(tmp.filterMap bt.adr).Nodup
 bs:qG c.w c.hb
 gb:AllBare s.gens
 os:s.os=c.os
 tk:0 < s.toks
section
variable {c:Cx} {le:ak} {σ:aa} {tmp:List bt} {s:Shared}
theorem St.toks (S:St c le σ tmp s) (t:Nat) (ht:0 < t:=by first | exact Nat.succ_pos _ | assumption | lia):St c le σ tmp { s with toks:=t }:=⟨S.fr,S.ob,S.nd,S.ab,λp hp=>(S.tm p hp).same (λ_ _ e _=>e) (λ_ _ e n _=>⟨e,n⟩) rfl,S.td,S.bs,S.gb,S.os,ht⟩
theorem St.drawn (S:St c le σ tmp s) (d:Drawn):St c le σ tmp { s with drawn:=d }:=⟨S.fr,S.ob,S.nd,S.ab,λp hp=>(S.tm p hp).same (λ_ _ e _=>e) (λ_ _ e n _=>⟨e,n⟩) rfl,S.td,S.bs,S.gb,S.os,S.tk⟩
theorem St.hold (S:St c le σ tmp s) {x:LV} {v:Value} (r:RV s.heap x v):St c le σ (.v x v::tmp) s :=
 ⟨S.fr,S.ob,S.nd,S.ab,λp hp=>by rcases List.mem_cons.mp hp with rfl | hp;exact r;exact S.tm p hp,S.td,S.bs,S.gb,S.os,S.tk⟩
theorem St.drop (S:St c le σ tmp s) {tmp':List bt} (h:tmp'.Sublist tmp):St c le σ tmp' s :=
 ⟨S.fr,S.ob,S.nd,S.ab,λp hp=>S.tm p (h.subset hp),S.td.sublist (h.filterMap _),S.bs,S.gb,S.os,S.tk⟩
theorem St.drop1 {x:bt} (S:St c le σ (x::tmp) s):St c le σ tmp s:=S.drop (List.sublist_cons_self ..)
theorem St.grow (S:St c le σ tmp s) {h':Heap} (k:∀ b o,s.heap.get? b=some o->h'.get? b=some o):St c le σ tmp { s with heap:=h' }:=by
 have ki:cC s.heap h':=λb o e _=>k b o e;refine ap S.fr λm F q=>?_;refine ⟨⟨m,⟨F.ns.keeps k,λb o e=>k b o (F.keep b o e),F.above⟩,λx lv hx=>?_⟩,λp hp=>(S.ob p hp).same ki (k _),S.nd,S.ab,λp hp=>(S.tm p hp).same ki (λ_ _ e n _=>⟨k _ _ e,n⟩) rfl,S.td,S.bs,S.gb,S.os,S.tk⟩;refine ap (q x lv hx) λv hm r=>?_;exact ⟨v,hm,r.keeps ki⟩
theorem St.push (S:St c le σ tmp s) (o:Obj):St c le σ tmp { s with heap:=s.heap.push o }:=S.grow λ_ _ e=>Heap.get?_push_of_some o e
theorem St.own (S:St c le σ tmp s) {a:Addr} {o:LO} (r:RO c.w.params s.heap a o) (n1:a∉σ.map (·.1)) (n2:c.hb.get? a=none) (n3:a≠c.L) (n4:∀ b,bt.o a b∉tmp):St c le ((a,o)::σ) tmp s:=by
 refine ⟨S.fr,λp hp=>?_,?_,λp hp=>?_,λp hp=>?_,S.td,S.bs,S.gb,S.os,S.tk⟩
 . rcases List.mem_cons.mp hp with rfl | hp
   . exact r
   . exact S.ob p hp
 . rw [List.map_cons];exact List.nodup_cons.mpr ⟨n1,S.nd⟩
 . rcases List.mem_cons.mp hp with rfl | hp
   . exact ⟨n2,n3⟩
   . exact S.ab p hp
 . have h:=S.tm p hp;cases p with
   | v x u=>exact h
   | o b x =>
     refine ⟨h.1,?_,h.2.2.1,h.2.2.2⟩;rw [List.map_cons];intro e;refine Or.elim (List.mem_cons.mp e) (λe=>?_) λe=>?_
     . cases e;exact n4 x hp
     . exact h.2.1 e
   | g i y=>exact h
theorem St.lt (S:St c le σ tmp s):c.L < s.heap.objs.size:=ap S.fr λ_ F _=>F.ns.lt
theorem St.key_lt (S:St c le σ tmp s) {a:Addr} (h:a∈σ.map (·.1)):a < s.heap.objs.size:=by
 refine ap (List.mem_map.mp h) λp hp z9_=>?_;clear h;obtain rfl:=z9_;refine ap ((S.ob p hp).there) λx e _=>?_;exact Heap.lt_size e
theorem St.base_lt (S:St c le σ tmp s) {a:Addr} {o:Obj} (h:c.hb.get? a=some o):a < s.heap.objs.size:=by
 refine ap S.fr λm F _=>?_;exact Heap.lt_size (F.keep a o h)
theorem St.new (S:St c le σ tmp s) {o:Obj} {lo:LO} (r:RO c.w.params (s.heap.push o) s.heap.objs.size lo) :
   St c le ((s.heap.objs.size,lo)::σ) tmp { s with heap:=s.heap.push o }:=by
 refine (S.push o).own r (λh=>Nat.lt_irrefl _ (S.key_lt h)) ?_ (Nat.ne_of_gt S.lt) (λb hb=>ap ((S.tm _ hb).1) λ_ e _=>Nat.lt_irrefl _ (Heap.lt_size e));cases q:c.hb.get? s.heap.objs.size with
 | none=>rfl
 | some x=>exact absurd (S.base_lt q) (Nat.lt_irrefl _)
inductive oQ (a:Addr) (o:LO):aa->aa->Prop where
 | head {x:LO} {r:aa}:oQ a o ((a,x)::r) ((a,o)::r)
 | tail {p:Addr × LO} {r r':aa}:oQ a o r r'->oQ a o (p::r) (p::r')
theorem oQ.keys {a:Addr} {o:LO} {r r':aa} (u:oQ a o r r'):r'.map (·.1)=r.map (·.1):=by
 induction u with
 | head=>rfl
 | tail _ ih=>simp [ih]
theorem oQ.key_in {a:Addr} {o:LO} {r r':aa} (u:oQ a o r r'):a∈r.map (·.1):=by
 induction u with
 | head=>simp
 | tail _ ih=>exact .tail _ ih
theorem oQ.mem {a:Addr} {o:LO} {r r':aa} (u:oQ a o r r') (nd:(r.map (·.1)).Nodup):∀ p∈r',p=(a,o)\/(p∈r/\p.1≠a):=by
 induction u with
 | head =>
   intro p hp;rw [List.map_cons,List.nodup_cons] at nd;rcases List.mem_cons.mp hp with rfl | hp
   . exact .inl rfl
   . exact .inr ⟨.tail _ hp,λe=>nd.1 (by rw [<-e];exact List.mem_map.mpr ⟨p,hp,rfl⟩)⟩
 | @tail q r r' u ih =>
   intro p hp;rw [List.map_cons,List.nodup_cons] at nd;rcases List.mem_cons.mp hp with rfl | hp
   . refine .inr ⟨.head _,λe=>nd.1 ?_⟩;rw [e];exact u.key_in
   . rcases ih nd.2 p hp with h | ⟨h,h'⟩
     . exact .inl h
     . exact .inr ⟨.tail _ h,h'⟩
theorem St.upd (S:St c le σ tmp s) {a:Addr} {o:LO} {σ':aa} {h':Heap} (u:oQ a o σ σ') (hs:Heap.SameBut a s.heap h') (r:cC s.heap h'->RO c.w.params h' a o):St c le σ' tmp { s with heap:=h' }:=by
 refine ap (List.mem_map.mp u.key_in) λp hp z0_=>?_;obtain rfl:=z0_;refine ap ((S.ob p hp).there) λx ex nx=>?_;have ki:cC s.heap h':=λb y e i=>by
   have:b≠p.1:=by rintro rfl;rw [ex] at e;cases e;exact nx i
   exact (hs.2 b this).trans e
 refine ap S.fr λm F q=>?_;refine bh (S.ab p hp) λnb nL=>?_;refine ⟨⟨m,⟨F.ns.sameBut hs (Ne.symm nL),λb y e=>(hs.2 b ?_).trans (F.keep b y e),F.above⟩,λx lv hx=>?_⟩,λy hy=>?_,?_,λy hy=>?_,λy hy=>(S.tm y hy).same ki (λb z e n _=>⟨(hs.2 b (λe'=>n (e' ▸ List.mem_map.mpr ⟨p,hp,rfl⟩))).trans e,by rw [u.keys];exact n⟩) rfl,S.td,S.bs,S.gb,S.os,S.tk⟩
 . rintro rfl;rw [nb] at e;cases e
 . refine ap (q x lv hx) λv hm rr=>?_;exact ⟨v,hm,rr.keeps ki⟩
 . rcases u.mem S.nd y hy with rfl | ⟨h1,h2⟩
   . exact r ki
   . exact (S.ob y h1).same ki λz e=>(hs.2 _ h2).trans e
 . rw [u.keys];exact S.nd
 . rcases u.mem S.nd y hy with rfl | ⟨h1,_⟩
   . exact ⟨nb,nL⟩
   . exact S.ab y h1
theorem St.swap {it:Addr} {f:Obj->Prop} (S:St c le σ (.o it f::tmp) s) {h':Heap} (hs:Heap.ExtBut it s.heap h') (nf:∀ b,f b->¬ gR b):St c le σ tmp { s with heap:=h' }:=by
 refine mN (S.tm _ (.head _)) λz1_ n1 n2 n3=>?_;refine ap z1_ λb eb fb=>?_;have ki:cC s.heap h':=λa y e i=>hs a y (by rintro rfl;rw [eb] at e;cases e;exact nf _ fb i) e
 refine ap S.fr λm F q=>?_;have td:=S.td;rw [List.filterMap_cons] at td;simp only [bt.adr] at td;rw [List.nodup_cons] at td;refine ⟨⟨m,⟨F.ns.extBut hs (Ne.symm n2),λa y e=>hs a y ?_ (F.keep a y e),F.above⟩,λx lv hx=>?_⟩,λp hp=>(S.ob p hp).same ki λz e=>hs _ _ ?_ e,S.nd,S.ab,λp hp=>?_,td.2,S.bs,S.gb,S.os,S.tk⟩
 . rintro rfl;rw [n3] at e;cases e
 . refine ap (q x lv hx) λv hm r=>?_;exact ⟨v,hm,r.keeps ki⟩
 . rintro e';exact n1 (e' ▸ List.mem_map.mpr ⟨p,hp,rfl⟩)
 . have h:=S.tm p (.tail _ hp);cases p with
   | v x u=>exact RV.keeps ki h
   | o a g =>
     refine bh h λz2_ h2=>?_;refine ap z2_ λy ey gy=>?_;exact ⟨⟨y,hs a y (by rintro rfl;exact td.1 (List.mem_filterMap.mpr ⟨_,hp,rfl⟩)) ey,gy⟩,h2⟩
   | g i y=>exact h
theorem St.swapTo {it:Addr} {f f':Obj->Prop} (S:St c le σ (.o it f::tmp) s) {h':Heap} (hs:Heap.ExtBut it s.heap h') (nf:∀ b,f b->¬ gR b) {b':Obj} (e':h'.get? it=some b') (hf':f' b') :
   St c le σ (.o it f'::tmp) { s with heap:=h' }:=by
 have S':=S.swap hs nf;refine bh (S.tm _ (.head _)) λ_ n=>?_;refine ⟨S'.fr,S'.ob,S'.nd,S'.ab,λp hp=>?_,S.td,S'.bs,S'.gb,S'.os,S'.tk⟩;rcases List.mem_cons.mp hp with rfl | hp
 . exact ⟨⟨b',e',hf'⟩,n⟩
 . exact S'.tm p hp
theorem St.keep (S:St c le σ tmp s) {o:Obj} {f:Obj->Prop} (hf:f o) (hfr:o.isFreed=false):St c le σ (.o s.heap.objs.size f::tmp) { s with heap:=s.heap.push o }:=by
 have S':=S.push o;refine ⟨S'.fr,S'.ob,S'.nd,S'.ab,λp hp=>?_,?_,S'.bs,S'.gb,S'.os,S'.tk⟩
 . rcases List.mem_cons.mp hp with rfl | hp
   . refine ⟨⟨o,Heap.get?_push_size _ hfr,hf⟩,λh=>Nat.lt_irrefl _ (S.key_lt h),Nat.ne_of_gt S.lt,?_⟩;cases q:c.hb.get? s.heap.objs.size with
     | none=>rfl
     | some x=>exact absurd (S.base_lt q) (Nat.lt_irrefl _)
   . exact S'.tm p hp
 . rw [List.filterMap_cons];simp only [bt.adr];refine List.nodup_cons.mpr ⟨λh=>?_,S.td⟩;refine ap (List.mem_filterMap.mp h) λp hp e=>?_;cases p with
   | v x u=>cases e
   | o a g=>cases e;refine bh (S.tm _ hp) λz3_ _=>?_;obtain ⟨y,ey,_⟩:=z3_;exact Nat.lt_irrefl _ (Heap.lt_size ey)
   | g i y=>cases e
noncomputable def an (x:Str) (v:LV):ak->ak
 | []=>[(x,v)]
 | (y,u)::r=>if x==y then (y,v)::r else (y,u)::an x v r
theorem ag (x:Str) (v:LV) (y:Str):∀ le:ak,(an x v le).lookup y=if y=x then some v else le.lookup y:=by
 intro le;induction le with
 | nil =>
   unfold an;rw [List.lookup_cons];by_cases h:y=x
   . simp [h]
   . have:(y==x)=false:=beq_eq_false_iff_ne.mpr h;simp [h,this]
 | cons p r ih =>
   obtain ⟨z,u⟩:=p;unfold an;by_cases hx:x=z
   . subst hx;rw [if_pos (by simp),List.lookup_cons,List.lookup_cons]
     by_cases h:y=x
     . simp [h]
     . have:(y==x)=false:=beq_eq_false_iff_ne.mpr h;simp [h,this]
   . rw [if_neg (by simpa using hx),List.lookup_cons,List.lookup_cons,ih]
     by_cases h:y=z
     . subst h;have:¬ y=x:=λe=>hx e.symm;simp [this]
     . have:(y==z)=false:=beq_eq_false_iff_ne.mpr h;simp [this]
theorem St.store (S:St c le σ tmp s) {x:Str} {lv:LV} {v:Value} {h':Heap} (r:RV s.heap lv v) (hs:Heap.SameBut c.L s.heap h')
   (hn:∀ m,Fr c.hb c.L s.heap m->h'.Ns c.L (λy=>if y=x then some v else m y)) (t:Nat) (ht:0 < t:=by first | exact Nat.succ_pos _ | assumption | lia):St c (an x lv le) σ tmp { s with heap:=h',toks:=t }:=by
 refine ap S.fr λm F q=>?_;have ki:cC s.heap h':=λb y e i=>by
   have:b≠c.L:=by
     rintro rfl;refine f9 F.ns λo es ep ho hd _=>?_;rw [ho] at e;cases e;exact cZ hd i
   exact (hs.2 b this).trans e
 refine ⟨⟨_,F.set (hn m F) hs,λy lw hy=>?_⟩,λp hp=>(S.ob p hp).same ki λz e=>(hs.2 _ (S.ab p hp).2).trans e,S.nd,S.ab,λp hp=>(S.tm p hp).same ki (λb z e n nl=>⟨(hs.2 b nl).trans e,n⟩) rfl,S.td,S.bs,S.gb,S.os,ht⟩;rw [ag] at hy;by_cases h:y=x
 . rw [if_pos h] at hy;cases hy;exact ⟨v,by simp [h],r.keeps ki⟩
 . rw [if_neg h] at hy;refine ap (q y lw hy) λu hm rr=>?_;exact ⟨u,by simp [h,hm],rr.keeps ki⟩
end
structure br (n:Nat) (A:Around):Prop where
 handled:A.handled=none
 depth:A.depth+n<=500
 units:A.units+20*n<=2000
noncomputable abbrev Mo (w:World):Model:=model pg w
noncomputable def PV (c:Cx) (le:ak) (tmp:List bt) (K:LV->aa->Prop):Value->Shared->Prop :=
 λv s'=>∃ lv σ',St c le σ' (.v lv v::tmp) s'/\K lv σ'
noncomputable def dh:Value->Shared->Prop:=λ_ _=>False
noncomputable def WV (n:Nat) (c:Cx) (t:Sem Value) (le:ak) (σ:aa) (K:LV->aa->Prop):Prop :=
 ∀ A,br n A->∀ tmp s,St c le σ tmp s->wpAny (Mo c.w) A t (PV c le tmp K) dh s
noncomputable def WB (n:Nat) (c:Cx) (t:Sem Bool) (le:ak) (σ:aa) (K:Bool->aa->Prop):Prop :=
 ∀ A,br n A->∀ tmp s,St c le σ tmp s->wpAny (Mo c.w) A t (λb s'=>∃ σ',St c le σ' tmp s'/\K b σ') dh s
inductive LF where
 | next | brk | cont
 | ret (v:LV)
noncomputable def RF (h:Heap):LF->Flow->Prop
 | .next,f=>f=.next
 | .brk,f=>f=.brk
 | .cont,f=>f=.cont
 | .ret lv,f=>∃ v,f=.ret v/\RV h lv v
noncomputable def PF (c:Cx) (tmp:List bt) (K:LF->ak->aa->Prop):Flow->Shared->Prop :=
 λf s'=>∃ lf le' σ',RF s'.heap lf f/\St c le' σ' tmp s'/\K lf le' σ'
noncomputable def WF (n:Nat) (c:Cx) (t:Sem Flow) (le:ak) (σ:aa) (K:LF->ak->aa->Prop):Prop :=
 ∀ A,br n A->∀ tmp s,St c le σ tmp s->wpAny (Mo c.w) A t (PF c tmp K) dh s
section
variable {n:Nat} {c:Cx} {le:ak} {σ:aa} {env:Env}
theorem WV.mono {t:Sem Value} {K K':LV->aa->Prop} (h:WV n c t le σ K) (k:∀ v σ',K v σ'->K' v σ'):WV n c t le σ K':=λA hA tmp s S =>
 wpAny_mono (h A hA tmp s S) (by intro _ _ z0_;refine bb z0_ λlv σ' S' q=>?_;exact (⟨lv,σ',S',k _ _ q⟩)) λ_ _ x=>x
theorem WF.mono {t:Sem Flow} {K K':LF->ak->aa->Prop} (h:WF n c t le σ K) (k:∀ f l σ',K f l σ'->K' f l σ'):WF n c t le σ K':=λA hA tmp s S =>
 wpAny_mono (h A hA tmp s S) (by intro _ _ z1_;refine f9 z1_ λlf l σ' r S' q=>?_;exact (⟨lf,l,σ',r,S',k _ _ _ q⟩)) λ_ _ x=>x
theorem WB.mono {t:Sem Bool} {K K':Bool->aa->Prop} (h:WB n c t le σ K) (k:∀ b σ',K b σ'->K' b σ'):WB n c t le σ K':=λA hA tmp s S =>
 wpAny_mono (h A hA tmp s S) (by intro _ _ z2_;refine ap z2_ λσ' S' q=>?_;exact (⟨σ',S',k _ _ q⟩)) λ_ _ x=>x
noncomputable def OB (n:Nat) (c:Cx) (f:Value->Value->Sem Value) (x y:LV) (le:ak) (σ:aa) (K:LV->aa->Prop):Prop :=
 ∀ A,br n A->∀ tmp s vx vy,St c le σ tmp s->RV s.heap x vx->RV s.heap y vy->wpAny (Mo c.w) A (f vx vy) (PV c le tmp K) dh s
noncomputable def OU (n:Nat) (c:Cx) (f:Value->Sem Value) (x:LV) (le:ak) (σ:aa) (K:LV->aa->Prop):Prop :=
 ∀ A,br n A->∀ tmp s vx,St c le σ tmp s->RV s.heap x vx->wpAny (Mo c.w) A (f vx) (PV c le tmp K) dh s
noncomputable def OT (n:Nat) (c:Cx) (x:LV) (le:ak) (σ:aa) (K:Bool->aa->Prop):Prop :=
 ∀ A,br n A->∀ tmp s vx,St c le σ tmp s->RV s.heap x vx->wpAny (Mo c.w) A (truthy vx) (λb s'=>∃ σ',St c le σ' tmp s'/\K b σ') dh s
noncomputable def Cj (n:Nat) (c:Cx) (f:Value->Value->Sem Value) (x:LV) (le:ak) (K:LV->aa->Prop):LV->aa->Prop:=λy σ2=>OB n c f x y le σ2 K
noncomputable def KB (n:Nat) (c:Cx) (f:Value->Value->Sem Value) (r:Expr) (env:Env) (le:ak) (K:LV->aa->Prop):LV->aa->Prop:=λx σ1=>WV n c (eval r env) le σ1 (Cj n c f x le K)
noncomputable def KT (n:Nat) (c:Cx) (le:ak) (K:Bool->aa->Prop):LV->aa->Prop:=λx σ1=>OT n c x le σ1 K
noncomputable def KR (K:LF->ak->aa->Prop) (le:ak):LV->aa->Prop:=λv σ1=>K (.ret v) le σ1
noncomputable def Nx (n:Nat) (c:Cx) (rest:List Stmt) (env:Env) (K:LF->ak->aa->Prop):LF->ak->aa->Prop:=λf le1 σ1=>match f with | .next=>WF n c (execs rest env) le1 σ1 K | f=>K f le1 σ1
theorem pv {tmp:List bt} {s:Shared} {K:LV->aa->Prop} {lv:LV} {v:Value} (S:St c le σ tmp s) (r:RV s.heap lv v) (k:K lv σ):PV c le tmp K v s:=⟨lv,σ,S.hold r,k⟩
theorem cb {k:Nat} {pos:Pos} {K:LV->aa->Prop} (h:K .none σ):WV n c (eval (.Constant .none k pos) env) le σ K:=λ_ _ _ _ S=>wpAny_pure (pv S .none h)
theorem iX {b:Bool} {k:Nat} {pos:Pos} {K:LV->aa->Prop} (h:K (.bool b) σ):WV n c (eval (.Constant (.bool b) k pos) env) le σ K:=λ_ _ _ _ S=>wpAny_pure (pv S (.bool b) h)
theorem aq {i:Int} {k:Nat} {pos:Pos} {K:LV->aa->Prop} (h:K (.int i) σ):WV n c (eval (.Constant (.int i) k pos) env) le σ K:=λ_ _ _ _ S=>wpAny_Constant_int (pv (S.toks _) (.int i _) h)
theorem aB {x:Str} {k:Nat} {pos:Pos} {K:LV->aa->Prop} (h:K (.str x) σ):WV n c (eval (.Constant (.str x) k pos) env) le σ K:=λ_ _ _ _ S=>Calls.Constant_str (pv (S.toks _) (.str x _) h)
theorem ac {x:Str} {pos:Pos} {lv:LV} {K:LV->aa->Prop} (hv:le.lookup x=some lv) (h:K lv σ) (hk:env.scope.kind=.function:=by rfl) (hl:env.kindOf x=some .local:=by rfl)
   (hL:env.locals=c.L:=by rfl) (hd:(x==("__debug__":Str))=false:=by decide):WV n c (eval (.Name x pos) env) le σ K:=λA hA tmp s S=>by
 refine ap S.fr λm F q=>?_;refine ap (q x lv hv) λv hm r=>?_;exact wpAny_Name (wpAny_loadName_local hk hl (hL ▸ F.ns) hm (pv S r h)) hd
theorem ah {l r:Expr} {op:Operator} {pos:Pos} {K:LV->aa->Prop} (h:WV n c (eval l env) le σ (KB n c (binaryOp op) r env le K)) :
   WV n c (eval (.BinOp l op r pos) env) le σ K:=λA hA tmp s S =>
 wpAny_BinOp (wpAny_mono (h A hA tmp s S) (by intro vx s1 z3_;refine bb z3_ λx σ1 S1 h1=>?_;exact (wpAny_mono (h1 A hA _ s1 S1) (λvy s2 hx1_=>bb hx1_ λy σ2 S2 h2 =>
   h2 A hA _ s2 vx vy S2.drop1.drop1 (S2.tm _ (.tail _ (.head _))) (S2.tm _ (.head _))) λ_ _ x=>x)) λ_ _ x=>x)
theorem l8 {l r:Expr} {op:CmpOp} {pos:Pos} {K:LV->aa->Prop} (h:WV n c (eval l env) le σ (KB n c (compareOp op) r env le K))
   (hm:behindInMarks op r=false:=by with_unfolding_all rfl):WV n c (eval (.Compare l [op] [r] pos) env) le σ K:=λA hA tmp s S =>
 wpAny_Compare1 (wpAny_mono (h A hA tmp s S) (by intro vx s1 z4_;refine bb z4_ λx σ1 S1 h1=>?_;exact (wpAny_mono (h1 A hA _ s1 S1) (λvy s2 hx2_=>bb hx2_ λy σ2 S2 h2 =>
   h2 A hA _ s2 vx vy S2.drop1.drop1 (S2.tm _ (.tail _ (.head _))) (S2.tm _ (.head _))) λ_ _ x=>x)) λ_ _ x=>x) hm
theorem aA {l r:Expr} {op:CmpOp} {pos:Pos} {whole:Sem Value} {K:Bool->aa->Prop}
   (h:WV n c (eval l env) le σ (KB n c (compareOp op) r env le λv σ3=>∃ b,v=.bool b/\K b σ3))
   (hm:behindInMarks op r=false:=by with_unfolding_all rfl):WB n c (isTrue (.Compare l [op] [r] pos) env whole) le σ K:=λA hA tmp s S =>
 wpAny_isTrue_Compare1 (wpAny_mono (h A hA tmp s S) (by intro vx s1 z5_;refine bb z5_ λx σ1 S1 h1=>?_;exact (wpAny_mono (h1 A hA _ s1 S1) (λvy s2 hx3_=>bb hx3_ λy σ2 S2 h2 =>
   wpAny_mono (h2 A hA _ s2 vx vy S2.drop1.drop1 (S2.tm _ (.tail _ (.head _))) (S2.tm _ (.head _))) (λv s3 hq1=>by
     refine aH hq1 λlv y0_=>?_;refine ap y0_ λσ3 S3 y1_=>?_;refine ap y1_ λb e k=>?_;subst e;have r:=S3.tm _ (.head _);obtain rfl:=RV.inv r;exact wpAny_truthy_bool ⟨σ3,S3.drop1,k⟩) λ_ _ x=>x) λ_ _ x=>x)) λ_ _ x=>x) hm
theorem bo {e:Expr} {whole:Sem Value} {K:Bool->aa->Prop} (h:WV n c whole le σ (KT n c le K))
   (he:isTrue e env whole=(do let v <-whole;standAt e.pos;holding [v] (truthy v)):=by rfl):WB n c (isTrue e env whole) le σ K:=λA hA tmp s S =>
 isTrue_plain (wpAny_mono (h A hA tmp s S) (by intro vx s1 z6_;refine bb z6_ λx σ1 S1 h1=>?_;exact (h1 A hA _ s1 vx S1.drop1 (S1.tm _ (.head _)))) λ_ _ x=>x) he
theorem w7 {x:Expr} {pos:Pos} {whole:Sem Value} {K:Bool->aa->Prop} (h:WB n c (isTrue x env (eval x env)) le σ λb σ1=>K (!b) σ1):WB n c (isTrue (.UnaryOp .Not x pos) env whole) le σ K:=λA hA tmp s S =>
 isTrue_not (wpAny_mono (h A hA tmp s S) (λ_ _ q=>q) λ_ _ x=>x)
theorem aw {K:LF->ak->aa->Prop} (h:K .next le σ):WF n c (execs [] env) le σ K:=λ_ _ _ _ S=>wpAny_execs_nil ⟨.next,le,σ,rfl,S,h⟩
theorem ae {st:Stmt} {rest:List Stmt} {K:LF->ak->aa->Prop}
   (h:WF n c (exec st env) le σ (Nx n c rest env K)):WF n c (execs (st::rest) env) le σ K:=λA hA tmp s S =>
 wpAny_execs_cons (wpAny_mono (h A hA tmp s S) (λf s1 hq2=>by
   refine f9 hq2 λlf le1 σ1 r S1 h1=>?_;cases lf with
   | next=>cases r;exact (show WF n c (execs rest env) le1 σ1 K from h1) A hA tmp s1 S1
   | brk=>cases r;exact ⟨.brk,le1,σ1,rfl,S1,h1⟩
   | cont=>cases r;exact ⟨.cont,le1,σ1,rfl,S1,h1⟩
   | ret lv=>refine ap r λv z7_ rv=>?_;clear hq2 r;obtain rfl:=z7_;exact ⟨.ret lv,le1,σ1,⟨v,rfl,rv⟩,S1,h1⟩) λ_ _ x=>x)
theorem bE {e:Expr} {pos:Pos} {K:LF->ak->aa->Prop} (h:WV n c (eval e env) le σ (KR K le)):WF n c (exec (.Return (some e) pos) env) le σ K:=λA hA tmp s S =>
 wpAny_Return_some (wpAny_mono (h A hA tmp s S) (by intro v s1 z8_;refine bb z8_ λlv σ1 S1 h1=>?_;exact (⟨.ret lv,le,σ1,⟨v,rfl,S1.tm _ (.head _)⟩,S1.drop1,h1⟩)) λ_ _ x=>x)
theorem qy {pos:Pos} {K:LF->ak->aa->Prop} (h:K .brk le σ):WF n c (exec (.Break pos) env) le σ K:=λA hA tmp s S=>by
 rw [arm_exec_Break];exact wpAny_bind (wpAny_standAt (wpAny_pure ⟨.brk,le,σ,rfl,S,h⟩))
theorem bD {test:Expr} {body orelse:List Stmt} {pos:Pos} {K:LF->ak->aa->Prop}
   (h:WB n c (isTrue test env (eval test env)) le σ λb σ1=>if b then WF n c (execs body env) le σ1 K else WF n c (execs orelse env) le σ1 K):WF n c (exec (.If test body orelse pos) env) le σ K:=λA hA tmp s S =>
 wpAny_If (wpAny_mono (h A hA tmp s S) (λb s1 hq3=>by
   refine ap hq3 λσ1 S1 h1=>?_;cases b with
   | true=>exact (show WF n c (execs body env) le σ1 K from h1) A hA tmp s1 S1
   | false=>exact (show WF n c (execs orelse env) le σ1 K from h1) A hA tmp s1 S1) λ_ _ x=>x)
theorem jO {A:Around} {tmp:List bt} {s:Shared} {x:Str} {lv:LV} {v:Value} {Q:Unit->Shared->Prop} {E:Value->Shared->Prop} (S:St c le σ tmp s) (r:RV s.heap lv v)
   (k:∀ s',St c (an x lv le) σ tmp s'->Q () s') (hk:env.scope.kind=.function:=by rfl) (hl:env.kindOf x=some .local:=by rfl) (hL:env.locals=c.L:=by rfl):wpAny (Mo c.w) A (storeName env x v) Q E s:=by
 refine ap S.fr λm F q=>?_;refine wpAny_storeName_local hl (hL ▸ F.ns) (λh' hn hs=>k _ ?_) (by rw [hk];rfl)
 rw [hL] at hn hs;refine S.store (x:=x) r hs (λm' F'=>?_) _;refine qT F.ns λo es ep ho hd _ hf=>?_;refine qT F'.ns λo' es' ep' ho' hd' _ hf'=>?_;rw [ho] at ho';obtain rfl:=Option.some.inj ho';rw [hd] at hd';cases hd';have:m'=m:=funext λy=>by rw [<-hf,<-hf']
 rw [this];exact hn
theorem ax {x:Str} {pos' pos:Pos} {value:Expr} {K:LF->ak->aa->Prop} (h:WV n c (eval value env) le σ λv σ1=>K .next (an x v le) σ1)
   (hk:env.scope.kind=.function:=by rfl) (hl:env.kindOf x=some .local:=by rfl) (hL:env.locals=c.L:=by rfl) (hs:swapsWith value (some (.Name x pos')) pos.line env=pure false:=by rfl) :
   WF n c (exec (.Assign [.Name x pos'] value pos) env) le σ K:=λA hA tmp s S =>
 wpAny_Assign_Name (wpAny_mono (h A hA tmp s S) (λv s1 hx4_=>bb hx4_ λlv σ1 S1 h1 =>
   jO S1.drop1 (S1.tm _ (.head _)) (λs' S'=>⟨.next,_,σ1,rfl,S',h1⟩) hk hl hL) λ_ _ x=>x) hs
end
noncomputable def pd:Obj:=⟨.none,none,.freed,#[]⟩
noncomputable def aQ (h:Heap) (ks:List Addr):Heap:=⟨h.objs.mapIdx λi o=>if ks.contains i then pd else o,h.life⟩
theorem dW (h:Heap) (ks:List Addr):(aQ h ks).objs.size=h.objs.size:=by simp [aQ]
theorem aX (h:Heap) (ks:List Addr) (b:Addr):(aQ h ks).get? b=if b∈ks then none else h.get? b:=by
 unfold Heap.get? aQ;simp only [Array.getElem?_mapIdx];by_cases hb:b∈ks
 . rw [if_pos hb];cases q:h.objs[b]? with
   | none=>simp [q]
   | some o=>simp [q,hb,pd]
 . rw [if_neg hb];cases q:h.objs[b]? with
   | none=>simp [q]
   | some o=>simp [q,hb]
noncomputable def LF.val:LF->LV
 | .ret v=>v
 | _=>.none
noncomputable def WC (n:Nat) (c:Cx) (f:Value) (args:List LV) (le:ak) (σ:aa) (K:LV->aa->Prop):Prop :=
 ∀ A,br n A->∀ tmp s vs,St c le σ tmp s->aK s.heap args vs->wpAny (Mo c.w) A (call f vs) (PV c le tmp K) dh s
noncomputable def FS (n:Nat) (w:World) (a:Addr) (args:List LV) (σ:aa) (K:LV->aa->Prop):Prop:=∀ c:Cx,c.w=w->∀ le,WC n c (.ref a) args le σ K
structure kG (σ'' σ':aa):Prop where
 sub:∀ p∈σ'',p∈σ'
 nd:(σ''.map (·.1)).Nodup
theorem br.le {n m:Nat} {A:Around} (h:br n A) (k:m<=n):br m A:=⟨h.handled,by have:=h.depth;lia,by have:=h.units;lia⟩
theorem br.deeper {n:Nat} {A:Around} (h:br (n+1) A) (env:Env):br n (A.deeper env):=⟨h.handled,by have:=h.depth;show A.depth+1+n<=500;exact zJ this rfl,by have:=h.units;show A.units+3+20*n<=2000;exact B4 this rfl⟩
theorem br.in1 {n:Nat} {A:Around} (h:br (n+1) A):br n A.in1:=⟨h.handled,by have:=h.depth;show A.depth+n<=500;exact AE this rfl,by have:=h.units;show A.units+1+20*n<=2000;exact B4 this rfl⟩
theorem br.depthLt {n:Nat} {A:Around} (h:br n A):A.depth < recursionLimit:=by have:=h.depth;show A.depth < 1000;lia
theorem br.unitsLt {n:Nat} {A:Around} (h:br n A):A.units < cLine:=by have:=h.units;show A.units < 9900;lia
theorem St.part {c:Cx} {le:ak} {σ σ':aa} {tmp:List bt} {s:Shared} (S:St c le σ tmp s) (p:kG σ' σ):St c le σ' tmp s :=
 ⟨S.fr,λq hq=>S.ob q (p.sub q hq),p.nd,λq hq=>S.ab q (p.sub q hq),λq hq=>(S.tm q hq).same (λ_ _ e _=>e) (λa b e n _=>⟨e,λh=>by
   refine ap (List.mem_map.mp h) λz hz z0_=>?_;clear e h;obtain rfl:=z0_;exact n (List.mem_map.mpr ⟨z,p.sub z hz,rfl⟩)⟩) rfl,S.td,S.bs,S.gb,S.os,S.tk⟩
theorem aK.length {h:Heap} {xs:List LV} {vs:List Value} (r:aK h xs vs):xs.length=vs.length:=by
 induction xs generalizing vs with
 | nil=>rw [r.nil_];rfl
 | cons x xs ih=>refine bl r.inv λv vs z1_ _ b=>?_;clear r;obtain rfl:=z1_;exact congrArg Nat.succ (ih b)
theorem aK.append {h:Heap} {xs ys:List LV} {vs us:List Value} (r:aK h xs vs) (q:aK h ys us):aK h (xs++ys) (vs++us):=by
 induction xs generalizing vs with
 | nil=>rw [r.nil_];exact q
 | cons x xs ih=>refine bl r.inv λv vs z2_ a b=>?_;clear r;obtain rfl:=z2_;exact .cons a (ih b)
theorem ii {h:Heap} {ns:List Str} {xs:List LV} {vs:List Value} (rs:aK h xs vs) {x:Str} {lv:LV} (e:(ns.zip xs).lookup x=some lv):∃ v,(ns.zip vs).lookup x=some v/\RV h lv v:=by
 induction ns generalizing xs vs with
 | nil=>exact nQ e
 | cons y ns ih =>
   cases xs with
   | nil=>exact nQ e
   | cons a xs =>
     obtain ⟨v,vs,rfl,r,rs⟩:=rs.inv;rw [List.zip_cons_cons,List.lookup_cons] at e ⊢;cases q:x==y with
     | true=>rw [q] at e;clear ih;obtain rfl:=Option.some.inj e;exact ⟨v,rfl,r⟩
     | false=>rw [q] at e;exact ih rs e
theorem bR {α:Type} {l:List (Str × α)} {x:Str} {v:α} (e:l.lookup x=some v):(x,v)∈l:=by
 induction l with
 | nil=>exact nQ e
 | cons p r ih =>
   rw [List.lookup_cons] at e;cases q:x==p.1 with
   | true=>rw [q] at e;clear ih;obtain rfl:=Option.some.inj e;rw [beq_iff_eq.mp q];exact .head _
   | false=>rw [q] at e;exact .tail _ (ih e)
theorem mt {α:Type} {l:List (Str × α)} {x:Str} {v:α} (nd:(l.map (·.1)).Nodup) (m:(x,v)∈l):l.lookup x=some v:=by
 induction l with
 | nil=>exact nM m
 | cons p r ih =>
   rw [List.map_cons,List.nodup_cons] at nd;rw [List.lookup_cons];refine Or.elim (List.mem_cons.mp m) (λe=>?_) λm=>?_
   . clear nd m;subst e;simp
   . have:(x==p.1)=false:=beq_eq_false_iff_ne.mpr λe=>nd.1 (e ▸ List.mem_map.mpr ⟨(x,v),m,rfl⟩);rw [this];exact ih nd.2 m
theorem lB {α:Type} {l:List (Str × α)} (nd:(l.map (·.1)).Nodup) {x:Str} {v:α} (e:l.lookup x=some v):l.reverse.lookup x=some v :=
 mt (by rw [List.map_reverse];exact List.pairwise_reverse.mpr (List.Pairwise.imp (λh=>Ne.symm h) nd)) (List.mem_reverse.mpr (bR e))
theorem jC {α:Type}:∀ {ns:List Str} {xs:List α},ns.length=xs.length->(ns.zip xs).map (·.1)=ns:=by
 intro ns;induction ns with
 | nil=>exact λ_=>rfl
 | cons n ns ih =>
   intro xs h;cases xs with
   | nil=>cases h
   | cons x xs=>exact congrArg (n::·) (ih (Nat.succ.inj h))
section
variable {n:Nat} {w:World} {a:Addr} {nm q:Str} {st:Option Stmt} {d k pm:Value} {cd:Addr} {names:List Str} {args dl:List LV} {dv:List Value} {σ:aa} {K:LV->aa->Prop}
theorem St.back {c:Cx} {le:ak} {tmp:List bt} {s s':Shared} {L':Addr} {le':ak} {σ' σ'':aa} {lv:LV} {v:Value} (S:St c le σ tmp s)
   (S':St ⟨c.w,aQ s.heap (σ.map (·.1)),c.os,L'⟩ le' σ' (tmp.filter bt.isG) s') (p:kG σ'' σ') (r:RV s'.heap lv v):St c le σ'' (.v lv v::tmp) s':=by
 refine ap S'.fr λm' F' _=>?_;have keep:∀ b o,s.heap.get? b=some o->b∉σ.map (·.1)->s'.heap.get? b=some o:=λb o e nb=>F'.keep b o (by show (aQ s.heap (σ.map (·.1))).get? b=_;rw [aX,if_neg nb];exact e)
 have nL:c.L∉σ.map (·.1):=λh=>by
   refine ap (List.mem_map.mp h) λx hx e=>?_;exact (S.ab x hx).2 e
 have ki:cC s.heap s'.heap:=λb o e i=>keep b o e λh=>by
   refine ap (List.mem_map.mp h) λx hx z3_=>?_;clear h;obtain rfl:=z3_;refine ap ((S.ob x hx).there) λy ey ny=>?_;rw [ey] at e;obtain rfl:=Option.some.inj e;exact ny i
 refine ap S.fr λm F q=>?_;refine ⟨⟨m,⟨?_,λb o e=>keep b o (F.keep b o e) λh=>?_,F.above⟩,λx lw hx=>?_⟩,λx hx=>S'.ob x (p.sub x hx),p.nd,λx hx=>?_,λx hx=>?_,S.td,S.bs,S'.gb,S'.os,S'.tk⟩
 . refine md F.ns λo es ep ho rest=>?_;exact ⟨o,es,ep,keep _ _ ho nL,rest⟩
 . refine ap (List.mem_map.mp h) λx hx z4_=>?_;clear h;obtain rfl:=z4_;rw [(S.ab x hx).1] at e;cases e
 . refine ap (q x lw hx) λu hm ru=>?_;exact ⟨u,hm,ru.keeps ki⟩
 . have z:=(S'.ab x (p.sub x hx)).1;rw [show (Cx.hb _)=aQ s.heap (σ.map (·.1)) from rfl,aX] at z
   by_cases hk:x.1∈σ.map (·.1)
   . refine ap (List.mem_map.mp hk) λy hy e=>?_;rw [<-e];exact S.ab y hy
   . rw [if_neg hk] at z;refine ⟨?_,?_⟩
     . cases u:c.hb.get? x.1 with
       | none=>rfl
       | some o=>rw [F.keep _ _ u] at z;cases z
     . intro e;refine md F.ns λo es ep ho _=>?_;rw [e,ho] at z;cases z
 . rcases List.mem_cons.mp hx with rfl | hx
   . exact r
   . have h:=S.tm x hx;cases x with
     | v y u=>exact RV.keeps ki h
     | o b y =>
       refine mN h λz5_ h2 h3 h4=>?_;refine ap z5_ λob eb fb=>?_;refine ⟨⟨ob,keep b ob eb h2,fb⟩,λhm=>?_,h3,h4⟩;refine ap (List.mem_map.mp hm) λz hz e=>?_;have zn:=(S'.ab z (p.sub z hz)).1;rw [show (Cx.hb _)=aQ s.heap (σ.map (·.1)) from rfl,aX,e,if_neg h2,eb] at zn
       cases zn
     | g i y=>exact S'.tm (.g i y) (List.mem_filter.mpr ⟨hx,rfl⟩)
theorem nP {kw:List (Str × Value)} (hK:(KF w.params).lookup a=some (bV nm q st d k pm cd)) (hc:(cd,q)∈oU.zip qM)
   (hb:∀ (s:Shared) (vs:List Value),(KF w.params).In s.heap->vs.length=args.length->BindsTo s (uX nm q st d k pm cd) ⟨vs,kw⟩ (names.zip (vs++dv)))
   (hdl:∀ h,(KF w.params).In h->aK h dl dv) (hnd:names.Nodup) (hlen:names.length=(args++dl).length)
   (hloc:(names.all λx=>decide ((aE st).names.lookup x=some .local))=true)
   (hco:(aE st).isCoroutine=false) (hgen:(aE st).isGenerator=false) (hk:(aE st).kind=.function) (hcell:((aE st).names.all λx=>decide (x.2≠.cell))=true)
   (body:∀ c:Cx,c.w=w->WF n c (execs (bG st) (envOf q (aE st) c.L a (.ref cd))) (names.zip (args++dl)) σ λf _ σ'=>∃ σ'',kG σ'' σ'/\K f.val σ'') :
   ∀ c:Cx,c.w=w->∀ le A,br (n+1) A->∀ tmp s vs,St c le σ tmp s->aK s.heap args vs ->
     codeAny (Mo c.w) A (.call (.ref a) ⟨vs,kw⟩) (λr s'=>match r with | .ok (.ret v)=>PV c le tmp K v s' | .ok _=>False | .error e=>dh e s') s:=by
 intro c hw le A hA tmp s vs S hr;subst hw;refine ap S.fr λm F qm=>?_;have kin:(KF c.w.params).In s.heap:=S.bs.top.kin.keeps F.keep;have hlim:s.heap.NoLimit:=S.bs.nolimit.keeps F.keep;have hl:vs.length=args.length:=hr.length.symm;refine codeAny_call_function (fd:=uX nm q st d k pm cd) hA.depthLt (kin _ _ hK) rfl hco hgen rfl ((S.bs.top.cod _ hc).keeps F.keep) ?_;refine hb s vs kin hl _ _ _ _ ?_;have hn:((names.zip (vs++dv)).map (·.1))=names:=jC (by
   have:=(hdl s.heap kin).length;rw [hlen,List.length_append,List.length_append,hl,this])
 refine wpAny_newFunctionEnv (λx hx=>of_decide_eq_true (List.all_eq_true.mp hcell x hx)) (λx hx=>of_decide_eq_true (List.all_eq_true.mp hloc x.1 (by rw [<-hn];exact List.mem_map.mpr ⟨x,hx,rfl⟩))) (λh' hns hsb=>⟨hlim.fresh _ hsb,?_⟩) hk
 show codeAny _ _ (.func (bG st) (envOf q (aE st) s.heap.objs.size a (.ref cd))) _ _;refine codeAny_func ?_;have grow:∀ b o,s.heap.get? b=some o->h'.get? b=some o:=λb o e=>hsb.extBut b o (Nat.ne_of_lt (Heap.lt_size e)) (Heap.get?_push_of_some _ e);have ki:cC s.heap h':=λb o e _=>grow b o e;have kb:∀ b o,c.hb.get? b=some o->(aQ s.heap (σ.map (·.1))).get? b=some o:=λb o e=>by
   rw [aX,if_neg]
   . exact F.keep b o e
   . intro hm;refine ap (List.mem_map.mp hm) λx hx z6_=>?_;clear hm;obtain rfl:=z6_;rw [(S.ab x hx).1] at e;cases e
 have S1:St ⟨c.w,aQ s.heap (σ.map (·.1)),c.os,s.heap.objs.size⟩ (names.zip (args++dl)) σ (tmp.filter bt.isG) { s with heap:=h',toks:=s.toks+(names.zip (vs++dv)).length }:=by
   refine ⟨⟨_,⟨hns,λb o e=>?_,Nat.le_of_eq (dW _ _)⟩,λx lv hx=>?_⟩,λp hp=>(S.ob p hp).same ki (grow _),S.nd,λp hp=>⟨?_,Nat.ne_of_lt (S.key_lt (List.mem_map.mpr ⟨p,hp,rfl⟩))⟩,λp hp=>?_,S.td.sublist (List.filter_sublist.filterMap _),S.bs.keeps kb,S.gb,S.os,Nat.lt_of_lt_of_le S.tk (Nat.le_add_right _ _)⟩
   . have e:(aQ s.heap (σ.map (·.1))).get? b=some o:=e
     rw [aX] at e;split at e
     . cases e
     . exact grow b o e
   . refine ap (ii ((hr.keeps ki).append (hdl h' (kin.keeps grow))) hx) λv e1 r1=>?_;exact ⟨v,lB (by rw [hn];exact hnd) e1,r1⟩
   . show (aQ s.heap (σ.map (·.1))).get? p.1=none
     rw [aX,if_pos (List.mem_map.mpr ⟨p,hp,rfl⟩)]
   . refine bh (List.mem_filter.mp hp) λhp hg=>?_;cases p with
     | v y u=>cases hg
     | o b y=>cases hg
     | g i y=>exact S.tm (.g i y) hp
 refine wpAny_mono (body ⟨c.w,aQ s.heap (σ.map (·.1)),c.os,s.heap.objs.size⟩ rfl _ (hA.deeper _) _ _ S1) (λf s' hq4=>?_) λ_ _ x=>x.elim
 refine f9 hq4 λlf le' σ' rf S' y0_=>?_;refine ap y0_ λσ'' pt hK'=>?_;cases lf with
 | next=>cases rf;exact ⟨_,σ'',S.back S' pt .none,hK'⟩
 | brk=>cases rf;exact ⟨_,σ'',S.back S' pt .none,hK'⟩
 | cont=>cases rf;exact ⟨_,σ'',S.back S' pt .none,hK'⟩
 | ret lv=>refine ap rf λv z7_ rv=>?_;clear rf;obtain rfl:=z7_;exact ⟨lv,σ'',S.back S' pt rv,hK'⟩
theorem dw (hK:(KF w.params).lookup a=some (bV nm q st d k pm cd)) (hc:(cd,q)∈oU.zip qM)
   (hb:∀ (s:Shared) (vs:List Value),(KF w.params).In s.heap->vs.length=args.length->BindsTo s (uX nm q st d k pm cd) ⟨vs,[]⟩ (names.zip (vs++dv)))
   (hdl:∀ h,(KF w.params).In h->aK h dl dv) (hnd:names.Nodup) (hlen:names.length=(args++dl).length)
   (hloc:(names.all λx=>decide ((aE st).names.lookup x=some .local))=true)
   (hco:(aE st).isCoroutine=false) (hgen:(aE st).isGenerator=false) (hk:(aE st).kind=.function) (hcell:((aE st).names.all λx=>decide (x.2≠.cell))=true)
   (body:∀ c:Cx,c.w=w->WF n c (execs (bG st) (envOf q (aE st) c.L a (.ref cd))) (names.zip (args++dl)) σ λf _ σ'=>∃ σ'',kG σ'' σ'/\K f.val σ''):FS (n+1) w a args σ K:=by
 intro c hw le A hA tmp s vs S hr;exact wpAny_call (nP hK hc hb hdl hnd hlen hloc hco hgen hk hcell body c hw le A hA tmp s vs S hr)
end
section
variable {n:Nat} {c:Cx} {le:ak} {σ:aa} {env:Env}
noncomputable def sS (P:Params):List DictEntry:=match (KF P).lookup 3 with
 | some ⟨_,_,.dict es _,_⟩=>es.toList
 | _=>[]
noncomputable def lh (P:Params) (x:Str):Option Value:=nsFind (sS P).toArray x
theorem qG.glb {w:World} {h:Heap} (B:qG w h):h.Ns mainGlobals (lh w.params):=by
 refine ⟨dQ (sS w.params) 47,(sS w.params).toArray,47,B.top.kin _ _ rfl,rfl,?_,λ_=>rfl⟩;intro e he;have:(sS w.params).all (λe=>match e.key with | .str _ _=>true | _=>false)=true:=rfl
 have:=List.all_eq_true.mp this e (by simpa using he)
 split at this
 . rename_i x t q;exact ⟨x,t,q⟩
 . cases this
theorem bO {x:Str} {pos:Pos} {lv:LV} {v:Value} {K:LV->aa->Prop} (hv:lh c.w.params x=some v) (hr:∀ h,(KF c.w.params).In h->RV h lv v) (h:K lv σ)
   (hk:env.scope.kind=.function:=by rfl) (hl:env.kindOf x=some .globalImplicit:=by rfl) (hg:env.globals=mainGlobals:=by rfl) (hd:(x==("__debug__":Str))=false:=by decide) :
   WV n c (eval (.Name x pos) env) le σ K:=λA hA tmp s S=>by
 refine ap S.fr λm F q=>?_;exact Calls.Name_function_global hk hl (Calls.loadGlobal_global (hg ▸ (S.bs.keeps F.keep).glb) hv (pv S (hr _ (S.bs.keeps F.keep).top.kin) h)) hd
theorem be {x:Str} {pos:Pos} {v:Value} {K:LV->aa->Prop} (hm:lh c.w.params x=none) (hv:bootBuiltins x=some v) (h:K (.val v) σ) (hgl:z4 v=true:=by rfl) (hx:x≠"__name__":=by decide)
   (hk:env.scope.kind=.function:=by rfl) (hl:env.kindOf x=some .globalImplicit:=by rfl) (hg:env.globals=mainGlobals:=by rfl) (hb:env.builtins=builtinsNs:=by rfl) (hd:(x==("__debug__":Str))=false:=by decide) :
   WV n c (eval (.Name x pos) env) le σ K:=λA hA tmp s S=>by
 refine ap S.fr λm F q=>?_;refine ap ((S.bs.keeps F.keep).blt) λmb nb eb=>?_;exact Calls.Name_function_global hk hl (Calls.loadGlobal_builtin (hg ▸ (S.bs.keeps F.keep).glb) hm (hb ▸ nb) ((eb x hx).trans hv) (pv S (.val hgl) h)) hd
noncomputable def PA (c:Cx) (le:ak) (tmp:List bt) (K:List LV->aa->Prop):List Value->Shared->Prop :=
 λvs s'=>∃ lvs σ',St c le σ' tmp s'/\aK s'.heap lvs vs/\K lvs σ'
noncomputable def WA (n:Nat) (c:Cx) (es:List Expr) (env:Env) (le:ak) (σ:aa) (K:List LV->aa->Prop):Prop :=
 ∀ A,br n A->∀ (pos:Pos) tmp s,St c le σ tmp s->wpAny (Mo c.w) A (spliced (backTo pos (starEach es env))) (PA c le tmp K) dh s
noncomputable def Ck (K:List LV->aa->Prop) (x:LV):List LV->aa->Prop:=λxs σ2=>K (x::xs) σ2
noncomputable def Ch (n:Nat) (c:Cx) (rest:List Expr) (env:Env) (le:ak) (K:List LV->aa->Prop):LV->aa->Prop:=λx σ1=>WA n c rest env le σ1 (Ck K x)
theorem am {K:List LV->aa->Prop} (h:K [] σ):WA n c [] env le σ K:=λA hA pos tmp s S=>Calls.spliced_nil ⟨[],σ,S,.nil,h⟩
theorem af {e:Expr} {rest:List Expr} {K:List LV->aa->Prop} (h:WV n c (eval e env) le σ (Ch n c rest env le K))
   (hs:starEach (e::rest) env=(false,eval e env)::starEach rest env:=by rfl):WA n c (e::rest) env le σ K:=λA hA pos tmp s S=>by
 rw [hs];show wpAny _ _ (spliced ((false,eval e env)::backTo pos (starEach rest env))) _ _ _;exact Calls.spliced_cons (wpAny_mono (h A hA tmp s S) (by intro v s1 z0_;refine bb z0_ λx σ1 S1 h1=>?_;exact (wpAny_mono (h1 A hA pos _ s1 S1) (λvs s2 ⟨xs,σ2,S2,r2,h2⟩ =>
   ⟨x::xs,σ2,S2.drop1,.cons (S2.tm _ (.head _)) r2,h2⟩) λ_ _ x=>x)) λ_ _ x=>x)
noncomputable def OC (n:Nat) (c:Cx) (f:LV) (args:List Expr) (env:Env) (le:ak) (σ:aa) (K:LV->aa->Prop):Prop :=
 ∀ A,br n A->∀ (pos:Pos) tmp s fv,St c le σ tmp s->RV s.heap f fv->wpAny (Mo c.w) A (callWith pos fv [] (backTo pos (starEach args env)) []) (PV c le tmp K) dh s
noncomputable def KC (n:Nat) (c:Cx) (args:List Expr) (env:Env) (le:ak) (K:LV->aa->Prop):LV->aa->Prop:=λf σ1=>OC n c f args env le σ1 K
noncomputable def KW (n:Nat) (c:Cx) (v:Value) (le:ak) (K:LV->aa->Prop):List LV->aa->Prop:=λxs σ2=>WC n c v xs le σ2 K
theorem aC {func:Expr} {args:List Expr} {pos:Pos} {K:LV->aa->Prop} (h:WV n c (eval func env) le σ (KC n c args env le K))
   (he:eval (.Call func args [] pos) env=(do callWith pos (<-eval func env) [] (backTo pos (starEach args env)) (backToKw pos (keywordEach [] env))):=by rfl) :
   WV n c (eval (.Call func args [] pos) env) le σ K:=λA hA tmp s S =>
 Call_ (wpAny_mono (h A hA tmp s S) (by intro fv s1 z1_;refine bb z1_ λf σ1 S1 h1=>?_;exact (h1 A hA pos tmp s1 fv S1.drop1 (S1.tm _ (.head _)))) λ_ _ x=>x) he
theorem bn {M:Model} {A:Around} {E:Value->Shared->Prop} {s:Shared} {f:Value} {args:List Expr} {pos:Pos} {Q:Args->Shared->Prop} (hst:(starEach args env).any (·.1)=false)
   (h:wpAny M A (spliced (backTo pos (starEach args env))) (λvs s'=>Q ⟨vs,[]⟩ s') E s):wpAny M A (evalArgs f true (backTo pos (starEach args env)) []) Q E s:=by
 cases q:starEach args env with
 | nil =>
   rw [q] at h;exact λΓ p hΓ=>h Γ p hΓ
 | cons a r =>
   obtain ⟨b,t⟩:=a;rw [q] at hst h;simp only [List.any_cons,Bool.or_eq_false_iff] at hst;refine bh hst λhb _=>?_;clear q hst;subst hb;exact Calls.evalArgs_plain h
theorem cN (pos:Pos) (l:List (Bool × Sem Value)) (h:l.any (·.1)=false):(backTo pos l).any (·.1)=false:=by
 unfold backTo;rw [List.any_map];exact h
theorem eB {a:Addr} {nm q:Str} {st:Option Stmt} {d k pm:Value} {cd:Addr} {args:List Expr} {K:LV->aa->Prop} (hK:(KF c.w.params).lookup a=some (bV nm q st d k pm cd))
   (h:WA n c args env le σ (KW n c (.ref a) le K)) (hst:(starEach args env).any (·.1)=false:=by rfl):OC n c (.val (.ref a)) args env le σ K:=λA hA pos tmp s fv S r=>by
 obtain rfl:=RV.inv r;refine Calls.callWith_function (o:=bV nm q st d k pm cd) (fd:=uX nm q st d k pm cd) (bn hst (wpAny_mono (h A hA pos tmp s S) (λvs s1 hx1_=>bl hx1_ λxs σ1 S1 r1 h1=>⟨⟨?_,rfl⟩,h1 A hA tmp s1 vs S1 r1⟩) λ_ _ x=>x));refine ap S1.fr λm F _=>?_;exact (S1.bs.top.kin.keeps F.keep) _ _ hK
theorem cz {id:String} {args:List Expr} {K:LV->aa->Prop} (h:WA n c args env le σ (KW n c (.builtin id) le K)) (hst:(starEach args env).any (·.1)=false:=by rfl) :
   OC n c (.val (.builtin id)) args env le σ K:=λA hA pos tmp s fv S r=>by
 obtain rfl:=RV.inv r;exact Calls.callWith_builtin (cN _ _ hst) (bn hst (wpAny_mono (h A hA pos tmp s S) (by intro vs s1 z2_;refine bl z2_ λxs σ1 S1 r1 h1=>?_;exact (h1 A hA tmp s1 vs S1 r1)) λ_ _ x=>x))
theorem rI {a b:Int} {K:LV->aa->Prop} (h:K (.int (Builtin.bitAnd a b)) σ):OB n c (binaryOp .BitAnd) (.int a) (.int b) le σ K:=λA hA tmp s vx vy S r1 r2=>by
 refine aH (RV.inv r1) λ_ z3_=>?_;clear r1;obtain rfl:=z3_;refine aH (RV.inv r2) λ_ z4_=>?_;clear r2;obtain rfl:=z4_;exact and_int (pv (S.toks _) (.int _ _) h)
theorem bZ {a b:Int} {K:LV->aa->Prop} (h:K (.int (a+b)) σ):OB n c (binaryOp .Add) (.int a) (.int b) le σ K:=λA hA tmp s vx vy S r1 r2=>by
 refine aH (RV.inv r1) λ_ z5_=>?_;clear r1;obtain rfl:=z5_;refine aH (RV.inv r2) λ_ z6_=>?_;clear r2;obtain rfl:=z6_;exact add_int (pv (S.toks _) (.int _ _) h)
theorem wE {a b:Int} {K:LV->aa->Prop} (h:K (.int (a - b)) σ):OB n c (binaryOp .Sub) (.int a) (.int b) le σ K:=λA hA tmp s vx vy S r1 r2=>by
 refine aH (RV.inv r1) λ_ z7_=>?_;clear r1;obtain rfl:=z7_;refine aH (RV.inv r2) λ_ z8_=>?_;clear r2;obtain rfl:=z8_;exact sub_int (pv (S.toks _) (.int _ _) h)
theorem jl {a b:Int} {K:LV->aa->Prop} (hb:b≠0) (h:K (.int (a.fmod b)) σ):OB n c (binaryOp .Mod) (.int a) (.int b) le σ K:=λA hA tmp s vx vy S r1 r2=>by
 refine aH (RV.inv r1) λ_ z9_=>?_;clear r1;obtain rfl:=z9_;refine aH (RV.inv r2) λ_ z0_=>?_;clear r2;obtain rfl:=z0_;exact mod_int hb (pv (S.toks _) (.int _ _) h)
theorem gp {a b:Int} {K:LV->aa->Prop} (h:K (.bool (a==b)) σ):OB n c (compareOp .Eq) (.int a) (.int b) le σ K:=λA hA tmp s vx vy S r1 r2=>by
 refine aH (RV.inv r1) λ_ z1_=>?_;clear r1;obtain rfl:=z1_;refine aH (RV.inv r2) λ_ z2_=>?_;clear r2;obtain rfl:=z2_;exact eq_int (pv S (.bool _) h)
theorem wC {a b:Int} {K:LV->aa->Prop} (h:K (.bool (decide (b < a))) σ):OB n c (compareOp .Gt) (.int a) (.int b) le σ K:=λA hA tmp s vx vy S r1 r2=>by
 refine aH (RV.inv r1) λ_ z3_=>?_;clear r1;obtain rfl:=z3_;refine aH (RV.inv r2) λ_ z4_=>?_;clear r2;obtain rfl:=z4_;exact gt_int (pv S (.bool _) h)
theorem zl {a b:Int} {K:LV->aa->Prop} (h:K (.bool (decide (a < b))) σ):OB n c (compareOp .Lt) (.int a) (.int b) le σ K:=λA hA tmp s vx vy S r1 r2=>by
 refine aH (RV.inv r1) λ_ z5_=>?_;clear r1;obtain rfl:=z5_;refine aH (RV.inv r2) λ_ z6_=>?_;clear r2;obtain rfl:=z6_;exact lt_int (pv S (.bool _) h)
end
theorem iQ {w:World} {m:Int} {σ:aa} {K:LV->aa->Prop} (h:K (.int (Builtin.bitAnd m 4095)) σ) (hn:(σ.map (·.1)).Nodup):FS 1 w 45 [.int m] σ K:=by
 refine dw (names:=[ofString "mode"]) (dl:=[]) (dv:=[]) (hK:=by exact rfl) (hc:=by decide +kernel) ?_ (λ_ _=>.nil) (by decide) rfl (by decide +kernel) (by decide +kernel) (by decide +kernel) (by decide +kernel) (by decide +kernel) ?_
 . intro s vs _ hl;refine aH (lz hl) λv z7_=>?_;clear hl;obtain rfl:=z7_;exact BindsTo.of_eq (by kernel_rfl!)
 . intro c hc;refine ae (bE (ah ?_));refine ac rfl ?_;refine aq ?_;exact rI ⟨σ,⟨λ_ h=>h,hn⟩,h⟩
section
variable {n:Nat} {c:Cx} {le:ak} {σ:aa} {env:Env}
structure NX (n:Nat) (c:Cx) (target:Expr) (it:Value) (J:Nat->List bt) (items:List LV) (Z:aa->Prop):Prop where
 item:∀ i lv,items[i]?=some lv->∀ A,br n A->∀ le σ tmp s,Z σ->St c le σ (J i++tmp) s ->
   wpAny (Mo c.w) A (pyNext it) (λr s1=>∃ v,r=some v/\wpAny (Mo c.w) A (letOwnedTupleGo target it v) (λ_ s2=>St c le σ (.v lv v::(J (i+1)++tmp)) s2) dh s1) dh s
 done:∀ A,br n A->∀ le σ tmp s,Z σ->St c le σ (J items.length++tmp) s->wpAny (Mo c.w) A (pyNext it) (λr s1=>r=none/\St c le σ tmp s1) dh s
noncomputable def OI (n:Nat) (c:Cx) (target:Expr) (x:LV) (le:ak) (σ σ':aa) (items:List LV) (Z:aa->Prop):Prop :=
 ∀ A,br n A->∀ tmp s vx,St c le σ tmp s->RV s.heap x vx->wpAny (Mo c.w) A (pyIter vx) (λit s'=>∃ J,NX n c target it J items Z/\St c le σ' (J 0++tmp) s') dh s
noncomputable def g7 (n:Nat) (c:Cx) (target:Expr) (env:Env) (x:LV) (le:ak) (σ:aa) (K:ak->aa->Prop):Prop :=
 ∀ A,br n A->∀ tmp s vx,St c le σ tmp s->RV s.heap x vx->wpAny (Mo c.w) A (assign target env vx) (λ_ s'=>∃ le' σ',St c le' σ' tmp s'/\K le' σ') dh s
noncomputable def KL (L:ak->aa->Prop) (K:LF->ak->aa->Prop):LF->ak->aa->Prop:=λf le2 σ2=>match f with
 | .next=>L le2 σ2
 | .cont=>L le2 σ2
 | .brk=>K .next le2 σ2
 | .ret v=>K (.ret v) le2 σ2
noncomputable def Cm (n:Nat) (c:Cx) (body:List Stmt) (env:Env) (K:LF->ak->aa->Prop):ak->aa->Prop:=λle1 σ1=>WF n c (execs body env) le1 σ1 K
noncomputable def cW (n:Nat) (c:Cx) (target:Expr) (body orelse:List Stmt) (env:Env) (Z:aa->Prop) (K:LF->ak->aa->Prop):List LV->ak->aa->Prop
 | [],le,σ=>Z σ/\WF n c (execs orelse env) le σ K
 | x::xs,le,σ=>Z σ/\g7 n c target env x le σ (Cm n c body env (KL (cW n c target body orelse env Z K xs) K))
theorem lC {target:Expr} {body orelse:List Stmt} {it:Value} {J:Nat->List bt} {items:List LV} {Z:aa->Prop} {K:LF->ak->aa->Prop} {A:Around} {tmp:List bt} (hA:br n A)
   (N:NX n c target it J items Z):∀ (k:Nat) (s:Shared),(k<=items.length/\∃ le σ,St c le σ (J (items.length - k)++tmp) s/\cW n c target body orelse env Z K (items.drop (items.length - k)) le σ) ->
     codeAny (Mo c.w) A (.forLoop target it body orelse env) (λr s'=>∃ f,r=.ok f/\PF c tmp K f s') s:=by
 intro k s h;refine codeAny_forLoop_any (I:=λk s=>k<=items.length/\∃ le σ,St c le σ (J (items.length - k)++tmp) s/\cW n c target body orelse env Z K (items.drop (items.length - k)) le σ) (λk s hq5=>?_) k h;refine bh hq5 λhk y0_=>?_;refine bb y0_ λle σ S L=>?_;cases k with
 | zero =>
   rw [Nat.sub_zero] at S L;rw [List.drop_length] at L;refine bh L λz w=>?_;refine wpAny_mono (N.done A hA le σ tmp s z S) (λr s1 hq6=>?_) λ_ _ x=>x.elim;refine bh hq6 λe S1=>?_;clear hq6;subst e;exact wpAny_mono (w A hA tmp s1 S1) (λf s2 q=>⟨f,rfl,q⟩) λ_ _ x=>x.elim
 | succ k =>
   have hi:items.length - (k+1) < items.length:=J6 hk;have e:items.drop (items.length - (k+1))=items[items.length - (k+1)]::items.drop (items.length - k):=by
     rw [List.drop_eq_getElem_cons hi];congr 2;exact J7 hk
   rw [e] at L;refine bh L λz w=>?_;refine wpAny_mono (N.item _ _ (List.getElem?_eq_getElem hi) A hA le σ tmp s z S) (λr s1 hx2_=>ap hx2_ λv er h1=>?_) λ_ _ x=>x.elim;subst er;refine wpAny_mono h1 (λ_ s2 S2=>?_) λ_ _ x=>x.elim;have rv:=S2.tm _ (.head _);refine wpAny_mono (w A hA _ s2 v S2.drop1 rv) (λ_ s3 hq7=>?_) λ_ _ x=>x.elim;refine bb hq7 λle3 σ3 S3 h3=>?_;refine wpAny_mono (h3 A hA _ s3 S3) (λf s4 hq8=>?_) λ_ _ x=>x.elim;refine f9 hq8 λlf le4 σ4 rf S4 h4=>?_;have back:St c le4 σ4 tmp s4:=S4.drop (List.sublist_append_right ..);have next:items.length - (k+1)+1=items.length - k:=J7 hk
   rw [next] at S4
   cases lf with
   | next=>cases rf;exact ⟨k,Nat.lt_succ_self _,J8 hk,le4,σ4,S4,h4⟩
   | cont=>cases rf;exact ⟨k,Nat.lt_succ_self _,J8 hk,le4,σ4,S4,h4⟩
   | brk=>cases rf;exact ⟨_,rfl,.next,le4,σ4,rfl,back,h4⟩
   | ret lv=>refine ap rf λu z0_ ru=>?_;clear hq8 rf;obtain rfl:=z0_;exact ⟨_,rfl,.ret lv,le4,σ4,⟨u,rfl,ru⟩,back,h4⟩
theorem fA (A:Around):A.mark none=A:=by cases A;rfl
theorem xb {target iter:Expr} {body orelse:List Stmt} {pos:Pos} {K:LF->ak->aa->Prop} (items:List LV) (Z:aa->Prop)
   (h:WV n c (eval iter env) le σ λx σ1=>∃ σ2,OI n c target x le σ1 σ2 items Z/\cW n c target body orelse env Z K items le σ2)
   (hf:∀ x,foldedSetIterable iter env x=pure x:=by intro _;rfl):WF n c (exec (.For target iter body orelse pos) env) le σ K:=λA hA tmp s S=>by
 rw [arm_exec_For];refine wpAny_bind (wpAny_standAt (wpAny_bind (wpAny_mono (h A hA tmp s S) (λvx s1 hq9=>?_) λ_ _ x=>x)));refine aH hq9 λx y1_=>?_;refine ap y1_ λσ0 S1 y2_=>?_;refine ap y2_ λσ1 h1 h2=>?_;rw [hf];refine wpAny_bind (wpAny_pure (wpAny_bind (wpAny_standAt (wpAny_bind (wpAny_holding (wpAny_mono (h1 A hA tmp s1 vx S1.drop1 (S1.tm _ (.head _))) (λit s2 hq10=>?_) λ_ _ x=>x))))));refine ap hq10 λJ N S2=>?_;have R:=lC (env:=env) (body:=body) (orelse:=orelse) (K:=K) (tmp:=tmp) hA N items.length s2 ⟨Nat.le_refl _,le,σ1,by rw [Nat.sub_self];exact S2,by rw [Nat.sub_self];exact h2⟩
 refine wpAny_runOwn ?_;rw [fA];refine codeAny_mono R (λr s3 h3=>?_);refine ap h3 λf e q=>?_;clear h3;subst e;exact q
end
section
variable {n:Nat} {c:Cx} {le:ak} {σ:aa} {env:Env}
theorem gn {A:Around} {E:Value->Shared->Prop} {s:Shared} {w:World} {target:Expr} {I:Addr} {v:Value} {o:Obj} {nm:String} {vs:Array Value} {Q:Unit->Shared->Prop} (ho:s.heap.get? I=some o) (hc:o.cls=.type nm) (hd:o.data=.fields vs)
   (hn:(["enumerate","zip","dict_itemiterator","dict_reverseitemiterator","odict_iterator","itertools.zip_longest","itertools.pairwise"].contains nm)=false) (hQ:Q () s):wpAny (Mo w) A (letOwnedTupleGo target (.ref I) v) Q E s:=by
 have key:wpAny (Mo w) A (do
     let (.ref r,.ref a):=(Value.ref I,v) | return
     let o <-load r
     match o.cls,o.data with
     | .type n,.fields vs =>
       if ["enumerate","zip","dict_itemiterator","dict_reverseitemiterator","odict_iterator","itertools.zip_longest","itertools.pairwise"].contains n && vs[0]?==some (rawInt a) then
         rule "for.unpacks-the-owned-tuple"
         updateField r 0 .none
     | _,_=>pure ()) Q E s:=by
   cases v with
   | ref a =>
     refine wpAny_bind (wpAny_load ho ?_);rw [hc,hd];show wpAny _ A (if (_ && _)=true then _ else _) Q E s
     rw [hn,Bool.false_and,if_neg Bool.false_ne_true];exact wpAny_pure hQ
   | _=>exact wpAny_pure hQ
 cases target<;>first | exact wpAny_pure hQ | exact key
theorem aK.get {h:Heap} {xs:List LV} {vs:List Value} (rs:aK h xs vs) {i:Nat} {x:LV} (e:xs[i]?=some x):∃ v,vs[i]?=some v/\RV h x v:=by
 induction xs generalizing vs i with
 | nil=>exact nQ e
 | cons y xs ih =>
   obtain ⟨v,vs,rfl,r,rs⟩:=rs.inv;cases i with
   | zero=>clear ih;obtain rfl:=Option.some.inj e;exact ⟨v,rfl,r⟩
   | succ i=>exact ih rs e
theorem aK.none {h:Heap} {xs:List LV} {vs:List Value} (r:aK h xs vs):vs[xs.length]?=none:=by
 rw [r.length];exact List.getElem?_eq_none (Nat.le_refl _)
theorem rO {target:Expr} {l:List LV}:OI n c target (.tup l) le σ σ l (λ_=>True):=by
 intro A hA tmp s vx S r;refine f9 (RV.inv r) λt vs k z0_ e rs=>?_;obtain rfl:=z0_;refine wpAny_pyIter_tuple ⟨_,e,rfl,k,rfl⟩ ⟨λi=>[.o s.heap.objs.size (λo=>o.cls=.type "tuple_iterator"/\o.data=.fields #[.ref t,.int i 0]),.v (.tup l) (.ref t)],⟨?_,?_⟩,?_⟩
 . intro i lv hi A hA le σ tmp s1 _ S1;refine bh (S1.tm _ (.head _)) λz1_ nk=>?_;refine ap z1_ λb eb fb=>?_;have rt:=S1.tm _ (.tail _ (.head _));refine bb (RV.tref rt) λvs1 k1 e1 rs1=>?_;refine ap (rs1.get hi) λv hv rv=>?_;refine wpAny_pyNext_tuple_item ⟨b,eb,fb⟩ ⟨_,e1,rfl,k1,rfl⟩ (by simpa using hv) λh' hit hs=>⟨v,rfl,?_⟩
   refine ap hit λb' eb' fb'=>?_;have S2:=S1.swapTo (f':=λo=>o.cls=.type "tuple_iterator"/\o.data=.fields #[.ref t,.int (i+1:Nat) 0]) hs.extBut (by intro b z2_ hi;refine bh z2_ λh1 _=>?_;rcases hi with ⟨_,_,rfl⟩ | ⟨_,_,rfl⟩ | ⟨_,_,rfl⟩<;>simp at h1) eb' fb'
   refine gn eb' fb'.1 fb'.2 (by decide) (S2.hold ?_)
   have rt2:=S2.tm _ (.tail _ (.head _));refine bb (RV.tref rt2) λvs2 k2 e2 rs2=>?_;have:vs2=vs1:=by
     have h1:({ s1 with heap:=h' }:Shared).heap.get? t=some (aM vs1 k1):=(hs.2 t (by rintro rfl;rw [eb] at e1;clear eb;obtain rfl:=Option.some.inj e1;simp at fb)).trans e1
     rw [h1] at e2;cases e2;rfl
   clear e1 rs1;subst this;refine ap (rs2.get hi) λv' hv' rv'=>?_;rw [hv] at hv';obtain rfl:=Option.some.inj hv';exact rv'
 . intro A hA le σ tmp s1 _ S1;refine bh (S1.tm _ (.head _)) λz3_ nk=>?_;refine ap z3_ λb eb fb=>?_;have rt:=S1.tm _ (.tail _ (.head _));refine bb (RV.tref rt) λvs1 k1 e1 rs1=>?_;refine wpAny_pyNext_tuple_end hA.handled ⟨b,eb,fb⟩ ⟨_,e1,rfl,k1,rfl⟩ (by simpa using rs1.none) λh' hs=>⟨rfl,?_⟩
   exact (S1.swap hs (by intro b z4_ hi;refine bh z4_ λh1 _=>?_;rcases hi with ⟨_,_,rfl⟩ | ⟨_,_,rfl⟩ | ⟨_,_,rfl⟩<;>simp at h1)).drop1
 . have S1:=(S.hold (.tup e rs)).keep (o:={ cls:=.type "tuple_iterator",data:=.fields #[.ref t,.int 0 0] }) (f:=λo=>o.cls=.type "tuple_iterator"/\o.data=.fields #[.ref t,.int (0:Nat) 0]) ⟨rfl,rfl⟩ rfl;exact S1
theorem iF {target:Expr} {a:Addr} {l:List LV} (hm:(a,.list l)∈σ):OI n c target (.loc a) le σ σ l (λσ=>(a,.list l)∈σ):=by
 intro A hA tmp s vx S r;obtain rfl:=RV.inv r;refine bb (S.ob _ hm) λvs k e rs=>?_;refine wpAny_pyIter_list ⟨_,e,rfl,k,rfl⟩ ⟨λi=>[.o s.heap.objs.size (λo=>o.cls=.type "list_iterator"/\o.data=.fields #[.ref a,.int i 0])],⟨?_,?_⟩,?_⟩
 . intro i lv hi A hA le σ tmp s1 hz S1;refine bh (S1.tm _ (.head _)) λz5_ nk=>?_;refine ap z5_ λb eb fb=>?_;refine bb (S1.ob _ hz) λvs1 k1 e1 rs1=>?_;refine ap (rs1.get hi) λv hv rv=>?_;refine wpAny_pyNext_list_item ⟨b,eb,fb⟩ ⟨_,e1,rfl,k1,rfl⟩ (by simpa using hv) λh' hit hs=>⟨v,rfl,?_⟩
   refine ap hit λb' eb' fb'=>?_;have nf:∀ b:Obj,(b.cls=.type "list_iterator"/\b.data=.fields #[.ref a,.int i 0])->¬ gR b:=λb hx3_ hi=>bh hx3_ λh1 _=>by rcases hi with ⟨_,_,rfl⟩ | ⟨_,_,rfl⟩ | ⟨_,_,rfl⟩<;>simp at h1
   have S2:=S1.swapTo (f':=λo=>o.cls=.type "list_iterator"/\o.data=.fields #[.ref a,.int (i+1:Nat) 0]) hs.extBut nf eb' fb';refine gn eb' fb'.1 fb'.2 (by decide) (S2.hold (rv.keeps λb o e hi=>(hs.2 b (by rintro rfl;rw [eb] at e;obtain rfl:=Option.some.inj e;exact nf _ fb hi)).trans e))
 . intro A hA le σ tmp s1 hz S1;refine bh (S1.tm _ (.head _)) λz6_ nk=>?_;refine ap z6_ λb eb fb=>?_;refine bb (S1.ob _ hz) λvs1 k1 e1 rs1=>?_;refine wpAny_pyNext_list_end hA.handled ⟨b,eb,fb⟩ ⟨_,e1,rfl,k1,rfl⟩ (by simpa using rs1.none) λh' hs=>⟨rfl,?_⟩
   exact S1.swap hs (by intro b z7_ hi;refine bh z7_ λh1 _=>?_;rcases hi with ⟨_,_,rfl⟩ | ⟨_,_,rfl⟩ | ⟨_,_,rfl⟩<;>simp at h1)
 . exact S.keep (o:={ cls:=.type "list_iterator",data:=.fields #[.ref a,.int 0 0] }) (f:=λo=>o.cls=.type "list_iterator"/\o.data=.fields #[.ref a,.int (0:Nat) 0]) ⟨rfl,rfl⟩ rfl
theorem a9 {x:Str} {pos:Pos} {v:LV} {K:ak->aa->Prop} (h:K (an x v le) σ) (hk:env.scope.kind=.function:=by rfl) (hl:env.kindOf x=some .local:=by rfl) (hL:env.locals=c.L:=by rfl) :
   g7 n c (.Name x pos) env v le σ K:=λA hA tmp s vx S r=>by
 rw [arm_assign_Name];exact wpAny_bind (wpAny_standAt (wpAny_bindName (jO S r (λs' S'=>⟨_,σ,S',h⟩) hk hl hL)))
theorem aK.hold {s:Shared} {xs:List LV} {vs:List Value} (r:aK s.heap xs vs):∃ T:List bt,(∀ p∈T,tJ c σ s p)/\T.filterMap bt.adr=[]/\∀ (σ':aa) (s':Shared),(∀ p∈T,tJ c σ' s' p)->aK s'.heap xs vs:=by
 induction xs generalizing vs with
 | nil=>rw [r.nil_];exact ⟨[],λ_ h=>(nM h),rfl,λ_ _ _=>.nil⟩
 | cons y xs ih =>
   refine bl r.inv λu vs z8_ ry rys=>?_;clear r;obtain rfl:=z8_;refine du (ih rys) λT t1 t2 t3=>?_;refine ⟨.v y u::T,λp hp=>?_,by rw [List.filterMap_cons];exact t2,λσ' s' hT=>.cons (hT _ (.head _)) (t3 σ' s' λp hp=>hT p (.tail _ hp))⟩
   rcases List.mem_cons.mp hp with rfl | hp
   . exact ry
   . exact t1 p hp
noncomputable def AF (n:Nat) (c:Cx) (es:List Expr) (env:Env):List LV->ak->aa->(ak->aa->Prop)->Prop
 | [],le,σ,K=>match es with
   | []=>K le σ
   | _=>False
 | x::xs,le,σ,K=>match es with
   | e::es=>g7 n c e env x le σ λle1 σ1=>AF n c es env xs le1 σ1 K
   | []=>False
theorem tF {A:Around} (hA:br n A):∀ (es:List Expr) (xs:List LV) (vs:List Value) (le:ak) (σ:aa) (K:ak->aa->Prop) (tmp:List bt) (s:Shared),AF n c es env xs le σ K->St c le σ tmp s->aK s.heap xs vs ->
   ((assignEach es env).map (·.1)).all (·==false)=true->(assignEach es env).length=es.length->(∀ e r,es=e::r->assignEach es env=(false,assign e env)::assignEach r env) ->
   (∀ e r pre,es=pre++e::r->assignEach (e::r) env=(false,assign e env)::assignEach r env) ->
   wpAny (Mo c.w) A (assignInOrder ((assignEach es env).map (·.2)) vs) (λ_ s'=>∃ le' σ',St c le' σ' tmp s'/\K le' σ') dh s:=by
 intro es;induction es with
 | nil =>
   intro xs vs le σ K tmp s h S r _ _ _ _;cases r with
   | nil=>exact wpAny_pure ⟨le,σ,S,h⟩
   | cons _ _=>exact h.elim
 | cons e es ih =>
   intro xs vs le σ K tmp s h S r h1 h2 h3 h4;cases r with
   | nil=>exact h.elim
   | @cons x v xs vs r rs =>
     rw [h3 e es rfl];show wpAny _ A (do holding vs (assign e env v);assignInOrder ((assignEach es env).map (·.2)) vs) _ _ s
     refine du (aK.hold (c:=c) (σ:=σ) (s:=s) rs) λT t1 t2 t3=>?_;have S':St c le σ (T++tmp) s:=⟨S.fr,S.ob,S.nd,S.ab,λp hp=>(List.mem_append.mp hp).elim (t1 p) (S.tm p),by rw [List.filterMap_append,t2];exact S.td,S.bs,S.gb,S.os,S.tk⟩
     refine wpAny_bind (wpAny_holding (wpAny_mono (h A hA (T++tmp) s v S' r) (λ_ s1 hq11=>?_) λ_ _ x=>x));refine bb hq11 λle1 σ1 S1 hk=>?_;refine ih xs vs le1 σ1 K tmp s1 hk (S1.drop (List.sublist_append_right ..)) (t3 σ1 s1 λp hp=>S1.tm p (List.mem_append_left _ hp)) ?_ ?_ ?_ ?_
     . rw [h3 e es rfl,List.map_cons,List.all_cons,Bool.and_eq_true] at h1;exact h1.2
     . rw [h3 e es rfl] at h2;simpa using h2
     . intro e' r' er;clear ih h1 h2 h3 h hq11 hk;subst er;exact h4 e' r' [e] rfl
     . intro e' r' pre er;clear ih h1 h2 h3 h hq11 hk;subst er;exact h4 e' r' (e::pre) rfl
theorem oJ {es:List Expr} {k:Nat} {pos:Pos} {l:List LV} {K:ak->aa->Prop} (h:AF n c es env l le σ K) (hlen:l.length=(assignEach es env).length) (h0:(assignEach es env).findIdx? (·.1)=none:=by rfl)
   (h1:((assignEach es env).map (·.1)).all (·==false)=true:=by rfl) (h2:(assignEach es env).length=es.length:=by rfl)
   (h3:∀ e r pre,es=pre++e::r->assignEach (e::r) env=(false,assign e env)::assignEach r env):g7 n c (.Tuple es k pos) env (.tup l) le σ K:=λA hA tmp s vx S r=>by
 refine f9 (RV.inv r) λt vs kk z9_ e rs=>?_;clear r;obtain rfl:=z9_;refine wpAny_assign_Tuple hA.handled ⟨_,e,rfl,kk,rfl⟩ (by rw [<-hlen,rs.length];simp) h0 λh' hx=>?_
 have g:∀ b o,s.heap.get? b=some o->h'.get? b=some o:=λb o e=>hx b o (Nat.ne_of_lt (Heap.lt_size e)) e;have:=tF (env:=env) (c:=c) hA es l vs le σ K tmp { s with heap:=h' } h (S.grow g) (rs.keeps λb o e _=>g b o e) h1 h2 (λe r er=>by clear h hlen h0 h1 h2;subst er;exact h3 e r [] rfl) h3
 simpa using this
end
open AutoSeq1 (wpAny_loadPart')
section
variable {prog:Program} {w:World} {A:Around} {E:Value->Shared->Prop} {s:Shared}
theorem ww {it t:Addr} {i:Nat} {items} {x:Value} {Q:Value->Shared->Prop} (hit:s.heap.IsTupleIter it t i) (ht:s.heap.IsTuple t items) (hx:items[i]?=some x)
   (hQ:∀ h',h'.IsTupleIter it t (i+1)->Heap.SameBut it s.heap h'->Q x { s with heap:=h' }):wpAny (model prog w) A (Builtin.SmallTypes.nextOf (.ref it)) Q E s:=by
 refine du (id hit) λo ho hc hd=>?_;refine aH ht λol y0_=>?_;refine qS y0_ λhol _ y1_=>?_;refine aH y1_ λnl hdl=>?_;unfold Builtin.SmallTypes.nextOf;refine wpAny_bind (wpAny_callSpecial?_slot (name:=ofString "__next__") hit.typeIs F.slot_tuple_iterator_next (wpAny_call_entry F.slot_tuple_iterator_next hit.typeIs F.entry_tuple_iterator_next ?_ (F.args_tuple_iterator_next_1 _)));show wpAny _ _ (field (.ref it) 0 >>= _) _ _ s;refine wpAny_bind (wpAny_field ho hd (x:=.ref t) rfl ?_);show wpAny _ _ (if (Value.ref t==Value.none)=true then _ else _) _ _ s
 rw [if_neg (show ¬ ((Value.ref t==Value.none)=true) from Bool.false_ne_true)];show wpAny _ _ (field (.ref it) 1 >>= _) _ _ s;refine wpAny_bind (wpAny_field ho hd (x:=.int i 0) rfl ?_);show wpAny _ _ (seqItems? (.ref t) >>= _) _ _ s;refine wpAny_bind (wpAny_seqItems hol hdl ?_);simp only [Int.toNat_natCast,hx];refine wpAny_bind (wpAny_setField ho hd (by simp) (wpAny_pure ⟨x,rfl,wpAny_pure (hQ _ ?_ (Heap.SameBut.update ..))⟩))
 exact ⟨_,Heap.get?_update_self _ ho (Obj.isFreed_of_fields (Obj.data_mapFields hd _)),(Obj.cls_mapFields ..).trans hc,by rw [Obj.data_mapFields hd];simp -iota [rawInt]⟩
theorem n8 {it t:Addr} {i:Nat} {items} {Q:Value->Shared->Prop} (hh:A.handled=none) (hit:s.heap.IsTupleIter it t i) (ht:s.heap.IsTuple t items) (hx:items[i]?=none)
   (hE:∀ h' e,Heap.ExtBut it s.heap h'->(∃ o,h'.get? e=some o/\o.cls=.type "StopIteration")->E (.ref e) { s with heap:=h' }):wpAny (model prog w) A (Builtin.SmallTypes.nextOf (.ref it)) Q E s:=by
 refine du (id hit) λo ho hc hd=>?_;refine aH ht λol y2_=>?_;refine qS y2_ λhol _ y3_=>?_;refine aH y3_ λnl hdl=>?_;unfold Builtin.SmallTypes.nextOf;refine wpAny_bind (wpAny_callSpecial?_slot (name:=ofString "__next__") hit.typeIs F.slot_tuple_iterator_next (wpAny_call_entry F.slot_tuple_iterator_next hit.typeIs F.entry_tuple_iterator_next ?_ (F.args_tuple_iterator_next_1 _)));show wpAny _ _ (field (.ref it) 0 >>= _) _ _ s;refine wpAny_bind (wpAny_field ho hd (x:=.ref t) rfl ?_);show wpAny _ _ (if (Value.ref t==Value.none)=true then _ else _) _ _ s
 rw [if_neg (show ¬ ((Value.ref t==Value.none)=true) from Bool.false_ne_true)];show wpAny _ _ (field (.ref it) 1 >>= _) _ _ s;refine wpAny_bind (wpAny_field ho hd (x:=.int i 0) rfl ?_);show wpAny _ _ (seqItems? (.ref t) >>= _) _ _ s;refine wpAny_bind (wpAny_seqItems hol hdl ?_);simp only [Int.toNat_natCast,hx];refine wpAny_bind (wpAny_rule (wpAny_bind (wpAny_setField ho hd (by simp) ?_)))
 show wpAny _ _ (newExc (.type "StopIteration") [] >>= _) _ _ _;refine wpAny_bind ?_;simp -iota only [newExc,newTuple];refine wpAny_bind (wpAny_newObj_type ?_ (by size_fits))
 refine wpAny_bind (m:=firstArgMember _ _) (wpAny_of_eq (a:=Value.none) (by first | rfl | (simp -iota only [firstArgMember];rfl)) ?_)
 refine wpAny_newObj_type ?_ (by size_fits)
 simp -iota only [raiseNew];refine wpAny_bind (wpAny_handled ?_)
 first | rw [show A.in1.handled=none from hh] | rw [hh]
 refine wpAny_bind (wpAny_pure (wpAny_throw ?_));exact hE _ _ (((Heap.SameBut.update ..).extBut.push _).push _) ⟨_,Heap.get?_push_size _ rfl,rfl⟩
theorem o0 (hh:A.handled=none) (it l:Addr) (hne:l≠it) (items:Array Value) :
   Draws prog w A it [it,l] items.size (λi v=>items[i]?=some v) (λi h=>h.IsTupleIter it l i/\h.IsTuple l items) where
 live:=λ_ _ st=>let ⟨o,ho,_⟩:=st.1;⟨o,ho⟩
 frame:=λ_ _ _ st hk=>⟨ap st.1 λo ho r=>⟨o,hk it (.head _) o ho,r⟩,ap st.2 λo ho r=>⟨o,hk l (.tail _ (.head _)) o ho,r⟩⟩
 item:=λi s Q E hi st hQ=>by
   refine ww st.1 st.2 (x:=items[i]) (by simp -iota [hi]) λh' hit' hs'=>?_
   exact hQ _ h' s.toks (by simp -iota [hi]) ⟨hit',ap st.2 λo ho r=>⟨o,(hs'.2 l hne).trans ho,r⟩⟩ hs'
 done:=λs Q E st hE=>n8 hh st.1 st.2 (by simp) hE
theorem vK (l:Addr) (items:Array Value) (n:Nat) (dct:Option Addr) (sl:Array (Option Value)) :
   Meets (Builtin.«enumerate.__new__» ⟨[.type "enumerate",.ref l],[]⟩) (λ_ R s=>s.heap.get? l=some { cls:=.type "tuple",dict:=dct,data:=.seq items n,slots:=sl } /\
     R (.ok (.ret (.ref (s.heap.push { cls:=.type "tuple_iterator",data:=.fields #[.ref l,.int 0 0] }).objs.size)))
       { s with heap:=(s.heap.push { cls:=.type "tuple_iterator",data:=.fields #[.ref l,.int 0 0] }).push { cls:=.type "enumerate",data:=.fields #[.none,.bool false,.ref s.heap.objs.size,rawInt 0,.none,.none] } }) :=
 .of_wp λprog w A R s h=>by
   obtain ⟨hp,g,d,tk,os⟩:=s;refine bh h λhl h=>?_;have hsub:=sub_enumerate;have hL:Heap.IsTuple (Shared.heap ⟨hp,g,d,tk,os⟩) l items:=⟨_,hl,rfl,n,rfl⟩
   wp_walk using wpAny_loadPart' hl
   refine wpAny_stack_any λst=>wpAny_pure ?_;split
   . rename_i c _ _ _ _ _;cases (c==Value.type "enumerate")
     . wp_walk using wpAny_loadPart' hl,wpAny_pyIter_tuple hL
       exact ⟨_,rfl,h⟩
     . wp_walk using wpAny_loadPart' hl,wpAny_pyIter_tuple hL
       exact ⟨_,rfl,h⟩
   . wp_walk using wpAny_loadPart' hl,wpAny_pyIter_tuple hL
     exact ⟨_,rfl,h⟩
theorem xE {l:Addr} {vs:List Value} {n:Nat} {Q:Value->Shared->Prop} (hl:s.heap.get? l=some (aM vs n))
   (h:Q (.ref (s.heap.objs.size+1)) { s with heap:=(s.heap.push { cls:=.type "tuple_iterator",data:=.fields #[.ref l,.int 0 0] }).push { cls:=.type "enumerate",data:=.fields #[.none,.bool false,.ref s.heap.objs.size,rawInt 0,.none,.none] } }) :
   wpAny (model prog w) A (call (.type "enumerate") [.ref l]) Q E s:=by
 refine callType_new F.called_enumerate (by decide) (F.typeCall_enumerate_1 _) (F.newCall_enumerate_1 _) (λobj=>F.args_object_init_2 obj _) F.entry_enumerate_new (vK l vs.toArray n none #[]) ⟨hl,?_⟩
 have hz:(s.heap.push { cls:=.type "tuple_iterator",data:=.fields #[.ref l,.int 0 0] }).objs.size=s.heap.objs.size+1:=Heap.size_push ..;show _/\_;rw [hz];have he:=Heap.get?_push_size (s.heap.push { cls:=.type "tuple_iterator",data:=.fields #[.ref l,.int 0 0] }) (o:={ cls:=.type "enumerate",data:=.fields #[.none,.bool false,.ref s.heap.objs.size,rawInt 0,.none,.none] }) rfl;rw [hz] at he;exact ⟨⟨_,he,rfl⟩,h⟩
end
section
variable {n:Nat} {c:Cx} {le:ak} {σ:aa} {env:Env} {tmp:List bt} {s:Shared}
theorem St.swap2 {e it:Addr} {f g:Obj->Prop} (S:St c le σ (.o e f::.o it g::tmp) s) {h':Heap} (k:∀ b o,b≠e->b≠it->s.heap.get? b=some o->h'.get? b=some o) (nf:∀ b,f b->¬ gR b) (ng:∀ b,g b->¬ gR b):St c le σ tmp { s with heap:=h' }:=by
 refine mN (S.tm _ (.head _)) λz0_ n1 n2 n3=>?_;refine ap z0_ λb eb fb=>?_;refine mN (S.tm _ (.tail _ (.head _))) λz1_ m1 m2 m3=>?_;refine ap z1_ λd ed gd=>?_;have ki:cC s.heap h':=λa y ea i=>k a y (by rintro rfl;rw [eb] at ea;obtain rfl:=Option.some.inj ea;exact nf _ fb i) (by rintro rfl;rw [ed] at ea;obtain rfl:=Option.some.inj ea;exact ng _ gd i) ea
 refine ap S.fr λm F q=>?_;have td:=S.td;rw [List.filterMap_cons] at td;simp only [bt.adr] at td;rw [List.filterMap_cons] at td;simp only [bt.adr] at td;rw [List.nodup_cons,List.nodup_cons] at td;have ns:h'.Ns c.L m:=by
   refine md F.ns λo es ep ho r=>?_;exact ⟨o,es,ep,k _ _ (Ne.symm n2) (Ne.symm m2) ho,r⟩
 refine ⟨⟨m,⟨ns,λa y ea=>k a y ?_ ?_ (F.keep a y ea),F.above⟩,λx lv hx=>?_⟩,λp hp=>(S.ob p hp).same ki λz ez=>k _ _ ?_ ?_ ez,S.nd,S.ab,λp hp=>?_,td.2.2,S.bs,S.gb,S.os,S.tk⟩
 . rintro rfl;rw [n3] at ea;cases ea
 . rintro rfl;rw [m3] at ea;cases ea
 . refine ap (q x lv hx) λv hm r=>?_;exact ⟨v,hm,r.keeps ki⟩
 . rintro e';exact n1 (e' ▸ List.mem_map.mpr ⟨p,hp,rfl⟩)
 . rintro e';exact m1 (e' ▸ List.mem_map.mpr ⟨p,hp,rfl⟩)
 . have h:=S.tm p (.tail _ (.tail _ hp));cases p with
   | v x u=>exact RV.keeps ki h
   | o a y =>
     refine bh h λz2_ h2=>?_;refine ap z2_ λz ez yz=>?_;refine ⟨⟨z,k a z ?_ ?_ ez,yz⟩,h2⟩
     . rintro rfl;exact td.1 (.tail _ (List.mem_filterMap.mpr ⟨_,hp,rfl⟩))
     . rintro rfl;exact td.2.1 (List.mem_filterMap.mpr ⟨_,hp,rfl⟩)
   | g i y=>exact h
theorem St.again (S:St c le σ tmp s) {a:Addr} {f:Obj->Prop} {b:Obj} (e:s.heap.get? a=some b) (hf:f b) (n1:a∉σ.map (·.1)) (n2:a≠c.L) (n3:c.hb.get? a=none) (n4:a∉tmp.filterMap bt.adr):St c le σ (.o a f::tmp) s:=by
 refine ⟨S.fr,S.ob,S.nd,S.ab,λp hp=>?_,?_,S.bs,S.gb,S.os,S.tk⟩
 . rcases List.mem_cons.mp hp with rfl | hp
   . exact ⟨⟨b,e,hf⟩,n1,n2,n3⟩
   . exact S.tm p hp
 . rw [List.filterMap_cons];exact List.nodup_cons.mpr ⟨n4,S.td⟩
noncomputable abbrev zZ (it:Addr) (i:Int) (old:Value):Obj:=⟨.type "enumerate",none,.fields #[.none,.bool false,.ref it,rawInt i,.none,old],#[]⟩
noncomputable def o5 (it:Addr) (i:Int):Obj->Prop:=λo=>∃ old,o=zZ it i old
noncomputable def oC (t:Addr) (i:Nat):Obj->Prop:=λo=>o.cls=.type "tuple_iterator"/\o.data=.fields #[.ref t,.int i 0]
theorem kX {it:Addr} {i:Int} (b:Obj) (h:o5 it i b):¬ gR b:=by
 refine aH h λold z3_=>?_;clear h;obtain rfl:=z3_;rintro (⟨_,_,h⟩ | ⟨_,_,h⟩ | ⟨_,_,h⟩)<;>simp at h
theorem oE {t:Addr} {i:Nat} (b:Obj) (h:oC t i b):¬ gR b:=by
 refine bh h λh1 _=>?_;rintro (⟨_,_,rfl⟩ | ⟨_,_,rfl⟩ | ⟨_,_,rfl⟩)<;>simp at h1
noncomputable def gU:Int->List LV->List LV
 | _,[]=>[]
 | i,x::xs=>.tup [.int i,x]::gU (i+1) xs
theorem iw:∀ (l:List LV) (i:Int),(gU i l).length=l.length:=by
 intro l;induction l with
 | nil=>exact λ_=>rfl
 | cons x xs ih=>exact λi=>congrArg Nat.succ (ih _)
theorem t4:∀ (l:List LV) (i:Int) (k:Nat) (y:LV),(gU i l)[k]?=some y->∃ x,l[k]?=some x/\y=.tup [.int (i+k),x]:=by
 intro l;induction l with
 | nil=>intro _ _ _ h;simp [gU] at h
 | cons x xs ih =>
   intro i k y h;cases k with
   | zero=>exact ⟨x,rfl,by rw [<-Option.some.inj h];simp⟩
   | succ k =>
     refine ap (ih (i+1) k y h) λz h1 h2=>?_;exact ⟨z,h1,by rw [h2];congr 3;push_cast;lia⟩
theorem yb {es:List Expr} {kk:Nat} {pos:Pos} {e it t:Addr} {l:List LV}:NX (n+1) c (.Tuple es kk pos) (.ref e) (λi=>[.o e (o5 it i),.o it (oC t i),.v (.tup l) (.ref t)]) (gU 0 l) (λ_=>True) where
 item:=by
   intro i lv hi A hA le σ tmp s _ S;refine mN (S.tm _ (.head _)) λz4_ n1 n2 n3=>?_;refine ap z4_ λb eb z5_=>?_;obtain ⟨old,rfl⟩:=z5_;refine mN (S.tm _ (.tail _ (.head _))) λz6_ m1 m2 m3=>?_;refine ap z6_ λd ed gd=>?_;have rt:=S.tm _ (.tail _ (.tail _ (.head _)));have td:=S.td;simp only [List.cons_append,List.filterMap_cons,bt.adr,List.nodup_cons] at td;have hei:e≠it:=λh=>td.1 (h ▸ .head _);refine ap (t4 l 0 i lv hi) λx hx z7_=>?_;clear hi;obtain rfl:=z7_;refine bb (RV.tref rt) λvs k et rs=>?_;have hti:t≠it:=by rintro rfl;rw [et] at ed;obtain rfl:=Option.some.inj ed;simp [oC] at gd
   have hte:t≠e:=by rintro rfl;rw [et] at eb;simp at eb
   refine ap (rs.get hx) λv hv rv=>?_;have hlt:i < vs.toArray.size:=by
     have:=(List.getElem?_eq_some_iff.mp hv).1;simpa using this
   refine wpAny_pyNext_enum_itemD (o0 (prog:=pg) (w:=c.w) (A:=A.in1) hA.handled it t hti vs.toArray) eb ⟨⟨d,ed,gd⟩,⟨_,et,rfl,k,rfl⟩⟩ hlt hei (by simp [hei,Ne.symm hte]) λx' h' tk hP ho hs' hT hsz hk=>⟨_,rfl,?_⟩
   have hx':x'=v:=by simp only [List.getElem?_toArray] at hP;rw [hv] at hP;exact (Option.some.inj hP).symm
   clear hv;subst hx';refine bh hs' λz8_ _=>?_;refine ap z8_ λd' ed' gd'=>?_;have S':=S.swap2 (h':=h') hk kX oE;have hsT:s.heap.objs.size≠e:=Nat.ne_of_gt (Heap.lt_size eb);refine wpAny_letOwnedTupleGo_enum ho λh'' he' hs2=>?_;have hx2:Heap.ExtBut e h' h'':=hs2.extBut;have a1:=(S'.toks (tk+1));have S2:St c le σ (.v (.tup l) (.ref t)::tmp) { s with heap:=h'',toks:=tk+1 }:=by
     have S3:=(a1.again (a:=e) (f:=λo=>¬ gR o) ho (by rintro (⟨_,_,h⟩ | ⟨_,_,h⟩ | ⟨_,_,h⟩)<;>simp at h) n1 n2 n3 (λh=>td.1 (.tail _ h)))
     exact S3.swap hx2 (λb h=>h)
   have S4:=S2.again (a:=it) (f:=oC t (i+1)) (b:=d') ((hs2.2 it (Ne.symm hei)).trans ed') gd' m1 m2 m3 (λh=>td.2.1 h);have S5:=S4.again (a:=e) (f:=o5 it ((i:Int)+1)) (b:=_) he' ⟨_,rfl⟩ n1 n2 n3 (by
     simp only [List.filterMap_cons,bt.adr,List.mem_cons,not_or];exact ⟨hei,λh=>td.1 (.tail _ h)⟩)
   have key:St c le σ ([.o e (o5 it ((i+1:Nat):Int)),.o it (oC t (i+1)),.v (.tup l) (.ref t)]++tmp) { s with heap:=h'',toks:=tk+1 }:=by
     have:(((i+1:Nat)):Int)=(i:Int)+1:=by push_cast;rfl
     rw [this];exact S5
   refine key.hold (RV.tup (vs:=[.int i tk,x']) (n:=0) ((hs2.2 _ hsT).trans hT) (.cons ?_ (.cons ?_ .nil)))
   . have:(0:Int)+(i:Nat)=i:=by lia
     rw [this];exact .int _ _
   . refine rv.keeps λb o e1 i1=>(hs2.2 b ?_).trans (hk b o ?_ ?_ e1)
     . rintro rfl;rw [eb] at e1;obtain rfl:=Option.some.inj e1;exact kX _ ⟨_,rfl⟩ i1
     . rintro rfl;rw [eb] at e1;obtain rfl:=Option.some.inj e1;exact kX _ ⟨_,rfl⟩ i1
     . rintro rfl;rw [ed] at e1;obtain rfl:=Option.some.inj e1;exact oE _ gd i1
 done:=by
   intro A hA le σ tmp s _ S;refine mN (S.tm _ (.head _)) λz9_ n1 n2 n3=>?_;refine ap z9_ λb eb z0_=>?_;obtain ⟨old,rfl⟩:=z0_;refine mN (S.tm _ (.tail _ (.head _))) λz1_ m1 m2 m3=>?_;refine ap z1_ λd ed gd=>?_;have rt:=S.tm _ (.tail _ (.tail _ (.head _)));have td:=S.td;simp only [List.cons_append,List.filterMap_cons,bt.adr,List.nodup_cons] at td;refine bb (RV.tref rt) λvs k et rs=>?_;have hti:t≠it:=by rintro rfl;rw [et] at ed;obtain rfl:=Option.some.inj ed;simp [oC] at gd
   have hl:vs.toArray.size=(gU 0 l).length:=by rw [iw,rs.length];simp
   rw [iw,rs.length] at gd;refine wpAny_pyNext_enum_endD (o0 (prog:=pg) (w:=c.w) (A:=A.in1) hA.handled it t hti vs.toArray) eb ⟨⟨d,ed,by simpa [oC] using gd⟩,⟨_,et,rfl,k,rfl⟩⟩ λh' hx=>⟨rfl,?_⟩
   have S1:St c le σ (.o it (oC t (gU 0 l).length)::.v (.tup l) (.ref t)::tmp) s:=S.drop (by exact (List.sublist_cons_self ..))
   exact (S1.swap hx oE).drop1
end
section
variable {n:Nat} {c:Cx} {le:ak} {σ:aa} {env:Env}
theorem gS {M:Model} {A:Around} {E:Value->Shared->Prop} {s:Shared} {pos:Pos} {T:String} {first:List Value} {args:List (Bool × Sem Value)} {Q:Value->Shared->Prop} (hplain:args.any (·.1)=false)
   (h:wpAny M A (evalArgs (.type T) true args []) (λa s₁=>wpAny M A (call (.type T) (first++a.pos) a.kw) Q E s₁) E s):wpAny M A (callWith pos (.type T) first args []) Q E s:=by
 unfold callWith;refine wpAny_bind (wpAny_holding (wpAny_mono h (λa s₁ h₁=>wpAny_bind (wpAny_standAt ?_)) λ_ _ x=>x));simp -iota only [hplain,List.any_nil,Bool.or_false];refine wpAny_bind (wpAny_pure ?_);exact wpAny_bind (wpAny_mono h₁ (λr s₂ hr=>wpAny_bind (wpAny_holding (wpAny_point (wpAny_pure hr)))) λ_ _ x=>x)
theorem cj {T:String} {args:List Expr} {K:LV->aa->Prop} (h:WA n c args env le σ (KW n c (.type T) le K)) (hst:(starEach args env).any (·.1)=false:=by rfl) :
   OC n c (.val (.type T)) args env le σ K:=λA hA pos tmp s fv S r=>by
 obtain rfl:=RV.inv r;exact gS (cN _ _ hst) (bn hst (wpAny_mono (h A hA pos tmp s S) (by intro vs s1 z0_;refine bl z0_ λxs σ1 S1 r1 h1=>?_;exact (h1 A hA tmp s1 vs S1 r1)) λ_ _ x=>x))
theorem qA {es:List Expr} {kk:Nat} {tp:Pos} {func e:Expr} {cp:Pos} {body orelse:List Stmt} {pos:Pos} {K:LF->ak->aa->Prop}
   (h:WV (n+1) c (eval func env) le σ λf σ1=>f=.val (.type "enumerate")/\WV (n+1) c (eval e env) le σ1 λx σ2=>∃ l,x=.tup l/\cW (n+1) c (.Tuple es kk tp) body orelse env (λ_=>True) K (gU 0 l) le σ2)
   (hf:∀ x,foldedSetIterable (.Call func [e] [] cp) env x=pure x:=by intro _;rfl)
   (he:eval (.Call func [e] [] cp) env=(do callWith cp (<-eval func env) [] (backTo cp (starEach [e] env)) (backToKw cp (keywordEach [] env))):=by rfl)
   (hs:starEach [e] env=[(false,eval e env)]:=by rfl):WF (n+1) c (exec (.For (.Tuple es kk tp) (.Call func [e] [] cp) body orelse pos) env) le σ K:=λA hA tmp s S=>by
 rw [arm_exec_For];refine wpAny_bind (wpAny_standAt (wpAny_bind (Call_ (wpAny_mono (h A hA tmp s S) (λvf s1 hq12=>?_) λ_ _ x=>x) he)));refine bl hq12 λf σ1 S1 ef h1=>?_;subst ef;have rf:=S1.tm _ (.head _);clear hq12;obtain rfl:=RV.inv rf;refine gS (by rw [hs];rfl) (bn (by rw [hs];rfl) ?_)
 rw [hs];refine Calls.spliced_cons (wpAny_mono (h1 A hA tmp s1 S1.drop1) (λvx s2 hx1_=>bb hx1_ λx σ2 S2 hy4_=>ap hy4_ λl ex L=>Calls.spliced_nil ?_) λ_ _ x=>x);subst ex;have rx:=S2.tm _ (.head _);refine f9 (RV.inv rx) λt vs k z1_ et rs=>?_;clear rx;obtain rfl:=z1_;refine xE et ?_;rw [hf];refine wpAny_bind (wpAny_pure (wpAny_bind (wpAny_standAt ?_)));have S3:=(S2.keep (o:={ cls:=.type "tuple_iterator",data:=.fields #[.ref t,.int 0 0] }) (f:=oC t 0) ⟨rfl,rfl⟩ rfl).keep (o:={ cls:=.type "enumerate",data:=.fields #[.none,.bool false,.ref s2.heap.objs.size,rawInt 0,.none,.none] }) (f:=o5 s2.heap.objs.size 0) ⟨_,rfl⟩ rfl;have hz:(s2.heap.push { cls:=.type "tuple_iterator",data:=.fields #[.ref t,.int 0 0] }).objs.size=s2.heap.objs.size+1:=Heap.size_push ..;have he:IsEnum ((s2.heap.push { cls:=.type "tuple_iterator",data:=.fields #[.ref t,.int 0 0] }).push { cls:=.type "enumerate",data:=.fields #[.none,.bool false,.ref s2.heap.objs.size,rawInt 0,.none,.none] }) (s2.heap.objs.size+1) s2.heap.objs.size 0 .none:=by
   have:=Heap.get?_push_size (s2.heap.push { cls:=.type "tuple_iterator",data:=.fields #[.ref t,.int 0 0] }) (o:={ cls:=.type "enumerate",data:=.fields #[.none,.bool false,.ref s2.heap.objs.size,rawInt 0,.none,.none] }) rfl;rw [hz] at this;exact this
 refine wpAny_bind (wpAny_holding (wpAny_pyIter_enum he ?_));have R:=lC (env:=env) (body:=body) (orelse:=orelse) (K:=K) (tmp:=tmp) hA (yb (n:=n) (c:=c) (es:=es) (kk:=kk) (pos:=tp) (e:=s2.heap.objs.size+1) (it:=s2.heap.objs.size) (t:=t) (l:=l)) (gU 0 l).length
   { s2 with heap:=(s2.heap.push { cls:=.type "tuple_iterator",data:=.fields #[.ref t,.int 0 0] }).push { cls:=.type "enumerate",data:=.fields #[.none,.bool false,.ref s2.heap.objs.size,rawInt 0,.none,.none] } }
   ⟨Nat.le_refl _,le,σ2,by rw [Nat.sub_self];rw [hz] at S3;exact S3,by rw [Nat.sub_self];exact L⟩
 refine wpAny_runOwn ?_;rw [fA];refine codeAny_mono R (λr s3 h3=>?_);refine ap h3 λf e q=>?_;clear h3;subst e;exact q
noncomputable def yj:LV->Prop
 | .none=>True
 | .bool _=>True
 | .int _=>True
 | .str _=>True
 | _=>False
noncomputable def Cl (K:LF->ak->aa->Prop) (le:ak):LV->aa->Prop:=λv σ1=>yj v/\K .next le σ1
theorem a8 {e:Expr} {pos:Pos} {K:LF->ak->aa->Prop} (h:WV n c (eval e env) le σ (Cl K le)) (hi:interactive env=false:=by rfl) (hs:swapsWith e none pos.line env=pure false:=by rfl) :
   WF n c (exec (.Expr e pos) env) le σ K:=λA hA tmp s S =>
 wpAny_Expr (wpAny_mono (h A hA tmp s S) (λv s1 hq13=>by
   refine bl hq13 λlv σ1 S1 p k=>?_;have r:=S1.tm _ (.head _);have:PF c tmp K .next s1:=⟨.next,le,σ1,rfl,S1.drop1,k⟩;cases r<;>first | exact this | exact p.elim) λ_ _ x=>x) hi hs
theorem ba {es:List Expr} {pos:Pos} {K:LV->aa->Prop} (h:WA n c es env le σ λxs σ1=>xs.length<=sizeLine/\∀ a,a∉σ1.map (·.1)->K (.loc a) ((a,.list xs)::σ1)):WV n c (eval (.List es pos) env) le σ K:=λA hA tmp s S =>
 List_ (wpAny_mono (h A hA pos tmp s S) (λvs s1 hx5_=>tZ hx5_ λxs σ1 S1 r hl k=>by
   refine wpAny_newObj_type ?_ (by show vs.toArray.size<=sizeLine;rw [List.size_toArray,<-r.length];exact hl)
   have S2:=S1.new (o:={ cls:=.type "list",data:=.seq vs.toArray }) (lo:=.list xs) ⟨vs,0,Heap.get?_push_size _ rfl,r.keeps λb o e _=>Heap.get?_push_of_some _ e⟩;exact pv S2 (.loc _) (k _ λhm=>Nat.lt_irrefl _ (S1.key_lt hm))) λ_ _ x=>x)
noncomputable def OM (n:Nat) (c:Cx) (ov:LV) (name:Str) (args:List Expr) (env:Env) (le:ak) (σ:aa) (K:LV->aa->Prop):Prop :=
 ∀ A,br n A->∀ (pos:Pos) (pl:Sem Bool) tmp s vo,St c le σ tmp s->RV s.heap ov vo ->
   wpAny (Mo c.w) A (getMethod vo name pl) (λfx s2=>wpAny (Mo c.w) A (callWith pos fx.1 fx.2 (backTo pos (starEach args env)) []) (PV c le tmp K) dh s2) dh s
noncomputable def KM (n:Nat) (c:Cx) (name:Str) (args:List Expr) (env:Env) (le:ak) (K:LV->aa->Prop):LV->aa->Prop:=λov σ1=>OM n c ov name args env le σ1 K
theorem aG {o:Expr} {name:Str} {apos pos:Pos} {args:List Expr} {K:LV->aa->Prop} (h:WV n c (eval o env) le σ (KM n c name args env le K))
   (he:eval (.Call (.Attribute o name apos) args [] pos) env=(do
     let ov <-eval o env
     standAt apos.atName
     let (f,first) <-holding [ov] (getMethod ov name (do return (<-importBound o env).getD true))
     callWith pos f first (backTo pos (starEach args env)) []):=by kernel_rfl!):WV n c (eval (.Call (.Attribute o name apos) args [] pos) env) le σ K:=λA hA tmp s S =>
 MethodCall_ (wpAny_mono (h A hA tmp s S) (by intro vo s1 z2_;refine bb z2_ λov σ1 S1 h1=>?_;exact (h1 A hA pos _ tmp s1 vo S1.drop1 (S1.tm _ (.head _)))) λ_ _ x=>x) he
theorem kt {A:Around} {pos:Pos} {tmp:List bt} {s:Shared} {id:String} {ov:LV} {vo:Value} {args:List Expr} {K:LV->aa->Prop} (hA:br n A) (S:St c le σ tmp s) (r:RV s.heap ov vo)
   (h:WA n c args env le σ λxs σ2=>WC n c (.builtin id) (ov::xs) le σ2 K) (hst:(starEach args env).any (·.1)=false) :
   wpAny (Mo c.w) A (callWith pos (.builtin id) [vo] (backTo pos (starEach args env)) []) (PV c le tmp K) dh s :=
 Calls.callWith_builtin (cN _ _ hst) (bn hst (wpAny_mono (h A hA pos _ s (S.hold r)) (by intro vs s1 z3_;refine bl z3_ λxs σ1 S1 r1 h1=>?_;exact (h1 A hA tmp s1 (vo::vs) S1.drop1 (.cons (S1.tm _ (.head _)) r1))) λ_ _ x=>x))
theorem bi {a:Addr} {l:List LV} {name:Str} {id:String} {args:List Expr} {K:LV->aa->Prop} (hm:(a,.list l)∈σ) (slot:Slot "list" name id) (hty:typeOf (.builtin id)=pure (.type "method_descriptor"))
   (h:WA n c args env le σ λxs σ2=>WC n c (.builtin id) (.loc a::xs) le σ2 K) (hst:(starEach args env).any (·.1)=false:=by rfl):OM n c (.loc a) name args env le σ K:=λA hA pos pl tmp s vo S r=>by
 obtain rfl:=RV.inv r;refine bb (S.ob _ hm) λvs k e rs=>?_;exact getMethod_list_of slot hty ⟨_,e,rfl,k,rfl⟩ ⟨_,e,rfl⟩ (kt hA S (.loc a) h hst)
theorem hV {x:Str} {name:Str} {id:String} {args:List Expr} {K:LV->aa->Prop} (slot:Slot "str" name id) (hty:typeOf (.builtin id)=pure (.type "method_descriptor"))
   (h:WA n c args env le σ λxs σ2=>WC n c (.builtin id) (.str x::xs) le σ2 K) (hst:(starEach args env).any (·.1)=false:=by rfl):OM n c (.str x) name args env le σ K:=λA hA pos pl tmp s vo S r=>by
 refine aH (RV.inv r) λt z4_=>?_;clear r;obtain rfl:=z4_;exact getMethod_builtin (typeIs_str _ _ _) F.plainAttrs_str slot hty (λa e=>by cases e) (kt hA S (.str x t) h hst)
inductive Up (a:Addr) (o o':LO):aa->aa->Prop where
 | head {r:aa}:Up a o o' ((a,o)::r) ((a,o')::r)
 | tail {p:Addr × LO} {r r':aa}:Up a o o' r r'->Up a o o' (p::r) (p::r')
theorem Up.upd {a:Addr} {o o':LO} {r r':aa} (u:Up a o o' r r'):oQ a o' r r':=by
 induction u with
 | head=>exact .head
 | tail _ ih=>exact .tail ih
theorem Up.mem {a:Addr} {o o':LO} {r r':aa} (u:Up a o o' r r'):(a,o)∈r:=by
 induction u with
 | head=>exact .head _
 | tail _ ih=>exact .tail _ ih
theorem bj {a:Addr} {l:List LV} {x:LV} {σ':aa} {K:LV->aa->Prop} (u:Up a (.list l) (.list (l++[x])) σ σ') (hl:l.length<=sizeLine) (k:K .none σ'):WC n c (.builtin "list.append") [.loc a,x] le σ K:=λA hA tmp s vs S r=>by
 refine bl (aK.inv r) λ_ _ z5_ r1 r2=>?_;obtain rfl:=z5_;obtain rfl:=RV.inv r1;refine bl (aK.inv r2) λv _ z6_ rx r3=>?_;obtain rfl:=z6_;clear r2 r;obtain rfl:=aK.nil_ r3;refine bb (S.ob _ u.mem) λus kk e rs=>?_;refine append_at (its:=us.toArray) (n:=kk) e (λh' hs e'=>?_) (by rw [List.size_toArray,<-rs.length];exact hl)
 refine pv (S.upd u.upd hs λki=>⟨us++[v],kk+1,?_,(rs.keeps ki).append (.cons (rx.keeps ki) .nil)⟩) .none k;rw [e'];simp
theorem h9 {h:Heap}:∀ {ys:List Str} {vs:List Value},aK h (ys.map .str) vs->StrsAre vs ys:=by
 intro ys;induction ys with
 | nil=>intro _ r;rw [aK.nil_ r];exact .nil
 | cons y ys ih =>
   intro _ r;refine bl (aK.inv r) λ_ _ z7_ r1 r2=>?_;refine aH (RV.inv r1) λt z8_=>?_;rw [z7_,z8_];exact .cons y t (ih r2)
theorem iW {a:Addr} {x:Str} {ys:List Str} {K:LV->aa->Prop} (hm:(a,.list (ys.map .str))∈σ) (hok:(ys.map (·.length)).sum+ys.length*x.length<=16777216) (k:K (.str (Txt.join x ys)) σ) :
   WC n c (.builtin "str.join") [.str x,.loc a] le σ K:=λA hA tmp s vs S r=>by
 refine bl (aK.inv r) λ_ _ z9_ r1 r2=>?_;obtain rfl:=z9_;refine aH (RV.inv r1) λt z0_=>?_;clear r1;obtain rfl:=z0_;refine bl (aK.inv r2) λ_ _ z1_ r3 r4=>?_;obtain rfl:=z1_;obtain rfl:=RV.inv r3;clear r2 r;obtain rfl:=aK.nil_ r4;refine bb (S.ob _ hm) λus kk e rs=>?_;exact wpAny_with_toks (n:=1) S.tk (join_list ⟨_,e,rfl,kk,rfl⟩ (by simpa using h9 rs) hok λt' k' hk'=>pv (S.toks _ hk') (.str _ _) k)
end
section
variable {n:Nat} {c:Cx} {le:ak} {σ:aa} {env:Env}
theorem av {k:Nat} (h:k<=1000000):k<=sizeLine:=by rw [sizeLine_eq];exact J1 h rfl
theorem iU {x y:Str} {p1 p2:Pos} {k:Nat} {pos:Pos} {a b:LV} {K:ak->aa->Prop} (h:K (an y b (an x a le)) σ) (hk:env.scope.kind=.function:=by rfl) (hx:env.kindOf x=some .local:=by rfl) (hy:env.kindOf y=some .local:=by rfl)
   (hL:env.locals=c.L:=by rfl):g7 n c (.Tuple [.Name x p1,.Name y p2] k pos) env (.tup [a,b]) le σ K:=by
 refine oJ (a9 (a9 h hk hy hL) hk hx hL) rfl (h3:=?_);intro e r pre h;rcases pre with _ | ⟨_,_ | ⟨_,pre⟩⟩
 . refine bh (List.cons.inj h) λz2_ z3_=>?_;obtain rfl:=z2_;clear h;obtain rfl:=z3_;rfl
 . cases h;rfl
 . simp -iota at h
theorem nv {x y z:Str} {p1 p2 p3:Pos} {k:Nat} {pos:Pos} {a b d:LV} {K:ak->aa->Prop} (h:K (an z d (an y b (an x a le))) σ) (hk:env.scope.kind=.function:=by rfl) (hx:env.kindOf x=some .local:=by rfl) (hy:env.kindOf y=some .local:=by rfl)
   (hz:env.kindOf z=some .local:=by rfl) (hL:env.locals=c.L:=by rfl):g7 n c (.Tuple [.Name x p1,.Name y p2,.Name z p3] k pos) env (.tup [a,b,d]) le σ K:=by
 refine oJ (a9 (a9 (a9 h hk hz hL) hk hy hL) hk hx hL) rfl (h3:=?_);intro e r pre h;rcases pre with _ | ⟨_,_ | ⟨_,_ | ⟨_,pre⟩⟩⟩
 . refine bh (List.cons.inj h) λz4_ z5_=>?_;obtain rfl:=z4_;clear h;obtain rfl:=z5_;rfl
 . cases h;rfl
 . cases h;rfl
 . simp -iota at h
end
section
variable {n:Nat} {c:Cx} {le:ak} {σ:aa} {env:Env}
noncomputable def OS (n:Nat) (c:Cx) (value slice:Expr) (x i:LV) (le:ak) (σ:aa) (K:LV->aa->Prop):Prop :=
 ∀ A,br n A->∀ tmp s vx vi,St c le σ tmp s->RV s.heap x vx->RV s.heap i vi->wpAny (Mo c.w) A (subscriptTail value slice vx vi) (PV c le tmp K) dh s
noncomputable def Cn (n:Nat) (c:Cx) (value slice:Expr) (x:LV) (le:ak) (K:LV->aa->Prop):LV->aa->Prop:=λi σ2=>OS n c value slice x i le σ2 K
noncomputable def KS (n:Nat) (c:Cx) (value slice:Expr) (env:Env) (le:ak) (K:LV->aa->Prop):LV->aa->Prop:=λx σ1=>WV n c (eval slice env) le σ1 (Cn n c value slice x le K)
theorem aV {value slice:Expr} {pos:Pos} {K:LV->aa->Prop} (h:WV n c (eval value env) le σ (KS n c value slice env le K)) :
   WV n c (eval (.Subscript value slice pos) env) le σ K:=λA hA tmp s S =>
 Subscript_ (wpAny_mono (h A hA tmp s S) (by intro vx s1 z0_;refine bb z0_ λx σ1 S1 h1=>?_;exact (wpAny_mono (h1 A hA _ s1 S1) (λvy s2 hx7_=>bb hx7_ λy σ2 S2 h2 =>
   h2 A hA _ s2 vx vy S2.drop1.drop1 (S2.tm _ (.tail _ (.head _))) (S2.tm _ (.head _))) λ_ _ x=>x)) λ_ _ x=>x)
theorem bz {value slice:Expr} {a:Addr} {l:List LV} {k:Int} {x:LV} {K:LV->aa->Prop} (hm:(a,.list l)∈σ) (h0:0<=k) (hfit:k < 2 ^ 63) (hx:l[k.toNat]?=some x) (h:K x σ)
   (hs:∀ (u:Tok),subscripted slice false (.ref a) (.int k u)=operate [.ref a,.int k u] (getItem (.ref a) (.int k u)):=by intro u;with_unfolding_all rfl):OS n c value slice (.loc a) (.int k) le σ K:=λA hA tmp s vx vi S r1 r2=>by
 obtain rfl:=RV.inv r1;refine aH (RV.inv r2) λu z1_=>?_;clear r2;obtain rfl:=z1_;refine bb (S.ob _ hm) λvs kk e rs=>?_;refine ap (rs.get hx) λv hv rv=>?_;have hl:s.heap.IsList a vs.toArray:=⟨_,e,rfl,kk,rfl⟩;exact tail_any hl.typeIs slot_list_getitem.lookup (wpAny_getItem_list hl h0 hfit (by simpa using hv) (pv S rv h)) (hs u)
theorem b8 {value slice:Expr} {a:Addr} {l:List LV} {x:LV} {K:LV->aa->Prop} (hm:(a,.list (l++[x]))∈σ) (h:K x σ)
   (hs:∀ (u:Tok),subscripted slice false (.ref a) (.int (-1) u)=operate [.ref a,.int (-1) u] (getItem (.ref a) (.int (-1) u)):=by intro u;with_unfolding_all rfl):OS n c value slice (.loc a) (.int (-1)) le σ K:=λA hA tmp s vx vi S r1 r2=>by
 obtain rfl:=RV.inv r1;refine aH (RV.inv r2) λu z2_=>?_;clear r2;obtain rfl:=z2_;refine bb (S.ob _ hm) λvs kk e rs=>?_;have hlen:=rs.length;rw [List.length_append,List.length_singleton] at hlen;refine ap (rs.get (i:=l.length) (x:=x) (by simp)) λv hv rv=>?_
 have hl:s.heap.IsList a vs.toArray:=⟨_,e,rfl,kk,rfl⟩;refine tail_any hl.typeIs slot_list_getitem.lookup (wpAny_getItem_list_neg hl (by decide) (by simp;lia) (by decide) (x:=v) ?_ (pv S rv h)) (hs u)
 have:((-1:Int)+(vs.toArray.size:Nat)).toNat=l.length:=by simp;lia
 rw [this];simpa using hv
theorem lH {value slice:Expr} {l:List LV} {k:Int} {j:Nat} {x:LV} {K:LV->aa->Prop} (hlo:-(2 ^ 63)<=k) (hhi:k < 2 ^ 63) (hj:seqIndex? k l.length=some j) (hx:l[j]?=some x) (h:K x σ)
   (hs:∀ (t:Addr) (u:Tok),subscripted slice false (.ref t) (.int k u)=operate [.ref t,.int k u] (getItem (.ref t) (.int k u)):=by intro t u;with_unfolding_all rfl):OS n c value slice (.tup l) (.int k) le σ K:=λA hA tmp s vx vi S r1 r2=>by
 refine aH (RV.inv r2) λu z3_=>?_;clear r2;obtain rfl:=z3_;refine f9 (RV.inv r1) λt vs kk z4_ e rs=>?_;clear r1;obtain rfl:=z4_;refine ap (rs.get hx) λv hv rv=>?_;exact item_tupleT ⟨_,e,rfl,kk,rfl⟩ hlo hhi (by rw [<-rs.length];exact hj) hv (pv S rv h) (hs t u)
noncomputable def KU (n:Nat) (c:Cx) (op:UnaryOp) (le:ak) (K:LV->aa->Prop):LV->aa->Prop:=λx σ1=>OU n c (unaryOp op) x le σ1 K
theorem cI {op:UnaryOp} {e:Expr} {pos:Pos} {K:LV->aa->Prop} (h:WV n c (eval e env) le σ (KU n c op le K)):WV n c (eval (.UnaryOp op e pos) env) le σ K:=λA hA tmp s S=>by
 rw [arm_eval_UnaryOp];exact wpAny_bind (wpAny_mono (h A hA tmp s S) (by intro vx s1 z5_;refine bb z5_ λx σ1 S1 h1=>?_;exact (wpAny_bind (wpAny_standAt (wpAny_holding (h1 A hA _ s1 vx S1.drop1 (S1.tm _ (.head _))))))) λ_ _ x=>x)
theorem fg {a:Int} {K:LV->aa->Prop} (h:K (.int (-a)) σ):OU n c (unaryOp .USub) (.int a) le σ K:=λA hA tmp s vx S r=>by
 refine aH (RV.inv r) λ_ z6_=>?_;clear r;obtain rfl:=z6_;exact neg_int (pv (S.toks _) (.int _ _) h)
theorem wB {a b:Int} {K:LV->aa->Prop} (hb:b≠0) (hp:Builtin.divisionGoesByPylong a b=false) (h:K (.int (a.fdiv b)) σ):OB n c (binaryOp .FloorDiv) (.int a) (.int b) le σ K:=λA hA tmp s vx vy S r1 r2=>by
 refine aH (RV.inv r1) λ_ z7_=>?_;clear r1;obtain rfl:=z7_;refine aH (RV.inv r2) λ_ z8_=>?_;clear r2;obtain rfl:=z8_;exact floordiv_int hb (pv (S.toks _) (.int _ _) h) (.inl hp)
theorem wD {a b:Int} {K:LV->aa->Prop} (hm:IntMulOk a b) (h:K (.int (a*b)) σ):OB n c (binaryOp .Mult) (.int a) (.int b) le σ K:=λA hA tmp s vx vy S r1 r2=>by
 refine aH (RV.inv r1) λ_ z9_=>?_;clear r1;obtain rfl:=z9_;refine aH (RV.inv r2) λ_ z0_=>?_;clear r2;obtain rfl:=z0_;exact mul_int (pv (S.toks _) (.int _ _) h) hm
theorem rM {a b:Int} {K:LV->aa->Prop} (hn:0<=b) (hn2:b<=1000000) (ha:a.natAbs < 2 ^ 64) (h:K (.int (a ^ b.toNat)) σ):OB n c (binaryOp .Pow) (.int a) (.int b) le σ K:=λA hA tmp s vx vy S r1 r2=>by
 refine aH (RV.inv r1) λ_ z1_=>?_;clear r1;obtain rfl:=z1_;refine aH (RV.inv r2) λ_ z2_=>?_;clear r2;obtain rfl:=z2_;exact pow_int_small hn hn2 ha (pv (S.toks _) (.int _ _) h)
end
section
variable {n:Nat} {c:Cx} {le:ak} {σ:aa} {env:Env}
theorem mf.getL {P:Params} {h:Heap} {l:List (Str × LV)} {es:List DictEntry} (d:mf P h l es) (name:Str) :
   (∀ lv,l.lookup name=some lv->∃ v,getL name es=some (some v)/\RV h lv v)/\(l.lookup name=none->getL name es=some none):=by
 have nr:es.any (·.refKey)=false:=by
   induction d with
   | nil=>rfl
   | cons r d ih=>simp only [List.any_cons,ih,Bool.or_false];rfl
 have fnd:(∀ lv,l.lookup name=some lv->∃ v e,es.find? (·.key.isStr name)=some e/\e.val=v/\RV h lv v)/\(l.lookup name=none->es.find? (·.key.isStr name)=none):=by
   clear nr;induction d with
   | nil=>exact ⟨λlv e=>by simp at e,λ_=>rfl⟩
   | @cons k t x v l es r d ih =>
     have ek:Value.isStr (.str k t) name=(name==k):=by
       show (k==name)=(name==k);rw [Bool.eq_iff_iff,beq_iff_eq,beq_iff_eq,eq_comm]
     cases q:name==k with
     | true =>
       refine ⟨λlv e=>?_,λe=>?_⟩
       . rw [List.lookup_cons,q] at e;obtain rfl:=Option.some.inj e;exact ⟨v,⟨PyData.keyHash P k,.str k t,v⟩,by rw [List.find?_cons];simp only [ek,q],rfl,r⟩
       . rw [List.lookup_cons,q] at e;cases e
     | false =>
       refine ⟨λlv e=>?_,λe=>?_⟩
       . rw [List.lookup_cons,q] at e;refine bb (ih.1 lv e) λv' e' h1 h2=>?_;exact ⟨v',e',by rw [List.find?_cons];simp only [ek,q];exact h1,h2⟩
       . rw [List.lookup_cons,q] at e;rw [List.find?_cons];simp only [ek,q];exact ih.2 e
 refine ⟨λlv e=>?_,λe=>?_⟩
 . refine bl (fnd.1 lv e) λv en h1 z0_ h3=>?_;obtain rfl:=z0_;exact ⟨en.val,by unfold PySem.W.getL;rw [h1],h3⟩
 . unfold PySem.W.getL;rw [fnd.2 e,nr];rfl
noncomputable def OA (n:Nat) (c:Cx) (x:LV) (name:Str) (le:ak) (σ:aa) (K:LV->aa->Prop):Prop :=
 ∀ A,br n A->∀ tmp s vx,St c le σ tmp s->RV s.heap x vx->wpAny (Mo c.w) A (getAttr vx name true) (PV c le tmp K) dh s
noncomputable def Ci (n:Nat) (c:Cx) (attr:Str) (le:ak) (K:LV->aa->Prop):LV->aa->Prop:=λx σ1=>OA n c x attr le σ1 K
theorem kD {value:Expr} {attr:Str} {pos:Pos} {K:LV->aa->Prop} (h:WV n c (eval value env) le σ (Ci n c attr le K))
   (he:eval (.Attribute value attr pos) env=(do
     let o <-eval value env
     standAt pos.atName
     let r <-holding [o] (getAttr o attr true)
     letTemporaryGo value o r
     pure r):=by kernel_rfl!):WV n c (eval (.Attribute value attr pos) env) le σ K:=λA hA tmp s S =>
 Attribute_any_ (wpAny_mono (h A hA tmp s S) (by intro vx s1 z1_;refine bb z1_ λx σ1 S1 h1=>?_;exact (h1 A hA tmp s1 vx S1.drop1 (S1.tm _ (.head _)))) λ_ _ x=>x) he
noncomputable def CB:LV->Bool
 | .val _=>false
 | _=>true
theorem RV.handed {lv:LV} (hl:CB lv=true):∀ h v,RV h lv v->handedIn v=true:=by
 intro h v r;cases r<;>first | rfl | cases hl
theorem s9 {x d:Addr} {fs:List (Str × LV)} {name:Str} {lv:LV} {K:LV->aa->Prop} (hx:(x,.inst d)∈σ) (hd:(d,.dict fs)∈σ) (hf:fs.lookup name=some lv)
   (ha:findIn (KF c.w.params) (.ref 204) name=some none) (h:K lv σ) (hg:plainGet (KF c.w.params) 204 name=true) (hh:hasDictIn (KF c.w.params) 204=true)
   (hv:∀ h v,RV h lv v->handedIn v=true:=by exact RV.handed rfl):OA n c (.loc x) name le σ K:=λA hA tmp s vx S r=>by
 obtain rfl:=RV.inv r;refine ap S.fr λm F _=>?_;have o1:=S.ob _ hx;refine bl (S.ob _ hd) λes k e de _=>?_;refine ap ((de.getL name).1 lv hf) λv hl rv=>?_;exact get_own F S.bs.top.kin (C:=204) (ox:=⟨.ref 204,some d,.plain,#[]⟩) (es:=es) (n:=k) ⟨o1,rfl,rfl,e⟩ hg hh ha rfl hl (hv _ _ rv) (pv (S.toks _) rv h)
theorem mf.getNone {P:Params} {h:Heap} {l:List (Str × LV)} {es:List DictEntry} (d:mf P h l es) {name:Str} (e:l.lookup name=none):PySem.W.getL name es=some none:=(d.getL name).2 e
theorem mX {x d:Addr} {fs:List (Str × LV)} {name:Str} {f:Addr} {nm q:Str} {st:Option Stmt} {dv k pm:Value} {cd:Addr} {args:List Expr} {K:LV->aa->Prop} (hx:(x,.inst d)∈σ) (hd:(d,.dict fs)∈σ) (hf:fs.lookup name=none)
   (ha:findIn (KF c.w.params) (.ref 204) name=some (some (.ref f))) (hK:(KF c.w.params).lookup f=some (bV nm q st dv k pm cd)) (hg:plainGet (KF c.w.params) 204 name=true) (ht:isFn (KF c.w.params) (.ref f)=true)
   (h:WA n c args env le σ λxs σ2=>WC n c (.ref f) (.loc x::xs) le σ2 K) (hst:(starEach args env).any (·.1)=false:=by rfl):OM n c (.loc x) name args env le σ K:=λA hA pos pl tmp s vo S r=>by
 obtain rfl:=RV.inv r;refine ap S.fr λm F _=>?_;have o1:=S.ob _ hx;refine bl (S.ob _ hd) λes kk e de _=>?_;refine method_inst F S.bs.top.kin (C:=204) (ox:=⟨.ref 204,some d,.plain,#[]⟩) (es:=es) (n:=kk) ⟨o1,rfl,rfl,e⟩ hg ha ht (de.getNone hf) ?_;refine Calls.callWith_function (o:=bV nm q st dv k pm cd) (fd:=uX nm q st dv k pm cd) (bn hst (wpAny_mono (h A hA pos tmp s S) (λvs s1 hx6_=>bl hx6_ λxs σ1 S1 r1 h1=>⟨⟨?_,rfl⟩,h1 A hA tmp s1 (.ref x::vs) S1 (.cons (.loc x) r1)⟩) λ_ _ x=>x));refine ap S1.fr λm F _=>?_;exact (S1.bs.top.kin.keeps F.keep) _ _ hK
end
section
variable {n:Nat} {c:Cx} {le:ak} {σ:aa} {env:Env} {tmp:List bt} {s:Shared}
theorem Fr.uniq {hb:Heap} {L:Addr} {h:Heap} {m m':Str->Option Value} (F:Fr hb L h m) (F':Fr hb L h m'):m'=m:=by
 refine qT F.ns λo es ep ho hd _ hf=>?_;refine qT F'.ns λo' es' ep' ho' hd' _ hf'=>?_;rw [ho] at ho';obtain rfl:=Option.some.inj ho';rw [hd] at hd';cases hd';exact funext λy=>by rw [<-hf,<-hf']
theorem St.news (S:St c le σ tmp s):∃ news,News c.hb c.L s.heap news/\(news.map (·.1)).Nodup/\∀ b o,s.heap.get? b=some o->b≠c.L->c.hb.get? b=none->(b,o)∈news:=by
 refine ⟨(List.range s.heap.objs.size).filterMap λa=>match s.heap.get? a with | some o=>if a=c.L\/(c.hb.get? a).isSome then none else some (a,o) | none=>none,?_,?_,?_⟩
 . intro p hp;refine ap (List.mem_filterMap.mp hp) λa _ ha=>?_;cases q:s.heap.get? a with
   | none=>rw [q] at ha;cases ha
   | some o =>
     rw [q] at ha;dsimp only at ha;split at ha
     . cases ha
     . rename_i hn;clear hp;obtain rfl:=Option.some.inj ha;refine ⟨q,λe=>hn (.inl e),?_⟩;cases z:c.hb.get? a with
       | none=>rfl
       | some x=>exact absurd (.inr (by rw [z];rfl)) hn
 . have key:∀ l:List Nat,l.Nodup->((l.filterMap λa=>match s.heap.get? a with | some o=>if a=c.L\/(c.hb.get? a).isSome then none else some (a,o) | none=>none).map (·.1)).Sublist l:=by
     intro l;induction l with
     | nil=>intro _;exact .slnil
     | cons a l ih =>
       intro hl;have hl':=(List.nodup_cons.mp hl).2;rw [List.filterMap_cons];split
       . exact (ih hl').cons _
       . rename_i b hb;rw [List.map_cons];have:b.1=a:=by
           split at hb
           . split at hb
             . cases hb
             . obtain rfl:=Option.some.inj hb;rfl
           . cases hb
         rw [this];exact (ih hl').cons_cons _
   exact (key _ List.nodup_range).nodup List.nodup_range
 . intro b o hb hL hn;refine List.mem_filterMap.mpr ⟨b,List.mem_range.mpr (Heap.lt_size hb),?_⟩;rw [hb];dsimp only;rw [if_neg];rintro (e | e)
   . exact hL e
   . rw [hn] at e;cases e
theorem rE {d:Addr} {o:Obj}:∀ {news:List (Addr × Obj)},(news.map (·.1)).Nodup->(d,o)∈news->∃ pre post,news=pre++(d,o)::post/\(∀ p∈pre,p.1≠d)/\∀ p∈post,p.1≠d:=by
 intro news;induction news with
 | nil=>intro _ h;cases h
 | cons p r ih =>
   intro nd h;rw [List.map_cons,List.nodup_cons] at nd;rcases List.mem_cons.mp h with rfl | h3
   . exact ⟨[],r,rfl,λ_ h=>(nM h),λq hq e=>nd.1 (e ▸ List.mem_map.mpr ⟨q,hq,rfl⟩)⟩
   . refine bl (ih nd.2 h3) λpre post e h1 h2=>?_;refine ⟨p::pre,post,by rw [e];rfl,λq hq=>?_,h2⟩
     rcases List.mem_cons.mp hq with rfl | hq
     . exact λe=>nd.1 (List.mem_map.mpr ⟨(d,o),h3,e.symm⟩)
     . exact h1 q hq
theorem St.re (S:St c le σ tmp s) {m:Str->Option Value} (F0:Fr c.hb c.L s.heap m) {a:Addr} {o:LO} {σ':aa} {h':Heap} (u:oQ a o σ σ') (F:Fr c.hb c.L h' m)
   (k:∀ b y,b≠a->b≠c.L->c.hb.get? b=none->s.heap.get? b=some y->h'.get? b=some y) (r:cC s.heap h'->RO c.w.params h' a o):St c le σ' tmp { s with heap:=h' }:=by
 refine ap (List.mem_map.mp u.key_in) λp hp z0_=>?_;obtain rfl:=z0_;refine ap ((S.ob p hp).there) λx ex nx=>?_;refine ap S.fr λm0 F1 q=>?_;have em:=Fr.uniq F1 F0;subst em;have kk:∀ b y,b≠p.1->b≠c.L->s.heap.get? b=some y->h'.get? b=some y:=λb y h1 h2 e=>by
   cases z:c.hb.get? b with
   | none=>exact k b y h1 h2 z e
   | some y' =>
     have:=F1.keep b y' z;rw [this] at e;obtain rfl:=Option.some.inj e;exact F.keep b _ z
 have ki:cC s.heap h':=λb y e i=>by
   refine kk b y ?_ ?_ e
   . rintro rfl;rw [ex] at e;obtain rfl:=Option.some.inj e;exact nx i
   . rintro rfl;refine f9 F1.ns λo es ep ho hd _=>?_;rw [ho] at e;obtain rfl:=Option.some.inj e;exact cZ hd i
 refine bh (S.ab p hp) λnb nL=>?_;refine ⟨⟨_,F,λx lv hx=>?_⟩,λy hy=>?_,?_,λy hy=>?_,λy hy=>?_,S.td,S.bs,S.gb,S.os,S.tk⟩
 . refine ap (q x lv hx) λv hm rr=>?_;exact ⟨v,hm,rr.keeps ki⟩
 . rcases u.mem S.nd y hy with rfl | ⟨h1,h2⟩
   . exact r ki
   . exact (S.ob y h1).same ki λz e=>kk _ _ h2 (S.ab y h1).2 e
 . rw [u.keys];exact S.nd
 . rcases u.mem S.nd y hy with rfl | ⟨h1,_⟩
   . exact ⟨nb,nL⟩
   . exact S.ab y h1
 . exact (S.tm y hy).same ki (λb z e n nl=>⟨kk b z (λe'=>n (e' ▸ List.mem_map.mpr ⟨p,hp,rfl⟩)) nl e,by rw [u.keys];exact n⟩) rfl
noncomputable def ce (x:Str) (v:LV):List (Str × LV)->List (Str × LV)
 | []=>[(x,v)]
 | (y,u)::r=>if y==x then (y,v)::r else (y,u)::ce x v r
theorem mf.put {P:Params} {h h':Heap} {l:List (Str × LV)} {es:List DictEntry} (d:mf P h l es) (k:cC h h') {name:Str} {t:Tok} {x:LV} {v:Value} (r:RV h' x v) :
   mf P h' (ce name x l) (putL name (PyData.keyHash P name) (.str name t) v es):=by
 induction d with
 | nil=>exact .cons r .nil
 | @cons k' t' x' v' l' es' r' d' ih =>
   unfold ce putL;show mf P h' _ (if (k'==name)=true then _ else _)
   cases q:k'==name with
   | true=>simp only [if_true];exact .cons r (d'.keeps k)
   | false=>simp only [Bool.false_eq_true,if_false];exact .cons (r'.keeps k) ih
theorem qZ {name:Str} {x:LV}:∀ (l:List (Str × LV)),(ce name x l).map (·.1)=if name∈l.map (·.1) then l.map (·.1) else l.map (·.1)++[name]:=by
 intro l;induction l with
 | nil=>simp [ce]
 | cons p r ih =>
   obtain ⟨y,u⟩:=p;unfold ce;cases q:y==name with
   | true=>have:=beq_iff_eq.mp q;clear q;subst this;simp
   | false =>
     have hne:¬ y=name:=beq_eq_false_iff_ne.mp q;have hne':¬ name=y:=λe=>hne e.symm;simp only [Bool.false_eq_true,if_false,List.map_cons,ih,List.mem_cons,hne',false_or];split<;>simp
theorem pf {name:Str} {x:LV} {l:List (Str × LV)} (h:(l.map (·.1)).Nodup):((ce name x l).map (·.1)).Nodup:=by
 rw [qZ];split
 . exact h
 . rename_i hn;refine List.nodup_append.mpr ⟨h,by simp,?_⟩
   intro a ha b hb;simp at hb;subst hb;exact λe=>hn (e ▸ ha)
theorem mf.length {P:Params} {h:Heap} {l:List (Str × LV)} {es:List DictEntry} (d:mf P h l es):es.length=l.length:=by
 induction d with
 | nil=>rfl
 | cons _ _ ih=>simp [ih]
theorem mf.some {P:Params} {h:Heap} {l:List (Str × LV)} {es:List DictEntry} (d:mf P h l es) (name:Str):(PySem.W.getL name es).isSome=true:=by
 cases q:l.lookup name with
 | none=>rw [(d.getL name).2 q];rfl
 | some lv=>refine ap ((d.getL name).1 lv q) λv e _=>?_;rw [e];rfl
theorem pQ (name:Str) (hs:Int) (k v:Value):∀ es:List DictEntry,(putL name hs k v es).length<=es.length+1:=by
 intro es;induction es with
 | nil=>simp [putL]
 | cons e r ih =>
   unfold putL;split
   . simp
   . simp;lia
theorem pZ {A:Around} {x d:Addr} {fs:List (Str × LV)} {name:Str} {lv:LV} {v:Value} {σ':aa} {Q:Unit->Shared->Prop} {E:Value->Shared->Prop} (S:St c le σ tmp s) (r:RV s.heap lv v) (hx:(x,.inst d)∈σ)
   (u:Up d (.dict fs) (.dict (ce name lv fs)) σ σ') (hl:fs.length<=900)
   (hs:findIn (KF c.w.params) (.ref 204) "__setattr__"=some (some (.builtin "object.__setattr__"))) (hp:plainOver (KF c.w.params) 204=true) (ht:takerIn (KF c.w.params) 204 name=some none) (hh:hasDictIn (KF c.w.params) 204=true)
   (k:∀ s',St c le σ' tmp s'->Q () s'):wpAny (Mo c.w) A (setAttr (.ref x) name v) Q E s:=by
 refine ap S.fr λm F _=>?_;have o1:=S.ob _ hx;refine bl (S.ob _ u.mem) λes kk e de nd=>?_;refine du S.news λnews N nn all=>?_;refine bh (S.ab _ u.mem) λnb nL=>?_;refine bl (rE nn (all _ _ e nL nb)) λpre post en h1 h2=>?_;subst en;refine set_plain (S.bs.top.kin.keeps F.keep) (C:=204) (ox:=⟨.ref 204,some d,.plain,#[]⟩) (od:=some (dQ es kk)) ⟨o1,rfl,rfl,e⟩ hs ?_;refine osa_dict (s:={ s with toks:=s.toks+1 }) (od':=dictOf (putL name (PyData.keyHash c.w.params name) (.str name (s.toks+1)) v es) (putN name es kk)) F N (S.bs.top.kin.keeps F.keep) (C:=204) (ox:=⟨.ref 204,some d,.plain,#[]⟩) (od:=dQ es kk) ⟨o1,rfl,rfl,e⟩ rfl hp ht hh (de.some name) h1 h2
   (putName_dict _ _ _ _ _ _) rfl (Nat.le_trans (pQ _ _ _ _ _) (by rw [de.length];lia)) λh' F' N'=>?_
 refine k _ ?_;refine ((S.re F u.upd F' (λb y hb hL hn ey=>?_) λki=>?_).toks (s.toks+2))
 . have:=all b y ey hL hn;refine (N' (b,y) ?_).1;simp only [List.mem_append,List.mem_cons] at this ⊢;rcases this with h | h | h
   . exact .inl h
   . refine bh (Prod.mk.inj h) λz1_ z2_=>?_;clear hx u o1 e nb nL h1 h2 N nn all N';obtain rfl:=z1_;clear ey h;obtain rfl:=z2_;exact absurd rfl hb
   . exact .inr (.inr h)
 . exact ⟨putL name (PyData.keyHash c.w.params name) (.str name (s.toks+1)) v es,putN name es kk,(N' (d,dictOf (putL name (PyData.keyHash c.w.params name) (.str name (s.toks+1)) v es) (putN name es kk)) (List.mem_append_right _ (.head _))).1,de.put ki (r.keeps ki),pf nd⟩
theorem sA {o value:Expr} {attr:Str} {pos' pos:Pos} {K:LF->ak->aa->Prop}
   (h:WV n c (eval value env) le σ λv σ1=>WV n c (eval o env) le σ1 λov σ2=>∃ x d fs σ',ov=.loc x/\(x,.inst d)∈σ2/\Up d (.dict fs) (.dict (ce attr v fs)) σ2 σ'/\fs.length<=900/\K .next le σ')
   (ht:takerIn (KF c.w.params) 204 attr=some none)
   (hs:findIn (KF c.w.params) (.ref 204) "__setattr__"=some (some (.builtin "object.__setattr__")):=by kernel_rfl!) (hp:plainOver (KF c.w.params) 204=true:=by kernel_rfl!) (hh:hasDictIn (KF c.w.params) 204=true:=by kernel_rfl!)
   (hsw:swapsWith value (some (.Attribute o attr pos')) pos.line env=pure false:=by rfl):WF n c (exec (.Assign [.Attribute o attr pos'] value pos) env) le σ K:=λA hA tmp s S =>
 plainObj_wpAny_Assign_Attribute (wpAny_mono (h A hA tmp s S) (by intro v s1 z3_;refine bb z3_ λlv σ1 S1 h1=>?_;exact (wpAny_mono (h1 A hA _ s1 S1) (λvo s2 hq14=>by
   refine bb hq14 λov σ2 S2 y0_=>?_;refine zW y0_ λx d fs σ' e hx u hl k=>?_;subst e;have ro:=S2.tm _ (.head _);obtain rfl:=RV.inv ro;exact pZ S2.drop1.drop1 (S2.tm _ (.tail _ (.head _))) hx u hl hs hp ht hh λs' S'=>⟨.next,le,σ',rfl,S',k⟩) λ_ _ x=>x)) λ_ _ x=>x) hsw
theorem gA {o value:Expr} {attr:Str} {pos' pos:Pos} {K:LF->ak->aa->Prop}
   (h:WV n c (eval value env) le σ λv σ1=>WV n c (eval o env) le σ1 λov σ2=>∃ x d fs fs' σ',ov=.loc x/\(x,.inst d)∈σ2/\ce attr v fs=fs'/\Up d (.dict fs) (.dict fs') σ2 σ'/\fs.length<=900/\K .next le σ')
   (ht:takerIn (KF c.w.params) 204 attr=some none)
   (hs:findIn (KF c.w.params) (.ref 204) "__setattr__"=some (some (.builtin "object.__setattr__")):=by kernel_rfl!) (hp:plainOver (KF c.w.params) 204=true:=by kernel_rfl!) (hh:hasDictIn (KF c.w.params) 204=true:=by kernel_rfl!)
   (hsw:swapsWith value (some (.Attribute o attr pos')) pos.line env=pure false:=by rfl):WF n c (exec (.Assign [.Attribute o attr pos'] value pos) env) le σ K :=
 sA (h.mono λv σ1 h1=>h1.mono λov σ2 hx6_=>Cy hx6_ λx d fs fs' σ' a b e u z=>⟨x,d,fs,σ',a,b,by rw [e];exact u,z⟩) ht hs hp hh hsw
end
theorem jJ:Slot "method_descriptor" "__get__" "method_descriptor.__get__":=.of (owner:="method_descriptor") (n:="__get__") (by rw [typeLookup_type,builtinLookup_eq_fast];kernel_rfl) (by decide +kernel) (by decide +kernel) (by decide +kernel)
   (by first | exact .inl (by decide +kernel) | exact .inr (by decide +kernel)) (by rw [isSubtype_type];kernel_rfl)
theorem nJ:entryFor table "method_descriptor.__get__"=some Builtin.«method_descriptor.__get__»:=entryFor_of_tree (by kernel_rfl)
theorem oS (a b c:Value):argsOk "method_descriptor.__get__" ⟨[a,b,c],[]⟩:=by unfold argsOk;kernel_rfl
theorem xV:typeLookup (.type "list") (ofString "append")=pure (some (.builtin "list.append")):=F.slot_list_append.lookup
theorem pB:typeLookup (.type "method_descriptor") (ofString "__set__")=pure none:=by rw [typeLookup_type,builtinLookup_eq_fast];kernel_rfl
theorem pA:typeLookup (.type "method_descriptor") (ofString "__delete__")=pure none:=by rw [typeLookup_type,builtinLookup_eq_fast];kernel_rfl
theorem sub_list_list:isSubtype (.type "list") (.type "list")=pure true:=by rw [isSubtype_type];kernel_rfl
section
variable {prog:Program} {w:World} {A:Around} {E:Value->Shared->Prop}
theorem rX (a:Addr) (xs:Array Value) (k:Nat) (sl:Array (Option Value)):Meets (Builtin.«method_descriptor.__get__» ⟨[.builtin "list.append",.ref a,.type "list"],[]⟩) (λ_ R s=>s.heap.get? a=some { cls:=.type "list",dict:=none,data:=.seq xs k,slots:=sl } /\
   R (.ok (.ret (.ref s.heap.objs.size))) { s with heap:=s.heap.push (eR "list.append" (.ref a)) }) :=
 Meets.of_wp λprog w A R s hs=>by
   refine el λP kP=>?_;obtain ⟨hp,g,d,tk,os⟩:=s;refine kP ?_;clear kP P;refine bh hs λhx hs=>?_;have hT:(⟨hp,g,d,tk,os⟩:Shared).TypeIs (.ref a) "list":=⟨_,hx,rfl⟩;have f:=sub_list_list;unfold Builtin.«method_descriptor.__get__»
   repeat (any_goals (first | assumption | wp_step))
   have e:(".".intercalate ("list.append".cutAt '.').dropLast)="list":=by decide +kernel
   rw [e]
   repeat (any_goals (first | assumption | wp_step))
   exact ⟨_,rfl,hs⟩
theorem pU (a:Addr) (xs:Array Value) (k:Nat) (sl:Array (Option Value)) (u:Tok):Meets (Builtin.«object.__getattribute__» ⟨[.ref a,.str (ofString "append") u],[]⟩) (λ_ R s=>s.heap.get? a=some { cls:=.type "list",dict:=none,data:=.seq xs k,slots:=sl } /\
   R (.ok (.ret (.ref s.heap.objs.size))) { s with heap:=s.heap.push (eR "list.append" (.ref a)) }) :=
 Meets.of_wp λprog w A R s hs=>by
   refine el λP kP=>?_;obtain ⟨hp,g,d,tk,os⟩:=s;refine kP ?_;clear kP P;refine bh hs λhx hs=>?_;have hT:(⟨hp,g,d,tk,os⟩:Shared).TypeIs (.ref a) "list":=⟨_,hx,rfl⟩;have f0:=xV;have f1:=F.type_list_append;have f2:=jJ.lookup;have f3:=pB;have f4:=pA;unfold Builtin.«object.__getattribute__»
   repeat (any_goals (first | assumption | ((with_reducible show wpAny _ _ (call (Value.builtin "method_descriptor.__get__") _ _) _ _ _);refine call_meets jJ f1 nJ (oS _ _ _) (rX a xs k sl) ⟨hx,?_⟩) | wp_step))
   exact wpAny_pure ⟨_,rfl,hs⟩
theorem lp {s:Shared} {a:Addr} {vs:List Value} {k:Nat} {Q:Value->Shared->Prop} {ex:Bool} (hx:s.heap.get? a=some (az vs k))
   (h:Q (.ref s.heap.objs.size) { s with heap:=s.heap.push (eR "list.append" (.ref a)),toks:=s.toks+1 }):wpAny (model prog w) A (getAttr (.ref a) (ofString "append") ex) Q E s:=by
 refine el λP kP=>?_;obtain ⟨hp,g,d,tk,os⟩:=s;refine kP ?_;clear kP P;have hT:∀ tk',(⟨hp,g,d,tk',os⟩:Shared).TypeIs (.ref a) "list":=λ_=>⟨_,hx,rfl⟩;have f3:=F.slot_list_getattribute.lookup;have f4:=F.slot_list_getattribute.bind (.ref a);unfold getAttr getAttrBy;refine wpAny_bind (wpAny_mkText (wpAny_holding (wpAny_bind (wpAny_typeOf (hT _) (wpAny_bind (wpAny_of_eq f3 ?_))))));show wpAny _ _ (getAttrByItsOwn _ _ _ _ _ _) _ _ _;unfold getAttrByItsOwn;refine wpAny_bind (wpAny_pure (wpAny_bind (wpAny_attempt (wpAny_holding ?_))));have e:callGetattribute (.ref a) (.str (ofString "append") tk) (.builtin "list.__getattribute__") ex=boundAndCalled (.builtin "list.__getattribute__") (.ref a) (.str (ofString "append") tk):=by
   unfold callGetattribute;cases ex<;>rfl
 rw [e];unfold boundAndCalled;refine wpAny_bind (wpAny_of_eq f4 ?_);refine call_meets F.slot_list_getattribute (hT _) am_entry_list_getattribute (F.args_list_getattribute_2 _ _) (pU a _ k #[] _) ⟨hx,?_⟩;exact wpAny_pure h
end
section
variable {n:Nat} {c:Cx} {le:ak} {σ:aa} {env:Env} {tmp:List bt} {s:Shared}
theorem uu {a:Addr} {l:List LV} {K:LV->aa->Prop} (hm:(a,.list l)∈σ) (h:K (.bm "list.append" a) σ):OA n c (.loc a) (ofString "append") le σ K:=λA hA tmp s vx S r=>by
 obtain rfl:=RV.inv r;refine bb (S.ob _ hm) λvs k e rs=>?_;exact lp e (pv ((S.push (eR "list.append" (.ref a))).toks _) (.bm (Heap.get?_push_size _ rfl)) h)
theorem ju {M:Model} {A:Around} {E:Value->Shared->Prop} {pos:Pos} {u:Addr} {id:String} {v:Value} {first:List Value} {args:List (Bool × Sem Value)} {Q:Value->Shared->Prop} (hplain:args.any (·.1)=false)
   (h:wpAny M A (evalArgs (.ref u) true args []) (λx s₁=>s₁.heap.get? u=some (eR id v)/\wpAny M A (call (.ref u) (first++x.pos) x.kw) Q E s₁) E s):wpAny M A (callWith pos (.ref u) first args []) Q E s:=by
 unfold callWith;refine wpAny_bind (wpAny_holding (wpAny_mono h (λx s₁ h₁=>wpAny_bind (wpAny_standAt ?_)) λ_ _ x=>x));refine bh h₁ λho hcall=>?_;simp -iota only [hplain,List.any_nil,Bool.or_false];refine wpAny_bind (m:=keeperOf (.ref u)) ?_;unfold keeperOf;refine wpAny_bind (wpAny_load ho ?_);simp -iota only [show (Value.type "builtin_function_or_method" != Value.type "method")=true by decide,show (Value.type "builtin_function_or_method"==Value.type "builtin_function_or_method" || Value.type "builtin_function_or_method"==Value.type "method-wrapper")=true by decide,if_true]
 refine wpAny_pure ?_;exact wpAny_bind (wpAny_mono hcall (λr s₂ hr=>wpAny_bind (wpAny_holding (wpAny_point (wpAny_pure hr)))) λ_ _ x=>x)
theorem xv {prog:Program} {w:World} {A:Around} {E:Value->Shared->Prop} {u:Addr} {id:String} {B:Builtin} {v:Value} {vs:List Value} {Q:Value->Shared->Prop} (ho:s.heap.get? u=some (eR id v))
   (hc:Looks (model prog w) s.heap (checkBoundCall id ⟨v::vs,[]⟩) ()) (hq:(Code.builtin id ⟨v::vs,[]⟩).quiet=true) (he:entryFor table id=some B)
   (h:wpAny (model prog w) (A.under (.builtin id ⟨v::vs,[]⟩)) (B ⟨v::vs,[]⟩) (λfin s'=>∃ r,fin=.done (.ret r)/\Q r s') E s):wpAny (model prog w) A (call (.ref u) vs) Q E s:=by
 refine wpAny_call (codeAny_of_tree ?_);show wpAny _ A.in1 (callAny (.ref u) ⟨vs,[]⟩) _ _ s;simp -iota only [callAny];refine wpAny_bind (wpAny_load ho ?_);simp -iota only [show (Value.type "builtin_function_or_method"==Value.type "method" || Value.type "builtin_function_or_method"==Value.type "builtin_function_or_method" || Value.type "builtin_function_or_method"==Value.type "method-wrapper")=true by decide,if_true]
 show wpAny _ _ (if (Value.type "builtin_function_or_method" != Value.type "method")=true then _ else _) _ _ s
 rw [if_pos (by decide)]
 refine wpAny_bind (hc.here ?_);refine wpAny_bind (wpAny_pure (wpAny_pure ?_));show (Code.builtin id ⟨v::vs,[]⟩).quiet=true/\codeAny _ _ (Code.builtin id ⟨v::vs,[]⟩) _ _;refine ⟨hq,codeAny_builtin he (wpAny_mono h (λfin s' z=>?_) λ_ _ z=>z)⟩;refine ap z λr z0_ q=>?_;clear z;obtain rfl:=z0_;exact q
theorem jR {M:Model} {h:Heap} {a:Addr} {vs:List Value} {k:Nat} {x:Value} (e:h.get? a=some (az vs k)):Looks M h (checkBoundCall "list.append" ⟨[.ref a,x],[]⟩) ():=by
 intro A Q E s k' q;have e':=k' _ _ e;have hT:s.TypeIs (.ref a) "list":=⟨_,e',rfl⟩;have hs:Manifest.signature? "list.append"=some { machinery:=.oneArg,full:="list.append",short:="append",receiver:=.self,params:=[{ name:="object",kind:=.posOnly,required:=true }] }:=by kernel_rfl
 have hk:builtinKind "list.append"=some .method:=by decide +kernel
 unfold checkBoundCall;simp -iota only [hs,hk];show wpAny _ _ (isInstance (.ref a) (.type "module") >>= _) _ _ _;unfold isInstance;refine wpAny_bind (wpAny_bind (wpAny_typeOf hT (wpAny_of_eq (a:=false) (by rw [isSubtype_type];kernel_rfl) ?_)))
 rw [show (Manifest.varargsMethods.contains "list.append" || false)=false by decide +kernel]
 refine wpAny_bind ?_;unfold isType;refine wpAny_bind (wpAny_load e' (wpAny_pure ?_));show wpAny _ _ (if false=true then _ else _) _ _ _
 rw [if_neg Bool.false_ne_true];refine wpAny_bind (wpAny_typeOf hT ?_);show wpAny _ _ (Bind.checkArgs _ _ _) _ _ _;exact wpAny_of_eq (a:=()) (by kernel_rfl) q
theorem ou {as:Args}:(Code.builtin "list.append" as).quiet=true:=Code.quiet_builtin _ (by decide +kernel)
theorem ml (y:Str) (u:Tok) (x:Value):checkBoundCall "str.join" ⟨[.str y u,x],[]⟩=pure ():=by first | kernel_rfl | rfl
theorem tM {prog:Program} {w:World} {A:Around} {E:Value->Shared->Prop} {u D:Addr} {its:Array Value} {k:Nat} {x:Value} {Q:Value->Shared->Prop} (ho:s.heap.get? u=some (eR "list.append" (.ref D))) (hd:s.heap.get? D=some { cls:=.type "list",data:=.seq its k })
   (h:∀ h',Heap.SameBut D s.heap h'->h'.get? D=some { cls:=.type "list",data:=.seq (its.push x) (k+1) }->Q .none { s with heap:=h' })
   (hsz:its.size<=sizeLine:=by size_fits):wpAny (model prog w) A (call (.ref u) [x]) Q E s:=by
 refine xv ho (jR (vs:=its.toList) (k:=k) (by simpa using hd)) ou F.entry_list_append ?_
 show wpAny _ _ (updateSeq D (·.push x) >>= λ_=>ret .none) _ _ s
 refine wpAny_bind ?_;refine wpAny_updateSeq hd rfl (wpAny_pure ⟨.none,rfl,h _ (Heap.SameBut.update ..) ?_⟩);rw [Heap.get?_update_self _ hd (by rw [mapSeq_push];rfl),mapSeq_push]
theorem db {a:Addr} {args:List Expr} {K:LV->aa->Prop} (h:WA n c args env le σ λxs σ2=>∃ l x σ',xs=[x]/\Up a (.list l) (.list (l++[x])) σ2 σ'/\l.length<=sizeLine/\K .none σ')
   (hst:(starEach args env).any (·.1)=false:=by rfl):OC n c (.bm "list.append" a) args env le σ K:=λA hA pos tmp s fv S r=>by
 refine ap (RV.inv r) λb z1_ e=>?_;clear r;obtain rfl:=z1_;refine ju (id:="list.append") (v:=.ref a) (cN _ _ hst) (bn hst (wpAny_mono (h A hA pos _ s (S.hold (.bm e))) (λvs s1 hq15=>?_) λ_ _ x=>x));refine bl hq15 λxs σ1 S1 r1 y0_=>?_;refine qT y0_ λl x σ' ex u hl k=>?_;subst ex;have rb:=S1.tm _ (.head _);have e1:=RV.bref rb;refine ⟨e1,?_⟩;refine bl (aK.inv r1) λv _ z2_ rx r2=>?_;obtain rfl:=z2_;clear r1;obtain rfl:=aK.nil_ r2;refine bb (S1.ob _ u.mem) λus kk ed rs=>?_;refine tM (its:=us.toArray) (k:=kk) e1 ed (λh' hs e'=>?_) (by rw [List.size_toArray,<-rs.length];exact hl)
 refine pv (S1.drop1.upd u.upd hs λki=>⟨us++[v],kk+1,?_,(rs.keeps ki).append (.cons (rx.keeps ki) .nil)⟩) .none k;rw [e'];simp
end
section
variable {n:Nat} {c:Cx} {le:ak} {σ:aa} {env:Env} {tmp:List bt} {s:Shared}
theorem te {x d:Addr} {fs:List (Str × LV)} {name:Str} {lv:LV} {args:List Expr} {K:LV->aa->Prop} (hx:(x,.inst d)∈σ) (hd:(d,.dict fs)∈σ) (hf:fs.lookup name=some lv)
   (ha:findIn (KF c.w.params) (.ref 204) name=some none) (h:OC n c lv args env le σ K) (hg:plainGet (KF c.w.params) 204 name=true) (hh:hasDictIn (KF c.w.params) 204=true)
   (hv:∀ h v,RV h lv v->handedIn v=true:=by exact RV.handed rfl):OM n c (.loc x) name args env le σ K:=λA hA pos pl tmp s vo S r=>by
 obtain rfl:=RV.inv r;refine ap S.fr λm F _=>?_;have o1:=S.ob _ hx;refine bl (S.ob _ hd) λes k e de _=>?_;refine ap ((de.getL name).1 lv hf) λv hl rv=>?_;refine method_usual (S.bs.top.kin.keeps F.keep) (C:=204) (ox:=⟨.ref 204,some d,.plain,#[]⟩) (od:=some (dQ es k)) ⟨o1,rfl,rfl,e⟩ (plainGet_of hg).1 (plainGet_of hg).2 ha rfl ?_;exact get_own F S.bs.top.kin (C:=204) (ox:=⟨.ref 204,some d,.plain,#[]⟩) (es:=es) (n:=k) ⟨o1,rfl,rfl,e⟩ hg hh ha rfl hl (hv _ _ rv) (h A hA pos tmp _ v (S.toks _) rv)
theorem eJ {test body orelse:Expr} {pos:Pos} {K:LV->aa->Prop} (h:WB n c (isTrue test env (eval test env)) le σ λb σ1=>if b then WV n c (eval body env) le σ1 K else WV n c (eval orelse env) le σ1 K) :
   WV n c (eval (.IfExp test body orelse pos) env) le σ K:=λA hA tmp s S =>
 IfExp_ (wpAny_mono (h A hA tmp s S) (by intro b s1 z0_;refine ap z0_ λσ1 S1 h1=>?_;cases b<;>exact h1 A hA tmp s1 S1) λ_ _ x=>x)
theorem fW {pos:Pos} {whole:Sem Value} {K:Bool->aa->Prop} (h:K true σ):WB n c (isTrue (.BoolOp .And [] pos) env whole) le σ K:=λA hA tmp s S=>isTrue_and_nil ⟨σ,S,h⟩
theorem cQ {x:Expr} {rest:List Expr} {pos:Pos} {whole:Sem Value} {K:Bool->aa->Prop} (h:WB n c (isTrue x env (eval x env)) le σ λb σ1=>if b then WB n c (isTrue (.BoolOp .And rest pos) env whole) le σ1 K else K false σ1) :
   WB n c (isTrue (.BoolOp .And (x::rest) pos) env whole) le σ K:=λA hA tmp s S =>
 isTrue_and (wpAny_mono (h A hA tmp s S) (λb s1 hq16=>by
   refine ap hq16 λσ1 S1 h1=>?_;cases b with
   | true=>exact (show WB n c (isTrue (.BoolOp .And rest pos) env whole) le σ1 K from h1) A hA tmp s1 S1
   | false=>exact ⟨σ1,S1,h1⟩) λ_ _ x=>x)
theorem iI {K:Bool->aa->Prop} (h:K false σ):OT n c .none le σ K:=λA hA tmp s vx S r=>by obtain rfl:=RV.inv r;exact truthy_none ⟨σ,S,h⟩
theorem kx {b:Bool} {K:Bool->aa->Prop} (h:K b σ):OT n c (.bool b) le σ K:=λA hA tmp s vx S r=>by obtain rfl:=RV.inv r;exact wpAny_truthy_bool ⟨σ,S,h⟩
theorem wK {a:Int} {K:Bool->aa->Prop} (h:K (a != 0) σ):OT n c (.int a) le σ K:=λA hA tmp s vx S r=>by refine aH (RV.inv r) λ_ z1_=>?_;clear r;obtain rfl:=z1_;exact truthy_int ⟨σ,S,h⟩
theorem oq {x:Str} {K:Bool->aa->Prop} (hl:x.length<=16777216) (h:K (x.length != 0) σ):OT n c (.str x) le σ K:=λA hA tmp s vx S r=>by
 refine aH (RV.inv r) λ_ z2_=>?_;clear r;obtain rfl:=z2_;refine PySem.P.truthy_str (by lia) ⟨σ,S.toks _,?_⟩
 have:((x.length:Int) != 0)=(x.length != 0):=by cases q:x.length<;>simp<;>lia
 rw [this];exact h
theorem oo {a:Addr} {l:List LV} {K:Bool->aa->Prop} (hm:(a,.list l)∈σ) (hl:l.length<=16777216) (h:K (!l.isEmpty) σ):OT n c (.loc a) le σ K:=λA hA tmp s vx S r=>by
 obtain rfl:=RV.inv r;refine bb (S.ob _ hm) λvs k e rs=>?_;have hz:=rs.length;refine wpAny_truthy_list (items:=vs.toArray) ⟨_,e,rfl,k,rfl⟩ (by simp;exact By hz hl rfl) ⟨σ,S.toks _,?_⟩
 have:(!(vs.toArray).isEmpty)=(!l.isEmpty):=by cases l<;>cases vs<;>simp at hz ⊢
 rw [this];exact h
theorem rL {x:LV} {K:LV->aa->Prop} (h:K (.bool (match x with | .none=>true | _=>false)) σ):OB n c (compareOp .Is) x .none le σ K:=λA hA tmp s vx vy S r1 r2=>by
 obtain rfl:=RV.inv r2;cases r1<;>first | exact is_none_none (pv S (.bool _) h) | skip
 all_goals exact is_none_ne (by intro e;cases e;all_goals (rename_i g;cases g)) (pv S (.bool _) h)
theorem bC {x:LV} {K:LV->aa->Prop} (h:K (.bool (match x with | .none=>false | _=>true)) σ):OB n c (compareOp .IsNot) x .none le σ K:=λA hA tmp s vx vy S r1 r2=>by
 obtain rfl:=RV.inv r2;cases r1<;>first | exact isnot_none_none (pv S (.bool _) h) | skip
 all_goals exact isnot_none_ne (by intro e;cases e;all_goals (rename_i g;cases g)) (pv S (.bool _) h)
noncomputable def Co (K:LV->aa->Prop):List LV->aa->Prop:=λxs σ1=>xs.length<=sizeLine/\K (.tup xs) σ1
theorem bQ {es:List Expr} {k:Nat} {pos:Pos} {K:LV->aa->Prop} (h:WA n c es env le σ (Co K)):WV n c (eval (.Tuple es k pos) env) le σ K:=λA hA tmp s S =>
 Tuple_ (wpAny_mono (h A hA pos tmp s S) (λvs s1 hx8_=>tZ hx8_ λxs σ1 S1 r hl k=>by
   refine wpAny_newObj_type ?_ (by show vs.toArray.size<=sizeLine;rw [List.size_toArray,<-r.length];exact hl)
   exact pv (S1.push _) (.tup (vs:=vs) (n:=0) (Heap.get?_push_size _ rfl) (r.keeps λb o e _=>Heap.get?_push_of_some _ e)) k) λ_ _ x=>x)
theorem l9 {pos:Pos} {K:LV->aa->Prop} (h:∀ a,a∉σ.map (·.1)->K (.loc a) ((a,.dict [])::σ)):WV n c (eval (.Dict [] [] pos) env) le σ K:=λA hA tmp s S =>
 wpAny_Dict_empty (pv (S.new (o:={ cls:=.type "dict",data:=.dict #[] }) (lo:=.dict []) ⟨[],0,Heap.get?_push_size _ rfl,.nil,by simp⟩) (.loc _) (h _ λhm=>Nat.lt_irrefl _ (S.key_lt hm)))
end
noncomputable def fu (s:Stmt):Expr:=(oO (some s)).1
noncomputable def cy (s:Stmt):List Stmt:=(oO (some s)).2.1
noncomputable def fq (s:Stmt):List Stmt:=(oO (some s)).2.2.1
noncomputable def bw (l:List Stmt) (i:Nat):Stmt:=(l[i]?).getD (.Pass default)
theorem gu {w:World} {m:Int} {σ:aa} {K:LV->aa->Prop} (h:K (.int (Builtin.bitAnd m 61440)) σ) (hn:(σ.map (·.1)).Nodup):FS 1 w 52 [.int m] σ K:=by
 refine dw (names:=[ofString "mode"]) (dl:=[]) (dv:=[]) (hK:=by exact rfl) (hc:=by decide +kernel) ?_ (λ_ _=>.nil) (by decide) rfl (by decide +kernel) (by decide +kernel) (by decide +kernel) (by decide +kernel) (by decide +kernel) ?_
 . intro s vs _ hl;refine aH (lz hl) λv z0_=>?_;clear hl;obtain rfl:=z0_;exact BindsTo.of_eq (by kernel_rfl!)
 . intro c hc;refine ae (bE (ah ?_));refine ac rfl ?_;refine aq ?_;exact rI ⟨σ,⟨λ_ h=>h,hn⟩,h⟩
noncomputable abbrev AI:Stmt:=bw (bG (bu 25)) 1
noncomputable abbrev Bc:Stmt:=bw (cy AI) 0
noncomputable abbrev yK (c:Cx):Env:=envOf (ofString "filemode") (aE (bu 25)) c.L 92 (.ref 91)
noncomputable def rR (p:Int × Str):LV:=.tup [.int p.1,.str p.2]
noncomputable def dm (l:List (Int × Str)) (t:Int->Bool) (d:Str):Str:=match l.find? (λp=>t p.1) with
 | some p=>p.2
 | none=>d
noncomputable def ev (m:Int) (ix:Int) (b:Int):Bool:=if ix==0 then Builtin.bitAnd m 61440==b else Builtin.bitAnd m b==b
noncomputable def gg (ix:Int):Str:=if ix==0 then ofString "?" else ofString "-"
structure tG (le:ak) (p:Addr) (m ix:Int):Prop where
 perm:le.lookup (ofString "perm")=some (.loc p)
 mode:le.lookup (ofString "mode")=some (.int m)
 index:le.lookup (ofString "index")=some (.int ix)
theorem tG.set {le:ak} {p:Addr} {m ix:Int} (h:tG le p m ix) (x:Str) (v:LV) (h1:(ofString "perm"=x)=False) (h2:(ofString "mode"=x)=False) (h3:(ofString "index"=x)=False):tG (an x v le) p m ix :=
 ⟨by rw [ag,if_neg (by rw [h1];exact id)];exact h.perm,by rw [ag,if_neg (by rw [h2];exact id)];exact h.mode,by rw [ag,if_neg (by rw [h3];exact id)];exact h.index⟩
theorem vQ {c:Cx} {p:Addr} {m ix:Int} {σ0:aa} {K:LF->ak->aa->Prop} {done:List Str} (hd:done.length<=100) (hn:(((p,LO.list (done.map .str))::σ0).map (·.1)).Nodup) (l:List (Int × Str)) :
   ∀ le,tG le p m ix->(∀ le',tG le' p m ix->K .next le' ((p,.list ((done++[dm l (ev m ix) (gg ix)]).map .str))::σ0)) ->
   cW 3 c (fu Bc) (cy Bc) (fq Bc) (yK c) (λ_=>True) K (l.map rR) le ((p,.list (done.map .str))::σ0):=by
 induction l with
 | nil =>
   intro le hle k;refine ⟨trivial,?_⟩;refine ae (bD (aA ?_));refine ac hle.index (aq (gp ⟨_,rfl,?_⟩));cases hz:(ix==0) with
   | true =>
     refine ae (a8 (aG (ac hle.perm (bi (.head _) F.slot_list_append F.type_list_append (af (aB (am (bj .head (av (by simp;exact J1 hd rfl)) ⟨trivial,?_⟩))))))))
     refine aw (aw ?_);have:=k le hle;simpa [dm,gg,hz] using this
   | false =>
     refine ae (a8 (aG (ac hle.perm (bi (.head _) F.slot_list_append F.type_list_append (af (aB (am (bj .head (av (by simp;exact J1 hd rfl)) ⟨trivial,?_⟩))))))))
     refine aw (aw ?_);have:=k le hle;simpa [dm,gg,hz] using this
 | cons q l ih =>
   intro le hle k;refine ⟨trivial,iU ?_⟩;have hle1:=(hle.set (ofString "bit") (.int q.1) (by decide) (by decide) (by decide)).set (ofString "char") (.str q.2) (by decide) (by decide) (by decide)
   have hbit:(an (ofString "char") (.str q.2) (an (ofString "bit") (.int q.1) le)).lookup (ofString "bit")=some (.int q.1):=by
     rw [ag,if_neg (by decide),ag,if_pos rfl]
   have hchar:(an (ofString "char") (.str q.2) (an (ofString "bit") (.int q.1) le)).lookup (ofString "char")=some (.str q.2):=by
     rw [ag,if_pos rfl]
   generalize an (ofString "char") (.str q.2) (an (ofString "bit") (.int q.1) le)=le1 at hle1 hbit hchar;refine ae (bD (aA (ac hle1.index (aq (gp ⟨_,rfl,?_⟩)))));cases hz:(ix==0) with
   | true =>
     refine ae (bD (aA (aC (bO (v:=.ref 52) (by kernel_rfl!) (λ_ _=>.val rfl) (eB (by exact rfl) (af (ac hle1.mode (am ?_))))))))
     refine (λA hA=>gu (K:=_) ?_ hn c rfl _ A (hA.le (by decide)))
     refine ac hbit (gp ⟨_,rfl,?_⟩);cases ht:(Builtin.bitAnd m 61440==q.1) with
     | true =>
       refine ae (a8 (aG (ac hle1.perm (bi (.head _) F.slot_list_append F.type_list_append (af (ac hchar (am (bj .head (av (by simp;exact J1 hd rfl)) ⟨trivial,?_⟩))))))))
       refine ae (qy ?_);have:=k le1 hle1;simpa [Nx,KL,dm,ev,hz,ht] using this
     | false =>
       refine aw (aw (aw ?_));refine ih le1 hle1 λle' h'=>?_;have:=k le' h';simpa [Nx,KL,dm,ev,hz,ht] using this
   | false =>
     refine ae (bD (aA (ah (ac hle1.mode (ac hbit (rI (ac hbit (gp ⟨_,rfl,?_⟩))))))));cases ht:(Builtin.bitAnd m q.1==q.1) with
     | true =>
       refine ae (a8 (aG (ac hle1.perm (bi (.head _) F.slot_list_append F.type_list_append (af (ac hchar (am (bj .head (av (by simp;exact J1 hd rfl)) ⟨trivial,?_⟩))))))))
       refine ae (qy ?_);have:=k le1 hle1;simpa [Nx,KL,dm,ev,hz,ht] using this
     | false =>
       refine aw (aw (aw ?_));refine ih le1 hle1 λle' h'=>?_;have:=k le' h';simpa [dm,ev,hz,ht] using this
noncomputable def cx:List (List (Int × Str)):=[[(40960,ofString "l"),(49152,ofString "s"),(32768,ofString "-"),(24576,ofString "b"),(16384,ofString "d"),(8192,ofString "c"),(4096,ofString "p")],
 [(256,ofString "r")],[(128,ofString "w")],[(2112,ofString "s"),(2048,ofString "S"),(64,ofString "x")],
 [(32,ofString "r")],[(16,ofString "w")],[(1032,ofString "s"),(1024,ofString "S"),(8,ofString "x")],
 [(4,ofString "r")],[(2,ofString "w")],[(513,ofString "t"),(512,ofString "T"),(1,ofString "x")]]
noncomputable def nh (t:List (Int × Str)):LV:=.tup (t.map rR)
theorem t7 {P:Params} {h:Heap} (hk:(KF P).In h):RV h (.tup (cx.map nh)) (.ref 85):=by
 repeat (first | exact aK.nil | exact RV.int _ _ | exact RV.str _ _ | refine aK.cons ?_ ?_ | refine RV.tup (hk _ _ rfl) ?_)
noncomputable def eT (m:Int):Int->List (List (Int × Str))->List Str
 | _,[]=>[]
 | i,t::ts=>dm t (ev m i) (gg i)::eT m (i+1) ts
structure yF (le:ak) (p:Addr) (m:Int):Prop where
 perm:le.lookup (ofString "perm")=some (.loc p)
 mode:le.lookup (ofString "mode")=some (.int m)
theorem vR {c:Cx} {p:Addr} {m:Int} {σ0:aa} {K:LF->ak->aa->Prop} (np:p∉σ0.map (·.1)) (nd:(σ0.map (·.1)).Nodup) (ts:List (List (Int × Str))) :
   ∀ (i:Int) (done:List Str) le,yF le p m->done.length+ts.length<=50->(∀ le',yF le' p m->K .next le' ((p,.list ((done++eT m i ts).map .str))::σ0)) ->
   cW 3 c (fu AI) (cy AI) (fq AI) (yK c) (λ_=>True) K (gU i (ts.map nh)) le ((p,.list (done.map .str))::σ0):=by
 induction ts with
 | nil =>
   intro i done le hle _ k;refine ⟨trivial,aw ?_⟩;have:=k le hle;simpa [eT] using this
 | cons t ts ih =>
   intro i done le hle hlen k;refine ⟨trivial,iU ?_⟩;have h1:tG (an (ofString "table") (nh t) (an (ofString "index") (.int i) le)) p m i:=⟨by
     rw [ag,if_neg (by decide),ag,if_neg (by decide)];exact hle.perm,by
     rw [ag,if_neg (by decide),ag,if_neg (by decide)];exact hle.mode,by
     rw [ag,if_neg (by decide),ag,if_pos rfl]⟩
   have h2:(an (ofString "table") (nh t) (an (ofString "index") (.int i) le)).lookup (ofString "table")=some (nh t):=by rw [ag,if_pos rfl]
   generalize an (ofString "table") (nh t) (an (ofString "index") (.int i) le)=le1 at h1 h2;refine ae (xb (t.map rR) (λ_=>True) (ac h2 ⟨_,rO,?_⟩));refine vQ (by simp at hlen;exact yG hlen rfl) (by rw [List.map_cons];exact List.nodup_cons.mpr ⟨np,nd⟩) t le1 h1 λle' h'=>aw ?_
   refine ih (i+1) _ le' ⟨h'.perm,h'.mode⟩ (by simp at hlen ⊢;exact zJ hlen rfl) λle2 h2=>?_
   have:=k le2 h2;simpa [eT] using this
noncomputable def rV (m:Int):Str:=Txt.join (ofString "") (eT m 0 cx)
theorem fi {w:World} {m:Int} {σ:aa} {K:LV->aa->Prop} (h:K (.str (rV m)) σ) (hn:(σ.map (·.1)).Nodup) (hlen:((eT m 0 cx).map (·.length)).sum<=1000):FS 4 w 92 [.int m] σ K:=by
 refine dw (names:=[ofString "mode"]) (dl:=[]) (dv:=[]) (hK:=by exact rfl) (hc:=by decide +kernel) ?_ (λ_ _=>.nil) (by decide) rfl (by decide +kernel) (by decide +kernel) (by decide +kernel) (by decide +kernel) (by decide +kernel) ?_
 . intro s vs _ hl;refine aH (lz hl) λv z1_=>?_;clear hl;obtain rfl:=z1_;exact BindsTo.of_eq (by kernel_rfl!)
 . intro c hc;refine ae (ax (ba (am ⟨by decide,λp np=>?_⟩)))
   refine ae (qA (be (v:=.type "enumerate") (by kernel_rfl!) (by kernel_rfl!) ⟨rfl,bO (v:=.ref 85) (by kernel_rfl!) (λ_ hk=>t7 hk) ⟨_,rfl,?_⟩⟩))
   refine vR np hn cx 0 [] _ ⟨rfl,rfl⟩ (by decide) λle' h'=>?_
   rw [List.nil_append];refine ae ?_;refine bE ?_;refine aG ?_;refine aB ?_;refine hV F.slot_str_join F.type_str_join ?_;refine af (ac h'.perm (am ?_));refine iW (ys:=eT m 0 cx) (.head _) ?_ ?_
   . have e:(ofString "").length=0:=by decide
     rw [e];exact Bv hlen rfl
   . exact ⟨σ,⟨λ_ h=>.tail _ h,hn⟩,h⟩
noncomputable def dH (prev number:Int):Int :=
 Builtin.bitAnd (if decide (1 < (number.fmod 262144).fdiv 65536) then prev else number.fmod 262144) 61440
   + Builtin.bitAnd (if ((number.fmod 262144).fdiv 65536).fmod 2==1 then prev else number.fmod 262144) 4095+65536*(number.fmod 262144).fdiv 65536
noncomputable def bY (prev:Int):List Int->List Int
 | []=>[prev]
 | n::ns=>prev::bY (dH prev n) ns
noncomputable abbrev pz:Stmt:=bw (bG (bu 35)) 1
noncomputable abbrev lA (c:Cx):Env:=envOf (ofString "_law_modes") (aE (bu 35)) c.L 229 (.ref 228)
theorem bW {n m:Nat} {c:Cx} {a:Addr} {args:List LV} {le:ak} {σ:aa} {K:LV->aa->Prop} (h:FS n c.w a args σ K) (hn:n<=m):WC m c (.ref a) args le σ K:=λA hA=>h c rfl le A (hA.le hn)
theorem xU {c:Cx} {p a:Addr} {all:List Int} {σ0:aa} {K:LF->ak->aa->Prop} (np:p∉σ0.map (·.1)) (nd:(σ0.map (·.1)).Nodup) (ha:(a,.list (all.map .int))∈σ0) (ns:List Int) :
   ∀ (done:List Int) (prev:Int) le,le.lookup (ofString "modes")=some (.loc p)->done.length+ns.length<=1000 ->
   (∀ le',le'.lookup (ofString "modes")=some (.loc p)->K .next le' ((p,.list ((done++bY prev ns).map .int))::σ0)) ->
   cW 3 c (fu pz) (cy pz) (fq pz) (lA c) (λσ=>(a,.list (all.map .int))∈σ) K (ns.map .int) le ((p,.list ((done++[prev]).map .int))::σ0):=by
 induction ns with
 | nil =>
   intro done prev le hle _ k;exact ⟨.tail _ ha,aw (k le hle)⟩
 | cons x ns ih =>
   intro done prev le hle hlen k;refine ⟨.tail _ ha,a9 ?_⟩;have hnd:(((p,LO.list ((done++[prev]).map .int))::σ0).map (·.1)).Nodup:=by rw [List.map_cons];exact List.nodup_cons.mpr ⟨np,nd⟩
   have e0:(an (ofString "number") (.int x) le).lookup (ofString "number")=some (.int x):=by rw [ag,if_pos rfl]
   have e1:(an (ofString "number") (.int x) le).lookup (ofString "modes")=some (.loc p):=by rw [ag,if_neg (by decide)];exact hle
   generalize an (ofString "number") (.int x) le=le0 at e0 e1;refine ae (ax (ah (ac e0 (aq (jl (by decide) ?_)))))
   have f0:(an (ofString "own") (.int (x.fmod 262144)) le0).lookup (ofString "own")=some (.int (x.fmod 262144)):=by rw [ag,if_pos rfl]
   have f1:(an (ofString "own") (.int (x.fmod 262144)) le0).lookup (ofString "modes")=some (.loc p):=by rw [ag,if_neg (by decide)];exact e1
   generalize an (ofString "own") (.int (x.fmod 262144)) le0=le1 at f0 f1;refine ae (ax (ah (ac f0 (aq (wB (by decide) (PyProof.noPylong_small (by decide)) ?_)))))
   refine ae (ax (ac (by rw [ag,if_neg (by decide)];exact f0) ?_))
   refine ae (ax (ac (by rw [ag,if_neg (by decide),ag,if_neg (by decide)];exact f0) ?_))
   have g:∃ le3,le3=an (ofString "rights") (.int (x.fmod 262144)) (an (ofString "kind") (.int (x.fmod 262144)) (an (ofString "way") (.int ((x.fmod 262144).fdiv 65536)) le1)):=⟨_,rfl⟩;refine aH g λle3 h3=>?_;rw [<-h3];have g1:le3.lookup (ofString "way")=some (.int ((x.fmod 262144).fdiv 65536)):=by rw [h3,ag,if_neg (by decide),ag,if_neg (by decide),ag,if_pos rfl]
   have g2:le3.lookup (ofString "kind")=some (.int (x.fmod 262144)):=by rw [h3,ag,if_neg (by decide),ag,if_pos rfl]
   have g3:le3.lookup (ofString "rights")=some (.int (x.fmod 262144)):=by rw [h3,ag,if_pos rfl]
   have g4:le3.lookup (ofString "modes")=some (.loc p):=by rw [h3,ag,if_neg (by decide),ag,if_neg (by decide),ag,if_neg (by decide)];exact f1
   clear h3 f0 f1 e0 e1;have last:∀ (le4:ak) (kd rt:Int),le4.lookup (ofString "way")=some (.int ((x.fmod 262144).fdiv 65536))->le4.lookup (ofString "kind")=some (.int kd)->le4.lookup (ofString "rights")=some (.int rt) ->
       le4.lookup (ofString "modes")=some (.loc p)->kd=(if decide (1 < (x.fmod 262144).fdiv 65536) then prev else x.fmod 262144)->rt=(if ((x.fmod 262144).fdiv 65536).fmod 2==1 then prev else x.fmod 262144) ->
       WF 3 c (execs ((cy pz).drop 6) (lA c)) le4 ((p,.list ((done++[prev]).map .int))::σ0) λf le2 σ2=>match f with
         | .next=>cW 3 c (fu pz) (cy pz) (fq pz) (lA c) (λσ=>(a,.list (all.map .int))∈σ) K (ns.map .int) le2 σ2
         | .cont=>cW 3 c (fu pz) (cy pz) (fq pz) (lA c) (λσ=>(a,.list (all.map .int))∈σ) K (ns.map .int) le2 σ2
         | .brk=>K .next le2 σ2
         | .ret v=>K (.ret v) le2 σ2:=by
     intro le4 kd rt h1 h2 h3 h4 ek er;refine ae ?_;refine a8 ?_;refine aG (ac h4 (bi (.head _) F.slot_list_append F.type_list_append (af ?_)));refine ah (ah ?_);refine aC (bO (v:=.ref 52) (by kernel_rfl!) (λ_ _=>.val rfl) (eB (by exact rfl) (af (ac h2 (am (bW (gu ?_ hnd) (by decide)))))))
     refine aC (bO (v:=.ref 45) (by kernel_rfl!) (λ_ _=>.val rfl) (eB (by exact rfl) (af (ac h3 (am (bW (iQ ?_ hnd) (by decide)))))))
     refine bZ ?_;refine ah (aq (ac h1 (wD (.of_left (by decide)) (bZ (am ?_)))))
     refine bj (l:=(done++[prev]).map .int) .head (av (by simp at hlen ⊢;exact yG hlen rfl)) ⟨trivial,aw ?_⟩
     have e:(List.map LV.int (done++[prev])++[LV.int (Builtin.bitAnd kd 61440+Builtin.bitAnd rt 4095+65536*(x.fmod 262144).fdiv 65536)])=((done++[prev])++[dH prev x]).map .int:=by
       rw [List.map_append (l₂:=[dH prev x])];simp [dH,ek,er]
     rw [e];refine ih (done++[prev]) (dH prev x) le4 h4 (by simp at hlen ⊢;exact zJ hlen rfl) λle5 h5=>?_
     have:=k le5 h5;simpa [bY] using this
   refine ae (bD (aA (ac g1 (aq (wC ⟨_,rfl,?_⟩)))));have second:∀ (le4:ak) (kd:Int),le4.lookup (ofString "way")=some (.int ((x.fmod 262144).fdiv 65536))->le4.lookup (ofString "kind")=some (.int kd)->le4.lookup (ofString "rights")=some (.int (x.fmod 262144)) ->
       le4.lookup (ofString "modes")=some (.loc p)->kd=(if decide (1 < (x.fmod 262144).fdiv 65536) then prev else x.fmod 262144) ->
       WF 3 c (execs ((cy pz).drop 5) (lA c)) le4 ((p,.list ((done++[prev]).map .int))::σ0) λf le2 σ2=>match f with
         | .next=>cW 3 c (fu pz) (cy pz) (fq pz) (lA c) (λσ=>(a,.list (all.map .int))∈σ) K (ns.map .int) le2 σ2
         | .cont=>cW 3 c (fu pz) (cy pz) (fq pz) (lA c) (λσ=>(a,.list (all.map .int))∈σ) K (ns.map .int) le2 σ2
         | .brk=>K .next le2 σ2
         | .ret v=>K (.ret v) le2 σ2:=by
     intro le4 kd h1 h2 h3 h4 ek;refine ae (bD (aA (ah (ac h1 (aq (jl (by decide) (aq (gp ⟨_,rfl,?_⟩))))))))
     cases hb:(((x.fmod 262144).fdiv 65536).fmod 2==1) with
     | false =>
       refine aw ?_;exact last le4 kd _ h1 h2 h3 h4 ek (by rw [hb];rfl)
     | true =>
       refine ae (ax (aV (ac h4 (cI (aq (fg ?_))))));refine b8 (l:=done.map .int) (x:=.int prev) (by simp) ?_
       refine aw ?_;exact last _ kd prev (by rw [ag,if_neg (by decide)];exact h1) (by rw [ag,if_neg (by decide)];exact h2) (by rw [ag,if_pos rfl]) (by rw [ag,if_neg (by decide)];exact h4) ek (by rw [hb];rfl)
   cases hb:decide (1 < (x.fmod 262144).fdiv 65536) with
   | false =>
     refine aw ?_;exact second le3 _ g1 g2 g3 g4 (by rw [hb];rfl)
   | true =>
     refine ae (ax (aV (ac g4 (cI (aq (fg ?_))))));refine b8 (l:=done.map .int) (x:=.int prev) (by simp) ?_
     refine aw ?_;exact second _ prev (by rw [ag,if_neg (by decide)];exact g1) (by rw [ag,if_pos rfl]) (by rw [ag,if_neg (by decide)];exact g3) (by rw [ag,if_neg (by decide)];exact g4) (by rw [hb];rfl)
theorem lR {w:World} {a:Addr} {ns:List Int} {σ:aa} {K:LV->aa->Prop} (ha:(a,.list (ns.map .int))∈σ) (hl:ns.length<=900)
   (h:∀ p,p∉σ.map (·.1)->K (.loc p) ((p,.list ((bY 32768 ns).map .int))::σ)) (hn:(σ.map (·.1)).Nodup):FS 4 w 229 [.loc a] σ K:=by
 refine dw (names:=[ofString "numbers"]) (dl:=[]) (dv:=[]) (hK:=by exact rfl) (hc:=by decide +kernel) ?_ (λ_ _=>.nil) (by decide) rfl (by decide +kernel) (by decide +kernel) (by decide +kernel) (by decide +kernel) (by decide +kernel) ?_
 . intro s vs _ hl;refine aH (lz hl) λv z0_=>?_;clear hl;obtain rfl:=z0_;exact BindsTo.of_eq (by kernel_rfl!)
 . intro c hc;refine ae (ax (ba (af (aq (am ⟨by decide,λp np=>?_⟩)))))
   refine ae ?_;refine xb (ns.map .int) (λσ=>(a,.list (ns.map .int))∈σ) (ac rfl ⟨_,iF (.tail _ ha),?_⟩);refine xU np hn ha ns [] 32768 _ rfl (by simp;exact J1 hl rfl) λle' h'=>?_
   refine ae ?_;refine bE ?_;refine ac h' ?_;exact ⟨_,⟨λ_ h=>h,by rw [List.map_cons];exact List.nodup_cons.mpr ⟨np,hn⟩⟩,h p np⟩
section
variable {prog:Program} {w:World} {A:Around} {R:GenEnd} {Y:Protocol} {n:Nat} {s₀:Shared} {c:Code} {fs:List Frame} {s:Shared} {env:Env}
 {α β:Type} {K:β->Sem Fin} {H:Value->Sem Fin} {gd:Bool->Bool} {lv:List Value->List Value}
theorem cA {m:Sem α} {f:α->Sem β} (h:wpAny (model prog w) (A.over c fs) m (λa s'=>Seg (model prog w) A R Y n s₀ c ((f a).wrap K H gd lv) fs s') (λ_ _=>False) s) :
   Seg (model prog w) A R Y n s₀ c ((m >>= f).wrap K H gd lv) fs s:=by
 rw [Sem.bind_eq_wrap',Sem.wrap_wrap];exact seg_wrap (wpAny_mono h (λ_ _ x=>x) λ_ _ x=>x.elim)
theorem fD {m:Sem α} {f:α->Sem Fin} (h:wpAny (model prog w) (A.over c fs) m (λa s'=>Seg (model prog w) A R Y n s₀ c (f a) fs s') (λ_ _=>False) s) :
   Seg (model prog w) A R Y n s₀ c (m >>= f) fs s:=seg_bind (wpAny_mono h (λ_ _ x=>x) λ_ _ x=>x.elim)
end
section
variable {prog:Program} {w:World} {A:Around} {R:GenEnd} {Y:Protocol} {n:Nat} {s₀:Shared} {c:Code} {fs:List Frame} {s:Shared} {env:Env}
 {K:Flow->Sem Fin} {H:Value->Sem Fin} {gd:Bool->Bool} {lv:List Value->List Value}
noncomputable def Ag (env:Env) (K:Flow->Sem Fin) (H:Value->Sem Fin) (gd:Bool->Bool) (lv:List Value->List Value):Result->Sem Fin:=λr =>
 ((match r with | .ok f=>(.pure f:Sem Flow) | .error e=>.raise e).onRaise λ(x:Value)=>do
       if (<-field x 1)==Value.none then unsupported "frame.own-activation:exception-without-traceback"
       setFlight x env.frame).wrap K H gd lv
theorem yp {target iter:Expr} {body orelse:List Stmt} {pos:Pos}
   (h:wpAny (model prog w) (A.over c fs) (eval iter env) (λx s1=>wpAny (model prog w) (A.over c fs) (pyIter x) (λit s'=>∀ p,Seg (model prog w) A R Y n s₀ (.forLoop target it body orelse env) ((model prog w).den (.forLoop target it body orelse env))
     (.ret (Ag env K H gd lv) none (gd false) (lv []) c p []::fs) s') (λ_ _=>False) s1) (λ_ _=>False) s)
   (hf:∀ x,foldedSetIterable iter env x=pure x:=by intro _;rfl) :
   Seg (model prog w) A R Y n s₀ c ((exec (.For target iter body orelse pos) env).wrap K H gd lv) fs s:=by
 rw [arm_exec_For];refine cA (wpAny_standAt (cA (wpAny_mono h (λx s1 h1=>?_) λ_ _ x=>x)));refine cA (wpAny_of_eq (hf x) (cA (wpAny_standAt (cA (wpAny_holding (wpAny_mono h1 (λit s2 h2=>?_) λ_ _ x=>x))))));exact seg_call h2
theorem zx {test:Expr} {body orelse:List Stmt} {pos:Pos}
   (h:wpAny (model prog w) (A.over c fs) (isTrue test env (eval test env)) (λb s'=>if b then Seg (model prog w) A R Y n s₀ c ((execs body env).wrap K H gd lv) fs s' else Seg (model prog w) A R Y n s₀ c ((execs orelse env).wrap K H gd lv) fs s') (λ_ _=>False) s) :
   Seg (model prog w) A R Y n s₀ c ((exec (.If test body orelse pos) env).wrap K H gd lv) fs s:=by
 show Seg _ A R Y n s₀ c ((do standAt pos;if <-isTrue test env (eval test env) then execs body env else execs orelse env:Sem Flow).wrap K H gd lv) fs s
 refine cA (wpAny_standAt (cA (wpAny_mono h (λb s' h'=>?_) λ_ _ x=>x)));cases b<;>exact h'
noncomputable def yP (target:Expr) (it:Value) (body orelse:List Stmt) (env:Env):Flow->Sem Fin:=λf=>match f with
   | .next | .cont=>again (.forLoop target it body orelse env)
   | .brk=>pure (.done .next)
   | .ret v=>pure (.done (.ret v))
noncomputable def yO (env:Env):Value->Sem Fin:=λe=>(do noteFrame e env;theTreesLotGoes e:Sem Unit).bind λ_=>.raise e
theorem jH {target:Expr} {it:Value} {body orelse:List Stmt}
   (h:wpAny (model prog w) (A.over (.forLoop target it body orelse env) fs) (pyNext it) (λr s1=>match r with
     | none=>Seg (model prog w) A R Y n s₀ (.forLoop target it body orelse env) (again (.block orelse env)) fs s1
     | some v=>wpAny (model prog w) (A.over (.forLoop target it body orelse env) fs) (letOwnedTupleGo target it v) (λ_ s1'=>wpAny (model prog w) (A.over (.forLoop target it body orelse env) fs) (assign target env v) (λ_ s2 =>
         Seg (model prog w) A R Y n s₀ (.forLoop target it body orelse env) ((execs body env).wrap (yP target it body orelse env) (yO env) id id) fs s2) (λ_ _=>False) s1') (λ_ _=>False) s1) (λ_ _=>False) s) :
   Seg (model prog w) A R Y n s₀ (.forLoop target it body orelse env) ((model prog w).den (.forLoop target it body orelse env)) fs s:=by
 show Seg _ A R Y n s₀ _ ((forTurn target it body orelse env).onRaise (λx=>do noteFrame x env;theTreesLotGoes x)) fs s
 unfold forTurn;rw [Sem.onRaise_eq_wrap];refine cA (wpAny_standAt (cA (wpAny_onRaise (wpAny_mono h (λr s1 h1=>?_) λ_ _ x=>x.elim))));cases r with
 | none=>exact h1
 | some v =>
   refine cA (wpAny_mono h1 (λ_ s2 h2=>cA (wpAny_mono h2 (λ_ s3 h3=>?_) λ_ _ x=>x)) λ_ _ x=>x);rw [Sem.bind_eq_wrap',Sem.wrap_wrap];refine Eq.mpr (congrArg (λt=>Seg (model prog w) A R Y n s₀ _ t fs s3) (Sem.wrap_congr (K':=yP target it body orelse env) (H':=yO env) _ _ _ ?_ ?_)) h3
   . intro f;cases f<;>rfl
   . intro e;rfl
end
theorem vJ:entryFor table "proto.yield_from"=some Builtin.«proto.yield_from»:=entryFor_of_tree (by kernel_rfl)
theorem jX:typeLookup (.type "list_iterator") "close"=pure none:=by rw [typeLookup_type,builtinLookup_eq_fast];kernel_rfl
section
variable {prog:Program} {w:World} {A:Around} {E:Value->Shared->Prop} {s:Shared}
theorem iR {it l:Addr} {i:Nat} {items} {x:Value} {Q:Option Value->Shared->Prop} (hit:s.heap.IsListIter it l i)
   (hl:s.heap.IsList l items) (hx:items[i]?=some x)
   (hQ:∀ h',h'.IsListIter it l (i+1)->Heap.SameBut it s.heap h'->Q (some x) { s with heap:=h' }) :
   wpAny (model prog w) A (callSpecial? (.ref it) "__next__") Q E s:=by
 refine du (id hit) λo ho hc hd=>?_;refine aH hl λol y0_=>?_;refine qS y0_ λhol _ y1_=>?_;refine aH y1_ λnl hdl=>?_;refine wpAny_callSpecial?_slot (name:=ofString "__next__") hit.typeIs slot_listiter_next
   (wpAny_call_entry slot_listiter_next hit.typeIs entry_listiter_next ?_ (args_listiter_next _))
 show wpAny _ _ (field (.ref it) 0 >>= _) _ _ s;refine wpAny_bind (wpAny_field ho hd (x:=.ref l) rfl ?_);show wpAny _ _ (if (Value.ref l==Value.none)=true then _ else _) _ _ s
 rw [if_neg (show ¬ ((Value.ref l==Value.none)=true) from Bool.false_ne_true)];show wpAny _ _ (field (.ref it) 1 >>= _) _ _ s;refine wpAny_bind (wpAny_field ho hd (x:=.int i 0) rfl ?_);show wpAny _ _ (seqItems? (.ref l) >>= _) _ _ s;refine wpAny_bind (wpAny_seqItems hol hdl ?_);simp only [Int.toNat_natCast,hx];refine wpAny_bind (wpAny_setField ho hd (by simp) (wpAny_pure ⟨x,rfl,hQ _ ?_ (Heap.SameBut.update ..)⟩))
 exact ⟨_,Heap.get?_update_self _ ho (Obj.isFreed_of_fields (Obj.data_mapFields hd _)),(Obj.cls_mapFields ..).trans hc,by
   rw [Obj.data_mapFields hd];simp -iota [rawInt]⟩
theorem jp {it l:Addr} {i:Nat} {items} {Q:Option Value->Shared->Prop} (hh:A.handled=none)
   (hit:s.heap.IsListIter it l i) (hl:s.heap.IsList l items) (hx:items[i]?=none)
   (hE:∀ h' e,Heap.ExtBut it s.heap h'->(∃ o vs,h'.get? e=some o/\o.cls=.type "StopIteration"/\o.data=.fields vs/\vs[5]?=some .none)->E (.ref e) { s with heap:=h' }) :
   wpAny (model prog w) A (callSpecial? (.ref it) "__next__") Q E s:=by
 refine du (id hit) λo ho hc hd=>?_;refine aH hl λol y2_=>?_;refine qS y2_ λhol _ y3_=>?_;refine aH y3_ λnl hdl=>?_;refine wpAny_callSpecial?_slot (name:=ofString "__next__") hit.typeIs slot_listiter_next
   (wpAny_call_entry slot_listiter_next hit.typeIs entry_listiter_next ?_ (args_listiter_next _))
 show wpAny _ _ (field (.ref it) 0 >>= _) _ _ s;refine wpAny_bind (wpAny_field ho hd (x:=.ref l) rfl ?_);show wpAny _ _ (if (Value.ref l==Value.none)=true then _ else _) _ _ s
 rw [if_neg (show ¬ ((Value.ref l==Value.none)=true) from Bool.false_ne_true)];show wpAny _ _ (field (.ref it) 1 >>= _) _ _ s;refine wpAny_bind (wpAny_field ho hd (x:=.int i 0) rfl ?_);show wpAny _ _ (seqItems? (.ref l) >>= _) _ _ s;refine wpAny_bind (wpAny_seqItems hol hdl ?_);simp only [Int.toNat_natCast,hx];refine wpAny_bind (wpAny_rule (wpAny_bind (wpAny_setField ho hd (by simp) ?_)))
 show wpAny _ _ (newExc (.type "StopIteration") [] >>= _) _ _ _;refine wpAny_bind ?_;simp -iota only [newExc,newTuple];refine wpAny_bind (wpAny_newObj_type ?_ (by size_fits))
 refine wpAny_bind (m:=firstArgMember _ _) (wpAny_of_eq (a:=Value.none) (by first | rfl | (simp -iota only [firstArgMember];rfl)) ?_)
 refine wpAny_newObj_type ?_ (by size_fits)
 simp -iota only [raiseNew];refine wpAny_bind (wpAny_handled ?_);rw [show A.in1.handled=none from hh];refine wpAny_bind (wpAny_pure (wpAny_throw ?_));exact hE _ _ (((Heap.SameBut.update ..).extBut.push _).push _) ⟨_,_,Heap.get?_push_size _ rfl,rfl,rfl,rfl⟩
end
section
variable {prog:Program} {w:World} {A:Around} {R:GenEnd} {Y:Protocol} {n:Nat} {s₀:Shared} {c:Code} {fs:List Frame} {s:Shared} {env:Env}
noncomputable abbrev uU (it:Value):Code:=.builtin "proto.yield_from" ⟨[it,.bool false,.none],[]⟩
theorem oZ {id:String} {args:Args} {b:Builtin} (hb:entryFor table id=some b):(model prog w).den (.builtin id args)=b args:=by
 show (match entryFor table id with | some b=>b args | none=>unsupported ((withoutEnding? id "#data").getD id))=_
 rw [hb]
theorem vF (it:Value):(model prog w).den (uU it)=Builtin.«proto.yield_from» ⟨[it,.bool false,.none],[]⟩:=oZ vJ
theorem qa {M:Model} {A:Around} {E:Value->Shared->Prop} {s:Shared} {it l:Addr} {i:Nat} {b:Bool} {Q:Unit->Shared->Prop} (hit:s.heap.IsListIter it l i) (h:Q () s):wpAny M A (Builtin.Generator.sleptOver (.ref it) b) Q E s:=by
 refine du hit λo ho hc hd=>?_;unfold Builtin.Generator.sleptOver;refine wpAny_bind (wpAny_load ho ?_);rw [hc];rw [if_pos (by decide)]
 exact wpAny_pure h
theorem pW {it l:Addr} {i:Nat} {items} {x:Value} (hit:s.heap.IsListIter it l i) (hl:s.heap.IsList l items) (hx:items[i]?=some x)
   (hfs:splitAtGen fs=none) (hfg:fs.any Frame.guarded=false)
   (h:∀ h',h'.IsListIter it l (i+1)->Heap.SameBut it s.heap h'->∀ kap:Resume->Shared->Prop,(∀ s'' j,s''.heap.IsListIter it l j->Seg (model prog w) A R Y n s'' (uU (.ref it)) ((model prog w).den (uU (.ref it))) fs s''->kap (.send .none) s'') ->
     Y n s₀ x { s with heap:=h' } kap):Seg (model prog w) A R Y (n+1) s₀ (uU (.ref it)) ((model prog w).den (uU (.ref it))) fs s:=by
 rw [vF];unfold Builtin.«proto.yield_from»;refine fD (wpAny_pure ?_);refine fD (wpAny_attempt (wpAny_holding ?_));refine wpAny_bind (wpAny_rule (wpAny_bind ?_));refine iR hit hl hx λh' hit' hs=>wpAny_pure ?_;dsimp only;refine fD (wpAny_typeOf hit'.typeIs ?_);dsimp only;refine fD (wpAny_of_eq jX ?_);refine fD (wpAny_pure (fD (qa hit' ?_)));show Seg _ A R Y (n+1) s₀ _ (.yield x false [] _) fs _;refine seg_yield hfs rfl hfg (h h' hit' hs _ λs'' j hj g=>?_);show Seg _ A R Y n s'' _ (Builtin.Generator.sleptOver (.ref it) false >>= _) fs _;refine fD (qa hj ?_);dsimp only;refine fD (wpAny_pure ?_);exact seg_again (Code.quiet_builtin _ (by decide +kernel)) g
theorem r0 {it l:Addr} {i:Nat} {items} (hh:(A.over (uU (.ref it)) fs).handled=none) (hit:s.heap.IsListIter it l i) (hl:s.heap.IsList l items) (hx:items[i]?=none)
   (h:∀ h',Heap.ExtBut it s.heap h'->Seg (model prog w) A R Y n s₀ (uU (.ref it)) (.pure (.done (.ret .none))) fs { s with heap:=h' }):Seg (model prog w) A R Y n s₀ (uU (.ref it)) ((model prog w).den (uU (.ref it))) fs s:=by
 rw [vF];unfold Builtin.«proto.yield_from»;refine fD (wpAny_pure ?_);refine fD (wpAny_attempt (wpAny_holding ?_));refine wpAny_bind (wpAny_rule (wpAny_bind ?_));refine jp hh hit hl hx λh' e hs hq18=>?_;refine tZ hq18 λo vs ho hc hd hv=>?_;dsimp only;unfold Builtin.Generator.endsTheTurnAsAValue Builtin.Generator.isStopAndMetaclass;refine fD (wpAny_bind (wpAny_bind (wpAny_typeOf (T:="StopIteration") ⟨o,ho,hc⟩ ?_)));dsimp only;refine wpAny_bind (wpAny_of_eq (a:=true) (by rw [isSubtype_type];kernel_rfl) (wpAny_bind (wpAny_pure (wpAny_pure ?_))))
 dsimp only;refine wpAny_bind (wpAny_pure (wpAny_pure ?_));show Seg _ A R Y n s₀ _ (rule "yield-from.value" >>= λ_=>field (.ref e) 5 >>= _) fs _;refine fD (wpAny_rule (fD (wpAny_field ho hd hv (h h' hs))))
end
noncomputable def xH (s:Stmt):List Stmt:=(oO (some s)).2.1
noncomputable abbrev gi:List Stmt:=bG (b0 1)
noncomputable abbrev fz (L:Addr):Env:=envOf (ofString "C14NWriterTarget._iter_namespaces") (aE (b0 1)) L 129 (.ref 128)
noncomputable abbrev pj:Stmt:=bw gi 0
noncomputable abbrev y8:Stmt:=bw (cy pj) 0
noncomputable abbrev Be:Stmt:=bw (xH y8) 0
noncomputable abbrev y7 (L rv:Addr):Code:=.forLoop (fu pj) (.ref rv) (cy pj) (fq pj) (fz L)
section
variable {prog:Program} {w:World} {A:Around} {R:GenEnd} {Y:Protocol} {n:Nat} {s₀:Shared} {c:Code} {fs:List Frame} {s:Shared} {env:Env}
 {K:Flow->Sem Fin} {H:Value->Sem Fin} {gd:Bool->Bool} {lv:List Value->List Value}
theorem rZ {e:Expr} {ypos pos:Pos} (h:wpAny (model prog w) (A.over c fs) (eval e env) (λv s1=>wpAny (model prog w) (A.over c fs) (typeOf v) (λT s2=>T≠.type "coroutine"/\wpAny (model prog w) (A.over c fs) (pyIter v) (λit s3 =>
     ∀ k:Result->Sem Fin,k (.ok (.ret .none))=K .next->∀ p,Seg (model prog w) A R Y n s₀ (uU it) ((model prog w).den (uU it)) (.ret k none (gd false) (lv []) c p []::fs) s3) (λ_ _=>False) s2) (λ_ _=>False) s1) (λ_ _=>False) s)
   (hi:interactive env=false:=by rfl):Seg (model prog w) A R Y n s₀ c ((exec (.Expr (.YieldFrom e ypos) pos) env).wrap K H gd lv) fs s:=by
 rw [exec_Expr env _ pos hi rfl,arm_eval_YieldFrom];refine cA (wpAny_standAt ?_);rw [bind_assoc];refine cA (wpAny_mono h (λv s1 h1=>?_) λ_ _ x=>x);rw [bind_assoc];refine cA (wpAny_standAt ?_);unfold yieldFrom;rw [bind_assoc];refine cA (wpAny_mono h1 (λT s2 hq19=>?_) λ_ _ x=>x);refine bh hq19 λhT h2=>?_;rw [if_neg (by simpa using hT),bind_assoc]
 refine cA (wpAny_holding (wpAny_mono h2 (λit s3 h3=>?_) λ_ _ x=>x));refine seg_call λp=>h3 _ ?_ p;rfl
theorem fP {k:Result->Sem Fin} {g:Bool} {l kp:List Value} {c':Code} {p:Pos} (h:(A.over c fs).handled=none):(A.over c' (.ret k none g l c p kp::fs)).handled=none:=by
 simp only [Around.over,marksOver_cons,Frame.marks] at h ⊢;rw [h];rfl
theorem pN (h:A.handled=none):(A.over c []).handled=none:=h
end
noncomputable def cE (fr:List (Addr × List LV)):List LV:=fr.reverse.flatMap (·.2)
theorem je {fr:List (Addr × List LV)} {k:Nat} {p:Addr × List LV} (h:fr[k]?=some p):cE (fr.take (k+1))=p.2++cE (fr.take k):=by
 unfold cE;rw [List.take_add_one,h];simp
structure GL (h:Heap) (dcl:Addr) (fr:List (Addr × List LV)):Prop where
 top:∃ n,h.get? dcl=some (az (fr.map λp=>.ref p.1) n)
 each:∀ p∈fr,∃ vs n,h.get? p.1=some (az vs n)/\aK h p.2 vs
noncomputable def xn (dcl:Addr) (o:Obj):Prop:=∃ (m:Str->Option Value) (es:Array DictEntry) (ep:Nat),o.data=.dict es ep/\StrKeys es/\(∀ x,nsFind es x=m x)/\m (ofString "ns_stack")=some (.ref dcl)/\m (ofString "_reversed")=some (.type "reversed")
noncomputable def xo (dcl:Addr) (k:Nat) (o:Obj):Prop:=o.cls=.type "list_reverseiterator"/\o.data=.fields #[.ref dcl,rawInt ((k:Int) - 1)]
noncomputable def zP (l:Addr) (j:Nat) (o:Obj):Prop:=o.cls=.type "list_iterator"/\o.data=.fields #[.ref l,.int j 0]
structure iZ (z L:Addr) (s₀ s:Shared):Prop where
 ki:cC s₀.heap s.heap
 old:∀ b o,b < z->b≠L->s₀.heap.get? b=some o->s.heap.get? b=some o
 gens:s.gens=s₀.gens
 os:s.os=s₀.os
 tk:0 < s₀.toks->0 < s.toks
theorem iZ.refl {z L:Addr} {s:Shared}:iZ z L s s:=⟨λ_ _ e _=>e,λ_ _ _ _ e=>e,rfl,rfl,id⟩
theorem iZ.trans {z L:Addr} {a b c:Shared} (x:iZ z L a b) (y:iZ z L b c):iZ z L a c :=
 ⟨λk o e i=>y.ki k o (x.ki k o e i) i,λk o h1 h2 e=>y.old k o h1 h2 (x.old k o h1 h2 e),y.gens.trans x.gens,y.os.trans x.os,λh=>y.tk (x.tk h)⟩
theorem iZ.but {z L a:Addr} {s:Shared} {h':Heap} {t:Nat} {o:Obj} (ho:s.heap.get? a=some o) (ni:¬ gR o) (ha:a=L\/z<=a) (hs:Heap.ExtBut a s.heap h') (ht:0 < s.toks->0 < t:=by first | exact id | exact λ_=>Nat.succ_pos _):iZ z L s { s with heap:=h',toks:=t } :=
 ⟨λb y e i=>hs b y (by rintro rfl;rw [ho] at e;obtain rfl:=Option.some.inj e;exact ni i) e,λb y h1 h2 e=>hs b y (by rintro rfl;refine Or.elim ha (λh=>?_) λh=>?_;exact h2 h;exact Nat.lt_irrefl _ (Nat.lt_of_lt_of_le h1 h)) e,rfl,rfl,ht⟩
theorem iZ.grow {z L:Addr} {s:Shared} {h':Heap} {t:Nat} (hs:∀ b o,s.heap.get? b=some o->h'.get? b=some o) (ht:0 < s.toks->0 < t:=by first | exact id | exact λ_=>Nat.succ_pos _):iZ z L s { s with heap:=h',toks:=t } :=
 ⟨λb y e i=>hs b y e,λb y h1 h2 e=>hs b y e,rfl,rfl,ht⟩
theorem bU {o:Obj} {c:String} (h:o.cls=.type c) (h1:c≠"tuple":=by decide) (h2:c≠"builtin_function_or_method":=by decide) (h3:c≠"method":=by decide):¬ gR o:=by
 rintro (⟨vs,n,rfl⟩ | ⟨id,v,rfl⟩ | ⟨f,v,rfl⟩)<;>simp at h<;>first | exact h1 h.symm | exact h2 h.symm | exact h3 h.symm
theorem GL.but {h h':Heap} {dcl a:Addr} {fr:List (Addr × List LV)} (g:GL h dcl fr) {o:Obj} (ho:h.get? a=some o) (nl:∀ vs n,o≠az vs n) (ni:¬ gR o) (hs:Heap.ExtBut a h h'):GL h' dcl fr:=by
 have kl:∀ b vs n,h.get? b=some (az vs n)->h'.get? b=some (az vs n):=λb vs n e=>hs b _ (by rintro rfl;rw [ho] at e;clear ni ho;obtain rfl:=Option.some.inj e;exact nl _ _ rfl) e
 have ki:cC h h':=λb y e i=>hs b y (by rintro rfl;rw [ho] at e;obtain rfl:=Option.some.inj e;exact ni i) e
 refine aH g.top λn e=>?_;exact ⟨⟨n,kl _ _ _ e⟩,λp hp=>bb (g.each p hp) λvs n e r=>⟨vs,n,kl _ _ _ e,r.keeps ki⟩⟩
theorem GL.grow {h h':Heap} {dcl:Addr} {fr:List (Addr × List LV)} (g:GL h dcl fr) (hs:∀ b o,h.get? b=some o->h'.get? b=some o):GL h' dcl fr:=by
 refine aH g.top λn e=>?_;exact ⟨⟨n,hs _ _ e⟩,λp hp=>bb (g.each p hp) λvs n e r=>⟨vs,n,hs _ _ e,r.keeps λb o e _=>hs b o e⟩⟩
section
variable {w:World} {A:Around} {z L dcl:Addr} {fr:List (Addr × List LV)} {gc:Code}
structure xe (L dcl:Addr) (fr:List (Addr × List LV)) (ex:List (Addr × (Obj->Prop))) (s:Shared):Prop where
 gl:GL s.heap dcl fr
 ns:∃ o,s.heap.get? L=some o/\xn dcl o
 ex:∀ p∈ex,∃ o,s.heap.get? p.1=some o/\p.2 o
noncomputable def GR (z L dcl:Addr):GenEnd:=λn s₀ r s₁=>r=.ok (.ret .none)/\n=0/\iZ z L s₀ s₁/\∃ o,s₁.heap.get? L=some o/\xn dcl o
noncomputable def GY (z L dcl:Addr) (fr:List (Addr × List LV)):Protocol:=λn s₀ v s₁ kap=>iZ z L s₀ s₁/\(∃ lv,RV s₁.heap lv v/\(cE fr)[(cE fr).length - (n+1)]?=some lv/\n+1<=(cE fr).length) /\
 ∃ ex:List (Addr × (Obj->Prop)),(∀ p∈ex,z<=p.1/\p.1≠L/\∀ o,p.2 o->¬ gR o)/\(ex.map (·.1)).Nodup/\xe L dcl fr ex s₁/\∀ s'',xe L dcl fr ex s''->kap (.send .none) s''
theorem eA {o:Obj} {c:String} (h:o.cls=.type c) (hc:c≠"list":=by decide):∀ vs n,o≠az vs n:=λvs n e=>by rw [e] at h;simp at h;exact hc h.symm
noncomputable def Bd (gc:Code) (p:Pos) (kf:Result->Sem Fin):List Frame:=[.ret kf none false [] gc p []]
variable {rv:Addr} {kf:Result->Sem Fin} {p:Pos}
theorem zy (hh:A.handled=none) (hz:z<=rv) (hrL:rv≠L) {k:Nat} {fa:Addr} {l:List LV} (hk:fr[k]?=some (fa,l)) {li:Addr} (hli:z<=li) (hlL:li≠L) (hlr:rv≠li) {ky:Result->Sem Fin} {p':Pos}
   (hy:ky (.ok (.ret .none))=again (y7 L rv))
   (next:∀ (s₀ s:Shared),iZ z L s₀ s->xe L dcl fr [(rv,xo dcl k)] s->Seg (model pg w) A (GR z L dcl) (GY z L dcl fr) (cE (fr.take k)).length s₀ (y7 L rv) ((model pg w).den (y7 L rv)) (Bd gc p kf) s) :
   ∀ (d j:Nat),l.length - j=d->j<=l.length->∀ (s₀ s:Shared),iZ z L s₀ s->xe L dcl fr [(rv,xo dcl k),(li,zP fa j)] s ->
     Seg (model pg w) A (GR z L dcl) (GY z L dcl fr) (d+(cE (fr.take k)).length) s₀ (uU (.ref li)) ((model pg w).den (uU (.ref li))) (.ret ky none false [] (y7 L rv) p' []::Bd gc p kf) s:=by
 intro d;induction d with
 | zero =>
   intro j hj hj2 s₀ s R F;refine ap (F.ex (li,zP fa j) (.tail _ (.head _))) λo ho hl=>?_;refine ap (F.ex (rv,xo dcl k) (.head _)) λorv horv hrv=>?_;refine bb (F.gl.each _ (List.mem_of_getElem? hk)) λvs nn hvs rvs=>?_;have hjl:j=l.length:=AO hj hj2;refine r0 (fP (fP (pN hh))) ⟨o,ho,hl⟩ (items:=vs.toArray) ⟨_,hvs,rfl,nn,rfl⟩ (by rw [hjl];simpa using rvs.none) λh' hs=>?_
   refine seg_leaf (.ok (.ret .none)) ?_;rw [hy,Nat.zero_add];refine seg_again rfl (next _ _ (R.trans (iZ.but ho (bU hl.1) (.inr hli) hs)) ⟨F.gl.but ho (eA hl.1) (bU hl.1) hs,?_,?_⟩)
   . refine ap F.ns λo2 e2 n2=>?_;exact ⟨o2,hs _ _ (Ne.symm hlL) e2,n2⟩
   . intro q hq;rw [List.mem_singleton] at hq;subst hq;exact ⟨orv,hs _ _ hlr horv,hrv⟩
 | succ d ih =>
   intro j hj hj2 s₀ s R F;refine ap (F.ex (li,zP fa j) (.tail _ (.head _))) λo ho hl=>?_;refine ap (F.ex (rv,xo dcl k) (.head _)) λorv horv hrv=>?_;refine bb (F.gl.each _ (List.mem_of_getElem? hk)) λvs nn hvs rvs=>?_;have hlt:j < l.length:=AP hj hj2;refine ap (rvs.get (List.getElem?_eq_getElem hlt)) λv hv rr=>?_;rw [Nat.add_right_comm d 1];refine pW ⟨o,ho,hl⟩ (items:=vs.toArray) ⟨_,hvs,rfl,nn,rfl⟩ (x:=v) (by simpa using hv) rfl rfl λh' hit hs kap hkap=>?_
   have R':iZ z L s { s with heap:=h' }:=iZ.but ho (bU hl.1) (.inr hli) hs.extBut
   have F':xe L dcl fr [(rv,xo dcl k),(li,zP fa (j+1))] { s with heap:=h' }:=by
     refine ⟨F.gl.but ho (eA hl.1) (bU hl.1) hs.extBut,?_,?_⟩
     . refine ap F.ns λo2 e2 n2=>?_;exact ⟨o2,hs.extBut _ _ (Ne.symm hlL) e2,n2⟩
     . intro q hq;rcases List.mem_cons.mp hq with rfl | hq
       . exact ⟨orv,hs.extBut _ _ hlr horv,hrv⟩
       . rw [List.mem_singleton] at hq;subst hq;refine ap hit λb e hb=>?_;exact ⟨b,e,hb⟩
   have hfl:(cE (fr.take (k+1))).length=l.length+(cE (fr.take k)).length:=by rw [je hk,List.length_append]
   have tot:cE fr=cE (fr.drop (k+1))++(l++cE (fr.take k)):=by
     conv=>lhs;rw [<-List.take_append_drop (k+1) fr]
     unfold cE;rw [List.reverse_append,List.flatMap_append];congr 1;exact je hk
   refine ⟨R.trans R',⟨l[j],rr.keeps R'.ki,?_,?_⟩,_,?_,?_,F',λs'' F''=>?_⟩
   . rw [tot];simp only [List.length_append];rw [Br hj,List.getElem?_append_right (Nat.le_add_right _ _),Nat.add_sub_cancel_left,List.getElem?_append_left hlt,List.getElem?_eq_getElem hlt]
   . rw [tot];simp only [List.length_append];exact Bs hj
   . intro q hq;rcases List.mem_cons.mp hq with rfl | hq
     . exact ⟨hz,hrL,λo ho=>bU ho.1⟩
     . rw [List.mem_singleton] at hq;subst hq;exact ⟨hli,hlL,λo ho=>bU ho.1⟩
   . simpa using hlr
   . refine ap (F''.ex (li,zP fa (j+1)) (.tail _ (.head _))) λo3 e3 h3=>?_;exact hkap s'' (j+1) ⟨o3,e3,h3⟩ (ih (j+1) (Aw hj hlt hj2) (J9 hlt hj2) s'' s'' iZ.refl F'')
theorem yq (hsz:∀ p∈fr,p.2.length<=1000000) (hh:A.handled=none) (hz:z<=rv) (hrL:rv≠L) (hzL:L < z) (hkf:kf (.ok .next)=.pure (.done (.ret .none))):∀ (k:Nat),k<=fr.length->∀ (s₀ s:Shared),iZ z L s₀ s->xe L dcl fr [(rv,xo dcl k)] s ->
     Seg (model pg w) A (GR z L dcl) (GY z L dcl fr) (cE (fr.take k)).length s₀ (y7 L rv) ((model pg w).den (y7 L rv)) (Bd gc p kf) s:=by
 intro k;induction k with
 | zero =>
   intro _ s₀ s R F;refine ap (F.ex (rv,xo dcl 0) (.head _)) λorv horv hrv=>?_;refine jH (wpAny_pyNext_rev_end (l:=dcl) (fP (pN hh)) ⟨orv,horv,hrv.1,hrv.2⟩ λh' hs=>?_);dsimp only;refine seg_again rfl ?_;show Seg _ A _ _ _ s₀ _ (.pure (.done .next)) _ _;refine seg_leaf (.ok .next) ?_;rw [hkf];refine seg_end (.ok (.ret .none)) ⟨rfl,by simp [cE],R.trans (iZ.but horv (bU hrv.1) (.inr hz) hs),ap F.ns λo2 e2 n2=>⟨o2,hs _ _ (Ne.symm hrL) e2,n2⟩⟩
 | succ k ih =>
   intro hk s₀ s R F;refine ap (F.ex (rv,xo dcl (k+1)) (.head _)) λorv horv hrv=>?_;refine aH F.gl.top λnt htop=>?_;have hlt:k < fr.length:=BR hk;have hfk:fr[k]?=some fr[k]:=List.getElem?_eq_getElem hlt;have hr2:orv.data=.fields #[.ref dcl,rawInt (k:Int)]:=by rw [hrv.2];congr 3;simp
   refine jH (wpAny_pyNext_rev_item (i:=k) (l:=dcl) (x:=.ref fr[k].1) ⟨orv,horv,hrv.1,hr2⟩ ⟨_,htop,rfl,nt,rfl⟩ (by simp [hlt]) λh1 hrit hs1=>?_)
   dsimp only;have R1:iZ z L s { s with heap:=h1 }:=iZ.but horv (bU hrv.1) (.inr hz) hs1.extBut
   have gl1:=F.gl.but horv (eA hrv.1) (bU hrv.1) hs1.extBut;refine ap F.ns λol hol y0_=>?_;refine Ba y0_ λm es ep hd hsk hm hm1 hm2=>?_;have ns1:h1.Ns L m:=⟨ol,es,ep,hs1.extBut _ _ (Ne.symm hrL) hol,hd,hsk,hm⟩;refine wpAny_pure ?_;show wpAny _ _ (assign (.Name _ _) _ _) _ _ _;rw [arm_assign_Name];refine wpAny_bind (wpAny_standAt (wpAny_bindName (wpAny_storeName_local (m:=m) (by rfl) ns1 (λh2 ns2 hs2=>?_) (by rfl))))
   have hL1:∀ o,h1.get? L=some o->¬ gR o/\∀ vs n,o≠az vs n:=λo e=>by
     have e':=hs1.extBut _ _ (Ne.symm hrL) hol;rw [e'] at e;obtain rfl:=Option.some.inj e;exact ⟨cZ hd,λvs n x=>by rw [x] at hd;cases hd⟩
   have hol1:h1.get? L=some ol:=hs1.extBut _ _ (Ne.symm hrL) hol;have hLs:Heap.SameBut L h1 h2:=hs2;have R2:iZ z L s { s with heap:=h2,toks:=s.toks+1 }:=R1.trans (iZ.but (s:={ s with heap:=h1 }) hol1 (hL1 _ hol1).1 (.inl rfl) hLs.extBut)
   have gl2:GL h2 dcl fr:=gl1.but hol1 (hL1 _ hol1).2 (hL1 _ hol1).1 hLs.extBut;refine qT ns2 λol2 es2 ep2 hol2 hd2 hsk2 hm2'=>?_;have nso2:xn dcl ol2:=⟨_,es2,ep2,hd2,hsk2,hm2',(if_neg (by decide)).trans hm1,(if_neg (by decide)).trans hm2⟩
   refine du hrit λbrv hbrv crv drv=>?_;have rv2:h2.get? rv=some brv:=(hLs.2 _ hrL).trans hbrv;refine bb (gl2.each _ (List.getElem_mem hlt)) λvs nn hvs rvs=>?_;have ns2:h2.Ns L (λx=>if x=ofString "namespaces" then some (.ref fr[k].1) else m x):=⟨ol2,es2,ep2,hol2,hd2,hsk2,hm2'⟩
   have name2:∀ (tk:Nat) (A:Around) (pos:Pos) (Q:Value->Shared->Prop),Q (.ref fr[k].1) { s with heap:=h2,toks:=tk }->wpAny (model pg w) A (eval (.Name (ofString "namespaces") pos) (fz L)) Q (λ_ _=>False) { s with heap:=h2,toks:=tk }:=λtk A pos Q hQ =>
     wpAny_Name (wpAny_loadName_local (s:={ s with heap:=h2,toks:=tk }) (by rfl) (by rfl) ns2 (by simp) hQ) (by decide)
   refine seg_execs_cons (st:=y8) (rest:=[]) ?_;refine zx (isTrue_plain (name2 _ _ _ _ (wpAny_truthy_list (items:=vs.toArray) ⟨_,hvs,rfl,nn,rfl⟩ ?_ ?_)) (by rfl))
   . have:=hsz _ (List.getElem_mem hlt);rw [List.size_toArray,<-rvs.length];lia
   have hle:(!(vs.toArray).isEmpty)=(!fr[k].2.isEmpty):=by
     have hzl:=rvs.length;generalize fr[k].2=q at hzl;cases q<;>cases vs<;>simp at hzl ⊢
   rw [hle,je hfk];have F2:∀ tk,xe L dcl fr [(rv,xo dcl k)] { s with heap:=h2,toks:=tk }:=λtk=>⟨gl2,⟨ol2,hol2,nso2⟩,λq hq=>by
     rw [List.mem_singleton] at hq;subst hq;exact ⟨brv,rv2,crv,drv⟩⟩
   have R3:∀ tk,0 < tk->iZ z L s₀ { s with heap:=h2,toks:=tk }:=λtk ht=>⟨λb o e i=>R2.ki b o (R.ki b o e i) i,λb o a1 a2 e=>R2.old b o a1 a2 (R.old b o a1 a2 e),R.gens,R.os,λ_=>ht⟩
   cases hem:fr[k].2 with
   | nil =>
     show Seg _ A _ _ _ s₀ _ (again (y7 L rv)) _ _;refine seg_again rfl ?_;exact ih (J8 hk) s₀ _ (R3 _ (Nat.succ_pos _)) (F2 _)
   | cons q r =>
     show Seg _ A _ _ _ s₀ _ ((execs (xH y8) (fz L)).wrap _ _ id id) _ _;refine seg_execs_cons (st:=Be) (rest:=[]) ?_;refine rZ (name2 _ _ _ _ (wpAny_typeOf (T:="list") ⟨_,hvs,rfl⟩ ⟨by decide,wpAny_pyIter_list ⟨_,hvs,rfl,nn,rfl⟩ (λky hky p'=>?_)⟩))
     have hnew:(h2.push { cls:=.type "list_iterator",data:=.fields #[.ref fr[k].1,.int 0 0] }).get? h2.objs.size=some { cls:=.type "list_iterator",data:=.fields #[.ref fr[k].1,.int 0 0] }:=Heap.get?_push_size _ rfl;have old:∀ b o,h2.get? b=some o->(h2.push { cls:=.type "list_iterator",data:=.fields #[.ref fr[k].1,.int 0 0] }).get? b=some o:=λb o e=>Heap.get?_push_of_some _ e;have hin:=zy (w:=w) (A:=A) (dcl:=dcl) (fr:=fr) (rv:=rv) (kf:=kf) (p:=p) hh hz hrL (k:=k) (fa:=fr[k].1) (l:=fr[k].2) hfk (li:=h2.objs.size) ?_ ?_ ?_ (ky:=ky) (p':=p') hky (λa b c d=>ih (J8 hk) a b c d) fr[k].2.length 0 (by lia) (by lia)
     . have:=hin s₀ { s with heap:=h2.push { cls:=.type "list_iterator",data:=.fields #[.ref fr[k].1,.int 0 0] },toks:=s.toks+1+1+1 } ⟨λb o e i=>old _ _ ((R3 1 (by decide)).ki b o e i),λb o a1 a2 e=>old _ _ ((R3 1 (by decide)).old b o a1 a2 e),R.gens,R.os,λ_=>Nat.succ_pos _⟩
         ⟨gl2.grow old,⟨ol2,old _ _ hol2,nso2⟩,λq hq=>by
           rcases List.mem_cons.mp hq with rfl | hq
           . exact ⟨brv,old _ _ rv2,crv,drv⟩
           . rw [List.mem_singleton] at hq;subst hq;exact ⟨_,hnew,rfl,rfl⟩⟩
       rw [hem] at this;rw [List.length_append];exact this
     . exact Nat.le_of_lt (Nat.lt_of_le_of_lt hz (Heap.lt_size rv2))
     . exact Nat.ne_of_gt (Heap.lt_size hol2)
     . exact Nat.ne_of_lt (Heap.lt_size rv2)
theorem uD (hsz:∀ p∈fr,p.2.length<=1000000) (hh:A.handled=none) (hzL:L < z) {s:Shared} (hz:z<=s.heap.objs.size) (F:xe L dcl fr [] s) :
   Seg (model pg w) A (GR z L dcl) (GY z L dcl fr) (cE fr).length s (.func gi (fz L)) ((model pg w).den (.func gi (fz L))) [] s:=by
 refine ap F.ns λol hol y1_=>?_;refine Ba y1_ λm es ep hd hsk hm hm1 hm2=>?_;have ns:∀ tk:Nat,({ s with toks:=tk }:Shared).heap.Ns L m:=λ_=>⟨ol,es,ep,hol,hd,hsk,hm⟩
 refine aH F.gl.top λnt htop=>?_;refine seg_func ?_;refine seg_execs_cons (st:=pj) (rest:=[]) ?_;refine yp ?_;refine Call_ (wpAny_Name (wpAny_loadName_local (by rfl) (by rfl) (ns s.toks) hm2 ?_) (by decide)) (by rfl)
 refine callWith_type1 (wpAny_Name (wpAny_loadName_local (by rfl) (by rfl) (ns s.toks) hm1 ?_) (by decide))
 refine call_reversed_list (items:=(fr.map λp=>Value.ref p.1).toArray) ⟨_,htop,rfl,nt,rfl⟩ ?_;have hnew:(s.heap.push (revObj dcl (((fr.map λp=>Value.ref p.1).toArray.size:Int) - 1))).get? s.heap.objs.size=some (revObj dcl (((fr.map λp=>Value.ref p.1).toArray.size:Int) - 1)):=Heap.get?_push_size _ rfl;have old:∀ b o,s.heap.get? b=some o->(s.heap.push (revObj dcl (((fr.map λp=>Value.ref p.1).toArray.size:Int) - 1))).get? b=some o:=λb o e=>Heap.get?_push_of_some _ e;refine wpAny_pyIter_revIter (l:=dcl) (i:=((fr.map λp=>Value.ref p.1).toArray.size:Int) - 1) ⟨_,hnew,rfl,rfl⟩ λp=>?_;have:=yq (w:=w) (A:=A) (gc:=.func gi (fz L)) (z:=z) (L:=L) (dcl:=dcl) (fr:=fr) (rv:=s.heap.objs.size) (p:=p) hsz hh hz (Nat.ne_of_gt (Heap.lt_size hol)) hzL (kf:=Ag (fz L) (λf=>match f with | .next=>(execs [] (fz L)).wrap (λf=>.pure (.done (.ret (match f with | .ret v=>v | _=>.none)))) (λe=>(leaving (fz L) e).wrap (λ_=>.raise e) .raise id id) id id | f=>.pure (.done (.ret (match f with | .ret v=>v | _=>.none)))) (λe=>(leaving (fz L) e).wrap (λ_=>.raise e) .raise id id) id id) rfl fr.length (Nat.le_refl _) s
   { s with heap:=s.heap.push (revObj dcl (((fr.map λp=>Value.ref p.1).toArray.size:Int) - 1)) } (iZ.grow old)
   ⟨F.gl.grow old,⟨ol,old _ _ hol,m,es,ep,hd,hsk,hm,hm1,hm2⟩,λq hq=>by
     rw [List.mem_singleton] at hq;subst hq;exact ⟨_,hnew,rfl,by simp [revObj]⟩⟩
 rw [List.take_length] at this;exact this
end
section
variable {n:Nat} {c:Cx} {le:ak} {σ:aa} {env:Env}
structure B6 (n:Nat) (A:Around) (c:Cx) (target:Expr) (it:Value) (tmp:List bt) (JP:Nat->List bt->Prop) (items:List LV) (Z:aa->Prop):Prop where
 item:∀ i lv,items[i]?=some lv->∀ le σ T s,JP i T->Z σ->St c le σ (T++tmp) s ->
   wpAny (Mo c.w) A (pyNext it) (λr s1=>∃ v,r=some v/\wpAny (Mo c.w) A (letOwnedTupleGo target it v) (λ_ s2=>∃ T',JP (i+1) T'/\St c le σ (.v lv v::(T'++tmp)) s2) dh s1) dh s
 done:∀ le σ T s,JP items.length T->Z σ->St c le σ (T++tmp) s->wpAny (Mo c.w) A (pyNext it) (λr s1=>r=none/\St c le σ tmp s1) dh s
theorem uk {target:Expr} {body orelse:List Stmt} {it:Value} {JP:Nat->List bt->Prop} {items:List LV} {Z:aa->Prop} {K:LF->ak->aa->Prop} {A:Around} {tmp:List bt} (hA:br n A)
   (N:B6 n A c target it tmp JP items Z):∀ (k:Nat) (s:Shared),(k<=items.length/\∃ le σ T,JP (items.length - k) T/\St c le σ (T++tmp) s/\cW n c target body orelse env Z K (items.drop (items.length - k)) le σ) ->
     codeAny (Mo c.w) A (.forLoop target it body orelse env) (λr s'=>∃ f,r=.ok f/\PF c tmp K f s') s:=by
 intro k s h;refine codeAny_forLoop_any (I:=λk s=>k<=items.length/\∃ le σ T,JP (items.length - k) T/\St c le σ (T++tmp) s/\cW n c target body orelse env Z K (items.drop (items.length - k)) le σ) (λk s hq20=>?_) k h;refine bh hq20 λhk y0_=>?_;refine f9 y0_ λle σ T hJ S L=>?_;cases k with
 | zero =>
   rw [Nat.sub_zero] at L hJ;rw [List.drop_length] at L;refine bh L λz w=>?_;refine wpAny_mono (N.done le σ T s hJ z S) (λr s1 hq21=>?_) λ_ _ x=>x.elim;refine bh hq21 λe S1=>?_;clear hq21;subst e;exact wpAny_mono (w A hA tmp s1 S1) (λf s2 q=>⟨f,rfl,q⟩) λ_ _ x=>x.elim
 | succ k =>
   have hi:items.length - (k+1) < items.length:=J6 hk;have e:items.drop (items.length - (k+1))=items[items.length - (k+1)]::items.drop (items.length - k):=by
     rw [List.drop_eq_getElem_cons hi];congr 2;exact J7 hk
   rw [e] at L;refine bh L λz w=>?_;refine wpAny_mono (N.item _ _ (List.getElem?_eq_getElem hi) le σ T s hJ z S) (λr s1 hx9_=>ap hx9_ λv er h1=>?_) λ_ _ x=>x.elim;subst er;refine wpAny_mono h1 (λ_ s2 hq22=>?_) λ_ _ x=>x.elim;refine ap hq22 λT' hJ' S2=>?_;have rv:=S2.tm _ (.head _);refine wpAny_mono (w A hA _ s2 v S2.drop1 rv) (λ_ s3 hq23=>?_) λ_ _ x=>x.elim;refine bb hq23 λle3 σ3 S3 h3=>?_;refine wpAny_mono (h3 A hA _ s3 S3) (λf s4 hq24=>?_) λ_ _ x=>x.elim;refine f9 hq24 λlf le4 σ4 rf S4 h4=>?_;have back:St c le4 σ4 tmp s4:=S4.drop (List.sublist_append_right ..);have next:items.length - (k+1)+1=items.length - k:=J7 hk
   rw [next] at hJ'
   cases lf with
   | next=>cases rf;exact ⟨k,Nat.lt_succ_self _,J8 hk,le4,σ4,T',hJ',S4,h4⟩
   | cont=>cases rf;exact ⟨k,Nat.lt_succ_self _,J8 hk,le4,σ4,T',hJ',S4,h4⟩
   | brk=>cases rf;exact ⟨_,rfl,.next,le4,σ4,rfl,back,h4⟩
   | ret lv=>refine ap rf λu z0_ ru=>?_;clear hq24 rf;obtain rfl:=z0_;exact ⟨_,rfl,.ret lv,le4,σ4,⟨u,rfl,ru⟩,back,h4⟩
end
section
variable {w:World} {A:Around} {E:Value->Shared->Prop} {s:Shared}
theorem pG {a:Addr} {g m:Nat} {gs:GenState} {z L dcl:Addr} {fr:List (Addr × List LV)} {Q:Option Value->Shared->Prop} (hh:A.handled=none) (hl:s.heap.NoLimit) (hroom:A.depth < recursionLimit)
   (hg:s.heap.IsGen a g) (hgs:s.gens[g]?=some gs) (hgo:gs.Goes (model pg w) A.in1 (GR z L dcl) (GY z L dcl fr) m (.send .none) (s.setGen g .running))
   (hY:∀ v s₁ gs',gs'.bare=true->GY z L dcl fr (m - 1) (s.setGen g .running) v s₁ (λr' s''=>match m with
       | 0=>False
       | k+1=>gs'.Goes (model pg w) A.in1 (GR z L dcl) (GY z L dcl fr) k r' s'')->Q (some v) (s₁.setGen g gs'))
   (hP:∀ s₁,m=0->iZ z L (s.setGen g .running) s₁->(∃ o,s₁.heap.get? L=some o/\xn dcl o)->∀ h',(∀ b o,s₁.heap.get? b=some o->h'.get? b=some o)->Q none { s₁.setGen g .finished with heap:=h' }) :
   wpAny (model pg w) A (pyNext (.ref a)) Q E s:=by
 unfold pyNext;refine wpAny_bind (wpAny_attempt (wpAny_callSpecial?_slot (name:=ofString "__next__") hg.typeIs slot_gen_next
   (wpAny_call_entry slot_gen_next hg.typeIs entry_gen_next ?_ (args_gen_next _))))
 show wpAny _ A.in1 (Builtin.Generator.genWake (.ref a) (.send .none)) _ _ s;unfold Builtin.Generator.genWake;refine wpAny_bind (wpAny_holding (wpAny_genNumber hg (wpAny_bind (wpAny_genState hgs ?_))));cases gs with
 | running=>exact hgo.elim
 | finished=>exact hgo.elim
 | _ =>
   refine wpAny_bind (wpAny_roomToWake hl hroom ?_);show wpAny _ A.in1 (.resume g (.send .none) [] _) _ _ s;refine wpAny_resumeQ hgs hgo (λx s₁ hx=>?_) (λv s₁ gs' hb hv=>?_)
   . refine mN hx λz1_ h0 hp hns=>?_;clear hx;obtain rfl:=z1_;show wpAny _ A.in1 (newExc (.type "StopIteration") [] >>= _) _ _ _;refine wpAny_bind ?_;simp only [newExc,newTuple];refine wpAny_bind (wpAny_newObj_type ?_ (by size_fits))
     refine wpAny_bind (m:=firstArgMember _ _) (wpAny_of_eq (a:=Value.none) (by first | rfl | (simp -iota only [firstArgMember];rfl)) ?_)
     refine wpAny_newObj_type ?_ (by size_fits)
     simp -iota only [raiseNew];refine wpAny_bind (wpAny_bind (wpAny_handled ?_))
     first | rw [show A.in1.handled=none from hh] | rw [hh]
     refine wpAny_throw ?_;refine wpAny_bind (wpAny_isInstance (T:="StopIteration") (b:=true) ⟨_,Heap.get?_push_size _ rfl,rfl⟩ isSubtype_stop ?_);exact wpAny_pure (hP s₁ h0 hp hns _ λb o hb=>Heap.get?_push_of_some _ (Heap.get?_push_of_some _ hb))
   . exact wpAny_pure ⟨v,rfl,wpAny_pure (hY v s₁ gs' hb hv)⟩
end
noncomputable def tH (g:Nat) (o:Obj):Prop:=∃ nm qn,o.cls=.type "generator"/\o.data=.fields #[.int g 0,nm,qn]/\o.slots=#[]
noncomputable abbrev AH (ex:List (Addr × (Obj->Prop))):List bt:=ex.map λp=>.o p.1 p.2
noncomputable def fe (g:Nat) (gs:GenState) (ga L dcl:Addr) (ex:List (Addr × (Obj->Prop))):List bt:=.g g gs::.o ga (tH g)::.o L (xn dcl)::AH ex
structure uZ (c:Cx) (z ga L:Addr) (tmp:List bt):Prop where
 gaz:ga < z
 Lga:L < ga
 cL:c.L < L
 tmL:∀ p∈tmp,∀ a,bt.adr p=some a->a < L
theorem sQ (ex:List (Addr × (Obj->Prop))):(AH ex).filterMap bt.adr=ex.map (·.1):=by
 induction ex with
 | nil=>rfl
 | cons p ex ih=>simp only [AH,List.map_cons,List.filterMap_cons,bt.adr];rw [<-ih]
theorem St.genRun {c:Cx} {le:ak} {σ:aa} {tmp:List bt} {s s₁:Shared} {g:Nat} {gs gs':GenState} {ga L dcl z:Addr} {ex ex':List (Addr × (Obj->Prop))}
   (S:St c le σ (fe g gs ga L dcl ex++tmp) s) (G:uZ c z ga L tmp) (hσ:∀ p∈σ,p.1 < L) (hg:∀ i y,bt.g i y∈tmp->i≠g) (R:iZ z L (s.setGen g .running) s₁) (Fns:∃ o,s₁.heap.get? L=some o/\xn dcl o) (Fex:∀ p∈ex',∃ o,s₁.heap.get? p.1=some o/\p.2 o)
   (hex:∀ p∈ex',z<=p.1/\p.1≠L/\∀ o,p.2 o->¬ gR o) (hnd:(ex'.map (·.1)).Nodup) (hb:gs'.bare=true):St c le σ (fe g gs' ga L dcl ex'++tmp) (s₁.setGen g gs'):=by
 have glt:g < s.gens.size:=by
   have:=S.tm (.g g gs) (by simp -iota [fe])
   exact (Array.getElem?_eq_some_iff.mp this).1
 have hgens:s₁.gens=s.gens.setIfInBounds g .running:=R.gens;have ki:cC s.heap s₁.heap:=R.ki;have old:∀ b o,b < z->b≠L->s.heap.get? b=some o->s₁.heap.get? b=some o:=R.old;have hLz:L < z:=Nat.lt_trans G.Lga G.gaz;have hcz:c.L < z:=Nat.lt_trans G.cL hLz;refine ap S.fr λm Fr0 q=>?_;have basez:∀ b o,c.hb.get? b=some o->b < c.L:=λb o e=>Nat.lt_of_lt_of_le (Heap.lt_size e) Fr0.above;have oldlow:∀ b o,b < L->s.heap.get? b=some o->s₁.heap.get? b=some o:=λb o h e=>old b o (Nat.lt_trans h hLz) (Nat.ne_of_lt h) e;refine ⟨⟨m,⟨?_,λb o e=>oldlow b o (Nat.lt_trans (basez b o e) G.cL) (Fr0.keep b o e),Fr0.above⟩,λx lv hx=>?_⟩,λp hp=>(S.ob p hp).same ki λx e=>oldlow _ _ (hσ p hp) e,S.nd,S.ab,λp hp=>?_,?_,S.bs,?_,?_,?_⟩
 . refine md Fr0.ns λo es ep ho r=>?_;exact ⟨o,es,ep,oldlow _ _ G.cL ho,r⟩
 . refine ap (q x lv hx) λv hm r=>?_;exact ⟨v,hm,r.keeps ki⟩
 . refine Or.elim (List.mem_append.mp hp) (λhp=>?_) λhp=>?_
   . rw [fe] at hp;rcases List.mem_cons.mp hp with rfl | hp
     . show (s₁.gens.setIfInBounds g gs')[g]?=some gs';rw [hgens];simp -iota [Array.getElem?_setIfInBounds,glt]
     rcases List.mem_cons.mp hp with rfl | hp
     . refine bh (S.tm (.o ga (tH g)) (by simp -iota [fe])) λz2_ r=>?_
       refine ap z2_ λb eb fb=>?_;exact ⟨⟨b,old _ _ G.gaz (Nat.ne_of_gt G.Lga) eb,fb⟩,r⟩
     rcases List.mem_cons.mp hp with rfl | hp
     . refine bh (S.tm (.o L (xn dcl)) (by simp -iota [fe])) λ_ r=>?_
       exact ⟨Fns,r⟩
     . refine ap (List.mem_map.mp hp) λx hx z3_=>?_;obtain rfl:=z3_;refine qS (hex x hx) λh1 h2 _=>?_;refine ⟨Fex x hx,λhm=>?_,?_,?_⟩
       . refine ap (List.mem_map.mp hm) λy hy e=>?_;have:=hσ y hy;rw [e] at this;exact absurd (Nat.lt_of_lt_of_le (Nat.lt_trans this hLz) h1) (Nat.lt_irrefl _)
       . rintro e;rw [e] at h1;exact absurd (Nat.lt_of_lt_of_le hcz h1) (Nat.lt_irrefl _)
       . cases u:c.hb.get? x.1 with
         | none=>rfl
         | some o=>exact absurd (Nat.lt_of_lt_of_le (Nat.lt_trans (basez _ _ u) hcz) h1) (Nat.lt_irrefl _)
   . have h:=S.tm p (List.mem_append_right _ hp);cases p with
     | v x u=>exact RV.keeps ki h
     | o a f =>
       refine bh h λz4_ r=>?_;refine ap z4_ λb eb fb=>?_;exact ⟨⟨b,oldlow _ _ (G.tmL _ hp a rfl) eb,fb⟩,r⟩
     | g i y =>
       have h:s.gens[i]?=some y:=h;show (s₁.gens.setIfInBounds g gs')[i]?=some y;rw [hgens];have:=hg i y hp;simp -iota [Array.getElem?_setIfInBounds,Ne.symm this,h]
 . rw [fe,List.filterMap_append];simp only [List.filterMap_cons,bt.adr,sQ];have td:=S.td;rw [fe,List.filterMap_append] at td;simp only [List.filterMap_cons,bt.adr,sQ,List.cons_append,List.nodup_cons,List.mem_cons,List.mem_append,not_or,List.nodup_append] at td ⊢;have zt:∀ a,a∈tmp.filterMap bt.adr->a < L:=λa ha=>by
     refine ap (List.mem_filterMap.mp ha) λp hp e=>?_;exact G.tmL p hp a e
   have ze:∀ a,a∈ex'.map (·.1)->z<=a:=λa ha=>by
     refine ap (List.mem_map.mp ha) λp hp z5_=>?_;clear ha;obtain rfl:=z5_;exact (hex p hp).1
   refine ⟨⟨Nat.ne_of_gt G.Lga,λh=>absurd (Nat.lt_of_lt_of_le G.gaz (ze _ h)) (Nat.lt_irrefl _),λh=>absurd (Nat.lt_trans G.Lga (zt _ h)) (Nat.lt_irrefl _)⟩,⟨λh=>absurd (Nat.lt_of_lt_of_le hLz (ze _ h)) (Nat.lt_irrefl _),λh=>absurd (zt _ h) (Nat.lt_irrefl _)⟩,hnd,?_,λa ha b hb e=>?_⟩
   . exact (td.2.2).2.1
   . subst e;exact absurd (Nat.lt_of_lt_of_le (Nat.lt_trans (zt _ hb) hLz) (ze _ ha)) (Nat.lt_irrefl _)
 . intro y hy;have hy:y∈s₁.gens.setIfInBounds g gs':=hy;rw [hgens] at hy;rcases Array.mem_or_eq_of_mem_setIfInBounds hy with hy | rfl
   . rcases Array.mem_or_eq_of_mem_setIfInBounds hy with hy | rfl
     . exact S.gb _ hy
     . rfl
   . exact hb
 . exact R.os.trans S.os
 . exact R.tk S.tk
theorem vb {h:Heap}:∀ {as:List Addr} {vs:List Value},aK h (as.map .loc) vs->vs=as.map .ref:=by
 intro as;induction as with
 | nil=>exact λr=>aK.nil_ r
 | cons a as ih =>
   intro _ r;refine bl (aK.inv r) λ_ _ z6_ r1 r2=>?_;clear r;obtain rfl:=z6_;obtain rfl:=RV.inv r1;rw [ih r2];rfl
structure Zg (σ₀:aa) (dcl:Addr) (fr:List (Addr × List LV)) (σ:aa):Prop where
 keys:∀ p∈σ,p.1∈σ₀.map (·.1)
 top:(dcl,.list ((fr.map (·.1)).map .loc))∈σ
 each:∀ p∈fr,(p.1,.list p.2)∈σ
theorem Zg.gl {c:Cx} {le:ak} {σ σ₀:aa} {tmp:List bt} {s:Shared} {dcl:Addr} {fr:List (Addr × List LV)} (Z:Zg σ₀ dcl fr σ) (S:St c le σ tmp s):GL s.heap dcl fr:=by
 refine bb (S.ob _ Z.top) λvs n e r=>?_;have:=vb r;clear r;subst this;refine ⟨⟨n,by rw [show (fr.map λp=>Value.ref p.1)=(fr.map (·.1)).map Value.ref by rw [List.map_map];rfl];exact e⟩,λp hp=>?_⟩
 refine bb (S.ob _ (Z.each p hp)) λvs n e r=>?_;exact ⟨vs,n,e,r⟩
noncomputable def z3 (w:World) (A:Around) (z g ga L dcl:Addr) (fr:List (Addr × List LV)) (i:Nat) (T:List bt):Prop:=∃ gs ex,T=fe g gs ga L dcl ex/\i<=(cE fr).length /\
 ∀ s,xe L dcl fr ex s->z<=s.heap.objs.size->gs.Goes (model pg w) A.in1 (GR z L dcl) (GY z L dcl fr) ((cE fr).length - i) (.send .none) s
section
variable {n:Nat} {c:Cx} {A:Around} {target:Expr} {tmp:List bt} {z g ga L dcl:Addr} {fr:List (Addr × List LV)} {σ₀:aa}
theorem zi (hA:br n A) (hz:z=ga+1) (G:uZ c z ga L tmp) (hσ:∀ a∈σ₀.map (·.1),a < L) (hg:∀ i y,bt.g i y∈tmp->i≠g):B6 n A c target (.ref ga) tmp (z3 c.w A z g ga L dcl fr) (cE fr) (Zg σ₀ dcl fr):=by
 have hh:=hA.handled;have pre:∀ {le:ak} {σ:aa} {s:Shared} {gs:GenState} {ex:List (Addr × (Obj->Prop))},Zg σ₀ dcl fr σ->St c le σ (fe g gs ga L dcl ex++tmp) s ->
     s.heap.NoLimit/\s.heap.IsGen ga g/\s.gens[g]?=some gs/\xe L dcl fr ex s/\z<=s.heap.objs.size/\∀ p∈σ,p.1 < L:=λ{le σ s gs ex} Z S=>by
   refine ap S.fr λm F _=>?_;refine bh (S.tm (.o ga (tH g)) (by simp -iota [fe])) λz7_ _=>?_
   refine ap z7_ λb eb y1_=>?_;refine bl y1_ λnm qn h1 h2 h3=>?_;refine ⟨S.bs.nolimit.keeps F.keep,⟨b,nm,qn,eb,h1,h2,h3⟩,S.tm (.g g gs) (by simp -iota [fe]),⟨Z.gl S,(S.tm (.o L (xn dcl)) (by simp -iota [fe])).1,λp hp=>?_⟩,by rw [hz];exact Heap.lt_size eb,λp hp=>hσ _ (Z.keys p hp)⟩
   exact (S.tm (.o p.1 p.2) (by
     simp -iota only [fe,List.cons_append,List.mem_cons,List.mem_append];exact .inr (.inr (.inr (.inl (List.mem_map.mpr ⟨p,hp,rfl⟩)))))).1
 refine ⟨λi lv hi le σ T s hJ Z S=>?_,λle σ T s hJ Z S=>?_⟩
 . refine bl hJ λgs ex z8_ hle go=>?_;clear hJ;obtain rfl:=z8_;refine B8 (pre Z S) λhl hgen hgs F hzs hσ'=>?_;have hlt:i < (cE fr).length:=(List.getElem?_eq_some_iff.mp hi).1;obtain ⟨k,hk⟩:∃ k,(cE fr).length - i=k+1:=⟨_,(Nat.succ_pred_eq_of_pos (Nat.sub_pos_of_lt hlt)).symm⟩;refine pG (m:=(cE fr).length - i) hh hl hA.depthLt hgen hgs (go _ ⟨F.gl,F.ns,F.ex⟩ hzs) (λv s₁ gs' hb hy=>?_) (λs₁ h0 _ _ _ _=>absurd h0 (by rw [hk];exact Nat.succ_ne_zero k))
   rw [hk] at hy;refine qS hy λR y2_ y3_=>?_;refine y4 y3_ λex' hex hnd F' hfut=>?_;obtain ⟨lv',rv,hi',_⟩:=y2_;have:lv'=lv:=by
     rw [show (cE fr).length - (k+1 - 1+1)=i from hk ▸ Nat.sub_sub_self (Nat.le_of_lt hlt)] at hi';rw [hi] at hi';exact (Option.some.inj hi').symm
   clear hi;subst this;have S':=S.genRun G hσ' hg R F'.ns F'.ex hex hnd hb;refine ⟨v,rfl,?_⟩;refine bh (S'.tm (.o ga (tH g)) (by simp -iota [fe])) λz9_ _=>?_
   refine ap z9_ λb eb y4_=>?_;refine bl y4_ λnm qn h1 h2 h3=>?_;refine gn eb h1 h2 (by decide) ⟨_,⟨gs',ex',rfl,J9 hlt hle,λs'' F'' _=>?_⟩,S'.hold rv⟩
   have e:(cE fr).length - (i+1)=k:=Aw hk hlt hle;rw [e];exact hfut s'' F''
 . refine bl hJ λgs ex z0_ hle go=>?_;clear hJ;obtain rfl:=z0_;refine B8 (pre Z S) λhl hgen hgs F hzs hσ'=>?_;refine pG (m:=(cE fr).length - (cE fr).length) hh hl hA.depthLt hgen hgs (go _ ⟨F.gl,F.ns,F.ex⟩ hzs) (λv s₁ gs' hb hy=>?_) (λs₁ h0 R hns h' hk=>⟨rfl,?_⟩)
   . rw [Nat.sub_self] at hy;refine qS hy λR _ y5_=>?_;refine y4 y5_ λex' hex hnd F' hfut=>?_;exact (hfut s₁ F').elim
   . have S':=S.genRun (gs':=.finished) (ex':=[]) G hσ' hg R hns (λ_ h=>nM h) (λ_ h=>nM h) .nil rfl;exact (S'.drop (List.sublist_append_right ..)).grow hk
end
noncomputable abbrev xI:FuncData:=uX "_iter_namespaces" "C14NWriterTarget._iter_namespaces" (b0 1) (.ref 122) .none (.str (ofString "cpy313.xml.etree.ElementTree") 381) 128
theorem z6:([ofString "self",ofString "ns_stack",ofString "_reversed"].all λx=>decide ((aE (b0 1)).names.lookup x=some .local))=true:=by decide +kernel
theorem vY {w:World} (s:Shared) (u v:Value) (kin:(KF w.params).In s.heap) :
   BindsTo s xI ⟨[u,v],[]⟩ [(ofString "self",u),(ofString "ns_stack",v),(ofString "_reversed",.type "reversed")]:=by
 exact kp_binds kin (λS=>by kernel_rfl!)
section
variable {n:Nat} {c:Cx} {le:ak} {σ:aa} {env:Env} {tmp:List bt} {s:Shared}
theorem St.genNew (S:St c le σ tmp s) {h':Heap} {tk:Nat} (htk:0 < tk) {cd:Code} {go fo:Obj} {dcl:Addr} (hg:∀ b o,s.heap.get? b=some o->h'.get? b=some o) (h1:h'.get? s.heap.objs.size=some fo) (hfo:xn dcl fo) (hsz:h'.objs.size=s.heap.objs.size+1) (hgo:tH s.gens.size go) (hfr:go.isFreed=false) :
   St c le σ (fe s.gens.size (.fresh cd) h'.objs.size s.heap.objs.size dcl []++tmp) { s with heap:=h'.push go,gens:=s.gens.push (.fresh cd),toks:=tk }:=by
 have S1:=(S.grow (h':=h'.push go) λb o e=>Heap.get?_push_of_some _ (hg b o e));have lt1:s.heap.objs.size < h'.objs.size:=by rw [hsz];exact Nat.lt_succ_self _
 have hL:c.hb.get? s.heap.objs.size=none:=by
   cases q:c.hb.get? s.heap.objs.size with
   | none=>rfl
   | some x=>exact absurd (S.base_lt q) (Nat.lt_irrefl _)
 have hL':c.hb.get? h'.objs.size=none:=by
   cases q:c.hb.get? h'.objs.size with
   | none=>rfl
   | some x=>exact absurd (Nat.lt_trans (S.base_lt q) lt1) (Nat.lt_irrefl _)
 have cl:=S.lt;have tl:∀ a,a∈tmp.filterMap bt.adr->a < s.heap.objs.size:=λa ha=>by
   refine ap (List.mem_filterMap.mp ha) λp hp e=>?_;cases p with
   | v x u=>cases e
   | o b f=>clear ha;obtain rfl:=Option.some.inj e;refine bh (S.tm _ hp) λz0_ _=>?_;obtain ⟨y,ey,_⟩:=z0_;exact Heap.lt_size ey
   | g i y=>cases e
 refine ⟨S1.fr,S1.ob,S.nd,S.ab,λp hp=>?_,?_,S.bs,?_,S.os,htk⟩
 . refine Or.elim (List.mem_append.mp hp) (λhp=>?_) λhp=>?_
   . rw [fe] at hp;rcases List.mem_cons.mp hp with rfl | hp
     . show (s.gens.push (.fresh cd))[s.gens.size]?=some (.fresh cd);simp
     rcases List.mem_cons.mp hp with rfl | hp
     . refine ⟨⟨go,Heap.get?_push_size _ hfr,hgo⟩,λh=>absurd (Nat.lt_trans (S.key_lt h) lt1) (Nat.lt_irrefl _),Nat.ne_of_gt (Nat.lt_trans cl lt1),hL'⟩
     rcases List.mem_cons.mp hp with rfl | hp
     . refine ⟨⟨fo,Heap.get?_push_of_some _ h1,hfo⟩,λh=>Nat.lt_irrefl _ (S.key_lt h),Nat.ne_of_gt cl,hL⟩
     . cases hp
   . have h:=S1.tm p hp;cases p with
     | v x u=>exact h
     | o a f=>exact h
     | g i y =>
       have h:s.gens[i]?=some y:=S.tm _ hp;have hi:=(Array.getElem?_eq_some_iff.mp h).1;show (s.gens.push (.fresh cd))[i]?=some y;rw [Array.getElem?_push,if_neg (Nat.ne_of_lt hi)];exact h
 . rw [fe,List.filterMap_append];simp only [AH,List.map_nil,List.filterMap_cons,bt.adr,List.filterMap_nil,List.cons_append,List.nil_append,List.nodup_cons,List.mem_cons,not_or];exact ⟨⟨Nat.ne_of_gt lt1,λh=>absurd (Nat.lt_trans (tl _ h) lt1) (Nat.lt_irrefl _)⟩,λh=>Nat.lt_irrefl _ (tl _ h),S.td⟩
 . intro y hy;have hy:y∈s.gens.push (.fresh cd):=hy;rcases Array.mem_push.mp hy with hy | rfl
   . exact S.gb _ hy
   . rfl
theorem vV {target iter:Expr} {body orelse:List Stmt} {K:LF->ak->aa->Prop} {dcl ga L g:Addr} {fr:List (Addr × List LV)} {A:Around} {tmp:List bt} {s3:Shared} (hA:br n A) (G:uZ c (ga+1) ga L tmp) (hσ:∀ a∈σ.map (·.1),a < L)
   (hg:∀ i y,bt.g i y∈tmp->i≠g) (hsz:∀ p∈fr,p.2.length<=1000000) (lt2:L < ga+1) (S3:St c le σ (fe g (.fresh (.func gi (fz L))) ga L dcl []++tmp) s3) (Lp:cW n c target body orelse env (Zg σ dcl fr) K (cE fr) le σ)
   (hfo:∀ y,foldedSetIterable iter env y=pure y):wpAny (Mo c.w) A (do
     let x <-foldedSetIterable iter env (.ref ga)
     standAt iter.pos
     let it <-holding [x] (pyIter x)
     runOwn (Code.forLoop target it body orelse env) env) (PF c tmp K) dh s3:=by
 have N:=zi (c:=c) (target:=target) (g:=g) (dcl:=dcl) (fr:=fr) (σ₀:=σ) hA rfl G hσ hg;have J0:z3 c.w A (ga+1) g ga L dcl fr 0 (fe g (.fresh (.func gi (fz L))) ga L dcl []) :=
   ⟨_,[],rfl,Nat.zero_le _,λs F hz=>⟨rfl,uD (A:=A.in1) hsz hA.handled lt2 hz F⟩⟩
 have R:=uk (env:=env) (body:=body) (orelse:=orelse) (K:=K) (tmp:=tmp) hA N (cE fr).length _ ⟨Nat.le_refl _,le,σ,_,by rw [Nat.sub_self];exact J0,S3,by rw [Nat.sub_self];exact Lp⟩
 refine bh (S3.tm (.o ga (tH g)) (by simp [fe])) λz1_ _=>?_
 refine ap z1_ λb eb y0_=>?_;refine bl y0_ λnm qn g1 g2 g3=>?_;rw [hfo];refine wpAny_bind (wpAny_pure (wpAny_bind (wpAny_standAt (wpAny_bind (wpAny_holding (wpAny_pyIter_gen (g:=g) ⟨b,nm,qn,eb,g1,g2,g3⟩ ?_))))));refine wpAny_runOwn ?_;rw [fA];refine codeAny_mono R (λr s3 h3=>?_);refine ap h3 λf e q=>?_;clear h3;subst e;exact q
theorem sy {target o arg:Expr} {apos cpos:Pos} {body orelse:List Stmt} {pos:Pos} {K:LF->ak->aa->Prop} {x d dcl:Addr} {fs:List (Str × LV)} {fr:List (Addr × List LV)}
   (ho:WV (n+1) c (eval o env) le σ λv σ1=>v=.loc x/\σ1=σ) (harg:WV (n+1) c (eval arg env) le σ λv σ1=>v=.loc dcl/\σ1=σ)
   (hx:(x,.inst d)∈σ) (hd:(d,.dict fs)∈σ) (hf:fs.lookup (ofString "_iter_namespaces")=none) (Z:Zg σ dcl fr σ) (hsz:∀ p∈fr,p.2.length<=1000000)
   (Lp:cW (n+1) c target body orelse env (Zg σ dcl fr) K (cE fr) le σ)
   (hs:starEach [arg] env=(false,eval arg env)::starEach [] env:=by rfl) (hst:(starEach [arg] env).any (·.1)=false:=by rfl)
   (he:eval (.Call (.Attribute o (ofString "_iter_namespaces") apos) [arg] [] cpos) env=(do
     let ov <-eval o env
     standAt apos.atName
     let (f,first) <-holding [ov] (getMethod ov (ofString "_iter_namespaces") (do return (<-importBound o env).getD true))
     callWith cpos f first (backTo cpos (starEach [arg] env)) []):=by kernel_rfl!)
   (hfo:∀ y,foldedSetIterable (.Call (.Attribute o (ofString "_iter_namespaces") apos) [arg] [] cpos) env y=pure y:=by intro _;rfl) :
   WF (n+1) c (exec (.For target (.Call (.Attribute o (ofString "_iter_namespaces") apos) [arg] [] cpos) body orelse pos) env) le σ K:=λA hA tmp s S=>by
 rw [arm_exec_For];refine wpAny_bind (wpAny_standAt (wpAny_bind ?_));refine MethodCall_ (wpAny_mono (ho A hA tmp s S) (λvo s1 hq25=>?_) λ_ _ x=>x) he;refine bl hq25 λov σ1 S1 e1 e2=>?_;subst e1;subst e2;have r1:=S1.tm _ (.head _);obtain rfl:=RV.inv r1;have S1:=S1.drop1;refine ap S1.fr λm F _=>?_;have o1:=S1.ob _ hx;refine bl (S1.ob _ hd) λes kk e de _=>?_;refine method_inst F S1.bs.top.kin (C:=204) (ox:=⟨.ref 204,some d,.plain,#[]⟩) (es:=es) (n:=kk) (f:=129) ⟨o1,rfl,rfl,e⟩ (by kernel_rfl!) (by kernel_rfl!) (by kernel_rfl!) (de.getNone hf) ?_
 have ha:WA (n+1) c [arg] env le σ1 λxs σ2=>xs=[.loc dcl]/\σ2=σ1:=af (harg.mono λv σ2 hx10_=>bh hx10_ λe1 e2=>by subst e1;clear ho harg hx hd Z Lp S hq25 r1;subst e2;exact am ⟨rfl,rfl⟩) hs
 refine Calls.callWith_function (o:=bV "_iter_namespaces" "C14NWriterTarget._iter_namespaces" (b0 1) (.ref 122) .none (.str (ofString "cpy313.xml.etree.ElementTree") 381) 128) (fd:=xI)
   (bn hst (wpAny_mono (ha A hA cpos tmp s1 S1) (λvs s2 hx11_=>tZ hx11_ λxs σ2 S2 r2 e1 e2=>?_) λ_ _ x=>x))
 subst e1;clear ho harg hx hd Z S hq25 r1 ha;subst e2;refine ap S2.fr λm2 F2 _=>?_;have kin2:(KF c.w.params).In s2.heap:=S2.bs.top.kin.keeps F2.keep;refine ⟨⟨kin2 _ _ (by exact rfl),rfl⟩,?_⟩
 refine bl (aK.inv r2) λ_ _ z2_ r3 r4=>?_;obtain rfl:=z2_;obtain rfl:=RV.inv r3;clear r2;obtain rfl:=aK.nil_ r4;refine wpAny_call (codeAny_call_generator (body:=gi) hA.depthLt (kin2 _ _ (by exact rfl)) rfl (by decide +kernel) (by decide +kernel) rfl ((S2.bs.top.cod (128,ofString "C14NWriterTarget._iter_namespaces") (by decide +kernel)).keeps F2.keep) ?_)
 refine vY s2 _ _ kin2 _ _ _ _ ?_;refine wpAny_newFunctionEnv (by decide +kernel) (λy hy=>by
   rcases gq hy with rfl | rfl | rfl<;>exact of_decide_eq_true (List.all_eq_true.mp z6 _ (by simp))) (λh' hns hsb=>⟨(S2.bs.nolimit.keeps F2.keep).fresh _ hsb,?_⟩) (by decide +kernel)
 have hsz':h'.objs.size=s2.heap.objs.size+1:=by have:=hsb.1;simpa using this
 have grow:∀ b o,s2.heap.get? b=some o->h'.get? b=some o:=λb o e=>hsb.extBut b o (Nat.ne_of_lt (Heap.lt_size e)) (Heap.get?_push_of_some _ e);refine qT hns λfo fes fep hfo1 hfo2 hfo3 hfo4=>?_;have S3:=S2.genNew (h':=h') (tk:=s2.toks+3+1+1) (Nat.succ_pos _) (cd:=.func gi (fz s2.heap.objs.size)) (dcl:=dcl) (go:={ cls:=.type "generator",data:=.fields #[.int s2.gens.size 0,.str xI.name (s2.toks+3),.str xI.qualname (s2.toks+3+1)] }) grow hfo1 ⟨_,fes,fep,hfo2,hfo3,hfo4,by rfl,by rfl⟩ hsz' ⟨_,_,rfl,rfl,rfl⟩ rfl
 have lt1:s2.heap.objs.size < h'.objs.size:=by rw [hsz'];exact Nat.lt_succ_self _
 exact vV hA ⟨Nat.lt_succ_self _,lt1,S2.lt,λp hp a ha=>by
     cases p with
     | v x u=>cases ha
     | o b f=>obtain rfl:=Option.some.inj ha;refine bh (S2.tm _ hp) λz3_ _=>?_;obtain ⟨y,ey,_⟩:=z3_;exact Heap.lt_size ey
     | g i y=>cases ha⟩ (λa ha=>S2.key_lt ha) (λi y hy=>by
     have h:s2.gens[i]?=some y:=S2.tm _ hy;exact Nat.ne_of_lt (Array.getElem?_eq_some_iff.mp h).1) hsz (Nat.lt_succ_of_lt lt1) S3 Lp hfo
end
section
variable {n:Nat} {c:Cx} {le:ak} {σ:aa} {env:Env}
theorem rJ {x y:Str} {K:LV->aa->Prop} (h:K (.bool (x==y)) σ):OB n c (compareOp .Eq) (.str x) (.str y) le σ K:=λA hA tmp s vx vy S r1 r2=>by
 refine aH (RV.inv r1) λ_ z0_=>?_;clear r1;obtain rfl:=z0_;refine aH (RV.inv r2) λ_ z1_=>?_;clear r2;obtain rfl:=z1_;exact eq_str (pv S (.bool _) h)
theorem zj {x y:Str} {K:LV->aa->Prop} (h:K (.bool (decide (y.cps.toList < x.cps.toList))) σ):OB n c (compareOp .Gt) (.str x) (.str y) le σ K:=λA hA tmp s vx vy S r1 r2=>by
 refine aH (RV.inv r1) λ_ z2_=>?_;clear r1;obtain rfl:=z2_;refine aH (RV.inv r2) λ_ z3_=>?_;clear r2;obtain rfl:=z3_;exact PySem.P.gt_str (pv S (.bool _) h)
theorem zk {x y:Str} {K:LV->aa->Prop} (h:K (.bool (Txt.contains x y)) σ):OB n c (compareOp .In) (.str y) (.str x) le σ K:=λA hA tmp s vx vy S r1 r2=>by
 refine aH (RV.inv r1) λ_ z4_=>?_;clear r1;obtain rfl:=z4_;refine aH (RV.inv r2) λ_ z5_=>?_;clear r2;obtain rfl:=z5_;exact PySem.P.in_str (pv S (.bool _) h)
theorem aO {x y:Str} {K:LV->aa->Prop} (hsz:x.length+y.length<=1000000) (h:K (.str (x++y)) σ):OB n c (binaryOp .Add) (.str x) (.str y) le σ K:=λA hA tmp s vx vy S r1 r2=>by
 refine aH (RV.inv r1) λ_ z6_=>?_;clear r1;obtain rfl:=z6_;refine aH (RV.inv r2) λ_ z7_=>?_;clear r2;obtain rfl:=z7_;exact wpAny_with_toks (n:=1) S.tk (add_str (λt' tk hk=>pv (S.toks _ hk) (.str _ _) h) (av hsz))
theorem yd {x:Str} {m:Int} {K:LV->aa->Prop} (hok:MulOk x m) (h:K (.str (Txt.mul x m)) σ):OB n c (binaryOp .Mult) (.str x) (.int m) le σ K:=λA hA tmp s vx vy S r1 r2=>by
 refine aH (RV.inv r1) λ_ z8_=>?_;clear r1;obtain rfl:=z8_;refine aH (RV.inv r2) λ_ z9_=>?_;clear r2;obtain rfl:=z9_;exact wpAny_with_toks (n:=1) S.tk (PySem.SB.mul hok (λt' tk hk=>pv (S.toks _ hk) (.str _ _) h))
noncomputable def wL:Option Int->LV
 | none=>.none
 | some i=>.int i
theorem iY {K:LV->aa->Prop} (h:K .none σ):WV n c (evalPart none env) le σ K:=λ_ _ _ _ S=>wpAny_pure (pv S .none h)
theorem bP {e:Expr} {K:LV->aa->Prop} (h:WV n c (eval e env) le σ K):WV n c (evalPart (some e) env) le σ K:=h
theorem ty {h:Heap} {l:Option Int} {v:Value} (r:RV h (wL l) v):∃ p:Option (Int × Tok),v=partValue p/\p.map (·.1)=l:=by
 cases l with
 | none=>obtain rfl:=RV.inv r;exact ⟨none,rfl,rfl⟩
 | some i=>cases r with
   | int _ t=>exact ⟨some (i,t),rfl,rfl⟩
theorem dg {value:Expr} {lower upper:Option Expr} {p pos:Pos} {K:LV->aa->Prop}
   (h:WV n c (eval value env) le σ λx σ1=>WV n c (evalPart lower env) le σ1 λlo σ2=>WV n c (evalPart upper env) le σ2 λhi σ3=>∃ t l u,x=.str t/\lo=wL l/\hi=wL u/\t.length<=1000000/\K (.str (Txt.slice t l u)) σ3)
   (ht:∀ o r,letTemporaryGo value o r=pure ():=by intro _ _;rfl):WV n c (eval (.Subscript value (.Slice lower upper none p) pos) env) le σ K:=λA hA tmp s S=>by
 refine wpAny_Subscript_str_slice (wpAny_mono (h A hA tmp s S) (λvx s1 hx12_=>bb hx12_ λx σ1 S1 h1=>wpAny_mono (h1 A hA _ s1 S1) (λvl s2 hx13_=>bb hx13_ λlo σ2 S2 h2=>wpAny_mono (h2 A hA _ s2 S2) (λvu s3 hq26=>?_) λ_ _ x=>x) λ_ _ x=>x) λ_ _ x=>x) ht;refine bb hq26 λhi σ3 S3 y0_=>?_;refine Ba y0_ λt l u e1 e2 e3 hl k=>?_;clear h1;subst e1;subst e2;subst e3;have r1:=S3.tm _ (.tail _ (.tail _ (.head _)));refine ap (ty (S3.tm _ (.tail _ (.head _)))) λpl z0_ e4=>?_;obtain rfl:=z0_;refine ap (ty (S3.tm _ (.head _))) λpu z1_ e5=>?_;obtain rfl:=z1_;refine aH (RV.inv r1) λtt z2_=>?_;clear S1 r1;obtain rfl:=z2_;refine ⟨t,tt,pl,pu,rfl,rfl,rfl,?_⟩;clear h2 S2;subst e4;subst e5;have S4:=(S3.drop1.drop1.drop1.push { cls:=.type "slice",data:=.fields #[partValue pl,partValue pu,.none] });unfold sliceMade;have e:Txt.slice t (pl.map (·.1)) (pu.map (·.1))=(if ((1:Int)==1 && (Builtin.Str.strSliceIndices (pl.map (·.1)) (pu.map (·.1)) 1 t.length).length==t.length)=true then t else ⟨((Builtin.Str.strSliceIndices (pl.map (·.1)) (pu.map (·.1)) 1 t.length).filterMap (t.cps[·]?)).toArray⟩):=rfl
 have hle:=Txt.slice_le t (pl.map (·.1)) (pu.map (·.1))
 rw [e] at k hle;show (if ((1:Int)==1 && (Builtin.Str.strSliceIndices (pl.map (·.1)) (pu.map (·.1)) 1 t.length).length==t.length)=true then Made.val (.str t tt) else Made.str _).post _ _
 by_cases hc:((1:Int)==1 && (Builtin.Str.strSliceIndices (pl.map (·.1)) (pu.map (·.1)) 1 t.length).length==t.length)=true
 . rw [if_pos hc] at k ⊢;exact pv S4 (.str _ _) k
 . rw [if_neg hc] at k hle ⊢;exact ⟨Nat.le_trans hle (av hl),pv (S4.toks _) (.str _ _) k⟩
noncomputable def WJ (n:Nat) (c:Cx) (out:Str) (parts:List Expr) (env:Env) (le:ak) (σ:aa) (K:LV->aa->Prop):Prop :=
 ∀ A,br n A->∀ tmp s,St c le σ tmp s->wpAny (Mo c.w) A (joinParts out (evalEach parts env)) (PV c le tmp K) dh s
theorem fG {v₁ v₂:Expr} {rest:List Expr} {pos:Pos} {K:LV->aa->Prop} (h:WJ n c Str.empty (v₁::v₂::rest) env le σ K):WV n c (eval (.JoinedStr (v₁::v₂::rest) pos) env) le σ K:=λA hA tmp s S =>
 JoinedStr_many (h A hA tmp s S)
theorem l7 {out:Str} {K:LV->aa->Prop} (hl:out.length<=1000000) (h:K (.str out) σ):WJ n c out [] env le σ K:=λA hA tmp s S=>joinParts_nil (pv (S.toks _) (.str _ _) h) (av hl)
theorem dJ {out y:Str} {k:Nat} {pos:Pos} {rest:List Expr} {K:LV->aa->Prop} (hl:(out++y).length<=1000000) (h:WJ n c (out++y) rest env le σ K):WJ n c out (.Constant (.str y) k pos::rest) env le σ K:=λA hA tmp s S =>
 joinParts_cons (Calls.Constant_str ⟨av hl,h A hA tmp _ (S.toks _)⟩)
theorem fZ {out:Str} {e:Expr} {pos:Pos} {rest:List Expr} {K:LV->aa->Prop} (h:WV n c (eval e env) le σ λv σ1=>∃ y,v=.str y/\y.length<=1000000/\(out++y).length<=1000000/\WJ n c (out++y) rest env le σ1 K) :
   WJ n c out (.FormattedValue e (-1) none pos::rest) env le σ K:=λA hA tmp s S=>by
 refine joinParts_cons (FormattedValue_plain (wpAny_mono (h A hA tmp s S) (λv s1 hq27=>?_) λ_ _ x=>x));refine bb hq27 λlv σ1 S1 y1_=>?_;refine y4 y1_ λy e hy hl h1=>?_;subst e;have r:=S1.tm _ (.head _);refine aH (RV.inv r) λt z3_=>?_;clear r;obtain rfl:=z3_;exact wpAny_with_toks (n:=1) S1.tk (formatField_str (λt' tk hk=>⟨av hl,h1 A hA tmp _ (S1.drop1.toks _ hk)⟩) (av hy))
theorem yD {out:Str} {e:Expr} {pos:Pos} {rest:List Expr} {K:LV->aa->Prop} (h:WV n c (eval e env) le σ λv σ1=>∃ i:Int,v=.int i/\i.natAbs.log2 < 1920/\(out++ofString (toString i)).length<=1000000/\WJ n c (out++ofString (toString i)) rest env le σ1 K) :
   WJ n c out (.FormattedValue e (-1) none pos::rest) env le σ K:=λA hA tmp s S=>by
 refine joinParts_cons (FormattedValue_plain (wpAny_mono (h A hA tmp s S) (λv s1 hq28=>?_) λ_ _ x=>x));refine bb hq28 λlv σ1 S1 y2_=>?_;refine y4 y2_ λi e hy hl h1=>?_;subst e;have r:=S1.tm _ (.head _);refine aH (RV.inv r) λt z4_=>?_;clear r;obtain rfl:=z4_;exact formatField_int_small hy ⟨av hl,h1 A hA tmp _ (S1.drop1.toks _)⟩
theorem rP {x y z:Str} {k1 k2:Nat} {p1 p2:Pos} {K:LV->aa->Prop} (hyz:(y==z)=false) (hx:x.length<=1000000) (hz:z.length<=14) (h:K (.str (Txt.replace x y z)) σ) :
   OM n c (.str x) (ofString "replace") [.Constant (.str y) k1 p1,.Constant (.str z) k2 p2] env le σ K:=λA hA pos pl tmp s vo S r=>by
 refine aH (RV.inv r) λt z5_=>?_;clear r;obtain rfl:=z5_;refine getMethod_builtin (typeIs_str _ _ _) F.plainAttrs_str F.slot_str_replace F.type_str_replace (λa e=>by cases e) ?_
 refine Calls.callWith_builtin (cN _ _ rfl) (bn rfl ?_);show wpAny _ _ (spliced [(false,eval (.Constant (.str y) k1 p1) env),(false,eval (.Constant (.str z) k2 p2) env)]) _ _ _;refine Calls.spliced_cons (Calls.Constant_str (Calls.spliced_cons (Calls.Constant_str (Calls.spliced_nil ?_))));have hp:=S.tk;refine wpAny_with_toks (n:=1) (Nat.succ_pos _) ?_;refine SC.replaceW (Nat.ne_of_gt hp) (Nat.succ_ne_zero _) (Nat.ne_of_lt (Nat.lt_succ_self _)) hyz (J1 hx rfl) hz λt' k hk=>?_;exact pv (S.toks k hk) (.str _ _) h
theorem St.kept {tmp:List bt} {s:Shared} (S:St c le σ tmp s) {m:Str->Option Value} (F0:Fr c.hb c.L s.heap m) {h':Heap} {t:Nat} (ht:0 < t) (F:Fr c.hb c.L h' m)
   (k:∀ b y,b≠c.L->c.hb.get? b=none->s.heap.get? b=some y->h'.get? b=some y):St c le σ tmp { s with heap:=h',toks:=t }:=by
 refine ap S.fr λm0 F1 q=>?_;have em:=Fr.uniq F1 F0;subst em;have kk:∀ b y,b≠c.L->s.heap.get? b=some y->h'.get? b=some y:=λb y h2 e=>by
   cases z:c.hb.get? b with
   | none=>exact k b y h2 z e
   | some y' =>
     have:=F1.keep b y' z;rw [this] at e;obtain rfl:=Option.some.inj e;exact F.keep b _ z
 have ki:cC s.heap h':=λb y e i=>by
   refine kk b y ?_ e;rintro rfl;refine f9 F1.ns λo es ep ho hd _=>?_;rw [ho] at e;obtain rfl:=Option.some.inj e;exact cZ hd i
 refine ⟨⟨_,F,λx lv hx=>?_⟩,λy hy=>(S.ob y hy).same ki λz e=>kk _ _ (S.ab y hy).2 e,S.nd,S.ab,λy hy=>(S.tm y hy).same ki (λb z e n nl=>⟨kk b z nl e,n⟩) rfl,S.td,S.bs,S.gb,S.os,ht⟩;refine ap (q x lv hx) λv hm rr=>?_;exact ⟨v,hm,rr.keeps ki⟩
theorem St.ledger {tmp:List bt} {s:Shared} (S:St c le σ tmp s):∃ m news,Fr c.hb c.L s.heap m/\News c.hb c.L s.heap news/\(∀ p∈news,p.1 < s.heap.objs.size) /\
   ∀ h' t,0 < t->Fr c.hb c.L h' m->(∀ p∈news,h'.get? p.1=some p.2)->St c le σ tmp { s with heap:=h',toks:=t }:=by
 refine ap S.fr λm F _=>?_;refine du S.news λnews N _ all=>?_;exact ⟨m,news,F,N,λp hp=>Heap.lt_size (N p hp).1,λh' t ht F' hk=>S.kept F ht F' λb y h1 h2 h3=>hk _ (all b y h3 h1 h2)⟩
theorem St.newAt {tmp:List bt} {s:Shared} (S:St c le σ tmp s) {h':Heap} {t:Nat} (S':St c le σ tmp { s with heap:=h',toks:=t }) {lo:LO} (r:RO c.w.params h' s.heap.objs.size lo):St c le ((s.heap.objs.size,lo)::σ) tmp { s with heap:=h',toks:=t }:=by
 refine S'.own r (λh=>Nat.lt_irrefl _ (S.key_lt h)) ?_ (Nat.ne_of_gt S.lt) (λb hb=>ap ((S.tm _ hb).1) λ_ e _=>Nat.lt_irrefl _ (Heap.lt_size e));cases q:c.hb.get? s.heap.objs.size with
 | none=>rfl
 | some x=>exact absurd (S.base_lt q) (Nat.lt_irrefl _)
theorem im {h:Heap}:∀ {vs:List Value} {ys:List Str},StrsAre vs ys->aK h (ys.map .str) vs
 | _,_,.nil=>.nil
 | _,_,.cons y t r=>.cons (.str y t) (im r)
theorem uS {x y:Str} {k:Int} {K:LV->aa->Prop} (hy:(y.length==0)=false) (hk:(decide (k < -(2 ^ 63:Int)) || decide (k ≥ 2 ^ 63))=false) (hx:x.length<=100000) (h:∀ a,a∉σ.map (·.1)->K (.loc a) ((a,.list ((Txt.rsplitMax x y k).map .str))::σ)) :
   WC n c (.builtin "str.rsplit") [.str x,.str y,.int k] le σ K:=λA hA tmp s vs S r=>by
 refine tZ S.ledger λm news F N _ back=>?_;refine bl (aK.inv r) λ_ _ z6_ r1 r2=>?_;obtain rfl:=z6_;have hz:=aK.inv r2;clear r2;refine bl hz λ_ _ z7_ r2 r3=>?_;obtain rfl:=z7_;have hz:=aK.inv r3;clear r3;refine bl hz λ_ _ z8_ r3 r4=>?_;obtain rfl:=z8_;refine aH (RV.inv r1) λ_ z9_=>?_;clear r1;obtain rfl:=z9_;cases r2;refine aH (RV.inv r3) λ_ z0_=>?_;clear r3;obtain rfl:=z0_;clear r;obtain rfl:=aK.nil_ r4;refine wpAny_with_toks (n:=1) S.tk (rsplitN2A F N hy hk (λl h' tk e1 sa _ _ F' N' hk'=>?_) (Nat.le_trans (Nat.add_le_add_right hx 2) (av (by decide))))
 have S':=back h' tk hk' F' λp hp=>(N' p (.tail _ hp)).1;have S2:=S.newAt S' (lo:=.list ((Txt.rsplitMax x y k).map .str)) ⟨_,0,(N' _ (.head _)).1,e1 ▸ im sa⟩;exact pv S2 (.loc _) (h _ λhm=>Nat.lt_irrefl _ (S.key_lt hm))
theorem xa {x y:Str} {k:Int} {K:LV->aa->Prop} (hy:(y.length==0)=false) (hk:(decide (k < -(2 ^ 63:Int)) || decide (k ≥ 2 ^ 63))=false) (hx:x.length<=100000) (h:∀ a,a∉σ.map (·.1)->K (.loc a) ((a,.list ((Txt.splitMax x y k).map .str))::σ)) :
   WC n c (.builtin "str.split") [.str x,.str y,.int k] le σ K:=λA hA tmp s vs S r=>by
 refine tZ S.ledger λm news F N _ back=>?_;refine bl (aK.inv r) λ_ _ z1_ r1 r2=>?_;obtain rfl:=z1_;have hz:=aK.inv r2;clear r2;refine bl hz λ_ _ z2_ r2 r3=>?_;obtain rfl:=z2_;have hz:=aK.inv r3;clear r3;refine bl hz λ_ _ z3_ r3 r4=>?_;obtain rfl:=z3_;refine aH (RV.inv r1) λ_ z4_=>?_;clear r1;obtain rfl:=z4_;cases r2;refine aH (RV.inv r3) λ_ z5_=>?_;clear r3;obtain rfl:=z5_;clear r;obtain rfl:=aK.nil_ r4;refine wpAny_with_toks (n:=1) S.tk (splitN2A F N hy hk (λl h' tk e1 sa _ _ F' N' hk'=>?_) (Nat.le_trans (Nat.add_le_add_right hx 2) (av (by decide))))
 have S':=back h' tk hk' F' λp hp=>(N' p (.tail _ hp)).1;have S2:=S.newAt S' (lo:=.list ((Txt.splitMax x y k).map .str)) ⟨_,0,(N' _ (.head _)).1,e1 ▸ im sa⟩;exact pv S2 (.loc _) (h _ λhm=>Nat.lt_irrefl _ (S.key_lt hm))
end
noncomputable abbrev SK (w:World):PySem.KeyKind pg w Str:=PySem.strKind pg w
inductive mh (h:Heap):List (Str × LV)->List (Str × Value)->Prop where
 | nil:mh h [] []
 | cons {k:Str} {x:LV} {v:Value} {l:List (Str × LV)} {m:List (Str × Value)}:RV h x v->mh h l m->mh h ((k,x)::l) ((k,v)::m)
theorem mh.keys {h:Heap} {l:List (Str × LV)} {m:List (Str × Value)} (r:mh h l m):l.map (·.1)=m.map (·.1):=by
 induction r with
 | nil=>rfl
 | cons _ _ ih=>simp [ih]
theorem mh.length {h:Heap} {l:List (Str × LV)} {m:List (Str × Value)} (r:mh h l m):l.length=m.length:=by
 induction r with
 | nil=>rfl
 | cons _ _ ih=>simp [ih]
theorem mh.keeps {h h':Heap} {l:List (Str × LV)} {m:List (Str × Value)} (k:cC h h') (r:mh h l m):mh h' l m:=by
 induction r with
 | nil=>exact .nil
 | cons a _ ih=>exact .cons (a.keeps k) ih
theorem mh.at {h:Heap} {l:List (Str × LV)} {m:List (Str × Value)} (r:mh h l m) (k:Str):(∀ x,l.lookup k=some x->∃ v,valueAt m k=some v/\RV h x v)/\(l.lookup k=none->valueAt m k=none):=by
 induction r with
 | nil=>exact ⟨λx e=>by simp at e,λ_=>rfl⟩
 | @cons k' x v l m r _ ih =>
   unfold valueAt at ih ⊢;rw [List.lookup_cons,List.find?_cons];by_cases e:k'=k
   . clear ih;subst e;refine ⟨λx' h'=>?_,λh'=>?_⟩
     . simp at h';subst h';exact ⟨v,by simp,r⟩
     . simp at h'
   . have e':(k==k')=false:=beq_eq_false_iff_ne.mpr (Ne.symm e);simp only [e',decide_eq_false e];exact ih
theorem dR {k:Str} {x:LV}:∀ {l:List (Str × LV)},k∉l.map (·.1)->ce k x l=l++[(k,x)]:=by
 intro l;induction l with
 | nil=>exact λ_=>rfl
 | cons p r ih =>
   obtain ⟨y,u⟩:=p;intro h;rw [List.map_cons,List.mem_cons,not_or] at h;unfold ce;rw [if_neg (by simpa using Ne.symm h.1),ih h.2];rfl
theorem mh.snoc {h:Heap} {l:List (Str × LV)} {m:List (Str × Value)} (r:mh h l m) {k:Str} {x:LV} {v:Value} (rv:RV h x v):mh h (l++[(k,x)]) (m++[(k,v)]):=by
 induction r with
 | nil=>exact .cons rv .nil
 | cons a _ ih=>exact .cons a ih
theorem mh.stored {h:Heap} {l:List (Str × LV)} {m:List (Str × Value)} (r:mh h l m) (nd:(l.map (·.1)).Nodup) {k:Str} {x:LV} {v:Value} (rv:RV h x v):mh h (ce k x l) (stored m k v):=by
 by_cases hk:k∈l.map (·.1)
 . have hm:(m.any λkv=>decide (kv.1=k))=true:=by
     rw [r.keys] at hk;refine ap (List.mem_map.mp hk) λp hp e=>?_;exact List.any_eq_true.mpr ⟨p,hp,decide_eq_true e⟩
   unfold PySem.stored;rw [if_pos hm];clear hm;induction r with
   | nil=>simp at hk
   | @cons k' x' v' l m a r ih =>
     rw [List.map_cons,List.nodup_cons] at nd;unfold ce;by_cases e:k'=k
     . clear ih hk;subst e;simp only [beq_self_eq_true,if_true,List.map_cons];have hn:k'∉m.map (·.1):=by rw [<-r.keys];exact nd.1
       rw [map_store_of_not_mem m k' v hn];exact .cons rv r
     . rw [if_neg (by simpa using e),List.map_cons,if_neg e]
       rw [List.map_cons,List.mem_cons] at hk;exact .cons a (ih nd.2 (hk.resolve_left (Ne.symm e)))
 . rw [dR hk];have hm:¬ (m.any λkv=>decide (kv.1=k))=true:=by
     rw [r.keys] at hk;intro e;refine ap (List.any_eq_true.mp e) λp hp e=>?_;exact hk (List.mem_map.mpr ⟨p,hp,of_decide_eq_true e⟩)
   unfold PySem.stored;rw [if_neg hm];exact r.snoc rv
theorem mf.pairs {w:World} {h:Heap} {l:List (Str × LV)} {es:List DictEntry} (d:mf w.params h l es):∃ m,mh h l m/\Pairs (SK w) es m/\∀ e∈es,∃ k,(SK w).is k e.key=true/\e.hash=(SK w).hash k:=by
 induction d with
 | nil=>exact ⟨[],.nil,.nil,λ_ h=>nM h⟩
 | @cons k t x v l es r _ ih =>
   refine du ih λm h1 h2 h3=>?_;have hi:(SK w).is k (.str k t)=true:=by show Value.isStrOf k (.str k t)=true;unfold Value.isStrOf;simp
   refine ⟨(k,v)::m,.cons r h1,.cons hi rfl h2,λe he=>?_⟩;rcases List.mem_cons.mp he with rfl | he
   . exact ⟨k,hi,rfl⟩
   . exact h3 e he
theorem RO.dictOf {w:World} {h:Heap} {a:Addr} {l:List (Str × LV)} (r:RO w.params h a (.dict l)):∃ m,mh h l m/\h.DictOf (SK w) a m/\(l.map (·.1)).Nodup:=by
 refine bl r λes n e d nd=>?_;refine du d.pairs λm h1 h2 h3=>?_;refine ⟨m,h1,⟨_,es.toArray,n,e,⟨rfl,rfl,rfl⟩,rfl,λx hx=>h3 x (by simpa using hx),by simpa using h2,by rw [<-h1.keys];exact nd⟩,nd⟩
theorem RO.ofDict {w:World} {h:Heap} {a:Addr} {l:List (Str × LV)} {m:List (Str × Value)} (k:mh h l m) (d:h.DictOf (SK w) a m):RO w.params h a (.dict l):=by
 refine el λP kP=>?_;obtain ⟨o,es,ep,ho,⟨hc,hd0,hs⟩,hd,hk,hp,nd⟩:=d;refine kP ?_;clear kP P;refine ⟨es.toList,ep,?_,?_,by rw [k.keys];exact nd⟩
 . rw [ho];obtain ⟨c,d,dt,sl⟩:=o;simp only at hc hd0 hs hd;subst hc;subst hd0;subst hs;clear ho;subst hd;simp
 . have hk':∀ e∈es.toList,∃ k,(SK w).is k e.key=true/\e.hash=(SK w).hash k:=λe he=>hk e (by simpa using he)
   clear hk hd nd;generalize es.toList=el at hp hk';induction k generalizing el with
   | nil=>cases hp;exact .nil
   | @cons k' x v l m r _ ih =>
     cases hp with
     | @cons e _ es _ h1 h2 h3 =>
       refine ap (hk' e (.head _)) λk2 g1 g2=>?_;refine aH (Value.isStrOf_shape h1) λt ht=>?_;have ek:k2=k':=(SK w).inj _ _ _ g1 h1;subst ek;obtain ⟨hsh,key,val⟩:=e;simp only at ht h2 g2;subst ht;subst h2;clear g1 h1;subst g2;exact .cons r (ih es h3 λe he=>hk' e (.tail _ he))
theorem eP (w:World) (k:Str) (t:Tok):(SK w).is k (.str k t)=true:=by show Value.isStrOf k (.str k t)=true;unfold Value.isStrOf;simp
section
variable {n:Nat} {c:Cx} {le:ak} {σ:aa} {env:Env}
theorem St.notSys {tmp:List bt} {s:Shared} (S:St c le σ tmp s) {a:Addr} (h:a∈σ.map (·.1)):(a==sysModules)=false:=by
 refine ap (List.mem_map.mp h) λp hp z0_=>?_;clear h;obtain rfl:=z0_;refine aH S.bs.top.sys λo e=>?_;refine beq_eq_false_iff_ne.mpr λx=>?_;have:=(S.ab p hp).1;rw [x] at this;rw [show (sysModules:Addr)=1 from rfl,e] at this;cases this
theorem rK {a:Addr} {l:List (Str × LV)} {k:Str} {K:LV->aa->Prop} (hm:(a,.dict l)∈σ) (h:K (.bool (l.lookup k).isSome) σ):OB n c (compareOp .In) (.str k) (.loc a) le σ K:=λA hA tmp s vx vy S r1 r2=>by
 refine aH (RV.inv r1) λt z1_=>?_;clear r1;obtain rfl:=z1_;obtain rfl:=RV.inv r2;refine du (RO.dictOf (S.ob _ hm)) λm h1 h2 _=>?_;refine wpAny_in_of (eP c.w k t) (S.notSys (List.mem_map.mpr ⟨_,hm,rfl⟩)) h2.mapOf ?_;have e:(valueAt m k).isSome=(l.lookup k).isSome:=by
   cases q:l.lookup k with
   | none=>rw [(h1.at k).2 q];rfl
   | some x=>refine ap ((h1.at k).1 x q) λv e _=>?_;rw [e];rfl
 rw [e];exact pv (S.toks _) (.bool _) h
theorem om {value slice:Expr} {a:Addr} {l:List (Str × LV)} {k:Str} {x:LV} {K:LV->aa->Prop} (hm:(a,.dict l)∈σ) (hx:l.lookup k=some x) (h:K x σ)
   (hs:∀ (u:Tok),subscripted slice false (.ref a) (.str k u)=operate [.ref a,.str k u] (getItem (.ref a) (.str k u)):=by intro u;with_unfolding_all rfl):OS n c value slice (.loc a) (.str k) le σ K:=λA hA tmp s vx vi S r1 r2=>by
 obtain rfl:=RV.inv r1;refine aH (RV.inv r2) λu z2_=>?_;clear r2;obtain rfl:=z2_;refine du (RO.dictOf (S.ob _ hm)) λm h1 h2 _=>?_;refine ap ((h1.at k).1 x hx) λv hv rv=>?_;exact tail_any h2.typeIs PySem.slot_dict_getitem.lookup (wpAny_getItem_of (eP c.w k u) h2.mapOf hv (pv (S.toks _) rv h)) (hs u)
theorem fE {A:Around} {tmp:List bt} {s:Shared} {a:Addr} {l:List (Str × LV)} {k:Str} {t:Tok} {x:LV} {v:Value} {σ':aa} {Q:Unit->Shared->Prop} (S:St c le σ tmp s) (r:RV s.heap x v) (u:Up a (.dict l) (.dict (ce k x l)) σ σ') (hl:l.length<=1000000)
   (h:∀ s',St c le σ' tmp s'->Q () s'):wpAny (Mo c.w) A (setItem (.ref a) (.str k t) v) Q dh s:=by
 refine du (RO.dictOf (S.ob _ u.mem)) λm h1 h2 nd=>?_;refine wpAny_setItem_pairs (eP c.w k t) h2 (λh' d' hs=>h _ ?_) (by rw [<-h1.length];exact av hl)
 exact (S.upd u.upd hs λki=>RO.ofDict ((h1.keeps ki).stored nd (r.keeps ki)) d').toks _
theorem yy {o i:Expr} {pos:Pos} {x:LV} {K:ak->aa->Prop}
   (h:WV n c (eval o env) le σ λov σ1=>WV n c (eval i env) le σ1 λiv σ2=>∃ a l k σ',ov=.loc a/\iv=.str k/\Up a (.dict l) (.dict (ce k x l)) σ2 σ'/\l.length<=1000000/\K le σ'):g7 n c (.Subscript o i pos) env x le σ K:=λA hA tmp s vx S r=>by
 rw [assign_Subscript];refine wpAny_bind (wpAny_holding (wpAny_mono (h A hA _ s (S.hold r)) (λvo s1 hq29=>?_) λ_ _ x=>x));refine bb hq29 λov σ1 S1 h1=>?_;refine wpAny_bind (wpAny_holding (wpAny_mono (h1 A hA _ s1 S1) (λvi s2 hq30=>?_) λ_ _ x=>x));refine bb hq30 λiv σ2 S2 y0_=>?_;refine zW y0_ λa l k σ' e1 e2 u hl hk=>?_;clear h1;subst e1;subst e2;have r1:=S2.tm _ (.tail _ (.head _));have r2:=S2.tm _ (.head _);have r3:=S2.tm _ (.tail _ (.tail _ (.head _)));clear hq29 S1;obtain rfl:=RV.inv r1;refine aH (RV.inv r2) λt z3_=>?_;clear r2;obtain rfl:=z3_;refine wpAny_bind (wpAny_standAt (wpAny_bind (wpAny_holding (fE S2.drop1.drop1.drop1 r3 u hl λs' S'=>wpAny_release ⟨le,σ',S',hk⟩))))
theorem lZ {o i value:Expr} {pos' pos:Pos} {K:LF->ak->aa->Prop}
   (h:WV n c (eval value env) le σ λv σ0=>WV n c (eval o env) le σ0 λov σ1=>WV n c (eval i env) le σ1 λiv σ2=>∃ a l k σ',ov=.loc a/\iv=.str k/\Up a (.dict l) (.dict (ce k v l)) σ2 σ'/\l.length<=1000000/\K .next le σ')
   (hs:swapsWith value (some (.Subscript o i pos')) pos.line env=pure false:=by rfl):WF n c (exec (.Assign [.Subscript o i pos'] value pos) env) le σ K:=λA hA tmp s S =>
 wpAny_Assign_Subscript (wpAny_mono (h A hA tmp s S) (by intro v s0 z4_;refine bb z4_ λlv σ0 S0 h0=>?_;exact (wpAny_mono (h0 A hA _ s0 S0) (by intro vo s1 z5_;refine bb z5_ λov σ1 S1 h1=>?_;exact (wpAny_mono (h1 A hA _ s1 S1) (λvi s2 hq31=>by
   refine bb hq31 λiv σ2 S2 y1_=>?_;refine zW y1_ λa l k σ' e1 e2 u hl hk=>?_;clear h1;subst e1;subst e2;have r1:=S2.tm _ (.tail _ (.head _));have r2:=S2.tm _ (.head _);have r3:=S2.tm _ (.tail _ (.tail _ (.head _)));clear z5_ S1;obtain rfl:=RV.inv r1;refine aH (RV.inv r2) λt z6_=>?_;clear r2;obtain rfl:=z6_;exact fE S2.drop1.drop1.drop1 r3 u hl λs' S'=>⟨.next,le,σ',rfl,S',hk⟩) λ_ _ x=>x)) λ_ _ x=>x)) λ_ _ x=>x) hs
theorem sw {t₁ t₂ value:Expr} {pos:Pos} {K:LF->ak->aa->Prop}
   (h:WV n c (eval value env) le σ λv σ1=>g7 n c t₁ env v le σ1 λle2 σ2=>g7 n c t₂ env v le2 σ2 λle3 σ3=>K .next le3 σ3)
   (he:(assignEach [t₁,t₂] env).map (·.2)=[assign t₁ env,assign t₂ env]:=by rfl) (hw:swappedStores [t₁,t₂] value env=pure none:=by rfl):WF n c (exec (.Assign [t₁,t₂] value pos) env) le σ K:=λA hA tmp s S =>
 wpAny_Assign_two (wpAny_mono (h A hA tmp s S) (by intro v s1 z7_;refine bb z7_ λlv σ1 S1 h1=>?_;exact (wpAny_mono (h1 A hA _ s1 v S1 (S1.tm _ (.head _))) (λ_ s2 hx8_=>bb hx8_ λle2 σ2 S2 h2 =>
   wpAny_mono (h2 A hA _ s2 v S2.drop1 (S2.tm _ (.head _))) (by intro _ s3 z8_;refine bb z8_ λle3 σ3 S3 k=>?_;exact (⟨.next,le3,σ3,rfl,S3,k⟩)) λ_ _ x=>x) λ_ _ x=>x)) λ_ _ x=>x) he hw
theorem g5 {elts:List Expr} {k:Nat} {tpos:Pos} {value:Expr} {pos:Pos} {K:LF->ak->aa->Prop}
   (h:WV n c (eval value env) le σ λv σ1=>g7 n c (.Tuple elts k tpos) env v le σ1 λle2 σ2=>K .next le2 σ2)
   (hs:swapsWithSole [.Tuple elts k tpos] value pos.line env=pure false:=by rfl) (hw:swappedStores [.Tuple elts k tpos] value env=pure none:=by rfl):WF n c (exec (.Assign [.Tuple elts k tpos] value pos) env) le σ K:=λA hA tmp s S =>
 Assign_Tuple (wpAny_mono (h A hA tmp s S) (by intro v s1 z9_;refine bb z9_ λlv σ1 S1 h1=>?_;exact (wpAny_mono (h1 A hA _ s1 v S1.drop1 (S1.tm _ (.head _))) (by intro _ s2 z0_;refine bb z0_ λle2 σ2 S2 k=>?_;exact (⟨.next,le2,σ2,rfl,S2,k⟩)) λ_ _ x=>x)) λ_ _ x=>x) hs hw
theorem w6 {es:List Expr} {k:Nat} {pos:Pos} {a:Addr} {l:List LV} {K:ak->aa->Prop} (hm:(a,.list l)∈σ) (h:AF n c es env l le σ K) (hlen:l.length=(assignEach es env).length) (h0:(assignEach es env).findIdx? (·.1)=none:=by rfl)
   (h1:((assignEach es env).map (·.1)).all (·==false)=true:=by rfl) (h2:(assignEach es env).length=es.length:=by rfl)
   (h3:∀ e r pre,es=pre++e::r->assignEach (e::r) env=(false,assign e env)::assignEach r env):g7 n c (.Tuple es k pos) env (.loc a) le σ K:=λA hA tmp s vx S r=>by
 obtain rfl:=RV.inv r;refine bb (S.ob _ hm) λvs kk e rs=>?_;rw [arm_assign_Tuple];refine wpAny_bind (wpAny_standAt ?_);unfold unpack;have hsz:(assignEach es env).length=vs.toArray.size:=by rw [<-hlen,rs.length];simp
 rw [hsz,h0];refine wpAny_bind (wpAny_holding (kun_itemsOf hA.handled ⟨_,e,rfl,kk,rfl⟩ λh' hx=>?_));have g:∀ b o,s.heap.get? b=some o->h'.get? b=some o:=λb o e=>hx b o (Nat.ne_of_lt (Heap.lt_size e)) e;have:=tF (env:=env) (c:=c) hA es l vs le σ K tmp { s with heap:=h' } h (S.grow g) (rs.keeps λb o e _=>g b o e) h1 h2 (λe r er=>by clear h hlen h0 h1 h2 hsz;subst er;exact h3 e r [] rfl) h3
 simpa using this
theorem oK {x y:Str} {p1 p2:Pos} {k:Nat} {pos:Pos} {q:Addr} {a b:LV} {K:ak->aa->Prop} (hm:(q,.list [a,b])∈σ) (h:K (an y b (an x a le)) σ) (hk:env.scope.kind=.function:=by rfl) (hx:env.kindOf x=some .local:=by rfl) (hy:env.kindOf y=some .local:=by rfl)
   (hL:env.locals=c.L:=by rfl):g7 n c (.Tuple [.Name x p1,.Name y p2] k pos) env (.loc q) le σ K:=by
 refine w6 hm (a9 (a9 h hk hy hL) hk hx hL) rfl (h3:=?_);intro e r pre h;rcases pre with _ | ⟨_,_ | ⟨_,pre⟩⟩
 . refine bh (List.cons.inj h) λz1_ z2_=>?_;obtain rfl:=z1_;clear h;obtain rfl:=z2_;rfl
 . cases h;rfl
 . simp at h
end
theorem qC {M:Model} {A:Around} {E:Value->Shared->Prop} {s:Shared} {keep:List Value}:∀ {vs:List Value} {Q:Unit->Shared->Prop},Q () s->wpAny M A (letGo vs keep) Q E s:=by
 intro vs;induction vs with
 | nil=>exact λh=>wpAny_pure h
 | cons _ rest ih =>
   intro Q h;show wpAny M A (do holding (rest++keep) point;letGo rest keep) Q E s
   exact wpAny_bind (wpAny_holding (wpAny_point (ih h)))
section
variable {n:Nat} {c:Cx} {le:ak} {σ:aa} {env:Env}
theorem Up.ex {a:Addr} {o o':LO}:∀ {σ:aa},(a,o)∈σ->∃ σ',Up a o o' σ σ':=by
 intro σ;induction σ with
 | nil=>exact λh=>nM h
 | cons p r ih =>
   intro h;by_cases e:p=(a,o)
   . clear h;subst e;exact ⟨_,.head⟩
   . refine Or.elim (List.mem_cons.mp h) (λh=>?_) λh=>?_
     . exact absurd h.symm e
     . refine aH (ih h) λσ' u=>?_;exact ⟨_,.tail u⟩
theorem Up.new {a:Addr} {o o':LO} {r r':aa} (u:Up a o o' r r'):(a,o')∈r':=by
 induction u with
 | head=>exact .head _
 | tail _ ih=>exact .tail _ ih
theorem Up.old {a:Addr} {o o':LO} {r r':aa} (u:Up a o o' r r') {p:Addr × LO} (h:p∈r) (ne:p.1≠a):p∈r':=by
 induction u with
 | head =>
   rcases List.mem_cons.mp h with rfl | h
   . exact absurd rfl ne
   . exact .tail _ h
 | tail _ ih =>
   rcases List.mem_cons.mp h with rfl | h
   . exact .head _
   . exact .tail _ (ih h)
theorem Up.keys {a:Addr} {o o':LO} {r r':aa} (u:Up a o o' r r'):r'.map (·.1)=r.map (·.1):=u.upd.keys
theorem bA {t:Sem Flow} {K:LF->ak->aa->Prop} (h:(σ.map (·.1)).Nodup->WF n c t le σ K):WF n c t le σ K:=λA hA tmp s S=>h S.nd A hA tmp s S
theorem yA {f:Value} {args:List LV} {K:LV->aa->Prop} (h:(σ.map (·.1)).Nodup->WC n c f args le σ K):WC n c f args le σ K:=λA hA tmp s vs S=>h S.nd A hA tmp s vs S
theorem aJ {a:Addr} {o o':LO} (nd:(σ.map (·.1)).Nodup) (h:(a,o)∈σ) (h':(a,o')∈σ):o=o':=by
 induction σ with
 | nil=>cases h
 | cons p r ih =>
   rw [List.map_cons,List.nodup_cons] at nd;refine Or.elim (List.mem_cons.mp h) (λe=>?_) λh2=>?_
   . clear h;subst e;refine Or.elim (List.mem_cons.mp h') (λe=>?_) λh3=>?_
     . cases e;rfl
     . exact absurd (List.mem_map.mpr ⟨(a,o'),h3,rfl⟩:a∈r.map (·.1)) nd.1
   . refine Or.elim (List.mem_cons.mp h') (λe=>?_) λh3=>?_
     . clear h h';subst e;exact absurd (List.mem_map.mpr ⟨(a,o),h2,rfl⟩:a∈r.map (·.1)) nd.1
     . exact ih nd.2 h2 h3
noncomputable def g6 (w:World) (f:Str->Bool) (n:Nat) (o:Obj):Prop:=∃ es ep t,o.ExactSet/\o.data=.set es ep t/\ElemsOf (SK w) es.toList/\(∀ k,f k=true ↔ ∃ e∈es.toList,(SK w).is k e.2=true)/\es.size < scanBound/\t.fits es.size=true/\es.size=n
theorem g6.at {w:World} {f:Str->Bool} {n:Nat} {o:Obj} {h:Heap} {a:Addr} (x:g6 w f n o) (e:h.get? a=some o):h.SetOf (SK w) a f n:=xD x λes ep t r=>⟨o,es,ep,t,e,r⟩
theorem g6.of {w:World} {f:Str->Bool} {n:Nat} {h:Heap} {a:Addr} (x:h.SetOf (SK w) a f n):∃ o,h.get? a=some o/\g6 w f n o/\¬ gR o:=i4 x λo es hy4_=>bb hy4_ λep t e r=>⟨o,e,⟨es,ep,t,r⟩,bU r.1.1⟩
theorem yB {K:LV->aa->Prop} (h:∀ a,a∉σ.map (·.1)->K (.loc a) ((a,.raw (g6 c.w (λ_=>false) 0))::σ)):WC n c (.type "set") [] le σ K:=λA hA tmp s vs S r=>by
 obtain rfl:=aK.nil_ r;refine call_set_0 λled=>?_;have e:(s.heap.push { cls:=.type "set",dict:=none,data:=.set #[] 0 (.fresh 0 0 led) }).get? s.heap.objs.size=some { cls:=.type "set",dict:=none,data:=.set #[] 0 (.fresh 0 0 led) }:=Heap.get?_push_size _ rfl;refine pv (S.new (o:={ cls:=.type "set",dict:=none,data:=.set #[] 0 (.fresh 0 0 led) }) (lo:=.raw (g6 c.w (λ_=>false) 0)) ⟨_,e,⟨#[],0,_,⟨rfl,rfl,rfl⟩,rfl,λe he=>by simp at he,λk=>by simp,by decide,by rfl,rfl⟩,bU (c:="set") rfl⟩) (.loc _) (h _ λhm=>Nat.lt_irrefl _ (S.key_lt hm))
theorem rQ {a:Addr} {f:Str->Bool} {m:Nat} {args:List Expr} {K:LV->aa->Prop} (hm:(a,.raw (g6 c.w f m))∈σ) (h:WA n c args env le σ λxs σ2=>WC n c (.builtin "set.add") (.loc a::xs) le σ2 K) (hst:(starEach args env).any (·.1)=false:=by rfl) :
   OM n c (.loc a) (ofString "add") args env le σ K:=λA hA pos pl tmp s vo S r=>by
 obtain rfl:=RV.inv r;refine du (S.ob _ hm) λo e hs _=>?_;exact getMethod_set_add (hs.at e) (kt hA S (.loc a) h hst)
theorem su {a:Addr} {f:Str->Bool} {m:Nat} {k:Str} {σ':aa} {K:LV->aa->Prop} (u:Up a (.raw (g6 c.w f m)) (.raw (g6 c.w (λk'=>f k' || decide (k'=k)) (if f k then m else m+1))) σ σ') (hroom:m<=4000) (h:K .none σ') :
   WC n c (.builtin "set.add") [.loc a,.str k] le σ K:=λA hA tmp s vs S r=>by
 refine bl (aK.inv r) λ_ _ z0_ r1 r2=>?_;obtain rfl:=z0_;have hz:=aK.inv r2;clear r2;refine bl hz λ_ _ z1_ r2 r3=>?_;obtain rfl:=z1_;obtain rfl:=RV.inv r1;obtain rfl:=aK.nil_ r3;refine aH (RV.inv r2) λt z2_=>?_;clear r2 hz r;obtain rfl:=z2_;refine du (S.ob _ u.mem) λo e hs _=>?_;refine call_set_add (eP c.w k t) rfl (hs.at e) (by show m+1 < 4096;exact zK hroom rfl) λh' hsb d'=>?_
 exact pv ((S.upd u.upd hsb λki=>g6.of d').toks _) .none h
theorem oe {a:Addr} {f:Str->Bool} {m:Nat} {k:Str} {K:LV->aa->Prop} (hm:(a,.raw (g6 c.w f m))∈σ) (h:K (.bool (!f k)) σ):OB n c (compareOp .NotIn) (.str k) (.loc a) le σ K:=λA hA tmp s vx vy S r1 r2=>by
 refine aH (RV.inv r1) λt z3_=>?_;clear r1;obtain rfl:=z3_;obtain rfl:=RV.inv r2;refine du (S.ob _ hm) λo e hs _=>?_;exact wpAny_notInSet_of (eP c.w k t) rfl (hs.at e) (pv (S.toks _) (.bool _) h)
theorem cT {a:Addr} {l:List LV} {K:LV->aa->Prop} (hm:(a,.list l)∈σ) (hl:l.length<=1000000) (h:K (.int l.length) σ):WC n c (.builtin "len") [.loc a] le σ K:=λA hA tmp s vs S r=>by
 refine bl (aK.inv r) λ_ _ z4_ r1 r2=>?_;obtain rfl:=z4_;obtain rfl:=RV.inv r1;clear r;obtain rfl:=aK.nil_ r2;refine bb (S.ob _ hm) λvs kk e rs=>?_;refine Calls.call_len_list (items:=vs.toArray) ⟨_,e,rfl,kk,rfl⟩ (by rw [List.size_toArray,<-rs.length];exact Bx hl) (pv (S.toks _) (.int _ _) ?_)
 rw [List.size_toArray,<-rs.length];exact h
theorem qw {a:Addr} {l:List (Str × LV)} {K:LV->aa->Prop} (hm:(a,.dict l)∈σ) (hl:l.length<=1000000) (h:K (.int l.length) σ):WC n c (.builtin "len") [.loc a] le σ K:=λA hA tmp s vs S r=>by
 refine bl (aK.inv r) λ_ _ z5_ r1 r2=>?_;obtain rfl:=z5_;obtain rfl:=RV.inv r1;clear r;obtain rfl:=aK.nil_ r2;refine du (RO.dictOf (S.ob _ hm)) λm h1 h2 _=>?_;refine PySem.call_len_dict (S.notSys (List.mem_map.mpr ⟨_,hm,rfl⟩)) h2 (by rw [<-h1.length];exact Bx hl) (pv (S.toks _) (.int _ _) ?_)
 rw [<-h1.length];exact h
theorem oL {a:Addr} {l:List LV} {x:LV} {σ':aa} {K:LV->aa->Prop} (u:Up a (.list (l++[x])) (.list l) σ σ') (hl:l.length<=900000) (h:K x σ'):WC n c (.builtin "list.pop") [.loc a] le σ K:=λA hA tmp s vs S r=>by
 refine bl (aK.inv r) λ_ _ z6_ r1 r2=>?_;obtain rfl:=z6_;obtain rfl:=RV.inv r1;clear r;obtain rfl:=aK.nil_ r2;refine bb (S.ob _ u.mem) λus kk e rs=>?_;refine ap (rs.get (i:=l.length) (x:=x) (by simp)) λv hv rv=>?_
 have hlen:=rs.length;rw [List.length_append,List.length_singleton] at hlen;refine Copied.pop_at (its:=us.toArray) (n:=kk) e (y:=v) ?_ (λh' hs e'=>?_) (by rw [List.size_toArray,<-hlen];exact av (by lia))
 . rw [List.size_toArray,<-hlen,Nat.add_sub_cancel];simpa using hv
 . have S':=S.hold rv;have S2:=S'.upd u.upd hs λki=>⟨us.dropLast,kk+1,by rw [e'];simp,?_⟩
   . exact ⟨x,σ',S2,h⟩
   . have:∀ {xs:List LV} {x:LV} {vs:List Value},aK h' (xs++[x]) vs->aK h' xs vs.dropLast:=by
       intro xs;induction xs with
       | nil=>intro x vs r;refine bl (aK.inv r) λ_ _ z7_ r1 r2=>?_;obtain rfl:=z7_;clear r;obtain rfl:=aK.nil_ r2;exact .nil
       | cons y ys ih =>
         intro x vs r;refine bl (aK.inv r) λv vs z8_ r1 r2=>?_;obtain rfl:=z8_;have hne:vs≠[]:=by
           rintro rfl;have:=r2.length;simp at this
         rw [List.dropLast_cons_of_ne_nil hne];exact .cons r1 (ih r2)
     exact this (rs.keeps ki)
theorem gG {a b:Addr} {l:List LV} {K:LV->aa->Prop} (ha:(a,.list l)∈σ) (hb:(b,.list [])∈σ) (h:K (.bool (!l.isEmpty)) σ):OB n c (compareOp .NotEq) (.loc a) (.loc b) le σ K:=λA hA tmp s vx vy S r1 r2=>by
 obtain rfl:=RV.inv r1;obtain rfl:=RV.inv r2;refine bb (S.ob _ ha) λus kk e rs=>?_;refine bb (S.ob _ hb) λvs k2 e2 rs2=>?_;obtain rfl:=aK.nil_ rs2;have hla:s.heap.IsList a us.toArray:=⟨_,e,rfl,kk,rfl⟩;have hlb:s.heap.IsList b ([]:List Value).toArray:=⟨_,e2,rfl,k2,rfl⟩;have hz:=rs.length;show wpAny _ _ (richCompare .NotEq (.ref a) (.ref b)) _ _ s;cases l with
 | nil =>
   have:us=[]:=List.length_eq_zero_iff.mp hz.symm;clear e rs hz;subst this;exact PySem.SeqAt.RcNeAt.lists (e:=λ_=>true) hla hlb rfl hA.unitsLt (λj h1 h2=>absurd h1 (by simp)) pg c.w _ _ (pv S (.bool _) h)
 | cons x l =>
   refine PySem.SeqAt.RcNeAt.lists_lengths hla hlb ?_ hA.unitsLt pg c.w _ _ (pv S (.bool _) h);cases us with
   | nil=>simp at hz
   | cons _ _=>simp
theorem uv {a b:Addr} {l:List LV} {K:LV->aa->Prop} (ha:(a,.list l)∈σ) (hb:(b,.list [])∈σ) (h:K (.bool l.isEmpty) σ):OB n c (compareOp .Eq) (.loc a) (.loc b) le σ K:=λA hA tmp s vx vy S r1 r2=>by
 obtain rfl:=RV.inv r1;obtain rfl:=RV.inv r2;refine bb (S.ob _ ha) λus kk e rs=>?_;refine bb (S.ob _ hb) λvs k2 e2 rs2=>?_;obtain rfl:=aK.nil_ rs2;have hla:s.heap.IsList a us.toArray:=⟨_,e,rfl,kk,rfl⟩;have hlb:s.heap.IsList b ([]:List Value).toArray:=⟨_,e2,rfl,k2,rfl⟩;have hz:=rs.length;show wpAny _ _ (richCompare .Eq (.ref a) (.ref b)) _ _ s;cases l with
 | nil =>
   have:us=[]:=List.length_eq_zero_iff.mp hz.symm;clear e rs hz;subst this;exact PySem.SeqAt.RcAt.lists (e:=λ_=>true) hla hlb rfl hA.unitsLt (λj h1 h2=>absurd h1 (by simp)) pg c.w _ _ (pv S (.bool _) h)
 | cons x l =>
   refine PySem.SeqAt.RcAt.lists_lengths hla hlb ?_ hA.unitsLt pg c.w _ _ (pv S (.bool _) h);cases us with
   | nil=>simp at hz
   | cons _ _=>simp
end
theorem Av {n:Nat} {c:Cx} {t:Sem Flow} {le:ak} {σ:aa} {K:LF->ak->aa->Prop} (h:(σ.map (·.1)).Nodup->WF n c t le σ K):WF n c t le σ K:=λA hA tmp s S=>h S.nd A hA tmp s S
structure f8 where
 x:Addr
 d:Addr
 pg:Addr
 dt:Addr
 dcl:Addr
 nss:Addr
 pm:Addr
 ps:Addr
noncomputable def jf (W:f8) (seen done:LV):List (Str × LV):=[(ofString "_write",.bm "list.append" W.pg),(ofString "_data",.loc W.dt),(ofString "_with_comments",.bool false),(ofString "_strip_text",.bool false),(ofString "_exclude_attrs",.none),
 (ofString "_exclude_tags",.none),(ofString "_rewrite_prefixes",.bool true),(ofString "_qname_aware_tags",.none),(ofString "_find_qname_aware_attrs",.none),(ofString "_declared_ns_stack",.loc W.dcl),(ofString "_ns_stack",.loc W.nss),
 (ofString "_prefix_map",.loc W.pm),(ofString "_preserve_space",.loc W.ps),(ofString "_pending_start",.none),(ofString "_root_seen",seen),(ofString "_root_done",done),(ofString "_ignored_depth",.int 0)]
noncomputable def gE:List Str:=[ofString "self",ofString "write",ofString "with_comments",ofString "strip_text",ofString "rewrite_prefixes",ofString "qname_aware_tags",ofString "qname_aware_attrs",ofString "exclude_attrs",ofString "exclude_tags"]
noncomputable def q6:List Value:=[.bool false,.bool false,.bool true,.none,.none,.none,.none]
noncomputable def nT:List LV:=[.bool false,.bool false,.bool true,.none,.none,.none,.none]
theorem ub (h:Heap):aK h nT q6:=.cons (.bool _) (.cons (.bool _) (.cons (.bool _) (.cons .none (.cons .none (.cons .none (.cons .none .nil))))))
theorem q7 {w:World} (s:Shared) (u v:Value) (kin:(KF w.params).In s.heap) :
   BindsTo s (uX "__init__" "C14NWriterTarget.__init__" (b0 0) .none (.ref 114) (.str (ofString "cpy313.xml.etree.ElementTree") 381) 120) ⟨[u,v],[(ofString "rewrite_prefixes",.bool true)]⟩ (gE.zip ([u,v]++q6)):=by
 exact kp_binds kin (λS=>by kernel_rfl!)
noncomputable abbrev sT (x d:Addr) (σ0:aa):aa:=(x,.inst d)::(d,.dict [])::σ0
noncomputable def ke (x d pg:Addr) (σ0:aa) (K:LV->aa->Prop):Prop:=∀ dt l0 dcl ns0 nss pm ps,
 K .none ((ps,.list [.bool false])::(pm,.dict [])::(ns0,.list [])::(nss,.list [.loc ns0])::(dcl,.list [.loc l0])::(l0,.list [.tup [.str (ofString "http://www.w3.org/XML/1998/namespace"),.str (ofString "xml")]])::(dt,.list []) ::
   (x,.inst d)::(d,.dict (jf ⟨x,d,pg,dt,dcl,nss,pm,ps⟩ (.bool false) (.bool false)))::σ0)
noncomputable abbrev iH (pre:aa) (x d:Addr) (fs:List (Str × LV)) (σ0:aa):aa:=pre++(x,.inst d)::(d,.dict fs)::σ0
theorem z5 {x d:Addr} {fs gs:List (Str × LV)} {σ0:aa}:∀ pre:aa,Up d (.dict fs) (.dict gs) (iH pre x d fs σ0) (iH pre x d gs σ0):=by
 intro pre;induction pre with
 | nil=>exact .tail .head
 | cons _ _ ih=>exact .tail ih
theorem yL {x d:Addr} {fs:List (Str × LV)} {σ0:aa} (pre:aa):(x,LO.inst d)∈iH pre x d fs σ0:=List.mem_append_right _ (.head _)
theorem xG {c:Cx} {t:Sem Flow} {le:ak} {pre:aa} {x d:Addr} {fs gs:List (Str × LV)} {σ0:aa} {K:LF->ak->aa->Prop} (e:gs=fs) (h:WF 1 c t le (iH pre x d fs σ0) K):WF 1 c t le (iH pre x d gs σ0) K:=e ▸ h
theorem bN {c:Cx} {x d:Addr} {pre:aa} {fs:List (Str × LV)} {σ0:aa} {attr:Str} {value:Expr} {p1 p2 pos:Pos} {rest:List Stmt} {env:Env} {le:ak} {K:LF->ak->aa->Prop}
   (h:WV 1 c (eval value env) le (iH pre x d fs σ0) λv σ1=>∃ pre',σ1=iH pre' x d fs σ0/\WF 1 c (execs rest env) le (iH pre' x d (ce attr v fs) σ0) K) (hs:le.lookup (ofString "self")=some (.loc x):=by rfl)
   (hl:Nat.ble fs.length 900=true:=by kernel_rfl!) (ht:takerIn (KF c.w.params) 204 attr=some none:=by kernel_rfl!) (hk:env.scope.kind=.function:=by rfl) (hn:env.kindOf (ofString "self")=some .local:=by rfl) (hL:env.locals=c.L:=by rfl)
   (hsw:swapsWith value (some (.Attribute (.Name (ofString "self") p1) attr p2)) pos.line env=pure false:=by rfl):WF 1 c (execs (.Assign [.Attribute (.Name (ofString "self") p1) attr p2] value pos::rest) env) le (iH pre x d fs σ0) K:=by
 refine ae (gA (ht:=ht) (hsw:=hsw) (h.mono λv σ1 h1=>?_));refine ap h1 λpre' z0_ k=>?_;clear h1;obtain rfl:=z0_;exact ac hs ⟨x,d,fs,_,_,rfl,yL pre',rfl,z5 pre',Nat.le_of_ble_eq_true hl,k⟩ hk hn hL (by decide)
set_option maxHeartbeats 0 in
theorem ud {c:Cx} {x d pg:Addr} {σ0:aa} {K:LF->ak->aa->Prop}
   (h:∀ le dt l0 dcl ns0 nss pm ps,WF 1 c (execs [] (envOf (ofString "C14NWriterTarget.__init__") (aE (b0 0)) c.L 121 (.ref 120))) le
     (iH [(ps,.list [.bool false]),(pm,.dict []),(ns0,.list []),(nss,.list [.loc ns0]),(dcl,.list [.loc l0]),(l0,.list [.tup [.str (ofString "http://www.w3.org/XML/1998/namespace"),.str (ofString "xml")]]),(dt,.list [])] x d (jf ⟨x,d,pg,dt,dcl,nss,pm,ps⟩ (.bool false) (.bool false)) σ0) K) :
   WF 1 c (execs (bG (b0 0)) (envOf (ofString "C14NWriterTarget.__init__") (aE (b0 0)) c.L 121 (.ref 120))) (gE.zip ([.loc x,.bm "list.append" pg]++nT)) (iH [] x d [] σ0) K:=by
 refine bN (ac rfl ⟨_,rfl,?_⟩);refine bN (ba (am ⟨by decide,λdt _=>⟨_::_,rfl,?_⟩⟩))
 refine bN (ac rfl ⟨_,rfl,?_⟩);refine bN (ac rfl ⟨_,rfl,?_⟩);refine bN (eJ (bo (ac rfl (iI (cb ⟨_,rfl,?_⟩)))));refine bN (eJ (bo (ac rfl (iI (cb ⟨_,rfl,?_⟩)))));refine bN (ac rfl ⟨_,rfl,?_⟩);refine ae (bD (bo (ac rfl (iI ?_))));refine bN (cb ⟨_,rfl,aw ?_⟩);refine ae (bD (bo (ac rfl (iI ?_))));refine bN (cb ⟨_,rfl,aw ?_⟩);refine bN (ba (af (ba (af (bQ (af (aB (af (aB (am ⟨by decide,am ⟨by decide,λl0 _=>am ⟨av (by simp),λdcl _=>⟨_::_::_,rfl,?_⟩⟩⟩⟩))))))))))
 refine bN (ba (am ⟨by decide,λnss _=>⟨_::_,rfl,?_⟩⟩))
 refine ae (bD (w7 (bo (ac rfl (kx ?_)))));refine aw ?_;refine ae (a8 (aG (kD (ac rfl (s9 (x:=x) (d:=d) (yL _) (List.mem_append_right _ (.tail _ (.head _))) (lv:=.loc nss) (by kernel_rfl!) (by kernel_rfl!) ?_ (by kernel_rfl!) (by kernel_rfl!))))))
 refine bi (l:=[]) (.head _) F.slot_list_append F.type_list_append (af (ba (am ⟨by decide,λns0 _=>am ?_⟩)))
 refine bj (l:=[]) (.tail .head) (by decide) ⟨trivial,?_⟩
 refine bN (pre:=[(ns0,.list []),(nss,.list [.loc ns0]),(dcl,_),(l0,_),(dt,_)]) (l9 λpm _=>⟨_::_,rfl,?_⟩);refine bN (ba (af (iX (am ⟨by decide,λps _=>⟨_::_,rfl,?_⟩⟩))))
 refine bN (cb ⟨_,rfl,?_⟩);refine bN (iX ⟨_,rfl,?_⟩);refine bN (iX ⟨_,rfl,?_⟩);refine bN (aq ⟨_,rfl,?_⟩);exact xG (by kernel_rfl!) (h _ dt l0 dcl ns0 nss pm ps)
theorem uc {c:Cx} {x d pg:Addr} {σ0:aa} {K:LV->aa->Prop} (h:ke x d pg σ0 K) :
   WF 1 c (execs (bG (b0 0)) (envOf (ofString "C14NWriterTarget.__init__") (aE (b0 0)) c.L 121 (.ref 120))) (gE.zip ([.loc x,.bm "list.append" pg]++nT)) (sT x d σ0) λf _ σ'=>∃ σ'',kG σ'' σ'/\K f.val σ'' :=
 ud λle dt l0 dcl ns0 nss pm ps=>Av λhn=>aw ⟨_,⟨λ_ h=>h,hn⟩,h dt l0 dcl ns0 nss pm ps⟩
noncomputable def bd (l:List Nat):Str:=⟨l.toArray⟩
theorem qh (x:Str):¬ (Builtin.Str.strKind x < 1):=by
 unfold Builtin.Str.strKind;split
 . decide
 . split<;>decide
theorem sW (x:Str):decide (Builtin.Str.strKind x < Builtin.Str.strKind (ofString "}"))=false:=by
 have:Builtin.Str.strKind (ofString "}")=1:=by decide +kernel
 rw [this];exact decide_eq_false (qh x)
noncomputable def aT (us:List Nat) (t:Nat):Str:=bd (123::us++[125,t])
theorem w2 {us:List Nat} (h:us.length=10) (t:Nat):Txt.slice (aT us t) (some 1) none=bd (us++[125,t]):=by
 refine i4 (Ap h) λa b y0_=>?_;refine zX y0_ λc d e f g i j k y1_=>?_;obtain rfl:=y1_;kernel_rfl!
theorem w1 {us:List Nat} (h:us.length=10) (t:Nat):Txt.slice (aT us t) none (some 1)=ofString "{":=by
 refine i4 (Ap h) λa b y2_=>?_;refine zX y2_ λc d e f g i j k y3_=>?_;obtain rfl:=y3_;kernel_rfl!
theorem si {us:List Nat} (h:us.length=10) {t:Nat} (ht:t=102\/t=114\/t=107):Txt.rsplitMax (bd (us++[125,t])) (ofString "}") 1=[bd us,bd [t]]:=by
 refine i4 (Ap h) λa b y4_=>?_;refine zX y4_ λc d e f g i j k y5_=>?_;obtain rfl:=y5_;unfold Txt.rsplitMax;rw [sW];rcases ht with rfl | rfl | rfl<;>kernel_rfl!
noncomputable abbrev bg:=List (Str × Str)
noncomputable def iE (p:Str × Str):LV:=.tup [.str p.1,.str p.2]
noncomputable def WL (W:f8):List Addr:=[W.x,W.d,W.pg,W.dt,W.dcl,W.nss,W.pm,W.ps]
structure WS (W:f8) (fr:List (Addr × bg)) (pm:bg) (page data:List Str) (k:Nat) (seen done:LV) (σ:aa):Prop where
 inst:(W.x,.inst W.d)∈σ
 dict:(W.d,.dict (jf W seen done))∈σ
 page:(W.pg,.list (page.map .str))∈σ
 data:(W.dt,.list (data.map .str))∈σ
 dcl:(W.dcl,.list ((fr.map (·.1)).map .loc))∈σ
 each:∀ p∈fr,(p.1,.list (p.2.map iE))∈σ
 nss:∃ l,l.length=k/\(W.nss,.list l)∈σ
 pm:(W.pm,.dict (pm.map λp=>(p.1,.str p.2)))∈σ
 ps:(W.ps,.list (List.replicate k (.bool false)))∈σ
 ad:(WL W++fr.map (·.1)).Nodup
noncomputable def bx (uri:Str):bg->List Str->Option Str
 | [],_=>none
 | p::r,seen=>if p.1==uri && !seen.contains p.2 then some p.2 else bx uri r (p.2::seen)
theorem dY {uri:Str} {p:Str × Str} {l:bg} {seen:List Str} (h:(p.1==uri && !seen.contains p.2)=false):bx uri (p::l) seen=bx uri l (p.2::seen):=by
 show (if (p.1==uri && !seen.contains p.2)=true then _ else _)=_
 rw [h];rfl
theorem hM {uri:Str} {p:Str × Str} {l:bg} {seen:List Str} (h:(p.1==uri && !seen.contains p.2)=true):bx uri (p::l) seen=some p.2:=by
 show (if (p.1==uri && !seen.contains p.2)=true then _ else _)=_
 rw [h];rfl
noncomputable def aD (fr:List (Addr × bg)):bg:=fr.reverse.flatMap (·.2)
noncomputable def wt (fr:List (Addr × bg)):List (Addr × List LV):=fr.map λp=>(p.1,p.2.map iE)
theorem t5 (fr:List (Addr × bg)):cE (wt fr)=(aD fr).map iE:=by
 unfold cE wt aD;rw [<-List.map_reverse,List.flatMap_map,List.map_flatMap]
noncomputable abbrev zF:List Stmt:=bG (b0 3)
noncomputable abbrev gX:Stmt:=bw zF 2
noncomputable abbrev pR (c:Cx):Env:=envOf (ofString "C14NWriterTarget._qname") (aE (b0 3)) c.L 144 (.ref 143)
structure yH (le:ak) (W:f8) (uri tag:Str) (seen:Addr):Prop where
 self:le.lookup (ofString "self")=some (.loc W.x)
 uri:le.lookup (ofString "uri")=some (.str uri)
 tag:le.lookup (ofString "tag")=some (.str tag)
 seen:le.lookup (ofString "prefixes_seen")=some (.loc seen)
theorem yH.set {le:ak} {W:f8} {uri tag:Str} {q:Addr} (h:yH le W uri tag q) (x:Str) (v:LV) (h1:(ofString "self"=x)=False) (h2:(ofString "uri"=x)=False) (h3:(ofString "tag"=x)=False) (h4:(ofString "prefixes_seen"=x)=False):yH (an x v le) W uri tag q :=
 ⟨by rw [ag,if_neg (by rw [h1];exact id)];exact h.self,by rw [ag,if_neg (by rw [h2];exact id)];exact h.uri,by rw [ag,if_neg (by rw [h3];exact id)];exact h.tag,by rw [ag,if_neg (by rw [h4];exact id)];exact h.seen⟩
noncomputable def gr (p tag uri:Str):LV:=.tup [.str (p++ofString ":"++tag),.str tag,.str uri]
structure zR (l:bg) (uri tag:Str):Prop where
 each:∀ p∈l,p.2.length<=100/\p.2.length≠0
 tag:tag.length<=100
theorem ay (a b:Str):(a++b).length=a.length+b.length:=by
 show (a.cps++b.cps).size=_;simp [Str.length]
theorem ff {x y:Str} {p a b:Nat} (h:x.length<=p+a) (k:y.length<=b):(x++y).length<=p+(a+b):=by
 rw [ay,<-Nat.add_assoc];exact Nat.add_le_add h k
theorem oa {x y p a b:Nat} (h:x<=p+a) (k:y<=b) (hp:p<=900000) (e:Nat.ble (a+b) 100000=true):x+y<=1000000 :=
 Nat.le_trans (Nat.add_le_add h k) (by rw [Nat.add_assoc];exact Nat.add_le_add hp (Nat.le_of_ble_eq_true e))
theorem empty_append (a:Str):Str.empty++a=a:=by
 show (⟨#[]++a.cps⟩:Str)=a;simp
theorem yl {c:Cx} {W:f8} {uri tag:Str} {q:Addr} {σ1:aa} {Z:aa->Prop} {K:LF->ak->aa->Prop} (all:bg) (sh:zR all uri tag)
   (hZ:∀ σ,(∀ p∈σ1,p.1≠q->p∈σ)->σ.map (·.1)=σ1.map (·.1)->Z σ)
   (l:bg):∀ (pre:bg) (le:ak) (σ:aa) (seen:List Str) (f:Str->Bool) (m:Nat),all=pre++l->yH le W uri tag q->(q,.raw (g6 c.w f m))∈σ->(∀ p∈σ1,p.1≠q->p∈σ)->σ.map (·.1)=σ1.map (·.1)->(∀ k,f k=seen.contains k)->m+l.length<=3000 ->
   (∀ p le' σ',bx uri l seen=some p->(∀ p∈σ1,p.1≠q->p∈σ')->K (.ret (gr p tag uri)) le' σ') ->
   (∀ le' σ',bx uri l seen=none->yH le' W uri tag q->(∀ p∈σ1,p.1≠q->p∈σ')->K .next le' σ') ->
   cW 5 c (fu gX) (cy gX) (fq gX) (pR c) Z K (l.map iE) le σ:=by
 induction l with
 | nil =>
   intro pre le σ seen f m hall hle hq hk hkeys hf hm k1 k2;exact ⟨hZ σ hk hkeys,aw (k2 le σ rfl hle hk)⟩
 | cons p l ih =>
   intro pre le σ seen f m hall hle hq hk hkeys hf hm k1 k2;refine ⟨hZ σ hk hkeys,iU ?_⟩;have hpl:=sh.each p (by rw [hall];simp)
   have h1:=(hle.set (ofString "u") (.str p.1) (by decide) (by decide) (by decide) (by decide)).set (ofString "prefix") (.str p.2) (by decide) (by decide) (by decide) (by decide)
   have hu:(an (ofString "prefix") (.str p.2) (an (ofString "u") (.str p.1) le)).lookup (ofString "u")=some (.str p.1):=by rw [ag,if_neg (by decide),ag,if_pos rfl]
   have hp:(an (ofString "prefix") (.str p.2) (an (ofString "u") (.str p.1) le)).lookup (ofString "prefix")=some (.str p.2):=by rw [ag,if_pos rfl]
   generalize an (ofString "prefix") (.str p.2) (an (ofString "u") (.str p.1) le)=le1 at h1 hu hp;have go:bx uri (p::l) seen=bx uri l (p.2::seen)->WF 5 c (execs [bw (cy gX) 1] (pR c)) le1 σ λf le2 σ2=>match f with
       | .next=>cW 5 c (fu gX) (cy gX) (fq gX) (pR c) Z K (l.map iE) le2 σ2
       | .cont=>cW 5 c (fu gX) (cy gX) (fq gX) (pR c) Z K (l.map iE) le2 σ2
       | .brk=>K .next le2 σ2
       | .ret v=>K (.ret v) le2 σ2:=by
     intro e;refine aH (Up.ex (o':=.raw (g6 c.w (λk'=>f k' || decide (k'=p.2)) (if f p.2 then m else m+1))) hq) λσ2 u=>?_
     refine ae (a8 (aG (ac h1.seen (rQ hq (af (ac hp (am (su u (by simp at hm;exact yG hm rfl) ⟨trivial,?_⟩))))))))
     refine aw ?_;refine ih (pre++[p]) le1 σ2 (p.2::seen) (λk'=>f k' || decide (k'=p.2)) (if f p.2 then m else m+1) (by rw [hall];simp) h1 u.new (λr hr hne=>u.old (hk r hr hne) hne) (u.keys.trans hkeys) (λk=>?_) ?_ (λp' le' σ' e'=>k1 p' le' σ' (e ▸ e')) (λle' σ' e'=>k2 le' σ' (e ▸ e'))
     . rw [hf,List.contains_cons];by_cases hkp:k=p.2
       . subst hkp;simp
       . simp [hkp]
     . have:(if f p.2 then m else m+1)<=m+1:=by split<;>lia
       simp at hm;lia
   refine ae (bD (cQ (aA (ac hu (ac h1.uri (rJ ⟨_,rfl,?_⟩))))));cases he:(p.1==uri) with
   | false =>
     refine aw ?_;exact go (dY (by rw [he];rfl))
   | true =>
     refine cQ (aA (ac hp (ac h1.seen (oe hq ⟨_,rfl,?_⟩))));rw [hf];cases hs:(!seen.contains p.2) with
     | false =>
       refine aw ?_;exact go (dY (by rw [he,hs];rfl))
     | true =>
       refine fW ?_;refine ae (bE (bQ (af (eJ (bo (ac hp (oq (AZ hpl rfl) ?_)))))));have e0:(p.2.length != 0)=true:=by simpa using hpl.2
       have e1:=sh.tag;have e2:(ofString ":").length=1:=by decide +kernel
       rw [e0,if_pos rfl];refine fG (fZ (ac hp ⟨p.2,rfl,AZ hpl rfl,by rw [empty_append];exact AZ hpl rfl,?_⟩))
       rw [empty_append];refine dJ (by rw [ay];lia) ?_
       refine fZ (ac h1.tag ⟨tag,rfl,J1 e1 rfl,by rw [ay,ay];exact B0 hpl e2 e1,?_⟩)
       refine l7 (by rw [ay,ay];exact B0 hpl e2 e1) ?_
       refine af (ac h1.tag (af (ac h1.uri (am ⟨av (by simp),?_⟩))))
       exact k1 p.2 le1 σ (hM (by rw [he,hs];rfl)) hk
theorem WS.mono {W:f8} {fr:List (Addr × bg)} {pm:bg} {page data:List Str} {k:Nat} {seen done:LV} {σ σ':aa} (ws:WS W fr pm page data k seen done σ) (h:∀ q∈σ,q∈σ'):WS W fr pm page data k seen done σ' :=
 ⟨h _ ws.inst,h _ ws.dict,h _ ws.page,h _ ws.data,h _ ws.dcl,λp hp=>h _ (ws.each p hp),ap ws.nss λl e x=>⟨l,e,h _ x⟩,h _ ws.pm,h _ ws.ps,ws.ad⟩
theorem zT {l:List Addr} (nd:l.Nodup) {i j:Nat} {a b:Addr} (hi:l[i]?=some a) (hj:l[j]?=some b) (hij:i≠j):a≠b:=by
 rintro rfl;refine aH (List.getElem?_eq_some_iff.mp hi) λh1 e1=>?_;refine aH (List.getElem?_eq_some_iff.mp hj) λh2 e2=>?_;have pw:=List.pairwise_iff_getElem.mp nd;refine Or.elim (Nat.lt_or_gt_of_ne hij) (λh=>?_) λh=>?_
 . exact pw i j h1 h2 h (e1.trans e2.symm)
 . exact pw j i h2 h1 h (e2.trans e1.symm)
section
variable {W:f8} {fr:List (Addr × bg)} {pm:bg} {page data:List Str} {k:Nat} {seen done:LV} {σ σ':aa}
theorem WS.ne (ws:WS W fr pm page data k seen done σ) {i j:Nat} {a b:Addr} (hi:(WL W)[i]?=some a) (hj:(WL W)[j]?=some b) (hij:i≠j):a≠b :=
 zT (List.nodup_append.mp ws.ad).1 hi hj hij
theorem WS.frne (ws:WS W fr pm page data k seen done σ) {p:Addr × bg} (hp:p∈fr) {i:Nat} {b:Addr} (hi:(WL W)[i]?=some b):p.1≠b:=λe =>
 (List.nodup_append.mp ws.ad).2.2 b (List.mem_of_getElem? hi) p.1 (List.mem_map.mpr ⟨p,hp,rfl⟩) e.symm
theorem WS.upPm (ws:WS W fr pm page data k seen done σ) {pm':bg} {o:LO} (u:Up W.pm o (.dict (pm'.map λp=>(p.1,.str p.2))) σ σ'):WS W fr pm' page data k seen done σ' :=
 ⟨u.old ws.inst (ws.ne (i:=0) (j:=6) rfl rfl (by decide)),u.old ws.dict (ws.ne (i:=1) (j:=6) rfl rfl (by decide)),u.old ws.page (ws.ne (i:=2) (j:=6) rfl rfl (by decide)),u.old ws.data (ws.ne (i:=3) (j:=6) rfl rfl (by decide)),
  u.old ws.dcl (ws.ne (i:=4) (j:=6) rfl rfl (by decide)),λp hp=>u.old (ws.each p hp) (ws.frne hp (i:=6) rfl),ap ws.nss λl e x=>⟨l,e,u.old x (ws.ne (i:=5) (j:=6) rfl rfl (by decide))⟩,u.new,u.old ws.ps (ws.ne (i:=7) (j:=6) rfl rfl (by decide)),ws.ad⟩
theorem WS.upPage (ws:WS W fr pm page data k seen done σ) {page':List Str} {o:LO} (u:Up W.pg o (.list (page'.map .str)) σ σ'):WS W fr pm page' data k seen done σ' :=
 ⟨u.old ws.inst (ws.ne (i:=0) (j:=2) rfl rfl (by decide)),u.old ws.dict (ws.ne (i:=1) (j:=2) rfl rfl (by decide)),u.new,u.old ws.data (ws.ne (i:=3) (j:=2) rfl rfl (by decide)),
  u.old ws.dcl (ws.ne (i:=4) (j:=2) rfl rfl (by decide)),λp hp=>u.old (ws.each p hp) (ws.frne hp (i:=2) rfl),ap ws.nss λl e x=>⟨l,e,u.old x (ws.ne (i:=5) (j:=2) rfl rfl (by decide))⟩,u.old ws.pm (ws.ne (i:=6) (j:=2) rfl rfl (by decide)),u.old ws.ps (ws.ne (i:=7) (j:=2) rfl rfl (by decide)),ws.ad⟩
theorem WS.upData (ws:WS W fr pm page data k seen done σ) {data':List Str} {o:LO} (u:Up W.dt o (.list (data'.map .str)) σ σ'):WS W fr pm page data' k seen done σ' :=
 ⟨u.old ws.inst (ws.ne (i:=0) (j:=3) rfl rfl (by decide)),u.old ws.dict (ws.ne (i:=1) (j:=3) rfl rfl (by decide)),u.old ws.page (ws.ne (i:=2) (j:=3) rfl rfl (by decide)),u.new,
  u.old ws.dcl (ws.ne (i:=4) (j:=3) rfl rfl (by decide)),λp hp=>u.old (ws.each p hp) (ws.frne hp (i:=3) rfl),ap ws.nss λl e x=>⟨l,e,u.old x (ws.ne (i:=5) (j:=3) rfl rfl (by decide))⟩,u.old ws.pm (ws.ne (i:=6) (j:=3) rfl rfl (by decide)),u.old ws.ps (ws.ne (i:=7) (j:=3) rfl rfl (by decide)),ws.ad⟩
theorem WS.upFrame {fr0:List (Addr × bg)} {a:Addr} {l l':bg} (ws:WS W (fr0++[(a,l)]) pm page data k seen done σ) {o:LO} (u:Up a o (.list (l'.map iE)) σ σ'):WS W (fr0++[(a,l')]) pm page data k seen done σ':=by
 have hm:(a,l)∈fr0++[(a,l)]:=by simp
 have hne:∀ p∈fr0,p.1≠a:=λp hp e=>by
   have h:=(List.nodup_append.mp ws.ad).2.1;rw [List.map_append,List.nodup_append] at h;exact h.2.2 p.1 (List.mem_map.mpr ⟨p,hp,rfl⟩) a (.head _) e
 refine ⟨u.old ws.inst (Ne.symm (ws.frne hm (i:=0) rfl)),u.old ws.dict (Ne.symm (ws.frne hm (i:=1) rfl)),u.old ws.page (Ne.symm (ws.frne hm (i:=2) rfl)),u.old ws.data (Ne.symm (ws.frne hm (i:=3) rfl)),?_,λp hp=>?_,ap ws.nss λl e x=>⟨l,e,u.old x (Ne.symm (ws.frne hm (i:=5) rfl))⟩,u.old ws.pm (Ne.symm (ws.frne hm (i:=6) rfl)),u.old ws.ps (Ne.symm (ws.frne hm (i:=7) rfl)),?_⟩
 . have:=u.old ws.dcl (Ne.symm (ws.frne hm (i:=4) rfl));simpa using this
 . refine Or.elim (List.mem_append.mp hp) (λhp=>?_) λhp=>?_
   . exact u.old (ws.each p (List.mem_append_left _ hp)) (hne p hp)
   . rw [List.mem_singleton] at hp;subst hp;exact u.new
 . have:=ws.ad;simpa using this
end
theorem cH {n:Nat} {c:Cx} {t:Sem Flow} {le:ak} {σ:aa} {K:LV->aa->Prop} (h:WF n c t le σ λf _ σ'=>K f.val σ'):WF n c t le σ λf _ σ'=>∃ σ'',kG σ'' σ'/\K f.val σ'':=λA hA tmp s S =>
 wpAny_mono (h A hA tmp s S) (by intro f s' z0_;refine f9 z0_ λlf le' σ' r S' k=>?_;exact (⟨lf,le',σ',r,S',σ',⟨λ_ h=>h,S'.nd⟩,k⟩)) λ_ _ x=>x
theorem aY {n:Nat} {c:Cx} {le:ak} {σ:aa} {env:Env} {x d:Addr} {fs:List (Str × LV)} {o:Expr} {name:Str} {pos:Pos} {lv:LV} {K:LV->aa->Prop} (ho:WV n c (eval o env) le σ λv σ1=>v=.loc x/\σ1=σ) (hx:(x,.inst d)∈σ) (hd:(d,.dict fs)∈σ) (hf:fs.lookup name=some lv)
   (ha:findIn (KF c.w.params) (.ref 204) name=some none) (h:K lv σ) (hg:plainGet (KF c.w.params) 204 name=true) (hv:∀ h v,RV h lv v->handedIn v=true:=by exact RV.handed rfl)
   (he:eval (.Attribute o name pos) env=(do
     let o' <-eval o env
     standAt pos.atName
     let r <-holding [o'] (getAttr o' name true)
     letTemporaryGo o o' r
     pure r):=by kernel_rfl!):WV n c (eval (.Attribute o name pos) env) le σ K :=
 kD (ho.mono λv σ1 hx14_=>bh hx14_ λe1 e2=>by subst e1;clear ho;subst e2;exact s9 hx hd hf ha h hg (by kernel_rfl!) hv) he
theorem bJ (P:Params):findIn (KF P) (.ref 204) (ofString "_declared_ns_stack")=some none:=by kernel_rfl!
theorem bK (P:Params):plainGet (KF P) 204 (ofString "_declared_ns_stack")=true:=by kernel_rfl!
theorem gO (P:Params):findIn (KF P) (.ref 204) (ofString "_rewrite_prefixes")=some none:=by kernel_rfl!
theorem gQ (P:Params):plainGet (KF P) 204 (ofString "_rewrite_prefixes")=true:=by kernel_rfl!
theorem dz (P:Params):findIn (KF P) (.ref 204) (ofString "_prefix_map")=some none:=by kernel_rfl!
theorem dA (P:Params):plainGet (KF P) 204 (ofString "_prefix_map")=true:=by kernel_rfl!
theorem j7 (P:Params):findIn (KF P) (.ref 204) (ofString "_data")=some none:=by kernel_rfl!
theorem j9 (P:Params):plainGet (KF P) 204 (ofString "_data")=true:=by kernel_rfl!
theorem mo (P:Params):findIn (KF P) (.ref 204) (ofString "_strip_text")=some none:=by kernel_rfl!
theorem mq (P:Params):plainGet (KF P) 204 (ofString "_strip_text")=true:=by kernel_rfl!
theorem jd (P:Params):findIn (KF P) (.ref 204) (ofString "_pending_start")=some none:=by kernel_rfl!
theorem ji (P:Params):plainGet (KF P) 204 (ofString "_pending_start")=true:=by kernel_rfl!
theorem nK (P:Params):findIn (KF P) (.ref 204) (ofString "_root_seen")=some none:=by kernel_rfl!
theorem nR (P:Params):plainGet (KF P) 204 (ofString "_root_seen")=true:=by kernel_rfl!
theorem kZ (P:Params):findIn (KF P) (.ref 204) (ofString "_write")=some none:=by kernel_rfl!
theorem lj (P:Params):plainGet (KF P) 204 (ofString "_write")=true:=by kernel_rfl!
theorem fm (P:Params):findIn (KF P) (.ref 204) (ofString "_ignored_depth")=some none:=by kernel_rfl!
theorem fw (P:Params):plainGet (KF P) 204 (ofString "_ignored_depth")=true:=by kernel_rfl!
theorem jS (P:Params):findIn (KF P) (.ref 204) (ofString "_exclude_tags")=some none:=by kernel_rfl!
theorem jU (P:Params):plainGet (KF P) 204 (ofString "_exclude_tags")=true:=by kernel_rfl!
theorem gN (P:Params):findIn (KF P) (.ref 204) (ofString "_qname_aware_tags")=some none:=by kernel_rfl!
theorem gP (P:Params):plainGet (KF P) 204 (ofString "_qname_aware_tags")=true:=by kernel_rfl!
theorem jc (P:Params):findIn (KF P) (.ref 204) (ofString "_exclude_attrs")=some none:=by kernel_rfl!
theorem jh (P:Params):plainGet (KF P) 204 (ofString "_exclude_attrs")=true:=by kernel_rfl!
theorem eM (P:Params):findIn (KF P) (.ref 204) (ofString "_find_qname_aware_attrs")=some none:=by kernel_rfl!
theorem eN (P:Params):plainGet (KF P) 204 (ofString "_find_qname_aware_attrs")=true:=by kernel_rfl!
theorem cg (P:Params):findIn (KF P) (.ref 204) (ofString "_preserve_space")=some none:=by kernel_rfl!
theorem ci (P:Params):plainGet (KF P) 204 (ofString "_preserve_space")=true:=by kernel_rfl!
theorem jz (P:Params):findIn (KF P) (.ref 204) (ofString "_ns_stack")=some none:=by kernel_rfl!
theorem jA (P:Params):plainGet (KF P) 204 (ofString "_ns_stack")=true:=by kernel_rfl!
noncomputable def dI (uri:Str) (pm:bg):Str:=match pm.lookup uri with
 | some p=>p
 | none=>ofString "n"++ofString (toString (pm.length:Int))
noncomputable def jm (uri:Str) (pm:bg):bg:=match pm.lookup uri with
 | some _=>pm
 | none=>pm++[(uri,ofString "n"++ofString (toString (pm.length:Int)))]
theorem gm (pm:bg) (u:Str):(pm.map λp=>(p.1,LV.str p.2)).lookup u=(pm.lookup u).map .str:=by
 induction pm with
 | nil=>rfl
 | cons p r ih =>
   rw [List.map_cons,List.lookup_cons,List.lookup_cons];cases u==p.1<;>simp [ih]
theorem mS (fr:List (Addr × bg)):(wt fr).map (·.1)=fr.map (·.1):=by simp [wt]
structure zG (fr:List (Addr × bg)) (pm:bg):Prop where
 each:∀ p∈aD fr,p.2.length<=100/\p.2.length≠0
 pmv:∀ p∈pm,p.2.length<=100/\p.2.length≠0
 len:(aD fr).length<=2000
 frl:∀ p∈fr,p.2.length<=2000
 pml:pm.length<=60
theorem fT {n:Nat} (h:n<=60):(ofString (toString (n:Int))).length<=10/\(n:Int).natAbs.log2 < 1920:=by
 have:∀ m:Nat,m < 61->(ofString (toString (m:Int))).length<=10/\(m:Int).natAbs.log2 < 1920:=by decide +kernel
 exact this n (zL h rfl)
theorem wR {w:World} (s:Shared) (u v:Value) (kin:(KF w.params).In s.heap) :
   BindsTo s (uX "_qname" "C14NWriterTarget._qname" (b0 3) (.ref 137) .none (.str (ofString "cpy313.xml.etree.ElementTree") 381) 143) ⟨[u,v],[]⟩ ([ofString "self",ofString "qname",ofString "uri"].zip ([u,v]++[.none])):=by
 exact kp_binds kin (λS=>by kernel_rfl!)
noncomputable def FC (n:Nat) (w:World) (a:Addr) (args:List LV) (σ:aa) (K:LV->aa->Prop):Prop:=∀ c:Cx,c.w=w->∀ le A,br n A->∀ tmp s vs,St c le σ tmp s->aK s.heap args vs ->
 codeAny (Mo c.w) A (.call (.ref a) ⟨vs,[]⟩) (λr s'=>match r with | .ok (.ret v)=>PV c le tmp K v s' | .ok _=>False | .error e=>dh e s') s
theorem FC.fs {n:Nat} {w:World} {a:Addr} {args:List LV} {σ:aa} {K:LV->aa->Prop} (h:FC n w a args σ K):FS n w a args σ K:=λc hc le A hA tmp s vs S hr=>wpAny_call (h c hc le A hA tmp s vs S hr)
theorem jL {w:World} {W:f8} {fr0:List (Addr × bg)} {a:Addr} {l pm:bg} {page data:List Str} {k:Nat} {seen done:LV} {σ:aa} {us:List Nat} {t:Nat} {K:LV->aa->Prop} (ws:WS W (fr0++[(a,l)]) pm page data k seen done σ)
   (hus:us.length=10) (ht:t=102\/t=114\/t=107) (fit:zG (fr0++[(a,l)]) pm)
   (h1:∀ p σ',bx (bd us) (aD (fr0++[(a,l)])) []=some p->(∀ q∈σ,q∈σ')->K (gr p (bd [t]) (bd us)) σ')
   (h2:∀ σ',bx (bd us) (aD (fr0++[(a,l)])) []=none->(∀ q∈σ,q.1≠a->q.1≠W.pm->q∈σ')->WS W (fr0++[(a,l++[(bd us,dI (bd us) pm)])]) (jm (bd us) pm) page data k seen done σ'->K (gr (dI (bd us) pm) (bd [t]) (bd us)) σ') :
   FC 6 w 144 [.loc W.x,.str (aT us t)] σ K:=by
 refine nP (kw:=[]) (names:=[ofString "self",ofString "qname",ofString "uri"]) (dl:=[.none]) (dv:=[.none]) (hK:=by exact rfl) (hc:=by decide +kernel) ?_ (λ_ _=>.cons .none .nil) (by decide) rfl (by decide +kernel) (by decide +kernel) (by decide +kernel) (by decide +kernel) (by decide +kernel) ?_
 . intro s vs kin hl;refine i4 (py hl) λu v z1_=>?_;clear hl;obtain rfl:=z1_;exact wR s u v kin
 . intro c hc;subst hc;refine cH ?_;refine bA λnd=>?_;refine ae (bD (aA (ac rfl (cb (rL ⟨_,rfl,?_⟩)))));refine ae ?_;refine g5 ?_;refine eJ ?_;refine aA ?_;refine dg ?_;refine ac rfl (iY (bP (aq ⟨_,none,some 1,rfl,rfl,rfl,?_,?_⟩)))
   . show (123::us++[125,t]).toArray.size<=1000000;rw [List.size_toArray];simp [hus]
   rw [w1 hus];refine aB (rJ ⟨_,rfl,?_⟩);rw [show (ofString "{"==ofString "{")=true from beq_self_eq_true _,if_pos rfl];refine aG ?_;refine dg ?_;refine ac rfl (bP (aq (iY ⟨_,some 1,none,rfl,rfl,rfl,?_,?_⟩)))
   . show (123::us++[125,t]).toArray.size<=1000000;rw [List.size_toArray];simp [hus]
   rw [w2 hus];refine hV F.slot_str_rsplit F.type_str_rsplit (af (aB (af (aq (am (uS (by decide +kernel) (by decide +kernel) ?_ λq hq=>?_))))))
   . show (us++[125,t]).toArray.size<=100000;rw [List.size_toArray];simp [hus]
   rw [si hus ht];refine oK (.head _) ?_;refine aw ?_;refine ae (ax (aC (be (v:=.type "set") (by kernel_rfl!) (by kernel_rfl!) (cj (am (yB λq2 hq2=>?_))))))
   have hle:yH _ W (bd us) (bd [t]) q2:=(⟨rfl,rfl,rfl,rfl⟩:yH (an (ofString "prefixes_seen") (.loc q2) (an (ofString "tag") (.str (bd [t])) (an (ofString "uri") (.str (bd us)) ([ofString "self",ofString "qname",ofString "uri"].zip ([.loc W.x,.str (aT us t)]++[.none]))))) W (bd us) (bd [t]) q2);show WF 5 c (execs _ _) (an (ofString "prefixes_seen") (.loc q2) (an (ofString "tag") (.str (bd [t])) (an (ofString "uri") (.str (bd us)) ([ofString "self",ofString "qname",ofString "uri"].zip ([.loc W.x,.str (aT us t)]++[.none]))))) _ _;generalize (an (ofString "prefixes_seen") (.loc q2) (an (ofString "tag") (.str (bd [t])) (an (ofString "uri") (.str (bd us)) ([ofString "self",ofString "qname",ofString "uri"].zip ([.loc W.x,.str (aT us t)]++[.none])))))=le1 at hle;have sub:∀ p∈σ,p∈((q2,LO.raw (g6 c.w (λ_=>false) 0))::(q,LO.list ([bd us,bd [t]].map .str))::σ):=λp hp=>.tail _ (.tail _ hp);have ws2:=ws.mono sub;have nq:∀ p∈σ,p.1≠q2:=λp hp e=>hq2 (by rw [List.map_cons];exact .tail _ (List.mem_map.mpr ⟨p,hp,e⟩))
   refine ae ?_;refine sy (n:=4) (x:=W.x) (d:=W.d) (dcl:=W.dcl) (fs:=jf W seen done) (fr:=wt (fr0++[(a,l)])) (ac hle.self ⟨rfl,rfl⟩) (aY (ac hle.self ⟨rfl,rfl⟩) ws2.inst ws2.dict rfl (bJ _) ⟨rfl,rfl⟩ (bK _)) ws2.inst ws2.dict rfl ?_ ?_ ?_
   . refine ⟨λp hp=>List.mem_map.mpr ⟨p,hp,rfl⟩,by rw [mS];exact ws2.dcl,λp hp=>?_⟩
     refine ap (List.mem_map.mp hp) λp' hp' z2_=>?_;clear hp;obtain rfl:=z2_;exact ws2.each p' hp'
   . intro p hp;refine ap (List.mem_map.mp hp) λp' hp' z3_=>?_;clear hp;obtain rfl:=z3_;have:=fit.frl p' hp';simp;exact J1 this rfl
   rw [t5];refine yl (uri:=bd us) (tag:=bd [t]) (q:=q2) (σ1:=(q2,LO.raw (g6 c.w (λ_=>false) 0))::(q,LO.list ([bd us,bd [t]].map .str))::σ) (aD (fr0++[(a,l)])) ⟨fit.each,by show ([t]:List Nat).toArray.size<=100;simp⟩ (λσ' hk hkeys=>?_) (aD (fr0++[(a,l)])) [] le1 _ [] (λ_=>false) 0 rfl hle (.head _) (λ_ h _=>h) rfl (λk=>rfl) (by have:=fit.len;lia) (λp le' σ' e hk=>?_) (λle' σ' e hle' hk=>?_)
   . refine ⟨λp hp=>by rw [<-hkeys];exact List.mem_map.mpr ⟨p,hp,rfl⟩,hk _ (by rw [mS];exact ws2.dcl) (nq (W.dcl,LO.list (((fr0++[(a,l)]).map (·.1)).map .loc)) ws.dcl),λp hp=>?_⟩
     refine ap (List.mem_map.mp hp) λp' hp' z4_=>?_;clear hp;obtain rfl:=z4_;exact hk _ (ws2.each p' hp') (nq _ (ws.each p' hp'))
   . exact h1 p σ' e λp hp=>hk p (sub p hp) (nq p hp)
   have hk1:∀ p∈σ,p∈σ':=λp hp=>hk p (sub p hp) (nq p hp);have ws3:=ws.mono hk1;have hc1:(ofString ":").length=1:=by decide +kernel
   have hnl:(ofString "n").length=1:=by decide +kernel
   have htl:(bd [t]).length=1:=rfl;have tail:∀ (KK:LF->ak->aa->Prop) (hKK:∀ v le σ,K v σ->KK (.ret v) le σ) (new:Str) (σ4:aa) (le4:ak),new=dI (bd us) pm->new.length<=100->new.length≠0->yH le4 W (bd us) (bd [t]) q2->le4.lookup (ofString "prefix")=some (.str new)->(∀ p∈σ',p.1≠W.pm->p∈σ4)->WS W (fr0++[(a,l)]) (jm (bd us) pm) page data k seen done σ4 ->
       WF 5 c (execs [bw (xH (bw zF 3)) 1,bw (xH (bw zF 3)) 2] (pR c)) le4 σ4 KK:=by
     intro KK hKK new σ4 le4 en hl1 hl0 hq4 hp4 hk4 ws4;have hd:(W.dcl,LO.list ((fr0.map λp=>LV.loc p.1)++[.loc a]))∈σ4:=by
       have:=ws4.dcl
       rwa [show ((fr0++[(a,l)]).map (·.1)).map LV.loc=(fr0.map λp=>LV.loc p.1)++[.loc a] by simp [Function.comp_def]] at this
     refine aH (Up.ex (o':=.list (l.map iE++[iE (bd us,new)])) (ws4.each (a,l) (by simp))) λσ5 u=>?_
     refine ae (a8 (aG (aV (aY (ac hq4.self ⟨rfl,rfl⟩) ws4.inst ws4.dict rfl (bJ _) (cI (aq (fg ?_))) (bK _)))));refine b8 hd ?_;refine bi u.mem F.slot_list_append F.type_list_append (af (bQ (af (ac hq4.uri (af (ac hp4 (am ⟨av (by simp),am ?_⟩)))))))
     refine bj u (av (by have:=fit.frl (a,l) (by simp);simp at this ⊢;exact J1 this rfl)) ⟨trivial,?_⟩
     refine ae (bE (bQ (af ?_)));refine fG (fZ (ac hp4 ⟨new,rfl,J1 hl1 rfl,by rw [empty_append];exact J1 hl1 rfl,?_⟩))
     rw [empty_append];refine dJ (by rw [ay];lia) ?_
     refine fZ (ac hq4.tag ⟨bd [t],rfl,u0 htl rfl,by rw [ay,ay];exact BJ hl1 hc1 htl,?_⟩)
     refine l7 (by rw [ay,ay];exact BJ hl1 hc1 htl) ?_
     refine af (ac hq4.tag (af (ac hq4.uri (am ⟨av (by simp),?_⟩))))
     have ws5:WS W (fr0++[(a,l++[(bd us,new)])]) (jm (bd us) pm) page data k seen done σ5:=ws4.upFrame (l':=l++[(bd us,new)]) (o:=.list (l.map iE)) (by rw [List.map_append];exact u)
     clear hl1 hl0 hp4;subst en;exact hKK _ _ _ (h2 σ5 e (λq hq ha hp=>u.old (hk4 q (hk1 q hq) hp) ha) ws5)
   refine ae (bD (bo (aY (ac hle'.self ⟨rfl,rfl⟩) ws3.inst ws3.dict rfl (gO _) (kx ?_) (gQ _))));refine ae (st:=bw (xH (bw zF 3)) 0) (rest:=[bw (xH (bw zF 3)) 1,bw (xH (bw zF 3)) 2]) ?_;refine bD (aA (ac hle'.uri (aY (ac hle'.self ⟨rfl,rfl⟩) ws3.inst ws3.dict rfl (dz _) (rK ws3.pm ⟨_,rfl,?_⟩) (dA _))));rw [gm];cases hlk:pm.lookup (bd us) with
   | some p =>
     have hpp:=fit.pmv _ (bR hlk);rw [show (Option.map LV.str (some p)).isSome=true from rfl,if_pos rfl];refine ae (ax (aV (aY (ac hle'.self ⟨rfl,rfl⟩) ws3.inst ws3.dict rfl (dz _) (ac hle'.uri (om ws3.pm (x:=.str p) (by rw [gm,hlk];rfl) ?_)) (dA _))))
     refine aw ?_;have e1:dI (bd us) pm=p:=by unfold dI;rw [hlk]
     have e2:jm (bd us) pm=pm:=by unfold jm;rw [hlk]
     refine tail _ (λv le σ h=>h) p σ' _ e1.symm hpp.1 hpp.2 (hle'.set (ofString "prefix") (.str p) (by decide) (by decide) (by decide) (by decide)) (by rw [ag,if_pos rfl]) (λq hq _=>hq) ?_
     rw [e2];exact ws3
   | none =>
     rw [show (Option.map LV.str (none:Option Str)).isSome=false from rfl,if_neg Bool.false_ne_true];have e1:dI (bd us) pm=ofString "n"++ofString (toString (pm.length:Int)):=by unfold dI;rw [hlk]
     have e2:jm (bd us) pm=pm++[(bd us,ofString "n"++ofString (toString (pm.length:Int)))]:=by unfold jm;rw [hlk]
     refine bh (fT fit.pml) λtl1 tl2=>?_;have hnew:(ofString "n"++ofString (toString (pm.length:Int))).length=1+(ofString (toString (pm.length:Int))).length:=by rw [ay,hnl]
     have hno:bd us∉(pm.map λp=>(p.1,LV.str p.2)).map (·.1):=by
       intro hm;rw [List.map_map] at hm;refine ap (List.mem_map.mp hm) λp hp e=>?_;have:∀ {l:bg},p∈l->l.lookup (bd us)≠none:=by
         intro l hl;induction l with
         | nil=>cases hl
         | cons r l ih =>
           rw [List.lookup_cons];cases hb:(bd us==r.1) with
           | true=>simp
           | false =>
             rcases List.mem_cons.mp hl with rfl | hl
             . rw [show p.1=bd us from e] at hb;exact absurd hb (by simp)
             . exact ih hl
       exact this hp hlk
     refine ae (sw ?_);refine fG (dJ (by rw [empty_append];exact u0 hnl rfl) ?_)
     rw [empty_append];refine yD (aC (be (v:=.builtin "len") (by kernel_rfl!) (by kernel_rfl!) (cz (af (aY (ac hle'.self ⟨rfl,rfl⟩) ws3.inst ws3.dict rfl (dz _) (am (qw ws3.pm (by have:=fit.pml;simp;exact J1 this rfl) ?_)) (dA _))))))
     rw [List.length_map];refine ⟨_,rfl,tl2,by rw [ay];exact zM hnl tl1 rfl,l7 (by rw [ay];exact zM hnl tl1 rfl) ?_⟩
     refine a9 ?_;refine aH (Up.ex (o':=.dict (ce (bd us) (.str (ofString "n"++ofString (toString (pm.length:Int)))) (pm.map λp=>(p.1,.str p.2)))) ws3.pm) λσ4 u=>?_;have q4:=hle'.set (ofString "prefix") (.str (ofString "n"++ofString (toString (pm.length:Int)))) (by decide) (by decide) (by decide) (by decide)
     refine yy (aY (ac q4.self ⟨rfl,rfl⟩) ws3.inst ws3.dict rfl (dz _) (ac q4.uri ⟨W.pm,_,bd us,σ4,rfl,rfl,u,by have:=fit.pml;simp;exact J1 this rfl,?_⟩) (dA _))
     refine aw ?_;refine tail _ (λv le σ h=>h) _ σ4 _ e1.symm (by rw [hnew];lia) (by rw [hnew];lia) q4 (by rw [ag,if_pos rfl]) (λq hq hne=>u.old hq hne) ?_
     refine ws3.upPm (pm':=jm (bd us) pm) (o:=.dict (pm.map λp=>(p.1,.str p.2))) ?_;rw [e2,List.map_append,List.map_singleton,<-dR hno];exact u
theorem r7 {w:World} {W:f8} {fr0:List (Addr × bg)} {a:Addr} {l pm:bg} {page data:List Str} {k:Nat} {seen done:LV} {σ:aa} {us:List Nat} {t:Nat} {K:LV->aa->Prop} (ws:WS W (fr0++[(a,l)]) pm page data k seen done σ)
   (hus:us.length=10) (ht:t=102\/t=114\/t=107) (fit:zG (fr0++[(a,l)]) pm)
   (h1:∀ p σ',bx (bd us) (aD (fr0++[(a,l)])) []=some p->(∀ q∈σ,q∈σ')->K (gr p (bd [t]) (bd us)) σ')
   (h2:∀ σ',bx (bd us) (aD (fr0++[(a,l)])) []=none->(∀ q∈σ,q.1≠a->q.1≠W.pm->q∈σ')->WS W (fr0++[(a,l++[(bd us,dI (bd us) pm)])]) (jm (bd us) pm) page data k seen done σ'->K (gr (dI (bd us) pm) (bd [t]) (bd us)) σ') :
   FS 6 w 144 [.loc W.x,.str (aT us t)] σ K:=(jL ws hus ht fit h1 h2).fs
noncomputable def Aq (s:Stmt):List Stmt:=(oO (some s)).2.1
section
variable {n:Nat} {c:Cx} {le:ak} {σ:aa} {env:Env}
theorem xc {body orelse:List Stmt} {h₀:ExceptHandler} {hs:List ExceptHandler} {pos:Pos} {K:LF->ak->aa->Prop} (h:WF n c (execs body env) le σ λf l σ'=>f≠.next/\K f l σ'):WF n c (exec (.Try body (h₀::hs) orelse [] pos) env) le σ K:=λA hA tmp s S =>
 wpAny_Try_except (wpAny_mono (h A hA tmp s S) (λf s1 hq32=>by
   refine qT hq32 λlf l σ' r S' ne k=>?_;cases lf with
   | next=>exact absurd rfl ne
   | brk=>cases r;exact ⟨.brk,l,σ',rfl,S',k⟩
   | cont=>cases r;exact ⟨.cont,l,σ',rfl,S',k⟩
   | ret lv=>refine ap r λv z0_ rv=>?_;clear hq32 r;obtain rfl:=z0_;exact ⟨.ret lv,l,σ',⟨v,rfl,rv⟩,S',k⟩) λ_ _ x=>x.elim)
noncomputable def b7 (y z:Str) (x:Str):Str:=if Txt.contains x y then Txt.replace x y z else x
theorem cD {x y z:Str} {k1 k2 k3:Nat} {p1 p2 p3 p4 p5 p6 p7 p8 p9 pa pb:Pos} {K:LF->ak->aa->Prop} (ht:le.lookup (ofString "text")=some (.str x)) (hyz:(y==z)=false) (hx:x.length<=10000) (hz:z.length<=14)
   (h:∀ le',le'.lookup (ofString "text")=some (.str (b7 y z x))->K .next le' σ)
   (hk:env.scope.kind=.function) (hl:env.kindOf (ofString "text")=some .local) (hL:env.locals=c.L)
   (hsw:swapsWith (.Call (.Attribute (.Name (ofString "text") p4) (ofString "replace") p5) [.Constant (.str y) k2 p6,.Constant (.str z) k3 p7] [] p8) (some (.Name (ofString "text") p9)) pa.line env=pure false)
   (he:eval (.Call (.Attribute (.Name (ofString "text") p4) (ofString "replace") p5) [.Constant (.str y) k2 p6,.Constant (.str z) k3 p7] [] p8) env=(do
     let ov <-eval (.Name (ofString "text") p4) env
     standAt p5.atName
     let (f,first) <-holding [ov] (getMethod ov (ofString "replace") (do return (<-importBound (.Name (ofString "text") p4) env).getD true))
     callWith p8 f first (backTo p8 (starEach [.Constant (.str y) k2 p6,.Constant (.str z) k3 p7] env)) [])) :
   WF n c (exec (.If (.Compare (.Constant (.str y) k1 p1) [.In] [.Name (ofString "text") p2] p3) [.Assign [.Name (ofString "text") p9] (.Call (.Attribute (.Name (ofString "text") p4) (ofString "replace") p5) [.Constant (.str y) k2 p6,.Constant (.str z) k3 p7] [] p8) pa] [] pb) env) le σ K:=by
 refine bD (aA (aB (ac ht (zk ⟨_,rfl,?_⟩) hk hl hL)));unfold b7 at h;cases hc:Txt.contains x y with
 | true =>
   rw [hc] at h;refine ae (ax (aG (ac ht (rP hyz (J1 hx rfl) hz ?_) hk hl hL) he) hk hl hL hsw);exact aw (h _ (by rw [ag,if_pos rfl];rfl))
 | false =>
   rw [hc] at h;exact aw (h _ ht)
end
noncomputable def fk (x:Str):Str:=b7 (ofString "\r") (ofString "&#xD;") (b7 (ofString ">") (ofString "&gt;") (b7 (ofString "<") (ofString "&lt;") (b7 (ofString "&") (ofString "&amp;") x)))
noncomputable def o6 (x:Str):Str:=b7 (ofString "\r") (ofString "&#xD;") (b7 (ofString "\n") (ofString "&#xA;") (b7 (ofString "\t") (ofString "&#x9;") (b7 (ofString "\"") (ofString "&quot;") (b7 (ofString "<") (ofString "&lt;") (b7 (ofString "&") (ofString "&amp;") x)))))
noncomputable abbrev zY:List Stmt:=Aq (bw (bG (bu 32)) 0)
noncomputable abbrev y5:List Stmt:=Aq (bw (bG (bu 33)) 0)
theorem uH {w:World} {x:Str} {σ:aa} {K:LV->aa->Prop} (l0:x.length<=10000) (l1:(b7 (ofString "&") (ofString "&amp;") x).length<=10000) (l2:(b7 (ofString "<") (ofString "&lt;") (b7 (ofString "&") (ofString "&amp;") x)).length<=10000)
   (l3:(b7 (ofString ">") (ofString "&gt;") (b7 (ofString "<") (ofString "&lt;") (b7 (ofString "&") (ofString "&amp;") x))).length<=10000) (h:K (.str (fk x)) σ):FS 2 w 215 [.str x] σ K:=by
 refine dw (names:=[ofString "text"]) (dl:=[]) (dv:=[]) (hK:=by exact rfl) (hc:=by decide +kernel) ?_ (λ_ _=>.nil) (by decide) rfl (by decide +kernel) (by decide +kernel) (by decide +kernel) (by decide +kernel) (by decide +kernel) ?_
 . intro s vs _ hl;refine aH (lz hl) λv z1_=>?_;clear hl;obtain rfl:=z1_;exact BindsTo.of_eq (by kernel_rfl!)
 . intro c hc;refine cH ?_;refine ae (st:=bw (bG (bu 32)) 0) (rest:=[]) ?_;refine xc ?_;refine ae (st:=bw zY 0) ?_;refine cD rfl (by decide +kernel) l0 (by decide +kernel) (λle1 h1=>?_) rfl rfl rfl rfl (by kernel_rfl!)
   refine ae (st:=bw zY 1) ?_;refine cD h1 (by decide +kernel) l1 (by decide +kernel) (λle2 h2=>?_) rfl rfl rfl rfl (by kernel_rfl!)
   refine ae (st:=bw zY 2) ?_;refine cD h2 (by decide +kernel) l2 (by decide +kernel) (λle3 h3=>?_) rfl rfl rfl rfl (by kernel_rfl!)
   refine ae (st:=bw zY 3) ?_;refine cD h3 (by decide +kernel) l3 (by decide +kernel) (λle4 h4=>?_) rfl rfl rfl rfl (by kernel_rfl!)
   refine ae (st:=bw zY 4) (rest:=[]) ?_;refine bE (ac h4 ⟨by simp,?_⟩)
   exact h
theorem uG {w:World} {x:Str} {σ:aa} {K:LV->aa->Prop} (l0:x.length<=10000) (l1:(b7 (ofString "&") (ofString "&amp;") x).length<=10000) (l2:(b7 (ofString "<") (ofString "&lt;") (b7 (ofString "&") (ofString "&amp;") x)).length<=10000) (l3:(b7 (ofString "\"") (ofString "&quot;") (b7 (ofString "<") (ofString "&lt;") (b7 (ofString "&") (ofString "&amp;") x))).length<=10000) (l4:(b7 (ofString "\t") (ofString "&#x9;") (b7 (ofString "\"") (ofString "&quot;") (b7 (ofString "<") (ofString "&lt;") (b7 (ofString "&") (ofString "&amp;") x)))).length<=10000) (l5:(b7 (ofString "\n") (ofString "&#xA;") (b7 (ofString "\t") (ofString "&#x9;") (b7 (ofString "\"") (ofString "&quot;") (b7 (ofString "<") (ofString "&lt;") (b7 (ofString "&") (ofString "&amp;") x))))).length<=10000) (h:K (.str (o6 x)) σ):FS 2 w 222 [.str x] σ K:=by
 refine dw (names:=[ofString "text"]) (dl:=[]) (dv:=[]) (hK:=by exact rfl) (hc:=by decide +kernel) ?_ (λ_ _=>.nil) (by decide) rfl (by decide +kernel) (by decide +kernel) (by decide +kernel) (by decide +kernel) (by decide +kernel) ?_
 . intro s vs _ hl;refine aH (lz hl) λv z2_=>?_;clear hl;obtain rfl:=z2_;exact BindsTo.of_eq (by kernel_rfl!)
 . intro c hc;refine cH ?_;refine ae (st:=bw (bG (bu 33)) 0) (rest:=[]) ?_;refine xc ?_;refine ae (st:=bw y5 0) ?_;refine cD rfl (by decide +kernel) l0 (by decide +kernel) (λle1 h1=>?_) rfl rfl rfl rfl (by kernel_rfl!)
   refine ae (st:=bw y5 1) ?_;refine cD h1 (by decide +kernel) l1 (by decide +kernel) (λle2 h2=>?_) rfl rfl rfl rfl (by kernel_rfl!)
   refine ae (st:=bw y5 2) ?_;refine cD h2 (by decide +kernel) l2 (by decide +kernel) (λle3 h3=>?_) rfl rfl rfl rfl (by kernel_rfl!)
   refine ae (st:=bw y5 3) ?_;refine cD h3 (by decide +kernel) l3 (by decide +kernel) (λle4 h4=>?_) rfl rfl rfl rfl (by kernel_rfl!)
   refine ae (st:=bw y5 4) ?_;refine cD h4 (by decide +kernel) l4 (by decide +kernel) (λle5 h5=>?_) rfl rfl rfl rfl (by kernel_rfl!)
   refine ae (st:=bw y5 5) ?_;refine cD h5 (by decide +kernel) l5 (by decide +kernel) (λle6 h6=>?_) rfl rfl rfl rfl (by kernel_rfl!)
   refine ae (st:=bw y5 6) (rest:=[]) ?_;refine bE (ac h6 ⟨by simp,?_⟩)
   exact h
theorem mi {w:World} {A:Around} {E:Value->Shared->Prop} {s:Shared} {u:Addr} {id:String} {B:Builtin} {v:Value} {vs:List Value} {Q:Value->Shared->Prop} {S:PySem.Spec} (ho:s.heap.get? u=some (eR id v))
   (hc:Looks (model pg w) s.heap (checkBoundCall id ⟨v::vs,[]⟩) ()) (hp:plainId id=true) (he:entryFor table id=some B) (g:Meets (B ⟨v::vs,[]⟩) S) (h:S A (wants Q E) s):wpAny (model pg w) A (call (.ref u) vs) Q E s:=by
 refine wpAny_call (codeAny_of_tree ?_);show wpAny _ A.in1 (callAny (.ref u) ⟨vs,[]⟩) _ _ s;simp -iota only [callAny];refine wpAny_bind (wpAny_load ho ?_);simp -iota only [show (Value.type "builtin_function_or_method"==Value.type "method" || Value.type "builtin_function_or_method"==Value.type "builtin_function_or_method" || Value.type "builtin_function_or_method"==Value.type "method-wrapper")=true by decide,if_true]
 show wpAny _ _ (if (Value.type "builtin_function_or_method" != Value.type "method")=true then _ else _) _ _ s
 rw [if_pos (by decide)]
 refine wpAny_bind (hc.here ?_);refine wpAny_bind (wpAny_pure (wpAny_pure ?_));show (Code.builtin id ⟨v::vs,[]⟩).quiet=true/\codeAny _ _ (Code.builtin id ⟨v::vs,[]⟩) _ _;refine ⟨plainId_quiet hp _,codeAny_builtin he ?_⟩;rw [Around.under_plainId hp _];exact g pg w A (wants Q E) s h
section
variable {n:Nat} {c:Cx} {le:ak} {σ:aa} {env:Env}
theorem rp {M:Model} {h:Heap} {α:Type} {t:Sem α} {a:α} (e:t=pure a):Looks M h t a:=by
 intro A Q E s k q;rw [e];exact wpAny_pure q
theorem rN {args:List Expr} {K:LV->aa->Prop} (h:WA n c args env le σ λxs σ2=>∃ a ys,xs=[.loc a]/\(a,.list (ys.map .str))∈σ2/\(ys.map (·.length)).sum<=16000000/\K (.str (Txt.join (ofString "") ys)) σ2)
   (hst:(starEach args env).any (·.1)=false:=by rfl):OC n c (.val (.ref 152)) args env le σ K:=λA hA pos tmp s fv S r=>by
 obtain rfl:=RV.inv r;refine ju (id:="str.join") (v:=.str (ofString "") 529) (cN _ _ hst) (bn hst (wpAny_mono (h A hA pos _ s S) (λvs s1 hq33=>?_) λ_ _ x=>x));refine bl hq33 λxs σ1 S1 r1 y0_=>?_;refine tZ y0_ λa ys ex hm hl k=>?_;subst ex;refine ap S1.fr λm Fm _=>?_;have ho:s1.heap.get? 152=some (eR "str.join" (.str (ofString "") 529)):=(S1.bs.top.kin.keeps Fm.keep) _ _ (by exact rfl)
 refine ⟨ho,?_⟩;refine bl (aK.inv r1) λ_ _ z0_ rx r2=>?_;obtain rfl:=z0_;obtain rfl:=aK.nil_ r2;clear r1;obtain rfl:=RV.inv rx;refine bb (S1.ob _ hm) λus kk ed rs=>?_;refine ap (strsAre_values (h9 rs)) λl hv ht=>?_;clear hm rs;subst ht;have hle:(ofString "").length=0:=by decide
 have hok:(Builtin.Str.tooLong ((l.map (·.1)).toArray.foldl (·+·.length+(ofString "").length) 0))=false:=by
   have:=joinOk_of (sep:=ofString "") (ys:=l.map (·.1)) (by rw [hle];exact Bv hl rfl)
   unfold JoinOk at this
   rwa [Bool.not_eq_true'] at this
 refine wpAny_with_toks (n:=1) S1.tk ?_;refine mi ho (rp (ml _ _ _)) F.slot_str_join.plain F.entry_str_join (meets_str_join_list (ofString "") 529 a l hok) ⟨⟨_,ed,rfl,kk,by rw [hv]⟩,PySem.post_join l ⟨joinFit_length hok,λt' k' hk'=>?_⟩⟩
 exact pv (S1.toks _ hk') (.str _ _) k
end
theorem xC {w:World} {A:Around} {E:Value->Shared->Prop} {s:Shared} {a sl:Addr} {v:Value} {k:Nat} {Q:Unit->Shared->Prop} (e:s.heap.get? a=some (az [v] k)) (hs:s.heap.IsSliceOf sl .none .none .none)
   (h:∀ h',Heap.SameBut a s.heap h'->h'.get? a=some (az [] (k+1))->Q () { s with heap:=h' }):wpAny (model pg w) A (delItem (.ref a) (.ref sl)) Q E s:=by
 refine du (id hs) λos hos hcs hds=>?_;have hTs:s.TypeIs (.ref sl) "slice":=⟨os,hos,hcs⟩;refine wpAny_delItem_slot (T:="list") ⟨_,e,rfl⟩ (by decide) F.slot_list_delitem (wpAny_call_entry F.slot_list_delitem ⟨_,e,rfl⟩ F.entry_list_delitem ?_ (F.args_list_delitem_2 _ _))
 show wpAny _ _ (Builtin.List.listSubscript? (.ref sl) >>= _) _ _ s;refine wpAny_bind ?_;unfold Builtin.List.listSubscript?;refine wpAny_bind (wpAny_specialOf hTs slice_no_index ?_);simp -iota only [Option.isNone_none,if_true];refine wpAny_pure ?_;show wpAny _ _ (typeOf (.ref sl) >>= _) _ _ s;refine wpAny_bind (wpAny_typeOf hTs ?_);rw [if_neg (by decide),listSliceParts_eq]
 refine wpAny_bind (wpAny_bind (wpAny_field hos hds (x:=.none) rfl (wpAny_bind (wpAny_listPart .none ?_))));rw [if_neg (by decide)]
 refine wpAny_bind (wpAny_field hos hds (x:=.none) rfl (wpAny_bind (wpAny_listPart .none ?_)));refine wpAny_bind (wpAny_field hos hds (x:=.none) rfl (wpAny_bind (wpAny_listPart .none (wpAny_pure ?_))));refine wpAny_bind (wpAny_listItems e rfl ?_);refine wpAny_bind (wpAny_of_eq (sliceIndices_raw none none none 1 (by decide)) ?_)
 refine wpAny_bind (wpAny_rule ?_);refine wpAny_bind (listUpdate_at e rfl ?_ (by show 1<=sizeLine;decide) (by show 0<=sizeLine+1;exact Nat.zero_le _))
 refine wpAny_bind (qC ?_);refine wpAny_pure ⟨_,rfl,h _ (Heap.SameBut.update ..) ?_⟩;exact Heap.get?_update_self _ e rfl
theorem sx {n:Nat} {c:Cx} {le:ak} {σ:aa} {env:Env} {o:Expr} {p1 p2 pos:Pos} {K:LF->ak->aa->Prop}
   (h:WV n c (eval o env) le σ λv σ1=>∃ a x σ',v=.loc a/\Up a (.list [x]) (.list []) σ1 σ'/\K .next le σ') :
   WF n c (exec (.Delete [.Subscript o (.Slice none none none p1) p2] pos) env) le σ K:=λA hA tmp s S=>by
 refine wpAny_Delete (wpAny_deleteEach_cons (wpAny_delete_Subscript (wpAny_mono (h A hA tmp s S) (λvo s1 hq34=>?_) λ_ _ x=>x)));refine bb hq34 λv σ1 S1 y1_=>?_;refine f9 y1_ λa x σ' e u k=>?_;subst e;have r:=S1.tm _ (.head _);obtain rfl:=RV.inv r;refine wpAny_Slice (wpAny_pure (wpAny_pure (wpAny_pure ?_)));have S2:=(S1.push { cls:=.type "slice",data:=.fields #[.none,.none,.none] }).drop1;refine bb (S2.ob _ u.mem) λus kk ed rs=>?_;refine bl (aK.inv rs) λv _ z1_ r1 r2=>?_;obtain rfl:=z1_;clear rs;obtain rfl:=aK.nil_ r2;refine xC (v:=v) (k:=kk) ed (Heap.IsSliceOf.new ..) λh' hs e'=>wpAny_deleteEach_nil ⟨.next,le,σ',rfl,S2.upd u.upd hs λki=>⟨[],kk+1,e',.nil⟩,k⟩
theorem uE {w:World} {W:f8} {fr:List (Addr × bg)} {pm:bg} {page data:List Str} {k:Nat} {seen done:LV} {σ:aa} {x:Str} {K:LV->aa->Prop} (ws:WS W fr pm page data k seen done σ) (hl:data.length<=1000)
   (h:∀ σ',(∀ q∈σ,q.1≠W.dt->q∈σ')->WS W fr pm page (data++[x]) k seen done σ'->K .none σ'):FS 2 w 151 [.loc W.x,.str x] σ K:=by
 refine dw (names:=[ofString "self",ofString "data"]) (dl:=[]) (dv:=[]) (hK:=by exact rfl) (hc:=by decide +kernel) ?_ (λ_ _=>.nil) (by decide) rfl (by decide +kernel) (by decide +kernel) (by decide +kernel) (by decide +kernel) (by decide +kernel) ?_
 . intro s vs _ hl;refine i4 (py hl) λu v z2_=>?_;clear hl;obtain rfl:=z2_;exact BindsTo.of_eq (by kernel_rfl!)
 . intro c hc;subst hc;refine cH ?_;refine ae (bD (w7 (bo (aY (ac rfl ⟨rfl,rfl⟩) ws.inst ws.dict rfl (fm _) (wK ?_) (fw _)))));rw [show (!((0:Int) != 0))=true from rfl,if_pos rfl];refine aH (Up.ex (o':=.list (data.map .str++[.str x])) ws.data) λσ' u=>?_;refine ae (a8 (aG (aY (ac rfl ⟨rfl,rfl⟩) ws.inst ws.dict rfl (j7 _) (bi ws.data F.slot_list_append F.type_list_append (af (ac rfl (am ?_)))) (j9 _))));refine bj u (av (by simp;exact J1 hl rfl)) ⟨trivial,?_⟩
   refine aw (aw ?_);refine h σ' (λq hq hne=>u.old hq hne) (ws.upData (o:=.list (data.map .str)) ?_);rw [List.map_append];exact u
theorem v6 (x:Str):Txt.join (ofString "") [x]=x:=by
 first | rfl | kernel_rfl! | (unfold Txt.join;simp)
structure qH (x:Str):Prop where
 l0:x.length<=10000
 l1:(b7 (ofString "&") (ofString "&amp;") x).length<=10000
 l2:(b7 (ofString "<") (ofString "&lt;") (b7 (ofString "&") (ofString "&amp;") x)).length<=10000
 l3:(b7 (ofString ">") (ofString "&gt;") (b7 (ofString "<") (ofString "&lt;") (b7 (ofString "&") (ofString "&amp;") x))).length<=10000
 ne:x.length≠0
theorem r6 {w:World} {W:f8} {fr:List (Addr × bg)} {pm:bg} {page:List Str} {x:Str} {k:Nat} {done:LV} {σ:aa} {K:LV->aa->Prop} (ws:WS W fr pm page [x] k (.bool true) done σ) (ef:qH x) (hp:page.length<=100000)
   (h:∀ σ',(∀ q∈σ,q.1≠W.dt->q.1≠W.pg->q∈σ')->WS W fr pm (page++[fk x]) [] k (.bool true) done σ'->K .none σ'):FS 4 w 160 [.loc W.x] σ K:=by
 refine dw (names:=[ofString "self",ofString "_join_text"]) (dl:=[.val (.ref 152)]) (dv:=[.ref 152]) (hK:=by exact rfl) (hc:=by decide +kernel) ?_ (λ_ _=>.cons (.val rfl) .nil) (by decide) rfl (by decide +kernel) (by decide +kernel) (by decide +kernel) (by decide +kernel) (by decide +kernel) ?_
 . intro s vs kin hl;refine aH (lz hl) λu z0_=>?_;clear hl;obtain rfl:=z0_;exact kp_binds kin (λS=>by kernel_rfl!)
 . intro c hc;subst hc;refine cH ?_;refine ae (ax (aC (ac rfl (rN (af (aY (ac rfl ⟨rfl,rfl⟩) ws.inst ws.dict rfl (j7 _) (am ⟨W.dt,[x],rfl,ws.data,?_,?_⟩) (j9 _)))))))
   . have:=ef.l0;simp;exact J1 this rfl
   rw [v6];refine aH (Up.ex (o':=.list []) ws.data) λσ1 u1=>?_;refine ae (sx (aY (ac rfl ⟨rfl,rfl⟩) ws.inst ws.dict rfl (j7 _) ⟨W.dt,.str x,σ1,rfl,u1,?_⟩ (j9 _)));have ws1:=ws.upData (data':=[]) u1;refine ae (bD (cQ (bo (aY (ac rfl ⟨rfl,rfl⟩) ws1.inst ws1.dict rfl (mo _) (kx ?_) (mq _)))));refine aw ?_;refine ae (bD (aA (aY (ac rfl ⟨rfl,rfl⟩) ws1.inst ws1.dict rfl (jd _) (cb (bC ⟨_,rfl,?_⟩)) (ji _))));refine aw ?_;refine ae (bD (cQ (bo (ac rfl (oq (by have:=ef.l0;exact J1 this rfl) ?_)))))
   rw [show (x.length != 0)=true by simpa using ef.ne,if_pos rfl]
   refine cQ (bo (aY (ac rfl ⟨rfl,rfl⟩) ws1.inst ws1.dict rfl (nK _) (kx ?_) (nR _)));refine fW ?_;refine ae (a8 (aG (ac rfl (te ws1.inst ws1.dict rfl (kZ _) (db (af (aC (bO (v:=.ref 215) (by kernel_rfl!) (λ_ _=>.val rfl) (eB (by exact rfl) (af (ac rfl (am ?_)))))))) (lj _) (by kernel_rfl!)))))
   refine bW (uH ef.l0 ef.l1 ef.l2 ef.l3 ?_) (by decide)
   refine aH (Up.ex (o':=.list (page.map .str++[.str (fk x)])) ws1.page) λσ2 u2=>?_;refine am ⟨page.map .str,.str (fk x),σ2,rfl,u2,av (by simp;exact J1 hp rfl),trivial,?_⟩
   refine aw (aw ?_);refine h σ2 (λq hq h1 h2=>u2.old (u1.old hq h1) h2) (ws1.upPage (o:=.list (page.map .str)) ?_);rw [List.map_append];exact u2
section
variable {n:Nat} {c:Cx} {le:ak} {σ:aa} {env:Env}
theorem aF {x:Str} {pos:Pos} {a:Addr} {lv:LV} {K:LV->aa->Prop} (hm:(a,.cell (some lv))∈σ) (h:K lv σ) (hc:env.cells.lookup x=some a) (hl:env.kindOf x=some .cell\/env.kindOf x=some .free) (hk:env.scope.kind=.function:=by rfl)
   (hd:(x==("__debug__":Str))=false:=by decide) (hn:(x==("__classdict__":Str))=false:=by decide):WV n c (eval (.Name x pos) env) le σ K:=λA hA tmp s S=>by
 refine bl (S.ob _ hm) λo v e d r=>?_;refine Or.elim hl (λhl=>?_) λhl=>?_
 . exact wpAny_Name (wpAny_loadName_cell hk hl hc ⟨o,e,d⟩ (pv S r h)) hd
 . exact wpAny_Name (wpAny_loadName_free hk hl hc ⟨o,e,d⟩ (pv S r h) hn) hd
theorem lT {A:Around} {tmp:List bt} {s:Shared} {x:Str} {a:Addr} {y:Option LV} {lv:LV} {v:Value} {σ':aa} {Q:Unit->Shared->Prop} (S:St c le σ tmp s) (r:RV s.heap lv v) (u:Up a (.cell y) (.cell (some lv)) σ σ') (k:∀ s',St c le σ' tmp s'->Q () s')
   (hc:env.cells.lookup x=some a) (hl:env.kindOf x=some .cell) (hk:env.scope.kind=.function):wpAny (Mo c.w) A (storeName env x v) Q dh s:=by
 have hcell:∃ v₀,s.heap.IsCell a v₀:=by
   have:=S.ob _ u.mem;cases y with
   | none=>refine ap this λo e d=>?_;exact ⟨_,o,e,d⟩
   | some y=>refine bl this λo w e d _=>?_;exact ⟨_,o,e,d⟩
 refine aH hcell λv₀ hv=>?_;refine wpAny_storeName_cell hk hl hc hv λh' hx15_ hs=>ap hx15_ λo e d=>k _ (S.upd u.upd hs λki=>⟨o,v,e,d,r.keeps ki⟩)
theorem lW {x:Str} {pos:Pos} {a:Addr} {y:Option LV} {v:LV} {σ':aa} {K:ak->aa->Prop} (u:Up a (.cell y) (.cell (some v)) σ σ') (h:K le σ') (hc:env.cells.lookup x=some a) (hl:env.kindOf x=some .cell) (hk:env.scope.kind=.function:=by rfl) :
   g7 n c (.Name x pos) env v le σ K:=λA hA tmp s vx S r=>by
 rw [arm_assign_Name];exact wpAny_bind (wpAny_standAt (wpAny_bindName (lT S r u (λs' S'=>⟨_,σ',S',h⟩) hc hl hk)))
theorem cv {x:Str} {pos' pos:Pos} {value:Expr} {a:Addr} {K:LF->ak->aa->Prop} (h:WV n c (eval value env) le σ λv σ1=>∃ y σ',Up a (.cell y) (.cell (some v)) σ1 σ'/\K .next le σ')
   (hc:env.cells.lookup x=some a) (hl:env.kindOf x=some .cell) (hk:env.scope.kind=.function:=by rfl) (hs:swapsWith value (some (.Name x pos')) pos.line env=pure false:=by rfl) :
   WF n c (exec (.Assign [.Name x pos'] value pos) env) le σ K:=λA hA tmp s S =>
 wpAny_Assign_Name (wpAny_mono (h A hA tmp s S) (λv s1 hx6_=>bb hx6_ λlv σ1 S1 hy10_=>bb hy10_ λy σ' u h1 =>
   lT S1.drop1 (S1.tm _ (.head _)) u (λs' S'=>⟨.next,_,σ',rfl,S',h1⟩) hc hl hk) λ_ _ x=>x) hs
theorem bf {x:Str} {pos:Pos} {C:Addr} {l:ak} {lv:LV} {K:LV->aa->Prop} (hm:(C,.frame l)∈σ) (hv:l.lookup x=some lv) (h:K lv σ) (hL:env.locals=C) (hk:env.scope.kind=.function:=by rfl) (hl:env.kindOf x=some .local:=by rfl)
   (hd:(x==("__debug__":Str))=false:=by decide):WV n c (eval (.Name x pos) env) le σ K:=λA hA tmp s S=>by
 refine ap (S.ob _ hm) λm ns q=>?_;refine ap (q x lv hv) λv hmv r=>?_;exact wpAny_Name (wpAny_loadName_local hk hl (hL ▸ ns) hmv (pv S r h)) hd
theorem gJ {x:Str} {pos:Pos} {C:Addr} {l:ak} {v:LV} {σ':aa} {K:ak->aa->Prop} (u:Up C (.frame l) (.frame (an x v l)) σ σ') (h:K le σ') (hL:env.locals=C) (hk:env.scope.kind=.function:=by rfl) (hl:env.kindOf x=some .local:=by rfl) :
   g7 n c (.Name x pos) env v le σ K:=λA hA tmp s vx S r=>by
 rw [arm_assign_Name];refine wpAny_bind (wpAny_standAt (wpAny_bindName ?_));refine ap (S.ob _ u.mem) λm ns q=>?_;refine wpAny_storeName_local hl (hL ▸ ns) (λh' hn hs=>⟨le,σ',?_,h⟩) (by rw [hk];rfl)
 rw [hL] at hn hs;refine (S.upd u.upd hs λki=>⟨_,hn,λy lw hy=>?_⟩).toks _;rw [ag] at hy;by_cases e:y=x
 . rw [if_pos e] at hy;obtain rfl:=Option.some.inj hy;exact ⟨vx,by simp [e],r.keeps ki⟩
 . rw [if_neg e] at hy;refine ap (q y lw hy) λw hw rw=>?_;exact ⟨w,by simp [e,hw],rw.keeps ki⟩
end
theorem vn {kindOf:Str->Option NameKind} {x:Str} (hx:kindOf x=some .local):∀ (binds:List (Str × Value)) (m:Str->Option Value),(binds.map (·.1)).Nodup->bindL kindOf binds m x=match binds.lookup x with | some v=>some v | none=>m x:=by
 intro binds;induction binds with
 | nil=>exact λm _=>rfl
 | cons p r ih =>
   obtain ⟨y,v⟩:=p;intro m nd;rw [List.map_cons,List.nodup_cons] at nd;unfold bindL;rw [ih _ nd.2,List.lookup_cons];by_cases e:x=y
   . subst e;have:r.lookup x=none:=by
       cases q:r.lookup x with
       | none=>rfl
       | some w=>exact absurd (List.mem_map.mpr ⟨(x,w),bR q,rfl⟩) nd.1
     rw [this];simp [hx]
   . have:(x==y)=false:=beq_eq_false_iff_ne.mpr e;rw [this];cases r.lookup x with
     | some w=>rfl
     | none=>dsimp only;split<;>simp [e]
theorem vm {kindOf:Str->Option NameKind} {x:Str} (hx:kindOf x≠some .local):∀ (binds:List (Str × Value)) (m:Str->Option Value),(binds.map (·.1)).Nodup->bindC kindOf binds m x=match binds.lookup x with | some v=>some v | none=>m x:=by
 intro binds;induction binds with
 | nil=>exact λm _=>rfl
 | cons p r ih =>
   obtain ⟨y,v⟩:=p;intro m nd;rw [List.map_cons,List.nodup_cons] at nd;unfold bindC;rw [ih _ nd.2,List.lookup_cons];by_cases e:x=y
   . subst e;have:r.lookup x=none:=by
       cases q:r.lookup x with
       | none=>rfl
       | some w=>exact absurd (List.mem_map.mpr ⟨(x,w),bR q,rfl⟩) nd.1
     rw [this];simp [hx]
   . have:(x==y)=false:=beq_eq_false_iff_ne.mpr e;rw [this];cases r.lookup x with
     | some w=>rfl
     | none=>dsimp only;split<;>simp [e]
noncomputable def fJ:Addr->List (Str × Option LV)->aa
 | _,[]=>[]
 | a,p::r=>(a,.cell p.2)::fJ (a+1) r
noncomputable def oV:Addr->List (Str × Option LV)->List (Str × Addr)
 | _,[]=>[]
 | a,p::r=>(p.1,a)::oV (a+1) r
theorem i6 {a:Addr} {l:List (Str × Option LV)} {p:Addr × LO} (h:p∈fJ a l):a<=p.1:=by
 induction l generalizing a with
 | nil=>cases h
 | cons q r ih =>
   rcases List.mem_cons.mp h with rfl | h
   . exact Nat.le_refl _
   . exact Nat.le_of_succ_le (ih h)
theorem tO {a:Addr} {l:List (Str × Option LV)}:((fJ a l).map (·.1)).Nodup:=by
 induction l generalizing a with
 | nil=>exact .nil
 | cons q r ih =>
   refine List.nodup_cons.mpr ⟨λh=>?_,ih⟩;refine ap (List.mem_map.mp h) λp hp e=>?_;have:=i6 hp;rw [e] at this;exact Nat.not_succ_le_self _ this
theorem tN {a:Addr} {l:List (Str × Option LV)} {p:Addr × LO} (h:p∈fJ a l):∃ nm x,(nm,x)∈l/\p.2=.cell x/\(nm,p.1)∈oV a l:=by
 induction l generalizing a with
 | nil=>cases h
 | cons q r ih =>
   rcases List.mem_cons.mp h with rfl | h
   . exact ⟨q.1,q.2,.head _,rfl,.head _⟩
   . refine bl (ih h) λnm x h1 h2 h3=>?_;exact ⟨nm,x,.tail _ h1,h2,.tail _ h3⟩
section
variable {n:Nat} {c:Cx} {le:ak} {σ:aa} {env:Env}
noncomputable def WR (n:Nat) (c:Cx) (t:Sem PySem.Fin) (cd:Code) (le:ak) (σ:aa) (K:ak->aa->Prop):Prop :=
 ∀ A,br n A->∀ tmp s,St c le σ tmp s->wpAny (Mo c.w) A t (λfin s'=>fin=.again cd/\∃ le' σ',St c le' σ' tmp s'/\K le' σ') dh s
noncomputable def Cp (n:Nat) (c:Cx) (t:Sem PySem.Fin) (cd:Code) (K:ak->aa->Prop):ak->aa->Prop:=λle σ=>WR n c t cd le σ K
noncomputable def CL (n:Nat) (c:Cx) (target:Expr) (env:Env) (rest:Sem PySem.Fin) (cd:Code) (Z:aa->Prop) (K:ak->aa->Prop):List LV->ak->aa->Prop
 | [],le,σ=>Z σ/\K le σ
 | x::xs,le,σ=>Z σ/\g7 n c target env x le σ (Cp n c rest cd (CL n c target env rest cd Z K xs))
theorem kQ {target:Expr} {rest:Sem PySem.Fin} {e:Expr} {d:Nat} {it acc:Value} {p:Pos} {J:Nat->List bt} {items:List LV} {Z:aa->Prop} {K:ak->aa->Prop} {A:Around} {tmp:List bt} (hA:br n A) (N:NX n c target it J items Z)
   (hturn:compTurn e d it acc env=(standAt p >>= λ_=>pyNext it >>= λr=>match r with
     | none=>pure (.done .next)
     | some v=>letOwnedTupleGo target it v >>= λ_=>assign target env v >>= λ_=>rest)) (hfr:(Code.compLoop e d it acc env).isFrame=false) (hq:(Code.compLoop e d it acc env).quiet=true)
   (hu:∀ A:Around,A.under (.compLoop e d it acc env)=A) :
   ∀ (k:Nat) (s:Shared),(k<=items.length/\∃ le σ,St c le σ (J (items.length - k)++tmp) s/\CL n c target env rest (.compLoop e d it acc env) Z K (items.drop (items.length - k)) le σ) ->
     codeAny (Mo c.w) A (.compLoop e d it acc env) (λr s'=>r=.ok .next/\∃ le' σ',St c le' σ' tmp s'/\K le' σ') s:=by
 intro k s h;refine codeAny_loop' hq (λk s=>k<=items.length/\∃ le σ,St c le σ (J (items.length - k)++tmp) s/\CL n c target env rest (.compLoop e d it acc env) Z K (items.drop (items.length - k)) le σ) (λk s hq35=>?_) k h;refine bh hq35 λhk y0_=>?_;refine bb y0_ λle σ S L=>?_;rw [hu];show wpAny _ A (if (Code.compLoop e d it acc env).isFrame=true then (compTurn e d it acc env).onRaise (leaving env) else (compTurn e d it acc env).onRaise (λx=>do noteFrame x env;theTreesLotGoes x)) _ _ s
 rw [hfr,if_neg Bool.false_ne_true];refine wpAny_onRaise (wpAny_mono (Q:=λfin s'=>match fin with
       | .done f=>(f=.next/\∃ le' σ',St c le' σ' tmp s'/\K le' σ')
       | .again c'=>(c'=(Code.compLoop e d it acc env)/\∃ m,m < k/\m<=items.length/\∃ le σ,St c le σ (J (items.length - m)++tmp) s'/\CL n c target env rest (.compLoop e d it acc env) Z K (items.drop (items.length - m)) le σ)) (E:=dh) ?_ (λfin s' h=>?_) λ_ _ x=>x.elim)
 . rw [hturn];refine wpAny_bind (wpAny_standAt (wpAny_bind ?_));cases k with
   | zero =>
     rw [Nat.sub_zero] at S L;rw [List.drop_length] at L;refine bh L λz w=>?_;refine wpAny_mono (N.done A hA le σ tmp s z S) (λr s1 hq36=>?_) λ_ _ x=>x.elim;refine bh hq36 λe S1=>?_;clear hq36;subst e;exact wpAny_pure ⟨rfl,le,σ,S1,w⟩
   | succ k =>
     have hi:items.length - (k+1) < items.length:=J6 hk;have e:items.drop (items.length - (k+1))=items[items.length - (k+1)]::items.drop (items.length - k):=by
       rw [List.drop_eq_getElem_cons hi];congr 2;exact J7 hk
     rw [e] at L;refine bh L λz w=>?_;refine wpAny_mono (N.item _ _ (List.getElem?_eq_getElem hi) A hA le σ tmp s z S) (λr s1 hx16_=>ap hx16_ λv er h1=>?_) λ_ _ x=>x.elim;subst er;refine wpAny_bind (wpAny_mono h1 (λ_ s2 S2=>?_) λ_ _ x=>x.elim);have rv:=S2.tm _ (.head _);refine wpAny_bind (wpAny_mono (w A hA _ s2 v S2.drop1 rv) (λ_ s3 hq37=>?_) λ_ _ x=>x.elim);refine bb hq37 λle3 σ3 S3 h3=>?_;refine wpAny_mono (h3 A hA _ s3 S3) (λf s4 hq38=>?_) λ_ _ x=>x.elim;refine bh hq38 λef y1_=>?_;refine bb y1_ λle4 σ4 S4 h4=>?_;subst ef;have next:items.length - (k+1)+1=items.length - k:=J7 hk
     rw [next] at S4
     exact ⟨rfl,k,Nat.lt_succ_self _,J8 hk,le4,σ4,S4,h4⟩
 . cases fin with
   | done f=>refine bh h λz0_ q=>?_;clear h;obtain rfl:=z0_;exact ⟨rfl,q⟩
   | again c'=>exact .inl h
noncomputable def SI (n:Nat) (c:Cx) (it:Value) (J:List bt):Prop:=∀ A,br n A->∀ le σ tmp s,St c le σ (J++tmp) s->wpAny (Mo c.w) A (pyIter it) (λit' s'=>it'=it/\St c le σ (J++tmp) s') dh s
noncomputable def uV (n:Nat) (c:Cx) (target:Expr) (x:LV) (le:ak) (σ σ':aa) (items:List LV) (Z:aa->Prop):Prop :=
 ∀ A,br n A->∀ tmp s vx,St c le σ tmp s->RV s.heap x vx->wpAny (Mo c.w) A (pyIter vx) (λit s'=>∃ J,NX n c target it J items Z/\SI n c it (J 0)/\St c le σ' (J 0++tmp) s') dh s
theorem e9 {e:Expr} {d:Nat} {it acc:Value} {A:Around} {R:Result->Shared->Prop} {s:Shared} {J tmp:List bt} (hA:br n A) (S:St c le σ (J++tmp) s) (hs:SI n c it J)
   (hcs:compStart e d it acc env=(ask >>= λx=>if x.params.followText "comprehension-iter-twice"=true then again (.compLoop e d it acc env) else do
     rule "comprehension.iter-twice"
     if let some g:=(clausesOf e)[d]? then standAt g.iter.pos
     again (.compLoop e d (<-pyIter it) acc env))) (hfr:(Code.compStart e d it acc env).isFrame=false) (hq:(Code.compLoop e d it acc env).quiet=true) (hu:∀ A:Around,A.under (.compStart e d it acc env)=A)
   (h:∀ s',St c le σ (J++tmp) s'->codeAny (Mo c.w) A (.compLoop e d it acc env) R s'):codeAny (Mo c.w) A (.compStart e d it acc env) R s:=by
 refine codeAny_of_tree ?_;rw [hu];show wpAny _ A (if (Code.compStart e d it acc env).isFrame=true then (compStart e d it acc env).onRaise (leaving env) else (compStart e d it acc env).onRaise (λx=>do noteFrame x env;standAt theWindowsPlace)) _ _ s
 rw [hfr,if_neg Bool.false_ne_true,hcs];refine wpAny_onRaise (wpAny_mono (E:=dh) (Q:=λfin s'=>fin=.again (.compLoop e d it acc env)/\St c le σ (J++tmp) s') ?_ (by intro fin s' z1_;refine bh z1_ λh1 h2=>?_;clear z1_;subst h1;exact ⟨hq,h s' h2⟩) λ_ _ x=>x.elim)
 refine wpAny_bind (wpAny_askSetting ?_);dsimp only;have fin:wpAny (Mo c.w) A (do let it' <-pyIter it;again (.compLoop e d it' acc env):Sem PySem.Fin) (λfin s'=>fin=.again (.compLoop e d it acc env)/\St c le σ (J++tmp) s') dh s :=
   wpAny_bind (wpAny_mono (hs A hA le σ tmp s S) (by intro it' s' z2_;refine bh z2_ λe1 S'=>?_;clear hs hcs hfr hq hu h z2_;subst e1;exact wpAny_pure ⟨rfl,S'⟩) λ_ _ x=>x.elim)
 split
 . exact wpAny_pure ⟨rfl,S⟩
 . refine wpAny_bind (wpAny_rule ?_);split
   . exact wpAny_bind (wpAny_standAt fin)
   . first | exact fin | exact wpAny_bind (wpAny_pure fin)
end
noncomputable def bk (C:Addr) (σ:aa):aa:=σ.filter λp=>p.1 != C
theorem aN {C:Addr} {σ:aa} {p:Addr × LO} (h:p∈σ) (ne:p.1≠C):p∈bk C σ:=List.mem_filter.mpr ⟨h,by simpa using ne⟩
section
variable {n:Nat} {c:Cx} {le:ak} {σ:aa} {env:Env} {tmp:List bt} {s:Shared}
theorem St.lose (S:St c le σ tmp s) {C:Addr} (hC:C∈σ.map (·.1)) {h':Heap} (hs:Heap.SameBut C s.heap h'):St c le (bk C σ) tmp { s with heap:=h' }:=by
 refine ap (List.mem_map.mp hC) λp hp z0_=>?_;clear hC;obtain rfl:=z0_;refine ap ((S.ob p hp).there) λx ex nx=>?_;have ki:cC s.heap h':=λb y e i=>by
   have:b≠p.1:=by rintro rfl;rw [ex] at e;obtain rfl:=Option.some.inj e;exact nx i
   exact (hs.2 b this).trans e
 refine ap S.fr λm F q=>?_;refine bh (S.ab p hp) λnb nL=>?_;have sub:∀ q∈bk p.1 σ,q∈σ/\q.1≠p.1:=λq hq=>⟨(List.mem_filter.mp hq).1,by simpa using (List.mem_filter.mp hq).2⟩
 refine ⟨⟨m,⟨F.ns.sameBut hs (Ne.symm nL),λb y e=>(hs.2 b ?_).trans (F.keep b y e),F.above⟩,λx lv hx=>?_⟩,λy hy=>(S.ob y (sub y hy).1).same ki λz e=>(hs.2 _ (sub y hy).2).trans e,?_,λy hy=>S.ab y (sub y hy).1,λy hy=>(S.tm y hy).same ki (λb z e n _=>⟨(hs.2 b (λe'=>n (e' ▸ List.mem_map.mpr ⟨p,hp,rfl⟩))).trans e,λhm=>?_⟩) rfl,S.td,S.bs,S.gb,S.os,S.tk⟩
 . rintro rfl;rw [nb] at e;cases e
 . refine ap (q x lv hx) λv hm rr=>?_;exact ⟨v,hm,rr.keeps ki⟩
 . exact S.nd.sublist (List.filter_sublist.map _)
 . refine ap (List.mem_map.mp hm) λz hz e'=>?_;exact n (List.mem_map.mpr ⟨z,(sub z hz).1,e'⟩)
theorem St.frameNew (S:St c le σ tmp s) {h':Heap} {o:Obj} {t:Nat} (ht:0 < t) (hns:h'.Ns s.heap.objs.size (λx=>([]:List (Str × Value)).reverse.lookup x)) (hsb:Heap.SameBut s.heap.objs.size (s.heap.push o) h') :
   St c le ((s.heap.objs.size,.frame [])::σ) tmp { s with heap:=h',toks:=t }:=by
 have S1:=(S.grow (h':=h') λb o e=>hsb.extBut b o (Nat.ne_of_lt (Heap.lt_size e)) (Heap.get?_push_of_some _ e)).toks t ht;exact S.newAt S1 ⟨_,hns,λx lv e=>by simp at e⟩
theorem fL {e:Expr} {scope:Scope} {pos:Pos} {newAcc first:Sem Value} {g:Comprehension} {gs:List Comprehension} {cl:List (Str × Addr)} {use:Option (Value->Sem Unit)} {Q:Value->Shared->Prop} {A:Around} (hA:br n A)
   {target:Expr} {rest:Addr->Addr->Value->Sem PySem.Fin} {p:Pos} {acc0:LO} {ao:Obj}
   (hcl:clausesOf e=g::gs) (hs:∀ x,foldedSetIterable g.iter env x=pure x) (hclos:closureFor scope env=pure cl) (hkind:scope.kind=.function)
   (hnames:∀ x∈scope.names,x.2=.local->scope.names.lookup x.1=some .local) (hcell:∀ x∈scope.names,x.2≠.cell)
   (hacc:∀ (s:Shared) (Q:Value->Shared->Prop),Q (.ref s.heap.objs.size) { s with heap:=s.heap.push ao }->wpAny (Mo c.w) A newAcc Q dh s)
   (hao:∀ h:Heap,RO c.w.params (h.push ao) h.objs.size acc0)
   (hturn:∀ D C it,compTurn e 0 it (.ref D) (compEnvC scope cl C env)=(standAt p >>= λ_=>pyNext it >>= λr=>match r with
     | none=>pure (.done .next)
     | some v=>letOwnedTupleGo target it v >>= λ_=>assign target (compEnvC scope cl C env) v >>= λ_=>rest D C it))
   (hcs:∀ D C it,compStart e 0 it (.ref D) (compEnvC scope cl C env)=(ask >>= λx=>if x.params.followText "comprehension-iter-twice"=true then again (.compLoop e 0 it (.ref D) (compEnvC scope cl C env)) else do
     rule "comprehension.iter-twice"
     if let some g:=(clausesOf e)[0]? then standAt g.iter.pos
     again (.compLoop e 0 (<-pyIter it) (.ref D) (compEnvC scope cl C env))))
   (hfr:∀ D C it,(Code.compLoop e 0 it (.ref D) (compEnvC scope cl C env)).isFrame=false) (hfr2:∀ D C it,(Code.compStart e 0 it (.ref D) (compEnvC scope cl C env)).isFrame=false)
   (hq:∀ D C it,(Code.compLoop e 0 it (.ref D) (compEnvC scope cl C env)).quiet=true) (hu:∀ (A:Around) D C it,A.under (.compLoop e 0 it (.ref D) (compEnvC scope cl C env))=A) (hu2:∀ (A:Around) D C it,A.under (.compStart e 0 it (.ref D) (compEnvC scope cl C env))=A)
   (S:St c le σ tmp s)
   (h:WV n c first le σ λx σ1=>∃ σ2 items Z,uV n c target x le σ1 σ2 items Z/\∀ D C it,D∉σ2.map (·.1)->C∉σ2.map (·.1)->C≠D ->
     CL n c target (compEnvC scope cl C env) (rest D C it) (.compLoop e 0 it (.ref D) (compEnvC scope cl C env)) Z (λle' σ'=>(∃ l,(C,.frame l)∈σ')/\∀ s',St c le' σ' tmp s'->compPost (Mo c.w) A dh use Q (.ref D) C (.ok .next) s') items le ((C,.frame [])::(D,acc0)::σ2)) :
   wpAny (Mo c.w) A (comprehension e scope env pos newAcc false first use) Q dh s:=by
 refine wpAny_comprehension_free hcl hs hclos hkind hnames (wpAny_mono (h A hA tmp s S) (λvx s1 hq39=>?_) λ_ _ x=>x);refine bb hq39 λx σ1 S1 y0_=>?_;refine md y0_ λσ2 items Z hoi hCL=>?_;refine wpAny_mono (hoi A hA tmp s1 vx S1.drop1 (S1.tm _ (.head _))) (λit s2 hq40=>?_) λ_ _ x=>x;refine du hq40 λJ N hsi S2=>?_;refine hacc s2 _ ?_;have S3:=S2.new (hao s2.heap);have hD:s2.heap.objs.size∉σ2.map (·.1):=λhm=>Nat.lt_irrefl _ (S2.key_lt hm)
 refine wpAny_newFunctionEnv hcell (by intro x hx;cases hx) (λh' hns hsb=>?_) hkind
 have S4:=S3.frameNew (t:=s2.toks+([]:List (Str × Value)).length) S3.tk hns hsb;have hC:(s2.heap.push ao).objs.size∉σ2.map (·.1):=λhm=>Nat.lt_irrefl _ (S3.key_lt (.tail _ hm))
 have hCD:(s2.heap.push ao).objs.size≠s2.heap.objs.size:=by rw [Heap.size_push];exact Nat.succ_ne_self _
 have L:=hCL s2.heap.objs.size (s2.heap.push ao).objs.size it hD hC hCD;refine e9 (env:=compEnvC scope cl (s2.heap.push ao).objs.size env) (J:=J 0) (tmp:=tmp) hA S4 hsi (hcs _ _ _) (hfr2 _ _ _) (hq _ _ _) (λA=>hu2 A _ _ _) λs' S'=>?_;have R:=kQ (env:=compEnvC scope cl (s2.heap.push ao).objs.size env) (tmp:=tmp) hA N (hturn s2.heap.objs.size _ it) (hfr _ _ _) (hq _ _ _) (λA=>hu A _ _ _) items.length s' ⟨Nat.le_refl _,le,_,by rw [Nat.sub_self];exact S',by rw [Nat.sub_self];exact L⟩
 refine codeAny_mono R (λr s5 h5=>?_);refine bh h5 λer y1_=>?_;refine bl y1_ λle5 σ5 S5 y2_ h6=>?_;obtain ⟨l,hl⟩:=y2_;subst er;exact h6 s5 S5
end
noncomputable def gY (elt:Expr) (env:Env) (D:Addr) (cd:Code):Sem PySem.Fin:=(eval elt env >>= λx=>call (.builtin "list.append") [.ref D,x] >>= λ_=>pure ()) >>= λ_=>again cd
noncomputable def h7 (t elt:Expr) (env:Env) (D:Addr) (cd:Code):Sem PySem.Fin:=(forIn [t] true λc r=>if r=true then do let ok <-isTrue c env (eval c env);pure (ForInStep.yield ok) else pure (ForInStep.yield r):Sem Bool) >>= λok=>if ok=true then ((eval elt env >>= λx=>call (.builtin "list.append") [.ref D,x] >>= λ_=>pure ()) >>= λ_=>again cd) else again cd
section
variable {n:Nat} {c:Cx} {le:ak} {σ:aa} {env:Env}
theorem gK {elt:Expr} {D:Addr} {cd:Code} {K:ak->aa->Prop} (h:WV n c (eval elt env) le σ λv σ1=>∃ l σ',Up D (.list l) (.list (l++[v])) σ1 σ'/\l.length<=1000000/\K le σ'):WR n c (gY elt env D cd) cd le σ K:=λA hA tmp s S=>by
 unfold gY;refine wpAny_bind (wpAny_bind (wpAny_mono (h A hA tmp s S) (λv s1 hx14_=>bb hx14_ λlv σ1 S1 hy16_=>bl hy16_ λl σ' u hl k=>wpAny_bind ?_) λ_ _ x=>x));refine wpAny_mono (bj (n:=n) (c:=c) (le:=le) (K:=λ_ σ'=>K le σ') u (av hl) k A hA tmp s1 [.ref D,v] S1.drop1 (.cons (.loc _) (.cons (S1.tm _ (.head _)) .nil))) (λ_ s2 hq41=>?_) λ_ _ x=>x;refine bb hq41 λ_ σ2 S2 k2=>?_;exact wpAny_pure (wpAny_pure ⟨rfl,le,σ2,S2.drop1,k2⟩)
theorem oM {t elt:Expr} {D:Addr} {cd:Code} {K:ak->aa->Prop} (h:WB n c (isTrue t env (eval t env)) le σ λb σ0=>if b then WV n c (eval elt env) le σ0 λv σ1=>∃ l σ',Up D (.list l) (.list (l++[v])) σ1 σ'/\l.length<=1000000/\K le σ' else K le σ0):WR n c (h7 t elt env D cd) cd le σ K:=λA hA tmp s S=>by
 unfold h7;refine wpAny_bind ?_;rw [List.forIn_cons];refine wpAny_bind ?_;show wpAny _ _ (isTrue t env (eval t env) >>= λok=>pure (ForInStep.yield ok)) _ _ _;refine wpAny_bind (wpAny_mono (h A hA tmp s S) (λb s0 hq42=>?_) λ_ _ x=>x);refine ap hq42 λσ0 S0 h0=>?_;refine wpAny_pure ?_;dsimp only;rw [List.forIn_nil];refine wpAny_pure ?_;cases b with
 | true =>
   rw [if_pos rfl] at h0 ⊢;exact gK h0 A hA tmp s0 S0
 | false =>
   rw [if_neg Bool.false_ne_true] at h0 ⊢;exact wpAny_pure ⟨rfl,le,σ0,S0,h0⟩
theorem gj {A:Around} (s:Shared) (Q:Value->Shared->Prop) (h:Q (.ref s.heap.objs.size) { s with heap:=s.heap.push (az [] 0) }):wpAny (Mo c.w) A (newList []) Q dh s:=wpAny_newList h (by decide)
theorem lJ {D C:Addr} {tmp:List bt} {A:Around} {K:LV->aa->Prop} {σ':aa} {s':Shared} {l:ak} (hl:(C,.frame l)∈σ') (S':St c le σ' tmp s') (k:K (.loc D) (bk C σ')):compPost (Mo c.w) A dh none (PV c le tmp K) (.ref D) C (.ok .next) s':=by
 refine ap (S'.ob _ hl) λm ns _=>?_;exact ⟨m,ns,λh' hs=>pv (S'.lose (List.mem_map.mpr ⟨_,hl,rfl⟩) hs) (.loc D) k⟩
theorem eW {D C:Addr} {t:Expr} {le':ak} {tmp:List bt} {A:Around} (hA:br n A) {K:LF->ak->aa->Prop} {σ':aa} {s':Shared} (S':St c le' σ' tmp s') (k:g7 n c t env (.loc D) le' σ' λle2 σ2=>(∃ l,(C,.frame l)∈σ2)/\K .next le2 (bk C σ2)) :
   compPost (Mo c.w) A dh (some (assign t env)) (λ_ s'=>PF c tmp K .next s') (.ref D) C (.ok .next) s':=by
 show wpAny _ A (assign t env (.ref D)) _ _ s';refine wpAny_mono (k A hA tmp s' (.ref D) S' (.loc D)) (λ_ s2 hq43=>?_) λ_ _ x=>x;refine bl hq43 λle2 σ2 S2 z0_ k2=>?_;refine aH z0_ λl hl=>?_;refine ap (S2.ob _ hl) λm ns _=>?_;exact ⟨m,ns,λh' hs=>⟨.next,le2,_,rfl,S2.lose (List.mem_map.mpr ⟨_,hl,rfl⟩) hs,k2⟩⟩
noncomputable abbrev me (elt target iter:Expr) (ifs:List Expr) (scope:Scope) (pos:Pos):Expr:=.ListComp elt [⟨target,iter,ifs,0⟩] scope pos
theorem WR.mono {t:Sem PySem.Fin} {cd:Code} {K K':ak->aa->Prop} (h:WR n c t cd le σ K) (k:∀ l σ',K l σ'->K' l σ'):WR n c t cd le σ K':=λA hA tmp s S =>
 wpAny_mono (h A hA tmp s S) (by rintro _ _ ⟨e,l,σ',S',q⟩;exact (⟨e,l,σ',S',k _ _ q⟩)) λ_ _ x=>x
theorem g7.mono {t:Expr} {x:LV} {K K':ak->aa->Prop} (h:g7 n c t env x le σ K) (k:∀ l σ',K l σ'->K' l σ'):g7 n c t env x le σ K':=λA hA tmp s vx S r =>
 wpAny_mono (h A hA tmp s vx S r) (by intro _ _ z1_;refine bb z1_ λl σ' S' q=>?_;exact (⟨l,σ',S',k _ _ q⟩)) λ_ _ x=>x
theorem CL.mono {target:Expr} {rest:Sem PySem.Fin} {cd:Code} {Z:aa->Prop} {K K':ak->aa->Prop} (k:∀ l σ',K l σ'->K' l σ'):∀ {items:List LV} {le:ak} {σ:aa},CL n c target env rest cd Z K items le σ->CL n c target env rest cd Z K' items le σ:=by
 intro items;induction items with
 | nil=>exact λh=>⟨h.1,k _ _ h.2⟩
 | cons _ _ ih=>exact λh=>⟨h.1,h.2.mono λ_ _ h1=>h1.mono λ_ _ h2=>ih h2⟩
theorem eY {elt target iter:Expr} {scope:Scope} {pos:Pos} {cl:List (Str × Addr)} {K:LV->aa->Prop}
   (h:WV n c (eval iter env) le σ λx σ1=>∃ σ2 items Z,uV n c target x le σ1 σ2 items Z/\∀ D C it,D∉σ2.map (·.1)->C∉σ2.map (·.1)->C≠D ->
     CL n c target (compEnvC scope cl C env) (gY elt (compEnvC scope cl C env) D (.compLoop (me elt target iter [] scope pos) 0 it (.ref D) (compEnvC scope cl C env))) (.compLoop (me elt target iter [] scope pos) 0 it (.ref D) (compEnvC scope cl C env)) Z
       (λle' σ'=>le'=le/\(∃ l,(C,.frame l)∈σ')/\K (.loc D) (bk C σ')) items le ((C,.frame [])::(D,.list [])::σ2))
   (hclos:closureFor scope env=pure cl) (hs:∀ x,foldedSetIterable iter env x=pure x) (hkind:scope.kind=.function)
   (hnames:∀ x∈scope.names,x.2=.local->scope.names.lookup x.1=some .local) (hcell:∀ x∈scope.names,x.2≠.cell):WV n c (eval (me elt target iter [] scope pos) env) le σ K:=λA hA tmp s S=>by
 rw [eval_ListComp];refine fL (g:=⟨target,iter,[],0⟩) (gs:=[]) (cl:=cl) (target:=target) (p:=iter.pos) (rest:=λD C it=>gY elt (compEnvC scope cl C env) D (.compLoop (me elt target iter [] scope pos) 0 it (.ref D) (compEnvC scope cl C env))) (acc0:=.list []) (ao:=az [] 0) hA rfl hs hclos hkind hnames hcell (λs Q=>gj s Q) (λh=>⟨[],0,Heap.get?_push_size _ rfl,.nil⟩)
   (λD C it=>by rfl) (λD C it=>by rfl) (λ_ _ _=>rfl) (λ_ _ _=>rfl) (λ_ _ _=>rfl) (λ_ _ _ _=>rfl) (λ_ _ _ _=>rfl) S ?_
 exact h.mono λx σ1 hx18_=>md hx18_ λσ2 items Z ho hc=>⟨σ2,items,Z,ho,λD C it h1 h2 h3=>(hc D C it h1 h2 h3).mono λle' σ' ⟨e,⟨l,hl⟩,k⟩=>⟨⟨l,hl⟩,λs' S'=>by clear h S ho hc;subst e;exact lJ hl S' k⟩⟩
theorem eK {t elt target iter:Expr} {scope:Scope} {pos:Pos} {cl:List (Str × Addr)} {K:LV->aa->Prop}
   (h:WV n c (eval iter env) le σ λx σ1=>∃ σ2 items Z,uV n c target x le σ1 σ2 items Z/\∀ D C it,D∉σ2.map (·.1)->C∉σ2.map (·.1)->C≠D ->
     CL n c target (compEnvC scope cl C env) (h7 t elt (compEnvC scope cl C env) D (.compLoop (me elt target iter [t] scope pos) 0 it (.ref D) (compEnvC scope cl C env))) (.compLoop (me elt target iter [t] scope pos) 0 it (.ref D) (compEnvC scope cl C env)) Z
       (λle' σ'=>le'=le/\(∃ l,(C,.frame l)∈σ')/\K (.loc D) (bk C σ')) items le ((C,.frame [])::(D,.list [])::σ2))
   (hclos:closureFor scope env=pure cl) (hs:∀ x,foldedSetIterable iter env x=pure x) (hkind:scope.kind=.function)
   (hnames:∀ x∈scope.names,x.2=.local->scope.names.lookup x.1=some .local) (hcell:∀ x∈scope.names,x.2≠.cell):WV n c (eval (me elt target iter [t] scope pos) env) le σ K:=λA hA tmp s S=>by
 rw [eval_ListComp];refine fL (g:=⟨target,iter,[t],0⟩) (gs:=[]) (cl:=cl) (target:=target) (p:=iter.pos) (rest:=λD C it=>h7 t elt (compEnvC scope cl C env) D (.compLoop (me elt target iter [t] scope pos) 0 it (.ref D) (compEnvC scope cl C env))) (acc0:=.list []) (ao:=az [] 0) hA rfl hs hclos hkind hnames hcell (λs Q=>gj s Q) (λh=>⟨[],0,Heap.get?_push_size _ rfl,.nil⟩)
   (λD C it=>by rfl) (λD C it=>by rfl) (λ_ _ _=>rfl) (λ_ _ _=>rfl) (λ_ _ _=>rfl) (λ_ _ _ _=>rfl) (λ_ _ _ _=>rfl) S ?_
 exact h.mono λx σ1 hx21_=>md hx21_ λσ2 items Z ho hc=>⟨σ2,items,Z,ho,λD C it h1 h2 h3=>(hc D C it h1 h2 h3).mono λle' σ' ⟨e,⟨l,hl⟩,k⟩=>⟨⟨l,hl⟩,λs' S'=>by clear h S ho hc;subst e;exact lJ hl S' k⟩⟩
theorem ie {elt target iter:Expr} {scope:Scope} {pos:Pos} {cl:List (Str × Addr)} {y:Expr} {spos:Pos} {K:LF->ak->aa->Prop}
   (h:WV n c (eval iter env) le σ λx σ1=>∃ σ2 items Z,uV n c target x le σ1 σ2 items Z/\∀ D C it,D∉σ2.map (·.1)->C∉σ2.map (·.1)->C≠D ->
     CL n c target (compEnvC scope cl C env) (gY elt (compEnvC scope cl C env) D (.compLoop (me elt target iter [] scope pos) 0 it (.ref D) (compEnvC scope cl C env))) (.compLoop (me elt target iter [] scope pos) 0 it (.ref D) (compEnvC scope cl C env)) Z
       (λle' σ'=>(∃ l,(C,.frame l)∈σ')/\g7 n c y env (.loc D) le' σ' λle2 σ2=>(∃ l,(C,.frame l)∈σ2)/\K .next le2 (bk C σ2)) items le ((C,.frame [])::(D,.list [])::σ2))
   (hclos:closureFor scope env=pure cl) (hs:∀ x,foldedSetIterable iter env x=pure x) (hkind:scope.kind=.function)
   (hnames:∀ x∈scope.names,x.2=.local->scope.names.lookup x.1=some .local) (hcell:∀ x∈scope.names,x.2≠.cell)
   (hex:exec (.Assign [y] (me elt target iter [] scope pos) spos) env=(do standAt spos;evalThenUse (me elt target iter [] scope pos) env (assign y env);return .next)):WF n c (exec (.Assign [y] (me elt target iter [] scope pos) spos) env) le σ K:=λA hA tmp s S=>by
 rw [hex];refine wpAny_bind (wpAny_standAt (wpAny_bind ?_));show wpAny _ A (do let _ <-comprehension (me elt target iter [] scope pos) scope env _ (newList []) false (eval iter env) (some (assign y env))) _ _ s
 refine wpAny_bind (wpAny_mono (Q:=λ_ s'=>PF c tmp K .next s') ?_ (λ_ s' hq=>wpAny_pure (wpAny_pure hq)) λ_ _ x=>x);refine fL (g:=⟨target,iter,[],0⟩) (gs:=[]) (cl:=cl) (target:=target) (p:=iter.pos) (rest:=λD C it=>gY elt (compEnvC scope cl C env) D (.compLoop (me elt target iter [] scope pos) 0 it (.ref D) (compEnvC scope cl C env))) (acc0:=.list []) (ao:=az [] 0) hA rfl hs hclos hkind hnames hcell (λs Q=>gj s Q) (λh=>⟨[],0,Heap.get?_push_size _ rfl,.nil⟩)
   (λD C it=>by rfl) (λD C it=>by rfl) (λ_ _ _=>rfl) (λ_ _ _=>rfl) (λ_ _ _=>rfl) (λ_ _ _ _=>rfl) (λ_ _ _ _=>rfl) S ?_
 exact h.mono λx σ1 hx24_=>md hx24_ λσ2 items Z ho hc=>⟨σ2,items,Z,ho,λD C it h1 h2 h3=>(hc D C it h1 h2 h3).mono λle' σ' hx25_=>bh hx25_ λhl k=>⟨hl,λs' S'=>eW hA S' k⟩⟩
end
section
variable {n:Nat} {c:Cx} {le:ak} {σ:aa} {env:Env}
theorem q5 {l:Addr} {i:Nat}:∀ b:Obj,(b.cls=.type "list_iterator"/\b.data=.fields #[.ref l,.int i 0])->¬ gR b:=λb h=>bU h.1
theorem cF {target:Expr} {a:Addr} {l:List LV} (hm:(a,.list l)∈σ):uV n c target (.loc a) le σ σ l (λσ=>(a,.list l)∈σ):=by
 intro A hA tmp s vx S r;obtain rfl:=RV.inv r;refine bb (S.ob _ hm) λvs k e rs=>?_;refine wpAny_pyIter_list ⟨_,e,rfl,k,rfl⟩ ⟨λi=>[.o s.heap.objs.size (λo=>o.cls=.type "list_iterator"/\o.data=.fields #[.ref a,.int i 0])],⟨?_,?_⟩,?_,?_⟩
 . intro i lv hi A hA le σ tmp s1 hz S1;refine bh (S1.tm _ (.head _)) λz0_ nk=>?_;refine ap z0_ λb eb fb=>?_;refine bb (S1.ob _ hz) λvs1 k1 e1 rs1=>?_;refine ap (rs1.get hi) λv hv rv=>?_;refine wpAny_pyNext_list_item ⟨b,eb,fb⟩ ⟨_,e1,rfl,k1,rfl⟩ (by simpa using hv) λh' hit hs=>⟨v,rfl,?_⟩
   refine ap hit λb' eb' fb'=>?_;have S2:=S1.swapTo (f':=λo=>o.cls=.type "list_iterator"/\o.data=.fields #[.ref a,.int (i+1:Nat) 0]) hs.extBut q5 eb' fb';refine gn eb' fb'.1 fb'.2 (by decide) (S2.hold (rv.keeps λb o e hi=>(hs.2 b (by rintro rfl;rw [eb] at e;obtain rfl:=Option.some.inj e;exact q5 _ fb hi)).trans e))
 . intro A hA le σ tmp s1 hz S1;refine bh (S1.tm _ (.head _)) λz1_ nk=>?_;refine ap z1_ λb eb fb=>?_;refine bb (S1.ob _ hz) λvs1 k1 e1 rs1=>?_;refine wpAny_pyNext_list_end hA.handled ⟨b,eb,fb⟩ ⟨_,e1,rfl,k1,rfl⟩ (by simpa using rs1.none) λh' hs=>⟨rfl,?_⟩
   exact S1.swap hs q5
 . intro A hA le σ tmp s1 S1;refine bh (S1.tm _ (.head _)) λz2_ nk=>?_;refine ap z2_ λb eb fb=>?_;exact wpAny_pyIter_listiter (l:=a) (i:=0) ⟨b,eb,fb⟩ ⟨rfl,S1⟩
 . exact S.keep (o:={ cls:=.type "list_iterator",data:=.fields #[.ref a,.int 0 0] }) (f:=λo=>o.cls=.type "list_iterator"/\o.data=.fields #[.ref a,.int (0:Nat) 0]) ⟨rfl,rfl⟩ rfl
noncomputable def cP (a b d:Int) (o:Obj):Prop:=∃ t u v,o={ cls:=.type "range",dict:=none,data:=.fields #[.int a t,.int b u,.int d v],slots:=#[] }
noncomputable def fh (a d:Int) (m:Nat):List LV:=(List.range m).map λi=>.int (a+(i:Nat)*d)
theorem rT {a d:Int} {m i:Nat} {lv:LV} (h:(fh a d m)[i]?=some lv):lv=.int (a+(i:Nat)*d)/\i < m:=by
 unfold fh at h;rw [List.getElem?_map] at h;cases q:(List.range m)[i]? with
 | none=>rw [q] at h;cases h
 | some j =>
   rw [q] at h;obtain rfl:=Option.some.inj h;refine aH (List.getElem?_eq_some_iff.mp q) λh1 h2=>?_;simp at h1 h2;clear q h;subst h2;exact ⟨rfl,h1⟩
theorem mv (a d:Int) (m:Nat):(fh a d m).length=m:=by simp [fh]
noncomputable def ym (a d:Int) (m i:Nat) (o:Obj):Prop:=o={ cls:=.type "range_iterator",dict:=none,data:=.fields #[rawInt (a+(i:Nat)*d),rawInt ((m:Int) - (i:Nat)),rawInt d],slots:=#[] }
theorem eL:entryFor table "range_iterator.__iter__"=some Builtin.«dict_keyiterator.__iter__» :=
 entryFor_alias (id':="dict_keyiterator.__iter__") (by kernel_rfl) (by first | rfl | decide +kernel | (unfold String.splitOn;simp +decide [String.splitOnAux])) (by decide +kernel) (by kernel_rfl)
theorem dZ {target:Expr} {r:Addr} {a b d:Int} {m:Nat} (hm:(r,.raw (cP a b d))∈σ) (hsz:Builtin.Range.rangeSize a b d=m) (hsmall:Builtin.Range.small a b d=true):uV n c target (.loc r) le σ σ (fh a d m) (λ_=>True):=by
 intro A hA tmp s vx S rr;obtain rfl:=RV.inv rr;refine du (S.ob _ hm) λo e z3_ _=>?_;refine xD z3_ λt u v ho=>?_;clear z3_;subst ho;refine wpAny_pyIter_range (a:=a) (b:=b) (c:=d) (t:=t) (u:=u) (v:=v) e hsmall ⟨λi=>[.o s.heap.objs.size (ym a d m i)],⟨?_,?_⟩,?_,?_⟩
 . intro i lv hi A hA le σ tmp s1 _ S1;refine bh (rT hi) λz4_ hlt=>?_;clear hi;obtain rfl:=z4_;refine bh (S1.tm _ (.head _)) λz5_ nk=>?_;refine ap z5_ λb eb fb=>?_;have fb0:=fb;unfold ym at fb;clear fb0;subst fb;refine wpAny_pyNext_range_item eb (by lia) λh' hit hs=>⟨_,rfl,?_⟩
   have hit':h'.get? s.heap.objs.size=some { cls:=.type "range_iterator",dict:=none,data:=.fields #[rawInt (a+((i+1:Nat):Int)*d),rawInt ((m:Int) - ((i+1:Nat):Int)),rawInt d],slots:=#[] }:=by
     rw [hit];rw [show a+(i:Int)*d+d=a+((i+1:Nat):Int)*d by rw [Int.natCast_add,Int.add_mul];lia,show (m:Int) - (i:Int) - 1=(m:Int) - ((i+1:Nat):Int) by lia]
   have S2:=(S1.swapTo (f':=ym a d m (i+1)) hs.extBut (λb hb=>bU (c:="range_iterator") (by unfold ym at hb;rw [hb])) hit' rfl).toks (s1.toks+1)
   exact gn hit' rfl rfl (by decide) (S2.hold (.int _ _))
 . intro A hA le σ tmp s1 _ S1;refine bh (S1.tm _ (.head _)) λz6_ nk=>?_;refine ap z6_ λb eb fb=>?_;unfold ym at fb;subst fb;rw [mv] at eb;refine wpAny_pyNext_range_end hA.handled eb (by lia) λh' hs=>⟨rfl,?_⟩
   exact S1.swap hs (λb hb=>bU (c:="range_iterator") (by unfold ym at hb;rw [hb]))
 . intro A hA le σ tmp s1 S1;refine bh (S1.tm _ (.head _)) λz7_ nk=>?_;refine ap z7_ λb eb fb=>?_;unfold ym at fb;subst fb;have hT:s1.TypeIs (.ref s.heap.objs.size) "range_iterator":=⟨_,eb,rfl⟩;refine wpAny_pyIter_slot hT F.slot_range_iterator_iter (wpAny_call_entry F.slot_range_iterator_iter hT eL ?_ (F.args_range_iterator_iter_1 _));show wpAny _ _ (ret _) _ _ s1;exact wpAny_pure ⟨_,rfl,"range_iterator",_,hT,F.slot_range_iterator_next.lookup,rfl,S1⟩
 . refine S.keep (f:=ym a d m 0) ?_ rfl;unfold ym;rw [hsz];simp
theorem og {target:Expr} {x:LV} {σ':aa} {items:List LV} {Z:aa->Prop} (h:uV n c target x le σ σ' items Z):OI n c target x le σ σ' items Z:=λA hA tmp s vx S r =>
 wpAny_mono (h A hA tmp s vx S r) (by intro it s' z8_;refine du z8_ λJ N _ S'=>?_;exact (⟨J,N,S'⟩)) λ_ _ x=>x
theorem m5 {a b d:Int} {o:Obj} (h:cP a b d o):¬ gR o:=by refine xD h λt u v z9_=>?_;clear h;obtain rfl:=z9_;exact bU (c:="range") rfl
theorem fF {m:Int} {K:LV->aa->Prop} (h:∀ a,a∉σ.map (·.1)->K (.loc a) ((a,.raw (cP 0 m 1))::σ)):WC n c (.type "range") [.int m] le σ K:=λA hA tmp s vs S r=>by
 refine bl (aK.inv r) λ_ _ z0_ r1 r2=>?_;obtain rfl:=z0_;obtain rfl:=aK.nil_ r2;refine aH (RV.inv r1) λt z1_=>?_;clear r1 r;obtain rfl:=z1_;refine call_range_1 ?_;have hf:cP 0 m 1 { cls:=.type "range",data:=.fields #[.int 0 s.toks,.int m t,.int 1 (s.toks+1)] }:=⟨_,_,_,rfl⟩;exact pv ((S.new (o:=_) (lo:=.raw (cP 0 m 1)) ⟨_,Heap.get?_push_size _ rfl,hf,m5 hf⟩).toks _) (.loc _) (h _ λhm=>Nat.lt_irrefl _ (S.key_lt hm))
theorem uR {a b d:Int} {K:LV->aa->Prop} (hd:d≠0) (hp:Builtin.divisionGoesByPylong (b - a) d=false) (h:∀ r,r∉σ.map (·.1)->K (.loc r) ((r,.raw (cP a b d))::σ)):WC n c (.type "range") [.int a,.int b,.int d] le σ K:=λA hA tmp s vs S r=>by
 refine bl (aK.inv r) λ_ _ z2_ r1 r2=>?_;obtain rfl:=z2_;have hz:=aK.inv r2;clear r2;refine bl hz λ_ _ z3_ r2 r3=>?_;obtain rfl:=z3_;have hz:=aK.inv r3;clear r3;refine bl hz λ_ _ z4_ r3 r4=>?_;obtain rfl:=z4_;obtain rfl:=aK.nil_ r4;refine aH (RV.inv r1) λt1 z5_=>?_;clear r1;obtain rfl:=z5_;refine aH (RV.inv r2) λt2 z6_=>?_;clear r2;obtain rfl:=z6_;refine aH (RV.inv r3) λt3 z7_=>?_;clear r3 r;obtain rfl:=z7_;refine call_range_3 hd ?_ (.inl hp);have hf:cP a b d { cls:=.type "range",data:=.fields #[.int a t1,.int b t2,.int d t3] }:=⟨_,_,_,rfl⟩;exact pv (S.new (o:=_) (lo:=.raw (cP a b d)) ⟨_,Heap.get?_push_size _ rfl,hf,m5 hf⟩) (.loc _) (h _ λhm=>Nat.lt_irrefl _ (S.key_lt hm))
end
noncomputable abbrev xF (q:Str) (scope:Scope) (L a:Addr) (cd:Value):Env:=newEnv scope L 3 (cellsFrom (L+1) scope.names []) (q++".<locals>.") (some a) cd none 0
section
variable {n:Nat} {w:World} {a:Addr} {nm q:Str} {st:Option Stmt} {d k pm:Value} {cd:Addr} {names:List Str} {args dl:List LV} {dv:List Value} {σ:aa} {K:LV->aa->Prop}
theorem j3 {α β:Type}:∀ {ns:List Str} {xs:List α} {ys:List β} {x:Str},xs.length=ys.length->(ns.zip xs).lookup x=none->(ns.zip ys).lookup x=none:=by
 intro ns;induction ns with
 | nil=>intro _ _ _ _ _;rfl
 | cons n ns ih =>
   intro xs ys x h e;cases xs with
   | nil=>obtain rfl:=List.length_eq_zero_iff.mp h.symm;rfl
   | cons a xs =>
     cases ys with
     | nil=>cases h
     | cons b ys =>
       rw [List.zip_cons_cons,List.lookup_cons] at e ⊢;cases hb:(x==n) with
       | true=>rw [hb] at e;cases e
       | false=>rw [hb] at e;exact ih (Nat.succ.inj h) e
theorem sR (cells:List (Str × Option LV)) (lloc:ak) (hK:(KF w.params).lookup a=some (bV nm q st d k pm cd)) (hc:(cd,q)∈oU.zip qM)
   (hb:∀ (s:Shared) (vs:List Value),(KF w.params).In s.heap->vs.length=args.length->BindsTo s (uX nm q st d k pm cd) ⟨vs,[]⟩ (names.zip (vs++dv)))
   (hdl:∀ h,(KF w.params).In h->aK h dl dv) (hnd:names.Nodup) (hlen:names.length=(args++dl).length)
   (hkind:∀ L:Addr,(names.all λx=>decide ((aE st).names.lookup x=some .local) || (decide ((aE st).names.lookup x=some .cell) && ((cellsFrom (L+1) (aE st).names []).lookup x).isSome))=true)
   (hloc:∀ x lv,lloc.lookup x=some lv->(names.zip (args++dl)).lookup x=some lv/\(aE st).names.lookup x=some .local)
   (hcl:∀ (L:Addr) nm' ad,(nm',ad)∈oV (L+1) cells->(cellsFrom (L+1) (aE st).names []).lookup nm'=some ad)
   (hcv:∀ nm' x,(nm',x)∈cells->(names.zip (args++dl)).lookup nm'=x/\(aE st).names.lookup nm'=some .cell)
   (hco:(aE st).isCoroutine=false) (hgen:(aE st).isGenerator=false) (hk:(aE st).kind=.function)
   (body:∀ c:Cx,c.w=w->(∀ p∈σ,p.1 < c.L)->WF n c (execs (bG st) (xF q (aE st) c.L a (.ref cd))) lloc (fJ (c.L+1) cells++σ) λf _ σ'=>K f.val σ'):FS (n+1) w a args σ K:=by
 intro c hw le A hA tmp s vs S hr;subst hw;refine ap S.fr λm F qm=>?_;have kin:(KF c.w.params).In s.heap:=S.bs.top.kin.keeps F.keep;have hlim:s.heap.NoLimit:=S.bs.nolimit.keeps F.keep;have hl:vs.length=args.length:=hr.length.symm;refine wpAny_call (codeAny_call_function (fd:=uX nm q st d k pm cd) hA.depthLt (kin _ _ hK) rfl hco hgen rfl ((S.bs.top.cod _ hc).keeps F.keep) ?_);refine hb s vs kin hl _ _ _ _ ?_;have hdlen:=(hdl s.heap kin).length;have hn:((names.zip (vs++dv)).map (·.1))=names:=jC (by rw [hlen,List.length_append,List.length_append,hl,hdlen])
 refine wpAny_with_toks (n:=1) S.tk ?_;refine wpAny_newFunctionEnv_cells hk (λx hx=>?_) (λenv he s1 ic htk=>⟨hlim.keeps ic.toInCall.keep,?_⟩)
 . have:=List.all_eq_true.mp (hkind s.heap.objs.size) x.1 (by rw [<-hn];exact List.mem_map.mpr ⟨x,hx,rfl⟩)
   simp only [Bool.or_eq_true,Bool.and_eq_true,decide_eq_true_eq] at this;exact this
 subst he;show codeAny _ _ (.func (bG st) (xF q (aE st) s.heap.objs.size a (.ref cd))) _ _;refine codeAny_func ?_;refine i4 ic.toInCall.same λh1 tk1 es1=>?_;have grow:∀ b o,s.heap.get? b=some o->s1.heap.get? b=some o:=ic.toInCall.keep;have ki:cC s.heap s1.heap:=λb o e _=>grow b o e;have kb:∀ b o,c.hb.get? b=some o->(aQ s.heap (σ.map (·.1))).get? b=some o:=λb o e=>by
   rw [aX,if_neg]
   . exact F.keep b o e
   . intro hm;refine ap (List.mem_map.mp hm) λx hx z0_=>?_;clear hm;obtain rfl:=z0_;rw [(S.ab x hx).1] at e;cases e
 have hσlt:∀ p∈σ,p.1 < s.heap.objs.size:=λp hp=>S.key_lt (List.mem_map.mpr ⟨p,hp,rfl⟩);have hwn:∀ b,s.heap.objs.size<=b->(aQ s.heap (σ.map (·.1))).get? b=none:=λb hbz=>by
   rw [aX];split
   . rfl
   . cases qq:s.heap.get? b with
     | none=>rfl
     | some o=>exact absurd (Heap.lt_size qq) (Nat.not_lt.mpr hbz)
 have S1:St ⟨c.w,aQ s.heap (σ.map (·.1)),c.os,s.heap.objs.size⟩ lloc (fJ (s.heap.objs.size+1) cells++σ) (tmp.filter bt.isG) s1:=by
   refine ⟨⟨_,⟨ic.toInCall.ns,λb o e=>?_,Nat.le_of_eq (dW _ _)⟩,λx lv hx=>?_⟩,λp hp=>?_,?_,λp hp=>?_,λp hp=>?_,S.td.sublist (List.filter_sublist.filterMap _),S.bs.keeps kb,?_,?_,htk⟩
   . have e:(aQ s.heap (σ.map (·.1))).get? b=some o:=e
     rw [aX] at e;split at e
     . cases e
     . exact grow b o e
   . refine bh (hloc x lv hx) λg1 g2=>?_;refine ap (ii ((hr.keeps ki).append (hdl s1.heap (kin.keeps grow))) g1) λv e1 r1=>?_;refine ⟨v,?_,r1⟩;rw [vn g2 _ _ (by rw [hn];exact hnd),e1]
   . refine Or.elim (List.mem_append.mp hp) (λhp=>?_) λhp=>?_
     . refine bl (tN hp) λnm' x g1 g2 g3=>?_;have gc:=ic.cell nm' p.1 (hcl _ _ _ g3);refine bh (hcv nm' x g1) λv1 v2=>?_;have hne:(newEnv (aE st) s.heap.objs.size 3 (cellsFrom (s.heap.objs.size+1) (aE st).names []) (q++".<locals>.") (some a) (.ref cd) none 0).kindOf nm'≠some .local:=by
         show (aE st).names.lookup nm'≠_;rw [v2];decide
       rw [vm hne _ _ (by rw [hn];exact hnd)] at gc
       rw [show p=(p.1,p.2) from rfl,g2];refine ap gc λo eo hd=>?_;cases x with
       | none =>
         have:(names.zip (vs++dv)).lookup nm'=none:=j3 (by rw [List.length_append,List.length_append,hl,hdlen]) v1
         rw [this] at hd;exact ⟨o,eo,hd⟩
       | some x =>
         refine ap (ii ((hr.keeps ki).append (hdl s1.heap (kin.keeps grow))) v1) λv e1 r1=>?_;rw [e1] at hd;exact ⟨o,v,eo,hd,r1⟩
     . exact (S.ob p hp).same ki (grow _)
   . rw [List.map_append];refine List.nodup_append.mpr ⟨tO,S.nd,λx hx y hy e=>?_⟩;refine ap (List.mem_map.mp hx) λp hp z1_=>?_;clear hx;obtain rfl:=z1_;refine ap (List.mem_map.mp hy) λr hr' z2_=>?_;clear hy;obtain rfl:=z2_;have g1:=i6 hp;have g2:=hσlt r hr';rw [e] at g1;exact absurd (Nat.lt_of_lt_of_le g2 (Nat.le_of_succ_le g1)) (Nat.lt_irrefl _)
   . refine Or.elim (List.mem_append.mp hp) (λhp=>?_) λhp=>?_
     . have g1:=i6 hp;exact ⟨hwn _ (Nat.le_of_succ_le g1),Nat.ne_of_gt g1⟩
     . exact ⟨by show (aQ s.heap (σ.map (·.1))).get? p.1=none;rw [aX,if_pos (List.mem_map.mpr ⟨p,hp,rfl⟩)],Nat.ne_of_lt (hσlt p hp)⟩
   . refine bh (List.mem_filter.mp hp) λhp hg=>?_;cases p with
     | v y u=>cases hg
     | o b y=>cases hg
     | g i y =>
       have:=S.tm (.g i y) hp;rw [es1];exact this
   . rw [es1];exact S.gb
   . rw [es1];exact S.os
 refine wpAny_mono (body ⟨c.w,aQ s.heap (σ.map (·.1)),c.os,s.heap.objs.size⟩ rfl hσlt _ (hA.deeper _) _ _ S1) (λf s' hq44=>?_) λ_ _ x=>x.elim
 refine f9 hq44 λlf le' σ' rf S' hK'=>?_;have pt:kG σ' σ':=⟨λ_ h=>h,S'.nd⟩;cases lf with
 | next=>cases rf;exact ⟨_,σ',S.back S' pt .none,hK'⟩
 | brk=>cases rf;exact ⟨_,σ',S.back S' pt .none,hK'⟩
 | cont=>cases rf;exact ⟨_,σ',S.back S' pt .none,hK'⟩
 | ret lv=>refine ap rf λv z3_ rv=>?_;clear hq44 rf;obtain rfl:=z3_;exact ⟨lv,σ',S.back S' pt rv,hK'⟩
end
noncomputable def hO {α:Type} (f:Nat->Nat->Bool):KasT α->α
 | .ret a=>a
 | .ask i j k=>hO f (k (f i j))
noncomputable def v7 {α:Type} (n:Nat):KasT α->Bool
 | .ret _=>true
 | .ask i j k=>decide (i < n) && decide (j < n) && !decide (i=j) && v7 n (k true) && v7 n (k false)
theorem pq {α:Type} {n:Nat} {cmp:Nat->Nat->(Bool->Shared->Prop)->Shared->Prop} {f:Nat->Nat->Bool} {Inv:Shared->Prop} {Q:α->Shared->Prop}
   (hcmp:∀ i j C s,i < n->j < n->i≠j->Inv s->(∀ s',Inv s'->C (f i j) s')->cmp i j C s):∀ (t:KasT α) (s:Shared),v7 n t=true->Inv s->(∀ s',Inv s'->Q (hO f t) s')->t.kasWp cmp Q s:=by
 intro t;induction t with
 | ret a=>exact λs _ hI hQ=>hQ s hI
 | ask i j k ih =>
   intro s hk hI hQ;simp only [v7,Bool.and_eq_true,decide_eq_true_eq,Bool.not_eq_true',decide_eq_false_iff_not] at hk;refine hcmp i j _ s hk.1.1.1.1 hk.1.1.1.2 hk.1.1.2 hI λs' hI'=>?_;have hb:v7 n (k (f i j))=true:=by cases f i j;exact hk.2;exact hk.1.2
   exact ih (f i j) s' hb hI' hQ
theorem q9 {α:Type} {n:Nat} {f g:Nat->Nat->Bool} (h:∀ i j,i < n->j < n->i≠j->f i j=g i j):∀ (t:KasT α),v7 n t=true->hO f t=hO g t:=by
 intro t;induction t with
 | ret a=>exact λ_=>rfl
 | ask i j k ih =>
   intro hk;simp only [v7,Bool.and_eq_true,decide_eq_true_eq,Bool.not_eq_true',decide_eq_false_iff_not] at hk;have hb:v7 n (k (f i j))=true:=by cases f i j;exact hk.2;exact hk.1.2
   show hO f (k (f i j))=hO g (k (g i j));rw [<-h i j hk.1.1.1.1 hk.1.1.1.2 hk.1.1.2];exact ih _ hb
theorem Bf:v7 2 (kas_sort 2)=true:=by decide +kernel
theorem Bg:v7 3 (kas_sort 3)=true:=by decide +kernel
theorem y9 {m:Nat} (h1:2<=m) (h2:m<=3):v7 m (kas_sort m)=true:=by
 have:m=2\/m=3:=by lia
 rcases this with rfl | rfl
 . exact Bf
 . exact Bg
noncomputable def uN (a b c d e f:Bool) (i j:Nat):Bool:=match i,j with
 | 0,1=>a
 | 0,2=>b
 | 1,0=>c
 | 1,2=>d
 | 2,0=>e
 | 2,1=>f
 | _,_=>false
theorem jr (f:Nat->Nat->Bool):∀ i j,i < 3->j < 3->i≠j->f i j=uN (f 0 1) (f 0 2) (f 1 0) (f 1 2) (f 2 0) (f 2 1) i j:=by
 intro i j hi hj hn;rcases Ad hi with rfl | rfl | rfl<;>rcases Ad hj with rfl | rfl | rfl<;>first | rfl | exact absurd rfl hn
noncomputable def cU (f:Nat->Nat->Bool) (m:Nat):List Nat:=if m < 2 then List.range m else (hO f (kas_sort m)).toList
theorem cq {f g:Nat->Nat->Bool} {m:Nat} (hm:m<=3) (h:∀ i j,i < m->j < m->i≠j->f i j=g i j):cU f m=cU g m:=by
 unfold cU;split
 . rfl
 . rw [q9 h _ (y9 (by lia) hm)]
theorem Ai:∀ a b c d e f:Bool,(hO (uN a b c d e f) (kas_sort 3)).toList.isPerm [0,1,2]=true:=by decide +kernel
theorem Ah:∀ a b c d e f:Bool,(hO (uN a b c d e f) (kas_sort 2)).toList.isPerm [0,1]=true:=by decide +kernel
theorem d6 (f:Nat->Nat->Bool) {m:Nat} (hm:m<=3):(cU f m).Perm (List.range m):=by
 have hm':m=0\/m=1\/m=2\/m=3:=Bw hm;rcases hm' with rfl | rfl | rfl | rfl
 . exact .refl _
 . exact .refl _
 . rw [cq hm λi j hi hj hn=>jr f i j (sG hi rfl) (sG hj rfl) hn];exact List.isPerm_iff.mp (Ah _ _ _ _ _ _)
 . rw [cq hm λi j hi hj hn=>jr f i j (sG hi rfl) (sG hj rfl) hn];exact List.isPerm_iff.mp (Ai _ _ _ _ _ _)
theorem bS (f:Nat->Nat->Bool) {m:Nat} (hm:m<=3):∀ i∈cU f m,i < m:=λi hi=>List.mem_range.mp ((d6 f hm).mem_iff.mp hi)
theorem Ak:∀ a b c d e f:Bool,(c=!a)->(e=!b)->(f=!d)->(a=true->d=true->b=true)->(c=true->b=true->d=true)->(b=true->f=true->a=true)->(f=true->c=true->e=true)->(d=true->e=true->c=true)->(e=true->a=true->f=true) ->
   (hO (uN a b c d e f) (kas_sort 3)).toList.Pairwise (λi j=>uN a b c d e f i j=true):=by decide +kernel
theorem Aj:∀ a b c d e f:Bool,(c=!a)->(hO (uN a b c d e f) (kas_sort 2)).toList.Pairwise (λi j=>uN a b c d e f i j=true):=by decide +kernel
theorem rY {f:Nat->Nat->Bool} {m:Nat} (hm:m<=3) (ha:∀ i j,i < m->j < m->i≠j->f j i=!f i j) (ht:∀ i j k,i < m->j < m->k < m->f i j=true->f j k=true->f i k=true) :
   (cU f m).Pairwise (λi j=>f i j=true):=by
 have hm':m=0\/m=1\/m=2\/m=3:=Bw hm;rcases hm' with rfl | rfl | rfl | rfl
 . exact .nil
 . exact List.pairwise_singleton _ _
 . have h:=Aj (f 0 1) (f 0 2) (f 1 0) (f 1 2) (f 2 0) (f 2 1) (ha 0 1 (by decide) (by decide) (by decide))
   have e:=cq hm (λi j hi hj hn=>jr f i j (sG hi rfl) (sG hj rfl) hn);have hp:=d6 f hm;rw [e] at hp ⊢;have nd:(cU (uN (f 0 1) (f 0 2) (f 1 0) (f 1 2) (f 2 0) (f 2 1)) 2).Nodup:=hp.nodup_iff.mpr List.nodup_range;have h':(cU (uN (f 0 1) (f 0 2) (f 1 0) (f 1 2) (f 2 0) (f 2 1)) 2).Pairwise _:=h;refine (h'.and nd).imp_of_mem λ{i j} hi hj q=>?_;have hi:=List.mem_range.mp (hp.mem_iff.mp hi);have hj:=List.mem_range.mp (hp.mem_iff.mp hj);rw [jr f i j (sG hi rfl) (sG hj rfl) q.2];exact q.1
 . have h:=Ak (f 0 1) (f 0 2) (f 1 0) (f 1 2) (f 2 0) (f 2 1) (ha 0 1 (by decide) (by decide) (by decide)) (ha 0 2 (by decide) (by decide) (by decide)) (ha 1 2 (by decide) (by decide) (by decide))
     (ht 0 1 2 (by decide) (by decide) (by decide)) (ht 1 0 2 (by decide) (by decide) (by decide)) (ht 0 2 1 (by decide) (by decide) (by decide)) (ht 2 1 0 (by decide) (by decide) (by decide)) (ht 1 2 0 (by decide) (by decide) (by decide)) (ht 2 0 1 (by decide) (by decide) (by decide))
   have e:=cq hm (λi j hi hj hn=>jr f i j (sG hi rfl) (sG hj rfl) hn);have hp:=d6 f hm;rw [e] at hp ⊢;have nd:(cU (uN (f 0 1) (f 0 2) (f 1 0) (f 1 2) (f 2 0) (f 2 1)) 3).Nodup:=hp.nodup_iff.mpr List.nodup_range;have h':(cU (uN (f 0 1) (f 0 2) (f 1 0) (f 1 2) (f 2 0) (f 2 1)) 3).Pairwise _:=h;refine (h'.and nd).imp_of_mem λ{i j} hi hj q=>?_;have hi:=List.mem_range.mp (hp.mem_iff.mp hi);have hj:=List.mem_range.mp (hp.mem_iff.mp hj);rw [jr f i j (sG hi rfl) (sG hj rfl) q.2];exact q.1
noncomputable def eE {α:Type} (d:α) (f:Nat->Nat->Bool) (l:List α):List α:=(cU f l.length).map λi=>l.getD i d
section
variable {n:Nat} {c:Cx} {le:ak} {σ:aa} {tmp:List bt} {s:Shared}
theorem aK.getD {h:Heap} {xs:List LV} {vs:List Value} (r:aK h xs vs) (i:Nat) (hi:i < xs.length):RV h (xs.getD i .none) (vs.getD i .none):=by
 refine ap (r.get (List.getElem?_eq_getElem hi)) λv hv rv=>?_;rw [List.getD_eq_getElem?_getD,List.getD_eq_getElem?_getD,hv,List.getElem?_eq_getElem hi];exact rv
theorem aK.mapGet {h:Heap} {xs:List LV} {vs:List Value} (r:aK h xs vs):∀ (p:List Nat),(∀ i∈p,i < xs.length)->aK h (p.map λi=>xs.getD i .none) (p.map λi=>vs.getD i .none):=by
 intro p;induction p with
 | nil=>exact λ_=>.nil
 | cons i p ih=>exact λhp=>.cons (r.getD i (hp i (.head _))) (ih λj hj=>hp j (.tail _ hj))
noncomputable def rz:List LV->List LV->Option Bool
 | [],[]=>some false
 | .int a::xs,.int b::ys=>if a=b then rz xs ys else some (decide (a < b))
 | .str a::xs,.str b::ys=>if a=b then rz xs ys else some (decide (a.cps.toList < b.cps.toList))
 | _,_=>none
theorem pC {a b:Int} {xs ys:List LV}:rz (.int a::xs) (.int b::ys)=if a=b then rz xs ys else some (decide (a < b)):=rfl
theorem mU {a b:Str} {xs ys:List LV}:rz (.str a::xs) (.str b::ys)=if a=b then rz xs ys else some (decide (a.cps.toList < b.cps.toList)):=rfl
theorem s7:rz [] []=some false:=rfl
noncomputable def pr:LV->Option Value
 | .int _=>some (.type "int")
 | .str _=>some (.type "str")
 | _=>none
variable {w:World} {A:Around} {E:Value->Shared->Prop}
theorem n9 {b:Bool} {P:Prop} (e:(none:Option Bool)=some b):P:=nQ e
theorem xY {x y:LV} {xs ys:List LV} {b:Bool} (e:rz (x::xs) (y::ys)=some b):(∃ a c,x=.int a/\y=.int c)\/∃ a c,x=.str a/\y=.str c:=by
 cases x with
 | int a=>cases y with
   | int c=>exact .inl ⟨a,c,rfl,rfl⟩
   | _=>exact n9 e
 | str a=>cases y with
   | str c=>exact .inr ⟨a,c,rfl,rfl⟩
   | _=>exact n9 e
 | _=>exact n9 e
theorem xR {h:Heap}:∀ (xs ys:List LV) (us vs:List Value) {b:Bool} (i:Nat) {Q:Bool->Shared->Prop},aK h xs us->aK h ys vs->rz xs ys=some b->Q b s->KatLex pg w A true false Q (us.zip vs) i s:=by
 intro xs;induction xs with
 | nil =>
   intro ys us vs b i Q r1 r2 e q;obtain rfl:=aK.nil_ r1;cases ys with
   | nil=>obtain rfl:=aK.nil_ r2;obtain rfl:=Option.some.inj e;exact kat_nil q
   | cons y ys=>cases e
 | cons x xs ih =>
   intro ys us vs r i Q r1 r2 e q;cases ys with
   | nil=>cases x<;>cases e
   | cons y ys =>
     refine Or.elim (xY e) (λh=>?_) λh=>?_
     . refine bb h λa b z0_ z1_=>?_;obtain rfl:=z0_;clear h;obtain rfl:=z1_;have hz:=aK.inv r1;clear r1;refine bl hz λ_ _ z2_ r1 rs=>?_;obtain rfl:=z2_;have hz:=aK.inv r2;clear r2;refine bl hz λ_ _ z3_ r2 rs'=>?_;obtain rfl:=z3_;refine aH (RV.inv r1) λ_ z4_=>?_;clear r1 hz;obtain rfl:=z4_;refine aH (RV.inv r2) λ_ z5_=>?_;clear r2 hz;obtain rfl:=z5_;simp only [pC,mU] at e;refine kat_cons (wpAny_eqBool_int ?_);by_cases hab:a=b
       . rw [if_pos hab] at e;rw [show (a==b)=true by simpa using hab]
         exact kat_yes (ih ys _ _ _ rs rs' e q)
       . rw [if_neg hab] at e;rw [show (a==b)=false by simpa using hab]
         refine kat_no ?_;obtain rfl:=Option.some.inj e;cases hi:(true && i==0) with
         | true=>exact oneLt_int q
         | false=>exact kat_one _ _ (lt_int q)
     . refine bb h λa b z6_ z7_=>?_;obtain rfl:=z6_;clear h;obtain rfl:=z7_;have hz:=aK.inv r1;clear r1;refine bl hz λ_ _ z8_ r1 rs=>?_;obtain rfl:=z8_;have hz:=aK.inv r2;clear r2;refine bl hz λ_ _ z9_ r2 rs'=>?_;obtain rfl:=z9_;refine aH (RV.inv r1) λ_ z0_=>?_;clear r1 hz;obtain rfl:=z0_;refine aH (RV.inv r2) λ_ z1_=>?_;clear r2 hz;obtain rfl:=z1_;simp only [pC,mU] at e;refine kat_cons (wpAny_eqBool_str ?_);by_cases hab:a=b
       . rw [if_pos hab] at e;rw [decide_eq_true hab];exact kat_yes (ih ys _ _ _ rs rs' e q)
       . rw [if_neg hab] at e;rw [decide_eq_false hab];refine kat_no ?_;obtain rfl:=Option.some.inj e;cases hi:(true && i==0) with
         | true=>exact oneLt_str q
         | false=>exact kat_one _ _ (lt_str q)
theorem rk {h:Heap} {M:Model} {x:LV} {v T:Value} (r:RV h x v) (e:pr x=some T):Looks M h (typeOf v) T:=by
 cases r<;>simp only [pr] at e<;>cases e
 . exact Looks.now
 . exact Looks.now
theorem rc {h:Heap} {T:Value}:∀ (ts:List (List LV)) (vs:List Value),aK h (ts.map .tup) vs->(∀ t∈ts,∃ x,t[0]?=some x/\pr x=some T)->∃ fs,KatTups h vs fs/\fs.length=ts.length/\∀ v∈fs,∀ M:Model,Looks M h (typeOf v) T:=by
 intro ts;induction ts with
 | nil=>intro vs r _;obtain rfl:=aK.nil_ r;exact ⟨[],.nil,rfl,λv hv=>by cases hv⟩
 | cons t ts ih =>
   intro vs r hk;obtain ⟨_,_,rfl,r1,rs⟩:=aK.inv r;refine el λP kP=>?_;obtain ⟨_,_,_,rfl,e,r⟩:=RV.inv r1;refine kP ?_;clear kP P;refine du (ih _ rs λt ht=>hk t (.tail _ ht)) λfs h1 h2 h3=>?_;refine ap (hk t (.head _)) λx hx hT=>?_;obtain ⟨v,hv,rv⟩:=r.get hx;refine ⟨v::fs,KatTups.cons (xs:=_) e rfl rfl (by simpa using hv) h1,by simp [h2],λv' hv' M=>?_⟩
   rcases List.mem_cons.mp hv' with rfl | hv'
   . exact rk rv hT
   . exact h3 v' hv' M
theorem oT {ts:List (List LV)} {vs:List Value} {T:Value} {f:Nat->Nat->Bool} {G:Array Nat->Shared->Prop} (rs:aK s.heap (ts.map .tup) vs) (hk:∀ t∈ts,∃ x,t[0]?=some x/\pr x=some T) (hT:T=.type "int"\/T=.type "str")
   (h2:2<=ts.length) (h3:ts.length<=3) (hlen:∀ t∈ts,∀ u∈ts,t.length=u.length) (hf:∀ i j t u,i≠j->ts[i]?=some t->ts[j]?=some u->rz t u=some (f i j)) (hG:G (hO f (kas_sort ts.length)) s) :
   wpAny (Mo w) A (keyKind' vs.toArray) (λκ s'=>(kas_sort ts.length).kasWp (kas_ask pg w A κ vs) G s') (λ_ _=>False) s:=by
 refine du (rc ts vs rs hk) λfs k1 k2 k3=>?_;refine kat_kind (T:=T) k1 (by lia) (λv hv=>k3 v hv _) (by rcases hT with rfl | rfl<;>rfl) ?_
 have hb:(T != Value.type "tuple")=true:=by rcases hT with rfl | rfl<;>decide
 rw [hb];refine pq (n:=ts.length) (f:=f) (Inv:=λs'=>s'=s) (λi j C s' hi hj hn hI hC=>?_) _ _ (y9 h2 h3) rfl (λs' e=>by clear rs k1 k3;subst e;exact hG)
 clear hG k1 k3;subst hI;show wpAny _ _ (keyLt' (tuples' true) (vs.getD i .none) (vs.getD j .none)) C _ s';have ri:=rs.getD i (by simpa using hi)
 have rj:=rs.getD j (by simpa using hj)
 rw [List.getD_eq_getElem?_getD,List.getElem?_map,List.getElem?_eq_getElem hi] at ri;rw [List.getD_eq_getElem?_getD,List.getElem?_map,List.getElem?_eq_getElem hj] at rj;simp only [Option.map_some,Option.getD_some] at ri rj;have hlt:=hf i j _ _ hn (List.getElem?_eq_getElem hi) (List.getElem?_eq_getElem hj);have hl:=hlen _ (List.getElem_mem hi) _ (List.getElem_mem hj);generalize ts[i]=ti at ri hlt hl;generalize ts[j]=tj at rj hlt hl;generalize vs.getD i .none=vi at ri;generalize vs.getD j .none=vj at rj;have hz:=RV.inv ri;clear ri;refine f9 hz λai us ni z2_ ei ri=>?_;clear hz;obtain rfl:=z2_;have hz:=RV.inv rj;clear rj;refine f9 hz λaj us' nj z3_ ej rj=>?_;clear hz;obtain rfl:=z3_;refine kat_lt (xs:=us.toArray) (ys:=us'.toArray) ei rfl ej rfl ?_;rw [show decide (us.toArray.size < us'.toArray.size)=false by simp [<-ri.length,<-rj.length,hl]]
 exact xR _ _ _ _ 0 ri rj hlt (hC _ rfl)
end
theorem oQ.inn {a:Addr} {o:LO} {σ σ':aa} (u:oQ a o σ σ'):(a,o)∈σ':=by
 induction u with
 | head=>exact .head _
 | tail _ ih=>exact .tail _ ih
theorem oQ.old {a:Addr} {o:LO} {σ σ':aa} (u:oQ a o σ σ') {y:Addr × LO} (hy:y∈σ') (e:y.1≠a):y∈σ:=by
 induction u with
 | head =>
   rcases List.mem_cons.mp hy with rfl | hy
   . exact absurd rfl e
   . exact .tail _ hy
 | tail _ ih =>
   rcases List.mem_cons.mp hy with rfl | hy
   . exact .head _
   . exact .tail _ (ih hy)
section
variable {n:Nat} {c:Cx} {le:ak} {σ:aa} {tmp:List bt} {s:Shared}
theorem St.kept1 (S:St c le σ tmp s) {D:Addr} {lo:LO} {σ':aa} (u:oQ D lo σ σ') {m:Str->Option Value} (F0:Fr c.hb c.L s.heap m) {h':Heap} {t:Nat} (ht:0 < t) (F:Fr c.hb c.L h' m)
   (k:∀ b y,b≠c.L->c.hb.get? b=none->b≠D->s.heap.get? b=some y->h'.get? b=some y) (r:cC s.heap h'->RO c.w.params h' D lo):St c le σ' tmp { s with heap:=h',toks:=t }:=by
 refine ap (List.mem_map.mp u.key_in) λp hp z0_=>?_;obtain rfl:=z0_;refine ap ((S.ob p hp).there) λx ex nx=>?_;refine ap S.fr λm0 F1 q=>?_;have em:=Fr.uniq F1 F0;subst em;have kk:∀ b y,b≠c.L->b≠p.1->s.heap.get? b=some y->h'.get? b=some y:=λb y h2 h3 e=>by
   cases z:c.hb.get? b with
   | none=>exact k b y h2 z h3 e
   | some y' =>
     have:=F1.keep b y' z;rw [this] at e;obtain rfl:=Option.some.inj e;exact F.keep b _ z
 have ki:cC s.heap h':=λb y e i=>by
   refine kk b y ?_ ?_ e
   . rintro rfl;refine f9 F1.ns λo es ep ho hd _=>?_;rw [ho] at e;obtain rfl:=Option.some.inj e;exact cZ hd i
   . rintro rfl;rw [ex] at e;obtain rfl:=Option.some.inj e;exact nx i
 have ab':=S.ab;refine ⟨⟨_,F,λx lv hx=>?_⟩,λy hy=>?_,by rw [u.keys];exact S.nd,λy hy=>?_,λy hy=>(S.tm y hy).same ki (λb z e n nl=>⟨kk b z nl (λh=>n (h ▸ u.key_in)) e,by rw [u.keys];exact n⟩) rfl,S.td,S.bs,S.gb,S.os,ht⟩
 . refine ap (q x lv hx) λv hm rr=>?_;exact ⟨v,hm,rr.keeps ki⟩
 . by_cases e:y.1=p.1
   . have nd':(σ'.map (·.1)).Nodup:=by rw [u.keys];exact S.nd
     have hin:=u.inn;have:y.2=lo:=aJ nd' (a:=p.1) (by rw [<-e];exact hy) hin
     rw [e,this];exact r ki
   . have hin:=u.old hy e;exact (S.ob y hin).same ki λz ez=>kk _ _ (S.ab y hin).2 e ez
 . have:y.1∈σ'.map (·.1):=List.mem_map.mpr ⟨y,hy,rfl⟩
   rw [u.keys] at this;refine ap (List.mem_map.mp this) λz hz ez=>?_;rw [<-ez];exact S.ab z hz
structure TS (ts:List (List LV)) (f:Nat->Nat->Bool):Prop where
 kind:ts≠[]->∃ T:Value,(T=.type "int"\/T=.type "str")/\∀ t∈ts,∃ x,t[0]?=some x/\pr x=some T
 le:ts.length<=3
 len:∀ t∈ts,∀ u∈ts,t.length=u.length
 lt:∀ i j t u,i≠j->ts[i]?=some t->ts[j]?=some u->rz t u=some (f i j)
theorem pV (f:Nat->Nat->Bool) (ts:List (List LV)) (h:ts.length<=3):(cU f (ts.map LV.tup).length).map (λi=>(ts.map LV.tup).getD i .none)=(eE [] f ts).map .tup:=by
 unfold eE;rw [List.map_map,List.length_map];refine List.map_congr_left λi hi=>?_;have:=bS f h i hi;simp [List.getD_eq_getElem?_getD,this]
theorem gw {f:Nat->Nat->Bool} {m:Nat} (h:2<=m):(hO f (kas_sort m)).toList=cU f m:=by
 unfold cU;rw [if_neg (by lia)]
theorem mB {a:Addr} {ts:List (List LV)} {f:Nat->Nat->Bool} {K:LV->aa->Prop} (hm:(a,.list (ts.map .tup))∈σ) (T:TS ts f) (h2:2<=ts.length)
   (h:∀ d,d∉σ.map (·.1)->K (.loc d) ((d,.list ((eE [] f ts).map .tup))::σ)):WC n c (.builtin "sorted") [.loc a] le σ K:=λA hA tmp s vs S r=>by
 refine bl (aK.inv r) λ_ _ z1_ r1 r2=>?_;obtain rfl:=z1_;obtain rfl:=RV.inv r1;clear r;obtain rfl:=aK.nil_ r2;refine bb (S.ob _ hm) λus kk e rs=>?_;refine ap S.fr λm F _=>?_;refine du S.news λnews N nd all=>?_;have hl:us.length=ts.length:=by rw [<-rs.length,List.length_map]
 refine ap (T.kind (by intro h;rw [h] at h2;simp at h2)) λT0 hT hk=>?_
 refine kat_sorted (vs:=us) F N ⟨_,e,rfl,kk,rfl⟩ (AN h2 hl) (by have:=T.le;exact BE hl this) λD e1 h' F' N' hD=>?_
 have kp:∀ b y,b≠c.L->c.hb.get? b=none->s.heap.get? b=some y->h'.get? b=some y:=λb y b1 b2 b3=>(N' _ (.tail _ (all b y b3 b1 b2))).1;have ki:cC s.heap h':=λb y e i=>by
   by_cases hb:b=c.L
   . subst hb;refine f9 F.ns λo es ep ho hd _=>?_;rw [ho] at e;obtain rfl:=Option.some.inj e;exact absurd i (cZ hd)
   . cases z:c.hb.get? b with
     | none=>exact kp b y hb z e
     | some y'=>have:=F.keep b y' z;rw [this] at e;clear i;obtain rfl:=Option.some.inj e;exact F'.keep b _ z
 rw [hl];refine oT (s:={ s with heap:=h' }) (f:=f) (T:=T0) (rs.keeps ki) hk hT h2 T.le T.len T.lt ?_
 rw [gw h2];have hne:∀ p∈news,p.1≠D:=λp hp=>Nat.ne_of_lt (hD p hp);refine KasFin.intro F' N' (.head hne) λh2 cc F2 N2=>?_;have S2:=S.kept (t:=s.toks) F S.tk F2 λb y b1 b2 b3=>(N2 _ (.tail _ (all b y b3 b1 b2))).1;have ki2:cC s.heap h2:=λb y e i=>by
   by_cases hb:b=c.L
   . subst hb;refine f9 F.ns λo es ep ho hd _=>?_;rw [ho] at e;obtain rfl:=Option.some.inj e;exact absurd i (cZ hd)
   . cases z:c.hb.get? b with
     | none=>exact (N2 _ (.tail _ (all b y e hb z))).1
     | some y'=>have:=F.keep b y' z;rw [this] at e;clear i;obtain rfl:=Option.some.inj e;exact F2.keep b _ z
 have eD:=N2 _ (.head _);have hDσ:D∉σ.map (·.1):=λhd=>by
   refine ap (List.mem_map.mp hd) λp hp z2_=>?_;clear N' hD N2 eD hd;obtain rfl:=z2_;refine ap ((S.ob p hp).there) λx ex _=>?_;exact hne _ (all _ x ex (S.ab p hp).2 (S.ab p hp).1) rfl
 have rD:RO c.w.params h2 D (.list ((eE [] f ts).map .tup)):=⟨_,cc,eD.1,by
   have:=(rs.keeps ki2).mapGet (cU f ts.length) (λi hi=>by rw [List.length_map];exact bS f T.le i hi)
   rw [<-pV f ts T.le,List.length_map];exact this⟩
 refine pv (S2.own rD hDσ eD.2.2 eD.2.1 λb hb=>?_) (.loc _) (h _ hDσ);refine mN (S.tm _ hb) λz3_ _ n2 n3=>?_;refine ap z3_ λy ey _=>?_;exact hne _ (all _ y ey n2 n3) rfl
theorem jK {a:Addr} {ts:List (List LV)} {f:Nat->Nat->Bool} {σ':aa} {K:LV->aa->Prop} (u:Up a (.list (ts.map .tup)) (.list ((eE [] f ts).map .tup)) σ σ') (T:TS ts f) (h2:2<=ts.length)
   (h:K .none σ') (A:Around) (tmp:List bt) (s:Shared) (S:St c le σ tmp s):wpAny (Mo c.w) A (call (.builtin "list.sort") [.ref a]) (PV c le tmp K) dh s:=by
 refine bb (S.ob _ u.mem) λus kk e rs=>?_;refine ap S.fr λm F _=>?_;refine du S.news λnews N nd all=>?_;have hl:us.length=ts.length:=by rw [<-rs.length,List.length_map]
 refine ap (T.kind (by intro h;rw [h] at h2;simp at h2)) λT0 hT hk=>?_
 refine bh ((S.ab _ u.mem).symm) λaL a0=>?_;have N0:News c.hb c.L s.heap ((a,listOf us.toArray kk)::news.filter (·.1≠a)):=λp hp=>by
   rcases List.mem_cons.mp hp with rfl | hp
   . exact ⟨e,aL,a0⟩
   . exact N p (List.mem_filter.mp hp).1
 have hne:∀ p∈news.filter (·.1≠a),p.1≠a:=λp hp=>by simpa using (List.mem_filter.mp hp).2
 have hin:∀ b y,s.heap.get? b=some y->b≠c.L->c.hb.get? b=none->b≠a->(b,y)∈news.filter (·.1≠a):=λb y b1 b2 b3 b4=>List.mem_filter.mpr ⟨all b y b1 b2 b3,by simpa using b4⟩
 have imms:∀ {h':Heap} {o:Obj},Fr c.hb c.L h' m->News c.hb c.L h' ((a,o)::news.filter (·.1≠a))->cC s.heap h':=λ{h' o} F' N' b y eb i=>by
   by_cases hb:b=c.L
   . subst hb;refine f9 F.ns λo es ep ho hd _=>?_;rw [ho] at eb;obtain rfl:=Option.some.inj eb;exact absurd i (cZ hd)
   . have hba:b≠a:=by rintro rfl;rw [e] at eb;obtain rfl:=Option.some.inj eb;revert i;simp [gR]
     cases z:c.hb.get? b with
     | none=>exact (N' _ (.tail _ (hin b y eb hb z hba))).1
     | some y'=>have:=F.keep b y' z;rw [this] at eb;clear i;obtain rfl:=Option.some.inj eb;exact F'.keep b _ z
 refine kat_lsort (vs:=us) F N0 (.head hne) (by simp) (AN h2 hl) (by have:=T.le;exact BE hl this) λe1 h' F' N'=>?_
 rw [hl];refine oT (s:={ s with heap:=h' }) (f:=f) (T:=T0) (rs.keeps (imms F' N')) hk hT h2 T.le T.len T.lt ?_
 rw [gw h2];refine KasFin.intro F' N' (.head hne) λh2 cc F2 N2=>?_;have S2:=S.kept1 (t:=s.toks) u.upd F S.tk F2 (λb y b1 b2 b3 b4=>(N2 _ (.tail _ (hin b y b4 b1 b2 b3))).1) λki2=>⟨_,cc,(N2 _ (.head _)).1,by
   have:=(rs.keeps ki2).mapGet (cU f ts.length) (λi hi=>by rw [List.length_map];exact bS f T.le i hi)
   rw [<-pV f ts T.le,List.length_map];exact this⟩
 exact pv S2 .none h
theorem qx {a:Addr} {ts:List (List LV)} {f:Nat->Nat->Bool} {σ':aa} {K:LV->aa->Prop} (u:Up a (.list (ts.map .tup)) (.list ((eE [] f ts).map .tup)) σ σ') (T:TS ts f) (h2:2<=ts.length)
   (h:K .none σ'):WC n c (.builtin "list.sort") [.loc a] le σ K:=λA hA tmp s vs S r=>by
 refine bl (aK.inv r) λ_ _ z4_ r1 r2=>?_;obtain rfl:=z4_;obtain rfl:=RV.inv r1;clear r;obtain rfl:=aK.nil_ r2;exact jK u T h2 h A tmp s S
end
theorem jW {prog:Program} {w:World} {A:Around} {E:Value->Shared->Prop} {s:Shared} {a:Addr} {vs:List Value} {n:Nat} {P:PySem.Fin->Shared->Prop} (ho:s.heap.get? a=some (seqObj "list" vs.toArray n)) (h2:vs.length < 2)
   (h:∀ h' k,(∀ b y,b≠a->s.heap.get? b=some y->h'.get? b=some y)->h'.get? a=some (seqObj "list" vs.toArray k)->P (.done (.ret .none)) { s with heap:=h' }) :
   wpAny (model prog w) A (Builtin.«list.sort» ⟨[.ref a],[]⟩) P E s:=by
 have ha:a < s.heap.objs.size:=Heap.lt_size ho;have s1:=Heap.SameBut.update s.heap a (Obj.mapSeq λ_=>(#[]:Array Value));obtain ⟨e1,ho1⟩:∃ e1,(s.heap.update a (Obj.mapSeq λ_=>(#[]:Array Value))).get? a=some (seqObj "list" #[] e1):=⟨_,get?_update_seq ho λ_=>#[]⟩;rw [list_sort_plain];refine wpAny_bind (listItems_at ho rfl ?_);refine wpAny_bind (listUpdate_at ho rfl ?_ (by rw [List.size_toArray,sizeLine_eq];exact J5 h2 rfl) (Nat.zero_le _))
 refine wpAny_bind (seqEpoch_at ho1 rfl ?_);refine wpAny_bind (wpAny_newTuple ?_ (by show vs.length<=_;rw [sizeLine_eq];exact J5 h2 rfl))
 refine wpAny_bind (wpAny_newList ?_ (Nat.zero_le _));refine wpAny_holding ?_;have ho3:(((s.heap.update a (Obj.mapSeq λ_=>(#[]:Array Value))).push (seqObj "tuple" vs.toArray 0)).push (seqObj "list" #[] 0)).get? a=some (seqObj "list" #[] e1):=Heap.get?_push_of_some _ (Heap.get?_push_of_some _ ho1);have kp:∀ b y,b≠a->s.heap.get? b=some y->(((s.heap.update a (Obj.mapSeq λ_=>(#[]:Array Value))).push (seqObj "tuple" vs.toArray 0)).push (seqObj "list" #[] 0)).get? b=some y:=λb y hb e =>
   Heap.get?_push_of_some _ (Heap.get?_push_of_some _ ((s1.2 b hb).trans e))
 show wpAny (model prog w) A _ P E { s with heap:=((s.heap.update a (Obj.mapSeq λ_=>(#[]:Array Value))).push (seqObj "tuple" vs.toArray 0)).push (seqObj "list" #[] 0) }
 generalize ((s.heap.update a (Obj.mapSeq λ_=>(#[]:Array Value))).push (seqObj "tuple" vs.toArray 0)).push (seqObj "list" #[] 0)=hh at ho3 kp;dsimp only;have hn2:vs.toArray.size < 2:=by rw [List.size_toArray];exact sG h2 rfl
 rw [if_pos hn2,if_pos hn2];refine wpAny_bind (wpAny_pure ?_);refine wpAny_bind (wpAny_pure ?_);dsimp only;have ha2:(arrOf (SortSt.mk' general' (vs.toArray.zip vs.toArray) #[] 7 none)).map (·.2)=vs.toArray:=by
   show (vs.toArray.zip vs.toArray).map (·.2)=vs.toArray
   apply Array.toList_inj.mp;rw [Array.toList_map,Array.toList_zip];rcases vs with _ | ⟨v,_ | ⟨u,r⟩⟩
   . rfl
   . rfl
   . simp only [List.length_cons] at h2;lia
 rw [ha2];have s2:=Heap.SameBut.update hh a (Obj.mapSeq λ_=>vs.toArray);obtain ⟨c2,hc2⟩:∃ c2,(hh.update a (Obj.mapSeq λ_=>vs.toArray)).get? a=some (seqObj "list" vs.toArray c2):=⟨_,get?_update_seq ho3 λ_=>vs.toArray⟩;refine wpAny_bind (seqEpoch_at ho3 rfl ?_);refine wpAny_bind (listUpdate_at ho3 rfl ?_ (Nat.zero_le _) (by rw [List.size_toArray,sizeLine_eq];lia))
 dsimp only;simp only [bne_self_eq_false,Bool.false_eq_true,if_false];exact wpAny_pure (h _ c2 (λb y hb e=>(s2.2 b hb).trans (kp b y hb e)) hc2)
section
variable {n:Nat} {c:Cx} {le:ak} {σ:aa}
theorem lQ {a:Addr} {l:List LV} {K:LV->aa->Prop} (hm:(a,.list l)∈σ) (h2:l.length < 2) (h:K .none σ) (A:Around) (tmp:List bt) (s:Shared) (S:St c le σ tmp s):wpAny (Mo c.w) A (call (.builtin "list.sort") [.ref a]) (PV c le tmp K) dh s:=by
 refine bb (S.ob _ hm) λus kk e rs=>?_;refine ap S.fr λm F _=>?_;refine aH (Up.ex (o':=.list l) hm) λσ' u=>?_;have eσ:σ'=σ:=by
   clear h e rs F S;generalize ho:LO.list l=o at u hm;induction u with
   | head=>rfl
   | tail u' ih=>rw [ih u'.mem]
 subst eσ;refine wpAny_call_entry slot_list_sort ⟨_,e,rfl⟩ entry_list_sort (jW e (by rw [<-rs.length];exact h2) λh' k kp eh=>?_) (args_list_sort _)
 have hlt:=(S.ab _ hm).2;have F':Fr c.hb c.L h' m:=⟨F.ns.at' λo e=>kp _ _ (Ne.symm hlt) e,λb o q=>kp _ _ (λhb=>by have h0:=(S.ab _ hm).1;rw [hb] at q;rw [show c.hb.get? a=none from h0] at q;cases q) (F.keep b o q),F.above⟩
 refine ⟨_,rfl,?_⟩;exact pv (S.kept1 (t:=s.toks) u.upd F S.tk F' (λb y _ _ b3 b4=>kp b y b3 b4) λki=>⟨us,k,eh,rs.keeps ki⟩) .none h
theorem mA {a:Addr} {l:List LV} {K:LV->aa->Prop} (hm:(a,.list l)∈σ) (h2:l.length < 2) (h:K .none σ):WC n c (.builtin "list.sort") [.loc a] le σ K:=λA hA tmp s vs S r=>by
 refine bl (aK.inv r) λ_ _ z0_ r1 r2=>?_;obtain rfl:=z0_;obtain rfl:=RV.inv r1;clear r;obtain rfl:=aK.nil_ r2;exact lQ hm h2 h A tmp s S
theorem jZ {a:Addr} {l:List LV} {K:LV->aa->Prop} (hm:(a,.list l)∈σ) (h2:l.length < 2) (h:∀ d,d∉σ.map (·.1)->K (.loc d) ((d,.list l)::σ)):WC n c (.builtin "sorted") [.loc a] le σ K:=λA hA tmp s vs S r=>by
 refine bl (aK.inv r) λ_ _ z1_ r1 r2=>?_;obtain rfl:=z1_;obtain rfl:=RV.inv r1;clear r;obtain rfl:=aK.nil_ r2;refine bb (S.ob _ hm) λus kk e rs=>?_;have hl:us.length < 2:=by rw [<-rs.length];exact h2
 refine Calls.call_function_entry kind_sorted plain_sorted entry_sorted (args_sorted1 _) ?_;unfold Builtin.«sorted»;refine wpAny_bind (m:=checkCount "sorted" 1 1 _) (wpAny_pure ?_);refine wpAny_bind (collect_list (vs:=us) ⟨_,e,rfl,kk,rfl⟩ ?_ (by rw [sizeLine_eq];exact J5 hl rfl))
 have keep:∀ b o,s.heap.get? b=some o->((s.heap.push (seqObj "list" #[] 0)).update s.heap.objs.size (Obj.mapSeq (·++us.toArray))).get? b=some o:=λb o q=>by
   have hlt:b < s.heap.objs.size:=Heap.lt_size q;rw [Heap.get?_update_ne _ _ _ _ (Nat.ne_of_lt hlt),Heap.get?_push_ne _ _ _ (Nat.ne_of_lt hlt)];exact q
 have S1:=S.grow keep;generalize (s.heap.push (seqObj "list" #[] 0)).update s.heap.objs.size (Obj.mapSeq (·++us.toArray))=h1 at keep S1
 have ki:cC s.heap h1:=λb o e _=>keep b o e;refine wpAny_bind (wpAny_newList ?_ (by rw [sizeLine_eq];exact J5 hl rfl))
 have S2:=S1.new (o:=seqObj "list" us.toArray 0) (lo:=.list l) ⟨us,0,Heap.get?_push_size _ rfl,(rs.keeps ki).keeps λb o e _=>Heap.get?_push_of_some _ e⟩;have hn:h1.objs.size∉σ.map (·.1):=λhm=>Nat.lt_irrefl _ (S1.key_lt hm)
 have hs:=lQ (c:=c) (le:=le) (K:=λx σ'=>x=.none/\σ'=(h1.objs.size,.list l)::σ) (.head _) h2 ⟨rfl,rfl⟩ A.in1 tmp { s with heap:=h1.push (seqObj "list" us.toArray 0) } S2
 refine wpAny_bind (wpAny_holding (wpAny_mono hs (λx s3 hq45=>?_) λ_ _ x=>x));refine bl hq45 λlv σ3 S3 e1 e2=>?_
 . subst e1;subst e2;exact wpAny_pure ⟨_,rfl,pv S3.drop1 (.loc _) (h _ hn)⟩
end
noncomputable def TR (xs:Array Nat):Prop:=∀ i j,i < j->j < xs.size->xs.getD i 0 < xs.getD j 0
theorem vW (xs:Array Nat) (i a b:Nat) (h:i < xs.size):xs.getD i a=xs.getD i b:=by simp [Array.getD,h]
structure BW (xs:Array Nat) (j r:Nat):Prop where
 le:r<=xs.size
 lo:∀ i,i < r->xs.getD i 0 < j
 hi:∀ i,r<=i->i < xs.size->j<=xs.getD i 0
theorem vh {xs:Array Nat} {j:Nat} (h:TR xs):∀ (fuel lo hi:Nat),lo<=hi->hi<=xs.size->hi - lo<=fuel->(∀ i,i < lo->xs.getD i 0 < j)->(∀ i,hi<=i->i < xs.size->j<=xs.getD i 0)->BW xs j (SetTable.below.go xs j fuel lo hi):=by
 intro fuel;induction fuel with
 | zero =>
   intro lo hi h1 h2 h3 hl hh;have:lo=hi:=Nat.le_antisymm h1 (Nat.le_of_sub_eq_zero (Nat.le_zero.mp h3));clear h1 h3;subst this;exact ⟨h2,hl,hh⟩
 | succ fuel ih =>
   intro lo hi h1 h2 h3 hl hh;unfold SetTable.below.go;split
   . rename_i hlt;dsimp only;have hm:(lo+hi) / 2 < xs.size:=Nat.lt_of_lt_of_le (zg hlt) h2;rw [vW xs _ j 0 hm];by_cases hc:xs.getD ((lo+hi) / 2) 0 < j
     . rw [if_pos hc];refine ih _ _ (zg hlt) h2 (Nat.le_trans (Nat.sub_le_sub_left (Nat.succ_le_succ (zf h1)) hi) (Nat.pred_le_pred h3)) (λi hi'=>?_) hh;refine Or.elim (Nat.lt_or_ge i ((lo+hi) / 2)) (λhx=>?_) λhx=>?_
       . exact Nat.lt_trans (h i _ hx hm) hc
       . have:i=(lo+hi) / 2:=Nat.le_antisymm (Nat.le_of_lt_succ hi') hx;rw [this];exact hc
     . rw [if_neg hc];refine ih _ _ (zf h1) (Nat.le_of_lt hm) (Nat.le_of_lt_succ (Nat.lt_of_lt_of_le (Nat.sub_lt_sub_right (zf h1) (zg hlt)) h3)) hl (λi hi' hs=>?_);refine Or.elim (Nat.lt_or_ge ((lo+hi) / 2) i) (λhx=>?_) λhx=>?_
       . exact Nat.le_trans (Nat.not_lt.mp hc) (Nat.le_of_lt (h _ i hx hs))
       . have:i=(lo+hi) / 2:=Nat.le_antisymm hx hi';rw [this];exact Nat.not_lt.mp hc
   . have:lo=hi:=Nat.le_antisymm h1 (Nat.not_lt.mp (by assumption))
     clear h1 h3;subst this;exact ⟨h2,hl,hh⟩
theorem kL {xs:Array Nat} (h:TR xs) (j:Nat):BW xs j (SetTable.below xs j):=vh h _ _ _ (Nat.zero_le _) (Nat.le_refl _) (Nat.sub_le _ _) (λi hi=>absurd hi (Nat.not_lt_zero i)) (λi h1 h2=>absurd h2 (Nat.not_lt.mpr h1))
theorem kN {xs:Array Nat} {j r r':Nat} (a:BW xs j r) (b:BW xs j r'):r=r':=by
 rcases Nat.lt_trichotomy r r' with h | h | h
 . have h1:=b.lo r h;have h2:=a.hi r (Nat.le_refl _) (by have:=b.le;exact yU h this);exact BX h1 h2
 . exact h
 . have h1:=a.lo r' h;have h2:=b.hi r' (Nat.le_refl _) (by have:=a.le;exact yU h this);exact BX h1 h2
theorem kO {xs:Array Nat} (h:TR xs):SetTable.below xs 0=0:=kN (kL h 0) ⟨Nat.zero_le _,λi hi=>absurd hi (Nat.not_lt_zero i),λi h1 h2=>Nat.zero_le _⟩
theorem kM {xs:Array Nat} (h:TR xs) {i:Nat} (hi:i < xs.size):SetTable.below xs (xs.getD i 0+1)=i+1:=by
 refine kN (kL h _) ⟨hi,λk hk=>?_,λk hk hs=>h i k (BR hk) hs⟩;refine Or.elim (Nat.lt_or_ge k i) (λhx=>?_) λhx=>?_
 . have:=h k i hx hi;exact Az this
 . have:k=i:=Nat.le_antisymm (Nat.le_of_lt_succ hk) hx;clear hi hk hx;subst this;exact Nat.lt_succ_self _
theorem gV (xs:Array Nat) (p x:Nat) (hp:p<=xs.size) (i:Nat):(SetTable.insertAt xs p x).getD i 0=if i < p then xs.getD i 0 else if i=p then x else xs.getD (i - 1) 0:=by
 have e:(SetTable.insertAt xs p x).getD i 0=(SetTable.insertAt xs p x).toList.getD i 0:=by simp
 rw [e,SetTable.toList_insertAt,List.getD_eq_getElem?_getD,List.getElem?_append];have hl:(List.take p xs.toList).length=p:=by rw [List.length_take,Array.length_toList];exact Nat.min_eq_left hp
 rw [hl];split
 . rename_i h;rw [List.getElem?_take_of_lt h];simp [Array.getD_eq_getD_getElem?]
 . rename_i h;split
   . rename_i h2;clear hp e hl h;subst h2;simp
   . rename_i h2;obtain ⟨k,rfl⟩:∃ k,i=p+(k+1):=Nat.exists_eq_add_of_lt (Nat.lt_of_le_of_ne (Nat.not_lt.mp h) (Ne.symm h2));rw [Nat.add_sub_cancel_left,List.getElem?_cons_succ,List.getElem?_drop,show p+(k+1) - 1=p+k from rfl];simp [Array.getD_eq_getD_getElem?]
theorem mr (xs:Array Nat) (p x:Nat) (hp:p<=xs.size):(SetTable.insertAt xs p x).size=xs.size+1:=by
 rw [<-Array.length_toList,(SetTable.insertAt_perm xs p x).length_eq];simp
theorem TR.insert {xs:Array Nat} (h:TR xs) {j:Nat} (hn:xs[SetTable.below xs j]?≠some j):TR (SetTable.insertAt xs (SetTable.below xs j) j):=by
 have b:=kL h j;generalize SetTable.below xs j=p at hn b;intro u v huv hv;rw [mr _ _ _ b.le] at hv;have hne:∀ i,p<=i->i < xs.size->j < xs.getD i 0:=λi h1 h2=>by
   have hb:=b.hi i h1 h2;refine Or.elim (Nat.lt_or_ge p i) (λhx=>?_) λhx=>?_
   . have h3:=h p i hx h2;have h4:=b.hi p (Nat.le_refl _) (J2 hx h2);exact Nat.lt_of_le_of_lt h4 h3
   . have:i=p:=Nat.le_antisymm hx h1;clear b h1 hx;subst this;have:xs.getD i 0≠j:=λe=>hn (by simp [Array.getD_eq_getD_getElem?,h2] at e ⊢;exact e)
     exact Nat.lt_of_le_of_ne hb (Ne.symm this)
 have hbl:=b.le;rw [gV _ _ _ b.le,gV _ _ _ b.le];by_cases h1:u < p
 . rw [if_pos h1];by_cases h2:v < p
   . rw [if_pos h2];exact h u v huv (Nat.lt_of_lt_of_le h2 hbl)
   . rw [if_neg h2];by_cases h3:v=p
     . rw [if_pos h3];exact b.lo u h1
     . have hp:=Nat.lt_of_le_of_ne (Nat.not_lt.mp h2) (Ne.symm h3);rw [if_neg h3];exact h u (v - 1) (Nat.lt_of_lt_of_le h1 (Nat.le_sub_one_of_lt hp)) (Bm hp hv)
 . rw [if_neg h1];have hp:=Nat.lt_of_le_of_lt (Nat.not_lt.mp h1) huv;rw [if_neg (Nat.not_lt.mpr (Nat.le_of_lt hp)),if_neg (Nat.ne_of_gt hp)];by_cases h3:u=p
   . rw [if_pos h3];exact hne _ (Nat.le_sub_one_of_lt hp) (Bm hp hv)
   . rw [if_neg h3];exact h _ _ (Nat.sub_lt_sub_right (Nat.succ_le_of_lt (Nat.zero_lt_of_lt (Nat.lt_of_le_of_ne (Nat.not_lt.mp h1) (Ne.symm h3)))) huv) (Bm hp hv)
theorem TR.range (n:Nat):TR (Array.range n):=λi j hij hj=>by
 have hj':j < n:=by simpa using hj
 simp [Array.getD_eq_getD_getElem?,hj',(by exact J2 hij hj':i < n)];exact hij
theorem wQ {t:SetTable} {f:Nat->Int} {h:Int}:∀ (fuel:Nat) (p:SetTable.Probe) {j:Nat} {d:Option Nat},(∀ x,p.dummy=some x->t.slot x=.dummy)->SetTable.probe.go t f h fuel p=some (.empty j d)->t.slot j=.empty/\∀ x,d=some x->t.slot x=.dummy:=by
 intro fuel;induction fuel with
 | zero=>intro p j d _ e;cases e
 | succ fuel ih =>
   intro p j d hp e;unfold SetTable.probe.go at e;have adv:∀ q:SetTable.Probe,(t.advance q).dummy=q.dummy:=λq=>by
     unfold SetTable.advance;split<;>rfl
   cases hs:t.slot p.j with
   | empty=>rw [hs] at e;cases e;exact ⟨hs,hp⟩
   | dummy =>
     rw [hs] at e;exact ih _ (λx hx=>by rw [adv] at hx;obtain rfl:=Option.some.inj hx;exact hs) e
   | live i =>
     rw [hs] at e;dsimp only at e;split at e
     . cases e
     . exact ih _ (λx hx=>by rw [adv] at hx;exact hp x hx) e
theorem iz {t:SetTable} {h:Int} {j:Nat} {b:Bool} (e:t.freeSlot h=some (j,b)):t.place[SetTable.below t.place j]?≠some j:=by
 have key:∀ x,(t.slot x=.empty\/t.slot x=.dummy)->t.place[SetTable.below t.place x]?≠some x:=λx hx hl=>by
   unfold SetTable.slot at hx;simp only [hl,BEq.rfl,if_true] at hx;refine Or.elim hx (λhx=>?_) λhx=>?_<;>cases hx
 unfold SetTable.freeSlot at e;split at e
 . rename_i j' d hp;have hg:=wQ (t:=t) _ _ (λx hx=>by cases hx) hp
   cases e;cases d with
   | none=>exact key _ (.inl hg.1)
   | some x=>exact key _ (.inr (hg.2 x rfl))
 . cases e
theorem ly {t:SetTable} (h:TR t.place) (es:Array (Int × Value)) (k:Int) (x:Value):TR (layNew t es k x).2.1.place/\(layNew t es k x).2.1.led=t.led:=by
 unfold layNew;split
 . rename_i slot wd e;have hn:=iz e;dsimp only;unfold SetTable.orStandIn;split
   . exact ⟨h.insert hn,rfl⟩
   . exact ⟨TR.range _,rfl⟩
 . exact ⟨TR.range _,rfl⟩
theorem TR.ofPairwise {l:List Nat} (h:l.Pairwise (· < ·)):TR l.toArray:=λi j hij hj=>by
 have hj':j < l.length:=by simpa using hj
 have:=List.pairwise_iff_getElem.mp h i j (J2 hij hj') hj' hij;simpa [Array.getD_eq_getD_getElem?,hj',(by exact J2 hij hj':i < l.length)] using this
theorem iK (t:SetTable) (h:TR t.place) (es:Array (Int × Value)) (wanted:Nat):TR (relayAll t es wanted).2.1.place/\(relayAll t es wanted).2.1.led=t.led:=by
 unfold relayAll;split
 . rename_i t' order e;dsimp only;split
   . unfold SetTable.relaid SetTable.laid at e;cases hl:SetTable.layClean (SetTable.sizeAbove wanted - 1) (es.map (·.1)) with
     | none=>rw [hl] at e;cases e
     | some owner =>
       rw [hl] at e;cases e;refine ⟨TR.ofPairwise ?_,rfl⟩;rw [List.pairwise_map];refine List.Pairwise.filterMap _ ?_ (List.pairwise_lt_range);intro a a' haa b hb b' hb';cases h1:owner.getD a none with
       | none=>rw [h1] at hb;cases hb
       | some v =>
         rw [h1] at hb;obtain rfl:=Option.some.inj hb;cases h2:owner.getD a' none with
         | none=>rw [h2] at hb';cases hb'
         | some v'=>rw [h2] at hb';obtain rfl:=Option.some.inj hb';exact haa
   . exact ⟨TR.range _,rfl⟩
 . exact ⟨TR.range _,rfl⟩
theorem kW:entryFor table "set.__iter__"=some Builtin.«frozenset.__iter__» :=
 entryFor_alias (id':="frozenset.__iter__") (by kernel_rfl) (by first | rfl | decide +kernel | (unfold String.splitOn;simp +decide [String.splitOnAux])) (by decide +kernel) (by kernel_rfl)
theorem bL:Slot "set_iterator" "__next__" "set_iterator.__next__" :=
 .of (owner:="set_iterator") (n:="__next__") (by rw [typeLookup_type,builtinLookup_eq_fast];kernel_rfl) (by decide +kernel) (by decide +kernel) (by decide +kernel)
   (by first | exact .inl (by decide +kernel) | exact .inr (by decide +kernel)) (by rw [isSubtype_type];kernel_rfl)
theorem gT:entryFor table "set_iterator.__next__"=some Builtin.«set_iterator.__next__»:=entryFor_of_tree (by kernel_rfl)
theorem pO:Manifest.owners.lookup "set_iterator"=some Manifest.sig_set_iterator:=by kernel_rfl
theorem iq (a:Value):argsOk "set_iterator.__next__" ⟨[a],[]⟩:=by
 unfold argsOk;rw [signature?_of (id:="set_iterator.__next__") (n:="__next__".toList.reverse) (o:="set_iterator".toList.reverse) (by kernel_rfl) pO];kernel_rfl
theorem ec {α:Type}:∀ {l:List α} {i:Nat} (h:i < l.length),(l[i]::l.eraseIdx i).Perm l:=by
 intro l;induction l with
 | nil=>exact λh=>nomatch h
 | cons x l ih =>
   intro i h;cases i with
   | zero=>exact .refl _
   | succ i=>exact (List.Perm.swap _ _ _).trans ((ih (Nat.lt_of_succ_lt_succ h)).cons x)
theorem ot {α:Type} (next:Nat->Nat):∀ (fuel k:Nat) (left:List α) (out:Array α),left.length=fuel->(pickOrder.go next fuel k left out).toList.Perm (out.toList++left):=by
 intro fuel;induction fuel with
 | zero =>
   intro k left out h;obtain rfl:left=[]:=List.length_eq_zero_iff.mp h;rw [List.append_nil];exact .refl _
 | succ fuel ih =>
   intro k left out h;unfold pickOrder.go;have hlt:next k % left.length < left.length:=Nat.mod_lt _ (h ▸ Nat.succ_pos _)
   rw [List.getElem?_eq_getElem hlt];dsimp only;refine (ih (k+1) _ _ (by rw [List.length_eraseIdx_of_lt hlt];exact BY h)).trans ?_
   rw [Array.toList_push,List.append_assoc];refine List.Perm.append_left _ ?_;exact ec hlt
theorem lI {α:Type} (next:Nat->Nat) (xs:Array α):(pickOrder next xs).toList.Perm xs.toList:=by
 exact ot next xs.size 0 xs.toList #[] (by simp)
theorem j0 {α:Type} {M:Model} {A:Around} {E:Value->Shared->Prop}:∀ (n:Nat) (xs:List α) {Q:List α->Shared->Prop} (s:Shared),xs.length=n->(∀ ys d,ys.Perm xs->Q ys { s with drawn:=d })->wpAny M A (drawOrder n xs) Q E s:=by
 intro n;induction n with
 | zero =>
   intro xs Q s h hQ;obtain rfl:xs=[]:=List.length_eq_zero_iff.mp h;exact wpAny_pure (hQ [] s.drawn (.refl _))
 | succ n ih =>
   intro xs Q s h hQ;cases xs with
   | nil=>cases h
   | cons x xs =>
     unfold drawOrder;have hch:∀ (Q':Nat->Shared->Prop),(∀ i d,i < (x::xs).length->Q' i { s with drawn:=d })->wpAny M A (choose .order (x::xs).length) Q' E s:=λQ' hq Γ p hΓ=>⟨by simp,hq _ _ (Nat.mod_lt _ (by simp))⟩
     refine wpAny_bind (hch _ λi d hi=>?_);rw [List.getElem?_eq_getElem hi];dsimp only;refine wpAny_bind (ih _ _ (by rw [List.length_eraseIdx_of_lt hi];exact BY h) λys d' hp=>?_)
     exact wpAny_pure (hQ _ d' ((hp.cons _).trans (ec hi)))
noncomputable def dp (w:World):Bool:=w.params.followText "set-order"
theorem fR (a:Addr) (slot given epochThen:Nat):setNext a slot given epochThen=(do
   let (es,epoch,t) <-setState a
   if <-setsByText then
     if epoch != epochThen then unsupported "set_iterator.__next__:elements-changed"
     return ((<-setWalk a)[given]?).map λe=>(e.2,slot)
   if (!t.plain && decide (es.size > 1))=true then unsupported "set_iterator.__next__:the-table-is-plain-no-more"
   (do if !t.led && !es.isEmpty then unsupported "set:maker-not-led")
   let i:=SetTable.below t.place slot
   return match es[i]?,t.place[i]? with
     | some (_,x),some j=>some (x,j+1)
     | _,_=>none):=rfl
theorem iO (a:Addr):setWalk a=(do
   let (es,epoch,t) <-setState a
   if <-setsByText then return pickOrder ((<-ask).params.setOrder a epoch) es
   if (!t.plain && decide (es.size > 1))=true then return (<-drawOrder es.size es.toList).toArray
   (do if !t.led && es.size > 1 then unsupported "set:maker-not-led")
   return es):=rfl
theorem pY (a:Addr):setDrawn a=(do
   let (es,_,t) <-setState a;let dp <-setsByText
   return !dp && (!t.plain && decide (es.size > 1))):=rfl
noncomputable def jI (v:Value) (i:Nat) (a:Addr) (n ep:Nat):Obj:={ cls:=.type "set_iterator",data:=.fields #[v,rawInt i,.ref a,rawInt n,rawInt ep] }
noncomputable def fH (w:World) (a:Addr) (es:Array (Int × Value)) (ep:Nat) (t:SetTable) (vs:List Value) (i:Nat) (v:Value) (h:Heap) (tp:Addr):Prop :=
 (∃ k:Nat,v=rawInt k/\dp w=true/\vs=((pickOrder (w.params.setOrder a ep) es).toList.map (·.2)))
 \/ (∃ places:List Nat,∃ m,v=.ref tp/\h.get? tp=some (aM (places.map λp=>rawInt (p:Nat)) m)/\vs=places.map (λp=>(es.toList.getD p (0,.none)).2)/\∀ p∈places,p < es.size)
 \/ (v=rawInt ((if i=0 then 0 else t.place.getD (i - 1) 0+1:Nat))/\dp w=false/\(!t.plain && decide (es.size > 1))=false/\t.led=true/\TR t.place/\vs=es.toList.map (·.2))
section
variable {w:World} {A:Around} {E:Value->Shared->Prop} {s:Shared}
theorem cr {Q:Bool->Shared->Prop} (h:Q (dp w) s):wpAny (Mo w) A setsByText Q E s:=by
 unfold setsByText;exact wpAny_bind (wpAny_askSetting (wpAny_pure h))
theorem um {I a tp:Addr} {i ep:Nat} {o:Obj} {es:Array (Int × Value)} {t:SetTable} {v:Value} {vs:List Value} {Q:Option Value->Shared->Prop} (hI:s.heap.get? I=some (jI v i a es.size ep)) (ha:s.heap.get? a=some o) (hd:o.data=.set es ep t)
   (hf:t.fits es.size=true) (htp:tp≠I) (F:fH w a es ep t vs i v s.heap tp) {x:Value} (hx:vs[i]?=some x)
   (hQ:∀ h' v',Heap.SameBut I s.heap h'->h'.get? I=some (jI v' (i+1) a es.size ep)->fH w a es ep t vs (i+1) v' h' tp->Q (some x) { s with heap:=h' }):wpAny (Mo w) A (pyNext (.ref I)) Q E s:=by
 have hty:s.TypeIs (.ref I) "set_iterator":=⟨_,hI,rfl⟩;unfold pyNext;refine wpAny_bind (wpAny_attempt (wpAny_callSpecial?_slot (name:=ofString "__next__") hty bL
   (wpAny_call_entry bL hty gT ?_ (iq _))))
 unfold Builtin.«set_iterator.__next__»;refine wpAny_bind (wpAny_of_eq (a:=(Value.ref I,[])) rfl ?_);dsimp only;refine wpAny_bind (wpAny_fieldsOf hI rfl ?_);dsimp only [jI,rawInt];refine wpAny_bind ?_;refine wpAny_setEntries_of ha hd hf ?_;rw [if_neg (by simp)]
 have fin:∀ (E':Value->Shared->Prop) (h1:Heap) (v':Value),Heap.SameBut I s.heap h1->h1.get? I=some (jI v' i a es.size ep)->fH w a es ep t vs (i+1) v' h1 tp ->
     wpAny (Mo w) A.in1 (setField (.ref I) 1 (.int ((i:Int)+1) 0) >>= λ_=>ret x) (λf s'=>∃ r,f=PySem.Fin.done (.ret r)/\wpAny (Mo w) A (pure (some r)) Q E s') E' { s with heap:=h1 }:=λE' h1 v' sb e1 F1=>by
   refine wpAny_bind (wpAny_setField_rec e1 (by show 1 < 5;decide) λh' e' sb'=>?_)
   refine wpAny_pure ⟨x,rfl,wpAny_pure (hQ h' v' (sb.trans sb') e' ?_)⟩;rcases F1 with F1 | ⟨places,m,f1,f2,f3⟩ | F1
   . exact .inl F1
   . exact .inr (.inl ⟨places,m,f1,(sb'.2 tp htp).trans f2,f3⟩)
   . exact .inr (.inr F1)
 rcases F with ⟨k,rfl,hb,hv⟩ | ⟨places,m,rfl,ht,hv,hp⟩ | ⟨rfl,hb,hdr,hl,hTR,hv⟩
 . show wpAny _ _ (setNext a k i ep >>= _) _ _ s;refine wpAny_bind ?_;rw [fR];refine wpAny_bind (wpAny_setState_of ha hd hf ?_);dsimp only;refine wpAny_bind (cr ?_);rw [hb];simp -iota only [if_true,bne_self_eq_false,Bool.false_eq_true,if_false];refine wpAny_bind ?_;rw [iO];refine wpAny_bind (wpAny_setState_of ha hd hf ?_);dsimp only;refine wpAny_bind (cr ?_);rw [hb];simp -iota only [if_true];refine wpAny_bind (wpAny_askSetting (wpAny_pure ?_));refine wpAny_pure ?_;rw [hv,List.getElem?_map,Array.getElem?_toList] at hx;show wpAny _ _ (match Option.map (λe=>(e.2,k)) (pickOrder (w.params.setOrder a ep) es)[i]? with | some (x,next)=>_ | none=>_) _ _ s
   cases hg:(pickOrder (w.params.setOrder a ep) es)[i]? with
   | none=>rw [hg] at hx;cases hx
   | some e =>
     rw [hg] at hx;clear hQ;obtain rfl:=Option.some.inj hx;dsimp only [Option.map];refine wpAny_bind (wpAny_setField_rec hI (by show 0 < 5;decide) λh1 e1 sb=>?_)
     exact fin _ h1 (rawInt k) sb e1 (.inl ⟨k,rfl,hb,hv⟩)
 . dsimp only;refine wpAny_bind (wpAny_seqItems ht rfl ?_);dsimp only;rw [hv,List.getElem?_map] at hx;cases hg:places[i]? with
   | none=>rw [hg] at hx;cases hx
   | some p =>
     rw [hg] at hx;clear hQ;obtain rfl:=Option.some.inj hx;have hp':=hp p (List.mem_of_getElem? hg);have e1:(List.map (λp=>rawInt (p:Nat)) places).toArray[((i:Int)).toNat]?=some (rawInt (p:Nat)):=by simp -iota [hg]
     rw [e1];dsimp only [rawInt];refine wpAny_bind ?_;unfold setNextDrawn;refine wpAny_bind (wpAny_setState_of ha hd hf ?_);dsimp only;simp -iota only [Int.toNat_natCast,bne_self_eq_false,Bool.false_eq_true,if_false];have e2:es[p]?=some es[p]:=Array.getElem?_eq_getElem hp';rw [e2];dsimp only;have e3:(es.toList.getD p (0,Value.none)).2=es[p].2:=by simp -iota [List.getD_eq_getElem?_getD,hp']
     refine wpAny_pure ?_;rw [<-e3];exact fin _ s.heap (.ref tp) (Heap.SameBut.refl _ _) hI (.inr (.inl ⟨places,m,rfl,ht,hv,hp⟩))
 . have hi:i < es.size:=by
     rw [hv,List.getElem?_map] at hx;refine Or.elim (Nat.lt_or_ge i es.size) (λh=>?_) λh=>?_
     . exact h
     . rw [List.getElem?_eq_none (by rw [Array.length_toList];exact h)] at hx;cases hx
   have hps:t.place.size=es.size:=by
     simp -iota only [SetTable.fits,Bool.and_eq_true,beq_iff_eq,decide_eq_true_eq] at hf;exact hf.1
   have hbel:SetTable.below t.place (if i=0 then 0 else t.place.getD (i - 1) 0+1)=i:=by
     split
     . rename_i h0;rw [h0];exact kO hTR
     . rename_i h0;rw [kM hTR (by lia)];exact BZ h0
   show wpAny _ _ (setNext a (if i=0 then 0 else t.place.getD (i - 1) 0+1) i ep >>= _) _ _ s
   refine wpAny_bind ?_;rw [fR];refine wpAny_bind (wpAny_setState_of ha hd hf ?_);dsimp only;refine wpAny_bind (cr ?_);rw [hb,hdr,hl];simp -iota only [Bool.false_eq_true,if_false,Bool.not_true,Bool.false_and];refine wpAny_pure ?_;rw [hbel];have e1:es[i]?=some es[i]:=Array.getElem?_eq_getElem hi;have e2:t.place[i]?=some (t.place.getD i 0):=by rw [Array.getElem?_eq_getElem (zN hi hps)];simp -iota [Array.getD,hps,hi]
   rw [e1,e2];dsimp only;have hx':x=es[i].2:=by
     rw [hv,List.getElem?_map,Array.getElem?_toList,e1] at hx;clear hQ fin;obtain rfl:=Option.some.inj hx;rfl
   clear hx hQ;subst hx';refine wpAny_bind (wpAny_setField_rec hI (by show 0 < 5;decide) λh1 e3 sb=>?_)
   exact fin _ h1 (rawInt ((t.place.getD i 0+1:Nat))) sb e3 (.inr (.inr ⟨rfl,hb,hdr,hl,hTR,hv⟩))
theorem wv {I a tp:Addr} {i ep:Nat} {o:Obj} {es:Array (Int × Value)} {t:SetTable} {v:Value} {vs:List Value} {Q:Option Value->Shared->Prop} (hh:A.handled=none) (hI:s.heap.get? I=some (jI v i a es.size ep)) (ha:s.heap.get? a=some o) (hd:o.data=.set es ep t)
   (hf:t.fits es.size=true) (htp:tp≠I) (F:fH w a es ep t vs i v s.heap tp) (hi:i=vs.length) (hl:vs.length=es.size)
   (hQ:∀ h',Heap.ExtBut I s.heap h'->Q none { s with heap:=h' }):wpAny (Mo w) A (pyNext (.ref I)) Q E s:=by
 have hty:s.TypeIs (.ref I) "set_iterator":=⟨_,hI,rfl⟩;unfold pyNext;refine wpAny_bind (wpAny_attempt (wpAny_callSpecial?_slot (name:=ofString "__next__") hty bL
   (wpAny_call_entry bL hty gT ?_ (iq _))))
 unfold Builtin.«set_iterator.__next__»;refine wpAny_bind (wpAny_of_eq (a:=(Value.ref I,[])) rfl ?_);dsimp only;refine wpAny_bind (wpAny_fieldsOf hI rfl ?_);dsimp only [jI,rawInt];refine wpAny_bind ?_;refine wpAny_setEntries_of ha hd hf ?_;rw [if_neg (by simp)]
 have fin:∀ (h1:Heap),Heap.ExtBut I s.heap h1 ->
     wpAny (Mo w) A.in1 (newExc (.type "StopIteration") [] >>= raiseNew) (λf s'=>∃ r,f=PySem.Fin.done (.ret r)/\wpAny (Mo w) A (pure (some r)) Q E s') (λe s'=>wpAny (Mo w) A (isInstance e (.type "StopIteration") >>= λb=>if b=true then pure none else throw e) Q E s') { s with heap:=h1 }:=λh1 sb=>by
   refine wpAny_bind ?_;simp -iota only [newExc,newTuple];refine wpAny_bind (wpAny_newObj_type ?_ (by size_fits))
   refine wpAny_bind (m:=firstArgMember _ _) (wpAny_of_eq (a:=Value.none) (by first | rfl | (simp -iota only [firstArgMember];rfl)) ?_)
   refine wpAny_newObj_type ?_ (by size_fits)
   simp -iota only [raiseNew];refine wpAny_bind (wpAny_handled ?_)
   first | rw [show A.in1.handled=none from hh] | rw [hh]
   refine wpAny_bind (wpAny_pure (wpAny_throw ?_));refine wpAny_bind (wpAny_isInstance (T:="StopIteration") (b:=true) ⟨_,Heap.get?_push_size _ rfl,rfl⟩ isSubtype_stop ?_);exact wpAny_pure (hQ _ ((sb.push _).push _))
 rcases F with ⟨k,rfl,hb,hv⟩ | ⟨places,m,rfl,ht,hv,hp⟩ | ⟨rfl,hb,hdr,hl',hTR,hv⟩
 . show wpAny _ _ (setNext a k i ep >>= _) _ _ s;refine wpAny_bind ?_;rw [fR];refine wpAny_bind (wpAny_setState_of ha hd hf ?_);dsimp only;refine wpAny_bind (cr ?_);rw [hb];simp -iota only [if_true,bne_self_eq_false,Bool.false_eq_true,if_false];refine wpAny_bind ?_;rw [iO];refine wpAny_bind (wpAny_setState_of ha hd hf ?_);dsimp only;refine wpAny_bind (cr ?_);rw [hb];simp -iota only [if_true];refine wpAny_bind (wpAny_askSetting (wpAny_pure ?_));refine wpAny_pure ?_;show wpAny _ _ (match Option.map (λe=>(e.2,k)) (pickOrder (w.params.setOrder a ep) es)[i]? with | some (x,next)=>_ | none=>_) _ _ s
   have hg:(pickOrder (w.params.setOrder a ep) es)[i]?=none:=by
     rw [<-Array.getElem?_toList];refine List.getElem?_eq_none ?_;rw [hi,hv,List.length_map];exact Nat.le_refl _
   rw [hg];dsimp only [Option.map];refine wpAny_bind (wpAny_setField_rec hI (by show 2 < 5;decide) λh1 e1 sb=>?_)
   exact fin h1 sb.extBut
 . dsimp only;refine wpAny_bind (wpAny_seqItems ht rfl ?_);dsimp only;have e1:(List.map (λp=>rawInt (p:Nat)) places).toArray[((i:Int)).toNat]?=none:=by
     have:places.length<=i:=by rw [hi,hv,List.length_map];exact Nat.le_refl _
     simp -iota [this]
   rw [e1];dsimp only;refine wpAny_bind (wpAny_setField_rec hI (by show 0 < 5;decide) λh1 e1 sb=>?_)
   refine wpAny_bind (wpAny_setField_rec e1 (by show 2 < 5;decide) λh2 e2 sb2=>?_)
   exact fin h2 (sb.trans sb2).extBut
 . have hps:t.place.size=es.size:=by
     simp -iota only [SetTable.fits,Bool.and_eq_true,beq_iff_eq,decide_eq_true_eq] at hf;exact hf.1
   have hie:i=es.size:=by rw [hi,hl]
   have hbel:SetTable.below t.place (if i=0 then 0 else t.place.getD (i - 1) 0+1)=i:=by
     split
     . rename_i h0;rw [h0];exact kO hTR
     . rename_i h0;rw [kM hTR (by lia)];exact BZ h0
   show wpAny _ _ (setNext a (if i=0 then 0 else t.place.getD (i - 1) 0+1) i ep >>= _) _ _ s
   refine wpAny_bind ?_;rw [fR];refine wpAny_bind (wpAny_setState_of ha hd hf ?_);dsimp only;refine wpAny_bind (cr ?_);rw [hb,hdr,hl'];simp -iota only [Bool.false_eq_true,if_false,Bool.not_true,Bool.false_and];refine wpAny_pure ?_;rw [hbel];have e1:es[i]?=none:=Array.getElem?_eq_none (by lia)
   rw [e1];dsimp only;refine wpAny_bind (wpAny_setField_rec hI (by show 2 < 5;decide) λh1 e1 sb=>?_)
   exact fin h1 sb.extBut
end
theorem dT {h:Heap} {o:Obj} {a:Nat} (e:a<=h.objs.size):a < (h.push o).objs.size:=by rw [Heap.size_push];exact J4 e
theorem iP:Slot "set_iterator" "__iter__" "set_iterator.__iter__" :=
 .of (owner:="set_iterator") (n:="__iter__") (by rw [typeLookup_type,builtinLookup_eq_fast];kernel_rfl) (by decide +kernel) (by decide +kernel) (by decide +kernel)
   (by first | exact .inl (by decide +kernel) | exact .inr (by decide +kernel)) (by rw [isSubtype_type];kernel_rfl)
theorem mn:entryFor table "set_iterator.__iter__"=some Builtin.«dict_keyiterator.__iter__» :=
 entryFor_alias (id':="dict_keyiterator.__iter__") (by kernel_rfl) (by first | rfl | decide +kernel | (unfold String.splitOn;simp +decide [String.splitOnAux])) (by decide +kernel) (by kernel_rfl)
theorem nB (a:Value):argsOk "set_iterator.__iter__" ⟨[a],[]⟩:=by
 unfold argsOk;rw [signature?_of (id:="set_iterator.__iter__") (n:="__iter__".toList.reverse) (o:="set_iterator".toList.reverse) (by kernel_rfl) pO];kernel_rfl
section
variable {w:World} {A:Around} {E:Value->Shared->Prop} {s:Shared}
noncomputable def nw (w:World) (es:Array (Int × Value)) (t:SetTable):Prop:=dp w=true\/(!t.plain && decide (es.size > 1))=true\/(t.led=true/\TR t.place)
theorem yw (es:List (Int × Value)) {places:List Nat} (h:places.Perm (List.range es.length)):(places.map (λp=>(es.getD p (0,Value.none)).2)).Perm (es.map (·.2)):=by
 have e:es.map (·.2)=(List.range es.length).map (λp=>(es.getD p (0,Value.none)).2):=by
   apply List.ext_getElem
   . simp
   . intro i h1 h2;have:i < es.length:=by simpa using h1
     simp [List.getD_eq_getElem?_getD,this]
 rw [e];exact h.map _
theorem js {a:Addr} {o:Obj} {es:Array (Int × Value)} {ep:Nat} {t:SetTable} {Q:Value->Shared->Prop} (ha:s.heap.get? a=some o) (hc:o.cls=.type "set") (hd:o.data=.set es ep t) (hf:t.fits es.size=true) (hg:nw w es t) (hz:es.size < scanBound)
   (hQ:∀ (h':Heap) (d:Drawn) (I tp:Addr) (v:Value) (vs:List Value),(∀ b y,s.heap.get? b=some y->h'.get? b=some y)->s.heap.objs.size<=I->I < h'.objs.size->tp < h'.objs.size->(tp=a\/s.heap.objs.size<=tp)->tp≠I->h'.get? I=some (jI v 0 a es.size ep)->fH w a es ep t vs 0 v h' tp->vs.Perm (es.toList.map (·.2)) ->
     Q (.ref I) { s with heap:=h',drawn:=d }):wpAny (Mo w) A (pyIter (.ref a)) Q E s:=by
 have hty:s.TypeIs (.ref a) "set":=⟨o,ha,hc⟩;have hal:=Heap.lt_size ha;refine wpAny_pyIter_slot hty PySem.F.slot_set_iter (wpAny_call_entry PySem.F.slot_set_iter hty kW ?_ (PySem.F.args_set_iter_1 _));unfold Builtin.«frozenset.__iter__»;refine wpAny_bind (wpAny_of_eq (a:=a) rfl ?_);unfold Builtin.Frozenset.sizeOf;refine wpAny_bind (wpAny_bind (wpAny_setEntries_of ha hd hf (wpAny_pure ?_)));refine wpAny_bind ?_;rw [pY];refine wpAny_bind (wpAny_setState_of ha hd hf ?_);dsimp only;refine wpAny_bind (cr (wpAny_pure ?_));cases hb:dp w with
 | true =>
   simp only [Bool.not_true,Bool.false_and,Bool.false_eq_true,if_false];refine wpAny_bind (wpAny_pure ?_);refine wpAny_bind (wpAny_setEpoch_of ha hd hf ?_);unfold newFields;refine wpAny_bind (wpAny_newObj_type (wpAny_pure ⟨_,rfl,"set_iterator",_,⟨_,Heap.get?_push_size _ rfl,rfl⟩,bL.lookup,?_⟩));refine hQ _ s.drawn _ a (rawInt 0) ((pickOrder (w.params.setOrder a ep) es).toList.map (·.2)) (λb y e=>Heap.get?_push_of_some _ e) (Nat.le_refl _) (dT (Nat.le_refl _)) (dT (Nat.le_of_lt hal)) (.inl rfl) (Nat.ne_of_lt hal)
     (Heap.get?_push_size _ rfl) (.inl ⟨0,rfl,hb,rfl⟩) ((lI _ _).map _)
 | false =>
   cases hdr:(!t.plain && decide (es.size > 1)) with
   | true =>
     simp only [Bool.not_false,Bool.true_and,if_true];refine wpAny_bind (j0 es.size (List.range es.size) _ List.length_range λplaces d hp=>?_);refine wpAny_bind (wpAny_newTuple ?_ (by have e:=hp.length_eq;rw [List.length_range] at e;show (List.map _ places).length<=_;rw [List.length_map,e,sizeLine_eq];unfold scanBound at hz;exact J5 hz rfl))
     have ha2:(s.heap.push (seqObj "tuple" (places.map λp=>rawInt (p:Nat)).toArray 0)).get? a=some o:=Heap.get?_push_of_some _ ha;refine wpAny_bind (wpAny_setEpoch_of ha2 hd hf ?_);unfold newFields;refine wpAny_bind (wpAny_newObj_type (wpAny_pure ⟨_,rfl,"set_iterator",_,⟨_,Heap.get?_push_size _ rfl,rfl⟩,bL.lookup,?_⟩));refine hQ _ d _ s.heap.objs.size (.ref s.heap.objs.size) (places.map (λp=>(es.toList.getD p (0,.none)).2)) (λb y e=>Heap.get?_push_of_some _ (Heap.get?_push_of_some _ e)) (Nat.le_of_lt (dT (Nat.le_refl _))) (dT (Nat.le_refl _)) (dT (Nat.le_of_lt (dT (Nat.le_refl _)))) (.inr (Nat.le_refl _)) (Nat.ne_of_lt (dT (Nat.le_refl _)))
       (Heap.get?_push_size _ rfl) (.inr (.inl ⟨places,0,rfl,?_,rfl,λp hp'=>List.mem_range.mp (hp.mem_iff.mp hp')⟩)) (yw _ (by rw [Array.length_toList];exact hp))
     exact Heap.get?_push_of_some _ (Heap.get?_push_size _ rfl)
   | false =>
     simp only [Bool.not_false,Bool.true_and,Bool.false_eq_true,if_false];rcases hg with hg | hg | ⟨hg1,hg2⟩
     . rw [hb] at hg;cases hg
     . rw [hdr] at hg;cases hg
     . refine wpAny_bind (wpAny_pure ?_);refine wpAny_bind (wpAny_setEpoch_of ha hd hf ?_);unfold newFields;refine wpAny_bind (wpAny_newObj_type (wpAny_pure ⟨_,rfl,"set_iterator",_,⟨_,Heap.get?_push_size _ rfl,rfl⟩,bL.lookup,?_⟩));exact hQ _ s.drawn _ a (rawInt 0) (es.toList.map (·.2)) (λb y e=>Heap.get?_push_of_some _ e) (Nat.le_refl _) (dT (Nat.le_refl _)) (dT (Nat.le_of_lt hal)) (.inl rfl) (Nat.ne_of_lt hal)
         (Heap.get?_push_size _ rfl) (.inr (.inr ⟨rfl,hb,hdr,hg1,hg2,rfl⟩)) (.refl _)
theorem vX {r:Addr} {Q:Bool->Shared->Prop} (hT:s.TypeIs (.ref r) "set") (h:Q false s):wpAny (Mo w) A (Builtin.List.listLengthHint (.ref r)) Q E s:=by
 unfold Builtin.List.listLengthHint;refine wpAny_bind (wpAny_specialOf hT PySem.F.slot_set_len.lookup ?_);generalize hid:("set.__len__":String)=id0
 wp_delta
 rw [show splitId id0=some ("set","__len__") from by subst hid;decide +kernel]
 subst hid;refine wpAny_bind (wpAny_isInstance (T:="set") (b:=true) hT (by rw [isSubtype_type];kernel_rfl) ?_)
 refine wpAny_ite_split (λhab=>absurd hab (by decide)) (λ_=>?_)
 refine wpAny_ite_split (λ_=>?_) (λhab=>absurd (by decide +kernel) hab)
 refine wpAny_bind (wpAny_typeOf hT ?_);exact wpAny_pure h
theorem w5 {a I tp:Addr} {o:Obj} {es:Array (Int × Value)} {ep:Nat} {t:SetTable} {vs:List Value} (hh:A.handled=none) (hd:o.data=.set es ep t) (hf:t.fits es.size=true) (hI:I≠a) (htp:tp≠I) (hl:vs.length=es.size) :
   WalksS pg w A I [I,a,tp] [I] (λx y=>y=x) vs.length (λi v=>vs[i]?=some v) (λi s=>∃ v,s.heap.get? I=some (jI v i a es.size ep)/\s.heap.get? a=some o/\fH w a es ep t vs i v s.heap tp) where
 sub b hb:=by simp at hb;simp [hb]
 grefl _:=rfl
 gtrans _ _ _ x y:=by subst x;exact y
 frame i s h' tk st _ hk:=by
   refine du st λv h1 h2 h3=>?_;refine ⟨v,hk _ (.head _) _ h1,hk _ (.tail _ (.head _)) _ h2,?_⟩;rcases h3 with h3 | ⟨places,m,f1,f2,f3⟩ | h3
   . exact .inl h3
   . exact .inr (.inl ⟨places,m,f1,hk _ (bF 2 rfl) _ f2,f3⟩)
   . exact .inr (.inr h3)
 item i s Q E hi st hQ:=by
   refine du st λv h1 h2 h3=>?_;refine um h1 h2 hd hf htp h3 (List.getElem?_eq_getElem hi) λh' v' sb e1 e2=>?_;refine hQ _ _ (List.getElem?_eq_getElem hi) ⟨v',e1,(sb.2 a (Ne.symm hI)).trans h2,e2⟩ ⟨λb y hb e=>(sb.2 b (by simpa using hb)).trans e,rfl,rfl,rfl,Nat.le_refl _⟩
 done s Q E st hQ:=by
   refine du st λv h1 h2 h3=>?_;exact wv hh h1 h2 hd hf htp h3 rfl hl λh' sb=>hQ _ ⟨λb y hb e=>sb b y (by simpa using hb) e,rfl,rfl,rfl,Nat.le_refl _⟩
 self i s Q E st hQ:=by
   refine du st λv h1 h2 h3=>?_;have hty:s.TypeIs (.ref I) "set_iterator":=⟨_,h1,rfl⟩;refine wpAny_pyIter_slot hty iP (wpAny_call_entry iP hty mn ?_ (nB _));show wpAny _ _ (ret (.ref I)) _ _ s;exact wpAny_pure ⟨_,rfl,"set_iterator",_,hty,bL.lookup,hQ⟩
theorem q8 {vs:List Value} {acc:Array Value} (h:ItemsOf (λi v=>vs[i]?=some v) acc vs.length):acc.toList=vs:=by
 apply List.ext_getElem?;intro j;rw [Array.getElem?_toList];refine Or.elim (Nat.lt_or_ge j acc.size) (λhj=>?_) λhj=>?_
 . have e1:acc[j]?=some acc[j]:=Array.getElem?_eq_getElem hj;rw [e1];exact (h.2 j _ e1).symm
 . rw [Array.getElem?_eq_none hj,List.getElem?_eq_none (by have:=h.1;lia)]
set_option maxHeartbeats 1000000 in
theorem jw {a:Addr} {o:Obj} {es:Array (Int × Value)} {ep:Nat} {t:SetTable} {Q:List Value->Shared->Prop} (hh:A.handled=none) (ha:s.heap.get? a=some o) (hc:o.cls=.type "set") (hd:o.data=.set es ep t) (hf:t.fits es.size=true) (hg:nw w es t) (hz:es.size < scanBound)
   (hQ:∀ (h':Heap) (d:Drawn) (tk:Nat) (vs:List Value),s.toks<=tk->(∀ b y,s.heap.get? b=some y->h'.get? b=some y)->vs.Perm (es.toList.map (·.2))->Q vs { s with heap:=h',drawn:=d,toks:=tk }) :
   wpAny (Mo w) A (collect (.ref a)) Q E s:=by
 have hal:=Heap.lt_size ha;unfold collect;refine wpAny_bind (wpAny_runValue (codeAny_builtin PySem.F.entry_proto_collect ?_));rw [Around.under_plainId PySem.F.plain_proto_collect _];show wpAny _ A.in1 (newList [] >>= λl=>again (.builtin "list.__iadd__" ⟨[l,.ref a],[]⟩)) _ _ s;refine wpAny_bind (wpAny_newObj_type ?_);refine wpAny_pure ⟨plainId_quiet PySem.F.plain_list_iadd _,codeAny_builtin PySem.F.entry_list_iadd ?_⟩;rw [Around.under_plainId PySem.F.plain_list_iadd _];have hS₁:(s.heap.push { cls:=.type "list",data:=.seq ([]:List Value).toArray }).get? s.heap.objs.size=some { cls:=.type "list",data:=.seq ([]:List Value).toArray }:=Heap.get?_push_size _ rfl;have ha1:(s.heap.push { cls:=.type "list",data:=.seq ([]:List Value).toArray }).get? a=some o:=Heap.get?_push_of_some _ ha;show wpAny _ A.in1 (Builtin.List.listExtendWith (.ref s.heap.objs.size) (.ref a) (.ref s.heap.objs.size)) _ _ _;unfold Builtin.List.listExtendWith;refine wpAny_bind (wpAny_typeOf (T:="set") ⟨o,ha1,hc⟩ ?_);have h1:Builtin.List.listSameRef (.ref s.heap.objs.size) (.ref a)=false:=by simp [Builtin.List.listSameRef];exact Nat.ne_of_gt hal
 rw [if_neg (by rw [h1];decide)]
 refine wpAny_bind (js ha1 hc hd hf hg hz λh' d I tp v vs hk hI1 hI2 htp1 htp2 htp hIo F hp=>?_);have hI1':s.heap.objs.size+1<=I:=by have:(s.heap.push { cls:=.type "list",data:=.seq ([]:List Value).toArray }).objs.size<=I:=hI1;rw [Heap.size_push] at this;exact this
 have htp2':tp=a\/s.heap.objs.size+1<=tp:=htp2.imp id λ(h:(s.heap.push { cls:=.type "list",data:=.seq ([]:List Value).toArray }).objs.size<=tp)=>by rw [Heap.size_push] at h;exact h
 refine wpAny_bind (wpAny_holding (vX (s:={ s with heap:=h',drawn:=d }) ⟨o,hk _ _ ha1,hc⟩ ?_))
 rw [if_pos (by decide)]
 refine wpAny_bind (wpAny_rule ?_);have hl:vs.length=es.size:=by rw [hp.length_eq];simp
 have W:=w5 (w:=w) (A:=A.in1) (I:=I) (a:=a) (tp:=tp) (vs:=vs) (o:=o) (es:=es) (ep:=ep) (t:=t) (by exact hh) hd hf (Nat.ne_of_gt (Nat.lt_of_lt_of_le hal (Nat.le_of_succ_le hI1'))) htp hl
 have hSf:s.heap.objs.size∉[I,a,tp]:=by
   simp only [List.mem_cons,List.not_mem_nil,or_false,not_or];refine ⟨Nat.ne_of_lt hI1',Nat.ne_of_gt hal,?_⟩;refine Or.elim htp2' (λh=>?_) λh=>?_
   . rw [h];exact Nat.ne_of_gt hal
   . exact Nat.ne_of_lt h
 refine wpAny_bind ?_;show wpAny _ _ (updateSeq s.heap.objs.size (·.push .none) >>= λ_=>updateSeq s.heap.objs.size (·.pop)) _ _ _
 have hS1:=hk _ _ hS₁;refine wpAny_bind (wpAny_updateSeq hS1 rfl ?_);have hS₂:=Heap.get?_update_self (Obj.mapSeq (·.push Value.none)) hS1 rfl
 refine wpAny_updateSeq (hz:=by seq_fits) hS₂ rfl ?_
 have hS₃:=Heap.get?_update_self (Obj.mapSeq (·.pop)) hS₂ rfl
 have kk:∀ b y,b≠s.heap.objs.size->h'.get? b=some y->((h'.update s.heap.objs.size (Obj.mapSeq (·.push Value.none))).update s.heap.objs.size (Obj.mapSeq (·.pop))).get? b=some y:=λb y hb e =>
   (Heap.get?_update_other _ _ (Ne.symm hb)).trans ((Heap.get?_update_other _ _ (Ne.symm hb)).trans e)
 simp only [List.mem_cons,List.not_mem_nil,or_false,not_or] at hSf;have F2:fH w a es ep t vs 0 v ((h'.update s.heap.objs.size (Obj.mapSeq (·.push Value.none))).update s.heap.objs.size (Obj.mapSeq (·.pop))) tp:=by
   rcases F with F | ⟨places,m,f1,f2,f3⟩ | F
   . exact .inl F
   . exact .inr (.inl ⟨places,m,f1,kk _ _ (Ne.symm hSf.2.2) f2,f3⟩)
   . exact .inr (.inr F)
 have hS4:((h'.update s.heap.objs.size (Obj.mapSeq (·.push Value.none))).update s.heap.objs.size (Obj.mapSeq (·.pop))).get? s.heap.objs.size=some { cls:=.type "list",dict:=none,data:=.seq #[] 2,slots:=#[] }:=hS₃
 show wpAny _ _ _ _ _ { s with heap:=(h'.update s.heap.objs.size (Obj.mapSeq (·.push Value.none))).update s.heap.objs.size (Obj.mapSeq (·.pop)),drawn:=d }
 clear hS₃;generalize (h'.update s.heap.objs.size (Obj.mapSeq (·.push Value.none))).update s.heap.objs.size (Obj.mapSeq (·.pop))=h2 at hS4 kk F2
 refine wpAny_pure ⟨plainId_quiet PySem.F.plain_extend_loop _,codeAny_extend_loopS W (by rw [hl,sizeLine_eq];have:scanBound=4096:=rfl;lia) _ (by simp only [List.mem_cons,List.not_mem_nil,or_false,not_or];exact hSf) _ vs.length 0 _ _ _ rfl (Nat.zero_le _) ⟨v,kk _ _ (Ne.symm hSf.1) hIo,kk _ _ (Ne.symm hSf.2.1) (hk _ _ ha1),F2⟩ hS4 (ItemsOf.nil _) λs' acc' c' hm hS' hacc=>?_⟩
 show wpAny _ A (load s.heap.objs.size >>= _) _ _ s';refine wpAny_bind (wpAny_load hS' ?_);refine wpAny_pure ?_;refine el λP kP=>?_;obtain ⟨hp',g',d',tk',os'⟩:=s';refine kP ?_;clear kP P;have m2:g'=s.gens:=hm.gens;have m3:d'=d:=hm.drawn;have m4:os'=s.os:=hm.os;subst m2 m3 m4;rw [q8 hacc];refine hQ hp' _ tk' vs hm.toks (λb y e=>?_) hp;have hb:=Heap.lt_size e;refine hm.heap b y ?_ (kk _ _ (Nat.ne_of_lt hb) (hk _ _ (Heap.get?_push_of_some _ e)));simp only [List.mem_cons,List.not_mem_nil,or_false,not_or];exact ⟨Nat.ne_of_lt hb,Nat.ne_of_lt (Nat.lt_of_lt_of_le hb (Nat.le_of_succ_le hI1'))⟩
end
noncomputable def yu:Value->Int
 | .int i _=>i
 | _=>0
noncomputable abbrev IK (w:World):=intKind pg w
structure d8 (w:World) (D:List Int) (es:Array (Int × Value)) (t:SetTable):Prop where
 el:ElemsOf (IK w) es.toList
 isI:∀ e∈es.toList,∃ i tk,e.2=.int i tk
 perm:(es.toList.map λe=>yu e.2).Perm D
 size:es.size < scanBound
 fits:t.fits es.size=true
 led:dp w=true\/t.led=true
 tr:TR t.place
theorem d8.good {w:World} {D:List Int} {es:Array (Int × Value)} {t:SetTable} (d:d8 w D es t):nw w es t:=d.led.elim .inl λh=>.inr (.inr ⟨h,d.tr⟩)
theorem d8.len {w:World} {D:List Int} {es:Array (Int × Value)} {t:SetTable} (d:d8 w D es t):es.size=D.length:=by
 have:=d.perm.length_eq;rwa [List.length_map,Array.length_toList] at this
noncomputable def i5 (w:World) (D:List Int) (o:Obj):Prop:=∃ es ep t,o.ExactSet/\o.data=.set es ep t/\d8 w D es t
theorem d8.find {w:World} {D:List Int} {es:Array (Int × Value)} {t:SetTable} (d:d8 w D es t) (k:Int):(∃ e∈es.toList,(IK w).is k e.2=true) ↔ k∈D:=by
 rw [<-d.perm.mem_iff,List.mem_map];constructor
 . intro z0_;refine ap z0_ λe he h=>?_;refine i4 (d.isI e he) λi tk hi=>?_;refine ⟨e,he,?_⟩;rw [hi] at h ⊢;exact (IK w).inj (.int i tk) i k (intKind_is _ _ _ _) h
 . intro z1_;refine ap z1_ λe he h=>?_;refine i4 (d.isI e he) λi tk hi=>?_;rw [hi] at h;have h:i=k:=h;exact ⟨e,he,by rw [hi,h];exact intKind_is _ _ _ _⟩
theorem d8.perm' {w:World} {D:List Int} {es es':Array (Int × Value)} {t t':SetTable} (d:d8 w D es t) (p:es'.toList.Perm es.toList) (f:t'.fits es'.size=true) (l:t'.led=t.led) (r:TR t'.place):d8 w D es' t' :=
 ⟨d.el.perm p,λe he=>d.isI e (p.mem_iff.mp he),(p.map _).trans d.perm,by have:=p.length_eq;rw [Array.length_toList,Array.length_toList] at this;rw [this];exact d.size,f,by rw [l];exact d.led,r⟩
theorem d8.push {w:World} {D:List Int} {es es':Array (Int × Value)} {t t':SetTable} (d:d8 w D es t) {k:Int} {tk:Tok} (p:es'.toList.Perm (es.push ((IK w).hash k,.int k tk)).toList) (f:t'.fits es'.size=true) (l:t'.led=t.led) (r:TR t'.place) (hb:es.size+1 < scanBound):d8 w (D++[k]) es' t':=by
 rw [Array.toList_push] at p;refine ⟨(d.el.push (intKind_is _ _ k tk) rfl).perm p,λe he=>?_,(p.map _).trans ?_,by have:=p.length_eq;rw [Array.length_toList,List.length_append,Array.length_toList] at this;rw [this];exact hb,f,by rw [l];exact d.led,r⟩
 . refine Or.elim (List.mem_append.mp (p.mem_iff.mp he)) (λh=>?_) λh=>?_
   . exact d.isI e h
   . rw [List.mem_singleton] at h;clear he;subst h;exact ⟨k,tk,rfl⟩
 . rw [List.map_append];exact d.perm.append (.refl _)
section
variable {w:World} {A:Around} {E:Value->Shared->Prop} {s:Shared}
theorem tw {h:Heap} {a:Addr} {o:Obj} {es:Array (Int × Value)} {ep:Nat} {t:SetTable} (ho:h.get? a=some o) (hd:o.data=.set es ep t) (es':Array (Int × Value)) (t':SetTable) :
   (h.update a (Obj.putSet es' t')).get? a=some { o with data:=.set es' (ep+1) t' }:=by
 have:=Heap.get?_update_self (Obj.putSet es' t') ho (by rw [putSet_of es' t' hd];rfl)
 rw [putSet_of es' t' hd] at this;exact this
theorem lP {Kt:Type} [DecidableEq Kt] {knd:KeyKind pg w Kt} {k:Kt} {x:Value} {a:Addr} {o:Obj} {es:Array (Int × Value)} {ep:Nat} {t:SetTable} {Q:Bool->Shared->Prop} (pk:Bool) (hpk:plainKind x=pk) (hsc:x.scannable=true) (hx:knd.is k x=true)
   (ho:s.heap.get? a=some o) (hd:o.data=.set es ep t) (hf:t.fits es.size=true) (hz:es.size < scanBound) (hel:ElemsOf knd es.toList) (I:Array (Int × Value)->SetTable->Prop) (hI:∀ es' t',I es' t'->es'.size < scanBound)
   (hfound:(∃ e∈es.toList,knd.is k e.2=true)->∀ b,Q b s)
   (hl1:(layNew t es (knd.hash k) x).2.1.plain=true->I (layNew t es (knd.hash k) x).1 (if pk then (layNew t es (knd.hash k) x).2.1 else { (layNew t es (knd.hash k) x).2.1 with plain:=false }))
   (hl2:(¬ ∃ e∈es.toList,knd.is k e.2=true)->¬ (layNew t es (knd.hash k) x).2.1.plain=true->I (layNew t es (knd.hash k) x).1 (layNew t es (knd.hash k) x).2.1)
   (hre:∀ es1 t2,I es1 t2->t2.tooFull=true->I (relayAll t2 es1 (SetTable.grown es1.size)).1 (relayAll t2 es1 (SetTable.grown es1.size)).2.1)
   (h:(¬ ∃ e∈es.toList,knd.is k e.2=true)->∀ h' es' t' ep' b,I es' t'->Heap.SameBut a s.heap h'->h'.get? a=some { o with data:=.set es' ep' t' }->Q b { s with heap:=h' }):wpAny (Mo w) A (setAddHashed a x (knd.hash k)) Q E s:=by
 unfold setAddHashed setAddHashedIn;refine wpAny_holding (wpAny_bind (wpAny_setState_of ho hd hf ?_));dsimp only;rw [byScan_of (knd:=knd) hsc hz hel];simp only [↓reduceIte];unfold setAddByScan;refine wpAny_bind ?_;refine wpAny_bind (wpAny_rule ?_);refine wpAny_bind (wpAny_setScan_of (knd:=knd) hx ho hd hf hel ?_);cases hr:List.findIdx? (λe=>knd.is k e.2) es.toList with
 | some j =>
   dsimp only;refine ap (List.findIdx?_eq_some_iff_getElem.mp hr) λhj hpj _=>?_;exact wpAny_pure (wpAny_pure (hfound ⟨_,List.getElem_mem hj,hpj⟩ _))
 | none =>
   dsimp only;have hk:¬ ∃ e∈es.toList,knd.is k e.2=true:=λhx26_=>ap hx26_ λe he hp=>by
     have:=List.findIdx?_eq_none_iff.mp hr e he;rw [hp] at this;cases this
   have hgw:∀ (b:Bool) {s₁:Shared} {Q':Unit->Shared->Prop},Q' () s₁->wpAny (Mo w) A (match b with | true=>rule "set.scan.the-table-gave-way" | false=>pure ()) Q' E s₁ :=
     λb s₁ Q' hq=>by cases b<;>first | exact wpAny_pure hq | exact wpAny_rule hq
   have h:=h hk;have hl2:=hl2 hk;generalize layNew t es (knd.hash k) x=L at hl1 hl2 ⊢;obtain ⟨es1,t1,wasDummy,gave⟩:=L;dsimp only at hl1 hl2 ⊢;refine wpAny_bind (hgw _ ?_);have body:∀ (g:Bool->Sem Unit),(∀ (b:Bool) (s₁:Shared) (Q':Unit->Shared->Prop),Q' () s₁->wpAny (Mo w) A (g b) Q' E s₁)->∀ (t2:SetTable),I es1 t2->wpAny (Mo w) A (do
       storeSet a es1 t2
       if (!wasDummy && t2.tooFull)=true then do
           g (relayAll t2 es1 (SetTable.grown es1.size)).2.2
           storeSet a (relayAll t2 es1 (SetTable.grown es1.size)).1 (relayAll t2 es1 (SetTable.grown es1.size)).2.1
           pure (some true)
         else pure (some true)) (λ(r:Option Bool) s'=>wpAny (Mo w) A (match r with | some added=>pure added | none=>setAddHashedIn a x (knd.hash k) 99999) Q E s') E s:=λg hg t2 d2=>by
     refine wpAny_bind (wpAny_storeSet_of ho hd ?_ (fits_of_scanBound (hI _ _ d2)));have ho1:=tw ho hd es1 t2;have hsb1:=Heap.SameBut.update s.heap a (Obj.putSet es1 t2);split
     . rename_i htf;have d3:=hre _ _ d2 (Bool.and_eq_true_iff.mp htf).2;generalize relayAll t2 es1 (SetTable.grown es1.size)=Rl at d3 ⊢;obtain ⟨es2,t3,gave2⟩:=Rl;refine wpAny_bind (hg _ _ _ ?_);refine wpAny_bind (wpAny_storeSet_of ho1 rfl ?_ (fits_of_scanBound (hI _ _ d3)));exact wpAny_pure (wpAny_pure (h _ _ _ _ _ d3 (hsb1.trans (Heap.SameBut.update _ a _)) (tw ho1 rfl es2 t3)))
     . exact wpAny_pure (wpAny_pure (h _ _ _ _ _ d2 hsb1 ho1))
   have hg:∀ (b:Bool) (s₁:Shared) (Q':Unit->Shared->Prop),Q' () s₁->wpAny (Mo w) A (match b with | true=>rule "set.scan.the-table-gave-way" | false=>pure ()) Q' E s₁:=λb s₁ Q' hq=>hgw b hq
   split
   . rename_i hpl;refine wpAny_bind ?_;rw [hashByValue_scannable 8 hsc];refine wpAny_pure ?_;rw [hpk];have hl1:=hl1 hpl;cases pk with
     | true=>exact body _ hg _ hl1
     | false=>exact body _ hg _ hl1
   . rename_i hpl;refine wpAny_bind (wpAny_pure ?_);simp only [↓reduceIte];exact body _ hg _ (hl2 hpl)
theorem pX {a:Addr} {o:Obj} {D:List Int} {k:Int} {tk:Tok} {Q:Bool->Shared->Prop} (ho:s.heap.get? a=some o) (hS:i5 w D o) (hroom:D.length+1 < scanBound)
   (h:∀ h' o' b,Heap.SameBut a s.heap h'->h'.get? a=some o'->i5 w (step_dedup D k) o'->Q b { s with heap:=h' }):wpAny (Mo w) A (setAddHashed a (.int k tk) ((IK w).hash k)) Q E s:=by
 refine f9 hS λes ep t hex hd d=>?_;have hb1:es.size+1 < scanBound:=by rw [d.len];exact hroom
 have d1:=d.push (layNew_perm t es ((IK w).hash k) (.int k tk)) (layNew_fits t es ((IK w).hash k) (.int k tk)) (ly d.tr es ((IK w).hash k) (.int k tk)).2 (ly d.tr es ((IK w).hash k) (.int k tk)).1 hb1;refine lP (knd:=IK w) (k:=k) true rfl rfl (intKind_is _ _ k tk) ho hd d.fits d.size d.el (d8 w (D++[k])) (λ_ _ d=>d.size) (λhk b=>?_) (λ_=>d1) (λ_ _=>d1)
   (λes1 t2 d2 _=>d2.perm' (relayAll_perm _ _ _) (relayAll_fits _ _ _) (iK _ d2.tr _ _).2 (iK _ d2.tr _ _).1) λhk h' es' t' ep' b d3 hs e'=>h h' _ b hs e' ?_
 . have e:step_dedup D k=D:=by unfold step_dedup;rw [if_pos (by simpa using (d.find k).mp hk)]
   exact h s.heap o _ (Heap.SameBut.refl a s.heap) ho (by rw [e];exact ⟨es,ep,t,hex,hd,d⟩)
 . have e:step_dedup D k=D++[k]:=by unfold step_dedup;rw [if_neg (by simpa using λm=>hk ((d.find k).mpr m))]
   rw [e];exact ⟨es',ep',t',hex,rfl,d3⟩
end
noncomputable def ee (ns:List Int) (i:Nat):List Int:=(ns.take i).foldl step_dedup []
theorem oY {ns:List Int} {i:Nat} (h:i < ns.length):ee ns (i+1)=step_dedup (ee ns i) (ns.getD i 0):=by
 unfold ee;rw [List.take_add_one,List.getElem?_eq_getElem h,Option.toList_some,List.foldl_append];simp [List.getD_eq_getElem?_getD,h]
theorem kU (ns:List Int) (i:Nat):(ee ns i).length<=i:=by
 have:=foldl_step_dedup_nil_length_le (ns.take i);unfold ee;rw [List.length_take] at this;lia
noncomputable def b9 (w:World):Obj:={ cls:=.type "set",dict:=none,data:=.set #[] 0 (.fresh 0 0 (!dp w)) }
theorem z9 (w:World):i5 w [] (b9 w):=⟨#[],0,_,⟨rfl,rfl,rfl⟩,rfl,λe he=>by simp at he,λe he=>by simp at he,.refl _,by decide,rfl,by
 show dp w=true\/(!dp w)=true;cases dp w<;>simp,λi j _ hj=>by exact absurd hj (Nat.not_lt_zero _)⟩
section
variable {w:World} {A:Around} {E:Value->Shared->Prop} {s:Shared} {R:Result->Shared->Prop} {I:Addr} {fp wr:List Addr} {G:Array GenState->Array GenState->Prop} {P:Nat->Value->Prop} {St:Nat->Shared->Prop}
theorem w4 {ns:List Int} (W:WalksS pg w A.in1 I fp wr G ns.length P St) (D:Addr) (hSf:D∉fp) (hval:∀ i v,P i v->∃ t,v=.int (ns.getD i 0) t) (hb:ns.length+1 < scanBound) :
   ∀ (k i:Nat) (s:Shared),ns.length - i=k->i<=ns.length->St i s->(∃ o,s.heap.get? D=some o/\i5 w (ee ns i) o) ->
     (∀ s',Moved (D::wr) G s s'->(∃ o,s'.heap.get? D=some o/\i5 w (ee ns ns.length) o)->R (.ok (.ret .none)) s') ->
     codeAny (Mo w) A (.builtin "set.update.loop" ⟨[.ref D,.ref I],[]⟩) R s:=by
 have hSw:D∉wr:=λh=>hSf (W.sub _ h);have hsub:∀ b∈wr,b∈D::wr:=λb hb=>List.mem_cons_of_mem _ hb;intro k;induction k with
 | zero =>
   intro i s hk hi hst ⟨o,ho,hS⟩ hR;have hin:i=ns.length:=AO hk hi;clear hk hi;subst hin;refine codeAny_builtin PyProof.Rows.F.entry_set_update_loop ?_;rw [Around.under_plainId PyProof.Rows.F.plain_set_update_loop _];show wpAny _ A.in1 (pyNext (.ref I) >>= _) _ _ s;refine wpAny_bind (W.done s _ _ hst λs' hm=>?_);show wpAny _ A.in1 (ret Value.none) _ _ s';exact wpAny_pure (hR s' (hm.mono hsub) ⟨o,hm.heap D _ hSw ho,hS⟩)
 | succ k ih =>
   intro i s hk hi hst ⟨o,ho,hS⟩ hR;have hlt:i < ns.length:=AP hk hi;refine codeAny_builtin PyProof.Rows.F.entry_set_update_loop ?_;rw [Around.under_plainId PyProof.Rows.F.plain_set_update_loop _];show wpAny _ A.in1 (pyNext (.ref I) >>= _) _ _ s;refine wpAny_bind (W.item i s _ _ hlt hst λv s' hP hst' hm=>?_);refine aH (hval i v hP) λt z0_=>?_;clear hP;obtain rfl:=z0_;have ho':=hm.heap D _ hSw ho;show wpAny _ A.in1 (holding [Value.int (ns.getD i 0) t] (setAdd D (.int (ns.getD i 0) t)) >>= _) _ _ s';refine wpAny_bind (wpAny_holding ?_);unfold setAdd;refine wpAny_holding ?_;refine wpAny_bind ((IK w).pyHash (k:=ns.getD i 0) (intKind_is _ _ _ _) ?_);have hroom:(ee ns i).length+1 < scanBound:=by have:=kU ns i;lia
   refine pX (s:={ s' with toks:=s'.toks+1 }) ho' hS hroom λh' o' b hsb ho2 hS2=>?_
   refine wpAny_pure ⟨plainId_quiet PyProof.Rows.F.plain_set_update_loop _,ih (i+1) _ (Aw hk hlt hi) hlt (W.frame _ s' _ _ hst' (Nat.le_succ _) λb hb o e=>?_) ⟨o',ho2,by rw [oY hlt];exact hS2⟩ λs'' hm'' hS''=>?_⟩
   . rw [hsb.2 b (λh:b=D=>hSf (by rw [<-h];exact hb))];exact e
   . refine hR s'' (Moved.trans W.gtrans ((hm.mono hsub).then_heap (Nat.le_succ _) λb o hb e=>?_) hm'') hS'';rw [hsb.2 b (λh:b=D=>hb (by rw [h];exact List.mem_cons_self))];exact e
theorem wU (a:Value) {Q₁:Value->Shared->Prop} (h:Q₁ (.ref s.heap.objs.size) { s with heap:=s.heap.push (b9 w) }) :
   codeAny (Mo w) A (.call (.builtin "set.__new__") ⟨[.type "set",a],[]⟩) (wants Q₁ E) s:=by
 refine codeAny_of_tree ?_;show wpAny _ A.in1 (do checkBuiltinCall "set.__new__" ⟨[.type "set",a],[]⟩;again (.builtin "set.__new__" ⟨[.type "set",a],[]⟩)) _ _ s
 refine wpAny_bind (wpAny_of_eq (PySem.F.newCall_set_1 a) (wpAny_pure ⟨plainId_quiet PySem.F.plain_set_new _,codeAny_builtin PySem.F.entry_set_new ?_⟩));rw [Around.under_plainId PySem.F.plain_set_new _];unfold Builtin.«set.__new__» Builtin.Frozenset.newClass;have hsub:=sub_set_self;refine el λP kP=>?_;obtain ⟨hp,g,d,tk,os⟩:=s;refine kP ?_;clear kP P;dsimp only
 wp_walk
 refine wpAny_askSetting (wpAny_pure ?_);dsimp only;simp only [newObj];refine wpAny_bind (wpAny_alloc (wpAny_pure ?_));exact wpAny_pure h
theorem jQ {prog:Program} {T newId initId:String} {args:List Value} {Q Q₁:Value->Shared->Prop} (ft:TypeCalled T newId initId) (hct:checkTypeCall T ⟨args,[]⟩=pure ())
   (hnew:codeAny (model prog w) A.in1 (.call (.builtin newId) ⟨.type T::args,[]⟩) (wants Q₁ E) s)
   (hnext:∀ obj s₁,Q₁ obj s₁->s₁.TypeIs obj T/\codeAny (model prog w) A.in1 (.call (.builtin initId) ⟨obj::args,[]⟩) (wants (λr s₂=>r=.none/\Q obj s₂) E) s₁) :
   wpAny (model prog w) A (call (.type T) args) Q E s:=by
 refine i4 ft.mro λc tl hmro=>?_;have hmade:=ft.made;have hsub:=ft.sub;refine wpAny_call (codeAny_of_tree ?_);show wpAny _ _ (callAny (.type T) _) _ _ _;refine wpAny_pure ⟨Code.quiet_builtin _ (by decide +kernel),codeAny_builtin PySem.F.entry_type_call ?_⟩
 rw [Around.under_plain (weight_type_call_type T args []) rfl];have h1:=ft.notType;have h2:=ft.canCreate
 repeat (any_goals (first | assumption | wp_step))
 refine codeAny_mono hnew λr s₁ hr=>?_;cases r with
 | error e=>exact hr
 | ok fl =>
   cases fl with
   | ret obj =>
     refine bh (hnext _ _ hr) λhT hsi=>?_;have hli:=ft.init.lookup;have hbi:=ft.init.bind obj
     repeat (any_goals (first | assumption | wp_step))
     refine codeAny_mono hsi λr₂ s₂ hr₂=>?_;cases r₂ with
     | error e=>exact hr₂
     | ok fl₂ =>
       cases fl₂ with
       | ret r =>
         refine bh hr₂ λz1_ hq=>?_;clear hr₂;obtain rfl:=z1_
         repeat (any_goals (first | assumption | wp_step))
       | _=>exact hr₂.elim
   | _=>exact hr.elim
theorem mw {D l:Addr} {P':PySem.Fin->Shared->Prop} (hh:A.handled=none) {items:Array Value} (hS:s.heap.get? D=some (b9 w)) (hl:s.heap.IsList l items)
   (h:wpAny (Mo w) A (runValue (.builtin "set.update.loop" ⟨[.ref D,.ref s.heap.objs.size],[]⟩)) (λ_ s'=>P' (.done (.ret .none)) s') E { s with heap:=s.heap.push { cls:=.type "list_iterator",data:=.fields #[.ref l,.int 0 0] } }) :
   wpAny (Mo w) A (Builtin.«set.__init__» ⟨[.ref D,.ref l],[]⟩) P' E s:=by
 have hT:s.TypeIs (.ref D) "set":=⟨_,hS,rfl⟩;have hTl:=hl.typeIs;unfold Builtin.«set.__init__» noKeywords Builtin.Frozenset.updateFrom;refine wpAny_bind (wpAny_of_eq (a:=()) rfl ?_);dsimp only;refine wpAny_bind (m:=typeNameOfCut 200 (.ref D)) ?_;unfold typeNameOfCut shownTypeOf;refine wpAny_bind (wpAny_bind (wpAny_typeOf hT ?_));refine wpAny_pure ?_;refine wpAny_of_eq (a:="set") (by first | rfl | kernel_rfl) ?_
 refine wpAny_bind (wpAny_of_eq (a:=()) (by first | rfl | kernel_rfl) ?_)
 refine wpAny_bind (wpAny_of_eq (a:=D) rfl ?_);unfold setUsed;refine wpAny_bind (wpAny_bind (wpAny_setState_of hS rfl (by rfl) (wpAny_pure ?_)))
 rw [if_neg (show ¬ ((#[],0,SetTable.fresh 0 0 !dp w).snd.snd.fill != 0)=true from (by exact Bool.false_ne_true))]
 refine wpAny_bind ?_;refine wpAny_bind (m:=Builtin.Frozenset.isAnySet (.ref l)) ?_;unfold Builtin.Frozenset.isAnySet;refine wpAny_bind (wpAny_isInstance (b:=false) hTl PySem.F.sub_list_set ?_);show wpAny _ _ (isInstance (.ref l) (.type "frozenset")) _ _ _;refine wpAny_isInstance (b:=false) hTl PySem.F.sub_list_frozenset ?_;rw [if_neg Bool.false_ne_true];refine wpAny_bind (wpAny_typeOf hTl ?_);rw [if_neg (by decide)]
 refine wpAny_bind (wpAny_pyIter_list hl ?_);refine wpAny_bind (wpAny_mono h (λv s' hv=>?_) λ_ _ x=>x);exact wpAny_pure (wpAny_pure hv)
theorem mj {l:Addr} {items:Array Value} {ns:List Int} {Q:Value->Shared->Prop} (hh:A.handled=none) (hl:s.heap.IsList l items) (hi:IntsAre items.toList ns) (hb:ns.length+1 < scanBound)
   (h:∀ (h':Heap) (tk:Nat) o,s.toks<=tk->h'.get? s.heap.objs.size=some o->i5 w (ee ns ns.length) o->(∀ b o,b < s.heap.objs.size->s.heap.get? b=some o->h'.get? b=some o)->Q (.ref s.heap.objs.size) { s with heap:=h',toks:=tk }) :
   wpAny (Mo w) A (call (.type "set") [.ref l]) Q E s:=by
 refine jQ PySem.F.called_set (PySem.F.typeCall_set_1 (.ref l)) (wU (.ref l) (E:=E) (Q₁:=λobj s₁=>obj=.ref s.heap.objs.size/\s₁={ s with heap:=s.heap.push (b9 w) }) ⟨rfl,rfl⟩) ?_
 intro obj s₁ z2_;refine bh z2_ λz3_ z4_=>?_;obtain rfl:=z3_;clear z2_;obtain rfl:=z4_;have hS:(s.heap.push (b9 w)).get? s.heap.objs.size=some (b9 w):=Heap.get?_push_size _ rfl;have hkeep:∀ b y,s.heap.get? b=some y->(s.heap.push (b9 w)).get? b=some y:=λb y e=>Heap.get?_push_of_some _ e;have hT:Shared.TypeIs { s with heap:=s.heap.push (b9 w) } (.ref s.heap.objs.size) "set":=⟨_,hS,rfl⟩
 refine ⟨hT,codeAny_call_builtin PySem.F.called_set.init.plain PySem.F.entry_set_init (check_set_init_1 hT ?_)⟩;have hin:items.size=ns.length:=by have:=hi.length;rwa [Array.length_toList] at this
 refine ap (id hl) λol hol _=>?_;have hlS:l < s.heap.objs.size:=Heap.lt_size hol;have hl1:(s.heap.push (b9 w)).IsList l items:=hl.push _;have hsz:(s.heap.push (b9 w)).objs.size=s.heap.objs.size+1:=by rw [Heap.size_push]
 generalize s.heap.push (b9 w)=h1 at hS hl1 hsz hkeep;refine mw (s:={ s with heap:=h1 }) (by exact hh) hS hl1 ?_
 refine wpAny_runValue ?_;have hlt1:s.heap.objs.size < h1.objs.size:=by rw [hsz];exact Nat.lt_succ_self _
 have hlt2:l < h1.objs.size:=Nat.lt_trans hlS hlt1;have hneI:l≠h1.objs.size:=Nat.ne_of_lt hlt2;have hSf:s.heap.objs.size∉[h1.objs.size,l]:=by
   simp only [List.mem_cons,List.not_mem_nil,or_false,not_or];exact ⟨Nat.ne_of_lt hlt1,Nat.ne_of_gt hlS⟩
 have hval:∀ (i:Nat) (v:Value),items[i]?=some v->∃ t,v=.int (ns.getD i 0) t:=λi v hv=>IntsAre.int_at hi i v (by rw [Array.getElem?_toList];exact hv)
 have W:=(Walks.list (prog:=pg) (w:=w) (A:=A.in1.in1.in1) (by exact hh) _ l hneI items).toS
 rw [hin] at W;refine w4 W s.heap.objs.size hSf hval hb (ns.length - 0) 0 _ (by lia) (Nat.zero_le _) ⟨⟨_,Heap.get?_push_size _ rfl,rfl,rfl⟩,(hl1.push _)⟩ ⟨_,Heap.get?_push_of_some _ hS,z9 w⟩ ?hR
 case hR =>
   intro s' hm ⟨o,ho,hS'⟩;refine el λP kP=>?_;obtain ⟨h',g',d',tk',os'⟩:=s';refine kP ?_;clear kP P;have eg:g'=s.gens:=hm.gens;have ed:d'=s.drawn:=hm.drawn;have eo:os'=s.os:=hm.os;subst eg;subst ed;subst eo;refine ⟨rfl,h h' tk' o hm.toks ho hS' λb y hb e=>?_⟩;exact hm.heap b y (by simp only [List.mem_cons,List.mem_singleton,List.not_mem_nil,or_false,not_or];exact ⟨Nat.ne_of_lt hb,Nat.ne_of_lt (Nat.lt_trans hb hlt1)⟩) (Heap.get?_push_of_some _ (hkeep _ _ e))
end
noncomputable def cf (ns:List Int):List Int:=ns.foldl step_dedup []
theorem kT (ns:List Int):ee ns ns.length=cf ns:=by unfold ee cf;rw [List.take_length]
theorem dx {h:Heap}:∀ {ns:List Int} {vs:List Value},aK h (ns.map .int) vs->IntsAre vs ns:=by
 intro ns;induction ns with
 | nil=>intro _ r;rw [aK.nil_ r];exact .nil
 | cons y ys ih =>
   intro _ r;refine bl (aK.inv r) λ_ _ z7_ r1 r2=>?_;refine aH (RV.inv r1) λt z8_=>?_;rw [z7_,z8_];exact .cons y t (ih r2)
theorem gt {h:Heap}:∀ {ns:List Int} {vs:List Value},IntsAre vs ns->aK h (ns.map .int) vs
 | _,_,.nil=>.nil
 | _,_,.cons n t r=>.cons (.int n t) (gt r)
theorem iD {o:Obj} (h:o.ExactSet):¬ gR o:=bU h.1
section
variable {n:Nat} {c:Cx} {le:ak} {σ:aa}
theorem jN {a:Addr} {ns:List Int} {K:LV->aa->Prop} (hm:(a,.list (ns.map .int))∈σ) (hb:ns.length<=1000) (h:∀ d,d∉σ.map (·.1)->K (.loc d) ((d,.raw (i5 c.w (cf ns)))::σ)):WC n c (.type "set") [.loc a] le σ K:=λA hA tmp s vs S r=>by
 refine bl (aK.inv r) λ_ _ z0_ r1 r2=>?_;obtain rfl:=z0_;obtain rfl:=RV.inv r1;clear r;obtain rfl:=aK.nil_ r2;refine bb (S.ob _ hm) λus kk e rs=>?_;refine mj (items:=us.toArray) (ns:=ns) hA.handled ⟨_,e,rfl,kk,rfl⟩ (dx rs) (by unfold scanBound;exact zK hb rfl) λh' tk o htk ho hS hk=>?_
 have S1:=(S.grow λb y e=>hk b y (Heap.lt_size e) e).toks tk (Nat.lt_of_lt_of_le S.tk htk);have S2:=S.newAt S1 (lo:=.raw (i5 c.w (cf ns))) ⟨o,ho,by rw [<-kT];exact hS,by refine md hS λ_ _ _ hx _=>?_;exact iD hx⟩
 exact pv S2 (.loc _) (h _ λhm=>Nat.lt_irrefl _ (S.key_lt hm))
theorem oy {a:Addr} {ns:List Int} {σ':aa} {K:LV->aa->Prop} (u:Up a (.list (ns.map .int)) (.list ((sortI ns).map .int)) σ σ') (h64:ns.length < 64) (h:K .none σ') (A:Around) (tmp:List bt) (s:Shared) (S:St c le σ tmp s) :
   wpAny (Mo c.w) A (call (.builtin "list.sort") [.ref a]) (PV c le tmp K) dh s:=by
 refine bb (S.ob _ u.mem) λus kk e rs=>?_;refine ap S.fr λm F _=>?_;have hl:us.length=ns.length:=by rw [<-rs.length,List.length_map]
 refine wpAny_call_entry slot_list_sort ⟨_,e,rfl⟩ entry_list_sort (list_sort_tree e (dx rs) (BS hl h64) λout ns' hI hp hs=>?_) (args_list_sort _);have kp:∀ b y,b≠a->s.heap.get? b=some y->(sortedHeap s.heap a us out).get? b=some y:=λb y hb e=>(sortedHeap_old hb (Heap.lt_size e)).trans e;have hlt:=(S.ab _ u.mem).2;have F':Fr c.hb c.L (sortedHeap s.heap a us out) m:=⟨F.ns.at' λo e=>kp _ _ (Ne.symm hlt) e,λb o q=>kp _ _ (λhb=>by have h0:=(S.ab _ u.mem).1;rw [hb] at q;rw [show c.hb.get? a=none from h0] at q;cases q) (F.keep b o q),F.above⟩
 refine ⟨_,rfl,?_⟩;have hat:=sortedHeap_at (out:=out) e;refine aH hat λep hat=>?_;have es:=eq_sortI hp hs;clear hp hs;subst es;exact pv (S.kept1 (t:=s.toks) u.upd F S.tk F' (λb y _ _ b3 b4=>kp b y b3 b4) λki=>⟨out.toList,ep,by simpa using hat,gt hI⟩) .none h
theorem v5 {w:World} {D:List Int} {es:Array (Int × Value)} {t:SetTable} (d:d8 w D es t) {vs:List Value} (p:vs.Perm (es.toList.map (·.2))):∃ ns,IntsAre vs ns/\ns.Perm D:=by
 have key:∀ (vs:List Value),(∀ v∈vs,∃ i tk,v=.int i tk)->IntsAre vs (vs.map yu):=by
   intro vs;induction vs with
   | nil=>intro _;exact .nil
   | cons v vs ih =>
     intro h;refine i4 (h v (.head _)) λi tk z1_=>?_;obtain rfl:=z1_;exact .cons i tk (ih λv hv=>h v (.tail _ hv))
 refine ⟨vs.map yu,key vs λv hv=>?_,?_⟩
 . refine ap (List.mem_map.mp (p.mem_iff.mp hv)) λe he z2_=>?_;clear hv;obtain rfl:=z2_;exact d.isI e he
 . refine (p.map yu).trans ?_;rw [List.map_map];exact d.perm
theorem gx {a:Addr} {D:List Int} {K:LV->aa->Prop} (hm:(a,.raw (i5 c.w D))∈σ) (hb:D.length < 64) (h:∀ d,d∉σ.map (·.1)->K (.loc d) ((d,.list ((sortI D).map .int))::σ)):WC n c (.builtin "sorted") [.loc a] le σ K:=λA hA tmp s vs S r=>by
 refine bl (aK.inv r) λ_ _ z3_ r1 r2=>?_;obtain rfl:=z3_;obtain rfl:=RV.inv r1;clear r;obtain rfl:=aK.nil_ r2;refine du (S.ob _ hm) λo e z4_ _=>?_;refine f9 z4_ λes ep t hex hd dd=>?_;refine Calls.call_function_entry kind_sorted plain_sorted entry_sorted (args_sorted1 _) ?_;unfold Builtin.«sorted»;refine wpAny_bind (m:=checkCount "sorted" 1 1 _) (wpAny_pure ?_);refine wpAny_bind (jw (by exact hA.handled) e hex.1 hd dd.fits dd.good dd.size λh' d tk vs htk hk hp=>?_)
 refine ap (v5 dd hp) λns hI hpn=>?_;have hlen:vs.length=D.length:=by rw [hp.length_eq,List.length_map,Array.length_toList,dd.len]
 have hns:ns.length=D.length:=hpn.length_eq;have S1:St c le σ tmp { s with heap:=h',drawn:=d,toks:=tk }:=((S.grow hk).drawn d).toks tk (Nat.lt_of_lt_of_le S.tk htk)
 refine wpAny_bind (wpAny_newList ?_ (by rw [sizeLine_eq];exact BT hlen hb rfl))
 have S2:=S1.new (o:=seqObj "list" vs.toArray 0) (lo:=.list (ns.map .int)) ⟨vs,0,Heap.get?_push_size _ rfl,gt hI⟩;have hn:h'.objs.size∉σ.map (·.1):=λhm=>Nat.lt_irrefl _ (S1.key_lt hm)
 have es:sortI ns=sortI D:=eq_sortI ((sortI_perm ns).trans hpn) (sortI_rises ns);have hs:=oy (c:=c) (le:=le) (K:=λx σ'=>x=.none/\σ'=(h'.objs.size,.list ((sortI D).map .int))::σ) (ns:=ns) (by rw [<-es];exact .head) (BS hns hb) ⟨rfl,rfl⟩ A.in1 tmp _ S2
 refine wpAny_bind (wpAny_holding (wpAny_mono hs (λx s3 hq46=>?_) λ_ _ x=>x));refine bl hq46 λlv σ3 S3 e1 e2=>?_;subst e1;subst e2;exact wpAny_pure ⟨_,rfl,pv S3.drop1 (.loc _) (h _ hn)⟩
end
noncomputable def zC:Value->Str
 | .str s _=>s
 | _=>Str.empty
structure kH (w:World) (D:List Str) (es:Array (Int × Value)) (t:SetTable):Prop where
 el:ElemsOf (SK w) es.toList
 isS:∀ e∈es.toList,∃ i tk,e.2=.str i tk
 perm:(es.toList.map λe=>zC e.2).Perm D
 size:es.size < scanBound
 fits:t.fits es.size=true
 plain:D≠[]->t.plain=false
 none:D=[]->t.dummies=#[]/\7<=t.mask
 one:D.length=1->t.fill=1/\7<=t.mask
theorem kH.len {w:World} {D:List Str} {es:Array (Int × Value)} {t:SetTable} (d:kH w D es t):es.size=D.length:=by
 have:=d.perm.length_eq;rwa [List.length_map,Array.length_toList] at this
noncomputable def fI (w:World) (D:List Str) (o:Obj):Prop:=∃ es ep t,o.ExactSet/\o.data=.set es ep t/\kH w D es t
theorem kH.find {w:World} {D:List Str} {es:Array (Int × Value)} {t:SetTable} (d:kH w D es t) (k:Str):(∃ e∈es.toList,(SK w).is k e.2=true) ↔ k∈D:=by
 rw [<-d.perm.mem_iff,List.mem_map];constructor
 . intro z0_;refine ap z0_ λe he h=>?_;refine i4 (d.isS e he) λi tk hi=>?_;refine ⟨e,he,?_⟩;rw [hi] at h ⊢;exact (SK w).inj (.str i tk) i k (eP _ _ _) h
 . intro z1_;refine ap z1_ λe he h=>?_;refine i4 (d.isS e he) λi tk hi=>?_;rw [hi] at h;have h:i=k:=h;exact ⟨e,he,by rw [hi,h];exact eP _ _ _⟩
theorem lK (t:SetTable) (h:t.plain=false) (es:Array (Int × Value)) (wanted:Nat):(relayAll t es wanted).2.1.plain=false:=by
 unfold relayAll;split
 . rename_i t' order e;dsimp only;split
   . unfold SetTable.relaid SetTable.laid at e;cases hl:SetTable.layClean (SetTable.sizeAbove wanted - 1) (es.map (·.1)) with
     | none=>rw [hl] at e;cases e
     | some owner=>rw [hl] at e;cases e;exact h
   . rfl
 . rfl
theorem xP (t:SetTable) (es:Array (Int × Value)) (k:Int) (x:Value):(layNew t es k x).2.1.plain=t.plain\/(layNew t es k x).2.1.plain=false:=by
 unfold layNew;split
 . dsimp only;unfold SetTable.orStandIn;split
   . exact .inl rfl
   . exact .inr rfl
 . exact .inr rfl
theorem nY (t:SetTable) (hd:t.dummies=#[]) (hm:7<=t.mask) (k:Int) (x:Value):(layNew t #[] k x).2.1.fill=1/\7<=(layNew t #[] k x).2.1.mask:=by
 have hf:=layNew_fits t #[] k x;have hz:(layNew t #[] k x).1.size=1:=by
   have:=(layNew_perm t #[] k x).length_eq;simpa using this
 rw [hz] at hf;have hps:(layNew t #[] k x).2.1.place.size=1:=by
   simp only [SetTable.fits,Bool.and_eq_true,beq_iff_eq,decide_eq_true_eq] at hf;exact hf.1
 have hdm:(layNew t #[] k x).2.1.dummies=#[]/\7<=(layNew t #[] k x).2.1.mask:=by
   unfold layNew;split
   . rename_i slot wd e;dsimp only;unfold SetTable.orStandIn;split
     . refine ⟨?_,hm⟩;show (if SetTable.has t.dummies slot then _ else t.dummies)=#[]
       rw [hd];rfl
     . refine ⟨rfl,?_⟩;have hs:∀ (p:Nat) (y:Int × Value),(SetTable.insertAt (#[]:Array (Int × Value)) p y).size=1:=λp y=>by
         have:=(SetTable.insertAt_perm (#[]:Array (Int × Value)) p y).length_eq;simpa using this
       show 7<=4*(SetTable.insertAt _ _ _).size+4;rw [hs];lia
   . exact ⟨rfl,by show 7<=4*(0+1)+4;lia⟩
 exact ⟨by show _+_=1;rw [hps,hdm.1];rfl,hdm.2⟩
noncomputable def f7 (D:List Str) (k:Str):List Str:=if k∈D then D else D++[k]
section
variable {w:World} {A:Around} {E:Value->Shared->Prop} {s:Shared}
theorem eX {a:Addr} {o:Obj} {D:List Str} {k:Str} {tk:Tok} {Q:Bool->Shared->Prop} (ho:s.heap.get? a=some o) (hS:fI w D o) (hroom:D.length+1 < scanBound)
   (h:∀ h' o' b,Heap.SameBut a s.heap h'->h'.get? a=some o'->fI w (f7 D k) o'->Q b { s with heap:=h' }):wpAny (Mo w) A (setAddHashed a (.str k tk) ((SK w).hash k)) Q E s:=by
 refine f9 hS λes ep t hex hd d=>?_;have hb1:es.size+1 < scanBound:=by rw [d.len];exact hroom
 have hperm:=layNew_perm t es ((SK w).hash k) (.str k tk);have hfits:=layNew_fits t es ((SK w).hash k) (.str k tk);have hfirst:D=[]->(layNew t es ((SK w).hash k) (.str k tk)).2.1.fill=1/\7<=(layNew t es ((SK w).hash k) (.str k tk)).2.1.mask:=λhD=>by
   have:es=#[]:=by have:=d.len;rw [hD] at this;exact Array.eq_empty_of_size_eq_zero this
   rw [this];exact nY t (d.none hD).1 (d.none hD).2 _ _
 rw [Array.toList_push] at hperm;have one:(D++[k]).length=1->D=[]:=λh0=>by rw [List.length_append,List.length_singleton] at h0;exact List.length_eq_zero_iff.mp (by lia)
 have mk:∀ (es2:Array (Int × Value)) (t2:SetTable),es2.toList.Perm (es.toList++[((SK w).hash k,.str k tk)])->t2.fits es2.size=true->t2.plain=false->(D=[]->t2.fill=1/\7<=t2.mask)->kH w (D++[k]) es2 t2:=λes2 t2 hp' hf hp0 h1=>by
   refine ⟨(d.el.push (eP w k tk) rfl).perm hp',λe he=>?_,(hp'.map _).trans ?_,by have:=hp'.length_eq;rw [Array.length_toList,List.length_append,Array.length_toList] at this;rw [this];exact hb1,hf,λ_=>hp0,λh0=>by simp at h0,λh0=>h1 (one h0)⟩
   . refine Or.elim (List.mem_append.mp (hp'.mem_iff.mp he)) (λh=>?_) λh=>?_
     . exact d.isS e h
     . rw [List.mem_singleton] at h;clear he;subst h;exact ⟨k,tk,rfl⟩
   . rw [List.map_append];exact d.perm.append (.refl _)
 refine lP (knd:=SK w) (k:=k) false rfl rfl (eP _ k tk) ho hd d.fits d.size d.el (kH w (D++[k])) (λ_ _ d=>d.size) (λhk b=>?_) (λ_=>mk _ _ hperm (SetTable.fits_plain_off hfits) rfl λhD=>hfirst hD) (λ_ hnp=>mk _ _ hperm hfits (by simpa using hnp) hfirst)
   (λes1 t2 d2 htf=>?_) λhk h' es' t' ep' b d3 hs e'=>h h' _ b hs e' ?_
 . have e:f7 D k=D:=by unfold f7;rw [if_pos ((d.find k).mp hk)]
   exact h s.heap o _ (Heap.SameBut.refl a s.heap) ho (by rw [e];exact ⟨es,ep,t,hex,hd,d⟩)
 . have hp:=relayAll_perm t2 es1 (SetTable.grown es1.size);refine ⟨d2.el.perm hp,λe he=>d2.isS e (hp.mem_iff.mp he),(hp.map _).trans d2.perm,by have:=hp.length_eq;rw [Array.length_toList,Array.length_toList] at this;rw [this];exact d2.size,relayAll_fits t2 es1 _,λ_=>lK t2 (d2.plain (by simp)) es1 _,λh0=>by simp at h0,λh0=>?_⟩
   have:=d2.one h0;simp only [SetTable.tooFull,Bool.and_eq_true,decide_eq_true_eq] at htf;lia
 . have e:f7 D k=D++[k]:=by unfold f7;rw [if_neg λm=>hk ((d.find k).mpr m)]
   rw [e];exact ⟨es',ep',t',hex,rfl,d3⟩
end
theorem Al (w:World):fI w [] (b9 w):=⟨#[],0,_,⟨rfl,rfl,rfl⟩,rfl,λe he=>by simp at he,λe he=>by simp at he,.refl _,by decide,rfl,λh=>absurd rfl h,λ_=>⟨rfl,by show 7<=7;decide⟩,λh=>by simp at h⟩
section
variable {w:World} {A:Around} {E:Value->Shared->Prop} {s:Shared}
theorem x8 {Q:Value->Shared->Prop} (h:Q (.ref s.heap.objs.size) { s with heap:=s.heap.push (b9 w) }):wpAny (Mo w) A (newSet (.type "set")) Q E s:=by
 unfold newSet setsByText;refine wpAny_bind (wpAny_bind (wpAny_askSetting (wpAny_pure ?_)));dsimp only;simp only [newObj];exact wpAny_bind (wpAny_alloc (wpAny_pure h))
theorem xK {env:Env} {a:Addr} {nm:Str} {Q:Bool->Shared->Prop} (he:env.code=.ref a) (hc:s.heap.CodeRec (.ref a) nm) (h:∀ b,Q b s):wpAny (Mo w) A (inMainModule env) Q E s:=by
 refine Bb hc λc o vs t e1 e2 e3 _=>?_;obtain rfl:=Value.ref.inj e1;unfold inMainModule;rw [he];rw [if_neg (by simp)]
 refine wpAny_bind (wpAny_fieldsOf e2 e3 ?_);cases vs.getD 18 Value.none<;>first | exact wpAny_pure (h _) | exact wpAny_bind (wpAny_askSetting (wpAny_pure (wpAny_pure (h _)))) | exact wpAny_bind (wpAny_askSetting (wpAny_pure (h _)))
theorem sr {R:Result->Shared->Prop} {I:Addr} {fp wr:List Addr} {G:Array GenState->Array GenState->Prop} {P:Nat->Value->Prop} {St:Nat->Shared->Prop} {ks D0:List Str} (W:WalksS pg w A.in1 I fp wr G ks.length P St) (D:Addr) (hSf:D∉fp) (hval:∀ i v,P i v->∃ k t,v=.str k t/\ks[i]?=some k) (hb:ks.length+D0.length+1 < scanBound) :
   ∀ (k i:Nat) (s:Shared),ks.length - i=k->i<=ks.length->St i s->(∃ o,s.heap.get? D=some o/\fI w ((ks.take i).foldl f7 D0) o) ->
     (∀ s',Moved (D::wr) G s s'->(∃ o,s'.heap.get? D=some o/\fI w (ks.foldl f7 D0) o)->R (.ok (.ret .none)) s') ->
     codeAny (Mo w) A (.builtin "set.update.loop" ⟨[.ref D,.ref I],[]⟩) R s:=by
 have hSw:D∉wr:=λh=>hSf (W.sub _ h);have hsub:∀ b∈wr,b∈D::wr:=λb hb=>List.mem_cons_of_mem _ hb;have hlen:∀ (l D1:List Str),(l.foldl f7 D1).length<=D1.length+l.length:=by
   intro l;induction l with
   | nil=>intro D1;exact Nat.le_refl _
   | cons x l ih =>
     intro D1;refine Nat.le_trans (ih _) ?_;have:(f7 D1 x).length<=D1.length+1:=by unfold f7;split<;>simp
     simp only [List.length_cons];lia
 intro k;induction k with
 | zero =>
   intro i s hk hi hst ⟨o,ho,hS⟩ hR;have hin:i=ks.length:=AO hk hi;clear hk hi;subst hin;refine codeAny_builtin PyProof.Rows.F.entry_set_update_loop ?_;rw [Around.under_plainId PyProof.Rows.F.plain_set_update_loop _];show wpAny _ A.in1 (pyNext (.ref I) >>= _) _ _ s;refine wpAny_bind (W.done s _ _ hst λs' hm=>?_);show wpAny _ A.in1 (ret Value.none) _ _ s';exact wpAny_pure (hR s' (hm.mono hsub) ⟨o,hm.heap D _ hSw ho,by rw [List.take_length] at hS;exact hS⟩)
 | succ k ih =>
   intro i s hk hi hst ⟨o,ho,hS⟩ hR;have hlt:i < ks.length:=AP hk hi;refine codeAny_builtin PyProof.Rows.F.entry_set_update_loop ?_;rw [Around.under_plainId PyProof.Rows.F.plain_set_update_loop _];show wpAny _ A.in1 (pyNext (.ref I) >>= _) _ _ s;refine wpAny_bind (W.item i s _ _ hlt hst λv s' hP hst' hm=>?_);refine bb (hval i v hP) λq t z0_ hq=>?_;clear hP;obtain rfl:=z0_;have ho':=hm.heap D _ hSw ho;show wpAny _ A.in1 (holding [Value.str q t] (setAdd D (.str q t)) >>= _) _ _ s';refine wpAny_bind (wpAny_holding ?_);unfold setAdd;refine wpAny_holding ?_;refine wpAny_bind ((SK w).pyHash (k:=q) (eP _ _ _) ?_);have hroom:((ks.take i).foldl f7 D0).length+1 < scanBound:=by
     have:=hlen (ks.take i) D0;rw [List.length_take] at this;lia
   refine eX (s:={ s' with toks:=s'.toks+1 }) ho' hS hroom λh' o' b hsb ho2 hS2=>?_
   refine wpAny_pure ⟨plainId_quiet PyProof.Rows.F.plain_set_update_loop _,ih (i+1) _ (Aw hk hlt hi) hlt (W.frame _ s' _ _ hst' (Nat.le_succ _) λb hb o e=>?_) ⟨o',ho2,by rw [List.take_add_one,hq,Option.toList_some,List.foldl_append];exact hS2⟩ λs'' hm'' hS''=>?_⟩
   . rw [hsb.2 b (λh:b=D=>hSf (by rw [<-h];exact hb))];exact e
   . refine hR s'' (Moved.trans W.gtrans ((hm.mono hsub).then_heap (Nat.le_succ _) λb o hb e=>?_) hm'') hS'';rw [hsb.2 b (λh:b=D=>hb (by rw [h];exact List.mem_cons_self))];exact e
end
section
variable {n:Nat} {c:Cx} {le:ak} {σ:aa} {env:Env}
theorem ow {w:World} {A:Around} {E:Value->Shared->Prop} {s:Shared} {a:Addr} {o:Obj} {D:List Str} {Q:Unit->Shared->Prop} (ho:s.heap.get? a=some o) (hS:fI w D o) (h1:D.length=1) (h:Q () s):wpAny (Mo w) A (setRoomFor a 2) Q E s:=by
 refine f9 hS λes ep t hex hd d=>?_;unfold setRoomFor;refine wpAny_bind (wpAny_setState_of ho hd d.fits ?_);have h2:=d.one h1;have:t.roomFor 2=none:=by
   unfold SetTable.roomFor;rw [if_neg (by lia)]
 dsimp only;rw [this];exact wpAny_pure h
theorem uK {A:Around} (hh:A.handled=none) {a q:Addr} {k1 k2 tag:Str} {x1 x2:LV} {σ':aa} {tmp:List bt} {s:Shared} {K:Unit->Shared->Prop} (S:St c le σ tmp s) (u:Up q (.raw (fI c.w [tag])) (.raw (fI c.w ([k1,k2].foldl f7 [tag]))) σ σ') (hm:(a,.dict [(k1,x1),(k2,x2)])∈σ)
   (h:∀ s',St c le σ' tmp s'->K () s'):wpAny (Mo c.w) A (setDisplayStar q (.ref a)) K dh s:=by
 refine du (S.ob _ u.mem) λo ho hS _=>?_;refine bl (S.ob _ hm) λes ep ea des nd=>?_;have hqa:q≠a:=λe=>by have:=aJ S.nd u.mem (e ▸ hm);cases this
 have hTa:s.TypeIs (.ref a) "dict":=⟨_,ea,rfl⟩;have sub1:isSubtype (.type "dict") (.type "set")=pure false:=by rw [isSubtype_type];kernel_rfl
 have sub2:isSubtype (.type "dict") (.type "frozenset")=pure false:=by rw [isSubtype_type];kernel_rfl
 unfold setDisplayStar;dsimp only;refine wpAny_bind (wpAny_isInstance (b:=false) hTa sub1 ?_);rw [if_neg Bool.false_ne_true];refine wpAny_bind (wpAny_isInstance (b:=false) hTa sub2 ?_);refine wpAny_bind (wpAny_askSetting ?_);refine du (RO.dictOf (S.ob _ hm)) λm hm1 hm2 hm3=>?_;have hks:m.map (·.1)=[k1,k2]:=hm1.keys.symm
 have hlen:m.length=2:=by have:=congrArg List.length hks;simpa using this
 cases hbt:c.w.params.followText "set-display-star-reads-storage" with
 | true =>
   have e0:(if (Mo c.w).w.params.followText "set-display-star-reads-storage"=true then Value.none else Value.ref a)=.none:=by rw [show (Mo c.w).w.params.followText "set-display-star-reads-storage"=true from hbt];rfl
   rw [e0];dsimp only;refine xD hm2 λo' es' ep' da=>?_;have hda:s.heap.DictAt (SK c.w) a m ep':=⟨o',es',da⟩;have haL:=hda.lt_size;have hqL:=Heap.lt_size ho;refine wpAny_bind (wpAny_pyIter_dict (S.notSys (List.mem_map.mpr ⟨_,hm,rfl⟩)) hda ?_);refine wpAny_bind (wpAny_runValue ?_);have W:=(Walks.dictKeys (prog:=pg) (w:=c.w) (knd:=SK c.w) (A:=A.in1) (by exact hh) s.heap.objs.size a (Nat.ne_of_lt haL) m ep').toS
   have hl2:m.length=[k1,k2].length:=hlen;rw [hl2] at W;have hkeep:∀ b y,s.heap.get? b=some y->(s.heap.push { cls:=.type "dict_keyiterator",data:=.fields #[.ref a,.int 0 0,.int m.length 0,.int ep' 0] }).get? b=some y:=λb y e=>Heap.get?_push_of_some _ e;refine sr (ks:=[k1,k2]) (D0:=[tag]) W q (by simp only [List.mem_cons,List.not_mem_nil,or_false,not_or];exact ⟨Nat.ne_of_lt hqL,hqa⟩) (λi v hv=>?_) (by show 2+1+1 < 4096;lia) 2 0 _ rfl (Nat.zero_le _)
     ⟨⟨_,Heap.get?_push_size _ rfl,rfl,by rw [hl2];rfl⟩,hda.push _⟩ ⟨o,hkeep _ _ ho,hS⟩ λs' hm' hx27_=>ap hx27_ λo2 ho2 hS2=>?_
   . refine bb hv λk x hk hv=>?_;have hk2:[k1,k2][i]?=some k:=by rw [<-hks,List.getElem?_map,hk];rfl
     have hv':Value.isStrOf k v=true:=hv;cases v with
     | str x t=>exact ⟨k,t,by rw [show x=k by simpa [Value.isStrOf] using hv'],hk2⟩
     | _=>simp [Value.isStrOf] at hv'
   . refine el λP kP=>?_;obtain ⟨h',g',d',tk',os'⟩:=s';refine kP ?_;clear kP P;have eg:g'=s.gens:=hm'.gens;have ed:d'=s.drawn:=hm'.drawn;have eo:os'=s.os:=hm'.os;subst eg;subst ed;subst eo;refine wpAny_pure (h _ ?_);refine ap S.fr λmm F _=>?_;have kk:∀ b y,b≠q->s.heap.get? b=some y->h'.get? b=some y:=λb y hb e=>hm'.heap b y (by simp only [List.mem_cons,List.not_mem_nil,or_false,not_or];exact ⟨hb,Nat.ne_of_lt (Heap.lt_size e)⟩) (hkeep _ _ e)
     have hq0:=S.ab _ u.mem;have F':Fr c.hb c.L h' mm:=⟨F.ns.at' λo e=>kk _ _ (Ne.symm hq0.2) e,λb o e=>kk _ _ (λhb=>by rw [hb] at e;rw [show c.hb.get? q=none from hq0.1] at e;cases e) (F.keep b o e),F.above⟩
     exact S.kept1 (t:=tk') u.upd F (Nat.lt_of_lt_of_le S.tk hm'.toks) F' (λb y _ _ b3 b4=>kk b y b3 b4) λki=>⟨o2,ho2,hS2,by refine md hS2 λ_ _ _ hx _=>?_;exact iD hx⟩
 | false =>
   have e0:(if (Mo c.w).w.params.followText "set-display-star-reads-storage"=true then Value.none else Value.ref a)=.ref a:=by rw [show (Mo c.w).w.params.followText "set-display-star-reads-storage"=false from hbt];rfl
   rw [e0];dsimp only;rw [if_neg Bool.false_ne_true];refine wpAny_bind (wpAny_typeOf hTa ?_);rw [if_pos (by decide)]
   refine wpAny_bind (wpAny_rule ?_);rw [S.notSys (List.mem_map.mpr ⟨_,hm,rfl⟩),if_neg Bool.false_ne_true];refine wpAny_bind (wpAny_dictEpoch ea rfl ?_);refine wpAny_bind (wpAny_dictEntries ea rfl ?_);cases des with | @cons _ t1 _ v1 _ es1 r1 des =>
   cases des with | @cons _ t2 _ v2 _ es2 r2 des =>
   cases des;refine wpAny_bind (ow ho hS rfl ?_);rw [Std.Legacy.Range.forIn_eq_forIn_range'];have hr:∀ (x y:DictEntry),List.range' [:#[x,y].size].start [:#[x,y].size].size [:#[x,y].size].step=[0,1]:=λ_ _=>by simp [Std.Legacy.Range.size,List.range']
   rw [hr];have hks2:∀ k t,(SK c.w).is k (.str k t)=true:=λk t=>eP _ _ _;rw [List.forIn_cons];refine wpAny_bind (wpAny_bind (wpAny_bind (wpAny_dictEntries ea rfl ?_)));show wpAny _ _ ((holding [Value.str k1 t1] (setAddHashed q (.str k1 t1) ((SK c.w).hash k1) >>= λ_=>pure ())) >>= _) _ _ _;refine wpAny_bind (wpAny_holding (wpAny_bind (eX ho hS (by show 1+1 < 4096;decide) λh1 o1 b1 sb1 ho1 hS1=>wpAny_pure ?_)))
   have ea1:=(sb1.2 a (Ne.symm hqa)).trans ea;refine wpAny_bind (wpAny_dictEpoch ea1 rfl ?_);rw [if_neg (by simp)]
   refine wpAny_pure ?_;dsimp only;rw [List.forIn_cons];refine wpAny_bind (wpAny_bind (wpAny_dictEntries ea1 rfl ?_));show wpAny _ _ ((holding [Value.str k2 t2] (setAddHashed q (.str k2 t2) ((SK c.w).hash k2) >>= λ_=>pure ())) >>= _) _ _ _;have hr2:(f7 [tag] k1).length+1 < scanBound:=by
     have:(f7 [tag] k1).length<=2:=by unfold f7;split<;>simp
     unfold scanBound;exact zK this rfl
   refine wpAny_bind (wpAny_holding (wpAny_bind (eX (s:={ s with heap:=h1 }) ho1 hS1 hr2 λh2 o2 b2 sb2 ho2 hS2=>wpAny_pure ?_)))
   have ea2:=(sb2.2 a (Ne.symm hqa)).trans ea1;refine wpAny_bind (wpAny_dictEpoch ea2 rfl ?_);rw [if_neg (by simp)]
   refine wpAny_pure ?_;dsimp only;rw [List.forIn_nil];refine wpAny_pure (wpAny_pure (h _ ?_));exact S.upd u.upd (sb1.trans sb2) λki=>⟨o2,ho2,hS2,by refine md hS2 λ_ _ _ hx _=>?_;exact iD hx⟩
theorem qD {e d:Expr} {pos p2:Pos} {cd:Addr} {nm:Str} {K:LV->aa->Prop} (hcd:env.code=.ref cd) (hc:(cd,nm)∈oU.zip qM) (hst:starEach [e,.Starred d p2] env=[(false,eval e env),(true,eval d env)]:=by rfl)
   (h:∀ q,q∉σ.map (·.1)->WV n c (eval e env) le ((q,.raw (fI c.w []))::σ) λx σ1=>σ1=(q,.raw (fI c.w []))::σ/\∃ tag,x=.str tag /\
     WV n c (eval d env) le ((q,.raw (fI c.w [tag]))::σ) λy σ2=>σ2=(q,.raw (fI c.w [tag]))::σ/\∃ a k1 k2 x1 x2,y=.loc a/\(a,.dict [(k1,x1),(k2,x2)])∈σ/\K (.loc q) ((q,.raw (fI c.w ([k1,k2].foldl f7 [tag])))::σ)) :
   WV n c (eval (.Set [e,.Starred d p2] 0 pos) env) le σ K:=λA hA tmp s S=>by
 rw [arm_eval_Set];refine wpAny_bind (wpAny_standAt ?_);refine ap S.fr λmm F _=>?_;refine wpAny_bind (xK hcd ((S.bs.top.cod _ hc).keeps F.keep) λb=>?_);rw [hst];unfold setDisplay;dsimp only;rw [if_neg (by exact Bool.false_ne_true)]
 refine wpAny_bind (x8 ?_);dsimp only;have hq:s.heap.objs.size∉σ.map (·.1):=λhm=>Nat.lt_irrefl _ (S.key_lt hm)
 have S1:=S.new (o:=b9 c.w) (lo:=.raw (fI c.w [])) ⟨_,Heap.get?_push_size _ rfl,Al c.w,iD (o:=b9 c.w) ⟨rfl,rfl,rfl⟩⟩;have h':=h _ hq;generalize s.heap.objs.size=q at S1 h' hq ⊢;simp only [List.map_cons,List.map_nil,List.length_cons,List.length_nil];generalize hN:(if 0+1+1 > 30 then 0 else _)=N
 have:N=1:=by rw [<-hN];rfl
 subst this;clear hN;simp only [List.take_succ_cons,List.take_zero,List.drop_succ_cons,List.drop_zero,List.map_cons,List.map_nil];have hne:(displayRoad 0 [e,.Starred d p2]==DisplayRoad.unsure)=false:=rfl;rw [hne];refine wpAny_bind (wpAny_holding ?_);refine wpAny_bind ?_;show wpAny _ _ ((eval e env >>= λv=>standAt pos >>= λ_=>pure v) >>= λv=>holding [v] (evalAll []) >>= λr=>pure (v::r)) _ _ _;refine wpAny_bind (wpAny_bind (wpAny_mono (h' A hA tmp _ S1) (λv1 s1 hq47=>?_) λ_ _ x=>x.elim));refine bl hq47 λx σ1 S2 e1 y0_=>?_;refine ap y0_ λtag e2 h2=>?_;subst e1;subst e2;refine wpAny_bind (wpAny_standAt (wpAny_pure ?_));refine wpAny_bind (wpAny_holding (wpAny_pure (wpAny_pure ?_)));refine wpAny_bind (wpAny_holding ?_);rw [List.forIn_cons];have rv:=S2.tm _ (.head _);refine aH (RV.inv rv) λtk z1_=>?_;clear rv;obtain rfl:=z1_;have S3:=S2.drop1;refine du (S3.ob _ (.head _)) λo ho hS _=>?_;unfold setAdd;refine wpAny_bind (wpAny_bind (wpAny_bind (wpAny_holding ?_)));refine wpAny_bind ((SK c.w).pyHash (k:=tag) (eP _ _ _) ?_);refine eX (s:={ s1 with toks:=s1.toks+1 }) ho hS (by show 0+1 < 4096;decide) λh1 o1 b1 sb1 ho1 hS1=>?_
 have S4:St c le ((q,.raw (fI c.w [tag]))::σ) tmp { s1 with heap:=h1,toks:=s1.toks+1 }:=(S3.toks (s1.toks+1)).upd (a:=q) .head sb1 λki=>⟨o1,ho1,hS1,by refine md hS1 λ_ _ _ hx _=>?_;exact iD hx⟩
 refine wpAny_pure ?_;dsimp only;rw [List.forIn_nil];refine wpAny_pure ?_;rw [if_neg Bool.false_ne_true];refine wpAny_pure ?_;rw [List.forIn_cons];refine wpAny_bind (wpAny_bind (wpAny_bind (wpAny_bind (wpAny_mono (h2 A hA tmp _ S4) (λv2 s2 hq48=>?_) λ_ _ x=>x.elim))));refine bl hq48 λy σ2 S5 e1 y1_=>?_;refine Cw y1_ λa k1 k2 x1 x2 e2 hm hK=>?_;subst e1;subst e2;have rv:=S5.tm _ (.head _);obtain rfl:=RV.inv rv;refine wpAny_bind (wpAny_standAt (wpAny_pure ?_));rw [if_pos rfl];refine wpAny_bind (wpAny_holding (uK hA.handled S5.drop1 .head (.tail _ hm) λs3 S6=>?_));refine wpAny_pure ?_;dsimp only;rw [List.forIn_nil];exact wpAny_pure (wpAny_pure (wpAny_pure (pv S6 (.loc _) hK)))
end
noncomputable def my (o:Obj):Prop:=o=tabObj #[]
noncomputable def w0 (pos:Pos) (c':Addr) (o:Obj):Prop:=o=tabObj #[rawInt pos.line,rawInt pos.col,.ref c']
noncomputable def jv (q:Str) (o:Obj):Prop:=o.cls=.type "code"/\∃ vs t,o.data=.fields vs/\vs[1]?=some (.str q t)
noncomputable def sX (w:World) (q:Str) (params:Arguments) (body:Expr) (scope:Scope) (c':Addr):FuncData:=kla_fn "<lambda>" q params body scope [] (((lh w.params) "__name__").getD .none) (.ref c') .none
noncomputable def hU (w:World) (q:Str) (params:Arguments) (body:Expr) (scope:Scope) (c':Addr) (o:Obj):Prop:=o={ cls:=.type "function",data:=.func (sX w q params body scope c') }
theorem vZ {q:Str} {o:Obj} (h:jv q o):¬ gR o:=by
 intro hi;have h1:=h.1;rcases hi with ⟨vs,n,rfl⟩ | ⟨id,v,rfl⟩ | ⟨f,v,rfl⟩<;>simp at h1
theorem xJ {ps:Array Value}:¬ gR (tabObj ps):=by
 rintro (⟨vs,n,h⟩ | ⟨id,v,h⟩ | ⟨f,v,h⟩)<;>cases h
theorem po {fd:FuncData}:¬ gR { cls:=.type "function",data:=.func fd }:=by
 rintro (⟨vs,n,h⟩ | ⟨id,v,h⟩ | ⟨f,v,h⟩)<;>(have h1:=congrArg Obj.cls h;simp at h1)
section
variable {n:Nat} {c:Cx} {le:ak} {σ:aa} {env:Env}
theorem St.blt4 {tmp:List bt} {s:Shared} (S:St c le σ tmp s):∃ o,s.heap.get? 4=some o/\o.cls=.type "module"/\o.dict=some builtinsNs/\o.data=.plain:=by
 refine ap S.fr λm F _=>?_;exact ⟨_,F.keep _ _ (S.bs.top.kin 4 _ rfl),rfl,rfl,rfl⟩
theorem iA (P:Params):lh P "__builtins__"=some (.ref 4):=by kernel_rfl!
theorem sD {params:Arguments} {body:Expr} {scope:Scope} {pos:Pos} {K:LV->aa->Prop} (hcode:env.code=.ref 179) (hglb:env.globals=mainGlobals) (hcl:closureFor scope env=pure []) (hdef:defaultsOf params env=([],[]))
   (hm:(177,.raw my)∈σ)
   (h:∀ c' f σ',c'∉σ.map (·.1)->f∉σ.map (·.1)->f≠c'->Up 177 (.raw my) (.raw (w0 pos c')) σ σ'->K (.loc f) ((f,.raw (hU c.w (env.qual++"<lambda>") params body scope c'))::(c',.raw (jv (env.qual++"<lambda>")))::σ')) :
   WV n c (eval (.Lambda params body scope pos) env) le σ K:=λA hA tmp s S=>by
 refine kla_eval hdef ?_;rw [makeFunction_eq];simp only [List.zip_nil_right,List.filterMap_nil,List.isEmpty_nil,if_true,pure_bind];unfold makeTail;rw [hcl,hglb];refine wpAny_bind (wpAny_pure ?_);simp only [List.isEmpty_nil,if_true];refine wpAny_bind (wpAny_pure ?_);refine ap S.fr λm F _=>?_;have C:=S.bs.top.hdr.keeps F.keep;refine du (S.ob _ hm) λoP hP hP0 _=>?_;have hP:s.heap.get? 177=some (tabObj #[]):=by rw [<-hP0];exact hP
 refine wpAny_bind (wpAny_with_toks (n:=1) S.tk (wpAny_functionCodeX hcode (C.code hP trivial) (C.tab hP) rfl λc' h' tk hx hge hlt _ hrec htb hP' htk=>?_));have hg:s.heap.Ns mainGlobals (lh c.w.params):=(S.bs.glb).keeps F.keep;have hg':=hg.extBut hx (by decide)
 refine y4 S.blt4 λo4 h4 q1 q2 q3=>?_;refine wpAny_bind (wpAny_builtinsFor hg' (iA _) (by decide) (hx _ _ (by decide) h4) q1 q2 q3 ?_)
 refine wpAny_bind (wpAny_nsGet hg' ?_);refine wpAny_bind (wpAny_pure ?_);refine wpAny_newObj_type ?_ (by size_fits)
 refine aH (Up.ex (o':=.raw (w0 pos c')) hm) λσ' u=>?_;have hPb:=S.ab _ hm;have F':Fr c.hb c.L h' m:=⟨F.ns.extBut hx (Ne.symm hPb.2),λb o e=>hx b o (λq=>by rw [q] at e;rw [show c.hb.get? 177=none from hPb.1] at e;cases e) (F.keep b o e),F.above⟩
 have htk:0 < tk:=htk;have S1:=S.kept1 (t:=tk) u.upd F htk F' (λb y _ _ b3 b4=>hx b y b3 b4) λki=>⟨_,htb.2,rfl,xJ⟩;have hcσ:c'∉σ.map (·.1):=λhm=>absurd (S.key_lt hm) (Nat.not_lt.mpr hge)
 have hcσ':c'∉σ'.map (·.1):=by rw [u.keys];exact hcσ
 refine y4 hP' λP' _ _ z0_ _=>?_;refine tZ z0_ λoc vs e1 e2 e3 _=>?_;refine Bb hrec λc2 oc' vs' t' e4 e5 e6 e7=>?_;obtain rfl:=Value.ref.inj e4;rw [e1] at e5;obtain rfl:=Option.some.inj e5;have hco:jv (env.qual++"<lambda>") oc:=⟨e2,vs',t',e6,e7⟩;have hfresh:∀ a,s.heap.objs.size<=a->c.hb.get? a=none/\a≠c.L/\∀ b,bt.o a b∉tmp:=λa ha=>by
   refine ⟨?_,λe=>absurd S.lt (Nat.not_lt.mpr (e ▸ ha)),λb hb=>ap ((S.tm _ hb).1) λ_ e _=>absurd (Heap.lt_size e) (Nat.not_lt.mpr ha)⟩;cases q:c.hb.get? a with
   | none=>rfl
   | some x=>exact absurd (S.base_lt q) (Nat.not_lt.mpr ha)
 have hf:=hfresh c' hge;have S2:=S1.own (a:=c') (o:=.raw (jv (env.qual++"<lambda>"))) ⟨oc,e1,hco,vZ hco⟩ hcσ' hf.1 hf.2.1 hf.2.2;have S3:=S2.new (o:={ cls:=.type "function",data:=.func (sX c.w (env.qual++"<lambda>") params body scope c') }) (lo:=.raw (hU c.w (env.qual++"<lambda>") params body scope c')) ⟨_,Heap.get?_push_size _ rfl,rfl,po⟩;have hfn:h'.objs.size∉σ.map (·.1):=λhm=>by
   have:=S.key_lt hm;have h1:=Nat.lt_of_lt_of_le this hge;exact absurd (Nat.lt_trans h1 hlt) (Nat.lt_irrefl _)
 exact pv S3 (.loc _) (h c' _ σ' hcσ hfn (Ne.symm (Nat.ne_of_lt hlt)) u)
theorem sE {params:Arguments} {body:Expr} {scope:Scope} {pos:Pos} {c':Addr} {K:LV->aa->Prop} (hcode:env.code=.ref 179) (hglb:env.globals=mainGlobals) (hcl:closureFor scope env=pure []) (hdef:defaultsOf params env=([],[]))
   (hm:(177,.raw (w0 pos c'))∈σ)
   (h:∀ f,f∉σ.map (·.1)->K (.loc f) ((f,.raw (hU c.w (env.qual++"<lambda>") params body scope c'))::σ)) :
   WV n c (eval (.Lambda params body scope pos) env) le σ K:=λA hA tmp s S=>by
 refine kla_eval hdef ?_;rw [makeFunction_eq];simp only [List.zip_nil_right,List.filterMap_nil,List.isEmpty_nil,if_true,pure_bind];unfold makeTail;rw [hcl,hglb];refine wpAny_bind (wpAny_pure ?_);simp only [List.isEmpty_nil,if_true];refine wpAny_bind (wpAny_pure ?_);refine ap S.fr λm F _=>?_;have C:=S.bs.top.hdr.keeps F.keep;refine du (S.ob _ hm) λoP hP hP0 _=>?_;have hP:s.heap.get? 177=some (tabObj #[rawInt pos.line,rawInt pos.col,.ref c']):=by rw [<-hP0];exact hP
 refine wpAny_bind (wpAny_functionCode_hit hcode (C.code hP trivial) (c':=.ref c') (by simp [codeAmong,rawInt]) ?_)
 have hg:s.heap.Ns mainGlobals (lh c.w.params):=(S.bs.glb).keeps F.keep;refine y4 S.blt4 λo4 h4 q1 q2 q3=>?_;refine wpAny_bind (wpAny_builtinsFor hg (iA _) (by decide) h4 q1 q2 q3 ?_)
 refine wpAny_bind (wpAny_nsGet hg ?_);refine wpAny_bind (wpAny_pure ?_);refine wpAny_newObj_type ?_ (by size_fits)
 have S3:=S.new (o:={ cls:=.type "function",data:=.func (sX c.w (env.qual++"<lambda>") params body scope c') }) (lo:=.raw (hU c.w (env.qual++"<lambda>") params body scope c')) ⟨_,Heap.get?_push_size _ rfl,rfl,po⟩;exact pv S3 (.loc _) (h _ λhm=>Nat.lt_irrefl _ (S.key_lt hm))
theorem wf {x:Str} {q:Str} {params:Arguments} {body:Expr} {scope:Scope} {f c':Addr} {K:LV->aa->Prop} {arg:LV} (hf:(f,.raw (hU c.w q params body scope c'))∈σ) (hc:(c',.raw (jv q))∈σ)
   (hbind:∀ v,bindArgs (sX c.w q params body scope c') ⟨[v],[]⟩=pure [(x,v)]) (hloc:scope.names.lookup x=some .local)
   (hco:scope.isCoroutine=false) (hgen:scope.isGenerator=false) (hk:scope.kind=.function) (hcell:∀ x∈scope.names,x.2≠.cell)
   (hb:∀ c2:Cx,c2.w=c.w->WV n c2 (eval body (envX q scope c2.L f (.ref c') [])) [(x,arg)] σ λv σ'=>∃ σ'',kG σ'' σ'/\K v σ'') :
   WC (n+1) c (.ref f) [arg] le σ K:=λA hA tmp s vs S r=>by
 refine bl (aK.inv r) λ_ _ z1_ r1 r2=>?_;obtain rfl:=z1_;clear r;obtain rfl:=aK.nil_ r2;rename_i v;refine ap S.fr λm F _=>?_;refine du (S.ob _ hf) λof hof e _=>?_;cases e;refine du (S.ob _ hc) λoc hoc z2_ _=>?_;refine bh z2_ λhcls y0_=>?_;refine bb y0_ λvs0 t0 hd0 hv0=>?_;have hlim:s.heap.NoLimit:=S.bs.nolimit.keeps F.keep;refine wpAny_call (kla_callFunE hA.depthLt hof rfl hco hgen rfl ⟨c',oc,vs0,t0,rfl,hoc,hd0,hv0⟩ ?_);rw [hbind];refine wpAny_pure (wpAny_newFunctionEnv hcell (λy hy=>by rw [List.mem_singleton.mp hy];exact hloc) (λh' hns hsb=>⟨hlim.fresh _ hsb,?_⟩) hk)
 show codeAny _ _ (.expr body (envX q scope s.heap.objs.size f (.ref c') [])) _ _;have grow:∀ b o,s.heap.get? b=some o->h'.get? b=some o:=λb o e=>hsb.extBut b o (Nat.ne_of_lt (Heap.lt_size e)) (Heap.get?_push_of_some _ e);have ki:cC s.heap h':=λb o e _=>grow b o e;have kb:∀ b o,c.hb.get? b=some o->(aQ s.heap (σ.map (·.1))).get? b=some o:=λb o e=>by
   rw [aX,if_neg]
   . exact F.keep b o e
   . intro hm;refine ap (List.mem_map.mp hm) λx hx z3_=>?_;clear hm;obtain rfl:=z3_;rw [(S.ab x hx).1] at e;cases e
 have S1:St ⟨c.w,aQ s.heap (σ.map (·.1)),c.os,s.heap.objs.size⟩ [(x,arg)] σ (tmp.filter bt.isG) { s with heap:=h',toks:=s.toks+1 }:=by
   refine ⟨⟨_,⟨hns,λb o e=>?_,Nat.le_of_eq (dW _ _)⟩,λy lv hy=>?_⟩,λp hp=>(S.ob p hp).same ki (grow _),S.nd,λp hp=>⟨?_,Nat.ne_of_lt (S.key_lt (List.mem_map.mpr ⟨p,hp,rfl⟩))⟩,λp hp=>?_,S.td.sublist (List.filter_sublist.filterMap _),S.bs.keeps kb,S.gb,S.os,Nat.lt_of_lt_of_le S.tk (Nat.le_add_right _ _)⟩
   . have e:(aQ s.heap (σ.map (·.1))).get? b=some o:=e
     rw [aX] at e;split at e
     . cases e
     . exact grow b o e
   . rw [List.lookup_cons] at hy;cases q:y==x with
     | true=>rw [q] at hy;obtain rfl:=Option.some.inj hy;exact ⟨v,by rw [List.reverse_singleton,List.lookup_cons,q],r1.keeps ki⟩
     | false=>rw [q] at hy;cases hy
   . show (aQ s.heap (σ.map (·.1))).get? p.1=none
     rw [aX,if_pos (List.mem_map.mpr ⟨p,hp,rfl⟩)]
   . refine bh (List.mem_filter.mp hp) λhp hg=>?_;cases p with
     | v y u=>cases hg
     | o b y=>cases hg
     | g i y=>exact S.tm (.g i y) hp
 refine kla_codeExpr (wpAny_mono (hb ⟨c.w,aQ s.heap (σ.map (·.1)),c.os,s.heap.objs.size⟩ rfl _ (hA.deeper _) _ _ S1) (λv s' hq49=>?_) λ_ _ x=>x.elim)
 refine aH hq49 λlv y1_=>?_;refine ap y1_ λσ' S' y2_=>?_;refine ap y2_ λσ'' pt hK'=>?_;exact ⟨lv,σ'',S.back S'.drop1 pt (S'.tm _ (.head _)),hK'⟩
end
noncomputable def qE:List Str->List Str->Bool
 | x::xs,y::ys=>if x=y then qE xs ys else decide (x.cps.toList < y.cps.toList)
 | _,_=>false
section
variable {w:World} {A:Around} {E:Value->Shared->Prop} {s:Shared}
theorem wo {l b:Addr} {us vs:List Value} {p q:Nat} {xs ys:List Str} {R:Result->Shared->Prop} (hl:s.heap.get? l=some (az us p)) (hb:s.heap.get? b=some (az vs q)) (h1:aK s.heap (xs.map .str) us) (h2:aK s.heap (ys.map .str) vs) (hn:xs.length=ys.length) :
   ∀ (k i:Nat) (A:Around),xs.length - i=k->R (.ok (.ret (.bool (qE (xs.drop i) (ys.drop i))))) s->codeAny (Mo w) A (.builtin "list.__eq__.loop" ⟨[.ref l,.ref b,rawInt i,rawInt 0],[]⟩) R s:=by
 have hu:us.length=xs.length:=by rw [<-h1.length,List.length_map]
 have hv:vs.length=ys.length:=by rw [<-h2.length,List.length_map]
 intro k;induction k with
 | zero =>
   intro i A hk hR;refine codeAny_builtin MeetsSeq3.entry_eq_loop ?_;rw [Around.under_plainId MeetsSeq3.plain_eq_loop _];unfold Builtin.«list.__eq__.loop»;dsimp only [rawInt];refine wpAny_bind (listItems_at hl rfl (wpAny_bind (listItems_at hb rfl ?_)));have e1:(us.toArray)[((i:Nat):Int).toNat]?=none:=Array.getElem?_eq_none (by show us.length<=i;rw [hu];exact Nat.le_of_sub_eq_zero hk)
   have e2:(vs.toArray)[((i:Nat):Int).toNat]?=none:=Array.getElem?_eq_none (by show vs.length<=i;rw [hv,<-hn];exact Nat.le_of_sub_eq_zero hk)
   rw [e1,e2];dsimp only;refine wpAny_bind (listItems_at hl rfl (wpAny_bind (listItems_at hb rfl ?_)));refine wpAny_pure ?_;rw [List.drop_of_length_le (Nat.le_of_sub_eq_zero hk),List.drop_of_length_le (hn ▸ Nat.le_of_sub_eq_zero hk)] at hR;have e3:decide (us.toArray.size < vs.toArray.size)=false:=by simp -iota [hu,hv,hn]
   show R (.ok (.ret (.bool (decide (us.toArray.size < vs.toArray.size))))) s;rw [e3];exact hR
 | succ k ih =>
   intro i A hk hR;have hi:i < xs.length:=Nat.lt_of_sub_eq_succ hk;have hi2:i < ys.length:=AV hi hn;refine codeAny_builtin MeetsSeq3.entry_eq_loop ?_;rw [Around.under_plainId MeetsSeq3.plain_eq_loop _];unfold Builtin.«list.__eq__.loop»;dsimp only [rawInt];refine wpAny_bind (listItems_at hl rfl (wpAny_bind (listItems_at hb rfl ?_)));refine ap (h1.get (i:=i) (x:=.str xs[i]) (by simp -iota [hi])) λv1 g1 r1=>?_
   refine ap (h2.get (i:=i) (x:=.str ys[i]) (by simp -iota [hi2])) λv2 g2 r2=>?_
   refine aH (RV.inv r1) λt1 z0_=>?_;clear r1;obtain rfl:=z0_;refine aH (RV.inv r2) λt2 z1_=>?_;clear r2;obtain rfl:=z1_;have e1:(us.toArray)[((i:Nat):Int).toNat]?=some (.str xs[i] t1):=by simpa using g1
   have e2:(vs.toArray)[((i:Nat):Int).toNat]?=some (.str ys[i] t2):=by simpa using g2
   rw [e1,e2];dsimp only;refine wpAny_bind (wpAny_eqBool_str ?_);rw [List.drop_eq_getElem_cons hi,List.drop_eq_getElem_cons hi2] at hR;unfold qE at hR;by_cases hxy:xs[i]=ys[i]
   . rw [if_pos hxy] at hR;rw [decide_eq_true hxy,if_pos rfl];exact wpAny_pure ⟨plainId_quiet MeetsSeq3.plain_eq_loop _,ih (i+1) _ (congrArg Nat.pred hk) hR⟩
   . rw [if_neg hxy] at hR;rw [decide_eq_false hxy,if_neg Bool.false_ne_true];refine wpAny_bind (listItems_at hl rfl (wpAny_bind (listItems_at hb rfl ?_)));rw [e1,e2];dsimp only;refine wpAny_bind ?_;show wpAny _ _ (compareOp .Lt (.str xs[i] t1) (.str ys[i] t2)) _ _ _;exact lt_str (wpAny_pure hR)
theorem rh (a b:Value):Builtin.«list.__lt__» ⟨[a,b],[]⟩=(do
   if !(<-isInstance b (.type "list")) then return <-ret .notImplemented
   again (.builtin "list.__eq__.loop" ⟨[a,b,rawInt 0,rawInt 0],[]⟩)):=rfl
theorem vg {l b:Addr} {us vs:List Value} {p q:Nat} {xs ys:List Str} {Q:Bool->Shared->Prop} (hu:A.units < cLine) (hl:s.heap.get? l=some (az us p)) (hb:s.heap.get? b=some (az vs q)) (h1:aK s.heap (xs.map .str) us) (h2:aK s.heap (ys.map .str) vs) (hn:xs.length=ys.length) (h:Q (qE xs ys) s) :
   wpAny (Mo w) A (keyLt' oneType' (.ref l) (.ref b)) Q E s:=by
 rw [keyLt'_oneType,oneLt'_eq];simp -iota only [if_true];refine wpAny_bind (wpAny_cRoomFor hu ?_);have hT:s.TypeIs (.ref l) "list":=⟨_,hl,rfl⟩;refine wpAny_bind (wpAny_callSpecialIfBound?_slot hT PySem.F.slot_list_lt ?_);refine wpAny_call (codeAny_call_builtin PySem.F.slot_list_lt.plain PySem.F.entry_list_lt (PySem.F.slot_list_lt.check _ _ _ _ _ _ _ _ hT (PySem.F.args_list_lt_2 _ _) ?_));have hTb:s.TypeIs (.ref b) "list":=⟨_,hb,rfl⟩;rw [rh];refine wpAny_bind (wpAny_isInstance (b:=true) hTb AutoSeq1.sub_list_list ?_);rw [if_neg (by decide)]
 refine wpAny_pure ⟨plainId_quiet MeetsSeq3.plain_eq_loop _,wo hl hb h1 h2 hn _ 0 _ rfl ?_⟩;rw [List.drop_zero,List.drop_zero];exact wpAny_truthy_bool h
theorem tK {ks:List (List Str)} {vs:List Value} {f:Nat->Nat->Bool} {G:Array Nat->Shared->Prop} (hu:A.units < cLine) (hv:vs.length=ks.length) (hr:∀ (i:Nat) (k:List Str) (v:Value),ks[i]?=some k->vs[i]?=some v->∃ l us p,v=Value.ref l/\s.heap.get? l=some (az us p)/\aK s.heap (k.map .str) us)
   (h2:2<=ks.length) (h3:ks.length<=3) (hlen:∀ t∈ks,∀ u∈ks,t.length=u.length) (hf:∀ i j t u,i≠j->ks[i]?=some t->ks[j]?=some u->qE t u=f i j) (hG:G (hO f (kas_sort ks.length)) s) :
   wpAny (Mo w) A (keyKind' vs.toArray) (λκ s'=>(kas_sort ks.length).kasWp (kas_ask pg w A κ vs) G s') (λ_ _=>False) s:=by
 have hT:∀ v∈vs,Looks (Mo w) s.heap (typeOf v) (.type "list"):=λv hv'=>by
   refine aH (List.getElem_of_mem hv') λi y0_=>?_;refine aH y0_ λhi e=>?_;refine f9 (hr i (ks[i]'(AV hi hv)) v (List.getElem?_eq_getElem _) (by rw [List.getElem?_eq_getElem hi,e])) λl us p z2_ e1 _=>?_
   clear hv' e;obtain rfl:=z2_;exact (Looks.ld e1).andThen .now
 refine kas_kind (T:=.type "list") (AN h2 hv) hT (by decide) (by decide) ?_
 refine pq (n:=ks.length) (f:=f) (Inv:=λs'=>s'=s) (λi j C s' hi hj hn hI hC=>?_) _ _ (y9 h2 h3) rfl (λs' e=>by clear hr hT;subst e;exact hG)
 clear hG hT;subst hI;show wpAny _ _ (keyLt' oneType' (vs.getD i .none) (vs.getD j .none)) C _ s';refine f9 (hr i ks[i] (vs.getD i .none) (List.getElem?_eq_getElem hi) (by rw [List.getD_eq_getElem?_getD,List.getElem?_eq_getElem (zN hi hv)];rfl)) λl us p e1 e2 e3=>?_
 refine f9 (hr j ks[j] (vs.getD j .none) (List.getElem?_eq_getElem hj) (by rw [List.getD_eq_getElem?_getD,List.getElem?_eq_getElem (zN hj hv)];rfl)) λl' us' p' e4 e5 e6=>?_
 rw [e1,e4];refine vg hu e2 e5 e3 e6 (hlen _ (List.getElem_mem hi) _ (List.getElem_mem hj)) ?_;rw [hf i j _ _ hn (List.getElem?_eq_getElem hi) (List.getElem?_eq_getElem hj)];exact hC _ rfl
end
noncomputable def rd (k:List Str) (o:Obj):Prop:=∃ us p,o=az us p/\StrsAre us k
section
variable {n:Nat} {c:Cx} {le:ak} {σ:aa} {tmp:List bt} {s:Shared}
theorem St.reorder (S:St c le σ tmp s) {tmp':List bt} (p:tmp'.Perm tmp):St c le σ tmp' s :=
 ⟨S.fr,S.ob,S.nd,S.ab,λq hq=>S.tm q (p.mem_iff.mp hq),(p.filterMap _).nodup_iff.mpr S.td,S.bs,S.gb,S.os,S.tk⟩
theorem St.aside {a:Addr} {k:List Str} (S:St c le ((a,.list (k.map .str))::σ) tmp s):St c le σ (.o a (rd k)::tmp) s:=by
 have nd:=S.nd;rw [List.map_cons,List.nodup_cons] at nd;refine bb (S.ob _ (.head _)) λus p e rs=>?_;refine bh (S.ab _ (.head _)) λn1 n2=>?_;refine ⟨S.fr,λp hp=>S.ob p (.tail _ hp),nd.2,λp hp=>S.ab p (.tail _ hp),λp hp=>?_,?_,S.bs,S.gb,S.os,S.tk⟩
 . rcases List.mem_cons.mp hp with rfl | hp
   . exact ⟨⟨_,e,us,p,rfl,h9 rs⟩,nd.1,n2,n1⟩
   . have h:=S.tm p hp;cases p with
     | v x u=>exact h
     | o b x=>exact ⟨h.1,λhm=>h.2.1 (by rw [List.map_cons];exact .tail _ hm),h.2.2.1,h.2.2.2⟩
     | g i y=>exact h
 . rw [List.filterMap_cons];simp only [bt.adr];refine List.nodup_cons.mpr ⟨λhm=>?_,S.td⟩;refine ap (List.mem_filterMap.mp hm) λp hp e=>?_;cases p with
   | v x u=>cases e
   | g i y=>cases e
   | o b x =>
     clear nd n1 n2 hm;obtain rfl:=Option.some.inj e;exact (S.tm _ hp).2.1 (by rw [List.map_cons];exact .head _)
theorem St.keptB (S:St c le σ tmp s) {m:Str->Option Value} (F0:Fr c.hb c.L s.heap m) {h':Heap} {t:Nat} (ht:0 < t) (F:Fr c.hb c.L h' m) {bad:List Addr} (b1:∀ b∈bad,b∉σ.map (·.1)) (b2:∀ b∈bad,∀ f,bt.o b f∉tmp) (b3:∀ b∈bad,∀ o,s.heap.get? b=some o->¬ gR o)
   (k:∀ b y,b≠c.L->c.hb.get? b=none->b∉bad->s.heap.get? b=some y->h'.get? b=some y):St c le σ tmp { s with heap:=h',toks:=t }:=by
 refine ap S.fr λm0 F1 q=>?_;have em:=Fr.uniq F1 F0;subst em;have kk:∀ b y,b≠c.L->b∉bad->s.heap.get? b=some y->h'.get? b=some y:=λb y h2 hb e=>by
   cases z:c.hb.get? b with
   | none=>exact k b y h2 z hb e
   | some y' =>
     have:=F1.keep b y' z;rw [this] at e;obtain rfl:=Option.some.inj e;exact F.keep b _ z
 have ki:cC s.heap h':=λb y e i=>by
   refine kk b y ?_ (λhb=>b3 b hb y e i) e;rintro rfl;refine f9 F1.ns λo es ep ho hd _=>?_;rw [ho] at e;obtain rfl:=Option.some.inj e;exact cZ hd i
 refine ⟨⟨_,F,λx lv hx=>?_⟩,λy hy=>(S.ob y hy).same ki λz e=>kk _ _ (S.ab y hy).2 (λhb=>b1 _ hb (List.mem_map.mpr ⟨y,hy,rfl⟩)) e,S.nd,S.ab,λy hy=>?_,S.td,S.bs,S.gb,S.os,ht⟩
 . refine ap (q x lv hx) λv hm rr=>?_;exact ⟨v,hm,rr.keeps ki⟩
 . have h:=S.tm y hy;cases y with
   | v x u=>exact RV.keeps ki h
   | o a f=>refine mN h λz0_ h2 h3 h4=>?_;obtain ⟨b,e,hf⟩:=z0_;exact ⟨⟨b,kk a b h3 (λhb=>b2 a hb f hy) e,hf⟩,h2,h3,h4⟩
   | g i y=>exact h
theorem iC {vs:List Value} {k:Nat}:¬ gR (az vs k):=kq (by decide:pn (.type "list")=false)
theorem v9 {A:Around} {n:Nat} (hA:br n A) {f kS:Addr} {x:Str} {tk:Tok} {key:List Str} {ks:List Value} {e:Nat} {R:Shared->Prop} (S:St c le σ (.o kS (λo=>o=az ks e)::tmp) s) (hl:ks.length < 10)
   (hkey:WC n c (.ref f) [.str x] le σ λv σ2=>∃ kl,v=.loc kl/\σ2=(kl,.list (key.map .str))::σ)
   (h:∀ kl e' s',St c le σ (.o kS (λo=>o=az (ks++[.ref kl]) e')::.o kl (rd key)::tmp) s'->R s') :
   wpAny (Mo c.w) A (call (.ref f) [.str x tk]) (λk s1=>∀ (E:Value->Shared->Prop) (Q:Unit->Shared->Prop),(∀ s',R s'->Q () s')->wpAny (Mo c.w) A (Builtin.List.listUpdate (.ref kS) (·.push k)) Q E s1) dh s:=by
 refine (wpAny_mono (hkey A hA _ s [.str x tk] S (.cons (.str _ _) .nil)) (λv s1 hq50=>?_) λ_ _ x=>x);refine aH hq50 λlv y0_=>?_;refine ap y0_ λσ1 S1 y1_=>?_;refine ap y1_ λkl e1 e2=>?_;subst e1;subst e2;have rv:=S1.tm _ (.head _);obtain rfl:=RV.inv rv;have S2:=S1.drop1.aside;refine mN (S2.tm _ (.tail _ (.head _))) λz1_ n1 n2 n3=>?_;refine ap z1_ λo ho hoe=>?_;subst hoe;have S3:=S2.reorder (List.Perm.swap _ _ _);have s1':=Heap.SameBut.update s1.heap kS (Obj.mapSeq (·.push (.ref kl)))
 obtain ⟨c2,hc2⟩:∃ c2,(s1.heap.update kS (Obj.mapSeq (·.push (.ref kl)))).get? kS=some (az (ks++[.ref kl]) c2):=⟨_,by
   have:=get?_update_seq ho (·.push (.ref kl))
   rw [this];simp [seqObj];rfl⟩
 intro E Q hQ;refine listUpdate_at ho rfl (hQ _ ?_) (by rw [List.size_toArray,sizeLine_eq];exact J5 hl rfl) (Nat.le_trans (Nat.le_of_eq (Array.size_push ..)) (by rw [List.size_toArray,sizeLine_eq];lia))
 exact h kl c2 _ (S3.swapTo s1'.extBut (λb hb=>by subst hb;exact iC) hc2 rfl)
theorem St.holdO (S:St c le σ tmp s) {a:Addr} {b:Obj} {f:Obj->Prop} (e:s.heap.get? a=some b) (hf:f b) (n1:a∉σ.map (·.1)) (n2:a≠c.L) (n3:c.hb.get? a=none) (n4:∀ f,bt.o a f∉tmp):St c le σ (.o a f::tmp) s:=by
 refine ⟨S.fr,S.ob,S.nd,S.ab,λp hp=>?_,?_,S.bs,S.gb,S.os,S.tk⟩
 . rcases List.mem_cons.mp hp with rfl | hp
   . exact ⟨⟨b,e,hf⟩,n1,n2,n3⟩
   . exact S.tm p hp
 . rw [List.filterMap_cons];simp only [bt.adr];refine List.nodup_cons.mpr ⟨λhm=>?_,S.td⟩;refine ap (List.mem_filterMap.mp hm) λp hp e=>?_;cases p with
   | v x u=>cases e
   | g i y=>cases e
   | o b x=>clear n1 n2 n3 hm;obtain rfl:=Option.some.inj e;exact n4 _ hp
theorem ug {A:Around} {n:Nat} (hA:br n A) {f kS:Addr} {key:Str->List Str} {body:Value->PUnit->Sem (ForInStep PUnit)} {Q:Shared->Prop}
   (hb:∀ (v:Value) (R:Shared->Prop) (s:Shared),wpAny (Mo c.w) A (call (.ref f) [v]) (λk s1=>∀ (E:Value->Shared->Prop) (Q:Unit->Shared->Prop),(∀ s',R s'->Q () s')->wpAny (Mo c.w) A (Builtin.List.listUpdate (.ref kS) (·.push k)) Q E s1) dh s ->
     wpAny (Mo c.w) A (body v ⟨⟩) (λr s'=>r=.yield ⟨⟩/\R s') dh s) :
   ∀ (xs:List Str) (vs:List Value) (kss:List (Addr × List Str)) (e:Nat) (s:Shared),StrsAre vs xs->kss.length+xs.length < 10->(∀ x∈xs,WC n c (.ref f) [.str x] le σ λv σ2=>∃ kl,v=.loc kl/\σ2=(kl,.list ((key x).map .str))::σ) ->
     St c le σ (.o kS (λo=>o=az (kss.reverse.map λp=>Value.ref p.1) e)::(kss.map (λp=>bt.o p.1 (rd p.2))++tmp)) s ->
     (∀ (kss':List (Addr × List Str)) (e':Nat) (s':Shared),kss'.reverse.map (·.2)=kss.reverse.map (·.2)++xs.map key->St c le σ (.o kS (λo=>o=az (kss'.reverse.map λp=>Value.ref p.1) e')::(kss'.map (λp=>bt.o p.1 (rd p.2))++tmp)) s'->Q s') ->
     wpAny (Mo c.w) A (forIn vs PUnit.unit body) (λ_ s'=>Q s') dh s:=by
 intro xs;induction xs with
 | nil =>
   intro vs kss e s hs hn hk S hQ;cases hs;rw [List.forIn_nil];exact wpAny_pure (hQ kss e s (by simp) S)
 | cons x xs ih =>
   intro vs kss e s hs hn hk S hQ;cases hs with | cons _ t r =>
   rw [List.forIn_cons];rw [List.length_cons] at hn;refine wpAny_bind (wpAny_mono (hb _ (λs'=>∃ kl e',St c le σ (.o kS (λo=>o=az ((((kl,key x)::kss):List (Addr × List Str)).reverse.map λp=>Value.ref p.1) e')::((((kl,key x)::kss):List (Addr × List Str)).map (λp=>bt.o p.1 (rd p.2))++tmp)) s') s ?_) (λq s' hq=>?_) λ_ _ x=>x)
   . refine v9 hA S (by rw [List.length_map,List.length_reverse];lia) (hk x (.head _)) λkl e' s' S'=>⟨kl,e',?_⟩
     rw [List.reverse_cons,List.map_append];exact S'
   . refine bh hq λy2_ y3_=>?_;refine i4 y3_ λkl e' S'=>?_;obtain rfl:=y2_;exact ih _ ((kl,key x)::kss) e' s' r (by simp only [List.length_cons];lia) (λy hy=>hk y (.tail _ hy)) S' λkss' e2 s2 h2 S2=>hQ kss' e2 s2 (by rw [h2];simp) S2
theorem St.adopt {a:Addr} {us:List Value} {k:Nat} {l:List LV} (S:St c le σ (.o a (λo=>o=az us k)::tmp) s) (r:aK s.heap l us):St c le ((a,.list l)::σ) tmp s:=by
 refine mN (S.tm _ (.head _)) λz2_ n1 n2 n3=>?_;refine ap z2_ λo ho hoe=>?_;subst hoe;have td:=S.td;rw [List.filterMap_cons] at td;simp only [bt.adr] at td;rw [List.nodup_cons] at td;exact S.drop1.own ⟨us,k,ho,r⟩ n1 n3 n2 λb hb=>td.1 (List.mem_filterMap.mpr ⟨_,hb,rfl⟩)
theorem wc {A:Around} {n:Nat} (hA:br n A) {D kS:Addr} {x0 x1 x2:Str} {t0 t1 t2:Tok} {key:Str->List Str} {e1 e2:Nat} {g:Nat->Nat->Bool} {P:PySem.Fin->Shared->Prop} {s2:Shared} {kss:List (Addr × List Str)}
   (hlen:∀ x,x=x0\/x=x1\/x=x2->(key x).length=2) (hg:∀ i j t u,i≠j->[key x0,key x1,key x2][i]?=some t->[key x0,key x1,key x2][j]?=some u->qE t u=g i j)
   (h:∀ e' s',St c le σ (.o D (λo=>o=az ((cU g 3).map λi=>[Value.str x0 t0,.str x1 t1,.str x2 t2].getD i .none) e')::tmp) s'->P (.done (.ret .none)) s')
   (hk2:kss.reverse.map (·.2)=([]:List (Addr × List Str)).reverse.map (·.2)++[x0,x1,x2].map key)
   (S3:St c le σ (.o kS (λo=>o=az (kss.reverse.map λp=>Value.ref p.1) e2)::(kss.map (λp=>bt.o p.1 (rd p.2))++(.o D (λo=>o=az [] e1)::tmp))) s2) :
   wpAny (Mo c.w) A (do let keys <-Builtin.List.listItems (.ref kS);ksk_end D false [Value.str x0 t0,.str x1 t1,.str x2 t2].toArray e1 (.ref kS) keys) P dh s2:=by
 refine mN (S3.tm _ (.head _)) λz3_ k1 k2 k3=>?_;refine ap z3_ λo hokS hoe=>?_;subst hoe;refine mN (S3.tm (.o D (λo=>o=az [] e1)) (.tail _ (List.mem_append_right _ (.head _)))) λz4_ d1 d2 d3=>?_;refine ap z4_ λoD hoD hoe=>?_;subst hoe;have td:=S3.td;rw [List.filterMap_cons] at td;simp only [bt.adr] at td;rw [List.nodup_cons,List.filterMap_append,List.filterMap_cons] at td;simp only [bt.adr] at td;have hkD:kS≠D:=λe=>td.1 (List.mem_append_right _ (by rw [e];exact .head _))
 have nkt:∀ b,bt.o kS b∉tmp:=λb hb=>td.1 (List.mem_append_right _ (.tail _ (List.mem_filterMap.mpr ⟨_,hb,rfl⟩)));have nDt:∀ b,bt.o D b∉tmp:=λb hb=>(List.nodup_cons.mp (List.nodup_append.mp td.2).2.1).1 (List.mem_filterMap.mpr ⟨_,hb,rfl⟩);refine ap S3.fr λmm F _=>?_;refine du S3.news λnews N nd all=>?_;refine wpAny_bind (listItems_at hokS rfl ?_);have hl3:kss.reverse.length=3:=by have:=congrArg List.length hk2;simpa using this
 have hmem:∀ p∈kss.reverse,∃ us q,s2.heap.get? p.1=some (az us q)/\StrsAre us p.2:=λp hp=>by
   refine bh (S3.tm (.o p.1 (rd p.2)) (.tail _ (List.mem_append_left _ (List.mem_map.mpr ⟨p,List.mem_reverse.mp hp,rfl⟩)))) λz5_ _=>?_;refine aH z5_ λo y4_=>?_;refine bh y4_ λe y5_=>?_;refine bb y5_ λus q y6_ hs=>?_;obtain rfl:=y6_;exact ⟨us,q,e,hs⟩
 generalize kss.reverse=kr at hk2 hl3 hokS hmem;refine xD (wm hl3) λp0 p1 p2 z6_=>?_;clear hl3;obtain rfl:=z6_;simp only [List.map_cons,List.map_nil,List.nil_append,List.reverse_nil,List.cons.injEq,and_true] at hk2;refine qS hk2 λq0 q1 q2=>?_;have hr:∀ (i:Nat) (k:List Str) (v:Value),[key x0,key x1,key x2][i]?=some k->[Value.ref p0.1,.ref p1.1,.ref p2.1][i]?=some v->∃ l us p,v=.ref l/\s2.heap.get? l=some (az us p)/\aK s2.heap (k.map .str) us:=λi k v h1 h2=>by
   have go:∀ p:Addr × List Str,p∈[p0,p1,p2]->∀ k,p.2=k->∃ l us q,Value.ref p.1=.ref l/\s2.heap.get? l=some (az us q)/\aK s2.heap (k.map .str) us:=λp hp k hk=>by
     refine bb (hmem p hp) λus q e hs=>?_;subst hk;exact ⟨p.1,us,q,rfl,e,im hs⟩
   rcases i with _ | _ | _ | i
   . obtain rfl:=Option.some.inj h1;obtain rfl:=Option.some.inj h2;exact go p0 (.head _) _ q0
   . obtain rfl:=Option.some.inj h1;obtain rfl:=Option.some.inj h2;exact go p1 (.tail _ (.head _)) _ q1
   . obtain rfl:=Option.some.inj h1;obtain rfl:=Option.some.inj h2;exact go p2 (.tail _ (.tail _ (.head _))) _ q2
   . simp at h1
 obtain ⟨rest,hrestk,hrest,hrn⟩:∃ rest:List (Addr × Obj),(∀ p∈rest,p.1≠kS/\p.1≠D)/\(∀ b y,s2.heap.get? b=some y->b≠c.L->c.hb.get? b=none->b≠kS->b≠D->(b,y)∈rest)/\∀ p∈rest,p∈news :=
   ⟨news.filter (λp=>p.1≠kS/\p.1≠D),λp hp=>by simpa using (List.mem_filter.mp hp).2,λb y b1 b2 b3 b4 b5=>List.mem_filter.mpr ⟨all b y b1 b2 b3,by simp [b4,b5]⟩,λp hp=>(List.mem_filter.mp hp).1⟩
 have N1:News c.hb c.L s2.heap ((kS,seqObj "list" [Value.ref p0.1,.ref p1.1,.ref p2.1].toArray e2)::(D,seqObj "list" #[] e1)::rest):=λp hp=>by
   rcases List.mem_cons.mp hp with rfl | hp
   . exact ⟨hokS,k2,k3⟩
   . rcases List.mem_cons.mp hp with rfl | hp
     . exact ⟨hoD,d2,d3⟩
     . exact N p (hrn p hp)
 have U1:UpdF kS (seqObj "list" [Value.ref p0.1,.ref p1.1,.ref p2.1].toArray e2) ((kS,seqObj "list" [Value.ref p0.1,.ref p1.1,.ref p2.1].toArray e2)::(D,seqObj "list" #[] e1)::rest) (λo'=>(kS,o')::(D,seqObj "list" #[] e1)::rest):=.head (λp hp=>by
   rcases List.mem_cons.mp hp with rfl | hp
   . exact Ne.symm hkD
   . exact (hrestk p hp).1)
 refine kat_end (vs:=[Value.str x0 t0,.str x1 t1,.str x2 t2]) (h₀:=c.hb) (L:=c.L) (m:=mm) (e:=e2) rfl (by show 2<=3;decide) (by show 3 < 64;decide) ?_
 refine tK (ks:=[key x0,key x1,key x2]) (f:=g) hA.unitsLt rfl hr (by show 2<=3;decide) (by show 3<=3;decide) (λt ht u hu=>?_) hg ?_
 . have h2:∀ t∈[key x0,key x1,key x2],t.length=2:=λt ht=>by
     rcases gq ht with rfl | rfl | rfl
     . exact hlen _ (.inl rfl)
     . exact hlen _ (.inr (.inl rfl))
     . exact hlen _ (.inr (.inr rfl))
   rw [h2 t ht,h2 u hu]
 refine KatFin.intro F N1 U1 λh2 c2 F2 N2=>?_;have U2:UpdF D (seqObj "list" #[] e1) ((kS,seqObj "list" #[] c2)::(D,seqObj "list" #[] e1)::rest) (λo'=>(kS,seqObj "list" #[] c2)::(D,o')::rest):=.tail hkD (.head λp hp=>(hrestk p hp).2);refine KasFin.intro F2 N2 U2 λh3 c3 F3 N3=>?_;have hD3:=(N3 _ (.tail _ (.head _))).1;have S4:St c le σ tmp { s2 with heap:=h3,toks:=s2.toks }:=by
   refine (S3.drop (tmp':=tmp) ?_).keptB F S3.tk F3 (bad:=[kS,D]) (λb hb=>?_) (λb hb f hf=>?_) (λb hb o9 ho9=>?_) (λb y b1 b2 b3 b4=>?_)
   . exact ((List.sublist_cons_self _ _).trans (List.sublist_append_right _ _)).trans (List.sublist_cons_self _ _)
   . rcases dc hb with rfl | rfl
     . exact k1
     . exact d1
   . rcases dc hb with rfl | rfl
     . exact nkt f hf
     . exact nDt f hf
   . rcases dc hb with rfl | rfl
     . have e:=hokS.symm.trans ho9;clear ho9;obtain rfl:=Option.some.inj e;exact iC
     . have e:=hoD.symm.trans ho9;clear ho9;obtain rfl:=Option.some.inj e;exact iC
   . simp only [List.mem_cons,List.not_mem_nil,or_false,not_or] at b3;exact (N3 _ (.tail _ (.tail _ (hrest b y b4 b1 b2 b3.1 b3.2)))).1
 refine h c3 _ (S4.holdO hD3 ?_ d1 d2 d3 nDt);show seqObj "list" (List.toArray (List.map (λi=>[Value.str x0 t0,Value.str x1 t1,Value.str x2 t2].getD i Value.none) (hO g (kas_sort 3)).toList)) c3=_;rw [gw (by decide)]
theorem we {A:Around} {n:Nat} (hA:br n A) {f D:Addr} {x0 x1 x2:Str} {t0 t1 t2:Tok} {key:Str->List Str} {e:Nat} {g:Nat->Nat->Bool} {P:PySem.Fin->Shared->Prop} (S:St c le σ (.o D (λo=>o=az [.str x0 t0,.str x1 t1,.str x2 t2] e)::tmp) s)
   (hkey:∀ x,x=x0\/x=x1\/x=x2->WC n c (.ref f) [.str x] le σ λv σ2=>∃ kl,v=.loc kl/\σ2=(kl,.list ((key x).map .str))::σ) (hlen:∀ x,x=x0\/x=x1\/x=x2->(key x).length=2)
   (hg:∀ i j t u,i≠j->[key x0,key x1,key x2][i]?=some t->[key x0,key x1,key x2][j]?=some u->qE t u=g i j)
   (h:∀ e' s',St c le σ (.o D (λo=>o=az ((cU g 3).map λi=>[Value.str x0 t0,.str x1 t1,.str x2 t2].getD i .none) e')::tmp) s'->P (.done (.ret .none)) s'):wpAny (Mo c.w) A (ksk_tree D (.ref f) false) P dh s:=by
 refine mN (S.tm _ (.head _)) λz7_ n1 n2 n3=>?_;refine ap z7_ λo ho hoe=>?_;subst hoe;have s1:=Heap.SameBut.update s.heap D (Obj.mapSeq λ_=>(#[]:Array Value));obtain ⟨e1,ho1⟩:∃ e1,(s.heap.update D (Obj.mapSeq λ_=>(#[]:Array Value))).get? D=some (az [] e1):=⟨_,get?_update_seq ho λ_=>#[]⟩;unfold ksk_tree;refine wpAny_bind (listItems_at ho rfl ?_);refine wpAny_bind (listUpdate_at ho rfl ?_ (by show 3<=_;rw [sizeLine_eq];decide) (Nat.zero_le _))
 refine wpAny_bind (seqEpoch_at ho1 rfl ?_);have S1:=S.swapTo (f':=λo=>o=az [] e1) s1.extBut (λb hb=>by subst hb;exact iC) ho1 rfl
 refine wpAny_bind (wpAny_newTuple ?_ (by show 3<=_;rw [sizeLine_eq];decide))
 refine wpAny_bind (wpAny_newList ?_ (Nat.zero_le _));refine wpAny_holding ?_;have S2:=(S1.push (seqObj "tuple" [.str x0 t0,.str x1 t1,.str x2 t2].toArray 0)).keep (o:=az [] 0) (f:=λo=>o=az [] 0) rfl rfl;show wpAny _ _ _ _ _ { s with heap:=((s.heap.update D (Obj.mapSeq λ_=>(#[]:Array Value))).push (seqObj "tuple" [.str x0 t0,.str x1 t1,.str x2 t2].toArray 0)).push (az [] 0) }
 generalize hkS:((s.heap.update D (Obj.mapSeq λ_=>(#[]:Array Value))).push (seqObj "tuple" [.str x0 t0,.str x1 t1,.str x2 t2].toArray 0)).objs.size=kS at S2;generalize ((s.heap.update D (Obj.mapSeq λ_=>(#[]:Array Value))).push (seqObj "tuple" [.str x0 t0,.str x1 t1,.str x2 t2].toArray 0)).push (az [] 0)=h1 at S2;unfold ksk_rest;refine wpAny_bind (wpAny_rule ?_);rw [List.forIn_toArray];refine wpAny_bind (ug (c:=c) (le:=le) (σ:=σ) (tmp:=.o D (λo=>o=az [] e1)::tmp) hA (f:=f) (kS:=kS) (key:=key) (Q:=λs'=>wpAny (Mo c.w) A (do let keys <-Builtin.List.listItems (.ref kS);ksk_end D false [Value.str x0 t0,.str x1 t1,.str x2 t2].toArray e1 (.ref kS) keys) P dh s') (λv R s' hv=>?_) [x0,x1,x2] _ [] 0 _ (.cons _ _ (.cons _ _ (.cons _ _ .nil))) (by show 0+3 < 10;decide) (λx hx=>hkey x (by simpa using hx)) S2 λkss e2 s2 hk2 S3=>?_)
 . refine wpAny_bind (wpAny_attempt (wpAny_mono hv (λk s'' hk=>?_) λ_ _ hF=>hF.elim));dsimp only;exact wpAny_bind (hk _ _ λs3 hR=>wpAny_pure ⟨rfl,hR⟩)
 . exact wc hA hlen hg h hk2 S3
theorem Am {h:Heap} {x0 x1 x2:Str} {t0 t1 t2:Tok}:∀ (p:List Nat),(∀ i∈p,i < 3)->aK h ((p.map λi=>[x0,x1,x2].getD i Str.empty).map .str) (p.map λi=>[Value.str x0 t0,.str x1 t1,.str x2 t2].getD i .none):=by
 intro p;induction p with
 | nil=>exact λ_=>.nil
 | cons i p ih =>
   intro hp;have hi:=hp i (.head _);have r:=ih λj hj=>hp j (.tail _ hj);rcases Ad hi with rfl | rfl | rfl<;>exact .cons (.str _ _) r
theorem qc {A:Around} {n:Nat} (hA:br (n+2) A) {q f:Addr} {D:List Str} {key:Str->List Str} {K:LV->aa->Prop} (S:St c le σ tmp s) (hm:(q,.raw (fI c.w D))∈σ) (hD:D.length=3)
   (hkey:∀ x∈D,WC n c (.ref f) [.str x] le σ λv σ2=>∃ kl,v=.loc kl/\σ2=(kl,.list ((key x).map .str))::σ) (hlen:∀ x∈D,(key x).length=2)
   (h:∀ d (x0 x1 x2:Str) (g:Nat->Nat->Bool),d∉σ.map (·.1)->[x0,x1,x2].Perm D->(∀ i j t u,i≠j->[key x0,key x1,key x2][i]?=some t->[key x0,key x1,key x2][j]?=some u->qE t u=g i j)->K (.loc d) ((d,.list (((cU g 3).map λi=>[x0,x1,x2].getD i Str.empty).map .str))::σ)) :
   wpAny (Mo c.w) A (call (.builtin "sorted") [.ref q] [(ofString "key",.ref f)]) (PV c le tmp K) dh s:=by
 refine du (S.ob _ hm) λo e z8_ _=>?_;refine f9 z8_ λes ep t hex hd dd=>?_;refine call_function_entry_kw kind_sorted plain_sorted entry_sorted (ksk_s1 _ _) ?_;unfold Builtin.«sorted»;refine wpAny_bind (m:=checkCount "sorted" 1 1 _) (wpAny_pure ?_);refine wpAny_bind (jw (by exact hA.handled) e hex.1 hd dd.fits (.inr (.inl (by rw [dd.plain (by intro h;rw [h] at hD;cases hD),dd.len,hD];decide))) dd.size λh' dr tk vs htk hk hp=>?_)
 have hlen3:vs.length=3:=by rw [hp.length_eq,List.length_map,Array.length_toList,dd.len,hD]
 have hstr:∀ v∈vs,∃ x t,v=.str x t:=λv hv=>by
   refine ap (List.mem_map.mp (hp.mem_iff.mp hv)) λe he z9_=>?_;clear hv;obtain rfl:=z9_;exact dd.isS e he
 have hperm:(vs.map zC).Perm D:=by
   refine (hp.map zC).trans ?_;rw [List.map_map];exact dd.perm
 refine xD (wm hlen3) λv0 v1 v2 z0_=>?_;obtain rfl:=z0_;refine i4 (hstr v0 (.head _)) λx0 t0 z1_=>?_;obtain rfl:=z1_;refine i4 (hstr v1 (.tail _ (.head _))) λx1 t1 z2_=>?_;obtain rfl:=z2_;refine i4 (hstr v2 (bF 2 rfl)) λx2 t2 z3_=>?_;clear hp hlen3 hstr;obtain rfl:=z3_;have hperm:[x0,x1,x2].Perm D:=hperm;have hin:∀ x,x=x0\/x=x1\/x=x2->x∈D:=λx hx=>hperm.mem_iff.mp (by simpa using hx)
 have S1:St c le σ tmp { s with heap:=h',drawn:=dr,toks:=tk }:=((S.grow hk).drawn dr).toks tk (Nat.lt_of_lt_of_le S.tk htk)
 refine wpAny_bind (wpAny_newList ?_ (by show 3<=_;rw [sizeLine_eq];decide))
 have S2:=S1.keep (o:=az [.str x0 t0,.str x1 t1,.str x2 t2] 0) (f:=λo=>o=az [.str x0 t0,.str x1 t1,.str x2 t2] 0) rfl rfl;have hoL:(h'.push (az [.str x0 t0,.str x1 t1,.str x2 t2] 0)).get? h'.objs.size=some (az [.str x0 t0,.str x1 t1,.str x2 t2] 0):=Heap.get?_push_size _ rfl;refine wpAny_bind (wpAny_holding (wpAny_call_entry_kw slot_list_sort ⟨_,hoL,rfl⟩ entry_list_sort ?body (ksk_l1 _ _)));show wpAny _ _ (Builtin.«list.sort» ⟨[.ref h'.objs.size],[(ofString "key",.ref f)]⟩) _ _ _;rw [ksk_t1];let g:Nat->Nat->Bool:=λi j=>qE ([key x0,key x1,key x2].getD i []) ([key x0,key x1,key x2].getD j []);have hgg:∀ (i j:Nat) (t u:List Str),i≠j->[key x0,key x1,key x2][i]?=some t->[key x0,key x1,key x2][j]?=some u->qE t u=g i j:=λi j t u _ h1 h2=>by
   show _=qE _ _;rw [List.getD_eq_getElem?_getD,List.getD_eq_getElem?_getD,h1,h2];rfl
 have hn:h'.objs.size∉σ.map (·.1):=(S2.tm _ (.head _)).2.1
 refine wpAny_mono (we (n:=n) (key:=key) (g:=g) hA.in1.in1 S2 (λx hx=>?_) (λx hx=>hlen x (hin x hx)) hgg (P:=λfin s'=>fin=.done (.ret .none)/\∃ e',St c le σ (.o h'.objs.size (λo=>o=az ((cU g 3).map λi=>[Value.str x0 t0,.str x1 t1,.str x2 t2].getD i .none) e')::tmp) s') λe' s' S'=>⟨rfl,e',S'⟩) (λfin s' hq=>?_) λ_ _ x=>x.elim
 . exact hkey x (hin x hx)
 . refine bh hq λy7_ y8_=>?_;refine aH y8_ λe' S'=>?_;obtain rfl:=y7_;refine ⟨_,rfl,wpAny_pure ⟨_,rfl,pv (S'.adopt (Am _ λi hi=>bS g (by decide) i hi)) (.loc _) (h _ x0 x1 x2 g hn hperm hgg)⟩⟩
end
section
variable {n:Nat} {c:Cx} {le:ak} {σ:aa} {env:Env}
theorem mC {func arg lam:Expr} {pos kp:Pos} {K:LV->aa->Prop}
   (h:WV (n+2) c (eval func env) le σ λfv σ0=>fv=.val (.builtin "sorted")/\WV (n+2) c (eval arg env) le σ0 λx σ1=>WV (n+2) c (eval lam env) le σ1 λy σ2=>∃ (q f:Addr) (D:List Str) (key:Str->List Str),x=.loc q/\y=.loc f/\(q,.raw (fI c.w D))∈σ2/\D.length=3 /\
     (∀ x∈D,WC n c (.ref f) [.str x] le σ2 λv σ3=>∃ kl,v=.loc kl/\σ3=(kl,.list ((key x).map .str))::σ2)/\(∀ x∈D,(key x).length=2) /\
     (∀ d (x0 x1 x2:Str) (g:Nat->Nat->Bool),d∉σ2.map (·.1)->[x0,x1,x2].Perm D->(∀ i j t u,i≠j->[key x0,key x1,key x2][i]?=some t->[key x0,key x1,key x2][j]?=some u->qE t u=g i j)->K (.loc d) ((d,.list (((cU g 3).map λi=>[x0,x1,x2].getD i Str.empty).map .str))::σ2)))
   (he:eval (.Call func [arg] [⟨some (ofString "key"),lam,kp⟩] pos) env=(do callWith pos (<-eval func env) [] (backTo pos (starEach [arg] env)) (backToKw pos (keywordEach [⟨some (ofString "key"),lam,kp⟩] env))):=by rfl)
   (hst:starEach [arg] env=[(false,eval arg env)]:=by rfl) :
   WV (n+2) c (eval (.Call func [arg] [⟨some (ofString "key"),lam,kp⟩] pos) env) le σ K:=λA hA tmp s S=>by
 rw [he];refine wpAny_bind (wpAny_mono (h A hA tmp s S) (λfv s1 hq51=>?_) λ_ _ x=>x);refine bl hq51 λfl σ0 S1 e1 h1=>?_;subst e1;have rf:=S1.tm _ (.head _);clear hq51;obtain rfl:=RV.inv rf;have S1':=S1.drop1;refine callWith_kw ?_ (by rw [hst];rfl) (by rw [hst];rfl) (by rfl) (by rfl)
 have hwa:WA (n+2) c [arg] env le σ0 (λxs σ1=>∃ x,xs=[x]/\WV (n+2) c (eval lam env) le σ1 λy σ2=>∃ (q f:Addr) (D:List Str) (key:Str->List Str),x=.loc q/\y=.loc f/\(q,.raw (fI c.w D))∈σ2/\D.length=3 /\
     (∀ x∈D,WC n c (.ref f) [.str x] le σ2 λv σ3=>∃ kl,v=.loc kl/\σ3=(kl,.list ((key x).map .str))::σ2)/\(∀ x∈D,(key x).length=2) /\
     (∀ d (x0 x1 x2:Str) (g:Nat->Nat->Bool),d∉σ2.map (·.1)->[x0,x1,x2].Perm D->(∀ i j t u,i≠j->[key x0,key x1,key x2][i]?=some t->[key x0,key x1,key x2][j]?=some u->qE t u=g i j)->K (.loc d) ((d,.list (((cU g 3).map λi=>[x0,x1,x2].getD i Str.empty).map .str))::σ2))) :=
   af (h1.mono λx σ1 h2=>am ⟨x,rfl,h2⟩) hst
 refine wpAny_mono (hwa A hA pos tmp s1 S1') (λvs s2 hq52=>?_) λ_ _ x=>x;refine bl hq52 λxs σ1 S2 rx y0_=>?_;refine ap y0_ λx exs h2=>?_;subst exs;have hz:=aK.inv rx;clear rx;refine bl hz λ_ _ z0_ rx rn=>?_;obtain rfl:=z0_;obtain rfl:=aK.nil_ rn;refine kws_cons (wpAny_mono (h2 A hA _ s2 (S2.hold rx)) (λyv s3 hq53=>?_) λ_ _ x=>x);refine bb hq53 λy σ2 S3 y1_=>?_;refine Cu y1_ λq f D key ex ey hm hD hk hl hK=>?_;clear h2;subst ex;subst ey;have r1:=S3.tm _ (.head _);have r2:=S3.tm _ (.tail _ (.head _));obtain rfl:=RV.inv r1;clear rx hz;obtain rfl:=RV.inv r2;refine kws_nil ?_;exact qc hA S3.drop1.drop1 hm hD hk hl hK
noncomputable def m7 (k v:Expr) (env:Env) (D:Addr) (cd:Code):Sem PySem.Fin:=(do
 let kv <-eval k env;let vv <-holding [kv] (eval v env)
 standAt { k.pos with endLine:=v.pos.endLine,endCol:=v.pos.endCol }
 holding [kv,vv] (dictSet D kv vv)) >>= λ_=>again cd
theorem sC {k v:Expr} {D:Addr} {cd:Code} {K:ak->aa->Prop} (h:WV n c (eval k env) le σ λx σ1=>WV n c (eval v env) le σ1 λy σ2=>∃ q l σ',x=.str q/\Up D (.dict l) (.dict (ce q y l)) σ2 σ'/\l.length<=1000000/\K le σ'):WR n c (m7 k v env D cd) cd le σ K:=λA hA tmp s S=>by
 unfold m7;refine wpAny_bind (wpAny_bind (wpAny_mono (h A hA tmp s S) (λkv s1 hq54=>?_) λ_ _ x=>x));refine bb hq54 λx σ1 S1 h1=>?_;refine wpAny_bind (wpAny_holding (wpAny_mono (h1 A hA _ s1 S1) (λvv s2 hq55=>?_) λ_ _ x=>x));refine bb hq55 λy σ2 S2 y2_=>?_;refine qT y2_ λq l σ' ex u hl hK=>?_;clear h1;subst ex;have r1:=S2.tm _ (.head _);have r2:=S2.tm _ (.tail _ (.head _));refine aH (RV.inv r2) λtk z1_=>?_;clear hq54 S1 r2;obtain rfl:=z1_;refine wpAny_bind (wpAny_standAt ?_);refine du (RO.dictOf (S2.ob _ u.mem)) λm hm1 hm2 hm3=>?_;refine wpAny_holding (wpAny_dictSet_pairs (eP c.w q tk) hm2 (λh' hd hs=>?_) (by rw [<-hm1.length];exact av hl))
 refine wpAny_pure ⟨rfl,le,σ',?_,hK⟩;exact ((S2.drop1.drop1).upd u.upd hs λki=>RO.ofDict ((hm1.keeps ki).stored hm3 (r1.keeps ki)) hd).toks _
noncomputable abbrev y0 (k v target iter:Expr) (scope:Scope) (pos:Pos):Expr:=.DictComp k v [⟨target,iter,[],0⟩] scope pos
theorem ib {k v target iter:Expr} {scope:Scope} {pos:Pos} {cl:List (Str × Addr)} {y:Expr} {spos:Pos} {K:LF->ak->aa->Prop}
   (h:WV n c (eval iter env) le σ λx σ1=>∃ σ2 items Z,uV n c target x le σ1 σ2 items Z/\∀ D C it,D∉σ2.map (·.1)->C∉σ2.map (·.1)->C≠D ->
     CL n c target (compEnvC scope cl C env) (m7 k v (compEnvC scope cl C env) D (.compLoop (y0 k v target iter scope pos) 0 it (.ref D) (compEnvC scope cl C env))) (.compLoop (y0 k v target iter scope pos) 0 it (.ref D) (compEnvC scope cl C env)) Z
       (λle' σ'=>(∃ l,(C,.frame l)∈σ')/\g7 n c y env (.loc D) le' σ' λle2 σ2=>(∃ l,(C,.frame l)∈σ2)/\K .next le2 (bk C σ2)) items le ((C,.frame [])::(D,.dict [])::σ2))
   (hclos:closureFor scope env=pure cl) (hs:∀ x,foldedSetIterable iter env x=pure x) (hkind:scope.kind=.function)
   (hnames:∀ x∈scope.names,x.2=.local->scope.names.lookup x.1=some .local) (hcell:∀ x∈scope.names,x.2≠.cell)
   (hex:exec (.Assign [y] (y0 k v target iter scope pos) spos) env=(do standAt spos;evalThenUse (y0 k v target iter scope pos) env (assign y env);return .next)):WF n c (exec (.Assign [y] (y0 k v target iter scope pos) spos) env) le σ K:=λA hA tmp s S=>by
 rw [hex];refine wpAny_bind (wpAny_standAt (wpAny_bind ?_));show wpAny _ A (do let _ <-comprehension (y0 k v target iter scope pos) scope env _ newDict false (eval iter env) (some (assign y env))) _ _ s
 refine wpAny_bind (wpAny_mono (Q:=λ_ s'=>PF c tmp K .next s') ?_ (λ_ s' hq=>wpAny_pure (wpAny_pure hq)) λ_ _ x=>x);refine fL (g:=⟨target,iter,[],0⟩) (gs:=[]) (cl:=cl) (target:=target) (p:=iter.pos) (rest:=λD C it=>m7 k v (compEnvC scope cl C env) D (.compLoop (y0 k v target iter scope pos) 0 it (.ref D) (compEnvC scope cl C env))) (acc0:=.dict []) (ao:=dQ [] 0) hA rfl hs hclos hkind hnames hcell (λs Q hq=>wpAny_newObj_type hq) (λh=>⟨[],0,Heap.get?_push_size _ rfl,.nil,.nil⟩)
   (λD C it=>by rfl) (λD C it=>by rfl) (λ_ _ _=>rfl) (λ_ _ _=>rfl) (λ_ _ _=>rfl) (λ_ _ _ _=>rfl) (λ_ _ _ _=>rfl) S ?_
 exact h.mono λx σ1 hx28_=>md hx28_ λσ2 items Z ho hc=>⟨σ2,items,Z,ho,λD C it h1 h2 h3=>(hc D C it h1 h2 h3).mono λle' σ' hx29_=>bh hx29_ λhl k=>⟨hl,λs' S'=>eW hA S' k⟩⟩
end
section
variable {n:Nat} {c:Cx} {le:ak} {σ:aa} {env:Env}
theorem yc {x d:Addr} {fs:List (Str × LV)} {name:Str} {f:Addr} {K:LV->aa->Prop} (hx:(x,.inst d)∈σ) (hd:(d,.dict fs)∈σ) (hf:fs.lookup name=none) (ha:findIn (KF c.w.params) (.ref 204) name=some (some (.ref f))) (h:K (.meth f x) σ)
   (hg:plainGet (KF c.w.params) 204 name=true) (ht:isFn (KF c.w.params) (.ref f)=true) (hgf:specialIn (KF c.w.params) (.ref f) "__get__"=some (some (.builtin "function.__get__"))) (htk:takesIn (KF c.w.params) (.ref f)=some false) (hcp:copiedNames.contains name=false)
   (hh:hasDictIn (KF c.w.params) 204=true):OA n c (.loc x) name le σ K:=λA hA tmp s vx S r=>by
 obtain rfl:=RV.inv r;refine tZ S.ledger λm news F N _ back=>?_;have o1:=S.ob _ hx;refine bl (S.ob _ hd) λes k e de _=>?_;refine kbm_bound F S.bs.top.kin N (C:=204) (ox:=⟨.ref 204,some d,.plain,#[]⟩) (es:=es) (n:=k) ⟨o1,rfl,rfl,e⟩ hg hh ha ht hgf htk hcp (de.getNone hf) λq h' F' N' _=>?_;have S':=back h' (s.toks+1) (Nat.succ_pos _) F' λp hp=>(N' p (.tail _ hp)).1;exact pv S' (.meth (N' _ (.head _)).1) h
theorem ye {f x:Addr} {args:List Expr} {K:LV->aa->Prop} (hfn:fnIn (KF c.w.params) f=true) (h:WA n c args env le σ λxs σ2=>FC n c.w f (.loc x::xs) σ2 K) (hst:(starEach args env).any (·.1)=false:=by rfl):OC n c (.meth f x) args env le σ K:=λA hA pos tmp s fv S r=>by
 refine ap (RV.inv r) λq z0_ hq=>?_;clear r;obtain rfl:=z0_;have hany:((backTo pos (starEach args env)).any (·.1) || ([]:List (Option Str × Sem Value)).any (·.1.isNone))=false:=by rw [cN _ _ hst];rfl
 refine callWith_of (P:=MethP (KF c.w.params) q f (.ref x)) hany (keeps_M hfn) (bn hst (wpAny_mono (h A hA pos _ s (S.hold (.meth hq))) (λvs s1 hq56=>?_) λ_ _ e=>e));refine bl hq56 λxs σ1 S1 r1 h1=>?_;have rm:=S1.tm _ (.head _);have hq1:=RV.mref rm;refine ap S1.fr λm F _=>?_;refine ⟨⟨hq1,S1.bs.top.kin.keeps F.keep⟩,?_⟩;exact wpAny_call (method_call hq1 (h1 c rfl le A hA tmp s1 (.ref x::vs) S1.drop1 (.cons (.loc x) r1)))
theorem yh {a:Addr} {l:List (Str × LV)} {K:Bool->aa->Prop} (hm:(a,.dict l)∈σ) (hl:l.length<=1000000) (h:K (!l.isEmpty) σ):OT n c (.loc a) le σ K:=λA hA tmp s vx S r=>by
 obtain rfl:=RV.inv r;refine du (RO.dictOf (S.ob _ hm)) λm h1 h2 _=>?_;have hl':=h1.length;refine wpAny_truthy_dict (S.notSys (List.mem_map.mpr ⟨_,hm,rfl⟩)) h2 (By hl' hl rfl) ⟨σ,S.toks _,?_⟩;have:m.isEmpty=l.isEmpty:=by cases h1<;>rfl
 rw [this];exact h
theorem th {a:Addr} {l:List (Str × LV)} {name:Str} {id:String} {args:List Expr} {K:LV->aa->Prop} (hm:(a,.dict l)∈σ) (slot:Slot "dict" name id) (hty:typeOf (.builtin id)=pure (.type "method_descriptor"))
   (h:WA n c args env le σ λxs σ2=>WC n c (.builtin id) (.loc a::xs) le σ2 K) (hst:(starEach args env).any (·.1)=false:=by rfl):OM n c (.loc a) name args env le σ K:=λA hA pos pl tmp s vo S r=>by
 obtain rfl:=RV.inv r;refine bl (S.ob _ hm) λes k e de _=>?_;exact getMethod_builtin ⟨_,e,rfl⟩ PySem.F.plainAttrs_dict slot hty (λb hb=>by obtain rfl:=Value.ref.inj hb;exact ⟨_,e,rfl⟩) (kt hA S (.loc a) h hst)
theorem qt {a:Addr} {l:List (Str × LV)} {k:Str} {K:LV->aa->Prop} (hm:(a,.dict l)∈σ) (hl:l.lookup k=none) (h:K .none σ):WC n c (.builtin "dict.get") [.loc a,.str k] le σ K:=λA hA tmp s vs S r=>by
 refine bl (aK.inv r) λ_ _ z1_ r1 r2=>?_;obtain rfl:=z1_;have hz:=aK.inv r2;clear r2;refine bl hz λ_ _ z2_ r2 r3=>?_;obtain rfl:=z2_;obtain rfl:=RV.inv r1;obtain rfl:=aK.nil_ r3;refine aH (RV.inv r2) λt z3_=>?_;clear r2 hz r;obtain rfl:=z3_;refine du (RO.dictOf (S.ob _ hm)) λm h1 h2 _=>?_;have hv:=(h1.at k).2 hl;refine call_meetsIn PySem.F.slot_dict_get h2.typeIs PySem.F.entry_dict_get (PySem.F.args_dict_get_2 _ _) (meets_dict_get (SK c.w) a (k:=k) (eP c.w k t) (S.notSys (List.mem_map.mpr ⟨_,hm,rfl⟩))) ⟨_,h2.mapOf,?_⟩;rw [hv];exact pv (S.toks _) .none h
noncomputable def lq (d:Addr) (o:Obj):Prop:=o={ cls:=.type "dict_items",data:=.fields #[.ref d] }
theorem t9 {d:Addr}:¬ gR { cls:=.type "dict_items",data:=.fields #[.ref d] }:=by
 rintro (⟨vs,n,h⟩ | ⟨id,v,h⟩ | ⟨f,v,h⟩)<;>(have h1:=congrArg Obj.cls h;simp at h1)
theorem w8 {a:Addr} {l:List (Str × LV)} {K:LV->aa->Prop} (hm:(a,.dict l)∈σ) (h:∀ v,v∉σ.map (·.1)->K (.loc v) ((v,.raw (lq a))::σ)):WC n c (.builtin "dict.items") [.loc a] le σ K:=λA hA tmp s vs S r=>by
 refine bl (aK.inv r) λ_ _ z4_ r1 r2=>?_;obtain rfl:=z4_;obtain rfl:=RV.inv r1;clear r;obtain rfl:=aK.nil_ r2;refine du (RO.dictOf (S.ob _ hm)) λm h1 h2 _=>?_;refine call_meetsIn PySem.F.slot_dict_items h2.typeIs PySem.F.entry_dict_items (PySem.F.args_dict_items_1 _) (meets_dict_items (SK c.w) a (S.notSys (List.mem_map.mpr ⟨_,hm,rfl⟩))) ⟨⟨m,h2⟩,?_⟩;have S2:=S.new (o:={ cls:=.type "dict_items",data:=.fields #[.ref a] }) (lo:=.raw (lq a)) ⟨_,Heap.get?_push_size _ rfl,rfl,t9⟩;exact pv S2 (.loc _) (h _ λhm=>Nat.lt_irrefl _ (S.key_lt hm))
theorem v4 {w:World} {k:Str} {v:Value} (h:(SK w).is k v=true):∃ t,v=.str k t:=by
 have hv':Value.isStrOf k v=true:=h;cases v with
 | str x t=>exact ⟨t,by rw [show x=k by simpa [Value.isStrOf] using hv']⟩
 | _=>simp [Value.isStrOf] at hv'
theorem jY {v a:Addr} {k1 k2:Str} {x1 x2:LV} {f:Nat->Nat->Bool} {K:LV->aa->Prop} (hm:(v,.raw (lq a))∈σ) (hd:(a,.dict [(k1,x1),(k2,x2)])∈σ) (T:TS [[.str k1,x1],[.str k2,x2]] f)
   (h:∀ d,d∉σ.map (·.1)->K (.loc d) ((d,.list ((eE [] f [[.str k1,x1],[.str k2,x2]]).map .tup))::σ)):WC n c (.builtin "sorted") [.loc v] le σ K:=λA hA tmp s vs S r=>by
 refine bl (aK.inv r) λ_ _ z5_ r1 r2=>?_;obtain rfl:=z5_;obtain rfl:=RV.inv r1;clear r;obtain rfl:=aK.nil_ r2;refine du (S.ob _ hm) λov hov e _=>?_;subst e;refine du (RO.dictOf (S.ob _ hd)) λm h1 z6_ _=>?_;refine xD z6_ λo es ep da=>?_;have hda:Heap.DictAt (SK c.w) s.heap a m ep:=⟨o,es,da⟩;have hlen:m.length=2:=h1.length.symm;refine Calls.call_function_entry kind_sorted plain_sorted entry_sorted (args_sorted1 _) ?_;unfold Builtin.«sorted»;refine wpAny_bind (m:=checkCount "sorted" 1 1 _) (wpAny_pure ?_);refine wpAny_bind (wpAny_with_toks (n:=1) S.tk (kdx_collect (knd:=SK c.w) (kvs:=m) (ep:=ep) (by exact hA.handled) ⟨_,hov,rfl,rfl⟩ hda (by rw [hlen,sizeLine_eq];decide) λh' tk as hk hl hG htk=>?_))
 have S1:St c le σ tmp { s with heap:=h',toks:=tk }:=(S.grow hk).toks tk htk
 have ki:cC s.heap h':=λb o e _=>hk b o e;have hrv:aK h' ([[.str k1,x1],[.str k2,x2]].map LV.tup) (as.map Value.ref):=by
   cases h1 with | @cons _ _ v1 _ m1 q1 h1 =>
   cases h1 with | @cons _ _ v2 _ m2 q2 h1 =>
   cases h1;refine i4 (py hl) λa1 a2 z7_=>?_;clear hl;obtain rfl:=z7_;refine f9 (hG.pairs 0 a1 rfl) λkey1 kk1 xx1 e1 e2 e3=>?_;refine f9 (hG.pairs 1 a2 rfl) λkey2 kk2 xx2 f1 f2 f3=>?_;cases e1;cases f1;refine aH (v4 e2) λt1 z8_=>?_;clear e2;obtain rfl:=z8_;refine aH (v4 f2) λt2 z9_=>?_;clear f2;obtain rfl:=z9_;exact .cons (.tup (vs:=[_,_]) (n:=0) e3 (.cons (.str _ _) (.cons (q1.keeps ki) .nil))) (.cons (.tup (vs:=[_,_]) (n:=0) f3 (.cons (.str _ _) (.cons (q2.keeps ki) .nil))) .nil)
 refine wpAny_bind (wpAny_newList ?_ (by rw [List.length_map,hl,hlen,sizeLine_eq];decide))
 have S2:=S1.new (o:=seqObj "list" (as.map Value.ref).toArray 0) (lo:=.list ([[.str k1,x1],[.str k2,x2]].map LV.tup)) ⟨as.map Value.ref,0,Heap.get?_push_size _ rfl,hrv.keeps λb o e _=>Heap.get?_push_of_some _ e⟩;have hn:h'.objs.size∉σ.map (·.1):=λhm=>Nat.lt_irrefl _ (S1.key_lt hm)
 have hs:=jK (c:=c) (le:=le) (f:=f) (ts:=[[.str k1,x1],[.str k2,x2]]) (K:=λx σ'=>x=.none/\σ'=(h'.objs.size,.list ((eE [] f [[.str k1,x1],[.str k2,x2]]).map .tup))::σ) .head T (by show 2<=2;decide) ⟨rfl,rfl⟩ A.in1 tmp _ S2
 refine wpAny_bind (wpAny_holding (wpAny_mono hs (λx s3 hq57=>?_) λ_ _ x=>x));refine bl hq57 λlv σ3 S3 e1 e2=>?_;subst e1;subst e2;exact wpAny_pure ⟨_,rfl,pv S3.drop1 (.loc _) (h _ hn)⟩
end
noncomputable def sY:Option (Arguments × Expr × Scope × Pos):=((xk (oO (bG (b0 8))[6]?).1).2.1[0]?).bind λg=>((xk g.iter).2.2.2.1[0]?).bind λk=>(xk k.value).2.2.2.2
noncomputable def Bi:Arguments:=(sY.map (·.1)).getD ⟨[],[],none,[],[],none,[]⟩
noncomputable def Bh:Expr:=(sY.map (·.2.1)).getD (.Constant .none 0 ⟨0,0,0,0⟩)
noncomputable def Bj:Scope:=((sY.map (·.2.2.1))).getD (aE none)
noncomputable def dO:Pos:=((sY.map (·.2.2.2))).getD ⟨0,0,0,0⟩
theorem nV {n:Nat} {c:Cx} {le:ak} {σ:aa} {f c':Addr} {q:Str} {us:List Nat} {t:Nat} (hus:us.length=10) (ht:t=102\/t=114\/t=107) (hf:(f,.raw (hU c.w q Bi Bh Bj c'))∈σ) (hc:(c',.raw (jv q))∈σ) :
   WC (n+1) c (.ref f) [.str (aT us t)] le σ λv σ2=>∃ kl,v=.loc kl/\σ2=(kl,.list ((Txt.splitMax (aT us t) (ofString "}") 1).map .str))::σ:=by
 refine yA λnd=>?_;refine wf (x:=ofString "n") hf hc (λv=>by kernel_rfl!) (by decide +kernel) (by decide +kernel) (by decide +kernel) (by decide +kernel) (by decide +kernel) λc2 e2=>?_
 refine aG (ac rfl ?_);refine hV PySem.F.slot_str_split PySem.F.type_str_split (af (aB (af (aq (am (xa (by decide +kernel) (by decide +kernel) ?_ λkl hkl=>⟨_,⟨λ_ h=>h,?_⟩,kl,rfl,rfl⟩))))))
 . show (123::us++[125,t]).toArray.size<=100000;rw [List.size_toArray];simp [hus]
 . rw [List.map_cons];exact List.nodup_cons.mpr ⟨hkl,nd⟩
noncomputable def mu (x y:Str) (i:Nat) (s:Array Nat × Nat):ForInStep (Array Nat × Nat):=if (decide (s.1.size < 1) && decide (s.2<=i) && decide (i+y.length<=x.length) && Builtin.Str.subAt x y i)=true then .yield (s.1.push i,i+y.length) else .yield (s.1,s.2)
theorem wF (x y:Str):∀ (l:List Nat) (s:Array Nat × Nat),s.1.size=1->(forIn (m:=Id) l s (λi s=>mu x y i s):Array Nat × Nat)=s:=by
 intro l;induction l with
 | nil=>exact λs _=>rfl
 | cons i l ih =>
   intro s h;have e:mu x y i s=.yield s:=by unfold mu;rw [h];simp
   rw [List.forIn_cons,e];exact ih s h
theorem wG (x y:Str):∀ (l:List Nat),(∀ i∈l,Builtin.Str.subAt x y i=false)->∀ (r:List Nat) (s:Array Nat × Nat),(forIn (m:=Id) (l++r) s (λi s=>mu x y i s):Array Nat × Nat)=forIn (m:=Id) r s (λi s=>mu x y i s):=by
 intro l;induction l with
 | nil=>exact λ_ r s=>rfl
 | cons i l ih =>
   intro h r s;have e:mu x y i s=.yield s:=by unfold mu;rw [h i (.head _)];simp
   rw [List.cons_append,List.forIn_cons,e];exact ih (λj hj=>h j (.tail _ hj)) r s
theorem uw {x y:Str} {p:Nat} (hp:p+y.length<=x.length) (h0:∀ i,i < p->Builtin.Str.subAt x y i=false) (h1:Builtin.Str.subAt x y p=true):Builtin.Str.occurrences x y 0 x.length 1=[p]:=by
 unfold Builtin.Str.occurrences;simp only [Id.run,bind,pure,Std.Legacy.Range.forIn_eq_forIn_range'];have hs:[:x.length+1].size=x.length+1:=by simp [Std.Legacy.Range.size]
 rw [hs];have hr:List.range' 0 (x.length+1)=List.range p++(p::List.range' (p+1) (x.length - p)):=by
   rw [<-List.range_eq_range',show x.length+1=p+(1+(x.length - p)) by lia,List.range_add]
   congr 1;rw [List.range_add];simp [List.range_eq_range',List.map_add_range']
 rw [hr];show (forIn (m:=Id) (List.range p++(p::List.range' (p+1) (x.length - p))) ((#[],0):Array Nat × Nat) (λi s=>mu x y i s):Array Nat × Nat).1.toList=[p];rw [wG x y _ (λi hi=>h0 i (List.mem_range.mp hi)),List.forIn_cons];have e:mu x y p (#[],0)=.yield (#[p],p+y.length):=by unfold mu;rw [h1];simp [hp]
 rw [e];exact congrArg (λz:Array Nat × Nat=>z.1.toList) (wF x y (List.range' (p+1) (x.length - p)) (#[p],p+y.length) rfl)
theorem d7 {us:List Nat} (h:us.length=10) {t:Nat} (ht:t=102\/t=114\/t=107) (hn:∀ u∈us,u≠125):Txt.splitMax (aT us t) (ofString "}") 1=[bd (123::us),bd [t]]:=by
 have ho:Builtin.Str.occurrences (aT us t) (ofString "}") 0 (aT us t).length (limitOf (aT us t) 1)=[11]:=by
   refine uw ?_ (λi hi=>?_) ?_
   . show 11+1<=(123::us++[125,t]).toArray.size;rw [List.size_toArray];simp [h]
   . show ((123::us++[125,t]).toArray.extract i (i+1)==#[125])=false;rw [beq_eq_false_iff_ne];intro e;have e2:=congrArg (λz:Array Nat=>z[0]?) e;simp only [List.extract_toArray,List.getElem?_toArray,List.extract_eq_take_drop] at e2;have hi':i < (123::us++[125,t]).length:=by simp [h];exact sG hi rfl
     have e3:(123::us++[125,t])[i]?=some 125:=by simpa using e2
     rcases i with _ | i
     . simp at e3
     ·
       have hi2:i < us.length:=by lia
       have e4:us[i]?=some 125:=by simpa [List.getElem?_append_left hi2] using e3
       exact hn 125 (List.mem_of_getElem? e4) rfl
   . refine i4 (Ap h) λa b y0_=>?_;refine zX y0_ λc d e f g i j k y1_=>?_;obtain rfl:=y1_;rcases ht with rfl | rfl | rfl<;>kernel_rfl!
 unfold Txt.splitMax;rw [sW,ho];refine i4 (Ap h) λa b y2_=>?_;refine zX y2_ λc d e f g i j k y3_=>?_;obtain rfl:=y3_;rcases ht with rfl | rfl | rfl<;>kernel_rfl!
theorem pP {α β:Type} {f:α->β} {l m:List β} (h:l.Perm m):∀ t:List α,m=t.map f->∃ t':List α,t'.Perm t/\l=t'.map f:=by
 induction h with
 | nil=>intro t e;exact ⟨t,.refl _,e⟩
 | @cons x l m h ih =>
   intro t e;cases t with
   | nil=>cases e
   | cons a t =>
     refine bh (List.cons.inj e) λz0_ z1_=>?_;obtain rfl:=z0_;clear e;obtain rfl:=z1_;refine ap (ih t rfl) λt' p z2_=>?_;clear h ih;obtain rfl:=z2_;exact ⟨a::t',p.cons a,rfl⟩
 | @swap x y l =>
   intro t e;rcases t with _ | ⟨a,_ | ⟨b,t⟩⟩
   . cases e
   . cases e
   . cases e;exact ⟨b::a::t,.swap a b t,rfl⟩
 | trans h1 h2 ih1 ih2 =>
   intro t e;refine ap (ih2 t e) λt2 p2 e2=>?_;refine ap (ih1 t2 e2) λt1 p1 e1=>?_;exact ⟨t1,p1.trans p2,e1⟩
noncomputable abbrev Tg:=List Nat × Nat
noncomputable def bM (t:Tg):Str:=aT t.1 t.2
noncomputable def eH (t u:Tg):Prop:=t.1 < u.1\/(t.1=u.1/\t.2 < u.2)
noncomputable def v8 (t:Tg):List Str:=[bd (123::t.1),bd [t.2]]
theorem s8 {a b:List Nat}:bd a=bd b ↔ a=b:=⟨λh=>congrArg (λz:Str=>z.cps.toList) h,λh=>by rw [h]⟩
theorem key_lt {t u:Tg}:qE (v8 t) (v8 u)=true ↔ eH t u:=by
 unfold v8 eH;simp only [qE,s8,List.cons.injEq,true_and,and_true];by_cases h:t.1=u.1
 . by_cases h2:t.2=u.2
   . simp [h,h2,List.lt_irrefl]
   . simp [h,h2,bd,List.lt_irrefl,List.cons_lt_cons_iff]
 . simp [h,bd]
theorem jM {t u:Tg} (ne:t≠u):eH u t ↔ ¬ eH t u:=by
 unfold eH;have e:t=u ↔ t.1=u.1/\t.2=u.2:=Prod.ext_iff;have oO:t.1 < u.1\/t.1=u.1\/u.1 < t.1:=by
   by_cases h:t.1 < u.1
   . exact .inl h
   by_cases h':u.1 < t.1
   . exact .inr (.inr h')
   exact .inr (.inl (List.le_antisymm h' h))
 rcases oO with h | h | h
 . have:=List.lt_asymm h;have n:u.1≠t.1:=λq=>List.lt_irrefl _ (q ▸ h);simp [h,this,n]
 . rw [h];have:=List.lt_irrefl u.1;have n:t.2≠u.2:=λq=>ne (e.mpr ⟨h,q⟩);simp only [this,false_or,true_and];lia
 . have:=List.lt_asymm h;have n:t.1≠u.1:=λq=>List.lt_irrefl _ (q ▸ h);simp [h,this,n]
theorem qj {t u v:Tg} (h:eH t u) (h':eH u v):eH t v:=by
 unfold eH at *;rcases h with h | ⟨e,h⟩
 . rcases h' with h' | ⟨e',h'⟩
   . exact .inl (List.lt_trans h h')
   . exact .inl (e' ▸ h)
 . rcases h' with h' | ⟨e',h'⟩
   . exact .inl (e ▸ h')
   . exact .inr ⟨e.trans e',J2 h h'⟩
theorem qk {x0 x1 x2:Str} {T:List Tg} {key:Str->List Str} {g:Nat->Nat->Bool} (hT:T.length=3) (nd:T.Nodup) (hp:[x0,x1,x2].Perm (T.map bM)) (hk:∀ t∈T,key (bM t)=v8 t)
   (hg:∀ i j t u,i≠j->[key x0,key x1,key x2][i]?=some t->[key x0,key x1,key x2][j]?=some u->qE t u=g i j) :
   ∃ ts:List Tg,ts.Perm T/\ts.Pairwise eH/\((cU g 3).map λi=>[x0,x1,x2].getD i Str.empty)=ts.map bM:=by
 refine ap (pP hp T rfl) λt3 p3 e3=>?_;obtain ⟨t0,t1,t2,rfl⟩:∃ a b c,t3=[a,b,c]:=by
   have:=p3.length_eq.trans hT;exact wm this
 simp only [List.map_cons,List.map_nil,List.cons.injEq,and_true] at e3;refine qS e3 λz3_ z4_ z5_=>?_;obtain rfl:=z3_;obtain rfl:=z4_;clear hp e3;obtain rfl:=z5_;have nd3:[t0,t1,t2].Nodup:=p3.nodup_iff.mpr nd;have hget:∀ i,i < 3->[key (bM t0),key (bM t1),key (bM t2)][i]?=some (v8 ([t0,t1,t2].getD i t0)):=by
   intro i hi;have h0:=hk t0 (p3.mem_iff.mp (.head _));have h1:=hk t1 (p3.mem_iff.mp (.tail _ (.head _)));have h2:=hk t2 (p3.mem_iff.mp (bF 2 rfl));rw [h0,h1,h2];rcases Ad hi with rfl | rfl | rfl<;>rfl
 have hne:∀ i j,i < 3->j < 3->i≠j->[t0,t1,t2].getD i t0≠[t0,t1,t2].getD j t0:=by
   intro i j hi hj ne e;refine ne ?_;have h1:[t0,t1,t2][i]?=some ([t0,t1,t2].getD i t0):=by rw [List.getD_eq_getElem?_getD,List.getElem?_eq_getElem (by simpa using hi)];rfl
   have h2:[t0,t1,t2][j]?=some ([t0,t1,t2].getD j t0):=by rw [List.getD_eq_getElem?_getD,List.getElem?_eq_getElem (by simpa using hj)];rfl
   exact (List.getElem?_inj (by simpa using hi) nd3).mp (h1.trans (e ▸ h2.symm))
 have hgt:∀ i j,i < 3->j < 3->i≠j->(g i j=true ↔ eH ([t0,t1,t2].getD i t0) ([t0,t1,t2].getD j t0)):=by
   intro i j hi hj ne;rw [<-hg i j _ _ ne (hget i hi) (hget j hj)];exact key_lt
 have hg0:∀ i j,i < 3->j < 3->i≠j->g j i=!g i j:=by
   intro i j hi hj ne;have a:=hgt i j hi hj ne;have b:=hgt j i hj hi (Ne.symm ne);rw [jM (hne i j hi hj ne)] at b;rw [<-a] at b;cases h:g j i<;>cases h':g i j<;>simp_all
 refine ⟨(cU g 3).map λi=>[t0,t1,t2].getD i t0,?_,?_,?_⟩
 . refine ((d6 g (by decide)).map _).trans (.trans ?_ p3)
   exact .refl _
 . rw [List.pairwise_map];have hr:=rY (f:=λi j=>decide (i≠j) && g i j) (m:=3) (by decide) ?_ ?_
   . rw [cq (g:=g) (by decide) (λi j _ _ ne=>by simp [ne])] at hr
     refine List.Pairwise.imp_of_mem ?_ hr;intro i j hi hj h;simp only [Bool.and_eq_true,decide_eq_true_eq] at h;exact (hgt i j (bS g (by decide) i hi) (bS g (by decide) j hj) h.1).mp h.2
   . intro i j hi hj ne;simp [ne,Ne.symm ne,hg0 i j hi hj ne]
   . intro i j k hi hj hk' h1 h2;simp only [Bool.and_eq_true,decide_eq_true_eq] at h1 h2 ⊢;have a:=(hgt i j hi hj h1.1).mp h1.2;have b:=(hgt j k hj hk' h2.1).mp h2.2;have ne:i≠k:=by
       rintro rfl;exact (jM (hne i j hi hj h1.1)).mp b a
     exact ⟨ne,(hgt i k hi hk' ne).mpr (qj a b)⟩
 . rw [List.map_map];refine List.map_congr_left λi hi=>?_;have hi:=bS g (by decide) i hi
   rcases Ad hi with rfl | rfl | rfl<;>rfl
noncomputable def aI (ch:List Addr) (σ σ':aa):Prop:=∀ q∈σ,q.1∉ch->q∈σ'
theorem aI.trans {c1 c2:List Addr} {σ σ1 σ2:aa} (h:aI c1 σ σ1) (h':aI c2 σ1 σ2):aI (c1++c2) σ σ2:=λq hq n =>
 h' q (h q hq λe=>n (List.mem_append_left _ e)) λe=>n (List.mem_append_right _ e)
theorem aI.mono {c1 c2:List Addr} {σ σ1:aa} (h:aI c1 σ σ1) (s:∀ a∈c1,a∈c2):aI c2 σ σ1:=λq hq n=>h q hq λe=>n (s _ e)
theorem aI.up {a:Addr} {o o':LO} {σ σ1:aa} (u:Up a o o' σ σ1):aI [a] σ σ1:=λq hq n=>u.old hq λe=>n (by rw [e];exact .head _)
theorem WS.at {W:f8} {fr:List (Addr × bg)} {pm:bg} {page data:List Str} {k:Nat} {seen done:LV} {σ:aa} (ws:WS W fr pm page data k seen done σ) {x:Addr} (h:x∈WL W++fr.map (·.1)):x∈σ.map (·.1):=by
 have key:∀ {o:LO},(x,o)∈σ->x∈σ.map (·.1):=λh=>List.mem_map.mpr ⟨_,h,rfl⟩
 refine Or.elim (List.mem_append.mp h) (λh=>?_) λh=>?_
 . simp only [WL,List.mem_cons,List.not_mem_nil,or_false] at h;refine ap ws.nss λl _ hn=>?_;rcases h with rfl | rfl | rfl | rfl | rfl | rfl | rfl | rfl
   . exact key ws.inst
   . exact key ws.dict
   . exact key ws.page
   . exact key ws.data
   . exact key ws.dcl
   . exact key hn
   . exact key ws.pm
   . exact key ws.ps
 . refine ap (List.mem_map.mp h) λp hp z0_=>?_;obtain rfl:=z0_;exact key (ws.each p hp)
theorem WS.keep {W:f8} {fr:List (Addr × bg)} {pm:bg} {page data:List Str} {k:Nat} {seen done:LV} {σ σ':aa} (ws:WS W fr pm page data k seen done σ) {ch:List Addr} (h:aI ch σ σ') (hc:∀ x∈ch,x∉WL W++fr.map (·.1)):WS W fr pm page data k seen done σ':=by
 have n:∀ x,x∈WL W->x∉ch:=λx hx e=>hc x e (List.mem_append_left _ hx);refine ap ws.nss λl hl hn=>?_;refine ⟨h _ ws.inst (n _ (by simp [WL])),h _ ws.dict (n _ (by simp [WL])),h _ ws.page (n _ (by simp [WL])),h _ ws.data (n _ (by simp [WL])),h _ ws.dcl (n _ (by simp [WL])),λp hp=>?_,⟨l,hl,h _ hn (n _ (by simp [WL]))⟩,h _ ws.pm (n _ (by simp [WL])),h _ ws.ps (n _ (by simp [WL])),ws.ad⟩
 exact h _ (ws.each p hp) λe=>hc _ e (List.mem_append_right _ (List.mem_map.mpr ⟨p,hp,rfl⟩))
theorem WS.fresh {W:f8} {fr:List (Addr × bg)} {pm:bg} {page data:List Str} {k:Nat} {seen done:LV} {σ:aa} (ws:WS W fr pm page data k seen done σ) {x:Addr} (h:x∉σ.map (·.1)):x∉WL W++fr.map (·.1):=λe=>h (ws.at e)
section
variable {n:Nat} {c:Cx} {le:ak} {σ:aa} {env:Env}
theorem lX {t:Expr} {x:LV} {K:ak->aa->Prop} (h:(σ.map (·.1)).Nodup->g7 n c t env x le σ K):g7 n c t env x le σ K:=λA hA tmp s vx S r=>h S.nd A hA tmp s vx S r
theorem FC.room {m:Nat} {w:World} {a:Addr} {args:List LV} {K:LV->aa->Prop} (h:FC m w a args σ K) (hn:m<=n):FC n w a args σ K:=λc hc le A hA tmp s vs S r=>h c hc le A (hA.le hn) tmp s vs S r
noncomputable def d9 (pos:Pos) (q:Str) (σ:aa):Prop:=(177,.raw my)∈σ\/∃ c',(177,.raw (w0 pos c'))∈σ/\(c',.raw (jv q))∈σ
theorem sF {params:Arguments} {body:Expr} {scope:Scope} {pos:Pos} {K:LV->aa->Prop} (hcode:env.code=.ref 179) (hglb:env.globals=mainGlobals) (hcl:closureFor scope env=pure []) (hdef:defaultsOf params env=([],[]))
   (hm:d9 pos (env.qual++"<lambda>") σ)
   (h:∀ c' f σ',aI [177] σ σ'->(177,.raw (w0 pos c'))∈σ'->(c',.raw (jv (env.qual++"<lambda>")))∈σ'->(f,.raw (hU c.w (env.qual++"<lambda>") params body scope c'))∈σ'->K (.loc f) σ') :
   WV n c (eval (.Lambda params body scope pos) env) le σ K:=by
 refine Or.elim hm (λhm=>?_) λhm=>?_
 . refine sD hcode hglb hcl hdef hm λc' f σ' h1 h2 h3 u=>h c' f _ ?_ ?_ ?_ (.head _)
   . exact λq hq ne=>.tail _ (.tail _ (aI.up u q hq ne))
   . exact .tail _ (.tail _ u.new)
   . exact .tail _ (.head _)
 . refine ap hm λc' hm hc=>?_;refine sE hcode hglb hcl hdef hm λf hf=>h c' f _ (λq hq _=>.tail _ hq) (.tail _ hm) (.tail _ hc) (.head _)
end
noncomputable def jE (F0:bg) (st:bg × bg) (u:Str):Str:=(bx u (st.1++F0) []).getD (dI u st.2)
noncomputable def bH (F0:bg) (st:bg × bg) (u:Str):bg × bg:=if (bx u (st.1++F0) []).isSome then st else (st.1++[(u,dI u st.2)],jm u st.2)
noncomputable def mW (F0:bg):List Tg->bg × bg->List (Str × LV)
 | [],_=>[]
 | t::ts,st=>(bM t,gr (jE F0 st (bd t.1)) (bd [t.2]) (bd t.1))::mW F0 ts (bH F0 st (bd t.1))
noncomputable def b6 (F0:bg) (ts:List Tg) (st:bg × bg):bg × bg:=ts.foldl (λst t=>bH F0 st (bd t.1)) st
theorem cR (fr0:List (Addr × bg)) (a:Addr) (l:bg):aD (fr0++[(a,l)])=l++aD fr0:=by
 unfold aD;simp
structure ik (fr0:List (Addr × bg)) (l pm:bg) (j:Nat):Prop where
 each:∀ p∈aD fr0,p.2.length<=100/\p.2.length≠0
 eachl:∀ p∈l,p.2.length<=100/\p.2.length≠0
 pmv:∀ p∈pm,p.2.length<=100/\p.2.length≠0
 len:(aD fr0).length+l.length+j<=2000
 frl:∀ p∈fr0,p.2.length<=2000
 pml:pm.length+j<=60
theorem ik.fit {fr0:List (Addr × bg)} {a:Addr} {l pm:bg} {j:Nat} (f:ik fr0 l pm j):zG (fr0++[(a,l)]) pm:=by
 have:=f.len;refine ⟨λp hp=>?_,f.pmv,?_,λp hp=>?_,by have:=f.pml;exact zE this rfl⟩
 . rw [cR] at hp;exact (List.mem_append.mp hp).elim (f.eachl p) (f.each p)
 . rw [cR,List.length_append];lia
 . refine Or.elim (List.mem_append.mp hp) (λhp=>?_) λhp=>?_
   . exact f.frl p hp
   . rw [List.mem_singleton] at hp;subst hp;dsimp only;lia
theorem mZ {u:Str} {pm:bg} (h:∀ p∈pm,p.2.length<=100/\p.2.length≠0) (hl:pm.length<=60):(dI u pm).length<=100/\(dI u pm).length≠0:=by
 unfold dI;cases e:pm.lookup u with
 | some p=>exact h _ (bR e)
 | none =>
   have h1:=fT hl;have h2:(ofString "n").length=1:=by decide +kernel
   dsimp only;rw [ay,h2];lia
theorem ik.step {fr0:List (Addr × bg)} {l pm:bg} {j:Nat} (f:ik fr0 l pm (j+1)) (u:Str):ik fr0 (bH (aD fr0) (l,pm) u).1 (bH (aD fr0) (l,pm) u).2 j:=by
 have h1:=f.len;have h2:=f.pml;unfold bH;split
 . exact ⟨f.each,f.eachl,f.pmv,by dsimp only;lia,f.frl,by dsimp only;exact AE h2 rfl⟩
 . have hn:=mZ (u:=u) f.pmv (yG h2 rfl);refine ⟨f.each,λp hp=>?_,λp hp=>?_,by simp;lia,f.frl,?_⟩
   . refine Or.elim (List.mem_append.mp hp) (λhp=>?_) λhp=>?_
     . exact f.eachl p hp
     . rw [List.mem_singleton] at hp;subst hp;exact hn
   . dsimp only [jm] at hp;cases e:pm.lookup u with
     | some q=>rw [e] at hp;exact f.pmv p hp
     | none =>
       rw [e] at hp;refine Or.elim (List.mem_append.mp hp) (λhp=>?_) λhp=>?_
       . exact f.pmv p hp
       . rw [List.mem_singleton] at hp;subst hp;have:dI u pm=ofString "n"++ofString (toString (pm.length:Int)):=by unfold dI;rw [e]
         rw [this] at hn;exact hn
   . dsimp only [jm];cases pm.lookup u with
     | some q=>dsimp only;exact AE h2 rfl
     | none=>simp;exact zJ h2 rfl
theorem vD {c:Cx} {le:ak} {E':Env} {C D cl dl:Addr} {cd:Code} {p1 p2 p3 p4 p5:Pos} {items:List LV} {W:f8} {fr0:List (Addr × bg)} {a:Addr} {page:List Str} {k:Nat} {seen dn:LV} {Kc:ak->aa->Prop}
   (hL:E'.locals=C) (hk:E'.scope.kind=.function) (hn:E'.kindOf (ofString "n")=some .local) (hp:E'.kindOf (ofString "parse_qname")=some .cell\/E'.kindOf (ofString "parse_qname")=some .free) (hc:E'.cells.lookup (ofString "parse_qname")=some cl)
   (hfn:fnIn (KF c.w.params) 144=true) (hdl:dl≠a) (hC:C∉WL W++(fr0++[(a,([]:bg))]).map (·.1)) (hD:D∉WL W++(fr0++[(a,([]:bg))]).map (·.1)) (hCD:C≠D):∀ (ts:List Tg) (done:List (Str × LV)) (l pm:bg) (σ:aa) (lf:ak),
   (∀ t∈ts,t.1.length=10/\(t.2=102\/t.2=114\/t.2=107))->WS W (fr0++[(a,l)]) pm page [] k seen dn σ->ik fr0 l pm ts.length->(D,.dict done)∈σ->(C,.frame lf)∈σ->(cl,.cell (some (.meth 144 W.x)))∈σ->(dl,.list items)∈σ ->
   done.length+ts.length<=100->(∀ t∈ts,bM t∉done.map (·.1))->(ts.map bM).Nodup ->
   (∀ lf' σ',aI [a,W.pm,C,D] σ σ'->WS W (fr0++[(a,(b6 (aD fr0) ts (l,pm)).1)]) (b6 (aD fr0) ts (l,pm)).2 page [] k seen dn σ'->(D,.dict (done++mW (aD fr0) ts (l,pm)))∈σ'->(C,.frame lf')∈σ'->Kc le σ') ->
   CL 11 c (.Name (ofString "n") p1) E' (m7 (.Name (ofString "n") p2) (.Call (.Name (ofString "parse_qname") p3) [.Name (ofString "n") p4] [] p5) E' D cd) cd (λσ=>(dl,.list items)∈σ) Kc (ts.map λt=>.str (bM t)) le σ:=by
 intro ts;induction ts with
 | nil =>
   intro done l pm σ lf _ ws _ hDm hCm _ hI _ _ _ hK;refine ⟨hI,hK lf σ (λq hq _=>hq) ws ?_ hCm⟩;rw [mW,List.append_nil];exact hDm
 | cons t ts ih =>
   intro done l pm σ lf ht ws fit hDm hCm hcl hI hlen hno hnd hK;rw [List.map_cons];refine ⟨hI,lX λnd=>?_⟩;refine bh (ht t (.head _)) λht1 ht2=>?_;refine aH (Up.ex (o':=.frame (an (ofString "n") (.str (bM t)) lf)) hCm) λσ1 u1=>?_;refine gJ u1 ?_ hL hk hn;have hfr:∀ l':bg,(fr0++[(a,l')]).map (·.1)=(fr0++[(a,([]:bg))]).map (·.1):=λl'=>by simp
   have hC':∀ l':bg,C∉WL W++(fr0++[(a,l')]).map (·.1):=λl'=>by rw [hfr];exact hC
   have hD':∀ l':bg,D∉WL W++(fr0++[(a,l')]).map (·.1):=λl'=>by rw [hfr];exact hD
   have ws1:WS W (fr0++[(a,l)]) pm page [] k seen dn σ1:=ws.keep (aI.up u1) λx hx=>by rw [List.mem_singleton] at hx;clear hL hC hCD ih hCm hK u1;subst hx;exact hC' l
   have hn1:(an (ofString "n") (LV.str (bM t)) lf).lookup (ofString "n")=some (.str (bM t)):=by rw [ag,if_pos rfl]
   have nC:∀ {x:Addr} {o:LO},(x,o)∈σ->(∀ l,o≠.frame l)->x≠C:=by
     intro x o hx ho e;clear hL hC hCD ih hK u1 hC';subst e;exact ho _ (aJ nd hx hCm)
   have hcl1:=u1.old hcl (nC hcl (λ_=>λh=>LO.noConfusion h));have hD1:=u1.old hDm (nC hDm (λ_=>λh=>LO.noConfusion h));have hI1:=u1.old hI (nC hI (λ_=>λh=>LO.noConfusion h));have hC1:=u1.new;have nd1:(σ1.map (·.1)).Nodup:=by rw [u1.keys];exact nd
   have rest:∀ (p:Str) (l2 pm2:bg) (σ2:aa),p=jE (aD fr0) (l,pm) (bd t.1)->(l2,pm2)=bH (aD fr0) (l,pm) (bd t.1)->aI [a,W.pm] σ1 σ2->WS W (fr0++[(a,l2)]) pm2 page [] k seen dn σ2 ->
       ∃ q l' σ',LV.str (bM t)=.str q/\Up D (.dict l') (.dict (ce q (gr p (bd [t.2]) (bd t.1)) l')) σ2 σ'/\l'.length<=1000000/\CL 11 c (.Name (ofString "n") p1) E' (m7 (.Name (ofString "n") p2) (.Call (.Name (ofString "parse_qname") p3) [.Name (ofString "n") p4] [] p5) E' D cd) cd (λσ=>(dl,.list items)∈σ) Kc (ts.map λt=>.str (bM t)) le σ':=by
     intro p l2 pm2 σ2 ep est kp ws2;have hm:∀ {x:Addr} {o:LO},(x,o)∈σ1->x≠a->x≠W.pm->(x,o)∈σ2:=λhx h1 h2=>kp _ hx (by simp [h1,h2])
     have ha:a∈WL W++(fr0++[(a,([]:bg))]).map (·.1):=by simp
     have hpm:W.pm∈WL W++(fr0++[(a,([]:bg))]).map (·.1):=by simp [WL]
     have hDa:D≠a:=λe=>hD (e ▸ ha);have hDp:D≠W.pm:=λe=>hD (e ▸ hpm);have hCa:C≠a:=λe=>hC (e ▸ ha);have hCp:C≠W.pm:=λe=>hC (e ▸ hpm);have hD2:=hm hD1 hDa hDp;refine aH (Up.ex (o':=.dict (ce (bM t) (gr p (bd [t.2]) (bd t.1)) done)) hD2) λσ3 u3=>?_;refine ⟨bM t,done,σ3,rfl,u3,zE hlen rfl,?_⟩;have ea:∀ {o:LO},(a,o)∈σ1->o=.list (l.map iE):=λho=>aJ nd1 ho (ws1.each (a,l) (by simp))
     have epm:∀ {o:LO},(W.pm,o)∈σ1->∃ d,o=.dict d:=λho=>⟨_,aJ nd1 ho ws1.pm⟩;have hcla:cl≠a:=by rintro rfl;cases ea hcl1
     have hclp:cl≠W.pm:=by intro e;rw [e] at hcl1;refine aH (epm hcl1) λd e=>?_;cases e
     have hIp:dl≠W.pm:=by intro e;rw [e] at hI1;refine aH (epm hI1) λd e=>?_;cases e
     have hclD:cl≠D:=by rintro rfl;cases aJ nd1 hcl1 hD1
     have hID:dl≠D:=by rintro rfl;cases aJ nd1 hI1 hD1
     have efs:ce (bM t) (gr p (bd [t.2]) (bd t.1)) done=done++[(bM t,gr p (bd [t.2]) (bd t.1))]:=dR (hno t (.head _));have ws3:=ws2.keep (aI.up u3) λx hx=>by rw [List.mem_singleton] at hx;clear hD hCD ih hDm hK hD1 hDa hDp hD2 u3 hclD hID;subst hx;exact hD' l2
     have hst:bH (aD fr0) (l,pm) (bd t.1)=(l2,pm2):=est.symm;have fit2:=fit.step (bd t.1);rw [hst] at fit2;rw [List.map_cons,List.nodup_cons] at hnd;refine ih _ l2 pm2 σ3 _ (λu hu=>ht u (.tail _ hu)) ws3 fit2 (efs ▸ u3.new) (u3.old (hm hC1 hCa hCp) hCD) (u3.old (hm hcl1 hcla hclp) hclD) (u3.old (hm hI1 hdl hIp) hID) ?_ ?_ hnd.2 ?_
     . rw [List.length_append];rw [List.length_cons] at hlen;simp only [List.length_cons,List.length_nil];exact yV hlen rfl
     . intro u hu hm2;rw [List.map_append] at hm2;refine Or.elim (List.mem_append.mp hm2) (λhm2=>?_) λhm2=>?_
       . exact hno u (.tail _ hu) hm2
       . simp only [List.map_cons,List.map_nil,List.mem_singleton] at hm2;exact hnd.1 (hm2 ▸ List.mem_map.mpr ⟨u,hu,rfl⟩)
     . intro lf' σ' k4 ws4 hD4 hC4;refine hK lf' σ' ((((aI.up u1).trans kp).trans (aI.up u3)).trans k4 |>.mono (by simp)) ?_ ?_ hC4
       . show WS W (fr0++[(a,(b6 (aD fr0) ts (bH (aD fr0) (l,pm) (bd t.1))).1)]) (b6 (aD fr0) ts (bH (aD fr0) (l,pm) (bd t.1))).2 page [] k seen dn σ';rw [hst];exact ws4
       . rw [mW,hst,<-ep];rw [List.append_assoc] at hD4;exact hD4
   refine sC (bf hC1 hn1 (aC (aF hcl1 (ye hfn (af (bf hC1 hn1 (am (FC.room (jL ws1 ht1 ht2 fit.fit (λp σ2 e h2=>?_) (λσ2 e h2 ws2=>?_)) (by decide))) hL hk hn))) hc hp hk)) hL hk hn)
   . rw [cR] at e;refine rest p l pm σ2 ?_ ?_ (λq hq _=>h2 q hq) (ws1.mono h2)
     . show p=(bx (bd t.1) (l++aD fr0) []).getD _;rw [e];rfl
     . unfold bH;dsimp only;rw [e];rfl
   . rw [cR] at e;refine rest _ _ _ σ2 ?_ ?_ (λq hq nn=>h2 q hq (λe=>nn (by simp [e])) (λe=>nn (by simp [e]))) ws2
     . show _=(bx (bd t.1) (l++aD fr0) []).getD _;rw [e];rfl
     . unfold bH;dsimp only;rw [e];rfl
section
variable {n:Nat} {c:Cx} {le:ak} {σ:aa} {env:Env}
theorem qs {x y:Str} {p1 p2:Pos} {k:Nat} {pos:Pos} {C:Addr} {lf:ak} {a b:LV} {K:ak->aa->Prop} (hm:(C,.frame lf)∈σ) (h:∀ σ',aI [C] σ σ'->(C,.frame (an y b (an x a lf)))∈σ'->K le σ')
   (hL:env.locals=C) (hx:env.kindOf x=some .local:=by rfl) (hy:env.kindOf y=some .local:=by rfl) (hk:env.scope.kind=.function:=by rfl):g7 n c (.Tuple [.Name x p1,.Name y p2] k pos) env (.tup [a,b]) le σ K:=by
 refine aH (Up.ex (o':=.frame (an x a lf)) hm) λσ1 u1=>?_;refine aH (Up.ex (o':=.frame (an y b (an x a lf))) u1.new) λσ2 u2=>?_;refine oJ (gJ u1 (gJ u2 (h σ2 (((aI.up u1).trans (aI.up u2)).mono (by simp)) u2.new) hL hk hy) hL hk hx) rfl (h3:=?_)
 intro e r pre h;rcases pre with _ | ⟨_,_ | ⟨_,pre⟩⟩
 . refine bh (List.cons.inj h) λz0_ z1_=>?_;obtain rfl:=z0_;clear h;obtain rfl:=z1_;rfl
 . cases h;rfl
 . simp at h
theorem eI {x:Str} {pos:Pos} {C:Addr} {lf:ak} {a:LV} {K:ak->aa->Prop} (hm:(C,.frame lf)∈σ) (h:∀ σ',aI [C] σ σ'->(C,.frame (an x a lf))∈σ'->K le σ')
   (hL:env.locals=C) (hx:env.kindOf x=some .local:=by rfl) (hk:env.scope.kind=.function:=by rfl):g7 n c (.Name x pos) env a le σ K:=by
 refine aH (Up.ex (o':=.frame (an x a lf)) hm) λσ1 u1=>?_;exact gJ u1 (h σ1 (aI.up u1) u1.new) hL hk hx
theorem vt {target elt:Expr} {E':Env} {C D:Addr} {cd:Code} {Z:aa->Prop} {Kc:ak->aa->Prop} {σ0:aa} (hZ:∀ σ,aI [C,D] σ0 σ->Z σ) (hCD:C≠D) {α:Type} {g f:α->LV}:∀ (items:List α) (acc:List LV) (σ:aa) (lf:ak),acc.length+items.length<=1000000 ->
   (∀ x∈items,∀ σ lf,aI [C,D] σ0 σ->(C,.frame lf)∈σ->g7 n c target E' (g x) le σ λle1 σ1=>le1=le/\WV n c (eval elt E') le σ1 λv σ2=>v=f x/\aI [C] σ σ2/\∃ lf',(C,.frame lf')∈σ2) ->
   aI [C,D] σ0 σ->(C,.frame lf)∈σ->(D,.list acc)∈σ->(∀ σ' lf',aI [C,D] σ0 σ'->(C,.frame lf')∈σ'->(D,.list (acc++items.map f))∈σ'->Kc le σ') ->
   CL n c target E' (gY elt E' D cd) cd Z Kc (items.map g) le σ:=by
 intro items;induction items with
 | nil =>
   intro acc σ lf _ _ k hC hD fin;exact ⟨hZ σ k,fin σ lf k hC (by rw [List.map_nil,List.append_nil];exact hD)⟩
 | cons x xs ih =>
   intro acc σ lf hl step k hC hD fin;refine ⟨hZ σ k,(step x (.head _) σ lf k hC).mono λle1 σ1 hh=>?_⟩;refine bh hh λz2_ hv=>?_;clear hh;obtain rfl:=z2_;refine gK (hv.mono λv σ2 hh=>?_);refine bh hh λy0_ y1_=>?_;refine bh y1_ λk2 y2_=>?_;refine aH y2_ λlf2 hC2=>?_;obtain rfl:=y0_;refine aH (Up.ex (o':=.list (acc++[f x])) (k2 _ hD (by simpa using Ne.symm hCD))) λσ3 u=>?_
   refine ⟨acc,σ3,u,by rw [List.length_cons] at hl;exact yG hl rfl,?_⟩
   refine ih (acc++[f x]) σ3 lf2 (by rw [List.length_append];rw [List.length_cons] at hl;simp only [List.length_cons,List.length_nil];exact yV hl rfl) (λy hy=>step y (.tail _ hy)) (((k.trans k2).trans (aI.up u)).mono (by simp)) (u.old hC2 hCD) u.new λσ' lf' k' hC' hD'=>fin σ' lf' k' hC' ?_
   rw [List.append_assoc] at hD';exact hD'
theorem Up.same {a:Addr} {o:LO} {r r':aa} (u:Up a o o r r'):r=r':=by
 induction u with
 | head=>rfl
 | tail _ ih=>rw [ih]
noncomputable def eC (p q:Str × Str):Bool:=if p.1=q.1 then (if p.2=q.2 then false else decide (p.2.cps.toList < q.2.cps.toList)) else decide (p.1.cps.toList < q.1.cps.toList)
noncomputable def jF (p:Str × Str):List LV:=[.str p.1,.str p.2]
noncomputable def ck (l:List (Str × Str)):List (Str × Str):=eE (Str.empty,Str.empty) (λi j=>eC (l.getD i (Str.empty,Str.empty)) (l.getD j (Str.empty,Str.empty))) l
theorem wq (p q:Str × Str):rz (jF p) (jF q)=some (eC p q):=by
 obtain ⟨a,b⟩:=p;obtain ⟨a',b'⟩:=q;simp only [jF,mU,s7,eC];split
 . split<;>rfl
 . rfl
theorem tD {l:List (Str × Str)} (h:l.length<=3):TS (l.map jF) (λi j=>eC (l.getD i (Str.empty,Str.empty)) (l.getD j (Str.empty,Str.empty))):=by
 refine ⟨λ_=>⟨.type "str",.inr rfl,λt ht=>?_⟩,by rw [List.length_map];exact h,λt ht u hu=>?_,λi j t u ne ht hu=>?_⟩
 . refine ap (List.mem_map.mp ht) λp _ z3_=>?_;clear ht;obtain rfl:=z3_;exact ⟨.str p.1,rfl,rfl⟩
 . refine ap (List.mem_map.mp ht) λp _ z4_=>?_;clear ht;obtain rfl:=z4_;refine ap (List.mem_map.mp hu) λq _ z5_=>?_;clear hu;obtain rfl:=z5_;rfl
 . rw [List.getElem?_map] at ht hu;cases e1:l[i]? with
   | none=>rw [e1] at ht;cases ht
   | some p =>
     cases e2:l[j]? with
     | none=>rw [e2] at hu;cases hu
     | some q =>
       rw [e1] at ht;rw [e2] at hu;obtain rfl:=Option.some.inj ht;obtain rfl:=Option.some.inj hu;rw [List.getD_eq_getElem?_getD,List.getD_eq_getElem?_getD,e1,e2];exact wq p q
theorem m9 (l:List (Str × Str)) (h:l.length<=3):eE [] (λi j=>eC (l.getD i (Str.empty,Str.empty)) (l.getD j (Str.empty,Str.empty))) (l.map jF)=(ck l).map jF:=by
 unfold ck eE;rw [List.length_map,List.map_map];refine List.map_congr_left λi hi=>?_;have:=bS _ h i hi;dsimp only [Function.comp];rw [List.getD_eq_getElem?_getD,List.getD_eq_getElem?_getD,List.getElem?_map,List.getElem?_eq_getElem this];rfl
theorem qb {l:List (Str × Str)} (h:l.length < 2):ck l=l:=by
 rcases l with _ | ⟨p,_ | ⟨q,l⟩⟩
 . rfl
 . rfl
 . exact absurd h (by simp)
theorem eG {l:List (Str × Str)} (h:l.length<=3):(ck l).Perm l:=by
 unfold ck eE;refine ((d6 _ h).map _).trans ?_;refine .of_eq ?_;refine List.ext_getElem? λi=>?_;rw [List.getElem?_map];by_cases hi:i < l.length
 . rw [List.getElem?_range hi,Option.map_some,List.getD_eq_getElem?_getD,List.getElem?_eq_getElem hi];rfl
 . rw [List.getElem?_eq_none (by simpa using hi),List.getElem?_eq_none (by simpa using hi)];rfl
noncomputable def fU (p:Str × Str):LV:=.tup [.str p.1,.str p.2]
theorem lU (l:List (Str × Str)):(l.map jF).map LV.tup=l.map fU:=by rw [List.map_map];rfl
theorem w9 {a:Addr} {l:List (Str × Str)} {σ':aa} {K:LV->aa->Prop} (u:Up a (.list (l.map fU)) (.list ((ck l).map fU)) σ σ') (h3:l.length<=3) (h:K .none σ'):WC n c (.builtin "list.sort") [.loc a] le σ K:=by
 by_cases h2:l.length < 2
 . rw [qb h2] at u;have e:=u.same;subst e;exact mA u.mem (by rw [List.length_map];exact h2) h
 . refine qx (ts:=l.map jF) ?_ (tD h3) (by rw [List.length_map];exact BQ h2) h
   rw [m9 l h3,lU,lU];exact u
theorem sv {v a:Addr} {k1 k2 x1 x2:Str} {K:LV->aa->Prop} (hm:(v,.raw (lq a))∈σ) (hd:(a,.dict [(k1,.str x1),(k2,.str x2)])∈σ)
   (h:∀ d,d∉σ.map (·.1)->K (.loc d) ((d,.list ((ck [(k1,x1),(k2,x2)]).map fU))::σ)):WC n c (.builtin "sorted") [.loc v] le σ K:=by
 refine jY hm hd (tD (l:=[(k1,x1),(k2,x2)]) (by simp)) λd hd'=>?_
 have:=h d hd';rw [<-lU,<-m9 _ (by simp)] at this
 exact this
end
noncomputable def aR (le l:ak):Prop:=∀ x v,l.lookup x=some v->le.lookup x=some v
theorem aR.nil_ (le:ak):aR le []:=λ_ _ h=>nQ h
theorem aR.add {le l:ak} (h:aR le l) {x:Str} {v:LV} (e:le.lookup x=some v):aR le ((x,v)::l):=λy u hy=>by
 rw [List.lookup_cons] at hy;split at hy
 . rename_i q;rw [eq_of_beq q,e];exact hy
 . exact h y u hy
theorem aR.get {le l:ak} (h:aR le l) {x:Str} {v:LV} (e:l.lookup x=some v):le.lookup x=some v:=h x v e
theorem aR.set {le l:ak} (h:aR le l) (x:Str) (v:LV) (e:l.lookup x=none):aR (an x v le) l:=λy u hy=>by
 rw [ag,if_neg]
 . exact h y u hy
 . rintro rfl;rw [e] at hy;cases hy
theorem aR.put {le l:ak} (h:aR le l) (x:Str) (v:LV):aR (an x v le) ((x,v)::l):=λy u hy=>by
 rw [List.lookup_cons] at hy;rw [ag];by_cases e:y=x
 . subst e;simp at hy;subst hy;simp
 . have:(y==x)=false:=beq_eq_false_iff_ne.mpr e;rw [this] at hy;rw [if_neg e];exact h y u hy
theorem aR.sub {le l l':ak} (h:aR le l) (e:∀ x v,l'.lookup x=some v->l.lookup x=some v):aR le l':=λx v hx=>h x v (e x v hx)
structure bT (x:Str):Prop where
 l0:x.length<=10000
 l1:(b7 (ofString "&") (ofString "&amp;") x).length<=10000
 l2:(b7 (ofString "<") (ofString "&lt;") (b7 (ofString "&") (ofString "&amp;") x)).length<=10000
 l3:(b7 (ofString "\"") (ofString "&quot;") (b7 (ofString "<") (ofString "&lt;") (b7 (ofString "&") (ofString "&amp;") x))).length<=10000
 l4:(b7 (ofString "\t") (ofString "&#x9;") (b7 (ofString "\"") (ofString "&quot;") (b7 (ofString "<") (ofString "&lt;") (b7 (ofString "&") (ofString "&amp;") x)))).length<=10000
 l5:(b7 (ofString "\n") (ofString "&#xA;") (b7 (ofString "\t") (ofString "&#x9;") (b7 (ofString "\"") (ofString "&quot;") (b7 (ofString "<") (ofString "&lt;") (b7 (ofString "&") (ofString "&amp;") x))))).length<=10000
 l6:(o6 x).length<=10000
noncomputable abbrev sB:List Stmt:=bG (b0 8)
noncomputable abbrev uC (c:Cx):Env:=xF (ofString "C14NWriterTarget._start") (aE (b0 8)) c.L 180 (.ref 179)
noncomputable def bI (p:Str × Str):Str:=ofString " "++p.1++ofString "=\""++o6 p.2++ofString "\""
theorem jt {p:Str × Str} (h1:p.1.length<=1000) (h2:bT p.2):(bI p).length<=12000:=by
 have a:(ofString " ").length=1:=by decide +kernel
 have b:(ofString "=\"").length=2:=by decide +kernel
 have d:(ofString "\"").length=1:=by decide +kernel
 have:=h2.l6;unfold bI;simp only [ay];lia
theorem sg {α:Type} {f:α->Nat} {b:Nat}:∀ {l:List α},(∀ x∈l,f x<=b)->(l.map f).sum<=l.length*b:=by
 intro l;induction l with
 | nil=>intro _;simp
 | cons x l ih =>
   intro h;have h1:=h x (.head _);have h2:=ih λy hy=>h y (.tail _ hy);rw [List.map_cons,List.sum_cons,List.length_cons,Nat.succ_mul];lia
theorem WS.of {W:f8} {fr:List (Addr × bg)} {pm:bg} {page page':List Str} {k k':Nat} {seen dn seen' dn':LV} {σ σ':aa} (ws:WS W fr pm page [] k seen dn σ) (kp:aI [W.pg,W.ps,W.nss,W.d] σ σ') (h1:(W.pg,.list (page'.map .str))∈σ')
   (h2:(W.ps,.list (List.replicate k' (.bool false)))∈σ') (h3:∃ l,l.length=k'/\(W.nss,.list l)∈σ') (h4:(W.d,.dict (jf W seen' dn'))∈σ'):WS W fr pm page' [] k' seen' dn' σ':=by
 have ne:∀ (i:Nat) (x:Addr),(WL W)[i]?=some x->i≠1->i≠2->i≠5->i≠7->x∉[W.pg,W.ps,W.nss,W.d]:=by
   intro i x hi a b d e hm;rcases oh hm with rfl | rfl | rfl | rfl
   . exact ws.ne (i:=i) (j:=2) hi rfl b rfl
   . exact ws.ne (i:=i) (j:=7) hi rfl e rfl
   . exact ws.ne (i:=i) (j:=5) hi rfl d rfl
   . exact ws.ne (i:=i) (j:=1) hi rfl a rfl
 refine ⟨kp _ ws.inst (ne 0 _ rfl (by decide) (by decide) (by decide) (by decide)),h4,h1,kp _ ws.data (ne 3 _ rfl (by decide) (by decide) (by decide) (by decide)),kp _ ws.dcl (ne 4 _ rfl (by decide) (by decide) (by decide) (by decide)),λq hq=>kp _ (ws.each q hq) ?_,h3,kp _ ws.pm (ne 6 _ rfl (by decide) (by decide) (by decide) (by decide)),h2,ws.ad⟩
 intro hm;rcases oh hm with e | e | e | e
 . exact ws.frne hq (i:=2) rfl e
 . exact ws.frne hq (i:=7) rfl e
 . exact ws.frne hq (i:=5) rfl e
 . exact ws.frne hq (i:=1) rfl e
theorem sf {c:Cx} {W:f8} {fr:List (Addr × bg)} {pm:bg} {page:List Str} {k:Nat} {seen dn:LV} {ad al D:Addr} {le:ak} {σ:aa} {dq:List (Str × LV)} {da:List (Str × LV)} {tag p t u:Str} {ats:List (Str × Str)} {K:LF->ak->aa->Prop}
   (H:aR le [(ofString "tag",.str tag),(ofString "attrs",.loc ad),(ofString "parsed_qnames",.loc D),(ofString "attr_list",.loc al),(ofString "qname_text",.none)])
   (hself:(c.L+1,.cell (some (.loc W.x)))∈σ) (ws:WS W fr pm page [] (k+1) seen dn σ) (hk:k<=1000) (hpage:page.length<=100000)
   (had:(ad,.dict da)∈σ) (hda:da.lookup (ofString "{http://www.w3.org/XML/1998/namespace}space")=none) (hD:(D,.dict dq)∈σ) (hq:dq.lookup tag=some (.tup [.str p,.str t,.str u])) (hp:p.length<=1000)
   (hal:(al,.list (ats.map fU))∈σ) (hal':al∉WL W) (hats:ats≠[]) (hlen:ats.length<=100) (hfit:∀ x∈ats,x.1.length<=1000/\bT x.2)
   (h:∀ le' σ',aI [W.pg,W.ps,W.nss,W.d] σ σ'->WS W fr pm (page++[ofString "<"++p,Txt.join (ofString "") (ats.map bI),ofString ">"]) [] (k+1+1) (.bool true) dn σ'->K .next le' σ') :
   WF 11 c (execs (sB.drop 9) (uC c)) le σ K:=by
 refine bA λnd=>?_;have n1:∀ {x:Addr} {o:LO},(x,o)∈σ->x=W.ps->o=.list (List.replicate (k+1) (.bool false)):=λhx e=>aJ nd hx (e ▸ ws.ps);refine ae (ax (aG (ac (H.get rfl) (th had PySem.F.slot_dict_get PySem.F.type_dict_get (af (aB (am (qt had hda ?_))))))));have H1:=H.set (ofString "space_behaviour") .none rfl;refine aH (Up.ex (o':=.list (List.replicate (k+1) (LV.bool false)++[.bool false])) ws.ps) λσ1 u1=>?_;refine ae (a8 (aG (aY (aF hself ⟨rfl,rfl⟩ (by rfl) (.inl (by rfl))) ws.inst ws.dict rfl (cg _) (bi ws.ps PySem.F.slot_list_append PySem.F.type_list_append (af (eJ (bo (ac (by rw [ag,if_pos rfl]) (iI ?_)))))) (ci _))))
 refine aV (aY (aF hself ⟨rfl,rfl⟩ (by rfl) (.inl (by rfl))) ws.inst ws.dict rfl (cg _) (cI (aq (fg (b8 (l:=List.replicate k (.bool false)) ?_ (am (bj u1 (av (by simp;exact J1 hk rfl)) ⟨trivial,?_⟩)))))) (ci _))
 . have:=ws.ps;rwa [List.replicate_succ'] at this
 have nxp:∀ {i j:Nat} {a b:Addr},(WL W)[i]?=some a->(WL W)[j]?=some b->i≠j->a≠b:=λhi hj e=>ws.ne hi hj e;have inst1:=u1.old ws.inst (nxp (i:=0) (j:=7) rfl rfl (by decide))
 have dict1:=u1.old ws.dict (nxp (i:=1) (j:=7) rfl rfl (by decide))
 have page1:=u1.old ws.page (nxp (i:=2) (j:=7) rfl rfl (by decide))
 have hself1:=u1.old hself (λe=>by cases n1 hself e)
 have hD1:=u1.old hD (λe=>by cases n1 hD e)
 refine ae (ax (aY (aF hself1 ⟨rfl,rfl⟩ (by rfl) (.inl (by rfl))) inst1 dict1 rfl (kZ _) ?_ (lj _)))
 have H2:=(H1.set (ofString "write") (.bm "list.append" W.pg) rfl);have hw:(an (ofString "write") (.bm "list.append" W.pg) (an (ofString "space_behaviour") LV.none le)).lookup (ofString "write")=some (.bm "list.append" W.pg):=by rw [ag,if_pos rfl]
 generalize (an (ofString "write") (.bm "list.append" W.pg) (an (ofString "space_behaviour") LV.none le))=le2 at H2 hw ⊢;refine aH (Up.ex (o':=.list (page.map LV.str++[.str (ofString "<"++p)])) page1) λσ2 u2=>?_;have ll:(ofString "<").length=1:=by decide +kernel
 refine ae (a8 (aC (ac hw (db (af ?_)))));refine ah (aB (aV (aV (ac (H2.get rfl) (ac (H2.get rfl) (om hD1 hq ?_))))));refine aq (lH (j:=0) (by decide) (by decide) rfl rfl (aO (by rw [ll];lia) (am ⟨_,_,σ2,rfl,u2,av (by simp;exact J1 hpage rfl),trivial,?_⟩)))
 have kp12:aI [W.ps,W.pg] σ σ2:=(aI.up u1).trans (aI.up u2);have n2:∀ {x:Addr} {o:LO},(x,o)∈σ->(∀ l,o≠.list l)->x∉[W.ps,W.pg]:=by
   intro x o hx hn hm;rcases dc hm with rfl | rfl
   . exact hn _ (aJ nd hx ws.ps)
   . exact hn _ (aJ nd hx ws.page)
 have hal2:(al,.list (ats.map fU))∈σ2:=kp12 _ hal λhm=>hal' (by
   refine Or.elim (dc hm) (λe=>?_) λe=>?_<;>(have e:al=_:=e;rw [e];simp [WL]))
 refine ae (bD (bo (ac (H2.get rfl) (oo hal2 (by rw [List.length_map];exact J1 hlen rfl) ?_))))
 have hne:(!(ats.map fU).isEmpty)=true:=by
   cases ats with
   | nil=>exact absurd rfl hats
   | cons x xs=>rfl
 rw [hne,if_pos rfl];refine ae (a8 (aC (ac hw (db (af ?_)))));refine aG ?_;refine aB ?_;refine hV PySem.F.slot_str_join PySem.F.type_str_join (af ?_);refine eY (cl:=[]) (h:=?_) (hclos:=by rfl) (hs:=λx=>by rfl) (hkind:=by rfl) (hnames:=by decide +kernel) (hcell:=by decide +kernel)
 refine ac (H2.get rfl) ?_;refine ⟨σ2,_,_,cF hal2,λD' C' it hD' hC' hCD'=>?_⟩;have hlD:∀ q∈σ2,q.1≠D':=λq hq e=>hD' (e ▸ List.mem_map.mpr ⟨q,hq,rfl⟩);have hlC:∀ q∈σ2,q.1≠C':=λq hq e=>hC' (e ▸ List.mem_map.mpr ⟨q,hq,rfl⟩);have n2D:∀ q∈σ2,q.1∉[C',D']:=λq hq e=>by
   simp only [List.mem_cons,List.not_mem_nil,or_false] at e;exact e.elim (hlC q hq) (hlD q hq)
 have sl:(ofString " ").length=1:=by decide +kernel
 have se:(ofString "=\"").length=2:=by decide +kernel
 have sq:(ofString "\"").length=1:=by decide +kernel
 refine vt (g:=fU) (f:=λx=>.str (bI x)) (σ0:=(C',.frame [])::(D',.list [])::σ2) (λσ' kp=>kp _ (.tail _ (.tail _ hal2)) (n2D _ hal2)) hCD' ats [] _ [] (by simp;exact J1 hlen rfl) (λx hx σ' lf kp hC=>?_) (λq hq _=>hq) (.head _) (.tail _ (.head _)) (λσ' lf kp hC hL=>⟨rfl,⟨_,hC⟩,?_⟩)
 . refine bh (hfit x hx) λx1 x2=>?_;refine qs hC (λσ'' k2 hC2=>⟨rfl,?_⟩) rfl (by rfl) (by rfl) (by rfl)
   refine fG (dJ (by rw [empty_append];exact u0 sl rfl) ?_)
   rw [empty_append];refine fZ (bf hC2 (by rw [ag,if_neg (by decide),ag,if_pos rfl]) ⟨_,rfl,J1 x1 rfl,by rw [ay];exact zM sl x1 rfl,?_⟩ rfl (by rfl) (by rfl))
   refine dJ (by rw [ay,ay];lia) ?_
   refine fZ (aC (bO (v:=.ref 222) (by kernel_rfl!) (λ_ _=>.val rfl) (eB (by exact rfl) (af (bf hC2 (by rw [ag,if_pos rfl]) (am ?_) rfl (by rfl) (by rfl))))))
   refine bW (uG x2.l0 x2.l1 x2.l2 x2.l3 x2.l4 x2.l5 ?_) (by decide)
   have:=x2.l6;refine ⟨_,rfl,J1 this rfl,by simp only [ay];lia,?_⟩
   refine dJ (by simp only [ay];exact BV sl se sq x1 this) (l7 (by simp only [ay];exact BV sl se sq x1 this) ⟨rfl,k2,_,hC2⟩)
 have kp3:aI [] σ2 (bk C' σ'):=λq hq _=>aN (kp q (.tail _ (.tail _ hq)) (n2D q hq)) (hlC q hq);have hL3:(D',LO.list (ats.map λx=>LV.str (bI x)))∈bk C' σ':=aN hL (Ne.symm hCD');generalize bk C' σ'=σ3 at kp3 hL3 ⊢;have hL4:(D',LO.list ((ats.map bI).map .str))∈σ3:=by rw [List.map_map];exact hL3
 refine am (iW hL4 ?_ ?_)
 . have h0:(ofString "").length=0:=by decide +kernel
   rw [h0,Nat.mul_zero,List.map_map];have:=sg (f:=(λx:Str=>x.length) ∘ bI) (b:=12000) (l:=ats) λx hx=>jt (hfit x hx).1 (hfit x hx).2;have:ats.length*12000<=100*12000:=Nat.mul_le_mul_right _ hlen;lia
 refine aH (Up.ex (o':=.list (page.map LV.str++[.str (ofString "<"++p)]++[.str (Txt.join (ofString "") (ats.map bI))])) (kp3 _ u2.new (by simp))) λσ4 u4=>?_
 refine am ⟨_,_,σ4,rfl,u4,av (by simp;exact J1 hpage rfl),trivial,aw ?_⟩
 refine aH (Up.ex (o':=.list (page.map LV.str++[.str (ofString "<"++p)]++[.str (Txt.join (ofString "") (ats.map bI))]++[.str (ofString ">")])) u4.new) λσ5 u5=>?_;refine ae (a8 (aC (ac hw (db (af (aB (am ⟨_,_,σ5,rfl,u5,av (by simp;exact J1 hpage rfl),trivial,?_⟩)))))))
 refine ae (bD (aA (ac (H2.get rfl) (cb (bC ⟨_,rfl,?_⟩)))));refine aw ?_;have kp5:aI [W.ps,W.pg] σ σ5:=(((kp12.trans kp3).trans (aI.up u4)).trans (aI.up u5)).mono (by simp)
 have inst5:=kp5 _ ws.inst (n2 ws.inst (λ_=>λh=>LO.noConfusion h));have dict5:=kp5 _ ws.dict (n2 ws.dict (λ_=>λh=>LO.noConfusion h));have hself5:=kp5 _ hself (n2 hself (λ_=>λh=>LO.noConfusion h));refine aH (Up.ex (o':=.dict (jf W (.bool true) dn)) dict5) λσ6 u6=>?_;refine ae (gA (ht:=by kernel_rfl!) (iX (aF hself5 ⟨W.x,W.d,_,jf W (.bool true) dn,σ6,rfl,inst5,by rfl,u6,by simp [jf],?_⟩ (by rfl) (.inl (by rfl)))))
 refine ap ws.nss λnl hnl hnm=>?_;have nss5:(W.nss,LO.list nl)∈σ6:=u6.old (kp5 _ hnm (by
   intro hm;refine Or.elim (dc hm) (λe=>?_) λe=>?_
   . exact nxp (i:=5) (j:=7) rfl rfl (by decide) e
   . exact nxp (i:=5) (j:=2) rfl rfl (by decide) e)) (nxp (i:=5) (j:=1) rfl rfl (by decide))
 have hself6:=u6.old hself5 (λ(e:c.L+1=W.d)=>by rw [e] at hself;cases aJ nd hself ws.dict)
 have inst6:=u6.old inst5 (nxp (i:=0) (j:=1) rfl rfl (by decide))
 refine ae (a8 (aG (aY (aF hself6 ⟨rfl,rfl⟩ (by rfl) (.inl (by rfl))) inst6 u6.new rfl (jz _) (bi nss5 PySem.F.slot_list_append PySem.F.type_list_append (af (ba (am ⟨av (by decide),λz hz=>am ?_⟩)))) (jA _))))
 refine aH (Up.ex (o':=.list (nl++[.loc z])) (σ:=(z,.list [])::σ6) (.tail _ nss5)) λσ7 u7=>?_;refine bj u7 (av (AD hnl hk rfl)) ⟨trivial,aw (h _ σ7 ?_ ?_)⟩
 . exact (((kp5.trans (aI.up u6)).trans (c2:=[]) (σ2:=(z,.list [])::σ6) (λq hq _=>.tail _ hq)).trans (aI.up u7)).mono (by simp)
 . have ne7:∀ {q:Addr × LO},q∈σ6->q.1≠W.nss->q∈σ7:=λhq hne=>u7.old (.tail _ hq) hne;refine ws.of (page':=page++[ofString "<"++p,Txt.join (ofString "") (List.map bI ats),ofString ">"]) ((((kp5.trans (aI.up u6)).trans (c2:=[]) (σ2:=(z,.list [])::σ6) (λq hq _=>.tail _ hq)).trans (aI.up u7)).mono (by simp)) ?_ ?_ ⟨_,by simp [hnl],u7.new⟩ (ne7 u6.new (nxp (i:=1) (j:=5) rfl rfl (by decide)))
   . have:=ne7 (u6.old u5.new (nxp (i:=2) (j:=1) rfl rfl (by decide))) (nxp (i:=2) (j:=5) rfl rfl (by decide))
     simpa using this
   . have h2:=u2.old u1.new (nxp (i:=7) (j:=2) rfl rfl (by decide))
     have h5:=u5.old (u4.old (kp3 _ h2 (by simp)) (nxp (i:=7) (j:=2) rfl rfl (by decide))) (nxp (i:=7) (j:=2) rfl rfl (by decide))
     have:=ne7 (u6.old h5 (nxp (i:=7) (j:=1) rfl rfl (by decide))) (nxp (i:=7) (j:=5) rfl rfl (by decide))
     rw [List.replicate_succ' (n:=k+1)];exact this
theorem dC {n:Nat} {c:Cx} {le:ak} {σ:aa} {env:Env} {target iter:Expr} {body orelse:List Stmt} {pos:Pos} {K:LF->ak->aa->Prop}
   (h:WV n c (eval iter env) le σ λx σ1=>∃ items Z σ2,OI n c target x le σ1 σ2 items Z/\cW n c target body orelse env Z K items le σ2)
   (hf:∀ x,foldedSetIterable iter env x=pure x:=by intro _;rfl):WF n c (exec (.For target iter body orelse pos) env) le σ K:=λA hA tmp s S=>by
 rw [arm_exec_For];refine wpAny_bind (wpAny_standAt (wpAny_bind (wpAny_mono (h A hA tmp s S) (λvx s1 hp=>?_) λ_ _ x=>x)));refine bb hp λx σ0 S1 y0_=>?_;refine md y0_ λitems Z σ1 h1 h2=>?_;rw [hf];refine wpAny_bind (wpAny_pure (wpAny_bind (wpAny_standAt (wpAny_bind (wpAny_holding (wpAny_mono (h1 A hA tmp s1 vx S1.drop1 (S1.tm _ (.head _))) (λit s2 hp=>?_) λ_ _ x=>x))))));refine ap hp λJ N S2=>?_;have R:=lC (env:=env) (body:=body) (orelse:=orelse) (K:=K) (tmp:=tmp) hA N items.length s2 ⟨Nat.le_refl _,le,σ1,by rw [Nat.sub_self];exact S2,by rw [Nat.sub_self];exact h2⟩
 refine wpAny_runOwn ?_;rw [fA];refine codeAny_mono R (λr s3 h3=>?_);refine ap h3 λf e q=>?_;clear h3;subst e;exact q
noncomputable abbrev wS:Stmt:=bw (xH (bw sB 8)) 0
noncomputable abbrev gH (ad al D:Addr) (tag:Str):ak:=[(ofString "tag",.str tag),(ofString "attrs",.loc ad),(ofString "parsed_qnames",.loc D),(ofString "attr_list",.loc al),(ofString "qname_text",.none),(ofString "qattrs",.none)]
set_option maxHeartbeats 0 in
theorem yo {c:Cx} {ad al D:Addr} {tag:Str} {dq:List (Str × LV)} {Q:Str->Str} {σ0:aa} {Z:aa->Prop} {K:LF->ak->aa->Prop} (hZ:∀ σ,aI [al] σ0 σ->Z σ) (hD:(D,.dict dq)∈σ0) (hDal:D≠al):∀ (L:List (Str × Str)) (done:List (Str × Str)) (le:ak) (σ:aa),
   (∀ p∈L,∃ t u,dq.lookup p.1=some (.tup [.str (Q p.1),.str t,.str u])/\u.length<=1000/\u.length≠0)->done.length+L.length<=1000->aR le (gH ad al D tag)->aI [al] σ0 σ->(al,.list (done.map fU))∈σ ->
   (∀ le' σ',aR le' (gH ad al D tag)->aI [al] σ0 σ'->(al,.list ((done++L.map λp=>(Q p.1,p.2)).map fU))∈σ'->K .next le' σ') ->
   cW 11 c (fu wS) (cy wS) (fq wS) (uC c) Z K (L.map fU) le σ:=by
 intro L;induction L with
 | nil =>
   intro done le σ _ _ H k hal fin;exact ⟨hZ σ k,aw (fin le σ H k (by rw [List.map_nil,List.append_nil];exact hal))⟩
 | cons p L ih =>
   intro done le σ hq hlen H k hal fin;refine bl (hq p (.head _)) λt u e1 e2 e3=>?_;refine ⟨hZ σ k,?_⟩;refine iU ?_;have H1:=(H.set (ofString "k") (.str p.1) rfl).set (ofString "v") (.str p.2) rfl;have hk:(an (ofString "v") (LV.str p.2) (an (ofString "k") (LV.str p.1) le)).lookup (ofString "k")=some (.str p.1):=by rw [ag,if_neg (by decide),ag,if_pos rfl]
   have hv:(an (ofString "v") (LV.str p.2) (an (ofString "k") (LV.str p.1) le)).lookup (ofString "v")=some (.str p.2):=by rw [ag,if_pos rfl]
   generalize (an (ofString "v") (LV.str p.2) (an (ofString "k") (LV.str p.1) le))=le1 at H1 hk hv ⊢;refine ae ?_;refine bD (cQ (aA (ac (H1.get rfl) (cb (bC ⟨_,rfl,?_⟩)))));refine aw ?_;refine ae ?_;refine g5 ?_;refine aV (ac (H1.get rfl) (ac hk (om (k _ hD (by simpa using hDal)) e1 ?_)))
   refine nv ?_;have H2:=((H1.set (ofString "attr_qname") (.str (Q p.1)) rfl).set (ofString "attr_name") (.str t) rfl).set (ofString "uri") (.str u) rfl;have g1:(an (ofString "uri") (LV.str u) (an (ofString "attr_name") (LV.str t) (an (ofString "attr_qname") (LV.str (Q p.1)) le1))).lookup (ofString "uri")=some (.str u):=by rw [ag,if_pos rfl]
   have g2:(an (ofString "uri") (LV.str u) (an (ofString "attr_name") (LV.str t) (an (ofString "attr_qname") (LV.str (Q p.1)) le1))).lookup (ofString "attr_qname")=some (.str (Q p.1)):=by
     rw [ag,if_neg (by decide),ag,if_neg (by decide),ag,if_pos rfl]
   have g3:(an (ofString "uri") (LV.str u) (an (ofString "attr_name") (LV.str t) (an (ofString "attr_qname") (LV.str (Q p.1)) le1))).lookup (ofString "v")=some (.str p.2):=by
     rw [ag,if_neg (by decide),ag,if_neg (by decide),ag,if_neg (by decide)];exact hv
   generalize (an (ofString "uri") (LV.str u) (an (ofString "attr_name") (LV.str t) (an (ofString "attr_qname") (LV.str (Q p.1)) le1)))=le2 at H2 g1 g2 g3 ⊢;refine aH (Up.ex (o':=.list (done.map fU++[fU (Q p.1,p.2)])) hal) λσ1 u1=>?_;refine ae ?_;refine a8 ?_;refine aG ?_;refine ac (H2.get rfl) ?_;refine bi hal PySem.F.slot_list_append PySem.F.type_list_append (af (bQ (af (eJ (bo (ac g1 (oq (J1 e2 rfl) ?_)))))));have hu:(u.length != 0)=true:=by simpa using e3
   rw [hu,if_pos rfl];refine ac g2 (af (ac g3 (am ⟨av (by simp),am (bj u1 (av ?_) ⟨trivial,aw ?_⟩)⟩)))
   . rw [List.length_map];exact zE hlen rfl
   refine ih (done++[(Q p.1,p.2)]) le2 σ1 (λq hq'=>hq q (.tail _ hq')) ?_ H2 ((k.trans (aI.up u1)).mono (by simp)) ?_ ?_
   . rw [List.length_append];rw [List.length_cons] at hlen;simp only [List.length_cons,List.length_nil];exact yV hlen rfl
   . rw [List.map_append];exact u1.new
   . intro le' σ' H' k' hal';refine fin le' σ' H' k' ?_;rw [List.append_assoc] at hal';exact hal'
noncomputable def xm (p:Str × Str):Str × Str:=(ofString "xmlns:"++p.2,p.1)
/-- _start,from "if new_namespaces" to the attributes' loop's end -/
theorem uL {c:Cx} {ad a D:Addr} {tag kr kk v1 v2:Str} {l:bg} {dq:List (Str × LV)} {Q:Str->Str} {le:ak} {σ:aa} {K:LF->ak->aa->Prop}
   (H:aR le [(ofString "tag",.str tag),(ofString "attrs",.loc ad),(ofString "new_namespaces",.loc a),(ofString "parsed_qnames",.loc D),(ofString "qname_text",.none),(ofString "qattrs",.none)])
   (ha:(a,.list (l.map iE))∈σ) (hl:l.length<=3) (hpl:∀ p∈l,p.2.length<=100/\p.2.length≠0) (had:(ad,.dict [(kr,.str v1),(kk,.str v2)])∈σ) (hD:(D,.dict dq)∈σ)
   (hq:∀ p∈[(kr,v1),(kk,v2)],∃ t u,dq.lookup p.1=some (.tup [.str (Q p.1),.str t,.str u])/\u.length<=1000/\u.length≠0)
   (h:∀ le' σ' al,aR le' (gH ad al D tag)->al∉σ.map (·.1)->aI [al] σ σ'->(al,.list ((ck (l.map xm)++(ck [(kr,v1),(kk,v2)]).map λp=>(Q p.1,p.2)).map fU))∈σ'->WF 11 c (execs (sB.drop 9) (uC c)) le' σ' K) :
   WF 11 c (execs (sB.drop 7) (uC c)) le σ K:=by
 have xl:(ofString "xmlns:").length=6:=by decide +kernel
 have mid:∀ le1 σ1 al,aR le1 (gH ad al D tag)->al∉σ.map (·.1)->aI [] σ σ1->(al,.list ((ck (l.map xm)).map fU))∈σ1->WF 11 c (execs (sB.drop 8) (uC c)) le1 σ1 K:=by
   intro le1 σ1 al H1 nal kp hal;have nm:∀ q∈σ,q.1≠al:=λq hq e=>nal (e ▸ List.mem_map.mpr ⟨q,hq,rfl⟩);have had1:=kp _ had (by simp)
   have hD1:=kp _ hD (by simp)
   refine ae ?_;refine bD (bo (ac (H1.get rfl) (yh had1 (by simp) ?_)))
   rw [show (!([(kr,LV.str v1),(kk,LV.str v2)]:List (Str × LV)).isEmpty)=true from rfl,if_pos rfl];refine ae ?_;refine dC (h:=?_);refine aC ?_;refine be (v:=.builtin "sorted") (by kernel_rfl!) boot_sorted ?_
   refine cz (af ?_);refine aG ?_;refine ac (H1.get rfl) ?_;refine th had1 PySem.F.slot_dict_items PySem.F.type_dict_items (am (w8 had1 λv hv=>?_));refine am (sv (.head _) (.tail _ had1) λd hd=>?_);refine ⟨_,_,_,iF (.head _),?_⟩;have nd1:d≠al:=by
     rintro rfl;exact hd (by rw [List.map_cons];exact .tail _ (List.mem_map.mpr ⟨_,hal,rfl⟩))
   have hp2:=eG (l:=[(kr,v1),(kk,v2)]) (by simp)
   refine yo (ad:=ad) (al:=al) (D:=D) (tag:=tag) (Q:=Q) (σ0:=(d,.list ((ck [(kr,v1),(kk,v2)]).map fU))::(v,.raw (lq ad))::σ1) (λσ' k=>k _ (.head _) (by simpa using nd1)) (.tail _ (.tail _ hD1)) (nm _ hD) _ (ck (l.map xm)) le1 _ (λp hp=>hq p (hp2.mem_iff.mp hp)) ?_ H1 (λq hq _=>hq) (.tail _ (.tail _ hal)) λle' σ' H' k' hal'=>?_
   . have:=(eG (l:=l.map xm) (by rw [List.length_map];exact hl)).length_eq
     rw [this,hp2.length_eq,List.length_map];simp only [List.length_cons,List.length_nil];lia
   refine aw ?_;exact h le' σ' al H' nal (λq hq ne=>k' q (.tail _ (.tail _ (kp q hq (by simp)))) ne) hal'
 refine ae ?_;refine bD (bo (ac (H.get rfl) (oo ha (by rw [List.length_map];exact J1 hl rfl) ?_)))
 cases l with
 | nil =>
   refine ae ?_;refine ax (ba (am ⟨av (by decide),λal hal=>?_⟩))
   refine aw ?_;refine mid _ _ al ?_ hal (λq hq _=>.tail _ hq) (.head _);exact ((H.put (ofString "attr_list") (.loc al))).sub (by
     intro x v hx;have h2:=bR hx;simp only [gH,List.mem_cons,Prod.mk.injEq,List.not_mem_nil,or_false] at h2;rcases h2 with ⟨rfl,rfl⟩ | ⟨rfl,rfl⟩ | ⟨rfl,rfl⟩ | ⟨rfl,rfl⟩ | ⟨rfl,rfl⟩ | ⟨rfl,rfl⟩<;>rfl)
 | cons p0 l0 =>
   rw [show (!((p0::l0).map iE).isEmpty)=true from rfl,if_pos rfl];refine ae ?_;refine ie (cl:=[]) (h:=?_) (hclos:=by rfl) (hs:=λx=>by rfl) (hkind:=by rfl) (hnames:=by decide +kernel) (hcell:=by decide +kernel) (hex:=?_)
   . refine ac (H.get rfl) ?_;refine ⟨σ,_,_,cF ha,λD' C' it hD' hC' hCD'=>?_⟩;have hlD:∀ q∈σ,q.1≠D':=λq hq e=>hD' (e ▸ List.mem_map.mpr ⟨q,hq,rfl⟩);have hlC:∀ q∈σ,q.1≠C':=λq hq e=>hC' (e ▸ List.mem_map.mpr ⟨q,hq,rfl⟩);have n2D:∀ q∈σ,q.1∉[C',D']:=λq hq e=>by
       simp only [List.mem_cons,List.not_mem_nil,or_false] at e;exact e.elim (hlC q hq) (hlD q hq)
     refine vt (g:=iE) (f:=λx=>fU (xm x)) (σ0:=(C',.frame [])::(D',.list [])::σ) (λσ' kp=>kp _ (.tail _ (.tail _ ha)) (n2D _ ha)) hCD' (p0::l0) [] _ [] (by simp only [List.length_nil];exact AQ hl) (λx hx σ' lf kp hC=>?_) (λq hq _=>hq) (.head _) (.tail _ (.head _)) (λσ' lf kp hC hL=>⟨⟨_,hC⟩,?_⟩)
     . refine bh (hpl x hx) λx1 x2=>?_;refine qs hC (λσ'' k2 hC2=>⟨rfl,?_⟩) rfl (by rfl) (by rfl) (by rfl)
       refine bQ (af (eJ (bo (bf hC2 (by rw [ag,if_pos rfl]) (oq (J1 x1 rfl) ?_) rfl (by rfl) (by rfl)))))
       rw [show (x.2.length != 0)=true by simpa using x2,if_pos rfl]
       refine ah (aB (bf hC2 (by rw [ag,if_pos rfl]) (aO (by rw [xl];lia) ?_) rfl (by rfl) (by rfl)))
       refine af (bf hC2 (by rw [ag,if_neg (by decide),ag,if_pos rfl];rfl) (am ⟨av (by simp),rfl,k2,_,hC2⟩) rfl (by rfl) (by rfl))
     . refine a9 ?_;refine ⟨⟨_,hC⟩,?_⟩;have kp3:aI [] σ (bk C' σ'):=λq hq _=>aN (kp q (.tail _ (.tail _ hq)) (n2D q hq)) (hlC q hq);have hL3:(D',LO.list (((p0::l0).map xm).map fU))∈bk C' σ':=aN (by rw [List.map_map];exact hL) (Ne.symm hCD')
       generalize bk C' σ'=σ3 at kp3 hL3 ⊢;refine aH (Up.ex (o':=.list ((ck ((p0::l0).map xm)).map fU)) hL3) λσ4 u4=>?_;have H1:=H.put (ofString "attr_list") (.loc D');refine ae ?_;refine a8 ?_;refine aG ?_;refine ac (H1.get rfl) ?_;refine bi hL3 PySem.F.slot_list_sort PySem.F.type_list_sort (am ?_);refine w9 u4 (by rw [List.length_map];exact hl) ⟨trivial,aw ?_⟩
       refine mid _ _ D' ?_ hD' (λq hq _=>u4.old (kp3 q hq (by simp)) (hlD q hq)) u4.new
       exact H1.sub (by
         intro x v hx;have h2:=bR hx;simp only [gH,List.mem_cons,Prod.mk.injEq,List.not_mem_nil,or_false] at h2;rcases h2 with ⟨rfl,rfl⟩ | ⟨rfl,rfl⟩ | ⟨rfl,rfl⟩ | ⟨rfl,rfl⟩ | ⟨rfl,rfl⟩ | ⟨rfl,rfl⟩<;>rfl)
   . exact exec_Assign_Name_used _ _ _ _ (by rfl)
noncomputable def lS:List Str:=[ofString "self",ofString "tag",ofString "attrs",ofString "new_namespaces",ofString "qname_text"]
theorem qg {w:World} (s:Shared) (u v x y:Value) (kin:(KF w.params).In s.heap) :
   BindsTo s (uX "_start" "C14NWriterTarget._start" (b0 8) (.ref 175) .none (.str (ofString "cpy313.xml.etree.ElementTree") 381) 179) ⟨[u,v,x,y],[]⟩ (lS.zip ([u,v,x,y]++[.none])):=by
 exact kp_binds kin (λS=>by kernel_rfl!)
theorem no {t u:Tg} (h:t.1.length=10) (h':u.1.length=10) (e:bM t=bM u):t=u:=by
 have:=congrArg (λz:Str=>z.cps.toList) e;simp only [bM,aT,bd,List.toList_toArray,List.cons_append,List.cons.injEq,true_and] at this;have:=List.append_inj this (by rw [h,h'])
 simp only [List.cons.injEq,and_true,true_and] at this;exact Prod.ext this.1 this.2
theorem fS {us vs:List Nat} {t u:Nat} (h:us.length=10) (h':vs.length=10) (ne:t≠u):aT us t≠aT vs u:=λq=>ne (congrArg Prod.snd (no (t:=(us,t)) (u:=(vs,u)) h h' q))
theorem Ao {us vs ws:List Nat} (h:us.length=10) (h':vs.length=10) (h'':ws.length=10):[aT vs 114,aT ws 107].foldl f7 [aT us 102]=[aT us 102,aT vs 114,aT ws 107]:=by
 have n1:=fS (t:=114) (u:=102) h' h (by decide)
 have n2:=fS (t:=107) (u:=102) h'' h (by decide)
 have n3:=fS (t:=107) (u:=114) h'' h' (by decide)
 simp [f7,n1,n2,n3]
noncomputable def qF (F0:bg):List Tg->bg × bg->Tg->Str
 | [],_,_=>Str.empty
 | t::ts,st,u=>if t=u then jE F0 st (bd t.1) else qF F0 ts (bH F0 st (bd t.1)) u
theorem wy (F0:bg) {u:Tg}:∀ (ts:List Tg) (st:bg × bg),u∈ts->(∀ t∈ts,t.1.length=10)->(mW F0 ts st).lookup (bM u)=some (gr (qF F0 ts st u) (bd [u.2]) (bd u.1)):=by
 intro ts;induction ts with
 | nil=>intro st h;cases h
 | cons t ts ih =>
   intro st hm hl;rw [mW,qF,List.lookup_cons];by_cases e:t=u
   . clear ih hm;subst e;simp
   . have hu:u∈ts:=by refine Or.elim (List.mem_cons.mp hm) (λh=>?_) λh=>?_;exact absurd h.symm e;exact h
     have:(bM u==bM t)=false:=beq_eq_false_iff_ne.mpr λq=>e (no (hl u hm) (hl t (.head _)) q).symm;rw [this,if_neg e];exact ih _ hu λx hx=>hl x (.tail _ hx)
theorem qU {u:Str} {p:Str}:∀ (l:bg) (seen:List Str),bx u l seen=some p->∃ q∈l,q.2=p:=by
 intro l;induction l with
 | nil=>intro seen h;cases h
 | cons q l ih =>
   intro seen h;cases e:(q.1==u && !seen.contains q.2) with
   | true=>rw [hM e] at h;clear ih;obtain rfl:=Option.some.inj h;exact ⟨q,.head _,rfl⟩
   | false =>
     rw [dY e] at h;refine ap (ih _ h) λr hr e2=>?_;exact ⟨r,.tail _ hr,e2⟩
theorem uq {fr0:List (Addr × bg)} {l pm:bg} {j:Nat} (f:ik fr0 l pm j) (u:Str):(jE (aD fr0) (l,pm) u).length<=100:=by
 unfold jE;cases e:bx u (l++aD fr0) [] with
 | none=>exact (mZ f.pmv (by have:=f.pml;exact zE this rfl)).1
 | some p =>
   refine ap (qU _ _ e) λq hq z0_=>?_;clear e;obtain rfl:=z0_;refine Or.elim (List.mem_append.mp hq) (λhq=>?_) λhq=>?_
   . exact (f.eachl q hq).1
   . exact (f.each q hq).1
theorem x9 {fr0:List (Addr × bg)} {u:Tg}:∀ (ts:List Tg) (l pm:bg),ik fr0 l pm ts.length->(qF (aD fr0) ts (l,pm) u).length<=100:=by
 intro ts;induction ts with
 | nil=>intro l pm f;rw [qF];decide
 | cons t ts ih =>
   intro l pm f;rw [qF];split
   . exact uq f _
   . exact ih _ _ (f.step _)
theorem un {fr0:List (Addr × bg)}:∀ (ts:List Tg) (l pm:bg),ik fr0 l pm ts.length->ik fr0 (b6 (aD fr0) ts (l,pm)).1 (b6 (aD fr0) ts (l,pm)).2 0:=by
 intro ts;induction ts with
 | nil=>intro l pm f;exact f
 | cons t ts ih=>intro l pm f;exact ih _ _ (f.step _)
theorem uo (F0:bg):∀ (ts:List Tg) (st:bg × bg),(b6 F0 ts st).1.length<=st.1.length+ts.length:=by
 intro ts;induction ts with
 | nil=>intro st;simp [b6]
 | cons t ts ih =>
   intro st;have:=ih (bH F0 st (bd t.1));have h2:(bH F0 st (bd t.1)).1.length<=st.1.length+1:=by unfold bH;split<;>simp
   show (b6 F0 ts (bH F0 st (bd t.1))).1.length<=_;rw [List.length_cons];lia
noncomputable def qn (p:Str) (t:Nat):Str:=p++ofString ":"++bd [t]
noncomputable def gW (vs ws:List Nat) (s:Str):Tg:=if s=aT vs 114 then (vs,114) else (ws,107)
noncomputable def dy (F0:bg) (ts:List Tg) (pm:bg) (vs ws:List Nat) (v1 v2:Str):List (Str × Str) :=
 ck ((b6 F0 ts ([],pm)).1.map xm)++(ck [(aT vs 114,v1),(aT ws 107,v2)]).map λp=>(qn (qF F0 ts ([],pm) (gW vs ws p.1)) (gW vs ws p.1).2,p.2)
noncomputable def gv (F0:bg) (ts:List Tg) (pm:bg) (us vs ws:List Nat) (v1 v2:Str):List Str :=
 [ofString "<"++qn (qF F0 ts ([],pm) (us,102)) 102,Txt.join (ofString "") ((dy F0 ts pm vs ws v1 v2).map bI),ofString ">"]
noncomputable def jV:Str:=(ofString "C14NWriterTarget._start"++".<locals>.")++"<lambda>"
theorem WS.nraw {W:f8} {fr:List (Addr × bg)} {pm:bg} {page data:List Str} {k:Nat} {seen done:LV} {σ:aa} (ws:WS W fr pm page data k seen done σ) {x:Addr} (h:x∈WL W++fr.map (·.1)):∃ o,(x,o)∈σ/\∀ f,o≠.raw f:=by
 refine Or.elim (List.mem_append.mp h) (λh=>?_) λh=>?_
 . simp only [WL,List.mem_cons,List.not_mem_nil,or_false] at h;refine ap ws.nss λl _ hn=>?_;rcases h with rfl | rfl | rfl | rfl | rfl | rfl | rfl | rfl
   . exact ⟨_,ws.inst,λ_=>λh=>LO.noConfusion h⟩
   . exact ⟨_,ws.dict,λ_=>λh=>LO.noConfusion h⟩
   . exact ⟨_,ws.page,λ_=>λh=>LO.noConfusion h⟩
   . exact ⟨_,ws.data,λ_=>λh=>LO.noConfusion h⟩
   . exact ⟨_,ws.dcl,λ_=>λh=>LO.noConfusion h⟩
   . exact ⟨_,hn,λ_=>λh=>LO.noConfusion h⟩
   . exact ⟨_,ws.pm,λ_=>λh=>LO.noConfusion h⟩
   . exact ⟨_,ws.ps,λ_=>λh=>LO.noConfusion h⟩
 . refine ap (List.mem_map.mp h) λp hp z1_=>?_;obtain rfl:=z1_;exact ⟨_,ws.each p hp,λ_=>λh=>LO.noConfusion h⟩
theorem WS.raw_not {W:f8} {fr:List (Addr × bg)} {pm:bg} {page data:List Str} {k:Nat} {seen done:LV} {σ:aa} (ws:WS W fr pm page data k seen done σ) (nd:(σ.map (·.1)).Nodup) {x:Addr} {f:Obj->Prop} (h:(x,.raw f)∈σ):x∉WL W++fr.map (·.1):=by
 intro hm;refine ap (ws.nraw hm) λo ho hn=>?_;exact hn f (aJ nd ho h)
theorem d9.mono {pos:Pos} {q:Str} {σ σ':aa} (h:d9 pos q σ) (k:∀ p∈σ,p∈σ'):d9 pos q σ':=by
 rcases h with h | ⟨c',h1,h2⟩
 . exact .inl (k _ h)
 . exact .inr ⟨c',k _ h1,k _ h2⟩
theorem d9.raw {pos:Pos} {q:Str} {σ:aa} (h:d9 pos q σ):∃ f,(177,.raw f)∈σ:=by
 rcases h with h | ⟨c',h1,_⟩
 . exact ⟨_,h⟩
 . exact ⟨_,h1⟩
theorem rG {F0:bg}:∀ (ts:List Tg) (st:bg × bg),∀ p∈(b6 F0 ts st).1,p∈st.1\/∃ t∈ts,p.1=bd t.1:=by
 intro ts;induction ts with
 | nil=>intro st p hp;exact .inl hp
 | cons t ts ih =>
   intro st p hp;have hp:p∈(b6 F0 ts (bH F0 st (bd t.1))).1:=hp;rcases ih _ p hp with h | ⟨t',h,e⟩
   . unfold bH at h;split at h
     . exact .inl h
     . refine Or.elim (List.mem_append.mp h) (λh=>?_) λh=>?_
       . exact .inl h
       . rw [List.mem_singleton] at h;subst h;exact .inr ⟨t,.head _,rfl⟩
   . exact .inr ⟨t',.tail _ h,e⟩
theorem yt {us:List Nat} (h:us.length=10) (t:Nat):(aT us t).cps.size=13:=by simp [aT,bd,h]
theorem nu {us:List Nat} (h:us.length=10) (t:Nat):(ofString "{http://www.w3.org/XML/1998/namespace}space"==aT us t)=false:=by
 refine beq_eq_false_iff_ne.mpr λe=>?_;have:=congrArg (λz:Str=>z.cps.size) e;simp only [yt h t] at this;exact absurd this (by decide +kernel)
theorem hX {p:Str} (h:p.length<=100) (t:Nat):(qn p t).length<=102:=by
 have a:(ofString ":").length=1:=by decide +kernel
 have b:(bd [t]).length=1:=rfl;unfold qn;rw [ay,ay,a,b];lia
theorem xw {n:Nat} {c:Cx} {le:ak} {σ:aa} {target:Expr} {env:Env} {rest:Sem PySem.Fin} {cd:Code} {Z:aa->Prop} {K:ak->aa->Prop} {items:List LV} (hz:Z σ) (hne:items≠[]) (h:(σ.map (·.1)).Nodup->CL n c target env rest cd Z K items le σ):CL n c target env rest cd Z K items le σ:=by
 cases items with
 | nil=>exact absurd rfl hne
 | cons x xs=>exact ⟨hz,lX λnd=>(h nd).2⟩
theorem r9 {c:Cx} {W:f8} {fr0:List (Addr × bg)} {a ad q:Addr} {pm:bg} {page:List Str} {k:Nat} {seen dn:LV} {le:ak} {σ σ1:aa} {us vs ws:List Nat} {v1 v2:Str} {K:LV->aa->Prop} (wst:WS W (fr0++[(a,[])]) pm page [] (k+1) seen dn σ) (hk:k<=1000) (hpage:page.length<=100000)
   (hat:(ad,.dict [(aT vs 114,.str v1),(aT ws 107,.str v2)])∈σ) (hadW:ad∉WL W) (htab:d9 dO jV σ) (hus:us.length=10) (hvs:vs.length=10) (hws:ws.length=10) (nus:∀ u∈us,u≠125) (nvs:∀ u∈vs,u≠125) (nws:∀ u∈ws,u≠125)
   (fit:ik fr0 [] pm 3) (e1:bT v1) (e2:bT v2) (eu:∀ u,(u=us\/u=vs\/u=ws)->bT (bd u))
   (h:∀ ts σ',ts.Perm [(us,102),(vs,114),(ws,107)]->ts.Pairwise eH->aI (177::a::WL W) σ σ'->d9 dO jV σ'->WS W (fr0++[(a,(b6 (aD fr0) ts ([],pm)).1)]) (b6 (aD fr0) ts ([],pm)).2 (page++gv (aD fr0) ts pm us vs ws v1 v2) [] (k+1+1) (.bool true) dn σ'->K .none σ')
   (H:aR le [(ofString "tag",.str (aT us 102)),(ofString "attrs",.loc ad),(ofString "new_namespaces",.loc a),(ofString "qname_text",.none),(ofString "qattrs",.none),(ofString "qnames",.loc q)])
   (hq:(q,.raw (fI c.w [aT us 102,aT vs 114,aT ws 107]))∈σ1) (hq177:q≠177) (hself:(c.L+1,.cell (some (.loc W.x)))∈σ1) (hpq:(c.L+1+1,.cell (some (.meth 144 W.x)))∈σ1) (kp1:aI [] σ σ1) :
   WF 11 c (execs (sB.drop 6) (uC c)) le σ1 λf _ σ'=>K f.val σ':=by
 refine bA λnd=>?_;have m1:∀ p∈σ,p∈σ1:=λp hp=>kp1 p hp (by simp)
 have ws1:=wst.mono m1;have htab1:=htab.mono m1;refine aH htab1.raw λf177 h177=>?_;have n177:=ws1.raw_not nd h177;refine ae ?_;refine ib (cl:=[(ofString "parse_qname",c.L+1+1)]) (h:=?_) (hclos:=?_) (hs:=λx=>by rfl) (hkind:=by rfl) (hnames:=by decide +kernel) (hcell:=by decide +kernel) (hex:=?_)
 . refine mC (n:=9) (h:=?_);refine be (by kernel_rfl!) boot_sorted ⟨rfl,?_⟩
   refine ac (H.get rfl) ?_;refine sF (by rfl) (by rfl) (by rfl) (by rfl) htab1 λc' f σ2 kp2 ht1 hc1 hf1=>?_
   have m2:∀ p∈σ1,p.1≠177->p∈σ2:=λp hp ne=>kp2 p hp (by simpa using ne)
   have raw177:∀ {x:Addr} {o:LO},(x,o)∈σ1->(∀ f,o≠.raw f)->(x,o)∈σ2:=by
     intro x o hx hn;refine m2 _ hx ?_;rintro rfl;exact hn _ (aJ nd hx h177)
   refine ⟨q,f,[aT us 102,aT vs 114,aT ws 107],λx=>Txt.splitMax x (ofString "}") 1,rfl,rfl,?_,rfl,?_,?_,?_⟩
   . exact m2 _ hq hq177
   . intro x hx;rcases gq hx with rfl | rfl | rfl
     . exact nV hus (.inl rfl) hf1 hc1
     . exact nV hvs (.inr (.inl rfl)) hf1 hc1
     . exact nV hws (.inr (.inr rfl)) hf1 hc1
   . intro x hx;simp only [List.mem_cons,List.not_mem_nil,or_false] at hx;dsimp only;rcases hx with rfl | rfl | rfl
     . rw [d7 hus (.inl rfl) nus];rfl
     . rw [d7 hvs (.inr (.inl rfl)) nvs];rfl
     . rw [d7 hws (.inr (.inr rfl)) nws];rfl
   . intro d x0 x1 x2 g hd hperm hg;obtain ⟨ts,hts,hpw,hl⟩:=qk (T:=[(us,102),(vs,114),(ws,107)]) (key:=λx=>Txt.splitMax x (ofString "}") 1) rfl (by simp) hperm (by
       intro t ht;rcases gq ht with rfl | rfl | rfl
       . exact d7 hus (.inl rfl) nus
       . exact d7 hvs (.inr (.inl rfl)) nvs
       . exact d7 hws (.inr (.inr rfl)) nws) hg
     rw [hl,List.map_map];have hlen:ts.length=3:=hts.length_eq;have ht3:∀ t∈ts,t.1.length=10/\(t.2=102\/t.2=114\/t.2=107):=by
       intro t ht;have:=hts.mem_iff.mp ht;rcases gq this with rfl | rfl | rfl
       . exact ⟨hus,.inl rfl⟩
       . exact ⟨hvs,.inr (.inl rfl)⟩
       . exact ⟨hws,.inr (.inr rfl)⟩
     refine ⟨_,_,_,cF (.head _),λD C it hD hC hCD=>?_⟩;refine xw (.tail _ (.tail _ (.head _))) (λe=>?_) λnd2=>?_
     . have:=congrArg List.length e;rw [List.length_map,hlen] at this;cases this
     have in3:∀ p∈σ2,p∈(C,LO.frame [])::(D,LO.dict [])::(d,LO.list (ts.map ((λx=>LV.str x) ∘ bM)))::σ2:=λp hp=>.tail _ (.tail _ (.tail _ hp));have ws2:WS W (fr0++[(a,[])]) pm page [] (k+1) seen dn σ2:=ws1.keep kp2 λx hx=>by rw [List.mem_singleton] at hx;subst hx;exact n177
     have k2d:∀ {x:Addr},x∉σ2.map (·.1)->∀ p∈σ2,p.1≠x:=λhx p hp e=>hx (e ▸ List.mem_map.mpr ⟨p,hp,rfl⟩)
     have hC2:C∉σ2.map (·.1):=λe=>hC (by rw [List.map_cons];exact .tail _ e)
     have hD2:D∉σ2.map (·.1):=λe=>hD (by rw [List.map_cons];exact .tail _ e)
     have hdD:d≠D:=λe=>hD (by rw [List.map_cons,e];exact .head _)
     have ha2:a∈σ2.map (·.1):=ws2.at (by simp)
     have nda:d≠a:=λe=>hd (e ▸ ha2);refine vD (C:=C) (D:=D) (cl:=c.L+1+1) (dl:=d) (items:=ts.map ((λx=>LV.str x) ∘ bM)) (W:=W) (fr0:=fr0) (a:=a) (by rfl) (by rfl) (by rfl) (.inl (by rfl)) (by rfl) (by kernel_rfl!) nda (ws2.fresh hC2) (ws2.fresh hD2) hCD ts [] [] pm _ [] ht3 (ws2.mono in3) (by rw [hlen];exact fit) (.tail _ (.head _)) (.head _) (in3 _ (raw177 hpq (λ_=>λh=>LO.noConfusion h))) (.tail _ (.tail _ (.head _))) ?_ ?_ ?_ λlf' σ4 k4 ws4 hD4 hC4=>?_
     . rw [hlen];simp
     . intro t _ hm;cases hm
     . rw [hts.map bM |>.nodup_iff]
       simp [bM,fS hus hvs,fS hus hws,fS hvs hws]
     refine ⟨⟨_,hC4⟩,a9 ⟨⟨_,hC4⟩,?_⟩⟩;rw [List.nil_append] at hD4;have hCa:C≠a:=λe=>hC2 (e ▸ ha2);have c5:∀ p∈σ2,p.1∉[a,W.pm]->p∈bk C σ4:=λp hp hn=>aN (k4 p (in3 p hp) (by
       simp only [List.mem_cons,List.not_mem_nil,or_false] at hn ⊢;rintro (e | e | e | e)
       . exact hn (.inl e)
       . exact hn (.inr e)
       . exact k2d hC2 p hp e
       . exact k2d hD2 p hp e)) (k2d hC2 p hp)
     have hfr:∀ l':bg,(fr0++[(a,l')]).map (·.1)=(fr0++[(a,([]:bg))]).map (·.1):=λl'=>by simp
     have ws5:=ws4.keep (σ':=bk C σ4) (ch:=[C]) (λp hp hn=>aN hp (by simpa using hn)) λx hx=>by
       rw [List.mem_singleton] at hx;clear hC hCD nd2 in3 k4 hC4 hCa c5;subst hx;rw [hfr];exact ws2.fresh hC2
     have hD5:=aN hD4 (Ne.symm hCD);have nraw2:∀ {x:Addr} {o:LO},(x,o)∈σ2->(∀ l,o≠.list l)->x≠a:=by
       intro x o hx hn e;clear wst h H ws1 n177 ha2 nda k4 ws4 hCa c5 hfr ws5;subst e;exact hn _ (aJ nd2 (in3 _ hx) (in3 _ (ws2.each (x,[]) (by simp))))
     have ndW:∀ {x:Addr} {f:Obj->Prop},(x,.raw f)∈σ2->x∉WL W++(fr0++[(a,([]:bg))]).map (·.1):=λhx=>(ws2.mono in3).raw_not nd2 (in3 _ hx)
     have hat2:=raw177 (m1 _ hat) (λ_=>λh=>LO.noConfusion h);have hat5:(ad,LO.dict [(aT vs 114,.str v1),(aT ws 107,.str v2)])∈bk C σ4:=c5 _ hat2 (by
       simp only [List.mem_cons,List.not_mem_nil,or_false];rintro (e | e)
       . exact nraw2 hat2 (λ_=>λh=>LO.noConfusion h) e
       . exact hadW (by rw [e];simp [WL]))
     have hself2:=raw177 hself (λ_=>λh=>LO.noConfusion h);have hselfp:∀ {x:Addr},x∈WL W->c.L+1≠x:=by
       intro x hx e;refine ap (ws2.nraw (x:=x) (List.mem_append_left _ hx)) λo ho hn=>?_;have e2:=aJ nd2 (in3 _ ho) (in3 _ (e ▸ hself2));clear hn;subst e2;simp only [WL,List.mem_cons,List.not_mem_nil,or_false] at hx;refine ap ws2.nss λnl _ hnl=>?_;rcases hx with rfl | rfl | rfl | rfl | rfl | rfl | rfl | rfl
       . cases aJ nd2 (in3 _ ho) (in3 _ ws2.inst)
       . cases aJ nd2 (in3 _ ho) (in3 _ ws2.dict)
       . cases aJ nd2 (in3 _ ho) (in3 _ ws2.page)
       . cases aJ nd2 (in3 _ ho) (in3 _ ws2.data)
       . cases aJ nd2 (in3 _ ho) (in3 _ ws2.dcl)
       . cases aJ nd2 (in3 _ ho) (in3 _ hnl)
       . cases aJ nd2 (in3 _ ho) (in3 _ ws2.pm)
       . cases aJ nd2 (in3 _ ho) (in3 _ ws2.ps)
     have hself5:(c.L+1,LO.cell (some (.loc W.x)))∈bk C σ4:=c5 _ hself2 (by
       simp only [List.mem_cons,List.not_mem_nil,or_false];rintro (e | e)
       . exact nraw2 hself2 (λ_=>λh=>LO.noConfusion h) e
       . exact hselfp (by simp [WL]) e)
     have fitE:=un (fr0:=fr0) ts [] pm (by rw [hlen];exact fit)
     have hl3:(b6 (aD fr0) ts ([],pm)).1.length<=3:=by
       have:=uo (aD fr0) ts ([],pm);rw [hlen] at this;exact this
     have hpl:∀ u,(qF (aD fr0) ts ([],pm) u).length<=100:=λu=>x9 ts [] pm (by rw [hlen];exact fit)
     have hml:∀ {u:List Nat},u.length=10->(bd u).length=10:=λ{u} h=>by show u.toArray.size=10;rw [List.size_toArray];exact h
     have mts:∀ t,t=(us,102)\/t=(vs,114)\/t=(ws,107)->t∈ts:=λt ht=>hts.mem_iff.mpr (by simpa using ht)
     have hres:=λu (hu:u∈ts)=>wy (aD fr0) (u:=u) ts ([],pm) hu λt ht=>(ht3 t ht).1;have kvs:gW vs ws (aT vs 114)=(vs,114):=if_pos rfl;have kws:gW vs ws (aT ws 107)=(ws,107):=if_neg (fS hws hvs (by decide))
     have H1:=H.put (ofString "parsed_qnames") (.loc D);refine uL (ad:=ad) (a:=a) (D:=D) (tag:=aT us 102) (kr:=aT vs 114) (kk:=aT ws 107) (v1:=v1) (v2:=v2) (l:=(b6 (aD fr0) ts ([],pm)).1) (Q:=λs=>qn (qF (aD fr0) ts ([],pm) (gW vs ws s)) (gW vs ws s).2) (H1.sub ?_) (ws5.each (a,_) (by simp)) hl3 fitE.eachl hat5 hD5 ?_ λle' σ6 al H6 hal k6 hat6=>?_
     . exact aR.add (aR.add (aR.add (aR.add (aR.add (aR.add (aR.nil_ _) rfl) rfl) rfl) rfl) rfl) rfl
     . intro p hp;rcases dc hp with rfl | rfl
       . refine ⟨bd [114],bd vs,?_,?_,?_⟩
         . dsimp only;rw [kvs];exact hres (vs,114) (mts _ (by simp))
         . rw [hml hvs];decide
         . rw [hml hvs];decide
       . refine ⟨bd [107],bd ws,?_,?_,?_⟩
         . dsimp only;rw [kws];exact hres (ws,107) (mts _ (by simp))
         . rw [hml hws];decide
         . rw [hml hws];decide
     have nal:∀ p∈bk C σ4,p.1≠al:=λp hp e=>hal (e ▸ List.mem_map.mpr ⟨p,hp,rfl⟩);have m6:∀ p∈bk C σ4,p∈σ6:=λp hp=>k6 p hp (by simpa using nal p hp)
     have ws6:=ws5.mono m6;have hsp:=eG (l:=[(aT vs 114,v1),(aT ws 107,v2)]) (by simp)
     have hsx:=eG (l:=(b6 (aD fr0) ts ([],pm)).1.map xm) (by rw [List.length_map];exact hl3)
     have hats:(dy (aD fr0) ts pm vs ws v1 v2).length=(b6 (aD fr0) ts ([],pm)).1.length+2:=by
       unfold dy;rw [List.length_append,List.length_map,hsx.length_eq,hsp.length_eq,List.length_map];rfl
     have hxl:(ofString "xmlns:").length=6:=by decide +kernel
     refine sf (W:=W) (ad:=ad) (al:=al) (D:=D) (tag:=aT us 102) (p:=qn (qF (aD fr0) ts ([],pm) (us,102)) 102) (t:=bd [102]) (u:=bd us) (ats:=dy (aD fr0) ts pm vs ws v1 v2) (H6.sub ?_) (m6 _ hself5) ws6 hk hpage (m6 _ hat5) ?_ (m6 _ hD5) (hres (us,102) (mts _ (by simp))) ?_ hat6 (λe=>?_) (λe=>?_) ?_ ?_ λle' σ7 k7 ws7=>?_
     . exact aR.add (aR.add (aR.add (aR.add (aR.add (aR.nil_ _) rfl) rfl) rfl) rfl) rfl
     . rw [List.lookup_cons,nu hvs,List.lookup_cons,nu hws];rfl
     . have:=hX (hpl (us,102)) 102;exact J1 this rfl
     . exact hal (ws5.at (List.mem_append_left _ e))
     . have:=congrArg List.length e;rw [hats] at this;simp at this
     . exact AD hats hl3 rfl
     . intro x hx;refine Or.elim (List.mem_append.mp hx) (λhx=>?_) λhx=>?_
       . refine ap (List.mem_map.mp (hsx.mem_iff.mp hx)) λy hy z2_=>?_;obtain rfl:=z2_;have:=fitE.eachl y hy;refine ⟨by show (ofString "xmlns:"++y.2).length<=1000;rw [ay,hxl];lia,?_⟩
         show bT y.1;rcases rG ts _ y hy with h0 | ⟨t,ht,e⟩
         . cases h0
         . rw [e];have:=hts.mem_iff.mp ht;rcases gq this with rfl | rfl | rfl
           . exact eu _ (.inl rfl)
           . exact eu _ (.inr (.inl rfl))
           . exact eu _ (.inr (.inr rfl))
       . refine ap (List.mem_map.mp hx) λy hy z3_=>?_;obtain rfl:=z3_;refine ⟨by have:=hX (hpl (gW vs ws y.1)) (gW vs ws y.1).2;dsimp only;exact J1 this rfl,?_⟩
         have:=hsp.mem_iff.mp hy;rcases dc this with rfl | rfl
         . exact e1
         . exact e2
     have c7:∀ p∈σ2,p.1∉a::WL W->p∈σ7:=λp hp hn=>k7 p (m6 p (c5 p hp (by
       simp only [List.mem_cons,List.not_mem_nil,or_false] at hn ⊢;rintro (e | e)
       . exact hn (.inl e)
       . exact hn (.inr (by rw [e];simp [WL]))))) (by
       intro e;refine hn (List.mem_cons_of_mem _ ?_);rcases oh e with e | e | e | e<;>(rw [e];simp [WL]))
     have na:∀ {x:Addr} {f:Obj->Prop},(x,.raw f)∈σ2->x∉a::WL W:=λhx e=>ndW hx (by
       refine Or.elim (List.mem_cons.mp e) (λe=>?_) λe=>?_
       . rw [e];simp
       . exact List.mem_append_left _ e)
     refine h ts σ7 hts hpw (λp hp hn=>c7 p (m2 p (m1 p hp) (λe=>hn (by rw [e];exact .head _))) (λe=>hn (.tail _ e))) (.inr ⟨c',c7 _ ht1 (na ht1),c7 _ hc1 (na hc1)⟩) ws7
 . rfl
 . exact exec_Assign_Name_used _ _ _ _ (by rfl)
set_option maxHeartbeats 0 in
theorem r8 {w:World} {W:f8} {fr0:List (Addr × bg)} {a ad:Addr} {pm:bg} {page:List Str} {k:Nat} {seen dn:LV} {σ:aa} {us vs ws:List Nat} {v1 v2:Str} {K:LV->aa->Prop} (wst:WS W (fr0++[(a,[])]) pm page [] (k+1) seen dn σ) (hk:k<=1000) (hpage:page.length<=100000)
   (hat:(ad,.dict [(aT vs 114,.str v1),(aT ws 107,.str v2)])∈σ) (hadW:ad∉WL W) (htab:d9 dO jV σ) (hus:us.length=10) (hvs:vs.length=10) (hws:ws.length=10) (nus:∀ u∈us,u≠125) (nvs:∀ u∈vs,u≠125) (nws:∀ u∈ws,u≠125)
   (fit:ik fr0 [] pm 3) (e1:bT v1) (e2:bT v2) (eu:∀ u,(u=us\/u=vs\/u=ws)->bT (bd u))
   (h:∀ ts σ',ts.Perm [(us,102),(vs,114),(ws,107)]->ts.Pairwise eH->aI (177::a::WL W) σ σ'->d9 dO jV σ'->WS W (fr0++[(a,(b6 (aD fr0) ts ([],pm)).1)]) (b6 (aD fr0) ts ([],pm)).2 (page++gv (aD fr0) ts pm us vs ws v1 v2) [] (k+1+1) (.bool true) dn σ'->K .none σ') :
   FS 12 w 180 [.loc W.x,.str (aT us 102),.loc ad,.loc a] σ K:=by
 refine sR [(ofString "self",some (.loc W.x)),(ofString "parse_qname",none)] [(ofString "tag",.str (aT us 102)),(ofString "attrs",.loc ad),(ofString "new_namespaces",.loc a),(ofString "qname_text",.none)] (names:=lS) (dl:=[.none]) (dv:=[.none]) (hK:=by exact rfl) (hc:=by decide +kernel) ?_ (λ_ _=>.cons .none .nil) (by decide) rfl ?_ ?_ ?_ ?_ (by decide +kernel) (by decide +kernel) (by decide +kernel) ?_
 . intro s vs kin hl;refine B9 (Ac hl) λu v x y z4_=>?_;clear hl;obtain rfl:=z4_;exact qg s u v x y kin
 . exact λL=>by rfl
 . intro x lv h;have h2:=bR h;simp only [List.mem_cons,Prod.mk.injEq,List.not_mem_nil,or_false] at h2;rcases h2 with ⟨rfl,rfl⟩ | ⟨rfl,rfl⟩ | ⟨rfl,rfl⟩ | ⟨rfl,rfl⟩<;>exact ⟨rfl,by decide +kernel⟩
 . intro L nm' ad' h2;simp only [oV,List.mem_cons,Prod.mk.injEq,List.not_mem_nil,or_false] at h2;rcases h2 with ⟨rfl,rfl⟩ | ⟨rfl,rfl⟩<;>rfl
 . intro nm' x h2;simp only [List.mem_cons,Prod.mk.injEq,List.not_mem_nil,or_false] at h2;rcases h2 with ⟨rfl,rfl⟩ | ⟨rfl,rfl⟩<;>exact ⟨rfl,by decide +kernel⟩
 . intro c hc hlt;subst hc;refine bA λnd0=>?_;refine ae ?_;refine bD ?_;refine cQ (aA (aY (aF (a:=c.L+1) (lv:=.loc W.x) (by simp [fJ]) ⟨rfl,rfl⟩ (by rfl) (.inl (by rfl))) (List.mem_append_right _ wst.inst) (List.mem_append_right _ wst.dict) rfl (jc _) (cb (bC ⟨_,rfl,?_⟩)) (jh _)))
   refine aw ?_;refine ae ?_;refine ax ?_;refine qD (cd:=179) (nm:=ofString "C14NWriterTarget._start") (hcd:=by rfl) (hc:=by decide +kernel) (h:=λq hq=>?_)
   refine ac rfl ⟨rfl,_,rfl,ac rfl ⟨rfl,ad,aT vs 114,aT ws 107,.str v1,.str v2,rfl,List.mem_append_right _ hat,?_⟩⟩;refine ae ?_;refine ax (l9 λrn hrn=>?_);refine ae ?_;refine bD (aA (ac rfl (cb (bC ⟨_,rfl,?_⟩))));refine aw ?_;refine ae ?_;refine bD ?_;refine cQ (aA (aY (aF (a:=c.L+1) (lv:=.loc W.x) (by simp [fJ]) ⟨rfl,rfl⟩ (by rfl) (.inl (by rfl))) (.tail _ (.tail _ (List.mem_append_right _ wst.inst))) (.tail _ (.tail _ (List.mem_append_right _ wst.dict))) rfl (eM _) (cb (bC ⟨_,rfl,?_⟩)) (eN _)))
   refine ae (ax (cb ?_));refine aw ?_;refine ae ?_;refine cv (a:=c.L+1+1) (hc:=by rfl) (hl:=by rfl) (h:=?_)
   refine kD (aF (a:=c.L+1) (lv:=.loc W.x) (by simp [fJ]) (yc (.tail _ (.tail _ (List.mem_append_right _ wst.inst))) (.tail _ (.tail _ (List.mem_append_right _ wst.dict))) (by rfl) (f:=144) (by kernel_rfl!) ⟨none,_,.tail (.tail (.tail .head)),?_⟩ (by kernel_rfl!) (by kernel_rfl!) (by kernel_rfl!) (by kernel_rfl!) (by decide +kernel) (by kernel_rfl!)) (by rfl) (.inl (by rfl)))
   rw [Ao hus hvs hws];have H0:aR (an (ofString "qattrs") LV.none (an (ofString "resolved_names") (LV.loc rn) (an (ofString "qnames") (LV.loc q) [(ofString "tag",.str (aT us 102)),(ofString "attrs",.loc ad),(ofString "new_namespaces",.loc a),(ofString "qname_text",.none)])))
     [(ofString "tag",.str (aT us 102)),(ofString "attrs",.loc ad),(ofString "new_namespaces",.loc a),(ofString "qname_text",.none),(ofString "qattrs",.none),(ofString "qnames",.loc q)]:=by
     exact aR.add (aR.add (aR.add (aR.add (aR.add (aR.add (aR.nil_ _) rfl) rfl) rfl) rfl) rfl) rfl
   exact r9 wst hk hpage hat hadW htab hus hvs hws nus nvs nws fit e1 e2 eu h H0 (.tail _ (.head _)) (λe=>hq (by refine aH htab.raw λf hf=>?_;rw [e];exact List.mem_map.mpr ⟨_,List.mem_append_right _ hf,rfl⟩)) (.tail _ (.tail _ (.head _))) (.tail _ (.tail _ (.tail _ (.head _)))) λp hp _=>.tail _ (.tail _ (.tail _ (.tail _ hp)))
noncomputable def xp (data:List Str) (seen:LV):Prop:=data=[]\/∃ x,data=[x]/\seen=.bool true/\qH x
theorem qz {c:Cx} {n:Nat} {le:ak} {σ:aa} {env:Env} {W:f8} {fr:List (Addr × bg)} {pm:bg} {page data:List Str} {k:Nat} {seen dn:LV} {p1 p2 p3 p4 p5 p6 p7:Pos} {K:LF->ak->aa->Prop} (ws:WS W fr pm page data k seen dn σ) (hw:xp data seen) (hp:page.length<=100000)
   (hs:le.lookup (ofString "self")=some (.loc W.x)) (h:∀ σ',aI [W.dt,W.pg] σ σ'->WS W fr pm (page++data.map fk) [] k seen dn σ'->K .next le σ')
   (hk:env.scope.kind=.function) (hl:env.kindOf (ofString "self")=some .local) (hL:env.locals=c.L) (hi:interactive env=false)
   (hsw:swapsWith (.Call (.Attribute (.Name (ofString "self") p3) (ofString "_flush") p4) [] [] p5) none p6.line env=pure false)
   (he:eval (.Call (.Attribute (.Name (ofString "self") p3) (ofString "_flush") p4) [] [] p5) env=(do
     let ov <-eval (.Name (ofString "self") p3) env
     standAt p4.atName
     let (f,first) <-holding [ov] (getMethod ov (ofString "_flush") (do return (<-importBound (.Name (ofString "self") p3) env).getD true))
     callWith p5 f first (backTo p5 (starEach [] env)) [])) :
   WF (n+4) c (exec (.If (.Attribute (.Name (ofString "self") p1) (ofString "_data") p2) [.Expr (.Call (.Attribute (.Name (ofString "self") p3) (ofString "_flush") p4) [] [] p5) p6] [] p7) env) le σ K:=by
 have hlen:data.length<=1:=by
   rcases hw with rfl | ⟨x,rfl,_⟩<;>simp
 refine bD (bo (aY (ac hs ⟨rfl,rfl⟩ hk hl hL) ws.inst ws.dict rfl (j7 _) (oo ws.data (by rw [List.length_map];exact J1 hlen rfl) ?_) (j9 _)))
 rcases hw with rfl | ⟨x,rfl,rfl,ef⟩
 . refine aw (h σ (λq hq _=>hq) ?_);rw [List.map_nil,List.append_nil];exact ws
 . rw [show (!(([x]:List Str).map LV.str).isEmpty)=true from rfl,if_pos rfl];refine ae ?_;refine a8 ?_ hi hsw;refine aG ?_ he;refine ac hs ?_ hk hl hL;refine mX ws.inst ws.dict rfl (f:=160) (by kernel_rfl!) (by exact rfl) (by kernel_rfl!) (by kernel_rfl!) (am ?_)
   refine bW (n:=4) (r6 ws ef hp λσ' h1 ws'=>⟨trivial,aw (h σ' (λq hq hn=>h1 q hq (λe=>hn (by rw [e];simp)) (λe=>hn (by rw [e];simp))) ws')⟩) (by lia)
theorem WS.push {W:f8} {fr:List (Addr × bg)} {pm:bg} {page data:List Str} {k:Nat} {seen done:LV} {σ σ':aa} {a:Addr} {o:LO} (ws:WS W fr pm page data k seen done σ) (ha:a∉σ.map (·.1)) (u:Up W.dcl o (.list ((fr.map (·.1)).map .loc++[.loc a])) ((a,.list [])::σ) σ'):WS W (fr++[(a,[])]) pm page data k seen done σ':=by
 have nf:=ws.fresh ha;have keep:∀ {x:Addr} {o:LO},(x,o)∈σ->x≠W.dcl->(x,o)∈σ':=λhx hne=>u.old (.tail _ hx) hne;refine ap ws.nss λl hl hn=>?_;refine ⟨keep ws.inst (ws.ne (i:=0) (j:=4) rfl rfl (by decide)),keep ws.dict (ws.ne (i:=1) (j:=4) rfl rfl (by decide)),keep ws.page (ws.ne (i:=2) (j:=4) rfl rfl (by decide)),keep ws.data (ws.ne (i:=3) (j:=4) rfl rfl (by decide)),?_,λp hp=>?_,⟨l,hl,keep hn (ws.ne (i:=5) (j:=4) rfl rfl (by decide))⟩,keep ws.pm (ws.ne (i:=6) (j:=4) rfl rfl (by decide)),keep ws.ps (ws.ne (i:=7) (j:=4) rfl rfl (by decide)),?_⟩
 . rw [List.map_append,List.map_append];exact u.new
 . refine Or.elim (List.mem_append.mp hp) (λhp=>?_) λhp=>?_
   . exact keep (ws.each p hp) (ws.frne hp (i:=4) rfl)
   . rw [List.mem_singleton] at hp;subst hp;exact u.old (.head _) λe=>nf (by rw [show a=W.dcl from e];simp [WL])
 . rw [List.map_append,<-List.append_assoc];refine List.nodup_append.mpr ⟨ws.ad,by simp,λx hx y hy e=>?_⟩
   simp only [List.map_cons,List.map_nil,List.mem_singleton] at hy;exact nf (by rw [<-hy,<-e];exact hx)
set_option maxHeartbeats 0 in
theorem qd {w:World} {W:f8} {fr:List (Addr × bg)} {ad:Addr} {pm:bg} {page data:List Str} {k:Nat} {seen dn:LV} {σ:aa} {us vs ws:List Nat} {v1 v2:Str} {K:LV->aa->Prop} (wst:WS W fr pm page data (k+1) seen dn σ) (hw:xp data seen) (hk:k<=1000) (hpage:page.length<=90000)
   (hat:(ad,.dict [(aT vs 114,.str v1),(aT ws 107,.str v2)])∈σ) (hadW:ad∉WL W) (htab:d9 dO jV σ) (hus:us.length=10) (hvs:vs.length=10) (hws:ws.length=10) (nus:∀ u∈us,u≠125) (nvs:∀ u∈vs,u≠125) (nws:∀ u∈ws,u≠125)
   (fit:ik fr [] pm 3) (hfr:fr.length<=1000) (e1:bT v1) (e2:bT v2) (eu:∀ u,(u=us\/u=vs\/u=ws)->bT (bd u))
   (h:∀ a ts σ',a∉σ.map (·.1)->ts.Perm [(us,102),(vs,114),(ws,107)]->ts.Pairwise eH->aI (177::WL W) σ σ'->d9 dO jV σ'->WS W (fr++[(a,(b6 (aD fr) ts ([],pm)).1)]) (b6 (aD fr) ts ([],pm)).2 (page++data.map fk++gv (aD fr) ts pm us vs ws v1 v2) [] (k+1+1) (.bool true) dn σ'->K .none σ') :
   FS 13 w 174 [.loc W.x,.str (aT us 102),.loc ad] σ K:=by
 refine dw (names:=[ofString "self",ofString "tag",ofString "attrs"]) (dl:=[]) (dv:=[]) (hK:=by exact rfl) (hc:=by decide +kernel) ?_ (λ_ _=>.nil) (by decide) rfl (by decide +kernel) (by decide +kernel) (by decide +kernel) (by decide +kernel) (by decide +kernel) ?_
 . intro s vs _ hl;refine xD (wm hl) λu v x z0_=>?_;clear hl;obtain rfl:=z0_;exact BindsTo.of_eq (by kernel_rfl!)
 . intro c hc;subst hc;refine cH ?_;refine bA λnd=>?_;refine ae ?_;refine bD ?_;refine cQ (aA (aY (ac rfl ⟨rfl,rfl⟩) wst.inst wst.dict rfl (jS _) (cb (bC ⟨_,rfl,?_⟩)) (jU _)));refine aw ?_;refine ae ?_;have hlen:data.length<=1:=by
     rcases hw with rfl | ⟨x,rfl,_⟩<;>simp
   refine qz wst hw (J1 hpage rfl) rfl (λσ1 k1 ws1=>?_) rfl rfl rfl rfl (by rfl) (by kernel_rfl!)
   refine ae ?_;refine ax (ba (am ⟨av (by decide),λa ha=>?_⟩))
   refine aH (Up.ex (o':=.list ((fr.map (·.1)).map .loc++[.loc a])) (σ:=(a,.list [])::σ1) (.tail _ ws1.dcl)) λσ2 u2=>?_
   have ws2:=ws1.push ha u2;have in1:∀ p∈σ1,p∈(a,LO.list [])::σ1:=λp hp=>.tail _ hp;have ws1':=ws1.mono in1;refine ae ?_;refine a8 ?_;refine aG ?_;refine aY (ac rfl ⟨rfl,rfl⟩) ws1'.inst ws1'.dict rfl (bJ _) (bi ws1'.dcl PySem.F.slot_list_append PySem.F.type_list_append (af (ac rfl (am (bj u2 (av (by simp;exact J1 hfr rfl)) ⟨trivial,?_⟩))))) (bK _)
   refine ae ?_;refine bD ?_;refine cQ (aA (aY (ac rfl ⟨rfl,rfl⟩) ws2.inst ws2.dict rfl (gN _) (cb (bC ⟨_,rfl,?_⟩)) (gP _)));refine aw ?_;refine ae ?_;refine a8 ?_;refine aG ?_;refine ac rfl ?_;refine mX ws2.inst ws2.dict rfl (f:=180) (by kernel_rfl!) (by exact rfl) (by kernel_rfl!) (by kernel_rfl!) (af (ac rfl (af (ac rfl (af (ac rfl (am ?_)))))))
   have nW:∀ {x:Addr},x∉WL W->x∉[W.dt,W.pg]/\x≠W.dcl:=by
     intro x hx;refine ⟨λe=>hx ?_,λe=>hx (by rw [e];simp [WL])⟩
     refine Or.elim (dc e) (λe=>?_) λe=>?_<;>(rw [e];simp [WL])
   have keep2:∀ {x:Addr} {o:LO},(x,o)∈σ->x∉WL W->(x,o)∈σ2:=λhx hn=>u2.old (.tail _ (k1 _ hx (nW hn).1)) (nW hn).2;have htab2:d9 dO jV σ2:=by
     have nr:∀ {x:Addr} {f:Obj->Prop},(x,.raw f)∈σ->x∉WL W:=λhx e=>wst.raw_not nd hx (List.mem_append_left _ e);rcases htab with h1 | ⟨c',h1,h2⟩
     . exact .inl (keep2 h1 (nr h1))
     . exact .inr ⟨c',keep2 h1 (nr h1),keep2 h2 (nr h2)⟩
   have a0:a∉σ.map (·.1):=by
     intro e;refine ap (List.mem_map.mp e) λp hp e=>?_;by_cases hx:p.1∈WL W
     . exact ha (by rw [<-e];exact ws1.at (List.mem_append_left _ hx))
     . exact ha (by rw [<-e];exact List.mem_map.mpr ⟨p,k1 _ hp (nW hx).1,rfl⟩)
   refine bW (n:=12) (r8 ws2 hk (by simp only [List.length_append,List.length_map];exact B3 hpage hlen rfl) (keep2 hat hadW) hadW htab2 hus hvs hws nus nvs nws fit e1 e2 eu λts σ' hp hpw k3 ht3 ws3=>⟨trivial,aw ?_⟩) (by decide)
   refine h a ts σ' a0 hp hpw (λp hp hn=>?_) ht3 ws3;rw [List.mem_cons,not_or] at hn;refine k3 p (keep2 hp hn.2) ?_;intro e;refine Or.elim (List.mem_cons.mp e) (λe=>?_) λe=>?_
   . exact hn.1 e
   . refine Or.elim (List.mem_cons.mp e) (λe=>?_) λe=>?_
     . exact a0 (by rw [<-e];exact List.mem_map.mpr ⟨p,hp,rfl⟩)
     . exact hn.2 e
theorem lY {n:Nat} {c:Cx} {le:ak} {σ:aa} {env:Env} {e:Expr} {pos:Pos} {K:LF->ak->aa->Prop} (h:WV n c (eval e env) le σ λ_ σ1=>K .next le σ1) (hi:interactive env=false:=by rfl) (hs:swapsWith e none pos.line env=pure false:=by rfl) :
   WF n c (exec (.Expr e pos) env) le σ K:=λA hA tmp s S =>
 wpAny_Expr_any (wpAny_mono (h A hA tmp s S) (λv s1 hp=>by
   refine bb hp λlv σ1 S1 k=>?_;exact ⟨.next,le,σ1,rfl,S1.drop1,k⟩) λ_ _ x=>x) hi hs
noncomputable def cX (p:Str):Str:=ofString "</"++qn p 102++ofString ">"
theorem t6 (W:f8) (seen dn b:LV):ce (ofString "_root_done") b (jf W seen dn)=jf W seen b:=by kernel_rfl!
set_option maxHeartbeats 0 in
theorem uF {w:World} {W:f8} {fr:List (Addr × bg)} {a:Addr} {l pm:bg} {page data:List Str} {k:Nat} {seen dn:LV} {σ:aa} {us:List Nat} {p:Str} {K:LV->aa->Prop} (wst:WS W (fr++[(a,l)]) pm page data (k+1+1) seen dn σ) (hw:xp data seen) (hk:k<=1000) (hpage:page.length<=90000)
   (hus:us.length=10) (fit:zG (fr++[(a,l)]) pm) (hfr:fr.length<=1000) (hfind:bx (bd us) (l++aD fr) []=some p) (hp:p.length<=100)
   (h:∀ dn' σ',aI (WL W) σ σ'->WS W fr pm (page++data.map fk++[cX p]) [] (k+1) seen dn' σ'->K .none σ') :
   FS 8 w 187 [.loc W.x,.str (aT us 102)] σ K:=by
 refine dw (names:=[ofString "self",ofString "tag"]) (dl:=[]) (dv:=[]) (hK:=by exact rfl) (hc:=by decide +kernel) ?_ (λ_ _=>.nil) (by decide) rfl (by decide +kernel) (by decide +kernel) (by decide +kernel) (by decide +kernel) (by decide +kernel) ?_
 . intro s vs _ hl;refine i4 (py hl) λu v z0_=>?_;clear hl;obtain rfl:=z0_;exact BindsTo.of_eq (by kernel_rfl!)
 . intro c hc;subst hc;refine cH ?_;refine ae ?_;refine bD (bo (aY (ac rfl ⟨rfl,rfl⟩) wst.inst wst.dict rfl (fm _) (wK ?_) (fw _)));rw [show ((0:Int) != 0)=false from rfl,if_neg Bool.false_ne_true];refine aw ?_;have hlen:data.length<=1:=by
     rcases hw with rfl | ⟨x,rfl,_⟩<;>simp
   refine ae ?_;refine qz wst hw (J1 hpage rfl) rfl (λσ1 k1 ws1=>?_) rfl rfl rfl rfl (by rfl) (by kernel_rfl!)
   refine ae ?_;refine a8 ?_;refine aG ?_;refine ac rfl ?_;refine te ws1.inst ws1.dict rfl (kZ _) ?_ (lj _) (by kernel_rfl!)
   refine db (af ?_);have l1:(ofString "</").length=2:=by decide +kernel
   have l2:(ofString ">").length=1:=by decide +kernel
   have hq:=hX hp 102;refine fG (dJ (by rw [empty_append];exact u0 l1 rfl) ?_)
   rw [empty_append];refine fZ ?_;refine aV ?_;refine aG ?_;refine ac rfl ?_;refine mX ws1.inst ws1.dict rfl (f:=144) (by kernel_rfl!) (by exact rfl) (by kernel_rfl!) (by kernel_rfl!) (af (ac rfl (am ?_)))
   refine bW (n:=6) (r7 ws1 hus (.inl rfl) fit (λp' σ2 e k2=>?_) (λσ2 e _ _=>by rw [cR,hfind] at e;cases e)) (by decide)
   rw [cR,hfind] at e;obtain rfl:=Option.some.inj e;have ws2:=ws1.mono k2;refine aq (lH (j:=0) (by decide) (by decide) rfl rfl ⟨qn p 102,rfl,J1 hq rfl,by rw [ay];exact zM l1 hq rfl,?_⟩)
   refine dJ (by rw [ay,ay];exact BL l1 hq l2) (l7 (by rw [ay,ay];exact BL l1 hq l2) ?_)
   refine aH (Up.ex (o':=.list ((page++data.map fk).map .str++[.str (cX p)])) ws2.page) λσ3 u3=>?_;refine am ⟨_,_,σ3,rfl,u3,av (by simp;exact B3 hpage hlen rfl),trivial,?_⟩
   have ws3:WS W (fr++[(a,l)]) pm (page++data.map fk++[cX p]) [] (k+1+1) seen dn σ3:=ws2.upPage (page':=page++data.map fk++[cX p]) (o:=.list ((page++data.map fk).map .str)) (by rw [List.map_append (l₁:=page++data.map fk)];exact u3)
   have ps3:(W.ps,LO.list (List.replicate (k+1) (.bool false)++[.bool false]))∈σ3:=by
     have:=ws3.ps;rwa [List.replicate_succ'] at this
   refine aH (Up.ex (o':=.list (List.replicate (k+1) (.bool false))) ps3) λσ4 u4=>?_;refine ae ?_;refine lY ?_;refine aG ?_;refine aY (ac rfl ⟨rfl,rfl⟩) ws3.inst ws3.dict rfl (cg _) (bi ps3 PySem.F.slot_list_pop PySem.F.type_list_pop (am (oL u4 (by simp;exact J1 hk rfl) ?_))) (ci _)
   have inst4:=u4.old ws3.inst (ws3.ne (i:=0) (j:=7) rfl rfl (by decide))
   have dict4:=u4.old ws3.dict (ws3.ne (i:=1) (j:=7) rfl rfl (by decide))
   refine aH (Up.ex (o':=.dict (jf W seen (.bool (((List.replicate (k+1) (LV.bool false)).length:Int)==1)))) dict4) λσ5 u5=>?_;refine ae ?_;refine gA (ht:=by kernel_rfl!) ?_
   refine l8 (aC ?_);refine be (v:=.builtin "len") (by kernel_rfl!) (by kernel_rfl!) (cz (af ?_))
   refine aY (ac rfl ⟨rfl,rfl⟩) inst4 dict4 rfl (cg _) (am (cT u4.new (by simp;exact J1 hk rfl) ?_)) (ci _)
   refine aq (gp ?_);refine ac rfl ⟨W.x,W.d,_,_,σ5,rfl,inst4,t6 W seen dn _,u5,by simp [jf],?_⟩
   have inst5:=u5.old inst4 (ws3.ne (i:=0) (j:=1) rfl rfl (by decide))
   have dcl5:=u5.old (u4.old ws3.dcl (ws3.ne (i:=4) (j:=7) rfl rfl (by decide))) (ws3.ne (i:=4) (j:=1) rfl rfl (by decide))
   have dcl5':(W.dcl,LO.list ((fr.map (·.1)).map .loc++[.loc a]))∈σ5:=by
     rw [List.map_append,List.map_append] at dcl5;exact dcl5
   refine aH (Up.ex (o':=.list ((fr.map (·.1)).map .loc)) dcl5') λσ6 u6=>?_
   refine ae ?_;refine lY ?_;refine aG ?_;refine aY (ac rfl ⟨rfl,rfl⟩) inst5 u5.new rfl (bJ _) (bi dcl5' PySem.F.slot_list_pop PySem.F.type_list_pop (am (oL u6 (by simp;exact J1 hfr rfl) ?_))) (bK _)
   have inst6:=u6.old inst5 (ws3.ne (i:=0) (j:=4) rfl rfl (by decide))
   have dict6:=u6.old u5.new (ws3.ne (i:=1) (j:=4) rfl rfl (by decide))
   refine ap ws3.nss λnl hnl hnm=>?_;have hne:nl≠[]:=λe=>by rw [e] at hnl;cases hnl
   have hnl2:nl.dropLast++[nl.getLast hne]=nl:=List.dropLast_concat_getLast hne;have nss6:=u6.old (u5.old (u4.old hnm (ws3.ne (i:=5) (j:=7) rfl rfl (by decide))) (ws3.ne (i:=5) (j:=1) rfl rfl (by decide))) (ws3.ne (i:=5) (j:=4) rfl rfl (by decide))
   rw [<-hnl2] at nss6;refine aH (Up.ex (o':=.list nl.dropLast) nss6) λσ7 u7=>?_;refine ae ?_;refine lY ?_;refine aG ?_;refine aY (ac rfl ⟨rfl,rfl⟩) inst6 dict6 rfl (jz _) (bi nss6 PySem.F.slot_list_pop PySem.F.type_list_pop (am (oL u7 (by rw [List.length_dropLast];lia) ?_))) (jA _)
   refine aw ?_;have kk:∀ q∈σ3,q.1≠W.ps->q.1≠W.d->q.1≠W.dcl->q.1≠W.nss->q∈σ7:=λq hq h1 h2 h3 h4=>u7.old (u6.old (u5.old (u4.old hq h1) h2) h3) h4;have nx:∀ {i:Nat} {x:Addr} {o:LO},(x,o)∈σ3->(WL W)[i]?=some x->i≠7->i≠1->i≠4->i≠5->(x,o)∈σ7:=λhx hi a b d e=>kk _ hx (ws3.ne hi (j:=7) rfl a) (ws3.ne hi (j:=1) rfl b) (ws3.ne hi (j:=4) rfl d) (ws3.ne hi (j:=5) rfl e);refine h _ σ7 (λq hq hn=>?_) ⟨nx ws3.inst (i:=0) rfl (by decide) (by decide) (by decide) (by decide),u7.old dict6 (ws3.ne (i:=1) (j:=5) rfl rfl (by decide)),nx ws3.page (i:=2) rfl (by decide) (by decide) (by decide) (by decide),nx ws3.data (i:=3) rfl (by decide) (by decide) (by decide) (by decide),u7.old u6.new (ws3.ne (i:=4) (j:=5) rfl rfl (by decide)),λq hq=>?_,⟨nl.dropLast,by rw [List.length_dropLast,hnl];rfl,u7.new⟩,nx ws3.pm (i:=6) rfl (by decide) (by decide) (by decide) (by decide),u7.old (u6.old (u5.old u4.new (ws3.ne (i:=7) (j:=1) rfl rfl (by decide))) (ws3.ne (i:=7) (j:=4) rfl rfl (by decide))) (ws3.ne (i:=7) (j:=5) rfl rfl (by decide)),?_⟩
   . have e:∀ x,x∈WL W->q.1≠x:=λx hx e=>hn (e ▸ hx);exact kk q (u3.old (k2 q (k1 q hq (λe2=>hn (by
       refine Or.elim (dc e2) (λe2=>?_) λe2=>?_<;>(rw [e2];simp [WL]))))) (e _ (by simp [WL]))) (e _ (by simp [WL])) (e _ (by simp [WL])) (e _ (by simp [WL])) (e _ (by simp [WL]))
   . have hq':=List.mem_append_left [(a,l)] hq;exact kk _ (ws3.each q hq') (ws3.frne hq' (i:=7) rfl) (ws3.frne hq' (i:=1) rfl) (ws3.frne hq' (i:=4) rfl) (ws3.frne hq' (i:=5) rfl)
   . have:=ws3.ad;rw [List.map_append,<-List.append_assoc] at this;exact (List.nodup_append.mp this).1
theorem br.make {n:Nat} {A:Around} (h:br (n+1) A) (C:Addr) (vs:List Value) (kw:List (Str × Value)):br n (A.under (.builtin "type.__call__" ⟨.ref C::vs,kw⟩)):=by
 have hd:=h.depth;have hu:=h.units;have e2:(Code.builtin "type.__call__" ⟨.ref C::vs,kw⟩).cUnits<=10:=Nat.le_of_ble_eq_true (by kernel_rfl!)
 refine ⟨h.handled,?_,?_⟩
 . show A.depth+1+n<=500;exact zJ hd rfl
 . show A.units+(Code.builtin "type.__call__" ⟨.ref C::vs,kw⟩).cUnits+20*n<=2000;lia
theorem yR (P:Params):makesIn (KF P) 204=true:=by kernel_rfl!
theorem z8 (P:Params):findIn (KF P) (.ref 204) "__init__"=some (some (.ref 121)):=by kernel_rfl!
theorem Au (P:Params):typeIn (KF P) (.ref 121)=some (.type "function"):=by kernel_rfl!
theorem pD {c:Cx} {n:Nat} {le:ak} {σ:aa} {pg:Addr} {v1:Value} {A:Around} {tmp:List bt} {s:Shared} {K:LV->aa->Prop} (hA:br (n+3) A) (S:St c le σ tmp s) (r1:RV s.heap (.bm "list.append" pg) v1)
   (h:∀ x d,x∉σ.map (·.1)->d∉σ.map (·.1)->x≠d->ke x d pg σ (λv σ'=>v=.none/\K (.loc x) σ')) :
   wpAny (Mo c.w) A (call (.ref 204) [v1] [(ofString "rewrite_prefixes",.bool true)]) (PV c le tmp K) dh s:=by
 refine ap S.fr λm F _=>?_;have kin:(KF c.w.params).In s.heap:=S.bs.top.kin.keeps F.keep;refine wpAny_call ?_;have hd0:s.heap.objs.size∉σ.map (·.1):=λhm=>Nat.lt_irrefl _ (S.key_lt hm)
 have S1:=S.new (o:=emptyDict) (lo:=.dict []) ⟨[],0,Heap.get?_push_size _ rfl,.nil,.nil⟩;have sz:(s.heap.push emptyDict).objs.size=s.heap.objs.size+1:=Heap.size_push ..;have hx0:s.heap.objs.size+1∉σ.map (·.1):=λhm=>absurd (S.key_lt hm) (Nat.not_lt.mpr (Nat.le_succ _))
 have S2:=S1.new (o:=instObj 204 s.heap.objs.size) (lo:=.inst s.heap.objs.size) (Heap.get?_push_size _ rfl);have e2:({ s with heap:=s.heap.push emptyDict }:Shared).heap.objs.size=s.heap.objs.size+1:=sz
 rw [e2] at S2;have r2:RV ((s.heap.push emptyDict).push (instObj 204 s.heap.objs.size)) (.bm "list.append" pg) v1:=r1.keeps λb o e _=>Heap.get?_push_of_some _ (Heap.get?_push_of_some _ e);have h2:=h (s.heap.objs.size+1) s.heap.objs.size hx0 hd0 (Nat.succ_ne_self _);refine make_core (h:=s.heap) (g:=s.gens) (d:=s.drawn) (t:=s.toks) (os:=s.os) (makes_of kin (yR _)) (looks_findIn kin (z8 _)) (λself=>bind_fn kin self (Au _)) (.inl rfl) ?_;refine codeAny_mono (nP (w:=c.w) (a:=121) (n:=1) (kw:=[(ofString "rewrite_prefixes",.bool true)]) (args:=[.loc (s.heap.objs.size+1),.bm "list.append" pg]) (names:=gE) (dl:=nT) (dv:=q6) (σ:=sT (s.heap.objs.size+1) s.heap.objs.size σ) (K:=λv σ'=>v=.none/\K (.loc (s.heap.objs.size+1)) σ') (hK:=by exact rfl) (hc:=by decide +kernel) ?_ (λh _=>ub h) (by decide) rfl (by decide +kernel) (by decide +kernel) (by decide +kernel) (by decide +kernel) (by decide +kernel) (λc2 _=>uc h2) c rfl le _ ((hA.le (by lia:3<=n+3)).make 204 _ _) tmp _ [.ref (s.heap.objs.size+1),v1] S2 (.cons (.loc _) (.cons r2 .nil))) λr s' z=>?_
 . intro s vs kin hl;refine i4 (py hl) λu v z0_=>?_;clear hl;obtain rfl:=z0_;exact q7 s u v kin
 . rcases r with e | f
   . exact z.elim
   . cases f with
     | ret v =>
       refine bl z λlv σ' S' e k=>?_;subst e;have r:=S'.tm _ (.head _);clear z;obtain rfl:=RV.inv r;exact ⟨rfl,_,σ',S'.drop1.hold (.loc _),k⟩
     | _=>exact z.elim
theorem uf {w:World} {A:Around} {E:Value->Shared->Prop} {s:Shared} {Q:Keeper->Shared->Prop} (kin:(KF w.params).In s.heap) (h:Q .machine s):wpAny (Mo w) A (keeperOf (.ref 204)) Q E s:=by
 have Y:=makes_of (M:=Mo w) kin (yR w.params);unfold keeperOf;refine wpAny_bind (wpAny_load (kin 204 _ (by exact rfl)) ?_)
 refine wpAny_bind (Y.call.here ?_);exact wpAny_pure h
theorem uT {c:Cx} {n:Nat} {le:ak} {σ:aa} {env:Env} {func arg val:Expr} {pos kp:Pos} {K:LV->aa->Prop}
   (h:WV (n+3) c (eval func env) le σ λfv σ0=>fv=.val (.ref 204)/\WV (n+3) c (eval arg env) le σ0 λx σ1=>WV (n+3) c (eval val env) le σ1 λy σ2=>y=.bool true/\∃ pg,x=.bm "list.append" pg/\∀ x d,x∉σ2.map (·.1)->d∉σ2.map (·.1)->x≠d->ke x d pg σ2 (λv σ'=>v=.none/\K (.loc x) σ'))
   (he:eval (.Call func [arg] [⟨some (ofString "rewrite_prefixes"),val,kp⟩] pos) env=(do callWith pos (<-eval func env) [] (backTo pos (starEach [arg] env)) (backToKw pos (keywordEach [⟨some (ofString "rewrite_prefixes"),val,kp⟩] env))):=by rfl)
   (hst:starEach [arg] env=[(false,eval arg env)]:=by rfl) :
   WV (n+3) c (eval (.Call func [arg] [⟨some (ofString "rewrite_prefixes"),val,kp⟩] pos) env) le σ K:=λA hA tmp s S=>by
 rw [he];refine wpAny_bind (wpAny_mono (h A hA tmp s S) (λfv s1 hp=>?_) λ_ _ x=>x);refine bl hp λfl σ0 S1 e1 h1=>?_;subst e1;have rf:=S1.tm _ (.head _);clear hp;obtain rfl:=RV.inv rf;have S1':=S1.drop1;unfold callWith;have hbk:backTo pos (starEach [arg] env)=(false,eval arg env)::backTo pos []:=by rw [hst];rfl
 have hwa:WA (n+3) c [arg] env le σ0 (λxs σ1=>∃ x,xs=[x]/\WV (n+3) c (eval val env) le σ1 λy σ2=>y=.bool true/\∃ pg,x=.bm "list.append" pg/\∀ x d,x∉σ2.map (·.1)->d∉σ2.map (·.1)->x≠d->ke x d pg σ2 (λv σ'=>v=.none/\K (.loc x) σ')) :=
   af (h1.mono λx σ1 h2=>am ⟨x,rfl,h2⟩) hst
 have hh:=hwa A hA pos tmp s1 S1';rw [hbk] at hh ⊢;refine wpAny_bind (wpAny_holding (evalArgs_kwB (by rfl) (wpAny_mono hh (λvs s2 hp=>?_) λ_ _ x=>x)))
 refine bl hp λxs σ1 S2 rx y0_=>?_;refine ap y0_ λx exs h2=>?_;subst exs;have hz:=aK.inv rx;clear rx;refine bl hz λ_ _ z1_ rx rn=>?_;obtain rfl:=z1_;obtain rfl:=aK.nil_ rn;refine kws_cons (wpAny_mono (h2 A hA _ s2 (S2.hold rx)) (λyv s3 hp=>?_) λ_ _ x=>x);refine bl hp λy σ2 S3 ey y1_=>?_;refine ap y1_ λpg ex hK=>?_;clear h2 rx hz;subst ex;subst ey;have r1:=S3.tm _ (.head _);have r2:=S3.tm _ (.tail _ (.head _));obtain rfl:=RV.inv r1;refine kws_nil (wpAny_bind (wpAny_standAt ?_));refine ap S3.fr λm F _=>?_;refine wpAny_bind (uf (S3.bs.top.kin.keeps F.keep) ?_);refine wpAny_bind (wpAny_mono (pD hA S3.drop1.drop1 r2 hK) (λr s4 hr=>?_) λ_ _ x=>x);exact wpAny_bind (wpAny_holding (wpAny_point (wpAny_pure hr)))
section
variable {n:Nat} {c:Cx} {le:ak} {σ:aa} {env:Env}
noncomputable def oR (n:Nat) (c:Cx) (test:Expr) (body orelse:List Stmt) (env:Env) (K:LF->ak->aa->Prop):Nat->ak->aa->Prop
 | 0,le,σ=>WB n c (isTrue test env (eval test env)) le σ λb σ1=>b=false/\WF n c (execs orelse env) le σ1 K
 | k+1,le,σ=>WB n c (isTrue test env (eval test env)) le σ λb σ1=>if b then WF n c (execs body env) le σ1 (KL (oR n c test body orelse env K k) K)
   else WF n c (execs orelse env) le σ1 K
theorem qB {test:Expr} {body orelse:List Stmt} {pos:Pos} {K:LF->ak->aa->Prop} (k:Nat) (h:oR n c test body orelse env K k le σ):WF n c (exec (.While test body orelse pos) env) le σ K:=λA hA tmp s S=>by
 refine wpAny_While ?_;refine codeAny_mono (R:=λr s'=>∃ f,r=.ok f/\PF c tmp K f s') ?_ λr s' hp=>?_
 . refine codeAny_whileLoop (I:=λk s=>∃ le σ,St c le σ tmp s/\oR n c test body orelse env K k le σ) (λk s hI=>?_) k ⟨le,σ,S,h⟩;refine bb hI λle σ S L=>?_;cases k with
   | zero =>
     refine wpAny_mono (L A hA tmp s S) (λb s1 hp=>?_) λ_ _ x=>x.elim;refine du hp λσ1 S1 z0_ h1=>?_;clear hp;obtain rfl:=z0_;rw [if_neg Bool.false_ne_true];exact wpAny_mono (h1 A hA tmp s1 S1) (λf s2 q=>⟨f,rfl,q⟩) λ_ _ x=>x.elim
   | succ k =>
     refine wpAny_mono (L A hA tmp s S) (λb s1 hp=>?_) λ_ _ x=>x.elim;refine ap hp λσ1 S1 h1=>?_;cases b with
     | false =>
       rw [if_neg Bool.false_ne_true] at h1 ⊢;exact wpAny_mono (h1 A hA tmp s1 S1) (λf s2 q=>⟨f,rfl,q⟩) λ_ _ x=>x.elim
     | true =>
       rw [if_pos rfl] at h1 ⊢;refine wpAny_mono (h1 A hA tmp s1 S1) (λf s2 hp=>?_) λ_ _ x=>x.elim;refine f9 hp λlf le2 σ2 rf S2 h2=>?_;cases lf with
       | next=>cases rf;exact ⟨k,Nat.lt_succ_self _,le2,σ2,S2,h2⟩
       | cont=>cases rf;exact ⟨k,Nat.lt_succ_self _,le2,σ2,S2,h2⟩
       | brk=>cases rf;exact ⟨_,rfl,.next,le2,σ2,rfl,S2,h2⟩
       | ret lv=>refine ap rf λu z1_ ru=>?_;clear hp rf;obtain rfl:=z1_;exact ⟨_,rfl,.ret lv,le2,σ2,⟨u,rfl,ru⟩,S2,h2⟩
 . refine ap hp λf e q=>?_;clear hp;subst e;exact q
end
noncomputable def cS (k:Int):Nat:=[45,63,98,99,100,108,112,115].getD k.toNat 0
noncomputable def aW (s:List Nat) (f:Int):List Nat:=[if f / 8=0 then 45 else 114,if f / 4 % 2=0 then 45 else 119,s.getD (f % 4).toNat 0]
noncomputable def bq (c:Int):List Nat:=cS (c / 4096)::(aW [45,83,115,120] (c / 256 % 16)++aW [45,83,115,120] (c / 16 % 16)++aW [45,84,116,120] (c % 16))
noncomputable def cK (c:Int):Prop:=0<=c/\c < 32768
theorem pT (c:Int):(bq c).length=10:=rfl
theorem wb:∀ i:Nat,i < 8->∀ j:Nat,j < 8->(cS i < cS j ↔ i < j):=by decide +kernel
theorem wM:∀ i:Nat,i < 16->∀ j:Nat,j < 16->(aW [45,83,115,120] i < aW [45,83,115,120] j ↔ i < j)/\(aW [45,84,116,120] i < aW [45,84,116,120] j ↔ i < j):=by decide +kernel
theorem gB {a b c d:List Nat} (h:a.length=b.length):a++c < b++d ↔ a < b\/(a=b/\c < d):=by
 induction a generalizing b with
 | nil =>
   obtain rfl:=List.length_eq_zero_iff.mp h.symm;simp [List.lt_irrefl]
 | cons x a ih =>
   match b,h with
   | y::b,h =>
     have h:a.length=b.length:=by simpa using h
     simp only [List.cons_append,List.cons_lt_cons_iff,ih h,List.cons.injEq];constructor
     . rintro (h | ⟨h1,h2 | ⟨h2,h3⟩⟩)
       . exact .inl (.inl h)
       . exact .inl (.inr ⟨h1,h2⟩)
       . exact .inr ⟨⟨h1,h2⟩,h3⟩
     . rintro ((h | ⟨h1,h2⟩) | ⟨⟨h1,h2⟩,h3⟩)
       . exact .inl h
       . exact .inr ⟨h1,.inl h2⟩
       . exact .inr ⟨h1,.inr ⟨h2,h3⟩⟩
theorem uh:∀ i:Nat,i < 8->∀ j:Nat,j < 8->cS i=cS j->i=j:=by decide +kernel
theorem ux:∀ i:Nat,i < 16->∀ j:Nat,j < 16->(aW [45,83,115,120] i=aW [45,83,115,120] j->i=j)/\(aW [45,84,116,120] i=aW [45,84,116,120] j->i=j):=by decide +kernel
theorem dj {x:Int} {b:Nat} (h0:0<=x) (h:x < b):∃ i:Nat,i < b/\x=(i:Int):=⟨x.toNat,by lia,by lia⟩
theorem rA (x y:Int):x < y ↔ x / 16 < y / 16\/(x / 16=y / 16/\x % 16 < y % 16):=by lia
theorem vL (x y:Int):x=y ↔ x / 16=y / 16/\x % 16=y % 16:=by lia
theorem gI {x y:Int} (hx:0<=x/\x < 16) (hy:0<=y/\y < 16):(aW [45,83,115,120] x < aW [45,83,115,120] y ↔ x < y)/\(aW [45,84,116,120] x < aW [45,84,116,120] y ↔ x < y)/\(aW [45,83,115,120] x=aW [45,83,115,120] y ↔ x=y):=by
 refine ap (dj (x:=x) (b:=16) hx.1 hx.2) λa ha z2_=>?_;clear hx;obtain rfl:=z2_;refine ap (dj (x:=y) (b:=16) hy.1 hy.2) λb hb z3_=>?_;clear hy;obtain rfl:=z3_;have h:=wM a ha b hb;exact ⟨h.1.trans Int.ofNat_lt.symm,h.2.trans Int.ofNat_lt.symm,λe=>congrArg _ ((ux a ha b hb).1 e),λe=>congrArg _ e⟩
theorem sV {x y:Int} (hx:0<=x/\x < 8) (hy:0<=y/\y < 8):(cS x < cS y ↔ x < y)/\(cS x=cS y ↔ x=y):=by
 refine ap (dj (x:=x) (b:=8) hx.1 hx.2) λa ha z4_=>?_;clear hx;obtain rfl:=z4_;refine ap (dj (x:=y) (b:=8) hy.1 hy.2) λb hb z5_=>?_;clear hy;obtain rfl:=z5_;exact ⟨(wb a ha b hb).trans Int.ofNat_lt.symm,λe=>congrArg _ (uh a ha b hb e),λe=>congrArg _ e⟩
theorem dN (x:Int):0<=x % 16/\x % 16 < 16:=⟨Int.emod_nonneg _ (by decide),Int.emod_lt_of_pos _ (by decide)⟩
theorem oF {c:Int} (hc:cK c):0<=c / 4096/\c / 4096 < 8:=⟨Int.ediv_nonneg hc.1 (by decide),Int.ediv_lt_of_lt_mul (by decide) hc.2⟩
theorem iM {c d:Int} (hc:cK c) (hd:cK d):bq c < bq d ↔ c < d:=by
 have e2:∀ x:Int,x / 16 / 16=x / 256:=λx=>Int.ediv_ediv_of_nonneg (by decide)
 have e3:∀ x:Int,x / 256 / 16=x / 4096:=λx=>Int.ediv_ediv_of_nonneg (by decide)
 unfold bq;rw [List.cons_lt_cons_iff,gB (a:=aW [45,83,115,120] (c / 256 % 16)++aW [45,83,115,120] (c / 16 % 16)) (b:=aW [45,83,115,120] (d / 256 % 16)++aW [45,83,115,120] (d / 16 % 16)) rfl,gB (a:=aW [45,83,115,120] (c / 256 % 16)) (b:=aW [45,83,115,120] (d / 256 % 16)) rfl,
   (sV (oF hc) (oF hd)).1,(sV (oF hc) (oF hd)).2,(gI (dN _) (dN _)).1,(gI (dN _) (dN _)).1,(gI (dN _) (dN _)).2.1,(gI (dN _) (dN _)).2.2]
 rw [rA c d,rA (c / 16) (d / 16),vL (c / 16) (d / 16),e2,e2,rA (c / 256) (d / 256),vL (c / 256) (d / 256),e3,e3];have ha:aW [45,83,115,120] (c / 256 % 16)++aW [45,83,115,120] (c / 16 % 16)=aW [45,83,115,120] (d / 256 % 16)++aW [45,83,115,120] (d / 16 % 16) ↔ c / 256 % 16=d / 256 % 16/\c / 16 % 16=d / 16 % 16 :=
   ⟨λh=>⟨(gI (dN _) (dN _)).2.2.mp (List.append_inj h rfl).1,(gI (dN _) (dN _)).2.2.mp (List.append_inj h rfl).2⟩,λh=>by rw [h.1,h.2]⟩
 rw [ha];generalize c / 4096=k;generalize d / 4096=k';generalize c / 256 % 16=x2;generalize d / 256 % 16=y2;generalize c / 16 % 16=x1;generalize d / 16 % 16=y1;constructor
 . rintro (h | ⟨h1,(h | ⟨h2,h⟩) | ⟨h2,h⟩⟩)
   . exact .inl (.inl (.inl h))
   . exact .inl (.inl (.inr ⟨h1,h⟩))
   . exact .inl (.inr ⟨⟨h1,h2⟩,h⟩)
   . exact .inr ⟨⟨⟨h1,h2.1⟩,h2.2⟩,h⟩
 . rintro (((h | ⟨h1,h⟩) | ⟨⟨h1,h2⟩,h⟩) | ⟨⟨⟨h1,h2⟩,h3⟩,h⟩)
   . exact .inl h
   . exact .inr ⟨h1,.inl (.inl h)⟩
   . exact .inr ⟨h1,.inl (.inr ⟨h2,h⟩)⟩
   . exact .inr ⟨h1,.inr ⟨⟨h2,h3⟩,h⟩⟩
theorem iL {c d:Int} (hc:cK c) (hd:cK d) (e:bq c=bq d):c=d:=by
 rcases Int.lt_trichotomy c d with h | h | h
 . exact absurd ((iM hc hd).mpr h) (by rw [e];exact List.lt_irrefl _)
 . exact h
 . exact absurd ((iM hd hc).mpr h) (by rw [e];exact List.lt_irrefl _)
theorem n6:∀ i:Nat,i < 8->cS i∈[45,63,98,99,100,108,112,115]:=by decide +kernel
theorem fO:∀ i:Nat,i < 16->(∀ x∈aW [45,83,115,120] i,x∈[45,83,115,120,114,119])/\(∀ x∈aW [45,84,116,120] i,x∈[45,84,116,120,114,119]):=by decide +kernel
theorem lL {c:Int} (hc:cK c):∀ x∈bq c,x∈[45,63,98,99,100,108,112,115,83,84,116,120,114,119]:=by
 refine bh hc λh0 h1=>?_;refine ap (dj (x:=c / 4096) (b:=8) (BC h0) (BD h1)) λk hk ek=>?_;refine ap (dj (x:=c / 256 % 16) (b:=16) (zH rfl) (zI rfl)) λa ha ea=>?_;refine ap (dj (x:=c / 16 % 16) (b:=16) (zH rfl) (zI rfl)) λp hp ep=>?_;refine ap (dj (x:=c % 16) (b:=16) (by lia) (by lia)) λq hq eq=>?_
 intro x hx;unfold bq at hx;rw [ek,ea,ep,eq] at hx;have sub1:∀ x∈[45,63,98,99,100,108,112,115],x∈[45,63,98,99,100,108,112,115,83,84,116,120,114,119]:=by decide
 have sub2:∀ x∈[45,83,115,120,114,119],x∈[45,63,98,99,100,108,112,115,83,84,116,120,114,119]:=by decide
 have sub3:∀ x∈[45,84,116,120,114,119],x∈[45,63,98,99,100,108,112,115,83,84,116,120,114,119]:=by decide
 rcases List.mem_cons.mp hx with rfl | hx
 . exact sub1 _ (n6 k hk)
 . refine Or.elim (List.mem_append.mp hx) (λhx=>?_) λhx=>?_
   . refine Or.elim (List.mem_append.mp hx) (λhx=>?_) λhx=>?_
     . exact sub2 _ ((fO a ha).1 x hx)
     . exact sub2 _ ((fO p hp).1 x hx)
   . exact sub3 _ ((fO q hq).2 x hx)
noncomputable def rH (i:Nat):Str:=ofString "n"++ofString (toString (i:Int))
theorem wA:∀ i:Nat,i < 61->∀ j:Nat,j < 61->(rH i).cps.toList=(rH j).cps.toList->i=j:=by decide +kernel
noncomputable def cn (N:List Int) (u:Int):Str:=rH (N.idxOf u)
theorem tq {N:List Int} (hN:N.length<=60) {u v:Int} (hu:u∈N) (hv:v∈N) (e:cn N u=cn N v):u=v:=by
 have h1:=List.idxOf_lt_length_of_mem hu;have h2:=List.idxOf_lt_length_of_mem hv;have:=wA _ (Ay h1 hN rfl) _ (Ay h2 hN rfl) (congrArg (λz:Str=>z.cps.toList) e);have e1:=List.getElem_idxOf h1;have e2:=List.getElem_idxOf h2;simp only [this] at e1;exact e1.symm.trans e2
theorem tv {N:List Int} {u v:Int} (hu:u∈N):cn (N++[v]) u=cn N u:=by
 unfold cn;rw [List.idxOf_append,if_pos hu]
theorem yi {N:List Int} {u:Int} (hu:u∉N):cn (N++[u]) u=rH N.length:=by
 unfold cn;rw [List.idxOf_append,if_neg hu];simp
noncomputable def aP (u:Int):Str:=bd (bq u)
theorem lM {u v:Int} (hu:cK u) (hv:cK v) (e:aP u=aP v):u=v:=iL hu hv (s8.mp e)
noncomputable def aU (N D:List Int):bg:=D.map λu=>(aP u,cn N u)
noncomputable def cV:bg:=[(ofString "http://www.w3.org/XML/1998/namespace",ofString "xml")]
theorem dG (N D E:List Int):aU N (D++E)=aU N D++aU N E:=List.map_append ..
theorem pc {N D:List Int} {v:Int} (h:∀ u∈D,u∈N):aU (N++[v]) D=aU N D:=List.map_congr_left λu hu=>by rw [tv (h u hu)]
theorem yn (u:Int):(ofString "http://www.w3.org/XML/1998/namespace"==aP u)=false:=by
 refine beq_eq_false_iff_ne.mpr λe=>?_;have:=congrArg (λz:Str=>z.cps.size) e;have h2:(aP u).cps.size=10:=by show (bq u).toArray.size=10;rw [List.size_toArray,pT]
 simp only [h2] at this;exact absurd this (by decide +kernel)
theorem qV {N:List Int} {u:Int} (hu:cK u):∀ (R:List Int) (seen:List Str),(∀ v∈R,cK v)->u∉R->bx (aP u) (aU N R++cV) seen=none:=by
 intro R;induction R with
 | nil =>
   intro seen _ _;show bx (aP u) [_] seen=none;rw [dY (by rw [yn];rfl)];rfl
 | cons v R ih =>
   intro seen hv hn;rw [List.mem_cons,not_or] at hn;show bx (aP u) ((aP v,cn N v)::(aU N R++cV)) seen=none;rw [dY]
   . exact ih _ (λx hx=>hv x (.tail _ hx)) hn.2
   . have:(aP v==aP u)=false:=beq_eq_false_iff_ne.mpr λe=>hn.1 (lM (hv v (.head _)) hu e).symm;simp only [this,Bool.false_and]
theorem mO {N:List Int} (hN:N.length<=60) {u:Int} (hu:cK u) (huN:u∈N):∀ (R:List Int) (seen:List Str),(∀ v∈R,cK v/\v∈N)->cn N u∉seen->u∈R->bx (aP u) (aU N R++cV) seen=some (cn N u):=by
 intro R;induction R with
 | nil=>intro seen _ _ h;cases h
 | cons v R ih =>
   intro seen hv hs hm;show bx (aP u) ((aP v,cn N v)::(aU N R++cV)) seen=_;by_cases e:u=v
   . clear hv hm;subst e;rw [hM];simpa using hs
   . rw [dY]
     . refine ih _ (λx hx=>hv x (.tail _ hx)) ?_ ?_
       . intro h;refine Or.elim (List.mem_cons.mp h) (λh=>?_) λh=>?_
         . exact e (tq hN huN (hv v (.head _)).2 h)
         . exact hs h
       . exact (List.mem_cons.mp hm).resolve_left e
     . have:(aP v==aP u)=false:=beq_eq_false_iff_ne.mpr λq=>e (lM (hv v (.head _)).1 hu q).symm;simp only [this,Bool.false_and]
noncomputable def bB (Sc:List Int) (st:List Int × List Int) (u:Int):List Int × List Int :=
 if u∈st.2\/u∈Sc then st else (if u∈st.1 then st.1 else st.1++[u],st.2++[u])
noncomputable def aS (Sc:List Int) (us:List Int) (st:List Int × List Int):List Int × List Int:=us.foldl (bB Sc) st
theorem eQ (Sc:List Int) (u:Int) (us:List Int) (st:List Int × List Int):aS Sc (u::us) st=aS Sc us (bB Sc st u):=rfl
structure xj (Sc N D:List Int):Prop where
 val:∀ u∈N,cK u
 nd:N.Nodup
 sc:∀ u∈Sc,u∈N
 dn:∀ u∈D,u∈N
theorem xj.step {Sc N D:List Int} (h:xj Sc N D) {u:Int} (hu:cK u):xj Sc (bB Sc (N,D) u).1 (bB Sc (N,D) u).2:=by
 unfold bB;split
 . exact h
 . dsimp only;split
   . rename_i hm;refine ⟨h.val,h.nd,h.sc,λx hx=>?_⟩;refine Or.elim (List.mem_append.mp hx) (λhx=>?_) λhx=>?_
     . exact h.dn x hx
     . rw [List.mem_singleton] at hx;clear hu;subst hx;exact hm
   . rename_i hm;refine ⟨λx hx=>?_,?_,λx hx=>List.mem_append_left _ (h.sc x hx),λx hx=>?_⟩
     . refine Or.elim (List.mem_append.mp hx) (λhx=>?_) λhx=>?_
       . exact h.val x hx
       . rw [List.mem_singleton] at hx;clear hm;subst hx;exact hu
     . refine List.nodup_append.mpr ⟨h.nd,by simp,λa ha b hb e=>?_⟩
       rw [List.mem_singleton] at hb;subst hb;clear hu;subst e;exact hm ha
     . refine Or.elim (List.mem_append.mp hx) (λhx=>?_) λhx=>?_
       . exact List.mem_append_left _ (h.dn x hx)
       . exact List.mem_append_right _ hx
theorem mE (Sc:List Int) (st:List Int × List Int) (u:Int):(bB Sc st u).1.length<=st.1.length+1/\(bB Sc st u).2.length<=st.2.length+1:=by
 unfold bB;split
 . exact ⟨Nat.le_succ _,Nat.le_succ _⟩
 . dsimp only;split<;>simp
theorem mG (Sc:List Int) (st:List Int × List Int) (u:Int):(∀ x∈st.1,x∈(bB Sc st u).1)/\(∀ x∈st.2,x∈(bB Sc st u).2):=by
 unfold bB;split
 . exact ⟨λ_ h=>h,λ_ h=>h⟩
 . refine ⟨λx hx=>?_,λx hx=>List.mem_append_left _ hx⟩;dsimp only;split
   . exact hx
   . exact List.mem_append_left _ hx
theorem mF (Sc:List Int) (st:List Int × List Int) (u:Int) {x:Int} (hx:x∈st.1):cn (bB Sc st u).1 x=cn st.1 x:=by
 unfold bB;split
 . rfl
 . dsimp only;split
   . rfl
   . exact tv hx
theorem uA {N:List Int} {u:Int} (hu:cK u):∀ (R:List Int),(∀ v∈R,cK v)->(aU N R).lookup (aP u)=if u∈R then some (cn N u) else none:=by
 intro R;induction R with
 | nil=>intro _;rfl
 | cons v R ih =>
   intro hv;show List.lookup (aP u) ((aP v,cn N v)::aU N R)=_;rw [List.lookup_cons];by_cases e:u=v
   . clear hv;subst e;simp
   . have:(aP u==aP v)=false:=beq_eq_false_iff_ne.mpr λq=>e (lM hu (hv v (.head _)) q);rw [this,ih λx hx=>hv x (.tail _ hx)];simp [e]
theorem ur {Sc N D:List Int} (h:xj Sc N D) (hN:N.length<=60) {u:Int} (hu:cK u) :
   bH (aU N Sc++cV) (aU N D,aU N N) (aP u)=(aU (bB Sc (N,D) u).1 (bB Sc (N,D) u).2,aU (bB Sc (N,D) u).1 (bB Sc (N,D) u).1)/\jE (aU N Sc++cV) (aU N D,aU N N) (aP u)=cn (bB Sc (N,D) u).1 u/\u∈(bB Sc (N,D) u).1:=by
 have hall:∀ v∈D++Sc,cK v/\v∈N:=λv hv=>by
   have:v∈N:=(List.mem_append.mp hv).elim (h.dn v) (h.sc v);exact ⟨h.val v this,this⟩
 unfold bH jE bB;dsimp only;rw [<-List.append_assoc,<-dG];by_cases hm:u∈D\/u∈Sc
 . have hm2:u∈D++Sc:=List.mem_append.mpr hm;rw [mO hN hu (hall u hm2).2 _ [] hall (by simp) hm2,if_pos hm]
   exact ⟨rfl,rfl,(hall u hm2).2⟩
 . rw [qV hu _ [] (λv hv=>(hall v hv).1) (by simpa using hm),if_neg hm]
   unfold dI jm;dsimp only;rw [uA hu N h.val];by_cases hn:u∈N
   . rw [if_pos hn,if_pos hn];refine ⟨?_,rfl,hn⟩;rw [dG];rfl
   . rw [if_neg hn,if_neg hn];have e:ofString "n"++ofString (toString ((aU N N).length:Int))=cn (N++[u]) u:=by
       rw [yi hn,aU,List.length_map];rfl
     refine ⟨?_,?_,by simp⟩
     . rw [if_neg (by decide)]
       rw [dG,dG,pc h.dn,pc (λx hx=>hx)];dsimp only;rw [e];rfl
     . show (none:Option Str).getD _=_;rw [Option.getD_none];exact e
noncomputable def gM (p:Int × Nat):Tg:=(bq p.1,p.2)
theorem mH {Sc:List Int}:∀ (us:List Int) (st:List Int × List Int),(∀ u∈us,cK u)->xj Sc st.1 st.2->xj Sc (aS Sc us st).1 (aS Sc us st).2:=by
 intro us;induction us with
 | nil=>intro st _ h;exact h
 | cons u us ih=>intro st hu h;exact ih _ (λx hx=>hu x (.tail _ hx)) (h.step (hu u (.head _)))
theorem kI (Sc:List Int):∀ (us:List Int) (st:List Int × List Int),(aS Sc us st).1.length<=st.1.length+us.length/\(aS Sc us st).2.length<=st.2.length+us.length:=by
 intro us;induction us with
 | nil=>intro st;exact ⟨Nat.le_refl _,Nat.le_refl _⟩
 | cons u us ih =>
   intro st;have h1:=mE Sc st u;have h2:=ih (bB Sc st u);show (aS Sc us (bB Sc st u)).1.length<=_/\(aS Sc us (bB Sc st u)).2.length<=_;rw [List.length_cons];lia
theorem qL (Sc:List Int):∀ (us:List Int) (st:List Int × List Int),(∀ x∈st.1,x∈(aS Sc us st).1)/\(∀ x∈st.2,x∈(aS Sc us st).2):=by
 intro us;induction us with
 | nil=>intro st;exact ⟨λ_ h=>h,λ_ h=>h⟩
 | cons u us ih =>
   intro st;have h1:=mG Sc st u;have h2:=ih (bB Sc st u);exact ⟨λx hx=>h2.1 x (h1.1 x hx),λx hx=>h2.2 x (h1.2 x hx)⟩
theorem kJ (Sc:List Int):∀ (us:List Int) (st:List Int × List Int) {x:Int},x∈st.1->cn (aS Sc us st).1 x=cn st.1 x:=by
 intro us;induction us with
 | nil=>intro st x _;rfl
 | cons u us ih =>
   intro st x hx;show cn (aS Sc us (bB Sc st u)).1 x=_;rw [ih _ ((mG Sc st u).1 x hx),mF Sc st u hx]
theorem t8 {Sc:List Int} {st:List Int × List Int} {u:Int} {R:List Int} (h:∀ x∈R,x∈st.1):aU (bB Sc st u).1 R=aU st.1 R:=List.map_congr_left λx hx=>by rw [mF Sc st u (h x hx)]
theorem wx {Sc:List Int}:∀ (ps:List (Int × Nat)) (N D:List Int),xj Sc N D->N.length+ps.length<=60->(∀ p∈ps,cK p.1) ->
   b6 (aU N Sc++cV) (ps.map gM) (aU N D,aU N N)=(aU (aS Sc (ps.map (·.1)) (N,D)).1 (aS Sc (ps.map (·.1)) (N,D)).2,aU (aS Sc (ps.map (·.1)) (N,D)).1 (aS Sc (ps.map (·.1)) (N,D)).1) /\
   ∀ q∈ps,qF (aU N Sc++cV) (ps.map gM) (aU N D,aU N N) (gM q)=cn (aS Sc (ps.map (·.1)) (N,D)).1 q.1:=by
 intro ps;induction ps with
 | nil=>intro N D _ _ _;exact ⟨rfl,λq hq=>nM hq⟩
 | cons p ps ih =>
   intro N D h hl hv;rw [List.length_cons] at hl;have hp:=hv p (.head _);refine qS (ur h (yG hl rfl) hp) λe1 e2 e3=>?_;have h':=h.step hp;have hlen:=mE Sc (N,D) p.1;have i:=ih _ _ h' (by dsimp only at hlen ⊢;lia) λq hq=>hv q (.tail _ hq)
   have eF:aU (bB Sc (N,D) p.1).1 Sc=aU N Sc:=t8 h.sc;rw [eF] at i;rw [List.map_cons (f:=λx:Int × Nat=>x.1),eQ];refine ⟨?_,λq hq=>?_⟩
   . show b6 (aU N Sc++cV) (ps.map gM) (bH (aU N Sc++cV) (aU N D,aU N N) (aP p.1))=_;rw [e1];exact i.1
   . rw [List.map_cons,qF];show (if gM p=gM q then jE (aU N Sc++cV) (aU N D,aU N N) (aP p.1) else qF (aU N Sc++cV) (ps.map gM) (bH (aU N Sc++cV) (aU N D,aU N N) (aP p.1)) (gM q))=_
     split
     . rename_i e;have e4:p.1=q.1:=iL hp (hv q hq) (congrArg Prod.fst e);have e5:=kJ Sc (ps.map (·.1)) (bB Sc (N,D) p.1) (x:=p.1) e3
       rw [<-e4,e5];exact e2
     . rename_i e;have hq':q∈ps:=(List.mem_cons.mp hq).resolve_left λx=>e (by rw [x])
       rw [e1];exact i.2 q hq'
structure gL where
 N:List Int
 S:List (Int × List Int)
 page:List Str
 data:List Str
noncomputable def sc (S:List (Int × List Int)):List Int:=S.flatMap (·.2)
noncomputable def rC (c:Int):Int:=4096+c % 4096
noncomputable def kC (c:Int):Int:=c / 4096*4096
noncomputable def au (c:Int):List Int:=[c,rC c,kC c]
theorem cK.used {c:Int} (h:cK c):∀ u∈au c,cK u:=by
 intro u hu;refine bh h λh0 h1=>?_;simp only [au,rC,kC,List.mem_cons,List.not_mem_nil,or_false] at hu;rcases hu with rfl | rfl | rfl<;>(unfold cK;lia)
noncomputable def f5 (N:List Int) (c:Int) (v1 v2:Str):List (Str × Str) :=
 if rC c < kC c then [(qn (cn N (rC c)) 114,v1),(qn (cn N (kC c)) 107,v2)] else [(qn (cn N (kC c)) 107,v2),(qn (cn N (rC c)) 114,v1)]
noncomputable def eV (N D:List Int) (c:Int) (v1 v2:Str):List Str :=
 [ofString "<"++qn (cn N c) 102,Txt.join (ofString "") ((ck (D.map λu=>(ofString "xmlns:"++cn N u,aP u))++f5 N c v1 v2).map bI),ofString ">"]
noncomputable def m8:Str:=Txt.mul (ofString "&<>\"\t\n\ra") 3
noncomputable def dU (i:Int):Str:=Txt.slice m8 (some i) (some (i+9))
noncomputable def dK (st:gL):gL:=⟨st.N,st.S.tail,st.page++st.data.map fk++[cX (cn st.N ((st.S.map (·.1)).headD 0))],[]⟩
noncomputable def g8 (c:Int):Nat->gL->gL
 | 0,st=>st
 | k+1,st=>if decide (c < (st.S.map (·.1)).headD (-1)) then g8 c k (dK st) else st
noncomputable def gf (st:gL) (c turn:Int):gL :=
 ⟨(aS (sc st.S) (sortI (au c)) (st.N,[])).1,(c,(aS (sc st.S) (sortI (au c)) (st.N,[])).2)::st.S,
  st.page++st.data.map fk++eV (aS (sc st.S) (sortI (au c)) (st.N,[])).1 (aS (sc st.S) (sortI (au c)) (st.N,[])).2 c (dU turn) (dU (turn+1)),[dU (turn+2)]⟩
noncomputable def B7:List (Int × List Int)->Prop
 | []=>True
 | p::r=>(p.1∈p.2++sc r/\cK p.1)/\B7 r
structure kE (st:gL) (i:Nat):Prop where
 nok:xj (sc st.S) st.N []
 own:B7 st.S
 nlen:st.N.length<=3*i
 slen:st.S.length<=i
 dlen:(sc st.S).length<=3*i
 each:∀ p∈st.S,p.2.length<=3
 plen:st.page.length+2*st.S.length+st.data.length<=6*i
theorem kE.end {N:List Int} {p:Int × List Int} {r:List (Int × List Int)} {page data:List Str} {i:Nat} (h:kE ⟨N,p::r,page,data⟩ i):kE (dK ⟨N,p::r,page,data⟩) i:=by
 have h1:=h.plen;have h2:=h.slen;have h3:=h.dlen;have h4:=h.nok;simp only [List.length_cons] at h1 h2;refine ⟨⟨h4.val,h4.nd,λu hu=>h4.sc u ?_,λ_ hx=>nM hx⟩,h.own.2,h.nlen,?_,?_,λq hq=>h.each q (.tail _ hq),?_⟩
 . show u∈p.2++sc r;exact List.mem_append_right _ hu
 . show r.length<=i;exact J8 h2
 . have:(sc (p::r)).length=p.2.length+(sc r).length:=List.length_append;show (sc r).length<=3*i;dsimp only at h3;lia
 . simp only [dK,List.length_append,List.length_map,List.tail_cons,List.length_cons,List.length_nil];lia
theorem qJ {Sc:List Int}:∀ (us:List Int) (st:List Int × List Int),∀ u∈us,u∈(aS Sc us st).2\/u∈Sc:=by
 intro us;induction us with
 | nil=>intro st u hu;cases hu
 | cons v us ih =>
   intro st u hu;rw [eQ];rcases List.mem_cons.mp hu with rfl | hu
   . have h:u∈(bB Sc st u).2\/u∈Sc:=by
       unfold bB;split
       . rename_i h;exact h
       . exact .inl (by simp)
     exact h.imp (λh=>(qL Sc us _).2 u h) id
   . exact ih _ u hu
theorem jo (c:Int):(sortI (au c)).length=3:=(sortI_perm _).length_eq
theorem kE.start {st:gL} {i:Nat} (h:kE st i) {c turn:Int} (hc:cK c):kE (gf st c turn) (i+1):=by
 have h1:=h.plen;have h2:=h.slen;have h3:=h.dlen;have h4:=h.nlen;have hu:∀ u∈sortI (au c),cK u:=λu hu=>hc.used u ((sortI_perm _).mem_iff.mp hu);have ok:=mH (sortI (au c)) (st.N,[]) hu h.nok;have hl:=kI (sc st.S) (sortI (au c)) (st.N,[]);have hm:=qJ (Sc:=sc st.S) (sortI (au c)) (st.N,[]) c ((sortI_perm _).mem_iff.mpr (.head _));rw [jo] at hl;refine ⟨⟨ok.val,ok.nd,λu hu=>?_,λ_ hx=>nM hx⟩,⟨⟨?_,hc⟩,h.own⟩,?_,?_,?_,λq hq=>?_,?_⟩
 . have hu:u∈(aS (sc st.S) (sortI (au c)) (st.N,[])).2++sc st.S:=hu;exact (List.mem_append.mp hu).elim (ok.dn u) (ok.sc u)
 . exact List.mem_append.mpr hm
 . show (aS (sc st.S) (sortI (au c)) (st.N,[])).1.length<=_;have:=hl.1;dsimp only at this;lia
 . show st.S.length+1<=i+1;lia
 . have:(sc (gf st c turn).S).length=(aS (sc st.S) (sortI (au c)) (st.N,[])).2.length+(sc st.S).length:=List.length_append;have:=hl.2;simp only [List.length_nil] at this;lia
 . rcases List.mem_cons.mp hq with rfl | hq
   . have:=hl.2;simp only [List.length_nil] at this;dsimp only;exact BM this
   . exact h.each q hq
 . simp only [gf,eV,List.length_append,List.length_map,List.length_cons,List.length_nil];lia
theorem kE.pop (c:Int) {i:Nat}:∀ (k:Nat) (st:gL),k<=st.S.length->kE st i->kE (g8 c k st) i:=by
 intro k;induction k with
 | zero=>intro st _ h;exact h
 | succ k ih =>
   intro st hk h;rw [g8];split
   . obtain ⟨N,S,page,data⟩:=st;cases S with
     | nil=>simp at hk
     | cons p r=>exact ih _ (by simpa [dK] using hk) h.end
   . exact h
theorem yT (f:Nat->Nat->Bool):cU f 2=if f 1 0 then [1,0] else [0,1]:=by
 have h:=cq (f:=f) (g:=uN (f 0 1) false (f 1 0) false false false) (m:=2) (by decide) λi j hi hj ne=>by
   rcases (show i=0\/i=1 by lia) with rfl | rfl<;>rcases (show j=0\/j=1 by lia) with rfl | rfl<;>first | rfl | exact absurd rfl ne
 rw [h];have key:∀ a c:Bool,cU (uN a false c false false false) 2=if c then [1,0] else [0,1]:=by decide +kernel
 rw [key]
theorem zz (a b:Str × Str):ck [a,b]=if eC b a then [b,a] else [a,b]:=by
 unfold ck eE;show (cU _ 2).map _=_;rw [yT];show (if eC b a=true then [1,0] else [0,1]).map _=_
 split<;>rfl
theorem yr {us vs:List Nat} {t u:Nat} (h:us.length=vs.length):(aT us t).cps.toList < (aT vs u).cps.toList ↔ us < vs\/(us=vs/\t < u):=by
 show 123::us++[125,t] < 123::vs++[125,u] ↔ _;rw [gB (by simp [h])]
 simp [List.cons_lt_cons_iff,List.lt_irrefl]
theorem qf {Sc N:List Int} (h:xj Sc N []) (hl:N.length+3<=60) {c:Int} (hc:cK c) {ts:List Tg} (hp:ts.Perm [(bq c,102),(bq (rC c),114),(bq (kC c),107)]) (hw:ts.Pairwise eH) (v1 v2:Str) :
   b6 (aU N Sc++cV) ts ([],aU N N)=(aU (aS Sc (sortI (au c)) (N,[])).1 (aS Sc (sortI (au c)) (N,[])).2,aU (aS Sc (sortI (au c)) (N,[])).1 (aS Sc (sortI (au c)) (N,[])).1) /\
   gv (aU N Sc++cV) ts (aU N N) (bq c) (bq (rC c)) (bq (kC c)) v1 v2=eV (aS Sc (sortI (au c)) (N,[])).1 (aS Sc (sortI (au c)) (N,[])).2 c v1 v2:=by
 refine ap (pP (f:=gM) hp [(c,102),(rC c,114),(kC c,107)] rfl) λtu pu z0_=>?_;clear hp;obtain rfl:=z0_;have hv:∀ p∈tu,cK p.1:=λp hm=>by
   have:=pu.mem_iff.mp hm;have hu:=hc.used;rcases gq this with rfl | rfl | rfl
   . exact hc
   . exact hu _ (by simp [au])
   . exact hu _ (by simp [au])
 have es:tu.map (·.1)=sortI (au c):=by
   refine eq_sortI (pu.map _) ?_;rw [List.pairwise_map] at hw ⊢;refine List.Pairwise.imp_of_mem (λ{a b} ha hb hab=>?_) hw;rcases hab with hab | ⟨hab,_⟩
   . exact Int.le_of_lt ((iM (hv a ha) (hv b hb)).mp hab)
   . exact Int.le_of_eq (iL (hv a ha) (hv b hb) hab)
 have hlen:tu.length=3:=pu.length_eq;refine bh (wx tu N [] h (by lia) hv) λe1 e2=>?_
 rw [es] at e1 e2;generalize hst:aS Sc (sortI (au c)) (N,[])=r at e1 e2 ⊢;refine ⟨e1,?_⟩;have m:∀ q∈[(c,102),(rC c,114),(kC c,107)],qF (aU N Sc++cV) (tu.map gM) ([],aU N N) (gM q)=cn r.1 q.1:=λq hq=>e2 q (pu.mem_iff.mpr hq);have m1:=m (c,102) (.head _);have m2:=m (rC c,114) (.tail _ (.head _));have m3:=m (kC c,107) (bF 2 rfl);have e1':b6 (aU N Sc++cV) (tu.map gM) ([],aU N N)=(aU r.1 r.2,aU r.1 r.1):=e1;have ne:aT (bq (kC c)) 107≠aT (bq (rC c)) 114:=fS rfl rfl (by decide)
 have hpl:eC (aT (bq (kC c)) 107,v2) (aT (bq (rC c)) 114,v1)=!decide (rC c < kC c):=by
   unfold eC;dsimp only;rw [if_neg ne,Bool.eq_iff_iff,decide_eq_true_eq,yr (us:=bq (kC c)) (vs:=bq (rC c)) rfl,Bool.not_eq_true',decide_eq_false_iff_not];have hr:=hc.used (rC c) (by simp [au])
   have hk:=hc.used (kC c) (by simp [au])
   rw [iM hk hr];constructor
   . rintro (h | ⟨h,_⟩)
     . lia
     . have:=iL hk hr h;lia
   . intro h;by_cases e:kC c=rC c
     . exact .inr ⟨by rw [e],by decide⟩
     . exact .inl (by lia)
 have k1:gW (bq (rC c)) (bq (kC c)) (aT (bq (rC c)) 114)=gM (rC c,114):=if_pos rfl;have k2:gW (bq (rC c)) (bq (kC c)) (aT (bq (kC c)) 107)=gM (kC c,107):=if_neg ne;have ha:dy (aU N Sc++cV) (tu.map gM) (aU N N) (bq (rC c)) (bq (kC c)) v1 v2=ck (r.2.map λu=>(ofString "xmlns:"++cn r.1 u,aP u))++f5 r.1 c v1 v2:=by
   unfold dy f5;rw [e1',zz,hpl];congr 1
   . dsimp only [aU];rw [List.map_map];rfl
   . by_cases hlt:rC c < kC c
     . rw [if_pos hlt,decide_eq_true hlt,if_neg (by decide)]
       simp only [List.map_cons,List.map_nil,k1,k2,m2,m3];rfl
     . rw [if_neg hlt,decide_eq_false hlt,if_pos (by decide)]
       simp only [List.map_cons,List.map_nil,k1,k2,m2,m3];rfl
 unfold gv eV;rw [ha];have:qF (aU N Sc++cV) (tu.map gM) ([],aU N N) (bq c,102)=cn r.1 c:=m1;rw [this]
theorem pH:∀ i:Nat,i < 61->(rH i).length<=10/\(rH i).length≠0:=by decide +kernel
theorem kz {N:List Int} (hN:N.length<=60) (u:Int):(cn N u).length<=100/\(cn N u).length≠0:=by
 have h:N.idxOf u<=N.length:=List.idxOf_le_length;have:=pH (N.idxOf u) (J0 h hN rfl);exact ⟨by have:=this.1;show (rH _).length<=100;lia,this.2⟩
theorem fC {u:List Nat} {y:Nat} (h:y∉u) (z:Str):b7 ⟨#[y]⟩ z (bd u)=bd u:=by
 unfold b7;have:Txt.contains (bd u) ⟨#[y]⟩=decide (y∈(bd u).cps.toList):=StrLaws.found_one (bd u) y;have hd:decide (y∈(bd u).cps.toList)=false:=decide_eq_false h;rw [this,hd];rfl
theorem xS:ofString "&"=⟨#[38]⟩:=by kernel_rfl!
theorem zd:ofString "<"=⟨#[60]⟩:=by kernel_rfl!
theorem wn:ofString "\""=⟨#[34]⟩:=by kernel_rfl!
theorem xT:ofString "\t"=⟨#[9]⟩:=by kernel_rfl!
theorem zc:ofString "\n"=⟨#[10]⟩:=by kernel_rfl!
theorem zb:ofString "\r"=⟨#[13]⟩:=by kernel_rfl!
theorem bv {c:Int} (hc:cK c) (z:Str):b7 (ofString "&") z (aP c)=aP c/\b7 (ofString "<") z (aP c)=aP c/\b7 (ofString "\"") z (aP c)=aP c/\b7 (ofString "\t") z (aP c)=aP c/\b7 (ofString "\n") z (aP c)=aP c/\b7 (ofString "\r") z (aP c)=aP c:=by
 have h:∀ y,y∉[45,63,98,99,100,108,112,115,83,84,116,120,114,119]->y∉bq c:=λy hy hm=>hy (lL hc y hm);rw [xS,zd,wn,xT,zc,zb];exact ⟨fC (h _ (by decide)) z,fC (h _ (by decide)) z,fC (h _ (by decide)) z,fC (h _ (by decide)) z,fC (h _ (by decide)) z,fC (h _ (by decide)) z⟩
theorem o7 {c:Int} (hc:cK c):o6 (aP c)=aP c:=by
 unfold o6;rw [(bv hc _).1,(bv hc _).2.1,(bv hc _).2.2.1,(bv hc _).2.2.2.1,(bv hc _).2.2.2.2.1,(bv hc _).2.2.2.2.2]
theorem iN (c:Int):(aP c).length=10:=by show (bq c).toArray.size=10;rw [List.size_toArray,pT]
theorem iy {c:Int} (hc:cK c):bT (aP c):=by
 have h:=iN c;refine ⟨u0 h rfl,?_,?_,?_,?_,?_,by rw [o7 hc];exact u0 h rfl⟩
 . rw [(bv hc _).1];exact u0 h rfl
 . rw [(bv hc _).1,(bv hc _).2.1];exact u0 h rfl
 . rw [(bv hc _).1,(bv hc _).2.1,(bv hc _).2.2.1];exact u0 h rfl
 . rw [(bv hc _).1,(bv hc _).2.1,(bv hc _).2.2.1,(bv hc _).2.2.2.1];exact u0 h rfl
 . rw [(bv hc _).1,(bv hc _).2.1,(bv hc _).2.2.1,(bv hc _).2.2.2.1,(bv hc _).2.2.2.2.1];exact u0 h rfl
noncomputable def yJ (x:Str):Bool:=x.length<=10000 && (b7 (ofString "&") (ofString "&amp;") x).length<=10000 && (b7 (ofString "<") (ofString "&lt;") (b7 (ofString "&") (ofString "&amp;") x)).length<=10000 &&
 (b7 (ofString "\"") (ofString "&quot;") (b7 (ofString "<") (ofString "&lt;") (b7 (ofString "&") (ofString "&amp;") x))).length<=10000 &&
 (b7 (ofString "\t") (ofString "&#x9;") (b7 (ofString "\"") (ofString "&quot;") (b7 (ofString "<") (ofString "&lt;") (b7 (ofString "&") (ofString "&amp;") x)))).length<=10000 &&
 (b7 (ofString "\n") (ofString "&#xA;") (b7 (ofString "\t") (ofString "&#x9;") (b7 (ofString "\"") (ofString "&quot;") (b7 (ofString "<") (ofString "&lt;") (b7 (ofString "&") (ofString "&amp;") x))))).length<=10000 && (o6 x).length<=10000 &&
 (b7 (ofString ">") (ofString "&gt;") (b7 (ofString "<") (ofString "&lt;") (b7 (ofString "&") (ofString "&amp;") x))).length<=10000 && x.length != 0 && (fk x).length<=10000
theorem vO:∀ i:Nat,i < 10->yJ (dU i)=true:=by decide +kernel
theorem fn {i:Int} (h0:0<=i) (h:i < 10):bT (dU i)/\qH (dU i)/\(fk (dU i)).length<=10000:=by
 refine ap (dj (x:=i) (b:=10) h0 h) λk hk z0_=>?_;clear h0 h;obtain rfl:=z0_;have:=vO k hk;simp only [yJ,Bool.and_eq_true,decide_eq_true_eq,bne_iff_ne] at this;refine bh this λz1_ o=>?_;refine bh z1_ λz2_ m=>?_;obtain ⟨⟨⟨⟨⟨⟨⟨a,b⟩,d⟩,e⟩,f⟩,g⟩,j⟩,l⟩:=z2_;exact ⟨⟨a,b,d,e,f,g,j⟩,⟨a,b,d,l,m⟩,o⟩
theorem oA (u:Int):(ofString "{"++aP u++ofString "}f"=aT (bq u) 102/\ofString "{"++aP u++ofString "}r"=aT (bq u) 114)/\ofString "{"++aP u++ofString "}k"=aT (bq u) 107:=by
 have a:ofString "{"=⟨#[123]⟩:=by kernel_rfl!
 have b:ofString "}f"=⟨#[125,102]⟩:=by kernel_rfl!
 have d:ofString "}r"=⟨#[125,114]⟩:=by kernel_rfl!
 have e:ofString "}k"=⟨#[125,107]⟩:=by kernel_rfl!
 rw [a,b,d,e];have key:∀ t:Nat,(⟨#[123]⟩:Str)++aP u++⟨#[125,t]⟩=aT (bq u) t:=λt=>by
   show (⟨(#[123]++(bq u).toArray)++#[125,t]⟩:Str)=⟨(123::bq u++[125,t]).toArray⟩;congr 1
 exact ⟨⟨key _,key _⟩,key _⟩
theorem j8 {S:List (Int × List Int)} {N:List Int} {frs:List (Addr × bg)} (h:frs.map (·.2)=cV::(S.reverse.map λp=>aU N p.2)):aD frs=aU N (sc S)++cV:=by
 have:aD frs=((frs.map (·.2)).reverse).flatten:=by
   unfold aD;rw [List.flatMap_def,<-List.map_reverse]
 rw [this,h,List.reverse_cons,List.flatten_append,List.map_reverse,List.reverse_reverse];simp only [List.flatten_cons,List.flatten_nil,List.append_nil];congr 1;unfold sc aU;rw [List.flatMap_def,List.map_flatten,List.map_map];rfl
theorem yE:∀ p∈cV,p.2.length<=100/\p.2.length≠0:=by
 intro p hp;rw [cV,List.mem_singleton] at hp;subst hp;exact ⟨by decide +kernel,by decide +kernel⟩
theorem lg {N D:List Int} (hN:N.length<=60):∀ p∈aU N D,p.2.length<=100/\p.2.length≠0:=by
 intro p hp;refine ap (List.mem_map.mp hp) λu _ z3_=>?_;clear hp;obtain rfl:=z3_;exact kz hN u
theorem vP {st:gL} {i:Nat} (h:kE st i) (hi:i<=15) {frs:List (Addr × bg)} (hf:frs.map (·.2)=cV::(st.S.reverse.map λp=>aU st.N p.2)):ik frs [] (aU st.N st.N) 3/\zG frs (aU st.N st.N):=by
 have h1:=h.nlen;have h3:=h.dlen;have e1:∀ p∈aD frs,p.2.length<=100/\p.2.length≠0:=by
   rw [j8 hf];intro p hp;exact (List.mem_append.mp hp).elim (lg (xg h1 hi rfl) p) (yE p)
 have e2:(aD frs).length<=3*i+1:=by
   rw [j8 hf,List.length_append,aU,List.length_map];show (sc st.S).length+1<=_;lia
 have e3:∀ p∈frs,p.2.length<=2000:=by
   intro p hp;have:p.2∈frs.map (·.2):=List.mem_map.mpr ⟨p,hp,rfl⟩
   rw [hf] at this;refine Or.elim (List.mem_cons.mp this) (λe=>?_) λe=>?_
   . rw [e];decide
   . refine ap (List.mem_map.mp e) λq hq e=>?_;have:=h.each q (List.mem_reverse.mp hq);rw [<-e,aU,List.length_map];exact J1 this rfl
 have e4:(aU st.N st.N).length<=45:=by rw [aU,List.length_map];exact xg h1 hi rfl
 exact ⟨⟨e1,(λ_ hx=>nM hx),lg (xg h1 hi rfl),by simp only [List.length_nil];lia,e3,by lia⟩,⟨e1,lg (xg h1 hi rfl),by lia,e3,J1 e4 rfl⟩⟩
theorem d9.keep {pos:Pos} {q:Str} {σ σ':aa} {ch:List Addr} (h:d9 pos q σ) (k:aI ch σ σ') (hr:∀ x f,(x,.raw f)∈σ->x∉ch):d9 pos q σ':=by
 rcases h with h | ⟨c',h1,h2⟩
 . exact .inl (k _ h (hr _ _ h))
 . exact .inr ⟨c',k _ h1 (hr _ _ h1),k _ h2 (hr _ _ h2)⟩
structure TI (W:f8) (ia ma:Addr) (ms:List Int) (st:gL) (σ:aa):Prop where
 ex:∃ frs seen dn,WS W frs (aU st.N st.N) st.page st.data (st.S.length+1) seen dn σ/\frs.map (·.2)=cV::(st.S.reverse.map λp=>aU st.N p.2)/\xp st.data seen/\∀ p∈frs,p.1≠ia/\p.1≠ma
 ins:(ia,.list (st.S.reverse.map λp=>.str (aP p.1)))∈σ
 mds:(ma,.list (ms.map .int))∈σ
 lam:d9 dO jV σ
 ne:ia∉177::WL W/\ma∉177::WL W/\ia≠ma
theorem TI.mono {W:f8} {ia ma:Addr} {ms:List Int} {st:gL} {σ σ':aa} (T:TI W ia ma ms st σ) (k:∀ p∈σ,p∈σ'):TI W ia ma ms st σ':=by
 refine md T.ex λfrs seen dn ws h1=>?_;exact ⟨⟨frs,seen,dn,ws.mono k,h1⟩,k _ T.ins,k _ T.mds,T.lam.mono k,T.ne⟩
noncomputable abbrev tB:List Stmt:=bG (bu 36)
noncomputable abbrev mx (c:Cx):Env:=envOf (ofString "_law_told") (aE (bu 36)) c.L 236 (.ref 235)
noncomputable def MF (o:Expr) (name:Str) (apos pos:Pos) (args:List Expr) (env:Env):Prop:=eval (.Call (.Attribute o name apos) args [] pos) env=(do
 let ov <-eval o env
 standAt apos.atName
 let (f,first) <-holding [ov] (getMethod ov name (do return (<-importBound o env).getD true))
 callWith pos f first (backTo pos (starEach args env)) [])
noncomputable abbrev Bn (p4 p5 p6:Pos):Expr:=.Call (.Attribute (.Name (ofString "inside") p4) (ofString "pop") p5) [] [] p6
noncomputable abbrev y6 (k1 k2:Nat) (p3 p4 p5 p6 p7 p8 p9:Pos):Expr:=.BinOp (.BinOp (.Constant (.str (ofString "{")) k1 p3) .Add (Bn p4 p5 p6) p7) .Add (.Constant (.str (ofString "}f")) k2 p8) p9
theorem ql {c:Cx} {W:f8} {ia ma:Addr} {ms:List Int} {N:List Int} {p:Int × List Int} {r:List (Int × List Int)} {page data:List Str} {i:Nat} {σ:aa} {le:ak} {K:LF->ak->aa->Prop} {k1 k2:Nat} {p1 p2 p3 p4 p5 p6 p7 p8 p9 p10 p11:Pos}
   (T:TI W ia ma ms ⟨N,p::r,page,data⟩ σ) (ok:kE ⟨N,p::r,page,data⟩ i) (hi:i<=15) (H:aR le [(ofString "writer",.loc W.x),(ofString "inside",.loc ia)]) (h:∀ σ',TI W ia ma ms (dK ⟨N,p::r,page,data⟩) σ'->K .next le σ')
   (he1:MF (.Name (ofString "writer") p1) (ofString "end") p2 p10 [y6 k1 k2 p3 p4 p5 p6 p7 p8 p9] (mx c)) (he2:MF (.Name (ofString "inside") p4) (ofString "pop") p5 p6 [] (mx c))
   (hsw:swapsWith (.Call (.Attribute (.Name (ofString "writer") p1) (ofString "end") p2) [y6 k1 k2 p3 p4 p5 p6 p7 p8 p9] [] p10) none p11.line (mx c)=pure false) :
   WF 14 c (execs [.Expr (.Call (.Attribute (.Name (ofString "writer") p1) (ofString "end") p2) [y6 k1 k2 p3 p4 p5 p6 p7 p8 p9] [] p10) p11] (mx c)) le σ K:=by
 refine bA λnd=>?_;refine qT T.ex λfrs seen dn ws hf hw hne=>?_;have hN:N.length<=60:=by have:=ok.nlen;dsimp only at this;exact xg this hi rfl
 have hp:p.1∈p.2++sc r:=ok.own.1.1;have hvp:cK p.1:=ok.own.1.2;rw [List.reverse_cons,List.map_append,<-List.cons_append] at hf;refine bl (List.map_eq_append_iff.mp hf) λfr fl z4_ hfr hfl=>?_;obtain rfl:=z4_;obtain ⟨b,rfl⟩:∃ b,fl=[b]:=by
   have:=congrArg List.length hfl;rw [List.length_map] at this;exact lz this
 obtain ⟨a,l⟩:=b;simp only [List.map_cons,List.map_nil,List.cons.injEq,and_true] at hfl;clear hf;subst hfl;have hins:=T.ins;rw [List.reverse_cons,List.map_append] at hins;refine aH (Up.ex (o':=.list (r.reverse.map λp=>.str (aP p.1))) hins) λσ1 u1=>?_;have hlW:ia∉WL W:=λe=>T.ne.1 (.tail _ e);have hiF:ia∉WL W++(fr++[(a,aU N p.2)]).map (·.1):=by
   intro e;refine Or.elim (List.mem_append.mp e) (λe=>?_) λe=>?_
   . exact hlW e
   . refine ap (List.mem_map.mp e) λq hq e=>?_;exact (hne q hq).1 e
 have ws1:=ws.keep (aI.up u1) λx hx=>by rw [List.mem_singleton] at hx;clear T H h hne hins u1 hlW;subst hx;exact hiF
 have nraw:∀ x f,(x,.raw f)∈σ->x∉[ia]:=λx f hx e=>by
   rw [List.mem_singleton] at e;clear H h hne hins u1 hlW hiF;subst e;cases aJ nd hx T.ins
 have lam1:=T.lam.keep (aI.up u1) nraw;have nd1:(σ1.map (·.1)).Nodup:=by rw [u1.keys];exact nd
 have mds1:=u1.old T.mds (Ne.symm T.ne.2.2);have hfind:bx (bd (bq p.1)) (aU N p.2++aD fr) []=some (cn N p.1):=by
   have e1:aD fr=aU N (sc r)++cV:=j8 (S:=r) (by rw [List.map_reverse];rw [List.map_reverse] at hfr;exact hfr)
   have hall:∀ v∈p.2++sc r,v∈N:=λv hv=>ok.nok.sc v hv;rw [e1,<-List.append_assoc,<-dG];exact mO hN hvp (hall _ hp) _ [] (λv hv=>⟨ok.nok.val v (hall v hv),hall v hv⟩) (by simp) hp
 have hl2:=ok.slen;have hpl:=ok.plen;simp only [List.length_cons] at hl2 hpl;have hfl:fr.length=r.length+1:=by
   have:=congrArg List.length hfr;simpa using this
 refine ae ?_;refine a8 ?_ (by rfl) hsw
 refine aG ?_ he1;refine ac (H.get rfl) ?_;refine mX ws.inst ws.dict rfl (f:=187) (by kernel_rfl!) (by exact rfl) (by kernel_rfl!) (by kernel_rfl!) (af ?_)
 refine ah (ah (aB ?_));refine aG ?_ he2;refine ac (H.get rfl) ?_;have l10:=iN p.1;have lb:(ofString "{").length=1:=by decide +kernel
 have le':(ofString "}f").length=2:=by decide +kernel
 refine bi hins PySem.F.slot_list_pop PySem.F.type_list_pop (am (oL u1 (by simp;exact BU hl2 hi rfl) ?_))
 refine aO (by lia) (aB (aO (by rw [ay];lia) (am ?_)))
 rw [(oA p.1).1.1];refine bW (n:=8) (uF (fr:=fr) (a:=a) (l:=aU N p.2) (k:=r.length) ws1 hw (BU hl2 hi rfl) (by show page.length<=90000;lia) rfl (vP ok hi (frs:=fr++[(a,aU N p.2)]) (by rw [List.map_append,hfr,List.reverse_cons,List.map_append];rfl)).2 (by lia) hfind (kz hN _).1 λdn' σ2 k2 ws2=>⟨trivial,aw (h σ2 ?_)⟩) (by decide)
 have nW:∀ x f,(x,.raw f)∈σ1->x∉WL W:=λx f hx e=>ws1.raw_not nd1 hx (List.mem_append_left _ e);refine ⟨⟨fr,seen,dn',?_,?_,.inl rfl,λq hq=>hne q (List.mem_append_left _ hq)⟩,k2 _ u1.new hlW,k2 _ mds1 (λe=>T.ne.2.1 (.tail _ e)),lam1.keep k2 nW,T.ne⟩
 . exact ws2
 . exact hfr
structure mD (m c:Int):Prop where
 row:rV m=aP c
 rig:rV (Builtin.bitAnd m 4095)=aP (rC c)
 kin:rV (Builtin.bitAnd m 61440)=aP (kC c)
 val:cK c
theorem qX (m:Int):((eT m 0 cx).map (·.length)).sum<=1000:=by
 have hp:∀ (l:List (Int × Str)) (t:Int->Bool) (d:Str),d.length<=1->(∀ p∈l,p.2.length<=1)->(dm l t d).length<=1:=by
   intro l t d hd hl;unfold dm;cases e:l.find? (λp=>t p.1) with
   | none=>exact hd
   | some p=>exact hl p (List.mem_of_find?_eq_some e)
 have hd:∀ i,(gg i).length<=1:=by
   intro i;unfold gg;split<;>decide +kernel
 have ht:∀ t∈cx,∀ p∈t,p.2.length<=1:=by decide +kernel
 have hr:∀ (ts:List (List (Int × Str))) (i:Int),(∀ t∈ts,∀ p∈t,p.2.length<=1)->((eT m i ts).map (·.length)).sum<=ts.length:=by
   intro ts;induction ts with
   | nil=>intro i _;simp [eT]
   | cons t ts ih =>
     intro i h;have h1:=hp t (ev m i) (gg i) (hd i) (h t (.head _));have h2:=ih (i+1) λt' ht'=>h t' (.tail _ ht');rw [eT,List.map_cons,List.sum_cons,List.length_cons];lia
 have:=hr cx 0 ht;have e:cx.length=10:=by decide +kernel
 lia
noncomputable def di (shift:Int) (j:Nat):Int:=((j:Int)+shift).fmod 8
noncomputable def io (shift:Int):Nat->List Int->gL->gL
 | _,[],st=>st
 | j,c::cs,st=>io shift (j+1) cs (gf (g8 c st.S.length st) c (di shift j))
noncomputable def sI (st:gL):Prop:=(∀ x∈st.page,x.length<=70000)/\∀ x∈st.data,(fk x).length<=10000
theorem nH {p:Str} (h:p.length<=100):(cX p).length<=200:=by
 have a:(ofString "</").length=2:=by decide +kernel
 have b:(ofString ">").length=1:=by decide +kernel
 have:=hX h 102;unfold cX;rw [ay,ay];lia
theorem sI.end {st:gL} (h:sI st) (hN:st.N.length<=60):sI (dK st):=by
 refine ⟨λx hx=>?_,λx hx=>nM hx⟩;refine Or.elim (List.mem_append.mp hx) (λhx=>?_) λhx=>?_
 . refine Or.elim (List.mem_append.mp hx) (λhx=>?_) λhx=>?_
   . exact h.1 x hx
   . refine ap (List.mem_map.mp hx) λy hy z0_=>?_;obtain rfl:=z0_;have:=h.2 y hy;exact J1 this rfl
 . rw [List.mem_singleton] at hx;subst hx;have:=nH (kz hN ((st.S.map (·.1)).headD 0)).1;exact J1 this rfl
theorem lu (l:List Str):(Txt.join (ofString "") l).length=(l.map (·.length)).sum:=by
 have h:=PySem.size_glued (ofString "") l;have e:(ofString "").length=0:=by decide +kernel
 rw [e,Nat.mul_zero,Nat.add_zero] at h;exact h
theorem wH {N D:List Int} {c:Int} {v1 v2:Str} (hN:N.length<=60) (hD:D.length<=3) (hv:∀ u∈D,cK u) (h1:bT v1) (h2:bT v2):∀ x∈eV N D c v1 v2,x.length<=70000:=by
 have a:(ofString "<").length=1:=by decide +kernel
 have b:(ofString ">").length=1:=by decide +kernel
 have xl:(ofString "xmlns:").length=6:=by decide +kernel
 have hp:=λu=>(kz hN u).1;intro x hx;simp only [eV,List.mem_cons,List.not_mem_nil,or_false] at hx;rcases hx with rfl | rfl | rfl
 . have:=hX (hp c) 102;rw [ay];exact zM a this rfl
 . rw [lu,List.map_map];have hs:=eG (l:=D.map λu=>(ofString "xmlns:"++cn N u,aP u)) (by rw [List.length_map];exact hD)
   have hl2:(f5 N c v1 v2).length=2:=by unfold f5;split<;>rfl
   have hlen:(ck (D.map λu=>(ofString "xmlns:"++cn N u,aP u))++f5 N c v1 v2).length<=5:=by
     rw [List.length_append,hs.length_eq,List.length_map,hl2];lia
   have:=sg (f:=(λx:Str=>x.length) ∘ bI) (b:=12000) (l:=ck (D.map λu=>(ofString "xmlns:"++cn N u,aP u))++f5 N c v1 v2) (λy hy=>by
     refine jt ?_ ?_
     . refine Or.elim (List.mem_append.mp hy) (λhy=>?_) λhy=>?_
       . refine ap (List.mem_map.mp (hs.mem_iff.mp hy)) λu _ z1_=>?_;obtain rfl:=z1_;have:=hp u;dsimp only;rw [ay,xl];lia
       . have q1:=hX (hp (rC c)) 114;have q2:=hX (hp (kC c)) 107;unfold f5 at hy;split at hy<;>(simp only [List.mem_cons,List.not_mem_nil,or_false] at hy;rcases hy with rfl | rfl<;>(dsimp only;lia))
     . refine Or.elim (List.mem_append.mp hy) (λhy=>?_) λhy=>?_
       . refine ap (List.mem_map.mp (hs.mem_iff.mp hy)) λu hu z2_=>?_;obtain rfl:=z2_;exact iy (hv u hu)
       . unfold f5 at hy;split at hy<;>(simp only [List.mem_cons,List.not_mem_nil,or_false] at hy;rcases hy with rfl | rfl<;>assumption))
   have h5:(ck (D.map λu=>(ofString "xmlns:"++cn N u,aP u))++f5 N c v1 v2).length*12000<=5*12000:=Nat.mul_le_mul_right _ hlen;lia
 . rw [b];decide
theorem ip (shift:Int) (j:Nat):0<=di shift j/\di shift j < 8:=⟨Int.fmod_nonneg_of_pos _ (by decide),Int.fmod_lt_of_pos _ (by decide)⟩
theorem sI.start {st:gL} {i:Nat} (h:sI st) (ok:kE st i) (hi:i<=15) {c:Int} (hc:cK c) {t:Int} (ht:0<=t/\t < 8):sI (gf st c t):=by
 have hu:∀ u∈sortI (au c),cK u:=λu hu=>hc.used u ((sortI_perm _).mem_iff.mp hu);have ok2:=mH (sortI (au c)) (st.N,[]) hu ok.nok;have hl:=kI (sc st.S) (sortI (au c)) (st.N,[]);rw [jo] at hl;have hn:=ok.nlen;have hl1:=hl.1;have hl2:=hl.2;simp only [List.length_nil] at hl1 hl2;refine ⟨λx hx=>?_,λx hx=>?_⟩
 . refine Or.elim (List.mem_append.mp hx) (λhx=>?_) λhx=>?_
   . refine Or.elim (List.mem_append.mp hx) (λhx=>?_) λhx=>?_
     . exact h.1 x hx
     . refine ap (List.mem_map.mp hx) λy hy z3_=>?_;obtain rfl:=z3_;have:=h.2 y hy;exact J1 this rfl
   . exact wH (by lia) (BM hl2) (λu hu=>ok2.val u (ok2.dn u hu)) (fn (AS ht rfl) (AT ht rfl)).1 (fn (AA ht rfl) (AB ht rfl)).1 x hx
 . have hx:x∈[dU (t+2)]:=hx;rw [List.mem_singleton] at hx;subst hx;exact (fn (AA ht rfl) (AB ht rfl)).2.2
theorem sI.pop (c:Int) {i:Nat} (hi:i<=15):∀ (k:Nat) (st:gL),k<=st.S.length->kE st i->sI st->sI (g8 c k st):=by
 intro k;induction k with
 | zero=>intro st _ _ h;exact h
 | succ k ih =>
   intro st hk ok h;rw [g8];split
   . obtain ⟨N,S,page,data⟩:=st;cases S with
     | nil=>simp at hk
     | cons p r=>exact ih _ (by simpa [dK] using hk) ok.end (h.end (by have:=ok.nlen;exact xg this hi rfl))
   . exact h
noncomputable def Cf (s:Stmt):Expr:=(oO (some s)).1
noncomputable def Ce (s:Stmt):List Stmt:=(oO (some s)).2.1
noncomputable abbrev wY:Stmt:=bw tB 4
noncomputable abbrev Cc:Stmt:=bw (cy wY) 1
noncomputable abbrev An:Stmt:=bw tB 5
noncomputable def ge:Nat->gL->gL
 | 0,st=>st
 | k+1,st=>ge k (dK st)
theorem wP {d:Int} {k:Nat} {N:List Int} {p:Int × List Int} {r:List (Int × List Int)} {page data:List Str}:g8 d (k+1) ⟨N,p::r,page,data⟩=if decide (d < p.1) then g8 d k (dK ⟨N,p::r,page,data⟩) else ⟨N,p::r,page,data⟩:=rfl
set_option maxHeartbeats 0 in
theorem sk {c:Cx} {W:f8} {ia ma:Addr} {ms:List Int} {i:Nat} (hi:i<=15) {d:Int} (hd:cK d) {le:ak} {K:LF->ak->aa->Prop} (H:aR le [(ofString "writer",.loc W.x),(ofString "inside",.loc ia),(ofString "row",.str (aP d))]) :
   ∀ (k:Nat) (st:gL) (σ:aa),st.S.length=k->TI W ia ma ms st σ->kE st i->(∀ σ',TI W ia ma ms (g8 d k st) σ'->K .next le σ')->oR 14 c (Cf Cc) (Ce Cc) [] (mx c) K k le σ:=by
 intro k;induction k with
 | zero =>
   intro st σ hk T ok h;obtain ⟨N,S,page,data⟩:=st;obtain rfl:S=[]:=List.eq_nil_of_length_eq_zero hk;refine cQ ?_;refine aA (ac (H.get rfl) (ba (am ⟨av (by decide),λb hb=>?_⟩)))
   refine gG (.tail _ T.ins) (.head _) ⟨_,rfl,?_⟩;exact ⟨rfl,aw (h _ (T.mono λp hp=>.tail _ hp))⟩
 | succ k ih =>
   intro st σ hk T ok h;obtain ⟨N,S,page,data⟩:=st;cases S with
   | nil=>cases hk
   | cons p r =>
     refine cQ ?_;refine aA (ac (H.get rfl) (ba (am ⟨av (by decide),λb hb=>?_⟩)))
     refine gG (.tail _ T.ins) (.head _) ⟨_,rfl,?_⟩;have hne:(!(List.map (λp=>LV.str (aP p.1)) ({ N:=N,S:=p::r,page:=page,data:=data }:gL).S.reverse).isEmpty)=true:=by
       rw [List.isEmpty_eq_false_iff.mpr (by simp)];rfl
     rw [hne,if_pos rfl];have T1:=T.mono (σ':=(b,.list [])::σ) λp hp=>.tail _ hp;have hins:=T1.ins;rw [List.reverse_cons,List.map_append] at hins;refine cQ ?_;refine aA (aV (ac (H.get rfl) (cI (aq (fg (b8 hins ?_))))));refine ac (H.get rfl) (zj ⟨_,rfl,?_⟩);have hvp:cK p.1:=ok.own.1.2;have e:decide ((aP d).cps.toList < (aP p.1).cps.toList)=decide (d < p.1):=by
       have:(aP d).cps.toList < (aP p.1).cps.toList ↔ d < p.1:=iM hd hvp;rw [Bool.eq_iff_iff,decide_eq_true_eq,decide_eq_true_eq];exact this
     rw [e];rw [wP] at h;by_cases hlt:d < p.1
     . rw [decide_eq_true hlt,if_pos rfl];refine fW ?_;rw [if_pos rfl];refine ql T1 ok hi (H.sub ?_) (λσ' T'=>?_) (by rfl) (by rfl) (by rfl)
       . exact aR.add (aR.add (aR.nil_ _) rfl) rfl
       . refine ih (dK ⟨N,p::r,page,data⟩) σ' (by simpa [dK] using hk) T' ok.end λσ2 T2=>h σ2 ?_
         rw [decide_eq_true hlt,if_pos rfl];exact T2
     . rw [decide_eq_false hlt,if_neg Bool.false_ne_true];rw [if_neg Bool.false_ne_true];refine aw (h _ ?_);rw [decide_eq_false hlt,if_neg Bool.false_ne_true];exact T1
set_option maxHeartbeats 0 in
theorem sj {c:Cx} {W:f8} {ia ma:Addr} {ms:List Int} {i:Nat} (hi:i<=15) {le:ak} {K:LF->ak->aa->Prop} (H:aR le [(ofString "writer",.loc W.x),(ofString "inside",.loc ia)]) :
   ∀ (k:Nat) (st:gL) (σ:aa),st.S.length=k->TI W ia ma ms st σ->kE st i->(∀ σ',TI W ia ma ms (ge k st) σ'->K .next le σ')->oR 14 c (Cf An) (Ce An) [] (mx c) K k le σ:=by
 intro k;induction k with
 | zero =>
   intro st σ hk T ok h;obtain ⟨N,S,page,data⟩:=st;obtain rfl:S=[]:=List.eq_nil_of_length_eq_zero hk;refine aA (ac (H.get rfl) (ba (am ⟨av (by decide),λb hb=>?_⟩)))
   refine gG (.tail _ T.ins) (.head _) ⟨_,rfl,?_⟩;exact ⟨rfl,aw (h _ (T.mono λp hp=>.tail _ hp))⟩
 | succ k ih =>
   intro st σ hk T ok h;obtain ⟨N,S,page,data⟩:=st;cases S with
   | nil=>cases hk
   | cons p r =>
     refine aA (ac (H.get rfl) (ba (am ⟨av (by decide),λb hb=>?_⟩)))
     refine gG (.tail _ T.ins) (.head _) ⟨_,rfl,?_⟩;have hne:(!(List.map (λp=>LV.str (aP p.1)) ({ N:=N,S:=p::r,page:=page,data:=data }:gL).S.reverse).isEmpty)=true:=by
       rw [List.isEmpty_eq_false_iff.mpr (by simp)];rfl
     rw [hne,if_pos rfl];refine ql (T.mono λp hp=>.tail _ hp) ok hi H (λσ' T'=>?_) (by rfl) (by rfl) (by rfl)
     exact ih (dK ⟨N,p::r,page,data⟩) σ' (by simpa [dK] using hk) T' ok.end h
noncomputable abbrev qi (W:f8) (ia ma:Addr) (shift:Int):ak:=[(ofString "modes",.loc ma),(ofString "shift",.int shift),(ofString "signs",.str m8),(ofString "writer",.loc W.x),(ofString "inside",.loc ia),(ofString "page",.loc W.pg)]
theorem jn:m8.length<=1000000:=by decide +kernel
theorem aR.tail {le l:ak} {p:Str × LV} (h:aR le (p::l)) (e:l.lookup p.1=none):aR le l:=h.sub λx v hx=>by
 rw [List.lookup_cons];have:(x==p.1)=false:=beq_eq_false_iff_ne.mpr λq=>by rw [q,e] at hx;cases hx
 rw [this];exact hx
theorem uQ {c:Cx} {W:f8} {ia ma:Addr} {ms:List Int} {shift m d:Int} {j:Nat} {st:gL} {le:ak} {σ:aa} {K:LF->ak->aa->Prop} (hj:j < 15) (hm:ms[j]?=some m) (hc:mD m d) (T:TI W ia ma ms st σ) (ok:kE st j)
   (H:aR le ((ofString "place",.int j)::qi W ia ma shift)) (h:∀ le' σ',aR le' (qi W ia ma shift)->TI W ia ma ms (gf (g8 d st.S.length st) d (di shift j)) σ'->K .next le' σ') :
   WF 14 c (execs (cy wY) (mx c)) le σ K:=by
 refine bA λnd=>?_;have hx:(ms.map LV.int)[(j:Int).toNat]?=some (.int m):=by
   rw [List.getElem?_map,Int.toNat_natCast,hm];rfl
 have hj0:(0:Int)<=j:=sH;have hj1:(j:Int) < 2 ^ 63:=AR hj rfl;refine ae ?_;refine ax (aC ?_);refine bO (v:=.ref 92) (by kernel_rfl!) (λ_ _=>.val rfl) (eB (by exact rfl) (af ?_))
 refine aV (ac (H.get rfl) (ac (H.get rfl) (bz T.mds hj0 hj1 hx (am ?_))));refine bW (n:=4) (fi ?_ nd (qX m)) (by decide)
 rw [hc.row];have H1:=H.put (ofString "row") (.str (aP d));generalize an (ofString "row") (LV.str (aP d)) le=le1 at H1 ⊢;refine ae ?_;refine qB st.S.length ?_;refine sk (W:=W) (ia:=ia) (ma:=ma) (ms:=ms) (i:=j) (J5 hj rfl) hc.val (H1.sub ?_) _ st σ rfl T ok λσ1 T1=>?_
 . exact aR.add (aR.add (aR.add (aR.nil_ _) rfl) rfl) rfl
 have ok1:=kE.pop d st.S.length st (Nat.le_refl _) ok;generalize g8 d st.S.length st=st1 at T1 ok1 h;refine bA λnd1=>?_;refine ae ?_;refine ax (ah (ah (ac (H1.get rfl) (ac (H1.get rfl) (bZ (aq (jl (by decide) ?_)))))))
 have ht:=ip shift j;change WF 14 c _ (an (ofString "turn") (.int (di shift j)) le1) σ1 K;generalize di shift j=t at ht h ⊢;have H2:=H1.put (ofString "turn") (.int t);generalize an (ofString "turn") (LV.int t) le1=le2 at H2 ⊢;refine ae ?_;refine ax (l9 λmk hmk=>?_);have H3:=H2.put (ofString "marks") (.loc mk);generalize an (ofString "marks") (LV.loc mk) le2=le3 at H3 ⊢;have T2:=T1.mono (σ':=(mk,.dict [])::σ1) λp hp=>.tail _ hp;have nd2:(((mk,LO.dict [])::σ1).map (·.1)).Nodup:=by rw [List.map_cons];exact List.nodup_cons.mpr ⟨hmk,nd1⟩
 have lb:(ofString "{").length=1:=by decide +kernel
 have lr:(ofString "}r").length=2:=by decide +kernel
 have lk:(ofString "}k").length=2:=by decide +kernel
 have lf:(ofString "}f").length=2:=by decide +kernel
 have l10:=iN;refine aH (Up.ex (o':=.dict [(aT (bq (rC d)) 114,.str (dU t))]) (σ:=(mk,LO.dict [])::σ1) (.head _)) λσ3 u3=>?_;refine ae ?_;refine lZ ?_;refine dg ?_;refine ac (H3.get rfl) (bP (ac (H3.get rfl) (bP ?_)));refine ah (ac (H3.get rfl) (aq (bZ ⟨m8,some t,some (t+9),rfl,rfl,rfl,jn,?_⟩)));refine ac (H3.get rfl) ?_;refine ah (ah (aB (aC ?_)));refine bO (v:=.ref 92) (by kernel_rfl!) (λ_ _=>.val rfl) (eB (by exact rfl) (af ?_))
 refine aC ?_;refine bO (v:=.ref 45) (by kernel_rfl!) (λ_ _=>.val rfl) (eB (by exact rfl) (af ?_))
 refine aV (ac (H3.get rfl) (ac (H3.get rfl) (bz T2.mds hj0 hj1 hx (am ?_))));refine bW (n:=1) (iQ ?_ nd2) (by decide)
 refine am (bW (n:=4) (fi ?_ nd2 (qX _)) (by decide))
 rw [hc.rig];refine aO (by rw [lb,l10];decide) (aB (aO (by rw [ay,lb,l10,lr];decide) ?_))
 rw [(oA (rC d)).1.2];refine ⟨mk,[],aT (bq (rC d)) 114,σ3,rfl,rfl,u3,by simp,?_⟩
 have k3:∀ p∈σ1,p∈σ3:=λp hp=>u3.old (.tail _ hp) λe=>hmk (e ▸ List.mem_map.mpr ⟨p,hp,rfl⟩);have T3:=T1.mono k3;have nd3:(σ3.map (·.1)).Nodup:=by rw [u3.keys];exact nd2
 refine aH (Up.ex (o':=.dict [(aT (bq (rC d)) 114,.str (dU t)),(aT (bq (kC d)) 107,.str (dU (t+1)))]) u3.new) λσ4 u4=>?_;have efs:ce (aT (bq (kC d)) 107) (LV.str (dU (t+1))) [(aT (bq (rC d)) 114,LV.str (dU t))]=[(aT (bq (rC d)) 114,.str (dU t)),(aT (bq (kC d)) 107,.str (dU (t+1)))] :=
   dR (by simp [fS (us:=bq (kC d)) (vs:=bq (rC d)) (t:=107) (u:=114) rfl rfl (by decide)])
 refine ae ?_;refine lZ ?_;refine dg ?_;refine ac (H3.get rfl) (bP ?_);refine ah (ac (H3.get rfl) (aq (bZ ?_)));refine bP ?_;refine ah (ac (H3.get rfl) (aq (bZ ⟨m8,some (t+1),some (t+10),rfl,rfl,rfl,jn,?_⟩)));rw [show t+10=t+1+9 by lia]
 refine ac (H3.get rfl) ?_;refine ah (ah (aB (aC ?_)));refine bO (v:=.ref 92) (by kernel_rfl!) (λ_ _=>.val rfl) (eB (by exact rfl) (af ?_))
 refine aC ?_;refine bO (v:=.ref 52) (by kernel_rfl!) (λ_ _=>.val rfl) (eB (by exact rfl) (af ?_))
 refine aV (ac (H3.get rfl) (ac (H3.get rfl) (bz T3.mds hj0 hj1 hx (am ?_))));refine bW (n:=1) (gu ?_ nd3) (by decide)
 refine am (bW (n:=4) (fi ?_ nd3 (qX _)) (by decide))
 rw [hc.kin];refine aO (by rw [lb,l10];decide) (aB (aO (by rw [ay,lb,l10,lk];decide) ?_))
 rw [(oA (kC d)).2];refine ⟨mk,_,aT (bq (kC d)) 107,σ4,rfl,rfl,efs ▸ u4,by simp,?_⟩
 have k4:∀ p∈σ1,p∈σ4:=λp hp=>u4.old (k3 p hp) λe=>hmk (e ▸ List.mem_map.mpr ⟨p,hp,rfl⟩);have T4:=T1.mono k4;have nd4:(σ4.map (·.1)).Nodup:=by rw [u4.keys];exact nd3
 refine qT T1.ex λfrs seen dn ws hf hw hne=>?_;have ws4:=ws.mono k4;have hfit:=vP ok1 (J5 hj rfl) hf;have hv2:=hc.val.used;have vr:=hv2 (rC d) (by simp [au])
 have vk:=hv2 (kC d) (by simp [au])
 have no125:∀ {u:Int},cK u->∀ x∈bq u,x≠125:=λhu x hx e=>by
   subst e;exact absurd (lL hu _ hx) (by decide)
 have hsl:=ok1.slen;have hpl:=ok1.plen;have hnl:=ok1.nlen;have hfl:frs.length=st1.S.length+1:=by
   have:=congrArg List.length hf;simpa using this
 refine ae ?_;refine a8 ?_;refine aG ?_;refine ac (H3.get rfl) ?_;refine mX ws4.inst ws4.dict rfl (f:=174) (by kernel_rfl!) (by exact rfl) (by kernel_rfl!) (by kernel_rfl!) (af ?_)
 refine ah (ah (aB (ac (H3.get rfl) (aO (by rw [lb,l10];decide) (aB (aO (by rw [ay,lb,l10,lf];decide) ?_))))))
 rw [(oA d).1.1];refine af (ac (H3.get rfl) (am ?_));refine bW (n:=13) (qd ws4 hw (BK hsl hj rfl) (by lia) u4.new (λe=>hmk (ws.at (List.mem_append_left _ e))) T4.lam rfl rfl rfl (no125 hc.val) (no125 vr) (no125 vk) hfit.1 (by lia) (fn (AS ht rfl) (AT ht rfl)).1 (fn (AA ht rfl) (AB ht rfl)).1 (λu hu=>?_) λa ts σ5 ha hts hpw k5 lam5 ws5=>⟨trivial,?_⟩) (by decide)
 . rcases hu with rfl | rfl | rfl
   . exact iy hc.val
   . exact iy vr
   . exact iy vk
 rw [j8 hf] at ws5;refine bh (qf ok1.nok (by lia) hc.val hts hpw (dU t) (dU (t+1))) λens etx=>?_
 rw [ens,etx] at ws5;refine bA λnd5=>?_;refine ae ?_;refine a8 ?_;refine aG ?_;refine ac (H3.get rfl) ?_;refine mX ws5.inst ws5.dict rfl (f:=151) (by kernel_rfl!) (by exact rfl) (by kernel_rfl!) (by kernel_rfl!) (af ?_)
 refine dg ?_;refine ac (H3.get rfl) (bP ?_);refine ah (ac (H3.get rfl) (aq (bZ ?_)));refine bP ?_;refine ah (ac (H3.get rfl) (aq (bZ ⟨m8,some (t+2),some (t+11),rfl,rfl,rfl,jn,?_⟩)));rw [show t+11=t+2+9 by lia]
 refine am ?_;refine bW (n:=2) (uE ws5 (by decide) λσ6 k6 ws6=>⟨trivial,?_⟩) (by decide)
 have hiW:ia∉WL W:=λe=>T1.ne.1 (.tail _ e);have hmW:ma∉WL W:=λe=>T1.ne.2.1 (.tail _ e);have dtW:W.dt∈WL W:=by simp [WL]
 have ins6:=k6 _ (k5 _ T4.ins T1.ne.1) (λe=>hiW (by rw [show ia=W.dt from e];exact dtW))
 have mds6:=k6 _ (k5 _ T4.mds T1.ne.2.1) (λe=>hmW (by rw [show ma=W.dt from e];exact dtW))
 have kk6:aI [W.dt] σ5 σ6:=λq hq hn=>k6 q hq (by simpa using hn)
 have lam6:=lam5.keep kk6 λx f hx e=>by
   rw [List.mem_singleton] at e;exact ws5.raw_not nd5 hx (List.mem_append_left _ (e ▸ dtW))
 refine aH (Up.ex (o':=.list ((st1.S.reverse.map λp=>LV.str (aP p.1))++[.str (aP d)])) ins6) λσ7 u7=>?_;refine bA λnd6=>?_;refine ae ?_;refine a8 ?_;refine aG ?_;refine ac (H3.get rfl) ?_;refine bi ins6 PySem.F.slot_list_append PySem.F.type_list_append (af (ac (H3.get rfl) (am (bj u7 (av (by simp;exact BK hsl hj rfl)) ⟨trivial,aw (h _ σ7 (H3.sub ?_) ?_)⟩))))
 . exact aR.add (aR.add (aR.add (aR.add (aR.add (aR.add (aR.nil_ _) rfl) rfl) rfl) rfl) rfl) rfl
 . have key4:∀ {x:Addr} {o:LO},(x,o)∈σ4->x≠a:=λhx e=>ha (e ▸ List.mem_map.mpr ⟨_,hx,rfl⟩);have iaF:ia∉WL W++(frs++[(a,aU (aS (sc st1.S) (sortI (au d)) (st1.N,[])).1 (aS (sc st1.S) (sortI (au d)) (st1.N,[])).2)]).map (·.1):=by
     intro e;refine Or.elim (List.mem_append.mp e) (λe=>?_) λe=>?_
     . exact hiW e
     . rw [List.map_append] at e;refine Or.elim (List.mem_append.mp e) (λe=>?_) λe=>?_
       . refine ap (List.mem_map.mp e) λq hq e=>?_;exact (hne q hq).1 e
       . simp only [List.map_cons,List.map_nil,List.mem_singleton] at e;exact key4 T4.ins e
   have ws7:=ws6.keep (aI.up u7) λx hx=>by rw [List.mem_singleton] at hx;clear T H H1 T1 h H2 H3 T2 T3 T4 hne hiW ins6 u7;subst hx;exact iaF
   refine ⟨⟨_,_,_,ws7,?_,.inr ⟨_,rfl,rfl,(fn (AA ht rfl) (AB ht rfl)).2.1⟩,λq hq=>?_⟩,?_,u7.old mds6 (Ne.symm T1.ne.2.2),lam6.keep (aI.up u7) (λx f hx e=>?_),T1.ne⟩
   . rw [List.map_append,hf];show _=cV::(((d,_)::st1.S).reverse.map _);rw [List.reverse_cons,List.map_append,List.cons_append];congr 1;congr 1;refine List.map_congr_left λp hp=>?_;refine List.map_congr_left λu hu=>?_;have hu1:u∈st1.N:=ok1.nok.sc u (List.mem_flatMap.mpr ⟨p,List.mem_reverse.mp hp,hu⟩);have:=kJ (sc st1.S) (sortI (au d)) (st1.N,[]) (x:=u) hu1;show (aP u,cn st1.N u)=(aP u,cn (aS (sc st1.S) (sortI (au d)) (st1.N,[])).1 u);rw [this]
   . refine Or.elim (List.mem_append.mp hq) (λhq=>?_) λhq=>?_
     . exact hne q hq
     . rw [List.mem_singleton] at hq;subst hq;exact ⟨(key4 T4.ins).symm,(key4 T4.mds).symm⟩
   . show (ia,LO.list (((d,_)::st1.S).reverse.map _))∈σ7;rw [List.reverse_cons,List.map_append];exact u7.new
   . rw [List.mem_singleton] at e;clear T H H1 T1 h H2 H3 T2 T3 T4 hne hiW u7 iaF;subst e;cases aJ nd6 hx ins6
theorem uO {c:Cx} {W:f8} {ia ma:Addr} {ms cs:List Int} {shift:Int} {K:LF->ak->aa->Prop} (hcs:ms.length=cs.length) (hcode:∀ (j:Nat) (m d:Int),ms[j]?=some m->cs[j]?=some d->mD m d) (hn:ms.length<=15) :
   ∀ (k j:Nat) (st:gL) (le:ak) (σ:aa),j+k=ms.length->TI W ia ma ms st σ->kE st j->sI st->aR le (qi W ia ma shift) ->
     (∀ le' σ',aR le' (qi W ia ma shift)->TI W ia ma ms (io shift j (cs.drop j) st) σ'->kE (io shift j (cs.drop j) st) ms.length->sI (io shift j (cs.drop j) st)->K .next le' σ') ->
     cW 14 c (fu wY) (cy wY) (fq wY) (mx c) (λ_=>True) K ((List.range' j k).map λi=>LV.int (i:Nat)) le σ:=by
 intro k;induction k with
 | zero =>
   intro j st le σ hj T ok pk H h;have e:cs.drop j=[]:=List.drop_eq_nil_of_le (by lia)
   rw [e] at h;have hj:j=ms.length:=by lia
   clear e;subst hj;exact ⟨trivial,aw (h le σ H T ok pk)⟩
 | succ k ih =>
   intro j st le σ hj T ok pk H h;obtain ⟨m,hm⟩:∃ m,ms[j]?=some m:=⟨_,List.getElem?_eq_getElem (zD hj)⟩;have hjc:j < cs.length:=by lia
   obtain ⟨d,hd⟩:∃ d,cs[j]?=some d:=⟨_,List.getElem?_eq_getElem hjc⟩;have hc:=hcode j m d hm hd;have e:cs.drop j=d::cs.drop (j+1):=by
     rw [List.drop_eq_getElem_cons hjc];rw [List.getElem?_eq_getElem hjc] at hd;clear hc;obtain rfl:=Option.some.inj hd;rfl
   rw [e] at h;rw [List.range'_succ,List.map_cons];refine ⟨trivial,?_⟩;refine a9 ?_;have ok1:=kE.pop d st.S.length st (Nat.le_refl _) ok;have pk1:=sI.pop d (B2 hj hn) st.S.length st (Nat.le_refl _) ok pk;refine (uQ (AC hj hn rfl) hm hc T ok (H.put (ofString "place") (.int j)) λle' σ' H' T'=>?_).mono λf le2 σ2 hh=>hh;exact ih (j+1) _ le' σ' (Ax hj) T' (ok1.start hc.val) (pk1.start ok1 (B2 hj hn) hc.val (ip shift j)) H' h
theorem vw {i:Nat} (hi:i<=15):∀ (k:Nat) (st:gL),st.S.length=k->kE st i->sI st->kE (ge k st) i/\sI (ge k st):=by
 intro k;induction k with
 | zero=>intro st _ h p;exact ⟨h,p⟩
 | succ k ih =>
   intro st hk h p;obtain ⟨N,S,page,data⟩:=st;cases S with
   | nil=>cases hk
   | cons q r=>exact ih _ (by simpa [dK] using hk) h.end (p.end (by have:=h.nlen;exact xg this hi rfl))
noncomputable def uJ:gL:=⟨[],[],[],[]⟩
noncomputable def zS (cs:List Int) (shift:Int):gL:=ge (io shift 0 cs uJ).S.length (io shift 0 cs uJ)
noncomputable def kA (cs:List Int) (shift:Int):Str:=Txt.join (ofString "") (zS cs shift).page
theorem fB (n:Nat):fh 0 1 n=(List.range' 0 n).map λi=>LV.int (i:Nat):=by
 unfold fh;rw [List.range_eq_range'];refine List.map_congr_left λi _=>?_;simp
theorem cG:∀ n:Nat,n < 16->Builtin.Range.rangeSize 0 n 1=n/\Builtin.Range.small 0 n 1=true:=by decide +kernel
noncomputable abbrev oz (x d pg dt l0 dcl ns0 nss pm ps:Addr) (σ:aa):aa:=(ps,LO.list [.bool false])::(pm,.dict [])::(ns0,.list [])::(nss,.list [.loc ns0])::(dcl,.list [.loc l0])::(l0,.list [.tup [.str (ofString "http://www.w3.org/XML/1998/namespace"),.str (ofString "xml")]])::(dt,.list []) ::
 (x,.inst d)::(d,.dict (jf ⟨x,d,pg,dt,dcl,nss,pm,ps⟩ (.bool false) (.bool false)))::(pg,.list [])::σ
theorem wX {x d pg dt l0 dcl ns0 nss pm ps:Addr} {σ:aa} (nd:((oz x d pg dt l0 dcl ns0 nss pm ps σ).map (·.1)).Nodup) :
   WS ⟨x,d,pg,dt,dcl,nss,pm,ps⟩ [(l0,cV)] [] [] [] (0+1) (.bool false) (.bool false) (oz x d pg dt l0 dcl ns0 nss pm ps σ) :=
 ⟨bF 7,bF 8,bF 9,bF 6,bF 4,λp hp=>List.mem_singleton.mp hp ▸ bF 5,⟨[.loc ns0],rfl,bF 3⟩,bF 1,bF 0,rF _ [7,8,9,6,4,3,1,0,5] nd rfl⟩
theorem uM {x d pg dt l0 dcl ns0 nss pm ps ma:Addr} {σ:aa} (nd:((oz x d pg dt l0 dcl ns0 nss pm ps σ).map (·.1)).Nodup) (hm:ma∈σ.map (·.1)):ma∉[x,d,pg,dt,dcl,nss,pm,ps]++[l0]:=λe=>by
 have nd:([ps,pm,ns0,nss,dcl,l0,dt,x,d,pg]++σ.map (·.1)).Nodup:=nd
 refine (List.nodup_append.mp nd).2.2 ma ?_ ma hm rfl;have hs:[x,d,pg,dt,dcl,nss,pm,ps]++[l0] ⊆ [ps,pm,ns0,nss,dcl,l0,dt,x,d,pg]:=by
   refine List.cons_subset.mpr ⟨bF 7,List.cons_subset.mpr ⟨bF 8,List.cons_subset.mpr ⟨bF 9,List.cons_subset.mpr ⟨bF 6,List.cons_subset.mpr ⟨bF 4,List.cons_subset.mpr ⟨bF 3,List.cons_subset.mpr ⟨bF 1,List.cons_subset.mpr ⟨bF 0,List.cons_subset.mpr ⟨bF 5,List.nil_subset _⟩⟩⟩⟩⟩⟩⟩⟩⟩
 exact hs e
set_option maxHeartbeats 0 in
theorem uP {c:Cx} {W:f8} {ma l0:Addr} {ms cs:List Int} {shift:Int} {le:ak} {σ1:aa} {K:LF->ak->aa->Prop} (hm1:(ma,.list (ms.map .int))∈σ1) (hlam1:d9 dO jV σ1) (hcs:ms.length=cs.length)
   (hcode:∀ (j:Nat) (m d:Int),ms[j]?=some m->cs[j]?=some d->mD m d) (hn:ms.length<=15) (ws:WS W [(l0,cV)] [] [] [] (0+1) (.bool false) (.bool false) σ1) (hmaW:ma∉WL W++[l0]) (hma:ma≠177)
   (H0:∀ ia,aR (an (ofString "inside") (LV.loc ia) le) (qi W ia ma shift)) (h:∀ le' σ',d9 dO jV σ'->K (.ret (.str (kA cs shift))) le' σ'):WF 14 c (execs (tB.drop 3) (mx c)) le σ1 K:=by
 refine ae ?_;refine ax (ba (am ⟨av (by decide),λia hia=>?_⟩))
 have hia177:ia≠177:=by
   rintro rfl;refine aH hlam1.raw λf hf=>?_;exact hia (List.mem_map.mpr ⟨_,hf,rfl⟩)
 have hiaW:ia∉WL W:=λe=>hia (ws.at (List.mem_append_left _ e));have T:TI W ia ma ms uJ ((ia,.list [])::σ1):=by
   refine ⟨⟨[(l0,cV)],_,_,ws.mono λp hp=>.tail _ hp,rfl,.inl rfl,λq hq=>?_⟩,.head _,.tail _ hm1,hlam1.mono λp hp=>.tail _ hp,?_⟩
   . rw [List.mem_singleton] at hq;subst hq;refine ⟨λe=>hia (e ▸ ws.at (bF 8 rfl)),λe=>hmaW (by rw [<-e];simp)⟩
   . refine ⟨λe=>?_,λe=>?_,λe=>hia (e ▸ List.mem_map.mpr ⟨_,hm1,rfl⟩)⟩
     . refine Or.elim (List.mem_cons.mp e) (λe=>?_) λe=>?_
       . exact hia177 e
       . exact hiaW e
     . refine Or.elim (List.mem_cons.mp e) (λe=>?_) λe=>?_
       . exact hma e
       . exact hmaW (List.mem_append_left _ e)
 have H:=H0 ia;show WF 14 c (execs (tB.drop 4) (mx c)) (an (ofString "inside") (LV.loc ia) le) _ K;generalize an (ofString "inside") (LV.loc ia) le=le1 at H ⊢;refine ae ?_;refine dC (h:=?_);refine aC ?_;refine be (v:=.type "range") (by kernel_rfl!) (by kernel_rfl!) ?_
 refine cj (af ?_);refine aC ?_;refine be (v:=.builtin "len") (by kernel_rfl!) (by kernel_rfl!) ?_
 refine cz (af (ac (H.get rfl) (am (cT T.mds (by rw [List.length_map];exact J1 hn rfl) ?_))))
 rw [List.length_map];refine am (fF λr hr=>?_);refine ⟨_,_,_,og (dZ (.head _) (cG ms.length (zL hn rfl)).1 (cG ms.length (zL hn rfl)).2),?_⟩;rw [fB];have ok0:kE uJ 0:=⟨⟨λ_ h=>(nM h),.nil,λ_ h=>(nM h),λ_ h=>(nM h)⟩,trivial,Nat.le_refl _,Nat.le_refl _,Nat.le_refl _,λ_ h=>(nM h),Nat.le_refl _⟩;refine uO hcs hcode hn ms.length 0 uJ le1 _ (AU) (T.mono λp hp=>.tail _ hp) ok0 ⟨λ_ h=>(nM h),λ_ h=>(nM h)⟩ H λle' σ2 H2 T2 ok2 pk2=>?_;rw [List.drop_zero] at T2 ok2 pk2;refine ae ?_;refine qB (io shift 0 cs uJ).S.length ?_;refine sj (W:=W) (ia:=ia) (ma:=ma) (ms:=ms) (i:=ms.length) hn (H2.sub ?_) _ _ σ2 rfl T2 ok2 λσ3 T3=>?_
 . exact aR.add (aR.add (aR.nil_ _) rfl) rfl
 refine bh (vw hn _ _ rfl ok2 pk2) λok3 pk3=>?_;refine md T3.ex λfrs sn dn ws3 _=>?_;refine ae ?_;refine bE ?_;refine aG ?_;refine aB ?_;refine hV PySem.F.slot_str_join PySem.F.type_str_join (af (ac (H2.get rfl) (am ?_)));refine iW ws3.page ?_ (h _ σ3 T3.lam);have h0:(ofString "").length=0:=by decide +kernel
 rw [h0,Nat.mul_zero,Nat.add_zero];have h1:=sg (f:=λx:Str=>x.length) (b:=70000) (l:=(ge (io shift 0 cs uJ).S.length (io shift 0 cs uJ)).page) pk3.1;have h2:=ok3.plen;have h3:(ge (io shift 0 cs uJ).S.length (io shift 0 cs uJ)).page.length*70000<=90*70000:=Nat.mul_le_mul_right _ (by lia)
 lia
set_option maxHeartbeats 0 in
theorem uI {w:World} {ma:Addr} {ms cs:List Int} {shift:Int} {σ:aa} {K:LV->aa->Prop} (hm:(ma,.list (ms.map .int))∈σ) (hlam:d9 dO jV σ) (hcs:ms.length=cs.length) (hcode:∀ (j:Nat) (m d:Int),ms[j]?=some m->cs[j]?=some d->mD m d) (hn:ms.length<=15)
   (h:∀ σ',d9 dO jV σ'->K (.str (kA cs shift)) σ'):FS 15 w 236 [.loc ma,.int shift] σ K:=by
 refine dw (names:=[ofString "modes",ofString "shift"]) (dl:=[]) (dv:=[]) (hK:=by exact rfl) (hc:=by decide +kernel) ?_ (λ_ _=>.nil) (by decide) rfl (by decide +kernel) (by decide +kernel) (by decide +kernel) (by decide +kernel) (by decide +kernel) ?_
 . intro s vs _ hl;refine i4 (py hl) λu v z0_=>?_;clear hl;obtain rfl:=z0_;exact BindsTo.of_eq (by kernel_rfl!)
 . intro c hc;subst hc;refine cH ?_;refine bA λnd=>?_;have hma:ma≠177:=by
     rintro rfl;refine aH hlam.raw λf hf=>?_;cases aJ nd hm hf
   refine ae ?_;refine ax (ah (aB (aq (yd ⟨by decide +kernel,λ_ _=>by decide +kernel,λ_ _=>by decide +kernel⟩ ?_))))
   refine ae ?_;refine ax (ba (am ⟨av (by decide),λpg hpg=>?_⟩))
   refine ae ?_;refine ax ?_;refine uT (n:=11) ?_;refine bO (v:=.ref 204) (by kernel_rfl!) (λ_ _=>.val rfl) ⟨rfl,?_⟩
   refine kD (ac rfl (uu (.head _) ?_));refine iX ⟨rfl,pg,rfl,λx d hx hd hxd dt l0 dcl ns0 nss pm ps=>⟨rfl,?_⟩⟩;refine bA λnd1=>?_;have kp:∀ p∈σ,p∈oz x d pg dt l0 dcl ns0 nss pm ps σ:=λp hp=>by
     iterate 10 refine .tail _ ?_
     exact hp
   refine uP (kp _ hm) (hlam.mono kp) hcs hcode hn (wX nd1) (uM nd1 (List.mem_map.mpr ⟨_,hm,rfl⟩)) hma (λia=>?_) (λ_ σ' hl=>h σ' hl);exact aR.add (aR.add (aR.add (aR.add (aR.add (aR.add (aR.nil_ _) rfl) rfl) rfl) rfl) rfl) rfl
section
variable {n:Nat} {c:Cx} {le:ak} {σ:aa} {env:Env}
theorem St.holdAll {tmp:List bt} {s:Shared} (S:St c le σ tmp s) {l:List LV} {vs:List Value} (r:aK s.heap l vs):∃ T,St c le σ (T++tmp) s/\∀ (σ':aa) (s':Shared),St c le σ' (T++tmp) s'->aK s'.heap l vs/\St c le σ' tmp s':=by
 refine du (aK.hold (c:=c) (σ:=σ) r) λT t1 t2 t3=>?_;refine ⟨T,⟨S.fr,S.ob,S.nd,S.ab,λp hp=>(List.mem_append.mp hp).elim (t1 p) (S.tm p),by rw [List.filterMap_append,t2];exact S.td,S.bs,S.gb,S.os,S.tk⟩,λσ' s' S'=>⟨t3 σ' s' λp hp=>S'.tm p (List.mem_append_left _ hp),S'.drop (List.sublist_append_right ..)⟩⟩
theorem lG {value slice:Expr} {x:Str} {k:Int} {d:Nat} {K:LV->aa->Prop} (h0:0<=k) (hfit:k < 1000000) (hx:x.cps[k.toNat]?=some d) (h:K (.str ⟨#[d]⟩) σ)
   (hs:∀ (t u:Tok),subscripted slice false (.str x t) (.int k u)=operate [.str x t,.int k u] (getItem (.str x t) (.int k u)):=by intro t u;with_unfolding_all rfl):OS n c value slice (.str x) (.int k) le σ K:=λA hA tmp s vx vi S r1 r2=>by
 refine aH (RV.inv r1) λt z0_=>?_;clear r1;obtain rfl:=z0_;refine aH (RV.inv r2) λu z1_=>?_;clear r2;obtain rfl:=z1_;have hlt:k.toNat < x.cps.size:=by
   refine Or.elim (Nat.lt_or_ge k.toNat x.cps.size) (λh=>?_) λh=>?_
   . exact h
   . rw [Array.getElem?_eq_none h] at hx;cases hx
 refine tail_any (typeIs_str s x t) PySem.F.slot_str_getitem.lookup (PySem.P.getItem_str (c:=d) ?_ ?_ (pv (S.toks _) (.str _ _) h)) (hs t u)
 . simp;lia
 . have e:seqIndex? k x.length=some k.toNat:=by
     have:x.length=x.cps.size:=rfl;unfold seqIndex?;rw [this];simp;lia
   rw [e];exact hx
theorem qu {x:Str} {i:Int} {K:LV->aa->Prop} (hn:PySem.intText? x=some i) (hl:x.length<=640) (h:K (.int i) σ):WC n c (.type "int") [.str x] le σ K:=λA hA tmp s vs S r=>by
 refine bl (aK.inv r) λ_ _ z2_ r1 r2=>?_;obtain rfl:=z2_;refine aH (RV.inv r1) λ_ z3_=>?_;clear r1;obtain rfl:=z3_;clear r;obtain rfl:=aK.nil_ r2;exact PySem.W.KIN.call_text hn hl (pv (S.toks _) (.int _ _) h)
theorem ss {a:Addr} {ns:List Int} {K:LV->aa->Prop} (hm:(a,.list (ns.map .int))∈σ) (hne:ns≠[]) (h:∀ m,m∈ns->(∀ x∈ns,m<=x)->K (.int m) σ):WC n c (.builtin "min") [.loc a] le σ K:=λA hA tmp s vs S r=>by
 refine bl (aK.inv r) λ_ _ z4_ r1 r2=>?_;obtain rfl:=z4_;obtain rfl:=RV.inv r1;clear r;obtain rfl:=aK.nil_ r2;refine bb (S.ob _ hm) λvs kk e rs=>?_;refine tZ S.ledger λm news F N _ back=>?_;have hl:s.heap.IsList a vs.toArray:=⟨_,e,rfl,kk,rfl⟩;refine wpAny_with_toks (n:=1) S.tk (min_list_N hA.handled F N hl (dx rs) (List.length_pos_iff.mpr hne) λh' M t tk F' N' h1 h2 hk=>?_);exact pv (back h' tk hk F' λp hp=>(N' p hp).1) (.int _ _) (h M h1 h2)
theorem lE {a:Addr} {ns:List Int} {k:Int} {K:LV->aa->Prop} (hm:(a,.list (ns.map .int))∈σ) (h:K (.bool (ns.any (·==k))) σ):OB n c (compareOp .In) (.int k) (.loc a) le σ K:=λA hA tmp s vx vy S r1 r2=>by
 refine aH (RV.inv r1) λ_ z5_=>?_;clear r1;obtain rfl:=z5_;obtain rfl:=RV.inv r2;refine bb (S.ob _ hm) λvs kk e rs=>?_;exact in_list_ints ⟨_,e,rfl,kk,rfl⟩ (dx rs) (pv S (.bool _) h)
theorem wk {ns:List Int} (h:∀ x∈ns,x.natAbs < 2 ^ 40) (hl:ns.length<=1000):PyData.layable0 (.list (ns.map .int))=true:=by
 have key:PyData.canLayAll0 (ns.map .int)=true/\PyData.depthAll (ns.map .int)=0/\PyData.weightAll (ns.map .int)<=42*ns.length:=by
   clear hl;induction ns with
   | nil=>exact ⟨rfl,rfl,Nat.le_refl _⟩
   | cons x ns ih =>
     refine qS (ih λy hy=>h y (.tail _ hy)) λi1 i2 i3=>?_;have hx:=h x (.head _);have hlog:x.natAbs.log2<=40:=by
       by_cases e:x.natAbs=0
       . rw [e];decide
       . exact Nat.le_of_lt ((Nat.log2_lt e).mpr hx)
     refine ⟨?_,?_,?_⟩
     . simp only [List.map_cons,PyData.canLayAll0,PyData.canLay0,i1,Bool.and_self]
     . simp only [List.map_cons,PyData.depthAll,PyData.depth,i2,Nat.max_self]
     . simp only [List.map_cons,PyData.weightAll,PyData.weight,List.length_cons];split<;>lia
 refine qS key λk1 k2 k3=>?_;show (PyData.canLayAll0 (ns.map .int) && decide (PyData.depthAll (ns.map .int)+1<=64) && decide (PyData.weightAll (ns.map .int)<=2 ^ 20))=true;rw [k1,k2];have:PyData.weightAll (ns.map .int)<=2 ^ 20:=Nat.le_trans k3 (by lia)
 simp [this]
theorem iV {a:Addr} {ns:List Int} {k:Int} {K:LV->aa->Prop} (hm:(a,.list (ns.map .int))∈σ) (hs:∀ x∈ns,x.natAbs < 2 ^ 40) (hl:ns.length<=1000) (hk:k∈ns) (h:K (.int (ns.idxOf k:Nat)) σ):WC n c (.builtin "list.index") [.loc a,.int k] le σ K:=λA hA tmp s vs S r=>by
 refine bl (aK.inv r) λ_ _ z6_ r1 r2=>?_;obtain rfl:=z6_;have hz:=aK.inv r2;clear r2;refine bl hz λ_ _ z7_ r2 r3=>?_;obtain rfl:=z7_;obtain rfl:=RV.inv r1;refine aH (RV.inv r2) λ_ z8_=>?_;clear r2;obtain rfl:=z8_;clear hz r;obtain rfl:=aK.nil_ r3;refine bb (S.ob _ hm) λvs kk e rs=>?_;exact index_list_ints ⟨_,e,rfl,kk,rfl⟩ (dx rs) (wk hs hl) hk (pv (S.toks _) (.int _ _) h)
theorem tb {a b:Addr} {l k:List LV} {K:LV->aa->Prop} (ha:(a,.list l)∈σ) (hb:(b,.list k)∈σ) (hl:l.length+k.length<=1000000) (h:∀ d,d∉σ.map (·.1)->K (.loc d) ((d,.list (l++k))::σ)):OB n c (binaryOp .Add) (.loc a) (.loc b) le σ K:=λA hA tmp s vx vy S r1 r2=>by
 obtain rfl:=RV.inv r1;obtain rfl:=RV.inv r2;refine bb (S.ob _ ha) λvs kk e rs=>?_;refine bb (S.ob _ hb) λws kb e2 rs2=>?_;refine ap (S.holdAll (rs.append rs2)) λT ST hT=>?_;refine tZ ST.ledger λm news F N _ back=>?_;refine add_lists F N ⟨_,e,rfl,kk,rfl⟩ ⟨_,e2,rfl,kb,rfl⟩ (λh' F' N'=>?_) (by rw [<-rs.length,<-rs2.length];exact av hl)
 refine bh (hT _ _ (back h' s.toks S.tk F' λp hp=>(N' p (.tail _ hp)).1)) λr' S'=>?_;have S2:=S.newAt S' (lo:=.list (l++k)) ⟨_,0,(N' _ (.head _)).1,r'⟩;exact pv S2 (.loc _) (h _ λhm=>Nat.lt_irrefl _ (S.key_lt hm))
theorem tc {a:Addr} {l:List LV} {K:LV->aa->Prop} (ha:(a,.list l)∈σ) (hl:l.length<=1000) (h:∀ d,d∉σ.map (·.1)->K (.loc d) ((d,.list (l++l++l))::σ)):OB n c (binaryOp .Mult) (.loc a) (.int 3) le σ K:=λA hA tmp s vx vy S r1 r2=>by
 obtain rfl:=RV.inv r1;refine aH (RV.inv r2) λ_ z9_=>?_;clear r2;obtain rfl:=z9_;refine bb (S.ob _ ha) λvs kk e rs=>?_;refine ap (S.holdAll ((rs.append rs).append rs)) λT ST hT=>?_;refine tZ ST.ledger λm news F N _ back=>?_;have hsz:vs.toArray.size*(3:Int).toNat<=2 ^ 24:=by
   show vs.toArray.size*3<=_;rw [List.size_toArray,<-rs.length];lia
 refine mul_list F N e (by decide) (by decide) hsz (λh' F' N'=>?_)
 refine bh (hT _ _ (back h' s.toks S.tk F' λp hp=>(N' p (.tail _ hp)).1)) λr' S'=>?_;have e3:List.foldl (λx1 x2=>x1++x2) #[] (List.replicate (if vs.toArray.isEmpty=true then 0 else (3:Int).toNat) vs.toArray)=(vs++vs++vs).toArray:=by
   cases vs with
   | nil=>rfl
   | cons v vs =>
     rw [if_neg (by simp)]
     show (((#[]++_)++_)++_:Array Value)=_;simp
 have hn:=(N' _ (.head _)).1;rw [e3] at hn;have S2:=S.newAt S' (lo:=.list (l++l++l)) ⟨_,0,hn,r'⟩;exact pv S2 (.loc _) (h _ λhm=>Nat.lt_irrefl _ (S.key_lt hm))
theorem aK.drop {h:Heap}:∀ {xs:List LV} {vs:List Value},aK h xs vs->∀ k:Nat,aK h (xs.drop k) (vs.drop k):=by
 intro xs;induction xs with
 | nil=>intro vs r k;obtain rfl:=aK.nil_ r;rw [List.drop_nil,List.drop_nil];exact .nil
 | cons x xs ih =>
   intro vs r k;refine bl (aK.inv r) λ_ _ z0_ r1 r2=>?_;clear r;obtain rfl:=z0_;cases k with
   | zero=>exact .cons r1 r2
   | succ k=>exact ih r2 k
theorem aK.take {h:Heap}:∀ {xs:List LV} {vs:List Value},aK h xs vs->∀ k:Nat,aK h (xs.take k) (vs.take k):=by
 intro xs;induction xs with
 | nil=>intro vs r k;obtain rfl:=aK.nil_ r;rw [List.take_nil,List.take_nil];exact .nil
 | cons x xs ih =>
   intro vs r k;refine bl (aK.inv r) λ_ _ z1_ r1 r2=>?_;clear r;obtain rfl:=z1_;cases k with
   | zero=>exact .nil
   | succ k=>exact .cons r1 (ih r2 k)
theorem dD {value lower upper:Expr} {p pos:Pos} {K:LV->aa->Prop}
   (h:WV n c (eval value env) le σ λx σ1=>WV n c (eval lower env) le σ1 λlo σ2=>WV n c (eval upper env) le σ2 λhi σ3=>∃ a l i j,x=.loc a/\lo=.int (i:Nat)/\hi=.int (j:Nat)/\(a,.list l)∈σ3/\i<=j/\j<=l.length/\l.length<=1000000/\∀ d,d∉σ3.map (·.1)->K (.loc d) ((d,.list ((l.drop i).take (j - i)))::σ3))
   (ht:∀ o r,letTemporaryGo value o r=pure ():=by intro _ _;rfl):WV n c (eval (.Subscript value (.Slice (some lower) (some upper) none p) pos) env) le σ K:=λA hA tmp s S=>by
 refine wpAny_Subscript_Slice (T:="list") slot_list_getitem.lookup (wpAny_mono (h A hA tmp s S) (λvx s1 hp=>?_) λ_ _ x=>x.elim) ht;refine bb hp λx σ1 S1 h1=>?_;refine wpAny_Slice (wpAny_mono (h1 A hA _ s1 S1) (λvl s2 hp=>?_) λ_ _ x=>x.elim);refine bb hp λlo σ2 S2 h2=>?_;refine wpAny_mono (h2 A hA _ s2 S2) (λvu s3 hp=>?_) λ_ _ x=>x.elim;refine bb hp λhi σ3 S3 y0_=>?_;refine Cv y0_ λa l i j y1_ y2_ y3_ hm hij hj hl hK=>?_;obtain rfl:=y1_;obtain rfl:=y2_;obtain rfl:=y3_;rw [evalPart_none];have rx:=S3.tm _ (.tail _ (.tail _ (.head _)));have rl:=S3.tm _ (.tail _ (.head _));have ru:=S3.tm _ (.head _);clear hp S1;obtain rfl:=RV.inv rx;refine aH (RV.inv rl) λtl z2_=>?_;clear rl hp S2;obtain rfl:=z2_;refine aH (RV.inv ru) λtu z3_=>?_;clear ru;obtain rfl:=z3_;have S4:=S3.drop1.drop1.drop1.push { cls:=.type "slice",data:=.fields #[.int (i:Nat) tl,.int (j:Nat) tu,.none] };refine bb (S4.ob _ hm) λvs kk e rs=>?_;have hll:(s3.heap.push { cls:=.type "slice",data:=.fields #[.int (i:Nat) tl,.int (j:Nat) tu,.none] }).IsList a vs.toArray:=⟨_,e,rfl,kk,rfl⟩;refine wpAny_pure ⟨Heap.IsList.typeIs (s:={ s3 with heap:=s3.heap.push { cls:=.type "slice",data:=.fields #[.int (i:Nat) tl,.int (j:Nat) tu,.none] } }) hll,wpAny_getItem_list_slice hll (Heap.IsSliceOf.new ..) (.int _ _) (.int _ _) .none (by decide) ?_ (by rw [List.size_toArray,<-rs.length];exact av hl)⟩
 rw [slicePick_run vs.toArray i j (by rw [List.size_toArray,<-rs.length];exact hj) hij]
 have S5:=S4.new (o:={ cls:=.type "list",data:=.seq ((vs.toArray.toList.drop i).take (j - i)).toArray }) (lo:=.list ((l.drop i).take (j - i))) ⟨_,0,Heap.get?_push_size _ rfl,((rs.drop i).take (j - i)).keeps λb o e _=>Heap.get?_push_of_some _ e⟩;exact pv S5 (.loc _) (hK _ λhm=>Nat.lt_irrefl _ (S4.key_lt hm))
theorem fX {i:Int} {K:LV->aa->Prop} (hi:i.natAbs.log2 < 1920) (h:K (.str (ofString (toString i))) σ):WC n c (.type "str") [.int i] le σ K:=λA hA tmp s vs S r=>by
 refine bl (aK.inv r) λ_ _ z4_ r1 r2=>?_;obtain rfl:=z4_;refine aH (RV.inv r1) λ_ z5_=>?_;clear r1;obtain rfl:=z5_;clear r;obtain rfl:=aK.nil_ r2;exact PySem.P.str_of_int hi (pv (S.toks _) (.str _ _) h)
theorem yC {a:Addr} {vs:List Value} {ns:List Int} {K:LV->aa->Prop} (hm:c.hb.IsList a vs.toArray) (hi:IntsAre vs ns) (h:K (.int ns.sum) σ):WC n c (.builtin "sum") [.loc a] le σ K:=λA hA tmp s us S r=>by
 refine bl (aK.inv r) λ_ _ z6_ r1 r2=>?_;obtain rfl:=z6_;obtain rfl:=RV.inv r1;clear r;obtain rfl:=aK.nil_ r2;refine tZ S.ledger λm news F N _ back=>?_;refine ap hm λo ho rest=>?_;refine wpAny_with_toks (n:=1) S.tk (sumK hA.handled F N ⟨o,F.keep _ _ ho,rest⟩ hi λh' tk t' F' N' hk=>?_);exact pv (back h' tk hk F' λp hp=>(N' p hp).1) (.int _ _) h
end
noncomputable abbrev ir:Obj:={ cls:=.type "cell",data:=.cell none }
theorem n7 {M:Model} {A:Around} {E:Value->Shared->Prop} {s:Shared} {scope:Scope} {globals:Addr} {closure:List (Str × Addr)} {qual:Str} {func:Option Addr} {code:Value} {outer:Env} {builtins:Addr} {Q:Env->Shared->Prop}
   (h:Q (newEnv scope s.heap.objs.size globals (cellsFrom (s.heap.objs.size+1) scope.names closure) qual func code (some outer) builtins) { s with heap:=pushCells (s.heap.push { cls:=.type "dict",data:=.dict #[] }) scope.names }) :
   wpAny M A (newFunctionEnv scope globals closure [] qual func code (some outer) builtins) Q E s:=by
 simp only [newFunctionEnv,Option.isSome_some,if_true];simp only [newEnv] at h;refine wpAny_bind (wpAny_alloc (wpAny_bind ?_));refine wpAny_layCells _ (λname kind cells=>rfl) scope.names closure _ _ ?_;rw [show ({ s with heap:=s.heap.push { cls:=.type "dict",data:=.dict #[] } }:Shared).heap.objs.size=s.heap.objs.size+1 from Heap.size_push ..]
 refine wpAny_bind ?_;rw [List.forIn_nil];exact wpAny_pure (wpAny_pure h)
section
variable {n:Nat} {c:Cx} {le:ak} {σ:aa} {env:Env} {tmp:List bt} {s:Shared}
theorem jx {e:Expr} {scope:Scope} {pos:Pos} {newAcc first:Sem Value} {g:Comprehension} {gs:List Comprehension} {cl:List (Str × Addr)} {clf:Addr->List (Str × Addr)} {use:Option (Value->Sem Unit)} {Q:Value->Shared->Prop} {A:Around} (hA:br n A)
   {target:Expr} {rest:Addr->Addr->Value->Sem PySem.Fin} {p:Pos} {acc0:LO} {ao:Obj}
   (hcl:clausesOf e=g::gs) (hs:∀ x,foldedSetIterable g.iter env x=pure x) (hclos:closureFor scope env=pure cl) (hkind:scope.kind=.function)
   (hnames:∀ x∈scope.names,x.2=.local->scope.names.lookup x.1=some .local) (hpush:∀ h,pushCells h scope.names=h.push ir) (hcf:∀ C:Addr,cellsFrom (C+1) scope.names cl=clf C)
   (hacc:∀ (s:Shared) (Q:Value->Shared->Prop),Q (.ref s.heap.objs.size) { s with heap:=s.heap.push ao }->wpAny (Mo c.w) A newAcc Q dh s)
   (hao:∀ h:Heap,RO c.w.params (h.push ao) h.objs.size acc0)
   (hturn:∀ D C it,compTurn e 0 it (.ref D) (compEnvC scope (clf C) C env)=(standAt p >>= λ_=>pyNext it >>= λr=>match r with
     | none=>pure (.done .next)
     | some v=>letOwnedTupleGo target it v >>= λ_=>assign target (compEnvC scope (clf C) C env) v >>= λ_=>rest D C it))
   (hcs:∀ D C it,compStart e 0 it (.ref D) (compEnvC scope (clf C) C env)=(ask >>= λx=>if x.params.followText "comprehension-iter-twice"=true then again (.compLoop e 0 it (.ref D) (compEnvC scope (clf C) C env)) else do
     rule "comprehension.iter-twice"
     if let some g:=(clausesOf e)[0]? then standAt g.iter.pos
     again (.compLoop e 0 (<-pyIter it) (.ref D) (compEnvC scope (clf C) C env))))
   (hfr:∀ D C it,(Code.compLoop e 0 it (.ref D) (compEnvC scope (clf C) C env)).isFrame=false) (hfr2:∀ D C it,(Code.compStart e 0 it (.ref D) (compEnvC scope (clf C) C env)).isFrame=false)
   (hq:∀ D C it,(Code.compLoop e 0 it (.ref D) (compEnvC scope (clf C) C env)).quiet=true) (hu:∀ (A:Around) D C it,A.under (.compLoop e 0 it (.ref D) (compEnvC scope (clf C) C env))=A) (hu2:∀ (A:Around) D C it,A.under (.compStart e 0 it (.ref D) (compEnvC scope (clf C) C env))=A)
   (S:St c le σ tmp s)
   (h:WV n c first le σ λx σ1=>∃ σ2 items Z,uV n c target x le σ1 σ2 items Z/\∀ D C it,D∉σ2.map (·.1)->C∉σ2.map (·.1)->C+1∉σ2.map (·.1)->C≠D->C+1≠D ->
     CL n c target (compEnvC scope (clf C) C env) (rest D C it) (.compLoop e 0 it (.ref D) (compEnvC scope (clf C) C env)) Z (λle' σ'=>(∃ l,(C,.frame l)∈σ')/\∀ s',St c le' σ' tmp s'->compPost (Mo c.w) A dh use Q (.ref D) C (.ok .next) s') items le ((C+1,.cell none)::(C,.frame [])::(D,acc0)::σ2)) :
   wpAny (Mo c.w) A (comprehension e scope env pos newAcc false first use) Q dh s:=by
 refine wpAny_comprehension_free hcl hs hclos hkind hnames (wpAny_mono (h A hA tmp s S) (λvx s1 hp=>?_) λ_ _ x=>x);refine bb hp λx σ1 S1 y0_=>?_;refine md y0_ λσ2 items Z hoi hCL=>?_;refine wpAny_mono (hoi A hA tmp s1 vx S1.drop1 (S1.tm _ (.head _))) (λit s2 hp=>?_) λ_ _ x=>x;refine du hp λJ N hsi S2=>?_;refine hacc s2 _ ?_;have S3:=S2.new (hao s2.heap);have hD:s2.heap.objs.size∉σ2.map (·.1):=λhm=>Nat.lt_irrefl _ (S2.key_lt hm)
 refine n7 ?_;rw [hpush,hcf];have S4:=S3.frameNew (t:=s2.toks) (h':=(s2.heap.push ao).push { cls:=.type "dict",data:=.dict #[] }) (o:={ cls:=.type "dict",data:=.dict #[] }) S3.tk (Heap.Ns.new ..) (Heap.SameBut.refl ..);have e5:((s2.heap.push ao).push { cls:=.type "dict",data:=.dict #[] }).objs.size=(s2.heap.push ao).objs.size+1:=Heap.size_push ..;have S5:=S4.new (o:=ir) (lo:=.cell none) ⟨ir,Heap.get?_push_size _ rfl,rfl⟩;have hC:(s2.heap.push ao).objs.size∉σ2.map (·.1):=λhm=>Nat.lt_irrefl _ (S3.key_lt (.tail _ hm))
 have hC1:(s2.heap.push ao).objs.size+1∉σ2.map (·.1):=λhm=>absurd (S3.key_lt (.tail _ hm)) (Nat.not_lt.mpr (Nat.le_succ _))
 have hCD:(s2.heap.push ao).objs.size≠s2.heap.objs.size:=by rw [Heap.size_push];exact Nat.succ_ne_self _
 have hC1D:(s2.heap.push ao).objs.size+1≠s2.heap.objs.size:=by rw [Heap.size_push];exact Nat.ne_of_gt (Nat.lt_succ_of_lt (Nat.lt_succ_self _))
 have L:=hCL s2.heap.objs.size (s2.heap.push ao).objs.size it hD hC hC1 hCD hC1D;rw [show ({ s2 with heap:=(s2.heap.push ao).push { cls:=.type "dict",data:=.dict #[] },toks:=s2.toks }:Shared).heap.objs.size=(s2.heap.push ao).objs.size+1 from e5] at S5
 refine e9 (env:=compEnvC scope (clf (s2.heap.push ao).objs.size) (s2.heap.push ao).objs.size env) (J:=J 0) (tmp:=tmp) hA S5 hsi (hcs _ _ _) (hfr2 _ _ _) (hq _ _ _) (λA=>hu2 A _ _ _) λs' S'=>?_;have R:=kQ (env:=compEnvC scope (clf (s2.heap.push ao).objs.size) (s2.heap.push ao).objs.size env) (tmp:=tmp) hA N (hturn s2.heap.objs.size _ it) (hfr _ _ _) (hq _ _ _) (λA=>hu A _ _ _) items.length s' ⟨Nat.le_refl _,le,_,by rw [Nat.sub_self];exact S',by rw [Nat.sub_self];exact L⟩
 refine codeAny_mono R (λr s5 h5=>?_);refine bh h5 λer y1_=>?_;refine bl y1_ λle5 σ5 S5 y2_ h6=>?_;obtain ⟨l,hl⟩:=y2_;subst er;exact h6 s5 S5
noncomputable def pS (i1:Expr) (e:Expr) (env:Env) (D:Addr) (cd:Code):Sem PySem.Fin :=
 eval i1 env >>= λx=>standAt i1.pos >>= λ_=>foldedSetIterable i1 env x >>= λx=>holding [x] (pyIter x) >>= λit=>runOwn (.compStart e 1 it (.ref D) env) env >>= λ_=>again cd
theorem xd {i1 e target:Expr} {D:Addr} {cd:Code} {p:Pos} {rest:Value->Sem PySem.Fin} {K:ak->aa->Prop}
   (h:WV n c (eval i1 env) le σ λx σ1=>∃ σ2 items Z,uV n c target x le σ1 σ2 items Z/\∀ it,CL n c target env (rest it) (.compLoop e 1 it (.ref D) env) Z K items le σ2)
   (hs:∀ x,foldedSetIterable i1 env x=pure x)
   (hturn:∀ it,compTurn e 1 it (.ref D) env=(standAt p >>= λ_=>pyNext it >>= λr=>match r with
     | none=>pure (.done .next)
     | some v=>letOwnedTupleGo target it v >>= λ_=>assign target env v >>= λ_=>rest it))
   (hcs:∀ it,compStart e 1 it (.ref D) env=(ask >>= λx=>if x.params.followText "comprehension-iter-twice"=true then again (.compLoop e 1 it (.ref D) env) else do
     rule "comprehension.iter-twice"
     if let some g:=(clausesOf e)[1]? then standAt g.iter.pos
     again (.compLoop e 1 (<-pyIter it) (.ref D) env)))
   (hfr:∀ it,(Code.compLoop e 1 it (.ref D) env).isFrame=false) (hfr2:∀ it,(Code.compStart e 1 it (.ref D) env).isFrame=false)
   (hq:∀ it,(Code.compLoop e 1 it (.ref D) env).quiet=true) (hu:∀ (A:Around) it,A.under (.compLoop e 1 it (.ref D) env)=A) (hu2:∀ (A:Around) it,A.under (.compStart e 1 it (.ref D) env)=A) :
   WR n c (pS i1 e env D cd) cd le σ K:=λA hA tmp s S=>by
 unfold pS;refine wpAny_bind (wpAny_mono (h A hA tmp s S) (λvx s1 hp=>?_) λ_ _ x=>x);refine bb hp λx σ1 S1 y3_=>?_;refine md y3_ λσ2 items Z hoi hCL=>?_;rw [hs];refine wpAny_bind (wpAny_standAt (wpAny_bind (wpAny_pure (wpAny_bind (wpAny_holding (wpAny_mono (hoi A hA tmp s1 vx S1.drop1 (S1.tm _ (.head _))) (λit s2 hp=>?_) λ_ _ x=>x))))));refine du hp λJ N hsi S2=>?_;refine wpAny_bind (wpAny_runOwn ?_);rw [fA];refine e9 (J:=J 0) (tmp:=tmp) hA S2 hsi (hcs it) (hfr2 it) (hq it) (λA=>hu2 A it) λs' S'=>?_;have R:=kQ (tmp:=tmp) hA N (hturn it) (hfr it) (hq it) (λA=>hu A it) items.length s' ⟨Nat.le_refl _,le,_,by rw [Nat.sub_self];exact S',by rw [Nat.sub_self];exact hCL it⟩
 refine codeAny_mono R (λr s5 h5=>?_);refine bh h5 λer y4_=>?_;refine bb y4_ λle5 σ5 S5 h6=>?_;subst er;exact wpAny_pure ⟨rfl,le5,σ5,S5,h6⟩
noncomputable abbrev nZ (elt t0 i0 t1 i1:Expr) (scope:Scope) (pos:Pos):Expr:=.ListComp elt [⟨t0,i0,[],0⟩,⟨t1,i1,[],0⟩] scope pos
theorem gz {elt t0 i0 t1 i1:Expr} {scope:Scope} {pos:Pos} {cl:List (Str × Addr)} {clf:Addr->List (Str × Addr)} {y:Expr} {spos:Pos} {K:LF->ak->aa->Prop}
   (h:WV n c (eval i0 env) le σ λx σ1=>∃ σ2 items Z,uV n c t0 x le σ1 σ2 items Z/\∀ D C it,D∉σ2.map (·.1)->C∉σ2.map (·.1)->C+1∉σ2.map (·.1)->C≠D->C+1≠D ->
     CL n c t0 (compEnvC scope (clf C) C env) (pS i1 (nZ elt t0 i0 t1 i1 scope pos) (compEnvC scope (clf C) C env) D (.compLoop (nZ elt t0 i0 t1 i1 scope pos) 0 it (.ref D) (compEnvC scope (clf C) C env))) (.compLoop (nZ elt t0 i0 t1 i1 scope pos) 0 it (.ref D) (compEnvC scope (clf C) C env)) Z
       (λle' σ'=>(∃ l,(C,.frame l)∈σ')/\g7 n c y env (.loc D) le' σ' λle2 σ2=>(∃ l,(C,.frame l)∈σ2)/\K .next le2 (bk C σ2)) items le ((C+1,.cell none)::(C,.frame [])::(D,.list [])::σ2))
   (hclos:closureFor scope env=pure cl) (hs:∀ x,foldedSetIterable i0 env x=pure x) (hkind:scope.kind=.function)
   (hnames:∀ x∈scope.names,x.2=.local->scope.names.lookup x.1=some .local) (hpush:∀ h,pushCells h scope.names=h.push ir) (hcf:∀ C:Addr,cellsFrom (C+1) scope.names cl=clf C)
   (hex:exec (.Assign [y] (nZ elt t0 i0 t1 i1 scope pos) spos) env=(do standAt spos;evalThenUse (nZ elt t0 i0 t1 i1 scope pos) env (assign y env);return .next)):WF n c (exec (.Assign [y] (nZ elt t0 i0 t1 i1 scope pos) spos) env) le σ K:=λA hA tmp s S=>by
 rw [hex];refine wpAny_bind (wpAny_standAt (wpAny_bind ?_));show wpAny _ A (do let _ <-comprehension (nZ elt t0 i0 t1 i1 scope pos) scope env _ (newList []) false (eval i0 env) (some (assign y env))) _ _ s
 refine wpAny_bind (wpAny_mono (Q:=λ_ s'=>PF c tmp K .next s') ?_ (λ_ s' hq=>wpAny_pure (wpAny_pure hq)) λ_ _ x=>x);refine jx (g:=⟨t0,i0,[],0⟩) (gs:=[⟨t1,i1,[],0⟩]) (cl:=cl) (clf:=clf) (target:=t0) (p:=i0.pos) (rest:=λD C it=>pS i1 (nZ elt t0 i0 t1 i1 scope pos) (compEnvC scope (clf C) C env) D (.compLoop (nZ elt t0 i0 t1 i1 scope pos) 0 it (.ref D) (compEnvC scope (clf C) C env))) (acc0:=.list []) (ao:=az [] 0) hA rfl hs hclos hkind hnames hpush hcf (λs Q=>gj s Q) (λh=>⟨[],0,Heap.get?_push_size _ rfl,.nil⟩)
   (λD C it=>by rfl) (λD C it=>by rfl) (λ_ _ _=>rfl) (λ_ _ _=>rfl) (λ_ _ _=>rfl) (λ_ _ _ _=>rfl) (λ_ _ _ _=>rfl) S ?_
 refine h.mono λx σ1 hp=>?_;refine md hp λσ2 items Z ho hc=>?_;exact ⟨σ2,items,Z,ho,λD C it h1 h2 h3 h4 h5=>(hc D C it h1 h2 h3 h4 h5).mono λle' σ' hp=>⟨hp.1,λs' S'=>eW hA S' hp.2⟩⟩
theorem fY {t elt target iter:Expr} {scope:Scope} {pos:Pos} {cl:List (Str × Addr)} {clf:Addr->List (Str × Addr)} {y:Expr} {spos:Pos} {K:LF->ak->aa->Prop}
   (h:WV n c (eval iter env) le σ λx σ1=>∃ σ2 items Z,uV n c target x le σ1 σ2 items Z/\∀ D C it,D∉σ2.map (·.1)->C∉σ2.map (·.1)->C+1∉σ2.map (·.1)->C≠D->C+1≠D ->
     CL n c target (compEnvC scope (clf C) C env) (h7 t elt (compEnvC scope (clf C) C env) D (.compLoop (me elt target iter [t] scope pos) 0 it (.ref D) (compEnvC scope (clf C) C env))) (.compLoop (me elt target iter [t] scope pos) 0 it (.ref D) (compEnvC scope (clf C) C env)) Z
       (λle' σ'=>(∃ l,(C,.frame l)∈σ')/\g7 n c y env (.loc D) le' σ' λle2 σ2=>(∃ l,(C,.frame l)∈σ2)/\K .next le2 (bk C σ2)) items le ((C+1,.cell none)::(C,.frame [])::(D,.list [])::σ2))
   (hclos:closureFor scope env=pure cl) (hs:∀ x,foldedSetIterable iter env x=pure x) (hkind:scope.kind=.function)
   (hnames:∀ x∈scope.names,x.2=.local->scope.names.lookup x.1=some .local) (hpush:∀ h,pushCells h scope.names=h.push ir) (hcf:∀ C:Addr,cellsFrom (C+1) scope.names cl=clf C)
   (hex:exec (.Assign [y] (me elt target iter [t] scope pos) spos) env=(do standAt spos;evalThenUse (me elt target iter [t] scope pos) env (assign y env);return .next)):WF n c (exec (.Assign [y] (me elt target iter [t] scope pos) spos) env) le σ K:=λA hA tmp s S=>by
 rw [hex];refine wpAny_bind (wpAny_standAt (wpAny_bind ?_));show wpAny _ A (do let _ <-comprehension (me elt target iter [t] scope pos) scope env _ (newList []) false (eval iter env) (some (assign y env))) _ _ s
 refine wpAny_bind (wpAny_mono (Q:=λ_ s'=>PF c tmp K .next s') ?_ (λ_ s' hq=>wpAny_pure (wpAny_pure hq)) λ_ _ x=>x);refine jx (g:=⟨target,iter,[t],0⟩) (gs:=[]) (cl:=cl) (clf:=clf) (target:=target) (p:=iter.pos) (rest:=λD C it=>h7 t elt (compEnvC scope (clf C) C env) D (.compLoop (me elt target iter [t] scope pos) 0 it (.ref D) (compEnvC scope (clf C) C env))) (acc0:=.list []) (ao:=az [] 0) hA rfl hs hclos hkind hnames hpush hcf (λs Q=>gj s Q) (λh=>⟨[],0,Heap.get?_push_size _ rfl,.nil⟩)
   (λD C it=>by rfl) (λD C it=>by rfl) (λ_ _ _=>rfl) (λ_ _ _=>rfl) (λ_ _ _=>rfl) (λ_ _ _ _=>rfl) (λ_ _ _ _=>rfl) S ?_
 refine h.mono λx σ1 hp=>?_;refine md hp λσ2 items Z ho hc=>?_;exact ⟨σ2,items,Z,ho,λD C it h1 h2 h3 h4 h5=>(hc D C it h1 h2 h3 h4 h5).mono λle' σ' hp=>⟨hp.1,λs' S'=>eW hA S' hp.2⟩⟩
end
noncomputable abbrev rB:List Stmt:=bG (bu 38)
noncomputable abbrev Bp:Stmt:=bw rB 1
noncomputable abbrev Bo (c:Cx):Env:=envOf (ofString "_law_row") (aE (bu 38)) c.L 250 (.ref 249)
theorem iJ (a:Int) {b:Int} (h:b.natAbs < 2 ^ 64):Builtin.divisionGoesByPylong a b=false:=by
 unfold Builtin.divisionGoesByPylong;have:b.natAbs.log2<=64:=by
   by_cases e:b.natAbs=0
   . rw [e];decide
   . exact Nat.le_of_lt ((Nat.log2_lt e).mpr h)
 simp only [Bool.and_eq_false_iff,decide_eq_false_iff_not];left;split<;>lia
theorem c9 {n:Nat} {c:Cx} {le:ak} {σ:aa} {a b:Int} {K:LV->aa->Prop} (hb:0 < b) (hb2:b < 2 ^ 60) (h:K (.int (a / b)) σ):OB n c (binaryOp .FloorDiv) (.int a) (.int b) le σ K :=
 wB (AJ hb) (iJ a (by lia)) (by rw [Int.fdiv_eq_ediv_of_nonneg _ (BA hb)];exact h)
theorem cM {n:Nat} {c:Cx} {le:ak} {σ:aa} {a b:Int} {K:LV->aa->Prop} (hb:0 < b) (h:K (.int (a % b)) σ):OB n c (binaryOp .Mod) (.int a) (.int b) le σ K :=
 jl (AJ hb) (by rw [Int.fmod_eq_emod_of_nonneg _ (BA hb)];exact h)
theorem uB:∀ f:Nat,f < 16->(ofString "-r").cps[((f:Int) / 8).toNat]?=some ((aW [45,83,115,120] f).getD 0 0)/\(ofString "-w").cps[((f:Int) / 4 % 2).toNat]?=some ((aW [45,83,115,120] f).getD 1 0) /\
   (ofString "-Ssx").cps[((f:Int) % 4).toNat]?=some ((aW [45,83,115,120] f).getD 2 0)/\(ofString "-Ttx").cps[((f:Int) % 4).toNat]?=some ((aW [45,84,116,120] f).getD 2 0):=by decide +kernel
theorem ui:∀ k:Nat,k < 8->(ofString "-?bcdlps").cps[(k:Int).toNat]?=some (cS k):=by decide +kernel
theorem lD (l:List Nat) (d:Nat):bd l++(⟨#[d]⟩:Str)=bd (l++[d]):=by
 show (⟨l.toArray++#[d]⟩:Str)=⟨(l++[d]).toArray⟩;congr 1;simp
theorem lO {c:Cx} {code:Int} {acc:List Nat} {le:ak} {σ:aa} {K:LF->ak->aa->Prop} (pw:Int) (dv:Int) (al:Str) (s:List Nat) (hpw:0<=pw/\pw<=2) (hdv:(16:Int) ^ pw.toNat=dv) (hdp:0 < dv/\dv<=256) (hal:[LV.str (ofString "-Ttx"),.str (ofString "-Ssx"),.str (ofString "-Ssx")][pw.toNat]?=some (.str al))
   (hs:(al=ofString "-Ssx"/\s=[45,83,115,120])\/(al=ofString "-Ttx"/\s=[45,84,116,120])) (hacc:acc.length<=20)
   (H:aR le [(ofString "power",.int pw),(ofString "code",.int code),(ofString "row",.str (bd acc))])
   (h:∀ le',aR le' [(ofString "code",.int code),(ofString "row",.str (bd (acc++aW s (code / dv % 16))))]->K .next le' σ) :
   WF 3 c (execs (cy Bp) (Bo c)) le σ K:=by
 refine ae ?_;refine ax ?_;refine ah (ah (ac (H.get rfl) ?_));refine ah (aq (ac (H.get rfl) (rM hpw.1 (BB hpw) (by decide) ?_)))
 rw [hdv];refine c9 hdp.1 (by lia) (aq (cM (by decide) ?_))
 refine ap (dj (x:=code / dv % 16) (b:=16) (Int.emod_nonneg _ (by decide)) (Int.emod_lt_of_pos _ (by decide))) λf hf ef=>?_
 rw [ef] at h ⊢;have H1:=H.put (ofString "four") (.int (f:Nat));generalize an (ofString "four") (LV.int (f:Nat)) le=le1 at H1 ⊢;refine mN (uB f hf) λc1 c2 c3 c4=>?_;have lm:∀ l:List Nat,(bd l).length=l.length:=λl=>by show l.toArray.size=l.length;rw [List.size_toArray]
 have l1:∀ d:Nat,(⟨#[d]⟩:Str).length=1:=λd=>rfl;have hlast:al.cps[((f:Int) % 4).toNat]?=some ((aW s f).getD 2 0):=by
   rcases hs with ⟨rfl,rfl⟩ | ⟨rfl,rfl⟩
   . exact c3
   . exact c4
 have h01:(aW s f).getD 0 0=(aW [45,83,115,120] f).getD 0 0/\(aW s f).getD 1 0=(aW [45,83,115,120] f).getD 1 0:=⟨rfl,rfl⟩;refine ae ?_;refine ax ?_;refine ah (ah (ah (ac (H1.get rfl) ?_)));refine aV (aB (ah (ac (H1.get rfl) (aq (c9 (by decide) (by decide) (lG (by lia) (by lia) c1 ?_))))))
 refine aO (by rw [lm,l1];lia) ?_
 rw [lD];refine aV (aB (ah (ah (ac (H1.get rfl) (aq (c9 (by decide) (by decide) (aq (cM (by decide) (lG (by lia) (by lia) c2 ?_)))))))))
 refine aO (by rw [lm,l1];simp;exact J1 hacc rfl) ?_
 rw [lD];refine aV (aV ?_);refine bQ (af (aB (af (aB (af (aB (am ⟨av (by decide),?_⟩)))))))
 refine ac (H1.get rfl) (lH (j:=pw.toNat) (by lia) (by lia) ?_ hal ?_)
 . have e3:pw=0\/pw=1\/pw=2:=by lia
   rcases e3 with e3 | e3 | e3<;>(rw [e3];rfl)
 refine ah (ac (H1.get rfl) (aq (cM (by decide) (lG (by lia) (by lia) hlast ?_))))
 refine aO (by rw [lm,l1];simp;exact J1 hacc rfl) ?_
 rw [lD];refine aw (h _ ?_);have e:acc++[(aW [45,83,115,120] (f:Int)).getD 0 0]++[(aW [45,83,115,120] (f:Int)).getD 1 0]++[(aW s (f:Int)).getD 2 0]=acc++aW s (f:Int):=by
   rw [List.append_assoc,List.append_assoc];rfl
 rw [e];refine (H1.put (ofString "row") _).sub ?_;exact aR.add (aR.add (aR.nil_ _) rfl) rfl
set_option maxHeartbeats 0 in
theorem wW {w:World} {code:Int} {σ:aa} {K:LV->aa->Prop} (hc:cK code) (h:K (.str (aP code)) σ):FS 4 w 250 [.int code] σ K:=by
 refine dw (names:=[ofString "code"]) (dl:=[]) (dv:=[]) (hK:=by exact rfl) (hc:=by decide +kernel) ?_ (λ_ _=>.nil) (by decide) rfl (by decide +kernel) (by decide +kernel) (by decide +kernel) (by decide +kernel) (by decide +kernel) ?_
 . intro s vs _ hl;refine aH (lz hl) λu z0_=>?_;clear hl;obtain rfl:=z0_;exact BindsTo.of_eq (by kernel_rfl!)
 . intro c hc0;subst hc0;refine cH ?_;refine bh hc λh0 h1=>?_;refine ap (dj (x:=code / 4096) (b:=8) (BC h0) (BD h1)) λk hk ek=>?_;refine ae ?_;refine ax (aV (aB (ah (ac rfl (aq (c9 (by decide) (by decide) (lG (d:=cS k) (by lia) (by lia) ?_ ?_)))))))
   . rw [ek];exact ui k hk
   have H0:aR (an (ofString "row") (LV.str ⟨#[cS k]⟩) ([ofString "code"].zip ([.int code]++[]))) [(ofString "code",.int code),(ofString "row",.str (bd [cS k]))]:=by
     exact aR.add (aR.add (aR.nil_ _) rfl) rfl
   generalize an (ofString "row") (LV.str ⟨#[cS k]⟩) ([ofString "code"].zip ([.int code]++[]))=le0 at H0 ⊢;refine ae ?_;refine dC (h:=?_);refine bQ (af (aq (af (aq (af (aq (am ⟨av (by decide),?_⟩)))))))
   refine ⟨_,_,_,rO,?_⟩;refine ⟨trivial,a9 ?_⟩;refine lO (acc:=[cS k]) 2 256 (ofString "-Ssx") [45,83,115,120] (by decide) (by decide) (by decide) rfl (.inl ⟨rfl,rfl⟩) (by simp) (H0.put (ofString "power") (.int 2)) λle1 H1=>?_
   refine ⟨trivial,a9 ?_⟩;refine lO 1 16 (ofString "-Ssx") [45,83,115,120] (by decide) (by decide) (by decide) rfl (.inl ⟨rfl,rfl⟩) (by simp [aW]) (H1.put (ofString "power") (.int 1)) λle2 H2=>?_
   refine ⟨trivial,a9 ?_⟩;refine lO 0 1 (ofString "-Ttx") [45,84,116,120] (by decide) (by decide) (by decide) rfl (.inr ⟨rfl,rfl⟩) (by simp [aW]) (H2.put (ofString "power") (.int 0)) λle3 H3=>?_
   refine ⟨trivial,aw ?_⟩;refine ae ?_;refine bE (ac (H3.get rfl) ?_);have e:[cS k]++aW [45,83,115,120] (code / 256 % 16)++aW [45,83,115,120] (code / 16 % 16)++aW [45,84,116,120] (code / 1 % 16)=bq code:=by
     unfold bq;rw [ek,Int.ediv_one];simp only [List.cons_append,List.nil_append,List.append_assoc]
   rw [e];exact h
theorem zh {a b:Int} (h:b.natAbs < 2 ^ 60):IntMulOk a b:=by
 refine IntMulOk.of_right ?_;unfold Builtin.Int.intBits;split
 . decide
 . have:=(Nat.log2_lt (n:=b.natAbs) (k:=60) (by intro e;simp_all)).mpr h
   lia
theorem gF {n:Nat} {c:Cx} {le:ak} {σ:aa} {a b:Int} {K:LV->aa->Prop} (h:b.natAbs < 2 ^ 60) (k:K (.int (a*b)) σ):OB n c (binaryOp .Mult) (.int a) (.int b) le σ K:=wD (zh h) k
noncomputable def jB (k n:Int):Int:=if n / 65536 % 4 / 2=0 then n / 4096 % 16 else k
noncomputable def jG (r n:Int):Int:=if n / 65536 % 4 % 2=0 then n % 4096 else r
noncomputable def bX (k r:Int):List Int->List (Int × Int)
 | []=>[(k,r)]
 | n::ns=>(k,r)::bX (jB k n) (jG r n) ns
theorem lx:∀ (ns:List Int) (k r:Int),(bX k r ns).length=ns.length+1:=by
 intro ns;induction ns with
 | nil=>intro k r;rfl
 | cons n ns ih=>intro k r;rw [bX,List.length_cons,ih];rfl
noncomputable def jT (r p:Int):Int:=r / 8 ^ p.toNat % 8
noncomputable def jP (r p:Int):Int:=r / 2 ^ (9+p).toNat % 2
noncomputable def nc (r c p:Int):Int:=c*16+jT r p / 2*4+jP r p+jT r p % 2*(3 - 2*jP r p)
noncomputable def jj (k:Int):Int:=[1,6,3,1,4,1,2,1,0,1,5,1,7,1,1,1].getD k.toNat 0
noncomputable def cY (p:Int × Int):Int:=nc p.2 (nc p.2 (nc p.2 (jj p.1) 2) 1) 0
noncomputable def j6 (ns:List Int):List Int:=(bX 8 0 ns).map cY
noncomputable abbrev cB:List Stmt:=bG (bu 37)
noncomputable abbrev vp:Stmt:=bw cB 2
noncomputable abbrev sM:Stmt:=bw cB 4
noncomputable abbrev zU:Stmt:=bw (cy sM) 1
noncomputable abbrev yX (c:Cx):Env:=envOf (ofString "_law_codes") (aE (bu 37)) c.L 243 (.ref 242)
theorem yS {a b:LV} {w:Int} (h0:0<=w) (h:w < 2):∃ j:Nat,seqIndex? w ([a,b]:List LV).length=some j/\([a,b]:List LV)[j]?=some (if w=0 then a else b):=by
 have:w=0\/w=1:=by lia
 rcases this with rfl | rfl
 . exact ⟨0,rfl,rfl⟩
 . exact ⟨1,rfl,rfl⟩
set_option maxHeartbeats 0 in
theorem oW {c:Cx} {ka ra na:Addr} {all:List Int} {σ0:aa} {K:LF->ak->aa->Prop} (hna:(na,.list (all.map .int))∈σ0) (hnk:na≠ka) (hnr:na≠ra) (hkr:ka≠ra):∀ (ns:List Int) (dk dr:List Int) (k r:Int) (le:ak) (σ:aa),
   dk.length+ns.length<=1000->dr.length=dk.length->aR le [(ofString "kinds",.loc ka),(ofString "rights",.loc ra)]->aI [ka,ra] σ0 σ->(ka,.list ((dk++[k]).map .int))∈σ->(ra,.list ((dr++[r]).map .int))∈σ ->
   (∀ le' σ',aR le' [(ofString "kinds",.loc ka),(ofString "rights",.loc ra)]->aI [ka,ra] σ0 σ'->(ka,.list ((dk++(bX k r ns).map (·.1)).map .int))∈σ'->(ra,.list ((dr++(bX k r ns).map (·.2)).map .int))∈σ'->K .next le' σ') ->
   cW 6 c (fu vp) (cy vp) (fq vp) (yX c) (λσ=>(na,.list (all.map .int))∈σ) K (ns.map .int) le σ:=by
 intro ns;induction ns with
 | nil =>
   intro dk dr k r le σ _ _ H kp hk hr h;exact ⟨kp _ hna (by simp [hnk,hnr]),aw (h le σ H kp hk hr)⟩
 | cons x ns ih =>
   intro dk dr k r le σ hl hdr H kp hk hr h;refine ⟨kp _ hna (by simp [hnk,hnr]),?_⟩
   refine a9 ?_;have H1:=H.put (ofString "number") (.int x);generalize an (ofString "number") (LV.int x) le=le1 at H1 ⊢;refine ae ?_;refine ax (ah (ah (ac (H1.get rfl) (aq (c9 (by decide) (by decide) (aq (cM (by decide) ?_)))))))
   have H2:=H1.put (ofString "way") (.int (x / 65536 % 4));generalize an (ofString "way") (LV.int (x / 65536 % 4)) le1=le2 at H2 ⊢;have hkm:(ka,LO.list (dk.map LV.int++[.int k]))∈σ:=by rw [List.map_append] at hk;exact hk
   refine aH (Up.ex (o':=.list ((dk++[k]).map LV.int++[.int (jB k x)])) hk) λσ1 u1=>?_;refine ap (yS (a:=.int (x / 4096 % 16)) (b:=.int k) (w:=x / 65536 % 4 / 2) (BF rfl) (BG rfl)) λj1 ej1 ev1=>?_;refine ae ?_;refine a8 ?_;refine aG ?_;refine ac (H2.get rfl) ?_;refine bi hk PySem.F.slot_list_append PySem.F.type_list_append (af ?_);refine aV (bQ (af ?_));refine ah (ah (ac (H2.get rfl) (aq (c9 (by decide) (by decide) (aq (cM (by decide) ?_))))))
   refine af (aV (ac (H2.get rfl) (cI (aq (fg (b8 hkm (am ⟨av (by simp),?_⟩)))))))
   refine ah (ac (H2.get rfl) (aq (c9 (by decide) (by decide) (lH (BF rfl) (BG rfl) ej1 ev1 ?_))))
   have ek:(if x / 65536 % 4 / 2=0 then LV.int (x / 4096 % 16) else .int k)=.int (jB k x):=by unfold jB;split<;>rfl
   rw [ek];refine am (bj u1 (av (by rw [List.length_map,List.length_append];simp;exact zE hl rfl)) ⟨trivial,?_⟩)
   have hr1:=u1.old hr (Ne.symm hkr);have hrm:(ra,LO.list (dr.map LV.int++[.int r]))∈σ1:=by rw [List.map_append] at hr1;exact hr1
   refine aH (Up.ex (o':=.list ((dr++[r]).map LV.int++[.int (jG r x)])) hr1) λσ2 u2=>?_;refine ap (yS (a:=.int (x % 4096)) (b:=.int r) (w:=x / 65536 % 4 % 2) (BH rfl) (BI rfl)) λj2 ej2 ev2=>?_;refine ae ?_;refine a8 ?_;refine aG ?_;refine ac (H2.get rfl) ?_;refine bi hr1 PySem.F.slot_list_append PySem.F.type_list_append (af ?_);refine aV (bQ (af ?_));refine ah (ac (H2.get rfl) (aq (cM (by decide) ?_)))
   refine af (aV (ac (H2.get rfl) (cI (aq (fg (b8 hrm (am ⟨av (by simp),?_⟩)))))))
   refine ah (ac (H2.get rfl) (aq (cM (by decide) (lH (BH rfl) (BI rfl) ej2 ev2 ?_))))
   have er:(if x / 65536 % 4 % 2=0 then LV.int (x % 4096) else .int r)=.int (jG r x):=by unfold jG;split<;>rfl
   rw [er];refine am (bj u2 (av (by rw [List.length_map,List.length_append];simp;lia)) ⟨trivial,aw ?_⟩)
   refine ih (dk++[k]) (dr++[r]) (jB k x) (jG r x) le2 σ2 (by rw [List.length_append];rw [List.length_cons] at hl;simp only [List.length_cons,List.length_nil];exact yV hl rfl) (by simp [hdr]) (H2.sub ?_) (((kp.trans (aI.up u1)).trans (aI.up u2)).mono (by simp)) ?_ ?_ ?_
   . exact aR.add (aR.add (aR.nil_ _) rfl) rfl
   . have:=u2.old u1.new hkr;rw [List.map_append (l₁:=dk++[k])];exact this
   . rw [List.map_append (l₁:=dr++[r])];exact u2.new
   . intro le' σ' H' kp' hk' hr';refine h le' σ' H' kp' ?_ ?_
     . rw [List.append_assoc] at hk';exact hk'
     . rw [List.append_assoc] at hr';exact hr'
theorem rg:∀ k:Nat,k < 16->(match (ofString "1631412101517111").cps[k]? with | some d=>PySem.intText? ⟨#[d]⟩==some (jj k) | none=>false)=true:=by decide +kernel
theorem px {k:Int} (h0:0<=k) (h:k < 16):∃ d,(ofString "1631412101517111").cps[k.toNat]?=some d/\PySem.intText? ⟨#[d]⟩=some (jj k):=by
 refine ap (dj (x:=k) (b:=16) h0 h) λi hi z0_=>?_;clear h0 h;obtain rfl:=z0_;have:=rg i hi;rw [Int.toNat_natCast];cases e:(ofString "1631412101517111").cps[i]? with
 | none=>rw [e] at this;cases this
 | some d=>rw [e] at this;exact ⟨d,rfl,by simpa using this⟩
noncomputable abbrev sL (ka ra ca:Addr):ak:=[(ofString "kinds",.loc ka),(ofString "rights",.loc ra),(ofString "codes",.loc ca)]
theorem i8 {c:Cx} {ka ra ca:Addr} {rs:List Int} {r code:Int} {j:Nat} {le:ak} {σ:aa} {K:LF->ak->aa->Prop} (pw e8 e2:Int) (hpw:0<=pw/\pw<=2) (h8:(8:Int) ^ pw.toNat=e8) (h2:(2:Int) ^ (9+pw).toNat=e2) (h8p:0 < e8/\e8 < 2 ^ 20) (h2p:0 < e2/\e2 < 2 ^ 20)
   (hra:(ra,.list (rs.map .int))∈σ) (hj:rs[j]?=some r) (hj2:j < 1000) (H:aR le ((ofString "power",.int pw)::(ofString "code",.int code)::(ofString "place",.int j)::sL ka ra ca))
   (h:∀ le',aR le' ((ofString "code",.int (nc r code pw))::(ofString "place",.int j)::sL ka ra ca)->K .next le' σ) :
   WF 6 c (execs (cy zU) (yX c)) le σ K:=by
 have hx:(rs.map LV.int)[(j:Int).toNat]?=some (.int r):=by rw [List.getElem?_map,Int.toNat_natCast,hj];rfl
 refine ae ?_;refine ax ?_;refine ah (ah (aV (ac (H.get rfl) (ac (H.get rfl) (bz hra (sH) (AR hj2 rfl) hx ?_)))));refine ah (aq (ac (H.get rfl) (rM hpw.1 (BB hpw) (by decide) ?_)))
 rw [h8];refine c9 h8p.1 (BN h8p h8) (aq (cM (by decide) ?_))
 have ef:r / e8 % 8=jT r pw:=by unfold jT;rw [h8]
 rw [ef];have hf:0<=jT r pw/\jT r pw < 8:=by rw [<-ef];exact Bu
 have H1:=H.put (ofString "figure") (.int (jT r pw));generalize an (ofString "figure") (LV.int (jT r pw)) le=le1 at H1 ⊢;refine ae ?_;refine ax ?_;refine ah (ah (aV (ac (H1.get rfl) (ac (H1.get rfl) (bz hra (sH) (AR hj2 rfl) hx ?_)))));refine ah (aq (ah (aq (ac (H1.get rfl) (bZ (rM (by lia) (by lia) (by decide) ?_))))))
 rw [h2];refine c9 h2p.1 (BN h2p h2) (aq (cM (by decide) ?_))
 have ea:r / e2 % 2=jP r pw:=by unfold jP;rw [h2]
 rw [ea];have ha:0<=jP r pw/\jP r pw < 2:=by rw [<-ea];exact ⟨Int.emod_nonneg _ (by decide),Int.emod_lt_of_pos _ (by decide)⟩
 have H2:=H1.put (ofString "above") (.int (jP r pw));generalize an (ofString "above") (LV.int (jP r pw)) le1=le2 at H2 ⊢;refine ae ?_;refine ax ?_;refine ah (ah (ah (ah (ac (H2.get rfl) (aq (gF (by decide) ?_))))))
 refine ah (ah (ac (H2.get rfl) (aq (c9 (by decide) (by decide) (aq (gF (by decide) (bZ ?_)))))))
 refine ac (H2.get rfl) (bZ ?_);refine ah (ah (ac (H2.get rfl) (aq (cM (by decide) ?_))))
 refine ah (aq (ah (aq (ac (H2.get rfl) (gF (by lia) (wE (gF (by lia) (bZ ?_))))))))
 refine aw (h _ ((H2.put (ofString "code") _).sub ?_));exact aR.add (aR.add (aR.add (aR.add (aR.add (aR.nil_ _) rfl) rfl) rfl) rfl) rfl
set_option maxHeartbeats 0 in
theorem oX {c:Cx} {ka ra ca:Addr} {kr:List (Int × Int)} {σ0:aa} {K:LF->ak->aa->Prop} (hka:(ka,.list ((kr.map (·.1)).map .int))∈σ0) (hra:(ra,.list ((kr.map (·.2)).map .int))∈σ0) (hck:ka≠ca) (hcr:ra≠ca) (hkr:∀ p∈kr,0<=p.1/\p.1 < 16) (hn:kr.length<=900) :
   ∀ (k j:Nat) (le:ak) (σ:aa),j+k=kr.length->aR le (sL ka ra ca)->aI [ca] σ0 σ->(ca,.list (((kr.take j).map cY).map .int))∈σ ->
     (∀ le' σ',aR le' (sL ka ra ca)->aI [ca] σ0 σ'->(ca,.list ((kr.map cY).map .int))∈σ'->K .next le' σ') ->
     cW 6 c (fu sM) (cy sM) (fq sM) (yX c) (λ_=>True) K ((List.range' j k).map λi=>LV.int (i:Nat)) le σ:=by
 intro k;induction k with
 | zero =>
   intro j le σ hj H kp hc h;have e:kr.take j=kr:=List.take_of_length_le (BO hj);rw [e] at hc;exact ⟨trivial,aw (h le σ H kp hc)⟩
 | succ k ih =>
   intro j le σ hj H kp hc h;have hlt:j < kr.length:=zD hj;obtain ⟨p,hp⟩:∃ p,kr[j]?=some p:=⟨_,List.getElem?_eq_getElem hlt⟩;have hpm:=hkr p (List.mem_of_getElem? hp);rw [List.range'_succ,List.map_cons];refine ⟨trivial,?_⟩;refine a9 ?_;have H1:=H.put (ofString "place") (.int j);generalize an (ofString "place") (LV.int (j:Nat)) le=le1 at H1 ⊢;have hka1:=kp _ hka (by simpa using hck)
   have hra1:=kp _ hra (by simpa using hcr)
   have hx:((kr.map (·.1)).map LV.int)[(j:Int).toNat]?=some (.int p.1):=by
     rw [List.getElem?_map,List.getElem?_map,Int.toNat_natCast,hp];rfl
   have hr:(kr.map (·.2))[j]?=some p.2:=by rw [List.getElem?_map,hp];rfl
   refine ap (px hpm.1 hpm.2) λd hd1 hd2=>?_;refine ae ?_;refine ax ?_;refine aC ?_;refine be (v:=.type "int") (by kernel_rfl!) (by kernel_rfl!) ?_
   refine cj (af ?_);refine aV (aB (aV (ac (H1.get rfl) (ac (H1.get rfl) (bz hka1 (by lia) (by lia) hx (lG (AS hpm rfl) (AT hpm rfl) hd1 ?_))))))
   refine am (qu hd2 (by show 1<=640;decide) ?_)
   have H2:=H1.put (ofString "code") (.int (jj p.1));generalize an (ofString "code") (LV.int (jj p.1)) le1=le2 at H2 ⊢;refine ae ?_;refine dC (h:=?_);refine bQ (af (aq (af (aq (af (aq (am ⟨av (by decide),?_⟩)))))))
   refine ⟨_,_,_,rO,?_⟩;refine ⟨trivial,a9 ?_⟩;refine i8 2 64 2048 (by decide) (by decide) (by decide) (by decide) (by decide) hra1 hr (AC hj hn rfl) (H2.put (ofString "power") (.int 2)) λle3 H3=>?_
   refine ⟨trivial,a9 ?_⟩;refine i8 1 8 1024 (by decide) (by decide) (by decide) (by decide) (by decide) hra1 hr (AC hj hn rfl) (H3.put (ofString "power") (.int 1)) λle4 H4=>?_
   refine ⟨trivial,a9 ?_⟩;refine i8 0 1 512 (by decide) (by decide) (by decide) (by decide) (by decide) hra1 hr (AC hj hn rfl) (H4.put (ofString "power") (.int 0)) λle5 H5=>?_
   refine ⟨trivial,aw ?_⟩;refine aH (Up.ex (o':=.list (((kr.take j).map cY).map LV.int++[.int (cY p)])) hc) λσ1 u1=>?_;refine ae ?_;refine a8 ?_;refine aG ?_;refine ac (H5.get rfl) ?_;refine bi hc PySem.F.slot_list_append PySem.F.type_list_append (af (ac (H5.get rfl) (am (bj u1 (av ?_) ⟨trivial,aw ?_⟩))))
   . rw [List.length_map,List.length_map,List.length_take];lia
   refine ih (j+1) le5 σ1 (Ax hj) (H5.sub ?_) ((kp.trans (aI.up u1)).mono (by simp)) ?_ h
   . exact aR.add (aR.add (aR.add (aR.nil_ _) rfl) rfl) rfl
   . have e:kr.take (j+1)=kr.take j++[p]:=by
       rw [List.take_add_one,hp];rfl
     rw [e,List.map_append,List.map_append];exact u1.new
theorem Ab:∀ (ns:List Int) (k r:Int),0<=k/\k < 16->0<=r/\r < 4096->∀ p∈bX k r ns,(0<=p.1/\p.1 < 16)/\0<=p.2/\p.2 < 4096:=by
 intro ns;induction ns with
 | nil =>
   intro k r hk hr p hp;rw [bX,List.mem_singleton] at hp;subst hp;exact ⟨hk,hr⟩
 | cons n ns ih =>
   intro k r hk hr p hp;rw [bX] at hp;rcases List.mem_cons.mp hp with rfl | hp
   . exact ⟨hk,hr⟩
   . refine ih _ _ ?_ ?_ p hp
     . unfold jB;split<;>lia
     . unfold jG;split<;>lia
set_option maxHeartbeats 0 in
theorem r5 {w:World} {na:Addr} {ns:List Int} {σ:aa} {K:LV->aa->Prop} (hna:(na,.list (ns.map .int))∈σ) (hn:ns.length<=14) (h:∀ ca σ',ca∉σ.map (·.1)->(∀ p∈σ,p∈σ')->(ca,.list ((j6 ns).map .int))∈σ'->K (.loc ca) σ'):FS 7 w 243 [.loc na] σ K:=by
 refine dw (names:=[ofString "numbers"]) (dl:=[]) (dv:=[]) (hK:=by exact rfl) (hc:=by decide +kernel) ?_ (λ_ _=>.nil) (by decide) rfl (by decide +kernel) (by decide +kernel) (by decide +kernel) (by decide +kernel) (by decide +kernel) ?_
 . intro s vs _ hl;refine aH (lz hl) λu z1_=>?_;clear hl;obtain rfl:=z1_;exact BindsTo.of_eq (by kernel_rfl!)
 . intro c hc0;subst hc0;refine cH ?_;refine bA λnd=>?_;refine ae ?_;refine ax (ba (af (aq (am ⟨av (by decide),λka hka=>?_⟩))))
   refine ae ?_;refine ax (ba (af (aq (am ⟨av (by decide),λra hra=>?_⟩))))
   have hnk:na≠ka:=λe=>hka (e ▸ List.mem_map.mpr ⟨_,hna,rfl⟩);have hnr:na≠ra:=λe=>hra (e ▸ List.mem_map.mpr ⟨_,.tail _ hna,rfl⟩);have hkr:ka≠ra:=λe=>hra (by rw [List.map_cons,<-e];exact .head _)
   refine ae ?_;refine dC (h:=?_);refine ac rfl ⟨_,_,_,iF (.tail _ (.tail _ hna)),?_⟩;refine oW (ka:=ka) (ra:=ra) (σ0:=(ra,.list [.int 0])::(ka,.list [.int 8])::σ) (.tail _ (.tail _ hna)) hnk hnr hkr ns [] [] 8 0 _ _ (by simp;exact J1 hn rfl) rfl ?_ (λq hq _=>hq) (.tail _ (.head _)) (.head _) λle1 σ1 H1 k1 hk1 hr1=>?_
   . exact aR.add (aR.add (aR.nil_ _) rfl) rfl
   rw [List.nil_append] at hk1 hr1;refine ae ?_;refine ax (ba (am ⟨av (by decide),λca hca=>?_⟩))
   have H2:=H1.put (ofString "codes") (.loc ca);generalize an (ofString "codes") (LV.loc ca) le1=le2 at H2 ⊢;have hkrl:=lx ns 8 0;refine ae ?_;refine dC (h:=?_);refine aC ?_;refine be (v:=.type "range") (by kernel_rfl!) (by kernel_rfl!) ?_
   refine cj (af ?_);refine aC ?_;refine be (v:=.builtin "len") (by kernel_rfl!) (by kernel_rfl!) ?_
   refine cz (af (ac (H2.get rfl) (am (cT (.tail _ hk1) (by rw [List.length_map,List.length_map];exact AD hkrl hn rfl) ?_))))
   rw [List.length_map,List.length_map];refine am (fF λr hr=>?_);refine ⟨_,_,_,og (dZ (.head _) (cG (bX 8 0 ns).length (BP hkrl hn)).1 (cG (bX 8 0 ns).length (BP hkrl hn)).2),?_⟩;rw [fB];have hkk:∀ q∈σ1,q.1≠ca:=λq hq e=>hca (e ▸ List.mem_map.mpr ⟨q,hq,rfl⟩);refine oX (ka:=ka) (ra:=ra) (ca:=ca) (kr:=bX 8 0 ns) (σ0:=(r,.raw (cP 0 ((bX 8 0 ns).length:Nat) 1))::(ca,.list [])::σ1) (.tail _ (.tail _ hk1)) (.tail _ (.tail _ hr1)) (hkk _ hk1) (hkk _ hr1) (λp hp=>(Ab ns 8 0 (by decide) (by decide) p hp).1) (AD hkrl hn rfl) (bX 8 0 ns).length 0 le2 _ (AU) (H2.sub ?_) (λq hq _=>hq) (.tail _ (.head _)) λle3 σ3 H3 k3 hc3=>?_
   . exact aR.add (aR.add (aR.add (aR.nil_ _) rfl) rfl) rfl
   have kk1:∀ p∈σ,p∈σ1:=λp hp=>k1 p (.tail _ (.tail _ hp)) (by
     simp only [List.mem_cons,List.not_mem_nil,or_false];rintro (e | e)
     . exact hka (e ▸ List.mem_map.mpr ⟨p,hp,rfl⟩)
     . exact hra (by rw [List.map_cons];exact .tail _ (e ▸ List.mem_map.mpr ⟨p,hp,rfl⟩))
   )
   refine ae ?_;refine bE (ac (H3.get rfl) ?_);refine h ca σ3 (λe=>?_) (λp hp=>k3 p (.tail _ (.tail _ (kk1 p hp))) (by simpa using hkk p (kk1 p hp))) hc3
   refine ap (List.mem_map.mp e) λp hp e=>?_;exact hkk p (kk1 p hp) e
section
variable {n:Nat} {c:Cx} {le:ak} {σ:aa} {env:Env}
theorem aI.again {D:Addr} {ch:List Addr} {σ0 σ σ2:aa} (k:aI (D::ch) σ0 σ) (k2:aI ch σ σ2):aI (D::ch) σ0 σ2:=(k.trans k2).mono λa h=>(List.mem_append.mp h).elim id (List.mem_cons_of_mem _)
theorem aI.upD {D:Addr} {ch:List Addr} {σ0 σ σ2:aa} {o o':LO} (k:aI (D::ch) σ0 σ) (u:Up D o o' σ σ2):aI (D::ch) σ0 σ2:=(k.trans (aI.up u)).mono λa h=>(List.mem_append.mp h).elim id λh=>by rw [List.mem_singleton] at h;rw [h];exact .head _
theorem nG {target elt:Expr} {E':Env} {D:Addr} {cd:Code} {Z:aa->Prop} {Kc:ak->aa->Prop} {σ0:aa} {ch:List Addr} {Inv:aa->Prop} (hInv:∀ σ σ' l l',Inv σ->Up D (.list l) (.list l') σ σ'->Inv σ') (hD:D∉ch) (hZ:∀ σ,aI (D::ch) σ0 σ->Z σ) {α:Type} {g f:α->LV} :
   ∀ (items:List α) (acc:List LV) (σ:aa),acc.length+items.length<=1000000 ->
   (∀ x∈items,∀ σ,aI (D::ch) σ0 σ->Inv σ->g7 n c target E' (g x) le σ λle1 σ1=>le1=le/\WV n c (eval elt E') le σ1 λv σ2=>v=f x/\aI ch σ σ2/\Inv σ2) ->
   aI (D::ch) σ0 σ->Inv σ->(D,.list acc)∈σ->(∀ σ',aI (D::ch) σ0 σ'->Inv σ'->(D,.list (acc++items.map f))∈σ'->Kc le σ') ->
   CL n c target E' (gY elt E' D cd) cd Z Kc (items.map g) le σ:=by
 intro items;induction items with
 | nil =>
   intro acc σ _ _ k hi hl fin;exact ⟨hZ σ k,fin σ k hi (by rw [List.map_nil,List.append_nil];exact hl)⟩
 | cons x xs ih =>
   intro acc σ hlen step k hi hl fin;refine ⟨hZ σ k,(step x (.head _) σ k hi).mono λle1 σ1 hh=>?_⟩;refine bh hh λz0_ hv=>?_;clear hh;obtain rfl:=z0_;refine gK (hv.mono λv σ2 hh=>?_);refine qS hh λz1_ k2 hi2=>?_;clear hh;obtain rfl:=z1_;refine aH (Up.ex (o':=.list (acc++[f x])) (k2 _ hl hD)) λσ3 u=>?_;refine ⟨acc,σ3,u,by rw [List.length_cons] at hlen;exact yG hlen rfl,?_⟩
   refine ih (acc++[f x]) σ3 (by rw [List.length_append];rw [List.length_cons] at hlen;simp only [List.length_cons,List.length_nil];exact yV hlen rfl) (λy hy=>step y (.tail _ hy)) ((k.again k2).upD u) (hInv _ _ _ _ hi2 u) u.new λσ' k' hi' hl'=>fin σ' k' hi' ?_
   rw [List.append_assoc] at hl';exact hl'
theorem fK {t target elt:Expr} {E':Env} {D:Addr} {cd:Code} {Z:aa->Prop} {Kc:ak->aa->Prop} {σ0:aa} {ch:List Addr} {Inv:aa->Prop} (hInv:∀ σ σ' l l',Inv σ->Up D (.list l) (.list l') σ σ'->Inv σ') (hD:D∉ch) (hZ:∀ σ,aI (D::ch) σ0 σ->Z σ) {α:Type} {g f:α->LV} {q:α->Bool} :
   ∀ (items:List α) (acc:List LV) (σ:aa),acc.length+items.length<=1000000 ->
   (∀ x∈items,∀ σ,aI (D::ch) σ0 σ->Inv σ->g7 n c target E' (g x) le σ λle1 σ1=>le1=le/\WB n c (isTrue t E' (eval t E')) le σ1 λb σ2=>b=q x/\aI ch σ σ2/\Inv σ2/\(b=true->WV n c (eval elt E') le σ2 λv σ3=>v=f x/\aI ch σ σ3/\Inv σ3)) ->
   aI (D::ch) σ0 σ->Inv σ->(D,.list acc)∈σ->(∀ σ',aI (D::ch) σ0 σ'->Inv σ'->(D,.list (acc++(items.filter q).map f))∈σ'->Kc le σ') ->
   CL n c target E' (h7 t elt E' D cd) cd Z Kc (items.map g) le σ:=by
 intro items;induction items with
 | nil =>
   intro acc σ _ _ k hi hl fin;exact ⟨hZ σ k,fin σ k hi (by rw [List.filter_nil,List.map_nil,List.append_nil];exact hl)⟩
 | cons x xs ih =>
   intro acc σ hlen step k hi hl fin;rw [List.length_cons] at hlen;refine ⟨hZ σ k,(step x (.head _) σ k hi).mono λle1 σ1 hh=>?_⟩;refine bh hh λz2_ hb=>?_;clear hh;obtain rfl:=z2_;refine oM (hb.mono λb σ2 hh=>?_);refine mN hh λeb k2 hi2 hv=>?_;cases b with
   | false =>
     rw [if_neg Bool.false_ne_true];refine ih acc σ2 (AE hlen rfl) (λy hy=>step y (.tail _ hy)) (k.again k2) hi2 (k2 _ hl hD) λσ' k' hi' hl'=>fin σ' k' hi' ?_;rw [List.filter_cons_of_neg (by rw [<-eb];exact Bool.false_ne_true)];exact hl'
   | true =>
     rw [if_pos rfl];refine (hv rfl).mono λv σ3 hh=>?_;refine qS hh λz3_ k3 hi3=>?_;clear hh;obtain rfl:=z3_;refine aH (Up.ex (o':=.list (acc++[f x])) (k3 _ hl hD)) λσ4 u=>?_;refine ⟨acc,σ4,u,yG hlen rfl,?_⟩;refine ih (acc++[f x]) σ4 (by rw [List.length_append];simp only [List.length_cons,List.length_nil];exact yV hlen rfl) (λy hy=>step y (.tail _ hy)) ((k.again k3).upD u) (hInv _ _ _ _ hi3 u) u.new λσ' k' hi' hl'=>fin σ' k' hi' ?_
     rw [List.filter_cons_of_pos eb.symm];rw [List.append_assoc] at hl';exact hl'
structure Rows (addrs:List Addr) (ls:List (List Int)) (σ:aa):Prop where
 len:addrs.length=ls.length
 each:∀ (i:Nat) (a:Addr) (l:List Int),addrs[i]?=some a->ls[i]?=some l->(a,.list (l.map .int))∈σ
theorem Rows.mono {addrs:List Addr} {ls:List (List Int)} {σ σ':aa} (R:Rows addrs ls σ) (k:∀ p∈σ,p.1∈addrs->p∈σ'):Rows addrs ls σ' :=
 ⟨R.len,λi a l ha hl=>k _ (R.each i a l ha hl) (List.mem_of_getElem? ha)⟩
end
noncomputable abbrev dB:List Stmt:=bG (bu 39)
noncomputable abbrev hH (c:Cx):Env:=xF (ofString "_law_due") (aE (bu 39)) c.L 255 (.ref 254)
theorem xx {n:Nat} {c:Cx} {le:ak} {target elt:Expr} {E':Env} {C D:Addr} {cd:Code} {Z:aa->Prop} {Kc:ak->aa->Prop} {σ0:aa} (hZ:∀ σ,aI [C,D] σ0 σ->Z σ) (hCD:C≠D) (hC0:(C∈σ0.map (·.1))) (hD0:D∈σ0.map (·.1))
   (step:∀ (x:Int) σ lf,(C,.frame lf)∈σ->g7 n c target E' (.int x) le σ λle1 σ1=>le1=le/\WV n c (eval elt E') le σ1 λv σ2=>∃ a,v=.loc a/\a∉σ.map (·.1)/\aI [C] σ σ2/\(a,.list ((au x).map .int))∈σ2/\∃ lf',(C,.frame lf')∈σ2) :
   ∀ (xs done:List Int) (addrs:List Addr) (σ:aa) (lf:ak),done.length+xs.length<=1000->Rows addrs (done.map au) σ->(∀ a∈addrs,a∉σ0.map (·.1))->aI [C,D] σ0 σ->(C,.frame lf)∈σ->(D,.list (addrs.map .loc))∈σ ->
     (∀ addrs' σ' lf',Rows addrs' ((done++xs).map au) σ'->(∀ a∈addrs',a∉σ0.map (·.1))->aI [C,D] σ0 σ'->(C,.frame lf')∈σ'->(D,.list (addrs'.map .loc))∈σ'->Kc le σ') ->
     CL n c target E' (gY elt E' D cd) cd Z Kc (xs.map .int) le σ:=by
 intro xs;induction xs with
 | nil =>
   intro done addrs σ lf _ R hf k hC hD fin;exact ⟨hZ σ k,fin addrs σ lf (by rw [List.append_nil];exact R) hf k hC hD⟩
 | cons x xs ih =>
   intro done addrs σ lf hlen R hf k hC hD fin;rw [List.length_cons] at hlen;refine ⟨hZ σ k,(step x σ lf hC).mono λle1 σ1 hh=>?_⟩;refine bh hh λz4_ hv=>?_;clear step hh;obtain rfl:=z4_;refine gK (hv.mono λv σ2 hh=>?_);refine Cr hh λa y0_ ha k2 ha2 y1_=>?_;refine aH y1_ λlf2 hC2=>?_;obtain rfl:=y0_;refine aH (Up.ex (o':=.list (addrs.map LV.loc++[.loc a])) (k2 _ hD (by simpa using Ne.symm hCD))) λσ3 u=>?_
   have hlr:=R.len;rw [List.length_map] at hlr;refine ⟨_,σ3,u,by rw [List.length_map];lia,?_⟩
   have haD:a≠D:=λe=>ha (e ▸ List.mem_map.mpr ⟨_,hD,rfl⟩);have hne:∀ b∈addrs,b≠C/\b≠D:=λb hb=>⟨λe=>hf b hb (e ▸ hC0),λe=>hf b hb (e ▸ hD0)⟩;have ha0:a∉σ0.map (·.1):=λe=>by
     refine ap (List.mem_map.mp e) λp hp e=>?_;by_cases hpc:p.1∈[C,D]
     . refine Or.elim (dc hpc) (λh=>?_) λh=>?_
       . exact ha (by rw [<-e,h];exact List.mem_map.mpr ⟨_,hC,rfl⟩)
       . exact ha (by rw [<-e,h];exact List.mem_map.mpr ⟨_,hD,rfl⟩)
     . exact ha (by rw [<-e];exact List.mem_map.mpr ⟨_,k p hp hpc,rfl⟩)
   have kk:∀ p∈σ,p.1∈addrs->p∈σ3:=λp hp hm=>u.old (k2 p hp (by simpa using (hne _ hm).1)) (hne _ hm).2
   refine ih (done++[x]) (addrs++[a]) σ3 lf2 (by rw [List.length_append];simp only [List.length_cons,List.length_nil];exact yV hlen rfl) ⟨?_,λi b l hb hl=>?_⟩ (λb hb=>?_) (((k.trans k2).trans (aI.up u)).mono (by simp)) (u.old hC2 hCD) (by rw [List.map_append];exact u.new) λaddrs' σ' lf' R'=>fin addrs' σ' lf' (by rw [List.append_assoc] at R';exact R')
   . rw [List.length_append,List.map_append,List.length_append,R.len];rfl
   . rw [List.map_append] at hl;by_cases hi:i < addrs.length
     . rw [List.getElem?_append_left hi] at hb;rw [List.getElem?_append_left (by rw [List.length_map];exact AV hi hlr)] at hl
       exact (R.mono kk).each i b l hb hl
     . rw [List.getElem?_append_right (by lia)] at hb
       rw [List.getElem?_append_right (by rw [List.length_map];lia)] at hl
       rw [List.length_map,<-hlr] at hl;cases hz:i - addrs.length with
       | zero =>
         rw [hz] at hb hl;obtain rfl:=Option.some.inj hb;obtain rfl:=Option.some.inj hl;exact u.old ha2 haD
       | succ j=>rw [hz] at hb;cases hb
   . refine Or.elim (List.mem_append.mp hb) (λhb=>?_) λhb=>?_
     . exact hf b hb
     . rw [List.mem_singleton] at hb;clear ha ha2 u haD;subst hb;exact ha0
noncomputable def yM (s:Stmt):Expr:=(xk (oO (some s)).1).1
noncomputable def s6 (s:Stmt):Scope:=(xk (oO (some s)).1).2.2.1
noncomputable def fN (cs:List Int) (u:Int):Nat:=cs.findIdx λd=>(au d).any (·==u)
theorem k9 {cs:List Int} {u:Int} {i:Nat} (hi:i < cs.length) (h1:(au (cs.getD i 0)).any (·==u)=true) (h2:∀ j,j < i->(au (cs.getD j 0)).any (·==u)=false):fN cs u=i:=by
 unfold fN;rw [List.findIdx_eq hi];refine ⟨?_,λj hj=>?_⟩
 . rw [List.getD_eq_getElem?_getD,List.getElem?_eq_getElem hi] at h1;exact h1
 . have:=h2 j hj;rw [List.getD_eq_getElem?_getD,List.getElem?_eq_getElem (J2 hj hi)] at this;exact this
theorem gh {C D:Addr} (h:C≠D):∀ σ σ' l l',(∃ lf,(C,LO.frame lf)∈σ)->Up D (.list l) (.list l') σ σ'->∃ lf,(C,LO.frame lf)∈σ':=λσ σ' l l' hx30_ u=>aH hx30_ λlf hC=>⟨lf,u.old hC h⟩
theorem xL (l:List Nat):(l.map λi=>LV.int (i:Nat))=(l.map λi=>((i:Nat):Int)).map .int:=by rw [List.map_map];rfl
theorem qW {c:Cx} {C ua:Addr} {addrs:List Addr} {cs:List Int} {u:Int} {le:ak} {σ:aa} {K:LV->aa->Prop} (hcode:(C+1,.cell (some (.int u)))∈σ) (hused:(c.L+1,.cell (some (.loc ua)))∈σ) (hua:(ua,.list (addrs.map .loc))∈σ) (R:Rows addrs (cs.map au) σ) (hn:cs.length < 16)
   (hu:∃ d∈cs,u∈au d) (h:∀ σ',(∀ p∈σ,p∈σ')->K (.int (32768*(fN cs u:Nat)+u)) σ') :
   WV 6 c (eval (yM (bw dB 3)) (compEnvC (s6 (bw dB 3)) [(ofString "code",C+1),(ofString "used",c.L+1)] C (hH c))) le σ K:=by
 have hlen:addrs.length=cs.length:=by have:=R.len;rwa [List.length_map] at this
 refine ah (ah (aq ?_));refine aC ?_;refine be (v:=.builtin "min") (by kernel_rfl!) (by kernel_rfl!) ?_
 refine cz (af ?_);refine eK (cl:=[(ofString "used",c.L+1),(ofString "code",C+1)]) (h:=?_) (hclos:=by rfl) (hs:=λx=>by rfl) (hkind:=by rfl) (hnames:=by decide +kernel) (hcell:=by decide +kernel)
 refine aC ?_;refine be (v:=.type "range") (by kernel_rfl!) (by kernel_rfl!) ?_
 refine cj (af ?_);refine aC ?_;refine be (v:=.builtin "len") (by kernel_rfl!) (by kernel_rfl!) ?_
 refine cz (af (aF hused (am (cT hua (by rw [List.length_map];exact BT hlen hn rfl) ?_)) (by rfl) (by first | exact .inl rfl | exact .inr rfl)))
 rw [List.length_map,hlen];refine am (fF λr hr=>?_);refine ⟨_,_,_,dZ (.head _) (cG cs.length hn).1 (cG cs.length hn).2,λD2 C2 it hD2 hC2 hCD2=>?_⟩;rw [fB];have hlD:∀ q∈(r,LO.raw (cP 0 (cs.length:Nat) 1))::σ,q.1≠D2:=λq hq e=>hD2 (e ▸ List.mem_map.mpr ⟨q,hq,rfl⟩);have hlC:∀ q∈(r,LO.raw (cP 0 (cs.length:Nat) 1))::σ,q.1≠C2:=λq hq e=>hC2 (e ▸ List.mem_map.mpr ⟨q,hq,rfl⟩);refine fK (D:=D2) (ch:=[C2]) (Inv:=λσ=>∃ lf,(C2,LO.frame lf)∈σ) (σ0:=(C2,.frame [])::(D2,.list [])::(r,LO.raw (cP 0 (cs.length:Nat) 1))::σ) (g:=λi:Nat=>LV.int i) (f:=λi:Nat=>LV.int i) (q:=λi:Nat=>(au (cs.getD i 0)).any (·==u)) (gh hCD2) (by simpa using Ne.symm hCD2) (λ_ _=>trivial) (List.range' 0 cs.length) [] _ (by simp;exact J5 hn rfl) (λi hi σ1 k1 hI=>?_) (λq hq _=>hq) ⟨_,.head _⟩ (.tail _ (.head _)) (λσ1 k1 hI hl1=>⟨rfl,hI,?_⟩)
 . refine aH hI λlf hC=>?_;have hi':i < cs.length:=by simpa using hi
   have km:∀ q∈σ,q∈σ1:=λq hq=>k1 q (.tail _ (.tail _ (.tail _ hq))) (by
     simp only [List.mem_cons,List.not_mem_nil,or_false];rintro (e | e)
     . exact hlD q (.tail _ hq) e
     . exact hlC q (.tail _ hq) e)
   refine eI hC (λσ2 k2 hC2'=>⟨rfl,?_⟩) rfl (by rfl) (by rfl)
   have km2:∀ q∈σ,q∈σ2:=λq hq=>k2 q (km q hq) (by simpa using hlC q (.tail _ hq))
   obtain ⟨a,ha⟩:∃ a,addrs[i]?=some a:=⟨_,List.getElem?_eq_getElem (zN hi' hlen)⟩;have hx:(addrs.map LV.loc)[(i:Int).toNat]?=some (.loc a):=by rw [List.getElem?_map,Int.toNat_natCast,ha];rfl
   have hcd:(cs.map au)[i]?=some (au (cs.getD i 0)):=by
     rw [List.getElem?_map,List.getD_eq_getElem?_getD,List.getElem?_eq_getElem hi'];rfl
   have hal:=km2 _ (R.each i a _ ha hcd);have hnm:(an (ofString "j") (LV.int (i:Nat)) lf).lookup (ofString "j")=some (.int (i:Nat)):=by rw [ag,if_pos rfl]
   refine aA (aF (km2 _ hcode) ?_ (by rfl) (by first | exact .inl rfl | exact .inr rfl))
   refine aV (aF (km2 _ hused) ?_ (by rfl) (by first | exact .inl rfl | exact .inr rfl))
   refine bf hC2' hnm (bz (km2 _ hua) (sH) (by lia) hx (lE hal ⟨_,rfl,rfl,k2,⟨_,hC2'⟩,λ_=>?_⟩)) rfl (by rfl) (by rfl)
   exact bf hC2' hnm ⟨rfl,k2,⟨_,hC2'⟩⟩ rfl (by rfl) (by rfl)
 . have km:∀ q∈σ,q∈bk C2 σ1:=λq hq=>aN (k1 q (.tail _ (.tail _ (.tail _ hq))) (by
     simp only [List.mem_cons,List.not_mem_nil,or_false];rintro (e | e)
     . exact hlD q (.tail _ hq) e
     . exact hlC q (.tail _ hq) e)) (hlC q (.tail _ hq))
   have hl2:=aN hl1 (Ne.symm hCD2);rw [List.nil_append,xL] at hl2;refine ap hu λd hd hud=>?_;refine aH (List.getElem_of_mem hd) λi0 y0_=>?_;refine aH y0_ λhi0 ed=>?_;have hq0:i0∈(List.range' 0 cs.length).filter λi:Nat=>(au (cs.getD i 0)).any (·==u):=by
     rw [List.mem_filter];refine ⟨by simpa using hi0,?_⟩
     rw [List.getD_eq_getElem?_getD,List.getElem?_eq_getElem hi0,Option.getD_some,ed];exact List.any_eq_true.mpr ⟨u,hud,by simp⟩
   refine am (ss hl2 (λe=>?_) λm hm hle=>?_)
   . rw [List.map_eq_nil_iff] at e;rw [e] at hq0;cases hq0
   refine ap (List.mem_map.mp hm) λi hi z0_=>?_;clear hm;obtain rfl:=z0_;rw [List.mem_filter] at hi;have hilt:i < cs.length:=by simpa using hi.1
   have hfi:fN cs u=i:=k9 hilt hi.2 λj hj=>by
     cases hq:(au (cs.getD j 0)).any (·==u) with
     | false=>rfl
     | true =>
       have:=hle j (List.mem_map.mpr ⟨j,List.mem_filter.mpr ⟨by simp;exact J2 hj hilt,hq⟩,rfl⟩)
       lia
   rw [<-hfi];refine gF (by rw [hfi];lia) ?_
   refine aF (km _ hcode) (bZ (h _ km)) (by rfl) (by first | exact .inl rfl | exact .inr rfl)
noncomputable def AG (s:Stmt):Expr:=(oO (some s)).1
noncomputable def sZ (k:Nat) (s:Stmt):Comprehension:=(xk (oO (some s)).1).2.1.getD k ⟨dE,dE,[],0⟩
noncomputable abbrev xf:Stmt:=bw dB 3
noncomputable abbrev mR (c:Cx) (C:Addr):Env:=compEnvC (s6 xf) [(ofString "code",C+1),(ofString "used",c.L+1)] C (hH c)
noncomputable def fc (cs:List Int) (u:Int):Int:=32768*(fN cs u:Nat)+u
set_option maxHeartbeats 0 in
theorem tP {c:Cx} {C D ua:Addr} {addrs:List Addr} {cs:List Int} {le:ak} {it0:Value} {σ0:aa} {Kc:ak->aa->Prop} (hused:(c.L+1,.cell (some (.loc ua)))∈σ0) (hua:(ua,.list (addrs.map .loc))∈σ0) (R:Rows addrs (cs.map au) σ0) (hn:cs.length < 16)
   (hCD:C≠D) (hC1D:C+1≠D) (hσ:∀ q∈σ0,q.1≠D/\q.1≠C/\q.1≠C+1) :
   ∀ (k j:Nat) (acc:List Int) (σ:aa),j+k=cs.length->acc.length<=3*j->(∀ q∈σ0,q∈σ)->(∃ lf,(C,.frame lf)∈σ)->(∃ y,(C+1,.cell y)∈σ)->(D,.list (acc.map .int))∈σ ->
     (∀ σ',(∀ q∈σ0,q∈σ')->(∃ lf,(C,.frame lf)∈σ')->(D,.list ((acc++((cs.drop j).flatMap au).map (fc cs)).map .int))∈σ'->Kc le σ') ->
     CL 6 c (sZ 0 xf).target (mR c C) (pS (sZ 1 xf).iter (AG xf) (mR c C) D (.compLoop (AG xf) 0 it0 (.ref D) (mR c C))) (.compLoop (AG xf) 0 it0 (.ref D) (mR c C)) (λσ=>(ua,.list (addrs.map .loc))∈σ) Kc ((addrs.drop j).map .loc) le σ:=by
 have hlen:addrs.length=cs.length:=by have:=R.len;rwa [List.length_map] at this
 intro k;induction k with
 | zero =>
   intro j acc σ hj hal km hC hC1 hD fin;have e1:addrs.drop j=[]:=List.drop_eq_nil_of_le (by lia)
   have e2:cs.drop j=[]:=List.drop_eq_nil_of_le (BO hj);rw [e1];refine ⟨km _ hua,fin σ km hC ?_⟩;rw [e2,List.flatMap_nil,List.map_nil,List.append_nil];exact hD
 | succ k ih =>
   intro j acc σ hj hal km hC hC1 hD fin;have hja:j < addrs.length:=by lia
   have hjc:j < cs.length:=zD hj;have e1:addrs.drop j=addrs[j]::addrs.drop (j+1):=List.drop_eq_getElem_cons hja;have e2:cs.drop j=cs[j]::cs.drop (j+1):=List.drop_eq_getElem_cons hjc;rw [e1,List.map_cons];refine aH hC λlf hCf=>?_;refine aH hC1 λy hC1=>?_;have hrow:=R.each j addrs[j] (au cs[j]) (List.getElem?_eq_getElem hja) (by rw [List.getElem?_map,List.getElem?_eq_getElem hjc];rfl)
   refine ⟨km _ hua,?_⟩;refine eI hCf (λσ1 k1 hCf1=>?_) rfl (by rfl) (by rfl)
   have km1:∀ q∈σ0,q∈σ1:=λq hq=>k1 q (km q hq) (by simpa using (hσ q hq).2.1)
   have hC11:=k1 _ hC1 (by simp)
   have hD1:=k1 _ hD (by simpa using Ne.symm hCD)
   refine xd (target:=(sZ 1 xf).target) (p:=(sZ 1 xf).iter.pos) (rest:=λit=>gY (yM xf) (mR c C) D (.compLoop (AG xf) 1 it (.ref D) (mR c C))) (h:=?_) (hs:=λx=>by rfl) (hturn:=λit=>by rfl) (hcs:=λit=>by rfl) (hfr:=λit=>rfl) (hfr2:=λit=>rfl) (hq:=λit=>rfl) (hu:=λA it=>rfl) (hu2:=λA it=>rfl)
   refine bf hCf1 (by rw [ag,if_pos rfl]) ?_ rfl (by rfl) (by rfl)
   refine ⟨_,_,_,cF (km1 _ hrow),λit=>?_⟩;refine nG (D:=D) (ch:=[C+1]) (Inv:=λσ=>(∃ y,(C+1,LO.cell y)∈σ)/\∃ lf,(C,LO.frame lf)∈σ) (σ0:=σ1) (g:=LV.int) (f:=λu=>.int (fc cs u)) (λσ2 σ3 l l' hI u=>?_) (by simpa using Ne.symm hC1D) (λσ2 k2=>k2 _ (km1 _ hrow) (by simp [(hσ _ hrow).1,(hσ _ hrow).2.2])) (au cs[j]) (acc.map .int) σ1 (by rw [List.length_map];simp [au];lia) (λu hu σ2 k2 hI=>?_) (λq hq _=>hq) ⟨⟨_,hC11⟩,⟨_,hCf1⟩⟩ hD1 (λσ2 k2 hI hD2=>?_)
   . refine bh hI λz0_ z1_=>?_;refine aH z0_ λy h1=>?_;refine aH z1_ λlf h2=>?_;exact ⟨⟨y,u.old h1 hC1D⟩,⟨lf,u.old h2 hCD⟩⟩
   . refine bh hI λz2_ z3_=>?_;refine aH z2_ λy2 h1=>?_;refine aH z3_ λlf2 h2=>?_;refine aH (Up.ex (o':=.cell (some (.int u))) h1) λσ3 u3=>?_;refine lW u3 ⟨rfl,?_⟩ (by rfl) (by rfl)
     have km3:∀ q∈σ0,q∈σ3:=λq hq=>u3.old (k2 q (km1 q hq) (by simp [(hσ q hq).1,(hσ q hq).2.2])) (hσ q hq).2.2
     refine qW u3.new (km3 _ hused) (km3 _ hua) (R.mono λq hq _=>km3 q hq) hn ⟨cs[j],List.getElem_mem hjc,hu⟩ λσ4 k4=>⟨rfl,λq hq hne=>k4 q (u3.old hq (by simpa using hne)),⟨⟨_,k4 _ u3.new⟩,⟨lf2,k4 _ (u3.old h2 (Nat.ne_of_lt (Nat.lt_succ_self C)))⟩⟩⟩
   . have km2:∀ q∈σ0,q∈σ2:=λq hq=>k2 q (km1 q hq) (by simp [(hσ q hq).1,(hσ q hq).2.2])
     refine ih (j+1) (acc++(au cs[j]).map (fc cs)) σ2 (Ax hj) (by simp [au];lia) km2 hI.2 hI.1 (by rw [List.map_append,List.map_map];exact hD2) λσ' k' hC' hD'=>fin σ' k' hC' ?_
     rw [e2,List.flatMap_cons,List.map_append (f:=fc cs),<-List.append_assoc];exact hD'
noncomputable def dS (N:List Int) (u:Int):Str:=ofString (toString ((N.idxOf u:Nat):Int))
theorem kc (N:List Int) (u:Int):ofString (toString ((N.idxOf u:Nat):Int))=dS N u:=rfl
noncomputable def ku (w:List Int) (i j:Nat):Bool:=((w.drop i).take (j - i)).all λx=>decide (w.getD i 0<=x)
noncomputable def co (w N:List Int) (j:Nat):List Nat->Str->Str
 | [],page=>page
 | i::is,page=>co w N j is (if ku w i j && decide (w.getD j 0 < w.getD i 0) then page++ofString "</n"++dS N (w.getD i 0)++ofString ":f>" else page)
structure DA where
 ua:Addr
 na:Addr
 wa:Addr
 ta:Addr
 va:Addr
 ca:Addr
 rows:List Addr
noncomputable def oB:List Str:=(λl=>l++l++l) [ofString "&amp;",ofString "&lt;",ofString "&gt;",ofString "\"",ofString "\t",ofString "\n",ofString "&#xD;",ofString "a"]
noncomputable def kB:List Str:=(λl=>l++l++l) [ofString "&amp;",ofString "&lt;",ofString ">",ofString "&quot;",ofString "&#x9;",ofString "&#xA;",ofString "&#xD;",ofString "a"]
structure DI (c:Cx) (X:DA) (cs N:List Int) (σ:aa):Prop where
 used:(c.L+1,.cell (some (.loc X.ua)))∈σ
 ua:(X.ua,.list (X.rows.map .loc))∈σ
 rows:Rows X.rows (cs.map au) σ
 needs:(c.L+1+1+1,.cell (some (.loc X.na)))∈σ
 na:(X.na,.list (N.map .int))∈σ
 walk:(c.L+1+1+1+1,.cell (some (.loc X.wa)))∈σ
 wa:(X.wa,.list ((cs++[-1]).map .int))∈σ
 ta:(X.ta,.list (oB.map .str))∈σ
 va:(X.va,.list (kB.map .str))∈σ
 ca:(X.ca,.list (cs.map .int))∈σ
theorem DI.mono {c:Cx} {X:DA} {cs N:List Int} {σ σ':aa} (h:DI c X cs N σ) (k:∀ q∈σ,q∈σ'):DI c X cs N σ' :=
 ⟨k _ h.used,k _ h.ua,h.rows.mono λq hq _=>k q hq,k _ h.needs,k _ h.na,k _ h.walk,k _ h.wa,k _ h.ta,k _ h.va,k _ h.ca⟩
structure DP (cs N:List Int):Prop where
 len:cs.length<=14
 val:∀ d∈cs,cK d
 has:∀ d∈cs,∀ u∈au d,u∈N
 nval:∀ u∈N,cK u
 nlen:N.length<=60
noncomputable abbrev dF (X:DA) (shift:Int):ak:=[(ofString "codes",.loc X.ca),(ofString "shift",.int shift),(ofString "texts",.loc X.ta),(ofString "values",.loc X.va)]
noncomputable abbrev tU:Stmt:=bw dB 7
noncomputable abbrev mL:Stmt:=bw (cy tU) 0
theorem iB {N:List Int} (hN:N.length<=60) (u:Int):(dS N u).length<=10/\((N.idxOf u:Nat):Int).natAbs.log2 < 1920:=fT (Nat.le_trans List.idxOf_le_length hN)
theorem eU {cs N:List Int} (P:DP cs N):∀ x∈N,x.natAbs < 2 ^ 40:=λx hx=>by
 have:=P.nval x hx;unfold cK at this;lia
theorem iT {cs:List Int} {i:Nat} (hi:i<=cs.length):(((cs++[-1]).map LV.int)[((i:Nat):Int).toNat]?=some (.int ((cs++[-1]).getD i 0))):=by
 have h:i < (cs++[-1]).length:=by simp;exact J4 hi
 rw [List.getElem?_map,Int.toNat_natCast,List.getD_eq_getElem?_getD,List.getElem?_eq_getElem h];rfl
theorem tn {w:List Int} {i j:Nat} {m:Int} (hij:i < j) (hj:j<=w.length) (hm:m∈(w.drop i).take (j - i)) (hle:∀ x∈(w.drop i).take (j - i),m<=x):(m==w.getD i 0)=ku w i j:=by
 have hi:i < w.length:=yU hij hj;have e:w.drop i=w[i]::w.drop (i+1):=List.drop_eq_getElem_cons hi;have hw:w.getD i 0=w[i]:=by rw [List.getD_eq_getElem?_getD,List.getElem?_eq_getElem hi];rfl
 have hin:w[i]∈(w.drop i).take (j - i):=by
   rw [e];obtain ⟨k,hk⟩:∃ k,j - i=k+1:=Ca hij;rw [hk,List.take_succ_cons];exact .head _
 rw [Bool.eq_iff_iff,beq_iff_eq];unfold ku;rw [hw,List.all_eq_true];constructor
 . rintro rfl x hx;exact decide_eq_true (hle x hx)
 . intro h;exact Int.le_antisymm (hle _ hin) (of_decide_eq_true (h m hm))
set_option maxHeartbeats 0 in
theorem qN {c:Cx} {X:DA} {cs N:List Int} {shift:Int} {j:Nat} {σ0:aa} {K:LF->ak->aa->Prop} (P:DP cs N) (hj:j<=cs.length) (I:DI c X cs N σ0) (hjc:(c.L+1+1,.cell (some (.int j)))∈σ0) {Z:aa->Prop} (hZ:∀ σ,(∀ q∈σ0,q∈σ)->Z σ) :
   ∀ (is:List Nat) (page:Str) (le:ak) (σ:aa),(∀ i∈is,i < j)->page.length+20*is.length<=900000->aR le ((ofString "page",.str page)::dF X shift)->(∀ q∈σ0,q∈σ) ->
     (∀ le' σ',aR le' ((ofString "page",.str (co (cs++[-1]) N j is page))::dF X shift)->(co (cs++[-1]) N j is page).length<=page.length+20*is.length->(∀ q∈σ0,q∈σ')->K .next le' σ') ->
     cW 6 c (fu mL) (cy mL) (fq mL) (hH c) Z K (is.map λi=>LV.int (i:Nat)) le σ:=by
 intro is;induction is with
 | nil =>
   intro page le σ _ _ H k h;exact ⟨hZ σ k,aw (h le σ H (Nat.le_add_right _ _) k)⟩
 | cons i is ih =>
   intro page le σ hi hl H k h;rw [List.length_cons] at hl;rw [List.map_cons];have hij:=hi i (.head _);have hnl:=P.len;refine ⟨hZ σ k,?_⟩;refine a9 ?_;have H1:=H.put (ofString "i") (.int i);generalize an (ofString "i") (LV.int (i:Nat)) le=le1 at H1 ⊢;have I1:=I.mono k;have hjc1:=k _ hjc;have hwl:(cs++[-1]).length=cs.length+1:=by simp
   refine ae ?_;refine bD ?_;refine cQ ?_;refine aA ?_;refine aC ?_;refine be (v:=.builtin "min") (by kernel_rfl!) (by kernel_rfl!) ?_
   refine cz (af ?_);refine dD ?_;refine aF I1.walk ?_ (by rfl) (.inl (by rfl))
   refine ac (H1.get rfl) ?_;refine aF hjc1 ?_ (by rfl) (.inl (by rfl))
   refine ⟨X.wa,_,i,j,rfl,rfl,rfl,I1.wa,Nat.le_of_lt hij,by rw [List.length_map,hwl];exact AW hj,by rw [List.length_map,hwl];exact AK hnl,λd hd=>?_⟩
   rw [<-List.map_drop,<-List.map_take];have hne:((cs++[-1]).drop i).take (j - i)≠[]:=by
     intro e;have:=congrArg List.length e;rw [List.length_take,List.length_drop,hwl] at this;simp only [List.length_nil] at this;exact Ae hij (AW hj) this
   refine am (ss (.head _) hne λm hm hle=>?_);have I2:=I1.mono (σ':=(d,.list ((((cs++[-1]).drop i).take (j - i)).map .int))::σ) λq hq=>.tail _ hq;have k2:∀ q∈σ0,q∈(d,LO.list ((((cs++[-1]).drop i).take (j - i)).map .int))::σ:=λq hq=>.tail _ (k q hq);refine aV (aF I2.walk (ac (H1.get rfl) (bz I2.wa (sH) (AX hij hj hnl) (iT (AY hij hj)) (gp ⟨_,rfl,?_⟩))) (by rfl) (.inl (by rfl)))
   rw [tn hij (by rw [hwl];exact AW hj) hm hle]
   have done:∀ le2 σ2,(ku (cs++[-1]) i j && decide ((cs++[-1]).getD j 0 < (cs++[-1]).getD i 0))=false->aR le2 ((ofString "page",.str page)::dF X shift)->(∀ q∈σ0,q∈σ2) ->
       cW 6 c (fu mL) (cy mL) (fq mL) (hH c) Z K (is.map λi=>LV.int (i:Nat)) le2 σ2:=by
     intro le2 σ2 hb H2 k2;refine ih page le2 σ2 (λx hx=>hi x (.tail _ hx)) (tz (Nat.le_add_right _ _) hl) H2 k2 λle' σ' H' hl' k'=>?_;have e:co (cs++[-1]) N j (i::is) page=co (cs++[-1]) N j is page:=by rw [co,hb];rfl
     rw [e] at h;exact h le' σ' H' (tA (Nat.le_add_right _ _) hl') k'
   have Hp:aR le1 ((ofString "page",.str page)::dF X shift):=H1.tail rfl;cases ho:ku (cs++[-1]) i j with
   | false =>
     rw [if_neg Bool.false_ne_true];exact aw (aw (done _ _ (by rw [ho];rfl) Hp k2))
   | true =>
     rw [if_pos rfl];refine cQ ?_;refine aA ?_;refine aV (aF I2.walk (ac (H1.get rfl) (bz I2.wa (sH) (AX hij hj hnl) (iT (AY hij hj)) ?_)) (by rfl) (.inl (by rfl)))
     refine aV (aF I2.walk (aF (k2 _ hjc) (bz I2.wa (sH) (Cb (Nat.le_trans hj hnl) rfl) (iT hj) (wC ⟨_,rfl,?_⟩)) (by rfl) (.inl (by rfl))) (by rfl) (.inl (by rfl)))
     by_cases hlt:(cs++[-1]).getD j 0 < (cs++[-1]).getD i 0
     . rw [decide_eq_true hlt,if_pos rfl];refine fW ?_;rw [if_pos rfl];have hwi:(cs++[-1]).getD i 0∈N:=by
         have hic:i < cs.length:=yU hij hj;have e:(cs++[-1]).getD i 0=cs[i]:=by rw [List.getD_eq_getElem?_getD,List.getElem?_append_left hic,List.getElem?_eq_getElem hic];rfl
         rw [e];exact P.has _ (List.getElem_mem hic) _ (.head _)
       have il:=iB P.nlen ((cs++[-1]).getD i 0);have l1:(ofString "</n").length=3:=by decide +kernel
       have l2:(ofString ":f>").length=3:=by decide +kernel
       refine ae ?_;refine ax ?_;refine ah (ah (ah (ac (H1.get rfl) (aB (aO (by rw [l1];exact Cg hl rfl) ?_)))))
       refine aC ?_;refine be (v:=.type "str") (by kernel_rfl!) (by kernel_rfl!) ?_
       refine cj (af ?_);refine aG ?_;refine aF I2.needs ?_ (by rfl) (.inl (by rfl))
       refine bi I2.na PySem.F.slot_list_index PySem.F.type_list_index (af ?_);refine aV (aF I2.walk (ac (H1.get rfl) (bz I2.wa (sH) (AX hij hj hnl) (iT (AY hij hj)) (am ?_))) (by rfl) (.inl (by rfl)))
       refine iV I2.na (eU P) (by have:=P.nlen;exact J1 this rfl) hwi ?_
       refine am (fX il.2 ?_);rw [kc];have l3:=il.1;have hp:page.length<=900000:=Nat.le_trans (Nat.le_add_right _ _) hl;have c1:=ff (p:=page.length) (a:=0) (Nat.le_refl _) (Nat.le_of_eq l1);have c2:=ff c1 l3;refine aO (oa c1 l3 hp rfl) (aB (aO (oa c2 (Nat.le_of_eq l2) hp rfl) ?_));refine aw (aw ?_);have e:co (cs++[-1]) N j (i::is) page=co (cs++[-1]) N j is (page++ofString "</n"++dS N ((cs++[-1]).getD i 0)++ofString ":f>"):=by
         rw [co,ho,decide_eq_true hlt];rfl
       rw [e] at h;have hpl:(page++ofString "</n"++dS N ((cs++[-1]).getD i 0)++ofString ":f>").length<=page.length+20:=Nat.le_trans (ff c2 (Nat.le_of_eq l2)) (Nat.add_le_add_left (by decide) _)
       have H5:=(Hp.tail rfl).put (ofString "page") (.str (page++ofString "</n"++dS N ((cs++[-1]).getD i 0)++ofString ":f>"));generalize page++ofString "</n"++dS N ((cs++[-1]).getD i 0)++ofString ":f>"=page2 at H5 h hpl ⊢;refine ih page2 _ _ (λx hx=>hi x (.tail _ hx)) (tz hpl hl) H5 k2 λle' σ' H' hl' k'=>h le' σ' H' (tA hpl hl') k'
     . rw [decide_eq_false hlt,if_neg Bool.false_ne_true,if_neg Bool.false_ne_true];exact aw (aw (done _ _ (by rw [decide_eq_false hlt,Bool.and_false]) Hp k2))
noncomputable def bc (w:List Int) (j:Nat):List Nat:=(List.range' 0 j).filter λi=>ku w i (j+1)
noncomputable def cO (cs:List Int) (d:Int) (ar:List Nat):List Int:=(sortI (cf (au d))).filter λu=>(ar.filter λi=>(au (cs.getD i 0)).any (·==u)).isEmpty
noncomputable abbrev Cq:Stmt:=bw (cy tU) 1
noncomputable abbrev yY:List Stmt:=xH Cq
noncomputable abbrev cJ (c:Cx):Addr:=c.L+1+1
noncomputable abbrev uW (c:Cx):Addr:=c.L+1+1+1+1+1
theorem zv (j:Nat):fh 0 1 j=(List.range' 0 j).map λi=>LV.int (i:Nat):=fB j
theorem qR {c:Cx} {X:DA} {cs N:List Int} {j:Nat} {le:ak} {σ:aa} {K:LF->ak->aa->Prop} (P:DP cs N) (hj:j < cs.length) (I:DI c X cs N σ) (hjc:(cJ c,.cell (some (.int j)))∈σ) {y:Option LV} (har:(uW c,.cell y)∈σ)
   (h:∀ ra σ',(∀ q∈σ,q.1≠uW c->q∈σ')->ra∉σ.map (·.1)->(uW c,.cell (some (.loc ra)))∈σ'->(ra,.list ((bc (cs++[-1]) j).map λi=>LV.int (i:Nat)))∈σ'->K .next le σ') :
   WF 6 c (exec (bw yY 0) (hH c)) le σ K:=by
 have hnl:=P.len;have hwl:(cs++[-1]).length=cs.length+1:=by simp
 refine cv (a:=uW c) (hc:=by rfl) (hl:=by rfl) (h:=?_)
 refine eK (cl:=[(ofString "walk",c.L+1+1+1+1),(ofString "j",cJ c)]) (h:=?_) (hclos:=by rfl) (hs:=λx=>by rfl) (hkind:=by rfl) (hnames:=by decide +kernel) (hcell:=by decide +kernel)
 refine aC ?_;refine be (v:=.type "range") (by kernel_rfl!) (by kernel_rfl!) ?_
 refine cj (af (aF hjc ?_ (by rfl) (.inl (by rfl))))
 refine am (fF λr hr=>?_);refine ⟨_,_,_,dZ (.head _) (cG j (Ay hj hnl rfl)).1 (cG j (Ay hj hnl rfl)).2,λD C it hD hC hCD=>?_⟩;rw [zv];have hlD:∀ q∈σ,q.1≠D:=λq hq e=>hD (e ▸ List.mem_map.mpr ⟨q,.tail _ hq,rfl⟩);have hlC:∀ q∈σ,q.1≠C:=λq hq e=>hC (e ▸ List.mem_map.mpr ⟨q,.tail _ hq,rfl⟩);have km:∀ {σ1},aI [D,C] ((C,.frame [])::(D,.list [])::(r,LO.raw (cP 0 (j:Nat) 1))::σ) σ1->∀ q∈σ,q∈σ1:=λk1 q hq=>k1 q (.tail _ (.tail _ (.tail _ hq))) (by simp [hlD q hq,hlC q hq])
 refine fK (D:=D) (ch:=[C]) (Inv:=λσ=>∃ lf,(C,LO.frame lf)∈σ) (σ0:=(C,.frame [])::(D,.list [])::(r,LO.raw (cP 0 (j:Nat) 1))::σ) (g:=λi:Nat=>LV.int i) (f:=λi:Nat=>LV.int i) (q:=λi:Nat=>ku (cs++[-1]) i (j+1)) (gh hCD) (by simpa using Ne.symm hCD) (λ_ _=>trivial) (List.range' 0 j) [] _ (by simp;exact J3 hj hnl rfl) (λi hi σ1 k1 hI=>?_) (λq hq _=>hq) ⟨_,.head _⟩ (.tail _ (.head _)) (λσ1 k1 hI hl1=>⟨rfl,hI,?_⟩)
 . refine aH hI λlf hCf=>?_;have hi':i < j:=by simpa using hi
   refine eI hCf (λσ2 k2 hC2=>⟨rfl,?_⟩) rfl (by rfl) (by rfl)
   have km2:∀ q∈σ,q∈σ2:=λq hq=>k2 q (km k1 q hq) (by simpa using hlC q hq)
   have hnm:(an (ofString "i") (LV.int (i:Nat)) lf).lookup (ofString "i")=some (.int (i:Nat)):=by rw [ag,if_pos rfl]
   have I2:=I.mono km2;refine aA ?_;refine aC ?_;refine be (v:=.builtin "min") (by kernel_rfl!) (by kernel_rfl!) ?_
   refine cz (af ?_);refine dD ?_;refine aF I2.walk ?_ (by rfl) (by first | exact .inl rfl | exact .inr rfl)
   refine bf hC2 hnm ?_ rfl (by rfl) (by rfl)
   refine ah (aF (km2 _ hjc) (aq (bZ ?_)) (by rfl) (by first | exact .inl rfl | exact .inr rfl))
   refine ⟨X.wa,_,i,j+1,rfl,rfl,rfl,I2.wa,Nat.le_of_lt (Az hi'),by rw [List.length_map,hwl];exact AM hj,by rw [List.length_map,hwl];exact AK hnl,λd hd=>?_⟩
   rw [<-List.map_drop,<-List.map_take];have hne:((cs++[-1]).drop i).take (j+1 - i)≠[]:=by
     intro e;have:=congrArg List.length e;rw [List.length_take,List.length_drop,hwl] at this;simp only [List.length_nil] at this;exact Ae (Az hi') (AM hj) this
   refine am (ss (.head _) hne λm hm hle=>?_);refine aV (aF (.tail _ I2.walk) (bf (.tail _ hC2) hnm (bz (.tail _ I2.wa) (sH) (Cb (Nat.le_trans (Nat.le_of_lt (Nat.lt_trans hi' hj)) hnl) rfl) (iT (Nat.le_of_lt (Nat.lt_trans hi' hj))) (gp ⟨_,rfl,?_⟩)) rfl (by rfl) (by rfl)) (by rfl) (by first | exact .inl rfl | exact .inr rfl))
   refine ⟨tn (Az hi') (by rw [hwl];exact AM hj) hm hle,λq hq hne=>.tail _ (k2 q hq hne),⟨_,.tail _ hC2⟩,λ_=>?_⟩
   exact bf (.tail _ hC2) hnm ⟨rfl,λq hq hne=>.tail _ (k2 q hq hne),⟨_,.tail _ hC2⟩⟩ rfl (by rfl) (by rfl)
 . have km3:∀ q∈σ,q∈bk C σ1:=λq hq=>aN (km k1 q hq) (hlC q hq);have hl2:=aN hl1 (Ne.symm hCD);rw [List.nil_append] at hl2;refine aH (Up.ex (o':=.cell (some (.loc D))) (km3 _ har)) λσ2 u=>?_;refine ⟨y,σ2,u,h D σ2 (λq hq hne=>u.old (km3 q hq) hne) (λe=>hD (by rw [List.map_cons];exact .tail _ e)) u.new (u.old hl2 (λe=>hlD _ har e.symm))⟩
theorem rW {X:DA} {cs:List Int} {σ:aa} (R:Rows X.rows (cs.map au) σ) {i:Nat} (hi:i < cs.length):∃ a,(X.rows.map LV.loc)[((i:Nat):Int).toNat]?=some (.loc a)/\(a,.list ((au (cs.getD i 0)).map .int))∈σ:=by
 have hlen:X.rows.length=cs.length:=by have:=R.len;rwa [List.length_map] at this
 have ha:X.rows[i]?=some X.rows[i]:=List.getElem?_eq_getElem (zN hi hlen);refine ⟨X.rows[i],by rw [List.getElem?_map,Int.toNat_natCast,ha];rfl,R.each i _ _ ha ?_⟩
 rw [List.getElem?_map,List.getD_eq_getElem?_getD,List.getElem?_eq_getElem hi];rfl
theorem jb:∀ (ns D:List Int),∀ u∈ns.foldl step_dedup D,u∈D\/u∈ns:=by
 intro ns;induction ns with
 | nil=>intro D u hu;exact .inl hu
 | cons x ns ih =>
   intro D u hu;refine Or.elim (ih _ u hu) (λh=>?_) λh=>?_
   . unfold step_dedup at h;split at h
     . exact .inl h
     . refine Or.elim (List.mem_append.mp h) (λh=>?_) λh=>?_
       . exact .inl h
       . rw [List.mem_singleton] at h;clear hu;subst h;exact .inr (.head _)
   . exact .inr (.tail _ h)
theorem fj (ns:List Int):(cf ns).length<=ns.length:=by
 have:=kU ns ns.length
 rwa [kT] at this
theorem tW {c:Cx} {X:DA} {cs N:List Int} {j:Nat} {ra:Addr} {ar:List Nat} {le:ak} {σ:aa} {K:LF->ak->aa->Prop} (P:DP cs N) (hj:j < cs.length) (I:DI c X cs N σ) (hjc:(cJ c,.cell (some (.int j)))∈σ) (hac:(uW c,.cell (some (.loc ra)))∈σ) (hra:(ra,.list (ar.map λi=>LV.int (i:Nat)))∈σ) (hli:∀ i∈ar,i < cs.length) (hal:ar.length<=100)
   (h:∀ fa σ',(∀ q∈σ,q∈σ')->(fa,.list ((cO cs (cs.getD j 0) ar).map .int))∈σ'->K .next (an (ofString "fresh") (.loc fa) le) σ') :
   WF 6 c (exec (bw yY 1) (hH c)) le σ K:=by
 have hnl:=P.len;refine fY (cl:=[(ofString "used",c.L+1),(ofString "around",uW c)]) (clf:=λC=>[(ofString "code",C+1),(ofString "used",c.L+1),(ofString "around",uW c)]) (h:=?_) (hclos:=by rfl) (hs:=λx=>by rfl) (hkind:=by rfl) (hnames:=by decide +kernel) (hpush:=λh=>by rfl) (hcf:=λC=>by rfl) (hex:=exec_Assign_Name_used _ _ _ _ (by rfl))
 refine ap (rW I.rows hj) λa hx ha=>?_;refine aC ?_;refine be (v:=.builtin "sorted") (by kernel_rfl!) boot_sorted ?_
 refine cz (af ?_);refine aC ?_;refine be (v:=.type "set") (by kernel_rfl!) (by kernel_rfl!) ?_
 refine cj (af ?_);refine aV (aF I.used (aF hjc (bz I.ua (sH) (zO hj hnl) hx (am ?_)) (by rfl) (.inl (by rfl))) (by rfl) (.inl (by rfl)))
 refine jN ha (by simp [au]) λd hd=>?_
 have hdl:(cf (au (cs.getD j 0))).length<=3:=fj _;refine am (gx (.head _) (zL hdl rfl) λso hso=>?_);refine ⟨_,_,_,cF (.head _),λD C it hD hC hC1 hCD hC1D=>?_⟩;have hl0:∀ q∈(so,LO.list ((sortI (cf (au (cs.getD j 0)))).map .int))::(d,.raw (i5 c.w (cf (au (cs.getD j 0)))))::σ,q.1≠D/\q.1≠C/\q.1≠C+1:=λq hq =>
   ⟨λe=>hD (e ▸ List.mem_map.mpr ⟨q,hq,rfl⟩),λe=>hC (e ▸ List.mem_map.mpr ⟨q,hq,rfl⟩),λe=>hC1 (e ▸ List.mem_map.mpr ⟨q,hq,rfl⟩)⟩
 have hl:∀ q∈σ,q.1≠D/\q.1≠C/\q.1≠C+1:=λq hq=>hl0 q (.tail _ (.tail _ hq));have km:∀ {σ1},aI [D,C+1] ((C+1,.cell none)::(C,.frame [])::(D,.list [])::(so,LO.list ((sortI (cf (au (cs.getD j 0)))).map .int))::(d,.raw (i5 c.w (cf (au (cs.getD j 0)))))::σ) σ1->∀ q∈σ,q∈σ1:=λk1 q hq =>
   k1 q (.tail _ (.tail _ (.tail _ (.tail _ (.tail _ hq))))) (by simp [(hl q hq).1,(hl q hq).2.2])
 refine fK (D:=D) (ch:=[C+1]) (Inv:=λσ=>(∃ y,(C+1,LO.cell y)∈σ)/\∃ lf,(C,LO.frame lf)∈σ) (σ0:=(C+1,.cell none)::(C,.frame [])::(D,.list [])::(so,LO.list ((sortI (cf (au (cs.getD j 0)))).map .int))::(d,.raw (i5 c.w (cf (au (cs.getD j 0)))))::σ) (g:=LV.int) (f:=LV.int) (q:=λu=>(ar.filter λi=>(au (cs.getD i 0)).any (·==u)).isEmpty)
   (λσ2 σ3 l l' hI u=>?_) (by simpa using Ne.symm hC1D) (λσ2 k2=>k2 _ (.tail _ (.tail _ (.tail _ (.head _)))) (by
     have:=hl0 _ (.head _);simp [this.1,this.2.2])) (sortI (cf (au (cs.getD j 0)))) [] _ (by rw [(sortI_perm _).length_eq];simp only [List.length_nil];exact AQ hdl) (λu hu σ1 k1 hI=>?_) (λq hq _=>hq) ⟨⟨_,.head _⟩,⟨_,.tail _ (.head _)⟩⟩ (.tail _ (.tail _ (.head _))) (λσ1 k1 hI hl1=>?_)
 . refine bh hI λz0_ z1_=>?_;refine aH z0_ λy h1=>?_;refine aH z1_ λlf h2=>?_;exact ⟨⟨y,u.old h1 hC1D⟩,⟨lf,u.old h2 hCD⟩⟩
 . refine bh hI λz2_ z3_=>?_;refine aH z2_ λy2 h1=>?_;refine aH z3_ λlf2 h2=>?_;refine aH (Up.ex (o':=.cell (some (.int u))) h1) λσ2 u2=>?_;refine lW u2 ⟨rfl,?_⟩ (by rfl) (by rfl)
   have km2:∀ q∈σ,q∈σ2:=λq hq=>u2.old (km k1 q hq) (hl q hq).2.2;have hC2:=u2.old h2 (Nat.ne_of_lt (Nat.lt_succ_self C));have I2:=I.mono km2;refine aA ?_;refine eK (cl:=[(ofString "used",c.L+1),(ofString "code",C+1)]) (h:=?_) (hclos:=by rfl) (hs:=λx=>by rfl) (hkind:=by rfl) (hnames:=by decide +kernel) (hcell:=by decide +kernel)
   refine aF (km2 _ hac) ?_ (by rfl) (by first | exact .inl rfl | exact .inr rfl)
   refine ⟨_,_,_,cF (km2 _ hra),λD2 C2 it2 hD2 hC2' hCD2=>?_⟩;have hlD2:∀ q∈σ2,q.1≠D2:=λq hq e=>hD2 (e ▸ List.mem_map.mpr ⟨q,hq,rfl⟩);have hlC2:∀ q∈σ2,q.1≠C2:=λq hq e=>hC2' (e ▸ List.mem_map.mpr ⟨q,hq,rfl⟩);have kn:∀ {σ3},aI [D2,C2] ((C2,.frame [])::(D2,.list [])::σ2) σ3->∀ q∈σ2,q∈σ3:=λk3 q hq=>k3 q (.tail _ (.tail _ hq)) (by simp [hlD2 q hq,hlC2 q hq])
   refine fK (D:=D2) (ch:=[C2]) (Inv:=λσ=>∃ lf,(C2,LO.frame lf)∈σ) (σ0:=(C2,.frame [])::(D2,.list [])::σ2) (g:=λi:Nat=>LV.int i) (f:=λi:Nat=>LV.int i) (q:=λi:Nat=>(au (cs.getD i 0)).any (·==u)) (gh hCD2) (by simpa using Ne.symm hCD2) (λσ3 k3=>kn k3 _ (km2 _ hra)) ar [] _ (by simp only [List.length_nil];lia) (λi hi σ3 k3 hI=>?_) (λq hq _=>hq) ⟨_,.head _⟩ (.tail _ (.head _)) (λσ3 k3 hI hl3=>⟨rfl,hI,?_⟩)
   . refine aH hI λlf3 hCf=>?_;refine eI hCf (λσ4 k4 hC4=>⟨rfl,?_⟩) rfl (by rfl) (by rfl)
     have km4:∀ q∈σ2,q∈σ4:=λq hq=>k4 q (kn k3 q hq) (by simpa using hlC2 q hq)
     have hnm:(an (ofString "i") (LV.int (i:Nat)) lf3).lookup (ofString "i")=some (.int (i:Nat)):=by rw [ag,if_pos rfl]
     have I4:=I2.mono km4;have hil:=hli i hi;refine ap (rW I4.rows hil) λb hxb hb=>?_;refine aA (aF (km4 _ u2.new) ?_ (by rfl) (by first | exact .inl rfl | exact .inr rfl))
     refine aV (aF I4.used ?_ (by rfl) (by first | exact .inl rfl | exact .inr rfl))
     refine bf hC4 hnm (bz I4.ua (sH) (zO hil hnl) hxb (lE hb ⟨_,rfl,rfl,k4,⟨_,hC4⟩,λ_=>?_⟩)) rfl (by rfl) (by rfl)
     exact bf hC4 hnm ⟨rfl,k4,⟨_,hC4⟩⟩ rfl (by rfl) (by rfl)
   . have hl4:=aN hl3 (Ne.symm hCD2);rw [List.nil_append] at hl4;have km5:∀ q∈σ2,q∈bk C2 σ3:=λq hq=>aN (kn k3 q hq) (hlC2 q hq);refine ba (am ⟨av (by decide),λnb hnb=>?_⟩)
     refine uv (.tail _ hl4) (.head _) ⟨_,rfl,?_⟩;have kk:aI [C+1] σ1 ((nb,LO.list [])::bk C2 σ3):=λq hq hne=>.tail _ (km5 q (u2.old hq (by simpa using hne)))
     have hcell2:(C+1,LO.cell (some (.int u)))∈(nb,LO.list [])::bk C2 σ3:=.tail _ (km5 _ u2.new);have hfr2:(C,LO.frame lf2)∈(nb,LO.list [])::bk C2 σ3:=.tail _ (km5 _ hC2);refine ⟨by rw [List.isEmpty_map],kk,⟨⟨_,hcell2⟩,⟨_,hfr2⟩⟩,λ_=>?_⟩
     exact aF hcell2 ⟨rfl,kk,⟨⟨_,hcell2⟩,⟨_,hfr2⟩⟩⟩ (by rfl) (by first | exact .inl rfl | exact .inr rfl)
 . rw [List.nil_append] at hl1;refine ⟨hI.2,a9 ⟨hI.2,?_⟩⟩;exact h D (bk C σ1) (λq hq=>aN (km k1 q hq) (hl q hq).2.1) (aN hl1 (Ne.symm hCD))
theorem gZ {n:Nat} {c:Cx} {le:ak} {σ:aa} {a:Addr} {ts:List (List LV)} {f:Nat->Nat->Bool} {K:LV->aa->Prop} (hm:(a,.list (ts.map .tup))∈σ) (T:TS ts f) (h:∀ d,d∉σ.map (·.1)->K (.loc d) ((d,.list ((eE [] f ts).map .tup))::σ)):WC n c (.builtin "sorted") [.loc a] le σ K:=by
 by_cases h2:ts.length < 2
 . have e:eE [] f ts=ts:=by
     clear hm T h;rcases ts with _ | ⟨p,_ | ⟨q,l⟩⟩
     . rfl
     . rfl
     . exact absurd h2 (by simp)
   rw [e] at h;exact jZ hm (by rw [List.length_map];exact h2) h
 . exact mB hm T (BQ h2) h
noncomputable def uY (N:List Int) (u:Int):List LV:=[.str (cn N u),.int u]
noncomputable def pM (N l:List Int) (i j:Nat):Bool:=(rz (uY N (l.getD i 0)) (uY N (l.getD j 0))).getD false
noncomputable def f6 (N l:List Int):List Int:=eE 0 (pM N l) l
theorem As {N l:List Int} (h:l.length<=3):TS (l.map (uY N)) (pM N l):=by
 refine ⟨λ_=>⟨.type "str",.inr rfl,λt ht=>?_⟩,by rw [List.length_map];exact h,λt ht u hu=>?_,λi j t u ne ht hu=>?_⟩
 . refine ap (List.mem_map.mp ht) λp _ z0_=>?_;clear ht;obtain rfl:=z0_;exact ⟨.str (cn N p),rfl,rfl⟩
 . refine ap (List.mem_map.mp ht) λp _ z1_=>?_;clear ht;obtain rfl:=z1_;refine ap (List.mem_map.mp hu) λq _ z2_=>?_;clear hu;obtain rfl:=z2_;rfl
 . rw [List.getElem?_map] at ht hu;cases e1:l[i]? with
   | none=>rw [e1] at ht;cases ht
   | some p =>
     cases e2:l[j]? with
     | none=>rw [e2] at hu;cases hu
     | some q =>
       rw [e1] at ht;rw [e2] at hu;obtain rfl:=Option.some.inj ht;obtain rfl:=Option.some.inj hu;unfold pM;rw [List.getD_eq_getElem?_getD,List.getD_eq_getElem?_getD,e1,e2];simp only [Option.getD_some,uY,pC,mU,s7];split
       . split<;>rfl
       . rfl
theorem wJ {N l:List Int} (h:l.length<=3):eE [] (pM N l) (l.map (uY N))=(f6 N l).map (uY N):=by
 unfold f6 eE;rw [List.length_map,List.map_map];refine List.map_congr_left λi hi=>?_;have:=bS _ h i hi;dsimp only [Function.comp];rw [List.getD_eq_getElem?_getD,List.getD_eq_getElem?_getD,List.getElem?_map,List.getElem?_eq_getElem this];rfl
theorem mY {N l:List Int} (h:l.length<=3):(f6 N l).Perm l:=by
 unfold f6 eE;refine ((d6 _ h).map _).trans ?_;refine .of_eq ?_;refine List.ext_getElem? λi=>?_;rw [List.getElem?_map];by_cases hi:i < l.length
 . rw [List.getElem?_range hi,Option.map_some,List.getD_eq_getElem?_getD,List.getElem?_eq_getElem hi];rfl
 . rw [List.getElem?_eq_none (by simpa using hi),List.getElem?_eq_none (by simpa using hi)];rfl
noncomputable def vC (N:List Int):List Int->Str->Str
 | [],page=>page
 | u::us,page=>vC N us (page++ofString " xmlns:"++cn N u++ofString "=\""++aP u++ofString "\"")
noncomputable abbrev At:=Int × Str × Nat
noncomputable def lV (s:Nat):Str:=Txt.join (ofString "") ((kB.drop s).take 9)
noncomputable def qo (s:Nat):Str:=Txt.join (ofString "") ((oB.drop s).take 9)
noncomputable def i9 (N:List Int):List At->Str->Str
 | [],page=>page
 | a::as,page=>i9 N as (page++ofString " n"++dS N a.1++ofString ":"++a.2.1++ofString "=\""++lV a.2.2++ofString "\"")
theorem qr:∀ s:Nat,s < 12->(lV s).length<=60/\(qo s).length<=60:=by decide +kernel
noncomputable abbrev vB:Stmt:=bw yY 3
noncomputable abbrev vA:Stmt:=bw yY 5
theorem ya {c:Cx} {X:DA} {cs N:List Int} {shift:Int} {σ0:aa} {K:LF->ak->aa->Prop} (P:DP cs N) (I:DI c X cs N σ0) {Z:aa->Prop} (hZ:∀ σ,(∀ q∈σ0,q∈σ)->Z σ) :
   ∀ (us:List Int) (page:Str) (le:ak) (σ:aa),(∀ u∈us,u∈N)->page.length+40*us.length<=900000->aR le ((ofString "page",.str page)::dF X shift)->(∀ q∈σ0,q∈σ) ->
     (∀ le' σ',aR le' ((ofString "page",.str (vC N us page))::dF X shift)->(vC N us page).length<=page.length+40*us.length->(∀ q∈σ0,q∈σ')->K .next le' σ') ->
     cW 6 c (fu vB) (cy vB) (fq vB) (hH c) Z K (us.map λu=>.tup (uY N u)) le σ:=by
 intro us;induction us with
 | nil =>
   intro page le σ _ _ H k h;exact ⟨hZ σ k,aw (h le σ H (Nat.le_add_right _ _) k)⟩
 | cons u us ih =>
   intro page le σ hu hl H k h;rw [List.length_cons] at hl;rw [List.map_cons];have huN:=hu u (.head _);have hpn:(cn N u).length<=10:=(pH _ (by have:=P.nlen;have h2:N.idxOf u<=N.length:=List.idxOf_le_length;exact J0 h2 this rfl)).1
   refine ⟨hZ σ k,?_⟩;refine iU ?_;have H1:=(H.put (ofString "prefix") (.str (cn N u))).put (ofString "code") (.int u);generalize an (ofString "code") (LV.int u) (an (ofString "prefix") (LV.str (cn N u)) le)=le1 at H1 ⊢;have l1:(ofString " xmlns:").length=7:=by decide +kernel
   have l2:(ofString "=\"").length=2:=by decide +kernel
   have l3:(ofString "\"").length=1:=by decide +kernel
   have l4:=iN u;refine ae ?_;refine ax ?_;have hp:page.length<=900000:=Nat.le_trans (Nat.le_add_right _ _) hl;have c0:page.length<=page.length+0:=Nat.le_refl _;refine ah (ah (ah (ah (ah (ac (H1.get rfl) (aB (aO (oa c0 (Nat.le_of_eq l1) hp rfl) ?_)))))));have c1:=ff c0 (Nat.le_of_eq l1);refine ac (H1.get rfl) (aO (oa c1 hpn hp rfl) ?_);have c2:=ff c1 hpn;refine aB (aO (oa c2 (Nat.le_of_eq l2) hp rfl) ?_);have c3:=ff c2 (Nat.le_of_eq l2);refine aC ?_;refine bO (v:=.ref 250) (by kernel_rfl!) (λ_ _=>.val rfl) (eB (by exact rfl) (af (ac (H1.get rfl) (am ?_))))
   refine bW (n:=4) (wW (P.nval u huN) ?_) (by decide)
   refine aO (oa c3 (Nat.le_of_eq l4) hp rfl) ?_;have c4:=ff c3 (Nat.le_of_eq l4);refine aB (aO (oa c4 (Nat.le_of_eq l3) hp rfl) ?_);have hpl:(page++ofString " xmlns:"++cn N u++ofString "=\""++aP u++ofString "\"").length<=page.length+40:=Nat.le_trans (ff c4 (Nat.le_of_eq l3)) (Nat.add_le_add_left (by decide) _)
   have e:vC N (u::us) page=vC N us (page++ofString " xmlns:"++cn N u++ofString "=\""++aP u++ofString "\""):=rfl;rw [e] at h;have H5:=((H1.tail rfl).tail rfl).tail rfl |>.put (ofString "page") (.str (page++ofString " xmlns:"++cn N u++ofString "=\""++aP u++ofString "\""))
   generalize page++ofString " xmlns:"++cn N u++ofString "=\""++aP u++ofString "\""=page2 at H5 h hpl ⊢;refine aw ?_;exact ih page2 _ _ (λx hx=>hu x (.tail _ hx)) (tz hpl hl) H5 k λle' σ' H' hl' k'=>h le' σ' H' (tA hpl hl') k'
theorem xt {c:Cx} {X:DA} {cs N:List Int} {B:ak} {σ0:aa} {K:LF->ak->aa->Prop} (P:DP cs N) (I:DI c X cs N σ0) (hB:B.lookup (ofString "values")=some (.loc X.va)) (b1:B.lookup (ofString "page")=none) (b2:B.lookup (ofString "code")=none) (b3:B.lookup (ofString "name")=none) (b4:B.lookup (ofString "sign")=none) {Z:aa->Prop} (hZ:∀ σ,(∀ q∈σ0,q∈σ)->Z σ) :
   ∀ (as:List At) (page:Str) (le:ak) (σ:aa),(∀ a∈as,a.1∈N/\a.2.1.length=1/\a.2.2 < 12)->page.length+100*as.length<=900000->aR le ((ofString "page",.str page)::B)->(∀ q∈σ0,q∈σ) ->
     (∀ le' σ',aR le' ((ofString "page",.str (i9 N as page))::B)->(i9 N as page).length<=page.length+100*as.length->(∀ q∈σ0,q∈σ')->K .next le' σ') ->
     cW 6 c (fu vA) (cy vA) (fq vA) (hH c) Z K (as.map λa=>.tup [.int a.1,.str a.2.1,.int (a.2.2:Nat)]) le σ:=by
 intro as;induction as with
 | nil =>
   intro page le σ _ _ H k h;exact ⟨hZ σ k,aw (h le σ H (Nat.le_add_right _ _) k)⟩
 | cons a as ih =>
   intro page le σ ha hl H k h;rw [List.length_cons] at hl;rw [List.map_cons];refine qS (ha a (.head _)) λhaN hn1 hs=>?_;obtain ⟨u,nm,s⟩:=a;dsimp only at haN hn1 hs;have il:=iB P.nlen u;have vl:=(qr s hs).1;refine ⟨hZ σ k,?_⟩;refine nv ?_;have H1:=((H.put (ofString "code") (.int u)).put (ofString "name") (.str nm)).put (ofString "sign") (.int s);generalize an (ofString "sign") (LV.int (s:Nat)) (an (ofString "name") (LV.str nm) (an (ofString "code") (LV.int u) le))=le1 at H1 ⊢;have I1:=I.mono k;have l1:(ofString " n").length=2:=by decide +kernel
   have l2:(ofString ":").length=1:=by decide +kernel
   have l3:(ofString "=\"").length=2:=by decide +kernel
   have l4:(ofString "\"").length=1:=by decide +kernel
   have il1:=il.1;have hp:page.length<=900000:=Nat.le_trans (Nat.le_add_right _ _) hl;have c0:page.length<=page.length+0:=Nat.le_refl _;refine ae ?_;refine ax ?_;refine ah (ah (ah (ah (ah (ah (ah (ac (H1.get rfl) (aB (aO (oa c0 (Nat.le_of_eq l1) hp rfl) ?_)))))))));have c1:=ff c0 (Nat.le_of_eq l1);refine aC ?_;refine be (v:=.type "str") (by kernel_rfl!) (by kernel_rfl!) ?_
   refine cj (af ?_);refine aG ?_;refine aF I1.needs ?_ (by rfl) (.inl (by rfl))
   refine bi I1.na PySem.F.slot_list_index PySem.F.type_list_index (af (ac (H1.get rfl) (am ?_)));refine iV I1.na (eU P) (by have:=P.nlen;exact J1 this rfl) haN ?_
   refine am (fX il.2 ?_);rw [kc];refine aO (oa c1 il1 hp rfl) ?_;have c2:=ff c1 il1;refine aB (aO (oa c2 (Nat.le_of_eq l2) hp rfl) ?_);have c3:=ff c2 (Nat.le_of_eq l2);refine ac (H1.get rfl) (aO (oa c3 (Nat.le_of_eq hn1) hp rfl) ?_);have c4:=ff c3 (Nat.le_of_eq hn1);refine aB (aO (oa c4 (Nat.le_of_eq l3) hp rfl) ?_);have c5:=ff c4 (Nat.le_of_eq l3);refine aG ?_;refine aB ?_;refine hV PySem.F.slot_str_join PySem.F.type_str_join (af ?_);refine dD ?_;refine ac (H1.get hB) (ac (H1.get rfl) ?_);refine ah (ac (H1.get rfl) (aq (bZ ?_)));have vlen:(kB.map LV.str).length=24:=by decide +kernel
   refine ⟨X.va,_,s,s+9,rfl,rfl,rfl,I1.va,by lia,by rw [vlen];lia,by rw [vlen];decide,λd hd=>?_⟩
   rw [Nat.add_sub_cancel_left,<-List.map_drop,<-List.map_take];refine am (iW (.head _) ?_ ?_)
   . have h0:(ofString "").length=0:=by decide +kernel
     rw [h0,Nat.mul_zero,Nat.add_zero,<-lu];show (lV s).length<=_;exact J1 vl rfl
   change OB 6 c (binaryOp .Add) _ (.str (lV s)) _ _ _;refine aO (oa c5 vl hp rfl) ?_;have c6:=ff c5 vl;refine aB (aO (oa c6 (Nat.le_of_eq l4) hp rfl) ?_);have hpl:(page++ofString " n"++dS N u++ofString ":"++nm++ofString "=\""++lV s++ofString "\"").length<=page.length+100:=Nat.le_trans (ff c6 (Nat.le_of_eq l4)) (Nat.add_le_add_left (by decide) _)
   have e:i9 N ((u,nm,s)::as) page=i9 N as (page++ofString " n"++dS N u++ofString ":"++nm++ofString "=\""++lV s++ofString "\""):=rfl;rw [e] at h;have H5:=(((H1.tail b4).tail b3).tail b2).tail b1 |>.put (ofString "page") (.str (page++ofString " n"++dS N u++ofString ":"++nm++ofString "=\""++lV s++ofString "\""))
   generalize page++ofString " n"++dS N u++ofString ":"++nm++ofString "=\""++lV s++ofString "\""=page2 at H5 h hpl ⊢;refine aw ?_;exact ih page2 _ _ (λx hx=>ha x (.tail _ hx)) (tz hpl hl) H5 (λq hq=>.tail _ (k q hq)) λle' σ' H' hl' k'=>h le' σ' H' (tA hpl hl') k'
theorem wN (N:List Int) (u:Int):ofString "n"++dS N u=cn N u:=rfl
theorem mQ {cs:List Int} {d:Int} {ar:List Nat}:∀ u∈cO cs d ar,u∈au d:=λu hu=>by
 have:=(sortI_perm _).mem_iff.mp (List.mem_filter.mp hu).1;exact (jb _ _ u this).resolve_left (λh=>nM h)
theorem mP (cs:List Int) (d:Int) (ar:List Nat):(cO cs d ar).length<=3:=by
 refine Nat.le_trans (List.length_filter_le ..) ?_;rw [(sortI_perm _).length_eq];exact fj _
noncomputable def cw (d:Int) (t:Nat):List At:=if rC d < kC d then [(rC d,ofString "r",t),(kC d,ofString "k",t+1)] else [(kC d,ofString "k",t+1),(rC d,ofString "r",t)]
noncomputable def A9 (a:At):List LV:=[.int a.1,.str a.2.1,.int (a.2.2:Nat)]
theorem wp (a b:Int) (s t:Int):rz [.int a,.str (ofString "r"),.int s] [.int b,.str (ofString "k"),.int t]=some (decide (a < b))/\rz [.int b,.str (ofString "k"),.int t] [.int a,.str (ofString "r"),.int s]=some (!decide (a < b)):=by
 have ne:ofString "r"≠ofString "k":=by decide +kernel
 have l1:decide ((ofString "r").cps.toList < (ofString "k").cps.toList)=false:=by decide +kernel
 have l2:decide ((ofString "k").cps.toList < (ofString "r").cps.toList)=true:=by decide +kernel
 simp only [pC,mU,s7,ne,Ne.symm ne,if_false,l1,l2];refine ⟨?_,?_⟩
 . by_cases h:a=b
   . subst h;simp
   . simp [h]
 . by_cases h:a=b
   . subst h;simp
   . have h':¬ b=a:=λe=>h e.symm;rw [if_neg h'];congr 1;rw [Bool.eq_iff_iff,decide_eq_true_eq,Bool.not_eq_true',decide_eq_false_iff_not];lia
noncomputable def A8 (a b:Int):Nat->Nat->Bool
 | 0,_=>decide (a < b)
 | _+1,_=>!decide (a < b)
theorem Ar (a b:Int) (s t:Int):TS [[.int a,.str (ofString "r"),.int s],[.int b,.str (ofString "k"),.int t]] (A8 a b):=by
 refine ⟨λ_=>⟨.type "int",.inl rfl,λx hx=>?_⟩,by simp,λx hx y hy=>?_,λi j x y ne hx hy=>?_⟩
 . rcases dc hx with rfl | rfl<;>exact ⟨_,rfl,rfl⟩
 . simp only [List.mem_cons,List.not_mem_nil,or_false] at hx hy;rcases hx with rfl | rfl<;>rcases hy with rfl | rfl<;>rfl
 . rcases i with _ | _ | i
   . rcases j with _ | _ | j
     . exact absurd rfl ne
     . obtain rfl:=Option.some.inj hx;obtain rfl:=Option.some.inj hy;exact (wp a b s t).1
     . cases hy
   . rcases j with _ | _ | j
     . obtain rfl:=Option.some.inj hx;obtain rfl:=Option.some.inj hy;exact (wp a b s t).2
     . exact absurd rfl ne
     . cases hy
   . cases hx
theorem tL (d:Int) (t:Nat):eE [] (A8 (rC d) (kC d)) [[.int (rC d),.str (ofString "r"),.int (t:Nat)],[.int (kC d),.str (ofString "k"),.int ((t+1:Nat):Int)]]=(cw d t).map A9:=by
 unfold eE;show (cU _ 2).map _=_;rw [yT];unfold cw A8;by_cases h:rC d < kC d
 . simp only [h,decide_true,Bool.not_true,Bool.false_eq_true,if_false,if_true];rfl
 . simp only [h,decide_false,Bool.not_false,if_false,if_true];rfl
noncomputable def sO (cs N:List Int) (shift:Int) (j:Nat) (page:Str):Str :=
 i9 N (cw (cs.getD j 0) (di shift j).toNat) (vC N (f6 N (cO cs (cs.getD j 0) (bc (cs++[-1]) j))) (page++ofString "<n"++dS N (cs.getD j 0)++ofString ":f"))++ofString ">"++qo ((di shift j).toNat+2)
theorem vz {cs:List Int} {j:Nat} (hj:j < cs.length):(cs.map LV.int)[((j:Nat):Int).toNat]?=some (.int (cs.getD j 0)):=by
 rw [List.getElem?_map,Int.toNat_natCast,List.getD_eq_getElem?_getD,List.getElem?_eq_getElem hj];rfl
theorem tX {c:Cx} {X:DA} {cs N:List Int} {shift:Int} {j:Nat} {page:Str} {fa:Addr} {fr:List Int} {le:ak} {σ:aa} {K:LF->ak->aa->Prop} (P:DP cs N) (hj:j < cs.length) (I:DI c X cs N σ) (hjc:(cJ c,.cell (some (.int j)))∈σ) (hfa:(fa,.list (fr.map .int))∈σ) (hfr:∀ u∈fr,u∈N) (hfl:fr.length<=3) (hpl:page.length<=800000)
   (H:aR le ((ofString "fresh",.loc fa)::(ofString "page",.str page)::dF X shift))
   (h:∀ le' σ',aR le' ((ofString "page",.str (vC N (f6 N fr) (page++ofString "<n"++dS N (cs.getD j 0)++ofString ":f")))::dF X shift)->(vC N (f6 N fr) (page++ofString "<n"++dS N (cs.getD j 0)++ofString ":f")).length<=page.length+140->(∀ q∈σ,q∈σ')->WF 6 c (execs (yY.drop 4) (hH c)) le' σ' K) :
   WF 6 c (execs (yY.drop 2) (hH c)) le σ K:=by
 have l1:(ofString "<n").length=2:=by decide +kernel
 have l2:(ofString ":f").length=2:=by decide +kernel
 have hcm:cs.getD j 0∈cs:=by
   rw [List.getD_eq_getElem?_getD,List.getElem?_eq_getElem hj];exact List.getElem_mem hj
 have hcN:cs.getD j 0∈N:=P.has _ hcm _ (.head _);have il:=iB P.nlen (cs.getD j 0);have il1:=il.1;have hnl:=P.len;have hp:page.length<=900000:=J1 hpl rfl;have c0:page.length<=page.length+0:=Nat.le_refl _;refine ae ?_;refine ax ?_;refine ah (ah (ah (ac (H.get rfl) (aB (aO (oa c0 (Nat.le_of_eq l1) hp rfl) ?_)))));have c1:=ff c0 (Nat.le_of_eq l1);refine aC ?_;refine be (v:=.type "str") (by kernel_rfl!) (by kernel_rfl!) ?_
 refine cj (af ?_);refine aG ?_;refine aF I.needs ?_ (by rfl) (.inl (by rfl))
 refine bi I.na PySem.F.slot_list_index PySem.F.type_list_index (af ?_);refine aV (ac (H.get rfl) (aF hjc (bz I.ca (sH) (zO hj hnl) (vz hj) (am ?_)) (by rfl) (.inl (by rfl))))
 refine iV I.na (eU P) (by have:=P.nlen;exact J1 this rfl) hcN ?_
 refine am (fX il.2 ?_);rw [kc];have c2:=ff c1 il1;refine aO (oa c1 il1 hp rfl) (aB (aO (oa c2 (Nat.le_of_eq l2) hp rfl) ?_));have hp2:(page++ofString "<n"++dS N (cs.getD j 0)++ofString ":f").length<=page.length+14:=ff c2 (Nat.le_of_eq l2);have H5:=H.put (ofString "page") (.str (page++ofString "<n"++dS N (cs.getD j 0)++ofString ":f"));generalize page++ofString "<n"++dS N (cs.getD j 0)++ofString ":f"=page2 at H5 h hp2 ⊢;generalize an (ofString "page") (LV.str page2) le=le2 at H5 ⊢;refine ae ?_;refine dC (h:=?_);refine aC ?_;refine be (v:=.builtin "sorted") (by kernel_rfl!) boot_sorted ?_
 refine cz (af ?_);refine eY (cl:=[(ofString "needs",c.L+1+1+1)]) (h:=?_) (hclos:=by rfl) (hs:=λx=>by rfl) (hkind:=by rfl) (hnames:=by decide +kernel) (hcell:=by decide +kernel)
 refine ac (H5.get rfl) ?_;refine ⟨σ,_,_,cF hfa,λD C it hD hC hCD=>?_⟩;have hlD:∀ q∈σ,q.1≠D:=λq hq e=>hD (e ▸ List.mem_map.mpr ⟨q,hq,rfl⟩);have hlC:∀ q∈σ,q.1≠C:=λq hq e=>hC (e ▸ List.mem_map.mpr ⟨q,hq,rfl⟩);have km:∀ {σ1},aI [D,C] ((C,.frame [])::(D,.list [])::σ) σ1->∀ q∈σ,q∈σ1:=λk1 q hq=>k1 q (.tail _ (.tail _ hq)) (by simp [hlD q hq,hlC q hq])
 have ln:(ofString "n").length=1:=by decide +kernel
 refine nG (D:=D) (ch:=[C]) (Inv:=λσ=>∃ lf,(C,LO.frame lf)∈σ) (σ0:=(C,.frame [])::(D,.list [])::σ) (g:=LV.int) (f:=λu=>.tup (uY N u)) (gh hCD) (by simpa using Ne.symm hCD) (λσ1 k1=>km k1 _ hfa) fr [] _ (by simp only [List.length_nil];exact AQ hfl) (λu hu σ1 k1 hI=>?_) (λq hq _=>hq) ⟨_,.head _⟩ (.tail _ (.head _)) (λσ1 k1 hI hl1=>⟨rfl,hI,?_⟩)
 . refine aH hI λlf hCf=>?_;refine eI hCf (λσ2 k2 hC2=>⟨rfl,?_⟩) rfl (by rfl) (by rfl)
   have I2:=I.mono λq hq=>k2 q (km k1 q hq) (by simpa using hlC q hq)
   have hnm:(an (ofString "code") (LV.int u) lf).lookup (ofString "code")=some (.int u):=by rw [ag,if_pos rfl]
   have iu:=iB P.nlen u;have iu1:=iu.1;refine bQ (af ?_);refine ah (aB (aC ?_));refine be (v:=.type "str") (by kernel_rfl!) (by kernel_rfl!) ?_
   refine cj (af ?_);refine aG ?_;refine aF I2.needs ?_ (by rfl) (by first | exact .inl rfl | exact .inr rfl)
   refine bi I2.na PySem.F.slot_list_index PySem.F.type_list_index (af (bf hC2 hnm (am ?_) rfl (by rfl) (by rfl)))
   refine iV I2.na (eU P) (by have:=P.nlen;exact J1 this rfl) (hfr u hu) ?_
   refine am (fX iu.2 ?_);rw [kc];refine aO (by lia) ?_
   rw [wN];exact af (bf hC2 hnm (am ⟨av (by simp),rfl,k2,⟨_,hC2⟩⟩) rfl (by rfl) (by rfl))
 . have km3:∀ q∈σ,q∈bk C σ1:=λq hq=>aN (km k1 q hq) (hlC q hq);have hl2:=aN hl1 (Ne.symm hCD);rw [List.nil_append] at hl2;have hl3:(D,LO.list ((fr.map (uY N)).map .tup))∈bk C σ1:=by rw [List.map_map];exact hl2
   refine am (gZ hl3 (As hfl) λso hso=>?_);rw [wJ hfl,List.map_map];have hop:=mY (N:=N) hfl;refine ⟨_,_,_,iF (.head _),?_⟩;refine ya (σ0:=(so,.list ((f6 N fr).map (LV.tup ∘ uY N)))::bk C σ1) P ((I.mono km3).mono λq hq=>.tail _ hq) (λσ2 k2=>k2 _ (.head _)) (f6 N fr) page2 le2 _ (λu hu=>hfr u (hop.mem_iff.mp hu)) (by rw [hop.length_eq];lia) ((H5.sub (l':=(ofString "page",.str page2)::dF X shift) ?_)) (λq hq=>hq) λle' σ' H' hl' k'=>?_
   . exact aR.add (aR.add (aR.add (aR.add (aR.add (aR.nil_ _) rfl) rfl) rfl) rfl) rfl
   . refine h le' σ' H' (by rw [hop.length_eq] at hl';lia) λq hq=>k' q (.tail _ (km3 q hq))
theorem tY {c:Cx} {X:DA} {cs N:List Int} {shift:Int} {j:Nat} {page:Str} {le:ak} {σ:aa} {K:LF->ak->aa->Prop} (P:DP cs N) (hj:j < cs.length) (I:DI c X cs N σ) (hjc:(cJ c,.cell (some (.int j)))∈σ) (hpl:page.length<=800000)
   (H:aR le ((ofString "page",.str page)::dF X shift))
   (h:∀ le' σ',aR le' ((ofString "page",.str (i9 N (cw (cs.getD j 0) (di shift j).toNat) page++ofString ">"++qo ((di shift j).toNat+2)))::dF X shift)->(i9 N (cw (cs.getD j 0) (di shift j).toNat) page++ofString ">"++qo ((di shift j).toNat+2)).length<=page.length+270->(∀ q∈σ,q∈σ')->K .next le' σ') :
   WF 6 c (execs (yY.drop 4) (hH c)) le σ K:=by
 have hnl:=P.len;have hcm:cs.getD j 0∈cs:=by
   rw [List.getD_eq_getElem?_getD,List.getElem?_eq_getElem hj];exact List.getElem_mem hj
 refine ae ?_;refine ax (ah (ah (aF hjc (ac (H.get rfl) (bZ (aq (jl (by decide) ?_)))) (by rfl) (.inl (by rfl)))))
 have ht:=ip shift j;refine ap (dj (x:=di shift j) (b:=8) ht.1 ht.2) λt ht8 et=>?_;have et2:((j:Int)+shift).fmod 8=(t:Int):=et;rw [et2];rw [et,Int.toNat_natCast] at h;have H1:=H.put (ofString "turn") (.int (t:Nat));generalize an (ofString "turn") (LV.int (t:Nat)) le=le1 at H1 ⊢;refine ap (rW I.rows hj) λa hxa ha=>?_;refine ae ?_;refine dC (h:=?_);refine aC ?_;refine be (v:=.builtin "sorted") (by kernel_rfl!) boot_sorted ?_
 refine cz (af ?_);refine ba (af ?_);refine bQ (af ?_);refine aV (aV (aF I.used (aF hjc (bz I.ua (sH) (zO hj hnl) hxa ?_) (by rfl) (.inl (by rfl))) (by rfl) (.inl (by rfl))))
 refine aq (bz ha (by decide) (by decide) rfl (af (aB (af (ac (H1.get rfl) (am ⟨av (by simp),af ?_⟩))))))
 refine bQ (af ?_);refine aV (aV (aF I.used (aF hjc (bz I.ua (sH) (zO hj hnl) hxa ?_) (by rfl) (.inl (by rfl))) (by rfl) (.inl (by rfl))))
 refine aq (bz ha (by decide) (by decide) rfl (af (aB (af ?_))))
 refine ah (ac (H1.get rfl) (aq (bZ (am ⟨av (by simp),am ⟨av (by simp),λla hla=>?_⟩⟩))))
 refine am (gZ (ts:=[[.int (rC (cs.getD j 0)),.str (ofString "r"),.int (t:Nat)],[.int (kC (cs.getD j 0)),.str (ofString "k"),.int ((t+1:Nat):Int)]]) (.head _) (Ar _ _ _ _) λso hso=>?_);rw [tL,List.map_map];refine ⟨_,_,_,iF (.head _),?_⟩;have hat:∀ b∈cw (cs.getD j 0) t,b.1∈N/\b.2.1.length=1/\b.2.2 < 12:=by
   have h1:=P.has _ hcm (rC (cs.getD j 0)) (by simp [au])
   have h2:=P.has _ hcm (kC (cs.getD j 0)) (by simp [au])
   have l1:(ofString "r").length=1:=by decide +kernel
   have l2:(ofString "k").length=1:=by decide +kernel
   intro b hb;unfold cw at hb;split at hb<;>(simp only [List.mem_cons,List.not_mem_nil,or_false] at hb;rcases hb with rfl | rfl)<;>(refine ⟨by assumption,by assumption,?_⟩;dsimp only;lia)
 have hal:(cw (cs.getD j 0) t).length=2:=by unfold cw;split<;>rfl
 have in2:∀ q∈σ,q∈(so,LO.list ((cw (cs.getD j 0) t).map (LV.tup ∘ A9)))::(la,.list ([[LV.int (rC (cs.getD j 0)),.str (ofString "r"),.int (t:Nat)],[.int (kC (cs.getD j 0)),.str (ofString "k"),.int ((t+1:Nat):Int)]].map .tup))::σ:=λq hq=>.tail _ (.tail _ hq);refine xt (σ0:=(so,LO.list ((cw (cs.getD j 0) t).map (LV.tup ∘ A9)))::(la,.list ([[LV.int (rC (cs.getD j 0)),.str (ofString "r"),.int (t:Nat)],[.int (kC (cs.getD j 0)),.str (ofString "k"),.int ((t+1:Nat):Int)]].map .tup))::σ) (B:=(ofString "turn",.int (t:Nat))::dF X shift) P (I.mono in2) rfl rfl rfl rfl rfl (λσ2 k2=>k2 _ (.head _)) (cw (cs.getD j 0) t) page le1 _ hat (by rw [hal];lia) (H1.sub ?_) (λq hq=>hq) λle2 σ2 H2 hl2 k2=>?_
 . exact aR.add (aR.add (aR.add (aR.add (aR.add (aR.add (aR.nil_ _) rfl) rfl) rfl) rfl) rfl) rfl
 have I2:=I.mono λq hq=>k2 q (in2 q hq);have l1:(ofString ">").length=1:=by decide +kernel
 have tl:=(qr (t+2) (by lia)).2
 rw [hal] at hl2;have hp2:(i9 N (cw (cs.getD j 0) t) page++ofString ">"++qo (t+2)).length<=page.length+270:=Nat.le_trans (ff (ff hl2 (Nat.le_of_eq l1)) tl) (Nat.add_le_add_left (by decide) _)
 have hp:page.length<=900000:=J1 hpl rfl;generalize i9 N (cw (cs.getD j 0) t) page=page2 at H2 hl2 h hp2 ⊢;refine ae ?_;refine ax ?_;refine ah (ah (ac (H2.get rfl) (aB (aO (oa hl2 (Nat.le_of_eq l1) hp rfl) ?_))));refine aG ?_;refine aB ?_;refine hV PySem.F.slot_str_join PySem.F.type_str_join (af ?_);refine dD ?_;refine ac (H2.get rfl) ?_;refine ah (ac (H2.get rfl) (aq (bZ ?_)));refine ah (ac (H2.get rfl) (aq (bZ ?_)));have vlen:(oB.map LV.str).length=24:=by decide +kernel
 refine ⟨X.ta,_,t+2,t+11,rfl,rfl,rfl,I2.ta,Nat.add_le_add_left (by decide) t,by rw [vlen];lia,by rw [vlen];decide,λd hd=>?_⟩
 rw [show t+11 - (t+2)=9 from Nat.add_sub_add_left t 11 2,<-List.map_drop,<-List.map_take];refine am (iW (.head _) ?_ ?_)
 . have h0:(ofString "").length=0:=by decide +kernel
   rw [h0,Nat.mul_zero,Nat.add_zero,<-lu];show (qo (t+2)).length<=_;exact J1 tl rfl
 change OB 6 c (binaryOp .Add) _ (.str (qo (t+2))) _ _ _;refine aO (oa (ff hl2 (Nat.le_of_eq l1)) tl hp rfl) ?_;refine aw (h _ _ ?_ hp2 λq hq=>.tail _ (k2 q (in2 q hq)));refine (H2.put (ofString "page") _).sub ?_;exact aR.add (aR.add (aR.add (aR.add (aR.add (aR.nil_ _) rfl) rfl) rfl) rfl) rfl
theorem nF:∀ l:Nat,(l+1≠l+1+1/\l+1≠l+1+1+1+1+1)/\(l+1+1+1≠l+1+1/\l+1+1+1≠l+1+1+1+1+1)/\(l+1+1+1+1≠l+1+1/\l+1+1+1+1≠l+1+1+1+1+1)/\l+1+1≠l+1+1+1+1+1:=by intro l;lia
theorem DI.up {c:Cx} {X:DA} {cs N:List Int} {σ σ':aa} {a:Addr} {y:Option LV} (I:DI c X cs N σ) (nd:(σ.map (·.1)).Nodup) (hm:(a,.cell y)∈σ) (k:∀ q∈σ,q.1≠a->q∈σ') (ha:a=cJ c\/a=uW c):DI c X cs N σ':=by
 have hl:∀ {x:Addr} {l:List LV},(x,.list l)∈σ->(x,.list l)∈σ':=λ{x l} hx=>k _ hx λ(e:x=a)=>by
   rw [e] at hx;cases aJ nd hx hm
 have n:=nF c.L;refine ⟨k _ I.used ?_,hl I.ua,I.rows.mono λq hq hr=>?_,k _ I.needs ?_,hl I.na,k _ I.walk ?_,hl I.wa,hl I.ta,hl I.va,hl I.ca⟩
 . refine Or.elim ha (λe=>?_) λe=>?_<;>rw [e]
   . exact n.1.1
   . exact n.1.2
 . refine k _ hq λe=>?_;refine aH (List.getElem_of_mem hr) λi y0_=>?_;refine aH y0_ λhi e2=>?_;have hi2:i < (cs.map au).length:=by rw [<-I.rows.len];exact hi
   have h2:=I.rows.each i q.1 _ (by rw [List.getElem?_eq_getElem hi,e2]) (List.getElem?_eq_getElem hi2)
   rw [e] at h2;cases aJ nd h2 hm
 . refine Or.elim ha (λe=>?_) λe=>?_<;>rw [e]
   . exact n.2.1.1
   . exact n.2.1.2
 . refine Or.elim ha (λe=>?_) λe=>?_<;>rw [e]
   . exact n.2.2.1.1
   . exact n.2.2.1.2
noncomputable def jy (cs N:List Int) (shift:Int) (j:Nat) (page:Str):Str :=
 if j < cs.length then sO cs N shift j (co (cs++[-1]) N j (List.range j).reverse page) else co (cs++[-1]) N j (List.range j).reverse page
noncomputable def xB (cs N:List Int) (shift:Int):Nat->Nat->Str->Str
 | 0,_,page=>page
 | k+1,j,page=>xB cs N shift k (j+1) (jy cs N shift j page)
theorem sP:∀ j:Nat,j < 16->Builtin.Range.rangeSize ((j:Int) - 1) (-1) (-1)=j/\Builtin.Range.small ((j:Int) - 1) (-1) (-1)=true:=by decide +kernel
theorem vG (j:Nat):fh ((j:Int) - 1) (-1) j=(List.range j).reverse.map λi=>LV.int (i:Nat):=by
 unfold fh;refine List.ext_getElem (by simp) λi h1 h2=>?_
 have hi:i < j:=by simpa using h1
 simp only [List.getElem_map,List.getElem_range,List.getElem_reverse,List.length_range];congr 1;lia
theorem vI {c:Cx} {X:DA} {cs N:List Int} {shift:Int} {j:Nat} {page:Str} {le:ak} {σ:aa} {y:Option LV} {K:LF->ak->aa->Prop} (P:DP cs N) (hj:j<=cs.length) (I:DI c X cs N σ) (hjc:(cJ c,.cell (some (.int j)))∈σ) (har:(uW c,.cell y)∈σ) (hpl:page.length<=700000)
   (H:aR le ((ofString "page",.str page)::dF X shift))
   (h:∀ le' σ',aR le' ((ofString "page",.str (jy cs N shift j page))::dF X shift)->(jy cs N shift j page).length<=page.length+800->DI c X cs N σ'->(cJ c,.cell (some (.int j)))∈σ'->(∃ y,(uW c,.cell y)∈σ')->K .next le' σ') :
   WF 6 c (execs (cy tU) (hH c)) le σ K:=by
 have hnl:=P.len;refine ae ?_;refine dC (h:=?_);refine aC ?_;refine be (v:=.type "range") (by kernel_rfl!) (by kernel_rfl!) ?_
 refine cj (af ?_);refine ah (aF hjc (aq (wE ?_)) (by rfl) (.inl (by rfl)))
 refine af (cI (aq (fg ?_)));refine af (cI (aq (fg ?_)));refine am (uR (by decide) (iJ _ (by decide)) λr hr=>?_)
 refine ⟨_,_,_,og (dZ (.head _) (sP j (J0 hj hnl rfl)).1 (sP j (J0 hj hnl rfl)).2),?_⟩;rw [vG];refine qN (σ0:=(r,.raw (cP ((j:Int) - 1) (-1) (-1)))::σ) P hj (I.mono λq hq=>.tail _ hq) (.tail _ hjc) (λ_ _=>trivial) (List.range j).reverse page le _ (λi hi=>by simpa using hi) (by rw [List.length_reverse,List.length_range];lia) H (λq hq=>hq) λle1 σ1 H1 hl1 k1=>?_
 rw [List.length_reverse,List.length_range] at hl1;have I1:=I.mono λq hq=>k1 q (.tail _ hq);have hjc1:=k1 _ (.tail _ hjc);have har1:=k1 _ (.tail _ har);unfold jy at h;generalize co (cs++[-1]) N j (List.range j).reverse page=page1 at H1 hl1 h;refine ae ?_;refine bD ?_;refine aA (aF hjc1 ?_ (by rfl) (.inl (by rfl)))
 refine aC ?_;refine be (v:=.builtin "len") (by kernel_rfl!) (by kernel_rfl!) ?_
 refine cz (af (ac (H1.get rfl) (am (cT I1.ca (by rw [List.length_map];exact J1 hnl rfl) (zl ⟨_,rfl,?_⟩)))))
 rw [List.length_map];by_cases hjl:j < cs.length
 . rw [if_pos hjl] at h;rw [decide_eq_true (show (j:Int) < (cs.length:Nat) from Int.ofNat_lt.mpr hjl),if_pos rfl];refine bA λnd1=>?_;refine ae ?_;refine qR P hjl I1 hjc1 har1 λra σ2 k2 hra hac hral=>?_;have I2:=I1.up nd1 har1 k2 (.inr rfl);have hjc2:=k2 _ hjc1 (nF c.L).2.2.2;refine ae ?_;have hal:∀ i∈bc (cs++[-1]) j,i < cs.length:=λi hi=>by
     have:=(List.mem_filter.mp hi).1;have:i < j:=by simpa using this
     exact J2 this hjl
   refine tW P hjl I2 hjc2 hac hral hal (by
     refine Nat.le_trans (List.length_filter_le ..) ?_;rw [List.length_range'];exact J3 hjl hnl rfl) λfa σ3 k3 hfa=>?_
   have hcm:cs.getD j 0∈cs:=by
     rw [List.getD_eq_getElem?_getD,List.getElem?_eq_getElem hjl];exact List.getElem_mem hjl
   have I3:=I2.mono k3;refine tX P hjl I3 (k3 _ hjc2) hfa (λu hu=>P.has _ hcm u (mQ u hu)) (mP _ _ _) (by lia) (H1.put (ofString "fresh") (.loc fa)) λle4 σ4 H4 hl4 k4=>?_
   have I4:=I3.mono k4;refine tY P hjl I4 (k4 _ (k3 _ hjc2)) (by lia) H4 λle5 σ5 H5 hl5 k5=>?_
   exact aw (h le5 σ5 H5 (by unfold sO;lia) (I4.mono k5) (k5 _ (k4 _ (k3 _ hjc2))) ⟨_,k5 _ (k4 _ (k3 _ hac))⟩)
 . rw [if_neg hjl] at h;rw [decide_eq_false (show ¬ (j:Int) < (cs.length:Nat) from λe=>hjl (Int.ofNat_lt.mp e)),if_neg Bool.false_ne_true];exact aw (aw (h le1 σ1 H1 (by lia) I1 hjc1 ⟨_,har1⟩))
theorem vH {c:Cx} {X:DA} {cs N:List Int} {shift:Int} {K:LF->ak->aa->Prop} (P:DP cs N):∀ (k j:Nat) (page:Str) (le:ak) (σ:aa),j+k=cs.length+1->page.length<=1000*j->aR le ((ofString "page",.str page)::dF X shift)->DI c X cs N σ->(∃ y,(cJ c,.cell y)∈σ)->(∃ y,(uW c,.cell y)∈σ) ->
   (∀ le' σ',aR le' ((ofString "page",.str (xB cs N shift k j page))::dF X shift)->K .next le' σ') ->
   cW 6 c (fu tU) (cy tU) (fq tU) (hH c) (λ_=>True) K ((List.range' j k).map λi=>LV.int (i:Nat)) le σ:=by
 intro k;induction k with
 | zero=>intro j page le σ _ _ H I _ _ h;exact ⟨trivial,aw (h le σ H)⟩
 | succ k ih =>
   intro j page le σ hj hp H I hjc har h;have hnl:=P.len;refine aH hjc λy hjc=>?_;refine aH har λz har=>?_;rw [List.range'_succ,List.map_cons];refine ⟨trivial,lX λnd=>?_⟩;refine aH (Up.ex (o':=.cell (some (.int (j:Nat)))) hjc) λσ1 u=>?_;refine lW u ?_ (by rfl) (by rfl)
   have I1:=I.up nd hjc (λq hq hne=>u.old hq hne) (.inl rfl);have har1:=u.old har (nF c.L).2.2.2.symm;refine vI P (by lia) I1 u.new har1 (by lia) H λle2 σ2 H2 hl2 I2 hj2 ha2=>?_
   exact ih (j+1) _ le2 σ2 (by lia) (by lia) H2 I2 ⟨_,hj2⟩ ha2 h
noncomputable def c8 (cs:List Int):List Int:=(sortI (cf ((cs.flatMap au).map (fc cs)))).map (· % 32768)
noncomputable def qQ (cs:List Int) (shift:Int):Str:=xB cs (c8 cs) shift (cs.length+1) 0 (ofString "")
theorem mM:∀ (ns D:List Int),(∀ u∈D,u∈ns.foldl step_dedup D)/\∀ u∈ns,u∈ns.foldl step_dedup D:=by
 intro ns;induction ns with
 | nil=>intro D;exact ⟨λ_ h=>h,λ_ h=>nM h⟩
 | cons x ns ih =>
   intro D;refine bh (ih (step_dedup D x)) λh1 h2=>?_;have hx:(∀ u∈D,u∈step_dedup D x)/\x∈step_dedup D x:=by
     unfold step_dedup;split
     . rename_i h;exact ⟨λ_ h=>h,by simpa using h⟩
     . exact ⟨λu hu=>List.mem_append_left _ hu,by simp⟩
   refine ⟨λu hu=>h1 u (hx.1 u hu),λu hu=>?_⟩;rcases List.mem_cons.mp hu with rfl | hu
   . exact h1 _ hx.2
   . exact h2 u hu
theorem kY {cs:List Int} {u:Int} (hu:cK u):fc cs u % 32768=u:=by
 unfold fc;unfold cK at hu;lia
theorem qp (cs:List Int):(cs.flatMap au).length=3*cs.length:=by
 induction cs with
 | nil=>rfl
 | cons d cs ih=>rw [List.flatMap_cons,List.length_append,ih,List.length_cons];simp only [au,List.length_cons,List.length_nil];lia
theorem mV {cs:List Int} (hv:∀ d∈cs,cK d) (u:Int):u∈c8 cs ↔ ∃ d∈cs,u∈au d:=by
 unfold c8;rw [List.mem_map];constructor
 . intro z0_;refine ap z0_ λx hx z1_=>?_;obtain rfl:=z1_;have h1:=(sortI_perm _).mem_iff.mp hx;have h2:=(jb _ _ x h1).resolve_left (λh=>nM h);refine ap (List.mem_map.mp h2) λv hv2 z2_=>?_;clear hx z0_ h1 h2;obtain rfl:=z2_;refine ap (List.mem_flatMap.mp hv2) λd hd hvd=>?_;rw [kY ((hv d hd).used v hvd)];exact ⟨d,hd,hvd⟩
 . intro z3_;refine ap z3_ λd hd hu=>?_;refine ⟨fc cs u,?_,kY ((hv d hd).used u hu)⟩;refine (sortI_perm _).mem_iff.mpr ((mM _ []).2 _ ?_);exact List.mem_map.mpr ⟨u,List.mem_flatMap.mpr ⟨d,hd,hu⟩,rfl⟩
theorem ul (cs:List Int):(c8 cs).length<=3*cs.length:=by
 unfold c8;rw [List.length_map,(sortI_perm _).length_eq];refine Nat.le_trans (fj _) ?_;rw [List.length_map,qp];exact Nat.le_refl _
theorem zV {cs:List Int} (hv:∀ d∈cs,cK d) (hl:cs.length<=14):DP cs (c8 cs) :=
 ⟨hl,hv,λd hd u hu=>(mV hv u).mpr ⟨d,hd,hu⟩,λu hu=>by
   refine ap ((mV hv u).mp hu) λd hd h=>?_;exact (hv d hd).used u h,by have:=ul cs;exact xg this hl rfl⟩
theorem vq:∀ l:Nat,(l+1+1≠l+1/\l+1+1+1≠l+1/\l+1+1+1+1≠l+1/\l+1+1+1+1+1≠l+1)/\(l+1≠l+1+1+1/\l+1+1≠l+1+1+1/\l+1+1+1+1≠l+1+1+1/\l+1+1+1+1+1≠l+1+1+1) /\
   l+1≠l+1+1+1+1/\l+1+1≠l+1+1+1+1/\l+1+1+1≠l+1+1+1+1/\l+1+1+1+1+1≠l+1+1+1+1:=by intro l;lia
set_option maxHeartbeats 0 in
theorem wV {w:World} {ca:Addr} {cs:List Int} {shift:Int} {σ:aa} {K:LV->aa->Prop} (hca:(ca,.list (cs.map .int))∈σ) (hv:∀ d∈cs,cK d) (hl:cs.length<=14) (h:∀ σ',K (.str (qQ cs shift)) σ'):FS 7 w 255 [.loc ca,.int shift] σ K:=by
 refine sR [(ofString "used",none),(ofString "j",none),(ofString "needs",none),(ofString "walk",none),(ofString "around",none)] [(ofString "codes",.loc ca),(ofString "shift",.int shift)] (names:=[ofString "codes",ofString "shift"]) (dl:=[]) (dv:=[]) (hK:=by exact rfl) (hc:=by decide +kernel) ?_ (λ_ _=>.nil) (by decide) rfl ?_ ?_ ?_ ?_ (by decide +kernel) (by decide +kernel) (by decide +kernel) ?_
 . intro s vs _ hl;refine i4 (py hl) λu v z4_=>?_;clear hl;obtain rfl:=z4_;exact BindsTo.of_eq (by kernel_rfl!)
 . exact λL=>by rfl
 . intro x lv h;have h2:=bR h;simp only [List.mem_cons,Prod.mk.injEq,List.not_mem_nil,or_false] at h2;rcases h2 with ⟨rfl,rfl⟩ | ⟨rfl,rfl⟩<;>exact ⟨rfl,by decide +kernel⟩
 . intro L nm' ad' h2;simp only [oV,List.mem_cons,Prod.mk.injEq,List.not_mem_nil,or_false] at h2;rcases h2 with ⟨rfl,rfl⟩ | ⟨rfl,rfl⟩ | ⟨rfl,rfl⟩ | ⟨rfl,rfl⟩ | ⟨rfl,rfl⟩<;>rfl
 . intro nm' x h2;simp only [List.mem_cons,Prod.mk.injEq,List.not_mem_nil,or_false] at h2;rcases h2 with ⟨rfl,rfl⟩ | ⟨rfl,rfl⟩ | ⟨rfl,rfl⟩ | ⟨rfl,rfl⟩ | ⟨rfl,rfl⟩<;>exact ⟨rfl,by decide +kernel⟩
 . intro c hc hlt;subst hc;have P:=zV hv hl;have fin:∀ (X:DA) (le:ak) (σ1:aa),aR le ((ofString "page",.str (ofString ""))::dF X shift)->DI c X cs (c8 cs) σ1->(∃ y,(cJ c,.cell y)∈σ1)->(∃ y,(uW c,.cell y)∈σ1)->WF 6 c (execs (dB.drop 7) (hH c)) le σ1 λf _ σ'=>K f.val σ':=by
     intro X le σ1 H I hj ha;refine ae ?_;refine dC (h:=?_);refine aC ?_;refine be (v:=.type "range") (by kernel_rfl!) (by kernel_rfl!) ?_
     refine cj (af ?_);refine aC ?_;refine be (v:=.builtin "len") (by kernel_rfl!) (by kernel_rfl!) ?_
     have hwl:((cs++[-1]).map LV.int).length=cs.length+1:=by simp
     refine cz (af (aF I.walk (am (cT I.wa (by rw [hwl];exact AK hl) ?_)) (by rfl) (.inl (by rfl))))
     rw [hwl];refine am (fF λr hr=>?_);refine ⟨_,_,_,og (dZ (.head _) (cG (cs.length+1) (zK hl rfl)).1 (cG (cs.length+1) (zK hl rfl)).2),?_⟩;rw [fB];refine aH hj λy hj=>?_;refine aH ha λz ha=>?_;refine vH P (cs.length+1) 0 (ofString "") le _ (by lia) (by decide) H (I.mono λq hq=>.tail _ hq) ⟨y,.tail _ hj⟩ ⟨z,.tail _ ha⟩ λle2 σ2 H2=>?_
     refine ae ?_;exact bE (ac (H2.get rfl) (h σ2))
   have n2:=vq c.L;refine ae ?_;refine ax (ah (ba ?_));refine af (aB (af (aB (af (aB (af (aB (af (aB (af (aB (af (aB (af (aB (am ⟨av (by decide),λt0 ht0=>?_⟩))))))))))))))))
   refine aq (tc (.head _) (by decide) λta hta=>?_)
   refine ae ?_;refine ax (ah (ba ?_));refine af (aB (af (aB (af (aB (af (aB (af (aB (af (aB (af (aB (af (aB (am ⟨av (by decide),λv0 hv0=>?_⟩))))))))))))))))
   refine aq (tc (.head _) (by decide) λva hva=>?_)
   have H2:aR (an (ofString "values") (.loc va) (an (ofString "texts") (.loc ta) [(ofString "codes",.loc ca),(ofString "shift",.int shift)])) [(ofString "codes",.loc ca),(ofString "shift",.int shift),(ofString "texts",.loc ta),(ofString "values",.loc va)]:=by
     exact aR.add (aR.add (aR.add (aR.add (aR.nil_ _) rfl) rfl) rfl) rfl
   have start:∀ le (σ2:aa),aR le [(ofString "codes",.loc ca),(ofString "shift",.int shift),(ofString "texts",.loc ta),(ofString "values",.loc va)]->(c.L+1,.cell none)∈σ2->(c.L+1+1,.cell none)∈σ2->(c.L+1+1+1,.cell none)∈σ2->(c.L+1+1+1+1,.cell none)∈σ2->(c.L+1+1+1+1+1,.cell none)∈σ2->(ca,.list (cs.map .int))∈σ2->(ta,.list (oB.map .str))∈σ2->(va,.list (kB.map .str))∈σ2 ->
       WF 6 c (execs (dB.drop 2) (hH c)) le σ2 λf _ σ'=>K f.val σ':=by
     intro le σ2 H c1 c2 c3 c4 c5 hc ht hv2;refine bA λnd2=>?_;refine ae ?_;refine cv (a:=c.L+1) (hc:=by rfl) (hl:=by rfl) (h:=?_)
     refine eY (cl:=[]) (h:=?_) (hclos:=by rfl) (hs:=λx=>by rfl) (hkind:=by rfl) (hnames:=by decide +kernel) (hcell:=by decide +kernel)
     refine ac (H.get rfl) ?_;refine ⟨σ2,_,_,cF hc,λD C it hD hC hCD=>?_⟩;have hlD:∀ q∈σ2,q.1≠D:=λq hq e=>hD (e ▸ List.mem_map.mpr ⟨q,hq,rfl⟩);have hlC:∀ q∈σ2,q.1≠C:=λq hq e=>hC (e ▸ List.mem_map.mpr ⟨q,hq,rfl⟩);have km:∀ {σ3},aI [C,D] ((C,.frame [])::(D,.list [])::σ2) σ3->∀ q∈σ2,q∈σ3:=λk1 q hq=>k1 q (.tail _ (.tail _ hq)) (by simp [hlD q hq,hlC q hq])
     refine xx (C:=C) (D:=D) (σ0:=(C,.frame [])::(D,.list [])::σ2) (λσ3 k3=>km k3 _ hc) hCD (.head _) (.tail _ (.head _)) (λx σ3 lf hCf=>?_) cs [] [] _ [] (by simp only [List.length_nil];lia) ⟨rfl,λi a l ha _=>nQ ha⟩ (λa ha=>nM ha) (λq hq _=>hq) (.head _) (.tail _ (.head _)) λaddrs σ3 lf R hfr k3 hCf hD3=>⟨rfl,⟨_,hCf⟩,?_⟩
     . refine eI hCf (λσ4 k4 hC4=>⟨rfl,?_⟩) rfl (by rfl) (by rfl)
       have hnm:(an (ofString "code") (LV.int x) lf).lookup (ofString "code")=some (.int x):=by rw [ag,if_pos rfl]
       refine ba (af (bf hC4 hnm (af ?_) rfl (by rfl) (by rfl)))
       refine ah (aq (ah (bf hC4 hnm (aq (cM (by decide) (bZ (af ?_)))) rfl (by rfl) (by rfl))))
       refine ah (ah (bf hC4 hnm (aq (c9 (by decide) (by decide) (aq (gF (by decide) (am ⟨av (by simp),λa ha=>?_⟩)))))  rfl (by rfl) (by rfl)))
       refine ⟨a,rfl,λe=>?_,λq hq hne=>.tail _ (k4 q hq hne),.head _,⟨_,.tail _ hC4⟩⟩;refine ap (List.mem_map.mp e) λq hq e=>?_;by_cases hqC:q.1=C
       . exact ha (List.mem_map.mpr ⟨_,hC4,hqC.symm.trans e⟩)
       . exact ha (List.mem_map.mpr ⟨_,k4 q hq (by simpa using hqC),e⟩)
     have km3:∀ q∈σ2,q∈bk C σ3:=λq hq=>aN (km k3 q hq) (hlC q hq);have hD4:=aN hD3 (Ne.symm hCD);have R4:Rows addrs (cs.map au) (bk C σ3):=R.mono λq hq hm=>aN hq λe=>hfr q.1 hm (by rw [e];simp)
     have ne1:∀ {x:Addr} {l:List LV},(x,.list l)∈σ2->x≠c.L+1:=λhx e=>by rw [e] at hx;cases aJ nd2 hx c1
     refine aH (Up.ex (o':=.cell (some (.loc D))) (km3 _ c1)) λσ4 u4=>?_;refine ⟨none,σ4,u4,?_⟩;have R4:Rows addrs (cs.map au) σ4:=R4.mono λq hq hm=>u4.old hq λe=>hfr q.1 hm (by rw [e];exact List.mem_map.mpr ⟨_,.tail _ (.tail _ c1),rfl⟩)
     have ua4:=u4.old hD4 (λe=>hlD _ c1 e.symm);have ca4:=u4.old (km3 _ hc) (ne1 hc);have ta4:=u4.old (km3 _ ht) (ne1 ht);have va4:=u4.old (km3 _ hv2) (ne1 hv2);have d2:=u4.old (km3 _ c2) n2.1.1;have d3:=u4.old (km3 _ c3) n2.1.2.1;have d4:=u4.old (km3 _ c4) n2.1.2.2.1;have d5:=u4.old (km3 _ c5) n2.1.2.2.2;have d1:=u4.new;clear u4 R hD3 hD4 k3 hCf km3;refine bA λnd4=>?_;refine ae ?_;refine gz (cl:=[(ofString "used",c.L+1)]) (clf:=λC=>[(ofString "code",C+1),(ofString "used",c.L+1)]) (h:=?_) (hclos:=by rfl) (hs:=λx=>by rfl) (hkind:=by rfl) (hnames:=by decide +kernel) (hpush:=λh=>by rfl) (hcf:=λC=>by rfl) (hex:=exec_Assign_Name_used _ _ _ _ (by rfl))
     refine aF d1 ?_ (by rfl) (.inl (by rfl))
     refine ⟨_,_,_,cF ua4,λF C2 it2 hF hC2 hC21 hCF hC1F=>?_⟩;have hl4:∀ q∈σ4,q.1≠F/\q.1≠C2/\q.1≠C2+1:=λq hq=>⟨λe=>hF (e ▸ List.mem_map.mpr ⟨q,hq,rfl⟩),λe=>hC2 (e ▸ List.mem_map.mpr ⟨q,hq,rfl⟩),λe=>hC21 (e ▸ List.mem_map.mpr ⟨q,hq,rfl⟩)⟩;refine tP (C:=C2) (D:=F) (ua:=D) (addrs:=addrs) (cs:=cs) (it0:=it2) (σ0:=σ4) d1 ua4 R4 (zL hl rfl) hCF hC1F hl4 cs.length 0 [] _ (AU) (by decide) (λq hq=>.tail _ (.tail _ (.tail _ hq))) ⟨_,.tail _ (.head _)⟩ ⟨_,.head _⟩ (.tail _ (.tail _ (.head _))) λσ5 k5 hC5 hF5=>⟨hC5,a9 ⟨hC5,?_⟩⟩
     rw [List.nil_append,List.drop_zero] at hF5;have k6:∀ q∈σ4,q∈bk C2 σ5:=λq hq=>aN (k5 q hq) (hl4 q hq).2.1;have hF6:=aN hF5 (Ne.symm hCF);have H6:=H.put (ofString "firsts") (.loc F);generalize an (ofString "firsts") (.loc F) le=le6 at H6 ⊢;generalize bk C2 σ5=σ6 at k6 hF6 ⊢;refine bA λnd6=>?_;refine ae ?_;refine cv (a:=c.L+1+1+1) (hc:=by rfl) (hl:=by rfl) (h:=?_)
     refine eY (cl:=[]) (h:=?_) (hclos:=by rfl) (hs:=λx=>by rfl) (hkind:=by rfl) (hnames:=by decide +kernel) (hcell:=by decide +kernel)
     refine aC ?_;refine be (v:=.builtin "sorted") (by kernel_rfl!) boot_sorted ?_
     refine cz (af ?_);refine aC ?_;refine be (v:=.type "set") (by kernel_rfl!) (by kernel_rfl!) ?_
     have hfl:((cs.flatMap au).map (fc cs)).length=3*cs.length:=by rw [List.length_map,qp]
     have hdl:=fj ((cs.flatMap au).map (fc cs));refine cj (af (ac (H6.get rfl) (am (jN hF6 (by lia) λsd hsd=>?_))))
     refine am (gx (.head _) (by lia) λso hso=>?_)
     refine ⟨_,_,_,cF (.head _),λG C3 it3 hG hC3 hCG=>?_⟩;have hlG:∀ q∈σ6,q.1≠G:=λq hq e=>hG (e ▸ List.mem_map.mpr ⟨q,.tail _ (.tail _ hq),rfl⟩);have hlC3:∀ q∈σ6,q.1≠C3:=λq hq e=>hC3 (e ▸ List.mem_map.mpr ⟨q,.tail _ (.tail _ hq),rfl⟩);have hso2:so≠G/\so≠C3:=⟨λe=>hG (by rw [<-e];exact .head _),λe=>hC3 (by rw [<-e];exact .head _)⟩
     refine nG (D:=G) (ch:=[C3]) (Inv:=λσ=>∃ lf,(C3,LO.frame lf)∈σ) (σ0:=(C3,.frame [])::(G,.list [])::(so,.list ((sortI (cf ((cs.flatMap au).map (fc cs)))).map .int))::(sd,.raw (i5 c.w (cf ((cs.flatMap au).map (fc cs)))))::σ6) (g:=LV.int) (f:=λx=>.int (x % 32768)) (gh hCG) (by simpa using Ne.symm hCG) (λσ7 k7=>k7 _ (.tail _ (.tail _ (.head _))) (by simp [hso2.1,hso2.2])) (sortI (cf ((cs.flatMap au).map (fc cs)))) [] _ (by rw [(sortI_perm _).length_eq];simp only [List.length_nil];lia) (λx hx σ7 k7 hI=>?_) (λq hq _=>hq) ⟨_,.head _⟩ (.tail _ (.head _)) (λσ7 k7 hI hl7=>⟨rfl,hI,?_⟩)
     . refine aH hI λlf hCf=>?_;refine eI hCf (λσ8 k8 hC8=>⟨rfl,?_⟩) rfl (by rfl) (by rfl)
       exact ah (bf hC8 (by rw [ag,if_pos rfl]) (aq (cM (by decide) ⟨rfl,k8,⟨_,hC8⟩⟩)) rfl (by rfl) (by rfl))
     have km8:∀ q∈σ6,q∈bk C3 σ7:=λq hq=>aN (k7 q (.tail _ (.tail _ (.tail _ (.tail _ hq)))) (by simp [hlG q hq,hlC3 q hq])) (hlC3 q hq)
     have hG8:=aN hl7 (Ne.symm hCG);rw [List.nil_append] at hG8;generalize bk C3 σ7=σ8 at km8 hG8 ⊢;have k8:∀ q∈σ4,q∈σ8:=λq hq=>km8 q (k6 q hq);have ne3:∀ {x:Addr} {l:List LV},(x,.list l)∈σ4->x≠c.L+1+1+1:=λhx e=>by rw [e] at hx;cases aJ nd4 hx d3
     refine aH (Up.ex (o':=.cell (some (.loc G))) (k8 _ d3)) λσ9 u9=>?_;refine ⟨none,σ9,u9,?_⟩;have R9:Rows addrs (cs.map au) σ9:=⟨R4.len,λi a l hi hl=>u9.old (k8 _ (R4.each i a l hi hl)) (ne3 (R4.each i a l hi hl))⟩;have ua9:=u9.old (k8 _ ua4) (ne3 ua4);have ca9:=u9.old (k8 _ ca4) (ne3 ca4);have ta9:=u9.old (k8 _ ta4) (ne3 ta4);have va9:=u9.old (k8 _ va4) (ne3 va4);have e1:=u9.old (k8 _ d1) n2.2.1.1;have e2:=u9.old (k8 _ d2) n2.2.1.2.1;have e4:=u9.old (k8 _ d4) n2.2.1.2.2.1;have e5:=u9.old (k8 _ d5) n2.2.1.2.2.2;have e3:=u9.new;have na9:(G,LO.list ((c8 cs).map .int))∈σ9:=by
       have:=u9.old hG8 (λe=>hlG _ (k6 _ d3) e.symm);unfold c8;rw [List.map_map];exact this
     clear u9;refine bA λnd9=>?_;refine ae ?_;refine cv (a:=c.L+1+1+1+1) (hc:=by rfl) (hl:=by rfl) (h:=?_)
     refine ah (ac (H6.get rfl) (ba (af (cI (aq (fg (am ⟨av (by decide),λm1 hm1=>?_⟩)))))))
     refine tb (.tail _ ca9) (.head _) (by rw [List.length_map];simp only [List.length_cons,List.length_nil];lia) λwa hwa=>?_
     have k10:∀ q∈σ9,q∈(wa,LO.list (cs.map LV.int++[.int (-1)]))::(m1,.list [.int (-1)])::σ9:=λq hq=>.tail _ (.tail _ hq);have ne4:∀ {x:Addr} {l:List LV},(x,.list l)∈σ9->x≠c.L+1+1+1+1:=λhx e=>by rw [e] at hx;cases aJ nd9 hx e4
     refine aH (Up.ex (o':=.cell (some (.loc wa))) (k10 _ e4)) λσ11 u11=>?_;refine ⟨none,σ11,u11,?_⟩;have kk:∀ q∈σ9,q.1≠c.L+1+1+1+1->q∈σ11:=λq hq hne=>u11.old (k10 q hq) hne;have hwa2:wa≠c.L+1+1+1+1:=λe=>hwa (e ▸ List.mem_map.mpr ⟨_,.tail _ e4,rfl⟩);refine ae ?_;refine ax (aB ?_);refine fin ⟨D,G,wa,ta,va,ca,addrs⟩ _ σ11 ?_ ⟨kk _ e1 n2.2.2.1,kk _ ua9 (ne4 ua9),⟨R9.len,λi a l hi hl=>kk _ (R9.each i a l hi hl) (ne4 (R9.each i a l hi hl))⟩,kk _ e3 n2.2.2.2.2.1,kk _ na9 (ne4 na9),u11.new,?_,kk _ ta9 (ne4 ta9),kk _ va9 (ne4 va9),kk _ ca9 (ne4 ca9)⟩ ⟨_,kk _ e2 n2.2.2.2.1⟩ ⟨_,kk _ e5 n2.2.2.2.2.2⟩
     . refine (H6.put (ofString "page") _).sub ?_;exact aR.add (aR.add (aR.add (aR.add (aR.add (aR.nil_ _) rfl) rfl) rfl) rfl) rfl
     . have:=u11.old (.head _) hwa2;rw [List.map_append];exact this
   refine start _ _ H2 ?_ ?_ ?_ ?_ ?_ (.tail _ (.tail _ (.tail _ (.tail _ (List.mem_append_right _ hca))))) (.tail _ (.tail _ (.head _))) (.head _)
   . exact .tail _ (.tail _ (.tail _ (.tail _ (.head _))))
   . exact .tail _ (.tail _ (.tail _ (.tail _ (.tail _ (.head _)))))
   . exact .tail _ (.tail _ (.tail _ (.tail _ (.tail _ (.tail _ (.head _))))))
   . exact .tail _ (.tail _ (.tail _ (.tail _ (.tail _ (.tail _ (.tail _ (.head _)))))))
   . exact .tail _ (.tail _ (.tail _ (.tail _ (.tail _ (.tail _ (.tail _ (.tail _ (.head _))))))))
theorem kR {D:List Int} {k:Int} (h:k∈D):step_dedup D k=D:=by unfold step_dedup;rw [if_pos (by simpa using h)]
theorem ja {D:List Int} {k:Int} (h:k∉D):step_dedup D k=D++[k]:=by unfold step_dedup;rw [if_neg (by simpa using h)]
theorem qY:∀ (ns D:List Int),D.Nodup->(ns.foldl step_dedup D).Nodup:=by
 intro ns;induction ns with
 | nil=>intro D h;exact h
 | cons x ns ih =>
   intro D h;refine ih _ ?_;by_cases hx:x∈D
   . rw [kR hx];exact h
   . rw [ja hx];exact List.nodup_append.mpr ⟨h,by simp,λa ha b hb e=>by rw [List.mem_singleton] at hb;subst hb;subst e;exact hx ha⟩
theorem eS (ns:List Int):(cf ns).Nodup:=qY ns [] .nil
theorem gC (ns:List Int) (u:Int):u∈cf ns ↔ u∈ns:=⟨λh=>(jb ns [] u h).resolve_left (λh=>nM h),(mM ns []).2 u⟩
theorem o8:∀ (ns D:List Int),∃ R,ns.foldl step_dedup D=D++R:=by
 intro ns;induction ns with
 | nil=>intro D;exact ⟨[],(List.append_nil _).symm⟩
 | cons x ns ih =>
   intro D;refine aH (ih (step_dedup D x)) λR e=>?_;by_cases hx:x∈D
   . rw [kR hx] at e;exact ⟨R,by rw [List.foldl_cons,kR hx];exact e⟩
   . rw [ja hx] at e;exact ⟨x::R,by rw [List.foldl_cons,ja hx,e,List.append_assoc];rfl⟩
theorem lc {key:Int->Int}:∀ (us L:List Int),(L.map key).Pairwise (·<=·)->(∀ x∈L,∀ u∈us,u∉L->key x<=key u)->us.Pairwise (λa b=>a∉L->b∉L->key a<=key b)->((us.foldl step_dedup L).map key).Pairwise (·<=·):=by
 intro us;induction us with
 | nil=>intro L h _ _;exact h
 | cons u us ih =>
   intro L h h1 h2;rw [List.pairwise_cons] at h2;rw [List.foldl_cons];by_cases hu:u∈L
   . rw [kR hu];exact ih L h (λx hx v hv=>h1 x hx v (.tail _ hv)) h2.2
   . rw [ja hu];refine ih _ ?_ ?_ ?_
     . rw [List.map_append,List.pairwise_append];refine ⟨h,by simp,λa ha b hb=>?_⟩
       refine ap (List.mem_map.mp ha) λx hx z0_=>?_;clear ha;obtain rfl:=z0_;simp only [List.map_cons,List.map_nil,List.mem_singleton] at hb;subst hb;exact h1 x hx u (.head _) hu
     . intro x hx v hv hn;have hvL:v∉L:=λe=>hn (List.mem_append_left _ e);refine Or.elim (List.mem_append.mp hx) (λhx=>?_) λhx=>?_
       . exact h1 x hx v (.tail _ hv) hvL
       . rw [List.mem_singleton] at hx;clear h1 hn;subst hx;exact h2.1 v hv hu hvL
     . refine h2.2.imp λ{a b} hab ha hb=>hab (λe=>ha (List.mem_append_left _ e)) λe=>hb (List.mem_append_left _ e)
noncomputable def eZ (cs:List Int):List Int:=cf (cs.flatMap λd=>sortI (au d))
theorem eO {cs:List Int} {u:Int}:u∈eZ cs ↔ ∃ d∈cs,u∈au d:=by
 unfold eZ;rw [gC,List.mem_flatMap];exact ⟨λhx31_=>ap hx31_ λd h1 h2=>⟨d,h1,(sortI_perm _).mem_iff.mp h2⟩,λhx32_=>ap hx32_ λd h1 h2=>⟨d,h1,(sortI_perm _).mem_iff.mpr h2⟩⟩
theorem kF (cs:List Int) (d:Int):eZ (cs++[d])=(sortI (au d)).foldl step_dedup (eZ cs):=by
 unfold eZ cf;rw [List.flatMap_append,List.foldl_append];simp only [List.flatMap_cons,List.flatMap_nil,List.append_nil]
theorem vN {cs:List Int} {u:Int} {i:Nat} (hi:i < cs.length) (h:u∈au cs[i]):fN cs u<=i:=by
 refine Nat.not_lt.mp λhlt=>?_;have:=List.not_of_lt_findIdx hlt;rw [List.any_eq_true.mpr ⟨u,h,by simp⟩] at this
 cases this
theorem tI {cs:List Int} (hv:∀ d∈cs,cK d):∀ j,j<=cs.length->((eZ (cs.take j)).map (fc cs)).Pairwise (·<=·):=by
 intro j;induction j with
 | zero=>intro _;rw [List.take_zero];exact .nil
 | succ j ih =>
   intro hj;have hjl:j < cs.length:=hj;have hd:=hv _ (List.getElem_mem hjl);rw [List.take_add_one,List.getElem?_eq_getElem hjl];show ((eZ (cs.take j++[cs[j]])).map (fc cs)).Pairwise (·<=·)
   rw [kF];have new:∀ u∈sortI (au cs[j]),u∉eZ (cs.take j)->fN cs u=j/\cK u:=by
     intro u hu hn;have hu2:=(sortI_perm _).mem_iff.mp hu;refine ⟨k9 hjl ?_ λi hi=>?_,hd.used u hu2⟩
     . rw [List.getD_eq_getElem?_getD,List.getElem?_eq_getElem hjl];exact List.any_eq_true.mpr ⟨u,hu2,by simp⟩
     . cases hq:(au (cs.getD i 0)).any (·==u) with
       | false=>rfl
       | true =>
         refine absurd (eO.mpr ?_) hn;have hil:i < cs.length:=by lia
         refine ap (List.any_eq_true.mp hq) λv hv1 hv2=>?_;rw [beq_iff_eq] at hv2;clear hu hn hu2 hq;subst hv2;rw [List.getD_eq_getElem?_getD,List.getElem?_eq_getElem hil] at hv1;refine ⟨cs[i],?_,hv1⟩;rw [List.mem_take_iff_getElem];exact ⟨i,by lia,rfl⟩
   refine lc _ _ (ih (J8 hj)) ?_ ?_
   . intro x hx u hu hn;refine bh (new u hu hn) λe hvu=>?_;refine ap (eO.mp hx) λd hd2 hxd=>?_;refine aH (List.mem_take_iff_getElem.mp hd2) λi y0_=>?_;refine aH y0_ λhi ed=>?_;have hil:i < cs.length:=by lia
     have h1:=vN (u:=x) hil (by rw [ed];exact hxd)
     have hvx:=(hv _ (List.getElem_mem hil)).used x (by rw [ed];exact hxd)
     unfold fc;rw [e];unfold cK at hvx hvu;lia
   . refine List.Pairwise.imp_of_mem ?_ (sortI_rises (au cs[j]));intro a b ha hb hab h1 h2;unfold fc;rw [(new a ha h1).1,(new b hb h2).1];lia
theorem wu {cs:List Int} (hv:∀ d∈cs,cK d):c8 cs=eZ cs:=by
 have hval:∀ u∈eZ cs,cK u:=λu hu=>by
   refine ap (eO.mp hu) λd hd h=>?_;exact (hv d hd).used u h
 have hmod:∀ u∈eZ cs,fc cs u % 32768=u:=λu hu=>kY (hval u hu);have hr:=tI hv cs.length (Nat.le_refl _);rw [List.take_length] at hr;have hnd:((eZ cs).map (fc cs)).Nodup:=by
   rw [List.nodup_iff_pairwise_ne,List.pairwise_map];refine List.Pairwise.imp_of_mem ?_ (List.nodup_iff_pairwise_ne.mp (eS (cs.flatMap λd=>sortI (au d))));intro a b ha hb ne e;exact ne (by rw [<-hmod a ha,<-hmod b hb,e])
 have hp:((eZ cs).map (fc cs)).Perm (cf ((cs.flatMap au).map (fc cs))):=by
   refine (List.perm_ext_iff_of_nodup hnd (eS _)).mpr λa=>?_;rw [gC,List.mem_map,List.mem_map];constructor
   . intro z1_;refine ap z1_ λu hu z2_=>?_;clear z1_;obtain rfl:=z2_;refine ap (eO.mp hu) λd hd h=>?_;exact ⟨u,List.mem_flatMap.mpr ⟨d,hd,h⟩,rfl⟩
   . intro z3_;refine ap z3_ λu hu z4_=>?_;clear z3_;obtain rfl:=z4_;refine ap (List.mem_flatMap.mp hu) λd hd h=>?_;exact ⟨u,eO.mpr ⟨d,hd,h⟩,rfl⟩
 unfold c8;rw [<-eq_sortI hp hr,List.map_map];conv=>rhs;rw [<-List.map_id (eZ cs)]
 exact List.map_congr_left hmod
theorem qI {Sc:List Int}:∀ (us N D:List Int),(∀ u∈Sc,u∈N)->(∀ u∈D,u∈N)->(aS Sc us (N,D)).1=us.foldl step_dedup N:=by
 intro us;induction us with
 | nil=>intro N D _ _;rfl
 | cons u us ih =>
   intro N D hs hd;rw [eQ,List.foldl_cons];unfold bB;by_cases hm:u∈D\/u∈Sc
   . rw [if_pos hm,kR (hm.elim (hd u) (hs u))];exact ih N D hs hd
   . rw [if_neg hm];dsimp only;by_cases hn:u∈N
     . rw [if_pos hn,kR hn];refine ih N (D++[u]) hs λx hx=>?_;refine Or.elim (List.mem_append.mp hx) (λhx=>?_) λhx=>?_
       . exact hd x hx
       . rw [List.mem_singleton] at hx;clear hm;subst hx;exact hn
     . rw [if_neg hn,ja hn];refine ih (N++[u]) (D++[u]) (λx hx=>List.mem_append_left _ (hs x hx)) λx hx=>?_;refine Or.elim (List.mem_append.mp hx) (λhx=>?_) λhx=>?_
       . exact List.mem_append_left _ (hd x hx)
       . exact List.mem_append_right _ hx
noncomputable def tx (s:Str):List Nat:=s.cps.toList
theorem sm {a b:Str} (h:tx a=tx b):a=b:=by
 obtain ⟨⟨a⟩⟩:=a;obtain ⟨⟨b⟩⟩:=b;exact congrArg (λl:List Nat=>(⟨⟨l⟩⟩:Str)) h
theorem cu (a b:Str):tx (a++b)=tx a++tx b:=by
 show (a.cps++b.cps).toList=_;rw [Array.toList_append];rfl
theorem zA (l:List Nat):tx (bd l)=l:=rfl
theorem oG:∀ l:List Str,tx (Txt.join (ofString "") l)=l.flatMap tx:=by
 intro l;have e:(ofString "").cps=#[]:=by decide +kernel
 have key:∀ (r:List Str) (acc:Array Nat),(r.foldl (λacc p=>acc++(ofString "").cps++p.cps) acc).toList=acc.toList++r.flatMap tx:=by
   intro r;induction r with
   | nil=>intro acc;simp
   | cons p r ih =>
     intro acc;rw [List.foldl_cons,ih,e];simp [tx]
 cases l with
 | nil=>rfl
 | cons p r=>exact key r p.cps
noncomputable def dM (N:List Int) (u:Int):List Nat:=tx (cX (cn N u))
theorem mT:tx (ofString "</n")=tx (ofString "</")++tx (ofString "n")/\tx (ofString ":f>")=tx (ofString ":")++[102]++tx (ofString ">"):=by decide +kernel
theorem sp (N:List Int) (u:Int):tx (cn N u)=tx (ofString "n")++tx (dS N u):=by rw [<-wN,cu]
theorem tE (p:Str) (t:Nat):tx (qn p t)=tx p++tx (ofString ":")++[t]:=by unfold qn;rw [cu,cu,zA]
theorem i7 (N:List Int) (u:Int):dM N u=tx (ofString "</n")++tx (dS N u)++tx (ofString ":f>"):=by
 unfold dM cX;rw [cu,cu,tE,sp,mT.1,mT.2];simp only [List.append_assoc]
theorem tS (w N:List Int) (j:Nat):∀ (is:List Nat) (page:Str),tx (co w N j is page)=tx page++(is.filter λi=>ku w i j && decide (w.getD j 0 < w.getD i 0)).flatMap λi=>dM N (w.getD i 0):=by
 intro is;induction is with
 | nil=>intro page;simp [co]
 | cons i is ih =>
   intro page;rw [co,ih,List.filter_cons];cases h:(ku w i j && decide (w.getD j 0 < w.getD i 0)) with
   | false=>simp
   | true =>
     rw [if_pos rfl,if_pos rfl,List.flatMap_cons,i7,cu,cu,cu];simp only [List.append_assoc]
noncomputable def tT (st:gL):List Nat:=(st.page++st.data.map fk).flatMap tx
theorem wZ (N:List Int) (p:Int × List Int) (r:List (Int × List Int)) (page data:List Str):tT (dK ⟨N,p::r,page,data⟩)=tT ⟨N,p::r,page,data⟩++dM N p.1:=by
 unfold tT dK dM;simp only [List.map_cons,List.headD_cons,List.map_nil,List.append_nil,List.flatMap_append,List.flatMap_cons,List.flatMap_nil]
noncomputable abbrev iS (v:Nat->Int) (D:Nat->List Int) (l:List Nat):List (Int × List Int):=l.map λi=>(v i,D i)
theorem yk (c:Int) (v:Nat->Int) (D:Nat->List Int) (N:List Int) (hc:-1 < c):∀ (l:List Nat) (page data:List Str),l.Pairwise (λa b=>v b<=v a)->(∀ i∈l,-1 < v i) ->
   ∃ page' data',g8 c l.length ⟨N,iS v D l,page,data⟩=⟨N,iS v D (l.filter λi=>!decide (c < v i)),page',data'⟩/\tT ⟨N,iS v D (l.filter λi=>!decide (c < v i)),page',data'⟩=tT ⟨N,iS v D l,page,data⟩++(l.filter λi=>decide (c < v i)).flatMap λi=>dM N (v i):=by
 intro l;induction l with
 | nil=>intro page data _ _;exact ⟨page,data,rfl,by simp⟩
 | cons i l ih =>
   intro page data hp hv;rw [List.pairwise_cons] at hp;have e:g8 c (i::l).length ⟨N,iS v D (i::l),page,data⟩=if decide (c < v i) then g8 c l.length (dK ⟨N,iS v D (i::l),page,data⟩) else ⟨N,iS v D (i::l),page,data⟩:=rfl
   rw [e];by_cases h:c < v i
   . rw [if_pos (decide_eq_true h)];refine bb (ih (dK ⟨N,iS v D (i::l),page,data⟩).page (dK ⟨N,iS v D (i::l),page,data⟩).data hp.2 λk hk=>hv k (.tail _ hk)) λpage' data' e1 e2=>?_;refine ⟨page',data',?_,?_⟩
     . rw [List.filter_cons_of_neg (by simp [h])];exact e1
     . rw [List.filter_cons_of_neg (by simp [h]),e2,List.filter_cons_of_pos (by simp [h]),List.flatMap_cons]
       have:tT ⟨N,iS v D l,(dK ⟨N,iS v D (i::l),page,data⟩).page,(dK ⟨N,iS v D (i::l),page,data⟩).data⟩=tT ⟨N,iS v D (i::l),page,data⟩++dM N (v i):=wZ N (v i,D i) (iS v D l) page data;rw [this,List.append_assoc]
   . rw [if_neg (by simpa using h)]
     have all:∀ k∈i::l,¬ c < v k:=by
       intro k hk;rcases List.mem_cons.mp hk with rfl | hk
       . exact h
       . exact Int.not_lt.mpr (Int.le_trans (hp.1 k hk) (Int.not_lt.mp h))
     have f1:(i::l).filter (λi=>!decide (c < v i))=i::l:=List.filter_eq_self.mpr λk hk=>by simpa using all k hk
     have f2:(i::l).filter (λi=>decide (c < v i))=[]:=List.filter_eq_nil_iff.mpr λk hk=>by simpa using all k hk
     exact ⟨page,data,by rw [f1],by rw [f1,f2];simp⟩
theorem tQ (v:Nat->Int) (D:Nat->List Int) (N:List Int):∀ (l:List Nat) (page data:List Str),
   ∃ page' data',ge l.length ⟨N,iS v D l,page,data⟩=⟨N,[],page',data'⟩/\(l≠[]->data'=[])/\tT ⟨N,[],page',data'⟩=tT ⟨N,iS v D l,page,data⟩++l.flatMap λi=>dM N (v i):=by
 intro l;induction l with
 | nil=>intro page data;exact ⟨page,data,rfl,λh=>absurd rfl h,by simp⟩
 | cons i l ih =>
   intro page data;refine bl (ih (dK ⟨N,iS v D (i::l),page,data⟩).page (dK ⟨N,iS v D (i::l),page,data⟩).data) λpage' data' e1 e2 e3=>?_;refine ⟨page',data',e1,λ_=>?_,?_⟩
   . cases l with
     | nil=>cases e1;rfl
     | cons k l=>exact e2 (by simp)
   . have:tT ⟨N,iS v D l,(dK ⟨N,iS v D (i::l),page,data⟩).page,(dK ⟨N,iS v D (i::l),page,data⟩).data⟩=tT ⟨N,iS v D (i::l),page,data⟩++dM N (v i):=wZ N (v i,D i) (iS v D l) page data;rw [e3,this,List.flatMap_cons,List.append_assoc]
noncomputable def df (w:List Int) (j:Nat):List Nat:=((List.range j).filter λi=>ku w i j).reverse
theorem pL {w:List Int} {i j:Nat} (hij:i<=j) (hj:j < w.length):ku w i (j+1)=(ku w i j && decide (w.getD i 0<=w.getD j 0)):=by
 unfold ku;have e:(w.drop i).take (j+1 - i)=(w.drop i).take (j - i)++[w.getD j 0]:=by
   rw [Nat.succ_sub hij,List.take_add_one,List.getElem?_drop,show i+(j - i)=j by exact B1 hij,List.getElem?_eq_getElem hj,List.getD_eq_getElem?_getD,List.getElem?_eq_getElem hj];rfl
 rw [e,List.all_append];simp
theorem pK {w:List Int} {j:Nat} (hj:j < w.length):ku w j (j+1)=true:=by
 rw [pL (Nat.le_refl _) hj];unfold ku;simp
theorem hW {w:List Int} {j:Nat} (hj:j < w.length):df w (j+1)=j::(df w j).filter λi=>!decide (w.getD j 0 < w.getD i 0):=by
 unfold df;rw [List.range_succ,List.filter_append,List.reverse_append,List.filter_cons_of_pos (p:=λi=>ku w i (j+1)) (pK hj)];simp only [List.filter_nil,List.reverse_cons,List.reverse_nil,List.nil_append,List.cons_append,List.filter_reverse,List.filter_filter];congr 2;refine List.filter_congr λi hi=>?_;rw [pL (Nat.le_of_lt (List.mem_range.mp hi)) hj,Bool.and_comm];congr 1;rw [Bool.eq_iff_iff,decide_eq_true_eq,Bool.not_eq_true',decide_eq_false_iff_not];exact Int.not_lt.symm
theorem iG {w:List Int} {j:Nat} (hj:j < w.length):(df w j).filter (λi=>!decide (w.getD j 0 < w.getD i 0))=(bc w j).reverse:=by
 have h:=hW hj;unfold df at h;rw [List.range_succ,List.filter_append,List.reverse_append,List.filter_cons_of_pos (p:=λi=>ku w i (j+1)) (pK hj)] at h;simp only [List.filter_nil,List.reverse_cons,List.reverse_nil,List.nil_append,List.cons_append,List.cons.injEq,true_and] at h;unfold df;rw [<-h,bc,List.range_eq_range']
theorem oi {w:List Int} {j:Nat}:(List.range j).reverse.filter (λi=>ku w i j && decide (w.getD j 0 < w.getD i 0))=(df w j).filter λi=>decide (w.getD j 0 < w.getD i 0):=by
 unfold df;rw [List.filter_reverse,List.filter_reverse,List.filter_filter];congr 1;exact List.filter_congr λi _=>Bool.and_comm ..
theorem lF {w:List Int} {j i:Nat} (h:i∈df w j):i < j/\ku w i j=true:=by
 have:=List.mem_filter.mp (List.mem_reverse.mp h);exact ⟨List.mem_range.mp this.1,this.2⟩
theorem oj {w:List Int} {i k j:Nat} (h:ku w i j=true) (hik:i<=k) (hkj:k < j) (hj:j<=w.length):w.getD i 0<=w.getD k 0:=by
 unfold ku at h;have hk:k < w.length:=by exact yU hkj hj
 have hm:w.getD k 0∈(w.drop i).take (j - i):=by
   rw [List.mem_take_iff_getElem];refine ⟨k - i,by rw [List.length_drop];exact Nat.lt_min.mpr ⟨Nat.sub_lt_sub_right hik hkj,Nat.sub_lt_sub_right hik hk⟩,?_⟩
   rw [List.getElem_drop,List.getD_eq_getElem?_getD];simp only [show i+(k - i)=k by exact B1 hik]
   rw [List.getElem?_eq_getElem hk];rfl
 exact of_decide_eq_true (List.all_eq_true.mp h _ hm)
theorem pJ {w:List Int} {j:Nat} (hj:j<=w.length):(df w j).Pairwise λa b=>w.getD b 0<=w.getD a 0:=by
 unfold df;rw [List.pairwise_reverse];refine List.Pairwise.imp_of_mem ?_ (List.pairwise_lt_range.filter _);intro a b ha hb hab;have h1:=List.mem_filter.mp ha;have h2:=List.mem_range.mp (List.mem_filter.mp hb).1;exact oj h1.2 (Nat.le_of_lt hab) h2 hj
theorem fQ {N R:List Int} {u:Int} (hu:u∈N):cn (N++R) u=cn N u:=by
 unfold cn;rw [List.idxOf_append,if_pos hu]
theorem pi {N R:List Int} {u:Int} (hu:u∈N):dS (N++R) u=dS N u:=by
 unfold dS;rw [List.idxOf_append,if_pos hu]
theorem oH:(∀ t:Nat,t < 9->o6 (dU (t:Int))=lV t)/\∀ t:Nat,t < 10->fk (dU (t:Int))=qo t:=by decide +kernel
theorem gk:(tx (ofString "<n")=tx (ofString "<")++tx (ofString "n")/\tx (ofString ":f")=tx (ofString ":")++[102])/\(tx (ofString " xmlns:")=tx (ofString " ")++tx (ofString "xmlns:")/\tx (ofString " n")=tx (ofString " ")++tx (ofString "n"))/\tx (ofString "r")=[114]/\tx (ofString "k")=[107]:=by decide +kernel
noncomputable def yI (a v:List Nat):List Nat:=tx (ofString " ")++(a++(tx (ofString "=\"")++(v++tx (ofString "\""))))
theorem nE (p:Str × Str):tx (bI p)=yI (tx p.1) (tx (o6 p.2)):=by
 unfold bI yI;simp only [cu,List.append_assoc]
theorem yZ (N:List Int):∀ (us:List Int) (page:Str),tx (vC N us page)=tx page++us.flatMap λu=>yI (tx (ofString "xmlns:")++tx (cn N u)) (tx (aP u)):=by
 intro us;induction us with
 | nil=>intro page;simp [vC]
 | cons u us ih =>
   intro page;rw [vC,ih,List.flatMap_cons];unfold yI;simp only [cu,List.append_assoc,gk.2.1.1]
theorem xz (N:List Int):∀ (as:List At) (page:Str),tx (i9 N as page)=tx page++as.flatMap λa=>yI (tx (cn N a.1)++(tx (ofString ":")++tx a.2.1)) (tx (lV a.2.2)):=by
 intro as;induction as with
 | nil=>intro page;simp [i9]
 | cons a as ih =>
   intro page;rw [i9,ih,List.flatMap_cons];unfold yI;simp only [cu,List.append_assoc,gk.2.1.2,sp]
theorem ut {N D:List Int} (hN:N.length<=60) (hD:D.length<=3) (nd:D.Nodup) (hs:∀ u∈D,u∈N):ck (D.map λu=>(ofString "xmlns:"++cn N u,aP u))=(f6 N D).map λu=>(ofString "xmlns:"++cn N u,aP u):=by
 have e:cU (λi j=>eC ((D.map λu=>(ofString "xmlns:"++cn N u,aP u)).getD i (Str.empty,Str.empty)) ((D.map λu=>(ofString "xmlns:"++cn N u,aP u)).getD j (Str.empty,Str.empty))) D.length=cU (pM N D) D.length:=by
   refine cq hD λi j hi hj ne=>?_;have hne:cn N D[i]≠cn N D[j]:=λq=>by
     have q:=tq hN (hs _ (List.getElem_mem hi)) (hs _ (List.getElem_mem hj)) q;have hp:=List.pairwise_iff_getElem.mp (List.nodup_iff_pairwise_ne.mp nd);refine Or.elim (Nat.lt_or_gt_of_ne ne) (λh=>?_) λh=>?_
     . exact hp i j hi hj h q
     . exact hp j i hj hi h q.symm
   have hne2:ofString "xmlns:"++cn N D[i]≠ofString "xmlns:"++cn N D[j]:=λq=>hne (sm (List.append_cancel_left (by rw [<-cu,<-cu,q])))
   unfold pM;simp only [List.getD_eq_getElem?_getD,List.getElem?_map,List.getElem?_eq_getElem hi,List.getElem?_eq_getElem hj,Option.map_some,Option.getD_some,uY,pC,mU,s7,eC];rw [if_neg hne,if_neg hne2];rw [Option.getD_some,Bool.eq_iff_iff,decide_eq_true_eq,decide_eq_true_eq];show tx (ofString "xmlns:"++cn N D[i]) < tx (ofString "xmlns:"++cn N D[j]) ↔ _;rw [cu,cu,gB rfl];exact ⟨λh=>h.elim (λh=>absurd h (List.lt_irrefl _)) (·.2),λh=>.inr ⟨rfl,h⟩⟩
 unfold ck f6 eE;rw [List.length_map,e,List.map_map];refine List.map_congr_left λi hi=>?_;have hi:=bS _ hD i hi;simp only [Function.comp,List.getD_eq_getElem?_getD,List.getElem?_map,List.getElem?_eq_getElem hi,Option.map_some,Option.getD_some]
theorem yg {cs N R D:List Int} {c shift:Int} {j:Nat} (page:Str) (hN:(N++R).length<=60) (hc:∀ u∈au c,u∈N/\cK u) (hD:cO cs c (bc (cs++[-1]) j)=D) (hDl:D.length<=3) (nd:D.Nodup) (hDs:∀ u∈D,u∈N/\cK u) (hj:cs.getD j 0=c) :
   tx (sO cs (N++R) shift j page)=tx page++((eV N D c (dU (di shift j)) (dU (di shift j+1))).flatMap tx++tx (fk (dU (di shift j+2)))):=by
 have hN0:N.length<=60:=by rw [List.length_append] at hN;exact zE hN rfl
 refine bh (ip shift j) λt0 t1=>?_;refine ap (dj (x:=di shift j) (b:=8) t0 t1) λt ht et=>?_;unfold sO eV;rw [hj,hD,et,Int.toNat_natCast];have ho:f6 (N++R) D=f6 N D:=by
   unfold f6 eE;rw [cq (g:=pM N D) hDl λi k hi hk ne=>?_];unfold pM;simp only [List.getD_eq_getElem?_getD,List.getElem?_eq_getElem hi,List.getElem?_eq_getElem hk,Option.getD_some,uY];rw [fQ (hDs _ (List.getElem_mem hi)).1,fQ (hDs _ (List.getElem_mem hk)).1]
 have hcN:=(hc c (by simp [au])).1
 have hr:=hc (rC c) (by simp [au])
 have hk:=hc (kC c) (by simp [au])
 have v1:=oH.1 t (by lia)
 have v2:=oH.1 (t+1) (by lia)
 have v3:=oH.2 (t+2) (by lia)
 have e1:(((f6 N D).map λu=>(ofString "xmlns:"++cn N u,aP u)).map bI).flatMap tx=(f6 N D).flatMap λu=>yI (tx (ofString "xmlns:")++tx (cn (N++R) u)) (tx (aP u)):=by
   have:∀ u∈f6 N D,u∈N/\cK u:=λu hu=>hDs u ((mY hDl).mem_iff.mp hu);generalize f6 N D=l at this ⊢;rw [List.map_map,List.flatMap_map,List.flatMap_def,List.flatMap_def];congr 1;refine List.map_congr_left λu hu=>?_;dsimp only [Function.comp];rw [nE,fQ (this u hu).1];dsimp only;rw [o7 (this u hu).2,cu]
 have e2:((f5 N c (dU (t:Nat)) (dU ((t+1:Nat):Int))).map bI).flatMap tx=(cw c t).flatMap λa=>yI (tx (cn (N++R) a.1)++(tx (ofString ":")++tx a.2.1)) (tx (lV a.2.2)):=by
   unfold cw f5;split
   . simp only [List.flatMap_cons,List.flatMap_nil,List.map_cons,List.map_nil,nE,fQ hr.1,fQ hk.1,v1,v2,tE,gk.2.2.1,gk.2.2.2,List.append_assoc]
   . simp only [List.flatMap_cons,List.flatMap_nil,List.map_cons,List.map_nil,nE,fQ hr.1,fQ hk.1,v1,v2,tE,gk.2.2.1,gk.2.2.2,List.append_assoc]
 rw [ho,ut hN0 hDl nd λu hu=>(hDs u hu).1,show ((t:Int)+1)=((t+1:Nat):Int) from rfl,show ((t:Int)+2)=((t+2:Nat):Int) from rfl,v3];simp only [cu,xz,yZ,List.flatMap_cons,List.flatMap_nil,oG,List.append_nil,List.append_assoc,List.map_append,List.flatMap_append,e2,<-e1];rw [gk.1.1,gk.1.2,tE,sp N c,pi hcN];simp only [List.append_assoc]
theorem qK {Sc:List Int}:∀ (us N D:List Int),(aS Sc us (N,D)).2=(us.filter λu=>!decide (u∈Sc)).foldl step_dedup D:=by
 intro us;induction us with
 | nil=>intro N D;rfl
 | cons u us ih =>
   intro N D;rw [eQ];unfold bB;by_cases hs:u∈Sc
   . rw [if_pos (.inr hs),List.filter_cons_of_neg (by simp [hs])]
     exact ih N D
   . rw [List.filter_cons_of_pos (by simp [hs]),List.foldl_cons]
     by_cases hd:u∈D
     . rw [if_pos (.inl hd),kR hd];exact ih N D
     . rw [if_neg (λh=>h.elim hd hs),ja hd];exact ih _ (D++[u])
theorem jg {cs:List Int} {d:Int} {ar:List Nat} {u:Int}:u∈cO cs d ar ↔ u∈au d/\∀ i∈ar,u∉au (cs.getD i 0):=by
 unfold cO;rw [List.mem_filter,(sortI_perm _).mem_iff,gC];refine and_congr_right λ_=>?_;rw [List.isEmpty_iff,List.filter_eq_nil_iff];refine forall_congr' λi=>forall_congr' λ_=>?_;rw [Bool.not_eq_true,List.any_eq_false];exact ⟨λh hu=>h u hu (by simp),λh x hx e=>h (by rw [beq_iff_eq] at e;exact e ▸ hx)⟩
theorem pe (cs:List Int) (d:Int) (ar:List Nat):(cO cs d ar).Nodup:=((sortI_perm _).nodup_iff.mpr (eS _)).filter _
theorem vT {cs Sc N:List Int} {c:Int} {ar:List Nat} (h:∀ u,u∈Sc ↔ ∃ i∈ar,u∈au (cs.getD i 0)):(aS Sc (sortI (au c)) (N,[])).2=cO cs c ar:=by
 rw [qK];have hr:(((sortI (au c)).filter λu=>!decide (u∈Sc)).foldl step_dedup []).Pairwise (·<=·):=by
   have:=lc (key:=id) ((sortI (au c)).filter λu=>!decide (u∈Sc)) [] .nil (λx hx=>nM hx) (((sortI_rises (au c)).filter _).imp λ{a b} hab _ _=>hab)
   rwa [List.map_id] at this
 have hn:(((sortI (au c)).filter λu=>!decide (u∈Sc)).foldl step_dedup []).Nodup:=eS _;have hp:(((sortI (au c)).filter λu=>!decide (u∈Sc)).foldl step_dedup []).Perm (cO cs c ar):=by
   refine (List.perm_ext_iff_of_nodup hn (pe ..)).mpr λu=>?_;have e1:=gC ((sortI (au c)).filter λu=>!decide (u∈Sc)) u;rw [jg];refine e1.trans ?_;rw [List.mem_filter,(sortI_perm _).mem_iff];refine and_congr_right λ_=>?_;rw [Bool.not_eq_true',decide_eq_false_iff_not,h u];exact ⟨λhh i hi hu=>hh ⟨i,hi,hu⟩,λhh hx33_=>ap hx33_ λi hi hu=>hh i hi hu⟩
 have e2:cO cs c ar=sortI (cO cs c ar):=eq_sortI (.refl _) ((sortI_rises _).filter _);rw [e2];exact eq_sortI hp hr
theorem zu {w:List Int} {i j:Nat} (hj:j<=w.length) (h:∀ k,i<=k->k < j->w.getD i 0<=w.getD k 0):ku w i j=true:=by
 unfold ku;rw [List.all_eq_true];intro x hx;refine aH (List.mem_take_iff_getElem.mp hx) λk y0_=>?_;refine aH y0_ λhk y1_=>?_;obtain rfl:=y1_;rw [List.length_drop] at hk;have hk2:=Nat.add_lt_of_lt_sub' (Nat.lt_of_lt_of_le hk (Nat.min_le_left ..));have:=h (i+k) (Nat.le_add_right i k) hk2;rw [List.getD_eq_getElem?_getD (l:=w) (i:=i+k),List.getElem?_eq_getElem (Nat.lt_of_lt_of_le hk2 hj)] at this;refine decide_eq_true ?_;rw [List.getElem_drop];exact this
theorem g9 {w:List Int} {i j:Nat}:i∈bc w j ↔ i < j/\ku w i (j+1)=true:=by
 unfold bc;rw [List.mem_filter,List.mem_range'_1];exact ⟨λh=>⟨Nat.lt_of_lt_of_eq h.1.2 (Nat.zero_add j),h.2⟩,λh=>⟨⟨Nat.zero_le _,Nat.lt_of_lt_of_eq h.1 (Nat.zero_add j).symm⟩,h.2⟩⟩
theorem nD {w:List Int} {k i j:Nat} (hj:j < w.length) (h1:k∈bc w i) (h2:i∈bc w j):k∈bc w j:=by
 rw [g9] at h1 h2 ⊢;refine ⟨Nat.lt_trans h1.1 h2.1,zu hj λm hm hmj=>?_⟩;have hki:=oj h1.2 (Nat.le_of_lt h1.1) (Nat.lt_succ_self i) (Bz h2 hj);by_cases hlt:m<=i
 . exact oj h1.2 hm (J4 hlt) (Bz h2 hj)
 . exact Int.le_trans hki (oj h2.2 (Nat.le_of_lt (Nat.not_le.mp hlt)) hmj hj)
theorem nI {cs:List Int} {j:Nat} (hj:j < (cs++[-1]).length) {u:Int}:(∃ i∈bc (cs++[-1]) j,u∈cO cs (cs.getD i 0) (bc (cs++[-1]) i)) ↔ ∃ i∈bc (cs++[-1]) j,u∈au (cs.getD i 0):=by
 constructor
 . intro h;refine ap h λi hi hu=>?_;exact ⟨i,hi,(jg.mp hu).1⟩
 . intro h;refine ap h λi hi hu=>?_;have key:∀ n i,i < n->i∈bc (cs++[-1]) j->u∈au (cs.getD i 0)->∃ i∈bc (cs++[-1]) j,u∈cO cs (cs.getD i 0) (bc (cs++[-1]) i):=by
     intro n;induction n with
     | zero=>intro i h;exact absurd h (Nat.not_lt_zero i)
     | succ n ih =>
       intro i hn hi hu;by_cases hk:∃ k∈bc (cs++[-1]) i,u∈au (cs.getD k 0)
       . refine ap hk λk hk hku=>?_;exact ih k (Nat.lt_of_lt_of_le (g9.mp hk).1 (Nat.le_of_lt_succ hn)) (nD hj hk hi) hku
       . exact ⟨i,hi,jg.mpr ⟨hu,λk h1 h2=>hk ⟨k,h1,h2⟩⟩⟩
   exact key (i+1) i (Nat.lt_succ_self i) hi hu
noncomputable abbrev mz (cs:List Int) (i:Nat):Int:=(cs++[-1]).getD i 0
noncomputable abbrev xA (cs:List Int) (i:Nat):List Int:=cO cs (cs.getD i 0) (bc (cs++[-1]) i)
theorem oI {cs:List Int} {i:Nat} (h:i < cs.length):mz cs i=cs.getD i 0:=by
 unfold mz;rw [List.getD_eq_getElem?_getD,List.getD_eq_getElem?_getD,List.getElem?_append_left h]
theorem yx (cs:List Int):mz cs cs.length=-1:=by
 unfold mz;rw [List.getD_eq_getElem?_getD,List.getElem?_append_right (Nat.le_refl _),Nat.sub_self];rfl
theorem fy {cs:List Int} {i j:Nat} (h:i < j) (hj:j<=cs.length):cs.getD i 0∈cs.take j:=by
 rw [List.mem_take_iff_getElem];have hi:i < cs.length:=yU h hj;exact ⟨i,Nat.lt_min.mpr ⟨h,hi⟩,by rw [List.getD_eq_getElem?_getD,List.getElem?_eq_getElem hi];rfl⟩
structure u8 (cs:List Int) (j:Nat) (st:gL) (page:Str):Prop where
 n:st.N=eZ (cs.take j)
 s:st.S=iS (mz cs) (xA cs) (df (cs++[-1]) j)
 t:tT st=tx page
theorem xi (cs:List Int):(eZ cs).length<=3*cs.length:=by
 refine Nat.le_trans (fj _) ?_;induction cs with
 | nil=>exact Nat.le_refl _
 | cons c cs ih=>rw [List.flatMap_cons,List.length_append,List.length_cons,jo];lia
theorem mJ {cs R:List Int} {j:Nat} (hj:j<=cs.length) {page:Str} {t:List Nat} (ht:t=tx page) :
   t++((df (cs++[-1]) j).filter λi=>decide (mz cs j < mz cs i)).flatMap (λi=>dM (eZ (cs.take j)) (mz cs i))=tx (co (cs++[-1]) (eZ (cs.take j)++R) j (List.range j).reverse page):=by
 rw [tS,oi,ht];refine congrArg (tx page++·) ?_
 rw [List.flatMap_def,List.flatMap_def];refine congrArg List.flatten ?_;refine List.map_congr_left λi hi=>?_;have hi:=(lF (List.mem_filter.mp hi).1).1;have hm:mz cs i∈eZ (cs.take j):=by
   rw [oI (yU hi hj)];exact eO.mpr ⟨_,fy hi hj,by simp [au]⟩
 show dM _ (mz cs i)=dM _ (mz cs i);rw [i7,i7,pi hm]
theorem uz {cs R:List Int} {shift:Int} {j:Nat} {st:gL} {page:Str} (hv:∀ d∈cs,cK d) (hl:cs.length<=14) (hj:j < cs.length) (hR:eZ cs=eZ (cs.take (j+1))++R) (I:u8 cs j st page) :
   u8 cs (j+1) (gf (g8 (cs.getD j 0) st.S.length st) (cs.getD j 0) (di shift j)) (jy cs (eZ cs) shift j page):=by
 obtain ⟨N,S,pg,data⟩:=st;obtain ⟨hn,hs,ht⟩:=I;dsimp only at hn hs;subst hn;subst hs;have hjw:j < (cs++[-1]).length:=by rw [List.length_append];exact Nat.lt_succ_of_lt hj
 have hwj:=oI hj;have hcv:cK (cs.getD j 0):=hv _ (List.mem_of_mem_take (fy (Nat.lt_succ_self j) hj));have hpos:∀ i∈df (cs++[-1]) j,-1 < mz cs i:=λi hi=>by
   have h1:=(lF hi).1;rw [oI (J2 h1 hj)];have:=(hv _ (List.mem_of_mem_take (fy (Nat.lt_succ_self i) (J2 h1 hj)))).1;exact AL this
 refine bb (yk (cs.getD j 0) (mz cs) (xA cs) (eZ (cs.take j)) (by have:=hcv.1;exact AL this) (df (cs++[-1]) j) pg data (pJ (Nat.le_of_lt hjw)) hpos) λpage' data' e1 e2=>?_
 rw [<-hwj] at e1 e2;rw [List.length_map,<-hwj,e1];have ha:(df (cs++[-1]) j).filter (λi=>!decide (mz cs j < mz cs i))=(bc (cs++[-1]) j).reverse:=iG hjw;rw [ha] at e2 ⊢;have hsc:∀ u,u∈sc (iS (mz cs) (xA cs) (bc (cs++[-1]) j).reverse) ↔ ∃ i∈bc (cs++[-1]) j,u∈au (cs.getD i 0):=λu=>by
   rw [<-nI hjw];unfold sc iS;rw [List.flatMap_map,List.mem_flatMap];exact ⟨λhx34_=>ap hx34_ λi h1 h2=>⟨i,List.mem_reverse.mp h1,h2⟩,λhx35_=>ap hx35_ λi h1 h2=>⟨i,List.mem_reverse.mpr h1,h2⟩⟩
 have hscN:∀ u∈sc (iS (mz cs) (xA cs) (bc (cs++[-1]) j).reverse),u∈eZ (cs.take j):=λu hu=>by
   refine ap ((hsc u).mp hu) λi hi hu=>?_;exact eO.mpr ⟨_,fy (g9.mp hi).1 (Nat.le_of_lt hj),hu⟩
 have htk:cs.take (j+1)=cs.take j++[cs.getD j 0]:=by
   rw [List.take_add_one,List.getD_eq_getElem?_getD,List.getElem?_eq_getElem hj];rfl
 have hN1:(aS (sc (iS (mz cs) (xA cs) (bc (cs++[-1]) j).reverse)) (sortI (au (cs.getD j 0))) (eZ (cs.take j),[])).1=eZ (cs.take (j+1)):=by
   rw [qI _ _ _ hscN (λu hu=>absurd hu (by simp)),htk,kF]
 have hD1:(aS (sc (iS (mz cs) (xA cs) (bc (cs++[-1]) j).reverse)) (sortI (au (cs.getD j 0))) (eZ (cs.take j),[])).2=xA cs j:=vT hsc;rw [hwj];unfold gf;dsimp only;rw [hN1,hD1];refine ⟨rfl,?_,?_⟩
 . dsimp only;rw [hW hjw];have ha2:(df (cs++[-1]) j).filter (λi=>!decide ((cs++[-1]).getD j 0 < (cs++[-1]).getD i 0))=(bc (cs++[-1]) j).reverse:=iG hjw;rw [ha2];show _=(mz cs j,xA cs j)::_;rw [hwj]
 . refine aH (o8 (sortI (au (cs.getD j 0))) (eZ (cs.take j))) λR0 hR0=>?_;have hN2:eZ (cs.take (j+1))=eZ (cs.take j)++R0:=by rw [htk,kF,hR0]
   have hc:=mJ (cs:=cs) (R:=R0++R) (Nat.le_of_lt hj) ht;rw [<-List.append_assoc,<-hN2,<-hR] at hc;unfold jy;rw [if_pos hj];have hlen:(eZ (cs.take (j+1))++R).length<=60:=by rw [<-hR];have:=xi cs;exact xg this hl rfl
   have hmem:∀ u∈au (cs.getD j 0),u∈eZ (cs.take (j+1))/\cK u:=λu hu=>⟨eO.mpr ⟨_,fy (Nat.lt_succ_self j) hj,hu⟩,hcv.used u hu⟩;have:=yg (cs:=cs) (shift:=shift) (j:=j) (co (cs++[-1]) (eZ cs) j (List.range j).reverse page) hlen hmem rfl (mP ..) (pe ..) (λu hu=>hmem u (mQ u hu)) rfl;rw [<-hR] at this;rw [this,<-hc,<-e2];unfold tT;dsimp only;simp only [List.map_cons,List.map_nil,List.flatMap_append,List.flatMap_cons,List.flatMap_nil,List.append_nil,List.append_assoc]
theorem wO {cs:List Int} {shift:Int} (hv:∀ d∈cs,cK d) (hl:cs.length<=14):∀ (k j:Nat) (st:gL) (page:Str),j+k=cs.length->u8 cs j st page ->
   ∃ st' page',io shift j (cs.drop j) st=st'/\xB cs (eZ cs) shift (k+1) j page=jy cs (eZ cs) shift cs.length page'/\u8 cs cs.length st' page':=by
 intro k;induction k with
 | zero =>
   intro j st page hj I;rw [Nat.add_zero] at hj;subst hj;exact ⟨st,page,by rw [List.drop_length];rfl,rfl,I⟩
 | succ k ih =>
   intro j st page hj I;have hlt:j < cs.length:=zD hj;have hR:∃ R,eZ cs=eZ (cs.take (j+1))++R:=by
     refine aH (o8 ((cs.drop (j+1)).flatMap λd=>sortI (au d)) (eZ (cs.take (j+1)))) λR e=>?_;refine ⟨R,?_⟩;rw [<-e];conv=>lhs;rw [<-List.take_append_drop (j+1) cs]
     unfold eZ cf;rw [List.flatMap_append,List.foldl_append]
   refine aH hR λR hR=>?_;refine bl (ih (j+1) _ _ (Ax hj) (uz (shift:=shift) hv hl hlt hR I)) λst' page' h1 h2 h3=>?_;refine ⟨st',page',?_,h2,h3⟩;rw [List.drop_eq_getElem_cons hlt,io,<-h1,List.getD_eq_getElem?_getD,List.getElem?_eq_getElem hlt];rfl
theorem w3 {cs:List Int} (shift:Int) (hv:∀ d∈cs,cK d) (hl:cs.length<=14):kA cs shift=qQ cs shift:=by
 by_cases hc:cs=[]
 . clear hv hl;subst hc;rfl
 have I0:u8 cs 0 uJ (ofString ""):=⟨rfl,rfl,by decide +kernel⟩
 refine bl (wO (shift:=shift) hv hl cs.length 0 uJ _ (Nat.zero_add _) I0) λst' page' h1 h2 h3=>?_;refine sm ?_;unfold kA qQ zS;rw [wu hv,h2,show io shift 0 cs uJ=st' from h1];obtain ⟨N,S,pg,data⟩:=st';obtain ⟨hn,hs,ht⟩:=h3;dsimp only at hn hs;subst hn;clear h1;subst hs;rw [List.length_map];refine bl (tQ (mz cs) (xA cs) (eZ (cs.take cs.length)) (df (cs++[-1]) cs.length) pg data) λp2 d2 e1 e2 e3=>?_;rw [e1];dsimp only;have hne:df (cs++[-1]) cs.length≠[]:=by
   obtain ⟨n,hn⟩:∃ n,cs.length=n+1:=Ca (List.length_pos_iff.mpr hc);rw [hn,hW (by rw [List.length_append,hn];exact Nat.lt_succ_of_lt (Nat.lt_succ_self n))]
   exact List.cons_ne_nil _ _
 have hd:=e2 hne;clear e1 e2;subst hd;have e4:tT ⟨eZ (cs.take cs.length),[],p2,[]⟩=tx (Txt.join (ofString "") p2):=by
   unfold tT;rw [oG];simp only [List.map_nil,List.append_nil]
 rw [<-e4,e3];unfold jy;rw [if_neg (Nat.lt_irrefl _)];have hcl:=mJ (cs:=cs) (R:=[]) (Nat.le_refl _) ht;rw [List.append_nil] at hcl;rw [show eZ cs=eZ (cs.take cs.length) by rw [List.take_length],<-hcl]
 congr 2;refine (List.filter_eq_self.mpr λi hi=>?_).symm;have h1:=(lF hi).1;rw [yx,oI h1];have:=(hv _ (List.mem_of_mem_take (fy (Nat.lt_succ_self i) h1))).1;exact decide_eq_true (AL this)
theorem ve (x y:Int):Builtin.bitAnd x (2*y)=2*Builtin.bitAnd (x / 2) y:=by
 rw [kbt_halves,if_neg (by lia),show 2*y / 2=y by lia];lia
theorem xr (x y:Int):Builtin.bitAnd x (2*y+1)=2*Builtin.bitAnd (x / 2) y+x % 2:=by
 rw [kbt_halves,show (2*y+1) / 2=y by lia]
 split<;>lia
noncomputable def bp (x:Int) (k:Nat):Int:=x / 2 ^ k % 2
theorem j5 (x:Int) (k:Nat):bp x k=0\/bp x k=1:=by unfold bp;exact Bt
theorem sK (x:Int) (k:Nat) (b:Int) (h:(2:Int) ^ k=b):Builtin.bitAnd x b=bp x k*b:=by
 rw [<-h,kbt_bit];rfl
theorem sJ (x:Int):Builtin.bitAnd x 4095=x % 4096:=kbt_mask x 12
theorem mI (y:Int):∀ (k:Nat) (x:Int),Builtin.bitAnd x (2 ^ k*y)=2 ^ k*Builtin.bitAnd (x / 2 ^ k) y:=by
 intro k;induction k with
 | zero=>intro x;rw [Int.pow_zero,Int.one_mul,Int.one_mul,Int.ediv_one]
 | succ k ih =>
   intro x;rw [Int.pow_succ,Int.mul_comm (2 ^ k) 2,Int.mul_assoc,ve,ih,Int.ediv_ediv_of_nonneg (by decide),Int.mul_assoc]
theorem kK (x:Int):Builtin.bitAnd x 61440=4096*(x / 4096 % 16) :=
 (mI 15 12 x).trans (congrArg (4096*·) (kbt_mask (x / 4096) 4))
theorem nA {x:Int} {i j:Nat} {a b:Int} (ha:(2:Int) ^ i=a) (hb:(2:Int) ^ j=b) (h:Builtin.bitAnd x (a+b)=bp x i*a+bp x j*b) (hab:a < b):(Builtin.bitAnd x (a+b)==a+b)=(bp x i==1 && bp x j==1):=by
 have h0:(0:Int) < a:=by rw [<-ha];exact Int.pow_pos (by decide)
 rw [h];refine Or.elim (j5 x i) (λe1=>?_) λe1=>?_<;>refine Or.elim (j5 x j) (λe2=>?_) λe2=>?_<;>rw [e1,e2,Bool.eq_iff_iff]<;>simp<;>lia
theorem nz (x:Int) (i j:Nat):Builtin.bitAnd x (2 ^ i*(2*2 ^ j+1))=bp x i*2 ^ i+bp x (i+1+j)*(2 ^ i*(2*2 ^ j)):=by
 have e:bp (x / 2 ^ i / 2) j=bp x (i+1+j):=by
   unfold bp;have p:(0:Int)<=2 ^ i:=Int.le_of_lt (Int.pow_pos (by decide))
   have p2:(0:Int)<=2 ^ i*2:=Int.mul_nonneg p (by decide)
   rw [Int.ediv_ediv_of_nonneg p,Int.ediv_ediv_of_nonneg p2,Int.pow_add,Int.pow_succ]
 rw [mI,xr,sK _ j _ rfl,e,show x / 2 ^ i % 2=bp x i from rfl,Int.mul_add,Int.add_comm,Int.mul_comm (2 ^ i) (bp x i)];congr 1;rw [Int.mul_left_comm,Int.mul_left_comm (bp x _),Int.mul_left_comm (bp x _),Int.mul_left_comm]
theorem vd (x:Int):Builtin.bitAnd x 2112=bp x 6*64+bp x 11*2048:=nz x 6 4
theorem vc (x:Int):Builtin.bitAnd x 1032=bp x 3*8+bp x 10*1024:=nz x 3 6
theorem xq (x:Int):Builtin.bitAnd x 513=bp x 0*1+bp x 9*512:=nz x 0 8
theorem dL {x:Int} (k:Nat) {b:Int} (h:(2:Int) ^ k=b):(Builtin.bitAnd x b==b)=(bp x k==1):=by
 have h0:(0:Int) < b:=by rw [<-h];exact Int.pow_pos (by decide)
 rw [sK x k b h];refine Or.elim (j5 x k) (λe=>?_) λe=>?_<;>rw [e,Bool.eq_iff_iff]<;>simp<;>lia
theorem uy (t:Int->Bool) (d:Str):dm [] t d=d:=rfl
theorem rS (b:Int) (z:Str) (l:List (Int × Str)) (t:Int->Bool) (d:Str):dm ((b,z)::l) t d=if t b then z else dm l t d:=by
 unfold dm;rw [List.find?_cons];cases t b<;>rfl
noncomputable def vM (s:List Nat) (x2 x1 x0 a:Int):List Nat:=[if x2==1 then 114 else 45,if x1==1 then 119 else 45,if x0==1 && a==1 then s.getD 2 0 else if a==1 then s.getD 1 0 else if x0==1 then s.getD 3 0 else 45]
noncomputable def fM (x a:Int):Int:=x / 2*4+a+x % 2*(3 - 2*a)
theorem nN (s:List Nat) (h0:s.getD 0 0=45) {x2 x1 x0 a:Int} (h2:x2=0\/x2=1) (h1:x1=0\/x1=1) (h00:x0=0\/x0=1) (ha:a=0\/a=1):vM s x2 x1 x0 a=aW s (fM (4*x2+2*x1+x0) a):=by
 unfold vM aW;rcases h2 with rfl | rfl<;>rcases h1 with rfl | rfl<;>rcases h00 with rfl | rfl<;>rcases ha with rfl | rfl<;>simp [fM]<;>first | rfl | exact h0.symm
theorem uj:∀ k:Nat,k < 16->tx (dm (cx.getD 0 []) (λb=>4096*(k:Int)==b) (ofString "?"))=[cS (jj k)]:=by decide +kernel
theorem dP:(tx (ofString "r")=[114]/\tx (ofString "w")=[119]/\tx (ofString "-")=[45]/\tx (ofString "x")=[120])/\(tx (ofString "s")=[115]/\tx (ofString "S")=[83]/\tx (ofString "t")=[116]/\tx (ofString "T")=[84]):=by decide +kernel
theorem zw (m:Int):tx (rV m)=cS (jj (m / 4096 % 16))::(vM [45,83,115,120] (bp m 8) (bp m 7) (bp m 6) (bp m 11)++vM [45,83,115,120] (bp m 5) (bp m 4) (bp m 3) (bp m 10)++vM [45,84,116,120] (bp m 2) (bp m 1) (bp m 0) (bp m 9)):=by
 unfold rV;rw [oG];have hk:tx (dm (cx.getD 0 []) (ev m 0) (gg 0))=[cS (jj (m / 4096 % 16))]:=by
   refine ap (dj (x:=m / 4096 % 16) (b:=16) (zH rfl) (zI rfl)) λk hk e=>?_;have:=uj k hk;rw [<-e] at this;refine Eq.trans (congrArg (λt=>tx (dm (cx.getD 0 []) t (ofString "?"))) ?_) this;funext b;show (Builtin.bitAnd m 61440==b)=_;rw [kK]
 have t1:∀ (i:Int) (b:Int),(i==0)=false->ev m i b=(Builtin.bitAnd m b==b):=λi b h=>by unfold ev;rw [h];rfl
 have d1:∀ i:Int,(i==0)=false->gg i=ofString "-":=λi h=>by unfold gg;rw [h];rfl
 have e2112:(Builtin.bitAnd m 2112==2112)=(bp m 6==1 && bp m 11==1):=nA (a:=64) (b:=2048) rfl rfl (vd m) (by decide)
 have e1032:(Builtin.bitAnd m 1032==1032)=(bp m 3==1 && bp m 10==1):=nA (a:=8) (b:=1024) rfl rfl (vc m) (by decide)
 have e513:(Builtin.bitAnd m 513==513)=(bp m 0==1 && bp m 9==1):=nA (a:=1) (b:=512) rfl rfl (xq m) (by decide)
 have ef:eT m 0 cx=dm (cx.getD 0 []) (ev m 0) (gg 0)::eT m 1 (cx.drop 1):=rfl;rw [ef,List.flatMap_cons,hk];simp only [cx,List.drop,eT,rS,uy,List.flatMap_cons,List.flatMap_nil];have s1:∀ b:Bool,tx (if b=true then ofString "r" else ofString "-")=[if b=true then 114 else 45]:=λb=>by cases b<;>first | exact dP.1.1 | exact dP.1.2.2.1
 have s2:∀ b:Bool,tx (if b=true then ofString "w" else ofString "-")=[if b=true then 119 else 45]:=λb=>by cases b<;>first | exact dP.1.2.1 | exact dP.1.2.2.1
 have s3:∀ p q r:Bool,tx (if p=true then ofString "s" else if q=true then ofString "S" else if r=true then ofString "x" else ofString "-")=[if p=true then 115 else if q=true then 83 else if r=true then 120 else 45]:=λp q r=>by
   cases p<;>cases q<;>cases r<;>first | exact dP.2.1 | exact dP.2.2.1 | exact dP.1.2.2.2 | exact dP.1.2.2.1
 have s4:∀ p q r:Bool,tx (if p=true then ofString "t" else if q=true then ofString "T" else if r=true then ofString "x" else ofString "-")=[if p=true then 116 else if q=true then 84 else if r=true then 120 else 45]:=λp q r=>by
   cases p<;>cases q<;>cases r<;>first | exact dP.2.2.2.1 | exact dP.2.2.2.2 | exact dP.1.2.2.2 | exact dP.1.2.2.1
 rw [t1 1 256 rfl,t1 (1+1) 128 rfl,t1 (1+1+1) 2112 rfl,t1 (1+1+1) 2048 rfl,t1 (1+1+1) 64 rfl,t1 (1+1+1+1) 32 rfl,t1 (1+1+1+1+1) 16 rfl,t1 (1+1+1+1+1+1) 1032 rfl,t1 (1+1+1+1+1+1) 1024 rfl,t1 (1+1+1+1+1+1) 8 rfl,t1 (1+1+1+1+1+1+1) 4 rfl,t1 (1+1+1+1+1+1+1+1) 2 rfl,t1 (1+1+1+1+1+1+1+1+1) 513 rfl,t1 (1+1+1+1+1+1+1+1+1) 512 rfl,t1 (1+1+1+1+1+1+1+1+1) 1 rfl];rw [e2112,e1032,e513,dL 8 (b:=256) rfl,dL 7 (b:=128) rfl,dL 6 (b:=64) rfl,dL 5 (b:=32) rfl,dL 4 (b:=16) rfl,dL 3 (b:=8) rfl,dL 2 (b:=4) rfl,dL 1 (b:=2) rfl,dL 0 (b:=1) rfl,dL 11 (b:=2048) rfl,dL 10 (b:=1024) rfl,dL 9 (b:=512) rfl];rw [d1 1 rfl,d1 (1+1) rfl,d1 (1+1+1) rfl,d1 (1+1+1+1) rfl,d1 (1+1+1+1+1) rfl,d1 (1+1+1+1+1+1) rfl,d1 (1+1+1+1+1+1+1) rfl,d1 (1+1+1+1+1+1+1+1) rfl,d1 (1+1+1+1+1+1+1+1+1) rfl];simp only [s1,s2,s3,s4];rfl
noncomputable def rq (r:Int):Int:=fM (jT r 2) (jP r 2)*256+fM (jT r 1) (jP r 1)*16+fM (jT r 0) (jP r 0)
theorem gD (r p:Int):0<=fM (jT r p) (jP r p)/\fM (jT r p) (jP r p) < 16:=by
 have h1:0<=jT r p/\jT r p < 8:=by unfold jT;exact Bu
 have h2:jP r p=0\/jP r p=1:=by unfold jP;exact Bt
 generalize jT r p=x at h1 ⊢;generalize jP r p=a at h2 ⊢;unfold fM;rcases h2 with rfl | rfl<;>lia
theorem dX (k r:Int):cY (k,r)=jj k*4096+rq r:=by
 have e:∀ c p:Int,nc r c p=c*16+fM (jT r p) (jP r p):=λc p=>by unfold nc fM;lia
 unfold cY rq;simp only [e];lia
theorem xW (r:Int):0<=rq r/\rq r < 4096:=by
 have h0:=gD r 0;have h1:=gD r 1;have h2:=gD r 2;unfold rq;lia
theorem sU:∀ k:Nat,k < 16->0<=jj k/\jj k < 8:=by decide +kernel
theorem xX (q:Int):q % 8=4*(q / 2 / 2 % 2)+2*(q / 2 % 2)+q % 2:=by lia
theorem kh (m a b:Int) (ha:0 < a):m % (a*b) / a=m / a % b:=by
 rw [Int.emod_def,Int.emod_def,Int.sub_eq_add_neg,<-Int.mul_neg,Int.mul_assoc,Int.add_mul_ediv_left _ _ (AJ ha),Int.ediv_ediv_of_nonneg (Int.le_of_lt ha),Int.mul_neg,Int.sub_eq_add_neg]
theorem n5 (m a b:Int) (ha:0 < a) (h8:8 ∣ b):m % (a*b) / a % 8=4*(m / (a*2*2) % 2)+2*(m / (a*2) % 2)+m / a % 2:=by
 have p:(0:Int)<=a:=Int.le_of_lt ha;rw [kh m a b ha,Int.emod_emod_of_dvd _ h8,xX,Int.ediv_ediv_of_nonneg p,Int.ediv_ediv_of_nonneg (Int.mul_nonneg p (by decide))]
theorem n0 (m a b:Int) (ha:0 < a) (h2:2 ∣ b):m % (a*b) / a % 2=m / a % 2:=by rw [kh m a b ha,Int.emod_emod_of_dvd _ h2]
theorem nO (m p:Int) (hp:p=0\/p=1\/p=2):jT (m % 4096) p=4*bp m (3*p+2).toNat+2*bp m (3*p+1).toNat+bp m (3*p).toNat/\jP (m % 4096) p=bp m (9+p).toNat:=by
 rcases hp with rfl | rfl | rfl
 . exact ⟨n5 m 1 4096 (by decide) (by decide),n0 m 512 8 (by decide) (by decide)⟩
 . exact ⟨n5 m 8 512 (by decide) (by decide),n0 m 1024 4 (by decide) (by decide)⟩
 . exact ⟨n5 m 64 64 (by decide) (by decide),n0 m 2048 2 (by decide) (by decide)⟩
theorem lN (m:Int):rV m=aP (cY (m / 4096 % 16,m % 4096)):=by
 refine sm ?_;rw [zw,dX];refine ap (dj (x:=m / 4096 % 16) (b:=16) (zH rfl) (zI rfl)) λk hk e=>?_;have hd:=sU k hk;rw [<-e] at hd;generalize jj (m / 4096 % 16)=d at hd ⊢;have h0:=gD (m % 4096) 0;have h1:=gD (m % 4096) 1;have h2:=gD (m % 4096) 2;have b:=j5 m;rw [nN _ rfl (b 8) (b 7) (b 6) (b 11),nN _ rfl (b 5) (b 4) (b 3) (b 10),nN _ rfl (b 2) (b 1) (b 0) (b 9)];have f0:=nO m 0 (.inl rfl);have f1:=nO m 1 (.inr (.inl rfl));have f2:=nO m 2 (.inr (.inr rfl));have g0:fM (4*bp m 2+2*bp m 1+bp m 0) (bp m 9)=fM (jT (m % 4096) 0) (jP (m % 4096) 0):=by rw [f0.1,f0.2];rfl
 have g1:fM (4*bp m 5+2*bp m 4+bp m 3) (bp m 10)=fM (jT (m % 4096) 1) (jP (m % 4096) 1):=by rw [f1.1,f1.2];rfl
 have g2:fM (4*bp m 8+2*bp m 7+bp m 6) (bp m 11)=fM (jT (m % 4096) 2) (jP (m % 4096) 2):=by rw [f2.1,f2.2];rfl
 rw [g0,g1,g2];show _=bq _;unfold bq rq;generalize fM (jT (m % 4096) 0) (jP (m % 4096) 0)=z0 at h0 ⊢;generalize fM (jT (m % 4096) 1) (jP (m % 4096) 1)=z1 at h1 ⊢;generalize fM (jT (m % 4096) 2) (jP (m % 4096) 2)=z2 at h2 ⊢;rw [show (d*4096+(z2*256+z1*16+z0)) / 4096=d by lia,show (d*4096+(z2*256+z1*16+z0)) / 256 % 16=z2 by lia,show (d*4096+(z2*256+z1*16+z0)) / 16 % 16=z1 by lia,show (d*4096+(z2*256+z1*16+z0)) % 16=z0 by lia,List.append_assoc]
theorem pE {m k r:Int} (hk:m / 4096 % 16=k) (hr:m % 4096=r):mD m (cY (k,r)):=by
 subst hk;subst hr;refine ap (dj (x:=m / 4096 % 16) (b:=16) (zH rfl) (zI rfl)) λk hk e=>?_;have hd:=sU k hk;rw [<-e] at hd;have hl:=xW (m % 4096);have l0:rq 0=0:=rfl;have d0:jj 0=1:=rfl;refine ⟨lN m,?_,?_,?_⟩
 . rw [sJ,lN];congr 1;rw [dX,dX,show m % 4096 / 4096 % 16=0 by lia,show m % 4096 % 4096=m % 4096 by lia,d0]
   unfold rC;lia
 . rw [kK,lN];congr 1;rw [dX,dX,show 4096*(m / 4096 % 16) / 4096 % 16=m / 4096 % 16 by lia,show 4096*(m / 4096 % 16) % 4096=0 by lia,l0]
   unfold kC;lia
 . rw [dX];unfold cK;lia
theorem xZ (k r w:Int) (hk:0<=k/\k < 16) (hr:0<=r/\r < 4096):(4096*k+r+65536*w) / 4096 % 16=k/\(4096*k+r+65536*w) % 4096=r:=by
 have e:4096*k+r+65536*w=r+4096*(k+16*w):=by lia
 rw [e,Int.add_mul_ediv_left _ _ (by decide),Int.ediv_eq_zero_of_lt hr.1 hr.2,Int.zero_add,Int.add_mul_emod_self_left,Int.emod_eq_of_lt hk.1 hk.2,Int.add_mul_emod_self_left,Int.emod_eq_of_lt hr.1 hr.2]
 exact ⟨rfl,rfl⟩
theorem pF {prev n k r:Int} (hk:prev / 4096 % 16=k) (hr:prev % 4096=r):dH prev n / 4096 % 16=jB k n/\dH prev n % 4096=jG r n:=by
 subst hk;subst hr;have e1:n.fmod 262144=n % 262144:=Int.fmod_eq_emod_of_nonneg _ (by decide)
 have ew:n % 262144 / 65536=n / 65536 % 4:=kh n 65536 4 (by decide)
 have e2:(n.fmod 262144).fdiv 65536=n / 65536 % 4:=by rw [e1,Int.fdiv_eq_ediv_of_nonneg _ (by decide),ew]
 have e3:(n / 65536 % 4).fmod 2=n / 65536 % 4 % 2:=Int.fmod_eq_emod_of_nonneg _ (by decide)
 have k1:n % 262144 / 4096 % 16=n / 4096 % 16:=by rw [show n % 262144 / 4096=n / 4096 % 64 from kh n 4096 64 (by decide),Int.emod_emod_of_dvd _ (by decide)]
 have r1:n % 262144 % 4096=n % 4096:=Int.emod_emod_of_dvd _ (by decide)
 have hw:0<=n / 65536 % 4/\n / 65536 % 4 < 4:=⟨Int.emod_nonneg _ (by decide),Int.emod_lt_of_pos _ (by decide)⟩
 have b16:∀ x:Int,0<=x % 16/\x % 16 < 16:=λx=>⟨Int.emod_nonneg _ (by decide),Int.emod_lt_of_pos _ (by decide)⟩
 have b12:∀ x:Int,0<=x % 4096/\x % 4096 < 4096:=λx=>⟨Int.emod_nonneg _ (by decide),Int.emod_lt_of_pos _ (by decide)⟩
 unfold dH jB jG;rw [kK,sJ,e2,e3,e1];generalize n / 65536 % 4=w at hw ⊢;refine bh (xZ ((if decide (1 < w)=true then prev else n % 262144) / 4096 % 16) ((if (w % 2==1)=true then prev else n % 262144) % 4096) w (b16 _) (b12 _)) λg1 g2=>?_
 rw [g1,g2];have key:∀ i:Nat,i < 4->decide (1 < (i:Int))=!decide ((i:Int) / 2=0)/\(((i:Int) % 2==1)=!decide ((i:Int) % 2=0)):=by decide
 refine ap (dj (x:=w) (b:=4) hw.1 hw.2) λi hi z0_=>?_;clear hw g1 g2;obtain rfl:=z0_;rw [(key i hi).1,(key i hi).2];constructor
 . by_cases h:(i:Int) / 2=0
   . rw [if_pos h,decide_eq_true h];exact k1
   . rw [if_neg h,decide_eq_false h];rfl
 . by_cases h:(i:Int) % 2=0
   . rw [if_pos h,decide_eq_true h];exact r1
   . rw [if_neg h,decide_eq_false h];rfl
theorem jD:∀ (ns:List Int) (prev k r:Int),prev / 4096 % 16=k->prev % 4096=r->(bY prev ns).length=((bX k r ns).map cY).length/\∀ (j:Nat) (m d:Int),(bY prev ns)[j]?=some m->((bX k r ns).map cY)[j]?=some d->mD m d:=by
 intro ns;induction ns with
 | nil =>
   intro prev k r hk hr;refine ⟨rfl,λj m d h1 h2=>?_⟩;cases j with
   | zero=>obtain rfl:=Option.some.inj h1;obtain rfl:=Option.some.inj h2;exact pE hk hr
   | succ j=>cases h1
 | cons n ns ih =>
   intro prev k r hk hr;have hs:=pF (n:=n) hk hr;have:=ih _ _ _ hs.1 hs.2;refine ⟨?_,λj m d h1 h2=>?_⟩
   . rw [bY,bX,List.length_cons,List.map_cons,List.length_cons,this.1]
   . cases j with
     | zero=>obtain rfl:=Option.some.inj h1;obtain rfl:=Option.some.inj h2;exact pE hk hr
     | succ j=>exact this.2 j m d h1 h2
theorem mK {ns:List Int}:∀ d∈j6 ns,cK d:=by
 intro d hd;refine aH (List.mem_iff_getElem.mp hd) λj y0_=>?_;refine aH y0_ λhj e=>?_;have h:=jD ns 32768 8 0 (by decide) (by decide)
 have hj2:j < (bY 32768 ns).length:=by rw [h.1];exact hj
 exact (h.2 j _ d (List.getElem?_eq_getElem hj2) (by rw [<-e];exact List.getElem?_eq_getElem hj)).val
theorem pp {vs:List Value} {ns:List Int} (i:IntsAre vs ns):vs.length=ns.length:=by
 induction i with
 | nil=>rfl
 | cons n t _ ih=>rw [List.length_cons,List.length_cons,ih]
section
variable {n:Nat} {c:Cx} {env:Env} {le:ak} {σ:aa}
theorem oN {value upper:Expr} {p pos:Pos} {K:LV->aa->Prop}
   (h:WV n c (eval value env) le σ λx σ1=>WV n c (eval upper env) le σ1 λhi σ3=>∃ (a:Addr) (vs:List Value) (ns:List Int) (j:Nat),x=.loc a/\hi=.int (j:Nat)/\c.hb.IsList a vs.toArray/\IntsAre vs ns/\ns.length<=1000000/\∀ d,d∉σ3.map (·.1)->K (.loc d) ((d,.list ((ns.take j).map .int))::σ3))
   (ht:∀ o r,letTemporaryGo value o r=pure ():=by intro _ _;rfl):WV n c (eval (.Subscript value (.Slice none (some upper) none p) pos) env) le σ K:=λA hA tmp s S=>by
 refine wpAny_Subscript_Slice (T:="list") slot_list_getitem.lookup (wpAny_mono (h A hA tmp s S) (λvx s1 hp=>?_) λ_ _ x=>x.elim) ht;refine bb hp λx σ1 S1 h1=>?_;refine wpAny_Slice ?_;rw [evalPart_none];refine wpAny_pure ?_;refine wpAny_mono (h1 A hA _ s1 S1) (λvu s3 hp=>?_) λ_ _ x=>x.elim;refine bb hp λhi σ3 S3 y0_=>?_;refine Ct y0_ λa vs ns j y1_ y2_ hm hi2 hl hK=>?_;obtain rfl:=y1_;obtain rfl:=y2_;have rx:=S3.tm _ (.tail _ (.head _));have ru:=S3.tm _ (.head _);clear hp S1;obtain rfl:=RV.inv rx;refine aH (RV.inv ru) λtu z0_=>?_;clear ru;obtain rfl:=z0_;have S4:=S3.drop1.drop1.push { cls:=.type "slice",data:=.fields #[.none,.int (j:Nat) tu,.none] };refine ap S4.fr λm F _=>?_;refine ap hm λo ho e2=>?_;have hll:(s3.heap.push { cls:=.type "slice",data:=.fields #[.none,.int (j:Nat) tu,.none] }).IsList a vs.toArray:=⟨o,F.keep _ _ ho,e2⟩;have hlen:=pp hi2;refine wpAny_pure ⟨Heap.IsList.typeIs (s:={ s3 with heap:=s3.heap.push { cls:=.type "slice",data:=.fields #[.none,.int (j:Nat) tu,.none] } }) hll,wpAny_getItem_list_slice hll (Heap.IsSliceOf.new ..) .none (.int _ _) .none (by decide) ?_ (by rw [List.size_toArray,hlen];exact av hl)⟩
 rw [slicePick_upto'];have S5:=S4.new (o:={ cls:=.type "list",data:=.seq ((vs.toArray.toList.take j)).toArray }) (lo:=.list ((ns.take j).map .int)) ⟨_,0,Heap.get?_push_size _ rfl,by rw [List.map_take];exact (gt hi2).take j⟩
 exact pv S5 (.loc _) (hK _ λhm=>Nat.lt_irrefl _ (S4.key_lt hm))
end
theorem St.hide {c:Cx} {le:ak} {σ σ2:aa} {tmp:List bt} {s:Shared} {a0:Addr} {lo:LO} {f:Obj->Prop} (S:St c le σ tmp s) (hm:(a0,lo)∈σ) (hf:∀ P h,RO P h a0 lo->∃ o,h.get? a0=some o/\f o) (p:kG σ2 σ) (hn:a0∉σ2.map (·.1)):St c le σ2 (.o a0 f::tmp) s:=by
 have S2:=S.part p;refine bh (S.ab _ hm) λn1 n2=>?_;refine ⟨S2.fr,S2.ob,S2.nd,S2.ab,λq hq=>?_,?_,S2.bs,S2.gb,S2.os,S2.tk⟩
 . rcases List.mem_cons.mp hq with rfl | hq
   . exact ⟨hf _ _ (S.ob _ hm),hn,n2,n1⟩
   . exact S2.tm q hq
 . rw [List.filterMap_cons];simp only [bt.adr];refine List.nodup_cons.mpr ⟨λh=>?_,S.td⟩;refine ap (List.mem_filterMap.mp h) λq hq e=>?_;cases q with
   | v x u=>cases e
   | o b g=>clear hf hn n1 n2 h;obtain rfl:=Option.some.inj e;exact (S.tm _ hq).2.1 (List.mem_map.mpr ⟨_,hm,rfl⟩)
   | g i y=>cases e
theorem St.show' {c:Cx} {le:ak} {σ:aa} {tmp:List bt} {s:Shared} {a0:Addr} {lo:LO} {f:Obj->Prop} {x:LV} {v:Value} (S:St c le σ (.v x v::.o a0 f::tmp) s) (hb:∀ P h o,h.get? a0=some o->f o->RO P h a0 lo):St c le ((a0,lo)::σ) (.v x v::tmp) s:=by
 refine mN (S.tm _ (.tail _ (.head _))) λz0_ h2 h3 h4=>?_;refine ap z0_ λo e hf=>?_;have td:(tmp.filterMap bt.adr).Nodup/\a0∉tmp.filterMap bt.adr:=by
   have:=S.td;rw [List.filterMap_cons,List.filterMap_cons] at this;simp only [bt.adr] at this;exact (List.nodup_cons.mp this).symm
 refine ⟨S.fr,λp hp=>?_,?_,λp hp=>?_,λq hq=>?_,?_,S.bs,S.gb,S.os,S.tk⟩
 . rcases List.mem_cons.mp hp with rfl | hp
   . exact hb _ _ _ e hf
   . exact S.ob p hp
 . rw [List.map_cons];exact List.nodup_cons.mpr ⟨h2,S.nd⟩
 . rcases List.mem_cons.mp hp with rfl | hp
   . exact ⟨h4,h3⟩
   . exact S.ab p hp
 . rcases List.mem_cons.mp hq with rfl | hq
   . exact S.tm _ (.head _)
   . have h:=S.tm q (.tail _ (.tail _ hq));cases q with
     | v y u=>exact h
     | o b g =>
       refine ⟨h.1,λhm=>?_,h.2.2⟩;rw [List.map_cons] at hm;rcases List.mem_cons.mp hm with rfl | hm
       . exact td.2 (List.mem_filterMap.mpr ⟨_,hq,rfl⟩)
       . exact h.2.1 hm
     | g i y=>exact h
 . rw [List.filterMap_cons];exact td.1
theorem ph {n:Nat} {w:World} {a a0:Addr} {args:List LV} {σ σ2:aa} {lo lo':LO} {f:Obj->Prop} {K:LV->aa->Prop} (hm:(a0,lo)∈σ) (hf:∀ P h,RO P h a0 lo->∃ o,h.get? a0=some o/\f o) (hb:∀ P h o,h.get? a0=some o->f o->RO P h a0 lo') (p:kG σ2 σ) (hn:a0∉σ2.map (·.1))
   (h:FS n w a args σ2 λv σ'=>K v ((a0,lo')::σ')):FS n w a args σ K:=λc hc le A hA tmp s vs S r =>
 wpAny_mono (h c hc le A hA (.o a0 f::tmp) s vs (S.hide hm hf p hn) r) (λv s' hp=>by
   refine bb hp λlv σ' S' k=>?_;exact ⟨lv,_,S'.show' hb,k⟩) λ_ _ x=>x
noncomputable def nU (ns:List Int) (o:Obj):Prop:=∃ vs k,o=az vs k/\IntsAre vs ns
theorem xM {P:Params} {h:Heap} {a:Addr} {ns:List Int} (r:RO P h a (.list (ns.map .int))):∃ o,h.get? a=some o/\nU ns o:=by
 refine bb r λvs n g q=>?_;exact ⟨_,g,vs,n,rfl,dx q⟩
theorem ue {P:Params} {h:Heap} {a:Addr} {ns:List Int} {o:Obj} (g:h.get? a=some o) (f:nU ns o):RO P h a (.list (ns.map .int)):=by
 refine bb f λvs k z1_ i=>?_;clear f;obtain rfl:=z1_;exact ⟨vs,k,g,gt i⟩
noncomputable def jq (o:Obj):Prop:=∃ ps,o=tabObj ps
theorem tC {o:Obj} (h:jq o):¬ gR o:=by
 refine aH h λps z2_=>?_;clear h;obtain rfl:=z2_;rintro (⟨vs,n,e⟩ | ⟨id,v,e⟩ | ⟨f,v,e⟩)<;>cases e
theorem d9.any {pos:Pos} {q:Str} {σ:aa} (h:d9 pos q σ):∃ f:Obj->Prop,(177,LO.raw f)∈σ/\∀ o,f o->jq o:=by
 refine Or.elim h (λh=>?_) λh=>?_
 . exact ⟨_,h,λo e=>⟨_,e⟩⟩
 . refine ap h λc' h _=>?_;exact ⟨_,h,λo e=>⟨_,e⟩⟩
noncomputable def aZ (ns:List Int):List Int:=ns.take 4++[16877,196608,132553,90112]
theorem pI (ns:List Int):(aZ ns).length<=8:=by
 unfold aZ;rw [List.length_append,List.length_take];simp only [List.length_cons,List.length_nil];exact B5 rfl
noncomputable abbrev Bk:List Stmt:=bG (bu 40)
noncomputable abbrev yQ (c:Cx) (a:Addr) (cd:Addr):Env:=envOf (ofString "law") (aE (bu 40)) c.L a (.ref cd)
set_option maxHeartbeats 0 in
theorem wh {c:Cx} {a sa:Addr} {cd:Addr} {vs:List Value} {ns:List Int} {K:LF->ak->aa->Prop} (hm:c.hb.IsList sa vs.toArray) (hi:IntsAre vs ns) (hl:ns.length<=63)
   (h:∀ le' σ',(177,.raw jq)∈σ'->K (.ret (.bool true)) le' σ'):WF 16 c (execs Bk (yQ c a cd)) [(ofString "script",.loc sa)] [(177,.raw my)] K:=by
 have H0:aR [(ofString "script",LV.loc sa)] [(ofString "script",.loc sa)]:=λ_ _ h=>h;refine ae ?_;refine ax (ah ?_);refine oN ?_;refine ac rfl (aq ⟨sa,vs,ns,4,rfl,rfl,hm,hi,J1 hl rfl,λd hd=>?_⟩);refine ba (af (aq (af (aq (af (aq (af (aq (am ⟨av (by decide),λb hb=>?_⟩)))))))))
 refine tb (.tail _ (.head _)) (.head _) (by rw [List.length_map,List.length_take];simp only [List.length_cons,List.length_nil];exact B5 rfl) λna hna=>?_
 rw [show (List.map LV.int (List.take 4 ns)++[LV.int 16877,.int 196608,.int 132553,.int 90112])=(aZ ns).map .int by unfold aZ;rw [List.map_append];rfl]
 have h177:((177,LO.raw my)∈(na,LO.list ((aZ ns).map .int))::(b,.list [.int 16877,.int 196608,.int 132553,.int 90112])::(d,.list ((ns.take 4).map .int))::[(177,.raw my)]):=.tail _ (.tail _ (.tail _ (.head _)));have hna0:(na,LO.list ((aZ ns).map .int))∈(na,LO.list ((aZ ns).map .int))::(b,.list [.int 16877,.int 196608,.int 132553,.int 90112])::(d,.list ((ns.take 4).map .int))::[(177,LO.raw my)]:=.head _;generalize ((na,LO.list ((aZ ns).map .int))::(b,.list [.int 16877,.int 196608,.int 132553,.int 90112])::(d,.list ((ns.take 4).map .int))::[(177,LO.raw my)])=σ1 at h177 hna0 ⊢;have H1:=H0.put (ofString "numbers") (.loc na);generalize an (ofString "numbers") (LV.loc na) [(ofString "script",LV.loc sa)]=le1 at H1 ⊢;refine ae ?_;refine ax (ah ?_);refine aC ?_;refine be (v:=.builtin "sum") (by kernel_rfl!) (by kernel_rfl!) (cz (af (ac (H1.get rfl) (am (yC hm hi ?_)))))
 refine aq (jl (by decide) ?_)
 generalize (ns.sum).fmod 8=shift;have H2:=H1.put (ofString "shift") (.int shift);generalize an (ofString "shift") (LV.int shift) le1=le2 at H2 ⊢;have hlen:=pI ns;have hmc:=jD (aZ ns) 32768 8 0 (by decide) (by decide)
 have hcl:((bX 8 0 (aZ ns)).map cY).length<=9:=by rw [List.length_map,lx];lia
 have hml:(bY 32768 (aZ ns)).length<=9:=by rw [hmc.1];exact hcl
 refine bA λnd1=>?_;refine ae ?_;refine bE ?_;refine l8 ?_;refine aC ?_;refine bO (v:=.ref 236) (by kernel_rfl!) (λ_ _=>.val rfl) (eB (by exact rfl) (af ?_))
 refine aC ?_;refine bO (v:=.ref 229) (by kernel_rfl!) (λ_ _=>.val rfl) (eB (by exact rfl) (af ?_))
 refine ac (H2.get rfl) (am ?_);refine bW (n:=4) (lR hna0 (J1 hlen rfl) (λp hp=>?_) nd1) (by decide)
 refine af (ac (H2.get rfl) (am ?_));have hp177:p≠177:=λe=>hp (e ▸ List.mem_map.mpr ⟨_,h177,rfl⟩);have hpna:na≠p:=λe=>hp (e ▸ List.mem_map.mpr ⟨_,hna0,rfl⟩);have hn177:na≠177:=λe=>by rw [e] at hna0;cases aJ nd1 hna0 h177
 have part:kG [(p,LO.list ((bY 32768 (aZ ns)).map .int)),(177,.raw my)] ((p,LO.list ((bY 32768 (aZ ns)).map .int))::σ1):=by
   refine ⟨λq hq=>?_,by simp [hp177]⟩
   rcases dc hq with rfl | rfl
   . exact .head _
   . exact .tail _ h177
 refine bW (n:=15) (ph (a0:=na) (lo:=.list ((aZ ns).map .int)) (lo':=.list ((aZ ns).map .int)) (f:=nU (aZ ns)) (.tail _ hna0) (λ_ _ r=>xM r) (λ_ _ _ g f=>ue g f) part (by simp [hpna,hn177]) ?_) (by decide)
 refine uI (cs:=j6 (aZ ns)) (.head _) (.inl (.tail _ (.head _))) hmc.1 hmc.2 (by lia) λσ2 lam2=>?_
 refine ap lam2.any λf hf hft=>?_;refine aC ?_;refine bO (v:=.ref 255) (by kernel_rfl!) (λ_ _=>.val rfl) (eB (by exact rfl) (af ?_))
 refine aC ?_;refine bO (v:=.ref 243) (by kernel_rfl!) (λ_ _=>.val rfl) (eB (by exact rfl) (af ?_))
 refine ac (H2.get rfl) (am ?_);refine bW (n:=7) (r5 (.head _) (J1 hlen rfl) λca σ3 hca k3 hca3=>?_) (by decide)
 refine af (ac (H2.get rfl) (am ?_));have h3:(177,LO.raw f)∈σ3:=k3 _ (.tail _ hf);have hc177:ca≠177:=λe=>hca (e ▸ List.mem_map.mpr ⟨_,.tail _ hf,rfl⟩);refine bW (n:=7) (ph (a0:=177) (lo:=.raw f) (lo':=.raw jq) (f:=jq) (σ2:=[(ca,.list ((j6 (aZ ns)).map .int))]) h3 (λ_ _ r=>?_) (λ_ _ o g t=>⟨o,g,t,tC t⟩) ⟨λq hq=>?_,by simp⟩ (by simpa using Ne.symm hc177) ?_) (by decide)
 . refine du r λo g fo _=>?_;exact ⟨o,g,hft o fo⟩
 . rw [List.mem_singleton] at hq;subst hq;exact hca3
 refine wV (.head _) mK (by show ((bX 8 0 (aZ ns)).map cY).length<=14;exact J1 hcl rfl) λσ4=>?_
 rw [w3 shift mK (by show ((bX 8 0 (aZ ns)).map cY).length<=14;exact J1 hcl rfl)]
 refine rJ ?_;rw [beq_self_eq_true];exact h _ _ (.head _)
theorem rU {R:WRecords} {cl:Str->Option Addr} {h:Heap}:∀ (ns:List Int) (vs:List Value) (as:List Addr),ReadsAllW R cl h vs (ns.map .int) as->IntsAre vs ns:=by
 intro ns;induction ns with
 | nil=>intro vs as r;cases r;exact .nil
 | cons n ns ih =>
   intro vs as r;cases r with | cons r1 r2 =>
   cases r1;exact .cons n _ (ih _ _ r2)
theorem wg {R:WRecords} {cl:Str->Option Addr} {h:Heap} {args:List WData} {vals:List Value} {as:List Addr} (hs:WShape.hasAll R args [.list .int]=true) (hrd:ReadsAllW R cl h vals args as) :
   ∃ (sa:Addr) (vs:List Value) (ns:List Int),args=[.list (ns.map .int)]/\vals=[.ref sa]/\h.IsList sa vs.toArray/\IntsAre vs ns:=by
 cases args with
 | nil=>simp [WShape.hasAll] at hs
 | cons x xs =>
   rw [WShape.hasAll,Bool.and_eq_true] at hs;refine bh hs λh1 h2=>?_;cases xs with
   | cons y ys=>simp [WShape.hasAll] at h2
   | nil =>
     refine ap (hasW_list h1) λzs z0_ hz=>?_;obtain rfl:=z0_;refine aH (items_int hz) λns z1_=>?_;clear hz h1 hs;obtain rfl:=z1_;cases hrd with | cons r1 r2 =>
     cases r2;cases r1 with | list e1 e2 e3 e4 =>
     exact ⟨_,_,ns,rfl,rfl,⟨_,e1,e2,_,by rw [e3]⟩,rU ns _ _ e4⟩
theorem xO {R:WRecords} {ns:List Int} (h:(PySem.Challenge.rw_pk0129_01.pre).holds R { args:=[.list (ns.map .int)] }=true):ns.length<=63:=by
 have e:(PySem.Challenge.rw_pk0129_01.pre).value R { args:=[.list (ns.map .int)] }=some (.bool ((!decide ((63:Int) < ((ns.map WData.int).length:Int))) && true)) :=
   w_and (w_not (w_lt w_lit (w_len_list (w_arg rfl)))) w_lit
 rw [holdsW_of_value e,Bool.and_true,List.length_map] at h;by_cases hl:(63:Int) < (ns.length:Int)
 . rw [decide_eq_true hl] at h;cases h
 . lia
theorem ig {h:Heap} {b:Addr} {o:Obj} (e:h.get? b=some o) (hb:b≠177):(aQ h [177]).get? b=some o:=by
 rw [aX,if_neg (by simpa using hb)];exact e
theorem wz {h:Heap} {b:Addr} {m:Str->Option Value} (e:h.Ns b m) (hb:b≠177):(aQ h [177]).Ns b m:=by
 refine md e λo es ep e1 r=>?_;exact ⟨o,es,ep,ig e1 hb,r⟩
theorem za (P:Params):(KF P).lookup 177=none:=by rfl
theorem xy:∀ p∈oU.zip qM,p.1≠177:=by
 intro p hp;have:∀ a∈oU,a≠177:=by decide
 exact this _ (List.of_mem_zip hp).1
theorem xu {w:World} {h:Heap} {mb:Str->Option Value} (T:yW w h) (b1:h.Ns builtinsNs mb) (b2:h.NoLimit) (b3:∃ mc,h.Ns cStatics mc/\mc "sys.int_max_str_digits"=none) (b4:∀ x:Str,x≠"__name__"->mb x=bootBuiltins x):qG w (aQ h [177]):=by
 refine ⟨⟨λa o e=>ig (T.kin a o e) (λq=>?_),λp hp=>?_,?_,?_⟩,?_,?_,⟨mb,wz b1 (by decide),b4⟩⟩
 . rw [q,za] at e;cases e
 . refine Cs (T.cod p hp) λc o vs t e g r=>?_;have hc:=xy p hp;exact ⟨c,o,vs,t,e,ig g (by cases e;exact hc),r⟩
 . refine aH T.sys λo e=>?_;exact ⟨o,ig e (by decide)⟩
 . refine aH T.hdr λo y0_=>?_;refine Cz y0_ λvs file tf flags tg inF text tt g r=>?_;exact ⟨o,vs,file,tf,flags,tg,inF,text,tt,ig g (by decide),r⟩
 . refine ap b2 λmc e r=>?_;exact ⟨mc,wz e (by decide),r⟩
 . refine ap b3 λmc e r=>?_;exact ⟨mc,wz e (by decide),r⟩
set_option maxHeartbeats 0
noncomputable def qv:Program:=view pg [40]
noncomputable def jk:List Str:=[ofString "_sre",ofString "_wall",ofString "__name__",ofString "S_IMODE",ofString "S_IFMT",ofString "S_IFDIR",ofString "S_IFCHR",ofString "S_IFBLK",ofString "S_IFREG",ofString "S_IFIFO",ofString "S_IFLNK",ofString "S_IFSOCK",ofString "S_ISUID",ofString "S_ISGID",ofString "S_ISVTX",ofString "S_IRUSR",ofString "S_IWUSR",ofString "S_IXUSR",ofString "S_IRGRP",ofString "S_IWGRP",ofString "S_IXGRP",ofString "S_IROTH",ofString "S_IWOTH",ofString "S_IXOTH",ofString "_filemode_table",ofString "filemode",ofString "_twin_re_1",ofString "_namespace_map",ofString "_raise_serialization_error",ofString "_looks_like_prefix_name",ofString "C14NWriterTarget",ofString "_escape_cdata_c14n",ofString "_escape_attrib_c14n",ofString "_law_modes",ofString "_law_told",ofString "_law_codes",ofString "_law_row",ofString "_law_due"]
theorem wI {α β:Type} {o:Option α} {f g:α->Option β} {x y:Option β} (h1:o.map f=some x) (h2:o.map g=some y):o.map (λs=>(f s,g s))=some (x,y):=by
 cases o with
 | none=>cases h1
 | some s=>exact congrArg some (congr (congrArg Prod.mk (Option.some.inj h1)) (Option.some.inj h2))
noncomputable def j4 (w:World) (b:Bool):Prop:=(fencedOpening treeTable pg w 3428).map (λs₀=>(topFrom treeTable pg (w.withFollow "special-get-raises" b) 3428 s₀).map (λs=>(openSeen qv jk (importedModules pg.main.body) (λs=>xlAt qv [] s && recOk [] s) true s,hk.obs s)))=some (some (openGood qv jk,hk.val (w.withFollow "special-get-raises" b)))
theorem xQ (w:World):j4 w false:=by
 unfold j4 fencedOpening topFrom;rw [PySem.W.Fast.te14082659384304107361,PySem.W.Fast.te10274390034422433532,PySem.W.Fast.te14289696077712309145,PySem.W.Fast.te4187177175401517315,PySem.W.Fast.te1435165496053646825,PySem.W.Fast.te14364793385576792824];kernel_rfl!
theorem wl (w:World):j4 w true:=by
 unfold j4 fencedOpening topFrom;rw [PySem.W.Fast.te14082659384304107361,PySem.W.Fast.te10274390034422433532,PySem.W.Fast.te14289696077712309145,PySem.W.Fast.te4187177175401517315,PySem.W.Fast.te1435165496053646825,PySem.W.Fast.te14364793385576792824];kernel_rfl!
theorem left:LeftO pg qv jk (λs=>xlAt qv [] s && recOk [] s) hk.obs hk.val 3428 :=
 LeftO.of_split "special-get-raises" λw=>wI (xQ w) (wl w)
theorem xN:pg.theDef (ofString "law")=some (qe (bu 40),Bk,aE (bu 40)):=by kernel_rfl!
theorem wj (args ds:List WData):PySem.Challenge.rw_pk0129_01.row.toRowW.claim.post args (.bool true) ds=true:=by
 show (WShape.has [] (.bool true) .bool && WTm.holds [] (.eq .res (.lit (.bool true))) { args:=args,res:=some (.bool true),after:=ds })=true;refine Bool.and_eq_true_iff.mpr ⟨?_,?_⟩
 . show WShape.has [] (.bool true) .bool=true;kernel_rfl!
 . show WTm.holds [] (.eq .res (.lit (.bool true))) { args:=args,res:=some (.bool true),after:=ds }=true;exact holdsW_of_value (w_eq_bool (k:=true) (l:=true) (by kernel_rfl!) w_lit)
theorem yf {h h':Heap} {ps:Array Value} (hd:CodeHd h 179 177) (e:h.get? 177=some (tabObj #[])) (k:∀ b o,b≠177->h.get? b=some o->h'.get? b=some o) (e':h'.get? 177=some (tabObj ps)):OldK h h':=by
 refine ⟨λb o g=>?_,λb o g=>?_⟩
 . by_cases hb:b=177
   . subst hb;rw [e] at g;cases g;refine aH hd λoc y0_=>?_;refine CA y0_ λvs file tf flags tg inF text tt g c1 c2 c3 r=>?_;refine .inr (.inl ⟨⟨179,oc,vs,g,c1,c2,c3⟩,rfl,#[],ps,rfl,?_⟩);rw [e',Array.empty_append]
   . exact .inl (k b o hb g)
 . by_cases hb:b=177
   . clear g;subst hb;exact ⟨_,e'⟩
   . exact ⟨o,k b o hb g⟩
set_option maxHeartbeats 0 in
theorem wi {d:DefRec} {kwd:List (Str × Expr)} (hn:d.name=ofString "law") (hp:pg.theDef (ofString "law")=some (d.params,d.body,d.scope)) (hkw:kwWritten? d.params.kwonlyargs d.params.kw_defaults=some kwd) :
   WalkO qv jk (XL qv []) (Hook.says hk) PySem.Challenge.rw_pk0129_01.row.toRowW d kwd λf vs=>PySem.call f vs:=by
 intro w s₀ s₁ mg mb G Y a o pm cd doc dV kV ho hd hcd hD hmg hg args vals as hpre hlay hrd hwl hlo;refine bh Y λY e177=>?_;have hpr:=Bool.and_eq_true_iff.mp hpre;refine qT (wg hpr.1 hrd) λsa vs ns z0_ z1_ hm hi=>?_;clear hpre hlay;obtain rfl:=z0_;clear hrd hwl;obtain rfl:=z1_;have hl:=xO hpr.2;rw [xN] at hp;have hp:=Option.some.inj hp;refine bh (Prod.mk.inj hp) λh1 h2=>?_;refine bh (Prod.mk.inj h2) λh2 h3=>?_;rw [<-h1,<-h2,<-h3,hn] at hd;rw [<-h1] at hD hkw;rw [hn] at hcd;have hk0:kwWritten? (qe (bu 40)).kwonlyargs (qe (bu 40)).kw_defaults=some []:=by kernel_rfl!
 have hd0:(qe (bu 40)).defaults=[]:=by kernel_rfl!
 have ek:kwd=[]:=Option.some.inj (hkw.symm.trans hk0);clear hkw;subst ek;have edV:dV=.none:=hD.pos.elim (·.2) λh=>absurd hd0 h.1
 have ekV:kV=.none:=hD.kw.elim (·.2) λh=>absurd rfl h.1
 subst edV;clear hD;subst ekV;refine Bb hcd λcc oc cvs ct z2_ hoc hdc hq=>?_;clear hcd;obtain rfl:=z2_;have hcd:s₁.heap.CodeRec (.ref cc) (ofString "law"):=⟨cc,oc,cvs,ct,rfl,hoc,hdc,hq⟩;have hsa:sa≠177:=λe=>by
   refine du hm λob e1 e2 _=>?_;rw [e,e177] at e1;obtain rfl:=Option.some.inj e1;cases e2
 have T:=G.T;have B:=xu Y T.b T.nolimit T.nodigits T.builtins;refine wpAny_call ?_;refine codeAny_call_function (by decide) ho hd (by exact rfl) (by exact rfl) rfl hcd ?_
 refine (BindsTo.of_eq (binds:=[(ofString "script",.ref sa)]) (by kernel_rfl!):BindsTo s₁ _ _ _) _ _ _ _ ?_
 have hcell:((aE (bu 40)).names.all λx=>decide (x.2≠.cell))=true:=by decide +kernel
 refine wpAny_newFunctionEnv (λx hx=>of_decide_eq_true (List.all_eq_true.mp hcell x hx)) (λx hx=>?_) (λh' hns hsb=>⟨T.nolimit.fresh _ hsb,?_⟩) (by exact rfl)
 . rw [List.mem_singleton] at hx;subst hx;rfl
 show codeAny _ _ (.func Bk (yQ ⟨w,aQ s₁.heap [177],s₁.os,s₁.heap.objs.size⟩ a cc)) _ _;refine codeAny_func ?_;have grow:∀ b o,s₁.heap.get? b=some o->h'.get? b=some o:=λb o e=>hsb.extBut b o (Nat.ne_of_lt (Heap.lt_size e)) (Heap.get?_push_of_some _ e);have S1:St ⟨w,aQ s₁.heap [177],s₁.os,s₁.heap.objs.size⟩ [(ofString "script",.loc sa)] [(177,.raw my)] [] { s₁ with heap:=h',toks:=s₁.toks+1 }:=by
   refine ⟨⟨_,⟨hns,λb o e=>?_,Nat.le_of_eq (dW _ _)⟩,λx lv hx=>?_⟩,λp hp=>?_,by simp,λp hp=>?_,λp hp=>absurd hp (by simp),List.Pairwise.nil,B,?_,rfl,Nat.succ_pos _⟩
   . have e:(aQ s₁.heap [177]).get? b=some o:=e;rw [aX] at e;split at e
     . cases e
     . exact grow b o e
   . have h2:=bR hx;rw [List.mem_singleton] at h2;refine bh (Prod.mk.inj h2) λy1_ y2_=>?_;obtain rfl:=y1_;obtain rfl:=y2_;exact ⟨_,rfl,.loc _⟩
   . rw [List.mem_singleton] at hp;subst hp;exact ⟨_,grow _ _ e177,rfl,tC ⟨_,rfl⟩⟩
   . rw [List.mem_singleton] at hp;subst hp;refine ⟨?_,Nat.ne_of_lt (Heap.lt_size e177)⟩;show (aQ s₁.heap [177]).get? 177=none;rw [aX,if_pos (.head _)]
   . show AllBare s₁.gens;rw [hg];exact .of_eq rfl
 have hm':(aQ s₁.heap [177]).IsList sa vs.toArray:=by
   refine ap hm λob e1 e2=>?_;exact ⟨ob,ig e1 hsa,e2⟩
 have room:br 17 callerA:=⟨rfl,by decide,by decide⟩
 refine wpAny_mono (wh (c:=⟨w,aQ s₁.heap [177],s₁.os,s₁.heap.objs.size⟩) (a:=a) (cd:=cc) (K:=λf _ σ'=>f=.ret (.bool true)/\(177,.raw jq)∈σ') hm' hi hl (λle' σ' h=>⟨rfl,h⟩) _ (room.deeper _) [] _ S1) (λf s' hh=>?_) λ_ _ x=>x.elim;refine qT hh λlf le' σ' rf S' z5_ k=>?_;obtain rfl:=z5_;refine ap rf λv z6_ rv=>?_;obtain rfl:=z6_;cases rv;refine ap S'.fr λm F _=>?_;refine du (S'.ob _ k) λob e2 z7_ _=>?_;refine aH z7_ λps z8_=>?_;clear z7_;obtain rfl:=z8_;refine ⟨.inl ⟨.bool true,.bool true,[],rfl,λ_=>rfl,.bool _,wj _ _,λ_=>⟨.nil,λ_ hx=>nM hx⟩⟩,?_,S'.os,S'.gb⟩;exact yf Y.hdr e177 (λb o hb e=>F.keep b o (ig e hb)) e2
set_option maxHeartbeats 0
noncomputable abbrev xh (d:DefRec) (kwd:List (Str × Expr)):Prop:=WalkO qv jk (XL qv []) (Hook.says hk) PySem.Challenge.rw_pk0129_01.row.toRowW d kwd λf vs=>PySem.call f vs
theorem head {d:DefRec} {kwd:List (Str × Expr)} (hdef:defOf qv (ofString "law")=some (d,kwd))
   (hp:pg.theDef (ofString "law")=some (d.params,d.body,d.scope)) (hkw:kwWritten? d.params.kwonlyargs d.params.kw_defaults=some kwd)
   (hdef':defOf qv PySem.Challenge.rw_pk0129_01.row.name=some (d,kwd))
   (call:xh d kwd) (ok:PySem.Challenge.rw_pk0129_01.wellSaid=true) (hw:RowW.promised PySem.Challenge.rw_pk0129_01.row.toRowW):PySem.Challenge.rw_pk0129_01.Holds:=by
 refine holds_law ok λk1=>?_;refine holds_open (q:=qv) (loose:=jk) (Xt:=λs=>xlAt qv [] s && recOk [] s) (XP:=XL qv []) (Yf:=Hook.obs hk) (Ya:=Hook.val hk) (YP:=Hook.says hk) (N:=3428) left (Hook.of hk) (Hook.keeps hk) (λs e=>xl_of s (Bool.and_eq_true_iff.mp e).1) XL.keeps hdef' hp hkw (λs e=>recFacts_of (Bool.and_eq_true_iff.mp e).2) (by rfl) k1 ?_ ?_ hw call
 . decide +kernel
 . exact ⟨rfl,rfl,rfl,rfl,rfl,by decide +kernel⟩
theorem wT:PySem.Challenge.rw_pk0129_01.row.wellSaid=true:=by
 unfold OpenRow.wellSaid OpenRow.partSaid looksOpen;refine look_both (look_both (look_both (look_both (look_both (look_both (look_both (look_both (look_both (look_both (look_both (look_both (look_both (look_both (look_both (look_both (look_both (look_both (look_both (look_both ?_ ?_) ?_) ?_) ?_) ?_) ?_) ?_) ?_) ?_) ?_) ?_) ?_) ?_) ?_) ?_) ?_) ?_) ?_) ?_) ?_
 all_goals decide +kernel
theorem Bq:PySem.Challenge.rw_pk0129_01.wellSaid=true:=by
 unfold OpenLaw.wellSaid;refine (look_both (look_both (look_both (look_both (look_both (look_both (look_both (look_both (look_both (look_both (look_both (look_both (look_both (look_both (look_both (look_both (look_both (look_both wT ?_) ?_) ?_) ?_) ?_) ?_) ?_) ?_) ?_) ?_) ?_) ?_) ?_) ?_) ?_) ?_) ?_) ?_)
 all_goals decide +kernel
set_option maxHeartbeats 0
theorem vE:(defOf qv (ofString "law")).isSome=true:=by kernel_rfl!
theorem tV:(defOf qv (ofString "law")).map (λx=>(x.1.params,x.1.body,x.1.scope))=pg.theDef (ofString "law"):=by kernel_rfl!
theorem y3:(defOf qv (ofString "law")).map (λx=>(kwWritten? x.1.params.kwonlyargs x.1.params.kw_defaults,x.2))=some (some [],[]):=by kernel_rfl!
theorem nX:RowW.promised PySem.Challenge.rw_pk0129_01.row.toRowW:=RowW.promised_of_found (by decide +kernel)
theorem all:PySem.Challenge.rw_pk0129_01.Holds:=by
 refine aH (Option.isSome_iff_exists.mp vE) λx hx=>?_;obtain ⟨d,kwd⟩:=x;have h1:=tV;have h2:=y3;rw [hx] at h1 h2;have h1:some (d.params,d.body,d.scope)=pg.theDef (ofString "law"):=h1;have h2:=Option.some.inj h2;refine bh (Prod.mk.inj h2) λh3 h4=>?_;have h3:kwWritten? d.params.kwonlyargs d.params.kw_defaults=some []:=h3;have h4:kwd=[]:=h4;subst h4;exact head hx h1.symm h3 hx (wi (defOf_name hx) h1.symm h3) Bq nX
end Mine
theorem PySem.Challenge.cw_pk0129_01_holds : PySem.Challenge.rw_pk0129_01.Holds :=
 Mine.all
