import PyProof.Rows.All
import PyProof.Logic
import PyProof.ToksMono
import PyProof.DictCompW
import PyProof.ZipIter
import KE.KDictOf
import KE.KEqDict
import KE.KPairComp
import KE.KxPercent
import OpenK.ZGo
import Wide.FinOn
import PySem.Challenge.RW_yf0022_01
set_option Elab.async false
set_option maxRecDepth 100000
set_option genSizeOf false
set_option genInjectivity false
set_option linter.all false
set_option tactic.hygienic false
noncomputable section
open PySem PySem.W PyProof.Rows
open PySem.W.X PySem.W.ZRun
namespace Mine
/-- the head's claim: the law's row holds if it is well said -/
structure Hd where
 on : Unit
noncomputable def Hd.Holds (h : Hd) : Prop := PySem.Challenge.rw_yf0022_01.row.wellSaid = true → PySem.Challenge.rw_yf0022_01.row.Holds
section
local macro_rules | `(tactic| o_law) => `(tactic| intro h)
local macro_rules | `(tactic| k_head) => `(tactic| z_head)
set_option maxHeartbeats 8000000 in
open_top hd for (Hd.mk ())
end
end Mine
end
noncomputable section
namespace Mine
theorem mc {α : Type} {a x : α} {l : List α} (h : a ∈ x :: l) : x = a ∨ a ∈ l := (List.mem_cons.mp h).imp_left Eq.symm
theorem nf {b : Bool} (h : (!b) = true) : b = false := by
 induction b using Bool.casesOn <;> first | rfl | exact nomatch h
noncomputable def oB {α : Type} (o : Option α) (f : α → Bool) : Bool := Option.rec false f o
theorem oB_inv {α : Type} {o : Option α} {f : α → Bool} (h : oB o f = true) : ∃ a, o = some a ∧ f a = true := by
 induction o using Option.casesOn with
 | none => exact nomatch h
 | some a => exact ⟨a, rfl, h⟩
noncomputable def oV {α β : Type} (o : Option α) (z : β) (f : α → β) : β := Option.rec z f o
theorem q0 {α : Type} {x : α} {P : Prop} (h : x ∈ ([] : List α)) : P := nomatch h
theorem q1 {α : Type} {a x : α} {l : List α} {P : α → Prop} (h : x ∈ a :: l) (y : P a) (k : x ∈ l → P x) : P x := (List.mem_cons.mp h).elim (fun e => e ▸ y) k
theorem nmx4 {α : Type} {c p q r s : α} (h : c ∉ [p, q, r, s]) : c ≠ p ∧ c ≠ q ∧ c ≠ r ∧ c ≠ s := ⟨fun e => h (e ▸ .head _), fun e => h (e ▸ .tail _ (.head _)), fun e => h (e ▸ .tail _ (.tail _ (.head _))), fun e => h (e ▸ .tail _ (.tail _ (.tail _ (.head _))))⟩
theorem mn4 {α : Type} {c p q r s : α} (h1 : c ≠ p) (h2 : c ≠ q) (h3 : c ≠ r) (h4 : c ≠ s) : c ∉ [p, q, r, s] := fun h => q1 (P := fun x => x = c → False) h (fun e => h1 e.symm) (fun h => q1 (P := fun x => x = c → False) h (fun e => h2 e.symm) (fun h => q1 (P := fun x => x = c → False) h (fun e => h3 e.symm) (fun h => q1 (P := fun x => x = c → False) h (fun e => h4 e.symm) q0))) rfl
theorem x02 {p0 p1 : Prop} {C : Prop} (h : p0 ∧ p1) (k : p0 → p1 → C) : C :=
 k h.1 h.2
theorem x03 {p0 p1 p2 : Prop} {C : Prop} (h : p0 ∧ p1 ∧ p2) (k : p0 → p1 → p2 → C) : C :=
 k h.1 h.2.1 h.2.2
theorem x04 {p0 p1 p2 p3 : Prop} {C : Prop} (h : p0 ∧ p1 ∧ p2 ∧ p3) (k : p0 → p1 → p2 → p3 → C) : C :=
 k h.1 h.2.1 h.2.2.1 h.2.2.2
theorem x05 {p0 p1 p2 p3 p4 : Prop} {C : Prop} (h : p0 ∧ p1 ∧ p2 ∧ p3 ∧ p4) (k : p0 → p1 → p2 → p3 → p4 → C) : C :=
 k h.1 h.2.1 h.2.2.1 h.2.2.2.1 h.2.2.2.2
theorem x06 {p0 p1 p2 p3 p4 p5 : Prop} {C : Prop} (h : p0 ∧ p1 ∧ p2 ∧ p3 ∧ p4 ∧ p5) (k : p0 → p1 → p2 → p3 → p4 → p5 → C) : C :=
 k h.1 h.2.1 h.2.2.1 h.2.2.2.1 h.2.2.2.2.1 h.2.2.2.2.2
theorem x11 {α0 : Type} {p0 : α0 → Prop} {C : Prop} (h : ∃ a, p0 a) (k : ∀ a, p0 a → C) : C :=
 h.elim fun a h => k a h
theorem x12 {α0 : Type} {p0 p1 : α0 → Prop} {C : Prop} (h : ∃ a, p0 a ∧ p1 a) (k : ∀ a, p0 a → p1 a → C) : C :=
 h.elim fun a h => k a h.1 h.2
theorem x13 {α0 : Type} {p0 p1 p2 : α0 → Prop} {C : Prop} (h : ∃ a, p0 a ∧ p1 a ∧ p2 a) (k : ∀ a, p0 a → p1 a → p2 a → C) : C :=
 h.elim fun a h => k a h.1 h.2.1 h.2.2
theorem x14 {α0 : Type} {p0 p1 p2 p3 : α0 → Prop} {C : Prop} (h : ∃ a, p0 a ∧ p1 a ∧ p2 a ∧ p3 a) (k : ∀ a, p0 a → p1 a → p2 a → p3 a → C) : C :=
 h.elim fun a h => k a h.1 h.2.1 h.2.2.1 h.2.2.2
theorem x15 {α0 : Type} {p0 p1 p2 p3 p4 : α0 → Prop} {C : Prop} (h : ∃ a, p0 a ∧ p1 a ∧ p2 a ∧ p3 a ∧ p4 a) (k : ∀ a, p0 a → p1 a → p2 a → p3 a → p4 a → C) : C :=
 h.elim fun a h => k a h.1 h.2.1 h.2.2.1 h.2.2.2.1 h.2.2.2.2
theorem x21 {α0 α1 : Type} {p0 : α0 → α1 → Prop} {C : Prop} (h : ∃ a b, p0 a b) (k : ∀ a b, p0 a b → C) : C :=
 h.elim fun a h => h.elim fun b h => k a b h
theorem x22 {α0 α1 : Type} {p0 p1 : α0 → α1 → Prop} {C : Prop} (h : ∃ a b, p0 a b ∧ p1 a b) (k : ∀ a b, p0 a b → p1 a b → C) : C :=
 h.elim fun a h => h.elim fun b h => k a b h.1 h.2
theorem x23 {α0 α1 : Type} {p0 p1 p2 : α0 → α1 → Prop} {C : Prop} (h : ∃ a b, p0 a b ∧ p1 a b ∧ p2 a b) (k : ∀ a b, p0 a b → p1 a b → p2 a b → C) : C :=
 h.elim fun a h => h.elim fun b h => k a b h.1 h.2.1 h.2.2
theorem x24 {α0 α1 : Type} {p0 p1 p2 p3 : α0 → α1 → Prop} {C : Prop} (h : ∃ a b, p0 a b ∧ p1 a b ∧ p2 a b ∧ p3 a b) (k : ∀ a b, p0 a b → p1 a b → p2 a b → p3 a b → C) : C :=
 h.elim fun a h => h.elim fun b h => k a b h.1 h.2.1 h.2.2.1 h.2.2.2
theorem x25 {α0 α1 : Type} {p0 p1 p2 p3 p4 : α0 → α1 → Prop} {C : Prop} (h : ∃ a b, p0 a b ∧ p1 a b ∧ p2 a b ∧ p3 a b ∧ p4 a b) (k : ∀ a b, p0 a b → p1 a b → p2 a b → p3 a b → p4 a b → C) : C :=
 h.elim fun a h => h.elim fun b h => k a b h.1 h.2.1 h.2.2.1 h.2.2.2.1 h.2.2.2.2
theorem x26 {α0 α1 : Type} {p0 p1 p2 p3 p4 p5 : α0 → α1 → Prop} {C : Prop} (h : ∃ a b, p0 a b ∧ p1 a b ∧ p2 a b ∧ p3 a b ∧ p4 a b ∧ p5 a b) (k : ∀ a b, p0 a b → p1 a b → p2 a b → p3 a b → p4 a b → p5 a b → C) : C :=
 h.elim fun a h => h.elim fun b h => k a b h.1 h.2.1 h.2.2.1 h.2.2.2.1 h.2.2.2.2.1 h.2.2.2.2.2
theorem x31 {α0 α1 α2 : Type} {p0 : α0 → α1 → α2 → Prop} {C : Prop} (h : ∃ a b c, p0 a b c) (k : ∀ a b c, p0 a b c → C) : C :=
 h.elim fun a h => h.elim fun b h => h.elim fun c h => k a b c h
theorem x32 {α0 α1 α2 : Type} {p0 p1 : α0 → α1 → α2 → Prop} {C : Prop} (h : ∃ a b c, p0 a b c ∧ p1 a b c) (k : ∀ a b c, p0 a b c → p1 a b c → C) : C :=
 h.elim fun a h => h.elim fun b h => h.elim fun c h => k a b c h.1 h.2
theorem x33 {α0 α1 α2 : Type} {p0 p1 p2 : α0 → α1 → α2 → Prop} {C : Prop} (h : ∃ a b c, p0 a b c ∧ p1 a b c ∧ p2 a b c) (k : ∀ a b c, p0 a b c → p1 a b c → p2 a b c → C) : C :=
 h.elim fun a h => h.elim fun b h => h.elim fun c h => k a b c h.1 h.2.1 h.2.2
theorem x34 {α0 α1 α2 : Type} {p0 p1 p2 p3 : α0 → α1 → α2 → Prop} {C : Prop} (h : ∃ a b c, p0 a b c ∧ p1 a b c ∧ p2 a b c ∧ p3 a b c) (k : ∀ a b c, p0 a b c → p1 a b c → p2 a b c → p3 a b c → C) : C :=
 h.elim fun a h => h.elim fun b h => h.elim fun c h => k a b c h.1 h.2.1 h.2.2.1 h.2.2.2
theorem x35 {α0 α1 α2 : Type} {p0 p1 p2 p3 p4 : α0 → α1 → α2 → Prop} {C : Prop} (h : ∃ a b c, p0 a b c ∧ p1 a b c ∧ p2 a b c ∧ p3 a b c ∧ p4 a b c) (k : ∀ a b c, p0 a b c → p1 a b c → p2 a b c → p3 a b c → p4 a b c → C) : C :=
 h.elim fun a h => h.elim fun b h => h.elim fun c h => k a b c h.1 h.2.1 h.2.2.1 h.2.2.2.1 h.2.2.2.2
theorem x36 {α0 α1 α2 : Type} {p0 p1 p2 p3 p4 p5 : α0 → α1 → α2 → Prop} {C : Prop} (h : ∃ a b c, p0 a b c ∧ p1 a b c ∧ p2 a b c ∧ p3 a b c ∧ p4 a b c ∧ p5 a b c) (k : ∀ a b c, p0 a b c → p1 a b c → p2 a b c → p3 a b c → p4 a b c → p5 a b c → C) : C :=
 h.elim fun a h => h.elim fun b h => h.elim fun c h => k a b c h.1 h.2.1 h.2.2.1 h.2.2.2.1 h.2.2.2.2.1 h.2.2.2.2.2
theorem x37 {α0 α1 α2 : Type} {p0 p1 p2 p3 p4 p5 p6 : α0 → α1 → α2 → Prop} {C : Prop} (h : ∃ a b c, p0 a b c ∧ p1 a b c ∧ p2 a b c ∧ p3 a b c ∧ p4 a b c ∧ p5 a b c ∧ p6 a b c) (k : ∀ a b c, p0 a b c → p1 a b c → p2 a b c → p3 a b c → p4 a b c → p5 a b c → p6 a b c → C) : C :=
 h.elim fun a h => h.elim fun b h => h.elim fun c h => k a b c h.1 h.2.1 h.2.2.1 h.2.2.2.1 h.2.2.2.2.1 h.2.2.2.2.2.1 h.2.2.2.2.2.2
theorem x38 {α0 α1 α2 : Type} {p0 p1 p2 p3 p4 p5 p6 p7 : α0 → α1 → α2 → Prop} {C : Prop} (h : ∃ a b c, p0 a b c ∧ p1 a b c ∧ p2 a b c ∧ p3 a b c ∧ p4 a b c ∧ p5 a b c ∧ p6 a b c ∧ p7 a b c) (k : ∀ a b c, p0 a b c → p1 a b c → p2 a b c → p3 a b c → p4 a b c → p5 a b c → p6 a b c → p7 a b c → C) : C :=
 h.elim fun a h => h.elim fun b h => h.elim fun c h => k a b c h.1 h.2.1 h.2.2.1 h.2.2.2.1 h.2.2.2.2.1 h.2.2.2.2.2.1 h.2.2.2.2.2.2.1 h.2.2.2.2.2.2.2
theorem x41 {α0 α1 α2 α3 : Type} {p0 : α0 → α1 → α2 → α3 → Prop} {C : Prop} (h : ∃ a b c d, p0 a b c d) (k : ∀ a b c d, p0 a b c d → C) : C :=
 h.elim fun a h => h.elim fun b h => h.elim fun c h => h.elim fun d h => k a b c d h
theorem x42 {α0 α1 α2 α3 : Type} {p0 p1 : α0 → α1 → α2 → α3 → Prop} {C : Prop} (h : ∃ a b c d, p0 a b c d ∧ p1 a b c d) (k : ∀ a b c d, p0 a b c d → p1 a b c d → C) : C :=
 h.elim fun a h => h.elim fun b h => h.elim fun c h => h.elim fun d h => k a b c d h.1 h.2
theorem x43 {α0 α1 α2 α3 : Type} {p0 p1 p2 : α0 → α1 → α2 → α3 → Prop} {C : Prop} (h : ∃ a b c d, p0 a b c d ∧ p1 a b c d ∧ p2 a b c d) (k : ∀ a b c d, p0 a b c d → p1 a b c d → p2 a b c d → C) : C :=
 h.elim fun a h => h.elim fun b h => h.elim fun c h => h.elim fun d h => k a b c d h.1 h.2.1 h.2.2
theorem x44 {α0 α1 α2 α3 : Type} {p0 p1 p2 p3 : α0 → α1 → α2 → α3 → Prop} {C : Prop} (h : ∃ a b c d, p0 a b c d ∧ p1 a b c d ∧ p2 a b c d ∧ p3 a b c d) (k : ∀ a b c d, p0 a b c d → p1 a b c d → p2 a b c d → p3 a b c d → C) : C :=
 h.elim fun a h => h.elim fun b h => h.elim fun c h => h.elim fun d h => k a b c d h.1 h.2.1 h.2.2.1 h.2.2.2
theorem x52 {α0 α1 α2 α3 α4 : Type} {p0 p1 : α0 → α1 → α2 → α3 → α4 → Prop} {C : Prop} (h : ∃ a b c d e, p0 a b c d e ∧ p1 a b c d e) (k : ∀ a b c d e, p0 a b c d e → p1 a b c d e → C) : C :=
 h.elim fun a h => h.elim fun b h => h.elim fun c h => h.elim fun d h => h.elim fun e h => k a b c d e h.1 h.2
theorem x53 {α0 α1 α2 α3 α4 : Type} {p0 p1 p2 : α0 → α1 → α2 → α3 → α4 → Prop} {C : Prop} (h : ∃ a b c d e, p0 a b c d e ∧ p1 a b c d e ∧ p2 a b c d e) (k : ∀ a b c d e, p0 a b c d e → p1 a b c d e → p2 a b c d e → C) : C :=
 h.elim fun a h => h.elim fun b h => h.elim fun c h => h.elim fun d h => h.elim fun e h => k a b c d e h.1 h.2.1 h.2.2
theorem x54 {α0 α1 α2 α3 α4 : Type} {p0 p1 p2 p3 : α0 → α1 → α2 → α3 → α4 → Prop} {C : Prop} (h : ∃ a b c d e, p0 a b c d e ∧ p1 a b c d e ∧ p2 a b c d e ∧ p3 a b c d e) (k : ∀ a b c d e, p0 a b c d e → p1 a b c d e → p2 a b c d e → p3 a b c d e → C) : C :=
 h.elim fun a h => h.elim fun b h => h.elim fun c h => h.elim fun d h => h.elim fun e h => k a b c d e h.1 h.2.1 h.2.2.1 h.2.2.2
theorem x61 {α0 α1 α2 α3 α4 α5 : Type} {p0 : α0 → α1 → α2 → α3 → α4 → α5 → Prop} {C : Prop} (h : ∃ a b c d e f, p0 a b c d e f) (k : ∀ a b c d e f, p0 a b c d e f → C) : C :=
 h.elim fun a h => h.elim fun b h => h.elim fun c h => h.elim fun d h => h.elim fun e h => h.elim fun f h => k a b c d e f h
theorem x71 {α0 α1 α2 α3 α4 α5 α6 : Type} {p0 : α0 → α1 → α2 → α3 → α4 → α5 → α6 → Prop} {C : Prop} (h : ∃ a b c d e f g, p0 a b c d e f g) (k : ∀ a b c d e f g, p0 a b c d e f g → C) : C :=
 h.elim fun a h => h.elim fun b h => h.elim fun c h => h.elim fun d h => h.elim fun e h => h.elim fun f h => h.elim fun g h => k a b c d e f g h
theorem x73 {α0 α1 α2 α3 α4 α5 α6 : Type} {p0 p1 p2 : α0 → α1 → α2 → α3 → α4 → α5 → α6 → Prop} {C : Prop} (h : ∃ a b c d e f g, p0 a b c d e f g ∧ p1 a b c d e f g ∧ p2 a b c d e f g) (k : ∀ a b c d e f g, p0 a b c d e f g → p1 a b c d e f g → p2 a b c d e f g → C) : C :=
 h.elim fun a h => h.elim fun b h => h.elim fun c h => h.elim fun d h => h.elim fun e h => h.elim fun f h => h.elim fun g h => k a b c d e f g h.1 h.2.1 h.2.2
theorem x92 {α0 α1 α2 α3 α4 α5 α6 α7 α8 : Type} {p0 p1 : α0 → α1 → α2 → α3 → α4 → α5 → α6 → α7 → α8 → Prop} {C : Prop} (h : ∃ a b c d e f g h i, p0 a b c d e f g h i ∧ p1 a b c d e f g h i) (k : ∀ a b c d e f g h i, p0 a b c d e f g h i → p1 a b c d e f g h i → C) : C :=
 h.elim fun a h => h.elim fun b h => h.elim fun c h => h.elim fun d h => h.elim fun e h => h.elim fun f h => h.elim fun g h => h.elim fun hh h => h.elim fun i h => k a b c d e f g hh i h.1 h.2
theorem m04 {p0 p1 p2 p3 : Prop} (h0 : p0) (h1 : p1) (h2 : p2) (h3 : p3) : p0 ∧ p1 ∧ p2 ∧ p3 :=
 ⟨h0, h1, h2, h3⟩
theorem m06 {p0 p1 p2 p3 p4 p5 : Prop} (h0 : p0) (h1 : p1) (h2 : p2) (h3 : p3) (h4 : p4) (h5 : p5) : p0 ∧ p1 ∧ p2 ∧ p3 ∧ p4 ∧ p5 :=
 ⟨h0, h1, h2, h3, h4, h5⟩
theorem m12 {α0 : Type} {p0 p1 : α0 → Prop} (a : α0) (h0 : p0 a) (h1 : p1 a) : ∃ a, p0 a ∧ p1 a :=
 ⟨a, h0, h1⟩
theorem m13 {α0 : Type} {p0 p1 p2 : α0 → Prop} (a : α0) (h0 : p0 a) (h1 : p1 a) (h2 : p2 a) : ∃ a, p0 a ∧ p1 a ∧ p2 a :=
 ⟨a, h0, h1, h2⟩
theorem m14 {α0 : Type} {p0 p1 p2 p3 : α0 → Prop} (a : α0) (h0 : p0 a) (h1 : p1 a) (h2 : p2 a) (h3 : p3 a) : ∃ a, p0 a ∧ p1 a ∧ p2 a ∧ p3 a :=
 ⟨a, h0, h1, h2, h3⟩
theorem m15 {α0 : Type} {p0 p1 p2 p3 p4 : α0 → Prop} (a : α0) (h0 : p0 a) (h1 : p1 a) (h2 : p2 a) (h3 : p3 a) (h4 : p4 a) : ∃ a, p0 a ∧ p1 a ∧ p2 a ∧ p3 a ∧ p4 a :=
 ⟨a, h0, h1, h2, h3, h4⟩
theorem m21 {α0 α1 : Type} {p0 : α0 → α1 → Prop} (a : α0) (b : α1) (h0 : p0 a b) : ∃ a b, p0 a b :=
 ⟨a, b, h0⟩
theorem m22 {α0 α1 : Type} {p0 p1 : α0 → α1 → Prop} (a : α0) (b : α1) (h0 : p0 a b) (h1 : p1 a b) : ∃ a b, p0 a b ∧ p1 a b :=
 ⟨a, b, h0, h1⟩
theorem m23 {α0 α1 : Type} {p0 p1 p2 : α0 → α1 → Prop} (a : α0) (b : α1) (h0 : p0 a b) (h1 : p1 a b) (h2 : p2 a b) : ∃ a b, p0 a b ∧ p1 a b ∧ p2 a b :=
 ⟨a, b, h0, h1, h2⟩
theorem m24 {α0 α1 : Type} {p0 p1 p2 p3 : α0 → α1 → Prop} (a : α0) (b : α1) (h0 : p0 a b) (h1 : p1 a b) (h2 : p2 a b) (h3 : p3 a b) : ∃ a b, p0 a b ∧ p1 a b ∧ p2 a b ∧ p3 a b :=
 ⟨a, b, h0, h1, h2, h3⟩
theorem m31 {α0 α1 α2 : Type} {p0 : α0 → α1 → α2 → Prop} (a : α0) (b : α1) (c : α2) (h0 : p0 a b c) : ∃ a b c, p0 a b c :=
 ⟨a, b, c, h0⟩
theorem m32 {α0 α1 α2 : Type} {p0 p1 : α0 → α1 → α2 → Prop} (a : α0) (b : α1) (c : α2) (h0 : p0 a b c) (h1 : p1 a b c) : ∃ a b c, p0 a b c ∧ p1 a b c :=
 ⟨a, b, c, h0, h1⟩
theorem m33 {α0 α1 α2 : Type} {p0 p1 p2 : α0 → α1 → α2 → Prop} (a : α0) (b : α1) (c : α2) (h0 : p0 a b c) (h1 : p1 a b c) (h2 : p2 a b c) : ∃ a b c, p0 a b c ∧ p1 a b c ∧ p2 a b c :=
 ⟨a, b, c, h0, h1, h2⟩
theorem m34 {α0 α1 α2 : Type} {p0 p1 p2 p3 : α0 → α1 → α2 → Prop} (a : α0) (b : α1) (c : α2) (h0 : p0 a b c) (h1 : p1 a b c) (h2 : p2 a b c) (h3 : p3 a b c) : ∃ a b c, p0 a b c ∧ p1 a b c ∧ p2 a b c ∧ p3 a b c :=
 ⟨a, b, c, h0, h1, h2, h3⟩
theorem m35 {α0 α1 α2 : Type} {p0 p1 p2 p3 p4 : α0 → α1 → α2 → Prop} (a : α0) (b : α1) (c : α2) (h0 : p0 a b c) (h1 : p1 a b c) (h2 : p2 a b c) (h3 : p3 a b c) (h4 : p4 a b c) : ∃ a b c, p0 a b c ∧ p1 a b c ∧ p2 a b c ∧ p3 a b c ∧ p4 a b c :=
 ⟨a, b, c, h0, h1, h2, h3, h4⟩
theorem m41 {α0 α1 α2 α3 : Type} {p0 : α0 → α1 → α2 → α3 → Prop} (a : α0) (b : α1) (c : α2) (d : α3) (h0 : p0 a b c d) : ∃ a b c d, p0 a b c d :=
 ⟨a, b, c, d, h0⟩
theorem m42 {α0 α1 α2 α3 : Type} {p0 p1 : α0 → α1 → α2 → α3 → Prop} (a : α0) (b : α1) (c : α2) (d : α3) (h0 : p0 a b c d) (h1 : p1 a b c d) : ∃ a b c d, p0 a b c d ∧ p1 a b c d :=
 ⟨a, b, c, d, h0, h1⟩
theorem m43 {α0 α1 α2 α3 : Type} {p0 p1 p2 : α0 → α1 → α2 → α3 → Prop} (a : α0) (b : α1) (c : α2) (d : α3) (h0 : p0 a b c d) (h1 : p1 a b c d) (h2 : p2 a b c d) : ∃ a b c d, p0 a b c d ∧ p1 a b c d ∧ p2 a b c d :=
 ⟨a, b, c, d, h0, h1, h2⟩
theorem m44 {α0 α1 α2 α3 : Type} {p0 p1 p2 p3 : α0 → α1 → α2 → α3 → Prop} (a : α0) (b : α1) (c : α2) (d : α3) (h0 : p0 a b c d) (h1 : p1 a b c d) (h2 : p2 a b c d) (h3 : p3 a b c d) : ∃ a b c d, p0 a b c d ∧ p1 a b c d ∧ p2 a b c d ∧ p3 a b c d :=
 ⟨a, b, c, d, h0, h1, h2, h3⟩
theorem m46 {α0 α1 α2 α3 : Type} {p0 p1 p2 p3 p4 p5 : α0 → α1 → α2 → α3 → Prop} (a : α0) (b : α1) (c : α2) (d : α3) (h0 : p0 a b c d) (h1 : p1 a b c d) (h2 : p2 a b c d) (h3 : p3 a b c d) (h4 : p4 a b c d) (h5 : p5 a b c d) : ∃ a b c d, p0 a b c d ∧ p1 a b c d ∧ p2 a b c d ∧ p3 a b c d ∧ p4 a b c d ∧ p5 a b c d :=
 ⟨a, b, c, d, h0, h1, h2, h3, h4, h5⟩
theorem m52 {α0 α1 α2 α3 α4 : Type} {p0 p1 : α0 → α1 → α2 → α3 → α4 → Prop} (a : α0) (b : α1) (c : α2) (d : α3) (e : α4) (h0 : p0 a b c d e) (h1 : p1 a b c d e) : ∃ a b c d e, p0 a b c d e ∧ p1 a b c d e :=
 ⟨a, b, c, d, e, h0, h1⟩
theorem m61 {α0 α1 α2 α3 α4 α5 : Type} {p0 : α0 → α1 → α2 → α3 → α4 → α5 → Prop} (a : α0) (b : α1) (c : α2) (d : α3) (e : α4) (f : α5) (h0 : p0 a b c d e f) : ∃ a b c d e f, p0 a b c d e f :=
 ⟨a, b, c, d, e, f, h0⟩
theorem m71 {α0 α1 α2 α3 α4 α5 α6 : Type} {p0 : α0 → α1 → α2 → α3 → α4 → α5 → α6 → Prop} (a : α0) (b : α1) (c : α2) (d : α3) (e : α4) (f : α5) (g : α6) (h0 : p0 a b c d e f g) : ∃ a b c d e f g, p0 a b c d e f g :=
 ⟨a, b, c, d, e, f, g, h0⟩
theorem m910 {α0 α1 α2 α3 α4 α5 α6 α7 α8 : Type} {p0 p1 p2 p3 p4 p5 p6 p7 p8 p9 : α0 → α1 → α2 → α3 → α4 → α5 → α6 → α7 → α8 → Prop} (a : α0) (b : α1) (c : α2) (d : α3) (e : α4) (f : α5) (g : α6) (h : α7) (i : α8) (h0 : p0 a b c d e f g h i) (h1 : p1 a b c d e f g h i) (h2 : p2 a b c d e f g h i) (h3 : p3 a b c d e f g h i) (h4 : p4 a b c d e f g h i) (h5 : p5 a b c d e f g h i) (h6 : p6 a b c d e f g h i) (h7 : p7 a b c d e f g h i) (h8 : p8 a b c d e f g h i) (h9 : p9 a b c d e f g h i) : ∃ a b c d e f g h i, p0 a b c d e f g h i ∧ p1 a b c d e f g h i ∧ p2 a b c d e f g h i ∧ p3 a b c d e f g h i ∧ p4 a b c d e f g h i ∧ p5 a b c d e f g h i ∧ p6 a b c d e f g h i ∧ p7 a b c d e f g h i ∧ p8 a b c d e f g h i ∧ p9 a b c d e f g h i :=
 ⟨a, b, c, d, e, f, g, h, i, h0, h1, h2, h3, h4, h5, h6, h7, h8, h9⟩
theorem m210 {α0 α1 : Type} {p0 p1 p2 p3 p4 p5 p6 p7 p8 p9 : α0 → α1 → Prop} (a : α0) (b : α1) (h0 : p0 a b) (h1 : p1 a b) (h2 : p2 a b) (h3 : p3 a b) (h4 : p4 a b) (h5 : p5 a b) (h6 : p6 a b) (h7 : p7 a b) (h8 : p8 a b) (h9 : p9 a b) : ∃ a b, p0 a b ∧ p1 a b ∧ p2 a b ∧ p3 a b ∧ p4 a b ∧ p5 a b ∧ p6 a b ∧ p7 a b ∧ p8 a b ∧ p9 a b :=
 ⟨a, b, h0, h1, h2, h3, h4, h5, h6, h7, h8, h9⟩
theorem m121 {α0 α1 α2 α3 α4 α5 α6 α7 α8 α9 α10 α11 : Type} {p0 : α0 → α1 → α2 → α3 → α4 → α5 → α6 → α7 → α8 → α9 → α10 → α11 → Prop} (a : α0) (b : α1) (c : α2) (d : α3) (e : α4) (f : α5) (g : α6) (i : α7) (j : α8) (k : α9) (l : α10) (m : α11) (h0 : p0 a b c d e f g i j k l m) : ∃ a b c d e f g i j k l m, p0 a b c d e f g i j k l m :=
 ⟨a, b, c, d, e, f, g, i, j, k, l, m, h0⟩
theorem m37 {α0 α1 α2 : Type} {p0 p1 p2 p3 p4 p5 p6 : α0 → α1 → α2 → Prop} (a : α0) (b : α1) (c : α2) (h0 : p0 a b c) (h1 : p1 a b c) (h2 : p2 a b c) (h3 : p3 a b c) (h4 : p4 a b c) (h5 : p5 a b c) (h6 : p6 a b c) : ∃ a b c, p0 a b c ∧ p1 a b c ∧ p2 a b c ∧ p3 a b c ∧ p4 a b c ∧ p5 a b c ∧ p6 a b c :=
 ⟨a, b, c, h0, h1, h2, h3, h4, h5, h6⟩
theorem m73 {α0 α1 α2 α3 α4 α5 α6 : Type} {p0 p1 p2 : α0 → α1 → α2 → α3 → α4 → α5 → α6 → Prop} (a : α0) (b : α1) (c : α2) (d : α3) (e : α4) (f : α5) (g : α6) (h0 : p0 a b c d e f g) (h1 : p1 a b c d e f g) (h2 : p2 a b c d e f g) : ∃ a b c d e f g, p0 a b c d e f g ∧ p1 a b c d e f g ∧ p2 a b c d e f g :=
 ⟨a, b, c, d, e, f, g, h0, h1, h2⟩
theorem x95 {α0 α1 α2 α3 α4 α5 α6 α7 α8 : Type} {p0 p1 p2 p3 p4 : α0 → α1 → α2 → α3 → α4 → α5 → α6 → α7 → α8 → Prop} {C : Prop} (h : ∃ y0 y1 y2 y3 y4 y5 y6 y7 y8, p0 y0 y1 y2 y3 y4 y5 y6 y7 y8 ∧ p1 y0 y1 y2 y3 y4 y5 y6 y7 y8 ∧ p2 y0 y1 y2 y3 y4 y5 y6 y7 y8 ∧ p3 y0 y1 y2 y3 y4 y5 y6 y7 y8 ∧ p4 y0 y1 y2 y3 y4 y5 y6 y7 y8) (k : ∀ y0 y1 y2 y3 y4 y5 y6 y7 y8, p0 y0 y1 y2 y3 y4 y5 y6 y7 y8 → p1 y0 y1 y2 y3 y4 y5 y6 y7 y8 → p2 y0 y1 y2 y3 y4 y5 y6 y7 y8 → p3 y0 y1 y2 y3 y4 y5 y6 y7 y8 → p4 y0 y1 y2 y3 y4 y5 y6 y7 y8 → C) : C :=
 h.elim fun y0 h => h.elim fun y1 h => h.elim fun y2 h => h.elim fun y3 h => h.elim fun y4 h => h.elim fun y5 h => h.elim fun y6 h => h.elim fun y7 h => h.elim fun y8 h => k y0 y1 y2 y3 y4 y5 y6 y7 y8 h.1 h.2.1 h.2.2.1 h.2.2.2.1 h.2.2.2.2
theorem x121 {α0 α1 α2 α3 α4 α5 α6 α7 α8 α9 α10 α11 : Type} {p0 : α0 → α1 → α2 → α3 → α4 → α5 → α6 → α7 → α8 → α9 → α10 → α11 → Prop} {C : Prop} (h : ∃ y0 y1 y2 y3 y4 y5 y6 y7 y8 y9 y10 y11, p0 y0 y1 y2 y3 y4 y5 y6 y7 y8 y9 y10 y11) (k : ∀ y0 y1 y2 y3 y4 y5 y6 y7 y8 y9 y10 y11, p0 y0 y1 y2 y3 y4 y5 y6 y7 y8 y9 y10 y11 → C) : C :=
 h.elim fun y0 h => h.elim fun y1 h => h.elim fun y2 h => h.elim fun y3 h => h.elim fun y4 h => h.elim fun y5 h => h.elim fun y6 h => h.elim fun y7 h => h.elim fun y8 h => h.elim fun y9 h => h.elim fun y10 h => h.elim fun y11 h => k y0 y1 y2 y3 y4 y5 y6 y7 y8 y9 y10 y11 h
theorem x1011 {α0 α1 α2 α3 α4 α5 α6 α7 α8 α9 : Type} {p0 p1 p2 p3 p4 p5 p6 p7 p8 p9 p10 : α0 → α1 → α2 → α3 → α4 → α5 → α6 → α7 → α8 → α9 → Prop} {C : Prop} (h : ∃ y0 y1 y2 y3 y4 y5 y6 y7 y8 y9, p0 y0 y1 y2 y3 y4 y5 y6 y7 y8 y9 ∧ p1 y0 y1 y2 y3 y4 y5 y6 y7 y8 y9 ∧ p2 y0 y1 y2 y3 y4 y5 y6 y7 y8 y9 ∧ p3 y0 y1 y2 y3 y4 y5 y6 y7 y8 y9 ∧ p4 y0 y1 y2 y3 y4 y5 y6 y7 y8 y9 ∧ p5 y0 y1 y2 y3 y4 y5 y6 y7 y8 y9 ∧ p6 y0 y1 y2 y3 y4 y5 y6 y7 y8 y9 ∧ p7 y0 y1 y2 y3 y4 y5 y6 y7 y8 y9 ∧ p8 y0 y1 y2 y3 y4 y5 y6 y7 y8 y9 ∧ p9 y0 y1 y2 y3 y4 y5 y6 y7 y8 y9 ∧ p10 y0 y1 y2 y3 y4 y5 y6 y7 y8 y9) (k : ∀ y0 y1 y2 y3 y4 y5 y6 y7 y8 y9, p0 y0 y1 y2 y3 y4 y5 y6 y7 y8 y9 → p1 y0 y1 y2 y3 y4 y5 y6 y7 y8 y9 → p2 y0 y1 y2 y3 y4 y5 y6 y7 y8 y9 → p3 y0 y1 y2 y3 y4 y5 y6 y7 y8 y9 → p4 y0 y1 y2 y3 y4 y5 y6 y7 y8 y9 → p5 y0 y1 y2 y3 y4 y5 y6 y7 y8 y9 → p6 y0 y1 y2 y3 y4 y5 y6 y7 y8 y9 → p7 y0 y1 y2 y3 y4 y5 y6 y7 y8 y9 → p8 y0 y1 y2 y3 y4 y5 y6 y7 y8 y9 → p9 y0 y1 y2 y3 y4 y5 y6 y7 y8 y9 → p10 y0 y1 y2 y3 y4 y5 y6 y7 y8 y9 → C) : C :=
 h.elim fun y0 h => h.elim fun y1 h => h.elim fun y2 h => h.elim fun y3 h => h.elim fun y4 h => h.elim fun y5 h => h.elim fun y6 h => h.elim fun y7 h => h.elim fun y8 h => h.elim fun y9 h => k y0 y1 y2 y3 y4 y5 y6 y7 y8 y9 h.1 h.2.1 h.2.2.1 h.2.2.2.1 h.2.2.2.2.1 h.2.2.2.2.2.1 h.2.2.2.2.2.2.1 h.2.2.2.2.2.2.2.1 h.2.2.2.2.2.2.2.2.1 h.2.2.2.2.2.2.2.2.2.1 h.2.2.2.2.2.2.2.2.2.2
theorem x98 {α0 α1 α2 α3 α4 α5 α6 α7 α8 : Type} {p0 p1 p2 p3 p4 p5 p6 p7 : α0 → α1 → α2 → α3 → α4 → α5 → α6 → α7 → α8 → Prop} {C : Prop} (h : ∃ y0 y1 y2 y3 y4 y5 y6 y7 y8, p0 y0 y1 y2 y3 y4 y5 y6 y7 y8 ∧ p1 y0 y1 y2 y3 y4 y5 y6 y7 y8 ∧ p2 y0 y1 y2 y3 y4 y5 y6 y7 y8 ∧ p3 y0 y1 y2 y3 y4 y5 y6 y7 y8 ∧ p4 y0 y1 y2 y3 y4 y5 y6 y7 y8 ∧ p5 y0 y1 y2 y3 y4 y5 y6 y7 y8 ∧ p6 y0 y1 y2 y3 y4 y5 y6 y7 y8 ∧ p7 y0 y1 y2 y3 y4 y5 y6 y7 y8) (k : ∀ y0 y1 y2 y3 y4 y5 y6 y7 y8, p0 y0 y1 y2 y3 y4 y5 y6 y7 y8 → p1 y0 y1 y2 y3 y4 y5 y6 y7 y8 → p2 y0 y1 y2 y3 y4 y5 y6 y7 y8 → p3 y0 y1 y2 y3 y4 y5 y6 y7 y8 → p4 y0 y1 y2 y3 y4 y5 y6 y7 y8 → p5 y0 y1 y2 y3 y4 y5 y6 y7 y8 → p6 y0 y1 y2 y3 y4 y5 y6 y7 y8 → p7 y0 y1 y2 y3 y4 y5 y6 y7 y8 → C) : C :=
 h.elim fun y0 h => h.elim fun y1 h => h.elim fun y2 h => h.elim fun y3 h => h.elim fun y4 h => h.elim fun y5 h => h.elim fun y6 h => h.elim fun y7 h => h.elim fun y8 h => k y0 y1 y2 y3 y4 y5 y6 y7 y8 h.1 h.2.1 h.2.2.1 h.2.2.2.1 h.2.2.2.2.1 h.2.2.2.2.2.1 h.2.2.2.2.2.2.1 h.2.2.2.2.2.2.2
end Mine
end
noncomputable section
open PySem
namespace Mine
theorem runs_size {M : Model} {Γ : Ctx} {p : Pos} {t : Sem Fin} {fs : List Frame} {s s' : Shared} {e : End} (h : Runs M Γ p t fs s e s') : s.heap.objs.size ≤ s'.heap.objs.size := by
 induction h <;> (try simp only [Shared.setGen, Heap.size_push, Heap.size_after_update] at *) <;> omega
theorem wakes_size {M : Model} {Γ : Ctx} {p : Pos} {g : Nat} {r : Resume} {s s' : Shared} {res : GenResult} (h : Wakes M Γ p g r s res s') : s.heap.objs.size ≤ s'.heap.objs.size := by
 unfold Wakes at h
 split at h
 · exact h.elim
 · split at h
   · obtain ⟨e₁, s₁, hr, _, _, rfl⟩ := h; exact (runs_size hr : (s.setGen g .running).heap.objs.size ≤ s₁.heap.objs.size)
   · rw [h.2]; exact Nat.le_refl _
   · rw [h.2]; exact Nat.le_refl _
 · obtain ⟨e₁, s₁, hr, _, _, rfl⟩ := h; exact (runs_size hr : (s.setGen g .running).heap.objs.size ≤ s₁.heap.objs.size)
 · rw [h.2]; exact Nat.le_refl _
 · rw [h.2]; exact Nat.le_refl _
theorem wp_size {α : Type} (M : Model) (Γ : Ctx) (n : Nat) (t : Sem α) : ∀ (Q : α → Pos → Shared → Prop) (E : Value → Pos → Shared → Prop) (p : Pos) (s : Shared), n ≤ s.heap.objs.size → Sem.wp M Γ t Q E p s →
  Sem.wp M Γ t (fun a p' s' => n ≤ s'.heap.objs.size ∧ Q a p' s') (fun e p' s' => n ≤ s'.heap.objs.size ∧ E e p' s') p s := by
 induction t with
 | pure a => intro Q E p s hn h; exact ⟨hn, h⟩
 | raise e => intro Q E p s hn h; exact ⟨hn, h⟩
 | unsupported _ => intro Q E p s _ h; exact h
 | finish _ => intro Q E p s _ h; exact h
 | rule _ k ih => intro Q E p s hn h; exact ih () Q E p s hn h
 | «at» p' k ih => intro Q E p s hn h; exact ih () Q E p' s hn h
 | load a _ k ih => intro Q E p s hn h; obtain ⟨o, ho, h⟩ := h; exact ⟨o, ho, ih o Q E p s hn h⟩
 | update a _ f k ih => intro Q E p s hn h; exact ⟨h.1, ih () Q E p _ (by show n ≤ (s.heap.update a f).objs.size; rw [Heap.size_after_update]; exact hn) h.2⟩
 | loadIfAlive a k ih => intro Q E p s hn h; exact ih _ Q E p s hn h
 | point _ k ih => intro Q E p s hn h; exact ih () Q E p s hn h
 | register _ _ => intro Q E p s _ h; exact h
 | alloc o k ih => intro Q E p s hn h; exact ih _ Q E p _ (by show n ≤ (s.heap.push o).objs.size; rw [Heap.size_push]; exact Nat.le_succ_of_le hn) h
 | fresh k ih => intro Q E p s hn h; exact ih _ Q E p _ hn h
 | ask k ih => intro Q E p s hn h; exact ih _ Q E p s hn h
 | choose src m k ih => intro Q E p s hn h; exact ⟨h.1, ih _ Q E p _ hn h.2⟩
 | os q _ k ih => intro Q E p s hn h; exact ih _ Q E p _ hn h
 | call c hd _ _ k ih => intro Q E p s hn h; obtain ⟨r, s', hr, h⟩ := h; exact ⟨r, s', hr, ih r Q E p s' (Nat.le_trans hn (runs_size hr)) h⟩
 | handled own k ih => intro Q E p s hn h; exact ih _ Q E p s hn h
 | genState g k ih => intro Q E p s hn h; obtain ⟨st, hs, h⟩ := h; exact ⟨st, hs, ih _ Q E p s hn h⟩
 | newGen c k ih => intro Q E p s hn h; exact ih _ Q E p _ hn h
 | resume g r _ k ih => intro Q E p s hn h; obtain ⟨res, s', hw, h⟩ := h; exact ⟨res, s', hw, ih res Q E p s' (Nat.le_trans hn (wakes_size hw)) h⟩
 | yield _ _ _ _ => intro Q E p s _ h; exact h
 | stack k ih => intro Q E p s hn h; exact ih _ Q E p s hn h
 | fork _ _ => intro Q E p s _ h; exact h
 | thread k ih => intro Q E p s hn h; exact ih _ Q E p s hn h
 | await _ _ _ _ _ => intro Q E p s _ h; exact h
theorem with_size {α : Type} {M : Model} {A : Around} {s : Shared} {t : Sem α} {Q : α → Shared → Prop} {E : Value → Shared → Prop}
  (h : wpAny M A t (fun a s' => s.heap.objs.size ≤ s'.heap.objs.size → Q a s') E s) : wpAny M A t Q E s :=
 wpAny_mono (fun Γ p hΓ => wp_size M Γ s.heap.objs.size t _ _ p s (Nat.le_refl _) (h Γ p hΓ) : wpAny M A t (fun a s' => s.heap.objs.size ≤ s'.heap.objs.size ∧ (s.heap.objs.size ≤ s'.heap.objs.size → Q a s')) (fun e s' => s.heap.objs.size ≤ s'.heap.objs.size ∧ E e s') s) (fun j j x => x.2 x.1) fun j j x => x.2
theorem with_more {α : Type} {M : Model} {A : Around} {s : Shared} {t : Sem α} {Q : α → Shared → Prop} {E : Value → Shared → Prop}
  (h : wpAny M A t (fun a s' => s.heap.objs.size ≤ s'.heap.objs.size ∧ s.toks ≤ s'.toks → Q a s') E s) : wpAny M A t Q E s :=
 with_size (wpAny_mono (wpAny_toks h) (fun j j x hz => x.2 ⟨hz, x.1⟩) fun j j x => x.2)
end Mine
end
noncomputable section
open PySem
namespace Mine
set_option maxRecDepth 4000
theorem no {α : Type} {x : α} {P : Prop} (h : (none : Option α) = some x) : P := nomatch h
theorem nb {P : Prop} (h : false = true) : P := nomatch h
theorem ou {α β : Type} {a c : α} {b d : β} (h : some (a, b) = some (c, d)) : a = c ∧ b = d := by cases h; exact ⟨rfl, rfl⟩
@[elab_as_elim] theorem ouK {α β : Type} {a c : α} {b d : β} {P : α → β → Prop} (h : some (a, b) = some (c, d)) (k : P a b) : P c d := by
 have e := ou h
 exact e.1 ▸ e.2 ▸ k
theorem so {α : Type} {a b : α} (h : some a = some b) : a = b := by cases h; rfl
inductive D where
 | none | bool (b : Bool) | int (i : Int) | str (s : List Nat) | word (b : Bool)
 | list (xs : List D) | tup (xs : List D) | ob (k : Nat)
 | sym (k : Nat) | num (m r : Nat) | self (k : Nat) | inst (ds : List D) | mtch (s : List Nat) (b e : Nat)
 | tstr (k : Nat) | opq (k : Nat)
inductive MO where
 | list (xs : List D) | dic (es : List (Int × D)) | inst (fs : List (Nat × D)) | attrs (ds : List D)
inductive COp where | eq | ne | lt | le | gt | ge | is | in_ | nin
inductive BOp where | add | sub | mul | fdiv | mod | pow
inductive Tgt where | var (i : Nat) | tup (is : List Nat)
inductive BI where | len | max | sum | str | dict | tuple | isTuple
inductive ME where | append | join | index | upper | split
mutual
inductive X where
 | kint (i : Int) | kstr (s : List Nat) | kbool (b : Bool) | knone
 | var (i : Nat)
 | bin (o : BOp) (m : Bool) (a b : X)
 | cmp (a : X) (o : COp) (b : X)
 | cmp2 (a : X) (o : COp) (b : X) (o2 : COp) (c : X)
 | and_ (a b : X)
 | ite (c a b : X)
 | fn (k : Nat) (args : List X)
 | sm (k : Nat) (args : List X)
 | bi (b : BI) (args : List X)
 | meth (o : X) (m : ME) (args : List X)
 | idx (o i : X)
 | slcTo (o hi : X)
 | list (m : Bool) (xs : List X)
 | tup (xs : List X)
 | dict0
 | lcomp (m : Bool) (elt : X) (t : Tgt) (it : IT) (ifs : List X) (own : List Nat)
 | lcomp2 (m : Bool) (elt : X) (t : Tgt) (it : IT) (t2 : Tgt) (it2 : IT) (ifs : List X) (own : List Nat)
 | dcomp (k v : X) (t : Tgt) (it : IT) (own : List Nat)
 | tupSum (a b : X)      -- tuple((i + j for i, j in zip(a, b)))
 | attr (o : X) (i : Nat) | clsAttr (i : Nat)
 | mcall (o : X) (k : Nat) (args : List X) | msm (o : X) (k : Nat) (args : List X) | new (args : List X)
 | mac (k i : Nat)
 | search (x : X) | span0 (x : X) | group1 (x : X) | mstr (x : X)
 | strTo (o hi : X) | strFrom (o lo : X) | isOrEq (i j : Nat)
inductive IT where
 | val (x : X) | rng (a : Option X) (b : X) | items (x : X)
end
inductive TG where | var (i : Nat) | tup (is : List Nat) | sub (o i : X)
inductive Y where
 | asg (t : TG) (e : X)
 | augSub (o i e : X)
 | asg2 (o1 i1 o2 i2 e : X)
 | asgAttr (o : X) (i : Nat) (e : X) | asgMany (is : List Nat) (e : X) | augVar (i : Nat) (e : X)
 | expr (e : X)
 | ret (e : X)
 | if_ (c : X) (a b : List Y)
 | for_ (t : Tgt) (it : IT) (body : List Y) (orelse : Bool)
 | forE (i j : Nat) (x : X) (body : List Y) (orelse : Bool)
 | brk
inductive Fl where | next | brk | ret (d : D)
structure St where
 n : Nat
 mu : List (Nat × Nat × MO)
noncomputable abbrev Env' := List (Nat × Option D)
noncomputable def lk {β : Type} (k : Nat) (l : List (Nat × β)) : Option β :=
 List.rec (motive := fun j => Option β) none (fun p j ih => Bool.rec (motive := fun j => Option β) ih (some p.2) (Nat.beq p.1 k)) l
noncomputable def put {β : Type} (k : Nat) (v : β) (l : List (Nat × β)) : List (Nat × β) :=
 List.rec (motive := fun j => List (Nat × β)) [(k, v)] (fun p r ih => Bool.rec (motive := fun j => List (Nat × β)) (p :: ih) ((p.1, v) :: r) (Nat.beq p.1 k)) l
theorem lk_consM {β : Type} {k i : Nat} {v : β} {r : List (Nat × β)} : lk k ((i, v) :: r) = match Nat.beq i k with | true => some v | false => lk k r := by
 show Bool.rec (motive := fun j => Option β) (lk k r) (some v) (Nat.beq i k) = _
 cases Nat.beq i k <;> rfl
theorem put_nilM {β : Type} {k : Nat} {v : β} : put k v ([] : List (Nat × β)) = [(k, v)] := rfl
theorem put_consM {β : Type} {k i : Nat} {v u : β} {r : List (Nat × β)} : put k v ((i, u) :: r) = match Nat.beq i k with | true => (i, v) :: r | false => (i, u) :: put k v r := by
 show Bool.rec (motive := fun j => List (Nat × β)) ((i, u) :: put k v r) ((i, v) :: r) (Nat.beq i k) = _
 cases Nat.beq i k <;> rfl
noncomputable def eqInt : Int → Int → Bool
 | .ofNat a, .ofNat b => Nat.beq a b
 | .negSucc a, .negSucc b => Nat.beq a b
 | _, _ => false
noncomputable def leInt : Int → Int → Bool
 | .ofNat a, .ofNat b => Nat.ble a b
 | .negSucc a, .negSucc b => Nat.ble b a
 | .negSucc _, .ofNat _ => true
 | .ofNat _, .negSucc _ => false
noncomputable def ltInt (a b : Int) : Bool := !leInt b a
noncomputable def eqL : List Nat → List Nat → Bool
 | [], [] => true
 | a :: r, b :: t => match Nat.beq a b with | true => eqL r t | false => false
 | _, _ => false
noncomputable def lkI (k : Int) : List (Int × D) → Option D
 | [] => none
 | (i, v) :: r => match eqInt i k with | true => some v | false => lkI k r
noncomputable def putI (k : Int) (v : D) : List (Int × D) → List (Int × D)
 | [] => [(k, v)]
 | (i, u) :: r => match eqInt i k with | true => (i, v) :: r | false => (i, u) :: putI k v r
noncomputable def nat? : Int → Option Nat
 | .ofNat n => some n
 | .negSucc _ => none
noncomputable def eqGo (rec : D → D → Option Bool) : List D → List D → Option Bool
 | [], [] => some true
 | x :: xs, y :: ys => match rec x y with
  | some r => match eqGo rec xs ys with | some t => some (r && t) | none => none
  | none => none
 | _, _ => none
noncomputable def eqGoD (rec : D → D → Option Bool) (gs : List (Int × D)) : List (Int × D) → Option Bool
 | [] => some true
 | (k, v) :: r => match lkI k gs with
  | none => some false
  | some u => match rec v u with
   | some q => match eqGoD rec gs r with | some t => some (q && t) | none => none
   | none => none
noncomputable def eqLs (rec : D → D → Option Bool) (xs ys : List D) : Option Bool := match Nat.beq xs.length ys.length with
 | true => eqGo rec xs ys
 | false => some false
noncomputable def eqD (st : St) : Nat → D → D → Option Bool
 | 0 => fun y y => none
 | f + 1 => fun a b => match a, b with
  | .none, .none => some true
  | .bool a, .bool b => some (a == b)
  | .int a, .int b => some (eqInt a b)
  | .str a, .str b => some (eqL a b)
  | .sym j, .sym k => match Nat.beq j k && Nat.ble 16 k && Nat.ble 4 f with | true => some true | false => none
  | .list xs, .list ys => eqLs (eqD st f) xs ys
  | .tup xs, .tup ys => eqGo (eqD st f) xs ys
  | .ob j, .ob k => match lk j st.mu, lk k st.mu with
   | some (_, .dic es), some (_, .dic gs) => match Nat.beq es.length gs.length with
    | true => eqGoD (eqD st f) gs es
    | false => some false
   | some (_, .list xs), some (_, .list ys) => eqLs (eqD st f) xs ys
   | _, _ => none
  | _, _ => none
noncomputable abbrev Ev := Env' → St → X → Option (D × St)
noncomputable abbrev Ex := Env' → St → List Y → Option (Fl × Env' × St)
noncomputable def wordL : List Nat := [97, 116, 32, 116, 97, 98, 32, 115, 105, 122, 101, 32]
inductive Src where
 | pure (rest : List D)
 | rng (a b : Int)
 | mlist (k v i : Nat)
 | items (k v i : Nat)
structure Tab where
 fns : Nat → Option (List Nat × List Y)
 sms : Nat → List D → Option D
 code : Nat
 tabs : Nat → Bool
 msms : Nat → List D → Option D
 macs : Nat → D → Option D
 ge : Nat → Nat → Option Bool
 word : Nat → Option Bool
 lst : Nat → Bool
 same : Nat → Nat → Option Bool
 mfns : Nat → Option (List Nat × List Y)
 ini : Option (List Nat × List Y)
 found : List Nat → Option (Nat × Nat)
section
variable (T : Tab) (ev : Ev) (ex : Ex)
noncomputable def evL (ρ : Env') : St → List X → Option (List D × St)
 | st, [] => some ([], st)
 | st, x :: r => match ev ρ st x with
  | some (d, st) => match evL ρ st r with
   | some (ds, st) => some (d :: ds, st)
   | none => none
  | none => none
noncomputable def cmpInt (o : COp) (a b : Int) : Option Bool := match o with
 | .eq => some (eqInt a b) | .ne => some (!eqInt a b)
 | .lt => some (ltInt a b) | .le => some (leInt a b) | .gt => some (ltInt b a) | .ge => some (leInt b a)
 | _ => none
noncomputable def inInts (a : Int) : List D → Option Bool
 | [] => some false
 | .int b :: r => match inInts a r with | some t => some (eqInt b a || t) | none => none
 | _ => none
noncomputable def listOf (st : St) : D → Option (List D)
 | .list xs => some xs
 | .ob k => match lk k st.mu with | some (_, .list xs) => some xs | _ => none
 | _ => none
noncomputable def eqCase (st : St) (o : COp) (a b : D) : Option Bool := match o with
 | .eq => eqD st 12 a b
 | .ne => match eqD st 12 a b with | some r => some (!r) | none => none
 | _ => none
noncomputable def wordCase (o : COp) (e : Bool) : Option Bool := match o with
 | .eq => some e
 | .ne => some (!e)
 | _ => none
noncomputable def inCase (st : St) (o : COp) (a : Int) (b : D) : Option Bool := match o with
 | .in_ => match b with
  | .ob k => match lk k st.mu with
   | some (_, .dic es) => some (lkI a es).isSome
   | some (_, .list xs) => inInts a xs
   | _ => none
  | .list xs => inInts a xs
  | _ => none
 | .nin => match listOf st b with
  | some xs => match inInts a xs with | some r => some (!r) | none => none
  | none => none
 | _ => none
noncomputable def symCase (o : COp) (j k : Nat) : Option Bool := match o with
 | .ge => T.ge j k
 | .eq => match Nat.beq j k && Nat.ble 16 k && T.lst k with | true => some true | false => none
 | .ne => match Nat.beq j k && Nat.ble 16 k && T.lst k with | true => some false | false => none
 | _ => none
noncomputable def symWord (o : COp) (k : Nat) (s : List Nat) : Option Bool := match eqL s wordL with
 | true => match T.word k with | some e => wordCase o e | none => none
 | false => none
noncomputable def cmpD (st : St) (o : COp) (a b : D) : Option Bool := match a with
 | .sym j => match b with
  | .sym k => symCase T o j k
  | .str s => symWord T o j s
  | _ => none
 | .int i => match b with
  | .int j => cmpInt o i j
  | b => inCase st o i b
 | .bool i => match b with
  | .bool j => match o with | .is => some (i == j) | _ => none
  | _ => none
 | .str s => match b with
  | .str t => wordCase o (eqL s t)
  | .word e => match eqL s wordL with | true => wordCase o e | false => none
  | .sym k => symWord T o k s
  | _ => none
 | .word e => match b with
  | .str s => match eqL s wordL with | true => wordCase o e | false => none
  | _ => none
 | .list xs => match b with
  | .list ys => eqCase st o (.list xs) (.list ys)
  | _ => none
 | .tup xs => match b with
  | .tup ys => eqCase st o (.tup xs) (.tup ys)
  | _ => none
 | .ob j => match b with
  | .ob k => eqCase st o (.ob j) (.ob k)
  | _ => none
 | _ => none
noncomputable def smallI : Int → Bool
 | .ofNat n => Nat.ble n 1099511627776
 | .negSucc n => Nat.ble n 1099511627776
noncomputable def posI : Int → Bool
 | .ofNat n => Nat.blt 0 n && Nat.blt n 1073741824
 | .negSucc _ => false
noncomputable def fits (n : Nat) : Bool := Nat.ble n 1000
noncomputable def repD (x : List D) : Nat → List D
 | 0 => []
 | n + 1 => x ++ repD x n
noncomputable def repN (x : List Nat) : Nat → List Nat
 | 0 => []
 | n + 1 => x ++ repN x n
noncomputable def newM (st : St) (m : MO) : D × St := (.ob st.n, ⟨st.n + 1, (st.n, 0, m) :: st.mu⟩)
noncomputable def newL (m : Bool) (st : St) (xs : List D) : D × St := match m with
 | true => newM st (.list xs)
 | false => (.list xs, st)
noncomputable def addLs (st : St) (m : Bool) (a b : D) : Option (D × St) := match listOf st a, listOf st b with
 | some x, some y => match fits (x.length + y.length) with
  | true => some (newL m st (x ++ y))
  | false => none
 | _, _ => none
noncomputable def binD (st : St) (o : BOp) (m : Bool) (a b : D) : Option (D × St) := match o with
 | .add => match a with
  | .int a => match b with | .int b => some (.int (a + b), st) | _ => none
  | .str a => match b with
   | .str b => match fits (a.length + b.length) with | true => some (.str (a ++ b), st) | false => none
   | _ => none
  | .tup [] => none
  | .tup (x :: a) => match b with
   | .tup (y :: b) => match fits (a.length + b.length) with | true => some (.tup (x :: a ++ y :: b), st) | false => none
   | _ => none
  | a => addLs st m a b
 | .sub => match a, b with | .int a, .int b => some (.int (a - b), st) | _, _ => none
 | .mul => match a with
  | .int a => match b with
   | .int b => match smallI a && smallI b with | true => some (.int (a * b), st) | false => none
   | _ => none
  | .str x => match b with
   | .int b => match nat? b with
    | some k => match Nat.ble k 30 && Nat.ble x.length 30 with | true => some (.str (repN x k), st) | false => none
    | none => none
   | _ => none
  | .list x => match b with
   | .int b => match nat? b with
    | some k => match Nat.ble k 30 && Nat.ble x.length 30 with | true => some (newL m st (repD x k)) | false => none
    | none => none
   | _ => none
  | _ => none
 | .fdiv => match b with
  | .int b => match posI b with
   | true => match a with
    | .int a => some (.int (Int.fdiv a b), st)
    | .num m r => match nat? b with
     | some k => match Nat.beq (m % k) 0 with | true => some (.num (m / k) (r / k), st) | false => none
     | none => none
    | _ => none
   | false => none
  | _ => none
 | .mod => match b with
  | .int b => match posI b with
   | true => match a with
    | .int a => some (.int (Int.fmod a b), st)
    | .num m r => match nat? b with
     | some k => match Nat.beq (m % k) 0 with | true => some (.int (Int.ofNat (r % k)), st) | false => none
     | none => none
    | _ => none
   | false => none
  | _ => none
 | .pow => match a, b with
  | .int a, .int b => match smallI a with
   | true => match eqInt b 2 with
    | true => some (.int (a * a), st)
    | false => match eqInt b 3 with
     | true => some (.int (a * a * a), st)
     | false => none
   | false => none
  | _, _ => none
noncomputable def nthD : List D → Nat → Option D
 | [], _ => none
 | x :: _, 0 => some x
 | _ :: r, n + 1 => nthD r n
noncomputable def setD : List D → Nat → D → Option (List D)
 | [], _, _ => none
 | _ :: r, 0, d => some (d :: r)
 | x :: r, n + 1, d => match setD r n d with | some r => some (x :: r) | none => none
noncomputable def smIdx : D → Bool
 | .int i => smallI i
 | _ => false
noncomputable def idxD (st : St) (o i : D) : Option D := match i with
 | .int i => match o with
  | .tup xs => match nat? i with | some n => nthD xs n | none => none
  | .list xs => match nat? i with | some n => nthD xs n | none => none
  | .ob k => match lk k st.mu with
   | some (_, .list xs) => match nat? i with | some n => nthD xs n | none => none
   | some (_, .dic es) => lkI i es
   | _ => none
  | _ => none
 | _ => none
noncomputable def takeN : Nat → List Nat → List Nat
 | 0, _ => []
 | _, [] => []
 | n + 1, x :: r => x :: takeN n r
noncomputable def dropN : Nat → List Nat → List Nat
 | 0, s => s
 | _, [] => []
 | n + 1, _ :: r => dropN n r
noncomputable def attrD (st : St) (o : D) (i : Nat) : Option D := match o with
 | .inst ds => nthD ds i
 | .self k => match lk k st.mu with
  | some (_, .attrs ds) => nthD ds i
  | _ => none
 | _ => none
noncomputable def takeD : Nat → List D → List D
 | 0, _ => []
 | _, [] => []
 | n + 1, x :: r => x :: takeD n r
noncomputable def sumD : Int → List D → Option Int
 | a, [] => some a
 | a, .int b :: r => match smallI b && smallI (a + b) with | true => sumD (a + b) r | false => none
 | _, _ => none
noncomputable def maxD : Int → List D → Option Int
 | a, [] => some a
 | a, .int b :: r => maxD (match ltInt a b with | true => b | false => a) r
 | _, _ => none
noncomputable def joinD (sep : List Nat) : List D → Option (List Nat)
 | [] => some []
 | [.str s] => some s
 | .str s :: r => match joinD sep r with | some t => some (s ++ sep ++ t) | none => none
 | _ => none
noncomputable def indexD (a : Int) : Nat → List D → Option Nat
 | _, [] => none
 | n, .int b :: r => match eqInt b a with | true => some n | false => indexD a (n + 1) r
 | _, _ => none
noncomputable def zipAdd : List D → List D → Option (List D)
 | [], [] => some []
 | .int a :: r, .int b :: t => match zipAdd r t with | some l => some (.int (a + b) :: l) | none => none
 | _, _ => none
noncomputable def lenI (n : Nat) (st : St) : Option (D × St) := match fits n with | true => some (.int n, st) | false => none
noncomputable def biD (st : St) (b : BI) (as : List D) : Option (D × St) := match b with
 | .len => match as with
  | [.str xs] => lenI xs.length st
  | [.tup xs] => lenI xs.length st
  | [a] => match listOf st a with
   | some xs => lenI xs.length st
   | none => none
  | _ => none
 | .max => match as with
  | [.int a, .int b] => some (.int (match ltInt a b with | true => b | false => a), st)
  | [a] => match listOf st a with
   | some (.int a :: r) => match maxD a r with | some m => some (.int m, st) | none => none
   | _ => none
  | _ => none
 | .sum => match as with
  | [a] => match listOf st a with
   | some xs => match sumD 0 xs with | some m => some (.int m, st) | none => none
   | none => none
  | _ => none
 | .dict => match as with
  | [.ob k] => match lk k st.mu with
   | some (_, .dic es) => match fits es.length with | true => some (newM st (.dic es)) | false => none
   | _ => none
  | _ => none
 | .isTuple => match as with
  | [.tup _] => some (.bool true, st)
  | [.int _] => some (.bool false, st)
  | _ => none
 | .tuple => match as with
  | [a] => match listOf st a with
   | some xs => match fits xs.length with | true => some (.tup xs, st) | false => none
   | none => none
  | _ => none
 | .str => match as with
  | [.int a] => match nat? a with
   | some n => match Nat.blt n 10 with | true => some (.str [48 + n], st) | false => none
   | none => none
  | _ => none
noncomputable def asciiD : List Nat → Bool
 | [] => true
 | c :: r => Nat.blt c 128 && asciiD r
noncomputable def upperL : List Nat → List Nat
 | [] => []
 | c :: r => (match Nat.ble 97 c && Nat.ble c 122 with | true => c - 32 | false => c) :: upperL r
noncomputable def splitD (c : Nat) (s : List Nat) : Option (List Str) :=
 match (decide ((⟨s.toArray⟩ : Str).length < (⟨#[c]⟩ : Str).length) || decide (Builtin.Str.strKind ⟨s.toArray⟩ < Builtin.Str.strKind ⟨#[c]⟩)) with
 | true => none
 | false => match (Builtin.Str.occurrences ⟨s.toArray⟩ ⟨#[c]⟩ 0 (⟨s.toArray⟩ : Str).length ((⟨s.toArray⟩ : Str).length + 1)).isEmpty with
  | true => none
  | false => some (Builtin.Str.partsBetween ⟨s.toArray⟩ (Builtin.Str.occurrences ⟨s.toArray⟩ ⟨#[c]⟩ 0 (⟨s.toArray⟩ : Str).length ((⟨s.toArray⟩ : Str).length + 1)) (⟨#[c]⟩ : Str).length)
noncomputable def setM (st : St) (k : Nat) (f : MO → Option MO) : Option St := match lk k st.mu with
 | some (v, m) => match f m with
  | some m => some ⟨st.n, put k (v + 1, m) st.mu⟩
  | none => none
 | none => none
noncomputable def meD (st : St) (o : D) (m : ME) (as : List D) : Option (D × St) := match m with
 | .append => match o, as with
  | .ob k, [d] => match setM st k fun | .list xs => (match fits xs.length with | true => some (.list (xs ++ [d])) | false => none) | _ => none with
   | some st => some (.none, st)
   | none => none
  | _, _ => none
 | .join => match o, as with
  | .str sep, [.list xs] => match fits sep.length && fits xs.length with
   | true => match joinD sep xs with | some s => (match fits s.length with | true => some (.str s, st) | false => none) | none => none
   | false => none
  | _, _ => none
 | .index => match as with
  | [.int a] => match listOf st o with
   | some xs => match fits xs.length with
    | true => match inInts a xs with
     | some _ => match indexD a 0 xs with | some n => some (.int n, st) | none => none
     | none => none
    | false => none
   | none => none
  | _ => none
 | .split => match o, as with
  | .str s, [.str [c]] => match splitD c s with | some ps => (match fits s.length && fits ps.length with | true => some (.list (ps.map fun p => .str p.cps.toList), st) | false => none) | none => none
  | _, _ => none
 | .upper => match o, as with
  | .str s, [] => match asciiD s && fits s.length with | true => some (.str (upperL s), st) | false => none
  | _, _ => none
noncomputable def meTy (st : St) (o : D) : ME → Bool
 | .append => match o with | .ob k => (match lk k st.mu with | some (_, .list _) => true | _ => false) | _ => false
 | .index => match listOf st o with | some _ => true | none => false
 | .join => match o with | .str _ => true | _ => false
 | .split => match o with | .str _ => true | _ => false
 | .upper => match o with | .str _ => true | _ => false
noncomputable def srcOf (ρ : Env') (st : St) (it : IT) : Option (Src × St) := match it with
 | .val x => match ev ρ st x with
  | some (.list xs, st) => some (.pure xs, st)
  | some (.str s, st) => match asciiD s with | true => some (.pure (s.map fun c => .str [c]), st) | false => none
  | some (.ob k, st) => match lk k st.mu with | some (v, .list _) => some (.mlist k v 0, st) | _ => none
  | _ => none
 | .rng none b => match ev ρ st b with
  | some (.int b, st) => match smallI b with | true => some (.rng 0 b, st) | false => none
  | _ => none
 | .rng (some a) b => match ev ρ st a with
  | some (.int a, st) => match ev ρ st b with
   | some (.int b, st) => match smallI a && smallI b with | true => some (.rng a b, st) | false => none
   | _ => none
  | _ => none
 | .items x => match ev ρ st x with
  | some (.ob k, st) => match lk k st.mu with | some (v, .dic _) => some (.items k v 0, st) | _ => none
  | _ => none
noncomputable def nextS (st : St) : Src → Option (Option (D × Src))
 | .pure [] => some none
 | .pure (x :: r) => some (some (x, .pure r))
 | .rng a b => match ltInt a b with | true => some (some (.int a, .rng (a + 1) b)) | false => some none
 | .mlist k v i => match lk k st.mu with
  | some (u, .list xs) => match Nat.beq u v with
   | true => match nthD xs i with
    | some d => some (some (d, .mlist k v (i + 1)))
    | none => some none
   | false => none
  | _ => none
 | .items k v i => match lk k st.mu with
  | some (u, .dic es) => match Nat.beq u v with
   | true => match es[i]? with
    | some (a, d) => some (some (.tup [.int a, d], .items k v (i + 1)))
    | none => some none
   | false => none
  | _ => none
noncomputable def bindL : List Nat → List D → Env' → Option Env'
 | [], [], ρ => some ρ
 | i :: r, d :: t, ρ => bindL r t (put i (some d) ρ)
 | _, _, _ => none
noncomputable def bindT (t : Tgt) (d : D) (ρ : Env') : Option Env' := match t with
 | .var i => some (put i (some d) ρ)
 | .tup is => match d with
  | .tup ds => bindL is ds ρ
  | _ => none
noncomputable def tests (ρ : Env') : St → List X → Option (Bool × St)
 | st, [] => some (true, st)
 | st, x :: r => match ev ρ st x with
  | some (.bool true, st) => tests ρ st r
  | some (.bool false, st) => some (false, st)
  | _ => none
noncomputable def turns (t : Tgt) (ifs : List X) (emit : Env' → St → MO → Option (MO × Env' × St)) : Nat → Env' → St → Src → MO → Option (MO × Env' × St)
 | 0, _, _, _, _ => none
 | f + 1, ρ, st, src, acc => match nextS st src with
  | none => none
  | some none => some (acc, ρ, st)
  | some (some (d, src)) => match bindT t d ρ with
   | none => none
   | some ρ => match tests ev ρ st ifs with
    | some (true, st) => match emit ρ st acc with
     | some (acc, ρ, st) => turns t ifs emit f ρ st src acc
     | none => none
    | some (false, st) => turns t ifs emit f ρ st src acc
    | none => none
noncomputable def emit1 (elt : X) (ρ : Env') (st : St) (acc : MO) : Option (MO × Env' × St) := match ev ρ st elt with
 | some (d, st) => match acc with
  | .list xs => match fits xs.length with | true => some (.list (xs ++ [d]), ρ, st) | false => none
  | _ => none
 | none => none
noncomputable def emitD (k v : X) (ρ : Env') (st : St) (acc : MO) : Option (MO × Env' × St) := match ev ρ st k with
 | some (.int a, st) => match ev ρ st v with
  | some (d, st) => match acc with
   | .dic es => match fits es.length with | true => some (.dic (putI a d es), ρ, st) | false => none
   | _ => none
  | none => none
 | _ => none
noncomputable def emit2 (elt : X) (t2 : Tgt) (it2 : IT) (ifs : List X) (ρ : Env') (st : St) (acc : MO) : Option (MO × Env' × St) := match srcOf ev ρ st it2 with
 | some (src, st) => turns ev t2 ifs (emit1 ev elt) 1000 ρ st src acc
 | none => none
noncomputable def hide (own : List Nat) (ρ : Env') : Env' := match own with
 | [] => ρ
 | i :: r => (i, none) :: hide r ρ
noncomputable def atCode (c : Nat) (st : St) : Bool := match lk 0 st.mu with
 | some (_, .inst fs) => (match lk c fs with | some _ => true | none => false)
 | _ => false
noncomputable def atKey (i c : Nat) (st : St) : Bool := match lk i st.mu with
 | some (_, .inst fs) => (match lk c fs with | some _ => true | none => false)
 | _ => false
noncomputable def evStep : Ev := fun ρ st x => match x with
 | .kint i => some (.int i, st)
 | .kstr s => some (.str s, st)
 | .kbool b => some (.bool b, st)
 | .knone => some (.none, st)
 | .var i => match lk i ρ with | some (some d) => some (d, st) | _ => none
 | .bin o m a b => match ev ρ st a with
  | some (a, st) => match ev ρ st b with
   | some (b, st) => binD st o m a b
   | none => none
  | none => none
 | .cmp a o b => match ev ρ st a with
  | some (a, st) => match ev ρ st b with
   | some (b, st) => match cmpD T st o a b with | some r => some (.bool r, st) | none => none
   | none => none
  | none => none
 | .cmp2 a o b o2 c => match ev ρ st a with
  | some (a, st) => match ev ρ st b with
   | some (b, st) => match cmpD T st o a b with
    | some true => match ev ρ st c with
     | some (c, st) => match cmpD T st o2 b c with | some r => some (.bool r, st) | none => none
     | none => none
    | some false => some (.bool false, st)
    | none => none
   | none => none
  | none => none
 | .and_ a b => match ev ρ st a with
  | some (.bool true, st) => ev ρ st b
  | some (.bool false, st) => some (.bool false, st)
  | _ => none
 | .ite c a b => match ev ρ st c with
  | some (.bool true, st) => ev ρ st a
  | some (.bool false, st) => ev ρ st b
  | _ => none
 | .fn k args => match evL ev ρ st args with
  | some (ds, st) => match T.fns k with
   | some (ps, body) => match bindL ps ds [] with
    | some ρ' => match ex ρ' st body with
     | some (.ret d, _, st) => some (d, st)
     | some (.next, _, st) => some (.none, st)
     | _ => none
    | none => none
   | none => none
  | none => none
 | .sm k args => match evL ev ρ st args with
  | some (ds, st) => match T.sms k ds with
   | some d => match T.tabs k with
    | true => match atKey 1 1 st with
     | true => match setM st 1 some with | some st => some (d, st) | none => none
     | false => none
    | false => some (d, st)
   | none => none
  | none => none
 | .bi b args => match evL ev ρ st args with
  | some (ds, st) => biD st b ds
  | none => none
 | .meth o m args => match ev ρ st o with
  | some (o, st) => match meTy st o m with
   | true => match evL ev ρ st args with
    | some (ds, st) => meD st o m ds
    | none => none
   | false => none
  | none => none
 | .idx o i => match ev ρ st o with
  | some (o, st) => match ev ρ st i with
   | some (i, st) => match smIdx i with
    | true => match idxD st o i with | some d => some (d, st) | none => none
    | false => none
   | none => none
  | none => none
 | .slcTo o hi => match ev ρ st o with
  | some (o, st) => match ev ρ st hi with
   | some (.int h, st) => match listOf st o, nat? h with
    | some xs, some n => match fits xs.length with | true => some (.list (takeD n xs), st) | false => none
    | _, _ => none
   | _ => none
  | none => none
 | .list m xs => match evL ev ρ st xs with
  | some (ds, st) => match fits ds.length with | true => some (newL m st ds) | false => none
  | none => none
 | .tup xs => match evL ev ρ st xs with
  | some (ds, st) => match fits ds.length with | true => some (.tup ds, st) | false => none
  | none => none
 | .dict0 => some (newM st (.dic []))
 | .lcomp m elt t it ifs own => match srcOf ev ρ st it with
  | some (src, st) => match turns ev t ifs (emit1 ev elt) 1000 (hide own ρ) st src (.list []) with
   | some (.list ds, _, st) => some (newL m st ds)
   | _ => none
  | none => none
 | .lcomp2 m elt t it t2 it2 ifs own => match srcOf ev ρ st it with
  | some (src, st) => match turns ev t [] (emit2 ev elt t2 it2 ifs) 1000 (hide own ρ) st src (.list []) with
   | some (.list ds, _, st) => some (newL m st ds)
   | _ => none
  | none => none
 | .dcomp k v t it own => match srcOf ev ρ st it with
  | some (src, st) => match turns ev t [] (emitD ev k v) 1000 (hide own ρ) st src (.dic []) with
   | some (.dic es, _, st) => some (newM st (.dic es))
   | _ => none
  | none => none
 | .tupSum a b => match ev ρ st a with
  | some (.tup xs, st) => match ev ρ st b with
   | some (.tup ys, st) => match zipAdd xs ys with
    | some l => match fits l.length && atCode T.code st with
     | true => match setM st 0 some with | some st => some (.tup l, st) | none => none
     | false => none
    | none => none
   | _ => none
  | _ => none
 | .attr o i => match ev ρ st o with
  | some (o, st) => match attrD st o i with | some d => some (d, st) | none => none
  | none => none
 | .clsAttr i => match i with
  | 0 => some (.str [32], st)
  | 1 => some (.str [9], st)
  | _ => none
 | .mcall o k args => match ev ρ st o with
  | some (.inst fs, st) => match evL ev ρ st args with
   | some (ds, st) => match T.mfns k with
    | some (ps, body) => match bindL ps (.inst fs :: ds) [] with
     | some ρ' => match ex ρ' st body with
      | some (.ret d, _, st) => some (d, st)
      | some (.next, _, st) => some (.none, st)
      | _ => none
     | none => none
    | none => none
   | none => none
  | _ => none
 | .msm o k args => match ev ρ st o with
  | some (o, st) => match evL ev ρ st args with
   | some (ds, st) => match T.msms k (o :: ds) with | some d => some (d, st) | none => none
   | none => none
  | none => none
 | .new args => match evL ev ρ st args with
  | some (ds, st) => match T.ini with
   | some (ps, body) => match bindL ps (.self st.n :: ds) [] with
    | some ρ' => match ex ρ' (newM st (.attrs [])).2 body with
     | some (.next, _, st') => some (.self st.n, st')
     | _ => none
    | none => none
   | none => none
  | none => none
 | .mac k i => match lk i ρ with
  | some (some d) => match T.macs k d with | some d => some (d, st) | none => none
  | _ => none
 | .search x => match ev ρ st x with
  | some (.str s, st) => match T.found s with | some (b, e) => some (.mtch s b e, st) | none => none
  | _ => none
 | .span0 x => match ev ρ st x with
  | some (.mtch _ b e, st) => some (.tup [.int (Int.ofNat b), .int (Int.ofNat e)], st)
  | _ => none
 | .group1 x => match ev ρ st x with
  | some (.mtch s b e, st) => match fits s.length with | true => some (.str (s.toArray.extract (b + 1) e).toList, st) | false => none
  | _ => none
 | .mstr x => match ev ρ st x with
  | some (.mtch s _ _, st) => some (.str s, st)
  | _ => none
 | .strTo o hi => match ev ρ st o with
  | some (.str s, st) => match ev ρ st hi with
   | some (.int h, st) => match nat? h with
    | some _ => match fits s.length && smallI h with | true => some (.str (Txt.slice ⟨s.toArray⟩ none (some h)).cps.toList, st) | false => none
    | none => none
   | _ => none
  | _ => none
 | .strFrom o lo => match ev ρ st o with
  | some (.str s, st) => match ev ρ st lo with
   | some (.int h, st) => match nat? h with
    | some _ => match fits s.length && smallI h with | true => some (.str (Txt.slice ⟨s.toArray⟩ (some h) none).cps.toList, st) | false => none
    | none => none
   | _ => none
  | _ => none
 | .isOrEq a b => match lk a ρ with
  | some (some (.tstr j)) => match lk b ρ with
   | some (some (.tstr k)) => match T.same j k with | some r => some (.bool r, st) | none => none
   | _ => none
  | _ => none
noncomputable def storeSub (st : St) (o i d : D) : Option St := match o, i with
 | .ob k, .int i => setM st k fun
  | .dic es => match fits es.length with | true => some (.dic (putI i d es)) | false => none
  | .list xs => match nat? i with
   | some n => match setD xs n d with | some ys => some (.list ys) | none => none
   | none => none
  | _ => none
 | _, _ => none
noncomputable def putAll (d : D) : List Nat → Env' → Env'
 | [], ρ => ρ
 | i :: r, ρ => putAll d r (put i (some d) ρ)
noncomputable def loop (t : Tgt) (body : List Y) (orelse : Bool) : Nat → Env' → St → Src → Option (Fl × Env' × St)
 | 0, _, _, _ => none
 | f + 1, ρ, st, src => match nextS st src with
  | none => none
  | some none => match orelse with | true => none | false => some (.next, ρ, st)
  | some (some (d, src)) => match bindT t d ρ with
   | none => none
   | some ρ => match ex ρ st body with
    | some (.next, ρ, st) => loop t body orelse f ρ st src
    | some (.brk, ρ, st) => some (.next, ρ, st)
    | some (.ret d, ρ, st) => some (.ret d, ρ, st)
    | none => none
noncomputable def loopE (i j : Nat) (body : List Y) (orelse : Bool) : Nat → Env' → St → List D → Option (Fl × Env' × St)
 | _, ρ, st, [] => match orelse with | true => none | false => some (.next, ρ, st)
 | k, ρ, st, d :: r => match bindL [i, j] [.int (k : Int), d] ρ with
  | none => none
  | some ρ => match ex ρ st body with
   | some (.next, ρ, st) => loopE i j body orelse (k + 1) ρ st r
   | some (.brk, ρ, st) => some (.next, ρ, st)
   | some (.ret d, ρ, st) => some (.ret d, ρ, st)
   | none => none
noncomputable def ex1 (ρ : Env') (st : St) : Y → Option (Fl × Env' × St)
 | .asg t e => match ev ρ st e with
  | some (d, st) => match t with
   | .var i => some (.next, put i (some d) ρ, st)
   | .tup is => match d with
    | .tup ds => match bindL is ds ρ with | some ρ => some (.next, ρ, st) | none => none
    | _ => none
   | .sub o i => match ev ρ st o with
    | some (o, st) => match ev ρ st i with
     | some (i, st) => match smIdx i with
      | true => match storeSub st o i d with | some st => some (.next, ρ, st) | none => none
      | false => none
     | none => none
    | none => none
  | none => none
 | .augSub o i e => match ev ρ st o with
  | some (o, st) => match ev ρ st i with
   | some (i, st) => match smIdx i with
    | true => match idxD st o i with
     | some old => match ev ρ st e with
      | some (d, st) => match old, d with
       | .int a, .int b => match storeSub st o i (.int (a + b)) with | some st => some (.next, ρ, st) | none => none
       | _, _ => none
      | none => none
     | none => none
    | false => none
   | none => none
  | none => none
 | .asgAttr o i e => match ev ρ st e with
  | some (d, st) => match ev ρ st o with
   | some (.self k, st) => match setM st k fun
     | .attrs ds => (match Nat.beq i ds.length && Nat.blt i 5 with | true => some (.attrs (ds ++ [d])) | false => none)
     | _ => none with
    | some st => some (.next, ρ, st)
    | none => none
   | _ => none
  | none => none
 | .asg2 o1 i1 o2 i2 e => match ev ρ st e with
  | some (.tup [d1, d2], st) => match ev ρ st o1 with
   | some (a1, st) => match ev ρ st i1 with
    | some (b1, st) => match smIdx b1 with
     | true => match storeSub st a1 b1 d1 with
      | some st => match ev ρ st o2 with
       | some (a2, st) => match ev ρ st i2 with
        | some (b2, st) => match smIdx b2 with
         | true => match storeSub st a2 b2 d2 with | some st => some (.next, ρ, st) | none => none
         | false => none
        | none => none
       | none => none
      | none => none
     | false => none
    | none => none
   | none => none
  | _ => none
 | .asgMany is e => match ev ρ st e with
  | some (d, st) => some (.next, putAll d is ρ, st)
  | none => none
 | .augVar i e => match lk i ρ with
  | some (some (.str a)) => match ev ρ st e with
   | some (.str b, st) => match fits (a.length + b.length) with
    | true => some (.next, put i (some (.str (a ++ b))) ρ, st)
    | false => none
   | _ => none
  | _ => none
 | .expr e => match ev ρ st e with
  | some (.none, st) => some (.next, ρ, st)
  | _ => none
 | .ret e => match ev ρ st e with
  | some (d, st) => some (.ret d, ρ, st)
  | none => none
 | .if_ c a b => match ev ρ st c with
  | some (.bool true, st) => ex ρ st a
  | some (.bool false, st) => ex ρ st b
  | _ => none
 | .for_ t it body orelse => match srcOf ev ρ st it with
  | some (src, st) => loop ex t body orelse 1000 ρ st src
  | none => none
 | .forE i j x body orelse => match ev ρ st x with
  | some (.list xs, st) => loopE ex i j body orelse 0 ρ st xs
  | _ => none
 | .brk => some (.brk, ρ, st)
noncomputable def exL : Env' → St → List Y → Option (Fl × Env' × St)
 | ρ, st, [] => some (.next, ρ, st)
 | ρ, st, y :: r => match ex1 ev ex ρ st y with
  | some (.next, ρ, st) => exL ρ st r
  | r => r
end
noncomputable def run (T : Tab) : Nat → Ev × Ex
 | 0 => (fun j j j => none, fun j j j => none)
 | n + 1 => (evStep T (run T n).1 (run T n).2, exL (run T n).1 (run T n).2)
end Mine
end
noncomputable section
open PySem
namespace Mine
noncomputable def fn0_ne : List Nat × List Y := ([0, 1], [(.ret (.cmp (.var 0) .ne (.var 1)))])
noncomputable def fn1_eq : List Nat × List Y := ([0, 1], [(.ret (.cmp (.var 0) .eq (.var 1)))])
noncomputable def fn2_mul : List Nat × List Y := ([0, 1], [(.ret (.bin .mul false (.var 0) (.var 1)))])
noncomputable def fn3_contains : List Nat × List Y := ([0, 1], [(.ret (.cmp (.var 1) .in_ (.var 0)))])
noncomputable def fn5_add_func_stats : List Nat × List Y := ([2, 3], [(.asg (.tup [4, 5, 6, 7, 8]) (.var 3)),
 (.asg (.tup [9, 10, 11, 12, 13]) (.var 2)),
 (.ret (.tup [(.bin .add false (.var 4) (.var 9)), (.bin .add false (.var 5) (.var 10)), (.bin .add false (.var 6) (.var 11)), (.bin .add false (.var 7) (.var 12)), (.fn 6 [(.var 13), (.var 8)])]))])
noncomputable def fn6_add_callers : List Nat × List Y := ([2, 3], [(.asg (.var 14) .dict0),
 (.for_ (.tup [15, 16]) (.items (.var 2)) [(.asg (.sub (.var 14) (.var 15)) (.var 16))] false),
 (.for_ (.tup [15, 16]) (.items (.var 3)) [(.if_ (.cmp (.var 15) .in_ (.var 14)) [(.if_ (.bi .isTuple [(.var 16)]) [(.asg (.sub (.var 14) (.var 15)) (.tupSum (.var 16) (.idx (.var 14) (.var 15))))] [(.augSub (.var 14) (.var 15) (.var 16))])] [(.asg (.sub (.var 14) (.var 15)) (.var 16))])] false),
 (.ret (.var 14))])
noncomputable def fn7_law_rows : List Nat × List Y := ([], [(.asg (.var 17) (.list false [(.list false [])])),
 (.for_ (.var 18) (.rng none (.kint 4)) [(.asg (.var 17) (.lcomp2 false (.bin .add false (.var 19) (.list false [(.var 20)])) (.var 19) (.val (.var 17)) (.var 20) (.rng none (.kint 4)) [(.cmp (.var 20) .nin (.var 19))] [19, 20]))] false),
 (.ret (.lcomp false (.var 19) (.var 19) (.val (.var 17)) [(.cmp (.bin .mod false (.bi .len [(.lcomp2 false (.var 21) (.var 21) (.rng none (.kint 4)) (.var 22) (.rng none (.var 21)) [(.cmp (.idx (.var 19) (.var 22)) .gt (.idx (.var 19) (.var 21)))] [21, 22])]) (.kint 2)) .eq (.kint 0))] [19]))])
noncomputable def fn8_law_words : List Nat × List Y := ([23], [(.asg (.var 24) (.lcomp false (.bi .str [(.var 25)]) (.tup [25, 26, 27]) (.val (.var 23)) [] [25, 26, 27])),
 (.ret (.bin .add false (.ite (.cmp (.bi .len [(.var 24)]) .gt (.kint 1)) (.kstr [97, 116, 32, 116, 97, 98, 32, 115, 105, 122, 101, 115, 32]) (.kstr [97, 116, 32, 116, 97, 98, 32, 115, 105, 122, 101, 32])) (.meth (.kstr [44, 32]) .join [(.var 24)])))])
noncomputable def fn9_law_witnesses : List Nat × List Y := ([21, 28], [(.asg (.var 29) (.bin .add false (.kint 2) (.bi .max [(.idx (.var 21) (.kint 0)), (.idx (.var 28) (.kint 0))]))),
 (.ret (.lcomp false (.tup [(.var 25), (.idx (.var 21) (.var 25)), (.idx (.var 28) (.var 25))]) (.var 25) (.rng (some (.kint 1)) (.var 29)) [(.cmp (.idx (.var 21) (.var 25)) .ge (.idx (.var 28) (.var 25)))] [25]))])
noncomputable def fn10_law_column : List Nat × List Y := ([30, 25], [(.asg (.var 26) (.kint 0)),
 (.for_ (.var 31) (.val (.var 30)) [(.asg (.var 26) (.ite (.cmp (.var 31) .eq (.kstr [32])) (.bin .add false (.var 26) (.kint 1)) (.bin .mul false (.bin .add false (.bin .fdiv false (.var 26) (.var 25)) (.kint 1)) (.var 25))))] false),
 (.ret (.var 26))])
noncomputable def law3 : Y := (.asg (.var 37) (.lcomp2 false (.tup [(.var 21), (.var 28)]) (.var 21) (.rng none (.kint 4)) (.var 28) (.rng none (.kint 4)) [(.cmp (.var 21) .ne (.var 28))] [21, 28]))
noncomputable def law4 : Y := (.asg (.tup [38, 39]) (.tup [.dict0, .dict0]))
noncomputable def law6 : Y := (.if_ (.cmp (.var 38) .ne (.var 39)) [(.ret (.kbool false))] [])
noncomputable def law7 : Y := (.asg (.var 40) (.lcomp false (.lcomp false (.var 1) (.tup [0, 1]) (.val (.var 37)) [(.and_ (.cmp (.var 0) .eq (.var 21)) (.and_ (.cmp (.fn 0 [(.idx (.var 38) (.bin .add false (.bin .mul false (.kint 4) (.var 0)) (.var 1))), (.kstr [97, 116, 32, 116, 97, 98, 32, 115, 105, 122, 101, 32])]) .is (.kbool true)) (.cmp (.fn 0 [(.idx (.var 38) (.bin .add false (.bin .mul false (.kint 4) (.var 1)) (.var 0))), (.kstr [97, 116, 32, 116, 97, 98, 32, 115, 105, 122, 101, 32])]) .is (.kbool true))))] [0, 1]) (.var 21) (.rng none (.kint 4)) [] [21]))
noncomputable def law8 : Y := (.asg (.var 41) (.lcomp false (.lcomp false (.var 1) (.tup [0, 1]) (.val (.var 37)) [(.and_ (.cmp (.var 0) .eq (.var 21)) (.cmp2 (.idx (.var 39) (.bin .add false (.bin .mul false (.kint 4) (.var 0)) (.var 1))) .ne (.kstr [97, 116, 32, 116, 97, 98, 32, 115, 105, 122, 101, 32]) .ne (.idx (.var 39) (.bin .add false (.bin .mul false (.kint 4) (.var 1)) (.var 0)))))] [0, 1]) (.var 21) (.rng none (.kint 4)) [] [21]))
noncomputable def law9 : Y := (.asg (.tup [42, 43, 44]) (.tup [(.list false [(.kstr [37, 99, 65]), (.kstr [37, 67, 98]), (.kstr [37, 100, 67]), (.kstr [37, 68, 100])]), (.tup [(.kint 0), (.kint 0), (.kint 0), (.kint 0), .dict0]), (.list true [])]))
noncomputable def law10 : Y := (.for_ (.var 45) (.val (.fn 7 [])) [(.asg (.var 19) (.sm 0 [(.bin .add false (.meth (.kstr [37, 103]) .join [(.lcomp false (.idx (.var 42) (.var 20)) (.var 20) (.val (.var 45)) [] [20])]) (.idx (.var 42) (.idx (.var 45) (.kint 0))))])),
 (.if_ (.cmp (.var 19) .ne (.bin .add false (.var 45) (.list false [(.bin .add false (.kstr [37, 103, 37, 103, 37, 103]) (.idx (.var 42) (.idx (.var 45) (.kint 0))))]))) [(.ret (.kbool false))] []),
 (.asg (.var 46) (.lcomp false (.idx (.var 19) (.var 22)) (.var 22) (.rng none (.kint 4)) [(.cmp (.lcomp false (.var 47) (.var 47) (.val (.slcTo (.var 19) (.var 22))) [(.fn 3 [(.idx (.var 40) (.idx (.var 19) (.var 22))), (.var 47)])] [47]) .eq (.list false []))] [22])),
 (.asg (.tup [33, 8]) (.tup [(.bi .len [(.var 46)]), (.dcomp (.var 20) (.bin .add false (.kint 1) (.var 20)) (.var 20) (.val (.var 46)) [20])])),
 (.asg (.sub (.var 8) (.kint 4)) (.tup [(.var 33), (.kint 1), (.idx (.var 19) (.kint 0))])),
 (.asg (.tup [48, 49]) (.tup [(.var 43), (.list false [(.bi .dict [(.idx (.var 43) (.kint 4))]), (.bi .dict [(.var 8)])])])),
 (.asg (.var 43) (.fn 5 [(.var 43), (.tup [(.kint 1), (.var 33), (.fn 2 [(.var 33), (.var 33)]), (.fn 2 [(.var 33), (.fn 2 [(.var 33), (.var 33)])]), (.var 8)])])),
 (.if_ (.cmp (.list false [(.idx (.var 48) (.kint 4)), (.var 8)]) .ne (.var 49)) [(.ret (.kbool false))] []),
 (.expr (.meth (.var 44) .append [(.bi .len [(.lcomp false (.var 21) (.var 21) (.rng none (.kint 4)) [(.cmp (.lcomp false (.var 1) (.var 1) (.val (.idx (.var 41) (.var 21))) [(.cmp (.meth (.var 45) .index [(.var 1)]) .lt (.meth (.var 45) .index [(.var 21)]))] [1]) .eq (.list false []))] [21])])]))] false)
noncomputable def law11 : Y := (.asg (.var 50) (.tup [(.kint 12), (.bi .sum [(.var 44)]), (.bi .sum [(.lcomp false (.bin .pow false (.var 33) (.kint 2)) (.var 33) (.val (.var 44)) [] [33])]), (.bi .sum [(.lcomp false (.bin .pow false (.var 33) (.kint 3)) (.var 33) (.val (.var 44)) [] [33])])]))
noncomputable def law12 : Y := (.asg (.var 51) (.dcomp (.var 21) (.bin .fdiv false (.bin .mul false (.bin .add false (.kint 1) (.var 21)) (.kint 12)) (.bin .add false (.kint 1) (.bi .len [(.idx (.var 41) (.var 21))]))) (.var 21) (.rng none (.kint 4)) [21]))
noncomputable def law13 : Y := (.asg (.sub (.var 51) (.kint 4)) (.tup [(.bi .sum [(.var 44)]), (.kint 12), (.kint 18)]))
noncomputable def law14 : Y := (.if_ (.cmp (.var 43) .ne (.bin .add false (.var 50) (.tup [(.var 51)]))) [(.ret (.kbool false))] [])
noncomputable def law15 : Y := (.asg (.var 52) (.cmp (.lcomp false (.var 0) (.tup [0, 1]) (.val (.var 37)) [(.and_ (.cmp (.var 1) .in_ (.idx (.var 41) (.var 0))) (.cmp (.lcomp false (.var 53) (.var 53) (.val (.idx (.var 41) (.var 1))) [(.and_ (.cmp (.var 53) .ne (.var 0)) (.cmp (.var 53) .nin (.idx (.var 41) (.var 0))))] [53]) .ne (.list false [])))] [0, 1]) .eq (.list false [])))
noncomputable def law16 : Y := (.ret (.cmp (.fn 1 [(.fn 2 [(.idx (.var 43) (.kint 0)), (.idx (.var 43) (.kint 2))]), (.fn 2 [(.idx (.var 43) (.kint 1)), (.idx (.var 43) (.kint 1))])]) .is (.var 52)))
end Mine
end
noncomputable section
open PySem PySem.W PyProof.Rows PySem.Spec PySem.Calls
namespace Mine
class Val where
 cls : Addr
 dat : Nat → D
 txt : Nat → List Nat
 tok : Nat → Tok
 opq : Nat → Value
 opqH : ∀ k, handedOut (opq k) = pure (opq k)
 room : Nat
 code : Nat → Addr
 refl : ∀ k st f, 16 ≤ k → 4 ≤ f → eqD st f (dat k) (dat k) = some true
noncomputable def nmA : Nat → Str
 | 0 => "raw" | 1 => "n" | 2 => "nt" | 3 => "norm" | _ => "is_simple"
noncomputable def nmC : Nat → Str
 | 0 => "S" | _ => "T"
noncomputable def ltC : Nat → Nat
 | 0 => 32 | _ => 9
noncomputable def attrFrom : Nat → List Value → Str → Option Value
 | _, [], _ => none
 | i, v :: r, x => if x = nmA i then some v else attrFrom (i + 1) r x
variable [Val]
noncomputable def InstAt (h : Heap) (a dx : Addr) : Prop := ∃ o, h.get? a = some o ∧ o.cls = .ref Val.cls ∧ (∀ c, o.data ≠ .cls c) ∧ o.dict = some dx ∧ dx ≠ a
omit [Val] in
noncomputable def MtchAt (h : Heap) (a tp : Addr) (s : List Nat) (b e : Nat) : Prop := ∃ t pat x2 x3 x4, h.get? a = some { cls := .type "re.Match", data := .fields #[.str ⟨s.toArray⟩ t, pat, x2, x3, x4, .ref tp] } ∧
 h.get? tp = some { cls := .type "tuple", data := .seq #[rawInt b, rawInt e, rawInt (b + 1 : Nat), rawInt e] }
mutual
inductive RD (al fr : List Addr) (h : Heap) : Value → D → Prop
 | none : RD al fr h .none .none
 | bool (b : Bool) : RD al fr h (.bool b) (.bool b)
 | int (i : Int) (t : Tok) : RD al fr h (.int i t) (.int i)
 | str (s : List Nat) (t : Tok) : RD al fr h (.str ⟨s.toArray⟩ t) (.str s)
 | word (x : List Nat) (t : Tok) (b : Bool) : eqL x wordL = b → RD al fr h (.str ⟨x.toArray⟩ t) (.word b)
 | list (a : Addr) (vs : List Value) (ds : List D) : a ∉ al → a ∉ fr → h.PlainList a vs.toArray → RDs al fr h vs ds → RD al fr h (.ref a) (.list ds)
 | tup (a : Addr) (vs : List Value) (ds : List D) : a ∉ al → a ∉ fr → h.IsTuple a vs.toArray → RDs al fr h vs ds → RD al fr h (.ref a) (.tup ds)
 | ob (k : Nat) (a : Addr) : al[k]? = some a → RD al fr h (.ref a) (.ob k)
 | sym (v : Value) (k : Nat) : RD al fr h v (Val.dat k) → RD al fr h v (.sym k)
 | tstr (x : List Nat) (t : Tok) (k : Nat) : x = Val.txt k → t = Val.tok k → RD al fr h (.str ⟨x.toArray⟩ t) (.tstr k)
 | opq (v : Value) (k : Nat) : v = Val.opq k → RD al fr h v (.opq k)
 | num (i : Int) (t : Tok) (m r : Nat) : i % (m : Int) = (r : Int) → RD al fr h (.int i t) (.num m r)
 | self (a dx : Addr) (k : Nat) : a ∉ al → a ∉ fr → InstAt h a dx → al[k]? = some dx → RD al fr h (.ref a) (.self k)
 | inst (a dx : Addr) (vs : List Value) (ds : List D) : a ∉ al → a ∉ fr → dx ∉ al → dx ∉ fr → InstAt h a dx → h.Ns1 dx (attrFrom 0 vs) → RDs al fr h vs ds → RD al fr h (.ref a) (.inst ds)
 | mtch (a tp : Addr) (s : List Nat) (b e : Nat) : a ∉ al → a ∉ fr → tp ∉ al → tp ∉ fr → MtchAt h a tp s b e → RD al fr h (.ref a) (.mtch s b e)
inductive RDs (al fr : List Addr) (h : Heap) : List Value → List D → Prop
 | nil : RDs al fr h [] []
 | cons {v : Value} {d : D} {vs : List Value} {ds : List D} : RD al fr h v d → RDs al fr h vs ds → RDs al fr h (v :: vs) (d :: ds)
end
noncomputable def RDi (al fr : List Addr) (h : Heap) (v : Value) : D → Prop
 | .none => v = .none
 | .bool b => v = .bool b
 | .int i => ∃ t, v = .int i t
 | .str s => ∃ t, v = .str ⟨s.toArray⟩ t
 | .word b => ∃ x t, v = .str ⟨x.toArray⟩ t ∧ eqL x wordL = b
 | .list ds => ∃ a vs, v = .ref a ∧ a ∉ al ∧ a ∉ fr ∧ h.PlainList a vs.toArray ∧ RDs al fr h vs ds
 | .tup ds => ∃ a vs, v = .ref a ∧ a ∉ al ∧ a ∉ fr ∧ h.IsTuple a vs.toArray ∧ RDs al fr h vs ds
 | .ob k => ∃ a, v = .ref a ∧ al[k]? = some a
 | .sym k => RD al fr h v (Val.dat k)
 | .tstr k => ∃ x t, v = .str ⟨x.toArray⟩ t ∧ x = Val.txt k ∧ t = Val.tok k
 | .opq k => v = Val.opq k
 | .num m r => ∃ i t, v = .int i t ∧ i % (m : Int) = (r : Int)
 | .self k => ∃ a dx, v = .ref a ∧ a ∉ al ∧ a ∉ fr ∧ InstAt h a dx ∧ al[k]? = some dx
 | .inst ds => ∃ a dx vs, v = .ref a ∧ a ∉ al ∧ a ∉ fr ∧ dx ∉ al ∧ dx ∉ fr ∧ InstAt h a dx ∧ h.Ns1 dx (attrFrom 0 vs) ∧ RDs al fr h vs ds
 | .mtch s b e => ∃ a tp, v = .ref a ∧ a ∉ al ∧ a ∉ fr ∧ tp ∉ al ∧ tp ∉ fr ∧ MtchAt h a tp s b e
section
variable {al fr al' fr' : List Addr} {h h' : Heap}
theorem RD.to {v : Value} {d : D} (r : RD al fr h v d) : RDi al fr h v d := by
 cases r with
 | none => rfl
 | bool => rfl
 | int i t => exact ⟨t, rfl⟩
 | str s t => exact ⟨t, rfl⟩
 | word x t b e => exact ⟨x, t, rfl, e⟩
 | list a vs ds n1 n2 hl r => exact ⟨a, vs, rfl, n1, n2, hl, r⟩
 | tup a vs ds n1 n2 hl r => exact ⟨a, vs, rfl, n1, n2, hl, r⟩
 | ob k a e => exact ⟨a, rfl, e⟩
 | sym v k r => exact r
 | tstr x t k e1 e2 => exact ⟨x, t, rfl, e1, e2⟩
 | opq v k e => exact e
 | num i t m r e => exact ⟨i, t, rfl, e⟩
 | self a dx k n1 n2 hi e => exact ⟨a, dx, rfl, n1, n2, hi, e⟩
 | inst a dx vs ds n1 n2 m1 m2 hi hn r => exact ⟨a, dx, vs, rfl, n1, n2, m1, m2, hi, hn, r⟩
 | mtch a tp s b e n1 n2 m1 m2 hm => exact ⟨a, tp, rfl, n1, n2, m1, m2, hm⟩
noncomputable def RDsi (al fr : List Addr) (h : Heap) (vs : List Value) : List D → Prop
 | [] => vs = []
 | d :: ds => ∃ v us, vs = v :: us ∧ RD al fr h v d ∧ RDs al fr h us ds
theorem RDs.to {vs : List Value} {ds : List D} (r : RDs al fr h vs ds) : RDsi al fr h vs ds := by
 cases r with
 | nil => rfl
 | cons a r => exact ⟨_, _, rfl, a, r⟩
theorem RDs.to1 {vs : List Value} {d : D} (r : RDs al fr h vs [d]) : ∃ v, vs = [v] ∧ RD al fr h v d := by
 refine x23 r.to ?_
 try clear r
 intro v us eq2 a r
 subst eq2
 have := r.to
 subst this
 exact (m12 v rfl a)
theorem RDs.to2 {vs : List Value} {d e : D} (r : RDs al fr h vs [d, e]) : ∃ v u, vs = [v, u] ∧ RD al fr h v d ∧ RD al fr h u e := by
 refine x23 r.to ?_
 try clear r
 intro v us eq2 a r
 subst eq2
 refine x12 r.to1 ?_
 intro u eq1 b
 subst eq1
 exact (m23 v u rfl a b)
theorem tuple_mono {a : Addr} {vs : List Value} (H : h.IsTuple a vs.toArray) (k : ∀ o, h.get? a = some o → h'.get? a = some o) : h'.IsTuple a vs.toArray :=
 let ⟨o, ho, r⟩ := H; ⟨o, k o ho, r⟩
theorem RD.mono0 (k : ∀ b o, b ∉ al → b ∉ fr → h.get? b = some o → h'.get? b = some o ∧ b ∉ al' ∧ b ∉ fr') (p : ∀ (k : Nat) a, al[k]? = some a → al'[k]? = some a) :
  (∀ {v : Value} {d : D}, RD al fr h v d → RD al' fr' h' v d) ∧ (∀ {vs : List Value} {ds : List D}, RDs al fr h vs ds → RDs al' fr' h' vs ds) := by
 have L : ∀ {a : Addr} {vs : List Value}, a ∉ al → a ∉ fr → h.PlainList a vs.toArray → a ∉ al' ∧ a ∉ fr' ∧ h'.PlainList a vs.toArray := fun {a vs} n1 n2 hl => by
  refine x11 (id hl) ?_
  intro j ho
  have q := k a _ n1 n2 ho
  exact ⟨q.2.1, q.2.2, hl.at fun o' e => (k a o' n1 n2 e).1⟩
 have T : ∀ {a : Addr} {vs : List Value}, a ∉ al → a ∉ fr → h.IsTuple a vs.toArray → a ∉ al' ∧ a ∉ fr' ∧ h'.IsTuple a vs.toArray := fun {a vs} n1 n2 hl => by
  refine x12 (id hl) ?_
  intro o ho _
  have q := k a o n1 n2 ho
  exact ⟨q.2.1, q.2.2, tuple_mono hl fun o' e => (k a o' n1 n2 e).1⟩
 have I : ∀ {a dx : Addr}, a ∉ al → a ∉ fr → InstAt h a dx → a ∉ al' ∧ a ∉ fr' ∧ InstAt h' a dx := fun {a dx} n1 n2 hi => by
  refine x12 (id hi) ?_
  intro o ho hr
  have q := k a o n1 n2 ho
  exact ⟨q.2.1, q.2.2, ⟨o, q.1, hr⟩⟩
 have N : ∀ {dx : Addr} {m : Str → Option Value}, dx ∉ al → dx ∉ fr → h.Ns1 dx m → dx ∉ al' ∧ dx ∉ fr' ∧ h'.Ns1 dx m := fun {dx m} m1 m2 hn => by
  refine x32 (id hn) ?_
  intro o2 es ep ho2 hr2
  have q2 := k dx o2 m1 m2 ho2
  exact ⟨q2.2.1, q2.2.2, ⟨o2, es, ep, q2.1, hr2⟩⟩
 have M : ∀ {a tp : Addr} {s : List Nat} {b e : Nat}, a ∉ al → a ∉ fr → tp ∉ al → tp ∉ fr → MtchAt h a tp s b e → RD al' fr' h' (.ref a) (.mtch s b e) := fun {a tp s b e} n1 n2 m1 m2 hm => by
  refine x52 hm ?_
  clear hm
  intro t pat x2 x3 x4 h1 h2
  have q := k a _ n1 n2 h1
  have q2 := k tp _ m1 m2 h2
  exact .mtch a tp s b e q.2.1 q.2.2 q2.2.1 q2.2.2 ⟨t, pat, x2, x3, x4, q.1, q2.1⟩
 have all : ∀ {v : Value} {d : D}, RD al fr h v d → RD al' fr' h' v d := fun r => RD.rec (motive_1 := fun v d y => RD al' fr' h' v d) (motive_2 := fun vs ds y => RDs al' fr' h' vs ds) .none .bool .int .str .word
  (fun a vs ds n1 n2 hl y ih => .list a vs ds (L n1 n2 hl).1 (L n1 n2 hl).2.1 (L n1 n2 hl).2.2 ih) (fun a vs ds n1 n2 hl y ih => .tup a vs ds (T n1 n2 hl).1 (T n1 n2 hl).2.1 (T n1 n2 hl).2.2 ih)
  (fun j a e => .ob j a (p j a e)) (fun v j y ih => .sym v j ih) .tstr .opq .num (fun a dx j n1 n2 hi e => .self a dx j (I n1 n2 hi).1 (I n1 n2 hi).2.1 (I n1 n2 hi).2.2 (p j dx e))
  (fun a dx vs ds n1 n2 m1 m2 hi hn y ih => .inst a dx vs ds (I n1 n2 hi).1 (I n1 n2 hi).2.1 (N m1 m2 hn).1 (N m1 m2 hn).2.1 (I n1 n2 hi).2.2 (N m1 m2 hn).2.2 ih) (fun a tp s b e n1 n2 m1 m2 hm => M n1 n2 m1 m2 hm)
  .nil (fun y y a b => .cons a b) r
 refine ⟨all, fun {vs ds} r => ?_⟩
 induction ds generalizing vs with
 | nil =>
  have := r.to
  subst this
  exact .nil
 | cons d ds ih =>
  refine x23 r.to ?_
  try clear r
  intro v us eq2 a r
  subst eq2
  exact .cons (all a) (ih (by assumption))
theorem RD.mono (k : ∀ b o, b ∉ al → b ∉ fr → h.get? b = some o → h'.get? b = some o ∧ b ∉ al' ∧ b ∉ fr') (p : ∀ (k : Nat) a, al[k]? = some a → al'[k]? = some a) {v : Value} {d : D} (r : RD al fr h v d) : RD al' fr' h' v d := (RD.mono0 k p).1 r
theorem RDs.mono (k : ∀ b o, b ∉ al → b ∉ fr → h.get? b = some o → h'.get? b = some o ∧ b ∉ al' ∧ b ∉ fr') (p : ∀ (k : Nat) a, al[k]? = some a → al'[k]? = some a) {vs : List Value} {ds : List D} (r : RDs al fr h vs ds) : RDs al' fr' h' vs ds := (RD.mono0 k p).2 r
theorem RDs.ind {P : List Value → List D → Prop} (n : P [] []) (c : ∀ {v vs d ds}, RD al fr h v d → RDs al fr h vs ds → P vs ds → P (v :: vs) (d :: ds)) {vs : List Value} {ds : List D} (r : RDs al fr h vs ds) : P vs ds := by
 induction ds generalizing vs with
 | nil => exact (r.to : vs = []) ▸ n
 | cons d ds ih => exact x23 r.to fun v us e a b => e ▸ c a b (ih b)
theorem RDs.length {vs : List Value} {ds : List D} (r : RDs al fr h vs ds) : vs.length = ds.length :=
 RDs.ind (P := fun vs ds => vs.length = ds.length) rfl (fun j j e => congrArg (· + 1) e) r
theorem RDs.append {vs us : List Value} {ds es : List D} (r : RDs al fr h vs ds) (q : RDs al fr h us es) : RDs al fr h (vs ++ us) (ds ++ es) :=
 RDs.ind (P := fun vs ds => RDs al fr h (vs ++ us) (ds ++ es)) q (fun a j e => .cons a e) r
theorem RDs.nth : ∀ {vs : List Value} {ds : List D} {n : Nat} {d : D}, RDs al fr h vs ds → nthD ds n = some d → ∃ v, vs[n]? = some v ∧ RD al fr h v d
 | _, _, _, _, .nil, e => nomatch e
 | _, _, 0, _, .cons a _, e => by cases e; exact (m12 _ rfl a)
 | _, _, n + 1, _, .cons _ r, e => by
  refine x12 (r.nth (n := n) e) ?_
  intro v hv q
  exact (m12 v (by simpa using hv) q)
theorem RDs.out : ∀ {vs : List Value} {ds : List D} {n : Nat}, RDs al fr h vs ds → nthD ds n = none → vs[n]? = none
 | _, _, _, .nil, _ => by exact List.getElem?_nil
 | _, _, 0, .cons _ _, e => nomatch e
 | _, _, n + 1, .cons _ r, e => by
  have := r.out (n := n) e
  simpa using this
theorem RDs.take : ∀ {vs : List Value} {ds : List D} (n : Nat), RDs al fr h vs ds → RDs al fr h (vs.take n) (takeD n ds)
 | _, _, 0, _ => by unfold takeD; simp; exact .nil
 | _, _, n + 1, .nil => by simp [takeD]; exact .nil
 | _, _, n + 1, .cons a r => by simp only [List.take_succ_cons, takeD]; exact .cons a (r.take n)
theorem RDs.set : ∀ {vs : List Value} {ds es : List D} {n : Nat} {v : Value} {d : D}, RDs al fr h vs ds → RD al fr h v d → setD ds n d = some es → n < vs.length ∧ RDs al fr h (vs.set n v) es
 | _, _, _, _, _, _, .nil, _, e => nomatch e
 | _, _, _, 0, _, _, .cons a r, q, e => by cases e; exact ⟨by exact Nat.succ_pos _, .cons q r⟩
 | _, _, es, n + 1, _, _, .cons a r, q, e => by
  simp only [setD] at e
  split at e
  · rename_i es' e'
    cases e
    have z := r.set q e'
    exact ⟨by simpa using z.1, by simpa using RDs.cons a z.2⟩
  · exact no e
theorem RDs.rep {vs : List Value} {ds : List D} (r : RDs al fr h vs ds) : ∀ n, RDs al fr h (List.replicate n vs).flatten (repD ds n)
 | 0 => .nil
 | n + 1 => by simp only [List.replicate_succ, List.flatten_cons, repD]; exact r.append (r.rep n)
end
end Mine
end
noncomputable section
open PySem PySem.W PyProof.Rows PySem.Spec PySem.Calls
namespace Mine
variable [Val]
section
variable (prog : Program) (w : World)
noncomputable def CodeFor (h : Heap) (c P : Addr) : Prop := ∃ (o : Obj) (vs : Array Value) (file : Str) (tf : Tok) (flags : Int) (tg : Tok) (inF : Bool) (text : Int) (tt : Tok), h.get? c = some o ∧ o.cls = .type "code" ∧ o.data = .fields vs ∧ vs[11]? = some (.ref P) ∧
 vs.getD 18 .none = .str file tf ∧ vs.getD 7 .none = .int flags tg ∧ vs.getD 9 .none = .bool inF ∧ vs.getD 10 .none = .int text tt
noncomputable def MO2 (al fr : List Addr) (h hp : Heap) (a : Addr) : MO → Prop
 | .list xs => ∃ vs, hp.PlainList a vs.toArray ∧ RDs al fr h vs xs
 | .dic es => ∃ kvs : List (Int × Value), hp.DictOf (intKind prog w) a kvs ∧ kvs.map (·.1) = es.map (·.1) ∧ RDs al fr h (kvs.map (·.2)) (es.map (·.2))
 | .inst fs => ∃ (key : Nat) (ps : Array Value), fs = [(key, .none)] ∧ Val.code key ∉ al ∧ Val.code key ∉ fr ∧ CodeFor h (Val.code key) a ∧ hp.get? a = some { cls := .none, data := .fields ps } ∧ TriplesOk ps.toList
 | .attrs ds => ∃ vs, hp.Ns1 a (attrFrom 0 vs) ∧ RDs al fr h vs ds
noncomputable abbrev MOk (al fr : List Addr) (h : Heap) (a : Addr) (mo : MO) : Prop := MO2 prog w al fr h h a mo
structure Sto (hT : Heap) (al fr : List Addr) (st : St) (h : Heap) : Prop where
 old : ∀ b o, hT.get? b = some o → h.get? b = some o
 len : al.length = st.n
 new : ∀ a, a ∈ al ∨ a ∈ fr → hT.get? a = none ∧ a < h.objs.size
 nd : al.Nodup
 dj : ∀ a, a ∈ al → a ∉ fr
 mu : ∀ k v mo, lk k st.mu = some (v, mo) → ∃ a, al[k]? = some a ∧ MOk prog w al fr h a mo
structure Kp (al ow : List Addr) (st st' : St) (h h' : Heap) : Prop where
 sz : h.objs.size ≤ h'.objs.size
 keep : ∀ b o, b ∉ al → b ∉ ow → h.get? b = some o → h'.get? b = some o
 ver : ∀ k v mo, lk k st.mu = some (v, mo) → ∃ v' mo', lk k st'.mu = some (v', mo') ∧ v ≤ v' ∧ (v' = v → mo' = mo ∧ ∀ a o, al[k]? = some a → h.get? a = some o → h'.get? a = some o)
noncomputable def GensOk (a b : Array GenState) : Prop := (AllBare a → AllBare b) ∧ ∀ (g : Nat) (x : GenState), a[g]? = some x → b[g]? = some x
theorem GensOk.refl {a : Array GenState} : GensOk a a := ⟨id, fun j j e => e⟩
structure Rest (s s' : Shared) : Prop where
 os : s'.os = s.os
 tk : s.toks ≤ s'.toks
 gens : GensOk s.gens s'.gens
structure Stp (hT : Heap) (fr ow : List Addr) (al al' : List Addr) (st st' : St) (s s' : Shared) : Prop where
 pre : ∃ more, al' = al ++ more ∧ ∀ a ∈ more, s.heap.objs.size ≤ a
 sto : Sto prog w hT al' fr st' s'.heap
 kp : Kp al ow st st' s.heap s'.heap
 rest : Rest s s'
end
section
variable {prog : Program} {w : World} {hT : Heap} {al al' al'' fr fr' ow : List Addr} {st st' st'' : St} {s s' s'' : Shared} {h h' hp hp' : Heap}
theorem Kp.refl : Kp al ow st st h h := ⟨Nat.le_refl _, fun j j j j e => e, fun j v mo e => (m23 v mo e (Nat.le_refl _) (fun j => ⟨rfl, fun j j j x => x⟩))⟩
theorem Rest.refl : Rest s s := ⟨rfl, Nat.le_refl _, .refl⟩
theorem Rest.trans (a : Rest s s') (b : Rest s' s'') : Rest s s'' := ⟨b.os.trans a.os, Nat.le_trans a.tk b.tk, ⟨fun x => b.gens.1 (a.gens.1 x), fun g x e => b.gens.2 g x (a.gens.2 g x e)⟩⟩
theorem Stp.refl (S : Sto prog w hT al fr st s.heap) : Stp prog w hT fr ow al al st st s s := ⟨(m12 ([]) (by exact (List.append_nil _).symm) (fun j h => nomatch h)), S, .refl, .refl⟩
theorem get_prefix {more : List Addr} {k : Nat} {a : Addr} (h : al[k]? = some a) : (al ++ more)[k]? = some a := by
 obtain ⟨hl, he⟩ := List.getElem?_eq_some_iff.mp h
 rw [List.getElem?_append_left hl]; exact h
theorem Stp.get (S : Stp prog w hT fr ow al al' st st' s s') {k : Nat} {a : Addr} (h : al[k]? = some a) : al'[k]? = some a := by
 refine x12 S.pre ?_
 intro more e _
 subst e; exact get_prefix h
theorem Stp.trans (a : Stp prog w hT fr ow al al' st st' s s') (b : Stp prog w hT fr ow al' al'' st' st'' s' s'') : Stp prog w hT fr ow al al'' st st'' s s'' := by
 refine x12 a.pre ?_
 intro m1 e1 h1
 refine x12 b.pre ?_
 intro m2 e2 h2
 refine ⟨(m12 (m1 ++ m2) (by rw [e2, e1, List.append_assoc]) (fun x hx => ?_)), b.sto, ⟨Nat.le_trans a.kp.sz b.kp.sz, fun x o n1 n2 e => ?_, fun k v mo e => ?_⟩, a.rest.trans b.rest⟩
 · rcases List.mem_append.mp hx with hx | hx
   · exact h1 x hx
   · exact Nat.le_trans a.kp.sz (h2 x hx)
 · refine b.kp.keep x o (fun hx => ?_) n2 (a.kp.keep x o n1 n2 e)
   rw [e1] at hx
   rcases List.mem_append.mp hx with hx | hx
   · exact n1 hx
   · exact Nat.lt_irrefl _ (Nat.lt_of_lt_of_le (Heap.lt_size e) (h1 x hx))
 · refine x23 (a.kp.ver k v mo e) ?_
   intro v1 mo1 q1 l1 k1
   refine x23 (b.kp.ver k v1 mo1 q1) ?_
   intro v2 mo2 q2 l2 k2
   refine (m23 v2 mo2 q2 (Nat.le_trans l1 l2) (fun z => ?_))
   have z1 : v1 = v := Nat.le_antisymm (by lia) l1
   have z2 : v2 = v1 := by simp only [*, Nat.le_add_right]
   refine ⟨(k2 z2).1.trans (k1 z1).1, fun x o hx ho => ?_⟩
   exact (k2 z2).2 x o (by rw [e1]; exact get_prefix hx) ((k1 z1).2 x o hx ho)
theorem RD.step (S : Stp prog w hT fr [] al al' st st' s s') {v : Value} {d : D} (r : RD al fr s.heap v d) : RD al' fr s'.heap v d := by
 refine x12 S.pre ?_
 intro m1 e1 h1
 refine r.mono (fun b o n1 n2 e => ⟨S.kp.keep b o n1 (by exact List.not_mem_nil) e, fun hx => ?_, n2⟩) fun k a e => S.get e
 rw [e1] at hx
 rcases List.mem_append.mp hx with hx | hx
 · exact n1 hx
 · exact Nat.lt_irrefl _ (Nat.lt_of_lt_of_le (Heap.lt_size e) (h1 b hx))
theorem RDs.step (S : Stp prog w hT fr [] al al' st st' s s') {v : List Value} {d : List D} (r : RDs al fr s.heap v d) : RDs al' fr s'.heap v d := by
 refine x12 S.pre ?_
 intro m1 e1 h1
 refine r.mono (fun b o n1 n2 e => ⟨S.kp.keep b o n1 (by exact List.not_mem_nil) e, fun hx => ?_, n2⟩) fun k a e => S.get e
 rw [e1] at hx
 rcases List.mem_append.mp hx with hx | hx
 · exact n1 hx
 · exact Nat.lt_irrefl _ (Nat.lt_of_lt_of_le (Heap.lt_size e) (h1 b hx))
theorem RD.stepF (S : Stp prog w hT fr ow al al' st st' s s') (hf : ∀ a ∈ ow, a ∈ fr) {v : Value} {d : D} (r : RD al fr s.heap v d) : RD al' fr s'.heap v d := by
 refine x12 S.pre ?_
 intro m1 e1 h1
 refine r.mono (fun b o n1 n2 e => ⟨S.kp.keep b o n1 (fun q => n2 (hf b q)) e, fun hx => ?_, n2⟩) fun k a e => S.get e
 rw [e1] at hx
 rcases List.mem_append.mp hx with hx | hx
 · exact n1 hx
 · exact Nat.lt_irrefl _ (Nat.lt_of_lt_of_le (Heap.lt_size e) (h1 b hx))
theorem dict_mono {a : Addr} {kvs : List (Int × Value)} (H : h.DictOf (intKind prog w) a kvs) (k : ∀ o, h.get? a = some o → h'.get? a = some o) : h'.DictOf (intKind prog w) a kvs :=
 let ⟨o, es, ep, ho, r⟩ := H; ⟨o, es, ep, k o ho, r⟩
theorem MO2.mono {a : Addr} {mo : MO} (H : MO2 prog w al fr h hp a mo) (ka : ∀ o, hp.get? a = some o → hp'.get? a = some o)
  (k : ∀ b o, b ∉ al → b ∉ fr → h.get? b = some o → h'.get? b = some o ∧ b ∉ al' ∧ b ∉ fr') (p : ∀ (k : Nat) a, al[k]? = some a → al'[k]? = some a) : MO2 prog w al' fr' h' hp' a mo := by
 induction mo using MO.casesOn with
 | list xs => obtain ⟨vs, hl, r⟩ := H; exact ⟨vs, hl.at ka, r.mono k p⟩
 | dic es => obtain ⟨kvs, hl, e, r⟩ := H; exact ⟨kvs, dict_mono hl ka, e, r.mono k p⟩
 | inst fs =>
  refine x26 H ?_
  try clear H
  intro key ps e n1 n2 nst1 hp ht
  obtain ⟨o, vs, f1, f2, f3, f4, f5, f6, f7, ho, r⟩ := nst1
  have q := k (Val.code key) o n1 n2 ho
  exact ⟨key, ps, e, q.2.1, q.2.2, ⟨o, vs, f1, f2, f3, f4, f5, f6, f7, q.1, r⟩, ka _ hp, ht⟩
 | attrs ds => obtain ⟨vs, ⟨o, es, ep, ho, hr⟩, r⟩ := H; exact ⟨vs, ⟨o, es, ep, ka o ho, hr⟩, r.mono k p⟩
theorem Stp.grow {hp : Heap} {tk : Nat} (S : Sto prog w hT al fr st s.heap) (hs : s.heap.objs.size ≤ hp.objs.size) (k : ∀ b o, s.heap.get? b = some o → hp.get? b = some o) (htk : s.toks ≤ tk := by trivial) :
  Stp prog w hT fr [] al al st st s { s with heap := hp, toks := tk } := by
 refine ⟨(m12 ([]) (by exact (List.append_nil _).symm) (fun y h => nomatch h)), ⟨fun b o e => k b o (S.old b o e), S.len, fun a ha => ⟨(S.new a ha).1, Nat.lt_of_lt_of_le (S.new a ha).2 hs⟩, S.nd, S.dj, fun j v mo e => ?_⟩, ⟨hs, fun b o y y e => k b o e, fun j v mo e => (m23 v mo e (Nat.le_refl _) (fun y => ⟨rfl, fun a o y x => k a o x⟩))⟩, ⟨rfl, htk, .refl⟩⟩
 refine x12 (S.mu j v mo e) ?_
 intro a ha m
 exact (m12 a ha (m.mono (fun o x => k a o x) (fun b o n1 n2 x => ⟨k b o x, n1, n2⟩) fun y y x => x))
theorem Stp.tok {tk : Nat} (S : Sto prog w hT al fr st s.heap) (htk : s.toks ≤ tk := by trivial) : Stp prog w hT fr [] al al st st s { s with toks := tk } := Stp.grow S (Nat.le_refl _) (fun j j e => e) htk
theorem Stp.push {o : Obj} {tk : Nat} (S : Sto prog w hT al fr st s.heap) (htk : s.toks ≤ tk := by trivial) : Stp prog w hT fr [] al al st st s { s with heap := s.heap.push o, toks := tk } :=
 Stp.grow S (by rw [Heap.size_push]; exact Nat.le_succ _) (fun j j e => Heap.get?_push_of_some o e) htk
theorem Sto.fresh (S : Sto prog w hT al fr st h) {a : Addr} (ha : h.objs.size ≤ a) : a ∉ al ∧ a ∉ fr := ⟨fun q => Nat.lt_irrefl _ (Nat.lt_of_lt_of_le (S.new a (.inl q)).2 ha), fun q => Nat.lt_irrefl _ (Nat.lt_of_lt_of_le (S.new a (.inr q)).2 ha)⟩
theorem none_of_size {a : Addr} (ha : h.objs.size ≤ a) : h.get? a = none := by
 cases e : h.get? a with
 | none => rfl
 | some o' => exact absurd (Heap.lt_size e) (Nat.not_lt.mpr ha)
theorem Sto.freshT (S : Sto prog w hT al fr st h) {a : Addr} (ha : h.objs.size ≤ a) : hT.get? a = none := by
 cases e : hT.get? a with
 | none => rfl
 | some o => exact absurd (Heap.lt_size (S.old a o e)) (Nat.not_lt.mpr ha)
theorem lk_cons {β : Type} {i k : Nat} {u : β} {r : List (Nat × β)} : lk k ((i, u) :: r) = if i = k then some u else lk k r := by
 simp only [lk_consM]
 by_cases q : i = k
 · rw [if_pos q, q, Nat.beq_refl]
 · rw [if_neg q]
   have : Nat.beq i k = false := by
    cases z : Nat.beq i k with
    | false => rfl
    | true => exact absurd (Nat.eq_of_beq_eq_true z) q
   rw [this]
theorem lk_put {β : Type} {i k : Nat} {u : β} : ∀ {r : List (Nat × β)}, lk k (put i u r) = if i = k then some u else lk k r
 | [] => by simp only [put_nilM]; exact lk_cons
 | (j, v) :: r => by
  simp only [put_consM]
  cases z : Nat.beq j i with
  | true =>
   have : j = i := Nat.eq_of_beq_eq_true z
   subst this
   simp only [lk_cons]
   split <;> rfl
  | false =>
   have : j ≠ i := fun q => by rw [q, Nat.beq_refl] at z; exact nomatch z
   simp only [lk_cons]
   rw [lk_put (r := r)]
   by_cases q : j = k
   · rw [if_pos q, if_pos q, if_neg]; intro e; exact this (q.trans e.symm)
   · rw [if_neg q, if_neg q]
theorem Stp.newM {hp : Heap} {a : Addr} {mo : MO} {tk : Nat} (S : Sto prog w hT al fr st s.heap) (ha : s.heap.objs.size ≤ a) (hlt : a < hp.objs.size) (hs : s.heap.objs.size ≤ hp.objs.size)
  (k : ∀ b o, s.heap.get? b = some o → hp.get? b = some o) (m : MO2 prog w al fr s.heap hp a mo) (htk : s.toks ≤ tk := by trivial) :
  Stp prog w hT fr [] al (al ++ [a]) st ⟨st.n + 1, (st.n, 0, mo) :: st.mu⟩ s { s with heap := hp, toks := tk } ∧ RD (al ++ [a]) fr hp (.ref a) (.ob st.n) := by
 have nf := S.fresh ha
 have p : ∀ (k : Nat) x, al[k]? = some x → (al ++ [a])[k]? = some x := fun z z => get_prefix
 have ga : (al ++ [a])[st.n]? = some a := by rw [← S.len]; exact List.getElem?_concat_length
 have ln : ∀ j x, al[j]? = some x → j ≠ st.n := fun j x e q => by
  obtain ⟨hl, _⟩ := List.getElem?_eq_some_iff.mp e
  rw [S.len] at hl; lia
 have kk : ∀ b o, b ∉ al → b ∉ fr → s.heap.get? b = some o → hp.get? b = some o ∧ b ∉ al ++ [a] ∧ b ∉ fr := fun b o n1 n2 x => ⟨k b o x, (fun q => by
   rcases List.mem_append.mp q with q | q
   · exact n1 q
   · rw [List.mem_singleton.mp q, none_of_size ha] at x; exact nomatch x), n2⟩
 refine ⟨⟨(m12 ([a]) rfl (fun x hx => by rw [List.mem_singleton.mp hx]; exact ha)), ⟨fun b o e => k b o (S.old b o e), (List.length_append ..).trans (congrArg (· + 1) S.len), fun x hx => ?_, ?_, fun x hx => ?_, fun j v mo' e => ?_⟩,
  ⟨hs, fun b o z z e => k b o e, fun j v mo' e => ?_⟩, ⟨rfl, htk, .refl⟩⟩, .ob _ a ga⟩
 · rcases hx with hx | hx
   · rcases List.mem_append.mp hx with hx | hx
     · exact ⟨(S.new x (.inl hx)).1, Nat.lt_of_lt_of_le (S.new x (.inl hx)).2 hs⟩
     · rw [List.mem_singleton.mp hx]; exact ⟨S.freshT ha, hlt⟩
   · exact ⟨(S.new x (.inr hx)).1, Nat.lt_of_lt_of_le (S.new x (.inr hx)).2 hs⟩
 · refine List.nodup_append.mpr ⟨S.nd, List.pairwise_singleton .. , fun x hx y hy => ?_⟩
   rw [List.mem_singleton.mp hy]; exact fun q => nf.1 (q ▸ hx)
 · rcases List.mem_append.mp hx with hx | hx
   · exact S.dj x hx
   · rw [List.mem_singleton.mp hx]; exact nf.2
 · rw [lk_cons] at e
   split at e
   · rename_i q
     cases e
     subst q
     exact (m12 a ga (m.mono (fun o x => x) kk p))
   · refine x12 (S.mu j v mo' e) ?_
     intro x hx q
     exact (m12 x (p j x hx) (q.mono (fun o y => k x o y) kk p))
 · refine x12 (S.mu j v mo' e) ?_
   intro x hx _
   refine (m23 v mo' (by rw [lk_cons, if_neg (Ne.symm (ln j x hx))]; exact e) (Nat.le_refl _) (fun z => ⟨rfl, fun b o z y => k b o y⟩))
theorem Stp.setM {hp : Heap} {a : Addr} {j v : Nat} {mo mo' : MO} {tk : Nat} (S : Sto prog w hT al fr st s.heap) (hj : lk j st.mu = some (v, mo)) (ha : al[j]? = some a)
  (hs : s.heap.objs.size ≤ hp.objs.size) (k : ∀ b o, b ≠ a → s.heap.get? b = some o → hp.get? b = some o) (m : MO2 prog w al fr s.heap hp a mo') (htk : s.toks ≤ tk := by trivial) :
  Stp prog w hT fr [] al al st ⟨st.n, put j (v + 1, mo') st.mu⟩ s { s with heap := hp, toks := tk } := by
 have am : a ∈ al := List.mem_of_getElem? ha
 have kk : ∀ b o, b ∉ al → b ∉ fr → s.heap.get? b = some o → hp.get? b = some o ∧ b ∉ al ∧ b ∉ fr := fun b o n1 n2 x => ⟨k b o (fun q => n1 (q ▸ am)) x, n1, n2⟩
 have uniq : ∀ i x, al[i]? = some x → i ≠ j → x ≠ a := fun i x hx ne q => by
  rw [q] at hx
  obtain ⟨l1, e1⟩ := List.getElem?_eq_some_iff.mp hx
  obtain ⟨l2, e2⟩ := List.getElem?_eq_some_iff.mp ha
  exact ne ((List.getElem_inj S.nd).mp (e1.trans e2.symm))
 refine ⟨(m12 ([]) (by exact (List.append_nil _).symm) (fun g h => nomatch h)), ⟨fun b o e => k b o (fun q => ?_) (S.old b o e), S.len, fun x hx => ⟨(S.new x hx).1, Nat.lt_of_lt_of_le (S.new x hx).2 hs⟩, S.nd, S.dj, fun i u mo₁ e => ?_⟩,
  ⟨hs, fun b o n1 g e => k b o (fun q => n1 (q ▸ am)) e, fun i u mo₁ e => ?_⟩, ⟨rfl, htk, .refl⟩⟩
 · rw [q, (S.new a (.inl am)).1] at e; exact no e
 · rw [lk_put] at e
   split at e
   · rename_i q
     cases e
     subst q
     exact (m12 a ha (m.mono (fun o x => x) kk fun g g x => x))
   · rename_i q
     refine x12 (S.mu i u mo₁ e) ?_
     intro x hx z
     exact (m12 x hx (z.mono (fun o y => k x o (uniq i x hx (Ne.symm q)) y) kk fun g g x => x))
 · by_cases q : j = i
   · subst q
     rw [hj] at e; cases e
     exact (m23 (v + 1) mo' (by rw [lk_put, if_pos rfl]) (Nat.le_succ _) (fun z => absurd z (Nat.succ_ne_self v)))
   · exact (m23 u mo₁ (by rw [lk_put, if_neg q]; exact e) (Nat.le_refl _) (fun g => ⟨rfl, fun b o hb y => k b o (uniq i b hb (Ne.symm q)) y⟩))
end
end Mine
end
noncomputable section
open PySem PySem.W PyProof.Rows PySem.Spec PySem.Calls
namespace Mine
variable [Val]
structure Names (nm : Nat → Str) : Prop where
 inj : ∀ i j, nm i = nm j → i = j
 dbg : ∀ i, (nm i == ("__debug__" : Str)) = false
 cd : ∀ i, (nm i == ("__classdict__" : Str)) = false
 dot : ∀ i, (nm i == (".0" : Str)) = false
noncomputable def isVarK : Option NameKind → Bool
 | some .local | some .cell | some .free => true
 | _ => false
noncomputable def isOwnK : Option NameKind → Bool
 | some .local | some .cell => true
 | _ => false
section
variable (prog : Program) (w : World) (nm : Nat → Str) (CC : Scope → Value → Prop)
structure EnvOk (env : Env) (sc : Scope) (al fr ow : List Addr) (ρ : Env') (h : Heap) : Prop where
 fn : env.scope.kind = .function
 gl : env.globals = mainGlobals
 bi : env.builtins = builtinsNs
 k1 : ∀ x, sc.names.lookup x = some .local → env.kindOf x = some .local
 k2 : ∀ x, sc.names.lookup x = some .cell → env.kindOf x = some .cell
 k3 : ∀ x, sc.names.lookup x = some .free → env.kindOf x = some .cell ∨ env.kindOf x = some .free
 k4 : ∀ x, sc.names.lookup x = some .globalImplicit → env.kindOf x = some .globalImplicit
 lo : env.locals ∈ ow
 sub : ∀ a ∈ ow, a ∈ fr
 cfr : ∀ x c, env.cells.lookup x = some c → c ∈ fr ∧ c ≠ env.locals ∧ ∃ v, h.IsCell c v
 cin : ∀ x y c, env.cells.lookup x = some c → env.cells.lookup y = some c → x = y
 ch : ∀ x, sc.names.lookup x = some .cell ∨ sc.names.lookup x = some .free → ∃ c, env.cells.lookup x = some c
 cow : ∀ i, sc.names.lookup (nm i) = some .cell → ∃ c, env.cells.lookup (nm i) = some c ∧ c ∈ ow
 ns : ∃ m, h.Ns env.locals m ∧ ∀ i d, lk i ρ = some (some d) → sc.names.lookup (nm i) = some .local → ∃ v, m (nm i) = some v ∧ RD al fr h v d
 cv : ∀ i d, lk i ρ = some (some d) → sc.names.lookup (nm i) = some .cell ∨ sc.names.lookup (nm i) = some .free → ∃ c v, env.cells.lookup (nm i) = some c ∧ h.IsCell c (some v) ∧ RD al fr h v d
structure Here (hT : Heap) (n : Nat) (A : Around) (env : Env) (sc : Scope) (al fr ow : List Addr) (ρ : Env') (st : St) (s : Shared) : Prop where
 hd : A.handled = none
 tk : 1 ≤ s.toks
 dp : A.depth + 2 * n + 20 + Val.room < recursionLimit
 un : A.units + 16 * n + 800 + 16 * Val.room < cLine
 sto : Sto prog w hT al fr st s.heap
 cd : CC sc env.code
 env : EnvOk nm env sc al fr ow ρ s.heap
noncomputable def PostE (hT : Heap) (al fr : List Addr) (st st' : St) (s : Shared) (d : D) (v : Value) (s' : Shared) : Prop :=
 ∃ al', Stp prog w hT fr [] al al' st st' s s' ∧ RD al' fr s'.heap v d
end
noncomputable def FF : Value → Shared → Prop := fun j j => False
section
variable {prog : Program} {w : World} {nm : Nat → Str} {CC : Scope → Value → Prop} {hT : Heap} {n : Nat} {A : Around} {env : Env} {sc : Scope} {al al' al'' fr ow : List Addr} {ρ : Env'} {st st' st'' : St} {s s' s'' : Shared} {h h' : Heap}
theorem EnvOk.step (Ev : EnvOk nm env sc al fr ow ρ s.heap) (S₀ : Sto prog w hT al fr st s.heap) (S : Stp prog w hT fr [] al al' st st' s s') : EnvOk nm env sc al' fr ow ρ s'.heap := by
 have kp : ∀ b o, b ∈ fr → s.heap.get? b = some o → s'.heap.get? b = some o := fun b o hb e => S.kp.keep b o (fun q => S₀.dj b q hb) (by exact List.not_mem_nil) e
 have cell : ∀ c v, c ∈ fr → s.heap.IsCell c v → s'.heap.IsCell c v := fun c v hc ⟨o, ho, hd⟩ => ⟨o, kp c o hc ho, hd⟩
 refine { Ev with cfr := fun x c e => ?_, ns := ?_, cv := fun i d e k => ?_ }
 · obtain ⟨a, b, v, hv⟩ := Ev.cfr x c e
   exact ⟨a, b, v, cell c v a hv⟩
 · refine x12 (Ev.ns) ?_
   intro m nst1 hm
   obtain ⟨o, es, ep, ho, r⟩ := nst1
   exact (m12 m ⟨o, es, ep, kp _ o (Ev.sub _ Ev.lo) ho, r⟩ (fun i d e k => by obtain ⟨v, hv, q⟩ := hm i d e k; exact (m12 v hv (q.step S))))
 · refine x23 (Ev.cv i d e k) ?_
   intro c v hc hv q
   exact (m23 c v hc (cell c _ (Ev.cfr _ _ hc).1 hv) (q.step S))
theorem Here.step (H : Here prog w nm CC hT n A env sc al fr ow ρ st s) (S : Stp prog w hT fr [] al al' st st' s s') : Here prog w nm CC hT n A env sc al' fr ow ρ st' s' :=
 ⟨H.hd, Nat.le_trans H.tk S.rest.tk, H.dp, H.un, S.sto, H.cd, H.env.step H.sto S⟩
theorem Here.less {n' : Nat} (H : Here prog w nm CC hT n A env sc al fr ow ρ st s) (hn : n' ≤ n) : Here prog w nm CC hT n' A env sc al fr ow ρ st s :=
 ⟨H.hd, H.tk, by have := H.dp; lia, by have := H.un; lia, H.sto, H.cd, H.env⟩
theorem PostE.tok {d : D} {v : Value} {tk : Nat} (S : Sto prog w hT al fr st s.heap) (r : RD al fr s.heap v d) (htk : s.toks ≤ tk := by trivial) : PostE prog w hT al fr st st s d v { s with toks := tk } := ⟨al, Stp.tok S htk, r⟩
theorem PostE.now {d : D} {v : Value} (S : Sto prog w hT al fr st s.heap) (r : RD al fr s.heap v d) : PostE prog w hT al fr st st s d v s := ⟨al, Stp.refl S, r⟩
theorem var_ok (NN : Names nm) (H : Here prog w nm CC hT n A env sc al fr ow ρ st s) {i : Nat} {d : D} {pos : Pos} (hi : lk i ρ = some (some d)) (hk : isVarK (sc.names.lookup (nm i)) = true) :
  wpAny (model prog w) A (eval (.Name (nm i) pos) env) (PostE prog w hT al fr st st s d) FF s := by
 refine wpAny_Name ?_ (NN.dbg i)
 cases q : sc.names.lookup (nm i) with
 | none => rw [q] at hk; exact nomatch hk
 | some k =>
  induction k using NameKind.casesOn with
  | «local» =>
   refine x12 H.env.ns ?_
   intro m hm hv
   refine x12 (hv i d hi q) ?_
   intro v e r
   exact wpAny_loadName_local H.env.fn (H.env.k1 _ q) hm e (.now H.sto r)
  | cell =>
   refine x23 (H.env.cv i d hi (.inl q)) ?_
   intro c v hc hv r
   exact wpAny_loadName_cell H.env.fn (H.env.k2 _ q) hc hv (.now H.sto r)
  | free =>
   refine x23 (H.env.cv i d hi (.inr q)) ?_
   intro c v hc hv r
   rcases H.env.k3 _ q with k | k
   · exact wpAny_loadName_cell H.env.fn k hc hv (.now H.sto r)
   · exact wpAny_loadName_free H.env.fn k hc hv (.now H.sto r) (NN.cd i)
  | globalExplicit => rw [q] at hk; exact nomatch hk
  | globalImplicit => rw [q] at hk; exact nomatch hk
structure Turn (hT : Heap) (al fr ow : List Addr) (st : St) (s s' : Shared) : Prop where
 stp : Stp prog w hT fr ow al al st st s s'
theorem lk_put_opt {i j : Nat} {d e : D} (h : lk j (put i (some d) ρ) = some (some e)) : (i = j ∧ e = d) ∨ (i ≠ j ∧ lk j ρ = some (some e)) := by
 rw [lk_put] at h
 split at h
 · rename_i q; cases h; exact .inl ⟨q, rfl⟩
 · rename_i q; exact .inr ⟨q, h⟩
theorem store_ok (NN : Names nm) (H : Here prog w nm CC hT n A env sc al fr ow ρ st s) {i : Nat} {d : D} {v : Value} (hk : isOwnK (sc.names.lookup (nm i)) = true) (r : RD al fr s.heap v d) :
  wpAny (model prog w) A (storeName env (nm i) v) (fun g s' => Stp prog w hT fr ow al al st st s s' ∧ EnvOk nm env sc al fr ow (put i (some d) ρ) s'.heap) FF s := by
 have EE := H.env
 have S₀ := H.sto
 have key : ∀ (a : Addr) (hp : Heap) (tk : Nat), s.toks ≤ tk → a ∈ ow → Heap.SameBut a s.heap hp → Stp prog w hT fr ow al al st st s { s with heap := hp, toks := tk } := fun a hp tk htk ha hs => by
  have af := EE.sub a ha
  have an : a ∉ al := fun q => S₀.dj a q af
  have gn : ∀ b o, b ≠ a → s.heap.get? b = some o → hp.get? b = some o := fun b o ne e => (hs.2 b ne).trans e
  refine ⟨(m12 ([]) (by exact (List.append_nil _).symm) (fun g h => nomatch h)), ⟨fun b o e => gn b o (fun q => ?_) (S₀.old b o e), S₀.len, fun x hx => ⟨(S₀.new x hx).1, by have := (S₀.new x hx).2; rw [hs.1]; exact this⟩, S₀.nd, S₀.dj, fun j v mo e => ?_⟩,
   ⟨Nat.le_of_eq hs.1.symm, fun b o g n2 e => gn b o (fun q => n2 (q ▸ ha)) e, fun j v mo e => (m23 v mo e (Nat.le_refl _) (fun g => ⟨rfl, fun b o hb e => gn b o (fun q => an (q ▸ List.mem_of_getElem? hb)) e⟩))⟩, ⟨rfl, htk, .refl⟩⟩
  · rw [q, (S₀.new a (.inr af)).1] at e; exact no e
  · refine x12 (S₀.mu j v mo e) ?_
    intro x hx m
    exact (m12 x hx (m.mono (fun o y => gn x o (fun q => an (q ▸ List.mem_of_getElem? hx)) y) (fun b o n1 n2 y => ⟨gn b o (fun q => n2 (q ▸ af)) y, n1, n2⟩) fun g g y => y))
 have keep : ∀ (a : Addr) (hp : Heap), a ∈ ow → Heap.SameBut a s.heap hp → ∀ (v : Value) (d : D), RD al fr s.heap v d → RD al fr hp v d := fun a hp ha hs g g q =>
  q.mono (fun b o n1 n2 y => ⟨(hs.2 b (fun z => n2 (z ▸ EE.sub a ha))).trans y, n1, n2⟩) fun g g y => y
 cases q : sc.names.lookup (nm i) with
 | none => rw [q] at hk; exact nomatch hk
 | some k =>
  induction k using NameKind.casesOn with
  | «local» =>
   refine x12 EE.ns ?_
   intro m hm hv
   refine wpAny_storeName_local (EE.k1 _ q) hm (fun hp hn hs => ⟨key _ hp _ (by first | exact Nat.le_refl _ | exact Nat.le_succ _) EE.lo hs, ?_⟩) (by rw [EE.fn]; rfl)
   have kp := keep _ hp EE.lo hs
   refine { EE with cfr := fun x c e => ?_, ns := (m12 _ hn (fun j e hj kj => ?_)), cv := fun j e hj kj => ?_ }
   · obtain ⟨a, b, v, o, ho, hd⟩ := EE.cfr x c e
     exact ⟨a, b, v, o, (hs.2 c b).trans ho, hd⟩
   · rcases lk_put_opt hj with ⟨rfl, rfl⟩ | ⟨ne, hj⟩
     · exact (m12 v (by exact if_pos rfl) (kp _ _ r))
     · refine x12 (hv j e hj kj) ?_
       intro u hu z
       exact (m12 u ((if_neg (fun y : nm j = nm i => ne (NN.inj _ _ y).symm)).trans hu) (kp _ _ z))
   · rcases lk_put_opt hj with ⟨rfl, rfl⟩ | ⟨ne, hj⟩
     · rw [q] at kj; rcases kj with kj | kj <;> cases kj
     · refine x23 (EE.cv j e hj kj) ?_
       intro c u hc nst1 z
       obtain ⟨o, ho, hd⟩ := nst1
       exact (m23 c u hc ⟨o, (hs.2 c (EE.cfr _ _ hc).2.1).trans ho, hd⟩ (kp _ _ z))
  | cell =>
   refine x12 (EE.cow i q) ?_
   intro c hc co
   obtain ⟨_, cl, v₀, hv₀⟩ := EE.cfr _ _ hc
   refine wpAny_storeName_cell EE.fn (EE.k2 _ q) hc hv₀ fun hp hn hs => ⟨key c hp _ (by first | exact Nat.le_refl _ | exact Nat.le_succ _) co hs, ?_⟩
   have kp := keep c hp co hs
   refine { EE with cfr := fun x c' e => ?_, ns := ?_, cv := fun j e hj kj => ?_ }
   · obtain ⟨a, b, v', o, ho, hd⟩ := EE.cfr x c' e
     by_cases z : c' = c
     · exact ⟨a, b, _, z ▸ hn⟩
     · exact ⟨a, b, v', o, (hs.2 c' z).trans ho, hd⟩
   · refine x12 EE.ns ?_
     intro m hm hv
     refine (m12 m (hm.sameBut hs (Ne.symm cl)) (fun j e hj kj => ?_))
     rcases lk_put_opt hj with ⟨rfl, rfl⟩ | ⟨ne, hj⟩
     · rw [q] at kj; exact nomatch kj
     · refine x12 (hv j e hj kj) ?_
       intro u hu z
       exact (m12 u hu (kp _ _ z))
   · rcases lk_put_opt hj with ⟨rfl, rfl⟩ | ⟨ne, hj⟩
     · exact (m23 c v hc hn (kp _ _ r))
     · refine x23 (EE.cv j e hj kj) ?_
       intro c' u hc' nst1 z
       obtain ⟨o, ho, hd⟩ := nst1
       refine (m23 c' u hc' ⟨o, (hs.2 c' fun y => ?_).trans ho, hd⟩ (kp _ _ z))
       exact ne (NN.inj _ _ (EE.cin _ _ _ hc (y ▸ hc')))
  | free => rw [q] at hk; exact nomatch hk
  | globalExplicit => rw [q] at hk; exact nomatch hk
  | globalImplicit => rw [q] at hk; exact nomatch hk
end
end Mine
end
noncomputable section
open PySem PySem.W PyProof.Rows PySem.Spec PySem.Calls
namespace Mine
variable [Val]
theorem eqInt_iff (a b : Int) : eqInt a b = true ↔ a = b := by
 induction a using Int.casesOn with
 | ofNat m => induction b using Int.casesOn with
  | ofNat n => exact ⟨fun h => by rw [Nat.eq_of_beq_eq_true h], fun h => by cases h; exact Nat.beq_refl m⟩
  | negSucc n => exact ⟨(fun h => nomatch h), (fun h => nomatch h)⟩
 | negSucc m => induction b using Int.casesOn with
  | ofNat n => exact ⟨(fun h => nomatch h), (fun h => nomatch h)⟩
  | negSucc n => exact ⟨fun h => by rw [Nat.eq_of_beq_eq_true h], fun h => by cases h; exact Nat.beq_refl m⟩
theorem eqInt_eq (a b : Int) : eqInt a b = (a == b) := by
 cases h : eqInt a b with
 | true => rw [(eqInt_iff a b).mp h]; simp
 | false =>
  have : ¬ a = b := fun e => by rw [(eqInt_iff a b).mpr e] at h; exact nomatch h
  simp [this]
theorem leInt_iff (a b : Int) : leInt a b = true ↔ a ≤ b := by
 induction a using Int.casesOn with
 | ofNat m => induction b using Int.casesOn with
  | ofNat n => exact ⟨fun h => Int.ofNat_le.mpr (Nat.le_of_ble_eq_true h), fun h => Nat.ble_eq_true_of_le (Int.ofNat_le.mp h)⟩
  | negSucc n => exact ⟨(fun h => nomatch h), fun h => by exfalso; have : (m : Int) ≤ Int.negSucc n := h; lia⟩
 | negSucc m => induction b using Int.casesOn with
  | ofNat n => exact ⟨fun j => by show Int.negSucc m ≤ (n : Int); exact Int.natCast_nonneg _, fun j => rfl⟩
  | negSucc n => exact ⟨fun h => by have := Nat.le_of_ble_eq_true h; lia, fun h => Nat.ble_eq_true_of_le (by lia)⟩
theorem leInt_eq (a b : Int) : leInt a b = decide (a ≤ b) := by
 cases h : leInt a b with
 | true => exact (decide_eq_true ((leInt_iff a b).mp h)).symm
 | false => exact (decide_eq_false fun e => by rw [(leInt_iff a b).mpr e] at h; exact nomatch h).symm
theorem ltInt_eq (a b : Int) : ltInt a b = decide (a < b) := by
 unfold ltInt
 rw [leInt_eq]
 by_cases h : b ≤ a
 · rw [decide_eq_true h, decide_eq_false (by simp [*])]; rfl
 · rw [decide_eq_false h, decide_eq_true (by lia)]; rfl
theorem eqL_iff : ∀ a b : List Nat, eqL a b = true ↔ a = b
 | [], [] => ⟨fun j => rfl, fun j => rfl⟩
 | [], b :: t => ⟨fun h => nb h, fun h => nomatch h⟩
 | a :: r, [] => ⟨fun h => nb h, fun h => nomatch h⟩
 | a :: r, b :: t => by
  show (match Nat.beq a b with | true => eqL r t | false => false) = true ↔ _
  cases h : Nat.beq a b with
  | true =>
   have := Nat.eq_of_beq_eq_true h
   subst this
   exact ⟨fun q => by rw [(eqL_iff r t).mp q], fun q => (eqL_iff r t).mpr (List.cons.inj q).2⟩
  | false => exact ⟨fun q => nb q, fun q => by rw [(List.cons.inj q).1, Nat.beq_refl] at h; exact nomatch h⟩
theorem eqL_str (x y : List Nat) : eqL x y = ((⟨x.toArray⟩ : Str) == ⟨y.toArray⟩) := by
 by_cases h : x = y
 · subst h
   rw [(eqL_iff x x).mpr rfl]; simp
 · have h1 : eqL x y = false := by
     cases q : eqL x y with
     | false => rfl
     | true => exact absurd ((eqL_iff x y).mp q) h
   rw [h1]
   symm
   simpa using h
theorem nat?_eq {i : Int} {n : Nat} (h : nat? i = some n) : i = (n : Int) := by
 induction i using Int.casesOn with
 | ofNat m => cases h; rfl
 | negSucc m => exact no h
section
variable {prog : Program} {w : World} {nm : Nat → Str} {hT : Heap} {n : Nat} {A : Around} {env : Env} {sc : Scope} {al al' al'' fr ow : List Addr} {ρ : Env'} {st st' st'' : St} {s s' s'' : Shared} {h h' : Heap}
theorem RDs.inj (one : ∀ {v : Value} {a b : D}, RD al fr h v a → RD al fr h v b → ∀ r, eqD st n a b = some r → r = true)
  {vs : List Value} {xs : List D} (r1 : RDs al fr h vs xs) : ∀ {ys : List D}, RDs al fr h vs ys → ∀ r, eqGo (eqD st n) xs ys = some r → r = true :=
 RDs.ind (P := fun vs xs => ∀ {ys : List D}, RDs al fr h vs ys → ∀ r, eqGo (eqD st n) xs ys = some r → r = true) (fun {ys} _ r e => by
  induction ys using List.casesOn with
  | nil => exact (so e).symm
  | cons y ys => exact no e) (fun {v vs d ds} a1 _ ih ys r2 r e => by
  induction ys using List.casesOn with
  | nil => exact no e
  | cons y ys =>
   refine x23 r2.to ?_
   intro v2 us q a2 b2
   have q := List.cons.inj q
   rw [← q.1] at a2
   rw [← q.2] at b2
   clear q r2
   replace e : (match eqD st n d y with | some r => (match eqGo (eqD st n) ds ys with | some t => some (r && t) | none => none) | none => none) = some r := e
   cases q1 : eqD st n d y with
   | none => rw [q1] at e; exact no e
   | some b =>
    rw [q1] at e
    cases q2 : eqGo (eqD st n) ds ys with
    | none => rw [q2] at e; exact no e
    | some c =>
     rw [q2] at e
     rw [← so e, one a1 a2 _ q1, ih b2 _ q2]; rfl) r1
theorem RDs.injL (one : ∀ {v : Value} {a b : D}, RD al fr h v a → RD al fr h v b → ∀ r, eqD st n a b = some r → r = true)
  {vs : List Value} {xs ys : List D} (r1 : RDs al fr h vs xs) (r2 : RDs al fr h vs ys) (r : Bool) (e : eqLs (eqD st n) xs ys = some r) : r = true := by
 unfold eqLs at e
 rw [show xs.length = ys.length by rw [← r1.length, r2.length], Nat.beq_refl] at e
 exact RDs.inj one r1 r2 r e
theorem eqGoD_inv {rec : D → D → Option Bool} {gs : List (Int × D)} {k : Int} {v : D} {es : List (Int × D)} {r : Bool} {C : Prop} (h : eqGoD rec gs ((k, v) :: es) = some r) (k0 : lkI k gs = none → false = r → C) (k1 : ∀ u q t, lkI k gs = some u → rec v u = some q → eqGoD rec gs es = some t → (q && t) = r → C) : C := by
 replace h : (match lkI k gs with | none => some false | some u => (match rec v u with | some q => (match eqGoD rec gs es with | some t => some (q && t) | none => none) | none => none)) = some r := h
 cases q1 : lkI k gs with
 | none => rw [q1] at h; exact k0 q1 (so h)
 | some u =>
  rw [q1] at h
  replace h : (match rec v u with | some q => (match eqGoD rec gs es with | some t => some (q && t) | none => none) | none => none) = some r := h
  cases q2 : rec v u with
  | none => rw [q2] at h; exact no h
  | some q =>
   rw [q2] at h
   cases q3 : eqGoD rec gs es with
   | none => rw [q3] at h; exact no h
   | some t => rw [q3] at h; exact k1 u q t q1 q2 q3 (so h)
theorem eqGoD_same (S : Sto prog w hT al fr st h) (one : ∀ {v : Value} {a b : D}, RD al fr h v a → RD al fr h v b → ∀ r, eqD st n a b = some r → r = true) (gs : List (Int × D))
  (ok : ∀ k d, lkI k gs = some d → ∃ v, RD al fr h v d) : ∀ (es : List (Int × D)), (∀ k d, (k, d) ∈ es → lkI k gs = some d) → ∀ r, eqGoD (eqD st n) gs es = some r → r = true
 | [], _, r, e => (so e).symm
 | (k, d) :: t, hm, r, e => by
  refine eqGoD_inv e (fun q => by rw [hm k d (.head _)] at q; exact no q.symm) fun u b c q0 q1 q2 q3 => ?_
  rw [hm k d (.head _)] at q0
  cases so q0
  rw [← q3]
  refine x11 (ok k d (hm k d (.head _))) ?_
  intro v rv
  rw [one rv rv _ q1, eqGoD_same S one gs ok t (fun k d q => hm k d (.tail _ q)) _ q2]; rfl
theorem lkI_mem : ∀ {es : List (Int × D)} {k : Int} {d : D}, (es.map (·.1)).Nodup → (k, d) ∈ es → lkI k es = some d
 | (i, x) :: t, k, d, hn, hm => by
  rw [List.map_cons, List.nodup_cons] at hn
  simp only [lkI]
  rcases List.mem_cons.mp hm with q | q
  · cases q
    rw [(eqInt_iff _ _).mpr rfl]
  · have : i ≠ k := fun e => hn.1 (by rw [e]; exact List.mem_map_of_mem (f := (·.1)) q)
    have : eqInt i k = false := by
     cases z : eqInt i k with
     | false => rfl
     | true => exact absurd ((eqInt_iff _ _).mp z) this
    rw [this]
    exact lkI_mem hn.2 q
theorem lkI_in : ∀ {es : List (Int × D)} {k : Int} {d : D}, lkI k es = some d → (k, d) ∈ es
 | (i, x) :: t, k, d, e => by
  simp only [lkI] at e
  split at e
  · rename_i q
    cases e
    rw [(eqInt_iff _ _).mp q]; exact .head _
  · exact .tail _ (lkI_in e)
theorem RDs.of_mem : ∀ {kvs : List (Int × Value)} {es : List (Int × D)} {k : Int} {d : D}, kvs.map (·.1) = es.map (·.1) → RDs al fr h (kvs.map (·.2)) (es.map (·.2)) → (k, d) ∈ es → ∃ v, (k, v) ∈ kvs ∧ RD al fr h v d
 | [], [], _, _, _, _, m => nomatch m
 | (i, u) :: r, (j, x) :: t, k, d, e, q, m => by
  simp only [List.map_cons, List.cons.injEq] at e
  simp only [List.map_cons] at q
  cases q with
  | cons a b =>
   rcases List.mem_cons.mp m with z | z
   · cases z; exact (m12 u (by rw [← e.1]; exact .head _) a)
   · refine x12 (RDs.of_mem e.2 b z) ?_
     intro v hv rv
     exact (m12 v (.tail _ hv) rv)
omit [Val] in
theorem arr_inj {α : Type} {x y : List α} (e : x.toArray = y.toArray) : x = y := congrArg Array.toList e
omit [Val] in
theorem plain_uniq {a : Addr} {vs us : List Value} (h1 : h.PlainList a vs.toArray) (h2 : h.PlainList a us.toArray) : vs = us := by
 refine x11 h1 ?_
 clear h1
 intro j ho
 refine x11 h2 ?_
 clear h2
 intro j2 ho2
 rw [ho] at ho2
 exact arr_inj (Data.seq.inj (congrArg Obj.data (so ho2))).1
omit [Val] in
theorem tuple_uniq {a : Addr} {vs us : List Value} (h1 : h.IsTuple a vs.toArray) (h2 : h.IsTuple a us.toArray) : vs = us := by
 obtain ⟨o, ho, _, _, hd⟩ := h1
 obtain ⟨o2, ho2, _, _, hd2⟩ := h2
 rw [ho] at ho2
 have := so ho2
 subst this
 rw [hd] at hd2
 exact arr_inj (Data.seq.inj hd2).1
noncomputable def EqI (st : St) (f : Nat) (r : Bool) (b : D) : D → Prop
 | .none => b = .none ∧ true = r
 | .bool x => ∃ y, b = .bool y ∧ (x == y) = r
 | .int x => ∃ y, b = .int y ∧ eqInt x y = r
 | .str x => ∃ y, b = .str y ∧ eqL x y = r
 | .sym j => b = .sym j ∧ 16 ≤ j ∧ 4 ≤ f ∧ true = r
 | .list xs => ∃ ys, b = .list ys ∧ eqLs (eqD st f) xs ys = some r
 | .tup xs => ∃ ys, b = .tup ys ∧ eqGo (eqD st f) xs ys = some r
 | .ob j => ∃ k v1 m1 v2 m2, b = .ob k ∧ lk j st.mu = some (v1, m1) ∧ lk k st.mu = some (v2, m2) ∧ ((∃ xs ys, m1 = .list xs ∧ m2 = .list ys ∧ eqLs (eqD st f) xs ys = some r) ∨
   ∃ es gs, m1 = .dic es ∧ m2 = .dic gs ∧ ((Nat.beq es.length gs.length = true ∧ eqGoD (eqD st f) gs es = some r) ∨ (Nat.beq es.length gs.length = false ∧ false = r)))
 | _ => False
theorem eqD_inv {f : Nat} {a b : D} {r : Bool} (e : eqD st (f + 1) a b = some r) : EqI st f r b a := by
 induction a using D.casesOn with
 | none => induction b using D.casesOn with
  | none => exact ⟨rfl, so e⟩
  | _ => exact no e
 | bool x => induction b using D.casesOn with
  | bool y => exact ⟨y, rfl, so e⟩
  | _ => exact no e
 | int x => induction b using D.casesOn with
  | int y => exact ⟨y, rfl, so e⟩
  | _ => exact no e
 | str x => induction b using D.casesOn with
  | str y => exact ⟨y, rfl, so e⟩
  | _ => exact no e
 | sym x => induction b using D.casesOn with
  | sym y =>
   replace e : (match Nat.beq x y && Nat.ble 16 y && Nat.ble 4 f with | true => some true | false => none) = some r := e
   cases q : (Nat.beq x y && Nat.ble 16 y && Nat.ble 4 f) with
   | false => rw [q] at e; exact no e
   | true =>
    rw [q] at e
    refine x02 (Bool.and_eq_true_iff.mp q) ?_
    intro z z3
    refine x02 (Bool.and_eq_true_iff.mp z) ?_
    intro z1 z2
    have z1 := Nat.eq_of_beq_eq_true z1
    subst z1
    exact ⟨rfl, Nat.le_of_ble_eq_true z2, Nat.le_of_ble_eq_true z3, so e⟩
  | _ => exact no e
 | list x => induction b using D.casesOn with
  | list y => exact ⟨y, rfl, e⟩
  | _ => exact no e
 | tup x => induction b using D.casesOn with
  | tup y => exact ⟨y, rfl, e⟩
  | _ => exact no e
 | ob j => induction b using D.casesOn with
  | ob k =>
   replace e : (match lk j st.mu, lk k st.mu with
    | some (_, .dic es), some (_, .dic gs) => match Nat.beq es.length gs.length with
     | true => eqGoD (eqD st f) gs es
     | false => some false
    | some (_, .list xs), some (_, .list ys) => eqLs (eqD st f) xs ys
    | _, _ => none) = some r := e
   cases q1 : lk j st.mu with
   | none => rw [q1] at e; exact no e
   | some p1 =>
    obtain ⟨v1, m1⟩ := p1
    cases q2 : lk k st.mu with
    | none => rw [q1, q2] at e; induction m1 using MO.casesOn <;> exact no e
    | some p2 =>
     obtain ⟨v2, m2⟩ := p2
     rw [q1, q2] at e
     refine ⟨k, v1, m1, v2, m2, rfl, q1, q2, ?_⟩
     induction m1 using MO.casesOn with
     | list xs => induction m2 using MO.casesOn with
      | list ys => exact .inl (m23 xs ys rfl rfl e)
      | _ => exact no e
     | dic es => induction m2 using MO.casesOn with
      | dic gs =>
       replace e : (match Nat.beq es.length gs.length with | true => eqGoD (eqD st f) gs es | false => some false) = some r := e
       refine .inr (m23 es gs rfl rfl ?_)
       cases z : Nat.beq es.length gs.length with
       | true => rw [z] at e; exact .inl ⟨rfl, e⟩
       | false => rw [z] at e; exact .inr ⟨rfl, so e⟩
      | _ => exact no e
     | inst => exact no e
     | attrs => exact no e
  | _ => exact no e
 | _ => exact no e
theorem eqD_same (S : Sto prog w hT al fr st h) : ∀ (n : Nat) {v : Value} {a b : D}, RD al fr h v a → RD al fr h v b → ∀ r, eqD st n a b = some r → r = true
 | 0, _, _, _, _, _, _, e => no e
 | n + 1, v, a, b, ra, rb, r, e => by
  have one : ∀ {v : Value} {a b : D}, RD al fr h v a → RD al fr h v b → ∀ r, eqD st n a b = some r → r = true := fun ra rb r e => eqD_same S n ra rb r e
  have q := eqD_inv e
  have ra := ra.to
  clear e
  induction a using D.casesOn with
  | none => exact q.2.symm
  | bool b =>
   refine x12 q ?_
   clear q
   intro y eq1 eq2
   subst eq1
   subst eq2
   have ra : v = _ := ra
   have rb : v = _ := rb.to
   subst ra
   injection rb with rb; subst rb
   induction b using Bool.casesOn <;> rfl
  | int i =>
   refine x12 q ?_
   clear q
   intro y eq1 eq2
   subst eq1
   subst eq2
   refine x11 ra ?_
   clear ra
   intro t eq1
   subst eq1
   refine x11 rb.to ?_
   try clear rb
   intro t2 rb
   injection rb with rb; subst rb
   exact (eqInt_iff _ _).mpr rfl
  | str x =>
   refine x12 q ?_
   clear q
   intro y eq1 eq2
   subst eq1
   subst eq2
   refine x11 ra ?_
   clear ra
   intro t eq1
   subst eq1
   refine x11 rb.to ?_
   try clear rb
   intro t2 rb
   injection rb with rb
   injection rb with rb
   exact (eqL_iff _ _).mpr (arr_inj rb)
  | sym k => exact q.2.2.2.symm
  | list ds =>
   refine x12 q ?_
   clear q
   intro y eq1 q
   subst eq1
   refine x25 ra ?_
   clear ra
   intro a vs eq2 _ _ hl r1
   subst eq2
   refine x25 rb.to ?_
   intro a2 vs2 ev _ _ hl2 r2
   injection ev with ev; subst ev
   have ev := plain_uniq hl hl2
   subst ev
   exact RDs.injL one r1 r2 r q
  | tup ds =>
   refine x12 q ?_
   clear q
   intro y eq1 q
   subst eq1
   refine x25 ra ?_
   clear ra
   intro a vs eq2 _ _ hl r1
   subst eq2
   refine x25 rb.to ?_
   intro a2 vs2 ev _ _ hl2 r2
   injection ev with ev; subst ev
   have ev := tuple_uniq hl hl2
   subst ev
   exact RDs.inj one r1 r2 r q
  | ob k =>
   refine x12 ra ?_
   clear ra
   intro a eq1 hk
   subst eq1
   refine x54 q ?_
   clear q
   intro k2 v1 m1 v2 m2 eq5 q1 q2 q
   subst eq5
   refine x12 rb.to ?_
   intro a2 ev hk2
   injection ev with ev; subst ev
   have ek : k = k2 := by
    obtain ⟨l1, e1⟩ := List.getElem?_eq_some_iff.mp hk
    obtain ⟨l2, e2⟩ := List.getElem?_eq_some_iff.mp hk2
    exact (List.getElem_inj S.nd).mp (e1.trans e2.symm)
   subst ek
   rw [q1] at q2
   refine x02 (ou q2) ?_
   intro eq0 eq1
   subst eq0
   subst eq1
   refine x12 (S.mu k v1 m1 q1) ?_
   intro x hx m
   rcases q with ⟨xs, ys, rfl, e2, e⟩ | ⟨es, gs, rfl, e2, e⟩
   · injection e2 with e2; subst e2
     refine x12 m ?_
     try clear m
     intro vs hl rv
     exact RDs.injL one rv rv r e
   · injection e2 with e2; subst e2
     refine x13 m ?_
     clear m
     intro kvs hl ek rv
     have nd : (es.map (·.1)).Nodup := by
      rw [← ek]
      refine x36 hl ?_
      clear hl
      intro _ _ _ _ _ _ _ _ nd
      exact nd
     rcases e with ⟨_, e⟩ | ⟨e, _⟩
     · exact eqGoD_same S one es (fun k d q => by obtain ⟨v, _, rv⟩ := RDs.of_mem ek rv (lkI_in q); exact ⟨v, rv⟩) es (fun k d q => lkI_mem nd q) r e
     · rw [Nat.beq_refl] at e; exact nomatch e
  | _ => exact q.elim
end
end Mine
end
noncomputable section
open PySem PySem.W PyProof.Rows PySem.Spec PySem.Calls
namespace Mine
variable [Val]
open SeqAt
section
variable {prog : Program} {w : World} {nm : Nat → Str} {hT : Heap} {n : Nat} {A : Around} {env : Env} {sc : Scope} {al al' al'' fr ow : List Addr} {ρ : Env'} {st st' st'' : St} {s s' s'' : Shared} {h h' : Heap}
theorem RDs.at {vs : List Value} {ds : List D} (r : RDs al fr h vs ds) : ∀ j (h1 : j < vs.length) (h2 : j < ds.length), RD al fr h vs[j] ds[j] :=
 RDs.ind (P := fun vs ds => ∀ j (h1 : j < vs.length) (h2 : j < ds.length), RD al fr h vs[j] ds[j]) (fun y h1 => absurd h1 (Nat.not_lt_zero _)) (fun {v vs d ds} a _ ih j => by
  induction j using Nat.casesOn with
  | zero => exact fun y y => a
  | succ j => exact fun h1 h2 => ih j (Nat.lt_of_succ_lt_succ h1) (Nat.lt_of_succ_lt_succ h2)) r
theorem eqGo_inv {rec : D → D → Option Bool} {x y : D} {xs ys : List D} {r : Bool} {C : Prop} (h : eqGo rec (x :: xs) (y :: ys) = some r) (k : ∀ b t, rec x y = some b → eqGo rec xs ys = some t → (b && t) = r → C) : C := by
 replace h : (match rec x y with | some r => (match eqGo rec xs ys with | some t => some (r && t) | none => none) | none => none) = some r := h
 cases q1 : rec x y with
 | none => rw [q1] at h; exact no h
 | some b =>
  rw [q1] at h
  cases q2 : eqGo rec xs ys with
  | none => rw [q2] at h; exact no h
  | some t => rw [q2] at h; exact k b t q1 q2 (so h)
theorem eqGo_len {rec : D → D → Option Bool} : ∀ {xs ys : List D} {r : Bool}, eqGo rec xs ys = some r → xs.length = ys.length
 | [], [], _, _ => rfl
 | x :: xs, y :: ys, r, q => by
  refine eqGo_inv q fun b t j q2 j => ?_
  rw [List.length_cons, List.length_cons, eqGo_len q2]
theorem eqGo_all {rec : D → D → Option Bool} : ∀ {xs ys : List D} {r : Bool}, eqGo rec xs ys = some r →
  ∃ e : Nat → Bool, (∀ j (h1 : j < xs.length) (h2 : j < ys.length), rec xs[j] ys[j] = some (e j)) ∧ (List.range xs.length).all e = r
 | [], [], r, q => (m12 (fun z => true) (fun j h1 => nomatch h1) (so q))
 | x :: xs, y :: ys, r, q => by
  refine eqGo_inv q fun b t q1 q2 q3 => ?_
  subst q3
  refine x12 (eqGo_all q2) ?_
  intro e he hr
  refine (m12 (fun j => match j with | 0 => b | j + 1 => e j) (fun j h1 h2 => ?_) ?_)
  · induction j using Nat.casesOn with
    | zero => exact q1
    | succ j => exact he j (by simpa using h1) (by simpa using h2)
  · rw [← hr, List.length_cons, List.range_succ_eq_map, List.all_cons, List.all_map]; rfl
theorem valueAt_mem {kb : List (Int × Value)} {k : Int} {v : Value} (hn : (kb.map (·.1)).Nodup) (h : (k, v) ∈ kb) : valueAt kb k = some v := by
 induction kb with
 | nil => cases h
 | cons p r ih =>
  obtain ⟨i, u⟩ := p
  rw [List.map_cons, List.nodup_cons] at hn
  unfold valueAt
  rw [List.find?_cons]
  by_cases q : i = k
  · subst q
    have : v = u := by
     rcases List.mem_cons.mp h with z | z
     · cases z; rfl
     · exact absurd (List.mem_map_of_mem (f := (·.1)) z) hn.1
    subst this
    simp
  · have hd : decide (i = k) = false := decide_eq_false q
    simp only [hd]
    rcases List.mem_cons.mp h with z | z
    · cases z; exact absurd rfl q
    · exact ih hn.2 z
theorem lkI_none : ∀ {es : List (Int × D)} {k : Int}, lkI k es = none → ∀ d, (k, d) ∉ es
 | (i, x) :: t, k, e, d, m => by
  simp only [lkI] at e
  split at e
  · exact nomatch e
  · rename_i q
    rcases List.mem_cons.mp m with z | z
    · cases z; rw [(eqInt_iff _ _).mpr rfl] at q; exact nomatch q
    · exact lkI_none e d z
theorem valueAt_none {kb : List (Int × Value)} {es : List (Int × D)} {k : Int} (e : kb.map (·.1) = es.map (·.1)) (h : lkI k es = none) : valueAt kb k = none := by
 have key : ∀ v, (k, v) ∉ kb := fun v hv => by
  have hk : k ∈ es.map (·.1) := by rw [← e]; exact List.mem_map_of_mem (f := (·.1)) hv
  refine x12 (List.mem_map.mp hk) ?_
  intro nst1 hm eqv2
  obtain ⟨k', d⟩ := nst1
  subst eqv2
  exact lkI_none h d hm
 unfold valueAt
 rw [List.find?_eq_none.mpr]
 · rfl
 · rintro ⟨i, u⟩ hm
   simp only [decide_eq_true_eq]
   rintro rfl
   exact key u hm
theorem hits {rec : D → D → Option Bool} {A : Around} {kb : List (Int × Value)} {gs : List (Int × D)} (eb : kb.map (·.1) = gs.map (·.1)) (nb : (kb.map (·.1)).Nodup) (rb : RDs al fr s.heap (kb.map (·.2)) (gs.map (·.2)))
  (one : ∀ {v u : Value} {a b : D}, RD al fr s.heap v a → RD al fr s.heap u b → ∀ r, rec a b = some r → EqAt A s v u r) {ka : List (Int × Value)} :
  ∀ {es : List (Int × D)}, ka.map (·.1) = es.map (·.1) → RDs al fr s.heap (ka.map (·.2)) (es.map (·.2)) → ∀ r, eqGoD rec gs es = some r → KeqHits A s kb ka r := by
 induction ka using List.rec with
 | nil =>
  intro es e q r h
  induction es using List.casesOn with
  | nil => rw [← so h]; exact .nil
  | cons => exact nomatch e
 | cons p ra ih =>
  intro es e q r h
  induction es using List.casesOn with
  | nil => exact nomatch e
  | cons m t =>
   induction p using Prod.casesOn with
   | mk i u => induction m using Prod.casesOn with
    | mk j x =>
     have e1 : i = j := (List.cons.inj e).1
     have e2 := (List.cons.inj e).2
     clear e
     subst e1
     refine x23 q.to fun v vs e a b => ?_
     clear q
     have e3 : u = v := (List.cons.inj e).1
     have e4 := (List.cons.inj e).2
     clear e
     subst e3 e4
     refine eqGoD_inv h (fun z e => ?_) fun y q1 q2 z z1 z2 z3 => ?_
     · subst e
       exact .miss (valueAt_none eb z)
     · subst z3
       exact x12 (RDs.of_mem eb rb (lkI_in z)) fun v hv rv => .hit (valueAt_mem nb hv) (one a rv _ z1) (ih e2 b _ z2)
theorem len_of {kvs : List (Int × Value)} {es : List (Int × D)} (e : kvs.map (·.1) = es.map (·.1)) : kvs.length = es.length := by
 have e := congrArg List.length e
 rwa [List.length_map, List.length_map] at e
theorem top_ne {a : Addr} (S : Sto prog w hT al fr st h) (hs : ∃ o, hT.get? sysModules = some o) (ha : a ∈ al) : (a == sysModules) = false := by
 refine x11 hs ?_
 clear hs
 intro o ho
 cases q : (a == sysModules) with
 | false => rfl
 | true =>
  have : a = sysModules := by simpa using q
  subst this
  rw [(S.new _ (.inl ha)).1] at ho
  exact no ho
theorem pairs_any {p p' : Program} {w w' : World} : ∀ {es : List DictEntry} {kvs : List (Int × Value)}, Pairs (intKind p w) es kvs → Pairs (intKind p' w') es kvs
 | _, _, .nil => .nil
 | _, _, .cons a b c => .cons a b (pairs_any c)
theorem dict_any {p p' : Program} {w w' : World} {h : Heap} {a : Addr} {kvs : List (Int × Value)} (d : h.DictOf (intKind p w) a kvs) : h.DictOf (intKind p' w') a kvs := by
 refine x36 d ?_
 clear d
 intro o es ep h1 h2 h3 h4 h5 h6
 exact ⟨o, es, ep, h1, h2, h3, h4, pairs_any h5, h6⟩
noncomputable def EqW (A : Around) (s : Shared) (v u : Value) (r : Bool) : Prop := EqAt A s v u r ∧ (∀ x y, v = .ref x → u = .ref y → RcAt A s v u r ∧ RcNeAt A s v u (!r))
noncomputable def RcW (A : Around) (s : Shared) (x y : Addr) (r : Bool) : Prop := RcAt A s (.ref x) (.ref y) r ∧ RcNeAt A s (.ref x) (.ref y) (!r)
omit [Val] in
theorem EqW.val {v u : Value} {r : Bool} (h : EqAt A s v u r) (hn : ∀ x, v ≠ .ref x) : EqW A s v u r := ⟨h, fun x g q => absurd q (hn x)⟩
theorem EqW.refs (S : Sto prog w hT al fr st s.heap) {x y : Addr} {a b : D} {r : Bool} (ra : RD al fr s.heap (.ref x) a) (rb : RD al fr s.heap (.ref y) b) (e : eqD st n a b = some r) (rc : RcW A s x y r) : EqW A s (.ref x) (.ref y) r := by
 refine ⟨?_, fun g g eu ev => rc⟩
 by_cases q : x = y
 · subst q
   have : r = true := eqD_same S n ra rb r e
   subst this
   exact EqAt.same _
 · exact EqAt.of_refs q rc.1
section
variable {rec : D → D → Option Bool} (hu0 : A.units < cLine) (one : ∀ {v u : Value} {a b : D}, RD al fr s.heap v a → RD al fr s.heap u b → ∀ r, rec a b = some r → EqAt A.in1 s v u r)
include hu0 one
theorem RcW.lists {x y : Addr} {vs us : List Value} {xs ys : List D} {r : Bool} (hl : s.heap.IsList x vs.toArray) (hl2 : s.heap.IsList y us.toArray) (r1 : RDs al fr s.heap vs xs) (r2 : RDs al fr s.heap us ys) (e : eqLs rec xs ys = some r) : RcW A s x y r := by
 replace e : (match Nat.beq xs.length ys.length with
  | true => eqGo rec xs ys
  | false => some false) = some r := e
 generalize q : Nat.beq xs.length ys.length = c at e
 induction c using Bool.casesOn with
 | true =>
  have hl' : vs.length = us.length := r1.length.trans ((Nat.eq_of_beq_eq_true q).trans r2.length.symm)
  refine x12 (eqGo_all e) fun f hf hr => ?_
  have he : ∀ j (h1 : j < vs.toArray.size) (h2 : j < us.toArray.size), EqAt A.in1 s vs.toArray[j] us.toArray[j] (f j) := fun j h1 h2 => one (r1.at j h1 (r1.length ▸ h1)) (r2.at j h2 (r2.length ▸ h2)) _ (hf j (r1.length ▸ h1) (r2.length ▸ h2))
  rw [← hr, ← r1.length]
  exact ⟨RcAt.lists hl hl2 hl' hu0 he, RcNeAt.lists hl hl2 hl' hu0 he⟩
 | false =>
  rw [← so e]
  have hne : (vs.toArray.size != us.toArray.size) = true := bne_iff_ne.mpr fun z => by rw [← r1.length, ← r2.length, show vs.length = us.length from z, Nat.beq_refl] at q; exact nb q.symm
  exact ⟨RcAt.lists_lengths hl hl2 hne hu0, RcNeAt.lists_lengths hl hl2 hne hu0⟩
theorem RcW.tups {x y : Addr} {vs us : List Value} {xs ys : List D} {r : Bool} (hl : s.heap.IsTuple x vs.toArray) (hl2 : s.heap.IsTuple y us.toArray) (r1 : RDs al fr s.heap vs xs) (r2 : RDs al fr s.heap us ys) (q : eqGo rec xs ys = some r) : RcW A s x y r := by
 have hl' : vs.length = us.length := r1.length.trans ((eqGo_len q).trans r2.length.symm)
 refine x12 (eqGo_all q) fun f hf hr => ?_
 have he : ∀ j (h1 : j < vs.toArray.size) (h2 : j < us.toArray.size), EqAt A.in1 s vs.toArray[j] us.toArray[j] (f j) := fun j h1 h2 => one (r1.at j h1 (r1.length ▸ h1)) (r2.at j h2 (r2.length ▸ h2)) _ (hf j (r1.length ▸ h1) (r2.length ▸ h2))
 have hz : ((List.range (min vs.toArray.size us.toArray.size)).all f && vs.toArray.size == us.toArray.size) = r := by
  rw [← hr, ← r1.length, List.size_toArray, List.size_toArray, ← hl', Nat.min_self, beq_self_eq_true, Bool.and_true]
 rw [← hz]
 exact ⟨RcAt.tuples hl hl2 hu0 he, RcNeAt.tuples hl hl2 hu0 he⟩
theorem RcW.dicts {p : Program} {w : World} {x y : Addr} {ka kb : List (Int × Value)} {es gs : List (Int × D)} {r : Bool} (hx : (x == sysModules) = false) (hy : (y == sysModules) = false) (d1 : s.heap.DictOf (intKind p w) x ka) (d2 : s.heap.DictOf (intKind p w) y kb)
  (e1 : ka.map (·.1) = es.map (·.1)) (e2 : kb.map (·.1) = gs.map (·.1)) (r1 : RDs al fr s.heap (ka.map (·.2)) (es.map (·.2))) (r2 : RDs al fr s.heap (kb.map (·.2)) (gs.map (·.2)))
  (e : (Nat.beq es.length gs.length = true ∧ eqGoD rec gs es = some r) ∨ (Nat.beq es.length gs.length = false ∧ false = r)) : RcW A s x y r := by
 have nb : (kb.map (·.1)).Nodup := x36 d2 fun o es ep h1 h2 h3 h4 h5 h6 => h6
 have both : ∀ {r' : Bool}, (ka.length == kb.length && r') = r → (ka.length = kb.length → KeqHits A.in1 s kb ka r') → RcW A s x y r := fun hz kh => by
  subst hz
  exact ⟨fun prog' w' E Q h => keq_eq (prog := prog') (w := w') (knd := intKind prog' w') hx hy (dict_any d1) (dict_any d2) hu0 kh h,
   fun prog' w' E Q h => keq_ne (prog := prog') (w := w') (knd := intKind prog' w') hx hy (dict_any d1) (dict_any d2) hu0 kh h⟩
 rw [← len_of e1, ← len_of e2] at e
 refine e.elim (fun e => ?_) fun e => ?_
 · exact both (r' := r) (by rw [Nat.eq_of_beq_eq_true e.1, beq_self_eq_true, Bool.true_and]) fun g => hits e2 nb r2 one e1 r1 r e.2
 · have hl : ¬ ka.length = kb.length := fun q => by rw [q, Nat.beq_refl] at e; exact nomatch e.1
   exact both (r' := true) (by rw [beq_eq_false_iff_ne.mpr hl, ← e.2]; rfl) fun q => absurd q hl
end
theorem eqD_ok (hs : ∃ o, hT.get? sysModules = some o) (S : Sto prog w hT al fr st s.heap) : ∀ (n : Nat) (A : Around), A.units + n + 2 < cLine → ∀ {v u : Value} {a b : D}, RD al fr s.heap v a → RD al fr s.heap u b → ∀ r, eqD st n a b = some r → EqW A s v u r := by
 intro n
 induction n using Nat.rec with
 | zero => intro A hu v u a b ra rb r e; exact no e
 | succ n ih =>
  intro A hu v u a b ra rb r e
  have hu0 : A.units < cLine := by lia
  have one : ∀ {v u : Value} {a b : D}, RD al fr s.heap v a → RD al fr s.heap u b → ∀ r, eqD st n a b = some r → EqAt A.in1 s v u r := fun ra rb r e => (ih A.in1 (by rw [units_in1]; lia) ra rb r e).1
  have q := eqD_inv e
  have ra' := ra.to
  induction a using D.casesOn with
  | none =>
   refine x02 q fun e1 e2 => ?_
   clear q e
   subst e1 e2
   have rb : u = _ := rb.to
   have ra' : v = _ := ra'
   clear ra
   subst ra' rb
   exact .val (EqAt.same _) nofun
  | bool b =>
   refine x12 q fun y e1 e2 => ?_
   clear q e
   subst e1 e2
   have rb : u = _ := rb.to
   have ra' : v = _ := ra'
   clear ra
   subst ra' rb
   exact .val (EqAt.bool_bool _ _) nofun
  | int i =>
   refine x12 q fun y e1 e2 => ?_
   clear q e
   subst e1 e2
   refine x11 ra' fun t e1 => x11 rb.to fun t2 e2 => ?_
   clear ra ra' rb
   subst e1 e2
   exact .val (eqInt_eq _ _ ▸ EqAt.int_int _ _ _ _) nofun
  | str x =>
   refine x12 q fun y e1 e2 => ?_
   clear q e
   subst e1 e2
   refine x11 ra' fun t e1 => x11 rb.to fun t2 e2 => ?_
   clear ra ra' rb
   subst e1 e2
   exact .val (eqL_str _ _ ▸ EqAt.str_str _ _ _ _) nofun
  | sym k =>
   refine x04 q fun e1 h1 h2 e2 => ?_
   clear q e
   subst e1 e2
   exact ih A (by exact Nat.lt_of_succ_lt ‹_›) ra' rb.to true (Val.refl k st n h1 h2)
  | list xs =>
   refine x12 q fun ys e1 q2 => ?_
   clear q
   subst e1
   refine x25 ra' fun x vs e1 g1 g2 hl r1 => x25 rb.to fun y us e2 g3 g4 hl2 r2 => ?_
   clear ra'
   subst e1 e2
   exact .refs S ra rb e (.lists hu0 one hl.isList hl2.isList r1 r2 q2)
  | tup xs =>
   refine x12 q fun ys e1 q2 => ?_
   clear q
   subst e1
   refine x25 ra' fun x vs e1 g1 g2 hl r1 => x25 rb.to fun y us e2 g3 g4 hl2 r2 => ?_
   clear ra'
   subst e1 e2
   exact .refs S ra rb e (.tups hu0 one hl hl2 r1 r2 q2)
  | ob j =>
   refine x54 q fun k v1 m1 v2 m2 e1 q1 q2 q3 => ?_
   clear q
   subst e1
   refine x12 ra' fun x e1 hx => x12 rb.to fun y e2 hy => ?_
   clear ra'
   subst e1 e2
   refine .refs S ra rb e ?_
   refine x12 (S.mu j v1 m1 q1) fun x' hx' o1 => x12 (S.mu k v2 m2 q2) fun y' hy' o2 => ?_
   have ex := so (hx.symm.trans hx')
   have ey := so (hy.symm.trans hy')
   clear hx' hy' ra rb e q1 q2
   subst ex ey
   refine q3.elim (fun q => ?_) fun q => ?_
   · refine x23 q fun xs ys e1 e2 e => ?_
     subst e1 e2
     exact x12 o1 fun vs hl r1 => x12 o2 fun us hl2 r2 => .lists hu0 one hl.isList hl2.isList r1 r2 e
   · refine x23 q fun es gs e1 e2 e => ?_
     subst e1 e2
     exact x13 o1 fun ka d1 e1 r1 => x13 o2 fun kb d2 e2 r2 => .dicts hu0 one (top_ne S hs (List.mem_of_getElem? hx)) (top_ne S hs (List.mem_of_getElem? hy)) d1 d2 e1 e2 r1 r2 e
  | _ => exact q.elim
end
end Mine
end
noncomputable section
open PySem PySem.W PyProof.Rows PySem.Spec PySem.Calls
namespace Mine
variable [Val]
open SeqAt
noncomputable def copOf : COp → CmpOp
 | .eq => .Eq | .ne => .NotEq | .lt => .Lt | .le => .LtE | .gt => .Gt | .ge => .GtE | .is => .Is | .in_ => .In | .nin => .NotIn
noncomputable def bopOf : BOp → Operator
 | .add => .Add | .sub => .Sub | .mul => .Mult | .fdiv => .FloorDiv | .mod => .Mod | .pow => .Pow
theorem fits_le {n : Nat} (h : fits n = true) : n ≤ sizeLine := by
 have := Nat.le_of_ble_eq_true h
 rw [sizeLine_eq]; exact Nat.le_trans ‹_› (by decide)
theorem posI_ne {b : Int} (h : posI b = true) : b ≠ 0 ∧ b.natAbs < 1073741824 := by
 induction b using Int.casesOn with
 | ofNat n =>
  refine x02 (Bool.and_eq_true_iff.mp h) ?_
  intro h1 h2
  have h1 : 0 < n := Nat.le_of_ble_eq_true h1
  have h2 : n < 1073741824 := Nat.le_of_ble_eq_true h2
  exact ⟨by show (n : Int) ≠ 0; lia, h2⟩
 | negSucc n => exact nb h
theorem smallI_bits {i : Int} (h : smallI i = true) : Builtin.Int.intBits i ≤ 64 := by
 induction i using Int.casesOn with
 | ofNat n =>
  have : n ≤ 1099511627776 := Nat.le_of_ble_eq_true h
  exact intBits_le_64 (by show -(2 ^ 64) < (n : Int); exact Int.natCast_nonneg _) (by show (n : Int) < 2 ^ 64; exact Int.ofNat_lt.mpr (Nat.lt_of_le_of_lt ‹_› (by decide)))
 | negSucc n =>
  have : n ≤ 1099511627776 := Nat.le_of_ble_eq_true h
  exact intBits_le_64 (by exact Int.ofNat_lt.mpr (Nat.lt_of_le_of_lt ‹_› (by decide))) (by lia)
theorem smallI_mul {a b : Int} (h : smallI a = true) : IntMulOk a b := by
 unfold IntMulOk
 have := smallI_bits h
 have e : decide (Builtin.Int.intBits a > shortFactorBits) = false := decide_eq_false (by show ¬ _ > 64; simp [*])
 rw [e]
 simp
section
variable {prog : Program} {w : World} {nm : Nat → Str} {hT : Heap} {n : Nat} {A : Around} {env : Env} {sc : Scope} {al al' al'' fr ow : List Addr} {ρ : Env'} {st st' st'' : St} {s s' s'' : Shared} {h h' : Heap}
theorem inInts_hd {x : D} {xs : List D} {a : Int} {r : Bool} (e : inInts a (x :: xs) = some r) : ∃ b, x = .int b := by
 induction x using D.casesOn with
 | int b => exact ⟨b, rfl⟩
 | _ => exact no e
theorem ints_of : ∀ {xs : List D} {vs : List Value} {a : Int} {r : Bool}, RDs al fr h vs xs → inInts a xs = some r → ∃ ns, IntsAre vs ns ∧ ns.any (· == a) = r
 | [], _, a, r, q, e => by
  have := q.to
  subst this
  exact (m12 ([]) .nil (so e))
 | x :: xs, _, a, r, q, e => by
  refine x11 (inInts_hd e) ?_
  intro b eq1
  subst eq1
  refine x23 q.to ?_
  intro v us eq2 p q'
  subst eq2
  refine x11 p.to ?_
  intro t eq1
  subst eq1
  replace e : (match inInts a xs with | some t => some (eqInt b a || t) | none => none) = some r := e
  cases z : inInts a xs with
  | none => rw [z] at e; exact no e
  | some r' =>
   rw [z] at e
   refine x12 (ints_of q' z) ?_
   intro ns hi hr
   exact (m12 (b :: ns) (.cons b t hi) (by rw [List.any_cons, hr, ← eqInt_eq]; exact so e))
theorem list_of (S : Sto prog w hT al fr st h) {v : Value} {a : D} {xs : List D} (r : RD al fr h v a) (e : listOf st a = some xs) : ∃ x vs, v = .ref x ∧ h.PlainList x vs.toArray ∧ RDs al fr h vs xs := by
 replace r := r.to
 induction a using D.casesOn with
 | list ds =>
  refine x25 r ?_
  clear r
  intro x vs eq2 _ _ hl r
  subst eq2
  have e := so e
  subst e
  exact (m23 x vs rfl hl r)
 | ob k =>
  refine x12 r ?_
  clear r
  intro x eq1 hk
  subst eq1
  replace e : (match lk k st.mu with | some (_, .list xs) => some xs | _ => none) = some xs := e
  cases q : lk k st.mu with
  | none => rw [q] at e; exact no e
  | some p =>
   obtain ⟨v, m⟩ := p
   rw [q] at e
   induction m using MO.casesOn with
   | list ys =>
    have e := so e
    subst e
    obtain ⟨y, hy, vs, hl, r⟩ := S.mu k v _ q
    rw [hk] at hy
    have hy := so hy
    subst hy
    exact (m23 x vs rfl hl r)
   | _ => exact no e
 | _ => exact no e
theorem mapOf_dict {d : Addr} {kvs : List (Int × Value)} (h : s.heap.DictOf (intKind prog w) d kvs) : s.heap.MapOf (intKind prog w) d (valueAt kvs) := by
 exact h.mapOf
theorem lkI_some_iff {kvs : List (Int × Value)} {es : List (Int × D)} {k : Int} (hn : (kvs.map (·.1)).Nodup) (e : kvs.map (·.1) = es.map (·.1)) (r : RDs al fr h (kvs.map (·.2)) (es.map (·.2))) :
  (valueAt kvs k).isSome = (lkI k es).isSome := by
 cases q : lkI k es with
 | none => rw [valueAt_none e q]; rfl
 | some d =>
  refine x12 (RDs.of_mem e r (lkI_in q)) ?_
  intro v hv _
  rw [valueAt_mem hn hv]; rfl
structure OrOk (T : Tab) : Prop where
 ge : ∀ j k b, T.ge j k = some b → ∃ a c, Val.dat j = .int a ∧ Val.dat k = .int c ∧ leInt c a = b
 word : ∀ k b, T.word k = some b → ∃ s, Val.dat k = .str s ∧ eqL s wordL = b
 lst : ∀ k, T.lst k = true → ∃ xs, Val.dat k = .list xs
 same : ∀ j k b, T.same j k = some b → Val.tok j ≠ 0 ∧ Val.tok k ≠ 0 ∧ Val.tok j ≠ Val.tok k ∧ eqL (Val.txt j) (Val.txt k) = b
noncomputable def CmpI (T : Tab) (st : St) (o : COp) (r : Bool) (b : D) : D → Prop
 | .sym j => (∃ k, b = .sym k ∧ symCase T o j k = some r) ∨ (∃ y, b = .str y ∧ symWord T o j y = some r)
 | .int i => (∃ j, b = .int j ∧ cmpInt o i j = some r) ∨ inCase st o i b = some r
 | .bool i => ∃ j, b = .bool j ∧ o = .is ∧ (i == j) = r
 | .str s => (∃ t, b = .str t ∧ wordCase o (eqL s t) = some r) ∨ (∃ e, b = .word e ∧ eqL s wordL = true ∧ wordCase o e = some r) ∨ (∃ k, b = .sym k ∧ symWord T o k s = some r)
 | .word e => ∃ s, b = .str s ∧ eqL s wordL = true ∧ wordCase o e = some r
 | .list xs => ∃ ys, b = .list ys ∧ eqCase st o (.list xs) (.list ys) = some r
 | .tup xs => ∃ ys, b = .tup ys ∧ eqCase st o (.tup xs) (.tup ys) = some r
 | .ob j => ∃ k, b = .ob k ∧ eqCase st o (.ob j) (.ob k) = some r
 | _ => False
omit [Val] in
theorem wordI {s : List Nat} {x : Option Bool} {r : Bool} (e : (match eqL s wordL with | true => x | false => none) = some r) : eqL s wordL = true ∧ x = some r := by
 cases q : eqL s wordL with
 | true => rw [q] at e; exact ⟨rfl, e⟩
 | false => rw [q] at e; exact no e
theorem symWord_inv {T : Tab} {o : COp} {k : Nat} {s : List Nat} {r : Bool} (e : symWord T o k s = some r) : s = wordL ∧ ∃ b, T.word k = some b ∧ wordCase o b = some r := by
 refine x02 (wordI e) ?_
 try clear e
 intro h1 e
 refine ⟨(eqL_iff _ _).mp h1, ?_⟩
 cases q : T.word k with
 | none => rw [q] at e; exact no e
 | some b => rw [q] at e; exact (m12 b rfl e)
omit [Val] in
theorem cmpD_inv {T : Tab} {o : COp} {a b : D} {r : Bool} (e : cmpD T st o a b = some r) : CmpI T st o r b a := by
 induction a using D.casesOn with
 | sym j => induction b using D.casesOn with
  | sym k => exact .inl (m12 k rfl e)
  | str y => exact .inr (m12 y rfl e)
  | _ => exact no e
 | int i => induction b using D.casesOn with
  | int j => exact .inl (m12 j rfl e)
  | _ => exact .inr e
 | bool i => induction b using D.casesOn with
  | bool j => induction o using COp.casesOn with
   | is => exact ⟨j, rfl, rfl, so e⟩
   | _ => exact no e
  | _ => exact no e
 | str x => induction b using D.casesOn with
  | str y => exact .inl (m12 y rfl e)
  | word e' => exact .inr (.inl (m12 e' rfl (wordI e)))
  | sym k => exact .inr (.inr (m12 k rfl e))
  | _ => exact no e
 | word e' => induction b using D.casesOn with
  | str y => exact ⟨y, rfl, wordI e⟩
  | _ => exact no e
 | list x => induction b using D.casesOn with
  | list y => exact ⟨y, rfl, e⟩
  | _ => exact no e
 | tup x => induction b using D.casesOn with
  | tup y => exact ⟨y, rfl, e⟩
  | _ => exact no e
 | ob x => induction b using D.casesOn with
  | ob y => exact ⟨y, rfl, e⟩
  | _ => exact no e
 | _ => exact no e
noncomputable def CmpR (prog : Program) (w : World) (A : Around) (hT : Heap) (al fr : List Addr) (st : St) (s : Shared) (o : COp) (v u : Value) (r : Bool) : Prop :=
 wpAny (model prog w) A (compareOp (copOf o) v u) (fun x s' => x = .bool r ∧ Stp prog w hT fr [] al al st st s s') FF s
theorem cmp_in (hs : ∃ o, hT.get? sysModules = some o) (S : Sto prog w hT al fr st s.heap) {o : COp} {u : Value} {b : D} (rb : RD al fr s.heap u b) {i : Int} {t : Tok} {r : Bool} (e : inCase st o i b = some r) : CmpR prog w A hT al fr st s o (.int i t) u r := by
 induction o using COp.casesOn with
 | in_ =>
  have rb := rb.to
  induction b using D.casesOn with
  | list xs =>
   refine x25 rb ?_
   clear rb
   intro x vs eq2 _ _ hl q
   subst eq2
   refine x12 (ints_of q e) ?_
   intro ns hi hr
   exact in_list_ints hl.isList hi ⟨by rw [hr], Stp.refl S⟩
  | ob k =>
   refine x12 rb ?_
   clear rb
   intro x eq1 hk
   subst eq1
   replace e : (match lk k st.mu with
    | some (_, .dic es) => some (lkI i es).isSome
    | some (_, .list xs) => inInts i xs
    | _ => none) = some r := e
   cases q : lk k st.mu with
   | none => rw [q] at e; exact no e
   | some p =>
    obtain ⟨v, m⟩ := p
    rw [q] at e
    refine x12 (S.mu k v _ q) ?_
    intro y hy m'
    rw [hk] at hy
    have hy := so hy
    subst hy
    induction m using MO.casesOn with
    | dic es =>
     have e := so e
     subst e
     refine x13 m' ?_
     clear m'
     intro kvs hd ek rv
     have nd : (kvs.map (·.1)).Nodup := by obtain ⟨_, _, _, _, _, _, _, _, nd⟩ := hd; exact nd
     exact wpAny_in_of (knd := intKind prog w) (k := i) (by exact if_pos rfl) (top_ne S hs (List.mem_of_getElem? hk)) (mapOf_dict hd) ⟨by rw [lkI_some_iff nd ek rv], Stp.tok (htk := Nat.le_succ _) S⟩
    | list xs =>
     refine x12 m' ?_
     clear m'
     intro vs hl rv
     refine x12 (ints_of rv e) ?_
     intro ns hi hr
     exact in_list_ints hl.isList hi ⟨by rw [hr], Stp.refl S⟩
    | _ => exact no e
  | _ => exact no e
 | nin =>
  replace e : (match listOf st b with
   | some xs => match inInts i xs with | some r => some (!r) | none => none
   | none => none) = some r := e
  cases q : listOf st b with
  | none => rw [q] at e; exact no e
  | some xs =>
   rw [q] at e
   refine x23 (list_of S rb q) ?_
   intro x vs eq2 hl rv
   subst eq2
   cases q2 : inInts i xs with
   | none => simp only [q2] at e; exact no e
   | some r' =>
    simp only [q2] at e
    refine x12 (ints_of rv q2) ?_
    intro ns hi hr
    have e := so e
    subst e
    exact notin_list_ints hl.isList hi ⟨by rw [hr], Stp.refl S⟩
 | _ => exact no e
theorem cmp_eq (hs : ∃ o, hT.get? sysModules = some o) (S : Sto prog w hT al fr st s.heap) (hu : A.units + 20 < cLine) {o : COp} {x y : Addr} {a b : D} (ra : RD al fr s.heap (.ref x) a) (rb : RD al fr s.heap (.ref y) b) {r : Bool} (e : eqCase st o a b = some r) : CmpR prog w A hT al fr st s o (.ref x) (.ref y) r := by
 induction o using COp.casesOn with
 | eq => exact ((eqD_ok hs S 12 A (by lia) ra rb r e).2 x y rfl rfl).1 prog w FF _ ⟨rfl, Stp.refl S⟩
 | ne =>
  replace e : (match eqD st 12 a b with | some r => some (!r) | none => none) = some r := e
  cases q : eqD st 12 a b with
  | none => rw [q] at e; exact no e
  | some r' =>
   rw [q] at e
   have e := so e
   subst e
   exact ((eqD_ok hs S 12 A (by lia) ra rb r' q).2 x y rfl rfl).2 prog w FF _ ⟨rfl, Stp.refl S⟩
 | _ => exact no e
theorem cmp_word (S : Sto prog w hT al fr st s.heap) {o : COp} {x y : List Nat} {t t' : Tok} {r : Bool} (e : wordCase o (eqL x y) = some r) : CmpR prog w A hT al fr st s o (.str ⟨x.toArray⟩ t) (.str ⟨y.toArray⟩ t') r := by
 induction o using COp.casesOn with
 | eq => exact PyProof.Rows.eq_str ⟨by rw [← eqL_str, so e], Stp.refl S⟩
 | ne => exact PyProof.Rows.ne_str ⟨by rw [← so e, eqL_str]; rfl, Stp.refl S⟩
 | _ => exact no e
theorem cmp_int (S : Sto prog w hT al fr st s.heap) {o : COp} {i j : Int} {t t' : Tok} {r : Bool} (e : cmpInt o i j = some r) : CmpR prog w A hT al fr st s o (.int i t) (.int j t') r := by
 induction o using COp.casesOn with
 | eq => exact PyProof.Rows.eq_int ⟨by rw [← so e, eqInt_eq], Stp.refl S⟩
 | ne => exact PyProof.Rows.ne_int ⟨by rw [← so e, eqInt_eq]; rfl, Stp.refl S⟩
 | lt => exact PyProof.Rows.lt_int ⟨by rw [← so e, ltInt_eq], Stp.refl S⟩
 | le => exact PyProof.Rows.le_int ⟨by rw [← so e, leInt_eq], Stp.refl S⟩
 | gt => exact PyProof.Rows.gt_int ⟨by rw [← so e, ltInt_eq], Stp.refl S⟩
 | ge => exact PyProof.Rows.ge_int ⟨by rw [← so e, leInt_eq], Stp.refl S⟩
 | _ => exact no e
theorem eqL_comm (x y : List Nat) : eqL x y = eqL y x := by rw [eqL_str, eqL_str]; exact Bool.beq_comm
theorem cmp_sym {T : Tab} (OT : OrOk T) (hs : ∃ o, hT.get? sysModules = some o) (S : Sto prog w hT al fr st s.heap) (hu : A.units + 20 < cLine) {o : COp} {v u : Value} {j k : Nat} (q : RD al fr s.heap v (Val.dat j)) (q2 : RD al fr s.heap u (Val.dat k)) {r : Bool} (e : symCase T o j k = some r) : CmpR prog w A hT al fr st s o v u r := by
 have lists : ∀ {b : Bool}, (match Nat.beq j k && Nat.ble 16 k && T.lst k with | true => some b | false => none) = some r → b = r ∧ eqD st 12 (Val.dat j) (Val.dat k) = some true ∧ (∃ x y, v = .ref x ∧ u = .ref y) := by
  intro b z
  cases z' : (Nat.beq j k && Nat.ble 16 k && T.lst k) with
  | false => rw [z'] at z; exact no z
  | true =>
   rw [z'] at z
   refine x02 (Bool.and_eq_true_iff.mp z') ?_
   try clear z'
   intro z' z3
   refine x02 (Bool.and_eq_true_iff.mp z') ?_
   intro z1 z2
   have z1 := Nat.eq_of_beq_eq_true z1
   subst z1
   refine x11 (OT.lst _ z3) ?_
   intro xs hx
   refine ⟨so z, Val.refl j st 12 (Nat.le_of_ble_eq_true z2) (by decide), ?_⟩
   rw [hx] at q q2
   refine x22 q.to ?_
   intro x _ eq2 _
   subst eq2
   refine x22 q2.to ?_
   intro y _ eq2 _
   subst eq2
   exact (m22 x y rfl rfl)
 induction o using COp.casesOn with
 | ge =>
  refine x23 (OT.ge _ _ _ e) ?_
  intro a c h1 h2 h3
  rw [h1] at q
  rw [h2] at q2
  refine x11 q.to ?_
  intro t eq1
  subst eq1
  refine x11 q2.to ?_
  intro t2 eq1
  subst eq1
  exact PyProof.Rows.ge_int ⟨by rw [← h3, leInt_eq], Stp.refl S⟩
 | eq =>
  obtain ⟨rfl, h1, x, y, rfl, rfl⟩ := lists (b := true) e
  exact ((eqD_ok hs S 12 A (by lia) q q2 true h1).2 x y rfl rfl).1 prog w FF _ ⟨rfl, Stp.refl S⟩
 | ne =>
  obtain ⟨rfl, h1, x, y, rfl, rfl⟩ := lists (b := false) e
  exact ((eqD_ok hs S 12 A (by lia) q q2 true h1).2 x y rfl rfl).2 prog w FF _ ⟨rfl, Stp.refl S⟩
 | _ => exact no e
theorem cmp_ok {T : Tab} (OT : OrOk T) (hs : ∃ o, hT.get? sysModules = some o) (S : Sto prog w hT al fr st s.heap) (hu : A.units + 20 < cLine) {o : COp} {v u : Value} {a b : D} (ra : RD al fr s.heap v a) (rb : RD al fr s.heap u b) {r : Bool} (e : cmpD T st o a b = some r) :
  wpAny (model prog w) A (compareOp (copOf o) v u) (fun x s' => x = .bool r ∧ Stp prog w hT fr [] al al st st s s') FF s := by
 have q := cmpD_inv e
 clear e
 have ra' := ra.to
 show CmpR prog w A hT al fr st s o v u r
 induction a using D.casesOn with
 | sym j =>
  rcases q with ⟨k, rfl, e⟩ | ⟨y, rfl, e⟩
  · exact cmp_sym OT hs S hu ra' rb.to e
  · obtain ⟨rfl, b', z2, e⟩ := symWord_inv e
    refine x12 (OT.word _ _ z2) ?_
    intro x h1 eq2
    subst eq2
    have ra' : RD al fr s.heap v (Val.dat j) := ra'
    rw [h1] at ra'
    refine x11 ra'.to ?_
    intro t eq1
    subst eq1
    refine x11 rb.to ?_
    intro t2 eq1
    subst eq1
    exact cmp_word S e
 | int i =>
  refine x11 ra' ?_
  clear ra'
  intro t eq1
  subst eq1
  rcases q with ⟨j, rfl, e⟩ | e
  · refine x11 rb.to ?_
    intro t2 eq1
    subst eq1
    exact cmp_int S e
  · exact cmp_in hs S rb e
 | bool i =>
  refine x13 q ?_
  clear q
  intro j eq1 eq2 eq3
  subst eq1
  subst eq2
  subst eq3
  have ra' : v = _ := ra'
  have rb : u = _ := rb.to
  subst ra' rb
  exact is_bool ⟨rfl, Stp.refl S⟩
 | str x =>
  refine x11 ra' ?_
  clear ra'
  intro t eq1
  subst eq1
  rcases q with ⟨y, rfl, e⟩ | ⟨b', rfl, h1, e⟩ | ⟨k, rfl, e⟩
  · refine x11 rb.to ?_
    intro t2 eq1
    subst eq1
    exact cmp_word S e
  · refine x22 rb.to ?_
    intro y t2 eq2 hw
    subst eq2
    have := (eqL_iff _ _).mp h1
    subst this
    exact cmp_word S (by rw [eqL_comm, hw]; exact e)
  · obtain ⟨rfl, b', z2, e⟩ := symWord_inv e
    refine x12 (OT.word _ _ z2) ?_
    intro y h1 eq2
    subst eq2
    have rb : RD al fr s.heap u (Val.dat k) := rb.to
    rw [h1] at rb
    refine x11 rb.to ?_
    intro t2 eq1
    subst eq1
    exact cmp_word S (by rw [eqL_comm]; exact e)
 | word b' =>
  refine x22 ra' ?_
  clear ra'
  intro x t eq2 hw
  subst eq2
  refine x13 q ?_
  clear q
  intro y eq1 h1 e
  subst eq1
  have := (eqL_iff _ _).mp h1
  subst this
  refine x11 rb.to ?_
  intro t2 eq1
  subst eq1
  exact cmp_word S (by rw [hw]; exact e)
 | list xs =>
  refine x22 ra' ?_
  clear ra'
  intro x vs eq2 _
  subst eq2
  refine x12 q ?_
  clear q
  intro ys eq1 e
  subst eq1
  refine x22 (id rb.to) ?_
  intro y us eq2 _
  subst eq2
  exact cmp_eq hs S hu ra rb e
 | tup xs =>
  refine x22 ra' ?_
  clear ra'
  intro x vs eq2 _
  subst eq2
  refine x12 q ?_
  clear q
  intro ys eq1 e
  subst eq1
  refine x22 (id rb.to) ?_
  intro y us eq2 _
  subst eq2
  exact cmp_eq hs S hu ra rb e
 | ob xs =>
  refine x12 ra' ?_
  clear ra'
  intro x eq1 _
  subst eq1
  refine x12 q ?_
  clear q
  intro ys eq1 e
  subst eq1
  refine x12 (id rb.to) ?_
  intro y eq1 _
  subst eq1
  exact cmp_eq hs S hu ra rb e
 | _ => exact q.elim
theorem addLists {l b : Addr} {vs us : List Value} {Q : Value → Shared → Prop} {E : Value → Shared → Prop} (hl : s.heap.IsList l vs.toArray) (hb : s.heap.IsList b us.toArray) (hsz : vs.length + us.length ≤ sizeLine)
  (q : Q (.ref s.heap.objs.size) { s with heap := s.heap.push { cls := .type "list", data := .seq (vs ++ us).toArray } }) : wpAny (model prog w) A (binaryOp .Add (.ref l) (.ref b)) Q E s := by
 obtain ⟨⟨c1, d1, e1, f1⟩, ho, hc, k1, hd⟩ := id hl
 obtain ⟨⟨c2, d2, e2, f2⟩, ho2, hc2, k2, hd2⟩ := id hb
 dsimp only at hc hd hc2 hd2
 subst hc hd hc2 hd2
 refine concat_meets ⟨_, ho, rfl⟩ ⟨_, ho2, rfl⟩ noFill_list_add seq_list_add PySem.F.slot_list_add PySem.F.entry_list_add (PySem.F.args_list_add_2 _ _) (list_addW l b vs.toArray us.toArray k1 k2 d1 d2 f1 f2 (by simpa using hsz)) ⟨ho, ho2, ?_⟩
 rw [List.append_toArray vs us]
 exact q
theorem addTuples {l b : Addr} {vs us : List Value} {Q : Value → Shared → Prop} {E : Value → Shared → Prop} (hl : s.heap.IsTuple l vs.toArray) (hb : s.heap.IsTuple b us.toArray) (n1 : vs ≠ []) (n2 : us ≠ []) (hsz : vs.length + us.length ≤ sizeLine)
  (q : Q (.ref s.heap.objs.size) { s with heap := s.heap.push { cls := .type "tuple", data := .seq (vs ++ us).toArray } }) : wpAny (model prog w) A (binaryOp .Add (.ref l) (.ref b)) Q E s := by
 obtain ⟨⟨c1, d1, e1, f1⟩, ho, hc, k1, hd⟩ := id hl
 obtain ⟨⟨c2, d2, e2, f2⟩, ho2, hc2, k2, hd2⟩ := id hb
 dsimp only at hc hd hc2 hd2
 subst hc hd hc2 hd2
 refine concat_meets ⟨_, ho, rfl⟩ ⟨_, ho2, rfl⟩ noFill_tuple_add seq_tuple_add PySem.F.slot_tuple_add PySem.F.entry_tuple_add (PySem.F.args_tuple_add_2 _ _) (tuple_addW2 l b vs.toArray us.toArray k1 k2 d1 d2 f1 f2 (by simpa using n1) (by simpa using n2) (by simpa using hsz)) ⟨ho, ho2, ?_⟩
 rw [List.append_toArray vs us]
 exact q
theorem newL_ok (S : Sto prog w hT al fr st s.heap) {vs : List Value} {xs : List D} (r : RDs al fr s.heap vs xs) {m : Bool} {d : D} (e : newL m st xs = (d, st')) {tk : Nat} (htk : s.toks ≤ tk := by trivial) :
  PostE prog w hT al fr st st' s d (.ref s.heap.objs.size) { s with heap := s.heap.push { cls := .type "list", data := .seq vs.toArray }, toks := tk } := by
 have hl : (s.heap.push { cls := .type "list", data := .seq vs.toArray }).PlainList s.heap.objs.size vs.toArray := ⟨0, Heap.get?_push_size _ rfl⟩
 induction m using Bool.casesOn with
 | false =>
  cases e
  have S' := Stp.push (prog := prog) (w := w) (o := { cls := .type "list", data := .seq vs.toArray }) (tk := tk) S
  exact ⟨al, S', .list _ vs xs (S.fresh (Nat.le_refl _)).1 (S.fresh (Nat.le_refl _)).2 hl (r.step S')⟩
 | true =>
  cases e
  have z := Stp.newM (prog := prog) (w := w) (mo := .list xs) (tk := tk) S (Nat.le_refl _) (by rw [Heap.size_push]; exact Nat.lt_succ_self _) (by rw [Heap.size_push]; exact Nat.le_succ _) (fun b o x => Heap.get?_push_of_some _ x) ⟨vs, hl, r⟩
  exact ⟨_, z.1, z.2⟩
theorem newT_ok (S : Sto prog w hT al fr st s.heap) {vs : List Value} {xs : List D} (r : RDs al fr s.heap vs xs) {tk : Nat} (htk : s.toks ≤ tk := by trivial) :
  PostE prog w hT al fr st st s (.tup xs) (.ref s.heap.objs.size) { s with heap := s.heap.push { cls := .type "tuple", data := .seq vs.toArray }, toks := tk } := by
 have hl : (s.heap.push { cls := .type "tuple", data := .seq vs.toArray }).IsTuple s.heap.objs.size vs.toArray := ⟨_, Heap.get?_push_size _ rfl, rfl, 0, rfl⟩
 have S' := Stp.push (prog := prog) (w := w) (o := { cls := .type "tuple", data := .seq vs.toArray }) (tk := tk) S
 exact ⟨al, S', .tup _ vs xs (S.fresh (Nat.le_refl _)).1 (S.fresh (Nat.le_refl _)).2 hl (r.step S')⟩
theorem rep_txt {x : List Nat} : ∀ (k : Nat) (acc : Array Nat), (List.replicate k x.toArray).foldl (· ++ ·) acc = acc ++ (repN x k).toArray
 | 0, acc => by exact Array.toArray_toList ..
 | k + 1, acc => by
  rw [List.replicate_succ, List.foldl_cons, rep_txt k]
  simp [repN]
theorem txtMul_eq {x : List Nat} {k : Nat} : Txt.mul ⟨x.toArray⟩ (k : Int) = ⟨(repN x k).toArray⟩ := by
 unfold Txt.mul
 split
 · have : k = 0 := by lia
   subst this; rfl
 · split
   · rename_i h
     rcases Bool.or_eq_true_iff.mp h with h | h
     · have h : (k : Int) = 1 := by simpa using h
       have : k = 1 := by exact Int.ofNat.inj ‹_›
       subst this
       simp [repN]
     · have h : x = [] := by
         have : x.toArray.size = 0 := by simpa [Str.length] using h
         simpa using this
       subst h
       have : ∀ k, repN [] k = [] := fun k => by induction k with
        | zero => rfl
        | succ k ih => assumption
       rw [this]
   · rw [Int.toNat_natCast, rep_txt]; simp
theorem mulOk_of {x : List Nat} {k : Nat} (h1 : k ≤ 30) (h2 : x.length ≤ 30) : MulOk ⟨x.toArray⟩ (k : Int) := by
 have e : (⟨x.toArray⟩ : Str).length = x.length := by exact List.size_toArray ..
 refine ⟨?_, fun h j => ?_, fun h j => ?_⟩
 · rw [decide_eq_false (by simp [*]), decide_eq_false (by lia)]; rfl
 · rw [e]
   have : (2 ^ 63 - 1 : Int) / (k : Int) ≥ (2 ^ 63 - 1 : Int) / 30 := by
    refine (Int.le_ediv_iff_mul_le (by omega)).mpr ?_
    have : (2 ^ 63 - 1 : Int) / 30 * k ≤ (2 ^ 63 - 1 : Int) / 30 * 30 := Int.mul_le_mul_of_nonneg_left (by exact Int.ofNat_le.mpr ‹_›) (by decide)
    exact Int.le_trans ‹_› (by decide)
   have h3 : ((2 ^ 63 - 1 : Int) / 30) ≥ 1000 := by decide
   lia
 · rw [e, Int.toNat_natCast]
   have : x.length * k ≤ 30 * 30 := Nat.mul_le_mul h2 h1
   unfold Builtin.Str.tooLong
   rw [sizeLine_eq]
   exact decide_eq_false (by lia)
theorem mulList {l : Addr} {vs : List Value} {k : Nat} {u : Tok} {Q : Value → Shared → Prop} {E : Value → Shared → Prop} (hl : s.heap.PlainList l vs.toArray) (h1 : k ≤ 30) (h2 : vs.length ≤ 30)
  (q : Q (.ref s.heap.objs.size) { s with heap := s.heap.push { cls := .type "list", data := .seq (List.replicate k vs).flatten.toArray } }) : wpAny (model prog w) A (binaryOp .Mult (.ref l) (.int k u)) Q E s := by
 refine x11 hl ?_
 clear hl
 intro j hl
 have hsz : vs.toArray.size * (k : Int).toNat ≤ 2 ^ 24 := by
  rw [Int.toNat_natCast, List.size_toArray]
  exact Nat.le_trans (Nat.mul_le_mul h2 h1) (by decide)
 have hlo : -(2 ^ 63 : Int) ≤ (k : Int) := by exact Int.natCast_nonneg _
 have hhi : (k : Int) < 2 ^ 63 := by exact Int.ofNat_lt.mpr (Nat.lt_of_le_of_lt ‹_› (by decide))
 have hn : (k : Int).toNat = k := Int.toNat_natCast k
 generalize (k : Int) = x at hsz hlo hhi hn
 refine wpAny_binaryOp_repeat_ref (T := "list") (U := "int") (by decide) ⟨_, hl, rfl⟩ (fun s' => typeIs_int s' x u) noFill_list_mul PySem.F.fills_int_mul PySem.F.slot_int_rmul repeat_list PySem.F.slot_int_index.lookup
  (call_meets PySem.F.slot_int_rmul (typeIs_int s x u) PySem.F.entry_int_rmul (PySem.F.args_int_rmul_2 _ _) (int___rmul___int_list x u l vs.toArray j)
   ⟨hl, rfl, ⟨_, hl, rfl⟩, call_meets PySem.F.slot_list_mul ⟨_, hl, rfl⟩ PySem.F.entry_list_mul (PySem.F.args_list_mul_2 _ _)
    (AutoListH.list___mul___list_int_3 l vs.toArray j x u (by simp [Builtin.List.listFitsIndex]; lia) (by lia) (by simp [Builtin.List.listTooLong, sizeLine]; assumption))
    ⟨hl, ?_⟩⟩)
 have e := listMul_foldl_if vs.toArray k
 rw [hn]
 rw [e]
 exact q
omit [Val] in
theorem fdiv_num {i : Int} {m r k : Nat} (hk : m % k = 0) (h0 : 0 < k) (hi : i % (m : Int) = (r : Int)) : (i.fdiv (k : Int)) % ((m / k : Nat) : Int) = ((r / k : Nat) : Int) := by
 rw [Int.fdiv_eq_ediv_of_nonneg _ (by exact Int.natCast_nonneg _)]
 refine x11 (Nat.dvd_of_mod_eq_zero hk) ?_
 intro c eq1
 subst eq1
 rw [Nat.mul_div_cancel_left c h0]
 have e := Int.mul_ediv_add_emod i ((k * c : Nat) : Int)
 rw [hi] at e
 have e2 : i / (k : Int) = (c : Int) * (i / ((k * c : Nat) : Int)) + (r : Int) / (k : Int) := by
  conv => lhs; rw [← e]
  have : ((k * c : Nat) : Int) * (i / ((k * c : Nat) : Int)) + (r : Int) = (r : Int) + (k : Int) * ((c : Int) * (i / ((k * c : Nat) : Int))) := by
   rw [Int.natCast_mul, Int.mul_assoc, Int.add_comm]
  rw [this, Int.add_mul_ediv_left _ _ (by lia), Int.add_comm]
 rcases Nat.eq_zero_or_pos c with rfl | hc
 · rw [e2]; simp
 · have hr : r < k * c := by
     have := Int.emod_lt_of_pos i (show (0 : Int) < ((k * c : Nat) : Int) by have := Nat.mul_pos h0 hc; exact Int.ofNat_lt.mpr ‹_›)
     rw [hi] at this; exact Int.ofNat_lt.mp ‹_›
   rw [e2, Int.mul_add_emod_self_left]
   have : r / k < c := Nat.div_lt_of_lt_mul hr
   rw [← Int.natCast_ediv]
   exact Int.emod_eq_of_lt (Int.natCast_nonneg _) (Int.ofNat_lt.mpr this)
omit [Val] in
theorem fmod_num {i : Int} {m r k : Nat} (hk : m % k = 0) (h0 : 0 < k) (hi : i % (m : Int) = (r : Int)) : i.fmod (k : Int) = Int.ofNat (r % k) := by
 rw [Int.fmod_eq_emod_of_nonneg _ (by exact Int.natCast_nonneg _)]
 refine x11 (Nat.dvd_of_mod_eq_zero hk) ?_
 intro c eq1
 subst eq1
 have : i % (k : Int) = (i % ((k * c : Nat) : Int)) % (k : Int) := by
  rw [Int.natCast_mul]
  exact (Int.emod_emod_of_dvd i (Int.dvd_mul_right ..)).symm
 rw [this, hi]
 rfl
omit [Val] in
theorem ifI {α : Type} {c : Bool} {x : Option α} {r : α} (e : (match c with | true => x | false => none) = some r) : c = true ∧ x = some r := by
 induction c using Bool.casesOn with
 | true => exact ⟨rfl, e⟩
 | false => exact no e
omit [Val] in
theorem intI {α : Type} {F : Int → Option α} {b : D} {r : α} (e : (match b with | .int j => F j | _ => none) = some r) : ∃ j, b = .int j ∧ F j = some r := by
 induction b using D.casesOn with
 | int j => exact (m12 j rfl e)
 | _ => exact no e
omit [Val] in
theorem oSt {α : Type} {F : St → Option α} {x : Option (St)} {r : α} (e : (match x with | some d => F d | none => none) = some r) : ∃ d, x = some d ∧ F d = some r := by
 induction x using Option.casesOn with
 | none => exact no e
 | some d => exact (m12 d rfl e)
omit [Val] in
theorem oTx {α : Type} {F : List Nat → Option α} {x : Option (List Nat)} {r : α} (e : (match x with | some d => F d | none => none) = some r) : ∃ d, x = some d ∧ F d = some r := by
 induction x using Option.casesOn with
 | none => exact no e
 | some d => exact (m12 d rfl e)
omit [Val] in
theorem oBo {α : Type} {F : Bool → Option α} {x : Option (Bool)} {r : α} (e : (match x with | some d => F d | none => none) = some r) : ∃ d, x = some d ∧ F d = some r := by
 induction x using Option.casesOn with
 | none => exact no e
 | some d => exact (m12 d rfl e)
omit [Val] in
theorem oNa {α : Type} {F : Nat → Option α} {x : Option (Nat)} {r : α} (e : (match x with | some d => F d | none => none) = some r) : ∃ d, x = some d ∧ F d = some r := by
 induction x using Option.casesOn with
 | none => exact no e
 | some d => exact (m12 d rfl e)
omit [Val] in
theorem oDa {α : Type} {F : D → Option α} {x : Option (D)} {r : α} (e : (match x with | some d => F d | none => none) = some r) : ∃ d, x = some d ∧ F d = some r := by
 induction x using Option.casesOn with
 | none => exact no e
 | some d => exact (m12 d rfl e)
omit [Val] in
theorem oPs {α : Type} {F : List Str → Option α} {x : Option (List Str)} {r : α} (e : (match x with | some d => F d | none => none) = some r) : ∃ d, x = some d ∧ F d = some r := by
 induction x using Option.casesOn with
 | none => exact no e
 | some d => exact (m12 d rfl e)
omit [Val] in
theorem lstI {α : Type} {F : List D → Option α} {x : Option (List D)} {r : α} (e : (match x with | some d => F d | none => none) = some r) : ∃ d, x = some d ∧ F d = some r := by
 induction x using Option.casesOn with
 | none => exact no e
 | some d => exact (m12 d rfl e)
omit [Val] in
theorem oEn {α : Type} {F : Env' → Option α} {x : Option (Env')} {r : α} (e : (match x with | some d => F d | none => none) = some r) : ∃ d, x = some d ∧ F d = some r := by
 induction x using Option.casesOn with
 | none => exact no e
 | some d => exact (m12 d rfl e)
theorem natI {α : Type} {F : Nat → Option α} {j : Int} {r : α} (e : (match nat? j with | some k => F k | none => none) = some r) : ∃ k : Nat, j = k ∧ F k = some r := by
 cases q : nat? j with
 | none => rw [q] at e; exact no e
 | some k => rw [q] at e; exact (m12 k (nat?_eq q) e)
noncomputable def BinR (prog : Program) (w : World) (A : Around) (hT : Heap) (al fr : List Addr) (st st' : St) (s : Shared) (o : BOp) (v u : Value) (d : D) : Prop :=
 wpAny (model prog w) A (binaryOp (bopOf o) v u) (PostE prog w hT al fr st st' s d) FF s
theorem tokI (S : Sto prog w hT al fr st s.heap) {i j : Int} {t : Tok} (r : RD al fr s.heap (.int i t) (.int j)) : PostE prog w hT al fr st st s (.int j) (.int i t) { s with toks := s.toks + 1 } := .tok (htk := Nat.le_succ _) S r
theorem bin_add (S : Sto prog w hT al fr st s.heap) {m : Bool} {v u : Value} {a b d : D} (ra : RD al fr s.heap v a) (rb : RD al fr s.heap u b) (e : binD st .add m a b = some (d, st')) : BinR prog w A hT al fr st st' s .add v u d := by
 have addL : addLs st m a b = some (d, st') → BinR prog w A hT al fr st st' s .add v u d := by
  intro e
  replace e : (match listOf st a, listOf st b with
   | some x, some y => match fits (x.length + y.length) with
    | true => some (newL m st (x ++ y))
    | false => none
   | _, _ => none) = some (d, st') := e
  cases q1 : listOf st a with
  | none => rw [q1] at e; exact no e
  | some x =>
   cases q2 : listOf st b with
   | none => rw [q1, q2] at e; exact no e
   | some y =>
    rw [q1, q2] at e
    refine x02 (ifI e) ?_
    try clear e
    intro q3 e
    refine x23 (list_of S ra q1) ?_
    intro l vs eq2 hl r1
    subst eq2
    refine x23 (list_of S rb q2) ?_
    intro l2 us eq2 hl2 r2
    subst eq2
    refine addLists hl.isList hl2.isList (by rw [r1.length, r2.length]; exact fits_le q3) ?_
    exact newL_ok (htk := Nat.le_refl _) S (r1.append r2) (so e)
 induction a using D.casesOn with
 | int i =>
  refine x12 (intI e) ?_
  try clear e
  intro j eq1 e
  subst eq1
  refine ouK e ?_
  refine x11 ra.to ?_
  intro t eq1
  subst eq1
  refine x11 rb.to ?_
  intro t2 eq1
  subst eq1
  exact PyProof.Rows.add_int (tokI S (.int _ _))
 | str x => induction b using D.casesOn with
  | str y =>
   refine x02 (ifI e) ?_
   try clear e
   intro q e
   refine ouK e ?_
   refine x11 ra.to ?_
   intro t eq1
   subst eq1
   refine x11 rb.to ?_
   intro t2 eq1
   subst eq1
   refine wpAny_with_toks (Nat.le_refl _) (PyProof.Rows.add_str (fun t2 tk ht => ?_) (by simpa [Str.length] using fits_le q))
   refine PostE.tok S ?_ ht
   have : ((⟨x.toArray⟩ : Str) ++ ⟨y.toArray⟩) = ⟨(x ++ y).toArray⟩ := by
    show Str.mk _ = _
    simp
   rw [this]; exact .str _ _
  | _ => exact no e
 | tup xs => induction xs using List.casesOn with
  | nil => exact no e
  | cons a1 xs => induction b using D.casesOn with
   | tup ys => induction ys using List.casesOn with
    | nil => exact no e
    | cons a2 ys =>
     refine x02 (ifI e) ?_
     try clear e
     intro z e
     refine ouK e ?_
     refine x25 ra.to ?_
     intro x vs eq2 _ _ hl q
     subst eq2
     refine x25 rb.to ?_
     intro y us eq2 _ _ hl2 q2
     subst eq2
     refine addTuples hl hl2 (fun h => by rw [h] at q; exact nomatch q) (fun h => by rw [h] at q2; exact nomatch q2) ?_ (newT_ok (htk := Nat.le_refl _) S (q.append q2))
     have := Nat.le_of_ble_eq_true z
     rw [q.length, q2.length, sizeLine_eq, List.length_cons, List.length_cons]; lia
   | _ => exact no e
 | _ => exact addL e
theorem bin_mul (S : Sto prog w hT al fr st s.heap) {m : Bool} {v u : Value} {a b d : D} (ra : RD al fr s.heap v a) (rb : RD al fr s.heap u b) (e : binD st .mul m a b = some (d, st')) : BinR prog w A hT al fr st st' s .mul v u d := by
 induction a using D.casesOn with
 | int i =>
  refine x12 (intI e) ?_
  try clear e
  intro j eq1 e
  subst eq1
  refine x02 (ifI e) ?_
  try clear e
  intro q e
  refine ouK e ?_
  refine x11 ra.to ?_
  intro t eq1
  subst eq1
  refine x11 rb.to ?_
  intro t2 eq1
  subst eq1
  exact PyProof.Rows.mul_int (tokI S (.int _ _)) (smallI_mul (Bool.and_eq_true_iff.mp q).1)
 | str x =>
  refine x12 (intI e) ?_
  try clear e
  intro j eq1 e
  subst eq1
  refine x12 (natI e) ?_
  try clear e
  intro k eq1 e
  subst eq1
  refine x02 (ifI e) ?_
  try clear e
  intro z e
  refine ouK e ?_
  refine x02 (Bool.and_eq_true_iff.mp z) ?_
  intro z1 z2
  refine x11 ra.to ?_
  intro t eq1
  subst eq1
  refine x11 rb.to ?_
  intro t2 eq1
  subst eq1
  refine wpAny_with_toks (Nat.le_refl _) (SB.mul (mulOk_of (Nat.le_of_ble_eq_true z1) (Nat.le_of_ble_eq_true z2)) fun t2 tk ht => ?_)
  rw [txtMul_eq]
  exact .tok S (.str _ _) ht
 | list xs =>
  refine x12 (intI e) ?_
  try clear e
  intro j eq1 e
  subst eq1
  refine x12 (natI e) ?_
  try clear e
  intro k eq1 e
  subst eq1
  refine x02 (ifI e) ?_
  try clear e
  intro z e
  refine x02 (Bool.and_eq_true_iff.mp z) ?_
  intro z1 z2
  refine x25 ra.to ?_
  intro x vs eq2 _ _ hl q
  subst eq2
  refine x11 rb.to ?_
  intro t2 eq1
  subst eq1
  refine mulList hl (Nat.le_of_ble_eq_true z1) (by rw [q.length]; exact Nat.le_of_ble_eq_true z2) ?_
  exact newL_ok (htk := Nat.le_refl _) S (q.rep k) (so e)
 | _ => exact no e
theorem bin_fdiv (S : Sto prog w hT al fr st s.heap) {m : Bool} {v u : Value} {a b d : D} (ra : RD al fr s.heap v a) (rb : RD al fr s.heap u b) (e : binD st .fdiv m a b = some (d, st')) : BinR prog w A hT al fr st st' s .fdiv v u d := by
 refine x12 (intI e) ?_
 try clear e
 intro j eq1 e
 subst eq1
 refine x02 (ifI e) ?_
 try clear e
 intro q e
 refine x11 rb.to ?_
 intro t2 eq1
 subst eq1
 have q := posI_ne q
 induction a using D.casesOn with
 | int i =>
  refine ouK e ?_
  refine x11 ra.to ?_
  intro t eq1
  subst eq1
  exact floordiv_int q.1 (tokI S (.int _ _)) (.inl (PyProof.noPylong_small q.2))
 | num m r =>
  refine x12 (natI e) ?_
  try clear e
  intro k eq1 e
  subst eq1
  refine x02 (ifI e) ?_
  try clear e
  intro z e
  refine ouK e ?_
  refine x22 ra.to ?_
  intro i t eq2 hi
  subst eq2
  refine floordiv_int q.1 (.tok (htk := by first | exact Nat.le_refl _ | lia | omega) S (.num _ _ _ _ ?_)) (.inl (PyProof.noPylong_small q.2))
  exact fdiv_num (Nat.eq_of_beq_eq_true z) (by have := q.1; lia) hi
 | _ => exact no e
theorem bin_mod (S : Sto prog w hT al fr st s.heap) {m : Bool} {v u : Value} {a b d : D} (ra : RD al fr s.heap v a) (rb : RD al fr s.heap u b) (e : binD st .mod m a b = some (d, st')) : BinR prog w A hT al fr st st' s .mod v u d := by
 refine x12 (intI e) ?_
 try clear e
 intro j eq1 e
 subst eq1
 refine x02 (ifI e) ?_
 try clear e
 intro q e
 refine x11 rb.to ?_
 intro t2 eq1
 subst eq1
 have q := posI_ne q
 induction a using D.casesOn with
 | int i =>
  refine ouK e ?_
  refine x11 ra.to ?_
  intro t eq1
  subst eq1
  exact mod_int' q.1 (tokI S (.int _ _))
 | num m r =>
  refine x12 (natI e) ?_
  try clear e
  intro k eq1 e
  subst eq1
  refine x02 (ifI e) ?_
  try clear e
  intro z e
  refine ouK e ?_
  refine x22 ra.to ?_
  intro i t eq2 hi
  subst eq2
  refine mod_int' q.1 ?_
  rw [fmod_num (Nat.eq_of_beq_eq_true z) (by have := q.1; lia) hi]
  exact tokI S (.int _ _)
 | _ => exact no e
theorem bin_pow (S : Sto prog w hT al fr st s.heap) {m : Bool} {v u : Value} {a b d : D} (ra : RD al fr s.heap v a) (rb : RD al fr s.heap u b) (e : binD st .pow m a b = some (d, st')) : BinR prog w A hT al fr st st' s .pow v u d := by
 induction a using D.casesOn with
 | int i => induction b using D.casesOn with
  | int j =>
   refine x02 (ifI e) ?_
   try clear e
   intro q e
   have hb := smallI_bits q
   refine x11 ra.to ?_
   intro t eq1
   subst eq1
   refine x11 rb.to ?_
   intro t2 eq1
   subst eq1
   replace e : (match eqInt j 2 with
    | true => some (.int (i * i), st)
    | false => match eqInt j 3 with
     | true => some (.int (i * i * i), st)
     | false => none) = some (d, st') := e
   cases q2 : eqInt j 2 with
   | true =>
    rw [q2] at e
    have := (eqInt_iff _ _).mp q2
    subst this
    refine ouK e ?_
    refine pow_int (by decide) (by lia) (tokI S ?_)
    rw [show i ^ (2 : Int).toNat = i * i by show i ^ 2 = _; rw [Int.pow_succ, Int.pow_succ, Int.pow_zero, Int.one_mul]]
    exact .int _ _
   | false =>
    rw [q2] at e
    refine x02 (ifI e) ?_
    try clear e
    intro q2 e
    have := (eqInt_iff _ _).mp q2
    subst this
    refine ouK e ?_
    refine pow_int (by decide) (by lia) (tokI S ?_)
    rw [show i ^ (3 : Int).toNat = i * i * i by show i ^ 3 = _; rw [Int.pow_succ, Int.pow_succ, Int.pow_succ, Int.pow_zero, Int.one_mul]]
    exact .int _ _
  | _ => exact no e
 | _ => exact no e
theorem bin_ok (S : Sto prog w hT al fr st s.heap) {o : BOp} {m : Bool} {v u : Value} {a b d : D} (ra : RD al fr s.heap v a) (rb : RD al fr s.heap u b) (e : binD st o m a b = some (d, st')) :
  wpAny (model prog w) A (binaryOp (bopOf o) v u) (PostE prog w hT al fr st st' s d) FF s := by
 show BinR prog w A hT al fr st st' s o v u d
 induction o using BOp.casesOn with
 | add => exact bin_add S ra rb e
 | sub => induction a using D.casesOn with
  | int i => induction b using D.casesOn with
   | int j =>
    refine ouK e ?_
    refine x11 ra.to ?_
    intro t eq1
    subst eq1
    refine x11 rb.to ?_
    intro t2 eq1
    subst eq1
    exact PyProof.Rows.sub_int (tokI S (.int _ _))
   | _ => exact no e
  | _ => exact no e
 | mul => exact bin_mul S ra rb e
 | fdiv => exact bin_fdiv S ra rb e
 | mod => exact bin_mod S ra rb e
 | pow => exact bin_pow S ra rb e
end
end Mine
end
noncomputable section
set_option tactic.hygienic true
open PySem PySem.W PyProof.Rows PySem.Spec PySem.Calls
namespace Mine
variable [Val]
open SeqAt
section
variable {prog : Program} {w : World} {nm : Nat → Str} {hT : Heap} {n : Nat} {A : Around} {env : Env} {sc : Scope} {al al' al'' fr ow : List Addr} {ρ : Env'} {st st' st'' : St} {s s' s'' : Shared} {h h' : Heap}
theorem nthD_lt : ∀ {xs : List D} {k : Nat} {d : D}, nthD xs k = some d → k < xs.length
 | _ :: _, 0, _, _ => by exact Nat.succ_pos _
 | _ :: r, k + 1, d, e => by
  have := nthD_lt (xs := r) (k := k) e
  simp; assumption
noncomputable def plainSlice : Expr → Bool
 | .Slice .. => false
 | _ => true
theorem subscripted_plain {slice : Expr} (hs : plainSlice slice = true) (o i : Value) : subscripted slice false o i = operate [o, i] (getItem o i) := by
 induction slice using Expr.casesOn with
 | Slice => exact nb hs
 | _ => rfl
theorem idxD_inv {o i d : D} (e : idxD st o i = some d) : ∃ k, i = .int k ∧ ((∃ xs, ∃ j : Nat, o = .tup xs ∧ k = j ∧ nthD xs j = some d) ∨ (∃ xs, ∃ j : Nat, listOf st o = some xs ∧ k = j ∧ nthD xs j = some d) ∨
  ∃ m v es, o = .ob m ∧ lk m st.mu = some (v, .dic es) ∧ lkI k es = some d) := by
 refine x12 (intI e) ?_
 try clear e
 intro k eq1 e
 subst eq1
 refine (m12 k rfl ?_)
 induction o using D.casesOn with
 | tup xs =>
  refine x12 (natI e) ?_
  try clear e
  intro j eq1 e
  subst eq1
  exact .inl (m23 xs j rfl rfl e)
 | list xs =>
  refine x12 (natI e) ?_
  try clear e
  intro j eq1 e
  subst eq1
  exact .inr (.inl (m23 xs j rfl rfl e))
 | ob m =>
  replace e : (match lk m st.mu with
   | some (_, .list xs) => match nat? k with | some n => nthD xs n | none => none
   | some (_, .dic es) => lkI k es
   | _ => none) = some d := e
  cases q : lk m st.mu with
  | none => rw [q] at e; exact no e
  | some p =>
   obtain ⟨v, mo⟩ := p
   rw [q] at e
   induction mo using MO.casesOn with
   | list xs =>
    refine x12 (natI e) ?_
    try clear e
    intro j eq1 e
    subst eq1
    exact .inr (.inl (m23 xs j (by show (match lk m st.mu with | some (_, .list xs) => some xs | _ => none) = _; rw [q]) rfl e))
   | dic es => exact .inr (.inr (m33 m v es rfl q e))
   | _ => exact no e
 | _ => exact no e
omit [Val] in
theorem if_neg_nat {α : Type} {j : Nat} {x y : α} : (if (j : Int) < 0 then x else y) = y := if_neg (Int.not_lt.mpr (Int.natCast_nonneg j))
theorem idx_ok (S : Sto prog w hT al fr st s.heap) {value slice : Expr} (hs : plainSlice slice = true) {v u : Value} {o i d : D} (ro : RD al fr s.heap v o) (ri : RD al fr s.heap u i) (e : idxD st o i = some d) (hb : ∀ k, i = .int k → k < 2 ^ 62) :
  wpAny (model prog w) A (subscriptTail value slice v u) (PostE prog w hT al fr st st s d) FF s := by
 refine x12 (idxD_inv e) ?_
 intro k eq1 q
 subst eq1
 have hk := hb k rfl
 clear hb e
 refine x11 ri.to ?_
 intro t eq1
 subst eq1
 rcases q with ⟨xs, j, rfl, rfl, e⟩ | ⟨xs, j, z, rfl, e⟩ | ⟨m, v, es, rfl, q, e⟩
 · refine x25 ro.to ?_
   intro x vs eq2 _ _ hl r
   subst eq2
   refine x12 (r.nth e) ?_
   intro z hz rz
   have hj := nthD_lt e
   have hlen := r.length
   refine item_tupleT (j := j) hl (by exact Int.natCast_nonneg _) (by exact Int.lt_of_lt_of_le ‹_› (by decide)) ?_ hz (.now S rz) (subscripted_plain hs _ _)
   unfold seqIndex?
   have : (0 ≤ (if (j : Int) < 0 then (j : Int) + vs.length else (j : Int)) && (if (j : Int) < 0 then (j : Int) + vs.length else (j : Int)) < vs.length) = true := by
    rw [if_neg_nat]; simp; simp only [*, Nat.le_add_right]
   simp only [this, if_true]
   rw [if_neg_nat]; exact Option.map_some ..
 · refine x23 (list_of S ro z) ?_
   intro x vs eq2 hl r
   subst eq2
   refine x12 (r.nth e) ?_
   intro z hz rz
   exact tail_any hl.isList.typeIs slot_list_getitem.lookup (wpAny_getItem_list (x := z) hl.isList (by exact Int.natCast_nonneg _) (by exact Int.lt_of_lt_of_le ‹_› (by decide)) (by simpa using hz) (.now S rz)) (subscripted_plain hs _ _)
 · refine x12 ro.to ?_
   intro x eq1 hm
   subst eq1
   obtain ⟨y, hy, kvs, hd, ek, r⟩ := S.mu m v _ q
   rw [hm] at hy
   have hy := so hy
   subst hy
   have nd : (kvs.map (·.1)).Nodup := by obtain ⟨_, _, _, _, _, _, _, _, nd⟩ := hd; exact nd
   refine x12 (RDs.of_mem ek r (lkI_in e)) ?_
   intro z hz rz
   exact tail_any hd.typeIs slot_dict_getitem.lookup (wpAny_getItem_of (knd := intKind prog w) (k := k) (v := z) (by exact if_pos rfl) (mapOf_dict hd) (valueAt_mem nd hz) (.tok (htk := Nat.le_succ _) S rz)) (subscripted_plain hs _ _)
theorem get_ok (S : Sto prog w hT al fr st s.heap) {v u : Value} {o i d : D} (ro : RD al fr s.heap v o) (ri : RD al fr s.heap u i) (e : idxD st o i = some d) (hb : ∀ k, i = .int k → k < 2 ^ 62) :
  wpAny (model prog w) A (getItem v u) (PostE prog w hT al fr st st s d) FF s := by
 refine x12 (idxD_inv e) ?_
 intro k eq1 q
 subst eq1
 have hk := hb k rfl
 clear hb e
 refine x11 ri.to ?_
 intro t eq1
 subst eq1
 rcases q with ⟨xs, j, rfl, rfl, e⟩ | ⟨xs, j, z, rfl, e⟩ | ⟨m, v, es, rfl, q, e⟩
 · refine x25 ro.to ?_
   intro x vs eq2 _ _ hl r
   subst eq2
   refine x12 (r.nth e) ?_
   intro z hz rz
   have hj := nthD_lt e
   have hlen := r.length
   refine getItem_tuple (j := j) (x := z) hl (by exact Int.natCast_nonneg _) (by exact Int.lt_of_lt_of_le ‹_› (by decide)) ?_ (by simpa using hz) (.now S rz)
   unfold seqIndex?
   have : (0 ≤ (if (j : Int) < 0 then (j : Int) + vs.toArray.size else (j : Int)) && (if (j : Int) < 0 then (j : Int) + vs.toArray.size else (j : Int)) < vs.toArray.size) = true := by
    rw [if_neg_nat]; simp; simp only [*, Nat.le_add_right]
   simp only [this, if_true]
   rw [if_neg_nat]; exact Option.map_some ..
 · refine x23 (list_of S ro z) ?_
   intro x vs eq2 hl r
   subst eq2
   refine x12 (r.nth e) ?_
   intro z hz rz
   exact wpAny_getItem_list (x := z) hl.isList (by exact Int.natCast_nonneg _) (by exact Int.lt_of_lt_of_le ‹_› (by decide)) (by simpa using hz) (.now S rz)
 · refine x12 ro.to ?_
   intro x eq1 hm
   subst eq1
   obtain ⟨y, hy, kvs, hd, ek, r⟩ := S.mu m v _ q
   rw [hm] at hy
   have hy := so hy
   subst hy
   have nd : (kvs.map (·.1)).Nodup := by obtain ⟨_, _, _, _, _, _, _, _, nd⟩ := hd; exact nd
   refine x12 (RDs.of_mem ek r (lkI_in e)) ?_
   intro z hz rz
   exact wpAny_getItem_of (knd := intKind prog w) (k := k) (v := z) (by exact if_pos rfl) (mapOf_dict hd) (valueAt_mem nd hz) (.tok (htk := Nat.le_succ _) S rz)
theorem putI_stored : ∀ {es : List (Int × D)} {kvs : List (Int × Value)} {k : Int} {v : Value} {d : D}, (kvs.map (·.1)).Nodup → kvs.map (·.1) = es.map (·.1) → RDs al fr h (kvs.map (·.2)) (es.map (·.2)) → RD al fr h v d →
  (stored kvs k v).map (·.1) = (putI k d es).map (·.1) ∧ RDs al fr h ((stored kvs k v).map (·.2)) ((putI k d es).map (·.2))
 | [], [], k, v, d, _, _, _, rd => ⟨rfl, .cons rd .nil⟩
 | (j, x) :: t, (i, u) :: r, k, v, d, nd, e, q, rd => by
  simp only [List.map_cons, List.cons.injEq] at e
  refine x02 e ?_
  clear e
  intro e1 e2
  subst e1
  simp only [List.map_cons] at q
  rw [List.map_cons, List.nodup_cons] at nd
  cases q with
  | cons a b =>
   by_cases z : i = k
   · subst z
     have no : ∀ kv ∈ r, kv.1 ≠ i := fun kv hm q => nd.1 (by rw [← q]; exact List.mem_map_of_mem (f := (·.1)) hm)
     have e3 : stored ((i, u) :: r) i v = (i, v) :: r := by
      unfold stored
      have : (((i, u) :: r).any fun kv => decide (kv.1 = i)) = true := by simp
      rw [if_pos this, List.map_cons]
      simp only [if_pos]
      congr 1
      exact (List.map_congr_left (g := id) fun kv hm => if_neg (no kv hm)).trans (List.map_id r)
     rw [e3]
     simp only [putI]
     rw [(eqInt_iff _ _).mpr rfl]
     exact ⟨by simp [e2], .cons rd b⟩
   · have ih := putI_stored (k := k) nd.2 e2 b rd
     have e3 : stored ((i, u) :: r) k v = (i, u) :: stored r k v := by
      unfold stored
      simp only [List.any_cons, decide_eq_false z, Bool.false_or]
      split
      · simp [z]
      · rfl
     rw [e3]
     simp only [putI]
     have : eqInt i k = false := by
      cases y : eqInt i k with
      | false => rfl
      | true => exact absurd ((eqInt_iff _ _).mp y) z
     rw [this]
     exact ⟨by simp [ih.1], .cons a ih.2⟩
 | [], _ :: _, _, _, _, _, e, _, _ => by simp at e
 | _ :: _, [], _, _, _, _, e, _, _ => by simp at e
theorem setM_inv {j : Nat} {f : MO → Option MO} (e : setM st j f = some st') : ∃ v mo mo', lk j st.mu = some (v, mo) ∧ f mo = some mo' ∧ st' = ⟨st.n, put j (v + 1, mo') st.mu⟩ := by
 unfold setM at e
 split at e
 · rename_i v mo q
   split at e
   · rename_i mo' q2
     cases e
     exact (m33 v mo mo' q q2 rfl)
   · exact no e
 · exact no e
theorem setList {l : Addr} {items : Array Value} {k : Int} {t : Tok} {v : Value} {Q : Unit → Shared → Prop} {E : Value → Shared → Prop} (hl : s.heap.PlainList l items) (h0 : 0 ≤ k) (hb : k < 2 ^ 63) (hj : k < items.size)
  (q : ∀ h', h'.PlainList l (items.setIfInBounds k.toNat v) → Heap.SameBut l s.heap h' → Q () { s with heap := h' }) : wpAny (model prog w) A (setItem (.ref l) (.int k t) v) Q E s := by
 refine x11 hl ?_
 clear hl
 intro n ho
 have hI : s.heap.IsList l items := ⟨_, ho, rfl, n, rfl⟩
 unfold setItem
 try with_reducible refine wpAny_holding ?_
 first | refine wpAny_bind (wpAny_pure ?_) | skip
 refine wpAny_bind (wpAny_sequenceKey hI.typeIs (by decide) ?_)
 refine wpAny_bind (wpAny_callSpecial?_slot (name := Str.ofString "__setitem__") hI.typeIs slot_list_setitem (wpAny_call_entry slot_list_setitem hI.typeIs entry_list_setitem ?_ (args_list_setitem _ _ _)))
 show wpAny _ _ (Builtin.List.listSubscript? (.int k t) >>= _) _ _ s
 refine wpAny_bind (wpAny_listSubscript_int (fitsIndex_of h0 hb) ?_)
 clear hb
 refine x11 (Int.eq_ofNat_of_zero_le h0) ?_
 intro j eq1
 subst eq1
 have hj : j < items.size := by exact Int.ofNat_lt.mp ‹_›
 have hx : items[j]? = some items[j] := Array.getElem?_eq_getElem hj
 have hm : Obj.mapSeq (·.setIfInBounds j v) { cls := .type "list", data := .seq items n } = { cls := .type "list", data := .seq (items.setIfInBounds j v) n } := by simp [Obj.mapSeq]
 have hfin : (s.heap.update l (Obj.mapSeq (·.setIfInBounds j v))).PlainList l (items.setIfInBounds j v) :=
  ⟨n, by rw [Heap.get?_update_self _ ho (by rw [hm]; rfl), hm]⟩
 have out := q _ hfin (Heap.SameBut.update ..)
 show wpAny _ _ ((seqItemAt l j >>= fun r => pure (r.map (j, ·))) >>= _) _ _ s
 refine wpAny_bind (wpAny_bind (wpAny_seqItemAt ho rfl (wpAny_pure ?_)))
 rw [hx]
 show wpAny _ _ (setSeqItemAt l j v >>= _) _ _ s
 refine wpAny_bind (wpAny_setSeqItemAt ho rfl ?_)
 first
  | exact wpAny_bind (wpAny_pure (wpAny_pure (m12 .none rfl (wpAny_pure out))))
  | exact wpAny_pure ⟨.none, rfl, wpAny_pure out⟩
theorem set_ok (hs : ∃ o, hT.get? sysModules = some o) (S : Sto prog w hT al fr st s.heap) {v u x : Value} {o i d : D} (ro : RD al fr s.heap v o) (ri : RD al fr s.heap u i) (rx : RD al fr s.heap x d) (e : storeSub st o i d = some st') (hb : ∀ k, i = .int k → k < 2 ^ 62) :
  wpAny (model prog w) A (setItem v u x) (fun g s' => Stp prog w hT fr [] al al st st' s s') FF s := by
 induction o using D.casesOn with
 | ob m => induction i using D.casesOn with
  | int k =>
   have hk := hb k rfl
   refine x12 ro.to ?_
   intro y eq1 hm
   subst eq1
   refine x11 ri.to ?_
   intro t eq1
   subst eq1
   refine x33 (setM_inv e) ?_
   intro ver mo mo' q q2 eq5
   subst eq5
   clear e hb
   refine x12 (S.mu m ver mo q) ?_
   intro y' hy' o
   rw [hm] at hy'
   have hy' := so hy'
   subst hy'
   have ym := List.mem_of_getElem? hm
   induction mo using MO.casesOn with
   | list xs =>
    refine x12 (natI q2) ?_
    try clear q2
    intro j eq1 q2
    subst eq1
    replace q2 : (match setD xs j d with | some ys => some (MO.list ys) | none => none) = some mo' := q2
    cases z2 : setD xs j d with
    | none => rw [z2] at q2; exact no q2
    | some ys =>
     rw [z2] at q2
     have q2 := so q2
     subst q2
     refine x12 o ?_
     clear o
     intro vs hl r
     refine x02 (r.set rx z2) ?_
     intro z3 z4
     have z5 : (j : Int) < vs.toArray.size := by rw [List.size_toArray]; exact Int.ofNat_lt.mpr ‹_›
     refine setList hl (by exact Int.natCast_nonneg _) (by lia) z5 fun hp hd' hsb => ?_
     exact Stp.setM (htk := by first | exact Nat.le_refl _ | exact Nat.le_succ _ | lia) S q hm (Nat.le_of_eq hsb.1.symm) (fun b o ne e => (hsb.2 b ne).trans e) ⟨_, by simpa using hd', z4⟩
   | dic es =>
    refine x02 (ifI q2) ?_
    try clear q2
    intro fit q2
    have q2 := so q2
    subst q2
    refine x13 o ?_
    clear o
    intro kvs hd ek r
    have nd : (kvs.map (·.1)).Nodup := by obtain ⟨_, _, _, _, _, _, _, _, nd⟩ := hd; exact nd
    refine wpAny_setItem_pairs (knd := intKind prog w) (k := k) (by exact if_pos rfl) hd (fun hp hd' hsb => ?_) ?_
    · have z := putI_stored (k := k) nd ek r rx
      exact Stp.setM (htk := by first | exact Nat.le_refl _ | lia | omega) S q hm (Nat.le_of_eq hsb.1.symm) (fun b o ne e => (hsb.2 b ne).trans e) ⟨_, hd', z.1, z.2⟩
    · have e := congrArg List.length ek
      simp only [List.length_map] at e
      rw [e]; exact fits_le fit
   | _ => exact no q2
  | _ => exact no e
 | _ => exact no e
end
end Mine
end
noncomputable section
open PySem PySem.W PyProof.Rows PySem.Spec PySem.Calls
namespace Mine
variable [Val]
section
variable {prog : Program} {w : World} {nm : Nat → Str} {hT : Heap} {n : Nat} {A : Around} {env : Env} {sc : Scope} {al al' al'' fr fr' N ow ow' : List Addr} {ρ : Env'} {st st' st'' : St} {s s₁ s₂ s₃ s' s'' : Shared} {h h' : Heap}
theorem RD.fence (_S : Sto prog w hT al fr st h) (k : ∀ b o, h.get? b = some o → h'.get? b = some o) (hN : ∀ a ∈ N, h.objs.size ≤ a) {v : Value} {d : D} (r : RD al fr h v d) : RD al (N ++ fr) h' v d :=
 r.mono (fun b o n1 n2 e => ⟨k b o e, n1, fun q => by
  rcases List.mem_append.mp q with q | q
  · exact Nat.lt_irrefl _ (Nat.lt_of_lt_of_le (Heap.lt_size e) (hN b q))
  · exact n2 q⟩) fun j j e => e
theorem Sto.fence (S : Sto prog w hT al fr st h) (k : ∀ b o, h.get? b = some o → h'.get? b = some o) (hs : h.objs.size ≤ h'.objs.size) (hN : ∀ a ∈ N, h.objs.size ≤ a ∧ a < h'.objs.size) : Sto prog w hT al (N ++ fr) st h' := by
 refine ⟨fun b o e => k b o (S.old b o e), S.len, fun a ha => ?_, S.nd, fun a ha q => ?_, fun j v mo e => ?_⟩
 · have old : a ∈ al ∨ a ∈ fr → hT.get? a = none ∧ a < h'.objs.size := fun q => ⟨(S.new a q).1, Nat.lt_of_lt_of_le (S.new a q).2 hs⟩
   rcases ha with ha | ha
   · exact old (.inl ha)
   · rcases List.mem_append.mp ha with ha | ha
     · exact ⟨S.freshT (hN a ha).1, (hN a ha).2⟩
     · exact old (.inr ha)
 · rcases List.mem_append.mp q with q | q
   · exact (S.fresh (hN a q).1).1 ha
   · exact S.dj a ha q
 · refine x12 (S.mu j v mo e) ?_
   intro a ha m
   refine (m12 a ha (m.mono (fun o x => k a o x) (fun b o n1 n2 x => ⟨k b o x, n1, fun q => ?_⟩) fun y y x => x))
   rcases List.mem_append.mp q with q | q
   · exact Nat.lt_irrefl _ (Nat.lt_of_lt_of_le (Heap.lt_size x) (hN b q).1)
   · exact n2 q
theorem RD.open (hf : ∀ a ∈ fr, a ∈ fr') {v : Value} {d : D} (r : RD al fr' h v d) : RD al fr h v d := r.mono (fun j j n1 n2 e => ⟨e, n1, fun q => n2 (hf _ q)⟩) fun j j e => e
theorem RDs.open (hf : ∀ a ∈ fr, a ∈ fr') {v : List Value} {d : List D} (r : RDs al fr' h v d) : RDs al fr h v d := r.mono (fun j j n1 n2 e => ⟨e, n1, fun q => n2 (hf _ q)⟩) fun j j e => e
theorem Sto.open (S : Sto prog w hT al fr' st h) (hf : ∀ a ∈ fr, a ∈ fr') : Sto prog w hT al fr st h :=
 ⟨S.old, S.len, fun a ha => S.new a (ha.imp id (hf a)), S.nd, fun a ha q => S.dj a ha (hf a q), fun j v mo e => by
  refine x12 (S.mu j v mo e) ?_
  intro a ha m
  exact (m12 a ha (m.mono (fun y x => x) (fun b o n1 n2 x => ⟨x, n1, fun q => n2 (hf b q)⟩) fun y y x => x))⟩
theorem Stp.inner (k : ∀ b o, s₁.heap.get? b = some o → s₂.heap.get? b = some o) (hz : s₁.heap.objs.size ≤ s₂.heap.objs.size) (R : Rest s₁ s₂) (S : Stp prog w hT fr' ow' al al' st st' s₂ s₃)
  (hf : ∀ a ∈ fr, a ∈ fr') (ho : ∀ a ∈ ow', a ∈ ow ∨ s₁.heap.objs.size ≤ a) : Stp prog w hT fr ow al al' st st' s₁ s₃ := by
 refine x12 S.pre ?_
 intro more e hm
 refine ⟨(m12 more e (fun a ha => Nat.le_trans hz (hm a ha))), S.sto.open hf, ⟨Nat.le_trans hz S.kp.sz, fun b o n1 n2 x => S.kp.keep b o n1 (fun q => ?_) (k b o x), fun j v mo x => ?_⟩, R.trans S.rest⟩
 · rcases ho b q with q | q
   · exact n2 q
   · exact Nat.lt_irrefl _ (Nat.lt_of_lt_of_le (Heap.lt_size x) q)
 · refine x23 (S.kp.ver j v mo x) ?_
   intro v' mo' y l z
   exact (m23 v' mo' y l (fun q => ⟨(z q).1, fun a o ha ho => (z q).2 a o ha (k a o ho)⟩))
theorem Stp.wide (S : Stp prog w hT fr ow' al al' st st' s s') (ho : ∀ a ∈ ow', a ∈ ow ∨ s.heap.objs.size ≤ a) : Stp prog w hT fr ow al al' st st' s s' :=
 Stp.inner (fun j j e => e) (Nat.le_refl _) .refl S (fun j x => x) ho
theorem Stp.but {a : Addr} {hp : Heap} {tk : Nat} (S : Sto prog w hT al fr st s.heap) (ha : a ∈ fr) (hz : s.heap.objs.size ≤ hp.objs.size) (k : Heap.ExtBut a s.heap hp) (htk : s.toks ≤ tk := by trivial) : Stp prog w hT fr [a] al al st st s { s with heap := hp, toks := tk } := by
 have an : a ∉ al := fun q => S.dj a q ha
 refine ⟨(m12 ([]) (by exact (List.append_nil _).symm) (fun z h => nomatch h)), ⟨fun b o e => k b o (fun q => ?_) (S.old b o e), S.len, fun x hx => ⟨(S.new x hx).1, Nat.lt_of_lt_of_le (S.new x hx).2 hz⟩, S.nd, S.dj, fun j v mo e => ?_⟩,
  ⟨hz, fun b o z n2 e => k b o (fun q => n2 (q ▸ List.mem_singleton.mpr rfl)) e, fun j v mo e => (m23 v mo e (Nat.le_refl _) (fun z => ⟨rfl, fun b o hb e => k b o (fun q => an (q ▸ List.mem_of_getElem? hb)) e⟩))⟩, ⟨rfl, htk, .refl⟩⟩
 · rw [q, (S.new a (.inr ha)).1] at e; exact no e
 · refine x12 (S.mu j v mo e) ?_
   intro x hx m
   exact (m12 x hx (m.mono (fun o y => k x o (fun q => an (q ▸ List.mem_of_getElem? hx)) y) (fun b o n1 n2 y => ⟨k b o (fun q => n2 (q ▸ ha)) y, n1, n2⟩) fun z z y => y))
theorem EnvOk.to (Ev : EnvOk nm env sc al fr ow ρ h) (rd : ∀ v d, RD al fr h v d → RD al' fr' h' v d) (kf : ∀ b o, b = env.locals ∨ (∃ x, env.cells.lookup x = some b) → h.get? b = some o → h'.get? b = some o)
  (sub : ∀ a ∈ ow, a ∈ fr') (cfr : ∀ x c, env.cells.lookup x = some c → c ∈ fr') : EnvOk nm env sc al' fr' ow ρ h' := by
 refine { Ev with sub := sub, cfr := fun x c e => ?_, ns := ?_, cv := fun i d e k => ?_ }
 · obtain ⟨_, b, v, o, ho, hd⟩ := Ev.cfr x c e
   exact ⟨cfr x c e, b, v, o, kf c o (.inr ⟨x, e⟩) ho, hd⟩
 · refine x12 (Ev.ns) ?_
   intro m nst1 hm
   obtain ⟨o, es, ep, ho, r⟩ := nst1
   exact (m12 m ⟨o, es, ep, kf _ o (.inl rfl) ho, r⟩ (fun i d e k => by obtain ⟨v, hv, q⟩ := hm i d e k; exact (m12 v hv (rd v d q))))
 · refine x23 (Ev.cv i d e k) ?_
   intro c v hc nst1 q
   obtain ⟨o, ho, hd⟩ := nst1
   exact (m23 c v hc ⟨o, kf c o (.inr ⟨_, hc⟩) ho, hd⟩ (rd v d q))
theorem EnvOk.beside (Ev : EnvOk nm env sc al fr ow ρ s.heap) (S₀ : Sto prog w hT al fr st s.heap) (S : Stp prog w hT fr ow' al al' st st' s s') (hf : ∀ a ∈ ow', a ∈ fr) (n1 : env.locals ∉ ow') (n2 : ∀ x c, env.cells.lookup x = some c → c ∉ ow') :
  EnvOk nm env sc al' fr ow ρ s'.heap := by
 refine Ev.to (fun v d r => r.stepF S hf) (fun b o q e => S.kp.keep b o (fun z => ?_) ?_ e) Ev.sub fun x c e => (Ev.cfr x c e).1
 · rcases q with rfl | ⟨x, hx⟩
   · exact S₀.dj _ z (Ev.sub _ Ev.lo)
   · exact S₀.dj _ z (Ev.cfr x b hx).1
 · rcases q with rfl | ⟨x, hx⟩
   · exact n1
   · exact n2 x b hx
end
end Mine
end
noncomputable section
open PySem PySem.W PyProof.Rows PySem.Spec PySem.Calls
namespace Mine
variable [Val]
section
variable {prog : Program} {w : World} {nm : Nat → Str} {hT : Heap} {n : Nat} {A : Around} {env : Env} {sc : Scope} {al al' al'' fr fr' N ow ow' : List Addr} {ρ : Env'} {st st' st'' : St} {s s₁ s₂ s₃ s' s'' : Shared} {h h' : Heap}
theorem smallI_le {i : Int} (e : smallI i = true) : -1099511627777 ≤ i ∧ i ≤ 1099511627776 := by
 induction i using Int.casesOn with
 | ofNat n =>
  have : n ≤ 1099511627776 := Nat.le_of_ble_eq_true e
  constructor
  · show _ ≤ (n : Int); exact Int.natCast_nonneg _
  · show (n : Int) ≤ _; exact Int.ofNat_le.mpr ‹_›
 | negSucc n => have : n ≤ 1099511627776 := Nat.le_of_ble_eq_true e; constructor <;> lia
theorem inLong_of {i : Int} (e : smallI i = true) : InLong i := by
 have := smallI_le e
 unfold InLong; lia
theorem sumD_hd {x : D} {xs : List D} {a m : Int} (e : sumD a (x :: xs) = some m) : ∃ b, x = .int b ∧ smallI b = true ∧ smallI (a + b) = true ∧ sumD (a + b) xs = some m := by
 induction x using D.casesOn with
 | int b =>
  refine x02 (ifI e) ?_
  try clear e
  intro z e
  refine x02 (Bool.and_eq_true_iff.mp z) ?_
  intro z1 z2
  exact (m14 b rfl z1 z2 e)
 | _ => exact no e
theorem maxD_hd {x : D} {xs : List D} {a m : Int} (e : maxD a (x :: xs) = some m) : ∃ b, x = .int b ∧ maxD (match ltInt a b with | true => b | false => a) xs = some m := by
 induction x using D.casesOn with
 | int b => exact (m12 b rfl e)
 | _ => exact no e
theorem indexD_hd {x : D} {xs : List D} {a : Int} {k m : Nat} (e : indexD a k (x :: xs) = some m) : ∃ b, x = .int b ∧ ((b = a ∧ k = m) ∨ (b ≠ a ∧ indexD a (k + 1) xs = some m)) := by
 induction x using D.casesOn with
 | int b =>
  refine (m12 b rfl ?_)
  replace e : (match eqInt b a with | true => some k | false => indexD a (k + 1) xs) = some m := e
  cases z : eqInt b a with
  | true => rw [z] at e; exact .inl ⟨(eqInt_iff _ _).mp z, so e⟩
  | false => rw [z] at e; exact .inr ⟨(fun q => by rw [(eqInt_iff _ _).mpr q] at z; exact nomatch z), e⟩
 | _ => exact no e
theorem joinD_hd {sep : List Nat} {x : D} {xs : List D} {r : List Nat} (e : joinD sep (x :: xs) = some r) : ∃ y, x = .str y ∧ ((xs = [] ∧ y = r) ∨ (xs ≠ [] ∧ ∃ t, joinD sep xs = some t ∧ y ++ sep ++ t = r)) := by
 induction x using D.casesOn with
 | str y => induction xs using List.casesOn with
  | nil => exact (m12 y rfl (.inl ⟨rfl, so e⟩))
  | cons x2 xs =>
   replace e : (match joinD sep (x2 :: xs) with | some t => some (y ++ sep ++ t) | none => none) = some r := e
   cases q : joinD sep (x2 :: xs) with
   | none => rw [q] at e; exact no e
   | some t => rw [q] at e; exact (m12 y rfl (.inr ⟨fun h => (nomatch h), t, rfl, so e⟩))
 | _ => induction xs using List.casesOn <;> exact no e
theorem sumD_ok : ∀ {xs : List D} {vs : List Value} {a m : Int}, RDs al fr h vs xs → sumD a xs = some m →
  ∃ ns, IntsAre vs ns ∧ m = a + ns.sum ∧ ∀ j, j < ns.length → InLong (ns.getD j 0) ∧ InLong (a + (ns.take (j + 1)).sum)
 | [], _, a, m, r, e => by
  have := r.to
  subst this
  exact (m13 ([]) .nil (by rw [← so e]; simp) (fun j hj => by simp at hj))
 | x :: xs, _, a, m, r, e => by
  refine x14 (sumD_hd e) ?_
  intro b eq1 z1 z2 e'
  subst eq1
  clear e
  refine x23 r.to ?_
  intro v us eq2 p q
  subst eq2
  refine x11 p.to ?_
  intro t eq1
  subst eq1
  refine x13 (sumD_ok q e') ?_
  intro ns h1 h2 h3
  refine (m13 (b :: ns) (.cons b t h1) (by rw [h2, List.sum_cons]; lia) (fun j hj => ?_))
  induction j using Nat.casesOn with
  | zero => simp; exact ⟨inLong_of z1, inLong_of z2⟩
  | succ j =>
   have := h3 j (by simpa using hj)
   rw [List.take_succ_cons, List.sum_cons]
   exact ⟨by simpa using this.1, by rw [← Int.add_assoc]; exact this.2⟩
theorem maxD_ok : ∀ {xs : List D} {vs : List Value} {a m : Int}, RDs al fr h vs xs → maxD a xs = some m →
  ∃ ns, IntsAre vs ns ∧ (m = a ∨ m ∈ ns) ∧ a ≤ m ∧ ∀ b ∈ ns, b ≤ m
 | [], _, a, m, r, e => by
  have := r.to
  subst this
  exact (m14 ([]) .nil (.inl (so e).symm) (by rw [← so e]; exact Int.le_refl _) nofun)
 | x :: xs, _, a, m, r, e => by
  refine x12 (maxD_hd e) ?_
  intro b eq1 e'
  subst eq1
  clear e
  refine x23 r.to ?_
  intro v us eq2 p q
  subst eq2
  refine x11 p.to ?_
  intro t eq1
  subst eq1
  refine x14 (maxD_ok q e') ?_
  intro ns h1 h2 h3 h4
  refine (m12 (b :: ns) (.cons b t h1) ?_)
  rw [ltInt_eq] at h2 h3
  by_cases z : a < b
  · rw [decide_eq_true z] at h2 h3
    refine ⟨.inr ?_, Int.le_trans (Int.le_of_lt z) h3, List.forall_mem_cons.mpr ⟨h3, h4⟩⟩
    rcases h2 with h2 | h2
    · rw [h2]; exact List.mem_cons_self
    · exact List.mem_cons_of_mem _ h2
  · rw [decide_eq_false z] at h2 h3
    exact ⟨h2.imp id (List.mem_cons_of_mem _), h3, List.forall_mem_cons.mpr ⟨Int.le_trans (Int.not_lt.mp z) h3, h4⟩⟩
theorem joinD_ok {sep : List Nat} : ∀ {xs : List D} {vs : List Value} {r : List Nat}, RDs al fr h vs xs → joinD sep xs = some r →
  ∃ ys, StrsAre vs ys ∧ Txt.join ⟨sep.toArray⟩ ys = ⟨r.toArray⟩ ∧ (ys.map (·.length)).sum ≤ r.length
 | [], _, r, q, e => by
  have := q.to
  subst this
  exact (m13 ([]) .nil (by rw [← so e]; rfl) (Nat.zero_le _))
 | x :: xs, _, r, q, e => by
  refine x12 (joinD_hd e) ?_
  intro y eq1 e'
  subst eq1
  clear e
  refine x23 q.to ?_
  intro v us eq2 p q'
  subst eq2
  clear q
  refine x11 p.to ?_
  intro t eq1
  subst eq1
  rcases e' with ⟨rfl, rfl⟩ | ⟨hne, r', z, rfl⟩
  · have := q'.to
    subst this
    exact (m13 ([⟨y.toArray⟩]) (.cons _ t .nil) rfl (by exact Nat.le_refl _))
  · refine x13 (joinD_ok q' z) ?_
    intro ys h1 h2 h3
    refine (m13 (⟨y.toArray⟩ :: ys) (.cons _ t h1) ?_ ?_)
    · induction ys using List.casesOn with
      | nil => cases h1; have := q'.length; exact absurd (List.length_eq_zero_iff.mp this.symm) hne
      | cons a b =>
       unfold Txt.join at h2 ⊢
       rw [StrLaws.glued_eq_join] at h2 ⊢
       simp only [Str.join]
       rw [h2]
       show (⟨(y.toArray ++ sep.toArray) ++ r'.toArray⟩ : Str) = _
       simp
    · simp [Str.length] at h3 ⊢; lia
theorem indexD_ok {a : Int} : ∀ {xs : List D} {vs : List Value} {k m : Nat}, RDs al fr h vs xs → indexD a k xs = some m →
  ∃ j, m = k + j ∧ ∃ (hj : j < vs.length), isInt a vs[j] = true ∧ ∀ i (hi : i < vs.length), i < j → isInt a vs[i] = false
 | [], _, _, _, _, e => no e
 | x :: xs, _, k, m, r, e => by
  refine x12 (indexD_hd e) ?_
  intro b eq1 e'
  subst eq1
  clear e
  refine x23 r.to ?_
  intro v us eq2 p q
  subst eq2
  refine x11 p.to ?_
  intro t eq1
  subst eq1
  rcases e' with ⟨rfl, rfl⟩ | ⟨ne, e⟩
  · exact ⟨0, rfl, by exact Nat.succ_pos _, by exact if_pos rfl, fun i y hi => absurd hi (Nat.not_lt_zero _)⟩
  · obtain ⟨j, rfl, hj, h1, h2⟩ := indexD_ok q e
    refine ⟨j + 1, by exact Nat.add_right_comm _ _ _, by simpa using hj, by simpa using h1, fun i hi lt => ?_⟩
    induction i using Nat.casesOn with
    | zero => simpa [isInt] using ne
    | succ i => simpa using h2 i (by simpa using hi) (by exact Nat.lt_of_succ_lt_succ ‹_›)
omit [Val] in
theorem str_digit : ∀ n < 10, ((toString ((n : Nat) : Int) : String) : Str) = ⟨[48 + n].toArray⟩ := by decide +kernel
omit [Val] in
theorem collect_sized {Q : List Value → Shared → Prop} {E : Value → Shared → Prop} (it : Addr) {o : Obj} {items : Array Value} {n : Nat} (ho : s.heap.get? it = some o) (hc : o.cls = .type "list") (hd : o.data = .seq items n)
  (hQ : ∀ h', (∀ b o', s.heap.get? b = some o' → h'.get? b = some o') ∧ s.heap.objs.size ≤ h'.objs.size → Q items.toList { s with heap := h' }) (hsz : items.size ≤ sizeLine) : wpAny (model prog w) A (collect (.ref it)) Q E s :=
 with_size (wpAny_collect_seq it (.inl rfl) ho hc hd (fun h' hk hz => hQ h' ⟨hk, hz⟩) hsz)
open AutoSeq1 (wpAny_loadPart') in
omit [Val] in
theorem tuple_new_meets (l : Addr) (o : Obj) (items : Array Value) (n : Nat) (hc : o.cls = .type "list") (hd : o.data = .seq items n) (hsz : items.size ≤ sizeLine) :
  Meets (Builtin.«tuple.__new__» ⟨[.type "tuple", .ref l], []⟩)
   (fun j R s => s.heap.get? l = some o ∧ ∀ h' : Heap, (∀ b o', s.heap.get? b = some o' → h'.get? b = some o') ∧ s.heap.objs.size ≤ h'.objs.size → R (.ok (.ret (.ref h'.objs.size))) { s with heap := h'.push { cls := .type "tuple", data := .seq items } }) :=
 .of_wp fun prog w A R s h => by
  obtain ⟨hp, g, d, tk, os⟩ := s; obtain ⟨ht, h⟩ := h
  have hsub := sub_tuple_self
  have hinit := init_tuple_lookup
  have hmh := madeHere_tuple
  have hT : Shared.TypeIs ⟨hp, g, d, tk, os⟩ (.ref l) "list" := ⟨o, ht, hc⟩
  wp_walk using wpAny_loadPart' ht, wpAny_typeOf hT, collect_sized (hsz := hsz) l ht hc hd
  intro h' hk
  show wpAny _ _ (Builtin.Tuple.tupleExact items.toList.toArray >>= fun v => ret v) _ _ _
  unfold Builtin.Tuple.tupleExact
  refine wpAny_bind (wpAny_newObj_type ?_ (by show items.toList.toArray.size ≤ sizeLine; simpa using hsz))
  refine wpAny_pure (m12 _ rfl ?_)
  have e : items.toList.toArray = items := by exact Array.toArray_toList ..
  rw [e]
  exact h h' hk
omit [Val] in
theorem tuple_of_list {l : Addr} {items : Array Value} {Q : Value → Shared → Prop} {E : Value → Shared → Prop} (hl : s.heap.IsList l items)
  (h : ∀ h' : Heap, (∀ b o', s.heap.get? b = some o' → h'.get? b = some o') ∧ s.heap.objs.size ≤ h'.objs.size → Q (.ref h'.objs.size) { s with heap := h'.push { cls := .type "tuple", data := .seq items } }) (hsz : items.size ≤ sizeLine) :
  wpAny (model prog w) A (call (.type "tuple") [.ref l]) Q E s := by
 obtain ⟨o, ho, hc, n, hd⟩ := hl
 exact callType_new PySem.F.called_tuple (by decide) (PySem.F.typeCall_tuple_1 _) (PySem.F.newCall_tuple_1 _) (fun obj => PySem.F.args_object_init_2 obj _) PySem.F.entry_tuple_new
  (tuple_new_meets l o items n hc hd hsz) ⟨ho, fun h' hk => ⟨⟨_, Heap.get?_push_size _ rfl, rfl⟩, h h' hk⟩⟩
noncomputable def biVal : BI → Value
 | .len => .builtin "len" | .max => .builtin "max" | .sum => .builtin "sum" | .dict => .type "dict" | .isTuple => .builtin "isinstance"
 | .str => .type "str" | .tuple => .type "tuple"
noncomputable def biArgs : BI → List Value → List Value
 | .isTuple, vs => vs ++ [.type "tuple"]
 | _, vs => vs
omit [Val] in
theorem oneI {α : Type} {F : D → Option α} {ds : List D} {r : α} (e : (match ds with | [a] => F a | _ => none) = some r) : ∃ a, ds = [a] ∧ F a = some r := by
 induction ds using List.casesOn with
 | nil => exact no e
 | cons a ds => induction ds using List.casesOn with
  | nil => exact (m12 a rfl e)
  | cons => exact no e
omit [Val] in
theorem lenI_inv {n : Nat} {d : D} (e : lenI n st = some (d, st')) : fits n = true ∧ D.int n = d ∧ st = st' := by
 refine x02 (ifI e) ?_
 try clear e
 intro z e
 exact ⟨z, ou e⟩
noncomputable def BiR (prog : Program) (w : World) (A : Around) (hT : Heap) (al fr : List Addr) (st st' : St) (s : Shared) (b : BI) (vs : List Value) (d : D) : Prop :=
 wpAny (model prog w) A (call (biVal b) (biArgs b vs)) (PostE prog w hT al fr st st' s d) FF s
theorem bi_len (S : Sto prog w hT al fr st s.heap) {ds : List D} {vs : List Value} {d : D} (r : RDs al fr s.heap vs ds) (e : biD st .len ds = some (d, st')) : BiR prog w A hT al fr st st' s .len vs d := by
 have fin : ∀ {us : List Value} {xs : List D}, RDs al fr s.heap us xs → fits xs.length = true → us.length < 2 ^ 40 ∧ (us.toArray.size : Int) = xs.length := fun ru z => by
  have le := fits_le z
  rw [sizeLine_eq] at le
  rw [List.size_toArray, ru.length]
  exact ⟨by exact Nat.lt_of_le_of_lt ‹_› (by decide), rfl⟩
 have ls : ∀ {a : D}, ds = [a] → (match listOf st a with | some xs => lenI xs.length st | none => none) = some (d, st') → BiR prog w A hT al fr st st' s .len vs d := by
  intro a q e'
  clear e
  subst q
  refine x12 (lstI e') ?_
  intro xs z e
  refine x03 (lenI_inv e) ?_
  intro z2 eq1 eq2
  subst eq1
  subst eq2
  refine x12 r.to1 ?_
  intro v eq1 p
  subst eq1
  refine x23 (list_of S p z) ?_
  intro x us eq2 hl ru
  subst eq2
  refine x02 (fin ru z2) ?_
  intro f1 f2
  refine call_len_list hl.isList (by rw [List.size_toArray]; exact Int.ofNat_lt.mpr (Nat.lt_of_lt_of_le ‹_› (by decide))) ?_
  rw [f2]
  exact .tok (htk := by first | exact Nat.le_refl _ | lia | omega) S (.int _ _)
 induction ds using List.casesOn with
 | nil => exact no e
 | cons a ds => induction ds using List.casesOn with
  | cons => induction a using D.casesOn <;> exact no e
  | nil => induction a using D.casesOn with
   | str xs =>
    refine x03 (lenI_inv e) ?_
    intro z eq1 eq2
    subst eq1
    subst eq2
    refine x12 r.to1 ?_
    intro v eq1 p
    subst eq1
    refine x11 p.to ?_
    intro t eq1
    subst eq1
    exact len_str (by have := fits_le z; rw [sizeLine_eq] at this; simp [Str.length]; exact Int.ofNat_lt.mpr (Nat.lt_of_le_of_lt ‹_› (by decide))) (.tok (htk := by first | exact Nat.le_refl _ | lia | omega) S (.int _ _))
   | tup xs =>
    refine x03 (lenI_inv e) ?_
    intro z eq1 eq2
    subst eq1
    subst eq2
    refine x12 r.to1 ?_
    intro v eq1 p
    subst eq1
    refine x25 p.to ?_
    intro x us eq2 _ _ hl ru
    subst eq2
    refine x02 (fin ru z) ?_
    intro f1 f2
    refine len_tuple hl (by rw [List.size_toArray]; exact Int.ofNat_lt.mpr (Nat.lt_of_lt_of_le ‹_› (by decide))) ?_
    rw [f2]
    exact .tok (htk := by first | exact Nat.le_refl _ | lia | omega) S (.int _ _)
   | _ => exact ls rfl e
theorem bi_sum (hh : A.handled = none) (S : Sto prog w hT al fr st s.heap) {ds : List D} {vs : List Value} {d : D} (r : RDs al fr s.heap vs ds) (e : biD st .sum ds = some (d, st')) : BiR prog w A hT al fr st st' s .sum vs d := by
 refine x12 (oneI e) ?_
 try clear e
 intro a eq1 e
 subst eq1
 refine x12 (lstI e) ?_
 try clear e
 intro xs z e
 replace e : (match sumD 0 xs with | some m => some (.int m, st) | none => none) = some (d, st') := e
 cases z2 : sumD 0 xs with
 | none => rw [z2] at e; exact no e
 | some m =>
  rw [z2] at e
  refine ouK e ?_
  refine x12 r.to1 ?_
  intro v eq1 p
  subst eq1
  refine x23 (list_of S p z) ?_
  intro x us eq2 hl ru
  subst eq2
  refine x13 (sumD_ok ru z2) ?_
  intro ns hi eq2 hf
  subst eq2
  refine x11 hi.allInts.items ?_
  intro xa ex
  have hns : ns = xa.toList.map (·.1) := by rw [← hi.numsOf, ← nums_intItems, ← ex]
  have hl' : s.heap.IsList x (intItems xa) := ex ▸ hl.isList
  refine with_more (sum_intList hh hl' (fun j hj => ?_) fun h' tk t' hk hz => ?_)
  · have := hf j (by rw [hns, List.length_map, Array.length_toList]; exact hj)
    rw [numAt_eq, preSum_eq, ← hns]
    simpa using this
  · rw [preSum_eq, ← hns]
    have : (ns.take xa.size) = ns := by rw [hns]; exact List.take_of_length_le (by simp)
    rw [this]
    rw [Int.zero_add]
    exact ⟨al, Stp.grow S hz.1 hk hz.2, .int _ _⟩
theorem bi_max2 (hh : A.handled = none) (S : Sto prog w hT al fr st s.heap) {i j : Int} {vs : List Value} (r : RDs al fr s.heap vs [.int i, .int j]) : BiR prog w A hT al fr st st s .max vs (.int (match ltInt i j with | true => j | false => i)) := by
 refine x23 r.to2 ?_
 intro v u eq2 p q
 subst eq2
 refine x11 p.to ?_
 intro t eq1
 subst eq1
 refine x11 q.to ?_
 intro t2 eq1
 subst eq1
 refine with_more (max_two_ints hh fun h' tk hk hz => ?_)
 rw [ltInt_eq]
 by_cases lt : j > i
 · rw [if_pos lt, decide_eq_true (show i < j from lt)]; exact ⟨al, Stp.grow S hz.1 hk hz.2, .int _ _⟩
 · rw [if_neg lt, decide_eq_false (show ¬ i < j from lt)]; exact ⟨al, Stp.grow S hz.1 hk hz.2, .int _ _⟩
theorem bi_max1 (hh : A.handled = none) (S : Sto prog w hT al fr st s.heap) {a : D} {vs : List Value} {i m : Int} {xs : List D} (r : RDs al fr s.heap vs [a]) (z : listOf st a = some (.int i :: xs)) (z2 : maxD i xs = some m) : BiR prog w A hT al fr st st s .max vs (.int m) := by
 refine x12 r.to1 ?_
 intro v eq1 p
 subst eq1
 refine x23 (list_of S p z) ?_
 intro x us eq2 hl ru
 subst eq2
 refine x23 ru.to ?_
 intro v1 us eq2 p1 ru'
 subst eq2
 refine x11 p1.to ?_
 intro t eq1
 subst eq1
 refine x14 (maxD_ok ru' z2) ?_
 intro ns hi h1 h2 h3
 have hi : IntsAre _ (i :: ns) := .cons i t hi
 refine x11 hi.allInts.items ?_
 intro xa ex
 have hns : i :: ns = xa.toList.map (·.1) := by rw [← hi.numsOf, ← nums_intItems, ← ex]
 have hl' : s.heap.IsList x (intItems xa) := ex ▸ hl.isList
 have hne : 0 < xa.size := by
  have := congrArg List.length hns
  simp at this; lia
 refine with_more (max_intList hh hl' hne fun v h' tk hv hk hz => ?_)
 refine x11 (intItems_at hv) ?_
 intro t eq1
 subst eq1
 refine x02 (argBest_gt (numAt xa) (xa.size - 1)) ?_
 intro q1 q2
 have e1 : numAt xa (argBest (fun i j => decide (numAt xa i > numAt xa j)) (xa.size - 1)) = m := by
  refine Int.le_antisymm ?_ ?_
  · have : numAt xa (argBest (fun i j => decide (numAt xa i > numAt xa j)) (xa.size - 1)) ∈ i :: ns := by
      rw [hns, numAt_eq]; exact getD_mem (by rw [List.length_map, Array.length_toList]; lia)
    rcases List.mem_cons.mp this with q | q
    · rw [q]; exact h2
    · exact h3 _ q
  · have : m ∈ i :: ns := by
      rcases h1 with h1 | h1
      · rw [h1]; exact List.mem_cons_self
      · exact List.mem_cons_of_mem _ h1
    rw [hns] at this
    refine x12 (mem_getD this) ?_
    intro j hj eq2
    subst eq2
    rw [List.length_map, Array.length_toList] at hj
    rw [← numAt_eq]; exact q2 j (by lia)
 rw [e1]
 exact ⟨al, Stp.grow S hz.1 hk hz.2, .int _ _⟩
theorem bi_max (hh : A.handled = none) (S : Sto prog w hT al fr st s.heap) {ds : List D} {vs : List Value} {d : D} (r : RDs al fr s.heap vs ds) (e : biD st .max ds = some (d, st')) : BiR prog w A hT al fr st st' s .max vs d := by
 induction ds using List.casesOn with
 | nil => exact no e
 | cons a ds => induction ds using List.casesOn with
  | nil =>
   have e' : (match listOf st a with
    | some (.int i :: r) => match maxD i r with | some m => some (.int m, st) | none => none
    | _ => none) = some (d, st') := by induction a using D.casesOn <;> exact e
   clear e
   cases z : listOf st a with
   | none => rw [z] at e'; exact no e'
   | some xs =>
    rw [z] at e'
    induction xs using List.casesOn with
    | nil => exact no e'
    | cons i xs => induction i using D.casesOn with
     | int i =>
      replace e' : (match maxD i xs with | some m => some (.int m, st) | none => none) = some (d, st') := e'
      cases z2 : maxD i xs with
      | none => rw [z2] at e'; exact no e'
      | some m =>
       rw [z2] at e'
       refine x02 (ou e') ?_
       intro eq0 eq1
       subst eq0
       subst eq1
       exact bi_max1 hh S r z z2
     | _ => exact no e'
  | cons b ds => induction ds using List.casesOn with
   | nil => induction a using D.casesOn with
    | int i => induction b using D.casesOn with
     | int j =>
      refine ouK e ?_
      exact bi_max2 hh S r
     | _ => exact no e
    | _ => exact no e
   | cons => induction a using D.casesOn with
    | int => induction b using D.casesOn <;> exact no e
    | _ => exact no e
theorem bi_dict (hs : ∃ o, hT.get? sysModules = some o) (S : Sto prog w hT al fr st s.heap) {ds : List D} {vs : List Value} {d : D} (r : RDs al fr s.heap vs ds) (e : biD st .dict ds = some (d, st')) : BiR prog w A hT al fr st st' s .dict vs d := by
 induction ds using List.casesOn with
 | nil => exact no e
 | cons a ds => induction a using D.casesOn with
  | ob k => induction ds using List.casesOn with
   | cons => exact no e
   | nil =>
    refine x12 r.to1 ?_
    intro u eq1 p
    subst eq1
    refine x12 p.to ?_
    intro a eq1 ha
    subst eq1
    replace e : (match lk k st.mu with
     | some (_, .dic es) => match fits es.length with | true => some (newM st (.dic es)) | false => none
     | _ => none) = some (d, st') := e
    cases z : lk k st.mu with
    | none => rw [z] at e; exact no e
    | some p =>
     obtain ⟨v, mo⟩ := p
     rw [z] at e
     induction mo using MO.casesOn with
     | dic es =>
      refine x02 (ifI e) ?_
      try clear e
      intro z2 e
      refine ouK e ?_
      obtain ⟨a', ha', kvs, hd, ek, rk⟩ := S.mu k v _ z
      rw [ha] at ha'
      have ha' := so ha'
      subst ha'
      have le : kvs.length ≤ sizeLine := by rw [len_of ek]; exact fits_le z2
      refine with_size (kt_call_dict (top_ne S hs (List.mem_of_getElem? ha)) hd le fun h' hd' hsb hz => ?_)
      have hlt : s.heap.objs.size < h'.objs.size := by rw [hsb.1, Heap.size_push]; exact Nat.lt_succ_self _
      have kk : ∀ b o, s.heap.get? b = some o → h'.get? b = some o := fun b o y => (hsb.2 b (Nat.ne_of_lt (Heap.lt_size y))).trans (Heap.get?_push_of_some _ y)
      have := Stp.newM (htk := Nat.le_refl _) (tk := s.toks) (mo := .dic es) S (Nat.le_refl _) hlt hz kk ⟨kvs, hd', ek, rk⟩
      exact ⟨_, this.1, this.2⟩
     | _ => exact no e
  | _ => exact no e
theorem bi_str (S : Sto prog w hT al fr st s.heap) {ds : List D} {vs : List Value} {d : D} (r : RDs al fr s.heap vs ds) (e : biD st .str ds = some (d, st')) : BiR prog w A hT al fr st st' s .str vs d := by
 induction ds using List.casesOn with
 | nil => exact no e
 | cons a ds => induction a using D.casesOn with
  | int i => induction ds using List.casesOn with
   | cons => exact no e
   | nil =>
    refine x12 (natI e) ?_
    try clear e
    intro k eq1 e
    subst eq1
    refine x02 (ifI e) ?_
    try clear e
    intro z2 e
    refine ouK e ?_
    have z2 : k < 10 := Nat.le_of_ble_eq_true z2
    refine x12 r.to1 ?_
    intro u eq1 p
    subst eq1
    refine x11 p.to ?_
    intro t eq1
    subst eq1
    refine P.str_of_int (by have : ∀ k : Nat, k < 10 → (k : Int).natAbs.log2 < 1920 := by decide
                            exact this k z2) ?_
    rw [str_digit k z2]
    exact .tok (htk := Nat.le_succ _) S (.str _ _)
  | _ => exact no e
theorem bi_tuple (S : Sto prog w hT al fr st s.heap) {ds : List D} {vs : List Value} {d : D} (r : RDs al fr s.heap vs ds) (e : biD st .tuple ds = some (d, st')) : BiR prog w A hT al fr st st' s .tuple vs d := by
 refine x12 (oneI e) ?_
 try clear e
 intro a eq1 e
 subst eq1
 refine x12 (lstI e) ?_
 try clear e
 intro xs z e
 refine x02 (ifI e) ?_
 try clear e
 intro z2 e
 refine ouK e ?_
 refine x12 r.to1 ?_
 intro v eq1 p
 subst eq1
 refine x23 (list_of S p z) ?_
 intro x us eq2 hl ru
 subst eq2
 refine tuple_of_list hl.isList (fun h' hk => ?_) (by rw [List.size_toArray, ru.length]; exact fits_le z2)
 have kk : ∀ b o, s.heap.get? b = some o → (h'.push { cls := .type "tuple", data := .seq us.toArray }).get? b = some o := fun b o y => Heap.get?_push_of_some _ (hk.1 b o y)
 have hz' : s.heap.objs.size ≤ h'.objs.size := hk.2
 have S1 := Stp.grow (htk := Nat.le_refl _) (tk := s.toks) S (by rw [Heap.size_push]; exact Nat.le_succ_of_le ‹_›) kk
 exact ⟨al, S1, .tup _ us xs (S.fresh hz').1 (S.fresh hz').2 ⟨_, Heap.get?_push_size _ rfl, rfl, 0, rfl⟩ (ru.step S1)⟩
theorem bi_isT (S : Sto prog w hT al fr st s.heap) {ds : List D} {vs : List Value} {d : D} (r : RDs al fr s.heap vs ds) (e : biD st .isTuple ds = some (d, st')) : BiR prog w A hT al fr st st' s .isTuple vs d := by
 induction ds using List.casesOn with
 | nil => exact no e
 | cons a ds => induction ds using List.casesOn with
  | cons => induction a using D.casesOn <;> exact no e
  | nil =>
   refine x12 r.to1 ?_
   intro u eq1 p
   subst eq1
   induction a using D.casesOn with
   | tup xs =>
    refine ouK e ?_
    refine x25 p.to ?_
    intro x us eq2 _ _ hl ru
    subst eq2
    refine x13 hl ?_
    clear hl
    intro o ho hc _
    exact IsiPair.tuple_tuple ho hc (.now S (.bool _))
   | int i =>
    refine ouK e ?_
    refine x11 p.to ?_
    intro t eq1
    subst eq1
    exact IsiPair.int_tuple (.tok (htk := by first | exact Nat.le_refl _ | lia | omega) S (.bool _))
   | _ => exact no e
theorem bi_ok (hh : A.handled = none) (hs : ∃ o, hT.get? sysModules = some o) (S : Sto prog w hT al fr st s.heap) {b : BI} {ds : List D} {vs : List Value} {d : D} (r : RDs al fr s.heap vs ds) (e : biD st b ds = some (d, st')) :
  wpAny (model prog w) A (call (biVal b) (biArgs b vs)) (PostE prog w hT al fr st st' s d) FF s := by
 show BiR prog w A hT al fr st st' s b vs d
 induction b using BI.casesOn with
 | len => exact bi_len S r e
 | isTuple => exact bi_isT S r e
 | sum => exact bi_sum hh S r e
 | max => exact bi_max hh S r e
 | dict => exact bi_dict hs S r e
 | str => exact bi_str S r e
 | tuple => exact bi_tuple S r e
end
end Mine
end
noncomputable section
open PySem PySem.W PyProof.Rows PySem.Spec PySem.Calls
namespace Mine
variable [Val]
open SeqAt
section
variable {prog : Program} {w : World} {nm : Nat → Str} {hT : Heap} {n : Nat} {A : Around} {env : Env} {sc : Scope} {al al' al'' fr fr' N ow ow' : List Addr} {ρ : Env'} {st st' st'' : St} {s s₁ s₂ s₃ s' s'' : Shared} {h h' : Heap}
noncomputable def meName : ME → Str
 | .append => "append" | .join => "join" | .index => "index" | .upper => "upper" | .split => "split"
noncomputable def meId : ME → String
 | .append => "list.append" | .join => "str.join" | .index => "list.index" | .upper => "str.upper" | .split => "str.split"
noncomputable def meCls : ME → String
 | .append => "list" | .index => "list" | _ => "str"
theorem me_on (S : Sto prog w hT al fr st s.heap) {o : D} {m : ME} {ov : Value} (r : RD al fr s.heap ov o) (e : meTy st o m = true) :
  PlainAttrs (meCls m) ∧ Slot (meCls m) (meName m) (meId m) ∧ typeOf (.builtin (meId m)) = pure (.type "method_descriptor") ∧ s.TypeIs ov (meCls m) ∧ (∀ a, ov = .ref a → ∃ ob, s.heap.get? a = some ob ∧ ob.dict = none) := by
 have onList : ∀ {x : Addr} {vs : List Value}, s.heap.PlainList x vs.toArray → s.TypeIs (.ref x) "list" ∧ (∀ a, Value.ref x = .ref a → ∃ ob, s.heap.get? a = some ob ∧ ob.dict = none) := fun hl =>
  ⟨hl.isList.typeIs, fun a q => by cases q; obtain ⟨k, hk⟩ := hl; exact (m12 _ hk rfl)⟩
 have onStr : meTy st o .join = true → s.TypeIs ov "str" ∧ (∀ a, ov = .ref a → ∃ ob, s.heap.get? a = some ob ∧ ob.dict = none) := fun e => by
  induction o using D.casesOn with
  | str x =>
   refine x11 r.to ?_
   intro t eq1
   subst eq1
   exact ⟨typeIs_str _ _ _, fun a q => nomatch q⟩
  | _ => exact nb e
 have onLst : ∀ {xs : List D}, listOf st o = some xs → s.TypeIs ov "list" ∧ (∀ a, ov = .ref a → ∃ ob, s.heap.get? a = some ob ∧ ob.dict = none) := fun z => by
  refine x23 (list_of S r z) ?_
  intro x vs eq2 hl _
  subst eq2
  exact onList hl
 induction m using ME.casesOn with
 | append =>
  have e : ∃ xs, listOf st o = some xs := by
   induction o using D.casesOn with
   | ob k =>
    replace e : (match lk k st.mu with | some (_, .list _) => true | _ => false) = true := e
    cases z : lk k st.mu with
    | none => rw [z] at e; exact nb e
    | some p =>
     obtain ⟨v, mo⟩ := p
     rw [z] at e
     induction mo using MO.casesOn with
     | list xs => exact ⟨xs, by show (match lk k st.mu with | some (_, .list xs) => some xs | _ => none) = _; rw [z]⟩
     | _ => exact nb e
   | _ => exact nb e
  refine x11 e ?_
  clear e
  intro xs z
  exact (m04 F.plainAttrs_list slot_list_append F.type_list_append (onLst z))
 | index =>
  replace e : (match listOf st o with | some _ => true | none => false) = true := e
  cases z : listOf st o with
  | none => rw [z] at e; exact nb e
  | some xs => exact (m04 F.plainAttrs_list F.slot_list_index F.type_list_index (onLst z))
 | join => exact (m04 F.plainAttrs_str F.slot_str_join F.type_str_join (onStr e))
 | upper => exact (m04 F.plainAttrs_str F.slot_str_upper F.type_str_upper (onStr e))
 | split => exact (m04 F.plainAttrs_str F.slot_str_split F.type_str_split (onStr e))
omit [Val] in
theorem upper_one : ∀ c < 128, Unicode.upperOf c = [match Nat.ble 97 c && Nat.ble c 122 with | true => c - 32 | false => c] := by decide +kernel
omit [Val] in
theorem upper_all : ∀ {x : List Nat}, asciiD x = true → (x.map fun c => Unicode.upperOf c).flatten = upperL x
 | [], _ => rfl
 | c :: r, h => by
  simp only [asciiD, Bool.and_eq_true] at h
  have hc : c < 128 := Nat.le_of_ble_eq_true h.1
  simp only [List.map_cons, List.flatten_cons, upperL, upper_one c hc, upper_all h.2, List.cons_append, List.nil_append]
  all_goals rfl
omit [Val] in
theorem placed_upper {x : List Nat} (h : asciiD x = true) : PySem.placed ⟨x.toArray⟩ (fun j c => Unicode.upperOf c) = (upperL x).toArray := by
 unfold PySem.placed
 rw [← upper_all h]
 simp only [List.mapIdx_toArray]
 have : (List.mapIdx (fun (_ : Nat) c => (Unicode.upperOf c).toArray) x) = x.map fun c => (Unicode.upperOf c).toArray := by
  rw [List.mapIdx_eq_zipIdx_map]
  have : ∀ (k : Nat), List.map (fun p : Nat × Nat => (Unicode.upperOf p.1).toArray) (x.zipIdx k) = x.map fun c => (Unicode.upperOf c).toArray := by
   intro k
   clear h
   induction x generalizing k with
   | nil => rfl
   | cons a r ih => simp [List.zipIdx_cons, ih]
  exact this 0
 rw [this]
 clear this h
 apply Array.ext'
 simp only [Array.toList_flatten]
 congr 1
 exact List.map_map ..
omit [Val] in
theorem upper_length : ∀ {x : List Nat}, (upperL x).length = x.length
 | [] => rfl
 | _ :: r => by simp [upperL, upper_length (x := r)]
theorem strs_rd : ∀ (ps : List Str) (k : Nat), RDs al fr h (strsFrom k ps) (ps.map fun p => .str p.cps.toList)
 | [], _ => .nil
 | p :: ps, k => by
  have : RD al fr h (.str p k) (.str p.cps.toList) := by
   have := RD.str (al := al) (fr := fr) (h := h) p.cps.toList k
   simpa using this
  exact .cons this (strs_rd ps (k + 1))
noncomputable def MeR (prog : Program) (w : World) (A : Around) (hT : Heap) (al fr : List Addr) (st st' : St) (s : Shared) (m : ME) (vs : List Value) (d : D) : Prop :=
 wpAny (model prog w) A (call (.builtin (meId m)) vs) (PostE prog w hT al fr st st' s d) FF s
theorem me_append (S : Sto prog w hT al fr st s.heap) {o : D} {ov : Value} {ds : List D} {vs : List Value} {d : D} (ro : RD al fr s.heap ov o) (r : RDs al fr s.heap vs ds) (e : meD st o .append ds = some (d, st')) : MeR prog w A hT al fr st st' s .append (ov :: vs) d := by
 induction o using D.casesOn with
 | ob k => induction ds using List.casesOn with
  | nil => exact no e
  | cons d' ds => induction ds using List.casesOn with
   | cons => exact no e
   | nil =>
    refine x12 (oSt e) ?_
    try clear e
    intro st1 z e
    refine ouK e ?_
    refine x33 (setM_inv z) ?_
    intro v mo mo' q q2 eq5
    subst eq5
    induction mo using MO.casesOn with
    | list xs =>
     refine x02 (ifI q2) ?_
     try clear q2
     intro z2 q2
     have q2 := so q2
     subst q2
     refine x12 ro.to ?_
     intro a eq1 ha
     subst eq1
     obtain ⟨a', ha', us, hl, ru⟩ := S.mu k v _ q
     rw [ha] at ha'
     have ha' := so ha'
     subst ha'
     refine x12 r.to1 ?_
     intro p eq1 rp
     subst eq1
     have hsz : us.toArray.size ≤ sizeLine := by rw [List.size_toArray, ru.length]; exact fits_le z2
     refine wpAny_list_append_plain (hsz := hsz) hl fun h' hl' hsb => ?_
     exact ⟨al, Stp.setM (htk := Nat.le_refl _) S q ha (Nat.le_of_eq hsb.1.symm) (fun b o ne e => (hsb.2 b ne).trans e) ⟨us ++ [_], by simpa using hl', ru.append (.cons rp .nil)⟩, .none⟩
    | _ => exact no q2
 | _ => exact no e
theorem me_join (S : Sto prog w hT al fr st s.heap) {o : D} {ov : Value} {ds : List D} {vs : List Value} {d : D} (ro : RD al fr s.heap ov o) (r : RDs al fr s.heap vs ds) (e : meD st o .join ds = some (d, st')) : MeR prog w A hT al fr st st' s .join (ov :: vs) d := by
 induction o using D.casesOn with
 | str sep => induction ds using List.casesOn with
  | nil => exact no e
  | cons b ds => induction b using D.casesOn with
   | list xs => induction ds using List.casesOn with
    | cons => exact no e
    | nil =>
     refine x02 (ifI e) ?_
     try clear e
     intro z e
     refine x02 (Bool.and_eq_true_iff.mp z) ?_
     intro z1 z2
     refine x12 (oTx e) ?_
     try clear e
     intro x z3 e
     refine x02 (ifI e) ?_
     try clear e
     intro z4 e
     refine ouK e ?_
     refine x11 ro.to ?_
     intro t eq1
     subst eq1
     refine x12 r.to1 ?_
     intro p eq1 rp
     subst eq1
     refine x25 rp.to ?_
     intro a us eq2 _ _ hl ru
     subst eq2
     refine x13 (joinD_ok ru z3) ?_
     intro ys h1 h2 h3
     have l1 := Nat.le_of_ble_eq_true z1
     have l2 := Nat.le_of_ble_eq_true z2
     have l4 := Nat.le_of_ble_eq_true z4
     have ly : ys.length = xs.length := by rw [← ru.length, h1.length]
     refine wpAny_with_toks (Nat.le_refl _) (join_list hl.isList h1 ?_ fun t' k ht => ?_)
     · rw [ly]
       have : xs.length * sep.length ≤ 1000 * 1000 := Nat.mul_le_mul l2 l1
       have e1 : (⟨sep.toArray⟩ : Str).length = sep.length := by exact List.size_toArray ..
       rw [e1]; lia
     · rw [h2]; exact .tok S (.str _ _) ht
   | _ => exact no e
 | _ => exact no e
theorem me_index (S : Sto prog w hT al fr st s.heap) {o : D} {ov : Value} {ds : List D} {vs : List Value} {d : D} (ro : RD al fr s.heap ov o) (r : RDs al fr s.heap vs ds) (e : meD st o .index ds = some (d, st')) : MeR prog w A hT al fr st st' s .index (ov :: vs) d := by
 induction ds using List.casesOn with
 | nil => exact no e
 | cons b ds => induction b using D.casesOn with
  | int a => induction ds using List.casesOn with
   | cons => exact no e
   | nil =>
    refine x12 (lstI e) ?_
    try clear e
    intro xs z e
    refine x02 (ifI e) ?_
    try clear e
    intro z1 e
    refine x12 (oBo e) ?_
    try clear e
    intro bb z3 e
    refine x12 (oNa e) ?_
    try clear e
    intro j z2 e
    refine ouK e ?_
    refine x12 r.to1 ?_
    intro p eq1 rp
    subst eq1
    refine x11 rp.to ?_
    intro t eq1
    subst eq1
    refine x23 (list_of S ro z) ?_
    intro x us eq2 hl ru
    subst eq2
    obtain ⟨j', rfl, hj, h1, h2⟩ := indexD_ok ru z2
    refine x12 (ints_of ru z3) ?_
    intro ns hi _
    have l1 := Nat.le_of_ble_eq_true z1
    have ln := ru.length
    refine x11 (id hl) ?_
    intro c ho
    rw [Nat.zero_add]
    exact call_meets PySem.F.slot_list_index ⟨_, ho, rfl⟩ PySem.F.entry_list_index (PySem.F.args_list_index_2 _ _)
     (list_indexAt x us.toArray c none #[] (.int a t) (isInt a) j' (by simpa using hj) (by lia) h1 fun i hi lt => h2 i (by simpa using hi) lt)
     ⟨ho, fun y hy => (eq_isInt a t hi y (by simpa using hy)).at _ _, .tok (htk := Nat.le_succ _) S (.int _ _)⟩
  | _ => exact no e
theorem me_upper (S : Sto prog w hT al fr st s.heap) {o : D} {ov : Value} {ds : List D} {vs : List Value} {d : D} (ro : RD al fr s.heap ov o) (r : RDs al fr s.heap vs ds) (e : meD st o .upper ds = some (d, st')) : MeR prog w A hT al fr st st' s .upper (ov :: vs) d := by
 induction o using D.casesOn with
 | str x => induction ds using List.casesOn with
  | cons => exact no e
  | nil =>
   refine x02 (ifI e) ?_
   try clear e
   intro z e
   refine x02 (Bool.and_eq_true_iff.mp z) ?_
   intro z1 z2
   refine ouK e ?_
   refine x11 ro.to ?_
   intro t eq1
   subst eq1
   have := r.to
   subst this
   have z2 := fits_le z2
   have e1 := placed_upper z1
   have hf : Builtin.Str.tooLong (PySem.placed ⟨x.toArray⟩ (fun j c => Unicode.upperOf c)).size = false := by
    rw [e1]
    unfold Builtin.Str.tooLong
    exact decide_eq_false (by simp [upper_length]; assumption)
   refine call_gives F.slot_str_upper (typeIs_str _ _ _) F.entry_str_upper (F.args_str_upper_1 _) (gives_str_upper ⟨x.toArray⟩ t hf) ⟨?_, ?_⟩
   · rw [e1]; simp [Str.length, upper_length]; exact z2
   · rw [e1]; exact .tok (htk := Nat.le_succ _) S (.str _ _)
 | _ => exact no e
omit [Val] in
theorem splitD_inv {c : Nat} {x : List Nat} {ps : List Str} (z : splitD c x = some ps) :
  (decide ((⟨x.toArray⟩ : Str).length < (⟨#[c]⟩ : Str).length) || decide (Builtin.Str.strKind ⟨x.toArray⟩ < Builtin.Str.strKind ⟨#[c]⟩)) = false ∧
  (Builtin.Str.occurrences ⟨x.toArray⟩ ⟨#[c]⟩ 0 (⟨x.toArray⟩ : Str).length ((⟨x.toArray⟩ : Str).length + 1)).isEmpty = false ∧
  Builtin.Str.partsBetween ⟨x.toArray⟩ (Builtin.Str.occurrences ⟨x.toArray⟩ ⟨#[c]⟩ 0 (⟨x.toArray⟩ : Str).length ((⟨x.toArray⟩ : Str).length + 1)) (⟨#[c]⟩ : Str).length = ps := by
 unfold splitD at z
 split at z
 · exact no z
 · rename_i h1
   split at z
   · exact no z
   · rename_i h2
     exact ⟨h1, h2, so z⟩
theorem me_split (S : Sto prog w hT al fr st s.heap) {o : D} {ov : Value} {ds : List D} {vs : List Value} {d : D} (ro : RD al fr s.heap ov o) (r : RDs al fr s.heap vs ds) (e : meD st o .split ds = some (d, st')) : MeR prog w A hT al fr st st' s .split (ov :: vs) d := by
 induction o using D.casesOn with
 | str x => induction ds using List.casesOn with
  | nil => exact no e
  | cons b ds => induction b using D.casesOn with
   | str y => induction y using List.casesOn with
    | nil => induction ds using List.casesOn <;> exact no e
    | cons c y => induction y using List.casesOn with
     | cons => induction ds using List.casesOn <;> exact no e
     | nil => induction ds using List.casesOn with
      | cons => exact no e
      | nil =>
       refine x12 (oPs e) ?_
       try clear e
       intro ps z e
       refine x02 (ifI e) ?_
       try clear e
       intro zz e
       refine x02 (Bool.and_eq_true_iff.mp zz) ?_
       intro z2 z3
       refine ouK e ?_
       refine x11 ro.to ?_
       intro t eq1
       subst eq1
       refine x12 r.to1 ?_
       intro p eq1 rp
       subst eq1
       refine x11 rp.to ?_
       intro u eq1
       subst eq1
       refine x03 (splitD_inv z) ?_
       intro h1 h2 eq2
       subst eq2
       refine call_meets F.slot_str_split (typeIs_str _ _ _) F.entry_str_split (F.args_str_split_2 _ _) (meets_str_split_sep ⟨x.toArray⟩ ⟨#[c]⟩ t u h1 rfl h2 (by simpa [Str.length] using fits_le z2) (fits_le z3)) ?_
       exact newL_ok (htk := by first | exact Nat.le_refl _ | lia | omega) S (m := false) (strs_rd _ _) rfl
   | _ => exact no e
 | _ => exact no e
theorem me_ok (S : Sto prog w hT al fr st s.heap) {o : D} {m : ME} {ov : Value} {ds : List D} {vs : List Value} {d : D} (ro : RD al fr s.heap ov o) (r : RDs al fr s.heap vs ds) (e : meD st o m ds = some (d, st')) :
  wpAny (model prog w) A (call (.builtin (meId m)) (ov :: vs)) (PostE prog w hT al fr st st' s d) FF s := by
 show MeR prog w A hT al fr st st' s m (ov :: vs) d
 induction m using ME.casesOn with
 | append => exact me_append S ro r e
 | join => exact me_join S ro r e
 | index => exact me_index S ro r e
 | upper => exact me_upper S ro r e
 | split => exact me_split S ro r e
end
end Mine
end
noncomputable section
open PySem
namespace Mine
noncomputable abbrev EFL : List Type := [Str × Pos, Const × Nat × Pos, Expr × Operator × Expr × Pos, Expr × List CmpOp × List Expr × Pos, Expr × Expr × Expr × Pos, Expr × List Expr × List Keyword × Pos, Expr × Str × Pos, Expr × Expr × Pos, Option Expr × Option Expr × Option Expr × Pos, List Expr × Pos, List Expr × Nat × Pos, List (Option Expr) × List Expr × Pos, Expr × List Comprehension × Scope × Pos, Expr × Expr × List Comprehension × Scope × Pos, Expr × List Comprehension × Scope × Pos, Expr × Pos, List Expr × Nat × Pos, BoolOp × List Expr × Pos, UnaryOp × Expr × Pos]
noncomputable def EF (n : Nat) : Type := EFL.getD n Expr
noncomputable def shE : Expr → (n : Nat) × EF n
 | .Name id p => ⟨0, ((id, p) : Str × Pos)⟩
 | .Constant c n p => ⟨1, ((c, n, p) : Const × Nat × Pos)⟩
 | .BinOp l o r p => ⟨2, ((l, o, r, p) : Expr × Operator × Expr × Pos)⟩
 | .Compare l os rs p => ⟨3, ((l, os, rs, p) : Expr × List CmpOp × List Expr × Pos)⟩
 | .IfExp t y z p => ⟨4, ((t, y, z, p) : Expr × Expr × Expr × Pos)⟩
 | .Call fe es kw p => ⟨5, ((fe, es, kw, p) : Expr × List Expr × List Keyword × Pos)⟩
 | .Attribute oe name p => ⟨6, ((oe, name, p) : Expr × Str × Pos)⟩
 | .Subscript oe ie p => ⟨7, ((oe, ie, p) : Expr × Expr × Pos)⟩
 | .Slice a b c p => ⟨8, ((a, b, c, p) : Option Expr × Option Expr × Option Expr × Pos)⟩
 | .List es p => ⟨9, ((es, p) : List Expr × Pos)⟩
 | .Tuple es n p => ⟨10, ((es, n, p) : List Expr × Nat × Pos)⟩
 | .Dict ks vs p => ⟨11, ((ks, vs, p) : List (Option Expr) × List Expr × Pos)⟩
 | .ListComp ee gs sc p => ⟨12, ((ee, gs, sc, p) : Expr × List Comprehension × Scope × Pos)⟩
 | .DictComp ke ve gs sc p => ⟨13, ((ke, ve, gs, sc, p) : Expr × Expr × List Comprehension × Scope × Pos)⟩
 | .GeneratorExp ee gs sc p => ⟨14, ((ee, gs, sc, p) : Expr × List Comprehension × Scope × Pos)⟩
 | .Starred v p => ⟨15, ((v, p) : Expr × Pos)⟩
 | .Set es n p => ⟨16, ((es, n, p) : List Expr × Nat × Pos)⟩
 | .BoolOp o es p => ⟨17, ((o, es, p) : BoolOp × List Expr × Pos)⟩
 | .UnaryOp o v p => ⟨18, ((o, v, p) : UnaryOp × Expr × Pos)⟩
 | e => ⟨19, (e : Expr)⟩
noncomputable def unE : (n : Nat) → EF n → Expr
 | 0 => fun (x : Str × Pos) => .Name x.1 x.2
 | 1 => fun (x : Const × Nat × Pos) => .Constant x.1 x.2.1 x.2.2
 | 2 => fun (x : Expr × Operator × Expr × Pos) => .BinOp x.1 x.2.1 x.2.2.1 x.2.2.2
 | 3 => fun (x : Expr × List CmpOp × List Expr × Pos) => .Compare x.1 x.2.1 x.2.2.1 x.2.2.2
 | 4 => fun (x : Expr × Expr × Expr × Pos) => .IfExp x.1 x.2.1 x.2.2.1 x.2.2.2
 | 5 => fun (x : Expr × List Expr × List Keyword × Pos) => .Call x.1 x.2.1 x.2.2.1 x.2.2.2
 | 6 => fun (x : Expr × Str × Pos) => .Attribute x.1 x.2.1 x.2.2
 | 7 => fun (x : Expr × Expr × Pos) => .Subscript x.1 x.2.1 x.2.2
 | 8 => fun (x : Option Expr × Option Expr × Option Expr × Pos) => .Slice x.1 x.2.1 x.2.2.1 x.2.2.2
 | 9 => fun (x : List Expr × Pos) => .List x.1 x.2
 | 10 => fun (x : List Expr × Nat × Pos) => .Tuple x.1 x.2.1 x.2.2
 | 11 => fun (x : List (Option Expr) × List Expr × Pos) => .Dict x.1 x.2.1 x.2.2
 | 12 => fun (x : Expr × List Comprehension × Scope × Pos) => .ListComp x.1 x.2.1 x.2.2.1 x.2.2.2
 | 13 => fun (x : Expr × Expr × List Comprehension × Scope × Pos) => .DictComp x.1 x.2.1 x.2.2.1 x.2.2.2.1 x.2.2.2.2
 | 14 => fun (x : Expr × List Comprehension × Scope × Pos) => .GeneratorExp x.1 x.2.1 x.2.2.1 x.2.2.2
 | 15 => fun (x : Expr × Pos) => .Starred x.1 x.2
 | 16 => fun (x : List Expr × Nat × Pos) => .Set x.1 x.2.1 x.2.2
 | 17 => fun (x : BoolOp × List Expr × Pos) => .BoolOp x.1 x.2.1 x.2.2
 | 18 => fun (x : UnaryOp × Expr × Pos) => .UnaryOp x.1 x.2.1 x.2.2
 | n + 19 => fun (x : Expr) => x
theorem unE_shE (e : Expr) : unE (shE e).1 (shE e).2 = e := by induction e using Expr.casesOn <;> rfl
noncomputable def shET (n : Nat) (k : EF n → Bool) (s : (m : Nat) × EF m) : Bool := @Decidable.rec _ (fun u => Bool) (fun j => false) (fun (h : s.1 = n) => k (h ▸ s.2)) (Nat.decEq s.1 n)
theorem shET_e {n : Nat} {k : EF n → Bool} {e : Expr} {P : Expr → Prop} (h : shET n k (shE e) = true) (q : ∀ x, k x = true → P (unE n x)) : P e := by
 have u := unE_shE e
 generalize shE e = s at h u
 subst u
 induction s using Sigma.casesOn with
 | mk m x =>
  replace h : @Decidable.rec _ (fun u => Bool) (fun j => false) (fun (h : m = n) => k (h ▸ x)) (Nat.decEq m n) = true := h
  generalize Nat.decEq m n = d at h
  induction d using Decidable.casesOn with
  | isFalse => exact nb h
  | isTrue e => subst e; exact q x h
@[irreducible] noncomputable def vName (k : Str → Bool) (e : Expr) : Bool := shET 0 (fun (x : Str × Pos) => k x.1) (shE e)
@[elab_as_elim] theorem vName_e {k : Str → Bool} {e : Expr} {P : Expr → Prop} (h : vName k e = true) (q : ∀ id p, k id = true → P (.Name id p)) : P e := by
 delta vName at h
 exact shET_e h fun x => q x.1 x.2
@[irreducible] noncomputable def vCon (k : Const → Bool) (e : Expr) : Bool := shET 1 (fun (x : Const × Nat × Pos) => k x.1) (shE e)
@[elab_as_elim] theorem vCon_e {k : Const → Bool} {e : Expr} {P : Expr → Prop} (h : vCon k e = true) (q : ∀ c n p, k c = true → P (.Constant c n p)) : P e := by
 delta vCon at h
 exact shET_e h fun x => q x.1 x.2.1 x.2.2
@[irreducible] noncomputable def vBin (k : Expr → Operator → Expr → Bool) (e : Expr) : Bool := shET 2 (fun (x : Expr × Operator × Expr × Pos) => k x.1 x.2.1 x.2.2.1) (shE e)
@[elab_as_elim] theorem vBin_e {k : Expr → Operator → Expr → Bool} {e : Expr} {P : Expr → Prop} (h : vBin k e = true) (q : ∀ l o r p, k l o r = true → P (.BinOp l o r p)) : P e := by
 delta vBin at h
 exact shET_e h fun x => q x.1 x.2.1 x.2.2.1 x.2.2.2
@[irreducible] noncomputable def vCmp (k : Expr → (List CmpOp) → (List Expr) → Bool) (e : Expr) : Bool := shET 3 (fun (x : Expr × List CmpOp × List Expr × Pos) => k x.1 x.2.1 x.2.2.1) (shE e)
@[elab_as_elim] theorem vCmp_e {k : Expr → (List CmpOp) → (List Expr) → Bool} {e : Expr} {P : Expr → Prop} (h : vCmp k e = true) (q : ∀ l os rs p, k l os rs = true → P (.Compare l os rs p)) : P e := by
 delta vCmp at h
 exact shET_e h fun x => q x.1 x.2.1 x.2.2.1 x.2.2.2
@[irreducible] noncomputable def vIf (k : Expr → Expr → Expr → Bool) (e : Expr) : Bool := shET 4 (fun (x : Expr × Expr × Expr × Pos) => k x.1 x.2.1 x.2.2.1) (shE e)
@[elab_as_elim] theorem vIf_e {k : Expr → Expr → Expr → Bool} {e : Expr} {P : Expr → Prop} (h : vIf k e = true) (q : ∀ t y z p, k t y z = true → P (.IfExp t y z p)) : P e := by
 delta vIf at h
 exact shET_e h fun x => q x.1 x.2.1 x.2.2.1 x.2.2.2
@[irreducible] noncomputable def vCall (k : Expr → (List Expr) → (List Keyword) → Pos → Bool) (e : Expr) : Bool := shET 5 (fun (x : Expr × List Expr × List Keyword × Pos) => k x.1 x.2.1 x.2.2.1 x.2.2.2) (shE e)
@[elab_as_elim] theorem vCall_e {k : Expr → (List Expr) → (List Keyword) → Pos → Bool} {e : Expr} {P : Expr → Prop} (h : vCall k e = true) (q : ∀ fe es kw p, k fe es kw p = true → P (.Call fe es kw p)) : P e := by
 delta vCall at h
 exact shET_e h fun x => q x.1 x.2.1 x.2.2.1 x.2.2.2
@[irreducible] noncomputable def vAttr (k : Expr → Str → Pos → Bool) (e : Expr) : Bool := shET 6 (fun (x : Expr × Str × Pos) => k x.1 x.2.1 x.2.2) (shE e)
@[elab_as_elim] theorem vAttr_e {k : Expr → Str → Pos → Bool} {e : Expr} {P : Expr → Prop} (h : vAttr k e = true) (q : ∀ oe name p, k oe name p = true → P (.Attribute oe name p)) : P e := by
 delta vAttr at h
 exact shET_e h fun x => q x.1 x.2.1 x.2.2
@[irreducible] noncomputable def vSub (k : Expr → Expr → Bool) (e : Expr) : Bool := shET 7 (fun (x : Expr × Expr × Pos) => k x.1 x.2.1) (shE e)
@[elab_as_elim] theorem vSub_e {k : Expr → Expr → Bool} {e : Expr} {P : Expr → Prop} (h : vSub k e = true) (q : ∀ oe ie p, k oe ie = true → P (.Subscript oe ie p)) : P e := by
 delta vSub at h
 exact shET_e h fun x => q x.1 x.2.1 x.2.2
@[irreducible] noncomputable def vSlice (k : (Option Expr) → (Option Expr) → (Option Expr) → Bool) (e : Expr) : Bool := shET 8 (fun (x : Option Expr × Option Expr × Option Expr × Pos) => k x.1 x.2.1 x.2.2.1) (shE e)
@[elab_as_elim] theorem vSlice_e {k : (Option Expr) → (Option Expr) → (Option Expr) → Bool} {e : Expr} {P : Expr → Prop} (h : vSlice k e = true) (q : ∀ a b c p, k a b c = true → P (.Slice a b c p)) : P e := by
 delta vSlice at h
 exact shET_e h fun x => q x.1 x.2.1 x.2.2.1 x.2.2.2
@[irreducible] noncomputable def vList (k : (List Expr) → Bool) (e : Expr) : Bool := shET 9 (fun (x : List Expr × Pos) => k x.1) (shE e)
@[elab_as_elim] theorem vList_e {k : (List Expr) → Bool} {e : Expr} {P : Expr → Prop} (h : vList k e = true) (q : ∀ es p, k es = true → P (.List es p)) : P e := by
 delta vList at h
 exact shET_e h fun x => q x.1 x.2
@[irreducible] noncomputable def vTup (k : (List Expr) → Bool) (e : Expr) : Bool := shET 10 (fun (x : List Expr × Nat × Pos) => k x.1) (shE e)
@[elab_as_elim] theorem vTup_e {k : (List Expr) → Bool} {e : Expr} {P : Expr → Prop} (h : vTup k e = true) (q : ∀ es n p, k es = true → P (.Tuple es n p)) : P e := by
 delta vTup at h
 exact shET_e h fun x => q x.1 x.2.1 x.2.2
@[irreducible] noncomputable def vDict (k : (List (Option Expr)) → (List Expr) → Bool) (e : Expr) : Bool := shET 11 (fun (x : List (Option Expr) × List Expr × Pos) => k x.1 x.2.1) (shE e)
@[elab_as_elim] theorem vDict_e {k : (List (Option Expr)) → (List Expr) → Bool} {e : Expr} {P : Expr → Prop} (h : vDict k e = true) (q : ∀ ks vs p, k ks vs = true → P (.Dict ks vs p)) : P e := by
 delta vDict at h
 exact shET_e h fun x => q x.1 x.2.1 x.2.2
@[irreducible] noncomputable def vLC (k : Expr → (List Comprehension) → Scope → Bool) (e : Expr) : Bool := shET 12 (fun (x : Expr × List Comprehension × Scope × Pos) => k x.1 x.2.1 x.2.2.1) (shE e)
@[elab_as_elim] theorem vLC_e {k : Expr → (List Comprehension) → Scope → Bool} {e : Expr} {P : Expr → Prop} (h : vLC k e = true) (q : ∀ ee gs sc p, k ee gs sc = true → P (.ListComp ee gs sc p)) : P e := by
 delta vLC at h
 exact shET_e h fun x => q x.1 x.2.1 x.2.2.1 x.2.2.2
@[irreducible] noncomputable def vDC (k : Expr → Expr → (List Comprehension) → Scope → Bool) (e : Expr) : Bool := shET 13 (fun (x : Expr × Expr × List Comprehension × Scope × Pos) => k x.1 x.2.1 x.2.2.1 x.2.2.2.1) (shE e)
@[elab_as_elim] theorem vDC_e {k : Expr → Expr → (List Comprehension) → Scope → Bool} {e : Expr} {P : Expr → Prop} (h : vDC k e = true) (q : ∀ ke ve gs sc p, k ke ve gs sc = true → P (.DictComp ke ve gs sc p)) : P e := by
 delta vDC at h
 exact shET_e h fun x => q x.1 x.2.1 x.2.2.1 x.2.2.2.1 x.2.2.2.2
@[irreducible] noncomputable def vGE (k : Expr → (List Comprehension) → Scope → Bool) (e : Expr) : Bool := shET 14 (fun (x : Expr × List Comprehension × Scope × Pos) => k x.1 x.2.1 x.2.2.1) (shE e)
@[elab_as_elim] theorem vGE_e {k : Expr → (List Comprehension) → Scope → Bool} {e : Expr} {P : Expr → Prop} (h : vGE k e = true) (q : ∀ ee gs sc p, k ee gs sc = true → P (.GeneratorExp ee gs sc p)) : P e := by
 delta vGE at h
 exact shET_e h fun x => q x.1 x.2.1 x.2.2.1 x.2.2.2
@[irreducible] noncomputable def vBop (k : BoolOp → (List Expr) → Bool) (e : Expr) : Bool := shET 17 (fun (x : BoolOp × List Expr × Pos) => k x.1 x.2.1) (shE e)
@[elab_as_elim] theorem vBop_e {k : BoolOp → (List Expr) → Bool} {e : Expr} {P : Expr → Prop} (h : vBop k e = true) (q : ∀ o es p, k o es = true → P (.BoolOp o es p)) : P e := by
 delta vBop at h
 exact shET_e h fun x => q x.1 x.2.1 x.2.2
noncomputable abbrev SFL : List Type := [List Expr × Expr × Pos, Expr × Operator × Expr × Pos, Expr × Pos, Option Expr × Pos, Expr × List Stmt × List Stmt × Pos, Expr × Expr × List Stmt × List Stmt × Pos, Pos]
noncomputable def SF (n : Nat) : Type := SFL.getD n Stmt
noncomputable def shS : Stmt → (n : Nat) × SF n
 | .Assign ts ex p => ⟨0, ((ts, ex, p) : List Expr × Expr × Pos)⟩
 | .AugAssign te o ex p => ⟨1, ((te, o, ex, p) : Expr × Operator × Expr × Pos)⟩
 | .Expr ex p => ⟨2, ((ex, p) : Expr × Pos)⟩
 | .Return v p => ⟨3, ((v, p) : Option Expr × Pos)⟩
 | .If t xs ys p => ⟨4, ((t, xs, ys, p) : Expr × List Stmt × List Stmt × Pos)⟩
 | .For te ie bs os p => ⟨5, ((te, ie, bs, os, p) : Expr × Expr × List Stmt × List Stmt × Pos)⟩
 | .Break p => ⟨6, (p : Pos)⟩
 | e => ⟨7, (e : Stmt)⟩
noncomputable def unS : (n : Nat) → SF n → Stmt
 | 0 => fun (x : List Expr × Expr × Pos) => .Assign x.1 x.2.1 x.2.2
 | 1 => fun (x : Expr × Operator × Expr × Pos) => .AugAssign x.1 x.2.1 x.2.2.1 x.2.2.2
 | 2 => fun (x : Expr × Pos) => .Expr x.1 x.2
 | 3 => fun (x : Option Expr × Pos) => .Return x.1 x.2
 | 4 => fun (x : Expr × List Stmt × List Stmt × Pos) => .If x.1 x.2.1 x.2.2.1 x.2.2.2
 | 5 => fun (x : Expr × Expr × List Stmt × List Stmt × Pos) => .For x.1 x.2.1 x.2.2.1 x.2.2.2.1 x.2.2.2.2
 | 6 => fun (x : Pos) => .Break x
 | n + 7 => fun (x : Stmt) => x
theorem unS_shS (e : Stmt) : unS (shS e).1 (shS e).2 = e := by induction e using Stmt.casesOn <;> rfl
noncomputable def shST (n : Nat) (k : SF n → Bool) (s : (m : Nat) × SF m) : Bool := @Decidable.rec _ (fun u => Bool) (fun j => false) (fun (h : s.1 = n) => k (h ▸ s.2)) (Nat.decEq s.1 n)
theorem shST_e {n : Nat} {k : SF n → Bool} {e : Stmt} {P : Stmt → Prop} (h : shST n k (shS e) = true) (q : ∀ x, k x = true → P (unS n x)) : P e := by
 have u := unS_shS e
 generalize shS e = s at h u
 subst u
 induction s using Sigma.casesOn with
 | mk m x =>
  replace h : @Decidable.rec _ (fun u => Bool) (fun j => false) (fun (h : m = n) => k (h ▸ x)) (Nat.decEq m n) = true := h
  generalize Nat.decEq m n = d at h
  induction d using Decidable.casesOn with
  | isFalse => exact nb h
  | isTrue e => subst e; exact q x h
@[irreducible] noncomputable def wAsg (k : (List Expr) → Expr → Pos → Bool) (e : Stmt) : Bool := shST 0 (fun (x : List Expr × Expr × Pos) => k x.1 x.2.1 x.2.2) (shS e)
@[elab_as_elim] theorem wAsg_e {k : (List Expr) → Expr → Pos → Bool} {e : Stmt} {P : Stmt → Prop} (h : wAsg k e = true) (q : ∀ ts ex p, k ts ex p = true → P (.Assign ts ex p)) : P e := by
 delta wAsg at h
 exact shST_e h fun x => q x.1 x.2.1 x.2.2
@[irreducible] noncomputable def wAug (k : Expr → Operator → Expr → Bool) (e : Stmt) : Bool := shST 1 (fun (x : Expr × Operator × Expr × Pos) => k x.1 x.2.1 x.2.2.1) (shS e)
@[elab_as_elim] theorem wAug_e {k : Expr → Operator → Expr → Bool} {e : Stmt} {P : Stmt → Prop} (h : wAug k e = true) (q : ∀ te o ex p, k te o ex = true → P (.AugAssign te o ex p)) : P e := by
 delta wAug at h
 exact shST_e h fun x => q x.1 x.2.1 x.2.2.1 x.2.2.2
@[irreducible] noncomputable def wExpr (k : Expr → Pos → Bool) (e : Stmt) : Bool := shST 2 (fun (x : Expr × Pos) => k x.1 x.2) (shS e)
@[elab_as_elim] theorem wExpr_e {k : Expr → Pos → Bool} {e : Stmt} {P : Stmt → Prop} (h : wExpr k e = true) (q : ∀ ex p, k ex p = true → P (.Expr ex p)) : P e := by
 delta wExpr at h
 exact shST_e h fun x => q x.1 x.2
@[irreducible] noncomputable def wRet (k : (Option Expr) → Bool) (e : Stmt) : Bool := shST 3 (fun (x : Option Expr × Pos) => k x.1) (shS e)
@[elab_as_elim] theorem wRet_e {k : (Option Expr) → Bool} {e : Stmt} {P : Stmt → Prop} (h : wRet k e = true) (q : ∀ v p, k v = true → P (.Return v p)) : P e := by
 delta wRet at h
 exact shST_e h fun x => q x.1 x.2
@[irreducible] noncomputable def wIf (k : Expr → (List Stmt) → (List Stmt) → Bool) (e : Stmt) : Bool := shST 4 (fun (x : Expr × List Stmt × List Stmt × Pos) => k x.1 x.2.1 x.2.2.1) (shS e)
@[elab_as_elim] theorem wIf_e {k : Expr → (List Stmt) → (List Stmt) → Bool} {e : Stmt} {P : Stmt → Prop} (h : wIf k e = true) (q : ∀ t xs ys p, k t xs ys = true → P (.If t xs ys p)) : P e := by
 delta wIf at h
 exact shST_e h fun x => q x.1 x.2.1 x.2.2.1 x.2.2.2
@[irreducible] noncomputable def wFor (k : Expr → Expr → (List Stmt) → (List Stmt) → Bool) (e : Stmt) : Bool := shST 5 (fun (x : Expr × Expr × List Stmt × List Stmt × Pos) => k x.1 x.2.1 x.2.2.1 x.2.2.2.1) (shS e)
@[elab_as_elim] theorem wFor_e {k : Expr → Expr → (List Stmt) → (List Stmt) → Bool} {e : Stmt} {P : Stmt → Prop} (h : wFor k e = true) (q : ∀ te ie bs os p, k te ie bs os = true → P (.For te ie bs os p)) : P e := by
 delta wFor at h
 exact shST_e h fun x => q x.1 x.2.1 x.2.2.1 x.2.2.2.1 x.2.2.2.2
@[irreducible] noncomputable def wBrk (k : Pos → Bool) (e : Stmt) : Bool := shST 6 (fun (x : Pos) => k x) (shS e)
@[elab_as_elim] theorem wBrk_e {k : Pos → Bool} {e : Stmt} {P : Stmt → Prop} (h : wBrk k e = true) (q : ∀ p, k p = true → P (.Break p)) : P e := by
 delta wBrk at h
 exact shST_e h q
noncomputable abbrev XFL : List Type := [X × X, X × COp × X, X × COp × X × COp × X, Nat × Nat]
noncomputable def XF (n : Nat) : Type := XFL.getD n X
noncomputable def shX : X → (n : Nat) × XF n
 | .and_ a b => ⟨0, ((a, b) : X × X)⟩
 | .cmp a o b => ⟨1, ((a, o, b) : X × COp × X)⟩
 | .cmp2 a o b o2 c => ⟨2, ((a, o, b, o2, c) : X × COp × X × COp × X)⟩
 | .isOrEq i j => ⟨3, ((i, j) : Nat × Nat)⟩
 | e => ⟨4, (e : X)⟩
noncomputable def unX : (n : Nat) → XF n → X
 | 0 => fun (x : X × X) => .and_ x.1 x.2
 | 1 => fun (x : X × COp × X) => .cmp x.1 x.2.1 x.2.2
 | 2 => fun (x : X × COp × X × COp × X) => .cmp2 x.1 x.2.1 x.2.2.1 x.2.2.2.1 x.2.2.2.2
 | 3 => fun (x : Nat × Nat) => .isOrEq x.1 x.2
 | n + 4 => fun (x : X) => x
theorem unX_shX (e : X) : unX (shX e).1 (shX e).2 = e := by induction e using Mine.X.casesOn <;> rfl
noncomputable def shXT (n : Nat) (k : XF n → Bool) (s : (m : Nat) × XF m) : Bool := @Decidable.rec _ (fun u => Bool) (fun j => false) (fun (h : s.1 = n) => k (h ▸ s.2)) (Nat.decEq s.1 n)
theorem shXT_e {n : Nat} {k : XF n → Bool} {e : X} {P : X → Prop} (h : shXT n k (shX e) = true) (q : ∀ x, k x = true → P (unX n x)) : P e := by
 have u := unX_shX e
 generalize shX e = s at h u
 subst u
 induction s using Sigma.casesOn with
 | mk m x =>
  replace h : @Decidable.rec _ (fun u => Bool) (fun j => false) (fun (h : m = n) => k (h ▸ x)) (Nat.decEq m n) = true := h
  generalize Nat.decEq m n = d at h
  induction d using Decidable.casesOn with
  | isFalse => exact nb h
  | isTrue e => subst e; exact q x h
@[irreducible] noncomputable def xAnd (k : X → X → Bool) (e : X) : Bool := shXT 0 (fun (x : X × X) => k x.1 x.2) (shX e)
@[elab_as_elim] theorem xAnd_e {k : X → X → Bool} {e : X} {P : X → Prop} (h : xAnd k e = true) (q : ∀ a b, k a b = true → P (.and_ a b)) : P e := by
 delta xAnd at h
 exact shXT_e h fun x => q x.1 x.2
@[irreducible] noncomputable def xCmp (k : X → COp → X → Bool) (e : X) : Bool := shXT 1 (fun (x : X × COp × X) => k x.1 x.2.1 x.2.2) (shX e)
@[elab_as_elim] theorem xCmp_e {k : X → COp → X → Bool} {e : X} {P : X → Prop} (h : xCmp k e = true) (q : ∀ a o b, k a o b = true → P (.cmp a o b)) : P e := by
 delta xCmp at h
 exact shXT_e h fun x => q x.1 x.2.1 x.2.2
@[irreducible] noncomputable def xCmp2 (k : X → COp → X → COp → X → Bool) (e : X) : Bool := shXT 2 (fun (x : X × COp × X × COp × X) => k x.1 x.2.1 x.2.2.1 x.2.2.2.1 x.2.2.2.2) (shX e)
@[elab_as_elim] theorem xCmp2_e {k : X → COp → X → COp → X → Bool} {e : X} {P : X → Prop} (h : xCmp2 k e = true) (q : ∀ a o b o2 c, k a o b o2 c = true → P (.cmp2 a o b o2 c)) : P e := by
 delta xCmp2 at h
 exact shXT_e h fun x => q x.1 x.2.1 x.2.2.1 x.2.2.2.1 x.2.2.2.2
@[irreducible] noncomputable def xOr (k : Nat → Nat → Bool) (e : X) : Bool := shXT 3 (fun (x : Nat × Nat) => k x.1 x.2) (shX e)
@[elab_as_elim] theorem xOr_e {k : Nat → Nat → Bool} {e : X} {P : X → Prop} (h : xOr k e = true) (q : ∀ i j, k i j = true → P (.isOrEq i j)) : P e := by
 delta xOr at h
 exact shXT_e h fun x => q x.1 x.2
theorem vTup_mk {k : List Expr → Bool} {es : List Expr} {n : Nat} {p : Pos} : vTup k (.Tuple es n p) = k es := by delta vTup; rfl
theorem vBop_mk {k : BoolOp → List Expr → Bool} {o : BoolOp} {es : List Expr} {p : Pos} : vBop k (.BoolOp o es p) = k o es := by delta vBop; rfl
theorem vName_mk {k : Str → Bool} {id : Str} {p : Pos} : vName k (.Name id p) = k id := by delta vName; rfl
noncomputable def v0 {α : Type} : List α → Bool
 | [] => true
 | _ => false
theorem v0_inv {α : Type} {l : List α} (h : v0 l = true) : l = [] := by
 induction l using List.casesOn with
 | nil => rfl
 | cons => exact nb h
noncomputable def v1 {α : Type} (k : α → Bool) : List α → Bool
 | [] => false
 | a :: r => v0 r && k a
theorem orI {a b : Bool} (h : (a || b) = true) : a = true ∨ b = true := Bool.or_eq_true_iff.mp h
theorem both {a b : Bool} (h : (a && b) = true) : a = true ∧ b = true := Bool.and_eq_true_iff.mp h
theorem b3 {a0 a1 a2 : Bool} {P : Prop} (h : (a0 && a1 && a2) = true) (k : a0 = true → a1 = true → a2 = true → P) : P := k ((both (both h).1).1) ((both (both h).1).2) ((both h).2)
theorem b4 {a0 a1 a2 a3 : Bool} {P : Prop} (h : (a0 && a1 && a2 && a3) = true) (k : a0 = true → a1 = true → a2 = true → a3 = true → P) : P := k ((both (both (both h).1).1).1) ((both (both (both h).1).1).2) ((both (both h).1).2) ((both h).2)
theorem b5 {a0 a1 a2 a3 a4 : Bool} {P : Prop} (h : (a0 && a1 && a2 && a3 && a4) = true) (k : a0 = true → a1 = true → a2 = true → a3 = true → a4 = true → P) : P := k ((both (both (both (both h).1).1).1).1) ((both (both (both (both h).1).1).1).2) ((both (both (both h).1).1).2) ((both (both h).1).2) ((both h).2)
theorem b6 {a0 a1 a2 a3 a4 a5 : Bool} {P : Prop} (h : (a0 && a1 && a2 && a3 && a4 && a5) = true) (k : a0 = true → a1 = true → a2 = true → a3 = true → a4 = true → a5 = true → P) : P := k ((both (both (both (both (both h).1).1).1).1).1) ((both (both (both (both (both h).1).1).1).1).2) ((both (both (both (both h).1).1).1).2) ((both (both (both h).1).1).2) ((both (both h).1).2) ((both h).2)
theorem b7 {a0 a1 a2 a3 a4 a5 a6 : Bool} {P : Prop} (h : (a0 && a1 && a2 && a3 && a4 && a5 && a6) = true) (k : a0 = true → a1 = true → a2 = true → a3 = true → a4 = true → a5 = true → a6 = true → P) : P := k ((both (both (both (both (both (both h).1).1).1).1).1).1) ((both (both (both (both (both (both h).1).1).1).1).1).2) ((both (both (both (both (both h).1).1).1).1).2) ((both (both (both (both h).1).1).1).2) ((both (both (both h).1).1).2) ((both (both h).1).2) ((both h).2)
theorem b11 {a0 a1 a2 a3 a4 a5 a6 a7 a8 a9 a10 : Bool} {P : Prop} (h : (a0 && a1 && a2 && a3 && a4 && a5 && a6 && a7 && a8 && a9 && a10) = true) (k : a0 = true → a1 = true → a2 = true → a3 = true → a4 = true → a5 = true → a6 = true → a7 = true → a8 = true → a9 = true → a10 = true → P) : P := k ((both (both (both (both (both (both (both (both (both (both h).1).1).1).1).1).1).1).1).1).1) ((both (both (both (both (both (both (both (both (both (both h).1).1).1).1).1).1).1).1).1).2) ((both (both (both (both (both (both (both (both (both h).1).1).1).1).1).1).1).1).2) ((both (both (both (both (both (both (both (both h).1).1).1).1).1).1).1).2) ((both (both (both (both (both (both (both h).1).1).1).1).1).1).2) ((both (both (both (both (both (both h).1).1).1).1).1).2) ((both (both (both (both (both h).1).1).1).1).2) ((both (both (both (both h).1).1).1).2) ((both (both (both h).1).1).2) ((both (both h).1).2) ((both h).2)
theorem b13 {a0 a1 a2 a3 a4 a5 a6 a7 a8 a9 a10 a11 a12 : Bool} {P : Prop} (h : (a0 && a1 && a2 && a3 && a4 && a5 && a6 && a7 && a8 && a9 && a10 && a11 && a12) = true) (k : a0 = true → a1 = true → a2 = true → a3 = true → a4 = true → a5 = true → a6 = true → a7 = true → a8 = true → a9 = true → a10 = true → a11 = true → a12 = true → P) : P := k ((both (both (both (both (both (both (both (both (both (both (both (both h).1).1).1).1).1).1).1).1).1).1).1).1) ((both (both (both (both (both (both (both (both (both (both (both (both h).1).1).1).1).1).1).1).1).1).1).1).2) ((both (both (both (both (both (both (both (both (both (both (both h).1).1).1).1).1).1).1).1).1).1).2) ((both (both (both (both (both (both (both (both (both (both h).1).1).1).1).1).1).1).1).1).2) ((both (both (both (both (both (both (both (both (both h).1).1).1).1).1).1).1).1).2) ((both (both (both (both (both (both (both (both h).1).1).1).1).1).1).1).2) ((both (both (both (both (both (both (both h).1).1).1).1).1).1).2) ((both (both (both (both (both (both h).1).1).1).1).1).2) ((both (both (both (both (both h).1).1).1).1).2) ((both (both (both (both h).1).1).1).2) ((both (both (both h).1).1).2) ((both (both h).1).2) ((both h).2)
theorem b15 {a0 a1 a2 a3 a4 a5 a6 a7 a8 a9 a10 a11 a12 a13 a14 : Bool} {P : Prop} (h : (a0 && a1 && a2 && a3 && a4 && a5 && a6 && a7 && a8 && a9 && a10 && a11 && a12 && a13 && a14) = true) (k : a0 = true → a1 = true → a2 = true → a3 = true → a4 = true → a5 = true → a6 = true → a7 = true → a8 = true → a9 = true → a10 = true → a11 = true → a12 = true → a13 = true → a14 = true → P) : P := k ((both (both (both (both (both (both (both (both (both (both (both (both (both (both h).1).1).1).1).1).1).1).1).1).1).1).1).1).1) ((both (both (both (both (both (both (both (both (both (both (both (both (both (both h).1).1).1).1).1).1).1).1).1).1).1).1).1).2) ((both (both (both (both (both (both (both (both (both (both (both (both (both h).1).1).1).1).1).1).1).1).1).1).1).1).2) ((both (both (both (both (both (both (both (both (both (both (both (both h).1).1).1).1).1).1).1).1).1).1).1).2) ((both (both (both (both (both (both (both (both (both (both (both h).1).1).1).1).1).1).1).1).1).1).2) ((both (both (both (both (both (both (both (both (both (both h).1).1).1).1).1).1).1).1).1).2) ((both (both (both (both (both (both (both (both (both h).1).1).1).1).1).1).1).1).2) ((both (both (both (both (both (both (both (both h).1).1).1).1).1).1).1).2) ((both (both (both (both (both (both (both h).1).1).1).1).1).1).2) ((both (both (both (both (both (both h).1).1).1).1).1).2) ((both (both (both (both (both h).1).1).1).1).2) ((both (both (both (both h).1).1).1).2) ((both (both (both h).1).1).2) ((both (both h).1).2) ((both h).2)
@[elab_as_elim] theorem v1_e {α : Type} {k : α → Bool} {l : List α} {P : List α → Prop} (h : v1 k l = true) (q : ∀ a, k a = true → P [a]) : P l := by
 induction l using List.casesOn with
 | nil => exact nb h
 | cons a r =>
  replace h : (v0 r && k a) = true := h
  have e := v0_inv (both h).1
  subst e
  exact q a (both h).2
noncomputable def v2 {α : Type} (k : α → α → Bool) : List α → Bool
 | [] => false
 | a :: r => v1 (k a) r
@[elab_as_elim] theorem v2_e {α : Type} {k : α → α → Bool} {l : List α} {P : List α → Prop} (h : v2 k l = true) (q : ∀ a b, k a b = true → P [a, b]) : P l := by
 induction l using List.casesOn with
 | nil => exact nb h
 | cons a r => exact v1_e (P := fun r => P (a :: r)) h (q a)
noncomputable def vNo {α : Type} : Option α → Bool
 | none => true
 | some _ => false
theorem vNo_inv {α : Type} {l : Option α} (h : vNo l = true) : l = none := by
 induction l using Option.casesOn with
 | none => rfl
 | some => exact nb h
noncomputable def vSo {α : Type} (k : α → Bool) : Option α → Bool
 | none => false
 | some a => k a
@[elab_as_elim] theorem vSo_e {α : Type} {k : α → Bool} {l : Option α} {P : Option α → Prop} (h : vSo k l = true) (q : ∀ a, k a = true → P (some a)) : P l := by
 induction l using Option.casesOn with
 | none => exact nb h
 | some a => exact q a h
noncomputable def vGen (k : Expr → Expr → List Expr → Bool) (c : Comprehension) : Bool := @Int.rec (fun u => Bool) (fun n => Nat.beq n 0) (fun j => false) c.is_async && k c.target c.iter c.ifs
@[elab_as_elim] theorem vGen_e {k : Expr → Expr → List Expr → Bool} {c : Comprehension} {P : Comprehension → Prop} (h : vGen k c = true) (q : ∀ t i ifs, k t i ifs = true → P ⟨t, i, ifs, 0⟩) : P c := by
 induction c using Comprehension.casesOn with
 | mk t i ifs z =>
  replace h : (@Int.rec (fun u => Bool) (fun n => Nat.beq n 0) (fun j => false) z && k t i ifs) = true := h
  have h1 := (both h).1
  have h2 := (both h).2
  clear h
  induction z using Int.casesOn with
  | ofNat n =>
   have h1 := Nat.eq_of_beq_eq_true h1
   subst h1
   exact q t i ifs h2
  | negSucc => exact nb h1
noncomputable def vInt (k : Int → Bool) : Expr → Bool := vCon fun | .int j => k j | _ => false
@[elab_as_elim] theorem vInt_e {k : Int → Bool} {e : Expr} {P : Expr → Prop} (h : vInt k e = true) (q : ∀ j n p, k j = true → P (.Constant (.int j) n p)) : P e :=
 vCon_e h fun c n p h => by
  induction c using Const.casesOn with
  | int j => exact q j n p h
  | _ => exact nb h
noncomputable def vStr (k : Str → Bool) : Expr → Bool := vCon fun | .str j => k j | _ => false
@[elab_as_elim] theorem vStr_e {k : Str → Bool} {e : Expr} {P : Expr → Prop} (h : vStr k e = true) (q : ∀ j n p, k j = true → P (.Constant (.str j) n p)) : P e :=
 vCon_e h fun c n p h => by
  induction c using Const.casesOn with
  | str j => exact q j n p h
  | _ => exact nb h
noncomputable def vBool (k : Bool → Bool) : Expr → Bool := vCon fun | .bool j => k j | _ => false
@[elab_as_elim] theorem vBool_e {k : Bool → Bool} {e : Expr} {P : Expr → Prop} (h : vBool k e = true) (q : ∀ j n p, k j = true → P (.Constant (.bool j) n p)) : P e :=
 vCon_e h fun c n p h => by
  induction c using Const.casesOn with
  | bool j => exact q j n p h
  | _ => exact nb h
noncomputable def vNone : Expr → Bool := vCon fun | .none => true | _ => false
@[elab_as_elim] theorem vNone_e {e : Expr} {P : Expr → Prop} (h : vNone e = true) (q : ∀ n p, P (.Constant .none n p)) : P e :=
 vCon_e h fun c n p h => by
  induction c using Const.casesOn with
  | none => exact q n p
  | _ => exact nb h
noncomputable def vCN (k : Str → List Expr → Bool) : Expr → Bool := vCall fun fe es kw j => v0 kw && vName (fun id => k id es) fe
@[elab_as_elim] theorem vCN_e {k : Str → List Expr → Bool} {e : Expr} {P : Expr → Prop} (h : vCN k e = true) (r : ∀ id q es p, k id es = true → P (.Call (.Name id q) es [] p)) : P e :=
 vCall_e h fun fe es kw p h => by
  have h1 := v0_inv (both h).1
  subst h1
  exact vName_e (P := fun fe => P (.Call fe es [] p)) (both h).2 fun id q h => r id q es p h
theorem vCN_mk {k : Str → List Expr → Bool} {id : Str} {q p : Pos} {es : List Expr} : vCN k (.Call (.Name id q) es [] p) = k id es := by delta vCN vCall vName; rfl
noncomputable def vCA (k : Expr → Str → Pos → List Expr → Pos → Bool) : Expr → Bool := vCall fun fe es kw p => v0 kw && vAttr (fun oe name q => k oe name q es p) fe
@[elab_as_elim] theorem vCA_e {k : Expr → Str → Pos → List Expr → Pos → Bool} {e : Expr} {P : Expr → Prop} (h : vCA k e = true) (r : ∀ oe name q es p, k oe name q es p = true → P (.Call (.Attribute oe name q) es [] p)) : P e :=
 vCall_e h fun fe es kw p h => by
  have h1 := v0_inv (both h).1
  subst h1
  exact vAttr_e (P := fun fe => P (.Call fe es [] p)) (both h).2 fun oe name q h => r oe name q es p h
end Mine
end
noncomputable section
open PySem PySem.W PyProof.Rows PySem.Spec PySem.Calls
namespace Mine
variable [Val]
structure Nms where
 v : Nat → Str
 f : Nat → Str
 s : Nat → Str
 m : Nat → Str
 mac : Nat → (Scope → Expr → Bool) × Nat
 sa : Scope
 code : Addr
noncomputable def Nms.c (G : Nms) (sc : Scope) (v : Value) : Prop := sc = G.sa → v = .ref G.code
structure NOk (G : Nms) : Prop where
 nm : Names G.v
 dotA : (G.sa.names.lookup (".0" : Str)).isSome = false
theorem NOk.dot {G : Nms} (N : NOk G) (sc : Scope) (v : Value) (h : (sc.names.lookup (".0" : Str)).isSome = true) : G.c sc v := fun e => by
 rw [e, N.dotA] at h
 exact nb h
noncomputable def isGl (sc : Scope) (id : Str) : Bool := match sc.names.lookup id with | some .globalImplicit => true | _ => false
noncomputable def isCF : Option NameKind → Bool
 | some .cell | some .free => true
 | _ => false
noncomputable def notDebug (id : Str) : Bool := !(id == ("__debug__" : Str))
noncomputable def tagIs (n : Nat) (e : Expr) : Bool := Nat.beq (shE e).1 n
noncomputable def notStar (e : Expr) : Bool := !tagIs 15 e
noncomputable def notSet (e : Expr) : Bool := !tagIs 16 e
noncomputable def isName : Expr → Bool := vName fun j => true
theorem isName_inv {e : Expr} (h : isName e = true) : ∃ id p, e = .Name id p :=
 vName_e (P := fun e => ∃ id p, e = .Name id p) h fun id p j => ⟨id, p, rfl⟩
noncomputable def notCall (e : Expr) : Bool := !vCN (fun j es => v0 es) e
noncomputable def plainTest (e : Expr) : Bool := !(tagIs 18 e || tagIs 17 e || tagIs 4 e || tagIs 3 e)
noncomputable def copIs (o : COp) (c : CmpOp) : Bool := decide (c = copOf o)
noncomputable def bopIs (o : BOp) (c : Operator) : Bool := decide (c = bopOf o)
theorem copIs_eq {o : COp} {op : CmpOp} (h : copIs o op = true) : op = copOf o := of_decide_eq_true h
theorem bopIs_eq {o : BOp} {op : Operator} (h : bopIs o op = true) : op = bopOf o := of_decide_eq_true h
noncomputable def biName : BI → Str
 | .len => "len" | .max => "max" | .sum => "sum" | .dict => "dict" | .isTuple => "isinstance" | .str => "str" | .tuple => "tuple"
noncomputable def cL (rec : X → Expr → Bool) : List X → List Expr → Bool
 | [], [] => true
 | x :: xs, e :: es => notStar e && rec x e && cL rec xs es
 | _, _ => false
section
variable (G : Nms)
noncomputable def vrName (sc : Scope) (i : Nat) : Expr → Bool := vName fun id => id == G.v i && isVarK (sc.names.lookup id)
noncomputable def tgName (sc : Scope) (i : Nat) : Expr → Bool := vName fun id => id == G.v i && isOwnK (sc.names.lookup id)
noncomputable def isIs (o : CmpOp) : Bool := copIs .is o
noncomputable def isEq (o : CmpOp) : Bool := copIs .eq o
noncomputable def cOr (sc : Scope) (x : X) (es : List Expr) : Bool := xOr (fun a b => v2 (fun e1 e2 => vCmp (fun l1 os1 rs1 => v1 isIs os1 && v1 (fun r1 => vCmp (fun l2 os2 rs2 => v1 isEq os2 && v1 (fun r2 => vrName G sc a l1 && vrName G sc b r1 && vrName G sc a l2 && vrName G sc b r2) rs2) e2) rs1) e1) es) x
noncomputable def tgNames (sc : Scope) : List Nat → List Expr → Bool
 | [], [] => true
 | i :: is, e :: es => tgName G sc i e && tgNames sc is es
 | _, _ => false
noncomputable def cTgt (sc : Scope) : Tgt → Expr → Bool
 | .var i, e => tgName G sc i e
 | .tup is, e => vTup (fun es => tgNames G sc is es) e
noncomputable def cScope (sc sc2 : Scope) (own : List Nat) : Bool :=
 sc2.kind == .function && (sc2.names.lookup (".0" : Str)).isSome && sc2.names.all fun (x, k) => (sc2.names.lookup x == some k) && match k with
  | .local | .cell => (own.any fun i => G.v i == x) || x == (".0" : Str)
  | .free => isCF (sc.names.lookup x)
  | _ => true
noncomputable def cAnd (rec : X → Expr → Bool) : List Expr → X → Bool
 | [] => fun j => false
 | e :: r => match r with
  | [] => fun x => rec x e
  | e2 :: r2 => xAnd fun a b => rec a e && cAnd rec (e2 :: r2) b
noncomputable def cIt (rec : X → Expr → Bool) (sc : Scope) (it : IT) (e : Expr) : Bool := match it with
 | .val x => notSet e && rec x e
 | .rng none b => vCN (fun id es => v1 (fun eb => id == ("range" : Str) && isGl sc id && notStar eb && rec b eb) es) e
 | .rng (some a) b => vCN (fun id es => v2 (fun ea eb => id == ("range" : Str) && isGl sc id && notStar ea && notStar eb && rec a ea && rec b eb) es) e
 | .items x => vCA (fun oe name apos es pos => v0 es && (name == ("items" : Str) && notCall oe && apos.endLine == pos.line && rec x oe)) e
noncomputable def itTgt (it : IT) (t : Tgt) : Bool := match it, t with
 | .items _, .var _ => false
 | _, _ => true
noncomputable def cIfs (rec : X → Expr → Bool) : List X → List Expr → Bool
 | [], [] => true
 | x :: xs, e :: es => rec x e && cIfs rec xs es
 | _, _ => false
noncomputable def genScope (sc2 : Scope) (i j : Str) : Bool :=
 sc2.kind == .function && !sc2.isCoroutine && (sc2.names.lookup (".0" : Str) == some .local) && (sc2.names.lookup i == some .local) && (sc2.names.lookup j == some .local) && notDebug i && notDebug j && sc2.names.all fun (_, k) => match k with
  | .free | .cell => false
  | _ => true
noncomputable def cBi (rec : X → Expr → Bool) (sc : Scope) (b : BI) (args : List X) (es : List Expr) : Bool := match b with
 | .isTuple => v2 (fun e1 e2 => vName (fun id2 => id2 == ("tuple" : Str) && isGl sc id2 && cL rec args [e1]) e2) es
 | _ => !es.isEmpty && cL rec args es
noncomputable def cEs (cE cT : Scope → X → Expr → Bool) (sc : Scope) (x : X) (e : Expr) : Bool := match x with
  | .kint i => vInt (fun j => eqInt i j) e
  | .kstr s => vStr (fun t => eqL s t.cps.toList) e
  | .kbool b => vBool (fun c => b == c) e
  | .knone => vNone e
  | .var i => vrName G sc i e
  | .bin o _ a b => vBin (fun l op r => bopIs o op && cE sc a l && cE sc b r) e
  | .cmp a o b => vCmp (fun l os rs => v1 (fun op => v1 (fun r => copIs o op && notSet r && cE sc a l && cE sc b r) rs) os) e
  | .cmp2 .. => false
  | .and_ .. => false
  | .ite c a b => vIf (fun t y z => cT sc c t && cE sc a y && cE sc b z) e
  | .fn k args => vCN (fun id es => id == G.f k && isGl sc id && notDebug id && cL (cE sc) args es) e
  | .sm k args => vCN (fun id es => id == G.s k && isGl sc id && notDebug id && cL (cE sc) args es) e
  | .bi b args => vCN (fun id es => id == biName b && isGl sc id && cBi (cE sc) sc b args es) e
  | .meth o m args => vCA (fun oe name apos es pos => name == meName m && notCall oe && apos.endLine == pos.line && Nat.blt es.length 20 && cE sc o oe && cL (cE sc) args es) e
  | .idx o i => vSub (fun oe ie => plainSlice ie && cE sc o oe && cE sc i ie) e
  | .slcTo o hi => vSub (fun oe ie => vSlice (fun a b c => vNo a && vNo c && vSo (fun he => isName oe && cE sc o oe && cE sc hi he) b) ie) e
  | .list _ xs => vList (fun es => cL (cE sc) xs es) e
  | .tup xs => vTup (fun es => cL (cE sc) xs es) e
  | .dict0 => vDict (fun ks vs => v0 ks && v0 vs) e
  | .lcomp _ elt t it ifs own => vLC (fun ee gs sc2 => v1 (vGen fun te ie ifes => cIt (cE sc) sc it ie && itTgt it t && notSet ie && cScope G sc sc2 own && cTgt G sc2 t te && cIfs (cT sc2) ifs ifes && cE sc2 elt ee) gs) e
  | .lcomp2 _ elt t it t2 it2 ifs own => vLC (fun ee gs sc2 => v2 (fun g1 g2 => vGen (fun te ie ifs1 => v0 ifs1 && vGen (fun te2 ie2 ifes => cIt (cE sc) sc it ie && itTgt it t && itTgt it2 t2 && notSet ie && notSet ie2 && cScope G sc sc2 own && cTgt G sc2 t te && cTgt G sc2 t2 te2 && cIt (cE sc2) sc2 it2 ie2 && cIfs (cT sc2) ifs ifes && cE sc2 elt ee) g2) g1) gs) e
  | .dcomp k v t it own => vDC (fun ke ve gs sc2 => v1 (vGen fun te ie ifs1 => v0 ifs1 && (cIt (cE sc) sc it ie && itTgt it t && notSet ie && cScope G sc sc2 own && cTgt G sc2 t te && cE sc2 k ke && cE sc2 v ve)) gs) e
  | .tupSum a b => vCN (fun id es => v1 (vGE fun ee gs sc2 => vBin (fun l op r => bopIs .add op && vName (fun i1 => vName (fun j1 => v1 (vGen fun te ie ifs1 => v0 ifs1 && vTup (fun ts => v2 (fun t1 t2 => vName (fun i2 => vName (fun j2 => vCN (fun zid zs => v2 (fun ea eb =>
    id == ("tuple" : Str) && isGl sc id && zid == ("zip" : Str) && isGl sc zid && notStar ea && notStar eb && i1 == i2 && j1 == j2 && !(i1 == j1) && (sc == G.sa) && genScope sc2 i1 j1 && cE sc a ea && cE sc b eb) zs) ie) t2) t1) ts) te) gs) r) l) ee) es) e
  | .attr o i => vAttr (fun oe name u => name == nmA i && Nat.blt i 5 && isName oe && cE sc o oe) e
  | .clsAttr i => vAttr (fun oe name u => vName (fun id => id == ("Whitespace" : Str) && isGl sc id && name == nmC i) oe) e
  | .mcall o k args => vCA (fun oe name apos es pos => name == G.m k && notCall oe && apos.endLine == pos.line && Nat.blt es.length 20 && cE sc o oe && cL (cE sc) args es) e
  | .msm o k args => vCA (fun oe name apos es pos => name == G.m k && notCall oe && apos.endLine == pos.line && Nat.blt es.length 20 && cE sc o oe && cL (cE sc) args es) e
  | .new args => vCN (fun id es => id == ("Whitespace" : Str) && isGl sc id && !es.isEmpty && cL (cE sc) args es) e
  | .mac k i => Nat.beq i (G.mac k).2 && (G.mac k).1 sc e
  | .search x => vCA (fun oe name apos es pos => vName (fun id => v1 (fun e1 => id == ("ESCAPED_CHAR_RE" : Str) && isGl sc id && name == ("search" : Str) && apos.endLine == pos.line && notStar e1 && cE sc x e1) es) oe) e
  | .span0 x => vCA (fun oe name apos es pos => v1 (vInt fun j => name == ("span" : Str) && isName oe && apos.endLine == pos.line && eqInt 0 j && cE sc x oe) es) e
  | .group1 x => vCA (fun oe name apos es pos => v1 (vInt fun j => name == ("group" : Str) && isName oe && apos.endLine == pos.line && eqInt 1 j && cE sc x oe) es) e
  | .mstr x => vAttr (fun oe name u => name == ("string" : Str) && isName oe && cE sc x oe) e
  | .strTo o hi => vSub (fun oe ie => vSlice (fun a b c => vNo a && vNo c && vSo (fun he => cE sc o oe && cE sc hi he) b) ie) e
  | .strFrom o lo => vSub (fun oe ie => vSlice (fun a b c => vNo b && vNo c && vSo (fun le => cE sc o oe && cE sc lo le) a) ie) e
  | .isOrEq .. => false
noncomputable def cTs (cE cT : Scope → X → Expr → Bool) (sc : Scope) (x : X) (e : Expr) : Bool :=
 vBop (fun op es => match op with
   | .And => cAnd (cT sc) es x
   | .Or => cOr G sc x es) e ||
   vCmp (fun l ops rs => xCmp (fun a o b => v1 (fun op => v1 (fun r => copIs o op && notSet r && cE sc a l && cE sc b r) rs) ops) x) e ||
   vCmp (fun l ops rs => xCmp2 (fun a o b o2 c => v2 (fun op op2 => v2 (fun r r2 => copIs o op && copIs o2 op2 && notSet r && notSet r2 && cE sc a l && cE sc b r && cE sc c r2) rs) ops) x) e ||
   plainTest e && cE sc x e
mutual
noncomputable def cE : Nat → Scope → X → Expr → Bool
 | 0 => fun j j j => false
 | f + 1 => cEs G (cE f) (cT f)
noncomputable def cT : Nat → Scope → X → Expr → Bool
 | 0 => fun j j j => false
 | f + 1 => cTs G (cE f) (cT f)
end
end
end Mine
end
noncomputable section
open PySem PySem.W PyProof.Rows PySem.Spec PySem.Calls
namespace Mine
variable [Val]
noncomputable def Glb (hT : Heap) (x : Str) (v : Value) : Prop := ∃ mg mb, hT.Ns mainGlobals mg ∧ hT.Ns builtinsNs mb ∧ (mg x = some v ∨ (mg x = none ∧ mb x = some v))
section
variable (prog : Program) (w : World) (G : Nms) (hT : Heap)
noncomputable def EvOk (n : Nat) (ev : Ev) : Prop := ∀ {A : Around} {env : Env} {sc : Scope} {al fr ow : List Addr} {ρ : Env'} {st : St} {s : Shared} {x : X} {e : Expr} {d : D} {st' : St} {f : Nat},
 ev ρ st x = some (d, st') → cE G f sc x e = true → Here prog w G.v G.c hT n A env sc al fr ow ρ st s → wpAny (model prog w) A (eval e env) (PostE prog w hT al fr st st' s d) FF s
noncomputable def PostB (al fr : List Addr) (st st' : St) (s : Shared) (b : Bool) (c : Bool) (s' : Shared) : Prop := c = b ∧ ∃ al', Stp prog w hT fr [] al al' st st' s s'
noncomputable def TsOk (n : Nat) (ev : Ev) : Prop := ∀ {A : Around} {env : Env} {sc : Scope} {al fr ow : List Addr} {ρ : Env'} {st : St} {s : Shared} {x : X} {e : Expr} {b : Bool} {st' : St} {f : Nat},
 ev ρ st x = some (.bool b, st') → cT G f sc x e = true → Here prog w G.v G.c hT n A env sc al fr ow ρ st s → wpAny (model prog w) A (isTrue e env (eval e env)) (PostB prog w hT al fr st st' s b) FF s
end
omit [Val] in
theorem ou3 {α β γ : Type} {a a' : α} {b b' : β} {c c' : γ} (h : some (a, b, c) = some (a', b', c')) : a = a' ∧ b = b' ∧ c = c' := by cases h; exact ⟨rfl, rfl, rfl⟩
omit [Val] in
theorem oDS {α : Type} {F : D → St → Option α} {x : Option (D × St)} {r : α} (e : (match x with | some (d, st) => F d st | none => none) = some r) : ∃ d st, x = some (d, st) ∧ F d st = some r := by
 induction x using Option.casesOn with
 | none => exact no e
 | some p => exact (m22 p.1 p.2 rfl e)
omit [Val] in
theorem oLS {α : Type} {F : List D → St → Option α} {x : Option (List D × St)} {r : α} (e : (match x with | some (d, st) => F d st | none => none) = some r) : ∃ d st, x = some (d, st) ∧ F d st = some r := by
 induction x using Option.casesOn with
 | none => exact no e
 | some p => exact (m22 p.1 p.2 rfl e)
omit [Val] in
theorem oInst {α : Type} {F : List D → St → Option α} {x : Option (D × St)} {r : α} (e : (match x with | some (.inst fs, st) => F fs st | _ => none) = some r) : ∃ fs st, x = some (.inst fs, st) ∧ F fs st = some r := by
 induction x using Option.casesOn with
 | none => exact no e
 | some p =>
  obtain ⟨d, st⟩ := p
  induction d using D.casesOn with
  | inst fs => exact (m22 fs st rfl e)
  | _ => exact no e
omit [Val] in
theorem oSf {α : Type} {F : Nat → St → Option α} {x : Option (D × St)} {r : α} (e : (match x with | some (.self k, st) => F k st | _ => none) = some r) : ∃ k st, x = some (.self k, st) ∧ F k st = some r := by
 induction x using Option.casesOn with
 | none => exact no e
 | some p =>
  obtain ⟨d, st⟩ := p
  induction d using D.casesOn with
  | self k => exact (m22 k st rfl e)
  | _ => exact no e
omit [Val] in
theorem oLi {α : Type} {F : List D → St → Option α} {x : Option (D × St)} {r : α} (e : (match x with | some (.list xs, st) => F xs st | _ => none) = some r) : ∃ xs st, x = some (.list xs, st) ∧ F xs st = some r := by
 induction x using Option.casesOn with
 | none => exact no e
 | some p =>
  obtain ⟨d, st⟩ := p
  induction d using D.casesOn with
  | list xs => exact (m22 xs st rfl e)
  | _ => exact no e
omit [Val] in
theorem oNo {α : Type} {F : St → Option α} {x : Option (D × St)} {r : α} (e : (match x with | some (.none, st) => F  st | _ => none) = some r) : ∃  st, x = some (.none, st) ∧ F  st = some r := by
 induction x using Option.casesOn with
 | none => exact no e
 | some p =>
  obtain ⟨d, st⟩ := p
  induction d using D.casesOn with
  | none => exact (m12 st rfl e)
  | _ => exact no e
omit [Val] in
theorem o2S {α : Type} {F : D → D → St → Option α} {x : Option (D × St)} {r : α} (e : (match x with | some (.tup [d1, d2], st) => F d1 d2 st | _ => none) = some r) : ∃ d1 d2 st, x = some (.tup [d1, d2], st) ∧ F d1 d2 st = some r := by
 induction x using Option.casesOn with
 | none => exact no e
 | some p =>
  obtain ⟨d, st⟩ := p
  induction d using D.casesOn with
  | tup ds => induction ds using List.casesOn with
   | nil => exact no e
   | cons d1 ds => induction ds using List.casesOn with
    | nil => exact no e
    | cons d2 ds => induction ds using List.casesOn with
     | nil => exact (m32 d1 d2 st rfl e)
     | cons => exact no e
  | _ => exact no e
omit [Val] in
theorem oSx {α : Type} {F : List Nat → St → Option α} {x : Option (D × St)} {r : α} (e : (match x with | some (.str xs, st) => F xs st | _ => none) = some r) : ∃ xs st, x = some (.str xs, st) ∧ F xs st = some r := by
 induction x using Option.casesOn with
 | none => exact no e
 | some p =>
  obtain ⟨d, st⟩ := p
  induction d using D.casesOn with
  | str xs => exact (m22 xs st rfl e)
  | _ => exact no e
omit [Val] in
theorem oMx {α : Type} {F : List Nat → Nat → Nat → St → Option α} {x : Option (D × St)} {r : α} (e : (match x with | some (.mtch xs b c, st) => F xs b c st | _ => none) = some r) : ∃ xs b c st, x = some (.mtch xs b c, st) ∧ F xs b c st = some r := by
 induction x using Option.casesOn with
 | none => exact no e
 | some p =>
  obtain ⟨d, st⟩ := p
  induction d using D.casesOn with
  | mtch xs b c => exact (m42 xs b c st rfl e)
  | _ => exact no e
omit [Val] in
theorem oFS {α : Type} {F : List Nat → List Y → Option α} {x : Option (List Nat × List Y)} {r : α} (e : (match x with | some (d, st) => F d st | none => none) = some r) : ∃ d st, x = some (d, st) ∧ F d st = some r := by
 induction x using Option.casesOn with
 | none => exact no e
 | some p => exact (m22 p.1 p.2 rfl e)
omit [Val] in
theorem oSr {α : Type} {F : Src → St → Option α} {x : Option (Src × St)} {r : α} (e : (match x with | some (d, st) => F d st | none => none) = some r) : ∃ d st, x = some (d, st) ∧ F d st = some r := by
 induction x using Option.casesOn with
 | none => exact no e
 | some p => exact (m22 p.1 p.2 rfl e)
omit [Val] in
theorem oNN {α : Type} {F : Nat → Nat → Option α} {x : Option (Nat × Nat)} {r : α} (e : (match x with | some (d, st) => F d st | none => none) = some r) : ∃ d st, x = some (d, st) ∧ F d st = some r := by
 induction x using Option.casesOn with
 | none => exact no e
 | some p => exact (m22 p.1 p.2 rfl e)
omit [Val] in
theorem exN {α : Type} {F : Env' → St → Option α} {x : Option (Fl × Env' × St)} {r : α} (e : (match x with
  | some (.next, ρ, st) => F ρ st
  | _ => none) = some r) : ∃ ρ1 st', x = some (.next, ρ1, st') ∧ F ρ1 st' = some r := by
 induction x using Option.casesOn with
 | none => exact no e
 | some p =>
  obtain ⟨fl, ρ, st⟩ := p
  induction fl using Fl.casesOn with
  | next => exact (m22 ρ st rfl e)
  | _ => exact no e
omit [Val] in
theorem exI {x : Option (Fl × Env' × St)} {d : D} {st' : St} (e : (match x with
  | some (.ret d, _, st) => some (d, st)
  | some (.next, _, st) => some (.none, st)
  | _ => none) = some (d, st')) : ∃ ρ1 fl, x = some (fl, ρ1, st') ∧ (fl = .ret d ∨ (fl = .next ∧ d = .none)) := by
 induction x using Option.casesOn with
 | none => exact no e
 | some p =>
  obtain ⟨fl, ρ, st⟩ := p
  induction fl using Fl.casesOn with
  | ret d1 =>
   refine ouK e ?_
   exact (m22 ρ _ rfl (.inl rfl))
  | next =>
   refine ouK e ?_
   exact (m22 ρ _ rfl (.inr ⟨rfl, rfl⟩))
  | brk => exact no e
omit [Val] in
theorem oIS {α : Type} {F : Int → St → Option α} {x : Option (D × St)} {r : α} (e : (match x with | some (.int d, st) => F d st | _ => none) = some r) : ∃ d st, x = some (.int d, st) ∧ F d st = some r := by
 induction x using Option.casesOn with
 | none => exact no e
 | some p =>
  obtain ⟨d, st⟩ := p
  induction d using D.casesOn with
  | int d => exact (m22 d st rfl e)
  | _ => exact no e
section
variable {prog : Program} {w : World} {G : Nms} {hT : Heap} {n : Nat} {A : Around} {env : Env} {sc : Scope} {al al' al'' fr fr' N ow ow' : List Addr} {ρ : Env'} {st st' st'' : St} {s s₁ s₂ s₃ s' s'' : Shared} {h h' : Heap}
theorem ns_old (S : Sto prog w hT al fr st h) {a : Addr} {m : Str → Option Value} (x : hT.Ns a m) : h.Ns a m := x.keeps S.old
theorem isGl_iff {sc : Scope} {id : Str} (h : isGl sc id = true) : sc.names.lookup id = some .globalImplicit := by
 unfold isGl at h
 cases q : sc.names.lookup id with
 | none => rw [q] at h; exact nb h
 | some k => rw [q] at h; induction k using NameKind.casesOn <;> first | rfl | exact nb h
theorem glob_ok (H : Here prog w G.v G.c hT n A env sc al fr ow ρ st s) {id : Str} {v : Value} {pos : Pos} {Q : Value → Shared → Prop} {E : Value → Shared → Prop} (hk : isGl sc id = true) (hd : (id == ("__debug__" : Str)) = false) (g : Glb hT id v) (q : Q v s) :
  wpAny (model prog w) A (eval (.Name id pos) env) Q E s := by
 refine x23 g ?_
 clear g
 intro mg mb h1 h2 h3
 refine Name_function_global H.env.fn (H.env.k4 _ (isGl_iff hk)) ?_ hd
 rcases h3 with h3 | ⟨h3, h4⟩
 · exact loadGlobal_global (by rw [H.env.gl]; exact ns_old H.sto h1) h3 q
 · exact loadGlobal_builtin (by rw [H.env.gl]; exact ns_old H.sto h1) h3 (by rw [H.env.bi]; exact ns_old H.sto h2) h4 q
theorem starEach_cons {e : Expr} {es : List Expr} (h : notStar e = true) : starEach (e :: es) env = (false, eval e env) :: starEach es env := by
 induction e using Expr.casesOn <;> first | rfl | exact nb h
theorem backTo_cons {pos : Pos} {t : Sem Value} {r : List (Bool × Sem Value)} : backTo pos ((false, t) :: r) = (false, t) :: backTo pos r := rfl
theorem noStars {rec : X → Expr → Bool} {pos : Pos} : ∀ {xs : List X} {es : List Expr}, cL rec xs es = true → (backTo pos (starEach es env)).any (·.1) = false
 | [], [], _ => rfl
 | [], _ :: _, h => nb h
 | _ :: _, [], h => nb h
 | x :: xs, e :: es, h => by
  refine x02 (both h) ?_
  try clear h
  intro h h2
  rw [starEach_cons (both h).1, backTo_cons, List.any_cons, noStars h2]; rfl
noncomputable def PostL (prog : Program) (w : World) (hT : Heap) (al fr : List Addr) (st st' : St) (s : Shared) (ds : List D) (vs : List Value) (s' : Shared) : Prop :=
 ∃ al', Stp prog w hT fr [] al al' st st' s s' ∧ RDs al' fr s'.heap vs ds
theorem evL_ok {ev : Ev} (I : EvOk prog w G hT n ev) {f : Nat} {pos : Pos} : ∀ {xs : List X} {es : List Expr} {ds : List D} {al : List Addr} {st st' : St} {s : Shared}, evL ev ρ st xs = some (ds, st') → cL (cE G f sc) xs es = true → Here prog w G.v G.c hT n A env sc al fr ow ρ st s →
  wpAny (model prog w) A (spliced (backTo pos (starEach es env))) (PostL prog w hT al fr st st' s ds) FF s
 | [], [], ds, al, st, st', s, e, _, H => by
  refine ouK e ?_
  exact spliced_nil ⟨al, Stp.refl H.sto, .nil⟩
 | [], _ :: _, _, _, _, _, _, _, c, _ => nb c
 | _ :: _, [], _, _, _, _, _, _, c, _ => nb c
 | x :: xs, e :: es, ds, al, st, st', s, h, c, H => by
  refine b3 c ?_
  clear c
  intro c0 c1 c2
  replace h := oDS h
  refine x22 h ?_
  clear h
  intro d st1 h1 h
  replace h := oLS h
  refine x22 h ?_
  clear h
  intro ds' st2 h2 h
  refine ouK h ?_
  rw [starEach_cons c0, backTo_cons]
  refine spliced_cons (wpAny_mono (I h1 c1 H) (fun v s1 pp => x12 pp fun al1 S1 r1 => ?_) fun j j q => q)
  exact wpAny_mono (evL_ok I h2 c2 (H.step S1)) (fun vs s2 pp => x12 pp fun al2 S2 r2 => ⟨al2, S1.trans S2, .cons (r1.step S2) r2⟩) fun j j q => q
theorem PostE.after {d : D} {v : Value} (S1 : Stp prog w hT fr [] al al' st st' s s') (p : PostE prog w hT al' fr st' st'' s' d v s'') : PostE prog w hT al fr st st'' s d v s'' := by
 refine x12 p ?_
 clear p
 intro al2 S2 r
 exact ⟨al2, S1.trans S2, r⟩
theorem bin_node {ev : Ev} (I : EvOk prog w G hT n ev) (H : Here prog w G.v G.c hT n A env sc al fr ow ρ st s) {o : BOp} {m : Bool} {a b : X} {l r : Expr} {pos : Pos} {op : Operator} {d : D} {f : Nat}
  (e : (match ev ρ st a with
  | some (a, st) => match ev ρ st b with
   | some (b, st) => binD st o m a b
   | none => none
  | none => none) = some (d, st')) (c1 : bopIs o op = true) (c2 : cE G f sc a l = true) (c3 : cE G f sc b r = true) :
  wpAny (model prog w) A (eval (.BinOp l op r pos) env) (PostE prog w hT al fr st st' s d) FF s := by
 refine x22 (oDS e) ?_
 try clear e
 intro da st1 h1 e
 refine x22 (oDS e) ?_
 try clear e
 intro db st2 h2 e
 rw [bopIs_eq c1]
 refine wpAny_BinOp (wpAny_mono (I h1 c2 H) (fun v s1 pp => x12 pp fun al1 S1 r1 => ?_) fun j j q => q)
 refine wpAny_mono (I h2 c3 (H.step S1)) (fun u s2 pp => x12 pp fun al2 S2 r2 => ?_) fun j j q => q
 exact wpAny_mono (bin_ok S2.sto (r1.step S2) r2 e) (fun z s3 p => (p.after S2).after S1) fun j j q => q
theorem notSet_marks {op : CmpOp} {r : Expr} (h : notSet r = true) : behindInMarks op r = false := by induction r using Expr.casesOn <;> first | rfl | exact nb h
theorem Here.d1 (H : Here prog w G.v G.c hT (n + 1) A env sc al fr ow ρ st s) : A.depth + 1 + 2 * n + 20 + Val.room < recursionLimit := by have := H.dp; lia
theorem Here.d0 (H : Here prog w G.v G.c hT (n + 1) A env sc al fr ow ρ st s) : A.depth + 20 + Val.room < recursionLimit := Nat.lt_of_le_of_lt (by lia) H.d1
theorem Here.d2 (H : Here prog w G.v G.c hT (n + 1) A env sc al fr ow ρ st s) : A.depth + 22 + Val.room < recursionLimit := by have := H.dp; lia
theorem Here.u1 (H : Here prog w G.v G.c hT (n + 1) A env sc al fr ow ρ st s) : A.units + 3 + 16 * n + 800 + 16 * Val.room < cLine := by have := H.un; lia
theorem Here.u0 (H : Here prog w G.v G.c hT (n + 1) A env sc al fr ow ρ st s) : A.units + 800 + 16 * Val.room < cLine := Nat.lt_of_le_of_lt (by lia) H.u1
theorem Here.u2 (H : Here prog w G.v G.c hT (n + 1) A env sc al fr ow ρ st s) : A.units + 816 + 16 * Val.room < cLine := by have := H.un; lia
theorem Here.u20 (H : Here prog w G.v G.c hT n A env sc al fr ow ρ st s) : A.units + 20 < cLine := by
 have := H.un
 lia
theorem cmp_node {T : Tab} (OT : OrOk T) (hs : ∃ o, hT.get? sysModules = some o) {ev : Ev} (I : EvOk prog w G hT n ev) (H : Here prog w G.v G.c hT n A env sc al fr ow ρ st s) {o : COp} {a b : X} {l r : Expr} {pos : Pos} {op : CmpOp} {d : D} {f : Nat}
  (e : (match ev ρ st a with
  | some (a, st) => match ev ρ st b with
   | some (b, st) => match cmpD T st o a b with | some r => some (.bool r, st) | none => none
   | none => none
  | none => none) = some (d, st')) (c1 : copIs o op = true) (c0 : notSet r = true) (c2 : cE G f sc a l = true) (c3 : cE G f sc b r = true) :
  wpAny (model prog w) A (eval (.Compare l [op] [r] pos) env) (fun v s' => ∃ b, d = .bool b ∧ v = .bool b ∧ ∃ al', Stp prog w hT fr [] al al' st st' s s') FF s := by
 refine x22 (oDS e) ?_
 try clear e
 intro da st1 h1 e
 refine x22 (oDS e) ?_
 try clear e
 intro db st2 h2 e
 refine x12 (oBo e) ?_
 try clear e
 intro q h3 e
 refine ouK e ?_
 rw [copIs_eq c1]
 refine wpAny_Compare1 (wpAny_mono (I h1 c2 H) (fun v s1 pp => x12 pp fun al1 S1 r1 => ?_) fun j j q => q) (notSet_marks c0)
 refine wpAny_mono (I h2 c3 (H.step S1)) (fun u s2 pp => x12 pp fun al2 S2 r2 => ?_) fun j j q => q
 refine wpAny_mono (cmp_ok OT hs S2.sto H.u20 (r1.step S2) r2 h3) (fun z s3 p => ?_) fun j j q => q
 exact ⟨q, rfl, p.1, al2, (S1.trans S2).trans p.2⟩
end
end Mine
end
noncomputable section
open PySem PySem.W PyProof.Rows PySem.Spec PySem.Calls
namespace Mine
variable [Val]
omit [Val] in
theorem oTt {α : Type} {F : Nat → Option α} {x : Option (Option D)} {r : α} (e : (match x with | some (some (.tstr j)) => F j | _ => none) = some r) : ∃ j, x = some (some (.tstr j)) ∧ F j = some r := by
 induction x using Option.casesOn with
 | none => exact no e
 | some y => induction y using Option.casesOn with
  | none => exact no e
  | some d => induction d using D.casesOn with
   | tstr j => exact (m12 j rfl e)
   | _ => exact no e
section
variable {prog : Program} {w : World} {G : Nms} {hT : Heap} {n : Nat} {A : Around} {env : Env} {sc : Scope} {al al' al'' fr fr' N ow ow' : List Addr} {ρ : Env'} {st st' st'' : St} {s s₁ s₂ s₃ s' s'' : Shared} {h h' : Heap}
theorem cmp_test {T : Tab} (OT : OrOk T) (hs : ∃ o, hT.get? sysModules = some o) {ev : Ev} (I : EvOk prog w G hT n ev) (H : Here prog w G.v G.c hT n A env sc al fr ow ρ st s) {o : COp} {a b : X} {l r : Expr} {pos : Pos} {op : CmpOp} {t : Bool} {f : Nat} {whole : Sem Value}
  (e : (match ev ρ st a with
  | some (a, st) => match ev ρ st b with
   | some (b, st) => match cmpD T st o a b with | some r => some (D.bool r, st) | none => none
   | none => none
  | none => none) = some (.bool t, st')) (c1 : copIs o op = true) (c0 : notSet r = true) (c2 : cE G f sc a l = true) (c3 : cE G f sc b r = true) :
  wpAny (model prog w) A (isTrue (.Compare l [op] [r] pos) env whole) (PostB prog w hT al fr st st' s t) FF s := by
 first | replace e := oDS e | replace e := oLS e | replace e := oIS e | replace e := oSr e | replace e := oTS e | replace e := oSx e | replace e := oSf e | replace e := oLi e | replace e := oInst e | replace e := oFS e
 refine x22 e ?_
 clear e
 intro da st1 h1 e
 first | replace e := oDS e | replace e := oLS e | replace e := oIS e | replace e := oSr e | replace e := oTS e | replace e := oSx e | replace e := oSf e | replace e := oLi e | replace e := oInst e | replace e := oFS e
 refine x22 e ?_
 clear e
 intro db st2 h2 e
 first | replace e := oBo e | replace e := oNa e | replace e := oDa e | replace e := oSt e | replace e := oEn e | replace e := lstI e | replace e := oTx e | replace e := oPs e
 refine x12 e ?_
 clear e
 intro q h3 e
 cases e
 rw [copIs_eq c1]
 refine wpAny_isTrue_Compare1 (wpAny_mono (I h1 c2 H) (fun v s1 pp => x12 pp fun al1 S1 r1 => ?_) fun j j q => q) (notSet_marks c0)
 refine wpAny_mono (I h2 c3 (H.step S1)) (fun u s2 pp => x12 pp fun al2 S2 r2 => ?_) fun j j q => q
 refine wpAny_mono (cmp_ok OT hs S2.sto H.u20 (r1.step S2) r2 h3) (fun z s3 p => ?_) fun j j q => q
 refine x02 p ?_
 clear p
 intro eq0 S3
 subst eq0
 exact wpAny_truthy_bool ⟨rfl, al2, (S1.trans S2).trans S3⟩
theorem test_link {pos : Pos} {M : Model} {A : Around} {E : Value → Shared → Prop} {s : Shared} {a : Value} {op op' : CmpOp} {ops : List CmpOp} {r r' : Sem Value} {rs : List (Sem Value)} {Q : Bool → Shared → Prop}
  (h : wpAny M A r (fun b s₁ => wpAny M A (compareOp op a b) (fun c s₂ => wpAny M A (truthy c)
   (fun t s₃ => if t then wpAny M A (testChain pos b (op' :: ops) (r' :: rs)) Q E s₃ else Q false s₃) E s₂) E s₁) E s) :
  wpAny M A (testChain pos a (op :: op' :: ops) (r :: r' :: rs)) Q E s := by
 show wpAny M A (do
  let rv ← holding [a] r
  standAt pos
  let c ← holding [a, rv] (compareOp op a rv)
  release [a, rv] [c]
  if ← holding [c, rv] (truthy c) then testChain pos rv (op' :: ops) (r' :: rs) else pure false) Q E s
 refine wpAny_bind (wpAny_holding (wpAny_mono h (fun b s₁ h₁ => wpAny_bind (wpAny_standAt (wpAny_bind (wpAny_holding (wpAny_mono h₁ (fun c s₂ h₂ =>
  wpAny_bind (wpAny_release' (wpAny_bind (wpAny_holding (wpAny_mono h₂ (fun t s₃ h₃ => ?_) fun j j x => x))))) fun j j x => x))))) fun j j x => x))
 induction t using Bool.casesOn with
 | false => exact wpAny_pure h₃
 | true => exact h₃
theorem test_last {pos : Pos} {M : Model} {A : Around} {E : Value → Shared → Prop} {s : Shared} {a : Value} {op : CmpOp} {r : Sem Value} {Q : Bool → Shared → Prop}
  (h : wpAny M A r (fun b s₁ => wpAny M A (compareOp op a b) (fun c s₂ => wpAny M A (truthy c) Q E s₂) E s₁) E s) : wpAny M A (testChain pos a [op] [r]) Q E s := by
 show wpAny M A (do
  let rv ← holding [a] r
  standAt pos
  let c ← operate [a, rv] (compareOp op a rv)
  holding [c] (truthy c)) Q E s
 exact wpAny_bind (wpAny_holding (wpAny_mono h (fun b s₁ h₁ => wpAny_bind (wpAny_standAt (wpAny_bind (wpAny_operate' (wpAny_mono h₁ (fun c s₂ h₂ => wpAny_holding h₂) fun j j x => x))))) fun j j x => x))
theorem notSet_marks2 {op op2 : CmpOp} {r r2 : Expr} (_h1 : notSet r = true) (h2 : notSet r2 = true) : lastMarks [op, op2] [r, r2] = false := by
 show lastMarks [op2] [r2] = false
 simp [lastMarks, notSet_marks h2]
theorem cmp2_test {T : Tab} (OT : OrOk T) (hs : ∃ o, hT.get? sysModules = some o) {ev : Ev} (I : EvOk prog w G hT n ev) (H : Here prog w G.v G.c hT n A env sc al fr ow ρ st s) {o o2 : COp} {a b c : X} {l r r2 : Expr} {pos : Pos} {op op2 : CmpOp} {t : Bool} {f : Nat} {whole : Sem Value}
  (e : (match ev ρ st a with
  | some (a, st) => match ev ρ st b with
   | some (b, st) => match cmpD T st o a b with
    | some true => match ev ρ st c with
     | some (c, st) => match cmpD T st o2 b c with | some r => some (D.bool r, st) | none => none
     | none => none
    | some false => some (D.bool false, st)
    | none => none
   | none => none
  | none => none) = some (.bool t, st')) (c1 : copIs o op = true) (c1' : copIs o2 op2 = true) (c0 : notSet r = true) (c0' : notSet r2 = true) (c2 : cE G f sc a l = true) (c3 : cE G f sc b r = true) (c4 : cE G f sc c r2 = true) :
  wpAny (model prog w) A (isTrue (.Compare l [op, op2] [r, r2] pos) env whole) (PostB prog w hT al fr st st' s t) FF s := by
 first | replace e := oDS e | replace e := oLS e | replace e := oIS e | replace e := oSr e | replace e := oTS e | replace e := oSx e | replace e := oSf e | replace e := oLi e | replace e := oInst e | replace e := oFS e
 refine x22 e ?_
 clear e
 intro da st1 h1 e
 first | replace e := oDS e | replace e := oLS e | replace e := oIS e | replace e := oSr e | replace e := oTS e | replace e := oSx e | replace e := oSf e | replace e := oLi e | replace e := oInst e | replace e := oFS e
 refine x22 e ?_
 clear e
 intro db st2 h2 e
 have hu : A.units + 20 < cLine := H.u20
 have one : ∀ {q : Bool} {Q : Bool → Shared → Prop}, cmpD T st2 o da db = some q → (∀ al2 s2 v, Stp prog w hT fr [] al al2 st st2 s s2 → RD al2 fr s2.heap v db → if q = true then wpAny (model prog w) A (testChain pos v [op2] [eval r2 env]) Q FF s2 else Q false s2) →
   wpAny (model prog w) A (isTrue (.Compare l [op, op2] [r, r2] pos) env whole) Q FF s := fun {q} {Q} hq k => by
  rw [copIs_eq c1]
  refine isTrue_chain (wpAny_mono (I h1 c2 H) (fun v s1 pp => x12 pp fun al1 S1 r1 => test_link ?_) fun j j q => q) (notSet_marks2 c0 c0')
  refine wpAny_mono (I h2 c3 (H.step S1)) (fun u s2 pp => x12 pp fun al2 S2 r2 => ?_) fun j j q => q
  refine wpAny_mono (cmp_ok OT hs S2.sto hu (r1.step S2) r2 hq) (fun z s3 p => ?_) fun j j q => q
  refine x02 p ?_
  clear p
  intro eq0 S3
  subst eq0
  exact wpAny_truthy_bool (k al2 s3 u ((S1.trans S2).trans S3) (r2.step S3))
 split at e
 · rename_i h3
   first | replace e := oDS e | replace e := oLS e | replace e := oIS e | replace e := oSr e | replace e := oTS e | replace e := oSx e | replace e := oSf e | replace e := oLi e | replace e := oInst e | replace e := oFS e
   refine x22 e ?_
   clear e
   intro dc st3 h4 e
   first | replace e := oBo e | replace e := oNa e | replace e := oDa e | replace e := oSt e | replace e := oEn e | replace e := lstI e | replace e := oTx e | replace e := oPs e
   refine x12 e ?_
   clear e
   intro q h5 e
   cases e
   refine one h3 fun al2 s2 v S2 r2 => ?_
   rw [if_pos rfl]
   refine test_last (wpAny_mono (I h4 c4 (H.step S2)) (fun u s3 pp => x12 pp fun al3 S3 r3 => ?_) fun j j q => q)
   rw [copIs_eq c1']
   refine wpAny_mono (cmp_ok OT hs S3.sto hu (r2.step S3) r3 h5) (fun z s4 p => ?_) fun j j q => q
   refine x02 p ?_
   clear p
   intro eq0 S4
   subst eq0
   exact wpAny_truthy_bool ⟨rfl, al3, (S2.trans S3).trans S4⟩
 · rename_i h3
   cases e
   refine one h3 fun al2 s2 v S2 r2 => ?_
   rw [if_neg Bool.false_ne_true]
   exact ⟨rfl, al2, S2⟩
 · exact no e
theorem isTrue_plainTest {e : Expr} {M : Model} {A : Around} {E : Value → Shared → Prop} {s : Shared} {whole : Sem Value} {Q : Bool → Shared → Prop} (hp : plainTest e = true) (h : wpAny M A whole (fun v s₁ => wpAny M A (truthy v) Q E s₁) E s) : wpAny M A (isTrue e env whole) Q E s := by
 induction e using Expr.casesOn <;> first | exact isTrue_plain h (by rfl) | exact nb hp
theorem is_str_ok {M : Model} {x y : Str} {t u : Tok} {ms : Str → Option Value} {Q : Value → Shared → Prop} {E : Value → Shared → Prop} (h0 : t ≠ 0) (h1 : u ≠ 0) (h2 : t ≠ u) (hn : s.heap.Ns cStatics ms) (hk : ms sharingNotToldKey = none)
  (q : ∀ b : Bool, (b = true → x = y) → Q (.bool b) s) : wpAny M A (compareOp .Is (.str x t) (.str y u)) Q E s := by
 have e0 : (t == 0 || u == 0) = false := by simp [h0, h1]
 have e1 : (t == u) = false := by simpa using h2
 have told : ∀ {t : Tok} {R : Bool → Shared → Prop}, R false s → wpAny M A (sharingNotTold t) R E s := fun {t R} hr => by
  unfold sharingNotTold
  refine wpAny_bind (wpAny_nsGet hn ?_)
  rw [hk]
  exact wpAny_pure hr
 show wpAny M A (isSame.created (x == y) t u >>= fun b => pure (.bool b)) Q E s
 refine wpAny_bind ?_
 unfold isSame.created
 rw [e0, e1]
 simp only [Bool.false_eq_true, if_false]
 refine wpAny_bind (wpAny_pure ?_)
 refine wpAny_bind (wpAny_pure ?_)
 cases z : (x == y) with
 | false =>
  exact wpAny_pure (wpAny_pure (q false fun h => by exact nomatch h))
 | true =>
  have hxy : x = y := beq_iff_eq.mp z
  show wpAny M A (sharingNotTold t >>= _) _ _ _
  refine wpAny_bind (told ?_)
  show wpAny M A (sharingNotTold u >>= _) _ _ _
  refine wpAny_bind (told ?_)
  show wpAny M A (rule "is.world.by-value" >>= _) _ _ _
  refine wpAny_bind (wpAny_rule (wpAny_bind (wpAny_askSetting ?_)))
  exact wpAny_pure (wpAny_pure (q _ fun j => hxy))
theorem vrName_iff {G : Nms} {sc : Scope} {i : Nat} {e : Expr} (h : vrName G sc i e = true) : ∃ p, e = .Name (G.v i) p ∧ isVarK (sc.names.lookup (G.v i)) = true := by
 refine vName_e h fun id p h => ?_
 refine x02 (both h) ?_
 intro h1 h2
 have := beq_iff_eq.mp h1
 subst this
 exact (m12 _ rfl h2)
theorem or_test (NN : Names G.v) {T : Tab} (OT : OrOk T) (hst : ∃ ms, hT.Ns cStatics ms ∧ ms sharingNotToldKey = none) (H : Here prog w G.v G.c hT n A env sc al fr ow ρ st s) {i j a b : Nat} {l1 r1 l2 r2 : Expr} {p1 p2 pos : Pos} {whole : Sem Value} {t : Bool}
  (h1 : lk i ρ = some (some (.tstr a))) (h2 : lk j ρ = some (some (.tstr b))) (h3 : T.same a b = some t) (c1 : vrName G sc i l1 = true) (c2 : vrName G sc j r1 = true) (c3 : vrName G sc i l2 = true) (c4 : vrName G sc j r2 = true) :
  wpAny (model prog w) A (isTrue (.BoolOp .Or [.Compare l1 [.Is] [r1] p1, .Compare l2 [.Eq] [r2] p2] pos) env whole) (PostB prog w hT al fr st st s t) FF s := by
 refine x12 (vrName_iff c1) ?_
 intro q1 eq1 k1
 subst eq1
 refine x12 (vrName_iff c2) ?_
 intro q2 eq1 k2
 subst eq1
 refine x12 (vrName_iff c3) ?_
 intro q3 eq1 k3
 subst eq1
 refine x12 (vrName_iff c4) ?_
 intro q4 eq1 k4
 subst eq1
 refine x12 hst ?_
 clear hst
 intro ms hn hk
 refine x04 (OT.same _ _ _ h3) ?_
 intro e1 e2 e3 e4
 have rest : ∀ {al1 : List Addr} {s1 : Shared}, Stp prog w hT fr [] al al1 st st s s1 → wpAny (model prog w) A (isTrue (.BoolOp .Or [.Compare (.Name (G.v i) q3) [.Eq] [.Name (G.v j) q4] p2] pos) env whole) (PostB prog w hT al fr st st s t) FF s1 := fun {al1 s1} S1 => by
  have H1 := H.step S1
  refine isTrue_or (wpAny_isTrue_Compare1 (wpAny_mono (var_ok NN H1 h1 k1) (fun v s2 pp => x12 pp fun al2 S2 r2 => ?_) fun z z q => q) rfl)
  have H2 := H1.step S2
  refine wpAny_mono (var_ok NN H2 h2 k2) (fun u s3 pp => x12 pp fun al3 S3 r3 => ?_) fun z z q => q
  refine x23 r2.to ?_
  intro x tx eq2 hx htx
  subst eq2
  refine x23 r3.to ?_
  intro y ty eq2 hy hty
  subst eq2
  refine PyProof.Rows.eq_str (wpAny_truthy_bool ?_)
  have e5 : (((⟨x.toArray⟩ : Str) == ⟨y.toArray⟩)) = t := by rw [← eqL_str, hx, hy]; exact e4
  rw [e5]
  have S123 := (S1.trans S2).trans S3
  induction t using Bool.casesOn with
  | true => exact ⟨rfl, al3, S123⟩
  | false => exact isTrue_or_nil ⟨rfl, al3, S123⟩
 refine isTrue_or (wpAny_isTrue_Compare1 (wpAny_mono (var_ok NN H h1 k1) (fun v s1 pp => x12 pp fun al1 S1 ra => ?_) fun z z q => q) rfl)
 have H1 := H.step S1
 refine wpAny_mono (var_ok NN H1 h2 k2) (fun u s2 pp => x12 pp fun al2 S2 rb => ?_) fun z z q => q
 have S12 := S1.trans S2
 refine x23 ra.to ?_
 intro x tx eq2 hx htx
 subst eq2
 refine x23 rb.to ?_
 intro y ty eq2 hy hty
 subst eq2
 subst htx hty
 refine is_str_ok e1 e2 e3 (ns_old S12.sto hn) hk fun c hc => ?_
 refine wpAny_truthy_bool ?_
 induction c using Bool.casesOn with
 | true =>
  have hxy := hc rfl
  have : t = true := by
   rw [← e4, eqL_str, ← hx, ← hy, hxy]; exact beq_self_eq_true _
  subst this
  exact ⟨rfl, al2, S12⟩
 | false => exact rest S12
theorem ts_step (NN : Names G.v) (hst : ∃ ms, hT.Ns cStatics ms ∧ ms sharingNotToldKey = none) (hs : ∃ o, hT.get? sysModules = some o) (T : Tab) (OT : OrOk T) {ev : Ev} {ex : Ex} (I : EvOk prog w G hT n ev) (J : TsOk prog w G hT n ev) (I' : EvOk prog w G hT (n + 1) (evStep T ev ex)) : TsOk prog w G hT (n + 1) (evStep T ev ex) := by
 intro A env sc al fr ow ρ st s x e b st' f
 have plain : ∀ {f : Nat} {x : X} {e : Expr} {b : Bool}, evStep T ev ex ρ st x = some (.bool b, st') → plainTest e = true → cE G f sc x e = true → Here prog w G.v G.c hT (n + 1) A env sc al fr ow ρ st s → wpAny (model prog w) A (isTrue e env (eval e env)) (PostB prog w hT al fr st st' s b) FF s := fun h hp c H => by
  refine isTrue_plainTest hp (wpAny_mono (I' h c H) (fun v s1 pp => x12 pp fun al1 S1 r1 => ?_) fun y y q => q)
  have r1 : v = _ := r1.to
  subst r1
  exact wpAny_truthy_bool ⟨rfl, al1, S1⟩
 induction f generalizing x e b with
 | zero => intro _ c; exact nb c
 | succ f ih =>
  intro h c H
  have H' := H.less (n' := n) (Nat.le_succ n)
  replace c := orI c
  rcases c with c | c
  · replace c := orI c
    rcases c with c | c
    · replace c := orI c
      rcases c with c | c
      · refine vBop_e c fun op es pos c => ?_
        induction op using BoolOp.casesOn with
        | Or =>
         revert h
         refine xOr_e c fun a b' c h => ?_
         refine v2_e c fun e1 e2 c => ?_
         refine vCmp_e c fun l1 os1 rs1 p1 c => ?_
         replace c := both c
         refine x02 c ?_
         clear c
         intro i1 c
         refine v1_e i1 fun o1 i1 => ?_
         refine v1_e c fun r1 c => ?_
         refine vCmp_e c fun l2 os2 rs2 p2 c => ?_
         replace c := both c
         refine x02 c ?_
         clear c
         intro i2 c
         refine v1_e i2 fun o2 i2 => ?_
         refine v1_e c fun r2 c => ?_
         have i1 : o1 = .Is := copIs_eq i1
         have i2 : o2 = .Eq := copIs_eq i2
         subst i1 i2
         replace c := both c
         refine x02 c ?_
         clear c
         intro c c4
         replace c := both c
         refine x02 c ?_
         clear c
         intro c c3
         replace c := both c
         refine x02 c ?_
         clear c
         intro c1 c2
         replace h : (match lk a ρ with
          | some (some (.tstr j)) => match lk b' ρ with
           | some (some (.tstr k)) => match T.same j k with | some r => some (D.bool r, st) | none => none
           | _ => none
          | _ => none) = some (.bool b, st') := h
         replace h := oTt h
         refine x12 h ?_
         clear h
         intro j1 q1 h
         replace h := oTt h
         refine x12 h ?_
         clear h
         intro j2 q2 h
         replace h := oBo h
         refine x12 h ?_
         clear h
         intro q q3 h
         replace h := ou h
         refine x02 h ?_
         clear h
         intro h eq1
         subst eq1
         injection h with h
         subst h
         exact or_test NN OT hst H q1 q2 q3 c1 c2 c3 c4
        | And =>
         induction es using List.casesOn with
         | nil => exact nb c
         | cons e1 r =>
          induction r using List.casesOn with
          | nil =>
           refine isTrue_and (wpAny_mono (ih h c H) (fun t s1 p => ?_) fun y y q => q)
           obtain ⟨rfl, al1, S1⟩ := p
           induction t using Bool.casesOn with
           | false => exact ⟨rfl, al1, S1⟩
           | true => exact isTrue_and_nil ⟨rfl, al1, S1⟩
          | cons e2 r =>
           revert h
           refine xAnd_e c fun xa xb c h => ?_
           replace c := both c
           refine x02 c ?_
           clear c
           intro c1 c2
           replace h : (match ev ρ st xa with
            | some (.bool true, st) => ev ρ st xb
            | some (.bool false, st) => some (.bool false, st)
            | _ => none) = some (.bool b, st') := h
           split at h
           · rename_i st1 h1
             refine isTrue_and (wpAny_mono (J h1 c1 H') (fun t s1 p => ?_) fun y y q => q)
             obtain ⟨rfl, al1, S1⟩ := p
             rw [if_pos rfl]
             exact wpAny_mono (J (e := .BoolOp .And (e2 :: r) pos) (f := f + 1) h (Bool.or_eq_true_iff.mpr (.inl (Bool.or_eq_true_iff.mpr (.inl (Bool.or_eq_true_iff.mpr (.inl (vBop_mk.trans c2))))))) (H'.step S1)) (fun t s2 ⟨q, al2, S2⟩ => ⟨q, al2, S1.trans S2⟩) fun y y q => q
           · rename_i st1 h1
             replace h := ou h
             refine x02 h ?_
             clear h
             intro h eq1
             subst eq1
             injection h with h
             subst h
             refine isTrue_and (wpAny_mono (J h1 c1 H') (fun t s1 p => ?_) fun y y q => q)
             obtain ⟨rfl, al1, S1⟩ := p
             exact ⟨rfl, al1, S1⟩
           · exact no h
      · refine vCmp_e c fun l ops rs pos c => ?_
        revert h
        refine xCmp_e c fun a o b' c h => ?_
        refine v1_e c fun op c => ?_
        refine v1_e c fun r c => ?_
        replace c := both c
        refine x02 c ?_
        clear c
        intro c c4
        replace c := both c
        refine x02 c ?_
        clear c
        intro c c3
        replace c := both c
        refine x02 c ?_
        clear c
        intro c1 c2
        exact cmp_test OT hs I H' h c1 c2 c3 c4
    · refine vCmp_e c fun l ops rs pos c => ?_
      revert h
      refine xCmp2_e c fun a o b' o2 c' c h => ?_
      refine v2_e c fun op op2 c => ?_
      refine v2_e c fun r r2 c => ?_
      replace c := both c
      refine x02 c ?_
      clear c
      intro c c7
      replace c := both c
      refine x02 c ?_
      clear c
      intro c c6
      replace c := both c
      refine x02 c ?_
      clear c
      intro c c5
      replace c := both c
      refine x02 c ?_
      clear c
      intro c c4
      replace c := both c
      refine x02 c ?_
      clear c
      intro c c3
      replace c := both c
      refine x02 c ?_
      clear c
      intro c1 c2
      exact cmp2_test OT hs I H' h c1 c2 c3 c4 c5 c6 c7
  · replace c := both c
    refine x02 c ?_
    clear c
    intro c1 c2
    exact plain h c1 c2 H
end
end Mine
end
noncomputable section
open PySem PySem.W PyProof.Rows PySem.Spec PySem.Calls
namespace Mine
variable [Val]
omit [Val] in
theorem o2L {α : Type} {F : List D → Nat → Option α} {x : Option (List D)} {y : Option Nat} {r : α} (e : (match x, y with | some xs, some n => F xs n | _, _ => none) = some r) : ∃ xs n, x = some xs ∧ y = some n ∧ F xs n = some r := by
 induction x using Option.casesOn with
 | none => induction y using Option.casesOn <;> exact no e
 | some xs => induction y using Option.casesOn with
  | none => exact no e
  | some n => exact (m23 xs n rfl rfl e)
section
variable {prog : Program} {w : World} {G : Nms} {hT : Heap} {n : Nat} {A : Around} {env : Env} {sc : Scope} {al al' al'' fr fr' N ow ow' : List Addr} {ρ : Env'} {st st' st'' : St} {s s₁ s₂ s₃ s' s'' : Shared} {h h' : Heap}
theorem beq_str {a b : Str} (h : (a == b) = true) : a = b := beq_iff_eq.mp h
theorem notDebug_iff {id : Str} (h : notDebug id = true) : (id == ("__debug__" : Str)) = false := by
 unfold notDebug at h
 simpa using h
theorem call_name (H : Here prog w G.v G.c hT n A env sc al fr ow ρ st s) {id : Str} {p pos : Pos} {es : List Expr} {v : Value} {Q : Value → Shared → Prop} {E : Value → Shared → Prop} (hk : isGl sc id = true) (hd : (id == ("__debug__" : Str)) = false) (g : Glb hT id v)
  (q : wpAny (model prog w) A (callWith pos v [] (backTo pos (starEach es env)) []) Q E s) : wpAny (model prog w) A (eval (.Call (.Name id p) es [] pos) env) Q E s :=
 wpAny_Call_Name_kw (glob_ok H hk hd g q)
theorem evalArgs_of {f : Value} {M : Model} {E : Value → Shared → Prop} {s : Shared} {rec : X → Expr → Bool} {pos : Pos} {xs : List X} {es : List Expr} {Q : Args → Shared → Prop} (c : cL rec xs es = true)
  (h : wpAny M A (spliced (backTo pos (starEach es env))) (fun vs s' => Q ⟨vs, []⟩ s') E s) : wpAny M A (evalArgs f true (backTo pos (starEach es env)) []) Q E s := by
 induction xs using List.casesOn with
 | nil => induction es using List.casesOn with
  | nil =>
   unfold evalArgs
   show wpAny M A (spliced [] >>= _) Q E s
   refine wpAny_bind (wpAny_mono h (fun vs s' h' => wpAny_bind (wpAny_pure ?_)) fun j j x => x)
   refine wpAny_holding ?_
   exact wpAny_bind (wpAny_pure (wpAny_pure h'))
  | cons => exact nb c
 | cons x xs => induction es using List.casesOn with
  | nil => exact nb c
  | cons e es =>
   rw [starEach_cons (both (both c).1).1, backTo_cons] at h ⊢
   exact evalArgs_plain h
theorem biGlb_debug (b : BI) : (biName b == ("__debug__" : Str)) = false := by induction b using BI.casesOn <;> decide
theorem callWith_bi {M : Model} {E : Value → Shared → Prop} {s : Shared} {b : BI} {pos : Pos} {args : List (Bool × Sem Value)} {Q : Value → Shared → Prop} (hp : args.any (·.1) = false)
  (h : wpAny M A (evalArgs (biVal b) true args []) (fun a s₁ => wpAny M A (call (biVal b) a.pos a.kw) Q E s₁) E s) : wpAny M A (callWith pos (biVal b) [] args []) Q E s := by
 induction b using BI.casesOn with
 | dict => exact PyProof.Rows.callWith_type (first := []) hp h
 | str => exact PyProof.Rows.callWith_type (first := []) hp h
 | tuple => exact PyProof.Rows.callWith_type (first := []) hp h
 | len => exact Calls.callWith_builtin (first := []) hp h
 | max => exact Calls.callWith_builtin (first := []) hp h
 | sum => exact Calls.callWith_builtin (first := []) hp h
 | isTuple => exact Calls.callWith_builtin (first := []) hp h
structure Bis (hT : Heap) : Prop where
 bi : ∀ b, Glb hT (biName b) (biVal b)
 rng : Glb hT "range" (.type "range")
 zip : Glb hT "zip" (.type "zip")
 bmod : ∃ (mg : Str → Option Value) (bm : Addr) (ob : Obj), hT.Ns mainGlobals mg ∧ mg "__builtins__" = some (.ref bm) ∧ bm ≠ builtinsNs ∧ hT.get? bm = some ob ∧ ob.cls = .type "module" ∧ ob.dict = some builtinsNs ∧ ob.data = .plain
 sysm : ∃ o, hT.get? sysModules = some o
 lim : hT.NoLimit
 enum : Glb hT "enumerate" (.type "enumerate")
 stat : ∃ ms, hT.Ns cStatics ms ∧ ms sharingNotToldKey = none
theorem bi_node (B : Bis hT) {ev : Ev} (I : EvOk prog w G hT n ev) (H : Here prog w G.v G.c hT n A env sc al fr ow ρ st s) {b : BI} {args : List X} {id : Str} {p pos : Pos} {es : List Expr} {d : D} {f : Nat}
  (e : (match evL ev ρ st args with
  | some (ds, st) => biD st b ds
  | none => none) = some (d, st'))
  (c1 : id = biName b) (c2 : isGl sc id = true) (c3 : cBi (cE G f sc) sc b args es = true) :
  wpAny (model prog w) A (eval (.Call (.Name id p) es [] pos) env) (PostE prog w hT al fr st st' s d) FF s := by
 first | replace e := oDS e | replace e := oLS e | replace e := oIS e | replace e := oSr e | replace e := oTS e | replace e := oSx e | replace e := oSf e | replace e := oLi e | replace e := oInst e | replace e := oFS e
 refine x22 e ?_
 clear e
 intro ds st1 h1 e
 subst c1
 refine call_name H c2 (biGlb_debug b) (B.bi b) ?_
 have plain : (cL (cE G f sc) args es = true) → (∀ vs, biArgs b vs = vs) → wpAny (model prog w) A (callWith pos (biVal b) [] (backTo pos (starEach es env)) []) (PostE prog w hT al fr st st' s d) FF s := fun c k => by
  refine callWith_bi (noStars c) (evalArgs_of c (wpAny_mono (evL_ok I h1 c H) (fun vs s1 pp => x12 pp fun al1 S1 r1 => ?_) fun j j q => q))
  have := bi_ok (prog := prog) (w := w) (A := A) H.hd B.sysm S1.sto (b := b) r1 e
  rw [k] at this
  exact wpAny_mono this (fun v s2 p => p.after S1) fun j j q => q
 have pl : (!es.isEmpty && cL (cE G f sc) args es) = true → cL (cE G f sc) args es = true := fun c => (both c).2
 induction b using BI.casesOn with
 | isTuple =>
  refine v2_e c3 fun e1 e2 c3 => ?_
  refine vName_e c3 fun id2 p2 c3 => ?_
  refine x02 (both c3) ?_
  intro c4 c6
  refine x02 (both c4) ?_
  try clear c4
  intro c4 c5
  have c4 := beq_str c4
  subst c4
  induction args using List.casesOn with
  | nil => exact nb c6
  | cons x xs => induction xs using List.casesOn with
   | cons => exact nb ((Bool.and_false _).symm.trans c6)
   | nil =>
    refine x02 (both (both c6).1) ?_
    intro c7 c8
    have st2 : starEach [e1, Expr.Name ("tuple" : Str) p2] env = [(false, eval e1 env), (false, eval (.Name ("tuple" : Str) p2) env)] := by rw [starEach_cons c7]; rfl
    rw [st2]
    refine callWith_bi (b := .isTuple) rfl (evalArgs_plain ?_)
    replace h1 : (match ev ρ st x with
     | some (d, st) => match evL ev ρ st [] with
      | some (ds, st) => some (d :: ds, st)
      | none => none
     | none => none) = some (ds, st1) := h1
    replace h1 := oDS h1
    refine x22 h1 ?_
    clear h1
    intro d1 st3 h3 h1
    refine x02 (ou h1) ?_
    intro eq0 eq1
    subst eq0
    subst eq1
    refine spliced_cons (wpAny_mono (I h3 c8 H) (fun v s1 pp => x12 pp fun al1 S1 r1 => spliced_cons ?_) fun j j q => q)
    refine glob_ok (H.step S1) c5 (by decide) (B.bi .tuple) (spliced_nil ?_)
    have := bi_ok (prog := prog) (w := w) (A := A) H.hd B.sysm S1.sto (b := .isTuple) (.cons r1 .nil) e
    exact wpAny_mono this (fun v s2 p => p.after S1) fun j j q => q
 | len => exact plain (pl c3) fun j => rfl
 | max => exact plain (pl c3) fun j => rfl
 | sum => exact plain (pl c3) fun j => rfl
 | dict => exact plain (pl c3) fun j => rfl
 | str => exact plain (pl c3) fun j => rfl
 | tuple => exact plain (pl c3) fun j => rfl
theorem notCall_name {id : Str} {p : Pos} : notCall (.Name id p) = true := by unfold notCall vCN vCall; rfl
theorem notCall_base {o : Expr} {name : Str} {whole : Sem Value} (h : notCall o = true) : attributeBase o name env whole = whole := by
 induction o using Expr.casesOn with
 | Call fe es kw p => induction es using List.casesOn with
  | cons => induction fe using Expr.casesOn <;> rfl
  | nil => induction kw using List.casesOn with
   | cons => induction fe using Expr.casesOn <;> rfl
   | nil => induction fe using Expr.casesOn with
    | Name => rw [notCall, vCN_mk] at h; exact nb h
    | _ => rfl
 | _ => rfl
theorem meth_node {ev : Ev} (I : EvOk prog w G hT n ev) (H : Here prog w G.v G.c hT n A env sc al fr ow ρ st s) {o : X} {m : ME} {args : List X} {oe : Expr} {name : Str} {apos pos : Pos} {es : List Expr} {d : D} {f : Nat}
  (e : (match ev ρ st o with
  | some (o, st) => match meTy st o m with
   | true => match evL ev ρ st args with
    | some (ds, st) => meD st o m ds
    | none => none
   | false => none
  | none => none) = some (d, st'))
  (c1 : name = meName m) (c2 : notCall oe = true) (c3 : (apos.endLine == pos.line) = true) (c4 : es.length < 20) (c5 : cE G f sc o oe = true) (c6 : cL (cE G f sc) args es = true) :
  wpAny (model prog w) A (eval (.Call (.Attribute oe name apos) es [] pos) env) (PostE prog w hT al fr st st' s d) FF s := by
 subst c1
 first | replace e := oDS e | replace e := oLS e | replace e := oIS e | replace e := oSr e | replace e := oTS e | replace e := oSx e | replace e := oSf e | replace e := oLi e | replace e := oInst e | replace e := oFS e
 refine x22 e ?_
 clear e
 intro dO st1 h1 e
 replace e := ifI e
 refine x02 e ?_
 clear e
 intro h2 e
 first | replace e := oDS e | replace e := oLS e | replace e := oIS e | replace e := oSr e | replace e := oTS e | replace e := oSx e | replace e := oSf e | replace e := oLi e | replace e := oInst e | replace e := oFS e
 refine x22 e ?_
 clear e
 intro ds st2 h3 e
 refine wpAny_Call_method_late (notCall_base c2) ?_ c3 rfl (wpAny_mono (I h1 c5 H) (fun ov s1 pp => x12 pp fun al1 S1 r1 => ?_) fun j j q => q)
 · have := noStars (env := env) (pos := pos) c6
   have e1 : (backTo pos (starEach es env)).all (fun x => !x.1) = true := by
    rw [List.all_eq_true]
    intro x hx
    have := List.any_eq_false.mp this x hx
    simpa using this
   rw [e1]
   rw [show backToKw pos (keywordEach [] env) = [] from rfl]
   simp
   exact Nat.lt_of_lt_of_le ‹_› (by decide)
 · refine x05 (me_on S1.sto r1 h2) ?_
   intro q1 q2 q3 q4 q5
   refine ⟨_, _, q1, q2, q3, q4, q5, ?_⟩
   refine Calls.callWith_builtin (noStars c6) (evalArgs_of c6 (wpAny_mono (evL_ok I h3 c6 (H.step S1)) (fun vs s2 pp => x12 pp fun al2 S2 r2 => ?_) fun j j q => q))
   exact wpAny_mono (me_ok S2.sto (r1.step S2) r2 e) (fun v s3 p => (p.after S2).after S1) fun j j q => q
theorem smIdx_hb {i : D} (h : smIdx i = true) : ∀ k, i = .int k → k < 2 ^ 62 := by
 intro k e
 subst e
 have := smallI_le h
 exact Int.lt_of_le_of_lt (And.right ‹_›) (by decide)
theorem idx_node {ev : Ev} (I : EvOk prog w G hT n ev) (H : Here prog w G.v G.c hT n A env sc al fr ow ρ st s) {o i : X} {oe ie : Expr} {pos : Pos} {d : D} {f : Nat}
  (e : (match ev ρ st o with
  | some (o, st) => match ev ρ st i with
   | some (i, st) => match smIdx i with
    | true => match idxD st o i with | some d => some (d, st) | none => none
    | false => none
   | none => none
  | none => none) = some (d, st')) (c1 : plainSlice ie = true) (c2 : cE G f sc o oe = true) (c3 : cE G f sc i ie = true) :
  wpAny (model prog w) A (eval (.Subscript oe ie pos) env) (PostE prog w hT al fr st st' s d) FF s := by
 first | replace e := oDS e | replace e := oLS e | replace e := oIS e | replace e := oSr e | replace e := oTS e | replace e := oSx e | replace e := oSf e | replace e := oLi e | replace e := oInst e | replace e := oFS e
 refine x22 e ?_
 clear e
 intro dO st1 h1 e
 first | replace e := oDS e | replace e := oLS e | replace e := oIS e | replace e := oSr e | replace e := oTS e | replace e := oSx e | replace e := oSf e | replace e := oLi e | replace e := oInst e | replace e := oFS e
 refine x22 e ?_
 clear e
 intro di st2 h2 e
 replace e := ifI e
 refine x02 e ?_
 clear e
 intro h3 e
 first | replace e := oBo e | replace e := oNa e | replace e := oDa e | replace e := oSt e | replace e := oEn e | replace e := lstI e | replace e := oTx e | replace e := oPs e
 refine x12 e ?_
 clear e
 intro d' h4 e
 cases e
 refine Subscript_ (wpAny_mono (I h1 c2 H) (fun v s1 pp => x12 pp fun al1 S1 r1 => ?_) fun j j q => q)
 refine wpAny_mono (I h2 c3 (H.step S1)) (fun u s2 pp => x12 pp fun al2 S2 r2 => ?_) fun j j q => q
 exact wpAny_mono (idx_ok S2.sto c1 (r1.step S2) r2 h4 (smIdx_hb h3)) (fun z s3 p => (p.after S2).after S1) fun j j q => q
theorem slc_node {ev : Ev} (I : EvOk prog w G hT n ev) (H : Here prog w G.v G.c hT n A env sc al fr ow ρ st s) {o hi : X} {oe he : Expr} {p pos : Pos} {d : D} {f : Nat}
  (e : (match ev ρ st o with
  | some (o, st) => match ev ρ st hi with
   | some (.int h, st) => match listOf st o, nat? h with
    | some xs, some n => match fits xs.length with | true => some (D.list (takeD n xs), st) | false => none
    | _, _ => none
   | _ => none
  | none => none) = some (d, st')) (c1 : isName oe = true) (c2 : cE G f sc o oe = true) (c3 : cE G f sc hi he = true) :
  wpAny (model prog w) A (eval (.Subscript oe (.Slice none (some he) none p) pos) env) (PostE prog w hT al fr st st' s d) FF s := by
 first | replace e := oDS e | replace e := oLS e | replace e := oIS e | replace e := oSr e | replace e := oTS e | replace e := oSx e | replace e := oSf e | replace e := oLi e | replace e := oInst e | replace e := oFS e
 refine x22 e ?_
 clear e
 intro dO st1 h1 e
 first | replace e := oDS e | replace e := oLS e | replace e := oIS e | replace e := oSr e | replace e := oTS e | replace e := oSx e | replace e := oSf e | replace e := oLi e | replace e := oInst e | replace e := oFS e
 refine x22 e ?_
 clear e
 intro k st2 h2 e
 replace e := o2L e
 refine x23 e ?_
 clear e
 intro xs j h3 h4 e
 replace e := ifI e
 refine x02 e ?_
 clear e
 intro h5 e
 cases e
 refine wpAny_Subscript_list_slice (ht := fun y y => by obtain ⟨_, _, rfl⟩ := isName_inv c1; rfl) (wpAny_mono (I h1 c2 H) (fun v s1 pp => x12 pp fun al1 S1 r1 => wpAny_evalPart_none ?_) fun y y q => q)
 show wpAny (model prog w) A (eval he env) _ _ _
 refine wpAny_mono (I h2 c3 (H.step S1)) (fun u s2 pp => x12 pp fun al2 S2 r2 => ?_) fun y y q => q
 refine x23 (list_of S2.sto (r1.step S2) h3) ?_
 intro x vs eq2 hl rv
 subst eq2
 have := nat?_eq h4
 subst this
 refine x11 r2.to ?_
 intro t eq1
 subst eq1
 refine (m46 x _ none (some (j : Int)) rfl hl.isList (by rw [List.size_toArray, rv.length]; exact fits_le h5) .none (.int _ _) ?_)
 rw [slicePick_upto']
 have S3 := Stp.push (htk := Nat.le_refl _) (prog := prog) (w := w) (o := { cls := .type "slice", data := .fields #[.none, .int (j : Int) t, .none] }) (tk := s2.toks) S2.sto
 have := newL_ok (htk := by first | exact Nat.le_refl _ | lia | omega) (prog := prog) (w := w) (tk := s2.toks) S3.sto ((rv.take j).step S3) (m := false) rfl
 simp only [Heap.size_push] at this
 exact ((this.after S3).after S2).after S1
theorem list_node {ev : Ev} (I : EvOk prog w G hT n ev) (H : Here prog w G.v G.c hT n A env sc al fr ow ρ st s) {m : Bool} {xs : List X} {es : List Expr} {pos : Pos} {d : D} {f : Nat}
  (e : (match evL ev ρ st xs with
  | some (ds, st) => match fits ds.length with | true => some (newL m st ds) | false => none
  | none => none) = some (d, st')) (c : cL (cE G f sc) xs es = true) :
  wpAny (model prog w) A (eval (.List es pos) env) (PostE prog w hT al fr st st' s d) FF s := by
 first | replace e := oDS e | replace e := oLS e | replace e := oIS e | replace e := oSr e | replace e := oTS e | replace e := oSx e | replace e := oSf e | replace e := oLi e | replace e := oInst e | replace e := oFS e
 refine x22 e ?_
 clear e
 intro ds st1 h1 e
 replace e := ifI e
 refine x02 e ?_
 clear e
 intro h2 e
 refine wpAny_List_spliced (wpAny_mono (evL_ok I h1 c H) (fun vs s1 pp => x12 pp fun al1 S1 r1 => ⟨by rw [r1.length]; exact fits_le h2, ?_⟩) fun j j q => q)
 exact (newL_ok (htk := Nat.le_refl _) S1.sto r1 (Option.some.inj e)).after S1
theorem tup_node {ev : Ev} (I : EvOk prog w G hT n ev) (H : Here prog w G.v G.c hT n A env sc al fr ow ρ st s) {xs : List X} {es : List Expr} {k : Nat} {pos : Pos} {d : D} {f : Nat}
  (e : (match evL ev ρ st xs with
  | some (ds, st) => match fits ds.length with | true => some (D.tup ds, st) | false => none
  | none => none) = some (d, st')) (c : cL (cE G f sc) xs es = true) :
  wpAny (model prog w) A (eval (.Tuple es k pos) env) (PostE prog w hT al fr st st' s d) FF s := by
 first | replace e := oDS e | replace e := oLS e | replace e := oIS e | replace e := oSr e | replace e := oTS e | replace e := oSx e | replace e := oSf e | replace e := oLi e | replace e := oInst e | replace e := oFS e
 refine x22 e ?_
 clear e
 intro ds st1 h1 e
 replace e := ifI e
 refine x02 e ?_
 clear e
 intro h2 e
 cases e
 refine wpAny_Tuple_spliced (wpAny_mono (evL_ok I h1 c H) (fun vs s1 pp => x12 pp fun al1 S1 r1 => ⟨by rw [r1.length]; exact fits_le h2, ?_⟩) fun j j q => q)
 exact (newT_ok (htk := Nat.le_refl _) S1.sto r1).after S1
theorem dict0_node (S : Sto prog w hT al fr st s.heap) {pos : Pos} : wpAny (model prog w) A (eval (.Dict [] [] pos) env) (PostE prog w hT al fr st (newM st (.dic [])).2 s (newM st (.dic [])).1) FF s := by
 refine wpAny_Dict_empty ?_
 have kk : ∀ b o, s.heap.get? b = some o → (s.heap.push { cls := .type "dict", data := .dict #[] }).get? b = some o := fun b o e => Heap.get?_push_of_some _ e
 have := Stp.newM (htk := by first | exact Nat.le_refl _ | lia | omega) (tk := s.toks) (mo := .dic []) S (Nat.le_refl _) (by rw [Heap.size_push]; exact Nat.lt_succ_self _) (by rw [Heap.size_push]; exact Nat.le_succ _) kk
  ⟨[], ⟨_, #[], 0, Heap.get?_push_size _ rfl, ⟨rfl, rfl, rfl⟩, rfl, fun e he => by simp at he, .nil, List.nodup_nil⟩, rfl, .nil⟩
 exact ⟨_, this.1, this.2⟩
end
end Mine
end
noncomputable section
open PySem PySem.W PyProof.Rows PySem.Spec PySem.Calls
namespace Mine
variable [Val]
section
variable (prog : Program) (w : World)
inductive SrcOk (al fr : List Addr) (st : St) (h : Heap) (I : Addr) : Src → Prop
 | seq (a : Addr) (vs : List Value) (i : Nat) (rest : List D) : h.IsListIter I a i → a ∉ al → a ∉ fr → h.PlainList a vs.toArray → RDs al fr h (vs.drop i) rest → SrcOk al fr st h I (.pure rest)
 | str (x : List Nat) (t : Tok) (i : Nat) : h.IsStrIter I "str_ascii_iterator" ⟨x.toArray⟩ t i → SrcOk al fr st h I (.pure ((x.drop i).map fun c => .str [c]))
 | rng (a b : Int) (left : Int) : IsRangeIter h I a left 1 → (0 < left ↔ a < b) → (a < b → left = b - a) → SrcOk al fr st h I (.rng a b)
 | mlist (k v i : Nat) (a : Addr) : al[k]? = some a → h.IsListIter I a i → SrcOk al fr st h I (.mlist k v i)
 | items (k v i : Nat) (d : Addr) : al[k]? = some d → (∃ v0 mo, lk k st.mu = some (v0, mo) ∧ v ≤ v0) →
   (∀ es, lk k st.mu = some (v, .dic es) → ∃ kvs ep ok ov, IsItemIter h I d i kvs.length ep ok ov ∧ h.DictAt (intKind prog w) d kvs ep ∧ kvs.map (·.1) = es.map (·.1) ∧ RDs al fr h (kvs.map (·.2)) (es.map (·.2))) → SrcOk al fr st h I (.items k v i)
end
section
variable {prog : Program} {w : World} {nm : Nat → Str} {hT : Heap} {n : Nat} {A : Around} {env : Env} {sc : Scope} {al al' al'' fr fr' N ow ow' : List Addr} {ρ : Env'} {st st' st'' : St} {s s₁ s₂ s₃ s' s'' : Shared} {h h' : Heap} {I : Addr}
theorem RDs.stepF (S : Stp prog w hT fr ow al al' st st' s s') (hf : ∀ a ∈ ow, a ∈ fr) {v : List Value} {d : List D} (r : RDs al fr s.heap v d) : RDs al' fr s'.heap v d := by
 refine x12 S.pre ?_
 intro m1 e1 h1
 refine r.mono (fun b o n1 n2 e => ⟨S.kp.keep b o n1 (fun q => n2 (hf b q)) e, fun hx => ?_, n2⟩) fun k a e => S.get e
 rw [e1] at hx
 rcases List.mem_append.mp hx with hx | hx
 · exact n1 hx
 · exact Nat.lt_irrefl _ (Nat.lt_of_lt_of_le (Heap.lt_size e) (h1 b hx))
theorem Stp.notNew (S : Stp prog w hT fr ow al al' st st' s s') {a : Addr} {o : Obj} (n : a ∉ al) (e : s.heap.get? a = some o) : a ∉ al' := by
 refine x12 S.pre ?_
 intro more q hm
 rw [q]
 intro x
 rcases List.mem_append.mp x with x | x
 · exact n x
 · exact Nat.lt_irrefl _ (Nat.lt_of_lt_of_le (Heap.lt_size e) (hm a x))
theorem SrcOk.step (S : Stp prog w hT fr ow al al' st st' s s') (hf : ∀ a ∈ ow, a ∈ fr) (hI : I ∉ ow) (hA : I ∉ al) {src : Src} (k : SrcOk prog w al fr st s.heap I src) : SrcOk prog w al' fr st' s'.heap I src := by
 have ki : ∀ o, s.heap.get? I = some o → s'.heap.get? I = some o := fun o e => S.kp.keep I o hA hI e
 cases k with
 | seq a vs i rest h1 h2 h3 h4 h5 =>
  refine x11 (id h4) ?_
  intro c hc
  exact .seq a vs i rest (h1.at ki) (S.notNew h2 hc) h3 (h4.at fun o e => S.kp.keep a o h2 (fun q => h3 (hf a q)) e) (h5.stepF S hf)
 | str x t i h1 => obtain ⟨o, ho, r⟩ := h1; exact .str x t i ⟨o, ki o ho, r⟩
 | rng a b left h1 h2 h3 => exact .rng a b left (ki _ h1) h2 h3
 | mlist k v i a h1 h2 => exact .mlist k v i a (S.get h1) (h2.at ki)
 | items k v i d h1 h2 h3 =>
  refine x22 h2 ?_
  clear h2
  intro v0 mo e0 le
  refine x23 (S.kp.ver k v0 mo e0) ?_
  intro v' mo' e' le' same
  refine .items k v i d (S.get h1) (m22 v' mo' e' (Nat.le_trans le le')) fun es e => ?_
  rw [e'] at e
  cases e
  have hv : v0 = v := Nat.le_antisymm le' le
  subst hv
  refine x02 (same rfl) ?_
  intro eq0 kd
  subst eq0
  refine x44 (h3 es e0) ?_
  intro kvs ep ok ov q1 q2 q3 q4
  exact (m44 kvs ep ok ov (ki _ q1) (q2.at' fun o z => kd d o h1 z) q3 (q4.stepF S hf))
noncomputable def isItems : Src → Bool
 | .items .. => true
 | _ => false
noncomputable def srcTgt (src : Src) (t : Expr) : Bool := (!isItems src && isName t) || vTup (fun j => true) t
theorem go_plain {t : Expr} {v : Value} {E : Value → Shared → Prop} {s : Shared} {Q : Unit → Shared → Prop} {o : Obj} {T : String} {src : Src} (ht : srcTgt src t = true) (ho : s.heap.get? I = some o) (hc : o.cls = .type T)
  (hT : ["enumerate", "zip", "dict_itemiterator", "dict_reverseitemiterator", "odict_iterator", "itertools.zip_longest", "itertools.pairwise"].contains T = false) (q : Q () s) : wpAny (model prog w) A (letOwnedTupleGo t (.ref I) v) Q E s := by
 rcases orI ht with ht | ht
 · refine x21 (isName_inv (both ht).2) ?_
   intro id p eq2
   subst eq2
   exact wpAny_pure q
 · refine vTup_e ht fun es k p jj => ?_
   induction v using Value.casesOn with
   | ref a =>
    unfold letOwnedTupleGo
    refine wpAny_bind (wpAny_load ho ?_)
    rw [hc]
    split
    · rename_i n vs e1 e2
      cases e1
      rw [hT]
      exact wpAny_pure q
    · exact wpAny_pure q
   | _ => exact wpAny_pure q
theorem isInt_of {k : Int} {v : Value} (h : (intKind prog w).is k v = true) : ∃ t, v = .int k t := by
 induction v using Value.casesOn <;> simp [intKind, Value.isInt] at h
 exact ⟨_, by rw [h]⟩
noncomputable def NextPost (prog : Program) (w : World) (hT : Heap) (A : Around) (al fr : List Addr) (st : St) (I : Addr) (tgt : Expr) (s : Shared) (r : Option (D × Src)) (x : Option Value) (s' : Shared) : Prop := match r with
 | none => x = none ∧ Stp prog w hT fr [I] al al st st s s'
 | some (d, src') => ∃ v, x = some v ∧ wpAny (model prog w) A (letOwnedTupleGo tgt (.ref I) v) (fun j s'' => Stp prog w hT fr [I] al al st st s s'' ∧ RD al fr s''.heap v d ∧ SrcOk prog w al fr st s''.heap I src' ∧ srcTgt src' tgt = true) FF s'
theorem nextS_ok (hh : A.handled = none) (S : Sto prog w hT al fr st s.heap) (hI : I ∈ fr) {src : Src} (k : SrcOk prog w al fr st s.heap I src) {r : Option (D × Src)} (e : nextS st src = some r) {tgt : Expr} (ht : srcTgt src tgt = true) :
  wpAny (model prog w) A (pyNext (.ref I)) (NextPost prog w hT A al fr st I tgt s r) FF s := by
 have nI : I ∉ al := fun q => S.dj I q hI
 have sub : ∀ a ∈ [I], a ∈ fr := fun a ha => by rw [List.mem_singleton.mp ha]; exact hI
 have aI : ∀ {x : Addr}, x ∉ fr → x ≠ I := fun hx q => hx (q ▸ hI)
 have ends : ∀ {P : (∀ (Q : Option Value → Shared → Prop), (∀ h', Heap.ExtBut I s.heap h' → Q none { s with heap := h' }) → wpAny (model prog w) A (pyNext (.ref I)) Q FF s)},
   wpAny (model prog w) A (pyNext (.ref I)) (fun x s' => x = none ∧ Stp prog w hT fr [I] al al st st s s') FF s := fun {P} =>
  with_size (P _ fun h' hx hz => ⟨rfl, Stp.but (htk := Nat.le_refl _) S hI hz hx⟩)
 cases k with
 | seq a vs i rest h1 h2 h3 h4 h5 =>
  have seqT : srcTgt (.pure []) tgt = true := ht
  induction rest using List.casesOn with
  | nil =>
   have e := so e
   subst e
   have hx : vs.toArray[i]? = none := by
    have := h5.length
    simp at this
    have le : vs.length ≤ i := by exact Nat.le_of_sub_eq_zero ‹_›
    simpa using le
   exact ends (P := fun Q q => wpAny_pyNext_list_end hh h1 h4.isList hx q)
  | cons d rest =>
   have e := so e
   subst e
   cases hv : vs.drop i with
   | nil => rw [hv] at h5; cases h5
   | cons v r =>
    rw [hv] at h5
    cases h5 with
    | cons p q =>
     have hi : i < vs.length := by
      rcases Nat.lt_or_ge i vs.length with z | z
      · exact z
      · rw [List.drop_eq_nil_of_le z] at hv; contradiction
     have hx : vs.toArray[i]? = some v := by
      have := List.drop_eq_getElem_cons hi
      rw [hv] at this
      injection this with q1 q2
      simp [List.getElem?_eq_getElem hi, q1]
     have hr : vs.drop (i + 1) = r := by
      have := List.drop_eq_getElem_cons hi
      rw [hv] at this
      injection this with q1 q2
      exact q2.symm
     refine wpAny_pyNext_list_item h1 h4.isList hx fun h' hit hsb => ⟨v, rfl, ?_⟩
     refine x13 (id hit) ?_
     intro o ho hc hd
     have S1 := Stp.but (htk := Nat.le_refl _) (tk := s.toks) S hI (Nat.le_of_eq hsb.1.symm) hsb.extBut
     refine go_plain ht ho hc (by decide) (m04 S1 (p.stepF S1 sub) ?_ seqT)
     exact .seq a vs (i + 1) rest hit h2 h3 (h4.at fun o e => hsb.extBut a o (aI h3) e) (hr ▸ q.stepF S1 sub)
 | str x t i h1 =>
  have seqT : srcTgt (.pure []) tgt = true := ht
  cases hv : x.drop i with
  | nil =>
   rw [hv] at e
   have e := so e
   subst e
   have hx : (⟨x.toArray⟩ : Str).cps[i]? = none := by
    have : x.length ≤ i := by
     have := congrArg List.length hv
     simp at this; exact Nat.le_of_sub_eq_zero ‹_›
    simpa using this
   exact ends (P := fun Q q => wpAny_pyNext_ascii_end hh h1 hx q)
  | cons c r =>
   rw [hv] at e
   have e := so e
   subst e
   have hi : i < x.length := by
    rcases Nat.lt_or_ge i x.length with z | z
    · exact z
    · rw [List.drop_eq_nil_of_le z] at hv; contradiction
   have q0 := List.drop_eq_getElem_cons hi
   rw [hv] at q0
   injection q0 with q1 q2
   have hx : (⟨x.toArray⟩ : Str).cps[i]? = some c := by simp [List.getElem?_eq_getElem hi, q1]
   refine wpAny_pyNext_ascii_item h1 hx fun h' hit hsb => ⟨_, rfl, ?_⟩
   refine x13 (id hit) ?_
   intro o ho hc hd
   have S1 := Stp.but (htk := Nat.le_succ _) (tk := s.toks + 1) S hI (Nat.le_of_eq hsb.1.symm) hsb.extBut
   refine go_plain ht ho hc (by decide) (m04 S1 (.str [c] _) ?_ seqT)
   rw [q2]
   exact .str x t (i + 1) hit
 | rng a b left h1 h2 h3 =>
  have seqT : srcTgt (.pure []) tgt = true := ht
  replace e : (match ltInt a b with | true => some (some (D.int a, Src.rng (a + 1) b)) | false => some none) = some r := e
  cases z : ltInt a b with
  | true =>
   rw [z] at e
   have e := so e
   subst e
   have z : a < b := by rw [ltInt_eq] at z; exact of_decide_eq_true z
   have hl := h3 z
   refine wpAny_pyNext_range_item h1 (h2.mpr z) fun h' hit hsb => ⟨_, rfl, ?_⟩
   have S1 := Stp.but (htk := Nat.le_succ _) (tk := s.toks + 1) S hI (Nat.le_of_eq hsb.1.symm) hsb.extBut
   refine go_plain ht hit rfl (by decide) (m04 S1 (.int a _) ?_ seqT)
   exact .rng (a + 1) b (left - 1) hit (by omega) (by lia)
  | false =>
   rw [z] at e
   have e := so e
   subst e
   have z : ¬ a < b := by rw [ltInt_eq] at z; exact of_decide_eq_false z
   exact ends (P := fun Q q => wpAny_pyNext_range_end hh h1 (Int.not_lt.mp fun y => z (h2.mp y)) q)
 | mlist k v i a h1 h2 =>
  have seqT : srcTgt (.pure []) tgt = true := ht
  have am := List.mem_of_getElem? h1
  have ai : a ≠ I := fun q => nI (q ▸ am)
  replace e : (match lk k st.mu with
   | some (u, .list xs) => match Nat.beq u v with
    | true => match nthD xs i with
     | some d => some (some (d, Src.mlist k v (i + 1)))
     | none => some none
    | false => none
   | _ => none) = some r := e
  cases z : lk k st.mu with
  | none => rw [z] at e; exact no e
  | some p =>
   obtain ⟨u, mo⟩ := p
   rw [z] at e
   induction mo using MO.casesOn with
   | list xs =>
    obtain ⟨a', ha', vs, hl, ru⟩ := S.mu k u _ z
    rw [h1] at ha'
    have ha' := so ha'
    subst ha'
    refine x02 (ifI e) ?_
    try clear e
    intro _ e
    cases z2 : nthD xs i with
    | some d =>
     rw [z2] at e
     have e := so e
     subst e
     refine x12 (ru.nth z2) ?_
     intro v' hv' rv
     refine wpAny_pyNext_list_item h2 hl.isList (by simpa using hv') fun h' hit hsb => ⟨v', rfl, ?_⟩
     refine x13 (id hit) ?_
     intro o ho hc hd
     have S1 := Stp.but (htk := Nat.le_refl _) (tk := s.toks) S hI (Nat.le_of_eq hsb.1.symm) hsb.extBut
     exact go_plain ht ho hc (by decide) (m04 S1 (rv.stepF S1 sub) (.mlist k v (i + 1) a h1 hit) seqT)
    | none =>
     rw [z2] at e
     have e := so e
     subst e
     have := ru.out z2
     exact ends (P := fun Q q => wpAny_pyNext_list_end hh h2 hl.isList (by simpa using this) q)
   | _ => exact no e
 | items k v i d h1 h2 h3 =>
  have dm := List.mem_of_getElem? h1
  have dI : d ≠ I := fun q => nI (q ▸ dm)
  replace e : (match lk k st.mu with
   | some (u, .dic es) => match Nat.beq u v with
    | true => match es[i]? with
     | some (a, d) => some (some (D.tup [.int a, d], Src.items k v (i + 1)))
     | none => some none
    | false => none
   | _ => none) = some r := e
  cases z : lk k st.mu with
  | none => rw [z] at e; exact no e
  | some p =>
   obtain ⟨u, mo⟩ := p
   rw [z] at e
   induction mo using MO.casesOn with
   | dic es =>
    refine x02 (ifI e) ?_
    try clear e
    intro z1 e
    have z1 := Nat.eq_of_beq_eq_true z1
    subst z1
    refine x44 (h3 es z) ?_
    intro kvs ep ok ov q1 q2 q3 q4
    have ln := len_of q3
    cases z2 : es[i]? with
    | some p =>
     obtain ⟨a, dd⟩ := p
     rw [z2] at e
     have e := so e
     subst e
     have hi : i < es.length := by
      obtain ⟨hl, _⟩ := List.getElem?_eq_some_iff.mp z2
      exact hl
     have hk : i < kvs.length := by rw [ln]; exact hi
     have ek : kvs[i].1 = a := by
      have := congrArg (·[i]?) q3
      simp [List.getElem?_map, List.getElem?_eq_getElem hk, z2] at this
      exact this
     have rx : RD al fr s.heap kvs[i].2 dd := by
      have := q4.at i (by simpa using hk) (by simpa using hi)
      have e1 : es[i] = (a, dd) := by
       have := List.getElem?_eq_getElem hi
       rw [z2] at this
       exact (Option.some.inj this).symm
      simpa [e1] using this
     refine wpAny_pyNext_items_item q1 q2 (List.getElem?_eq_getElem hk) fun key h' hkey ho hT hsz hkp => ⟨_, rfl, ?_⟩
     refine vTup_e (show vTup (fun j => true) tgt = true from ht) fun elts kk pos jj => ?_
     refine wpAny_letOwnedTupleGo_items ho fun h'' he hs => ?_
     refine x11 (isInt_of hkey) ?_
     intro t eq1
     subst eq1
     have kk : Heap.ExtBut I s.heap h'' := fun b o hb e => hs.extBut b o hb (hkp b o hb e)
     have hz : s.heap.objs.size ≤ h''.objs.size := by rw [hs.1]; show s.heap.objs.size ≤ h'.objs.size; simp only [*, Nat.le_add_right]
     have S1 := Stp.but (htk := Nat.le_refl _) (tk := s.toks) S hI hz kk
     have nf := S.fresh (Nat.le_refl s.heap.objs.size)
     refine (m04 S1 (.tup _ [_, _] [.int a, dd] nf.1 nf.2 ⟨_, hs.extBut _ _ (Nat.ne_of_gt (Heap.lt_size q1)) hT, rfl, _, rfl⟩ (.cons (ek ▸ .int _ _) (.cons (rx.stepF S1 sub) .nil))) ?_ (Bool.or_eq_true_iff.mpr (.inr vTup_mk)))
     refine .items k u (i + 1) d h1 (m22 u _ z (Nat.le_refl _)) fun es' e' => ?_
     rw [z] at e'
     have e' := (ou e').2
     injection e' with e'
     subst e'
     exact (m44 kvs ep _ _ he (q2.at' fun o e => kk d o dI e) q3 (q4.stepF S1 sub))
    | none =>
     rw [z2] at e
     have e := so e
     subst e
     have : kvs[i]? = none := by
      have := List.getElem?_eq_none_iff.mp z2
      simp; simp only [*, Nat.le_add_right]
     exact ends (P := fun Q q => wpAny_pyNext_items_end hh q1 q2 this q)
   | _ => exact no e
end
end Mine
end
noncomputable section
open PySem PySem.W PyProof.Rows PySem.Spec PySem.Calls
namespace Mine
variable [Val]
section
variable {prog : Program} {w : World} {G : Nms} {nm : Nat → Str} {hT : Heap} {n : Nat} {A : Around} {env : Env} {sc : Scope} {al al' al'' fr fr' N ow ow' : List Addr} {ρ : Env'} {st st' st'' : St} {s s₁ s₂ s₃ s' s'' : Shared} {h h' : Heap} {I : Addr}
theorem EnvOk.fence (Ev : EnvOk nm env sc al fr ow ρ h) (S : Sto prog w hT al fr st h) (k : ∀ b o, h.get? b = some o → h'.get? b = some o) (hN : ∀ a ∈ N, h.objs.size ≤ a) : EnvOk nm env sc al (N ++ fr) ow ρ h' :=
 Ev.to (fun j j r => r.fence S k hN) (fun b o j e => k b o e) (fun a ha => List.mem_append.mpr (.inr (Ev.sub a ha))) fun x c e => List.mem_append.mpr (.inr (Ev.cfr x c e).1)
theorem RDs.fence (k : ∀ b o, h.get? b = some o → h'.get? b = some o) (hN : ∀ a ∈ N, h.objs.size ≤ a) {v : List Value} {d : List D} (r : RDs al fr h v d) : RDs al (N ++ fr) h' v d :=
 r.mono (fun b o n1 n2 e => ⟨k b o e, n1, fun q => by
  rcases List.mem_append.mp q with q | q
  · exact Nat.lt_irrefl _ (Nat.lt_of_lt_of_le (Heap.lt_size e) (hN b q))
  · exact n2 q⟩) fun j j e => e
structure SrcPost (prog : Program) (w : World) (nm : Nat → Str) (hT : Heap) (env : Env) (sc : Scope) (al fr ow : List Addr) (ρ : Env') (st st' : St) (s : Shared) (src : Src) (it : Value) (I : Addr) (al' : List Addr) (s₂ : Shared) : Prop where
 is : it = .ref I
 stp : Stp prog w hT fr [] al al' st st' s s₂
 lo : s.heap.objs.size ≤ I
 lt : I < s₂.heap.objs.size
 nal : I ∉ al'
 sto : Sto prog w hT al' (I :: fr) st' s₂.heap
 env : EnvOk nm env sc al' (I :: fr) ow ρ s₂.heap
 src : SrcOk prog w al' (I :: fr) st' s₂.heap I src
 self : ∀ (A' : Around) (Q : Value → Shared → Prop) (E : Value → Shared → Prop) (s' : Shared), (∀ o, s₂.heap.get? I = some o → s'.heap.get? I = some o) → Q (.ref I) s' → wpAny (model prog w) A' (pyIter (.ref I)) Q E s'
noncomputable def SrcMade (prog : Program) (w : World) (nm : Nat → Str) (hT : Heap) (env : Env) (sc : Scope) (al fr ow : List Addr) (ρ : Env') (st st' : St) (s : Shared) (src : Src) (it : Value) (s₂ : Shared) : Prop :=
 ∃ I al', SrcPost prog w nm hT env sc al fr ow ρ st st' s src it I al' s₂
theorem src_push {o : Obj} {tk : Nat} {src : Src} (Ev : EnvOk nm env sc al' fr ow ρ s₁.heap) (S1 : Stp prog w hT fr [] al al' st st' s s₁)
  (src_ok : SrcOk prog w al' (s₁.heap.objs.size :: fr) st' (s₁.heap.push o) s₁.heap.objs.size src)
  (self : ∀ (A' : Around) (Q : Value → Shared → Prop) (E : Value → Shared → Prop) (s' : Shared), s'.heap.get? s₁.heap.objs.size = some o → Q (.ref s₁.heap.objs.size) s' → wpAny (model prog w) A' (pyIter (.ref s₁.heap.objs.size)) Q E s') (nf : o.isFreed = false) (htk : s₁.toks ≤ tk := by trivial) :
  SrcMade prog w nm hT env sc al fr ow ρ st st' s src (.ref s₁.heap.objs.size) { s₁ with heap := s₁.heap.push o, toks := tk } := by
 have kk : ∀ b x, s₁.heap.get? b = some x → (s₁.heap.push o).get? b = some x := fun b x e => Heap.get?_push_of_some o e
 have hN : ∀ a ∈ [s₁.heap.objs.size], s₁.heap.objs.size ≤ a := fun a ha => by rw [List.mem_singleton.mp ha]; exact Nat.le_refl _
 have lt : s₁.heap.objs.size < (s₁.heap.push o).objs.size := by rw [Heap.size_push]; exact Nat.lt_succ_self _
 refine ⟨_, al', rfl, S1.trans (Stp.push S1.sto), S1.kp.sz, lt, (S1.sto.fresh (Nat.le_refl _)).1, ?_, Ev.fence S1.sto kk hN, src_ok, fun A' Q E s' k q => self A' Q E s' (k o (Heap.get?_push_size _ nf)) q⟩
 exact S1.sto.fence kk (Nat.le_of_lt lt) fun a ha => ⟨hN a ha, by rw [List.mem_singleton.mp ha]; exact lt⟩
theorem asciiD_all : ∀ {x : List Nat}, asciiD x = true → x.all (· < 128) = true
 | [], _ => rfl
 | c :: r, e => by
  simp only [asciiD, Bool.and_eq_true] at e
  rw [List.all_cons, asciiD_all e.2, Bool.and_true]
  exact decide_eq_true (Nat.le_of_ble_eq_true e.1)
theorem small_of {a b : Int} (ha : smallI a = true) (hb : smallI b = true) : Builtin.Range.small a b 1 = true := by
 have h1 := smallI_le ha
 have h2 := smallI_le hb
 unfold Builtin.Range.small
 rw [rangeSize_one]
 have fl : ∀ i : Int, -(2 ^ 63) ≤ i → i < 2 ^ 63 → Builtin.Range.rangeFitsLong i = true := fun i x y => by
  unfold Builtin.Range.rangeFitsLong
  rw [decide_eq_true x, decide_eq_true y]; rfl
 have f1 := fl a (by lia) (by exact Int.lt_of_le_of_lt (And.right ‹_›) (by decide))
 have f2 := fl b (by lia) (by exact Int.lt_of_le_of_lt (And.right ‹_›) (by decide))
 have f3 := fl 1 (by exact Int.natCast_nonneg _) (by exact Int.natCast_nonneg _)
 have f4 := fl (if a < b then b - a else 0) (by split <;> lia) (by split <;> omega)
 have f5 := fl (b + (1 - 1)) (by lia) (by lia)
 rw [f1, f2, f3, f4, f5]
 simp
theorem range_made {r : Addr} {a b : Int} {t u v : Tok} (ha : smallI a = true) (hb : smallI b = true) (hr : IsRange s₁.heap r a b 1 t u v) (Ev : EnvOk nm env sc al' fr ow ρ s₁.heap) (S1 : Stp prog w hT fr [] al al' st st' s s₁) :
  wpAny (model prog w) A (pyIter (.ref r)) (SrcMade prog w nm hT env sc al fr ow ρ st st' s (.rng a b)) FF s₁ := by
 refine wpAny_pyIter_range hr (small_of ha hb) (src_push (htk := Nat.le_refl _) (tk := s₁.toks) Ev S1 ?_ (fun A' Q E s' k q => wpAny_pyIter_rangeiter k q) rfl)
 refine .rng a b _ (Heap.get?_push_size _ rfl) ?_ ?_
 · rw [rangeSize_one]; split <;> lia
 · intro lt; rw [rangeSize_one, if_pos lt]
theorem src_ok (B : Bis hT) {ev : Ev} (IH : EvOk prog w G hT n ev) (H : Here prog w G.v G.c hT n A env sc al fr ow ρ st s) {it : IT} {e : Expr} {src : Src} {f : Nat}
  (h : srcOf ev ρ st it = some (src, st')) (c : cIt (cE G f sc) sc it e = true) :
  wpAny (model prog w) A (eval e env) (fun x s₁ => wpAny (model prog w) A (pyIter x) (SrcMade prog w G.v hT env sc al fr ow ρ st st' s src) FF s₁) FF s := by
 have d0 : ((("range" : Str)) == ("__debug__" : Str)) = false := by decide
 induction it using IT.casesOn with
 | val x =>
  replace c := (both c).2
  replace h : (match ev ρ st x with
   | some (.list xs, st) => some (Src.pure xs, st)
   | some (.str s, st) => match asciiD s with | true => some (.pure (s.map fun c => .str [c]), st) | false => none
   | some (.ob k, st) => match lk k st.mu with | some (v, .list _) => some (.mlist k v 0, st) | _ => none
   | _ => none) = some (src, st') := h
  cases h1 : ev ρ st x with
  | none => rw [h1] at h; exact no h
  | some p =>
   obtain ⟨d, st1⟩ := p
   rw [h1] at h
   induction d using D.casesOn with
   | list xs =>
    refine ouK h ?_
    refine wpAny_mono (IH h1 c H) (fun v s1 pp => x12 pp fun al1 S1 r1 => ?_) fun j j q => q
    refine x25 r1.to ?_
    intro a vs eq2 n1 n2 hl r
    subst eq2
    have ha : a < s1.heap.objs.size := by obtain ⟨_, e⟩ := hl; exact Heap.lt_size e
    have kk : ∀ b x, s1.heap.get? b = some x → (s1.heap.push { cls := .type "list_iterator", data := .fields #[.ref a, .int 0 0] }).get? b = some x := fun b x e => Heap.get?_push_of_some _ e
    refine wpAny_pyIter_list hl.isList (src_push (htk := Nat.le_refl _) (tk := s1.toks) (H.env.step H.sto S1) S1 ?_ (fun A' Q E s' k q => wpAny_pyIter_listiter ⟨_, k, rfl, rfl⟩ q) rfl)
    refine .seq a vs 0 xs ⟨_, Heap.get?_push_size _ rfl, rfl, rfl⟩ n1 (fun q => ?_) (hl.at fun o e => kk a o e) (by rw [List.drop_zero]; exact r.fence (N := [s1.heap.objs.size]) kk fun a ha => by rw [List.mem_singleton.mp ha]; exact Nat.le_refl _)
    rcases List.mem_cons.mp q with q | q
    · exact Nat.ne_of_lt ha q
    · exact n2 q
   | str x' =>
    refine x02 (ifI h) ?_
    try clear h
    intro z h
    refine ouK h ?_
    refine wpAny_mono (IH h1 c H) (fun v s1 pp => x12 pp fun al1 S1 r1 => ?_) fun j j q => q
    refine x11 r1.to ?_
    intro t eq1
    subst eq1
    refine wpAny_pyIter_ascii (by simpa using asciiD_all z) (src_push (htk := Nat.le_refl _) (tk := s1.toks) (H.env.step H.sto S1) S1 ?_ (fun A' Q E s' k q => wpAny_pyIter_striter_ascii ⟨_, k, rfl, rfl⟩ q) rfl)
    exact .str x' t 0 ⟨_, Heap.get?_push_size _ rfl, rfl, rfl⟩
   | ob k =>
    replace h : (match lk k st1.mu with | some (v, .list _) => some (Src.mlist k v 0, st1) | _ => none) = some (src, st') := h
    cases z : lk k st1.mu with
    | none => rw [z] at h; exact no h
    | some p =>
     obtain ⟨v, mo⟩ := p
     rw [z] at h
     induction mo using MO.casesOn with
     | list xs =>
      refine ouK h ?_
      refine wpAny_mono (IH h1 c H) (fun v' s1 pp => x12 pp fun al1 S1 r1 => ?_) fun j j q => q
      refine x12 r1.to ?_
      intro a eq1 ha
      subst eq1
      obtain ⟨a', ha', vs, hl, r⟩ := S1.sto.mu k v _ z
      rw [ha] at ha'
      have ha' := so ha'
      subst ha'
      refine wpAny_pyIter_list hl.isList (src_push (htk := Nat.le_refl _) (tk := s1.toks) (H.env.step H.sto S1) S1 ?_ (fun A' Q E s' k q => wpAny_pyIter_listiter ⟨_, k, rfl, rfl⟩ q) rfl)
      exact .mlist k v 0 a ha ⟨_, Heap.get?_push_size _ rfl, rfl, rfl⟩
     | _ => exact no h
   | _ => exact no h
 | rng a b =>
  induction a using Option.casesOn with
  | none =>
   refine vCN_e c fun id p1 es p2 c => ?_
   refine v1_e c fun eb c => ?_
   refine b4 c ?_
   clear c
   intro c1 c2 c3 c4
   have c1 := beq_str c1
   subst c1
   refine x22 (oIS h) ?_
   try clear h
   intro b st1 h1 h
   refine x02 (ifI h) ?_
   try clear h
   intro z h
   refine ouK h ?_
   refine call_name H c2 d0 B.rng (PyProof.Rows.callWith_type (first := []) (by rw [starEach_cons c3]; rfl) ?_)
   rw [starEach_cons c3]
   refine evalArgs_plain (spliced_cons (wpAny_mono (IH h1 c4 H) (fun v s1 pp => x12 pp fun al1 S1 r1 => spliced_nil ?_) fun j j q => q))
   refine x11 r1.to ?_
   intro t eq1
   subst eq1
   refine call_range_1 ?_
   have S2 := Stp.push (htk := by first | exact Nat.le_refl _ | lia | omega) (prog := prog) (w := w) (o := { cls := .type "range", data := .fields #[.int 0 s1.toks, .int b t, .int 1 (s1.toks + 1)] }) (tk := s1.toks + 1 + 1) S1.sto
   exact range_made (by decide) z (Heap.get?_push_size _ rfl) ((H.env.step H.sto S1).step S1.sto S2) (S1.trans S2)
  | some a =>
   refine vCN_e c fun id p1 es p2 c => ?_
   refine v2_e c fun ea eb c => ?_
   refine b6 c ?_
   clear c
   intro c1 c2 c3 c3' c4 c5
   have c1 := beq_str c1
   subst c1
   refine x22 (oIS h) ?_
   try clear h
   intro a st1 h1 h
   refine x22 (oIS h) ?_
   try clear h
   intro b st2 h2 h
   refine x02 (ifI h) ?_
   try clear h
   intro z h
   refine ouK h ?_
   refine x02 (Bool.and_eq_true_iff.mp z) ?_
   intro z1 z2
   refine call_name H c2 d0 B.rng (PyProof.Rows.callWith_type (first := []) (by rw [starEach_cons c3, starEach_cons c3']; rfl) ?_)
   rw [starEach_cons c3, starEach_cons c3']
   refine evalArgs_plain (spliced_cons (wpAny_mono (IH h1 c4 H) (fun v s1 pp => x12 pp fun al1 S1 r1 => spliced_cons ?_) fun j j q => q))
   refine wpAny_mono (IH h2 c5 (H.step S1)) (fun u s2 pp => x12 pp fun al2 S2 r2 => spliced_nil ?_) fun j j q => q
   refine x11 r1.to ?_
   intro t eq1
   subst eq1
   refine x11 r2.to ?_
   intro t2 eq1
   subst eq1
   refine call_range_2 ?_
   have S3 := Stp.push (htk := Nat.le_succ _) (prog := prog) (w := w) (o := { cls := .type "range", data := .fields #[.int a t, .int b t2, .int 1 s2.toks] }) (tk := s2.toks + 1) S2.sto
   have S12 := S1.trans S2
   exact range_made z1 z2 (Heap.get?_push_size _ rfl) ((H.env.step H.sto S12).step S2.sto S3) (S12.trans S3)
 | items x =>
  refine vCA_e c fun oe name apos es pos c => ?_
  replace c := both c
  refine x02 c ?_
  clear c
  intro c0 c
  replace c0 := v0_inv c0
  subst c0
  refine b4 c ?_
  clear c
  intro c1 c2 c3 c4
  have c1 := beq_str c1
  subst c1
  replace h : (match ev ρ st x with
   | some (.ob k, st) => match lk k st.mu with | some (v, .dic _) => some (Src.items k v 0, st) | _ => none
   | _ => none) = some (src, st') := h
  cases h1 : ev ρ st x with
  | none => rw [h1] at h; exact no h
  | some p =>
   obtain ⟨d, st1⟩ := p
   rw [h1] at h
   induction d using D.casesOn with
   | ob k =>
    replace h : (match lk k st1.mu with | some (v, .dic _) => some (Src.items k v 0, st1) | _ => none) = some (src, st') := h
    cases z : lk k st1.mu with
    | none => rw [z] at h; exact no h
    | some p =>
     obtain ⟨v, mo⟩ := p
     rw [z] at h
     induction mo using MO.casesOn with
     | dic es =>
      refine ouK h ?_
      refine wpAny_Call_method0_late (notCall_base c2) c3 (wpAny_mono (IH h1 c4 H) (fun v' s1 pp => x12 pp fun al1 S1 r1 => ?_) fun j j q => q)
      refine x12 r1.to ?_
      intro d eq1 hd
      subst eq1
      obtain ⟨d', hd', kvs, ho, ek, r⟩ := S1.sto.mu k v _ z
      rw [hd] at hd'
      have hd' := so hd'
      subst hd'
      have hds := top_ne S1.sto B.sysm (List.mem_of_getElem? hd)
      refine ⟨"dict", "dict.items", F.plainAttrs_dict, F.slot_dict_items, F.type_dict_items, ho.typeIs, fun a q => ?_, ?_⟩
      · injection q with q
        subst q
        refine x33 ho ?_
        clear ho
        intro o _ _ h1 h2 _
        exact (m12 o h1 h2.2.1)
      · refine Calls.callWith_builtin rfl (evalArgs_nil3 ?_)
        refine call_meetsIn PySem.F.slot_dict_items ho.typeIs PySem.F.entry_dict_items (PySem.F.args_dict_items_1 _) (meets_dict_items (intKind prog w) d hds) ⟨⟨kvs, ho⟩, ?_⟩
        refine x11 ho.dictAt ?_
        intro ep hat
        have S2 := Stp.push (htk := Nat.le_refl _) (prog := prog) (w := w) (o := { cls := .type "dict_items", data := .fields #[.ref d] }) (tk := s1.toks) S1.sto
        have up : ∀ o, s1.heap.get? d = some o → (s1.heap.push { cls := .type "dict_items", data := .fields #[.ref d] }).get? d = some o := fun o e => Heap.get?_push_of_some _ e
        refine wpAny_pyIter_items (kvs := kvs) (ep := ep) ⟨_, Heap.get?_push_size _ rfl, rfl, rfl⟩ (hat.at' up) (src_push (htk := by first | exact Nat.le_refl _ | lia | omega) (tk := s1.toks) ((H.env.step H.sto S1).step S1.sto S2) (S1.trans S2) ?_ (fun A' Q E s' k q => kcp_self k q) rfl)
        refine .items k v 0 d hd (m22 v _ z (Nat.le_refl _)) fun es' e' => ?_
        rw [z] at e'
        have e' := (ou e').2
        injection e' with e'
        subst e'
        refine (m44 kvs ep .none .none (Heap.get?_push_size _ rfl) ((hat.at' up).at' (fun o e => Heap.get?_push_of_some _ e)) ek ?_)
        exact (r.step S2).fence (N := [_]) (fun b o e => Heap.get?_push_of_some _ e) fun a ha => by rw [List.mem_singleton.mp ha]; exact Nat.le_refl _
     | _ => exact no h
   | _ => exact no h
end
end Mine
end
noncomputable section
open PySem PySem.W PyProof.Rows PySem.Spec PySem.Calls
namespace Mine
variable [Val]
section
variable {prog : Program} {w : World} {G : Nms} {nm : Nat → Str} {CC : Scope → Value → Prop} {hT : Heap} {n : Nat} {A : Around} {env : Env} {sc : Scope} {al al' al'' fr fr' N ow ow' : List Addr} {ρ ρ' : Env'} {st st' st'' : St} {s s₁ s₂ s₃ s' s'' : Shared} {h h' : Heap} {I : Addr}
theorem EnvOk.ext (Ev : EnvOk nm env sc al fr ow ρ h) (e : ∀ i d, lk i ρ' = some (some d) → lk i ρ = some (some d)) : EnvOk nm env sc al fr ow ρ' h := by
 refine { Ev with ns := ?_, cv := fun i d q => Ev.cv i d (e i d q) }
 refine x12 Ev.ns ?_
 intro m hm hv
 exact (m12 m hm (fun i d q => hv i d (e i d q)))
theorem Here.turn (H : Here prog w nm CC hT n A env sc al fr ow ρ st s) {o : List Addr} {al0 : List Addr} {st0 : St} (S : Stp prog w hT fr' o al0 al' st0 st' s s') (E : EnvOk nm env sc al' fr' ow' ρ' s'.heap) : Here prog w nm CC hT n A env sc al' fr' ow' ρ' st' s' := ⟨H.hd, Nat.le_trans H.tk S.rest.tk, H.dp, H.un, S.sto, H.cd, E⟩
noncomputable def Stored (prog : Program) (w : World) (nm : Nat → Str) (hT : Heap) (env : Env) (sc : Scope) (al fr ow : List Addr) (ρ' : Env') (st : St) (s s' : Shared) : Prop :=
 Stp prog w hT fr ow al al st st s s' ∧ EnvOk nm env sc al fr ow ρ' s'.heap
theorem tgName_iff {i : Nat} {e : Expr} (c : tgName G sc i e = true) : ∃ pos, e = .Name (G.v i) pos ∧ isOwnK (sc.names.lookup (G.v i)) = true := by
 refine vName_e c fun id p c => ?_
 refine x02 (both c) ?_
 intro c1 c2
 have c1 := beq_str c1
 subst c1
 exact (m12 _ rfl c2)
theorem assign_name (NN : Names G.v) (H : Here prog w G.v G.c hT n A env sc al fr ow ρ st s) {i : Nat} {e : Expr} {v : Value} {d : D} (c : tgName G sc i e = true) (r : RD al fr s.heap v d) :
  wpAny (model prog w) A (assign e env v) (fun j s' => Stored prog w G.v hT env sc al fr ow (put i (some d) ρ) st s s') FF s := by
 refine x12 (tgName_iff c) ?_
 intro pos eq1 c2
 subst eq1
 exact wpAny_assign_Name (store_ok NN H c2 r)
theorem inorder_ok (NN : Names G.v) : ∀ {is : List Nat} {es : List Expr} {ds : List D} {vs : List Value} {ρ ρ' : Env'} {s : Shared}, bindL is ds ρ = some ρ' → tgNames G sc is es = true → RDs al fr s.heap vs ds → Here prog w G.v G.c hT n A env sc al fr ow ρ st s →
  wpAny (model prog w) A (assignInOrder ((assignEach es env).map (·.2)) vs) (fun j s' => Stored prog w G.v hT env sc al fr ow ρ' st s s') FF s
 | [], [], [], _, ρ, ρ', s, h, _, r, H => by
  have := r.to
  subst this
  have h := so h
  subst h
  exact wpAny_pure ⟨Stp.refl H.sto, H.env⟩
 | i :: is, e :: es, d :: ds, _, ρ, ρ', s, h, c, r, H => by
  replace r := r.to
  refine x23 r ?_
  clear r
  intro v vs eq2 p r
  subst eq2
  replace h : bindL is ds (put i (some d) ρ) = some ρ' := h
  replace c := both c
  refine x12 (tgName_iff c.1) ?_
  intro pos eq1 c2
  subst eq1
  show wpAny (model prog w) A (assignInOrder (assign (.Name (G.v i) pos) env :: (assignEach es env).map (·.2)) (v :: vs)) _ _ _
  refine assignInOrder_cons (wpAny_mono (assign_name NN H c.1 p) (fun j s1 pp => x02 pp fun S1 E1 => ?_) fun j j q => q)
  refine wpAny_mono (inorder_ok NN h c.2 (r.stepF S1 H.env.sub) (H.turn S1 E1)) (fun j s2 pp => x02 pp fun S2 E2 => ⟨S1.trans S2, E2⟩) fun j j q => q
 | [], [], _ :: _, _, _, _, _, h, _, _, _ => no h
 | [], _ :: _, _, _, _, _, _, _, c, _, _ => nb c
 | _ :: _, [], _, _, _, _, _, _, c, _, _ => nb c
 | _ :: _, _ :: _, [], _, _, _, _, h, _, _, _ => no h
theorem tgNames_len : ∀ {is : List Nat} {es : List Expr}, tgNames G sc is es = true → (assignEach es env).length = is.length ∧ (assignEach es env).findIdx? (·.1) = none
 | [], [], _ => ⟨rfl, rfl⟩
 | i :: is, e :: es, c => by
  replace c := both c
  refine x12 (tgName_iff c.1) ?_
  intro pos eq1 c2
  subst eq1
  have ih := tgNames_len c.2
  refine ⟨by show (_ :: assignEach es env).length = _; simp [ih.1], ?_⟩
  show List.findIdx? (·.1) ((false, assign (.Name (G.v i) pos) env) :: assignEach es env) = none
  rw [List.findIdx?_cons]
  simp [ih.2]
 | [], _ :: _, c => nb c
 | _ :: _, [], c => nb c
theorem bindL_len : ∀ {is : List Nat} {ds : List D} {ρ ρ' : Env'}, bindL is ds ρ = some ρ' → is.length = ds.length
 | [], [], _, _, _ => rfl
 | i :: is, d :: ds, ρ, ρ', h => by
  rw [List.length_cons, List.length_cons, bindL_len (ds := ds) h]
 | [], _ :: _, _, _, h => no h
 | _ :: _, [], _, _, h => no h
theorem unpack_ok (hh : A.handled = none) (S : Sto prog w hT al fr st s.heap) {t : Addr} {vs : List Value} (ht : s.heap.IsTuple t vs.toArray) {k : Nat} (hk : vs.length = k) {Q : List Value → Shared → Prop}
  (q : ∀ h', Stp prog w hT fr [] al al st st s { s with heap := h' } → Q vs { s with heap := h' }) : wpAny (model prog w) A (unpackItems (.ref t) k none) Q FF s := by
 subst hk
 have := with_size (wpAny_unpackItems_tuple (prog := prog) (w := w) (E := FF) (Q := fun xs s' => s.heap.objs.size ≤ s'.heap.objs.size → Q xs s') hh ht fun h' hx hz => q h' (Stp.grow (htk := Nat.le_refl _) S hz fun b o e => hx b o (Nat.ne_of_lt (Heap.lt_size e)) e))
 simpa using this
theorem assign_ok (NN : Names G.v) (H : Here prog w G.v G.c hT n A env sc al fr ow ρ st s) {t : Tgt} {e : Expr} {v : Value} {d : D} (b : bindT t d ρ = some ρ') (c : cTgt G sc t e = true) (r : RD al fr s.heap v d) :
  wpAny (model prog w) A (assign e env v) (fun j s' => Stored prog w G.v hT env sc al fr ow ρ' st s s') FF s := by
 induction t using Tgt.casesOn with
 | var i =>
  simp only [bindT] at b; cases b
  exact assign_name NN H c r
 | tup is =>
  refine vTup_e c fun es k pos c => ?_
  induction d using D.casesOn with
  | tup ds =>
   replace b : bindL is ds ρ = some ρ' := b
   replace r := r.to
   refine x25 r ?_
   clear r
   intro x vs eq2 n1 n2 hl r
   subst eq2
   rw [arm_assign_Tuple]
   have ln := tgNames_len (env := env) c
   have lb := bindL_len b
   refine wpAny_bind (wpAny_standAt ?_)
   unfold unpack
   rw [ln.1, ln.2]
   refine wpAny_bind (wpAny_holding (unpack_ok H.hd H.sto hl (by rw [r.length, lb]) fun h' S1 => ?_))
   exact wpAny_mono (inorder_ok NN b c (r.step S1) (H.step S1)) (fun j s2 pp => x02 pp fun S2 E2 => ⟨(S1.wide fun a ha => nomatch ha).trans S2, E2⟩) fun j j q => q
  | _ => exact no b
theorem bound_ok (NN : Names G.v) : ∀ {is : List Nat} {ds : List D} {vs : List Value} {ρ ρ' : Env'} {s : Shared}, bindL is ds ρ = some ρ' → (∀ i ∈ is, isOwnK (sc.names.lookup (G.v i)) = true) → RDs al fr s.heap vs ds → Here prog w G.v G.c hT n A env sc al fr ow ρ st s →
  wpAny (model prog w) A (assignInOrder (is.map fun i => bindName env (G.v i)) vs) (fun y s' => Stored prog w G.v hT env sc al fr ow ρ' st s s') FF s
 | [], [], _, ρ, ρ', s, h, _, r, H => by
  have := r.to
  subst this
  have h := so h
  subst h
  exact wpAny_pure ⟨Stp.refl H.sto, H.env⟩
 | i :: is, d :: ds, _, ρ, ρ', s, h, c, r, H => by
  replace r := r.to
  refine x23 r ?_
  clear r
  intro v vs eq2 p r
  subst eq2
  replace h : bindL is ds (put i (some d) ρ) = some ρ' := h
  show wpAny (model prog w) A (assignInOrder (bindName env (G.v i) :: is.map fun i => bindName env (G.v i)) (v :: vs)) _ _ _
  refine assignInOrder_cons (wpAny_bindName (wpAny_mono (store_ok NN H (c i List.mem_cons_self) p) (fun y s1 pp => x02 pp fun S1 E1 => ?_) fun y y q => q))
  refine wpAny_mono (bound_ok NN h (fun j hj => c j (List.mem_cons_of_mem _ hj)) (r.stepF S1 H.env.sub) (H.turn S1 E1)) (fun y s2 pp => x02 pp fun S2 E2 => ⟨S1.trans S2, E2⟩) fun y y q => q
 | [], _ :: _, _, _, _, _, h, _, _, _ => no h
 | _ :: _, [], _, _, _, _, h, _, _, _ => no h
theorem lk_bindL : ∀ {is : List Nat} {ds : List D} {ρ ρ' : Env'}, bindL is ds ρ = some ρ' → is.Nodup → ∀ (j : Nat), (∀ (k : Nat) (d : D), is[k]? = some j → ds[k]? = some d → lk j ρ' = some (some d)) ∧ (j ∉ is → lk j ρ' = lk j ρ)
 | [], [], ρ, ρ', h, _, j => by have h := so h; subst h; exact ⟨fun k d e => by simp at e, fun z => rfl⟩
 | i :: is, d :: ds, ρ, ρ', h, nd, j => by
  replace h : bindL is ds (put i (some d) ρ) = some ρ' := h
  rw [List.nodup_cons] at nd
  refine x02 (lk_bindL h nd.2 j) ?_
  intro h1 h2
  refine ⟨fun k e x y => ?_, fun hj => ?_⟩
  · induction k using Nat.casesOn with
    | zero =>
     simp at x y
     subst x y
     rw [h2 nd.1, lk_put, if_pos rfl]
    | succ k => exact h1 k e (by simpa using x) (by simpa using y)
  · rw [List.mem_cons, not_or] at hj
    rw [h2 hj.2, lk_put, if_neg (Ne.symm hj.1)]
 | [], _ :: _, _, _, h, _, _ => no h
 | _ :: _, [], _, _, h, _, _ => no h
theorem bindL_some : ∀ {is : List Nat} {ds : List D} {ρ : Env'}, is.length = ds.length → ∃ ρ', bindL is ds ρ = some ρ'
 | [], [], ρ, _ => ⟨ρ, rfl⟩
 | i :: is, d :: ds, ρ, h => bindL_some (is := is) (ds := ds) (ρ := put i (some d) ρ) (Nat.succ.inj h)
 | [], _ :: _, _, h => by simp at h
 | _ :: _, [], _, h => by simp at h
theorem RDs.reverse : ∀ {vs : List Value} {ds : List D}, RDs al fr h vs ds → RDs al fr h vs.reverse ds.reverse
 | _, _, .nil => .nil
 | _, _, .cons a r => by rw [List.reverse_cons, List.reverse_cons]; exact r.reverse.append (.cons a .nil)
theorem bound_rev (NN : Names G.v) {is : List Nat} {ds : List D} {vs : List Value} (b : bindL is ds ρ = some ρ') (nd : is.Nodup) (c : ∀ i ∈ is, isOwnK (sc.names.lookup (G.v i)) = true) (r : RDs al fr s.heap vs ds) (H : Here prog w G.v G.c hT n A env sc al fr ow ρ st s) :
  wpAny (model prog w) A (assignInOrder (is.reverse.map fun i => bindName env (G.v i)) vs.reverse) (fun y s' => Stored prog w G.v hT env sc al fr ow ρ' st s s') FF s := by
 have lb := bindL_len b
 refine x11 (bindL_some (is := is.reverse) (ds := ds.reverse) (ρ := ρ) (by simp [lb])) ?_
 intro ρ2 b2
 refine wpAny_mono (bound_ok NN b2 (fun i hi => c i (List.mem_reverse.mp hi)) r.reverse H) (fun y s1 pp => x02 pp fun S1 E1 => ⟨S1, E1.ext fun j d q => ?_⟩) fun y y q => q
 refine x02 (lk_bindL b nd j) ?_
 intro p1 p2
 refine x02 (lk_bindL b2 (by unfold List.Nodup at nd ⊢; rw [List.pairwise_reverse]; exact nd.imp fun x => Ne.symm x) j) ?_
 intro q1 q2
 by_cases hj : j ∈ is
 · obtain ⟨k, hk, e⟩ := List.getElem_of_mem hj
   have hd : k < ds.length := lb ▸ hk
   have e1 : is[k]? = some j := by rw [List.getElem?_eq_getElem hk, e]
   have e2 : ds[k]? = some ds[k] := List.getElem?_eq_getElem hd
   have e3 := p1 k _ e1 e2
   rw [q] at e3
   cases e3
   refine q1 (is.length - 1 - k) _ ?_ ?_
   · rw [List.getElem?_reverse (by lia), ← e1]; congr 1; omega
   · rw [List.getElem?_reverse (by omega), ← e2]; congr 1; omega
 · rw [p2 hj] at q
   rw [q2 (fun x => hj (List.mem_reverse.mp x))]; exact q
end
end Mine
end
noncomputable section
open PySem PySem.W PyProof.Rows PySem.Spec PySem.Calls
namespace Mine
variable [Val]
noncomputable def cloL (env : Env) : List (Str × NameKind) → List (Str × Addr) → List (Str × Addr)
 | [], acc => acc
 | (x, k) :: r, acc => if (k == .free) = true then cloL env r ((x, (env.cells.lookup x).getD 0) :: acc) else cloL env r acc
theorem closure_loop {env : Env} (f : Str × NameKind → List (Str × Addr) → Sem (ForInStep (List (Str × Addr))))
  (hf : ∀ x k cs, f (x, k) cs = if (k == .free) = true then (do let c ← cellOf env x; pure (.yield ((x, c) :: cs))) else pure (.yield cs)) :
  ∀ (names : List (Str × NameKind)) (acc : List (Str × Addr)), (∀ x ∈ names, x.2 = .free → ∃ c, env.cells.lookup x.1 = some c) → forIn names acc f = (pure (cloL env names acc) : Sem _)
 | [], acc, _ => rfl
 | (x, k) :: r, acc, h => by
  have ih := closure_loop f hf r
  rw [List.forIn_cons, hf]
  unfold cloL
  by_cases q : (k == .free) = true
  · rw [if_pos q, if_pos q]
    refine x11 (h (x, k) List.mem_cons_self (beq_iff_eq.mp q)) ?_
    intro c hc
    have e : cellOf env x = pure c := by unfold cellOf; rw [hc]
    rw [e, hc]
    exact ih _ fun y hy => h y (List.mem_cons_of_mem _ hy)
  · rw [if_neg q, if_neg q]
    exact ih _ fun y hy => h y (List.mem_cons_of_mem _ hy)
theorem closure_ok {env : Env} {scope : Scope} (h : ∀ x ∈ scope.names, x.2 = .free → ∃ c, env.cells.lookup x.1 = some c) : closureFor scope env = pure (cloL env scope.names []) := by
 unfold closureFor
 have := closure_loop (env := env) (fun (x : Str × NameKind) cs => match x with | (name, kind) => if (kind == .free) = true then (do let c ← cellOf env name; pure (.yield ((name, c) :: cs))) else pure (.yield cs)) (fun j j j => rfl) scope.names [] h
 exact (congrArg (fun t => t >>= fun cs => pure cs) this).trans rfl
theorem cloL_lookup {env : Env} : ∀ {names : List (Str × NameKind)} {acc : List (Str × Addr)} {x : Str} {c : Addr}, (∀ y ∈ names, y.2 = .free → ∃ c, env.cells.lookup y.1 = some c) → (cloL env names acc).lookup x = some c → acc.lookup x = some c ∨ env.cells.lookup x = some c
 | [], acc, x, c, _, e => .inl e
 | (y, k) :: r, acc, x, c, h, e => by
  have hr : ∀ z ∈ r, z.2 = .free → ∃ c, env.cells.lookup z.1 = some c := fun z hz => h z (List.mem_cons_of_mem _ hz)
  unfold cloL at e
  by_cases q : (k == .free) = true
  · rw [if_pos q] at e
    rcases cloL_lookup hr e with e1 | e1
    · rw [List.lookup_cons] at e1
      cases z : x == y with
      | true =>
       rw [z] at e1
       refine x11 (h (y, k) List.mem_cons_self (beq_iff_eq.mp q)) ?_
       intro c' hc
       have hc : env.cells.lookup y = some c' := hc
       rw [hc] at e1
       have z := beq_iff_eq.mp z
       subst z
       have e2 : c' = c := by simpa using e1
       exact .inr (e2 ▸ hc)
      | false => rw [z] at e1; exact .inl e1
    · exact .inr e1
  · rw [if_neg q] at e; exact cloL_lookup hr e
theorem cloL_has {env : Env} : ∀ {names : List (Str × NameKind)} {acc : List (Str × Addr)} {x : Str}, ((x, NameKind.free) ∈ names ∨ ∃ c, acc.lookup x = some c) → ∃ c, (cloL env names acc).lookup x = some c
 | [], acc, x, h => by
  rcases h with h | h
  · cases h
  · exact h
 | (y, k) :: r, acc, x, h => by
  unfold cloL
  by_cases q : (k == .free) = true
  · rw [if_pos q]
    refine cloL_has ?_
    rw [List.lookup_cons]
    cases z : x == y with
    | true => exact .inr ⟨_, rfl⟩
    | false =>
     rcases h with h | h
     · rcases List.mem_cons.mp h with e | h
       · cases e; rw [beq_self_eq_true] at z; exact nomatch z
       · exact .inl h
     · exact .inr h
  · rw [if_neg q]
    refine cloL_has ?_
    rcases h with h | h
    · rcases List.mem_cons.mp h with e | h
      · cases e; exact absurd rfl q
      · exact .inl h
    · exact .inr h
theorem cellsFrom_acc : ∀ (names : List (Str × NameKind)) (n : Nat) (acc : List (Str × Addr)), cellsFrom n names acc = cellsFrom n names [] ++ acc
 | [], _, acc => rfl
 | (x, k) :: r, n, acc => by
  unfold cellsFrom
  split
  · rw [cellsFrom_acc r (n + 1) ((x, n) :: acc), cellsFrom_acc r (n + 1) [(x, n)]]; simp
  · exact cellsFrom_acc r n acc
theorem cellsFrom_mem : ∀ {names : List (Str × NameKind)} {n : Nat} {x : Str} {c : Addr}, (x, c) ∈ cellsFrom n names [] → (x, NameKind.cell) ∈ names
 | (y, k) :: r, n, x, c, h => by
  unfold cellsFrom at h
  split at h
  · rename_i q
    have q := beq_iff_eq.mp q
    rw [cellsFrom_acc] at h
    rcases List.mem_append.mp h with h | h
    · exact List.mem_cons_of_mem _ (cellsFrom_mem h)
    · rw [List.mem_singleton] at h; cases h; rw [q]; exact List.mem_cons_self
  · exact List.mem_cons_of_mem _ (cellsFrom_mem h)
theorem cellsFrom_has : ∀ {names : List (Str × NameKind)} {n : Nat} {acc : List (Str × Addr)} {x : Str}, ((x, NameKind.cell) ∈ names ∨ ∃ c, acc.lookup x = some c) → ∃ c, (cellsFrom n names acc).lookup x = some c
 | [], _, acc, x, h => by
  rcases h with h | h
  · cases h
  · exact h
 | (y, k) :: r, n, acc, x, h => by
  unfold cellsFrom
  by_cases q : (k == .cell) = true
  · rw [if_pos q]
    refine cellsFrom_has ?_
    rw [List.lookup_cons]
    cases z : x == y with
    | true => exact .inr ⟨_, rfl⟩
    | false =>
     rcases h with h | h
     · rcases List.mem_cons.mp h with e | h
       · cases e; rw [beq_self_eq_true] at z; exact nomatch z
       · exact .inl h
     · exact .inr h
  · rw [if_neg q]
    refine cellsFrom_has ?_
    rcases h with h | h
    · rcases List.mem_cons.mp h with e | h
      · cases e; exact absurd rfl q
      · exact .inl h
    · exact .inr h
theorem lookup_app {α : Type} : ∀ {a b : List (Str × α)} {x : Str} {c : α}, (a ++ b).lookup x = some c → a.lookup x = some c ∨ (a.lookup x = none ∧ b.lookup x = some c)
 | [], _, _, _, e => .inr ⟨rfl, e⟩
 | (y, v) :: r, b, x, c, e => by
  rw [List.cons_append, List.lookup_cons] at e
  rw [List.lookup_cons]
  cases z : x == y with
  | true => rw [z] at e; exact .inl e
  | false => rw [z] at e; exact lookup_app e
theorem pushCells_size : ∀ (names : List (Str × NameKind)) (h : Heap), h.objs.size ≤ (pushCells h names).objs.size
 | [], _ => Nat.le_refl _
 | (_, k) :: r, h => by
  unfold pushCells
  split
  · exact Nat.le_trans (by rw [Heap.size_push]; exact Nat.le_succ _) (pushCells_size r _)
  · exact pushCells_size r h
section
variable {M : Model} {A : Around} {E : Value → Shared → Prop} {s : Shared} {env : Env}
theorem compEnv_made {scope : Scope} {cl : List (Str × Addr)} {Q : Env → Shared → Prop}
  (hQ : Q (newEnv scope s.heap.objs.size env.globals (cellsFrom (s.heap.objs.size + 1) scope.names cl) env.qual none .none (some env) builtinsNs) { s with heap := pushCells (s.heap.push { cls := .type "dict", data := .dict #[] }) scope.names }) :
  wpAny M A (newFunctionEnv scope env.globals cl [] env.qual none .none (some env)) Q E s := by
 simp only [newFunctionEnv, Option.isSome_some, if_true]
 refine wpAny_bind (wpAny_alloc ?_)
 refine wpAny_bind (wpAny_layCells _ (fun name kind cells => by cases hkc : kind == NameKind.cell <;> rfl) _ _ _ _ ?_)
 rw [show ({ s with heap := s.heap.push { cls := .type "dict", data := .dict #[] } } : Shared).heap.objs.size = s.heap.objs.size + 1 from Heap.size_push ..]
 refine wpAny_bind ?_
 rw [List.forIn_nil]
 exact wpAny_pure (wpAny_pure hQ)
end
theorem lk_hide {own : List Nat} {ρ : Env'} {i : Nat} : i ∈ own → lk i (hide own ρ) = some none := by
 induction own with
 | nil => intro h; cases h
 | cons j r ih =>
  intro h
  simp only [hide]
  rw [lk_cons]
  by_cases q : j = i
  · rw [if_pos q]
  · rw [if_neg q]
    rcases List.mem_cons.mp h with e | h
    · exact absurd e.symm q
    · exact ih h
theorem lk_hide_not {own : List Nat} {ρ : Env'} {i : Nat} {d : D} : lk i (hide own ρ) = some (some d) → lk i ρ = some (some d) := by
 induction own with
 | nil => intro h; exact h
 | cons j r ih =>
  intro h
  simp only [hide] at h
  rw [lk_cons] at h
  split at h
  · exact nomatch h
  · exact ih h
section
variable {G : Nms}
theorem cScope_free {sc sc2 : Scope} {own : List Nat} (c : cScope G sc sc2 own = true) : ∀ x ∈ sc2.names, x.2 = .free → isCF (sc.names.lookup x.1) = true := fun x hx hk => by
 unfold cScope at c
 simp only [Bool.and_eq_true, List.all_eq_true] at c
 have := (c.2 x hx).2
 rw [hk] at this
 exact this
theorem cScope_kind {sc sc2 : Scope} {own : List Nat} (c : cScope G sc sc2 own = true) : sc2.kind = .function := by
 unfold cScope at c
 simp only [Bool.and_eq_true] at c
 exact beq_iff_eq.mp c.1.1
theorem cScope_dot {sc sc2 : Scope} {own : List Nat} (c : cScope G sc sc2 own = true) : (sc2.names.lookup (".0" : Str)).isSome = true := by
 unfold cScope at c
 simp only [Bool.and_eq_true] at c
 exact c.1.2
theorem cScope_uniq {sc sc2 : Scope} {own : List Nat} (c : cScope G sc sc2 own = true) : ∀ x ∈ sc2.names, sc2.names.lookup x.1 = some x.2 := fun x hx => by
 unfold cScope at c
 simp only [Bool.and_eq_true, List.all_eq_true] at c
 exact beq_iff_eq.mp (c.2 x hx).1
theorem cScope_own (NN : Names G.v) {sc sc2 : Scope} {own : List Nat} (c : cScope G sc sc2 own = true) {i : Nat} (h : sc2.names.lookup (G.v i) = some .local ∨ sc2.names.lookup (G.v i) = some .cell) : i ∈ own := by
 unfold cScope at c
 simp only [Bool.and_eq_true, List.all_eq_true] at c
 have : (own.any fun j => G.v j == G.v i) = true := by
  rcases h with h | h
  · have := (c.2 _ (mem_of_lookup h)).2
    dsimp only at this
    rw [NN.dot i, Bool.or_false] at this
    exact this
  · have := (c.2 _ (mem_of_lookup h)).2
    dsimp only at this
    rw [NN.dot i, Bool.or_false] at this
    exact this
 refine x12 (List.any_eq_true.mp this) ?_
 intro j hj e
 rw [NN.inj _ _ (beq_iff_eq.mp e)] at hj
 exact hj
end
theorem lookup_relabel {env : Env} : ∀ {names : List (Str × NameKind)} {x : Str} {k : NameKind}, names.lookup x = some k →
  (names.map fun (n, k) => if (k == NameKind.free && env.scope.kind == .function && env.kindOf n == some .cell) then (n, NameKind.cell) else (n, k)).lookup x =
   some (if (k == NameKind.free && env.scope.kind == .function && env.kindOf x == some .cell) = true then .cell else k)
 | [], _, _, h => by simp at h
 | (n, k') :: r, x, k, h => by
  show List.lookup x ((if (k' == NameKind.free && env.scope.kind == .function && env.kindOf n == some .cell) = true then (n, NameKind.cell) else (n, k')) :: _) = _
  cases hx : x == n with
  | true =>
   simp only [List.lookup_cons, hx] at h
   cases h
   have := beq_iff_eq.mp hx
   subst this
   split <;> simp
  | false =>
   simp only [List.lookup_cons, hx] at h
   have ih := lookup_relabel (env := env) h
   split <;> (simp only [List.lookup_cons, hx]; exact ih)
end Mine
end
noncomputable section
open PySem PySem.W PyProof.Rows PySem.Spec PySem.Calls
namespace Mine
variable [Val]
theorem lookup_app_left {α : Type} : ∀ {a b : List (Str × α)} {x : Str} {c : α}, a.lookup x = some c → (a ++ b).lookup x = some c
 | (y, v) :: r, b, x, c, e => by
  rw [List.cons_append, List.lookup_cons]
  rw [List.lookup_cons] at e
  cases z : x == y with
  | true => rw [z] at e; exact e
  | false => rw [z] at e; exact lookup_app_left e
theorem lookup_app_right {α : Type} : ∀ {a b : List (Str × α)} {x : Str}, a.lookup x = none → (a ++ b).lookup x = b.lookup x
 | [], _, _, _ => rfl
 | (y, v) :: r, b, x, e => by
  rw [List.cons_append, List.lookup_cons]
  rw [List.lookup_cons] at e
  cases z : x == y with
  | true => rw [z] at e; contradiction
  | false => rw [z] at e; exact lookup_app_right e
section
variable {prog : Program} {w : World} {G : Nms} {hT : Heap} {n : Nat} {A : Around} {env : Env} {sc sc2 : Scope} {al al' al'' fr fr' N ow ow' : List Addr} {ρ ρ' : Env'} {st st' st'' : St} {s s₁ s₂ s₃ s' s'' : Shared} {h h' : Heap} {I : Addr} {own : List Nat}
noncomputable def cEnv (sc2 : Scope) (env : Env) (L : Addr) : Env := compEnvC sc2 (cellsFrom (L + 1) sc2.names (cloL env sc2.names [])) L env
noncomputable def cHeap (sc2 : Scope) (h : Heap) : Heap := pushCells (h.push { cls := .type "dict", data := .dict #[] }) sc2.names
noncomputable def cNew (sc2 : Scope) (L : Addr) : List Addr := L :: (cellsFrom (L + 1) sc2.names []).map (·.2)
theorem cHeap_keeps {b : Addr} {o : Obj} (e : h.get? b = some o) : (cHeap sc2 h).get? b = some o := pushCells_keeps _ _ b o (Heap.get?_push_of_some _ e)
theorem cNew_ok : (∀ a ∈ cNew sc2 h.objs.size, h.objs.size ≤ a ∧ a < (cHeap sc2 h).objs.size) ∧ CellsOk (cHeap sc2 h) (h.objs.size + 1) (cellsFrom (h.objs.size + 1) sc2.names []) := by
 have ok := cellsFrom_ok sc2.names (h.push { cls := .type "dict", data := .dict #[] }) (h.objs.size + 1) [] ⟨fun j j hm => (nomatch hm), List.Pairwise.nil⟩ (by rw [Heap.size_push]; exact Nat.le_refl _)
 rw [Heap.size_push] at ok
 refine ⟨fun a ha => ?_, ok⟩
 rcases mc ha with rfl | ha
 · refine ⟨Nat.le_refl _, Nat.lt_of_lt_of_le ?_ (pushCells_size _ _)⟩
   rw [Heap.size_push]; exact Nat.lt_succ_self _
 · refine x12 (List.mem_map.mp ha) ?_
   intro nst1 hm eqv2
   obtain ⟨x, c⟩ := nst1
   subst eqv2
   refine x02 (ok.empty x c hm) ?_
   intro h1 h2
   exact ⟨Nat.le_of_succ_le h2, h1.lt⟩
theorem free_cells (Ev : EnvOk G.v env sc al fr ow ρ h) (c : cScope G sc sc2 own = true) : ∀ x ∈ sc2.names, x.2 = .free → ∃ c, env.cells.lookup x.1 = some c := fun x hx hk => by
 have := cScope_free c x hx hk
 refine Ev.ch x.1 ?_
 cases q : sc.names.lookup x.1 with
 | none => rw [q] at this; exact nomatch this
 | some k => induction k using NameKind.casesOn <;> rw [q] at this <;> first | exact .inl rfl | exact .inr rfl | cases this
theorem comp_env (NN : Names G.v) (Ev : EnvOk G.v env sc al fr ow ρ h) (S : Sto prog w hT al fr st h) (c : cScope G sc sc2 own = true) :
  EnvOk G.v (cEnv sc2 env h.objs.size) sc2 al (cNew sc2 h.objs.size ++ fr) (cNew sc2 h.objs.size) (hide own ρ) (cHeap sc2 h) := by
 have fc := free_cells Ev c
 refine x02 (cNew_ok (sc2 := sc2) (h := h)) ?_
 intro hN ok
 have uq := cScope_uniq c
 have lks : ∀ {x : Str} {a : Addr}, (cEnv sc2 env h.objs.size).cells.lookup x = some a → (x, a) ∈ cellsFrom (h.objs.size + 1) sc2.names [] ∨ env.cells.lookup x = some a := fun {x a} e => by
  have e : (cellsFrom (h.objs.size + 1) sc2.names (cloL env sc2.names [])).lookup x = some a := e
  rw [cellsFrom_acc] at e
  rcases lookup_app e with e | ⟨_, e⟩
  · exact .inl (mem_of_lookup e)
  · rcases cloL_lookup fc e with e | e
    · exact no e
    · exact .inr e
 have kind : ∀ {x : Str} {k : NameKind}, sc2.names.lookup x = some k → (cEnv sc2 env h.objs.size).kindOf x = some (if (k == NameKind.free && env.scope.kind == .function && env.kindOf x == some .cell) = true then .cell else k) := fun e => lookup_relabel e
 have newc : ∀ {x : Str} {a : Addr}, (x, a) ∈ cellsFrom (h.objs.size + 1) sc2.names [] → a ∈ cNew sc2 h.objs.size ∧ a ≠ h.objs.size ∧ (cHeap sc2 h).IsCell a none := fun {x a} e =>
  ⟨List.mem_cons_of_mem _ (List.mem_map.mpr (m12 (x, a) e rfl)), Nat.ne_of_gt (ok.empty x a e).2, (ok.empty x a e).1⟩
 have oldc : ∀ {x : Str} {a : Addr}, env.cells.lookup x = some a → a < h.objs.size := fun e => by
  obtain ⟨_, _, v, hv⟩ := Ev.cfr _ _ e
  exact hv.lt
 refine { fn := (cScope_kind c : sc2.kind = .function), gl := Ev.gl, bi := Ev.bi, k1 := fun x e => (kind e).trans rfl, k2 := fun x e => (kind e).trans rfl, k3 := fun x e => ?_, k4 := fun x e => (kind e).trans rfl, lo := List.mem_cons_self, sub := fun a ha => List.mem_append.mpr (.inl ha), cfr := fun x a e => ?_, cin := fun x y a e1 e2 => ?_, ch := fun x e => ?_, cow := fun i e => ?_, ns := ?_, cv := fun i d e k => ?_ }
 · rw [kind e]
   split
   · exact .inl rfl
   · exact .inr rfl
 · rcases lks e with e | e
   · refine x03 (newc e) ?_
     intro h1 h2 h3
     exact ⟨List.mem_append.mpr (.inl h1), h2, _, h3⟩
   · obtain ⟨h1, h2, v, hv⟩ := Ev.cfr _ _ e
     exact ⟨List.mem_append.mpr (.inr h1), Nat.ne_of_lt (oldc e), v, hv.keeps fun b o x => cHeap_keeps x⟩
 · rcases lks e1 with e1 | e1 <;> rcases lks e2 with e2 | e2
   · exact name_of_addr ok.apart e1 e2
   · exact absurd (oldc e2) (Nat.not_lt.mpr (Nat.le_of_succ_le (ok.empty _ _ e1).2))
   · exact absurd (oldc e1) (Nat.not_lt.mpr (Nat.le_of_succ_le (ok.empty _ _ e2).2))
   · exact Ev.cin _ _ _ e1 e2
 · show ∃ c, (cellsFrom (h.objs.size + 1) sc2.names (cloL env sc2.names [])).lookup x = some c
   rcases e with e | e
   · exact cellsFrom_has (.inl (mem_of_lookup e))
   · exact cellsFrom_has (.inr (cloL_has (.inl (mem_of_lookup e))))
 · refine x11 (cellsFrom_has (n := h.objs.size + 1) (acc := []) (.inl (mem_of_lookup e))) ?_
   intro a ha
   refine (m12 a ?_ ((newc (mem_of_lookup ha)).1))
   show (cellsFrom (h.objs.size + 1) sc2.names (cloL env sc2.names [])).lookup _ = some a
   rw [cellsFrom_acc]
   exact lookup_app_left ha
 · refine (m12 (fun j => none) ((Heap.Ns.new h (.type "dict")).keeps (pushCells_keeps _ _)) (fun i d e k => ?_))
   rw [lk_hide (cScope_own NN c (.inl k))] at e
   exact nomatch e
 · rcases k with k | k
   · rw [lk_hide (cScope_own NN c (.inr k))] at e
     exact nomatch e
   · have hm := mem_of_lookup k
     have cf := cScope_free c _ hm rfl
     obtain ⟨a, v, h1, h2, h3⟩ := Ev.cv i d (lk_hide_not e) (by
      cases q : sc.names.lookup (G.v i) with
      | none => rw [q] at cf; exact nomatch cf
      | some k => induction k using NameKind.casesOn <;> rw [q] at cf <;> first | exact .inl rfl | exact .inr rfl | cases cf)
     refine (m23 a v ?_ (h2.keeps fun b o x => cHeap_keeps x) (h3.fence S (fun b o x => cHeap_keeps x) fun a ha => (hN a ha).1))
     show (cellsFrom (h.objs.size + 1) sc2.names (cloL env sc2.names [])).lookup _ = some a
     rw [cellsFrom_acc, lookup_app_right]
     · refine x11 (cloL_has (env := env) (acc := []) (.inl hm)) ?_
       intro a' ha'
       rcases cloL_lookup fc ha' with q | q
       · exact no q
       · rw [h1] at q; cases q; exact ha'
     · cases q : (cellsFrom (h.objs.size + 1) sc2.names []).lookup (G.v i) with
       | none => rfl
       | some a' =>
        have := uq _ (cellsFrom_mem (mem_of_lookup q))
        rw [k] at this
        exact nomatch this
end
end Mine
end
noncomputable section
open PySem PySem.W PyProof.Rows PySem.Spec PySem.Calls
namespace Mine
variable [Val]
noncomputable def turnTree (p : Pos) (target : Expr) (ifs : List Expr) (it : Value) (env : Env) (yes next : Sem Fin) : Sem Fin := do
 standAt p
 match ← pyNext it with
 | none => pure (.done .next)
 | some v => do
  letOwnedTupleGo target it v
  assign target env v
  let mut ok := true
  for c in ifs do
   if ok then ok ← isTrue c env (eval c env)
  if ok then yes else next
theorem turn_list1 (elt target iter : Expr) (ifs : List Expr) (scope : Scope) (pos : Pos) (it acc : Value) (env : Env) :
  compTurn (.ListComp elt [⟨target, iter, ifs, 0⟩] scope pos) 0 it acc env = turnTree iter.pos target ifs it env ((do let _ ← call (.builtin "list.append") [acc, ← eval elt env]) >>= fun j => again (.compLoop (.ListComp elt [⟨target, iter, ifs, 0⟩] scope pos) 0 it acc env))
   (again (.compLoop (.ListComp elt [⟨target, iter, ifs, 0⟩] scope pos) 0 it acc env)) := by rfl
theorem turn_list2 (elt target iter target2 iter2 : Expr) (ifs ifs2 : List Expr) (scope : Scope) (pos : Pos) (it acc : Value) (env : Env) :
  compTurn (.ListComp elt [⟨target, iter, ifs, 0⟩, ⟨target2, iter2, ifs2, 0⟩] scope pos) 1 it acc env = turnTree iter2.pos target2 ifs2 it env ((do let _ ← call (.builtin "list.append") [acc, ← eval elt env]) >>= fun j => again (.compLoop (.ListComp elt [⟨target, iter, ifs, 0⟩, ⟨target2, iter2, ifs2, 0⟩] scope pos) 1 it acc env))
   (again (.compLoop (.ListComp elt [⟨target, iter, ifs, 0⟩, ⟨target2, iter2, ifs2, 0⟩] scope pos) 1 it acc env)) := by rfl
theorem turn_list20 (elt target iter target2 iter2 : Expr) (ifs ifs2 : List Expr) (scope : Scope) (pos : Pos) (it acc : Value) (env : Env) :
  compTurn (.ListComp elt [⟨target, iter, ifs, 0⟩, ⟨target2, iter2, ifs2, 0⟩] scope pos) 0 it acc env = turnTree iter.pos target ifs it env (do
    let x ← eval iter2 env
    standAt iter2.pos
    let x ← foldedSetIterable iter2 env x
    let _ ← runOwn (.compStart (.ListComp elt [⟨target, iter, ifs, 0⟩, ⟨target2, iter2, ifs2, 0⟩] scope pos) 1 (← holding [x] (pyIter x)) acc env) env
    again (.compLoop (.ListComp elt [⟨target, iter, ifs, 0⟩, ⟨target2, iter2, ifs2, 0⟩] scope pos) 0 it acc env))
   (again (.compLoop (.ListComp elt [⟨target, iter, ifs, 0⟩, ⟨target2, iter2, ifs2, 0⟩] scope pos) 0 it acc env)) := by rfl
theorem turn_dict (k v target iter : Expr) (ifs : List Expr) (scope : Scope) (pos : Pos) (it : Value) (d : Addr) (env : Env) :
  compTurn (.DictComp k v [⟨target, iter, ifs, 0⟩] scope pos) 0 it (.ref d) env = turnTree iter.pos target ifs it env ((do
    let kv ← eval k env
    let vv ← holding [kv] (eval v env)
    standAt { k.pos with endLine := v.pos.endLine, endCol := v.pos.endCol }
    holding [kv, vv] (dictSet d kv vv)) >>= fun j => again (.compLoop (.DictComp k v [⟨target, iter, ifs, 0⟩] scope pos) 0 it (.ref d) env))
   (again (.compLoop (.DictComp k v [⟨target, iter, ifs, 0⟩] scope pos) 0 it (.ref d) env)) := by rfl
section
variable {prog : Program} {w : World} {G : Nms} {hT : Heap} {n : Nat} {A : Around} {env : Env} {sc sc2 : Scope} {al al' al'' fr fr' N ow ow' : List Addr} {ρ ρ' : Env'} {st st' st'' : St} {s s₁ s₂ s₃ s' s'' : Shared} {h h' : Heap} {I Dd : Addr} {own : List Nat}
theorem MO2.stepF (S : Stp prog w hT fr ow al al' st st' s s') (hf : ∀ a ∈ ow, a ∈ fr) (hD : Dd ∉ ow) (hA : Dd ∉ al) {mo : MO} (m : MO2 prog w al fr s.heap s.heap Dd mo) : MO2 prog w al' fr s'.heap s'.heap Dd mo := by
 refine m.mono (fun o e => S.kp.keep Dd o hA hD e) (fun b o n1 n2 e => ⟨S.kp.keep b o n1 (fun q => n2 (hf b q)) e, S.notNew n1 e, n2⟩) fun k a e => S.get e
theorem tests_off {c : Expr → Bool → Sem (ForInStep Bool)} (hc : ∀ e, c e false = pure (.yield false)) : ∀ (es : List Expr), forIn es false c = (pure false : Sem Bool)
 | [] => rfl
 | e :: es => by rw [List.forIn_cons, hc]; exact tests_off hc es
theorem tests_inv {ev : Ev} {x : X} {xs : List X} {b : Bool} (h : tests ev ρ st (x :: xs) = some (b, st')) {P : Prop} (k : ∀ b1 st1, ev ρ st x = some (.bool b1, st1) → (b1 = true → tests ev ρ st1 xs = some (b, st')) → (b1 = false → false = b ∧ st1 = st') → P) : P := by
 replace h : (match ev ρ st x with | some (.bool true, st) => tests ev ρ st xs | some (.bool false, st) => some (false, st) | _ => none) = some (b, st') := h
 generalize ev ρ st x = o at h k
 induction o using Option.casesOn with
 | none => exact no h
 | some p =>
  induction p using Prod.casesOn with
  | mk d st1 =>
   induction d using D.casesOn with
   | bool b1 =>
    induction b1 using Bool.casesOn with
    | true => exact k true st1 rfl (fun e => h) fun e => nb e.symm
    | false => exact k false st1 rfl (fun e => nb e) fun e => ou h
   | _ => exact no h
theorem turns_inv {ev : Ev} {t : Tgt} {ifs : List X} {emit : Env' → St → MO → Option (MO × Env' × St)} {f : Nat} {src : Src} {acc acc' : MO} (h : turns ev t ifs emit (f + 1) ρ st src acc = some (acc', ρ', st')) {P : Prop}
  (k0 : nextS st src = some none → acc = acc' → ρ = ρ' → st = st' → P)
  (k1 : ∀ d src1 ρ1 b st3, nextS st src = some (some (d, src1)) → bindT t d ρ = some ρ1 → tests ev ρ1 st ifs = some (b, st3) → (b = true → ∃ acc4 ρ4 st4, emit ρ1 st3 acc = some (acc4, ρ4, st4) ∧ turns ev t ifs emit f ρ4 st4 src1 acc4 = some (acc', ρ', st')) →
   (b = false → turns ev t ifs emit f ρ1 st3 src1 acc = some (acc', ρ', st')) → P) : P := by
 replace h : (match nextS st src with
  | none => none
  | some none => some (acc, ρ, st)
  | some (some (d, src)) => match bindT t d ρ with
   | none => none
   | some ρ => match tests ev ρ st ifs with
    | some (true, st) => match emit ρ st acc with
     | some (acc, ρ, st) => turns ev t ifs emit f ρ st src acc
     | none => none
    | some (false, st) => turns ev t ifs emit f ρ st src acc
    | none => none) = some (acc', ρ', st') := h
 generalize nextS st src = o at h k0 k1
 induction o using Option.casesOn with
 | none => exact no h
 | some o => induction o using Option.casesOn with
  | none => exact k0 rfl (ou3 h).1 (ou3 h).2.1 (ou3 h).2.2
  | some p => induction p using Prod.casesOn with
   | mk d src1 =>
    replace h : (match bindT t d ρ with
     | none => none
     | some ρ => match tests ev ρ st ifs with
      | some (true, st) => match emit ρ st acc with
       | some (acc, ρ, st) => turns ev t ifs emit f ρ st src1 acc
       | none => none
      | some (false, st) => turns ev t ifs emit f ρ st src1 acc
      | none => none) = some (acc', ρ', st') := h
    generalize q1 : bindT t d ρ = o1 at h
    induction o1 using Option.casesOn with
    | none => exact no h
    | some ρ1 =>
     replace h : (match tests ev ρ1 st ifs with
      | some (true, st) => match emit ρ1 st acc with
       | some (acc, ρ, st) => turns ev t ifs emit f ρ st src1 acc
       | none => none
      | some (false, st) => turns ev t ifs emit f ρ1 st src1 acc
      | none => none) = some (acc', ρ', st') := h
     generalize q2 : tests ev ρ1 st ifs = o2 at h
     induction o2 using Option.casesOn with
     | none => exact no h
     | some p => induction p using Prod.casesOn with
      | mk b st3 => induction b using Bool.casesOn with
       | true =>
        refine k1 d src1 ρ1 true st3 rfl q1 q2 (fun e => ?_) fun e => nb e.symm
        replace h : (match emit ρ1 st3 acc with
         | some (acc, ρ, st) => turns ev t ifs emit f ρ st src1 acc
         | none => none) = some (acc', ρ', st') := h
        generalize emit ρ1 st3 acc = o3 at h
        induction o3 using Option.casesOn with
        | none => exact no h
        | some p => exact m32 p.1 p.2.1 p.2.2 rfl h
       | false => exact k1 d src1 ρ1 false st3 rfl q1 q2 (fun e => nb e) fun e => h
theorem tests_ok {ev : Ev} (J : TsOk prog w G hT n ev) {f : Nat} : ∀ {xs : List X} {es : List Expr} {al : List Addr} {st st' : St} {s : Shared} {b : Bool}, tests ev ρ st xs = some (b, st') → cIfs (cT G f sc) xs es = true → Here prog w G.v G.c hT n A env sc al fr ow ρ st s →
  wpAny (model prog w) A (forIn es true fun c r => if r = true then do let ok ← isTrue c env (eval c env); pure (ForInStep.yield ok) else pure (ForInStep.yield r)) (PostB prog w hT al fr st st' s b) FF s := by
 intro xs
 induction xs using List.rec with
 | nil =>
  intro es al st st' s b h c H
  induction es using List.casesOn with
  | nil =>
   have q := ou h
   rw [← q.1, ← q.2]
   exact wpAny_pure ⟨rfl, al, Stp.refl H.sto⟩
  | cons => exact nb c
 | cons x xs ih =>
  intro es al st st' s b h c H
  induction es using List.casesOn with
  | nil => exact nb c
  | cons e es =>
   refine x02 (both c) fun c1 c2 => tests_inv h fun b1 st1 h1 ht hf => ?_
   rw [List.forIn_cons, if_pos rfl]
   refine wpAny_bind (wpAny_bind (wpAny_mono (J h1 c1 H) (fun t s1 p => ?_) fun j j q => q))
   refine x02 p fun p0 p => x11 p fun al1 S1 => ?_
   clear p
   subst p0
   refine wpAny_pure ?_
   clear h1 h
   induction t using Bool.casesOn with
   | true => exact wpAny_mono (ih (ht rfl) c2 (H.step S1)) (fun t s2 q => x02 q fun q0 q => x11 q fun al2 S2 => ⟨q0, al2, S1.trans S2⟩) fun j j q => q
   | false =>
    show wpAny (model prog w) A (forIn es false _) _ _ _
    rw [tests_off (fun e => if_neg Bool.false_ne_true), ← (hf rfl).1, ← (hf rfl).2]
    exact wpAny_pure ⟨rfl, al1, S1⟩
noncomputable def EmitOk (prog : Program) (w : World) (G : Nms) (hT : Heap) (n : Nat) (A : Around) (env : Env) (sc : Scope) (fr ow : List Addr) (Dd : Addr) (EM : Sem Unit) (emit : Env' → St → MO → Option (MO × Env' × St)) : Prop :=
 ∀ {ρ : Env'} {st : St} {acc acc' : MO} {ρ' : Env'} {st' : St} {al : List Addr} {s : Shared}, emit ρ st acc = some (acc', ρ', st') → Here prog w G.v G.c hT n A env sc al fr ow ρ st s → MO2 prog w al fr s.heap s.heap Dd acc →
  wpAny (model prog w) A EM (fun j s' => ∃ al', Stp prog w hT fr (Dd :: ow) al al' st st' s s' ∧ EnvOk G.v env sc al' fr ow ρ' s'.heap ∧ MO2 prog w al' fr s'.heap s'.heap Dd acc') FF s
structure Fenced (env : Env) (fr ow : List Addr) (a : Addr) : Prop where
 mem : a ∈ fr
 now : a ∉ ow
 nlo : env.locals ≠ a
 ncl : ∀ x c, env.cells.lookup x = some c → c ≠ a
theorem Fenced.beside (F : Fenced env fr ow Dd) (S : Stp prog w hT fr [Dd] al al' st st' s s') (H : Here prog w G.v G.c hT n A env sc al fr ow ρ st s) : EnvOk G.v env sc al' fr ow ρ s'.heap :=
 H.env.beside H.sto S (fun a ha => by rw [List.mem_singleton.mp ha]; exact F.mem) (fun q => F.nlo (List.mem_singleton.mp q)) fun x c e q => F.ncl x c e (List.mem_singleton.mp q)
theorem loop_ok (NN : Names G.v) {ev : Ev} (J : TsOk prog w G hT n ev) {c : Code} {p : Pos} {te : Expr} {ifes : List Expr} {EM : Sem Unit} {yes : Sem Fin} {t : Tgt} {ifs : List X} {emit : Env' → St → MO → Option (MO × Env' × St)} {R : Result → Shared → Prop} {f0 : Nat}
  (hq : c.quiet = true) (hstep : ∀ (Q : Fin → Shared → Prop) (E : Value → Shared → Prop) (s : Shared), wpAny (model prog w) A (turnTree p te ifes (.ref I) env yes (again c)) Q FF s → wpAny (model prog w) (A.under c) ((model prog w).den c) Q E s)
  (hyes : ∀ (Q : Fin → Shared → Prop) (s : Shared), wpAny (model prog w) A EM (fun j s' => wpAny (model prog w) A (again c) Q FF s') FF s → wpAny (model prog w) A yes Q FF s)
  (FI : Fenced env fr ow I) (FD : Fenced env fr ow Dd) (hID : I ≠ Dd) (c1 : cTgt G sc t te = true) (c2 : cIfs (cT G f0 sc) ifs ifes = true) (EO : EmitOk prog w G hT n A env sc fr ow Dd EM emit) :
  ∀ (f : Nat) {ρ : Env'} {st : St} {src : Src} {acc acc' : MO} {ρ' : Env'} {st' : St} {al : List Addr} {s : Shared}, turns ev t ifs emit f ρ st src acc = some (acc', ρ', st') → Here prog w G.v G.c hT n A env sc al fr ow ρ st s →
   SrcOk prog w al fr st s.heap I src → srcTgt src te = true → MO2 prog w al fr s.heap s.heap Dd acc →
   (∀ al' s', Stp prog w hT fr (I :: Dd :: ow) al al' st st' s s' → EnvOk G.v env sc al' fr ow ρ' s'.heap → MO2 prog w al' fr s'.heap s'.heap Dd acc' → R (.ok .next) s') → codeAny (model prog w) A c R s := by
 intro f
 induction f using Nat.rec with
 | zero => intro _ _ _ _ _ _ _ _ _ h; exact no h
 | succ f ih =>
  intro ρ st src acc acc' ρ' st' al s h H K ht M k
  have wide : ∀ {o : List Addr} {al al' : List Addr} {st st' : St} {s s' : Shared}, Stp prog w hT fr o al al' st st' s s' → (∀ a ∈ o, a ∈ I :: Dd :: ow) → Stp prog w hT fr (I :: Dd :: ow) al al' st st' s s' := fun S q => S.wide fun a ha => .inl (q a ha)
  have subI : ∀ a ∈ [I], a ∈ fr := fun a ha => List.mem_singleton.mp ha ▸ FI.mem
  have nal : ∀ {a : Addr} {al : List Addr} {st : St} {h : Heap}, Sto prog w hT al fr st h → a ∈ fr → a ∉ al := fun S q z => S.dj _ z q
  refine codeAny_of_tree (hstep _ _ _ ?_)
  unfold turnTree
  refine wpAny_bind (wpAny_standAt (wpAny_bind ?_))
  refine turns_inv h (fun e1 e2 e3 e4 => ?_) fun d src1 ρ1 b st3 e1 b1 h3 ht3 hf3 => ?_
  · subst e2 e3 e4
    refine wpAny_mono (nextS_ok H.hd H.sto FI.mem K e1 ht) (fun x s1 p => x02 p fun eq0 S1 => ?_) fun j j q => q
    subst eq0
    exact wpAny_pure (k al s1 (wide S1 fun a ha => List.mem_singleton.mp ha ▸ List.mem_cons_self) (FI.beside S1 H) (M.stepF S1 subI (fun q => hID (List.mem_singleton.mp q).symm) (nal H.sto FD.mem)))
  · refine wpAny_mono (nextS_ok H.hd H.sto FI.mem K e1 ht) (fun x s0 p => x12 p fun v eq1 p0 => ?_) fun j j q => q
    clear p
    subst eq1
    refine wpAny_bind (wpAny_mono p0 (fun j s1 p => x04 p fun S1 rv K1 ht1 => ?_) fun j j q => q)
    clear p
    have E1 := FI.beside S1 H
    have M1 := M.stepF S1 subI (fun q => hID (List.mem_singleton.mp q).symm) (nal H.sto FD.mem)
    have H1 := H.turn S1 E1
    refine wpAny_bind (wpAny_mono (assign_ok NN H1 b1 c1 rv) (fun j s2 p => x02 p fun S2 E2 => ?_) fun j j q => q)
    clear p
    have K2 := K1.step S2 H.env.sub FI.now (nal S1.sto FI.mem)
    have M2 := M1.stepF S2 H.env.sub FD.now (nal S1.sto FD.mem)
    have H2 := H1.turn S2 E2
    refine wpAny_bind (wpAny_mono (tests_ok J h3 c2 H2) (fun ok s3 p => x02 p fun p0 p => x11 p fun al3 S3 => ?_) fun j j q => q)
    clear p
    subst p0
    have K3 := K2.step S3 (fun a ha => nomatch ha) (fun q => nomatch q) (nal S2.sto FI.mem)
    have M3 := M2.stepF S3 (fun a ha => nomatch ha) (fun q => nomatch q) (nal S2.sto FD.mem)
    have H3 := H2.step S3
    have W3 := ((wide S1 fun a ha => List.mem_singleton.mp ha ▸ List.mem_cons_self).trans (wide S2 fun a ha => List.mem_cons_of_mem _ (List.mem_cons_of_mem _ ha))).trans (wide S3 fun a ha => nomatch ha)
    clear h h3 e1 b1 K K1 K2 M M1 M2 H1 H2 S1 S2 E1 E2
    induction ok using Bool.casesOn with
    | true =>
     rw [if_pos rfl]
     refine x32 (ht3 rfl) fun acc4 ρ4 st4 h4 h => ?_
     refine hyes _ _ (wpAny_mono (EO h4 H3 M3) (fun j s4 p => x13 p fun al4 S4 E4 M4 => ?_) fun j j q => q)
     exact wpAny_pure ⟨hq, ih h (H3.turn S4 E4) (K3.step S4 (fun a ha => (mc ha).elim (fun e => e ▸ FD.mem) (H.env.sub a)) (fun q => (List.mem_cons.mp q).elim hID FI.now) (nal S3.sto FI.mem)) ht1 M4
      fun al' s' S5 E5 M5 => k al' s' ((W3.trans (wide S4 fun a ha => List.mem_cons_of_mem _ ha)).trans S5) E5 M5⟩
    | false => exact wpAny_pure ⟨hq, ih (hf3 rfl) H3 K3 ht1 M3 fun al' s' S5 E5 M5 => k al' s' (W3.trans S5) E5 M5⟩
end
end Mine
end
noncomputable section
open PySem PySem.W PyProof.Rows PySem.Spec PySem.Calls
namespace Mine
variable [Val]
section
variable {prog : Program} {w : World} {G : Nms} {hT : Heap} {n : Nat} {A : Around} {env : Env} {sc sc2 : Scope} {al al' al'' fr fr' N ow ow' : List Addr} {ρ ρ' : Env'} {st st' st'' : St} {s s₁ s₂ s₃ s' s'' : Shared} {h h' : Heap} {I Dd : Addr} {own : List Nat}
theorem SrcOk.fence (k : ∀ b o, h.get? b = some o → h'.get? b = some o) (hN : ∀ a ∈ N, h.objs.size ≤ a) {src : Src} (q : SrcOk prog w al fr st h I src) : SrcOk prog w al (N ++ fr) st h' I src := by
 cases q with
 | seq a vs i rest h1 h2 h3 h4 h5 =>
  refine .seq a vs i rest (h1.at fun o e => k I o e) h2 (fun z => ?_) (h4.at fun o e => k a o e) (h5.fence k hN)
  rcases List.mem_append.mp z with z | z
  · refine x11 h4 ?_
    clear h4
    intro _ e
    exact Nat.lt_irrefl _ (Nat.lt_of_lt_of_le (Heap.lt_size e) (hN a z))
  · exact h3 z
 | str x t i h1 => obtain ⟨o, ho, r⟩ := h1; exact .str x t i ⟨o, k I o ho, r⟩
 | rng a b left h1 h2 h3 => exact .rng a b left (k I _ h1) h2 h3
 | mlist j v i a h1 h2 => exact .mlist j v i a h1 (h2.at fun o e => k I o e)
 | items j v i d h1 h2 h3 =>
  refine .items j v i d h1 h2 fun es e => ?_
  refine x44 (h3 es e) ?_
  intro kvs ep ok ov q1 q2 q3 q4
  exact (m44 kvs ep ok ov (k I _ q1) (q2.at' fun o z => k d o z) q3 (q4.fence k hN))
theorem Stp.open (S : Stp prog w hT fr' ow al al' st st' s s') (hf : ∀ a ∈ fr, a ∈ fr') : Stp prog w hT fr ow al al' st st' s s' :=
 Stp.inner (fun j j e => e) (Nat.le_refl _) .refl S hf fun j q => .inl q
theorem MO2.open (hf : ∀ a ∈ fr, a ∈ fr') {a : Addr} {mo : MO} {hp : Heap} (m : MO2 prog w al fr' h hp a mo) : MO2 prog w al fr h hp a mo :=
 m.mono (fun j e => e) (fun j j n1 n2 e => ⟨e, n1, fun q => n2 (hf _ q)⟩) fun j j e => e
theorem Stp.adopt {a : Addr} {mo : MO} (S : Stp prog w hT (a :: fr) ow al al' st st' s s') (ha : s.heap.objs.size ≤ a) (nf : a ∉ fr) (m : MO2 prog w al' (a :: fr) s'.heap s'.heap a mo) :
  Stp prog w hT fr ow al (al' ++ [a]) st ⟨st'.n + 1, (st'.n, 0, mo) :: st'.mu⟩ s s' ∧ RD (al' ++ [a]) fr s'.heap (.ref a) (.ob st'.n) := by
 have SS := S.sto
 have nal : a ∉ al' := fun q => SS.dj a q List.mem_cons_self
 have p : ∀ (k : Nat) x, al'[k]? = some x → (al' ++ [a])[k]? = some x := fun u u => get_prefix
 have ga : (al' ++ [a])[st'.n]? = some a := by rw [← SS.len]; exact List.getElem?_concat_length
 have ln : ∀ j x, al'[j]? = some x → j ≠ st'.n := fun j x e q => by
  obtain ⟨hl, _⟩ := List.getElem?_eq_some_iff.mp e
  rw [SS.len] at hl; lia
 have kk : ∀ b o, b ∉ al' → b ∉ a :: fr → s'.heap.get? b = some o → s'.heap.get? b = some o ∧ b ∉ al' ++ [a] ∧ b ∉ fr := fun b o n1 n2 x => ⟨x, (fun q => by
   rcases List.mem_append.mp q with q | q
   · exact n1 q
   · exact n2 (List.mem_singleton.mp q ▸ List.mem_cons_self)), fun q => n2 (List.mem_cons_of_mem _ q)⟩
 refine x12 S.pre ?_
 intro more e hm
 refine ⟨⟨(m12 (more ++ [a]) (by rw [e, List.append_assoc]) (fun x hx => ?_)), ⟨SS.old, (List.length_append ..).trans (congrArg (· + 1) SS.len), fun x hx => ?_, ?_, fun x hx q => ?_, fun j v mo' e => ?_⟩,
  ⟨S.kp.sz, S.kp.keep, fun j v mo' x => ?_⟩, S.rest⟩, .ob _ a ga⟩
 · rcases List.mem_append.mp hx with hx | hx
   · exact hm x hx
   · rw [List.mem_singleton.mp hx]; exact ha
 · refine SS.new x ?_
   rcases hx with hx | hx
   · rcases List.mem_append.mp hx with hx | hx
     · exact .inl hx
     · exact .inr (List.mem_singleton.mp hx ▸ List.mem_cons_self)
   · exact .inr (List.mem_cons_of_mem _ hx)
 · refine List.nodup_append.mpr ⟨SS.nd, List.pairwise_singleton .. , fun x hx y hy => ?_⟩
   rw [List.mem_singleton.mp hy]; exact fun q => nal (q ▸ hx)
 · rcases List.mem_append.mp hx with hx | hx
   · exact SS.dj x hx (List.mem_cons_of_mem _ q)
   · exact nf (List.mem_singleton.mp hx ▸ q)
 · rw [lk_cons] at e
   split at e
   · rename_i q
     cases e
     subst q
     exact (m12 a ga (m.mono (fun o x => x) kk p))
   · refine x12 (SS.mu j v mo' e) ?_
     intro x hx q
     exact (m12 x (p j x hx) (q.mono (fun o y => y) kk p))
 · refine x23 (S.kp.ver j v mo' x) ?_
   intro v' mo2 y l z
   have : j ≠ st'.n := by
    refine x12 (SS.mu j v' mo2 y) ?_
    intro x' hx' _
    exact ln j x' hx'
   exact (m23 v' mo2 (by rw [lk_cons, if_neg (Ne.symm this)]; exact y) l z)
inductive Fin1 : MO → St → D → St → Prop
 | pure (ds : List D) (st : St) : Fin1 (.list ds) st (.list ds) st
 | made (mo : MO) (st : St) : Fin1 mo st (.ob st.n) ⟨st.n + 1, (st.n, 0, mo) :: st.mu⟩
theorem fin1_ok {mo : MO} {d : D} (f : Fin1 mo st' d st'') (S : Stp prog w hT (Dd :: fr) ow al al' st st' s s') (ha : s.heap.objs.size ≤ Dd) (nf : Dd ∉ fr) (m : MO2 prog w al' (Dd :: fr) s'.heap s'.heap Dd mo) :
  ∃ al'', Stp prog w hT fr ow al al'' st st'' s s' ∧ RD al'' fr s'.heap (.ref Dd) d := by
 cases f with
 | pure ds st =>
  refine x12 m ?_
  clear m
  intro vs hl r
  have hf : ∀ a ∈ fr, a ∈ Dd :: fr := fun a ha => List.mem_cons_of_mem _ ha
  exact (m12 al' (S.open hf) (.list Dd vs ds (fun q => S.sto.dj Dd q List.mem_cons_self) nf hl (r.open hf)))
 | made => exact ⟨_, S.adopt ha nf m⟩
noncomputable def UseOk (prog : Program) (w : World) (G : Nms) (hT : Heap) (n : Nat) (A : Around) (env : Env) (sc : Scope) (al fr ow : List Addr) (ρ : Env') (st stE : St) (s : Shared) (d : D) (use : Option (Value → Sem Unit)) (Q : Value → Shared → Prop) : Prop := match use with
 | none => ∀ v s', PostE prog w hT al fr st stE s d v s' → Q v s'
 | some u => ∃ i, (∀ {al1 fr1 : List Addr} {s5 : Shared} {v : Value}, Here prog w G.v G.c hT n A env sc al1 fr1 ow ρ stE s5 → RD al1 fr1 s5.heap v d → wpAny (model prog w) A (u v) (fun j s' => Stored prog w G.v hT env sc al1 fr1 ow (put i (some d) ρ) stE s5 s') FF s5) ∧
  ∀ v s', (∃ al', Stp prog w hT fr ow al al' st stE s s' ∧ EnvOk G.v env sc al' fr ow (put i (some d) ρ) s'.heap) → Q v s'
theorem comp_gen (NN : NOk G) (H : Here prog w G.v G.c hT n A env sc al fr ow ρ st s) {e : Expr} {g : Comprehension} {gs : List Comprehension} {pos : Pos} {newAcc first : Sem Value} {o : Obj} {acc0 acc' : MO} {src : Src} {st1 st2 stE : St} {d : D}
  {use : Option (Value → Sem Unit)} {Q : Value → Shared → Prop}
  (hcl : clausesOf e = g :: gs) (hset : notSet g.iter = true) (csc : cScope G sc sc2 own = true)
  (hacc : ∀ (s : Shared) (Q : Value → Shared → Prop), Q (.ref s.heap.objs.size) { s with heap := s.heap.push o } → wpAny (model prog w) A newAcc Q FF s) (hof : o.isFreed = false)
  (hmo : ∀ (al fr : List Addr) (h : Heap) (a : Addr), h.get? a = some o → MO2 prog w al fr h h a acc0)
  (hstart : ∀ (R : Result → Shared → Prop) (s : Shared) (I D : Addr) (cenv : Env), codeAny (model prog w) A (.compLoop e 0 (.ref I) (.ref D) cenv) R s → (∀ (Q : Value → Shared → Prop) (E : Value → Shared → Prop), Q (.ref I) s → wpAny (model prog w) A (pyIter (.ref I)) Q E s) →
   codeAny (model prog w) A (.compStart e 0 (.ref I) (.ref D) cenv) R s)
  (hloop : ∀ {cenv : Env} {al1 fr1 ow1 : List Addr} {I D : Addr} {R : Result → Shared → Prop} {s4 : Shared}, Here prog w G.v G.c hT n A cenv sc2 al1 fr1 ow1 (hide own ρ) st1 s4 → SrcOk prog w al1 fr1 st1 s4.heap I src → MO2 prog w al1 fr1 s4.heap s4.heap D acc0 → Fenced cenv fr1 ow1 I → Fenced cenv fr1 ow1 D → I ≠ D →
   (∀ (al2 : List Addr) (ρ' : Env') (s5 : Shared), Stp prog w hT fr1 (I :: D :: ow1) al1 al2 st1 st2 s4 s5 → EnvOk G.v cenv sc2 al2 fr1 ow1 ρ' s5.heap → MO2 prog w al2 fr1 s5.heap s5.heap D acc' → R (.ok .next) s5) → codeAny (model prog w) A (.compLoop e 0 (.ref I) (.ref D) cenv) R s4)
  (hfin : Fin1 acc' st2 d stE)
  (hfirst : wpAny (model prog w) A first (fun x s₁ => wpAny (model prog w) A (pyIter x) (SrcMade prog w G.v hT env sc al fr ow ρ st st1 s src) FF s₁) FF s)
  (huse : UseOk prog w G hT n A env sc al fr ow ρ st stE s d use Q) :
  wpAny (model prog w) A (comprehension e sc2 env pos newAcc false first use) Q FF s := by
 have fcs := free_cells H.env csc
 refine wpAny_comprehension_free hcl (fun x => by cases q : g.iter <;> first | rfl | (rw [q] at hset; cases hset)) (closure_ok fcs) (cScope_kind csc) (fun x hx hk => by rw [cScope_uniq csc x hx, hk]) (wpAny_mono hfirst (fun x s1 h1 => wpAny_mono h1 (fun it s2 ⟨I, al1, P⟩ => ?_) fun j j q => q) fun j j q => q)
 obtain ⟨rfl, S2, lo, lt, nal, sto, env2, src2, self⟩ := P
 refine hacc _ _ (compEnv_made ?_)
 have k3 : ∀ b x, s2.heap.get? b = some x → (s2.heap.push o).get? b = some x := fun b x e => Heap.get?_push_of_some o e
 have z3 : s2.heap.objs.size < (s2.heap.push o).objs.size := by rw [Heap.size_push]; exact Nat.lt_succ_self _
 have n3 : ∀ a ∈ [s2.heap.objs.size], s2.heap.objs.size ≤ a := fun a ha => by rw [List.mem_singleton.mp ha]; exact Nat.le_refl _
 have sto3 : Sto prog w hT al1 (s2.heap.objs.size :: I :: fr) st1 (s2.heap.push o) := sto.fence (N := [s2.heap.objs.size]) k3 (Nat.le_of_lt z3) fun a ha => ⟨n3 a ha, by rw [List.mem_singleton.mp ha]; exact z3⟩
 have env3 : EnvOk G.v env sc al1 (s2.heap.objs.size :: I :: fr) ow ρ (s2.heap.push o) := env2.fence (N := [s2.heap.objs.size]) sto k3 n3
 have src3 : SrcOk prog w al1 (s2.heap.objs.size :: I :: fr) st1 (s2.heap.push o) I src := src2.fence (N := [s2.heap.objs.size]) k3 n3
 generalize hD : s2.heap.objs.size = Dd at *
 have o3 : (s2.heap.push o).get? Dd = some o := hD ▸ Heap.get?_push_size _ hof
 generalize hh3 : s2.heap.push o = h3 at *
 show codeAny (model prog w) A (.compStart e 0 (.ref I) (.ref Dd) (cEnv sc2 env h3.objs.size)) (compPost (model prog w) A FF use Q (.ref Dd) h3.objs.size) { s2 with heap := cHeap sc2 h3 }
 refine x02 (cNew_ok (sc2 := sc2) (h := h3)) ?_
 intro hN _
 have env4 := comp_env NN.nm env3 sto3 csc
 have k4 : ∀ b x, h3.get? b = some x → (cHeap sc2 h3).get? b = some x := fun b x e => cHeap_keeps e
 have z4 : h3.objs.size ≤ (cHeap sc2 h3).objs.size := Nat.le_of_lt (hN h3.objs.size List.mem_cons_self).2
 have sto4 := sto3.fence k4 z4 hN
 have src4 := src3.fence (N := cNew sc2 h3.objs.size) k4 fun a ha => (hN a ha).1
 have o4 := k4 _ _ o3
 generalize hL : h3.objs.size = L at *
 generalize hNn : cNew sc2 L = Nw at *
 have LN : L ∈ Nw := hNn ▸ List.mem_cons_self
 have I3 : I < L := Nat.lt_trans (hD ▸ lt) (hD ▸ z3)
 have D3 : Dd < L := z3
 have ID : I ≠ Dd := Nat.ne_of_lt (hD ▸ lt)
 generalize hh4 : cHeap sc2 h3 = h4 at *
 have H4 : Here prog w G.v G.c hT n A (cEnv sc2 env L) sc2 al1 (Nw ++ Dd :: I :: fr) Nw (hide own ρ) st1 { s2 with heap := h4 } := ⟨H.hd, Nat.le_trans H.tk S2.rest.tk, H.dp, H.un, sto4, NN.dot sc2 _ (cScope_dot csc), env4⟩
 have fen : ∀ {a : Addr}, a ∈ Dd :: I :: fr → a < L → (∀ x c, env.cells.lookup x = some c → c ≠ a) → Fenced (cEnv sc2 env L) (Nw ++ Dd :: I :: fr) Nw a := fun {a} m l nc =>
  ⟨List.mem_append.mpr (.inr m), fun q => Nat.lt_irrefl _ (Nat.lt_of_lt_of_le l (hN a q).1), Nat.ne_of_gt l, fun x c e q => by
   subst q
   have e : (cellsFrom (L + 1) sc2.names (cloL env sc2.names [])).lookup x = some c := e
   rw [cellsFrom_acc] at e
   rcases lookup_app e with e | ⟨_, e⟩
   · have : c ∈ Nw := hNn ▸ List.mem_cons_of_mem _ (List.mem_map.mpr (m12 (x, c) (mem_of_lookup e) rfl))
     exact Nat.lt_irrefl _ (Nat.lt_of_lt_of_le l (hN c this).1)
   · rcases cloL_lookup fcs e with e | e
     · exact no e
     · exact nc x c e rfl⟩
 have cells : ∀ x c, env.cells.lookup x = some c → c < s.heap.objs.size := fun x c e => by
  obtain ⟨_, _, v, hv⟩ := H.env.cfr x c e
  exact hv.lt
 have dlo : s.heap.objs.size ≤ Dd := Nat.le_trans lo (Nat.le_of_lt (hD ▸ lt))
 have FI := fen (a := I) (List.mem_cons_of_mem _ List.mem_cons_self) I3 fun x c e q => Nat.lt_irrefl _ (Nat.lt_of_lt_of_le (q ▸ cells x c e) lo)
 have FD := fen (a := Dd) List.mem_cons_self D3 fun x c e q => Nat.lt_irrefl _ (Nat.lt_of_lt_of_le (q ▸ cells x c e) dlo)
 have k24 : ∀ b x, s2.heap.get? b = some x → h4.get? b = some x := fun b x e => k4 b x (k3 b x e)
 refine hstart _ _ _ _ _ (hloop H4 src4 (hmo _ _ _ _ o4) FI FD ID fun al2 ρ' s5 S45 E5 M5 => ?_) fun Q E q => self A Q E _ (fun o e => k24 I o e) q
 have llo : s.heap.objs.size ≤ L := Nat.le_trans dlo (Nat.le_of_lt D3)
 have Lfr : L ∉ fr := fun q => Nat.lt_irrefl _ (Nat.lt_of_lt_of_le (H.sto.new L (.inr q)).2 llo)
 have Dfr : Dd ∉ L :: fr := fun q => by
  rcases List.mem_cons.mp q with q | q
  · exact Nat.ne_of_lt D3 q
  · exact Nat.lt_irrefl _ (Nat.lt_of_lt_of_le (H.sto.new Dd (.inr q)).2 dlo)
 have hf5 : ∀ a ∈ Dd :: L :: fr, a ∈ Nw ++ Dd :: I :: fr := fun a ha => by
  rcases mc ha with rfl | ha
  · exact List.mem_append.mpr (.inr List.mem_cons_self)
  · rcases mc ha with rfl | ha
    · exact List.mem_append.mpr (.inl LN)
    · exact List.mem_append.mpr (.inr (List.mem_cons_of_mem _ (List.mem_cons_of_mem _ ha)))
 have z24 : s2.heap.objs.size ≤ h4.objs.size := by rw [hD]; exact Nat.le_trans (Nat.le_of_lt z3) z4
 have S25 : Stp prog w hT (Dd :: L :: fr) [I] al1 al2 st1 st2 s2 s5 := Stp.inner (s₂ := { s2 with heap := h4 }) k24 z24 ⟨rfl, Nat.le_refl _, .refl⟩ S45 hf5 fun a ha => by
  rcases mc ha with rfl | ha
  · exact .inl List.mem_cons_self
  · rcases mc ha with rfl | ha
    · exact .inr (Nat.le_of_eq hD)
    · exact .inr (by rw [hD]; exact Nat.le_trans (Nat.le_of_lt z3) (hN a ha).1)
 have S05 : Stp prog w hT (Dd :: L :: fr) [] al al2 st st2 s s5 := by
  refine x12 S2.pre ?_
  intro m1 e1 q1
  have S2' : Stp prog w hT fr [I] al al1 st st1 s s2 := S2.wide fun a ha => nomatch ha
  have := S2'.trans (S25.open (fr := fr) fun a ha => List.mem_cons_of_mem _ (List.mem_cons_of_mem _ ha))
  have := this.wide (ow := []) fun a ha => by rw [List.mem_singleton.mp ha]; exact .inr lo
  exact ⟨this.pre, S25.sto, this.kp, this.rest⟩
 refine x12 (fin1_ok hfin S05 dlo Dfr (M5.open hf5)) ?_
 intro alE SE RE
 refine x12 E5.ns ?_
 intro m hm _
 have hm : s5.heap.Ns L m := hm
 have opn : ∀ a ∈ fr, a ∈ L :: fr := fun a ha => List.mem_cons_of_mem _ ha
 induction use using Option.casesOn with
 | none =>
  refine ⟨m, hm, fun h6 hs6 => huse _ _ ?_⟩
  have S6 := Stp.but (htk := Nat.le_refl _) (tk := s5.toks) SE.sto List.mem_cons_self (Nat.le_of_eq hs6.1.symm) hs6.extBut
  have T6 := (SE.wide (ow := [L]) fun a ha => nomatch ha).trans S6
  have R6 := RE.stepF S6 fun a ha => by rw [List.mem_singleton.mp ha]; exact List.mem_cons_self
  exact ⟨alE, (T6.open opn).wide fun a ha => by rw [List.mem_singleton.mp ha]; exact .inr llo, R6.open opn⟩
 | some u =>
  refine x12 huse ?_
  clear huse
  intro i hu hq
  have Ev5 : EnvOk G.v env sc alE (L :: fr) ow ρ s5.heap := by
   have e0 := H.env.step H.sto (SE.open opn)
   have E2 := env2
   refine (EnvOk.to H.env (fun v d r => ?_) (fun b o q e => SE.kp.keep b o (fun z => ?_) (fun z => nomatch z) e) (fun a ha => opn _ (H.env.sub a ha)) fun x c e => opn _ (H.env.cfr x c e).1)
   · refine r.mono (fun b o n1 n2 e => ⟨SE.kp.keep b o n1 (fun z => nomatch z) e, SE.notNew n1 e, fun z => ?_⟩) fun k a e => SE.get e
     rcases List.mem_cons.mp z with z | z
     · exact Nat.lt_irrefl _ (Nat.lt_of_lt_of_le (Heap.lt_size e) (z ▸ llo))
     · exact n2 z
   · rcases q with rfl | ⟨x, hx⟩
     · exact H.sto.dj _ z (H.env.sub _ H.env.lo)
     · exact H.sto.dj _ z (H.env.cfr x b hx).1
  have H5 : Here prog w G.v G.c hT n A env sc alE (L :: fr) ow ρ stE s5 := ⟨H.hd, Nat.le_trans H.tk SE.rest.tk, H.dp, H.un, SE.sto, H.cd, Ev5⟩
  refine wpAny_mono (hu H5 RE) (fun j s6 pp => x02 pp fun S6 E6 => ?_) fun j j q => q
  have Low : L ∉ ow := fun q => Lfr (H.env.sub L q)
  have Lal : L ∉ alE := fun q => SE.sto.dj L q List.mem_cons_self
  refine (m12 m (hm.at' fun o e => S6.kp.keep L o Lal Low e) (fun h7 hs7 => hq _ _ ?_))
  have S7 := Stp.but (htk := by first | exact Nat.le_refl _ | lia | omega) (tk := s6.toks) S6.sto (List.mem_cons_self (a := L) (l := fr)) (Nat.le_of_eq hs7.1.symm) hs7.extBut
  have T7 := ((SE.wide (ow := L :: ow) fun a ha => nomatch ha).trans (S6.wide fun a ha => .inl (List.mem_cons_of_mem _ ha))).trans (S7.wide fun a ha => .inl (List.mem_singleton.mp ha ▸ List.mem_cons_self))
  have E7 : EnvOk G.v env sc alE (L :: fr) ow (put i (some d) ρ) h7 := E6.beside S6.sto S7 (fun a ha => List.mem_singleton.mp ha ▸ List.mem_cons_self) (fun q => Low (List.mem_singleton.mp q ▸ H.env.lo)) fun x c e q => by
   have := cells x c e
   rw [List.mem_singleton.mp q] at this
   exact Nat.lt_irrefl _ (Nat.lt_of_lt_of_le this llo)
  refine (m12 alE ((T7.open opn).wide fun a ha => ?_) (E7.to (fun v d r => r.open opn) (fun b o j e => e) H.env.sub fun x c e => (H.env.cfr x c e).1))
  rcases mc ha with rfl | ha
  · exact .inr llo
  · exact .inl ha
end
end Mine
end
noncomputable section
open PySem PySem.W PyProof.Rows PySem.Spec PySem.Calls
namespace Mine
variable [Val]
section
variable {prog : Program} {w : World} {G : Nms} {hT : Heap} {n : Nat} {A : Around} {env : Env} {sc sc2 : Scope} {al al' al'' fr fr' N ow ow' : List Addr} {ρ ρ' : Env'} {st st' st'' : St} {s s₁ s₂ s₃ s' s'' : Shared} {h h' : Heap} {I Dd : Addr} {own : List Nat}
theorem srcTgt_of {ev : Ev} {it : IT} {src : Src} {t : Tgt} {te : Expr} (h : srcOf ev ρ st it = some (src, st')) (c : itTgt it t = true) (ct : cTgt G sc t te = true) : srcTgt src te = true := by
 induction t using Tgt.casesOn with
 | tup is =>
  refine vTup_e ct fun es k p jj => ?_
  exact Bool.or_eq_true_iff.mpr (.inr vTup_mk)
 | var i =>
  refine x12 (tgName_iff ct) ?_
  intro pos eq1 _
  subst eq1
  have k : isItems src = false := by
   induction it using IT.casesOn with
   | items x => exact nb c
   | val x =>
    replace h : (match ev ρ st x with
     | some (.list xs, st) => some (Src.pure xs, st)
     | some (.str s, st) => match asciiD s with | true => some (.pure (s.map fun c => .str [c]), st) | false => none
     | some (.ob k, st) => match lk k st.mu with | some (v, .list _) => some (.mlist k v 0, st) | _ => none
     | _ => none) = some (src, st') := h
    cases h1 : ev ρ st x with
    | none => rw [h1] at h; exact no h
    | some p =>
     obtain ⟨d, st1⟩ := p
     rw [h1] at h
     induction d using D.casesOn with
     | list xs => rw [← (ou h).1]; rfl
     | str x' =>
      replace h := ifI h
      refine x02 h ?_
      clear h
      intro z h
      rw [← (ou h).1]; rfl
     | ob k =>
      replace h : (match lk k st1.mu with | some (v, .list _) => some (Src.mlist k v 0, st1) | _ => none) = some (src, st') := h
      cases z : lk k st1.mu with
      | none => rw [z] at h; exact no h
      | some p =>
       obtain ⟨v, mo⟩ := p
       rw [z] at h
       induction mo using MO.casesOn with
       | list xs => rw [← (ou h).1]; rfl
       | _ => exact no h
     | _ => exact no h
   | rng a b =>
    induction a using Option.casesOn with
    | none =>
     refine x22 (oIS h) ?_
     try clear h
     intro b st1 h1 h
     replace h := ifI h
     refine x02 h ?_
     clear h
     intro z h
     rw [← (ou h).1]; rfl
    | some a =>
     refine x22 (oIS h) ?_
     try clear h
     intro a st1 h1 h
     refine x22 (oIS h) ?_
     try clear h
     intro b st2 h2 h
     replace h := ifI h
     refine x02 h ?_
     clear h
     intro z h
     rw [← (ou h).1]; rfl
  unfold srcTgt isName
  rw [k, vName_mk]
  rfl
omit [Val] in
theorem oML {α : Type} {F : List D → Option α} {x : MO} {r : α} (e : (match x with | .list xs => F xs | _ => none) = some r) : ∃ xs, x = .list xs ∧ F xs = some r := by
 induction x using MO.casesOn with
 | list xs => exact (m12 xs rfl e)
 | _ => exact no e
omit [Val] in
theorem oMD {α : Type} {F : List (Int × D) → Option α} {x : MO} {r : α} (e : (match x with | .dic xs => F xs | _ => none) = some r) : ∃ xs, x = .dic xs ∧ F xs = some r := by
 induction x using MO.casesOn with
 | dic xs => exact (m12 xs rfl e)
 | _ => exact no e
omit [Val] in
theorem oTL {α : Type} {F : List D → St → Option α} {x : Option (MO × Env' × St)} {r : α} (e : (match x with | some (.list xs, _, st) => F xs st | _ => none) = some r) : ∃ xs ρ st, x = some (.list xs, ρ, st) ∧ F xs st = some r := by
 induction x using Option.casesOn with
 | none => exact no e
 | some p =>
  obtain ⟨m, ρ, st⟩ := p
  induction m using MO.casesOn with
  | list xs => exact (m32 xs ρ st rfl e)
  | _ => exact no e
omit [Val] in
theorem oTD {α : Type} {F : List (Int × D) → St → Option α} {x : Option (MO × Env' × St)} {r : α} (e : (match x with | some (.dic xs, _, st) => F xs st | _ => none) = some r) : ∃ xs ρ st, x = some (.dic xs, ρ, st) ∧ F xs st = some r := by
 induction x using Option.casesOn with
 | none => exact no e
 | some p =>
  obtain ⟨m, ρ, st⟩ := p
  induction m using MO.casesOn with
  | dic xs => exact (m32 xs ρ st rfl e)
  | _ => exact no e
theorem emit1_ok {ev : Ev} (IH : EvOk prog w G hT n ev) {fr ow : List Addr} {elt : X} {ee : Expr} {f : Nat} (c : cE G f sc elt ee = true) (hD : Dd ∈ fr) (_hDo : Dd ∉ ow) (nlo : env.locals ≠ Dd) (ncl : ∀ x c, env.cells.lookup x = some c → c ≠ Dd) :
  EmitOk prog w G hT n A env sc fr ow Dd (do let _ ← call (.builtin "list.append") [.ref Dd, ← eval ee env]) (emit1 ev elt) := by
 intro ρ st acc acc' ρ' st' al s h H M
 simp only [emit1] at h
 first | replace h := oDS h | replace h := oLS h | replace h := oIS h | replace h := oSr h | replace h := oTS h | replace h := oSx h | replace h := oSf h | replace h := oLi h | replace h := oInst h | replace h := oFS h
 refine x22 h ?_
 clear h
 intro d st1 h1 h
 replace h := oML h
 refine x12 h ?_
 clear h
 intro xs eq1 h
 subst eq1
 replace h := ifI h
 refine x02 h ?_
 clear h
 intro z h
 cases h
 refine wpAny_bind (wpAny_mono (IH h1 c H) (fun v s1 pp => x12 pp fun al1 S1 r1 => ?_) fun j j q => q)
 have M1 := M.stepF S1 (fun a ha => nomatch ha) (fun q => nomatch q) (H.sto.dj Dd · hD)
 refine x12 M1 ?_
 clear M1
 intro vs hl rv
 have hsz : vs.toArray.size ≤ sizeLine := by
  have := fits_le z
  rw [List.size_toArray, rv.length]; exact this
 refine wpAny_bind (wpAny_list_append_plain (hsz := hsz) hl fun h' hl' hsb => wpAny_pure ?_)
 have S2 := Stp.but (htk := Nat.le_refl _) (tk := s1.toks) S1.sto hD (Nat.le_of_eq hsb.1.symm) hsb.extBut
 have sub : ∀ a ∈ [Dd], a ∈ fr := fun a ha => by rw [List.mem_singleton.mp ha]; exact hD
 have E1 := H.env.step H.sto S1
 refine ⟨al1, (S1.wide fun a ha => nomatch ha).trans (S2.wide fun a ha => .inl (List.mem_singleton.mp ha ▸ List.mem_cons_self)), ?_, vs ++ [v], by simpa using hl', (rv.stepF S2 sub).append (.cons (r1.stepF S2 sub) .nil)⟩
 exact E1.beside S1.sto S2 sub (fun q => nlo (List.mem_singleton.mp q)) fun x c e q => ncl x c e (List.mem_singleton.mp q)
theorem emitD_ok {ev : Ev} (IH : EvOk prog w G hT n ev) {fr ow : List Addr} {k v : X} {ke ve : Expr} {f : Nat} {p : Pos} (c : cE G f sc k ke = true) (c2 : cE G f sc v ve = true) (hD : Dd ∈ fr) (_hDo : Dd ∉ ow) (nlo : env.locals ≠ Dd) (ncl : ∀ x c, env.cells.lookup x = some c → c ≠ Dd) :
  EmitOk prog w G hT n A env sc fr ow Dd (do
    let kv ← eval ke env
    let vv ← holding [kv] (eval ve env)
    standAt p
    holding [kv, vv] (dictSet Dd kv vv)) (emitD ev k v) := by
 intro ρ st acc acc' ρ' st' al s h H M
 simp only [emitD] at h
 first | replace h := oDS h | replace h := oLS h | replace h := oIS h | replace h := oSr h | replace h := oTS h | replace h := oSx h | replace h := oSf h | replace h := oLi h | replace h := oInst h | replace h := oFS h
 refine x22 h ?_
 clear h
 intro a st1 h1 h
 first | replace h := oDS h | replace h := oLS h | replace h := oIS h | replace h := oSr h | replace h := oTS h | replace h := oSx h | replace h := oSf h | replace h := oLi h | replace h := oInst h | replace h := oFS h
 refine x22 h ?_
 clear h
 intro d st2 h2 h
 replace h := oMD h
 refine x12 h ?_
 clear h
 intro es eq1 h
 subst eq1
 replace h := ifI h
 refine x02 h ?_
 clear h
 intro z h
 cases h
 refine wpAny_bind (wpAny_mono (IH h1 c H) (fun kv s1 pp => x12 pp fun al1 S1 r1 => ?_) fun j j q => q)
 refine wpAny_bind (wpAny_holding (wpAny_mono (IH h2 c2 (H.step S1)) (fun vv s2 pp => x12 pp fun al2 S2 r2 => ?_) fun j j q => q))
 have S12 := S1.trans S2
 have M2 := M.stepF S12 (fun a ha => nomatch ha) (fun q => nomatch q) (H.sto.dj Dd · hD)
 refine x13 M2 ?_
 clear M2
 intro kvs hd ek rk
 have hsz : kvs.length ≤ sizeLine := by rw [len_of ek]; exact fits_le z
 refine wpAny_bind (wpAny_standAt (wpAny_holding ?_))
 refine x11 r1.to ?_
 intro t eq1
 subst eq1
 refine wpAny_dictSet_pairs (hsz := hsz) (knd := intKind prog w) (k := a) (by exact if_pos rfl) hd fun h' hd' hsb => ?_
 have S3 := Stp.but (htk := Nat.le_succ _) (tk := s2.toks + 1) S2.sto hD (Nat.le_of_eq hsb.1.symm) hsb.extBut
 have sub : ∀ a ∈ [Dd], a ∈ fr := fun a ha => by rw [List.mem_singleton.mp ha]; exact hD
 have E2 := H.env.step H.sto S12
 have nd : (kvs.map (·.1)).Nodup := by obtain ⟨_, _, _, _, _, _, _, _, nd⟩ := hd; exact nd
 have ps := putI_stored (k := a) nd ek (rk.stepF S3 sub) (r2.stepF S3 sub)
 refine ⟨al2, (S12.wide fun a ha => nomatch ha).trans (S3.wide fun a ha => .inl (List.mem_singleton.mp ha ▸ List.mem_cons_self)), ?_, _, hd', ps.1, ps.2⟩
 exact E2.beside S2.sto S3 sub (fun q => nlo (List.mem_singleton.mp q)) fun x c e q => ncl x c e (List.mem_singleton.mp q)
theorem Fenced.fresh (H : Here prog w G.v G.c hT n A env sc al fr ow ρ st s) (lo : s.heap.objs.size ≤ I) : Fenced env (I :: fr) ow I :=
 ⟨List.mem_cons_self, fun q => Nat.lt_irrefl _ (Nat.lt_of_lt_of_le (H.sto.new I (.inr (H.env.sub I q))).2 lo), fun q => Nat.lt_irrefl _ (Nat.lt_of_lt_of_le (H.sto.new I (.inr (q ▸ H.env.sub _ H.env.lo))).2 lo),
  fun x c e q => Nat.lt_irrefl _ (Nat.lt_of_lt_of_le (H.sto.new I (.inr (q ▸ (H.env.cfr x c e).1))).2 lo)⟩
theorem start_list1 {elt g rest scope pos it acc} {d : Nat} {env : Env} {R : Result → Shared → Prop} {t2 i2 : Expr} {ifs2 : List Expr} (hd : d = 1) (hr : rest = [⟨t2, i2, ifs2, 0⟩])
  (h0 : codeAny (model prog w) A (.compLoop (.ListComp elt (g :: rest) scope pos) d it acc env) R s)
  (h : wpAny (model prog w) A (pyIter it) (fun it' s' => codeAny (model prog w) A (.compLoop (.ListComp elt (g :: rest) scope pos) d it' acc env) R s')
   (notedBy (model prog w) A env fun x s' => R (.error x) s') s) :
  codeAny (model prog w) A (.compStart (.ListComp elt (g :: rest) scope pos) d it acc env) R s := by
 subst hd hr
 refine codeAny_of_tree ?_
 show wpAny _ _ ((compStart (.ListComp elt (g :: [⟨t2, i2, ifs2, 0⟩]) scope pos) 1 it acc env).onRaise (fun x => do noteFrame x env; standAt theWindowsPlace)) _ _ s
 refine wpAny_notedAt ?_
 unfold compStart
 show wpAny _ _ (ask >>= _) _ _ s
 refine wpAny_bind (wpAny_askSetting (wpAny_ite ?_))
 split
 · first
     | exact wpAny_bind (wpAny_pure (wpAny_pure (And.intro rfl h0)))
     | exact wpAny_pure (And.intro rfl h0)
 · first
     | exact wpAny_bind (wpAny_rule (wpAny_bind (wpAny_standAt (wpAny_bind (wpAny_mono h (fun it' s' h' => wpAny_pure (And.intro rfl h')) fun j j x => x)))))
     | (refine wpAny_bind (wpAny_rule ?_); show wpAny _ _ (standAt i2.pos >>= _) _ _ s; exact wpAny_bind (wpAny_standAt (wpAny_bind (wpAny_mono h (fun it' s' h' => wpAny_pure (And.intro rfl h')) fun j j x => x))))
noncomputable def CompRuns (prog : Program) (w : World) (G : Nms) (hT : Heap) (n : Nat) (A : Around) (env : Env) (sc : Scope) (al fr ow : List Addr) (ρ : Env') (st stE : St) (s : Shared) (d : D) (e : Expr) : Prop :=
 ∃ sc2 pos newAcc first, eval e env = comprehension e sc2 env pos newAcc false first none ∧ (∀ u, evalThenUse e env u = (do let _ ← comprehension e sc2 env pos newAcc false first (some u))) ∧
  ∀ use Q, UseOk prog w G hT n A env sc al fr ow ρ st stE s d use Q → wpAny (model prog w) A (comprehension e sc2 env pos newAcc false first use) Q FF s
theorem step_list1 {elt target iter : Expr} {ifs : List Expr} {scope : Scope} {pos : Pos} {it acc : Value} {env : Env} (Q : Fin → Shared → Prop) (E : Value → Shared → Prop) (s : Shared)
  (h : wpAny (model prog w) A (turnTree iter.pos target ifs it env ((do let _ ← call (.builtin "list.append") [acc, ← eval elt env]) >>= fun j => again (.compLoop (.ListComp elt [⟨target, iter, ifs, 0⟩] scope pos) 0 it acc env)) (again (.compLoop (.ListComp elt [⟨target, iter, ifs, 0⟩] scope pos) 0 it acc env))) Q FF s) :
  wpAny (model prog w) (A.under (.compLoop (.ListComp elt [⟨target, iter, ifs, 0⟩] scope pos) 0 it acc env)) ((model prog w).den (.compLoop (.ListComp elt [⟨target, iter, ifs, 0⟩] scope pos) 0 it acc env)) Q E s := by
 show wpAny _ A ((compTurn (.ListComp elt [⟨target, iter, ifs, 0⟩] scope pos) 0 it acc env).onRaise (fun x => do noteFrame x env; theTreesLotGoes x)) _ _ s
 refine wpAny_noted ?_
 rw [turn_list1]
 exact wpAny_mono h (fun j j q => q) fun j j q => q.elim
theorem seq_yes {EM : Sem Unit} {c : Code} (Q : Fin → Shared → Prop) (s : Shared) (h : wpAny (model prog w) A EM (fun j s' => wpAny (model prog w) A (again c) Q FF s') FF s) : wpAny (model prog w) A (EM >>= fun j => again c) Q FF s := wpAny_bind h
theorem lcomp_node (NN : NOk G) (B : Bis hT) {ev : Ev} (IH : EvOk prog w G hT n ev) (J : TsOk prog w G hT n ev) (H : Here prog w G.v G.c hT n A env sc al fr ow ρ st s) {m : Bool} {elt : X} {t : Tgt} {it : IT} {ifs : List X} {ee te ie : Expr} {ifes : List Expr} {pos : Pos} {d : D} {f : Nat}
  (h : (match srcOf ev ρ st it with
  | some (src, st) => match turns ev t ifs (emit1 ev elt) 1000 (hide own ρ) st src (.list []) with
   | some (.list ds, _, st) => some (newL m st ds)
   | _ => none
  | none => none) = some (d, st'))
  (c1 : cIt (cE G f sc) sc it ie = true) (c2 : itTgt it t = true) (c3 : notSet ie = true) (c4 : cScope G sc sc2 own = true) (c5 : cTgt G sc2 t te = true) (c6 : cIfs (cT G f sc2) ifs ifes = true) (c7 : cE G f sc2 elt ee = true) :
  CompRuns prog w G hT n A env sc al fr ow ρ st st' s d (.ListComp ee [⟨te, ie, ifes, 0⟩] sc2 pos) := by
 first | replace h := oDS h | replace h := oLS h | replace h := oIS h | replace h := oSr h | replace h := oTS h | replace h := oSx h | replace h := oSf h | replace h := oLi h | replace h := oInst h | replace h := oFS h
 refine x22 h ?_
 clear h
 intro src st1 h1 h
 first | replace h := oTL h | replace h := oTD h
 refine x32 h ?_
 clear h
 intro ds ρ2 st2 h2 h
 refine ⟨sc2, _, newList [], eval ie env, rfl, fun u => rfl, fun use Q hu => ?_⟩
 have fin : Fin1 (.list ds) st2 d st' := by
  have h := Option.some.inj h
  induction m using Bool.casesOn with
  | false => simp only [newL, Prod.mk.injEq] at h; obtain ⟨rfl, rfl⟩ := h; exact .pure _ _
  | true => simp only [newL, newM, Prod.mk.injEq] at h; obtain ⟨rfl, rfl⟩ := h; exact .made _ _
 refine comp_gen NN H (g := ⟨te, ie, ifes, 0⟩) (gs := []) (o := { cls := .type "list", data := .seq #[] }) (acc0 := .list []) rfl c3 c4 (fun s Q q => wpAny_newObj_type q) rfl (fun al fr h a e => ⟨[], ⟨0, e⟩, .nil⟩)
  (fun R s I D cenv a b => codeAny_compStart_list a (b _ _ a)) (fun H4 K M FI FD ID k => ?_) fin (src_ok B IH H h1 c1) hu
 exact loop_ok NN.nm J rfl step_list1 seq_yes FI FD ID c5 c6 (emit1_ok IH c7 FD.mem FD.now FD.nlo FD.ncl) 1000 h2 H4 K (srcTgt_of h1 c2 c5) M fun al' s' a b c => k al' _ s' a b c
end
end Mine
end
noncomputable section
open PySem PySem.W PyProof.Rows PySem.Spec PySem.Calls
namespace Mine
variable [Val]
section
variable {prog : Program} {w : World} {G : Nms} {hT : Heap} {n : Nat} {A : Around} {env : Env} {sc sc2 : Scope} {al al' al'' fr fr' N ow ow' : List Addr} {ρ ρ' : Env'} {st st' st'' : St} {s s₁ s₂ s₃ s' s'' : Shared} {h h' : Heap} {I Dd : Addr} {own : List Nat}
theorem step_dict {k v target iter : Expr} {ifs : List Expr} {scope : Scope} {pos : Pos} {it : Value} {d : Addr} {env : Env} (Q : Fin → Shared → Prop) (E : Value → Shared → Prop) (s : Shared)
  (h : wpAny (model prog w) A (turnTree iter.pos target ifs it env ((do
    let kv ← eval k env
    let vv ← holding [kv] (eval v env)
    standAt { k.pos with endLine := v.pos.endLine, endCol := v.pos.endCol }
    holding [kv, vv] (dictSet d kv vv)) >>= fun j => again (.compLoop (.DictComp k v [⟨target, iter, ifs, 0⟩] scope pos) 0 it (.ref d) env)) (again (.compLoop (.DictComp k v [⟨target, iter, ifs, 0⟩] scope pos) 0 it (.ref d) env))) Q FF s) :
  wpAny (model prog w) (A.under (.compLoop (.DictComp k v [⟨target, iter, ifs, 0⟩] scope pos) 0 it (.ref d) env)) ((model prog w).den (.compLoop (.DictComp k v [⟨target, iter, ifs, 0⟩] scope pos) 0 it (.ref d) env)) Q E s := by
 show wpAny _ A ((compTurn (.DictComp k v [⟨target, iter, ifs, 0⟩] scope pos) 0 it (.ref d) env).onRaise (fun x => do noteFrame x env; theTreesLotGoes x)) _ _ s
 refine wpAny_noted ?_
 rw [turn_dict]
 exact wpAny_mono h (fun j j q => q) fun j j q => q.elim
theorem dcomp_node (NN : NOk G) (B : Bis hT) {ev : Ev} (IH : EvOk prog w G hT n ev) (J : TsOk prog w G hT n ev) (H : Here prog w G.v G.c hT n A env sc al fr ow ρ st s) {k v : X} {t : Tgt} {it : IT} {ke ve te ie : Expr} {pos : Pos} {d : D} {f : Nat}
  (h : (match srcOf ev ρ st it with
  | some (src, st) => match turns ev t [] (emitD ev k v) 1000 (hide own ρ) st src (.dic []) with
   | some (.dic es, _, st) => some (newM st (.dic es))
   | _ => none
  | none => none) = some (d, st'))
  (c1 : cIt (cE G f sc) sc it ie = true) (c2 : itTgt it t = true) (c3 : notSet ie = true) (c4 : cScope G sc sc2 own = true) (c5 : cTgt G sc2 t te = true) (c6 : cE G f sc2 k ke = true) (c7 : cE G f sc2 v ve = true) :
  CompRuns prog w G hT n A env sc al fr ow ρ st st' s d (.DictComp ke ve [⟨te, ie, [], 0⟩] sc2 pos) := by
 first | replace h := oDS h | replace h := oLS h | replace h := oIS h | replace h := oSr h | replace h := oTS h | replace h := oSx h | replace h := oSf h | replace h := oLi h | replace h := oInst h | replace h := oFS h
 refine x22 h ?_
 clear h
 intro src st1 h1 h
 first | replace h := oTL h | replace h := oTD h
 refine x32 h ?_
 clear h
 intro es ρ2 st2 h2 h
 refine ⟨sc2, _, newDict, eval ie env, rfl, fun u => rfl, fun use Q hu => ?_⟩
 have fin : Fin1 (.dic es) st2 d st' := by
  have h := Option.some.inj h
  simp only [newM, Prod.mk.injEq] at h; obtain ⟨rfl, rfl⟩ := h; exact .made _ _
 refine comp_gen NN H (g := ⟨te, ie, [], 0⟩) (gs := []) (o := { cls := .type "dict", data := .dict #[] }) (acc0 := .dic []) rfl c3 c4 (fun s Q q => wpAny_newObj_type q) rfl
  (fun al fr h a e => ⟨[], ⟨_, #[], 0, e, ⟨rfl, rfl, rfl⟩, rfl, fun e he => by simp at he, .nil, List.nodup_nil⟩, rfl, .nil⟩)
  (fun R s I D cenv a b => codeAny_compStart_dict a (b _ _ a)) (fun H4 K M FI FD ID k => ?_) fin (src_ok B IH H h1 c1) hu
 exact loop_ok NN.nm J rfl step_dict seq_yes FI FD ID (ifes := []) (f0 := 0) c5 rfl (emitD_ok IH c6 c7 FD.mem FD.now FD.nlo FD.ncl) 1000 h2 H4 K (srcTgt_of h1 c2 c5) M fun al' s' a b c => k al' _ s' a b c
theorem step_list2 {elt target iter target2 iter2 : Expr} {ifs ifs2 : List Expr} {scope : Scope} {pos : Pos} {it acc : Value} {env : Env} (Q : Fin → Shared → Prop) (E : Value → Shared → Prop) (s : Shared)
  (h : wpAny (model prog w) A (turnTree iter2.pos target2 ifs2 it env ((do let _ ← call (.builtin "list.append") [acc, ← eval elt env]) >>= fun j => again (.compLoop (.ListComp elt [⟨target, iter, ifs, 0⟩, ⟨target2, iter2, ifs2, 0⟩] scope pos) 1 it acc env)) (again (.compLoop (.ListComp elt [⟨target, iter, ifs, 0⟩, ⟨target2, iter2, ifs2, 0⟩] scope pos) 1 it acc env))) Q FF s) :
  wpAny (model prog w) (A.under (.compLoop (.ListComp elt [⟨target, iter, ifs, 0⟩, ⟨target2, iter2, ifs2, 0⟩] scope pos) 1 it acc env)) ((model prog w).den (.compLoop (.ListComp elt [⟨target, iter, ifs, 0⟩, ⟨target2, iter2, ifs2, 0⟩] scope pos) 1 it acc env)) Q E s := by
 show wpAny _ A ((compTurn (.ListComp elt [⟨target, iter, ifs, 0⟩, ⟨target2, iter2, ifs2, 0⟩] scope pos) 1 it acc env).onRaise (fun x => do noteFrame x env; theTreesLotGoes x)) _ _ s
 refine wpAny_noted ?_
 rw [turn_list2]
 exact wpAny_mono h (fun j j q => q) fun j j q => q.elim
noncomputable def em2 (e iter2 : Expr) (acc : Value) (env : Env) : Sem Unit := do
 let x ← eval iter2 env
 standAt iter2.pos
 let x ← foldedSetIterable iter2 env x
 let _ ← runOwn (.compStart e 1 (← holding [x] (pyIter x)) acc env) env
theorem step_list20 {elt target iter target2 iter2 : Expr} {ifs ifs2 : List Expr} {scope : Scope} {pos : Pos} {it acc : Value} {env : Env} (Q : Fin → Shared → Prop) (E : Value → Shared → Prop) (s : Shared)
  (h : wpAny (model prog w) A (turnTree iter.pos target ifs it env (em2 (.ListComp elt [⟨target, iter, ifs, 0⟩, ⟨target2, iter2, ifs2, 0⟩] scope pos) iter2 acc env >>= fun j => again (.compLoop (.ListComp elt [⟨target, iter, ifs, 0⟩, ⟨target2, iter2, ifs2, 0⟩] scope pos) 0 it acc env)) (again (.compLoop (.ListComp elt [⟨target, iter, ifs, 0⟩, ⟨target2, iter2, ifs2, 0⟩] scope pos) 0 it acc env))) Q FF s) :
  wpAny (model prog w) (A.under (.compLoop (.ListComp elt [⟨target, iter, ifs, 0⟩, ⟨target2, iter2, ifs2, 0⟩] scope pos) 0 it acc env)) ((model prog w).den (.compLoop (.ListComp elt [⟨target, iter, ifs, 0⟩, ⟨target2, iter2, ifs2, 0⟩] scope pos) 0 it acc env)) Q E s := by
 show wpAny _ A ((compTurn (.ListComp elt [⟨target, iter, ifs, 0⟩, ⟨target2, iter2, ifs2, 0⟩] scope pos) 0 it acc env).onRaise (fun x => do noteFrame x env; theTreesLotGoes x)) _ _ s
 refine wpAny_noted ?_
 rw [turn_list20]
 have e1 : (em2 (.ListComp elt [⟨target, iter, ifs, 0⟩, ⟨target2, iter2, ifs2, 0⟩] scope pos) iter2 acc env >>= fun j => again (.compLoop (.ListComp elt [⟨target, iter, ifs, 0⟩, ⟨target2, iter2, ifs2, 0⟩] scope pos) 0 it acc env)) = (do
    let x ← eval iter2 env
    standAt iter2.pos
    let x ← foldedSetIterable iter2 env x
    let _ ← runOwn (.compStart (.ListComp elt [⟨target, iter, ifs, 0⟩, ⟨target2, iter2, ifs2, 0⟩] scope pos) 1 (← holding [x] (pyIter x)) acc env) env
    again (.compLoop (.ListComp elt [⟨target, iter, ifs, 0⟩, ⟨target2, iter2, ifs2, 0⟩] scope pos) 0 it acc env)) := by
  unfold em2
  simp only [bind_assoc, pure_bind]
 rw [e1] at h
 exact wpAny_mono h (fun j j q => q) fun j j q => q.elim
theorem emit2_ok (NN : Names G.v) (B : Bis hT) {ev : Ev} (IH : EvOk prog w G hT n ev) (J : TsOk prog w G hT n ev) {fr ow : List Addr} {elt : X} {ee te ie te2 ie2 : Expr} {ifes : List Expr} {ifs : List X} {t2 : Tgt} {it2 : IT} {f : Nat} {pos : Pos} {scope : Scope}
  (c1 : cIt (cE G f sc) sc it2 ie2 = true) (c2 : itTgt it2 t2 = true) (c3 : notSet ie2 = true) (c5 : cTgt G sc t2 te2 = true) (c6 : cIfs (cT G f sc) ifs ifes = true) (c7 : cE G f sc elt ee = true) (FD : Fenced env fr ow Dd) :
  EmitOk prog w G hT n A env sc fr ow Dd (em2 (.ListComp ee [⟨te, ie, [], 0⟩, ⟨te2, ie2, ifes, 0⟩] scope pos) ie2 (.ref Dd) env) (emit2 ev elt t2 it2 ifs) := by
 intro ρ st acc acc' ρ' st' al s h H M
 simp only [emit2] at h
 first | replace h := oDS h | replace h := oLS h | replace h := oIS h | replace h := oSr h | replace h := oTS h | replace h := oSx h | replace h := oSf h | replace h := oLi h | replace h := oInst h | replace h := oFS h
 refine x22 h ?_
 clear h
 intro src st1 h1 h
 unfold em2
 refine wpAny_bind (wpAny_mono (src_ok B IH H h1 c1) (fun x s1 P1 => wpAny_bind (wpAny_standAt (wpAny_bind (wpAny_of_eq (show foldedSetIterable ie2 env x = pure x by induction ie2 using Expr.casesOn <;> first | rfl | exact nb c3) ?_)))) fun j j q => q)
 refine wpAny_bind (wpAny_holding (wpAny_mono P1 (fun it s2 ⟨I2, al1, P⟩ => ?_) fun j j q => q))
 obtain ⟨rfl, S2, lo, lt, nal, sto, env2, src2, self⟩ := P
 have FI := Fenced.fresh (I := I2) H lo
 have FD2 : Fenced env (I2 :: fr) ow Dd := ⟨List.mem_cons_of_mem _ FD.mem, FD.now, FD.nlo, FD.ncl⟩
 have DI : I2 ≠ Dd := fun q => Nat.lt_irrefl _ (Nat.lt_of_lt_of_le (H.sto.new Dd (.inr FD.mem)).2 (q ▸ lo))
 have M2 : MO2 prog w al1 (I2 :: fr) s2.heap s2.heap Dd acc := M.mono (fun o e => S2.kp.keep Dd o (H.sto.dj Dd · FD.mem) (fun q => nomatch q) e) (fun b o n1 n2 e => ⟨S2.kp.keep b o n1 (fun q => nomatch q) e, S2.notNew n1 e, fun q => by
  rcases List.mem_cons.mp q with q | q
  · exact Nat.lt_irrefl _ (Nat.lt_of_lt_of_le (Heap.lt_size e) (q ▸ lo))
  · exact n2 q⟩) fun k a e => S2.get e
 have H2 : Here prog w G.v G.c hT n A env sc al1 (I2 :: fr) ow ρ st1 s2 := ⟨H.hd, Nat.le_trans H.tk S2.rest.tk, H.dp, H.un, sto, H.cd, env2⟩
 have opn : ∀ a ∈ fr, a ∈ I2 :: fr := fun a ha => List.mem_cons_of_mem _ ha
 have loop : codeAny (model prog w) A (.compLoop (.ListComp ee [⟨te, ie, [], 0⟩, ⟨te2, ie2, ifes, 0⟩] scope pos) 1 (.ref I2) (.ref Dd) env)
   (fun r s' => match r with | .ok f => wpAny (model prog w) A (pure ()) (fun j s' => ∃ al', Stp prog w hT fr (Dd :: ow) al al' st st' s s' ∧ EnvOk G.v env sc al' fr ow ρ' s'.heap ∧ MO2 prog w al' fr s'.heap s'.heap Dd acc') FF s' | .error e => cameBackBy (model prog w) A env FF e s') s2 := by
  refine loop_ok NN J rfl step_list2 seq_yes FI FD2 DI c5 c6 (emit1_ok IH c7 FD2.mem FD2.now FD2.nlo FD2.ncl) 1000 h H2 src2 (srcTgt_of h1 c2 c5) M2 fun al' s' S3 E3 M3 => wpAny_pure (m13 al' ?_ ?_ (M3.open opn))
  · refine ((S2.wide fun a ha => nomatch ha).trans (S3.open opn)).wide fun a ha => ?_
    rcases mc ha with rfl | ha
    · exact .inr lo
    · exact .inl ha
  · exact E3.to (fun v d r => r.open opn) (fun b o j e => e) H.env.sub fun x c e => (H.env.cfr x c e).1
 refine wpAny_bind (wpAny_runOwn (start_list1 rfl rfl loop (self _ _ _ _ (fun o e => e) loop)))
theorem lcomp2_node (NN : NOk G) (B : Bis hT) {ev : Ev} (IH : EvOk prog w G hT n ev) (J : TsOk prog w G hT n ev) (H : Here prog w G.v G.c hT n A env sc al fr ow ρ st s) {m : Bool} {elt : X} {t t2 : Tgt} {it it2 : IT} {ifs : List X} {ee te ie te2 ie2 : Expr} {ifes : List Expr} {pos : Pos} {d : D} {f : Nat}
  (h : (match srcOf ev ρ st it with
  | some (src, st) => match turns ev t [] (emit2 ev elt t2 it2 ifs) 1000 (hide own ρ) st src (.list []) with
   | some (.list ds, _, st) => some (newL m st ds)
   | _ => none
  | none => none) = some (d, st'))
  (c1 : cIt (cE G f sc) sc it ie = true) (c2 : itTgt it t = true) (c3 : notSet ie = true) (c4 : cScope G sc sc2 own = true) (c5 : cTgt G sc2 t te = true)
  (d1 : cIt (cE G f sc2) sc2 it2 ie2 = true) (d2 : itTgt it2 t2 = true) (d3 : notSet ie2 = true) (d5 : cTgt G sc2 t2 te2 = true) (c6 : cIfs (cT G f sc2) ifs ifes = true) (c7 : cE G f sc2 elt ee = true) :
  CompRuns prog w G hT n A env sc al fr ow ρ st st' s d (.ListComp ee [⟨te, ie, [], 0⟩, ⟨te2, ie2, ifes, 0⟩] sc2 pos) := by
 first | replace h := oDS h | replace h := oLS h | replace h := oIS h | replace h := oSr h | replace h := oTS h | replace h := oSx h | replace h := oSf h | replace h := oLi h | replace h := oInst h | replace h := oFS h
 refine x22 h ?_
 clear h
 intro src st1 h1 h
 first | replace h := oTL h | replace h := oTD h
 refine x32 h ?_
 clear h
 intro ds ρ2 st2 h2 h
 refine ⟨sc2, _, newList [], eval ie env, rfl, fun u => rfl, fun use Q hu => ?_⟩
 have fin : Fin1 (.list ds) st2 d st' := by
  have h := Option.some.inj h
  induction m using Bool.casesOn with
  | false => simp only [newL, Prod.mk.injEq] at h; obtain ⟨rfl, rfl⟩ := h; exact .pure _ _
  | true => simp only [newL, newM, Prod.mk.injEq] at h; obtain ⟨rfl, rfl⟩ := h; exact .made _ _
 refine comp_gen NN H (g := ⟨te, ie, [], 0⟩) (gs := [⟨te2, ie2, ifes, 0⟩]) (o := { cls := .type "list", data := .seq #[] }) (acc0 := .list []) rfl c3 c4 (fun s Q q => wpAny_newObj_type q) rfl (fun al fr h a e => ⟨[], ⟨0, e⟩, .nil⟩)
  (fun R s I D cenv a b => codeAny_compStart_list a (b _ _ a)) (fun H4 K M FI FD ID k => ?_) fin (src_ok B IH H h1 c1) hu
 exact loop_ok NN.nm J rfl step_list20 seq_yes FI FD ID (ifes := []) (f0 := 0) c5 rfl (emit2_ok NN.nm B IH J d1 d2 d3 d5 c6 c7 FD) 1000 h2 H4 K (srcTgt_of h1 c2 c5) M fun al' s' a b c => k al' _ s' a b c
end
end Mine
end
noncomputable section
open PySem PySem.W PyProof.Rows PySem.Spec PySem.Calls
namespace Mine
variable [Val]
noncomputable def pureOf {α : Type} : Sem α → Option α
 | .pure a => some a
 | _ => none
theorem pureOf_eq {α : Type} {t : Sem α} {a : α} (h : pureOf t = some a) : t = pure a := by
 induction t using Sem.casesOn with
 | pure b => exact congrArg Sem.pure (so h)
 | _ => exact no h
noncomputable def envOf (sc : Scope) : Env := { scope := sc, locals := 0, globals := 0, cells := [] }
theorem swapped_of (env : Env) (targets : List Expr) (value : Expr) : swappedStores targets value env = swappedStores targets value (envOf env.scope) := rfl
theorem swapsSole_of (env : Env) (targets : List Expr) (value : Expr) (line : Nat) : swapsWithSole targets value line env = swapsWithSole targets value line (envOf env.scope) := by
 unfold swapsWithSole
 split <;> rfl
theorem swaps_of (env : Env) (t : Option Expr) (value : Expr) (line : Nat) : swapsWith value t line env = swapsWith value t line (envOf env.scope) := rfl
noncomputable def isComp : X → Bool
 | .lcomp .. | .lcomp2 .. | .dcomp .. => true
 | _ => false
noncomputable def isPure {α : Type} (p : α → Bool) (t : Sem α) : Bool := match pureOf t with | some a => p a | none => false
noncomputable def isNone {α : Type} : Option α → Bool
 | none => true
 | some _ => false
noncomputable def nodupB : List Nat → Bool
 | [] => true
 | i :: r => (r.all fun j => !Nat.beq i j) && nodupB r
section
variable (G : Nms)
noncomputable def cSt (recE : X → Expr → Bool) (sc : Scope) (e : X) (te ex : Expr) (pos : Pos) : TG → Bool
 | .var i => tgName G sc i te && match pureOf (swapsWithSole [te] ex pos.line (envOf sc)) with
  | some true => isComp e
  | some false => isPure isNone (swappedStores [te] ex (envOf sc))
  | none => false
 | .tup is => isPure (! ·) (swapsWithSole [te] ex pos.line (envOf sc)) && vTup (fun es => tgNames G sc is es && match pureOf (swappedStores [te] ex (envOf sc)) with
  | some none => true
  | some (some names) => (names == is.map G.v) && nodupB is
  | none => false) te
 | .sub o i => isPure (! ·) (swapsWithSole [te] ex pos.line (envOf sc)) && isPure isNone (swappedStores [te] ex (envOf sc)) && vSub (fun oe ie => plainSlice ie && recE o oe && recE i ie) te
noncomputable def isAdd (o : Operator) : Bool := bopIs .add o
noncomputable def cYs (cE cT : Scope → X → Expr → Bool) (cB : Scope → List Y → List Stmt → Bool) (sc : Scope) (y : Y) (stmt : Stmt) : Bool := match y with
  | .asg t e => wAsg (fun tes ex pos => v1 (fun te => cE sc e ex && cSt G (cE sc) sc e te ex pos t) tes) stmt
  | .augSub o i e => wAug (fun te op ex => isAdd op && vSub (fun oe ie => plainSlice ie && cE sc o oe && cE sc i ie && cE sc e ex) te) stmt
  | .asgAttr o i e => wAsg (fun tes ex pos => v1 (vAttr fun oe name apos => name == nmA i && Nat.blt i 5 && isName oe && cE sc o oe && cE sc e ex && isPure (! ·) (swapsWith ex (some (.Attribute oe name apos)) pos.line (envOf sc))) tes) stmt
  | .asg2 o1 i1 o2 i2 e => wAsg (fun tes ex pos => isPure (! ·) (swapsWithSole tes ex pos.line (envOf sc)) && isPure isNone (swappedStores tes ex (envOf sc)) && v1 (vTup fun ts => v2 (fun t1 t2 => vSub (fun oe1 ie1 => vSub (fun oe2 ie2 =>
    plainSlice ie1 && plainSlice ie2 && cE sc o1 oe1 && cE sc i1 ie1 && cE sc o2 oe2 && cE sc i2 ie2 && cE sc e ex) t2) t1) ts) tes) stmt
  | .asgMany is e => wAsg (fun tes ex pos => cE sc e ex && tgNames G sc is tes && isPure (! ·) (swapsWithSole tes ex pos.line (envOf sc)) && isPure isNone (swappedStores tes ex (envOf sc))) stmt
  | .augVar i e => wAug (fun te op ex => isAdd op && (tgName G sc i te && cE sc e ex)) stmt
  | .expr e => wExpr (fun ex pos => cE sc e ex && isPure (! ·) (swapsWith ex none pos.line (envOf sc))) stmt
  | .ret e => wRet (vSo fun ex => cE sc e ex) stmt
  | .if_ c a b => wIf (fun t xs ys => cT sc c t && cB sc a xs && cB sc b ys) stmt
  | .for_ t it body orelse => wFor (fun te ie bs os => cIt (cE sc) sc it ie && itTgt it t && notSet ie && cTgt G sc t te && cB sc body bs && (orelse || os.isEmpty)) stmt
  | .forE i j x body orelse => wFor (fun te ie bs os => vCN (fun id es => v1 (fun e1 => id == ("enumerate" : Str) && isGl sc id && notStar e1 && cE sc x e1 && cTgt G sc (.tup [i, j]) te && cB sc body bs && (orelse || os.isEmpty)) es) ie) stmt
  | .brk => wBrk (fun z => true) stmt
noncomputable def cBs (cY : Scope → Y → Stmt → Bool) (cB : Scope → List Y → List Stmt → Bool) (sc : Scope) (ys : List Y) (ss : List Stmt) : Bool := match ys, ss with
 | [], [] => true
 | y :: ys, s :: ss => cY sc y s && cB sc ys ss
 | _, _ => false
mutual
noncomputable def cY : Nat → Scope → Y → Stmt → Bool
 | 0 => fun j j j => false
 | f + 1 => cYs G (cE G f) (cT G f) (cB f)
noncomputable def cB : Nat → Scope → List Y → List Stmt → Bool
 | 0 => fun j j j => false
 | f + 1 => cBs (cY f) (cB f)
end
end
section
variable (prog : Program) (w : World) (G : Nms) (hT : Heap)
noncomputable def PostX (env : Env) (sc : Scope) (al fr ow : List Addr) (st st' : St) (ρ' : Env') (s : Shared) (fl : Fl) (f : Flow) (s' : Shared) : Prop :=
 ∃ al', Stp prog w hT fr ow al al' st st' s s' ∧ EnvOk G.v env sc al' fr ow ρ' s'.heap ∧ match fl with
  | .next => f = .next
  | .brk => f = .brk
  | .ret d => ∃ v, f = .ret v ∧ RD al' fr s'.heap v d
noncomputable def ExOk (n : Nat) (ex : Ex) : Prop := ∀ {A : Around} {env : Env} {sc : Scope} {al fr ow : List Addr} {ρ : Env'} {st : St} {s : Shared} {ys : List Y} {ss : List Stmt} {fl : Fl} {ρ' : Env'} {st' : St} {f : Nat},
 ex ρ st ys = some (fl, ρ', st') → cB G f sc ys ss = true → env.scope = sc → Here prog w G.v G.c hT n A env sc al fr ow ρ st s → wpAny (model prog w) A (execs ss env) (PostX prog w G hT env sc al fr ow st st' ρ' s fl) FF s
noncomputable def CoOk (n : Nat) (ev : Ev) : Prop := ∀ {A : Around} {env : Env} {sc : Scope} {al fr ow : List Addr} {ρ : Env'} {st : St} {s : Shared} {x : X} {e : Expr} {d : D} {st' : St} {f : Nat},
 ev ρ st x = some (d, st') → isComp x = true → cE G f sc x e = true → Here prog w G.v G.c hT n A env sc al fr ow ρ st s → ∃ n', CompRuns prog w G hT n' A env sc al fr ow ρ st st' s d e
end
section
variable {prog : Program} {w : World} {G : Nms} {hT : Heap} {n : Nat} {A : Around} {env : Env} {sc sc2 : Scope} {al al' al'' fr fr' N ow ow' : List Addr} {ρ ρ' : Env'} {st st' st'' : St} {s s₁ s₂ s₃ s' s'' : Shared} {h h' : Heap} {I Dd : Addr} {own : List Nat}
theorem isPure_iff {α : Type} {p : α → Bool} {t : Sem α} (h : isPure p t = true) : ∃ a, t = pure a ∧ p a = true := by
 unfold isPure at h
 split at h
 · rename_i a q
   exact ⟨a, pureOf_eq q, h⟩
 · exact nb h
theorem isPure_none {α : Type} {t : Sem (Option α)} (h : isPure isNone t = true) : t = pure none := by
 refine x12 (isPure_iff h) ?_
 intro a e p
 induction a using Option.casesOn with
 | none => exact e
 | some => exact nb p
theorem isPure_not {t : Sem Bool} (h : isPure (! ·) t = true) : t = pure false := by
 refine x12 (isPure_iff h) ?_
 intro a e p
 induction a using Bool.casesOn with
 | false => exact e
 | true => exact nb p
theorem nodupB_iff : ∀ {l : List Nat}, nodupB l = true → l.Nodup
 | [], _ => List.nodup_nil
 | i :: r, h => by
  simp only [nodupB, Bool.and_eq_true, List.all_eq_true] at h
  refine List.nodup_cons.mpr ⟨fun hm => ?_, nodupB_iff h.2⟩
  have := h.1 i hm
  rw [Nat.beq_refl] at this
  exact nb this
theorem PostX.stored {al1 : List Addr} (S1 : Stp prog w hT fr [] al al1 st st' s s₁) (T : Stored prog w G.v hT env sc al1 fr ow ρ' st' s₁ s') : PostX prog w G hT env sc al fr ow st st' ρ' s .next .next s' :=
 ⟨al1, (S1.wide fun a ha => nomatch ha).trans T.1, T.2, rfl⟩
theorem asgN_ok (NN : Names G.v) {ev : Ev} (IH : EvOk prog w G hT n ev) (C : CoOk prog w G hT n ev) (H : Here prog w G.v G.c hT n A env sc al fr ow ρ st s) (hsc : env.scope = sc) {i : Nat} {e : X} {te ex : Expr} {pos : Pos} {d : D} {f : Nat}
  (h : ev ρ st e = some (d, st')) (c : cE G f sc e ex = true) (ct : tgName G sc i te = true) (cs : (match pureOf (swapsWithSole [te] ex pos.line (envOf sc)) with
     | some true => isComp e
     | some false => isPure isNone (swappedStores [te] ex (envOf sc))
     | none => false) = true) :
  wpAny (model prog w) A (exec (.Assign [te] ex pos) env) (PostX prog w G hT env sc al fr ow st st' (put i (some d) ρ) s .next) FF s := by
 subst hsc
 have one : (assignEach [te] env).map (·.2) = [assign te env] := by
  refine x12 (tgName_iff ct) ?_
  intro p eq1 _
  subst eq1
  rfl
 split at cs
 · rename_i q
   have q := pureOf_eq q
   rw [← swapsSole_of] at q
   refine x53 (C h cs c H) ?_
   intro n' sc2 pos2 newAcc first e1 e2 run
   rw [exec_Assign_arm]
   refine wpAny_bind (wpAny_standAt ?_)
   rw [q]
   refine wpAny_bind (wpAny_pure ?_)
   rw [if_pos rfl, e2, one]
   refine wpAny_bind (wpAny_bind (run (some _) (fun j s' => wpAny (model prog w) A (pure ()) (fun j s' => wpAny (model prog w) A (pure Flow.next) (PostX prog w G hT env env.scope al fr ow st st' (put i (some d) ρ) s .next) FF s') FF s') ⟨i, fun {al1 fr1 s5 v} H5 r5 => ?_, fun v s' ⟨al', S, E⟩ => wpAny_pure (wpAny_pure ⟨al', S, E, rfl⟩)⟩))
   show wpAny (model prog w) A (assign te env v) _ _ _
   exact assign_name NN H5 ct r5
 · rename_i q
   have q := pureOf_eq q
   rw [← swapsSole_of] at q
   have w2 := isPure_none cs
   rw [← swapped_of] at w2
   refine wpAny_Assign_stores (wpAny_mono (IH h c H) (fun v s1 pp => x12 pp fun al1 S1 r1 => ?_) fun j j q => q) q w2
   rw [one]
   exact wpAny_mono (assign_name NN (H.step S1) ct r1) (fun j s2 T => PostX.stored S1 T) fun j j q => q
 · exact nb cs
theorem asgT_ok (NN : Names G.v) {ev : Ev} (IH : EvOk prog w G hT n ev) (H : Here prog w G.v G.c hT n A env sc al fr ow ρ st s) (hsc : env.scope = sc) {is : List Nat} {e : X} {es : List Expr} {k : Nat} {p : Pos} {ex : Expr} {pos : Pos} {ds : List D} {f : Nat}
  (h : ev ρ st e = some (.tup ds, st')) (b : bindL is ds ρ = some ρ') (c : cE G f sc e ex = true) (ct : tgNames G sc is es = true) (cn : isPure (! ·) (swapsWithSole [.Tuple es k p] ex pos.line (envOf sc)) = true)
  (cs : (match pureOf (swappedStores [.Tuple es k p] ex (envOf sc)) with
          | some none => true
          | some (some names) => (names == is.map G.v) && nodupB is
          | none => false) = true) :
  wpAny (model prog w) A (exec (.Assign [.Tuple es k p] ex pos) env) (PostX prog w G hT env sc al fr ow st st' ρ' s .next) FF s := by
 subst hsc
 have q := isPure_not cn
 rw [← swapsSole_of] at q
 have own : ∀ {is : List Nat} {es : List Expr}, tgNames G env.scope is es = true → ∀ i ∈ is, isOwnK (env.scope.names.lookup (G.v i)) = true := fun {is es} => by
  induction is generalizing es with
  | nil => intro _ i hi; cases hi
  | cons j is ih =>
   intro ct i hi
   induction es using List.casesOn with
   | nil => exact nb ct
   | cons e es =>
    replace ct := both ct
    rcases mc hi with rfl | hi
    · refine x12 (tgName_iff ct.1) ?_
      intro _ _ q
      exact q
    · exact ih ct.2 i hi
 split at cs
 · rename_i w2
   have w2 := pureOf_eq w2
   rw [← swapped_of] at w2
   refine wpAny_Assign_stores (wpAny_mono (IH h c H) (fun v s1 pp => x12 pp fun al1 S1 r1 => ?_) fun y y q => q) q w2
   show wpAny (model prog w) A (assign (.Tuple es k p) env v) _ _ _
   exact wpAny_mono (assign_ok NN (H.step S1) (t := .tup is) (d := .tup ds) (by simp only [bindT]; exact b) (vTup_mk.trans ct) r1) (fun y s2 T => PostX.stored S1 T) fun y y q => q
 · rename_i names w2
   have w2 := pureOf_eq w2
   rw [← swapped_of] at w2
   simp only [Bool.and_eq_true] at cs
   have hn := beq_iff_eq.mp cs.1
   subst hn
   refine Assign_Tuple_swapped (wpAny_mono (IH h c H) (fun v s1 pp => x12 pp fun al1 S1 r1 => ?_) fun y y q => q) q w2
   refine x25 r1.to ?_
   intro x vs eq2 n1 n2 hl r
   subst eq2
   · refine unpack_ok H.hd S1.sto hl (by rw [r.length, List.length_map, bindL_len b]) fun h' S2 => ?_
     have e1 : ((is.map G.v).reverse.map fun n => bindName env n) = is.reverse.map fun i => bindName env (G.v i) := by rw [← List.map_reverse, List.map_map]; rfl
     rw [e1]
     exact wpAny_mono (bound_rev NN b (nodupB_iff cs.2) (own ct) (r.step S2) ((H.step S1).step S2)) (fun y s2 T => PostX.stored (S1.trans S2) T) fun y y q => q
 · exact nb cs
end
end Mine
end
noncomputable section
open PySem PySem.W PyProof.Rows PySem.Spec PySem.Calls
namespace Mine
variable [Val]
section
variable {prog : Program} {w : World} {G : Nms} {hT : Heap} {n : Nat} {A : Around} {env : Env} {sc sc2 : Scope} {al al' al'' fr fr' N ow ow' : List Addr} {ρ ρ' : Env'} {st st' st'' : St} {s s₁ s₂ s₃ s' s'' : Shared} {h h' : Heap} {I Dd : Addr} {own : List Nat}
theorem PostX.only {al1 : List Addr} (H : Here prog w G.v G.c hT n A env sc al fr ow ρ st s) (S1 : Stp prog w hT fr [] al al1 st st' s s') : PostX prog w G hT env sc al fr ow st st' ρ s .next .next s' :=
 ⟨al1, (S1.wide fun a ha => nomatch ha), H.env.step H.sto S1, rfl⟩
theorem asgS_ok (B : Bis hT) {ev : Ev} (IH : EvOk prog w G hT n ev) (H : Here prog w G.v G.c hT n A env sc al fr ow ρ st s) (hsc : env.scope = sc) {o i e : X} {oe ie ex : Expr} {p pos : Pos} {d dO di : D} {st1 st2 st3 : St} {f : Nat}
  (h : ev ρ st e = some (d, st1)) (h2 : ev ρ st1 o = some (dO, st2)) (h3 : ev ρ st2 i = some (di, st3)) (h4 : smIdx di = true) (h5 : storeSub st3 dO di d = some st')
  (c : cE G f sc e ex = true) (_c1 : plainSlice ie = true) (c2 : cE G f sc o oe = true) (c3 : cE G f sc i ie = true)
  (cn : isPure (! ·) (swapsWithSole [.Subscript oe ie p] ex pos.line (envOf sc)) = true) (_cs : isPure isNone (swappedStores [.Subscript oe ie p] ex (envOf sc)) = true) :
  wpAny (model prog w) A (exec (.Assign [.Subscript oe ie p] ex pos) env) (PostX prog w G hT env sc al fr ow st st' ρ s .next) FF s := by
 subst hsc
 have q := isPure_not cn
 rw [← swapsSole_of] at q
 refine wpAny_Assign_Subscript (wpAny_mono (IH h c H) (fun v s1 pp => x12 pp fun al1 S1 r1 => ?_) fun j j q => q) q
 refine wpAny_mono (IH h2 c2 (H.step S1)) (fun u s2 pp => x12 pp fun al2 S2 r2 => ?_) fun j j q => q
 refine wpAny_mono (IH h3 c3 ((H.step S1).step S2)) (fun x s3 pp => x12 pp fun al3 S3 r3 => ?_) fun j j q => q
 refine wpAny_mono (set_ok B.sysm S3.sto (r2.step S3) r3 ((r1.step S2).step S3) h5 (smIdx_hb h4)) (fun j s4 S4 => ?_) fun j j q => q
 exact PostX.only H (((S1.trans S2).trans S3).trans S4)
theorem augS_ok (B : Bis hT) {ev : Ev} (IH : EvOk prog w G hT n ev) (H : Here prog w G.v G.c hT n A env sc al fr ow ρ st s) {o i e : X} {oe ie ex : Expr} {p pos : Pos} {dO di : D} {a b : Int} {st1 st2 st3 : St} {f : Nat}
  (h : ev ρ st o = some (dO, st1)) (h2 : ev ρ st1 i = some (di, st2)) (h3 : smIdx di = true) (h4 : idxD st2 dO di = some (.int a)) (h5 : ev ρ st2 e = some (.int b, st3)) (h6 : storeSub st3 dO di (.int (a + b)) = some st')
  (c1 : plainSlice ie = true) (c2 : cE G f sc o oe = true) (c3 : cE G f sc i ie = true) (c : cE G f sc e ex = true) :
  wpAny (model prog w) A (exec (.AugAssign (.Subscript oe ie p) .Add ex pos) env) (PostX prog w G hT env sc al fr ow st st' ρ s .next) FF s := by
 refine wpAny_AugAssign_SubscriptAny (wpAny_mono (IH h c2 H) (fun v s1 pp => x12 pp fun al1 S1 r1 => ?_) fun j j q => q) (fun ov iv new => by induction ie using Expr.casesOn <;> first | rfl | exact nb c1)
 refine wpAny_mono (IH h2 c3 (H.step S1)) (fun u s2 pp => x12 pp fun al2 S2 r2 => ?_) fun j j q => q
 refine wpAny_mono (get_ok S2.sto (r1.step S2) r2 h4 (smIdx_hb h3)) (fun x s3 pp => x12 pp fun al3 S3 r3 => ?_) fun j j q => q
 refine wpAny_mono (IH h5 c (((H.step S1).step S2).step S3)) (fun y s4 pp => x12 pp fun al4 S4 r4 => ?_) fun j j q => q
 refine x11 ((r3.step S4).to) ?_
 intro t eq1
 subst eq1
 refine x11 r4.to ?_
 intro t2 eq1
 subst eq1
 · · refine wpAny_iadd_int ?_
     have S5 := Stp.tok (htk := Nat.le_succ _) (tk := s4.toks + 1) S4.sto
     have S := ((S1.trans S2).trans S3).trans S4
     refine wpAny_mono (set_ok (x := .int (a + b) s4.toks) B.sysm S5.sto ((((r1.step S2).step S3).step S4).step S5) (((r2.step S3).step S4).step S5) (.int _ _) h6 (smIdx_hb h3)) (fun j s5 S6 => ?_) fun j j q => q
     exact PostX.only H ((S.trans S5).trans S6)
theorem interactive_fn (hf : env.scope.kind = .function) : interactive env = false := by
 unfold interactive
 rw [hf]; rfl
theorem exprS_ok {ev : Ev} (IH : EvOk prog w G hT n ev) (H : Here prog w G.v G.c hT n A env sc al fr ow ρ st s) (hsc : env.scope = sc) {e : X} {ex : Expr} {pos : Pos} {f : Nat}
  (h : ev ρ st e = some (.none, st')) (c : cE G f sc e ex = true) (cn : isPure (! ·) (swapsWith ex none pos.line (envOf sc)) = true) :
  wpAny (model prog w) A (exec (.Expr ex pos) env) (PostX prog w G hT env sc al fr ow st st' ρ s .next) FF s := by
 subst hsc
 have q := isPure_not cn
 rw [← swaps_of] at q
 refine wpAny_Expr (wpAny_mono (IH h c H) (fun v s1 pp => x12 pp fun al1 S1 r1 => ?_) fun j j q => q) (interactive_fn H.env.fn) q
 have r1 : v = _ := r1.to
 subst r1
 exact PostX.only H S1
noncomputable def PostI (prog : Program) (w : World) (G : Nms) (hT : Heap) (I : Addr) (env : Env) (sc : Scope) (al fr ow : List Addr) (st st' : St) (ρ' : Env') (s : Shared) (fl : Fl) (f : Flow) (s' : Shared) : Prop :=
 ∃ al', Stp prog w hT fr (I :: ow) al al' st st' s s' ∧ EnvOk G.v env sc al' fr ow ρ' s'.heap ∧ match fl with
  | .next => f = .next
  | .brk => f = .brk
  | .ret d => ∃ v, f = .ret v ∧ RD al' fr s'.heap v d
noncomputable def PostI2 (prog : Program) (w : World) (G : Nms) (hT : Heap) (I J : Addr) (env : Env) (sc : Scope) (al fr ow : List Addr) (st st' : St) (ρ' : Env') (s : Shared) (fl : Fl) (f : Flow) (s' : Shared) : Prop :=
 ∃ al', Stp prog w hT fr (I :: J :: ow) al al' st st' s s' ∧ EnvOk G.v env sc al' fr ow ρ' s'.heap ∧ match fl with
  | .next => f = .next
  | .brk => f = .brk
  | .ret d => ∃ v, f = .ret v ∧ RD al' fr s'.heap v d
noncomputable def aft (fl : Fl) : Fl := Fl.rec .next .next .ret fl
theorem aft_inv {o : Option (Fl × Env' × St)} {K : Env' → St → Option (Fl × Env' × St)} {fl : Fl} (h : (match o with
  | some (.next, ρ, st) => K ρ st
  | some (.brk, ρ, st) => some (.next, ρ, st)
  | some (.ret d, ρ, st) => some (.ret d, ρ, st)
  | none => none) = some (fl, ρ', st')) {P : Prop} (k : ∀ fl1 ρ3 st3, o = some (fl1, ρ3, st3) → (fl1 = .next → K ρ3 st3 = some (fl, ρ', st')) → (fl1 ≠ .next → aft fl1 = fl ∧ ρ3 = ρ' ∧ st3 = st') → P) : P := by
 induction o using Option.casesOn with
 | none => exact no h
 | some p => induction p using Prod.casesOn with
  | mk fl1 p => induction p using Prod.casesOn with
   | mk ρ3 st3 => induction fl1 using Fl.casesOn with
    | next => exact k _ _ _ rfl (fun e => h) fun e => absurd rfl e
    | brk => exact k _ _ _ rfl (fun e => nomatch e) fun e => ou3 h
    | ret d => exact k _ _ _ rfl (fun e => nomatch e) fun e => ou3 h
theorem loop_inv {ex : Ex} {t : Tgt} {body : List Y} {orelse : Bool} {f : Nat} {src : Src} {fl : Fl} (h : loop ex t body orelse (f + 1) ρ st src = some (fl, ρ', st')) {P : Prop} (k0 : nextS st src = some none → orelse = false → .next = fl → ρ = ρ' → st = st' → P)
  (k1 : ∀ d src1 ρ1 fl1 ρ3 st3, nextS st src = some (some (d, src1)) → bindT t d ρ = some ρ1 → ex ρ1 st body = some (fl1, ρ3, st3) → (fl1 = .next → loop ex t body orelse f ρ3 st3 src1 = some (fl, ρ', st')) → (fl1 ≠ .next → aft fl1 = fl ∧ ρ3 = ρ' ∧ st3 = st') → P) : P := by
 replace h : (match nextS st src with
  | none => none
  | some none => (match (generalizing := false) orelse with | true => none | false => some (.next, ρ, st))
  | some (some (d, src)) => match bindT t d ρ with
   | none => none
   | some ρ => match ex ρ st body with
    | some (.next, ρ, st) => loop ex t body orelse f ρ st src
    | some (.brk, ρ, st) => some (.next, ρ, st)
    | some (.ret d, ρ, st) => some (.ret d, ρ, st)
    | none => none) = some (fl, ρ', st') := h
 generalize nextS st src = o at h k0 k1
 induction o using Option.casesOn with
 | none => exact no h
 | some o => induction o using Option.casesOn with
  | none => induction orelse using Bool.casesOn with
   | true => exact no h
   | false => exact k0 rfl rfl (ou3 h).1 (ou3 h).2.1 (ou3 h).2.2
  | some p => induction p using Prod.casesOn with
   | mk d src1 =>
    replace h : (match bindT t d ρ with
     | none => none
     | some ρ => match ex ρ st body with
      | some (.next, ρ, st) => loop ex t body orelse f ρ st src1
      | some (.brk, ρ, st) => some (.next, ρ, st)
      | some (.ret d, ρ, st) => some (.ret d, ρ, st)
      | none => none) = some (fl, ρ', st') := h
    generalize q1 : bindT t d ρ = o1 at h
    induction o1 using Option.casesOn with
    | none => exact no h
    | some ρ1 => exact aft_inv h fun fl1 ρ3 st3 e a b => k1 d src1 ρ1 fl1 ρ3 st3 rfl q1 e a b
theorem loopE_nil {ex : Ex} {i j k : Nat} {body : List Y} {orelse : Bool} {fl : Fl} (h : loopE ex i j body orelse k ρ st [] = some (fl, ρ', st')) : orelse = false ∧ .next = fl ∧ ρ = ρ' ∧ st = st' := by
 induction orelse using Bool.casesOn with
 | true => exact no h
 | false => exact ⟨rfl, ou3 h⟩
theorem loopE_inv {ex : Ex} {i j k : Nat} {d : D} {r : List D} {body : List Y} {orelse : Bool} {fl : Fl} (h : loopE ex i j body orelse k ρ st (d :: r) = some (fl, ρ', st')) {P : Prop}
  (k1 : ∀ ρ1 fl1 ρ3 st3, bindL [i, j] [.int (k : Int), d] ρ = some ρ1 → ex ρ1 st body = some (fl1, ρ3, st3) → (fl1 = .next → loopE ex i j body orelse (k + 1) ρ3 st3 r = some (fl, ρ', st')) → (fl1 ≠ .next → aft fl1 = fl ∧ ρ3 = ρ' ∧ st3 = st') → P) : P := by
 replace h : (match bindL [i, j] [.int (k : Int), d] ρ with
  | none => none
  | some ρ => match ex ρ st body with
   | some (.next, ρ, st) => loopE ex i j body orelse (k + 1) ρ st r
   | some (.brk, ρ, st) => some (.next, ρ, st)
   | some (.ret d, ρ, st) => some (.ret d, ρ, st)
   | none => none) = some (fl, ρ', st') := h
 generalize q1 : bindL [i, j] [.int (k : Int), d] ρ = o1 at h
 induction o1 using Option.casesOn with
 | none => exact no h
 | some ρ1 => exact aft_inv h fun fl1 ρ3 st3 e a b => k1 ρ1 fl1 ρ3 st3 q1 e a b
noncomputable def turnFl (prog : Program) (w : World) (A : Around) (c : Code) (R : Result → Shared → Prop) (fl : Flow) (s : Shared) : Prop := Flow.rec (codeAny (model prog w) A c R s) (R (.ok .next) s) (codeAny (model prog w) A c R s) (fun v => R (.ok (.ret v)) s) fl
theorem for_head {I : Addr} {te : Expr} {bs os : List Stmt} {R : Result → Shared → Prop} (h : ∀ E E2 : Value → Shared → Prop, wpAny (model prog w) A (pyNext (.ref I)) (fun a s' => wpAny (model prog w) A (match a with
        | none => again (.block os env)
        | some v => do
         letOwnedTupleGo te (.ref I) v
         assign te env v
         match ← execs bs env with
          | .next | .cont => again (.forLoop te (.ref I) bs os env)
          | .brk => pure (.done .next)
          | .ret v => pure (.done (.ret v)))
        (fun fin s' => match fin with
         | .done f => R (.ok f) s'
         | .again c' => c'.quiet = true ∧ codeAny (model prog w) A c' R s') E s') E2 s) : codeAny (model prog w) A (.forLoop te (.ref I) bs os env) R s := by
 refine codeAny_of_tree ?_
 show wpAny _ A ((forTurn te (.ref I) bs os env).onRaise (fun x => do noteFrame x env; theTreesLotGoes x)) _ _ s
 refine wpAny_noted ?_
 unfold forTurn
 exact wpAny_bind (wpAny_standAt (wpAny_bind (wpAny_onRaise (h _ _))))
theorem for_end {I : Addr} {te : Expr} {bs os : List Stmt} {R : Result → Shared → Prop} (h0 : os = []) (h : ∀ E : Value → Shared → Prop, wpAny (model prog w) A (pyNext (.ref I)) (fun x s' => x = none ∧ R (.ok .next) s') E s) : codeAny (model prog w) A (.forLoop te (.ref I) bs os env) R s := by
 subst h0
 refine for_head fun E E2 => wpAny_mono (h _) (fun x s1 p => x02 p fun e q => ?_) fun j j q => q
 subst e
 exact wpAny_pure ⟨rfl, codeAny_block (wpAny_execs_nil q)⟩
theorem for_turn {I : Addr} {te : Expr} {bs os : List Stmt} {R : Result → Shared → Prop} (h : wpAny (model prog w) A (pyNext (.ref I)) (fun x s' => ∃ v, x = some v ∧ wpAny (model prog w) A (letOwnedTupleGo te (.ref I) v) (fun y s1 => wpAny (model prog w) A (assign te env v) (fun y s2 =>
  wpAny (model prog w) A (execs bs env) (turnFl prog w A (.forLoop te (.ref I) bs os env) R) FF s2) FF s1) FF s') FF s) : codeAny (model prog w) A (.forLoop te (.ref I) bs os env) R s := by
 refine for_head fun E E2 => wpAny_mono h (fun x s1 p => x12 p fun v e q => ?_) fun j j q => q.elim
 subst e
 refine wpAny_bind (wpAny_mono q (fun y s2 q => ?_) fun j j q => q.elim)
 refine wpAny_bind (wpAny_mono q (fun y s3 q => ?_) fun j j q => q.elim)
 refine wpAny_bind (wpAny_mono q (fun fl s4 q => ?_) fun j j q => q.elim)
 induction fl using Flow.casesOn with
 | brk => exact wpAny_pure q
 | ret v => exact wpAny_pure q
 | _ => exact wpAny_pure ⟨rfl, q⟩
theorem os_nil {orelse : Bool} {os : List Stmt} (h : (orelse || os.isEmpty) = true) (o : orelse = false) : os = [] := by
 subst o
 exact List.isEmpty_iff.mp h
theorem for_ok (NN : Names G.v) {ex : Ex} (X : ExOk prog w G hT n ex) {fr ow : List Addr} {te : Expr} {bs os : List Stmt} {t : Tgt} {body : List Y} {orelse : Bool} {f0 : Nat} {R : Result → Shared → Prop} (hsc : env.scope = sc)
  (FI : Fenced env fr ow I) (c1 : cTgt G sc t te = true) (c2 : cB G f0 sc body bs = true) (c3 : (orelse || os.isEmpty) = true) :
  ∀ (f : Nat) {ρ : Env'} {st : St} {src : Src} {fl : Fl} {ρ' : Env'} {st' : St} {al : List Addr} {s : Shared}, loop ex t body orelse f ρ st src = some (fl, ρ', st') → Here prog w G.v G.c hT n A env sc al fr ow ρ st s →
   SrcOk prog w al fr st s.heap I src → srcTgt src te = true →
   (∀ fl' s', PostI prog w G hT I env sc al fr ow st st' ρ' s fl fl' s' → R (.ok fl') s') → codeAny (model prog w) A (.forLoop te (.ref I) bs os env) R s := by
 intro f
 induction f using Nat.rec with
 | zero => intro _ _ _ _ _ _ _ _ h; exact no h
 | succ f ih =>
  intro ρ st src fl ρ' st' al s h H K ht k
  have nal : ∀ {a : Addr} {al : List Addr} {st : St} {h : Heap}, Sto prog w hT al fr st h → a ∈ fr → a ∉ al := fun S q z => S.dj _ z q
  have wI : ∀ {al al' : List Addr} {st st' : St} {s s' : Shared}, Stp prog w hT fr [I] al al' st st' s s' → Stp prog w hT fr (I :: ow) al al' st st' s s' := fun S => S.wide fun a ha => .inl (List.mem_singleton.mp ha ▸ List.mem_cons_self)
  refine loop_inv h (fun e1 e0 e2 e3 e4 => ?_) fun d src1 ρ1 fl1 ρ3 st3 e1 b1 h3 hn hb => ?_
  · subst e2 e3 e4
    exact for_end (os_nil c3 e0) fun E => wpAny_mono (nextS_ok H.hd H.sto FI.mem K e1 ht) (fun x s1 p => x02 p fun eq0 S1 => ⟨eq0, k .next s1 ⟨al, wI S1, FI.beside S1 H, rfl⟩⟩) fun j j q => q.elim
  · refine for_turn (wpAny_mono (nextS_ok H.hd H.sto FI.mem K e1 ht) (fun x s0 p => x12 p fun v eq1 p => m12 v eq1 (wpAny_mono p (fun j s1 p => x04 p fun S1 rv K1 ht1 => ?_) fun j j q => q)) fun j j q => q)
    clear p eq1
    have E1 := FI.beside S1 H
    have H1 := H.turn S1 E1
    refine wpAny_mono (assign_ok NN H1 b1 c1 rv) (fun j s2 p => x02 p fun S2 E2 => ?_) fun j j q => q
    clear p
    have K2 := K1.step S2 H.env.sub FI.now (nal S1.sto FI.mem)
    have H2 := H1.turn S2 E2
    have W2 := (wI S1).trans (S2.wide fun a ha => .inl (List.mem_cons_of_mem _ ha))
    refine wpAny_mono (X h3 c2 hsc H2) (fun fl3 s3 p => x13 p fun al3 S3 E3 eq3 => ?_) fun j j q => q
    have W3 := W2.trans (S3.wide fun a ha => .inl (List.mem_cons_of_mem _ ha))
    clear p h h3 e1 b1 W2 E1 H1 K K1
    induction fl1 using Fl.casesOn with
    | next =>
     subst eq3
     exact ih (hn rfl) (H2.turn S3 E3) (K2.step S3 H.env.sub FI.now (nal S2.sto FI.mem)) ht1 fun fl' s' p => x13 p fun al4 S4 E4 p4 => k fl' s' ⟨al4, W3.trans S4, E4, p4⟩
    | brk =>
     subst eq3
     refine x03 (hb nofun) fun a b c => ?_
     subst a b c
     exact k .next s3 ⟨al3, W3, E3, rfl⟩
    | ret d3 =>
     refine x03 (hb nofun) fun a b c => x12 eq3 fun v3 e r3 => ?_
     subst e a b c
     exact k (.ret v3) s3 ⟨al3, W3, E3, v3, rfl, r3⟩
theorem forS_ok (NN : Names G.v) (B : Bis hT) {ev : Ev} {ex : Ex} (IH : EvOk prog w G hT n ev) (X : ExOk prog w G hT n ex) (H : Here prog w G.v G.c hT n A env sc al fr ow ρ st s) (hsc : env.scope = sc) {t : Tgt} {it : IT} {body : List Y} {orelse : Bool} {te ie : Expr} {bs os : List Stmt} {pos : Pos} {src : Src} {st1 : St} {fl : Fl} {f : Nat}
  (h1 : srcOf ev ρ st it = some (src, st1)) (h2 : loop ex t body orelse 1000 ρ st1 src = some (fl, ρ', st'))
  (c1 : cIt (cE G f sc) sc it ie = true) (c2 : itTgt it t = true) (c3 : notSet ie = true) (c4 : cTgt G sc t te = true) (c5 : cB G f sc body bs = true) (c6 : (orelse || os.isEmpty) = true) :
  wpAny (model prog w) A (exec (.For te ie bs os pos) env) (PostX prog w G hT env sc al fr ow st st' ρ' s fl) FF s := by
 refine wpAny_For (wpAny_mono (src_ok B IH H h1 c1) (fun x s1 P1 => wpAny_mono P1 (fun it s2 ⟨I2, al1, P⟩ => ?_) fun j j q => q) fun j j q => q) (fun x => by induction ie using Expr.casesOn <;> first | rfl | exact nb c3)
 obtain ⟨rfl, S2, lo, lt, nal, sto, env2, src2, self⟩ := P
 have FI := Fenced.fresh (I := I2) H lo
 have H2 : Here prog w G.v G.c hT n A env sc al1 (I2 :: fr) ow ρ st1 s2 := ⟨H.hd, Nat.le_trans H.tk S2.rest.tk, H.dp, H.un, sto, H.cd, env2⟩
 have opn : ∀ a ∈ fr, a ∈ I2 :: fr := fun a ha => List.mem_cons_of_mem _ ha
 refine for_ok NN X hsc FI c4 c5 c6 1000 h2 H2 src2 (srcTgt_of h1 c2 c4) fun fl' s' ⟨al', S3, E3, p⟩ => ?_
 show PostX prog w G hT env sc al fr ow st st' ρ' s fl fl' s'
 refine ⟨al', ((S2.wide fun a ha => nomatch ha).trans (S3.open opn)).wide fun a ha => ?_, E3.to (fun v d r => r.open opn) (fun b o j e => e) H.env.sub (fun x c e => (H.env.cfr x c e).1), ?_⟩
 · rcases mc ha with rfl | ha
   · exact .inr lo
   · exact .inl ha
 · induction fl using Fl.casesOn with
   | next => exact p
   | brk => exact p
   | ret d => obtain ⟨v, e, r⟩ := p; exact (m12 v e (r.open opn))
theorem Stp.buts {F : List Addr} {hp : Heap} {tk : Nat} (S : Sto prog w hT al fr st s.heap) (hF : ∀ a ∈ F, a ∈ fr) (hz : s.heap.objs.size ≤ hp.objs.size) (k : ∀ b o, b ∉ F → s.heap.get? b = some o → hp.get? b = some o)
  (htk : s.toks ≤ tk := by trivial) : Stp prog w hT fr F al al st st s { s with heap := hp, toks := tk } := by
 have an : ∀ a ∈ F, a ∉ al := fun a ha q => S.dj a q (hF a ha)
 have kal : ∀ b o, b ∈ al → s.heap.get? b = some o → hp.get? b = some o := fun b o hb e => k b o (fun q => an b q hb) e
 refine ⟨(m12 ([]) (by exact (List.append_nil _).symm) (fun z h => nomatch h)), ⟨fun b o e => k b o (fun q => ?_) (S.old b o e), S.len, fun x hx => ⟨(S.new x hx).1, Nat.lt_of_lt_of_le (S.new x hx).2 hz⟩, S.nd, S.dj, fun j v mo e => ?_⟩,
  ⟨hz, fun b o z n2 e => k b o n2 e, fun j v mo e => (m23 v mo e (Nat.le_refl _) (fun z => ⟨rfl, fun b o hb e => kal b o (List.mem_of_getElem? hb) e⟩))⟩, ⟨rfl, htk, .refl⟩⟩
 · rw [(S.new b (.inr (hF b q))).1] at e; exact nomatch e
 · refine x12 (S.mu j v mo e) ?_
   intro x hx m
   exact (m12 x hx (m.mono (fun o y => kal x o (List.mem_of_getElem? hx) y) (fun b o n1 n2 y => ⟨k b o (fun q => n2 (hF b q)) y, n1, n2⟩) fun z z y => y))
theorem forE_ok (NN : Names G.v) {ex : Ex} (X : ExOk prog w G hT n ex) {fr ow : List Addr} {te : Expr} {bs os : List Stmt} {i j : Nat} {body : List Y} {orelse : Bool} {f0 : Nat} {R : Result → Shared → Prop} {J l : Addr} {vs : List Value} (hsc : env.scope = sc)
  (FI : Fenced env fr ow I) (FJ : Fenced env fr ow J) (hIJ : I ≠ J) (nlf : l ∉ fr) (c1 : cTgt G sc (.tup [i, j]) te = true) (c2 : cB G f0 sc body bs = true) (c3 : (orelse || os.isEmpty) = true) :
  ∀ (rest : List D) {k : Nat} {ρ : Env'} {st : St} {fl : Fl} {ρ' : Env'} {st' : St} {al : List Addr} {s : Shared} {old : Value}, loopE ex i j body orelse k ρ st rest = some (fl, ρ', st') → Here prog w G.v G.c hT n A env sc al fr ow ρ st s →
   l ∉ al → IsEnum s.heap I J (k : Int) old → s.heap.IsListIter J l k → s.heap.PlainList l vs.toArray → RDs al fr s.heap (vs.drop k) rest →
   (∀ fl' s', PostI2 prog w G hT I J env sc al fr ow st st' ρ' s fl fl' s' → R (.ok fl') s') → codeAny (model prog w) A (.forLoop te (.ref I) bs os env) R s := by
 have c0 : vTup (fun es => tgNames G sc [i, j] es) te = true := c1
 revert c1
 refine vTup_e c0 fun es kt tpos u c1 => ?_
 clear u c0
 intro rest
 induction rest using List.rec with
 | nil =>
  intro k ρ st fl ρ' st' al s old h H nal he hit hl rr kk
  refine x04 (loopE_nil h) fun e0 e2 e3 e4 => ?_
  subst e2 e3 e4
  refine for_end (os_nil c3 e0) fun E => ?_
  have hx : vs.toArray[k]? = none := Array.getElem?_eq_none (by rw [List.size_toArray]; exact Nat.le_of_sub_eq_zero ((List.length_drop ..).symm.trans rr.length))
  refine with_more (wpAny_pyNext_enum_end H.hd he hit hl.isList hx fun h' hk hz => ?_)
  have S1 := Stp.but (htk := Nat.le_refl _) (tk := s.toks) H.sto FJ.mem hz.1 hk
  exact ⟨rfl, kk .next _ ⟨al, S1.wide fun a ha => .inl (List.mem_singleton.mp ha ▸ List.mem_cons_of_mem _ List.mem_cons_self), FJ.beside S1 H, rfl⟩⟩
 | cons d rest ih =>
  intro k ρ st fl ρ' st' al s old h H nal he hit hl rr kk
  refine loopE_inv h fun ρ1 fl1 ρ3 st3 b1 h3 hn hb => ?_
  clear h
  have hi : k < vs.length := Nat.lt_of_not_le fun z => by rw [List.drop_eq_nil_of_le z] at rr; exact nomatch rr.length
  rw [List.drop_eq_getElem_cons hi] at rr
  refine x23 rr.to fun v r ve p q => ?_
  clear rr
  have ve1 := (List.cons.inj ve).1
  have ve2 := (List.cons.inj ve).2
  clear ve
  subst ve2
  have hx : vs.toArray[k]? = some v := by rw [List.getElem?_toArray, List.getElem?_eq_getElem hi, ve1]
  clear ve1
  refine for_turn (wpAny_pyNext_enum_item he hit hl.isList hx hIJ fun h1 heo hit1 ht1 hz1 hk1 => m12 _ rfl (wpAny_letOwnedTupleGo_enum heo fun h2 he2 hs2 => ?_))
  have tne : s.heap.objs.size ≠ I := Nat.ne_of_gt (Heap.lt_size he)
  have kp : ∀ b o, b ∉ [I, J] → s.heap.get? b = some o → h2.get? b = some o := fun b o hb e =>
   (hs2.2 b (fun q => hb (q ▸ List.mem_cons_self))).trans (hk1 b o (fun q => hb (q ▸ List.mem_cons_self)) (fun q => hb (q ▸ List.mem_cons_of_mem _ List.mem_cons_self)) e)
  have sz : s.heap.objs.size ≤ h2.objs.size := by rw [hs2.1]; show _ ≤ h1.objs.size; simp only [*, Nat.le_add_right]
  have hF : ∀ a ∈ [I, J], a ∈ fr := fun a ha => (mc ha).elim (fun e => e ▸ FI.mem) fun ha => List.mem_singleton.mp ha ▸ FJ.mem
  have S1 := Stp.buts (htk := Nat.le_succ _) (tk := s.toks + 1) H.sto hF sz kp
  have nf := H.sto.fresh (Nat.le_refl s.heap.objs.size)
  have rt : RD al fr h2 (.ref s.heap.objs.size) (.tup [.int (k : Int), d]) :=
   .tup _ [_, _] [.int (k : Int), d] nf.1 nf.2 ⟨_, (hs2.2 _ tne).trans ht1, rfl, _, rfl⟩ (.cons (.int _ _) (.cons (p.stepF S1 hF) .nil))
  clear p nf tne ht1 sz kp hz1 hk1
  have H1 := H.turn S1 (H.env.beside H.sto S1 hF (fun z => (List.mem_cons.mp z).elim FI.nlo fun z => FJ.nlo (List.mem_singleton.mp z)) fun x c e z => (List.mem_cons.mp z).elim (FI.ncl x c e) fun z => FJ.ncl x c e (List.mem_singleton.mp z))
  refine wpAny_mono (assign_ok NN H1 (t := .tup [i, j]) (d := .tup [.int (k : Int), d]) b1 c1 rt) (fun y s2 p2 => x02 p2 fun S2 E2 => ?_) fun y y q => q
  clear p2 rt b1
  have H2 := H1.turn S2 E2
  have W1 : Stp prog w hT fr (I :: J :: ow) al al st st s _ := S1.wide fun a ha => .inl ((mc ha).elim (fun e => e ▸ (List.mem_cons_self : I ∈ I :: J :: ow)) fun ha => List.mem_singleton.mp ha ▸ (List.mem_cons_of_mem I List.mem_cons_self : J ∈ I :: J :: ow))
  have W2 := W1.trans (S2.wide fun a ha => .inl (List.mem_cons_of_mem _ (List.mem_cons_of_mem _ ha)))
  refine wpAny_mono (X h3 c2 hsc H2) (fun fl3 s3 p => x13 p fun al3 S3 E3 eq3 => ?_) fun y y q => q
  have W3 := W2.trans (S3.wide fun a ha => .inl (List.mem_cons_of_mem _ (List.mem_cons_of_mem _ ha)))
  clear p W2 h3 E2 H1
  induction fl1 using Fl.casesOn with
  | next =>
   subst eq3
   have nals : ∀ {a : Addr} {al : List Addr} {st : St} {h : Heap}, Sto prog w hT al fr st h → a ∈ fr → a ∉ al := fun S q z => S.dj _ z q
   have keep23 : ∀ b o, b ∉ al → b ∉ ow → h2.get? b = some o → s3.heap.get? b = some o := fun b o n1 n2 e => (S2.trans S3).kp.keep b o n1 n2 e
   have hl2 : h2.PlainList l vs.toArray := hl.at fun o e => S1.kp.keep l o nal (fun q => nlf (hF l q)) e
   have hit2 : h2.IsListIter J l (k + 1) := hit1.at fun o e => (hs2.2 J (Ne.symm hIJ)).trans e
   refine ih (k := k + 1) (hn rfl) (H2.turn S3 E3) ?_ (old := v) (keep23 I _ (nals H.sto FI.mem) FI.now he2) (hit2.at fun o e => keep23 J o (nals H.sto FJ.mem) FJ.now e) (hl2.at fun o e => keep23 l o nal (fun q => nlf (H.env.sub l q)) e) ((q.stepF S1 hF).stepF (S2.trans S3) H.env.sub)
    fun fl' s' p => x13 p fun al4 S4 E4 p4 => kk fl' s' ⟨al4, W3.trans S4, E4, p4⟩
   exact x11 hl2 fun m hm => (S2.trans S3).notNew nal hm
  | brk =>
   subst eq3
   refine x03 (hb nofun) fun a b c => ?_
   subst a b c
   exact kk .next s3 ⟨al3, W3, E3, rfl⟩
  | ret d3 =>
   refine x03 (hb nofun) fun a b c => x12 eq3 fun v3 e r3 => ?_
   subst e a b c
   exact kk (.ret v3) s3 ⟨al3, W3, E3, v3, rfl, r3⟩
theorem forES_ok (NN : Names G.v) (B : Bis hT) {ev : Ev} {ex : Ex} (IH : EvOk prog w G hT n ev) (XX : ExOk prog w G hT n ex) (H : Here prog w G.v G.c hT n A env sc al fr ow ρ st s) (hsc : env.scope = sc) {i j : Nat} {x : X} {body : List Y} {orelse : Bool} {te : Expr} {bs os : List Stmt} {pos : Pos} {id : Str} {p1 p2 : Pos} {e1 : Expr} {xs : List D} {st1 : St} {fl : Fl} {f : Nat}
  (h1 : ev ρ st x = some (.list xs, st1)) (h2 : loopE ex i j body orelse 0 ρ st1 xs = some (fl, ρ', st'))
  (c1 : id = ("enumerate" : Str)) (c2 : isGl sc id = true) (c3 : notStar e1 = true) (c4 : cE G f sc x e1 = true) (c5 : cTgt G sc (.tup [i, j]) te = true) (c6 : cB G f sc body bs = true) (c7 : (orelse || os.isEmpty) = true) :
  wpAny (model prog w) A (exec (.For te (.Call (.Name id p1) [e1] [] p2) bs os pos) env) (PostX prog w G hT env sc al fr ow st st' ρ' s fl) FF s := by
 subst c1
 refine wpAny_For ?_ (fun x => rfl)
 refine call_name H c2 (by decide) B.enum (PyProof.Rows.callWith_type (first := []) (by rw [starEach_cons c3]; rfl) ?_)
 rw [starEach_cons c3]
 refine evalArgs_plain (spliced_cons (wpAny_mono (IH h1 c4 H) (fun v s1 pp => x12 pp fun al1 S1 r1 => spliced_nil ?_) fun y y q => q))
 refine x25 r1.to ?_
 intro l vs eq2 n1 n2 hl r
 subst eq2
 · refine call_enumerate_list hl.isList fun h' he hit hz hk => ?_
   refine wpAny_pyIter_enum he ?_
   have hN : ∀ a ∈ [s1.heap.objs.size + 1, s1.heap.objs.size], s1.heap.objs.size ≤ a ∧ a < h'.objs.size := fun a ha => by
    rcases mc ha with rfl | ha
    · simp [*]
    · rw [List.mem_singleton.mp ha]; simp [*]
   have sto := S1.sto.fence hk (by simp only [*, Nat.le_add_right]) hN
   have env2 := (H.env.step H.sto S1).fence S1.sto hk fun a ha => (hN a ha).1
   have r2 := r.fence hk fun a ha => (hN a ha).1
   have lo : s.heap.objs.size ≤ s1.heap.objs.size := S1.kp.sz
   have old : ∀ {a : Addr}, s1.heap.objs.size ≤ a → a ∉ fr := fun {a} ha q => Nat.lt_irrefl _ (Nat.lt_of_lt_of_le (S1.sto.new a (.inr q)).2 ha)
   have lo1 : env.locals < s1.heap.objs.size := (S1.sto.new _ (.inr (H.env.sub _ H.env.lo))).2
   have cl1 : ∀ x c, env.cells.lookup x = some c → c < s1.heap.objs.size := fun x c e => (S1.sto.new c (.inr (H.env.cfr x c e).1)).2
   have fen : ∀ {a : Addr}, a ∈ [s1.heap.objs.size + 1, s1.heap.objs.size] → Fenced env ([s1.heap.objs.size + 1, s1.heap.objs.size] ++ fr) ow a := fun {a} ha =>
    ⟨List.mem_append.mpr (.inl ha), fun q => old (hN a ha).1 (H.env.sub a q), fun q => Nat.lt_irrefl _ (Nat.lt_of_lt_of_le (q ▸ lo1) (hN a ha).1), fun x c e q => Nat.lt_irrefl _ (Nat.lt_of_lt_of_le (q ▸ cl1 x c e) (hN a ha).1)⟩
   have H2 : Here prog w G.v G.c hT n A env sc al1 ([s1.heap.objs.size + 1, s1.heap.objs.size] ++ fr) ow ρ st1 { s1 with heap := h' } := ⟨H.hd, Nat.le_trans H.tk S1.rest.tk, H.dp, H.un, sto, H.cd, env2⟩
   have opn : ∀ a ∈ fr, a ∈ [s1.heap.objs.size + 1, s1.heap.objs.size] ++ fr := fun a ha => List.mem_append.mpr (.inr ha)
   refine x11 (id hl) ?_
   intro m hm
   have nlf : l ∉ [s1.heap.objs.size + 1, s1.heap.objs.size] ++ fr := fun q => by
    rcases List.mem_append.mp q with q | q
    · exact Nat.lt_irrefl _ (Nat.lt_of_lt_of_le (Heap.lt_size hm) (hN l q).1)
    · exact n2 q
   refine forE_ok NN XX hsc (fen List.mem_cons_self) (fen (List.mem_cons_of_mem _ List.mem_cons_self)) (Nat.succ_ne_self _) nlf c5 c6 c7 xs (k := 0) h2 H2 n1 (old := .none) he hit (hl.at fun o e => hk l o e) (by simpa using r2) fun fl' s' ⟨al', S3, E3, p⟩ => ?_
   show PostX prog w G hT env sc al fr ow st st' ρ' s fl fl' s'
   have S12 : Stp prog w hT fr [] al1 al1 st1 st1 s1 { s1 with heap := h' } := Stp.grow (htk := by first | exact Nat.le_refl _ | lia | omega) S1.sto (by simp only [*, Nat.le_add_right]) hk
   refine ⟨al', (((S1.trans S12).wide fun a ha => nomatch ha).trans (S3.open opn)).wide fun a ha => ?_, E3.to (fun v d r => r.open opn) (fun b o y e => e) H.env.sub (fun x c e => (H.env.cfr x c e).1), ?_⟩
   · rcases mc ha with rfl | ha
     · exact .inr (by exact Nat.le_succ_of_le ‹_›)
     · rcases mc ha with rfl | ha
       · exact .inr lo
       · exact .inl ha
   · induction fl using Fl.casesOn with
     | next => exact p
     | brk => exact p
     | ret d => obtain ⟨v, e, r⟩ := p; exact (m12 v e (r.open opn))
theorem Break_ {pos : Pos} {M : Model} {E : Value → Shared → Prop} {s : Shared} {Q : Flow → Shared → Prop} (q : Q .brk s) : wpAny M A (exec (.Break pos) env) Q E s := by
 show wpAny M A (do standAt pos; pure .brk) Q E s
 exact wpAny_bind (wpAny_standAt (wpAny_pure q))
end
end Mine
end
noncomputable section
set_option tactic.hygienic true
open PySem PySem.W PyProof.Rows PySem.Spec PySem.Calls
namespace Mine
theorem plainAttrs_pattern : PlainAttrs "re.Pattern" :=
 ⟨⟨"object.__getattribute__", by rw [typeLookup_type, builtinLookup_eq_fast]; kernel_rfl, by decide +kernel⟩, by rw [typeLookup_type, builtinLookup_eq_fast]; kernel_rfl⟩
theorem plainAttrs_match : PlainAttrs "re.Match" :=
 ⟨⟨"object.__getattribute__", by rw [typeLookup_type, builtinLookup_eq_fast]; kernel_rfl, by decide +kernel⟩, by rw [typeLookup_type, builtinLookup_eq_fast]; kernel_rfl⟩
theorem slot_search : Slot "re.Pattern" "search" "re.Pattern.search" :=
 .of (owner := "re.Pattern") (n := "search") (by rw [typeLookup_type, builtinLookup_eq_fast]; kernel_rfl) (by decide +kernel) (by decide +kernel) (by decide +kernel)
  (by first | exact .inl (by decide +kernel) | exact .inr (by decide +kernel)) (by rw [isSubtype_type]; kernel_rfl)
theorem type_search : typeOf (.builtin "re.Pattern.search") = pure (.type "method_descriptor") := by show builtinType _ = _; rw [builtinType_eq_fast]; kernel_rfl
theorem entry_search : entryFor table "re.Pattern.search" = some Builtin.«re.Pattern.search» := entryFor_of_tree (by kernel_rfl)
theorem args_search (a b : Value) : argsOk "re.Pattern.search" ⟨[a, b], []⟩ := by unfold argsOk; kernel_rfl
theorem slot_group : Slot "re.Match" "group" "re.Match.group" :=
 .of (owner := "re.Match") (n := "group") (by rw [typeLookup_type, builtinLookup_eq_fast]; kernel_rfl) (by decide +kernel) (by decide +kernel) (by decide +kernel)
  (by first | exact .inl (by decide +kernel) | exact .inr (by decide +kernel)) (by rw [isSubtype_type]; kernel_rfl)
theorem type_group : typeOf (.builtin "re.Match.group") = pure (.type "method_descriptor") := by show builtinType _ = _; rw [builtinType_eq_fast]; kernel_rfl
theorem entry_group : entryFor table "re.Match.group" = some Builtin.«re.Match.group» := entryFor_of_tree (by kernel_rfl)
theorem args_group (a b : Value) : argsOk "re.Match.group" ⟨[a, b], []⟩ := by unfold argsOk; kernel_rfl
theorem slot_span : Slot "re.Match" "span" "re.Match.span" :=
 .of (owner := "re.Match") (n := "span") (by rw [typeLookup_type, builtinLookup_eq_fast]; kernel_rfl) (by decide +kernel) (by decide +kernel) (by decide +kernel)
  (by first | exact .inl (by decide +kernel) | exact .inr (by decide +kernel)) (by rw [isSubtype_type]; kernel_rfl)
theorem type_span : typeOf (.builtin "re.Match.span") = pure (.type "method_descriptor") := by show builtinType _ = _; rw [builtinType_eq_fast]; kernel_rfl
theorem entry_span : entryFor table "re.Match.span" = some Builtin.«re.Match.span» := entryFor_of_tree (by kernel_rfl)
theorem args_span (a b : Value) : argsOk "re.Match.span" ⟨[a, b], []⟩ := by unfold argsOk; kernel_rfl
theorem look_string : typeLookup (.type "re.Match") "string" = pure (some (.builtin "re.Match.string")) := by rw [typeLookup_type, builtinLookup_eq_fast]; kernel_rfl
theorem entry_string : entryFor table "re.Match.string" = some Builtin.«re.Match.string» := entryFor_of_tree (by kernel_rfl)
theorem type_string : typeOf (.builtin "re.Match.string") = pure (.type "member_descriptor") := by show builtinType _ = _; rw [builtinType_eq_fast]; kernel_rfl
theorem spans_of (b e : Nat) : Array.map Builtin.Re.reRawOf ((some #[rawInt b, rawInt e, rawInt (b + 1 : Nat), rawInt e]).getD #[]) = #[(b : Int), (e : Int), ((b + 1 : Nat) : Int), (e : Int)] := by
 simp [rawInt, Builtin.Re.reRawOf]
open AutoSeq1 (wpAny_loadPart') in
theorem meets_span (a tp : Addr) (x : List Nat) (b e : Nat) (tx : Tok) (pat x2 x3 x4 : Value) (u : Tok) :
  Meets (Builtin.«re.Match.span» ⟨[.ref a, .int 0 u], []⟩) (fun j R s => (s.heap.get? a = some { cls := .type "re.Match", data := .fields #[.str ⟨x.toArray⟩ tx, pat, x2, x3, x4, .ref tp] } ∧
   s.heap.get? tp = some { cls := .type "tuple", data := .seq #[rawInt b, rawInt e, rawInt (b + 1 : Nat), rawInt e] }) ∧ R (.ok (.ret (.ref s.heap.objs.size))) { s with heap := s.heap.push { cls := .type "tuple", data := .seq #[.int b s.toks, .int e (s.toks + 1)] }, toks := s.toks + 1 + 1 }) :=
 .of_wp fun prog w A R s h => by
  obtain ⟨hp, g, d, tk, os⟩ := s; obtain ⟨⟨h1, h2⟩, h⟩ := h
  wp_walk using wpAny_loadPart' h1, wpAny_loadPart' h2
  rw [spans_of]
  exact ⟨_, rfl, h⟩
open AutoSeq1 (wpAny_loadPart') in
theorem meets_group (a tp : Addr) (x : List Nat) (b e : Nat) (tx : Tok) (pat x2 x3 x4 : Value) (u : Tok) (hsz : x.length ≤ sizeLine) :
  Meets (Builtin.«re.Match.group» ⟨[.ref a, .int 1 u], []⟩) (fun j R s => (s.heap.get? a = some { cls := .type "re.Match", data := .fields #[.str ⟨x.toArray⟩ tx, pat, x2, x3, x4, .ref tp] } ∧
   s.heap.get? tp = some { cls := .type "tuple", data := .seq #[rawInt b, rawInt e, rawInt (b + 1 : Nat), rawInt e] }) ∧ R (.ok (.ret (.str ⟨x.toArray.extract (b + 1) e⟩ s.toks))) { s with toks := s.toks + 1 }) :=
 .of_wp fun prog w A R s h => by
  obtain ⟨hp, g, d, tk, os⟩ := s; obtain ⟨⟨h1, h2⟩, h⟩ := h
  have hb : (decide (((b + 1 : Nat) : Int) < 0) || decide ((e : Int) < 0)) = false := by
   rw [decide_eq_false (by lia), decide_eq_false (by simp [*])]; rfl
  wp_walk using wpAny_loadPart' h1, wpAny_loadPart' h2
  rw [spans_of]
  show wpAny _ _ (if (decide (((b + 1 : Nat) : Int) < 0) || decide ((e : Int) < 0)) = true then pure Value.none else _) _ _ _
  rw [if_neg (by rw [hb]; decide)]
  show wpAny _ _ (mkStr ⟨x.toArray.extract ((b + 1 : Nat) : Int).toNat (e : Int).toNat⟩) _ _ _
  rw [Int.toNat_natCast, Int.toNat_natCast]
  refine wpAny_mkStr (wpAny_pure ⟨_, rfl, h⟩) ?_
  show (x.toArray.extract (b + 1) e).size ≤ sizeLine
  rw [Array.size_extract]
  have : x.toArray.size = x.length := rfl
  lia
noncomputable def reW : List Nat := [14, 8, 1, 3, 3, 1, 1, 37, 0, 16, 37, 17, 0, 13, 11, 9, 0, 67043328, 126, 126, 0, 0, 0, 0, 0, 13, 11, 9, 0, 67043328, 126, 126, 0, 0, 0, 0, 0, 17, 1, 1]
noncomputable def driveN : Nat → Sre.M → Option Sre.M
 | 0, _ => none
 | k + 1, m => if (m.runFor 4).outcome.isSome then some (m.runFor 4) else driveN k (m.runFor 4)
noncomputable def foundM (x : List Nat) : Option Sre.M := driveN 60 (Sre.forSearch reW.toArray x.toArray 1 0 x.length false)
noncomputable def foundD (x : List Nat) : Option (Nat × Nat) := match foundM x with
 | none => none
 | some m => match m.outcome with
  | some .matched => match m.marks.getD 0 none, m.marks.getD 1 none with
   | some b', some e' => if (1 : Int) ≤ m.lastmark ∧ b' = m.start + 1 ∧ e' = m.handed ∧ b' ≤ e' then some (m.start, m.handed) else none
   | _, _ => none
  | _ => none
section
variable {M : Model} {A : Around} {E : Value → Shared → Prop} {s : Shared}
theorem drive_ok {Q : Sre.M → Shared → Prop} : ∀ {k : Nat} {m m' : Sre.M} {turns : Nat}, driveN k m = some m' → k ≤ turns → Q m' s → wpAny M A (Builtin.Re.reDrive turns m) Q E s
 | 0, _, _, _, h, _, _ => by contradiction
 | k + 1, m, m', 0, _, hk, _ => by simp at *
 | k + 1, m, m', turns + 1, h, hk, q => by
  unfold driveN at h
  unfold Builtin.Re.reDrive
  show wpAny M A (if (m.runFor 4).outcome.isSome = true then pure (m.runFor 4) else do rule "sre.turn"; Builtin.Re.reDrive turns (m.runFor 4)) Q E s
  split at h
  · rename_i z
    cases h
    rw [if_pos z]
    exact wpAny_pure q
  · rename_i z
    rw [if_neg z]
    exact wpAny_bind (wpAny_rule (drive_ok h (by exact Nat.le_of_succ_le_succ ‹_›) q))
theorem rules_ok {Q : PUnit → Shared → Prop} {p : Nat → Bool} {n : Nat → String} : ∀ (l : List Nat), Q PUnit.unit s → wpAny M A (forIn l PUnit.unit fun i (_ : PUnit) => if p i = true then do rule (n i); pure (ForInStep.yield PUnit.unit) else pure (ForInStep.yield PUnit.unit)) Q E s
 | [], q => by rw [List.forIn_nil]; exact wpAny_pure q
 | i :: l, q => by
  rw [List.forIn_cons]
  refine wpAny_bind ?_
  split
  · exact wpAny_bind (wpAny_rule (wpAny_pure (rules_ok l q)))
  · exact wpAny_pure (rules_ok l q)
theorem runToEnd_ok {Q : Option Sre.M → Shared → Prop} {k : Nat} {m m' : Sre.M} (h : driveN k m = some m') (hk : k ≤ 2 ^ 64) (ho : m'.outcome = some .matched) (q : Q (some m') s) : wpAny M A (Builtin.Re.reRunToEnd m) Q E s := by
 unfold Builtin.Re.reRunToEnd
 refine wpAny_bind (drive_ok h hk ?_)
 refine wpAny_bind (rules_ok _ ?_)
 rw [ho]
 exact wpAny_pure q
end
theorem found_iff {x : List Nat} {b e : Nat} (hf : foundD x = some (b, e)) : ∃ m, foundM x = some m ∧ m.outcome = some .matched ∧ (1 : Int) ≤ m.lastmark ∧ m.marks.getD 0 none = some (b + 1) ∧ m.marks.getD 1 none = some e ∧ m.start = b ∧ m.handed = e ∧ b + 1 ≤ e := by
 unfold foundD at hf
 generalize foundM x = fm at hf ⊢
 induction fm using Option.casesOn with
 | none => exact nomatch hf
 | some m =>
  refine ⟨m, rfl, ?_⟩
  dsimp only at hf
  split at hf
  · rename_i ho
    split at hf
    · rename_i b' e' hb he
      split at hf
      · rename_i hc
        obtain ⟨c1, c2, c3, c4⟩ := hc
        cases hf
        subst c2 c3
        exact ⟨ho, c1, hb, he, rfl, rfl, c4⟩
      · exact nomatch hf
    · exact nomatch hf
  · exact nomatch hf
theorem newMatch_ok {M : Model} {A : Around} {E : Value → Shared → Prop} {s : Shared} {Q : Value → Shared → Prop} {pa st : Value} {pos lim b e : Nat} {m : Sre.M} (c1 : (1 : Int) ≤ m.lastmark) (hb : m.marks.getD 0 none = some (b + 1)) (he : m.marks.getD 1 none = some e) (c2 : m.start = b) (c3 : m.handed = e) (c4 : b + 1 ≤ e)
  (q : Q (.ref (s.heap.objs.size + 1)) { s with heap := (s.heap.push { cls := .type "tuple", data := .seq #[rawInt b, rawInt e, rawInt (b + 1 : Nat), rawInt e] }).push { cls := .type "re.Match", data := .fields #[st, pa, rawInt pos, rawInt lim, rawInt m.lastindex, .ref s.heap.objs.size] } }) :
  wpAny M A (Builtin.Re.reNewMatch pa st 1 pos lim m) Q E s := by
 unfold Builtin.Re.reNewMatch
 have c5 : ¬ e < b + 1 := by simp [*]
 have hb' : m.marks[0]?.getD none = some (b + 1) := by simpa using hb
 have he' : m.marks[1]?.getD none = some e := by simpa using he
 simp [List.range_succ, hb', he', c1, c5, c2, c3]
 refine wpAny_bind (wpAny_newTuple ?_ (by show 4 ≤ sizeLine; decide))
 refine wpAny_newObj_type ?_
 rw [Heap.size_push]
 exact q
theorem code_of : Array.map (fun x => Int.toNat x) (Array.map Builtin.Re.reRawOf ((some (reW.map fun (w : Nat) => rawInt w).toArray).getD #[])) = reW.toArray := by decide +kernel
open AutoSeq1 (wpAny_loadPart') in
set_option maxHeartbeats 1000000 in
theorem meets_search (pa ct : Addr) (x : List Nat) (tx : Tok) (pat f1 f3 f4 : Value) (n5 : Nat) (b e : Nat) (hf : foundD x = some (b, e)) (hsz : (x.length : Int) < 2 ^ 62) :
  Meets (Builtin.«re.Pattern.search» ⟨[.ref pa, .str ⟨x.toArray⟩ tx], []⟩) (fun j R s => (s.heap.get? pa = some { cls := .type "re.Pattern", data := .fields #[pat, f1, rawInt 1, f3, f4, .ref ct, rawInt 0] } ∧
   s.heap.get? ct = some { cls := .type "tuple", data := .seq (reW.map fun (w : Nat) => rawInt w).toArray n5 }) ∧
   ∀ x2 x3 x4 : Value, R (.ok (.ret (.ref (s.heap.objs.size + 1)))) { s with heap := (s.heap.push { cls := .type "tuple", data := .seq #[rawInt b, rawInt e, rawInt (b + 1 : Nat), rawInt e] }).push { cls := .type "re.Match", data := .fields #[.str ⟨x.toArray⟩ tx, .ref pa, x2, x3, x4, .ref s.heap.objs.size] } }) :=
 .of_wp fun prog w A R s h => by
  obtain ⟨hp, g, d, tk, os⟩ := s; obtain ⟨⟨h1, h2⟩, h⟩ := h
  obtain ⟨m, hm, ho, c1, hb, he, c2, c3, c4⟩ := found_iff hf
  have hrun : ∀ {code text : Array Nat} {groups pos lim : Nat} {Q : Option Sre.M → Shared → Prop} {E : Value → Shared → Prop} {s : Shared}, code = reW.toArray → text = x.toArray → groups = 1 → pos = 0 → lim = x.length → Q (some m) s →
    wpAny (model prog w) A.in1 (Builtin.Re.reRunToEnd (Sre.forSearch code text groups pos lim false)) Q E s := fun e1 e2 e3 e4 e5 q => by
   subst e1 e2 e3 e4 e5
   exact runToEnd_ok hm (by decide) ho q
  unfold Builtin.«re.Pattern.search» Builtin.Re.reAnswer
  wp_walk using wpAny_loadPart' h1, wpAny_loadPart' h2, hrun
  · exact code_of
  · rfl
  · rfl
  · show min ((0 : Int).toNat) x.toArray.size = 0
    exact Nat.add_zero _
  · show min (((2 : Int) ^ 63 - 1).toNat) x.toArray.size = x.length
    rw [List.size_toArray]
    lia
  · show wpAny _ _ (Builtin.Re.reNewMatch (.ref pa) (.str ⟨x.toArray⟩ tx) 1 _ _ m >>= fun v => ret v) _ _ _
    refine wpAny_bind (newMatch_ok c1 hb he c2 c3 c4 (wpAny_pure ⟨_, rfl, ?_⟩))
    exact h _ _ _
end Mine
end
noncomputable section
open PySem PySem.W PyProof.Rows PySem.Spec PySem.Calls
namespace Mine
variable [Val]
noncomputable def fnScope (sc : Scope) : Bool := sc.kind == .function && !sc.isCoroutine && !sc.isGenerator && sc.names.all fun (x, k) => (sc.names.lookup x == some k) && match k with
 | .free => false
 | _ => true
inductive FnOk (G : Nms) (hT : Heap) (a : Addr) (ps : List Nat) (body : List Y) : Prop
 | mk (o : Obj) (fd : FuncData) (stmts : List Stmt) (f : Nat) (h1 : hT.get? a = some o) (h2 : o.data = .func fd) (h3 : fd.body = .stmts stmts) (h4 : cB G f fd.scope body stmts = true) (h5 : fd.globals = mainGlobals) (h6 : fd.builtins = builtinsNs) (h7 : fd.closure = []) (h8 : fnScope fd.scope = true)
  (h9 : hT.CodeRec fd.code fd.qualname) (h10 : ∀ vals : List Value, vals.length = ps.length → bindArgs fd ⟨vals, []⟩ = pure ((ps.map G.v).zip vals)) (h11 : ∀ i ∈ ps, isOwnK (fd.scope.names.lookup (G.v i)) = true) (h12 : G.c fd.scope fd.code) : FnOk G hT a ps body
theorem FnOk.got {G : Nms} {hT : Heap} {a : Addr} {ps : List Nat} {body : List Y} (F : FnOk G hT a ps body) : ∃ o fd, hT.get? a = some o ∧ o.data = .func fd := by
 induction F using FnOk.casesOn with
 | mk o fd stmts f h1 h2 => exact (m22 o fd h1 h2)
structure ClsFacts (hT : Heap) (mN : Str → Option Value) : Prop where
 obj : ∃ N, PyProof.Rows.ClsAt hT Val.cls N mN
 ga : mN "__getattribute__" = none
 gg : mN "__getattr__" = none
 sa : mN "__setattr__" = none
 at_ : ∀ i, mN (nmA i) = none
 glb : Glb hT "Whitespace" (.ref Val.cls)
noncomputable def Meets1 (prog : Program) (w : World) (hT : Heap) (a : Addr) (ds : List D) (d : D) : Prop := ∀ (A : Around) (al fr : List Addr) (st : St) (s : Shared) (vs : List Value), A.handled = none → 1 ≤ s.toks → A.depth + 20 + Val.room < recursionLimit → A.units + 800 + 16 * Val.room < cLine → Sto prog w hT al fr st s.heap → RDs al fr s.heap vs ds →
   wpAny (model prog w) A (call (.ref a) vs) (PostE prog w hT al fr st st s d) FF s
noncomputable def Meets2 (prog : Program) (w : World) (hT : Heap) (a : Addr) (ds : List D) (d : D) : Prop := ∀ (A : Around) (al fr : List Addr) (st st' : St) (s : Shared) (vs : List Value), A.handled = none → 1 ≤ s.toks → A.depth + 22 + Val.room < recursionLimit → A.units + 816 + 16 * Val.room < cLine → Sto prog w hT al fr st s.heap → RDs al fr s.heap vs ds →
   atKey 1 1 st = true → setM st 1 some = some st' → wpAny (model prog w) A (call (.ref a) vs) (PostE prog w hT al fr st st' s d) FF s
noncomputable def isInst : D → Prop
 | .inst _ => True
 | .sym k => ∃ ds, Val.dat k = .inst ds
 | _ => False
structure TopOk (prog : Program) (w : World) (G : Nms) (T : Tab) (hT : Heap) : Prop extends Bis hT where
 nms : NOk G
 codeEq : Val.code T.code = G.code
 orc : OrOk T
 fn : ∀ k p, T.fns k = some p → ∃ a, Glb hT (G.f k) (.ref a) ∧ FnOk G hT a p.1 p.2
 sm : ∀ k ds d, T.sms k ds = some d → ∃ (a : Addr) (o : Obj) (fd : FuncData), Glb hT (G.s k) (.ref a) ∧ hT.get? a = some o ∧ o.data = .func fd ∧ (T.tabs k = false → Meets1 prog w hT a ds d) ∧ (T.tabs k = true → Meets2 prog w hT a ds d)
 cls : ∃ mN, ClsFacts hT mN ∧ (∀ p, T.ini = some p → ∃ a, mN "__init__" = some (.ref a) ∧ (∃ o, hT.get? a = some o ∧ o.cls = .type "function") ∧ FnOk G hT a p.1 p.2) ∧
  (∀ k p, T.mfns k = some p → ∃ a, mN (G.m k) = some (.ref a) ∧ (∃ o, hT.get? a = some o ∧ o.cls = .type "function") ∧ typeLookup (.type "object") (G.m k) = pure none ∧ (∀ i, G.m k ≠ nmA i) ∧ FnOk G hT a p.1 p.2) ∧
  ∀ k o ds d, T.msms k (o :: ds) = some d → isInst o ∧ ∃ a ob fd, mN (G.m k) = some (.ref a) ∧ hT.get? a = some ob ∧ ob.cls = .type "function" ∧ ob.data = .func fd ∧ typeLookup (.type "object") (G.m k) = pure none ∧ (∀ i, G.m k ≠ nmA i) ∧ Meets1 prog w hT a (o :: ds) d
 re : ∃ (pa ct : Addr) (pat f1 f3 f4 : Value) (n5 : Nat), Glb hT "ESCAPED_CHAR_RE" (.ref pa) ∧ hT.get? pa = some { cls := .type "re.Pattern", data := .fields #[pat, f1, rawInt 1, f3, f4, .ref ct, rawInt 0] } ∧
  hT.get? ct = some { cls := .type "tuple", data := .seq (reW.map fun (w : Nat) => rawInt w).toArray n5 }
 fnd : ∀ x b e, T.found x = some (b, e) → foundD x = some (b, e) ∧ x.length < 1000
 clsA : ∀ (i : Nat) {A : Around} {E : Value → Shared → Prop} {s : Shared} {Q : Value → Shared → Prop}, (∀ b o, hT.get? b = some o → s.heap.get? b = some o) → (∀ t, Q (.str ⟨[ltC i].toArray⟩ t) { s with toks := s.toks + 1 }) →
  wpAny (model prog w) A (getAttr (.ref Val.cls) (nmC i) true) Q E s
 mac : ∀ k d0 d, T.macs k d0 = some d → ∀ {A : Around} {env : Env} {sc : Scope} {al fr ow : List Addr} {ρ : Env'} {st : St} {s : Shared} {e : Expr} {n : Nat}, (G.mac k).1 sc e = true → Here prog w G.v G.c hT n A env sc al fr ow ρ st s →
  lk (G.mac k).2 ρ = some (some d0) → wpAny (model prog w) A (eval e env) (PostE prog w hT al fr st st s d) FF s
section
variable {prog : Program} {w : World} {G : Nms} {T : Tab} {hT : Heap} {n : Nat} {A : Around} {env : Env} {sc sc2 : Scope} {al al' al'' fr fr' N ow ow' : List Addr} {ρ ρ' : Env'} {st st' st'' : St} {s s₁ s₂ s₃ s' s'' : Shared} {h h' : Heap} {I Dd : Addr} {own : List Nat}
theorem params_ok (NN : Names G.v) {kindOf : Str → Option NameKind} : ∀ {is : List Nat} {ds : List D} {vs : List Value} {ρ ρ' : Env'} {m cm : Str → Option Value}, Mine.bindL is ds ρ = some ρ' → RDs al fr h vs ds →
  (∀ i d, lk i ρ = some (some d) → (kindOf (G.v i) = some .local → ∃ v, m (G.v i) = some v ∧ RD al fr h v d) ∧ (kindOf (G.v i) = some .cell → ∃ v, cm (G.v i) = some v ∧ RD al fr h v d)) →
  ∀ i d, lk i ρ' = some (some d) → (kindOf (G.v i) = some .local → ∃ v, PySem.bindL kindOf ((is.map G.v).zip vs) m (G.v i) = some v ∧ RD al fr h v d) ∧ (kindOf (G.v i) = some .cell → ∃ v, PySem.bindC kindOf ((is.map G.v).zip vs) cm (G.v i) = some v ∧ RD al fr h v d)
 | [], [], _, ρ, ρ', m, cm, b, .nil, k => by cases (so b); exact k
 | j :: is, d :: ds, _, ρ, ρ', m, cm, b, .cons (v := v) (vs := vs) p r, k => by
  show ∀ i d, _ → (_ → ∃ u, PySem.bindL kindOf ((G.v j, v) :: (is.map G.v).zip vs) m (G.v i) = some u ∧ _) ∧ (_ → ∃ u, PySem.bindC kindOf ((G.v j, v) :: (is.map G.v).zip vs) cm (G.v i) = some u ∧ _)
  unfold PySem.bindL PySem.bindC
  refine params_ok NN b r fun i e q => ?_
  rcases lk_put_opt q with ⟨rfl, rfl⟩ | ⟨ne, q⟩
  · refine ⟨fun hk => (m12 v (by rw [if_pos hk]; exact if_pos rfl) p), fun hk => (m12 v ?_ p)⟩
    rw [if_neg (by rw [hk]; intro z; exact nomatch z)]; exact if_pos rfl
  · refine x02 (k i e q) ?_
    intro k1 k2
    have nn : G.v i ≠ G.v j := fun z => ne (NN.inj _ _ z).symm
    refine ⟨fun hk => ?_, fun hk => ?_⟩
    · refine x12 (k1 hk) ?_
      intro u hu ru
      refine (m12 u ?_ ru)
      split
      · exact (if_neg nn).trans hu
      · exact hu
    · refine x12 (k2 hk) ?_
      intro u hu ru
      refine (m12 u ?_ ru)
      split
      · exact hu
      · exact (if_neg nn).trans hu
 | [], _ :: _, _, _, _, _, _, b, _, _ => no b
 | _ :: _, [], _, _, _, _, _, b, _, _ => no b
noncomputable def fNew (sc : Scope) (L : Addr) : List Addr := L :: sc.names.filterMap fun x => (cellsFrom (L + 1) sc.names []).lookup x.1
theorem fNew_mem {sc : Scope} {L : Addr} {x : Str} {c : Addr} (h : (cellsFrom (L + 1) sc.names []).lookup x = some c) : c ∈ fNew sc L :=
 List.mem_cons_of_mem _ (List.mem_filterMap.mpr (m12 (x, .cell) (cellsFrom_mem (mem_of_lookup h)) h))
theorem fNew_of {sc : Scope} {L : Addr} {c : Addr} (h : c ∈ fNew sc L) : c = L ∨ ∃ x, (cellsFrom (L + 1) sc.names []).lookup x = some c := by
 rcases List.mem_cons.mp h with h | h
 · exact .inl h
 · refine x12 (List.mem_filterMap.mp h) ?_
   intro x _ e
   exact .inr ⟨x.1, e⟩
theorem call_cells {R : Result → Shared → Prop} {a : Addr} {o : Obj} {fd : FuncData} {body : List Stmt} {vals : List Value} {binds : List (Str × Value)}
  (hroom : A.depth < recursionLimit) (ho : s.heap.get? a = some o) (hdata : o.data = .func fd) (hlim : s.heap.NoLimit) (hcd : s.heap.CodeRec fd.code fd.qualname)
  (hbody : fd.body = .stmts body) (hbind : bindArgs fd ⟨vals, []⟩ = pure binds) (hclo : fd.closure = [])
  (hkind : ∀ x ∈ binds, fd.scope.names.lookup x.1 = some .local ∨ (fd.scope.names.lookup x.1 = some .cell ∧ ((cellsFrom (s.heap.objs.size + 1) fd.scope.names []).lookup x.1).isSome = true))
  (h : ∀ s₁, s.toks ≤ s₁.toks → InCallC s (callEnvC fd s.heap.objs.size a).locals (PySem.bindL (callEnvC fd s.heap.objs.size a).kindOf binds fun j => none) (callEnvC fd s.heap.objs.size a).cells
    (PySem.bindC (callEnvC fd s.heap.objs.size a).kindOf binds fun j => none) s₁ →
   wpAny (model prog w) (A.deeper (callEnvC fd s.heap.objs.size a)) (execs body (callEnvC fd s.heap.objs.size a)) (fun f s' => R (.ok (.ret (match f with | .ret v => v | _ => .none))) s') FF s₁)
  (hco : fd.scope.isCoroutine = false) (hgen : fd.scope.isGenerator = false) (hk : fd.scope.kind = .function) :
  codeAny (model prog w) A (.call (.ref a) ⟨vals, []⟩) R s := by
 refine codeAny_call_function hroom ho hdata hco hgen hbody hcd ?_
 rw [hbind, hclo]
 refine wpAny_pure (wpAny_with_toks (Nat.le_refl _) (wpAny_newFunctionEnv_cells hk hkind fun env he s' x ht => ?_))
 subst he
 exact ⟨hlim.keeps x.toInCall.keep, codeAny_func (wpAny_mono (h s' ht x) (fun j j q => q) fun j j q => q.elim)⟩
structure FnE (G : Nms) (hT : Heap) (a : Addr) (ps : List Nat) (sc : Scope) (stmts : List Stmt) (code : Value) : Prop where
 has : ∃ (o : Obj) (fd : FuncData), hT.get? a = some o ∧ o.data = .func fd ∧ fd.body = .stmts stmts ∧ fd.scope = sc ∧ fd.globals = mainGlobals ∧ fd.builtins = builtinsNs ∧ fd.closure = [] ∧ fd.code = code ∧
  hT.CodeRec fd.code fd.qualname ∧ (∀ vals : List Value, vals.length = ps.length → bindArgs fd ⟨vals, []⟩ = pure ((ps.map G.v).zip vals))
 fs : fnScope sc = true
 own : ∀ i ∈ ps, isOwnK (sc.names.lookup (G.v i)) = true
 cd : G.c sc code
theorem fn_enter (NN : Names G.v) (B : Bis hT) {a : Addr} {ps : List Nat} {stmts : List Stmt} {code : Value} (FO : FnE G hT a ps sc stmts code) (hh : A.handled = none) (htk : 1 ≤ s.toks) (hd : A.depth + 1 + 2 * n + 20 + Val.room < recursionLimit) (hu : A.units + 3 + 16 * n + 800 + 16 * Val.room < cLine)
  (S : Sto prog w hT al fr st s.heap) {vs : List Value} {ds : List D} {ρ0 : Env'} (r : RDs al fr s.heap vs ds) (b : Mine.bindL ps ds [] = some ρ0) {R : Value → Shared → Prop}
  (k : ∀ (env : Env) (N : List Addr) (s1 : Shared), env.code = code → env.scope = sc → (∀ b o, s.heap.get? b = some o → s1.heap.get? b = some o) → s.heap.objs.size ≤ s1.heap.objs.size → Rest s s1 → (∀ c ∈ N, s.heap.objs.size ≤ c ∧ c < s1.heap.objs.size) →
   Here prog w G.v G.c hT n (A.deeper env) env sc al (N ++ fr) N ρ0 st s1 → wpAny (model prog w) (A.deeper env) (execs stmts env) (fun f s' => R (match f with | .ret v => v | _ => .none) s') FF s1) :
  wpAny (model prog w) A (call (.ref a) vs) R FF s := by
 obtain ⟨⟨o, fd, h1, h2, h3, hsc, h5, h6, h7, hco, h9, h10⟩, h8, h11, h12⟩ := FO
 subst hsc hco
 unfold fnScope at h8
 simp only [Bool.and_eq_true, Bool.not_eq_true', List.all_eq_true] at h8
 obtain ⟨⟨⟨q1, q2⟩, q3⟩, q4⟩ := h8
 have hk : fd.scope.kind = .function := beq_iff_eq.mp q1
 have lb := bindL_len b
 have nofree : ∀ x, fd.scope.names.lookup x ≠ some .free := fun x e => by
  have := (q4 _ (mem_of_lookup e)).2
  exact nb this
 have cellAt : ∀ {x : Str}, fd.scope.names.lookup x = some .cell → ∃ c, (cellsFrom (s.heap.objs.size + 1) fd.scope.names []).lookup x = some c := fun e => cellsFrom_has (.inl (mem_of_lookup e))
 refine wpAny_call (call_cells (binds := (ps.map G.v).zip vs) (by lia) (S.old a o h1) h2 (B.lim.keeps S.old) ?_ h3 (h10 vs (by rw [r.length, lb])) h7 (fun x hx => ?_) (fun s1 ht1 IC => ?_) q2 q3 hk)
 · refine x44 h9 ?_
   clear h9
   intro c oc vs' t e1 e2 e3 e4
   exact ⟨c, oc, vs', t, e1, S.old _ _ e2, e3, e4⟩
 · have : ∃ i ∈ ps, x.1 = G.v i := by
     have := (List.of_mem_zip hx).1
     refine x12 (List.mem_map.mp this) ?_
     intro i hi e
     exact (m12 i hi e.symm)
   refine x12 this ?_
   clear this
   intro i hi ex
   have := h11 i hi
   rw [ex]
   cases q : fd.scope.names.lookup (G.v i) with
   | none => rw [q] at this; exact nomatch this
   | some k =>
    induction k using NameKind.casesOn <;> rw [q] at this <;> first | exact .inl rfl | (refine .inr ⟨rfl, ?_⟩; obtain ⟨c, hc⟩ := cellAt q; rw [hc]; rfl) | cases this
 · have rest1 : Rest s s1 := by obtain ⟨hp, tk, rfl⟩ := IC.toInCall.same; exact ⟨rfl, ht1, .refl⟩
   have keep : ∀ b o, s.heap.get? b = some o → s1.heap.get? b = some o := IC.toInCall.keep
   have Lns : s1.heap.Ns s.heap.objs.size _ := IC.toInCall.ns
   have Llt : s.heap.objs.size < s1.heap.objs.size := Lns.lt
   have cellOk : ∀ x c, (cellsFrom (s.heap.objs.size + 1) fd.scope.names []).lookup x = some c → s1.heap.IsCell c (PySem.bindC (callEnvC fd s.heap.objs.size a).kindOf ((ps.map G.v).zip vs) (fun j => none) x) := IC.cell
   have apart : ∀ {x c}, (x, c) ∈ cellsFrom (s.heap.objs.size + 1) fd.scope.names [] → s.heap.objs.size < c := fun {x c} e => IC.above x c e
   have N1 : ∀ c ∈ fNew fd.scope s.heap.objs.size, s.heap.objs.size ≤ c ∧ c < s1.heap.objs.size := fun c hc => by
    rcases fNew_of hc with rfl | ⟨y, hy⟩
    · exact ⟨Nat.le_refl _, Llt⟩
    · exact ⟨Nat.le_of_lt (apart (mem_of_lookup hy)), (cellOk y _ hy).lt⟩
   have sto1 := S.fence (N := fNew fd.scope s.heap.objs.size) keep (Nat.le_of_lt Llt) N1
   have r1 := r.fence (N := fNew fd.scope s.heap.objs.size) keep fun c hc => (N1 c hc).1
   have P := params_ok (m := fun j => none) (cm := fun j => none) NN (kindOf := (callEnvC fd s.heap.objs.size a).kindOf) b r1 (fun i d e => by simp [lk] at e)
   have env1 : EnvOk G.v (callEnvC fd s.heap.objs.size a) fd.scope al (fNew fd.scope s.heap.objs.size ++ fr) (fNew fd.scope s.heap.objs.size) ρ0 s1.heap := by
    refine { fn := hk, gl := h5, bi := h6, k1 := fun x e => e, k2 := fun x e => e, k3 := fun x e => .inr e, k4 := fun x e => e, lo := List.mem_cons_self, sub := fun c hc => List.mem_append.mpr (.inl hc), cfr := fun x c e => ?_, cin := fun x y c e1 e2 => ?_, ch := fun x e => ?_, cow := fun i e => ?_, ns := ?_, cv := fun i d e k => ?_ }
    · have e : (cellsFrom (s.heap.objs.size + 1) fd.scope.names []).lookup x = some c := e
      exact ⟨List.mem_append.mpr (.inl (fNew_mem e)), Nat.ne_of_gt (apart (mem_of_lookup e)), _, cellOk x c e⟩
    · exact name_of_addr IC.apart (mem_of_lookup e1) (mem_of_lookup e2)
    · rcases e with e | e
      · exact cellAt e
      · exact absurd e (nofree x)
    · refine x11 (cellAt e) ?_
      intro c hc
      exact (m12 c hc (fNew_mem hc))
    · exact (m12 _ Lns (fun i d e k => (P i d e).1 k))
    · rcases k with k | k
      · refine x12 ((P i d e).2 k) ?_
        intro v hv rv
        refine x11 (cellAt k) ?_
        intro c hc
        exact (m23 c v hc (hv ▸ cellOk _ c hc) rv)
      · exact absurd k (nofree _)
   exact k _ (fNew fd.scope s.heap.objs.size) s1 rfl rfl keep (Nat.le_of_lt Llt) rest1 N1 ⟨hh, Nat.le_trans htk ht1, by show A.depth + 1 + 2 * n + 20 + Val.room < _; assumption, by show A.units + 3 + 16 * n + 800 + 16 * Val.room < _; assumption, sto1, h12, env1⟩
theorem leave_fn {N al2 : List Addr} {s s1 s2 : Shared} {v : Value} {d : D} (keep : ∀ b o, s.heap.get? b = some o → s1.heap.get? b = some o) (hz : s.heap.objs.size ≤ s1.heap.objs.size) (R : Rest s s1) (hN : ∀ c ∈ N, s.heap.objs.size ≤ c ∧ c < s1.heap.objs.size)
  (S2 : Stp prog w hT (N ++ fr) N al al2 st st' s1 s2) (r : RD al2 (N ++ fr) s2.heap v d) : PostE prog w hT al fr st st' s d v s2 := by
 have hf : ∀ c ∈ fr, c ∈ N ++ fr := fun c hc => List.mem_append.mpr (.inr hc)
 exact ⟨al2, Stp.inner keep hz R S2 hf fun c hc => .inr (hN c hc).1, r.open hf⟩
theorem fn_ok (NN : Names G.v) (B : Bis hT) {ex : Ex} (X : ExOk prog w G hT n ex) {a : Addr} {ps : List Nat} {body : List Y} (FO : FnOk G hT a ps body) (hh : A.handled = none) (htk : 1 ≤ s.toks) (hd : A.depth + 1 + 2 * n + 20 + Val.room < recursionLimit) (hu : A.units + 3 + 16 * n + 800 + 16 * Val.room < cLine)
  (S : Sto prog w hT al fr st s.heap) {vs : List Value} {ds : List D} {ρ0 : Env'} {fl : Fl} {d : D} (r : RDs al fr s.heap vs ds) (b : Mine.bindL ps ds [] = some ρ0) (e : ex ρ0 st body = some (fl, ρ', st')) (hfl : fl = .ret d ∨ (fl = .next ∧ d = .none)) :
  wpAny (model prog w) A (call (.ref a) vs) (PostE prog w hT al fr st st' s d) FF s := by
 obtain ⟨o, fd, stmts, f, h1, h2, h3, h4, h5, h6, h7, h8, h9, h10, h11, h12⟩ := FO
 refine fn_enter NN B ⟨⟨o, fd, h1, h2, h3, rfl, h5, h6, h7, rfl, h9, h10⟩, h8, h11, h12⟩ hh htk hd hu S r b fun env N s1 hc hsc keep hz R hN H => ?_
 refine wpAny_mono (X e h4 hsc H) (fun f2 s2 p => x13 p fun al2 S2 E2 p => ?_) fun j j q => q
 refine hfl.elim (fun e1 => ?_) fun e1 => ?_
 · subst e1
   refine x12 p fun v e2 rv => ?_
   subst e2
   exact leave_fn keep hz R hN S2 rv
 · rw [e1.1] at p
   have p : f2 = .next := p
   subst p
   rw [e1.2]
   exact leave_fn keep hz R hN S2 .none
end
end Mine
end
noncomputable section
open PySem PySem.W PyProof.Rows PySem.Spec PySem.Calls
namespace Mine
variable [Val]
section
variable {prog : Program} {w : World} {A : Around} {E : Value → Shared → Prop} {s : Shared}
theorem nextOf_tup {it t : Addr} {i : Nat} {items : Array Value} {Q : Value → Shared → Prop} (hit : s.heap.IsTupleIter it t i) (ht : s.heap.IsTuple t items)
  (hi : ∀ x h', items[i]? = some x → h'.IsTupleIter it t (i + 1) → Heap.SameBut it s.heap h' → Q x { s with heap := h' })
  (he : items[i]? = none → A.handled = none ∧ ∀ h' e, Heap.ExtBut it s.heap h' → (∃ o, h'.get? e = some o ∧ o.cls = .type "StopIteration") → E (.ref e) { s with heap := h' }) :
  wpAny (model prog w) A (Builtin.SmallTypes.nextOf (.ref it)) Q E s := by
 refine x13 (id hit) ?_
 intro o ho hc hd
 obtain ⟨ot, hot, _, n, hdt⟩ := ht
 unfold Builtin.SmallTypes.nextOf
 refine wpAny_bind (wpAny_callSpecial?_slot (name := Str.ofString "__next__") hit.typeIs F.slot_tuple_iterator_next
  (wpAny_call_entry F.slot_tuple_iterator_next hit.typeIs F.entry_tuple_iterator_next ?_ (F.args_tuple_iterator_next_1 _)))
 show wpAny _ _ (field (.ref it) 0 >>= _) _ _ s
 refine wpAny_bind (wpAny_field ho hd (x := .ref t) rfl ?_)
 refine wpAny_ite_false rfl ?_
 show wpAny _ _ (field (.ref it) 1 >>= _) _ _ s
 refine wpAny_bind (wpAny_field ho hd (x := .int i 0) rfl ?_)
 show wpAny _ _ (seqItems? (.ref t) >>= _) _ _ s
 refine wpAny_bind (wpAny_seqItems hot hdt ?_)
 cases hx : items[i]? with
 | some x =>
  dsimp only [Int.toNat_natCast]
  rw [hx]
  refine wpAny_bind (wpAny_setField ho hd (by exact Nat.lt_succ_self _) (wpAny_pure ⟨x, rfl, wpAny_pure (hi x _ hx ?_ (Heap.SameBut.update ..))⟩))
  exact ⟨_, Heap.get?_update_self _ ho (Obj.isFreed_of_fields (Obj.data_mapFields hd _)), (Obj.cls_mapFields ..).trans hc, by
   rw [Obj.data_mapFields hd]; rfl⟩
 | none =>
  obtain ⟨hh, hE⟩ := he hx
  dsimp only [Int.toNat_natCast]
  rw [hx]
  refine wpAny_bind (wpAny_rule ?_)
  refine wpAny_bind (wpAny_setField ho hd (by exact Nat.le_succ _) ?_)
  show wpAny _ _ (newExc (.type "StopIteration") [] >>= _) _ _ _
  refine wpAny_bind ?_
  simp only [newExc, newTuple]
  refine wpAny_bind (wpAny_newObj_type ?_ (by size_fits))
  refine wpAny_bind (m := firstArgMember _ _) (wpAny_of_eq (a := Value.none) (by first | rfl | (simp only [firstArgMember]; rfl)) ?_)
  refine wpAny_newObj_type ?_ (by size_fits)
  unfold raiseNew
  refine wpAny_bind (wpAny_handled ?_)
  rw [show A.in1.handled = none from hh]
  exact wpAny_bind (wpAny_pure (wpAny_throw (hE _ _ (((Heap.SameBut.update ..).extBut.push _).push _) ⟨_, Heap.get?_push_size _ rfl, rfl⟩)))
structure ZipT (h : Heap) (b : Addr) (t1 t2 : Addr) (xs ys : Array Value) (f0 : Value) (k : Nat) : Prop where
 z : IsZip h (b + 4) (b + 2) (b + 3) f0
 ti : IsPair h (b + 2) (.ref b) (.ref (b + 1))
 to : ∃ x y, IsPair h (b + 3) x y
 i1 : h.IsTupleIter b t1 k
 i2 : h.IsTupleIter (b + 1) t2 k
 l1 : h.IsTuple t1 xs
 l2 : h.IsTuple t2 ys
 lt1 : t1 < b
 lt2 : t2 < b
theorem ZipT.keep {h h' : Heap} {b t1 t2 : Addr} {xs ys : Array Value} {f0 : Value} {k : Nat} (Z : ZipT h b t1 t2 xs ys f0 k) (q : ∀ c o, c ∈ [b + 4, b + 2, b + 3, b, b + 1, t1, t2] → h.get? c = some o → h'.get? c = some o) : ZipT h' b t1 t2 xs ys f0 k := by
 obtain ⟨z, ti, ⟨x, y, to⟩, ⟨o1, e1, r1⟩, ⟨o2, e2, r2⟩, ⟨o3, e3, r3⟩, ⟨o4, e4, r4⟩, a, c⟩ := Z
 exact ⟨q _ _ (.head _) z, q _ _ (.tail _ (.head _)) ti, ⟨x, y, q _ _ (.tail _ (.tail _ (.head _))) to⟩, ⟨o1, q _ _ (.tail _ (.tail _ (.tail _ (.head _)))) e1, r1⟩, ⟨o2, q _ _ (.tail _ (.tail _ (.tail _ (.tail _ (.head _))))) e2, r2⟩, ⟨o3, q _ _ (.tail _ (.tail _ (.tail _ (.tail _ (.tail _ (.head _)))))) e3, r3⟩, ⟨o4, q _ _ (.tail _ (.tail _ (.tail _ (.tail _ (.tail _ (.tail _ (.head _))))))) e4, r4⟩, a, c⟩
noncomputable abbrev zP1 (h : Heap) (t1 : Addr) : Heap := h.push { cls := .type "tuple_iterator", data := .fields #[.ref t1, .int 0 0] }
noncomputable abbrev zP2 (h : Heap) (t1 t2 : Addr) : Heap := (zP1 h t1).push { cls := .type "tuple_iterator", data := .fields #[.ref t2, .int 0 0] }
noncomputable abbrev zP3 (h : Heap) (t1 t2 : Addr) : Heap := (zP2 h t1 t2).push { cls := .type "tuple", data := .seq #[.ref h.objs.size, .ref (zP1 h t1).objs.size] }
noncomputable abbrev zP4 (h : Heap) (t1 t2 : Addr) : Heap := (zP3 h t1 t2).push { cls := .type "tuple", data := .seq #[.none, .none] }
noncomputable abbrev zP5 (h : Heap) (t1 t2 : Addr) : Heap := (zP4 h t1 t2).push { cls := .type "zip", data := .fields #[.none, .bool false, .bool false, .ref (zP2 h t1 t2).objs.size, .ref (zP3 h t1 t2).objs.size] }
theorem zip_new (t1 t2 : Addr) (xs ys : Array Value) : Meets (Builtin.«zip.__new__» ⟨[.type "zip", .ref t1, .ref t2], []⟩) (fun j R s => s.heap.IsTuple t1 xs ∧ s.heap.IsTuple t2 ys ∧
   R (.ok (.ret (.ref (zP4 s.heap t1 t2).objs.size))) { s with heap := zP5 s.heap t1 t2 }) := by
 refine .of_wp fun prog w A R s h => ?_
 obtain ⟨hp, g, d, tk, os⟩ := s
 refine x03 h ?_
 try clear h
 intro h1 h2 h
 have hsub := sub_zip
 have hL1 : Heap.IsTuple (Shared.heap ⟨hp, g, d, tk, os⟩) t1 xs := h1
 have hL2 : Heap.IsTuple (Shared.heap ⟨hp.push { cls := .type "tuple_iterator", data := .fields #[.ref t1, .int 0 0] }, g, d, tk, os⟩) t2 ys := Heap.IsTuple.push h2 _
 wp_walk using wpAny_pyIter_tuple hL1, wpAny_pyIter_tuple hL2
 exact ⟨_, rfl, h⟩
theorem zip_made {t1 t2 : Addr} {xs ys : Array Value} {Q : Value → Shared → Prop} (h1 : s.heap.IsTuple t1 xs) (h2 : s.heap.IsTuple t2 ys)
  (hQ : ∀ h', ZipT h' s.heap.objs.size t1 t2 xs ys .none 0 → h'.objs.size = s.heap.objs.size + 5 → (∀ c o, s.heap.get? c = some o → h'.get? c = some o) → Q (.ref (s.heap.objs.size + 4)) { s with heap := h' }) :
  wpAny (model prog w) A (call (.type "zip") [.ref t1, .ref t2]) Q E s := by
 have a1 : t1 < s.heap.objs.size := by obtain ⟨_, e, _⟩ := h1; exact Heap.lt_size e
 have a2 : t2 < s.heap.objs.size := by obtain ⟨_, e, _⟩ := h2; exact Heap.lt_size e
 refine callType_new F.called_zip (by decide) (F.typeCall_zip_2 _ _) (F.newCall_zip_2 _ _) (fun obj => F.args_object_init_3 obj _ _) F.entry_zip_new (zip_new t1 t2 xs ys) ⟨h1, h2, ?_⟩
 have z1 : (zP1 s.heap t1).objs.size = s.heap.objs.size + 1 := Heap.size_push ..
 have z2 : (zP2 s.heap t1 t2).objs.size = s.heap.objs.size + 2 := by rw [Heap.size_push, z1]
 have z3 : (zP3 s.heap t1 t2).objs.size = s.heap.objs.size + 3 := by rw [Heap.size_push, z2]
 have z4 : (zP4 s.heap t1 t2).objs.size = s.heap.objs.size + 4 := by rw [Heap.size_push, z3]
 have z5 : (zP5 s.heap t1 t2).objs.size = s.heap.objs.size + 5 := by rw [Heap.size_push, z4]
 have up : ∀ {h : Heap} {c : Addr} {o o' : Obj}, h.get? c = some o → (h.push o').get? c = some o := fun e => Heap.get?_push_of_some _ e
 have g5 : (zP5 s.heap t1 t2).get? (zP4 s.heap t1 t2).objs.size = some { cls := .type "zip", data := .fields #[.none, .bool false, .bool false, .ref (zP2 s.heap t1 t2).objs.size, .ref (zP3 s.heap t1 t2).objs.size] } := Heap.get?_push_size _ rfl
 have g4 : (zP5 s.heap t1 t2).get? (zP3 s.heap t1 t2).objs.size = some { cls := .type "tuple", data := .seq #[.none, .none] } := up (Heap.get?_push_size _ rfl)
 have g3 : (zP5 s.heap t1 t2).get? (zP2 s.heap t1 t2).objs.size = some { cls := .type "tuple", data := .seq #[.ref s.heap.objs.size, .ref (zP1 s.heap t1).objs.size] } := up (up (Heap.get?_push_size _ rfl))
 have g2 : (zP5 s.heap t1 t2).get? (zP1 s.heap t1).objs.size = some { cls := .type "tuple_iterator", data := .fields #[.ref t2, .int 0 0] } := up (up (up (Heap.get?_push_size _ rfl)))
 have g1 : (zP5 s.heap t1 t2).get? s.heap.objs.size = some { cls := .type "tuple_iterator", data := .fields #[.ref t1, .int 0 0] } := up (up (up (up (Heap.get?_push_size _ rfl))))
 have old : ∀ c o, s.heap.get? c = some o → (zP5 s.heap t1 t2).get? c = some o := fun c o e => up (up (up (up (up e))))
 rw [z2, z3, z4] at g5
 rw [z1, z2] at g3
 rw [z3] at g4
 rw [z1] at g2
 show _ ∧ _
 rw [z4]
 refine ⟨⟨_, g5, rfl⟩, hQ _ ⟨g5, g3, ⟨_, _, g4⟩, ⟨_, g1, rfl, rfl⟩, ⟨_, g2, rfl, rfl⟩, ?_, ?_, a1, a2⟩ z5 old⟩
 · refine x12 h1 ?_
   try clear h1
   intro o e r
   exact ⟨o, old _ _ e, r⟩
 · refine x12 h2 ?_
   try clear h2
   intro o e r
   exact ⟨o, old _ _ e, r⟩
theorem zip_next {b t1 t2 : Addr} {xs ys : Array Value} {k : Nat} {Q : Fin → Shared → Prop} (Z : ZipT s.heap b t1 t2 xs ys .none k)
  (hi : ∀ x y h', xs[k]? = some x → ys[k]? = some y → ZipT h' b t1 t2 xs ys (rawInt s.heap.objs.size) (k + 1) → IsPair h' s.heap.objs.size x y → h'.objs.size = s.heap.objs.size + 1 →
   (∀ c o, c ∉ [b + 4, b + 3, b, b + 1] → s.heap.get? c = some o → h'.get? c = some o) → Q (.done (.ret (.ref s.heap.objs.size))) { s with heap := h' })
  (he : xs[k]? = none ∨ ys[k]? = none → A.handled = none ∧ ∀ h' e, (∀ c o, c ∉ [b + 4, b + 3, b, b + 1] → s.heap.get? c = some o → h'.get? c = some o) → (∃ o, h'.get? e = some o ∧ o.cls = .type "StopIteration") → E (.ref e) { s with heap := h' }) :
  wpAny (model prog w) A (Builtin.«zip.__next__» ⟨[.ref (b + 4)], []⟩) Q E s := by
 obtain ⟨hz, hti, ⟨u, v, hto⟩, h1, h2, l1, l2, lt1, lt2⟩ := Z
 have n1 : ∀ {c : Addr} {j : Nat}, c < b → c ≠ b + j := fun lt q => by subst q; exact absurd lt (by simp)
 have d4 : ∀ {i j : Nat}, i ≠ j → b + i ≠ b + j := fun ne q => ne (Nat.add_left_cancel q)
 have d0 : ∀ {j : Nat}, j ≠ 0 → b ≠ b + j := fun ne => Nat.ne_of_lt (Nat.lt_add_of_pos_right (Nat.pos_of_ne_zero ne))
 have e0 : ∀ {j : Nat}, j ≠ 0 → b + j ≠ b := fun ne => (d0 ne).symm
 show wpAny _ _ (field (.ref (b + 4)) 2 >>= _) _ _ _
 refine wpAny_bind (wpAny_field hz rfl (x := .bool false) rfl ?_)
 show wpAny _ _ (field (.ref (b + 4)) 3 >>= _) _ _ _
 refine wpAny_bind (wpAny_field hz rfl (x := .ref (b + 2)) rfl ?_)
 refine wpAny_bind (wpAny_seqItems hti rfl ?_)
 show wpAny _ _ (Builtin.SmallTypes.ownedTupleIsFree (.ref (b + 4)) >>= _) _ _ _
 refine wpAny_bind ?_
 unfold Builtin.SmallTypes.ownedTupleIsFree
 refine wpAny_bind (wpAny_field hz rfl (x := .none) rfl (wpAny_pure ?_))
 refine wpAny_ite_true rfl ?_
 refine wpAny_bind (wpAny_rule ?_)
 refine wpAny_bind (wpAny_field hz rfl (x := .ref (b + 3)) rfl ?_)
 refine wpAny_bind (wpAny_setField_rec hz (by exact Nat.succ_pos _) fun g1 z1 s1 => ?_)
 replace z1 : IsZip g1 (b + 4) (b + 2) (b + 3) .ellipsis := z1
 refine wpAny_bind ?_
 refine wpAny_bind (wpAny_bind (wpAny_onRaise ?_))
 show wpAny _ _ (Builtin.SmallTypes.nextOf (.ref b) >>= _) _ _ _
 have k1 : ∀ c o, c ≠ b + 4 → s.heap.get? c = some o → g1.get? c = some o := fun c o n e => s1.extBut c o n e
 refine wpAny_bind (nextOf_tup (h1.extBut s1.extBut (d0 (by decide))) (l1.extBut s1.extBut (n1 lt1)) (fun x g2 hx i2 s2 => wpAny_pure ?_) fun hx => ⟨(he (.inl hx)).1, fun g2 e k2 ⟨oe, ho, hc⟩ => ?_⟩)
 · have to2 : IsPair g2 (b + 3) u v := s2.extBut _ _ (e0 (by decide)) (k1 _ _ (d4 (by decide)) hto)
   refine wpAny_bind (wpAny_seqItems to2 rfl ?_)
   refine wpAny_bind (wpAny_updateSeq_pair to2 fun g3 to3 s3 => ?_)
   replace to3 : IsPair g3 (b + 3) x v := to3
   refine wpAny_bind (wpAny_letGo (wpAny_pure ?_))
   refine wpAny_bind (wpAny_bind (wpAny_onRaise ?_))
   show wpAny _ _ (Builtin.SmallTypes.nextOf (.ref (b + 1)) >>= _) _ _ _
   have k3 : ∀ c o, c ≠ b + 4 → c ≠ b → c ≠ b + 3 → s.heap.get? c = some o → g3.get? c = some o := fun c o n4 n0 n3 e => s3.extBut c o n3 (s2.extBut c o n0 (k1 c o n4 e))
   have i3 : g3.IsTupleIter (b + 1) t2 k := by obtain ⟨o, e, r⟩ := h2; exact ⟨o, k3 _ _ (d4 (by decide)) (e0 (by decide)) (d4 (by decide)) e, r⟩
   have l3 : g3.IsTuple t2 ys := by obtain ⟨o, e, r⟩ := l2; exact ⟨o, k3 _ _ (n1 lt2) (Nat.ne_of_lt lt2) (n1 lt2) e, r⟩
   refine wpAny_bind (nextOf_tup i3 l3 (fun y g4 hy i4 s4 => wpAny_pure ?_) fun hy => ⟨(he (.inr hy)).1, fun g4 e k4 ⟨oe, ho, hc⟩ => ?_⟩)
   · have to4 : IsPair g4 (b + 3) x v := s4.extBut _ _ (d4 (by decide)) to3
     refine wpAny_bind (wpAny_seqItems to4 rfl ?_)
     refine wpAny_bind (wpAny_updateSeq_pair to4 fun g5 to5 s5 => ?_)
     replace to5 : IsPair g5 (b + 3) x y := to5
     refine wpAny_bind (wpAny_letGo (wpAny_pure (wpAny_pure ?_)))
     refine wpAny_bind (wpAny_seqItems to5 rfl ?_)
     refine wpAny_bind (wpAny_newTuple ?_)
     have sz : g5.objs.size = s.heap.objs.size := by rw [s5.1, s4.1, s3.1, s2.1, s1.1]
     have z5 : IsZip g5 (b + 4) (b + 2) (b + 3) .ellipsis := s5.extBut _ _ (d4 (by decide)) (s4.extBut _ _ (d4 (by decide)) (s3.extBut _ _ (d4 (by decide)) (s2.extBut _ _ (e0 (by decide)) z1)))
     have k5 : ∀ c o, c ∉ [b + 4, b + 3, b, b + 1] → s.heap.get? c = some o → g5.get? c = some o := fun c o n e => by
      replace n := nmx4 n
      exact s5.extBut c o n.2.1 (s4.extBut c o n.2.2.2 (k3 c o n.1 n.2.2.1 n.2.1 e))
     show wpAny _ _ (Builtin.SmallTypes.ownedTupleHandOut (.ref (b + 4)) (.ref g5.objs.size) >>= _) _ _ _
     refine wpAny_bind ?_
     unfold Builtin.SmallTypes.ownedTupleHandOut
     have z6 : IsZip (g5.push { cls := .type "tuple", data := .seq #[x, y] }) (b + 4) (b + 2) (b + 3) .ellipsis := Heap.get?_push_of_some _ z5
     refine wpAny_bind (wpAny_setField_rec z6 (by exact Nat.succ_pos _) fun g7 z7 s7 => ?_)
     replace z7 : IsZip g7 (b + 4) (b + 2) (b + 3) (rawInt g5.objs.size) := z7
     refine wpAny_setField_rec z7 (by exact Nat.le_add_left _ _) fun g8 z8 s8 => ?_
     replace z8 : IsZip g8 (b + 4) (b + 2) (b + 3) (rawInt g5.objs.size) := z8
     have up : ∀ c o, c ≠ b + 4 → g5.get? c = some o → g8.get? c = some o := fun c o n e => s8.extBut c o n (s7.extBut c o n (Heap.get?_push_of_some _ e))
     have zlt : b + 4 < g5.objs.size := Heap.lt_size z5
     have T8 : IsPair g8 g5.objs.size x y := s8.extBut _ _ (Nat.ne_of_gt zlt) (s7.extBut _ _ (Nat.ne_of_gt zlt) (Heap.get?_push_size _ rfl))
     have sz8 : g8.objs.size = g5.objs.size + 1 := by rw [s8.1, s7.1, Heap.size_push]
     have all8 : ∀ c o, c ∉ [b + 4, b + 3, b, b + 1] → s.heap.get? c = some o → g8.get? c = some o := fun c o n e => up c o (fun q => n (q ▸ .head _)) (k5 c o n e)
     have i5 : g5.IsTupleIter b t1 (k + 1) := by
      refine x12 i2 ?_
      try clear i2
      intro o e r
      exact ⟨o, s5.extBut _ _ (d0 (by decide)) (s4.extBut _ _ (d0 (by decide)) (s3.extBut _ _ (d0 (by decide)) e)), r⟩
     have j5 : g5.IsTupleIter (b + 1) t2 (k + 1) := by
      refine x12 i4 ?_
      try clear i4
      intro o e r
      exact ⟨o, s5.extBut _ _ (d4 (by decide)) e, r⟩
     rw [sz] at z8 T8 sz8
     refine wpAny_pure ?_
     show Q (.done (.ret (.ref g5.objs.size))) _
     rw [sz]
     refine hi x y g8 hx hy ⟨z8, all8 _ _ (mn4 (d4 (by decide)) (d4 (by decide)) (e0 (by decide)) (d4 (by decide))) hti, ⟨x, y, up _ _ (d4 (by decide)) to5⟩, ?_, ?_, ?_, ?_, lt1, lt2⟩ T8 sz8 all8
     · refine x12 i5 ?_
       try clear i5
       intro o e r
       exact ⟨o, up _ _ (d0 (by decide)) e, r⟩
     · refine x12 j5 ?_
       try clear j5
       intro o e r
       exact ⟨o, up _ _ (d4 (by decide)) e, r⟩
     · refine x12 l1 ?_
       try clear l1
       intro o e r
       exact ⟨o, all8 _ _ (mn4 (n1 lt1) (n1 lt1) (Nat.ne_of_lt lt1) (n1 lt1)) e, r⟩
     · refine x12 l2 ?_
       try clear l2
       intro o e r
       exact ⟨o, all8 _ _ (mn4 (n1 lt2) (n1 lt2) (Nat.ne_of_lt lt2) (n1 lt2)) e, r⟩
   · have z4 : IsZip g4 (b + 4) (b + 2) (b + 3) .ellipsis := k4 _ _ (d4 (by decide)) (s3.extBut _ _ (d4 (by decide)) (s2.extBut _ _ (e0 (by decide)) z1))
     have hez : e ≠ b + 4 := fun q => by subst q; rw [z4] at ho; cases ho; simp at hc
     refine wpAny_setField_rec z4 (by exact Nat.succ_pos _) fun g5 z s5 => (he (.inr hy)).2 g5 e (fun c o n q => ?_) ⟨oe, s5.extBut _ _ hez ho, hc⟩
     replace n := nmx4 n
     exact s5.extBut c o n.1 (k4 c o n.2.2.2 (k3 c o n.1 n.2.2.1 n.2.1 q))
 · have z2 : IsZip g2 (b + 4) (b + 2) (b + 3) .ellipsis := k2 _ _ (e0 (by decide)) z1
   have hez : e ≠ b + 4 := fun q => by subst q; rw [z2] at ho; cases ho; simp at hc
   refine wpAny_setField_rec z2 (by exact Nat.succ_pos _) fun g3 z s3 => (he (.inl hx)).2 g3 e (fun c o n q => ?_) ⟨oe, s3.extBut _ _ hez ho, hc⟩
   replace n := nmx4 n
   exact s3.extBut c o n.1 (k2 c o n.2.2.1 (k1 c o n.1 q))
theorem zip_pyNext {b t1 t2 : Addr} {xs ys : Array Value} {k : Nat} {Q : Option Value → Shared → Prop} (hh : A.handled = none) (Z : ZipT s.heap b t1 t2 xs ys .none k)
  (hi : ∀ x y h', xs[k]? = some x → ys[k]? = some y → ZipT h' b t1 t2 xs ys (rawInt s.heap.objs.size) (k + 1) → IsPair h' s.heap.objs.size x y → h'.objs.size = s.heap.objs.size + 1 →
   (∀ c o, c ∉ [b + 4, b + 3, b, b + 1] → s.heap.get? c = some o → h'.get? c = some o) → Q (some (.ref s.heap.objs.size)) { s with heap := h' })
  (he : xs[k]? = none ∨ ys[k]? = none → ∀ h', (∀ c o, c ∉ [b + 4, b + 3, b, b + 1] → s.heap.get? c = some o → h'.get? c = some o) → Q none { s with heap := h' }) :
  wpAny (model prog w) A (pyNext (.ref (b + 4))) Q E s := by
 have hT : s.TypeIs (.ref (b + 4)) "zip" := ⟨_, Z.z, rfl⟩
 unfold pyNext
 refine wpAny_bind (wpAny_attempt (wpAny_callSpecial?_slot (name := Str.ofString "__next__") hT F.slot_zip_next
  (wpAny_call_entry F.slot_zip_next hT F.entry_zip_next (zip_next Z (fun x y h' a1 a2 a3 a4 a5 a6 => ⟨_, rfl, wpAny_pure (hi x y h' a1 a2 a3 a4 a5 a6)⟩) fun q => ⟨hh, fun h' e kk hE => ?_⟩) (F.args_zip_next_1 _))))
 refine x12 hE ?_
 try clear hE
 intro o ho hc
 refine wpAny_bind (wpAny_isInstance (T := "StopIteration") (b := true) ⟨o, ho, hc⟩ isSubtype_stop ?_)
 exact wpAny_pure (he q _ kk)
end
theorem zip_walks {prog : Program} {w : World} {A : Around} (hh : A.handled = none) (b t1 t2 : Addr) (xs ys : Array Value) (lt1 : t1 < b) (lt2 : t2 < b) :
  WalksT prog w A (b + 4) [b + 4, b + 2, b + 3, b, b + 1, t1, t2] [b + 4, b + 3, b, b + 1] (min xs.size ys.size)
   (fun i vals => ∃ x y, xs[i]? = some x ∧ ys[i]? = some y ∧ vals = #[x, y])
   (fun i h => ZipT h b t1 t2 xs ys .none i)
   (fun i T h => ZipT h b t1 t2 xs ys (rawInt T) (i + 1) ∧ b + 4 < T) where
 sub := fun c hc => q1 hc (.head _) fun hc => q1 hc (.tail _ (.tail _ (.head _))) fun hc => q1 hc (.tail _ (.tail _ (.tail _ (.head _)))) fun hc => q1 hc (.tail _ (.tail _ (.tail _ (.tail _ (.head _))))) q0
 frame := fun i h h' Z hk => Z.keep fun c o m e => hk c m o e
 item := fun i s Q E hi Z hQ => by
  have hix : i < xs.size := Nat.lt_of_lt_of_le hi (Nat.min_le_left ..)
  have hiy : i < ys.size := Nat.lt_of_lt_of_le hi (Nat.min_le_right ..)
  refine zip_pyNext hh Z (fun x y h' hx hy Z' hp sz kk => ?_) fun q => ?_
  · exact hQ s.heap.objs.size #[x, y] h' s.toks ⟨x, y, hx, hy, rfl⟩ (Nat.le_refl _) ⟨_, hp, rfl, _, rfl⟩ ⟨Z', Heap.lt_size Z.z⟩ fun c o hc e => kk c o hc e
  · rcases q with q | q
    · rw [Array.getElem?_eq_getElem hix] at q; contradiction
    · rw [Array.getElem?_eq_getElem hiy] at q; contradiction
 go := fun elts k pos i T s Q E hm hQ => by
  obtain ⟨Z, lt⟩ := hm
  refine wpAny_letOwnedTupleGo_zip Z.z fun h' hz' hs' => hQ h' ?_ fun c o hc e => hs'.extBut _ _ (fun x => hc (x ▸ .head _)) e
  obtain ⟨_, ti, ⟨x, y, to⟩, ⟨o1, e1, r1⟩, ⟨o2, e2, r2⟩, ⟨o3, e3, r3⟩, ⟨o4, e4, r4⟩, _, _⟩ := Z
  have n : ∀ {j : Nat}, j ≠ 4 → b + j ≠ b + 4 := fun ne q => ne (Nat.add_left_cancel q)
  have m : ∀ {c : Addr}, c < b → c ≠ b + 4 := fun lt q => by subst q; exact absurd lt (by simp)
  exact ⟨hz', hs'.extBut _ _ (n (by decide)) ti, ⟨x, y, hs'.extBut _ _ (n (by decide)) to⟩, ⟨o1, hs'.extBut _ _ (n (j := 0) (by decide)) e1, r1⟩, ⟨o2, hs'.extBut _ _ (n (by decide)) e2, r2⟩,
   ⟨o3, hs'.extBut _ _ (m lt1) e3, r3⟩, ⟨o4, hs'.extBut _ _ (m lt2) e4, r4⟩, lt1, lt2⟩
 apart := fun i T h hm hT => by
  obtain ⟨_, lt⟩ := hm
  have q : T ≤ b + 4 := by
   exact q1 (P := fun x => x ≤ b + 4) hT (Nat.le_refl _) fun hT => q1 (P := fun x => x ≤ b + 4) hT (Nat.add_le_add_left (by decide) b) fun hT => q1 (P := fun x => x ≤ b + 4) hT (Nat.le_add_right _ _) fun hT => q1 (P := fun x => x ≤ b + 4) hT (Nat.add_le_add_left (by decide) b) q0
  exact Nat.lt_irrefl _ (Nat.lt_of_lt_of_le lt q)
 done := fun s Q E Z hQ => by
  refine zip_pyNext hh Z (fun x y h' hx hy u u u u => ?_) fun q h' kk => hQ h' s.toks fun c o hc e => kk c o hc e
  rcases Nat.le_total xs.size ys.size with h | h
  · rw [Nat.min_eq_left h, Array.getElem?_eq_none (Nat.le_refl _)] at hx; contradiction
  · rw [Nat.min_eq_right h, Array.getElem?_eq_none (Nat.le_refl _)] at hy; contradiction
 self := fun i s Q E Z hQ => wpAny_pyIter_zip Z.z hQ
end Mine
end
noncomputable section
open PySem PySem.W PyProof.Rows PySem.Spec PySem.Calls
namespace Mine
variable [Val]
section
variable {prog : Program} {w : World} {A : Around} {E : Value → Shared → Prop} {s : Shared} {env : Env}
theorem CodeFor.isCode {h : Heap} {c P : Addr} {ps : Array Value} (H : CodeFor h c P) (hp : h.get? P = some { cls := .none, data := .fields ps }) (ht : TriplesOk ps.toList) (hne : c ≠ P) : h.IsCode c P ps ∧ h.TableAt c P ps := by
 refine x98 H ?_
 try clear H
 intro o vs file tf flags tg inF text tt ho hc hd h11 h18 h7 h9 h10
 have g11 : vs.getD 11 .none = .ref P := by
  rw [Array.getD_eq_getD_getElem?, h11]; rfl
 exact ⟨⟨o, vs, file, tf, flags, tg, inF, text, tt, _, ho, hd, g11, h18, h7, h9, h10, hp, rfl, ht, hne⟩, (m24 o vs ho hc hd h11), hp⟩
theorem code_made {c P : Addr} {ps : Array Value} {pos : Pos} {q : Str} {scope : Scope} {Q : Value → Shared → Prop} (hc : env.code = .ref c) (H : CodeFor s.heap c P) (hp : s.heap.get? P = some { cls := .none, data := .fields ps }) (ht : TriplesOk ps.toList) (hne : c ≠ P)
  (k : ∀ code h' tk ps', Heap.ExtBut P s.heap h' → s.heap.objs.size ≤ h'.objs.size → h'.get? P = some { cls := .none, data := .fields ps' } → TriplesOk ps'.toList → Q code { s with heap := h', toks := tk }) :
  wpAny (model prog w) A (genexprCode env pos q scope) Q E s := by
 obtain ⟨ic, ta⟩ := H.isCode hp ht hne
 cases hf : codeAmong pos ps.toList with
 | none =>
  refine wpAny_genexprCodeX hc ic ta hf fun c' h' tk hx h1 h2 ic' j ta' j => k _ h' tk _ hx (Nat.le_of_lt (Nat.lt_of_le_of_lt h1 h2)) ta'.2 ?_
  refine x1011 ic' ?_
  try clear ic'
  intro _ _ _ _ _ _ _ _ _ op _ _ _ _ _ _ _ hop hpd htr _
  exact htr
 | some code => exact wpAny_genexprCode_hit hc ic hf (k code s.heap s.toks ps (fun j j j e => e) (Nat.le_refl _) hp ht)
theorem zipAdd_hd {x y : D} {xs ys l : List D} (e : zipAdd (x :: xs) (y :: ys) = some l) : ∃ a b, x = .int a ∧ y = .int b ∧ ∃ l', zipAdd xs ys = some l' ∧ .int (a + b) :: l' = l := by
 induction x using D.casesOn with
 | int a => induction y using D.casesOn with
  | int b =>
   refine x12 (lstI e) ?_
   intro l' z e
   exact ⟨a, b, rfl, rfl, l', z, so e⟩
  | _ => exact no e
 | _ => exact no e
theorem zipAdd_ok {al fr : List Addr} {h : Heap} : ∀ {xs ys l : List D} {vs us : List Value}, RDs al fr h vs xs → RDs al fr h us ys → zipAdd xs ys = some l →
  ∃ as bs : List Int, IntsAre vs as ∧ IntsAre us bs ∧ as.length = bs.length ∧ l = (as.zip bs).map fun p => .int (p.1 + p.2)
 | [], [], l, _, _, p, q, e => by
  have p := p.to
  have q := q.to
  subst p q
  have e := so e
  subst e
  exact (m24 ([]) ([]) .nil .nil rfl rfl)
 | x :: xs, y :: ys, l, _, _, p, q, e => by
  obtain ⟨a, b, rfl, rfl, l', z, rfl⟩ := zipAdd_hd e
  refine x23 (p.to) ?_
  intro v vs eqv1 p1 p
  subst eqv1
  refine x23 (q.to) ?_
  intro u us eqv1 q1 q
  subst eqv1
  obtain ⟨t, rfl⟩ := p1.to
  obtain ⟨t2, rfl⟩ := q1.to
  refine x24 (zipAdd_ok (xs := xs) (ys := ys) (by assumption) (by assumption) z) ?_
  intro as bs h1 h2 h3 eqv1
  subst eqv1
  exact (m24 (a :: as) (b :: bs) (.cons a t h1) (.cons b t2 h2) (by simp [h3]) rfl)
 | [], _ :: _, _, _, _, _, _, e => no e
 | x :: _, [], _, _, _, _, _, e => by induction x using D.casesOn <;> exact no e
end
end Mine
end
noncomputable section
open PySem PySem.W PyProof.Rows PySem.Spec PySem.Calls
namespace Mine
variable [Val]
section
variable {prog : Program} {w : World} {A : Around} {s : Shared} {env : Env}
structure ZipIn (s₁ : Shared) (env : Env) (b t1 t2 : Addr) (vs us : List Value) (as bs : List Int) (c P : Addr) (ps : Array Value) (bm : Addr) (ob : Obj) (mg : Str → Option Value) : Prop where
 zip : ZipT s₁.heap b t1 t2 vs.toArray us.toArray .none 0
 i1 : IntsAre vs as
 i2 : IntsAre us bs
 len : as.length = bs.length
 code : env.code = .ref c
 cf : CodeFor s₁.heap c P
 tab : s₁.heap.get? P = some { cls := .none, data := .fields ps }
 tri : TriplesOk ps.toList
 ne : c ≠ P
 pz : P < b
 sz : b + 4 < s₁.heap.objs.size
 lim : s₁.heap.NoLimit
 limP : cStatics ≠ P
 limb : cStatics < b
 glob : s₁.heap.Ns env.globals mg
 globP : env.globals ≠ P
 bmg : mg "__builtins__" = some (.ref bm)
 bne : bm ≠ builtinsNs
 bob : s₁.heap.get? bm = some ob
 bP : bm ≠ P
 bcls : ob.cls = .type "module"
 bdict : ob.dict = some builtinsNs
 bdata : ob.data = .plain
theorem ints_at {vs : List Value} {as : List Int} (h : IntsAre vs as) {i : Nat} {v : Value} (e : vs.toArray[i]? = some v) : ∃ a t, as[i]? = some a ∧ v = .int a t := by
 induction h generalizing i with
 | nil => simp at e
 | cons n t r ih =>
  induction i using Nat.casesOn with
  | zero => simp at e; exact (m22 n t rfl e.symm)
  | succ i => simpa using ih (i := i) (by simpa using e)
theorem ints_items {acc : Array Value} {cs : List Int} (hl : acc.size = cs.length) (h : ∀ (k : Nat) v, acc[k]? = some v → ∃ c t, cs[k]? = some c ∧ v = .int c t) : IntsAre acc.toList cs := by
 obtain ⟨l⟩ := acc
 show IntsAre l cs
 replace hl : l.length = cs.length := hl
 replace h : ∀ (k : Nat) v, l[k]? = some v → ∃ c t, cs[k]? = some c ∧ v = .int c t := fun k v e => h k v (by simpa using e)
 induction l generalizing cs with
 | nil => induction cs using List.casesOn with
  | nil => exact .nil
  | cons => simp at hl
 | cons v l ih => induction cs using List.casesOn with
  | nil => simp at hl
  | cons c cs =>
   refine x22 (h 0 v rfl) ?_
   intro c' t e eq3
   subst eq3
   simp at e
   subst e
   exact .cons _ t (ih (by simpa using hl) fun k v e => by simpa using h (k + 1) v (by simpa using e))
theorem ints_add {A : Around} {E : Value → Shared → Prop} {s : Shared} {a b : Int} {t u : Tok} {Q : Value → Shared → Prop} (q : Q (.int (a + b) s.toks) { s with toks := s.toks + 1 }) : wpAny (model prog w) A (binaryOp .Add (.int a t) (.int b u)) Q E s := by
 exact wpAny_add_int q
inductive SumIn (s : Shared) (env : Env) (Q : Value → Shared → Prop) (xv : Value) (s₁ : Shared) : Prop
 | mk (b t1 t2 : Addr) (vs us : List Value) (as bs : List Int) (c P : Addr) (ps : Array Value) (bm : Addr) (ob : Obj) (mg : Str → Option Value) (e : xv = .ref (b + 4)) (Z : ZipIn s₁ env b t1 t2 vs us as bs c P ps bm ob mg) (n : as.length ≤ sizeLine)
   (k : ∀ (s' : Shared) (acc : List Value) (ps' : Array Value), s'.os = s₁.os → GensOk s₁.gens s'.gens → s₁.heap.objs.size ≤ s'.heap.objs.size → s.toks ≤ s'.toks → (∀ d o, d ≠ P → d ∉ [b + 4, b + 3, b, b + 1] → s₁.heap.get? d = some o → s'.heap.get? d = some o) →
    s'.heap.get? P = some { cls := .none, data := .fields ps' } → TriplesOk ps'.toList → IntsAre acc ((as.zip bs).map fun p => p.1 + p.2) → Q (.ref s'.heap.objs.size) { s' with heap := s'.heap.push { cls := .type "tuple", data := .seq acc.toArray } }) : SumIn s env Q xv s₁
theorem sum_gen {Q : Value → Shared → Prop} (hh : A.handled = none) (hroom : A.depth < recursionLimit) {sc2 : Scope} {i j : Str} (hg : genScope sc2 i j = true) (hij : i ≠ j) {p1 p2 p3 p4 p5 pt gpos : Pos} {kt : Nat} {iter : Expr} (hset : genFold iter env = pure)
  (hfree : ∀ x ∈ sc2.names, x.2 ≠ .free)
  (h : wpAny (model prog w) A (eval iter env) (SumIn s env Q) FF s) :
  wpAny (model prog w) A (eval (.GeneratorExp (.BinOp (.Name i p1) .Add (.Name j p2) p3) [⟨.Tuple [.Name i p4, .Name j p5] kt pt, iter, [], 0⟩] sc2 gpos) env)
   (fun v s' => wpAny (model prog w) A (call (.type "tuple") [v]) Q FF s') FF s := by
 unfold genScope at hg
 simp only [Bool.and_eq_true, Bool.not_eq_true', List.all_eq_true] at hg
 obtain ⟨⟨⟨⟨⟨⟨⟨g1, g2⟩, g3⟩, g4⟩, g5⟩, g6⟩, g7⟩, g8⟩ := hg
 have hk : sc2.kind = .function := beq_iff_eq.mp g1
 refine wpAny_with_toks (Nat.le_refl s.toks) (wpAny_mono (E := FF) (Q := fun v s' => s.toks ≤ s'.toks → wpAny (model prog w) A (call (.type "tuple") [v]) Q FF s') ?_ (fun u u x => x) fun u u x => x.elim)
 refine wpAny_GeneratorExp_walksQTD hh g2 (closure_ok fun x hx q => absurd q (hfree x hx)) (fun y hy q => ?_) (beq_iff_eq.mp g3) (beq_iff_eq.mp g4) (beq_iff_eq.mp g5) hij hk hroom (wpAny_mono h (fun xv s1 hz => ?_) fun u u q => q) fun x => by rw [hset]
 · have := g8 y hy
   rw [q] at this; exact nomatch this
 · obtain ⟨b, t1, t2, vs, us, as, bs, c, P, ps, bm, ob, mg, rfl, Z, hsz, hQ⟩ := hz
   refine wpAny_pyIter_zip Z.zip.z ⟨Z.lim, code_made Z.code Z.cf Z.tab Z.tri Z.ne fun code h' tk ps' hx hs hp ht => ?_⟩
   refine wpAny_builtinsFor (Z.glob.extBut hx Z.globP) Z.bmg Z.bne (hx bm ob Z.bP Z.bob) Z.bcls Z.bdict Z.bdata ?_
   have neq : ∀ {d : Addr}, b ≤ d → d ≠ P := fun le q => Nat.lt_irrefl _ (Nat.lt_of_lt_of_le Z.pz (q ▸ le))
   have tneq : ∀ {d : Addr} {items : Array Value}, s1.heap.IsTuple d items → d ≠ P := fun ⟨o, e, _, n, hd⟩ q => by
    rw [q, Z.tab] at e; rw [← so e] at hd; exact nomatch hd
   have zip4 : ZipT h' b t1 t2 vs.toArray us.toArray .none 0 := Z.zip.keep fun d o m e => hx d o (q1 (P := fun d => d ≠ P) m (neq (Nat.le_add_right _ _)) fun m => q1 (P := fun d => d ≠ P) m (neq (Nat.le_add_right _ _)) fun m => q1 (P := fun d => d ≠ P) m (neq (Nat.le_add_right _ _)) fun m => q1 (P := fun d => d ≠ P) m (neq (Nat.le_refl _)) fun m =>
    q1 (P := fun d => d ≠ P) m (neq (Nat.le_add_right _ _)) fun m => q1 (P := fun d => d ≠ P) m (tneq Z.zip.l1) fun m => q1 (P := fun d => d ≠ P) m (tneq Z.zip.l2) q0) e
   have l1 := Z.i1.length
   have l2 := Z.i2.length
   have hn : min vs.toArray.size us.toArray.size = as.length := by simp [l1, l2, Z.len]
   have hpass : passing (fun u => true) as.length 0 = List.range as.length := by simp [passing]
   have W := fun (A' : Around) (hA : A'.handled = none) => (zip_walks (prog := prog) (w := w) hA b t1 t2 vs.toArray us.toArray Z.zip.lt1 Z.zip.lt2).toU
   rw [hn] at W
   have blt : ∀ {k : Nat}, k ≤ 4 → b + k < h'.objs.size := fun le => Nat.lt_of_le_of_lt (Nat.add_le_add_left le b) (Nat.lt_of_lt_of_le Z.sz hs)
   refine ⟨b + 4, _, _, as.length, _, _, _, fun u => true, fun i y => ∃ a b t, as[i]? = some a ∧ bs[i]? = some b ∧ y = .int (a + b) t, rfl, W, fun i vals hv => ?_, zip4, fun d hd => ?_, Z.lim.extBut hx Z.limP, fun m => ?_, fun href hk4 => ⟨fun A' E' i va vb s2 m2 hA u u u u u u u => wpAny_pure ⟨rfl, s2.heap, s2.toks, rfl, fun u u e => e⟩, fun A' E' i va vb s2 m2 hA u u hv u hn2 ha hb u => ?_⟩, fun a h5 tk5 gs hbare hlt hsz5 hk5 WS GA htk5 => ?_⟩
   · refine x23 hv ?_
     try clear hv
     intro x y _ _ e
     exact (m21 x y e)
   · exact q1 (P := fun d => d < h'.objs.size) hd (blt (Nat.le_refl _)) fun hd => q1 (P := fun d => d < h'.objs.size) hd (blt (by decide)) fun hd => q1 (P := fun d => d < h'.objs.size) hd (blt (by decide)) fun hd => q1 (P := fun d => d < h'.objs.size) hd (blt (k := 0) (by decide)) fun hd =>
     q1 (P := fun d => d < h'.objs.size) hd (blt (by decide)) fun hd => q1 (P := fun d => d < h'.objs.size) hd (Nat.lt_trans Z.zip.lt1 (blt (k := 0) (by decide))) fun hd => q1 (P := fun d => d < h'.objs.size) hd (Nat.lt_trans Z.zip.lt2 (blt (k := 0) (by decide))) q0
   · have l := Z.limb
     have nl : ∀ {k : Nat}, ¬ b + k < b := fun z => Nat.lt_irrefl _ (Nat.lt_of_le_of_lt (Nat.le_add_right _ _) z)
     exact q1 (P := fun d => ¬ d < b) m nl (fun m => q1 (P := fun d => ¬ d < b) m nl fun m => q1 (P := fun d => ¬ d < b) m (Nat.lt_irrefl _) fun m => q1 (P := fun d => ¬ d < b) m nl q0) l
   · refine x23 hv ?_
     clear hv
     intro x y hx1 hy1 e
     obtain ⟨e1, e2⟩ : va = x ∧ vb = y := by simpa using congrArg Array.toList e
     subst e1 e2
     refine x22 (ints_at Z.i1 hx1) ?_
     intro a1 ta ea eq3
     subst eq3
     refine x22 (ints_at Z.i2 hy1) ?_
     intro b1 tb eb eq3
     subst eq3
     refine wpAny_BinOp (wpAny_Name (wpAny_loadName_local hk (beq_iff_eq.mp g4) hn2 ha (wpAny_Name (wpAny_loadName_local hk (beq_iff_eq.mp g5) hn2 hb ?_) (notDebug_iff g7))) (notDebug_iff g6))
     refine ints_add ?_
     exact ⟨(m33 a1 b1 _ ea eb rfl), s2.heap, _, rfl, fun u u e => e⟩
   · rw [hpass] at WS
     have big : h'.objs.size < h5.objs.size := by rw [hsz5]; exact Nat.lt_succ_of_lt hlt
     refine with_more (call_tuple_gen (hsz := by rw [List.length_range]; exact hsz) (WalksS.in4_3 WS) (fun u u X => X.1.typeIs) GA (fun d hd => ?_) List.mem_cons_self fun s' acc mv it hzz => ?_)
     · show d < h5.objs.size
       rcases mc hd with rfl | hd
       · rw [hsz5]; exact Nat.lt_succ_self _
       · rcases mc hd with rfl | hd
         · exact big
         · exact Nat.lt_trans (List.mem_range.mp hd) big
     · have hz' : h5.objs.size ≤ (s'.heap.push { cls := .type "tuple", data := .seq acc }).objs.size := hzz.1
       have htk : s.toks ≤ s'.toks := Nat.le_trans htk5 hzz.2
       rw [Heap.size_push, hsz5] at hz'
       have sz : s1.heap.objs.size ≤ s'.heap.objs.size := Nat.le_trans hs (Nat.le_trans (Nat.le_of_lt hlt) (Nat.le_of_succ_le_succ hz'))
       have kp : ∀ d o, d ≠ P → d ∉ [b + 4, b + 3, b, b + 1] → s1.heap.get? d = some o → s'.heap.get? d = some o := fun d o n m e => by
        have e1 := hx d o n e
        refine mv.heap d o (fun q => ?_) (hk5 d o e1)
        rcases List.mem_cons.mp q with q | q
        · exact Nat.lt_irrefl _ (q ▸ Heap.lt_size e1)
        · exact m q
       have hP : s'.heap.get? P = some { cls := .none, data := .fields ps' } := by
        refine mv.heap P _ (fun q => ?_) (hk5 P _ hp)
        rcases List.mem_cons.mp q with q | q
        · exact Nat.lt_irrefl _ (q ▸ Heap.lt_size hp)
        · exact q1 (P := fun d => d ≠ P) q (neq (Nat.le_add_right _ _)) (fun q => q1 (P := fun d => d ≠ P) q (neq (Nat.le_add_right _ _)) fun q => q1 (P := fun d => d ≠ P) q (neq (Nat.le_refl _)) fun q => q1 (P := fun d => d ≠ P) q (neq (Nat.le_add_right _ _)) q0) rfl
       have bare : GensOk s1.gens s'.gens := ⟨fun x => (AllBare.push (g := gs) x hbare).moved mv.gens, fun g x e => by
        have lt : g < s1.gens.size := (Array.getElem?_eq_some_iff.mp e).1
        have e2 : (s1.gens.push gs)[g]? = some x := by rw [Array.getElem?_push_lt lt]; rw [← e]; exact (Array.getElem?_eq_getElem lt).symm
        rcases mv.gens with q | q
        · rw [q]; exact e2
        · exact (q.1.2 g (Nat.ne_of_lt lt)).trans e2⟩
       have key := hQ s' acc.toList ps' mv.os bare sz htk kp hP ht ?_
       · simpa using key
       · refine ints_items (by rw [it.1, List.length_range, List.length_map, List.length_zip, ← Z.len, Nat.min_self]) fun k v e => ?_
         obtain ⟨i', hi', a1, b1, t, ea, eb, rfl⟩ := it.2 k v e
         have : i' = k := by
          rw [List.getElem?_range] at hi'
          · exact (Option.some.inj hi').symm
          · have := (List.getElem?_eq_some_iff.mp hi').1
            simpa using this
         subst this
         refine (m22 (a1 + b1) t ?_ rfl)
         rw [List.getElem?_map, (List.getElem?_zip_eq_some (z := (a1, b1))).mpr ⟨ea, eb⟩]; rfl
end
end Mine
end
noncomputable section
open PySem PySem.W PyProof.Rows PySem.Spec PySem.Calls
namespace Mine
variable [Val]
section
variable {prog : Program} {w : World} {G : Nms} {T : Tab} {hT : Heap} {n : Nat} {A : Around} {env : Env} {sc sc2 : Scope} {al al' al'' fr fr' N ow ow' : List Addr} {ρ ρ' : Env'} {st st' st'' : St} {s s₁ s₂ s₃ s' s'' : Shared}
theorem Stp.same (S : Stp prog w hT fr ow al al' st st' s s') (hh : s''.heap = s'.heap) (R : Rest s s'') : Stp prog w hT fr ow al al' st st' s s'' := by
 obtain ⟨p, q, k, _⟩ := S
 exact ⟨p, hh ▸ q, hh ▸ k, R⟩
theorem ints_rd {h : Heap} : ∀ {vs : List Value} {as : List Int}, IntsAre vs as → RDs al fr h vs (as.map .int)
 | _, _, .nil => .nil
 | _, _, .cons n t r => .cons (.int n t) (ints_rd r)
omit [Val] in
theorem oTS {α : Type} {F : List D → St → Option α} {x : Option (D × St)} {r : α} (e : (match x with | some (.tup d, st) => F d st | _ => none) = some r) : ∃ d st, x = some (.tup d, st) ∧ F d st = some r := by
 induction x using Option.casesOn with
 | none => exact no e
 | some p =>
  obtain ⟨d, st⟩ := p
  induction d using D.casesOn with
  | tup d => exact (m22 d st rfl e)
  | _ => exact no e
@[elab_as_elim] theorem tup_e {a b : X} {e : Expr} {f : Nat} {P : Expr → Prop} (c : cE G (f + 1) sc (.tupSum a b) e = true)
  (k : ∀ p0 i1 p1 j1 p2 p3 p4 p5 kt pt pz ea eb pc sc2 gpos cpos,
   isGl sc "tuple" = true → isGl sc "zip" = true → notStar ea = true → notStar eb = true → (i1 == j1) = false → sc = G.sa → genScope sc2 i1 j1 = true → cE G f sc a ea = true → cE G f sc b eb = true → P (.Call (.Name ("tuple" : Str) p0) [.GeneratorExp (.BinOp (.Name i1 p1) .Add (.Name j1 p2) p3) [⟨.Tuple [.Name i1 p4, .Name j1 p5] kt pt, .Call (.Name ("zip" : Str) pz) [ea, eb] [] pc, [], 0⟩] sc2 gpos] [] cpos)) : P e := by
 replace c : cEs G (cE G f) (cT G f) sc (.tupSum a b) e = true := c
 refine vCN_e c fun id p0 es cpos c => ?_
 refine v1_e c fun ge c => ?_
 refine vGE_e c fun ee gs sc2 gpos c => ?_
 refine vBin_e c fun l1 op r1 p3 c => ?_
 refine x02 (both c) fun co c => ?_
 refine vName_e c fun i1 p1 c => ?_
 refine vName_e c fun j1 p2 c => ?_
 refine v1_e c fun g1 c => ?_
 refine vGen_e c fun te ie ifs c => ?_
 refine x02 (both c) fun ci c => ?_
 refine vTup_e c fun ts kt pt c => ?_
 refine v2_e c fun t1 t2 c => ?_
 refine vName_e c fun i2 p4 c => ?_
 refine vName_e c fun j2 p5 c => ?_
 refine vCN_e c fun zid pz zs pc c => ?_
 refine v2_e c fun ea eb c => ?_
 refine b13 c fun c1 c2 c3 c4 c5 c6 c7 c8 c9 c10 c11 c12 c13 => ?_
 rw [bopIs_eq co, v0_inv ci, beq_str c1, beq_str c3, ← beq_str c7, ← beq_str c8]
 exact k p0 i1 p1 j1 p2 p3 p4 p5 kt pt pz ea eb pc sc2 gpos cpos (beq_str c1 ▸ c2) (beq_str c3 ▸ c4) c5 c6 (nf c9) (beq_iff_eq.mp c10) c11 c12 c13
set_option maxHeartbeats 800000 in
theorem tup_ok (B : Bis hT) (hc : Val.code T.code = G.code) {ev : Ev} {ex : Ex} (IH : EvOk prog w G hT n ev) {a b : X} {e : Expr} {d : D} {f : Nat} (h : evStep T ev ex ρ st (.tupSum a b) = some (d, st')) (c : cE G (f + 1) sc (.tupSum a b) e = true)
  (H : Here prog w G.v G.c hT (n + 1) A env sc al fr ow ρ st s) : wpAny (model prog w) A (eval e env) (PostE prog w hT al fr st st' s d) FF s := by
 have H' := H.less (n' := n) (Nat.le_succ n)
 refine tup_e c fun p0 i1 p1 j1 p2 p3 p4 p5 kt pt pz ea eb pc sc2 gpos cpos c2 c4 c5 c6 c9 e10 c11 c12 c13 => ?_
 clear c
 replace h : (match ev ρ st a with
  | some (.tup xs, st) => match ev ρ st b with
   | some (.tup ys, st) => match zipAdd xs ys with
    | some l => match fits l.length && atCode T.code st with
     | true => match setM st 0 some with | some st => some (D.tup l, st) | none => none
     | false => none
    | none => none
   | _ => none
  | _ => none) = some (d, st') := h
 replace h := oTS h
 refine x22 h ?_
 clear h
 intro xs st1 h1 h
 replace h := oTS h
 refine x22 h ?_
 clear h
 intro ys st2 h2 h
 replace h := lstI h
 refine x12 h ?_
 clear h
 intro l h3 h
 replace h := ifI h
 refine x02 h ?_
 clear h
 intro h4 h
 refine x02 (Bool.and_eq_true_iff.mp h4) ?_
 intro h4a h4b
 replace h := oSt h
 refine x12 h ?_
 clear h
 intro st3 h5 h
 refine ouK h ?_
 have free : ∀ x ∈ sc2.names, x.2 ≠ .free := fun x hx q => by
  unfold genScope at c11
  simp only [Bool.and_eq_true, List.all_eq_true] at c11
  have := c11.2 x hx
  rw [q] at this; exact nb this
 have hij : i1 ≠ j1 := fun q => by rw [q, beq_self_eq_true] at c9; exact nomatch c9
 refine call_name H' c2 (by decide) (B.bi .tuple) ?_
 have est : ∀ (x : Expr), notStar x = true → backTo cpos (starEach [x] env) = [(false, eval x env)] := fun x hx => by rw [starEach_cons hx]; rfl
 rw [est _ rfl]
 show wpAny (model prog w) A (callWith cpos (.type "tuple") [] _ []) _ _ _
 refine PyProof.Rows.callWith_type (first := []) rfl ?_
 refine evalArgs_plain ?_
 refine spliced_cons ?_
 refine wpAny_mono (sum_gen (Q := PostE prog w hT al fr st st3 s (.tup l)) H.hd (by have := H.dp; lia) c11 hij (by funext x; rfl) free ?_) (fun v s1 q => spliced_nil q) fun j j q => q
 refine call_name H' c4 (by decide) B.zip ?_
 rw [starEach_cons c5, starEach_cons c6, backTo_cons, backTo_cons]
 refine PyProof.Rows.callWith_type (first := []) rfl ?_
 refine evalArgs_plain (spliced_cons (wpAny_mono (IH h1 c12 H') (fun v s1 pp => x12 pp fun al1 S1 r1 => spliced_cons ?_) fun j j q => q))
 refine wpAny_mono (IH h2 c13 (H'.step S1)) (fun u s2 pp => x12 pp fun al2 S2 r2 => spliced_nil ?_) fun j j q => q
 have r1' := r1.step S2
 have S12 := S1.trans S2
 refine x25 r1'.to ?_
 intro t1 vs eq2 m1 m2 hl1 q1
 subst eq2
 refine x25 r2.to ?_
 intro t2 us eq2 m3 m4 hl2 q2
 subst eq2
 refine x24 (zipAdd_ok q1 q2 h3) ?_
 intro as bs i1' i2' ln eq5
 subst eq5
 refine x33 (setM_inv h5) ?_
 intro v0 mo mo' k1 k2 eq5
 subst eq5
 have k2 := so k2
 subst k2
 unfold atCode at h4b
 rw [k1] at h4b
 induction mo using MO.casesOn with
 | list => exact nb h4b
 | dic => exact nb h4b
 | attrs => exact nb h4b
 | inst fs =>
  obtain ⟨P, hP, key, ps, efs, nc1, nc2, CF, hp, ht⟩ := S2.sto.mu 0 v0 _ k1
  subst efs
  have hcT : key = T.code := by
   replace h4b : (match lk T.code [(key, D.none)] with | some _ => true | none => false) = true := h4b
   rw [lk_cons] at h4b
   by_cases z : key = T.code
   · exact z
   · rw [if_neg z] at h4b; exact nb h4b
  have Pm := List.mem_of_getElem? hP
  have Pn := S2.sto.new P (.inl Pm)
  have notP : ∀ {d : Addr} {o : Obj}, hT.get? d = some o → d ≠ P := fun e q => by rw [q, Pn.1] at e; exact nomatch e
  refine x12 (id B.lim) ?_
  intro mc nst1 _
  obtain ⟨oc, _, _, hoc, _⟩ := nst1
  refine x37 B.bmod ?_
  intro mg bm ob hg hbm hbn hob hcl hdi hda
  refine x32 (id hg) ?_
  intro og _ _ hog _
  refine zip_made hl1 hl2 fun h' Z sz kk => ⟨s2.heap.objs.size, t1, t2, vs, us, as, bs, Val.code key, P, ps, bm, ob, mg, rfl, ?_, ?_, fun s' acc ps' hos hb hz htk kp hp' ht' ia => ?_⟩
  · refine { zip := Z, i1 := i1', i2 := i2', len := ln, code := ?_, cf := ?_, tab := kk _ _ hp, tri := ht, ne := fun q => nc1 (q ▸ Pm), pz := Pn.2, sz := by show _ < h'.objs.size; rw [sz]; exact Nat.lt_succ_self _, lim := B.lim.keeps fun b o e => kk b o (S2.sto.old b o e), limP := notP hoc, limb := Heap.lt_size (S2.sto.old _ _ hoc), glob := ?_, globP := ?_, bmg := hbm, bne := hbn, bob := kk _ _ (S2.sto.old _ _ hob), bP := notP hob, bcls := hcl, bdict := hdi, bdata := hda }
    · rw [hcT, hc]; exact H.cd e10
    · refine x92 CF ?_
      clear CF
      intro o x1 x2 x3 x4 x5 x6 x7 x8 ho rr
      exact ⟨o, x1, x2, x3, x4, x5, x6, x7, x8, kk _ _ ho, rr⟩
    · rw [H.env.gl]; exact hg.keeps fun b o e => kk b o (S2.sto.old b o e)
    · rw [H.env.gl]; exact notP hog
  · have := fits_le h4a
    simpa [ln] using this
  · have keep : ∀ b o, b ≠ P → s2.heap.get? b = some o → s'.heap.get? b = some o := fun b o nb e => kp b o nb (fun q => by
      have lt := Heap.lt_size e
      simp only [List.mem_cons, List.not_mem_nil, or_false] at q
      rcases q with q | q | q | q <;> (rw [q] at lt; exact absurd lt (by first | exact Nat.not_lt.mpr (Nat.le_add_right _ _) | exact Nat.lt_irrefl _))) (kk b o e)
    have szs : s2.heap.objs.size ≤ s'.heap.objs.size := Nat.le_trans (by show _ ≤ h'.objs.size; rw [sz]; exact Nat.le_add_right _ _) hz
    have S12' : Stp prog w hT fr [] al al2 st st2 s { s2 with toks := s.toks } := S12.same rfl ⟨S12.rest.os, Nat.le_refl _, S12.rest.gens⟩
    have S3 := Stp.setM (s := { s2 with toks := s.toks }) (tk := s'.toks) (mo' := .inst [(key, .none)]) S2.sto k1 hP szs keep ⟨key, ps', rfl, nc1, nc2, CF, hp', ht'⟩ htk
    have S4 : Stp prog w hT fr [] al2 al2 st2 ⟨st2.n, put 0 (v0 + 1, .inst [(key, .none)]) st2.mu⟩ { s2 with toks := s.toks } s' := S3.same rfl ⟨hos, htk, hb⟩
    have := newT_ok (htk := by first | exact Nat.le_refl _ | lia | omega) (prog := prog) (w := w) (tk := s'.toks) S4.sto (ints_rd (al := al2) (fr := fr) (h := s'.heap) ia)
    have e2 : ((as.zip bs).map fun p => D.int (p.1 + p.2)) = (((as.zip bs).map fun p => p.1 + p.2).map D.int) := by rw [List.map_map]; rfl
    rw [e2]
    exact (this.after S4).after S12'
end
end Mine
end
noncomputable section
open PySem PySem.W PyProof.Rows PySem.Spec PySem.Calls
namespace Mine
variable [Val]
section
variable {prog : Program} {w : World} {G : Nms} {T : Tab} {hT : Heap} {n : Nat} {A : Around} {env : Env} {sc sc2 : Scope} {al al' al'' fr fr' N ow ow' : List Addr} {ρ ρ' : Env'} {st st' st'' : St} {s s₁ s₂ s₃ s' s'' : Shared} {h h' : Heap} {mN : Str → Option Value}
omit [Val] in
theorem nmA_inj : ∀ i j, i < 5 → j < 5 → nmA i = nmA j → i = j := by
 intro i j hi hj e
 have key : ∀ i < 5, ∀ j < 5, ((nmA i == nmA j) = true → i = j) := by decide +kernel
 exact key i hi j hj (by rw [e]; exact beq_self_eq_true _)
theorem nmA_look (i : Nat) : typeLookup (.type "object") (nmA i) = pure none := by
 unfold nmA
 split <;> (rw [typeLookup_type, builtinLookup_eq_fast]; kernel_rfl)
omit [Val] in
theorem attrFrom_at : ∀ {vs : List Value} {k i : Nat} {v : Value}, vs[i]? = some v → k + i < 5 → attrFrom k vs (nmA (k + i)) = some v
 | u :: vs, k, 0, v, h, _ => by simp at h; subst h; exact if_pos rfl
 | u :: vs, k, i + 1, v, h, hl => by
  simp at h
  have ne : nmA (k + (i + 1)) ≠ nmA k := fun e => by have := nmA_inj _ _ (by assumption) (by exact Nat.lt_of_add_right_lt ‹_›) e; simp at *
  unfold attrFrom
  rw [if_neg ne]
  have := attrFrom_at (k := k + 1) (i := i) h (by lia)
  rw [show k + 1 + i = k + (i + 1) by exact Nat.add_right_comm _ _ _] at this
  exact this
omit [Val] in
theorem attrFrom_push : ∀ {vs : List Value} {k : Nat} {v : Value}, k + vs.length < 5 → (fun y => if y = nmA (k + vs.length) then some v else attrFrom k vs y) = attrFrom k (vs ++ [v])
 | [], k, v, _ => by funext y; rfl
 | u :: vs, k, v, hl => by
  simp only [List.length_cons] at hl
  funext y
  have ih := congrFun (attrFrom_push (vs := vs) (k := k + 1) (v := v) (by lia)) y
  simp only [List.cons_append, attrFrom, List.length_cons]
  rw [← ih, show k + 1 + vs.length = k + (vs.length + 1) by exact Nat.add_right_comm _ _ _]
  by_cases q : y = nmA k
  · rw [if_pos q]
    have : y ≠ nmA (k + (vs.length + 1)) := fun e => by have := nmA_inj _ _ (by exact Nat.lt_of_add_right_lt ‹_›) (by assumption) (q.symm.trans e); simp at *
    rw [if_neg this, if_pos q]
  · rw [if_neg q]
    split
    · rfl
    · rfl
omit [Val] in
theorem attrFrom_none {x : Str} (hx : ∀ i, x ≠ nmA i) : ∀ {vs : List Value} {k : Nat}, attrFrom k vs x = none
 | [], _ => rfl
 | _ :: vs, k => by unfold attrFrom; rw [if_neg (hx k)]; exact attrFrom_none hx
omit [Val] in
theorem attrFrom_within : ∀ {vs : List Value} {k : Nat}, PySem.Within (attrFrom k vs) [nmA 0, nmA 1, nmA 2, nmA 3, nmA 4]
 | [], _ => fun y hy => absurd rfl hy
 | _ :: vs, k => fun y hy => by
  unfold attrFrom at hy
  split at hy
  · rename_i e
    subst e
    have : nmA k ∈ [nmA 0, nmA 1, nmA 2, nmA 3, nmA 4] := by
     match k with
     | 0 => exact List.mem_cons_self
     | 1 => exact .tail _ (.head _)
     | 2 => exact .tail _ (.tail _ (.head _))
     | 3 => exact .tail _ (.tail _ (.tail _ (.head _)))
     | k + 4 => have : nmA (k + 4) = nmA 4 := rfl
                rw [this]; exact .tail _ (.tail _ (.tail _ (.tail _ (.head _))))
    exact this
  · exact attrFrom_within y hy
theorem rd_handed {v : Value} {d : D} (r : RD al fr h v d) : handedOut v = pure v :=
 RD.rec (motive_1 := fun v j j => handedOut v = pure v) (motive_2 := fun j j j => True) rfl (fun j => rfl) (fun j j => rfl) (fun j j => rfl) (fun j j j j => rfl) (fun j j j j j j j j => rfl) (fun j j j j j j j j => rfl)
  (fun j j j => rfl) (fun j j j ih => ih) (fun j j j j j => rfl) (fun j k e => by rw [e]; exact Val.opqH k) (fun j j j j j => rfl) (fun j j j j j j j => rfl) (fun j j j j j j j j j j j j => rfl) (fun j j j j j j j j j j => rfl)
  trivial (fun j j j j => trivial) r
theorem cls_atK {P : Prop} (C : ClsFacts hT mN) (k : ∀ b o, hT.get? b = some o → h.get? b = some o) (f : ∀ nm q N bs sn sub col dd k0 k1 k2 k3 k5 newId, h.get? Val.cls = some (excClassObj nm q Val.cls N bs [.type "object"] true sn sub false col dd k0 k1 k2 k3 k5 newId) → ObjNewFacts newId → h.Ns N mN → P) : P := by
 refine x11 C.obj ?_
 intro N X
 refine x121 (X.obj) ?_
 intro nm q bs sn sub col dd k0 k1 k2 k3 k5 h1
 exact f nm q N bs sn sub col dd k0 k1 k2 k3 k5 _ (k _ _ h1) PySem.F.objNew (X.ns.keeps k)
omit [Val] in
theorem oAt {α : Type} {F : List D → Option α} {x : Option (Nat × MO)} {r : α} (e : (match x with | some (_, .attrs ds) => F ds | _ => none) = some r) : ∃ v ds, x = some (v, .attrs ds) ∧ F ds = some r := by
 induction x using Option.casesOn with
 | none => exact no e
 | some p =>
  obtain ⟨v, m⟩ := p
  induction m using MO.casesOn with
  | attrs ds => exact (m22 v ds rfl e)
  | _ => exact no e
theorem attr_ok (C : ClsFacts hT mN) (S : Sto prog w hT al fr st s.heap) {v : Value} {o d : D} {i : Nat} (hi : i < 5) (r : RD al fr s.heap v o) (e : attrD st o i = some d) :
  wpAny (model prog w) A (getAttr v (nmA i) true) (PostE prog w hT al fr st st s d) FF s := by
 have go : ∀ {a dx : Addr} {vs : List Value} {ds : List D}, InstAt s.heap a dx → s.heap.Ns1 dx (attrFrom 0 vs) → RDs al fr s.heap vs ds → nthD ds i = some d → wpAny (model prog w) A (getAttr (.ref a) (nmA i) true) (PostE prog w hT al fr st st s d) FF s := by
  intro a dx vs ds hi' hn rr en
  refine x12 (rr.nth en) ?_
  intro u hu ru
  refine cls_atK C S.old ?_
  intro nm q N bs sn sub col dd k0 k1 k2 k3 k5 newId h1 _ h3
  refine x15 hi' ?_
  clear hi'
  intro ob ho hc hd hdx hne
  have hv := attrFrom_at (k := 0) hu (by exact (Nat.zero_add _).symm ▸ ‹_›)
  rw [Nat.zero_add] at hv
  refine load_attr h1 h3 C.ga (C.at_ i) (nmA_look i) (mA := attrFrom 0 vs) ⟨ob, ho, hc, hd, .inr (m13 dx hdx hne hn)⟩ hv (rd_handed ru) ?_
  exact PostE.tok (htk := by first | exact Nat.le_refl _ | lia | omega) S ru
 induction o using D.casesOn with
 | self k =>
  replace e := oAt e
  refine x22 e ?_
  clear e
  intro v0 ds q e
  refine x25 r.to ?_
  intro a dx eq2 n1 n2 hi' hk
  subst eq2
  obtain ⟨dx', hdx', vs, hn, rr⟩ := S.mu k _ _ q
  rw [hk] at hdx'; cases hdx'
  exact go hi' hn rr e
 | inst ds =>
  simp only [attrD] at e
  refine x38 r.to ?_
  intro a dx vs eq3 n1 n2 m1 m2 hi' hn rr
  subst eq3
  exact go hi' hn rr e
 | _ => exact no e
theorem attr_node (TO : TopOk prog w G T hT) {ev : Ev} (IH : EvOk prog w G hT n ev) (H : Here prog w G.v G.c hT n A env sc al fr ow ρ st s) {o : X} {i : Nat} {oe : Expr} {name : Str} {p : Pos} {d : D} {f : Nat}
  (h : (match ev ρ st o with
  | some (o, st) => match attrD st o i with | some d => some (d, st) | none => none
  | none => none) = some (d, st')) (c1 : name = nmA i) (c2 : i < 5) (c3 : isName oe = true) (c4 : cE G f sc o oe = true) :
  wpAny (model prog w) A (eval (.Attribute oe name p) env) (PostE prog w hT al fr st st' s d) FF s := by
 subst c1
 refine x12 TO.cls ?_
 intro mN C _
 refine x21 (isName_inv c3) ?_
 intro oid opos eq2
 subst eq2
 first | replace h := oDS h | replace h := oLS h | replace h := oIS h | replace h := oSr h | replace h := oTS h | replace h := oSx h | replace h := oSf h | replace h := oLi h | replace h := oInst h | replace h := oFS h
 refine x22 h ?_
 clear h
 intro dO st1 h1 h
 first | replace h := oBo h | replace h := oNa h | replace h := oDa h | replace h := oSt h | replace h := oEn h | replace h := lstI h | replace h := oTx h | replace h := oPs h
 refine x12 h ?_
 clear h
 intro d' h2 h
 cases h
 refine Attribute_Name_ (wpAny_mono (IH h1 c4 H) (fun v s1 pp => x12 pp fun al1 S1 r1 => ?_) fun j j q => q)
 exact wpAny_mono (attr_ok C S1.sto c2 r1 h2) (fun v s2 p => p.after S1) fun j j q => q
theorem asgAttr_ok (TO : TopOk prog w G T hT) {ev : Ev} (IH : EvOk prog w G hT n ev) (H : Here prog w G.v G.c hT n A env sc al fr ow ρ st s) (hsc : env.scope = sc) {o e : X} {i k : Nat} {oe ex : Expr} {name : Str} {apos pos : Pos} {d : D} {st1 st2 : St} {f : Nat}
  (h : ev ρ st e = some (d, st1)) (h2 : ev ρ st1 o = some (.self k, st2)) (h3 : setM st2 k (fun
     | .attrs ds => (match Nat.beq i ds.length && Nat.blt i 5 with | true => some (.attrs (ds ++ [d])) | false => none)
     | _ => none) = some st')
  (c1 : name = nmA i) (c2 : i < 5) (c3 : cE G f sc o oe = true) (c4 : cE G f sc e ex = true) (cn : isPure (! ·) (swapsWith ex (some (.Attribute oe name apos)) pos.line (envOf sc)) = true) :
  wpAny (model prog w) A (exec (.Assign [.Attribute oe name apos] ex pos) env) (PostX prog w G hT env sc al fr ow st st' ρ s .next) FF s := by
 subst c1 hsc
 refine x12 TO.cls ?_
 intro mN C _
 have q := isPure_not cn
 rw [← swaps_of] at q
 refine plainObj_wpAny_Assign_Attribute (wpAny_mono (IH h c4 H) (fun v s1 pp => x12 pp fun al1 S1 r1 => ?_) fun j j q => q) q
 refine wpAny_mono (IH h2 c3 (H.step S1)) (fun ov s2 pp => x12 pp fun al2 S2 r2 => ?_) fun j j q => q
 have rv := r1.step S2
 refine x33 (setM_inv h3) ?_
 intro v0 mo mo' k1 k2 eq5
 subst eq5
 induction mo using MO.casesOn with
 | attrs ds =>
  dsimp only at k2
  replace k2 := ifI k2
  refine x02 k2 ?_
  clear k2
  intro z k2
  cases k2
  refine x02 (Bool.and_eq_true_iff.mp z) ?_
  intro z1 z2
  have z1 := Nat.eq_of_beq_eq_true z1
  refine x25 r2.to ?_
  intro a dx eq2 n1 n2 hi hk
  subst eq2
  obtain ⟨dx', hdx', vs, hn, rr⟩ := S2.sto.mu k _ _ k1
  rw [hk] at hdx'; cases hdx'
  refine cls_atK C S2.sto.old ?_
  intro nm qq N bs sn sub col dd k0 k1' k2' k3 k5 newId g1 _ g3
  have hi0 := hi
  refine x15 hi ?_
  clear hi
  intro ob ho hc hd hdx hne
  have hxC : a ≠ Val.cls := fun e => by rw [e, g1] at ho; cases ho; exact hd _ rfl
  have I2 : s2.heap.Inst a Val.cls (attrFrom 0 vs) := ⟨ob, ho, hc, hd, .inr (m13 dx hdx hne hn)⟩
  have len : vs.length = i := by rw [rr.length, z1]
  refine with_more (store_attr (name := nmA i) (v := v) (mA := attrFrom 0 vs) (ns := [nmA 0, nmA 1, nmA 2, nmA 3, nmA 4]) PySem.F.store_object g1 g3 C.sa (C.at_ i) (nmA_look i) hxC I2 (fun h' tk' I' hk' ho' hz => ?_) attrFrom_within (by rw [sizeLine_eq]; decide))
  refine x15 (ho' ob ho) ?_
  intro o₁ e1 e2 e3 e4 e5
  have same : o₁ = ob := by
   induction o₁ using Obj.casesOn; induction ob using Obj.casesOn
   simp only at e2 e3 e4 e5 hdx
   subst e2 e3 e4
   rw [e5 dx hdx, hdx]
  rw [same] at e1
  clear e2 e3 e4 e5 ho' same
  have hz1 : s2.heap.objs.size ≤ h'.objs.size := hz.1
  have kk : ∀ b o, b ≠ dx → s2.heap.get? b = some o → h'.get? b = some o := fun b o nb e => by
   by_cases q : b = a
   · rw [q, ho] at e; rw [q, ← so e]; exact e1
   · exact hk' b o q (fun o₀ d0 h0 hd0 => by rw [ho] at h0; cases h0; rw [hdx] at hd0; cases hd0; exact nb) e
  have hn' : h'.Ns1 dx (attrFrom 0 (vs ++ [v])) := by
   refine x14 I' ?_
   clear I'
   intro o2 f1 f2 f3 f4
   rw [e1] at f1; cases f1
   rcases f4 with ⟨f4, _⟩ | ⟨d2, f4, f5, f6⟩
   · rw [hdx] at f4; exact nomatch f4
   · rw [hdx] at f4; cases f4
     have e6 := attrFrom_push (vs := vs) (k := 0) (v := v) (by rw [len]; exact (Nat.zero_add _).symm ▸ ‹_›)
     rw [Nat.zero_add, len] at e6
     rw [e6] at f6
     exact f6
  have S3 := Stp.setM (s := s2) (tk := tk') (mo' := .attrs (ds ++ [d])) S2.sto k1 hk hz1 kk ⟨vs ++ [v], hn', rr.append (.cons rv .nil)⟩ hz.2
  exact PostX.only H ((S1.trans S2).trans S3)
 | _ => exact no k2
end
end Mine
end
noncomputable section
open PySem PySem.W PyProof.Rows PySem.Spec PySem.Calls
namespace Mine
variable [Val]
section
variable {prog : Program} {w : World} {G : Nms} {T : Tab} {hT : Heap} {n : Nat} {A : Around} {env : Env} {sc sc2 : Scope} {al al' al'' fr fr' N ow ow' : List Addr} {ρ ρ' : Env'} {st st' st'' : St} {s s₁ s₂ s₃ s' s'' : Shared} {h h' : Heap} {mN : Str → Option Value}
theorem inst_recv {v : Value} {o : D} (hi : isInst o) (r : RD al fr h v o) : ∃ a dx vs, v = .ref a ∧ InstAt h a dx ∧ h.Ns1 dx (attrFrom 0 vs) := by
 have one : ∀ {v : Value} {ds : List D}, RD al fr h v (.inst ds) → ∃ a dx vs, v = .ref a ∧ InstAt h a dx ∧ h.Ns1 dx (attrFrom 0 vs) := fun {v ds} r => by
  refine x38 r.to ?_
  intro a dx vs eq3 _ _ _ _ hi hn _
  subst eq3
  exact (m33 a dx vs rfl hi hn)
 induction o using D.casesOn with
 | inst ds => exact one r
 | sym k =>
  refine x11 hi ?_
  clear hi
  intro ds e
  have r : RD al fr h v (Val.dat k) := r.to
  rw [e] at r
  exact one r
 | _ => induction hi using False.casesOn
theorem call_on (C : ClsFacts hT mN) {ev : Ev} (IH : EvOk prog w G hT n ev) (H : Here prog w G.v G.c hT n A env sc al fr ow ρ st s) {o : X} {args : List X} {oe : Expr} {name : Str} {apos pos : Pos} {es : List Expr} {dO : D} {ds : List D} {d : D} {st1 st2 : St} {f : Nat} {a : Addr} {ob : Obj} {fd : FuncData}
  (h1 : ev ρ st o = some (dO, st1)) (h2 : evL ev ρ st1 args = some (ds, st2)) (hi : isInst dO) (hm : mN name = some (.ref a)) (ho : hT.get? a = some ob) (hcl : ob.cls = .type "function") (hfd : ob.data = .func fd) (hlk : typeLookup (.type "object") name = pure none) (hna : ∀ i, name ≠ nmA i)
  (c2 : notCall oe = true) (c3 : (apos.endLine == pos.line) = true) (c4 : es.length < 20) (c5 : cE G f sc o oe = true) (c6 : cL (cE G f sc) args es = true)
  (k : ∀ al2 s2 ov vs, Stp prog w hT fr [] al al2 st st2 s s2 → RD al2 fr s2.heap ov dO → RDs al2 fr s2.heap vs ds → wpAny (model prog w) A (call (.ref a) (ov :: vs)) (PostE prog w hT al2 fr st2 st' s2 d) FF s2) :
  wpAny (model prog w) A (eval (.Call (.Attribute oe name apos) es [] pos) env) (PostE prog w hT al fr st st' s d) FF s := by
 rw [arm_eval_Call, notCall_base c2]
 refine wpAny_bind (wpAny_mono (IH h1 c5 H) (fun ov s1 pp => x12 pp fun al1 S1 r1 => ?_) fun j j e => e)
 refine wpAny_bind (wpAny_standAt ?_)
 have hform : methodCallForm (es.length + ([] : List Keyword).length) (backTo pos (starEach es env)) (backToKw pos (keywordEach [] env)) = true := by
  have := noStars (env := env) (pos := pos) c6
  have e1 : (backTo pos (starEach es env)).all (fun x => !x.1) = true := by
   rw [List.all_eq_true]
   intro x hx
   have := List.any_eq_false.mp this x hx
   simpa using this
  unfold methodCallForm
  rw [e1]
  rw [show backToKw pos (keywordEach [] env) = [] from rfl]
  simp
  exact Nat.lt_of_lt_of_le ‹_› (by decide)
 have hpos : methodCallPos true oe env apos pos = pure pos := by unfold methodCallPos; exact if_pos ‹_›
 unfold methodCall
 rw [hform]
 refine x33 (inst_recv hi r1) ?_
 intro x dx vs0 eq3 hi' hn
 subst eq3
 refine cls_atK C S1.sto.old ?_
 intro nm q N bs sn sub col dd k0 k1 k2 k3 k5 newId g1 _ g3
 refine x15 hi' ?_
 clear hi'
 intro ox hox hc hd hdx hne
 have ha1 := S1.sto.old a ob ho
 refine wpAny_bind (wpAny_holding ?_)
 show wpAny (model prog w) A (getMethod (.ref x) name _) _ FF s1
 have go : ∀ {pl : Sem Bool} {Q : Value × List Value → Shared → Prop}, Q (.ref a, [.ref x]) s1 → wpAny (model prog w) A (getMethod (.ref x) name pl) Q FF s1 := fun {pl Q} q => by
  exact method_of g1 g3 C.ga C.gg hm ha1 hcl hlk ⟨ox, hox, hc, hd, .inr (m13 dx hdx hne hn)⟩ (attrFrom_none hna) q
 refine go ?_
 refine wpAny_bind (wpAny_of_eq hpos ?_)
 show wpAny (model prog w) A (callWith pos (.ref a) [.ref x] (backTo pos (starEach es env)) []) _ _ _
 refine Calls.callWith_function (o := ob) (fd := fd) (evalArgs_of c6 (wpAny_mono (evL_ok IH h2 c6 (H.step S1)) (fun vs s2 pp => x12 pp fun al2 S2 r2 => ⟨⟨S2.sto.old a ob ho, hfd⟩, ?_⟩) fun j j q => q))
 have S12 := S1.trans S2
 exact wpAny_mono (k al2 s2 (.ref x) vs S12 (r1.step S2) r2) (fun v s3 p => p.after S12) fun j j q => q
theorem mcall_node (TO : TopOk prog w G T hT) {ev : Ev} {ex : Ex} (IH : EvOk prog w G hT n ev) (XX : ExOk prog w G hT n ex) (H : Here prog w G.v G.c hT (n + 1) A env sc al fr ow ρ st s) {o : X} {k : Nat} {args : List X} {oe : Expr} {name : Str} {apos pos : Pos} {es : List Expr} {d : D} {f : Nat}
  (h : evStep T ev ex ρ st (.mcall o k args) = some (d, st'))
  (c1 : name = G.m k) (c2 : notCall oe = true) (c3 : (apos.endLine == pos.line) = true) (c4 : es.length < 20) (c5 : cE G f sc o oe = true) (c6 : cL (cE G f sc) args es = true) :
  wpAny (model prog w) A (eval (.Call (.Attribute oe name apos) es [] pos) env) (PostE prog w hT al fr st st' s d) FF s := by
 subst c1
 have H' := H.less (n' := n) (Nat.le_succ n)
 refine x14 TO.cls ?_
 intro mN C _ M _
 refine x22 (oInst h) ?_
 try clear h
 intro fs st1 h1 h
 refine x22 (oLS h) ?_
 try clear h
 intro ds st2 h2 h
 refine x22 (oFS h) ?_
 try clear h
 intro ps body h3 h
 refine x15 (M k _ h3) ?_
 intro a hm nst1 hlk hna FO
 obtain ⟨ob, ho, hcl⟩ := nst1
 refine x22 FO.got ?_
 intro ob' fd ho' hfd
 rw [ho] at ho'
 have ho' := so ho'
 subst ho'
 refine x12 (oEn h) ?_
 try clear h
 intro ρ0 h4 h
 refine x22 (exI h) ?_
 intro ρ1 fl h5 hfl
 refine call_on C IH H' h1 h2 trivial hm ho hcl hfd hlk hna c2 c3 c4 c5 c6 fun al2 s2 ov vs S2 ro rs => ?_
 exact fn_ok TO.nms.nm TO.toBis XX FO H.hd (Nat.le_trans H.tk S2.rest.tk) H.d1 H.u1 S2.sto (.cons ro rs) h4 h5 hfl
theorem msm_node (TO : TopOk prog w G T hT) {ev : Ev} {ex : Ex} (IH : EvOk prog w G hT n ev) (H : Here prog w G.v G.c hT (n + 1) A env sc al fr ow ρ st s) {o : X} {k : Nat} {args : List X} {oe : Expr} {name : Str} {apos pos : Pos} {es : List Expr} {d : D} {f : Nat}
  (h : evStep T ev ex ρ st (.msm o k args) = some (d, st'))
  (c1 : name = G.m k) (c2 : notCall oe = true) (c3 : (apos.endLine == pos.line) = true) (c4 : es.length < 20) (c5 : cE G f sc o oe = true) (c6 : cL (cE G f sc) args es = true) :
  wpAny (model prog w) A (eval (.Call (.Attribute oe name apos) es [] pos) env) (PostE prog w hT al fr st st' s d) FF s := by
 subst c1
 have H' := H.less (n' := n) (Nat.le_succ n)
 refine x14 TO.cls ?_
 intro mN C _ _ M
 refine x22 (oDS h) ?_
 try clear h
 intro dO st1 h1 h
 refine x22 (oLS h) ?_
 try clear h
 intro ds st2 h2 h
 refine x12 (oDa h) ?_
 try clear h
 intro d' h3 h
 refine ouK h ?_
 obtain ⟨hi, a, ob, fd, hm, ho, hcl, hfd, hlk, hna, run⟩ := M k _ _ _ h3
 refine call_on C IH H' h1 h2 hi hm ho hcl hfd hlk hna c2 c3 c4 c5 c6 fun al2 s2 ov vs S2 ro rs => ?_
 exact run A al2 fr _ s2 _ H.hd (Nat.le_trans H.tk S2.rest.tk) H.d0 H.u0 S2.sto (.cons ro rs)
end
end Mine
end
noncomputable section
open PySem PySem.W PyProof.Rows PySem.Spec PySem.Calls
namespace Mine
theorem slot_mdg : Slot "member_descriptor" "__get__" "member_descriptor.__get__" :=
 .of (owner := "member_descriptor") (n := "__get__") (by rw [typeLookup_type, builtinLookup_eq_fast]; kernel_rfl) (by decide +kernel) (by decide +kernel) (by decide +kernel)
  (by first | exact .inl (by decide +kernel) | exact .inr (by decide +kernel)) (by rw [isSubtype_type]; kernel_rfl)
theorem slot_mds : Slot "member_descriptor" "__set__" "member_descriptor.__set__" :=
 .of (owner := "member_descriptor") (n := "__set__") (by rw [typeLookup_type, builtinLookup_eq_fast]; kernel_rfl) (by decide +kernel) (by decide +kernel) (by decide +kernel)
  (by first | exact .inl (by decide +kernel) | exact .inr (by decide +kernel)) (by rw [isSubtype_type]; kernel_rfl)
theorem entry_mdg : entryFor table "member_descriptor.__get__" = some Builtin.«member_descriptor.__get__» := entryFor_of_tree (by kernel_rfl)
theorem args_mdg (a b c : Value) : argsOk "member_descriptor.__get__" ⟨[a, b, c], []⟩ := by unfold argsOk; kernel_rfl
theorem slot_mga : Slot "re.Match" "__getattribute__" "object.__getattribute__" :=
 .of (owner := "object") (n := "__getattribute__") (by rw [typeLookup_type, builtinLookup_eq_fast]; kernel_rfl) (by decide +kernel) (by decide +kernel) (by decide +kernel)
  (by first | exact .inl (by decide +kernel) | exact .inr (by decide +kernel)) (by rw [isSubtype_type]; kernel_rfl)
theorem entry_oga : entryFor table "object.__getattribute__" = some Builtin.«object.__getattribute__» := entryFor_of_tree (by kernel_rfl)
theorem args_oga (a b : Value) : argsOk "object.__getattribute__" ⟨[a, b], []⟩ := by unfold argsOk; kernel_rfl
theorem owner_string : (".".intercalate ("re.Match.string".cutAt '.').dropLast) = "re.Match" := by
 have e0 : "re.Match.string".cutAt '.' = ["re", "Match", "string"] := by first | rfl | decide +kernel
 rw [e0]; decide +kernel
theorem sub_match : isSubtype (.type "re.Match") (.type "re.Match") = pure true := by rw [isSubtype_type]; kernel_rfl
section
variable {prog : Program} {w : World} {A : Around} {E : Value → Shared → Prop} {h : Heap} {g : Array GenState} {d : Drawn} {t : Nat} {os : OsState} {a : Addr} {fs : Array Value} {v : Value}
theorem string_get {R : Result → Shared → Prop} (hx : h.get? a = some { cls := .type "re.Match", data := .fields fs }) (h0 : fs[0]? = some v) (hnd : (v == doubtfulMember) = false) (hq : R (.ok (.ret v)) ⟨h, g, d, t, os⟩) :
  codeAny (model prog w) A (.call (.builtin "member_descriptor.__get__") ⟨[.builtin "re.Match.string", .ref a, .type "re.Match"], []⟩) R ⟨h, g, d, t, os⟩ := by
 have hT : (⟨h, g, d, t, os⟩ : Shared).TypeIs (.ref a) "re.Match" := ⟨_, hx, rfl⟩
 have hT5 : (⟨h, g, d, t, os⟩ : Shared).TypeIs (.builtin "re.Match.string") "member_descriptor" := type_string
 have f8 : isSubtype (.type "re.Match") (.type (".".intercalate ("re.Match.string".cutAt '.').dropLast)) = pure true := by rw [owner_string]; exact sub_match
 refine codeAny_call_builtin slot_mdg.plain entry_mdg (slot_mdg.check _ _ _ _ _ _ _ _ hT5 (args_mdg _ _ _) ?_)
 repeat (any_goals (first | assumption | wp_step))
 refine ⟨Code.quiet_builtin _ (by decide +kernel), codeAny_builtin entry_string ?_⟩
 unfold Builtin.«re.Match.string»
 repeat (any_goals (first | assumption | with_reducible refine wpAny_field hx rfl h0 ?_ | wp_step))
 rw [h0]
 repeat (any_goals (first | assumption | wp_step))
theorem string_entry {tk : Tok} {Q : Fin → Shared → Prop} (hx : h.get? a = some { cls := .type "re.Match", data := .fields fs }) (h0 : fs[0]? = some v) (hnd : (v == doubtfulMember) = false) (hq : Q (.done (.ret v)) ⟨h, g, d, t, os⟩) :
  wpAny (model prog w) A (Builtin.«object.__getattribute__» ⟨[.ref a, .str "string" tk], []⟩) Q E ⟨h, g, d, t, os⟩ := by
 have hT : (⟨h, g, d, t, os⟩ : Shared).TypeIs (.ref a) "re.Match" := ⟨_, hx, rfl⟩
 have hT5 : (⟨h, g, d, t, os⟩ : Shared).TypeIs (.builtin "re.Match.string") "member_descriptor" := type_string
 have f4 := look_string
 have f5 := type_string
 have f6 := slot_mdg.lookup
 have f7 := slot_mds.lookup
 repeat (any_goals (first | assumption | wp_step))
 refine string_get hx h0 hnd ?_
 repeat (any_goals (first | assumption | wp_step))
theorem string_call {tk : Tok} {R : Result → Shared → Prop} (hx : h.get? a = some { cls := .type "re.Match", data := .fields fs }) (h0 : fs[0]? = some v) (hnd : (v == doubtfulMember) = false) (hq : R (.ok (.ret v)) ⟨h, g, d, t, os⟩) :
  codeAny (model prog w) A (.call (.builtin "object.__getattribute__") ⟨[.ref a, .str "string" tk], []⟩) R ⟨h, g, d, t, os⟩ :=
 codeAny_call_builtin slot_mga.plain entry_oga (slot_mga.check _ _ _ _ _ _ _ _ (show (⟨h, g, d, t, os⟩ : Shared).TypeIs (.ref a) "re.Match" from ⟨_, hx, rfl⟩) (args_oga _ _) (string_entry hx h0 hnd hq))
theorem string_by {tk : Tok} {fill expr : Bool} {x : Str} {tv : Tok} {Q : Value → Shared → Prop} (hx : h.get? a = some { cls := .type "re.Match", data := .fields fs }) (h0 : fs[0]? = some (.str x tv))
  (hq : Q (.str x tv) ⟨h, g, d, t, os⟩) : wpAny (model prog w) A (getAttrBy (.ref a) (.str "string" tk) fill expr) Q E ⟨h, g, d, t, os⟩ := by
 have hT : (⟨h, g, d, t, os⟩ : Shared).TypeIs (.ref a) "re.Match" := ⟨_, hx, rfl⟩
 have f2 := slot_mga.lookup
 have f3 := slot_mga.bind (.ref a)
 have hx0 : (expr && onTheHeap (Value.builtin "object.__getattribute__")) = false := by induction expr using Bool.casesOn <;> rfl
 repeat (any_goals (first | assumption | wp_step))
 refine string_call hx h0 (by first | rfl | decide | simp [doubtfulMember, rawInt]) ?_
 repeat (any_goals (first | assumption | wp_step))
theorem attr_string {expr : Bool} {x : Str} {tv : Tok} {Q : Value → Shared → Prop} (hx : h.get? a = some { cls := .type "re.Match", data := .fields fs }) (h0 : fs[0]? = some (.str x tv))
  (hq : Q (.str x tv) ⟨h, g, d, t + 1, os⟩) : wpAny (model prog w) A (getAttr (.ref a) "string" expr) Q E ⟨h, g, d, t, os⟩ := by
 unfold getAttr
 repeat (any_goals (first | assumption | with_reducible apply string_by hx h0 | wp_step))
end
end Mine
end
noncomputable section
open PySem PySem.W PyProof.Rows PySem.Spec PySem.Calls
namespace Mine
variable [Val]
section
variable {prog : Program} {w : World} {G : Nms} {T : Tab} {hT : Heap} {n : Nat} {A : Around} {env : Env} {sc sc2 : Scope} {al al' al'' fr fr' N ow ow' : List Addr} {ρ ρ' : Env'} {st st' st'' : St} {s s₁ s₂ s₃ s' s'' : Shared} {h h' : Heap} {mN : Str → Option Value}
omit [Val] in
theorem sub_str {value slice : Expr} {pos : Pos} {Q : Value → Shared → Prop} {E : Value → Shared → Prop} (hsl : ∀ o i b, subscripted slice b o i = operate [i, o] (getItem o i))
  (h : wpAny (model prog w) A (eval value env) (fun o s₁ => wpAny (model prog w) A (eval slice env) (fun i s₂ => ∃ x t, o = .str x t ∧ wpAny (model prog w) A (getItem (.str x t) i) Q E s₂) E s₁) E s) :
  wpAny (model prog w) A (eval (.Subscript value slice pos) env) Q E s := by
 rw [eval_Subscript]
 refine wpAny_bind (wpAny_mono h (fun o s₁ h₁ => wpAny_bind (wpAny_holding (wpAny_mono h₁ (fun i s₂ h₂ => wpAny_bind (wpAny_standAt ?_)) fun j j x => x))) fun j j x => x)
 refine x22 h₂ ?_
 clear h₂
 intro x t eq2 h₂
 subst eq2
 have hT := typeIs_str s₂ x t
 refine wpAny_bind ?_
 rw [getitemInPython_of_ne hT.not_modules]
 refine wpAny_bind (wpAny_specialOf hT PySem.F.slot_str_getitem.lookup ?_)
 have fin : ∀ b, wpAny (model prog w) A (subscripted slice b (.str x t) i) (fun r s₃ => wpAny (model prog w) A (letTemporaryGo value (.str x t) r >>= fun j => pure r) Q E s₃) E s₂ := fun b => by
  rw [hsl]
  refine wpAny_operating (wpAny_mono h₂ (fun r s₃ h₃ => wpAny_bind (wpAny_of_eq (a := ()) (by induction value using Expr.casesOn <;> rfl) (wpAny_pure h₃))) fun j j x => x)
 first
  | exact wpAny_pure (wpAny_bind (fin _))
  | exact wpAny_bind (wpAny_pure (wpAny_bind (fin _)))
  | exact wpAny_bind (fin _)
theorem slice_post {x : List Nat} {t : Tok} {l u : Option (Int × Tok)} {v : Value} {vl vu : Value} (S : Sto prog w hT al fr st s.heap) (hvl : vl = partValue l) (hvu : vu = partValue u) (hsz : x.length ≤ sizeLine) :
  wpAny (model prog w) A (getItem (.str ⟨x.toArray⟩ t) (.ref s.heap.objs.size)) (PostE prog w hT al fr st st s (.str (Txt.slice ⟨x.toArray⟩ (l.map (·.1)) (u.map (·.1))).cps.toList)) FF { s with heap := s.heap.push { cls := .type "slice", data := .fields #[vl, vu, .none] } } := by
 subst hvl hvu
 have S1 := Stp.push (htk := Nat.le_refl _) (prog := prog) (w := w) (o := { cls := .type "slice", data := .fields #[partValue l, partValue u, .none] }) (tk := s.toks) S
 refine wpAny_with_toks (Nat.le_refl _) (wpAny_getItem_str_slice (l := l) (u := u) (st := none) ⟨_, Heap.get?_push_size _ rfl, rfl, rfl⟩ rfl (post_val_or_str ⟨?_, fun t' k ht => ?_⟩))
 · exact Nat.le_trans (Txt.slice_le _ _ _) (by simpa [Str.length] using hsz)
 · refine (PostE.tok (tk := k) (v := .str (Txt.slice ⟨x.toArray⟩ (l.map (·.1)) (u.map (·.1))) t') S1.sto ?_ ht).after S1
   have := RD.str (al := al) (fr := fr) (h := s.heap.push { cls := .type "slice", data := .fields #[partValue l, partValue u, .none] }) (Txt.slice ⟨x.toArray⟩ (l.map (·.1)) (u.map (·.1))).cps.toList t'
   simpa using this
theorem strTo_node {ev : Ev} {ex : Ex} (IH : EvOk prog w G hT n ev) (H : Here prog w G.v G.c hT n A env sc al fr ow ρ st s) {o hi : X} {oe he : Expr} {p pos : Pos} {d : D} {f : Nat}
  (e : evStep T ev ex ρ st (.strTo o hi) = some (d, st')) (c2 : cE G f sc o oe = true) (c3 : cE G f sc hi he = true) :
  wpAny (model prog w) A (eval (.Subscript oe (.Slice none (some he) none p) pos) env) (PostE prog w hT al fr st st' s d) FF s := by
 refine x22 (oSx e) ?_
 try clear e
 intro x st1 h1 e
 refine x22 (oIS e) ?_
 try clear e
 intro k st2 h2 e
 refine x12 (oNa e) ?_
 try clear e
 intro _ _ e
 refine x02 (ifI e) ?_
 try clear e
 intro z e
 refine ouK e ?_
 refine x02 (Bool.and_eq_true_iff.mp z) ?_
 intro z1 z2
 refine sub_str (fun j j j => rfl) (wpAny_mono (IH h1 c2 H) (fun v s1 pp => x12 pp fun al1 S1 r1 => ?_) fun j j q => q)
 refine x11 r1.to ?_
 intro t eq1
 subst eq1
 refine wpAny_Slice (wpAny_pure (wpAny_mono (IH h2 c3 (H.step S1)) (fun u s2 pp => x12 pp fun al2 S2 r2 => wpAny_pure ?_) fun j j q => q))
 refine x11 r2.to ?_
 intro t2 eq1
 subst eq1
 refine (m22 _ _ rfl ?_)
 have := slice_post (A := A) (x := x) (t := t) (l := none) (u := some (k, t2)) (v := .none) S2.sto rfl rfl (fits_le z1)
 exact wpAny_mono this (fun v s3 p => (p.after S2).after S1) fun j j q => q
theorem strFrom_node {ev : Ev} {ex : Ex} (IH : EvOk prog w G hT n ev) (H : Here prog w G.v G.c hT n A env sc al fr ow ρ st s) {o lo : X} {oe le : Expr} {p pos : Pos} {d : D} {f : Nat}
  (e : evStep T ev ex ρ st (.strFrom o lo) = some (d, st')) (c2 : cE G f sc o oe = true) (c3 : cE G f sc lo le = true) :
  wpAny (model prog w) A (eval (.Subscript oe (.Slice (some le) none none p) pos) env) (PostE prog w hT al fr st st' s d) FF s := by
 refine x22 (oSx e) ?_
 try clear e
 intro x st1 h1 e
 refine x22 (oIS e) ?_
 try clear e
 intro k st2 h2 e
 refine x12 (oNa e) ?_
 try clear e
 intro _ _ e
 refine x02 (ifI e) ?_
 try clear e
 intro z e
 refine ouK e ?_
 refine x02 (Bool.and_eq_true_iff.mp z) ?_
 intro z1 z2
 refine sub_str (fun j j j => rfl) (wpAny_mono (IH h1 c2 H) (fun v s1 pp => x12 pp fun al1 S1 r1 => ?_) fun j j q => q)
 refine x11 r1.to ?_
 intro t eq1
 subst eq1
 refine wpAny_Slice (wpAny_mono (IH h2 c3 (H.step S1)) (fun u s2 pp => x12 pp fun al2 S2 r2 => wpAny_pure (wpAny_pure ?_)) fun j j q => q)
 refine x11 r2.to ?_
 intro t2 eq1
 subst eq1
 refine (m22 _ _ rfl ?_)
 have := slice_post (A := A) (x := x) (t := t) (l := some (k, t2)) (u := none) (v := .none) S2.sto rfl rfl (fits_le z1)
 exact wpAny_mono this (fun v s3 p => (p.after S2).after S1) fun j j q => q
theorem assignAll_cons {v : Value} {t : Value → Sem Unit} {ts : List (Value → Sem Unit)} {Q : Unit → Shared → Prop} {E : Value → Shared → Prop} {M : Model} (h : wpAny M A (t v) (fun j s₁ => wpAny M A (assignAll v ts) Q E s₁) E s) : wpAny M A (assignAll v (t :: ts)) Q E s := by
 induction ts using List.casesOn with
 | nil =>
  show wpAny M A (t v) Q E s
  intro Γ p hΓ
  exact Sem.wp_mono M Γ _ (fun a p' s' q => by induction a using PUnit.casesOn; exact q Γ p' hΓ) (fun j j j x => x) _ _ (h Γ p hΓ)
 | cons u us => exact wpAny_bind (wpAny_holding h)
theorem many_ok (NN : Names G.v) {v : Value} {d : D} : ∀ {is : List Nat} {tes : List Expr} {ρ : Env'} {s : Shared}, tgNames G sc is tes = true → RD al fr s.heap v d → Here prog w G.v G.c hT n A env sc al fr ow ρ st s →
  wpAny (model prog w) A (assignAll v ((assignEach tes env).map (·.2))) (fun j s' => Stored prog w G.v hT env sc al fr ow (putAll d is ρ) st s s') FF s
 | [], [], ρ, s, _, _, H => wpAny_pure ⟨Stp.refl H.sto, H.env⟩
 | i :: is, e :: es, ρ, s, c, r, H => by
  replace c := both c
  have ce := c.1
  refine x12 (tgName_iff c.1) ?_
  intro pos eq1 c2
  subst eq1
  show wpAny (model prog w) A (assignAll v (assign (.Name (G.v i) pos) env :: (assignEach es env).map (·.2))) _ _ _
  refine assignAll_cons (wpAny_mono (assign_name NN H ce r) (fun j s1 pp => x02 pp fun S1 E1 => ?_) fun j j q => q)
  exact wpAny_mono (many_ok NN c.2 (r.stepF S1 H.env.sub) (H.turn S1 E1)) (fun j s2 pp => x02 pp fun S2 E2 => ⟨S1.trans S2, E2⟩) fun j j q => q
 | [], _ :: _, _, _, c, _, _ => nb c
 | _ :: _, [], _, _, c, _, _ => nb c
theorem asgMany_ok (NN : Names G.v) {ev : Ev} (IH : EvOk prog w G hT n ev) (H : Here prog w G.v G.c hT n A env sc al fr ow ρ st s) (hsc : env.scope = sc) {is : List Nat} {e : X} {tes : List Expr} {ex : Expr} {pos : Pos} {d : D} {f : Nat}
  (h : ev ρ st e = some (d, st')) (c : cE G f sc e ex = true) (ct : tgNames G sc is tes = true) (cn : isPure (! ·) (swapsWithSole tes ex pos.line (envOf sc)) = true) (cs : isPure isNone (swappedStores tes ex (envOf sc)) = true) :
  wpAny (model prog w) A (exec (.Assign tes ex pos) env) (PostX prog w G hT env sc al fr ow st st' (putAll d is ρ) s .next) FF s := by
 subst hsc
 have q := isPure_not cn
 rw [← swapsSole_of] at q
 have w2 := isPure_none cs
 rw [← swapped_of] at w2
 refine wpAny_Assign_stores (wpAny_mono (IH h c H) (fun v s1 pp => x12 pp fun al1 S1 r1 => ?_) fun j j q => q) q w2
 exact wpAny_mono (many_ok NN ct r1 (H.step S1)) (fun j s2 T => PostX.stored S1 T) fun j j q => q
theorem augVar_ok (NN : Names G.v) {ev : Ev} (IH : EvOk prog w G hT n ev) (H : Here prog w G.v G.c hT n A env sc al fr ow ρ st s) {i : Nat} {e : X} {te ex : Expr} {pos : Pos} {a b : List Nat} {f : Nat}
  (h0 : lk i ρ = some (some (.str a))) (h : ev ρ st e = some (.str b, st')) (h2 : fits (a.length + b.length) = true) (ct : tgName G sc i te = true) (c : cE G f sc e ex = true) :
  wpAny (model prog w) A (exec (.AugAssign te .Add ex pos) env) (PostX prog w G hT env sc al fr ow st st' (put i (some (.str (a ++ b))) ρ) s .next) FF s := by
 refine x12 (tgName_iff ct) ?_
 intro p eq1 k
 subst eq1
 have kv : isVarK (sc.names.lookup (G.v i)) = true := by
  cases q : sc.names.lookup (G.v i) with
  | none => rw [q] at k; exact nomatch k
  | some x => rw [q] at k; induction x using NameKind.casesOn <;> first | rfl | cases k
 have ld : ∀ {Q : Value → Shared → Prop}, (∀ v s1 al1, Stp prog w hT fr [] al al1 st st s s1 → RD al1 fr s1.heap v (.str a) → Q v s1) → wpAny (model prog w) A (loadName env (G.v i)) Q FF s := fun {Q} hQ => by
  cases q : sc.names.lookup (G.v i) with
  | none => rw [q] at k; exact nomatch k
  | some kk =>
   induction kk using NameKind.casesOn with
   | «local» =>
    refine x12 H.env.ns ?_
    intro m hm hv
    refine x12 (hv i _ h0 q) ?_
    intro v e r
    exact wpAny_loadName_local H.env.fn (H.env.k1 _ q) hm e (hQ v s al (Stp.refl H.sto) r)
   | cell =>
    refine x23 (H.env.cv i _ h0 (.inl q)) ?_
    intro c v hc hv r
    exact wpAny_loadName_cell H.env.fn (H.env.k2 _ q) hc hv (hQ v s al (Stp.refl H.sto) r)
   | free => rw [q] at k; exact nomatch k
   | globalExplicit => rw [q] at k; exact nomatch k
   | globalImplicit => rw [q] at k; exact nomatch k
 refine wpAny_AugAssign_Name (ld fun v s1 al1 S1 r1 => ?_)
 refine wpAny_mono (IH h c (H.step S1)) (fun u s2 pp => x12 pp fun al2 S2 r2 => ?_) fun j j q => q
 have r1' := r1.step S2
 refine x11 r1'.to ?_
 intro t eq1
 subst eq1
 refine x11 r2.to ?_
 intro u eq1
 subst eq1
 refine wpAny_with_toks (Nat.le_refl _) (iadd_str (fun t' tk ht => ?_) (by simpa [Str.length] using fits_le h2))
 have S3 := Stp.tok (tk := tk) S2.sto ht
 have e1 : ((⟨a.toArray⟩ : Str) ++ ⟨b.toArray⟩) = ⟨(a ++ b).toArray⟩ := by
  show Str.mk _ = _
  simp
 rw [e1]
 have S123 := (S1.trans S2).trans S3
 refine wpAny_mono (store_ok NN (H.step S123) k (.str (a ++ b) t')) (fun j s4 T => PostX.stored S123 T) fun j j q => q
theorem sub_ok (B : Bis hT) {ev : Ev} (IH : EvOk prog w G hT n ev) (H : Here prog w G.v G.c hT n A env sc al fr ow ρ st s) {o i : X} {oe ie : Expr} {p : Pos} {dO di d : D} {v : Value} {st1 st2 st3 : St} {f : Nat}
  (h1 : ev ρ st o = some (dO, st1)) (h2 : ev ρ st1 i = some (di, st2)) (h3 : smIdx di = true) (h4 : storeSub st2 dO di d = some st3) (c0 : plainSlice ie = true) (c1 : cE G f sc o oe = true) (c2 : cE G f sc i ie = true) (r : RD al fr s.heap v d) :
  wpAny (model prog w) A (assign (.Subscript oe ie p) env v) (fun j s' => ∃ al', Stp prog w hT fr [] al al' st st3 s s') FF s := by
 rw [arm_assign_Subscript]
 refine wpAny_bind (wpAny_holding (wpAny_mono (IH h1 c1 H) (fun u s1 pp => x12 pp fun al1 S1 r1 => ?_) fun j j q => q))
 refine wpAny_bind (wpAny_holding (wpAny_mono (IH h2 c2 (H.step S1)) (fun x s2 pp => x12 pp fun al2 S2 r2 => ?_) fun j j q => q))
 refine wpAny_bind (wpAny_standAt (wpAny_bind (wpAny_holding (wpAny_mono (set_ok B.sysm S2.sto (r1.step S2) r2 ((r.step S1).step S2) h4 (smIdx_hb h3)) (fun j s3 S3 => ?_) fun j j q => q))))
 have S123 := (S1.trans S2).trans S3
 intro Γ p hΓ
 rw [Sem.wp_release]
 exact ⟨al2, S123⟩
theorem asg2_ok (B : Bis hT) {ev : Ev} (IH : EvOk prog w G hT n ev) (H : Here prog w G.v G.c hT n A env sc al fr ow ρ st s) (hsc : env.scope = sc) {o1 i1 o2 i2 e : X} {oe1 ie1 oe2 ie2 ex : Expr} {p1 p2 p pos : Pos} {k : Nat} {d1 d2 a1 b1 a2 b2 : D} {t1 t2 t3 t4 t5 t6 : St} {f : Nat}
  (h0 : ev ρ st e = some (.tup [d1, d2], t1)) (h1 : ev ρ t1 o1 = some (a1, t2)) (h2 : ev ρ t2 i1 = some (b1, t3)) (h3 : smIdx b1 = true) (h4 : storeSub t3 a1 b1 d1 = some t4)
  (h5 : ev ρ t4 o2 = some (a2, t5)) (h6 : ev ρ t5 i2 = some (b2, t6)) (h7 : smIdx b2 = true) (h8 : storeSub t6 a2 b2 d2 = some st')
  (c1 : plainSlice ie1 = true) (c2 : plainSlice ie2 = true) (c3 : cE G f sc o1 oe1 = true) (c4 : cE G f sc i1 ie1 = true) (c5 : cE G f sc o2 oe2 = true) (c6 : cE G f sc i2 ie2 = true) (c7 : cE G f sc e ex = true)
  (cn : isPure (! ·) (swapsWithSole [.Tuple [.Subscript oe1 ie1 p1, .Subscript oe2 ie2 p2] k p] ex pos.line (envOf sc)) = true) (cs : isPure isNone (swappedStores [.Tuple [.Subscript oe1 ie1 p1, .Subscript oe2 ie2 p2] k p] ex (envOf sc)) = true) :
  wpAny (model prog w) A (exec (.Assign [.Tuple [.Subscript oe1 ie1 p1, .Subscript oe2 ie2 p2] k p] ex pos) env) (PostX prog w G hT env sc al fr ow st st' ρ s .next) FF s := by
 subst hsc
 have q := isPure_not cn
 rw [← swapsSole_of] at q
 have w2 := isPure_none cs
 rw [← swapped_of] at w2
 refine wpAny_Assign_stores (wpAny_mono (IH h0 c7 H) (fun v s1 pp => x12 pp fun al1 S1 r1 => ?_) fun j j q => q) q w2
 refine x25 r1.to ?_
 intro x vs eq2 n1 n2 hl r
 subst eq2
 show wpAny (model prog w) A (assign (.Tuple [.Subscript oe1 ie1 p1, .Subscript oe2 ie2 p2] k p) env (.ref x)) _ _ _
 rw [arm_assign_Tuple]
 refine wpAny_bind (wpAny_standAt ?_)
 show wpAny (model prog w) A (unpack (.ref x) [(false, assign (.Subscript oe1 ie1 p1) env), (false, assign (.Subscript oe2 ie2 p2) env)]) _ _ _
 refine x23 r.to2 ?_
 intro v1 v2 eq2 ra rb
 subst eq2
 · · unfold unpack
     have fi : ([(false, assign (.Subscript oe1 ie1 p1) env), (false, assign (.Subscript oe2 ie2 p2) env)] : List (Bool × (Value → Sem Unit))).findIdx? (·.1) = none := by rfl
     rw [fi]
     refine wpAny_bind (wpAny_holding (unpack_ok H.hd S1.sto hl (k := 2) rfl fun h' S2 => ?_))
     refine assignInOrder_cons ?_
     have S12 := S1.trans S2
     refine wpAny_mono (sub_ok B IH (H.step S12) h1 h2 h3 h4 c1 c3 c4 (ra.step S2)) (fun j s3 pp => x11 pp fun al3 S3 => ?_) fun j j q => q
     refine assignInOrder_cons ?_
     have S13 := S12.trans S3
     refine wpAny_mono (sub_ok B IH (H.step S13) h5 h6 h7 h8 c2 c5 c6 ((rb.step S2).step S3)) (fun j s4 pp => x11 pp fun al4 S4 => ?_) fun j j q => q
     exact wpAny_pure (PostX.only H (S13.trans S4))
theorem clsAttr_node (TO : TopOk prog w G T hT) (H : Here prog w G.v G.c hT n A env sc al fr ow ρ st s) {i : Nat} {id name : Str} {p p2 : Pos} {ev : Ev} {ex : Ex} {d : D}
  (h : evStep T ev ex ρ st (.clsAttr i) = some (d, st')) (c1 : id = ("Whitespace" : Str)) (c2 : isGl sc id = true) (c3 : name = nmC i) :
  wpAny (model prog w) A (eval (.Attribute (.Name id p2) name p) env) (PostE prog w hT al fr st st' s d) FF s := by
 subst c1 c3
 refine x12 TO.cls ?_
 intro mN C _
 refine Attribute_Name_ (glob_ok H c2 (by decide) C.glb ?_)
 refine TO.clsA i H.sto.old fun t => ?_
 match i, h with
 | 0, h => obtain ⟨rfl, rfl⟩ := ou h; exact .tok (htk := Nat.le_succ _) H.sto (.str _ _)
 | 1, h => obtain ⟨rfl, rfl⟩ := ou h; exact .tok (htk := by first | exact Nat.le_refl _ | lia | omega) H.sto (.str _ _)
 | _ + 2, h => exact no h
end
end Mine
end
noncomputable section
open PySem PySem.W PyProof.Rows PySem.Spec PySem.Calls
namespace Mine
noncomputable def freshInst (h : Heap) (C : Addr) : Heap := (h.push { cls := .type "dict", data := .dict #[] }).push { cls := .ref C, dict := some h.objs.size, data := .plain }
section
variable {prog : Program} {w : World} {A : Around} {E : Value → Shared → Prop} {h : Heap} {g : Array GenState} {d : Drawn} {t : Nat} {os : OsState}
variable {nm q : Str} {C N : Addr} {bs : List Value} {sn : List Str} {sub : List Value} {col : Option Bool} {dd : Option Addr} {k0 k1 k2 k3 k5 : Option Value} {newId : String}
theorem make_inst (F : ObjNewFacts newId) {mN : Str → Option Value} {rest : List Value} {fI : Addr} {oI : Obj} {Q : Value → Shared → Prop}
  (hC : h.get? C = some (excClassObj nm q C N bs [.type "object"] true sn sub false col dd k0 k1 k2 k3 k5 newId)) (hn : h.Ns N mN) (hi : mN "__init__" = some (.ref fI)) (hfI : h.get? fI = some oI) (hfc : oI.cls = .type "function")
  (hq : wpAny (model prog w) (A.under (.builtin "type.__call__" ⟨.ref C :: rest, []⟩)) (call (.ref fI) (.ref (h.objs.size + 1) :: rest)) (fun r s' => r = .none ∧ Q (.ref (h.objs.size + 1)) s') E ⟨freshInst h C, g, d, t, os⟩) :
  wpAny (model prog w) A (call (.ref C) rest) Q E ⟨h, g, d, t, os⟩ := by
 have f1 := tc_lookup
 have f2 := tc_bind (.ref C)
 have hT : (⟨h, g, d, t, os⟩ : Shared).TypeIs (.ref C) "type" := ⟨_, hC, rfl⟩
 have hmro : mroOf (.type "object") = pure [.type "object"] := by kernel_rfl
 have hlk : typeLookup (.type "object") "__init__" = pure (some (.builtin "object.__init__")) := by rw [typeLookup_type, builtinLookup_eq_fast]; kernel_rfl
 refine wpAny_call (codeAny_of_tree ?_)
 show wpAny _ _ (callAny (.ref C) _) _ _ _
 repeat (any_goals (first | assumption | with_reducible refine wpAny_loadPart_at hC ?_ | wp_step))
 refine ⟨rfl, ?_⟩
 refine codeAny_call_builtin_at (Code.quiet_builtin _ (by decide +kernel)) entry_typeCall (wpAny_check_type_call_sub hC ?_)
 repeat (first | with_reducible refine wpAny_loadPart_at hC ?_ | with_reducible refine wpAny_madeBy_exc hC ?_ | wp_step)
 refine codeAny_call_builtin_code (Code.quiet_builtin _ F.quiet) (wpAny_check_obj_new F hC ?_)
 refine codeAny_obj_new F hC hn hi ?_
 show wpAny _ _ _ _ _ _
 have hC₁ := Heap.get?_push_of_some { cls := .ref C, dict := some h.objs.size, data := .plain } (Heap.get?_push_of_some { cls := .type "dict", data := .dict #[] } hC)
 have hfI₁ := Heap.get?_push_of_some { cls := .ref C, dict := some h.objs.size, data := .plain } (Heap.get?_push_of_some { cls := .type "dict", data := .dict #[] } hfI)
 have hn₁ : (freshInst h C).Ns N mN := let ⟨o, es, ep, e, r⟩ := hn; ⟨o, es, ep, Heap.get?_push_of_some _ (Heap.get?_push_of_some _ e), r⟩
 have hget : (freshInst h C).get? (h.objs.size + 1) = some { cls := .ref C, dict := some h.objs.size, data := .plain } := by unfold freshInst; heap_get
 have hcC : (Value.ref C :: [Value.type "object"]).contains (.ref C) = true := by rw [List.contains_cons, beq_self_eq_true]; rfl
 unfold isInstance
 repeat (first | with_reducible refine wpAny_loadPart_at hget ?_ | (with_reducible refine wpAny_isSubtype_exc hC₁ ?_; rw [hcC]) | wp_step)
 show wpAny _ _ (typeLookup (.ref C) _) _ _ _
 refine wpAny_typeLookup_exc hC₁ hn₁ hmro hlk ?_
 rw [hi]
 refine wpAny_holding (wpAny_bind ?_)
 unfold bindSpecial
 refine wpAny_bind (wpAny_typeOf (T := "function") ⟨_, hfI₁, hfc⟩ ?_)
 rw [if_pos (by decide)]
 refine wpAny_pure (wpAny_bind (wpAny_mono hq (fun r s' hr => ?_) fun j j x => x))
 refine x02 hr ?_
 clear hr
 intro eq0 hQ
 subst eq0
 wp_walk
 exact hQ
theorem under_units (A : Around) (C : Addr) (vals : List Value) : (A.under (.builtin "type.__call__" ⟨.ref C :: vals, []⟩)).units = A.units + 1 := rfl
end
variable [Val]
section
variable {prog : Program} {w : World} {G : Nms} {T : Tab} {hT : Heap} {n : Nat} {A : Around} {env : Env} {sc sc2 : Scope} {al al' al'' fr fr' N ow ow' : List Addr} {ρ ρ' : Env'} {st st' st'' : St} {s s₁ s₂ s₃ s' s'' : Shared} {h h' : Heap} {mN : Str → Option Value}
theorem new_node (TO : TopOk prog w G T hT) {ev : Ev} {ex : Ex} (IH : EvOk prog w G hT n ev) (XX : ExOk prog w G hT n ex) (H : Here prog w G.v G.c hT (n + 1) A env sc al fr ow ρ st s) {args : List X} {id : Str} {p pos : Pos} {es : List Expr} {d : D} {f : Nat}
  (h : evStep T ev ex ρ st (.new args) = some (d, st')) (c1 : id = ("Whitespace" : Str)) (c2 : isGl sc id = true) (c3 : cL (cE G f sc) args es = true) (ne : es ≠ []) :
  wpAny (model prog w) A (eval (.Call (.Name id p) es [] pos) env) (PostE prog w hT al fr st st' s d) FF s := by
 subst c1
 have H' := H.less (n' := n) (Nat.le_succ n)
 refine x13 TO.cls ?_
 intro mN C I _
 refine x22 (oLS h) ?_
 try clear h
 intro ds st1 h1 h
 refine x22 (oFS h) ?_
 try clear h
 intro ps body h2 h
 refine x13 (I _ h2) ?_
 intro fI hm nst1 FO
 obtain ⟨ob, hob, hcl⟩ := nst1
 refine x12 (oEn h) ?_
 try clear h
 intro ρ0 h3 h
 refine x22 (exN h) ?_
 try clear h
 intro ρ1 st3 h4 h
 refine ouK h ?_
 refine x11 C.obj ?_
 intro N X
 refine call_name H' c2 (by decide) C.glb ?_
 induction es using List.casesOn with
 | nil => exact absurd rfl ne
 | cons e0 es =>
  have st0 : notStar e0 = true := by
   induction args using List.casesOn with
   | nil => exact nb c3
   | cons x xs => exact (both (both c3).1).1
  have hpl : (backTo pos (starEach es env)).any (·.1) = false := by
   induction args using List.casesOn with
   | nil => exact nb c3
   | cons x xs => exact noStars (both c3).2
  refine callWith_cls X (wpAny_mono (evL_ok IH h1 c3 H') (fun vs s1 pp => x12 pp fun al1 S1 r1 => ⟨S1.sto.old, ?_⟩) fun j j q => q) (starEach_cons st0) hpl
  refine cls_atK C S1.sto.old ?_
  intro nm q N' bs sn sub col dd k0 k1 k2 k3 k5 newId g1 g2 g3
  have hget : (freshInst s1.heap Val.cls).get? (s1.heap.objs.size + 1) = some { cls := .ref Val.cls, dict := some s1.heap.objs.size, data := .plain } := by unfold freshInst; heap_get
  have hgd : (freshInst s1.heap Val.cls).get? s1.heap.objs.size = some { cls := .type "dict", data := .dict #[] } := Heap.get?_push_of_some _ (Heap.get?_push_at rfl rfl)
  have hsz : (freshInst s1.heap Val.cls).objs.size = s1.heap.objs.size + 2 := by unfold freshInst; rw [Heap.size_push, Heap.size_push]
  have kk : ∀ b o, s1.heap.get? b = some o → (freshInst s1.heap Val.cls).get? b = some o := fun b o e => Heap.get?_push_of_some _ (Heap.get?_push_of_some _ e)
  have hns : (freshInst s1.heap Val.cls).Ns1 s1.heap.objs.size (attrFrom 0 []) := Heap.Ns1.of_empty ⟨_, #[], _, hgd, rfl, fun e he => absurd he (by simp), fun j => rfl⟩
  have S2 := (Stp.newM (htk := Nat.le_refl _) (hp := freshInst s1.heap Val.cls) (a := s1.heap.objs.size) (tk := s1.toks) (mo := .attrs []) S1.sto (Nat.le_refl _) (by rw [hsz]; exact Nat.lt_succ_of_lt (Nat.lt_succ_self _)) (by rw [hsz]; exact Nat.le_add_right _ _) kk ⟨[], hns, .nil⟩).1
  have rs : RD (al1 ++ [s1.heap.objs.size]) fr (freshInst s1.heap Val.cls) (.ref (s1.heap.objs.size + 1)) (.self st1.n) := by
   refine .self _ s1.heap.objs.size st1.n (fun q => ?_) (fun q => ?_) ⟨_, hget, rfl, fun c => by simp, rfl, Nat.ne_of_lt (Nat.lt_succ_self _)⟩ (by rw [← S1.sto.len]; exact List.getElem?_concat_length)
   · rcases List.mem_append.mp q with q | q
     · exact absurd (S1.sto.new _ (.inl q)).2 (Nat.not_lt.mpr (Nat.le_succ _))
     · exact Nat.succ_ne_self _ (List.mem_singleton.mp q)
   · exact absurd (S1.sto.new _ (.inr q)).2 (Nat.not_lt.mpr (Nat.le_succ _))
  have S12 := S1.trans S2
  have run := fn_ok (A := A.under (.builtin "type.__call__" ⟨.ref Val.cls :: vs, []⟩)) (s := { s1 with heap := freshInst s1.heap Val.cls, toks := s1.toks }) TO.nms.nm TO.toBis XX FO H.hd (Nat.le_trans H.tk S1.rest.tk) (by have := H.dp; show A.depth + 1 + 1 + 2 * n + 20 + Val.room < _; lia) (by have := H.un; rw [under_units]; lia) S2.sto (.cons rs (r1.step S2)) h3 h4 (.inr ⟨rfl, rfl⟩)
  have run2 : wpAny (model prog w) (A.under (.builtin "type.__call__" ⟨.ref Val.cls :: vs, []⟩)) (call (.ref fI) (.ref (s1.heap.objs.size + 1) :: vs)) (fun r s' => r = .none ∧ PostE prog w hT al fr st st3 s (.self st1.n) (.ref (s1.heap.objs.size + 1)) s') FF { s1 with heap := freshInst s1.heap Val.cls, toks := s1.toks } := by
   refine wpAny_mono run (fun r s3 pp => x12 pp fun al3 S3 r3 => ?_) fun j j q => q
   have r3 : r = _ := r3.to
   subst r3
   exact ⟨rfl, al3, S12.trans S3, rs.step S3⟩
  exact make_inst g2 g1 g3 hm (S1.sto.old _ _ hob) hcl run2
theorem search_node (TO : TopOk prog w G T hT) {ev : Ev} {ex : Ex} (IH : EvOk prog w G hT n ev) (H : Here prog w G.v G.c hT n A env sc al fr ow ρ st s) {x : X} {id name : Str} {p apos pos : Pos} {e1 : Expr} {d : D} {f : Nat}
  (h : evStep T ev ex ρ st (.search x) = some (d, st')) (c1 : id = ("ESCAPED_CHAR_RE" : Str)) (c2 : isGl sc id = true) (c3 : name = ("search" : Str)) (c4 : (apos.endLine == pos.line) = true) (c5 : notStar e1 = true) (c6 : cE G f sc x e1 = true) :
  wpAny (model prog w) A (eval (.Call (.Attribute (.Name id p) name apos) [e1] [] pos) env) (PostE prog w hT al fr st st' s d) FF s := by
 subst c1 c3
 refine x22 (oSx h) ?_
 try clear h
 intro xs st1 h1 h
 refine x22 (oNN h) ?_
 try clear h
 intro b e h2 h
 refine ouK h ?_
 refine x02 (TO.fnd _ _ _ h2) ?_
 intro f1 f2
 refine x73 TO.re ?_
 intro pa ct pat g1 g3 g4 n5 gl ho hc
 refine wpAny_Call_method1_late (notCall_base notCall_name) c4 (by rw [starEach_cons c5]; rfl) (glob_ok H c2 (by decide) gl ?_)
 have ho0 := H.sto.old _ _ ho
 refine ⟨"re.Pattern", "re.Pattern.search", plainAttrs_pattern, slot_search, type_search, ⟨_, ho0, rfl⟩, fun a q => by cases q; exact (m12 _ ho0 rfl), ?_⟩
 refine Calls.callWith_builtin rfl (evalArgs_plain (spliced_cons (wpAny_mono (IH h1 c6 H) (fun v s1 pp => x12 pp fun al1 S1 r1 => spliced_nil ?_) fun j j q => q)))
 refine x11 r1.to ?_
 intro t eq1
 subst eq1
 have ho1 := S1.sto.old _ _ ho
 have hc1 := S1.sto.old _ _ hc
 refine call_meets slot_search ⟨_, ho1, rfl⟩ entry_search (args_search _ _) (meets_search pa ct xs t pat g1 g3 g4 n5 b e f1 (by exact Int.ofNat_lt.mpr (Nat.lt_of_lt_of_le ‹_› (by decide)))) ⟨⟨ho1, hc1⟩, fun x2 x3 x4 => ?_⟩
 have S2 := Stp.push (htk := Nat.le_refl _) (prog := prog) (w := w) (o := { cls := .type "tuple", data := .seq #[rawInt b, rawInt e, rawInt (b + 1 : Nat), rawInt e] }) (tk := s1.toks) S1.sto
 have S3 := Stp.push (htk := by first | exact Nat.le_refl _ | lia | omega) (prog := prog) (w := w) (o := { cls := .type "re.Match", data := .fields #[.str ⟨xs.toArray⟩ t, .ref pa, x2, x3, x4, .ref s1.heap.objs.size] }) (tk := s1.toks) S2.sto
 refine ⟨al1, (S1.trans S2).trans S3, .mtch (s1.heap.objs.size + 1) s1.heap.objs.size xs b e ?_ ?_ ?_ ?_ ⟨t, .ref pa, x2, x3, x4, ?_, ?_⟩⟩
 · exact (S1.sto.fresh (Nat.le_succ _)).1
 · exact (S1.sto.fresh (Nat.le_succ _)).2
 · exact (S1.sto.fresh (Nat.le_refl _)).1
 · exact (S1.sto.fresh (Nat.le_refl _)).2
 · have := Heap.get?_push_size (s1.heap.push { cls := .type "tuple", data := .seq #[rawInt b, rawInt e, rawInt (b + 1 : Nat), rawInt e] }) (o := { cls := .type "re.Match", data := .fields #[.str ⟨xs.toArray⟩ t, .ref pa, x2, x3, x4, .ref s1.heap.objs.size] }) rfl
   rw [Heap.size_push] at this
   exact this
 · exact Heap.get?_push_of_some _ (Heap.get?_push_size _ rfl)
theorem mstr_node {ev : Ev} {ex : Ex} (IH : EvOk prog w G hT n ev) (H : Here prog w G.v G.c hT n A env sc al fr ow ρ st s) {x : X} {name : Str} {p : Pos} {oe : Expr} {d : D} {f : Nat}
  (h : evStep T ev ex ρ st (.mstr x) = some (d, st')) (c1 : name = ("string" : Str)) (c2 : isName oe = true) (c3 : cE G f sc x oe = true) :
  wpAny (model prog w) A (eval (.Attribute oe name p) env) (PostE prog w hT al fr st st' s d) FF s := by
 subst c1
 refine x21 (isName_inv c2) ?_
 intro oid opos eq2
 subst eq2
 refine x42 (oMx h) ?_
 try clear h
 intro xs b e st1 h1 h
 refine ouK h ?_
 refine Attribute_Name_ (wpAny_mono (IH h1 c3 H) (fun v s1 pp => x12 pp fun al1 S1 r1 => ?_) fun j j q => q)
 refine x26 r1.to ?_
 intro a tp eq2 n1 n2 m1 m2 hm
 subst eq2
 refine x52 hm ?_
 clear hm
 intro t pat x2 x3 x4 e1 e2
 have S2 := Stp.tok (htk := Nat.le_succ _) (tk := s1.toks + 1) S1.sto
 exact attr_string e1 rfl ⟨al1, S1.trans S2, .str _ _⟩
theorem span_node {ev : Ev} {ex : Ex} (IH : EvOk prog w G hT n ev) (H : Here prog w G.v G.c hT n A env sc al fr ow ρ st s) {x : X} {name : Str} {apos pos p : Pos} {k : Nat} {oe : Expr} {j : Int} {d : D} {f : Nat}
  (h : evStep T ev ex ρ st (.span0 x) = some (d, st')) (c1 : name = ("span" : Str)) (c2 : isName oe = true) (c3 : (apos.endLine == pos.line) = true) (c4 : eqInt 0 j = true) (c5 : cE G f sc x oe = true) :
  wpAny (model prog w) A (eval (.Call (.Attribute oe name apos) [.Constant (.int j) k p] [] pos) env) (PostE prog w hT al fr st st' s d) FF s := by
 subst c1
 have c4 := (eqInt_iff _ _).mp c4
 subst c4
 refine x42 (oMx h) ?_
 try clear h
 intro xs b e st1 h1 h
 refine ouK h ?_
 refine wpAny_Call_method1_late (notCall_base (by obtain ⟨_, _, rfl⟩ := isName_inv c2; exact notCall_name)) c3 rfl (wpAny_mono (IH h1 c5 H) (fun v s1 pp => x12 pp fun al1 S1 r1 => ?_) fun y y q => q)
 refine x26 r1.to ?_
 intro a tp eq2 n1 n2 m1 m2 hm
 subst eq2
 refine x52 hm ?_
 clear hm
 intro t pat x2 x3 x4 e1 e2
 refine ⟨"re.Match", "re.Match.span", plainAttrs_match, slot_span, type_span, ⟨_, e1, rfl⟩, fun a q => by injection q with q; subst q; exact (m12 _ e1 rfl), ?_⟩
 refine Calls.callWith_builtin rfl (evalArgs_plain (spliced_cons (wpAny_Constant_int (spliced_nil ?_))))
 refine call_meets slot_span ⟨_, e1, rfl⟩ entry_span (args_span _ _) (meets_span a tp xs b e t pat x2 x3 x4 s1.toks) ⟨⟨e1, e2⟩, ?_⟩
 have S2 := Stp.tok (htk := Nat.le_succ _) (tk := s1.toks + 1) S1.sto
 have S3 := Stp.push (prog := prog) (w := w) (o := { cls := .type "tuple", data := .seq #[.int b (s1.toks + 1), .int e (s1.toks + 1 + 1)] }) (tk := s1.toks + 1 + 1 + 1) S2.sto (by show s1.toks + 1 ≤ s1.toks + 1 + 1 + 1; exact Nat.le_succ_of_le (Nat.le_succ _))
 refine ⟨al1, (S1.trans S2).trans S3, .tup _ [_, _] [.int b, .int e] (S1.sto.fresh (Nat.le_refl _)).1 (S1.sto.fresh (Nat.le_refl _)).2 ⟨_, Heap.get?_push_size _ rfl, rfl, _, rfl⟩ (.cons (.int _ _) (.cons (.int _ _) .nil))⟩
theorem group_node {ev : Ev} {ex : Ex} (IH : EvOk prog w G hT n ev) (H : Here prog w G.v G.c hT n A env sc al fr ow ρ st s) {x : X} {name : Str} {apos pos p : Pos} {k : Nat} {oe : Expr} {j : Int} {d : D} {f : Nat}
  (h : evStep T ev ex ρ st (.group1 x) = some (d, st')) (c1 : name = ("group" : Str)) (c2 : isName oe = true) (c3 : (apos.endLine == pos.line) = true) (c4 : eqInt 1 j = true) (c5 : cE G f sc x oe = true) :
  wpAny (model prog w) A (eval (.Call (.Attribute oe name apos) [.Constant (.int j) k p] [] pos) env) (PostE prog w hT al fr st st' s d) FF s := by
 subst c1
 have c4 := (eqInt_iff _ _).mp c4
 subst c4
 refine x42 (oMx h) ?_
 try clear h
 intro xs b e st1 h1 h
 refine x02 (ifI h) ?_
 try clear h
 intro hfit h
 refine ouK h ?_
 refine wpAny_Call_method1_late (notCall_base (by obtain ⟨_, _, rfl⟩ := isName_inv c2; exact notCall_name)) c3 rfl (wpAny_mono (IH h1 c5 H) (fun v s1 pp => x12 pp fun al1 S1 r1 => ?_) fun y y q => q)
 refine x26 r1.to ?_
 intro a tp eq2 n1 n2 m1 m2 hm
 subst eq2
 refine x52 hm ?_
 clear hm
 intro t pat x2 x3 x4 e1 e2
 refine ⟨"re.Match", "re.Match.group", plainAttrs_match, slot_group, type_group, ⟨_, e1, rfl⟩, fun a q => by injection q with q; subst q; exact (m12 _ e1 rfl), ?_⟩
 refine Calls.callWith_builtin rfl (evalArgs_plain (spliced_cons (wpAny_Constant_int (spliced_nil ?_))))
 refine call_meets slot_group ⟨_, e1, rfl⟩ entry_group (args_group _ _) (meets_group a tp xs b e t pat x2 x3 x4 s1.toks (fits_le hfit)) ⟨⟨e1, e2⟩, ?_⟩
 have S2 := Stp.tok (htk := by first | exact Nat.le_refl _ | lia | omega) (tk := s1.toks + 1 + 1) S1.sto
 have := RD.str (al := al1) (fr := fr) (h := s1.heap) (xs.toArray.extract (b + 1) e).toList (s1.toks + 1)
 exact ⟨al1, S1.trans S2, by simpa using this⟩
end
end Mine
end
noncomputable section
set_option tactic.hygienic true
open PySem PySem.W PyProof.Rows PySem.Spec PySem.Calls
namespace Mine
variable [Val]
section
variable {prog : Program} {w : World} {G : Nms} {T : Tab} {hT : Heap} {n : Nat} {A : Around} {env : Env} {sc sc2 : Scope} {al al' al'' fr fr' N ow ow' : List Addr} {ρ ρ' : Env'} {st st' st'' : St} {s s₁ s₂ s₃ s' s'' : Shared} {h h' : Heap} {I Dd : Addr} {own : List Nat}
@[elab_as_elim] theorem ou3K {α β γ : Type} {a a' : α} {b b' : β} {c c' : γ} {P : α → β → γ → Prop} (h : some (a, b, c) = some (a', b', c')) (k : P a b c) : P a' b' c' := by
 have e := ou3 h
 exact e.1 ▸ e.2.1 ▸ e.2.2 ▸ k
theorem fnCall_node {ev : Ev} (IH : EvOk prog w G hT n ev) (H : Here prog w G.v G.c hT n A env sc al fr ow ρ st s) {a : Addr} {o : Obj} {fd : FuncData} {args : List X} {id : Str} {p pos : Pos} {es : List Expr} {ds : List D} {d : D} {st1 : St} {f : Nat}
  (g : Glb hT id (.ref a)) (ho : hT.get? a = some o) (hfd : o.data = .func fd) (h1 : evL ev ρ st args = some (ds, st1)) (c1 : isGl sc id = true) (c2 : notDebug id = true) (c3 : cL (cE G f sc) args es = true)
  (k : ∀ al1 s1 vs, Stp prog w hT fr [] al al1 st st1 s s1 → RDs al1 fr s1.heap vs ds → wpAny (model prog w) A (call (.ref a) vs) (PostE prog w hT al1 fr st1 st' s1 d) FF s1) :
  wpAny (model prog w) A (eval (.Call (.Name id p) es [] pos) env) (PostE prog w hT al fr st st' s d) FF s := by
 refine call_name H c1 (notDebug_iff c2) g (Calls.callWith_function (o := o) (fd := fd) (first := []) (evalArgs_of c3 (wpAny_mono (evL_ok IH h1 c3 H) (fun vs s1 pp => x12 pp fun al1 S1 r1 => ⟨⟨S1.sto.old a o ho, hfd⟩, ?_⟩) fun j j q => q)))
 exact wpAny_mono (k al1 s1 vs S1 r1) (fun v s2 p => p.after S1) fun j j q => q
theorem co_step (TO : TopOk prog w G T hT) {ev : Ev} {ex : Ex} (IH : EvOk prog w G hT n ev) (J : TsOk prog w G hT n ev) : CoOk prog w G hT (n + 1) (evStep T ev ex) := by
 intro A env sc al fr ow ρ st s x e d st' f h hc c H
 have H' := H.less (n' := n) (Nat.le_succ n)
 induction f using Nat.casesOn with
 | zero => exact nb c
 | succ f =>
  replace c : cEs G (cE G f) (cT G f) sc x e = true := c
  refine ⟨n, ?_⟩
  induction x using Mine.X.casesOn with
  | lcomp m elt t it ifs own =>
   refine vLC_e c fun ee gs sc2 pos c => ?_
   refine v1_e c fun g c => ?_
   refine vGen_e c fun te ie ifes c => ?_
   refine b7 c ?_
   clear c
   intro c1 c2 c3 c4 c5 c6 c7
   exact lcomp_node TO.nms TO.toBis IH J H' h c1 c2 c3 c4 c5 c6 c7
  | lcomp2 m elt t it t2 it2 ifs own =>
   refine vLC_e c fun ee gs sc2 pos c => ?_
   refine v2_e c fun g1 g2 c => ?_
   refine vGen_e c fun te ie ifs1 c => ?_
   replace c := both c
   refine x02 c ?_
   clear c
   intro c0 c
   replace c0 := v0_inv c0
   subst c0
   refine vGen_e c fun te2 ie2 ifes c => ?_
   refine b11 c ?_
   clear c
   intro c1 c2 c3 c4 c5 c6 c7 c8 c9 c10 c11
   exact lcomp2_node TO.nms TO.toBis IH J H' h c1 c2 c4 c6 c7 c9 c3 c5 c8 c10 c11
  | dcomp k v t it own =>
   refine vDC_e c fun ke ve gs sc2 pos c => ?_
   refine v1_e c fun g c => ?_
   refine vGen_e c fun te ie ifs1 c => ?_
   replace c := both c
   refine x02 c ?_
   clear c
   intro c0 c
   replace c0 := v0_inv c0
   subst c0
   refine b7 c ?_
   clear c
   intro c1 c2 c3 c4 c5 c6 c7
   exact dcomp_node TO.nms TO.toBis IH J H' h c1 c2 c3 c4 c5 c6 c7
  | _ => exact nb hc
theorem comp_eval {n : Nat} {d : D} {e : Expr} (R : CompRuns prog w G hT n A env sc al fr ow ρ st st' s d e) : wpAny (model prog w) A (eval e env) (PostE prog w hT al fr st st' s d) FF s := by
 refine x43 R ?_
 clear R
 intro sc2 pos newAcc first e1 _ run
 rw [e1]
 exact run none _ fun v s' p => p
theorem ev_step (TO : TopOk prog w G T hT) {ev : Ev} {ex : Ex} (IH : EvOk prog w G hT n ev) (J : TsOk prog w G hT n ev) (X : ExOk prog w G hT n ex) : EvOk prog w G hT (n + 1) (evStep T ev ex) := by
 intro A env sc al fr ow ρ st s x e d st' f h c H
 have H' := H.less (n' := n) (Nat.le_succ n)
 have B := TO.toBis
 have comps : isComp x = true → wpAny (model prog w) A (eval e env) (PostE prog w hT al fr st st' s d) FF s := fun hc => by
  refine x11 (co_step (ex := ex) TO IH J h hc c H) ?_
  intro n' R
  exact comp_eval R
 induction f using Nat.casesOn with
 | zero => exact nb c
 | succ f =>
  have c0 := c
  replace c : cEs G (cE G f) (cT G f) sc x e = true := c
  induction x using Mine.X.casesOn with
  | lcomp => exact comps rfl
  | lcomp2 => exact comps rfl
  | dcomp => exact comps rfl
  | tupSum a b => exact tup_ok TO.toBis TO.codeEq IH h c0 H
  | kint i =>
   refine vInt_e c fun j k p c => ?_
   refine ouK h ?_
   have := (eqInt_iff _ _).mp c
   subst this
   exact wpAny_Constant_int (.tok (htk := Nat.le_succ _) H.sto (.int _ _))
  | kstr x =>
   refine vStr_e c fun t k p c => ?_
   refine ouK h ?_
   have := (eqL_iff _ _).mp c
   subst this
   exact Constant_str (.tok (htk := by first | exact Nat.le_refl _ | lia | omega) H.sto (.str _ _))
  | kbool b =>
   refine vBool_e c fun t k p c => ?_
   refine ouK h ?_
   have := beq_iff_eq.mp c
   subst this
   exact Constant_bool (.now H.sto (.bool _))
  | knone =>
   refine vNone_e c fun k p => ?_
   refine ouK h ?_
   exact Constant_none (.now H.sto .none)
  | var i =>
   refine x12 (vrName_iff c) ?_
   intro p eq1 k
   subst eq1
   replace h : (match lk i ρ with | some (some d) => some (d, st) | _ => none) = some (d, st') := h
   cases q : lk i ρ with
   | none => rw [q] at h; exact no h
   | some o =>
    rw [q] at h
    induction o using Option.casesOn with
    | none => exact no h
    | some d' =>
     refine ouK h ?_
     exact var_ok TO.nms.nm H q k
  | bin o m a b =>
   refine vBin_e c fun l op r p c => ?_
   refine b3 c ?_
   clear c
   intro c1 c2 c3
   exact bin_node IH H' h c1 c2 c3
  | cmp a o b =>
   refine vCmp_e c fun l os rs p c => ?_
   refine v1_e c fun op c => ?_
   refine v1_e c fun r c => ?_
   refine b4 c ?_
   clear c
   intro c1 c2 c3 c4
   refine wpAny_mono (cmp_node TO.orc B.sysm IH H' h c1 c2 c3 c4) (fun v s1 p => ?_) fun u u q => q
   obtain ⟨b, rfl, rfl, al1, S1⟩ := p
   exact ⟨al1, S1, .bool b⟩
  | cmp2 => exact nb c
  | and_ => exact nb c
  | ite cc a b =>
   refine vIf_e c fun t y z p c => ?_
   refine b3 c ?_
   clear c
   intro c1 c2 c3
   replace h : (match ev ρ st cc with
    | some (.bool true, st) => ev ρ st a
    | some (.bool false, st) => ev ρ st b
    | _ => none) = some (d, st') := h
   split at h
   · rename_i st1 h1
     refine wpAny_IfExp (wpAny_mono (J h1 c1 H') (fun t s1 p => ?_) fun u u q => q)
     obtain ⟨rfl, al1, S1⟩ := p
     rw [if_pos rfl]
     exact wpAny_mono (IH h c2 (H'.step S1)) (fun v s2 p => p.after S1) fun u u q => q
   · rename_i st1 h1
     refine wpAny_IfExp (wpAny_mono (J h1 c1 H') (fun t s1 p => ?_) fun u u q => q)
     obtain ⟨rfl, al1, S1⟩ := p
     rw [if_neg Bool.false_ne_true]
     exact wpAny_mono (IH h c3 (H'.step S1)) (fun v s2 p => p.after S1) fun u u q => q
   · exact no h
  | fn k args =>
   refine vCN_e c fun id q es p c => ?_
   refine b4 c ?_
   clear c
   intro c1 c2 c3 c4
   have c1 := beq_str c1
   subst c1
   refine x22 (oLS h) ?_
   try clear h
   intro ds st1 h1 h
   refine x22 (oFS h) ?_
   try clear h
   intro ps body h2 h
   refine x12 (TO.fn k _ h2) ?_
   intro a ga FO
   refine x22 FO.got ?_
   intro o fd ho hfd
   refine x12 (oEn h) ?_
   try clear h
   intro ρ0 h3 h
   refine x22 (exI h) ?_
   intro ρ1 fl h4 hfl
   refine fnCall_node IH H' ga ho hfd h1 c2 c3 c4 fun al1 s1 vs S1 r1 => ?_
   exact fn_ok TO.nms.nm B X FO H.hd (Nat.le_trans H.tk S1.rest.tk) H.d1 H.u1 S1.sto r1 h3 h4 hfl
  | sm k args =>
   refine vCN_e c fun id q es p c => ?_
   refine b4 c ?_
   clear c
   intro c1 c2 c3 c4
   have c1 := beq_str c1
   subst c1
   refine x22 (oLS h) ?_
   try clear h
   intro ds st1 h1 h
   refine x12 (oDa h) ?_
   try clear h
   intro d' h2 h
   refine x35 (TO.sm k _ _ h2) ?_
   intro a o fd ga ho hfd run1 run2
   replace h : (match T.tabs k with
    | true => match atKey 1 1 st1 with
     | true => match setM st1 1 some with | some st => some (d', st) | none => none
     | false => none
    | false => some (d', st1)) = some (d, st') := h
   cases ht : T.tabs k with
   | true =>
    rw [ht] at h
    refine x02 (ifI h) ?_
    try clear h
    intro hk h
    refine x12 (oSt h) ?_
    try clear h
    intro st2 h3 h
    refine ouK h ?_
    refine fnCall_node IH H' ga ho hfd h1 c2 c3 c4 fun al1 s1 vs S1 r1 => ?_
    exact run2 ht A al1 fr _ _ s1 vs H.hd (Nat.le_trans H.tk S1.rest.tk) H.d2 H.u2 S1.sto r1 hk h3
   | false =>
    rw [ht] at h
    refine ouK h ?_
    refine fnCall_node IH H' ga ho hfd h1 c2 c3 c4 fun al1 s1 vs S1 r1 => ?_
    exact run1 ht A al1 fr _ s1 vs H.hd (Nat.le_trans H.tk S1.rest.tk) H.d0 H.u0 S1.sto r1
  | bi b args =>
   refine vCN_e c fun id q es p c => ?_
   refine b3 c ?_
   clear c
   intro c1 c2 c3
   exact bi_node B IH H' h (beq_str c1) c2 c3
  | meth o m args =>
   refine vCA_e c fun oe name apos es p c => ?_
   refine b6 c ?_
   clear c
   intro c1 c2 c3 c4 c5 c6
   exact meth_node IH H' h (beq_str c1) c2 c3 (Nat.le_of_ble_eq_true c4) c5 c6
  | idx o i =>
   refine vSub_e c fun oe ie p c => ?_
   refine b3 c ?_
   clear c
   intro c1 c2 c3
   exact idx_node IH H' h c1 c2 c3
  | slcTo o hi =>
   refine vSub_e c fun oe ie p c => ?_
   refine vSlice_e c fun x1 x2 x3 p2 c => ?_
   replace c := both c
   refine x02 c ?_
   clear c
   intro nn c
   refine x02 (both nn) ?_
   intro n1 n2
   replace n1 := vNo_inv n1
   replace n2 := vNo_inv n2
   subst n1 n2
   refine vSo_e c fun he c => ?_
   refine b3 c ?_
   clear c
   intro c1 c2 c3
   exact slc_node IH H' h c1 c2 c3
  | list m xs =>
   refine vList_e c fun es p c => ?_
   exact list_node IH H' h c
  | tup xs =>
   refine vTup_e c fun es k p c => ?_
   exact tup_node IH H' h c
  | attr o i =>
   refine vAttr_e c fun oe name p c => ?_
   refine b4 c ?_
   clear c
   intro c1 c2 c3 c4
   exact attr_node TO IH H' h (beq_str c1) (Nat.le_of_ble_eq_true c2) c3 c4
  | clsAttr i =>
   refine vAttr_e c fun oe name p c => ?_
   refine vName_e c fun id p2 c => ?_
   refine b3 c ?_
   clear c
   intro c1 c2 c3
   exact clsAttr_node TO H' h (beq_str c1) c2 (beq_str c3)
  | mcall o k args =>
   refine vCA_e c fun oe name apos es p c => ?_
   refine b6 c ?_
   clear c
   intro c1 c2 c3 c4 c5 c6
   exact mcall_node TO IH X H h (beq_str c1) c2 c3 (Nat.le_of_ble_eq_true c4) c5 c6
  | msm o k args =>
   refine vCA_e c fun oe name apos es p c => ?_
   refine b6 c ?_
   clear c
   intro c1 c2 c3 c4 c5 c6
   exact msm_node TO IH H h (beq_str c1) c2 c3 (Nat.le_of_ble_eq_true c4) c5 c6
  | new args =>
   refine vCN_e c fun id q es p c => ?_
   refine b4 c ?_
   clear c
   intro c1 c2 c3 c4
   exact new_node TO IH X H h (beq_str c1) c2 c4 (fun q => by rw [q] at c3; exact nb c3)
  | mac k i =>
   refine x02 (both c) ?_
   intro c1 c2
   have ci := Nat.eq_of_beq_eq_true c1
   replace h : (match lk i ρ with
    | some (some d) => match T.macs k d with | some d => some (d, st) | none => none
    | _ => none) = some (d, st') := h
   cases h1 : lk i ρ with
   | none => rw [h1] at h; exact no h
   | some o =>
    rw [h1] at h
    induction o using Option.casesOn with
    | none => exact no h
    | some d0 =>
     refine x12 (oDa h) ?_
     try clear h
     intro d' h2 h
     refine ouK h ?_
     exact TO.mac k d0 _ h2 c2 H (ci ▸ h1)
  | search x =>
   refine vCA_e c fun oe name apos es p c => ?_
   refine vName_e c fun id p2 c => ?_
   refine v1_e c fun e1 c => ?_
   refine b6 c ?_
   clear c
   intro c1 c2 c3 c4 c5 c6
   exact search_node TO IH H' h (beq_str c1) c2 (beq_str c3) c4 c5 c6
  | span0 x =>
   refine vCA_e c fun oe name apos es p c => ?_
   refine v1_e c fun e1 c => ?_
   refine vInt_e c fun j k p2 c => ?_
   refine b5 c ?_
   clear c
   intro c1 c2 c3 c4 c5
   exact span_node IH H' h (beq_str c1) c2 c3 c4 c5
  | group1 x =>
   refine vCA_e c fun oe name apos es p c => ?_
   refine v1_e c fun e1 c => ?_
   refine vInt_e c fun j k p2 c => ?_
   refine b5 c ?_
   clear c
   intro c1 c2 c3 c4 c5
   exact group_node IH H' h (beq_str c1) c2 c3 c4 c5
  | mstr x =>
   refine vAttr_e c fun oe name p c => ?_
   refine b3 c ?_
   clear c
   intro c1 c2 c3
   exact mstr_node IH H' h (beq_str c1) c2 c3
  | strTo o hi =>
   refine vSub_e c fun oe ie p c => ?_
   refine vSlice_e c fun x1 x2 x3 p2 c => ?_
   replace c := both c
   refine x02 c ?_
   clear c
   intro nn c
   refine x02 (both nn) ?_
   intro n1 n2
   replace n1 := vNo_inv n1
   replace n2 := vNo_inv n2
   subst n1 n2
   refine vSo_e c fun he c => ?_
   refine x02 (both c) ?_
   intro c1 c2
   exact strTo_node IH H' h c1 c2
  | strFrom o lo =>
   refine vSub_e c fun oe ie p c => ?_
   refine vSlice_e c fun x1 x2 x3 p2 c => ?_
   replace c := both c
   refine x02 c ?_
   clear c
   intro nn c
   refine x02 (both nn) ?_
   intro n1 n2
   replace n1 := vNo_inv n1
   replace n2 := vNo_inv n2
   subst n1 n2
   refine vSo_e c fun le c => ?_
   refine x02 (both c) ?_
   intro c1 c2
   exact strFrom_node IH H' h c1 c2
  | isOrEq => exact nb c
  | dict0 =>
   refine vDict_e c fun ks vs p c => ?_
   refine x02 (both c) ?_
   intro c1 c2
   replace c1 := v0_inv c1
   replace c2 := v0_inv c2
   subst c1 c2
   refine x02 (ou h) ?_
   intro h1 h2
   rw [← h1, ← h2]
   exact dict0_node H.sto
theorem PostX.seq {st1 : St} {al1 : List Addr} {fl : Fl} {f : Flow} (S1 : Stp prog w hT fr ow al al1 st st1 s s₁) (p : PostX prog w G hT env sc al1 fr ow st1 st' ρ' s₁ fl f s') : PostX prog w G hT env sc al fr ow st st' ρ' s fl f s' := by
 refine x13 p ?_
 clear p
 intro al2 S2 E2 p
 exact ⟨al2, S1.trans S2, E2, p⟩
theorem ex1_ok (TO : TopOk prog w G T hT) {ev : Ev} {ex : Ex} (IH : EvOk prog w G hT n ev) (J : TsOk prog w G hT n ev) (C : CoOk prog w G hT n ev) (X : ExOk prog w G hT n ex) (H : Here prog w G.v G.c hT n A env sc al fr ow ρ st s) (hsc : env.scope = sc) {y : Y} {stmt : Stmt} {fl : Fl} {f : Nat}
  (h : ex1 ev ex ρ st y = some (fl, ρ', st')) (c : cY G f sc y stmt = true) : wpAny (model prog w) A (exec stmt env) (PostX prog w G hT env sc al fr ow st st' ρ' s fl) FF s := by
 have B := TO.toBis
 induction f using Nat.casesOn with
 | zero => exact nb c
 | succ f =>
  replace c : cYs G (cE G f) (cT G f) (cB G f) sc y stmt = true := c
  induction y using Y.casesOn with
  | asg t e =>
   refine wAsg_e c fun tes ex' pos c => ?_
   refine v1_e c fun te c => ?_
   refine x02 (both c) ?_
   intro c1 c2
   refine x22 (oDS h) ?_
   try clear h
   intro d st1 h1 h
   induction t using TG.casesOn with
   | var i =>
    refine x02 (both c2) ?_
    try clear c2
    intro c2 c3
    replace h : some (Fl.next, put i (some d) ρ, st1) = some (fl, ρ', st') := h
    refine ou3K h ?_
    exact asgN_ok TO.nms.nm IH C H hsc h1 c1 c2 c3
   | tup is =>
    refine x02 (both c2) ?_
    try clear c2
    intro c2 c3
    refine x32 (vTup_e (P := fun e' => ∃ es n p, e' = .Tuple es n p ∧ (tgNames G sc is es && (match pureOf (swappedStores [te] ex' (envOf sc)) with | some none => true | some (some names) => names == is.map G.v && nodupB is | none => false)) = true) c3 fun es n p c => ⟨es, n, p, rfl, c⟩) fun es k p eq3 c0 => ?_
    subst eq3
    replace c3 := c0
    refine x02 (both c3) ?_
    try clear c3
    intro c3 c4
    induction d using D.casesOn with
    | tup ds =>
     refine x12 (oEn h) ?_
     try clear h
     intro ρ1 h2 h
     refine ou3K h ?_
     exact asgT_ok TO.nms.nm IH H hsc h1 h2 c1 c3 c2 c4
    | _ => exact no h
   | sub o i =>
    refine b3 c2 ?_
    clear c2
    intro c2 c3 c4
    revert c2 c3
    refine vSub_e c4 fun oe ie p c4 c2 c3 => ?_
    refine b3 c4 ?_
    clear c4
    intro c4 c5 c6
    refine x22 (oDS h) ?_
    try clear h
    intro dO st2 h2 h
    refine x22 (oDS h) ?_
    try clear h
    intro di st3 h3 h
    refine x02 (ifI h) ?_
    try clear h
    intro h4 h
    refine x12 (oSt h) ?_
    try clear h
    intro st4 h5 h
    refine ou3K h ?_
    exact asgS_ok B IH H hsc h1 h2 h3 h4 h5 c1 c4 c5 c6 c2 c3
  | augSub o i e =>
   refine wAug_e c fun te op ex' pos c => ?_
   replace c := both c
   refine x02 c ?_
   clear c
   intro co c
   replace co : op = .Add := bopIs_eq co
   subst co
   refine vSub_e c fun oe ie p c => ?_
   refine b4 c ?_
   clear c
   intro c1 c2 c3 c4
   refine x22 (oDS h) ?_
   try clear h
   intro dO st1 h1 h
   refine x22 (oDS h) ?_
   try clear h
   intro di st2 h2 h
   refine x02 (ifI h) ?_
   try clear h
   intro h3 h
   refine x12 (oDa h) ?_
   try clear h
   intro old h4 h
   refine x22 (oDS h) ?_
   try clear h
   intro dd st3 h5 h
   induction old using D.casesOn with
   | int a => induction dd using D.casesOn with
    | int b =>
     refine x12 (oSt h) ?_
     try clear h
     intro st4 h6 h
     refine ou3K h ?_
     exact augS_ok B IH H h1 h2 h3 h4 h5 h6 c1 c2 c3 c4
    | _ => exact no h
   | _ => exact no h
  | asgAttr o i e =>
   refine wAsg_e c fun tes ex' pos c => ?_
   refine v1_e c fun te c => ?_
   refine vAttr_e c fun oe name apos c => ?_
   refine b6 c ?_
   clear c
   intro c1 c2 c3 c4 c5 c6
   refine x22 (oDS h) ?_
   try clear h
   intro d st1 h1 h
   refine x22 (oSf h) ?_
   try clear h
   intro k st2 h2 h
   refine x12 (oSt h) ?_
   try clear h
   intro st3 h3 h
   refine ou3K h ?_
   exact asgAttr_ok TO IH H hsc h1 h2 h3 (beq_str c1) (Nat.le_of_ble_eq_true c2) c4 c5 c6
  | asg2 o1 i1 o2 i2 e =>
   refine wAsg_e c fun tes ex' pos c => ?_
   replace c := both c
   refine x02 c ?_
   clear c
   intro nn c
   refine x02 (both nn) ?_
   intro c8 c9
   revert c8 c9
   refine v1_e c fun te c => ?_
   refine vTup_e c fun ts k p c => ?_
   refine v2_e c fun s1 s2 c => ?_
   refine vSub_e c fun oe1 ie1 p1 c => ?_
   refine vSub_e c fun oe2 ie2 p2 c c8 c9 => ?_
   refine b7 c ?_
   clear c
   intro c1 c2 c3 c4 c5 c6 c7
   replace h := o2S h
   refine x32 h ?_
   clear h
   intro d1 d2 t1 h0 h
   refine x22 (oDS h) ?_
   try clear h
   intro a1 t2 h1 h
   refine x22 (oDS h) ?_
   try clear h
   intro b1 t3 h2 h
   refine x02 (ifI h) ?_
   try clear h
   intro h3 h
   refine x12 (oSt h) ?_
   try clear h
   intro t4 h4 h
   refine x22 (oDS h) ?_
   try clear h
   intro a2 t5 h5 h
   refine x22 (oDS h) ?_
   try clear h
   intro b2 t6 h6 h
   refine x02 (ifI h) ?_
   try clear h
   intro h7 h
   refine x12 (oSt h) ?_
   try clear h
   intro t7 h8 h
   refine ou3K h ?_
   exact asg2_ok B IH H hsc h0 h1 h2 h3 h4 h5 h6 h7 h8 c1 c2 c3 c4 c5 c6 c7 c8 c9
  | asgMany is e =>
   refine wAsg_e c fun tes ex' pos c => ?_
   refine b4 c ?_
   clear c
   intro c1 c2 c3 c4
   refine x22 (oDS h) ?_
   try clear h
   intro d st1 h1 h
   refine ou3K h ?_
   exact asgMany_ok TO.nms.nm IH H hsc h1 c1 c2 c3 c4
  | augVar i e =>
   refine wAug_e c fun te op ex' pos c => ?_
   replace c := both c
   refine x02 c ?_
   clear c
   intro co c
   replace co : op = .Add := bopIs_eq co
   subst co
   refine x02 (both c) ?_
   intro c1 c2
   replace h : (match lk i ρ with
    | some (some (.str a)) => match ev ρ st e with
     | some (.str b, st) => match fits (a.length + b.length) with
      | true => some (Fl.next, put i (some (.str (a ++ b))) ρ, st)
      | false => none
     | _ => none
    | _ => none) = some (fl, ρ', st') := h
   split at h
   · rename_i a h0
     split at h
     · rename_i b st1 h1
       refine x02 (ifI h) ?_
       try clear h
       intro h2 h
       refine ou3K h ?_
       exact augVar_ok TO.nms.nm IH H h0 h1 h2 c1 c2
     · exact no h
   · exact no h
  | forE i j x body orelse =>
   refine wFor_e c fun te ie bs os pos c => ?_
   refine vCN_e c fun id q es p c => ?_
   refine v1_e c fun e1 c => ?_
   refine b7 c ?_
   clear c
   intro d1 d2 d3 d4 c2 c3 c4
   replace h := oLi h
   refine x22 h ?_
   clear h
   intro xs st1 h1 h
   exact forES_ok TO.nms.nm B IH X H hsc h1 h (beq_str d1) d2 d3 d4 c2 c3 c4
  | expr e =>
   refine wExpr_e c fun ex' pos c => ?_
   refine x02 (both c) ?_
   intro c1 c2
   replace h := oNo h
   refine x12 h ?_
   clear h
   intro st1 h1 h
   refine ou3K h ?_
   exact exprS_ok IH H hsc h1 c1 c2
  | ret e =>
   refine wRet_e c fun v pos c => ?_
   refine vSo_e c fun ex' c => ?_
   refine x22 (oDS h) ?_
   try clear h
   intro d st1 h1 h
   refine ou3K h ?_
   refine wpAny_Return_some (wpAny_mono (IH h1 c H) (fun v s1 pp => x12 pp fun al1 S1 r1 => ?_) fun z z q => q)
   exact ⟨al1, S1.wide (fun a ha => nomatch ha), H.env.step H.sto S1, v, rfl, r1⟩
  | if_ cc a b =>
   refine wIf_e c fun t xs ys pos c => ?_
   refine b3 c ?_
   clear c
   intro c1 c2 c3
   replace h : (match ev ρ st cc with
    | some (.bool true, st) => ex ρ st a
    | some (.bool false, st) => ex ρ st b
    | _ => none) = some (fl, ρ', st') := h
   split at h
   · rename_i st1 h1
     refine wpAny_If (wpAny_mono (J h1 c1 H) (fun t s1 p => ?_) fun z z q => q)
     obtain ⟨rfl, al1, S1⟩ := p
     rw [if_pos rfl]
     exact wpAny_mono (X h c2 hsc (H.step S1)) (fun v s2 p => PostX.seq (S1.wide fun a ha => nomatch ha) p) fun z z q => q
   · rename_i st1 h1
     refine wpAny_If (wpAny_mono (J h1 c1 H) (fun t s1 p => ?_) fun z z q => q)
     obtain ⟨rfl, al1, S1⟩ := p
     rw [if_neg Bool.false_ne_true]
     exact wpAny_mono (X h c3 hsc (H.step S1)) (fun v s2 p => PostX.seq (S1.wide fun a ha => nomatch ha) p) fun z z q => q
   · exact no h
  | for_ t it body orelse =>
   refine wFor_e c fun te ie bs os pos c => ?_
   refine b6 c ?_
   clear c
   intro c1 c2 c3 c4 c5 c6
   replace h := oSr h
   refine x22 h ?_
   clear h
   intro src st1 h1 h
   exact forS_ok TO.nms.nm B IH X H hsc h1 h c1 c2 c3 c4 c5 c6
  | brk =>
   refine wBrk_e c fun p c => ?_
   refine ou3K h ?_
   exact Break_ ⟨al, Stp.refl H.sto, H.env, rfl⟩
omit [Val] in
theorem exL_next {ev : Ev} {ex : Ex} {y : Y} {r : List Y} (h : ex1 ev ex ρ st y = some (.next, ρ', st')) : exL ev ex ρ st (y :: r) = exL ev ex ρ' st' r := by
 show (match ex1 ev ex ρ st y with
  | some (.next, ρ, st) => exL ev ex ρ st r
  | r => r) = _
 rw [h]
omit [Val] in
theorem exL_inv {ev : Ev} {ex : Ex} {y : Y} {r : List Y} {fl : Fl} (h : exL ev ex ρ st (y :: r) = some (fl, ρ', st')) {P : Prop} (k : ∀ fl1 ρ1 st1, ex1 ev ex ρ st y = some (fl1, ρ1, st1) → (fl1 = .next → exL ev ex ρ1 st1 r = some (fl, ρ', st')) → (fl1 ≠ .next → fl1 = fl ∧ ρ1 = ρ' ∧ st1 = st') → P) : P := by
 replace h : (match ex1 ev ex ρ st y with
  | some (.next, ρ, st) => exL ev ex ρ st r
  | r => r) = some (fl, ρ', st') := h
 generalize ex1 ev ex ρ st y = o at h k
 induction o using Option.casesOn with
 | none => exact no h
 | some p => induction p using Prod.casesOn with
  | mk fl1 p => induction p using Prod.casesOn with
   | mk ρ1 st1 => induction fl1 using Fl.casesOn with
    | next => exact k _ _ _ rfl (fun e => h) fun e => absurd rfl e
    | _ => exact k _ _ _ rfl (fun e => nomatch e) fun e => ou3 h
theorem ex_step (TO : TopOk prog w G T hT) {ev : Ev} {ex : Ex} (IH : EvOk prog w G hT n ev) (J : TsOk prog w G hT n ev) (C : CoOk prog w G hT n ev) (X : ExOk prog w G hT n ex) : ExOk prog w G hT (n + 1) (exL ev ex) := by
 intro A env sc al fr ow ρ st s ys ss fl ρ' st' f h c hsc H
 replace H := H.less (n' := n) (Nat.le_succ n)
 induction f using Nat.casesOn with
 | zero => exact nb c
 | succ f =>
  revert ρ st s ss al f
  induction ys using List.rec with
  | nil =>
   intro al ρ st s ss h H f c
   induction ss using List.casesOn with
   | cons => exact nb c
   | nil =>
    refine x03 (ou3 h) fun a b e => ?_
    subst a b e
    exact wpAny_execs_nil ⟨al, Stp.refl H.sto, H.env, rfl⟩
  | cons y ys ih =>
   intro al ρ st s ss h H f c
   induction ss using List.casesOn with
   | nil => exact nb c
   | cons stmt ss =>
    replace c := both c
    refine exL_inv h fun fl1 ρ1 st1 h1 hn hb => ?_
    clear h
    refine wpAny_execs_cons (wpAny_mono (ex1_ok TO IH J C X H hsc h1 c.1) (fun f1 s1 p => x13 p fun al1 S1 E1 q => ?_) fun j j q => q)
    clear p h1
    induction fl1 using Fl.casesOn with
    | next =>
     subst q
     induction f using Nat.casesOn with
     | zero => exact nb c.2
     | succ f => exact wpAny_mono (ih (hn rfl) (H.turn S1 E1) _ c.2) (fun v s2 p => PostX.seq S1 p) fun j j q => q
    | brk =>
     subst q
     refine x03 (hb nofun) fun a b e => ?_
     subst a b e
     exact ⟨al1, S1, E1, rfl⟩
    | ret d =>
     refine x03 (hb nofun) fun a b e => x12 q fun v e2 r => ?_
     subst a b e e2
     exact ⟨al1, S1, E1, v, rfl, r⟩
theorem run_ok (TO : TopOk prog w G T hT) : ∀ n, EvOk prog w G hT n (run T n).1 ∧ TsOk prog w G hT n (run T n).1 ∧ CoOk prog w G hT n (run T n).1 ∧ ExOk prog w G hT n (run T n).2
 | 0 => by
  refine (m04 ?_ ?_ ?_ ?_)
  · intro A env sc al fr ow ρ st s x e d st' f h; contradiction
  · intro A env sc al fr ow ρ st s x e b st' f h; contradiction
  · intro A env sc al fr ow ρ st s x e d st' f h; contradiction
  · intro A env sc al fr ow ρ st s ys ss fl ρ' st' f h; contradiction
 | n + 1 => by
  refine x04 (run_ok TO n) ?_
  intro I J C X
  have I' : EvOk prog w G hT (n + 1) (evStep T (run T n).1 (run T n).2) := ev_step TO I J X
  exact (m04 I' (ts_step TO.nms.nm TO.stat TO.sysm T TO.orc I J I') (co_step TO I J) (ex_step TO I J C X))
end
end Mine
end
noncomputable section
open PySem PySem.W PyProof.Rows PySem.Spec PySem.Calls
namespace Mine
noncomputable def nameTab : List String := ["a", "b", "target", "source", "cc", "nc", "tt", "ct", "callers", "t_cc", "t_nc", "t_tt", "t_ct", "t_callers", "new_callers", "func", "caller", "rows", "turn", "row", "place", "one", "k", "witnesses", "sizes", "size", "column", "level", "other", "most", "lead", "sign", "leads", "number", "script", "walked", "run", "pairs", "told", "due", "near", "kin", "signs", "total", "counts", "order", "ahead", "elder", "before", "kept", "sums", "shares", "companies", "c", "self", "ws", "S", "T", "count", "n", "nt", "ch", "trailing", "il", "i", "tabsize", "ts", "match", "start", "end", "found", "text", "j", "cells", "w", "firsts", "prefix", "tup", "lines", "plain"]
noncomputable def fnNameTab : List String := ["ne", "eq", "mul", "contains", "indexOf", "add_func_stats", "add_callers", "_law_rows", "_law_words", "_law_witnesses", "_law_column", "unmatched", "_law_read", "_law_lead", "uppercase_escaped_char", "_law_cells"]
noncomputable def smNameTab : List String := ["_law_read", "_law_cells", "_law_lead", "format_witnesses", "_law_witnesses", "_law_words", "_law_rows"]
noncomputable def meNameTab : List String := ["longest_run_of_spaces", "indent_level", "not_less_witness"]
noncomputable def nthS : List String → Nat → Option String
 | [], _ => none
 | s :: _, 0 => some s
 | _ :: r, n + 1 => nthS r n
noncomputable def nmV (i : Nat) : Str := match nthS nameTab i with | some s => Str.ofString s | none => ⟨#[0, i]⟩
noncomputable def nmF (i : Nat) : Str := match nthS fnNameTab i with | some s => Str.ofString s | none => ⟨#[0, i]⟩
noncomputable def nmS (i : Nat) : Str := match nthS smNameTab i with | some s => Str.ofString s | none => ⟨#[0, i]⟩
noncomputable def nmM (i : Nat) : Str := match nthS meNameTab i with | some s => Str.ofString s | none => ⟨#[0, i]⟩
noncomputable def iniT : List Nat × List Y := ([54, 55], [.asgAttr (.var 54) 0 (.var 55), .asg (.tup [56, 57]) (.tup [.clsAttr 0, .clsAttr 1]), .asg (.var 58) (.list true []), .asgMany [1, 59, 60] (.kint 0),
 .for_ (.var 61) (.val (.attr (.var 54) 0)) [.if_ (.cmp (.var 61) .eq (.var 56)) [.asg (.var 59) (.bin .add false (.var 59) (.kint 1)), .asg (.var 1) (.bin .add false (.var 1) (.kint 1))]
  [.if_ (.cmp (.var 61) .eq (.var 57)) [.asg (.var 59) (.bin .add false (.var 59) (.kint 1)), .asg (.var 60) (.bin .add false (.var 60) (.kint 1)),
   .if_ (.cmp (.var 1) .ge (.bi .len [.var 58])) [.asg (.var 58) (.bin .add true (.var 58) (.bin .mul false (.list false [.kint 0]) (.bin .add false (.bin .sub false (.var 1) (.bi .len [.var 58])) (.kint 1))))] [],
   .asg (.sub (.var 58) (.var 1)) (.bin .add false (.idx (.var 58) (.var 1)) (.kint 1)), .asg (.var 1) (.kint 0)] [.brk]]] false,
 .asgAttr (.var 54) 1 (.var 59), .asgAttr (.var 54) 2 (.var 60), .asgAttr (.var 54) 3 (.tup [.bi .tuple [.var 58], .var 1]), .asgAttr (.var 54) 4 (.cmp (.bi .len [.var 58]) .le (.kint 1))])
noncomputable def longT : List Nat × List Y := ([54], [.asg (.tup [58, 62]) (.attr (.var 54) 3), .ret (.bi .max [.bin .sub false (.bi .len [.var 58]) (.kint 1), .var 62])])
noncomputable def indT : List Nat × List Y := ([54, 65], [.asg (.tup [58, 62]) (.attr (.var 54) 3), .asg (.var 63) (.kint 0),
 .for_ (.var 64) (.rng (some (.var 65)) (.bi .len [.var 58])) [.asg (.var 63) (.bin .add false (.var 63) (.bin .mul false (.bin .fdiv false (.var 64) (.var 65)) (.idx (.var 58) (.var 64))))] false,
 .ret (.bin .add false (.var 62) (.bin .mul false (.var 65) (.bin .add false (.var 63) (.attr (.var 54) 2))))])
noncomputable def nlwT : List Nat × List Y := ([54, 28], [.asg (.var 59) (.bin .add false (.bi .max [.msm (.var 54) 0 [], .msm (.var 28) 0 []]) (.kint 1)), .asg (.var 0) (.list true []),
 .for_ (.var 66) (.rng (some (.kint 1)) (.bin .add false (.var 59) (.kint 1))) [.if_ (.cmp (.msm (.var 54) 1 [.var 66]) .ge (.msm (.var 28) 1 [.var 66])) [.expr (.meth (.var 0) .append [.tup [.var 66, .msm (.var 54) 1 [.var 66], .msm (.var 28) 1 [.var 66]]])] []] false,
 .ret (.var 0)])
noncomputable def unmT : List Nat × List Y := ([67], [.asg (.tup [68, 69]) (.span0 (.var 67)), .ret (.bin .add false (.strTo (.mstr (.var 67)) (.var 68)) (.strFrom (.mstr (.var 67)) (.var 69)))])
noncomputable def readT : List Nat × List Y := ([71], [.asg (.var 19) (.list true []),
 .for_ (.var 18) (.rng none (.kint 4)) [.asg (.var 70) (.search (.var 71)), .expr (.meth (.var 19) .append [.mac 2 70]), .asg (.var 71) (.fn 11 [.var 70])] false,
 .ret (.bin .add false (.var 19) (.list false [.var 71]))])
noncomputable def leadT : List Nat × List Y := ([33], [.asg (.var 30) (.bin .add false (.bin .mul false (.kstr [32]) (.bin .mod false (.var 33) (.kint 4))) (.kstr [9])),
 .if_ (.cmp (.bin .mod false (.bin .fdiv false (.var 33) (.kint 4)) (.kint 5)) .lt (.kint 4)) [.augVar 30 (.bin .add false (.bin .mul false (.kstr [32]) (.bin .mod false (.bin .fdiv false (.var 33) (.kint 4)) (.kint 5))) (.kstr [9]))] [],
 .ret (.bin .add false (.var 30) (.bin .mul false (.kstr [32]) (.bin .mod false (.bin .fdiv false (.var 33) (.kint 20)) (.kint 4))))])
noncomputable def idxT : List Nat × List Y := ([0, 1], [.forE 64 72 (.var 0) [.if_ (.isOrEq 72 1) [.ret (.var 64)] []] true])
noncomputable def cellT : List Nat × List Y := ([34], [.asg (.var 73) (.list true [.kint 217, .kint 82, .kint 185, .kint 336]),
 .forE 20 33 (.var 34) [.augSub (.var 73) (.bin .mod false (.var 20) (.kint 4)) (.var 33)] false, .ret (.var 73)])
noncomputable def mac0X : X := .new [.bin .add false (.var 30) (.kstr [120, 32, 9])]
noncomputable def mac1X : X := .bin .add false (.list false [(.bi .max [(.lcomp false (.bi .len [(.var 36)]) (.var 36) (.val (.meth (.var 30) .split [(.kstr [9])])) [] [36])])]) (.lcomp false (.fn 10 [(.var 30), (.var 25)]) (.var 25) (.rng (some (.kint 1)) (.kint 5)) [] [25])
noncomputable def escTab : List (List Nat) := [[37, 67, 65], [37, 67, 66], [37, 68, 67], [37, 68, 68], [37, 67, 65], [37, 67, 66], [37, 68, 67], [37, 68, 68]]
noncomputable def vC {α : Type} (k : α → List α → Bool) : List α → Bool
 | [] => false
 | a :: r => k a r
@[elab_as_elim] theorem vC_e {α : Type} {k : α → List α → Bool} {l : List α} {P : List α → Prop} (h : vC k l = true) (q : ∀ a r, k a r = true → P (a :: r)) : P l := by
 induction l using List.casesOn with
 | nil => exact nb h
 | cons a r => exact q a r h
noncomputable def escIs : List (List Nat) → List Expr → Bool
 | [], [] => true
 | x :: xs, e :: es => vStr (fun t => eqL x t.cps.toList) e && escIs xs es
 | _, _ => false
noncomputable def mac2C (sc : Scope) : Expr → Bool := vCN fun id as => v2 (fun el e2 => vList (fun es => vCN (fun id2 as2 => v1 (vName fun id3 =>
  id == nmF 4 && isGl sc id && notDebug id && escIs escTab es && id2 == nmF 14 && isGl sc id2 && notDebug id2 && id3 == nmV 70 && isVarK (sc.names.lookup id3)) as2) e2) el) as
noncomputable def noMac : Nat → (Scope → Expr → Bool) × Nat
 | 2 => (mac2C, 70)
 | _ => (fun j j => false, 0)
noncomputable def G0 (sa : Scope) (code : Addr) : Nms := ⟨nmV, nmF, nmS, nmM, noMac, sa, code⟩
noncomputable def macG (G : Nms) : Nat → (Scope → Expr → Bool) × Nat
 | 0 => (fun sc e => cE G 30 sc mac0X e, 30)
 | 1 => (fun sc e => cE G 30 sc mac1X e, 30)
 | k => noMac k
noncomputable def GG (sa : Scope) (code : Addr) : Nms := ⟨nmV, nmF, nmS, nmM, macG (G0 sa code), sa, code⟩
noncomputable def law0' : Y := .asg (.var 32) (.lcomp false (.sm 2 [.var 33]) (.var 33) (.val (.sm 1 [.var 34])) [] [33])
noncomputable def law1' : Y := .asg (.var 78) (.lcomp false (.mac 0 30) (.var 30) (.val (.var 32)) [] [30])
noncomputable def law2' : Y := .asg (.var 35) (.lcomp false (.mac 1 30) (.var 30) (.val (.var 32)) [] [30])
noncomputable def nm4 (a b : Nat) : X := .bin .add false (.bin .mul false (.kint 4) (.var a)) (.var b)
noncomputable def law5' : Y := .for_ (.tup [21, 28]) (.val (.var 37)) [.asg (.tup [23, 79]) (.tup [.msm (.idx (.var 78) (.var 21)) 2 [.idx (.var 78) (.var 28)], .sm 4 [.idx (.var 35) (.var 21), .idx (.var 35) (.var 28)]]),
 .asg2 (.var 38) (nm4 21 28) (.var 39) (nm4 21 28) (.tup [.sm 3 [.var 23], .sm 5 [.var 79]]), .if_ (.cmp (.var 23) .ne (.var 79)) [.ret (.kbool false)] []] false
noncomputable def frontY : List Y := [law0', law1', law2', law3, law4, law5', law6]
end Mine
end
noncomputable section
open PySem PySem.W PyProof.Rows PySem.Spec PySem.Calls
namespace Mine
variable [Val]
noncomputable def plainParams (p : Arguments) (names : List Str) : Bool :=
 p.posonlyargs.isEmpty && (p.args.map (·.arg)) == names && p.vararg.isNone && p.kwonlyargs.isEmpty && p.kw_defaults.isEmpty && p.kwarg.isNone && p.defaults.isEmpty
noncomputable def fdW (n q : Str) (b : FuncBody) (sc : Scope) (g : Addr) (cl : List (Str × Addr)) (d m c t : Value) (an : Option Addr) (bi : Addr) (l : List Arg) : FuncData := ⟨n, q, ⟨[], l, none, [], [], none, []⟩, b, sc, g, cl, .none, .none, d, m, an, c, t, bi⟩
noncomputable def lkW (l : List Arg) (vs : List Value) (n : Str) : Option Value := List.lookup n ((l.map (·.arg)).zip vs)
inductive Len2 : List Arg → List Value → Prop
 | nil : Len2 [] []
 | one (a v) : Len2 [a] [v]
 | two (a b v u) : Len2 [a, b] [v, u]
omit [Val] in
theorem len2 {l : List Arg} {vs : List Value} (h : vs.length = l.length) (k : l.length ≤ 2) : Len2 l vs := by
 induction l using List.casesOn with
 | nil => induction vs using List.casesOn with
  | nil => exact .nil
  | cons _ _ => exact absurd h (by exact Nat.succ_ne_zero _)
 | cons a l => induction vs using List.casesOn with
  | nil => exact absurd h (by contradiction)
  | cons v vs => induction l using List.casesOn with
   | nil => induction vs using List.casesOn with
    | nil => exact .one a v
    | cons _ _ => exact absurd h (by simp)
   | cons b l => induction vs using List.casesOn with
    | nil => exact absurd h (by simp)
    | cons u vs => induction l using List.casesOn with
     | nil => induction vs using List.casesOn with
      | nil => exact .two a b v u
      | cons _ _ => exact absurd h (by simp)
     | cons _ _ => exact absurd k (by simp)
omit [Val] in
theorem bindW {n q : Str} {b : FuncBody} {sc : Scope} {g : Addr} {cl : List (Str × Addr)} {d m c t : Value} {an : Option Addr} {bi : Addr} {l : List Arg} {vs : List Value} {r : List (Str × Value)}
  (h : ((l.map (·.arg)).filter fun n => (lkW l vs n).isNone) = []) (h2 : ((l.map (·.arg)).filterMap fun n => (lkW l vs n).map (n, ·)) = r)
  (hl : Len2 l vs) :
  bindArgs (fdW n q b sc g cl d m c t an bi l) ⟨vs, []⟩ = pure r := by
 have h1 : ∀ {α : Sort 1} (A B : α), (@ite α ((!((l.map (·.arg)).filter fun n => (lkW l vs n).isNone).isEmpty) = true) (instDecidableEqBool _ _) A B) = B := fun A B => by
  rw [if_neg]; rw [h]; decide
 refine Eq.trans ?_ (congrArg (fun l => (pure l : Sem (List (Str × Value)))) h2)
 clear h2
 cases hl with
 | nil => rfl
 | one => exact h1 _ _
 | two => exact h1 _ _
omit [Val] in
theorem bindE {fd : FuncData} (h1 : fd.params.posonlyargs = []) (h2 : fd.params.vararg = none) (h3 : fd.params.kwonlyargs = []) (h4 : fd.params.kw_defaults = []) (h5 : fd.params.kwarg = none) (h6 : fd.params.defaults = []) (hd : fd.defaults = .none) (hk : fd.kwdefaults = .none)
  {P : FuncData → Prop} (k : ∀ n q b sc g cl d m c t an bi, P (fdW n q b sc g cl d m c t an bi fd.params.args)) : P fd := by
 have e : ∀ p : Arguments, p.posonlyargs = [] → p.vararg = none → p.kwonlyargs = [] → p.kw_defaults = [] → p.kwarg = none → p.defaults = [] → p = ⟨[], p.args, none, [], [], none, []⟩ := by
  intro p
  induction p using Arguments.casesOn
  rintro ⟨⟩ ⟨⟩ ⟨⟩ ⟨⟩ ⟨⟩ ⟨⟩
  rfl
 have e := e fd.params h1 h2 h3 h4 h5 h6
 have k := k fd.name fd.qualname fd.body fd.scope fd.globals fd.closure fd.doc fd.pyModule fd.code fd.closureTuple fd.annotations fd.builtins
 have q : ∀ {x y : Arguments} {a b c d : Value}, x = y → a = b → c = d → P { fd with params := y, defaults := b, kwdefaults := d } → P { fd with params := x, defaults := a, kwdefaults := c } := by
  rintro _ _ _ _ _ _ rfl rfl rfl h
  exact h
 exact q e hd hk k
theorem bind_ok {fd : FuncData} {names : List Str} (h : plainParams fd.params names = true) (hd : fd.defaults = .none) (hk : fd.kwdefaults = .none) (nd : names.length ≤ 2) (hne : ∀ x y, names = [x, y] → (x == y) = false ∧ (y == x) = false) {vals : List Value} (hl : vals.length = names.length) :
  bindArgs fd ⟨vals, []⟩ = pure (names.zip vals) := by
 unfold plainParams at h
 refine b7 h fun g1 h2 g3 g4 g5 g6 g7 => ?_
 replace h2 := beq_iff_eq.mp h2
 refine bindE (P := fun fd => bindArgs fd ⟨vals, []⟩ = pure (names.zip vals)) (List.isEmpty_iff.mp g1) (Option.isNone_iff_eq_none.mp g3) (List.isEmpty_iff.mp g4) (List.isEmpty_iff.mp g5) (Option.isNone_iff_eq_none.mp g6) (List.isEmpty_iff.mp g7) hd hk fun n q b sc g cl d m c t an bi => ?_
 clear h g1 g3 g4 g5 g6 g7 hd hk
 subst h2
 generalize fd.params.args = l at *
 rw [List.length_map] at nd hl
 have L := len2 hl nd
 clear hl nd
 cases L with
 | nil => exact bindW rfl rfl .nil
 | one a v =>
  have e : lkW [a] [v] a.arg = some v := List.lookup_cons_self
  exact bindW (congrArg (fun o : Option Value => List.filter (fun u => o.isNone) [a.arg]) e) (List.filterMap_cons_some (congrArg (Option.map (a.arg, ·)) e)) (.one a v)
 | two a b v u =>
  have e1 : lkW [a, b] [v, u] a.arg = some v := List.lookup_cons_self
  have e2 : lkW [a, b] [v, u] b.arg = some u := by
   show (match b.arg == a.arg with | true => some v | false => List.lookup b.arg [(b.arg, u)]) = some u
   rw [(hne _ _ rfl).2]
   exact List.lookup_cons_self
  have g1 : (fun n => (lkW [a, b] [v, u] n).map (n, ·)) a.arg = some (a.arg, v) := congrArg (Option.map (a.arg, ·)) e1
  have g2 : (fun n => (lkW [a, b] [v, u] n).map (n, ·)) b.arg = some (b.arg, u) := congrArg (Option.map (b.arg, ·)) e2
  refine bindW ?_ ((List.filterMap_cons_some (f := fun n => (lkW [a, b] [v, u] n).map (n, ·)) g1).trans (congrArg (List.cons _) (List.filterMap_cons_some (f := fun n => (lkW [a, b] [v, u] n).map (n, ·)) g2))) (.two a b v u)
  exact congr (congrArg (fun (o p : Option Value) => cond o.isNone (a.arg :: cond p.isNone [b.arg] []) (cond p.isNone [b.arg] [])) e1) e2
noncomputable def apart2 (l : List Str) : Bool := @List.casesOn Str (fun u => Bool) l true fun x l => @List.casesOn Str (fun u => Bool) l true fun y l => @List.casesOn Str (fun u => Bool) l (!(x == y) && !(y == x)) fun u w => false
omit [Val] in
theorem apart2_len {l : List Str} (h : apart2 l = true) : l.length ≤ 2 := by
 induction l using List.casesOn with
 | nil => exact Nat.zero_le _
 | cons a l => induction l using List.casesOn with
  | nil => exact Nat.le_succ 1
  | cons b l => induction l using List.casesOn with
   | nil => exact Nat.le_refl 2
   | cons c l => exact nb h
omit [Val] in
theorem apart2_two {x y : Str} (h : apart2 [x, y] = true) : (x == y) = false ∧ (y == x) = false := ⟨nf (both h).1, nf (both h).2⟩
end Mine
end
noncomputable section
open PySem PySem.W PyProof.Rows PySem.Spec PySem.Calls
namespace Mine
variable [Val]
theorem nthS_none : ∀ {l : List String} {i : Nat}, l.length ≤ i → nthS l i = none
 | [], _, _ => rfl
 | _ :: r, 0, h => by simp at h
 | _ :: r, i + 1, h => by simp only [nthS]; exact nthS_none (by simpa using h)
theorem nmV_big {i : Nat} (h : 80 ≤ i) : nmV i = ⟨#[0, i]⟩ := by
 unfold nmV
 rw [nthS_none (show nameTab.length ≤ i from h)]
noncomputable def firstOk (i : Nat) : Bool := match (nmV i).cps[0]? with
 | some 0 => false
 | some _ => true
 | none => false
noncomputable def tabOk : Bool := (List.range 80).all fun i => firstOk i && !(nmV i == ("__debug__" : Str)) && !(nmV i == ("__classdict__" : Str)) && !(nmV i == (".0" : Str)) && (List.range 80).all fun j => Nat.beq i j || !(nmV i == nmV j)
theorem tab_ok : tabOk = true := by decide +kernel
theorem big_ne {i : Nat} {s : Str} (h : s.cps.size ≠ 2) : ((⟨#[0, i]⟩ : Str) == s) = false := by
 cases q : ((⟨#[0, i]⟩ : Str) == s) with
 | false => rfl
 | true =>
  have := beq_iff_eq.mp q
  rw [← this] at h
  exact absurd rfl h
theorem names_ok : Names nmV := by
 have key : ∀ i, i < 80 → (firstOk i = true ∧ (nmV i == ("__debug__" : Str)) = false ∧ (nmV i == ("__classdict__" : Str)) = false ∧ (nmV i == (".0" : Str)) = false) ∧ ∀ j, j < 80 → nmV i = nmV j → i = j := fun i hi => by
  have := tab_ok
  unfold tabOk at this
  rw [List.all_eq_true] at this
  have := this i (List.mem_range.mpr hi)
  simp only [Bool.and_eq_true, Bool.not_eq_true', List.all_eq_true] at this
  obtain ⟨⟨⟨⟨h1, h2⟩, h3⟩, h4⟩, h5⟩ := this
  refine ⟨(m04 h1 h2 h3 h4), fun j hj e => ?_⟩
  have := h5 j (List.mem_range.mpr hj)
  rw [e, beq_self_eq_true] at this
  simp at this
  exact this
 have fst : ∀ i, i < 80 → ∀ j, 80 ≤ j → nmV i ≠ nmV j := fun i hi j hj e => by
  have h := (key i hi).1.1
  unfold firstOk at h
  rw [e, nmV_big hj] at h
  simp at h
 refine ⟨fun i j e => ?_, fun i => ?_, fun i => ?_, fun i => ?_⟩
 · rcases Nat.lt_or_ge i 80 with hi | hi <;> rcases Nat.lt_or_ge j 80 with hj | hj
   · exact (key i hi).2 j hj e
   · exact absurd e (fst i hi j hj)
   · exact absurd e.symm (fst j hj i hi)
   · rw [nmV_big hi, nmV_big hj] at e
     simpa using e
 · rcases Nat.lt_or_ge i 80 with hi | hi
   · exact (key i hi).1.2.1
   · rw [nmV_big hi]; exact big_ne (by decide)
 · rcases Nat.lt_or_ge i 80 with hi | hi
   · exact (key i hi).1.2.2.1
   · rw [nmV_big hi]; exact big_ne (by decide)
 · rcases Nat.lt_or_ge i 80 with hi | hi
   · exact (key i hi).1.2.2.2
   · rw [nmV_big hi]
     cases q : ((⟨#[0, i]⟩ : Str) == (".0" : Str)) with
     | false => rfl
     | true =>
      have := beq_iff_eq.mp q
      have := congrArg (·.cps[0]?) this
      simp at this
      revert this
      decide
end Mine
end
noncomputable section
open PySem
namespace Mine
theorem refl_none (st : St) : ∀ f, 4 ≤ f → eqD st f .none .none = some true
 | _ + 1, _ => rfl
noncomputable abbrev V0 : Val := { cls := 0, dat := fun j => .none, txt := fun j => [], tok := fun j => 0, opq := fun j => .none, opqH := fun j => rfl, room := 0, code := fun j => 0, refl := fun j st f j h => refl_none st f h }
noncomputable def clL (rec : D → Option D) : List D → Option (List D)
 | [] => some []
 | x :: xs => match rec x with
  | some y => match clL rec xs with | some ys => some (y :: ys) | none => none
  | none => none
noncomputable def cl (dat : Nat → D) : Nat → D → Option D
 | 0, _ => none
 | f + 1, d => match d with
  | .none => some .none
  | .bool b => some (.bool b)
  | .int i => some (.int i)
  | .str s => some (.str s)
  | .word b => some (.word b)
  | .num m r => some (.num m r)
  | .list xs => match clL (cl dat f) xs with | some ys => some (.list ys) | none => none
  | .tup xs => match clL (cl dat f) xs with | some ys => some (.tup ys) | none => none
  | .inst xs => match clL (cl dat f) xs with | some ys => some (.inst ys) | none => none
  | .mtch s b e => some (.mtch s b e)
  | .sym k => cl dat f (dat k)
  | _ => none
noncomputable def unob (st : St) (d : D) : Option D := match d with
 | .ob k => match lk k st.mu with | some (_, .list xs) => some (.list xs) | _ => none
 | .self k => match lk k st.mu with | some (_, .attrs xs) => some (.inst xs) | _ => none
 | d => some d
noncomputable def sameGo (rec : D → D → Bool) : List D → List D → Bool
 | [], [] => true
 | x :: xs, y :: ys => match rec x y with | true => sameGo rec xs ys | false => false
 | _, _ => false
noncomputable def sameD : Nat → D → D → Bool
 | 0, _, _ => false
 | f + 1, a, b => match a, b with
  | .none, .none => true
  | .bool true, .bool true => true
  | .bool false, .bool false => true
  | .int i, .int j => eqInt i j
  | .str s, .str t => eqL s t
  | .list xs, .list ys => sameGo (sameD f) xs ys
  | .tup xs, .tup ys => sameGo (sameD f) xs ys
  | .inst xs, .inst ys => sameGo (sameD f) xs ys
  | .sym j, .sym k => Nat.beq j k
  | _, _ => false
noncomputable def okX (T : Tab) (n : Nat) (ρ : Env') (x : X) (d : D) : Bool := oB ((run T n).1 ρ ⟨0, []⟩ x) fun p => oB (unob p.2 p.1) fun e => sameD 20 e d
noncomputable def retO (fl : Fl) : Option D := @Fl.rec (fun u => Option D) none none some fl
theorem retO_inv {fl : Fl} {d : D} (h : retO fl = some d) : fl = .ret d := by
 induction fl using Fl.casesOn with
 | ret e => rw [so h]
 | _ => exact no h
noncomputable def okF (T : Tab) (n : Nat) (p : List Nat × List Y) (ds : List D) (d : D) : Bool := oB (bindL p.1 ds []) fun ρ0 => oB ((run T n).2 ρ0 ⟨0, []⟩ p.2) fun q => oB (retO q.1) fun dd => oB (unob q.2.2 dd) fun e => sameD 20 e d
theorem sameGo_eq {rec : D → D → Bool} (h : ∀ a b, rec a b = true → a = b) : ∀ {xs ys : List D}, sameGo rec xs ys = true → xs = ys
 | [], [], _ => rfl
 | x :: xs, y :: ys, e => by
  replace e : (match rec x y with | true => sameGo rec xs ys | false => false) = true := e
  cases q : rec x y with
  | true => rw [q] at e; rw [h _ _ q, sameGo_eq h e]
  | false => rw [q] at e; exact nb e
 | [], _ :: _, e => nb e
 | _ :: _, [], e => nb e
theorem sameD_eq : ∀ {f : Nat} {a b : D}, sameD f a b = true → a = b
 | 0, _, _, e => nb e
 | f + 1, a, b, e => by
  have IH : ∀ a b, sameD f a b = true → a = b := fun a b e => sameD_eq e
  induction a using D.casesOn with
  | none => induction b using D.casesOn with
   | none => rfl
   | _ => exact nb e
  | bool x => induction b using D.casesOn with
   | bool y => induction x using Bool.casesOn <;> induction y using Bool.casesOn <;> first | rfl | exact nb e
   | _ => induction x using Bool.casesOn <;> exact nb e
  | int x => induction b using D.casesOn with
   | int y => rw [(@eqInt_iff V0 _ _).mp e]
   | _ => exact nb e
  | str x => induction b using D.casesOn with
   | str y => rw [(@eqL_iff V0 _ _).mp e]
   | _ => exact nb e
  | list x => induction b using D.casesOn with
   | list y => rw [sameGo_eq IH e]
   | _ => exact nb e
  | tup x => induction b using D.casesOn with
   | tup y => rw [sameGo_eq IH e]
   | _ => exact nb e
  | inst x => induction b using D.casesOn with
   | inst y => rw [sameGo_eq IH e]
   | _ => exact nb e
  | sym x => induction b using D.casesOn with
   | sym y => rw [Nat.eq_of_beq_eq_true e]
   | _ => exact nb e
  | _ => exact nb e
theorem okX_inv {T : Tab} {n : Nat} {ρ : Env'} {x : X} {d : D} (h : okX T n ρ x d = true) : ∃ dd st, (run T n).1 ρ ⟨0, []⟩ x = some (dd, st) ∧ unob st dd = some d :=
 x12 (oB_inv h) fun p e h => x12 (oB_inv h) fun e2 q s => m22 p.1 p.2 e (sameD_eq s ▸ q)
theorem okF_inv {T : Tab} {n : Nat} {p : List Nat × List Y} {ds : List D} {d : D} (h : okF T n p ds d = true) : ∃ ρ0 dd ρ' st, bindL p.1 ds [] = some ρ0 ∧ (run T n).2 ρ0 ⟨0, []⟩ p.2 = some (.ret dd, ρ', st) ∧ unob st dd = some d :=
 x12 (oB_inv h) fun ρ0 b h => x12 (oB_inv h) fun p e h => x12 (oB_inv h) fun dd r h => x12 (oB_inv h) fun e2 q s => m43 ρ0 dd p.2.1 p.2.2 b (e.trans (congrArg some (Prod.ext (retO_inv r) rfl))) (sameD_eq s ▸ q)
noncomputable def rep (c : Nat) : Nat → List Nat
 | 0 => []
 | n + 1 => c :: rep c n
noncomputable def aOf (r : Nat) : Nat := r % 4
noncomputable def bOf (r : Nat) : Nat := r / 4 % 5
noncomputable def cOf (r : Nat) : Nat := r / 20 % 4
noncomputable def leadS (r : Nat) : List Nat := rep 32 (aOf r) ++ [9] ++ (match Nat.blt (bOf r) 4 with | true => rep 32 (bOf r) ++ [9] | false => []) ++ rep 32 (cOf r)
noncomputable def addAt : List Nat → Nat → List Nat
 | [], 0 => [1]
 | [], n + 1 => 0 :: addAt [] n
 | x :: r, 0 => (x + 1) :: r
 | x :: r, n + 1 => x :: addAt r n
noncomputable def cntD (r : Nat) : List Nat := match Nat.blt (bOf r) 4 with | true => addAt (addAt [] (aOf r)) (bOf r) | false => addAt [] (aOf r)
noncomputable def ntD (r : Nat) : Nat := match Nat.blt (bOf r) 4 with | true => 2 | false => 1
noncomputable def nI (n : Nat) : D := .int (Int.ofNat n)
noncomputable def lineD (r : Nat) : D := .inst [.str (leadS r ++ [120, 32, 9]), nI (leadS r).length, nI (ntD r), .tup [.tup ((cntD r).map nI), nI (cOf r)], .bool (Nat.ble (cntD r).length 1)]
noncomputable def maxN (a b : Nat) : Nat := match Nat.ble a b with | true => b | false => a
noncomputable def runD (r : Nat) : Nat := maxN ((cntD r).length - 1) (cOf r)
noncomputable def ilD (ts : Nat) : Nat → List Nat → Nat
 | _, [] => 0
 | i, x :: xs => i / ts * x + ilD ts (i + 1) xs
noncomputable def levD (r ts : Nat) : Nat := cOf r + ts * (ilD ts 0 (cntD r) + ntD r)
noncomputable def walkD (r : Nat) : D := .list [nI (runD r), nI (levD r 1), nI (levD r 2), nI (levD r 3), nI (levD r 4)]
noncomputable def foundT (s : List Nat) : Option (Nat × Nat) := match Nat.ble s.length 900 with | true => foundD s | false => none
noncomputable def fnA : Nat → Option (List Nat × List Y)
 | 10 => some fn10_law_column
 | 11 => some unmT
 | _ => none
noncomputable def mfA : Nat → Option (List Nat × List Y)
 | 0 => some longT
 | 1 => some indT
 | _ => none
noncomputable def TA : Tab := { fns := fnA, sms := fun j j => none, code := 0, tabs := fun j => false, msms := fun j j => none, macs := fun j j => none, ge := fun j j => none, word := fun j => none, lst := fun j => false, same := fun j j => none, mfns := mfA, ini := some iniT, found := foundT }
noncomputable def chkLead (r : Nat) : Bool := okF TA 12 leadT [.num 80 r] (.str (leadS r))
noncomputable def chkLine (r : Nat) : Bool := okX TA 14 [(30, some (.str (leadS r)))] mac0X (lineD r)
noncomputable def chkWalk (r : Nat) : Bool := okX TA 14 [(30, some (.str (leadS r)))] mac1X (walkD r)
noncomputable def chkRun (r : Nat) : Bool := okF TA 12 longT [lineD r] (nI (runD r))
noncomputable def chkLev (r : Nat) : Bool := [1, 2, 3, 4].all fun ts => okF TA 12 indT [lineD r, nI ts] (nI (levD r ts))
noncomputable def all80 (p : Nat → Bool) : Bool := (List.range 80).all p
theorem lead_ok : all80 chkLead = true := by decide +kernel
theorem line_ok : all80 chkLine = true := by decide +kernel
theorem walk_ok : all80 chkWalk = true := by decide +kernel
theorem run_ok80 : all80 chkRun = true := by decide +kernel
theorem lev_ok : all80 chkLev = true := by decide +kernel
end Mine
end
noncomputable section
open PySem
namespace Mine
noncomputable def bitAt (b1 b2 b3 b4 : Bool) : Nat → Bool
 | 1 => b1 | 2 => b2 | 3 => b3 | _ => b4
noncomputable def sizesS (M : Nat) (b1 b2 b3 b4 : Bool) : List Nat := [1, 2, 3, 4].filter fun ts => Nat.ble ts (M + 1) && bitAt b1 b2 b3 b4 ts
noncomputable def in14 (ts : Nat) : Bool := Nat.ble 1 ts && Nat.ble ts 4
theorem ifI0 {α : Type} {c : Bool} {x : Option α} {r : α} (e : (match c with | true => x | false => none) = some r) : c = true ∧ x = some r := by
 induction c using Bool.casesOn with
 | true => exact ⟨rfl, e⟩
 | false => exact no e
noncomputable def symF (F : Nat → Option D) : D → Option D
 | .sym k => F k
 | _ => none
noncomputable def strF (F : List Nat → Option D) : D → Option D
 | .str k => F k
 | _ => none
noncomputable def natF (F : Nat → Option D) : D → Option D
 | .int i => match i with
  | .ofNat n => F n
  | .negSucc _ => none
 | _ => none
noncomputable def nilF (d : Option D) : List D → Option D
 | [] => d
 | _ :: _ => none
noncomputable def conF (F : D → List D → Option D) : List D → Option D
 | [] => none
 | a :: r => F a r
theorem symF_inv {F : Nat → Option D} {a d : D} (h : symF F a = some d) : ∃ k, a = .sym k ∧ F k = some d := by
 induction a using D.casesOn with
 | sym k => exact (m12 k rfl h)
 | _ => exact no h
theorem strF_inv {F : List Nat → Option D} {a d : D} (h : strF F a = some d) : ∃ k, a = .str k ∧ F k = some d := by
 induction a using D.casesOn with
 | str k => exact (m12 k rfl h)
 | _ => exact no h
theorem natF_inv {F : Nat → Option D} {a d : D} (h : natF F a = some d) : ∃ k : Nat, a = .int k ∧ F k = some d := by
 induction a using D.casesOn with
 | int i => induction i using Int.casesOn with
  | ofNat n => exact (m12 n rfl h)
  | negSucc => exact no h
 | _ => exact no h
theorem nilF_inv {d : Option D} {l : List D} {e : D} (h : nilF d l = some e) : l = [] ∧ d = some e := by
 induction l using List.casesOn with
 | nil => exact ⟨rfl, h⟩
 | cons => exact no h
theorem conF_inv {F : D → List D → Option D} {l : List D} {d : D} (h : conF F l = some d) : ∃ a r, l = a :: r ∧ F a r = some d := by
 induction l using List.casesOn with
 | nil => exact no h
 | cons a r => exact (m22 a r rfl h)
noncomputable def oneSym (F : Nat → Option D) : List D → Option D := conF fun a r => symF (fun k => nilF (F k) r) a
noncomputable def twoSym (F : Nat → Nat → Option D) : List D → Option D := conF fun a r => symF (fun k => oneSym (F k) r) a
theorem oneSym_inv {F : Nat → Option D} {l : List D} {d : D} (h : oneSym F l = some d) : ∃ k, l = [.sym k] ∧ F k = some d := by
 refine x22 (conF_inv h) ?_
 try clear h
 intro a r h1 h
 refine x12 (symF_inv h) ?_
 try clear h
 intro k h2 h
 refine x02 (nilF_inv h) ?_
 try clear h
 intro h3 h
 exact (m12 k (by rw [h1, h2, h3]) h)
theorem twoSym_inv {F : Nat → Nat → Option D} {l : List D} {d : D} (h : twoSym F l = some d) : ∃ j k, l = [.sym j, .sym k] ∧ F j k = some d := by
 refine x22 (conF_inv h) ?_
 try clear h
 intro a r h1 h
 refine x12 (symF_inv h) ?_
 try clear h
 intro j h2 h
 refine x12 (oneSym_inv h) ?_
 try clear h
 intro k h3 h
 exact (m22 j k (by rw [h1, h2, h3]) h)
noncomputable def msB (m n : Nat) : Nat → List D → Option D
 | 0 => oneSym fun j => match j with
  | 0 => some (nI m)
  | 1 => some (nI n)
  | _ => none
 | 1 => conF fun a r => symF (fun j => conF (fun b r => natF (fun ts => nilF (match in14 ts with
  | true => match j with
   | 0 => some (.sym (4 + ts))
   | 1 => some (.sym (8 + ts))
   | _ => none
  | false => none) r) b) r) a
 | _ => fun y => none
noncomputable def geB (b1 b2 b3 b4 : Bool) (j k : Nat) : Option Bool := match Nat.ble 5 j && Nat.ble j 8 && Nat.beq k (j + 4) with
 | true => some (bitAt b1 b2 b3 b4 (j - 4))
 | false => none
noncomputable def TB (m n : Nat) (b1 b2 b3 b4 : Bool) : Tab := { fns := fun j => none, sms := fun j j => none, code := 0, tabs := fun j => false, msms := msB m n, macs := fun j j => none, ge := geB b1 b2 b3 b4, word := fun j => none, lst := fun j => false, same := fun j j => none, mfns := fun j => none, ini := none, found := fun j => none }
noncomputable def tupB (ts : Nat) : D := .tup [nI ts, .sym (4 + ts), .sym (8 + ts)]
noncomputable def walkB (m o : Nat) : D := .list [nI m, .sym (o + 1), .sym (o + 2), .sym (o + 3), .sym (o + 4)]
noncomputable def all16 (p : Bool → Bool → Bool → Bool → Bool) : Bool := [false, true].all fun a => [false, true].all fun b => [false, true].all fun c => [false, true].all fun d => p a b c d
noncomputable def all4 (p : Nat → Bool) : Bool := (List.range 4).all p
noncomputable def witsB (M : Nat) (b1 b2 b3 b4 : Bool) : D := .list ((sizesS M b1 b2 b3 b4).map tupB)
noncomputable def chkNlw (m n : Nat) (b1 b2 b3 b4 : Bool) : Bool := okF (TB m n b1 b2 b3 b4) 14 nlwT [.sym 0, .sym 1] (witsB (maxN m n) b1 b2 b3 b4)
noncomputable def chkWit (m n : Nat) (b1 b2 b3 b4 : Bool) : Bool := okF (TB m n b1 b2 b3 b4) 14 fn9_law_witnesses [walkB m 4, walkB n 8] (witsB (maxN m n) b1 b2 b3 b4)
noncomputable def tellD : List Nat → List Nat
 | [] => []
 | [x] => [48 + x]
 | x :: r => (48 + x) :: 44 :: 32 :: tellD r
noncomputable def atTab : List Nat := [97, 116, 32, 116, 97, 98, 32, 115, 105, 122, 101]
noncomputable def wordsS (l : List Nat) : List Nat := atTab ++ (match Nat.blt 1 l.length with | true => [115, 32] | false => [32]) ++ tellD l
noncomputable def chkWords (b1 b2 b3 b4 : Bool) : Bool := okF TA 14 fn8_law_words [witsB 3 b1 b2 b3 b4] (.str (wordsS (sizesS 3 b1 b2 b3 b4)))
theorem nlw_ok : (all4 fun m => all4 fun n => all16 (chkNlw m n)) = true := by decide +kernel
theorem wit_ok : (all4 fun m => all4 fun n => all16 (chkWit m n)) = true := by decide +kernel
theorem words_ok : all16 chkWords = true := by decide +kernel
noncomputable def idxL (x : List Nat) : Nat → List (List Nat) → Option Nat
 | _, [] => none
 | i, y :: r => match eqL y x with | true => some i | false => idxL x (i + 1) r
noncomputable def escM : D → Option D
 | .mtch s b e => match asciiD (s.toArray.extract (b + 1) e).toList && fits s.length with
  | true => match idxL (37 :: upperL (s.toArray.extract (b + 1) e).toList) 0 [[37, 67, 65], [37, 67, 66], [37, 68, 67], [37, 68, 68]] with
   | some i => some (nI i)
   | none => none
  | false => none
 | _ => none
noncomputable def macR : Nat → D → Option D
 | 2, d => escM d
 | _, _ => none
noncomputable def TR : Tab := { TA with macs := macR }
noncomputable def evens : List (List Nat) := [[0, 1, 2, 3], [0, 2, 3, 1], [0, 3, 1, 2], [1, 0, 3, 2], [1, 2, 0, 3], [1, 3, 2, 0], [2, 0, 1, 3], [2, 1, 3, 0], [2, 3, 0, 1], [3, 0, 2, 1], [3, 1, 0, 2], [3, 2, 1, 0]]
noncomputable def signS : Nat → List Nat
 | 0 => [37, 99, 65] | 1 => [37, 67, 98] | 2 => [37, 100, 67] | _ => [37, 68, 100]
noncomputable def textS : List Nat → List Nat
 | [a, b, c, d] => signS a ++ [37, 103] ++ signS b ++ [37, 103] ++ signS c ++ [37, 103] ++ signS d ++ signS a
 | _ => []
noncomputable def readD : List Nat → D
 | [a, b, c, d] => .list [nI a, nI b, nI c, nI d, .str ([37, 103, 37, 103, 37, 103] ++ signS a)]
 | _ => .none
noncomputable def chkRead (o : List Nat) : Bool := okF TR 20 readT [.str (textS o)] (readD o)
theorem read_ok : evens.all chkRead = true := by decide +kernel
end Mine
end
noncomputable section
open PySem
namespace Mine
noncomputable def readTab : List (List Nat × D) := evens.map fun o => (textS o, readD o)
noncomputable def lkS (s : List Nat) : List (List Nat × D) → Option D
 | [] => none
 | (t, d) :: r => match eqL t s with | true => some d | false => lkS s r
noncomputable def btw (a b k : Nat) : Bool := Nat.ble a k && Nat.blt k b
noncomputable def rowsD : D := .list (evens.map fun o => .list (o.map nI))
noncomputable def smL : Nat → List D → Option D
 | 0 => conF fun a r => strF (fun s => nilF (lkS s readTab) r) a
 | 1 => oneSym fun k => match Nat.beq k 60 with | true => some (.list [.sym 12, .sym 13, .sym 14, .sym 15]) | false => none
 | 2 => oneSym fun k => match btw 12 16 k with | true => some (.sym (k - 12)) | false => none
 | 3 => oneSym fun k => match btw 16 32 k with | true => some (.sym (k + 16)) | false => none
 | 4 => twoSym fun j k => match btw 8 12 j && btw 8 12 k with | true => some (.sym (16 + 4 * (j - 8) + (k - 8))) | false => none
 | 5 => oneSym fun k => match btw 16 32 k with | true => some (.sym (k + 16)) | false => none
 | 6 => nilF (some rowsD)
 | _ => fun y => none
noncomputable def macL : Nat → D → Option D
 | 0 => symF fun k => match btw 0 4 k with | true => some (.sym (k + 4)) | false => none
 | 1 => symF fun k => match btw 0 4 k with | true => some (.sym (k + 8)) | false => none
 | _ => fun j => none
noncomputable def msL : Nat → List D → Option D
 | 2 => twoSym fun j k => match btw 4 8 j && btw 4 8 k with | true => some (.sym (16 + 4 * (j - 4) + (k - 4))) | false => none
 | _ => fun y => none
noncomputable def fnL : Nat → Option (List Nat × List Y)
 | 0 => some fn0_ne | 1 => some fn1_eq | 2 => some fn2_mul | 3 => some fn3_contains
 | 5 => some fn5_add_func_stats | 6 => some fn6_add_callers
 | _ => none
noncomputable def wv (v : Nat → Bool) (k : Nat) : Option Bool := cond (Nat.blt k 16) (some (v k)) none
noncomputable def wordL' (w : Nat → Option Bool) (k : Nat) : Option Bool := match btw 32 48 k with | true => w (k - 32) | false => none
noncomputable def TL (w : Nat → Option Bool) : Tab := { fns := fnL, sms := smL, code := 0, tabs := fun k => Nat.beq k 3, msms := msL, macs := macL, ge := fun j j => none, word := wordL' w, lst := btw 16 32, same := fun j j => none, mfns := fun j => none, ini := none, found := fun j => none }
noncomputable def law10' : Y := match law10 with
 | .for_ t _ b o => .for_ t (.val (.sm 6 [])) b o
 | y => y
noncomputable def tailY' : List Y := [law9, law10', law11, law12, law13, law14, law15, law16]
noncomputable def ρin : Env' := [(34, some (.sym 60))]
noncomputable def stin : St := ⟨2, [(1, 0, .inst [(1, .none)]), (0, 0, .inst [(0, .none)])]⟩
noncomputable def pairsL : List (Nat × Nat) := [(0, 1), (0, 2), (0, 3), (1, 0), (1, 2), (1, 3), (2, 0), (2, 1), (2, 3), (3, 0), (3, 1), (3, 2)]
noncomputable def pD (p : Nat × Nat) : D := .tup [nI p.1, nI p.2]
noncomputable def ρ1 : Env' := [(34, some (.sym 60)), (32, some (.list [.sym 0, .sym 1, .sym 2, .sym 3])), (78, some (.list [.sym 4, .sym 5, .sym 6, .sym 7])), (35, some (.list [.sym 8, .sym 9, .sym 10, .sym 11])), (37, some (.list (pairsL.map pD))),
 (38, some (.ob 2)), (39, some (.ob 3)), (21, some (nI 3)), (28, some (nI 2)), (23, some (.sym 30)), (79, some (.sym 30))]
noncomputable def dicW : List (Int × D) := [(1, .sym 33), (2, .sym 34), (3, .sym 35), (4, .sym 36), (6, .sym 38), (7, .sym 39), (8, .sym 40), (9, .sym 41), (11, .sym 43), (12, .sym 44), (13, .sym 45), (14, .sym 46)]
noncomputable def st1 : St := ⟨4, [(3, 12, .dic dicW), (2, 12, .dic dicW), (1, 12, .inst [(1, .none)]), (0, 0, .inst [(0, .none)])]⟩
theorem front_ok (w : Nat → Option Bool) : (run (TL w) 40).2 ρin stin frontY = some (.next, ρ1, st1) := by kernel_rfl
section
variable {T : Tab} {ev : Ev} {ex : Ex}
theorem run_ev (T : Tab) (n : Nat) : (run T (n + 1)).1 = evStep T (run T n).1 (run T n).2 := rfl
theorem turns_step {t : Tgt} {ifs : List X} {emit : Env' → St → MO → Option (MO × Env' × St)} {f : Nat} {ρ ρ' ρ2 : Env'} {st st2 : St} {src src' : Src} {d : D} {acc acc' : MO} {b : Bool}
  (h1 : nextS st src = some (some (d, src'))) (h2 : bindT t d ρ = some ρ') (h3 : tests ev ρ' st ifs = some (b, st)) (h4 : if b = true then emit ρ' st acc = some (acc', ρ2, st2) else acc' = acc ∧ ρ2 = ρ' ∧ st2 = st) :
  turns ev t ifs emit (f + 1) ρ st src acc = turns ev t ifs emit f ρ2 st2 src' acc' := by
 rw [turns, h1]
 simp only [h2, h3]
 induction b using Bool.casesOn with
 | true => simp only [if_true] at h4; simp only [h4]
 | false => obtain ⟨rfl, rfl, rfl⟩ := h4; rfl
theorem turns_end {t : Tgt} {ifs : List X} {emit : Env' → St → MO → Option (MO × Env' × St)} {f : Nat} {ρ : Env'} {st : St} {src : Src} {acc : MO} (h1 : nextS st src = some none) :
  turns ev t ifs emit (f + 1) ρ st src acc = some (acc, ρ, st) := by
 rw [turns, h1]
theorem lcomp_val {m : Bool} {elt : X} {t : Tgt} {it : IT} {ifs : List X} {own : List Nat} {ρ ρe : Env'} {st st1 st2 : St} {src : Src} {ds : List D} (h1 : srcOf ev ρ st it = some (src, st1)) (h2 : turns ev t ifs (emit1 ev elt) 1000 (hide own ρ) st1 src (.list []) = some (.list ds, ρe, st2)) :
  evStep T ev ex ρ st (.lcomp m elt t it ifs own) = some (newL m st2 ds) := by
 show (match srcOf ev ρ st it with
  | some (src, st) => match turns ev t ifs (emit1 ev elt) 1000 (hide own ρ) st src (.list []) with
   | some (.list ds, _, st) => some (newL m st ds)
   | _ => none
  | none => none) = _
 rw [h1]
 show (match turns ev t ifs (emit1 ev elt) 1000 (hide own ρ) st1 src (.list []) with
  | some (.list ds, _, st) => some (newL m st ds)
  | _ => none) = _
 rw [h2]
theorem emit_ok {x : X} {ρ : Env'} {st st' : St} {d : D} {r : List D} (h : ev ρ st x = some (d, st')) (f : fits r.length = true) : emit1 ev x ρ st (.list r) = some (.list (r ++ [d]), ρ, st') := by
 show (match ev ρ st x with
  | some (d, st) => (match fits r.length with | true => some (MO.list (r ++ [d]), ρ, st) | false => none)
  | none => none) = _
 rw [h]
 show (match fits r.length with | true => some (MO.list (r ++ [d]), ρ, st') | false => none) = _
 rw [f]
theorem turns_filter {ifs : List X} {st : St} {ρt : Env'} {c : Nat × Nat → Bool} (hv : ∀ p : Nat × Nat, ev ((0, some (nI p.1)) :: (1, some (nI p.2)) :: ρt) st (.var 1) = some (nI p.2, st)) : ∀ (L : List (Nat × Nat)) (f : Nat) (x y : Option D) (acc : List D), L.length < f → acc.length + L.length ≤ 1000 →
  (∀ p ∈ L, tests ev ((0, some (nI p.1)) :: (1, some (nI p.2)) :: ρt) st ifs = some (c p, st)) →
  ∃ ρe, turns ev (.tup [0, 1]) ifs (emit1 ev (.var 1)) f ((0, x) :: (1, y) :: ρt) st (.pure (L.map pD)) (.list acc) = some (.list (acc ++ (L.filter c).map fun p => nI p.2), ρe, st)
 | [], f + 1, x, y, acc, _, _, _ => ⟨(0, x) :: (1, y) :: ρt, by rw [turns_end rfl]; simp⟩
 | p :: L, f + 1, x, y, acc, h1, h2, h3 => by
  simp only [List.length_cons] at h1 h2
  have hp := h3 p (List.mem_cons_self)
  cases q : c p with
  | true =>
   rw [q] at hp
   refine x11 (turns_filter hv L f (some (nI p.1)) (some (nI p.2)) (acc ++ [nI p.2]) (by exact Nat.lt_of_succ_lt_succ ‹_›) (by rw [List.length_append, List.length_singleton]; lia) fun p' hp' => h3 p' (List.mem_cons_of_mem _ hp')) ?_
   intro ρe h
   refine ⟨ρe, ?_⟩
   rw [turns_step (d := pD p) (b := true) (acc' := .list (acc ++ [nI p.2])) (ρ2 := (0, some (nI p.1)) :: (1, some (nI p.2)) :: ρt) (st2 := st) rfl rfl hp (by
    rw [if_pos rfl]
    exact emit_ok (hv p) (Nat.ble_eq_true_of_le (by exact Nat.le_trans (Nat.le_add_right _ _) ‹_›)))]
   rw [h, List.filter_cons, if_pos q]
   simp
  | false =>
   rw [q] at hp
   refine x11 (turns_filter hv L f (some (nI p.1)) (some (nI p.2)) acc (by exact Nat.lt_of_succ_lt_succ ‹_›) (by exact Nat.le_of_lt ‹_›) fun p' hp' => h3 p' (List.mem_cons_of_mem _ hp')) ?_
   intro ρe h
   refine ⟨ρe, ?_⟩
   rw [turns_step (d := pD p) (b := false) (acc' := .list acc) rfl rfl hp (by rw [if_neg Bool.false_ne_true]; exact ⟨rfl, rfl, rfl⟩)]
   rw [h, List.filter_cons, if_neg (by rw [q]; exact Bool.false_ne_true)]
end
noncomputable def eAt (e01 e02 e03 e12 e13 e23 : Bool) : Nat → Nat → Bool
 | 0, 1 => e01 | 1, 0 => e01 | 0, 2 => e02 | 2, 0 => e02 | 0, 3 => e03 | 3, 0 => e03
 | 1, 2 => e12 | 2, 1 => e12 | 1, 3 => e13 | 3, 1 => e13 | 2, 3 => e23 | 3, 2 => e23
 | _, _ => false
noncomputable def nearC (e01 e02 e03 e12 e13 e23 : Bool) (one : Nat) (p : Nat × Nat) : Bool := Nat.beq p.1 one && eAt e01 e02 e03 e12 e13 e23 p.1 p.2
noncomputable def near1 (e01 e02 e03 e12 e13 e23 : Bool) (one : Nat) : D := .list ((pairsL.filter (nearC e01 e02 e03 e12 e13 e23 one)).map fun p => nI p.2)
noncomputable def nearD (e01 e02 e03 e12 e13 e23 : Bool) : D := .list [near1 e01 e02 e03 e12 e13 e23 0, near1 e01 e02 e03 e12 e13 e23 1, near1 e01 e02 e03 e12 e13 e23 2, near1 e01 e02 e03 e12 e13 e23 3]
noncomputable def ρ2 (e01 e02 e03 e12 e13 e23 : Bool) : Env' := ρ1 ++ [(40, some (nearD e01 e02 e03 e12 e13 e23)), (41, some (nearD e01 e02 e03 e12 e13 e23))]
noncomputable def ifsOf : Y → List X
 | .asg _ (.lcomp _ (.lcomp _ _ _ _ ifs _) _ _ _ _) => ifs
 | _ => []
noncomputable def innerOf : Y → X
 | .asg _ (.lcomp _ x _ _ _ _) => x
 | _ => .knone
theorem inner7 : innerOf law7 = .lcomp false (.var 1) (.tup [0, 1]) (.val (.var 37)) (ifsOf law7) [0, 1] := rfl
theorem inner8 : innerOf law8 = .lcomp false (.var 1) (.tup [0, 1]) (.val (.var 37)) (ifsOf law8) [0, 1] := rfl
theorem asg_val {ev : Ev} {ex : Ex} {ρ : Env'} {st st' : St} {i : Nat} {e : X} {d : D} (h : ev ρ st e = some (d, st')) : ex1 ev ex ρ st (.asg (.var i) e) = some (.next, put i (some d) ρ, st') := by
 show (match ev ρ st e with | some (d, st) => some (Fl.next, put i (some d) ρ, st) | none => none) = _
 rw [h]
noncomputable def two (k1 k2 : Nat) (x y : Bool) (v : Nat → Bool) (k : Nat) : Bool := cond (Nat.beq k k1) x (cond (Nat.beq k k2) y (v k))
theorem two_all {P : (Nat → Bool) → Prop} {v : Nat → Bool} (k1 k2 : Nat) (h : ∀ x y, P (two k1 k2 x y v)) : P v := by
 have e : two k1 k2 (v k1) (v k2) v = v := by
  funext k
  unfold two
  generalize q : Nat.beq k k1 = b
  induction b using Bool.casesOn with
  | true => rw [Nat.eq_of_beq_eq_true q]; rfl
  | false =>
   generalize q2 : Nat.beq k k2 = c
   induction c using Bool.casesOn with
   | true => rw [Nat.eq_of_beq_eq_true q2]; rfl
   | false => rfl
 exact Eq.mp (congrArg P e) (h (v k1) (v k2))
noncomputable def nearV (v : Nat → Bool) : Nat → Nat × Nat → Bool := nearC (!v 1 && !v 4) (!v 2 && !v 8) (!v 3 && !v 12) (!v 6 && !v 9) (!v 7 && !v 13) (!v 11 && !v 14)
noncomputable def oneV (v : Nat → Bool) : Nat → D := near1 (!v 1 && !v 4) (!v 2 && !v 8) (!v 3 && !v 12) (!v 6 && !v 9) (!v 7 && !v 13) (!v 11 && !v 14)
noncomputable def allV (v : Nat → Bool) : D := nearD (!v 1 && !v 4) (!v 2 && !v 8) (!v 3 && !v 12) (!v 6 && !v 9) (!v 7 && !v 13) (!v 11 && !v 14)
noncomputable def ρV (v : Nat → Bool) : Env' := ρ2 (!v 1 && !v 4) (!v 2 && !v 8) (!v 3 && !v 12) (!v 6 && !v 9) (!v 7 && !v 13) (!v 11 && !v 14)
noncomputable def TV (v : Nat → Bool) : Tab := TL (wv v)
noncomputable def tL (law : Y) (one : Nat) (zs : Env') (v : Nat → Bool) (p : Nat × Nat) : Option (Bool × St) := tests (run (TV v) 37).1 ((0, some (nI p.1)) :: (1, some (nI p.2)) :: (21, some (nI one)) :: (ρ1 ++ zs)) st1 (ifsOf law)
noncomputable def tR (one : Nat) (v : Nat → Bool) (p : Nat × Nat) : Option (Bool × St) := some (nearV v one p, st1)
section
variable {law : Y} {one : Nat} {zs : Env'} {v : Nat → Bool}
noncomputable def tE (law : Y) (one : Nat) (zs : Env') (v : Nat → Bool) (p : Nat × Nat) : Prop := tL law one zs v p = tR one v p
theorem fm {l : List (Nat × Nat)} {a b : Nat} (h : tL law one zs v (a, b) = tR one v (a, b)) (k : ∀ p ∈ l, tE law one zs v p) : ∀ p ∈ (a, b) :: l, tE law one zs v p := List.forall_mem_cons.mpr ⟨h, k⟩
theorem bb4 {Q : Bool → Bool → Prop} (h1 : Q true true) (h2 : Q true false) (h3 : Q false true) (h4 : Q false false) : ∀ x y, Q x y := fun x y => by induction x using Bool.casesOn <;> induction y using Bool.casesOn <;> assumption
theorem ft {l : List (Nat × Nat)} {a b : Nat} (k1 k2 : Nat) (h1 : tL law one zs (two k1 k2 true true v) (a, b) = tR one (two k1 k2 true true v) (a, b)) (h2 : tL law one zs (two k1 k2 true false v) (a, b) = tR one (two k1 k2 true false v) (a, b))
  (h3 : tL law one zs (two k1 k2 false true v) (a, b) = tR one (two k1 k2 false true v) (a, b)) (h4 : tL law one zs (two k1 k2 false false v) (a, b) = tR one (two k1 k2 false false v) (a, b)) (k : ∀ p ∈ l, tE law one zs v p) : ∀ p ∈ (a, b) :: l, tE law one zs v p :=
 List.forall_mem_cons.mpr ⟨two_all (P := fun v => tE law one zs v (a, b)) k1 k2 (bb4 (Q := fun x y => tE law one zs (two k1 k2 x y v) (a, b)) h1 h2 h3 h4), k⟩
theorem f0 : ∀ p ∈ ([] : List (Nat × Nat)), tE law one zs v p := fun p h => nomatch h
theorem t70 : ∀ p ∈ pairsL, tE law7 0 zs v p := ft 1 4 (by kernel_rfl) (by kernel_rfl) (by kernel_rfl) (by kernel_rfl) (ft 2 8 (by kernel_rfl) (by kernel_rfl) (by kernel_rfl) (by kernel_rfl) (ft 3 12 (by kernel_rfl) (by kernel_rfl) (by kernel_rfl) (by kernel_rfl) (fm (by kernel_rfl) (fm (by kernel_rfl) (fm (by kernel_rfl) (fm (by kernel_rfl) (fm (by kernel_rfl) (fm (by kernel_rfl) (fm (by kernel_rfl) (fm (by kernel_rfl) (fm (by kernel_rfl) f0)))))))))))
theorem t71 : ∀ p ∈ pairsL, tE law7 1 zs v p := fm (by kernel_rfl) (fm (by kernel_rfl) (fm (by kernel_rfl) (ft 4 1 (by kernel_rfl) (by kernel_rfl) (by kernel_rfl) (by kernel_rfl) (ft 6 9 (by kernel_rfl) (by kernel_rfl) (by kernel_rfl) (by kernel_rfl) (ft 7 13 (by kernel_rfl) (by kernel_rfl) (by kernel_rfl) (by kernel_rfl) (fm (by kernel_rfl) (fm (by kernel_rfl) (fm (by kernel_rfl) (fm (by kernel_rfl) (fm (by kernel_rfl) (fm (by kernel_rfl) f0)))))))))))
theorem t72 : ∀ p ∈ pairsL, tE law7 2 zs v p := fm (by kernel_rfl) (fm (by kernel_rfl) (fm (by kernel_rfl) (fm (by kernel_rfl) (fm (by kernel_rfl) (fm (by kernel_rfl) (ft 8 2 (by kernel_rfl) (by kernel_rfl) (by kernel_rfl) (by kernel_rfl) (ft 9 6 (by kernel_rfl) (by kernel_rfl) (by kernel_rfl) (by kernel_rfl) (ft 11 14 (by kernel_rfl) (by kernel_rfl) (by kernel_rfl) (by kernel_rfl) (fm (by kernel_rfl) (fm (by kernel_rfl) (fm (by kernel_rfl) f0)))))))))))
theorem t73 : ∀ p ∈ pairsL, tE law7 3 zs v p := fm (by kernel_rfl) (fm (by kernel_rfl) (fm (by kernel_rfl) (fm (by kernel_rfl) (fm (by kernel_rfl) (fm (by kernel_rfl) (fm (by kernel_rfl) (fm (by kernel_rfl) (fm (by kernel_rfl) (ft 12 3 (by kernel_rfl) (by kernel_rfl) (by kernel_rfl) (by kernel_rfl) (ft 13 7 (by kernel_rfl) (by kernel_rfl) (by kernel_rfl) (by kernel_rfl) (ft 14 11 (by kernel_rfl) (by kernel_rfl) (by kernel_rfl) (by kernel_rfl) f0)))))))))))
theorem t80 : ∀ p ∈ pairsL, tE law8 0 zs v p := ft 1 4 (by kernel_rfl) (by kernel_rfl) (by kernel_rfl) (by kernel_rfl) (ft 2 8 (by kernel_rfl) (by kernel_rfl) (by kernel_rfl) (by kernel_rfl) (ft 3 12 (by kernel_rfl) (by kernel_rfl) (by kernel_rfl) (by kernel_rfl) (fm (by kernel_rfl) (fm (by kernel_rfl) (fm (by kernel_rfl) (fm (by kernel_rfl) (fm (by kernel_rfl) (fm (by kernel_rfl) (fm (by kernel_rfl) (fm (by kernel_rfl) (fm (by kernel_rfl) f0)))))))))))
theorem t81 : ∀ p ∈ pairsL, tE law8 1 zs v p := fm (by kernel_rfl) (fm (by kernel_rfl) (fm (by kernel_rfl) (ft 4 1 (by kernel_rfl) (by kernel_rfl) (by kernel_rfl) (by kernel_rfl) (ft 6 9 (by kernel_rfl) (by kernel_rfl) (by kernel_rfl) (by kernel_rfl) (ft 7 13 (by kernel_rfl) (by kernel_rfl) (by kernel_rfl) (by kernel_rfl) (fm (by kernel_rfl) (fm (by kernel_rfl) (fm (by kernel_rfl) (fm (by kernel_rfl) (fm (by kernel_rfl) (fm (by kernel_rfl) f0)))))))))))
theorem t82 : ∀ p ∈ pairsL, tE law8 2 zs v p := fm (by kernel_rfl) (fm (by kernel_rfl) (fm (by kernel_rfl) (fm (by kernel_rfl) (fm (by kernel_rfl) (fm (by kernel_rfl) (ft 8 2 (by kernel_rfl) (by kernel_rfl) (by kernel_rfl) (by kernel_rfl) (ft 9 6 (by kernel_rfl) (by kernel_rfl) (by kernel_rfl) (by kernel_rfl) (ft 11 14 (by kernel_rfl) (by kernel_rfl) (by kernel_rfl) (by kernel_rfl) (fm (by kernel_rfl) (fm (by kernel_rfl) (fm (by kernel_rfl) f0)))))))))))
theorem t83 : ∀ p ∈ pairsL, tE law8 3 zs v p := fm (by kernel_rfl) (fm (by kernel_rfl) (fm (by kernel_rfl) (fm (by kernel_rfl) (fm (by kernel_rfl) (fm (by kernel_rfl) (fm (by kernel_rfl) (fm (by kernel_rfl) (fm (by kernel_rfl) (ft 12 3 (by kernel_rfl) (by kernel_rfl) (by kernel_rfl) (by kernel_rfl) (ft 13 7 (by kernel_rfl) (by kernel_rfl) (by kernel_rfl) (by kernel_rfl) (ft 14 11 (by kernel_rfl) (by kernel_rfl) (by kernel_rfl) (by kernel_rfl) f0)))))))))))
theorem inner_ok (hi : innerOf law = .lcomp false (.var 1) (.tup [0, 1]) (.val (.var 37)) (ifsOf law) [0, 1]) (h : ∀ p ∈ pairsL, tE law one zs v p) : (run (TV v) 38).1 ((21, some (nI one)) :: (ρ1 ++ zs)) st1 (innerOf law) = some (oneV v one, st1) := by
 refine x11 (turns_filter (ev := (run (TV v) 37).1) (ρt := (21, some (nI one)) :: (ρ1 ++ zs)) (fun p => rfl) pairsL 1000 none none [] (by decide) (by decide) h) ?_
 intro ρe h
 rw [hi]
 refine (congrFun (congrFun (congrFun (run_ev (TV v) 37) _) _) _).trans (Eq.trans (lcomp_val (m := false) (own := [0, 1]) (it := .val (.var 37)) (ev := (run (TV v) 37).1) (ρ := (21, some (nI one)) :: (ρ1 ++ zs)) (st := st1) (T := TV v) (ex := (run (TV v) 37).2) (src := .pure (pairsL.map pD)) (st1 := st1) (by kernel_rfl) h) ?_)
 kernel_rfl
theorem outer4 {ev : Ev} {x : X} {ρt : Env'} {st : St} {d0 d1 d2 d3 : D} (h0 : ev ((21, some (nI 0)) :: ρt) st x = some (d0, st)) (h1 : ev ((21, some (nI 1)) :: ρt) st x = some (d1, st)) (h2 : ev ((21, some (nI 2)) :: ρt) st x = some (d2, st)) (h3 : ev ((21, some (nI 3)) :: ρt) st x = some (d3, st)) :
  turns ev (.var 21) [] (emit1 ev x) 1000 ((21, none) :: ρt) st (.rng 0 4) (.list []) = some (.list [d0, d1, d2, d3], (21, some (nI 3)) :: ρt, st) := by
 rw [turns_step (d := nI 0) (src' := .rng 1 4) (ρ' := (21, some (nI 0)) :: ρt) (b := true) (acc' := .list [d0]) (ρ2 := (21, some (nI 0)) :: ρt) (st2 := st) rfl rfl rfl (by rw [if_pos rfl]; exact emit_ok h0 rfl),
  turns_step (d := nI 1) (src' := .rng 2 4) (ρ' := (21, some (nI 1)) :: ρt) (b := true) (acc' := .list [d0, d1]) (ρ2 := (21, some (nI 1)) :: ρt) (st2 := st) rfl rfl rfl (by rw [if_pos rfl]; exact emit_ok h1 rfl),
  turns_step (d := nI 2) (src' := .rng 3 4) (ρ' := (21, some (nI 2)) :: ρt) (b := true) (acc' := .list [d0, d1, d2]) (ρ2 := (21, some (nI 2)) :: ρt) (st2 := st) rfl rfl rfl (by rw [if_pos rfl]; exact emit_ok h2 rfl),
  turns_step (d := nI 3) (src' := .rng 4 4) (ρ' := (21, some (nI 3)) :: ρt) (b := true) (acc' := .list [d0, d1, d2, d3]) (ρ2 := (21, some (nI 3)) :: ρt) (st2 := st) rfl rfl rfl (by rw [if_pos rfl]; exact emit_ok h3 rfl), turns_end rfl]
theorem outer7 : law7 = .asg (.var 40) (.lcomp false (innerOf law7) (.var 21) (.rng none (.kint 4)) [] [21]) := rfl
theorem outer8 : law8 = .asg (.var 41) (.lcomp false (innerOf law8) (.var 21) (.rng none (.kint 4)) [] [21]) := rfl
theorem lawn_ok {k : Nat} (o : law = .asg (.var k) (.lcomp false (innerOf law) (.var 21) (.rng none (.kint 4)) [] [21])) (hi : innerOf law = .lcomp false (.var 1) (.tup [0, 1]) (.val (.var 37)) (ifsOf law) [0, 1])
  (h0 : ∀ p ∈ pairsL, tE law 0 zs v p) (h1 : ∀ p ∈ pairsL, tE law 1 zs v p) (h2 : ∀ p ∈ pairsL, tE law 2 zs v p) (h3 : ∀ p ∈ pairsL, tE law 3 zs v p) : ex1 (run (TV v) 39).1 (run (TV v) 39).2 (ρ1 ++ zs) st1 law = some (.next, put k (some (allV v)) (ρ1 ++ zs), st1) := by
 rw [o]
 have h := lcomp_val (m := false) (own := [21]) (it := .rng none (.kint 4)) (ρ := ρ1 ++ zs) (st := st1) (T := TV v) (ev := (run (TV v) 38).1) (ex := (run (TV v) 38).2) (src := .rng 0 4) (st1 := st1) (by kernel_rfl) (outer4 (inner_ok hi h0) (inner_ok hi h1) (inner_ok hi h2) (inner_ok hi h3))
 exact asg_val ((congrFun (congrFun (congrFun (run_ev (TV v) 38) _) _) _).trans (h.trans rfl))
theorem near_ok : (run (TV v) 40).2 ρ1 st1 [law7, law8] = some (.next, ρV v, st1) :=
 (exL_next (lawn_ok (zs := []) outer7 inner7 t70 t71 t72 t73)).trans ((exL_next (lawn_ok (zs := [(40, some (allV v))]) outer8 inner8 t80 t81 t82 t83)).trans rfl)
end
end Mine
end
noncomputable section
open PySem PySem.W PyProof.Rows PySem.Spec PySem.Calls
namespace Mine
variable [Val]
noncomputable def without (h : Heap) (P : Addr) : Heap := h.update P fun o => { o with data := .freed }
theorem without_other {h : Heap} {P d : Addr} (n : d ≠ P) : (without h P).get? d = h.get? d := Heap.get?_update_other _ _ (Ne.symm n)
theorem without_self {h : Heap} {P : Addr} : (without h P).get? P = none := by
 unfold without Heap.update Heap.get?
 induction h using Heap.casesOn with
 | mk objs l =>
  simp only [Array.getElem?_modify]
  cases q : objs[P]? with
  | none => simp
  | some o => simp
theorem without_old {h : Heap} {P : Addr} : ∀ b o, (without h P).get? b = some o → h.get? b = some o := fun b o e => by
 by_cases q : b = P
 · subst q; rw [without_self] at e; exact nomatch e
 · rwa [without_other q] at e
section
variable {p : Program} {loose : List Str} {mean : ExcName → Option Value} {mg mb : Str → Option Value} {h : Heap} {G : Nms}
end
end Mine
end
noncomputable section
open PySem PySem.W PyProof.Rows PySem.Spec PySem.Calls
namespace Mine
noncomputable def frz (dat : Nat → D) (f : Nat) (st : St) (d : D) : Option D := match unob st d with
 | some e => cl dat f e
 | none => none
section
variable {V V' : Val} {al fr al' fr' : List Addr} {h h' : Heap}
theorem clL_inv {r : D → Option D} {x : D} {xs ds' : List D} (e : clL r (x :: xs) = some ds') : ∃ y ys, r x = some y ∧ clL r xs = some ys ∧ y :: ys = ds' := by
 replace e : (match r x with
  | some y => (match clL r xs with | some ys => some (y :: ys) | none => none)
  | none => none) = some ds' := e
 generalize r x = o at e
 induction o using Option.casesOn with
 | none => exact no e
 | some y =>
  replace e : (match clL r xs with | some ys => some (y :: ys) | none => none) = some ds' := e
  generalize clL r xs = o at e
  induction o using Option.casesOn with
  | none => exact no e
  | some ys => exact ⟨y, ys, rfl, rfl, so e⟩
theorem clL_ok {r : D → Option D} (k : ∀ v d d', r d = some d' → @RD V al fr h v d → @RD V' al' fr' h' v d') {ds : List D} : ∀ {vs : List Value} {ds' : List D}, clL r ds = some ds' → @RDs V al fr h vs ds → @RDs V' al' fr' h' vs ds' := by
 induction ds using List.rec with
 | nil =>
  intro vs ds' e q
  rw [(@RDs.to V _ _ _ _ _ q : vs = []), ← so e]
  exact @RDs.nil V' _ _ _
 | cons d ds ih =>
  intro vs ds' e q
  refine x23 (clL_inv e) fun y ys e1 e2 e3 => x23 (@RDs.to V _ _ _ _ _ q) fun v us e4 a q => ?_
  rw [e4, ← e3]
  exact @RDs.cons V' _ _ _ _ _ _ _ (k _ _ _ e1 a) (ih e2 q)
theorem cl_ok (hc : V.cls = V'.cls) (k : ∀ b o, b ∉ al → b ∉ fr → h.get? b = some o → h'.get? b = some o ∧ b ∉ al' ∧ b ∉ fr') : ∀ {f : Nat} {v : Value} {d d' : D}, cl V.dat f d = some d' → @RD V al fr h v d → @RD V' al' fr' h' v d'
 | 0, _, _, _, e, _ => no e
 | f + 1, v, d, d', e, r => by
  have IH : ∀ v d d', cl V.dat f d = some d' → @RD V al fr h v d → @RD V' al' fr' h' v d' := fun v d d' e r => cl_ok hc k e r
  cases r with
  | none => rw [← so e]; exact .none
  | bool b => rw [← so e]; exact .bool b
  | int i t => rw [← so e]; exact .int i t
  | str s t => rw [← so e]; exact .str s t
  | word x t b q => rw [← so e]; exact .word x t b q
  | num i t m r q => rw [← so e]; exact .num i t m r q
  | list a vs ds n1 n2 hl q =>
   replace e := lstI e
   refine x12 e ?_
   clear e
   intro ys e1 e
   have e := so e
   subst e
   refine x11 (id hl) ?_
   intro j ho
   have q2 := k a _ n1 n2 ho
   exact .list a vs ys q2.2.1 q2.2.2 (hl.at fun o' e => (k a o' n1 n2 e).1) (clL_ok IH e1 q)
  | tup a vs ds n1 n2 hl q =>
   replace e := lstI e
   refine x12 e ?_
   clear e
   intro ys e1 e
   have e := so e
   subst e
   refine x12 (id hl) ?_
   intro o ho _
   have q2 := k a o n1 n2 ho
   exact .tup a vs ys q2.2.1 q2.2.2 (tuple_mono hl fun o' e => (k a o' n1 n2 e).1) (clL_ok IH e1 q)
  | inst a dx vs ds n1 n2 m1 m2 hi hn q =>
   replace e := lstI e
   refine x12 e ?_
   clear e
   intro ys e1 e
   have e := so e
   subst e
   refine x12 (id hi) ?_
   intro o ho hr
   have q1 := k a o n1 n2 ho
   refine x32 (id hn) ?_
   intro o2 es ep ho2 hr2
   have q2 := k dx o2 m1 m2 ho2
   exact .inst a dx vs ys q1.2.1 q1.2.2 q2.2.1 q2.2.2 ⟨o, q1.1, hr.1.trans (by rw [hc]), hr.2⟩ ⟨o2, es, ep, q2.1, hr2⟩ (clL_ok IH e1 q)
  | mtch a tp s b z n1 n2 m1 m2 hm =>
   replace e := so e
   cases e
   refine x52 hm ?_
   clear hm
   intro t pat x2 x3 x4 h1 h2
   have q := k a _ n1 n2 h1
   have q2 := k tp _ m1 m2 h2
   exact .mtch a tp s b z q.2.1 q.2.2 q2.2.1 q2.2.2 ⟨t, pat, x2, x3, x4, q.1, q2.1⟩
  | sym v j r => exact IH _ _ _ e r
  | ob => exact no e
  | tstr => exact no e
  | opq => exact no e
  | self => exact no e
theorem clL_back {r : D → Option D} (k : ∀ v d d', r d = some d' → @RD V al fr h v d' → @RD V al fr h v d) {ds : List D} : ∀ {ds' : List D} {vs : List Value}, clL r ds = some ds' → @RDs V al fr h vs ds' → @RDs V al fr h vs ds := by
 induction ds using List.rec with
 | nil => intro ds' vs e q; rw [← so e] at q; exact q
 | cons d ds ih =>
  intro ds' vs e q
  refine x23 (clL_inv e) fun y ys e1 e2 e3 => ?_
  rw [← e3] at q
  refine x23 (@RDs.to V _ _ _ _ _ q) fun v us e4 a q => ?_
  rw [e4]
  exact .cons (k _ _ _ e1 a) (ih e2 q)
theorem unob_inv {st : St} {d e : D} (h : unob st d = some e) {P : D → D → Prop} (k1 : ∀ k u xs, lk k st.mu = some (u, .list xs) → P (.ob k) (.list xs)) (k2 : ∀ k u xs, lk k st.mu = some (u, .attrs xs) → P (.self k) (.inst xs)) (k3 : P d d) : P d e := by
 induction d using D.casesOn with
 | ob k =>
  replace h : (match lk k st.mu with | some (_, .list xs) => some (D.list xs) | _ => none) = some e := h
  generalize q : lk k st.mu = o at h
  induction o using Option.casesOn with
  | none => exact no h
  | some p => induction p using Prod.casesOn with
   | mk u m => induction m using MO.casesOn with
    | list xs => exact so h ▸ k1 k u xs q
    | _ => exact no h
 | self k =>
  replace h : (match lk k st.mu with | some (_, .attrs xs) => some (D.inst xs) | _ => none) = some e := h
  generalize q : lk k st.mu = o at h
  induction o using Option.casesOn with
  | none => exact no h
  | some p => induction p using Prod.casesOn with
   | mk u m => induction m using MO.casesOn with
    | attrs xs => exact so h ▸ k2 k u xs q
    | _ => exact no h
 | _ => exact so h ▸ k3
theorem cl_back : ∀ {f : Nat} {v : Value} {d d' : D}, cl V.dat f d = some d' → @RD V al fr h v d' → @RD V al fr h v d
 | 0, _, _, _, e, _ => no e
 | f + 1, v, d, d', e, r => by
  have IH : ∀ v d d', cl V.dat f d = some d' → @RD V al fr h v d' → @RD V al fr h v d := fun v d d' e r => cl_back e r
  induction d using D.casesOn with
  | none => rw [so e]; exact r
  | bool b => rw [so e]; exact r
  | int i => rw [so e]; exact r
  | str s => rw [so e]; exact r
  | word b => rw [so e]; exact r
  | num m q => rw [so e]; exact r
  | mtch s b z => rw [so e]; exact r
  | list xs =>
   replace e := lstI e
   refine x12 e ?_
   clear e
   intro ys e1 e
   have e := so e
   subst e
   refine x25 (r.to) ?_
   intro a vs eqv1 n1 n2 hl q
   subst eqv1
   exact @RD.list V _ _ _ a vs xs n1 n2 hl (clL_back IH e1 q)
  | tup xs =>
   replace e := lstI e
   refine x12 e ?_
   clear e
   intro ys e1 e
   have e := so e
   subst e
   refine x25 (r.to) ?_
   intro a vs eqv1 n1 n2 hl q
   subst eqv1
   exact @RD.tup V _ _ _ a vs xs n1 n2 hl (clL_back IH e1 q)
  | inst xs =>
   replace e := lstI e
   refine x12 e ?_
   clear e
   intro ys e1 e
   have e := so e
   subst e
   refine x38 (r.to) ?_
   intro a dx vs eqv1 n1 n2 m1 m2 hi hn q
   subst eqv1
   exact @RD.inst V _ _ _ a dx vs xs n1 n2 m1 m2 hi hn (clL_back IH e1 q)
  | sym j => exact .sym v j (IH _ _ _ e r)
  | ob => exact no e
  | tstr => exact no e
  | opq => exact no e
  | self => exact no e
end
section
variable {prog : Program} {w : World} {V V' : Val} {G : Nms} {T : Tab} {hT : Heap} {n : Nat} {A : Around} {env : Env} {sc : Scope} {al al' fr ow : List Addr} {ρ ρ' : Env'} {st st' : St} {s s' : Shared} {h : Heap}
theorem Sto.aside (S : @Sto V prog w hT al fr st h) : @Sto V' prog w hT [] (al ++ fr) ⟨0, []⟩ h :=
 @Sto.mk V' prog w hT [] (al ++ fr) ⟨0, []⟩ h (@Sto.old V _ _ _ _ _ _ _ S) rfl (fun a ha => @Sto.new V _ _ _ _ _ _ _ S a (by
  rcases ha with ha | ha
  · cases ha
  · exact List.mem_append.mp ha)) List.nodup_nil (fun a ha => nomatch ha) (fun k v mo e => no e)
theorem Stp.back (S : @Sto V prog w hT al fr st s.heap) (P : @Stp V' prog w hT (al ++ fr) [] [] al' ⟨0, []⟩ st' s s') : @Stp V prog w hT fr [] al al st st s s' := by
 have kp := @Stp.kp V' _ _ _ _ _ _ _ _ _ _ _ P
 have rs := @Stp.rest V' _ _ _ _ _ _ _ _ _ _ _ P
 have g := @Stp.grow V prog w hT al fr st s s'.heap s'.toks S kp.sz (fun b o e => kp.keep b o q0 q0 e) rs.tk
 have g1 := @Stp.pre V _ _ _ _ _ _ _ _ _ _ _ g
 have g2 := @Stp.sto V _ _ _ _ _ _ _ _ _ _ _ g
 have g3 := @Stp.kp V _ _ _ _ _ _ _ _ _ _ _ g
 exact @Stp.mk V _ _ _ _ _ _ _ _ _ _ _ g1 g2 g3 rs
theorem frz_back (hc : V.cls = V'.cls) (S : @Sto V prog w hT al fr st s.heap) (P : @Stp V' prog w hT (al ++ fr) [] [] al' ⟨0, []⟩ st' s s') {f f' : Nat} {v : Value} {d d0 d2 : D} (r : @RD V' al' (al ++ fr) s'.heap v d) (e : frz V'.dat f st' d = some d0) (e2 : cl V.dat f' d2 = some d0) : @RD V al fr s'.heap v d2 := by
 refine cl_back e2 ?_
 have al'ge : ∀ a ∈ al', s.heap.objs.size ≤ a := fun a ha => by
  refine x12 P.pre ?_
  intro more q h
  rw [List.nil_append] at q
  subst q; exact h a ha
 have k : ∀ b o, b ∉ al' → b ∉ al ++ fr → s'.heap.get? b = some o → s'.heap.get? b = some o ∧ b ∉ al ∧ b ∉ fr := fun b o y n2 e => ⟨e, fun q => n2 (List.mem_append.mpr (.inl q)), fun q => n2 (List.mem_append.mpr (.inr q))⟩
 have out : ∀ {a}, a ∉ al ++ fr → a ∉ al ∧ a ∉ fr := fun n2 => ⟨fun q => n2 (List.mem_append.mpr (.inl q)), fun q => n2 (List.mem_append.mpr (.inr q))⟩
 have IH : ∀ f v d d', cl V'.dat f d = some d' → @RD V' al' (al ++ fr) s'.heap v d → @RD V al fr s'.heap v d' := fun f v d d' e r => cl_ok hc.symm k e r
 replace e : (match unob st' d with
  | some e => cl V'.dat f e
  | none => none) = some d0 := e
 generalize q0 : unob st' d = o at e
 induction o using Option.casesOn with
 | none => exact no e
 | some d1 =>
  replace e : cl V'.dat f d1 = some d0 := e
  clear e2
  revert r e
  refine unob_inv (P := fun d d1 => @RD V' al' (al ++ fr) s'.heap v d → cl V'.dat f d1 = some d0 → @RD V al fr s'.heap v d0) q0 (fun j u xs q r e => ?_) (fun j u xs q r e => ?_) fun r e => IH f _ _ _ e r
  · induction f using Nat.casesOn with
    | zero => exact no e
    | succ f =>
     refine x12 (lstI e) fun ys e1 e => x12 r.to fun a ev ha => x12 (@Sto.mu V' _ _ _ _ _ _ _ (@Stp.sto V' _ _ _ _ _ _ _ _ _ _ _ P) _ _ _ q) fun a' ha' m => x12 m fun vs hl r => ?_
     rw [ev, ← so e]
     rw [← so (ha.symm.trans ha')] at hl
     have nf := @Sto.fresh V _ _ _ _ _ _ _ S _ (al'ge a (List.mem_of_getElem? ha))
     exact @RD.list V _ _ _ a vs ys nf.1 nf.2 hl (clL_ok (IH f) e1 r)
  · induction f using Nat.casesOn with
    | zero => exact no e
    | succ f =>
     refine x12 (lstI e) fun ys e1 e => x25 r.to fun a dx ev n1 n2 hi ha => x12 (@Sto.mu V' _ _ _ _ _ _ _ (@Stp.sto V' _ _ _ _ _ _ _ _ _ _ _ P) _ _ _ q) fun a' ha' m => x12 m fun vs hl r => x13 hi fun o ho h1 h2 => ?_
     rw [ev, ← so e]
     rw [← so (ha.symm.trans ha')] at hl
     have nf := @Sto.fresh V _ _ _ _ _ _ _ S _ (al'ge dx (List.mem_of_getElem? ha))
     exact @RD.inst V _ _ _ a dx vs ys (out n2).1 (out n2).2 nf.1 nf.2 ⟨o, ho, h1.trans (by rw [hc]), h2⟩ hl (clL_ok (IH f) e1 r)
theorem aside_args (hc : V.cls = V'.cls) {f f' : Nat} {vs : List Value} {ds ds' es : List D} (e1 : clL (cl V.dat f) ds = some es) (e2 : clL (cl V'.dat f') ds' = some es) (r : @RDs V al fr h vs ds) : @RDs V' [] (al ++ fr) h vs ds' :=
 clL_back (fun j j j e r => cl_back e r) e2 (clL_ok (fun j j j e r => cl_ok hc (fun b o n1 n2 e => ⟨e, q0, fun q => (List.mem_append.mp q).elim n1 n2⟩) e r) e1 r)
theorem meets_run (hc : V.cls = V'.cls) (TO : @TopOk V' prog w G T hT) {a : Addr} {ps : List Nat} {body : List Y} (FO : FnOk G hT a ps body) (hr : V'.room + 2 * n + 1 ≤ V.room) {f : Nat} {ds ds' es : List D} {ρ0 : Env'} {d d0 d2 : D}
  (e1 : clL (cl V.dat f) ds = some es) (e2 : clL (cl V'.dat f) ds' = some es) (b : Mine.bindL ps ds' [] = some ρ0) (e : (run T n).2 ρ0 ⟨0, []⟩ body = some (.ret d, ρ', st')) (e3 : frz V'.dat f st' d = some d0) (e4 : cl V.dat f d2 = some d0) :
  @Meets1 V prog w hT a ds d2 := by
 intro A al fr st s vs hh ht hd hu S r
 have X : @ExOk V' prog w G hT n (run T n).2 := (@run_ok V' prog w G T hT TO n).2.2.2
 refine wpAny_mono (@fn_ok V' prog w G hT n A [] (al ++ fr) ρ' ⟨0, []⟩ st' s TO.nms.nm TO.toBis _ X a ps body FO hh ht (by lia) (by lia) S.aside vs ds' ρ0 _ d (aside_args hc e1 e2 r) b e (.inl rfl)) (fun v s2 p => ?_) fun j j q => q
 refine x12 p ?_
 clear p
 intro al2 P q
 exact ⟨al, Stp.back S P, frz_back hc S P q e3 e4⟩
theorem EnvOk.aside (hc : V.cls = V'.cls) {i f : Nat} {d d0 d' : D} (E : @EnvOk V G.v env sc al fr ow ρ h) (hi : lk i ρ = some (some d)) (e1 : cl V.dat f d = some d0) (e2 : cl V'.dat f d' = some d0) : @EnvOk V' G.v env sc [] (al ++ fr) ow [(i, some d')] h := by
 have one : ∀ j e, lk j [(i, some d')] = some (some e) → j = i ∧ e = d' := fun j e q => by
  rw [lk_cons] at q
  by_cases z : i = j
  · rw [if_pos z] at q; exact ⟨z.symm, (so (so q)).symm⟩
  · rw [if_neg z] at q; exact no q
 have k : ∀ v, @RD V al fr h v d → @RD V' [] (al ++ fr) h v d' := fun v r => cl_back e2 (cl_ok hc (fun b o n1 n2 e => ⟨e, q0, fun q => (List.mem_append.mp q).elim n1 n2⟩) e1 r)
 obtain ⟨q1, q2, q3, q4, q5, q6, q7, q8, q9, q10, q11, q12, q13, q14, q15⟩ := E
 refine @EnvOk.mk V' _ _ _ _ _ _ _ _ q1 q2 q3 q4 q5 q6 q7 q8 (fun a ha => List.mem_append.mpr (.inr (q9 a ha))) (fun x c e => ?_) q11 q12 q13 ?_ (fun j e hj kj => ?_)
 · refine x03 (q10 x c e) ?_
   try clear c
   intro a b c
   exact ⟨List.mem_append.mpr (.inr a), b, c⟩
 · refine x12 q14 ?_
   clear q14
   intro m hm hv
   refine (m12 m hm (fun j e hj kj => ?_))
   refine x02 (one j e hj) ?_
   intro eq0 eq1
   subst eq0
   subst eq1
   refine x12 (hv _ _ hi kj) ?_
   intro v z r
   exact (m12 v z (k v r))
 · refine x02 (one j e hj) ?_
   intro eq0 eq1
   subst eq0
   subst eq1
   refine x23 (q15 _ _ hi kj) ?_
   intro c v z1 z2 r
   exact (m23 c v z1 z2 (k v r))
theorem mac_run (hc : V.cls = V'.cls) (TO : @TopOk V' prog w G T hT) (hr : V'.room + 2 * n ≤ V.room) {n' f i ff : Nat} {x : X} {e : Expr} {d d' dd d0 d1 d2 : D} (H : @Here V prog w G.v G.c hT n' A env sc al fr ow ρ st s)
  (hi : lk i ρ = some (some d)) (e1 : cl V.dat f d = some d0) (e2 : cl V'.dat f d' = some d0) (he : (run T n).1 [(i, some d')] ⟨0, []⟩ x = some (dd, st')) (hx : cE G ff sc x e = true) (e3 : frz V'.dat f st' dd = some d1) (e4 : cl V.dat f d2 = some d1) :
  wpAny (model prog w) A (eval e env) (@PostE V prog w hT al fr st st s d2) FF s := by
 have X : @EvOk V' prog w G hT n (run T n).1 := (@run_ok V' prog w G T hT TO n).1
 obtain ⟨h1, h2, dp, un, h5, h6, h7⟩ := H
 have H' : @Here V' prog w G.v G.c hT n A env sc [] (al ++ fr) ow [(i, some d')] ⟨0, []⟩ s := @Here.mk V' _ _ _ _ _ _ _ _ _ _ _ _ _ _ _ h1 h2 (by lia) (by lia) (Sto.aside h5) h6 (EnvOk.aside hc h7 hi e1 e2)
 refine wpAny_mono (X he hx H') (fun v s2 p => ?_) fun j j q => q
 refine x12 p ?_
 clear p
 intro al2 P q
 exact ⟨al, Stp.back h5 P, frz_back hc h5 P q e3 e4⟩
end
end Mine
end
noncomputable section
open PySem PySem.W PyProof.Rows PySem.Spec PySem.Calls
namespace Mine
noncomputable def fnAll : Nat → Option (List Nat × List Y)
 | 0 => some fn0_ne | 1 => some fn1_eq | 2 => some fn2_mul | 3 => some fn3_contains | 4 => some idxT
 | 5 => some fn5_add_func_stats | 6 => some fn6_add_callers | 7 => some fn7_law_rows
 | 8 => some fn8_law_words | 9 => some fn9_law_witnesses | 10 => some fn10_law_column
 | 11 => some unmT | 12 => some readT | 13 => some leadT | 15 => some cellT
 | _ => none
noncomputable def mfAll : Nat → Option (List Nat × List Y)
 | 0 => some longT | 1 => some indT | 2 => some nlwT
 | _ => none
noncomputable def isFun (hT : Heap) (a : Addr) : Prop := ∃ o fd, hT.get? a = some o ∧ o.cls = .type "function" ∧ o.data = .func fd
structure Base (prog : Program) (w : World) (hT : Heap) (sa : Scope) (code ca : Addr) (mN : Str → Option Value) (ad am : Nat → Addr) (ini : Addr) : Prop where
 bis : Bis hT
 dotA : (sa.names.lookup (".0" : Str)).isSome = false
 fn : ∀ k p, fnAll k = some p → Glb hT (nmF k) (.ref (ad k)) ∧ FnOk (G0 sa code) hT (ad k) p.1 p.2
 fnG : ∀ k p, fnL k = some p → FnOk (GG sa code) hT (ad k) p.1 p.2
 cls : ∃ N, PyProof.Rows.ClsAt hT ca N mN
 ga : mN "__getattribute__" = none
 gg : mN "__getattr__" = none
 gs : mN "__setattr__" = none
 at_ : ∀ i, mN (nmA i) = none
 glb : Glb hT "Whitespace" (.ref ca)
 init : mN "__init__" = some (.ref ini) ∧ isFun hT ini ∧ FnOk (G0 sa code) hT ini iniT.1 iniT.2
 mth : ∀ k p, mfAll k = some p → mN (nmM k) = some (.ref (am k)) ∧ isFun hT (am k) ∧ FnOk (G0 sa code) hT (am k) p.1 p.2
 re : ∃ (pa ct : Addr) (pat f1 f3 f4 : Value) (n5 : Nat), Glb hT "ESCAPED_CHAR_RE" (.ref pa) ∧ hT.get? pa = some { cls := .type "re.Pattern", data := .fields #[pat, f1, rawInt 1, f3, f4, .ref ct, rawInt 0] } ∧
  hT.get? ct = some { cls := .type "tuple", data := .seq (reW.map fun (w : Nat) => rawInt w).toArray n5 }
 clsA : ∀ (i : Nat) {A : Around} {E : Value → Shared → Prop} {s : Shared} {Q : Value → Shared → Prop}, (∀ b o, hT.get? b = some o → s.heap.get? b = some o) → (∀ t, Q (.str ⟨[ltC i].toArray⟩ t) { s with toks := s.toks + 1 }) →
  wpAny (model prog w) A (getAttr (.ref ca) (nmC i) true) Q E s
theorem meth_lookup : ∀ k p, mfAll k = some p → typeLookup (.type "object") (nmM k) = pure none ∧ ∀ i, nmM k ≠ nmA i := by
 have nA : ∀ x : Str, x ≠ "raw" → x ≠ "n" → x ≠ "nt" → x ≠ "norm" → x ≠ "is_simple" → ∀ i, x ≠ nmA i := fun x h1 h2 h3 h4 h5 i => by
  unfold nmA
  split <;> assumption
 intro k p h
 match k, h with
 | 0, _ => exact ⟨by rw [typeLookup_type, builtinLookup_eq_fast]; kernel_rfl, nA _ (by decide +kernel) (by decide +kernel) (by decide +kernel) (by decide +kernel) (by decide +kernel)⟩
 | 1, _ => exact ⟨by rw [typeLookup_type, builtinLookup_eq_fast]; kernel_rfl, nA _ (by decide +kernel) (by decide +kernel) (by decide +kernel) (by decide +kernel) (by decide +kernel)⟩
 | 2, _ => exact ⟨by rw [typeLookup_type, builtinLookup_eq_fast]; kernel_rfl, nA _ (by decide +kernel) (by decide +kernel) (by decide +kernel) (by decide +kernel) (by decide +kernel)⟩
 | k + 3, h => exact no h
section
variable {prog : Program} {w : World} {hT : Heap} {sa : Scope} {code ca : Addr} {mN : Str → Option Value} {ad am : Nat → Addr} {ini : Addr}
theorem nok0 (B : Base prog w hT sa code ca mN ad am ini) : NOk (G0 sa code) := ⟨@names_ok V0, B.dotA⟩
theorem nokG (B : Base prog w hT sa code ca mN ad am ini) : NOk (GG sa code) := ⟨@names_ok V0, B.dotA⟩
theorem top_ok (V : Val) (hca : V.cls = ca) (hcode : V.code 0 = code) (B : Base prog w hT sa code ca mN ad am ini) {G : Nms} (hG : G = G0 sa code ∨ G = GG sa code) {T : Tab} (ht0 : T.code = 0) (orc : OrOk T)
  (hfn : ∀ k p, T.fns k = some p → fnAll k = some p ∧ FnOk G hT (ad k) p.1 p.2)
  (hsm : ∀ k ds d, T.sms k ds = some d → ∃ a, Glb hT (nmS k) (.ref a) ∧ (∃ o fd, hT.get? a = some o ∧ o.data = .func fd) ∧ (T.tabs k = false → Meets1 prog w hT a ds d) ∧ (T.tabs k = true → Meets2 prog w hT a ds d))
  (hini : ∀ p, T.ini = some p → FnOk G hT ini p.1 p.2)
  (hmf : ∀ k p, T.mfns k = some p → (mfAll k).isSome = true ∧ FnOk G hT (am k) p.1 p.2)
  (hms : ∀ k o ds d, T.msms k (o :: ds) = some d → isInst o ∧ (mfAll k).isSome = true ∧ Meets1 prog w hT (am k) (o :: ds) d)
  (hfd : ∀ x b e, T.found x = some (b, e) → foundT x = some (b, e))
  (hmac : ∀ k d0 d, T.macs k d0 = some d → ∀ {A : Around} {env : Env} {sc : Scope} {al fr ow : List Addr} {ρ : Env'} {st : St} {s : Shared} {e : Expr} {n : Nat}, (G.mac k).1 sc e = true → Here prog w G.v G.c hT n A env sc al fr ow ρ st s →
   lk (G.mac k).2 ρ = some (some d0) → wpAny (model prog w) A (eval e env) (PostE prog w hT al fr st st s d) FF s) : TopOk prog w G T hT := by
 subst hca
 have gg : G.f = nmF ∧ G.s = nmS ∧ G.m = nmM ∧ G.code = code ∧ NOk G := hG.elim (fun e => e ▸ ⟨rfl, rfl, rfl, rfl, nok0 B⟩) fun e => e ▸ ⟨rfl, rfl, rfl, rfl, nokG B⟩
 have gf := gg.1
 have gs := gg.2.1
 have gm := gg.2.2.1
 have gc := gg.2.2.2.1
 have nk := gg.2.2.2.2
 have some_of : ∀ {k : Nat}, (mfAll k).isSome = true → ∃ p, mfAll k = some p := fun h => Option.isSome_iff_exists.mp h
 refine { toBis := B.bis, nms := nk, codeEq := by rw [ht0]; exact hcode.trans gc.symm, orc := orc, fn := fun k p h => ?_, sm := fun k ds d h => ?_, cls := (m14 mN ({ obj := B.cls, ga := B.ga, gg := B.gg, sa := B.gs, at_ := B.at_, glb := B.glb }) (fun p h => ?_) (fun k p h => ?_) (fun k o ds d h => ?_)), re := B.re, fnd := fun x b e h => ?_, clsA := B.clsA, mac := hmac }
 · refine x02 (hfn k p h) ?_
   intro h1 h2
   exact (m12 (ad k) (gf ▸ (B.fn k p h1).1) h2)
 · refine x14 (hsm k ds d h) ?_
   intro a g nst1 m m2
   obtain ⟨o, fd, h1, h2⟩ := nst1
   exact (m35 a o fd (gs ▸ g) h1 h2 m m2)
 · refine x23 B.init.2.1 ?_
   intro o fd h1 h2 h3
   exact (m13 ini B.init.1 (m12 o h1 h2) (hini p h))
 · refine x02 (hmf k p h) ?_
   intro h1 h2
   refine x11 (some_of h1) ?_
   intro q hq
   refine x23 ((B.mth k q hq).2.1) ?_
   intro o fd h3 h4 h5
   exact (m15 (am k) (gm ▸ (B.mth k q hq).1) (m12 o h3 h4) (gm ▸ (meth_lookup k q hq).1) (gm ▸ (meth_lookup k q hq).2) h2)
 · refine x03 (hms k o ds d h) ?_
   intro hi h1 m
   refine x11 (some_of h1) ?_
   intro q hq
   refine x23 ((B.mth k q hq).2.1) ?_
   intro ob fd h3 h4 h5
   exact ⟨hi, am k, ob, fd, gm ▸ (B.mth k q hq).1, h3, h4, h5, gm ▸ (meth_lookup k q hq).1, gm ▸ (meth_lookup k q hq).2, m⟩
 · have := hfd x b e h
   unfold foundT at this
   split at this
   · rename_i hf
     exact ⟨this, by have := Nat.le_of_ble_eq_true hf; exact Nat.lt_of_le_of_lt ‹_› (by decide)⟩
   · exact no this
end
end Mine
end
noncomputable section
open PySem PySem.W PyProof.Rows PySem.Spec PySem.Calls
namespace Mine
noncomputable abbrev VA (ca code : Addr) : Val := { cls := ca, dat := fun j => .none, txt := fun j => [], tok := fun j => 0, opq := fun j => .none, opqH := fun j => rfl, room := 0, code := fun j => code, refl := fun j st f j h => refl_none st f h }
theorem all80_inv {p : Nat → Bool} (h : all80 p = true) {r : Nat} (hr : r < 80) : p r = true := by
 unfold all80 at h
 exact List.all_eq_true.mp h r (List.mem_range.mpr hr)
theorem clL_nI {dat : Nat → D} {f : Nat} : ∀ l : List Nat, clL (cl dat (f + 1)) (l.map nI) = some (l.map nI)
 | [] => rfl
 | x :: r => by
  have h := clL_nI (dat := dat) (f := f) r
  simp only [List.map_cons, clL, h]
  rfl
theorem cl_str {dat : Nat → D} {s : List Nat} : cl dat 20 (.str s) = some (.str s) := rfl
theorem cl_nI {dat : Nat → D} {n : Nat} : cl dat 20 (nI n) = some (nI n) := rfl
theorem clL_one {rec : D → Option D} {x y : D} {xs ys : List D} (h : rec x = some y) (h2 : clL rec xs = some ys) : clL rec (x :: xs) = some (y :: ys) := by
 show (match rec x with | some y => (match clL rec xs with | some ys => some (y :: ys) | none => none) | none => none) = _
 rw [h, h2]
theorem cl_tup {dat : Nat → D} {f : Nat} {xs ys : List D} (h : clL (cl dat f) xs = some ys) : cl dat (f + 1) (.tup xs) = some (.tup ys) := by
 show (match clL (cl dat f) xs with | some ys => some (D.tup ys) | none => none) = _
 rw [h]
theorem cl_inst {dat : Nat → D} {f : Nat} {xs ys : List D} (h : clL (cl dat f) xs = some ys) : cl dat (f + 1) (.inst xs) = some (.inst ys) := by
 show (match clL (cl dat f) xs with | some ys => some (D.inst ys) | none => none) = _
 rw [h]
theorem cl_list {dat : Nat → D} {f : Nat} {xs ys : List D} (h : clL (cl dat f) xs = some ys) : cl dat (f + 1) (.list xs) = some (.list ys) := by
 show (match clL (cl dat f) xs with | some ys => some (D.list ys) | none => none) = _
 rw [h]
theorem cl_line' {dat : Nat → D} (f r : Nat) : cl dat (f + 4) (lineD r) = some (lineD r) :=
 cl_inst (f := f + 3) (clL_one rfl (clL_one rfl (clL_one rfl (clL_one (cl_tup (f := f + 2) (clL_one (cl_tup (f := f + 1) (clL_nI (f := f) _)) (clL_one rfl rfl))) (clL_one rfl rfl)))))
theorem cl_line {dat : Nat → D} (r : Nat) : cl dat 20 (lineD r) = some (lineD r) := cl_line' 16 r
theorem cl_walk {dat : Nat → D} (r : Nat) : cl dat 20 (walkD r) = some (walkD r) := rfl
section
variable {prog : Program} {w : World} {hT : Heap} {sa : Scope} {code ca : Addr} {mN : Str → Option Value} {ad am : Nat → Addr} {ini : Addr} {V V' : Val} {G : Nms} {T : Tab} {n : Nat}
theorem frz_of {dat : Nat → D} {st : St} {dd d' d0 : D} (h : unob st dd = some d') (e : cl dat 20 d' = some d0) : frz dat 20 st dd = some d0 := by
 unfold frz
 rw [h]
 exact e
theorem meets_okF (hc : V.cls = V'.cls) (TO : @TopOk V' prog w G T hT) {a : Addr} {p : List Nat × List Y} (FO : FnOk G hT a p.1 p.2) (hr : V'.room + 2 * n + 1 ≤ V.room) {ds ds' es : List D} {d' d0 d2 : D}
  (h : okF T n p ds' d' = true) (e1 : clL (cl V.dat 20) ds = some es) (e2 : clL (cl V'.dat 20) ds' = some es) (e3 : cl V'.dat 20 d' = some d0) (e4 : cl V.dat 20 d2 = some d0) : @Meets1 V prog w hT a ds d2 := by
 refine x43 (okF_inv h) ?_
 intro ρ0 dd ρ' st b e u
 exact meets_run hc TO FO hr e1 e2 b e (frz_of u e3) e4
theorem mac_okX (hc : V.cls = V'.cls) (TO : @TopOk V' prog w G T hT) (hr : V'.room + 2 * n ≤ V.room) {A : Around} {env : Env} {sc : Scope} {al fr ow : List Addr} {ρ : Env'} {st : St} {s : Shared} {n' i ff : Nat} {x : X} {e : Expr} {d d' dd d0 d1 d2 : D} (H : @Here V prog w G.v G.c hT n' A env sc al fr ow ρ st s)
  (hi : lk i ρ = some (some d)) (h : okX T n [(i, some d')] x dd = true) (e1 : cl V.dat 20 d = some d0) (e2 : cl V'.dat 20 d' = some d0) (hx : cE G ff sc x e = true) (e3 : cl V'.dat 20 dd = some d1) (e4 : cl V.dat 20 d2 = some d1) :
  wpAny (model prog w) A (eval e env) (@PostE V prog w hT al fr st st s d2) FF s := by
 refine x22 (okX_inv h) ?_
 intro d3 st3 e u
 exact mac_run hc TO hr H hi e1 e2 e hx (frz_of u e3) e4
theorem fnA_all : ∀ k p, fnA k = some p → fnAll k = some p := by
 intro k p h
 unfold fnA at h
 split at h
 · exact h
 · exact h
 · exact no h
theorem topA' (V : Val) (hca : V.cls = ca) (hcode : V.code 0 = code) (B : Base prog w hT sa code ca mN ad am ini) : @TopOk V prog w (G0 sa code) TA hT := by
 refine top_ok V hca hcode B (.inl rfl) rfl (@OrOk.mk V _ (fun j k b h => by contradiction) (fun k b h => by exact nomatch h) (fun k h => by exact nomatch h) (fun j k b h => by contradiction)) (fun k p h => ⟨fnA_all k p h, (B.fn k p (fnA_all k p h)).2⟩) (fun k ds d h => by contradiction) (fun p h => ?_) (fun k p h => ?_) (fun k o ds d h => by contradiction) (fun x b e h => h) (fun k d0 d h => by contradiction)
 · cases h; exact B.init.2.2
 · have : mfAll k = some p := by
     have h : mfA k = some p := h
     unfold mfA at h
     split at h
     · exact h
     · exact h
     · exact no h
   exact ⟨by rw [this]; rfl, (B.mth k p this).2.2⟩
theorem topA (B : Base prog w hT sa code ca mN ad am ini) : @TopOk (VA ca code) prog w (G0 sa code) TA hT := topA' (VA ca code) rfl rfl B
variable (B : Base prog w hT sa code ca mN ad am ini) (hc : V.cls = ca) (hr : 29 ≤ V.room)
include B hc hr
theorem lead_meets {r : Nat} (h80 : r < 80) {d d2 : D} (h : cl V.dat 20 d = some (.num 80 r)) (h2 : cl V.dat 20 d2 = some (.str (leadS r))) : @Meets1 V prog w hT (ad 13) [d] d2 :=
 meets_okF (V' := VA ca code) hc (topA B) (B.fn 13 _ rfl).2 (n := 12) (by show 0 + 2 * 12 + 1 ≤ V.room; lia) (all80_inv lead_ok h80) (clL_one h rfl) rfl cl_str h2
theorem run_meets {r : Nat} (h80 : r < 80) {d d2 : D} (h : cl V.dat 20 d = some (lineD r)) (h2 : cl V.dat 20 d2 = some (nI (runD r))) : @Meets1 V prog w hT (am 0) [d] d2 :=
 meets_okF (V' := VA ca code) hc (topA B) (B.mth 0 _ rfl).2.2 (n := 12) (by show 0 + 2 * 12 + 1 ≤ V.room; lia) (all80_inv run_ok80 h80) (clL_one h rfl) (clL_one (cl_line r) rfl) cl_nI h2
theorem lev_meets {r ts : Nat} (h80 : r < 80) (hts : ts ∈ [1, 2, 3, 4]) {d d2 : D} (h : cl V.dat 20 d = some (lineD r)) (h2 : cl V.dat 20 d2 = some (nI (levD r ts))) : @Meets1 V prog w hT (am 1) [d, nI ts] d2 := by
 have q := all80_inv lev_ok h80
 unfold chkLev at q
 exact meets_okF (V' := VA ca code) hc (topA B) (B.mth 1 _ rfl).2.2 (n := 12) (by show 0 + 2 * 12 + 1 ≤ V.room; lia) (List.all_eq_true.mp q ts hts) (clL_one h (clL_one cl_nI rfl)) (clL_one (cl_line r) (clL_one cl_nI rfl)) cl_nI h2
theorem line_mac {r : Nat} (h80 : r < 80) {A : Around} {env : Env} {sc : Scope} {al fr ow : List Addr} {ρ : Env'} {st : St} {s : Shared} {n' : Nat} {e : Expr} {d d2 : D} (H : @Here V prog w (G0 sa code).v (G0 sa code).c hT n' A env sc al fr ow ρ st s)
  (hi : lk 30 ρ = some (some d)) (hx : cE (G0 sa code) 30 sc mac0X e = true) (h : cl V.dat 20 d = some (.str (leadS r))) (h2 : cl V.dat 20 d2 = some (lineD r)) : wpAny (model prog w) A (eval e env) (@PostE V prog w hT al fr st st s d2) FF s :=
 mac_okX (V' := VA ca code) hc (topA B) (n := 14) (by show 0 + 2 * 14 ≤ V.room; exact Nat.lt_of_succ_lt ‹_›) H hi (all80_inv line_ok h80) h cl_str hx (cl_line r) h2
theorem walk_mac {r : Nat} (h80 : r < 80) {A : Around} {env : Env} {sc : Scope} {al fr ow : List Addr} {ρ : Env'} {st : St} {s : Shared} {n' : Nat} {e : Expr} {d d2 : D} (H : @Here V prog w (G0 sa code).v (G0 sa code).c hT n' A env sc al fr ow ρ st s)
  (hi : lk 30 ρ = some (some d)) (hx : cE (G0 sa code) 30 sc mac1X e = true) (h : cl V.dat 20 d = some (.str (leadS r))) (h2 : cl V.dat 20 d2 = some (walkD r)) : wpAny (model prog w) A (eval e env) (@PostE V prog w hT al fr st st s d2) FF s :=
 mac_okX (V' := VA ca code) hc (topA B) (n := 14) (by show 0 + 2 * 14 ≤ V.room; exact Nat.lt_of_succ_lt ‹_›) H hi (all80_inv walk_ok h80) h cl_str hx (cl_walk r) h2
end
end Mine
end
noncomputable section
open PySem PySem.W PyProof.Rows PySem.Spec PySem.Calls
namespace Mine
noncomputable def datB (r q : Nat) : Nat → D
 | 0 => lineD r | 1 => lineD q
 | 5 => nI (levD r 1) | 6 => nI (levD r 2) | 7 => nI (levD r 3) | 8 => nI (levD r 4)
 | 9 => nI (levD q 1) | 10 => nI (levD q 2) | 11 => nI (levD q 3) | 12 => nI (levD q 4)
 | _ => .none
theorem datB_big {r q k : Nat} (h : 16 ≤ k) : datB r q k = .none := by
 obtain ⟨m, rfl⟩ := Nat.exists_eq_add_of_le' h
 rfl
theorem msB_inv {m n k : Nat} {l : List D} {d : D} (h : msB m n k l = some d) : (k = 0 ∧ l = [.sym 0] ∧ d = nI m) ∨ (k = 0 ∧ l = [.sym 1] ∧ d = nI n) ∨
  ∃ ts, k = 1 ∧ (ts = 1 ∨ ts = 2 ∨ ts = 3 ∨ ts = 4) ∧ ((l = [.sym 0, nI ts] ∧ d = .sym (4 + ts)) ∨ (l = [.sym 1, nI ts] ∧ d = .sym (8 + ts))) := by
 have small : ∀ ts, in14 ts = true → ts = 1 ∨ ts = 2 ∨ ts = 3 ∨ ts = 4 := fun ts e => by
  unfold in14 at e
  simp only [Bool.and_eq_true] at e
  have e1 := Nat.le_of_ble_eq_true e.1
  have e2 := Nat.le_of_ble_eq_true e.2
  lia
 match k, h with
 | 0, h =>
  refine x12 (oneSym_inv h) ?_
  intro j eqv1 h
  subst eqv1
  match j, h with
  | 0, h => exact .inl ⟨rfl, rfl, (so h).symm⟩
  | 1, h => exact .inr (.inl ⟨rfl, rfl, (so h).symm⟩)
  | _ + 2, h => exact no h
 | 1, h =>
  refine x22 (conF_inv h) ?_
  intro a r eqv1 h
  subst eqv1
  refine x12 (symF_inv h) ?_
  intro j eqv1 h
  subst eqv1
  refine x22 (conF_inv h) ?_
  intro b r eqv1 h
  subst eqv1
  refine x12 (natF_inv h) ?_
  intro ts eqv1 h
  subst eqv1
  obtain ⟨rfl, h⟩ := nilF_inv h
  obtain ⟨e, h⟩ := ifI0 h
  refine .inr (.inr (m13 ts rfl (small ts e) ?_))
  match j, h with
  | 0, h => exact .inl ⟨rfl, (so h).symm⟩
  | 1, h => exact .inr ⟨rfl, (so h).symm⟩
  | _ + 2, h => exact no h
 | _ + 2, h => exact no h
noncomputable abbrev VB (ca code r q room : Nat) : Val := { cls := ca, dat := datB r q, txt := fun y => [], tok := fun y => 0, opq := fun y => .none, opqH := fun y => rfl, room := room, code := fun y => code, refl := fun k st f h h2 => by rw [datB_big h]; exact refl_none st f h2 }
noncomputable def bitD (r q ts : Nat) : Bool := Nat.ble (levD q ts) (levD r ts)
noncomputable abbrev TBD (r q : Nat) : Tab := TB (runD r) (runD q) (bitD r q 1) (bitD r q 2) (bitD r q 3) (bitD r q 4)
noncomputable def sizesD (r q : Nat) : List Nat := sizesS (maxN (runD r) (runD q)) (bitD r q 1) (bitD r q 2) (bitD r q 3) (bitD r q 4)
noncomputable def tupD (r q ts : Nat) : D := .tup [nI ts, nI (levD r ts), nI (levD q ts)]
noncomputable def witD (r q : Nat) : D := .list ((sizesD r q).map (tupD r q))
theorem run_lt : (all80 fun r => Nat.blt (runD r) 4) = true := by decide +kernel
theorem all16_inv {p : Bool → Bool → Bool → Bool → Bool} (h : all16 p = true) (a b c d : Bool) : p a b c d = true := by
 unfold all16 at h
 have mem : ∀ x : Bool, x ∈ [false, true] := fun x => by induction x using Bool.casesOn <;> simp
 exact List.all_eq_true.mp (List.all_eq_true.mp (List.all_eq_true.mp (List.all_eq_true.mp h a (mem a)) b (mem b)) c (mem c)) d (mem d)
theorem all4_inv {p : Nat → Bool} (h : all4 p = true) {m : Nat} (hm : m < 4) : p m = true := List.all_eq_true.mp h m (List.mem_range.mpr hm)
theorem sizes_mem {M : Nat} {b1 b2 b3 b4 : Bool} {ts : Nat} (h : ts ∈ sizesS M b1 b2 b3 b4) : ts ∈ [1, 2, 3, 4] := (List.mem_filter.mp h).1
theorem cl_tupB {r q : Nat} {f : Nat} {ts : Nat} (h : ts ∈ [1, 2, 3, 4]) : cl (datB r q) (f + 3) (tupB ts) = some (tupD r q ts) := by
 simp only [List.mem_cons, List.not_mem_nil, or_false] at h
 rcases h with rfl | rfl | rfl | rfl <;> rfl
theorem clL_tupB {r q : Nat} {f : Nat} : ∀ l : List Nat, (∀ ts ∈ l, ts ∈ [1, 2, 3, 4]) → clL (cl (datB r q) (f + 3)) (l.map tupB) = some (l.map (tupD r q))
 | [], _ => rfl
 | x :: l, h => clL_one (cl_tupB (h x (List.mem_cons_self))) (clL_tupB l fun ts ht => h ts (List.mem_cons_of_mem _ ht))
theorem cl_wits {r q M : Nat} {b1 b2 b3 b4 : Bool} : cl (datB r q) 20 (witsB M b1 b2 b3 b4) = some (.list ((sizesS M b1 b2 b3 b4).map (tupD r q))) := cl_list (f := 19) (clL_tupB (f := 16) _ fun j h => sizes_mem h)
theorem cl_tupD {dat : Nat → D} {r q f ts : Nat} : cl dat (f + 2) (tupD r q ts) = some (tupD r q ts) := rfl
theorem clL_tupD {dat : Nat → D} {r q f : Nat} : ∀ l : List Nat, clL (cl dat (f + 2)) (l.map (tupD r q)) = some (l.map (tupD r q))
 | [] => rfl
 | _ :: l => clL_one cl_tupD (clL_tupD l)
theorem cl_wit {dat : Nat → D} {r q f : Nat} : cl dat (f + 3) (witD r q) = some (witD r q) := cl_list (f := f + 2) (clL_tupD (f := f) _)
theorem sizes_mask (M : Nat) (b1 b2 b3 b4 : Bool) : sizesS M b1 b2 b3 b4 = sizesS 3 (Nat.ble 1 (M + 1) && b1) (Nat.ble 2 (M + 1) && b2) (Nat.ble 3 (M + 1) && b3) (Nat.ble 4 (M + 1) && b4) := by
 unfold sizesS
 refine List.filter_congr fun ts h => ?_
 simp only [List.mem_cons, List.not_mem_nil, or_false] at h
 rcases h with rfl | rfl | rfl | rfl <;> rfl
theorem cl_walkB1 (r q : Nat) : cl (datB r q) 20 (walkB (runD r) 4) = some (walkD r) := rfl
theorem cl_walkB2 (r q : Nat) : cl (datB r q) 20 (walkB (runD q) 8) = some (walkD q) := rfl
section
variable {prog : Program} {w : World} {hT : Heap} {sa : Scope} {code ca : Addr} {mN : Str → Option Value} {ad am : Nat → Addr} {ini : Addr} {V : Val}
theorem geB_ok (r q : Nat) {j k : Nat} {b : Bool} (h : geB (bitD r q 1) (bitD r q 2) (bitD r q 3) (bitD r q 4) j k = some b) : ∃ a c, datB r q j = .int a ∧ datB r q k = .int c ∧ leInt c a = b := by
 unfold geB at h
 split at h
 · rename_i e
   cases h
   simp only [Bool.and_eq_true] at e
   obtain ⟨⟨e1, e2⟩, e3⟩ := e
   have e1 := Nat.le_of_ble_eq_true e1
   have e2 := Nat.le_of_ble_eq_true e2
   have e3 := Nat.eq_of_beq_eq_true e3
   subst e3
   have : j = 5 ∨ j = 6 ∨ j = 7 ∨ j = 8 := by lia
   rcases this with rfl | rfl | rfl | rfl <;> exact (m23 _ _ rfl rfl rfl)
 · exact no h
theorem topB (B : Base prog w hT sa code ca mN ad am ini) {r q room : Nat} (h1 : r < 80) (h2 : q < 80) (hr : 29 ≤ room) : @TopOk (VB ca code r q room) prog w (G0 sa code) (TBD r q) hT := by
 refine top_ok (VB ca code r q room) rfl rfl B (.inl rfl) rfl (@OrOk.mk (VB ca code r q room) _ (fun j k b h => geB_ok r q h) (fun k b h => by contradiction) (fun k h => by contradiction) (fun j k b h => by contradiction)) (fun k p h => by contradiction) (fun k ds d h => by contradiction) (fun p h => by contradiction) (fun k p h => by contradiction) (fun k o ds d h => ?_) (fun x b e h => by contradiction) (fun k d0 d h => by contradiction)
 rcases msB_inv h with ⟨rfl, e, rfl⟩ | ⟨rfl, e, rfl⟩ | ⟨ts, rfl, this, ⟨e, rfl⟩ | ⟨e, rfl⟩⟩
 · cases e
   exact ⟨⟨_, rfl⟩, rfl, run_meets (V := VB ca code r q room) B rfl hr h1 (cl_line' 15 r) cl_nI⟩
 · cases e
   exact ⟨⟨_, rfl⟩, rfl, run_meets (V := VB ca code r q room) B rfl hr h2 (cl_line' 15 q) cl_nI⟩
 · cases e
   refine ⟨⟨_, rfl⟩, rfl, lev_meets (V := VB ca code r q room) B rfl hr h1 (ts := ts) (by simpa using this) (cl_line' 15 r) ?_⟩
   rcases this with rfl | rfl | rfl | rfl <;> rfl
 · cases e
   refine ⟨⟨_, rfl⟩, rfl, lev_meets (V := VB ca code r q room) B rfl hr h2 (ts := ts) (by simpa using this) (cl_line' 15 q) ?_⟩
   rcases this with rfl | rfl | rfl | rfl <;> rfl
variable (B : Base prog w hT sa code ca mN ad am ini) (hc : V.cls = ca) (hr : 58 ≤ V.room) {r q : Nat} (h1 : r < 80) (h2 : q < 80)
include B hc hr h1 h2
theorem nlw_meets {d1 d2 d3 : D} (e1 : cl V.dat 20 d1 = some (lineD r)) (e2 : cl V.dat 20 d2 = some (lineD q)) (e3 : cl V.dat 20 d3 = some (witD r q)) : @Meets1 V prog w hT (am 2) [d1, d2] d3 :=
 meets_okF (V' := VB ca code r q 29) hc (topB B h1 h2 (Nat.le_refl _)) (B.mth 2 _ rfl).2.2 (n := 14) (by show 29 + 2 * 14 + 1 ≤ V.room; assumption)
  (all16_inv (all4_inv (all4_inv nlw_ok (Nat.le_of_ble_eq_true (all80_inv run_lt h1))) (Nat.le_of_ble_eq_true (all80_inv run_lt h2))) _ _ _ _) (clL_one e1 (clL_one e2 rfl)) (clL_one (cl_line' 15 r) (clL_one (cl_line' 15 q) rfl)) cl_wits e3
theorem wit_meets {d1 d2 d3 : D} (e1 : cl V.dat 20 d1 = some (walkD r)) (e2 : cl V.dat 20 d2 = some (walkD q)) (e3 : cl V.dat 20 d3 = some (witD r q)) : @Meets1 V prog w hT (ad 9) [d1, d2] d3 :=
 meets_okF (V' := VB ca code r q 29) hc (topB B h1 h2 (Nat.le_refl _)) (B.fn 9 _ rfl).2 (n := 14) (by show 29 + 2 * 14 + 1 ≤ V.room; assumption)
  (all16_inv (all4_inv (all4_inv wit_ok (Nat.le_of_ble_eq_true (all80_inv run_lt h1))) (Nat.le_of_ble_eq_true (all80_inv run_lt h2))) _ _ _ _) (clL_one e1 (clL_one e2 rfl)) (clL_one (cl_walkB1 r q) (clL_one (cl_walkB2 r q) rfl)) cl_wits e3
theorem words_meets {d1 d2 : D} (e1 : cl V.dat 20 d1 = some (witD r q)) (e2 : cl V.dat 20 d2 = some (.str (wordsS (sizesD r q)))) : @Meets1 V prog w hT (ad 8) [d1] d2 := by
 have m := sizes_mask (maxN (runD r) (runD q)) (bitD r q 1) (bitD r q 2) (bitD r q 3) (bitD r q 4)
 have k := all16_inv words_ok (Nat.ble 1 (maxN (runD r) (runD q) + 1) && bitD r q 1) (Nat.ble 2 (maxN (runD r) (runD q) + 1) && bitD r q 2) (Nat.ble 3 (maxN (runD r) (runD q) + 1) && bitD r q 3) (Nat.ble 4 (maxN (runD r) (runD q) + 1) && bitD r q 4)
 unfold chkWords witsB at k
 rw [← m] at k
 exact meets_okF (V' := VB ca code r q 0) hc (topA' (VB ca code r q 0) rfl rfl B) (B.fn 8 _ rfl).2 (n := 14) (by show 0 + 2 * 14 + 1 ≤ V.room; lia) k (clL_one e1 rfl) (clL_one (cl_wits (M := maxN (runD r) (runD q))) rfl) cl_str e2
end
end Mine
end
noncomputable section
open PySem PySem.W PyProof.Rows PySem.Spec PySem.Calls
namespace Mine
noncomputable def cellB : List Y := [.augSub (.var 73) (.bin .mod false (.var 20) (.kint 4)) (.var 33)]
noncomputable def cellρ (L : D) (k : Int) (n : Int) : Env' := [(34, some L), (73, some (.ob 0)), (20, some (.int k)), (33, some (.int n))]
noncomputable def cellSt (v : Nat) (c0 c1 c2 c3 : Int) : St := ⟨1, [(0, v, .list [.int c0, .int c1, .int c2, .int c3])]⟩
theorem cell_same (L : D) (k : Nat) (n : Int) (v : Nat) (c0 c1 c2 c3 : Int) : (run TA 11).2 (cellρ L k n) (cellSt v c0 c1 c2 c3) cellB = (run TA 11).2 (cellρ L k n) (cellSt v c0 c1 c2 c3) [.augSub (.var 73) (.kint (Int.fmod (k : Int) 4)) (.var 33)] := by kernel_rfl
theorem cell_body (L : D) (k : Nat) (n : Int) (v : Nat) (c0 c1 c2 c3 : Int) : ∃ e0 e1 e2 e3, (run TA 11).2 (cellρ L k n) (cellSt v c0 c1 c2 c3) cellB = some (.next, cellρ L k n, cellSt (v + 1) e0 e1 e2 e3) := by
 rw [cell_same]
 have h : Int.fmod (k : Int) 4 = Int.ofNat (k % 4) := by rw [Int.fmod_eq_emod_of_nonneg _ (by decide)]; rfl
 have h2 : k % 4 = 0 ∨ k % 4 = 1 ∨ k % 4 = 2 ∨ k % 4 = 3 := by lia
 rcases h2 with q | q | q | q <;> rw [h, q] <;> exact (m41 _ _ _ _ rfl)
theorem cell_loop (L : D) : ∀ (ns : List Int) (k : Nat) (n : Int) (kk : Int) (v : Nat) (c0 c1 c2 c3 : Int), ∃ k' n' v' e0 e1 e2 e3, loopE (run TA 11).2 20 33 cellB false k (cellρ L kk n) (cellSt v c0 c1 c2 c3) (ns.map .int) = some (.next, cellρ L k' n', cellSt v' e0 e1 e2 e3)
 | [], k, n, kk, v, c0, c1, c2, c3 => (m71 _ _ _ _ _ _ _ rfl)
 | m :: ns, k, n, kk, v, c0, c1, c2, c3 => by
  refine x41 (cell_body L k m v c0 c1 c2 c3) ?_
  intro e0 e1 e2 e3 h
  refine x71 (cell_loop L ns (k + 1) m k (v + 1) e0 e1 e2 e3) ?_
  intro k' n' v' f0 f1 f2 f3 h2
  refine (m71 k' n' v' f0 f1 f2 f3 ?_)
  show (match (run TA 11).2 (cellρ L k m) (cellSt v c0 c1 c2 c3) cellB with | some (.next, ρ, st) => loopE (run TA 11).2 20 33 cellB false (k + 1) ρ st (ns.map .int) | some (.brk, ρ, st) => some (.next, ρ, st) | some (.ret d, ρ, st) => some (.ret d, ρ, st) | none => none) = _
  rw [h]
  exact h2
theorem forE_val {ev : Ev} {ex : Ex} {ρ : Env'} {st st' : St} {i j : Nat} {x : X} {body : List Y} {o : Bool} {xs : List D} (h : ev ρ st x = some (.list xs, st')) : ex1 ev ex ρ st (.forE i j x body o) = loopE ex i j body o 0 ρ st' xs := by
 show (match ev ρ st x with
  | some (.list xs, st) => loopE ex i j body o 0 ρ st xs
  | _ => none) = _
 rw [h]
noncomputable def cellA : Y := .asg (.var 73) (.list true [.kint 217, .kint 82, .kint 185, .kint 336])
theorem cellT_eq : cellT.2 = [cellA, .forE 20 33 (.var 34) cellB false, .ret (.var 73)] := rfl
theorem cells_run (ns : List Int) : ∃ c0 c1 c2 c3 ρ' v, (run TA 12).2 [(34, some (.list (ns.map .int)))] ⟨0, []⟩ cellT.2 = some (.ret (.ob 0), ρ', cellSt v c0 c1 c2 c3) := by
 have key : ∀ ρ st, loopE (run TA 11).2 20 33 cellB false 0 [(34, some (.list (ns.map .int))), (73, some (.ob 0))] (cellSt 0 217 82 185 336) (ns.map .int) = some (.next, ρ, st) → (run TA 12).2 [(34, some (.list (ns.map .int)))] ⟨0, []⟩ cellT.2 = exL (run TA 11).1 (run TA 11).2 ρ st [.ret (.var 73)] := fun ρ st h => by
  show exL (run TA 11).1 (run TA 11).2 _ _ _ = _
  rw [cellT_eq, exL_next (ρ' := [(34, some (.list (ns.map .int))), (73, some (.ob 0))]) (st' := cellSt 0 217 82 185 336) rfl]
  exact exL_next ((forE_val rfl).trans h)
 match ns with
 | [] => exact (m61 217 82 185 336 _ 0 ((key _ _ rfl).trans rfl))
 | n :: ns =>
  refine x41 (cell_body (.list ((n :: ns).map .int)) 0 n 0 217 82 185 336) ?_
  intro e0 e1 e2 e3 h
  refine x71 (cell_loop (.list ((n :: ns).map .int)) ns 1 n 0 1 e0 e1 e2 e3) ?_
  intro k' n' v' f0 f1 f2 f3 h2
  refine (m61 f0 f1 f2 f3 (cellρ (.list ((n :: ns).map .int)) k' n') v' ?_)
  rw [key (cellρ (.list ((n :: ns).map .int)) k' n') (cellSt v' f0 f1 f2 f3) ?_]
  · rfl
  · show (match (run TA 11).2 (cellρ (.list ((n :: ns).map .int)) (0 : Nat) n) (cellSt 0 217 82 185 336) cellB with | some (.next, ρ, st) => loopE (run TA 11).2 20 33 cellB false (0 + 1) ρ st (ns.map .int) | some (.brk, ρ, st) => some (.next, ρ, st) | some (.ret d, ρ, st) => some (.ret d, ρ, st) | none => none) = _
    rw [h]
    exact h2
theorem rows_ok : okF TA 14 fn7_law_rows [] rowsD = true := by decide +kernel
theorem clL_ints {dat : Nat → D} {f : Nat} : ∀ l : List Int, clL (cl dat (f + 1)) (l.map .int) = some (l.map .int)
 | [] => rfl
 | _ :: l => clL_one rfl (clL_ints l)
section
variable {prog : Program} {w : World} {hT : Heap} {sa : Scope} {code ca : Addr} {mN : Str → Option Value} {ad am : Nat → Addr} {ini : Addr} {V : Val}
variable (B : Base prog w hT sa code ca mN ad am ini) (hc : V.cls = ca) (hr : 58 ≤ V.room)
include B hc hr
theorem rows_meets {d : D} (h : cl V.dat 20 d = some rowsD) : @Meets1 V prog w hT (ad 7) [] d :=
 meets_okF (V' := VA ca code) hc (topA B) (B.fn 7 _ rfl).2 (n := 14) (by show 0 + 2 * 14 + 1 ≤ V.room; lia) rows_ok rfl rfl (d0 := rowsD) rfl h
end
end Mine
end
noncomputable section
open PySem PySem.W PyProof.Rows PySem.Spec PySem.Calls
namespace Mine
section
variable {prog : Program} {w : World} {A : Around} {E : Value → Shared → Prop} {s : Shared}
theorem gen_made {env : Env} {elt iter : Expr} {x : Str} {px : Pos} {scope : Scope} {cl : List (Str × Addr)} {pos : Pos} {Q : Value → Shared → Prop}
  (hh : A.handled = none) (hco : scope.isCoroutine = false) (hclos : closureFor scope env = pure cl) (hcell : ∀ y ∈ scope.names, y.2 ≠ .cell) (h0 : scope.names.lookup (".0" : Str) = some NameKind.local)
  (hx : scope.names.lookup x = some .local) (hkind : scope.kind = .function) (hroom : A.depth < recursionLimit)
  (h : wpAny (model prog w) A (eval iter env) (fun xv s₁ => wpAny (model prog w) A (pyIter xv) (fun it s₂ => s₂.heap.NoLimit ∧
   wpAny (model prog w) A (genexprCode env pos (env.qual ++ "<genexpr>") scope) (fun code s₃ => wpAny (model prog w) A (builtinsFor env.globals env.builtins) (fun bi s₄ =>
    ∃ I fp wr n₀ P St₀ pz F FP, it = .ref I ∧ (∀ A' : Around, A'.handled = none → Walks prog w A' I fp wr n₀ P St₀) ∧ St₀ 0 s₄.heap ∧ (∀ b ∈ fp, b ∈ FP) ∧ (∀ b ∈ FP, b < s₄.heap.objs.size) ∧ cStatics ∈ FP ∧ s₄.heap.NoLimit ∧ cStatics ∉ wr ∧
     (∀ href : Heap, (∀ b o, s₄.heap.get? b = some o → href.get? b = some o) →
      QuietGenD prog w (genEnv scope cl s₄.heap.objs.size code bi env) x [] elt FP wr P pz F href (A.depth + 1) (A.units + 8)) ∧
     (∀ a h₅ tk gs, gs.bare = true → s₄.heap.objs.size < a → h₅.objs.size = a + 1 → (∀ b o, s₄.heap.get? b = some o → h₅.get? b = some o) →
      WalksS prog w A.in4 a (a :: s₄.heap.objs.size :: FP) (s₄.heap.objs.size :: wr) (GenOnlyQ s₄.gens.size) (passing pz n₀ 0).length
       (fun j y => ∃ i, (passing pz n₀ 0)[j]? = some i ∧ F i y) (GenAt prog w A.in4 a s₄.gens.size s₄.heap.objs.size FP wr pz n₀ F) →
      GenAt prog w A.in4 a s₄.gens.size s₄.heap.objs.size FP wr pz n₀ F 0 { s₄ with gens := s₄.gens.push gs, toks := tk, heap := h₅ } →
      Q (.ref a) { s₄ with gens := s₄.gens.push gs, toks := tk, heap := h₅ })) E s₃) E s₂) E s₁) E s)
  (hs : ∀ x, genFold iter env x = pure x) :
  wpAny (model prog w) A (eval (.GeneratorExp elt [⟨.Name x px, iter, [], 0⟩] scope pos) env) Q E s := by
 refine wpAny_GeneratorExp_make hco hclos hcell h0 hkind hroom (wpAny_mono h (fun xv s₁ h₁ => wpAny_mono h₁ (fun it s₂ h₂ => ⟨h₂.1, wpAny_mono h₂.2 (fun code s₃ h₃ => wpAny_mono h₃ (fun bi s₄ h₄ => ?_)
  fun z z e => e) fun z z e => e⟩) fun z z e => e) fun z z e => e) hs
 obtain ⟨I, fp, wr, n₀, P, St₀, pz, F, FP, rfl, W₀, hst, hfp, hFP, hcs, hl₄, hcw, hq, hQ⟩ := h₄
 have hclt : cStatics < s₄.heap.objs.size := hFP _ hcs
 intro h' hn' hs'
 have hsz : h'.objs.size = s₄.heap.objs.size + 1 := by rw [hs'.1, Heap.size_push]
 have keep' : ∀ b o, s₄.heap.get? b = some o → h'.get? b = some o := fun b o e => hs'.extBut b o (Nat.ne_of_lt (Heap.lt_size e)) (Heap.get?_push_of_some _ e)
 have hsub : ∀ b ∈ wr, b ∈ FP := fun b hb => hfp b ((W₀ A hh).sub b hb)
 have haC : h'.objs.size ≠ s₄.heap.objs.size := by rw [hsz]; exact Nat.succ_ne_self _
 have haf : h'.objs.size ∉ FP := fun hm => by have := hFP _ hm; lia
 have keep₅ : ∀ b o, s₄.heap.get? b = some o → (h'.push { cls := .type "generator", data := .fields #[.int s₄.gens.size 0, .str "<genexpr>" (s₄.toks + 1), .str (env.qual ++ "<genexpr>") (s₄.toks + 1 + 1)] }).get? b = some o :=
  fun b o e => Heap.get?_push_of_some _ (keep' b o e)
 refine hQ _ _ _ _ rfl (by simp only [*, Nat.lt_succ_self]) (by rw [Heap.size_push]) keep₅ (WalksS.genexpQ (A := A.in4) hh _ _ _ _ wr pz n₀ F haC haf hsub hroom hcs (Nat.ne_of_lt hclt) hcw) ?_
 refine GenAt.freshD (A := A.in4) (cenv := genEnv scope cl s₄.heap.objs.size code bi env) (m := fun y => if y = ".0" then some (.ref I) else none) hh
  (fun A' hA => (W₀ A' hA).mono_fp hfp) pz F hx (by rw [show (genEnv scope cl s₄.heap.objs.size code bi env).scope.kind = .function from hkind]; rfl) hco
  (fun hm => Nat.lt_irrefl _ (hFP _ hm)) (hq _ keep₅) ⟨_, _, _, Heap.get?_push_size _ rfl, rfl, rfl, rfl⟩ (Array.getElem?_push_size ..) ((W₀ A hh).frame _ _ _ hst fun b z o e => keep₅ b o e) (hn'.push _) (hl₄.keeps keep₅)
end
end Mine
end
noncomputable section
set_option tactic.hygienic true
open PySem PySem.W PyProof.Rows PySem.Spec PySem.Calls PySem.Builtin
namespace Mine
section
variable {prog : Program} {w : World} {A : Around} {s : Shared}
noncomputable def pctF : Str := ⟨#[37, 37, 37, 115]⟩
theorem pct_walk (z0 z1 : Nat) (t u : Tok) {Q : Fin → Shared → Prop} {E : Value → Shared → Prop} (h : ∀ t' k, s.toks ≤ t' → t' < k → Q (.done (.ret (.str ⟨#[37, z0, z1]⟩ t'))) { s with toks := k }) :
  wpAny (model prog w) A («str.__mod__» ⟨[.str pctF t, .str ⟨#[z0, z1]⟩ u], []⟩) Q E s := by
 rw [PySem.W.KPc.entry_is_s]
 unfold pctF Builtin.Str.percentFormat
 refine wpAny_bind (wpAny_isInstance (typeIs_str _ _ _) F.sub_str_tuple ?_)
 refine wpAny_bind (wpAny_of_eq (a := some _) rfl ?_)
 refine wpAny_bind (KPc.wp_fills_str ?_)
 intro _
 kpc_if
 refine wpAny_bind (wpAny_pure ?_)
 refine wpAny_bind ?_
 rw [KPc.range_list]
 refine KPc.turn ?_
 repeat kpc_if
 refine wpAny_pure ?_
 refine KPc.turn ?_
 repeat kpc_if
 refine wpAny_bind ?_
 refine wpAny_holding ?_
 repeat kpc_if
 kpc_conv
 refine wpAny_pure ?_
 refine wpAny_pure ?_
 refine KPc.turn ?_
 repeat kpc_if
 refine wpAny_pure ?_
 repeat kpc_if
 show wpAny (model prog w) A (Str.Writer.finish "str.__mod__" _) Q E s
 unfold Str.Writer.finish
 split
 · rename_i v e
   exact nomatch (show (none : Option Value) = some v from e)
 · refine wpAny_ite (KPc.ite_no (KPc.short (n := 3) (by decide)) ?_)
   refine wpAny_bind (wpAny_mkStr (wpAny_pure ?_) ?_)
   · exact h s.toks (s.toks + 1) (Nat.le_refl _) (Nat.lt_succ_self _)
   · show 3 ≤ sizeLine
     decide
theorem mod_pct (z0 z1 : Nat) (t u : Tok) {Q : Value → Shared → Prop} {E : Value → Shared → Prop} (h : ∀ t' k, s.toks ≤ t' → t' < k → Q (.str ⟨#[37, z0, z1]⟩ t') { s with toks := k }) :
  wpAny (model prog w) A (binaryOp .Mod (.str pctF t) (.str ⟨#[z0, z1]⟩ u)) Q E s :=
 binaryOp_meets (T := "str") (op := .Mod) (typeIs_str s pctF t) (typeIs_str s ⟨#[z0, z1]⟩ u) F.fills_str_mod F.slot_str_mod F.entry_str_mod (F.args_str_mod_2 _ _)
  (S := fun j R s => ∀ t' k, s.toks ≤ t' → t' < k → R (.ok (.ret (.str ⟨#[37, z0, z1]⟩ t'))) { s with toks := k })
  (Meets.of_wp fun prog w A j s hS => pct_walk z0 z1 t u fun t' k h1 h2 => ⟨_, rfl, hS t' k h1 h2⟩) (fun t' k h1 h2 => ⟨(fun e => nomatch e), h t' k h1 h2⟩)
end
end Mine
end
noncomputable section
open PySem PySem.W PyProof.Rows PySem.Spec PySem.Calls
namespace Mine
variable [Val]
section
variable {prog : Program} {w : World} {G : Nms} {T : Tab} {hT : Heap} {n : Nat} {A : Around} {env : Env} {sc sc2 : Scope} {al al' al'' fr fr' N ow ow' : List Addr} {ρ ρ' : Env'} {st st' st'' : St} {s s₁ s₂ s₃ s' s'' : Shared} {h h' : Heap} {I Dd : Addr} {own : List Nat}
end
end Mine
end
noncomputable section
open PySem PySem.W PyProof.Rows PySem.Spec PySem.Calls
namespace Mine
noncomputable def uecX : X := .meth (.group1 (.var 67)) .upper []
noncomputable def isMod (o : Operator) : Bool := bopIs .mod o
noncomputable def uecIs (G : Nms) (sc : Scope) : List Stmt → Bool := v1 (wRet (vSo (vBin fun c op e2 => isMod op && vStr (fun t => eqL [37, 37, 37, 115] t.cps.toList && cE G 20 sc uecX e2) c)))
theorem str_of {t : Str} {l : List Nat} (h : eqL l t.cps.toList = true) : t = ⟨l.toArray⟩ := by
 have := congrArg List.toArray ((@eqL_iff V0 _ _).mp h)
 induction t using Str.casesOn
 simp_all
@[elab_as_elim] theorem uec_e {G : Nms} {sc : Scope} {l : List Stmt} {P : List Stmt → Prop} (h : uecIs G sc l = true) (q : ∀ k1 p1 e2 p2 p3, cE G 20 sc uecX e2 = true → P [.Return (some (.BinOp (.Constant (.str pctF) k1 p1) .Mod e2 p2)) p3]) : P l := by
 letI : Val := V0
 refine v1_e h fun s1 h => ?_
 refine wRet_e h fun r p3 h => ?_
 refine vSo_e h fun e h => ?_
 refine vBin_e h fun c op e2 p2 h => ?_
 refine x02 (both h) fun ho h => ?_
 refine vStr_e h fun t k1 p1 h => ?_
 rw [bopIs_eq ho, (str_of (both h).1 : t = pctF)]
 exact q k1 p1 e2 p2 p3 (both h).2
section
variable {prog : Program} {w : World} {hT : Heap} {sa : Scope} {code ca : Addr} {mN : Str → Option Value} {ad am : Nat → Addr} {ini : Addr} [V : Val]
variable {A : Around} {al fr : List Addr} {st : St} {s : Shared}
theorem uec_call (B : Base prog w hT sa code ca mN ad am ini) (hca : V.cls = ca) (hcode : V.code 0 = code) {a : Addr} {sc : Scope} {stmts : List Stmt} {cd : Value} (FO : FnE (G0 sa code) hT a [67] sc stmts cd) (hs : uecIs (G0 sa code) sc stmts = true)
  (hh : A.handled = none) (htk : 1 ≤ s.toks) (hd : A.depth + 33 + Val.room < recursionLimit) (hu : A.units + 899 + 16 * Val.room < cLine) (S : Sto prog w hT al fr st s.heap) {v : Value} {x : List Nat} {b e z0 z1 : Nat} (r : RD al fr s.heap v (.mtch x b e))
  (hf : fits x.length = true) (hz : upperL (x.toArray.extract (b + 1) e).toList = [z0, z1]) (hasc : asciiD (x.toArray.extract (b + 1) e).toList = true) :
  wpAny (model prog w) A (call (.ref a) [v]) (fun v' s' => PostE prog w hT al fr st st s (.str [37, z0, z1]) v' s' ∧ ∃ t', v' = .str ⟨#[37, z0, z1]⟩ t' ∧ s.toks ≤ t' ∧ t' < s'.toks) FF s := by
 revert FO
 refine uec_e hs fun k1 p1 e2 p2 p3 hs FO => ?_
 · have TO := topA' V hca hcode B
   refine fn_enter (n := 6) (nok0 B).nm B.bis FO hh htk (by assumption) (by assumption) S (.cons r .nil) (ρ0 := [(67, some (.mtch x b e))]) rfl fun env N s1 hc hsc keep hz1 R hN H => ?_
   refine wpAny_execs_cons (wpAny_Return_some (wpAny_BinOp (Constant_str ?_)))
   have S0 := Stp.tok (htk := by first | exact Nat.le_refl _ | lia | omega) (tk := s1.toks + 1) H.sto
   have hl : fits (x.toArray.extract (b + 1) e).toList.length = true := by
    have h1 := hf
    unfold fits at h1 ⊢
    have h1 := Nat.le_of_ble_eq_true h1
    refine Nat.ble_eq_true_of_le ?_
    simp only [Array.length_toList, Array.size_extract, List.size_toArray]
    lia
   have hev : (run TA 6).1 [(67, some (.mtch x b e))] st uecX = some (.str [z0, z1], st) := by
    show (match (match fits x.length with | true => some (D.str (x.toArray.extract (b + 1) e).toList, st) | false => none) with | some (o, st) => (match meTy st o .upper with | true => meD st o .upper [] | false => none) | none => none) = _
    rw [hf]
    show (match asciiD (x.toArray.extract (b + 1) e).toList && fits (x.toArray.extract (b + 1) e).toList.length with | true => some (D.str (upperL (x.toArray.extract (b + 1) e).toList), st) | false => none) = _
    rw [hasc, hl, hz]
    rfl
   refine wpAny_mono ((run_ok TO 6).1 hev hs (H.step S0)) (fun u s2 p => ?_) fun j j q => q
   refine x12 p ?_
   clear p
   intro al2 S2 r2
   refine x11 r2.to ?_
   intro tu eq1
   subst eq1
   · refine mod_pct z0 z1 _ tu fun t' k' h1 h2 => ?_
     have S3 := Stp.tok (tk := k') S2.sto (by lia)
     have S4 := (S0.trans S2).trans S3
     refine ⟨leave_fn keep hz1 R hN (S4.wide fun a ha => by cases ha) (.str [37, z0, z1] t'), t', rfl, ?_, h2⟩
     have := R.tk
     have := S2.rest.tk
     have : s1.toks + 1 ≤ s2.toks := S2.rest.tk
     lia
end
end Mine
end
noncomputable section
open PySem PySem.W PyProof.Rows PySem.Spec PySem.Calls
namespace Mine
theorem idxL_inv {x y : List Nat} {k i : Nat} {r : List (List Nat)} (h : idxL x k (y :: r) = some i) : (i = k ∧ x = y) ∨ idxL x (k + 1) r = some i := by
 replace h : (match eqL y x with | true => some k | false => idxL x (k + 1) r) = some i := h
 generalize q : eqL y x = c at h
 induction c using Bool.casesOn with
 | true => exact .inl ⟨(so h).symm, ((@eqL_iff V0 _ _).mp q).symm⟩
 | false => exact .inr h
theorem idx_inv {x : List Nat} {i : Nat} (h : idxL x 0 [[37, 67, 65], [37, 67, 66], [37, 68, 67], [37, 68, 68]] = some i) : (i = 0 ∧ x = [37, 67, 65]) ∨ (i = 1 ∧ x = [37, 67, 66]) ∨ (i = 2 ∧ x = [37, 68, 67]) ∨ (i = 3 ∧ x = [37, 68, 68]) :=
 (idxL_inv h).imp_right fun h => (idxL_inv h).imp_right fun h => (idxL_inv h).imp_right fun h => (idxL_inv h).elim id no
theorem esc_inv {x : List Nat} {b e : Nat} {d : D} (h : escM (.mtch x b e) = some d) : fits x.length = true ∧ asciiD (x.toArray.extract (b + 1) e).toList = true ∧ ∃ i z0 z1, upperL (x.toArray.extract (b + 1) e).toList = [z0, z1] ∧ d = nI i ∧ i < 4 ∧ escTab[i]? = some [37, z0, z1] := by
 replace h : (match asciiD (x.toArray.extract (b + 1) e).toList && fits x.length with
  | true => (match idxL (37 :: upperL (x.toArray.extract (b + 1) e).toList) 0 [[37, 67, 65], [37, 67, 66], [37, 68, 67], [37, 68, 68]] with
   | some i => some (nI i)
   | none => none)
  | false => none) = some d := h
 generalize q : (asciiD (x.toArray.extract (b + 1) e).toList && fits x.length) = c at h
 induction c using Bool.casesOn with
 | false => exact no h
 | true =>
  replace h : (match idxL (37 :: upperL (x.toArray.extract (b + 1) e).toList) 0 [[37, 67, 65], [37, 67, 66], [37, 68, 67], [37, 68, 68]] with
   | some i => some (nI i)
   | none => none) = some d := h
  refine ⟨(both q).2, (both q).1, ?_⟩
  generalize hi : idxL (37 :: upperL (x.toArray.extract (b + 1) e).toList) 0 [[37, 67, 65], [37, 67, 66], [37, 68, 67], [37, 68, 68]] = o at h
  induction o using Option.casesOn with
  | none => exact no h
  | some i =>
   rw [← so h]
   rcases idx_inv hi with ⟨rfl, q⟩ | ⟨rfl, q⟩ | ⟨rfl, q⟩ | ⟨rfl, q⟩ <;> exact (m34 _ _ _ ((List.cons.inj q).2) rfl (by decide) rfl)
noncomputable def TC (i : Nat) : Tab := { fns := fun y => none, sms := fun y y => none, code := 0, tabs := fun y => false, msms := fun y y => none, macs := fun y y => none, ge := fun y y => none, word := fun y => none, lst := fun y => false, same := fun j k => match Nat.beq k 8 && Nat.blt j 8 with | true => some (Nat.beq (j % 4) i) | false => none, mfns := fun y => none, ini := none, found := fun y => none }
noncomputable def tstrs : List D := [.tstr 0, .tstr 1, .tstr 2, .tstr 3, .tstr 4, .tstr 5, .tstr 6, .tstr 7]
theorem idxT_ok : (all4 fun i => okF (TC i) 8 idxT [.list tstrs, .tstr 8] (nI i)) = true := by decide +kernel
noncomputable def strsFrom : List (List Nat) → Tok → List Value
 | [], _ => []
 | x :: r, t => .str ⟨x.toArray⟩ t :: strsFrom r (t + 1)
section
variable {prog : Program} {w : World} {A : Around} {E : Value → Shared → Prop} {env : Env} {pos : Pos}
theorem consts_ok : ∀ {xs : List (List Nat)} {es : List Expr} {s : Shared} {Q : List Value → Shared → Prop}, escIs xs es = true → Q (strsFrom xs s.toks) { s with toks := s.toks + xs.length } → wpAny (model prog w) A (spliced (backTo pos (starEach es env))) Q E s
 | [], [], s, Q, _, q => spliced_nil q
 | [], _ :: _, _, _, c, _ => nb c
 | _ :: _, [], _, _, c, _ => nb c
 | x :: xs, e :: es, s, Q, c, q => by
  refine x02 (both c) ?_
  intro c1 c2
  refine vStr_e c1 fun t k p c1 => ?_
  have ht2 : t = ⟨x.toArray⟩ := str_of (by assumption)
  subst ht2
  letI : Val := V0
  rw [starEach_cons rfl, backTo_cons]
  refine spliced_cons (Constant_str (consts_ok c2 ?_))
  have e1 : s.toks + 1 + xs.length = s.toks + (x :: xs).length := by simp only [List.length_cons]; exact Nat.add_right_comm _ _ _
  show Q (strsFrom (x :: xs) s.toks) { s with toks := s.toks + 1 + xs.length }
  rw [e1]
  exact q
end
end Mine
end
noncomputable section
open PySem PySem.W PyProof.Rows PySem.Spec PySem.Calls
namespace Mine
noncomputable abbrev VC (ca code : Addr) (tk : Nat → Tok) (x : List Nat) : Val := { cls := ca, dat := fun j => .none, txt := fun k => if k < 8 then escTab.getD k [] else x, tok := tk, opq := fun j => .none, opqH := fun j => rfl, room := 0, code := fun j => code, refl := fun j st f j h => refl_none st f h }
theorem same_esc : (all4 fun i => (List.range 8).all fun j => eqL (escTab.getD j []) (escTab.getD i []) == Nat.beq (j % 4) i) = true := by decide +kernel
section
variable {prog : Program} {w : World} {hT : Heap} {sa : Scope} {code ca : Addr} {mN : Str → Option Value} {ad am : Nat → Addr} {ini : Addr}
theorem topC (B : Base prog w hT sa code ca mN ad am ini) {tk : Nat → Tok} {x : List Nat} {i : Nat} (hi : i < 4) (hx : escTab[i]? = some x) (h0 : ∀ k, tk k ≠ 0) (h8 : ∀ k, k < 8 → tk k ≠ tk 8) : @TopOk (VC ca code tk x) prog w (G0 sa code) (TC i) hT := by
 refine top_ok (VC ca code tk x) rfl rfl B (.inl rfl) rfl (@OrOk.mk (VC ca code tk x) _ (fun j k b h => by contradiction) (fun k b h => by contradiction) (fun k h => by contradiction) (fun j k b h => ?_)) (fun k p h => by contradiction) (fun k ds d h => by contradiction) (fun p h => by contradiction) (fun k p h => by exact nomatch h) (fun k o ds d h => by contradiction) (fun x b e h => by contradiction) (fun k d0 d h => by contradiction)
 have h : (match Nat.beq k 8 && Nat.blt j 8 with | true => some (Nat.beq (j % 4) i) | false => none) = some b := h
 split at h
 · rename_i e
   cases h
   simp only [Bool.and_eq_true] at e
   have e1 := Nat.eq_of_beq_eq_true e.1
   subst e1
   have e2 : j < 8 := by have := e.2; unfold Nat.blt at this; exact Nat.le_of_ble_eq_true this
   refine (m04 (h0 j) (h0 8) (h8 j e2) ?_)
   have q := List.all_eq_true.mp (all4_inv same_esc hi) j (List.mem_range.mpr e2)
   have q := beq_iff_eq.mp q
   have hg : escTab.getD i [] = x := by rw [List.getD_eq_getElem?_getD, hx]; rfl
   rw [hg] at q
   show eqL (if j < 8 then escTab.getD j [] else x) (if 8 < 8 then escTab.getD 8 [] else x) = _
   rw [if_pos e2, if_neg (by decide)]
   exact q
 · exact no h
theorem rd_strs [Val] (al fr : List Addr) (h : Heap) (t0 : Tok) (h1 : ∀ k, k < 8 → Val.txt k = escTab.getD k []) (h2 : ∀ k : Nat, k < 8 → Val.tok k = t0 + k) : RDs al fr h (strsFrom escTab t0) tstrs := by
 have one : ∀ (k : Nat) (x : List Nat) (t : Tok), k < 8 → x = escTab.getD k [] → t = t0 + k → RD al fr h (.str ⟨x.toArray⟩ t) (.tstr k) := fun k x t hk e1 e2 => .tstr x t k (e1.trans (h1 k hk).symm) (e2.trans (h2 k hk).symm)
 exact .cons (one 0 _ _ (by decide) rfl rfl) (.cons (one 1 _ _ (by decide) rfl rfl) (.cons (one 2 _ _ (by decide) rfl rfl) (.cons (one 3 _ _ (by decide) rfl rfl) (.cons (one 4 _ _ (by decide) rfl rfl) (.cons (one 5 _ _ (by decide) rfl rfl) (.cons (one 6 _ _ (by decide) rfl rfl) (.cons (one 7 _ _ (by decide) rfl rfl) .nil)))))))
theorem rd_two [Val] (al fr : List Addr) (h : Heap) (a : Addr) (vs : List Value) (x : List Nat) (t : Tok) (n1 : a ∉ al) (n2 : a ∉ fr) (hl : h.PlainList a vs.toArray) (r : RDs al fr h vs tstrs) (e1 : x = Val.txt 8) (e2 : t = Val.tok 8) : RDs al fr h [.ref a, .str ⟨x.toArray⟩ t] [.list tstrs, .tstr 8] :=
 .cons (.list a vs tstrs n1 n2 hl r) (.cons (.tstr x t 8 e1 e2) .nil)
theorem mac2_ok [V : Val] (hca : V.cls = ca) (hr : 29 ≤ V.room) (B : Base prog w hT sa code ca mN ad am ini) {sc2 : Scope} {stmts : List Stmt} {cd : Value} (gu : Glb hT (nmF 14) (.ref (ad 14))) (FU : FnE (G0 sa code) hT (ad 14) [67] sc2 stmts cd) (hs : uecIs (G0 sa code) sc2 stmts = true) {d0 d : D} (hm : macR 2 d0 = some d)
  {A : Around} {env : Env} {sc : Scope} {al fr ow : List Addr} {ρ : Env'} {st : St} {s : Shared} {e : Expr} {n : Nat} (hx : mac2C sc e = true) (H : @Here V prog w (G0 sa code).v (G0 sa code).c hT n A env sc al fr ow ρ st s) (hi : lk 70 ρ = some (some d0)) : wpAny (model prog w) A (eval e env) (@PostE V prog w hT al fr st st s d) FF s := by
 refine vCN_e hx fun id p1 as p6 hx => ?_
 refine v2_e hx fun el e2 hx => ?_
 refine vList_e hx fun es p2 hx => ?_
 refine vCN_e hx fun id2 p3 as2 p5 hx => ?_
 refine v1_e hx fun e3 hx => ?_
 refine vName_e hx fun id3 p4 hx => ?_
 · simp only [Bool.and_eq_true] at hx
   obtain ⟨⟨⟨⟨⟨⟨⟨⟨c1, c2⟩, c3⟩, c4⟩, c5⟩, c6⟩, c7⟩, c8⟩, c9⟩ := hx
   have c1 := @beq_str V0 _ _ c1
   have c5 := @beq_str V0 _ _ c5
   have c8 := @beq_str V0 _ _ c8
   subst c1 c5 c8
   refine x22 (B.fn 4 _ rfl).2.got ?_
   intro o4 fd4 ho4 hfd4
   refine x23 (id FU.has) ?_
   intro ou fdu hou hfdu _
   have hk70 : isVarK (sc.names.lookup ((G0 sa code).v 70)) = true := c9
   have hesc : macR 2 d0 = escM d0 := rfl
   rw [hesc] at hm
   have dm : ∃ x b e, d0 = .mtch x b e := by
    induction d0 using D.casesOn with
    | mtch x b e => exact (m31 x b e rfl)
    | _ => exact no hm
   refine x31 dm ?_
   clear dm
   intro x b e eq3
   subst eq3
   obtain ⟨hf, hasc, i, z0, z1, hz, rfl, hi4, hget⟩ := esc_inv hm
   have SL := @Stp.push V prog w hT al fr st s { cls := .type "list", data := .seq (strsFrom escTab s.toks).toArray } (s.toks + escTab.length) (@Here.sto V _ _ _ _ _ _ _ _ _ _ _ _ _ _ _ H) (by lia)
   refine call_name H c2 (notDebug_iff c3) (B.fn 4 _ rfl).1 ?_
   rw [starEach_cons rfl, starEach_cons rfl, backTo_cons, backTo_cons]
   refine Calls.callWith_function (o := o4) (fd := fd4) (first := []) (evalArgs_plain (spliced_cons (wpAny_List_spliced (consts_ok c4 ⟨by show 8 ≤ sizeLine; decide, ?_⟩))))
   have HL := H.step SL
   refine spliced_cons (call_name HL c6 (notDebug_iff c7) gu ?_)
   rw [starEach_cons rfl, backTo_cons]
   refine Calls.callWith_function (o := ou) (fd := fdu) (first := []) (evalArgs_plain (spliced_cons (wpAny_mono (var_ok (nok0 B).nm HL hi hk70) (fun v s1 pp => x12 pp fun al1 S1 r1 => spliced_nil ⟨⟨S1.sto.old _ _ hou, hfdu⟩, ?_⟩) fun j j q => q)))
   have dp := H.dp
   have un := H.un
   have hc : V.cls = (VA ca code).cls := hca
   have SA : @Sto (VA ca code) prog w hT [] (al1 ++ fr) ⟨0, []⟩ s1.heap := Sto.aside S1.sto
   have rA : @RD (VA ca code) [] (al1 ++ fr) s1.heap v (.mtch x b e) := cl_back (f := 1) rfl (cl_ok (V := V) (f := 1) hc (fun b o n1 n2 e => ⟨e, by exact List.not_mem_nil, fun q => (List.mem_append.mp q).elim n1 n2⟩) rfl r1)
   have tkL : 1 ≤ s1.toks := Nat.le_trans H.tk (Nat.le_trans SL.rest.tk S1.rest.tk)
   refine wpAny_mono (@uec_call prog w hT sa code ca mN ad am ini (VA ca code) A [] (al1 ++ fr) ⟨0, []⟩ s1 B rfl rfl (ad 14) sc2 stmts cd FU hs H.hd tkL (by show A.depth + 33 + 0 < _; lia) (by show A.units + 899 + 16 * 0 < _; lia) SA v x b e z0 z1 rA hf hz hasc) (fun u s2 p => ?_) fun j j q => q
   obtain ⟨⟨al2, P2, _⟩, t', rfl, l1, l2⟩ := p
   have S2 := Stp.back S1.sto P2
   have S12 := SL.trans (S1.trans S2)
   refine spliced_nil ⟨⟨S12.sto.old _ _ ho4, hfd4⟩, ?_⟩
   let tk : Nat → Tok := fun k => if k < 8 then s.toks + k else t'
   have lb : s.toks + 8 ≤ t' := Nat.le_trans (Nat.le_trans (show s.toks + 8 ≤ s1.toks from S1.rest.tk) l1) (Nat.le_refl _)
   have h0 : ∀ k, tk k ≠ 0 := fun k q => by
    have := H.tk
    have q : (if k < 8 then s.toks + k else t' : Nat) = (0 : Nat) := q
    have h1 : (1 : Nat) ≤ s.toks := this
    have lb' : (s.toks : Nat) + 8 ≤ (t' : Nat) := lb
    split at q <;> lia
   have h8 : ∀ k, k < 8 → tk k ≠ tk 8 := fun k hk q => by
    have q : (if k < 8 then s.toks + k else t' : Nat) = (if 8 < 8 then s.toks + 8 else t' : Nat) := q
    rw [if_pos hk, if_neg (Nat.lt_irrefl 8)] at q
    have lb' : (s.toks : Nat) + 8 ≤ (t' : Nat) := lb
    lia
   have SC : @Sto (VC ca code tk [37, z0, z1]) prog w hT [] (al1 ++ fr) ⟨0, []⟩ s2.heap := Sto.aside S2.sto
   have nf := (H.sto).fresh (Nat.le_refl s.heap.objs.size)
   have nL : s.heap.objs.size ∉ al1 := S1.notNew nf.1 (Heap.get?_push_size _ rfl)
   have hL : s2.heap.PlainList s.heap.objs.size (strsFrom escTab s.toks).toArray := ⟨0, (S1.trans S2).kp.keep _ _ nf.1 (by exact List.not_mem_nil) (Heap.get?_push_size _ rfl)⟩
   have rL : @RDs (VC ca code tk [37, z0, z1]) [] (al1 ++ fr) s2.heap (strsFrom escTab s.toks) tstrs :=
    @rd_strs (VC ca code tk [37, z0, z1]) _ _ _ _ (fun k hk => if_pos hk) (fun k hk => if_pos hk)
   have rC : @RDs (VC ca code tk [37, z0, z1]) [] (al1 ++ fr) s2.heap [.ref s.heap.objs.size, .str ⟨#[37, z0, z1]⟩ t'] [.list tstrs, .tstr 8] :=
    @rd_two (VC ca code tk [37, z0, z1]) _ _ _ _ _ _ _ (by exact List.not_mem_nil) (fun q => (List.mem_append.mp q).elim nL nf.2) hL rL rfl rfl
   have TC' := topC B (tk := tk) hi4 hget h0 h8
   refine x43 (okF_inv (all4_inv idxT_ok hi4)) ?_
   intro ρ0 dd ρ' st3 hb he hu
   have X : @ExOk (VC ca code tk [37, z0, z1]) prog w (G0 sa code) hT 8 (run (TC i) 8).2 := (@run_ok (VC ca code tk [37, z0, z1]) prog w (G0 sa code) (TC i) hT TC' 8).2.2.2
   refine wpAny_mono (@fn_ok (VC ca code tk [37, z0, z1]) prog w (G0 sa code) hT 8 A [] (al1 ++ fr) ρ' ⟨0, []⟩ st3 s2 (nok0 B).nm B.bis _ X (ad 4) idxT.1 idxT.2 (B.fn 4 _ rfl).2 H.hd (Nat.le_trans tkL S2.rest.tk) (by show A.depth + 1 + 2 * 8 + 20 + 0 < _; lia) (by show A.units + 3 + 16 * 8 + 800 + 16 * 0 < _; lia) SC _ _ ρ0 _ dd rC hb he (.inl rfl)) (fun v3 s3 p => ?_) fun j j q => q
   refine x12 p ?_
   clear p
   intro al3 P3 r3
   exact ⟨al1, S12.trans (Stp.back S2.sto P3), frz_back (V := V) (V' := VC ca code tk [37, z0, z1]) (f := 20) (f' := 20) hca S2.sto P3 r3 (frz_of hu rfl) rfl⟩
end
end Mine
end
noncomputable section
open PySem PySem.W PyProof.Rows PySem.Spec PySem.Calls
namespace Mine
noncomputable abbrev VR (ca code : Addr) : Val := { cls := ca, dat := fun j => .none, txt := fun j => [], tok := fun j => 0, opq := fun j => .none, opqH := fun j => rfl, room := 29, code := fun j => code, refl := fun j st f j h => refl_none st f h }
section
variable {prog : Program} {w : World} {hT : Heap} {sa : Scope} {code ca : Addr} {mN : Str → Option Value} {ad am : Nat → Addr} {ini : Addr}
theorem topR (B : Base prog w hT sa code ca mN ad am ini) {sc2 : Scope} {stmts : List Stmt} {cd : Value} (gu : Glb hT (nmF 14) (.ref (ad 14))) (FU : FnE (G0 sa code) hT (ad 14) [67] sc2 stmts cd) (hs : uecIs (G0 sa code) sc2 stmts = true) : @TopOk (VR ca code) prog w (G0 sa code) TR hT := by
 refine top_ok (VR ca code) rfl rfl B (.inl rfl) rfl (@OrOk.mk (VR ca code) _ (fun j k b h => by contradiction) (fun k b h => by exact nomatch h) (fun k h => by exact nomatch h) (fun j k b h => by contradiction)) (fun k p h => ⟨fnA_all k p h, (B.fn k p (fnA_all k p h)).2⟩) (fun k ds d h => by contradiction) (fun p h => ?_) (fun k p h => ?_) (fun k o ds d h => by contradiction) (fun x b e h => h) (fun k d0 d h => ?_)
 · cases h; exact B.init.2.2
 · have : mfAll k = some p := by
     have h : mfA k = some p := h
     unfold mfA at h
     split at h
     · exact h
     · exact h
     · exact no h
   exact ⟨by rw [this]; rfl, (B.mth k p this).2.2⟩
 · intro A env sc al fr ow ρ st s e n hx H hi
   match k, h with
   | 2, h => exact @mac2_ok prog w hT sa code ca mN ad am ini (VR ca code) rfl (Nat.le_refl _) B sc2 stmts cd gu FU hs d0 d h A env sc al fr ow ρ st s e n hx H hi
theorem read_meets {V : Val} (B : Base prog w hT sa code ca mN ad am ini) (hc : V.cls = ca) (hr : 70 ≤ V.room) {sc2 : Scope} {stmts : List Stmt} {cd : Value} (gu : Glb hT (nmF 14) (.ref (ad 14))) (FU : FnE (G0 sa code) hT (ad 14) [67] sc2 stmts cd) (hs : uecIs (G0 sa code) sc2 stmts = true)
  {o : List Nat} (ho : o ∈ evens) {d1 d2 : D} (e1 : cl V.dat 20 d1 = some (.str (textS o))) (e2 : cl V.dat 20 d2 = some (readD o)) : @Meets1 V prog w hT (ad 12) [d1] d2 := by
 have e3 : cl (fun j => D.none) 20 (readD o) = some (readD o) := by
  unfold readD
  split <;> rfl
 exact meets_okF (V' := VR ca code) hc (topR B gu FU hs) (B.fn 12 _ rfl).2 (n := 20) (by show 29 + 2 * 20 + 1 ≤ V.room; assumption) (List.all_eq_true.mp read_ok o ho) (clL_one e1 rfl) rfl e3 e2
end
end Mine
end
noncomputable section
set_option tactic.hygienic true
open PySem
namespace Mine
noncomputable def tabB (st : St) (i : Nat) : Bool := match lk i st.mu with
 | some (_, .inst [(k, .none)]) => Nat.beq k i
 | _ => false
theorem tabB_inv {st : St} {i : Nat} (h : tabB st i = true) : ∃ u k, lk i st.mu = some (u, .inst [(k, .none)]) := by
 replace h : (match lk i st.mu with | some (_, .inst [(k, .none)]) => Nat.beq k i | _ => false) = true := h
 generalize lk i st.mu = o at h
 induction o using Option.casesOn with
 | none => exact nb h
 | some p =>
  rcases p with ⟨u, mo⟩
  induction mo using MO.casesOn with
  | inst fs =>
   induction fs using List.casesOn with
   | nil => exact nb h
   | cons p fs =>
    rcases p with ⟨k, d⟩
    induction fs using List.casesOn with
    | nil =>
     induction d using D.casesOn with
     | none => exact ⟨u, k, rfl⟩
     | _ => exact nb h
    | cons q fs => induction d using D.casesOn <;> exact nb h
  | _ => exact nb h
noncomputable def outB : Option (Fl × Env' × St) → Bool
 | some (.ret (.bool b), _, st) => b && (tabB st 0 && tabB st 1)
 | _ => false
noncomputable def tailRun (w : Nat → Option Bool) (e01 e02 e03 e12 e13 e23 : Bool) : Bool := outB ((run (TL w) 40).2 (ρ2 e01 e02 e03 e12 e13 e23) st1 tailY')
theorem tail000000 (w : Nat → Option Bool) : tailRun w false false false false false false = true := by kernel_rfl
theorem tail000001 (w : Nat → Option Bool) : tailRun w false false false false false true = true := by kernel_rfl
theorem tail000010 (w : Nat → Option Bool) : tailRun w false false false false true false = true := by kernel_rfl
theorem tail000011 (w : Nat → Option Bool) : tailRun w false false false false true true = true := by kernel_rfl
theorem tail000100 (w : Nat → Option Bool) : tailRun w false false false true false false = true := by kernel_rfl
theorem tail000101 (w : Nat → Option Bool) : tailRun w false false false true false true = true := by kernel_rfl
theorem tail000110 (w : Nat → Option Bool) : tailRun w false false false true true false = true := by kernel_rfl
theorem tail000111 (w : Nat → Option Bool) : tailRun w false false false true true true = true := by kernel_rfl
theorem tail001000 (w : Nat → Option Bool) : tailRun w false false true false false false = true := by kernel_rfl
theorem tail001001 (w : Nat → Option Bool) : tailRun w false false true false false true = true := by kernel_rfl
theorem tail001010 (w : Nat → Option Bool) : tailRun w false false true false true false = true := by kernel_rfl
theorem tail001011 (w : Nat → Option Bool) : tailRun w false false true false true true = true := by kernel_rfl
theorem tail001100 (w : Nat → Option Bool) : tailRun w false false true true false false = true := by kernel_rfl
theorem tail001101 (w : Nat → Option Bool) : tailRun w false false true true false true = true := by kernel_rfl
theorem tail001110 (w : Nat → Option Bool) : tailRun w false false true true true false = true := by kernel_rfl
theorem tail001111 (w : Nat → Option Bool) : tailRun w false false true true true true = true := by kernel_rfl
theorem tail010000 (w : Nat → Option Bool) : tailRun w false true false false false false = true := by kernel_rfl
theorem tail010001 (w : Nat → Option Bool) : tailRun w false true false false false true = true := by kernel_rfl
theorem tail010010 (w : Nat → Option Bool) : tailRun w false true false false true false = true := by kernel_rfl
theorem tail010011 (w : Nat → Option Bool) : tailRun w false true false false true true = true := by kernel_rfl
theorem tail010100 (w : Nat → Option Bool) : tailRun w false true false true false false = true := by kernel_rfl
theorem tail010101 (w : Nat → Option Bool) : tailRun w false true false true false true = true := by kernel_rfl
theorem tail010110 (w : Nat → Option Bool) : tailRun w false true false true true false = true := by kernel_rfl
theorem tail010111 (w : Nat → Option Bool) : tailRun w false true false true true true = true := by kernel_rfl
theorem tail011000 (w : Nat → Option Bool) : tailRun w false true true false false false = true := by kernel_rfl
theorem tail011001 (w : Nat → Option Bool) : tailRun w false true true false false true = true := by kernel_rfl
theorem tail011010 (w : Nat → Option Bool) : tailRun w false true true false true false = true := by kernel_rfl
theorem tail011011 (w : Nat → Option Bool) : tailRun w false true true false true true = true := by kernel_rfl
theorem tail011100 (w : Nat → Option Bool) : tailRun w false true true true false false = true := by kernel_rfl
theorem tail011101 (w : Nat → Option Bool) : tailRun w false true true true false true = true := by kernel_rfl
theorem tail011110 (w : Nat → Option Bool) : tailRun w false true true true true false = true := by kernel_rfl
theorem tail011111 (w : Nat → Option Bool) : tailRun w false true true true true true = true := by kernel_rfl
theorem tail100000 (w : Nat → Option Bool) : tailRun w true false false false false false = true := by kernel_rfl
theorem tail100001 (w : Nat → Option Bool) : tailRun w true false false false false true = true := by kernel_rfl
theorem tail100010 (w : Nat → Option Bool) : tailRun w true false false false true false = true := by kernel_rfl
theorem tail100011 (w : Nat → Option Bool) : tailRun w true false false false true true = true := by kernel_rfl
theorem tail100100 (w : Nat → Option Bool) : tailRun w true false false true false false = true := by kernel_rfl
theorem tail100101 (w : Nat → Option Bool) : tailRun w true false false true false true = true := by kernel_rfl
theorem tail100110 (w : Nat → Option Bool) : tailRun w true false false true true false = true := by kernel_rfl
theorem tail100111 (w : Nat → Option Bool) : tailRun w true false false true true true = true := by kernel_rfl
theorem tail101000 (w : Nat → Option Bool) : tailRun w true false true false false false = true := by kernel_rfl
theorem tail101001 (w : Nat → Option Bool) : tailRun w true false true false false true = true := by kernel_rfl
theorem tail101010 (w : Nat → Option Bool) : tailRun w true false true false true false = true := by kernel_rfl
theorem tail101011 (w : Nat → Option Bool) : tailRun w true false true false true true = true := by kernel_rfl
theorem tail101100 (w : Nat → Option Bool) : tailRun w true false true true false false = true := by kernel_rfl
theorem tail101101 (w : Nat → Option Bool) : tailRun w true false true true false true = true := by kernel_rfl
theorem tail101110 (w : Nat → Option Bool) : tailRun w true false true true true false = true := by kernel_rfl
theorem tail101111 (w : Nat → Option Bool) : tailRun w true false true true true true = true := by kernel_rfl
theorem tail110000 (w : Nat → Option Bool) : tailRun w true true false false false false = true := by kernel_rfl
theorem tail110001 (w : Nat → Option Bool) : tailRun w true true false false false true = true := by kernel_rfl
theorem tail110010 (w : Nat → Option Bool) : tailRun w true true false false true false = true := by kernel_rfl
theorem tail110011 (w : Nat → Option Bool) : tailRun w true true false false true true = true := by kernel_rfl
theorem tail110100 (w : Nat → Option Bool) : tailRun w true true false true false false = true := by kernel_rfl
theorem tail110101 (w : Nat → Option Bool) : tailRun w true true false true false true = true := by kernel_rfl
theorem tail110110 (w : Nat → Option Bool) : tailRun w true true false true true false = true := by kernel_rfl
theorem tail110111 (w : Nat → Option Bool) : tailRun w true true false true true true = true := by kernel_rfl
theorem tail111000 (w : Nat → Option Bool) : tailRun w true true true false false false = true := by kernel_rfl
theorem tail111001 (w : Nat → Option Bool) : tailRun w true true true false false true = true := by kernel_rfl
theorem tail111010 (w : Nat → Option Bool) : tailRun w true true true false true false = true := by kernel_rfl
theorem tail111011 (w : Nat → Option Bool) : tailRun w true true true false true true = true := by kernel_rfl
theorem tail111100 (w : Nat → Option Bool) : tailRun w true true true true false false = true := by kernel_rfl
theorem tail111101 (w : Nat → Option Bool) : tailRun w true true true true false true = true := by kernel_rfl
theorem tail111110 (w : Nat → Option Bool) : tailRun w true true true true true false = true := by kernel_rfl
theorem tail111111 (w : Nat → Option Bool) : tailRun w true true true true true true = true := by kernel_rfl
theorem tail_all (w : Nat → Option Bool) : ∀ e01 e02 e03 e12 e13 e23 : Bool, tailRun w e01 e02 e03 e12 e13 e23 = true
 | false, false, false, false, false, false => tail000000 w
 | false, false, false, false, false, true => tail000001 w
 | false, false, false, false, true, false => tail000010 w
 | false, false, false, false, true, true => tail000011 w
 | false, false, false, true, false, false => tail000100 w
 | false, false, false, true, false, true => tail000101 w
 | false, false, false, true, true, false => tail000110 w
 | false, false, false, true, true, true => tail000111 w
 | false, false, true, false, false, false => tail001000 w
 | false, false, true, false, false, true => tail001001 w
 | false, false, true, false, true, false => tail001010 w
 | false, false, true, false, true, true => tail001011 w
 | false, false, true, true, false, false => tail001100 w
 | false, false, true, true, false, true => tail001101 w
 | false, false, true, true, true, false => tail001110 w
 | false, false, true, true, true, true => tail001111 w
 | false, true, false, false, false, false => tail010000 w
 | false, true, false, false, false, true => tail010001 w
 | false, true, false, false, true, false => tail010010 w
 | false, true, false, false, true, true => tail010011 w
 | false, true, false, true, false, false => tail010100 w
 | false, true, false, true, false, true => tail010101 w
 | false, true, false, true, true, false => tail010110 w
 | false, true, false, true, true, true => tail010111 w
 | false, true, true, false, false, false => tail011000 w
 | false, true, true, false, false, true => tail011001 w
 | false, true, true, false, true, false => tail011010 w
 | false, true, true, false, true, true => tail011011 w
 | false, true, true, true, false, false => tail011100 w
 | false, true, true, true, false, true => tail011101 w
 | false, true, true, true, true, false => tail011110 w
 | false, true, true, true, true, true => tail011111 w
 | true, false, false, false, false, false => tail100000 w
 | true, false, false, false, false, true => tail100001 w
 | true, false, false, false, true, false => tail100010 w
 | true, false, false, false, true, true => tail100011 w
 | true, false, false, true, false, false => tail100100 w
 | true, false, false, true, false, true => tail100101 w
 | true, false, false, true, true, false => tail100110 w
 | true, false, false, true, true, true => tail100111 w
 | true, false, true, false, false, false => tail101000 w
 | true, false, true, false, false, true => tail101001 w
 | true, false, true, false, true, false => tail101010 w
 | true, false, true, false, true, true => tail101011 w
 | true, false, true, true, false, false => tail101100 w
 | true, false, true, true, false, true => tail101101 w
 | true, false, true, true, true, false => tail101110 w
 | true, false, true, true, true, true => tail101111 w
 | true, true, false, false, false, false => tail110000 w
 | true, true, false, false, false, true => tail110001 w
 | true, true, false, false, true, false => tail110010 w
 | true, true, false, false, true, true => tail110011 w
 | true, true, false, true, false, false => tail110100 w
 | true, true, false, true, false, true => tail110101 w
 | true, true, false, true, true, false => tail110110 w
 | true, true, false, true, true, true => tail110111 w
 | true, true, true, false, false, false => tail111000 w
 | true, true, true, false, false, true => tail111001 w
 | true, true, true, false, true, false => tail111010 w
 | true, true, true, false, true, true => tail111011 w
 | true, true, true, true, false, false => tail111100 w
 | true, true, true, true, false, true => tail111101 w
 | true, true, true, true, true, false => tail111110 w
 | true, true, true, true, true, true => tail111111 w
theorem tail_ok (w : Nat → Option Bool) (e01 e02 e03 e12 e13 e23 : Bool) : ∃ ρ3 st3, (run (TL w) 40).2 (ρ2 e01 e02 e03 e12 e13 e23) st1 tailY' = some (.ret (.bool true), ρ3, st3) ∧ tabB st3 0 = true ∧ tabB st3 1 = true := by
 have h := tail_all w e01 e02 e03 e12 e13 e23
 unfold tailRun outB at h
 split at h
 · rename_i b ρ3 st3 e
   obtain ⟨h1, h2⟩ := Bool.and_eq_true_iff.mp h
   obtain ⟨h2, h3⟩ := Bool.and_eq_true_iff.mp h2
   subst h1
   exact ⟨ρ3, st3, e, h2, h3⟩
 · cases h
end Mine
end
noncomputable section
set_option tactic.hygienic true
open PySem PySem.W PyProof.Rows PySem.Spec PySem.Calls
namespace Mine
noncomputable def datL (r : Nat → Nat) (ns : List Int) (k : Nat) : D :=
 if k < 4 then .str (leadS (r k)) else if k < 8 then lineD (r (k - 4)) else if k < 12 then walkD (r (k - 8)) else if k < 16 then .num 80 (r (k - 12))
 else if k < 32 then witD (r ((k - 16) / 4)) (r ((k - 16) % 4)) else if k < 48 then .str (wordsS (sizesD (r ((k - 32) / 4)) (r ((k - 32) % 4)))) else if k = 60 then .list (ns.map .int) else .none
theorem datL_lead {r ns k} (h : k < 4) : datL r ns k = .str (leadS (r k)) := if_pos h
theorem datL_line {r ns k} (h : k < 4) : datL r ns (k + 4) = lineD (r k) := by
 unfold datL
 rw [if_neg (by simp [*]), if_pos (by exact Nat.add_lt_add_right ‹_› _), Nat.add_sub_cancel]
theorem datL_walk {r ns k} (h : k < 4) : datL r ns (k + 8) = walkD (r k) := by
 unfold datL
 rw [if_neg (by simp [*]), if_neg (by simp [*]), if_pos (by exact Nat.add_lt_add_right ‹_› _), Nat.add_sub_cancel]
theorem datL_num {r ns k} (h1 : 12 ≤ k) (h2 : k < 16) : datL r ns k = .num 80 (r (k - 12)) := by
 unfold datL
 rw [if_neg (by lia), if_neg (by lia), if_neg (by simp [*]), if_pos (by assumption)]
theorem datL_wit {r ns k} (h1 : 16 ≤ k) (h2 : k < 32) : datL r ns k = witD (r ((k - 16) / 4)) (r ((k - 16) % 4)) := by
 unfold datL
 rw [if_neg (by lia), if_neg (by lia), if_neg (by lia), if_neg (by simp [*]), if_pos (by assumption)]
theorem datL_word {r ns k} (h1 : 32 ≤ k) (h2 : k < 48) : datL r ns k = .str (wordsS (sizesD (r ((k - 32) / 4)) (r ((k - 32) % 4)))) := by
 unfold datL
 rw [if_neg (by lia), if_neg (by lia), if_neg (by lia), if_neg (by lia), if_neg (by simp [*]), if_pos (by assumption)]
theorem datL_script {r ns} : datL r ns 60 = .list (ns.map .int) := rfl
theorem eqL_refl : ∀ s : List Nat, eqL s s = true
 | [] => rfl
 | x :: s => by show (match Nat.beq x x with | true => eqL s s | false => false) = true; rw [Nat.beq_refl]; exact eqL_refl s
theorem eqInt_refl : ∀ i : Int, eqInt i i = true
 | .ofNat a => Nat.beq_refl a
 | .negSucc a => Nat.beq_refl a
theorem eqGo_refl {rec : D → D → Option Bool} : ∀ {xs : List D}, (∀ x ∈ xs, rec x x = some true) → eqGo rec xs xs = some true
 | [], _ => rfl
 | x :: xs, h => by show (match rec x x with | some r => (match eqGo rec xs xs with | some t => some (r && t) | none => none) | none => none) = _; rw [h x (List.mem_cons_self), eqGo_refl fun y hy => h y (List.mem_cons_of_mem _ hy)]; rfl
theorem eqLs_refl {rec : D → D → Option Bool} {xs : List D} (h : ∀ x ∈ xs, rec x x = some true) : eqLs rec xs xs = some true := by
 show (match Nat.beq xs.length xs.length with
  | true => eqGo rec xs xs
  | false => some false) = _
 rw [Nat.beq_refl]
 exact eqGo_refl h
theorem eqD_int {st : St} {f : Nat} {i : Int} : eqD st (f + 1) (.int i) (.int i) = some true := by
 show some (eqInt i i) = _
 rw [eqInt_refl]
theorem eqD_list {st : St} {f : Nat} {xs ys : List D} : eqD st (f + 1) (.list xs) (.list ys) = eqLs (eqD st f) xs ys := rfl
theorem eqD_tup {st : St} {f : Nat} {xs ys : List D} : eqD st (f + 1) (.tup xs) (.tup ys) = eqGo (eqD st f) xs ys := rfl
theorem eqD_wit {st : St} {f : Nat} {r q : Nat} : eqD st (f + 3) (witD r q) (witD r q) = some true := by
 unfold witD
 rw [eqD_list]
 refine eqLs_refl fun x hx => ?_
 refine x12 (List.mem_map.mp hx) ?_
 intro ts _ eq2
 subst eq2
 unfold tupD
 rw [eqD_tup]
 refine eqGo_refl fun y hy => ?_
 exact q1 (P := fun y => eqD st (f + 1) y y = some true) hy eqD_int fun hy => q1 (P := fun y => eqD st (f + 1) y y = some true) hy eqD_int fun hy => q1 (P := fun y => eqD st (f + 1) y y = some true) hy eqD_int q0
theorem datL_refl (r : Nat → Nat) (ns : List Int) (k : Nat) (st : St) (f : Nat) (h : 16 ≤ k) (h2 : 4 ≤ f) : eqD st f (datL r ns k) (datL r ns k) = some true := by
 obtain ⟨f, rfl⟩ : ∃ g, f = g + 3 + 1 := ⟨f - 4, by lia⟩
 unfold datL
 rw [if_neg (by lia), if_neg (by lia), if_neg (by lia), if_neg (by simp [*])]
 split
 · exact eqD_wit (f := f + 1)
 · split
   · show some (eqL _ _) = _
     rw [eqL_refl]
   · split
     · rw [eqD_list]
       refine eqLs_refl fun x hx => ?_
       refine x12 (List.mem_map.mp hx) ?_
       intro i _ eq2
       subst eq2
       exact eqD_int (f := f + 2)
     · rfl
noncomputable abbrev VL (ca : Addr) (codes : Nat → Addr) (r : Nat → Nat) (ns : List Int) : Val := { cls := ca, dat := datL r ns, txt := fun j => [], tok := fun j => 0, opq := fun j => .none, opqH := fun j => rfl, room := 70, code := codes, refl := datL_refl r ns }
theorem exL_append {ev : Ev} {ex : Ex} {ys zs : List Y} {ρ' : Env'} {st' : St} : ∀ {ρ : Env'} {st : St}, exL ev ex ρ st ys = some (.next, ρ', st') → exL ev ex ρ st (ys ++ zs) = exL ev ex ρ' st' zs := by
 induction ys using List.rec with
 | nil => exact fun {ρ st} h => by rw [← (ou3 h).2.1, ← (ou3 h).2.2]; rfl
 | cons y ys ih =>
  exact fun {ρ st} h => exL_inv h fun fl1 ρ1 st1 h1 hn hb => by
   induction fl1 using Fl.casesOn with
   | next => exact (exL_next h1).trans (ih (hn rfl))
   | _ => exact nomatch (hb nofun).1
noncomputable def lawY : List Y := frontY ++ ([law7, law8] ++ tailY')
theorem law_run (v : Nat → Bool) : ∃ ρ3 st3, (run (TL (wv v)) 40).2 ρin stin lawY = some (.ret (.bool true), ρ3, st3) ∧ tabB st3 0 = true ∧ tabB st3 1 = true :=
 x23 (tail_ok (wv v) (!v 1 && !v 4) (!v 2 && !v 8) (!v 3 && !v 12) (!v 6 && !v 9) (!v 7 && !v 13) (!v 11 && !v 14)) fun ρ3 st3 h h0 h1 =>
  m23 ρ3 st3 ((exL_append (front_ok (wv v))).trans ((exL_append near_ok).trans h)) h0 h1
end Mine
end
noncomputable section
open PySem PySem.W PyProof.Rows PySem.Spec PySem.Calls
namespace Mine
theorem cl_sym {dat : Nat → D} {f k : Nat} {d : D} (h : cl dat f (dat k) = some d) : cl dat (f + 1) (.sym k) = some d := h
theorem btw_iff {a b k : Nat} (h : btw a b k = true) : a ≤ k ∧ k < b := by
 unfold btw at h
 simp only [Bool.and_eq_true] at h
 refine ⟨Nat.le_of_ble_eq_true h.1, ?_⟩
 have := h.2
 unfold Nat.blt at this
 exact Nat.le_of_ble_eq_true this
theorem lkS_inv {s : List Nat} {d : D} : ∀ {l : List (List Nat)}, lkS s (l.map fun o => (textS o, readD o)) = some d → ∃ o ∈ l, s = textS o ∧ d = readD o
 | [], h => by simp [lkS] at h
 | o :: l, h => by
  simp only [List.map_cons, lkS] at h
  split at h
  · rename_i e
    cases h
    exact (m13 o List.mem_cons_self (((@eqL_iff V0 _ _).mp e).symm) rfl)
  · refine x12 (lkS_inv h) ?_
    intro o' h1 h2
    exact (m12 o' (List.mem_cons_of_mem _ h1) h2)
theorem smL_inv {k : Nat} {ds : List D} {d : D} (h : smL k ds = some d) : (k = 0 ∧ ∃ o ∈ evens, ds = [.str (textS o)] ∧ d = readD o) ∨ (k = 1 ∧ ds = [.sym 60] ∧ d = .list [.sym 12, .sym 13, .sym 14, .sym 15]) ∨ (k = 2 ∧ ∃ j, 12 ≤ j ∧ j < 16 ∧ ds = [.sym j] ∧ d = .sym (j - 12)) ∨
  (k = 3 ∧ ∃ j, 16 ≤ j ∧ j < 32 ∧ ds = [.sym j] ∧ d = .sym (j + 16)) ∨ (k = 4 ∧ ∃ i j, 8 ≤ i ∧ i < 12 ∧ 8 ≤ j ∧ j < 12 ∧ ds = [.sym i, .sym j] ∧ d = .sym (16 + 4 * (i - 8) + (j - 8))) ∨ (k = 5 ∧ ∃ j, 16 ≤ j ∧ j < 32 ∧ ds = [.sym j] ∧ d = .sym (j + 16)) ∨ (k = 6 ∧ ds = [] ∧ d = rowsD) := by
 match k, h with
 | 0, h =>
  refine x22 (conF_inv h) ?_
  intro a r eqv1 h
  subst eqv1
  refine x12 (strF_inv h) ?_
  intro s eqv1 h
  subst eqv1
  obtain ⟨rfl, h⟩ := nilF_inv h
  refine x13 (lkS_inv h) ?_
  intro o h1 eqv1 eqv2
  subst eqv1
  subst eqv2
  exact .inl ⟨rfl, o, h1, rfl, rfl⟩
 | 1, h =>
  refine x12 (oneSym_inv h) ?_
  intro j eqv1 h
  subst eqv1
  obtain ⟨e, h⟩ := ifI0 h
  have e := Nat.eq_of_beq_eq_true e
  subst e
  exact .inr (.inl ⟨rfl, rfl, (so h).symm⟩)
 | 2, h =>
  refine x12 (oneSym_inv h) ?_
  intro j eqv1 h
  subst eqv1
  obtain ⟨e, h⟩ := ifI0 h
  exact .inr (.inr (.inl ⟨rfl, j, (btw_iff e).1, (btw_iff e).2, rfl, (so h).symm⟩))
 | 3, h =>
  refine x12 (oneSym_inv h) ?_
  intro j eqv1 h
  subst eqv1
  obtain ⟨e, h⟩ := ifI0 h
  exact .inr (.inr (.inr (.inl ⟨rfl, j, (btw_iff e).1, (btw_iff e).2, rfl, (so h).symm⟩)))
 | 4, h =>
  refine x22 (twoSym_inv h) ?_
  intro i j eqv1 h
  subst eqv1
  obtain ⟨e, h⟩ := ifI0 h
  have e := Bool.and_eq_true_iff.mp e
  exact .inr (.inr (.inr (.inr (.inl ⟨rfl, i, j, (btw_iff e.1).1, (btw_iff e.1).2, (btw_iff e.2).1, (btw_iff e.2).2, rfl, (so h).symm⟩))))
 | 5, h =>
  refine x12 (oneSym_inv h) ?_
  intro j eqv1 h
  subst eqv1
  obtain ⟨e, h⟩ := ifI0 h
  exact .inr (.inr (.inr (.inr (.inr (.inl ⟨rfl, j, (btw_iff e).1, (btw_iff e).2, rfl, (so h).symm⟩)))))
 | 6, h =>
  obtain ⟨h1, h⟩ := nilF_inv h
  exact .inr (.inr (.inr (.inr (.inr (.inr ⟨rfl, h1, (so h).symm⟩)))))
 | _ + 7, h => exact no h
theorem msL_inv {k : Nat} {l : List D} {d : D} (h : msL k l = some d) : k = 2 ∧ ∃ i j, 4 ≤ i ∧ i < 8 ∧ 4 ≤ j ∧ j < 8 ∧ l = [.sym i, .sym j] ∧ d = .sym (16 + 4 * (i - 4) + (j - 4)) := by
 match k, h with
 | 0, h => exact no h
 | 1, h => exact no h
 | 2, h =>
  refine x22 (twoSym_inv h) ?_
  intro i j eqv1 h
  subst eqv1
  obtain ⟨e, h⟩ := ifI0 h
  have e := Bool.and_eq_true_iff.mp e
  exact ⟨rfl, i, j, (btw_iff e.1).1, (btw_iff e.1).2, (btw_iff e.2).1, (btw_iff e.2).2, rfl, (so h).symm⟩
 | _ + 3, h => exact no h
theorem macL_inv {k : Nat} {d0 d : D} (h : macL k d0 = some d) : ∃ j, j < 4 ∧ d0 = .sym j ∧ ((k = 0 ∧ d = .sym (j + 4)) ∨ (k = 1 ∧ d = .sym (j + 8))) := by
 match k, h with
 | 0, h =>
  refine x12 (symF_inv h) ?_
  intro j eqv1 h
  subst eqv1
  obtain ⟨e, h⟩ := ifI0 h
  exact (m13 j ((btw_iff e).2) rfl (.inl ⟨rfl, (so h).symm⟩))
 | 1, h =>
  refine x12 (symF_inv h) ?_
  intro j eqv1 h
  subst eqv1
  obtain ⟨e, h⟩ := ifI0 h
  exact (m13 j ((btw_iff e).2) rfl (.inr ⟨rfl, (so h).symm⟩))
 | _ + 2, h => exact no h
section
variable {prog : Program} {w : World} {hT : Heap} {sa : Scope} {code ca : Addr} {mN : Str → Option Value} {ad am : Nat → Addr} {ini : Addr}
theorem fnL_all : ∀ k p, fnL k = some p → fnAll k = some p := by
 intro k p h
 match k, h with
 | 0, h => exact h
 | 1, h => exact h
 | 2, h => exact h
 | 3, h => exact h
 | 4, h => exact no h
 | 5, h => exact h
 | 6, h => exact h
 | _ + 7, h => exact no h
theorem cl_read {dat : Nat → D} (o : List Nat) : cl dat 20 (readD o) = some (readD o) := by
 unfold readD
 split <;> rfl
theorem dm1 {a b : Nat} (h : b < 4) : (16 + 4 * a + b - 16) / 4 = a := by
 rw [Nat.add_assoc, Nat.add_sub_cancel_left, Nat.mul_add_div (by decide), Nat.div_eq_of_lt h]; rfl
theorem dm2 {a b : Nat} (h : b < 4) : (16 + 4 * a + b - 16) % 4 = b := by
 rw [Nat.add_assoc, Nat.add_sub_cancel_left, Nat.mul_add_mod, Nat.mod_eq_of_lt h]
theorem dm3 {a b : Nat} : 16 ≤ 16 + 4 * a + b := by omega
theorem dm4 {a b : Nat} (h : a < 4) (k : b < 4) : 16 + 4 * a + b < 32 := by omega
theorem topL (B : Base prog w hT sa code ca mN ad am ini) {codes : Nat → Addr} (hcode : codes 0 = code) {r : Nat → Nat} (hr : ∀ k, r k < 80) {ns : List Int} {wd : Nat → Option Bool} (hw : ∀ k b, wd k = some b → k < 16 ∧ eqL (wordsS (sizesD (r (k / 4)) (r (k % 4)))) wordL = b)
  {sc2 : Scope} {stmts : List Stmt} {cd : Value} (gu : Glb hT (nmF 14) (.ref (ad 14))) (FU : FnE (G0 sa code) hT (ad 14) [67] sc2 stmts cd) (hs : uecIs (G0 sa code) sc2 stmts = true)
  (cells : @Meets1 (VL ca codes r ns) prog w hT (ad 15) [.sym 60] (.list [.sym 12, .sym 13, .sym 14, .sym 15])) {af : Addr} (gf : Glb hT (nmS 3) (.ref af)) (ff : ∃ o fd, hT.get? af = some o ∧ o.data = .func fd)
  (fmt : ∀ j, 16 ≤ j → j < 32 → @Meets2 (VL ca codes r ns) prog w hT af [.sym j] (.sym (j + 16))) : @TopOk (VL ca codes r ns) prog w (GG sa code) (TL wd) hT := by
 have fdat : ∀ {k p}, fnAll k = some p → ∃ o fd, hT.get? (ad k) = some o ∧ o.data = .func fd := fun h => by
  obtain ⟨o, fd, _, _, h1, h2, _⟩ := (B.fn _ _ h).2
  exact (m22 o fd h1 h2)
 have c1 : ∀ {k d}, cl (datL r ns) 19 (datL r ns k) = some d → cl (VL ca codes r ns).dat 20 (.sym k) = some d := fun h => cl_sym (f := 19) h
 have wit : ∀ {j}, 16 ≤ j → j < 32 → cl (VL ca codes r ns).dat 20 (.sym j) = some (witD (r ((j - 16) / 4)) (r ((j - 16) % 4))) := fun h1 h2 => c1 (by rw [datL_wit h1 h2]; exact cl_wit (f := 16))
 have line : ∀ {k}, k < 4 → cl (VL ca codes r ns).dat 20 (.sym (k + 4)) = some (lineD (r k)) := fun h => c1 (by rw [datL_line h]; exact cl_line' 15 _)
 have walk : ∀ {k}, k < 4 → cl (VL ca codes r ns).dat 20 (.sym (k + 8)) = some (walkD (r k)) := fun h => c1 (by rw [datL_walk h]; rfl)
 have lead : ∀ {k}, k < 4 → cl (VL ca codes r ns).dat 20 (.sym k) = some (.str (leadS (r k))) := fun h => c1 (by rw [datL_lead h]; rfl)
 refine top_ok (VL ca codes r ns) rfl hcode B (.inr rfl) rfl (@OrOk.mk (VL ca codes r ns) _ (fun j k b h => by contradiction) (fun k b h => ?_) (fun k h => ?_) (fun j k b h => by contradiction)) (fun k p h => ⟨fnL_all k p h, B.fnG k p h⟩) (fun k ds d h => ?_) (fun p h => by contradiction) (fun k p h => by exact nomatch h) (fun k o ds d h => ?_) (fun x b e h => by contradiction) (fun k d0 d h => ?_)
 · have h : (match btw 32 48 k with | true => wd (k - 32) | false => none) = some b := h
   split at h
   · rename_i e
     have e := btw_iff e
     exact (m12 _ (datL_word e.1 e.2) ((hw _ _ h).2))
   · exact nomatch h
 · have e := btw_iff h
   exact ⟨_, datL_wit e.1 e.2⟩
 · rcases smL_inv h with ⟨rfl, o, h1, rfl, rfl⟩ | ⟨rfl, rfl, rfl⟩ | ⟨rfl, j, h1, h2, rfl, rfl⟩ | ⟨rfl, j, h1, h2, rfl, rfl⟩ | ⟨rfl, i, j, h1, h2, h3, h4, rfl, rfl⟩ | ⟨rfl, j, h1, h2, rfl, rfl⟩ | ⟨rfl, rfl, rfl⟩
   · exact (m14 (ad 12) ((B.fn 12 _ rfl).1) (fdat (k := 12) rfl) (fun y => read_meets (V := VL ca codes r ns) B rfl (Nat.le_refl _) gu FU hs h1 rfl (cl_read o)) (fun q => by contradiction))
   · exact (m14 (ad 15) ((B.fn 15 _ rfl).1) (fdat (k := 15) rfl) (fun y => cells) (fun q => by contradiction))
   · exact (m14 (ad 13) ((B.fn 13 _ rfl).1) (fdat (k := 13) rfl) (fun y => lead_meets (V := VL ca codes r ns) B rfl (by show 29 ≤ 70; exact Nat.le_add_left _ _) (hr _) (c1 (by rw [datL_num h1 h2]; rfl)) (lead (by exact Nat.sub_lt_left_of_lt_add ‹_› ‹_›))) (fun q => by contradiction))
   · exact (m14 af gf ff (fun q => (by contradiction)) (fun y => fmt j h1 h2))
   · exact (m14 (ad 9) ((B.fn 9 _ rfl).1) (fdat (k := 9) rfl) (fun y => wit_meets (V := VL ca codes r ns) B rfl (by show 58 ≤ 70; exact Nat.le_add_left _ _) (hr (i - 8)) (hr (j - 8)) (by have := walk (k := i - 8) (by exact Nat.sub_lt_left_of_lt_add ‹_› ‹_›); rwa [Nat.sub_add_cancel h1] at this) (by have := walk (k := j - 8) (by exact Nat.sub_lt_left_of_lt_add ‹_› ‹_›); rwa [Nat.sub_add_cancel h3] at this) (by have i4 : i - 8 < 4 := Nat.sub_lt_left_of_lt_add h1 h2; have j4 : j - 8 < 4 := Nat.sub_lt_left_of_lt_add h3 h4; have := wit (j := 16 + 4 * (i - 8) + (j - 8)) dm3 (dm4 i4 j4); rw [dm1 j4, dm2 j4] at this; exact this)) (fun q => by contradiction))
   · exact (m14 (ad 8) ((B.fn 8 _ rfl).1) (fdat (k := 8) rfl) (fun y => words_meets (V := VL ca codes r ns) B rfl (by show 58 ≤ 70; exact Nat.le_add_left _ _) (hr ((j - 16) / 4)) (hr ((j - 16) % 4)) (wit h1 h2) (c1 (by rw [datL_word (by simp [*]) (by exact Nat.add_lt_add_right ‹_› _), show j + 16 - 32 = j - 16 by rfl]; rfl))) (fun q => by contradiction))
   · exact (m14 (ad 7) ((B.fn 7 _ rfl).1) (fdat (k := 7) rfl) (fun y => rows_meets (V := VL ca codes r ns) B rfl (by show 58 ≤ 70; exact Nat.le_add_left _ _) rfl) (fun q => by contradiction))
 · obtain ⟨rfl, i, j, h1, h2, h3, h4, e, rfl⟩ := msL_inv h
   cases e
   have l1 := line (k := i - 4) (by exact Nat.sub_lt_left_of_lt_add ‹_› ‹_›)
   rw [Nat.sub_add_cancel h1] at l1
   have l2 := line (k := j - 4) (by exact Nat.sub_lt_left_of_lt_add ‹_› ‹_›)
   rw [Nat.sub_add_cancel h3] at l2
   have i4 : i - 4 < 4 := Nat.sub_lt_left_of_lt_add h1 h2
   have j4 : j - 4 < 4 := Nat.sub_lt_left_of_lt_add h3 h4
   have w3 := wit (j := 16 + 4 * (i - 4) + (j - 4)) dm3 (dm4 i4 j4)
   rw [dm1 j4, dm2 j4] at w3
   have hd := datL_line (r := r) (ns := ns) (k := i - 4) (by exact Nat.sub_lt_left_of_lt_add ‹_› ‹_›)
   rw [Nat.sub_add_cancel h1] at hd
   exact ⟨⟨_, hd⟩, rfl, nlw_meets (V := VL ca codes r ns) B rfl (by show 58 ≤ 70; exact Nat.le_add_left _ _) (hr (i - 4)) (hr (j - 4)) l1 l2 w3⟩
 · obtain ⟨j, hj, rfl, ⟨rfl, rfl⟩ | ⟨rfl, rfl⟩⟩ := macL_inv h
   · intro A env sc al fr ow ρ st s e n hx H hi
     exact line_mac (V := VL ca codes r ns) B rfl (by show 29 ≤ 70; exact Nat.le_add_left _ _) (hr j) H hi hx (lead hj) (line hj)
   · intro A env sc al fr ow ρ st s e n hx H hi
     exact walk_mac (V := VL ca codes r ns) B rfl (by show 29 ≤ 70; exact Nat.le_add_left _ _) (hr j) H hi hx (lead hj) (walk hj)
end
end Mine
end
noncomputable section
open PySem PySem.W PyProof.Rows PySem.Spec PySem.Calls
namespace Mine
noncomputable def resF (c0 c1 c2 c3 : Int) (k : Nat) : Nat := ((match k with | 0 => c0 | 1 => c1 | 2 => c2 | _ => c3) % 80).toNat
theorem resF_lt (c0 c1 c2 c3 : Int) (k : Nat) : resF c0 c1 c2 c3 k < 80 := by
 unfold resF
 generalize (match k with | 0 => c0 | 1 => c1 | 2 => c2 | _ => c3) = c
 lia
section
variable {prog : Program} {w : World} {hT : Heap} {sa : Scope} {code ca : Addr} {mN : Str → Option Value} {ad am : Nat → Addr} {ini : Addr}
theorem RDs.turn [Val] {al fr : List Addr} {h : Heap} {vs : List Value} {a : Int} {x : D} {ds ds' : List D} (r : RDs al fr h vs (.int a :: ds)) (f : ∀ t, RD al fr h (.int a t) x) (g : ∀ us, RDs al fr h us ds → RDs al fr h us ds') : RDs al fr h vs (x :: ds') :=
 x23 r.to fun j us e r1 r2 => x11 r1.to fun t e2 => e ▸ e2 ▸ .cons (f t) (g us r2)
theorem list4 [Val] {al fr : List Addr} {h : Heap} {v : Value} {a b c d : Int} {x y z u : D} (r : RD al fr h v (.list [.int a, .int b, .int c, .int d])) (f1 : ∀ t, RD al fr h (.int a t) x) (f2 : ∀ t, RD al fr h (.int b t) y) (f3 : ∀ t, RD al fr h (.int c t) z) (f4 : ∀ t, RD al fr h (.int d t) u) : RD al fr h v (.list [x, y, z, u]) :=
 x25 r.to fun j j e n1 n2 hl q => e ▸ .list _ _ _ n1 n2 hl (q.turn f1 fun j q => q.turn f2 fun j q => q.turn f3 fun j q => q.turn f4 fun j q => q)
theorem cells_named (B : Base prog w hT sa code ca mN ad am ini) {codes : Nat → Addr} {ns : List Int} {c0 c1 c2 c3 : Int} {ρ' : Env'} {v : Nat} (e : (run TA 12).2 [(34, some (.list (ns.map .int)))] ⟨0, []⟩ cellT.2 = some (.ret (.ob 0), ρ', cellSt v c0 c1 c2 c3)) :
  @Meets1 (VL ca codes (resF c0 c1 c2 c3) ns) prog w hT (ad 15) [.sym 60] (.list [.sym 12, .sym 13, .sym 14, .sym 15]) := by
 have h : cl (VL ca codes (resF c0 c1 c2 c3) ns).dat 20 (.sym 60) = some (.list (ns.map .int)) := cl_sym (f := 19) (by
  show cl _ 19 (datL _ ns 60) = _
  rw [datL_script]
  exact cl_list (f := 18) (clL_ints (f := 17) ns))
 have M : @Meets1 (VL ca codes (resF c0 c1 c2 c3) ns) prog w hT (ad 15) [.sym 60] (.list [.int c0, .int c1, .int c2, .int c3]) :=
  meets_run (V := VL ca codes (resF c0 c1 c2 c3) ns) (V' := VA ca code) (f := 20) (ds' := [.list (ns.map .int)]) rfl (topA B) (B.fn 15 _ rfl).2 (n := 12) (by show 0 + 2 * 12 + 1 ≤ 70; exact Nat.le_add_left _ _) (clL_one h rfl) (clL_one (cl_list (f := 19) (clL_ints (f := 18) ns)) rfl) rfl e (frz_of rfl rfl) rfl
 intro A al fr st s vs hh ht hd hu S r
 refine wpAny_mono (M A al fr st s vs hh ht hd hu S r) (fun v s2 p => ?_) fun j j q => q
 refine x12 p ?_
 try clear p
 intro al2 S2 q
 refine ⟨al2, S2, ?_⟩
 have num : ∀ (k : Nat) (c : Int) (t : Tok), 12 ≤ k → k < 16 → c % 80 = ((resF c0 c1 c2 c3 (k - 12) : Nat) : Int) → @RD (VL ca codes (resF c0 c1 c2 c3) ns) al2 fr s2.heap (.int c t) (.sym k) := fun k c t h1 h2 h3 =>
  @RD.sym (VL ca codes (resF c0 c1 c2 c3) ns) al2 fr s2.heap (.int c t) k (by
   show @RD (VL ca codes (resF c0 c1 c2 c3) ns) al2 fr s2.heap (.int c t) (datL (resF c0 c1 c2 c3) ns k)
   rw [datL_num h1 h2]
   exact @RD.num (VL ca codes (resF c0 c1 c2 c3) ns) al2 fr s2.heap c t 80 _ h3)
 have res : ∀ c : Int, c % 80 = (((c % 80).toNat : Nat) : Int) := fun c => by lia
 exact @list4 (VL ca codes (resF c0 c1 c2 c3) ns) _ _ _ _ _ _ _ _ _ _ _ _ q (fun t => num 12 c0 t (by exact Nat.le_refl _) (by exact Nat.le_add_left _ _) (res c0)) (fun t => num 13 c1 t (by exact Nat.le_succ _) (by exact Nat.le_add_left _ _) (res c1)) (fun t => num 14 c2 t (by exact Nat.le_add_left _ _) (by exact Nat.le_succ _) (res c2)) (fun t => num 15 c3 t (by exact Nat.le_add_left _ _) (by exact Nat.lt_succ_self _) (res c3))
end
end Mine
end
noncomputable section
open PySem PySem.W PyProof.Rows PySem.Spec PySem.Calls
namespace Mine
section
variable {prog : Program} {w : World} {A : Around} {E : Value → Shared → Prop} {s : Shared}
theorem elt_ok {cenv : Env} {x : Str} {p1 p2 p3 p4 p5 : Pos} {kk k : Nat} {a : Addr} {items : List Value} {t : Tok} {m : Str → Option Value} (hk : cenv.scope.kind = .function) (kx : cenv.kindOf x = some .local) (nx : (x == ("__debug__" : Str)) = false)
  (ks : cenv.kindOf ("str" : Str) = some .globalImplicit) (hg : cenv.globals = mainGlobals) (hb : cenv.builtins = builtinsNs) (g : Glb s.heap ("str" : Str) (.type "str")) (hn : s.heap.Ns cenv.locals m) (hx : m x = some (.ref a))
  (ht : s.heap.IsTuple a items.toArray) (h0 : items[0]? = some (.int (k : Int) t)) (h10 : k < 10) :
  wpAny (model prog w) A (eval (.Call (.Name ("str" : Str) p1) [.Subscript (.Name x p2) (.Constant (.int 0) kk p3) p4] [] p5) cenv) (fun y s₃ => (∃ u, y = .str ⟨[48 + k].toArray⟩ u) ∧ Keeps s s₃) E s := by
 letI : Val := V0
 refine wpAny_Call_Name_kw ?_
 refine x23 g ?_
 clear g
 intro mg mb g1 g2 g3
 refine Name_function_global hk ks ?_ (by decide)
 have fin : wpAny (model prog w) A (callWith p5 (.type "str") [] (backTo p5 (starEach [.Subscript (.Name x p2) (.Constant (.int 0) kk p3) p4] cenv)) (backToKw p5 (keywordEach [] cenv))) (fun y s₃ => (∃ u, y = .str ⟨[48 + k].toArray⟩ u) ∧ Keeps s s₃) E s := by
  rw [starEach_cons rfl, backTo_cons]
  refine PyProof.Rows.callWith_type (first := []) rfl (evalArgs_plain (spliced_cons (Subscript_ (wpAny_Name (wpAny_loadName_local hk kx hn hx (wpAny_Constant_int ?_)) nx))))
  have hl : 0 < items.length := (List.getElem?_eq_some_iff.mp h0).1
  refine item_tupleT (j := 0) ht (by decide) (by decide) ?_ h0 (spliced_nil (P.str_of_int ?_ ?_)) rfl
  · unfold seqIndex?
    have : (0 ≤ (if (0 : Int) < 0 then (0 : Int) + items.length else (0 : Int)) && (if (0 : Int) < 0 then (0 : Int) + items.length else (0 : Int)) < items.length) = true := by
     rw [if_neg (by simp [*])]; simp; assumption
    simp only [this, if_true]
    rw [if_neg (by simp [*])]; exact Option.map_some ..
  · have : ∀ k : Nat, k < 10 → (k : Int).natAbs.log2 < 1920 := by decide
    exact this k h10
  · rw [@str_digit k h10]
    exact ⟨⟨_, rfl⟩, _, _, rfl, fun z z e => e⟩
 rcases g3 with g3 | ⟨g3, g4⟩
 · exact loadGlobal_global (by rw [hg]; exact g1) g3 fin
 · exact loadGlobal_builtin (by rw [hg]; exact g1) g3 (by rw [hb]; exact g2) g4 fin
theorem GenAt.still2 {a C : Addr} {g : Nat} {fp wr : List Addr} {pz : Nat → Bool} {n₀ j : Nat} {F : Nat → Value → Prop} {s s' : Shared} (st : GenAt prog w A a g C fp wr pz n₀ F j s) (hcs : cStatics ∈ fp)
  (hk : ∀ b ∈ a :: C :: fp, ∀ o, s.heap.get? b = some o → s'.heap.get? b = some o) (hg : ∀ x, s.gens[g]? = some x → s'.gens[g]? = some x) : GenAt prog w A a g C fp wr pz n₀ F j s' :=
 ⟨let ⟨o, nm, qn, ho, r⟩ := st.1; ⟨o, nm, qn, hk a (List.mem_cons_self ..) o ho, r⟩,
  (let ⟨mc, hns, hnn⟩ := st.2.1; ⟨mc, hns.at' fun o e => hk cStatics (List.mem_cons_of_mem _ (List.mem_cons_of_mem _ hcs)) o e, hnn⟩),
  let ⟨gs, hgs, hgo⟩ := st.2.2; ⟨gs, hg gs hgs, fun s'' hal => hgo s'' fun b hb o e => hal b hb o (hk b (List.mem_cons_of_mem _ hb) o e)⟩⟩
end
section
variable {prog : Program} {w : World} {V V' : Val} {G : Nms} {T : Tab} {hT : Heap} {n : Nat} {A : Around} {env : Env} {sc : Scope} {al al' fr ow : List Addr} {ρ ρ' : Env'} {st st' : St} {s s' : Shared} {h : Heap}
theorem Stp.backO (S : @Sto V prog w hT al fr st s.heap) (ho : ∀ a ∈ ow, a ∈ fr) (P : @Stp V' prog w hT (al ++ fr) ow [] al' ⟨0, []⟩ st' s s') : @Stp V prog w hT fr ow al al st st s s' := by
 obtain ⟨_, S2, kp, rs⟩ := P
 have keep : ∀ b o, b ∉ ow → s.heap.get? b = some o → s'.heap.get? b = some o := fun b o n e => kp.keep b o (by exact List.not_mem_nil) n e
 have aw : ∀ a, a ∈ al → a ∉ ow := fun a ha q => @Sto.dj V _ _ _ _ _ _ _ S a ha (ho a q)
 have old := @Sto.old V _ _ _ _ _ _ _ S
 have new := @Sto.new V _ _ _ _ _ _ _ S
 refine @Stp.mk V _ _ _ _ _ _ _ _ _ _ _ ⟨[], by exact (List.append_nil _).symm, fun j h => nomatch h⟩ (@Sto.mk V _ _ _ _ _ _ _ (fun b o e => keep b o (fun q => ?_) (old b o e)) (@Sto.len V _ _ _ _ _ _ _ S) (fun a ha => ⟨(new a ha).1, Nat.lt_of_lt_of_le (new a ha).2 kp.sz⟩) (@Sto.nd V _ _ _ _ _ _ _ S) (@Sto.dj V _ _ _ _ _ _ _ S) (fun k v mo e => ?_))
  ⟨kp.sz, fun b o j n2 e => keep b o n2 e, fun k v mo e => ⟨v, mo, e, Nat.le_refl _, fun j => ⟨rfl, fun a o ha e => keep a o (aw a (List.mem_of_getElem? ha)) e⟩⟩⟩ rs
 · rw [(new b (.inr (ho b q))).1] at e; exact nomatch e
 · refine x12 (@Sto.mu V _ _ _ _ _ _ _ S k v mo e) ?_
   intro a ha m
   letI : Val := V
   exact ⟨a, ha, m.mono (fun o e => keep a o (aw a (List.mem_of_getElem? ha)) e) (fun b o n1 n2 e => ⟨keep b o (fun q => n2 (ho b q)) e, n1, n2⟩) (fun j j e => e)⟩
end
end Mine
end
noncomputable section
open PySem PySem.W PyProof.Rows PySem.Spec PySem.Calls
namespace Mine
variable [Val]
section
variable {prog : Program} {w : World} {G : Nms} {T : Tab} {hT : Heap} {n : Nat} {A : Around} {env : Env} {sc sc2 : Scope} {al al' al'' fr fr' N ow ow' : List Addr} {ρ ρ' : Env'} {st st' st'' : St} {s s₁ s₂ s₃ s' s'' : Shared} {h h' : Heap}
noncomputable def digF (ks : List Nat) (i : Nat) (y : Value) : Prop := ∃ k u, ks[i]? = some k ∧ y = .str ⟨[48 + k].toArray⟩ u
noncomputable def genOf (sc2 : Scope) (x : Str) : Bool :=
 sc2.kind == .function && !sc2.isCoroutine && (sc2.names.lookup (".0" : Str) == some .local) && (sc2.names.lookup x == some .local) && (sc2.names.lookup ("str" : Str) == some .globalImplicit) && notDebug x && sc2.names.all fun (_, k) => match k with
  | .free | .cell => false
  | _ => true
theorem genOf_inv {x : Str} {C : Prop} (hg : genOf sc2 x = true) (k : (sc2.kind == .function) = true → sc2.isCoroutine = false → (sc2.names.lookup (".0" : Str) == some .local) = true → (sc2.names.lookup x == some .local) = true → (sc2.names.lookup ("str" : Str) == some .globalImplicit) = true → notDebug x = true → (∀ y ∈ sc2.names, (match y.2 with | .free | .cell => false | _ => true) = true) → C) : C := by
 unfold genOf at hg
 simp only [Bool.and_eq_true, Bool.not_eq_true', List.all_eq_true] at hg
 exact k hg.1.1.1.1.1.1 hg.1.1.1.1.1.2 hg.1.1.1.1.2 hg.1.1.1.2 hg.1.1.2 hg.1.2 fun y hy => hg.2 y hy
set_option maxHeartbeats 1600000 in
theorem fgen_ok (NN : Names G.v) (B : Bis hT) (H : Here prog w G.v G.c hT n A env sc al fr ow ρ st s) (hcode : env.code = .ref (Val.code 1)) {x : Str} {p1 p2 p3 p4 p5 p6 p7 gp : Pos} {kk : Nat} (hg : genOf sc2 x = true) {d1 : D} (hi : lk 74 ρ = some (some d1)) (hkv : isVarK (sc.names.lookup (G.v 74)) = true)
  {ks : List Nat} {f : Nat → List D} (hd : cl Val.dat 20 d1 = some (.list (ks.map fun (k : Nat) => D.tup (.int (k : Int) :: f k)))) (hks : ∀ k ∈ ks, k < 10) (hat : atKey 1 1 st = true) (hset : setM st 1 some = some st') {Q : Value → Shared → Prop}
  (hQ : ∀ (a C I : Addr) (al2 FP : List Addr) (g : Nat) (s5 : Shared), (∀ {ow' al' st'' s9}, Stp prog w hT ([a, C, I] ++ fr) ow' al2 al' st' st'' s5 s9 → (∀ x ∈ ow', x ∈ ow ∨ x ∈ [a, C, I]) → Stp prog w hT fr ow al al' st st'' s s9) →
   Sto prog w hT al2 ([a, C, I] ++ fr) st' s5.heap → s.gens.size ≤ g → EnvOk G.v env sc al2 ([a, C, I] ++ fr) ow ρ s5.heap → (∀ b ∈ FP, b ∉ al2 ∧ b ∉ fr ∧ b < s5.heap.objs.size) → (a ∉ al2 ∧ a ∉ fr) → (C ∉ al2 ∧ C ∉ fr) → I ∈ FP → cStatics ∈ FP →
   a < s5.heap.objs.size → C < s5.heap.objs.size → s.toks ≤ s5.toks →
   WalksS prog w A.in4 a (a :: C :: FP) [C, I] (GenOnlyQ g) (passing (fun t => true) ks.length 0).length (fun j y => ∃ i, (passing (fun t => true) ks.length 0)[j]? = some i ∧ digF ks i y) (GenAt prog w A.in4 a g C FP [I] (fun t => true) ks.length (digF ks)) →
   GenAt prog w A.in4 a g C FP [I] (fun t => true) ks.length (digF ks) 0 s5 → Q (.ref a) s5) :
  wpAny (model prog w) A (eval (.GeneratorExp (.Call (.Name ("str" : Str) p1) [.Subscript (.Name x p2) (.Constant (.int 0) kk p3) p4] [] p5) [⟨.Name x p6, .Name (G.v 74) p7, [], 0⟩] sc2 gp) env) Q FF s := by
 refine genOf_inv hg ?_
 clear hg
 intro g1 g2 g3 g4 g5 g6 g7
 have hk : sc2.kind = .function := beq_iff_eq.mp g1
 have nofree : ∀ y ∈ sc2.names, y.2 ≠ .free := fun y hy q => by
  have := g7 y hy
  rw [q] at this; exact nomatch this
 have nocell : ∀ y ∈ sc2.names, y.2 ≠ .cell := fun y hy q => by
  have := g7 y hy
  rw [q] at this; exact nomatch this
 refine wpAny_with_toks (Nat.le_refl s.toks) (wpAny_mono (E := FF) (Q := fun v s' => s.toks ≤ s'.toks → Q v s') ?_ (fun t t x => x) fun t t x => x.elim)
 refine gen_made H.hd g2 (closure_ok fun y hy q => absurd q (nofree y hy)) nocell (beq_iff_eq.mp g3) (beq_iff_eq.mp g4) hk (by have := H.dp; lia) ?_ (fun x => rfl)
 refine wpAny_mono (var_ok NN H hi hkv) (fun v s2 p => ?_) fun t t q => q
 refine x12 p ?_
 clear p
 intro al2 S2 r2
 have r2' : RD al2 fr s2.heap v (.list (ks.map fun (k : Nat) => D.tup (.int (k : Int) :: f k))) := cl_ok rfl (fun b o n1 n2 e => ⟨e, n1, n2⟩) hd r2
 refine x25 r2'.to ?_
 clear r2' r2
 intro l vs eqv m1 m2 hl rs
 subst eqv
 refine wpAny_pyIter_list hl.isList ?_
 have So := S2.sto
 have old3 : ∀ b o, s2.heap.get? b = some o → (s2.heap.push { cls := .type "list_iterator", data := .fields #[.ref l, .int 0 0] }).get? b = some o := fun b o e => Heap.get?_push_of_some _ e
 have lim3 := B.lim.keeps fun b o e => old3 b o (So.old b o e)
 refine ⟨lim3, ?_⟩
 refine x33 (setM_inv hset) ?_
 intro v0 mo mo' k1 k2 eq5
 subst eq5
 cases k2
 unfold atKey at hat
 rw [k1] at hat
 induction mo using MO.casesOn with
 | list => exact nb hat
 | dic => exact nb hat
 | attrs => exact nb hat
 | inst fs =>
  refine x12 (So.mu 1 v0 _ k1) ?_
  intro P hP mo2
  refine x26 mo2 ?_
  clear mo2
  intro key ps efs nc1 nc2 CF hp ht
  subst efs
  have hkey : key = 1 := by
   dsimp only at hat
   split at hat
   · rename_i z
     rw [lk_cons] at z
     split at z
     · assumption
     · exact no z
   · exact nb hat
  subst hkey
  have Pm := List.mem_of_getElem? hP
  have Pn := So.new P (.inl Pm)
  have notP : ∀ {d : Addr} {o : Obj}, hT.get? d = some o → d ≠ P := fun e q => by rw [q, Pn.1] at e; exact nomatch e
  have inT : ∀ {d : Addr} {o : Obj}, hT.get? d = some o → d ∉ al2 ∧ d ∉ fr := fun e => ⟨fun q => (by rw [(So.new _ (.inl q)).1] at e; exact nomatch e), fun q => (by rw [(So.new _ (.inr q)).1] at e; exact nomatch e)⟩
  refine x37 B.bmod ?_
  intro mg bm ob hgl hbm hbn hob hcl hdi hda
  refine x12 (id B.lim) ?_
  intro mc hns _
  refine x32 hns ?_
  clear hns
  intro oc ec1 ec2 hoc _
  have CF3 : CodeFor (s2.heap.push { cls := .type "list_iterator", data := .fields #[.ref l, .int 0 0] }) (Val.code 1) P := by
   refine x92 CF ?_
   clear CF
   intro o x1 x2 x3 x4 x5 x6 x7 x8 ho rr
   exact ⟨o, x1, x2, x3, x4, x5, x6, x7, x8, old3 _ _ ho, rr⟩
  refine code_made hcode CF3 (old3 _ _ hp) ht (fun q => nc1 (q ▸ Pm)) fun code h4 tk ps' hx4 hs4 hp4 ht4 => ?_
  have keep4 : ∀ b o, b ≠ P → s2.heap.get? b = some o → h4.get? b = some o := fun b o nb e => hx4 b o nb (old3 b o e)
  have hT4 : ∀ b o, hT.get? b = some o → h4.get? b = some o := fun b o e => keep4 b o (notP e) (So.old b o e)
  rw [H.env.gl]
  refine wpAny_builtinsFor (hgl.keeps hT4) hbm hbn (hT4 _ _ hob) hcl hdi hda ?_
  have sz4 : s2.heap.objs.size < h4.objs.size := Nat.lt_of_lt_of_le (by rw [Heap.size_push]; exact Nat.lt_succ_self _) hs4
  have hI4 : h4.get? s2.heap.objs.size = some { cls := .type "list_iterator", data := .fields #[.ref l, .int 0 0] } := hx4 _ _ (fun q => Nat.lt_irrefl _ (q ▸ Pn.2)) (Heap.get?_push_size _ rfl)
  have fresh := So.fresh (a := s2.heap.objs.size) (Nat.le_refl _)
  let FP := (List.range h4.objs.size).filter fun b => decide (b ∉ al2 ∧ b ∉ fr)
  have inFP : ∀ {b : Addr} {o : Obj}, h4.get? b = some o → b ∉ al2 → b ∉ fr → b ∈ FP := fun e n1 n2 => List.mem_filter.mpr ⟨List.mem_range.mpr (Heap.lt_size e), by simp [n1, n2]⟩
  have ofFP : ∀ b ∈ FP, b < h4.objs.size ∧ b ∉ al2 ∧ b ∉ fr := fun b hb => ⟨List.mem_range.mp (List.mem_filter.mp hb).1, by simpa using (List.mem_filter.mp hb).2⟩
  have lneP : ∀ {d : Addr}, d ∉ al2 → d ≠ P := fun n q => n (q ▸ Pm)
  have hl4 : h4.IsList l vs.toArray := by
   refine x11 (id hl) ?_
   intro j ho
   exact (hl.at fun o' e => keep4 _ _ (lneP m1) e).isList
  have lFP : l ∈ FP := by
   refine x11 (id hl) ?_
   intro j ho
   exact inFP (keep4 _ _ (lneP m1) ho) m1 m2
  have lI : l ≠ s2.heap.objs.size := by
   refine x11 (id hl) ?_
   intro j ho
   exact Nat.ne_of_lt (Heap.lt_size ho)
  have len : vs.toArray.size = ks.length := by
   have := rs.length
   simpa using this
  have W : ∀ A' : Around, A'.handled = none → Walks prog w A' s2.heap.objs.size [s2.heap.objs.size, l] [s2.heap.objs.size] ks.length (fun i v => vs.toArray[i]? = some v) (fun i h => h.IsListIter s2.heap.objs.size l i ∧ h.IsList l vs.toArray) := fun A' hA => by
   have := Walks.list (prog := prog) (w := w) hA s2.heap.objs.size l lI vs.toArray
   rwa [len] at this
  have lim4 : h4.NoLimit := B.lim.keeps hT4
  have cFP : cStatics ∈ FP := inFP (hT4 _ _ hoc) (inT hoc).1 (inT hoc).2
  refine (m910 s2.heap.objs.size _ _ ks.length _ _ (fun t => true) (digF ks) FP rfl W ?_ (fun b hb => ?_) (fun b hb => (ofFP b hb).1) cFP lim4 (fun m => ?_) (fun href hk4 => ⟨fun A' E' i v' s2' m2' hA t t t t t t => wpAny_pure ⟨rfl, s2'.heap, s2'.toks, rfl, fun t t e => e⟩, fun A' E' i v' s2' m2' hA t t hv t hn2 hx2 hkp => ?_⟩) (fun a h5 tk5 gs hbare hlt hsz5 hk5 WS GA tkk => ?_))
  · exact ⟨⟨_, hI4, rfl, rfl⟩, hl4⟩
  · simp only [List.mem_cons, List.not_mem_nil, or_false] at hb
    rcases hb with e | e
    · exact e ▸ inFP hI4 fresh.1 fresh.2
    · exact e ▸ lFP
  · rw [List.mem_singleton] at m
    exact absurd (Heap.lt_size (So.old _ _ hoc)) (by rw [m]; exact Nat.lt_irrefl _)
  · -- an item
    have hv' : vs[i]? = some v' := by simpa using hv
    have il : i < ks.length := by
     have := (List.getElem?_eq_some_iff.mp hv').1
     have e := rs.length
     simp at e; lia
    obtain ⟨u, hu, ru⟩ := rs.nth (n := i) (d := .tup (.int ((ks[i]'il : Nat) : Int) :: f (ks[i]'il))) (by
     have : ∀ (l : List Nat) (i : Nat) (h : i < l.length), nthD (l.map fun (k : Nat) => D.tup (.int (k : Int) :: f k)) i = some (.tup (.int ((l[i]'h : Nat) : Int) :: f (l[i]'h))) := by
      intro l
      induction l with
      | nil => intro i h; cases h
      | cons y r ih => intro i h; induction i using Nat.casesOn with
       | zero => rfl
       | succ i => exact ih i (by simpa using h)
     exact this ks i il)
    rw [hv'] at hu; cases hu
    refine x25 ru.to ?_
    clear ru
    intro ta us eqv q1 q2 htu rus
    subst eqv
    cases rus with
    | cons r0 rus' => cases r0 with
     | int _ t0 =>
      refine x12 (id htu) ?_
      intro ot hot hrt
      have tFP := inFP (keep4 _ _ (lneP q1) hot) q1 q2
      have tI : ta ≠ s2.heap.objs.size := Nat.ne_of_lt (Heap.lt_size hot)
      have kp : ∀ b o, b ∈ FP → b ≠ s2.heap.objs.size → h4.get? b = some o → s2'.heap.get? b = some o := fun b o hb nb e => hkp b hb (by simpa using nb) o (hk4 b o e)
      have kT : ∀ b o, hT.get? b = some o → s2'.heap.get? b = some o := fun b o e => kp b o (inFP (hT4 b o e) (inT e).1 (inT e).2) (fun q => absurd (Heap.lt_size (So.old _ _ e)) (by rw [q]; exact Nat.lt_irrefl _)) (hT4 b o e)
      refine wpAny_mono (elt_ok (k := ks[i]'il) hk (beq_iff_eq.mp g4) (notDebug_iff g6) (beq_iff_eq.mp g5) H.env.gl rfl ?_ hn2 hx2 ⟨ot, kp _ _ tFP tI (keep4 _ _ (lneP q1) hot), hrt⟩ rfl (hks _ (List.getElem_mem il))) (fun y s3 p => ⟨?_, p.2⟩) fun t t q => q
      · refine x23 (B.bi .str) ?_
        intro mg' mb' e1 e2 e3
        exact ⟨mg', mb', e1.keeps kT, e2.keeps kT, e3⟩
      · refine x11 p.1 ?_
        intro u eq1
        subst eq1
        exact ⟨_, u, by rw [List.getElem?_eq_getElem il], rfl⟩
  · -- the generator stands
    replace hlt : h4.objs.size < a := hlt
    replace hsz5 : h5.objs.size = a + 1 := hsz5
    obtain ⟨op, hop, hop1⟩ : ∃ op, s2.heap.get? P = some op ∧ op = { cls := .none, data := .fields ps } := (m12 _ hp rfl)
    have hp5 : h5.get? P = some { cls := .none, data := .fields ps' } := hk5 _ _ hp4
    have keep5 : ∀ b o, b ≠ P → s2.heap.get? b = some o → h5.get? b = some o := fun b o nb e => hk5 b o (keep4 b o nb e)
    let hq := h5.update P fun t => op
    have hqP : hq.get? P = some op := Heap.get?_update_self _ hp5 (by rw [hop1]; rfl)
    have hqO : ∀ b, b ≠ P → hq.get? b = h5.get? b := fun b nb => Heap.get?_update_other _ _ (Ne.symm nb)
    have hqk : ∀ b o, s2.heap.get? b = some o → hq.get? b = some o := fun b o e => by
     by_cases q : b = P
     · rw [q, hop] at e; rw [q, ← so e]; exact hqP
     · rw [hqO b q]; exact keep5 b o q e
    have hqs : hq.objs.size = h5.objs.size := Heap.size_update _ _ _
    have sz5 : s2.heap.objs.size < h5.objs.size := by rw [hsz5]; lia
    have hN : ∀ b ∈ [a, h4.objs.size, s2.heap.objs.size], s2.heap.objs.size ≤ b ∧ b < hq.objs.size := fun b hb => by
     rw [hqs, hsz5]
     simp only [List.mem_cons, List.not_mem_nil, or_false] at hb
     rcases hb with e | e | e <;> rw [e] <;> lia
    have SF := So.fence (N := [a, h4.objs.size, s2.heap.objs.size]) hqk (by rw [hqs]; exact Nat.le_of_lt sz5) hN
    have hE : EnvOk G.v env sc al2 fr ow ρ s2.heap := H.env.step H.sto S2
    have gpush : ∀ (g : Nat) y, s2.gens[g]? = some y → (s2.gens.push gs)[g]? = some y := fun g y e => by
     have lt : g < s2.gens.size := (Array.getElem?_eq_some_iff.mp e).1
     rw [Array.getElem?_push_lt lt]; rw [← e]; exact (Array.getElem?_eq_getElem lt).symm
    refine x12 (SF.mu 1 v0 _ k1) ?_
    intro P' hP' mo3
    refine x26 mo3 ?_
    clear mo3
    intro key' ps2 ek z1 z2 z3 _ _
    rw [hP] at hP'; cases hP'; cases ek
    let s2q : Shared := { s2 with heap := hq, toks := s.toks }
    have htk5 : s.toks ≤ tk5 := tkk
    have SM := Stp.setM (s := s2q) (tk := tk5) (hp := h5) (mo' := .inst [(1, .none)]) SF k1 hP (Nat.le_of_eq hqs) (fun b o nb e => by rw [← hqO b nb]; exact e) ⟨1, ps', rfl, z1, z2, z3, hp5, ht4⟩ htk5
    have R5 : Rest s2q { s2 with gens := s2.gens.push gs, toks := tk5, heap := h5 } := ⟨rfl, htk5, fun x => x.push hbare, gpush⟩
    have S5 := SM.same (s'' := { s2 with gens := s2.gens.push gs, toks := tk5, heap := h5 }) rfl R5
    have S2' : Stp prog w hT fr [] al al2 st st s { s2 with toks := s.toks } := S2.same rfl ⟨S2.rest.os, Nat.le_refl _, S2.rest.gens⟩
    have aF : a ∉ al2 ∧ a ∉ fr := So.fresh (Nat.le_of_lt (Nat.lt_trans sz4 hlt))
    have CF' : h4.objs.size ∉ al2 ∧ h4.objs.size ∉ fr := So.fresh (by exact Nat.le_of_lt ‹_›)
    refine hQ a h4.objs.size s2.heap.objs.size al2 FP s2.gens.size _ (fun {ow' al' st'' s9} S9 ho => ?_) S5.sto ?_ ?_ (fun b hb => ?_) aF CF' (inFP hI4 fresh.1 fresh.2) cFP ?_ ?_ htk5 WS GA
    · have SI := Stp.inner (s₁ := { s2 with toks := s.toks }) (fr := fr) (ow := ow) hqk (by show s2.heap.objs.size ≤ hq.objs.size; rw [hqs]; exact Nat.le_of_lt sz5) (Rest.mk rfl (Nat.le_refl _) .refl : Rest { s2 with toks := s.toks } s2q) ((S5.wide fun a ha => nomatch ha).trans S9) (fun b hb => List.mem_append.mpr (.inr hb)) (fun b hb => (ho b hb).imp id fun q => (hN b q).1)
      exact (S2'.wide fun a ha => nomatch ha).trans SI
    · rcases Nat.lt_or_ge s2.gens.size s.gens.size with q | q
      · have := S2.rest.gens.2 s2.gens.size (s.gens[s2.gens.size]'q) (Array.getElem?_eq_getElem q)
        have := (Array.getElem?_eq_some_iff.mp this).1
        exact absurd ‹_› (Nat.lt_irrefl _)
      · exact q
    · refine hE.to (fun v d r => ?_) (fun b o q e => ?_) (fun b hb => List.mem_append.mpr (.inr (hE.sub b hb))) fun y c e => List.mem_append.mpr (.inr (hE.cfr y c e).1)
      · exact (r.fence So hqk fun b hb => (hN b hb).1).step S5
      · refine keep5 b o (fun z => ?_) e
        exact q.elim (fun q => So.dj _ Pm (z ▸ (q ▸ hE.sub _ hE.lo : b ∈ fr))) fun q => x11 q fun y hy => So.dj _ Pm (z ▸ (hE.cfr _ _ hy).1)
    · have := ofFP b hb
      exact ⟨this.2.1, this.2.2, by show b < h5.objs.size; rw [hsz5]; exact Nat.lt_succ_of_lt (Nat.lt_trans this.1 hlt)⟩
    · show a < h5.objs.size
      rw [hsz5]; exact Nat.lt_succ_self _
    · show h4.objs.size < h5.objs.size
      rw [hsz5]; exact Nat.lt_succ_of_lt hlt
end
end Mine
end
noncomputable section
open PySem PySem.W PyProof.Rows PySem.Spec PySem.Calls
namespace Mine
noncomputable def fY2 : Y := .asg (.var 76) (.kstr atTab)
noncomputable def fY3 : Y := .if_ (.cmp (.bi .len [.var 74]) .gt (.kint 1)) [.asg (.var 76) (.bin .add false (.var 76) (.kstr [115]))] []
noncomputable def fX1 : X := .bin .add false (.var 76) (.kstr [32])
noncomputable def preS (l : List Nat) : List Nat := atTab ++ (match Nat.blt 1 l.length with | true => [115] | false => [])
noncomputable def digS (k : Nat) : Str := ⟨[48 + k].toArray⟩
noncomputable def sepS : Str := ⟨[44, 32].toArray⟩
theorem join16 : all16 (fun b1 b2 b3 b4 => JoinOk sepS ((sizesS 3 b1 b2 b3 b4).map digS) && (Txt.join sepS ((sizesS 3 b1 b2 b3 b4).map digS) == ⟨(tellD (sizesS 3 b1 b2 b3 b4)).toArray⟩)) = true := by decide +kernel
theorem word16 : all16 (fun b1 b2 b3 b4 => eqL ((preS (sizesS 3 b1 b2 b3 b4) ++ [32]) ++ tellD (sizesS 3 b1 b2 b3 b4)) (wordsS (sizesS 3 b1 b2 b3 b4)) && fits ((preS (sizesS 3 b1 b2 b3 b4) ++ [32]).length + (tellD (sizesS 3 b1 b2 b3 b4)).length)) = true := by decide +kernel
section
variable (b1 b2 b3 b4 : Bool) (g : Nat → D)
noncomputable abbrev fρ2 : Env' := [(74, some (.list ((sizesS 3 b1 b2 b3 b4).map g))), (75, some (.opq 0))]
noncomputable abbrev fρ3 : Env' := [(74, some (.list ((sizesS 3 b1 b2 b3 b4).map g))), (75, some (.opq 0)), (76, some (.str atTab))]
noncomputable abbrev fρ4 : Env' := [(74, some (.list ((sizesS 3 b1 b2 b3 b4).map g))), (75, some (.opq 0)), (76, some (.str (preS (sizesS 3 b1 b2 b3 b4))))]
theorem fpure2 : ex1 (run TA 6).1 (run TA 6).2 (fρ2 b1 b2 b3 b4 g) ⟨0, []⟩ fY2 = some (.next, fρ3 b1 b2 b3 b4 g, ⟨0, []⟩) := by
 induction b1 using Bool.casesOn <;> induction b2 using Bool.casesOn <;> induction b3 using Bool.casesOn <;> induction b4 using Bool.casesOn <;> kernel_rfl
theorem fpure3 : ex1 (run TA 6).1 (run TA 6).2 (fρ3 b1 b2 b3 b4 g) ⟨0, []⟩ fY3 = some (.next, fρ4 b1 b2 b3 b4 g, ⟨0, []⟩) := by
 induction b1 using Bool.casesOn <;> induction b2 using Bool.casesOn <;> induction b3 using Bool.casesOn <;> induction b4 using Bool.casesOn <;> kernel_rfl
theorem fpure4 : (run TA 6).1 (fρ4 b1 b2 b3 b4 g) ⟨0, []⟩ fX1 = some (.str (preS (sizesS 3 b1 b2 b3 b4) ++ [32]), ⟨0, []⟩) := by
 induction b1 using Bool.casesOn <;> induction b2 using Bool.casesOn <;> induction b3 using Bool.casesOn <;> induction b4 using Bool.casesOn <;> kernel_rfl
end
noncomputable def fmtIs (G : Nms) (sc : Scope) : List Stmt → Bool := vC fun s1 l1 => vC (fun s2 l2 => v2 (fun s3 s4 =>
 wAsg (fun tes ge ap => isPure (! ·) (swapsWithSole tes ge ap.line (envOf sc)) && isPure isNone (swappedStores tes ge (envOf sc)) && v1 (fun te => vGE (fun ee gs sc2 => v1 (vGen fun gt gi gifs => v0 gifs && vCN (fun idS as => v1 (vSub fun xe ie =>
  vName (fun x1 => vInt (fun i0 => vName (fun x2 => vName (fun x3 => wRet (vSo (vBin fun e1 op jc => isAdd op && vCA (fun oe jn p9 as2 p11 => vStr (fun sep => v1 (vName fun x4 =>
  tgName G sc 75 te && idS == ("str" : Str) && x1 == x2 && x3 == G.v 74 && eqInt i0 0 && genOf sc2 x1 && isVarK (sc.names.lookup (G.v 74)) && isVarK (sc.names.lookup (G.v 75)) && cY G 20 sc fY2 s2 && cY G 20 sc fY3 s3 && cE G 20 sc fX1 e1 && eqL [44, 32] sep.cps.toList && jn == meName .join && x4 == G.v 75 && (p9.endLine == p11.line)) as2) oe) jc)) s4) gi) gt) ie) xe) as) ee) gs) ge) tes) s1) l2) l1
@[elab_as_elim] theorem fmt_e {G : Nms} {sc : Scope} {l : List Stmt} {P : List Stmt → Prop} (h : fmtIs G sc l = true)
  (k : ∀ te p1 x1 p2 k1 p3 p4 p5 p6 p7 sc2 gp ap s2 s3 e1 k2 p8 p9 p10 p11 p12 p13,
   tgName G sc 75 te = true → genOf sc2 x1 = true → isVarK (sc.names.lookup (G.v 74)) = true → isVarK (sc.names.lookup (G.v 75)) = true →
   isPure (! ·) (swapsWithSole [te] (.GeneratorExp (.Call (.Name ("str" : Str) p1) [.Subscript (.Name x1 p2) (.Constant (.int 0) k1 p3) p4] [] p5) [⟨.Name x1 p6, .Name (G.v 74) p7, [], 0⟩] sc2 gp) ap.line (envOf sc)) = true →
   isPure isNone (swappedStores [te] (.GeneratorExp (.Call (.Name ("str" : Str) p1) [.Subscript (.Name x1 p2) (.Constant (.int 0) k1 p3) p4] [] p5) [⟨.Name x1 p6, .Name (G.v 74) p7, [], 0⟩] sc2 gp) (envOf sc)) = true →
   cY G 20 sc fY2 s2 = true → cY G 20 sc fY3 s3 = true → cE G 20 sc fX1 e1 = true → (p9.endLine == p11.line) = true → P [.Assign [te] (.GeneratorExp (.Call (.Name ("str" : Str) p1) [.Subscript (.Name x1 p2) (.Constant (.int 0) k1 p3) p4] [] p5) [⟨.Name x1 p6, .Name (G.v 74) p7, [], 0⟩] sc2 gp) ap, s2, s3, .Return (some (.BinOp e1 .Add (.Call (.Attribute (.Constant (.str sepS) k2 p8) (meName .join) p9) [.Name (G.v 75) p10] [] p11) p12)) p13]) : P l := by
 letI : Val := V0
 refine vC_e h fun s1 l1 h => ?_
 refine vC_e h fun s2 l2 h => ?_
 refine v2_e h fun s3 s4 h => ?_
 refine wAsg_e h fun tes ge ap h => ?_
 refine b3 h fun w1 w2 h => ?_
 revert w1 w2
 refine v1_e h fun te h => ?_
 refine vGE_e h fun ee gs sc2 gp h => ?_
 refine v1_e h fun gg h => ?_
 refine vGen_e h fun gt gi gifs h => ?_
 refine x02 (both h) fun h9 h => ?_
 refine vCN_e h fun idS p1 as p5 h => ?_
 refine v1_e h fun a1 h => ?_
 refine vSub_e h fun xe ie p4 h => ?_
 refine vName_e h fun x1 p2 h => ?_
 refine vInt_e h fun i0 k1 p3 h => ?_
 refine vName_e h fun x2 p6 h => ?_
 refine vName_e h fun x3 p7 h => ?_
 refine wRet_e h fun rv p13 h => ?_
 refine vSo_e h fun re h => ?_
 refine vBin_e h fun e1 op jc p12 h => ?_
 refine x02 (both h) fun ho h => ?_
 refine vCA_e h fun oe jn p9 as2 p11 h => ?_
 refine vStr_e h fun sep k2 p8 h => ?_
 refine v1_e h fun a2 h => ?_
 refine vName_e h fun x4 p10 h => ?_
 refine b15 h fun c1 c2 c3 c4 c5 c6 c7 c8 c9 c10 c11 c12 c13 c14 c15 => ?_
 rw [v0_inv h9, beq_str c2, ← beq_str c3, beq_str c4, (eqInt_iff _ _).mp c5, bopIs_eq ho, str_of c12, beq_str c13, beq_str c14]
 exact fun w1 w2 => k te p1 x1 p2 k1 p3 p4 p5 p6 p7 sc2 gp ap s2 s3 e1 k2 p8 p9 p10 p11 p12 p13 c1 c6 c7 c8 w1 w2 c9 c10 c11 c15
section
variable {prog : Program} {w : World} {A : Around} {s : Shared}
theorem fjoin_ok {ks : List Nat} {a C I : Addr} {FP : List Addr} {g : Nat} {t : Tok} (hj : JoinOk sepS (ks.map digS) = true) (hn : ks.length ≤ sizeLine)
  (W : WalksS prog w A.in4 a (a :: C :: FP) [C, I] (GenOnlyQ g) (passing (fun z => true) ks.length 0).length (fun j y => ∃ i, (passing (fun z => true) ks.length 0)[j]? = some i ∧ digF ks i y) (GenAt prog w A.in4 a g C FP [I] (fun z => true) ks.length (digF ks)))
  (GA : GenAt prog w A.in4 a g C FP [I] (fun z => true) ks.length (digF ks) 0 s) (hfp : ∀ b ∈ a :: C :: FP, b < s.heap.objs.size) {Q : Value → Shared → Prop}
  (hQ : ∀ u s', s.heap.objs.size ≤ s'.heap.objs.size → s.toks ≤ s'.toks → (∀ b o, b ∉ [C, I] → s.heap.get? b = some o → s'.heap.get? b = some o) → GenOnlyQ g s.gens s'.gens → s'.os = s.os → Q (.str (Txt.join sepS (ks.map digS)) u) s') :
  wpAny (model prog w) A (call (.builtin "str.join") [.str sepS t, .ref a]) Q FF s := by
 have hp : passing (fun z => true) ks.length 0 = List.range ks.length := by simp [passing]
 rw [hp, List.length_range] at W
 refine with_more (SC.joinGen (WalksS.in4_2 W) (fun i s' X => X.1.typeIs) GA hfp List.mem_cons_self (fun i v hv => ?_) (fun s' l mv it => ?_) hn)
 · obtain ⟨j, _, k, u, _, rfl⟩ := hv
   exact (m21 _ _ rfl)
 · have e : l.map (·.1) = ks.map digS := by
     apply List.ext_getElem?
     intro j
     have hsz : l.length = ks.length := by simpa [strValues] using it.1
     by_cases hj : j < ks.length
     · have hj' : j < l.length := hsz ▸ hj
       obtain ⟨i, hi, k, u, hk, hv⟩ := it.2 j (.str l[j].1 l[j].2) (by simp [strValues, List.getElem?_eq_getElem hj'])
       have : i = j := by
        rw [List.getElem?_range hj] at hi
        exact (Option.some.inj hi).symm
       subst this
       injection hv with h1 _
       have hk' : ks[i] = k := by rw [List.getElem?_eq_getElem hj] at hk; exact Option.some.inj hk
       simp [List.getElem?_eq_getElem hj', hj, h1, digS, hk']
     · rw [List.getElem?_eq_none (by simpa [hsz] using Nat.le_of_not_lt hj), List.getElem?_eq_none (by simpa using Nat.le_of_not_lt hj)]
   rw [e]
   exact ⟨hj, fun t' k hz => hQ t' { s' with toks := k } hz.1 hz.2 mv.heap mv.gens mv.os⟩
end
end Mine
end
noncomputable section
open PySem PySem.W PyProof.Rows PySem.Spec PySem.Calls
namespace Mine
noncomputable abbrev VF (ca code a : Addr) : Val := { cls := ca, dat := fun j => .none, txt := fun j => [], tok := fun j => 0, opq := fun j => .ref a, opqH := fun j => rfl, room := 0, code := fun j => code, refl := fun j st f j h => refl_none st f h }
section
variable {prog : Program} {w : World} {hT : Heap} {sa : Scope} {code ca : Addr} {mN : Str → Option Value} {ad am : Nat → Addr} {ini : Addr}
theorem notCall_const {c : Const} {k : Nat} {p : Pos} : notCall (.Constant c k p) = true := by unfold notCall vCN vCall; rfl
set_option maxHeartbeats 1600000 in
theorem fmt_meets [V : Val] (B : Base prog w hT sa code ca mN ad am ini) (hca : V.cls = ca) (hr : 29 ≤ V.room) {af : Addr} {sc : Scope} {stmts : List Stmt} (FO : FnE (G0 sa code) hT af [74] sc stmts (.ref (V.code 1))) (hs : fmtIs (G0 sa code) sc stmts = true)
  {r q : Nat} {d1 d2 : D} (e1 : cl V.dat 20 d1 = some (witD r q)) (e2 : cl V.dat 20 d2 = some (.str (wordsS (sizesD r q)))) : @Meets2 V prog w hT af [d1] d2 := by
 intro A al fr st st' s vs hh htk hd hu S rv hat hset
 revert FO
 refine fmt_e hs fun te p1 x1 p2 k1 p3 p4 p5 p6 p7 sc2 gp ap s2 s3 e1x k2 p8 p9 p10 p11 p12 p13 c1 c6 c7 c8 c9 c10 c11 c12 c13 c17 FO => ?_
 clear hs
 · obtain ⟨b1, b2, b3, b4, hks⟩ : ∃ b1 b2 b3 b4, sizesD r q = sizesS 3 b1 b2 b3 b4 := (m41 _ _ _ _ (sizes_mask _ _ _ _ _))
   have ks10 : ∀ k ∈ sizesD r q, k < 10 := fun k hk => by
    have := sizes_mem hk
    simp only [List.mem_cons, List.not_mem_nil, or_false] at this
    lia
   have NN := (nok0 B).nm
   refine fn_enter (n := 0) NN B.bis FO hh htk (by lia) (by lia) S rv (ρ0 := [(74, some d1)]) rfl fun env N s1 hc hsc keep hz R hN H => ?_
   subst hsc
   have w9 := isPure_not c9
   have w10 := isPure_none c10
   rw [← swapsSole_of] at w9
   rw [← swapped_of] at w10
   have one : (assignEach [te] env).map (·.2) = [assign te env] := by
    refine x12 (tgName_iff c1) ?_
    intro p eq1 _
    subst eq1
    rfl
   refine wpAny_execs_cons (wpAny_Assign_stores (fgen_ok NN B.bis H hc c6 (d1 := d1) rfl c7 (ks := sizesD r q) (f := fun k => [nI (levD r k), nI (levD q k)]) e1 ks10 hat hset fun a C I al2 FP g s5 back So5 hg hE hFP ha hC hI hcs hal hCl htk5 WS GA => ?_) w9 w10)
   rw [one]
   show wpAny (model prog w) _ (assign te env (.ref a)) _ _ _
   have dp := H.dp
   have un := H.un
   have hhd := H.hd
   have hcd := H.cd
   have tk5 : 1 ≤ s5.toks := Nat.le_trans H.tk htk5
   have hcl : V.cls = (VF ca code a).cls := hca
   have TO : @TopOk (VF ca code a) prog w (G0 sa code) TA hT := topA' (VF ca code a) rfl rfl B
   let L : D := .list ((sizesS 3 b1 b2 b3 b4).map (tupD r q))
   have hL : L = witD r q := by show D.list _ = _; rw [← hks]; rfl
   have wcl : cl (VF ca code a).dat 20 L = some (witD r q) := by rw [hL]; exact cl_wit (f := 17)
   let F : List Addr := al2 ++ ([a, C, I] ++ (N ++ fr))
   have ST5 : @Sto (VF ca code a) prog w hT [] F ⟨0, []⟩ s5.heap := Sto.aside So5
   have E5 : @EnvOk (VF ca code a) (G0 sa code).v env env.scope [] F N [(74, some L)] s5.heap := EnvOk.aside hcl hE rfl e1 wcl
   refine x04 (@run_ok (VF ca code a) prog w (G0 sa code) TA hT TO 6) ?_
   intro IH J Co X
   have mkH : ∀ {ρ : Env'} {s' : Shared}, s5.toks ≤ s'.toks → @Sto (VF ca code a) prog w hT [] F ⟨0, []⟩ s'.heap → @EnvOk (VF ca code a) (G0 sa code).v env env.scope [] F N ρ s'.heap → @Here (VF ca code a) prog w (G0 sa code).v (G0 sa code).c hT 6 (A.deeper env) env env.scope [] F N ρ ⟨0, []⟩ s' := fun ht hst he =>
    @Here.mk (VF ca code a) _ _ _ _ _ _ _ _ _ _ _ _ _ _ _ hhd (Nat.le_trans tk5 ht) (by show A.depth + 1 + 2 * 6 + 20 + 0 < _; have : A.depth + 1 + 2 * 0 + 20 + V.room < recursionLimit := dp; lia) (by show A.units + 3 + 16 * 6 + 800 + 16 * 0 < _; have : A.units + 3 + 16 * 0 + 800 + 16 * V.room < cLine := un; lia) hst hcd he
   have nil : ∀ {al' : List Addr} {s' : Shared}, @Sto (VF ca code a) prog w hT al' F ⟨0, []⟩ s'.heap → al' = [] := fun z => List.length_eq_zero_iff.mp (@Sto.len (VF ca code a) _ _ _ _ _ _ _ z)
   refine wpAny_mono (@assign_name (VF ca code a) prog w (G0 sa code) hT 6 (A.deeper env) env env.scope [] F N [(74, some L)] ⟨0, []⟩ s5 NN (mkH (Nat.le_refl _) ST5 E5) 75 te (.ref a) (.opq 0) c1 (@RD.opq (VF ca code a) _ _ _ (.ref a) 0 rfl)) (fun j s6 p => ?_) fun j j q => q
   refine x02 p ?_
   clear p
   intro P6 E6
   have ST6 := @Stp.sto (VF ca code a) _ _ _ _ _ _ _ _ _ _ _ P6
   refine wpAny_execs_cons (wpAny_mono (@ex1_ok (VF ca code a) prog w (G0 sa code) TA hT 6 (A.deeper env) env env.scope [] F N _ _ _ _ s6 TO _ _ IH J Co X (mkH (@Stp.rest (VF ca code a) _ _ _ _ _ _ _ _ _ _ _ P6).tk ST6 E6) rfl fY2 s2 .next 20 (fpure2 b1 b2 b3 b4 (tupD r q)) c11) (fun f7 s7 p => ?_) fun j j q => q)
   refine x13 p ?_
   clear p
   intro al7 P7 E7 p
   have p : f7 = .next := p
   subst p
   have ST7 := @Stp.sto (VF ca code a) _ _ _ _ _ _ _ _ _ _ _ P7
   have z7 := nil ST7
   subst z7
   have P57 := @Stp.trans (VF ca code a) _ _ _ _ _ _ _ _ _ _ _ _ _ _ P6 P7
   refine wpAny_execs_cons (wpAny_mono (@ex1_ok (VF ca code a) prog w (G0 sa code) TA hT 6 (A.deeper env) env env.scope [] F N _ _ _ _ s7 TO _ _ IH J Co X (mkH (@Stp.rest (VF ca code a) _ _ _ _ _ _ _ _ _ _ _ P57).tk ST7 E7) rfl fY3 s3 .next 20 (fpure3 b1 b2 b3 b4 (tupD r q)) c12) (fun f8 s8 p => ?_) fun j j q => q)
   refine x13 p ?_
   clear p
   intro al8 P8 E8 p
   have p : f8 = .next := p
   subst p
   have ST8 := @Stp.sto (VF ca code a) _ _ _ _ _ _ _ _ _ _ _ P8
   have z8 := nil ST8
   subst z8
   have P58 := @Stp.trans (VF ca code a) _ _ _ _ _ _ _ _ _ _ _ _ _ _ P57 P8
   have H8 := mkH (@Stp.rest (VF ca code a) _ _ _ _ _ _ _ _ _ _ _ P58).tk ST8 E8
   refine wpAny_execs_cons (wpAny_Return_some (wpAny_BinOp (wpAny_mono (IH (fpure4 b1 b2 b3 b4 (tupD r q)) c13 H8) (fun v9 s9 p => ?_) fun j j q => q)))
   refine x12 p ?_
   clear p
   intro al9 P9 r9
   have ST9 := @Stp.sto (VF ca code a) _ _ _ _ _ _ _ _ _ _ _ P9
   have z9 := nil ST9
   subst z9
   have H9 := @Here.step (VF ca code a) _ _ _ _ _ _ _ _ _ _ _ _ _ _ _ _ _ _ H8 P9
   refine wpAny_Call_method_late (notCall_base notCall_const) (by rfl) c17 rfl (Constant_str ?_)
   have P10 := @Stp.tok (VF ca code a) prog w hT [] F _ s9 (s9.toks + 1) ST9 (Nat.le_succ _)
   refine x05 (@me_on (VF ca code a) prog w hT [] F ⟨0, []⟩ { s9 with toks := s9.toks + 1 } (@Stp.sto (VF ca code a) _ _ _ _ _ _ _ _ _ _ _ P10) (.str [44, 32]) .join (.str sepS s9.toks) (@RD.str (VF ca code a) _ _ _ [44, 32] s9.toks) rfl) ?_
   intro q1 q2 q3 q4 q5
   refine ⟨_, _, q1, q2, q3, q4, q5, ?_⟩
   have H10 := @Here.step (VF ca code a) _ _ _ _ _ _ _ _ _ _ _ _ _ _ _ _ _ _ H9 P10
   rw [starEach_cons rfl, backTo_cons]
   refine Calls.callWith_builtin rfl (evalArgs_plain (spliced_cons (wpAny_mono (@var_ok (VF ca code a) prog w (G0 sa code).v (G0 sa code).c hT 6 (A.deeper env) env env.scope [] F N _ _ _ NN H10 75 (.opq 0) p10 rfl c8) (fun v11 s11 p => spliced_nil ?_) fun j j q => q)))
   refine x12 p ?_
   clear p
   intro al11 P11 r11
   have ST11 := @Stp.sto (VF ca code a) _ _ _ _ _ _ _ _ _ _ _ P11
   have z11 := nil ST11
   subst z11
   have ev : v11 = .ref a := @RD.to (VF ca code a) _ _ _ _ _ r11
   subst ev
   have P911 : @Stp (VF ca code a) prog w hT F [] [] [] ⟨0, []⟩ ⟨0, []⟩ s8 s11 := @Stp.trans (VF ca code a) _ _ _ _ _ _ _ _ _ _ _ _ _ _ P9 (@Stp.trans (VF ca code a) _ _ _ _ _ _ _ _ _ _ _ _ _ _ P10 P11)
   have P511 : @Stp (VF ca code a) prog w hT F N [] [] ⟨0, []⟩ ⟨0, []⟩ s5 s11 := @Stp.trans (VF ca code a) _ _ _ _ _ _ _ _ _ _ _ _ _ _ P58 (@Stp.wide (VF ca code a) _ _ _ _ _ _ _ _ _ _ _ _ P911 fun a ha => nomatch ha)
   have kp511 := @Stp.kp (VF ca code a) _ _ _ _ _ _ _ _ _ _ _ P511
   have rs511 := @Stp.rest (VF ca code a) _ _ _ _ _ _ _ _ _ _ _ P511
   have outN : ∀ b ∈ a :: C :: FP, b ∉ N := fun b hb hn => by
    have hn' := List.mem_append.mpr (.inl hn : b ∈ N ∨ b ∈ fr)
    rcases List.mem_cons.mp hb with e | hb
    · exact ha.2 (e ▸ hn')
    · rcases List.mem_cons.mp hb with e | hb
      · exact hC.2 (e ▸ hn')
      · exact (hFP b hb).2.1 hn'
   have GA11 := GenAt.still2 GA hcs (fun b hb o e => kp511.keep b o (by exact List.not_mem_nil) (outN b hb) e) (fun x e => rs511.gens.2 g x e)
   have jj := all16_inv join16 b1 b2 b3 b4
   rw [← hks] at jj
   simp only [Bool.and_eq_true] at jj
   have wj := all16_inv word16 b1 b2 b3 b4
   rw [← hks] at wj
   simp only [Bool.and_eq_true] at wj
   have klen : (sizesD r q).length ≤ 4 := by
    rw [hks]
    exact List.length_filter_le _ _
   refine fjoin_ok jj.1 (Nat.le_trans klen (by decide)) WS GA11 (fun b hb => Nat.lt_of_lt_of_le ?_ kp511.sz) fun u s12 hz12 ht12 hk12 hg12 ho12 => ?_
   · rcases List.mem_cons.mp hb with e | hb
     · exact e ▸ hal
     · rcases List.mem_cons.mp hb with e | hb
       · exact e ▸ hCl
       · exact (hFP b hb).2.2
   rw [beq_iff_eq.mp jj.2]
   have inF : ∀ b ∈ [C, I], b ∈ F := fun b hb => List.mem_append.mpr (.inr (List.mem_append.mpr (.inl (List.mem_cons_of_mem _ hb))))
   have P12 := @Stp.buts (VF ca code a) prog w hT [] F ⟨0, []⟩ s11 [C, I] s12.heap s12.toks ST11 inF hz12 hk12 ht12
   have ST12' := @Stp.sto (VF ca code a) _ _ _ _ _ _ _ _ _ _ _ P12
   have ST12 : @Sto (VF ca code a) prog w hT [] F ⟨0, []⟩ s12.heap := ST12'
   have r9' : @RD (VF ca code a) [] F s12.heap v9 (.str (preS (sizesS 3 b1 b2 b3 b4) ++ [32])) := by
    refine x11 (@RD.to (VF ca code a) _ _ _ _ _ r9) ?_
    intro t eq1
    subst eq1
    exact @RD.str (VF ca code a) _ _ _ _ t
   have hb : binD ⟨0, []⟩ .add false (.str (preS (sizesS 3 b1 b2 b3 b4) ++ [32])) (.str (tellD (sizesD r q))) = some (.str (wordsS (sizesD r q)), ⟨0, []⟩) := by
    rw [← hks]
    show (match fits ((preS (sizesD r q) ++ [32]).length + (tellD (sizesD r q)).length) with | true => some (D.str ((preS (sizesD r q) ++ [32]) ++ tellD (sizesD r q)), (⟨0, []⟩ : St)) | false => none) = _
    rw [wj.2, (@eqL_iff V0 _ _).mp wj.1]
   refine wpAny_mono (@bin_ok (VF ca code a) prog w hT (A.deeper env) [] F ⟨0, []⟩ ⟨0, []⟩ s12 ST12 .add false v9 (.str ⟨(tellD (sizesD r q)).toArray⟩ u) _ _ _ r9' (@RD.str (VF ca code a) _ _ _ _ u) hb) (fun v13 s13 p => ?_) fun j j q => q
   refine x12 p ?_
   clear p
   intro al13 P13 r13
   have ST13 := @Stp.sto (VF ca code a) _ _ _ _ _ _ _ _ _ _ _ P13
   have z13 := nil ST13
   subst z13
   have kp13 := @Stp.kp (VF ca code a) _ _ _ _ _ _ _ _ _ _ _ P13
   have rs13 := @Stp.rest (VF ca code a) _ _ _ _ _ _ _ _ _ _ _ P13
   have P13' : @Stp (VF ca code a) prog w hT F [] [] [] ⟨0, []⟩ ⟨0, []⟩ { s11 with heap := s12.heap, toks := s12.toks } { s13 with gens := s11.gens } :=
    @Stp.mk (VF ca code a) _ _ _ _ _ _ _ _ _ _ _ (m12 ([]) rfl (fun j h => nomatch h)) ST13 kp13 ⟨rs13.os.trans ho12, rs13.tk, .refl⟩
   have P513 : @Stp (VF ca code a) prog w hT F ([C, I] ++ N) [] [] ⟨0, []⟩ ⟨0, []⟩ s5 { s13 with gens := s11.gens } :=
    @Stp.trans (VF ca code a) _ _ _ _ _ _ _ _ _ _ _ _ _ _ (@Stp.wide (VF ca code a) _ _ _ _ _ _ _ _ _ _ _ _ P511 fun x hx => .inl (List.mem_append.mpr (.inr hx)))
     (@Stp.trans (VF ca code a) _ _ _ _ _ _ _ _ _ _ _ _ _ _ (@Stp.wide (VF ca code a) _ _ _ _ _ _ _ _ _ _ _ _ P12 fun x hx => .inl (List.mem_append.mpr (.inl hx))) (@Stp.wide (VF ca code a) _ _ _ _ _ _ _ _ _ _ _ _ P13' fun x hx => nomatch hx))
   have PV := Stp.backO (V := V) (V' := VF ca code a) So5 (ow := [C, I] ++ N) (fun x hx => ?_) P513
   · have PB := back PV fun x hx => ?_
     · have PE := PB.same (s'' := s13) rfl ⟨PB.rest.os, PB.rest.tk, fun x => ?_, fun i x e => ?_⟩
       · have rW : @RD V al2 (N ++ fr) s13.heap v13 (.str (wordsS (sizesD r q))) := by
           refine x11 (@RD.to (VF ca code a) _ _ _ _ _ r13) ?_
           intro t eq1
           subst eq1
           exact @RD.str V _ _ _ _ t
         exact leave_fn keep hz R hN PE (cl_back e2 rW)
       · exact rs13.gens.1 (AllBare.moved (PB.rest.gens.1 x) hg12)
       · have i1 : i ≠ g := fun z => by
           have := (Array.getElem?_eq_some_iff.mp e).1
           lia
         have e2 : s11.gens[i]? = some x := PB.rest.gens.2 i x e
         refine rs13.gens.2 i x ?_
         rcases hg12 with z | z
         · rw [z]; exact e2
         · exact (z.1.2 i i1).trans e2
     · rcases List.mem_append.mp hx with hx | hx
       · exact .inr (List.mem_cons_of_mem _ hx)
       · exact .inl hx
   · rcases List.mem_append.mp hx with hx | hx
     · exact List.mem_append.mpr (.inl (List.mem_cons_of_mem _ hx))
     · exact List.mem_append.mpr (.inr (List.mem_append.mpr (.inl hx)))
end
end Mine
end
noncomputable section
open PySem PySem.W PyProof.Rows PySem.Spec PySem.Calls
namespace Mine
section
variable {prog : Program} {w : World} {hT : Heap} {sa : Scope} {code ca : Addr} {mN : Str → Option Value} {ad am : Nat → Addr} {ini : Addr}
noncomputable def bitW (r : Nat → Nat) (k : Nat) : Bool := eqL (wordsS (sizesD (r (k / 4)) (r (k % 4)))) wordL
theorem wv_inv {v : Nat → Bool} {k : Nat} {b : Bool} (h : wv v k = some b) : k < 16 ∧ v k = b := by
 replace h : cond (Nat.blt k 16) (some (v k)) none = some b := h
 generalize q : Nat.blt k 16 = c at h
 induction c using Bool.casesOn with
 | true => exact ⟨Nat.le_of_ble_eq_true q, so h⟩
 | false => exact no h
theorem lk_two {α : Type} {k i j : Nat} {a b x : α} (h : lk k [(i, a), (j, b)] = some x) : (i = k ∧ a = x) ∨ (j = k ∧ b = x) := by
 letI : Val := V0
 rw [lk_cons] at h
 by_cases q : i = k
 · rw [if_pos q] at h; exact .inl ⟨q, so h⟩
 · rw [if_neg q, lk_cons] at h
   by_cases q : j = k
   · rw [if_pos q] at h; exact .inr ⟨q, so h⟩
   · rw [if_neg q] at h; exact no h
theorem mn2 {α : Type} {c p q : α} (h1 : c ≠ p) (h2 : c ≠ q) : c ∉ [p, q] := fun h => (List.mem_cons.mp h).elim h1 fun h => h2 (List.mem_singleton.mp h)
noncomputable def TabAt (h : Heap) (c P : Addr) : Prop := CodeFor h c P ∧ ∃ ps : Array Value, h.get? P = some { cls := .none, data := .fields ps } ∧ TriplesOk ps.toList
theorem ints_rds [Val] {al fr : List Addr} {h : Heap} : ∀ {vs : List Value} {ns : List Int}, IntsAre vs ns → RDs al fr h vs (ns.map .int)
 | _, _, .nil => .nil
 | _, _, .cons n t r => .cons (.int n t) (ints_rds r)
theorem law_ret (B : Base prog w hT sa code ca mN ad am ini) {codes : Nat → Addr} (hcode : codes 0 = code) {scu scf : Scope} {stu stf : List Stmt} {cdu : Value} (gu : Glb hT (nmF 14) (.ref (ad 14))) (FU : FnE (G0 sa code) hT (ad 14) [67] scu stu cdu) (hsu : uecIs (G0 sa code) scu stu = true)
  {af : Addr} (gf : Glb hT (nmS 3) (.ref af)) (FF' : FnE (G0 sa code) hT af [74] scf stf (.ref (codes 1))) (hsf : fmtIs (G0 sa code) scf stf = true) {la : Addr} (FL : FnOk (GG sa code) hT la [34] lawY)
  {A : Around} {s : Shared} (hh : A.handled = none) (htk : 1 ≤ s.toks) (hd : A.depth + 300 < recursionLimit) (hu : A.units + 4000 < cLine) {P0 P1 : Addr} (old : ∀ b o, hT.get? b = some o → s.heap.get? b = some o)
  (t0 : TabAt s.heap (codes 0) P0) (t1 : TabAt s.heap (codes 1) P1) (n0 : hT.get? P0 = none) (n1 : hT.get? P1 = none) (hP : P0 ≠ P1) (c00 : codes 0 ≠ P0) (c01 : codes 0 ≠ P1) (c10 : codes 1 ≠ P0) (c11 : codes 1 ≠ P1)
  {l : Addr} {vs : List Value} {ns : List Int} (hl : s.heap.PlainList l vs.toArray) (hvs : IntsAre vs ns) (l0 : l ≠ P0) (l1 : l ≠ P1) :
  wpAny (model prog w) A (call (.ref la) [.ref l]) (fun v s' => v = .bool true ∧ Rest s s' ∧ s.heap.objs.size ≤ s'.heap.objs.size ∧ (∀ b o, b ≠ P0 → b ≠ P1 → s.heap.get? b = some o → s'.heap.get? b = some o) ∧ (∃ ps, s'.heap.get? P0 = some { cls := .none, data := .fields ps }) ∧ ∃ ps, s'.heap.get? P1 = some { cls := .none, data := .fields ps }) FF s := by
 refine x61 (cells_run ns) ?_
 intro c0 c1 c2 c3 ρ' v e
 let r := resF c0 c1 c2 c3
 refine x23 (law_run (bitW r)) ?_
 intro ρ3 st3 er tb0 tb1
 have fmt : ∀ j, 16 ≤ j → j < 32 → @Meets2 (VL ca codes r ns) prog w hT af [.sym j] (.sym (j + 16)) := fun j h1 h2 =>
  @fmt_meets prog w hT sa code ca mN ad am ini (VL ca codes r ns) B rfl (by show 29 ≤ 70; lia) af scf stf FF' hsf (r ((j - 16) / 4)) (r ((j - 16) % 4)) _ _
   (cl_sym (f := 19) (by show cl _ 19 (datL r ns j) = _; rw [datL_wit h1 h2]; exact cl_wit (f := 16)))
   (cl_sym (f := 19) (by show cl _ 19 (datL r ns (j + 16)) = _; rw [datL_word (by lia) (by lia), show j + 16 - 32 = j - 16 by lia]; rfl))
 have ff : ∃ o fd, hT.get? af = some o ∧ o.data = .func fd := by
  refine x23 FF'.has ?_
  intro o fd h1 h2 _
  exact (m22 o fd h1 h2)
 have TO := topL B hcode (r := r) (resF_lt c0 c1 c2 c3) (ns := ns) (wd := wv (bitW r)) (fun k b h => wv_inv h) gu FU hsu (cells_named B e) gf ff fmt
 letI V : Val := VL ca codes r ns
 have X : @ExOk V prog w (GG sa code) hT 40 _ := (@run_ok V prog w (GG sa code) _ hT TO 40).2.2.2
 have lt0 : P0 < s.heap.objs.size := by obtain ⟨_, ps, h, _⟩ := t0; exact Heap.lt_size h
 have lt1 : P1 < s.heap.objs.size := by obtain ⟨_, ps, h, _⟩ := t1; exact Heap.lt_size h
 have S : @Sto V prog w hT [P0, P1] [] stin s.heap := by
  refine @Sto.mk V prog w hT [P0, P1] [] stin s.heap old rfl (fun a ha => ?_) (by simpa using hP) (fun a y q => nomatch q) (fun k u mo h => ?_)
  · exact ha.elim (fun ha => q1 (P := fun a => hT.get? a = none ∧ a < s.heap.objs.size) ha ⟨n0, lt0⟩ fun ha => q1 (P := fun a => hT.get? a = none ∧ a < s.heap.objs.size) ha ⟨n1, lt1⟩ q0) q0
  · refine (lk_two (show lk k [(1, 0, MO.inst [(1, .none)]), (0, 0, MO.inst [(0, .none)])] = some (u, mo) from h)).elim (fun e => ?_) fun e => ?_
    · have e2 : MO.inst [(1, .none)] = mo := congrArg Prod.snd e.2
      rw [← e.1, ← e2]
      exact x11 t1.2 fun ps p => ⟨P1, rfl, 1, ps, rfl, mn2 c10 c11, q0, t1.1, p.1, p.2⟩
    · have e2 : MO.inst [(0, .none)] = mo := congrArg Prod.snd e.2
      rw [← e.1, ← e2]
      exact x11 t0.2 fun ps p => ⟨P0, rfl, 0, ps, rfl, mn2 c00 c01, q0, t0.1, p.1, p.2⟩
 have rv : @RDs V [P0, P1] [] s.heap [.ref l] [.sym 60] := by
  refine @RDs.cons V _ _ _ _ _ _ _ (@RD.sym V _ _ _ (.ref l) 60 ?_) (@RDs.nil V _ _ _)
  show @RD V _ _ _ (.ref l) (datL r ns 60)
  rw [datL_script]
  exact @RD.list V _ _ _ l vs _ (mn2 l0 l1) q0 hl (ints_rds hvs)
 refine wpAny_mono (@fn_ok V prog w (GG sa code) hT 40 A [P0, P1] [] ρ3 stin st3 s TO.nms.nm TO.toBis _ X la [34] lawY FL hh htk (by show A.depth + 1 + 2 * 40 + 20 + 70 < _; lia) (by show A.units + 3 + 16 * 40 + 800 + 16 * 70 < _; lia) S [.ref l] [.sym 60] ρin (.ret (.bool true)) (.bool true) rv rfl er (.inl rfl)) (fun v s' p => ?_) fun y y q => q
 refine x12 p ?_
 clear p
 intro al2 P q
 have tab : ∀ (i : Nat) (a : Addr), tabB st3 i = true → [P0, P1][i]? = some a → ∃ ps, s'.heap.get? a = some { cls := .none, data := .fields ps } := fun i a hb ha => by
  refine x21 (tabB_inv hb) ?_
  intro u k hk
  obtain ⟨x, hx, key, ps, _, _, _, _, hp, _⟩ := P.sto.mu i u _ hk
  have := P.get ha
  exact ⟨ps, (so (hx.symm.trans this)) ▸ hp⟩
 refine (m06 ?_ P.rest P.kp.sz (fun b o m0 m1 h => P.kp.keep b o (mn2 m0 m1) q0 h) (tab 0 P0 tb0 rfl) (tab 1 P1 tb1 rfl))
 cases q with
 | bool b => rfl
end
end Mine
end
noncomputable section
open PySem PySem.W PyProof.Rows PySem.Spec PySem.Calls PySem.W.X
namespace Mine
noncomputable def strO (v : Value) : Option Str := match v with
 | .str s _ => some s
 | _ => none
theorem strO_inv {v : Value} {s : Str} (h : strO v = some s) : ∃ t, v = .str s t := by
 induction v using Value.casesOn with
 | str x t => rw [so h]; exact ⟨t, rfl⟩
 | _ => exact no h
noncomputable def refO (v : Value) : Option Addr := match v with
 | .ref b => some b
 | _ => none
theorem refO_inv {v : Value} {a : Addr} (h : refO v = some a) : v = .ref a := by
 induction v using Value.casesOn with
 | ref b => rw [so h]
 | _ => exact no h
noncomputable def typO (v : Value) : Option String := match v with
 | .type b => some b
 | _ => none
theorem typO_inv {v : Value} {a : String} (h : typO v = some a) : v = .type a := by
 induction v using Value.casesOn with
 | type b => rw [so h]
 | _ => exact no h
noncomputable def dictO (d : Data) : Option (Array DictEntry) := match d with
 | .dict es _ => some es
 | _ => none
theorem dictO_inv {d : Data} {es : Array DictEntry} (h : dictO d = some es) : ∃ ep, d = .dict es ep := by
 induction d using Data.casesOn with
 | dict b ep => rw [so h]; exact ⟨ep, rfl⟩
 | _ => exact no h
noncomputable def funcO (d : Data) : Option FuncData := match d with
 | .func f => some f
 | _ => none
theorem funcO_inv {d : Data} {f : FuncData} (h : funcO d = some f) : d = .func f := by
 induction d using Data.casesOn with
 | func b => rw [so h]
 | _ => exact no h
noncomputable def fldO (d : Data) : Option (Array Value) := match d with
 | .fields f => some f
 | _ => none
theorem fldO_inv {d : Data} {f : Array Value} (h : fldO d = some f) : d = .fields f := by
 induction d using Data.casesOn with
 | fields b => rw [so h]
 | _ => exact no h
noncomputable def keyB (v : Value) (x : List Nat) : Bool := oB (strO v) fun s => eqL s.cps.toList x
noncomputable def lkE : List DictEntry → List Nat → Option Value
 | [], x => none
 | e :: r, x => cond (keyB e.key x) (some e.val) (lkE r x)
noncomputable def keysOk : List DictEntry → Bool
 | [] => true
 | e :: r => oB (strO e.key) fun j => keysOk r
noncomputable def dictAt (t : KT) (a : Nat) : Option (List DictEntry) := oV (t.get a) none fun o => oV (dictO o.data) none fun es => some es.toList
theorem dictAt_inv {t : KT} {a : Nat} {l : List DictEntry} (h : dictAt t a = some l) : ∃ o es ep, t.get a = some o ∧ o.data = .dict es ep ∧ es.toList = l := by
 unfold dictAt at h
 revert h
 generalize t.get a = q
 intro h
 induction q using Option.casesOn with
 | none => exact no h
 | some o =>
  replace h : oV (dictO o.data) none (fun es => some es.toList) = some l := h
  generalize q2 : dictO o.data = d at h
  induction d using Option.casesOn with
  | none => exact no h
  | some es => exact x11 (dictO_inv q2) fun ep e => m33 o es ep rfl e (so h)
noncomputable def isNsB (t : KT) (a : Nat) : Bool := oB (dictAt t a) keysOk
noncomputable def valAt (t : KT) (a : Nat) (x : Str) : Option Value := oV (dictAt t a) none fun l => lkE l x.cps.toList
noncomputable def isRefB (v : Option Value) (a : Nat) : Bool := oB v fun v => oB (refO v) fun b => Nat.beq b a
noncomputable def isNoneB : Option Value → Bool
 | none => true
 | some j => false
noncomputable def noneV : Value → Bool
 | .none => true
 | _ => false
theorem isRefB_iff {v : Option Value} {a : Nat} (h : isRefB v a = true) : v = some (.ref a) :=
 x12 (oB_inv h) fun u e h => x12 (oB_inv h) fun b e2 h => by rw [e, refO_inv e2, Nat.eq_of_beq_eq_true h]
theorem isNoneB_iff {v : Option Value} (h : isNoneB v = true) : v = none := by
 induction v using Option.casesOn with
 | none => rfl
 | some => exact nb h
theorem noneV_iff {v : Value} (h : noneV v = true) : v = .none := by
 induction v using Value.casesOn with
 | none => rfl
 | _ => exact nb h
theorem str_of_eqL {a b : Str} (h : eqL a.cps.toList b.cps.toList = true) : a = b := congrArg Str.mk (Array.toList_inj.mp ((@eqL_iff V0 _ _).mp h))
theorem isStr_key (v : Value) (x : Str) : v.isStr x = keyB v x.cps.toList := by
 induction v using Value.casesOn with
 | str s t => exact Bool.eq_iff_iff.mpr ⟨fun h => by rw [beq_iff_eq.mp h]; exact eqL_refl _, fun h => beq_iff_eq.mpr (str_of_eqL h)⟩
 | _ => rfl
theorem lkE_eq (x : Str) (l : List DictEntry) : lkE l x.cps.toList = (l.find? fun e => e.key.isStr x).map (·.val) := by
 induction l using List.rec with
 | nil => rfl
 | cons e r ih =>
  rw [List.find?_cons, isStr_key]
  show cond (keyB e.key x.cps.toList) (some e.val) (lkE r x.cps.toList) = _
  rw [ih]
  generalize keyB e.key x.cps.toList = b
  induction b using Bool.casesOn <;> rfl
theorem keysOk_iff {l : List DictEntry} (h : keysOk l = true) : ∀ e ∈ l, ∃ n t, e.key = .str n t := by
 induction l using List.rec with
 | nil => exact fun e he => nomatch he
 | cons e r ih => exact x12 (oB_inv h) fun s q h e' he => (List.mem_cons.mp he).elim (fun q2 => x11 (strO_inv q) fun t q => m21 s t (q2 ▸ q)) (ih h e')
theorem n_ne {a b : Nat} (h : (!Nat.beq a b) = true) : a ≠ b := fun q => by
 subst q
 rw [Nat.beq_refl] at h
 exact nb h
section
variable {h hT : Heap} {t : KT}
theorem kget (H : KT.Holds h 1 0 t) {a : Nat} {o : Obj} (e : t.get a = some o) : h.get? a = some o := by
 have := KT.Holds.get H e
 rwa [Nat.one_mul, Nat.add_zero] at this
noncomputable def KH (t : KT) (hT : Heap) : Prop := ∀ a o, t.get a = some o → a ≠ 174 → a ≠ 106 → hT.get? a = some o
theorem ns_of (k : KH t hT) {a : Nat} (c : isNsB t a = true) (n1 : a ≠ 174) (n2 : a ≠ 106) : hT.Ns a (valAt t a) := by
 refine x12 (oB_inv c) fun l q c => x33 (dictAt_inv q) fun o es ep ho hd hl => ?_
 refine ⟨o, es, ep, k a o ho n1 n2, hd, fun e he => keysOk_iff c e (hl ▸ Array.mem_toList_iff.mpr he), fun x => ?_⟩
 unfold valAt
 rw [q]
 show _ = lkE l x.cps.toList
 rw [lkE_eq, ← hl]
 unfold nsFind findBy
 rw [← Array.find?_toList]
noncomputable def fdAt (t : KT) (a : Nat) : Option FuncData := oV (t.get a) none fun o => funcO o.data
theorem fdAt_inv {a : Nat} {fd : FuncData} (h : fdAt t a = some fd) : ∃ o, t.get a = some o ∧ o.data = .func fd := by
 unfold fdAt at h
 revert h
 generalize t.get a = q
 intro h
 induction q using Option.casesOn with
 | none => exact no h
 | some o => exact m12 o rfl (funcO_inv h)
noncomputable def stO (b : FuncBody) : Option (List Stmt) := FuncBody.rec some (fun j => none) b
theorem stO_inv {b : FuncBody} {ss : List Stmt} (h : stO b = some ss) : b = .stmts ss := by
 induction b using FuncBody.casesOn with
 | stmts l => rw [so h]
 | expr => exact no h
noncomputable def scAt (t : KT) (a : Nat) : Scope := oV (fdAt t a) { kind := .function, names := [], isGenerator := false, isCoroutine := false } (·.scope)
noncomputable def stAt (t : KT) (a : Nat) : List Stmt := oV (fdAt t a) [] fun fd => oV (stO fd.body) [] id
noncomputable def cdAt (t : KT) (a : Nat) : Value := oV (fdAt t a) .none (·.code)
noncomputable def codeB (t : KT) (fd : FuncData) : Bool := oB (refO fd.code) fun c => !Nat.beq c 174 && !Nat.beq c 106 && oB (t.get c) fun o => oB (fldO o.data) fun vs => oB vs[1]? fun v => oB (strO v) fun q => eqL q.cps.toList fd.qualname.cps.toList
noncomputable def isFnB (t : KT) (a : Nat) : Bool := oB (t.get a) fun o => oB (typO o.cls) fun s => s == "function"
noncomputable def fnB (G : Nms) (t : KT) (a : Nat) (ps : List Nat) (fd : FuncData) : Bool :=
 plainParams fd.params (ps.map G.v) && apart2 (ps.map G.v) && fnScope fd.scope && Nat.beq fd.globals 3 && Nat.beq fd.builtins 0 && fd.closure.isEmpty && noneV fd.defaults && noneV fd.kwdefaults &&
   codeB t fd && (ps.all fun i => isOwnK (fd.scope.names.lookup (G.v i))) && (!(fd.scope == G.sa) || isRefB (some fd.code) G.code) && !Nat.beq a 174 && !Nat.beq a 106
noncomputable def kFnE (G : Nms) (t : KT) (a : Nat) (ps : List Nat) : Bool := oB (fdAt t a) fun fd => oB (stO fd.body) fun j => fnB G t a ps fd
noncomputable def kFn (G : Nms) (t : KT) (a : Nat) (ps : List Nat) (body : List Y) : Bool := kFnE G t a ps && cB G 60 (scAt t a) body (stAt t a)
theorem codeB_iff (k : KH t hT) {fd : FuncData} (h : codeB t fd = true) : hT.CodeRec fd.code fd.qualname := by
 refine x12 (oB_inv h) fun c hc h => b3 h fun h1 h2 h3 => ?_
 refine x12 (oB_inv h3) fun o ho h => x12 (oB_inv h) fun vs hd h => x12 (oB_inv h) fun v hv h => x12 (oB_inv h) fun q hq h => x11 (strO_inv hq) fun tk e => ?_
 exact ⟨c, o, vs, tk, refO_inv hc, k c o ho (n_ne h1) (n_ne h2), fldO_inv hd, by rw [hv, e, str_of_eqL h]⟩
theorem kFnE_iff (k : KH t hT) {G : Nms} {a : Nat} {ps : List Nat} (h : kFnE G t a ps = true) : FnE G hT a ps (scAt t a) (stAt t a) (cdAt t a) := by
 refine x12 (oB_inv h) fun fd hf h => x12 (oB_inv h) fun ss hb h => b13 h fun h1 h2 h3 h4 h5 h6 h7 h8 h9 h10 h11 h12 h13 => ?_
 have hs : scAt t a = fd.scope := by unfold scAt; rw [hf]; rfl
 have hc : cdAt t a = fd.code := by unfold cdAt; rw [hf]; rfl
 have hst : fd.body = .stmts (stAt t a) := by
  unfold stAt
  rw [hf]
  show _ = FuncBody.stmts (oV (stO fd.body) [] id)
  rw [hb]
  exact stO_inv hb
 rw [hs, hc]
 refine x12 (fdAt_inv hf) fun o ho hd => ?_
 refine ⟨(m210 o fd (k a o ho (n_ne h12) (n_ne h13)) hd hst rfl (Nat.eq_of_beq_eq_true h4) (Nat.eq_of_beq_eq_true h5) (List.isEmpty_iff.mp h6) rfl (codeB_iff k h9) (fun vals hl => ?_)), h3, List.all_eq_true.mp h10, fun e => ?_⟩
 · letI : Val := V0
   exact bind_ok h1 (noneV_iff h7) (noneV_iff h8) (apart2_len h2) (fun x y q => apart2_two (q ▸ h2)) (hl.trans (List.length_map ..).symm)
 · exact (orI h11).elim (fun z => by rw [e, beq_self_eq_true] at z; exact nb z) fun z => Option.some.inj (isRefB_iff z)
theorem FnE.ok {G : Nms} {a : Addr} {ps : List Nat} {sc : Scope} {ss : List Stmt} {cd : Value} (E : FnE G hT a ps sc ss cd) {body : List Y} {f : Nat} (c : cB G f sc body ss = true) : FnOk G hT a ps body := by
 obtain ⟨⟨o, fd, h1, h2, h3, h4, h5, h6, h7, h8, h9, h10⟩, h11, h12, h13⟩ := E
 subst h4 h8
 exact ⟨o, fd, ss, f, h1, h2, h3, c, h5, h6, h7, h11, h9, h10, h12, h13⟩
theorem kFn_iff (k : KH t hT) {G : Nms} {a : Nat} {ps : List Nat} {body : List Y} (h : kFn G t a ps body = true) : FnOk G hT a ps body := by
 unfold kFn at h
 refine x02 (Bool.and_eq_true_iff.mp h) ?_
 intro h1 h2
 exact (kFnE_iff k h1).ok h2
theorem isFnB_iff (k : KH t hT) {a : Nat} (n1 : a ≠ 174) (n2 : a ≠ 106) (h : isFnB t a = true) {ps : List Nat} {sc : Scope} {ss : List Stmt} {cd : Value} {G : Nms} (E : FnE G hT a ps sc ss cd) : isFun hT a := by
 refine x12 (oB_inv h) fun o ho h => x12 (oB_inv h) fun s hs h2 => x23 E.has fun o' fd e1 e2 j => ?_
 have e := Option.some.inj (e1.symm.trans (k a o ho n1 n2))
 exact ⟨o', fd, e1, e ▸ (beq_iff_eq.mp h2) ▸ typO_inv hs, e2⟩
end
end Mine
end
noncomputable section
open PySem PySem.W PyProof.Rows PySem.Spec PySem.Calls PySem.W.X
namespace Mine
noncomputable def adr : Nat → Addr
 | 0 => 144 | 1 => 137 | 2 => 151 | 3 => 158 | 4 => 165 | 5 => 172 | 6 => 179 | 7 => 215 | 8 => 210 | 9 => 205 | 10 => 200 | 11 => 118 | 12 => 222 | 13 => 193 | 14 => 130 | 15 => 186 | _ => 0
noncomputable def amr : Nat → Addr
 | 0 => 62 | 1 => 69 | 2 => 97 | _ => 0
noncomputable def saT (t : KT) : Scope := scAt t 179
noncomputable abbrev G0T (t : KT) : Nms := G0 (saT t) 178
noncomputable abbrev GGT (t : KT) : Nms := GG (saT t) 178
noncomputable def kFns0 (t : KT) : Bool := (List.range 16).all fun k => match fnAll k with
 | some p => isRefB (valAt t 3 (nmF k)) (adr k) && kFn (G0T t) t (adr k) p.1 p.2
 | none => true
noncomputable def kFnsG (t : KT) : Bool := (List.range 16).all fun k => match fnL k with
 | some p => kFn (GGT t) t (adr k) p.1 p.2
 | none => true
noncomputable def kMths (t : KT) : Bool := (List.range 3).all fun k => match mfAll k with
 | some p => isRefB (valAt t 99 (nmM k)) (amr k) && isFnB t (amr k) && kFn (G0T t) t (amr k) p.1 p.2
 | none => true
noncomputable def kIni (t : KT) : Bool := isRefB (valAt t 99 "__init__") 55 && isFnB t 55 && kFn (G0T t) t 55 iniT.1 iniT.2
noncomputable def kLaw (t : KT) : Bool := kFn (GGT t) t 227 [34] lawY
noncomputable def kUec (t : KT) : Bool := isRefB (valAt t 3 (nmF 14)) 130 && kFnE (G0T t) t 130 [67] && uecIs (G0T t) (scAt t 130) (stAt t 130)
noncomputable def kFmt (t : KT) : Bool := isRefB (valAt t 3 (nmS 3)) 111 && kFnE (G0T t) t 111 [74] && fmtIs (G0T t) (scAt t 111) (stAt t 111) && isRefB (some (cdAt t 111)) 110
noncomputable def kNs (t : KT) : Bool := isNsB t 0 && isNsB t 2 && isNsB t 3 && isNsB t 99 && isNoneB (valAt t 2 "sys.recursionlimit") && isNoneB (valAt t 2 sharingNotToldKey) && !((saT t).names.lookup (".0" : Str)).isSome
noncomputable def kCls (t : KT) : Bool := isRefB (valAt t 3 "Whitespace") 100 && isRefB (valAt t 3 "ESCAPED_CHAR_RE") 123 && isRefB (valAt t 3 "__builtins__") 4 && isNoneB (valAt t 99 "__getattribute__") && isNoneB (valAt t 99 "__getattr__") && isNoneB (valAt t 99 "__setattr__") &&
 (List.range 5).all fun i => isNoneB (valAt t 99 (nmA i))
noncomputable def intB (v : Value) : Bool := match v with
 | .int _ _ => true
 | _ => false
theorem intB_inv {v : Value} (h : intB v = true) : ∃ i t, v = .int i t := by
 induction v using Value.casesOn with
 | int i t => exact ⟨i, t, rfl⟩
 | _ => exact nb h
noncomputable def boolB (v : Value) : Bool := match v with
 | .bool _ => true
 | _ => false
theorem boolB_inv {v : Value} (h : boolB v = true) : ∃ b, v = .bool b := by
 induction v using Value.casesOn with
 | bool b => exact ⟨b, rfl⟩
 | _ => exact nb h
noncomputable def kTab (t : KT) (c P : Nat) : Bool := oB (t.get c) fun o => oB (typO o.cls) (fun s => s == "code") && oB (fldO o.data) fun vs => isRefB vs[11]? P && oB (strO (vs.getD 18 .none)) (fun j => true) && intB (vs.getD 7 .none) && boolB (vs.getD 9 .none) && intB (vs.getD 10 .none)
noncomputable def obT (t : KT) (a : Nat) : Obj := match t.get a with
 | some o => o
 | none => { cls := .none, data := .plain }
noncomputable def kkT (t : KT) : Frag := [(2, obT t 2), (99, obT t 99), (100, obT t 100)]
noncomputable def kHas (t : KT) : Bool := (t.get 2).isSome && (t.get 99).isSome && (t.get 100).isSome && (t.get 1).isSome
noncomputable def tFld (t : KT) (a i : Nat) : Value := match (obT t a).data with
 | .fields vs => vs.getD i .none
 | _ => .none
noncomputable def tSlt (t : KT) (a i : Nat) : Option Value := (obT t a).slots.getD i none
noncomputable def clD (t : KT) : ClassData := match (obT t 100).data with
 | .cls c => c
 | _ => { name := "", bases := [], mro := [], ns := 0, qualname := "" }
structure KGood (t : KT) : Prop where
 fns0 : kFns0 t = true
 fnsG : kFnsG t = true
 mths : kMths t = true
 ini : kIni t = true
 law : kLaw t = true
 uec : kUec t = true
 fmt : kFmt t = true
 ns : kNs t = true
 lw : isRefB (valAt t 3 "law") 227 = true
 cls : kCls t = true
 tab0 : kTab t 178 174 = true
 tab1 : kTab t 110 106 = true
 has : kHas t = true
 p0 : t.get 174 = some { cls := .none, data := .fields #[] }
 p1 : t.get 106 = some { cls := .none, data := .fields #[] }
 bim : t.get 4 = some { cls := .type "module", dict := some 0, data := .plain }
 pat : t.get 123 = some { cls := .type "re.Pattern", data := .fields #[tFld t 123 0, tFld t 123 1, rawInt 1, tFld t 123 3, tFld t 123 4, .ref 122, rawInt 0] }
 wds : t.get 122 = some { cls := .type "tuple", data := .seq (reW.map fun (w : Nat) => rawInt w).toArray 0 }
 clo : t.get 100 = some (excClassObj (clD t).name (clD t).qualname 100 99 (clD t).bases [.type "object"] true (clD t).slotNames (clD t).subclasses false (clD t).collection (obT t 100).dict (tSlt t 100 0) (tSlt t 100 1) (tSlt t 100 2) (tSlt t 100 3) (tSlt t 100 5) "object.__new__")
 rd : readsIn (kkT t) 100 (.type "type") = true
 cS : ∃ k, findCls (kkT t) (.ref 100) (.type "type") (nmC 0) = some (.val (.str ⟨[32].toArray⟩ k))
 cT : ∃ k, findCls (kkT t) (.ref 100) (.type "type") (nmC 1) = some (.val (.str ⟨[9].toArray⟩ k))
 bi : ∀ b, valAt t 3 (biName b) = none ∧ valAt t 0 (biName b) = some (biVal b)
 rng : valAt t 3 "range" = none ∧ valAt t 0 "range" = some (.type "range")
 zip : valAt t 3 "zip" = none ∧ valAt t 0 "zip" = some (.type "zip")
 enm : valAt t 3 "enumerate" = none ∧ valAt t 0 "enumerate" = some (.type "enumerate")
end Mine
end
noncomputable section
open PySem PySem.W PyProof.Rows PySem.Spec PySem.Calls PySem.W.X
namespace Mine
section
variable {prog : Program} {w : World} {h hT : Heap} {t : KT}
theorem fnAll_lt {k : Nat} {p : List Nat × List Y} (h : fnAll k = some p) : k < 16 := by
 rcases Nat.lt_or_ge k 16 with q | q
 · exact q
 · obtain ⟨m, rfl⟩ := Nat.exists_eq_add_of_le' q
   exact no h
theorem mfAll_lt {k : Nat} {p : List Nat × List Y} (h : mfAll k = some p) : k < 3 := by
 rcases Nat.lt_or_ge k 3 with q | q
 · exact q
 · obtain ⟨m, rfl⟩ := Nat.exists_eq_add_of_le' q
   exact no h
theorem kFns0_at {k : Nat} {p : List Nat × List Y} (hk : kFns0 t = true) (h : fnAll k = some p) : isRefB (valAt t 3 (nmF k)) (adr k) = true ∧ kFn (G0T t) t (adr k) p.1 p.2 = true := by
 unfold kFns0 at hk
 have := List.all_eq_true.mp hk k (List.mem_range.mpr (fnAll_lt h))
 rw [h] at this
 exact Bool.and_eq_true_iff.mp this
theorem kFnsG_at {k : Nat} {p : List Nat × List Y} (hk : kFnsG t = true) (h : fnL k = some p) : kFn (GGT t) t (adr k) p.1 p.2 = true := by
 unfold kFnsG at hk
 have := List.all_eq_true.mp hk k (List.mem_range.mpr (fnAll_lt (fnL_all k p h)))
 rw [h] at this
 exact this
theorem kMths_at {k : Nat} {p : List Nat × List Y} (hk : kMths t = true) (h : mfAll k = some p) : (isRefB (valAt t 99 (nmM k)) (amr k) = true ∧ isFnB t (amr k) = true) ∧ kFn (G0T t) t (amr k) p.1 p.2 = true := by
 unfold kMths at hk
 have := List.all_eq_true.mp hk k (List.mem_range.mpr (mfAll_lt h))
 rw [h] at this
 have := Bool.and_eq_true_iff.mp this
 exact ⟨Bool.and_eq_true_iff.mp this.1, this.2⟩
theorem amr_ne {k : Nat} (h : k < 3) : amr k ≠ 174 ∧ amr k ≠ 106 := by
 have : ∀ k, k < 3 → amr k ≠ 174 ∧ amr k ≠ 106 := by decide
 exact this k h
theorem obT_get {a : Nat} (h : (t.get a).isSome = true) : t.get a = some (obT t a) := by
 unfold obT
 cases q : t.get a with
 | none => rw [q] at h; exact nomatch h
 | some o => rfl
theorem mem_lk {l : Frag} {a : Addr} {o : Obj} (h : l.lookup a = some o) : (a, o) ∈ l := by
 induction l using List.rec with
 | nil => exact no h
 | cons x r ih =>
  rw [List.lookup_cons] at h
  generalize q : (a == x.1) = c at h
  induction c using Bool.casesOn with
  | true =>
   have e : x = (a, o) := Prod.ext (beq_iff_eq.mp q).symm (so h)
   rw [e]
   exact List.mem_cons_self
  | false => exact List.mem_cons_of_mem _ (ih h)
set_option maxHeartbeats 1000000 in
theorem base_of (K : KGood t) (k : KH t hT) : Base prog w hT (saT t) 178 100 (valAt t 99) adr amr 55 := by
 have hns := K.ns
 unfold kNs at hns
 refine b7 hns fun n0 n2 n3 n99 nl nsh nd => ?_
 replace nd := nf nd
 have N0 : hT.Ns builtinsNs (valAt t 0) := ns_of k n0 (by decide) (by decide)
 have N2 : hT.Ns cStatics (valAt t 2) := ns_of k n2 (by decide) (by decide)
 have N3 : hT.Ns mainGlobals (valAt t 3) := ns_of k n3 (by decide) (by decide)
 have N99 : hT.Ns 99 (valAt t 99) := ns_of k n99 (by decide) (by decide)
 have hh := K.has
 unfold kHas at hh
 refine b4 hh fun h2 h99 h100 h1 => ?_
 have hc := K.cls
 unfold kCls at hc
 refine b7 hc fun c1 c2 c3 c4 c5 c6 c7 => ?_
 replace c7 := List.all_eq_true.mp c7
 have gl : ∀ {x : Str} {v : Value}, valAt t 3 x = some v → Glb hT x v := fun e => ⟨_, _, N3, N0, .inl e⟩
 have gb : ∀ {x : Str} {v : Value}, valAt t 3 x = none ∧ valAt t 0 x = some v → Glb hT x v := fun e => ⟨_, _, N3, N0, .inr e⟩
 have hini := K.ini
 unfold kIni at hini
 refine b3 hini fun i1 i2 i3 => ?_
 have isF : ∀ {G : Nms} {a : Nat} {ps : List Nat} {body : List Y}, a ≠ 174 → a ≠ 106 → isFnB t a = true → kFn G t a ps body = true → isFun hT a := fun n1 n2 b c => isFnB_iff k n1 n2 b (kFnE_iff k (Bool.and_eq_true_iff.mp c).1)
 refine { bis := ?_, dotA := nd, fn := fun j p e => ?_, fnG := fun j p e => kFn_iff k (kFnsG_at K.fnsG e), cls := ⟨99, ⟨(m121 _ _ _ _ _ _ _ _ _ _ _ _ (k 100 _ K.clo (by decide) (by decide))), N99⟩⟩, ga := isNoneB_iff c4, gg := isNoneB_iff c5, gs := isNoneB_iff c6, at_ := fun i => ?_, glb := gl (isRefB_iff c1), init := ⟨isRefB_iff i1, isF (by decide) (by decide) i2 i3, kFn_iff k i3⟩, mth := fun j p e => ?_, re := ?_, clsA := ?_ }
 · refine x11 (Option.isSome_iff_exists.mp h1) ?_
   intro o1 ho1
   exact { bi := fun b => gb (K.bi b), rng := gb K.rng, zip := gb K.zip, enum := gb K.enm, bmod := (m37 _ 4 _ N3 (isRefB_iff c3) (by decide) (k 4 _ K.bim (by decide) (by decide)) rfl rfl rfl), sysm := ⟨o1, k 1 o1 ho1 (by decide) (by decide)⟩, lim := ⟨_, N2, isNoneB_iff nl⟩, stat := (m12 _ N2 (isNoneB_iff nsh)) }
 · refine x02 (kFns0_at K.fns0 e) ?_
   intro a b
   exact ⟨gl (isRefB_iff a), kFn_iff k b⟩
 · have : ∀ i, ∃ j, j < 5 ∧ nmA i = nmA j := fun i => by
     match i with
     | 0 => exact (m12 0 (by decide) rfl)
     | 1 => exact (m12 1 (by decide) rfl)
     | 2 => exact (m12 2 (by decide) rfl)
     | 3 => exact (m12 3 (by decide) rfl)
     | i + 4 => exact (m12 4 (by decide) rfl)
   refine x12 (this i) ?_
   intro j hj e
   rw [e]
   exact isNoneB_iff (c7 j (List.mem_range.mpr hj))
 · obtain ⟨⟨a, b⟩, c⟩ := kMths_at K.mths e
   have n := amr_ne (mfAll_lt e)
   exact ⟨isRefB_iff a, isF n.1 n.2 b c, kFn_iff k c⟩
 · exact (m73 123 122 _ _ _ _ _ (gl (isRefB_iff c2)) (k 123 _ K.pat (by decide) (by decide)) (k 122 _ K.wds (by decide) (by decide)))
 · intro i A E s Q old hQ
   have KI : (kkT t).In s.heap := fun a o e => by
    have P : ∀ p ∈ kkT t, s.heap.get? p.1 = some p.2 := fun p m =>
     q1 (P := fun p => s.heap.get? p.1 = some p.2) m (old _ _ (k 2 _ (obT_get h2) (by decide) (by decide))) fun m => q1 (P := fun p => s.heap.get? p.1 = some p.2) m (old _ _ (k 99 _ (obT_get h99) (by decide) (by decide))) fun m =>
      q1 (P := fun p => s.heap.get? p.1 = some p.2) m (old _ _ (k 100 _ (obT_get h100) (by decide) (by decide))) q0
    exact P _ (mem_lk e)
   match i with
   | 0 =>
    refine x11 K.cS ?_
    intro tk e
    exact cls_value KI K.rd e rfl (hQ tk)
   | i + 1 =>
    refine x11 K.cT ?_
    intro tk e
    exact cls_value KI K.rd e rfl (hQ tk)
theorem kTab_iff (H : KT.Holds h 1 0 t) {c P : Nat} (hc : kTab t c P = true) (hp : t.get P = some { cls := .none, data := .fields #[] }) : TabAt h c P :=
 x12 (oB_inv hc) fun o ho h => x02 (both h) fun a b => x12 (oB_inv a) fun s hs e => x12 (oB_inv b) fun vs hd b => b5 b fun b1 b2 b3 b4 b6 =>
  x12 (oB_inv b2) fun file e1 j => x11 (strO_inv e1) fun tf e18 => x21 (intB_inv b3) fun flags tg e7 => x11 (boolB_inv b4) fun inF e9 => x21 (intB_inv b6) fun text tt e10 =>
   ⟨⟨o, vs, file, tf, flags, tg, _, text, tt, kget H ho, (beq_iff_eq.mp e) ▸ typO_inv hs, fldO_inv hd, isRefB_iff b1, e18, e7, e9, e10⟩, #[], kget H hp, trivial⟩
end
end Mine
end
noncomputable section
open PySem PySem.W PyProof.Rows PySem.Spec PySem.Calls PySem.W.X
namespace Mine
section
variable {prog : Program} {w : World} {h hT : Heap} {t : KT}
theorem tab_old {h₀ h : Heap} {c0 c1 P0 P1 : Addr} (t0 : h₀.TableAt c0 P0 #[]) (t1 : h₀.TableAt c1 P1 #[]) (k : ∀ b o, b ≠ P0 → b ≠ P1 → h₀.get? b = some o → h.get? b = some o) (e0 : ∃ ps, h.get? P0 = some { cls := .none, data := .fields ps }) (e1 : ∃ ps, h.get? P1 = some { cls := .none, data := .fields ps }) : OldK h₀ h := by
 have one : ∀ {c P : Addr} {o : Obj}, h₀.TableAt c P #[] → (∃ ps, h.get? P = some { cls := .none, data := .fields ps }) → h₀.get? P = some o → asItWas h₀ h P o := fun {c P o} tt ⟨ps, e⟩ ho => by
  have e₀ := Option.some.inj (ho.symm.trans tt.2)
  subst e₀
  exact .inr (.inl ⟨tt.isCodeTable, rfl, #[], ps, rfl, by rw [e]; simp⟩)
 refine ⟨fun b o e => ?_, fun b o e => ?_⟩
 · by_cases q0 : b = P0
   · rw [q0] at e ⊢; exact one t0 e0 e
   · by_cases q1 : b = P1
     · rw [q1] at e ⊢; exact one t1 e1 e
     · exact .inl (k b o q0 q1 e)
 · by_cases q0 : b = P0
   · exact x11 e0 fun ps e => ⟨_, q0 ▸ e⟩
   · by_cases q1 : b = P1
     · exact x11 e1 fun ps e => ⟨_, q1 ▸ e⟩
     · exact ⟨o, k b o q0 q1 e⟩
theorem law_end (K : KGood t) {s₁ : Shared} (H : KT.Holds s₁.heap 1 0 t) (hg : s₁.gens = #[]) (htk : 1 ≤ s₁.toks) {l : Addr} {vs : List Value} {ns : List Int} (hl : s₁.heap.PlainList l vs.toArray) (hvs : IntsAre vs ns) (l0 : l ≠ 174) (l1 : l ≠ 106)
  {c : ClaimW} {cl : Str → Option Addr} {mean : ExcName → Option Value} {args : List WData} (hr : ∀ cls, c.raises args cls = false) (hp : c.post args (.bool true) args = true) {E : Value → Shared → Prop} :
  wpAny (model prog w) callerA (call (.ref 227) [.ref l]) (fun v s' => GoodWG c cl mean args s₁ (.ok (.ret v)) s') E s₁ := by
 letI : Val := V0
 let hT := without (without s₁.heap 174) 106
 have old : ∀ b o, hT.get? b = some o → s₁.heap.get? b = some o := fun b o e => without_old b o (without_old b o e)
 have k : KH t hT := fun a o e n0 n1 => (without_other n1).trans ((without_other n0).trans (kget H e))
 have n1 : hT.get? 106 = none := without_self
 have n0 : hT.get? 174 = none := (without_other (by decide)).trans without_self
 have B : Base prog w hT (saT t) 178 100 (valAt t 99) adr amr 55 := base_of K k
 have T0 := kTab_iff H K.tab0 K.p0
 have T1 := kTab_iff H K.tab1 K.p1
 have hns := K.ns
 unfold kNs at hns
 refine b7 hns fun m0 m2 m3 m99 ml msh md => ?_
 have N0 : hT.Ns builtinsNs (valAt t 0) := ns_of k m0 (by decide) (by decide)
 have N3 : hT.Ns mainGlobals (valAt t 3) := ns_of k m3 (by decide) (by decide)
 have gl : ∀ {x : Str} {v : Value}, valAt t 3 x = some v → Glb hT x v := fun e => ⟨_, _, N3, N0, .inl e⟩
 have hu := K.uec
 unfold kUec at hu
 refine b3 hu fun hu1 hu2 hu3 => ?_
 have hf := K.fmt
 unfold kFmt at hf
 refine b4 hf fun hf1 hf2 hf3 hf4 => ?_
 have cf := Option.some.inj (isRefB_iff hf4)
 have FF' := kFnE_iff k hf2
 rw [cf] at FF'
 let codes : Nat → Addr := fun i => match i with
  | 0 => 178
  | _ => 110
 refine wpAny_mono (law_ret B (codes := codes) rfl (gl (isRefB_iff hu1)) (kFnE_iff k hu2) hu3 (gl (isRefB_iff hf1)) FF' hf3 (kFn_iff k K.law) (A := callerA) rfl htk (by decide) (by decide) old T0 T1 n0 n1 (by decide) (by decide) (by decide) (by decide) (by decide) hl hvs l0 l1) (fun v s' p => ?_) fun j j q => q.elim
 refine x06 p ?_
 clear p
 intro eq0 R sz keep e0 e1
 subst eq0
 have ta : ∀ {c P : Addr}, TabAt s₁.heap c P → s₁.heap.get? P = some { cls := .none, data := .fields #[] } → s₁.heap.TableAt c P #[] := fun {c P} T hp => by
  refine x95 (T.1) ?_
  intro o vs _ _ _ _ _ _ _ h1 h2 h3 h4 _
  exact ⟨(m24 o vs h1 h2 h3 h4), hp⟩
 exact ⟨.inl (m35 _ _ ([]) rfl hr (ReadsW.bool true) hp (fun j => ⟨List.nodup_nil, fun j hm => nomatch hm⟩)), tab_old (ta T0 (kget H K.p0)) (ta T1 (kget H K.p1)) keep e0 e1, R.os, R.gens.1 (by rw [hg]; exact AllBare.empty)⟩
theorem fa_is (K : KGood t) (H : KT.Holds h 1 0 t) {mg : Str → Option Value} (N : h.Ns mainGlobals mg) {fa : Addr} (e : mg "law" = some (.ref fa)) : fa = 227 := by
 have hns := K.ns
 unfold kNs at hns
 refine b7 hns fun m0 m2 m3 m99 ml msh md => ?_
 have N3 : h.Ns mainGlobals (valAt t 3) := ns_of (fun a o e j j => kget H e) m3 (by decide) (by decide)
 refine x34 N ?_
 clear N
 intro o es ep h1 h2 _ h4
 refine x34 N3 ?_
 clear N3
 intro o' es' ep' h1' h2' _ h4'
 rw [h1] at h1'; cases h1'
 rw [h2] at h2'; cases h2'
 have := isRefB_iff K.lw
 rw [← h4', h4, e] at this
 injection this with this
 injection this with this
theorem law_fin (K : KGood t) {s₁ : Shared} (H : KT.Holds s₁.heap 1 0 t) {mg : Str → Option Value} (N : s₁.heap.Ns mainGlobals mg) {fa : Addr} (e : mg "law" = some (.ref fa)) (hg : s₁.gens = #[]) (htk : 1 ≤ s₁.toks) {l : Addr} {vs : List Value} {ns : List Int}
  (hl : s₁.heap.PlainList l vs.toArray) (hvs : IntsAre vs ns) (l0 : l ≠ 174) (l1 : l ≠ 106)
  {c : ClaimW} {cl : Str → Option Addr} {mean : ExcName → Option Value} {args : List WData} (hr : ∀ cls, c.raises args cls = false) (hp : c.post args (.bool true) args = true) {E : Value → Shared → Prop} :
  wpAny (model prog w) callerA (call (.ref fa) [.ref l]) (fun v s' => GoodWG c cl mean args s₁ (.ok (.ret v)) s') E s₁ := by
 have hfa := fa_is K H N e
 subst hfa
 exact law_end K H hg htk hl hvs l0 l1 hr hp
end
end Mine
end
noncomputable section
open PySem PySem.W PyProof.Rows
open PySem.W.X PySem.W.ZRun
namespace Mine
theorem bb {a b : Bool} (x : a = true) (y : b = true) : (a && b) = true := look_both x y
theorem said0 : looksOpen PySem.Challenge.rw_yf0022_01.row.prog = true := by
 unfold looksOpen
 refine bb (bb (bb (bb (bb ?_ ?_) ?_) ?_) ?_) ?_
 all_goals kernel_rfl
theorem said1 : PySem.Challenge.rw_yf0022_01.row.wellSaid = true := by
 unfold OpenRow.wellSaid OpenRow.partSaid
 refine bb (bb (bb (bb (bb (bb (bb (bb (bb (bb (bb (bb (bb (bb (bb said0 ?_) ?_) ?_) ?_) ?_) ?_) ?_) ?_) ?_) ?_) ?_) ?_) ?_) ?_) ?_
 all_goals kernel_rfl
theorem said : PySem.Challenge.rw_yf0022_01.wellSaid = true := by
 unfold OpenLaw.wellSaid
 refine bb (bb (bb (bb (bb (bb (bb (bb (bb (bb (bb (bb (bb (bb (bb (bb (bb (bb said1 ?_) ?_) ?_) ?_) ?_) ?_) ?_) ?_) ?_) ?_) ?_) ?_) ?_) ?_) ?_) ?_) ?_) ?_
 all_goals kernel_rfl
end Mine
end
open PySem PySem.W PyProof.Rows
open PySem.W.X PySem.W.ZRun
set_option maxHeartbeats 8000000 in
theorem PySem.Challenge.cw_yf0022_01_holds : PySem.Challenge.rw_yf0022_01.Holds := by
  w_on
  refine holds_law Mine.said fun h => Mine.hd ?_ h
  k_fill
  intro w s₀ s₁ mg mb G y fa o pm cd doc dV kV ho hd hcd hD hmg hg args vals as L hpre hlay hrd hwl hlo
  z_open y L KX ZH ZN ZT
  refine Ground.open G ?_
  intro T B D TE TW
  wrow_args hpre hlay hrd hwl hlo
  obtain ⟨hat, hsz⟩ := script_at L
  have htk := script_toks L ZT
  rw [ZN] at hat
  subst hat
  have hol := script_obj L (by assumption)
  have N := T.g
  have hI := ‹IntsAre _ _›
  clear T B D TE TW KX y hcd hD ho hd
  show wpAny _ _ (call _ _) _ _ _
  refine Mine.law_fin ?_ ZH N hmg hg (Nat.le_trans (by decide : 1 ≤ 604) htk) ⟨_, hol⟩ hI (by decide) (by decide) (fun _ => rfl) (by first | rfl | wrow_post)
  clear hmg hg hol hI ZH N L
  generalize w.params = P
  exact ⟨by kernel_rfl, by kernel_rfl, by kernel_rfl, by kernel_rfl, by kernel_rfl, by kernel_rfl, by kernel_rfl, by kernel_rfl, by kernel_rfl, by kernel_rfl, by kernel_rfl, by kernel_rfl, by kernel_rfl, by kernel_rfl, by kernel_rfl, by kernel_rfl, by kernel_rfl, by kernel_rfl, by kernel_rfl, by kernel_rfl, ⟨304, by kernel_rfl⟩, ⟨305, by kernel_rfl⟩, fun b => by cases b <;> exact ⟨by kernel_rfl, by kernel_rfl⟩, ⟨by kernel_rfl, by kernel_rfl⟩, ⟨by kernel_rfl, by kernel_rfl⟩, ⟨by kernel_rfl, by kernel_rfl⟩⟩
