import PyProof.Rows.All
import Wide.All
import OpenK.AllK
import Wide.FinOn
import PySem.Challenge.RW_dm0091_06
set_option Elab.async false
set_option maxRecDepth 100000
set_option maxHeartbeats 8000000
set_option linter.all false
set_option genSizeOf false
set_option genInjectivity false
set_option bootstrap.genMatcherCode false
namespace Mine.Internal
theorem ns {α : Type} {r : α} {P : Prop} (h : none = some r) : P := nomatch h
theorem c3 {α β γ : Type} {a x : α} {b y : β} {c z : γ} {P : Prop} (h : some (a, b, c) = some (x, y, z)) (k : a = x → y = b → z = c → P) : P := k (congrArg (·.1) (Option.some.inj h)) (congrArg (·.2.1) (Option.some.inj h)).symm (congrArg (·.2.2) (Option.some.inj h)).symm
theorem c2 {α β : Type} {a x : α} {b y : β} {P : Prop} (h : some (a, b) = some (x, y)) (k : a = x → y = b → P) : P := k (congrArg (·.1) (Option.some.inj h)) (congrArg (·.2) (Option.some.inj h)).symm
theorem p3 {α β γ : Type} {a x : α} {b y : β} {c z : γ} {P : Prop} (h : (a, b, c) = (x, y, z)) (k : a = x → y = b → z = c → P) : P := k (congrArg (·.1) h) (congrArg (·.2.1) h).symm (congrArg (·.2.2) h).symm
theorem p2 {α β : Type} {a x : α} {b y : β} {P : Prop} (h : (a, b) = (x, y)) (k : a = x → y = b → P) : P := k (congrArg (·.1) h) (congrArg (·.2) h).symm
theorem c1 {α : Type} {a x : α} {P : Prop} (h : some a = some x) (k : a = x → P) : P := k (Option.some.inj h)
theorem x0_2 {P1 P2 : Prop} {q : Prop} (h : P1 ∧ P2) (k : P1 → P2 → q) : q := k h.1 h.2
theorem x0_3 {P1 P2 P3 : Prop} {q : Prop} (h : P1 ∧ P2 ∧ P3) (k : P1 → P2 → P3 → q) : q := k h.1 h.2.1 h.2.2
theorem x0_4 {P1 P2 P3 P4 : Prop} {q : Prop} (h : P1 ∧ P2 ∧ P3 ∧ P4) (k : P1 → P2 → P3 → P4 → q) : q := k h.1 h.2.1 h.2.2.1 h.2.2.2
theorem x0_5 {P1 P2 P3 P4 P5 : Prop} {q : Prop} (h : P1 ∧ P2 ∧ P3 ∧ P4 ∧ P5) (k : P1 → P2 → P3 → P4 → P5 → q) : q := k h.1 h.2.1 h.2.2.1 h.2.2.2.1 h.2.2.2.2
theorem x1_1 {A1 : Type} {P1 : A1 → Prop} {q : Prop} (h : ∃ a1, P1 a1) (k : ∀ a1, P1 a1 → q) : q := h.elim fun a1 y1 => k a1 y1
theorem x1_2 {A1 : Type} {P1 P2 : A1 → Prop} {q : Prop} (h : ∃ a1, P1 a1 ∧ P2 a1) (k : ∀ a1, P1 a1 → P2 a1 → q) : q := h.elim fun a1 y1 => k a1 y1.1 y1.2
theorem x1_3 {A1 : Type} {P1 P2 P3 : A1 → Prop} {q : Prop} (h : ∃ a1, P1 a1 ∧ P2 a1 ∧ P3 a1) (k : ∀ a1, P1 a1 → P2 a1 → P3 a1 → q) : q := h.elim fun a1 y1 => k a1 y1.1 y1.2.1 y1.2.2
theorem x1_4 {A1 : Type} {P1 P2 P3 P4 : A1 → Prop} {q : Prop} (h : ∃ a1, P1 a1 ∧ P2 a1 ∧ P3 a1 ∧ P4 a1) (k : ∀ a1, P1 a1 → P2 a1 → P3 a1 → P4 a1 → q) : q := h.elim fun a1 y1 => k a1 y1.1 y1.2.1 y1.2.2.1 y1.2.2.2
theorem x1_5 {A1 : Type} {P1 P2 P3 P4 P5 : A1 → Prop} {q : Prop} (h : ∃ a1, P1 a1 ∧ P2 a1 ∧ P3 a1 ∧ P4 a1 ∧ P5 a1) (k : ∀ a1, P1 a1 → P2 a1 → P3 a1 → P4 a1 → P5 a1 → q) : q := h.elim fun a1 y1 => k a1 y1.1 y1.2.1 y1.2.2.1 y1.2.2.2.1 y1.2.2.2.2
theorem x1_7 {A1 : Type} {P1 P2 P3 P4 P5 P6 P7 : A1 → Prop} {q : Prop} (h : ∃ a1, P1 a1 ∧ P2 a1 ∧ P3 a1 ∧ P4 a1 ∧ P5 a1 ∧ P6 a1 ∧ P7 a1) (k : ∀ a1, P1 a1 → P2 a1 → P3 a1 → P4 a1 → P5 a1 → P6 a1 → P7 a1 → q) : q := h.elim fun a1 y1 => k a1 y1.1 y1.2.1 y1.2.2.1 y1.2.2.2.1 y1.2.2.2.2.1 y1.2.2.2.2.2.1 y1.2.2.2.2.2.2
theorem x2_1 {A1 A2 : Type} {P1 : A1 → A2 → Prop} {q : Prop} (h : ∃ a1 a2, P1 a1 a2) (k : ∀ a1 a2, P1 a1 a2 → q) : q := h.elim fun a1 y1 => y1.elim fun a2 y2 => k a1 a2 y2
theorem x2_2 {A1 A2 : Type} {P1 P2 : A1 → A2 → Prop} {q : Prop} (h : ∃ a1 a2, P1 a1 a2 ∧ P2 a1 a2) (k : ∀ a1 a2, P1 a1 a2 → P2 a1 a2 → q) : q := h.elim fun a1 y1 => y1.elim fun a2 y2 => k a1 a2 y2.1 y2.2
theorem x2_3 {A1 A2 : Type} {P1 P2 P3 : A1 → A2 → Prop} {q : Prop} (h : ∃ a1 a2, P1 a1 a2 ∧ P2 a1 a2 ∧ P3 a1 a2) (k : ∀ a1 a2, P1 a1 a2 → P2 a1 a2 → P3 a1 a2 → q) : q := h.elim fun a1 y1 => y1.elim fun a2 y2 => k a1 a2 y2.1 y2.2.1 y2.2.2
theorem x2_4 {A1 A2 : Type} {P1 P2 P3 P4 : A1 → A2 → Prop} {q : Prop} (h : ∃ a1 a2, P1 a1 a2 ∧ P2 a1 a2 ∧ P3 a1 a2 ∧ P4 a1 a2) (k : ∀ a1 a2, P1 a1 a2 → P2 a1 a2 → P3 a1 a2 → P4 a1 a2 → q) : q := h.elim fun a1 y1 => y1.elim fun a2 y2 => k a1 a2 y2.1 y2.2.1 y2.2.2.1 y2.2.2.2
theorem x2_5 {A1 A2 : Type} {P1 P2 P3 P4 P5 : A1 → A2 → Prop} {q : Prop} (h : ∃ a1 a2, P1 a1 a2 ∧ P2 a1 a2 ∧ P3 a1 a2 ∧ P4 a1 a2 ∧ P5 a1 a2) (k : ∀ a1 a2, P1 a1 a2 → P2 a1 a2 → P3 a1 a2 → P4 a1 a2 → P5 a1 a2 → q) : q := h.elim fun a1 y1 => y1.elim fun a2 y2 => k a1 a2 y2.1 y2.2.1 y2.2.2.1 y2.2.2.2.1 y2.2.2.2.2
theorem x2_10 {A1 A2 : Type} {P1 P2 P3 P4 P5 P6 P7 P8 P9 P10 : A1 → A2 → Prop} {q : Prop} (h : ∃ a1 a2, P1 a1 a2 ∧ P2 a1 a2 ∧ P3 a1 a2 ∧ P4 a1 a2 ∧ P5 a1 a2 ∧ P6 a1 a2 ∧ P7 a1 a2 ∧ P8 a1 a2 ∧ P9 a1 a2 ∧ P10 a1 a2) (k : ∀ a1 a2, P1 a1 a2 → P2 a1 a2 → P3 a1 a2 → P4 a1 a2 → P5 a1 a2 → P6 a1 a2 → P7 a1 a2 → P8 a1 a2 → P9 a1 a2 → P10 a1 a2 → q) : q := h.elim fun a1 y1 => y1.elim fun a2 y2 => k a1 a2 y2.1 y2.2.1 y2.2.2.1 y2.2.2.2.1 y2.2.2.2.2.1 y2.2.2.2.2.2.1 y2.2.2.2.2.2.2.1 y2.2.2.2.2.2.2.2.1 y2.2.2.2.2.2.2.2.2.1 y2.2.2.2.2.2.2.2.2.2
theorem x3_1 {A1 A2 A3 : Type} {P1 : A1 → A2 → A3 → Prop} {q : Prop} (h : ∃ a1 a2 a3, P1 a1 a2 a3) (k : ∀ a1 a2 a3, P1 a1 a2 a3 → q) : q := h.elim fun a1 y1 => y1.elim fun a2 y2 => y2.elim fun a3 y3 => k a1 a2 a3 y3
theorem x3_2 {A1 A2 A3 : Type} {P1 P2 : A1 → A2 → A3 → Prop} {q : Prop} (h : ∃ a1 a2 a3, P1 a1 a2 a3 ∧ P2 a1 a2 a3) (k : ∀ a1 a2 a3, P1 a1 a2 a3 → P2 a1 a2 a3 → q) : q := h.elim fun a1 y1 => y1.elim fun a2 y2 => y2.elim fun a3 y3 => k a1 a2 a3 y3.1 y3.2
theorem x3_3 {A1 A2 A3 : Type} {P1 P2 P3 : A1 → A2 → A3 → Prop} {q : Prop} (h : ∃ a1 a2 a3, P1 a1 a2 a3 ∧ P2 a1 a2 a3 ∧ P3 a1 a2 a3) (k : ∀ a1 a2 a3, P1 a1 a2 a3 → P2 a1 a2 a3 → P3 a1 a2 a3 → q) : q := h.elim fun a1 y1 => y1.elim fun a2 y2 => y2.elim fun a3 y3 => k a1 a2 a3 y3.1 y3.2.1 y3.2.2
theorem x3_4 {A1 A2 A3 : Type} {P1 P2 P3 P4 : A1 → A2 → A3 → Prop} {q : Prop} (h : ∃ a1 a2 a3, P1 a1 a2 a3 ∧ P2 a1 a2 a3 ∧ P3 a1 a2 a3 ∧ P4 a1 a2 a3) (k : ∀ a1 a2 a3, P1 a1 a2 a3 → P2 a1 a2 a3 → P3 a1 a2 a3 → P4 a1 a2 a3 → q) : q := h.elim fun a1 y1 => y1.elim fun a2 y2 => y2.elim fun a3 y3 => k a1 a2 a3 y3.1 y3.2.1 y3.2.2.1 y3.2.2.2
theorem x3_5 {A1 A2 A3 : Type} {P1 P2 P3 P4 P5 : A1 → A2 → A3 → Prop} {q : Prop} (h : ∃ a1 a2 a3, P1 a1 a2 a3 ∧ P2 a1 a2 a3 ∧ P3 a1 a2 a3 ∧ P4 a1 a2 a3 ∧ P5 a1 a2 a3) (k : ∀ a1 a2 a3, P1 a1 a2 a3 → P2 a1 a2 a3 → P3 a1 a2 a3 → P4 a1 a2 a3 → P5 a1 a2 a3 → q) : q := h.elim fun a1 y1 => y1.elim fun a2 y2 => y2.elim fun a3 y3 => k a1 a2 a3 y3.1 y3.2.1 y3.2.2.1 y3.2.2.2.1 y3.2.2.2.2
theorem x4_2 {A1 A2 A3 A4 : Type} {P1 P2 : A1 → A2 → A3 → A4 → Prop} {q : Prop} (h : ∃ a1 a2 a3 a4, P1 a1 a2 a3 a4 ∧ P2 a1 a2 a3 a4) (k : ∀ a1 a2 a3 a4, P1 a1 a2 a3 a4 → P2 a1 a2 a3 a4 → q) : q := h.elim fun a1 y1 => y1.elim fun a2 y2 => y2.elim fun a3 y3 => y3.elim fun a4 y4 => k a1 a2 a3 a4 y4.1 y4.2
theorem x4_3 {A1 A2 A3 A4 : Type} {P1 P2 P3 : A1 → A2 → A3 → A4 → Prop} {q : Prop} (h : ∃ a1 a2 a3 a4, P1 a1 a2 a3 a4 ∧ P2 a1 a2 a3 a4 ∧ P3 a1 a2 a3 a4) (k : ∀ a1 a2 a3 a4, P1 a1 a2 a3 a4 → P2 a1 a2 a3 a4 → P3 a1 a2 a3 a4 → q) : q := h.elim fun a1 y1 => y1.elim fun a2 y2 => y2.elim fun a3 y3 => y3.elim fun a4 y4 => k a1 a2 a3 a4 y4.1 y4.2.1 y4.2.2
theorem x4_4 {A1 A2 A3 A4 : Type} {P1 P2 P3 P4 : A1 → A2 → A3 → A4 → Prop} {q : Prop} (h : ∃ a1 a2 a3 a4, P1 a1 a2 a3 a4 ∧ P2 a1 a2 a3 a4 ∧ P3 a1 a2 a3 a4 ∧ P4 a1 a2 a3 a4) (k : ∀ a1 a2 a3 a4, P1 a1 a2 a3 a4 → P2 a1 a2 a3 a4 → P3 a1 a2 a3 a4 → P4 a1 a2 a3 a4 → q) : q := h.elim fun a1 y1 => y1.elim fun a2 y2 => y2.elim fun a3 y3 => y3.elim fun a4 y4 => k a1 a2 a3 a4 y4.1 y4.2.1 y4.2.2.1 y4.2.2.2
theorem x4_5 {A1 A2 A3 A4 : Type} {P1 P2 P3 P4 P5 : A1 → A2 → A3 → A4 → Prop} {q : Prop} (h : ∃ a1 a2 a3 a4, P1 a1 a2 a3 a4 ∧ P2 a1 a2 a3 a4 ∧ P3 a1 a2 a3 a4 ∧ P4 a1 a2 a3 a4 ∧ P5 a1 a2 a3 a4) (k : ∀ a1 a2 a3 a4, P1 a1 a2 a3 a4 → P2 a1 a2 a3 a4 → P3 a1 a2 a3 a4 → P4 a1 a2 a3 a4 → P5 a1 a2 a3 a4 → q) : q := h.elim fun a1 y1 => y1.elim fun a2 y2 => y2.elim fun a3 y3 => y3.elim fun a4 y4 => k a1 a2 a3 a4 y4.1 y4.2.1 y4.2.2.1 y4.2.2.2.1 y4.2.2.2.2
theorem x4_7 {A1 A2 A3 A4 : Type} {P1 P2 P3 P4 P5 P6 P7 : A1 → A2 → A3 → A4 → Prop} {q : Prop} (h : ∃ a1 a2 a3 a4, P1 a1 a2 a3 a4 ∧ P2 a1 a2 a3 a4 ∧ P3 a1 a2 a3 a4 ∧ P4 a1 a2 a3 a4 ∧ P5 a1 a2 a3 a4 ∧ P6 a1 a2 a3 a4 ∧ P7 a1 a2 a3 a4) (k : ∀ a1 a2 a3 a4, P1 a1 a2 a3 a4 → P2 a1 a2 a3 a4 → P3 a1 a2 a3 a4 → P4 a1 a2 a3 a4 → P5 a1 a2 a3 a4 → P6 a1 a2 a3 a4 → P7 a1 a2 a3 a4 → q) : q := h.elim fun a1 y1 => y1.elim fun a2 y2 => y2.elim fun a3 y3 => y3.elim fun a4 y4 => k a1 a2 a3 a4 y4.1 y4.2.1 y4.2.2.1 y4.2.2.2.1 y4.2.2.2.2.1 y4.2.2.2.2.2.1 y4.2.2.2.2.2.2
theorem x5_4 {A1 A2 A3 A4 A5 : Type} {P1 P2 P3 P4 : A1 → A2 → A3 → A4 → A5 → Prop} {q : Prop} (h : ∃ a1 a2 a3 a4 a5, P1 a1 a2 a3 a4 a5 ∧ P2 a1 a2 a3 a4 a5 ∧ P3 a1 a2 a3 a4 a5 ∧ P4 a1 a2 a3 a4 a5) (k : ∀ a1 a2 a3 a4 a5, P1 a1 a2 a3 a4 a5 → P2 a1 a2 a3 a4 a5 → P3 a1 a2 a3 a4 a5 → P4 a1 a2 a3 a4 a5 → q) : q := h.elim fun a1 y1 => y1.elim fun a2 y2 => y2.elim fun a3 y3 => y3.elim fun a4 y4 => y4.elim fun a5 y5 => k a1 a2 a3 a4 a5 y5.1 y5.2.1 y5.2.2.1 y5.2.2.2
theorem x5_5 {A1 A2 A3 A4 A5 : Type} {P1 P2 P3 P4 P5 : A1 → A2 → A3 → A4 → A5 → Prop} {q : Prop} (h : ∃ a1 a2 a3 a4 a5, P1 a1 a2 a3 a4 a5 ∧ P2 a1 a2 a3 a4 a5 ∧ P3 a1 a2 a3 a4 a5 ∧ P4 a1 a2 a3 a4 a5 ∧ P5 a1 a2 a3 a4 a5) (k : ∀ a1 a2 a3 a4 a5, P1 a1 a2 a3 a4 a5 → P2 a1 a2 a3 a4 a5 → P3 a1 a2 a3 a4 a5 → P4 a1 a2 a3 a4 a5 → P5 a1 a2 a3 a4 a5 → q) : q := h.elim fun a1 y1 => y1.elim fun a2 y2 => y2.elim fun a3 y3 => y3.elim fun a4 y4 => y4.elim fun a5 y5 => k a1 a2 a3 a4 a5 y5.1 y5.2.1 y5.2.2.1 y5.2.2.2.1 y5.2.2.2.2
theorem x6_1 {A1 A2 A3 A4 A5 A6 : Type} {P1 : A1 → A2 → A3 → A4 → A5 → A6 → Prop} {q : Prop} (h : ∃ a1 a2 a3 a4 a5 a6, P1 a1 a2 a3 a4 a5 a6) (k : ∀ a1 a2 a3 a4 a5 a6, P1 a1 a2 a3 a4 a5 a6 → q) : q := h.elim fun a1 y1 => y1.elim fun a2 y2 => y2.elim fun a3 y3 => y3.elim fun a4 y4 => y4.elim fun a5 y5 => y5.elim fun a6 y6 => k a1 a2 a3 a4 a5 a6 y6
theorem x9_8 {A1 A2 A3 A4 A5 A6 A7 A8 A9 : Type} {P1 P2 P3 P4 P5 P6 P7 P8 : A1 → A2 → A3 → A4 → A5 → A6 → A7 → A8 → A9 → Prop} {q : Prop} (h : ∃ a1 a2 a3 a4 a5 a6 a7 a8 a9, P1 a1 a2 a3 a4 a5 a6 a7 a8 a9 ∧ P2 a1 a2 a3 a4 a5 a6 a7 a8 a9 ∧ P3 a1 a2 a3 a4 a5 a6 a7 a8 a9 ∧ P4 a1 a2 a3 a4 a5 a6 a7 a8 a9 ∧ P5 a1 a2 a3 a4 a5 a6 a7 a8 a9 ∧ P6 a1 a2 a3 a4 a5 a6 a7 a8 a9 ∧ P7 a1 a2 a3 a4 a5 a6 a7 a8 a9 ∧ P8 a1 a2 a3 a4 a5 a6 a7 a8 a9) (k : ∀ a1 a2 a3 a4 a5 a6 a7 a8 a9, P1 a1 a2 a3 a4 a5 a6 a7 a8 a9 → P2 a1 a2 a3 a4 a5 a6 a7 a8 a9 → P3 a1 a2 a3 a4 a5 a6 a7 a8 a9 → P4 a1 a2 a3 a4 a5 a6 a7 a8 a9 → P5 a1 a2 a3 a4 a5 a6 a7 a8 a9 → P6 a1 a2 a3 a4 a5 a6 a7 a8 a9 → P7 a1 a2 a3 a4 a5 a6 a7 a8 a9 → P8 a1 a2 a3 a4 a5 a6 a7 a8 a9 → q) : q := h.elim fun a1 y1 => y1.elim fun a2 y2 => y2.elim fun a3 y3 => y3.elim fun a4 y4 => y4.elim fun a5 y5 => y5.elim fun a6 y6 => y6.elim fun a7 y7 => y7.elim fun a8 y8 => y8.elim fun a9 y9 => k a1 a2 a3 a4 a5 a6 a7 a8 a9 y9.1 y9.2.1 y9.2.2.1 y9.2.2.2.1 y9.2.2.2.2.1 y9.2.2.2.2.2.1 y9.2.2.2.2.2.2.1 y9.2.2.2.2.2.2.2
end Mine.Internal
section
open PySem PySem.W PyProof.Rows
local macro_rules | `(tactic| k_head) => `(tactic| x_head)
open_top Mine.Internal.hd for PySem.Challenge.rw_dm0091_06
end
section
open PySem PySem.W PyProof.Rows PySem.Calls
namespace Mine.Internal
set_option tactic.hygienic false in
theorem upTo {P : Nat → Prop} (n : Nat) (h1 : ∀ k, k < n → P k) (h2 : P n) : ∀ k, k < n + 1 → P k := fun k hk => (Nat.lt_or_eq_of_le (Nat.le_of_lt_succ hk)).elim (h1 k) fun e => e ▸ h2
set_option tactic.hygienic false in
theorem upTo0 {P : Nat → Prop} : ∀ k, k < 0 → P k := fun k h => absurd h (Nat.not_lt_zero k)
inductive AV where
  | none
  | bool (b : Bool)
  | int (i : Int)
  | str (s : Str)
  | tup (xs : List AV)
  | lst (xs : List AV)
  | loc (l : Nat)
inductive AO where
  | list (xs : List AV)
  | fmt (ml : Int) (cw : Str) (cwl : Int) (sp : Str) (ln ac : Nat)
  | acc (ini : Int) (parts : List (Str × Str))
  | ghost
  | gen (m k : Nat)
  | out (n : Nat)
noncomputable def AO.isGen : AO → Bool
  | .gen .. => true
  | .out .. => true
  | _ => false
noncomputable abbrev St := List AO
noncomputable abbrev Lc := List (Option AV)
noncomputable abbrev Rho := List (Addr × Addr)
structure Cfg where
  prog : Program
  w : World
  K : Frag
  s₁ : Shared
  VF : Addr
  ACC : Addr
  /-- code objects with their tables and what stood in these -/
  tabs : List (Addr × Addr × Array Value)
  /-- how a generator sleeps: where its frame's names stand, how often it was asked -/
  G : Addr → Nat → GenState → Prop
theorem s1 {γ : Type} {o : Option (AV × St)} {F : AV → St → Option γ} {r : γ} {P : Prop} (h : (match o with | some (a, b) => F a b | none => none) = some r) (k : ∀ a b, o = some (a, b) → F a b = some r → P) : P := by
  cases o with
  | none => exact nomatch h
  | some p => exact k p.1 p.2 rfl h
theorem s3 {γ : Type} {o : Option (List AV × St)} {F : List AV → St → Option γ} {r : γ} {P : Prop} (h : (match o with | some (a, b) => F a b | none => none) = some r) (k : ∀ a b, o = some (a, b) → F a b = some r → P) : P := by
  cases o with
  | none => exact nomatch h
  | some p => exact k p.1 p.2 rfl h
theorem sf {γ : Type} {c : Prop} [Decidable c] {A : Option γ} {r : γ} {P : Prop} (h : (if c then A else none) = some r) (k : c → A = some r → P) : P := by
  by_cases hc : c
  · exact k hc ((if_pos hc).symm.trans h)
  · exact nomatch (if_neg hc).symm.trans h
theorem si {γ : Type} {o : Option (AV × St)} {F : Int → St → Option γ} {r : γ} {P : Prop} (h : (match o with | some (.int a, b) => F a b | _ => none) = some r) (k : ∀ a b, o = some (.int a, b) → F a b = some r → P) : P := by
  split at h
  · exact k _ _ rfl h
  · exact nomatch h
theorem sl {γ : Type} {o : Option (AV × St)} {F : Nat → St → Option γ} {r : γ} {P : Prop} (h : (match o with | some (.loc a, b) => F a b | _ => none) = some r) (k : ∀ a b, o = some (.loc a, b) → F a b = some r → P) : P := by
  split at h
  · exact k _ _ rfl h
  · exact nomatch h
theorem ss {γ : Type} {o : Option (AV × St)} {F : Str → St → Option γ} {r : γ} {P : Prop} (h : (match o with | some (.str a, b) => F a b | _ => none) = some r) (k : ∀ a b, o = some (.str a, b) → F a b = some r → P) : P := by
  split at h
  · exact k _ _ rfl h
  · exact nomatch h
theorem sa {γ : Type} {o : Option AO} {F : Int → List (Str × Str) → Option γ} {r : γ} {P : Prop} (h : (match o with | some (.acc a b) => F a b | _ => none) = some r) (k : ∀ a b, o = some (.acc a b) → F a b = some r → P) : P := by
  split at h
  · exact k _ _ rfl h
  · exact nomatch h
theorem sq {γ : Type} {o : Option AO} {F : List AV → Option γ} {r : γ} {P : Prop} (h : (match o with | some (.list a) => F a | _ => none) = some r) (k : ∀ a, o = some (.list a) → F a = some r → P) : P := by
  split at h
  · exact k _ rfl h
  · exact nomatch h
theorem sv {γ : Type} {o : Option (Option Int × St)} {F : Option Int → St → Option γ} {r : γ} {P : Prop} (h : (match o with | some (a, b) => F a b | none => none) = some r) (k : ∀ a b, o = some (a, b) → F a b = some r → P) : P := by
  cases o with
  | none => exact nomatch h
  | some p => exact k p.1 p.2 rfl h
theorem sw {γ : Type} {o : Option (List AV)} {F : List AV → Option γ} {r : γ} {P : Prop} (h : (match o with | some a => F a | none => none) = some r) (k : ∀ a, o = some a → F a = some r → P) : P := by
  cases o with
  | none => exact nomatch h
  | some p => exact k p rfl h
theorem sx {γ : Type} {o : Option (AV)} {F : AV → Option γ} {r : γ} {P : Prop} (h : (match o with | some a => F a | none => none) = some r) (k : ∀ a, o = some a → F a = some r → P) : P := by
  cases o with
  | none => exact nomatch h
  | some p => exact k p rfl h
theorem sy {γ : Type} {o : Option (Lc)} {F : Lc → Option γ} {r : γ} {P : Prop} (h : (match o with | some a => F a | none => none) = some r) (k : ∀ a, o = some a → F a = some r → P) : P := by
  cases o with
  | none => exact nomatch h
  | some p => exact k p rfl h
theorem sb {γ : Type} {o : Option (List (Str × Str))} {F : List (Str × Str) → Option γ} {r : γ} {P : Prop} (h : (match o with | some a => F a | none => none) = some r) (k : ∀ a, o = some a → F a = some r → P) : P := by
  cases o with
  | none => exact nomatch h
  | some p => exact k p rfl h
theorem sn {γ : Type} {o : Option (List Int)} {F : List Int → Option γ} {r : γ} {P : Prop} (h : (match o with | some a => F a | none => none) = some r) (k : ∀ a, o = some a → F a = some r → P) : P := by
  cases o with
  | none => exact nomatch h
  | some p => exact k p rfl h
theorem st {γ : Type} {o : Option (List Str)} {F : List Str → Option γ} {r : γ} {P : Prop} (h : (match o with | some a => F a | none => none) = some r) (k : ∀ a, o = some a → F a = some r → P) : P := by
  cases o with
  | none => exact nomatch h
  | some p => exact k p rfl h
theorem so1 {γ : Type} {o : Option (AO)} {F : AO → Option γ} {r : γ} {P : Prop} (h : (match o with | some a => F a | none => none) = some r) (k : ∀ a, o = some a → F a = some r → P) : P := by
  cases o with
  | none => exact nomatch h
  | some p => exact k p rfl h
theorem so2 {γ : Type} {o : Option (Str × Str)} {F : Str × Str → Option γ} {r : γ} {P : Prop} (h : (match o with | some a => F a | none => none) = some r) (k : ∀ a, o = some a → F a = some r → P) : P := by
  cases o with
  | none => exact nomatch h
  | some p => exact k p rfl h
noncomputable def Cfg.isTab (C : Cfg) (a : Addr) : Prop := a ∈ C.tabs.map (·.2.1)
noncomputable def Mut (C : Cfg) (ρ : Rho) (a : Addr) : Prop := C.isTab a ∨ ∃ p ∈ ρ, p.1 = a ∨ p.2 = a
noncomputable abbrev tupObj (vs : List Value) (n : Nat) : Obj := { cls := .type "tuple", data := .seq vs.toArray n }
noncomputable abbrev lstObj (vs : List Value) (n : Nat) : Obj := { cls := .type "list", data := .seq vs.toArray n }
mutual
inductive VR (C : Cfg) (ρ : Rho) (h : Heap) : AV → Value → Prop
  | none : VR C ρ h .none .none
  | bool (b : Bool) : VR C ρ h (.bool b) (.bool b)
  | int (i : Int) (t : Tok) : VR C ρ h (.int i) (.int i t)
  | str (x : Str) (t : Tok) (ok : PyData.strOk x = true) : VR C ρ h (.str x) (.str x t)
  | tup {a : Addr} {vs : List Value} {n : Nat} {xs : List AV} (ho : h.get? a = some (tupObj vs n)) (hm : ¬ Mut C ρ a) (hs : VRs C ρ h xs vs) : VR C ρ h (.tup xs) (.ref a)
  | lst {a : Addr} {vs : List Value} {n : Nat} {xs : List AV} (ho : h.get? a = some (lstObj vs n)) (hm : ¬ Mut C ρ a) (hs : VRs C ρ h xs vs) : VR C ρ h (.lst xs) (.ref a)
  | loc {l : Nat} {p : Addr × Addr} (e : ρ[l]? = some p) : VR C ρ h (.loc l) (.ref p.1)
inductive VRs (C : Cfg) (ρ : Rho) (h : Heap) : List AV → List Value → Prop
  | nil : VRs C ρ h [] []
  | cons {x : AV} {v : Value} {xs : List AV} {vs : List Value} (a : VR C ρ h x v) (b : VRs C ρ h xs vs) : VRs C ρ h (x :: xs) (v :: vs)
end

structure Step (C : Cfg) (W : List Addr) (ρ ρ' : Rho) (h h' : Heap) : Prop where
  size : h.objs.size ≤ h'.objs.size
  keep : ∀ b o, h.get? b = some o → ¬ Mut C ρ b → b ∉ W → h'.get? b = some o
  grow : ∃ δ, ρ' = ρ ++ δ ∧ ∀ p ∈ δ, h.objs.size ≤ p.1 ∧ h.objs.size ≤ p.2
section
variable {C : Cfg} {W : List Addr} {ρ ρ' ρ'' : Rho} {h h' h'' : Heap}
set_option tactic.hygienic false in
theorem Step.refl : Step C W ρ ρ h h := ⟨Nat.le_refl _, fun uu uu e uu uu => e, [], by simp, fun uu hp => nomatch hp⟩
set_option tactic.hygienic false in
theorem Step.same (k : ∀ b o, h.get? b = some o → h'.get? b = some o) (z : h.objs.size ≤ h'.objs.size) : Step C W ρ ρ h h' := ⟨z, fun b o e uu uu => k b o e, [], by simp, fun uu hp => nomatch hp⟩
set_option tactic.hygienic false in
theorem Mut.grow (S : Step C W ρ ρ' h h') {b : Addr} (hb : b < h.objs.size) (n : ¬ Mut C ρ b) : ¬ Mut C ρ' b := by
  obtain ⟨δ, rfl, hδ⟩ := S.grow
  rintro (t | ⟨p, hp, e⟩)
  · exact n (.inl t)
  · rcases List.mem_append.mp hp with hp | hp
    · exact n (.inr ⟨p, hp, e⟩)
    · rcases e with e | e
      · exact absurd hb (Nat.not_lt.mpr (e ▸ (hδ p hp).1))
      · exact absurd hb (Nat.not_lt.mpr (e ▸ (hδ p hp).2))
set_option tactic.hygienic false in
theorem Step.trans (S : Step C W ρ ρ' h h') (T : Step C W ρ' ρ'' h' h'') : Step C W ρ ρ'' h h'' := by
  refine ⟨Nat.le_trans S.size T.size, fun b o e n w => T.keep b o (S.keep b o e n w) (Mut.grow S (Heap.lt_size e) n) w, ?_⟩
  obtain ⟨δ, rfl, hδ⟩ := S.grow
  obtain ⟨δ', rfl, hδ'⟩ := T.grow
  refine ⟨δ ++ δ', by simp, fun p hp => ?_⟩
  rcases List.mem_append.mp hp with hp | hp
  · exact hδ p hp
  · have := hδ' p hp; have := S.size; (first | lia | omega)
set_option tactic.hygienic false in
theorem Step.weaken {W' : List Addr} (S : Step C W ρ ρ' h h') (hw : ∀ a ∈ W, a ∈ W') : Step C W' ρ ρ' h h' :=
  ⟨S.size, fun b o e n w => S.keep b o e n fun q => w (hw _ q), S.grow⟩
set_option tactic.hygienic false in
theorem Step.of_nil (S : Step C [] ρ ρ' h h') : Step C W ρ ρ' h h' := S.weaken fun uu q => nomatch q
set_option tactic.hygienic false in
theorem Step.above {W' : List Addr} (S : Step C W' ρ ρ' h h') (hw : ∀ a ∈ W', h.objs.size ≤ a) : Step C W ρ ρ' h h' :=
  ⟨S.size, fun b o e n uu => S.keep b o e n fun q => absurd (Heap.lt_size e) (Nat.not_lt.mpr (hw _ q)), S.grow⟩
set_option tactic.hygienic false in
theorem Step.pushObj (o : Obj) : Step C W ρ ρ h (h.push o) := .same (fun uu uu e => Heap.get?_push_of_some _ e) (by rw [Heap.size_push]; (first | lia | omega))
set_option tactic.hygienic false in
theorem VR.step (S : Step C W ρ ρ' h h') (hW : ∀ a o vs n, a ∈ W → h.get? a = some o → o.data ≠ .seq vs n) {x : AV} {v : Value} (q : VR C ρ h x v) : VR C ρ' h' x v :=
  VR.rec (motive_1 := fun x v uu => VR C ρ' h' x v) (motive_2 := fun xs vs uu => VRs C ρ' h' xs vs) .none (fun b => .bool b) (fun i t => .int i t) (fun x t ok => .str x t ok)
    (fun ho hm uu ih => .tup (S.keep _ _ ho hm fun q => hW _ _ _ _ q ho rfl) (Mut.grow S (Heap.lt_size ho) hm) ih) (fun ho hm uu ih => .lst (S.keep _ _ ho hm fun q => hW _ _ _ _ q ho rfl) (Mut.grow S (Heap.lt_size ho) hm) ih)
    (fun e => by
      obtain ⟨δ, rfl, _⟩ := S.grow
      exact .loc (by rw [List.getElem?_append_left (List.getElem?_eq_some_iff.mp e).1]; exact e)) .nil (fun uu uu a b => .cons a b) q
set_option tactic.hygienic false in
theorem VRs.ind {P : List AV → List Value → Prop} (h0 : P [] []) (h1 : ∀ {x v xs vs}, VR C ρ h x v → VRs C ρ h xs vs → P xs vs → P (x :: xs) (v :: vs)) {xs : List AV} {vs : List Value} (q : VRs C ρ h xs vs) : P xs vs :=
  VRs.rec (motive_1 := fun uu uu uu => True) (motive_2 := fun xs vs uu => P xs vs) trivial (fun uu => trivial) (fun uu uu => trivial) (fun uu uu uu => trivial) (fun uu uu uu uu => trivial) (fun uu uu uu uu => trivial) (fun uu => trivial) h0 (fun a b uu ih => h1 a b ih) q
set_option tactic.hygienic false in
theorem VRs.step (S : Step C W ρ ρ' h h') (hW : ∀ a o vs n, a ∈ W → h.get? a = some o → o.data ≠ .seq vs n) {xs : List AV} {vs : List Value} (q : VRs C ρ h xs vs) : VRs C ρ' h' xs vs :=
  q.ind (P := VRs C ρ' h') .nil fun a uu ih => .cons (a.step S hW) ih
set_option tactic.hygienic false in
theorem noW : ∀ a o vs n, a ∈ ([] : List Addr) → h.get? a = some o → o.data ≠ .seq vs n := fun uu uu uu uu q => nomatch q
set_option tactic.hygienic false in
theorem VR.go (S : Step C [] ρ ρ' h h') {x : AV} {v : Value} (q : VR C ρ h x v) : VR C ρ' h' x v := q.step S noW
set_option tactic.hygienic false in
theorem VRs.go (S : Step C [] ρ ρ' h h') {x : List AV} {v : List Value} (q : VRs C ρ h x v) : VRs C ρ' h' x v := q.step S noW
set_option tactic.hygienic false in
theorem VRs.length {xs : List AV} {vs : List Value} (q : VRs C ρ h xs vs) : vs.length = xs.length := q.ind (P := fun xs vs => vs.length = xs.length) rfl fun uu uu ih => congrArg (· + 1) ih
set_option tactic.hygienic false in
theorem VRs.append {xs ys : List AV} {vs ws : List Value} (q : VRs C ρ h xs vs) (b : VRs C ρ h ys ws) : VRs C ρ h (xs ++ ys) (vs ++ ws) := q.ind (P := fun xs vs => VRs C ρ h (xs ++ ys) (vs ++ ws)) b fun a uu ih => .cons a ih
set_option tactic.hygienic false in
theorem VRs.get {xs : List AV} {vs : List Value} (q : VRs C ρ h xs vs) {i : Nat} {x : AV} (e : xs[i]? = some x) : ∃ v, vs[i]? = some v ∧ VR C ρ h x v := by
  refine q.ind (P := fun xs vs => ∀ i, xs[i]? = some x → ∃ v, vs[i]? = some v ∧ VR C ρ h x v) (fun i e => by simp at e) (fun a uu ih i e => ?_) i e
  cases i with
  | zero => cases e; exact ⟨_, rfl, a⟩
  | succ i => exact ih i e
set_option tactic.hygienic false in
theorem VRs.take {xs : List AV} {vs : List Value} (q : VRs C ρ h xs vs) : ∀ n, VRs C ρ h (xs.take n) (vs.take n) :=
  q.ind (P := fun xs vs => ∀ n, VRs C ρ h (xs.take n) (vs.take n)) (fun n => by cases n <;> exact .nil) fun a uu ih n => by
    cases n with
    | zero => exact .nil
    | succ n => exact .cons a (ih n)
set_option tactic.hygienic false in
theorem VRs.drop {xs : List AV} {vs : List Value} (q : VRs C ρ h xs vs) : ∀ n, VRs C ρ h (xs.drop n) (vs.drop n) :=
  q.ind (P := fun xs vs => ∀ n, VRs C ρ h (xs.drop n) (vs.drop n)) (fun n => by cases n <;> exact .nil) fun a b ih n => by
    cases n with
    | zero => exact .cons a b
    | succ n => exact ih n
end
inductive EntR (C : Cfg) (ρ : Rho) (h : Heap) : List (Str × AV) → List DictEntry → Prop
  | nil : EntR C ρ h [] []
  | cons {k : Str} {x : AV} {t : Tok} {v : Value} {r : List (Str × AV)} {es : List DictEntry} (a : VR C ρ h x v) (b : EntR C ρ h r es) : EntR C ρ h ((k, x) :: r) (⟨PyData.keyHash C.w.params k, .str k t, v⟩ :: es)
noncomputable def partAV (p : Str × Str) : AV := .tup [.str p.1, .str p.2]
noncomputable def fmtAttrs (ml : Int) (cw : Str) (cwl : Int) (sp : Str) (ln ac : Nat) : List (Str × AV) :=
  [("_maxlen", .int ml), ("_continuation_ws", .str cw), ("_continuation_ws_len", .int cwl), ("_splitchars", .str sp), ("_lines", .loc ln), ("_current_line", .loc ac)]
noncomputable def accAttrs (ini : Int) : List (Str × AV) := [("_initial_size", .int ini)]
structure SelfAt (ρ : Rho) (h : Heap) (L : Addr) (m : Nat) : Prop where
  self : ∃ mm q, h.Ns L mm ∧ ρ[m]? = some q ∧ mm "self" = some (.ref q.1)
set_option tactic.hygienic false in
theorem SelfAt.keep {ρ : Rho} {h h' : Heap} {L : Addr} {m : Nat} (q : SelfAt ρ h L m) (k : ∀ o, h.get? L = some o → h'.get? L = some o) : SelfAt ρ h' L m :=
  let ⟨mm, q, a, b, c⟩ := q.self; ⟨mm, q, a.at k, b, c⟩
set_option tactic.hygienic false in
theorem SelfAt.grow {ρ : Rho} {h : Heap} {L : Addr} {m : Nat} (q : SelfAt ρ h L m) (δ : Rho) : SelfAt (ρ ++ δ) h L m :=
  let ⟨mm, q, a, b, c⟩ := q.self; ⟨mm, q, a, by rw [List.getElem?_append_left (List.getElem?_eq_some_iff.mp b).1]; exact b, c⟩
noncomputable abbrev genObj (n : Nat) (nm qn : Value) : Obj := { cls := .type "generator", data := .fields #[rawInt n, nm, qn] }
inductive ObjR (C : Cfg) (ρ : Rho) (h : Heap) : Addr × Addr → AO → Prop
  | list {a : Addr} {vs : List Value} {n : Nat} {xs : List AV} (ho : h.get? a = some (lstObj vs n)) (hs : VRs C ρ h xs vs) : ObjR C ρ h (a, a) (.list xs)
  | fmt {a d : Addr} {es : List DictEntry} {n : Nat} {ml : Int} {cw : Str} {cwl : Int} {sp : Str} {ln ac : Nat} (ho : h.get? a = some ⟨.ref C.VF, some d, .plain, #[]⟩) (hd : h.get? d = some (dictOf es n))
      (he : EntR C ρ h (fmtAttrs ml cw cwl sp ln ac) es) : ObjR C ρ h (a, d) (.fmt ml cw cwl sp ln ac)
  | acc {a d : Addr} {es : List DictEntry} {n n' : Nat} {vs : List Value} {ini : Int} {parts : List (Str × Str)} (ho : h.get? a = some ⟨.ref C.ACC, some d, .seq vs.toArray n, #[]⟩) (hd : h.get? d = some (dictOf es n'))
      (he : EntR C ρ h (accAttrs ini) es) (hs : VRs C ρ h (parts.map partAV) vs) : ObjR C ρ h (a, d) (.acc ini parts)
  | ghost {a : Addr} {x y : Value} {n : Nat} (ho : h.get? a = some { cls := .type "tuple", data := .seq #[x, y] n }) : ObjR C ρ h (a, a) .ghost
  | gen {a L : Addr} {m k n : Nat} {nm qn : Value} (ho : h.get? a = some (genObj n nm qn)) (hL : SelfAt ρ h L m) : ObjR C ρ h (a, L) (.gen m k)
  | out {a : Addr} {n : Nat} {nm qn : Value} (ho : h.get? a = some (genObj n nm qn)) : ObjR C ρ h (a, a) (.out n)
structure GR (C : Cfg) (ρ : Rho) (σ : St) (h : Heap) (g : Array GenState) : Prop where
  bare : AllBare g
  live : ∀ (l : Nat) (p : Addr × Addr) (m k : Nat), ρ[l]? = some p → σ[l]? = some (.gen m k) → ∃ n nm qn st, h.get? p.1 = some (genObj n nm qn) ∧ g[n]? = some st ∧ C.G p.2 k st
  outs : ∀ (l : Nat) (p : Addr × Addr) (n : Nat), ρ[l]? = some p → σ[l]? = some (.out n) → ∃ nm qn, h.get? p.1 = some (genObj n nm qn) ∧ g[n]? = some .running
  apart : ∀ (l l' : Nat) (p p' : Addr × Addr) (o o' : AO) (n : Nat) (nm qn nm' qn' : Value), ρ[l]? = some p → ρ[l']? = some p' → σ[l]? = some o → o.isGen = true → σ[l']? = some o' → o'.isGen = true →
    h.get? p.1 = some (genObj n nm qn) → h.get? p'.1 = some (genObj n nm' qn') → l = l'
section
variable {C : Cfg} {ρ : Rho} {σ : St} {h h' : Heap} {g g' : Array GenState}
set_option tactic.hygienic false in
theorem GR.obj (q : GR C ρ σ h g) {l : Nat} {p : Addr × Addr} {o : AO} (e : ρ[l]? = some p) (e' : σ[l]? = some o) (hg : o.isGen = true) : ∃ n nm qn, h.get? p.1 = some (genObj n nm qn) ∧ n < g.size := by
  cases o with
  | gen m k => (refine x4_3 (q.live l p m k e e') fun n nm qn st z y uu => ?_); exact ⟨n, nm, qn, z, (Array.getElem?_eq_some_iff.mp y).1⟩
  | out n => (refine x2_2 (q.outs l p n e e') fun nm qn z y => ?_); exact ⟨n, nm, qn, z, (Array.getElem?_eq_some_iff.mp y).1⟩
  | _ => cases hg
set_option tactic.hygienic false in
theorem GR.mono (q : GR C ρ σ h g) (b : AllBare g') (k : ∀ (i : Nat) (st : GenState), g[i]? = some st → g'[i]? = some st) : GR C ρ σ h g' :=
  ⟨b, fun l p m i e e' => let ⟨n, nm, qn, st, z, x, y⟩ := q.live l p m i e e'; ⟨n, nm, qn, st, z, k _ _ x, y⟩, fun l p n e e' => let ⟨nm, qn, z, x⟩ := q.outs l p n e e'; ⟨nm, qn, z, k _ _ x⟩, q.apart⟩
set_option tactic.hygienic false in
theorem GR.heap (q : GR C ρ σ h g) (k : ∀ (l : Nat) (p : Addr × Addr) (o : AO), ρ[l]? = some p → σ[l]? = some o → o.isGen = true → ∀ ob, h.get? p.1 = some ob → h'.get? p.1 = some ob) : GR C ρ σ h' g := by
  refine ⟨q.bare, fun l p m i e e' => let ⟨n, nm, qn, st, z, x, y⟩ := q.live l p m i e e'; ⟨n, nm, qn, st, k _ _ _ e e' rfl _ z, x, y⟩, fun l p n e e' => let ⟨nm, qn, z, x⟩ := q.outs l p n e e'; ⟨nm, qn, k _ _ _ e e' rfl _ z, x⟩, ?_⟩
  intro l l' p p' o o' n nm qn nm' qn' e1 e2 e3 g3 e4 g4 e5 e6
  (refine x3_2 (q.obj e1 e3 g3) fun n1 a1 b1 z1 uu => ?_)
  (refine x3_2 (q.obj e2 e4 g4) fun n2 a2 b2 z2 uu => ?_)
  have w1 := (k _ _ _ e1 e3 g3 _ z1).symm.trans e5
  have w2 := (k _ _ _ e2 e4 g4 _ z2).symm.trans e6
  cases w1
  cases w2
  exact q.apart l l' p p' o o' _ _ _ _ _ e1 e2 e3 g3 e4 g4 z1 z2
set_option tactic.hygienic false in
theorem GR.set (q : GR C ρ σ h g) {l : Nat} {o : AO} (ng : o.isGen = false) : GR C ρ (σ.set l o) h g := by
  have k : ∀ (i : Nat) (x : AO), (σ.set l o)[i]? = some x → x.isGen = true → σ[i]? = some x := by
    intro i x e hx
    by_cases hi : l = i
    · subst hi
      rw [List.getElem?_set, if_pos rfl] at e
      (refine sf e ?_; clear e; intro uu e)
      cases e; rw [hx] at ng; cases ng
    · rw [List.getElem?_set_ne hi] at e; exact e
  exact ⟨q.bare, fun i p m n e e' => q.live i p m n e (k _ _ e' rfl), fun i p n e e' => q.outs i p n e (k _ _ e' rfl), fun i j p p' x x' r a b c d e1 e2 e3 g3 e4 g4 => q.apart i j p p' x x' r a b c d e1 e2 (k _ _ e3 g3) g3 (k _ _ e4 g4) g4⟩
set_option tactic.hygienic false in
theorem GR.snoc (q : GR C ρ σ h g) (hl : ρ.length = σ.length) {p : Addr × Addr} {o : AO} (ng : o.isGen = false) : GR C (ρ ++ [p]) (σ ++ [o]) h g := by
  have k : ∀ (i : Nat) (x : AO), (σ ++ [o])[i]? = some x → x.isGen = true → i < ρ.length ∧ σ[i]? = some x := by
    intro i x e hx
    by_cases hi : i < σ.length
    · rw [List.getElem?_append_left hi] at e; exact ⟨hl ▸ hi, e⟩
    · rw [List.getElem?_append_right (Nat.not_lt.mp hi), List.getElem?_singleton] at e
      (refine sf e ?_; clear e; intro uu e)
      cases e; rw [hx] at ng; cases ng
  have r : ∀ (i : Nat) {q : Addr × Addr}, i < ρ.length → (ρ ++ [p])[i]? = some q → ρ[i]? = some q := fun i q hi e => by rw [List.getElem?_append_left hi] at e; exact e
  refine ⟨q.bare, fun i p' m n e e' => ?_, fun i p' n e e' => ?_, fun i j p1 p2 x x' n a b c d e1 e2 e3 g3 e4 g4 => ?_⟩
  · (refine x0_2 (k _ _ e' rfl) fun a b => ?_)
    exact q.live i p' m n (r _ a e) b
  · (refine x0_2 (k _ _ e' rfl) fun a b => ?_)
    exact q.outs i p' n (r _ a e) b
  · (refine x0_2 (k _ _ e3 g3) fun h1 s1 => ?_)
    (refine x0_2 (k _ _ e4 g4) fun h2 s2 => ?_)
    exact q.apart i j p1 p2 x x' n a b c d (r _ h1 e1) (r _ h2 e2) s1 g3 s2 g4
end
structure Rel (C : Cfg) (ρ : Rho) (σ : St) (s : Shared) : Prop where
  old : ∀ b o, C.s₁.heap.get? b = some o → ¬ C.isTab b → s.heap.get? b = some o
  tab : ∀ t ∈ C.tabs, ∃ more, s.heap.IsCode t.1 t.2.1 (t.2.2 ++ more) ∧ s.heap.TableAt t.1 t.2.1 (t.2.2 ++ more)
  lo : ∀ p ∈ ρ, C.s₁.heap.objs.size ≤ p.1 ∧ C.s₁.heap.objs.size ≤ p.2
  dis : ρ.Pairwise fun p q => p.1 ≠ q.1 ∧ p.1 ≠ q.2 ∧ p.2 ≠ q.1 ∧ p.2 ≠ q.2
  len : ρ.length = σ.length
  st : ∀ (l : Nat) (p : Addr × Addr) (o : AO), ρ[l]? = some p → σ[l]? = some o → ObjR C ρ s.heap p o
  gens : GR C ρ σ s.heap s.gens
  drawn : s.drawn = C.s₁.drawn
  os : s.os = C.s₁.os
  size : C.s₁.heap.objs.size ≤ s.heap.objs.size
noncomputable def LcR (C : Cfg) (ρ : Rho) (h : Heap) (L : Addr) (vars : List Str) (lc : Lc) : Prop :=
  (∃ m, h.Ns L m ∧ ∀ (i : Nat) (x : AV), lc[i]? = some (some x) → ∃ n v, vars[i]? = some n ∧ m n = some v ∧ VR C ρ h x v) ∧ ¬ Mut C ρ L ∧ C.s₁.heap.objs.size ≤ L ∧ lc.length = vars.length
structure EnvOk (env : Env) (vars : List Str) : Prop where
  kind : env.scope.kind = .function
  loc : ∀ x ∈ vars, env.kindOf x = some .local
  nodup : vars.Nodup
  glob : env.globals = mainGlobals
  blt : env.builtins = builtinsNs
noncomputable def AOk (d : Nat) (A : Around) : Prop := A.handled = none ∧ A.depth + d < recursionLimit ∧ A.units + 8 * d < cLine
noncomputable abbrev EM := Lc → St → Option (AV × St)
inductive Fl where
  | next | brk | cont | ret (v : AV)
noncomputable abbrev SM := Lc → St → Option (Fl × Lc × St)
noncomputable abbrev TM := Lc → St → Option (Bool × St)
noncomputable def DenE (C : Cfg) (d : Nat) (env : Env) (vars : List Str) (e : Expr) (f : EM) : Prop :=
  ∀ lc σ x σ', f lc σ = some (x, σ') → ∀ (A : Around) (Q : Value → Shared → Prop) (E : Value → Shared → Prop) (s : Shared) (ρ : Rho), AOk d A → Rel C ρ σ s → LcR C ρ s.heap env.locals vars lc →
    (∀ v s' ρ', Rel C ρ' σ' s' → Step C [] ρ ρ' s.heap s'.heap → VR C ρ' s'.heap x v → Q v s') → wpAny (model C.prog C.w) A (eval e env) Q E s
noncomputable def DenT (C : Cfg) (d : Nat) (env : Env) (vars : List Str) (e : Expr) (f : TM) : Prop :=
  ∀ lc σ b σ', f lc σ = some (b, σ') → ∀ (A : Around) (Q : Bool → Shared → Prop) (E : Value → Shared → Prop) (s : Shared) (ρ : Rho), AOk d A → Rel C ρ σ s → LcR C ρ s.heap env.locals vars lc →
    (∀ s' ρ', Rel C ρ' σ' s' → Step C [] ρ ρ' s.heap s'.heap → Q b s') → wpAny (model C.prog C.w) A (isTrue e env (eval e env)) Q E s
inductive FlR (C : Cfg) (ρ : Rho) (h : Heap) : Fl → Flow → Prop
  | next : FlR C ρ h .next .next
  | brk : FlR C ρ h .brk .brk
  | cont : FlR C ρ h .cont .cont
  | ret {x : AV} {v : Value} (a : VR C ρ h x v) : FlR C ρ h (.ret x) (.ret v)
noncomputable def DenS (C : Cfg) (d : Nat) (env : Env) (vars : List Str) (st : Stmt) (f : SM) : Prop :=
  ∀ lc σ fl lc' σ', f lc σ = some (fl, lc', σ') → ∀ (A : Around) (Q : Flow → Shared → Prop) (E : Value → Shared → Prop) (s : Shared) (ρ : Rho), AOk d A → Rel C ρ σ s → LcR C ρ s.heap env.locals vars lc →
    (∀ w s' ρ', Rel C ρ' σ' s' → Step C [env.locals] ρ ρ' s.heap s'.heap → LcR C ρ' s'.heap env.locals vars lc' → FlR C ρ' s'.heap fl w → Q w s') → wpAny (model C.prog C.w) A (exec st env) Q E s
noncomputable def DenB (C : Cfg) (d : Nat) (env : Env) (vars : List Str) (b : List Stmt) (f : SM) : Prop :=
  ∀ lc σ fl lc' σ', f lc σ = some (fl, lc', σ') → ∀ (A : Around) (Q : Flow → Shared → Prop) (E : Value → Shared → Prop) (s : Shared) (ρ : Rho), AOk d A → Rel C ρ σ s → LcR C ρ s.heap env.locals vars lc →
    (∀ w s' ρ', Rel C ρ' σ' s' → Step C [env.locals] ρ ρ' s.heap s'.heap → LcR C ρ' s'.heap env.locals vars lc' → FlR C ρ' s'.heap fl w → Q w s') → wpAny (model C.prog C.w) A (execs b env) Q E s
section
variable {C : Cfg} {d : Nat} {env : Env} {vars : List Str} {ρ ρ' : Rho} {h h' : Heap} {L : Addr} {lc : Lc}
set_option tactic.hygienic false in
theorem AOk.mono {d' : Nat} {A : Around} (a : AOk d A) (h : d' ≤ d) : AOk d' A := ⟨a.1, by have := a.2.1; (first | lia | omega), by have := a.2.2; (first | lia | omega)⟩
set_option tactic.hygienic false in
theorem LcR.go (S : Step C [] ρ ρ' h h') (q : LcR C ρ h L vars lc) : LcR C ρ' h' L vars lc := by
  obtain ⟨⟨m, hn, hv⟩, hm, hl, hz⟩ := q
  refine ⟨⟨m, hn.at fun o e => S.keep _ _ e hm (by simp), fun i x e => ?_⟩, Mut.grow S hn.lt hm, hl, hz⟩
  (refine x2_3 (hv i x e) fun n v a b c => ?_)
  exact ⟨n, v, a, b, c.go S⟩
set_option tactic.hygienic false in
theorem DenE.mono {d' : Nat} {e : Expr} {f : EM} (D : DenE C d' env vars e f) (h : d' ≤ d) : DenE C d env vars e f :=
  fun lc σ x σ' hf A Q E s ρ hA R l k => D lc σ x σ' hf A Q E s ρ (hA.mono h) R l k
end
section
variable {C : Cfg} {ρ : Rho} {h : Heap} {v : Value}
set_option tactic.hygienic false in
@[elab_as_elim] theorem VR.none_e {P : Value → Prop} (q : VR C ρ h .none v) (k : P .none) : P v := by cases q; exact k
set_option tactic.hygienic false in
@[elab_as_elim] theorem VR.bool_e {P : Value → Prop} {b : Bool} (q : VR C ρ h (.bool b) v) (k : P (.bool b)) : P v := by cases q; exact k
set_option tactic.hygienic false in
@[elab_as_elim] theorem VR.int_e {P : Value → Prop} {i : Int} (q : VR C ρ h (.int i) v) (k : ∀ t, P (.int i t)) : P v := by cases q with | int _ t => exact k t
set_option tactic.hygienic false in
@[elab_as_elim] theorem VR.str_e {P : Value → Prop} {x : Str} (q : VR C ρ h (.str x) v) (k : ∀ t, PyData.strOk x = true → P (.str x t)) : P v := by cases q with | str _ t ok => exact k t ok
set_option tactic.hygienic false in
@[elab_as_elim] theorem VR.loc_e {P : Value → Prop} {l : Nat} (q : VR C ρ h (.loc l) v) (k : ∀ p, ρ[l]? = some p → P (.ref p.1)) : P v := by cases q with | loc e => exact k _ e
set_option tactic.hygienic false in
@[elab_as_elim] theorem VR.tup_e {P : Value → Prop} {xs : List AV} (q : VR C ρ h (.tup xs) v) (k : ∀ a vs n, h.get? a = some (tupObj vs n) → ¬ Mut C ρ a → VRs C ρ h xs vs → P (.ref a)) : P v := by cases q with | tup ho hm hs => exact k _ _ _ ho hm hs
set_option tactic.hygienic false in
@[elab_as_elim] theorem VRs.nil_e {P : List Value → Prop} {vs : List Value} (q : VRs C ρ h [] vs) (k : P []) : P vs := by cases q; exact k
set_option tactic.hygienic false in
@[elab_as_elim] theorem VRs.cons_e {P : List Value → Prop} {x : AV} {xs : List AV} {vs : List Value} (q : VRs C ρ h (x :: xs) vs) (k : ∀ w ws, VR C ρ h x w → VRs C ρ h xs ws → P (w :: ws)) : P vs := by cases q with | cons a b => exact k _ _ a b
set_option tactic.hygienic false in
theorem VR.int_inv {i : Int} (q : VR C ρ h (.int i) v) : ∃ t, v = .int i t := q.int_e fun t => ⟨t, rfl⟩
set_option tactic.hygienic false in
theorem VR.str_inv {x : Str} (q : VR C ρ h (.str x) v) : ∃ t, v = .str x t ∧ PyData.strOk x = true := q.str_e fun t ok => ⟨t, rfl, ok⟩
set_option tactic.hygienic false in
theorem VR.loc_inv {l : Nat} (q : VR C ρ h (.loc l) v) : ∃ p, ρ[l]? = some p ∧ v = .ref p.1 := q.loc_e fun p e => ⟨p, e, rfl⟩
set_option tactic.hygienic false in
theorem VRs.nil_inv {vs : List Value} (q : VRs C ρ h [] vs) : vs = [] := by cases q; rfl
set_option tactic.hygienic false in
theorem VRs.cons_inv {x : AV} {xs : List AV} {vs : List Value} (q : VRs C ρ h (x :: xs) vs) : ∃ w ws, vs = w :: ws ∧ VR C ρ h x w ∧ VRs C ρ h xs ws := q.cons_e fun w ws a b => ⟨w, ws, rfl, a, b⟩
end
end Mine.Internal
end
section
open PySem PySem.W PyProof.Rows PySem.Calls
namespace Mine.Internal
section
variable {C : Cfg} {ρ ρ' : Rho} {σ σ' : St} {s s' : Shared}
set_option tactic.hygienic false in
theorem EntR.go {h h' : Heap} (S : Step C [] ρ ρ' h h') : ∀ {r : List (Str × AV)} {es : List DictEntry}, EntR C ρ h r es → EntR C ρ' h' r es := fun q => q.rec (motive := fun r es uu => EntR C ρ' h' r es) .nil fun a uu ih => .cons (a.go S) ih
set_option tactic.hygienic false in
theorem ObjR.same {h h' : Heap} (k : ∀ b o, h.get? b = some o → h'.get? b = some o) (z : h.objs.size ≤ h'.objs.size) {p : Addr × Addr} {o : AO} (q : ObjR C ρ h p o) : ObjR C ρ h' p o := by
  have S : Step C [] ρ ρ h h' := .same k z
  cases q with
  | list ho hs => exact .list (k _ _ ho) (hs.go S)
  | fmt ho hd he => exact .fmt (k _ _ ho) (k _ _ hd) (he.go S)
  | acc ho hd he hs => exact .acc (k _ _ ho) (k _ _ hd) (he.go S) (hs.go S)
  | ghost ho => exact .ghost (k _ _ ho)
  | out ho => exact .out (k _ _ ho)
  | gen ho hL => exact .gen (k _ _ ho) (hL.keep (k _))
set_option tactic.hygienic false in
theorem Rel.same (R : Rel C ρ σ s) (k : ∀ b o, s.heap.get? b = some o → s'.heap.get? b = some o) (z : s.heap.objs.size ≤ s'.heap.objs.size) (hg : GR C ρ σ s.heap s'.gens) (hd : s'.drawn = s.drawn) (ho : s'.os = s.os) : Rel C ρ σ s' where
  old b o e n := k b o (R.old b o e n)
  tab t ht := let ⟨m, a, b⟩ := R.tab t ht; ⟨m, a.keeps k, b.keeps k⟩
  lo := R.lo
  dis := R.dis
  len := R.len
  st l p o e e' := (R.st l p o e e').same k z
  gens := hg.heap fun uu uu uu uu uu uu o e => k _ o e
  drawn := hd.trans R.drawn
  os := ho.trans R.os
  size := Nat.le_trans R.size z
set_option tactic.hygienic false in
theorem Rel.toks (R : Rel C ρ σ s) {n : Nat} : Rel C ρ σ { s with toks := n } := R.same (fun uu uu e => e) (Nat.le_refl _) R.gens rfl rfl
set_option tactic.hygienic false in
theorem Rel.push (R : Rel C ρ σ s) (o : Obj) {n : Nat} : Rel C ρ σ { s with heap := s.heap.push o, toks := n } :=
  R.same (fun uu uu e => Heap.get?_push_of_some _ e) (by show _ ≤ (s.heap.push o).objs.size; rw [Heap.size_push]; (first | lia | omega)) R.gens rfl rfl
set_option tactic.hygienic false in
theorem Rel.fresh (R : Rel C ρ σ s) : ¬ Mut C ρ s.heap.objs.size := by
  rintro (t | ⟨p, hp, e⟩)
  · (refine x1_2 (List.mem_map.mp t) fun x hx e => ?_)
    (refine x1_3 (R.tab x hx) fun m uu uu ht => ?_)
    have := Heap.lt_size ht
    rw [e] at this
    exact Nat.lt_irrefl _ this
  · obtain ⟨l, hl, rfl⟩ := List.mem_iff_getElem.mp hp
    have q : l < σ.length := R.len ▸ hl
    have z := R.st l ρ[l] σ[l] (List.getElem?_eq_getElem hl) (List.getElem?_eq_getElem q)
    generalize ρ[l] = p at z e
    generalize σ[l] = o at z
    have : ∀ {a : Addr} {o : Obj}, s.heap.get? a = some o → a ≠ s.heap.objs.size := fun e z => by have := Heap.lt_size e; rw [z] at this; exact Nat.lt_irrefl _ this
    cases z with
    | list ho _ => rcases e with e | e <;> exact this ho e
    | fmt ho hd _ => rcases e with e | e; exact this ho e; exact this hd e
    | acc ho hd _ _ => rcases e with e | e; exact this ho e; exact this hd e
    | ghost ho => rcases e with e | e <;> exact this ho e
    | out ho => rcases e with e | e <;> exact this ho e
    | gen ho hL =>
      obtain ⟨mm, q, ⟨o, es, ep, hn, _⟩, _⟩ := hL.self
      rcases e with e | e; exact this ho e; exact this hn e
end
noncomputable def cE (x : AV) : EM := fun _ σ => some (x, σ)
noncomputable def nE (i : Nat) : EM := fun lc σ => match lc[i]? with | some (some x) => some (x, σ) | _ => none
section
variable {C : Cfg} {d : Nat} {env : Env} {vars : List Str}
set_option tactic.hygienic false in
theorem den_int {i : Int} {k : Nat} {p : Pos} : DenE C d env vars (.Constant (.int i) k p) (cE (.int i)) := by
  intro lc σ x σ' hf A Q E s ρ hA R l kk
  (refine c2 hf fun hh0 hh1 => ?_; clear hf; subst hh0; subst hh1)
  exact wpAny_Constant_int (kk _ _ ρ R.toks .refl (.int _ _))
set_option tactic.hygienic false in
theorem den_str {x : Str} {k : Nat} {p : Pos} (ok : PyData.strOk x = true) : DenE C d env vars (.Constant (.str x) k p) (cE (.str x)) := by
  intro lc σ x σ' hf A Q E s ρ hA R l kk
  (refine c2 hf fun hh0 hh1 => ?_; clear hf; subst hh0; subst hh1)
  exact wpAny_Constant_str (kk _ _ ρ R.toks .refl (.str _ _ ok))
set_option tactic.hygienic false in
theorem den_bool {b : Bool} {k : Nat} {p : Pos} : DenE C d env vars (.Constant (.bool b) k p) (cE (.bool b)) := by
  intro lc σ x σ' hf A Q E s ρ hA R l kk
  (refine c2 hf fun hh0 hh1 => ?_; clear hf; subst hh0; subst hh1)
  exact wpAny_Constant_bool (kk _ _ ρ R .refl (.bool _))
set_option tactic.hygienic false in
theorem den_none {k : Nat} {p : Pos} : DenE C d env vars (.Constant .none k p) (cE .none) := by
  intro lc σ x σ' hf A Q E s ρ hA R l kk
  (refine c2 hf fun hh0 hh1 => ?_; clear hf; subst hh0; subst hh1)
  exact wpAny_Constant_none (kk _ _ ρ R .refl .none)
set_option tactic.hygienic false in
theorem nE_some {i : Nat} {lc : Lc} {σ σ' : St} {x : AV} (h : nE i lc σ = some (x, σ')) : lc[i]? = some (some x) ∧ σ' = σ := by
  unfold nE at h
  split at h
  · cases h; exact ⟨‹_›, rfl⟩
  · exact ns h
set_option tactic.hygienic false in
theorem load_name (H : EnvOk env vars) {i : Nat} {n : Str} (hi : vars[i]? = some n) {lc : Lc} {x : AV} (hx : lc[i]? = some (some x)) {A : Around} {Q : Value → Shared → Prop} {E : Value → Shared → Prop} {s : Shared} {ρ : Rho} (l : LcR C ρ s.heap env.locals vars lc)
    (k : ∀ v, VR C ρ s.heap x v → Q v s) : wpAny (model C.prog C.w) A (loadName env n) Q E s := by
  obtain ⟨⟨m, hn, hv⟩, _⟩ := l
  (refine x2_3 (hv i x hx) fun n' v a b c => ?_)
  rw [hi] at a
  (refine c1 a fun hh0 => ?_; clear a; subst hh0)
  exact wpAny_loadName_local H.kind (H.loc n (List.mem_of_getElem? hi)) hn b (k v c)
set_option tactic.hygienic false in
theorem den_name (H : EnvOk env vars) {n : Str} {i : Nat} {p : Pos} (hi : vars[i]? = some n) (hd : (n == ("__debug__" : Str)) = false) : DenE C d env vars (.Name n p) (nE i) := by
  intro lc σ x σ' hf A Q E s ρ hA R l kk
  (refine x0_2 (nE_some hf) fun hx rr1 => ?_; subst rr1)
  exact wpAny_Name (load_name H hi hx l fun v q => kk v s ρ R .refl q) hd
end
noncomputable def asList (σ : St) : AV → Option (List AV)
  | .lst xs => some xs
  | .loc l => match σ[l]? with | some (.list xs) => some xs | _ => none
  | _ => none
section
variable {C : Cfg} {ρ : Rho} {σ : St} {s : Shared}
set_option tactic.hygienic false in
theorem Rel.obj (R : Rel C ρ σ s) {l : Nat} {o : AO} (e : σ[l]? = some o) : ∃ p, ρ[l]? = some p ∧ ObjR C ρ s.heap p o := by
  have q : l < ρ.length := R.len ▸ (List.getElem?_eq_some_iff.mp e).1
  exact ⟨ρ[l], List.getElem?_eq_getElem q, R.st l _ o (List.getElem?_eq_getElem q) e⟩
set_option tactic.hygienic false in
theorem asList_rel (R : Rel C ρ σ s) {x : AV} {xs : List AV} {v : Value} (q : VR C ρ s.heap x v) (h : asList σ x = some xs) : ∃ a vs n, v = .ref a ∧ s.heap.get? a = some (lstObj vs n) ∧ VRs C ρ s.heap xs vs := by
  cases q with
  | lst ho hm hs => cases h; exact ⟨_, _, _, rfl, ho, hs⟩
  | @loc l p e =>
    unfold asList at h
    dsimp only at h
    (refine sq h ?_; clear h; intro uu e' h)
    (refine c1 h fun hh0 => ?_; clear h; subst hh0)
    (refine x1_2 (R.obj e') fun p' e1 ob => ?_)
    rw [e] at e1
    (refine c1 e1 fun hh0 => ?_; clear e1; subst hh0)
    cases ob with
    | list ho hs => exact ⟨_, _, _, rfl, ho, hs⟩
  | _ => cases h
end
noncomputable def twoI (a b : AV) (f : Int → Int → Option AV) : Option AV := match a, b with
  | .int x, .int y => f x y
  | _, _ => none
noncomputable def aadd (σ : St) (a b : AV) : Option AV := match a, b with
  | .int x, .int y => some (.int (x + y))
  | .str x, .str y => if x.length + y.length ≤ sizeLine then some (.str (x ++ y)) else none
  | x, y => match asList σ x, asList σ y with
    | some xs, some ys => if xs.length + ys.length ≤ sizeLine then some (.lst (xs ++ ys)) else none
    | _, _ => none
noncomputable def amul (a b : AV) : Option AV := match a, b with
  | .int x, .int y => if x < 1000000 ∧ -1000000 < x then some (.int (x * y)) else none
  | .str x, .int n => if x.length * n.toNat ≤ 1000000 ∧ n < 1000000 ∧ -1000000 < n then some (.str (Txt.mul x n)) else none
  | _, _ => none
noncomputable def abin (σ : St) (op : Operator) (a b : AV) : Option AV := match op with
  | .Add => aadd σ a b
  | .Sub => twoI a b fun x y => some (.int (x - y))
  | .Mod => twoI a b fun x y => if y = 0 then none else some (.int (x.fmod y))
  | .FloorDiv => twoI a b fun x y => if 0 < y ∧ y < 1000000 then some (.int (x.fdiv y)) else none
  | .Mult => amul a b
  | _ => none
set_option tactic.hygienic false in
theorem twoI_some {a b r : AV} {f : Int → Int → Option AV} (h : twoI a b f = some r) : ∃ x y, a = .int x ∧ b = .int y ∧ f x y = some r := by
  unfold twoI at h
  split at h
  · exact ⟨_, _, rfl, rfl, h⟩
  · exact ns h
theorem noPyl {x c : Int} (h : c.natAbs < 2 ^ 31) : Builtin.divisionGoesByPylong x c = false := by
  unfold Builtin.divisionGoesByPylong
  refine Bool.and_eq_false_iff.mpr (.inl (decide_eq_false ?_))
  dsimp only
  split
  · decide
  · rename_i hc
    have z : c.natAbs ≠ 0 := fun z => hc (by rw [Int.natAbs_eq_zero.mp z]; rfl)
    exact Nat.not_lt.mpr (Nat.le_trans (Nat.succ_le_succ (Nat.le_trans (Nat.div_le_self _ _) (Nat.le_of_lt_succ ((Nat.log2_lt z).mpr h)))) (by decide))
set_option tactic.hygienic false in
theorem noPylong {a b : Int} (h : 0 < b ∧ b < 1000000) : Builtin.divisionGoesByPylong a b = false := noPyl (by (first | lia | omega))
set_option tactic.hygienic false in
theorem mulOk_of {x : Str} {n : Int} (h : x.length * n.toNat ≤ 1000000 ∧ n < 1000000 ∧ -1000000 < n) : MulOk x n := by
  (refine x0_3 (h) fun h1 h2 h3 => ?_; clear h)
  refine ⟨?_, fun hn hx => ?_, fun hn hx => ?_⟩
  · rw [Bool.or_eq_false_iff, decide_eq_false_iff_not, decide_eq_false_iff_not]; (first | lia | omega)
  · have hl : x.length ≤ 1000000 := by
      have : 1 ≤ n.toNat := by (first | lia | omega)
      calc x.length = x.length * 1 := by (first | lia | omega)
        _ ≤ x.length * n.toNat := Nat.mul_le_mul_left _ this
        _ ≤ _ := h1
    have : (9223372036854 : Int) ≤ (2 ^ 63 - 1) / n := by
      rw [Int.le_ediv_iff_mul_le (by (first | lia | omega))]
      (first | lia | omega)
    (first | lia | omega)
  · unfold Builtin.Str.tooLong
    exact decide_eq_false (by rw [sizeLine_eq]; (first | lia | omega))
set_option tactic.hygienic false in
theorem strOk_iff {x : Str} : PyData.strOk x = true ↔ ∀ c ∈ x.cps.toList, c < 0x110000 := by
  unfold PyData.strOk
  rw [← Array.all_toList, List.all_eq_true]
  simp
set_option tactic.hygienic false in
theorem strOk_append {x y : Str} (a : PyData.strOk x = true) (b : PyData.strOk y = true) : PyData.strOk (x ++ y) = true := by
  rw [strOk_iff] at *
  intro c hc
  rw [Str.cps_append, Array.toList_append] at hc
  rcases List.mem_append.mp hc with h | h
  · exact a c h
  · exact b c h
set_option tactic.hygienic false in
theorem foldl_mem {x : Array Nat} {c : Nat} : ∀ (n : Nat) (acc : Array Nat), c ∈ (List.foldl (fun x1 x2 => x1 ++ x2) acc (List.replicate n x)).toList → c ∈ acc.toList ∨ c ∈ x.toList
  | 0, acc, h => .inl h
  | n + 1, acc, h => by
    rw [List.replicate_succ, List.foldl_cons] at h
    rcases foldl_mem n _ h with h | h
    · rw [Array.toList_append] at h
      exact List.mem_append.mp h
    · exact .inr h
set_option tactic.hygienic false in
theorem strOk_mul {x : Str} {n : Int} (a : PyData.strOk x = true) : PyData.strOk (Txt.mul x n) = true := by
  unfold Txt.mul
  split
  · decide +kernel
  · split
    · exact a
    · rw [strOk_iff] at *
      intro c hc
      rcases foldl_mem _ _ hc with h | h
      · simp at h
      · exact a c h
theorem abin_rel {C : Cfg} {ρ : Rho} {σ : St} {s : Shared} {A : Around} {Q : Value → Shared → Prop} {E : Value → Shared → Prop} {op : Operator} {a b x : AV} {va vb : Value} (R : Rel C ρ σ s) (qa : VR C ρ s.heap a va) (qb : VR C ρ s.heap b vb) (h : abin σ op a b = some x)
    (k : ∀ v s', Rel C ρ σ s' → Step C [] ρ ρ s.heap s'.heap → VR C ρ s'.heap x v → Q v s') : wpAny (model C.prog C.w) A (binaryOp op va vb) Q E s := by
  cases op with
  | Add =>
    have h : aadd σ a b = some x := h
    unfold aadd at h
    split at h
    · cases h; exact qa.int_e fun uu => qb.int_e fun uu => add_int (k _ _ R.toks .refl (.int _ _))
    · split at h
      · rename_i hh; cases h; exact qa.str_e fun uu o1 => qb.str_e fun uu o2 => add_str (fun t tk => k _ _ R.toks .refl (.str _ _ (strOk_append o1 o2))) hh
      · exact ns h
    · split at h
      · rename_i xs ys e1 e2
        (refine sf h ?_; clear h; intro hh h)
        (refine c1 h fun hh0 => ?_; clear h; subst hh0)
        (refine x3_3 (asList_rel R qa e1) fun p vs n rr3 ho hs => ?_; subst rr3)
        (refine x3_3 (asList_rel R qb e2) fun p' vs' n' rr3 ho' hs' => ?_; subst rr3)
        refine P.add_list ho ho' ?_ (by rw [List.size_toArray, List.size_toArray, hs.length, hs'.length]; exact hh)
        have S : Step C [] ρ ρ s.heap (s.heap.push { cls := .type "list", data := .seq (vs.toArray ++ vs'.toArray) }) := .pushObj _
        refine k _ _ (R.push _ (n := s.toks)) S (.lst (vs := vs ++ vs') (n := 0) ?_ R.fresh ((hs.append hs').go S))
        show (s.heap.push _).get? _ = _
        rw [Heap.get?_push_size _ rfl]
        simp
      · cases h
  | Sub => (refine x2_3 (twoI_some h) fun uu uu rr2 rr3 h' => ?_; subst rr2; subst rr3); cases h'; exact qa.int_e fun uu => qb.int_e fun uu => sub_int (k _ _ R.toks .refl (.int _ _))
  | Mod =>
    (refine x2_3 (twoI_some h) fun uu uu rr2 rr3 h' => ?_; subst rr2; subst rr3)
    clear h
    have h := h'
    clear h'
    split at h
    · exact ns h
    · rename_i hh; cases h; exact qa.int_e fun uu => qb.int_e fun uu => mod_int' hh (k _ _ R.toks .refl (.int _ _))
  | FloorDiv =>
    (refine x2_3 (twoI_some h) fun uu uu rr2 rr3 h' => ?_; subst rr2; subst rr3)
    clear h
    have h := h'
    clear h'
    split at h
    · rename_i hh; cases h; exact qa.int_e fun uu => qb.int_e fun uu => floordiv_int (by (first | lia | omega)) (k _ _ R.toks .refl (.int _ _)) (.inl (noPylong hh))
    · cases h
  | Mult =>
    have h : amul a b = some x := h
    unfold amul at h
    split at h
    · split at h
      · rename_i hh; cases h; exact qa.int_e fun uu => qb.int_e fun uu => mul_int (k _ _ R.toks .refl (.int _ _)) (IntMulOk.of_left (intBits_le_64 (by (first | lia | omega)) (by (first | lia | omega))))
      · exact ns h
    · split at h
      · rename_i hh; cases h; exact qa.str_e fun uu o1 => qb.int_e fun uu => SB.mul (mulOk_of hh) fun t tk => k _ _ R.toks .refl (.str _ _ (strOk_mul o1))
      · exact ns h
    · cases h
  | _ => cases h
noncomputable def binE (op : Operator) (f g : EM) : EM := fun lc σ => match f lc σ with
  | some (a, σ₁) => match g lc σ₁ with
    | some (b, σ₂) => (abin σ₂ op a b).map (·, σ₂)
    | none => none
  | none => none
set_option tactic.hygienic false in
theorem den_bin {C : Cfg} {d : Nat} {env : Env} {vars : List Str} {l r : Expr} {op : Operator} {p : Pos} {f g : EM} (D1 : DenE C d env vars l f) (D2 : DenE C d env vars r g) : DenE C d env vars (.BinOp l op r p) (binE op f g) := by
  intro lc σ x σ' hf A Q E s ρ hA R lr kk
  unfold binE at hf
  (refine s1 hf ?_; clear hf; intro a σ₁ e1 hf)
  (refine s1 hf ?_; clear hf; intro b σ₂ e2 hf)
  (refine x1_2 (Option.map_eq_some_iff.mp hf) fun y hy e => ?_)
  (refine p2 e fun hh0 hh1 => ?_; clear e; subst hh0; subst hh1)
  refine wpAny_BinOp (D1 _ _ _ _ e1 A _ E s ρ hA R lr fun va s₁ ρ₁ R₁ S₁ q₁ => D2 _ _ _ _ e2 A _ E s₁ ρ₁ hA R₁ (lr.go S₁) fun vb s₂ ρ₂ R₂ S₂ q₂ => ?_)
  exact abin_rel R₂ (q₁.go S₂) q₂ hy fun v s₃ R₃ S₃ q₃ => kk v s₃ ρ₂ R₃ ((S₁.trans S₂).trans S₃) q₃
end Mine.Internal
end
section
open PySem PySem.W PyProof.Rows PySem.Calls
namespace Mine.Internal
noncomputable def optAll {α β : Type} (f : α → Option β) : List α → Option (List β)
  | [] => some []
  | x :: xs => match f x, optAll f xs with
    | some y, some ys => some (y :: ys)
    | _, _ => none
noncomputable def toPD (σ : St) : Nat → AV → Option PyData
  | _, .none => some .none
  | _, .bool b => some (.bool b)
  | _, .int i => some (.int i)
  | _, .str x => some (.str x)
  | n + 1, .tup xs => (optAll (toPD σ n) xs).map .tuple
  | n + 1, .lst xs => (optAll (toPD σ n) xs).map .list
  | n + 1, .loc l => match σ[l]? with
    | some (.list xs) => (optAll (toPD σ n) xs).map .list
    | _ => none
  | 0, .tup _ => none
  | 0, .lst _ => none
  | 0, .loc _ => none
section
variable {C : Cfg} {ρ : Rho} {σ : St} {s : Shared}
set_option tactic.hygienic false in
theorem canLayAll_cons {x : PyData} {xs : List PyData} : PyData.canLayAll0 (x :: xs) = (x.canLay0 && PyData.canLayAll0 xs) := by rw [PyData.canLayAll0]
theorem toPD_all {n : Nat} (ih : ∀ {x : AV} {d : PyData} {v : Value}, VR C ρ s.heap x v → toPD σ n x = some d → (∃ as, Reads s.heap v d as) ∧ d.canLay0 = true ∧ d.depth ≤ n) :
    ∀ {xs : List AV} {ds : List PyData} {vs : List Value}, VRs C ρ s.heap xs vs → optAll (toPD σ n) xs = some ds → (∃ as, ReadsAll s.heap vs ds as) ∧ PyData.canLayAll0 ds = true ∧ PyData.depthAll ds ≤ n := fun q e =>
  q.ind (P := fun xs vs => ∀ ds, optAll (toPD σ n) xs = some ds → (∃ as, ReadsAll s.heap vs ds as) ∧ PyData.canLayAll0 ds = true ∧ PyData.depthAll ds ≤ n) (fun ds e => by cases e; exact ⟨⟨_, .nil⟩, by rw [PyData.canLayAll0], by rw [PyData.depthAll]; (first | lia | omega)⟩) (fun a uu ihs ds h => by
    unfold optAll at h
    split at h
    · rename_i y ys e1 e2
      (refine c1 h fun hh0 => ?_; clear h; subst hh0)
      obtain ⟨⟨as, r1⟩, c1, d1⟩ := ih a e1
      obtain ⟨⟨bs, r2⟩, c2, d2⟩ := ihs ys e2
      refine ⟨⟨_, .cons r1 r2⟩, by rw [canLayAll_cons, c1, c2]; rfl, ?_⟩
      rw [PyData.depthAll]
      (first | lia | omega)
    · cases h) _ e
set_option tactic.hygienic false in
theorem toPD_rel (R : Rel C ρ σ s) : ∀ {n : Nat} {x : AV} {d : PyData} {v : Value}, VR C ρ s.heap x v → toPD σ n x = some d → (∃ as, Reads s.heap v d as) ∧ d.canLay0 = true ∧ d.depth ≤ n := by
  intro n
  induction n with
  | zero =>
    intro x d v q h
    cases q with
    | none => cases h; exact ⟨⟨_, .none⟩, rfl, by simp [PyData.depth]⟩
    | bool b => cases h; exact ⟨⟨_, .bool _⟩, rfl, by simp [PyData.depth]⟩
    | int i t => cases h; exact ⟨⟨_, .int _ _⟩, rfl, by simp [PyData.depth]⟩
    | str x t ok => cases h; exact ⟨⟨_, .str _ _⟩, by rw [PyData.canLay0]; exact ok, by simp [PyData.depth]⟩
    | tup => cases h
    | lst => cases h
    | loc => cases h
  | succ n ih =>
    intro x d v q h
    cases q with
    | none => cases h; exact ⟨⟨_, .none⟩, rfl, by simp [PyData.depth]⟩
    | bool b => cases h; exact ⟨⟨_, .bool _⟩, rfl, by simp [PyData.depth]⟩
    | int i t => cases h; exact ⟨⟨_, .int _ _⟩, rfl, by simp [PyData.depth]⟩
    | str x t ok => cases h; exact ⟨⟨_, .str _ _⟩, by rw [PyData.canLay0]; exact ok, by simp [PyData.depth]⟩
    | tup ho hm hs =>
      (refine x1_2 (Option.map_eq_some_iff.mp h) fun ds e rr2 => ?_; subst rr2)
      obtain ⟨⟨as, r⟩, c, dd⟩ := toPD_all ih hs e
      exact ⟨⟨_, .tuple ho rfl rfl r⟩, by rw [PyData.canLay0]; exact c, by rw [PyData.depth]; (first | lia | omega)⟩
    | lst ho hm hs =>
      (refine x1_2 (Option.map_eq_some_iff.mp h) fun ds e rr2 => ?_; subst rr2)
      obtain ⟨⟨as, r⟩, c, dd⟩ := toPD_all ih hs e
      exact ⟨⟨_, .list ho rfl rfl r⟩, by rw [PyData.canLay0]; exact c, by rw [PyData.depth]; (first | lia | omega)⟩
    | @loc l p e0 =>
      unfold toPD at h
      (refine sq h ?_; clear h; intro xs e' h)
      (refine x1_2 (Option.map_eq_some_iff.mp h) fun ds e rr2 => ?_; subst rr2)
      (refine x1_2 (R.obj e') fun p' e1 ob => ?_)
      rw [e0] at e1
      (refine c1 e1 fun hh0 => ?_; clear e1; subst hh0)
      cases ob with
      | list ho hs =>
        obtain ⟨⟨as, r⟩, c, dd⟩ := toPD_all ih hs e
        exact ⟨⟨_, .list ho rfl rfl r⟩, by rw [PyData.canLay0]; exact c, by rw [PyData.depth]; (first | lia | omega)⟩
end
noncomputable def aeqv (σ : St) (a b : AV) : Option Bool := match toPD σ 4 a, toPD σ 4 b with
  | some x, some y => some (PyData.eqv x y)
  | _, _ => none
noncomputable def isNone : AV → Bool
  | .none => true
  | _ => false
noncomputable def twoInts (a b : AV) (f : Int → Int → Bool) : Option Bool := match a, b with
  | .int x, .int y => some (f x y)
  | _, _ => none
noncomputable def acmp (σ : St) (op : CmpOp) (a b : AV) : Option Bool := match op with
  | .Eq => aeqv σ a b
  | .NotEq => (aeqv σ a b).map not
  | .Lt => twoInts a b fun x y => decide (x < y)
  | .LtE => twoInts a b fun x y => decide (x ≤ y)
  | .Gt => twoInts a b fun x y => decide (y < x)
  | .GtE => twoInts a b fun x y => decide (y ≤ x)
  | .Is => if isNone b then some (isNone a) else none
  | .IsNot => if isNone b then some (!isNone a) else none
  | _ => none
set_option tactic.hygienic false in
theorem twoInts_some {a b : AV} {f : Int → Int → Bool} {r : Bool} (h : twoInts a b f = some r) : ∃ x y, a = .int x ∧ b = .int y ∧ r = f x y := by
  unfold twoInts at h
  split at h
  · cases h; exact ⟨_, _, rfl, rfl, rfl⟩
  · exact ns h
set_option tactic.hygienic false in
theorem isNone_inv {a : AV} (h : isNone a = true) : a = .none := by cases a <;> first | rfl | cases h
set_option tactic.hygienic false in
theorem isNone_val {C : Cfg} {ρ : Rho} {h : Heap} {a : AV} {v : Value} (q : VR C ρ h a v) : (v == Value.none) = isNone a := by cases q <;> rfl
theorem aeqv_rel {C : Cfg} {ρ : Rho} {σ : St} {s : Shared} {a b : AV} {r : Bool} {va vb : Value} (R : Rel C ρ σ s) (qa : VR C ρ s.heap a va) (qb : VR C ρ s.heap b vb) (h : aeqv σ a b = some r) :
    ∃ y z as bs, Reads s.heap va y as ∧ Reads s.heap vb z bs ∧ y.canLay0 = true ∧ z.canLay0 = true ∧ y.depth ≤ 4 ∧ z.depth ≤ 4 ∧ r = PyData.eqv y z := by
  unfold aeqv at h
  split at h
  · rename_i y z e1 e2
    (refine c1 h fun hh0 => ?_; clear h; subst hh0)
    obtain ⟨⟨as, r⟩, c, dd⟩ := toPD_rel R qa e1
    obtain ⟨⟨bs, r'⟩, c', dd'⟩ := toPD_rel R qb e2
    exact ⟨y, z, as, bs, r, r', c, c', dd, dd', rfl⟩
  · exact ns h
set_option tactic.hygienic false in
theorem acmp_rel {C : Cfg} {ρ : Rho} {σ : St} {s : Shared} {A : Around} {Q : Value → Shared → Prop} {E : Value → Shared → Prop} {op : CmpOp} {a b : AV} {x : Bool} {va vb : Value} (hA : AOk 1 A) (R : Rel C ρ σ s) (qa : VR C ρ s.heap a va) (qb : VR C ρ s.heap b vb) (h : acmp σ op a b = some x)
    (k : Q (.bool x) s) : wpAny (model C.prog C.w) A (compareOp op va vb) Q E s := by
  have hu := hA.2.2
  cases op with
  | Eq =>
    (refine x4_7 (aeqv_rel R qa qb h) fun y z as bs r r' c c' dd dd' rr10 => ?_; subst rr10)
    exact SeqAt.compareEq_reads r r' c c' (by (first | lia | omega)) k
  | NotEq =>
    (refine x1_2 (Option.map_eq_some_iff.mp h) fun u hu' rr2 => ?_; subst rr2)
    (refine x4_7 (aeqv_rel R qa qb hu') fun y z as bs r r' c c' dd dd' rr10 => ?_; subst rr10)
    exact SeqAt.compareNe_reads r r' c c' (by (first | lia | omega)) k
  | Lt => (refine x2_3 (twoInts_some h) fun uu uu rr2 rr3 rr4 => ?_; subst rr2; subst rr3; subst rr4); exact qa.int_e fun uu => qb.int_e fun uu => lt_int k
  | LtE => (refine x2_3 (twoInts_some h) fun uu uu rr2 rr3 rr4 => ?_; subst rr2; subst rr3; subst rr4); exact qa.int_e fun uu => qb.int_e fun uu => le_int k
  | Gt => (refine x2_3 (twoInts_some h) fun uu uu rr2 rr3 rr4 => ?_; subst rr2; subst rr3; subst rr4); exact qa.int_e fun uu => qb.int_e fun uu => gt_int k
  | GtE => (refine x2_3 (twoInts_some h) fun uu uu rr2 rr3 rr4 => ?_; subst rr2; subst rr3; subst rr4); exact qa.int_e fun uu => qb.int_e fun uu => ge_int k
  | Is =>
    have h : (if isNone b then some (isNone a) else none) = some x := h
    (refine sf h ?_; clear h; intro hb h)
    (refine c1 h fun hh0 => ?_; clear h; subst hh0)
    obtain rfl := isNone_inv hb
    exact qb.none_e (is_none_gen (by rw [isNone_val qa]; exact k))
  | IsNot =>
    have h : (if isNone b then some (!isNone a) else none) = some x := h
    (refine sf h ?_; clear h; intro hb h)
    (refine c1 h fun hh0 => ?_; clear h; subst hh0)
    obtain rfl := isNone_inv hb
    exact qb.none_e (isnot_none_gen (by rw [isNone_val qa]; exact k))
  | _ => cases h
noncomputable def cmpT (op : CmpOp) (f g : EM) : TM := fun lc σ => match f lc σ with
  | some (a, σ₁) => match g lc σ₁ with
    | some (b, σ₂) => (acmp σ₂ op a b).map (·, σ₂)
    | none => none
  | none => none
noncomputable def tE (f : TM) : EM := fun lc σ => (f lc σ).map fun p => (.bool p.1, p.2)
section
variable {C : Cfg} {d : Nat} {env : Env} {vars : List Str} {l r : Expr} {p : Pos}
set_option tactic.hygienic false in
theorem cmpT_some {op : CmpOp} {f g : EM} {lc : Lc} {σ σ' : St} {x : Bool} (h : cmpT op f g lc σ = some (x, σ')) : ∃ a σ₁ b, f lc σ = some (a, σ₁) ∧ g lc σ₁ = some (b, σ') ∧ acmp σ' op a b = some x := by
  unfold cmpT at h
  (refine s1 h ?_; clear h; intro a σ₁ e1 h)
  (refine s1 h ?_; clear h; intro b σ₂ e2 h)
  (refine x1_2 (Option.map_eq_some_iff.mp h) fun y hy e => ?_)
  (refine p2 e fun hh0 hh1 => ?_; clear e; subst hh0; subst hh1)
  exact ⟨_, _, _, e1, e2, hy⟩
set_option tactic.hygienic false in
theorem den_cmp {op : CmpOp} {f g : EM} (D1 : DenE C (d + 1) env vars l f) (D2 : DenE C (d + 1) env vars r g) (hb : behindInMarks op r = false) : DenE C (d + 1) env vars (.Compare l [op] [r] p) (tE (cmpT op f g)) := by
  intro lc σ x σ' hf A Q E s ρ hA R lr kk
  obtain ⟨⟨y, σ''⟩, hy, e⟩ := Option.map_eq_some_iff.mp hf
  (refine p2 e fun hh0 hh1 => ?_; clear e; subst hh0; subst hh1)
  (refine x3_3 (cmpT_some hy) fun a σ₁ b e1 e2 e3 => ?_)
  refine wpAny_Compare1 (D1 _ _ _ _ e1 A _ E s ρ hA R lr fun va s₁ ρ₁ R₁ S₁ q₁ => D2 _ _ _ _ e2 A _ E s₁ ρ₁ hA R₁ (lr.go S₁) fun vb s₂ ρ₂ R₂ S₂ q₂ => ?_) hb
  exact acmp_rel (hA.mono (by (first | lia | omega))) R₂ (q₁.go S₂) q₂ e3 (kk _ s₂ ρ₂ R₂ (S₁.trans S₂) (.bool _))
set_option tactic.hygienic false in
theorem den_cmpT {op : CmpOp} {f g : EM} (D1 : DenE C (d + 1) env vars l f) (D2 : DenE C (d + 1) env vars r g) (hb : behindInMarks op r = false) : DenT C (d + 1) env vars (.Compare l [op] [r] p) (cmpT op f g) := by
  intro lc σ x σ' hf A Q E s ρ hA R lr kk
  (refine x3_3 (cmpT_some hf) fun a σ₁ b e1 e2 e3 => ?_)
  refine wpAny_isTrue_Compare1 (D1 _ _ _ _ e1 A _ E s ρ hA R lr fun va s₁ ρ₁ R₁ S₁ q₁ => D2 _ _ _ _ e2 A _ E s₁ ρ₁ hA R₁ (lr.go S₁) fun vb s₂ ρ₂ R₂ S₂ q₂ => ?_) hb
  exact acmp_rel (hA.mono (by (first | lia | omega))) R₂ (q₁.go S₂) q₂ e3 (wpAny_truthy_bool (kk s₂ ρ₂ R₂ (S₁.trans S₂)))
noncomputable def atruth (σ : St) : AV → Option Bool
  | .none => some false
  | .bool b => some b
  | .int i => some (i != 0)
  | .str x => if x.length ≤ sizeLine then some ((x.length : Int) != 0) else none
  | x => match asList σ x with
    | some xs => if xs.length ≤ sizeLine then some (!xs.isEmpty) else none
    | none => none
theorem atruth_rel {ρ : Rho} {σ : St} {s : Shared} {A : Around} {Q : Bool → Shared → Prop} {E : Value → Shared → Prop} {a : AV} {x : Bool} {va : Value} (R : Rel C ρ σ s) (qa : VR C ρ s.heap a va) (h : atruth σ a = some x)
    (k : ∀ s', Rel C ρ σ s' → Step C [] ρ ρ s.heap s'.heap → Q x s') : wpAny (model C.prog C.w) A (truthy va) Q E s := by
  have hz := sizeLine_eq
  unfold atruth at h
  split at h
  · cases h; exact qa.none_e (truthy_none (k _ R .refl))
  · cases h; exact qa.bool_e (wpAny_truthy_bool (k _ R .refl))
  · cases h; exact qa.int_e fun uu => P.truthy_int (k _ R .refl)
  · split at h
    · rename_i hh; cases h; exact qa.str_e fun uu uu => P.truthy_str (by (first | lia | omega)) (k _ R.toks .refl)
    · exact ns h
  · (refine sw h ?_; clear h; intro xs e1 h)
    (refine sf h ?_; clear h; intro uu h)
    (refine c1 h fun hh0 => ?_; clear h; subst hh0)
    (refine x3_3 (asList_rel R qa e1) fun p vs n rr3 ho hs => ?_; subst rr3)
    have e : (!xs.isEmpty) = !vs.toArray.isEmpty := by cases hs <;> simp
    refine wpAny_truthy_list (IsL.isList ho) (by rw [List.size_toArray, hs.length]; (first | lia | omega)) ?_
    rw [← e]
    exact k _ R.toks .refl
noncomputable def trT (f : EM) : TM := fun lc σ => match f lc σ with
  | some (a, σ₁) => (atruth σ₁ a).map (·, σ₁)
  | none => none
set_option tactic.hygienic false in
theorem den_truth {e : Expr} {f : EM} (D : DenE C d env vars e f) (hp : ∀ whole, isTrue e env whole = (do let v ← whole; standAt e.pos; holding [v] (truthy v))) : DenT C d env vars e (trT f) := by
  intro lc σ x σ' hf A Q E s ρ hA R lr kk
  unfold trT at hf
  (refine s1 hf ?_; clear hf; intro a σ₁ e1 hf)
  (refine x1_2 (Option.map_eq_some_iff.mp hf) fun y hy e2 => ?_)
  (refine p2 e2 fun hh0 hh1 => ?_; clear e2; subst hh0; subst hh1)
  refine wpAny_isTrue_value (D _ _ _ _ e1 A _ E s ρ hA R lr fun va s₁ ρ₁ R₁ S₁ q₁ => ?_) (hp _)
  exact atruth_rel R₁ q₁ hy fun s₂ R₂ S₂ => kk s₂ ρ₁ R₂ (S₁.trans S₂)
noncomputable def notT (f : TM) : TM := fun lc σ => (f lc σ).map fun p => (!p.1, p.2)
set_option tactic.hygienic false in
theorem den_notT {e : Expr} {f : TM} (D : DenT C d env vars e f) : DenT C d env vars (.UnaryOp .Not e p) (notT f) := by
  intro lc σ x σ' hf A Q E s ρ hA R lr kk
  obtain ⟨⟨y, σ''⟩, hy, e⟩ := Option.map_eq_some_iff.mp hf
  (refine p2 e fun hh0 hh1 => ?_; clear e; subst hh0; subst hh1)
  exact wpAny_isTrue_Not (D _ _ _ _ hy A _ E s ρ hA R lr fun s₁ ρ₁ R₁ S₁ => kk s₁ ρ₁ R₁ S₁)
noncomputable def andT : List TM → TM
  | [] => fun _ σ => some (true, σ)
  | f :: r => fun lc σ => match f lc σ with
    | some (true, σ₁) => andT r lc σ₁
    | some (false, σ₁) => some (false, σ₁)
    | none => none
noncomputable def orT : List TM → TM
  | [] => fun _ σ => some (false, σ)
  | f :: r => fun lc σ => match f lc σ with
    | some (false, σ₁) => orT r lc σ₁
    | some (true, σ₁) => some (true, σ₁)
    | none => none
inductive DenTs (C : Cfg) (d : Nat) (env : Env) (vars : List Str) : List Expr → List TM → Prop
  | nil : DenTs C d env vars [] []
  | cons {e : Expr} {f : TM} {es : List Expr} {fs : List TM} (a : DenT C d env vars e f) (b : DenTs C d env vars es fs) : DenTs C d env vars (e :: es) (f :: fs)
theorem den_andT {es : List Expr} {fs : List TM} (D : DenTs C d env vars es fs) : DenT C d env vars (.BoolOp .And es p) (andT fs) := by
  intro lc σ x σ' hf A Q E s ρ hA R lr kk
  refine wpAny_isTrue_BoolOp ?_
  induction D generalizing σ s ρ with
  | nil => cases hf; exact wpAny_allTrue_And_nil (kk s ρ R .refl)
  | cons a b ih =>
    unfold andT at hf
    split at hf
    · rename_i σ₁ e1
      exact wpAny_allTrue_And_cons (a _ _ _ _ e1 A _ E s ρ hA R lr fun s₁ ρ₁ R₁ S₁ => ih _ hf s₁ ρ₁ R₁ (lr.go S₁) fun s₂ ρ₂ R₂ S₂ => kk s₂ ρ₂ R₂ (S₁.trans S₂))
    · rename_i σ₁ e1
      (refine c2 hf fun hh0 hh1 => ?_; clear hf; subst hh0; subst hh1)
      exact wpAny_allTrue_And_cons (a _ _ _ _ e1 A _ E s ρ hA R lr fun s₁ ρ₁ R₁ S₁ => kk s₁ ρ₁ R₁ S₁)
    · exact ns hf
theorem den_orT {es : List Expr} {fs : List TM} (D : DenTs C d env vars es fs) : DenT C d env vars (.BoolOp .Or es p) (orT fs) := by
  intro lc σ x σ' hf A Q E s ρ hA R lr kk
  refine wpAny_isTrue_BoolOp ?_
  induction D generalizing σ s ρ with
  | nil => cases hf; exact wpAny_allTrue_Or_nil (kk s ρ R .refl)
  | cons a b ih =>
    unfold orT at hf
    split at hf
    · rename_i σ₁ e1
      exact wpAny_allTrue_Or_cons (a _ _ _ _ e1 A _ E s ρ hA R lr fun s₁ ρ₁ R₁ S₁ => ih _ hf s₁ ρ₁ R₁ (lr.go S₁) fun s₂ ρ₂ R₂ S₂ => kk s₂ ρ₂ R₂ (S₁.trans S₂))
    · rename_i σ₁ e1
      (refine c2 hf fun hh0 hh1 => ?_; clear hf; subst hh0; subst hh1)
      exact wpAny_allTrue_Or_cons (a _ _ _ _ e1 A _ E s ρ hA R lr fun s₁ ρ₁ R₁ S₁ => kk s₁ ρ₁ R₁ S₁)
    · exact ns hf
noncomputable def andE (f g : EM) : EM := fun lc σ => match f lc σ with
  | some (a, σ₁) => match atruth σ₁ a with
    | some true => g lc σ₁
    | some false => some (a, σ₁)
    | none => none
  | none => none
noncomputable def orE (f g : EM) : EM := fun lc σ => match f lc σ with
  | some (a, σ₁) => match atruth σ₁ a with
    | some false => g lc σ₁
    | some true => some (a, σ₁)
    | none => none
  | none => none
theorem den_andE {f g : EM} (D1 : DenE C d env vars l f) (D2 : DenE C d env vars r g) : DenE C d env vars (.BoolOp .And [l, r] p) (andE f g) := by
  intro lc σ x σ' hf A Q E s ρ hA R lr kk
  unfold andE at hf
  (refine s1 hf ?_; clear hf; intro a σ₁ e1 hf)
  split at hf
  · rename_i e2
    refine wpAny_And2 (D1 _ _ _ _ e1 A _ E s ρ hA R lr fun va s₁ ρ₁ R₁ S₁ q₁ => atruth_rel R₁ q₁ e2 fun s₂ R₂ S₂ => ?_)
    exact D2 _ _ _ _ hf A _ E s₂ ρ₁ hA R₂ (lr.go (S₁.trans S₂)) fun v s₃ ρ₃ R₃ S₃ q₃ => kk v s₃ ρ₃ R₃ ((S₁.trans S₂).trans S₃) q₃
  · rename_i e2
    (refine c2 hf fun hh0 hh1 => ?_; clear hf; subst hh0; subst hh1)
    exact wpAny_And2 (D1 _ _ _ _ e1 A _ E s ρ hA R lr fun va s₁ ρ₁ R₁ S₁ q₁ => atruth_rel R₁ q₁ e2 fun s₂ R₂ S₂ => kk va s₂ ρ₁ R₂ (S₁.trans S₂) (q₁.go S₂))
  · exact ns hf
theorem den_orE {f g : EM} (D1 : DenE C d env vars l f) (D2 : DenE C d env vars r g) : DenE C d env vars (.BoolOp .Or [l, r] p) (orE f g) := by
  intro lc σ x σ' hf A Q E s ρ hA R lr kk
  unfold orE at hf
  (refine s1 hf ?_; clear hf; intro a σ₁ e1 hf)
  split at hf
  · rename_i e2
    refine wpAny_Or2 (D1 _ _ _ _ e1 A _ E s ρ hA R lr fun va s₁ ρ₁ R₁ S₁ q₁ => atruth_rel R₁ q₁ e2 fun s₂ R₂ S₂ => ?_)
    exact D2 _ _ _ _ hf A _ E s₂ ρ₁ hA R₂ (lr.go (S₁.trans S₂)) fun v s₃ ρ₃ R₃ S₃ q₃ => kk v s₃ ρ₃ R₃ ((S₁.trans S₂).trans S₃) q₃
  · rename_i e2
    (refine c2 hf fun hh0 hh1 => ?_; clear hf; subst hh0; subst hh1)
    exact wpAny_Or2 (D1 _ _ _ _ e1 A _ E s ρ hA R lr fun va s₁ ρ₁ R₁ S₁ q₁ => atruth_rel R₁ q₁ e2 fun s₂ R₂ S₂ => kk va s₂ ρ₁ R₂ (S₁.trans S₂) (q₁.go S₂))
  · exact ns hf
noncomputable def iteE (t : TM) (f g : EM) : EM := fun lc σ => match t lc σ with
  | some (true, σ₁) => f lc σ₁
  | some (false, σ₁) => g lc σ₁
  | none => none
theorem den_ite {c : Expr} {t : TM} {f g : EM} (D0 : DenT C d env vars c t) (D1 : DenE C d env vars l f) (D2 : DenE C d env vars r g) : DenE C d env vars (.IfExp c l r p) (iteE t f g) := by
  intro lc σ x σ' hf A Q E s ρ hA R lr kk
  unfold iteE at hf
  split at hf
  · rename_i σ₁ e1
    exact wpAny_IfExp (D0 _ _ _ _ e1 A _ E s ρ hA R lr fun s₁ ρ₁ R₁ S₁ => D1 _ _ _ _ hf A _ E s₁ ρ₁ hA R₁ (lr.go S₁) fun v s₂ ρ₂ R₂ S₂ q₂ => kk v s₂ ρ₂ R₂ (S₁.trans S₂) q₂)
  · rename_i σ₁ e1
    exact wpAny_IfExp (D0 _ _ _ _ e1 A _ E s ρ hA R lr fun s₁ ρ₁ R₁ S₁ => D2 _ _ _ _ hf A _ E s₁ ρ₁ hA R₁ (lr.go S₁) fun v s₂ ρ₂ R₂ S₂ q₂ => kk v s₂ ρ₂ R₂ (S₁.trans S₂) q₂)
  · exact ns hf
end
end Mine.Internal
end
section
open PySem PySem.W PyProof.Rows PySem.Calls
namespace Mine.Internal
section
variable {C : Cfg} {ρ ρ' : Rho} {σ : St} {s : Shared} {L : Addr} {h' : Heap} {m m' : Str → Option Value}
set_option tactic.hygienic false in
theorem ns_noSeq {h : Heap} (hn : h.Ns L m) : ∀ a o vs n, a ∈ [L] → h.get? a = some o → o.data ≠ .seq vs n := by
  intro a o vs n ha e
  cases List.mem_singleton.mp ha
  (refine x3_3 (hn) fun o' es ep ho hd uu => ?_; clear hn)
  rw [e] at ho
  (refine c1 ho fun hh0 => ?_; clear ho; subst hh0)
  rw [hd]
  intro z
  cases z
set_option tactic.hygienic false in
theorem EntR.step {W : List Addr} {h h' : Heap} (S : Step C W ρ ρ' h h') (hW : ∀ a o vs n, a ∈ W → h.get? a = some o → o.data ≠ .seq vs n) : ∀ {r : List (Str × AV)} {es : List DictEntry}, EntR C ρ h r es → EntR C ρ' h' r es
  | _, _, .nil => .nil
  | _, _, .cons a b => .cons (a.step S hW) (b.step S hW)
set_option tactic.hygienic false in
theorem stepWrite {h h' : Heap} (hs : Heap.SameBut L h h') : Step C [L] ρ ρ h h' := ⟨by rw [hs.1]; exact Nat.le_refl _, fun b o e uu w => (hs.2 b (by simpa using w)).trans e, [], by simp, fun uu hp => nomatch hp⟩
set_option tactic.hygienic false in
theorem Rel.write (R : Rel C ρ σ s) (hn : s.heap.Ns L m) (hm : ¬ Mut C ρ L) (hl : C.s₁.heap.objs.size ≤ L) (hs : Heap.SameBut L s.heap h') {n : Nat} : Rel C ρ σ { s with heap := h', toks := n } := by
  have S : Step C [L] ρ ρ s.heap h' := stepWrite hs
  have W := ns_noSeq hn
  have own : ∀ {p : Addr × Addr} {l : Nat}, ρ[l]? = some p → p.1 ≠ L ∧ p.2 ≠ L := fun {p l} e => ⟨fun z => hm (.inr ⟨p, List.mem_of_getElem? e, .inl z⟩), fun z => hm (.inr ⟨p, List.mem_of_getElem? e, .inr z⟩)⟩
  refine ⟨fun b o e nt => ?_, fun t ht => ?_, R.lo, R.dis, R.len, fun l p o e e' => ?_, R.gens.heap (fun uu uu uu e uu uu o ho => (hs.2 _ (own e).1).trans ho), R.drawn, R.os, by show _ ≤ h'.objs.size; rw [hs.1]; exact R.size⟩
  · exact (hs.2 b (Nat.ne_of_lt (Nat.lt_of_lt_of_le (Heap.lt_size e) hl))).trans (R.old b o e nt)
  · (refine x1_2 (R.tab t ht) fun more a b => ?_)
    have hP : t.2.1 ≠ L := fun z => hm (.inl (List.mem_map.mpr ⟨t, ht, z⟩))
    have hc : t.1 ≠ L := by
      obtain ⟨⟨o, vs, ho, _, hd, _⟩, _⟩ := b
      (refine x3_3 (hn) fun o' es ep ho' hd' uu => ?_; clear hn)
      intro z
      rw [z, ho'] at ho
      (refine c1 ho fun hh0 => ?_; clear ho; subst hh0)
      rw [hd'] at hd
      cases hd
    exact ⟨more, a.sameBut hs hc hP, b.sameBut hs hc hP⟩
  · have q := R.st l p o e e'
    have := own e
    cases q with
    | list ho hs' => exact .list ((hs.2 _ this.1).trans ho) (hs'.step S W)
    | fmt ho hd he => exact .fmt ((hs.2 _ this.1).trans ho) ((hs.2 _ this.2).trans hd) (he.step S W)
    | acc ho hd he hs' => exact .acc ((hs.2 _ this.1).trans ho) ((hs.2 _ this.2).trans hd) (he.step S W) (hs'.step S W)
    | ghost ho => exact .ghost ((hs.2 _ this.1).trans ho)
    | out ho => exact .out ((hs.2 _ this.1).trans ho)
    | gen ho hL => exact .gen ((hs.2 _ this.1).trans ho) (hL.keep fun o e => (hs.2 _ this.2).trans e)
end
set_option tactic.hygienic false in
theorem nodup_inj {xs : List Str} (hn : xs.Nodup) {i j : Nat} (hi : i < xs.length) (hj : j < xs.length) (e : xs[i] = xs[j]) : i = j := by
  rcases Nat.lt_trichotomy i j with q | q | q
  · exact absurd e (List.pairwise_iff_getElem.mp hn i j hi hj q)
  · exact q
  · exact absurd e.symm (List.pairwise_iff_getElem.mp hn j i hj hi q)
noncomputable def putL (lc : Lc) (i : Nat) (x : AV) : Option Lc := if i < lc.length then some (lc.set i (some x)) else none
noncomputable def asgS (i : Nat) (f : EM) : SM := fun lc σ => match f lc σ with
  | some (x, σ₁) => (putL lc i x).map (.next, ·, σ₁)
  | none => none
section
variable {C : Cfg} {d : Nat} {env : Env} {vars : List Str} {p p' : Pos}
theorem store_name (H : EnvOk env vars) {i : Nat} {n : Str} (hi : vars[i]? = some n) {lc lc' : Lc} {x : AV} (hx : putL lc i x = some lc') {A : Around} {Q : Unit → Shared → Prop} {E : Value → Shared → Prop} {s : Shared} {ρ : Rho} {σ : St} {v : Value} (R : Rel C ρ σ s) (l : LcR C ρ s.heap env.locals vars lc)
    (q : VR C ρ s.heap x v) (k : ∀ s', Rel C ρ σ s' → Step C [env.locals] ρ ρ s.heap s'.heap → LcR C ρ s'.heap env.locals vars lc' → Q () s') : wpAny (model C.prog C.w) A (storeName env n v) Q E s := by
  obtain ⟨⟨m, hn, hv⟩, hm, hl, hz⟩ := l
  unfold putL at hx
  (refine sf hx ?_; clear hx; intro hil hx)
  (refine c1 hx fun hh0 => ?_; clear hx; subst hh0)
  refine wpAny_storeName_local (H.loc n (List.mem_of_getElem? hi)) hn (fun h' hn' hs => ?_) (by rw [H.kind]; rfl)
  have S : Step C [env.locals] ρ ρ s.heap h' := stepWrite hs
  refine k _ (R.write hn hm hl hs) S ⟨⟨_, hn', fun j y e => ?_⟩, hm, hl, by rw [List.length_set]; exact hz⟩
  rw [List.getElem?_set] at e
  split at e
  · rename_i hij
    subst hij
    cases e
    exact ⟨n, v, hi, by simp, q.step S (ns_noSeq hn)⟩
  · rename_i hij
    (refine x2_3 (hv j y e) fun n' v' a b c => ?_)
    refine ⟨n', v', a, ?_, c.step S (ns_noSeq hn)⟩
    have : n' ≠ n := fun z => by
      subst z
      obtain ⟨h1, e1⟩ := List.getElem?_eq_some_iff.mp a
      obtain ⟨h2, e2⟩ := List.getElem?_eq_some_iff.mp hi
      exact hij (nodup_inj H.nodup h2 h1 (e2.trans e1.symm))
    show (if n' = n then some v else m n') = some v'
    rw [if_neg this]; exact b
theorem den_asg (H : EnvOk env vars) {i : Nat} {n : Str} {e : Expr} {f : EM} (hi : vars[i]? = some n) (D : DenE C d env vars e f) (hs : swapsWith e (some (.Name n p')) p.line env = pure false) : DenS C d env vars (.Assign [.Name n p'] e p) (asgS i f) := by
  intro lc σ fl lc' σ' hf A Q E s ρ hA R lr kk
  unfold asgS at hf
  (refine s1 hf ?_; clear hf; intro x σ₁ e1 hf)
  (refine x1_2 (Option.map_eq_some_iff.mp hf) fun lc'' hp e2 => ?_)
  (refine p3 e2 fun hh0 hh1 hh2 => ?_; clear e2; subst hh0; subst hh1; subst hh2)
  refine wpAny_Assign_Name (D _ _ _ _ e1 A _ E s ρ hA R lr fun v s₁ ρ₁ R₁ S₁ q₁ => store_name H hi hp R₁ (lr.go S₁) q₁ fun s₂ R₂ S₂ l₂ => ?_) hs
  exact kk _ s₂ ρ₁ R₂ (S₁.of_nil.trans S₂) l₂ .next
noncomputable def seqS : List SM → SM
  | [] => fun lc σ => some (.next, lc, σ)
  | f :: r => fun lc σ => match f lc σ with
    | some (.next, lc₁, σ₁) => seqS r lc₁ σ₁
    | some (fl, lc₁, σ₁) => some (fl, lc₁, σ₁)
    | none => none
theorem den_nil : DenB C d env vars [] (seqS []) := by
  intro lc σ fl lc' σ' hf A Q E s ρ hA R lr kk
  (refine c3 hf fun hh0 hh1 hh2 => ?_; clear hf; subst hh0; subst hh1; subst hh2)
  exact wpAny_execs_nil (kk _ s ρ R .refl lr .next)
theorem den_cons {st : Stmt} {r : List Stmt} {f : SM} {fs : List SM} (D1 : DenS C d env vars st f) (D2 : DenB C d env vars r (seqS fs)) : DenB C d env vars (st :: r) (seqS (f :: fs)) := by
  intro lc σ fl lc' σ' hf A Q E s ρ hA R lr kk
  unfold seqS at hf
  refine wpAny_execs_cons ?_
  split at hf
  · rename_i lc₁ σ₁ e1
    refine D1 _ _ _ _ _ e1 A _ E s ρ hA R lr fun w s₁ ρ₁ R₁ S₁ l₁ q₁ => ?_
    cases q₁
    exact D2 _ _ _ _ _ hf A _ E s₁ ρ₁ hA R₁ l₁ fun w s₂ ρ₂ R₂ S₂ l₂ q₂ => kk w s₂ ρ₂ R₂ (S₁.trans S₂) l₂ q₂
  · rename_i fl₁ lc₁ σ₁ hne e1
    (refine c3 hf fun hh0 hh1 hh2 => ?_; clear hf; subst hh0; subst hh1; subst hh2)
    refine D1 _ _ _ _ _ e1 A _ E s ρ hA R lr fun w s₁ ρ₁ R₁ S₁ l₁ q₁ => ?_
    have := kk w s₁ ρ₁ R₁ S₁ l₁ q₁
    cases q₁ with
    | next => exact absurd rfl hne
    | brk => exact this
    | cont => exact this
    | ret => exact this
  · exact ns hf
noncomputable def ifS (t : TM) (f g : SM) : SM := fun lc σ => match t lc σ with
  | some (true, σ₁) => f lc σ₁
  | some (false, σ₁) => g lc σ₁
  | none => none
theorem den_if {c : Expr} {t : TM} {b1 b2 : List Stmt} {f g : SM} (D0 : DenT C d env vars c t) (D1 : DenB C d env vars b1 f) (D2 : DenB C d env vars b2 g) : DenS C d env vars (.If c b1 b2 p) (ifS t f g) := by
  intro lc σ fl lc' σ' hf A Q E s ρ hA R lr kk
  unfold ifS at hf
  split at hf
  · rename_i σ₁ e1
    exact wpAny_If (D0 _ _ _ _ e1 A _ E s ρ hA R lr fun s₁ ρ₁ R₁ S₁ => D1 _ _ _ _ _ hf A _ E s₁ ρ₁ hA R₁ (lr.go S₁) fun w s₂ ρ₂ R₂ S₂ l₂ q₂ => kk w s₂ ρ₂ R₂ (S₁.of_nil.trans S₂) l₂ q₂)
  · rename_i σ₁ e1
    exact wpAny_If (D0 _ _ _ _ e1 A _ E s ρ hA R lr fun s₁ ρ₁ R₁ S₁ => D2 _ _ _ _ _ hf A _ E s₁ ρ₁ hA R₁ (lr.go S₁) fun w s₂ ρ₂ R₂ S₂ l₂ q₂ => kk w s₂ ρ₂ R₂ (S₁.of_nil.trans S₂) l₂ q₂)
  · exact ns hf
noncomputable def retS (f : EM) : SM := fun lc σ => (f lc σ).map fun p => (.ret p.1, lc, p.2)
set_option tactic.hygienic false in
theorem den_ret {e : Expr} {f : EM} (D : DenE C d env vars e f) : DenS C d env vars (.Return (some e) p) (retS f) := by
  intro lc σ fl lc' σ' hf A Q E s ρ hA R lr kk
  obtain ⟨⟨x, σ₁⟩, e1, e2⟩ := Option.map_eq_some_iff.mp hf
  (refine p3 e2 fun hh0 hh1 hh2 => ?_; clear e2; subst hh0; subst hh1; subst hh2)
  exact wpAny_Return_some (D _ _ _ _ e1 A _ E s ρ hA R lr fun v s₁ ρ₁ R₁ S₁ q₁ => kk _ s₁ ρ₁ R₁ S₁.of_nil (lr.go S₁) (.ret q₁))
noncomputable def retNS : SM := fun lc σ => some (.ret .none, lc, σ)
set_option tactic.hygienic false in
theorem den_retN : DenS C d env vars (.Return none p) retNS := by
  intro lc σ fl lc' σ' hf A Q E s ρ hA R lr kk
  (refine c3 hf fun hh0 hh1 hh2 => ?_; clear hf; subst hh0; subst hh1; subst hh2)
  exact wpAny_Return_none (kk _ s ρ R .refl lr (.ret .none))
noncomputable def passS : SM := fun lc σ => some (.next, lc, σ)
noncomputable def brkS : SM := fun lc σ => some (.brk, lc, σ)
set_option tactic.hygienic false in
theorem den_brk : DenS C d env vars (.Break p) brkS := by
  intro lc σ fl lc' σ' hf A Q E s ρ hA R lr kk
  (refine c3 hf fun hh0 hh1 hh2 => ?_; clear hf; subst hh0; subst hh1; subst hh2)
  exact wpAny_Break (kk _ s ρ R .refl lr .brk)
noncomputable def contS : SM := fun lc σ => some (.cont, lc, σ)
set_option tactic.hygienic false in
theorem den_cont : DenS C d env vars (.Continue p) contS := by
  intro lc σ fl lc' σ' hf A Q E s ρ hA R lr kk
  (refine c3 hf fun hh0 hh1 hh2 => ?_; clear hf; subst hh0; subst hh1; subst hh2)
  exact wpAny_Continue (kk _ s ρ R .refl lr .cont)
noncomputable def exprS (f : EM) : SM := fun lc σ => match f lc σ with
  | some (_, σ₁) => some (.next, lc, σ₁)
  | none => none
theorem den_expr {e : Expr} {f : EM} (D : DenE C d env vars e f) (hi : interactive env = false) (hs : swapsWith e none p.line env = pure false) : DenS C d env vars (.Expr e p) (exprS f) := by
  intro lc σ fl lc' σ' hf A Q E s ρ hA R lr kk
  unfold exprS at hf
  (refine s1 hf ?_; clear hf; intro x₁ σ₁ e1 hf)
  (refine c3 hf fun hh0 hh1 hh2 => ?_; clear hf; subst hh0; subst hh1; subst hh2)
  refine wpAny_Expr_any (D _ _ _ _ e1 A _ E s ρ hA R lr fun v s₁ ρ₁ R₁ S₁ q₁ => ?_) hi hs
  exact kk _ s₁ ρ₁ R₁ S₁.of_nil (lr.go S₁) .next
end
end Mine.Internal
end
section
open PySem PySem.W PyProof.Rows PySem.Calls
namespace Mine.Internal
noncomputable def evs : List EM → Lc → St → Option (List AV × St)
  | [], _, σ => some ([], σ)
  | f :: r, lc, σ => match f lc σ with
    | some (x, σ₁) => match evs r lc σ₁ with
      | some (xs, σ₂) => some (x :: xs, σ₂)
      | none => none
    | none => none
inductive DenEs (C : Cfg) (d : Nat) (env : Env) (vars : List Str) : List Expr → List EM → Prop
  | nil : DenEs C d env vars [] []
  | cons {e : Expr} {f : EM} {es : List Expr} {fs : List EM} (a : DenE C d env vars e f) (b : DenEs C d env vars es fs) (ns : ∀ r, starEach (e :: r) env = (false, eval e env) :: starEach r env) : DenEs C d env vars (e :: es) (f :: fs)
section
variable {C : Cfg} {d : Nat} {env : Env} {vars : List Str} {p p' : Pos}
set_option tactic.hygienic false in
theorem items_rel {es : List Expr} {fs : List EM} (D : DenEs C d env vars es fs) : ∀ {lc : Lc} {σ σ' : St} {xs : List AV}, evs fs lc σ = some (xs, σ') → ∀ {A : Around} {Q : List Value → Shared → Prop} {E : Value → Shared → Prop} {s : Shared} {ρ : Rho}, AOk d A → Rel C ρ σ s → LcR C ρ s.heap env.locals vars lc →
    (∀ vs s' ρ', Rel C ρ' σ' s' → Step C [] ρ ρ' s.heap s'.heap → VRs C ρ' s'.heap xs vs → Q vs s') → wpAny (model C.prog C.w) A (spliced (backTo p (starEach es env))) Q E s := by
  induction D with
  | nil => intro lc σ σ' xs hf A Q E s ρ hA R lr kk; cases hf; exact wpAny_items_nil (kk _ s ρ R .refl .nil)
  | cons a b ns ih =>
    intro lc σ σ' xs hf A Q E s ρ hA R lr kk
    unfold evs at hf
    (refine s1 hf ?_; clear hf; intro x σ₁ e1 hf)
    (refine s3 hf ?_; clear hf; intro xs σ₂ e2 hf)
    (refine c2 hf fun hh0 hh1 => ?_; clear hf; subst hh0; subst hh1)
    exact wpAny_items_cons (a _ _ _ _ e1 A _ E s ρ hA R lr fun v s₁ ρ₁ R₁ S₁ q₁ => ih e2 hA R₁ (lr.go S₁) fun vs s₂ ρ₂ R₂ S₂ q₂ => kk _ s₂ ρ₂ R₂ (S₁.trans S₂) (.cons (q₁.go S₂) q₂)) (ns _)
noncomputable def tupE (fs : List EM) : EM := fun lc σ => match evs fs lc σ with
  | some (xs, σ₁) => if xs.length ≤ sizeLine then some (.tup xs, σ₁) else none
  | none => none
noncomputable def lstE (fs : List EM) : EM := fun lc σ => match evs fs lc σ with
  | some (xs, σ₁) => if xs.length ≤ sizeLine then some (.lst xs, σ₁) else none
  | none => none
set_option tactic.hygienic false in
theorem den_tup {es : List Expr} {fs : List EM} {k : Nat} (D : DenEs C d env vars es fs) : DenE C d env vars (.Tuple es k p) (tupE fs) := by
  intro lc σ x σ' hf A Q E s ρ hA R lr kk
  unfold tupE at hf
  (refine s3 hf ?_; clear hf; intro xs σ₁ e1 hf)
  (refine sf hf ?_; clear hf; intro hz hf)
  (refine c2 hf fun hh0 hh1 => ?_; clear hf; subst hh0; subst hh1)
  refine wpAny_Tuple (items_rel D e1 hA R lr fun vs s₁ ρ₁ R₁ S₁ q₁ => ⟨by rw [q₁.length]; exact hz, ?_⟩)
  have S₂ : Step C [] ρ₁ ρ₁ s₁.heap (s₁.heap.push (tupObj vs 0)) := .pushObj _
  exact kk _ _ ρ₁ (R₁.push _ (n := s₁.toks)) (S₁.trans S₂) (.tup (Heap.get?_push_size _ rfl) R₁.fresh (q₁.go S₂))
set_option tactic.hygienic false in
theorem den_lst {es : List Expr} {fs : List EM} (D : DenEs C d env vars es fs) : DenE C d env vars (.List es p) (lstE fs) := by
  intro lc σ x σ' hf A Q E s ρ hA R lr kk
  unfold lstE at hf
  (refine s3 hf ?_; clear hf; intro xs σ₁ e1 hf)
  (refine sf hf ?_; clear hf; intro hz hf)
  (refine c2 hf fun hh0 hh1 => ?_; clear hf; subst hh0; subst hh1)
  refine wpAny_List (items_rel D e1 hA R lr fun vs s₁ ρ₁ R₁ S₁ q₁ => ⟨by rw [q₁.length]; exact hz, ?_⟩)
  have S₂ : Step C [] ρ₁ ρ₁ s₁.heap (s₁.heap.push (lstObj vs 0)) := .pushObj _
  exact kk _ _ ρ₁ (R₁.push _ (n := s₁.toks)) (S₁.trans S₂) (.lst (Heap.get?_push_size _ rfl) R₁.fresh (q₁.go S₂))
end
section
variable {C : Cfg} {ρ : Rho} {σ : St} {s s' : Shared}
set_option tactic.hygienic false in
theorem ObjR.grow {ρ' : Rho} {h h' : Heap} (k : ∀ b o, h.get? b = some o → h'.get? b = some o) (S : Step C [] ρ ρ' h h') {p : Addr × Addr} {o : AO} (q : ObjR C ρ h p o) : ObjR C ρ' h' p o := by
  cases q with
  | list ho hs => exact .list (k _ _ ho) (hs.go S)
  | fmt ho hd he => exact .fmt (k _ _ ho) (k _ _ hd) (he.go S)
  | acc ho hd he hs => exact .acc (k _ _ ho) (k _ _ hd) (he.go S) (hs.go S)
  | ghost ho => exact .ghost (k _ _ ho)
  | out ho => exact .out (k _ _ ho)
  | gen ho hL => obtain ⟨δ, rfl, _⟩ := S.grow; exact .gen (k _ _ ho) ((hL.keep (k _)).grow δ)
set_option tactic.hygienic false in
theorem ObjR.lt {h : Heap} {p : Addr × Addr} {o : AO} (q : ObjR C ρ h p o) : p.1 < h.objs.size ∧ p.2 < h.objs.size := by
  cases q with
  | list ho hs => exact ⟨Heap.lt_size ho, Heap.lt_size ho⟩
  | fmt ho hd he => exact ⟨Heap.lt_size ho, Heap.lt_size hd⟩
  | acc ho hd he hs => exact ⟨Heap.lt_size ho, Heap.lt_size hd⟩
  | ghost ho => exact ⟨Heap.lt_size ho, Heap.lt_size ho⟩
  | out ho => exact ⟨Heap.lt_size ho, Heap.lt_size ho⟩
  | gen ho hL => (refine x2_2 (hL.self) fun mm q a uu => ?_); exact ⟨Heap.lt_size ho, a.lt⟩
set_option tactic.hygienic false in
theorem Rel.rhoLt (R : Rel C ρ σ s) {p : Addr × Addr} (hp : p ∈ ρ) : p.1 < s.heap.objs.size ∧ p.2 < s.heap.objs.size := by
  obtain ⟨l, hl, rfl⟩ := List.mem_iff_getElem.mp hp
  have q : l < σ.length := R.len ▸ hl
  exact (R.st l ρ[l] σ[l] (List.getElem?_eq_getElem hl) (List.getElem?_eq_getElem q)).lt
set_option tactic.hygienic false in
theorem Rel.allocX (R : Rel C ρ σ s) (k : ∀ b o, s.heap.get? b = some o → s'.heap.get? b = some o) (z : s.heap.objs.size ≤ s'.heap.objs.size) (hd : s'.drawn = s.drawn) (hos : s'.os = s.os)
    {p : Addr × Addr} {o : AO} (h1 : s.heap.objs.size ≤ p.1) (h2 : s.heap.objs.size ≤ p.2) (ho : ObjR C (ρ ++ [p]) s'.heap p o) (hg : GR C (ρ ++ [p]) (σ ++ [o]) s'.heap s'.gens) : Rel C (ρ ++ [p]) (σ ++ [o]) s' ∧ Step C [] ρ (ρ ++ [p]) s.heap s'.heap := by
  have S : Step C [] ρ (ρ ++ [p]) s.heap s'.heap := ⟨z, fun b o e uu uu => k b o e, [p], rfl, fun q hq => by cases List.mem_singleton.mp hq; exact ⟨h1, h2⟩⟩
  refine ⟨⟨fun b o e n => k b o (R.old b o e n), fun t ht => let ⟨m, a, b⟩ := R.tab t ht; ⟨m, a.keeps k, b.keeps k⟩, fun q hq => ?_, ?_, by simp [R.len], fun l q o' e e' => ?_, hg, hd.trans R.drawn, hos.trans R.os, Nat.le_trans R.size z⟩, S⟩
  · rcases List.mem_append.mp hq with hq | hq
    · exact R.lo q hq
    · cases List.mem_singleton.mp hq; exact ⟨Nat.le_trans R.size h1, Nat.le_trans R.size h2⟩
  · refine List.pairwise_append.mpr ⟨R.dis, List.pairwise_singleton .., fun a ha b hb => ?_⟩
    cases List.mem_singleton.mp hb
    have := R.rhoLt ha
    exact ⟨Nat.ne_of_lt (Nat.lt_of_lt_of_le this.1 h1), Nat.ne_of_lt (Nat.lt_of_lt_of_le this.1 h2), Nat.ne_of_lt (Nat.lt_of_lt_of_le this.2 h1), Nat.ne_of_lt (Nat.lt_of_lt_of_le this.2 h2)⟩
  · by_cases hl : l < ρ.length
    · rw [List.getElem?_append_left hl] at e
      rw [List.getElem?_append_left (R.len ▸ hl)] at e'
      exact (R.st l q o' e e').grow k S
    · have hl' : ¬ l < σ.length := R.len ▸ hl
      rw [List.getElem?_append_right (Nat.not_lt.mp hl)] at e
      rw [List.getElem?_append_right (Nat.not_lt.mp hl')] at e'
      rw [List.getElem?_singleton] at e e'
      (refine sf e ?_; clear e; intro uu e)
      (refine sf e' ?_; clear e'; intro uu e')
      cases e; cases e'; exact ho
set_option tactic.hygienic false in
theorem Rel.alloc (R : Rel C ρ σ s) (k : ∀ b o, s.heap.get? b = some o → s'.heap.get? b = some o) (z : s.heap.objs.size ≤ s'.heap.objs.size) (hg : GR C ρ σ s.heap s'.gens) (hd : s'.drawn = s.drawn) (hos : s'.os = s.os)
    {p : Addr × Addr} {o : AO} (h1 : s.heap.objs.size ≤ p.1) (h2 : s.heap.objs.size ≤ p.2) (ho : ObjR C (ρ ++ [p]) s'.heap p o) (ng : o.isGen = false) : Rel C (ρ ++ [p]) (σ ++ [o]) s' ∧ Step C [] ρ (ρ ++ [p]) s.heap s'.heap :=
  R.allocX k z hd hos h1 h2 ho ((hg.heap fun uu uu uu uu uu uu o e => k _ o e).snoc R.len ng)
end
noncomputable def newLE (fs : List EM) : EM := fun lc σ => match evs fs lc σ with
  | some (xs, σ₁) => if xs.length ≤ sizeLine then some (.loc σ₁.length, σ₁ ++ [.list xs]) else none
  | none => none
set_option tactic.hygienic false in
theorem den_newL {C : Cfg} {d : Nat} {env : Env} {vars : List Str} {p : Pos} {es : List Expr} {fs : List EM} (D : DenEs C d env vars es fs) : DenE C d env vars (.List es p) (newLE fs) := by
  intro lc σ x σ' hf A Q E s ρ hA R lr kk
  unfold newLE at hf
  (refine s3 hf ?_; clear hf; intro xs σ₁ e1 hf)
  (refine sf hf ?_; clear hf; intro hz hf)
  (refine c2 hf fun hh0 hh1 => ?_; clear hf; subst hh0; subst hh1)
  refine wpAny_List (items_rel D e1 hA R lr fun vs s₁ ρ₁ R₁ S₁ q₁ => ⟨by rw [q₁.length]; exact hz, ?_⟩)
  have k : ∀ b o, s₁.heap.get? b = some o → (s₁.heap.push (lstObj vs 0)).get? b = some o := fun uu uu e => Heap.get?_push_of_some _ e
  have z : s₁.heap.objs.size ≤ (s₁.heap.push (lstObj vs 0)).objs.size := by rw [Heap.size_push]; (first | lia | omega)
  have S₂ : Step C [] ρ₁ (ρ₁ ++ [(s₁.heap.objs.size, s₁.heap.objs.size)]) s₁.heap (s₁.heap.push (lstObj vs 0)) := ⟨z, fun b o e uu uu => k b o e, _, rfl, fun q hq => by cases List.mem_singleton.mp hq; exact ⟨Nat.le_refl _, Nat.le_refl _⟩⟩
  (refine x0_2 (R₁.alloc (s' := { s₁ with heap := s₁.heap.push (lstObj vs 0) }) k z R₁.gens rfl rfl (p := (s₁.heap.objs.size, s₁.heap.objs.size)) (o := .list xs) (Nat.le_refl _) (Nat.le_refl _) (.list (Heap.get?_push_size _ rfl) (q₁.go S₂)) rfl) fun R₂ S₂ => ?_)
  refine kk _ _ _ R₂ (S₁.trans S₂) (.loc (p := (s₁.heap.objs.size, s₁.heap.objs.size)) ?_)
  rw [← R₁.len, List.getElem?_append_right (Nat.le_refl _), Nat.sub_self]
  rfl
noncomputable def DenF (C : Cfg) (d : Nat) (f : Addr) (F : List AV → St → Option (AV × St)) : Prop :=
  ∀ xs σ x σ', F xs σ = some (x, σ') → ∀ (A : Around) (P : Result → Shared → Prop) (s : Shared) (ρ : Rho) (vs : List Value), AOk d A → Rel C ρ σ s → VRs C ρ s.heap xs vs →
    (∀ v s' ρ', Rel C ρ' σ' s' → Step C [] ρ ρ' s.heap s'.heap → VR C ρ' s'.heap x v → P (.ok (.ret v)) s') → codeAny (model C.prog C.w) A (.call (.ref f) ⟨vs, []⟩) P s
noncomputable def lc0 (vars : List Str) (xs : List AV) : Lc := xs.map some ++ List.replicate (vars.length - xs.length) none
noncomputable def runF (vars : List Str) (n : Nat) (B : SM) (xs : List AV) (σ : St) : Option (AV × St) := if xs.length = n then (match B (lc0 vars xs) σ with
  | some (.ret x, _, σ') => some (x, σ')
  | some (.next, _, σ') => some (.none, σ')
  | _ => none) else none
set_option tactic.hygienic false in
theorem DenF.mono {C : Cfg} {d d' : Nat} {f : Addr} {F : List AV → St → Option (AV × St)} (D : DenF C d' f F) (h : d' ≤ d) : DenF C d f F :=
  fun xs σ x σ' hf A P s ρ vs hA R q k => D xs σ x σ' hf A P s ρ vs (hA.mono h) R q k
set_option tactic.hygienic false in
theorem AOk.deeper {d : Nat} {A : Around} {env : Env} (a : AOk (d + 1) A) : AOk d (A.deeper env) := by
  (refine x0_3 (a) fun a1 a2 a3 => ?_; clear a)
  refine ⟨a1, ?_, ?_⟩
  · show A.depth + 1 + d < _; (first | lia | omega)
  · show A.units + 3 + 8 * d < _; (first | lia | omega)
set_option tactic.hygienic false in
theorem AOk.in1 {d : Nat} {A : Around} (a : AOk (d + 1) A) : AOk d A.in1 := by
  (refine x0_3 (a) fun a1 a2 a3 => ?_; clear a)
  refine ⟨a1, ?_, ?_⟩
  · show A.depth + d < _; (first | lia | omega)
  · show A.units + 1 + 8 * d < _; (first | lia | omega)
structure FnOk (C : Cfg) (f : Addr) (vars : List Str) (n : Nat) (body : List Stmt) (scope : Scope) (closure : List (Str × Addr)) (qual : Str) (code : Value) : Prop where
  obj : ∃ o fd, C.s₁.heap.get? f = some o ∧ o.data = .func fd ∧ fd.scope = scope ∧ fd.body = .stmts body ∧ fd.globals = mainGlobals ∧ fd.closure = closure ∧ fd.qualname = qual ∧ fd.code = code ∧ fd.builtins = builtinsNs ∧
    ∀ vs : List Value, vs.length = n → bindArgs fd ⟨vs, []⟩ = pure ((vars.take n).zip vs)
  notTab : ¬ C.isTab f
  crec : C.s₁.heap.CodeRec code qual
  codeNo : ∀ c, code = .ref c → ¬ C.isTab c
  coro : scope.isCoroutine = false
  gen : scope.isGenerator = false
  kind : scope.kind = .function
  cells : ∀ x ∈ scope.names, x.2 ≠ .cell
  loc : ∀ x ∈ vars, scope.names.lookup x = some .local
  nodup : vars.Nodup
  n_le : n ≤ vars.length
noncomputable def fnEnv (scope : Scope) (closure : List (Str × Addr)) (qual : Str) (f : Addr) (code : Value) (L : Addr) : Env := newEnv scope L mainGlobals closure (qual ++ ".<locals>.") (some f) code none builtinsNs
set_option tactic.hygienic false in
theorem lookup_zip : ∀ {xs : List Str} {vs : List Value} {i : Nat} {x : Str} {v : Value}, xs.Nodup → xs[i]? = some x → vs[i]? = some v → (xs.zip vs).lookup x = some v
  | [], _, i, _, _, _, e, _ => by simp at e
  | _ :: _, [], i, _, _, _, _, e => by simp at e
  | y :: xs, w :: vs, 0, x, v, _, e, e' => by simp at e e'; subst e e'; simp
  | y :: xs, w :: vs, i + 1, x, v, hn, e, e' => by
    simp at e e'
    rw [List.zip_cons_cons, List.lookup_cons]
    have hm := List.mem_of_getElem? e
    have : x ≠ y := fun z => (List.nodup_cons.mp hn).1 (z ▸ hm)
    rw [beq_false_of_ne this]
    exact lookup_zip (List.nodup_cons.mp hn).2 e e'
set_option tactic.hygienic false in
theorem lookup_rev {l : List (Str × Value)} {x : Str} {v : Value} (hn : (l.map (·.1)).Nodup) (e : l.lookup x = some v) : l.reverse.lookup x = some v := by
  induction l with
  | nil => simp at e
  | cons a l ih =>
    obtain ⟨y, w⟩ := a
    rw [List.map_cons, List.nodup_cons] at hn
    rw [List.reverse_cons]
    rw [List.lookup_cons] at e
    by_cases h : x = y
    · subst h
      simp at e
      subst e
      have : l.reverse.lookup x = none := by
        rw [List.lookup_eq_none_iff]
        intro p hp
        have : p.1 ∈ l.map (·.1) := List.mem_map_of_mem (List.mem_reverse.mp hp)
        simp only [bne_iff_ne, ne_eq]
        intro z
        exact hn.1 (z ▸ this)
      rw [List.lookup_append, this]
      simp
    · rw [beq_false_of_ne h] at e
      rw [List.lookup_append, ih hn.2 e]
      rfl
end Mine.Internal
end
section
open PySem PySem.W PyProof.Rows PySem.Calls
namespace Mine.Internal
structure CfgOk (C : Cfg) : Prop where
  kin : C.K.In C.s₁.heap
  knt : ∀ a o, C.K.lookup a = some o → ¬ C.isTab a
  lim : C.s₁.heap.NoLimit
  stat : ¬ C.isTab cStatics
  glob : ¬ C.isTab mainGlobals
  blt : ¬ C.isTab builtinsNs
section
variable {C : Cfg} {ρ : Rho} {σ : St} {s : Shared}
set_option tactic.hygienic false in
theorem Rel.kin (R : Rel C ρ σ s) (H : CfgOk C) : C.K.In s.heap := fun a o e => R.old a o (H.kin a o e) (H.knt a o e)
noncomputable def DenCall (C : Cfg) (d : Nat) (fv : Value) (F : List AV → St → Option (AV × St)) : Prop :=
  ∀ xs σ x σ', F xs σ = some (x, σ') → ∀ (A : Around) (Q : Value → Shared → Prop) (E : Value → Shared → Prop) (s : Shared) (ρ : Rho) (vs : List Value), AOk d A → Rel C ρ σ s → VRs C ρ s.heap xs vs →
    (∀ v s' ρ', Rel C ρ' σ' s' → Step C [] ρ ρ' s.heap s'.heap → VR C ρ' s'.heap x v → Q v s') → wpAny (model C.prog C.w) A (call fv vs) Q E s
set_option tactic.hygienic false in
theorem DenF.call {d : Nat} {f : Addr} {F : List AV → St → Option (AV × St)} (D : DenF C d f F) : DenCall C d (.ref f) F := by
  intro xs σ x σ' hf A Q E s ρ vs hA R q k
  exact wpAny_call (D xs σ x σ' hf A _ s ρ vs hA R q fun v s' ρ' R' S' q' => k v s' ρ' R' S' q')
set_option tactic.hygienic false in
theorem DenCall.mono {d d' : Nat} {fv : Value} {F : List AV → St → Option (AV × St)} (D : DenCall C d' fv F) (h : d' ≤ d) : DenCall C d fv F :=
  fun xs σ x σ' hf A Q E s ρ vs hA R q k => D xs σ x σ' hf A Q E s ρ vs (hA.mono h) R q k
noncomputable def KeepOk (C : Cfg) (fv : Value) : Prop := ∀ h, C.K.In h → ∃ k, (k = Keeper.frame ∨ k = Keeper.machine ∨ k = Keeper.boundFrame) ∧ Looks (model C.prog C.w) h (keeperOf fv) k
set_option tactic.hygienic false in
theorem keep_builtin {i : String} : KeepOk C (.builtin i) := fun uu uu => ⟨.machine, .inr (.inl rfl), .now⟩
set_option tactic.hygienic false in
theorem keep_type {T : String} : KeepOk C (.type T) := fun uu uu => ⟨.machine, .inr (.inl rfl), .now⟩
set_option tactic.hygienic false in
theorem keep_K {f : Value} (hk : keepIn C.K f = true) : KeepOk C f := fun h X => keeps_K hk h X
variable {d : Nat} {env : Env} {vars : List Str} {p p' : Pos}
set_option tactic.hygienic false in
theorem noStar {es : List Expr} {fs : List EM} (D : DenEs C d env vars es fs) : (backTo p (starEach es env)).any (·.1) = false := by
  induction D with
  | nil => rfl
  | cons a b ns ih => rw [ns]; exact ih
set_option tactic.hygienic false in
theorem args_rel {es : List Expr} {fs : List EM} (D : DenEs C d env vars es fs) {lc : Lc} {σ σ' : St} {xs : List AV} (hf : evs fs lc σ = some (xs, σ')) {fv : Value} {A : Around} {Q : Args → Shared → Prop} {E : Value → Shared → Prop} {s : Shared} {ρ : Rho} (hA : AOk d A) (R : Rel C ρ σ s) (lr : LcR C ρ s.heap env.locals vars lc)
    (k : ∀ vs s' ρ', Rel C ρ' σ' s' → Step C [] ρ ρ' s.heap s'.heap → VRs C ρ' s'.heap xs vs → Q ⟨vs, []⟩ s') : wpAny (model C.prog C.w) A (evalArgs fv true (backTo p (starEach es env)) []) Q E s := by
  have it := fun (Q' : List Value → Shared → Prop) kk => items_rel (p := p) D hf (Q := Q') (E := E) hA R lr kk
  cases D with
  | nil =>
    (refine c2 hf fun hh0 hh1 => ?_; clear hf; subst hh0; subst hh1)
    refine evalArgs_nil3 ?_
    exact k [] s ρ R .refl .nil
  | cons a b ns =>
    rw [ns] at it ⊢
    exact evalArgs_plain (it _ k)
set_option tactic.hygienic false in
theorem callWith_rel (H : CfgOk C) {es : List Expr} {fs : List EM} (D : DenEs C d env vars es fs) {lc : Lc} {σ σ' : St} {xs : List AV} (hf : evs fs lc σ = some (xs, σ')) {fv : Value} {first : List Value} (hk : KeepOk C fv) {A : Around} {Q : Value → Shared → Prop} {E : Value → Shared → Prop} {s : Shared} {ρ : Rho} (hA : AOk d A) (R : Rel C ρ σ s)
    (lr : LcR C ρ s.heap env.locals vars lc) (k : ∀ vs s' ρ', Rel C ρ' σ' s' → Step C [] ρ ρ' s.heap s'.heap → VRs C ρ' s'.heap xs vs → wpAny (model C.prog C.w) A (call fv (first ++ vs)) Q E s') :
    wpAny (model C.prog C.w) A (callWith p fv first (backTo p' (starEach es env)) []) Q E s :=
  callWith_of (P := fun h => C.K.In h) (by rw [noStar D]; rfl) hk (args_rel D hf hA R lr fun vs s' ρ' R' S' q' => ⟨R'.kin H, k vs s' ρ' R' S' q'⟩)
noncomputable def GlobVal (C : Cfg) (x : Str) (v : Value) : Prop := ∃ mg, C.s₁.heap.Ns mainGlobals mg ∧ (mg x = some v ∨ (mg x = none ∧ ∃ mb, C.s₁.heap.Ns builtinsNs mb ∧ mb x = some v))
set_option tactic.hygienic false in
theorem global_rel (H : CfgOk C) (He : EnvOk env vars) {x : Str} {v : Value} (hv : GlobVal C x v) (hx : env.kindOf x = some .globalImplicit) (hd : (x == ("__debug__" : Str)) = false) {A : Around} {Q : Value → Shared → Prop} {E : Value → Shared → Prop} (R : Rel C ρ σ s) (k : Q v s) :
    wpAny (model C.prog C.w) A (eval (.Name x p) env) Q E s := by
  (refine x1_2 (hv) fun mg hg h => ?_; clear hv)
  refine Name_function_global He.kind hx ?_ hd
  have hg' : s.heap.Ns env.globals mg := by rw [He.glob]; exact hg.at fun o e => R.old _ _ e H.glob
  rcases h with h | ⟨h, mb, hb, h'⟩
  · exact loadGlobal_global hg' h k
  · exact loadGlobal_builtin hg' h (by rw [He.blt]; exact hb.at fun o e => R.old _ _ e H.blt) h' k
noncomputable def callE (F : List AV → St → Option (AV × St)) (fs : List EM) : EM := fun lc σ => match evs fs lc σ with
  | some (xs, σ₁) => F xs σ₁
  | none => none
set_option tactic.hygienic false in
theorem den_call (H : CfgOk C) (He : EnvOk env vars) {x : Str} {fv : Value} {F : List AV → St → Option (AV × St)} {es : List Expr} {fs : List EM} {p0 : Pos} (hv : GlobVal C x fv) (hx : env.kindOf x = some .globalImplicit) (hk : KeepOk C fv) (DF : DenCall C d fv F) (D : DenEs C d env vars es fs)
    (hd : (x == ("__debug__" : Str)) = false) : DenE C d env vars (.Call (.Name x p0) es [] p) (callE F fs) := by
  intro lc σ y σ' hf A Q E s ρ hA R lr kk
  unfold callE at hf
  (refine s3 hf ?_; clear hf; intro xs σ₁ e1 hf)
  show wpAny _ _ (do callWith p (← eval (.Name x p0) env) [] (backTo p (starEach es env)) (backToKw p (keywordEach [] env))) _ _ _
  refine wpAny_bind (global_rel H He hv hx hd R ?_)
  refine callWith_rel H D e1 hk hA R lr fun vs s₁ ρ₁ R₁ S₁ q₁ => ?_
  rw [List.nil_append]
  exact DF _ _ _ _ hf A _ E s₁ ρ₁ vs hA R₁ q₁ fun v s₂ ρ₂ R₂ S₂ q₂ => kk v s₂ ρ₂ R₂ (S₁.trans S₂) q₂
set_option tactic.hygienic false in
theorem den_glob (H : CfgOk C) (He : EnvOk env vars) {x y : Str} {t : Tok} (hv : GlobVal C x (.str y t)) (ok : PyData.strOk y = true) (hx : env.kindOf x = some .globalImplicit) (hd : (x == ("__debug__" : Str)) = false) : DenE C d env vars (.Name x p) (cE (.str y)) := by
  intro lc σ z σ' hf A Q E s ρ hA R lr kk
  (refine c2 hf fun hh0 hh1 => ?_; clear hf; subst hh0; subst hh1)
  exact global_rel H He hv hx hd R (kk _ s ρ R .refl (.str _ _ ok))
noncomputable def kind (σ : St) : AV → Nat
  | .str _ => 1
  | .lst _ => 2
  | .loc l => match σ[l]? with
    | some (.list _) => 2
    | some (.fmt ..) => 3
    | some (.acc ..) => 4
    | some .ghost => 0
    | some (.gen ..) => 5
    | some (.out _) => 0
    | none => 0
  | _ => 0
noncomputable def GetM (C : Cfg) (k : Nat) (name : Str) (fv : Value) : Prop :=
  ∀ (A : Around) (Q : Value × List Value → Shared → Prop) (E : Value → Shared → Prop) (s : Shared) (ρ : Rho) (σ : St) (x : AV) (v : Value) (pl : Sem Bool), Rel C ρ σ s → VR C ρ s.heap x v → kind σ x = k → Q (fv, [v]) s → wpAny (model C.prog C.w) A (getMethod v name pl) Q E s
noncomputable def mE (k : Nat) (F : List AV → St → Option (AV × St)) (f : EM) (fs : List EM) : EM := fun lc σ => match f lc σ with
  | some (r, σ₁) => if kind σ₁ r = k then (match evs fs lc σ₁ with
    | some (xs, σ₂) => F (r :: xs) σ₂
    | none => none) else none
  | none => none
set_option tactic.hygienic false in
theorem den_meth (H : CfgOk C) {k : Nat} {name : Str} {fv : Value} {F : List AV → St → Option (AV × St)} {o : Expr} {f : EM} {es : List Expr} {fs : List EM} {apos : Pos} (hg : GetM C k name fv) (hk : KeepOk C fv) (DF : DenCall C d fv F) (D0 : DenE C d env vars o f) (D : DenEs C d env vars es fs)
    (hb : ∀ nm whole, attributeBase o nm env whole = whole) (hl : es.length < 30) (hp : (apos.endLine == p.line) = true) : DenE C d env vars (.Call (.Attribute o name apos) es [] p) (mE k F f fs) := by
  intro lc σ y σ' hf A Q E s ρ hA R lr kk
  unfold mE at hf
  (refine s1 hf ?_; clear hf; intro r σ₁ e1 hf)
  (refine sf hf ?_; clear hf; intro hkd hf)
  (refine s3 hf ?_; clear hf; intro xs σ₂ e2 hf)
  rw [arm_eval_Call, hb]
  refine wpAny_bind (D0 _ _ _ _ e1 A _ E s ρ hA R lr fun v s₁ ρ₁ R₁ S₁ q₁ => wpAny_bind (wpAny_standAt ?_))
  have hform : methodCallForm (es.length + 0) (backTo p (starEach es env)) (backToKw p (keywordEach [] env)) = true := by
    have n := noStar (p := p) D
    unfold methodCallForm
    have a1 : (backTo p (starEach es env)).all (!·.1) = true := by
      rw [List.all_eq_true]
      intro x hx
      have := List.any_eq_false.mp n x hx
      simpa using this
    rw [a1]
    show (true && true && decide (es.length + 0 + 0 < 30)) = true
    simp [hl]
  show wpAny _ _ (methodCall o name apos p env v (es.length + 0) (backTo p (starEach es env)) (backToKw p (keywordEach [] env))) _ _ _
  unfold methodCall
  rw [hform]
  refine wpAny_bind (wpAny_holding ?_)
  show wpAny _ _ (getMethod v name _) _ _ _
  refine hg A _ E s₁ ρ₁ σ₁ r v _ R₁ q₁ hkd ?_
  dsimp only
  have hpos : methodCallPos true o env apos p = pure p := by
    unfold methodCallPos
    rw [hp]; rfl
  rw [hpos]
  refine wpAny_bind (wpAny_pure ?_)
  refine callWith_rel H D e2 hk hA R₁ (lr.go S₁) fun vs s₂ ρ₂ R₂ S₂ q₂ => ?_
  exact DF _ _ _ _ hf A _ E s₂ ρ₂ (v :: vs) hA R₂ (.cons (q₁.go S₂) q₂) fun v' s₃ ρ₃ R₃ S₃ q₃ => kk v' s₃ ρ₃ R₃ ((S₁.trans S₂).trans S₃) q₃
end
end Mine.Internal
end
section
open PySem PySem.W PyProof.Rows PySem.Calls
namespace Mine.Internal
set_option tactic.hygienic false in
theorem check_meth {M : Model} {A : Around} {E : Value → Shared → Prop} {s : Shared} {i owner n : String} {self : Value} {rest : List Value} {kw : List (Str × Value)} {Q : Unit → Shared → Prop}
    (hk : builtinKind i = some .method) (hs : splitId i = some (owner, n)) (hi : Looks M s.heap (isInstance self (.type owner)) true) (ha : argsOk i ⟨self :: rest, kw⟩) (q : Q () s) :
    wpAny M A (checkBuiltinCall i ⟨self :: rest, kw⟩) Q E s := by
  simp only [checkBuiltinCall, hk, hs]
  refine wpAny_bind (hi.here ?_)
  simp only [Bool.not_true, Bool.false_eq_true, if_false]
  cases hsig : Manifest.signature? i with
  | none => exact wpAny_pure q
  | some sig =>
    simp only [argsOk, hsig] at ha
    have h2 : Bind.checkArgs i sig ⟨self :: rest, kw⟩ = pure () := ha
    show wpAny M A (Bind.checkArgs i sig ⟨self :: rest, kw⟩) Q E s
    rw [h2]; exact wpAny_pure q
section
variable {C : Cfg} {ρ : Rho} {σ : St} {s : Shared} {A : Around} {E : Value → Shared → Prop} {x Cl : Addr} {ox : Obj} {od : Option Obj}
set_option tactic.hygienic false in
theorem call_below {id n T : String} {B : Builtin} {rest : List Value} {Q : Value → Shared → Prop} (X : C.K.In s.heap) (I : W.InstAt s.heap x ox Cl od) (hm : mroIn C.K Cl (.type T) = some true) (hk : builtinKind id = some .method ∨ builtinKind id = some .slot) (hs : splitId id = some (T, n)) (hp : plainId id = true) (hb : entryFor table id = some B)
    (ha : argsOk id ⟨.ref x :: rest, []⟩) (hc : wpAny (model C.prog C.w) A.in1 (B ⟨.ref x :: rest, []⟩) (fun fin s' => ∃ v, fin = .done (.ret v) ∧ Q v s') E s) : wpAny (model C.prog C.w) A (call (.builtin id) (.ref x :: rest)) Q E s := by
  refine wpAny_call (codeAny_call_builtin hp hb ?_)
  have hfin := wpAny_mono hc (Q' := fun fin s' => match fin with
      | .done f => (match (Except.ok f : Result) with | .ok (.ret v) => Q v s' | .ok _ => False | .error e => E e s')
      | .again c' => c'.quiet = true ∧ codeAny (model C.prog C.w) A c' (fun r s' => match r with | .ok (.ret v) => Q v s' | .ok _ => False | .error e => E e s') s')
    (fun fin s' h' => by (refine x1_2 (h') fun v rr1 hv => ?_; clear h'; subst rr1); exact hv) fun uu uu h' => h'
  have L : Looks (model C.prog C.w) s.heap (isInstance (.ref x) (.type T)) true := I.type.andThen (looks_mroIn X hm)
  rcases hk with hk | hk
  · exact check_meth hk hs L ha hfin
  · exact check_slot hk hs L ha hfin
set_option tactic.hygienic false in
theorem nsGet_obj {d : Addr} {o : Obj} {name : Str} {r : Option Value} {M : Model} {Q : Option Value → Shared → Prop} (ho : s.heap.get? d = some o) (e : lookIn name o = some r) (k : Q r s) : wpAny M A (nsGet d name) Q E s := by
  unfold nsGet
  refine wpAny_bind (wpAny_loadPart ho ?_)
  rw [nsLook_of e]
  exact wpAny_pure k
set_option tactic.hygienic false in
theorem getMethod_inst {name : Str} {ga : String} {fv : Value} {tf : Value} {dx : Addr} {o : Obj} {pl : Sem Bool} {Q : Value × List Value → Shared → Prop} (X : C.K.In s.heap) (I : W.InstAt s.heap x ox Cl od) (hd : ox.dict = some dx) (ho : s.heap.get? dx = some o)
    (hga : findIn C.K (.ref Cl) "__getattribute__" = some (some (.builtin ga))) (hcan : (Manifest.canonical ga != "object.__getattribute__") = false) (hgt : findIn C.K (.ref Cl) "__getattr__" = some none)
    (hf : findIn C.K (.ref Cl) name = some (some fv)) (ht : typeIn C.K fv = some tf) (htf : tf = .type "function" ∨ tf = .type "method_descriptor" ∨ tf = .type "wrapper_descriptor") (hn : lookIn name o = some none) (k : Q (fv, [.ref x]) s) :
    wpAny (model C.prog C.w) A (getMethod (.ref x) name pl) Q E s := by
  unfold getMethod
  have sp : ∀ {nm : Str} {r : Option Value}, findIn C.K (.ref Cl) nm = some r → Looks (model C.prog C.w) s.heap (specialOf (.ref x) nm) r := fun e => I.type.andThen (looks_findIn X e)
  refine wpAny_bind ((sp hga).here ?_)
  dsimp only
  rw [hcan, if_neg Bool.false_ne_true]
  refine wpAny_bind ((sp hgt).here ?_)
  rw [if_neg (by simp)]
  refine wpAny_bind ((sp hf).here ?_)
  dsimp only
  refine wpAny_bind ((looks_typeIn X ht).here ?_)
  have : (tf != .type "function" && tf != .type "method_descriptor" && tf != .type "wrapper_descriptor") = false := by rcases htf with rfl | rfl | rfl <;> decide
  rw [this, if_neg Bool.false_ne_true]
  refine wpAny_bind (wpAny_loadPart I.at_ ?_)
  rw [hd]
  refine wpAny_bind (nsGet_obj ho hn ?_)
  exact wpAny_bind (wpAny_rule (wpAny_pure k))
theorem entR_get {h : Heap} {name : Str} : ∀ {r : List (Str × AV)} {es : List DictEntry}, EntR C ρ h r es → match r.lookup name with
    | some y => ∃ v, getL name es = some (some v) ∧ VR C ρ h y v
    | none => getL name es = some none
  | _, _, .nil => rfl
  | _, _, .cons (k := k) (x := y) (v := v) (r := r) (es := es) (t := t) a b => by
    have ih := entR_get (name := name) b
    rw [List.lookup_cons]
    by_cases hk : name = k
    · subst hk
      simp only [beq_self_eq_true]
      refine ⟨v, ?_, a⟩
      unfold getL
      rw [List.find?_cons]
      simp [Value.isStr]
    · rw [beq_false_of_ne hk]
      dsimp only
      have e : getL name (⟨PyData.keyHash C.w.params k, .str k t, v⟩ :: es) = getL name es := by
        unfold getL
        rw [List.find?_cons]
        have : Value.isStr (.str k t) name = false := by
          show (k == name) = false
          exact beq_false_of_ne (Ne.symm hk)
        simp only [this, List.any_cons]
        rfl
      split
      · rename_i y' e'
        rw [e'] at ih
        (refine x1_2 (ih) fun v' h1 h2 => ?_; clear ih)
        exact ⟨v', e.trans h1, h2⟩
      · rename_i e'
        rw [e'] at ih
        exact e.trans ih
set_option tactic.hygienic false in
theorem getAttr_val {name : Str} {v : Value} {expr : Bool} {Q : Value → Shared → Prop} (X : C.K.In s.heap) (I : W.InstAt s.heap x ox Cl od) (hga : findIn C.K (.ref Cl) "__getattribute__" = some (some (.builtin "object.__getattribute__")))
    (hf : findObj C.K Cl od name = some (.value v)) (hh : handedIn v = true) (k : Q v { s with toks := s.toks + 1 }) : wpAny (model C.prog C.w) A (getAttr (.ref x) name expr) Q E s := get_value X I hga hf hh k
set_option tactic.hygienic false in
theorem ga_bind : bindSpecial (.builtin "list.__getattribute__") (.ref x) = pure (.builtin "list.__getattribute__", [.ref x]) := F.slot_list_getattribute.bind _
set_option tactic.hygienic false in
theorem getAttr_list {name : Str} {v : Value} {expr : Bool} {Q : Value → Shared → Prop} (X : C.K.In s.heap) (I : W.InstAt s.heap x ox Cl od) (hga : findIn C.K (.ref Cl) "__getattribute__" = some (some (.builtin "list.__getattribute__"))) (hgt : findIn C.K (.ref Cl) "__getattr__" = some none)
    (hm : mroIn C.K Cl (.type "list") = some true) (hf : findObj C.K Cl od name = some (.value v)) (hh : handedIn v = true) (k : Q v { s with toks := s.toks + 1 }) : wpAny (model C.prog C.w) A (getAttr (.ref x) name expr) Q E s := by
  have L1 := looks_findIn (M := model C.prog C.w) X hga
  have L2 := looks_findIn (M := model C.prog C.w) X hgt
  have L3 := looks_find (M := model C.prog C.w) X I hf
  have L0 := I.type (M := model C.prog C.w)
  obtain ⟨hp, g, d, t, os⟩ := s
  unfold getAttr getAttrBy
  refine wpAny_bind (wpAny_mkText (wpAny_holding (wpAny_bind (L0.at (wpAny_bind (L1.at ?_))))))
  show wpAny _ _ (getAttrByItsOwn _ _ _ _ _ _) _ _ _
  unfold getAttrByItsOwn
  refine wpAny_bind (L2.at ?_)
  refine wpAny_bind (wpAny_attempt (wpAny_holding ?_))
  have e : callGetattribute (.ref x) (.str name t) (.builtin "list.__getattribute__") expr = boundAndCalled (.builtin "list.__getattribute__") (.ref x) (.str name t) := by
    unfold callGetattribute
    rw [if_neg (by simp [onTheHeap])]
  rw [e]
  unfold boundAndCalled
  rw [ga_bind]
  refine wpAny_bind (wpAny_pure ?_)
  refine call_below (s := ⟨hp, g, d, t + 1, os⟩) X I hm (.inr (by decide +kernel)) (n := "__getattribute__") (by decide +kernel) (by decide +kernel) F.entry_list_ga (by unfold argsOk; kernel_rfl) ?_
  refine wpAny_bind (wpAny_pure (wpAny_bind (wpAny_pure (wpAny_bind (L0.at (wpAny_bind (L3.at ?_)))))))
  refine wpAny_pure ⟨_, rfl, ?_⟩
  show wpAny _ _ (handedOut v) _ _ _
  rw [handedOut_of hh]
  exact wpAny_pure k
end
end Mine.Internal
end
section
open PySem PySem.W PyProof.Rows PySem.Calls
namespace Mine.Internal
noncomputable def attrName : Nat → Str
  | 0 => "_maxlen"
  | 1 => "_continuation_ws"
  | 2 => "_continuation_ws_len"
  | 3 => "_splitchars"
  | 4 => "_lines"
  | 5 => "_current_line"
  | _ => "_initial_size"
noncomputable def attrOf (k : Nat) : AO → Option AV
  | .fmt ml cw cwl sp ln ac => ((fmtAttrs ml cw cwl sp ln ac)[k]?).map (·.2)
  | .acc ini _ => if k = 6 then some (.int ini) else none
  | _ => none
set_option tactic.hygienic false in
theorem fmt_lookup {k : Nat} {ml : Int} {cw : Str} {cwl : Int} {sp : Str} {ln ac : Nat} {x : AV} (h : attrOf k (.fmt ml cw cwl sp ln ac) = some x) : (fmtAttrs ml cw cwl sp ln ac).lookup (attrName k) = some x ∧ k < 6 := by
  match k, h with
  | 0, h => cases h; exact ⟨rfl, by decide⟩
  | 1, h => cases h; exact ⟨rfl, by decide⟩
  | 2, h => cases h; exact ⟨rfl, by decide⟩
  | 3, h => cases h; exact ⟨rfl, by decide⟩
  | 4, h => cases h; exact ⟨rfl, by decide⟩
  | 5, h => cases h; exact ⟨rfl, by decide⟩
  | k + 6, h => cases h
theorem acc_lookup {k : Nat} {ini : Int} {ps : List (Str × Str)} {x : AV} (h : attrOf k (.acc ini ps) = some x) : (accAttrs ini).lookup (attrName k) = some x ∧ attrName k = "_initial_size" := by
  have h : (if k = 6 then some (AV.int ini) else none) = some x := h
  split at h
  · rename_i hk; subst hk; cases h; exact ⟨rfl, rfl⟩
  · exact ns h
structure ClsOk (C : Cfg) : Prop where
  vfGa : findIn C.K (.ref C.VF) "__getattribute__" = some (some (.builtin "object.__getattribute__"))
  vfGt : findIn C.K (.ref C.VF) "__getattr__" = some none
  vfDict : hasDictIn C.K C.VF = true
  vfAttr : ∀ k, k < 6 → findIn C.K (.ref C.VF) (attrName k) = some none
  acGa : findIn C.K (.ref C.ACC) "__getattribute__" = some (some (.builtin "list.__getattribute__"))
  acGt : findIn C.K (.ref C.ACC) "__getattr__" = some none
  acDict : hasDictIn C.K C.ACC = true
  acAttr : findIn C.K (.ref C.ACC) "_initial_size" = some none
  acMro : mroIn C.K C.ACC (.type "list") = some true
section
variable {C : Cfg} {ρ : Rho} {σ : St} {s : Shared} {A : Around} {E : Value → Shared → Prop}
set_option tactic.hygienic false in
theorem fmtInst {h : Heap} {a d : Addr} {es : List DictEntry} {n : Nat} (ho : h.get? a = some ⟨.ref C.VF, some d, .plain, #[]⟩) (hd : h.get? d = some (dictOf es n)) : W.InstAt h a ⟨.ref C.VF, some d, .plain, #[]⟩ C.VF (some (dictOf es n)) := ⟨ho, rfl, rfl, hd⟩
set_option tactic.hygienic false in
theorem accInst {h : Heap} {a d : Addr} {es : List DictEntry} {n n' : Nat} {vs : List Value} (ho : h.get? a = some ⟨.ref C.ACC, some d, .seq vs.toArray n, #[]⟩) (hd : h.get? d = some (dictOf es n')) : W.InstAt h a ⟨.ref C.ACC, some d, .seq vs.toArray n, #[]⟩ C.ACC (some (dictOf es n')) := ⟨ho, rfl, rfl, hd⟩
set_option tactic.hygienic false in
theorem vr_handed {h : Heap} {x : AV} {v : Value} (q : VR C ρ h x v) : handedIn v = true := by cases q <;> rfl
set_option tactic.hygienic false in
theorem attr_rel (H : CfgOk C) (HC : ClsOk C) {k : Nat} {x : AV} {l : Nat} {o : AO} {v : Value} {Q : Value → Shared → Prop} (R : Rel C ρ σ s) (q : VR C ρ s.heap (.loc l) v) (hl : σ[l]? = some o) (h : attrOf k o = some x)
    (kk : ∀ w s', Rel C ρ σ s' → Step C [] ρ ρ s.heap s'.heap → VR C ρ s'.heap x w → Q w s') : wpAny (model C.prog C.w) A (getAttr v (attrName k) true) Q E s := by
  have X := R.kin H
  (refine x1_2 (R.obj hl) fun p e1 ob => ?_)
  refine q.loc_e fun uu e0 => ?_
  ·
    rw [e0] at e1
    (refine c1 e1 fun hh0 => ?_; clear e1; subst hh0)
    cases ob with
    | list => cases h
    | ghost => cases h
    | out => cases h
    | gen => cases h
    | fmt ho hd he =>
      have g := entR_get (name := attrName k) he
      (refine x0_2 (fmt_lookup h) fun h' hk => ?_)
      rw [h'] at g
      (refine x1_2 (g) fun w hw qw => ?_; clear g)
      exact getAttr_val X (fmtInst ho hd) HC.vfGa (findObj_own HC.vfDict (HC.vfAttr k hk) rfl hw) (vr_handed qw) (kk w _ R.toks .refl qw)
    | acc ho hd he hs =>
      have g := entR_get (name := attrName k) he
      (refine x0_2 (acc_lookup h) fun h' hk => ?_)
      rw [h'] at g
      (refine x1_2 (g) fun w hw qw => ?_; clear g)
      rw [hk] at hw ⊢
      exact getAttr_list X (accInst ho hd) HC.acGa HC.acGt HC.acMro (findObj_own HC.acDict HC.acAttr rfl hw) (vr_handed qw) (kk w _ R.toks .refl qw)
noncomputable def attrE (k : Nat) (f : EM) : EM := fun lc σ => match f lc σ with
  | some (.loc l, σ₁) => match σ₁[l]? with
    | some o => (attrOf k o).map (·, σ₁)
    | none => none
  | _ => none
set_option tactic.hygienic false in
theorem den_attr {d : Nat} {env : Env} {vars : List Str} {p : Pos} {o : Expr} {n : Str} {f : EM} {k : Nat} (H : CfgOk C) (HC : ClsOk C) (hn : attrName k = n) (D : DenE C d env vars o f) (hb : ∀ nm whole, attributeBase o nm env whole = whole) : DenE C d env vars (.Attribute o n p) (attrE k f) := by
  intro lc σ x σ' hf A Q E s ρ hA R lr kk
  unfold attrE at hf
  (refine sl hf ?_; clear hf; intro l σ₁ e1 hf)
  (refine so1 hf ?_; clear hf; intro ob e2 hf)
  (refine x1_2 (Option.map_eq_some_iff.mp hf) fun y hy e3 => ?_)
  (refine p2 e3 fun hh0 hh1 => ?_; clear e3; subst hh0; subst hh1)
  subst hn
  refine Attribute_any_ (D _ _ _ _ e1 A _ E s ρ hA R lr fun v s₁ ρ₁ R₁ S₁ q₁ => ?_) (by rw [arm_eval_Attribute, hb])
  exact attr_rel H HC R₁ q₁ e2 hy fun w s₂ R₂ S₂ q₂ => kk w s₂ ρ₁ R₂ (S₁.trans S₂) q₂
set_option tactic.hygienic false in
theorem kind_loc {x : AV} {k : Nat} (h : kind σ x = k) (hk : 2 < k) : ∃ l o, x = .loc l ∧ σ[l]? = some o := by
  cases x with
  | loc l => unfold kind at h; dsimp only at h; split at h <;> first | exact ⟨l, _, rfl, ‹_›⟩ | (first | lia | omega)
  | _ => simp [kind] at h; (first | lia | omega)
set_option tactic.hygienic false in
theorem getM_fmt (H : CfgOk C) (HC : ClsOk C) {name : Str} {f : Addr} (hf : findIn C.K (.ref C.VF) name = some (some (.ref f))) (ht : typeIn C.K (.ref f) = some (.type "function")) (c : ∀ k, k < 6 → (name == attrName k) = false) : GetM C 3 name (.ref f) := by
  intro A Q E s ρ σ x v pl R q hk kk
  obtain ⟨l, o, rfl, hl⟩ := kind_loc hk (by (first | lia | omega))
  (refine x1_2 (R.obj hl) fun p e1 ob => ?_)
  (refine x1_2 (q.loc_inv) fun uu e0 rr2 => ?_; subst rr2)
  ·
    rw [e0] at e1
    (refine c1 e1 fun hh0 => ?_; clear e1; subst hh0)
    cases ob with
    | list => simp [kind, hl] at hk
    | ghost => simp [kind, hl] at hk
    | out => simp [kind, hl] at hk
    | gen => simp [kind, hl] at hk
    | acc => simp [kind, hl] at hk
    | @fmt _ _ _ _ ml cw cwl sp ln ac ho hd he =>
      have g := entR_get (name := name) he
      have e : (fmtAttrs ml cw cwl sp ln ac).lookup name = none := by
        unfold fmtAttrs
        simp only [List.lookup_cons, c 0 (by (first | lia | omega)), c 1 (by (first | lia | omega)), c 2 (by (first | lia | omega)), c 3 (by (first | lia | omega)), c 4 (by (first | lia | omega)), c 5 (by (first | lia | omega)), List.lookup_nil, show ("_maxlen" : Str) = attrName 0 from rfl, show ("_continuation_ws" : Str) = attrName 1 from rfl, show ("_continuation_ws_len" : Str) = attrName 2 from rfl, show ("_splitchars" : Str) = attrName 3 from rfl, show ("_lines" : Str) = attrName 4 from rfl, show ("_current_line" : Str) = attrName 5 from rfl]
      rw [e] at g
      exact getMethod_inst (R.kin H) (fmtInst ho hd) rfl hd HC.vfGa (by decide +kernel) HC.vfGt hf ht (.inl rfl) g kk
set_option tactic.hygienic false in
theorem getM_acc (H : CfgOk C) (HC : ClsOk C) {name : Str} {fv tf : Value} (hf : findIn C.K (.ref C.ACC) name = some (some fv)) (ht : typeIn C.K fv = some tf) (htf : tf = .type "function" ∨ tf = .type "method_descriptor" ∨ tf = .type "wrapper_descriptor") (hn : (name == ("_initial_size" : Str)) = false) : GetM C 4 name fv := by
  intro A Q E s ρ σ x v pl R q hk kk
  obtain ⟨l, o, rfl, hl⟩ := kind_loc hk (by (first | lia | omega))
  (refine x1_2 (R.obj hl) fun p e1 ob => ?_)
  (refine x1_2 (q.loc_inv) fun uu e0 rr2 => ?_; subst rr2)
  ·
    rw [e0] at e1
    (refine c1 e1 fun hh0 => ?_; clear e1; subst hh0)
    cases ob with
    | list => simp [kind, hl] at hk
    | ghost => simp [kind, hl] at hk
    | out => simp [kind, hl] at hk
    | gen => simp [kind, hl] at hk
    | fmt => simp [kind, hl] at hk
    | @acc _ _ _ _ _ _ ini ps ho hd he hs =>
      have g := entR_get (name := name) he
      have e : (accAttrs ini).lookup name = none := by
        unfold accAttrs
        rw [List.lookup_cons, hn]
        rfl
      rw [e] at g
      exact getMethod_inst (R.kin H) (accInst ho hd) rfl hd HC.acGa (by decide +kernel) HC.acGt hf ht htf g kk
end
end Mine.Internal
end
section
open PySem PySem.W PyProof.Rows PySem.Calls
namespace Mine.Internal
section
variable {C : Cfg} {ρ : Rho} {σ : St} {s : Shared} {A : Around} {E : Value → Shared → Prop}
set_option tactic.hygienic false in
theorem stepMut {a : Addr} {h h' : Heap} (hm : Mut C ρ a) (hs : Heap.SameBut a h h') : Step C [] ρ ρ h h' :=
  ⟨by rw [hs.1]; exact Nat.le_refl _, fun b o e n uu => (hs.2 b fun z => n (z ▸ hm)).trans e, [], by simp, fun uu hp => nomatch hp⟩
set_option tactic.hygienic false in
theorem dis_of (R : Rel C ρ σ s) {l l' : Nat} {p q : Addr × Addr} (hl : ρ[l]? = some p) (hl' : ρ[l']? = some q) (hne : l ≠ l') : p.1 ≠ q.1 ∧ p.1 ≠ q.2 ∧ p.2 ≠ q.1 ∧ p.2 ≠ q.2 := by
  obtain ⟨h1, e1⟩ := List.getElem?_eq_some_iff.mp hl
  obtain ⟨h2, e2⟩ := List.getElem?_eq_some_iff.mp hl'
  have D := List.pairwise_iff_getElem.mp R.dis
  rcases Nat.lt_or_gt_of_ne hne with h | h
  · have := D l l' h1 h2 h; rw [e1, e2] at this; exact this
  · have := D l' l h2 h1 h; rw [e1, e2] at this; exact ⟨this.1.symm, this.2.2.1.symm, this.2.1.symm, this.2.2.2.symm⟩
set_option tactic.hygienic false in
theorem ObjR.noFields {h : Heap} {p : Addr × Addr} {o : AO} {a : Addr} (z : ObjR C ρ h p o) (ha : p.1 = a ∨ p.2 = a) : ∃ ob, h.get? a = some ob ∧ ((∀ vs, ob.data ≠ .fields vs) ∨ ob.cls = .type "generator") := by
  cases z with
  | list h1 _ => rcases ha with rfl | rfl <;> exact ⟨_, h1, .inl (by intro _ z; cases z)⟩
  | fmt h1 h2 _ => rcases ha with rfl | rfl; exact ⟨_, h1, .inl (by intro _ z; cases z)⟩; exact ⟨_, h2, .inl (by intro _ z; cases z)⟩
  | acc h1 h2 _ _ => rcases ha with rfl | rfl; exact ⟨_, h1, .inl (by intro _ z; cases z)⟩; exact ⟨_, h2, .inl (by intro _ z; cases z)⟩
  | ghost h1 => rcases ha with rfl | rfl <;> exact ⟨_, h1, .inl (by intro _ z; cases z)⟩
  | out h1 => rcases ha with rfl | rfl <;> exact ⟨_, h1, .inr rfl⟩
  | gen h1 hL =>
    rcases ha with rfl | rfl
    · exact ⟨_, h1, .inr rfl⟩
    · obtain ⟨mm, q, ⟨o, es, ep, ho, hd, _⟩, _⟩ := hL.self
      exact ⟨o, ho, .inl (by intro _ z; rw [hd] at z; cases z)⟩
set_option tactic.hygienic false in
theorem Rel.upd (R : Rel C ρ σ s) {l : Nat} {p : Addr × Addr} {o' : AO} {a : Addr} {h' : Heap} {n : Nat} (hl : ρ[l]? = some p) (ha : p.1 = a ∨ p.2 = a) (hs : Heap.SameBut a s.heap h') (ho' : ObjR C ρ h' p o') (ng : o'.isGen = false) :
    Rel C ρ (σ.set l o') { s with heap := h', toks := n } ∧ Step C [] ρ ρ s.heap h' := by
  have hmem := List.mem_of_getElem? hl
  have hm : Mut C ρ a := .inr ⟨p, hmem, ha⟩
  have S : Step C [] ρ ρ s.heap h' := stepMut hm hs
  have hlo : C.s₁.heap.objs.size ≤ a := by rcases ha with rfl | rfl; exact (R.lo p hmem).1; exact (R.lo p hmem).2
  have tabLt : ∀ t ∈ C.tabs, t.1 ≠ a ∧ t.2.1 ≠ a := fun t ht => by
    obtain ⟨_, _, ⟨⟨o, vs, ho, hc, hd, _⟩, hP⟩⟩ := R.tab t ht
    have q : l < σ.length := R.len ▸ (List.getElem?_eq_some_iff.mp hl).1
    (refine x1_2 ((R.st l p σ[l] hl (List.getElem?_eq_getElem q)).noFields ha) fun ob hob hn => ?_)
    constructor
    · rintro rfl
      rw [hob] at ho; cases ho
      exact hn.elim (fun hn => hn _ hd) fun hn => by rw [hc] at hn; exact absurd hn (by decide)
    · rintro rfl
      rw [hob] at hP; cases hP
      exact hn.elim (fun hn => hn _ rfl) fun hn => absurd (show Value.none = .type "generator" from hn) (by decide)
  have gk : ∀ (l' : Nat) (p' : Addr × Addr) (x : AO), ρ[l']? = some p' → (σ.set l o')[l']? = some x → x.isGen = true → ∀ o, s.heap.get? p'.1 = some o → h'.get? p'.1 = some o := by
    intro l' p' x e e' hx o ho
    have hll : l ≠ l' := by
      rintro rfl
      rw [List.getElem?_set_self (by exact R.len ▸ (List.getElem?_eq_some_iff.mp hl).1)] at e'
      cases e'; rw [hx] at ng; cases ng
    have d := dis_of R hl e hll
    refine (hs.2 _ ?_).trans ho
    rcases ha with rfl | rfl
    · exact d.1.symm
    · exact d.2.2.1.symm
  refine ⟨⟨fun b o e nt => ?_, fun t ht => ?_, R.lo, R.dis, by rw [List.length_set]; exact R.len, fun l' p' o e e' => ?_, (R.gens.set ng).heap gk, R.drawn, R.os, by show _ ≤ h'.objs.size; rw [hs.1]; exact R.size⟩, S⟩
  · exact (hs.2 b (Nat.ne_of_lt (Nat.lt_of_lt_of_le (Heap.lt_size e) hlo))).trans (R.old b o e nt)
  · (refine x1_2 (R.tab t ht) fun more x y => ?_)
    have := tabLt t ht
    exact ⟨more, x.sameBut hs this.1 this.2, y.sameBut hs this.1 this.2⟩
  · by_cases hll : l = l'
    · subst hll
      rw [hl] at e
      (refine c1 e fun hh0 => ?_; clear e; subst hh0)
      rw [List.getElem?_set_self (by exact R.len ▸ (List.getElem?_eq_some_iff.mp hl).1)] at e'
      (refine c1 e' fun hh0 => ?_; clear e'; subst hh0)
      exact ho'
    · rw [List.getElem?_set_ne hll] at e'
      have d := dis_of R hl e hll
      have n1 : p'.1 ≠ a := by rcases ha with rfl | rfl; exact d.1.symm; exact d.2.2.1.symm
      have n2 : p'.2 ≠ a := by rcases ha with rfl | rfl; exact d.2.1.symm; exact d.2.2.2.symm
      cases R.st l' p' o e e' with
      | list ho hv => exact .list ((hs.2 _ n1).trans ho) (hv.go S)
      | fmt ho hd he => exact .fmt ((hs.2 _ n1).trans ho) ((hs.2 _ n2).trans hd) (he.go S)
      | acc ho hd he hv => exact .acc ((hs.2 _ n1).trans ho) ((hs.2 _ n2).trans hd) (he.go S) (hv.go S)
      | ghost ho => exact .ghost ((hs.2 _ n1).trans ho)
      | out ho => exact .out ((hs.2 _ n1).trans ho)
      | gen ho hL => exact .gen ((hs.2 _ n1).trans ho) (hL.keep fun o e => (hs.2 _ n2).trans e)
set_option tactic.hygienic false in
theorem accNe {h : Heap} {a d : Addr} {vs : List Value} {n n' : Nat} {es : List DictEntry} (ho : h.get? a = some ⟨.ref C.ACC, some d, .seq vs.toArray n, #[]⟩) (hd : h.get? d = some (dictOf es n')) : d ≠ a := by
  rintro rfl
  rw [ho] at hd
  cases hd
set_option tactic.hygienic false in
theorem mapSeq_at {h : Heap} {a : Addr} {c : Value} {d : Option Addr} {items : Array Value} {n : Nat} {sl : Array (Option Value)} (ho : h.get? a = some ⟨c, d, .seq items n, sl⟩) (f : Array Value → Array Value) :
    (h.update a (Obj.mapSeq f)).get? a = some ⟨c, d, .seq (f items) (if (f items).size == items.size then n else n + 1), sl⟩ := Heap.get?_update_self _ ho rfl
set_option tactic.hygienic false in
theorem append_any {a : Addr} {c : Value} {d : Option Addr} {items : Array Value} {n : Nat} {sl : Array (Option Value)} {x : Value} {Q : Fin → Shared → Prop} (ho : s.heap.get? a = some ⟨c, d, .seq items n, sl⟩) (hz : items.size ≤ sizeLine)
    (k : Q (.done (.ret .none)) { s with heap := s.heap.update a (Obj.mapSeq fun xs => xs.push x) }) : wpAny (model C.prog C.w) A (Builtin.«list.append» ⟨[.ref a, x], []⟩) Q E s := by
  obtain ⟨hp, g, dd, tk, os⟩ := s
  have hz' : (items.push x).size ≤ sizeLine + 1 := by rw [Array.size_push]; (first | lia | omega)
  wp_walk using (wpAny_updateSeq ho rfl (hz := hz) (_hz' := hz'))
  exact k
noncomputable def isPart : AV → Option (Str × Str)
  | .tup [.str a, .str b] => some (a, b)
  | _ => none
set_option tactic.hygienic false in
theorem isPart_eq {x : AV} {p : Str × Str} (h : isPart x = some p) : x = partAV p := by
  unfold isPart at h
  split at h
  · cases h; rfl
  · exact ns h
noncomputable def appendF (xs : List AV) (σ : St) : Option (AV × St) := match xs with
  | [.loc l, x] => match σ[l]? with
    | some (.list ys) => if ys.length ≤ sizeLine then some (.none, σ.set l (.list (ys ++ [x]))) else none
    | some (.acc i ps) => match isPart x with
      | some p => if ps.length ≤ sizeLine then some (.none, σ.set l (.acc i (ps ++ [p]))) else none
      | none => none
    | _ => none
  | _ => none
theorem den_append (H : CfgOk C) (HC : ClsOk C) {d : Nat} : DenCall C (d + 1) (.builtin "list.append") appendF := by
  intro xs σ x σ' hf A Q E s ρ vs hA R q k
  unfold appendF at hf
  split at hf
  · rename_i l y
    refine q.cons_e fun uu uu q1 q2 => q2.cons_e fun v uu q2 q3 => q3.nil_e ?_
    ·
      ·
        split at hf
        · rename_i ys e
          (refine sf hf ?_; clear hf; intro hz hf)
          (refine c2 hf fun hh0 hh1 => ?_; clear hf; subst hh0; subst hh1)
          (refine x1_2 (R.obj e) fun p e1 ob => ?_)
          refine q1.loc_e fun uu e0 => ?_
          rw [e0] at e1; cases e1
          cases ob with | @list a vs n _ ho hs =>
          have hz' : vs.toArray.size ≤ sizeLine := by rw [List.size_toArray, hs.length]; exact hz
          refine wpAny_call_entry F.slot_list_append (T := "list") ⟨_, ho, rfl⟩ F.entry_list_append (append_any ho hz' ⟨_, rfl, ?_⟩) (F.args_list_append_2 _ _)
          have hsb := Heap.SameBut.update s.heap a (Obj.mapSeq fun xs => xs.push v)
          have S : Step C [] ρ ρ s.heap (s.heap.update a (Obj.mapSeq fun xs => xs.push v)) := stepMut (.inr ⟨_, List.mem_of_getElem? e0, .inl rfl⟩) hsb
          have gt := mapSeq_at ho (fun xs => xs.push v)
          rw [List.push_toArray] at gt
          (refine x0_2 (R.upd (n := s.toks) e0 (.inl rfl) hsb (.list gt ((hs.go S).append (.cons (q2.go S) .nil))) rfl) fun R' S' => ?_)
          exact k _ _ _ R' S' .none
        · rename_i i ps e
          (refine so2 hf ?_; clear hf; intro pt e2 hf)
          (refine sf hf ?_; clear hf; intro hz hf)
          (refine c2 hf fun hh0 hh1 => ?_; clear hf; subst hh0; subst hh1)
          (refine x1_2 (R.obj e) fun p e1 ob => ?_)
          refine q1.loc_e fun uu e0 => ?_
          rw [e0] at e1; cases e1
          cases ob with | @acc a dd _ _ _ vs _ _ ho hd he hs =>
          have hz' : vs.toArray.size ≤ sizeLine := by rw [List.size_toArray, hs.length, List.length_map]; exact hz
          refine call_below (R.kin H) (accInst ho hd) HC.acMro (.inl (by decide +kernel)) (n := "append") (by decide +kernel) (by decide +kernel) F.entry_list_append (F.args_list_append_2 _ _) (append_any ho hz' ⟨_, rfl, ?_⟩)
          have hsb := Heap.SameBut.update s.heap a (Obj.mapSeq fun xs => xs.push v)
          have S : Step C [] ρ ρ s.heap (s.heap.update a (Obj.mapSeq fun xs => xs.push v)) := stepMut (.inr ⟨_, List.mem_of_getElem? e0, .inl rfl⟩) hsb
          have gt := mapSeq_at ho (fun xs => xs.push v)
          rw [List.push_toArray] at gt
          rw [isPart_eq e2] at q2
          obtain ⟨R', S'⟩ := R.upd (n := s.toks) e0 (.inl rfl) hsb (.acc (parts := ps ++ [pt]) gt ((hsb.2 _ (accNe ho hd)).trans hd) (he.go S) (by rw [List.map_append]; exact (hs.go S).append (.cons (q2.go S) .nil))) rfl
          exact k _ _ _ R' S' .none
        · exact ns hf
  · exact ns hf
end
end Mine.Internal
end
section
open PySem PySem.W PyProof.Rows PySem.Calls
namespace Mine.Internal
section
variable {C : Cfg} {s : Shared} {A : Around} {E : Value → Shared → Prop} {x Cl : Addr} {ox : Obj} {od : Option Obj}
set_option tactic.hygienic false in
theorem call_inst {id n T : String} {B : Builtin} {v : Value} {rest : List Value} {Q : Value → Shared → Prop} (L : Looks (model C.prog C.w) s.heap (isInstance v (.type T)) true) (hk : builtinKind id = some .method ∨ builtinKind id = some .slot) (hs : splitId id = some (T, n)) (hp : plainId id = true) (hb : entryFor table id = some B)
    (ha : argsOk id ⟨v :: rest, []⟩) (hc : wpAny (model C.prog C.w) A.in1 (B ⟨v :: rest, []⟩) (fun fin s' => ∃ v, fin = .done (.ret v) ∧ Q v s') E s) : wpAny (model C.prog C.w) A (call (.builtin id) (v :: rest)) Q E s := by
  refine wpAny_call (codeAny_call_builtin hp hb ?_)
  have hfin := wpAny_mono hc (Q' := fun fin s' => match fin with
      | .done f => (match (Except.ok f : Result) with | .ok (.ret v) => Q v s' | .ok _ => False | .error e => E e s')
      | .again c' => c'.quiet = true ∧ codeAny (model C.prog C.w) A c' (fun r s' => match r with | .ok (.ret v) => Q v s' | .ok _ => False | .error e => E e s') s')
    (fun fin s' h' => by (refine x1_2 (h') fun v rr1 hv => ?_; clear h'; subst rr1); exact hv) fun uu uu h' => h'
  rcases hk with hk | hk
  · exact check_meth hk hs L ha hfin
  · exact check_slot hk hs L ha hfin
end
set_option tactic.hygienic false in
theorem own_len : ".".intercalate ("list.__len__".cutAt '.').dropLast = "list" := by decide +kernel
set_option tactic.hygienic false in
theorem own_init : ".".intercalate ("list.__init__".cutAt '.').dropLast = "list" := by decide +kernel
set_option tactic.hygienic false in
theorem own_pop : ".".intercalate ("list.pop".cutAt '.').dropLast = "list" := by decide +kernel
set_option tactic.hygienic false in
theorem told_pop : Manifest.toldItsClass.contains "list.pop" = false := by decide +kernel
set_option tactic.hygienic false in
theorem sig_len (v : Value) : checkBoundCall "list.__len__" ⟨[v], []⟩ = pure () := by kernel_rfl
set_option tactic.hygienic false in
theorem sig_init (v : Value) : checkBoundCall "list.__init__" ⟨[v], []⟩ = pure () := by kernel_rfl
set_option tactic.hygienic false in
theorem sig_pop (v : Value) : (match Manifest.signature? "list.pop" with | some sig => Bind.checkArgs "list.pop" { sig with full := "_Accumulator.pop" } ⟨[v], []⟩ | none => pure ()) = pure () := by kernel_rfl
set_option tactic.hygienic false in
theorem acc_name : (s!"{(Str.ofString "_Accumulator").toString}.{Bind.lastOf "list.pop"}") = "_Accumulator.pop" := by decide +kernel
set_option tactic.hygienic false in
theorem kind_pop : builtinKind "list.pop" = some .method := by decide +kernel
set_option tactic.hygienic false in
theorem va_pop : Manifest.varargsMethods.contains "list.pop" = false := by decide +kernel
structure SupM (id dt get bt : String) (B : Builtin) : Prop where
  ty : ∀ K, typeIn K (.builtin id) = some (.type dt)
  hget : ∀ K, findIn K (.type dt) "__get__" = some (some (.builtin get))
  inst : ∀ K, instIn K (.builtin id) (.type dt) = some true
  kind : builtinKind get = some .slot
  split : splitId get = some (dt, "__get__")
  plain : plainId get = true
  entry : entryFor table get = some B
  args : ∀ a b c : Value, argsOk get ⟨[a, b, c], []⟩
  run : ∀ {M : Model} {A : Around} {h : Heap} {g : Array GenState} {d : Drawn} {t : Nat} {os : OsState} {x C : Addr} {ox : Obj} {Q : Fin → Shared → Prop} {E : Value → Shared → Prop}, h.get? x = some ox → Looks M h (isSubtype ox.cls (.type "list")) true →
    Q (.done (.ret (.ref h.objs.size))) ⟨h.push { cls := .type bt, data := .fields #[.builtin id, .ref x] }, g, d, t, os⟩ → wpAny M A (B ⟨[.builtin id, .ref x, .ref C], []⟩) Q E ⟨h, g, d, t, os⟩
  hbt : bt = "method-wrapper" ∨ bt = "builtin_function_or_method"
set_option tactic.hygienic false in
theorem sup_len : SupM "list.__len__" "wrapper_descriptor" "wrapper_descriptor.__get__" "method-wrapper" Builtin.«wrapper_descriptor.__get__» where
  ty K := by kernel_rfl
  hget K := by kernel_rfl
  inst K := by kernel_rfl
  kind := by decide +kernel
  split := by decide +kernel
  plain := by decide +kernel
  entry := entryFor_of_tree (by kernel_rfl)
  args a b c := by unfold argsOk; kernel_rfl
  run hx L k := by
    unfold Builtin.«wrapper_descriptor.__get__»
    repeat (first | (with_reducible refine wpAny_loadPart_at hx ?_) | (simp only [own_len]; with_reducible refine Looks.at L ?_) | wp_step)
    all_goals exact k
  hbt := .inl rfl
set_option tactic.hygienic false in
theorem sup_init : SupM "list.__init__" "wrapper_descriptor" "wrapper_descriptor.__get__" "method-wrapper" Builtin.«wrapper_descriptor.__get__» where
  ty K := by kernel_rfl
  hget K := by kernel_rfl
  inst K := by kernel_rfl
  kind := by decide +kernel
  split := by decide +kernel
  plain := by decide +kernel
  entry := entryFor_of_tree (by kernel_rfl)
  args a b c := by unfold argsOk; kernel_rfl
  run hx L k := by
    unfold Builtin.«wrapper_descriptor.__get__»
    repeat (first | (with_reducible refine wpAny_loadPart_at hx ?_) | (simp only [own_init]; with_reducible refine Looks.at L ?_) | wp_step)
    all_goals exact k
  hbt := .inl rfl
set_option tactic.hygienic false in
theorem sup_pop : SupM "list.pop" "method_descriptor" "method_descriptor.__get__" "builtin_function_or_method" Builtin.«method_descriptor.__get__» where
  ty K := by kernel_rfl
  hget K := by kernel_rfl
  inst K := by kernel_rfl
  kind := by decide +kernel
  split := by decide +kernel
  plain := by decide +kernel
  entry := entryFor_of_tree (by kernel_rfl)
  args a b c := by unfold argsOk; kernel_rfl
  run hx L k := by
    unfold Builtin.«method_descriptor.__get__»
    repeat (first | (with_reducible refine wpAny_loadPart_at hx ?_) | (simp only [own_pop]; with_reducible refine Looks.at L ?_) | (simp only [told_pop, Bool.false_eq_true, if_false]) | wp_step)
    all_goals exact k
  hbt := .inr rfl
section
variable {C : Cfg} {A : Around} {E : Value → Shared → Prop} {h : Heap} {g : Array GenState} {d : Drawn} {t : Nat} {os : OsState}
set_option tactic.hygienic false in
theorem super_ga {so D x Cl : Addr} {ox : Obj} {l₀ l : List Value} {name : Str} {tk : Tok} {id dt get bt : String} {B : Builtin} {Q : Fin → Shared → Prop} (SM : SupM id dt get bt B)
    (hso : h.get? so = some { cls := .type "super", dict := none, data := .fields #[.ref D, .ref x, .ref Cl], slots := #[] }) (hno : Looks (model C.prog C.w) h (opaqueClassAbove (.ref Cl)) none)
    (hC : Looks (model C.prog C.w) h (mroOf (.ref Cl)) l₀) (hl : (l₀.dropWhile (· != .ref D)).drop 1 = l) (X : C.K.In h) (hx : h.get? x = some ox) (hxc : ox.cls = .ref Cl) (hsub : Looks (model C.prog C.w) h (isSubtype (.ref Cl) (.type "list")) true)
    (hf : alongIn C.K name l = some (some (.builtin id))) (hxC : x ≠ Cl) (hn : (name == ("__class__" : Str)) = false)
    (hq : Q (.done (.ret (.ref h.objs.size))) ⟨h.push { cls := .type bt, data := .fields #[.builtin id, .ref x] }, g, d, t, os⟩) :
    wpAny (model C.prog C.w) A (Builtin.«super.__getattribute__» ⟨[.ref so, .str name tk], []⟩) Q E ⟨h, g, d, t, os⟩ := by
  have hne : (Value.ref x == Value.ref Cl) = false := by simp [hxC]
  have hdt : ({ cls := .type "super", dict := none, data := .fields #[.ref D, .ref x, .ref Cl], slots := #[] } : Obj).data = .fields #[.ref D, .ref x, .ref Cl] := rfl
  have f0 : (#[.ref D, .ref x, .ref Cl] : Array Value)[0]? = some (.ref D) := rfl
  have f1 : (#[.ref D, .ref x, .ref Cl] : Array Value)[1]? = some (.ref x) := rfl
  have f2 : (#[.ref D, .ref x, .ref Cl] : Array Value)[2]? = some (.ref Cl) := rfl
  have L1 := looks_typeIn (M := model C.prog C.w) X (SM.ty C.K)
  have L2 := looks_findIn (M := model C.prog C.w) X (SM.hget C.K)
  have L3 := looks_instIn (M := model C.prog C.w) X (SM.inst C.K)
  have hcall : ∀ {Q' : Value → Shared → Prop} {E' : Value → Shared → Prop}, Q' (.ref h.objs.size) ⟨h.push { cls := .type bt, data := .fields #[.builtin id, .ref x] }, g, d, t, os⟩ → wpAny (model C.prog C.w) A (call (.builtin get) [.builtin id, .ref x, .ref Cl]) Q' E' ⟨h, g, d, t, os⟩ := fun hq' =>
    call_inst (s := ⟨h, g, d, t, os⟩) L3 (.inr SM.kind) SM.split SM.plain SM.entry (SM.args _ _ _) (SM.run hx (by rw [hxc]; exact hsub) ⟨_, rfl, hq'⟩)
  unfold Builtin.«super.__getattribute__»
  repeat (first
    | (with_reducible refine wpAny_field hso hdt f0 ?_) | (with_reducible refine wpAny_field hso hdt f1 ?_) | (with_reducible refine wpAny_field hso hdt f2 ?_)
    | (with_reducible refine ks_wpAny_notOpaque hno ?_)
    | (with_reducible refine Looks.at hC ?_; rw [hl])
    | (refine ks_forIn_along X (fun uu uu => rfl) rfl ?_ hf)
    | (with_reducible refine Looks.at L1 ?_)
    | (with_reducible refine Looks.at L2 ?_)
    | (with_reducible refine hcall ?_)
    | (simp only [hn, hne, Bool.or_false, Bool.false_eq_true, if_false])
    | wp_step
    | dsimp only)
  all_goals exact hq
set_option tactic.hygienic false in
theorem getMethod_super {so D x Cl : Addr} {ox : Obj} {l₀ l : List Value} {name : Str} {id dt get bt : String} {B : Builtin} {pl : Sem Bool} {Q : Value × List Value → Shared → Prop} (SM : SupM id dt get bt B)
    (hso : h.get? so = some { cls := .type "super", dict := none, data := .fields #[.ref D, .ref x, .ref Cl], slots := #[] }) (hno : Looks (model C.prog C.w) h (opaqueClassAbove (.ref Cl)) none)
    (hC : Looks (model C.prog C.w) h (mroOf (.ref Cl)) l₀) (hl : (l₀.dropWhile (· != .ref D)).drop 1 = l) (X : C.K.In h) (hx : h.get? x = some ox) (hxc : ox.cls = .ref Cl) (hsub : Looks (model C.prog C.w) h (isSubtype (.ref Cl) (.type "list")) true)
    (hf : alongIn C.K name l = some (some (.builtin id))) (hxC : x ≠ Cl) (hn : (name == ("__class__" : Str)) = false)
    (hq : Q (.ref h.objs.size, []) ⟨h.push { cls := .type bt, data := .fields #[.builtin id, .ref x] }, g, d, t + 1, os⟩) :
    wpAny (model C.prog C.w) A (getMethod (.ref so) name pl) Q E ⟨h, g, d, t, os⟩ := by
  have hlk := F.ks_slot_super_ga.lookup
  have hcan := F.ks_canon_super_ga
  have hT : ∀ t', (⟨h, g, d, t', os⟩ : Shared).TypeIs (.ref so) "super" := fun uu => ⟨_, hso, rfl⟩
  unfold getMethod
  refine wpAny_bind (wpAny_specialOf (hT _) hlk ?_)
  show wpAny _ _ (if (Manifest.canonical "super.__getattribute__" != "object.__getattribute__") = true then _ else _) _ _ _
  rw [if_pos hcan]
  unfold getAttr getAttrBy
  refine wpAny_bind (wpAny_bind (wpAny_mkText (wpAny_holding (wpAny_bind (wpAny_typeOf (hT _) (wpAny_bind (wpAny_of_eq hlk ?_)))))))
  show wpAny _ _ (getAttrByItsOwn (.ref so) (.str name t) (.type "super") (.builtin "super.__getattribute__") true false) _ _ _
  unfold getAttrByItsOwn hookBefore callGetattribute boundAndCalled
  refine wpAny_bind (wpAny_of_eq (show (if onTheHeap (.type "super") then typeLookup (.type "super") "__getattr__" else pure none) = pure none from rfl) ?_)
  refine wpAny_bind (wpAny_attempt (wpAny_holding ?_))
  show wpAny _ _ (bindSpecial (.builtin "super.__getattribute__") (.ref so) >>= _) _ _ _
  refine wpAny_bind (wpAny_of_eq (F.ks_slot_super_ga.bind _) ?_)
  refine wpAny_mono (Q := fun v s' => v = .ref h.objs.size ∧ s' = ⟨h.push { cls := .type bt, data := .fields #[.builtin id, .ref x] }, g, d, t + 1, os⟩) (E := fun uu uu => False)
    (wpAny_call_entry F.ks_slot_super_ga (hT _) F.ks_entry_super_ga (super_ga SM hso hno hC hl X hx hxc hsub hf hxC hn ⟨_, rfl, rfl, rfl⟩) (F.ks_gaArgs_super _ _)) (fun v s' hv => ?_) fun uu uu z => z.elim
  (refine x0_2 (hv) fun rr0 rr1 => ?_; clear hv; subst rr0; subst rr1)
  exact wpAny_pure (wpAny_pure hq)
set_option tactic.hygienic false in
theorem keep_bound {b : Addr} {bt : String} {fv x : Value} (hbt : bt = "method-wrapper" ∨ bt = "builtin_function_or_method") {h : Heap} (hb : h.get? b = some { cls := .type bt, data := .fields #[fv, x] }) : Looks (model C.prog C.w) h (keeperOf (.ref b)) .machine := by
  unfold keeperOf
  refine (Looks.ld (part := none) hb).andThen ?_
  rcases hbt with rfl | rfl <;> exact .now
set_option tactic.hygienic false in
theorem call_bound {b : Addr} {bt id : String} {x : Value} {B : Builtin} {Q : Value → Shared → Prop} {s : Shared} (hbt : bt = "method-wrapper" ∨ bt = "builtin_function_or_method") (hb : s.heap.get? b = some { cls := .type bt, data := .fields #[.builtin id, x] })
    (hck : ∀ {Q' : Unit → Shared → Prop} {E' : Value → Shared → Prop}, Q' () s → wpAny (model C.prog C.w) A.in1 (checkBoundCall id ⟨[x], []⟩) Q' E' s) (hp : plainId id = true) (he : entryFor table id = some B)
    (hc : wpAny (model C.prog C.w) A.in1 (B ⟨[x], []⟩) (fun fin s' => ∃ v, fin = .done (.ret v) ∧ Q v s') E s) : wpAny (model C.prog C.w) A (call (.ref b) []) Q E s := by
  refine wpAny_call (codeAny_of_tree ?_)
  show wpAny _ A.in1 (callAny (.ref b) ⟨[], []⟩) _ _ _
  unfold callAny
  refine wpAny_bind (wpAny_load hb ?_)
  dsimp only
  have e1 : (((Value.type bt == .type "method") || (Value.type bt == .type "builtin_function_or_method")) || (Value.type bt == .type "method-wrapper")) = true := by rcases hbt with rfl | rfl <;> decide
  have e2 : (Value.type bt != .type "method") = true := by rcases hbt with rfl | rfl <;> decide
  rw [e1, if_pos rfl]
  show wpAny _ _ (if (Value.type bt != .type "method") = true then _ else _) _ _ _
  rw [e2, if_pos rfl]
  refine wpAny_bind (hck ?_)
  refine wpAny_bind (wpAny_pure (wpAny_pure ⟨plainId_quiet hp _, codeAny_builtin he ?_⟩))
  rw [Around.under_plainId hp]
  refine wpAny_mono hc (fun fin s' h' => ?_) fun uu uu h' => h'
  (refine x1_2 (h') fun v rr1 hv => ?_; clear h'; subst rr1)
  exact hv
theorem ck_pop {x Cl : Addr} {ox : Obj} {od : Option Obj} {cd : ClassData} {Q : Unit → Shared → Prop} (X : C.K.In h) (I : W.InstAt h x ox Cl od) (hc : clsIn C.K Cl = some cd) (hq : cd.qualname = "_Accumulator") (ht : typeIn C.K (.ref Cl) = some (.type "type")) (hm : mroIn C.K Cl (.type "module") = some false)
    (k : Q () ⟨h, g, d, t, os⟩) : wpAny (model C.prog C.w) A (checkBoundCall "list.pop" ⟨[.ref x], []⟩) Q E ⟨h, g, d, t, os⟩ := by
  have L0 := I.type (M := model C.prog C.w)
  have L1 : Looks (model C.prog C.w) h (isInstance (.ref x) (.type "module")) false := I.type.andThen (looks_mroIn X hm)
  have L2 := looks_clsIn (M := model C.prog C.w) X hc
  have L3 := looks_typeIn (M := model C.prog C.w) X ht
  have hnc : ∀ c, ox.data ≠ .cls c := fun c e => by have := I.no; unfold notCls at this; rw [e] at this; cases this
  unfold checkBoundCall
  have sp := sig_pop (.ref x)
  split
  · rename_i sig hs
    rw [hs] at sp
    dsimp only at sp
    rw [kind_pop]
    dsimp only
    show wpAny _ _ (do let ofModule ← isInstance (.ref x) (.type "module"); _) _ _ _
    refine wpAny_bind (Looks.at L1 ?_)
    rw [va_pop]
    refine wpAny_bind (ks_wpAny_isType_inst I.at_ hnc ?_)
    rw [if_neg Bool.false_ne_true]
    refine wpAny_bind (Looks.at L0 ?_)
    dsimp only
    refine wpAny_bind (Looks.at L2 ?_)
    refine wpAny_bind (Looks.at L3 ?_)
    rw [if_pos (by decide), hq]
    rw [show (toString (Str.ofString "_Accumulator").toString ++ toString "." ++ toString (Bind.lastOf "list.pop")) = "_Accumulator.pop" from acc_name]
    rw [sp]
    exact wpAny_pure k
  · exact wpAny_pure k
end
end Mine.Internal
end
section
open PySem PySem.W PyProof.Rows PySem.Calls
namespace Mine.Internal
noncomputable def DenSAt (C : Cfg) (d : Nat) (env : Env) (vars : List Str) (body : List Stmt) (st : Stmt) (f : SM) : Prop :=
  ∀ lc σ fl lc' σ', f lc σ = some (fl, lc', σ') → ∀ (A : Around) (Q : Flow → Shared → Prop) (E : Value → Shared → Prop) (s : Shared) (ρ : Rho), AOk d A → Rel C ρ σ s → LcR C ρ s.heap env.locals vars lc →
    (∀ w s' ρ', Rel C ρ' σ' s' → Step C [env.locals] ρ ρ' s.heap s'.heap → LcR C ρ' s'.heap env.locals vars lc' → FlR C ρ' s'.heap fl w → Q w s') → PySem.wpAt (model C.prog C.w) A (.func body env) (exec st env) Q E s
noncomputable def DenBAt (C : Cfg) (d : Nat) (env : Env) (vars : List Str) (body : List Stmt) (b : List Stmt) (f : SM) : Prop :=
  ∀ lc σ fl lc' σ', f lc σ = some (fl, lc', σ') → ∀ (A : Around) (Q : Flow → Shared → Prop) (E : Value → Shared → Prop) (s : Shared) (ρ : Rho), AOk d A → Rel C ρ σ s → LcR C ρ s.heap env.locals vars lc →
    (∀ w s' ρ', Rel C ρ' σ' s' → Step C [env.locals] ρ ρ' s.heap s'.heap → LcR C ρ' s'.heap env.locals vars lc' → FlR C ρ' s'.heap fl w → Q w s') → PySem.wpAt (model C.prog C.w) A (.func body env) (execs b env) Q E s
section
variable {C : Cfg} {d : Nat} {env : Env} {vars : List Str} {body : List Stmt}
set_option tactic.hygienic false in
theorem DenS.at {st : Stmt} {f : SM} (D : DenS C d env vars st f) : DenSAt C d env vars body st f := fun lc σ fl lc' σ' hf A Q E s ρ hA R lr k => wpAt_of_wpAny (D lc σ fl lc' σ' hf A Q E s ρ hA R lr k)
set_option tactic.hygienic false in
theorem DenB.at {b : List Stmt} {f : SM} (D : DenB C d env vars b f) : DenBAt C d env vars body b f := fun lc σ fl lc' σ' hf A Q E s ρ hA R lr k => wpAt_of_wpAny (D lc σ fl lc' σ' hf A Q E s ρ hA R lr k)
theorem den_consAt {st : Stmt} {r : List Stmt} {f : SM} {fs : List SM} (D1 : DenSAt C d env vars body st f) (D2 : DenBAt C d env vars body r (seqS fs)) : DenBAt C d env vars body (st :: r) (seqS (f :: fs)) := by
  intro lc σ fl lc' σ' hf A Q E s ρ hA R lr kk
  unfold seqS at hf
  refine ks_wpAt_execs_cons ?_
  split at hf
  · rename_i lc₁ σ₁ e1
    refine D1 _ _ _ _ _ e1 A _ E s ρ hA R lr fun w s₁ ρ₁ R₁ S₁ l₁ q₁ => ?_
    cases q₁
    exact D2 _ _ _ _ _ hf A _ E s₁ ρ₁ hA R₁ l₁ fun w s₂ ρ₂ R₂ S₂ l₂ q₂ => kk w s₂ ρ₂ R₂ (S₁.trans S₂) l₂ q₂
  · rename_i fl₁ lc₁ σ₁ hne e1
    (refine c3 hf fun hh0 hh1 hh2 => ?_; clear hf; subst hh0; subst hh1; subst hh2)
    refine D1 _ _ _ _ _ e1 A _ E s ρ hA R lr fun w s₁ ρ₁ R₁ S₁ l₁ q₁ => ?_
    have := kk w s₁ ρ₁ R₁ S₁ l₁ q₁
    cases q₁ with
    | next => exact absurd rfl hne
    | brk => exact this
    | cont => exact this
    | ret => exact this
  · exact ns hf
end
structure SupOk (C : Cfg) (env : Env) (vars : List Str) : Prop where
  ks : env.kindOf "super" = some .globalImplicit
  kc : env.kindOf "__class__" = some .free
  fn : ∃ f of fd ar, env.func = some f ∧ C.K.lookup f = some of ∧ of.data = .func fd ∧ (fd.params.posonlyargs ++ fd.params.args).head? = some ar ∧ vars[0]? = some ar.arg
  code : ∃ cc oc vs file tf, env.code = .ref cc ∧ C.K.lookup cc = some oc ∧ oc.data = .fields vs ∧ vs[2]? = some (.str file tf) ∧ ((C.prog.main.file : Str) == file) = true
  top : (C.prog.main.scope.names.lookup ("super" : Str)).isSome = false
  sup : GlobVal C "super" (.type "super")
  cell : ∃ c oc, env.cells.lookup ("__class__" : Str) = some c ∧ C.K.lookup c = some oc ∧ oc.data = .cell (some (.ref C.ACC))
structure SupCls (C : Cfg) : Prop where
  cls : ∃ cd, clsIn C.K C.ACC = some cd ∧ cd.mro = [.ref C.ACC, .type "list", .type "object"] ∧ cd.qualname = "_Accumulator"
  self : mroIn C.K C.ACC (.ref C.ACC) = some true
  op : nsIn C.K cStatics "thirdparty.any" = some none
  ty : typeIn C.K (.ref C.ACC) = some (.type "type")
  noMod : mroIn C.K C.ACC (.type "module") = some false
section
variable {C : Cfg} {env : Env} {vars : List Str} {ρ : Rho} {σ : St} {s : Shared} {A : Around} {E : Value → Shared → Prop} {body : List Stmt} {lc : Lc}
theorem accNotCls (H : CfgOk C) (HS : SupCls C) (R : Rel C ρ σ s) {a d : Addr} {vs : List Value} {n : Nat} (ho : s.heap.get? a = some ⟨.ref C.ACC, some d, .seq vs.toArray n, #[]⟩) : a ≠ C.ACC := by
  rintro rfl
  (refine x1_2 (HS.cls) fun cd hc uu => ?_)
  unfold clsIn at hc
  split at hc
  · rename_i e
    have := R.kin H _ _ e
    rw [ho] at this
    cases this
  · exact ns hc
theorem super_base (H : CfgOk C) (He : EnvOk env vars) (HS : SupCls C) (SO : SupOk C env vars) {attr : Str} {whole : Sem Value} {p0 p1 : Pos} {l : Nat} {ini : Int} {ps : List (Str × Str)} (hat : (attr == ("__class__" : Str)) = false) (R : Rel C ρ σ s) (lr : LcR C ρ s.heap env.locals vars lc) (hself : lc[0]? = some (some (.loc l))) (hl : σ[l]? = some (.acc ini ps))
    {Q : Value → Shared → Prop} (k : ∀ a d h', ρ[l]? = some (a, d) → (∀ b o, s.heap.get? b = some o → h'.get? b = some o) → h'.get? s.heap.objs.size = some { cls := .type "super", dict := none, data := .fields #[.ref C.ACC, .ref a, .ref C.ACC], slots := #[] } → Q (.ref s.heap.objs.size) { s with heap := h' }) :
    PySem.wpAt (model C.prog C.w) A (.func body env) (attributeBase (.Call (.Name "super" p0) [] [] p1) attr env whole) Q E s := by
  have X := R.kin H
  (refine x4_5 (SO.fn) fun f of fd ar e1 e2 e3 e4 e5 => ?_)
  (refine x5_5 (SO.code) fun cc oc vs file tf c1 c2 c3 c4 c5 => ?_)
  (refine x2_3 (SO.cell) fun cl ocl d1 d2 d3 => ?_)
  (refine x1_3 (HS.cls) fun cd hcd hmro hqn => ?_)
  (refine x1_2 (R.obj hl) fun p q1 ob => ?_)
  refine ks_wpAt_super_base SO.ks SO.kc hat e1 (X _ _ e2) e3 e4 c1 (X _ _ c2) c3 c4 c5 SO.top ?_
  refine ks_loadName_global He.kind SO.ks ?_
  (refine x1_2 (SO.sup) fun mg hg hv => ?_)
  have hg' : s.heap.Ns env.globals mg := by rw [He.glob]; exact hg.at fun o e => R.old _ _ e H.glob
  have fin : (fun (g : Value) (s₁ : Shared) => g = .type "super" ∧ wpAny (model C.prog C.w) A (loadName env "__class__") (fun cls s₂ => wpAny (model C.prog C.w) A (loadName env ar.arg) (fun self s₃ =>
      wpAny (model C.prog C.w) A (isType cls) (fun b s₄ => b = true ∧ wpAny (model C.prog C.w) A (call (.type "super") [cls, self]) Q E s₄) E s₃) E s₂) E s₁) (.type "super") s := by
    refine ⟨rfl, ?_⟩
    refine wpAny_loadName_free He.kind SO.kc d1 ⟨_, X _ _ d2, d3⟩ ?_
    refine load_name He e5 hself lr fun v qv => ?_
    obtain ⟨oD, hD1, hD2⟩ : ∃ oD, s.heap.get? C.ACC = some oD ∧ oD.data = .cls cd := by
      have hD := hcd
      unfold clsIn at hD
      split at hD
      · rename_i ho; cases hD; exact ⟨_, X _ _ ho, rfl⟩
      · exact ns hD
    obtain ⟨hh, g, dd, t, os⟩ := s
    refine ks_wpAny_isType_cls hD1 hD2 ⟨rfl, ?_⟩
    refine qv.loc_e fun uu e0 => ?_
    rw [e0] at q1; cases q1
    cases ob with | acc ho hd he hs =>
    exact ks_wpAny_call_super hD1 hD2 ho rfl (fun c e => by cases e) (looks_mroIn X HS.self) fun h' g1 g2 => k _ _ h' e0 g2 g1
  rcases hv with hv | ⟨hv, mb, hb, hv'⟩
  · exact loadGlobal_global hg' hv fin
  · exact loadGlobal_builtin hg' hv (by rw [He.blt]; exact hb.at fun o e => R.old _ _ e H.blt) hv' fin
set_option tactic.hygienic false in
theorem super_call (H : CfgOk C) (HC : ClsOk C) (He : EnvOk env vars) (HS : SupCls C) (SO : SupOk C env vars) {attr : Str} {p0 p1 apos p : Pos} {l : Nat} {ini : Int} {ps : List (Str × Str)} {id dt get bt : String} {B B' : Builtin} (SM : SupM id dt get bt B) (hat : (attr == ("__class__" : Str)) = false)
    (hf : alongIn C.K attr [.type "list", .type "object"] = some (some (.builtin id))) (hp : (apos.endLine == p.line) = true) (hpl : plainId id = true) (hen : entryFor table id = some B')
    (R : Rel C ρ σ s) (lr : LcR C ρ s.heap env.locals vars lc) (hself : lc[0]? = some (some (.loc l))) (hl : σ[l]? = some (.acc ini ps))
    (hck : ∀ {h : Heap} {g : Array GenState} {d : Drawn} {t : Nat} {os : OsState} {a dd : Addr} {vs : List Value} {n n' : Nat} {es : List DictEntry} {Q' : Unit → Shared → Prop} {E' : Value → Shared → Prop}, C.K.In h → h.get? a = some ⟨.ref C.ACC, some dd, .seq vs.toArray n, #[]⟩ → h.get? dd = some (dictOf es n') → Q' () ⟨h, g, d, t, os⟩ →
      wpAny (model C.prog C.w) A.in1 (checkBoundCall id ⟨[.ref a], []⟩) Q' E' ⟨h, g, d, t, os⟩)
    {Q : Value → Shared → Prop} (k : ∀ a d s', ρ[l]? = some (a, d) → Rel C ρ σ s' → Step C [] ρ ρ s.heap s'.heap → wpAny (model C.prog C.w) A.in1 (B' ⟨[.ref a], []⟩) (fun fin s'' => ∃ v, fin = .done (.ret v) ∧ Q v s'') E s') :
    PySem.wpAt (model C.prog C.w) A (.func body env) (eval (.Call (.Attribute (.Call (.Name "super" p0) [] [] p1) attr apos) [] [] p) env) Q E s := by
  refine ks_wpAt_MethodCall (pl := do return (← importBound (.Call (.Name "super" p0) [] [] p1) env).getD true) ?_ (by
    rw [arm_eval_Call]
    show (do let ov ← _; standAt apos.atName; methodCall _ attr apos p env ov 0 [] []) = _
    congr 1
    funext ov
    congr 1
    funext _
    unfold methodCall
    have hpos : methodCallPos (methodCallForm 0 [] []) (.Call (.Name "super" p0) [] [] p1) env apos p = pure p := by
      unfold methodCallPos
      rw [hp]; rfl
    rw [hpos]
    rfl)
  refine super_base H He HS SO hat R lr hself hl fun a d h' e0 kp hso => ?_
  have z' : s.heap.objs.size ≤ h'.objs.size := Nat.le_of_lt (Heap.lt_size hso)
  have R' : Rel C ρ σ { s with heap := h' } := R.same kp z' R.gens rfl rfl
  have S' : Step C [] ρ ρ s.heap h' := .same kp z'
  (refine x1_2 (R'.obj hl) fun p' q1 ob => ?_)
  rw [e0] at q1; cases q1
  cases ob with | acc ho hd he hs =>
  have X := R'.kin H
  have I := accInst ho hd
  (refine x1_3 (HS.cls) fun cd hcd hmro hqn => ?_)
  have LM : Looks (model C.prog C.w) h' (mroOf (.ref C.ACC)) cd.mro := (looks_clsIn X hcd).andThen .now
  have hnc := accNotCls H HS R' ho
  obtain ⟨hh, g, dd, t, os⟩ := s
  have hdrop : ([Value.ref C.ACC, .type "list", .type "object"].dropWhile (· != .ref C.ACC)).drop 1 = [.type "list", .type "object"] := by
    rw [List.dropWhile_cons]
    simp
  rw [hmro] at LM
  refine getMethod_super SM hso (looks_opaque X HS.op) LM hdrop X ho rfl (looks_mroIn X HC.acMro) hf hnc hat ?_
  have hb : (h'.push { cls := .type bt, data := .fields #[.builtin id, .ref a] }).get? h'.objs.size = some { cls := .type bt, data := .fields #[.builtin id, .ref a] } := Heap.get?_push_size _ rfl
  refine callWith_of (P := fun h => h.get? h'.objs.size = some { cls := .type bt, data := .fields #[.builtin id, .ref a] }) rfl (fun h hh => ⟨_, .inr (.inl rfl), keep_bound SM.hbt hh⟩) (evalArgs_nil3 ⟨hb, ?_⟩)
  have R'' := R'.push { cls := .type bt, data := .fields #[.builtin id, .ref a] } (n := t + 1)
  have S'' : Step C [] ρ ρ h' (h'.push { cls := .type bt, data := .fields #[.builtin id, .ref a] }) := .pushObj _
  refine call_bound SM.hbt hb (fun hq' => hck (R''.kin H) (Heap.get?_push_of_some _ ho) (Heap.get?_push_of_some _ hd) hq') hpl hen ?_
  exact k a d _ e0 R'' (S'.trans S'')
noncomputable def partCountS : SM := fun lc σ => match (lc[0]? : Option (Option AV)) with
  | some (some (AV.loc l)) => match σ[l]? with
    | some (.acc _ ps) => some (.ret (.int ps.length), lc, σ)
    | _ => none
  | _ => none
theorem den_partCount {d : Nat} (H : CfgOk C) (HC : ClsOk C) (He : EnvOk env vars) (HS : SupCls C) (SO : SupOk C env vars) {p0 p1 apos p pr : Pos} (hf : alongIn C.K "__len__" [.type "list", .type "object"] = some (some (.builtin "list.__len__"))) (hp : (apos.endLine == p.line) = true) :
    DenSAt C d env vars body (.Return (some (.Call (.Attribute (.Call (.Name "super" p0) [] [] p1) "__len__" apos) [] [] p)) pr) partCountS := by
  intro lc σ fl lc' σ' hf' A Q E s ρ hA R lr kk
  unfold partCountS at hf'
  split at hf'
  · rename_i l hself
    (refine sa hf' ?_; clear hf'; intro ini ps hl hf')
    (refine c3 hf' fun hh0 hh1 hh2 => ?_; clear hf'; subst hh0; subst hh1; subst hh2)
    refine ks_wpAt_Return_some (super_call H HC He HS SO sup_len (by decide) hf hp (by decide +kernel) F.entry_list_len R lr hself hl (fun uu uu uu q => by rw [sig_len]; exact wpAny_pure q) fun a dd s' e0 R' S' => ?_)
    (refine x1_2 (R'.obj hl) fun p' q1 ob => ?_)
    rw [e0] at q1; cases q1
    cases ob with | @acc _ _ es n n' vs _ _ ho hd he hs =>
    have e : (vs.toArray.size : Int) = ps.length := by rw [List.size_toArray, hs.length, List.length_map]
    show wpAny _ _ (do retInt (← seqSize a)) _ _ s'
    unfold seqSize
    refine wpAny_bind (wpAny_bind (wpAny_load ho (wpAny_pure (wpAny_bind (wpAny_mkInt (wpAny_pure ⟨_, rfl, ?_⟩))))))
    rw [e]
    have S'' : Step C [] ρ ρ s.heap s'.heap := S'
    exact kk _ _ _ R'.toks S''.of_nil (lr.go S'') (.ret (.int _ _))
  · exact ns hf'
end
end Mine.Internal
end
section
open PySem PySem.W PyProof.Rows PySem.Calls
namespace Mine.Internal
section
variable {C : Cfg} {env : Env} {vars : List Str} {ρ : Rho} {σ : St} {s : Shared} {A : Around} {E : Value → Shared → Prop} {body : List Stmt} {lc : Lc}
set_option tactic.hygienic false in
theorem erased_le {items : Array Value} {k : Nat} : (items.eraseIdxIfInBounds k).size ≤ items.size := by
  unfold Array.eraseIdxIfInBounds
  split
  · rw [Array.size_eraseIdx]; (first | lia | omega)
  · exact Nat.le_refl _
set_option tactic.hygienic false in
theorem sidx {k n : Nat} (h : k < n) : seqIndex? (k : Int) n = some k := by
  unfold seqIndex?
  have : ¬ (k : Int) < 0 := Int.not_lt.mpr (Int.natCast_nonneg k)
  simp [this, h]
set_option tactic.hygienic false in
theorem sidx_last {n : Nat} (h : 0 < n) : seqIndex? (-1) n = some (n - 1) := by
  obtain ⟨m, rfl⟩ : ∃ m, n = m + 1 := ⟨n - 1, (Nat.succ_pred_eq_of_pos h).symm⟩
  show (if (decide (0 ≤ -1 + ((m + 1 : Nat) : Int)) && decide (-1 + ((m + 1 : Nat) : Int) < ((m + 1 : Nat) : Int))) = true then some (-1 + ((m + 1 : Nat) : Int)).toNat else none) = some m
  have e : -1 + ((m + 1 : Nat) : Int) = (m : Int) := by rw [Int.natCast_succ, Int.add_comm, Int.add_assoc]; exact Int.add_zero _
  rw [e, decide_eq_true (Int.natCast_nonneg m), decide_eq_true (Int.ofNat_lt.mpr (Nat.lt_succ_self m))]
  rfl
set_option tactic.hygienic false in
theorem pop_any {a : Addr} {c : Value} {d : Option Addr} {items : Array Value} {n : Nat} {sl : Array (Option Value)} {y : Value} {Q : Fin → Shared → Prop} (ho : s.heap.get? a = some ⟨c, d, .seq items n, sl⟩) (hz : items.size ≤ sizeLine) (hy : items[items.size - 1]? = some y)
    (k : Q (.done (.ret y)) { s with heap := s.heap.update a (Obj.mapSeq fun xs => xs.eraseIdxIfInBounds (items.size - 1)) }) : wpAny (model C.prog C.w) A (Builtin.«list.pop» ⟨[.ref a], []⟩) Q E s := by
  obtain ⟨hp, g, dd, tk, os⟩ := s
  have hpos : 0 < items.size := by
    rcases Nat.eq_zero_or_pos items.size with h0 | h0
    · simp [h0] at hy
    · exact h0
  have hne : ¬ items.isEmpty = true := by
    intro he; have : items.size = 0 := by simpa using he
    (first | lia | omega)
  have hk : seqIndex? (-1) items.size = some (items.size - 1) := by
    exact sidx_last hpos
  wp_walk using wpAny_loadPart' ho
  simp only [hk, hy, Option.bind_some, Option.map_some]
  have hz' : (items.eraseIdxIfInBounds (items.size - 1)).size ≤ sizeLine + 1 := Nat.le_trans (erased_le) (Nat.le_succ_of_le hz)
  wp_walk using (wpAny_updateSeq ho rfl (hz := hz) (_hz' := hz')), wpAny_loadPart' ho
  exact k
set_option tactic.hygienic false in
theorem erase_last {vs : List Value} {y : Value} (hy : vs[vs.length - 1]? = some y) : (vs.toArray.eraseIdxIfInBounds (vs.length - 1)) = (vs.take (vs.length - 1)).toArray := by
  have hl : vs.length - 1 < vs.length := (List.getElem?_eq_some_iff.mp hy).1
  unfold Array.eraseIdxIfInBounds
  rw [dif_pos (by simpa using hl)]
  rw [List.eraseIdx_toArray]
  congr 1
  rw [List.eraseIdx_eq_take_drop_succ]
  rw [show vs.length - 1 + 1 = vs.length by (first | lia | omega)]
  simp
set_option tactic.hygienic false in
theorem parts_get {h : Heap} {ps : List (Str × Str)} {vs : List Value} (hs : VRs C ρ h (ps.map partAV) vs) {i : Nat} {p : Str × Str} (e : ps[i]? = some p) : ∃ v, vs[i]? = some v ∧ VR C ρ h (partAV p) v := hs.get (by rw [List.getElem?_map, e]; rfl)
noncomputable def popS : SM := fun lc σ => match (lc[0]? : Option (Option AV)) with
  | some (some (AV.loc l)) => match σ[l]? with
    | some (.acc ini ps) => match ps.getLast? with
      | some p => if ps.length ≤ sizeLine then some (.ret (partAV p), lc, σ.set l (.acc ini ps.dropLast)) else none
      | none => none
    | _ => none
  | _ => none
theorem den_pop {d : Nat} (H : CfgOk C) (HC : ClsOk C) (He : EnvOk env vars) (HS : SupCls C) (SO : SupOk C env vars) {p0 p1 apos p pr : Pos} (hf : alongIn C.K "pop" [.type "list", .type "object"] = some (some (.builtin "list.pop"))) (hp : (apos.endLine == p.line) = true) :
    DenSAt C d env vars body (.Return (some (.Call (.Attribute (.Call (.Name "super" p0) [] [] p1) "pop" apos) [] [] p)) pr) popS := by
  intro lc σ fl lc' σ' hf' A Q E s ρ hA R lr kk
  unfold popS at hf'
  split at hf'
  · rename_i l hself
    (refine sa hf' ?_; clear hf'; intro ini ps hl hf')
    (refine so2 hf' ?_; clear hf'; intro pt hpt hf')
    (refine sf hf' ?_; clear hf'; intro hz hf')
    (refine c3 hf' fun hh0 hh1 hh2 => ?_; clear hf'; subst hh0; subst hh1; subst hh2)
    (refine x1_3 (HS.cls) fun cd hcd hmro hqn => ?_)
    refine ks_wpAt_Return_some (super_call H HC He HS SO sup_pop (by decide) hf hp (by decide +kernel) F.entry_list_pop R lr hself hl (fun X ho hd q => ck_pop X (accInst ho hd) hcd hqn HS.ty HS.noMod q) fun a dd s' e0 R' S' => ?_)
    (refine x1_2 (R'.obj hl) fun p' q1 ob => ?_)
    rw [e0] at q1; cases q1
    cases ob with | @acc _ _ es n n' vs _ _ ho hd he hs =>
    have hlen : vs.length = ps.length := by rw [hs.length, List.length_map]
    rw [List.getLast?_eq_getElem?] at hpt
    (refine x1_2 (parts_get hs hpt) fun y hy qy => ?_)
    rw [← hlen] at hy
    have hz' : vs.toArray.size ≤ sizeLine := by rw [List.size_toArray, hlen]; exact hz
    refine pop_any ho hz' (by simpa using hy) ⟨_, rfl, ?_⟩
    have hsb := Heap.SameBut.update s'.heap a (Obj.mapSeq fun xs => xs.eraseIdxIfInBounds (vs.toArray.size - 1))
    have S : Step C [] ρ ρ s'.heap (s'.heap.update a (Obj.mapSeq fun xs => xs.eraseIdxIfInBounds (vs.toArray.size - 1))) := stepMut (.inr ⟨_, List.mem_of_getElem? e0, .inl rfl⟩) hsb
    have gt := mapSeq_at ho (fun xs => xs.eraseIdxIfInBounds (vs.toArray.size - 1))
    have ev : vs.toArray.eraseIdxIfInBounds (vs.toArray.size - 1) = (vs.take (ps.length - 1)).toArray := by rw [List.size_toArray, erase_last hy, hlen]
    rw [ev] at gt
    have hne : dd ≠ a := accNe ho hd
    have hs' := (hs.go S).take (vs.length - 1)
    rw [hlen, ← List.map_take, ← List.dropLast_eq_take] at hs'
    (refine x0_2 (R'.upd (n := s'.toks) e0 (.inl rfl) hsb (.acc gt ((hsb.2 _ hne).trans hd) (he.go S) hs') rfl) fun R'' S'' => ?_)
    exact kk _ _ _ R'' (S'.trans S'').of_nil (lr.go (S'.trans S'')) (.ret (qy.go S''))
  · exact ns hf'
end
end Mine.Internal
end
section
open PySem PySem.W PyProof.Rows PySem.Calls
namespace Mine.Internal
structure FnD (C : Cfg) (f : Addr) (vars : List Str) (m : Nat) (dxs : List AV) (dv : List Value) (body : List Stmt) (scope : Scope) (closure : List (Str × Addr)) (qual : Str) (code : Value) : Prop where
  obj : ∃ o fd, C.s₁.heap.get? f = some o ∧ o.data = .func fd ∧ fd.scope = scope ∧ fd.body = .stmts body ∧ fd.globals = mainGlobals ∧ fd.closure = closure ∧ fd.qualname = qual ∧ fd.code = code ∧ fd.builtins = builtinsNs ∧
    ∀ s : Shared, (∀ b o, C.s₁.heap.get? b = some o → ¬ C.isTab b → s.heap.get? b = some o) → ∀ vs : List Value, vs.length = m → BindsTo s fd ⟨vs, []⟩ ((vars.take (m + dxs.length)).zip (vs ++ dv))
  dq : ∀ ρ h, VRs C ρ h dxs dv
  notTab : ¬ C.isTab f
  crec : C.s₁.heap.CodeRec code qual
  codeNo : ∀ c, code = .ref c → ¬ C.isTab c
  coro : scope.isCoroutine = false
  gen : scope.isGenerator = false
  kind : scope.kind = .function
  cells : ∀ x ∈ scope.names, x.2 ≠ .cell
  loc : ∀ x ∈ vars, scope.names.lookup x = some .local
  nodup : vars.Nodup
  n_le : m + dxs.length ≤ vars.length
noncomputable def runB (vars : List Str) (B : SM) (xs : List AV) (σ : St) : Option (AV × St) := match B (lc0 vars xs) σ with
  | some (.ret x, _, σ') => some (x, σ')
  | some (.next, _, σ') => some (.none, σ')
  | _ => none
noncomputable def runD (vars : List Str) (m : Nat) (dxs : List AV) (B : SM) (xs : List AV) (σ : St) : Option (AV × St) := if xs.length = m then runB vars B (xs ++ dxs) σ else none
noncomputable def orF (F G : List AV → St → Option (AV × St)) (xs : List AV) (σ : St) : Option (AV × St) := match F xs σ with
  | some r => some r
  | none => G xs σ
theorem DenF.or {C : Cfg} {d : Nat} {f : Addr} {F G : List AV → St → Option (AV × St)} (D1 : DenF C d f F) (D2 : DenF C d f G) : DenF C d f (orF F G) := by
  intro xs σ x σ' hf A P s ρ vs hA R q k
  unfold orF at hf
  split at hf
  · rename_i r e; cases hf; exact D1 xs σ x σ' e A P s ρ vs hA R q k
  · exact D2 xs σ x σ' hf A P s ρ vs hA R q k
theorem denF_ofD {C : Cfg} {d : Nat} {f : Addr} {vars : List Str} {m : Nat} {dxs : List AV} {dv : List Value} {body : List Stmt} {scope : Scope} {closure : List (Str × Addr)} {qual : Str} {code : Value} {B : SM} (H : FnD C f vars m dxs dv body scope closure qual code) (hlim : C.s₁.heap.NoLimit) (hst : ¬ C.isTab cStatics)
    (D : ∀ L, DenBAt C d (fnEnv scope closure qual f code L) vars body body B) : DenF C (d + 1) f (runD vars m dxs B) := by
  intro xs0 σ x σ' hf A P s ρ vs0 hA R q0 k
  unfold runD at hf
  (refine sf hf ?_; clear hf; intro hn0 hf)
  have q := q0.append (H.dq ρ s.heap)
  obtain ⟨xs, hxs⟩ : ∃ xs, xs = xs0 ++ dxs := ⟨_, rfl⟩
  obtain ⟨vs, hvs⟩ : ∃ vs, vs = vs0 ++ dv := ⟨_, rfl⟩
  obtain ⟨n, hnn⟩ : ∃ n, n = m + dxs.length := ⟨_, rfl⟩
  have hn : xs.length = n := by rw [hxs, List.length_append, hn0, hnn]
  have hl0 : vs0.length = m := q0.length.trans hn0
  have hnle : n ≤ vars.length := by rw [hnn]; exact H.n_le
  rw [← hxs] at q hf
  rw [← hvs] at q
  (refine x2_10 (H.obj) fun o fd ho hd rr4 hb hg rr7 rr8 rr9 hbi hbind => ?_; subst rr4; subst rr7; subst rr8; subst rr9)
  have hl : vs.length = n := q.length.trans hn
  have hbind := hbind s (fun b o e nt => R.old b o e nt) vs0 hl0
  rw [← hvs, ← hnn] at hbind
  have ho' := R.old f o ho H.notTab
  have hcode : s.heap.CodeRec fd.code fd.qualname := by
    (refine x4_4 (H.crec) fun c o' vs' t e1 e2 e3 e4 => ?_)
    exact ⟨c, o', vs', t, e1, R.old c o' e2 (H.codeNo c e1), e3, e4⟩
  refine codeAny_call_function (by have := hA.2.1; (first | lia | omega)) ho' hd H.coro H.gen hb hcode ?_
  refine hbind _ _ _ _ ?_
  have hbl : ∀ y ∈ (vars.take n).zip vs, fd.scope.names.lookup y.1 = some .local := fun y hy => H.loc y.1 (List.mem_of_mem_take (List.of_mem_zip hy).1)
  refine wpAny_newFunctionEnv H.cells hbl (fun h₁ hns hsb => ?_) H.kind
  have z₁ : h₁.objs.size = s.heap.objs.size + 1 := by rw [hsb.1, Heap.size_push]
  have k₁ : ∀ b o, s.heap.get? b = some o → h₁.get? b = some o := fun b o e => (hsb.2 b (Nat.ne_of_lt (Heap.lt_size e))).trans (Heap.get?_push_of_some _ e)
  have R₁ : Rel C ρ σ { s with heap := h₁, toks := s.toks + ((vars.take n).zip vs).length } := R.same k₁ (by show _ ≤ h₁.objs.size; (first | lia | omega)) R.gens rfl rfl
  have S₁ : Step C [] ρ ρ s.heap h₁ := .same k₁ (by (first | lia | omega))
  refine ⟨?_, ?_⟩
  · (refine x1_2 (hlim) fun mc a b => ?_; clear hlim)
    exact ⟨mc, a.at fun o e => k₁ _ _ (R.old _ _ e hst), b⟩
  rw [hg, hbi]
  refine ks_codeAny_funcAt ?_
  have lr : LcR C ρ h₁ s.heap.objs.size vars (lc0 vars xs) := by
    refine ⟨⟨_, hns, fun i y e => ?_⟩, R.fresh, R.size, by unfold lc0; rw [List.length_append, List.length_map, List.length_replicate]; (first | lia | omega)⟩
    unfold lc0 at e
    by_cases hi : i < xs.length
    · rw [List.getElem?_append_left (by rw [List.length_map]; exact hi), List.getElem?_map, Option.map_eq_some_iff] at e
      (refine x1_2 (e) fun y' e1 e2 => ?_; clear e)
      (refine c1 e2 fun hh0 => ?_; clear e2; subst hh0)
      (refine x1_2 (q.get e1) fun v ev qv => ?_)
      have hv : i < vars.length := by (first | lia | omega)
      refine ⟨vars[i], v, List.getElem?_eq_getElem hv, ?_, qv.go S₁⟩
      have hx : (vars.take n)[i]? = some vars[i] := by rw [List.getElem?_take_of_lt (by (first | lia | omega)), List.getElem?_eq_getElem hv]
      have hnd : (vars.take n).Nodup := H.nodup.sublist (List.take_sublist ..)
      refine lookup_rev ?_ (lookup_zip hnd hx ev)
      have : ((vars.take n).zip vs).map (·.1) = vars.take n := by
        rw [List.map_fst_zip]
        rw [List.length_take]; (first | lia | omega)
      rw [this]; exact hnd
    · rw [List.getElem?_append_right (by rw [List.length_map]; exact Nat.not_lt.mp hi), List.getElem?_replicate] at e
      split at e <;> cases e
  have fin : ∀ {w : Flow} {fl : Fl} {s' : Shared} {ρ' : Rho} {lc' : Lc}, Rel C ρ' σ' s' → Step C [s.heap.objs.size] ρ ρ' h₁ s'.heap → FlR C ρ' s'.heap fl w → (fl = .ret x ∨ (fl = .next ∧ x = .none)) →
      P (.ok (.ret (match w with | .ret v => v | _ => .none))) s' := by
    intro w fl s' ρ' lc' R' S' q' hfl
    have S'' : Step C [] ρ ρ' s.heap s'.heap := by
      refine ⟨Nat.le_trans S₁.size S'.size, fun b o e nm uu => S'.keep b o (k₁ b o e) nm (by simp only [List.mem_singleton]; exact Nat.ne_of_lt (Heap.lt_size e)), ?_⟩
      obtain ⟨δ, e, hδ⟩ := S'.grow
      exact ⟨δ, e, fun p hp => by have := hδ p hp; (first | lia | omega)⟩
    rcases hfl with rfl | ⟨rfl, rfl⟩
    · cases q' with | ret a => exact k _ s' ρ' R' S'' a
    · cases q'; exact k _ s' ρ' R' S'' .none
  have hA' : AOk d (A.deeper (fnEnv fd.scope fd.closure fd.qualname f fd.code s.heap.objs.size)) := hA.deeper
  unfold runB at hf
  split at hf
  · rename_i lc' _ e1
    (refine c2 hf fun hh0 hh1 => ?_; clear hf; subst hh0; subst hh1)
    exact D s.heap.objs.size _ _ _ _ _ e1 _ _ _ _ ρ hA' R₁ lr fun w s' ρ' R' S' l' q' => fin (lc' := lc') R' S' q' (.inl rfl)
  · rename_i lc' _ e1
    (refine c2 hf fun hh0 hh1 => ?_; clear hf; subst hh0; subst hh1)
    exact D s.heap.objs.size _ _ _ _ _ e1 _ _ _ _ ρ hA' R₁ lr fun w s' ρ' R' S' l' q' => fin (lc' := lc') R' S' q' (.inr ⟨rfl, rfl⟩)
  · exact ns hf
set_option tactic.hygienic false in
theorem runD_runF {vars : List Str} {n : Nat} {B : SM} : runD vars n [] B = runF vars n B := by
  funext xs σ
  unfold runD runF runB
  simp only [List.append_nil]
  try (
    by_cases h : xs.length = n
    · rw [if_pos h, if_pos h]
      rcases B (lc0 vars xs) σ with _ | ⟨fl, lc, σ'⟩
      · rfl
      · cases fl <;> rfl
    · rw [if_neg h, if_neg h])
set_option tactic.hygienic false in
theorem denF_ofAt {C : Cfg} {d : Nat} {f : Addr} {vars : List Str} {n : Nat} {body : List Stmt} {scope : Scope} {closure : List (Str × Addr)} {qual : Str} {code : Value} {B : SM} (H : FnOk C f vars n body scope closure qual code) (hlim : C.s₁.heap.NoLimit) (hst : ¬ C.isTab cStatics)
    (D : ∀ L, DenBAt C d (fnEnv scope closure qual f code L) vars body body B) : DenF C (d + 1) f (runF vars n B) := by
  rw [← runD_runF]
  (refine x2_10 (H.obj) fun o fd h1 h2 h3 h4 h5 h6 h7 h8 h9 hb => ?_)
  refine denF_ofD (dxs := []) (dv := []) ⟨⟨o, fd, h1, h2, h3, h4, h5, h6, h7, h8, h9, fun s uu vs hv => .of_eq ?_⟩, fun uu uu => .nil, H.notTab, H.crec, H.codeNo, H.coro, H.gen, H.kind, H.cells, H.loc, H.nodup, H.n_le⟩ hlim hst D
  rw [hb vs hv, List.append_nil]
  try rfl
set_option tactic.hygienic false in
theorem denF_of {C : Cfg} {d : Nat} {f : Addr} {vars : List Str} {n : Nat} {body : List Stmt} {scope : Scope} {closure : List (Str × Addr)} {qual : Str} {code : Value} {B : SM} (H : FnOk C f vars n body scope closure qual code) (hlim : C.s₁.heap.NoLimit) (hst : ¬ C.isTab cStatics)
    (D : ∀ L, DenB C d (fnEnv scope closure qual f code L) vars body B) : DenF C (d + 1) f (runF vars n B) := denF_ofAt H hlim hst fun L => (D L).at
end Mine.Internal
end
section
open PySem PySem.W PyProof.Rows PySem.Calls
namespace Mine.Internal
structure AccOk (C : Cfg) : Prop where
  iter : findIn C.K (.ref C.ACC) "__iter__" = some (some (.builtin "list.__iter__"))
  gi : findIn C.K (.ref C.ACC) "__getitem__" = some (some (.builtin "list.__getitem__"))
  si : findIn C.K (.ref C.ACC) "__setitem__" = some (some (.builtin "list.__setitem__"))
section
variable {C : Cfg} {ρ : Rho} {σ : St} {s : Shared} {A : Around} {E : Value → Shared → Prop} {x Cl : Addr} {ox : Obj} {od : Option Obj}
set_option tactic.hygienic false in
theorem below_iter {Q : Value → Shared → Prop} (X : C.K.In s.heap) (I : W.InstAt s.heap x ox Cl od) (hm : mroIn C.K Cl (.type "list") = some true) (hs : findIn C.K (.ref Cl) "__iter__" = some (some (.builtin "list.__iter__")))
    (hQ : Q (.ref s.heap.objs.size) { s with heap := s.heap.push { cls := .type "list_iterator", data := .fields #[.ref x, .int 0 0] } }) : wpAny (model C.prog C.w) A (pyIter (.ref x)) Q E s := by
  have sp : ∀ {nm : Str} {r : Option Value}, findIn C.K (.ref Cl) nm = some r → Looks (model C.prog C.w) s.heap (specialOf (.ref x) nm) r := fun e => I.type.andThen (looks_findIn X e)
  have hc : wpAny (model C.prog C.w) A (call (.builtin "list.__iter__") [.ref x]) (fun v s' => v = .ref s.heap.objs.size ∧ s' = { s with heap := s.heap.push { cls := .type "list_iterator", data := .fields #[.ref x, .int 0 0] } }) E s := by
    refine call_below X I hm (.inr (by decide +kernel)) (n := "__iter__") (by decide +kernel) (by decide +kernel) entry_list_iter (args_list_iter _) ?_
    show wpAny _ _ (do ret (← newFields "list_iterator" [.ref x, rawInt 0])) _ _ s
    exact wpAny_bind (wpAny_newObj_type (wpAny_pure ⟨_, rfl, rfl, rfl⟩))
  have one : ∀ refuse : Sem Value, wpAny (model C.prog C.w) A (callSpecialIfBoundUnlessNone? (.ref x) "__iter__" refuse) (fun r s' => r = some (.ref s.heap.objs.size) ∧ s' = { s with heap := s.heap.push { cls := .type "list_iterator", data := .fields #[.ref x, .int 0 0] } }) E s := by
    intro refuse
    simp only [callSpecialIfBoundUnlessNone?, bindSpecialIfBound?]
    refine wpAny_holding (wpAny_bind (wpAny_bind ((sp hs).here ?_)))
    simp only [slot_list_iter.bind]
    refine wpAny_bind (wpAny_askSetting (wpAny_ite ?_))
    have fin : wpAny (model C.prog C.w) A (if (Value.builtin "list.__iter__" == Value.none) = true then (refuse >>= fun v => pure (some v)) else (call (.builtin "list.__iter__") [.ref x] >>= fun v => pure (some v)))
        (fun r s' => r = some (.ref s.heap.objs.size) ∧ s' = { s with heap := s.heap.push { cls := .type "list_iterator", data := .fields #[.ref x, .int 0 0] } }) E s := by
      simp only [builtin_beq_none, Bool.false_eq_true, if_false]
      exact wpAny_bind (wpAny_mono hc (fun v s' h' => wpAny_pure ⟨by rw [h'.1], h'.2⟩) fun uu uu h' => h')
    split
    · exact wpAny_bind (wpAny_pure (wpAny_pure fin))
    · exact wpAny_tryCatch (wpAny_bind (wpAny_pure (wpAny_pure fin)))
  unfold pyIter
  refine wpAny_bind ((sp hs).here ?_)
  show wpAny _ A (callSpecialIfBoundUnlessNone? (.ref x) "__iter__" _ >>= _) Q E s
  refine wpAny_bind (wpAny_mono (one _) (fun r s' hr => ?_) fun uu uu z => z)
  (refine x0_2 (hr) fun rr0 rr1 => ?_; clear hr; subst rr0; subst rr1)
  exact wpAny_bind (wpAny_specialOf (T := "list_iterator") ⟨_, Heap.get?_push_size _ rfl, rfl⟩ slot_listiter_next.lookup (wpAny_pure hQ))
noncomputable def SeqObj (h : Heap) (a : Addr) (items : Array Value) : Prop := ∃ o n, h.get? a = some o ∧ o.data = .seq items n
set_option tactic.hygienic false in
theorem SeqObj.at {h h' : Heap} {a : Addr} {items : Array Value} (x : SeqObj h a items) (k : ∀ o, h.get? a = some o → h'.get? a = some o) : SeqObj h' a items := let ⟨o, n, e, d⟩ := x; ⟨o, n, k o e, d⟩
set_option tactic.hygienic false in
theorem next_item {it l : Addr} {i : Nat} {items} {x : Value} {Q : Option Value → Shared → Prop} (hit : s.heap.IsListIter it l i) (hl : SeqObj s.heap l items) (hx : items[i]? = some x)
    (hQ : ∀ h', h'.IsListIter it l (i + 1) → Heap.SameBut it s.heap h' → Q (some x) { s with heap := h' }) : wpAny (model C.prog C.w) A (pyNext (.ref it)) Q E s := by
  (refine x1_3 (id hit) fun o ho hc hd => ?_)
  (refine x2_2 (hl) fun ol nl hol hdl => ?_; clear hl)
  unfold pyNext
  refine wpAny_bind (wpAny_attempt (wpAny_callSpecial?_slot (name := Str.ofString "__next__") hit.typeIs slot_listiter_next
    (wpAny_call_entry slot_listiter_next hit.typeIs entry_listiter_next ?_ (args_listiter_next _))))
  show wpAny _ _ (field (.ref it) 0 >>= _) _ _ s
  refine wpAny_bind (wpAny_field ho hd (x := .ref l) rfl ?_)
  show wpAny _ _ (if (Value.ref l == Value.none) = true then _ else _) _ _ s
  rw [if_neg (show ¬ ((Value.ref l == Value.none) = true) from Bool.false_ne_true)]
  show wpAny _ _ (field (.ref it) 1 >>= _) _ _ s
  refine wpAny_bind (wpAny_field ho hd (x := .int i 0) rfl ?_)
  show wpAny _ _ (seqItems? (.ref l) >>= _) _ _ s
  refine wpAny_bind (wpAny_seqItems hol hdl ?_)
  simp only [Int.toNat_natCast, hx]
  refine wpAny_bind (wpAny_setField ho hd (by simp) (wpAny_pure ⟨x, rfl, wpAny_pure (hQ _ ?_ (Heap.SameBut.update ..))⟩))
  exact ⟨_, Heap.get?_update_self _ ho (Obj.isFreed_of_fields (Obj.data_mapFields hd _)), (Obj.cls_mapFields ..).trans hc, by
    rw [Obj.data_mapFields hd]; simp [rawInt]⟩
set_option tactic.hygienic false in
theorem next_end {it l : Addr} {i : Nat} {items} {Q : Option Value → Shared → Prop} (hh : A.handled = none) (hit : s.heap.IsListIter it l i) (hl : SeqObj s.heap l items) (hx : items[i]? = none)
    (hQ : ∀ h', Heap.ExtBut it s.heap h' → Q none { s with heap := h' }) : wpAny (model C.prog C.w) A (pyNext (.ref it)) Q E s := by
  (refine x1_3 (id hit) fun o ho hc hd => ?_)
  (refine x2_2 (hl) fun ol nl hol hdl => ?_; clear hl)
  unfold pyNext
  refine wpAny_bind (wpAny_attempt (wpAny_callSpecial?_slot (name := Str.ofString "__next__") hit.typeIs slot_listiter_next
    (wpAny_call_entry slot_listiter_next hit.typeIs entry_listiter_next ?_ (args_listiter_next _))))
  show wpAny _ _ (field (.ref it) 0 >>= _) _ _ s
  refine wpAny_bind (wpAny_field ho hd (x := .ref l) rfl ?_)
  show wpAny _ _ (if (Value.ref l == Value.none) = true then _ else _) _ _ s
  rw [if_neg (show ¬ ((Value.ref l == Value.none) = true) from Bool.false_ne_true)]
  show wpAny _ _ (field (.ref it) 1 >>= _) _ _ s
  refine wpAny_bind (wpAny_field ho hd (x := .int i 0) rfl ?_)
  show wpAny _ _ (seqItems? (.ref l) >>= _) _ _ s
  refine wpAny_bind (wpAny_seqItems hol hdl ?_)
  simp only [Int.toNat_natCast, hx]
  refine wpAny_bind (wpAny_rule (wpAny_bind (wpAny_setField ho hd (by simp) ?_)))
  show wpAny _ _ (newExc (.type "StopIteration") [] >>= _) _ _ _
  refine wpAny_bind ?_
  simp only [newExc, newTuple]
  refine wpAny_bind (wpAny_newObj_type ?_ (by size_fits))
  refine wpAny_bind (m := firstArgMember _ _) (wpAny_of_eq (a := Value.none) (by first | rfl | (simp only [firstArgMember]; rfl)) ?_)
  refine wpAny_newObj_type ?_ (by size_fits)
  simp only [raiseNew]
  refine wpAny_bind (wpAny_handled ?_)
  rw [show A.in1.handled = none from hh]
  refine wpAny_bind (wpAny_pure (wpAny_throw ?_))
  refine wpAny_bind (wpAny_isInstance (T := "StopIteration") (b := true) ⟨_, Heap.get?_push_size _ rfl, rfl⟩ isSubtype_stop ?_)
  exact wpAny_pure (hQ _ (((Heap.SameBut.update ..).extBut.push _).push _))
set_option tactic.hygienic false in
theorem walkPairs (hh : A.handled = none) (I ax : Addr) (hne : ax ≠ I) (items : Array Value) (Ts : Nat → Addr) (vals : Nat → Array Value)
    (hit : ∀ j, j < items.size → items[j]? = some (.ref (Ts j))) (hTI : ∀ j, j < items.size → Ts j ≠ I) :
    WalksU C.prog C.w A I (I :: ax :: (List.range items.size).map Ts) [I] items.size (fun j v => j < items.size ∧ v = vals j)
      (fun j h => h.IsListIter I ax j ∧ SeqObj h ax items ∧ ∀ k, k < items.size → h.IsTuple (Ts k) (vals k))
      (fun j T h => (j < items.size ∧ T = Ts j) ∧ h.IsListIter I ax (j + 1) ∧ SeqObj h ax items ∧ ∀ k, k < items.size → h.IsTuple (Ts k) (vals k)) where
  sub := fun b hb => by simp at hb; simp [hb]
  frame := fun uu uu uu st hk => ⟨st.1.at fun o e => hk I (by simp) o e, st.2.1.at fun o e => hk ax (by simp) o e,
    fun k hk' => (st.2.2 k hk').at fun o e => hk (Ts k) (List.mem_cons_of_mem _ (List.mem_cons_of_mem _ (List.mem_map.mpr ⟨k, List.mem_range.mpr hk', rfl⟩))) o e⟩
  item := fun i s Q E hi st hQ => by
    refine next_item st.1 st.2.1 (x := .ref (Ts i)) (hit i hi) fun h' hit' hs' => ?_
    have tup : ∀ k, k < items.size → h'.IsTuple (Ts k) (vals k) := fun k hk' => (st.2.2 k hk').extBut hs'.extBut (hTI k hk')
    exact hQ (Ts i) (vals i) h' s.toks ⟨hi, rfl⟩ (tup i hi) ⟨⟨hi, rfl⟩, hit', st.2.1.at fun o e => hs'.extBut _ o hne e, tup⟩ fun b o hb e => hs'.extBut b o (fun h => hb (by simp [h])) e
  go := fun uu uu uu uu uu s Q uu hm hQ => wpAny_letOwnedTupleGo_listiter hm.2.1 (hQ s.heap hm.2 fun uu uu uu e => e)
  apart := fun j T uu hm hmem => by
    rcases List.mem_cons.mp hmem with e | e
    · exact hTI j hm.1.1 (hm.1.2 ▸ e)
    · cases e
  done := fun s Q E st hQ => next_end hh st.1 st.2.1 (by simp) fun h' he' => hQ h' s.toks fun b o hb e => he' b o (fun h => hb (by simp [h])) e
  self := fun uu uu uu uu st hQ => wpAny_pyIter_listiter st.1 hQ
end
end Mine.Internal
end
section
open PySem PySem.W PyProof.Rows PySem.Calls
namespace Mine.Internal
section
variable {C : Cfg} {A : Around} {R : Result → Shared → Prop} {I : Addr} {fp wr : List Addr} {G : Array GenState → Array GenState → Prop} {n : Nat} {P : Nat → Value → Prop} {St : Nat → Shared → Prop}
set_option tactic.hygienic false in
theorem sumLoop (W : WalksS C.prog C.w A.in1 I fp wr G n P St) (val acc : Nat → Int) (hacc : ∀ i, acc (i + 1) = acc i + val i) (hval : ∀ i v, P i v → ∃ t, v = .int (val i) t) (S : Addr) (hSf : S ∉ fp) :
    ∀ (k i : Nat) (s : Shared) (tA : Tok) (c : Nat) (st : Int), (st = 0 ∨ st = 2) → n - i = k → i ≤ n → St i s → s.heap.get? S = some { cls := .type "list", dict := none, data := .seq #[.int (acc i) tA] c, slots := #[] } →
    (∀ s' t', Moved (S :: wr) G s s' → R (.ok (.ret (.int (acc n) t'))) s') → codeAny (model C.prog C.w) A (.builtin "sum.loop" ⟨[.ref I, .ref S, rawInt st, rawInt 0], []⟩) R s := by
  have hSw : S ∉ wr := fun h => hSf (W.sub _ h)
  have hsub : ∀ b ∈ wr, b ∈ S :: wr := fun b hb => List.mem_cons_of_mem _ hb
  intro k
  induction k with
  | zero =>
    intro i s tA c st hst2 hk hi hst hS hR
    have hin : i = n := by (first | lia | omega)
    subst hin
    refine codeAny_builtin F.entry_sum_loop ?_
    rw [Around.under_plainId F.plain_sum_loop _]
    show wpAny _ A.in1 (seqItems? (.ref S) >>= _) _ _ s
    refine wpAny_bind (wpAny_seqItems hS rfl ?_)
    show wpAny _ A.in1 (tryCatch (pyNext (.ref I)) _ >>= _) _ _ s
    refine wpAny_bind (wpAny_tryCatch (W.done s _ _ hst fun s' hm => ?_))
    exact wpAny_pure (hR s' tA (hm.mono hsub))
  | succ k ih =>
    intro i s tA c st hst2 hk hi hst hS hR
    have hlt : i < n := by (first | lia | omega)
    refine codeAny_builtin F.entry_sum_loop ?_
    rw [Around.under_plainId F.plain_sum_loop _]
    show wpAny _ A.in1 (seqItems? (.ref S) >>= _) _ _ s
    refine wpAny_bind (wpAny_seqItems hS rfl ?_)
    show wpAny _ A.in1 (tryCatch (pyNext (.ref I)) _ >>= _) _ _ s
    refine wpAny_bind (wpAny_tryCatch (W.item i s _ _ hlt hst fun v s' hP hst' hm => ?_))
    (refine x1_1 (hval i v hP) fun t rr1 => ?_; subst rr1)
    have hS' := hm.heap S _ hSw hS
    have ac := hacc i
    have plain : ∀ (B : Sem Fin), B = (do
          match ← (holding [Value.int (val i) t] (binaryOp .Add (.int (acc i) tA) (.int (val i) t))).attempt with
          | .ok r => do updateSeq S (fun uu => #[r]); letGo [.int (acc i) tA, .int (val i) t]; updateSeq S (fun uu => #[r]); pure (.again (.builtin "sum.loop" ⟨[.ref I, .ref S, rawInt 2, rawInt 0], []⟩))
          | .error e => do updateSeq S (fun uu => #[]); letGo [.int (acc i) tA, .int (val i) t] [e]; throw e) →
        wpAny (model C.prog C.w) A.in1 B (fun fin s'' => match fin with | .done f => R (.ok f) s'' | .again c' => c'.quiet = true ∧ codeAny (model C.prog C.w) A c' R s'') (fun e s'' => R (.error e) s'') s' := by
      rintro B rfl
      refine wpAny_bind (wpAny_attempt (wpAny_holding (wpAny_add_int ?_)))
      show wpAny _ A.in1 (updateSeq S (fun uu => #[.int (acc i + val i) s'.toks]) >>= _) _ _ _
      refine wpAny_bind (wpAny_updateSeq hS' rfl ?_)
      have hS₂ := Heap.get?_update_self (Obj.mapSeq fun uu => #[Value.int (acc i + val i) s'.toks]) hS' rfl
      refine wpAny_bind (wpAny_letGo ?_)
      refine wpAny_bind (wpAny_updateSeq hS₂ rfl (wpAny_pure ⟨plainId_quiet F.plain_sum_loop _, ih (i + 1) _ s'.toks _ 2 (.inr rfl) (by (first | lia | omega)) hlt (W.frame _ s' _ _ hst' (by first | exact Nat.le_refl _ | exact Nat.le_succ _ | (first | lia | omega)) fun b hb o e => ?_) (by rw [ac]; exact Heap.get?_update_self _ hS₂ rfl) fun s'' t'' hm'' => ?_⟩))
      · exact (Heap.get?_update_other _ _ (fun h : S = b => hSf (by rw [h]; exact hb))).trans ((Heap.get?_update_other _ _ (fun h : S = b => hSf (by rw [h]; exact hb))).trans e)
      · refine hR s'' t'' (Moved.trans W.gtrans ((hm.mono hsub).then_heap (by first | exact Nat.le_refl _ | exact Nat.le_succ _ | (first | lia | omega)) fun b o hb e => ?_) hm'')
        exact (Heap.get?_update_other _ _ (fun h : S = b => hb (by rw [h]; exact List.mem_cons_self))).trans ((Heap.get?_update_other _ _ (fun h : S = b => hb (by rw [h]; exact List.mem_cons_self))).trans e)
    rcases hst2 with rfl | rfl
    · show wpAny _ A.in1 (if (_ : Bool) = true then (mkInt (acc i + val i) >>= _) else _) _ _ _
      split
      · refine wpAny_bind (wpAny_mkInt ?_)
        show wpAny _ A.in1 (updateSeq S (fun uu => #[.int (acc i + val i) s'.toks]) >>= _) _ _ _
        refine wpAny_bind ?_
        refine wpAny_updateSeq hS' rfl (wpAny_pure ⟨plainId_quiet F.plain_sum_loop _, ih (i + 1) _ s'.toks _ 0 (.inl rfl) (by (first | lia | omega)) hlt (W.frame _ s' _ _ hst' (by first | exact Nat.le_refl _ | exact Nat.le_succ _ | (first | lia | omega)) fun b hb o e => ?_) (by rw [ac]; exact Heap.get?_update_self _ hS' rfl) fun s'' t'' hm'' => ?_⟩)
        · exact (Heap.get?_update_other _ _ (fun h : S = b => hSf (by rw [h]; exact hb))).trans e
        · refine hR s'' t'' (Moved.trans W.gtrans ((hm.mono hsub).then_heap (by first | exact Nat.le_refl _ | exact Nat.le_succ _ | (first | lia | omega)) fun b o hb e => ?_) hm'')
          exact (Heap.get?_update_other _ _ (fun h : S = b => hb (by rw [h]; exact List.mem_cons_self))).trans e
      · exact wpAny_bind (wpAny_rule (plain _ rfl))
    · exact plain _ rfl
set_option tactic.hygienic false in
theorem args_sum2 (a b : Value) : argsOk "sum" ⟨[a, b], []⟩ := by unfold argsOk; kernel_rfl
set_option tactic.hygienic false in
theorem call_sum2 {E : Value → Shared → Prop} {s : Shared} {x : Value} {ini : Int} {tI : Tok} {Q : Value → Shared → Prop}
    (h : wpAny (model C.prog C.w) A.in1 (pyIter x) (fun it s₂ => ∃ I fp wr G n P St, ∃ val acc : Nat → Int, it = .ref I ∧ WalksS C.prog C.w A.in1 I fp wr G n P St ∧ St 0 s₂ ∧ (∀ b ∈ fp, b < s₂.heap.objs.size) ∧
      (∀ i v, P i v → ∃ t, v = .int (val i) t) ∧ (acc 0 = ini) ∧ (∀ i, acc (i + 1) = acc i + val i) ∧
      ∀ s' t', Moved wr G s₂ s' → Q (.int (acc n) t') s') E s) :
    wpAny (model C.prog C.w) A (call (.builtin "sum") [x, .int ini tI]) Q E s := by
  refine call_function_tree F.kind_sum F.plain_sum F.entry_sum (args_sum2 _ _) ?_
  unfold Builtin.«sum»
  simp only [List.length_cons, List.length_nil]
  rw [if_neg (by decide)]
  refine wpAny_bind (wpAny_of_eq (show Builtin.Builtins.bindParams "sum" ["start"] 0 ⟨[.int ini tI], []⟩ = pure [some (.int ini tI)] from rfl) ?_)
  refine wpAny_bind (wpAny_mono h (fun it s₂ h₂ => ?_) fun uu uu e => e)
  (refine x9_8 (h₂) fun I fp wr G n P St val acc rr9 W hst hfp hval h0 hacc hQ => ?_; clear h₂; subst rr9)
  have tail : ∀ (st : Int) (tk : Tok) (k : Nat), (st = 0 ∨ st = 2) → s₂.toks ≤ k → ∀ m : Sem Fin, m = (do
      for (ty, what, hint) in [("str", "strings", "''"), ("bytes", "bytes", "b''"), ("bytearray", "bytearray", "b''")] do
        if ← isInstance (.int ini tk) (.type ty) then
          rule "sum.start-refused"; raiseError "TypeError" s!"sum() can't sum {what} [use {hint}.join(seq) instead]"
      pure (.again (.builtin "sum.loop" ⟨[.ref I, ← newList [.int ini tk], rawInt st, rawInt 0], []⟩))) →
      wpAny (model C.prog C.w) A.in1 m (fun fin s' => match fin with
      | .done f => (match (Except.ok f : Result) with | .ok (.ret v) => Q v s' | .ok _ => False | .error e => E e s')
      | .again c' => c'.quiet = true ∧ codeAny (model C.prog C.w) A c' (fun r s' => match r with | .ok (.ret v) => Q v s' | .ok _ => False | .error e => E e s') s') E { s₂ with toks := k } := by
    rintro st tk k hst2 hk m rfl
    simp only [List.forIn_cons, List.forIn_nil]
    refine wpAny_bind (wpAny_bind (wpAny_bind (wpAny_isInstance (T := "int") (b := false) (typeIs_int _ _ _) PySem.sub_int_str ?_)))
    simp only [Bool.false_eq_true, if_false]
    refine wpAny_pure (wpAny_bind (wpAny_bind (wpAny_isInstance (T := "int") (b := false) (typeIs_int _ _ _) PySem.sub_int_bytes ?_)))
    simp only [Bool.false_eq_true, if_false]
    refine wpAny_pure (wpAny_bind (wpAny_bind (wpAny_isInstance (T := "int") (b := false) (typeIs_int _ _ _) PySem.sub_int_bytearray ?_)))
    simp only [Bool.false_eq_true, if_false]
    refine wpAny_pure (wpAny_pure ?_)
    refine wpAny_bind (wpAny_newObj_type ?_)
    have hSf : s₂.heap.objs.size ∉ fp := fun hm => Nat.lt_irrefl _ (hfp _ hm)
    refine wpAny_pure ⟨plainId_quiet F.plain_sum_loop _, sumLoop W val acc hacc hval s₂.heap.objs.size hSf n 0 _ tk 0 st hst2 rfl (Nat.zero_le _)
      (W.frame 0 s₂ _ _ hst hk fun b uu o e => Heap.get?_push_of_some _ e) (by rw [h0]; exact Heap.get?_push_size _ rfl) fun s' t' hm => ?_⟩
    exact hQ s' t' (hm.drop_new hk)
  dsimp only
  split
  · refine wpAny_bind (wpAny_rule (wpAny_bind (wpAny_mkInt (wpAny_bind (wpAny_pure ?_)))))
    exact tail 0 _ _ (.inl rfl) (Nat.le_succ _) _ rfl
  · refine wpAny_bind (wpAny_pure ?_)
    exact tail 2 _ _ (.inr rfl) (Nat.le_refl _) _ rfl
end
end Mine.Internal
end
section
open PySem PySem.W PyProof.Rows PySem.Calls
namespace Mine.Internal
structure Kept (C : Cfg) (s s' : Shared) : Prop where
  keep : ∀ b o, s.heap.get? b = some o → ¬ C.isTab b → s'.heap.get? b = some o
  tab : ∀ t ∈ C.tabs, ∃ more, s'.heap.IsCode t.1 t.2.1 (t.2.2 ++ more) ∧ s'.heap.TableAt t.1 t.2.1 (t.2.2 ++ more)
  size : s.heap.objs.size ≤ s'.heap.objs.size
  gens : AllBare s'.gens
  gold : ∀ (i : Nat) (st : GenState), s.gens[i]? = some st → s'.gens[i]? = some st
  drawn : s'.drawn = s.drawn
  os : s'.os = s.os
section
variable {C : Cfg} {ρ ρ' : Rho} {σ σ' : St} {s s' s'' : Shared}
set_option tactic.hygienic false in
theorem Kept.gsize (k : Kept C s s') : s.gens.size ≤ s'.gens.size := by
  rcases Nat.lt_or_ge s'.gens.size s.gens.size with h | h
  · have := k.gold s'.gens.size _ (Array.getElem?_eq_getElem h)
    exact absurd (Array.getElem?_eq_some_iff.mp this).1 (Nat.lt_irrefl _)
  · exact h
set_option tactic.hygienic false in
theorem Kept.step (k : Kept C s s') : Step C [] ρ ρ s.heap s'.heap := ⟨k.size, fun b o e n uu => k.keep b o e fun t => n (.inl t), [], by simp, fun uu hp => nomatch hp⟩
set_option tactic.hygienic false in
theorem Rel.notTab (R : Rel C ρ σ s) {a : Addr} {o : Obj} (ho : s.heap.get? a = some o) (hc : o.cls ≠ .none) : ¬ C.isTab a := by
  intro t
  (refine x1_2 (List.mem_map.mp t) fun x hx e => ?_)
  (refine x1_3 (R.tab x hx) fun m uu uu ht => ?_)
  rw [e, ho] at ht
  (refine c1 ht fun hh0 => ?_; clear ht; subst hh0)
  exact hc rfl
set_option tactic.hygienic false in
theorem Rel.notTabNs (R : Rel C ρ σ s) {L : Addr} {m : Nat} {o : Obj} (hL : SelfAt ρ s.heap L m) (e : s.heap.get? L = some o) : ¬ C.isTab L := by
  intro t
  (refine x1_2 (List.mem_map.mp t) fun x hx z => ?_)
  (refine x1_3 (R.tab x hx) fun m uu uu ht => ?_)
  obtain ⟨mm, q, ⟨o', es, ep, ho, hd, _⟩, _⟩ := hL.self
  rw [z, ho] at ht
  (refine c1 ht fun hh0 => ?_; clear ht; subst hh0)
  cases hd
set_option tactic.hygienic false in
theorem Rel.kept (R : Rel C ρ σ s) (k : Kept C s s') : Rel C ρ σ s' where
  old b o e n := k.keep b o (R.old b o e n) n
  tab := k.tab
  lo := R.lo
  dis := R.dis
  len := R.len
  st l p o e e' := by
    have q := R.st l p o e e'
    have S : Step C [] ρ ρ s.heap s'.heap := k.step
    cases q with
    | list ho hs => exact .list (k.keep _ _ ho (R.notTab ho (by simp))) (hs.go S)
    | fmt ho hd he => exact .fmt (k.keep _ _ ho (R.notTab ho (by simp))) (k.keep _ _ hd (R.notTab hd (by simp))) (he.go S)
    | acc ho hd he hs => exact .acc (k.keep _ _ ho (R.notTab ho (by simp))) (k.keep _ _ hd (R.notTab hd (by simp))) (he.go S) (hs.go S)
    | ghost ho => exact .ghost (k.keep _ _ ho (R.notTab ho (by simp)))
    | out ho => exact .out (k.keep _ _ ho (R.notTab ho (by simp)))
    | gen ho hL => exact .gen (k.keep _ _ ho (R.notTab ho (by simp))) (hL.keep fun o e => k.keep _ _ e (R.notTabNs hL e))
  gens := (R.gens.mono k.gens k.gold).heap fun l p x e e' hx o ho => by
    (refine x3_2 (R.gens.obj e e' hx) fun n nm qn z uu => ?_)
    rw [z] at ho
    (refine c1 ho fun hh0 => ?_; clear ho; subst hh0)
    exact k.keep _ _ z (R.notTab z (by simp))
  drawn := k.drawn.trans R.drawn
  os := k.os.trans R.os
  size := Nat.le_trans R.size k.size
set_option tactic.hygienic false in
theorem Kept.of (R : Rel C ρ σ s) (k : ∀ b o, s.heap.get? b = some o → s'.heap.get? b = some o) (z : s.heap.objs.size ≤ s'.heap.objs.size) (hg : s'.gens = s.gens) (hd : s'.drawn = s.drawn) (ho : s'.os = s.os) : Kept C s s' :=
  ⟨fun b o e uu => k b o e, fun t ht => let ⟨m, a, b⟩ := R.tab t ht; ⟨m, a.keeps k, b.keeps k⟩, z, by rw [hg]; exact R.gens.bare, fun i st e => by rw [hg]; exact e, hd, ho⟩
set_option tactic.hygienic false in
theorem Kept.moved {wr : List Addr} {g : Nat} (k : Kept C s s') (R : Rel C ρ σ s) (m : Moved wr (GenOnlyQ g) s' s'') (hw : ∀ b ∈ wr, s.heap.objs.size ≤ b) {a : Addr} {o : Obj} (ha : s'.heap.get? a = some o) (hl : s.heap.objs.size ≤ a) (hn : a ∉ wr) (hgz : s.gens.size ≤ g) : Kept C s s'' where
  keep b o e n := m.heap b o (fun h => Nat.not_lt.mpr (hw b h) (Heap.lt_size e)) (k.keep b o e n)
  tab t ht := by
    (refine x1_2 (k.tab t ht) fun more a1 b1 => ?_)
    (refine x1_2 (R.tab t ht) fun more' a2 b2 => ?_)
    have l1 := a2.lt
    refine ⟨more, a1.at2 (fun o e => m.heap _ o (fun h => Nat.not_lt.mpr (hw _ h) l1.1) e) (fun o e => m.heap _ o (fun h => Nat.not_lt.mpr (hw _ h) l1.2) e), ?_⟩
    obtain ⟨⟨o, vs, x, r⟩, y⟩ := b1
    exact ⟨⟨o, vs, m.heap _ _ (fun h => Nat.not_lt.mpr (hw _ h) l1.1) x, r⟩, m.heap _ _ (fun h => Nat.not_lt.mpr (hw _ h) l1.2) y⟩
  size := Nat.le_trans hl (Nat.le_of_lt (Heap.lt_size (m.heap a o hn ha)))
  gens := m.gens.bare k.gens
  gold i st e := by
    have e' := k.gold i st e
    have hi : i < s.gens.size := (Array.getElem?_eq_some_iff.mp e).1
    rcases m.gens with h | ⟨⟨_, h⟩, _⟩
    · rw [h]; exact e'
    · rw [h i (Nat.ne_of_lt (Nat.lt_of_lt_of_le hi hgz))]; exact e'
  drawn := m.drawn.trans k.drawn
  os := m.os.trans k.os
end
structure GenOk (C : Cfg) : Prop where
  bm : ∃ mg bm ob, BMod C.s₁.heap mainGlobals mg bm ob ∧ ¬ C.isTab bm
  one : ∀ t ∈ C.tabs, ∀ t' ∈ C.tabs, t.2.1 = t'.2.1 → t = t'
section
variable {C : Cfg} {ρ : Rho} {σ : St} {s : Shared} {A : Around} {E : Value → Shared → Prop} {env : Env} {vars : List Str} {lc : Lc}
set_option tactic.hygienic false in
theorem passing_all (n : Nat) : passing (fun uu => true) n 0 = List.range n := by simp [passing]
set_option tactic.hygienic false in
theorem gencode (HG : GenOk C) {t : Addr × Addr × Array Value} (ht : t ∈ C.tabs) (hcode : env.code = .ref t.1) {pos : Pos} {qn : Str} {scope : Scope} {Q : Value → Shared → Prop} (R : Rel C ρ σ s)
    (k : ∀ code s', Kept C s s' → Q code s') : wpAny (model C.prog C.w) A (genexprCode env pos qn scope) Q E s := by
  (refine x1_2 (R.tab t ht) fun more a b => ?_)
  cases hf : codeAmong pos (t.2.2 ++ more).toList with
  | some c' => exact wpAny_genexprCode_hit hcode a hf (k _ _ (.of R (fun uu uu e => e) (Nat.le_refl _) rfl rfl rfl))
  | none =>
    refine wpAny_genexprCodeX hcode a b hf fun c' h' tk hx hge hlt a' uu b' uu => k _ _ ?_
    refine ⟨fun b' o e n => hx b' o (fun z => n (z ▸ List.mem_map_of_mem ht)) e, fun t' ht' => ?_, Nat.le_trans hge (Nat.le_of_lt hlt), R.gens.bare, fun uu uu e => e, rfl, rfl⟩
    by_cases he : t'.2.1 = t.2.1
    · obtain rfl := HG.one t' ht' t ht he
      exact ⟨more ++ #[rawInt pos.line, rawInt pos.col, .ref c'], by rw [← Array.append_assoc]; exact a', by rw [← Array.append_assoc]; exact b'⟩
    · (refine x1_2 (R.tab t' ht') fun m2 a2 b2 => ?_)
      have hc : t'.1 ≠ t.2.1 := by
        intro z
        obtain ⟨⟨o, vs, x, y, _⟩, _⟩ := b2
        rw [z, b.2] at x
        cases x; cases y
      exact ⟨m2, a2.extBut hx hc he, b2.extBut hx hc he⟩
set_option tactic.hygienic false in
theorem parts_at {h : Heap} {pts : List (Str × Str)} {vs : List Value} (hs : VRs C ρ h (pts.map partAV) vs) : ∃ (Ts : Nat → Addr) (vals : Nat → Array Value), ∀ j, j < vs.length → vs[j]? = some (.ref (Ts j)) ∧ h.IsTuple (Ts j) (vals j) ∧ ¬ C.isTab (Ts j) ∧ ∃ p t u, pts[j]? = some p ∧ vals j = #[.str p.1 t, .str p.2 u] := by
  have one : ∀ j, ∃ (q : Addr × Array Value), j < vs.length → vs[j]? = some (.ref q.1) ∧ h.IsTuple q.1 q.2 ∧ ¬ C.isTab q.1 ∧ ∃ p t u, pts[j]? = some p ∧ q.2 = #[.str p.1 t, .str p.2 u] := by
    intro j
    by_cases hj : j < vs.length
    · have hj' : j < pts.length := by have := hs.length; rw [List.length_map] at this; (first | lia | omega)
      (refine x1_2 (parts_get hs (List.getElem?_eq_getElem hj')) fun v hv q => ?_)
      unfold partAV at q
      cases q with | @tup a us n _ ho hm hq =>
      cases hq with | cons q1 q2 => cases q2 with | cons q2 q3 => cases q3; cases q1 with | str _ t _ => cases q2 with | str _ u _ =>
      exact ⟨(a, #[.str pts[j].1 t, .str pts[j].2 u]), fun uu => ⟨hv, ⟨_, ho, rfl, n, rfl⟩, fun z => hm (.inl z), pts[j], t, u, List.getElem?_eq_getElem hj', rfl⟩⟩
    · exact ⟨(0, #[]), fun h => absurd h hj⟩
  exact ⟨fun j => (one j).choose.1, fun j => (one j).choose.2, fun j hj => (one j).choose_spec hj⟩
end
end Mine.Internal
end
section
open PySem PySem.W PyProof.Rows PySem.Calls
namespace Mine.Internal
noncomputable def EltOk (C : Cfg) (env : Env) (scope : Scope) (elt : Expr) (xa xb : Str) (pts : List (Str × Str)) (F : Str × Str → Value → Prop) : Prop :=
  ∀ (Cn : Addr) (code : Value) (A' : Around) (E' : Value → Shared → Prop) (p : Str × Str) (t u : Tok) (s₂ : Shared) (m₂ : Str → Option Value), A'.handled = none → p ∈ pts → s₂.heap.Ns Cn m₂ → m₂ xa = some (.str p.1 t) → m₂ xb = some (.str p.2 u) →
    (∀ b o, C.s₁.heap.get? b = some o → ¬ C.isTab b → s₂.heap.get? b = some o) →
    wpAny (model C.prog C.w) A' (eval elt (genEnv scope [] Cn code builtinsNs env)) (fun y s₃ => F p y ∧ Keeps s₂ s₃) E' s₂
section
variable {C : Cfg} {ρ : Rho} {σ : St} {s : Shared} {A : Around} {E : Value → Shared → Prop} {env : Env} {vars : List Str} {lc : Lc}
set_option tactic.hygienic false in
theorem monoP {A : Around} {I : Addr} {fp wr : List Addr} {G : Array GenState → Array GenState → Prop} {n : Nat} {P P' : Nat → Value → Prop} {St : Nat → Shared → Prop} (W : WalksS C.prog C.w A I fp wr G n P St) (h : ∀ j y, P j y → P' j y) : WalksS C.prog C.w A I fp wr G n P' St where
  sub := W.sub
  grefl := W.grefl
  gtrans := W.gtrans
  frame := W.frame
  item := fun i s Q E hi st hQ => W.item i s Q E hi st fun v s' p => hQ v s' (h _ _ p)
  done := W.done
  self := W.self
set_option tactic.hygienic false in
theorem gen_rel (H : CfgOk C) (HC : ClsOk C) (HA : AccOk C) (HG : GenOk C) (He : EnvOk env vars) {t : Addr × Addr × Array Value} (ht : t ∈ C.tabs) (hcode : env.code = .ref t.1)
    {elt : Expr} {xa xb sn : Str} {pa pb pt ps : Pos} {kt : Nat} {scope : Scope} {pos : Pos} {Q : Value → Shared → Prop}
    (hco : scope.isCoroutine = false) (hclos : closureFor scope env = pure []) (hcell : ∀ y ∈ scope.names, y.2 ≠ .cell) (h0 : scope.names.lookup (".0" : Str) = some NameKind.local)
    (hxa : scope.names.lookup xa = some .local) (hxb : scope.names.lookup xb = some .local) (hab : xa ≠ xb) (hkind : scope.kind = .function)
    {i0 l : Nat} {ini : Int} {pts : List (Str × Str)} (hi0 : vars[i0]? = some sn) (hsn : (sn == ("__debug__" : Str)) = false) (hA : AOk 1 A) (R : Rel C ρ σ s) (lr : LcR C ρ s.heap env.locals vars lc) (hself : lc[i0]? = some (some (.loc l))) (hl : σ[l]? = some (.acc ini pts))
    {F : Str × Str → Value → Prop} (hel : EltOk C env scope elt xa xb pts F)
    (k : ∀ a g o s₅ fp wr St, s.gens.size ≤ g → Kept C s s₅ → s₅.heap.get? a = some o → s.heap.objs.size ≤ a → a ∉ wr → (∀ b ∈ wr, s.heap.objs.size ≤ b) → WalksS C.prog C.w A.in4 a fp wr (GenOnlyQ g) pts.length (fun j y => ∃ p, pts[j]? = some p ∧ F p y) St → St 0 s₅ →
      (∀ b ∈ fp, b < s₅.heap.objs.size) → a ∈ fp → (∀ i s', St i s' → s'.TypeIs (.ref a) "generator") → Q (.ref a) s₅) :
    wpAny (model C.prog C.w) A (eval (.GeneratorExp elt [⟨.Tuple [.Name xa pa, .Name xb pb] kt pt, .Name sn ps, [], 0⟩] scope pos) env) Q E s := by
  refine wpAny_GeneratorExp_walksQT hA.1 hco hclos hcell h0 hxa hxb hab hkind (by have := hA.2.1; (first | lia | omega)) ?_ (fun uu => rfl)
  refine wpAny_Name (load_name He hi0 hself lr fun v qv => ?_) hsn
  (refine x1_2 (R.obj hl) fun p' q1 ob => ?_)
  refine qv.loc_e fun uu e0 => ?_
  rw [e0] at q1; cases q1
  cases ob with | @acc a dd es n n' vs _ _ ho hd he hs =>
  refine below_iter (R.kin H) (accInst ho hd) HC.acMro HA.iter ?_
  obtain ⟨hh, gg, dr, tk, os⟩ := s
  have hlen : vs.length = pts.length := by rw [hs.length, List.length_map]
  have R₂ := R.push { cls := .type "list_iterator", data := .fields #[.ref a, .int 0 0] } (n := tk)
  have lim₂ : (hh.push { cls := .type "list_iterator", data := .fields #[.ref a, .int 0 0] }).NoLimit := by
    (refine x1_2 (H.lim) fun mc x y => ?_)
    exact ⟨mc, x.at fun o e => Heap.get?_push_of_some _ (R.old _ _ e H.stat), y⟩
  refine ⟨lim₂, gencode HG ht hcode R₂ fun code s₃ K₃ => ?_⟩
  have R₃ := R₂.kept K₃
  (refine x3_2 (HG.bm) fun mg bm ob' M hbm => ?_)
  have M₃ : BMod s₃.heap env.globals mg bm ob' := by rw [He.glob]; exact ⟨M.ns.at fun o e => R₃.old _ _ e H.glob, M.name, M.ne, R₃.old _ _ M.obj hbm, M.cls, M.dict, M.data⟩
  refine wpAny_builtinsFor M₃.ns M₃.name M₃.ne M₃.obj M₃.cls M₃.dict M₃.data ?_
  (refine x2_1 (parts_at (C := C) hs) fun Ts vals hT => ?_)
  have ait : a < hh.objs.size := Heap.lt_size ho
  have sz : vs.toArray.size = vs.length := List.size_toArray ..
  have hTlt : ∀ j, j < vs.length → Ts j < hh.objs.size := fun j hj => by obtain ⟨_, ⟨_, e, _⟩, _⟩ := hT j hj; exact Heap.lt_size e
  have W := fun (A' : Around) (hA' : A'.handled = none) => walkPairs (C := C) hA' hh.objs.size a (Nat.ne_of_lt ait) vs.toArray Ts vals (fun j hj => by rw [sz] at hj; simpa using (hT j hj).1) fun j hj => Nat.ne_of_lt (hTlt j (sz ▸ hj))
  have nt : ¬ C.isTab a := R.notTab ho (by simp)
  have z₃ : hh.objs.size < s₃.heap.objs.size := by have := K₃.size; rw [show (hh.push _).objs.size = hh.objs.size + 1 from Heap.size_push ..] at this; (first | lia | omega)
  have itAt : s₃.heap.get? hh.objs.size = some { cls := .type "list_iterator", data := .fields #[.ref a, .int 0 0] } := K₃.keep _ _ (Heap.get?_push_size _ rfl) (R₂.notTab (Heap.get?_push_size _ rfl) (by simp))
  have up : ∀ b o, hh.get? b = some o → ¬ C.isTab b → s₃.heap.get? b = some o := fun b o e nb => K₃.keep b o (Heap.get?_push_of_some _ e) nb
  have lim₃ : s₃.heap.NoLimit := by
    (refine x1_2 (H.lim) fun mc x y => ?_)
    exact ⟨mc, x.at fun o e => R₃.old _ _ e H.stat, y⟩
  have hcs : cStatics ≠ hh.objs.size := by
    (refine x1_2 (H.lim) fun mc x y => ?_)
    exact Nat.ne_of_lt (Nat.lt_of_lt_of_le x.lt R.size)
  refine ⟨hh.objs.size, _, [hh.objs.size], vs.toArray.size, _, _, _, (fun uu => true), (fun i y => ∃ p, pts[i]? = some p ∧ F p y), rfl, W, ?_, ⟨⟨_, itAt, rfl, rfl⟩, ⟨_, _, up _ _ ho nt, rfl⟩, fun j hj => ?_⟩, ?_, lim₃, (by simpa using hcs), ?_, ?_⟩
  · rintro i v ⟨hi, rfl⟩
    (refine x3_2 ((hT i (sz ▸ hi)).2.2.2) fun p t1 t2 uu e => ?_)
    exact ⟨_, _, e⟩
  · (refine x0_4 (hT j (sz ▸ hj)) fun uu tt nt' uu => ?_)
    exact tt.at fun o e => up _ o e nt'
  · intro b hb
    rcases List.mem_cons.mp hb with rfl | hb
    · exact z₃
    · rcases List.mem_cons.mp hb with rfl | hb
      · exact Nat.lt_trans ait z₃
      · (refine x1_2 (List.mem_map.mp hb) fun j hj rr2 => ?_; subst rr2)
        exact Nat.lt_trans (hTlt j (sz ▸ List.mem_range.mp hj)) z₃
  · intro href hk
    have oldk : ∀ (s₂ : Shared), (∀ b ∈ List.range s₃.heap.objs.size, b ∉ [hh.objs.size] → ∀ o, href.get? b = some o → s₂.heap.get? b = some o) → ∀ b o, C.s₁.heap.get? b = some o → ¬ C.isTab b → s₂.heap.get? b = some o := by
      intro s₂ h2 b o e nb
      have e3 := R₃.old b o e nb
      refine h2 b (List.mem_range.mpr (Heap.lt_size e3)) ?_ o (hk b o e3)
      intro hm
      obtain rfl : b = hh.objs.size := by simpa using hm
      exact absurd (Nat.lt_of_lt_of_le (Heap.lt_size e) R.size) (Nat.lt_irrefl _)
    refine ⟨fun A' E' i va vb s₂ m₂ hh' hP hn ha hb hkp => ?_, fun A' E' i va vb s₂ m₂ hh' hP uu hn ha hb hkp => ?_⟩
    · exact wpAny_pure ⟨rfl, s₂.heap, s₂.toks, rfl, fun uu uu e => e⟩
    · (refine x0_2 (hP) fun hi e => ?_; clear hP)
      (refine x3_2 ((hT i (sz ▸ hi)).2.2.2) fun p t1 t2 hp ev => ?_)
      rw [ev] at e
      obtain ⟨rfl, rfl⟩ : va = .str p.1 t1 ∧ vb = .str p.2 t2 := by simpa using congrArg Array.toList e
      exact wpAny_mono (hel _ _ A' E' p t1 t2 s₂ m₂ hh' (List.mem_of_getElem? hp) hn ha hb (oldk s₂ hkp)) (fun y s₃ r => ⟨⟨p, hp, r.1⟩, r.2⟩) fun uu uu e => e
  · intro a' h₅ tk gs hgb hag hsz₅ hk₅ WS hat
    (refine x3_2 (hat.1) fun oa nm qn hoa uu => ?_)
    rw [passing_all, List.length_range, sz, hlen] at WS
    rw [sz, hlen] at hat
    refine k a' s₃.gens.size oa { s₃ with gens := s₃.gens.push gs, toks := tk, heap := h₅ } (a' :: s₃.heap.objs.size :: List.range s₃.heap.objs.size) (s₃.heap.objs.size :: [hh.objs.size]) _ K₃.gsize ⟨fun b o e nb => hk₅ b o (up b o e nb), fun t ht => ?_, ?_, K₃.gens.push hgb, (fun i st e => by have e' := K₃.gold i st e; have hi := (Array.getElem?_eq_some_iff.mp e').1; show (s₃.gens.push gs)[i]? = some st; rw [Array.getElem?_push_lt hi]; rw [Array.getElem?_eq_getElem hi] at e'; exact e'), K₃.drawn, K₃.os⟩ hoa (Nat.le_of_lt (Nat.lt_trans z₃ hag)) ?_ ?_ ?_ hat ?_ (List.mem_cons_self ..) (fun i s' st => st.1.typeIs)
    · (refine x1_2 (K₃.tab t ht) fun more x y => ?_)
      exact ⟨more, x.keeps hk₅, y.keeps hk₅⟩
    · show hh.objs.size ≤ h₅.objs.size
      rw [hsz₅]; exact Nat.le_of_lt (Nat.lt_trans (Nat.lt_trans z₃ hag) (Nat.lt_succ_self _))
    · intro hm
      rcases List.mem_cons.mp hm with e | hm
      · exact absurd (e ▸ hag) (Nat.lt_irrefl _)
      · obtain rfl : a' = hh.objs.size := by simpa using hm
        exact absurd (Nat.lt_trans z₃ hag) (Nat.lt_irrefl _)
    · intro b hb
      rcases List.mem_cons.mp hb with rfl | hb
      · exact Nat.le_of_lt z₃
      · obtain rfl : b = hh.objs.size := by simpa using hb
        exact Nat.le_refl _
    · refine monoP WS fun j y => ?_
      rintro ⟨i, hi, q⟩
      obtain ⟨hj, e⟩ := List.getElem?_eq_some_iff.mp hi
      rw [List.getElem_range] at e
      rw [e]; exact q
    · intro b hb
      show b < h₅.objs.size
      rw [hsz₅]
      rcases List.mem_cons.mp hb with rfl | hb
      · exact Nat.lt_succ_self _
      · rcases List.mem_cons.mp hb with rfl | hb
        · exact Nat.lt_succ_of_lt hag
        · exact Nat.lt_succ_of_lt (Nat.lt_trans (List.mem_range.mp hb) hag)
end
end Mine.Internal
end
section
open PySem PySem.W PyProof.Rows PySem.Calls
namespace Mine.Internal
structure OutEnv (env : Env) : Prop where
  kind : env.scope.kind = .function
  glob : env.globals = mainGlobals
  blt : env.builtins = builtinsNs
set_option tactic.hygienic false in
theorem EnvOk.out {env : Env} {vars : List Str} (h : EnvOk env vars) : OutEnv env := ⟨h.kind, h.glob, h.blt⟩
noncomputable def OldAt (C : Cfg) (s : Shared) : Prop := ∀ b o, C.s₁.heap.get? b = some o → ¬ C.isTab b → s.heap.get? b = some o
section
variable {C : Cfg} {ρ : Rho} {σ : St} {s : Shared} {A : Around} {E : Value → Shared → Prop} {env : Env} {vars : List Str} {lc : Lc} {p p' : Pos}
set_option tactic.hygienic false in
theorem gname (H : CfgOk C) (He : OutEnv env) {x : Str} {v : Value} (hv : GlobVal C x v) (hx : env.kindOf x = some .globalImplicit) (hd : (x == ("__debug__" : Str)) = false) {Q : Value → Shared → Prop} (R : OldAt C s) (k : Q v s) :
    wpAny (model C.prog C.w) A (eval (.Name x p) env) Q E s := by
  (refine x1_2 (hv) fun mg hg h => ?_; clear hv)
  refine Name_function_global He.kind hx ?_ hd
  have hg' : s.heap.Ns env.globals mg := by rw [He.glob]; exact hg.at fun o e => R _ _ e H.glob
  rcases h with h | ⟨h, mb, hb, h'⟩
  · exact loadGlobal_global hg' h k
  · exact loadGlobal_builtin hg' h (by rw [He.blt]; exact hb.at fun o e => R _ _ e H.blt) h' k
set_option tactic.hygienic false in
theorem lname (He : OutEnv env) {x : Str} {v : Value} {m : Str → Option Value} (hx : env.kindOf x = some .local) (hn : s.heap.Ns env.locals m) (hm : m x = some v) (hd : (x == ("__debug__" : Str)) = false) {Q : Value → Shared → Prop} (k : Q v s) :
    wpAny (model C.prog C.w) A (eval (.Name x p) env) Q E s := wpAny_Name (wpAny_loadName_local He.kind hx hn hm k) hd
set_option tactic.hygienic false in
theorem call1 (H : CfgOk C) (He : OutEnv env) {f x : Str} {id : String} {v : Value} {m : Str → Option Value} {p0 p1 : Pos} (hv : GlobVal C f (.builtin id)) (hf : env.kindOf f = some .globalImplicit) (hfd : (f == ("__debug__" : Str)) = false) (hx : env.kindOf x = some .local) (hxd : (x == ("__debug__" : Str)) = false)
    (R : OldAt C s) (hn : s.heap.Ns env.locals m) (hm : m x = some v) {Q : Value → Shared → Prop} (k : wpAny (model C.prog C.w) A (call (.builtin id) [v]) Q E s) : wpAny (model C.prog C.w) A (eval (.Call (.Name f p0) [.Name x p1] [] p) env) Q E s := by
  show wpAny _ _ (do callWith p (← eval (.Name f p0) env) [] (backTo p (starEach [.Name x p1] env)) (backToKw p (keywordEach [] env))) _ _ _
  refine wpAny_bind (gname H He hv hf hfd R ?_)
  refine callWith_of (P := fun uu => True) rfl (fun h uu => ⟨.machine, .inr (.inl rfl), .now⟩) ?_
  show wpAny _ _ (evalArgs _ true ((false, eval (.Name x p1) env) :: _) []) _ _ _
  refine evalArgs_plain ?_
  refine wpAny_items_cons (pos := p) (rest := []) (lname He hx hn hm hxd ?_)
  exact wpAny_items_nil ⟨trivial, by simpa using k⟩
end
noncomputable def partLen (p : Str × Str) : Int := (p.1.length : Int) + p.2.length
noncomputable def partsLen (ps : List (Str × Str)) : Int := (ps.map partLen).sum
noncomputable def smallStr (x : Str) : Bool := x.length ≤ 1000000
noncomputable def smallPart (p : Str × Str) : Bool := smallStr p.1 && smallStr p.2
set_option tactic.hygienic false in
theorem partsLen_take_succ {ps : List (Str × Str)} {i : Nat} (p : Str × Str) (h : ps[i]? = some p) : partsLen (ps.take (i + 1)) = partsLen (ps.take i) + partLen p := by
  unfold partsLen
  rw [List.take_add_one, h]
  simp
structure LenScope (scope : Scope) : Prop where
  kind : scope.kind = .function
  len : scope.names.lookup ("len" : Str) = some NameKind.globalImplicit
  a : scope.names.lookup ("fws" : Str) = some NameKind.local
  b : scope.names.lookup ("part" : Str) = some NameKind.local
set_option tactic.hygienic false in
theorem elt_len {C : Cfg} {env : Env} {scope : Scope} (H : CfgOk C) (He : OutEnv env) (hS : LenScope scope) (hv : GlobVal C "len" (.builtin "len")) {pts : List (Str × Str)} (hp : pts.all smallPart = true) {p0 p1 p2 p3 p4 p5 p6 : Pos} :
    EltOk C env scope (.BinOp (.Call (.Name "len" p0) [.Name "fws" p1] [] p2) .Add (.Call (.Name "len" p3) [.Name "part" p4] [] p5) p6) "fws" "part" pts (fun p y => ∃ t, y = .int (partLen p) t) := by
  intro Cn code A' E' p t u s₂ m₂ hh hm hn ha hb hold
  have hs := List.all_eq_true.mp hp p hm
  unfold smallPart smallStr at hs
  rw [Bool.and_eq_true, decide_eq_true_eq, decide_eq_true_eq] at hs
  have He' : OutEnv (genEnv scope [] Cn code builtinsNs env) := ⟨hS.kind, He.glob, rfl⟩
  refine wpAny_BinOp ?_
  refine call1 H He' (id := "len") hv hS.len (by decide) hS.a (by decide) hold hn ha ?_
  refine PyProof.Rows.len_str (by (first | lia | omega)) ?_
  refine call1 (s := { s₂ with toks := s₂.toks + 1 + 1 }) H He' (id := "len") hv hS.len (by decide) hS.b (by decide) hold hn hb ?_
  refine PyProof.Rows.len_str (by (first | lia | omega)) ?_
  refine wpAny_add_int ?_
  exact ⟨⟨_, rfl⟩, s₂.heap, _, rfl, fun uu uu e => e⟩
end Mine.Internal
end
section
open PySem PySem.W PyProof.Rows PySem.Calls
namespace Mine.Internal
set_option tactic.hygienic false in
theorem join2 (a b : Str) : Txt.join "" [a, b] = a ++ b := by
  show (⟨(a.cps ++ #[]) ++ b.cps⟩ : Str) = ⟨a.cps ++ b.cps⟩
  rw [Array.append_empty]
set_option tactic.hygienic false in
theorem str_len_append (a b : Str) : (a ++ b).length = a.length + b.length := by
  show (a.cps ++ b.cps).size = a.cps.size + b.cps.size
  exact Array.size_append
set_option tactic.hygienic false in
theorem strOk_join {sep : Str} : ∀ {xs : List Str}, PyData.strOk sep = true → (∀ x ∈ xs, PyData.strOk x = true) → PyData.strOk (Txt.join sep xs) = true := by
  intro xs hs hx
  show PyData.strOk (Builtin.Str.glued sep xs) = true
  unfold Builtin.Str.glued
  have go : ∀ (ys : List Str) (acc : Array Nat), PyData.strOk ⟨acc⟩ = true → (∀ x ∈ ys, PyData.strOk x = true) → PyData.strOk ⟨ys.foldl (fun acc p => acc ++ sep.cps ++ p.cps) acc⟩ = true := by
    intro ys
    induction ys with
    | nil => intro acc h _; exact h
    | cons y ys ih =>
      intro acc h h'
      rw [List.foldl_cons]
      refine ih _ ?_ fun x hx => h' x (List.mem_cons_of_mem _ hx)
      exact strOk_append (x := ⟨acc ++ sep.cps⟩) (y := y) (strOk_append (x := ⟨acc⟩) (y := sep) h hs) (h' y (List.mem_cons_self ..))
  cases xs with
  | nil => show PyData.strOk Str.empty = true; decide +kernel
  | cons x xs => exact go xs x.cps (hx x (List.mem_cons_self ..)) fun y hy => hx y (List.mem_cons_of_mem _ hy)
noncomputable def partStr (p : Str × Str) : Str := p.1 ++ p.2
noncomputable def accText (ps : List (Str × Str)) : Str := Txt.join "" (ps.map partStr)
set_option tactic.hygienic false in
theorem partStr_len (p : Str × Str) : ((partStr p).length : Int) = partLen p := by unfold partStr partLen; rw [str_len_append]; (first | lia | omega)
set_option tactic.hygienic false in
theorem partsLen_sum (ps : List (Str × Str)) : ((((ps.map partStr).map fun x => x.length).sum : Nat) : Int) = partsLen ps := by
  induction ps with
  | nil => rfl
  | cons p ps ih =>
    unfold partsLen at ih ⊢
    simp only [List.map_cons, List.sum_cons]
    rw [← ih, ← partStr_len]
    (first | lia | omega)
section
variable {C : Cfg} {ρ : Rho} {σ : St} {s : Shared} {A : Around} {E : Value → Shared → Prop} {env : Env} {vars : List Str} {lc : Lc} {p p' : Pos}
set_option tactic.hygienic false in
theorem parts_ok {h : Heap} {ps : List (Str × Str)} : ∀ {vs : List Value}, VRs C ρ h (ps.map partAV) vs → ∀ p ∈ ps, PyData.strOk p.1 = true ∧ PyData.strOk p.2 = true := by
  induction ps with
  | nil => intro _ _ p hp; cases hp
  | cons q ps ih =>
    intro vs hs p hp
    refine hs.cons_e fun w ws a b => ?_
    rcases List.mem_cons.mp hp with rfl | hp
    · exact a.tup_e fun uu uu uu uu uu hq => hq.cons_e fun uu uu q1 q2 => q2.cons_e fun uu uu q2 uu => q1.str_e fun uu o1 => q2.str_e fun uu o2 => ⟨o1, o2⟩
    · exact ih b p hp
set_option tactic.hygienic false in
theorem callJoin (H : CfgOk C) (He : OutEnv env) {f : Str} {sep : Str} {tf : Tok} {es : List Expr} {p0 apos : Pos} (hv : GlobVal C f (.str sep tf)) (hf : env.kindOf f = some .globalImplicit) (hfd : (f == ("__debug__" : Str)) = false) (hp : (apos.endLine == p.line) = true) (R : OldAt C s) {e : Expr} (he : es = [e])
    (hn : starEach [e] env = [(false, eval e env)]) {Q : Value → Shared → Prop} (k : wpAny (model C.prog C.w) A (eval e env) (fun v s' => wpAny (model C.prog C.w) A (call (.builtin "str.join") [.str sep tf, v]) Q E s') E s) :
    wpAny (model C.prog C.w) A (eval (.Call (.Attribute (.Name f p0) "join" apos) es [] p) env) Q E s := by
  subst he
  rw [arm_eval_Call, show ∀ (n : Str) (p : Pos) nm whole, attributeBase (.Name n p) nm env whole = whole from fun uu uu uu uu => rfl]
  refine wpAny_bind (gname H He hv hf hfd R (wpAny_bind (wpAny_standAt ?_)))
  have hform : methodCallForm (1 + 0) (backTo p (starEach [e] env)) (backToKw p (keywordEach [] env)) = true := by rw [hn]; rfl
  show wpAny _ _ (methodCall (.Name f p0) "join" apos p env (.str sep tf) (1 + 0) (backTo p (starEach [e] env)) (backToKw p (keywordEach [] env))) _ _ _
  unfold methodCall
  rw [hform]
  refine wpAny_bind (wpAny_holding ?_)
  refine GM.join ?_
  dsimp only
  have hpos : methodCallPos true (.Name f p0) env apos p = pure p := by
    unfold methodCallPos
    rw [hp]; rfl
  rw [hpos]
  refine wpAny_bind (wpAny_pure ?_)
  refine callWith_of (P := fun uu => True) (by rw [hn]; rfl) (fun h uu => ⟨.machine, .inr (.inl rfl), .now⟩) ?_
  rw [hn]
  refine evalArgs_plain ?_
  have := wpAny_items_cons (M := model C.prog C.w) (A := A) (E := E) (s := s) (env := env) (pos := p) (e := e) (rest := []) (Q := fun vs s' => True ∧ wpAny (model C.prog C.w) A (call (.builtin "str.join") ([.str sep tf] ++ vs) []) Q E s') (wpAny_mono k (fun v s' hk => wpAny_items_nil ⟨trivial, hk⟩) fun uu uu z => z) hn
  rw [hn] at this
  exact this
structure StrScope (scope : Scope) : Prop where
  kind : scope.kind = .function
  es : scope.names.lookup ("EMPTYSTRING" : Str) = some NameKind.globalImplicit
  a : scope.names.lookup ("fws" : Str) = some NameKind.local
  b : scope.names.lookup ("part" : Str) = some NameKind.local
set_option tactic.hygienic false in
theorem elt_str {scope : Scope} (H : CfgOk C) (He : OutEnv env) (hS : StrScope scope) {tf : Tok} (hv : GlobVal C "EMPTYSTRING" (.str "" tf)) {pts : List (Str × Str)} (hp : pts.all smallPart = true) {p0 apos p1 p2 p3 p4 : Pos} {kt : Nat} (hpp : (apos.endLine == p4.line) = true) :
    EltOk C env scope (.Call (.Attribute (.Name "EMPTYSTRING" p0) "join" apos) [.Tuple [.Name "fws" p1, .Name "part" p2] kt p3] [] p4) "fws" "part" pts (fun p y => ∃ t, y = .str (partStr p) t) := by
  intro Cn code A' E' p t u s₂ m₂ hh hm hn ha hb hold
  have hs := List.all_eq_true.mp hp p hm
  unfold smallPart smallStr at hs
  rw [Bool.and_eq_true, decide_eq_true_eq, decide_eq_true_eq] at hs
  have He' : OutEnv (genEnv scope [] Cn code builtinsNs env) := ⟨hS.kind, He.glob, rfl⟩
  refine callJoin H He' hv hS.es (by decide) hpp hold rfl rfl ?_
  refine wpAny_Tuple ?_
  refine wpAny_items_cons (lname He' hS.a hn ha (by decide) ?_)
  refine wpAny_items_cons (lname He' hS.b hn hb (by decide) ?_)
  refine wpAny_items_nil ⟨(show 2 ≤ sizeLine by decide), ?_⟩
  refine join_tuple (ys := [p.1, p.2]) (items := #[.str p.1 t, .str p.2 u]) ⟨_, Heap.get?_push_size _ rfl, rfl, _, rfl⟩ (.cons _ _ (.cons _ _ .nil)) ?_ fun t' k => ?_
  · show (p.1.length + (p.2.length + 0)) + 2 * 0 ≤ _
    (first | lia | omega)
  · rw [join2]
    exact ⟨⟨t', rfl⟩, _, _, rfl, fun b o e => Heap.get?_push_of_some _ e⟩
end
end Mine.Internal
end
section
open PySem PySem.W PyProof.Rows PySem.Calls
namespace Mine.Internal
section
variable {C : Cfg} {ρ : Rho} {σ : St} {s : Shared} {A : Around} {E : Value → Shared → Prop} {env : Env} {vars : List Str} {lc : Lc} {p p' : Pos}
set_option tactic.hygienic false in
theorem args2 {f : Value} {e1 e2 : Expr} {Q : Args → Shared → Prop} (h1 : starEach [e1, e2] env = (false, eval e1 env) :: starEach [e2] env) (h2 : starEach [e2] env = (false, eval e2 env) :: starEach [] env)
    (h : wpAny (model C.prog C.w) A (eval e1 env) (fun v1 s1 => wpAny (model C.prog C.w) A (eval e2 env) (fun v2 s2 => Q ⟨[v1, v2], []⟩ s2) E s1) E s) : wpAny (model C.prog C.w) A (evalArgs f true (backTo p (starEach [e1, e2] env)) []) Q E s := by
  have it : wpAny (model C.prog C.w) A (spliced (backTo p (starEach [e1, e2] env))) (fun vs s' => Q ⟨vs, []⟩ s') E s :=
    wpAny_items_cons (wpAny_mono h (fun v1 s1 k1 => wpAny_items_cons (wpAny_mono k1 (fun v2 s2 k2 => wpAny_items_nil k2) fun uu uu z => z) h2) fun uu uu z => z) h1
  rw [h1] at it ⊢
  exact evalArgs_plain it
structure GenEnvOk (C : Cfg) (env : Env) (vars : List Str) (t : Addr × Addr × Array Value) (scope : Scope) : Prop where
  tab : t ∈ C.tabs
  code : env.code = .ref t.1
  coro : scope.isCoroutine = false
  clos : closureFor scope env = pure []
  cell : ∀ y ∈ scope.names, y.2 ≠ .cell
  zero : scope.names.lookup (".0" : Str) = some NameKind.local
  self : vars[0]? = some ("self" : Str)
noncomputable def lenAt (pts : List (Str × Str)) (i : Nat) : Int := match pts[i]? with | some p => partLen p | none => 0
noncomputable def accFits (ps : List (Str × Str)) : Bool := ps.all smallPart && decide (ps.length ≤ 1000000) && decide (partsLen ps ≤ 1000000)
noncomputable def accLenS : SM := fun lc σ => match (lc[0]? : Option (Option AV)) with
  | some (some (AV.loc l)) => match σ[l]? with
    | some (.acc ini ps) => if accFits ps then some (.ret (.int (ini + partsLen ps)), lc, σ) else none
    | _ => none
  | _ => none
theorem den_accLen {d : Nat} (H : CfgOk C) (HC : ClsOk C) (HA : AccOk C) (HG : GenOk C) (He : EnvOk env vars) {t : Addr × Addr × Array Value} {scope : Scope} (GE : GenEnvOk C env vars t scope) (LS : LenScope scope) (hl : GlobVal C "len" (.builtin "len")) (hsum : GlobVal C "sum" (.builtin "sum")) (hk : env.kindOf "sum" = some .globalImplicit)
    {pa pb pt ps pos p0 q0 q1 r0 r1 r2 r3 r4 r5 r6 pr : Pos} {kt : Nat} :
    DenS C (d + 1) env vars (.Return (some (.Call (.Name "sum" p0) [.GeneratorExp (.BinOp (.Call (.Name "len" r0) [.Name "fws" r1] [] r2) .Add (.Call (.Name "len" r3) [.Name "part" r4] [] r5) r6) [⟨.Tuple [.Name "fws" pa, .Name "part" pb] kt pt, .Name "self" ps, [], 0⟩] scope pos, .Attribute (.Name "self" q0) "_initial_size" q1] [] p)) pr) accLenS := by
  intro lc σ fl lc' σ' hf' A Q E s ρ hA R lr kk
  unfold accLenS at hf'
  split at hf'
  · rename_i l hself
    (refine sa hf' ?_; clear hf'; intro ini pts hl' hf')
    (refine sf hf' ?_; clear hf'; intro hfit hf')
    (refine c3 hf' fun hh0 hh1 hh2 => ?_; clear hf'; subst hh0; subst hh1; subst hh2)
    unfold accFits at hfit
    rw [Bool.and_eq_true, Bool.and_eq_true] at hfit
    refine wpAny_Return_some ?_
    show wpAny _ _ (do callWith p (← eval (.Name "sum" p0) env) [] (backTo p (starEach [_, _] env)) (backToKw p (keywordEach [] env))) _ _ _
    refine wpAny_bind (gname H He.out hsum hk (by decide) (fun b o e n => R.old b o e n) ?_)
    refine callWith_of (P := fun uu => True) rfl (fun h uu => ⟨.machine, .inr (.inl rfl), .now⟩) ?_
    refine args2 rfl rfl ?_
    refine gen_rel H HC HA HG He GE.tab GE.code GE.coro GE.clos GE.cell GE.zero LS.a LS.b (by decide) LS.kind GE.self (by decide) (hA.mono (by (first | lia | omega))) R lr hself hl' (elt_len H He.out LS hl hfit.1.1) fun a g o s₅ fp wr St hgz K ho hla hnw hwr W st0 hfp haf hty => ?_
    have R₅ := R.kept K
    have lr₅ := lr.go (K.step (ρ := ρ))
    refine Attribute_any_ (wpAny_Name (load_name He GE.self hself lr₅ fun v qv => ?_) (by decide)) (by rw [arm_eval_Attribute]; rfl)
    (refine x1_2 (R₅.obj hl') fun p' q1 ob => ?_)
    (refine x1_2 (qv.loc_inv) fun uu e0 rr2 => ?_; subst rr2)
    rw [e0] at q1; cases q1
    cases ob with | @acc ax dd es n n' vs _ _ ho' hd he hs =>
    have ge := entR_get (name := attrName 6) he
    rw [(acc_lookup (k := 6) (ini := ini) (ps := pts) rfl).1] at ge
    (refine x1_2 (ge) fun w hw qw => ?_; clear ge)
    (refine x1_1 (qw.int_inv) fun ti rr1 => ?_; subst rr1)
    refine getAttr_list (R₅.kin H) (accInst ho' hd) HC.acGa HC.acGt HC.acMro (findObj_own HC.acDict HC.acAttr rfl hw) rfl ?_
    refine ⟨trivial, ?_⟩
    show wpAny _ _ (call (.builtin "sum") [.ref a, .int ini ti]) _ _ _
    have W' : WalksS C.prog C.w A.in1 a fp wr (GenOnlyQ g) pts.length (fun j y => ∃ p, pts[j]? = some p ∧ ∃ t, y = .int (partLen p) t) St := W.of_in1.of_in1.of_in1
    have st1 := W.frame 0 s₅ s₅.heap (s₅.toks + 1) st0 (Nat.le_succ _) fun uu uu uu e => e
    refine call_sum2 (W'.self 0 _ _ _ st1 ⟨a, fp, wr, GenOnlyQ g, pts.length, _, St, lenAt pts, (fun i => ini + partsLen (pts.take i)), rfl, W', st1, hfp, ?_, ?_, ?_, fun s' t' hm => ?_⟩)
    · rintro i v ⟨p, hp, t, rfl⟩
      exact ⟨t, by unfold lenAt; rw [hp]⟩
    · show ini + partsLen (pts.take 0) = ini
      simp [partsLen]
    · intro i
      show ini + partsLen (pts.take (i + 1)) = ini + partsLen (pts.take i) + lenAt pts i
      unfold lenAt
      cases hp : pts[i]? with
      | some p => rw [partsLen_take_succ p hp]; dsimp only; (first | lia | omega)
      | none =>
        have := List.getElem?_eq_none_iff.mp hp
        rw [List.take_of_length_le (by (first | lia | omega)), List.take_of_length_le (by (first | lia | omega))]
        dsimp only; (first | lia | omega)
    · have K1 : Kept C s { s₅ with toks := s₅.toks + 1 } := ⟨K.keep, K.tab, K.size, K.gens, K.gold, K.drawn, K.os⟩
      have K' := K1.moved R hm hwr ho hla hnw hgz
      show Q (.ret (.int (ini + partsLen (pts.take pts.length)) t')) s'
      rw [List.take_length]
      exact kk _ _ ρ (R.kept K') (K'.step.of_nil) (lr.go K'.step) (.ret (.int _ _))
  · exact ns hf'
noncomputable def accStrS : SM := fun lc σ => match (lc[0]? : Option (Option AV)) with
  | some (some (AV.loc l)) => match σ[l]? with
    | some (.acc _ ps) => if accFits ps then some (.ret (.str (accText ps)), lc, σ) else none
    | _ => none
  | _ => none
theorem den_accStr {d : Nat} (H : CfgOk C) (HC : ClsOk C) (HA : AccOk C) (HG : GenOk C) (He : EnvOk env vars) {t : Addr × Addr × Array Value} {scope : Scope} (GE : GenEnvOk C env vars t scope) (LS : StrScope scope) {te : Tok} (hE : GlobVal C "EMPTYSTRING" (.str "" te)) (hk : env.kindOf "EMPTYSTRING" = some .globalImplicit)
    {pa pb pt ps pos p0 q0 r0 r1 r2 r3 r4 apos pr : Pos} {kt kt' : Nat} (hp1 : (apos.endLine == r4.line) = true) (hp2 : (q0.endLine == p.line) = true) :
    DenS C (d + 1) env vars (.Return (some (.Call (.Attribute (.Name "EMPTYSTRING" p0) "join" q0) [.GeneratorExp (.Call (.Attribute (.Name "EMPTYSTRING" r0) "join" apos) [.Tuple [.Name "fws" r1, .Name "part" r2] kt' r3] [] r4) [⟨.Tuple [.Name "fws" pa, .Name "part" pb] kt pt, .Name "self" ps, [], 0⟩] scope pos] [] p)) pr) accStrS := by
  intro lc σ fl lc' σ' hf' A Q E s ρ hA R lr kk
  unfold accStrS at hf'
  split at hf'
  · rename_i l hself
    (refine sa hf' ?_; clear hf'; intro ini pts hl' hf')
    (refine sf hf' ?_; clear hf'; intro hfit hf')
    (refine c3 hf' fun hh0 hh1 hh2 => ?_; clear hf'; subst hh0; subst hh1; subst hh2)
    unfold accFits at hfit
    rw [Bool.and_eq_true, Bool.and_eq_true, decide_eq_true_eq, decide_eq_true_eq] at hfit
    refine wpAny_Return_some ?_
    refine callJoin H He.out hE hk (by decide) hp2 (fun b o e n => R.old b o e n) rfl rfl ?_
    refine gen_rel H HC HA HG He GE.tab GE.code GE.coro GE.clos GE.cell GE.zero LS.a LS.b (by decide) LS.kind GE.self (by decide) (hA.mono (by (first | lia | omega))) R lr hself hl' (elt_str H He.out LS hE hfit.1.1 hp1) fun a g o s₅ fp wr St hgz K ho hla hnw hwr W st0 hfp haf hty => ?_
    have W' : WalksS C.prog C.w A.in1.in1 a fp wr (GenOnlyQ g) pts.length (fun j y => ∃ p, pts[j]? = some p ∧ ∃ t, y = .str (partStr p) t) St := W.of_in1.of_in1
    (refine x1_2 (R.obj hl') fun pp uu ob => ?_)
    have oks : ∀ p ∈ pts, PyData.strOk p.1 = true ∧ PyData.strOk p.2 = true := by
      cases ob with | acc _ _ _ hs => exact parts_ok hs
    have hsz : pts.length ≤ sizeLine := Nat.le_trans hfit.1.2 (by decide)
    refine SC.joinGen W' hty st0 hfp haf (fun i v h => by obtain ⟨p, _, t, rfl⟩ := h; exact ⟨_, _, rfl⟩) (fun s' li hm hit => ?_) hsz
    have hli : li.map (·.1) = pts.map partStr := by
      refine List.ext_getElem? fun i => ?_
      have hz := hit.1
      rw [List.size_toArray] at hz
      have hz' : li.length = pts.length := by rw [← hz]; simp [strValues]
      by_cases hi : i < pts.length
      · have e1 : (strValues li).toArray[i]? = some (.str (li[i]'(by (first | lia | omega))).1 (li[i]'(by (first | lia | omega))).2) := by
          simp [strValues, hz', hi]
        obtain ⟨p, hp, t, e2⟩ := hit.2 i _ e1
        rw [List.getElem?_map, List.getElem?_map, hp, List.getElem?_eq_getElem (by (first | lia | omega))]
        injection e2 with e3 _
        simp [e3]
      · rw [List.getElem?_eq_none (by rw [List.length_map]; (first | lia | omega)), List.getElem?_eq_none (by rw [List.length_map]; (first | lia | omega))]
    rw [hli]
    refine ⟨joinOk_of ?_, fun t' k => ?_⟩
    · have := partsLen_sum pts
      have h0 : (("" : Str)).length = 0 := by decide
      rw [h0]
      (first | lia | omega)
    · have K' := K.moved R hm hwr ho hla hnw hgz
      have K1 : Kept C s { s' with toks := k } := ⟨K'.keep, K'.tab, K'.size, K'.gens, K'.gold, K'.drawn, K'.os⟩
      refine kk _ _ ρ (R.kept K1) (K1.step.of_nil) (lr.go K1.step) (.ret (.str _ _ ?_))
      refine strOk_join (by decide +kernel) fun x hx => ?_
      (refine x1_2 (List.mem_map.mp hx) fun q hq rr2 => ?_; subst rr2)
      exact strOk_append (oks q hq).1 (oks q hq).2
  · exact ns hf'
end
end Mine.Internal
end
section
open PySem PySem.W PyProof.Rows PySem.Calls
namespace Mine.Internal
structure SpecOk (C : Cfg) (fl fs ff : Addr) : Prop where
  len : findIn C.K (.ref C.ACC) "__len__" = some (some (.ref fl))
  lenF : typeIn C.K (.ref fl) = some (.type "function")
  bool : findIn C.K (.ref C.ACC) "__bool__" = some none
  str : findIn C.K (.ref C.ACC) "__str__" = some (some (.ref fs))
  strF : typeIn C.K (.ref fs) = some (.type "function")
  fstr : findIn C.K (.ref C.VF) "__str__" = some (some (.ref ff))
  fstrF : typeIn C.K (.ref ff) = some (.type "function")
noncomputable abbrev FM := List AV → St → Option (AV × St)
noncomputable def lenA (LF : FM) (l : Nat) (σ : St) : Option (Int × St) := match LF [.loc l] σ with
  | some (.int n, σ') => if 0 ≤ n ∧ n < 1000000000 then some (n, σ') else none
  | _ => none
noncomputable def lenF (LF : FM) : FM := fun xs σ => match xs with
  | [.str x] => if x.length ≤ 1000000 then some (.int x.length, σ) else none
  | [.loc l] => match σ[l]? with
    | some (.acc ..) => (lenA LF l σ).map fun p => (.int p.1, p.2)
    | some (.list ys) => if ys.length ≤ 1000000 then some (.int ys.length, σ) else none
    | _ => none
  | [.lst ys] => if ys.length ≤ 1000000 then some (.int ys.length, σ) else none
  | _ => none
section
variable {C : Cfg} {ρ : Rho} {σ : St} {s : Shared} {A : Around} {E : Value → Shared → Prop} {env : Env} {vars : List Str} {lc : Lc} {p p' : Pos} {fl fs ff : Addr} {d : Nat}
set_option tactic.hygienic false in
theorem len_body (H : CfgOk C) (HS : SpecOk C fl fs ff) {LF : FM} (DL : DenCall C d (.ref fl) LF) {l : Nat} {ini : Int} {ps : List (Str × Str)} {n : Int} {σ' : St} {v : Value} (hA : AOk d A) (R : Rel C ρ σ s) (q : VR C ρ s.heap (.loc l) v) (hl : σ[l]? = some (.acc ini ps)) (h : lenA LF l σ = some (n, σ'))
    {Q : Value → Shared → Prop} (k : ∀ t s' ρ', Rel C ρ' σ' s' → Step C [] ρ ρ' s.heap s'.heap → Q (.int n t) s') : wpAny (model C.prog C.w) A (Builtin.«len» ⟨[v], []⟩) (fun fin s' => ∃ v, fin = .done (.ret v) ∧ Q v s') E s := by
  unfold lenA at h
  (refine si h ?_; clear h; intro n' σ'' e h)
  (refine sf h ?_; clear h; intro hb h)
  cases h
  have qq := q
  (refine x1_2 (R.obj hl) fun p e1 ob => ?_)
  (refine x1_2 (q.loc_inv) fun uu e0 rr2 => ?_; subst rr2)
  rw [e0] at e1; cases e1
  cases ob with | @acc a dd es n1 n2 vs _ _ ho hd he hs =>
  unfold Builtin.«len»
  refine wpAny_bind (m := oneArg "len" _) (wpAny_pure ?_)
  refine wpAny_bind (m := callSpecial? (.ref a) (Str.ofString "__len__")) ?_
  refine special_fn (R.kin H) (accInst ho hd) HS.len HS.lenF ?_
  refine DL _ _ _ _ e A _ E s ρ [.ref a] hA R (.cons qq .nil) fun v s' ρ' R' S' q' => ?_
  (refine x1_1 (q'.int_inv) fun t rr1 => ?_; subst rr1)
  refine wpAny_bind (wpAny_holding (wpAny_pure ?_))
  refine wpAny_bind (wpAny_letGo ?_)
  show wpAny _ _ (if n < 0 then _ else _) _ _ _
  rw [if_neg (by (first | lia | omega))]
  show wpAny _ _ (if n ≥ 2 ^ 63 then _ else _) _ _ _
  rw [if_neg (by (first | lia | omega))]
  exact wpAny_bind (wpAny_mkInt (wpAny_pure ⟨_, rfl, k _ _ _ R'.toks S'⟩))
theorem den_len (H : CfgOk C) (HS : SpecOk C fl fs ff) {LF : FM} (DL : DenCall C d (.ref fl) LF) : DenCall C (d + 1) (.builtin "len") (lenF LF) := by
  intro xs σ x σ' hf A Q E s ρ vs hA R q k
  unfold lenF at hf
  split at hf
  · rename_i y
    (refine sf hf ?_; clear hf; intro uu hf)
    (refine c2 hf fun hh0 hh1 => ?_; clear hf; subst hh0; subst hh1)
    cases q with | cons q1 q2 => cases q2; cases q1 with | str _ t ok =>
    exact PyProof.Rows.len_str (by (first | lia | omega)) (k _ _ ρ R.toks .refl (.int _ _))
  · rename_i l
    split at hf
    · rename_i ini ps hl
      obtain ⟨⟨n, σ₁⟩, e1, e2⟩ := Option.map_eq_some_iff.mp hf
      (refine p2 e2 fun hh0 hh1 => ?_; clear e2; subst hh0; subst hh1)
      refine q.cons_e fun uu uu q1 q2 => ?_
      cases q2
      refine Calls.call_function_entry kind_len plain_len entry_len (args_len1 _) ?_
      exact len_body H HS DL hA.in1 R q1 hl e1 fun t s' ρ' R' S' => k _ s' ρ' R' S' (.int _ _)
    · rename_i ys hl
      (refine sf hf ?_; clear hf; intro hz hf)
      (refine c2 hf fun hh0 hh1 => ?_; clear hf; subst hh0; subst hh1)
      refine q.cons_e fun uu uu q1 q2 => ?_
      cases q2
      obtain ⟨a, vs, n, rfl, ho, hs⟩ := asList_rel R q1 (xs := ys) (by unfold asList; dsimp only; rw [hl])
      refine call_len_list (IsL.isList ho) (by rw [List.size_toArray, hs.length]; (first | lia | omega)) ?_
      rw [List.size_toArray, hs.length]
      exact k _ _ ρ R.toks .refl (.int _ _)
    · exact ns hf
  · rename_i ys
    (refine sf hf ?_; clear hf; intro hz hf)
    (refine c2 hf fun hh0 hh1 => ?_; clear hf; subst hh0; subst hh1)
    refine q.cons_e fun uu uu q1 q2 => ?_
    cases q2
    obtain ⟨a, vs, n, rfl, ho, hs⟩ := asList_rel R q1 (xs := ys) (by unfold asList; rfl)
    refine call_len_list (IsL.isList ho) (by rw [List.size_toArray, hs.length]; (first | lia | omega)) ?_
    rw [List.size_toArray, hs.length]
    exact k _ _ ρ R.toks .refl (.int _ _)
  · exact ns hf
noncomputable def trA (LF : FM) (f : EM) : TM := fun lc σ => match f lc σ with
  | some (.loc l, σ₁) => match σ₁[l]? with
    | some (.acc ..) => (lenA LF l σ₁).map fun p => (p.1 != 0, p.2)
    | _ => none
  | _ => none
noncomputable def strF (SF FF : FM) : FM := fun xs σ => match xs with
  | [.str x] => some (.str x, σ)
  | [.loc l] => match σ[l]? with
    | some (.acc ..) => match SF [.loc l] σ with
      | some (.str x, σ') => some (.str x, σ')
      | _ => none
    | some (.fmt ..) => match FF [.loc l] σ with
      | some (.str x, σ') => some (.str x, σ')
      | _ => none
    | _ => none
  | _ => none
set_option tactic.hygienic false in
theorem meets_str_newIn {v : Value} {S : PySem.Spec} (hs : ∀ (A : Around) (R : Result → Shared → Prop) (s : Shared), S A R s →
      wpAny (model C.prog C.w) A.in1 (Builtin.Str.strOf v) (fun r s' => R (.ok (.ret r)) s') (fun e s' => R (.error e) s') s) : MeetsIn C.prog C.w (Builtin.«str.__new__» ⟨[.type "str", v], []⟩) S := by
  refine MeetsIn.of_wp fun A R s h => ?_
  rw [str_new_tree v]
  refine wpAny_bind (wpAny_pure ?_)
  refine wpAny_bind (wpAny_of_eq isSubtype_str_str ?_)
  exact wpAny_bind (wpAny_mono (hs A R s h) (fun r s' h' => wpAny_pure ⟨_, rfl, h'⟩) fun uu uu e => e)
set_option tactic.hygienic false in
theorem str_inst {a Cl f : Addr} {ox : Obj} {od : Option Obj} (X : C.K.In s.heap) (I : W.InstAt s.heap a ox Cl od) (hf : findIn C.K (.ref Cl) "__str__" = some (some (.ref f))) (ht : typeIn C.K (.ref f) = some (.type "function")) (hu : A.units + 2 < cLine) {Q : Value → Shared → Prop}
    (k : wpAny (model C.prog C.w) A.in1.in1 (call (.ref f) [.ref a]) (fun v s' => ∃ x t, v = .str x t ∧ Q v s') E s) : wpAny (model C.prog C.w) A (call (.type "str") [.ref a]) Q E s := by
  refine callType_newIn F.called_str (by decide) (F.typeCall_str_1 _) (F.newCall_str_1 _) (fun obj => F.args_object_init_2 obj _) F.entry_str_new
    (meets_str_newIn (S := fun A' R s' => wpAny (model C.prog C.w) A'.in1 (Builtin.Str.strOf (.ref a)) (fun r s' => R (.ok (.ret r)) s') (fun e s' => R (.error e) s') s') fun A R s h => h) ?_
  unfold Builtin.Str.strOf
  rw [if_neg (by simp [Builtin.Str.isExactStr])]
  refine wpAny_bind (wpAny_cRoomFor (by show A.units + 1 + 1 < cLine; (first | lia | omega)) ?_)
  refine wpAny_bind (special_fn X I hf ht (wpAny_mono k (fun v s' h' => ?_) fun uu uu z => z))
  (refine x2_2 (h') fun x t rr2 hq => ?_; clear h'; subst rr2)
  refine wpAny_bind (wpAny_pure ?_)
  exact wpAny_pure ⟨typeIs_str _ _ _, hq⟩
theorem den_str' (H : CfgOk C) (HS : SpecOk C fl fs ff) {SF FF : FM} (DS : DenCall C d (.ref fs) SF) (DF : DenCall C d (.ref ff) FF) : DenCall C (d + 2) (.type "str") (strF SF FF) := by
  intro xs σ x σ' hf A Q E s ρ vs hA R q k
  have hu : A.units + 2 < cLine := by have := hA.2.2; (first | lia | omega)
  unfold strF at hf
  split at hf
  · (refine c2 hf fun hh0 hh1 => ?_; clear hf; subst hh0; subst hh1)
    cases q with | cons q1 q2 => cases q2; cases q1 with | str _ t ok =>
    exact P.str_of_str (k _ _ ρ R .refl (.str _ _ ok))
  · rename_i l
    (refine x2_3 (q.cons_inv) fun uu uu rr2 q1 q2 => ?_; subst rr2)
    cases q2
    have qq := q1
    split at hf
    · rename_i ini ps hl
      (refine ss hf ?_; clear hf; intro y σ₁ e1 hf)
      (refine c2 hf fun hh0 hh1 => ?_; clear hf; subst hh0; subst hh1)
      (refine x1_2 (R.obj hl) fun p e4 ob => ?_)
      (refine x1_2 (q1.loc_inv) fun uu e0 rr2 => ?_; subst rr2)
      rw [e0] at e4; cases e4
      cases ob with | @acc a dd es n1 n2 vs _ _ ho hd he hs =>
      refine str_inst (R.kin H) (accInst ho hd) HS.str HS.strF hu ?_
      refine DS _ _ _ _ e1 _ _ E s ρ [.ref a] hA.in1.in1 R (.cons qq .nil) fun v s' ρ' R' S' q' => ?_
      (refine x1_2 (q'.str_inv) fun t rr1 ok => ?_; subst rr1)
      exact ⟨_, _, rfl, k _ s' ρ' R' S' (.str _ _ ok)⟩
    · rename_i hl
      (refine ss hf ?_; clear hf; intro y σ₁ e1 hf)
      (refine c2 hf fun hh0 hh1 => ?_; clear hf; subst hh0; subst hh1)
      (refine x1_2 (R.obj hl) fun p e4 ob => ?_)
      (refine x1_2 (q1.loc_inv) fun uu e0 rr2 => ?_; subst rr2)
      rw [e0] at e4; cases e4
      cases ob with | fmt ho hd he =>
      refine str_inst (R.kin H) (fmtInst ho hd) HS.fstr HS.fstrF hu ?_
      refine DF _ _ _ _ e1 _ _ E s ρ [.ref _] hA.in1.in1 R (.cons qq .nil) fun v s' ρ' R' S' q' => ?_
      (refine x1_2 (q'.str_inv) fun t rr1 ok => ?_; subst rr1)
      exact ⟨_, _, rfl, k _ s' ρ' R' S' (.str _ _ ok)⟩
    · exact ns hf
  · exact ns hf
end
end Mine.Internal
end
section
open PySem PySem.W PyProof.Rows PySem.Calls Builtin Builtin.ObjectAttr Builtin.Getset_descriptor
namespace Mine.Internal
set_option tactic.hygienic false in
theorem pass_list (self : Value) : refuseLoop self "__setattr__" [.type "list", .type "object"] = pure () := by
  unfold refuseLoop
  kernel_rfl
structure StoreOk (C : Cfg) (Cl : Addr) : Prop where
  sa : findIn C.K (.ref Cl) "__setattr__" = some (some (.builtin "object.__setattr__"))
  mro : ∃ cd, clsIn C.K Cl = some cd ∧ cd.hasDict = true ∧ (cd.mro = [.ref Cl, .type "list", .type "object"] ∨ cd.mro = [.ref Cl, .type "object"])
section
variable {C : Cfg} {ρ : Rho} {σ : St} {s : Shared} {A : Around} {E : Value → Shared → Prop} {x Cl dx : Addr} {ox : Obj} {R : Result → Shared → Prop}
theorem osa_any {es : List DictEntry} {n : Nat} {name : Str} {tk : Tok} {v : Value} (H : StoreOk C Cl) (X : C.K.In s.heap) (I : W.InstAt s.heap x ox Cl (some (dictOf es n))) (hd : ox.dict = some dx) (hD : s.heap.get? dx = some (dictOf es n)) (ht : takerIn C.K Cl name = some none)
    (hl : (getL name es).isSome = true) (hz : (W.putL name (PyData.keyHash C.w.params name) (.str name s.toks) v es).length ≤ 1000)
    (k : ∀ h', Heap.SameBut dx s.heap h' → h'.get? dx = some (dictOf (W.putL name (PyData.keyHash C.w.params name) (.str name s.toks) v es) (putN name es n)) → R (.ok (.ret .none)) { s with heap := h', toks := s.toks + 1 }) :
    codeAny (model C.prog C.w) A (.call (.builtin "object.__setattr__") ⟨[.ref x, .str name tk, v], []⟩) R s := by
  have SF := PySem.F.store_object
  (refine x1_3 (H.mro) fun cd hc hhd hmro => ?_)
  have sub : Looks (model C.prog C.w) s.heap (isInstance (.ref x) (.type "object")) true := I.type.andThen (looks_mroIn X (by unfold mroIn; rw [hc, Option.bind_some]; rcases hmro with e | e <;> rw [e] <;> rfl))
  refine codeAny_call_builtin SF.slot.plain SF.entry (@check_slot (model C.prog C.w) _ _ s "object.__setattr__" "object" "__setattr__" (.ref x) [.str name tk, v] [] _ SF.kind SF.split sub (SF.args (.ref x) (.str name tk) v) ?_)
  (refine x1_2 (Option.bind_eq_some_iff.mp ht) fun attr ha hr => ?_)
  have hm : Looks (model C.prog C.w) s.heap (mroOf (.ref Cl)) cd.mro := (looks_clsIn X hc).andThen .now
  have L3 : Looks (model C.prog C.w) s.heap (storeTaker? attr) none := by
    cases attr with
    | none => exact .now
    | some a =>
      (refine x1_2 (Option.map_eq_some_iff.mp hr) fun b hb hr' => ?_)
      refine (looks_takesIn X hb).andThen ?_
      cases b
      · exact .now
      · cases hr'
  rw [osa_eq, refuse_eq]
  refine wpAny_bind (wpAny_bind (I.type.here (wpAny_bind (hm.here ?_))))
  have pass : refuseLoop (.ref x) "__setattr__" cd.mro = pure () := by
    rcases hmro with e | e
    · rw [e, refuseLoop_ref]; exact pass_list _
    · rw [e, refuseLoop_ref]; exact SF.passes _
  rw [pass]
  refine wpAny_pure (wpAny_bind (I.type.here (wpAny_bind ((looks_findIn X ha).here (wpAny_bind (L3.here ?_))))))
  have hsb := Heap.SameBut.update s.heap dx (Obj.putName name (PyData.keyHash C.w.params name) (.str name s.toks) v)
  have D' : (s.heap.update dx (Obj.putName name (PyData.keyHash C.w.params name) (.str name s.toks) v)).get? dx = some (dictOf (W.putL name (PyData.keyHash C.w.params name) (.str name s.toks) v es) (putN name es n)) := by
    rw [Heap.get?_update_self _ hD (by rw [putName_dict]; rfl), putName_dict]
  obtain ⟨hx, hcl, hn, -⟩ := I
  obtain ⟨oc, odi, oda, osl⟩ := ox
  dsimp only at hcl hd
  subst hcl hd
  refine wpAny_bind (wpAny_pure (wpAny_bind (wpAny_bind (wpAny_loadPart hx (wpAny_bind ((looks_clsIn X hc).here ?_))))))
  rw [hhd]
  refine wpAny_pure (a := some dx) (wpAny_bind (wpAny_pure (wpAny_bind ?_)))
  unfold nsSet
  refine wpAny_bind (wpAny_bind (wpAny_askSetting (wpAny_pure (wpAny_bind (wpAny_mkText (wpAny_bind (wpAny_loadPart hD ?_)))))))
  dsimp only [dictOf]
  have c : (!es.toArray.any (·.key.isStr name) && es.toArray.any (·.refKey)) = false := by
    unfold getL at hl
    rw [← Array.any_toList, ← Array.any_toList]
    split at hl
    · rename_i en he
      rw [List.any_eq_true.mpr ⟨en, List.mem_of_find?_eq_some he, List.find?_some he⟩]; rfl
    · split at hl
      · cases hl
      · rename_i z; rw [Bool.not_eq_true] at z; rw [z, Bool.and_false]
  rw [aRefKeyMayBeTheName_at, c]
  refine wpAny_updatePart hD ?_
  refine wpAny_bind (wpAny_lookBehind D' (pastItsLine_dict (by rw [List.size_toArray, sizeLine_eq]; (first | lia | omega))) ?_)
  exact wpAny_pure (k _ hsb D')
set_option tactic.hygienic false in
theorem set_any {es : List DictEntry} {n : Nat} {name : Str} {v : Value} {Q : Unit → Shared → Prop} (H : StoreOk C Cl) (X : C.K.In s.heap) (I : W.InstAt s.heap x ox Cl (some (dictOf es n))) (hd : ox.dict = some dx) (hD : s.heap.get? dx = some (dictOf es n)) (ht : takerIn C.K Cl name = some none)
    (hl : (getL name es).isSome = true) (hz : (W.putL name (PyData.keyHash C.w.params name) (.str name (s.toks + 1)) v es).length ≤ 1000)
    (k : ∀ h', Heap.SameBut dx s.heap h' → h'.get? dx = some (dictOf (W.putL name (PyData.keyHash C.w.params name) (.str name (s.toks + 1)) v es) (putN name es n)) → Q () { s with heap := h', toks := s.toks + 2 }) :
    wpAny (model C.prog C.w) A (setAttr (.ref x) name v) Q E s :=
  set_plain X I H.sa (osa_any (s := { s with toks := s.toks + 1 }) H X I hd hD ht hl hz fun h' a b => k h' a b)
end
noncomputable def iniS (g f : EM) : SM := fun lc σ => match f lc σ with
  | some (.int i, σ₁) => match g lc σ₁ with
    | some (.loc l, σ₂) => match σ₂[l]? with
      | some (.acc _ ps) => some (.next, lc, σ₂.set l (.acc i ps))
      | _ => none
    | _ => none
  | _ => none
section
variable {C : Cfg} {ρ : Rho} {σ : St} {s : Shared} {A : Around} {E : Value → Shared → Prop} {env : Env} {vars : List Str} {lc : Lc} {p p' : Pos} {d : Nat}
set_option tactic.hygienic false in
theorem ini_put {h : Heap} {ini i : Int} {es : List DictEntry} {v t : Value} {tk : Tok} {hsh : Int} (he : EntR C ρ h (accAttrs ini) es) (q : VR C ρ h (.int i) v) : (getL "_initial_size" es).isSome = true ∧ EntR C ρ h (accAttrs i) (W.putL "_initial_size" hsh t v es) ∧ (W.putL "_initial_size" hsh t v es).length ≤ 1000 := by
  unfold accAttrs at he ⊢
  cases he with | @cons k x tt w r es' a b =>
  cases b
  have e : (Value.str ("_initial_size" : Str) tt).isStr "_initial_size" = true := by simp [Value.isStr]
  refine ⟨?_, ?_, ?_⟩
  · unfold getL
    rw [List.find?_cons_of_pos (by exact e)]
    rfl
  · unfold W.putL
    dsimp only
    rw [if_pos e]
    exact .cons q .nil
  · unfold W.putL
    dsimp only
    rw [if_pos e]
    simp
theorem den_ini (H : CfgOk C) (HS : StoreOk C C.ACC) (ht : takerIn C.K C.ACC "_initial_size" = some none) {o e : Expr} {g f : EM} (D0 : DenE C d env vars o g) (D : DenE C d env vars e f) (hs : swapsWith e (some (.Attribute o "_initial_size" p')) p.line env = pure false) :
    DenS C d env vars (.Assign [.Attribute o "_initial_size" p'] e p) (iniS g f) := by
  intro lc σ fl lc' σ' hf A Q E s ρ hA R lr kk
  unfold iniS at hf
  (refine si hf ?_; clear hf; intro i σ₁ e1 hf)
  (refine sl hf ?_; clear hf; intro l σ₂ e2 hf)
  (refine sa hf ?_; clear hf; intro ini ps hl hf)
  (refine c3 hf fun hh0 hh1 hh2 => ?_; clear hf; subst hh0; subst hh1; subst hh2)
  refine plainObj_wpAny_Assign_Attribute (D _ _ _ _ e1 A _ E s ρ hA R lr fun v s₁ ρ₁ R₁ S₁ q₁ => D0 _ _ _ _ e2 A _ E s₁ ρ₁ hA R₁ (lr.go S₁) fun ov s₂ ρ₂ R₂ S₂ q₂ => ?_) hs
  (refine x1_2 (R₂.obj hl) fun p e4 ob => ?_)
  refine q₂.loc_e fun uu e0 => ?_
  rw [e0] at e4; cases e4
  cases ob with | @acc a dd es n1 n2 vs _ _ ho hd he hs =>
  have P := ini_put (t := .str "_initial_size" (s₂.toks + 1)) (tk := 0) (hsh := PyData.keyHash C.w.params "_initial_size") he (q₁.go S₂)
  refine set_any HS (R₂.kin H) (accInst ho hd) rfl hd ht P.1 P.2.2 fun h' hsb hd' => ?_
  have S : Step C [] ρ₂ ρ₂ s₂.heap h' := stepMut (.inr ⟨_, List.mem_of_getElem? e0, .inr rfl⟩) hsb
  have hne : a ≠ dd := (accNe ho hd).symm
  (refine x0_2 (R₂.upd (n := s₂.toks + 2) e0 (.inr rfl) hsb (.acc ((hsb.2 _ hne).trans ho) hd' (P.2.1.go S) (hs.go S)) rfl) fun R' S' => ?_)
  exact kk _ _ ρ₂ R' ((S₁.trans S₂).trans S').of_nil (lr.go ((S₁.trans S₂).trans S')) .next
end
end Mine.Internal
end
section
open PySem PySem.W PyProof.Rows PySem.Calls
namespace Mine.Internal
structure AccMake (C : Cfg) (fI : Addr) : Prop where
  obj : ∃ oc od cd sl, C.K.lookup C.ACC = some ⟨oc, od, .cls cd, sl⟩ ∧ cd.hasDel = false ∧ (sl.toList[4]?).join = some (.builtin "list.__new__") ∧ cd.mro = [.ref C.ACC, .type "list", .type "object"]
  call : specialIn C.K (.ref C.ACC) "__call__" = some (some (.builtin "type.__call__"))
  typ : instIn C.K (.ref C.ACC) (.type "type") = some true
  init : findIn C.K (.ref C.ACC) "__init__" = some (some (.ref fI))
  initF : typeIn C.K (.ref fI) = some (.type "function")
set_option tactic.hygienic false in
theorem ln_args (a v : Value) : argsOk "list.__new__" ⟨[a, v], []⟩ := by unfold argsOk; kernel_rfl
set_option tactic.hygienic false in
theorem ln_kind : builtinKind "list.__new__" = some .builtinFn := by decide +kernel
set_option tactic.hygienic false in
theorem ln_split : splitId "list.__new__" = some ("list", "__new__") := by decide +kernel
noncomputable abbrev accObj0 (C : Cfg) (dx : Addr) : Obj := ⟨.ref C.ACC, some dx, .seq #[] 0, #[]⟩
section
variable {C : Cfg} {A : Around} {R : Result → Shared → Prop} {h : Heap} {g : Array GenState} {d : Drawn} {t : Nat} {os : OsState} {fI : Addr}
set_option tactic.hygienic false in
theorem acc_looks (H : AccMake C fI) (X : C.K.In h) : ∃ cd, clsIn C.K C.ACC = some cd ∧ cd.hasDel = false ∧ Looks (model C.prog C.w) h (mroOf (.ref C.ACC)) [.ref C.ACC, .type "list", .type "object"] ∧ Looks (model C.prog C.w) h (Bind.madeBy (.ref C.ACC)) (some "list.__new__") ∧ Looks (model C.prog C.w) h (Bind.staticBase (.ref C.ACC)) (.ref C.ACC) ∧
    Looks (model C.prog C.w) h (isSubtype (.ref C.ACC) (.ref C.ACC)) true ∧ Looks (model C.prog C.w) h (isSubtype (.ref C.ACC) (.type "list")) true := by
  (refine x4_4 (H.obj) fun oc od cd sl ho e2 e3 hl => ?_)
  have hc : clsIn C.K C.ACC = some cd := by unfold clsIn; rw [ho]
  have hm : Looks (model C.prog C.w) h (mroOf (.ref C.ACC)) cd.mro := (looks_clsIn X hc).andThen .now
  rw [hl] at hm
  have made : Looks (model C.prog C.w) h (Bind.madeBy (.ref C.ACC)) (some "list.__new__") := by
    intro A Q E s k q
    unfold Bind.madeBy
    refine wpAny_bind (hm A _ E s k ?_)
    rw [List.forIn_cons]
    refine wpAny_bind (wpAny_bind (wpAny_bind (wpAny_bind (wpAny_loadPart (k _ _ (X _ _ ho)) (wpAny_pure ?_)))))
    dsimp only
    rw [← Array.getElem?_toList, e3]
    exact wpAny_pure (wpAny_pure (wpAny_pure q))
  refine ⟨cd, hc, e2, hm, made, ?_, looks_mroIn X ?_, looks_mroIn X ?_⟩
  · intro A Q E s k q
    unfold Bind.staticBase
    refine wpAny_bind (hm A _ E s k ?_)
    rw [List.forIn_cons]
    exact wpAny_bind (wpAny_bind (wpAny_bind (made A _ E s k (wpAny_pure (wpAny_pure (wpAny_pure q))))))
  · unfold mroIn; rw [hc, Option.bind_some, hl]; simp
  · unfold mroIn; rw [hc, Option.bind_some, hl]; simp
theorem acc_new (H : AccMake C fI) (X : C.K.In h) {v : Value} (hq : R (.ok (.ret (.ref (h.objs.size + 1)))) ⟨(h.push emptyDict).push (accObj0 C h.objs.size), g, d, t, os⟩) :
    codeAny (model C.prog C.w) A (.call (.builtin "list.__new__") ⟨[.ref C.ACC, v], []⟩) R ⟨h, g, d, t, os⟩ := by
  (refine x1_7 (acc_looks H X) fun cd hc hdel hm made base self top => ?_)
  obtain ⟨oD, hD1, hD2⟩ : ∃ oD, h.get? C.ACC = some oD ∧ oD.data = .cls cd := by
    have hD := hc
    unfold clsIn at hD
    split at hD
    · rename_i ho; cases hD; exact ⟨_, X _ _ ho, rfl⟩
    · exact ns hD
  refine codeAny_of_tree ?_
  show wpAny _ A.in1 (do checkBuiltinCall "list.__new__" ⟨[.ref C.ACC, v], []⟩; again (.builtin "list.__new__" ⟨[.ref C.ACC, v], []⟩)) _ _ _
  refine wpAny_bind ?_
  have ha := ln_args (.ref C.ACC) v
  simp only [checkBuiltinCall, ln_kind, ln_split]
  rw [if_pos (by decide)]
  refine wpAny_bind (ks_wpAny_isType_cls hD1 hD2 ?_)
  rw [if_neg (by decide)]
  refine wpAny_bind (top.at ?_)
  rw [if_neg (by decide)]
  refine wpAny_bind (base.at (wpAny_bind (made.at ?_)))
  dsimp only
  rw [if_neg (by decide +kernel)]
  have goOn : wpAny (model C.prog C.w) A.in1 (again (.builtin "list.__new__" ⟨[.ref C.ACC, v], []⟩)) (fun fin s' => match fin with | .done f => R (.ok f) s' | .again c' => c'.quiet = true ∧ codeAny (model C.prog C.w) A c' R s') (fun e s' => R (.error e) s') ⟨h, g, d, t, os⟩ := by
    refine wpAny_pure ⟨plainId_quiet F.plain_list_new _, codeAny_builtin_stack F.entry_list_new rfl fun p st => ?_⟩
    rw [Around.under_plainId F.plain_list_new _]
    dsimp only
    rw [owner_list_new]
    refine wpAny_bind (ks_wpAny_isType_cls hD1 hD2 ?_)
    rw [if_neg (by decide)]
    refine wpAny_bind (top.at ?_)
    rw [if_neg (by decide)]
    refine wpAny_bind (wpAny_pure ?_)
    rw [if_neg (show ¬ (!typeHasDict (Value.ref C.ACC)) = true from Bool.false_ne_true)]
    refine wpAny_bind (wpAny_newObj_type ?_ (by size_fits))
    dsimp only
    refine wpAny_bind ?_
    show wpAny _ _ (newObjAsIs _ _ _) _ _ _
    unfold newObjAsIs classHasDel
    refine wpAny_bind (wpAny_alloc (wpAny_bind (wpAny_bind (wpAny_load (Heap.get?_push_of_some _ (Heap.get?_push_of_some _ hD1)) ?_))))
    rw [hD2]
    refine wpAny_pure ?_
    rw [hdel]
    refine wpAny_pure (wpAny_pure ?_)
    show R _ _
    rw [Heap.size_push]
    exact hq
  cases hsig : Manifest.signature? "list.__new__" with
  | none => exact wpAny_pure goOn
  | some sig =>
    simp only [argsOk, hsig] at ha
    have h2 : Bind.checkArgs "list.__new__" sig ⟨[.ref C.ACC, v], []⟩ = pure () := ha
    show wpAny _ _ (Bind.checkArgs "list.__new__" sig ⟨[.ref C.ACC, v], []⟩) _ _ _
    rw [h2]; exact wpAny_pure goOn
set_option tactic.hygienic false in
theorem acc_make (H : AccMake C fI) (X : C.K.In h) {v : Value}
    (hq : codeAny (model C.prog C.w) (A.under (.builtin "type.__call__" ⟨[.ref C.ACC, v], []⟩)) (.call (.ref fI) ⟨[.ref (h.objs.size + 1), v], []⟩) (InitBack (h.objs.size + 1) R) ⟨(h.push emptyDict).push (accObj0 C h.objs.size), g, d, t, os⟩) :
    codeAny (model C.prog C.w) A (.call (.ref C.ACC) ⟨[v], []⟩) R ⟨h, g, d, t, os⟩ := by
  (refine x1_7 (acc_looks H X) fun cd hc hdel hm made base self top => ?_)
  obtain ⟨oc, od, cd', sl, hK, -, -, -⟩ := H.obj
  have hC := X _ _ hK
  have call := looks_specialIn (M := model C.prog C.w) X H.call
  have typ := looks_instIn (M := model C.prog C.w) X H.typ
  refine codeAny_of_tree ?_
  show wpAny _ _ (callAny (.ref C.ACC) _) _ _ _
  refine nd_load hC ?_
  show wpAny _ _ (callAny.viaDunder (.ref C.ACC) _) _ _ _
  unfold callAny.viaDunder
  refine wpAny_bind (call.at ?_)
  dsimp only
  rw [tc_bind]
  refine wpAny_bind (wpAny_pure (wpAny_bind (wpAny_pure ?_)))
  refine wpAny_pure (a := Fin.again (.call (.builtin "type.__call__") ⟨[.ref C.ACC, v], []⟩)) (And.intro rfl ?_)
  refine codeAny_call_builtin_at (Code.quiet_builtin _ (by decide +kernel)) entry_typeCall (check_slot tc_kind tc_split typ (tc_args _ _ _) ?_)
  unfold Builtin.«type.__call__»
  repeat (first | simp only [List.isEmpty_cons, Bool.false_eq_true, if_false] | with_reducible refine wpAny_call ?_ | lk)
  refine acc_new H X ?_
  have k : ∀ b o, h.get? b = some o → ((h.push emptyDict).push (accObj0 C h.objs.size)).get? b = some o := fun b o e => Heap.get?_push_of_some _ (Heap.get?_push_of_some _ e)
  have hx : ((h.push emptyDict).push (accObj0 C h.objs.size)).get? (h.objs.size + 1) = some (accObj0 C h.objs.size) := by heap_get
  have t1 : Looks (model C.prog C.w) ((h.push emptyDict).push (accObj0 C h.objs.size)) (typeOf (.ref (h.objs.size + 1))) (.ref C.ACC) := (Looks.ld hx).andThen .now
  have s1 := self.keeps k
  have i1 := (looks_findIn (M := model C.prog C.w) X H.init).keeps k
  have b1 := (bind_fn (M := model C.prog C.w) X (.ref (h.objs.size + 1)) H.initF).keeps k
  unfold isInstance callSpecial? specialOf
  repeat (first | with_reducible refine wpAny_call ?_ | lk)
  refine codeAny_mono hq fun r s' z => ?_
  rcases r with e | (v | _ | _ | _) <;> first | exact z | exact z.elim | skip
  obtain ⟨rfl, z⟩ := z
  exact wpAny_pure (wpAny_pure z)
end
end Mine.Internal
end
section
open PySem PySem.W PyProof.Rows PySem.Calls
namespace Mine.Internal
section
variable {C : Cfg} {ρ : Rho} {σ : St} {s : Shared} {A : Around} {E : Value → Shared → Prop} {env : Env} {vars : List Str} {lc : Lc} {body : List Stmt} {p p' : Pos} {d : Nat}
set_option tactic.hygienic false in
theorem init_any {a : Addr} {c : Value} {dd : Option Addr} {items : Array Value} {n : Nat} {sl : Array (Option Value)} {Q : Fin → Shared → Prop} (ho : s.heap.get? a = some ⟨c, dd, .seq items n, sl⟩) (hz : items.size ≤ sizeLine)
    (k : Q (.done (.ret .none)) { s with heap := s.heap.update a (Obj.mapSeq fun uu => #[]) }) : wpAny (model C.prog C.w) A (Builtin.«list.__init__» ⟨[.ref a], []⟩) Q E s := by
  obtain ⟨hp, g, dr, tk, os⟩ := s
  have hz' : ((fun _ : Array Value => (#[] : Array Value)) items).size ≤ sizeLine + 1 := Nat.zero_le _
  wp_walk using (wpAny_updateSeq ho rfl (hz := hz) (_hz' := hz')), wpAny_loadPart' ho
  exact k
noncomputable def superInitS : SM := fun lc σ => match (lc[0]? : Option (Option AV)) with
  | some (some (AV.loc l)) => match σ[l]? with
    | some (.acc ini ps) => if ps.length ≤ sizeLine then some (.next, lc, σ.set l (.acc ini [])) else none
    | _ => none
  | _ => none
theorem den_superInit {d : Nat} (H : CfgOk C) (HC : ClsOk C) (He : EnvOk env vars) (HS : SupCls C) (SO : SupOk C env vars) {p0 p1 apos p pr : Pos} (hf : alongIn C.K "__init__" [.type "list", .type "object"] = some (some (.builtin "list.__init__"))) (hp : (apos.endLine == p.line) = true) (hi : interactive env = false)
    (hs : swapsWith (.Call (.Attribute (.Call (.Name "super" p0) [] [] p1) "__init__" apos) [] [] p) none pr.line env = pure false) :
    DenSAt C d env vars body (.Expr (.Call (.Attribute (.Call (.Name "super" p0) [] [] p1) "__init__" apos) [] [] p) pr) superInitS := by
  intro lc σ fl lc' σ' hf' A Q E s ρ hA R lr kk
  unfold superInitS at hf'
  split at hf'
  · rename_i l hself
    (refine sa hf' ?_; clear hf'; intro ini ps hl hf')
    (refine sf hf' ?_; clear hf'; intro hz hf')
    (refine c3 hf' fun hh0 hh1 hh2 => ?_; clear hf'; subst hh0; subst hh1; subst hh2)
    refine ks_wpAt_Expr_any (super_call H HC He HS SO sup_init (by decide) hf hp (by decide +kernel) F.entry_list_init R lr hself hl (fun uu uu uu q => by rw [sig_init]; exact wpAny_pure q) fun a dd s' e0 R' S' => ?_) hi hs
    (refine x1_2 (R'.obj hl) fun p' q1 ob => ?_)
    rw [e0] at q1; cases q1
    cases ob with | @acc _ _ es n n' vs _ _ ho hd he hs =>
    have hz' : vs.toArray.size ≤ sizeLine := by rw [List.size_toArray, hs.length, List.length_map]; exact hz
    refine init_any ho hz' ⟨_, rfl, ?_⟩
    have hsb := Heap.SameBut.update s'.heap a (Obj.mapSeq fun uu => #[])
    have S : Step C [] ρ ρ s'.heap (s'.heap.update a (Obj.mapSeq fun uu => #[])) := stepMut (.inr ⟨_, List.mem_of_getElem? e0, .inl rfl⟩) hsb
    have gt := mapSeq_at ho (fun uu => #[])
    have hne : dd ≠ a := accNe ho hd
    (refine x0_2 (R'.upd (n := s'.toks) e0 (.inl rfl) hsb (.acc (vs := []) (parts := []) gt ((hsb.2 _ hne).trans hd) (he.go S) .nil) rfl) fun R'' S'' => ?_)
    exact kk _ _ _ R'' (S'.trans S'').of_nil (lr.go (S'.trans S'')) .next
  · exact ns hf'
set_option tactic.hygienic false in
theorem enterD {f : Addr} {m : Nat} {dxs : List AV} {dv : List Value} {scope : Scope} {closure : List (Str × Addr)} {qual : Str} {code : Value} {P : Result → Shared → Prop} (H : FnD C f vars m dxs dv body scope closure qual code) (HK : CfgOk C) (old : OldAt C s)
    (hroom : A.depth < recursionLimit) {vs : List Value} (hm : vs.length = m)
    (k : ∀ h₁ tk (E' : Value → Shared → Prop), h₁.Ns s.heap.objs.size (fun x => ((vars.take (m + dxs.length)).zip (vs ++ dv)).reverse.lookup x) → (∀ b o, s.heap.get? b = some o → h₁.get? b = some o) → h₁.objs.size = s.heap.objs.size + 1 →
      PySem.wpAt (model C.prog C.w) (A.deeper (fnEnv scope closure qual f code s.heap.objs.size)) (.func body (fnEnv scope closure qual f code s.heap.objs.size)) (execs body (fnEnv scope closure qual f code s.heap.objs.size))
        (fun w s' => P (.ok (.ret (match w with | .ret v => v | _ => .none))) s') E' { s with heap := h₁, toks := tk }) :
    codeAny (model C.prog C.w) A (.call (.ref f) ⟨vs, []⟩) P s := by
  (refine x2_10 (H.obj) fun o fd ho hd rr4 hb hg rr7 rr8 rr9 hbi hbind => ?_; subst rr4; subst rr7; subst rr8; subst rr9)
  have ho' := old f o ho H.notTab
  have hcode : s.heap.CodeRec fd.code fd.qualname := by
    (refine x4_4 (H.crec) fun c o' vs' t e1 e2 e3 e4 => ?_)
    exact ⟨c, o', vs', t, e1, old c o' e2 (H.codeNo c e1), e3, e4⟩
  refine codeAny_call_function hroom ho' hd H.coro H.gen hb hcode ?_
  refine hbind s old vs hm _ _ _ _ ?_
  have hbl : ∀ y ∈ (vars.take (m + dxs.length)).zip (vs ++ dv), fd.scope.names.lookup y.1 = some .local := fun y hy => H.loc y.1 (List.mem_of_mem_take (List.of_mem_zip hy).1)
  refine wpAny_newFunctionEnv H.cells hbl (fun h₁ hns hsb => ?_) H.kind
  have z₁ : h₁.objs.size = s.heap.objs.size + 1 := by rw [hsb.1, Heap.size_push]
  have k₁ : ∀ b o, s.heap.get? b = some o → h₁.get? b = some o := fun b o e => (hsb.2 b (Nat.ne_of_lt (Heap.lt_size e))).trans (Heap.get?_push_of_some _ e)
  refine ⟨?_, ?_⟩
  · (refine x1_2 (HK.lim) fun mc a b => ?_)
    exact ⟨mc, a.at fun o e => k₁ _ _ (old _ _ e HK.stat), b⟩
  rw [hg, hbi]
  refine ks_codeAny_funcAt ?_
  exact k h₁ _ _ hns k₁ z₁
end
end Mine.Internal
end
section
open PySem PySem.W PyProof.Rows PySem.Calls
namespace Mine.Internal
section
variable {C : Cfg} {ρ ρ' : Rho} {σ σ' : St} {s : Shared} {L : Addr} {h' : Heap}
set_option tactic.hygienic false in
theorem dict_noSeq {h : Heap} {es : List DictEntry} {n : Nat} (hD : h.get? L = some (dictOf es n)) : ∀ a o vs k, a ∈ [L] → h.get? a = some o → o.data ≠ .seq vs k := by
  intro a o vs k ha e
  cases List.mem_singleton.mp ha
  rw [e] at hD
  (refine c1 hD fun hh0 => ?_; clear hD; subst hh0)
  intro z
  cases z
set_option tactic.hygienic false in
theorem Rel.writeD (R : Rel C ρ σ s) {es : List DictEntry} {k : Nat} (hD : s.heap.get? L = some (dictOf es k)) (hm : ¬ Mut C ρ L) (hl : C.s₁.heap.objs.size ≤ L) (hs : Heap.SameBut L s.heap h') {n : Nat} : Rel C ρ σ { s with heap := h', toks := n } := by
  have S : Step C [L] ρ ρ s.heap h' := stepWrite hs
  have W := dict_noSeq hD
  have own : ∀ {p : Addr × Addr} {l : Nat}, ρ[l]? = some p → p.1 ≠ L ∧ p.2 ≠ L := fun {p l} e => ⟨fun z => hm (.inr ⟨p, List.mem_of_getElem? e, .inl z⟩), fun z => hm (.inr ⟨p, List.mem_of_getElem? e, .inr z⟩)⟩
  refine ⟨fun b o e nt => ?_, fun t ht => ?_, R.lo, R.dis, R.len, fun l p o e e' => ?_, R.gens.heap (fun uu uu uu e uu uu o ho => (hs.2 _ (own e).1).trans ho), R.drawn, R.os, by show _ ≤ h'.objs.size; rw [hs.1]; exact R.size⟩
  · exact (hs.2 b (Nat.ne_of_lt (Nat.lt_of_lt_of_le (Heap.lt_size e) hl))).trans (R.old b o e nt)
  · (refine x1_2 (R.tab t ht) fun more a b => ?_)
    have hP : t.2.1 ≠ L := fun z => hm (.inl (List.mem_map.mpr ⟨t, ht, z⟩))
    have hc : t.1 ≠ L := by
      obtain ⟨⟨o, vs, ho, _, hd, _⟩, _⟩ := b
      intro z
      rw [z, hD] at ho
      (refine c1 ho fun hh0 => ?_; clear ho; subst hh0)
      cases hd
    exact ⟨more, a.sameBut hs hc hP, b.sameBut hs hc hP⟩
  · have q := R.st l p o e e'
    have := own e
    cases q with
    | list ho hs' => exact .list ((hs.2 _ this.1).trans ho) (hs'.step S W)
    | fmt ho hd he => exact .fmt ((hs.2 _ this.1).trans ho) ((hs.2 _ this.2).trans hd) (he.step S W)
    | acc ho hd he hs' => exact .acc ((hs.2 _ this.1).trans ho) ((hs.2 _ this.2).trans hd) (he.step S W) (hs'.step S W)
    | ghost ho => exact .ghost ((hs.2 _ this.1).trans ho)
    | out ho => exact .out ((hs.2 _ this.1).trans ho)
    | gen ho hL => exact .gen ((hs.2 _ this.1).trans ho) (hL.keep fun o e => (hs.2 _ this.2).trans e)
set_option tactic.hygienic false in
theorem EntR.snoc {h : Heap} {k : Str} {x : AV} {t : Tok} {v : Value} : ∀ {r : List (Str × AV)} {es : List DictEntry}, EntR C ρ h r es → VR C ρ h x v → EntR C ρ h (r ++ [(k, x)]) (es ++ [⟨PyData.keyHash C.w.params k, .str k t, v⟩]) := by
  intro r es q a
  induction q with
  | nil => exact .cons a .nil
  | cons b _ ih => exact .cons b ih
set_option tactic.hygienic false in
theorem EntR.length {h : Heap} : ∀ {r : List (Str × AV)} {es : List DictEntry}, EntR C ρ h r es → es.length = r.length := fun q => q.rec (motive := fun r es uu => es.length = r.length) rfl fun uu uu ih => congrArg (· + 1) ih
theorem putL_new {name : Str} {hsh : Int} {key v : Value} : ∀ {es : List DictEntry}, getL name es = some none → W.putL name hsh key v es = es ++ [⟨hsh, key, v⟩]
  | [], _ => rfl
  | e :: es, h => by
    unfold getL at h
    rw [List.find?_cons] at h
    split at h
    · rename_i q; split at q
      · cases h
      · rename_i hne
        cases h
    · rename_i q
      split at q
      · cases q
      · rename_i hne
        unfold W.putL
        rw [if_neg (by rw [hne]; exact Bool.false_ne_true)]
        have : getL name es = some none := by
          unfold getL
          rw [q]
          dsimp only
          split at h
          · exact ns h
          · rename_i z
            rw [List.any_cons] at z
            rw [if_neg]
            intro y
            exact z (by rw [y, Bool.or_true])
        rw [putL_new this]
        rfl
structure Pend (C : Cfg) (ρ : Rho) (σ : St) (s : Shared) (L : Addr) (vars : List Str) (lc : Lc) (x dx Cl : Addr) (ox : Obj) (attrs : List (Str × AV)) : Prop where
  rel : Rel C ρ σ s
  lc : LcR C ρ s.heap L vars lc
  self : ∃ m, s.heap.Ns L m ∧ m "self" = some (.ref x)
  ho : s.heap.get? x = some ox
  hd : ∃ es n, s.heap.get? dx = some (dictOf es n) ∧ EntR C ρ s.heap attrs es
  nx : ¬ Mut C ρ x
  nd : ¬ Mut C ρ dx
  lx : C.s₁.heap.objs.size ≤ x
  ld : C.s₁.heap.objs.size ≤ dx
  cls : ox.cls = .ref Cl
  no : notCls ox = true
  dict : ox.dict = some dx
  ne : x ≠ dx
  nL : L ≠ dx
set_option tactic.hygienic false in
theorem Pend.go {vars : List Str} {lc : Lc} {x dx Cl : Addr} {ox : Obj} {attrs : List (Str × AV)} {s' : Shared} (P : Pend C ρ σ s L vars lc x dx Cl ox attrs) (R : Rel C ρ' σ' s') (S : Step C [] ρ ρ' s.heap s'.heap) : Pend C ρ' σ' s' L vars lc x dx Cl ox attrs := by
  (refine x2_2 (P.hd) fun es n hD he => ?_)
  (refine x1_2 (P.self) fun m hm hs => ?_)
  exact ⟨R, P.lc.go S, ⟨m, hm.at fun o e => S.keep _ _ e P.lc.2.1 (by simp), hs⟩, S.keep _ _ P.ho P.nx (by simp), ⟨es, n, S.keep _ _ hD P.nd (by simp), he.go S⟩, Mut.grow S (Heap.lt_size P.ho) P.nx, Mut.grow S (Heap.lt_size hD) P.nd, P.lx, P.ld, P.cls, P.no, P.dict, P.ne, P.nL⟩
end
section
variable {C : Cfg} {ρ ρ' : Rho} {σ σ' : St} {s : Shared} {A : Around} {E : Value → Shared → Prop} {env : Env} {vars : List Str} {lc : Lc} {x dx Cl : Addr} {ox : Obj} {attrs : List (Str × AV)} {d : Nat}
theorem init_step (H : CfgOk C) (He : EnvOk env vars) (HS : StoreOk C Cl) {name : Str} (ht : takerIn C.K Cl name = some none) {e : Expr} {f : EM} (D : DenE C d env vars e f) {y : AV} (hf : f lc σ = some (y, σ')) (hn : attrs.lookup name = none) (hlen : attrs.length ≤ 100) (hself : env.kindOf "self" = some .local)
    (hA : AOk d A) (P : Pend C ρ σ s env.locals vars lc x dx Cl ox attrs) {p0 p1 p2 : Pos} (hs : swapsWith e (some (.Attribute (.Name "self" p0) name p1)) p2.line env = pure false) {Q : Flow → Shared → Prop}
    (k : ∀ s' ρ', Pend C ρ' σ' s' env.locals vars lc x dx Cl ox (attrs ++ [(name, y)]) → Step C [dx] ρ ρ' s.heap s'.heap → Q .next s') : wpAny (model C.prog C.w) A (exec (.Assign [.Attribute (.Name "self" p0) name p1] e p2) env) Q E s := by
  refine plainObj_wpAny_Assign_Attribute (D _ _ _ _ hf A _ E s ρ hA P.rel P.lc fun v s₁ ρ₁ R₁ S₁ q₁ => ?_) hs
  have P₁ := P.go R₁ S₁
  (refine x2_2 (P₁.hd) fun es n hD he => ?_)
  (refine x1_2 (P₁.self) fun m hm hms => ?_)
  refine lname He.out hself hm hms (by decide) ?_
  have ge := entR_get (name := name) he
  rw [hn] at ge
  have pe := putL_new (hsh := PyData.keyHash C.w.params name) (key := .str name (s₁.toks + 1)) (v := v) ge
  refine set_any HS (R₁.kin H) ⟨P₁.ho, P₁.cls, P₁.no, by rw [P₁.dict]; exact hD⟩ P₁.dict hD ht (by rw [ge]; rfl) (by rw [pe, List.length_append, he.length]; show attrs.length + 1 ≤ 1000; (first | lia | omega)) fun h' hsb hd' => ?_
  rw [pe] at hd'
  have S : Step C [dx] ρ₁ ρ₁ s₁.heap h' := stepWrite hsb
  have W := dict_noSeq hD
  have lcc := P₁.lc
  refine k _ ρ₁ ⟨R₁.writeD hD P₁.nd P₁.ld hsb, ?_, ⟨m, hm.at fun o e => (hsb.2 _ P.nL).trans e, hms⟩, (hsb.2 _ P.ne).trans P₁.ho, ⟨_, _, hd', (he.step S W).snoc (q₁.step S W)⟩, P₁.nx, P₁.nd, P.lx, P.ld, P.cls, P.no, P.dict, P.ne, P.nL⟩ (S₁.of_nil.trans S)
  obtain ⟨⟨m', hn', hv⟩, hm', hl', hz'⟩ := lcc
  refine ⟨⟨m', hn'.at fun o e => (hsb.2 _ P.nL).trans e, fun i x e => ?_⟩, hm', hl', hz'⟩
  (refine x2_3 (hv i x e) fun n' v' a b c => ?_)
  exact ⟨n', v', a, b, c.step S W⟩
end
end Mine.Internal
end
section
open PySem PySem.W PyProof.Rows PySem.Calls
namespace Mine.Internal
section
variable {C : Cfg} {ρ ρ' : Rho} {σ σ' : St} {s : Shared} {h : Heap} {p : Addr × Addr}
set_option tactic.hygienic false in
theorem mutSnoc {a : Addr} (n : ¬ Mut C ρ a) (h1 : a ≠ p.1) (h2 : a ≠ p.2) : ¬ Mut C (ρ ++ [p]) a := by
  rintro (t | ⟨q, hq, e⟩)
  · exact n (.inl t)
  · rcases List.mem_append.mp hq with hq | hq
    · exact n (.inr ⟨q, hq, e⟩)
    · cases List.mem_singleton.mp hq
      rcases e with e | e
      · exact h1 e.symm
      · exact h2 e.symm
set_option tactic.hygienic false in
theorem VR.adopt (k : ∀ a o, h.get? a = some o → (o.cls = .type "tuple" ∨ o.cls = .type "list") → a ≠ p.1 ∧ a ≠ p.2) {x : AV} {v : Value} (q : VR C ρ h x v) : VR C (ρ ++ [p]) h x v :=
  VR.rec (motive_1 := fun x v uu => VR C (ρ ++ [p]) h x v) (motive_2 := fun xs vs uu => VRs C (ρ ++ [p]) h xs vs) .none (fun b => .bool b) (fun i t => .int i t) (fun x t ok => .str x t ok)
    (fun ho hm uu ih => .tup ho (mutSnoc hm (k _ _ ho (.inl rfl)).1 (k _ _ ho (.inl rfl)).2) ih) (fun ho hm uu ih => .lst ho (mutSnoc hm (k _ _ ho (.inr rfl)).1 (k _ _ ho (.inr rfl)).2) ih)
    (fun e => .loc (by rw [List.getElem?_append_left (List.getElem?_eq_some_iff.mp e).1]; exact e)) .nil (fun uu uu a b => .cons a b) q
set_option tactic.hygienic false in
theorem VRs.adopt (k : ∀ a o, h.get? a = some o → (o.cls = .type "tuple" ∨ o.cls = .type "list") → a ≠ p.1 ∧ a ≠ p.2) {xs : List AV} {vs : List Value} (q : VRs C ρ h xs vs) : VRs C (ρ ++ [p]) h xs vs := q.ind (P := VRs C (ρ ++ [p]) h) .nil fun a uu ih => .cons (a.adopt k) ih
set_option tactic.hygienic false in
theorem EntR.adopt (k : ∀ a o, h.get? a = some o → (o.cls = .type "tuple" ∨ o.cls = .type "list") → a ≠ p.1 ∧ a ≠ p.2) {r : List (Str × AV)} {es : List DictEntry} (q : EntR C ρ h r es) : EntR C (ρ ++ [p]) h r es := q.rec (motive := fun r es uu => EntR C (ρ ++ [p]) h r es) .nil fun a uu ih => .cons (a.adopt k) ih
set_option tactic.hygienic false in
theorem Rel.adopt (R : Rel C ρ σ s) {o : AO} (k : ∀ a o, s.heap.get? a = some o → (o.cls = .type "tuple" ∨ o.cls = .type "list") → a ≠ p.1 ∧ a ≠ p.2) (n1 : ¬ Mut C ρ p.1) (n2 : ¬ Mut C ρ p.2) (l1 : C.s₁.heap.objs.size ≤ p.1) (l2 : C.s₁.heap.objs.size ≤ p.2)
    (ho : ObjR C (ρ ++ [p]) s.heap p o) (ng : o.isGen = false) : Rel C (ρ ++ [p]) (σ ++ [o]) s := by
  refine ⟨R.old, R.tab, fun q hq => ?_, ?_, by simp [R.len], fun l q o' e e' => ?_, R.gens.snoc R.len ng, R.drawn, R.os, R.size⟩
  · rcases List.mem_append.mp hq with hq | hq
    · exact R.lo q hq
    · cases List.mem_singleton.mp hq; exact ⟨l1, l2⟩
  · refine List.pairwise_append.mpr ⟨R.dis, List.pairwise_singleton .., fun a ha b hb => ?_⟩
    cases List.mem_singleton.mp hb
    exact ⟨fun z => n1 (.inr ⟨a, ha, .inl z⟩), fun z => n2 (.inr ⟨a, ha, .inl z⟩), fun z => n1 (.inr ⟨a, ha, .inr z⟩), fun z => n2 (.inr ⟨a, ha, .inr z⟩)⟩
  · by_cases hl : l < ρ.length
    · rw [List.getElem?_append_left hl] at e
      rw [List.getElem?_append_left (R.len ▸ hl)] at e'
      cases R.st l q o' e e' with
      | list ho hs => exact .list ho (hs.adopt k)
      | fmt ho hd he => exact .fmt ho hd (he.adopt k)
      | acc ho hd he hs => exact .acc ho hd (he.adopt k) (hs.adopt k)
      | ghost ho => exact .ghost ho
      | out ho => exact .out ho
      | gen ho hL => exact .gen ho (hL.grow _)
    · have hl' : ¬ l < σ.length := R.len ▸ hl
      rw [List.getElem?_append_right (Nat.not_lt.mp hl)] at e
      rw [List.getElem?_append_right (Nat.not_lt.mp hl')] at e'
      rw [List.getElem?_singleton] at e e'
      (refine sf e ?_; clear e; intro uu e)
      (refine sf e' ?_; clear e'; intro uu e')
      cases e; cases e'; exact ho
set_option tactic.hygienic false in
theorem LcR.adopt {L : Addr} {vars : List Str} {lc : Lc} (k : ∀ a o, h.get? a = some o → (o.cls = .type "tuple" ∨ o.cls = .type "list") → a ≠ p.1 ∧ a ≠ p.2) (n1 : L ≠ p.1) (n2 : L ≠ p.2) (q : LcR C ρ h L vars lc) : LcR C (ρ ++ [p]) h L vars lc := by
  obtain ⟨⟨m, hn, hv⟩, hm, hl, hz⟩ := q
  refine ⟨⟨m, hn, fun i x e => ?_⟩, mutSnoc hm n1 n2, hl, hz⟩
  (refine x2_3 (hv i x e) fun n v a b c => ?_)
  exact ⟨n, v, a, b, c.adopt k⟩
theorem LcR.know {L : Addr} {vars : List Str} {lc : Lc} {m : Str → Option Value} {x : AV} {v : Value} {n : Str} (q : LcR C ρ h L vars lc) (hm : h.Ns L m) (hn : vars[0]? = some n) (hv : m n = some v) (qv : VR C ρ h x v) : LcR C ρ h L vars (lc.set 0 (some x)) := by
  obtain ⟨⟨m', hn', hv'⟩, hm', hl, hz⟩ := q
  have e : ∀ y, m y = m' y := by
    intro y
    (refine x3_4 (hm) fun o es ep a1 a2 uu a4 => ?_; clear hm)
    (refine x3_4 (hn') fun o' es' ep' b1 b2 uu b4 => ?_; clear hn')
    rw [a1] at b1; cases b1
    rw [a2] at b2; cases b2
    rw [← a4, ← b4]
  refine ⟨⟨m', hn', fun i y ei => ?_⟩, hm', hl, by rw [List.length_set]; exact hz⟩
  rw [List.getElem?_set] at ei
  split at ei
  · rename_i h0
    subst h0
    (refine sf ei ?_; clear ei; intro uu ei)
    cases ei
    exact ⟨n, v, hn, by rw [← e]; exact hv, qv⟩
  · exact hv' i y ei
set_option tactic.hygienic false in
theorem pend0 {vr : List Str} {xs : List AV} {vs : List Value} {ox : Obj} {Cl : Addr} {h₁ : Heap} {tk : Nat} (R : Rel C ρ σ s) (q : VRs C ρ s.heap xs vs) (hnd : (("self" : Str) :: vr).Nodup) (hlen : vr.length = xs.length) (hcl : ox.cls = .ref Cl) (hno : notCls ox = true) (hdict : ox.dict = some s.heap.objs.size) (hfr : ox.isFreed = false)
    (hns : h₁.Ns (s.heap.objs.size + 2) (fun y => ((("self" : Str) :: vr).zip (.ref (s.heap.objs.size + 1) :: vs)).reverse.lookup y)) (hk : ∀ b o, ((s.heap.push emptyDict).push ox).get? b = some o → h₁.get? b = some o) (hz : h₁.objs.size = s.heap.objs.size + 3) :
    Pend C ρ σ { s with heap := h₁, toks := tk } (s.heap.objs.size + 2) ("self" :: vr) (none :: xs.map some) (s.heap.objs.size + 1) s.heap.objs.size Cl ox [] := by
  have k₁ : ∀ b o, s.heap.get? b = some o → h₁.get? b = some o := fun b o e => hk b o (Heap.get?_push_of_some _ (Heap.get?_push_of_some _ e))
  have S₁ : Step C [] ρ ρ s.heap h₁ := .same k₁ (by (first | lia | omega))
  have fr : ∀ i, ¬ Mut C ρ (s.heap.objs.size + i) := by
    intro i
    rintro (t | ⟨p, hp, e⟩)
    · (refine x1_2 (List.mem_map.mp t) fun y hy e => ?_)
      (refine x1_3 (R.tab y hy) fun m uu uu ht => ?_)
      have := Heap.lt_size ht
      rw [e] at this
      exact absurd this (Nat.not_lt.mpr (Nat.le_add_right _ _))
    · have := R.rhoLt hp
      rcases e with e | e
      · rw [e] at this; exact absurd this.1 (Nat.not_lt.mpr (Nat.le_add_right _ _))
      · rw [e] at this; exact absurd this.2 (Nat.not_lt.mpr (Nat.le_add_right _ _))
  have hlv : vs.length = vr.length := by rw [q.length, hlen]
  have hmap : ((("self" : Str) :: vr).zip (.ref (s.heap.objs.size + 1) :: vs)).map (·.1) = ("self" : Str) :: vr := by
    rw [List.map_fst_zip]
    simp [hlv]
  refine ⟨R.same k₁ (by show _ ≤ h₁.objs.size; (first | lia | omega)) R.gens rfl rfl, ⟨⟨_, hns, fun i y e => ?_⟩, fr 2, Nat.le_trans R.size (Nat.le_add_right _ _), by simp [hlen]⟩, ⟨_, hns, ?_⟩, hk _ _ ?_, ⟨[], 0, hk _ _ ?_, .nil⟩, fr 1, fr 0, Nat.le_trans R.size (Nat.le_add_right _ _), R.size, hcl, hno, hdict, Nat.succ_ne_self _, Nat.ne_of_gt (Nat.lt_add_of_pos_right (by decide))⟩
  · cases i with
    | zero => cases e
    | succ i =>
      rw [List.getElem?_cons_succ, List.getElem?_map, Option.map_eq_some_iff] at e
      (refine x1_2 (e) fun y' e1 e2 => ?_; clear e)
      (refine c1 e2 fun hh0 => ?_; clear e2; subst hh0)
      (refine x1_2 (q.get e1) fun v ev qv => ?_)
      have hi : i < vr.length := by rw [hlen]; exact (List.getElem?_eq_some_iff.mp e1).1
      refine ⟨vr[i], v, by rw [List.getElem?_cons_succ]; exact List.getElem?_eq_getElem hi, ?_, qv.go S₁⟩
      refine lookup_rev (by rw [hmap]; exact hnd) (lookup_zip (i := i + 1) hnd ?_ ?_)
      · rw [List.getElem?_cons_succ]; exact List.getElem?_eq_getElem hi
      · rw [List.getElem?_cons_succ]; exact ev
  · exact lookup_rev (by rw [hmap]; exact hnd) (lookup_zip (i := 0) hnd rfl rfl)
  · have := Heap.get?_push_size (s.heap.push emptyDict) (o := ox) hfr
    rw [Heap.size_push] at this
    exact this
  · exact Heap.get?_push_of_some _ (Heap.get?_push_size _ rfl)
end
end Mine.Internal
end
section
open PySem PySem.W PyProof.Rows PySem.Calls
namespace Mine.Internal
section
variable {C : Cfg} {ρ ρ' : Rho} {σ σ' : St} {s : Shared} {A : Around} {E : Value → Shared → Prop} {d : Nat}
set_option tactic.hygienic false in
theorem fnd_env {f : Addr} {vars : List Str} {m : Nat} {dxs : List AV} {dv : List Value} {body : List Stmt} {scope : Scope} {closure : List (Str × Addr)} {qual : Str} {code : Value} (H : FnD C f vars m dxs dv body scope closure qual code) (L : Addr) : EnvOk (fnEnv scope closure qual f code L) vars :=
  ⟨H.kind, H.loc, H.nodup, rfl, rfl⟩
set_option tactic.hygienic false in
theorem AOk.tc {Cl : Addr} {vals : List Value} (a : AOk (d + 1) A) : AOk d (A.under (.builtin "type.__call__" ⟨.ref Cl :: vals, []⟩)) := by
  (refine x0_3 (a) fun a1 a2 a3 => ?_; clear a)
  refine ⟨a1, ?_, ?_⟩
  · show A.depth + 1 + d < _; (first | lia | omega)
  · show A.units + 1 + 8 * d < _; (first | lia | omega)
set_option tactic.hygienic false in
theorem notSeqCls {h : Heap} {x dx Cl : Addr} {ox : Obj} {es : List DictEntry} {n : Nat} (ho : h.get? x = some ox) (hc : ox.cls = .ref Cl) (hd : h.get? dx = some (dictOf es n)) : ∀ a o, h.get? a = some o → (o.cls = .type "tuple" ∨ o.cls = .type "list") → a ≠ x ∧ a ≠ dx := by
  intro a o e hcl
  refine ⟨?_, ?_⟩
  · rintro rfl
    rw [ho] at e; cases e
    rw [hc] at hcl
    rcases hcl with z | z <;> cases z
  · rintro rfl
    rw [hd] at e; cases e
    rcases hcl with z | z <;> exact absurd z (by simp)
noncomputable def mkAccF : FM := fun xs σ => match xs with
  | [.int i] => some (.loc σ.length, σ ++ [.acc i []])
  | _ => none
theorem den_mkAcc {fI : Addr} {scope : Scope} {closure : List (Str × Addr)} {qual : Str} {code : Value} {p0 p1 p2 p3 q0 q1 apos q2 q3 : Pos} (H : CfgOk C) (HC : ClsOk C) (HS : SupCls C) (HM : AccMake C fI) (HSt : StoreOk C C.ACC) (ht : takerIn C.K C.ACC "_initial_size" = some none)
    (HF : FnD C fI ["self", "initial_size"] 2 [] [] [.Assign [.Attribute (.Name "self" p0) "_initial_size" p1] (.Name "initial_size" p2) p3, .Expr (.Call (.Attribute (.Call (.Name "super" q0) [] [] q1) "__init__" apos) [] [] q2) q3] scope closure qual code)
    (SO : ∀ L, SupOk C (fnEnv scope closure qual fI code L) ["self", "initial_size"]) (hf : alongIn C.K "__init__" [.type "list", .type "object"] = some (some (.builtin "list.__init__"))) (hp : (apos.endLine == q2.line) = true) (hi : ∀ L, interactive (fnEnv scope closure qual fI code L) = false)
    (hs1 : ∀ L, swapsWith (.Name "initial_size" p2) (some (.Attribute (.Name "self" p0) "_initial_size" p1)) p3.line (fnEnv scope closure qual fI code L) = pure false)
    (hs2 : ∀ L, swapsWith (.Call (.Attribute (.Call (.Name "super" q0) [] [] q1) "__init__" apos) [] [] q2) none q3.line (fnEnv scope closure qual fI code L) = pure false) :
    DenCall C (d + 2) (.ref C.ACC) mkAccF := by
  intro xs σ x σ' hf' A Q E s ρ vs hA R q k
  unfold mkAccF at hf'
  split at hf'
  · rename_i i
    (refine c2 hf' fun hh0 hh1 => ?_; clear hf'; subst hh0; subst hh1)
    obtain ⟨hh, g, dr, tk, os⟩ := s
    have q' := q
    (refine x2_3 (q.cons_inv) fun v uu rr2 qv q2 => ?_; subst rr2)
    cases q2
    refine wpAny_call (acc_make HM (R.kin H) ?_)
    have old : OldAt C ⟨(hh.push emptyDict).push (accObj0 C hh.objs.size), g, dr, tk, os⟩ := fun b o e n => Heap.get?_push_of_some _ (Heap.get?_push_of_some _ (R.old b o e n))
    have hA1 := hA.tc (Cl := C.ACC) (vals := [v])
    have sz2 : ((hh.push emptyDict).push (accObj0 C hh.objs.size)).objs.size = hh.objs.size + 2 := by rw [Heap.size_push, Heap.size_push]
    refine enterD HF H old (by have := hA1.2.1; (first | lia | omega)) rfl fun h₁ tk₁ E' hns hk hz => ?_
    rw [show (⟨(hh.push emptyDict).push (accObj0 C hh.objs.size), g, dr, tk, os⟩ : Shared).heap.objs.size = hh.objs.size + 2 from sz2] at hns hz ⊢
    have P := pend0 (Cl := C.ACC) (tk := tk₁) R q' (vr := ["initial_size"]) (by decide) rfl (ox := accObj0 C hh.objs.size) rfl rfl rfl rfl hns hk hz
    have He := fnd_env HF (hh.objs.size + 2)
    refine ks_wpAt_execs_cons (wpAt_of_wpAny ?_)
    refine init_step (attrs := []) (σ' := σ) (y := .int i) H He HSt ht (den_name (d := d) He (i := 1) rfl (by decide)) rfl rfl (by decide) (He.loc _ (by simp)) hA1.deeper P (hs1 _) fun s₁ ρ₁ P₁ S₁ => ?_
    (refine x2_2 (P₁.hd) fun es n hD he => ?_)
    have kk := notSeqCls P₁.ho P₁.cls hD
    have hob : ObjR C (ρ₁ ++ [(hh.objs.size + 1, hh.objs.size)]) s₁.heap (hh.objs.size + 1, hh.objs.size) (.acc i []) := .acc (vs := []) (parts := []) P₁.ho hD (EntR.adopt (p := (hh.objs.size + 1, hh.objs.size)) kk he) .nil
    have R₂ := P₁.rel.adopt (p := (hh.objs.size + 1, hh.objs.size)) kk P₁.nx P₁.nd P₁.lx P₁.ld hob rfl
    (refine x1_2 (P₁.self) fun m hm hms => ?_)
    have lr₂ := (P₁.lc.adopt (p := (hh.objs.size + 1, hh.objs.size)) kk (fun z => absurd z (Nat.succ_ne_self _)) P.nL).know hm rfl hms (.loc (l := σ.length) (p := (hh.objs.size + 1, hh.objs.size)) (by rw [← P₁.rel.len, List.getElem?_append_right (Nat.le_refl _), Nat.sub_self]; rfl))
    refine ks_wpAt_execs_cons ?_
    refine den_superInit (d := d) H HC He HS (SO _) hf hp (hi _) (hs2 _) [some (.loc σ.length), some (.int i)] (σ ++ [.acc i []]) .next [some (.loc σ.length), some (.int i)] (σ ++ [.acc i []]) ?_ _ _ _ _ _ hA1.deeper R₂ lr₂ fun w s₃ ρ₃ R₃ S₃ _ fr => ?_
    · unfold superInitS
      dsimp only [List.getElem?_cons_zero]
      rw [List.getElem?_append_right (Nat.le_refl _), Nat.sub_self]
      dsimp only [List.getElem?_cons_zero]
      rw [if_pos (by decide)]
      congr 3
      rw [List.set_append_right _ _ (Nat.le_refl _), Nat.sub_self]
      rfl
    · cases fr
      refine wpAt_of_wpAny (wpAny_pure ?_)
      refine ⟨rfl, ?_⟩
      have e₃ : ρ₃[σ.length]? = some (hh.objs.size + 1, hh.objs.size) := by
        obtain ⟨δ, rfl, _⟩ := S₃.grow
        rw [List.getElem?_append_left (by rw [List.length_append, P₁.rel.len]; exact Nat.lt_succ_self _), ← P₁.rel.len, List.getElem?_append_right (Nat.le_refl _), Nat.sub_self]
        rfl
      refine k _ s₃ ρ₃ R₃ ?_ (.loc e₃)
      have up : ∀ b o, hh.get? b = some o → h₁.get? b = some o := fun b o e => hk b o (Heap.get?_push_of_some _ (Heap.get?_push_of_some _ e))
      have z1 : h₁.objs.size ≤ s₁.heap.objs.size := S₁.size
      refine ⟨by show hh.objs.size ≤ _; have := S₃.size; (first | lia | omega), fun b o e nm uu => ?_, ?_⟩
      · have lb := Heap.lt_size e
        have e1 := S₁.keep b o (up b o e) nm (by simp only [List.mem_singleton]; exact Nat.ne_of_lt lb)
        refine S₃.keep b o e1 (mutSnoc (Mut.grow S₁ (Heap.lt_size (up b o e)) nm) (Nat.ne_of_lt (Nat.lt_succ_of_lt lb)) (Nat.ne_of_lt lb)) ?_
        simp only [List.mem_singleton]
        exact Nat.ne_of_lt (Nat.lt_of_lt_of_le lb (Nat.le_add_right _ 2))
      · obtain ⟨δ₁, e1, h1⟩ := S₁.grow
        obtain ⟨δ₃, e3, h3⟩ := S₃.grow
        refine ⟨δ₁ ++ [(hh.objs.size + 1, hh.objs.size)] ++ δ₃, by rw [e3, e1]; simp, fun p hp => ?_⟩
        rcases List.mem_append.mp hp with hp | hp
        · rcases List.mem_append.mp hp with hp | hp
          · have : h₁.objs.size ≤ p.1 ∧ h₁.objs.size ≤ p.2 := h1 p hp
            show hh.objs.size ≤ _ ∧ hh.objs.size ≤ _
            constructor
            · exact Nat.le_trans (by (first | lia | omega)) this.1
            · exact Nat.le_trans (by (first | lia | omega)) this.2
          · cases List.mem_singleton.mp hp
            exact ⟨Nat.le_succ _, Nat.le_refl _⟩
        · have := h3 p hp
          show hh.objs.size ≤ _ ∧ hh.objs.size ≤ _
          constructor
          · exact Nat.le_trans (by (first | lia | omega)) this.1
          · exact Nat.le_trans (by (first | lia | omega)) this.2
  · exact ns hf'
end
end Mine.Internal
end
section
open PySem PySem.W PyProof.Rows PySem.Calls
namespace Mine.Internal
inductive DenI (C : Cfg) (d : Nat) (env : Env) (vars : List Str) (Cl : Addr) : List Stmt → List (Str × EM) → Prop
  | nil : DenI C d env vars Cl [] []
  | cons {name : Str} {e : Expr} {f : EM} {r : List Stmt} {fs : List (Str × EM)} {p0 p1 p2 : Pos} (ht : takerIn C.K Cl name = some none) (D : DenE C d env vars e f) (hs : swapsWith e (some (.Attribute (.Name "self" p0) name p1)) p2.line env = pure false)
      (b : DenI C d env vars Cl r fs) : DenI C d env vars Cl (.Assign [.Attribute (.Name "self" p0) name p1] e p2 :: r) ((name, f) :: fs)
noncomputable def runI : List (Str × EM) → List (Str × AV) → Lc → St → Option (List (Str × AV) × St)
  | [], acc, _, σ => some (acc, σ)
  | (n, f) :: r, acc, lc, σ => match f lc σ with
    | some (y, σ₁) => if acc.lookup n = none ∧ acc.length ≤ 100 then runI r (acc ++ [(n, y)]) lc σ₁ else none
    | none => none
section
variable {C : Cfg} {ρ ρ' : Rho} {σ σ' : St} {s : Shared} {A : Around} {E : Value → Shared → Prop} {env : Env} {vars : List Str} {lc : Lc} {x dx Cl : Addr} {ox : Obj} {d : Nat}
theorem init_block (H : CfgOk C) (He : EnvOk env vars) (HS : StoreOk C Cl) (hself : env.kindOf "self" = some .local) (hA : AOk d A) {b : List Stmt} {fs : List (Str × EM)} (D : DenI C d env vars Cl b fs) :
    ∀ {attrs attrs' : List (Str × AV)} {σ σ' : St} {s : Shared} {ρ : Rho} {Q : Flow → Shared → Prop}, runI fs attrs lc σ = some (attrs', σ') → Pend C ρ σ s env.locals vars lc x dx Cl ox attrs →
      (∀ s' ρ', Pend C ρ' σ' s' env.locals vars lc x dx Cl ox attrs' → Step C [dx] ρ ρ' s.heap s'.heap → Q .next s') → wpAny (model C.prog C.w) A (execs b env) Q E s := by
  induction D with
  | nil => intro attrs attrs' σ σ' s ρ Q hf P k; cases hf; exact wpAny_pure (k _ _ P .refl)
  | @cons name e f r fs p0 p1 p2 ht D hs b ih =>
    intro attrs attrs' σ σ' s ρ Q hf P k
    unfold runI at hf
    (refine s1 hf ?_; clear hf; intro y σ₁ e1 hf)
    (refine sf hf ?_; clear hf; intro hc hf)
    refine wpAny_execs_cons (init_step H He HS ht D e1 hc.1 hc.2 hself hA P hs fun s₁ ρ₁ P₁ S₁ => ?_)
    exact ih hf P₁ fun s₂ ρ₂ P₂ S₂ => k s₂ ρ₂ P₂ (S₁.trans S₂)
noncomputable def fmtInit (LF : FM) : List (Str × EM) := [("_maxlen", nE 2), ("_continuation_ws", nE 3), ("_continuation_ws_len", callE (lenF LF) [nE 3]), ("_splitchars", nE 4), ("_lines", newLE []), ("_current_line", callE mkAccF [nE 1])]
noncomputable def mkFmtF : FM := fun xs σ => match xs with
  | [.int hl, .int ml, .str cw, .str sp] => if cw.length ≤ 1000000 then some (.loc (σ.length + 2), σ ++ [.list [], .acc hl [], .fmt ml cw cw.length sp σ.length (σ.length + 1)]) else none
  | _ => none
theorem den_mkFmt {fI : Addr} {body : List Stmt} {scope : Scope} {closure : List (Str × Addr)} {qual : Str} {code : Value} {LF : FM} (H : CfgOk C) (HM : makesIn C.K C.VF = true) (hinit : findIn C.K (.ref C.VF) "__init__" = some (some (.ref fI))) (hfn : typeIn C.K (.ref fI) = some (.type "function")) (HSt : StoreOk C C.VF)
    (HF : FnD C fI ["self", "headerlen", "maxlen", "continuation_ws", "splitchars"] 5 [] [] body scope closure qual code)
    (D : ∀ L, DenI C d (fnEnv scope closure qual fI code L) ["self", "headerlen", "maxlen", "continuation_ws", "splitchars"] C.VF body (fmtInit LF)) :
    DenCall C (d + 2) (.ref C.VF) mkFmtF := by
  intro xs σ x σ' hf' A Q E s ρ vs hA R q k
  unfold mkFmtF at hf'
  split at hf'
  · rename_i hl ml cw sp
    (refine sf hf' ?_; clear hf'; intro hcw hf')
    (refine c2 hf' fun hh0 hh1 => ?_; clear hf'; subst hh0; subst hh1)
    obtain ⟨hh, g, dr, tk, os⟩ := s
    have X := R.kin H
    refine wpAny_call (make_core (makes_of X HM) (looks_findIn X hinit) (fun self => bind_fn X self hfn) (.inl rfl) ?_)
    have old : OldAt C ⟨(hh.push emptyDict).push (instObj C.VF hh.objs.size), g, dr, tk, os⟩ := fun b o e n => Heap.get?_push_of_some _ (Heap.get?_push_of_some _ (R.old b o e n))
    have hA1 := hA.tc (Cl := C.VF) (vals := vs)
    have sz2 : ((hh.push emptyDict).push (instObj C.VF hh.objs.size)).objs.size = hh.objs.size + 2 := by rw [Heap.size_push, Heap.size_push]
    refine enterD HF H old (by have := hA1.2.1; (first | lia | omega)) (by rw [List.length_cons, q.length]; rfl) fun h₁ tk₁ E' hns hk hz => ?_
    rw [show (⟨(hh.push emptyDict).push (instObj C.VF hh.objs.size), g, dr, tk, os⟩ : Shared).heap.objs.size = hh.objs.size + 2 from sz2] at hns hz ⊢
    rw [List.append_nil] at hns
    have P := pend0 (Cl := C.VF) (tk := tk₁) R q (vr := ["headerlen", "maxlen", "continuation_ws", "splitchars"]) (by decide) rfl (ox := instObj C.VF hh.objs.size) rfl rfl rfl rfl hns hk hz
    have He := fnd_env HF (hh.objs.size + 2)
    refine wpAt_of_wpAny ?_
    have run : runI (fmtInit LF) [] [none, some (.int hl), some (.int ml), some (.str cw), some (.str sp)] σ = some (fmtAttrs ml cw cw.length sp σ.length (σ.length + 1), σ ++ [.list [], .acc hl []]) := by
      have e3 : callE (lenF LF) [nE 3] [none, some (.int hl), some (.int ml), some (.str cw), some (.str sp)] σ = some (.int cw.length, σ) := by
        show (if cw.length ≤ 1000000 then some (AV.int cw.length, σ) else none) = _
        rw [if_pos hcw]
      unfold fmtInit
      unfold runI
      rw [show nE 2 [none, some (.int hl), some (.int ml), some (.str cw), some (.str sp)] σ = some (.int ml, σ) from rfl]
      dsimp only
      rw [if_pos (by decide)]
      unfold runI
      rw [show nE 3 [none, some (.int hl), some (.int ml), some (.str cw), some (.str sp)] σ = some (.str cw, σ) from rfl]
      dsimp only
      rw [if_pos ⟨by rfl, by simp⟩]
      unfold runI
      rw [e3]
      dsimp only
      rw [if_pos ⟨by rfl, by simp⟩]
      unfold runI
      rw [show nE 4 [none, some (.int hl), some (.int ml), some (.str cw), some (.str sp)] σ = some (.str sp, σ) from rfl]
      dsimp only
      rw [if_pos ⟨by rfl, by simp⟩]
      unfold runI
      rw [show newLE [] [none, some (.int hl), some (.int ml), some (.str cw), some (.str sp)] σ = some (.loc σ.length, σ ++ [.list []]) from rfl]
      dsimp only
      rw [if_pos ⟨by rfl, by simp⟩]
      unfold runI
      rw [show callE mkAccF [nE 1] [none, some (.int hl), some (.int ml), some (.str cw), some (.str sp)] (σ ++ [.list []]) = some (.loc (σ ++ [AO.list []]).length, (σ ++ [.list []]) ++ [.acc hl []]) from rfl]
      dsimp only
      rw [if_pos ⟨by rfl, by simp⟩]
      unfold runI
      simp [fmtAttrs]
    refine init_block H He HSt (He.loc _ (by simp)) hA1.deeper (D _) run P fun s₁ ρ₁ P₁ S₁ => ?_
    (refine x2_2 (P₁.hd) fun es n hD he => ?_)
    have kk := notSeqCls P₁.ho P₁.cls hD
    have hob : ObjR C (ρ₁ ++ [(hh.objs.size + 1, hh.objs.size)]) s₁.heap (hh.objs.size + 1, hh.objs.size) (.fmt ml cw cw.length sp σ.length (σ.length + 1)) := .fmt P₁.ho hD (EntR.adopt (p := (hh.objs.size + 1, hh.objs.size)) kk he)
    have R₂ := P₁.rel.adopt (p := (hh.objs.size + 1, hh.objs.size)) kk P₁.nx P₁.nd P₁.lx P₁.ld hob rfl
    rw [List.append_assoc] at R₂
    refine ⟨rfl, ?_⟩
    refine k _ s₁ _ R₂ ?_ (.loc (p := (hh.objs.size + 1, hh.objs.size)) ?_)
    · have up : ∀ b o, hh.get? b = some o → h₁.get? b = some o := fun b o e => hk b o (Heap.get?_push_of_some _ (Heap.get?_push_of_some _ e))
      have z1 : h₁.objs.size ≤ s₁.heap.objs.size := S₁.size
      refine ⟨by show hh.objs.size ≤ _; (first | lia | omega), fun b o e nm uu => ?_, ?_⟩
      · have lb := Heap.lt_size e
        exact S₁.keep b o (up b o e) nm (by simp only [List.mem_singleton]; exact Nat.ne_of_lt lb)
      · obtain ⟨δ₁, e1, h1⟩ := S₁.grow
        refine ⟨δ₁ ++ [(hh.objs.size + 1, hh.objs.size)], by rw [e1]; simp, fun p hp => ?_⟩
        rcases List.mem_append.mp hp with hp | hp
        · have : h₁.objs.size ≤ p.1 ∧ h₁.objs.size ≤ p.2 := h1 p hp
          show hh.objs.size ≤ _ ∧ hh.objs.size ≤ _
          constructor
          · exact Nat.le_trans (by (first | lia | omega)) this.1
          · exact Nat.le_trans (by (first | lia | omega)) this.2
        · cases List.mem_singleton.mp hp
          exact ⟨Nat.le_succ _, Nat.le_refl _⟩
    · have hz : ρ₁.length = σ.length + 2 := by rw [P₁.rel.len]; simp
      rw [List.getElem?_append_right (by (first | lia | omega)), hz, Nat.sub_self]
      rfl
  · exact ns hf'
end
end Mine.Internal
end
section
open PySem PySem.W PyProof.Rows PySem.Calls
namespace Mine.Internal
inductive SeqV (C : Cfg) (h : Heap) (a : Addr) (vs : List Value) : Prop
  | list {n : Nat} (ho : h.get? a = some (lstObj vs n)) : SeqV C h a vs
  | acc {d : Addr} {es : List DictEntry} {n n' : Nat} (ho : h.get? a = some ⟨.ref C.ACC, some d, .seq vs.toArray n, #[]⟩) (hd : h.get? d = some (dictOf es n')) : SeqV C h a vs
structure ItemOk (C : Cfg) : Prop where
  noDeque : mroIn C.K C.ACC (.type "collections.deque") = some false
section
variable {C : Cfg} {ρ : Rho} {σ σ' : St} {s : Shared} {A : Around} {E : Value → Shared → Prop} {a : Addr} {vs : List Value}
set_option tactic.hygienic false in
theorem SeqV.obj {h : Heap} (S : SeqV C h a vs) : ∃ o n, h.get? a = some o ∧ o.data = .seq vs.toArray n ∧ ∃ c d sl, o = ⟨c, d, .seq vs.toArray n, sl⟩ := by
  cases S with
  | list ho => exact ⟨_, _, ho, rfl, _, _, _, rfl⟩
  | acc ho hd => exact ⟨_, _, ho, rfl, _, _, _, rfl⟩
set_option tactic.hygienic false in
theorem SeqV.special {h : Heap} (H : CfgOk C) (HA : AccOk C) (X : C.K.In h) (S : SeqV C h a vs) : Looks (model C.prog C.w) h (specialOf (.ref a) "__getitem__") (some (.builtin "list.__getitem__")) := by
  cases S with
  | list ho => exact ((Looks.ld ho).andThen .now).andThen (Looks.of_pure slot_list_getitem.lookup)
  | acc ho hd => exact (accInst ho hd).type.andThen (looks_findIn X HA.gi)
set_option tactic.hygienic false in
theorem call_seq {id n : String} {B : Builtin} {rest : List Value} {Q : Value → Shared → Prop} (HC : ClsOk C) (X : C.K.In s.heap) (S : SeqV C s.heap a vs) {nm : Str} (Sl : Slot "list" nm id) (hk : builtinKind id = some .method ∨ builtinKind id = some .slot) (hs : splitId id = some ("list", n)) (hb : entryFor table id = some B)
    (ha : argsOk id ⟨.ref a :: rest, []⟩) (hc : wpAny (model C.prog C.w) A.in1 (B ⟨.ref a :: rest, []⟩) (fun fin s' => ∃ v, fin = .done (.ret v) ∧ Q v s') E s) : wpAny (model C.prog C.w) A (call (.builtin id) (.ref a :: rest)) Q E s := by
  cases S with
  | list ho => exact wpAny_call_entry Sl ⟨_, ho, rfl⟩ hb hc ha
  | acc ho hd => exact call_below X (accInst ho hd) HC.acMro hk hs Sl.plain hb ha hc
set_option tactic.hygienic false in
theorem seqKey {i : Value} {nm : Str} {Q : Value → Shared → Prop} (HI : ItemOk C) (X : C.K.In s.heap) (S : SeqV C s.heap a vs) (k : Q i s) : wpAny (model C.prog C.w) A (sequenceKey (.ref a) i nm) Q E s := by
  cases S with
  | list ho => exact wpAny_sequenceKey (T := "list") ⟨_, ho, rfl⟩ (by decide) k
  | acc ho hd =>
    unfold sequenceKey
    refine wpAny_bind ((accInst ho hd).type.here ?_)
    dsimp only
    have L : Looks (model C.prog C.w) s.heap (seqItemTypes.anyM fun n => isSubtype (.ref C.ACC) (.type n)) false := by
      unfold seqItemTypes
      intro A Q E s' k' q
      rw [List.anyM_cons]
      refine wpAny_bind (looks_mroIn X HI.noDeque A _ E s' k' ?_)
      exact wpAny_pure q
    refine wpAny_bind (L.here ?_)
    rw [if_pos (by rfl)]
    exact wpAny_pure k
set_option tactic.hygienic false in
theorem special_seq {id : String} {nm : Str} {rest : List Value} {Q : Option Value → Shared → Prop} (X : C.K.In s.heap) (S : SeqV C s.heap a vs) (Sl : Slot "list" nm id) (hf : findIn C.K (.ref C.ACC) nm = some (some (.builtin id)))
    (h : wpAny (model C.prog C.w) A (call (.builtin id) (.ref a :: rest)) (fun v s' => Q (some v) s') E s) : wpAny (model C.prog C.w) A (callSpecial? (.ref a) nm rest) Q E s := by
  have L : Looks (model C.prog C.w) s.heap (specialOf (.ref a) nm) (some (.builtin id)) := by
    cases S with
    | list ho => exact ((Looks.ld ho).andThen .now).andThen (Looks.of_pure Sl.lookup)
    | acc ho hd => exact (accInst ho hd).type.andThen (looks_findIn X hf)
  unfold callSpecial?
  refine wpAny_bind (L.here ?_)
  dsimp only
  rw [Sl.bind]
  refine wpAny_holding (wpAny_bind (wpAny_pure ?_))
  exact wpAny_bind (wpAny_mono h (fun v s' z => wpAny_pure z) fun uu uu z => z)
set_option tactic.hygienic false in
theorem getItem_seq {i : Value} {Q : Value → Shared → Prop} (H : CfgOk C) (HC : ClsOk C) (HA : AccOk C) (HI : ItemOk C) (X : C.K.In s.heap) (S : SeqV C s.heap a vs)
    (h : wpAny (model C.prog C.w) A.in1 (Builtin.«list.__getitem__» ⟨[.ref a, i], []⟩) (fun fin s' => ∃ v, fin = .done (.ret v) ∧ Q v s') E s) : wpAny (model C.prog C.w) A (getItem (.ref a) i) Q E s := by
  unfold getItem
  refine wpAny_holding (wpAny_bind (seqKey HI X S (wpAny_bind (special_seq X S slot_list_getitem HA.gi (call_seq HC X S slot_list_getitem (.inl (by decide +kernel)) (n := "__getitem__") (by decide +kernel) entry_list_getitem (args_list_getitem _ _) (wpAny_mono h (fun fin s' z => ?_) fun uu uu z => z))))))
  (refine x1_2 (z) fun v rr1 hq => ?_; clear z; subst rr1)
  exact ⟨v, rfl, wpAny_pure hq⟩
set_option tactic.hygienic false in
theorem setItem_seq {i v : Value} {Q : Unit → Shared → Prop} (H : CfgOk C) (HC : ClsOk C) (HA : AccOk C) (HI : ItemOk C) (X : C.K.In s.heap) (S : SeqV C s.heap a vs)
    (h : wpAny (model C.prog C.w) A.in1 (Builtin.«list.__setitem__» ⟨[.ref a, i, v], []⟩) (fun fin s' => ∃ v, fin = .done (.ret v) ∧ Q () s') E s) : wpAny (model C.prog C.w) A (setItem (.ref a) i v) Q E s := by
  unfold setItem
  refine wpAny_holding (wpAny_bind (seqKey HI X S (wpAny_bind (special_seq X S slot_list_setitem HA.si (call_seq HC X S slot_list_setitem (.inr (by decide +kernel)) (n := "__setitem__") (by decide +kernel) entry_list_setitem (args_list_setitem _ _ _) (wpAny_mono h (fun fin s' z => ?_) fun uu uu z => z))))))
  (refine x1_2 (z) fun v rr1 hq => ?_; clear z; subst rr1)
  exact ⟨v, rfl, wpAny_pure hq⟩
theorem get_int {i : Int} {t : Tok} {x : Value} {j : Nat} {Q : Fin → Shared → Prop} (S : SeqV C s.heap a vs) (hi : -1000000000 ≤ i ∧ i < 1000000000) (hj : seqIndex? i vs.length = some j) (hx : vs[j]? = some x) (k : Q (.done (.ret x)) s) :
    wpAny (model C.prog C.w) A (Builtin.«list.__getitem__» ⟨[.ref a, .int i t], []⟩) Q E s := by
  obtain ⟨o, n, ho, hd, -⟩ := S.obj
  have hf : Builtin.List.listFitsIndex i = true := by
    unfold Builtin.List.listFitsIndex
    simp only [Bool.and_eq_true, decide_eq_true_eq]
    (first | lia | omega)
  show wpAny _ _ (Builtin.List.listSubscript? (.int i t) >>= _) _ _ s
  refine wpAny_bind (wpAny_listSubscript_int hf ?_)
  dsimp only
  cases i with
  | ofNat m =>
    have e : seqIndex? (Int.ofNat m) vs.length = some m ∨ seqIndex? (Int.ofNat m) vs.length = none := by
      unfold seqIndex?
      dsimp only
      split
      · rename_i h0; exact absurd h0 (by simp)
      · split
        · exact .inl rfl
        · exact .inr rfl
    have : j = m := by
      rcases e with e | e
      · rw [e] at hj; cases hj; rfl
      · rw [e] at hj; cases hj
    subst this
    show wpAny _ _ ((seqItemAt a j >>= _) >>= _) _ _ _
    refine wpAny_bind (wpAny_bind (wpAny_seqItemAt ho hd ?_))
    have : vs.toArray[j]? = some x := by simpa using hx
    rw [this]
    exact wpAny_pure (wpAny_pure k)
  | negSucc m =>
    show wpAny _ _ ((Builtin.List.listItems (.ref a) >>= _) >>= _) _ _ _
    unfold Builtin.List.listItems
    refine wpAny_bind (wpAny_bind (wpAny_bind (wpAny_seqItems ho hd (wpAny_pure ?_))))
    rw [List.size_toArray, hj]
    have : vs.toArray[j]? = some x := by simpa using hx
    dsimp only [Option.bind_some]
    rw [this]
    exact wpAny_pure (wpAny_pure k)
end
end Mine.Internal
end
section
open PySem PySem.W PyProof.Rows PySem.Calls
namespace Mine.Internal
noncomputable def asSeq (σ : St) : AV → Option (List AV)
  | .lst xs => some xs
  | .loc l => match σ[l]? with
    | some (.list xs) => some xs
    | some (.acc _ ps) => some (ps.map partAV)
    | _ => none
  | _ => none
noncomputable def aget (σ : St) (x : AV) (i : Int) : Option AV := if -1000000000 ≤ i ∧ i < 1000000000 then (match x with
  | .str y => ((seqIndex? i y.length).bind (y.cps[·]?)).map fun c => .str ⟨#[c]⟩
  | .tup xs => (seqIndex? i xs.length).bind (xs[·]?)
  | x => match asSeq σ x with
    | some xs => (seqIndex? i xs.length).bind (xs[·]?)
    | none => none) else none
noncomputable def idxE (f g : EM) : EM := fun lc σ => match f lc σ with
  | some (x, σ₁) => match g lc σ₁ with
    | some (.int i, σ₂) => (aget σ₂ x i).map (·, σ₂)
    | _ => none
  | none => none
section
variable {C : Cfg} {ρ : Rho} {σ σ' : St} {s : Shared} {A : Around} {E : Value → Shared → Prop} {a : Addr} {vs : List Value} {env : Env} {vars : List Str} {lc : Lc} {p p' : Pos} {d : Nat}
theorem asSeq_rel (R : Rel C ρ σ s) {x : AV} {xs : List AV} {v : Value} (q : VR C ρ s.heap x v) (h : asSeq σ x = some xs) : ∃ a vs, v = .ref a ∧ SeqV C s.heap a vs ∧ VRs C ρ s.heap xs vs := by
  unfold asSeq at h
  split at h
  · (refine c1 h fun hh0 => ?_; clear h; subst hh0)
    cases q with | lst ho hm hs => exact ⟨_, _, rfl, .list ho, hs⟩
  · rename_i l
    obtain ⟨e0⟩ : ∃ p, ρ[l]? = some p ∧ v = .ref p.1 := by cases q with | loc e => exact ⟨_, e, rfl⟩
    (refine x0_2 (‹_›) fun e0 rr1 => ?_; subst rr1)
    split at h
    · rename_i ys hl
      (refine c1 h fun hh0 => ?_; clear h; subst hh0)
      (refine x1_2 (R.obj hl) fun p e1 ob => ?_)
      rw [e0] at e1; cases e1
      cases ob with | list ho hs => exact ⟨_, _, rfl, .list ho, hs⟩
    · rename_i ini ps hl
      (refine c1 h fun hh0 => ?_; clear h; subst hh0)
      (refine x1_2 (R.obj hl) fun p e1 ob => ?_)
      rw [e0] at e1; cases e1
      cases ob with | acc ho hd he hs => exact ⟨_, _, rfl, .acc ho hd, hs⟩
    · exact ns h
  · exact ns h
theorem Subscript_own {value slice : Expr} {Q : Value → Shared → Prop}
    (h : wpAny (model C.prog C.w) A (eval value env) (fun o s₁ => wpAny (model C.prog C.w) A (eval slice env) (fun i s₂ => (∃ id, Looks (model C.prog C.w) s₂.heap (specialOf o "__getitem__") (some (.builtin id))) ∧ wpAny (model C.prog C.w) A (getItem o i) Q E s₂) E s₁) E s) :
    wpAny (model C.prog C.w) A (eval (.Subscript value slice p) env) Q E s := by
  rw [eval_Subscript]
  refine wpAny_bind (wpAny_mono h (fun o s₁ h₁ => wpAny_bind (wpAny_holding (wpAny_mono h₁ (fun i s₂ h₂ => wpAny_bind (wpAny_standAt ?_)) fun uu uu x => x))) fun uu uu x => x)
  obtain ⟨⟨id, L⟩, hg⟩ := h₂
  have L2 : Looks (model C.prog C.w) s₂.heap (getitemInPython o) false := by
    unfold getitemInPython
    exact L.andThen .now
  refine wpAny_bind (L2.here ?_)
  have e : ∃ ws, subscripted slice false o i = operate ws (getItem o i) := by
    unfold subscripted
    split
    · exact ⟨_, rfl⟩
    · rename_i z; cases z
    · exact ⟨_, rfl⟩
  (refine x1_1 (e) fun ws e => ?_)
  rw [e]
  exact wpAny_bind (wpAny_operating (wpAny_mono hg (fun r s₃ h₃ => wpAny_bind (wpAny_letTemporaryGo (wpAny_pure h₃))) fun uu uu x => x))
set_option tactic.hygienic false in
theorem strOk_one {y : Str} {c : Nat} (ok : PyData.strOk y = true) (h : c ∈ y.cps.toList) : PyData.strOk ⟨#[c]⟩ = true := by
  rw [strOk_iff] at ok ⊢
  intro b hb
  have : b = c := by simpa using hb
  subst this
  exact ok b h
theorem den_idx (H : CfgOk C) (HC : ClsOk C) (HA : AccOk C) (HI : ItemOk C) {value slice : Expr} {f g : EM} (D1 : DenE C d env vars value f) (D2 : DenE C d env vars slice g) : DenE C d env vars (.Subscript value slice p) (idxE f g) := by
  intro lc σ y σ' hf A Q E s ρ hA R lr kk
  unfold idxE at hf
  (refine s1 hf ?_; clear hf; intro x σ₁ e1 hf)
  (refine si hf ?_; clear hf; intro i σ₂ e2 hf)
  (refine x1_2 (Option.map_eq_some_iff.mp hf) fun z hz e3 => ?_)
  cases e3
  refine Subscript_own (D1 _ _ _ _ e1 A _ E s ρ hA R lr fun o s₁ ρ₁ R₁ S₁ q₁ => D2 _ _ _ _ e2 A _ E s₁ ρ₁ hA R₁ (lr.go S₁) fun iv s₂ ρ₂ R₂ S₂ q₂ => ?_)
  have q1 := q₁.go S₂
  have fin : ∀ {v s₃}, Rel C ρ₂ σ' s₃ → Step C [] ρ₂ ρ₂ s₂.heap s₃.heap → VR C ρ₂ s₃.heap y v → Q v s₃ := fun R₃ S₃ q₃ => kk _ _ ρ₂ R₃ ((S₁.trans S₂).trans S₃) q₃
  unfold aget at hz
  (refine sf hz ?_; clear hz; intro hi hz)
  refine q₂.int_e fun ti => ?_
  split at hz
  · rename_i yy
    (refine x1_2 (Option.map_eq_some_iff.mp hz) fun c hc e4 => ?_)
    cases e4
    refine q1.str_e fun t ok => ?_
    refine ⟨⟨_, (Looks.of_pure (by rfl)).andThen (Looks.of_pure F.slot_str_getitem.lookup)⟩, P.getItem_str (by rw [decide_eq_false (by (first | lia | omega)), decide_eq_false (by (first | lia | omega))]; rfl) hc (fin R₂.toks .refl (.str _ _ (strOk_one ok ?_)))⟩
    (refine x1_2 (Option.bind_eq_some_iff.mp hc) fun j hj1 hj2 => ?_)
    obtain ⟨hlt, e⟩ := Array.getElem?_eq_some_iff.mp hj2
    exact e ▸ Array.mem_toList_iff.mpr (Array.getElem_mem hlt)
  · rename_i xs
    (refine x1_2 (Option.bind_eq_some_iff.mp hz) fun j hj hx => ?_)
    cases q1 with | @tup a vs n _ ho hm hs =>
    (refine x1_2 (hs.get hx) fun v hv qv => ?_)
    refine ⟨⟨_, ((Looks.ld ho).andThen .now).andThen (Looks.of_pure slot_tuple_getitem.lookup)⟩, getItem_tuple (items := vs.toArray) ⟨_, ho, rfl, _, rfl⟩ (by (first | lia | omega)) (by (first | lia | omega)) (by rw [List.size_toArray, hs.length]; exact hj) (by simpa using hv) (fin R₂ .refl qv)⟩
  · (refine sw hz ?_; clear hz; intro xs hsq hz)
    (refine x1_2 (Option.bind_eq_some_iff.mp hz) fun j hj hx => ?_)
    (refine x2_3 (asSeq_rel R₂ q1 hsq) fun a vs rr2 SV hs => ?_; subst rr2)
    (refine x1_2 (hs.get hx) fun v hv qv => ?_)
    refine ⟨⟨_, SV.special H HA (R₂.kin H)⟩, getItem_seq H HC HA HI (R₂.kin H) SV (get_int SV hi (by rw [hs.length]; exact hj) hv ⟨_, rfl, fin R₂ .refl qv⟩)⟩
end
end Mine.Internal
end
section
open PySem PySem.W PyProof.Rows PySem.Calls
namespace Mine.Internal
noncomputable def slIdx (lo hi : Option Int) (n : Nat) : List Nat := sliceRange (sliceBounds lo hi none n).1 (sliceBounds lo hi none n).2.1 (sliceBounds lo hi none n).2.2
noncomputable def pickL {α : Type} (xs : List α) (ix : List Nat) : List α := ix.filterMap (xs[·]?)
noncomputable def sliceL {α : Type} (xs : List α) (lo hi : Option Int) : List α := pickL xs (slIdx lo hi xs.length)
noncomputable def slLo (lo hi : Option Int) (n : Nat) : Nat := (sliceBounds lo hi none n).1.toNat
noncomputable def slHi (lo hi : Option Int) (n : Nat) : Nat := (max (sliceBounds lo hi none n).1 (sliceBounds lo hi none n).2.1).toNat
noncomputable def setSl {α : Type} (xs new : List α) (lo hi : Option Int) : List α := xs.take (slLo lo hi xs.length) ++ new ++ xs.drop (slHi lo hi xs.length)
noncomputable def optE : Option EM → Lc → St → Option (Option Int × St)
  | none, _, σ => some (none, σ)
  | some f, lc, σ => match f lc σ with
    | some (.int i, σ') => some (some i, σ')
    | _ => none
inductive DenO (C : Cfg) (d : Nat) (env : Env) (vars : List Str) : Option Expr → Option EM → Prop
  | none : DenO C d env vars none none
  | some {e : Expr} {f : EM} (D : DenE C d env vars e f) : DenO C d env vars (some e) (some f)
noncomputable def sliceE (f : EM) (lo hi : Option EM) : EM := fun lc σ => match f lc σ with
  | some (x, σ₁) => match optE lo lc σ₁ with
    | some (a, σ₂) => match optE hi lc σ₂ with
      | some (b, σ₃) => match asSeq σ₃ x with
        | some xs => if xs.length ≤ 1000000 then some (.lst (sliceL xs a b), σ₃) else none
        | none => none
      | none => none
    | none => none
  | none => none
section
variable {C : Cfg} {ρ : Rho} {σ σ' : St} {s : Shared} {A : Around} {E : Value → Shared → Prop} {a : Addr} {vs : List Value} {env : Env} {vars : List Str} {lc : Lc} {p p' : Pos} {d : Nat}
set_option tactic.hygienic false in
theorem VRs.pick {h : Heap} {xs : List AV} {vs : List Value} (q : VRs C ρ h xs vs) : ∀ ix : List Nat, VRs C ρ h (pickL xs ix) (pickL vs ix)
  | [] => .nil
  | i :: ix => by
    unfold pickL
    rw [List.filterMap_cons, List.filterMap_cons]
    cases hx : xs[i]? with
    | some x =>
      (refine x1_2 (q.get hx) fun v hv qv => ?_)
      rw [hv]
      exact .cons qv (q.pick ix)
    | none =>
      have : vs[i]? = none := by
        rw [List.getElem?_eq_none_iff] at hx ⊢
        rw [q.length]; exact hx
      rw [this]
      exact q.pick ix
theorem opt_rel {e : Option Expr} {f : Option EM} (D : DenO C d env vars e f) {x : Option Int} (hf : optE f lc σ = some (x, σ')) {Q : Value → Shared → Prop} (hA : AOk d A) (R : Rel C ρ σ s) (lr : LcR C ρ s.heap env.locals vars lc)
    (k : ∀ v s' ρ', Rel C ρ' σ' s' → Step C [] ρ ρ' s.heap s'.heap → IsPart v x → Q v s') : wpAny (model C.prog C.w) A (evalPart e env) Q E s := by
  cases D with
  | none => cases hf; exact wpAny_pure (k _ _ _ R .refl .none)
  | some D =>
    unfold optE at hf
    split at hf
    · rename_i z; cases z
    · rename_i z; cases z
      (refine si hf ?_; clear hf; intro i σ₁ e1 hf)
      (refine c2 hf fun hh0 hh1 => ?_; clear hf; subst hh0; subst hh1)
      refine D _ _ _ _ e1 A Q E s ρ hA R lr fun v s' ρ' R' S' q' => ?_
      cases q' with | int _ t => exact k _ _ _ R' S' (.int _ _)
set_option tactic.hygienic false in
theorem get_slice {sl : Addr} {vl vu : Value} {lo hi : Option Int} {Q : Fin → Shared → Prop} (S : SeqV C s.heap a vs) (hs : s.heap.IsSliceOf sl vl vu .none) (pl : IsPart vl lo) (pu : IsPart vu hi) (hz : vs.length ≤ sizeLine)
    (k : Q (.done (.ret (.ref s.heap.objs.size))) { s with heap := s.heap.push (lstObj (sliceL vs lo hi) 0) }) :
    wpAny (model C.prog C.w) A (Builtin.«list.__getitem__» ⟨[.ref a, .ref sl], []⟩) Q E s := by
  obtain ⟨o, n, ho, hd, -⟩ := S.obj
  (refine x1_3 (id hs) fun os hos hcs hds => ?_)
  have hTs : s.TypeIs (.ref sl) "slice" := ⟨os, hos, hcs⟩
  show wpAny _ _ (Builtin.List.listSubscript? (.ref sl) >>= _) _ _ s
  refine wpAny_bind ?_
  unfold Builtin.List.listSubscript?
  refine wpAny_bind (wpAny_specialOf hTs slice_no_index ?_)
  simp only [Option.isNone_none, if_true]
  refine wpAny_pure ?_
  show wpAny _ _ (typeOf (.ref sl) >>= _) _ _ s
  refine wpAny_bind (wpAny_typeOf hTs ?_)
  rw [if_neg (by decide)]
  rw [listSliceParts_eq]
  refine wpAny_bind (wpAny_bind (wpAny_field hos hds (x := .none) rfl (wpAny_bind (wpAny_listPart .none ?_))))
  rw [if_neg (by decide)]
  refine wpAny_bind (wpAny_field hos hds (x := vl) rfl (wpAny_bind (wpAny_listPart pl ?_)))
  refine wpAny_bind (wpAny_field hos hds (x := vu) rfl (wpAny_bind (wpAny_listPart pu (wpAny_pure ?_))))
  refine wpAny_bind (m := Builtin.List.listItems (.ref a)) ?_
  unfold Builtin.List.listItems
  refine wpAny_bind (wpAny_seqItems ho hd (wpAny_pure ?_))
  refine wpAny_bind (wpAny_of_eq (sliceIndices_raw lo hi none vs.toArray.size (by simp)) ?_)
  have e : ((sliceRange (sliceBounds lo hi none vs.toArray.size).1 (sliceBounds lo hi none vs.toArray.size).2.1 (sliceBounds lo hi none vs.toArray.size).2.2).filterMap (vs.toArray[·]?)) = sliceL vs lo hi := by
    unfold sliceL pickL slIdx
    rw [List.size_toArray]
    congr 1
    funext i
    simp
  refine wpAny_bind (wpAny_newObj_type ?_ (Nat.le_trans (slicePick_size_le vs.toArray lo hi none) (by simpa using hz)))
  rw [e]
  exact wpAny_pure k
set_option tactic.hygienic false in
theorem den_slice (H : CfgOk C) (HC : ClsOk C) (HA : AccOk C) (HI : ItemOk C) {value : Expr} {lo hi : Option Expr} {f : EM} {fl fh : Option EM} {ps : Pos} (D1 : DenE C d env vars value f) (D2 : DenO C d env vars lo fl) (D3 : DenO C d env vars hi fh) :
    DenE C d env vars (.Subscript value (.Slice lo hi none ps) p) (sliceE f fl fh) := by
  intro lc σ y σ' hf A Q E s ρ hA R lr kk
  unfold sliceE at hf
  (refine s1 hf ?_; clear hf; intro x σ₁ e1 hf)
  (refine sv hf ?_; clear hf; intro ai σ₂ e2 hf)
  (refine sv hf ?_; clear hf; intro bi σ₃ e3 hf)
  (refine sw hf ?_; clear hf; intro xs hsq hf)
  (refine sf hf ?_; clear hf; intro hz hf)
  (refine c2 hf fun hh0 hh1 => ?_; clear hf; subst hh0; subst hh1)
  refine Subscript_own (D1 _ _ _ _ e1 A _ E s ρ hA R lr fun o s₁ ρ₁ R₁ S₁ q₁ => wpAny_Slice ?_)
  refine opt_rel D2 e2 hA R₁ (lr.go S₁) fun vl s₂ ρ₂ R₂ S₂ pl => ?_
  refine opt_rel D3 e3 hA R₂ (lr.go (S₁.trans S₂)) fun vu s₃ ρ₃ R₃ S₃ pu => ?_
  rw [evalPart_none]
  refine wpAny_pure ?_
  have R₄ := R₃.push { cls := .type "slice", data := .fields #[vl, vu, .none] } (n := s₃.toks)
  have S₄ : Step C [] ρ₃ ρ₃ s₃.heap (s₃.heap.push { cls := .type "slice", data := .fields #[vl, vu, .none] }) := .pushObj _
  (refine x2_3 (asSeq_rel R₄ (((q₁.go S₂).go S₃).go S₄) hsq) fun a vs rr2 SV hs => ?_; subst rr2)
  refine ⟨⟨_, SV.special H HA (R₄.kin H)⟩, getItem_seq H HC HA HI (R₄.kin H) SV (get_slice SV (Heap.IsSliceOf.new ..) pl pu (by rw [hs.length]; exact Nat.le_trans hz (by decide)) ⟨_, rfl, ?_⟩)⟩
  have S₅ : Step C [] ρ₃ ρ₃ (s₃.heap.push { cls := .type "slice", data := .fields #[vl, vu, .none] }) ((s₃.heap.push { cls := .type "slice", data := .fields #[vl, vu, .none] }).push (lstObj (sliceL vs ai bi) 0)) := .pushObj _
  refine kk _ _ ρ₃ (R₄.push (lstObj (sliceL vs ai bi) 0) (n := s₃.toks)) ((((S₁.trans S₂).trans S₃).trans S₄).trans S₅) (.lst (vs := sliceL vs ai bi) (n := 0) (Heap.get?_push_size _ rfl) R₄.fresh ?_)
  have pk := (hs.go S₅).pick (slIdx ai bi xs.length)
  have e : pickL vs (slIdx ai bi xs.length) = sliceL vs ai bi := by unfold sliceL; rw [hs.length]
  rw [e] at pk
  exact pk
end
end Mine.Internal
end
section
open PySem PySem.W PyProof.Rows PySem.Calls
namespace Mine.Internal
set_option tactic.hygienic false in
theorem setSl_map {α β : Type} (f : α → β) (xs new : List α) (lo hi : Option Int) : setSl (xs.map f) (new.map f) lo hi = (setSl xs new lo hi).map f := by
  unfold setSl
  simp
set_option tactic.hygienic false in
theorem setSl_len {α : Type} (xs new : List α) (lo hi : Option Int) : (setSl xs new lo hi).length ≤ xs.length + new.length + xs.length := by
  unfold setSl
  simp only [List.length_append, List.length_take, List.length_drop]
  exact Nat.add_le_add (Nat.add_le_add (Nat.min_le_right _ _) (Nat.le_refl _)) (Nat.sub_le _ _)
section
variable {C : Cfg} {ρ : Rho} {σ σ' : St} {s : Shared} {A : Around} {E : Value → Shared → Prop} {a b : Addr} {vs ws : List Value} {env : Env} {vars : List Str} {lc : Lc} {p p' : Pos} {d : Nat}
set_option tactic.hygienic false in
theorem VRs.setSl {h : Heap} {xs new : List AV} {vs ws : List Value} (q : VRs C ρ h xs vs) (q' : VRs C ρ h new ws) (lo hi : Option Int) : VRs C ρ h (setSl xs new lo hi) (setSl vs ws lo hi) := by
  unfold Mine.Internal.setSl
  rw [q.length]
  exact ((q.take _).append q').append (q.drop _)
set_option tactic.hygienic false in
theorem extract_eq {vs ws : List Value} {lo hi : Option Int} : vs.toArray.extract 0 (sliceBounds lo hi none vs.toArray.size).1.toNat ++ ws.toArray ++ vs.toArray.extract (max (sliceBounds lo hi none vs.toArray.size).1 (sliceBounds lo hi none vs.toArray.size).2.1).toNat vs.toArray.size = (setSl vs ws lo hi).toArray := by
  unfold setSl slLo slHi
  rw [List.size_toArray]
  generalize (sliceBounds lo hi none vs.length).1 = x
  generalize (sliceBounds lo hi none vs.length).2.1 = y
  apply Array.toList_inj.mp
  simp [List.take_of_length_le]
set_option tactic.hygienic false in
theorem set_slice {sl : Addr} {vl vu : Value} {lo hi : Option Int} {m : Nat} {Q : Fin → Shared → Prop} {c : Value} {dd : Option Addr} {n : Nat} {slo : Array (Option Value)} (ho : s.heap.get? a = some ⟨c, dd, .seq vs.toArray n, slo⟩) (hb : s.heap.get? b = some (lstObj ws m)) (hab : a ≠ b) (hs : s.heap.IsSliceOf sl vl vu .none) (pl : IsPart vl lo) (pu : IsPart vu hi)
    (hz : vs.length ≤ 1000000) (hw : ws.length ≤ 1000000)
    (k : ∀ h', Heap.SameBut a s.heap h' → (∃ n', h'.get? a = some ⟨c, dd, .seq (setSl vs ws lo hi).toArray n', slo⟩) → Q (.done (.ret .none)) { s with heap := h' }) :
    wpAny (model C.prog C.w) A (Builtin.«list.__setitem__» ⟨[.ref a, .ref sl, .ref b], []⟩) Q E s := by
  (refine x1_3 (id hs) fun os hos hcs hds => ?_)
  have hTs : s.TypeIs (.ref sl) "slice" := ⟨os, hos, hcs⟩
  have hTb : s.TypeIs (.ref b) "list" := ⟨_, hb, rfl⟩
  have hzl : (sizeLine : Nat) = 16777216 := sizeLine_eq
  show wpAny _ _ (Builtin.List.listSubscript? (.ref sl) >>= _) _ _ s
  refine wpAny_bind ?_
  unfold Builtin.List.listSubscript?
  refine wpAny_bind (wpAny_specialOf hTs slice_no_index ?_)
  simp only [Option.isNone_none, if_true]
  refine wpAny_pure ?_
  show wpAny _ _ (typeOf (.ref sl) >>= _) _ _ s
  refine wpAny_bind (wpAny_typeOf hTs ?_)
  rw [if_neg (by decide)]
  rw [listSliceParts_eq]
  refine wpAny_bind (wpAny_bind (wpAny_field hos hds (x := .none) rfl (wpAny_bind (wpAny_listPart .none ?_))))
  rw [if_neg (by decide)]
  refine wpAny_bind (wpAny_field hos hds (x := vl) rfl (wpAny_bind (wpAny_listPart pl ?_)))
  refine wpAny_bind (wpAny_field hos hds (x := vu) rfl (wpAny_bind (wpAny_listPart pu (wpAny_pure ?_))))
  dsimp only
  have same : Builtin.List.listSameRef (.ref a) (.ref b) = false := by
    show (a == b) = false
    exact beq_false_of_ne hab
  rw [same, if_neg Bool.false_ne_true]
  refine wpAny_bind ?_
  unfold Builtin.List.listAllItems
  refine wpAny_bind (wpAny_typeOf hTb ?_)
  rw [if_pos (by decide)]
  unfold Builtin.List.listItems
  refine wpAny_bind (wpAny_seqItems hb rfl (wpAny_pure ?_))
  refine wpAny_bind (wpAny_bind (wpAny_seqItems ho rfl (wpAny_pure ?_)))
  refine wpAny_bind (wpAny_of_eq (sliceIndices_raw lo hi none vs.toArray.size (by simp)) ?_)
  dsimp only
  have st : ((sliceBounds lo hi none vs.toArray.size).2.2 == 1) = true := rfl
  rw [st, if_pos rfl]
  refine wpAny_bind (wpAny_rule ?_)
  have tl : Builtin.List.listTooLong (vs.toArray.size + ws.toArray.size) = false := by
    unfold Builtin.List.listTooLong
    rw [List.size_toArray, List.size_toArray]
    exact decide_eq_false (by (first | lia | omega))
  rw [tl, if_neg Bool.false_ne_true]
  refine wpAny_bind ?_
  show wpAny _ _ (updateSeq a _) _ _ _
  have hz' : (vs.toArray.extract 0 (sliceBounds lo hi none vs.toArray.size).1.toNat ++ ws.toArray ++ vs.toArray.extract (max (sliceBounds lo hi none vs.toArray.size).1 (sliceBounds lo hi none vs.toArray.size).2.1).toNat vs.toArray.size).size ≤ sizeLine + 1 := by
    rw [extract_eq, List.size_toArray]
    have := setSl_len vs ws lo hi
    (first | lia | omega)
  refine wpAny_updateSeq ho rfl ?_ (hz := by rw [List.size_toArray]; (first | lia | omega)) (_hz' := hz')
  refine wpAny_bind (wpAny_letGo (wpAny_pure ?_))
  have gt := mapSeq_at ho (fun xs => xs.extract 0 (sliceBounds lo hi none vs.toArray.size).1.toNat ++ ws.toArray ++ xs.extract (max (sliceBounds lo hi none vs.toArray.size).1 (sliceBounds lo hi none vs.toArray.size).2.1).toNat xs.size)
  have ee := extract_eq (vs := vs) (ws := ws) (lo := lo) (hi := hi)
  rw [ee] at gt
  exact k _ (Heap.SameBut.update ..) ⟨_, gt⟩
end
noncomputable def partsOf : List AV → Option (List (Str × Str))
  | [] => some []
  | x :: xs => match isPart x, partsOf xs with
    | some p, some ps => some (p :: ps)
    | _, _ => none
theorem partsOf_eq : ∀ {xs : List AV} {ps : List (Str × Str)}, partsOf xs = some ps → xs = ps.map partAV
  | [], _, h => by cases h; rfl
  | x :: xs, ps, h => by
    unfold partsOf at h
    split at h
    · rename_i p q e1 e2
      (refine c1 h fun hh0 => ?_; clear h; subst hh0)
      rw [isPart_eq e1, partsOf_eq e2]
      rfl
    · exact ns h
noncomputable def setSlS (g : EM) (lo hi : Option EM) (f : EM) : SM := fun lc σ => match f lc σ with
  | some (v, σ₁) => match g lc σ₁ with
    | some (.loc l, σ₂) => match optE lo lc σ₂ with
      | some (a, σ₃) => match optE hi lc σ₃ with
        | some (b, σ₄) => match σ₄[l]?, asList σ₄ v with
          | some (.acc ini ps), some new => match partsOf new with
            | some qs => if ps.length ≤ 1000000 ∧ qs.length ≤ 1000000 then some (.next, lc, σ₄.set l (.acc ini (setSl ps qs a b))) else none
            | none => none
          | some (.list xs), some new => match v with
            | .lst _ => if xs.length ≤ 1000000 ∧ new.length ≤ 1000000 then some (.next, lc, σ₄.set l (.list (setSl xs new a b))) else none
            | _ => none
          | _, _ => none
        | none => none
      | none => none
    | _ => none
  | none => none
section
variable {C : Cfg} {ρ : Rho} {σ σ' : St} {s : Shared} {A : Around} {E : Value → Shared → Prop} {env : Env} {vars : List Str} {lc : Lc} {p p' ps' : Pos} {d : Nat}
theorem den_setSl (H : CfgOk C) (HC : ClsOk C) (HA : AccOk C) (HI : ItemOk C) {o value : Expr} {lo hi : Option Expr} {f g : EM} {fl fh : Option EM} (D0 : DenE C d env vars value f) (D1 : DenE C d env vars o g) (D2 : DenO C d env vars lo fl) (D3 : DenO C d env vars hi fh)
    (hs : swapsWith value (some (.Subscript o (.Slice lo hi none ps') p')) p.line env = pure false) : DenS C d env vars (.Assign [.Subscript o (.Slice lo hi none ps') p'] value p) (setSlS g fl fh f) := by
  intro lc σ flw lc' σ' hf A Q E s ρ hA R lr kk
  unfold setSlS at hf
  (refine s1 hf ?_; clear hf; intro v σ₁ e1 hf)
  (refine sl hf ?_; clear hf; intro l σ₂ e2 hf)
  (refine sv hf ?_; clear hf; intro ai σ₃ e3 hf)
  (refine sv hf ?_; clear hf; intro bi σ₄ e4 hf)
  refine wpAny_Assign_Subscript (D0 _ _ _ _ e1 A _ E s ρ hA R lr fun vv s₁ ρ₁ R₁ S₁ q₁ => D1 _ _ _ _ e2 A _ E s₁ ρ₁ hA R₁ (lr.go S₁) fun ov s₂ ρ₂ R₂ S₂ q₂ => wpAny_Slice ?_) hs
  refine opt_rel D2 e3 hA R₂ (lr.go (S₁.trans S₂)) fun vl s₃ ρ₃ R₃ S₃ pl => ?_
  refine opt_rel D3 e4 hA R₃ (lr.go ((S₁.trans S₂).trans S₃)) fun vu s₄ ρ₄ R₄ S₄ pu => ?_
  rw [evalPart_none]
  refine wpAny_pure ?_
  have R₅ := R₄.push { cls := .type "slice", data := .fields #[vl, vu, .none] } (n := s₄.toks)
  have S₅ : Step C [] ρ₄ ρ₄ s₄.heap (s₄.heap.push { cls := .type "slice", data := .fields #[vl, vu, .none] }) := .pushObj _
  have qv := (((q₁.go S₂).go S₃).go S₄).go S₅
  have qo := ((q₂.go S₃).go S₄).go S₅
  have ST := (((S₁.trans S₂).trans S₃).trans S₄).trans S₅
  split at hf
  · rename_i ini ps new hl hn
    (refine sb hf ?_; clear hf; intro qs hq hf)
    (refine sf hf ?_; clear hf; intro hz hf)
    (refine c3 hf fun hh0 hh1 hh2 => ?_; clear hf; subst hh0; subst hh1; subst hh2)
    (refine x3_3 (asList_rel R₅ qv hn) fun bb ws m rr3 hb hws => ?_; subst rr3)
    (refine x1_2 (R₅.obj hl) fun pp z1 ob => ?_)
    refine qo.loc_e fun uu e0 => ?_
    rw [e0] at z1; cases z1
    cases ob with | @acc aa dd es n n' vs _ _ ho hd he hvs =>
    have hab : aa ≠ bb := by
      rintro rfl
      rw [ho] at hb; cases hb
    have lv : vs.length = ps.length := by rw [hvs.length, List.length_map]
    have ew := partsOf_eq hq
    have lw : ws.length = qs.length := by rw [hws.length, ew, List.length_map]
    refine setItem_seq H HC HA HI (R₅.kin H) (.acc ho hd) (set_slice ho hb hab (Heap.IsSliceOf.new ..) pl pu (by (first | lia | omega)) (by (first | lia | omega)) fun h' hsb hget => ⟨_, rfl, ?_⟩)
    (refine x1_1 (hget) fun n'' gt => ?_; clear hget)
    have S : Step C [] ρ₄ ρ₄ (s₄.heap.push { cls := .type "slice", data := .fields #[vl, vu, .none] }) h' := stepMut (.inr ⟨_, List.mem_of_getElem? e0, .inl rfl⟩) hsb
    have hne : dd ≠ aa := accNe ho hd
    rw [ew] at hws
    have hv' := (hvs.go S).setSl (hws.go S) ai bi
    rw [setSl_map] at hv'
    (refine x0_2 (R₅.upd (n := s₄.toks) e0 (.inl rfl) hsb (.acc gt ((hsb.2 _ hne).trans hd) (he.go S) hv') rfl) fun R' S' => ?_)
    exact kk _ _ ρ₄ R' (ST.trans S').of_nil (lr.go (ST.trans S')) .next
  · rename_i xs new hl hn
    split at hf
    · rename_i zs
      (refine sf hf ?_; clear hf; intro hz hf)
      (refine c3 hf fun hh0 hh1 hh2 => ?_; clear hf; subst hh0; subst hh1; subst hh2)
      cases qv with | @lst bb ws m _ hb hmb hws =>
      (refine c1 hn fun hh0 => ?_; clear hn; subst hh0)
      (refine x1_2 (R₅.obj hl) fun pp z1 ob => ?_)
      refine qo.loc_e fun uu e0 => ?_
      rw [e0] at z1; cases z1
      cases ob with | @list aa vs n _ ho hvs =>
      have hab : aa ≠ bb := by
        rintro rfl
        exact hmb (.inr ⟨_, List.mem_of_getElem? e0, .inl rfl⟩)
      refine setItem_seq H HC HA HI (R₅.kin H) (.list ho) (set_slice ho hb hab (Heap.IsSliceOf.new ..) pl pu (by rw [hvs.length]; (first | lia | omega)) (by rw [hws.length]; (first | lia | omega)) fun h' hsb hget => ⟨_, rfl, ?_⟩)
      (refine x1_1 (hget) fun n'' gt => ?_; clear hget)
      have S : Step C [] ρ₄ ρ₄ (s₄.heap.push { cls := .type "slice", data := .fields #[vl, vu, .none] }) h' := stepMut (.inr ⟨_, List.mem_of_getElem? e0, .inl rfl⟩) hsb
      (refine x0_2 (R₅.upd (n := s₄.toks) e0 (.inl rfl) hsb (.list gt ((hvs.go S).setSl (hws.go S) ai bi)) rfl) fun R' S' => ?_)
      exact kk _ _ ρ₄ R' (ST.trans S').of_nil (lr.go (ST.trans S')) .next
    · exact ns hf
  · exact ns hf
end
end Mine.Internal
end
section
open PySem PySem.W PyProof.Rows PySem.Calls
namespace Mine.Internal
noncomputable def ainp (op : Operator) (a b : AV) : Option AV := match op, a, b with
  | .Add, .str x, .str y => if x.length + y.length ≤ 1000000 then some (.str (x ++ y)) else none
  | .Add, .int x, .int y => some (.int (x + y))
  | _, _, _ => none
section
variable {C : Cfg} {ρ : Rho} {σ σ' : St} {s : Shared} {A : Around} {E : Value → Shared → Prop} {a : Addr} {vs : List Value} {env : Env} {vars : List Str} {lc : Lc} {p p' : Pos} {d : Nat}
set_option tactic.hygienic false in
theorem ainp_rel {op : Operator} {x y z : AV} {vx vy : Value} {Q : Value → Shared → Prop} (R : Rel C ρ σ s) (qx : VR C ρ s.heap x vx) (qy : VR C ρ s.heap y vy) (h : ainp op x y = some z)
    (k : ∀ v s', Rel C ρ σ s' → Step C [] ρ ρ s.heap s'.heap → VR C ρ s'.heap z v → Q v s') : wpAny (model C.prog C.w) A (inplaceOp op vx vy) Q E s := by
  unfold ainp at h
  split at h
  · (refine sf h ?_; clear h; intro hz h)
    (refine c1 h fun hh0 => ?_; clear h; subst hh0)
    exact qx.str_e fun uu o1 => qy.str_e fun uu o2 => PyProof.Rows.iadd_str (fun t' tk => k _ _ R.toks .refl (.str _ _ (strOk_append o1 o2))) (Nat.le_trans hz (by decide))
  · (refine c1 h fun hh0 => ?_; clear h; subst hh0)
    exact qx.int_e fun uu => qy.int_e fun uu => wpAny_iadd_int (k _ _ R.toks .refl (.int _ _))
  · exact ns h
noncomputable def augS (i : Nat) (op : Operator) (f : EM) : SM := fun lc σ => match (lc[i]? : Option (Option AV)) with
  | some (some x) => match f lc σ with
    | some (y, σ₁) => match ainp op x y with
      | some z => (putL lc i z).map (.next, ·, σ₁)
      | none => none
    | none => none
  | _ => none
theorem set_int {i : Int} {t : Tok} {v : Value} {j : Nat} {Q : Fin → Shared → Prop} {c : Value} {dd : Option Addr} {n : Nat} {slo : Array (Option Value)} (ho : s.heap.get? a = some ⟨c, dd, .seq vs.toArray n, slo⟩) (hi : -1000000000 ≤ i ∧ i < 1000000000) (hj : seqIndex? i vs.length = some j) (hlt : j < vs.length)
    (k : ∀ h', Heap.SameBut a s.heap h' → (∃ n', h'.get? a = some ⟨c, dd, .seq (vs.set j v).toArray n', slo⟩) → Q (.done (.ret .none)) { s with heap := h' }) :
    wpAny (model C.prog C.w) A (Builtin.«list.__setitem__» ⟨[.ref a, .int i t, v], []⟩) Q E s := by
  have hf : Builtin.List.listFitsIndex i = true := by
    unfold Builtin.List.listFitsIndex
    simp only [Bool.and_eq_true, decide_eq_true_eq]
    (first | lia | omega)
  have x := List.getElem?_eq_getElem hlt
  have fin : ∀ (B : Sem Fin), B = (do setSeqItemAt a j v; pure (.done (.ret .none))) → wpAny (model C.prog C.w) A B Q E s := by
    rintro B rfl
    refine wpAny_bind (wpAny_setSeqItemAt ho rfl (wpAny_pure ?_))
    have gt := mapSeq_at ho (fun xs => xs.setIfInBounds j v)
    have e : vs.toArray.setIfInBounds j v = (vs.set j v).toArray := by simp
    rw [e] at gt
    exact k _ (Heap.SameBut.update ..) ⟨_, gt⟩
  show wpAny _ _ (Builtin.List.listSubscript? (.int i t) >>= _) _ _ s
  refine wpAny_bind (wpAny_listSubscript_int hf ?_)
  dsimp only
  have hx : vs.toArray[j]? = some vs[j] := by simpa using x
  cases i with
  | ofNat m =>
    have e : seqIndex? (Int.ofNat m) vs.length = some m ∨ seqIndex? (Int.ofNat m) vs.length = none := by
      unfold seqIndex?
      dsimp only
      split
      · rename_i h0; exact absurd h0 (by simp)
      · split
        · exact .inl rfl
        · exact .inr rfl
    have : j = m := by
      rcases e with e | e
      · rw [e] at hj; cases hj; rfl
      · rw [e] at hj; cases hj
    subst this
    show wpAny _ _ ((seqItemAt a j >>= _) >>= _) _ _ _
    refine wpAny_bind (wpAny_bind (wpAny_seqItemAt ho rfl ?_))
    rw [hx]
    exact wpAny_pure (fin _ rfl)
  | negSucc m =>
    show wpAny _ _ ((Builtin.List.listItems (.ref a) >>= _) >>= _) _ _ _
    unfold Builtin.List.listItems
    refine wpAny_bind (wpAny_bind (wpAny_bind (wpAny_seqItems ho rfl (wpAny_pure ?_))))
    rw [List.size_toArray, hj]
    dsimp only [Option.bind_some]
    rw [hx]
    exact wpAny_pure (fin _ rfl)
noncomputable def augIdxS (g ix : EM) (op : Operator) (f : EM) : SM := fun lc σ => match g lc σ with
  | some (.loc l, σ₁) => match ix lc σ₁ with
    | some (.int i, σ₂) => match aget σ₂ (.loc l) i with
      | some x => match f lc σ₂ with
        | some (y, σ₃) => match ainp op x y with
          | some z => match σ₃[l]? with
            | some (.list xs) => if -1000000000 ≤ i ∧ i < 1000000000 then (match seqIndex? i xs.length with
              | some j => if j < xs.length then some (.next, lc, σ₃.set l (.list (xs.set j z))) else none
              | none => none) else none
            | _ => none
          | none => none
        | none => none
      | none => none
    | _ => none
  | _ => none
set_option tactic.hygienic false in
theorem VRs.set {h : Heap} {xs : List AV} {vs : List Value} (q : VRs C ρ h xs vs) {j : Nat} {x : AV} {v : Value} (qx : VR C ρ h x v) : VRs C ρ h (xs.set j x) (vs.set j v) := by
  refine q.ind (P := fun xs vs => ∀ j, VRs C ρ h (xs.set j x) (vs.set j v)) (fun uu => .nil) (fun a b ih j => ?_) j
  cases j with
  | zero => exact .cons qx b
  | succ j => exact .cons a (ih j)
theorem den_augIdx (H : CfgOk C) (HC : ClsOk C) (HA : AccOk C) (HI : ItemOk C) {o i value : Expr} {op : Operator} {g ix f : EM} (D1 : DenE C d env vars o g) (D2 : DenE C d env vars i ix) (D3 : DenE C d env vars value f)
    (hst : ∀ ov iv new, augStore i ov iv new = (do holding [new, ov, iv] (setItem ov iv new); release [new, ov, iv] []; pure .next)) :
    DenS C d env vars (.AugAssign (.Subscript o i p') op value p) (augIdxS g ix op f) := by
  intro lc σ fl lc' σ' hf A Q E s ρ hA R lr kk
  unfold augIdxS at hf
  (refine sl hf ?_; clear hf; intro l σ₁ e1 hf)
  (refine si hf ?_; clear hf; intro iv σ₂ e2 hf)
  (refine sx hf ?_; clear hf; intro x hx hf)
  (refine s1 hf ?_; clear hf; intro y σ₃ e3 hf)
  (refine sx hf ?_; clear hf; intro z hz hf)
  (refine sq hf ?_; clear hf; intro xs hl hf)
  (refine sf hf ?_; clear hf; intro hi hf)
  split at hf
  · rename_i j hj
    (refine sf hf ?_; clear hf; intro hlt hf)
    (refine c3 hf fun hh0 hh1 hh2 => ?_; clear hf; subst hh0; subst hh1; subst hh2)
    refine wpAny_AugAssign_SubscriptAny (D1 _ _ _ _ e1 A _ E s ρ hA R lr fun ov s₁ ρ₁ R₁ S₁ q₁ => D2 _ _ _ _ e2 A _ E s₁ ρ₁ hA R₁ (lr.go S₁) fun vi s₂ ρ₂ R₂ S₂ q₂ => ?_) hst
    refine q₂.int_e fun ti => ?_
    have qo := q₁.go S₂
    unfold aget at hx
    rw [if_pos hi] at hx
    dsimp only at hx
    (refine sw hx ?_; clear hx; intro ys hsq hx)
    (refine x1_2 (Option.bind_eq_some_iff.mp hx) fun j' hj' hx' => ?_)
    (refine x2_3 (asSeq_rel R₂ qo hsq) fun a vs rr2 SV hs => ?_; subst rr2)
    (refine x1_2 (hs.get hx') fun v hv qv => ?_)
    refine getItem_seq H HC HA HI (R₂.kin H) SV (get_int SV hi (by rw [hs.length]; exact hj') hv ⟨_, rfl, ?_⟩)
    refine D3 _ _ _ _ e3 A _ E s₂ ρ₂ hA R₂ (lr.go (S₁.trans S₂)) fun w s₃ ρ₃ R₃ S₃ q₃ => ?_
    refine ainp_rel R₃ (qv.go S₃) q₃ hz fun u s₄ R₄ S₄ q₄ => ?_
    have qo' := (qo.go S₃).go S₄
    (refine x1_2 (R₄.obj hl) fun pp z1 ob => ?_)
    have ⟨pp', z2, z3⟩ : ∃ pp, ρ₃[l]? = some pp ∧ Value.ref a = .ref pp.1 := by cases qo' with | loc e => exact ⟨_, e, rfl⟩
    rw [z2] at z1; cases z1
    cases ob with | @list aa vs' n _ ho hvs =>
    cases z3
    refine setItem_seq H HC HA HI (R₄.kin H) (.list ho) (set_int ho hi (by rw [hvs.length]; exact hj) (by rw [hvs.length]; exact hlt) fun h' hsb hget => ⟨_, rfl, ?_⟩)
    (refine x1_1 (hget) fun n'' gt => ?_; clear hget)
    have S : Step C [] ρ₃ ρ₃ s₄.heap h' := stepMut (.inr ⟨_, List.mem_of_getElem? z2, .inl rfl⟩) hsb
    (refine x0_2 (R₄.upd (n := s₄.toks) z2 (.inl rfl) hsb (.list gt ((hvs.go S).set (q₄.go S))) rfl) fun R' S' => ?_)
    have ST := (((S₁.trans S₂).trans S₃).trans S₄).trans S'
    exact kk _ _ ρ₃ R' ST.of_nil (lr.go ST) .next
  · exact ns hf
end
end Mine.Internal
end
section
open PySem PySem.W PyProof.Rows PySem.Calls
namespace Mine.Internal
section
variable {C : Cfg} {ρ : Rho} {σ σ' : St} {s : Shared} {A : Around} {E : Value → Shared → Prop} {a : Addr} {vs : List Value} {env : Env} {vars : List Str} {lc : Lc} {p p' pt : Pos} {d : Nat}
set_option tactic.hygienic false in
theorem stop_iter {h : Heap} {it : Addr} {o : Obj} {fs : Array Value} {g : Array GenState} {dr : Drawn} {t : Nat} {os : OsState} {Q : Option Value → Shared → Prop} (hh : A.handled = none) (ho : h.get? it = some o) (hd : o.data = .fields fs) (h0 : 0 < fs.size) (r : String)
    (hQ : ∀ h', Heap.ExtBut it h h' → h.objs.size ≤ h'.objs.size → Q none ⟨h', g, dr, t, os⟩) :
    wpAny (model C.prog C.w) A.in1 (do rule r; setField (.ref it) 0 .none; raiseNew (← newExc (.type "StopIteration") [])) (fun fin s' => ∃ v, fin = Fin.done (.ret v) ∧ wpAny (model C.prog C.w) A (pure (some v) : Sem (Option Value)) Q E s')
      (fun e s' => wpAny (model C.prog C.w) A (do if ← isInstance e (.type "StopIteration") then pure none else throw e) Q E s') ⟨h, g, dr, t, os⟩ := by
  refine wpAny_bind (wpAny_rule (wpAny_bind (wpAny_setField ho hd h0 ?_)))
  show wpAny _ _ (newExc (.type "StopIteration") [] >>= _) _ _ _
  refine wpAny_bind ?_
  simp only [newExc, newTuple]
  refine wpAny_bind (wpAny_newObj_type ?_ (by size_fits))
  refine wpAny_bind (m := firstArgMember _ _) (wpAny_of_eq (a := Value.none) (by first | rfl | (simp only [firstArgMember]; rfl)) ?_)
  refine wpAny_newObj_type ?_ (by size_fits)
  simp only [raiseNew]
  refine wpAny_bind (wpAny_handled ?_)
  rw [show A.in1.handled = none from hh]
  refine wpAny_bind (wpAny_pure (wpAny_throw ?_))
  refine wpAny_bind (wpAny_isInstance (T := "StopIteration") (b := true) ⟨_, Heap.get?_push_size _ rfl, rfl⟩ isSubtype_stop ?_)
  refine wpAny_pure (hQ _ (((Heap.SameBut.update ..).extBut.push _).push _) ?_)
  rw [Heap.size_push, Heap.size_push, Heap.size_after_update]
  (first | lia | omega)
set_option tactic.hygienic false in
theorem tuple_end {it l : Addr} {i : Nat} {items} {Q : Option Value → Shared → Prop} (hh : A.handled = none) (hit : s.heap.IsTupleIter it l i) (hl : s.heap.IsTuple l items) (hx : items[i]? = none)
    (hQ : ∀ h', Heap.ExtBut it s.heap h' → s.heap.objs.size ≤ h'.objs.size → Q none { s with heap := h' }) : wpAny (model C.prog C.w) A (pyNext (.ref it)) Q E s := by
  (refine x1_3 (id hit) fun o ho hc hd => ?_)
  obtain ⟨ol, hol, _, nl, hdl⟩ := hl
  unfold pyNext
  refine wpAny_bind (wpAny_attempt (wpAny_callSpecial?_slot (name := Str.ofString "__next__") hit.typeIs F.slot_tuple_iterator_next
    (wpAny_call_entry F.slot_tuple_iterator_next hit.typeIs F.entry_tuple_iterator_next ?_ (F.args_tuple_iterator_next_1 _))))
  show wpAny _ _ (field (.ref it) 0 >>= _) _ _ s
  refine wpAny_bind (wpAny_field ho hd (x := .ref l) rfl ?_)
  show wpAny _ _ (if (Value.ref l == Value.none) = true then _ else _) _ _ s
  rw [if_neg (show ¬ ((Value.ref l == Value.none) = true) from Bool.false_ne_true)]
  show wpAny _ _ (field (.ref it) 1 >>= _) _ _ s
  refine wpAny_bind (wpAny_field ho hd (x := .int i 0) rfl ?_)
  show wpAny _ _ (seqItems? (.ref l) >>= _) _ _ s
  refine wpAny_bind (wpAny_seqItems hol hdl ?_)
  simp only [Int.toNat_natCast, hx]
  obtain ⟨hp, g, dr, t, os⟩ := s
  exact stop_iter hh ho hd (by simp) _ hQ
set_option tactic.hygienic false in
theorem unpack_tuple {t : Addr} {items : Array Value} {Q : List Value → Shared → Prop} (hh : A.handled = none) (ht : s.heap.IsTuple t items)
    (hQ : ∀ h', (∀ b o, s.heap.get? b = some o → h'.get? b = some o) → s.heap.objs.size ≤ h'.objs.size → Q items.toList { s with heap := h' }) : wpAny (model C.prog C.w) A (unpackItems (.ref t) items.size none) Q E s := by
  have hlt : t ≠ s.heap.objs.size := by (refine x1_2 (ht) fun o ho uu => ?_; clear ht); exact Nat.ne_of_lt (Heap.lt_size ho)
  unfold unpackItems
  refine wpAny_bind ?_
  unfold notIterableAtAll
  refine wpAny_bind (wpAny_specialOf ht.typeIs F.slot_tuple_iter.lookup ?_)
  refine wpAny_pure ?_
  simp only [Bool.false_eq_true, if_false]
  refine wpAny_bind (wpAny_holding (wpAny_pyIter_tuple ht ?_))
  refine wpAny_bind (wpAny_holding (wpAny_draw_tuple hlt items.size 0 _ _ ⟨_, Heap.get?_push_size _ rfl, rfl, rfl⟩ (ht.push _) (by (first | lia | omega)) fun h₁ hit₁ hs₁ => ?_))
  have hall : List.take items.size (List.drop 0 items.toList) = items.toList := by
    rw [List.drop_zero]; exact List.take_of_length_le (by simp)
  rw [hall]
  rw [if_neg (by simp)]
  have ht₁ : h₁.IsTuple t items := (ht.push _).extBut hs₁.extBut hlt
  refine wpAny_bind (wpAny_holding (tuple_end hh hit₁ ht₁ (by simp) fun h₂ he₂ z₂ => ?_))
  simp only [Option.isSome_none, Bool.false_eq_true, if_false]
  have z1 : h₁.objs.size = s.heap.objs.size + 1 := by rw [hs₁.1]; exact Heap.size_push ..
  refine wpAny_pure (hQ h₂ (fun b o e => ?_) (by have : h₁.objs.size ≤ h₂.objs.size := z₂; (first | lia | omega)))
  have hb : b ≠ s.heap.objs.size := Nat.ne_of_lt (Heap.lt_size e)
  exact he₂ b o hb (hs₁.extBut b o hb (Heap.get?_push_of_some _ e))
noncomputable def unpS (i j : Nat) (f : EM) : SM := fun lc σ => match f lc σ with
  | some (.tup [x, y], σ₁) => match putL lc i x with
    | some lc₁ => (putL lc₁ j y).map (.next, ·, σ₁)
    | none => none
  | _ => none
set_option tactic.hygienic false in
theorem store_two (He : EnvOk env vars) {i j : Nat} {n m : Str} (hi : vars[i]? = some n) (hj : vars[j]? = some m) {lc lc₁ lc₂ : Lc} {x y : AV} {v w : Value} (h1 : putL lc i x = some lc₁) (h2 : putL lc₁ j y = some lc₂) {k0 : Nat} {t : Addr} {nn : Nat} {pa pb : Pos} (hh : A.handled = none) (R : Rel C ρ σ s) (lr : LcR C ρ s.heap env.locals vars lc)
    (ho : s.heap.get? t = some (tupObj [v, w] nn)) (qx : VR C ρ s.heap x v) (qy : VR C ρ s.heap y w) {Q : Unit → Shared → Prop}
    (k : ∀ s', Rel C ρ σ s' → Step C [env.locals] ρ ρ s.heap s'.heap → LcR C ρ s'.heap env.locals vars lc₂ → Q () s') : wpAny (model C.prog C.w) A (assign (.Tuple [.Name n pa, .Name m pb] k0 pt) env (.ref t)) Q E s := by
  rw [arm_assign_Tuple]
  refine wpAny_bind (wpAny_standAt ?_)
  unfold unpack
  refine wpAny_bind (wpAny_holding (unpack_tuple (items := #[v, w]) hh ⟨_, ho, rfl, _, rfl⟩ fun h' kp z => ?_))
  have R' : Rel C ρ σ { s with heap := h' } := R.same kp z R.gens rfl rfl
  have S' : Step C [] ρ ρ s.heap h' := .same kp z
  show wpAny _ _ (do holding [w] (assign (.Name n pa) env v); do holding [] (assign (.Name m pb) env w); pure ()) _ _ _
  refine wpAny_bind (wpAny_holding (wpAny_assign_Name (store_name He hi h1 R' (lr.go S') (qx.go S') fun s₁ R₁ S₁ l₁ => ?_)))
  have nsW : ∀ a o vs n, a ∈ [env.locals] → h'.get? a = some o → o.data ≠ .seq vs n := ns_noSeq (lr.go S').1.choose_spec.1
  refine wpAny_bind (wpAny_holding (wpAny_assign_Name (store_name He hj h2 R₁ l₁ ((qy.go S').step S₁ nsW) fun s₂ R₂ S₂ l₂ => wpAny_pure ?_)))
  exact k s₂ R₂ ((S'.of_nil.trans S₁).trans S₂) l₂
end
end Mine.Internal
end
section
open PySem PySem.W PyProof.Rows PySem.Calls
namespace Mine.Internal
noncomputable def loopS (nx : St → Nat → Option (Option AV)) (st : Lc → AV → Option Lc) (B O : SM) : Nat → Nat → SM
  | 0, _, _, _ => none
  | fuel + 1, i, lc, σ => match nx σ i with
    | some (some x) => match st lc x with
      | some lc₁ => match B lc₁ σ with
        | some (.next, lc₂, σ₂) => loopS nx st B O fuel (i + 1) lc₂ σ₂
        | some (.cont, lc₂, σ₂) => loopS nx st B O fuel (i + 1) lc₂ σ₂
        | some (.brk, lc₂, σ₂) => some (.next, lc₂, σ₂)
        | some (.ret v, lc₂, σ₂) => some (.ret v, lc₂, σ₂)
        | none => none
      | none => none
    | some none => O lc σ
    | none => none
structure LoopAt (C : Cfg) (env : Env) (vars : List Str) (Is : List Addr) (nx : St → Nat → Option (Option AV)) (st : Lc → AV → Option Lc) (B O : SM) (Inv : Nat → Rho → Heap → Prop) (r : Fl × Lc × St) (ρ : Rho) (h : Heap) (n i : Nat) (lc : Lc) (σ : St) (ρ₁ : Rho) (u : Shared) : Prop where
  run : loopS nx st B O n i lc σ = some r
  R : Rel C ρ₁ σ u
  l : LcR C ρ₁ u.heap env.locals vars lc
  I : Inv i ρ₁ u.heap
  m : ∀ J ∈ Is, ¬ Mut C ρ₁ J
  S : Step C (env.locals :: Is) ρ ρ₁ h u.heap
section
variable {C : Cfg} {ρ ρ' : Rho} {σ σ' : St} {s : Shared} {A : Around} {E : Value → Shared → Prop} {env : Env} {vars : List Str} {lc : Lc} {d : Nat}
set_option tactic.hygienic false in
theorem Rel.iter (R : Rel C ρ σ s) {I : Addr} {o : Obj} {h' : Heap} {n : Nat} (ho : s.heap.get? I = some o) (hno : ∀ vs n, o.data ≠ .seq vs n) (hcl : o.cls ≠ .type "code") (hm : ¬ Mut C ρ I) (hl : C.s₁.heap.objs.size ≤ I)
    (k : ∀ b o, b ≠ I → s.heap.get? b = some o → h'.get? b = some o) (z : s.heap.objs.size ≤ h'.objs.size) : Rel C ρ σ { s with heap := h', toks := n } ∧ Step C [I] ρ ρ s.heap h' := by
  have S : Step C [I] ρ ρ s.heap h' := ⟨z, fun b o e uu w => k b o (by simpa using w) e, [], by simp, fun uu hp => nomatch hp⟩
  have W : ∀ a o vs n, a ∈ [I] → s.heap.get? a = some o → o.data ≠ .seq vs n := by
    intro a o' vs n ha e
    cases List.mem_singleton.mp ha
    rw [ho] at e; cases e
    exact hno vs n
  have own : ∀ {p : Addr × Addr} {l : Nat}, ρ[l]? = some p → p.1 ≠ I ∧ p.2 ≠ I := fun {p l} e => ⟨fun z => hm (.inr ⟨p, List.mem_of_getElem? e, .inl z⟩), fun z => hm (.inr ⟨p, List.mem_of_getElem? e, .inr z⟩)⟩
  refine ⟨⟨fun b o e nt => ?_, fun t ht => ?_, R.lo, R.dis, R.len, fun l p o e e' => ?_, R.gens.heap (fun uu uu uu e uu uu o ho => k _ o (own e).1 ho), R.drawn, R.os, Nat.le_trans R.size z⟩, S⟩
  · exact k b o (Nat.ne_of_lt (Nat.lt_of_lt_of_le (Heap.lt_size e) hl)) (R.old b o e nt)
  · (refine x1_2 (R.tab t ht) fun more a b => ?_)
    have hP : t.2.1 ≠ I := fun z => hm (.inl (List.mem_map.mpr ⟨t, ht, z⟩))
    have hc : t.1 ≠ I := by
      obtain ⟨⟨o', vs, ho', hcls, _⟩, _⟩ := b
      intro z
      rw [z, ho] at ho'
      (refine c1 ho' fun hh0 => ?_; clear ho'; subst hh0)
      exact hcl hcls
    exact ⟨more, a.extBut (fun b o hb e => k b o hb e) hc hP, b.extBut (fun b o hb e => k b o hb e) hc hP⟩
  · have q := R.st l p o e e'
    have := own e
    cases q with
    | list ho hs' => exact .list (k _ _ this.1 ho) (hs'.step S W)
    | fmt ho hd he => exact .fmt (k _ _ this.1 ho) (k _ _ this.2 hd) (he.step S W)
    | acc ho hd he hs' => exact .acc (k _ _ this.1 ho) (k _ _ this.2 hd) (he.step S W) (hs'.step S W)
    | ghost ho => exact .ghost (k _ _ this.1 ho)
    | out ho => exact .out (k _ _ this.1 ho)
    | gen ho hL => exact .gen (k _ _ this.1 ho) (hL.keep fun o e => k _ _ this.2 e)
set_option tactic.hygienic false in
theorem LcR.iter {I L : Addr} {h h' : Heap} {o : Obj} (q : LcR C ρ h L vars lc) (S : Step C [I] ρ ρ h h') (hne : L ≠ I) (ho : h.get? I = some o) (hno : ∀ vs n, o.data ≠ .seq vs n) : LcR C ρ h' L vars lc := by
  have W : ∀ a o vs n, a ∈ [I] → h.get? a = some o → o.data ≠ .seq vs n := by
    intro a o' vs n ha e
    cases List.mem_singleton.mp ha
    rw [ho] at e; cases e
    exact hno vs n
  obtain ⟨⟨m, hn, hv⟩, hm, hl, hz⟩ := q
  refine ⟨⟨m, hn.at fun o e => S.keep _ _ e hm (by simpa using hne), fun i x e => ?_⟩, hm, hl, hz⟩
  (refine x2_3 (hv i x e) fun n v a b c => ?_)
  exact ⟨n, v, a, b, c.step S W⟩
structure IterOk (C : Cfg) (d : Nat) (env : Env) (vars : List Str) (I : Addr) (Is : List Addr) (target : Expr) (nx : St → Nat → Option (Option AV)) (st : Lc → AV → Option Lc) (Inv : Nat → Rho → Heap → Prop) : Prop where
  keep : ∀ i ρ ρ' h h', Inv i ρ h → (∀ J ∈ Is, ¬ Mut C ρ J) → (∀ a o vs n, a ∈ [env.locals] → h.get? a = some o → o.data ≠ .seq vs n) → Step C [env.locals] ρ ρ' h h' → Inv i ρ' h'
  here : ∀ i ρ h, Inv i ρ h → ∀ J ∈ Is, ∃ o, h.get? J = some o
  next : ∀ (A : Around) i lc lc₁ σ ρ s x (Q : Shared → Prop) (E' : Value → Shared → Prop), AOk d A → Rel C ρ σ s → LcR C ρ s.heap env.locals vars lc → Inv i ρ s.heap → (∀ J ∈ Is, ¬ Mut C ρ J) → nx σ i = some (some x) → st lc x = some lc₁ →
    (∀ s', Rel C ρ σ s' → Step C (env.locals :: Is) ρ ρ s.heap s'.heap → LcR C ρ s'.heap env.locals vars lc₁ → Inv (i + 1) ρ s'.heap → Q s') →
    wpAny (model C.prog C.w) A (pyNext (.ref I)) (fun r s₁ => ∃ v, r = some v ∧ wpAny (model C.prog C.w) A (letOwnedTupleGo target (.ref I) v) (fun _ s₁' => wpAny (model C.prog C.w) A (assign target env v) (fun _ s₂ => Q s₂) E' s₁') E' s₁) E' s
  stop : ∀ (A : Around) i lc σ ρ s (Q : Shared → Prop) (E' : Value → Shared → Prop), AOk d A → Rel C ρ σ s → LcR C ρ s.heap env.locals vars lc → Inv i ρ s.heap → (∀ J ∈ Is, ¬ Mut C ρ J) → nx σ i = some none →
    (∀ s', Rel C ρ σ s' → Step C (env.locals :: Is) ρ ρ s.heap s'.heap → LcR C ρ s'.heap env.locals vars lc → Q s') →
    wpAny (model C.prog C.w) A (pyNext (.ref I)) (fun r s₁ => r = none ∧ Q s₁) E' s
theorem loop_turn {I : Addr} {Is : List Addr} {target : Expr} {body : List Stmt} {nx : St → Nat → Option (Option AV)} {st : Lc → AV → Option Lc} {B O : SM} {Inv : Nat → Rho → Heap → Prop} (IT : IterOk C d env vars I Is target nx st Inv) (DB : DenB C d env vars body B) (hA : AOk d A)
    {n i : Nat} {fl : Fl} {lc lc₁ lc' : Lc} {σ₁ : St} {ρ₁ : Rho} {u s₂ : Shared} (L : LoopAt C env vars Is nx st B O Inv (fl, lc', σ') ρ s.heap (n + 1) i lc σ₁ ρ₁ u) (R₂ : Rel C ρ₁ σ₁ s₂) (S₂ : Step C (env.locals :: Is) ρ₁ ρ₁ u.heap s₂.heap) (l₂ : LcR C ρ₁ s₂.heap env.locals vars lc₁) (I₂ : Inv (i + 1) ρ₁ s₂.heap)
    (hf : (match B lc₁ σ₁ with
      | some (.next, lc₂, σ₂) => loopS nx st B O n (i + 1) lc₂ σ₂
      | some (.cont, lc₂, σ₂) => loopS nx st B O n (i + 1) lc₂ σ₂
      | some (.brk, lc₂, σ₂) => some (.next, lc₂, σ₂)
      | some (.ret v, lc₂, σ₂) => some (.ret v, lc₂, σ₂)
      | none => none) = some (fl, lc', σ')) {P : Result → Shared → Prop} {E' : Value → Shared → Prop}
    (k : ∀ w s' ρ', Rel C ρ' σ' s' → Step C (env.locals :: Is) ρ ρ' s.heap s'.heap → LcR C ρ' s'.heap env.locals vars lc' → FlR C ρ' s'.heap fl w → P (.ok w) s') :
    wpAny (model C.prog C.w) A (execs body env) (fun f s₃ => match f with
      | .next => ∃ m, m < n + 1 ∧ ∃ i lc σ₁ ρ₁, LoopAt C env vars Is nx st B O Inv (fl, lc', σ') ρ s.heap m i lc σ₁ ρ₁ s₃
      | .cont => ∃ m, m < n + 1 ∧ ∃ i lc σ₁ ρ₁, LoopAt C env vars Is nx st B O Inv (fl, lc', σ') ρ s.heap m i lc σ₁ ρ₁ s₃
      | .brk => P (.ok .next) s₃
      | .ret v => P (.ok (.ret v)) s₃) E' s₂ := by
  cases hB : B lc₁ σ₁ with
  | none => rw [hB] at hf; cases hf
  | some r =>
    obtain ⟨f1, lc₂, σ₂⟩ := r
    rw [hB] at hf
    refine DB _ _ _ _ _ hB A _ _ s₂ ρ₁ hA R₂ l₂ fun w s₃ ρ₃ R₃ S₃ l₃ q₃ => ?_
    have ST := (L.S.trans S₂).trans (S₃.weaken (W' := env.locals :: Is) fun a ha => by rw [List.mem_singleton.mp ha]; exact List.mem_cons_self)
    have more : loopS nx st B O n (i + 1) lc₂ σ₂ = some (fl, lc', σ') → ∃ m, m < n + 1 ∧ ∃ i lc σ₁ ρ₁, LoopAt C env vars Is nx st B O Inv (fl, lc', σ') ρ s.heap m i lc σ₁ ρ₁ s₃ :=
      fun hf' => ⟨n, Nat.lt_succ_self _, i + 1, lc₂, σ₂, ρ₃, hf', R₃, l₃, IT.keep _ _ _ _ _ I₂ L.m (ns_noSeq l₂.1.choose_spec.1) S₃, (fun J hJ => let ⟨o, ho⟩ := IT.here _ _ _ I₂ J hJ; Mut.grow S₃ (Heap.lt_size ho) (L.m J hJ)), ST⟩
    cases f1 with
    | next => cases q₃; exact more hf
    | cont => cases q₃; exact more hf
    | brk => cases q₃; cases hf; exact k _ _ ρ₃ R₃ ST l₃ .next
    | ret v => cases q₃ with | ret q => cases hf; exact k _ _ ρ₃ R₃ ST l₃ (.ret q)
theorem loop_rel {I : Addr} {Is : List Addr} {target : Expr} {body orelse : List Stmt} {nx : St → Nat → Option (Option AV)} {st : Lc → AV → Option Lc} {B O : SM} {Inv : Nat → Rho → Heap → Prop} (IT : IterOk C d env vars I Is target nx st Inv) (DB : DenB C d env vars body B) (DO : DenB C d env vars orelse O) (hA : AOk d A)
    {fuel i : Nat} {fl : Fl} {lc' : Lc} (hf : loopS nx st B O fuel i lc σ = some (fl, lc', σ')) (R : Rel C ρ σ s) (lr : LcR C ρ s.heap env.locals vars lc) (hI : Inv i ρ s.heap) (hm : ∀ J ∈ Is, ¬ Mut C ρ J) {P : Result → Shared → Prop}
    (k : ∀ w s' ρ', Rel C ρ' σ' s' → Step C (env.locals :: Is) ρ ρ' s.heap s'.heap → LcR C ρ' s'.heap env.locals vars lc' → FlR C ρ' s'.heap fl w → P (.ok w) s') :
    codeAny (model C.prog C.w) A (.forLoop target (.ref I) body orelse env) P s := by
  refine codeAny_forLoop_any (fun n u => ∃ i lc σ₁ ρ₁, LoopAt C env vars Is nx st B O Inv (fl, lc', σ') ρ s.heap n i lc σ₁ ρ₁ u) ?_ fuel ⟨i, lc, σ, ρ, hf, R, lr, hI, hm, .refl⟩
  rintro n u ⟨i, lc, σ₁, ρ₁, L⟩
  cases n with
  | zero => have hf := L.run; unfold loopS at hf; cases hf
  | succ n =>
    have hf := L.run
    unfold loopS at hf
    split at hf
    · rename_i x hx
      (refine sy hf ?_; clear hf; intro lc₁ hst hf)
      refine wpAny_mono (IT.next A i lc lc₁ σ₁ ρ₁ u x (fun s₂ => Rel C ρ₁ σ₁ s₂ ∧ Step C (env.locals :: Is) ρ₁ ρ₁ u.heap s₂.heap ∧ LcR C ρ₁ s₂.heap env.locals vars lc₁ ∧ Inv (i + 1) ρ₁ s₂.heap) _ hA L.R L.l L.I L.m hx hst fun s₂ a b c e => ⟨a, b, c, e⟩) (fun r s₁ h₁ => ?_) fun uu uu z => z
      obtain ⟨v, rfl, h₁⟩ := h₁
      dsimp only
      refine wpAny_mono h₁ (fun uu s₁' h₁' => wpAny_mono h₁' (fun uu s₂ h₂ => ?_) fun uu uu z => z) fun uu uu z => z
      clear h₁
      refine loop_turn IT DB hA L h₂.1 h₂.2.1 h₂.2.2.1 h₂.2.2.2 (by simpa only [hx, hst] using hf) k
    · rename_i hx
      refine wpAny_mono (IT.stop A i lc σ₁ ρ₁ u (fun s₂ => Rel C ρ₁ σ₁ s₂ ∧ Step C (env.locals :: Is) ρ₁ ρ₁ u.heap s₂.heap ∧ LcR C ρ₁ s₂.heap env.locals vars lc) _ hA L.R L.l L.I L.m hx fun s₂ a b c => ⟨a, b, c⟩) (fun r s₁ h₁ => ?_) fun uu uu z => z
      (refine x0_4 (h₁) fun rr0 R₂ S₂ l₂ => ?_; clear h₁; subst rr0)
      dsimp only
      refine DO _ _ _ _ _ hf A _ _ s₁ ρ₁ hA R₂ l₂ fun w s₃ ρ₃ R₃ S₃ l₃ q₃ => ?_
      exact k _ _ ρ₃ R₃ ((L.S.trans S₂).trans (S₃.weaken fun a ha => by rw [List.mem_singleton.mp ha]; exact List.mem_cons_self)) l₃ q₃
    · exact ns hf
end
end Mine.Internal
end
section
open PySem PySem.W PyProof.Rows PySem.Calls
namespace Mine.Internal
set_option tactic.hygienic false in
theorem runs_size {M : Model} {Γ : Ctx} {p : Pos} {t : Sem Fin} {fs : List Frame} {s s' : Shared} {e : End} (h : Runs M Γ p t fs s e s') : s.heap.objs.size ≤ s'.heap.objs.size := by
  induction h <;> (try simp only [Shared.setGen, Heap.size_push, Heap.size_after_update] at *) <;> (first | lia | omega)
set_option tactic.hygienic false in
theorem wakes_size {M : Model} {Γ : Ctx} {p : Pos} {g : Nat} {r : Resume} {s s' : Shared} {res : GenResult} (h : Wakes M Γ p g r s res s') : s.heap.objs.size ≤ s'.heap.objs.size := by
  unfold Wakes at h
  split at h
  · exact h.elim
  · split at h
    · (refine x2_4 (h) fun e₁ s₁ hr uu uu rr5 => ?_; clear h; subst rr5); exact (runs_size hr : (s.setGen g .running).heap.objs.size ≤ s₁.heap.objs.size)
    · rw [h.2]; exact Nat.le_refl _
    · rw [h.2]; exact Nat.le_refl _
  · (refine x2_4 (h) fun e₁ s₁ hr uu uu rr5 => ?_; clear h; subst rr5); exact (runs_size hr : (s.setGen g .running).heap.objs.size ≤ s₁.heap.objs.size)
  · rw [h.2]; exact Nat.le_refl _
  · rw [h.2]; exact Nat.le_refl _
set_option tactic.hygienic false in
theorem wp_size {α : Type} (M : Model) (Γ : Ctx) (n : Nat) (t : Sem α) : ∀ (Q : α → Pos → Shared → Prop) (E : Value → Pos → Shared → Prop) (p : Pos) (s : Shared), n ≤ s.heap.objs.size → Sem.wp M Γ t Q E p s →
    Sem.wp M Γ t (fun a p' s' => n ≤ s'.heap.objs.size ∧ Q a p' s') (fun e p' s' => n ≤ s'.heap.objs.size ∧ E e p' s') p s := by
  induction t with
  | pure a => intro Q E p s hn h; exact ⟨hn, h⟩
  | raise e => intro Q E p s hn h; exact ⟨hn, h⟩
  | unsupported _ => intro Q E p s _ h; exact h
  | finish _ => intro Q E p s _ h; exact h
  | rule _ k ih => intro Q E p s hn h; exact ih () Q E p s hn h
  | «at» p' k ih => intro Q E p s hn h; exact ih () Q E p' s hn h
  | load a _ k ih => intro Q E p s hn h; (refine x1_2 (h) fun o ho h => ?_); exact ⟨o, ho, ih o Q E p s hn h⟩
  | update a _ f k ih => intro Q E p s hn h; exact ⟨h.1, ih () Q E p _ (by rw [Heap.size_after_update]; exact hn) h.2⟩
  | loadIfAlive a k ih => intro Q E p s hn h; exact ih _ Q E p s hn h
  | point _ k ih => intro Q E p s hn h; exact ih () Q E p s hn h
  | register _ _ => intro Q E p s _ h; exact h
  | alloc o k ih => intro Q E p s hn h; exact ih _ Q E p _ (by show n ≤ (s.heap.push o).objs.size; rw [Heap.size_push]; (first | lia | omega)) h
  | fresh k ih => intro Q E p s hn h; exact ih _ Q E p _ hn h
  | ask k ih => intro Q E p s hn h; exact ih _ Q E p s hn h
  | choose src m k ih => intro Q E p s hn h; exact ⟨h.1, ih _ Q E p _ hn h.2⟩
  | os q _ k ih => intro Q E p s hn h; exact ih _ Q E p _ hn h
  | call c hd _ _ k ih => intro Q E p s hn h; (refine x2_2 (h) fun r s' hr h => ?_); exact ⟨r, s', hr, ih r Q E p s' (Nat.le_trans hn (runs_size hr)) h⟩
  | handled own k ih => intro Q E p s hn h; exact ih _ Q E p s hn h
  | genState g k ih => intro Q E p s hn h; (refine x1_2 (h) fun st hs h => ?_); exact ⟨st, hs, ih _ Q E p s hn h⟩
  | newGen c k ih => intro Q E p s hn h; exact ih _ Q E p _ hn h
  | resume g r _ k ih => intro Q E p s hn h; (refine x2_2 (h) fun res s' hw h => ?_); exact ⟨res, s', hw, ih res Q E p s' (Nat.le_trans hn (wakes_size hw)) h⟩
  | yield _ _ _ _ => intro Q E p s _ h; exact h
  | stack k ih => intro Q E p s hn h; exact ih _ Q E p s hn h
  | fork _ _ => intro Q E p s _ h; exact h
  | thread k ih => intro Q E p s hn h; exact ih _ Q E p s hn h
  | await _ _ _ _ _ => intro Q E p s _ h; exact h
set_option tactic.hygienic false in
theorem with_size {α : Type} {M : Model} {A : Around} {s : Shared} {t : Sem α} {Q : α → Shared → Prop} {E : Value → Shared → Prop}
    (h : wpAny M A t (fun a s' => s.heap.objs.size ≤ s'.heap.objs.size → Q a s') (fun e s' => s.heap.objs.size ≤ s'.heap.objs.size → E e s') s) : wpAny M A t Q E s :=
  fun Γ p hΓ => Sem.wp_mono M Γ t (fun uu uu uu x => x.2 x.1) (fun uu uu uu x => x.2 x.1) _ _ (wp_size M Γ s.heap.objs.size t _ _ p s (Nat.le_refl _) (h Γ p hΓ))
end Mine.Internal
end
section
open PySem PySem.W PyProof.Rows PySem.Calls
namespace Mine.Internal
section
variable {C : Cfg} {ρ ρ' : Rho} {σ σ' : St} {s : Shared} {A : Around} {E : Value → Shared → Prop} {env : Env} {vars : List Str} {lc : Lc} {d : Nat}
structure OneIter (C : Cfg) (env : Env) (I : Addr) (nx : St → Nat → Option (Option AV)) (Inv : Nat → Rho → Heap → Prop) : Prop where
  lo : C.s₁.heap.objs.size ≤ I
  ne : env.locals ≠ I
  kind : ∀ i ρ h, Inv i ρ h → ∃ o, h.get? I = some o ∧ (∀ vs n, o.data ≠ .seq vs n) ∧ o.cls ≠ .type "code"
  keep : ∀ i ρ ρ' h h', Inv i ρ h → ¬ Mut C ρ I → (∀ a o vs n, a ∈ [env.locals] → h.get? a = some o → o.data ≠ .seq vs n) → Step C [env.locals] ρ ρ' h h' → Inv i ρ' h'
  item : ∀ (A : Around) i σ ρ s x (Q : Option Value → Shared → Prop) (E' : Value → Shared → Prop), A.handled = none → Rel C ρ σ s → Inv i ρ s.heap → nx σ i = some (some x) →
    (∀ v h' tk, VR C ρ s.heap x v → Inv (i + 1) ρ h' → (∀ b o, b ≠ I → s.heap.get? b = some o → h'.get? b = some o) → Q (some v) { s with heap := h', toks := tk }) → wpAny (model C.prog C.w) A (pyNext (.ref I)) Q E' s
  done : ∀ (A : Around) i σ ρ s (Q : Option Value → Shared → Prop) (E' : Value → Shared → Prop), A.handled = none → Rel C ρ σ s → Inv i ρ s.heap → nx σ i = some none →
    (∀ h' tk, (∀ b o, b ≠ I → s.heap.get? b = some o → h'.get? b = some o) → Q none { s with heap := h', toks := tk }) → wpAny (model C.prog C.w) A (pyNext (.ref I)) Q E' s
theorem OneIter.ok {I : Addr} {nx : St → Nat → Option (Option AV)} {Inv : Nat → Rho → Heap → Prop} (W : OneIter C env I nx Inv) (He : EnvOk env vars) {j : Nat} {n : Str} {pn : Pos} (hj : vars[j]? = some n) :
    IterOk C d env vars I [I] (.Name n pn) nx (fun lc x => putL lc j x) Inv where
  keep i ρ ρ' h h' hI hm := W.keep i ρ ρ' h h' hI (hm I List.mem_cons_self)
  here i ρ h hI J hJ := let ⟨o, ho, _⟩ := W.kind i ρ h hI; ⟨o, by rw [List.mem_singleton.mp hJ]; exact ho⟩
  next A i lc lc₁ σ ρ s x Q E' hA R lr hI hm hx hst k := by
    replace hm := hm I List.mem_cons_self
    (refine x1_3 (W.kind i ρ s.heap hI) fun o ho hno hcl => ?_)
    refine with_size (W.item A i σ ρ s x _ _ hA.1 R hI hx fun v h' tk qv hI' kp z => ?_)
    (refine x0_2 (R.iter (n := tk) ho hno hcl hm W.lo kp z) fun R' S' => ?_)
    have l' := lr.iter S' W.ne ho hno
    refine ⟨v, rfl, wpAny_pure ?_⟩
    have Wn : ∀ a o vs n, a ∈ [I] → s.heap.get? a = some o → o.data ≠ .seq vs n := by
      intro a o' vs n ha e
      cases List.mem_singleton.mp ha
      rw [ho] at e; cases e
      exact hno vs n
    refine wpAny_assign_Name (store_name He hj hst R' l' (qv.step S' Wn) fun s₂ R₂ S₂ l₂ => ?_)
    have I₂ : Inv (i + 1) ρ s₂.heap := W.keep _ _ _ _ _ hI' hm (ns_noSeq l'.1.choose_spec.1) S₂
    exact k s₂ R₂ ((S'.weaken fun a ha => by simp at ha; simp [ha]).trans (S₂.weaken fun a ha => by simp at ha; simp [ha])) l₂ I₂
  stop A i lc σ ρ s Q E' hA R lr hI hm hx k := by
    replace hm := hm I List.mem_cons_self
    (refine x1_3 (W.kind i ρ s.heap hI) fun o ho hno hcl => ?_)
    refine with_size (W.done A i σ ρ s _ _ hA.1 R hI hx fun h' tk kp z => ?_)
    (refine x0_2 (R.iter (n := tk) ho hno hcl hm W.lo kp z) fun R' S' => ?_)
    exact ⟨rfl, k _ R' (S'.weaken fun a ha => by simp at ha; simp [ha]) (lr.iter S' W.ne ho hno)⟩
set_option tactic.hygienic false in
theorem Step.dropI {Is : List Addr} {h h' : Heap} (S : Step C (env.locals :: Is) ρ ρ' h h') (hI : ∀ J ∈ Is, h.objs.size ≤ J) : Step C [env.locals] ρ ρ' h h' :=
  ⟨S.size, fun b o e n w => S.keep b o e n (by
    intro m
    rcases List.mem_cons.mp m with m | m
    · exact w (by rw [m]; exact List.mem_cons_self)
    · exact absurd (Heap.lt_size e) (Nat.not_lt.mpr (hI b m))), S.grow⟩
set_option tactic.hygienic false in
theorem one_fresh {I : Addr} (h : ¬ Mut C ρ I) : ∀ J ∈ [I], ¬ Mut C ρ J := fun J hJ => by rw [List.mem_singleton.mp hJ]; exact h
set_option tactic.hygienic false in
theorem one_above {I : Addr} {h : Heap} (hI : h.objs.size ≤ I) : ∀ J ∈ [I], h.objs.size ≤ J := fun J hJ => by rw [List.mem_singleton.mp hJ]; exact hI
end
end Mine.Internal
end
section
open PySem PySem.W PyProof.Rows PySem.Calls
namespace Mine.Internal
noncomputable def nxL (src : AV) : St → Nat → Option (Option AV) := fun σ i => (asList σ src).map (·[i]?)
noncomputable def signAV (c : Nat) : AV := .str ⟨#[c]⟩
noncomputable def nxS (x : Str) : St → Nat → Option (Option AV) := fun _ i => some (x.cps[i]?.map signAV)
section
variable {C : Cfg} {ρ ρ' : Rho} {σ σ' : St} {s : Shared} {A : Around} {E : Value → Shared → Prop} {env : Env} {vars : List Str} {lc : Lc} {d : Nat}
set_option tactic.hygienic false in
theorem listIter_kind {h : Heap} {I a : Addr} {i : Nat} (x : h.IsListIter I a i) : ∃ o, h.get? I = some o ∧ (∀ vs n, o.data ≠ .seq vs n) ∧ o.cls ≠ .type "code" := by
  (refine x1_3 (x) fun o ho hc hd => ?_; clear x)
  exact ⟨o, ho, fun vs n z => by rw [hd] at z; (cases z), by rw [hc]; decide⟩
set_option tactic.hygienic false in
theorem strIter_kind {h : Heap} {I : Addr} {x : Str} {t : Tok} {ty : String} {i : Nat} (y : h.IsStrIter I ty x t i) (hty : ty ≠ "code") : ∃ o, h.get? I = some o ∧ (∀ vs n, o.data ≠ .seq vs n) ∧ o.cls ≠ .type "code" := by
  (refine x1_3 (y) fun o ho hc hd => ?_; clear y)
  exact ⟨o, ho, fun vs n z => by rw [hd] at z; (cases z), by rw [hc]; intro z; cases z; exact hty rfl⟩
set_option tactic.hygienic false in
theorem oneList {I a : Addr} {src : AV} (lo : C.s₁.heap.objs.size ≤ I) (ne : env.locals ≠ I) (haL : a ≠ env.locals) (haI : a ≠ I) : OneIter C env I (nxL src) (fun i ρ h => h.IsListIter I a i ∧ VR C ρ h src (.ref a)) where
  lo := lo
  ne := ne
  kind _ _ _ hI := listIter_kind hI.1
  keep i ρ ρ' h h' hI hm hW S := ⟨hI.1.at fun o e => S.keep _ _ e hm (by simpa using Ne.symm ne), hI.2.step S hW⟩
  item A i σ ρ s x Q E' hh R hI hx k := by
    unfold nxL at hx
    (refine x1_2 (Option.map_eq_some_iff.mp hx) fun xs hxs hxi => ?_)
    (refine x3_3 (asList_rel R hI.2 hxs) fun a' vs n e ho hs => ?_)
    cases e
    (refine x1_2 (hs.get hxi) fun v hv qv => ?_)
    (refine x1_3 (listIter_kind hI.1) fun o hoI hno uu => ?_)
    refine next_item hI.1 (items := vs.toArray) ⟨_, _, ho, rfl⟩ (x := v) (by simpa using hv) fun h' hit' hs' => ?_
    refine k v h' s.toks qv ⟨hit', ?_⟩ fun b o hb e => (hs'.2 b hb).trans e
    refine hI.2.step (stepWrite hs') ?_
    intro b o' vs' n' hb e
    cases List.mem_singleton.mp hb
    rw [hoI] at e; cases e
    exact hno vs' n'
  done A i σ ρ s Q E' hh R hI hx k := by
    unfold nxL at hx
    (refine x1_2 (Option.map_eq_some_iff.mp hx) fun xs hxs hxi => ?_)
    (refine x3_3 (asList_rel R hI.2 hxs) fun a' vs n e ho hs => ?_)
    cases e
    have hn : vs.toArray[i]? = none := by
      rw [List.getElem?_eq_none_iff] at hxi
      simp
      rw [hs.length]; exact hxi
    refine next_end hh hI.1 (items := vs.toArray) ⟨_, _, ho, rfl⟩ hn fun h' he => ?_
    exact k h' s.toks fun b o hb e => he b o hb e
set_option tactic.hygienic false in
theorem oneAscii {I : Addr} {x : Str} {t : Tok} (ok : PyData.strOk x = true) (lo : C.s₁.heap.objs.size ≤ I) (ne : env.locals ≠ I) : OneIter C env I (nxS x) (fun i uu h => h.IsStrIter I "str_ascii_iterator" x t i) where
  lo := lo
  ne := ne
  kind _ _ _ hI := strIter_kind hI (by decide)
  keep i ρ ρ' h h' hI hm hW S := let ⟨o, ho, r⟩ := hI; ⟨o, S.keep _ _ ho hm (by simpa using Ne.symm ne), r⟩
  item A i σ ρ s y Q E' hh R hI hx k := by
    unfold nxS at hx
    (refine x1_2 (Option.map_eq_some_iff.mp (Option.some.inj hx)) fun c hc e => ?_)
    cases e
    refine wpAny_pyNext_ascii_item hI hc fun h' hit' hs' => ?_
    obtain ⟨hlt, e⟩ := Array.getElem?_eq_some_iff.mp hc
    exact k _ h' _ (.str _ _ (strOk_one ok (e ▸ Array.mem_toList_iff.mpr (Array.getElem_mem hlt)))) hit' fun b o hb e => (hs'.2 b hb).trans e
  done A i σ ρ s Q E' hh R hI hx k := by
    unfold nxS at hx
    have hn : x.cps[i]? = none := by
      have := Option.some.inj hx
      cases h : x.cps[i]? with
      | none => rfl
      | some c => rw [h] at this; cases this
    exact wpAny_pyNext_ascii_end hh hI hn fun h' he => k h' _ fun b o hb e => he b o hb e
set_option tactic.hygienic false in
theorem oneWide {I : Addr} {x : Str} {t : Tok} (ok : PyData.strOk x = true) (lo : C.s₁.heap.objs.size ≤ I) (ne : env.locals ≠ I) : OneIter C env I (nxS x) (fun i uu h => h.IsStrIter I "str_iterator" x t i) where
  lo := lo
  ne := ne
  kind _ _ _ hI := strIter_kind hI (by decide)
  keep i ρ ρ' h h' hI hm hW S := let ⟨o, ho, r⟩ := hI; ⟨o, S.keep _ _ ho hm (by simpa using Ne.symm ne), r⟩
  item A i σ ρ s y Q E' hh R hI hx k := by
    unfold nxS at hx
    (refine x1_2 (Option.map_eq_some_iff.mp (Option.some.inj hx)) fun c hc e => ?_)
    cases e
    refine wpAny_pyNext_wide_item hI hc fun h' hit' hs' => ?_
    obtain ⟨hlt, e⟩ := Array.getElem?_eq_some_iff.mp hc
    exact k _ h' _ (.str _ _ (strOk_one ok (e ▸ Array.mem_toList_iff.mpr (Array.getElem_mem hlt)))) hit' fun b o hb e => (hs'.2 b hb).trans e
  done A i σ ρ s Q E' hh R hI hx k := by
    unfold nxS at hx
    have hn : x.cps[i]? = none := by
      have := Option.some.inj hx
      cases h : x.cps[i]? with
      | none => rfl
      | some c => rw [h] at this; cases this
    exact wpAny_pyNext_wide_end hh hI hn fun h' he => k h' _ fun b o hb e => he b o hb e
noncomputable def forS (j : Nat) (f : EM) (B O : SM) : SM := fun lc σ => match f lc σ with
  | some (.str x, σ₁) => loopS (nxS x) (fun lc y => putL lc j y) B O 1000000 0 lc σ₁
  | some (src, σ₁) => match asList σ₁ src with
    | some _ => loopS (nxL src) (fun lc y => putL lc j y) B O 1000000 0 lc σ₁
    | none => none
  | none => none
theorem den_for (He : EnvOk env vars) {j : Nat} {n : Str} {pn p : Pos} {iter : Expr} {body orelse : List Stmt} {f : EM} {B O : SM} (hj : vars[j]? = some n) (D : DenE C d env vars iter f) (DB : DenB C d env vars body B) (DO : DenB C d env vars orelse O)
    (hs : ∀ x, foldedSetIterable iter env x = pure x) : DenS C d env vars (.For (.Name n pn) iter body orelse p) (forS j f B O) := by
  intro lc σ fl lc' σ' hf A Q E s ρ hA R lr kk
  have run : ∀ {x : AV} {σ₁ : St}, f lc σ = some (x, σ₁) → (∀ v s₁ ρ₁, Rel C ρ₁ σ₁ s₁ → Step C [] ρ ρ₁ s.heap s₁.heap → VR C ρ₁ s₁.heap x v → LcR C ρ₁ s₁.heap env.locals vars lc →
      wpAny (model C.prog C.w) A (pyIter v) (fun it s₂ => ∃ o nx Inv, it = .ref s₁.heap.objs.size ∧ s₂ = { s₁ with heap := s₁.heap.push o } ∧ OneIter C env s₁.heap.objs.size nx Inv ∧ Inv 0 ρ₁ s₂.heap ∧ loopS nx (fun lc y => putL lc j y) B O 1000000 0 lc σ₁ = some (fl, lc', σ')) E s₁) →
      wpAny (model C.prog C.w) A (exec (.For (.Name n pn) iter body orelse p) env) Q E s := by
    intro x σ₁ e1 h
    refine wpAny_For (D _ _ _ _ e1 A _ E s ρ hA R lr fun v s₁ ρ₁ R₁ S₁ q₁ => ?_) hs
    refine wpAny_mono (h v s₁ ρ₁ R₁ S₁ q₁ (lr.go S₁)) (fun it s₂ h₂ => ?_) fun uu uu z => z
    (refine x3_5 (h₂) fun o nx Inv rr3 rr4 IT hI hL => ?_; clear h₂; subst rr3; subst rr4)
    have S₂ : Step C [] ρ₁ ρ₁ s₁.heap (s₁.heap.push o) := .pushObj _
    refine loop_rel (IT.ok He hj) DB DO hA hL (R₁.push o (n := s₁.toks)) ((lr.go S₁).go S₂) hI (one_fresh R₁.fresh) fun w s' ρ' R' S' l' q' => ?_
    refine kk w s' ρ' R' (S₁.of_nil.trans ?_) l' q'
    have S3 : Step C [env.locals, s₁.heap.objs.size] ρ₁ ρ' s₁.heap s'.heap := S₂.of_nil.trans S'
    exact S3.dropI (one_above (Nat.le_refl _))
  unfold forS at hf
  split at hf
  · rename_i x σ₁ e1
    refine run e1 fun v s₁ ρ₁ R₁ S₁ q₁ l₁ => ?_
    refine q₁.str_e fun t ok => ?_
    have neL : env.locals ≠ s₁.heap.objs.size := Nat.ne_of_lt l₁.1.choose_spec.1.lt
    cases ha : x.cps.all (· < 128)
    · exact wpAny_pyIter_wide ha ⟨_, _, _, rfl, rfl, oneWide (t := t) ok R₁.size neL, ⟨_, Heap.get?_push_size _ rfl, rfl, rfl⟩, hf⟩
    · exact wpAny_pyIter_ascii ha ⟨_, _, _, rfl, rfl, oneAscii (t := t) ok R₁.size neL, ⟨_, Heap.get?_push_size _ rfl, rfl, rfl⟩, hf⟩
  · rename_i src σ₁ hne e1
    (refine sw hf ?_; clear hf; intro xs hxs hf)
    refine run e1 fun v s₁ ρ₁ R₁ S₁ q₁ l₁ => ?_
    have neL : env.locals ≠ s₁.heap.objs.size := Nat.ne_of_lt l₁.1.choose_spec.1.lt
    (refine x3_3 (asList_rel R₁ q₁ hxs) fun a vs n' rr3 ho hv => ?_; subst rr3)
    have haL : a ≠ env.locals := by
      rintro rfl
      exact ns_noSeq l₁.1.choose_spec.1 _ _ _ _ (List.mem_singleton.mpr rfl) ho rfl
    refine wpAny_pyIter_list (IsL.isList ho) ⟨_, _, _, rfl, rfl, oneList (a := a) (src := src) R₁.size neL haL (Nat.ne_of_lt (Heap.lt_size ho)), ⟨⟨_, Heap.get?_push_size _ rfl, rfl, rfl⟩, q₁.go (.pushObj _)⟩, hf⟩
  · exact ns hf
end
end Mine.Internal
end
section
open PySem PySem.W PyProof.Rows PySem.Calls
namespace Mine.Internal
noncomputable def smallInt (a : Int) : Bool := decide (-1000000000 < a) && decide (a < 1000000000)
set_option tactic.hygienic false in
theorem smallInt_iff {a : Int} : smallInt a = true ↔ -1000000000 < a ∧ a < 1000000000 := by unfold smallInt; rw [Bool.and_eq_true, decide_eq_true_eq, decide_eq_true_eq]
noncomputable def nxR (a b c : Int) : St → Nat → Option (Option AV) := fun _ i => some (if (i : Int) < Builtin.Range.rangeSize a b c then some (.int (a + c * i)) else none)
section
variable {C : Cfg} {ρ ρ' : Rho} {σ σ' : St} {s : Shared} {A : Around} {E : Value → Shared → Prop} {env : Env} {vars : List Str} {lc : Lc} {d : Nat}
theorem oneRange {I : Addr} {a b c : Int} (lo : C.s₁.heap.objs.size ≤ I) (ne : env.locals ≠ I) : OneIter C env I (nxR a b c) (fun i uu h => IsRangeIter h I (a + c * i) (Builtin.Range.rangeSize a b c - i) c) where
  lo := lo
  ne := ne
  kind _ _ _ hI := ⟨_, hI, (fun vs n z => by cases z), by show Value.type "range_iterator" ≠ _; decide⟩
  keep i ρ ρ' h h' hI hm hW S := S.keep _ _ hI hm (by simpa using Ne.symm ne)
  item A i σ ρ s y Q E' hh R hI hx k := by
    unfold nxR at hx
    split at hx
    · rename_i hlt
      cases hx
      refine wpAny_pyNext_range_item hI (by (first | lia | omega)) fun h' hit' hs' => ?_
      refine k _ h' _ (.int _ _) ?_ fun b o hb e => (hs'.2 b hb).trans e
      have e1 : a + c * (i : Int) + c = a + c * ((i + 1 : Nat) : Int) := by rw [Int.natCast_add, Int.mul_add]; (first | lia | omega)
      have e2 : Builtin.Range.rangeSize a b c - (i : Int) - 1 = Builtin.Range.rangeSize a b c - ((i + 1 : Nat) : Int) := by (first | lia | omega)
      rw [e1, e2] at hit'
      exact hit'
    · cases hx
  done A i σ ρ s Q E' hh R hI hx k := by
    unfold nxR at hx
    split at hx
    · cases hx
    · rename_i hlt
      exact wpAny_pyNext_range_end hh hI (by (first | lia | omega)) fun h' he => k h' _ fun b o hb e => he b o hb e
noncomputable def avInt : AV → Option Int
  | .int i => some i
  | _ => none
noncomputable def rangeArgs (xs : List AV) : Option (Int × Int × Int) := match optAll avInt xs with
  | some [b] => some (0, b, 1)
  | some [a, b] => some (a, b, 1)
  | some [a, b, c] => some (a, b, c)
  | _ => none
noncomputable def okRange (a b c : Int) : Bool := Builtin.Range.small a b c && (c != 0 && decide (c.natAbs < 2 ^ 31))
noncomputable def forRS (j : Nat) (fs : List EM) (B O : SM) : SM := fun lc σ => match evs fs lc σ with
  | some (xs, σ₁) => match rangeArgs xs with
    | some (a, b, c) => if okRange a b c then loopS (nxR a b c) (fun lc y => putL lc j y) B O 1000000 0 lc σ₁ else none
    | none => none
  | none => none
set_option tactic.hygienic false in
theorem okRange_iff {a b c : Int} (h : okRange a b c = true) : Builtin.Range.small a b c = true ∧ c.natAbs < 2 ^ 31 ∧ c ≠ 0 := by
  unfold okRange at h
  rw [Bool.and_eq_true, Bool.and_eq_true, bne_iff_ne, decide_eq_true_eq] at h
  exact ⟨h.1, h.2.2, h.2.1⟩
set_option tactic.hygienic false in
theorem avInt_rel {h : Heap} : ∀ {xs : List AV} {vs : List Value} {zs : List Int}, VRs C ρ h xs vs → optAll avInt xs = some zs → ∃ ts : List Tok, ts.length = zs.length ∧ vs = (zs.zip ts).map fun p => .int p.1 p.2 := fun q e =>
  q.ind (P := fun xs vs => ∀ zs, optAll avInt xs = some zs → ∃ ts : List Tok, ts.length = zs.length ∧ vs = (zs.zip ts).map fun p => .int p.1 p.2) (fun zs e => by cases e; exact ⟨[], rfl, rfl⟩) (fun {x v xs vs} a _ ih zs e => by
    cases x with
    | int i =>
      cases e1 : optAll avInt xs with
      | none => simp [optAll, avInt, e1] at e
      | some is =>
        (refine x1_2 (ih is e1) fun ts hl rr2 => ?_; subst rr2)
        obtain rfl : i :: is = zs := by simpa [optAll, avInt, e1] using e
        exact a.int_e fun t => ⟨t :: ts, by simp [hl], rfl⟩
    | _ => cases e) _ e
set_option tactic.hygienic false in
theorem range_rel {a b c : Int} {xs : List AV} {vs : List Value} {Q' : Value → Shared → Prop} (q : VRs C ρ s.heap xs vs) (e : rangeArgs xs = some (a, b, c)) (hc : c.natAbs < 2 ^ 31) (h0 : c ≠ 0)
    (k : ∀ h' tk r t u v, IsRange h' r a b c t u v → (∀ b o, s.heap.get? b = some o → h'.get? b = some o) → s.heap.objs.size ≤ h'.objs.size → Q' (.ref r) { s with heap := h', toks := tk }) : wpAny (model C.prog C.w) A (call (.type "range") vs) Q' E s := by
  have fin : ∀ {o : Obj}, (∀ b o', s.heap.get? b = some o' → (s.heap.push o).get? b = some o') ∧ s.heap.objs.size ≤ (s.heap.push o).objs.size := fun {o} => ⟨fun uu uu e => Heap.get?_push_of_some _ e, by rw [Heap.size_push]; (first | lia | omega)⟩
  unfold rangeArgs at e
  cases ez : optAll avInt xs with
  | none => rw [ez] at e; cases e
  | some zs =>
    (refine x1_2 (avInt_rel q ez) fun ts hl rr2 => ?_; subst rr2)
    rw [ez] at e
    cases zs with
    | nil => cases e
    | cons z1 zs =>
      cases ts with
      | nil => cases hl
      | cons t1 ts =>
        cases zs with
        | nil =>
          cases ts with
          | nil => cases e; exact call_range_1 (k _ _ _ _ _ _ (Heap.get?_push_size _ rfl) fin.1 fin.2)
          | cons => cases hl
        | cons z2 zs =>
          cases ts with
          | nil => cases hl
          | cons t2 ts =>
            cases zs with
            | nil =>
              cases ts with
              | nil => cases e; exact call_range_2 (k _ _ _ _ _ _ (Heap.get?_push_size _ rfl) fin.1 fin.2)
              | cons => cases hl
            | cons z3 zs =>
              cases ts with
              | nil => cases hl
              | cons t3 ts =>
                cases zs with
                | nil =>
                  cases ts with
                  | nil => cases e; exact call_range_3 h0 (k _ _ _ _ _ _ (Heap.get?_push_size _ rfl) fin.1 fin.2) (.inl (noPyl hc))
                  | cons => cases hl
                | cons => cases e
theorem den_forR (H : CfgOk C) (He : EnvOk env vars) {j : Nat} {n : Str} {pn p p0 p1 : Pos} {es : List Expr} {body orelse : List Stmt} {fs : List EM} {B O : SM} (hj : vars[j]? = some n) (hv : GlobVal C "range" (.type "range")) (hk : env.kindOf "range" = some .globalImplicit) (D : DenEs C d env vars es fs) (DB : DenB C d env vars body B) (DO : DenB C d env vars orelse O) :
    DenS C d env vars (.For (.Name n pn) (.Call (.Name "range" p0) es [] p1) body orelse p) (forRS j fs B O) := by
  intro lc σ fl lc' σ' hf A Q E s ρ hA R lr kk
  have : ∃ xs σ₁ a b c, evs fs lc σ = some (xs, σ₁) ∧ rangeArgs xs = some (a, b, c) ∧ okRange a b c = true ∧ loopS (nxR a b c) (fun lc y => putL lc j y) B O 1000000 0 lc σ₁ = some (fl, lc', σ') := by
    unfold forRS at hf
    split at hf
    · split at hf
      · split at hf
        · rename_i e1 _ _ _ _ e2 e3
          exact ⟨_, _, _, _, _, e1, e2, e3, hf⟩
        · exact ns hf
      · exact ns hf
    · exact ns hf
  clear hf
  (refine x5_4 (this) fun xs σ₁ a b c e1 e2 e3 hL => ?_; clear this)
  obtain ⟨hsm, hc, hc0⟩ := okRange_iff e3
  refine wpAny_For ?_
  show wpAny _ _ (do callWith p1 (← eval (.Name "range" p0) env) [] (backTo p1 (starEach es env)) (backToKw p1 (keywordEach [] env))) _ _ _
  refine wpAny_bind (global_rel H He hv hk (by decide) R ?_)
  refine callWith_rel H D e1 keep_type hA R lr fun vs s₁ ρ₁ R₁ S₁ q₁ => ?_
  rw [List.nil_append]
  refine range_rel q₁ e2 hc hc0 fun h₂ tk r t u v hr kp z => ?_
  have R₂ : Rel C ρ₁ σ₁ { s₁ with heap := h₂, toks := tk } := R₁.same kp z R₁.gens rfl rfl
  have S₂ : Step C [] ρ₁ ρ₁ s₁.heap h₂ := .same kp z
  have l₂ := (lr.go S₁).go S₂
  have neL : env.locals ≠ h₂.objs.size := Nat.ne_of_lt l₂.1.choose_spec.1.lt
  refine wpAny_pyIter_range hr hsm ?_
  have S₃ : Step C [] ρ₁ ρ₁ h₂ (h₂.push { cls := .type "range_iterator", data := .fields #[rawInt a, rawInt (Builtin.Range.rangeSize a b c), rawInt c] }) := .pushObj _
  have hI : IsRangeIter (h₂.push { cls := .type "range_iterator", data := .fields #[rawInt a, rawInt (Builtin.Range.rangeSize a b c), rawInt c] }) h₂.objs.size (a + c * ((0 : Nat) : Int)) (Builtin.Range.rangeSize a b c - ((0 : Nat) : Int)) c := by
    have := Heap.get?_push_size h₂ (o := { cls := .type "range_iterator", data := .fields #[rawInt a, rawInt (Builtin.Range.rangeSize a b c), rawInt c] }) rfl
    rw [show a + c * ((0 : Nat) : Int) = a by simp, show Builtin.Range.rangeSize a b c - ((0 : Nat) : Int) = Builtin.Range.rangeSize a b c by simp]
    exact this
  refine loop_rel ((oneRange R₂.size neL).ok He hj) DB DO hA hL (R₂.push _ (n := tk)) (l₂.go S₃) hI (one_fresh R₂.fresh) fun w s' ρ' R' S' l' q' => ?_
  refine kk w s' ρ' R' ((S₁.trans S₂).of_nil.trans ?_) l' q'
  have S4 : Step C [env.locals, h₂.objs.size] ρ₁ ρ' h₂ s'.heap := S₃.of_nil.trans S'
  exact S4.dropI (one_above (Nat.le_refl _))
end
end Mine.Internal
end
section
open PySem PySem.W PyProof.Rows PySem.Calls
namespace Mine.Internal
noncomputable def Own (h : Heap) (T : Addr) : Prop := ∃ x y n, h.get? T = some { cls := .type "tuple", data := .seq #[x, y] n }
section
variable {C : Cfg} {ρ ρ' : Rho} {σ σ' : St} {s : Shared} {A : Around} {E : Value → Shared → Prop} {env : Env} {vars : List Str} {lc : Lc} {d : Nat}
set_option tactic.hygienic false in
theorem Own.at {h h' : Heap} {T : Addr} (x : Own h T) (k : ∀ o, h.get? T = some o → h'.get? T = some o) : Own h' T := let ⟨a, b, n, e⟩ := x; ⟨a, b, n, k _ e⟩
set_option tactic.hygienic false in
theorem own_upd {T : Addr} {a b x : Value} {n k : Nat} {Q : Unit → Shared → Prop} (hT : s.heap.get? T = some { cls := .type "tuple", data := .seq #[a, b] n })
    (h : ∀ h', h'.get? T = some { cls := .type "tuple", data := .seq ((#[a, b] : Array Value).setIfInBounds k x) n } → Heap.SameBut T s.heap h' → Q () { s with heap := h' }) :
    wpAny (model C.prog C.w) A (updateSeq T (·.setIfInBounds k x)) Q E s := by
  refine wpAny_updateSeq hT rfl (h _ ?_ (Heap.SameBut.update ..))
  rw [Heap.get?_update_self _ hT rfl]
  simp [Obj.mapSeq]
structure ZipAt (h : Heap) (z TI TO J l : Addr) (i : Nat) : Prop where
  zip : IsZip h z TI TO .none
  ti : IsPair h TI (.ref J) (.ref J)
  own : Own h TO
  it : h.IsListIter J l i
structure Apart1 (z TI TO J l : Addr) : Prop where
  TIz : TI ≠ z
  TOz : TO ≠ z
  Jz : J ≠ z
  TITO : TI ≠ TO
  TIJ : TI ≠ J
  TOJ : TO ≠ J
  lz : l ≠ z
  lTO : l ≠ TO
  lJ : l ≠ J
set_option tactic.hygienic false in
theorem zip1_item {z TI TO J l : Addr} {i : Nat} {xs : Array Value} {x y : Value} {Q : Value → Shared → Prop} (D : Apart1 z TI TO J l) (Z : ZipAt s.heap z TI TO J l i) (hl : s.heap.IsList l xs) (hx : xs[i]? = some x) (hy : xs[i + 1]? = some y)
    (hQ : ∀ h', IsZip h' z TI TO (rawInt s.heap.objs.size) → Own h' TO → h'.IsListIter J l (i + 2) → IsPair h' s.heap.objs.size x y → h'.objs.size = s.heap.objs.size + 1 →
      (∀ c o, c ≠ z → c ≠ TO → c ≠ J → s.heap.get? c = some o → h'.get? c = some o) → Q (.ref s.heap.objs.size) { s with heap := h' }) :
    wpAny (model C.prog C.w) A (Builtin.«zip.__next__» ⟨[.ref z], []⟩) (fun fin s' => ∃ v, fin = .done (.ret v) ∧ Q v s') E s := by
  have hz := Z.zip
  (refine x3_1 (Z.own) fun a b n hTO => ?_)
  show wpAny _ _ (field (.ref z) 2 >>= _) _ _ _
  refine wpAny_bind (wpAny_field hz rfl (x := .bool false) rfl ?_)
  show wpAny _ _ (field (.ref z) 3 >>= _) _ _ _
  refine wpAny_bind (wpAny_field hz rfl (x := .ref TI) rfl ?_)
  refine wpAny_bind (wpAny_seqItems Z.ti rfl ?_)
  show wpAny _ _ (Builtin.SmallTypes.ownedTupleIsFree (.ref z) >>= _) _ _ _
  refine wpAny_bind ?_
  unfold Builtin.SmallTypes.ownedTupleIsFree
  refine wpAny_bind (wpAny_field hz rfl (x := .none) rfl (wpAny_pure ?_))
  simp only [if_true]
  refine wpAny_bind (wpAny_rule ?_)
  refine wpAny_bind (wpAny_field hz rfl (x := .ref TO) rfl ?_)
  refine wpAny_bind (wpAny_setField_rec hz (by simp) fun h₁ hz₁ hs₁ => ?_)
  replace hz₁ : IsZip h₁ z TI TO .ellipsis := hz₁
  refine wpAny_bind ?_
  simp only [List.zipIdx_cons, List.zipIdx_nil, List.forIn_cons, List.forIn_nil]
  refine wpAny_bind (wpAny_bind (wpAny_onRaise ?_))
  show wpAny _ _ (Builtin.SmallTypes.nextOf (.ref J) >>= _) _ _ _
  refine wpAny_bind (wpAny_nextOf_list_item (Z.it.extBut hs₁.extBut D.Jz) (hl.extBut hs₁.extBut D.lz) hx fun h₂ h1₂ hs₂ => wpAny_pure ?_)
  have hTO₂ := hs₂.extBut _ _ D.TOJ (hs₁.extBut _ _ D.TOz hTO)
  refine wpAny_bind (wpAny_seqItems hTO₂ rfl ?_)
  refine wpAny_bind (own_upd hTO₂ fun h₃ hTO₃ hs₃ => ?_)
  replace hTO₃ : h₃.get? TO = some { cls := .type "tuple", data := .seq #[x, b] n } := hTO₃
  refine wpAny_bind (wpAny_letGo (wpAny_pure ?_))
  refine wpAny_bind (wpAny_bind (wpAny_onRaise ?_))
  show wpAny _ _ (Builtin.SmallTypes.nextOf (.ref J) >>= _) _ _ _
  refine wpAny_bind (wpAny_nextOf_list_item (h1₂.extBut hs₃.extBut D.TOJ.symm)
    (((hl.extBut hs₁.extBut D.lz).extBut hs₂.extBut D.lJ).extBut hs₃.extBut D.lTO) hy fun h₄ h2₄ hs₄ => wpAny_pure ?_)
  have hTO₄ := hs₄.extBut _ _ D.TOJ hTO₃
  refine wpAny_bind (wpAny_seqItems hTO₄ rfl ?_)
  refine wpAny_bind (own_upd hTO₄ fun h₅ hTO₅ hs₅ => ?_)
  replace hTO₅ : h₅.get? TO = some { cls := .type "tuple", data := .seq #[x, y] n } := hTO₅
  refine wpAny_bind (wpAny_letGo (wpAny_pure (wpAny_pure ?_)))
  refine wpAny_bind (wpAny_seqItems hTO₅ rfl ?_)
  refine wpAny_bind (wpAny_newTuple ?_)
  have hsz : h₅.objs.size = s.heap.objs.size := by rw [hs₅.1, hs₄.1, hs₃.1, hs₂.1, hs₁.1]
  have hz₅ : IsZip h₅ z TI TO .ellipsis := hs₅.extBut _ _ D.TOz.symm (hs₄.extBut _ _ D.Jz.symm (hs₃.extBut _ _ D.TOz.symm (hs₂.extBut _ _ D.Jz.symm hz₁)))
  have hk₅ : ∀ c o, c ≠ z → c ≠ TO → c ≠ J → s.heap.get? c = some o → h₅.get? c = some o := fun c o c1 c2 c3 e =>
    hs₅.extBut _ _ c2 (hs₄.extBut _ _ c3 (hs₃.extBut _ _ c2 (hs₂.extBut _ _ c3 (hs₁.extBut _ _ c1 e))))
  have h2₅ : h₅.IsListIter J l (i + 2) := h2₄.extBut hs₅.extBut D.TOJ.symm
  have hzlt : z < h₅.objs.size := Heap.lt_size hz₅
  show wpAny _ _ (Builtin.SmallTypes.ownedTupleHandOut (.ref z) (.ref h₅.objs.size) >>= _) _ _ _
  refine wpAny_bind ?_
  unfold Builtin.SmallTypes.ownedTupleHandOut
  have hz₆ : IsZip (h₅.push { cls := .type "tuple", data := .seq #[x, y] }) z TI TO .ellipsis := Heap.get?_push_of_some _ hz₅
  refine wpAny_bind (wpAny_setField_rec hz₆ (by simp) fun h₇ hz₇ hs₇ => ?_)
  replace hz₇ : IsZip h₇ z TI TO (rawInt h₅.objs.size) := hz₇
  refine wpAny_setField_rec hz₇ (by simp) fun h₈ hz₈ hs₈ => ?_
  replace hz₈ : IsZip h₈ z TI TO (rawInt h₅.objs.size) := hz₈
  have up : ∀ c o, c ≠ z → h₅.get? c = some o → h₈.get? c = some o := fun c o c1 e => hs₈.extBut _ _ c1 (hs₇.extBut _ _ c1 (Heap.get?_push_of_some _ e))
  have hT₈ : IsPair h₈ h₅.objs.size x y := hs₈.extBut _ _ (Nat.ne_of_gt hzlt) (hs₇.extBut _ _ (Nat.ne_of_gt hzlt) (Heap.get?_push_size _ rfl))
  have hz8 : h₈.objs.size = h₅.objs.size + 1 := by rw [hs₈.1, hs₇.1, Heap.size_push]
  rw [hsz] at hz₈ hT₈ hz8
  refine wpAny_pure ⟨_, rfl, ?_⟩
  show Q (.ref h₅.objs.size) _
  rw [hsz]
  exact hQ h₈ hz₈ ⟨_, _, _, up _ _ D.TOz hTO₅⟩ (h2₅.at fun o e => up _ o D.Jz e) hT₈ hz8 fun c o c1 c2 c3 e => up c o c1 (hk₅ c o c1 c2 c3 e)
set_option tactic.hygienic false in
theorem zip1_end {z TI TO J l : Addr} {i : Nat} {xs : Array Value} {Q : Fin → Shared → Prop} (hh : A.handled = none) (D : Apart1 z TI TO J l) (Z : ZipAt s.heap z TI TO J l i) (hl : s.heap.IsList l xs) (hend : xs[i]? = none ∨ xs[i + 1]? = none)
    (hE : ∀ h' e, Own h' TO → (∀ c o, c ≠ z → c ≠ TO → c ≠ J → s.heap.get? c = some o → h'.get? c = some o) → (∃ o, h'.get? e = some o ∧ o.cls = .type "StopIteration") → E (.ref e) { s with heap := h' }) :
    wpAny (model C.prog C.w) A (Builtin.«zip.__next__» ⟨[.ref z], []⟩) Q E s := by
  have hz := Z.zip
  (refine x3_1 (Z.own) fun a b n hTO => ?_)
  show wpAny _ _ (field (.ref z) 2 >>= _) _ _ _
  refine wpAny_bind (wpAny_field hz rfl (x := .bool false) rfl ?_)
  show wpAny _ _ (field (.ref z) 3 >>= _) _ _ _
  refine wpAny_bind (wpAny_field hz rfl (x := .ref TI) rfl ?_)
  refine wpAny_bind (wpAny_seqItems Z.ti rfl ?_)
  show wpAny _ _ (Builtin.SmallTypes.ownedTupleIsFree (.ref z) >>= _) _ _ _
  refine wpAny_bind ?_
  unfold Builtin.SmallTypes.ownedTupleIsFree
  refine wpAny_bind (wpAny_field hz rfl (x := .none) rfl (wpAny_pure ?_))
  simp only [if_true]
  refine wpAny_bind (wpAny_rule ?_)
  refine wpAny_bind (wpAny_field hz rfl (x := .ref TO) rfl ?_)
  refine wpAny_bind (wpAny_setField_rec hz (by simp) fun h₁ hz₁ hs₁ => ?_)
  replace hz₁ : IsZip h₁ z TI TO .ellipsis := hz₁
  refine wpAny_bind ?_
  simp only [List.zipIdx_cons, List.zipIdx_nil, List.forIn_cons, List.forIn_nil]
  refine wpAny_bind (wpAny_bind (wpAny_onRaise ?_))
  show wpAny _ _ (Builtin.SmallTypes.nextOf (.ref J) >>= _) _ _ _
  cases hx : xs[i]? with
  | none =>
    refine wpAny_bind (wpAny_nextOf_list_end hh (Z.it.extBut hs₁.extBut D.Jz) (hl.extBut hs₁.extBut D.lz) hx fun h₂ e hs₂ he => ?_)
    (refine x1_2 (he) fun oe hoe hce => ?_; clear he)
    have hz₂ : IsZip h₂ z TI TO .ellipsis := hs₂ _ _ D.Jz.symm hz₁
    have hez : e ≠ z := fun x => by subst x; rw [hz₂] at hoe; cases hoe; simp at hce
    exact wpAny_setField_rec hz₂ (by simp) fun h₃ uu hs₃ => hE h₃ e ⟨a, b, n, hs₃.extBut _ _ D.TOz (hs₂ _ _ D.TOJ (hs₁.extBut _ _ D.TOz hTO))⟩ (fun c o c1 uu c3 x => hs₃.extBut _ _ c1 (hs₂ _ _ c3 (hs₁.extBut _ _ c1 x))) ⟨oe, hs₃.extBut _ _ hez hoe, hce⟩
  | some x =>
    have hy : xs[i + 1]? = none := by rcases hend with h | h; rw [hx] at h; cases h; exact h
    refine wpAny_bind (wpAny_nextOf_list_item (Z.it.extBut hs₁.extBut D.Jz) (hl.extBut hs₁.extBut D.lz) hx fun h₂ h1₂ hs₂ => wpAny_pure ?_)
    have hTO₂ := hs₂.extBut _ _ D.TOJ (hs₁.extBut _ _ D.TOz hTO)
    refine wpAny_bind (wpAny_seqItems hTO₂ rfl ?_)
    refine wpAny_bind (own_upd hTO₂ fun h₃ hTO₃ hs₃ => ?_)
    replace hTO₃ : h₃.get? TO = some { cls := .type "tuple", data := .seq #[x, b] n } := hTO₃
    refine wpAny_bind (wpAny_letGo (wpAny_pure ?_))
    refine wpAny_bind (wpAny_bind (wpAny_onRaise ?_))
    show wpAny _ _ (Builtin.SmallTypes.nextOf (.ref J) >>= _) _ _ _
    refine wpAny_bind (wpAny_nextOf_list_end hh (h1₂.extBut hs₃.extBut D.TOJ.symm)
      (((hl.extBut hs₁.extBut D.lz).extBut hs₂.extBut D.lJ).extBut hs₃.extBut D.lTO) hy fun h₄ e hs₄ he => ?_)
    (refine x1_2 (he) fun oe hoe hce => ?_; clear he)
    have hz₄ : IsZip h₄ z TI TO .ellipsis := hs₄ _ _ D.Jz.symm (hs₃.extBut _ _ D.TOz.symm (hs₂.extBut _ _ D.Jz.symm hz₁))
    have hez : e ≠ z := fun x => by subst x; rw [hz₄] at hoe; cases hoe; simp at hce
    exact wpAny_setField_rec hz₄ (by simp) fun h₅ uu hs₅ => hE h₅ e ⟨x, b, n, hs₅.extBut _ _ D.TOz (hs₄ _ _ D.TOJ hTO₃)⟩ (fun c o c1 c2 c3 x => hs₅.extBut _ _ c1 (hs₄ _ _ c3 (hs₃.extBut _ _ c2 (hs₂.extBut _ _ c3 (hs₁.extBut _ _ c1 x))))) ⟨oe, hs₅.extBut _ _ hez hoe, hce⟩
set_option tactic.hygienic false in
theorem pyNext1_item {z TI TO J l : Addr} {i : Nat} {xs : Array Value} {x y : Value} {Q : Option Value → Shared → Prop} (D : Apart1 z TI TO J l) (Z : ZipAt s.heap z TI TO J l i) (hl : s.heap.IsList l xs) (hx : xs[i]? = some x) (hy : xs[i + 1]? = some y)
    (hQ : ∀ h', IsZip h' z TI TO (rawInt s.heap.objs.size) → Own h' TO → h'.IsListIter J l (i + 2) → IsPair h' s.heap.objs.size x y → h'.objs.size = s.heap.objs.size + 1 →
      (∀ c o, c ≠ z → c ≠ TO → c ≠ J → s.heap.get? c = some o → h'.get? c = some o) → Q (some (.ref s.heap.objs.size)) { s with heap := h' }) :
    wpAny (model C.prog C.w) A (pyNext (.ref z)) Q E s := by
  have hT : s.TypeIs (.ref z) "zip" := ⟨_, Z.zip, rfl⟩
  unfold pyNext
  exact wpAny_bind (wpAny_attempt (wpAny_callSpecial?_slot (name := Str.ofString "__next__") hT F.slot_zip_next
    (wpAny_call_entry F.slot_zip_next hT F.entry_zip_next (zip1_item D Z hl hx hy fun h' a1 a2 a3 a4 a5 a6 => wpAny_pure (hQ h' a1 a2 a3 a4 a5 a6)) (F.args_zip_next_1 _))))
set_option tactic.hygienic false in
theorem pyNext1_end {z TI TO J l : Addr} {i : Nat} {xs : Array Value} {Q : Option Value → Shared → Prop} (hh : A.handled = none) (D : Apart1 z TI TO J l) (Z : ZipAt s.heap z TI TO J l i) (hl : s.heap.IsList l xs) (hend : xs[i]? = none ∨ xs[i + 1]? = none)
    (hQ : ∀ h', Own h' TO → (∀ c o, c ≠ z → c ≠ TO → c ≠ J → s.heap.get? c = some o → h'.get? c = some o) → Q none { s with heap := h' }) : wpAny (model C.prog C.w) A (pyNext (.ref z)) Q E s := by
  have hT : s.TypeIs (.ref z) "zip" := ⟨_, Z.zip, rfl⟩
  unfold pyNext
  refine wpAny_bind (wpAny_attempt (wpAny_callSpecial?_slot (name := Str.ofString "__next__") hT F.slot_zip_next
    (wpAny_call_entry F.slot_zip_next hT F.entry_zip_next (zip1_end hh D Z hl hend fun h' e ow hk he => ?_) (F.args_zip_next_1 _))))
  (refine x1_2 (he) fun o ho hc => ?_; clear he)
  refine wpAny_bind (wpAny_isInstance (T := "StopIteration") (b := true) ⟨o, ho, hc⟩ isSubtype_stop ?_)
  exact wpAny_pure (hQ _ ow hk)
end
end Mine.Internal
end
section
open PySem PySem.W PyProof.Rows PySem.Calls
namespace Mine.Internal
section
variable {C : Cfg} {ρ ρ' : Rho} {σ σ' : St} {s : Shared} {A : Around} {E : Value → Shared → Prop} {env : Env} {vars : List Str} {lc : Lc} {d : Nat} {p : Pos}
set_option tactic.hygienic false in
theorem callWith_star {P : Heap → Prop} {f : Value} {first : List Value} {Q : Value → Shared → Prop} {x : Sem Value} (hk : ∀ h, P h → ∃ k, (k = Keeper.frame ∨ k = Keeper.machine ∨ k = Keeper.boundFrame) ∧ Looks (model C.prog C.w) h (keeperOf f) k)
    (h : wpAny (model C.prog C.w) A (evalArgs f true [(true, x)] []) (fun a s₁ => P s₁.heap ∧ wpAny (model C.prog C.w) A (call f (first ++ a.pos) a.kw) Q E s₁) E s) : wpAny (model C.prog C.w) A (callWith p f first [(true, x)] []) Q E s := by
  unfold callWith
  refine wpAny_bind (wpAny_holding (wpAny_mono h (fun a s₁ h₁ => wpAny_bind (wpAny_standAt ?_)) fun uu uu x => x))
  (refine x1_2 (hk _ h₁.1) fun k hk' L => ?_)
  refine wpAny_bind (L.here ?_)
  have tail : ∀ {t : Sem Value}, wpAny (model C.prog C.w) A t Q E s₁ → wpAny (model C.prog C.w) A (t >>= fun r => holding [r] point >>= fun uu => pure r) Q E s₁ :=
    fun ht => wpAny_bind (wpAny_mono ht (fun r s₂ hr => wpAny_bind (wpAny_holding (wpAny_point (wpAny_pure hr)))) fun uu uu x => x)
  rcases hk' with rfl | rfl | rfl
  · exact tail (by unfold callMarked; exact Calls.wpAny_keep h₁.2)
  · exact tail (wpAny_operate' h₁.2)
  · exact tail (wpAny_operate' h₁.2)
set_option tactic.hygienic false in
theorem star_args {f : Value} {x : Sem Value} {Q : Args → Shared → Prop} {T : String} (hT : T = "list" ∨ T = "tuple")
    (h : wpAny (model C.prog C.w) A x (fun v s₁ => ∃ a items n, v = .ref a ∧ s₁.heap.get? a = some { cls := .type T, data := .seq items n } ∧ items.size ≤ sizeLine ∧ ∀ h', (∀ b o, s₁.heap.get? b = some o → h'.get? b = some o) → s₁.heap.objs.size ≤ h'.objs.size → Q ⟨items.toList, []⟩ { s₁ with heap := h' }) E s) :
    wpAny (model C.prog C.w) A (evalArgs f true [(true, x)] []) Q E s := by
  unfold evalArgs
  refine wpAny_bind (wpAny_mono h (fun v s₁ h₁ => ?_) fun uu uu z => z)
  (refine x3_4 (h₁) fun a items n rr3 ho hsz kk => ?_; clear h₁; subst rr3)
  refine wpAny_bind (wpAny_pure (wpAny_holding ?_))
  refine wpAny_bind (wpAny_pure ?_)
  refine wpAny_bind (wpAny_bind ?_)
  unfold notIterableAtAll
  have hty : s₁.TypeIs (.ref a) T := ⟨_, ho, rfl⟩
  have fin : wpAny (model C.prog C.w) A (holding [] (collect (.ref a))) (fun vs s₂ => wpAny (model C.prog C.w) A (pure (⟨vs, []⟩ : Args) : Sem Args) Q E s₂) E s₁ := by
    refine wpAny_holding (with_size (wpAny_collect_seq a hT ho rfl rfl (fun h' kp z => ?_) hsz))
    exact wpAny_pure (kk h' kp z)
  rcases hT with rfl | rfl
  · refine wpAny_bind (wpAny_specialOf hty slot_list_iter.lookup (wpAny_pure ?_))
    simp only [Bool.false_eq_true, if_false]
    exact fin
  · refine wpAny_bind (wpAny_specialOf hty F.slot_tuple_iter.lookup (wpAny_pure ?_))
    simp only [Bool.false_eq_true, if_false]
    exact fin
set_option tactic.hygienic false in
theorem getAttr_listM {name : Str} {x Cl f : Addr} {ox : Obj} {od : Option Obj} {expr : Bool} {Q : Value → Shared → Prop} (X : C.K.In s.heap) (I : W.InstAt s.heap x ox Cl od) (hga : findIn C.K (.ref Cl) "__getattribute__" = some (some (.builtin "list.__getattribute__"))) (hgt : findIn C.K (.ref Cl) "__getattr__" = some none)
    (hm : mroIn C.K Cl (.type "list") = some true) (hf : findObj C.K Cl od name = some (.bind (.builtin "function.__get__") (.ref f))) (ht : typeIn C.K (.ref f) = some (.type "function")) (k : Q (.ref s.heap.objs.size) { s with heap := s.heap.push (methodObj (.ref f) (.ref x)), toks := s.toks + 1 }) : wpAny (model C.prog C.w) A (getAttr (.ref x) name expr) Q E s := by
  have L1 := looks_findIn (M := model C.prog C.w) X hga
  have L2 := looks_findIn (M := model C.prog C.w) X hgt
  have L3 := looks_find (M := model C.prog C.w) X I hf
  have L0 := I.type (M := model C.prog C.w)
  obtain ⟨hp, g, d, t, os⟩ := s
  unfold getAttr getAttrBy
  refine wpAny_bind (wpAny_mkText (wpAny_holding (wpAny_bind (L0.at (wpAny_bind (L1.at ?_))))))
  show wpAny _ _ (getAttrByItsOwn _ _ _ _ _ _) _ _ _
  unfold getAttrByItsOwn
  refine wpAny_bind (L2.at ?_)
  refine wpAny_bind (wpAny_attempt (wpAny_holding ?_))
  have e : callGetattribute (.ref x) (.str name t) (.builtin "list.__getattribute__") expr = boundAndCalled (.builtin "list.__getattribute__") (.ref x) (.str name t) := by
    unfold callGetattribute
    rw [if_neg (by simp [onTheHeap])]
  rw [e]
  unfold boundAndCalled
  rw [ga_bind]
  refine wpAny_bind (wpAny_pure ?_)
  refine call_below (s := ⟨hp, g, d, t + 1, os⟩) X I hm (.inr (by decide +kernel)) (n := "__getattribute__") (by decide +kernel) (by decide +kernel) F.entry_list_ga (by unfold argsOk; kernel_rfl) ?_
  refine wpAny_bind (wpAny_pure (wpAny_bind (wpAny_pure (wpAny_bind (L0.at (wpAny_bind (L3.at ?_)))))))
  show wpAny _ _ (holding [.ref f] (call (.builtin "function.__get__") [.ref f, .ref x, .ref Cl]) >>= ret) _ _ _
  refine wpAny_bind (wpAny_holding (wpAny_call (fn_get X ht ?_)))
  refine wpAny_pure ⟨_, rfl, ?_⟩
  show wpAny _ _ (handedOut (.ref _)) _ _ _
  rw [handedOut_of rfl]
  exact wpAny_pure k
noncomputable def mStarE (F : List AV → St → Option (AV × St)) (f g : EM) : EM := fun lc σ => match f lc σ with
  | some (r, σ₁) => if kind σ₁ r = 4 then (match g lc σ₁ with
    | some (.tup xs, σ₂) => if xs.length < 1000 then F (r :: xs) σ₂ else none
    | _ => none) else none
  | none => none
end
end Mine.Internal
end
section
open PySem PySem.W PyProof.Rows PySem.Calls
namespace Mine.Internal
section
variable {C : Cfg} {ρ ρ' : Rho} {σ σ' : St} {s : Shared} {A : Around} {E : Value → Shared → Prop} {env : Env} {vars : List Str} {lc : Lc} {d : Nat} {p : Pos}
structure BindOk (C : Cfg) (name : Str) (f : Addr) : Prop where
  hf : findIn C.K (.ref C.ACC) name = some (some (.ref f))
  hg : specialIn C.K (.ref f) "__get__" = some (some (.builtin "function.__get__"))
  ht : takesIn C.K (.ref f) = some false
  hc : copiedNames.contains name = false
  ty : typeIn C.K (.ref f) = some (.type "function")
  fn : fnIn C.K f = true
  nm : (name == ("_initial_size" : Str)) = false
set_option tactic.hygienic false in
theorem findObj_fn {K : Frag} {Cl : Addr} {name : Str} {a g : Value} {od : Obj} (hh : hasDictIn K Cl = true) (ha : findIn K (.ref Cl) name = some (some a)) (hg : specialIn K a "__get__" = some (some g)) (ht : takesIn K a = some false) (hc : copiedNames.contains name = false) (hl : lookIn name od = some none) :
    findObj K Cl (some od) name = some (.bind g a) := by
  (refine x1_2 (any_some hh) fun cd hc' hd => ?_)
  unfold findObj
  have ho : W.ownOf cd (some od) name = some none := by unfold W.ownOf; rw [if_pos hd]; exact hl
  rw [hc', Option.bind_some, ha, Option.bind_some]
  simp only [hg, ht, Option.bind_some, ho, hc, Bool.false_and, Bool.false_eq_true, if_false]
theorem den_methStar (H : CfgOk C) (HC : ClsOk C) {name : Str} {f : Addr} {F : List AV → St → Option (AV × St)} {o e : Expr} {fo g : EM} {apos ps : Pos} (B : BindOk C name f) (DF : DenF C d f F) (D0 : DenE C d env vars o fo) (D : DenE C d env vars e g)
    (hb : ∀ nm whole, attributeBase o nm env whole = whole) : DenE C d env vars (.Call (.Attribute o name apos) [.Starred e ps] [] p) (mStarE F fo g) := by
  intro lc σ y σ' hf A Q E s ρ hA R lr kk
  unfold mStarE at hf
  (refine s1 hf ?_; clear hf; intro r σ₁ e1 hf)
  (refine sf hf ?_; clear hf; intro hkd hf)
  split at hf
  · rename_i xs σ₂ e2
    (refine sf hf ?_; clear hf; intro hlen hf)
    rw [arm_eval_Call, hb]
    refine wpAny_bind (D0 _ _ _ _ e1 A _ E s ρ hA R lr fun v s₁ ρ₁ R₁ S₁ q₁ => wpAny_bind (wpAny_standAt ?_))
    show wpAny _ _ (methodCall o name apos p env v 1 [(true, eval e env >>= fun v => standAt p >>= fun uu => pure v)] []) _ _ _
    unfold methodCall
    refine wpAny_bind (wpAny_holding ?_)
    show wpAny _ _ (getAttr v name true >>= fun r => pure (r, [])) _ _ _
    obtain ⟨l, ob, rfl, hl⟩ := kind_loc hkd (by (first | lia | omega))
    (refine x1_2 (R₁.obj hl) fun pp e3 obj => ?_)
    refine q₁.loc_e fun uu e0 => ?_
    ·
      rw [e0] at e3
      (refine c1 e3 fun hh0 => ?_; clear e3; subst hh0)
      cases obj with
      | list => simp [kind, hl] at hkd
      | ghost => simp [kind, hl] at hkd
      | out => simp [kind, hl] at hkd
      | gen => simp [kind, hl] at hkd
      | fmt => simp [kind, hl] at hkd
      | @acc a dd es n n' vs ini ps' ho hd he hs =>
        have gl := entR_get (name := name) he
        have en : (accAttrs ini).lookup name = none := by
          unfold accAttrs
          simp only [List.lookup_cons, B.nm, List.lookup_nil]
        rw [en] at gl
        refine wpAny_bind (getAttr_listM (R₁.kin H) (accInst ho hd) HC.acGa HC.acGt HC.acMro (findObj_fn HC.acDict B.hf B.hg B.ht B.hc gl) B.ty ?_)
        refine wpAny_pure ?_
        dsimp only
        show wpAny _ _ (pure p >>= _) _ _ _
        refine wpAny_bind (wpAny_pure ?_)
        have R₂ := R₁.push (methodObj (.ref f) (.ref a)) (n := s₁.toks + 1)
        have S₂ : Step C [] ρ₁ ρ₁ s₁.heap (s₁.heap.push (methodObj (.ref f) (.ref a))) := .pushObj _
        have hq : (s₁.heap.push (methodObj (.ref f) (.ref a))).get? s₁.heap.objs.size = some (methodObj (.ref f) (.ref a)) := Heap.get?_push_size _ rfl
        have fr := R₁.fresh
        refine callWith_star (P := MethP C.K s₁.heap.objs.size f (.ref a)) (fun h X => keeps_M B.fn h X) (star_args (.inr rfl) ?_)
        refine wpAny_bind (D _ _ _ _ e2 A _ E _ ρ₁ hA R₂ ((lr.go S₁).go S₂) fun v' s₃ ρ₃ R₃ S₃ q₃ => wpAny_bind (wpAny_standAt (wpAny_pure ?_)))
        cases q₃ with
        | @tup ta tvs tn _ tho thm ths =>
          refine ⟨ta, tvs.toArray, tn, rfl, tho, by rw [List.size_toArray, ths.length]; rw [sizeLine_eq]; (first | lia | omega), fun h' kp z => ?_⟩
          have R₄ : Rel C ρ₃ σ₂ { s₃ with heap := h' } := R₃.same kp z R₃.gens rfl rfl
          have S₄ : Step C [] ρ₃ ρ₃ s₃.heap h' := .same kp z
          have hq' : h'.get? s₁.heap.objs.size = some (methodObj (.ref f) (.ref a)) := kp _ _ (S₃.keep _ _ hq fr (by simp))
          refine ⟨⟨hq', R₄.kin H⟩, ?_⟩
          rw [List.nil_append]
          refine wpAny_call (method_call hq' ?_)
          have qr : VR C ρ₃ h' (.loc l) (.ref a) := (((VR.loc e0 : VR C ρ₁ s₁.heap (.loc l) (.ref a)).go S₂).go S₃).go S₄
          refine DF _ _ _ _ hf A _ _ ρ₃ (.ref a :: tvs) hA R₄ (.cons qr (ths.go S₄)) fun v'' s₅ ρ₅ R₅ S₅ q₅ => ?_
          exact kk v'' s₅ ρ₅ R₅ ((((S₁.trans S₂).trans S₃).trans S₄).trans S₅) q₅
  · exact ns hf
theorem den_unp (He : EnvOk env vars) {i j : Nat} {n m : Str} {e : Expr} {f : EM} {k0 : Nat} {pa pb pt : Pos} (hi : vars[i]? = some n) (hj : vars[j]? = some m) (D : DenE C d env vars e f)
    (hs : swapsWithSole [.Tuple [.Name n pa, .Name m pb] k0 pt] e p.line env = pure false) (hw : swappedStores [.Tuple [.Name n pa, .Name m pb] k0 pt] e env = pure none) :
    DenS C d env vars (.Assign [.Tuple [.Name n pa, .Name m pb] k0 pt] e p) (unpS i j f) := by
  intro lc σ fl lc' σ' hf A Q E s ρ hA R lr kk
  unfold unpS at hf
  split at hf
  · rename_i x y σ₁ e1
    (refine sy hf ?_; clear hf; intro lc₁ e2 hf)
    (refine x1_2 (Option.map_eq_some_iff.mp hf) fun lc₂ e3 e4 => ?_)
    (refine p3 e4 fun hh0 hh1 hh2 => ?_; clear e4; subst hh0; subst hh1; subst hh2)
    refine wpAny_Assign_stores (D _ _ _ _ e1 A _ E s ρ hA R lr fun v s₁ ρ₁ R₁ S₁ q₁ => ?_) hs hw
    cases q₁ with
    | @tup ta tvs tn _ tho thm ths =>
      cases ths with
      | cons qa ths =>
        cases ths with
        | cons qb ths =>
          cases ths
          have nsW := ns_noSeq (lr.go S₁).1.choose_spec.1
          show wpAny _ _ (assign (.Tuple [.Name n pa, .Name m pb] k0 pt) env (.ref ta)) _ _ _
          refine store_two He hi hj e2 e3 hA.1 R₁ (lr.go S₁) tho qa qb fun s₂ R₂ S₂ l₂ => ?_
          exact kk _ s₂ ρ₁ R₂ (S₁.of_nil.trans S₂) l₂ .next
  · exact ns hf
end
end Mine.Internal
end
section
open PySem PySem.W PyProof.Rows PySem.Calls
namespace Mine.Internal
noncomputable def nxZ (g : Nat) (src : AV) : St → Nat → Option (Option AV) := fun σ i => match σ[g]? with
  | some .ghost => match asList σ src with
    | some xs => match xs[2 * i]?, xs[2 * i + 1]? with
      | some x, some y => some (some (.tup [x, y]))
      | _, _ => some none
    | none => none
  | _ => none
noncomputable def put2 (i j : Nat) : Lc → AV → Option Lc := fun lc v => match v with
  | .tup [x, y] => match putL lc i x with
    | some lc₁ => putL lc₁ j y
    | none => none
  | _ => none
section
variable {C : Cfg} {ρ ρ' : Rho} {σ σ' : St} {s : Shared} {A : Around} {E : Value → Shared → Prop} {env : Env} {vars : List Str} {lc : Lc} {d : Nat} {p : Pos}
set_option tactic.hygienic false in
theorem call_iter_list {l : Addr} {items : Array Value} {Q : Value → Shared → Prop} (hl : s.heap.IsList l items)
    (h : Q (.ref s.heap.objs.size) { s with heap := s.heap.push { cls := .type "list_iterator", data := .fields #[.ref l, .int 0 0] } }) : wpAny (model C.prog C.w) A (call (.builtin "iter") [.ref l]) Q E s := by
  refine call_function_entry (by decide +kernel) (by decide +kernel) kdk_entry_iter (kdk_args_iter _) ?_
  unfold Builtin.«iter»
  refine wpAny_bind (m := someArgs "iter" 1 2 _) (wpAny_of_eq (a := [Value.ref l]) (by first | rfl | kernel_rfl!) ?_)
  show wpAny _ _ (pyIter (.ref l) >>= _) _ _ _
  refine wpAny_bind (wpAny_pyIter_list hl ?_)
  exact wpAny_pure ⟨_, rfl, h⟩
set_option tactic.hygienic false in
theorem mul2 {l : Addr} {v : Value} {k : Nat} {u : Tok} {Q : Value → Shared → Prop} (hl : s.heap.get? l = some { cls := .type "list", dict := none, data := .seq #[v] k, slots := #[] })
    (h : Q (.ref s.heap.objs.size) { s with heap := s.heap.push { cls := .type "list", data := .seq #[v, v] } }) : wpAny (model C.prog C.w) A (binaryOp .Mult (.ref l) (.int 2 u)) Q E s :=
  wpAny_binaryOp_repeat_ref (T := "list") (U := "int") (by decide) ⟨_, hl, rfl⟩ (fun s' => typeIs_int s' 2 u) noFill_list_mul PySem.F.fills_int_mul PySem.F.slot_int_rmul repeat_list PySem.F.slot_int_index.lookup
    (call_meets PySem.F.slot_int_rmul (typeIs_int s 2 u) PySem.F.entry_int_rmul (PySem.F.args_int_rmul_2 _ _) (int___rmul___int_list 2 u l #[v] k)
      ⟨hl, rfl, ⟨_, hl, rfl⟩, call_meets PySem.F.slot_list_mul ⟨_, hl, rfl⟩ PySem.F.entry_list_mul (PySem.F.args_list_mul_2 _ _)
        (AutoListH.list___mul___list_int_3 l #[v] k 2 u (by simp [Builtin.List.listFitsIndex]) (by simp) (by simp [Builtin.List.listTooLong, sizeLine]))
        ⟨hl, h⟩⟩)
set_option tactic.hygienic false in
theorem meets_zip1 (J l : Addr) (i : Nat) :
    Meets (Builtin.«zip.__new__» ⟨[.type "zip", .ref J, .ref J], []⟩) (fun uu R s => s.heap.IsListIter J l i ∧
      R (.ok (.ret (.ref (s.heap.objs.size + 2)))) { s with heap := ((s.heap.push { cls := .type "tuple", data := .seq #[.ref J, .ref J] }).push { cls := .type "tuple", data := .seq #[.none, .none] }).push { cls := .type "zip", data := .fields #[.none, .bool false, .bool false, .ref s.heap.objs.size, .ref (s.heap.objs.size + 1)] } }) :=
  .of_wp fun prog w A R s h => by
    obtain ⟨hp, g, d, tk, os⟩ := s; (refine x0_2 (h) fun hl1 h => ?_)
    have hsub := sub_zip
    have hL1 : Heap.IsListIter (Shared.heap ⟨hp, g, d, tk, os⟩) J l i := hl1
    have e1 : (hp.push { cls := .type "tuple", data := .seq #[.ref J, .ref J] }).objs.size = hp.objs.size + 1 := Heap.size_push ..
    have e2 : ((hp.push { cls := .type "tuple", data := .seq #[.ref J, .ref J] }).push { cls := .type "tuple", data := .seq #[.none, .none] }).objs.size = hp.objs.size + 2 := by rw [Heap.size_push, e1]
    wp_walk using wpAny_pyIter_listiter hL1
    refine ⟨_, rfl, ?_⟩
    rw [← e1, ← e2] at h
    exact h
set_option tactic.hygienic false in
theorem call_zip1 {J l : Addr} {i : Nat} {Q : Value → Shared → Prop} (hl : s.heap.IsListIter J l i)
    (h : ∀ h', ZipAt h' (s.heap.objs.size + 2) s.heap.objs.size (s.heap.objs.size + 1) J l i → h'.objs.size = s.heap.objs.size + 3 →
      (∀ c o, s.heap.get? c = some o → h'.get? c = some o) → Q (.ref (s.heap.objs.size + 2)) { s with heap := h' }) :
    wpAny (model C.prog C.w) A (call (.type "zip") [.ref J, .ref J]) Q E s := by
  refine callType_new PySem.F.called_zip (by decide) (PySem.F.typeCall_zip_2 _ _) (PySem.F.newCall_zip_2 _ _) (fun obj => PySem.F.args_object_init_3 obj _ _) PySem.F.entry_zip_new
    (meets_zip1 J l i) ⟨hl, ?_⟩
  have g1 : (s.heap.push { cls := .type "tuple", data := .seq #[.ref J, .ref J] }).get? s.heap.objs.size = some { cls := .type "tuple", data := .seq #[.ref J, .ref J] } := Heap.get?_push_size _ rfl
  have e1 : (s.heap.push { cls := .type "tuple", data := .seq #[.ref J, .ref J] }).objs.size = s.heap.objs.size + 1 := Heap.size_push ..
  have g2 : ((s.heap.push { cls := .type "tuple", data := .seq #[.ref J, .ref J] }).push { cls := .type "tuple", data := .seq #[.none, .none] }).get? (s.heap.objs.size + 1) = some { cls := .type "tuple", data := .seq #[.none, .none] } := e1 ▸ Heap.get?_push_size _ rfl
  have e2 : ((s.heap.push { cls := .type "tuple", data := .seq #[.ref J, .ref J] }).push { cls := .type "tuple", data := .seq #[.none, .none] }).objs.size = s.heap.objs.size + 2 := by rw [Heap.size_push, e1]
  have g3 : (((s.heap.push { cls := .type "tuple", data := .seq #[.ref J, .ref J] }).push { cls := .type "tuple", data := .seq #[.none, .none] }).push { cls := .type "zip", data := .fields #[.none, .bool false, .bool false, .ref s.heap.objs.size, .ref (s.heap.objs.size + 1)] }).get? (s.heap.objs.size + 2) = some { cls := .type "zip", data := .fields #[.none, .bool false, .bool false, .ref s.heap.objs.size, .ref (s.heap.objs.size + 1)] } := e2 ▸ Heap.get?_push_size _ rfl
  have up : ∀ c o, s.heap.get? c = some o → (((s.heap.push { cls := .type "tuple", data := .seq #[.ref J, .ref J] }).push { cls := .type "tuple", data := .seq #[.none, .none] }).push { cls := .type "zip", data := .fields #[.none, .bool false, .bool false, .ref s.heap.objs.size, .ref (s.heap.objs.size + 1)] }).get? c = some o :=
    fun c o e => Heap.get?_push_of_some _ (Heap.get?_push_of_some _ (Heap.get?_push_of_some _ e))
  show _ ∧ _
  exact ⟨⟨_, g3, rfl⟩, h _ ⟨g3, Heap.get?_push_of_some _ (Heap.get?_push_of_some _ g1), ⟨_, _, _, Heap.get?_push_of_some _ g2⟩, hl.at fun o e => up _ o e⟩ (by rw [Heap.size_push, e2]) up⟩
end
end Mine.Internal
end
section
open PySem PySem.W PyProof.Rows PySem.Calls
namespace Mine.Internal
section
variable {C : Cfg} {ρ ρ' : Rho} {σ σ' : St} {s : Shared} {A : Around} {E : Value → Shared → Prop} {env : Env} {vars : List Str} {lc : Lc} {d : Nat} {p : Pos}
set_option tactic.hygienic false in
theorem noSeqIs {Is : List Addr} {h : Heap} (hf : ∀ J ∈ Is, ∃ o, h.get? J = some o ∧ (∀ vs n, o.data ≠ .seq vs n) ∧ o.cls ≠ .type "code") : ∀ a o vs n, a ∈ Is → h.get? a = some o → o.data ≠ .seq vs n := by
  intro a o vs n ha e
  (refine x1_3 (hf a ha) fun o' ho' hn uu => ?_)
  rw [ho'] at e; cases e
  exact hn vs n
set_option tactic.hygienic false in
theorem Rel.zip (R : Rel C ρ σ s) {Is : List Addr} {g : Nat} {TO : Addr} {h' : Heap} {n : Nat} (hf : ∀ J ∈ Is, ∃ o, s.heap.get? J = some o ∧ (∀ vs n, o.data ≠ .seq vs n) ∧ o.cls ≠ .type "code") (hm : ∀ J ∈ Is, ¬ Mut C ρ J) (hl : ∀ J ∈ Is, C.s₁.heap.objs.size ≤ J)
    (hg : ρ[g]? = some (TO, TO)) (hσ : σ[g]? = some .ghost) (k : ∀ b o, b ∉ Is → b ≠ TO → s.heap.get? b = some o → h'.get? b = some o) (z : s.heap.objs.size ≤ h'.objs.size) (hT : Own h' TO) : Rel C ρ σ { s with heap := h', toks := n } ∧ Step C Is ρ ρ s.heap h' := by
  have mT : Mut C ρ TO := .inr ⟨_, List.mem_of_getElem? hg, .inl rfl⟩
  have S : Step C Is ρ ρ s.heap h' := ⟨z, fun b o e nm w => k b o w (fun z => nm (z ▸ mT)) e, [], by simp, fun uu hp => nomatch hp⟩
  have W := noSeqIs hf
  have hTlo := (R.lo _ (List.mem_of_getElem? hg)).1
  have gk : ∀ (l' : Nat) (p' : Addr × Addr) (x : AO), ρ[l']? = some p' → σ[l']? = some x → x.isGen = true → ∀ o, s.heap.get? p'.1 = some o → h'.get? p'.1 = some o := by
    intro l' p' x e e' hx o ho
    have hll : g ≠ l' := by rintro rfl; rw [hσ] at e'; cases e'; cases hx
    exact k _ o (fun mm => hm _ mm (.inr ⟨p', List.mem_of_getElem? e, .inl rfl⟩)) (dis_of R hg e hll).1.symm ho
  refine ⟨⟨fun b o e nt => ?_, fun t ht => ?_, R.lo, R.dis, R.len, fun l p o e e' => ?_, R.gens.heap gk, R.drawn, R.os, Nat.le_trans R.size z⟩, S⟩
  · have hb := Heap.lt_size e
    refine k b o (fun m => absurd (hl b m) (Nat.not_le.mpr hb)) (Nat.ne_of_lt (Nat.lt_of_lt_of_le hb hTlo)) (R.old b o e nt)
  · (refine x1_2 (R.tab t ht) fun more a b => ?_)
    have q := R.st g _ _ hg hσ
    cases q with
    | ghost hgo =>
      have hP : t.2.1 ∉ Is := fun m => hm _ m (.inl (List.mem_map.mpr ⟨t, ht, rfl⟩))
      obtain ⟨⟨o', vs, ho', hcls, hdd, _⟩, hP'⟩ := id b
      have hc : t.1 ∉ Is := fun m => by
        (refine x1_3 (hf _ m) fun o2 ho2 uu hcl => ?_)
        rw [ho'] at ho2
        (refine c1 ho2 fun hh0 => ?_; clear ho2; subst hh0)
        exact hcl hcls
      have hcT : t.1 ≠ TO := fun m => by rw [m, hgo] at ho'; cases ho'; cases hdd
      have hPT : t.2.1 ≠ TO := fun m => by rw [m, hgo] at hP'; cases hP'
      exact ⟨more, a.at2 (fun o e => k _ o hc hcT e) (fun o e => k _ o hP hPT e), b.at2 (fun o e => k _ o hc hcT e) (fun o e => k _ o hP hPT e)⟩
  · have q := R.st l p o e e'
    have n1 : p.1 ∉ Is := fun m => hm _ m (.inr ⟨p, List.mem_of_getElem? e, .inl rfl⟩)
    have n2 : p.2 ∉ Is := fun m => hm _ m (.inr ⟨p, List.mem_of_getElem? e, .inr rfl⟩)
    by_cases hgl : g = l
    · subst hgl
      rw [hg] at e; cases e
      rw [hσ] at e'; cases e'
      (refine x3_1 (hT) fun x y m hT => ?_)
      exact .ghost hT
    · have dd := dis_of R hg e hgl
      have t1 : p.1 ≠ TO := dd.1.symm
      have t2 : p.2 ≠ TO := dd.2.1.symm
      cases q with
      | list ho hs' => exact .list (k _ _ n1 t1 ho) (hs'.step S W)
      | fmt ho hd he => exact .fmt (k _ _ n1 t1 ho) (k _ _ n2 t2 hd) (he.step S W)
      | acc ho hd he hs' => exact .acc (k _ _ n1 t1 ho) (k _ _ n2 t2 hd) (he.step S W) (hs'.step S W)
      | ghost ho => exact .ghost (k _ _ n1 t1 ho)
      | out ho => exact .out (k _ _ n1 t1 ho)
      | gen ho hL => exact .gen (k _ _ n1 t1 ho) (hL.keep fun o e => k _ _ n2 t2 e)
set_option tactic.hygienic false in
theorem LcR.iters {Is : List Addr} {L : Addr} {h h' : Heap} (q : LcR C ρ h L vars lc) (S : Step C Is ρ ρ h h') (hne : L ∉ Is) (W : ∀ a o vs n, a ∈ Is → h.get? a = some o → o.data ≠ .seq vs n) : LcR C ρ h' L vars lc := by
  obtain ⟨⟨m, hn, hv⟩, hm, hl, hz⟩ := q
  refine ⟨⟨m, hn.at fun o e => S.keep _ _ e hm hne, fun i x e => ?_⟩, hm, hl, hz⟩
  (refine x2_3 (hv i x e) fun n v a b c => ?_)
  exact ⟨n, v, a, b, c.step S W⟩
structure ZInv (C : Cfg) (g : Nat) (src : AV) (z TI TO J l : Addr) (i : Nat) (ρ : Rho) (h : Heap) : Prop where
  zip : IsZip h z TI TO .none
  ti : IsPair h TI (.ref J) (.ref J)
  tm : ¬ Mut C ρ TI
  it : h.IsListIter J l (2 * i)
  src : VR C ρ h src (.ref l)
  gh : ρ[g]? = some (TO, TO)
set_option tactic.hygienic false in
theorem rho_grow {W : List Addr} {h h' : Heap} (S : Step C W ρ ρ' h h') {g : Nat} {q : Addr × Addr} (e : ρ[g]? = some q) : ρ'[g]? = some q := by
  obtain ⟨δ, rfl, _⟩ := S.grow
  rw [List.getElem?_append_left (List.getElem?_eq_some_iff.mp e).1]; exact e
set_option tactic.hygienic false in
theorem zip_kind {h : Heap} {z TI TO : Addr} {f0 : Value} (hz : IsZip h z TI TO f0) : ∃ o, h.get? z = some o ∧ (∀ vs n, o.data ≠ .seq vs n) ∧ o.cls ≠ .type "code" := ⟨_, hz, (fun vs n q => by cases q), by show Value.type "zip" ≠ _; decide⟩
theorem zipOk (He : EnvOk env vars) {i j : Nat} {n m : Str} {k0 : Nat} {pa pb pt : Pos} (hi : vars[i]? = some n) (hj : vars[j]? = some m) {g : Nat} {src : AV} {z TI TO J l : Addr} (D : Apart1 z TI TO J l) (lz : C.s₁.heap.objs.size ≤ z) (lJ : C.s₁.heap.objs.size ≤ J) (nz : env.locals ≠ z) (nJ : env.locals ≠ J) (nT : env.locals ≠ TI) :
    IterOk C d env vars z [z, J] (.Tuple [.Name n pa, .Name m pb] k0 pt) (nxZ g src) (put2 i j) (ZInv C g src z TI TO J l) where
  keep q ρ ρ' h h' hI hm hW S := by
    have kz := hm z (by simp)
    have kJ := hm J (by simp)
    exact ⟨S.keep _ _ hI.zip kz (by simpa using Ne.symm nz), S.keep _ _ hI.ti hI.tm (by simpa using Ne.symm nT), Mut.grow S (Heap.lt_size hI.ti) hI.tm, hI.it.at fun o e => S.keep _ _ e kJ (by simpa using Ne.symm nJ), hI.src.step S hW, rho_grow S hI.gh⟩
  here q ρ h hI K hK := by
    simp at hK
    rcases hK with rfl | rfl
    · exact ⟨_, hI.zip⟩
    · (refine x1_2 (hI.it) fun o ho uu => ?_); exact ⟨o, ho⟩
  next A q lc lc₁ σ ρ s x Q E' hA R lr hI hm hx hst k := by
    unfold nxZ at hx
    split at hx
    · rename_i hσ
      (refine sw hx ?_; clear hx; intro xs hxs hx)
      split at hx
      · rename_i x1 x2 h1 h2
        cases hx
        unfold put2 at hst
        dsimp only at hst
        (refine sy hst ?_; clear hst; intro lc₂ e2 hst)
        (refine x3_3 (asList_rel R hI.src hxs) fun a' vs nn e ho hs => ?_)
        cases e
        (refine x1_2 (hs.get h1) fun v1 hv1 q1 => ?_)
        (refine x1_2 (hs.get h2) fun v2 hv2 q2 => ?_)
        have ow : Own s.heap TO := by cases R.st g _ _ hI.gh hσ with | ghost ho => exact ⟨_, _, _, ho⟩
        have hIs : ∀ K ∈ [z, J], ∃ o, s.heap.get? K = some o ∧ (∀ vs n, o.data ≠ .seq vs n) ∧ o.cls ≠ .type "code" := by
          intro K hK
          simp at hK
          rcases hK with rfl | rfl
          · exact zip_kind hI.zip
          · exact listIter_kind hI.it
        have loIs : ∀ K ∈ [z, J], C.s₁.heap.objs.size ≤ K := by
          intro K hK
          simp at hK
          rcases hK with rfl | rfl
          · exact lz
          · exact lJ
        have neIs : env.locals ∉ [z, J] := by simp [nz, nJ]
        refine pyNext1_item D ⟨hI.zip, hI.ti, ow, hI.it⟩ (IsL.isList ho) (x := v1) (y := v2) (by simpa using hv1) (by simpa using hv2) fun h₁ z₁ o₁ i₁ p₁ sz₁ k₁ => ?_
        refine ⟨_, rfl, wpAny_letOwnedTupleGo_zip z₁ fun h₂ z₂ s₂ => ?_⟩
        have k₂ : ∀ b o, b ∉ [z, J] → b ≠ TO → s.heap.get? b = some o → h₂.get? b = some o := fun b o hb hT e => by
          simp at hb
          exact s₂.extBut _ _ hb.1 (k₁ b o hb.1 hT hb.2 e)
        obtain ⟨R₂, S₂⟩ := R.zip (n := s.toks) hIs hm loIs hI.gh hσ k₂ (by rw [s₂.1, sz₁]; (first | lia | omega)) (o₁.at fun o e => s₂.extBut _ _ D.TOz e)
        have W := noSeqIs hIs
        have l₂ := lr.iters S₂ neIs W
        have pt₂ : IsPair h₂ s.heap.objs.size v1 v2 := s₂.extBut _ _ (Nat.ne_of_gt (Heap.lt_size hI.zip)) p₁
        refine store_two He hi hj e2 hst hA.1 R₂ l₂ (nn := 0) pt₂ (q1.step S₂ W) (q2.step S₂ W) fun s₃ R₃ S₃ l₃ => ?_
        have I₂ : ZInv C g src z TI TO J l (q + 1) ρ h₂ := ⟨z₂, k₂ _ _ (by simp [D.TIz, D.TIJ]) D.TITO hI.ti, hI.tm, i₁.at fun o e => s₂.extBut _ _ D.Jz e, hI.src.step S₂ W, hI.gh⟩
        have nsW := ns_noSeq l₂.1.choose_spec.1
        have kz := hm z (by simp)
        have kJ := hm J (by simp)
        have I₃ : ZInv C g src z TI TO J l (q + 1) ρ s₃.heap := ⟨S₃.keep _ _ I₂.zip kz (by simpa using Ne.symm nz), S₃.keep _ _ I₂.ti I₂.tm (by simpa using Ne.symm nT), I₂.tm, I₂.it.at fun o e => S₃.keep _ _ e kJ (by simpa using Ne.symm nJ), I₂.src.step S₃ nsW, I₂.gh⟩
        exact k s₃ R₃ ((S₂.weaken fun a ha => List.mem_cons_of_mem _ ha).trans (S₃.weaken fun a ha => by simp at ha; simp [ha])) l₃ I₃
      · cases hx
    · exact ns hx
  stop A q lc σ ρ s Q E' hA R lr hI hm hx k := by
    unfold nxZ at hx
    split at hx
    · rename_i hσ
      (refine sw hx ?_; clear hx; intro xs hxs hx)
      split at hx
      · cases hx
      · rename_i hne
        (refine x3_3 (asList_rel R hI.src hxs) fun a' vs nn e ho hs => ?_)
        cases e
        have ow : Own s.heap TO := by cases R.st g _ _ hI.gh hσ with | ghost ho => exact ⟨_, _, _, ho⟩
        have hIs : ∀ K ∈ [z, J], ∃ o, s.heap.get? K = some o ∧ (∀ vs n, o.data ≠ .seq vs n) ∧ o.cls ≠ .type "code" := by
          intro K hK
          simp at hK
          rcases hK with rfl | rfl
          · exact zip_kind hI.zip
          · exact listIter_kind hI.it
        have loIs : ∀ K ∈ [z, J], C.s₁.heap.objs.size ≤ K := by
          intro K hK
          simp at hK
          rcases hK with rfl | rfl
          · exact lz
          · exact lJ
        have neIs : env.locals ∉ [z, J] := by simp [nz, nJ]
        have hend : vs.toArray[2 * q]? = none ∨ vs.toArray[2 * q + 1]? = none := by
          have hl := hs.length
          rcases Nat.lt_or_ge (2 * q + 1) xs.length with hlt | hge
          · exact absurd (List.getElem?_eq_getElem hlt) (hne _ _ (List.getElem?_eq_getElem (Nat.lt_of_succ_lt hlt)))
          · exact .inr (by simp; (first | lia | omega))
        refine with_size (pyNext1_end hA.1 D ⟨hI.zip, hI.ti, ow, hI.it⟩ (IsL.isList ho) hend fun h₁ o₁ k₁ sz => ?_)
        have k₂ : ∀ b o, b ∉ [z, J] → b ≠ TO → s.heap.get? b = some o → h₁.get? b = some o := fun b o hb hT e => by
          simp at hb
          exact k₁ b o hb.1 hT hb.2 e
        (refine x0_2 (R.zip (n := s.toks) hIs hm loIs hI.gh hσ k₂ sz o₁) fun R₂ S₂ => ?_)
        exact ⟨rfl, k _ R₂ (S₂.weaken fun a ha => List.mem_cons_of_mem _ ha) (lr.iters S₂ neIs (noSeqIs hIs))⟩
    · exact ns hx
end
end Mine.Internal
end
section
open PySem PySem.W PyProof.Rows PySem.Calls
namespace Mine.Internal
noncomputable def zipS (i j : Nat) (f : EM) (B O : SM) : SM := fun lc σ => match f lc σ with
  | some (src, σ₁) => match asList σ₁ src with
    | some _ => loopS (nxZ σ₁.length src) (put2 i j) B O 1000000 0 lc (σ₁ ++ [.ghost])
    | none => none
  | none => none
section
variable {C : Cfg} {ρ ρ' : Rho} {σ σ' : St} {s : Shared} {A : Around} {E : Value → Shared → Prop} {env : Env} {vars : List Str} {lc : Lc} {d : Nat} {p : Pos}
set_option tactic.hygienic false in
theorem nne {a b : Nat} (h : a < b ∨ b < a) : a ≠ b := by (first | lia | omega)
set_option tactic.hygienic false in
theorem apart_of {N J l : Nat} (h1 : J < N) (h2 : l < J) : Apart1 (N + 2) N (N + 1) J l := ⟨nne (.inl (by (first | lia | omega))), nne (.inl (by (first | lia | omega))), nne (.inl (by (first | lia | omega))), nne (.inl (by (first | lia | omega))), nne (.inr h1), nne (.inr (by (first | lia | omega))), nne (.inl (by (first | lia | omega))), nne (.inl (by (first | lia | omega))), nne (.inl h2)⟩
set_option tactic.hygienic false in
theorem Rel.freshGe (R : Rel C ρ σ s) {a : Addr} (h : s.heap.objs.size ≤ a) : ¬ Mut C ρ a := by
  rintro (t | ⟨p, hp, e⟩)
  · (refine x1_2 (List.mem_map.mp t) fun x hx e => ?_)
    (refine x1_2 (R.tab x hx) fun m hc ht => ?_)
    have := hc.lt.2
    rw [e] at this
    exact absurd this (Nat.not_lt.mpr h)
  · have := R.rhoLt hp
    rcases e with e | e
    · rw [e] at this; exact absurd this.1 (Nat.not_lt.mpr h)
    · rw [e] at this; exact absurd this.2 (Nat.not_lt.mpr h)
set_option tactic.hygienic false in
theorem fresh_app (R : Rel C ρ σ s) {a T : Addr} (h : s.heap.objs.size ≤ a) (hT : a ≠ T) : ¬ Mut C (ρ ++ [(T, T)]) a := by
  rintro (t | ⟨p, hp, e⟩)
  · exact R.freshGe h (.inl t)
  · rcases List.mem_append.mp hp with hp | hp
    · exact R.freshGe h (.inr ⟨p, hp, e⟩)
    · cases List.mem_singleton.mp hp
      rcases e with e | e <;> exact hT e.symm
set_option tactic.hygienic false in
theorem den_zip (H : CfgOk C) (He : EnvOk env vars) {i j : Nat} {n m : Str} {k0 k1 : Nat} {pa pb pt p0 p1 q0 q2 q3 q4 q5 q6 : Pos} {e : Expr} {body orelse : List Stmt} {f : EM} {B O : SM} (hi : vars[i]? = some n) (hj : vars[j]? = some m)
    (hz : GlobVal C "zip" (.type "zip")) (hzk : env.kindOf "zip" = some .globalImplicit) (hit : GlobVal C "iter" (.builtin "iter")) (hik : env.kindOf "iter" = some .globalImplicit)
    (ns : ∀ rest, starEach (e :: rest) env = (false, eval e env) :: starEach rest env)
    (D : DenE C d env vars e f) (DB : DenB C d env vars body B) (DO : DenB C d env vars orelse O) :
    DenS C d env vars (.For (.Tuple [.Name n pa, .Name m pb] k0 pt) (.Call (.Name "zip" p0) [.Starred (.BinOp (.List [.Call (.Name "iter" q0) [e] [] q2] q3) .Mult (.Constant (.int 2) k1 q4) q5) q6] [] p1) body orelse p) (zipS i j f B O) := by
  intro lc σ fl lc' σ' hf A Q E s ρ hA R lr kk
  unfold zipS at hf
  (refine s1 hf ?_; clear hf; intro src σ₁ e1 hf)
  (refine sw hf ?_; clear hf; intro xs hxs hf)
  refine wpAny_For ?_
  show wpAny _ _ (do callWith p1 (← eval (.Name "zip" p0) env) [] [(true, eval (.BinOp (.List [.Call (.Name "iter" q0) [e] [] q2] q3) .Mult (.Constant (.int 2) k1 q4) q5) env >>= fun v => standAt p1 >>= fun uu => pure v)] []) _ _ _
  refine wpAny_bind (global_rel H He hz hzk (by decide) R ?_)
  refine callWith_star (P := fun h => C.K.In h) keep_type (star_args (.inl rfl) ?_)
  refine wpAny_bind (wpAny_BinOp ?_)
  refine wpAny_List (wpAny_items_cons ?_ rfl)
  show wpAny _ _ (do callWith q2 (← eval (.Name "iter" q0) env) [] (backTo q2 (starEach [e] env)) (backToKw q2 (keywordEach [] env))) _ _ _
  refine wpAny_bind (global_rel H He hit hik (by decide) R ?_)
  have D1 : DenEs C d env vars [e] [f] := .cons D .nil ns
  have ev1 : evs [f] lc σ = some ([src], σ₁) := by simp [evs, e1]
  refine callWith_rel H D1 ev1 keep_builtin hA R lr fun vs s₁ ρ₁ R₁ S₁ q₁ => ?_
  have qz := q₁.cons_inv
  clear q₁
  (refine x2_3 (qz) fun uu uu rr2 qs q₁ => ?_; clear qz; subst rr2)
  ·
    cases q₁
    (refine x3_3 (asList_rel R₁ qs hxs) fun l vs nl rr3 ho hv => ?_; subst rr3)
    refine call_iter_list (IsL.isList ho) ?_
    refine wpAny_items_nil ⟨by simp [sizeLine_eq], ?_⟩
    have hit₀ : (s₁.heap.push { cls := .type "list_iterator", data := .fields #[.ref l, .int 0 0] }).IsListIter s₁.heap.objs.size l 0 := ⟨_, Heap.get?_push_size _ rfl, rfl, rfl⟩
    refine wpAny_Constant_int (mul2 (Heap.get?_push_size _ rfl) ?_)
    refine wpAny_bind (wpAny_standAt (wpAny_pure ?_))
    refine ⟨_, _, _, rfl, Heap.get?_push_size _ rfl, by simp [sizeLine_eq], fun h' kp z => ?_⟩
    have kp1 : ∀ b o, (s₁.heap.push { cls := .type "list_iterator", data := .fields #[.ref l, .int 0 0] }).get? b = some o → h'.get? b = some o := fun b o e => kp _ _ (Heap.get?_push_of_some _ (Heap.get?_push_of_some _ e))
    have kp0 : ∀ b o, s₁.heap.get? b = some o → h'.get? b = some o := fun b o e => kp1 _ _ (Heap.get?_push_of_some _ e)
    have hit : h'.IsListIter s₁.heap.objs.size l 0 := hit₀.at fun o e => kp1 _ _ e
    have hJ : s₁.heap.objs.size < h'.objs.size := by (refine x1_2 (hit) fun o e uu => ?_; clear hit); exact Heap.lt_size e
    clear z
    refine ⟨fun a o e => kp0 _ _ (R₁.kin H a o e), ?_⟩
    show wpAny _ _ (call (.type "zip") [.ref s₁.heap.objs.size, .ref s₁.heap.objs.size]) _ _ _
    refine call_zip1 hit fun h₃ Z sz₃ up₃ => ?_
    replace sz₃ : h₃.objs.size = h'.objs.size + 3 := sz₃
    replace Z : ZipAt h₃ (h'.objs.size + 2) h'.objs.size (h'.objs.size + 1) s₁.heap.objs.size l 0 := Z
    refine wpAny_pyIter_zip Z.zip ?_
    have up : ∀ b o, s₁.heap.get? b = some o → h₃.get? b = some o := fun b o e => up₃ _ _ (kp0 _ _ e)
    have l₁ := lr.go S₁
    have hL : @LT.lt Nat _ env.locals s₁.heap.objs.size := l₁.1.choose_spec.1.lt
    have hl : @LT.lt Nat _ l s₁.heap.objs.size := Heap.lt_size ho
    have sz : s₁.heap.objs.size ≤ h₃.objs.size := by (first | lia | omega)
    obtain ⟨R₃, S₃⟩ := R₁.alloc (s' := { s₁ with heap := h₃, toks := s₁.toks + 1 }) up sz R₁.gens rfl rfl (p := (h'.objs.size + 1, h'.objs.size + 1)) (o := .ghost) (by dsimp only; (first | lia | omega)) (by dsimp only; (first | lia | omega)) (by (refine x3_1 (Z.own) fun x y n e => ?_); exact .ghost e) rfl
    have AP : Apart1 (h'.objs.size + 2) h'.objs.size (h'.objs.size + 1) s₁.heap.objs.size l := apart_of hJ hl
    have hg : (ρ₁ ++ [(h'.objs.size + 1, h'.objs.size + 1)])[σ₁.length]? = some (h'.objs.size + 1, h'.objs.size + 1) := by
      rw [← R₁.len, List.getElem?_append_right (Nat.le_refl _), Nat.sub_self]; rfl
    have hm : ∀ K ∈ [h'.objs.size + 2, s₁.heap.objs.size], ¬ Mut C (ρ₁ ++ [(h'.objs.size + 1, h'.objs.size + 1)]) K := by
      intro K hK
      simp at hK
      rcases hK with rfl | rfl
      · exact fresh_app R₁ (by (first | lia | omega)) (nne (by (first | lia | omega)))
      · exact fresh_app R₁ (by (first | lia | omega)) (nne (by (first | lia | omega)))
    have lo := R₁.size
    have hI : ZInv C σ₁.length src (h'.objs.size + 2) h'.objs.size (h'.objs.size + 1) s₁.heap.objs.size l 0 (ρ₁ ++ [(h'.objs.size + 1, h'.objs.size + 1)]) h₃ :=
      ⟨Z.zip, Z.ti, fresh_app R₁ (by (first | lia | omega)) (nne (by (first | lia | omega))), Z.it, qs.go S₃, hg⟩
    refine loop_rel (zipOk He hi hj AP (by (first | lia | omega)) (by (first | lia | omega)) (nne (by (first | lia | omega))) (nne (by (first | lia | omega))) (nne (by (first | lia | omega)))) DB DO hA hf R₃ (l₁.go S₃) hI hm fun w s' ρ' R' S' l' q' => ?_
    refine kk w s' ρ' R' (S₁.of_nil.trans ?_) l' q'
    refine (S₃.of_nil.trans S').dropI fun K hK => ?_
    simp at hK
    rcases hK with rfl | rfl
    · (first | lia | omega)
    · exact Nat.le_refl _
end
end Mine.Internal
end
section
open PySem PySem.W PyProof.Rows PySem.Calls
namespace Mine.Internal
open Builtin.Re in
noncomputable def driveP : Nat → Sre.M → Option Sre.M
  | 0, _ => none
  | n + 1, m => let m' := m.runFor 4
    if m'.outcome.isSome then some m' else driveP n m'
noncomputable def runP (m : Sre.M) : Option (Option Sre.M) := match driveP 100000 m with
  | some m' => match m'.outcome with
    | some .matched => some (some m')
    | some .failed => some none
    | _ => none
  | none => none
noncomputable def groupP (text : Array Nat) (m : Sre.M) : Option Str :=
  if ((0 : Nat) : Int) ≥ m.lastmark then none else
  match m.marks.getD 0 none, m.marks.getD 1 none with
  | some b, some e => if e < b then none else some ⟨text.extract b e⟩
  | _, _ => none
noncomputable def splitP (code text : Array Nat) : Nat → Nat → Bool → Option (List Str)
  | 0, _, _ => none
  | k + 1, start, must => match runP (Sre.forSearch code text 1 start text.size must) with
    | some none => some [⟨text.extract start text.size⟩]
    | some (some m) => match groupP text m with
      | some g => (splitP code text k m.handed (m.handed == m.start)).map fun r => ⟨text.extract start m.start⟩ :: g :: r
      | none => none
    | none => none
noncomputable def wsCode : Array Nat := #[14, 4, 0, 1, 4294967295, 17, 0, 24, 11, 1, 4294967295, 13, 6, 16, 32, 16, 9, 0, 1, 17, 1, 1]
noncomputable def wsSplit (x : Str) : Option (List Str) := splitP wsCode x.cps (2 * x.cps.size + 3) 0 false
section
variable {C : Cfg} {ρ ρ' : Rho} {σ σ' : St} {s : Shared} {A : Around} {E : Value → Shared → Prop} {env : Env} {vars : List Str} {lc : Lc} {d : Nat} {p : Pos}
theorem drive_rel {n : Nat} : ∀ {m m' : Sre.M} {Q : Sre.M → Shared → Prop}, driveP n m = some m' → ∀ {N : Nat}, n ≤ N → Q m' s → wpAny (model C.prog C.w) A (Builtin.Re.reDrive N m) Q E s := by
  induction n with
  | zero => intro m m' Q h; cases h
  | succ n ih =>
    intro m m' Q h N hN q
    obtain ⟨N', rfl⟩ : ∃ N', N = N' + 1 := ⟨N - 1, by (first | lia | omega)⟩
    unfold driveP at h
    unfold Builtin.Re.reDrive
    dsimp only at h ⊢
    show wpAny _ _ (if (Sre.M.runFor 4 m).outcome.isSome = true then _ else _) _ _ _
    split at h
    · rename_i ho
      (refine c1 h fun hh0 => ?_; clear h; subst hh0)
      rw [if_pos ho]
      exact wpAny_pure q
    · rename_i ho
      rw [if_neg ho]
      exact wpAny_bind (wpAny_rule (ih h (by (first | lia | omega)) q))
set_option tactic.hygienic false in
theorem rules_rel {m' : Sre.M} {β : Type} {g : PUnit → Sem β} {Q : β → Shared → Prop} (q : wpAny (model C.prog C.w) A (g ⟨⟩) Q E s) : wpAny (model C.prog C.w) A (forIn (List.range Sre.names.size) PUnit.unit (fun i uu =>
        if m'.seen.has i = true then do
          rule (Sre.names.getD i "")
          pure (ForInStep.yield PUnit.unit)
        else pure (ForInStep.yield PUnit.unit)) >>= g) Q E s := by
  refine wpAny_bind ?_
  generalize List.range Sre.names.size = l
  induction l with
  | nil => rw [List.forIn_nil]; exact wpAny_pure q
  | cons a l ih =>
    rw [List.forIn_cons]
    refine wpAny_bind ?_
    split
    · exact wpAny_bind (wpAny_rule (wpAny_pure ih))
    · exact wpAny_pure ih
theorem run_rel {m : Sre.M} {r : Option Sre.M} {Q : Option Sre.M → Shared → Prop} (h : runP m = some r) (q : Q r s) : wpAny (model C.prog C.w) A (Builtin.Re.reRunToEnd m) Q E s := by
  unfold runP at h
  split at h
  · rename_i m' e
    unfold Builtin.Re.reRunToEnd
    refine wpAny_bind (drive_rel e (by decide) ?_)
    refine rules_rel ?_
    split at h
    · rename_i e2
      (refine c1 h fun hh0 => ?_; clear h; subst hh0)
      rw [e2]
      exact wpAny_pure q
    · rename_i e2
      (refine c1 h fun hh0 => ?_; clear h; subst hh0)
      rw [e2]
      exact wpAny_pure q
    · exact ns h
  · exact ns h
set_option tactic.hygienic false in
theorem forIn_turns {β : Type} {f : Nat → β → Sem (ForInStep β)} {J : Nat → β → Shared → Prop} (step : ∀ k a b s, J (k + 1) b s → wpAny (model C.prog C.w) A (f a b) (fun r s' => ∃ b', r = .yield b' ∧ J k b' s') E s) :
    ∀ (l : List Nat) (b : β) (s : Shared) (Q : β → Shared → Prop), J l.length b s → (∀ b s, J 0 b s → Q b s) → wpAny (model C.prog C.w) A (forIn l b f) Q E s
  | [], b, s, Q, h, k => by rw [List.forIn_nil]; exact wpAny_pure (k b s h)
  | a :: l, b, s, Q, h, k => by
    rw [List.forIn_cons]
    refine wpAny_bind (wpAny_mono (step _ a b s h) (fun r s' hr => ?_) fun uu uu z => z)
    (refine x1_2 (hr) fun b' rr1 h' => ?_; clear hr; subst rr1)
    exact forIn_turns step l b' s' Q h' k
set_option tactic.hygienic false in
theorem strOk_cut {x : Str} {b e : Nat} (h : PyData.strOk x = true) : PyData.strOk ⟨x.cps.extract b e⟩ = true := by
  rw [strOk_iff] at *
  intro c hc
  apply h
  rw [Array.toList_extract] at hc
  exact List.mem_of_mem_drop (List.mem_of_mem_take hc)
structure ReOk (C : Cfg) (r rc : Addr) : Prop where
  pat : ∃ dd sl f0 f1 f3 f4, C.K.lookup r = some ⟨.type "re.Pattern", dd, .fields #[f0, f1, .int 1 0, f3, f4, .ref rc, .int 0 0], sl⟩
  code : ∃ dd sl items n, C.K.lookup rc = some ⟨.type "tuple", dd, .seq items n, sl⟩ ∧ (items.map Builtin.Re.reRawOf).map (·.toNat) = wsCode
theorem split_body {r rc : Addr} {x : Str} {t : Tok} {ys : List Str} {Q : Value → Shared → Prop} (X : C.K.In s.heap) (O : ReOk C r rc) (hx : wsSplit x = some ys) (ok : PyData.strOk x = true) (hl : x.length ≤ 1000000) (hy : ys.length ≤ 1000000)
    (k : ∀ vs tk, VRs C ρ s.heap (ys.map AV.str) vs → Q (.ref s.heap.objs.size) { s with heap := s.heap.push (lstObj vs 0), toks := tk }) :
    wpAny (model C.prog C.w) A (Builtin.«re.Pattern.split» ⟨[.ref r, .str x t], []⟩) (fun fin s' => ∃ v, fin = .done (.ret v) ∧ Q v s') E s := by
  (refine x6_1 (O.pat) fun dd sl f0 f1 f3 f4 hp => ?_)
  (refine x4_2 (O.code) fun dd' sl' items nn hc hcode => ?_)
  have cut : ∀ b e, (Str.mk (x.cps.extract b e)).length ≤ sizeLine := by
    intro b e
    show (x.cps.extract b e).size ≤ _
    have : x.cps.size ≤ 1000000 := hl
    rw [Array.size_extract, sizeLine_eq]; (first | lia | omega)
  unfold Builtin.«re.Pattern.split»
  dsimp only
  refine wpAny_bind (m := Builtin.Re.reNamed _ _ _ _ _ _) (wpAny_of_eq (a := [some (Value.str x t), none]) (by first | rfl | kernel_rfl!) ?_)
  dsimp only
  refine wpAny_bind (wpAny_pure ?_)
  refine wpAny_bind ?_
  unfold Builtin.Re.reWholeTarget
  refine wpAny_bind (wpAny_fieldsOf (X _ _ hp) rfl ?_)
  refine wpAny_bind (m := Builtin.Re.reTextOf _) (wpAny_of_eq (a := (x.cps, 0)) rfl ?_)
  show wpAny _ _ (do
    let __do_lift ← Builtin.Re.reRawItems (.ref rc)
    pure _) _ _ _
  refine wpAny_bind ?_
  unfold Builtin.Re.reRawItems
  refine wpAny_bind (wpAny_seqItems (X _ _ hc) rfl (wpAny_pure (wpAny_pure ?_)))
  dsimp only
  rw [show ((some items).getD #[]) = items from rfl, hcode]
  refine wpAny_bind (forIn_turns (J := fun k b u => ∃ tk pre, u = { s with toks := tk } ∧ VRs C ρ s.heap (pre.map AV.str) b.1.toList ∧ b.2.2.1 = b.2.1 ∧
    ((b.2.2.2.2.2 = true ∧ pre ++ [⟨x.cps.extract b.2.1 x.cps.size⟩] = ys) ∨ (b.2.2.2.2.2 = false ∧ ∃ rest, splitP wsCode x.cps k b.2.1 b.2.2.2.1 = some rest ∧ pre ++ rest = ys))) ?_ _ _ _ _ ?_ ?_)
  · rintro k a ⟨out, start, last, must, n, over⟩ u ⟨tk, pre, rfl, hv, hls, h⟩
    dsimp only at hv h hls ⊢
    subst hls
    rcases h with ⟨rfl, e⟩ | ⟨rfl, rest, e, e'⟩
    · exact wpAny_pure ⟨_, rfl, tk, pre, rfl, hv, rfl, .inl ⟨rfl, e⟩⟩
    · show wpAny _ _ (Builtin.Re.reNextFound _ _ _ >>= _) _ _ _
      unfold splitP at e
      split at e
      · rename_i e1
        (refine c1 e fun hh0 => ?_; clear e; subst hh0)
        refine wpAny_bind (run_rel e1 ?_)
        exact wpAny_pure ⟨_, rfl, tk, pre, rfl, hv, rfl, .inl ⟨rfl, e'⟩⟩
      · rename_i m e1
        split at e
        · rename_i g e2
          (refine x1_2 (Option.map_eq_some_iff.mp e) fun rest' e3 e4 => ?_)
          refine wpAny_bind (run_rel e1 ?_)
          dsimp only
          show wpAny _ _ (mkStr ⟨x.cps.extract last m.start⟩ >>= _) _ _ _
          refine wpAny_bind (wpAny_mkStr ?_ (cut _ _))
          refine wpAny_bind ?_
          rw [show List.range (Builtin.Re.reRawNat (#[f0, f1, Value.int 1 0, f3, f4, Value.ref rc, Value.int 0 0].getD 2 Value.none)) = [0] from rfl, List.forIn_cons]
          unfold groupP at e2
          split at e2
          · exact ns e2
          · rename_i hm
            split at e2
            · rename_i b ee hb he
              split at e2
              · exact ns e2
              · rename_i hbe
                (refine c1 e2 fun hh0 => ?_; clear e2; subst hh0)
                refine wpAny_bind (wpAny_bind ?_)
                unfold Builtin.Re.reMachineGroup
                show wpAny _ _ (if ((0 : Nat) : Int) ≥ m.lastmark then _ else _) _ _ _
                rw [if_neg hm]
                show wpAny _ _ (match m.marks.getD 0 none, m.marks.getD 1 none with
                  | some b, some e => if e < b then Builtin.Re.reWrongSpan else Builtin.Re.reSlice x.cps 0 b e
                  | _, _ => pure Value.none) _ _ _
                rw [hb, he]
                dsimp only
                rw [if_neg hbe]
                show wpAny _ _ (mkStr ⟨x.cps.extract b ee⟩) _ _ _
                refine wpAny_mkStr (wpAny_pure ?_) (cut _ _)
                dsimp only
                rw [List.forIn_nil]
                refine wpAny_pure (wpAny_pure ⟨_, rfl, tk + 1 + 1, pre ++ [⟨x.cps.extract last m.start⟩, ⟨x.cps.extract b ee⟩], rfl, ?_, rfl, .inr ⟨rfl, rest', e3, ?_⟩⟩)
                · dsimp only
                  simp only [List.map_append, Array.toList_push, List.append_assoc]
                  exact hv.append (.cons (.str _ _ (strOk_cut ok)) (.cons (.str _ _ (strOk_cut ok)) .nil))
                · rw [← e', ← e4]; simp
            · exact ns e2
        · exact ns e
      · exact ns e
  · refine ⟨s.toks, [], rfl, .nil, rfl, .inr ⟨rfl, ys, ?_, rfl⟩⟩
    rw [List.length_range]
    exact hx
  · rintro ⟨out, start, last, must, n, over⟩ u ⟨tk, pre, rfl, hv, hls, h⟩
    dsimp only at hv h hls ⊢
    subst hls
    rcases h with ⟨rfl, e⟩ | ⟨rfl, rest, e, e'⟩
    · show wpAny _ _ (mkStr ⟨x.cps.extract last x.cps.size⟩ >>= _) _ _ _
      refine wpAny_bind (wpAny_mkStr ?_ (cut _ _))
      have hvs : VRs C ρ s.heap (ys.map AV.str) (out.push (.str ⟨x.cps.extract last x.cps.size⟩ tk)).toList := by
        rw [← e, Array.toList_push, List.map_append]
        exact hv.append (.cons (.str _ _ (strOk_cut ok)) .nil)
      refine wpAny_bind (wpAny_newList ?_ (by rw [hvs.length, List.length_map, sizeLine_eq]; (first | lia | omega)))
      exact wpAny_pure ⟨_, rfl, k _ _ hvs⟩
    · unfold splitP at e; cases e
end
end Mine.Internal
end
section
open PySem PySem.W PyProof.Rows PySem.Calls
namespace Mine.Internal
noncomputable def strsOf : List AV → Option (List Str)
  | [] => some []
  | .str x :: r => (strsOf r).map (x :: ·)
  | _ => none
noncomputable def intsOf : List AV → Option (List Int)
  | [] => some []
  | .int x :: r => (intsOf r).map (x :: ·)
  | _ => none
noncomputable def joinF : List AV → St → Option (AV × St) := fun xs σ => match xs with
  | [.str sep, src] => match asList σ src with
    | some ys => match strsOf ys with
      | some zs => if (zs.map (·.length)).sum + zs.length * sep.length ≤ 16777216 then some (.str (Txt.join sep zs), σ) else none
      | none => none
    | none => none
  | _ => none
noncomputable def isspaceF : List AV → St → Option (AV × St) := fun xs σ => match xs with
  | [.str x] => some (.bool (Txt.isspace x), σ)
  | _ => none
noncomputable def sumF : List AV → St → Option (AV × St) := fun xs σ => match xs with
  | [src] => match asList σ src with
    | some ys => match intsOf ys with
      | some zs => some (.int zs.sum, σ)
      | none => none
    | none => none
  | _ => none
noncomputable def popAtF : List AV → St → Option (AV × St) := fun xs σ => match xs with
  | [.loc l, .int i] => match σ[l]? with
    | some (.list ys) => if smallInt i && decide (ys.length ≤ sizeLine) then (match seqIndex? i ys.length with
      | some k => match ys[k]? with
        | some y => some (y, σ.set l (.list (ys.eraseIdx k)))
        | none => none
      | none => none) else none
    | _ => none
  | _ => none
section
variable {C : Cfg} {ρ ρ' : Rho} {σ σ' : St} {s : Shared} {A : Around} {E : Value → Shared → Prop} {env : Env} {vars : List Str} {lc : Lc} {d : Nat} {p : Pos}
set_option tactic.hygienic false in
theorem strsOf_rel {h : Heap} : ∀ {xs : List AV} {ys : List Str} {vs : List Value}, VRs C ρ h xs vs → strsOf xs = some ys → StrsAre vs ys ∧ ∀ y ∈ ys, PyData.strOk y = true := fun q e =>
  q.ind (P := fun xs vs => ∀ ys, strsOf xs = some ys → StrsAre vs ys ∧ ∀ y ∈ ys, PyData.strOk y = true) (fun ys e => by cases e; exact ⟨.nil, fun uu h => nomatch h⟩) (fun {x v xs vs} a _ ih ys e => by
    cases x with
    | str x =>
      (refine x1_2 (Option.map_eq_some_iff.mp e) fun zs e1 rr2 => ?_; subst rr2)
      have hi := ih zs e1
      exact a.str_e fun t ok => ⟨.cons _ _ hi.1, fun y hy => (List.mem_cons.mp hy).elim (fun e => e ▸ ok) (hi.2 y)⟩
    | _ => cases e) _ e
theorem den_join {d : Nat} : DenCall C d (.builtin "str.join") joinF := by
  intro xs σ x σ' hf A Q E s ρ vs hA R q k
  unfold joinF at hf
  split at hf
  · rename_i sep src
    (refine sw hf ?_; clear hf; intro ys hys hf)
    (refine st hf ?_; clear hf; intro zs hzs hf)
    (refine sf hf ?_; clear hf; intro hz hf)
    (refine c2 hf fun hh0 hh1 => ?_; clear hf; subst hh0; subst hh1)
    refine q.cons_e fun uu uu q1 q2 => ?_
    ·
      have qz := q2.cons_inv
      clear q2
      (refine x2_3 (qz) fun uu uu rr2 q2 q3 => ?_; clear qz; subst rr2)
      ·
        cases q3
        refine q1.str_e fun t ok => ?_
        ·
          (refine x3_3 (asList_rel R q2 hys) fun a ws n rr3 ho hs => ?_; subst rr3)
          (refine x0_2 (strsOf_rel hs hzs) fun i1 i2 => ?_)
          exact join_list (IsL.isList ho) (by simpa using i1) hz fun t' tk => k _ _ ρ R.toks .refl (.str _ _ (strOk_join ok i2))
  · exact ns hf
set_option tactic.hygienic false in
theorem den_isspace {d : Nat} : DenCall C d (.builtin "str.isspace") isspaceF := by
  intro xs σ x σ' hf A Q E s ρ vs hA R q k
  unfold isspaceF at hf
  split at hf
  · (refine c2 hf fun hh0 hh1 => ?_; clear hf; subst hh0; subst hh1)
    refine q.cons_e fun uu uu q1 q2 => ?_
    ·
      cases q2
      cases q1 with
      | str _ t ok => exact SC.isspace (k _ _ ρ R .refl (.bool _))
  · exact ns hf
set_option tactic.hygienic false in
theorem intsOf_rel {h : Heap} : ∀ {xs : List AV} {ns : List Int} {vs : List Value}, VRs C ρ h xs vs → intsOf xs = some ns → ∃ ys : List (Int × Tok), vs = ys.map (fun p => Value.int p.1 p.2) ∧ ys.map (·.1) = ns := fun q e =>
  q.ind (P := fun xs vs => ∀ ns, intsOf xs = some ns → ∃ ys : List (Int × Tok), vs = ys.map (fun p => Value.int p.1 p.2) ∧ ys.map (·.1) = ns) (fun ns e => by cases e; exact ⟨[], rfl, rfl⟩) (fun {x v xs vs} a _ ih ns e => by
    cases x with
    | int i =>
      (refine x1_2 (Option.map_eq_some_iff.mp e) fun ys e1 rr2 => ?_; subst rr2)
      (refine x1_2 (ih ys e1) fun zs rr1 e2 => ?_; subst rr1)
      exact a.int_e fun t => ⟨(i, t) :: zs, rfl, by simp [e2]⟩
    | _ => cases e) _ e
theorem den_sum {d : Nat} : DenCall C d (.builtin "sum") sumF := by
  intro xs σ x σ' hf A Q E s ρ vs hA R q k
  unfold sumF at hf
  split at hf
  · rename_i src
    (refine sw hf ?_; clear hf; intro ys hys hf)
    (refine sn hf ?_; clear hf; intro zs hzs hf)
    (refine c2 hf fun hh0 hh1 => ?_; clear hf; subst hh0; subst hh1)
    refine q.cons_e fun uu uu q1 q2 => ?_
    ·
      cases q2
      (refine x3_3 (asList_rel R q1 hys) fun a ws n rr3 ho hs => ?_; subst rr3)
      (refine x1_2 (intsOf_rel hs hzs) fun us rr1 e2 => ?_; subst rr1)
      have hl : s.heap.IsList a (intItems us.toArray) := by
        have := IsL.isList ho
        simpa [intItems] using this
      refine with_size (sum_intListG hA.1 hl fun h' tk t' kp z => ?_)
      rw [preSum_eq, List.take_of_length_le (by simp)]
      have e3 : (us.toArray.toList.map (·.1)).sum = zs.sum := by simp [e2]
      rw [e3]
      exact k _ _ ρ (R.same kp z R.gens rfl rfl) (.same kp z) (.int _ _)
  · exact ns hf
theorem den_popAt {d : Nat} : DenCall C d (.builtin "list.pop") popAtF := by
  intro xs σ x σ' hf A Q E s ρ vs hA R q k
  unfold popAtF at hf
  split at hf
  · rename_i l i
    (refine sq hf ?_; clear hf; intro ys e hf)
    (refine sf hf ?_; clear hf; intro hz hf)
    rw [Bool.and_eq_true, decide_eq_true_eq, smallInt_iff] at hz
    split at hf
    · rename_i kx hk
      (refine sx hf ?_; clear hf; intro y hy hf)
      (refine c2 hf fun hh0 hh1 => ?_; clear hf; subst hh0; subst hh1)
      refine q.cons_e fun uu uu q1 q2 => ?_
      ·
        have qz := q2.cons_inv
        clear q2
        (refine x2_3 (qz) fun uu uu rr2 q2 q3 => ?_; clear qz; subst rr2)
        ·
          cases q3
          refine q2.int_e fun t => ?_
          ·
            (refine x1_2 (R.obj e) fun p e1 ob => ?_)
            refine q1.loc_e fun uu e0 => ?_
            rw [e0] at e1; cases e1
            cases ob with | @list a vs n _ ho hs =>
            (refine x1_2 (hs.get hy) fun v hv qv => ?_)
            have hlen := hs.length
            have hklt : kx < vs.length := (List.getElem?_eq_some_iff.mp hv).1
            refine call_meets PySem.F.slot_list_pop ⟨_, ho, rfl⟩ PySem.F.entry_list_pop (PySem.F.args_list_pop_2 _ _) (PySem.MeetsSeq.list_pop_at a vs.toArray n i t kx v (by simp [Builtin.List.listFitsIndex]; (first | lia | omega)) (by rw [List.size_toArray, hlen]; exact hk) (by simpa using hv) (by rw [List.size_toArray, hlen]; exact hz.2)) ⟨ho, ?_⟩
            have hsb := Heap.SameBut.update s.heap a (Obj.mapSeq fun xs => xs.eraseIdxIfInBounds kx)
            have S : Step C [] ρ ρ s.heap (s.heap.update a (Obj.mapSeq fun xs => xs.eraseIdxIfInBounds kx)) := stepMut (.inr ⟨_, List.mem_of_getElem? e0, .inl rfl⟩) hsb
            have gt := mapSeq_at ho (fun xs => xs.eraseIdxIfInBounds kx)
            have er : vs.toArray.eraseIdxIfInBounds kx = (vs.eraseIdx kx).toArray := by
              unfold Array.eraseIdxIfInBounds
              rw [dif_pos (by simpa using hklt), List.eraseIdx_toArray]
            rw [er] at gt
            have hs' : VRs C ρ s.heap (ys.eraseIdx kx) (vs.eraseIdx kx) := by
              rw [List.eraseIdx_eq_take_drop_succ, List.eraseIdx_eq_take_drop_succ]
              exact (hs.take kx).append (hs.drop (kx + 1))
            (refine x0_2 (R.upd (n := s.toks) e0 (.inl rfl) hsb (.list gt (hs'.go S)) rfl) fun R' S' => ?_)
            exact k _ _ _ R' S' (qv.go S)
    · exact ns hf
  · exact ns hf
theorem getM_list {name : Str} {id : String} (slot : Slot "list" name id) (hty : typeOf (.builtin id) = pure (.type "method_descriptor")) : GetM C 2 name (.builtin id) := by
  intro A Q E s ρ σ x v pl R q hk kk
  have : ∃ xs, asList σ x = some xs := by
    cases x with
    | lst xs => exact ⟨xs, rfl⟩
    | loc l =>
      unfold kind at hk
      dsimp only at hk
      split at hk <;> first | (rename_i xs e; exact ⟨xs, by simp [asList, e]⟩) | (first | lia | omega)
    | _ => simp [kind] at hk
  (refine x1_1 (this) fun xs hxs => ?_; clear this)
  (refine x3_3 (asList_rel R q hxs) fun a vs n rr3 ho hs => ?_; subst rr3)
  exact getMethod_builtin ⟨_, ho, rfl⟩ PySem.F.plainAttrs_list slot hty (fun b e => by cases e; exact ⟨_, ho, rfl⟩) kk
set_option tactic.hygienic false in
theorem getM_str {name : Str} {id : String} (slot : Slot "str" name id) (hty : typeOf (.builtin id) = pure (.type "method_descriptor")) : GetM C 1 name (.builtin id) := by
  intro A Q E s ρ σ x v pl R q hk kk
  cases q with
  | str y t ok => exact getMethod_builtin (typeIs_str _ _ _) PySem.F.plainAttrs_str slot hty (fun b e => by cases e) kk
  | @loc l p e => unfold kind at hk; dsimp only at hk; split at hk <;> (first | lia | omega)
  | _ => simp [kind] at hk
end
end Mine.Internal
end
section
open PySem PySem.W PyProof.Rows PySem.Calls
namespace Mine.Internal
set_option tactic.hygienic false in
theorem plainAttrs_re : PlainAttrs "re.Pattern" :=
  ⟨⟨"object.__getattribute__", by rw [typeLookup_type, builtinLookup_eq_fast]; kernel_rfl, by decide +kernel⟩, by rw [typeLookup_type, builtinLookup_eq_fast]; kernel_rfl⟩
set_option tactic.hygienic false in
theorem slot_re_split : Slot "re.Pattern" "split" "re.Pattern.split" :=
  .of (owner := "re.Pattern") (n := "split") (by rw [typeLookup_type, builtinLookup_eq_fast]; kernel_rfl) (by decide +kernel) (by decide +kernel) (by decide +kernel)
    (by first | exact .inl (by decide +kernel) | exact .inr (by decide +kernel)) (by rw [isSubtype_type]; kernel_rfl)
set_option tactic.hygienic false in
theorem type_re_split : typeOf (.builtin "re.Pattern.split") = pure (.type "method_descriptor") := by show builtinType _ = _; rw [builtinType_eq_fast]; kernel_rfl
set_option tactic.hygienic false in
theorem entry_re_split : entryFor table "re.Pattern.split" = some Builtin.«re.Pattern.split» := entryFor_of_tree (by kernel_rfl)
set_option tactic.hygienic false in
theorem args_re_split (a b : Value) : argsOk "re.Pattern.split" ⟨[a, b], []⟩ := by unfold argsOk; kernel_rfl
noncomputable def reSplitE (f : EM) : EM := fun lc σ => match f lc σ with
  | some (.str x, σ₁) => if x.length ≤ 1000000 then (match wsSplit x with
    | some ys => if ys.length ≤ 1000000 then some (.loc σ₁.length, σ₁ ++ [.list (ys.map AV.str)]) else none
    | none => none) else none
  | _ => none
section
variable {C : Cfg} {ρ ρ' : Rho} {σ σ' : St} {s : Shared} {A : Around} {E : Value → Shared → Prop} {env : Env} {vars : List Str} {lc : Lc} {d : Nat} {p : Pos}
set_option tactic.hygienic false in
theorem den_reSplit (H : CfgOk C) (He : EnvOk env vars) {r rc : Addr} {n : Str} {e : Expr} {f : EM} {p0 ap : Pos} (O : ReOk C r rc) (hd : ∀ o, C.K.lookup r = some o → o.dict = none) (hv : GlobVal C n (.ref r)) (hk : env.kindOf n = some .globalImplicit) (ns : ∀ rest, starEach (e :: rest) env = (false, eval e env) :: starEach rest env)
    (D : DenE C d env vars e f) (hdb : (n == ("__debug__" : Str)) = false) (hp : (ap.endLine == p.line) = true) : DenE C d env vars (.Call (.Attribute (.Name n p0) "split" ap) [e] [] p) (reSplitE f) := by
  intro lc σ y σ' hf A Q E s ρ hA R lr kk
  unfold reSplitE at hf
  (refine ss hf ?_; clear hf; intro x σ₁ e1 hf)
  (refine sf hf ?_; clear hf; intro hl hf)
  (refine st hf ?_; clear hf; intro ys hys hf)
  (refine sf hf ?_; clear hf; intro hyl hf)
  (refine c2 hf fun hh0 hh1 => ?_; clear hf; subst hh0; subst hh1)
  rw [arm_eval_Call, show ∀ nm whole, attributeBase (.Name n p0) nm env whole = whole from fun uu uu => rfl]
  refine wpAny_bind (global_rel H He hv hk hdb R (wpAny_bind (wpAny_standAt ?_)))
  (refine x6_1 (id O.pat) fun dd sl f0 f1 f3 f4 hpat => ?_)
  have hob := R.kin H _ _ hpat
  have hform : methodCallForm 1 (backTo p (starEach [e] env)) (backToKw p (keywordEach [] env)) = true := by
    rw [ns]; rfl
  show wpAny _ _ (methodCall (.Name n p0) "split" ap p env (.ref r) 1 (backTo p (starEach [e] env)) (backToKw p (keywordEach [] env))) _ _ _
  unfold methodCall
  rw [hform]
  refine wpAny_bind (wpAny_holding ?_)
  show wpAny _ _ (getMethod (.ref r) "split" _) _ _ _
  refine getMethod_builtin (T := "re.Pattern") ⟨_, hob, rfl⟩ plainAttrs_re slot_re_split type_re_split (fun b e => by cases e; exact ⟨_, hob, hd _ hpat⟩) ?_
  dsimp only
  have hpos : methodCallPos true (.Name n p0) env ap p = pure p := by
    unfold methodCallPos
    rw [hp]; rfl
  rw [hpos]
  refine wpAny_bind (wpAny_pure ?_)
  have D1 : DenEs C d env vars [e] [f] := .cons D .nil ns
  have ev1 : evs [f] lc σ = some ([.str x], σ₁) := by simp [evs, e1]
  refine callWith_rel H D1 ev1 keep_builtin hA R lr fun vs s₁ ρ₁ R₁ S₁ q₁ => ?_
  have qz := q₁.cons_inv
  clear q₁
  (refine x2_3 (qz) fun uu uu rr2 qs q₁ => ?_; clear qz; subst rr2)
  ·
    cases q₁
    refine qs.str_e fun t ok => ?_
    ·
      refine wpAny_call_entry slot_re_split ⟨_, R₁.kin H _ _ hpat, rfl⟩ entry_re_split (split_body (ρ := ρ₁) (R₁.kin H) O hys ok hl hyl fun vs tk hvs => ?_) (args_re_split _ _)
      have k : ∀ b o, s₁.heap.get? b = some o → (s₁.heap.push (lstObj vs 0)).get? b = some o := fun uu uu e => Heap.get?_push_of_some _ e
      have z : s₁.heap.objs.size ≤ (s₁.heap.push (lstObj vs 0)).objs.size := by rw [Heap.size_push]; (first | lia | omega)
      have S₂ : Step C [] ρ₁ (ρ₁ ++ [(s₁.heap.objs.size, s₁.heap.objs.size)]) s₁.heap (s₁.heap.push (lstObj vs 0)) := ⟨z, fun b o e uu uu => k b o e, _, rfl, fun q hq => by cases List.mem_singleton.mp hq; exact ⟨Nat.le_refl _, Nat.le_refl _⟩⟩
      (refine x0_2 (R₁.alloc (s' := { s₁ with heap := s₁.heap.push (lstObj vs 0), toks := tk }) k z R₁.gens rfl rfl (p := (s₁.heap.objs.size, s₁.heap.objs.size)) (o := .list (ys.map AV.str)) (Nat.le_refl _) (Nat.le_refl _) (.list (Heap.get?_push_size _ rfl) (hvs.go S₂)) rfl) fun R₂ S₂ => ?_)
      refine kk _ _ _ R₂ (S₁.trans S₂) (.loc (p := (s₁.heap.objs.size, s₁.heap.objs.size)) ?_)
      rw [← R₁.len, List.getElem?_append_right (Nat.le_refl _), Nat.sub_self]
      rfl
end
end Mine.Internal
end
section
open PySem PySem.W PyProof.Rows PySem.Calls
namespace Mine.Internal
noncomputable def negE (f : EM) : EM := fun lc σ => match f lc σ with
  | some (.int x, σ₁) => some (.int (-x), σ₁)
  | _ => none
noncomputable def neverS : SM := fun _ _ => none
section
variable {C : Cfg} {ρ ρ' : Rho} {σ σ' : St} {s : Shared} {A : Around} {E : Value → Shared → Prop} {env : Env} {vars : List Str} {lc : Lc} {d : Nat} {p : Pos} {fl fs ff : Addr}
set_option tactic.hygienic false in
theorem den_neg {e : Expr} {f : EM} (D : DenE C d env vars e f) : DenE C d env vars (.UnaryOp .USub e p) (negE f) := by
  intro lc σ x σ' hf A Q E s ρ hA R lr kk
  unfold negE at hf
  (refine si hf ?_; clear hf; intro y σ₁ e1 hf)
  (refine c2 hf fun hh0 hh1 => ?_; clear hf; subst hh0; subst hh1)
  refine wpAny_UnaryOp (D _ _ _ _ e1 A _ E s ρ hA R lr fun va s₁ ρ₁ R₁ S₁ q₁ => ?_)
  cases q₁ with
  | int _ t => exact neg_int (kk _ _ ρ₁ R₁.toks S₁ (.int _ _))
set_option tactic.hygienic false in
theorem truthyA (H : CfgOk C) (HS : SpecOk C fl fs ff) {LF : FM} (DL : DenCall C d (.ref fl) LF) {l : Nat} {ini : Int} {ps : List (Str × Str)} {n : Int} {σ₂ : St} {v : Value} {Q : Bool → Shared → Prop} (hA : AOk (d + 1) A) (R₁ : Rel C ρ σ s) (q₁ : VR C ρ s.heap (.loc l) v) (hl : σ[l]? = some (.acc ini ps)) (e2 : lenA LF l σ = some (n, σ₂))
    (kk : ∀ s' ρ', Rel C ρ' σ₂ s' → Step C [] ρ ρ' s.heap s'.heap → Q (n != 0) s') : wpAny (model C.prog C.w) A (truthy v) Q E s := by
  have qq := q₁
  (refine x1_2 (R₁.obj hl) fun p e4 ob => ?_)
  (refine x1_2 (q₁.loc_inv) fun uu e0 rr2 => ?_; subst rr2)
  rw [e0] at e4; cases e4
  cases ob with | @acc a dd es n1 n2 vs _ _ ho hd he hs =>
  have sp : ∀ {nm : Str} {r : Option Value}, findIn C.K (.ref C.ACC) nm = some r → Looks (model C.prog C.w) s.heap (specialOf (.ref a) nm) r := fun e => (accInst ho hd).type.andThen (looks_findIn (R₁.kin H) e)
  have nb : Looks (model C.prog C.w) s.heap (callSpecial? (.ref a) "__bool__") none := by
    unfold callSpecial?
    exact (sp HS.bool).andThen .now
  refine wpAny_bind (nb.here (wpAny_bind ((sp HS.len).here ?_)))
  dsimp only [Option.isNone]
  rw [if_neg Bool.false_ne_true]
  refine wpAny_bind (wpAny_runValue (codeAny_builtin entry_len ?_))
  rw [Around.under_plainId plain_len _]
  refine wpAny_mono (len_body H HS DL hA.in1 R₁ qq hl e2 (Q := fun v s' => ∃ t ρ', v = .int n t ∧ Rel C ρ' σ₂ s' ∧ Step C [] ρ ρ' s.heap s'.heap) fun t s' ρ' R' S' => ⟨t, ρ', rfl, R', S'⟩) (fun fin s' h' => ?_) fun uu uu z => z
  obtain ⟨v, rfl, t, ρ', rfl, R', S'⟩ := h'
  exact wpAny_pure (kk s' ρ' R' S')
set_option tactic.hygienic false in
theorem den_notA (H : CfgOk C) (HS : SpecOk C fl fs ff) {LF : FM} (DL : DenCall C d (.ref fl) LF) {e : Expr} {f : EM} (D : DenE C (d + 1) env vars e f) : DenE C (d + 1) env vars (.UnaryOp .Not e p) (tE (notT (trA LF f))) := by
  intro lc σ x σ' hf A Q E s ρ hA R lr kk
  obtain ⟨⟨y, σ''⟩, hy, e⟩ := Option.map_eq_some_iff.mp hf
  (refine p2 e fun hh0 hh1 => ?_; clear e; subst hh0; subst hh1)
  obtain ⟨⟨z, σ₃⟩, hz, e⟩ := Option.map_eq_some_iff.mp hy
  (refine p2 e fun hh0 hh1 => ?_; clear e; subst hh0; subst hh1)
  unfold trA at hz
  (refine sl hz ?_; clear hz; intro l σ₁ e1 hz)
  (refine sa hz ?_; clear hz; intro ini ps hl hz)
  obtain ⟨⟨n, σ₂⟩, e2, e3⟩ := Option.map_eq_some_iff.mp hz
  (refine p2 e3 fun hh0 hh1 => ?_; clear e3; subst hh0; subst hh1)
  refine wpAny_UnaryOp (D _ _ _ _ e1 A _ E s ρ hA R lr fun va s₁ ρ₁ R₁ S₁ q₁ => not_of (truthyA H HS DL hA R₁ q₁ hl e2 fun s₂ ρ₂ R₂ S₂ => ?_))
  exact kk _ s₂ ρ₂ R₂ (S₁.trans S₂) (.bool _)
end
end Mine.Internal
end
section
open PySem PySem.W PyProof.Rows PySem.Calls
namespace Mine.Internal
noncomputable def fdAt (K : Frag) (a : Addr) : FuncData := match K.lookup a with
  | some ⟨_, _, .func fd, _⟩ => fd
  | _ => default
noncomputable def bodyAt (K : Frag) (a : Addr) : List Stmt := match (fdAt K a).body with
  | .stmts b => b
  | _ => []
noncomputable def isFnAt (K : Frag) (a : Addr) : Bool := match K.lookup a with
  | some ⟨_, _, .func fd, _⟩ => match fd.body with
    | .stmts _ => true
    | _ => false
  | _ => false
theorem isFnAt_of {K : Frag} {a : Addr} (h : isFnAt K a = true) : ∃ o, K.lookup a = some o ∧ o.data = .func (fdAt K a) ∧ (fdAt K a).body = .stmts (bodyAt K a) := by
  unfold isFnAt at h
  split at h
  · rename_i c d fd sl e
    split at h
    · rename_i b hb
      have e1 : fdAt K a = fd := by unfold fdAt; rw [e]
      refine ⟨_, e, by rw [e1], ?_⟩
      unfold bodyAt
      rw [e1, hb]
    · cases h
  · cases h
noncomputable def codeIn (K : Frag) (code : Value) (q : Str) : Bool := match code with
  | .ref c => match K.lookup c with
    | some ⟨_, _, .fields vs, _⟩ => match (vs[1]? : Option Value) with
      | some (.str x _) => x == q
      | _ => false
    | _ => false
  | _ => false
theorem codeIn_of {K : Frag} {code : Value} {q : Str} {h : Heap} (X : K.In h) (e : codeIn K code q = true) : h.CodeRec code q ∧ ∃ c o, code = .ref c ∧ K.lookup c = some o := by
  unfold codeIn at e
  split at e
  · rename_i c
    split at e
    · rename_i vs sl hl
      split at e
      · rename_i x t hx
        cases eq_of_beq e
        exact ⟨⟨c, _, vs, t, rfl, X _ _ hl, rfl, hx⟩, c, _, rfl, hl⟩
      · cases e
    · cases e
  · cases e
noncomputable def scopeIn (scope : Scope) (vars : List Str) (n : Nat) : Bool :=
  !scope.isCoroutine && !scope.isGenerator && (scope.kind == .function) && scope.names.all (fun x => !(x.2 == .cell)) && vars.all (fun x => scope.names.lookup x == some .local) && decide vars.Nodup && decide (n ≤ vars.length)
structure ScopeIs (scope : Scope) (vars : List Str) (n : Nat) : Prop where
  coro : scope.isCoroutine = false
  gen : scope.isGenerator = false
  kind : scope.kind = .function
  cells : ∀ x ∈ scope.names, x.2 ≠ .cell
  loc : ∀ x ∈ vars, scope.names.lookup x = some .local
  nodup : vars.Nodup
  n_le : n ≤ vars.length
set_option tactic.hygienic false in
theorem scopeIn_of {scope : Scope} {vars : List Str} {n : Nat} (h : scopeIn scope vars n = true) : ScopeIs scope vars n := by
  unfold scopeIn at h
  simp only [Bool.and_eq_true, Bool.not_eq_true', decide_eq_true_eq, List.all_eq_true, beq_iff_eq] at h
  obtain ⟨⟨⟨⟨⟨⟨h1, h2⟩, h3⟩, h4⟩, h5⟩, h6⟩, h7⟩ := h
  exact ⟨h1, h2, h3, fun x hx e => by have := h4 x hx; rw [e] at this; simp at this, h5, h6, h7⟩
structure FnIn (C : Cfg) (f : Addr) (vars : List Str) (n : Nat) : Prop where
  fn : isFnAt C.K f = true
  glob : (fdAt C.K f).globals = mainGlobals
  blt : (fdAt C.K f).builtins = builtinsNs
  code : codeIn C.K (fdAt C.K f).code (fdAt C.K f).qualname = true
  scope : scopeIn (fdAt C.K f).scope vars n = true
noncomputable abbrev envAt (C : Cfg) (f L : Addr) : Env := fnEnv (fdAt C.K f).scope (fdAt C.K f).closure (fdAt C.K f).qualname f (fdAt C.K f).code L
section
variable {C : Cfg} {f : Addr} {vars : List Str} {n : Nat} {ρ : Rho}
set_option tactic.hygienic false in
theorem FnIn.env (H : FnIn C f vars n) (L : Addr) : EnvOk (envAt C f L) vars := by
  have S := scopeIn_of H.scope
  exact ⟨S.kind, fun x hx => S.loc x hx, S.nodup, rfl, rfl⟩
set_option tactic.hygienic false in
theorem FnIn.ok (H : CfgOk C) (F : FnIn C f vars n) (hb : ∀ vs : List Value, vs.length = n → bindArgs (fdAt C.K f) ⟨vs, []⟩ = pure ((vars.take n).zip vs)) : FnOk C f vars n (bodyAt C.K f) (fdAt C.K f).scope (fdAt C.K f).closure (fdAt C.K f).qualname (fdAt C.K f).code := by
  (refine x1_3 (isFnAt_of F.fn) fun o e hd hbd => ?_)
  obtain ⟨cr, c, oc, ec, hc⟩ := codeIn_of H.kin F.code
  have S := scopeIn_of F.scope
  exact ⟨⟨o, _, H.kin _ _ e, hd, rfl, hbd, F.glob, rfl, rfl, rfl, F.blt, hb⟩, H.knt _ _ e, cr, fun c' hc' => by rw [ec] at hc'; cases hc'; exact H.knt _ _ hc, S.coro, S.gen, S.kind, S.cells, S.loc, S.nodup, S.n_le⟩
set_option tactic.hygienic false in
theorem FnIn.okD (H : CfgOk C) {m : Nat} {dxs : List AV} {dv : List Value} (F : FnIn C f vars (m + dxs.length)) (dq : ∀ ρ h, VRs C ρ h dxs dv)
    (hb : ∀ s : Shared, C.K.In s.heap → ∀ vs : List Value, vs.length = m → BindsTo s (fdAt C.K f) ⟨vs, []⟩ ((vars.take (m + dxs.length)).zip (vs ++ dv))) : FnD C f vars m dxs dv (bodyAt C.K f) (fdAt C.K f).scope (fdAt C.K f).closure (fdAt C.K f).qualname (fdAt C.K f).code := by
  (refine x1_3 (isFnAt_of F.fn) fun o e hd hbd => ?_)
  obtain ⟨cr, c, oc, ec, hc⟩ := codeIn_of H.kin F.code
  have S := scopeIn_of F.scope
  exact ⟨⟨o, _, H.kin _ _ e, hd, rfl, hbd, F.glob, rfl, rfl, rfl, F.blt, fun s k vs hv => hb s (fun a o e => k a o (H.kin a o e) (H.knt a o e)) vs hv⟩, dq, H.knt _ _ e, cr, fun c' hc' => by rw [ec] at hc'; cases hc'; exact H.knt _ _ hc, S.coro, S.gen, S.kind, S.cells, S.loc, S.nodup, S.n_le⟩
set_option tactic.hygienic false in
theorem globOwn {mg : Str → Option Value} (X : C.K.In C.s₁.heap) (G : C.s₁.heap.Ns mainGlobals mg) {x : Str} {v : Value} (e : nsIn C.K mainGlobals x = some (some v)) : GlobVal C x v := ⟨mg, G, .inl (mg_of X G e)⟩
theorem ns_of {h : Heap} {a : Addr} {m : Str → Option Value} {x : Str} {r : Option Value} {K : Frag} (X : K.In h) (G : h.Ns a m) (e : nsIn K a x = some r) : m x = r := by
  (refine x3_4 (G) fun o es ep ho hd uu hf => ?_; clear G)
  unfold nsIn at e
  split at e
  · rename_i c d es' n' sl q
    have := X _ _ q
    rw [ho] at this
    (refine c1 this fun hh0 => ?_; clear this; subst hh0)
    cases hd
    rw [← hf]
    unfold nsFind findBy
    rw [← Array.find?_toList]
    split at e
    · rename_i en h1
      (refine c1 e fun hh0 => ?_; clear e; subst hh0)
      rw [h1]; rfl
    · rename_i h1
      split at e
      · exact ns e
      · (refine c1 e fun hh0 => ?_; clear e; subst hh0)
        rw [h1]; rfl
  · exact ns e
set_option tactic.hygienic false in
theorem globBlt {mg mb : Str → Option Value} (X : C.K.In C.s₁.heap) (G : C.s₁.heap.Ns mainGlobals mg) (B : C.s₁.heap.Ns builtinsNs mb) {x : Str} {v : Value} (e1 : nsIn C.K mainGlobals x = some none) (e2 : nsIn C.K builtinsNs x = some (some v)) : GlobVal C x v :=
  ⟨mg, G, .inr ⟨ns_of X G e1, mb, B, ns_of X B e2⟩⟩
end
end Mine.Internal
end
section
open PySem PySem.W PyProof.Rows PySem.Calls
namespace Mine.Internal
noncomputable def strV : Value → Bool
  | .str .. => true
  | _ => false
noncomputable def intV : Value → Bool
  | .int .. => true
  | _ => false
noncomputable def boolV : Value → Bool
  | .bool _ => true
  | _ => false
noncomputable def fieldsD : Data → Option (Array Value)
  | .fields vs => some vs
  | _ => none
set_option tactic.hygienic false in
theorem fieldsD_of {d : Data} {vs : Array Value} (h : fieldsD d = some vs) : d = .fields vs := by cases d <;> cases h; rfl
set_option tactic.hygienic false in
theorem strV_of {v : Value} (h : strV v = true) : ∃ x t, v = .str x t := by cases v <;> first | exact ⟨_, _, rfl⟩ | cases h
set_option tactic.hygienic false in
theorem intV_of {v : Value} (h : intV v = true) : ∃ x t, v = .int x t := by cases v <;> first | exact ⟨_, _, rfl⟩ | cases h
set_option tactic.hygienic false in
theorem boolV_of {v : Value} (h : boolV v = true) : ∃ x, v = .bool x := by cases v <;> first | exact ⟨_, rfl⟩ | cases h
noncomputable def codeTabIn (K : Frag) (c P : Addr) : Bool := match K.lookup c, K.lookup P with
  | some o, some o' => (match fieldsD o.data with
    | some vs => (o.cls == .type "code") && (o'.cls == .none) && o'.dict.isNone && o'.slots.isEmpty && ((fieldsD o'.data).map (·.size) == some 0) && (vs[11]? == some (.ref P)) && (vs.getD 11 .none == .ref P) && (c != P) && strV (vs.getD 18 .none) && intV (vs.getD 7 .none) && boolV (vs.getD 9 .none) && intV (vs.getD 10 .none)
    | none => false)
  | _, _ => false
theorem codeTabIn_of {K : Frag} {c P : Addr} {h : Heap} (X : K.In h) (e : codeTabIn K c P = true) : h.IsCode c P #[] ∧ h.TableAt c P #[] := by
  unfold codeTabIn at e
  split at e
  · rename_i o o' e1 e2
    split at e
    · rename_i vs hv
      simp only [Bool.and_eq_true, beq_iff_eq, bne_iff_ne] at e
      obtain ⟨⟨⟨⟨⟨⟨⟨⟨⟨⟨⟨h1, h2⟩, h3⟩, h4⟩, h5⟩, h6⟩, h7⟩, h8⟩, h9⟩, h10⟩, h11⟩, h12⟩ := e
      (refine x1_2 (Option.map_eq_some_iff.mp h5) fun ps hps hz => ?_)
      have hp : ps = #[] := Array.eq_empty_of_size_eq_zero hz
      subst hp
      obtain ⟨oc, od, dt, osl⟩ := o
      obtain ⟨oc', od', dt', osl'⟩ := o'
      have hd := fieldsD_of hv
      have hd' := fieldsD_of hps
      dsimp only at h1 h2 h3 h4 hd hd'
      subst h1 h2 hd hd'
      have h3' : od' = none := by simpa using h3
      have h4' : osl' = #[] := by simpa using h4
      subst h3' h4'
      (refine x2_1 (strV_of h9) fun uu uu a1 => ?_)
      (refine x2_1 (intV_of h10) fun uu uu a2 => ?_)
      (refine x1_1 (boolV_of h11) fun uu a3 => ?_)
      (refine x2_1 (intV_of h12) fun uu uu a4 => ?_)
      exact ⟨⟨_, vs, _, _, _, _, _, _, _, _, X _ _ e1, rfl, h7, a1, a2, a3, a4, X _ _ e2, rfl, trivial, h8⟩, ⟨_, vs, X _ _ e1, rfl, rfl, h6⟩, X _ _ e2⟩
    · cases e
  · cases e
set_option tactic.hygienic false in
theorem lookup_filter (q : Addr → Bool) : ∀ (l : Frag) (a : Addr), (l.filter fun p => q p.1).lookup a = if q a then l.lookup a else none
  | [], a => by simp
  | (b, o) :: l, a => by
    have ih := lookup_filter q l a
    rw [List.filter_cons]
    by_cases hb : q b = true
    · simp only [hb, if_true]
      rw [List.lookup_cons, List.lookup_cons, ih]
      by_cases hab : a = b
      · subst hab; simp [hb]
      · rw [beq_false_of_ne hab]
    · simp only [hb]
      rw [List.lookup_cons]
      simp only [Bool.false_eq_true, if_false]
      rw [ih]
      by_cases hab : a = b
      · subst hab; simp [hb]
      · rw [beq_false_of_ne hab]
structure Start (K : Frag) (s₁ : Shared) (mg mb : Str → Option Value) : Prop where
  kx : K.In s₁.heap
  g : s₁.heap.Ns mainGlobals mg
  b : s₁.heap.Ns builtinsNs mb
  lim : s₁.heap.NoLimit
  bm : ∃ bm ob, BMod s₁.heap mainGlobals mg bm ob
  gens : s₁.gens = #[]
noncomputable def noTabs (K : Frag) (ts : List Addr) : Frag := K.filter fun p => !ts.contains p.1
noncomputable def mkCfg (prog : Program) (w : World) (K : Frag) (s₁ : Shared) (VF ACC : Addr) (ts : List (Addr × Addr)) (G : Addr → Nat → GenState → Prop) : Cfg :=
  { prog := prog, w := w, K := noTabs K (ts.map (·.2)), s₁ := s₁, VF := VF, ACC := ACC, tabs := ts.map (fun t => (t.1, t.2, #[])), G := G }
section
variable {prog : Program} {w : World} {K : Frag} {s₁ : Shared} {VF ACC : Addr} {ts : List (Addr × Addr)} {G : Addr → Nat → GenState → Prop} {mg mb : Str → Option Value}
set_option tactic.hygienic false in
theorem noTabs_lookup {ts : List Addr} {a : Addr} {o : Obj} (h : (noTabs K ts).lookup a = some o) : a ∉ ts ∧ K.lookup a = some o := by
  unfold noTabs at h
  rw [lookup_filter (fun a => !ts.contains a)] at h
  (refine sf h ?_; clear h; intro q h)
  simp at q
  exact ⟨q, h⟩
set_option tactic.hygienic false in
theorem isTab_iff {a : Addr} : (mkCfg prog w K s₁ VF ACC ts G).isTab a ↔ a ∈ ts.map (·.2) := by
  unfold Cfg.isTab mkCfg
  simp
set_option tactic.hygienic false in
theorem start_cfg (S : Start K s₁ mg mb) (h1 : cStatics ∉ ts.map (·.2)) (h2 : mainGlobals ∉ ts.map (·.2)) (h3 : builtinsNs ∉ ts.map (·.2)) : CfgOk (mkCfg prog w K s₁ VF ACC ts G) where
  kin a o e := S.kx a o (noTabs_lookup e).2
  knt a o e := fun h => (noTabs_lookup e).1 (isTab_iff.mp h)
  lim := S.lim
  stat h := h1 (isTab_iff.mp h)
  glob h := h2 (isTab_iff.mp h)
  blt h := h3 (isTab_iff.mp h)
set_option tactic.hygienic false in
theorem start_gen (S : Start K s₁ mg mb) (ht : ∀ t ∈ ts, codeTabIn K t.1 t.2 = true) (nd : ∀ t ∈ ts, ∀ t' ∈ ts, t.2 = t'.2 → t = t') : GenOk (mkCfg prog w K s₁ VF ACC ts G) where
  bm := by
    (refine x2_1 (S.bm) fun bm ob B => ?_)
    refine ⟨mg, bm, ob, B, fun h => ?_⟩
    (refine x1_2 (List.mem_map.mp (isTab_iff.mp h)) fun t hm e => ?_)
    have := (codeTabIn_of S.kx (ht t hm)).2.2
    rw [e, B.obj] at this
    have hc := B.cls
    (refine c1 this fun hh0 => ?_; clear this; subst hh0)
    cases hc
  one := by
    intro t h t' h' e
    unfold mkCfg at h h'
    (refine x1_2 (List.mem_map.mp h) fun u hu rr2 => ?_; subst rr2)
    (refine x1_2 (List.mem_map.mp h') fun u' hu' rr2 => ?_; subst rr2)
    have := nd u hu u' hu' e
    rw [this]
set_option tactic.hygienic false in
theorem start_rel (S : Start K s₁ mg mb) (ht : ∀ t ∈ ts, codeTabIn K t.1 t.2 = true) : Rel (mkCfg prog w K s₁ VF ACC ts G) [] [] s₁ where
  old b o e _ := e
  tab t h := by
    unfold mkCfg at h
    (refine x1_2 (List.mem_map.mp h) fun u hu rr2 => ?_; subst rr2)
    (refine x0_2 (codeTabIn_of S.kx (ht u hu)) fun a b => ?_)
    exact ⟨#[], by simpa using a, by simpa using b⟩
  lo _ h := nomatch h
  dis := .nil
  len := rfl
  st l p o e := by simp at e
  gens := ⟨.of_eq S.gens, fun l p m k e => (by simp at e), fun l p n e => (by simp at e), fun l l' p p' o o' n a b c d e => (by simp at e)⟩
  drawn := rfl
  os := rfl
  size := Nat.le_refl _
set_option tactic.hygienic false in
theorem notTab_of (S : Start K s₁ mg mb) (ht : ∀ t ∈ ts, codeTabIn K t.1 t.2 = true) {a : Addr} {o : Obj} (ho : s₁.heap.get? a = some o) (hc : o.cls ≠ .none) : ¬ (mkCfg prog w K s₁ VF ACC ts G).isTab a := fun h => by
  (refine x1_2 (List.mem_map.mp (isTab_iff.mp h)) fun t hm e => ?_)
  have := (codeTabIn_of S.kx (ht t hm)).2.2
  rw [e, ho] at this
  (refine c1 this fun hh0 => ?_; clear this; subst hh0)
  exact hc rfl
set_option tactic.hygienic false in
theorem end_old {ρ : Rho} {σ : St} {s' : Shared} (S : Start K s₁ mg mb) (ht : ∀ t ∈ ts, codeTabIn K t.1 t.2 = true) (R : Rel (mkCfg prog w K s₁ VF ACC ts G) ρ σ s') : OldK s₁.heap s'.heap := by
  refine ⟨fun b o e => ?_, fun b o e => ?_⟩
  · by_cases hb : (mkCfg prog w K s₁ VF ACC ts G).isTab b
    · (refine x1_2 (List.mem_map.mp (isTab_iff.mp hb)) fun t hm e' => ?_)
      (refine x0_2 (codeTabIn_of S.kx (ht t hm)) fun uu q => ?_)
      subst e'
      obtain ⟨more, _, q'⟩ := R.tab (t.1, t.2, #[]) (by unfold mkCfg; exact List.mem_map.mpr ⟨t, hm, rfl⟩)
      rw [q.2] at e
      (refine c1 e fun hh0 => ?_; clear e; subst hh0)
      refine .inr (.inl ⟨q.isCodeTable, rfl, #[], more, rfl, ?_⟩)
      exact q'.2
    · exact .inl (R.old b o e hb)
  · by_cases hb : (mkCfg prog w K s₁ VF ACC ts G).isTab b
    · (refine x1_2 (List.mem_map.mp (isTab_iff.mp hb)) fun t hm e' => ?_)
      subst e'
      obtain ⟨more, _, q'⟩ := R.tab (t.1, t.2, #[]) (by unfold mkCfg; exact List.mem_map.mpr ⟨t, hm, rfl⟩)
      exact ⟨_, q'.2⟩
    · exact ⟨o, R.old b o e hb⟩
end
end Mine.Internal
end
section
open PySem PySem.W PyProof.Rows PySem.Calls
namespace Mine.Internal
noncomputable def noF : FM := fun _ _ => none
set_option tactic.hygienic false in
theorem den_noF {C : Cfg} {d : Nat} {fv : Value} : DenCall C d fv noF := by intro xs σ x σ' h; cases h
noncomputable def pushF : FM := runF ["self", "fws", "string"] 3 (seqS [exprS (mE 4 appendF (nE 0) [tupE [nE 1, nE 2]])])
noncomputable def pcF : FM := runF ["self"] 1 (seqS [partCountS])
noncomputable def popF : FM := runF ["self"] 1 (seqS [ifS (cmpT .Eq (mE 4 pcF (nE 0) []) (cE (.int 0))) (seqS [retS (tupE [cE (.str ""), cE (.str "")])]) (seqS []), popS])
noncomputable def popFromF : FM := runD ["self", "i", "popped"] 2 [] (seqS [asgS 2 (sliceE (nE 0) (some (nE 1)) none), setSlS (nE 0) (some (nE 1)) none (lstE []), retS (nE 2)])
noncomputable def accLenF : FM := runF ["self"] 1 (seqS [accLenS])
noncomputable def accStrF : FM := runF ["self"] 1 (seqS [accStrS])
noncomputable def resetB : SM := seqS [ifS (cmpT .Is (nE 1) (cE .none)) (seqS [asgS 1 (lstE [])]) (seqS []), setSlS (nE 0) none none (nE 1), iniS (nE 0) (cE (.int 0))]
noncomputable def resetF : FM := orF (runD ["self", "startval"] 1 [.none] resetB) (runD ["self", "startval"] 2 [] resetB)
noncomputable def onlywsF : FM := runF ["self"] 1 (seqS [retS (andE (tE (cmpT .Eq (attrE 6 (nE 0)) (cE (.int 0)))) (orE (tE (notT (trA accLenF (nE 0)))) (mE 1 isspaceF (callE (strF accStrF noF) [nE 0]) [])))])
end Mine.Internal
end
section
open PySem PySem.W PyProof.Rows PySem.Calls
namespace Mine.Internal
noncomputable def lineE : EM := attrE 5 (nE 0)
noncomputable def linesE : EM := attrE 4 (nE 0)
noncomputable def strAcc : EM := callE (strF accStrF noF) [lineE]
noncomputable def newlineB : SM := seqS [
  asgS 1 (mE 4 popF lineE []),
  ifS (cmpT .NotEq (nE 1) (tupE [cE (.str " "), cE (.str "")])) (seqS [exprS (mStarE pushF lineE (nE 1))]) (seqS []),
  ifS (cmpT .Gt (callE (lenF accLenF) [lineE]) (cE (.int 0)))
    (seqS [ifS (andT [trT (mE 4 onlywsF lineE []), trT linesE])
      (seqS [augIdxS linesE (negE (cE (.int 1))) .Add strAcc])
      (seqS [exprS (mE 2 appendF linesE [strAcc])])]) (seqS []),
  exprS (mE 4 resetF lineE [])]
noncomputable def newlineF : FM := runF ["self", "end_of_line"] 1 newlineB
noncomputable def uStrF : FM := runF ["self", "linesep"] 2 (seqS [exprS (mE 3 newlineF (nE 0) []), retS (mE 1 joinF (nE 1) [linesE])])
noncomputable def fmtStrF : FM := runF ["self"] 1 (seqS [retS (mE 3 uStrF (nE 0) [cE (.str "\n")])])
noncomputable def seekB : SM := seqS [
  ifS (trT (mE 1 isspaceF (nE 3) [])) (seqS [
    asgS 1 (idxE (idxE lineE (nE 4)) (cE (.int 0))),
    ifS (andT [trT (nE 1), cmpT .Eq (idxE (nE 1) (cE (.int 0))) (nE 3)]) (seqS [brkS]) (seqS [])]) (seqS []),
  asgS 5 (idxE (idxE lineE (binE .Sub (nE 4) (cE (.int 1)))) (cE (.int 1))),
  ifS (andT [trT (nE 5), cmpT .Eq (idxE (nE 5) (negE (cE (.int 1)))) (nE 3)]) (seqS [brkS]) (seqS [])]
noncomputable def seekS : SM := forS 3 (attrE 3 (nE 0))
  (seqS [forRS 4 [binE .Sub (mE 4 pcF lineE []) (cE (.int 1)), cE (.int 0), negE (cE (.int 1))] seekB (seqS [contS]), brkS])
  (seqS [unpS 1 6 (mE 4 popF lineE []),
    ifS (cmpT .Gt (attrE 6 lineE) (cE (.int 0))) (seqS [exprS (mE 3 newlineF (nE 0) []), ifS (notT (trT (nE 1))) (seqS [asgS 1 (cE (.str " "))]) (seqS [])]) (seqS []),
    exprS (mE 4 pushF lineE [nE 1, nE 6]),
    retNS])
noncomputable def chunkB : SM := seqS [
  exprS (mE 4 pushF lineE [nE 1, nE 2]),
  ifS (cmpT .Gt (callE (lenF accLenF) [lineE]) (attrE 0 (nE 0))) (seqS [
    seekS,
    asgS 7 (mE 4 popFromF lineE [nE 4]),
    exprS (mE 2 appendF linesE [strAcc]),
    exprS (mE 4 resetF lineE [nE 7])]) (seqS [])]
noncomputable def chunkF : FM := runF ["self", "fws", "string", "ch", "i", "prevpart", "part", "remainder"] 3 chunkB
noncomputable def splitB : SM := seqS [
  asgS 4 (reSplitE (binE .Add (nE 1) (nE 2))),
  ifS (trT (idxE (nE 4) (cE (.int 0)))) (seqS [setSlS (nE 4) none (some (cE (.int 0))) (lstE [cE (.str "")])]) (seqS [exprS (mE 2 popAtF (nE 4) [cE (.int 0)])]),
  zipS 1 5 (nE 4) (seqS [exprS (mE 3 chunkF (nE 0) [nE 1, nE 5])]) (seqS [])]
noncomputable def splitF : FM := runF ["self", "fws", "string", "splitchars", "parts", "part"] 4 splitB
end Mine.Internal
end
section
open PySem PySem.W PyProof.Rows PySem.Calls
namespace Mine.Internal
structure BE (C : Cfg) (d : Nat) (env : Env) (vars : List Str) (e : Expr) (f : EM) : Prop where
  run : DenE C d env vars e f
structure BT (C : Cfg) (d : Nat) (env : Env) (vars : List Str) (e : Expr) (f : TM) : Prop where
  run : DenT C d env vars e f
structure BS (C : Cfg) (d : Nat) (env : Env) (vars : List Str) (e : Stmt) (f : SM) : Prop where
  run : DenS C d env vars e f
structure BB (C : Cfg) (d : Nat) (env : Env) (vars : List Str) (e : List Stmt) (f : SM) : Prop where
  run : DenB C d env vars e f
structure BEs (C : Cfg) (d : Nat) (env : Env) (vars : List Str) (e : List Expr) (f : List EM) : Prop where
  run : DenEs C d env vars e f
structure BTs (C : Cfg) (d : Nat) (env : Env) (vars : List Str) (e : List Expr) (f : List TM) : Prop where
  run : DenTs C d env vars e f
structure BO (C : Cfg) (d : Nat) (env : Env) (vars : List Str) (e : Option Expr) (f : Option EM) : Prop where
  run : DenO C d env vars e f
structure BC (C : Cfg) (d : Nat) (fv : Value) (F : FM) : Prop where
  run : DenCall C d fv F
structure BF (C : Cfg) (d : Nat) (f : Addr) (F : FM) : Prop where
  run : DenF C d f F
structure BSA (C : Cfg) (d : Nat) (env : Env) (vars : List Str) (body : List Stmt) (e : Stmt) (f : SM) : Prop where
  run : DenSAt C d env vars body e f
structure BBA (C : Cfg) (d : Nat) (env : Env) (vars : List Str) (body : List Stmt) (e : List Stmt) (f : SM) : Prop where
  run : DenBAt C d env vars body e f
structure BM (C : Cfg) (k : Nat) (name : Str) (fv : Value) : Prop where
  run : GetM C k name fv
structure EnvB (env : Env) (vars : List Str) : Prop where
  ok : EnvOk env vars
  nd : ∀ x ∈ vars, (x == ("__debug__" : Str)) = false
  int : interactive env = false
noncomputable def plainVal : Expr → Bool
  | .ListComp .. | .SetComp .. | .DictComp .. => false
  | _ => true
set_option tactic.hygienic false in
theorem swaps_plain {e : Expr} (h : plainVal e = true) (t : Option Expr) (l : Nat) (env : Env) : swapsWith e t l env = pure false := by
  cases e <;> first | rfl | cases h
noncomputable def noStarE : Expr → Bool
  | .Starred .. => false
  | _ => true
set_option tactic.hygienic false in
theorem star_plain {e : Expr} (h : noStarE e = true) (env : Env) (r : List Expr) : starEach (e :: r) env = (false, eval e env) :: starEach r env := by
  cases e <;> first | rfl | cases h
section
variable {C : Cfg} {d d' : Nat} {env : Env} {vars : List Str} {p p' p0 p1 : Pos} {fl fs ff : Addr}
set_option tactic.hygienic false in
theorem BC.up {fv : Value} {F : FM} (D : BC C d' fv F) (h : d' ≤ d) : BC C d fv F := ⟨D.run.mono h⟩
set_option tactic.hygienic false in
theorem BF.call {f : Addr} {F : FM} (D : BF C d' f F) (h : d' ≤ d) : BC C d (.ref f) F := ⟨D.run.call.mono h⟩
set_option tactic.hygienic false in
theorem b_int {i : Int} {k : Nat} : BE C d env vars (.Constant (.int i) k p) (cE (.int i)) := ⟨den_int⟩
set_option tactic.hygienic false in
theorem b_str {x : Str} {k : Nat} (ok : PyData.strOk x = true) : BE C d env vars (.Constant (.str x) k p) (cE (.str x)) := ⟨den_str ok⟩
set_option tactic.hygienic false in
theorem b_bool {b : Bool} {k : Nat} : BE C d env vars (.Constant (.bool b) k p) (cE (.bool b)) := ⟨den_bool⟩
set_option tactic.hygienic false in
theorem b_none {k : Nat} : BE C d env vars (.Constant .none k p) (cE .none) := ⟨den_none⟩
set_option tactic.hygienic false in
theorem b_name (He : EnvB env vars) {n : Str} {i : Nat} (hi : vars[i]? = some n) : BE C d env vars (.Name n p) (nE i) := ⟨den_name He.ok hi (He.nd _ (List.mem_of_getElem? hi))⟩
set_option tactic.hygienic false in
theorem b_bin {l r : Expr} {op : Operator} {f g : EM} (D1 : BE C d env vars l f) (D2 : BE C d env vars r g) : BE C d env vars (.BinOp l op r p) (binE op f g) := ⟨den_bin D1.run D2.run⟩
set_option tactic.hygienic false in
theorem b_cmp {l r : Expr} {op : CmpOp} {f g : EM} (D1 : BE C (d + 1) env vars l f) (D2 : BE C (d + 1) env vars r g) (hb : behindInMarks op r = false) : BE C (d + 1) env vars (.Compare l [op] [r] p) (tE (cmpT op f g)) := ⟨den_cmp D1.run D2.run hb⟩
set_option tactic.hygienic false in
theorem b_cmpT {l r : Expr} {op : CmpOp} {f g : EM} (D1 : BE C (d + 1) env vars l f) (D2 : BE C (d + 1) env vars r g) (hb : behindInMarks op r = false) : BT C (d + 1) env vars (.Compare l [op] [r] p) (cmpT op f g) := ⟨den_cmpT D1.run D2.run hb⟩
set_option tactic.hygienic false in
theorem b_tr {e : Expr} {f : EM} (D : BE C d env vars e f) (hp : ∀ whole, isTrue e env whole = (do let v ← whole; standAt e.pos; holding [v] (truthy v))) : BT C d env vars e (trT f) := ⟨den_truth D.run hp⟩
set_option tactic.hygienic false in
theorem b_notT {e : Expr} {f : TM} (D : BT C d env vars e f) : BT C d env vars (.UnaryOp .Not e p) (notT f) := ⟨den_notT D.run⟩
set_option tactic.hygienic false in
theorem b_tnil : BTs C d env vars [] [] := ⟨.nil⟩
set_option tactic.hygienic false in
theorem b_tcons {e : Expr} {f : TM} {es : List Expr} {fs : List TM} (a : BT C d env vars e f) (b : BTs C d env vars es fs) : BTs C d env vars (e :: es) (f :: fs) := ⟨.cons a.run b.run⟩
set_option tactic.hygienic false in
theorem b_andT {es : List Expr} {fs : List TM} (D : BTs C d env vars es fs) : BT C d env vars (.BoolOp .And es p) (andT fs) := ⟨den_andT D.run⟩
set_option tactic.hygienic false in
theorem b_orT {es : List Expr} {fs : List TM} (D : BTs C d env vars es fs) : BT C d env vars (.BoolOp .Or es p) (orT fs) := ⟨den_orT D.run⟩
set_option tactic.hygienic false in
theorem b_andE {l r : Expr} {f g : EM} (D1 : BE C d env vars l f) (D2 : BE C d env vars r g) : BE C d env vars (.BoolOp .And [l, r] p) (andE f g) := ⟨den_andE D1.run D2.run⟩
set_option tactic.hygienic false in
theorem b_orE {l r : Expr} {f g : EM} (D1 : BE C d env vars l f) (D2 : BE C d env vars r g) : BE C d env vars (.BoolOp .Or [l, r] p) (orE f g) := ⟨den_orE D1.run D2.run⟩
set_option tactic.hygienic false in
theorem b_ite {c l r : Expr} {t : TM} {f g : EM} (D0 : BT C d env vars c t) (D1 : BE C d env vars l f) (D2 : BE C d env vars r g) : BE C d env vars (.IfExp c l r p) (iteE t f g) := ⟨den_ite D0.run D1.run D2.run⟩
set_option tactic.hygienic false in
theorem b_neg {e : Expr} {f : EM} (D : BE C d env vars e f) : BE C d env vars (.UnaryOp .USub e p) (negE f) := ⟨den_neg D.run⟩
set_option tactic.hygienic false in
theorem b_notA (H : CfgOk C) (HS : SpecOk C fl fs ff) {LF : FM} (DL : BC C d (.ref fl) LF) {e : Expr} {f : EM} (D : BE C (d + 1) env vars e f) : BE C (d + 1) env vars (.UnaryOp .Not e p) (tE (notT (trA LF f))) := ⟨den_notA H HS DL.run D.run⟩
set_option tactic.hygienic false in
theorem b_nil : BB C d env vars [] (seqS []) := ⟨den_nil⟩
set_option tactic.hygienic false in
theorem b_cons {st : Stmt} {r : List Stmt} {f : SM} {fs : List SM} (D1 : BS C d env vars st f) (D2 : BB C d env vars r (seqS fs)) : BB C d env vars (st :: r) (seqS (f :: fs)) := ⟨den_cons D1.run D2.run⟩
set_option tactic.hygienic false in
theorem b_asg (H : EnvB env vars) {i : Nat} {n : Str} {e : Expr} {f : EM} (hi : vars[i]? = some n) (D : BE C d env vars e f) (hs : plainVal e = true) : BS C d env vars (.Assign [.Name n p'] e p) (asgS i f) := ⟨den_asg H.ok hi D.run (swaps_plain hs _ _ _)⟩
set_option tactic.hygienic false in
theorem b_if {c : Expr} {t : TM} {b1 b2 : List Stmt} {f g : SM} (D0 : BT C d env vars c t) (D1 : BB C d env vars b1 f) (D2 : BB C d env vars b2 g) : BS C d env vars (.If c b1 b2 p) (ifS t f g) := ⟨den_if D0.run D1.run D2.run⟩
set_option tactic.hygienic false in
theorem b_ret {e : Expr} {f : EM} (D : BE C d env vars e f) : BS C d env vars (.Return (some e) p) (retS f) := ⟨den_ret D.run⟩
set_option tactic.hygienic false in
theorem b_retN : BS C d env vars (.Return none p) retNS := ⟨den_retN⟩
set_option tactic.hygienic false in
theorem b_brk : BS C d env vars (.Break p) brkS := ⟨den_brk⟩
set_option tactic.hygienic false in
theorem b_cont : BS C d env vars (.Continue p) contS := ⟨den_cont⟩
set_option tactic.hygienic false in
theorem b_expr (H : EnvB env vars) {e : Expr} {f : EM} (D : BE C d env vars e f) (hs : plainVal e = true) : BS C d env vars (.Expr e p) (exprS f) := ⟨den_expr D.run H.int (swaps_plain hs _ _ _)⟩
set_option tactic.hygienic false in
theorem b_enil : BEs C d env vars [] [] := ⟨.nil⟩
set_option tactic.hygienic false in
theorem b_econs {e : Expr} {f : EM} {es : List Expr} {fs : List EM} (a : BE C d env vars e f) (b : BEs C d env vars es fs) (ns : noStarE e = true) : BEs C d env vars (e :: es) (f :: fs) := ⟨.cons a.run b.run fun r => star_plain ns env r⟩
set_option tactic.hygienic false in
theorem b_tup {es : List Expr} {fs : List EM} {k : Nat} (D : BEs C d env vars es fs) : BE C d env vars (.Tuple es k p) (tupE fs) := ⟨den_tup D.run⟩
set_option tactic.hygienic false in
theorem b_lst {es : List Expr} {fs : List EM} (D : BEs C d env vars es fs) : BE C d env vars (.List es p) (lstE fs) := ⟨den_lst D.run⟩
set_option tactic.hygienic false in
theorem b_newL {es : List Expr} {fs : List EM} (D : BEs C d env vars es fs) : BE C d env vars (.List es p) (newLE fs) := ⟨den_newL D.run⟩
set_option tactic.hygienic false in
theorem b_call (H : CfgOk C) (He : EnvB env vars) {x : Str} {fv : Value} {F : FM} {es : List Expr} {fs : List EM} (hv : GlobVal C x fv) (hx : env.kindOf x = some .globalImplicit) (hk : KeepOk C fv) (DF : BC C d fv F) (D : BEs C d env vars es fs)
    (hd : (x == ("__debug__" : Str)) = false) : BE C d env vars (.Call (.Name x p0) es [] p) (callE F fs) := ⟨den_call H He.ok hv hx hk DF.run D.run hd⟩
set_option tactic.hygienic false in
theorem b_glob (H : CfgOk C) (He : EnvB env vars) {x y : Str} {t : Tok} (hv : GlobVal C x (.str y t)) (ok : PyData.strOk y = true) (hx : env.kindOf x = some .globalImplicit) (hd : (x == ("__debug__" : Str)) = false) : BE C d env vars (.Name x p) (cE (.str y)) := ⟨den_glob H He.ok hv ok hx hd⟩
set_option tactic.hygienic false in
theorem b_meth (H : CfgOk C) {k : Nat} {name : Str} {fv : Value} {F : FM} {o : Expr} {f : EM} {es : List Expr} {fs : List EM} {apos : Pos} (hg : BM C k name fv) (hk : KeepOk C fv) (DF : BC C d fv F) (D0 : BE C d env vars o f) (D : BEs C d env vars es fs)
    (hb : ∀ nm whole, attributeBase o nm env whole = whole) (hl : es.length < 30) (hp : (apos.endLine == p.line) = true) : BE C d env vars (.Call (.Attribute o name apos) es [] p) (mE k F f fs) := ⟨den_meth H hg.run hk DF.run D0.run D.run hb hl hp⟩
set_option tactic.hygienic false in
theorem b_attr {o : Expr} {n : Str} {f : EM} {k : Nat} (H : CfgOk C) (HC : ClsOk C) (hn : attrName k = n) (D : BE C d env vars o f) (hb : ∀ nm whole, attributeBase o nm env whole = whole) : BE C d env vars (.Attribute o n p) (attrE k f) := ⟨den_attr H HC hn D.run hb⟩
set_option tactic.hygienic false in
theorem b_methStar (H : CfgOk C) (HC : ClsOk C) {name : Str} {f : Addr} {F : FM} {o e : Expr} {fo g : EM} {apos ps : Pos} (B : BindOk C name f) (DF : BF C d' f F) (h : d' ≤ d) (D0 : BE C d env vars o fo) (D : BE C d env vars e g)
    (hb : ∀ nm whole, attributeBase o nm env whole = whole) : BE C d env vars (.Call (.Attribute o name apos) [.Starred e ps] [] p) (mStarE F fo g) := ⟨den_methStar H HC B (DF.run.mono h) D0.run D.run hb⟩
set_option tactic.hygienic false in
theorem b_unp (He : EnvB env vars) {i j : Nat} {n m : Str} {e : Expr} {f : EM} {k0 : Nat} {pa pb pt : Pos} (hi : vars[i]? = some n) (hj : vars[j]? = some m) (D : BE C d env vars e f)
    (hs : swapsWithSole [.Tuple [.Name n pa, .Name m pb] k0 pt] e p.line env = pure false) (hw : swappedStores [.Tuple [.Name n pa, .Name m pb] k0 pt] e env = pure none) : BS C d env vars (.Assign [.Tuple [.Name n pa, .Name m pb] k0 pt] e p) (unpS i j f) := ⟨den_unp He.ok hi hj D.run hs hw⟩
set_option tactic.hygienic false in
theorem b_for (He : EnvB env vars) {j : Nat} {n : Str} {pn : Pos} {iter : Expr} {body orelse : List Stmt} {f : EM} {B O : SM} (hj : vars[j]? = some n) (D : BE C d env vars iter f) (DB : BB C d env vars body B) (DO : BB C d env vars orelse O)
    (hs : ∀ x, foldedSetIterable iter env x = pure x) : BS C d env vars (.For (.Name n pn) iter body orelse p) (forS j f B O) := ⟨den_for He.ok hj D.run DB.run DO.run hs⟩
set_option tactic.hygienic false in
theorem b_forR (H : CfgOk C) (He : EnvB env vars) {j : Nat} {n : Str} {pn : Pos} {es : List Expr} {body orelse : List Stmt} {fs : List EM} {B O : SM} (hj : vars[j]? = some n) (hv : GlobVal C "range" (.type "range")) (hk : env.kindOf "range" = some .globalImplicit) (D : BEs C d env vars es fs) (DB : BB C d env vars body B) (DO : BB C d env vars orelse O) :
    BS C d env vars (.For (.Name n pn) (.Call (.Name "range" p0) es [] p1) body orelse p) (forRS j fs B O) := ⟨den_forR H He.ok hj hv hk D.run DB.run DO.run⟩
set_option tactic.hygienic false in
theorem b_zip (H : CfgOk C) (He : EnvB env vars) {i j : Nat} {n m : Str} {k0 k1 : Nat} {pa pb pt q0 q2 q3 q4 q5 q6 : Pos} {e : Expr} {body orelse : List Stmt} {f : EM} {B O : SM} (hi : vars[i]? = some n) (hj : vars[j]? = some m)
    (hz : GlobVal C "zip" (.type "zip")) (hzk : env.kindOf "zip" = some .globalImplicit) (hit : GlobVal C "iter" (.builtin "iter")) (hik : env.kindOf "iter" = some .globalImplicit)
    (D : BE C d env vars e f) (DB : BB C d env vars body B) (DO : BB C d env vars orelse O) (ns : noStarE e = true) :
    BS C d env vars (.For (.Tuple [.Name n pa, .Name m pb] k0 pt) (.Call (.Name "zip" p0) [.Starred (.BinOp (.List [.Call (.Name "iter" q0) [e] [] q2] q3) .Mult (.Constant (.int 2) k1 q4) q5) q6] [] p1) body orelse p) (zipS i j f B O) := ⟨den_zip H He.ok hi hj hz hzk hit hik (fun r => star_plain ns env r) D.run DB.run DO.run⟩
set_option tactic.hygienic false in
theorem b_reSplit (H : CfgOk C) (He : EnvB env vars) {r rc : Addr} {n : Str} {e : Expr} {f : EM} {ap : Pos} (O : ReOk C r rc) (hd : ∀ o, C.K.lookup r = some o → o.dict = none) (hv : GlobVal C n (.ref r)) (hk : env.kindOf n = some .globalImplicit)
    (D : BE C d env vars e f) (hdb : (n == ("__debug__" : Str)) = false) (hp : (ap.endLine == p.line) = true) (ns : noStarE e = true) : BE C d env vars (.Call (.Attribute (.Name n p0) "split" ap) [e] [] p) (reSplitE f) := ⟨den_reSplit H He.ok O hd hv hk (fun r => star_plain ns env r) D.run hdb hp⟩
set_option tactic.hygienic false in
theorem b_idx (H : CfgOk C) (HC : ClsOk C) (HA : AccOk C) (HI : ItemOk C) {value slice : Expr} {f g : EM} (D1 : BE C d env vars value f) (D2 : BE C d env vars slice g) : BE C d env vars (.Subscript value slice p) (idxE f g) := ⟨den_idx H HC HA HI D1.run D2.run⟩
set_option tactic.hygienic false in
theorem b_oN : BO C d env vars none none := ⟨.none⟩
set_option tactic.hygienic false in
theorem b_oS {e : Expr} {f : EM} (D : BE C d env vars e f) : BO C d env vars (some e) (some f) := ⟨.some D.run⟩
set_option tactic.hygienic false in
theorem b_slice (H : CfgOk C) (HC : ClsOk C) (HA : AccOk C) (HI : ItemOk C) {value : Expr} {lo hi : Option Expr} {f : EM} {fl fh : Option EM} {ps : Pos} (D1 : BE C d env vars value f) (D2 : BO C d env vars lo fl) (D3 : BO C d env vars hi fh) :
    BE C d env vars (.Subscript value (.Slice lo hi none ps) p) (sliceE f fl fh) := ⟨den_slice H HC HA HI D1.run D2.run D3.run⟩
set_option tactic.hygienic false in
theorem b_setSl (H : CfgOk C) (HC : ClsOk C) (HA : AccOk C) (HI : ItemOk C) {o value : Expr} {lo hi : Option Expr} {f g : EM} {fl fh : Option EM} {ps' : Pos} (D0 : BE C d env vars value f) (D1 : BE C d env vars o g) (D2 : BO C d env vars lo fl) (D3 : BO C d env vars hi fh)
    (hs : plainVal value = true) : BS C d env vars (.Assign [.Subscript o (.Slice lo hi none ps') p'] value p) (setSlS g fl fh f) := ⟨den_setSl H HC HA HI D0.run D1.run D2.run D3.run (swaps_plain hs _ _ _)⟩
theorem b_augIdx (H : CfgOk C) (HC : ClsOk C) (HA : AccOk C) (HI : ItemOk C) {o i value : Expr} {op : Operator} {g ix f : EM} (D1 : BE C d env vars o g) (D2 : BE C d env vars i ix) (D3 : BE C d env vars value f)
    (hst : ∀ ov iv new, augStore i ov iv new = (do holding [new, ov, iv] (setItem ov iv new); release [new, ov, iv] []; pure .next)) :
    BS C d env vars (.AugAssign (.Subscript o i p') op value p) (augIdxS g ix op f) := ⟨den_augIdx H HC HA HI D1.run D2.run D3.run hst⟩
set_option tactic.hygienic false in
theorem b_ini (H : CfgOk C) (HS : StoreOk C C.ACC) (ht : takerIn C.K C.ACC "_initial_size" = some none) {o e : Expr} {g f : EM} (D0 : BE C d env vars o g) (D : BE C d env vars e f) (hs : plainVal e = true) :
    BS C d env vars (.Assign [.Attribute o "_initial_size" p'] e p) (iniS g f) := ⟨den_ini H HS ht D0.run D.run (swaps_plain hs _ _ _)⟩
set_option tactic.hygienic false in
theorem FnIn.envB {f : Addr} {n : Nat} (F : FnIn C f vars n) (nd : vars.all (fun x => !(x == ("__debug__" : Str))) = true) (L : Addr) : EnvB (envAt C f L) vars := by
  refine ⟨F.env L, fun x hx => ?_, ?_⟩
  · have := List.all_eq_true.mp nd x hx
    simpa using this
  · have S := scopeIn_of F.scope
    show ((fdAt C.K f).scope.kind == .module && _) = false
    rw [S.kind]; rfl
set_option tactic.hygienic false in
theorem b_fn {f : Addr} {n : Nat} {B : SM} (H : CfgOk C) (F : FnIn C f vars n) (nd : vars.all (fun x => !(x == ("__debug__" : Str))) = true) (hb : ∀ vs : List Value, vs.length = n → bindArgs (fdAt C.K f) ⟨vs, []⟩ = pure ((vars.take n).zip vs))
    (D : ∀ L, EnvB (envAt C f L) vars → BB C d (envAt C f L) vars (bodyAt C.K f) B) : BF C (d + 1) f (runF vars n B) := by
  exact ⟨denF_of (F.ok H hb) H.lim H.stat fun L => (D L (F.envB nd L)).run⟩
set_option tactic.hygienic false in
theorem b_fnD {f : Addr} {m : Nat} {dxs : List AV} {dv : List Value} {B : SM} (H : CfgOk C) (F : FnIn C f vars (m + dxs.length)) (nd : vars.all (fun x => !(x == ("__debug__" : Str))) = true) (dq : ∀ ρ h, VRs C ρ h dxs dv)
    (hb : ∀ s : Shared, C.K.In s.heap → ∀ vs : List Value, vs.length = m → BindsTo s (fdAt C.K f) ⟨vs, []⟩ ((vars.take (m + dxs.length)).zip (vs ++ dv)))
    (D : ∀ L, EnvB (envAt C f L) vars → BB C d (envAt C f L) vars (bodyAt C.K f) B) : BF C (d + 1) f (runD vars m dxs B) :=
  ⟨denF_ofD (F.okD H dq hb) H.lim H.stat fun L => (D L (F.envB nd L)).run.at⟩
set_option tactic.hygienic false in
theorem b_fnA {f : Addr} {n : Nat} {B : SM} (H : CfgOk C) (F : FnIn C f vars n) (nd : vars.all (fun x => !(x == ("__debug__" : Str))) = true) (hb : ∀ vs : List Value, vs.length = n → bindArgs (fdAt C.K f) ⟨vs, []⟩ = pure ((vars.take n).zip vs))
    (D : ∀ L, EnvB (envAt C f L) vars → BBA C d (envAt C f L) vars (bodyAt C.K f) (bodyAt C.K f) B) : BF C (d + 1) f (runF vars n B) :=
  ⟨denF_ofAt (F.ok H hb) H.lim H.stat fun L => (D L (F.envB nd L)).run⟩
set_option tactic.hygienic false in
theorem b_nilA {body : List Stmt} : BBA C d env vars body [] (seqS []) := ⟨den_nil.at⟩
set_option tactic.hygienic false in
theorem b_sA {body : List Stmt} {st : Stmt} {f : SM} (D : BS C d env vars st f) : BSA C d env vars body st f := ⟨D.run.at⟩
set_option tactic.hygienic false in
theorem b_consA {body : List Stmt} {st : Stmt} {r : List Stmt} {f : SM} {fs : List SM} (D1 : BSA C d env vars body st f) (D2 : BBA C d env vars body r (seqS fs)) : BBA C d env vars body (st :: r) (seqS (f :: fs)) := ⟨den_consAt D1.run D2.run⟩
set_option tactic.hygienic false in
theorem b_partCount {body : List Stmt} (H : CfgOk C) (HC : ClsOk C) (He : EnvB env vars) (HS : SupCls C) (SO : SupOk C env vars) {apos pr : Pos} (hf : alongIn C.K "__len__" [.type "list", .type "object"] = some (some (.builtin "list.__len__"))) (hp : (apos.endLine == p.line) = true) :
    BSA C d env vars body (.Return (some (.Call (.Attribute (.Call (.Name "super" p0) [] [] p1) "__len__" apos) [] [] p)) pr) partCountS := ⟨den_partCount H HC He.ok HS SO hf hp⟩
set_option tactic.hygienic false in
theorem b_pop {body : List Stmt} (H : CfgOk C) (HC : ClsOk C) (He : EnvB env vars) (HS : SupCls C) (SO : SupOk C env vars) {apos pr : Pos} (hf : alongIn C.K "pop" [.type "list", .type "object"] = some (some (.builtin "list.pop"))) (hp : (apos.endLine == p.line) = true) :
    BSA C d env vars body (.Return (some (.Call (.Attribute (.Call (.Name "super" p0) [] [] p1) "pop" apos) [] [] p)) pr) popS := ⟨den_pop H HC He.ok HS SO hf hp⟩
set_option tactic.hygienic false in
theorem b_accLen (H : CfgOk C) (HC : ClsOk C) (HA : AccOk C) (HG : GenOk C) (He : EnvB env vars) {t : Addr × Addr × Array Value} {scope : Scope} (GE : GenEnvOk C env vars t scope) (LS : LenScope scope) (hl : GlobVal C "len" (.builtin "len")) (hsum : GlobVal C "sum" (.builtin "sum")) (hk : env.kindOf "sum" = some .globalImplicit)
    {pa pb pt ps pos q0 q1 r0 r1 r2 r3 r4 r5 r6 pr : Pos} {kt : Nat} :
    BS C (d + 1) env vars (.Return (some (.Call (.Name "sum" p0) [.GeneratorExp (.BinOp (.Call (.Name "len" r0) [.Name "fws" r1] [] r2) .Add (.Call (.Name "len" r3) [.Name "part" r4] [] r5) r6) [⟨.Tuple [.Name "fws" pa, .Name "part" pb] kt pt, .Name "self" ps, [], 0⟩] scope pos, .Attribute (.Name "self" q0) "_initial_size" q1] [] p)) pr) accLenS := ⟨den_accLen H HC HA HG He.ok GE LS hl hsum hk⟩
set_option tactic.hygienic false in
theorem b_accStr (H : CfgOk C) (HC : ClsOk C) (HA : AccOk C) (HG : GenOk C) (He : EnvB env vars) {t : Addr × Addr × Array Value} {scope : Scope} (GE : GenEnvOk C env vars t scope) (LS : StrScope scope) {te : Tok} (hE : GlobVal C "EMPTYSTRING" (.str "" te)) (hk : env.kindOf "EMPTYSTRING" = some .globalImplicit)
    {pa pb pt ps pos q0 r0 r1 r2 r3 r4 apos pr : Pos} {kt kt' : Nat} (hp1 : (apos.endLine == r4.line) = true) (hp2 : (q0.endLine == p.line) = true) :
    BS C (d + 1) env vars (.Return (some (.Call (.Attribute (.Name "EMPTYSTRING" p0) "join" q0) [.GeneratorExp (.Call (.Attribute (.Name "EMPTYSTRING" r0) "join" apos) [.Tuple [.Name "fws" r1, .Name "part" r2] kt' r3] [] r4) [⟨.Tuple [.Name "fws" pa, .Name "part" pb] kt pt, .Name "self" ps, [], 0⟩] scope pos] [] p)) pr) accStrS := ⟨den_accStr H HC HA HG He.ok GE LS hE hk hp1 hp2⟩
set_option tactic.hygienic false in
theorem b_len (H : CfgOk C) (HS : SpecOk C fl fs ff) {LF : FM} (DL : BF C d' fl LF) (h : d' + 1 ≤ d) : BC C d (.builtin "len") (lenF LF) := ⟨(den_len H HS DL.run.call).mono h⟩
set_option tactic.hygienic false in
theorem b_strC (H : CfgOk C) (HS : SpecOk C fl fs ff) {SF FF : FM} (DS : BC C d' (.ref fs) SF) (DF : BC C d' (.ref ff) FF) (h : d' + 2 ≤ d) : BC C d (.type "str") (strF SF FF) := ⟨(den_str' H HS DS.run DF.run).mono h⟩
set_option tactic.hygienic false in
theorem b_noF {fv : Value} : BC C d fv noF := ⟨den_noF⟩
set_option tactic.hygienic false in
theorem b_append (H : CfgOk C) (HC : ClsOk C) : BC C (d + 1) (.builtin "list.append") appendF := ⟨den_append H HC⟩
set_option tactic.hygienic false in
theorem b_join : BC C d (.builtin "str.join") joinF := ⟨den_join⟩
set_option tactic.hygienic false in
theorem b_isspace : BC C d (.builtin "str.isspace") isspaceF := ⟨den_isspace⟩
set_option tactic.hygienic false in
theorem b_sum : BC C d (.builtin "sum") sumF := ⟨den_sum⟩
set_option tactic.hygienic false in
theorem b_popAt : BC C d (.builtin "list.pop") popAtF := ⟨den_popAt⟩
set_option tactic.hygienic false in
theorem m_append : BM C 2 "append" (.builtin "list.append") := ⟨getM_list PySem.F.slot_list_append PySem.F.type_list_append⟩
set_option tactic.hygienic false in
theorem m_popAt : BM C 2 "pop" (.builtin "list.pop") := ⟨getM_list PySem.F.slot_list_pop PySem.F.type_list_pop⟩
set_option tactic.hygienic false in
theorem m_join : BM C 1 "join" (.builtin "str.join") := ⟨getM_str PySem.F.slot_str_join PySem.F.type_str_join⟩
set_option tactic.hygienic false in
theorem m_isspace : BM C 1 "isspace" (.builtin "str.isspace") := ⟨getM_str PySem.F.slot_str_isspace PySem.F.type_str_isspace⟩
set_option tactic.hygienic false in
theorem m_accApp (H : CfgOk C) (HC : ClsOk C) (hf : findIn C.K (.ref C.ACC) "append" = some (some (.builtin "list.append"))) (ht : typeIn C.K (.builtin "list.append") = some (.type "method_descriptor")) : BM C 4 "append" (.builtin "list.append") := ⟨getM_acc H HC hf ht (.inr (.inl rfl)) (by decide +kernel)⟩
set_option tactic.hygienic false in
theorem m_acc (H : CfgOk C) (HC : ClsOk C) {name : Str} {f : Addr} (hf : findIn C.K (.ref C.ACC) name = some (some (.ref f))) (ht : typeIn C.K (.ref f) = some (.type "function")) (hn : (name == ("_initial_size" : Str)) = false) : BM C 4 name (.ref f) := ⟨getM_acc H HC hf ht (.inl rfl) hn⟩
set_option tactic.hygienic false in
theorem m_fmt (H : CfgOk C) (HC : ClsOk C) {name : Str} {f : Addr} (hf : findIn C.K (.ref C.VF) name = some (some (.ref f))) (ht : typeIn C.K (.ref f) = some (.type "function")) (c : (List.range 6).all (fun k => !(name == attrName k)) = true) : BM C 3 name (.ref f) :=
  ⟨getM_fmt H HC hf ht fun k hk => by have := List.all_eq_true.mp c k (List.mem_range.mpr hk); simpa using this⟩
end
end Mine.Internal
end
section
open PySem PySem.W PyProof.Rows PySem.Calls
namespace Mine.Internal
set_option tactic.hygienic false in
theorem uncons {vs : List Value} {n : Nat} (e : vs.length = n + 1) : ∃ a r, vs = a :: r := by
  cases vs with
  | nil => cases e
  | cons a r => exact ⟨a, r, rfl⟩
set_option tactic.hygienic false in
theorem vec1 {P : List Value → Prop} (h : ∀ a, P [a]) : ∀ vs, vs.length = 1 → P vs := fun vs e => by
  (refine x2_1 (uncons e) fun a r rr2 => ?_; subst rr2)
  obtain rfl := List.eq_nil_of_length_eq_zero (Nat.succ.inj e)
  exact h a
set_option tactic.hygienic false in
theorem vec2 {P : List Value → Prop} (h : ∀ a b, P [a, b]) : ∀ vs, vs.length = 2 → P vs := fun vs e => by
  (refine x2_1 (uncons e) fun a r rr2 => ?_; subst rr2)
  exact vec1 (P := fun r => P (a :: r)) (fun b => h a b) r (Nat.succ.inj e)
set_option tactic.hygienic false in
theorem vec3 {P : List Value → Prop} (h : ∀ a b c, P [a, b, c]) : ∀ vs, vs.length = 3 → P vs := fun vs e => by
  (refine x2_1 (uncons e) fun a r rr2 => ?_; subst rr2)
  exact vec2 (P := fun r => P (a :: r)) (fun b c => h a b c) r (Nat.succ.inj e)
set_option tactic.hygienic false in
theorem vec4 {P : List Value → Prop} (h : ∀ a b c d, P [a, b, c, d]) : ∀ vs, vs.length = 4 → P vs := fun vs e => by
  (refine x2_1 (uncons e) fun a r rr2 => ?_; subst rr2)
  exact vec3 (P := fun r => P (a :: r)) (fun b c d => h a b c d) r (Nat.succ.inj e)
set_option tactic.hygienic false in
theorem vec5 {P : List Value → Prop} (h : ∀ a b c d e, P [a, b, c, d, e]) : ∀ vs, vs.length = 5 → P vs := fun vs e => by
  (refine x2_1 (uncons e) fun a r rr2 => ?_; subst rr2)
  exact vec4 (P := fun r => P (a :: r)) (fun b c d e => h a b c d e) r (Nat.succ.inj e)
structure BI (C : Cfg) (d : Nat) (env : Env) (vars : List Str) (Cl : Addr) (b : List Stmt) (f : List (Str × EM)) : Prop where
  run : DenI C d env vars Cl b f
section
variable {C : Cfg} {d : Nat} {env : Env} {vars : List Str} {Cl : Addr}
set_option tactic.hygienic false in
theorem b_inil : BI C d env vars Cl [] [] := ⟨.nil⟩
set_option tactic.hygienic false in
theorem b_icons {name : Str} {e : Expr} {f : EM} {r : List Stmt} {fs : List (Str × EM)} {p0 p1 p2 : Pos} (ht : takerIn C.K Cl name = some none) (D : BE C d env vars e f) (b : BI C d env vars Cl r fs) (hs : plainVal e = true) :
    BI C d env vars Cl (.Assign [.Attribute (.Name "self" p0) name p1] e p2 :: r) ((name, f) :: fs) := ⟨.cons ht D.run (swaps_plain hs _ _ _) b.run⟩
set_option tactic.hygienic false in
theorem b_mkFmt {fI : Addr} {LF : FM} (H : CfgOk C) (HM : makesIn C.K C.VF = true) (hinit : findIn C.K (.ref C.VF) "__init__" = some (some (.ref fI))) (hfn : typeIn C.K (.ref fI) = some (.type "function")) (HSt : StoreOk C C.VF)
    (F : FnIn C fI ["self", "headerlen", "maxlen", "continuation_ws", "splitchars"] 5) (hb : ∀ vs : List Value, vs.length = 5 → bindArgs (fdAt C.K fI) ⟨vs, []⟩ = pure ((["self", "headerlen", "maxlen", "continuation_ws", "splitchars"] : List Str).zip vs))
    (D : ∀ L, EnvB (envAt C fI L) ["self", "headerlen", "maxlen", "continuation_ws", "splitchars"] → BI C d (envAt C fI L) ["self", "headerlen", "maxlen", "continuation_ws", "splitchars"] C.VF (bodyAt C.K fI) (fmtInit LF)) :
    BC C (d + 2) (.ref C.VF) mkFmtF :=
  ⟨den_mkFmt (LF := LF) H HM hinit hfn HSt (F.okD (m := 5) (dxs := []) (dv := []) H (fun uu uu => .nil) (fun s X vs h => .of_eq (by rw [hb vs h]; simp))) fun L => (D L (F.envB (by decide +kernel) L)).run⟩
end
end Mine.Internal
end
section
open PySem PySem.W PyProof.Rows PySem.Calls
namespace Mine.Internal
set_option tactic.hygienic false in
theorem vrs_ints {C : Cfg} {ρ : Rho} {h : Heap} : ∀ {vs : List Value} {ns : List Int}, IntsAre vs ns → VRs C ρ h (ns.map AV.int) vs := by
  intro vs ns q
  induction q with
  | nil => exact .nil
  | cons n t r ih => exact .cons (.int n t) ih
set_option tactic.hygienic false in
theorem well_list {P : Params} {h : Heap} {l : Addr} {ds : List PyData} (w : Well P h (.ref l) (ofPy (.list ds))) : ∃ vs : List Value, h.get? l = some { cls := .type "list", data := .seq vs.toArray } := by
  rw [ofPy] at w
  cases w with
  | list ho _ => exact ⟨_, ho⟩
set_option tactic.hygienic false in
theorem vr_ints {C : Cfg} {P : Params} {h : Heap} {l : Addr} {vs : List Value} {ns : List Int} {ds : List PyData} (w : Well P h (.ref l) (ofPy (.list ds))) (hL : h.IsList l vs.toArray) (hI : IntsAre vs ns) (hm : ¬ C.isTab l) : VR C [] h (.lst (ns.map AV.int)) (.ref l) := by
  (refine x1_1 (well_list w) fun vs' ho => ?_)
  obtain ⟨o, ho', hc, n, hd⟩ := hL
  rw [ho] at ho'
  (refine c1 ho' fun hh0 => ?_; clear ho'; subst hh0)
  injection hd with e1 e2
  have : vs' = vs := by simpa using congrArg Array.toList e1
  subst this
  refine .lst ho ?_ (vrs_ints hI)
  rintro (t | ⟨p, hp, _⟩)
  · exact hm t
  · cases hp
set_option tactic.hygienic false in
theorem run_law {C : Cfg} {d : Nat} {f : Addr} {F : FM} (D : BF C d f F) (R : Rel C [] [] C.s₁) {A : Around} (hA : AOk d A) {l : Addr} {ns : List Int} (q : VR C [] C.s₁.heap (.lst (ns.map AV.int)) (.ref l)) {σ' : St} (e : F [.lst (ns.map AV.int)] [] = some (.bool true, σ'))
    {Q : Value → Shared → Prop} {E : Value → Shared → Prop} (k : ∀ s' ρ', Rel C ρ' σ' s' → Q (.bool true) s') : wpAny (model C.prog C.w) A (call (.ref f) [.ref l]) Q E C.s₁ := by
  refine D.run.call _ _ _ _ e A Q E C.s₁ [] [.ref l] hA R (.cons q .nil) fun v s' ρ' R' S' q' => ?_
  cases q' with
  | bool => exact k s' ρ' R'
set_option tactic.hygienic false in
theorem good_end {c : ClaimW} {cl : Str → Option Addr} {mean : ExcName → Option Value} {args : List WData} {s₁ s' : Shared} (hn : ∀ cls, c.raises args cls = false) (hp : c.post args (.bool true) args = true) (ho : OldK s₁.heap s'.heap) (hos : s'.os = s₁.os) (hg : AllBare s'.gens) :
    GoodWG c cl mean args s₁ (.ok (.ret (.bool true))) s' := ⟨.inl ⟨_, .bool true, [], rfl, hn, .bool _, hp, fun uu => ⟨.nil, fun uu h => nomatch h⟩⟩, ho, hos, hg⟩
end Mine.Internal
end
section
open PySem PySem.W PyProof.Rows PySem.Calls
namespace Mine.Internal
noncomputable def slStrE (f : EM) (lo hi : Option EM) : EM := fun lc σ => match f lc σ with
  | some (.str x, σ₁) => match optE lo lc σ₁ with
    | some (a, σ₂) => match optE hi lc σ₂ with
      | some (b, σ₃) => if x.length ≤ 1000000 then some (.str (Txt.slice x a b), σ₃) else none
      | none => none
    | none => none
  | _ => none
noncomputable def stripF : FM := fun xs σ => match xs with
  | [.str x, .str y] => if x.length ≤ 1000000 then some (.str (Txt.stripChars x y), σ) else none
  | _ => none
noncomputable def transF : FM := runF ["self"] 1 (seqS [exprS (mE 4 pushF lineE [cE (.str " "), cE (.str "")])])
section
variable {C : Cfg} {ρ ρ' : Rho} {σ σ' : St} {s : Shared} {A : Around} {E : Value → Shared → Prop} {env : Env} {vars : List Str} {lc : Lc} {d : Nat} {p : Pos}
end
end Mine.Internal
end
section
open PySem PySem.W PyProof.Rows PySem.Calls
namespace Mine.Internal
noncomputable def SX (M : Model) (A : Around) (Φ : End → Shared → Prop) (c : Code) (t : Sem Fin) (fs : List Frame) (s : Shared) : Prop :=
  ∀ Γ p, Γ.code = c → Γ.Woken A → ∃ e s', Runs M Γ p t fs s e s' ∧ Φ e s'
section
variable {M : Model} {A : Around} {Φ : End → Shared → Prop} {c : Code} {fs : List Frame} {s : Shared} {env : Env}
set_option tactic.hygienic false in
theorem sx_wrap {α : Type} {m : Sem α} {K : α → Sem Fin} {H : Value → Sem Fin} {gd : Bool → Bool} {lv : List Value → List Value} (h : wpAny M (A.over c fs) m (fun a s' => SX M A Φ c (K a) fs s') (fun x s' => SX M A Φ c (H x) fs s') s) : SX M A Φ c (m.wrap K H gd lv) fs s := by
  rintro Γ p rfl hΓ
  exact runs_wrap_of_wp K H gd lv m (h (Γ.over fs) p (hΓ.over fs)) (fun a p' s' h' => h' Γ p' rfl hΓ) (fun x p' s' h' => h' Γ p' rfl hΓ)
set_option tactic.hygienic false in
theorem sx_at {p' : Pos} {k : Unit → Sem Fin} (h : SX M A Φ c (k ()) fs s) : SX M A Φ c (.at p' k) fs s := sx_wrap (m := standAt p') (K := k) (H := .raise) (gd := id) (lv := id) (wpAny_standAt h)
set_option tactic.hygienic false in
theorem sx_point {l : List Value} {k : Unit → Sem Fin} (h : SX M A Φ c (k ()) fs s) : SX M A Φ c (.point l k) fs s := sx_wrap (m := point) (K := k) (H := .raise) (gd := id) (lv := fun uu => l) (wpAny_point h)
set_option tactic.hygienic false in
theorem sx_call {c' : Code} {h : Option Value} {g : Bool} {l : List Value} {k : Result → Sem Fin} (hc : ∀ p, SX M A Φ c' (M.den c') (.ret k h g l c p [] :: fs) s) : SX M A Φ c (.call c' h g l k) fs s := by
  rintro Γ p rfl hΓ
  (refine x2_2 (hc p (Γ.goto c') p rfl (hΓ.goto c')) fun e s' hr he => ?_)
  exact ⟨e, s', runs_call_seg hr, he⟩
set_option tactic.hygienic false in
theorem sx_again {c' : Code} (hq : c'.quiet = true) (hc : SX M A Φ c' (M.den c') fs s) : SX M A Φ c (.pure (.again c')) fs s := by
  rintro Γ p rfl hΓ
  (refine x2_2 (hc (Γ.goto c') p rfl (hΓ.goto c')) fun e s' hr he => ?_)
  exact ⟨e, s', Runs.head (c₁ := c') (fun uu uu x => .again hq x) hr, he⟩
set_option tactic.hygienic false in
theorem sx_yield {v : Value} {g : Bool} {l : List Value} {k : Resume → Sem Fin} (hfs : splitAtGen fs = none) (h : ∀ p, Φ (.susp v g l k c p fs) s) : SX M A Φ c (.yield v g l k) fs s := by
  rintro Γ p rfl _
  exact ⟨_, s, Runs.yield' fs hfs, h p⟩
theorem sx_Yield {e : Expr} {ypos pos : Pos} {K : Flow → Sem Fin} {H : Value → Sem Fin} {gd : Bool → Bool} {lv : List Value → List Value} (hfs : splitAtGen fs = none) (hgd : gd false = false) (hco : env.scope.isCoroutine = false) (hi : interactive env = false)
    (h : wpAny M (A.over c fs) (eval e env) (fun v s' => ∀ l k p, k (.send .none) = K .next → Φ (.susp v false l k c p fs) s') (fun x s' => SX M A Φ c (H x) fs s') s) :
    SX M A Φ c ((exec (.Expr (.Yield (some e) ypos) pos) env).wrap K H gd lv) fs s := by
  rw [exec_Expr env _ pos hi rfl]
  show SX M A Φ c (.at pos fun uu => ((eval e env >>= fun v => (standAt ypos >>= fun uu => yieldOut env v)) >>= fun x =>
    dropValue (.Yield (some e) ypos) pos x).wrap K H gd lv) fs s
  have hy : ∀ v, yieldOut env v = yieldValue v := fun v => by simp only [yieldOut, hco, Bool.false_eq_true, if_false]
  simp only [hy]
  refine sx_at ?_
  rw [Sem.bind_eq_wrap', Sem.bind_eq_wrap', Sem.wrap_wrap, Sem.wrap_wrap]
  refine sx_wrap (wpAny_mono h (fun v s' h' => ?_) fun uu uu x => x)
  refine sx_at (sx_yield hfs fun p => ?_)
  show Φ (.susp v (gd false) _ _ c p fs) s'
  rw [hgd]
  exact h' _ _ p rfl
theorem sx_nil {K : Flow → Sem Fin} {H : Value → Sem Fin} {gd : Bool → Bool} {lv : List Value → List Value} (h : SX M A Φ c (K .next) fs s) : SX M A Φ c ((execs [] env).wrap K H gd lv) fs s := h
theorem sx_cons {st : Stmt} {rest : List Stmt} {K : Flow → Sem Fin} {H : Value → Sem Fin} {gd : Bool → Bool} {lv : List Value → List Value}
    (h : SX M A Φ c ((exec st env).wrap (fun f => match f with | .next => (execs rest env).wrap K H gd lv | f => K f) H gd lv) fs s) : SX M A Φ c ((execs (st :: rest) env).wrap K H gd lv) fs s := by rw [execs_cons_wrap]; exact h
noncomputable def FsW (F : Code) (fs : List Frame) : Prop := ∃ k l p, fs = [Frame.ret k none false l F p []]
set_option tactic.hygienic false in
theorem FsW.split {F : Code} (h : FsW F fs) : splitAtGen fs = none := by (refine x3_1 (h) fun k l p rr3 => ?_; clear h; subst rr3); rfl
set_option tactic.hygienic false in
theorem FsW.bare {F : Code} (h : FsW F fs) : fs.any Frame.guarded = false := by (refine x3_1 (h) fun k l p rr3 => ?_; clear h; subst rr3); rfl
set_option tactic.hygienic false in
theorem sx_While {test : Expr} {body orelse : List Stmt} {pos : Pos} {K : Flow → Sem Fin} {H : Value → Sem Fin} {gd : Bool → Bool} {lv : List Value → List Value} (hgd : gd false = false)
    (h : ∀ fs', FsW c fs' → SX M A Φ (.whileLoop test body orelse env) (M.den (.whileLoop test body orelse env)) fs' s) : SX M A Φ c ((exec (.While test body orelse pos) env).wrap K H gd lv) [] s := by
  refine sx_at (sx_call fun p => ?_)
  show SX M A Φ _ _ [.ret _ none (gd false) _ c p []] s
  rw [hgd]
  exact h _ ⟨_, _, _, rfl⟩
end
end Mine.Internal
end
section
open PySem PySem.W PyProof.Rows PySem.Calls
namespace Mine.Internal
noncomputable abbrev yieldS (e : Expr) (yp p : Pos) : Stmt := .Expr (.Yield (some e) yp) p
noncomputable def GSleep (M : Model) (F W : Code) (st : GenState) : Prop := ∃ k l c p fs, st = .suspended k l c p fs false ∧
  ∀ A Φ s, (∀ fs', FsW F fs' → SX M A Φ W (M.den W) fs' s) → SX M A Φ c (k (.send .none)) fs s
section
variable {prog : Program} {w : World} {A : Around} {Φ : End → Shared → Prop} {fs : List Frame} {s : Shared} {env : Env}
theorem sx_whileTrue {body : List Stmt} {k : Nat} {tp : Pos}
    (h : ∀ K H, (∀ A Φ s fs, SX (model prog w) A Φ (.whileLoop (.Constant (.bool true) k tp) body [] env) ((model prog w).den (.whileLoop (.Constant (.bool true) k tp) body [] env)) fs s → SX (model prog w) A Φ (.whileLoop (.Constant (.bool true) k tp) body [] env) (K .next) fs s) →
      SX (model prog w) A Φ (.whileLoop (.Constant (.bool true) k tp) body [] env) ((execs body env).wrap K H id id) fs s) :
    SX (model prog w) A Φ (.whileLoop (.Constant (.bool true) k tp) body [] env) ((model prog w).den (.whileLoop (.Constant (.bool true) k tp) body [] env)) fs s := by
  show SX _ A Φ _ ((whileTurn (.Constant (.bool true) k tp) body [] env).onRaise (fun x => do noteFrame x env; theTreesLotGoes x)) fs s
  unfold whileTurn
  rw [Sem.onRaise_eq_wrap, Sem.bind_eq_wrap', Sem.wrap_wrap]
  refine sx_wrap (wpAny_mono (Q := fun b s' => b = true ∧ s' = s) (E := fun uu uu => False) ?_ (fun b s' hb => ?_) fun uu uu z => z.elim)
  · exact fun uu uu uu => ⟨rfl, rfl⟩
  · (refine x0_2 (hb) fun rr0 rr1 => ?_; clear hb; subst rr0; subst rr1)
    show SX _ A Φ _ (Sem.wrap _ _ _ _ (if true = true then _ else _)) fs s'
    rw [if_pos rfl, Sem.bind_eq_wrap', Sem.wrap_wrap]
    refine h _ _ fun A Φ s fs h' => ?_
    exact sx_again rfl h'
set_option tactic.hygienic false in
theorem sx_func {body : List Stmt} (h : ∀ K H, SX (model prog w) A Φ (.func body env) ((execs body env).wrap K H id id) fs s) : SX (model prog w) A Φ (.func body env) ((model prog w).den (.func body env)) fs s := by
  show SX _ A Φ _ (.point [] fun uu => ((execs body env).onRaise (leaving env)) >>= _) fs s
  refine sx_point ?_
  rw [Sem.onRaise_eq_wrap, Sem.bind_eq_wrap', Sem.wrap_wrap]
  exact h _ _
variable {e1 e2 : Expr} {y1 p1 y2 p2 pw tp : Pos} {k : Nat}
noncomputable abbrev genF (env : Env) (e1 e2 : Expr) (y1 p1 y2 p2 pw tp : Pos) (k : Nat) : Code := .func [yieldS e1 y1 p1, .While (.Constant (.bool true) k tp) [yieldS e2 y2 p2] [] pw] env
noncomputable abbrev genW (env : Env) (e2 : Expr) (y2 p2 tp : Pos) (k : Nat) : Code := .whileLoop (.Constant (.bool true) k tp) [yieldS e2 y2 p2] [] env
set_option tactic.hygienic false in
theorem gen_first (hco : env.scope.isCoroutine = false) (hi : interactive env = false)
    (h : wpAny (model prog w) (A.over (genF env e1 e2 y1 p1 y2 p2 pw tp k) []) (eval e1 env) (fun v s' => ∀ e : End, e.quiet = true → e.result = .yielded v → GSleep (model prog w) (genF env e1 e2 y1 p1 y2 p2 pw tp k) (genW env e2 y2 p2 tp k) e.genState → Φ e s') (fun uu uu => False) s) :
    SX (model prog w) A Φ (genF env e1 e2 y1 p1 y2 p2 pw tp k) ((model prog w).den (genF env e1 e2 y1 p1 y2 p2 pw tp k)) [] s := by
  refine sx_func fun K H => sx_cons (sx_Yield rfl rfl hco hi (wpAny_mono h (fun v s' h' l k' p hk => h' _ rfl rfl ⟨k', l, _, p, [], rfl, fun A Φ s hW => ?_⟩) (fun uu uu z => z.elim)))
  rw [hk]
  exact sx_cons (sx_While rfl hW)
set_option tactic.hygienic false in
theorem gen_next (hco : env.scope.isCoroutine = false) (hi : interactive env = false) (hfs : FsW (genF env e1 e2 y1 p1 y2 p2 pw tp k) fs)
    (h : wpAny (model prog w) (A.over (genW env e2 y2 p2 tp k) fs) (eval e2 env) (fun v s' => ∀ e : End, e.quiet = true → e.result = .yielded v → GSleep (model prog w) (genF env e1 e2 y1 p1 y2 p2 pw tp k) (genW env e2 y2 p2 tp k) e.genState → Φ e s') (fun uu uu => False) s) :
    SX (model prog w) A Φ (genW env e2 y2 p2 tp k) ((model prog w).den (genW env e2 y2 p2 tp k)) fs s := by
  refine sx_whileTrue fun K H hK => sx_cons (sx_Yield hfs.split rfl hco hi (wpAny_mono h (fun v s' h' l k' p hk => h' (.susp v false l k' (genW env e2 y2 p2 tp k) p fs) ?_ rfl ⟨k', l, genW env e2 y2 p2 tp k, p, fs, ?_, fun A Φ s hW => ?_⟩) (fun uu uu z => z.elim)))
  · show (!(false || fs.any Frame.guarded)) = true
    rw [hfs.bare]; rfl
  · show GenState.suspended k' l (genW env e2 y2 p2 tp k) p fs (false || fs.any Frame.guarded) = _
    rw [hfs.bare]; rfl
  · rw [hk]
    exact sx_nil (hK A Φ s fs (hW fs hfs))
noncomputable def GoX (M : Model) (A : Around) (Φ : End → Shared → Prop) (gs : GenState) (s : Shared) : Prop := match gs with
  | .fresh c => SX M A Φ c (M.den c) [] s
  | .suspended k _ c _ fs _ => SX M A Φ c (k (.send .none)) fs s
  | _ => False
set_option tactic.hygienic false in
theorem wp_resumeX {M : Model} {E : Value → Shared → Prop} {g : Nat} {gs : GenState} {l : List Value} {α : Type} {K : GenResult → Sem α} {Q : α → Shared → Prop} (hg : s.gens[g]? = some gs) (hgo : GoX M A Φ gs (s.setGen g .running))
    (hΦ : ∀ e s₁, Φ e s₁ → e.quiet = true ∧ wpAny M A (K e.result) Q E (s₁.setGen g e.genState)) : wpAny M A (.resume g (.send .none) l K) Q E s := by
  intro Γ p hΓ
  rw [Sem.wp_resume]
  cases gs with
  | fresh c =>
    (refine x2_2 (hgo (Γ.wake c p) p rfl (hΓ.wake c p)) fun e s₁ hr he => ?_)
    (refine x0_2 (hΦ e s₁ he) fun a b => ?_)
    exact ⟨_, _, by unfold Wakes; rw [hg]; exact ⟨e, s₁, hr, a, rfl, rfl⟩, b Γ p hΓ⟩
  | suspended k₀ l₀ c₀ p₀ fs₀ cl =>
    (refine x2_2 (hgo (Γ.wake c₀ p) p₀ rfl (hΓ.wake c₀ p)) fun e s₁ hr he => ?_)
    (refine x0_2 (hΦ e s₁ he) fun a b => ?_)
    exact ⟨_, _, by unfold Wakes; rw [hg]; exact ⟨e, s₁, hr, a, rfl, rfl⟩, b Γ p hΓ⟩
  | running => exact hgo.elim
  | finished => exact hgo.elim
end
end Mine.Internal
end
section
open PySem PySem.W PyProof.Rows PySem.Calls
namespace Mine.Internal
theorem GR.new {C : Cfg} {ρ : Rho} {σ : St} {h : Heap} {g : Array GenState} (q : GR C ρ σ h g) (hl : ρ.length = σ.length) {p : Addr × Addr} {m k : Nat} {st : GenState} {nm qn : Value} (hp : h.get? p.1 = some (genObj g.size nm qn)) (hG : C.G p.2 k st) (hb : st.bare = true) :
    GR C (ρ ++ [p]) (σ ++ [.gen m k]) h (g.push st) := by
  have gk : ∀ (i : Nat) (x : GenState), g[i]? = some x → (g.push st)[i]? = some x := by
    intro i x e
    have hi := (Array.getElem?_eq_some_iff.mp e).1
    rw [Array.getElem?_push_lt hi]
    rw [Array.getElem?_eq_getElem hi] at e
    exact e
  have oldS : ∀ (i : Nat) {o : AO}, i < ρ.length → (σ ++ [.gen m k])[i]? = some o → σ[i]? = some o := fun i o hi e => by rw [List.getElem?_append_left (hl ▸ hi)] at e; exact e
  have oldR : ∀ (i : Nat) {r : Addr × Addr}, i < ρ.length → (ρ ++ [p])[i]? = some r → ρ[i]? = some r := fun i r hi e => by rw [List.getElem?_append_left hi] at e; exact e
  have newR : ∀ (i : Nat) {r : Addr × Addr}, ¬ i < ρ.length → (ρ ++ [p])[i]? = some r → i = ρ.length ∧ r = p := by
    intro i r hi e
    rw [List.getElem?_append_right (Nat.not_lt.mp hi), List.getElem?_singleton] at e
    split at e
    · rename_i h0; cases e; exact ⟨by (first | lia | omega), rfl⟩
    · exact ns e
  have newS : ∀ (i : Nat) {o : AO}, i = ρ.length → (σ ++ [.gen m k])[i]? = some o → o = .gen m k := fun i o hi e => by
    rw [hi, hl, List.getElem?_append_right (Nat.le_refl _), Nat.sub_self] at e; cases e; rfl
  refine ⟨q.bare.push hb, fun i r m' k' e e' => ?_, fun i r n e e' => ?_, fun i j r r' x x' n a b a' b' e1 e2 e3 g3 e4 g4 e5 e6 => ?_⟩
  · by_cases hi : i < ρ.length
    · (refine x4_3 (q.live i r m' k' (oldR i hi e) (oldS i hi e')) fun n a b x z y w => ?_)
      exact ⟨n, a, b, x, z, gk _ _ y, w⟩
    · (refine x0_2 (newR i hi e) fun hi' rr1 => ?_; subst rr1)
      cases newS i hi' e'
      exact ⟨g.size, nm, qn, st, hp, Array.getElem?_push_size, hG⟩
  · by_cases hi : i < ρ.length
    · (refine x2_2 (q.outs i r n (oldR i hi e) (oldS i hi e')) fun a b z y => ?_)
      exact ⟨a, b, z, gk _ _ y⟩
    · (refine x0_2 (newR i hi e) fun hi' rr1 => ?_; subst rr1)
      cases newS i hi' e'
  · by_cases hi : i < ρ.length
    · by_cases hj : j < ρ.length
      · exact q.apart i j r r' x x' n a b a' b' (oldR i hi e1) (oldR j hj e2) (oldS i hi e3) g3 (oldS j hj e4) g4 e5 e6
      · (refine x0_2 (newR j hj e2) fun uu rr1 => ?_; subst rr1)
        (refine x3_2 (q.obj (oldR i hi e1) (oldS i hi e3) g3) fun n' uu uu z hlt => ?_)
        rw [hp] at e6
        rw [z] at e5
        cases e6
        cases e5
        exact absurd hlt (Nat.lt_irrefl _)
    · (refine x0_2 (newR i hi e1) fun hi' rr1 => ?_; subst rr1)
      by_cases hj : j < ρ.length
      · (refine x3_2 (q.obj (oldR j hj e2) (oldS j hj e4) g4) fun n' uu uu z hlt => ?_)
        rw [hp] at e5
        rw [z] at e6
        cases e5
        cases e6
        exact absurd hlt (Nat.lt_irrefl _)
      · exact hi'.trans (newR j hj e2).1.symm
structure FnG (C : Cfg) (f : Addr) (body : List Stmt) (scope : Scope) (closure : List (Str × Addr)) (qual : Str) (code : Value) : Prop where
  obj : ∃ o fd, C.s₁.heap.get? f = some o ∧ o.data = .func fd ∧ fd.scope = scope ∧ fd.body = .stmts body ∧ fd.globals = mainGlobals ∧ fd.closure = closure ∧ fd.qualname = qual ∧ fd.code = code ∧ fd.builtins = builtinsNs ∧
    ∀ v : Value, bindArgs fd ⟨[v], []⟩ = (pure [(("self" : Str), v)] : Sem (List (Str × Value)))
  notTab : ¬ C.isTab f
  crec : C.s₁.heap.CodeRec code qual
  codeNo : ∀ c, code = .ref c → ¬ C.isTab c
  coro : scope.isCoroutine = false
  gen : scope.isGenerator = true
  kind : scope.kind = .function
  cells : ∀ x ∈ scope.names, x.2 ≠ .cell
  loc : scope.names.lookup ("self" : Str) = some .local
noncomputable def makeGenF : FM := fun xs σ => match xs with
  | [.loc m] => match σ[m]? with
    | some (.fmt ..) => some (.loc σ.length, σ ++ [.gen m 0])
    | _ => none
  | _ => none
theorem den_makeGen {C : Cfg} {d : Nat} {f : Addr} {body : List Stmt} {scope : Scope} {closure : List (Str × Addr)} {qual : Str} {code : Value} (H : FnG C f body scope closure qual code) (hlim : C.s₁.heap.NoLimit) (hst : ¬ C.isTab cStatics)
    (hG : ∀ L, C.G L 0 (.fresh (.func body (fnEnv scope closure qual f code L)))) : DenF C (d + 1) f makeGenF := by
  intro xs σ x σ' hf A P s ρ vs hA R q k
  unfold makeGenF at hf
  split at hf
  · rename_i m
    split at hf
    · rename_i hm
      (refine c2 hf fun hh0 hh1 => ?_; clear hf; subst hh0; subst hh1)
      refine q.cons_e fun v vs qv q => q.nil_e ?_
      (refine x1_2 (qv.loc_inv) fun pm em rr2 => ?_; subst rr2)
      (refine x2_10 (H.obj) fun o fd ho hd rr4 hb hg rr7 rr8 rr9 hbi hbind => ?_; subst rr4; subst rr7; subst rr8; subst rr9)
      have ho' := R.old f o ho H.notTab
      have hcode : s.heap.CodeRec fd.code fd.qualname := by
        (refine x4_4 (H.crec) fun c o' vs' t e1 e2 e3 e4 => ?_)
        exact ⟨c, o', vs', t, e1, R.old c o' e2 (H.codeNo c e1), e3, e4⟩
      refine codeAny_call_generator (by have := hA.2.1; (first | lia | omega)) ho' hd H.coro H.gen hb hcode ?_
      rw [hbind]
      refine wpAny_pure ?_
      refine wpAny_newFunctionEnv H.cells (fun y hy => by cases List.mem_singleton.mp hy; exact H.loc) (fun h₁ hns hsb => ?_) H.kind
      have z₁ : h₁.objs.size = s.heap.objs.size + 1 := by rw [hsb.1, Heap.size_push]
      have k₁ : ∀ b o, s.heap.get? b = some o → h₁.get? b = some o := fun b o e => (hsb.2 b (Nat.ne_of_lt (Heap.lt_size e))).trans (Heap.get?_push_of_some _ e)
      refine ⟨?_, ?_⟩
      · (refine x1_2 (hlim) fun mc a b => ?_; clear hlim)
        exact ⟨mc, a.at fun o e => k₁ _ _ (R.old _ _ e hst), b⟩
      rw [hg, hbi]
      dsimp only
      have k₂ : ∀ b o, s.heap.get? b = some o → (h₁.push (genObj s.gens.size (.str fd.name (s.toks + 1)) (.str fd.qualname (s.toks + 1 + 1)))).get? b = some o := fun b o e => Heap.get?_push_of_some _ (k₁ b o e)
      have z₂ : (h₁.push (genObj s.gens.size (.str fd.name (s.toks + 1)) (.str fd.qualname (s.toks + 1 + 1)))).objs.size = s.heap.objs.size + 2 := by rw [Heap.size_push, z₁]
      have hp : (h₁.push (genObj s.gens.size (.str fd.name (s.toks + 1)) (.str fd.qualname (s.toks + 1 + 1)))).get? h₁.objs.size = some (genObj s.gens.size (.str fd.name (s.toks + 1)) (.str fd.qualname (s.toks + 1 + 1))) := Heap.get?_push_size _ rfl
      obtain ⟨R', S'⟩ := R.allocX (s' := { s with gens := s.gens.push (.fresh (.func body (fnEnv fd.scope fd.closure fd.qualname f fd.code s.heap.objs.size))), toks := s.toks + 1 + 1 + 1, heap := h₁.push (genObj s.gens.size (.str fd.name (s.toks + 1)) (.str fd.qualname (s.toks + 1 + 1))) })
        k₂ (by show s.heap.objs.size ≤ _; rw [z₂]; (first | lia | omega)) rfl rfl (p := (h₁.objs.size, s.heap.objs.size)) (o := .gen m 0) (by rw [z₁]; exact Nat.le_succ _) (Nat.le_refl _)
        (.gen hp ⟨⟨_, pm, hns.at fun o e => Heap.get?_push_of_some _ e, by rw [List.getElem?_append_left (List.getElem?_eq_some_iff.mp em).1]; exact em, List.lookup_cons_self⟩⟩)
        (GR.new (R.gens.heap fun uu uu uu uu uu uu o e => k₂ _ o e) R.len hp (hG _) rfl)
      refine k _ _ _ R' S' (.loc (p := (h₁.objs.size, s.heap.objs.size)) ?_)
      rw [← R.len, List.getElem?_append_right (Nat.le_refl _), Nat.sub_self]
      rfl
    · exact ns hf
  · exact ns hf
end Mine.Internal
end
section
open PySem PySem.W PyProof.Rows PySem.Calls
namespace Mine.Internal
section
variable {C : Cfg} {ρ ρ' : Rho} {σ : St} {s : Shared} {h : Heap} {g : Array GenState} {l n m k : Nat} {p p' : Addr × Addr} {o o' : AO} {st : GenState}
structure Swap (C : Cfg) (h : Heap) (ρ ρ' : Rho) : Prop where
  fst : ∀ (i : Nat) (p : Addr × Addr), ρ[i]? = some p → ∃ p', ρ'[i]? = some p' ∧ p'.1 = p.1
  mu : ∀ a o, h.get? a = some o → (∃ vs n, o.data = .seq vs n) → ¬ Mut C ρ a → ¬ Mut C ρ' a
set_option tactic.hygienic false in
theorem VR.swap (w : Swap C h ρ ρ') {x : AV} {v : Value} (q : VR C ρ h x v) : VR C ρ' h x v :=
  VR.rec (motive_1 := fun x v uu => VR C ρ' h x v) (motive_2 := fun xs vs uu => VRs C ρ' h xs vs) .none (fun b => .bool b) (fun i t => .int i t) (fun x t ok => .str x t ok)
    (fun ho hm uu ih => .tup ho (w.mu _ _ ho ⟨_, _, rfl⟩ hm) ih) (fun ho hm uu ih => .lst ho (w.mu _ _ ho ⟨_, _, rfl⟩ hm) ih)
    (fun e => by (refine x1_2 (w.fst _ _ e) fun p' a b => ?_); rw [← b]; exact .loc a) .nil (fun uu uu a b => .cons a b) q
set_option tactic.hygienic false in
theorem VRs.swap (w : Swap C h ρ ρ') {xs : List AV} {vs : List Value} (q : VRs C ρ h xs vs) : VRs C ρ' h xs vs := q.ind (P := VRs C ρ' h) .nil fun a uu ih => .cons (a.swap w) ih
set_option tactic.hygienic false in
theorem EntR.swap (w : Swap C h ρ ρ') {r : List (Str × AV)} {es : List DictEntry} (q : EntR C ρ h r es) : EntR C ρ' h r es := q.rec (motive := fun r es uu => EntR C ρ' h r es) .nil fun a uu ih => .cons (a.swap w) ih
set_option tactic.hygienic false in
theorem SelfAt.swap (w : Swap C h ρ ρ') {L : Addr} (q : SelfAt ρ h L m) : SelfAt ρ' h L m :=
  let ⟨mm, _, a, b, c⟩ := q.self; let ⟨q', d, e⟩ := w.fst _ _ b; ⟨mm, q', a, d, by rw [e]; exact c⟩
set_option tactic.hygienic false in
theorem ObjR.swap (w : Swap C h ρ ρ') (q : ObjR C ρ h p o) : ObjR C ρ' h p o := by
  cases q with
  | list ho hs => exact .list ho (hs.swap w)
  | fmt ho hd he => exact .fmt ho hd (he.swap w)
  | acc ho hd he hs => exact .acc ho hd (he.swap w) (hs.swap w)
  | ghost ho => exact .ghost ho
  | out ho => exact .out ho
  | gen ho hL => exact .gen ho (hL.swap w)
set_option tactic.hygienic false in
theorem LcR.swap (w : Swap C h ρ ρ') {L : Addr} {vars : List Str} {lc : Lc} (hm : ¬ Mut C ρ' L) (q : LcR C ρ h L vars lc) : LcR C ρ' h L vars lc := by
  obtain ⟨⟨mm, hn, hv⟩, _, hl, hz⟩ := q
  refine ⟨⟨mm, hn, fun i x e => ?_⟩, hm, hl, hz⟩
  (refine x2_3 (hv i x e) fun n v a b c => ?_)
  exact ⟨n, v, a, b, c.swap w⟩
set_option tactic.hygienic false in
theorem GR.swap (q : GR C ρ σ h g) (e : ρ[l]? = some p) (e' : σ[l]? = some o) (ho : o.isGen = true) {nm qn : Value} (hn : h.get? p.1 = some (genObj n nm qn)) (hp : p'.1 = p.1) (ho' : o'.isGen = true) (hb : st.bare = true)
    (hg : ∀ m k, o' = .gen m k → C.G p'.2 k st) (ht : ∀ n', o' = .out n' → n' = n ∧ st = .running) : GR C (ρ.set l p') (σ.set l o') h (g.setIfInBounds n st) := by
  have hz : n < g.size := by
    (refine x3_2 (q.obj e e' ho) fun n' a b z y => ?_)
    rw [hn] at z; cases z; exact y
  have hlρ := (List.getElem?_eq_some_iff.mp e).1
  have hlσ := (List.getElem?_eq_some_iff.mp e').1
  have at' : (g.setIfInBounds n st)[n]? = some st := by rw [Array.getElem?_setIfInBounds, if_pos rfl, if_pos hz]
  have ot : ∀ (j : Nat), j ≠ n → (g.setIfInBounds n st)[j]? = g[j]? := fun j hj => by rw [Array.getElem?_setIfInBounds, if_neg hj.symm]
  have far : ∀ {i : Nat} {r : Addr × Addr} {x : AO} {n' : Nat} {a b : Value}, l ≠ i → ρ[i]? = some r → σ[i]? = some x → x.isGen = true → h.get? r.1 = some (genObj n' a b) → n' ≠ n := by
    intro i r x n' a b hi e1 e2 hx hr hnn
    subst hnn
    exact hi (q.apart l i p r o x n' _ _ _ _ e e1 e' ho e2 hx hn hr)
  have backR : ∀ (i : Nat) {r : Addr × Addr}, (ρ.set l p')[i]? = some r → ∃ r', ρ[i]? = some r' ∧ r'.1 = r.1 := by
    intro i r e1
    by_cases hi : l = i
    · subst hi
      rw [List.getElem?_set, if_pos rfl, if_pos hlρ] at e1
      cases e1; exact ⟨p, e, hp.symm⟩
    · rw [List.getElem?_set_ne hi] at e1; exact ⟨r, e1, rfl⟩
  have backS : ∀ (i : Nat) {x : AO}, (σ.set l o')[i]? = some x → x.isGen = true → ∃ x', σ[i]? = some x' ∧ x'.isGen = true := by
    intro i x e1 hx
    by_cases hi : l = i
    · subst hi; exact ⟨o, e', ho⟩
    · rw [List.getElem?_set_ne hi] at e1; exact ⟨x, e1, hx⟩
  refine ⟨?_, fun i r m k e1 e2 => ?_, fun i r n₀ e1 e2 => ?_, fun i j r r' x x' n' a b c d e1 e2 e3 g3 e4 g4 e5 e6 => ?_⟩
  · intro y hy
    (refine x1_1 (Array.mem_iff_getElem?.mp hy) fun j hj => ?_)
    by_cases hjn : j = n
    · subst hjn; rw [at'] at hj; cases hj; exact hb
    · rw [ot j hjn] at hj; exact q.bare y (Array.mem_iff_getElem?.mpr ⟨j, hj⟩)
  · by_cases hi : l = i
    · subst hi
      rw [List.getElem?_set, if_pos rfl, if_pos hlρ] at e1
      rw [List.getElem?_set, if_pos rfl, if_pos hlσ] at e2
      cases e1; cases e2
      exact ⟨n, nm, qn, st, by rw [hp]; exact hn, at', hg _ _ rfl⟩
    · rw [List.getElem?_set_ne hi] at e1 e2
      (refine x4_3 (q.live i r m k e1 e2) fun n' a b x z y w => ?_)
      exact ⟨n', a, b, x, z, by rw [ot n' (far hi e1 e2 rfl z)]; exact y, w⟩
  · by_cases hi : l = i
    · subst hi
      rw [List.getElem?_set, if_pos rfl, if_pos hlρ] at e1
      rw [List.getElem?_set, if_pos rfl, if_pos hlσ] at e2
      cases e1; cases e2
      (refine x0_2 (ht _ rfl) fun rr0 rr1 => ?_; subst rr0; subst rr1)
      exact ⟨nm, qn, by rw [hp]; exact hn, at'⟩
    · rw [List.getElem?_set_ne hi] at e1 e2
      (refine x2_2 (q.outs i r n₀ e1 e2) fun a b z y => ?_)
      exact ⟨a, b, z, by rw [ot n₀ (far hi e1 e2 rfl z)]; exact y⟩
  · (refine x1_2 (backR i e1) fun r1 f1 f2 => ?_)
    (refine x1_2 (backR j e2) fun r2 f3 f4 => ?_)
    (refine x1_2 (backS i e3 g3) fun x1 f5 f6 => ?_)
    (refine x1_2 (backS j e4 g4) fun x2 f7 f8 => ?_)
    exact q.apart i j r1 r2 x1 x2 n' a b c d f1 f3 f5 f6 f7 f8 (by rw [f2]; exact e5) (by rw [f4]; exact e6)
set_option tactic.hygienic false in
theorem Swap.set (e : ρ[l]? = some p) (hp : p'.1 = p.1) (h2 : ∀ a o, h.get? a = some o → (∃ vs n, o.data = .seq vs n) → ¬ Mut C ρ a → a ≠ p'.2) : Swap C h ρ (ρ.set l p') := by
  have hl := (List.getElem?_eq_some_iff.mp e).1
  refine ⟨fun i r er => ?_, fun a ob ha hc n => ?_⟩
  · by_cases hi : l = i
    · subst hi
      rw [e] at er; cases er
      exact ⟨p', by rw [List.getElem?_set, if_pos rfl, if_pos hl], hp⟩
    · exact ⟨r, by rw [List.getElem?_set_ne hi]; exact er, rfl⟩
  · have h2' := h2 a ob ha hc n
    rintro (t | ⟨q, hq, z⟩)
    · exact n (.inl t)
    · rcases List.mem_or_eq_of_mem_set hq with hq | rfl
      · exact n (.inr ⟨q, hq, z⟩)
      · rcases z with z | z
        · exact n (.inr ⟨p, List.mem_of_getElem? e, .inl (hp ▸ z)⟩)
        · exact h2' z.symm
set_option tactic.hygienic false in
theorem Rel.swap (R : Rel C ρ σ s) (e : ρ[l]? = some p) (e' : σ[l]? = some o) (ho : o.isGen = true) {nm qn : Value} (hn : s.heap.get? p.1 = some (genObj n nm qn)) (hp : p'.1 = p.1) (ho' : o'.isGen = true) (hb : st.bare = true)
    (hg : ∀ m k, o' = .gen m k → C.G p'.2 k st) (ht : ∀ n', o' = .out n' → n' = n ∧ st = .running) (w : Swap C s.heap ρ (ρ.set l p')) (h2 : p'.2 = p.1 ∨ ¬ Mut C ρ p'.2) (lo : C.s₁.heap.objs.size ≤ p'.2) (hO : ObjR C (ρ.set l p') s.heap p' o') :
    Rel C (ρ.set l p') (σ.set l o') (s.setGen n st) := by
  have hlρ := (List.getElem?_eq_some_iff.mp e).1
  have hlσ := (List.getElem?_eq_some_iff.mp e').1
  refine ⟨R.old, R.tab, fun q hq => ?_, ?_, by simp [R.len], fun i q x e1 e2 => ?_, R.gens.swap e e' ho hn hp ho' hb hg ht, R.drawn, R.os, R.size⟩
  · rcases List.mem_or_eq_of_mem_set hq with hq | rfl
    · exact R.lo q hq
    · exact ⟨hp ▸ (R.lo p (List.mem_of_getElem? e)).1, lo⟩
  · have hd := List.pairwise_iff_getElem.mp R.dis
    have hel : ρ[l] = p := (List.getElem?_eq_some_iff.mp e).2
    have nm' : ∀ (i : Nat) (hi : i < ρ.length), i ≠ l → p'.2 ≠ ρ[i].1 ∧ p'.2 ≠ ρ[i].2 ∧ p'.1 ≠ ρ[i].1 ∧ p'.1 ≠ ρ[i].2 := by
      intro i hi hne
      have z : ρ[l].1 ≠ ρ[i].1 ∧ ρ[l].1 ≠ ρ[i].2 := by
        rcases Nat.lt_or_gt_of_ne hne with c | c
        · have := hd i l hi hlρ c; exact ⟨this.1.symm, this.2.2.1.symm⟩
        · have := hd l i hlρ hi c; exact ⟨this.1, this.2.1⟩
      rw [hel, ← hp] at z
      rcases h2 with h2 | h2
      · rw [← hp] at h2; rw [h2]; exact ⟨z.1, z.2, z.1, z.2⟩
      · exact ⟨fun c => h2 (.inr ⟨_, List.getElem_mem hi, .inl c.symm⟩), fun c => h2 (.inr ⟨_, List.getElem_mem hi, .inr c.symm⟩), z.1, z.2⟩
    refine List.pairwise_iff_getElem.mpr fun i j hi hj hij => ?_
    rw [List.length_set] at hi hj
    rw [List.getElem_set, List.getElem_set]
    by_cases h1 : l = i
    · subst h1
      rw [if_pos rfl, if_neg (Nat.ne_of_lt hij)]
      (refine x0_4 (nm' j hj (Nat.ne_of_gt hij)) fun a b c d => ?_)
      exact ⟨c, d, a, b⟩
    · rw [if_neg h1]
      by_cases h3 : l = j
      · subst h3
        rw [if_pos rfl]
        (refine x0_4 (nm' i hi (Nat.ne_of_lt hij)) fun a b c d => ?_)
        exact ⟨c.symm, a.symm, d.symm, b.symm⟩
      · rw [if_neg h3]; exact hd i j hi hj hij
  · by_cases hi : l = i
    · subst hi
      rw [List.getElem?_set, if_pos rfl, if_pos hlρ] at e1
      rw [List.getElem?_set, if_pos rfl, if_pos hlσ] at e2
      cases e1; cases e2; exact hO
    · rw [List.getElem?_set_ne hi] at e1 e2
      exact (R.st i q x e1 e2).swap w
end
end Mine.Internal
end
section
open PySem PySem.W PyProof.Rows PySem.Calls
namespace Mine.Internal
theorem kind_next : builtinKind "next" = none := by decide +kernel
theorem plain_next : plainId "next" = true := by decide +kernel
theorem entry_next : entryFor table "next" = some Builtin.«next» := entryFor_of_fast (by kernel_rfl)
theorem args_next1 (a : Value) : argsOk "next" ⟨[a], []⟩ := by unfold argsOk; kernel_rfl
noncomputable def pickI (P : Int → Prop) : Option Int := @dite _ (∃ v, P v) (Classical.propDecidable _) (fun h => some h.choose) fun _ => none
set_option tactic.hygienic false in
theorem pickI_some {P : Int → Prop} {v : Int} (h : pickI P = some v) : P v := by
  unfold pickI at h
  by_cases hp : ∃ v, P v
  · rw [dif_pos hp] at h
    cases h
    exact hp.choose_spec
  · rw [dif_neg hp] at h; cases h
set_option tactic.hygienic false in
theorem pickI_eq {P : Int → Prop} {v : Int} (h : P v) (k : ∀ u, P u → u = v) : pickI P = some v := by
  unfold pickI
  have hp : ∃ v, P v := ⟨v, h⟩
  rw [dif_pos hp, k _ hp.choose_spec]
noncomputable def nextF (e0 e1 : EM) : FM := fun xs σ => match xs with
  | [.loc l] => match σ[l]? with
    | some (.gen m k) => (pickI fun v => ∀ n, (bif k == 0 then e0 else e1) [some (.loc m)] (σ.set l (.out n)) = some (.int v, σ.set l (.out n))).map fun v => (.int v, σ.set l (.gen m (k + 1)))
    | _ => none
  | _ => none
structure NextOk (C : Cfg) (d : Nat) (genv : Addr → Env) (ex0 ex1 : Expr) (y1 p1 y2 p2 pw tp : Pos) (kk : Nat) (e0 e1 : EM) : Prop where
  G0 : ∀ L st, C.G L 0 st → st = .fresh (genF (genv L) ex0 ex1 y1 p1 y2 p2 pw tp kk)
  G1 : ∀ L k st, C.G L (k + 1) st → GSleep (model C.prog C.w) (genF (genv L) ex0 ex1 y1 p1 y2 p2 pw tp kk) (genW (genv L) ex1 y2 p2 tp kk) st
  G2 : ∀ L k st, GSleep (model C.prog C.w) (genF (genv L) ex0 ex1 y1 p1 y2 p2 pw tp kk) (genW (genv L) ex1 y2 p2 tp kk) st → C.G L (k + 1) st
  loc : ∀ L, (genv L).locals = L
  co : ∀ L, (genv L).scope.isCoroutine = false
  ia : ∀ L, interactive (genv L) = false
  D0 : ∀ L, DenE C d (genv L) ["self"] ex0 e0
  D1 : ∀ L, DenE C d (genv L) ["self"] ex1 e1
section
variable {C : Cfg} {d : Nat} {ρ : Rho} {σ : St} {s : Shared} {A : Around} {genv : Addr → Env} {ex0 ex1 : Expr} {y1 p1 y2 p2 pw tp : Pos} {kk : Nat} {e0 e1 : EM}
set_option tactic.hygienic false in
theorem AOk.genF {F : Code} {env : Env} {b : List Stmt} (hF : F = .func b env) (a : AOk (d + 1) A) : AOk d (A.over F []) := by
  subst hF
  (refine x0_3 (a) fun a1 a2 a3 => ?_; clear a)
  refine ⟨a1, ?_, ?_⟩
  · show A.depth + 0 + 1 + d < _; (first | lia | omega)
  · show A.units + 0 + _ + 8 * d < _
    show A.units + 0 + 3 + 8 * d < _; (first | lia | omega)
set_option tactic.hygienic false in
theorem AOk.genW {F : Code} {env : Env} {b b' : List Stmt} {t : Expr} {fs : List Frame} (hF : F = .func b env) (hfs : FsW F fs) (a : AOk (d + 1) A) : AOk d (A.over (.whileLoop t b' [] env) fs) := by
  subst hF
  (refine x3_1 (hfs) fun k l p rr3 => ?_; clear hfs; subst rr3)
  (refine x0_3 (a) fun a1 a2 a3 => ?_; clear a)
  refine ⟨a1, ?_, ?_⟩
  · show A.depth + 1 + 0 + d < _; (first | lia | omega)
  · show A.units + 3 + 0 + 8 * d < _; (first | lia | omega)
noncomputable def NextEnd (C : Cfg) (ρ : Rho) (σ' : St) (s : Shared) (n : Nat) (v : Int) (e : End) (s' : Shared) : Prop :=
  e.quiet = true ∧ ∃ t ρ', e.result = .yielded (.int v t) ∧ Rel C ρ' σ' (s'.setGen n e.genState) ∧ Step C [] ρ ρ' s.heap s'.heap
set_option tactic.hygienic false in
theorem next_turn (R : Rel C ρ σ s) {l m k n : Nat} {a L : Addr} {nm qn : Value} (e : ρ[l]? = some (a, L)) (e' : σ[l]? = some (.gen m k)) (hn : s.heap.get? a = some (genObj n nm qn)) (hL : SelfAt ρ s.heap L m) {env : Env} (henv : env.locals = L)
    {ex : Expr} {f : EM} (D : DenE C d env ["self"] ex f) {v : Int} (hf : ∀ n, f [some (.loc m)] (σ.set l (.out n)) = some (.int v, σ.set l (.out n))) (hA : AOk d A) {T : GenState → Prop} (hT : ∀ st, T st → C.G L (k + 1) st) :
    wpAny (model C.prog C.w) A (eval ex env) (fun v' s' => ∀ ee : End, ee.quiet = true → ee.result = .yielded v' → T ee.genState → NextEnd C ρ (σ.set l (.gen m (k + 1))) s n v ee s') (fun uu uu => False) (s.setGen n .running) := by
  have hlρ := (List.getElem?_eq_some_iff.mp e).1
  have hlσ := (List.getElem?_eq_some_iff.mp e').1
  (refine x2_3 (hL.self) fun mm q hNs hq hself => ?_)
  have hLo : ∀ o', s.heap.get? L = some o' → ∀ n nm qn, o' ≠ genObj n nm qn := by
    (refine x3_3 (hNs) fun o es ep ho hd uu => ?_; clear hNs)
    intro o' e1 n nm qn z
    rw [ho] at e1; cases e1; subst z; cases hd
  have hLa : L ≠ a := fun z => hLo _ (z ▸ hn) _ _ _ rfl
  have hsw : Swap C s.heap ρ (ρ.set l (a, a)) := Swap.set e rfl fun x o hx hc uu z => by
    subst z
    rw [hn] at hx; cases hx
    (refine x2_1 (hc) fun uu uu hc => ?_); cases hc
  have R' : Rel C (ρ.set l (a, a)) (σ.set l (.out n)) (s.setGen n .running) :=
    R.swap e e' rfl hn rfl rfl rfl (fun uu uu z => by cases z) (fun uu z => by cases z; exact ⟨rfl, rfl⟩) hsw (.inl rfl) (R.lo _ (List.mem_of_getElem? e)).1 (.out hn)
  have hmL : ¬ Mut C (ρ.set l (a, a)) L := by
    rintro (t | ⟨p, hp, z⟩)
    · (refine x3_2 (hNs) fun o es ep ho uu => ?_; clear hNs)
      exact R.notTabNs hL ho t
    · obtain ⟨i, hi, rfl⟩ := List.mem_iff_getElem.mp hp
      rw [List.length_set] at hi
      rw [List.getElem_set] at z
      by_cases hli : l = i
      · rw [if_pos hli] at z
        rcases z with z | z <;> exact hLa z.symm
      · rw [if_neg hli] at z
        have hd := List.pairwise_iff_getElem.mp R.dis
        have hel : ρ[l] = (a, L) := (List.getElem?_eq_some_iff.mp e).2
        rcases Nat.lt_or_gt_of_ne hli with c | c
        · have := hd l i hlρ hi c
          rw [hel] at this
          rcases z with z | z
          · exact this.2.2.1 z.symm
          · exact this.2.2.2 z.symm
        · have := hd i l hi hlρ c
          rw [hel] at this
          rcases z with z | z
          · exact this.2.1 z
          · exact this.2.2.2 z
  have lr : LcR C (ρ.set l (a, a)) s.heap env.locals ["self"] [some (.loc m)] := by
    rw [henv]
    (refine x1_2 (hsw.fst _ _ hq) fun q' hq' hq'' => ?_)
    refine ⟨⟨mm, hNs, fun i x ei => ?_⟩, hmL, (R.lo _ (List.mem_of_getElem? e)).2, rfl⟩
    cases i with
    | zero => cases ei; exact ⟨_, _, rfl, hself, by rw [← hq'']; exact .loc hq'⟩
    | succ i => cases ei
  refine D _ _ _ _ (hf n) A _ _ _ _ hA R' lr fun v' s' ρ' R₁ S₁ q₁ => fun ee h1 h2 h3 => ?_
  (refine x1_1 (q₁.int_inv) fun t rr1 => ?_; subst rr1)
  obtain ⟨δ, rfl, hδ⟩ := S₁.grow
  have eρ : (ρ.set l (a, a) ++ δ)[l]? = some (a, a) := by
    rw [List.getElem?_append_left (by rw [List.length_set]; exact hlρ), List.getElem?_set, if_pos rfl, if_pos hlρ]
  have eσ : (σ.set l (.out n))[l]? = some (.out n) := by rw [List.getElem?_set, if_pos rfl, if_pos hlσ]
  (refine x2_2 (R₁.gens.outs l _ n eρ eσ) fun nm' qn' hn' uu => ?_)
  have lr' := lr.go S₁
  rw [henv] at lr'
  obtain ⟨⟨mm', hNs', hv'⟩, hmL', _, _⟩ := lr'
  (refine x2_3 (hv' 0 _ rfl) fun x0 v0 hx0 hm0 hq0 => ?_)
  (refine c1 hx0 fun hh0 => ?_; clear hx0; subst hh0)
  (refine x1_2 (hq0.loc_inv) fun pm em rr2 => ?_; subst rr2)
  have hsw' : Swap C s'.heap (ρ.set l (a, a) ++ δ) ((ρ.set l (a, a) ++ δ).set l (a, L)) := Swap.set eρ rfl fun x o hx hc uu z => by
    subst z
    (refine x3_3 (hNs') fun o' es ep ho hd uu => ?_; clear hNs')
    rw [hx] at ho; cases ho
    (refine x2_1 (hc) fun uu uu hc => ?_)
    rw [hd] at hc; cases hc
  refine ⟨h1, t, (ρ.set l (a, a) ++ δ).set l (a, L), h2, ?_, ?_⟩
  · have := R₁.swap (o' := .gen m (k + 1)) (p' := (a, L)) (st := ee.genState) eρ eσ rfl hn' rfl rfl (End.bare_of_quiet h1) (fun m' k' z => by cases z; exact hT _ h3) (fun uu z => by cases z) hsw' (.inr hmL') (R.lo _ (List.mem_of_getElem? e)).2
      (.gen hn' ⟨⟨mm', _, hNs', (hsw'.fst _ _ em).choose_spec.1, by rw [(hsw'.fst _ _ em).choose_spec.2]; exact hm0⟩⟩)
    rw [List.set_set] at this
    exact this
  · refine ⟨S₁.size, fun b o hb hm w => S₁.keep b o hb (fun mu => hm ?_) w, δ, ?_, hδ⟩
    · rcases mu with t | ⟨p, hp, z⟩
      · exact .inl t
      · rcases List.mem_or_eq_of_mem_set hp with hp | rfl
        · exact .inr ⟨p, hp, z⟩
        · exact .inr ⟨_, List.mem_of_getElem? e, .inl (by rcases z with z | z <;> exact z)⟩
    · rw [List.set_append_left _ _ (by rw [List.length_set]; exact hlρ), List.set_set]
      congr 1
      have hel : ρ[l] = (a, L) := (List.getElem?_eq_some_iff.mp e).2
      rw [← hel]
      exact List.set_getElem_self hlρ
theorem den_next (H : NextOk C d genv ex0 ex1 y1 p1 y2 p2 pw tp kk e0 e1) (hlim : C.s₁.heap.NoLimit) (hst : ¬ C.isTab cStatics) : DenCall C (d + 3) (.builtin "next") (nextF e0 e1) := by
  intro xs σ x σ' hf A Q E s ρ vs hA R q k
  unfold nextF at hf
  split at hf
  · rename_i l
    split at hf
    · rename_i m k' hl
      obtain ⟨v, hv, hz⟩ := Option.map_eq_some_iff.mp hf
      cases hz
      replace hv := pickI_some hv
      obtain ⟨w, ws, rfl, qw, q0⟩ := q.cons_inv
      cases q0.nil_inv
      obtain ⟨p, ep, rfl⟩ := qw.loc_inv
      obtain ⟨n, nm, qn, st, hn, hst', hG⟩ := R.gens.live l p m k' ep hl
      obtain ⟨a, L⟩ := p
      have hL : SelfAt ρ s.heap L m := by
        have := R.st l _ _ ep hl
        cases this with | gen _ hL => exact hL
      have hg : s.heap.IsGen a n := ⟨_, nm, qn, hn, rfl, rfl, rfl⟩
      have hA' : AOk (d + 1) A.in1.in1 := hA.in1.in1
      have room : A.in1.in1.depth < recursionLimit := by have := hA'.2.1; (first | lia | omega)
      have hlim' : s.heap.NoLimit := by
        obtain ⟨mc, b, c⟩ := hlim
        exact ⟨mc, b.at fun o e => R.old _ _ e hst, c⟩
      refine Calls.call_function_entry kind_next plain_next entry_next (args_next1 _) ?_
      unfold Builtin.«next»
      refine wpAny_bind (m := someArgs "next" 1 2 _) (wpAny_of_eq (a := [.ref a]) rfl ?_)
      refine wpAny_bind (wpAny_specialOf hg.typeIs slot_gen_next.lookup ?_)
      refine wpAny_bind (m := callSpecial? (.ref a) (Str.ofString "__next__")) (wpAny_callSpecial?_slot (name := Str.ofString "__next__") hg.typeIs slot_gen_next (wpAny_call_entry slot_gen_next hg.typeIs entry_gen_next ?_ (args_gen_next _)))
      show wpAny _ A.in1.in1 (Builtin.Generator.genWake (.ref a) (.send .none)) _ _ s
      unfold Builtin.Generator.genWake
      refine wpAny_bind (wpAny_holding (wpAny_genNumber hg (wpAny_bind (wpAny_genState hst' ?_))))
      have fin : ∀ (e : End) (s₁ : Shared), NextEnd C ρ (σ.set l (.gen m (k' + 1))) s n v e s₁ → ∃ t, e.quiet = true ∧ e.result = .yielded (.int v t) ∧ Q (.int v t) (s₁.setGen n e.genState) := by
        rintro e s₁ ⟨h1, t, ρ', h2, h3, h4⟩
        exact ⟨t, h1, h2, k _ _ _ h3 h4 (.int _ _)⟩
      cases k' with
      | zero =>
        obtain rfl := H.G0 _ _ hG
        refine wpAny_bind (wpAny_roomToWake hlim' room ?_)
        show wpAny _ _ (.resume n (.send .none) [] _) _ _ s
        refine wp_resumeX (Φ := NextEnd C ρ (σ.set l (.gen m 1)) s n v) hst' (gen_first (H.co L) (H.ia L) (next_turn R ep hl hn hL (H.loc L) (H.D0 L) hv (AOk.genF rfl hA') (H.G2 L 0))) fun e s₁ h => ?_
        obtain ⟨t, h1, h2, h3⟩ := fin e s₁ h
        refine ⟨h1, ?_⟩
        rw [h2]
        exact wpAny_pure ⟨_, rfl, wpAny_pure ⟨_, rfl, h3⟩⟩
      | succ k' =>
        obtain ⟨kk', ll, c, pp, fs, rfl, hW⟩ := H.G1 _ _ _ hG
        refine wpAny_bind (wpAny_roomToWake hlim' room ?_)
        show wpAny _ _ (.resume n (.send .none) [] _) _ _ s
        refine wp_resumeX (Φ := NextEnd C ρ (σ.set l (.gen m (k' + 1 + 1))) s n v) hst' (hW _ _ _ fun fs' hfs => gen_next (H.co L) (H.ia L) hfs (next_turn R ep hl hn hL (H.loc L) (H.D1 L) hv (AOk.genW rfl hfs hA') (H.G2 L (k' + 1)))) fun e s₁ h => ?_
        obtain ⟨t, h1, h2, h3⟩ := fin e s₁ h
        refine ⟨h1, ?_⟩
        rw [h2]
        exact wpAny_pure ⟨_, rfl, wpAny_pure ⟨_, rfl, h3⟩⟩
    · exact ns hf
  · exact ns hf
end
end Mine.Internal
end
section
open PySem PySem.W PyProof.Rows PySem.Calls
namespace Mine.Internal
noncomputable def lenE0 : EM := binE .Sub (attrE 0 (nE 0)) (callE (lenF accLenF) [lineE])
noncomputable def lenE1 : EM := binE .Sub (attrE 0 (nE 0)) (attrE 2 (nE 0))
end Mine.Internal
end
section
open PySem PySem.W PyProof.Rows PySem.Calls
namespace Mine.Internal
noncomputable def compL (nx : St → Nat → Option (Option AV)) (f : EM) (g : Nat) : Nat → Nat → St → Option St
  | 0, _, _ => none
  | n + 1, i, σ => match nx σ i with
    | some (some x) => match f [some x] σ with
      | some (y, σ₁) => match appendF [.loc g, y] σ₁ with
        | some (_, σ₂) => compL nx f g n (i + 1) σ₂
        | none => none
      | none => none
    | some none => some σ
    | none => none
section
variable {C : Cfg} {ρ ρ' : Rho} {σ σ' : St} {s : Shared} {A : Around} {E : Value → Shared → Prop} {env : Env} {vars : List Str} {lc : Lc} {d : Nat}
structure CompAt (C : Cfg) (env : Env) (x : Str) (I : Addr) (nx : St → Nat → Option (Option AV)) (f : EM) (g : Nat) (a : Addr) (Inv : Nat → Rho → Heap → Prop) (σ' : St) (ρ : Rho) (h : Heap) (n i : Nat) (lc : Lc) (σ₁ : St) (ρ₁ : Rho) (u : Shared) : Prop where
  run : compL nx f g n i σ₁ = some σ'
  R : Rel C ρ₁ σ₁ u
  l : LcR C ρ₁ u.heap env.locals [x] lc
  inv : Inv i ρ₁ u.heap
  m : ∀ J ∈ [I], ¬ Mut C ρ₁ J
  S : Step C (env.locals :: [I]) ρ ρ₁ h u.heap
  at_ : ρ₁[g]? = some (a, a)
set_option tactic.hygienic false in
theorem wpAny_skip {M : Model} {α : Type} {m : Sem α} {Q : α → Shared → Prop} (h : wpAny M A (pure () : Sem Unit) (fun uu s' => wpAny M A m Q E s') E s) : wpAny M A m Q E s := fun Γ p hΓ => (h Γ p hΓ) Γ p hΓ
theorem comp_rel {x : Str} {px pos : Pos} {I a : Addr} {elt iter : Expr} {scope : Scope} {nx : St → Nat → Option (Option AV)} {f : EM} {g : Nat} {Inv : Nat → Rho → Heap → Prop} (IT : IterOk C d env [x] I [I] (.Name x px) nx (fun lc y => putL lc 0 y) Inv) (DE : DenE C d env [x] elt f) (DA : DenCall C d (.builtin "list.append") appendF) (hA : AOk d A)
    {fuel i : Nat} (hf : compL nx f g fuel i σ = some σ') (R : Rel C ρ σ s) (lr : LcR C ρ s.heap env.locals [x] lc) (hI : Inv i ρ s.heap) (hm : ∀ J ∈ [I], ¬ Mut C ρ J) (hg : ρ[g]? = some (a, a)) {P : Result → Shared → Prop}
    (k : ∀ s' ρ' lc', Rel C ρ' σ' s' → Step C (env.locals :: [I]) ρ ρ' s.heap s'.heap → LcR C ρ' s'.heap env.locals [x] lc' → P (.ok .next) s') :
    codeAny (model C.prog C.w) A (.compLoop (.ListComp elt [⟨.Name x px, iter, [], 0⟩] scope pos) 0 (.ref I) (.ref a) env) P s := by
  refine codeAny_compLoop_list (fun n u => ∃ i lc σ₁ ρ₁, CompAt C env x I nx f g a Inv σ' ρ s.heap n i lc σ₁ ρ₁ u) ?_ fuel ⟨i, lc, σ, ρ, hf, R, lr, hI, hm, .refl, hg⟩
  rintro n u ⟨i, lc, σ₁, ρ₁, L⟩
  cases n with
  | zero => have hf := L.run; unfold compL at hf; cases hf
  | succ n =>
    have hf := L.run
    unfold compL at hf
    split at hf
    · rename_i y hx
      (refine s1 hf ?_; clear hf; intro z σ₂ hy hf)
      (refine s1 hf ?_; clear hf; intro z' σ₃ hz hf)
      have hst : putL lc 0 y = some [some y] := by
        have hl := L.l.2.2.2
        match lc, hl with
        | [w], _ => rfl
      refine wpAny_mono (IT.next A i lc [some y] σ₁ ρ₁ u y (fun s₂ => Rel C ρ₁ σ₁ s₂ ∧ Step C (env.locals :: [I]) ρ₁ ρ₁ u.heap s₂.heap ∧ LcR C ρ₁ s₂.heap env.locals [x] [some y] ∧ Inv (i + 1) ρ₁ s₂.heap) _ hA L.R L.l L.inv L.m hx hst fun s₂ a b c e => ⟨a, b, c, e⟩) (fun r s₁ h₁ => ?_) fun uu uu z => z
      obtain ⟨v, rfl, h₁⟩ := h₁
      dsimp only
      refine wpAny_mono (wpAny_skip h₁) (fun uu s₂ h₂ => ?_) fun uu uu z => z
      (refine x0_4 (h₂) fun R₂ S₂ l₂ I₂ => ?_; clear h₂)
      refine DE _ _ _ _ hy A _ _ s₂ ρ₁ hA R₂ l₂ fun w s₃ ρ₃ R₃ S₃ q₃ => ?_
      have g₃ : ρ₃[g]? = some (a, a) := by
        obtain ⟨δ, rfl, _⟩ := S₃.grow
        rw [List.getElem?_append_left (List.getElem?_eq_some_iff.mp L.at_).1]; exact L.at_
      refine DA _ _ _ _ hz A _ _ s₃ ρ₃ [.ref a, w] hA R₃ (.cons (.loc (p := (a, a)) g₃) (.cons q₃ .nil)) fun _ s₄ ρ₄ R₄ S₄ _ => ?_
      have S34 := S₃.trans S₄
      refine ⟨n, Nat.lt_succ_self _, i + 1, [some y], σ₃, ρ₄, hf, R₄, l₂.go S34, IT.keep _ _ _ _ _ I₂ L.m (ns_noSeq l₂.1.choose_spec.1) S34.of_nil, (fun J hJ => let ⟨o, ho⟩ := IT.here _ _ _ I₂ J hJ; Mut.grow S34 (Heap.lt_size ho) (L.m J hJ)), (L.S.trans S₂).trans S34.of_nil, ?_⟩
      obtain ⟨δ, rfl, _⟩ := S₄.grow
      rw [List.getElem?_append_left (List.getElem?_eq_some_iff.mp g₃).1]; exact g₃
    · rename_i hx
      cases hf
      refine wpAny_mono (IT.stop A i lc σ' ρ₁ u (fun s₂ => Rel C ρ₁ σ' s₂ ∧ Step C (env.locals :: [I]) ρ₁ ρ₁ u.heap s₂.heap ∧ LcR C ρ₁ s₂.heap env.locals [x] lc) _ hA L.R L.l L.inv L.m hx fun s₂ a b c => ⟨a, b, c⟩) (fun r s₁ h₁ => ?_) fun uu uu z => z
      (refine x0_4 (h₁) fun rr0 R₂ S₂ l₂ => ?_; clear h₁; subst rr0)
      exact k _ _ _ R₂ (L.S.trans S₂) l₂
    · cases hf
end
end Mine.Internal
end
section
open PySem PySem.W PyProof.Rows PySem.Calls
namespace Mine.Internal
noncomputable def nxA (l : Nat) : St → Nat → Option (Option AV) := fun σ i => match σ[l]? with
  | some (.acc _ ps) => some ((ps.map partAV)[i]?)
  | _ => none
section
variable {C : Cfg} {ρ ρ' : Rho} {σ σ' : St} {s : Shared} {A : Around} {E : Value → Shared → Prop} {env : Env} {vars : List Str} {lc : Lc} {d : Nat}
set_option tactic.hygienic false in
theorem acc_seq (R : Rel C ρ σ s) {l i : Nat} {a : Addr} {r : Option AV} (q : VR C ρ s.heap (.loc l) (.ref a)) (h : nxA l σ i = some r) : ∃ xs vs, SeqObj s.heap a (List.toArray vs) ∧ VRs C ρ s.heap xs vs ∧ xs[i]? = r := by
  unfold nxA at h
  (refine sa h ?_; clear h; intro ini ps hl h)
  (refine c1 h fun hh0 => ?_; clear h; subst hh0)
  (refine x1_2 (R.obj hl) fun p e ob => ?_)
  (refine x1_2 (q.loc_inv) fun p' e' ea => ?_)
  rw [e] at e'; cases e'
  cases ea
  cases ob with | @acc a dd es n1 n2 vs _ _ ho hd he hs => exact ⟨_, vs, ⟨_, _, ho, rfl⟩, hs, rfl⟩
set_option tactic.hygienic false in
theorem oneAcc {I a : Addr} {l : Nat} (lo : C.s₁.heap.objs.size ≤ I) (ne : env.locals ≠ I) : OneIter C env I (nxA l) (fun i ρ h => h.IsListIter I a i ∧ VR C ρ h (.loc l) (.ref a)) where
  lo := lo
  ne := ne
  kind _ _ _ hI := listIter_kind hI.1
  keep i ρ ρ' h h' hI hm hW S := ⟨hI.1.at fun o e => S.keep _ _ e hm (by simpa using Ne.symm ne), hI.2.step S hW⟩
  item A i σ ρ s x Q E' hh R hI hx k := by
    (refine x2_3 (acc_seq R hI.2 hx) fun xs vs ho hs hxi => ?_)
    (refine x1_2 (hs.get hxi) fun v hv qv => ?_)
    (refine x1_3 (listIter_kind hI.1) fun o hoI hno uu => ?_)
    refine next_item hI.1 ho (x := v) (by simpa using hv) fun h' hit' hs' => ?_
    refine k v h' s.toks qv ⟨hit', ?_⟩ fun b o hb e => (hs'.2 b hb).trans e
    refine hI.2.step (stepWrite hs') ?_
    intro b o' vs' n' hb e
    cases List.mem_singleton.mp hb
    rw [hoI] at e; cases e
    exact hno vs' n'
  done A i σ ρ s Q E' hh R hI hx k := by
    (refine x2_3 (acc_seq R hI.2 hx) fun xs vs ho hs hxi => ?_)
    have hn : vs.toArray[i]? = none := by
      rw [List.getElem?_eq_none_iff] at hxi
      simp
      rw [hs.length]; exact hxi
    refine next_end hh hI.1 ho hn fun h' he => ?_
    exact k h' s.toks fun b o hb e => he b o hb e
noncomputable def compE (fsrc f : EM) : EM := fun lc σ => match fsrc lc σ with
  | some (.loc l, σ₁) => match σ₁[l]? with
    | some (.acc ..) => (compL (nxA l) f σ₁.length 1000000 0 (σ₁ ++ [.list []])).map (.loc σ₁.length, ·)
    | _ => none
  | _ => none
set_option tactic.hygienic false in
theorem den_comp (H : CfgOk C) (HC : ClsOk C) (HA : AccOk C) (He : EnvOk env vars) {elt iter : Expr} {x : Str} {px pos : Pos} {scope : Scope} {fsrc f : EM}
    (hfree : ∀ y ∈ scope.names, y.2 ≠ .free) (hcell : ∀ y ∈ scope.names, y.2 ≠ .cell) (hkind : scope.kind = .function) (hnames : ∀ y ∈ scope.names, y.2 = .local → scope.names.lookup y.1 = some .local) (hx : scope.names.lookup x = some .local)
    (D : DenE C (d + 1) env vars iter fsrc) (DE : ∀ cenv : Env, cenv.scope = scope → EnvOk cenv [x] → DenE C (d + 1) cenv [x] elt f)
    (hs : ∀ v, foldedSetIterable iter env v = pure v) : DenE C (d + 1) env vars (.ListComp elt [⟨.Name x px, iter, [], 0⟩] scope pos) (compE fsrc f) := by
  intro lc σ y σ' hf A Q E s ρ hA R lr kk
  unfold compE at hf
  (refine sl hf ?_; clear hf; intro l σ₁ e1 hf)
  (refine sa hf ?_; clear hf; intro ini ps hl hf)
  (refine x1_2 (Option.map_eq_some_iff.mp hf) fun σ₂ e2 e3 => ?_)
  (refine p2 e3 fun hh0 hh1 => ?_; clear e3; subst hh0; subst hh1)
  refine wpAny_ListComp hfree hkind hnames (D _ _ _ _ e1 A _ E s ρ hA R lr fun v s₁ ρ₁ R₁ S₁ q₁ => ?_) hs
  have qq := q₁
  (refine x1_2 (q₁.loc_inv) fun p ep rr2 => ?_; subst rr2)
  (refine x1_2 (R₁.obj hl) fun p' e1' ob => ?_)
  rw [ep] at e1'; cases e1'
  cases ob with | @acc a dd es n1 n2 vs _ _ ho hd he hs' =>
  refine below_iter (R₁.kin H) (accInst ho hd) HC.acMro HA.iter ?_
  refine wpAny_newList ?_
  refine wpAny_newFunctionEnv hcell (fun y hy => nomatch hy) (fun h' hns hsb => ?_) hkind
  dsimp only at hns hsb ⊢
  have zz : ((s₁.heap.push { cls := .type "list_iterator", data := .fields #[.ref a, .int 0 0] }).push { cls := .type "list", data := .seq ([] : List Value).toArray }).objs.size = s₁.heap.objs.size + 2 := by rw [Heap.size_push, Heap.size_push]
  rw [zz] at hns hsb ⊢
  have z₁ : h'.objs.size = s₁.heap.objs.size + 3 := by rw [hsb.1, Heap.size_push, zz]
  have kp : ∀ b o, ((s₁.heap.push { cls := .type "list_iterator", data := .fields #[.ref a, .int 0 0] }).push { cls := .type "list", data := .seq ([] : List Value).toArray }).get? b = some o → h'.get? b = some o := fun b o e => (hsb.2 b (Nat.ne_of_lt (zz ▸ Heap.lt_size e))).trans (Heap.get?_push_of_some _ e)
  have k₁ : ∀ b o, s₁.heap.get? b = some o → h'.get? b = some o := fun b o e => kp b o (Heap.get?_push_of_some _ (Heap.get?_push_of_some _ e))
  have hit : h'.get? s₁.heap.objs.size = some { cls := .type "list_iterator", data := .fields #[.ref a, .int 0 0] } := kp _ _ (Heap.get?_push_of_some _ (Heap.get?_push_size _ rfl))
  have hac : h'.get? (s₁.heap.push { cls := .type "list_iterator", data := .fields #[.ref a, .int 0 0] }).objs.size = some { cls := .type "list", data := .seq ([] : List Value).toArray } := kp _ _ (Heap.get?_push_size _ rfl)
  rw [Heap.size_push] at hac ⊢
  obtain ⟨R₄, S₄⟩ := R₁.alloc (s' := { s₁ with heap := h', toks := s₁.toks + ([] : List (Str × Value)).length }) k₁ (by show s₁.heap.objs.size ≤ h'.objs.size; (first | lia | omega)) R₁.gens rfl rfl (p := (s₁.heap.objs.size + 1, s₁.heap.objs.size + 1)) (o := .list []) (Nat.le_succ _) (Nat.le_succ _) (.list (vs := []) hac .nil) rfl
  have hg : (ρ₁ ++ [(s₁.heap.objs.size + 1, s₁.heap.objs.size + 1)])[σ₁.length]? = some (s₁.heap.objs.size + 1, s₁.heap.objs.size + 1) := by
    rw [← R₁.len, List.getElem?_append_right (Nat.le_refl _), Nat.sub_self]; rfl
  have nM : ∀ b, s₁.heap.objs.size ≤ b → b ≠ s₁.heap.objs.size + 1 → ¬ Mut C (ρ₁ ++ [(s₁.heap.objs.size + 1, s₁.heap.objs.size + 1)]) b := fun b hb hne => mutSnoc (R₁.freshGe hb) hne hne
  have He' : EnvOk { newEnv scope (s₁.heap.objs.size + 2) env.globals [] env.qual none .none (some env) builtinsNs with scope := scope } [x] :=
    ⟨hkind, fun y hy => by cases List.mem_singleton.mp hy; exact hx, List.pairwise_singleton _ _, He.glob, He.blt⟩
  have l₄ : LcR C (ρ₁ ++ [(s₁.heap.objs.size + 1, s₁.heap.objs.size + 1)]) h' (s₁.heap.objs.size + 2) [x] [none] :=
    ⟨⟨_, hns, fun i y e => by match i, e with | 0, e => cases e | i + 1, e => cases e⟩, nM _ (by (first | lia | omega)) (by (first | lia | omega)), Nat.le_trans R₁.size (by (first | lia | omega)), rfl⟩
  have IT := (oneAcc (C := C) (env := { newEnv scope (s₁.heap.objs.size + 2) env.globals [] env.qual none .none (some env) builtinsNs with scope := scope }) (I := s₁.heap.objs.size) (a := a) (l := l) R₁.size (by show s₁.heap.objs.size + 2 ≠ _; (first | lia | omega))).ok (d := d + 1) He' (j := 0) (n := x) (pn := px) rfl
  have go : codeAny (model C.prog C.w) A (.compLoop (.ListComp elt [⟨.Name x px, iter, [], 0⟩] scope pos) 0 (.ref s₁.heap.objs.size) (.ref (s₁.heap.objs.size + 1)) { newEnv scope (s₁.heap.objs.size + 2) env.globals [] env.qual none .none (some env) builtinsNs with scope := scope })
      (fun r s' => ∃ m, s'.heap.Ns (s₁.heap.objs.size + 2) m ∧ ∀ h', Heap.SameBut (s₁.heap.objs.size + 2) s'.heap h' →
        match r with | .ok _ => Q (.ref (s₁.heap.objs.size + 1)) { s' with heap := h' } | .error x => wpAny (model C.prog C.w) A (passOn "comprehension.variables-let-go" x { newEnv scope (s₁.heap.objs.size + 2) env.globals [] env.qual none .none (some env) builtinsNs with scope := scope }) Q E { s' with heap := h' })
      { s₁ with heap := h', toks := s₁.toks + ([] : List (Str × Value)).length } := by
    refine comp_rel IT (DE _ rfl He') (den_append H HC) hA e2 R₄ l₄ ⟨⟨_, hit, rfl, rfl⟩, qq.go S₄⟩ (one_fresh (nM _ (Nat.le_refl _) (by (first | lia | omega)))) hg fun s' ρ' lc' R' S' l' => ?_
    obtain ⟨⟨m, hn, hv⟩, hm, hlo, _⟩ := l'
    refine ⟨m, hn, fun h'' hs'' => ?_⟩
    have S3 : Step C [] ρ₁ ρ' s₁.heap s'.heap := (S₄.of_nil.trans S').above fun b hb => by
      rcases List.mem_cons.mp hb with rfl | hb
      · show s₁.heap.objs.size ≤ s₁.heap.objs.size + 2; (first | lia | omega)
      · cases List.mem_singleton.mp hb; exact Nat.le_refl _
    have S5 : Step C [] ρ₁ ρ' s₁.heap h'' := (S3.of_nil.trans (stepWrite hs'')).above fun b hb => by cases List.mem_singleton.mp hb; (first | lia | omega)
    refine kk _ _ ρ' (R'.write hn hm hlo hs'') (S₁.trans S5) (.loc (p := (s₁.heap.objs.size + 1, s₁.heap.objs.size + 1)) ?_)
    obtain ⟨δ, rfl, _⟩ := S'.grow
    rw [List.getElem?_append_left (List.getElem?_eq_some_iff.mp hg).1]; exact hg
  exact codeAny_compStart_list go (wpAny_pyIter_listiter ⟨_, hit, rfl, rfl⟩ go)
end
end Mine.Internal
end
section
open PySem PySem.W PyProof.Rows PySem.Calls
namespace Mine.Internal
noncomputable def maxF : FM := fun xs σ => match xs with
  | [.int a, .int b] => some (.int (if b > a then b else a), σ)
  | _ => none
theorem den_max {C : Cfg} {d : Nat} : DenCall C d (.builtin "max") maxF := by
  intro xs σ x σ' hf A Q E s ρ vs hA R q k
  unfold maxF at hf
  split at hf
  · rename_i a b
    cases hf
    (refine x2_3 (q.cons_inv) fun v vs' rr2 q1 q0 => ?_; subst rr2)
    (refine x2_3 (q0.cons_inv) fun w vs'' rr2 q2 q00 => ?_; subst rr2)
    cases q00.nil_inv
    (refine x1_1 (q1.int_inv) fun t rr1 => ?_; subst rr1)
    (refine x1_1 (q2.int_inv) fun u rr1 => ?_; subst rr1)
    refine with_size (max_two_ints hA.1 fun h' tk kp => fun z => ?_)
    have R' : Rel C ρ σ { s with heap := h', toks := tk } := R.same kp z R.gens rfl rfl
    by_cases c : b > a
    · rw [if_pos c]
      refine k _ _ ρ R' (.same kp z) ?_
      rw [if_pos c]; exact .int _ _
    · rw [if_neg c]
      refine k _ _ ρ R' (.same kp z) ?_
      rw [if_neg c]; exact .int _ _
  · cases hf
end Mine.Internal
end
section
open PySem PySem.W PyProof.Rows PySem.Calls
namespace Mine.Internal
section
variable {C : Cfg} {d : Nat} {env : Env} {vars : List Str}
set_option tactic.hygienic false in
theorem b_max : BC C d (.builtin "max") maxF := ⟨den_max⟩
theorem b_next {genv : Addr → Env} {ex0 ex1 : Expr} {y1 p1 y2 p2 pw tp : Pos} {kk : Nat} {e0 e1 : EM} (H : NextOk C d genv ex0 ex1 y1 p1 y2 p2 pw tp kk e0 e1) (hlim : C.s₁.heap.NoLimit) (hst : ¬ C.isTab cStatics) : BC C (d + 3) (.builtin "next") (nextF e0 e1) := ⟨den_next H hlim hst⟩
set_option tactic.hygienic false in
theorem b_makeGen {f : Addr} {body : List Stmt} {scope : Scope} {closure : List (Str × Addr)} {qual : Str} {code : Value} (H : FnG C f body scope closure qual code) (hlim : C.s₁.heap.NoLimit) (hst : ¬ C.isTab cStatics)
    (hG : ∀ L, C.G L 0 (.fresh (.func body (fnEnv scope closure qual f code L)))) : BF C (d + 1) f makeGenF := ⟨den_makeGen H hlim hst hG⟩
set_option tactic.hygienic false in
theorem b_comp (H : CfgOk C) (HC : ClsOk C) (HA : AccOk C) (He : EnvB env vars) {elt iter : Expr} {x : Str} {px pos : Pos} {scope : Scope} {fsrc f : EM}
    (hfree : ∀ y ∈ scope.names, y.2 ≠ .free) (hcell : ∀ y ∈ scope.names, y.2 ≠ .cell) (hkind : scope.kind = .function) (hnames : ∀ y ∈ scope.names, y.2 = .local → scope.names.lookup y.1 = some .local) (hx : scope.names.lookup x = some .local)
    (hnd : (x == ("__debug__" : Str)) = false) (hint : ∀ cenv : Env, cenv.scope = scope → interactive cenv = false) (D : BE C (d + 1) env vars iter fsrc) (DE : ∀ cenv : Env, cenv.scope = scope → EnvB cenv [x] → BE C (d + 1) cenv [x] elt f)
    (hs : ∀ v, foldedSetIterable iter env v = pure v) : BE C (d + 1) env vars (.ListComp elt [⟨.Name x px, iter, [], 0⟩] scope pos) (compE fsrc f) :=
  ⟨den_comp H HC HA He.ok hfree hcell hkind hnames hx D.run (fun cenv hc ho => (DE cenv hc ⟨ho, fun y hy => by cases List.mem_singleton.mp hy; exact hnd, hint cenv hc⟩).run) hs⟩
end
end Mine.Internal
end
section
open PySem PySem.W PyProof.Rows PySem.Calls
namespace Mine.Internal
noncomputable def scopeInG (scope : Scope) : Bool :=
  !scope.isCoroutine && scope.isGenerator && (scope.kind == .function) && scope.names.all (fun x => !(x.2 == .cell)) && (scope.names.lookup ("self" : Str) == some .local)
structure FnGIn (C : Cfg) (f : Addr) : Prop where
  fn : isFnAt C.K f = true
  glob : (fdAt C.K f).globals = mainGlobals
  blt : (fdAt C.K f).builtins = builtinsNs
  code : codeIn C.K (fdAt C.K f).code (fdAt C.K f).qualname = true
  scope : scopeInG (fdAt C.K f).scope = true
  bind : ∀ v : Value, bindArgs (fdAt C.K f) ⟨[v], []⟩ = (pure [(("self" : Str), v)] : Sem (List (Str × Value)))
noncomputable def loopOf (body : List Stmt) (env : Env) : Code := match body with
  | [_, .While t b o _] => .whileLoop t b o env
  | _ => .func [] env
noncomputable def genG (M : Model) (body : List Stmt) (env : Addr → Env) (L : Addr) (k : Nat) (st : GenState) : Prop :=
  (k = 0 ∧ st = .fresh (.func body (env L))) ∨ (0 < k ∧ GSleep M (.func body (env L)) (loopOf body (env L)) st)
section
variable {C : Cfg} {f : Addr} {d : Nat}
set_option tactic.hygienic false in
theorem FnGIn.sc (F : FnGIn C f) : (fdAt C.K f).scope.isCoroutine = false ∧ (fdAt C.K f).scope.isGenerator = true ∧ (fdAt C.K f).scope.kind = .function ∧ (∀ x ∈ (fdAt C.K f).scope.names, x.2 ≠ .cell) ∧ (fdAt C.K f).scope.names.lookup ("self" : Str) = some .local := by
  have h := F.scope
  unfold scopeInG at h
  simp only [Bool.and_eq_true, Bool.not_eq_true', List.all_eq_true, beq_iff_eq] at h
  obtain ⟨⟨⟨⟨h1, h2⟩, h3⟩, h4⟩, h5⟩ := h
  exact ⟨h1, h2, h3, fun x hx e => by have := h4 x hx; rw [e] at this; simp at this, h5⟩
set_option tactic.hygienic false in
theorem FnGIn.ok (H : CfgOk C) (F : FnGIn C f) : FnG C f (bodyAt C.K f) (fdAt C.K f).scope (fdAt C.K f).closure (fdAt C.K f).qualname (fdAt C.K f).code := by
  (refine x1_3 (isFnAt_of F.fn) fun o e hd hbd => ?_)
  obtain ⟨cr, c, oc, ec, hc⟩ := codeIn_of H.kin F.code
  (refine x0_5 (F.sc) fun a1 a2 a3 a4 a5 => ?_)
  exact ⟨⟨o, _, H.kin _ _ e, hd, rfl, hbd, F.glob, rfl, rfl, rfl, F.blt, F.bind⟩, H.knt _ _ e, cr, fun c' hc' => by rw [ec] at hc'; cases hc'; exact H.knt _ _ hc, a1, a2, a3, a4, a5⟩
set_option tactic.hygienic false in
theorem FnGIn.inter (F : FnGIn C f) (L : Addr) : interactive (envAt C f L) = false := by
  have h : (envAt C f L).scope.kind = .function := F.sc.2.2.1
  unfold interactive
  rw [h]; rfl
set_option tactic.hygienic false in
theorem FnGIn.envB (F : FnGIn C f) (L : Addr) : EnvB (envAt C f L) ["self"] :=
  ⟨⟨F.sc.2.2.1, fun x hx => by cases List.mem_singleton.mp hx; exact F.sc.2.2.2.2, List.pairwise_singleton _ _, rfl, rfl⟩, fun x hx => by cases List.mem_singleton.mp hx; decide +kernel, F.inter L⟩
set_option tactic.hygienic false in
theorem b_gen (H : CfgOk C) (F : FnGIn C f) (hG : C.G = genG (model C.prog C.w) (bodyAt C.K f) (envAt C f)) : BF C (d + 1) f makeGenF :=
  b_makeGen (F.ok H) H.lim H.stat fun L => by rw [hG]; exact .inl ⟨rfl, rfl⟩
theorem b_nextG (H : CfgOk C) (F : FnGIn C f) (hG : C.G = genG (model C.prog C.w) (bodyAt C.K f) (envAt C f)) {ex0 ex1 : Expr} {y1 p1 y2 p2 pw tp : Pos} {kk : Nat} {e0 e1 : EM}
    (hb : bodyAt C.K f = [yieldS ex0 y1 p1, .While (.Constant (.bool true) kk tp) [yieldS ex1 y2 p2] [] pw])
    (D0 : ∀ L, EnvB (envAt C f L) ["self"] → BE C d (envAt C f L) ["self"] ex0 e0) (D1 : ∀ L, EnvB (envAt C f L) ["self"] → BE C d (envAt C f L) ["self"] ex1 e1) : BC C (d + 3) (.builtin "next") (nextF e0 e1) := by
  rw [hb] at hG
  refine b_next (genv := envAt C f) (ex0 := ex0) (ex1 := ex1) (y1 := y1) (p1 := p1) (y2 := y2) (p2 := p2) (pw := pw) (tp := tp) (kk := kk) ⟨fun L st h => ?_, fun L k st h => ?_, fun L k st h => ?_, fun L => rfl, fun L => F.sc.1, F.inter, fun L => (D0 L (F.envB L)).run, fun L => (D1 L (F.envB L)).run⟩ H.lim H.stat
  · rw [hG] at h
    rcases h with ⟨_, h⟩ | ⟨h, _⟩
    · exact h
    · exact absurd h (Nat.lt_irrefl _)
  · rw [hG] at h
    rcases h with ⟨h, _⟩ | ⟨_, h⟩
    · cases h
    · exact h
  · rw [hG]
    exact .inr ⟨Nat.succ_pos _, h⟩
end
end Mine.Internal
end
section
open PySem PySem.W PyProof.Rows PySem.Calls
namespace Mine.Internal
set_option tactic.hygienic false in
theorem partLen_nonneg (p : Str × Str) : 0 ≤ partLen p := by unfold partLen; (first | lia | omega)
set_option tactic.hygienic false in
theorem partsLen_nil : partsLen [] = 0 := rfl
set_option tactic.hygienic false in
theorem partsLen_cons (p : Str × Str) (ps : List (Str × Str)) : partsLen (p :: ps) = partLen p + partsLen ps := by simp [partsLen]
set_option tactic.hygienic false in
theorem partsLen_append (ps qs : List (Str × Str)) : partsLen (ps ++ qs) = partsLen ps + partsLen qs := by simp [partsLen]
set_option tactic.hygienic false in
theorem partsLen_nonneg (ps : List (Str × Str)) : 0 ≤ partsLen ps := by
  induction ps with
  | nil => exact Int.le_refl _
  | cons p ps ih => rw [partsLen_cons]; have := partLen_nonneg p; (first | lia | omega)
set_option tactic.hygienic false in
theorem partLen_le {p : Str × Str} {ps : List (Str × Str)} (h : p ∈ ps) : partLen p ≤ partsLen ps := by
  induction ps with
  | nil => cases h
  | cons q ps ih =>
    rw [partsLen_cons]
    have := partLen_nonneg q
    have := partsLen_nonneg ps
    rcases List.mem_cons.mp h with rfl | h
    · (first | lia | omega)
    · have := ih h; (first | lia | omega)
set_option tactic.hygienic false in
theorem accFits_of {ps : List (Str × Str)} (h1 : ps.length ≤ 1000000) (h2 : partsLen ps ≤ 1000000) : accFits ps = true := by
  unfold accFits
  simp only [Bool.and_eq_true, decide_eq_true_eq, List.all_eq_true]
  refine ⟨⟨fun p hp => ?_, h1⟩, h2⟩
  have := partLen_le hp
  unfold partLen at this
  unfold smallPart smallStr
  simp only [Bool.and_eq_true, decide_eq_true_eq]
  (first | lia | omega)
set_option tactic.hygienic false in
theorem len_line {n : Nat} (h : n ≤ 1000000) : n ≤ sizeLine := by rw [sizeLine_eq]; (first | lia | omega)
section
variable {σ : St} {a : Nat} {ini : Int} {ps : List (Str × Str)}
set_option tactic.hygienic false in
theorem push_eq {f s : Str} (h : σ[a]? = some (.acc ini ps)) (hl : ps.length ≤ 1000000) : pushF [.loc a, .str f, .str s] σ = some (.none, σ.set a (.acc ini (ps ++ [(f, s)]))) := by
  have h' : ps.length ≤ 16777216 := by (first | lia | omega)
  simp [pushF, runF, lc0, seqS, exprS, mE, nE, kind, h, evs, tupE, appendF, isPart, h', sizeLine_eq]
set_option tactic.hygienic false in
theorem pc_eq (h : σ[a]? = some (.acc ini ps)) : pcF [.loc a] σ = some (.int ps.length, σ) := by
  simp [pcF, runF, lc0, seqS, partCountS, h]
set_option tactic.hygienic false in
theorem pop_nil (h : σ[a]? = some (.acc ini [])) : popF [.loc a] σ = some (partAV ("", ""), σ) := by
  simp [popF, runF, lc0, seqS, ifS, cmpT, mE, nE, kind, h, evs, pc_eq h, cE, acmp, twoInts, isNone, aeqv, toPD, PyData.eqv, retS, tupE, partAV, sizeLine_eq]
set_option tactic.hygienic false in
theorem pop_snoc {p : Str × Str} (h : σ[a]? = some (.acc ini (ps ++ [p]))) (hl : ps.length < 1000000) : popF [.loc a] σ = some (partAV p, σ.set a (.acc ini ps)) := by
  have : ps.length + 1 ≤ sizeLine := len_line hl
  have hz : ((ps.length : Int) + 1 == 0) = false := by rw [beq_eq_false_iff_ne]; (first | lia | omega)
  simp [popF, runF, lc0, seqS, ifS, cmpT, mE, nE, kind, h, evs, pc_eq h, cE, acmp, twoInts, isNone, aeqv, toPD, PyData.eqv, popS, this, hz]
set_option tactic.hygienic false in
theorem accLen_eq (h : σ[a]? = some (.acc ini ps)) (hf : accFits ps = true) : accLenF [.loc a] σ = some (.int (ini + partsLen ps), σ) := by
  simp [accLenF, runF, lc0, seqS, accLenS, h, hf]
set_option tactic.hygienic false in
theorem accStr_eq (h : σ[a]? = some (.acc ini ps)) (hf : accFits ps = true) : accStrF [.loc a] σ = some (.str (accText ps), σ) := by
  simp [accStrF, runF, lc0, seqS, accStrS, h, hf]
set_option tactic.hygienic false in
theorem lenA_eq (h : σ[a]? = some (.acc ini ps)) (hf : accFits ps = true) (h0 : 0 ≤ ini) (h1 : ini ≤ 1000000) : lenA accLenF a σ = some (ini + partsLen ps, σ) := by
  have := partsLen_nonneg ps
  have : partsLen ps ≤ 1000000 := by unfold accFits at hf; simp only [Bool.and_eq_true, decide_eq_true_eq] at hf; exact hf.2
  unfold lenA
  rw [accLen_eq h hf]
  dsimp only
  rw [if_pos (by (first | lia | omega))]
set_option tactic.hygienic false in
theorem len_eq (h : σ[a]? = some (.acc ini ps)) (hf : accFits ps = true) (h0 : 0 ≤ ini) (h1 : ini ≤ 1000000) : lenF accLenF [.loc a] σ = some (.int (ini + partsLen ps), σ) := by
  simp [lenF, h, lenA_eq h hf h0 h1]
set_option tactic.hygienic false in
theorem str_eq {FF : FM} (h : σ[a]? = some (.acc ini ps)) (hf : accFits ps = true) : strF accStrF FF [.loc a] σ = some (.str (accText ps), σ) := by
  simp [strF, h, accStr_eq h hf]
set_option tactic.hygienic false in
theorem pick_range {α : Type} (xs : List α) (b : Nat) : ∀ m, pickL xs ((List.range m).map (b + ·)) = (xs.drop b).take m
  | 0 => by simp [pickL]
  | m + 1 => by
    have ih := pick_range xs b m
    unfold pickL at ih ⊢
    rw [List.range_succ, List.map_append, List.filterMap_append, ih, List.take_add_one, List.getElem?_drop]
    simp only [List.map_cons, List.map_nil, List.filterMap_cons, List.filterMap_nil]
    cases xs[b + m]? <;> rfl
set_option tactic.hygienic false in
theorem slice_from {α : Type} (xs : List α) (i : Nat) : sliceL xs (some (i : Int)) none = xs.drop i := by
  unfold sliceL slIdx
  rw [sliceBounds_plain]
  simp only [Option.elim, clipAt_nat]
  rw [sliceRange_one, pick_range]
  rw [List.take_of_length_le (by rw [List.length_drop]; (first | lia | omega))]
  rcases Nat.le_total i xs.length with h | h
  · rw [Nat.min_eq_left h]
  · rw [Nat.min_eq_right h, List.drop_of_length_le h, List.drop_length]
set_option tactic.hygienic false in
theorem slice_to {α : Type} (xs : List α) (i : Nat) : sliceL xs none (some (i : Int)) = xs.take i := by
  unfold sliceL slIdx
  rw [sliceBounds_plain]
  simp only [Option.elim, clipAt_nat]
  rw [sliceRange_one, pick_range, List.drop_zero]
  rcases Nat.le_total i xs.length with h | h
  · rw [Nat.min_eq_left h]; rfl
  · rw [Nat.min_eq_right h, List.take_of_length_le h, List.take_of_length_le (by (first | lia | omega))]
set_option tactic.hygienic false in
theorem setSl_from {α : Type} (xs : List α) (i : Nat) (h : i ≤ xs.length) : setSl xs [] (some (i : Int)) none = xs.take i := by
  unfold setSl slLo slHi
  rw [sliceBounds_plain]
  simp only [Option.elim, clipAt_nat, Nat.min_eq_left h]
  rw [Int.max_eq_right (Int.ofNat_le.mpr h), Int.toNat_natCast xs.length, List.drop_length]
  simp
set_option tactic.hygienic false in
theorem setSl_all {α : Type} (xs new : List α) : setSl xs new none none = new := by
  unfold setSl slLo slHi
  rw [sliceBounds_plain]
  simp only [Option.elim]
  rw [Int.max_eq_right (Int.ofNat_le.mpr (Nat.zero_le _)), Int.toNat_natCast xs.length, List.drop_length]
  simp
set_option tactic.hygienic false in
theorem partsOf_map (ps : List (Str × Str)) : partsOf (ps.map partAV) = some ps := by
  induction ps with
  | nil => rfl
  | cons p ps ih => rw [List.map_cons, partsOf, ih]; rfl
set_option tactic.hygienic false in
theorem popFrom_eq {i : Nat} (h : σ[a]? = some (.acc ini ps)) (hl : ps.length ≤ 1000000) (hi : i ≤ ps.length) : popFromF [.loc a, .int i] σ = some (.lst ((ps.drop i).map partAV), σ.set a (.acc ini (ps.take i))) := by
  have e1 : sliceL (ps.map partAV) (some (i : Int)) none = (ps.drop i).map partAV := by rw [slice_from, List.map_drop]
  simp [popFromF, runD, runB, lc0, seqS, asgS, sliceE, nE, optE, asSeq, h, hl, e1, putL, setSlS, lstE, evs, asList, partsOf, setSl_from _ _ hi, retS, sizeLine_eq]
set_option tactic.hygienic false in
theorem reset1_eq (h : σ[a]? = some (.acc ini ps)) (hl : ps.length ≤ 1000000) : resetF [.loc a] σ = some (.none, σ.set a (.acc 0 [])) := by
  have hs : ∀ x : AO, (σ.set a x)[a]? = some x := fun x => List.getElem?_set_self (List.getElem?_eq_some_iff.mp h).1
  simp [resetF, orF, runD, runB, lc0, resetB, seqS, ifS, cmpT, nE, cE, acmp, twoInts, isNone, aeqv, toPD, PyData.eqv, asgS, lstE, evs, putL, setSlS, optE, h, asList, partsOf, hl, setSl_all, iniS, sizeLine_eq, hs]
set_option tactic.hygienic false in
theorem reset2_eq {qs : List (Str × Str)} (h : σ[a]? = some (.acc ini ps)) (hl : ps.length ≤ 1000000) (hq : qs.length ≤ 1000000) : resetF [.loc a, .lst (qs.map partAV)] σ = some (.none, σ.set a (.acc 0 qs)) := by
  have hs : ∀ x : AO, (σ.set a x)[a]? = some x := fun x => List.getElem?_set_self (List.getElem?_eq_some_iff.mp h).1
  simp [resetF, orF, runD, runB, lc0, resetB, seqS, ifS, cmpT, nE, cE, acmp, twoInts, isNone, aeqv, toPD, PyData.eqv, asgS, lstE, evs, putL, setSlS, optE, h, asList, partsOf_map, hl, hq, setSl_all, iniS, sizeLine_eq, hs]
set_option tactic.hygienic false in
theorem onlyws_eq (h : σ[a]? = some (.acc ini ps)) (hf : accFits ps = true) (h0 : 0 ≤ ini) (h1 : ini ≤ 1000000) :
    onlywsF [.loc a] σ = some (.bool (ini == 0 && (partsLen ps == 0 || Txt.isspace (accText ps))), σ) := by
  have e1 := lenA_eq h hf h0 h1
  have e2 := str_eq (FF := noF) h hf
  cases hi : (ini == 0) with
  | false => simp [onlywsF, runF, lc0, seqS, retS, andE, tE, cmpT, attrE, nE, h, attrOf, fmtAttrs, cE, acmp, twoInts, isNone, aeqv, toPD, PyData.eqv, hi, atruth]
  | true =>
    have hi' : ini = 0 := eq_of_beq hi
    subst hi'
    have e1' : lenA accLenF a σ = some (partsLen ps, σ) := by simpa using e1
    cases hp : (partsLen ps == 0) with
    | true =>
      have hp' : (partsLen ps != 0) = false := by simp [bne, hp]
      simp [onlywsF, runF, lc0, seqS, retS, andE, tE, cmpT, attrE, nE, h, attrOf, fmtAttrs, cE, acmp, twoInts, isNone, aeqv, toPD, PyData.eqv, atruth, orE, notT, trA, e1', hp']
    | false =>
      have hp' : (partsLen ps != 0) = true := by simp [bne, hp]
      simp [onlywsF, runF, lc0, seqS, retS, andE, tE, cmpT, attrE, nE, h, attrOf, fmtAttrs, cE, acmp, twoInts, isNone, aeqv, toPD, PyData.eqv, atruth, orE, notT, trA, e1', hp', mE, callE, evs, e2, kind, isspaceF]
end
end Mine.Internal
end
section
open PySem PySem.W PyProof.Rows PySem.Calls
namespace Mine.Internal
section
variable {lc lc₁ lc' : Lc} {σ σ₁ σ' : St}
theorem seq_next {f : SM} {fs : List SM} (h : f lc σ = some (.next, lc₁, σ₁)) : seqS (f :: fs) lc σ = seqS fs lc₁ σ₁ := by simp [seqS, h]
set_option tactic.hygienic false in
theorem seq_ret {f : SM} {fs : List SM} {v : AV} (h : f lc σ = some (.ret v, lc₁, σ₁)) : seqS (f :: fs) lc σ = some (.ret v, lc₁, σ₁) := by simp [seqS, h]
set_option tactic.hygienic false in
theorem seq_brk {f : SM} {fs : List SM} (h : f lc σ = some (.brk, lc₁, σ₁)) : seqS (f :: fs) lc σ = some (.brk, lc₁, σ₁) := by simp [seqS, h]
set_option tactic.hygienic false in
theorem seq_cont {f : SM} {fs : List SM} (h : f lc σ = some (.cont, lc₁, σ₁)) : seqS (f :: fs) lc σ = some (.cont, lc₁, σ₁) := by simp [seqS, h]
theorem seq_app {ys : List SM} : ∀ {xs : List SM} {lc : Lc} {σ : St}, seqS xs lc σ = some (.next, lc₁, σ₁) → seqS (xs ++ ys) lc σ = seqS ys lc₁ σ₁
  | [], lc, σ, h => by cases h; rfl
  | f :: fs, lc, σ, h => by
    unfold seqS at h
    split at h
    · rename_i lc₂ σ₂ e
      rw [List.cons_append, seq_next e]
      exact seq_app h
    · rename_i fl lc₂ σ₂ hne e
      (refine c3 h fun hh0 hh1 hh2 => ?_; clear h; subst hh0; subst hh1; subst hh2)
      first | exact (hne rfl).elim | exact (hne _ _ rfl).elim | exact (hne _ rfl).elim
    · exact ns h
theorem seq_nil : seqS [] lc σ = some (.next, lc, σ) := rfl
set_option tactic.hygienic false in
theorem if_t {t : TM} {f g : SM} (h : t lc σ = some (true, σ₁)) : ifS t f g lc σ = f lc σ₁ := by simp [ifS, h]
set_option tactic.hygienic false in
theorem if_f {t : TM} {f g : SM} (h : t lc σ = some (false, σ₁)) : ifS t f g lc σ = g lc σ₁ := by simp [ifS, h]
theorem run_next {vars : List Str} {n : Nat} {B : SM} {xs : List AV} (hn : xs.length = n) (h : B (lc0 vars xs) σ = some (.next, lc', σ')) : runF vars n B xs σ = some (.none, σ') := by simp [runF, hn, h]
set_option tactic.hygienic false in
theorem run_ret {vars : List Str} {n : Nat} {B : SM} {xs : List AV} {v : AV} (hn : xs.length = n) (h : B (lc0 vars xs) σ = some (.ret v, lc', σ')) : runF vars n B xs σ = some (v, σ') := by simp [runF, hn, h]
theorem expr_of {f : EM} {v : AV} (h : f lc σ = some (v, σ₁)) : exprS f lc σ = some (.next, lc, σ₁) := by simp [exprS, h]
theorem asg_of {i : Nat} {f : EM} {v : AV} (h : f lc σ = some (v, σ₁)) (hi : i < lc.length) : asgS i f lc σ = some (.next, lc.set i (some v), σ₁) := by simp [asgS, h, putL, hi]
end
structure FmtAt (σ : St) (m ln ac : Nat) (ml : Int) (cw : Str) (cwl : Int) (sp : Str) (rows : List Str) (ini : Int) (ps : List (Str × Str)) : Prop where
  fm : σ[m]? = some (.fmt ml cw cwl sp ln ac)
  li : σ[ln]? = some (.list (rows.map AV.str))
  acc : σ[ac]? = some (.acc ini ps)
noncomputable def Same (X : List Nat) (σ σ' : St) : Prop := σ.length ≤ σ'.length ∧ ∀ k, k ∉ X → k < σ.length → σ'[k]? = σ[k]?
set_option tactic.hygienic false in
theorem Same.refl {X : List Nat} {σ : St} : Same X σ σ := ⟨Nat.le_refl _, fun uu uu uu => rfl⟩
set_option tactic.hygienic false in
theorem Same.trans {X : List Nat} {σ σ₁ σ₂ : St} (a : Same X σ σ₁) (b : Same X σ₁ σ₂) : Same X σ σ₂ := ⟨Nat.le_trans a.1 b.1, fun k hk hl => (b.2 k hk (Nat.lt_of_lt_of_le hl a.1)).trans (a.2 k hk hl)⟩
set_option tactic.hygienic false in
theorem Same.set {X : List Nat} {σ : St} {k : Nat} {o : AO} (h : k ∈ X) : Same X σ (σ.set k o) := ⟨by simp, fun j hj uu => by
  rw [List.getElem?_set_ne]
  rintro rfl
  exact hj h⟩
set_option tactic.hygienic false in
theorem Same.app {X : List Nat} {σ : St} (δ : St) : Same X σ (σ ++ δ) := ⟨by simp, fun j uu hl => List.getElem?_append_left hl⟩
set_option tactic.hygienic false in
theorem Same.get {X : List Nat} {σ σ' : St} (a : Same X σ σ') {k : Nat} {o : AO} (hk : k ∉ X) (h : σ[k]? = some o) : σ'[k]? = some o := (a.2 k hk (List.getElem?_eq_some_iff.mp h).1).trans h
section
variable {σ : St} {m ln ac : Nat} {ml : Int} {cw : Str} {cwl : Int} {sp : Str} {rows : List Str} {ini : Int} {ps : List (Str × Str)} {lc : Lc}
set_option tactic.hygienic false in
theorem FmtAt.ne1 (F : FmtAt σ m ln ac ml cw cwl sp rows ini ps) : m ≠ ln := by rintro rfl; have := F.fm; rw [F.li] at this; cases this
set_option tactic.hygienic false in
theorem FmtAt.ne2 (F : FmtAt σ m ln ac ml cw cwl sp rows ini ps) : m ≠ ac := by rintro rfl; have := F.fm; rw [F.acc] at this; cases this
set_option tactic.hygienic false in
theorem FmtAt.ne3 (F : FmtAt σ m ln ac ml cw cwl sp rows ini ps) : ln ≠ ac := by rintro rfl; have := F.li; rw [F.acc] at this; cases this
set_option tactic.hygienic false in
theorem FmtAt.setAcc (F : FmtAt σ m ln ac ml cw cwl sp rows ini ps) (i : Int) (qs : List (Str × Str)) : FmtAt (σ.set ac (.acc i qs)) m ln ac ml cw cwl sp rows i qs :=
  ⟨by rw [List.getElem?_set_ne F.ne2.symm]; exact F.fm, by rw [List.getElem?_set_ne F.ne3.symm]; exact F.li, by rw [List.getElem?_set_self (List.getElem?_eq_some_iff.mp F.acc).1]⟩
set_option tactic.hygienic false in
theorem FmtAt.setLi (F : FmtAt σ m ln ac ml cw cwl sp rows ini ps) (rs : List Str) : FmtAt (σ.set ln (.list (rs.map AV.str))) m ln ac ml cw cwl sp rs ini ps :=
  ⟨by rw [List.getElem?_set_ne F.ne1.symm]; exact F.fm, by rw [List.getElem?_set_self (List.getElem?_eq_some_iff.mp F.li).1], by rw [List.getElem?_set_ne F.ne3]; exact F.acc⟩
set_option tactic.hygienic false in
theorem FmtAt.keep {σ' : St} {X : List Nat} (F : FmtAt σ m ln ac ml cw cwl sp rows ini ps) (S : Same X σ σ') (h1 : m ∉ X) (h2 : ln ∉ X) (h3 : ac ∉ X) : FmtAt σ' m ln ac ml cw cwl sp rows ini ps := ⟨S.get h1 F.fm, S.get h2 F.li, S.get h3 F.acc⟩
set_option tactic.hygienic false in
theorem line_eq (h0 : lc[0]? = some (some (.loc m))) (F : FmtAt σ m ln ac ml cw cwl sp rows ini ps) : lineE lc σ = some (.loc ac, σ) := by simp [lineE, attrE, nE, h0, F.fm, attrOf, fmtAttrs]
set_option tactic.hygienic false in
theorem lines_eq (h0 : lc[0]? = some (some (.loc m))) (F : FmtAt σ m ln ac ml cw cwl sp rows ini ps) : linesE lc σ = some (.loc ln, σ) := by simp [linesE, attrE, nE, h0, F.fm, attrOf, fmtAttrs]
set_option tactic.hygienic false in
theorem attrLines {f : EM} (hf : f lc σ = some (.loc m, σ)) (F : FmtAt σ m ln ac ml cw cwl sp rows ini ps) : attrE 4 f lc σ = some (.loc ln, σ) := by simp [attrE, hf, F.fm, attrOf, fmtAttrs]
set_option tactic.hygienic false in
theorem attrAcc {f : EM} (hf : f lc σ = some (.loc m, σ)) (F : FmtAt σ m ln ac ml cw cwl sp rows ini ps) : attrE 5 f lc σ = some (.loc ac, σ) := by simp [attrE, hf, F.fm, attrOf, fmtAttrs]
set_option tactic.hygienic false in
theorem mLine (h0 : lc[0]? = some (some (.loc m))) (F : FmtAt σ m ln ac ml cw cwl sp rows ini ps) {G : FM} {fs : List EM} {xs : List AV} (hf : evs fs lc σ = some (xs, σ)) : mE 4 G lineE fs lc σ = G (.loc ac :: xs) σ := by
  simp [mE, line_eq h0 F, kind, F.acc, hf]
set_option tactic.hygienic false in
theorem strAcc_eq (h0 : lc[0]? = some (some (.loc m))) (F : FmtAt σ m ln ac ml cw cwl sp rows ini ps) (hf : accFits ps = true) : strAcc lc σ = some (.str (accText ps), σ) := by
  simp [strAcc, callE, evs, line_eq h0 F, str_eq F.acc hf]
set_option tactic.hygienic false in
theorem append_rows (h0 : lc[0]? = some (some (.loc m))) (F : FmtAt σ m ln ac ml cw cwl sp rows ini ps) (hf : accFits ps = true) (hr : rows.length ≤ 1000000) :
    mE 2 appendF linesE [strAcc] lc σ = some (.none, σ.set ln (.list ((rows ++ [accText ps]).map AV.str))) := by
  have h' : rows.length ≤ 16777216 := by (first | lia | omega)
  simp [mE, lines_eq h0 F, kind, F.li, evs, strAcc_eq h0 F hf, appendF, sizeLine_eq, h']
end
noncomputable def lastSp (ps : List (Str × Str)) : List (Str × Str) := if ps = [] then [("", "")] else if ps.getLast? = some ((" " : Str), ("" : Str)) then ps.dropLast else ps
noncomputable def onlySp (ini : Int) (ps : List (Str × Str)) : Bool := ini == 0 && (partsLen ps == 0 || Txt.isspace (accText ps))
noncomputable def nlRows (rows : List Str) (ini : Int) (ps : List (Str × Str)) : List Str :=
  if 0 < ini + partsLen (lastSp ps) then (if onlySp ini (lastSp ps) && !rows.isEmpty then rows.dropLast ++ [(rows.getLast?.getD "") ++ accText (lastSp ps)] else rows ++ [accText (lastSp ps)]) else rows
set_option tactic.hygienic false in
theorem cmp_part (σ : St) (a b : Str) : acmp σ .NotEq (partAV (a, b)) (.tup [.str " ", .str ""]) = some ((a, b) != ((" " : Str), ("" : Str))) := by
  simp [acmp, twoInts, isNone, partAV, aeqv, toPD, optAll, PyData.eqv, PyData.eqvAll, bne]
  show _ = !((a == (" " : Str)) && (b == ("" : Str)))
  rw [Bool.not_and]
section
variable {σ : St} {m ln ac : Nat} {ml : Int} {cw : Str} {cwl : Int} {sp : Str} {rows : List Str} {ini : Int} {ps : List (Str × Str)} {lc : Lc}
structure Fits (rows : List Str) (ini : Int) (ps : List (Str × Str)) : Prop where
  r : rows.length ≤ 100000
  t : (rows.map (·.length)).sum ≤ 100000
  p : ps.length ≤ 100000
  l : partsLen ps ≤ 100000
  i0 : 0 ≤ ini
  i1 : ini ≤ 100000
set_option tactic.hygienic false in
theorem Fits.acc (H : Fits rows ini ps) : accFits ps = true := accFits_of (by have := H.p; (first | lia | omega)) (by have := H.l; (first | lia | omega))
set_option tactic.hygienic false in
theorem partsLen_dropLast (ps : List (Str × Str)) : partsLen ps.dropLast ≤ partsLen ps := by
  induction ps with
  | nil => exact Int.le_refl _
  | cons p ps ih =>
    cases ps with
    | nil => rw [List.dropLast_singleton, partsLen_cons]; have := partLen_nonneg p; simp [partsLen_nil]; (first | lia | omega)
    | cons q qs => rw [List.dropLast_cons_cons, partsLen_cons, partsLen_cons p (q :: qs)]; (first | lia | omega)
set_option tactic.hygienic false in
theorem Fits.last (H : Fits rows ini ps) : Fits rows ini (lastSp ps) := by
  unfold lastSp
  split
  · exact ⟨H.r, H.t, by simp, by simp [partsLen, partLen]; decide, H.i0, H.i1⟩
  · split
    · exact ⟨H.r, H.t, by rw [List.length_dropLast]; have := H.p; (first | lia | omega), Int.le_trans (partsLen_dropLast ps) H.l, H.i0, H.i1⟩
    · exact H
theorem pop_push (F : FmtAt σ m ln ac ml cw cwl sp rows ini ps) (H : Fits rows ini ps) (lc : Lc) (h0 : lc[0]? = some (some (.loc m))) (hl : lc.length = 2) :
    ∃ σ' lc', seqS [asgS 1 (mE 4 popF lineE []), ifS (cmpT .NotEq (nE 1) (tupE [cE (.str " "), cE (.str "")])) (seqS [exprS (mStarE pushF lineE (nE 1))]) (seqS [])] lc σ = some (.next, lc', σ') ∧ FmtAt σ' m ln ac ml cw cwl sp rows ini (lastSp ps) ∧ Same [ac] σ σ' ∧ lc'[0]? = some (some (.loc m)) ∧ σ'.length = σ.length := by
  obtain ⟨x, y, rfl⟩ : ∃ x y, lc = [x, y] := by
    match lc, hl with
    | [x, y], _ => exact ⟨x, y, rfl⟩
  simp at h0
  subst h0
  have pz := H.p
  rcases List.eq_nil_or_concat ps with rfl | ⟨qs, p, rfl⟩
  · have e1 : asgS 1 (mE 4 popF lineE []) [some (.loc m), y] σ = some (.next, [some (.loc m), some (partAV ("", ""))], σ) := by
      rw [asg_of (v := partAV ("", "")) (σ₁ := σ) (by rw [mLine (fs := []) (xs := []) rfl F rfl, pop_nil F.acc]) (by simp)]; rfl
    have e2 : pushF [.loc ac, .str "", .str ""] σ = some (.none, σ.set ac (.acc ini [("", "")])) := push_eq F.acc (by simp)
    refine ⟨σ.set ac (.acc ini [("", "")]), [some (.loc m), some (partAV ("", ""))], ?_, ?_, .set (by simp), rfl, by simp⟩
    · rw [seq_next e1, seq_next (lc₁ := [some (.loc m), some (partAV ("", ""))]) (σ₁ := σ.set ac (.acc ini [("", "")])), seq_nil]
      rw [if_t (σ₁ := σ)]
      · rw [seq_next (lc₁ := [some (.loc m), some (partAV ("", ""))]) (σ₁ := σ.set ac (.acc ini [("", "")])), seq_nil]
        refine expr_of (v := .none) ?_
        simp only [mStarE, line_eq (lc := [some (.loc m), some (partAV ("", ""))]) rfl F, kind, F.acc]
        simp [nE, partAV, e2]
      · simp [cmpT, nE, tupE, evs, cE, sizeLine_eq, cmp_part]
        decide
    · exact F.setAcc _ _
  · rw [List.concat_eq_append] at F H ⊢
    have hq : qs.length < 100000 := by have := H.p; simp at this; (first | lia | omega)
    have e1 : asgS 1 (mE 4 popF lineE []) [some (.loc m), y] σ = some (.next, [some (.loc m), some (partAV p)], σ.set ac (.acc ini qs)) := by
      rw [asg_of (v := partAV p) (σ₁ := σ.set ac (.acc ini qs)) (by rw [mLine (fs := []) (xs := []) rfl F rfl, pop_snoc F.acc (by (first | lia | omega))]) (by simp)]; rfl
    have F1 := F.setAcc ini qs
    by_cases hp : p = ((" " : Str), ("" : Str))
    · subst hp
      refine ⟨σ.set ac (.acc ini qs), [some (.loc m), some (partAV (" ", ""))], ?_, ?_, .set (by simp), rfl, by simp⟩
      · rw [seq_next e1, seq_next (lc₁ := [some (.loc m), some (partAV (" ", ""))]) (σ₁ := σ.set ac (.acc ini qs)), seq_nil]
        rw [if_f (σ₁ := σ.set ac (.acc ini qs)), seq_nil]
        simp [cmpT, nE, tupE, evs, cE, sizeLine_eq, cmp_part]
      · have : lastSp (qs ++ [((" " : Str), ("" : Str))]) = qs := by simp [lastSp]
        rw [this]; exact F1
    · obtain ⟨f, t⟩ := p
      have e2 : pushF [.loc ac, .str f, .str t] (σ.set ac (.acc ini qs)) = some (.none, (σ.set ac (.acc ini qs)).set ac (.acc ini (qs ++ [(f, t)]))) := push_eq F1.acc (by (first | lia | omega))
      refine ⟨(σ.set ac (.acc ini qs)).set ac (.acc ini (qs ++ [(f, t)])), [some (.loc m), some (partAV (f, t))], ?_, ?_, (Same.set (by simp)).trans (.set (by simp)), rfl, by simp⟩
      · rw [seq_next e1, seq_next (lc₁ := [some (.loc m), some (partAV (f, t))]) (σ₁ := (σ.set ac (.acc ini qs)).set ac (.acc ini (qs ++ [(f, t)]))), seq_nil]
        rw [if_t (σ₁ := σ.set ac (.acc ini qs))]
        · rw [seq_next (lc₁ := [some (.loc m), some (partAV (f, t))]) (σ₁ := (σ.set ac (.acc ini qs)).set ac (.acc ini (qs ++ [(f, t)]))), seq_nil]
          refine expr_of (v := .none) ?_
          simp only [mStarE, line_eq (lc := [some (.loc m), some (partAV (f, t))]) rfl F1, kind, F1.acc]
          simp only [nE, partAV, List.getElem?_cons_succ, List.getElem?_cons_zero]
          simp [e2]
        · have : ((f, t) != ((" " : Str), ("" : Str))) = true := by simpa [bne_iff_ne] using hp
          simp [cmpT, nE, tupE, evs, cE, sizeLine_eq, cmp_part, this]
      · have : lastSp (qs ++ [(f, t)]) = qs ++ [(f, t)] := by
          unfold lastSp
          rw [if_neg (by simp), if_neg]
          simpa using hp
        rw [this]; exact F1.setAcc _ _
set_option tactic.hygienic false in
theorem onlyE_eq (h0 : lc[0]? = some (some (.loc m))) (F : FmtAt σ m ln ac ml cw cwl sp rows ini ps) (H : Fits rows ini ps) : trT (mE 4 onlywsF lineE []) lc σ = some (onlySp ini ps, σ) := by
  have e := onlyws_eq F.acc H.acc H.i0 (by have := H.i1; (first | lia | omega))
  simp [trT, mLine (fs := []) (xs := []) h0 F rfl, e, atruth, onlySp]
set_option tactic.hygienic false in
theorem rowsT_eq (h0 : lc[0]? = some (some (.loc m))) (F : FmtAt σ m ln ac ml cw cwl sp rows ini ps) (H : Fits rows ini ps) : trT linesE lc σ = some (!rows.isEmpty, σ) := by
  have : rows.length ≤ 16777216 := by have := H.r; (first | lia | omega)
  simp [trT, lines_eq h0 F, atruth, asList, F.li, sizeLine_eq, this]
set_option tactic.hygienic false in
theorem lenLine_eq (h0 : lc[0]? = some (some (.loc m))) (F : FmtAt σ m ln ac ml cw cwl sp rows ini ps) (H : Fits rows ini ps) : callE (lenF accLenF) [lineE] lc σ = some (.int (ini + partsLen ps), σ) := by
  simp [callE, evs, line_eq h0 F, len_eq F.acc H.acc H.i0 (show ini ≤ 1000000 by have := H.i1; (first | lia | omega))]
set_option tactic.hygienic false in
theorem str_len_eq (x y : Str) : (x ++ y).length = x.length + y.length := by
  show (x ++ y).cps.size = _
  rw [Str.cps_append, Array.size_append]
  rfl
set_option tactic.hygienic false in
theorem fold_cps (xs : List Str) : ∀ acc : Array Nat, (xs.foldl (fun acc p => acc ++ ("" : Str).cps ++ p.cps) acc).toList = acc.toList ++ (xs.map (·.cps.toList)).flatten := by
  induction xs with
  | nil => intro acc; simp
  | cons x xs ih =>
    intro acc
    rw [List.foldl_cons, ih]
    have : ("" : Str).cps = #[] := by decide
    simp [this]
set_option tactic.hygienic false in
theorem join_cps (xs : List Str) : (Txt.join "" xs).cps.toList = (xs.map (·.cps.toList)).flatten := by
  cases xs with
  | nil => rfl
  | cons x xs =>
    show (xs.foldl (fun acc p => acc ++ ("" : Str).cps ++ p.cps) x.cps).toList = _
    rw [fold_cps]; simp
set_option tactic.hygienic false in
theorem str_ext {x y : Str} (h : x.cps.toList = y.cps.toList) : x = y := by
  cases x; cases y
  simp at h
  simp [h]
set_option tactic.hygienic false in
theorem app_cps (x y : Str) : (x ++ y).cps.toList = x.cps.toList ++ y.cps.toList := by rw [Str.cps_append, Array.toList_append]
set_option tactic.hygienic false in
theorem join_cons (x : Str) (xs : List Str) : Txt.join "" (x :: xs) = x ++ Txt.join "" xs := str_ext (by rw [join_cps, app_cps, join_cps]; simp)
set_option tactic.hygienic false in
theorem accText_cons (p : Str × Str) (ps : List (Str × Str)) : accText (p :: ps) = partStr p ++ accText ps := by unfold accText; rw [List.map_cons, join_cons]
set_option tactic.hygienic false in
theorem accText_len (ps : List (Str × Str)) : ((accText ps).length : Int) = partsLen ps := by
  induction ps with
  | nil => rfl
  | cons p ps ih => rw [accText_cons, str_len_eq, partsLen_cons, Int.natCast_add, ih, partStr_len]
theorem glue_row (h0 : lc[0]? = some (some (.loc m))) (F : FmtAt σ m ln ac ml cw cwl sp rows ini ps) (H : Fits rows ini ps) (hr : rows ≠ []) :
    augIdxS linesE (negE (cE (.int 1))) .Add strAcc lc σ = some (.next, lc, σ.set ln (.list ((rows.dropLast ++ [(rows.getLast?.getD "") ++ accText ps]).map AV.str))) := by
  obtain ⟨rs, r, rfl⟩ : ∃ rs r, rows = rs ++ [r] := by
    rcases List.eq_nil_or_concat rows with h | ⟨rs, r, h⟩
    · exact absurd h hr
    · exact ⟨rs, r, by rw [h, List.concat_eq_append]⟩
  have hn := H.r
  rw [List.length_append, List.length_singleton] at hn
  have ht := H.t
  rw [List.map_append, List.sum_append] at ht
  simp at ht
  have e1 : seqIndex? (-1) (rs.length + 1) = some rs.length := sidx_last (Nat.succ_pos _)
  have e2 : (accText ps).length ≤ 100000 := by have := accText_len ps; have := H.l; (first | lia | omega)
  have e3 : r.length + (accText ps).length ≤ 1000000 := by (first | lia | omega)
  simp [augIdxS, lines_eq h0 F, negE, cE, aget, asSeq, F.li, e1, strAcc_eq h0 F H.acc, ainp, e3]
theorem newline_spec (F : FmtAt σ m ln ac ml cw cwl sp rows ini ps) (H : Fits rows ini ps) : ∃ σ', newlineF [.loc m] σ = some (.none, σ') ∧ FmtAt σ' m ln ac ml cw cwl sp (nlRows rows ini ps) 0 [] ∧ Same [ln, ac] σ σ' ∧ σ'.length = σ.length := by
  (refine x2_5 (pop_push F H (lc0 ["self", "end_of_line"] [.loc m]) rfl rfl) fun σ₁ lc₁ e1 F1 S1 h1 z1 => ?_)
  have H1 := H.last
  have S1' : Same [ln, ac] σ σ₁ := ⟨S1.1, fun k hk => S1.2 k (by simp at hk ⊢; exact hk.2)⟩
  have fin : ∀ {σ₂ : St} {rs : List Str} {i : Int} {qs : List (Str × Str)}, FmtAt σ₂ m ln ac ml cw cwl sp rs i qs → qs.length ≤ 1000000 → exprS (mE 4 resetF lineE []) lc₁ σ₂ = some (.next, lc₁, σ₂.set ac (.acc 0 [])) := fun G hq => expr_of (v := .none) (by rw [mLine (fs := []) (xs := []) h1 G rfl, reset1_eq G.acc hq])
  have hq : (lastSp ps).length ≤ 1000000 := by have := H1.p; (first | lia | omega)
  have go : ∀ {σ₂ : St} {rs : List Str}, ifS (cmpT .Gt (callE (lenF accLenF) [lineE]) (cE (.int 0)))
    (seqS [ifS (andT [trT (mE 4 onlywsF lineE []), trT linesE])
      (seqS [augIdxS linesE (negE (cE (.int 1))) .Add strAcc])
      (seqS [exprS (mE 2 appendF linesE [strAcc])])]) (seqS []) lc₁ σ₁ = some (.next, lc₁, σ₂) → FmtAt σ₂ m ln ac ml cw cwl sp rs ini (lastSp ps) → Same [ln, ac] σ₁ σ₂ → σ₂.length = σ₁.length → nlRows rows ini ps = rs →
      ∃ σ', newlineF [.loc m] σ = some (.none, σ') ∧ FmtAt σ' m ln ac ml cw cwl sp (nlRows rows ini ps) 0 [] ∧ Same [ln, ac] σ σ' ∧ σ'.length = σ.length := by
    intro σ₂ rs e2 F2 S2 z2 hr
    refine ⟨σ₂.set ac (.acc 0 []), ?_, ?_, (S1'.trans S2).trans (.set (by simp)), by simp [z2, z1]⟩
    · refine run_next (lc' := lc₁) rfl ?_
      have : newlineB (lc0 ["self", "end_of_line"] [.loc m]) σ = seqS [ifS (cmpT .Gt (callE (lenF accLenF) [lineE]) (cE (.int 0)))
          (seqS [ifS (andT [trT (mE 4 onlywsF lineE []), trT linesE])
            (seqS [augIdxS linesE (negE (cE (.int 1))) .Add strAcc])
            (seqS [exprS (mE 2 appendF linesE [strAcc])])]) (seqS []), exprS (mE 4 resetF lineE [])] lc₁ σ₁ := by
        exact seq_app e1
      rw [this, seq_next e2, seq_next (fin F2 hq), seq_nil]
    · rw [hr]; exact F2.setAcc 0 []
  have eL := lenLine_eq h1 F1 H1
  by_cases hpos : 0 < ini + partsLen (lastSp ps)
  · have t1 : cmpT .Gt (callE (lenF accLenF) [lineE]) (cE (.int 0)) lc₁ σ₁ = some (true, σ₁) := by simp [cmpT, eL, cE, acmp, twoInts, isNone, aeqv, toPD, PyData.eqv, hpos]
    by_cases hg : (onlySp ini (lastSp ps) && !rows.isEmpty) = true
    · have hne : rows ≠ [] := by rintro rfl; simp at hg
      refine go (rs := rows.dropLast ++ [(rows.getLast?.getD "") ++ accText (lastSp ps)]) ?_ (F1.setLi _) (.set (by simp)) (by simp) (by unfold nlRows; rw [if_pos hpos, if_pos hg])
      rw [if_t t1, seq_next (lc₁ := lc₁) (σ₁ := σ₁.set ln (.list ((rows.dropLast ++ [(rows.getLast?.getD "") ++ accText (lastSp ps)]).map AV.str))), seq_nil]
      rw [if_t (σ₁ := σ₁), seq_next (glue_row h1 F1 H1 hne), seq_nil]
      rw [Bool.and_eq_true] at hg
      simp only [andT, onlyE_eq h1 F1 H1, rowsT_eq h1 F1 H1, hg.1, hg.2]
    · refine go (rs := rows ++ [accText (lastSp ps)]) ?_ (F1.setLi _) (.set (by simp)) (by simp) (by unfold nlRows; rw [if_pos hpos, if_neg hg])
      rw [if_t t1, seq_next (lc₁ := lc₁) (σ₁ := σ₁.set ln (.list ((rows ++ [accText (lastSp ps)]).map AV.str))), seq_nil]
      rw [if_f (σ₁ := σ₁), seq_next (expr_of (append_rows h1 F1 H1.acc (by have := H.r; (first | lia | omega)))), seq_nil]
      simp only [andT, onlyE_eq h1 F1 H1, rowsT_eq h1 F1 H1]
      cases h3 : onlySp ini (lastSp ps) with
      | false => rfl
      | true =>
        dsimp only
        rw [rowsT_eq h1 F1 H1]
        cases h4 : rows.isEmpty with
        | true => rfl
        | false => rw [h3, h4] at hg; exact absurd rfl hg
  · refine go (rs := rows) ?_ F1 .refl rfl (by unfold nlRows; rw [if_neg hpos])
    rw [if_f (σ₁ := σ₁), seq_nil]
    simp [cmpT, eL, cE, acmp, twoInts, isNone, aeqv, toPD, PyData.eqv, hpos]
end
end Mine.Internal
end
section
open PySem PySem.W PyProof.Rows PySem.Calls
namespace Mine.Internal
noncomputable def startsC (x : Str) (c : Nat) : Bool := x.cps[0]? == some c
noncomputable def endsC (x : Str) (c : Nat) : Bool := x.cps[x.cps.size - 1]? == some c
noncomputable def fstAt (ps : List (Str × Str)) (i : Nat) : Str := (ps[i]?.map (·.1)).getD ""
noncomputable def sndAt (ps : List (Str × Str)) (i : Nat) : Str := (ps[i]?.map (·.2)).getD ""
noncomputable def hitAt (ps : List (Str × Str)) (c i : Nat) : Bool := (Txt.isspace ⟨#[c]⟩ && startsC (fstAt ps i) c) || endsC (sndAt ps (i - 1)) c
noncomputable def seekI (ps : List (Str × Str)) (c : Nat) : Nat → Option Nat
  | 0 => none
  | i + 1 => if hitAt ps c (i + 1) then some (i + 1) else seekI ps c i
noncomputable def seek (ps : List (Str × Str)) : List Nat → Option Nat
  | [] => none
  | c :: r => match seekI ps c (ps.length - 1) with
    | some i => some i
    | none => seek ps r
set_option tactic.hygienic false in
theorem rangeDown (n : Nat) : Builtin.Range.rangeSize (n : Int) 0 (-1) = n := by
  unfold Builtin.Range.rangeSize
  simp
  try (first | lia | omega)
set_option tactic.hygienic false in
theorem sgn_beq (a b : Nat) : ((⟨#[a]⟩ : Str) == ⟨#[b]⟩) = (a == b) := by
  rw [Bool.eq_iff_iff, beq_iff_eq, beq_iff_eq]
  simp
section
variable {σ : St} {m ln ac : Nat} {ml : Int} {cw : Str} {cwl : Int} {sp : Str} {rows : List Str} {ini : Int} {ps : List (Str × Str)} {lc : Lc}
set_option tactic.hygienic false in
theorem aget_part {i : Nat} {p : Str × Str} (h : σ[ac]? = some (.acc ini ps)) (hp : ps[i]? = some p) (hl : ps.length ≤ 100000) : aget σ (.loc ac) (i : Int) = some (partAV p) := by
  have hi := (List.getElem?_eq_some_iff.mp hp).1
  have e : seqIndex? (i : Int) ps.length = some i := sidx hi
  unfold aget
  rw [if_pos (by (first | lia | omega))]
  simp [asSeq, h, e, hp]
set_option tactic.hygienic false in
theorem startsT_eq {i : Nat} {x : Str} {c j : Nat} (h1 : lc[i]? = some (some (.str x))) (h3 : lc[j]? = some (some (signAV c))) (hx : x.length ≤ 100000) :
    andT [trT (nE i), cmpT .Eq (idxE (nE i) (cE (.int 0))) (nE j)] lc σ = some (startsC x c, σ) := by
  have hz : x.length ≤ 16777216 := by (first | lia | omega)
  unfold startsC
  cases hx0 : x.cps[0]? with
  | none =>
    have : x.cps.size = 0 := by
      rcases Nat.eq_zero_or_pos x.cps.size with h | h
      · exact h
      · rw [Array.getElem?_eq_getElem h] at hx0; cases hx0
    have e : ((x.length : Int) != 0) = false := by
      have : x.length = 0 := this
      simp [this]
    simp [andT, trT, nE, h1, atruth, sizeLine_eq, hz, e]
  | some a =>
    have hpos : 0 < x.cps.size := (Array.getElem?_eq_some_iff.mp hx0).1
    have e : ((x.length : Int) != 0) = true := by
      have : 0 < x.length := hpos
      rw [bne_iff_ne]; (first | lia | omega)
    have e2 : seqIndex? 0 x.length = some 0 := sidx (k := 0) hpos
    simp [andT, trT, nE, h1, atruth, sizeLine_eq, hz, e, cmpT, idxE, cE, aget, e2, hx0, h3, signAV, acmp, twoInts, isNone, aeqv, toPD, PyData.eqv, sgn_beq]
    cases a == c <;> rfl
set_option tactic.hygienic false in
theorem endsT_eq {i : Nat} {x : Str} {c j : Nat} (h1 : lc[i]? = some (some (.str x))) (h3 : lc[j]? = some (some (signAV c))) (hx : x.length ≤ 100000) :
    andT [trT (nE i), cmpT .Eq (idxE (nE i) (negE (cE (.int 1)))) (nE j)] lc σ = some (endsC x c, σ) := by
  have hz : x.length ≤ 16777216 := by (first | lia | omega)
  unfold endsC
  cases hx0 : x.cps[x.cps.size - 1]? with
  | none =>
    have : x.cps.size = 0 := by
      rcases Nat.eq_zero_or_pos x.cps.size with h | h
      · exact h
      · rw [Array.getElem?_eq_getElem (by (first | lia | omega))] at hx0; cases hx0
    have e : ((x.length : Int) != 0) = false := by
      have : x.length = 0 := this
      simp [this]
    simp [andT, trT, nE, h1, atruth, sizeLine_eq, hz, e]
  | some a =>
    have hpos : 0 < x.cps.size := by have := (Array.getElem?_eq_some_iff.mp hx0).1; (first | lia | omega)
    have e : ((x.length : Int) != 0) = true := by
      have : 0 < x.length := hpos
      rw [bne_iff_ne]; (first | lia | omega)
    have e2 : seqIndex? (-1) x.length = some (x.cps.size - 1) := sidx_last hpos
    simp [andT, trT, nE, h1, atruth, sizeLine_eq, hz, e, cmpT, idxE, cE, negE, aget, e2, hx0, h3, signAV, acmp, twoInts, isNone, aeqv, toPD, PyData.eqv, sgn_beq]
    cases a == c <;> rfl
set_option tactic.hygienic false in
theorem part_small {p : Str × Str} (H : Fits rows ini ps) (h : p ∈ ps) : p.1.length ≤ 100000 ∧ p.2.length ≤ 100000 := by
  have := partLen_le h
  have := H.l
  unfold partLen at *
  (first | lia | omega)
set_option tactic.hygienic false in
theorem fst_eq {i : Nat} (h0 : lc[0]? = some (some (.loc m))) (h4 : lc[4]? = some (some (.int (i : Int)))) (F : FmtAt σ m ln ac ml cw cwl sp rows ini ps) (H : Fits rows ini ps) (hi : i < ps.length) :
    idxE (idxE lineE (nE 4)) (cE (.int 0)) lc σ = some (.str (fstAt ps i), σ) := by
  have e1 := aget_part F.acc (List.getElem?_eq_getElem hi) H.p
  have e2 : seqIndex? 0 2 = some 0 := by decide
  simp only [idxE, line_eq h0 F, nE, h4, e1, Option.map_some, cE]
  simp [aget, partAV, e2, fstAt, List.getElem?_eq_getElem hi]
set_option tactic.hygienic false in
theorem snd_eq {i : Nat} (h0 : lc[0]? = some (some (.loc m))) (h4 : lc[4]? = some (some (.int ((i + 1 : Nat) : Int)))) (F : FmtAt σ m ln ac ml cw cwl sp rows ini ps) (H : Fits rows ini ps) (hi : i < ps.length) :
    idxE (idxE lineE (binE .Sub (nE 4) (cE (.int 1)))) (cE (.int 1)) lc σ = some (.str (sndAt ps i), σ) := by
  have e1 := aget_part F.acc (List.getElem?_eq_getElem hi) H.p
  have e2 : seqIndex? 1 2 = some 1 := by decide
  have e3 : (((i + 1 : Nat) : Int) - 1) = (i : Int) := by (first | lia | omega)
  simp only [idxE, line_eq h0 F, binE, nE, h4, cE, abin, aadd, amul, twoI, e3, Option.map_some, e1]
  simp [aget, partAV, e2, sndAt, List.getElem?_eq_getElem hi]
theorem seekB_spec {c i : Nat} {a1 a2 a5 a6 a7 : Option AV} (F : FmtAt σ m ln ac ml cw cwl sp rows ini ps) (H : Fits rows ini ps) (hi : i + 1 < ps.length) :
    ∃ b1 b5, seekB [some (.loc m), a1, a2, some (signAV c), some (.int ((i + 1 : Nat) : Int)), a5, a6, a7] σ = some (if hitAt ps c (i + 1) then .brk else .next, [some (.loc m), b1, a2, some (signAV c), some (.int ((i + 1 : Nat) : Int)), b5, a6, a7], σ) := by
  have p1 := part_small H (List.getElem_mem hi)
  have p2 := part_small H (List.getElem_mem (Nat.lt_of_succ_lt hi))
  have f1 : (fstAt ps (i + 1)).length ≤ 100000 := by simp [fstAt, List.getElem?_eq_getElem hi]; exact p1.1
  have f2 : (sndAt ps i).length ≤ 100000 := by simp [sndAt, List.getElem?_eq_getElem (Nat.lt_of_succ_lt hi)]; exact p2.2
  have sec : ∀ b1, ∃ b5, seqS [asgS 5 (idxE (idxE lineE (binE .Sub (nE 4) (cE (.int 1)))) (cE (.int 1))),
      ifS (andT [trT (nE 5), cmpT .Eq (idxE (nE 5) (negE (cE (.int 1)))) (nE 3)]) (seqS [brkS]) (seqS [])] [some (.loc m), b1, a2, some (signAV c), some (.int ((i + 1 : Nat) : Int)), a5, a6, a7] σ =
      some (if endsC (sndAt ps i) c then .brk else .next, [some (.loc m), b1, a2, some (signAV c), some (.int ((i + 1 : Nat) : Int)), b5, a6, a7], σ) := by
    intro b1
    refine ⟨some (.str (sndAt ps i)), ?_⟩
    rw [seq_next (asg_of (snd_eq rfl rfl F H (Nat.lt_of_succ_lt hi)) (by simp))]
    show seqS _ [some (.loc m), b1, a2, some (signAV c), some (.int ((i + 1 : Nat) : Int)), some (.str (sndAt ps i)), a6, a7] σ = _
    have e := endsT_eq (σ := σ) (lc := [some (.loc m), b1, a2, some (signAV c), some (.int ((i + 1 : Nat) : Int)), some (.str (sndAt ps i)), a6, a7]) (i := 5) (j := 3) rfl rfl f2
    cases hE : endsC (sndAt ps i) c with
    | true =>
      rw [hE] at e
      rw [seq_brk (lc₁ := [some (.loc m), b1, a2, some (signAV c), some (.int ((i + 1 : Nat) : Int)), some (.str (sndAt ps i)), a6, a7]) (σ₁ := σ)]
      · rfl
      · rw [if_t e]; rfl
    | false =>
      rw [hE] at e
      rw [seq_next (lc₁ := [some (.loc m), b1, a2, some (signAV c), some (.int ((i + 1 : Nat) : Int)), some (.str (sndAt ps i)), a6, a7]) (σ₁ := σ), seq_nil]
      · rfl
      · rw [if_f e]; rfl
  have tsp : trT (mE 1 isspaceF (nE 3) []) [some (.loc m), a1, a2, some (signAV c), some (.int ((i + 1 : Nat) : Int)), a5, a6, a7] σ = some (Txt.isspace ⟨#[c]⟩, σ) := by
    simp [trT, mE, nE, signAV, kind, evs, isspaceF, atruth]
  unfold seekB
  cases hsp : Txt.isspace ⟨#[c]⟩ with
  | false =>
    rw [hsp] at tsp
    (refine x1_1 (sec a1) fun b5 e => ?_)
    refine ⟨a1, b5, ?_⟩
    rw [seq_next (lc₁ := [some (.loc m), a1, a2, some (signAV c), some (.int ((i + 1 : Nat) : Int)), a5, a6, a7]) (σ₁ := σ) (by rw [if_f tsp]; rfl), e]
    simp [hitAt, hsp]
  | true =>
    rw [hsp] at tsp
    have e1 := startsT_eq (σ := σ) (lc := [some (.loc m), some (.str (fstAt ps (i + 1))), a2, some (signAV c), some (.int ((i + 1 : Nat) : Int)), a5, a6, a7]) (i := 1) (j := 3) rfl rfl f1
    have body : ∀ fl lc', seqS [ifS (andT [trT (nE 1), cmpT .Eq (idxE (nE 1) (cE (.int 0))) (nE 3)]) (seqS [brkS]) (seqS [])] [some (.loc m), some (.str (fstAt ps (i + 1))), a2, some (signAV c), some (.int ((i + 1 : Nat) : Int)), a5, a6, a7] σ = some (fl, lc', σ) →
        ifS (trT (mE 1 isspaceF (nE 3) [])) (seqS [
          asgS 1 (idxE (idxE lineE (nE 4)) (cE (.int 0))),
          ifS (andT [trT (nE 1), cmpT .Eq (idxE (nE 1) (cE (.int 0))) (nE 3)]) (seqS [brkS]) (seqS [])]) (seqS []) [some (.loc m), a1, a2, some (signAV c), some (.int ((i + 1 : Nat) : Int)), a5, a6, a7] σ = some (fl, lc', σ) := by
      intro fl lc' h
      rw [if_t tsp, seq_next (asg_of (fst_eq rfl rfl F H hi) (by simp))]
      exact h
    cases hS : startsC (fstAt ps (i + 1)) c with
    | true =>
      rw [hS] at e1
      refine ⟨some (.str (fstAt ps (i + 1))), a5, ?_⟩
      rw [seq_brk (body .brk [some (.loc m), some (.str (fstAt ps (i + 1))), a2, some (signAV c), some (.int ((i + 1 : Nat) : Int)), a5, a6, a7] (seq_brk (by rw [if_t e1]; rfl)))]
      simp [hitAt, hsp, hS]
    | false =>
      rw [hS] at e1
      (refine x1_1 (sec (some (.str (fstAt ps (i + 1))))) fun b5 e => ?_)
      refine ⟨some (.str (fstAt ps (i + 1))), b5, ?_⟩
      rw [seq_next (body .next [some (.loc m), some (.str (fstAt ps (i + 1))), a2, some (signAV c), some (.int ((i + 1 : Nat) : Int)), a5, a6, a7] (by rw [seq_next (by rw [if_f e1]; rfl)]; rfl)), e]
      simp [hitAt, hsp, hS]
end
end Mine.Internal
end
section
open PySem PySem.W PyProof.Rows PySem.Calls
namespace Mine.Internal
section
variable {σ : St} {m ln ac : Nat} {ml : Int} {cw : Str} {cwl : Int} {sp : Str} {rows : List Str} {ini : Int} {ps : List (Str × Str)} {lc : Lc}
theorem inner_spec {c N : Nat} (F : FmtAt σ m ln ac ml cw cwl sp rows ini ps) (H : Fits rows ini ps) (hN : N + 1 = ps.length) :
    ∀ (k t fuel : Nat) (a1 a2 a4 a5 a6 a7 : Option AV), k + t = N → k < fuel → ∃ b1 b4 b5, loopS (nxR (N : Int) 0 (-1)) (fun lc y => putL lc 4 y) seekB (seqS [contS]) fuel t [some (.loc m), a1, a2, some (signAV c), a4, a5, a6, a7] σ =
      some (match seekI ps c k with | some _ => .next | none => .cont, [some (.loc m), b1, a2, some (signAV c), b4, b5, a6, a7], σ) ∧ ∀ i, seekI ps c k = some i → b4 = some (.int (i : Int)) := by
  intro k
  induction k with
  | zero =>
    intro t fuel a1 a2 a4 a5 a6 a7 hk hf
    obtain ⟨fuel, rfl⟩ : ∃ f, fuel = f + 1 := ⟨fuel - 1, by (first | lia | omega)⟩
    refine ⟨a1, a4, a5, ?_, fun i h => by cases h⟩
    unfold loopS
    have : nxR (N : Int) 0 (-1) σ t = some none := by
      unfold nxR
      rw [rangeDown, if_neg (by (first | lia | omega))]
    rw [this]
    rfl
  | succ k ih =>
    intro t fuel a1 a2 a4 a5 a6 a7 hk hf
    obtain ⟨fuel, rfl⟩ : ∃ f, fuel = f + 1 := ⟨fuel - 1, by (first | lia | omega)⟩
    have e1 : nxR (N : Int) 0 (-1) σ t = some (some (.int ((k + 1 : Nat) : Int))) := by
      unfold nxR
      rw [rangeDown, if_pos (by (first | lia | omega))]
      congr 3
      (first | lia | omega)
    obtain ⟨b1, b5, e2⟩ := seekB_spec (c := c) (i := k) (a1 := a1) (a2 := a2) (a5 := a5) (a6 := a6) (a7 := a7) F H (by (first | lia | omega))
    unfold loopS
    rw [e1]
    dsimp only
    have e3 : putL [some (.loc m), a1, a2, some (signAV c), a4, a5, a6, a7] 4 (.int ((k + 1 : Nat) : Int)) = some [some (.loc m), a1, a2, some (signAV c), some (.int ((k + 1 : Nat) : Int)), a5, a6, a7] := rfl
    rw [e3]
    dsimp only
    rw [e2]
    by_cases hh : hitAt ps c (k + 1) = true
    · rw [if_pos hh]
      dsimp only
      have e4 : seekI ps c (k + 1) = some (k + 1) := by unfold seekI; rw [if_pos hh]
      rw [e4]
      exact ⟨b1, some (.int ((k + 1 : Nat) : Int)), b5, rfl, fun i h => by cases h; rfl⟩
    · rw [if_neg hh]
      dsimp only
      have e4 : seekI ps c (k + 1) = seekI ps c k := by rw [seekI, if_neg hh]
      rw [e4]
      exact ih (t + 1) fuel b1 a2 (some (.int ((k + 1 : Nat) : Int))) b5 a6 a7 (by (first | lia | omega)) (by (first | lia | omega))
set_option tactic.hygienic false in
theorem okDown {N : Nat} (h : N < 1000000) : okRange (N : Int) 0 (-1) = true := by
  have f : Builtin.Range.rangeFitsLong (N : Int) = true := by
    unfold Builtin.Range.rangeFitsLong
    rw [Bool.and_eq_true, decide_eq_true_eq, decide_eq_true_eq]
    constructor <;> (first | lia | omega)
  unfold okRange Builtin.Range.small
  rw [rangeDown, f]
  generalize ((N : Int) == 0) = z
  cases z <;> decide
theorem turn_spec {c : Nat} {a1 a2 a4 a5 a6 a7 : Option AV} (F : FmtAt σ m ln ac ml cw cwl sp rows ini ps) (H : Fits rows ini ps) (hp : ps ≠ []) :
    ∃ b1 b4 b5, seqS [forRS 4 [binE .Sub (mE 4 pcF lineE []) (cE (.int 1)), cE (.int 0), negE (cE (.int 1))] seekB (seqS [contS]), brkS] [some (.loc m), a1, a2, some (signAV c), a4, a5, a6, a7] σ =
      some (match seekI ps c (ps.length - 1) with | some _ => .brk | none => .cont, [some (.loc m), b1, a2, some (signAV c), b4, b5, a6, a7], σ) ∧ ∀ i, seekI ps c (ps.length - 1) = some i → b4 = some (.int (i : Int)) := by
  obtain ⟨N, hN⟩ : ∃ N, N + 1 = ps.length := ⟨ps.length - 1, by have := List.length_pos_iff.mpr hp; (first | lia | omega)⟩
  have hz := H.p
  obtain ⟨b1, b4, b5, e, hb⟩ := inner_spec (c := c) F H hN N 0 1000000 a1 a2 a4 a5 a6 a7 (by (first | lia | omega)) (by (first | lia | omega))
  have hNl : ps.length - 1 = N := by (first | lia | omega)
  rw [hNl]
  have ea : evs [binE .Sub (mE 4 pcF lineE []) (cE (.int 1)), cE (.int 0), negE (cE (.int 1))] [some (.loc m), a1, a2, some (signAV c), a4, a5, a6, a7] σ = some ([.int (N : Int), .int 0, .int (-1)], σ) := by
    have : ((ps.length : Int) - 1) = N := by (first | lia | omega)
    simp [evs, binE, mLine (fs := []) (xs := []) (lc := [some (.loc m), a1, a2, some (signAV c), a4, a5, a6, a7]) rfl F rfl, pc_eq F.acc, cE, abin, twoI, negE, this]
  have ef : forRS 4 [binE .Sub (mE 4 pcF lineE []) (cE (.int 1)), cE (.int 0), negE (cE (.int 1))] seekB (seqS [contS]) [some (.loc m), a1, a2, some (signAV c), a4, a5, a6, a7] σ = some (match seekI ps c N with | some _ => .next | none => .cont, [some (.loc m), b1, a2, some (signAV c), b4, b5, a6, a7], σ) := by
    unfold forRS
    rw [ea]
    show (if okRange (N : Int) 0 (-1) = true then _ else _) = _
    rw [if_pos (okDown (by (first | lia | omega))), e]
  refine ⟨b1, b4, b5, ?_, hb⟩
  cases hs : seekI ps c N with
  | none => rw [hs] at ef; rw [seq_cont ef]
  | some i => rw [hs] at ef; rw [seq_next ef]; rfl
theorem outer_spec {O : SM} (F : FmtAt σ m ln ac ml cw cwl sp rows ini ps) (H : Fits rows ini ps) (hp : ps ≠ []) :
    ∀ (k t fuel : Nat) (a1 a2 a3 a4 a5 a6 a7 : Option AV), k + t = sp.cps.size → k < fuel → ∃ b1 b3 b4 b5,
      loopS (nxS sp) (fun lc y => putL lc 3 y) (seqS [forRS 4 [binE .Sub (mE 4 pcF lineE []) (cE (.int 1)), cE (.int 0), negE (cE (.int 1))] seekB (seqS [contS]), brkS]) O fuel t [some (.loc m), a1, a2, a3, a4, a5, a6, a7] σ =
        (match seek ps (sp.cps.toList.drop t) with
          | some i => some (.next, [some (.loc m), b1, a2, b3, some (.int (i : Int)), b5, a6, a7], σ)
          | none => O [some (.loc m), b1, a2, b3, b4, b5, a6, a7] σ) := by
  intro k
  induction k with
  | zero =>
    intro t fuel a1 a2 a3 a4 a5 a6 a7 hk hf
    obtain ⟨fuel, rfl⟩ : ∃ f, fuel = f + 1 := ⟨fuel - 1, by (first | lia | omega)⟩
    refine ⟨a1, a3, a4, a5, ?_⟩
    have e0 : sp.cps.toList.drop t = [] := List.drop_of_length_le (by simp; (first | lia | omega))
    rw [e0]
    unfold loopS
    have : nxS sp σ t = some none := by
      unfold nxS
      rw [Array.getElem?_eq_none (by (first | lia | omega))]; rfl
    rw [this]
    rfl
  | succ k ih =>
    intro t fuel a1 a2 a3 a4 a5 a6 a7 hk hf
    obtain ⟨fuel, rfl⟩ : ∃ f, fuel = f + 1 := ⟨fuel - 1, by (first | lia | omega)⟩
    have ht : t < sp.cps.size := by (first | lia | omega)
    have e1 : nxS sp σ t = some (some (signAV sp.cps[t])) := by
      unfold nxS
      rw [Array.getElem?_eq_getElem ht]; rfl
    have e0 : sp.cps.toList.drop t = sp.cps[t] :: sp.cps.toList.drop (t + 1) := by
      rw [List.drop_eq_getElem_cons (by simpa using ht)]; simp
    (refine x3_2 (turn_spec (c := sp.cps[t]) (a1 := a1) (a2 := a2) (a4 := a4) (a5 := a5) (a6 := a6) (a7 := a7) F H hp) fun b1 b4 b5 e2 hb => ?_)
    unfold loopS
    rw [e1]
    dsimp only
    have e3 : putL [some (.loc m), a1, a2, a3, a4, a5, a6, a7] 3 (signAV sp.cps[t]) = some [some (.loc m), a1, a2, some (signAV sp.cps[t]), a4, a5, a6, a7] := rfl
    rw [e3]
    dsimp only
    rw [e2, e0]
    unfold seek
    cases hs : seekI ps sp.cps[t] (ps.length - 1) with
    | some i =>
      dsimp only
      rw [hb i hs]
      exact ⟨b1, some (signAV sp.cps[t]), b4, b5, rfl⟩
    | none =>
      dsimp only
      exact ih (t + 1) fuel b1 a2 (some (signAV sp.cps[t])) b4 b5 a6 a7 (by (first | lia | omega)) (by (first | lia | omega))
set_option tactic.hygienic false in
theorem seekI_le {c : Nat} : ∀ {k i : Nat}, seekI ps c k = some i → i ≤ k ∧ 0 < i
  | 0, i, h => by cases h
  | k + 1, i, h => by
    unfold seekI at h
    split at h
    · cases h; (first | lia | omega)
    · have := seekI_le h; (first | lia | omega)
theorem seek_le : ∀ {cs : List Nat} {i : Nat}, seek ps cs = some i → i ≤ ps.length - 1 ∧ 0 < i
  | [], i, h => by cases h
  | c :: cs, i, h => by
    unfold seek at h
    split at h
    · rename_i j e
      (refine c1 h fun hh0 => ?_; clear h; subst hh0)
      exact seekI_le e
    · exact seek_le h
end
noncomputable def chunkP (ml : Int) (sp : Str) (rows : List Str) (ini : Int) (ps : List (Str × Str)) (f s : Str) : List Str × Int × List (Str × Str) :=
  if ml < ini + partsLen (ps ++ [(f, s)]) then (match seek (ps ++ [(f, s)]) sp.cps.toList with
    | some i => (rows ++ [accText ((ps ++ [(f, s)]).take i)], 0, (ps ++ [(f, s)]).drop i)
    | none => if 0 < ini then (nlRows rows ini ps, 0, [(if f.length = 0 then " " else f, s)]) else (rows, ini, ps ++ [(f, s)]))
  else (rows, ini, ps ++ [(f, s)])
section
variable {σ : St} {m ln ac : Nat} {ml : Int} {cw : Str} {cwl : Int} {sp : Str} {rows : List Str} {ini : Int} {ps : List (Str × Str)} {lc : Lc}
set_option tactic.hygienic false in
theorem Fits.init {f s : Str} (H : Fits rows ini (ps ++ [(f, s)])) : Fits rows ini ps := by
  have := H.p
  have h := H.l
  rw [partsLen_append] at h
  have := partsLen_nonneg [(f, s)]
  exact ⟨H.r, H.t, by have := H.p; simp at this; (first | lia | omega), by (first | lia | omega), H.i0, H.i1⟩
set_option tactic.hygienic false in
theorem Fits.take (H : Fits rows ini ps) (i : Nat) : Fits rows ini (ps.take i) := by
  have h : partsLen ps = partsLen (ps.take i) + partsLen (ps.drop i) := by rw [← partsLen_append, List.take_append_drop]
  have := partsLen_nonneg (ps.drop i)
  have := H.l
  exact ⟨H.r, H.t, by have := H.p; rw [List.length_take]; (first | lia | omega), by (first | lia | omega), H.i0, H.i1⟩
theorem chunk_spec {f s : Str} (F : FmtAt σ m ln ac ml cw cwl sp rows ini ps) (H : Fits rows ini (ps ++ [(f, s)])) (hsp : sp.cps.size ≤ 1000) :
    ∃ σ', chunkF [.loc m, .str f, .str s] σ = some (.none, σ') ∧ FmtAt σ' m ln ac ml cw cwl sp (chunkP ml sp rows ini ps f s).1 (chunkP ml sp rows ini ps f s).2.1 (chunkP ml sp rows ini ps f s).2.2 ∧ Same [ln, ac] σ σ' ∧ σ'.length = σ.length := by
  have H0 := H.init
  have hp : ps ++ [(f, s)] ≠ [] := by simp
  have hz : (ps ++ [(f, s)]).length ≤ 1000000 := by have := H.p; (first | lia | omega)
  have hz0 : ps.length ≤ 1000000 := by simp at hz; (first | lia | omega)
  -- push
  have e1 : exprS (mE 4 pushF lineE [nE 1, nE 2]) [some (.loc m), some (.str f), some (.str s), none, none, none, none, none] σ = some (.next, [some (.loc m), some (.str f), some (.str s), none, none, none, none, none], σ.set ac (.acc ini (ps ++ [(f, s)]))) :=
    expr_of (v := .none) (by rw [mLine (xs := [.str f, .str s]) rfl F rfl, push_eq F.acc hz0])
  have F1 := F.setAcc ini (ps ++ [(f, s)])
  have S1 : Same [ln, ac] σ (σ.set ac (.acc ini (ps ++ [(f, s)]))) := .set (by simp)
  have z1 : (σ.set ac (.acc ini (ps ++ [(f, s)]))).length = σ.length := by simp
  generalize σ.set ac (.acc ini (ps ++ [(f, s)])) = σ₁ at e1 F1 S1 z1
  have eL := lenLine_eq (lc := [some (.loc m), some (.str f), some (.str s), none, none, none, none, none]) rfl F1 H
  have eM : attrE 0 (nE 0) [some (.loc m), some (.str f), some (.str s), none, none, none, none, none] σ₁ = some (.int ml, σ₁) := by simp [attrE, nE, F1.fm, attrOf, fmtAttrs]
  have eT : cmpT .Gt (callE (lenF accLenF) [lineE]) (attrE 0 (nE 0)) [some (.loc m), some (.str f), some (.str s), none, none, none, none, none] σ₁ = some (decide (ml < ini + partsLen (ps ++ [(f, s)])), σ₁) := by
    simp only [cmpT, eL, eM]; simp [acmp, twoInts, isNone, aeqv, toPD, PyData.eqv]
  unfold chunkP
  by_cases hlong : ml < ini + partsLen (ps ++ [(f, s)])
  · rw [if_pos hlong]
    rw [decide_eq_true hlong] at eT
    have eS : attrE 3 (nE 0) [some (.loc m), some (.str f), some (.str s), none, none, none, none, none] σ₁ = some (.str sp, σ₁) := by simp [attrE, nE, F1.fm, attrOf, fmtAttrs]
    obtain ⟨b1, b3, b4, b5, e2⟩ := outer_spec (O := seqS [unpS 1 6 (mE 4 popF lineE []),
      ifS (cmpT .Gt (attrE 6 lineE) (cE (.int 0))) (seqS [exprS (mE 3 newlineF (nE 0) []), ifS (notT (trT (nE 1))) (seqS [asgS 1 (cE (.str " "))]) (seqS [])]) (seqS []),
      exprS (mE 4 pushF lineE [nE 1, nE 6]),
      retNS]) F1 H hp sp.cps.size 0 1000000 (some (.str f)) (some (.str s)) none none none none none (by (first | lia | omega)) (by (first | lia | omega))
    rw [List.drop_zero] at e2
    have e3 : ∀ r, loopS (nxS sp) (fun lc y => putL lc 3 y) (seqS [forRS 4 [binE .Sub (mE 4 pcF lineE []) (cE (.int 1)), cE (.int 0), negE (cE (.int 1))] seekB (seqS [contS]), brkS]) (seqS [unpS 1 6 (mE 4 popF lineE []),
      ifS (cmpT .Gt (attrE 6 lineE) (cE (.int 0))) (seqS [exprS (mE 3 newlineF (nE 0) []), ifS (notT (trT (nE 1))) (seqS [asgS 1 (cE (.str " "))]) (seqS [])]) (seqS []),
      exprS (mE 4 pushF lineE [nE 1, nE 6]),
      retNS]) 1000000 0 [some (.loc m), some (.str f), some (.str s), none, none, none, none, none] σ₁ = r → seekS [some (.loc m), some (.str f), some (.str s), none, none, none, none, none] σ₁ = r := by
      intro r h
      unfold seekS forS
      rw [eS]
      exact h
    cases hseek : seek (ps ++ [(f, s)]) sp.cps.toList with
    | some i =>
      rw [hseek] at e2
      dsimp only at e2 ⊢
      have hi := (seek_le hseek).1
      have hi' : i ≤ (ps ++ [(f, s)]).length := by (first | lia | omega)
      have e4 := e3 _ e2
      -- pop_from
      have e5 : asgS 7 (mE 4 popFromF lineE [nE 4]) [some (.loc m), b1, some (.str s), b3, some (.int (i : Int)), b5, none, none] σ₁ = some (.next, [some (.loc m), b1, some (.str s), b3, some (.int (i : Int)), b5, none, some (.lst (((ps ++ [(f, s)]).drop i).map partAV))], σ₁.set ac (.acc ini ((ps ++ [(f, s)]).take i))) := by
        rw [asg_of (v := .lst (((ps ++ [(f, s)]).drop i).map partAV)) (σ₁ := σ₁.set ac (.acc ini ((ps ++ [(f, s)]).take i))) (by rw [mLine (xs := [.int (i : Int)]) rfl F1 rfl, popFrom_eq F1.acc hz hi']) (by simp)]; rfl
      have F2 := F1.setAcc ini ((ps ++ [(f, s)]).take i)
      have S2 : Same [ln, ac] σ₁ (σ₁.set ac (.acc ini ((ps ++ [(f, s)]).take i))) := .set (by simp)
      have z2 : (σ₁.set ac (.acc ini ((ps ++ [(f, s)]).take i))).length = σ₁.length := by simp
      generalize σ₁.set ac (.acc ini ((ps ++ [(f, s)]).take i)) = σ₂ at e5 F2 S2 z2
      have e6 := expr_of (append_rows (lc := [some (.loc m), b1, some (.str s), b3, some (.int (i : Int)), b5, none, some (.lst (((ps ++ [(f, s)]).drop i).map partAV))]) rfl F2 (H.take i).acc (by have := H.r; (first | lia | omega)))
      have F3 := F2.setLi (rows ++ [accText ((ps ++ [(f, s)]).take i)])
      have S3 : Same [ln, ac] σ₂ (σ₂.set ln (.list ((rows ++ [accText ((ps ++ [(f, s)]).take i)]).map AV.str))) := .set (by simp)
      have z3 : (σ₂.set ln (.list ((rows ++ [accText ((ps ++ [(f, s)]).take i)]).map AV.str))).length = σ₂.length := by simp
      generalize σ₂.set ln (.list ((rows ++ [accText ((ps ++ [(f, s)]).take i)]).map AV.str)) = σ₃ at e6 F3 S3 z3
      have e7 : exprS (mE 4 resetF lineE [nE 7]) [some (.loc m), b1, some (.str s), b3, some (.int (i : Int)), b5, none, some (.lst (((ps ++ [(f, s)]).drop i).map partAV))] σ₃ = some (.next, [some (.loc m), b1, some (.str s), b3, some (.int (i : Int)), b5, none, some (.lst (((ps ++ [(f, s)]).drop i).map partAV))], σ₃.set ac (.acc 0 ((ps ++ [(f, s)]).drop i))) :=
        expr_of (v := .none) (by rw [mLine (xs := [.lst (((ps ++ [(f, s)]).drop i).map partAV)]) rfl F3 rfl, reset2_eq F3.acc (by rw [List.length_take]; (first | lia | omega)) (by rw [List.length_drop]; (first | lia | omega))])
      refine ⟨σ₃.set ac (.acc 0 ((ps ++ [(f, s)]).drop i)), ?_, F3.setAcc 0 _, ((S1.trans S2).trans S3).trans (.set (by simp)), by simp [z3, z2, z1]⟩
      refine run_next (lc' := [some (.loc m), b1, some (.str s), b3, some (.int (i : Int)), b5, none, some (.lst (((ps ++ [(f, s)]).drop i).map partAV))]) rfl ?_
      show chunkB [some (.loc m), some (.str f), some (.str s), none, none, none, none, none] σ = _
      unfold chunkB
      rw [seq_next e1, seq_next, seq_nil]
      rw [if_t eT, seq_next e4, seq_next e5, seq_next e6, seq_next e7, seq_nil]
    | none =>
      rw [hseek] at e2
      dsimp only at e2 ⊢
      have e4 := e3 _ e2
      have e5 : unpS 1 6 (mE 4 popF lineE []) [some (.loc m), b1, some (.str s), b3, b4, b5, none, none] σ₁ = some (.next, [some (.loc m), some (.str f), some (.str s), b3, b4, b5, some (.str s), none], σ₁.set ac (.acc ini ps)) := by
        unfold unpS
        rw [mLine (fs := []) (xs := []) rfl F1 rfl, pop_snoc F1.acc (by have := H.p; simp at this; (first | lia | omega))]
        rfl
      have F2 := F1.setAcc ini ps
      have S2 : Same [ln, ac] σ₁ (σ₁.set ac (.acc ini ps)) := .set (by simp)
      have z2 : (σ₁.set ac (.acc ini ps)).length = σ₁.length := by simp
      generalize σ₁.set ac (.acc ini ps) = σ₂ at e5 F2 S2 z2
      have eI : attrE 6 lineE [some (.loc m), some (.str f), some (.str s), b3, b4, b5, some (.str s), none] σ₂ = some (.int ini, σ₂) := by
        unfold attrE
        rw [line_eq rfl F2]
        simp [F2.acc, attrOf, fmtAttrs]
      have eC : cmpT .Gt (attrE 6 lineE) (cE (.int 0)) [some (.loc m), some (.str f), some (.str s), b3, b4, b5, some (.str s), none] σ₂ = some (decide (0 < ini), σ₂) := by simp only [cmpT, eI]; simp [cE, acmp, twoInts, isNone, aeqv, toPD, PyData.eqv]
      have done : ∀ {σ₃ : St} {f' : Str} {rs : List Str} {i' : Int} {qs : List (Str × Str)}, qs.length ≤ 1000000 → FmtAt σ₃ m ln ac ml cw cwl sp rs i' qs → Same [ln, ac] σ₂ σ₃ → σ₃.length = σ₂.length →
          ifS (cmpT .Gt (attrE 6 lineE) (cE (.int 0))) (seqS [exprS (mE 3 newlineF (nE 0) []), ifS (notT (trT (nE 1))) (seqS [asgS 1 (cE (.str " "))]) (seqS [])]) (seqS []) [some (.loc m), some (.str f), some (.str s), b3, b4, b5, some (.str s), none] σ₂ = some (.next, [some (.loc m), some (.str f'), some (.str s), b3, b4, b5, some (.str s), none], σ₃) →
          ∃ σ', chunkF [.loc m, .str f, .str s] σ = some (.none, σ') ∧ FmtAt σ' m ln ac ml cw cwl sp rs i' (qs ++ [(f', s)]) ∧ Same [ln, ac] σ σ' ∧ σ'.length = σ.length := by
        intro σ₃ f' rs i' qs hq F3 S3 z3 e6
        have e7 : exprS (mE 4 pushF lineE [nE 1, nE 6]) [some (.loc m), some (.str f'), some (.str s), b3, b4, b5, some (.str s), none] σ₃ = some (.next, [some (.loc m), some (.str f'), some (.str s), b3, b4, b5, some (.str s), none], σ₃.set ac (.acc i' (qs ++ [(f', s)]))) :=
          expr_of (v := .none) (by rw [mLine (xs := [.str f', .str s]) rfl F3 rfl, push_eq F3.acc hq])
        refine ⟨σ₃.set ac (.acc i' (qs ++ [(f', s)])), ?_, F3.setAcc _ _, ((S1.trans S2).trans S3).trans (.set (by simp)), by simp [z3, z2, z1]⟩
        refine run_ret (v := .none) (lc' := [some (.loc m), some (.str f'), some (.str s), b3, b4, b5, some (.str s), none]) rfl ?_
        show chunkB [some (.loc m), some (.str f), some (.str s), none, none, none, none, none] σ = _
        unfold chunkB
        rw [seq_next e1, seq_ret]
        rw [if_t eT, seq_ret]
        rw [e4, seq_next e5, seq_next e6, seq_next e7]
        rfl
      by_cases hini : 0 < ini
      · rw [if_pos hini]
        rw [decide_eq_true hini] at eC
        (refine x1_4 (newline_spec F2 H0) fun σ₃ e6 F3 S3 z3 => ?_)
        have e7 : exprS (mE 3 newlineF (nE 0) []) [some (.loc m), some (.str f), some (.str s), b3, b4, b5, some (.str s), none] σ₂ = some (.next, [some (.loc m), some (.str f), some (.str s), b3, b4, b5, some (.str s), none], σ₃) := expr_of (v := .none) (by simp [mE, nE, kind, F2.fm, evs, e6])
        have hf : f.length ≤ 100000 := (part_small H (p := (f, s)) (by simp)).1
        have eN : notT (trT (nE 1)) [some (.loc m), some (.str f), some (.str s), b3, b4, b5, some (.str s), none] σ₃ = some (decide (f.length = 0), σ₃) := by
          have : f.length ≤ 16777216 := by (first | lia | omega)
          simp [notT, trT, nE, atruth, sizeLine_eq, this]
          by_cases h : f.length = 0 <;> simp [h]
        have := done (f' := if f.length = 0 then " " else f) (qs := []) (by simp) F3 S3 z3 (by
          rw [if_t eC, seq_next e7]
          by_cases h : f.length = 0
          · rw [decide_eq_true h] at eN
            rw [if_pos h, seq_next (lc₁ := [some (.loc m), some (.str " "), some (.str s), b3, b4, b5, some (.str s), none]) (σ₁ := σ₃), seq_nil]
            rw [if_t eN]; rfl
          · rw [decide_eq_false h] at eN
            rw [if_neg h, seq_next (lc₁ := [some (.loc m), some (.str f), some (.str s), b3, b4, b5, some (.str s), none]) (σ₁ := σ₃), seq_nil]
            rw [if_f eN]; rfl)
        simpa using this
      · rw [if_neg hini]
        rw [decide_eq_false hini] at eC
        exact done (f' := f) hz0 F2 .refl rfl (by rw [if_f eC]; rfl)
  · rw [if_neg hlong]
    rw [decide_eq_false hlong] at eT
    refine ⟨σ₁, ?_, F1, S1, z1⟩
    refine run_next (lc' := [some (.loc m), some (.str f), some (.str s), none, none, none, none, none]) rfl ?_
    show chunkB [some (.loc m), some (.str f), some (.str s), none, none, none, none, none] σ = _
    unfold chunkB
    rw [seq_next e1, seq_next, seq_nil]
    rw [if_f eT]; rfl
end
end Mine.Internal
end
section
open PySem PySem.W PyProof.Rows PySem.Calls
namespace Mine.Internal
noncomputable abbrev St3 := List Str × Int × List (Str × Str)
noncomputable def chunksP (ml : Int) (sp : Str) : St3 → List (Str × Str) → St3
  | st, [] => st
  | st, p :: r => chunksP ml sp (chunkP ml sp st.1 st.2.1 st.2.2 p.1 p.2) r
noncomputable def FitsRun (ml : Int) (sp : Str) : St3 → List (Str × Str) → Prop
  | _, [] => True
  | st, p :: r => Fits st.1 st.2.1 (st.2.2 ++ [p]) ∧ FitsRun ml sp (chunkP ml sp st.1 st.2.1 st.2.2 p.1 p.2) r
noncomputable def flatP (qs : List (Str × Str)) : List Str := qs.flatMap fun p => [p.1, p.2]
noncomputable abbrev FAt (σ : St) (m ln ac : Nat) (ml : Int) (cw : Str) (cwl : Int) (sp : Str) (st : St3) : Prop := FmtAt σ m ln ac ml cw cwl sp st.1 st.2.1 st.2.2
set_option tactic.hygienic false in
theorem flat_get : ∀ (qs : List (Str × Str)) (t : Nat) (p : Str × Str), qs[t]? = some p → (flatP qs)[2 * t]? = some p.1 ∧ (flatP qs)[2 * t + 1]? = some p.2
  | [], t, p, h => by simp at h
  | q :: qs, 0, p, h => by simp at h; subst h; simp [flatP]
  | q :: qs, t + 1, p, h => by
    have ih := flat_get qs t p (by simpa using h)
    have e1 : 2 * (t + 1) = 2 * t + 1 + 1 := by (first | lia | omega)
    have e2 : 2 * (t + 1) + 1 = (2 * t + 1) + 1 + 1 := by (first | lia | omega)
    rw [e2, e1]
    simpa [flatP] using ih
set_option tactic.hygienic false in
theorem flat_len : ∀ (qs : List (Str × Str)), (flatP qs).length = 2 * qs.length
  | [] => rfl
  | q :: qs => by have := flat_len qs; simp [flatP] at this ⊢; (first | lia | omega)
section
variable {σ : St} {m ln ac : Nat} {ml : Int} {cw : Str} {cwl : Int} {sp : Str}
theorem zip_loop {qs : List (Str × Str)} {pl g : Nat} (hsp : sp.cps.size ≤ 1000) (hpl : pl ≠ ln ∧ pl ≠ ac) (hg : g ≠ ln ∧ g ≠ ac) :
    ∀ (k t fuel : Nat) (σ : St) (st : St3) (a1 a2 a3 a5 : Option AV), k + t = qs.length → k < fuel → FAt σ m ln ac ml cw cwl sp st → FitsRun ml sp st (qs.drop t) → σ[pl]? = some (.list ((flatP qs).map AV.str)) → σ[g]? = some .ghost →
      ∃ σ' lc', loopS (nxZ g (.loc pl)) (put2 1 5) (seqS [exprS (mE 3 chunkF (nE 0) [nE 1, nE 5])]) (seqS []) fuel t [some (.loc m), a1, a2, a3, some (.loc pl), a5] σ = some (.next, lc', σ') ∧ FAt σ' m ln ac ml cw cwl sp (chunksP ml sp st (qs.drop t)) ∧ Same [ln, ac] σ σ' ∧ σ'.length = σ.length := by
  intro k
  induction k with
  | zero =>
    intro t fuel σ st a1 a2 a3 a5 hk hf F _ hl hgh
    obtain ⟨fuel, rfl⟩ : ∃ f, fuel = f + 1 := ⟨fuel - 1, by (first | lia | omega)⟩
    have e0 : qs.drop t = [] := List.drop_of_length_le (by (first | lia | omega))
    refine ⟨σ, [some (.loc m), a1, a2, a3, some (.loc pl), a5], ?_, by rw [e0]; exact F, .refl, rfl⟩
    unfold loopS
    have : nxZ g (.loc pl) σ t = some none := by
      unfold nxZ
      rw [hgh]
      have : ((flatP qs).map AV.str)[2 * t]? = none := List.getElem?_eq_none (by rw [List.length_map, flat_len]; (first | lia | omega))
      simp only [asList, hl, this]
    rw [this]
    rfl
  | succ k ih =>
    intro t fuel σ st a1 a2 a3 a5 hk hf F HR hl hgh
    obtain ⟨fuel, rfl⟩ : ∃ f, fuel = f + 1 := ⟨fuel - 1, by (first | lia | omega)⟩
    have ht : t < qs.length := by (first | lia | omega)
    have e0 : qs.drop t = qs[t] :: qs.drop (t + 1) := List.drop_eq_getElem_cons ht
    rw [e0] at HR ⊢
    (refine x0_2 (HR) fun H HR => ?_)
    rcases hq : qs[t] with ⟨f, s⟩
    rw [hq] at H HR
    obtain ⟨g1, g2⟩ := flat_get qs t (f, s) (by rw [List.getElem?_eq_getElem ht, hq])
    have e1 : nxZ g (.loc pl) σ t = some (some (.tup [.str f, .str s])) := by
      unfold nxZ
      rw [hgh]
      have h1 : ((flatP qs).map AV.str)[2 * t]? = some (.str f) := by rw [List.getElem?_map, g1]; rfl
      have h2 : ((flatP qs).map AV.str)[2 * t + 1]? = some (.str s) := by rw [List.getElem?_map, g2]; rfl
      simp only [asList, hl, h1, h2]
    (refine x1_4 (chunk_spec (f := f) (s := s) F H hsp) fun σ₁ e2 F1 S1 z1 => ?_)
    have e3 : seqS [exprS (mE 3 chunkF (nE 0) [nE 1, nE 5])] [some (.loc m), some (.str f), a2, a3, some (.loc pl), some (.str s)] σ = some (.next, [some (.loc m), some (.str f), a2, a3, some (.loc pl), some (.str s)], σ₁) := by
      rw [seq_next (expr_of (v := .none) (σ₁ := σ₁) (by simp [mE, nE, kind, F.fm, evs, e2])), seq_nil]
    unfold loopS
    rw [e1]
    dsimp only
    have e4 : put2 1 5 [some (.loc m), a1, a2, a3, some (.loc pl), a5] (.tup [.str f, .str s]) = some [some (.loc m), some (.str f), a2, a3, some (.loc pl), some (.str s)] := rfl
    rw [e4]
    dsimp only
    rw [e3]
    dsimp only
    have hl' := S1.get (k := pl) (by simp [hpl]) hl
    have hg' := S1.get (k := g) (by simp [hg]) hgh
    obtain ⟨σ₂, lc₂, e5, F2, S2, z2⟩ := ih (t + 1) fuel σ₁ (chunkP ml sp st.1 st.2.1 st.2.2 f s) (some (.str f)) a2 a3 (some (.str s)) (by (first | lia | omega)) (by (first | lia | omega)) F1 HR hl' hg'
    refine ⟨σ₂, lc₂, e5, ?_, S1.trans S2, z2.trans z1⟩
    unfold chunksP
    exact F2
noncomputable def pieces (ys : List Str) : List Str := if (ys.headD "").length = 0 then ys.tail else "" :: ys
theorem split_spec {st : St3} {f s sc : Str} {ys : List Str} {qs : List (Str × Str)} (F : FAt σ m ln ac ml cw cwl sp st) (hsp : sp.cps.size ≤ 1000) (hlen : f.length + s.length ≤ 100000) (hw : wsSplit (f ++ s) = some ys) (hys : ys ≠ []) (hyl : ys.length ≤ 100000) (hy0 : (ys.headD "").length ≤ 100000) (hq : pieces ys = flatP qs) (HR : FitsRun ml sp st qs) :
    ∃ σ', splitF [.loc m, .str f, .str s, .str sc] σ = some (.none, σ') ∧ FAt σ' m ln ac ml cw cwl sp (chunksP ml sp st qs) ∧ Same [ln, ac] σ σ' := by
  have hl1 : f.length + s.length ≤ 16777216 := by (first | lia | omega)
  have hl2 : (f ++ s).length ≤ 1000000 := by rw [str_len_eq]; (first | lia | omega)
  have hyl' : ys.length ≤ 1000000 := by (first | lia | omega)
  obtain ⟨y, yr, rfl⟩ : ∃ y yr, ys = y :: yr := by
    cases ys with
    | nil => exact absurd rfl hys
    | cons y yr => exact ⟨y, yr, rfl⟩
  have e1 : asgS 4 (reSplitE (binE .Add (nE 1) (nE 2))) [some (.loc m), some (.str f), some (.str s), some (.str sc), none, none] σ = some (.next, [some (.loc m), some (.str f), some (.str s), some (.str sc), some (.loc σ.length), none], σ ++ [.list ((y :: yr).map AV.str)]) := by
    rw [asg_of (v := .loc σ.length) (σ₁ := σ ++ [.list ((y :: yr).map AV.str)]) _ (by simp)]
    · rfl
    · simp only [reSplitE, binE, nE, List.getElem?_cons_succ, List.getElem?_cons_zero, abin, aadd, amul, twoI, sizeLine_eq, if_pos hl1, Option.map_some, if_pos hl2, hw, if_pos hyl']
  clear hlen hl1 hl2 hw
  have hm := (List.getElem?_eq_some_iff.mp F.fm).1
  have hln := (List.getElem?_eq_some_iff.mp F.li).1
  have hac := (List.getElem?_eq_some_iff.mp F.acc).1
  have F1 : FAt (σ ++ [.list ((y :: yr).map AV.str)]) m ln ac ml cw cwl sp st := FmtAt.keep F (X := []) (.app _) (by simp) (by simp) (by simp)
  have hpl : (σ ++ [.list ((y :: yr).map AV.str)])[σ.length]? = some (.list ((y :: yr).map AV.str)) := by rw [List.getElem?_append_right (Nat.le_refl _), Nat.sub_self]; rfl
  have z1 : (σ ++ [AO.list ((y :: yr).map AV.str)]).length = σ.length + 1 := by simp
  have S1 : Same [ln, ac] σ (σ ++ [.list ((y :: yr).map AV.str)]) := .app _
  generalize σ ++ [.list ((y :: yr).map AV.str)] = σ₁ at e1 F1 hpl z1 S1
  have yl : y.length ≤ 16777216 := by simp at hy0; (first | lia | omega)
  have eT : trT (idxE (nE 4) (cE (.int 0))) [some (.loc m), some (.str f), some (.str s), some (.str sc), some (.loc σ.length), none] σ₁ = some (decide (y.length ≠ 0), σ₁) := by
    have e : seqIndex? 0 (yr.length + 1) = some 0 := sidx (k := 0) (Nat.succ_pos _)
    simp [trT, idxE, nE, cE, aget, asSeq, hpl, e, atruth, sizeLine_eq, yl]
    by_cases h : y.length = 0 <;> simp [h]
  clear hyl' hy0 yl
  -- the list of pieces
  obtain ⟨σ₂, e2, hpl2, S2, F2, z2⟩ : ∃ σ₂, ifS (trT (idxE (nE 4) (cE (.int 0)))) (seqS [setSlS (nE 4) none (some (cE (.int 0))) (lstE [cE (.str "")])]) (seqS [exprS (mE 2 popAtF (nE 4) [cE (.int 0)])]) [some (.loc m), some (.str f), some (.str s), some (.str sc), some (.loc σ.length), none] σ₁ =
      some (.next, [some (.loc m), some (.str f), some (.str s), some (.str sc), some (.loc σ.length), none], σ₂) ∧ σ₂[σ.length]? = some (.list ((flatP qs).map AV.str)) ∧ Same [σ.length] σ₁ σ₂ ∧ FAt σ₂ m ln ac ml cw cwl sp st ∧ σ₂.length = σ₁.length := by
    have hlt : σ.length < σ₁.length := by (first | lia | omega)
    rw [← hq]
    have S : ∀ o, Same [σ.length] σ₁ (σ₁.set σ.length o) := fun o => .set (by simp)
    by_cases h : y.length = 0
    · refine ⟨σ₁.set σ.length (.list (yr.map AV.str)), ?_, ?_, S _, F1.keep (S _) (by simp; (first | lia | omega)) (by simp; (first | lia | omega)) (by simp; (first | lia | omega)), by simp⟩
      · rw [decide_eq_false (by simpa using h)] at eT
        rw [if_f eT, seq_next (expr_of (v := .str y) _), seq_nil]
        have e : seqIndex? 0 (yr.length + 1) = some 0 := sidx (k := 0) (Nat.succ_pos _)
        have hz : yr.length + 1 ≤ 16777216 := by simp at hyl; (first | lia | omega)
        have hs : smallInt 0 = true := by decide
        simp [mE, nE, kind, hpl, evs, cE, popAtF, e, sizeLine_eq, hz, hs]
      · rw [List.getElem?_set_self hlt]; simp [pieces, h]
    · refine ⟨σ₁.set σ.length (.list ((("" : Str) :: y :: yr).map AV.str)), ?_, ?_, S _, F1.keep (S _) (by simp; (first | lia | omega)) (by simp; (first | lia | omega)) (by simp; (first | lia | omega)), by simp⟩
      · rw [decide_eq_true (by simpa using h)] at eT
        rw [if_t eT, seq_next (lc₁ := [some (.loc m), some (.str f), some (.str s), some (.str sc), some (.loc σ.length), none]) (σ₁ := σ₁.set σ.length (.list ((("" : Str) :: y :: yr).map AV.str))), seq_nil]
        have hz : yr.length + 1 ≤ 1000000 := by simp at hyl; (first | lia | omega)
        have e : setSl (AV.str y :: yr.map AV.str) [AV.str ""] none (some 0) = AV.str "" :: AV.str y :: yr.map AV.str := by
          unfold setSl slLo slHi
          rw [sliceBounds_plain]
          simp [clipAt]
          rw [show (max (0 : Int) (min 0 ((yr.length : Int) + 1))).toNat = 0 by (first | lia | omega)]
          rfl
        simp [setSlS, lstE, evs, cE, nE, optE, hpl, asList, hz, e, sizeLine_eq]
      · rw [List.getElem?_set_self hlt]; simp [pieces, h]
  have S2' : Same [ln, ac] σ σ₂ := ⟨by (first | lia | omega), fun k hk hl => (S2.2 k (by simp; (first | lia | omega)) (by (first | lia | omega))).trans (S1.2 k hk hl)⟩
  -- the loop
  have hne : σ.length ≠ ln ∧ σ.length ≠ ac := by (first | lia | omega)
  have F3 : FAt (σ₂ ++ [.ghost]) m ln ac ml cw cwl sp st := FmtAt.keep F2 (X := []) (.app _) (by simp) (by simp) (by simp)
  have qn : qs.length < 1000000 := by
    have := congrArg List.length hq
    rw [flat_len] at this
    unfold pieces at this
    simp at hyl
    split at this <;> simp at this <;> (first | lia | omega)
  obtain ⟨σ₃, lc₃, e3, F4, S4, z4⟩ := zip_loop (qs := qs) (g := σ₂.length) (pl := σ.length) hsp hne (by (first | lia | omega)) qs.length 0 1000000 (σ₂ ++ [.ghost]) st (some (.str f)) (some (.str s)) (some (.str sc)) none (by (first | lia | omega)) qn F3 (by simpa using HR)
    (by rw [List.getElem?_append_left (by (first | lia | omega))]; exact hpl2) (by rw [List.getElem?_append_right (Nat.le_refl _), Nat.sub_self]; rfl)
  have e4 : zipS 1 5 (nE 4) (seqS [exprS (mE 3 chunkF (nE 0) [nE 1, nE 5])]) (seqS []) [some (.loc m), some (.str f), some (.str s), some (.str sc), some (.loc σ.length), none] σ₂ = some (.next, lc₃, σ₃) := by
    unfold zipS
    have : nE 4 [some (AV.loc m), some (.str f), some (.str s), some (.str sc), some (.loc σ.length), none] σ₂ = some (.loc σ.length, σ₂) := rfl
    rw [this]
    dsimp only
    have : asList σ₂ (.loc σ.length) = some ((flatP qs).map AV.str) := by simp [asList, hpl2]
    rw [this]
    exact e3
  refine ⟨σ₃, ?_, by simpa using F4, (S2'.trans (.app _)).trans S4⟩
  refine run_next (lc' := lc₃) rfl ?_
  show splitB [some (.loc m), some (.str f), some (.str s), some (.str sc), none, none] σ = _
  unfold splitB
  rw [seq_next e1, seq_next e2, seq_next e4, seq_nil]
end
end Mine.Internal
end
section
open PySem PySem.W PyProof.Rows PySem.Calls
namespace Mine.Internal
set_option tactic.hygienic false in
theorem strsOf_map (rows : List Str) : strsOf (rows.map AV.str) = some rows := by
  induction rows with
  | nil => rfl
  | cons r rows ih => simp [strsOf, ih]
noncomputable def textLen (rows : List Str) : Nat := (rows.map (·.length)).sum
set_option tactic.hygienic false in
theorem textLen_append (a b : List Str) : textLen (a ++ b) = textLen a + textLen b := by simp [textLen]
theorem lastSp_len (ps : List (Str × Str)) : partsLen (lastSp ps) ≤ partsLen ps := by
  unfold lastSp
  split
  · rename_i h; subst h; exact Int.le_of_eq (by decide)
  · split
    · exact partsLen_dropLast ps
    · exact Int.le_refl _
set_option tactic.hygienic false in
theorem nlRows_len (rows : List Str) (ini : Int) (ps : List (Str × Str)) : (nlRows rows ini ps).length ≤ rows.length + 1 := by
  unfold nlRows
  split
  · split
    · simp
    · simp
  · (first | lia | omega)
theorem nlRows_text (rows : List Str) (ini : Int) (ps : List (Str × Str)) : (textLen (nlRows rows ini ps) : Int) ≤ textLen rows + partsLen ps := by
  have h := lastSp_len ps
  have h0 := partsLen_nonneg (lastSp ps)
  have e := accText_len (lastSp ps)
  unfold nlRows
  split
  · split
    · rename_i hg
      rcases List.eq_nil_or_concat rows with rfl | ⟨rs, r, rfl⟩
      · simp at hg
      · rw [List.concat_eq_append]
        simp only [List.dropLast_concat, textLen_append]
        simp [textLen, str_len_eq]
        (first | lia | omega)
    · rw [textLen_append]
      simp [textLen]
      (first | lia | omega)
  · (first | lia | omega)
section
variable {σ : St} {m ln ac : Nat} {ml : Int} {cw : Str} {cwl : Int} {sp : Str} {rows : List Str} {ini : Int} {ps : List (Str × Str)}
set_option tactic.hygienic false in
theorem joinL_of {sep : Str} {rs : List Str} (hb : textLen rs + rs.length * sep.length ≤ 16777216) : joinF [.str sep, .lst (rs.map AV.str)] σ = some (.str (Txt.join sep rs), σ) := by
  unfold textLen at hb
  simp [joinF, asList, strsOf_map, hb]
end
set_option tactic.hygienic false in
theorem optAll_strs (σ : St) (n : Nat) (rs : List Str) : optAll (toPD σ n) (rs.map AV.str) = some (rs.map PyData.str) := by
  induction rs with
  | nil => rfl
  | cons r rs ih => cases n <;> simp [optAll, toPD, ih]
end Mine.Internal
end
section
open PySem PySem.W PyProof.Rows PySem.Calls
namespace Mine.Internal
structure WE (f : EM) (lc : Lc) (σ : St) (Q : AV → St → Prop) : Prop where
  run : ∃ v σ', f lc σ = some (v, σ') ∧ Q v σ'
structure WT (f : TM) (lc : Lc) (σ : St) (Q : Bool → St → Prop) : Prop where
  run : ∃ v σ', f lc σ = some (v, σ') ∧ Q v σ'
structure WL (f : List EM) (lc : Lc) (σ : St) (Q : List AV → St → Prop) : Prop where
  run : ∃ v σ', evs f lc σ = some (v, σ') ∧ Q v σ'
structure WF (F : FM) (xs : List AV) (σ : St) (Q : AV → St → Prop) : Prop where
  run : ∃ v σ', F xs σ = some (v, σ') ∧ Q v σ'
structure WS (f : SM) (lc : Lc) (σ : St) (Q : Fl → Lc → St → Prop) : Prop where
  run : ∃ fl lc' σ', f lc σ = some (fl, lc', σ') ∧ Q fl lc' σ'
section
variable {lc lc' : Lc} {σ σ' : St} {f g : EM} {F : FM} {QE : AV → St → Prop} {QT : Bool → St → Prop} {QL : List AV → St → Prop} {QS : Fl → Lc → St → Prop} {fs : List SM} {es : List EM} {v : AV}
set_option tactic.hygienic false in
theorem we (h : f lc σ = some (v, σ')) (k : QE v σ') : WE f lc σ QE := ⟨_, _, h, k⟩
set_option tactic.hygienic false in
theorem wt {t : TM} {b : Bool} (h : t lc σ = some (b, σ')) (k : QT b σ') : WT t lc σ QT := ⟨_, _, h, k⟩
set_option tactic.hygienic false in
theorem wf {xs : List AV} (h : F xs σ = some (v, σ')) (k : QE v σ') : WF F xs σ QE := ⟨_, _, h, k⟩
set_option tactic.hygienic false in
theorem wl_nil (k : QL [] σ) : WL [] lc σ QL := ⟨_, _, rfl, k⟩
set_option tactic.hygienic false in
theorem wl_cons (h : WE f lc σ fun v σ₁ => WL es lc σ₁ fun vs σ₂ => QL (v :: vs) σ₂) : WL (f :: es) lc σ QL := by
  obtain ⟨v, σ₁, e1, vs, σ₂, e2, k⟩ := h
  exact ⟨_, _, by simp only [evs, e1, e2], k⟩
set_option tactic.hygienic false in
theorem wl {xs : List AV} (h : evs es lc σ = some (xs, σ')) (k : QL xs σ') : WL es lc σ QL := ⟨_, _, h, k⟩
set_option tactic.hygienic false in
theorem we_call (h : WL es lc σ fun xs σ₁ => WF F xs σ₁ QE) : WE (callE F es) lc σ QE := by
  obtain ⟨v, σ₁, e1, x, σ₂, e2, k⟩ := h
  exact ⟨_, _, by simp only [callE, e1, e2], k⟩
set_option tactic.hygienic false in
theorem we_m {n : Nat} (h : WE f lc σ fun r σ₁ => kind σ₁ r = n ∧ WL es lc σ₁ fun xs σ₂ => WF F (r :: xs) σ₂ QE) : WE (mE n F f es) lc σ QE := by
  obtain ⟨r, σ₁, e1, hk, xs, σ₂, e2, x, σ₃, e3, k⟩ := h
  exact ⟨_, _, by simp only [mE, e1, hk, if_true, e2, e3], k⟩
set_option tactic.hygienic false in
theorem we_t {t : TM} (h : WT t lc σ fun b σ₁ => QE (.bool b) σ₁) : WE (tE t) lc σ QE := by
  obtain ⟨a, σ₁, e1, k⟩ := h
  exact ⟨_, _, by simp only [tE, e1]; rfl, k⟩
set_option tactic.hygienic false in
theorem wt_cmp {op : CmpOp} (h : WE f lc σ fun a σ₁ => WE g lc σ₁ fun b σ₂ => ∃ c, acmp σ₂ op a b = some c ∧ QT c σ₂) : WT (cmpT op f g) lc σ QT := by
  obtain ⟨a, σ₁, e1, b, σ₂, e2, v, e3, k⟩ := h
  exact ⟨_, _, by simp only [cmpT, e1, e2, e3]; rfl, k⟩
set_option tactic.hygienic false in
theorem we_and (h : WE f lc σ fun a σ₁ => ∃ c, atruth σ₁ a = some c ∧ match c with | true => WE g lc σ₁ QE | false => QE a σ₁) : WE (andE f g) lc σ QE := by
  obtain ⟨a, σ₁, e1, c, e2, k⟩ := h
  cases c with
  | false => exact ⟨_, _, by simp only [andE, e1, e2], k⟩
  | true => obtain ⟨b, σ₂, e3, k⟩ := k; exact ⟨_, _, by simp only [andE, e1, e2]; exact e3, k⟩
theorem ws_nil (k : QS .next lc σ) : WS (seqS []) lc σ QS := ⟨_, _, _, rfl, k⟩
set_option tactic.hygienic false in
theorem ws_asg {i : Nat} (h : WE f lc σ fun v σ₁ => ∃ lc', putL lc i v = some lc' ∧ WS (seqS fs) lc' σ₁ QS) : WS (seqS (asgS i f :: fs)) lc σ QS := by
  obtain ⟨v, σ₁, e1, lc', hl, fl, lc₂, σ₂, e2, k⟩ := h
  exact ⟨_, _, _, by rw [seq_next (by simp only [asgS, e1, hl]; rfl)]; exact e2, k⟩
set_option tactic.hygienic false in
theorem ws_expr (h : WE f lc σ fun _ σ₁ => WS (seqS fs) lc σ₁ QS) : WS (seqS (exprS f :: fs)) lc σ QS := by
  obtain ⟨v, σ₁, e1, fl, lc', σ₂, e2, k⟩ := h
  exact ⟨_, _, _, by rw [seq_next (expr_of e1)]; exact e2, k⟩
set_option tactic.hygienic false in
theorem ws_ret (h : WE f lc σ fun v σ₁ => QS (.ret v) lc σ₁) : WS (seqS (retS f :: fs)) lc σ QS := by
  obtain ⟨v, σ₁, e1, k⟩ := h
  exact ⟨_, _, _, by rw [seq_ret (by simp only [retS, e1]; rfl)], k⟩
theorem seq_flat {xs : List SM} : seqS (seqS xs :: fs) lc σ = seqS (xs ++ fs) lc σ := by
  induction xs generalizing lc σ with
  | nil => exact seq_next rfl
  | cons x xs ih =>
    rw [List.cons_append]
    cases e : x lc σ with
    | none => simp only [seqS, e]
    | some p =>
      obtain ⟨fl, lc₁, σ₁⟩ := p
      cases fl with
      | next => rw [seq_next e, ← ih]; simp only [seqS, e]
      | brk => rw [seq_brk e, seq_brk (seq_brk e)]
      | cont => rw [seq_cont e, seq_cont (seq_cont e)]
      | ret v => rw [seq_ret e, seq_ret (seq_ret e)]
set_option tactic.hygienic false in
theorem seq_head {s s' : SM} {σ' : St} (h : s lc σ = s' lc σ') : seqS (s :: fs) lc σ = seqS (s' :: fs) lc σ' := by unfold seqS; rw [h]
set_option tactic.hygienic false in
theorem ws_if {t : TM} {xs ys : List SM} (h : WT t lc σ fun b σ₁ => match b with | true => WS (seqS (xs ++ fs)) lc σ₁ QS | false => WS (seqS (ys ++ fs)) lc σ₁ QS) : WS (seqS (ifS t (seqS xs) (seqS ys) :: fs)) lc σ QS := by
  obtain ⟨a, σ₁, e1, k⟩ := h
  cases a with
  | true => obtain ⟨fl, lc₂, σ₂, e2, k⟩ := k; exact ⟨_, _, _, (seq_head (if_t e1)).trans (seq_flat.trans e2), k⟩
  | false => obtain ⟨fl, lc₂, σ₂, e2, k⟩ := k; exact ⟨_, _, _, (seq_head (if_f e1)).trans (seq_flat.trans e2), k⟩
set_option tactic.hygienic false in
theorem WS.imp {s : SM} {Q' : Fl → Lc → St → Prop} (h : WS s lc σ QS) (k : ∀ fl lc' σ', QS fl lc' σ' → Q' fl lc' σ') : WS s lc σ Q' := by
  obtain ⟨fl, lc', σ', e, q⟩ := h
  exact ⟨_, _, _, e, k _ _ _ q⟩
theorem wf_run {vars : List Str} {n : Nat} {B : SM} {xs : List AV} (hn : xs.length = n) (h : WS B (lc0 vars xs) σ fun fl _ σ' => match fl with | .ret v => QE v σ' | .next => QE .none σ' | _ => False) : WF (runF vars n B) xs σ QE := by
  obtain ⟨fl, lc', σ', e, k⟩ := h
  cases fl with
  | next => exact ⟨_, _, run_next hn e, k⟩
  | ret v => exact ⟨_, _, run_ret hn e, k⟩
  | brk => exact k.elim
  | cont => exact k.elim
theorem loop_inv {nx : St → Nat → Option (Option AV)} {st : Lc → AV → Option Lc} {B : SM} {n : Nat} (I : Nat → Lc → St → Prop)
    (hN : ∀ i lc σ, i < n → I i lc σ → ∃ x lc₁, nx σ i = some (some x) ∧ st lc x = some lc₁ ∧ WS B lc₁ σ fun fl lc₂ σ₂ => (fl = .next ∨ fl = .cont) ∧ I (i + 1) lc₂ σ₂)
    (hE : ∀ lc σ, I n lc σ → nx σ n = some none) : ∀ (k i fuel : Nat) (lc : Lc) (σ : St), k + i = n → k < fuel → I i lc σ → ∃ lc' σ', loopS nx st B (seqS []) fuel i lc σ = some (.next, lc', σ') ∧ I n lc' σ'
  | 0, i, fuel + 1, lc, σ, hk, hf, hI => by
    obtain rfl : i = n := by (first | lia | omega)
    exact ⟨lc, σ, by simp only [loopS, hE _ _ hI, seqS], hI⟩
  | k + 1, i, fuel + 1, lc, σ, hk, hf, hI => by
    obtain ⟨x, lc₁, e1, e2, fl, lc₂, σ₂, e3, hfl, hI'⟩ := hN i lc σ (by (first | lia | omega)) hI
    obtain ⟨lc', σ', e4, h4⟩ := loop_inv I hN hE k (i + 1) fuel lc₂ σ₂ (by (first | lia | omega)) (by (first | lia | omega)) hI'
    refine ⟨lc', σ', ?_, h4⟩
    rcases hfl with rfl | rfl
    · simp only [loopS, e1, e2, e3]; exact e4
    · simp only [loopS, e1, e2, e3]; exact e4
  | 0, _, 0, _, _, _, hf, _ => by (first | lia | omega)
  | _ + 1, _, 0, _, _, _, hf, _ => by (first | lia | omega)
theorem ws_forL {j : Nat} {B : SM} {xs : List AV} (I : Nat → Lc → St → Prop) (hx : f lc σ = some (.lst xs, σ')) (hn : xs.length < 1000000) (h0 : I 0 lc σ')
    (hN : ∀ i x lc σ, xs[i]? = some x → I i lc σ → ∃ lc₁, putL lc j x = some lc₁ ∧ WS B lc₁ σ fun fl lc₂ σ₂ => (fl = .next ∨ fl = .cont) ∧ I (i + 1) lc₂ σ₂)
    (hE : ∀ lc σ, I xs.length lc σ → WS (seqS fs) lc σ QS) : WS (seqS (forS j f B (seqS []) :: fs)) lc σ QS := by
  obtain ⟨lc', σ₂, e, h⟩ := loop_inv (nx := nxL (.lst xs)) (st := fun lc y => putL lc j y) (B := B) (n := xs.length) I
    (fun i lc σ hi hI => by
      (refine x1_2 (hN i xs[i] lc σ (List.getElem?_eq_getElem hi) hI) fun lc₁ a b => ?_)
      exact ⟨xs[i], lc₁, by simp [nxL, asList, List.getElem?_eq_getElem hi], a, b⟩)
    (fun lc σ _ => by simp [nxL, asList]) xs.length 0 1000000 lc σ' (by (first | lia | omega)) hn h0
  obtain ⟨fl, lc₃, σ₃, e3, k⟩ := hE _ _ h
  exact ⟨_, _, _, by rw [seq_next (by simp only [forS, hx, asList]; exact e)]; exact e3, k⟩
end
end Mine.Internal
end
section
open PySem PySem.W PyProof.Rows PySem.Calls
namespace Mine.Internal
set_option tactic.hygienic false in
theorem eqvAll_strs : ∀ (xs ys : List Str), PyData.eqvAll (xs.map PyData.str) (ys.map PyData.str) = decide (xs = ys)
  | [], [] => by simp [PyData.eqvAll]
  | [], y :: ys => by simp [PyData.eqvAll]
  | x :: xs, [] => by simp [PyData.eqvAll]
  | x :: xs, y :: ys => by
    rw [List.map_cons, List.map_cons, PyData.eqvAll, eqvAll_strs xs ys, PyData.eqv]
    by_cases h1 : x = y <;> by_cases h2 : xs = ys <;> simp [h1, h2]
set_option tactic.hygienic false in
theorem toPD_strs {σ : St} {n : Nat} (xs : List Str) : toPD σ (n + 1) (.lst (xs.map AV.str)) = some (.list (xs.map PyData.str)) := by
  rw [toPD, optAll_strs]; rfl
set_option tactic.hygienic false in
theorem toPD_list {σ : St} {n l : Nat} {xs : List Str} (h : σ[l]? = some (.list (xs.map AV.str))) : toPD σ (n + 1) (.loc l) = some (.list (xs.map PyData.str)) := by
  rw [toPD, h]; simp only [optAll_strs]; rfl
set_option tactic.hygienic false in
theorem aeqv_pd {σ : St} {a b : AV} {x y : PyData} (h1 : toPD σ 4 a = some x) (h2 : toPD σ 4 b = some y) : aeqv σ a b = some (PyData.eqv x y) := by simp only [aeqv, h1, h2]
set_option tactic.hygienic false in
theorem eqv_strs (xs ys : List Str) : PyData.eqv (.list (xs.map PyData.str)) (.list (ys.map PyData.str)) = decide (xs = ys) := by rw [PyData.eqv, eqvAll_strs]
set_option tactic.hygienic false in
theorem trans_spec {σ : St} {m ln ac : Nat} {ml : Int} {cw : Str} {cwl : Int} {sp : Str} {rows : List Str} {ini : Int} {ps : List (Str × Str)} (F : FmtAt σ m ln ac ml cw cwl sp rows ini ps) (H : Fits rows ini ps) :
    ∃ σ', transF [.loc m] σ = some (.none, σ') ∧ FmtAt σ' m ln ac ml cw cwl sp rows ini (ps ++ [((" " : Str), ("" : Str))]) ∧ Same [ln, ac] σ σ' ∧ σ'.length = σ.length := by
  refine ⟨_, ?_, F.setAcc ini (ps ++ [((" " : Str), ("" : Str))]), .set (by simp), by simp⟩
  have hp := H.p
  refine run_next (lc' := [some (.loc m)]) rfl ?_
  show seqS _ [some (.loc m)] σ = _
  rw [seq_next (expr_of (v := .none) (by rw [mLine (xs := [.str " ", .str ""]) rfl F rfl, push_eq F.acc (by (first | lia | omega))])), seq_nil]
set_option tactic.hygienic false in
theorem idx_lst {σ σ' σ'' : St} {lc : Lc} {f g : EM} {xs : List AV} {k : Nat} {i : Int} {v : AV} (hf : f lc σ = some (.lst xs, σ')) (hg : g lc σ' = some (.int i, σ'')) (hi : i = k) (hv : xs[k]? = some v) (hl : xs.length ≤ 1000000) : idxE f g lc σ = some (v, σ'') := by
  subst hi
  have hk := (List.getElem?_eq_some_iff.mp hv).1
  have es : seqIndex? (k : Int) xs.length = some k := sidx hk
  simp only [idxE, hf, hg, aget, asSeq, es]
  rw [if_pos (by (first | lia | omega)), Option.bind_some, hv]
  rfl
set_option tactic.hygienic false in
theorem eq_lists {σ : St} {l l' : Nat} {xs ys : List Str} (h : σ[l]? = some (.list (xs.map AV.str))) (h' : σ[l']? = some (.list (ys.map AV.str))) : acmp σ .Eq (.loc l) (.loc l') = some (decide (xs = ys)) := by
  show aeqv σ _ _ = _
  rw [aeqv_pd (toPD_list h) (toPD_list h'), eqv_strs]
set_option tactic.hygienic false in
theorem fmod_cases {x m : Int} (h : 0 < m) : 0 ≤ x.fmod m ∧ x.fmod m < m := ⟨Int.fmod_nonneg_of_pos _ h, Int.fmod_lt_of_pos _ h⟩
end Mine.Internal
end
section
open PySem PySem.W PyProof.Rows PySem.Calls
namespace Mine.Internal
noncomputable def p_law_stepFB : SM := (seqS [ifS (cmpT .Eq (binE .Mod (nE 1) (cE (.int 7))) (cE (.int 5))) (seqS [exprS (mE 3 transF (nE 0) [])]) (seqS [ifS (cmpT .Eq (binE .Mod (nE 1) (cE (.int 7))) (cE (.int 6))) (seqS [exprS (mE 3 newlineF (nE 0) [])]) (seqS [exprS (mE 3 splitF (nE 0) [(cE (.str "")), (idxE (lstE [(cE (.str "a")), (cE (.str " b")), (cE (.str " cc")), (cE (.str "ddd")), (cE (.str "  e"))]) (binE .Mod (nE 1) (cE (.int 7)))), (cE (.str ""))])])])])
noncomputable def p_law_stepF : FM := runF ["made", "x"] 2 p_law_stepFB
noncomputable def p_law_runFTurn1 : SM := (seqS [exprS (callE p_law_stepF [(nE 4), (nE 5)])])
noncomputable def p_law_runFB : SM := (seqS [asgS 4 (callE mkFmtF [(nE 1), (nE 2), (nE 3), (cE (.str " "))]),
 forS 5 (nE 0) p_law_runFTurn1 (seqS []),
 retS (nE 4)])
noncomputable def p_law_runF : FM := runF ["script", "name", "width", "ahead", "made", "x"] 4 p_law_runFB
noncomputable def lawFTurn1 : SM := (seqS [asgS 10 (mE 3 makeGenF (nE 6) []),
 exprS (callE p_law_stepF [(nE 6), (nE 9)]),
 asgS 8 (binE .Sub (binE .Sub (nE 3) (callE (lenF accLenF) [(callE (strF accStrF fmtStrF) [(attrE 5 (nE 6))])])) (iteE (cmpT .Eq (attrE 4 (nE 6)) (lstE [])) (nE 2) (cE (.int 0)))),
 asgS 11 (mE 3 makeGenF (nE 6) []),
 asgS 12 (lstE [(callE (nextF lenE0 lenE1) [(nE 10)]), (callE (nextF lenE0 lenE1) [(nE 10)]), (callE (nextF lenE0 lenE1) [(nE 11)]), (callE (nextF lenE0 lenE1) [(nE 11)]), (callE (nextF lenE0 lenE1) [(nE 11)]), (callE (nextF lenE0 lenE1) [(nE 7)])]),
 ifS (cmpT .NotEq (nE 12) (lstE [(nE 8), (nE 5), (nE 8), (nE 5), (nE 5), (nE 5)])) (seqS [retS (cE (.bool false))]) (seqS [])])
noncomputable def lawFB : SM := (seqS [asgS 1 (callE sumF [(nE 0)]),
 asgS 2 (binE .Mod (nE 1) (cE (.int 5))),
 asgS 3 (binE .Sub (binE .Mod (binE .FloorDiv (nE 1) (cE (.int 5))) (cE (.int 16))) (cE (.int 2))),
 asgS 4 (idxE (lstE [(cE (.str " ")), (cE (.str "\t")), (cE (.str "   ")), (cE (.str ""))]) (binE .Mod (binE .FloorDiv (nE 1) (cE (.int 80))) (cE (.int 4)))),
 asgS 5 (binE .Sub (nE 3) (callE (lenF accLenF) [(nE 4)])),
 asgS 6 (callE mkFmtF [(nE 2), (nE 3), (nE 4), (cE (.str " "))]),
 asgS 7 (mE 3 makeGenF (nE 6) []),
 ifS (cmpT .NotEq (callE (nextF lenE0 lenE1) [(nE 7)]) (binE .Sub (nE 3) (nE 2))) (seqS [retS (cE (.bool false))]) (seqS []),
 asgS 8 (binE .Sub (nE 3) (nE 2)),
 forS 9 (sliceE (nE 0) none (some (cE (.int 30)))) lawFTurn1 (seqS []),
 asgS 13 (callE p_law_runF [(sliceE (nE 0) none (some (cE (.int 30)))), (nE 2), (nE 3), (nE 4)]),
 exprS (mE 3 splitF (nE 13) [(cE (.str "")), (binE .Mult (cE (.str "x")) (callE maxF [(nE 8), (cE (.int 0))])), (cE (.str ""))]),
 asgS 14 (callE p_law_runF [(sliceE (nE 0) none (some (cE (.int 30)))), (nE 2), (nE 3), (nE 4)]),
 exprS (mE 3 splitF (nE 14) [(cE (.str "")), (binE .Mult (cE (.str "x")) (callE maxF [(binE .Add (nE 8) (cE (.int 1))), (cE (.int 1))])), (cE (.str ""))]),
 asgS 15 (sliceE (compE (attrE 5 (nE 6)) (idxE (nE 0) (cE (.int 0)))) (some (cE (.int 1))) none),
 asgS 16 (cE (.int 0)),
 ifS (orT [(andT [(cmpT .Gt (nE 2) (cE (.int 0))), (cmpT .Eq (attrE 4 (nE 6)) (lstE []))]), (cmpT .NotEq (mE 1 joinF (cE (.str "")) [(nE 15)]) (cE (.str "")))]) (seqS [asgS 16 (cE (.int 1))]) (seqS []),
 retS (andE (tE (cmpT .Eq (attrE 4 (nE 13)) (attrE 4 (nE 6)))) (tE (cmpT .Eq (callE (lenF accLenF) [(attrE 4 (nE 14))]) (binE .Add (callE (lenF accLenF) [(attrE 4 (nE 6))]) (nE 16)))))])
noncomputable def lawF : FM := runF ["script", "total", "name", "width", "ahead", "later", "made", "first", "room", "x", "early", "late", "told", "fits", "more", "blanks", "cut"] 1 lawFB
end Mine.Internal
end
section
open PySem PySem.W PyProof.Rows PySem.Calls
namespace Mine.Internal
structure Part6 (p : Str × Str) : Prop where
  st : p.1 = "" ∨ startsC p.1 32 = true
  en : endsC p.2 32 = false
theorem seekI_some {ps : List (Str × Str)} {c : Nat} : ∀ {k : Nat}, (seekI ps c k).isSome = true ↔ ∃ j, 1 ≤ j ∧ j ≤ k ∧ hitAt ps c j = true
  | 0 => ⟨fun h => (by cases h), fun ⟨j, a, b, _⟩ => absurd b (by (first | lia | omega))⟩
  | k + 1 => by
    unfold seekI
    split
    · rename_i h
      exact ⟨fun uu => ⟨k + 1, by (first | lia | omega), Nat.le_refl _, h⟩, fun uu => rfl⟩
    · rename_i h
      rw [seekI_some]
      constructor
      · rintro ⟨j, a, b, e⟩; exact ⟨j, a, by (first | lia | omega), e⟩
      · rintro ⟨j, a, b, e⟩
        rcases Nat.lt_or_eq_of_le b with b | b
        · exact ⟨j, a, by (first | lia | omega), e⟩
        · subst b; exact absurd e h
set_option tactic.hygienic false in
theorem hit6 {ps : List (Str × Str)} (g : ∀ p ∈ ps, Part6 p) (i : Nat) : hitAt ps 32 i = startsC (fstAt ps i) 32 := by
  have e : endsC (sndAt ps (i - 1)) 32 = false := by
    unfold sndAt
    cases h : ps[i - 1]? with
    | none => rfl
    | some p => exact (g p (List.mem_of_getElem? h)).en
  unfold hitAt
  rw [e, show Txt.isspace ⟨#[32]⟩ = true from by decide +kernel]
  simp
set_option tactic.hygienic false in
theorem seek6 {ps : List (Str × Str)} {x : Str} (g : ∀ p ∈ ps ++ [(("" : Str), x)], Part6 p) : (seek (ps ++ [(("" : Str), x)]) [32]).isSome = true ↔ ∃ p ∈ ps.drop 1, p.1 ≠ "" := by
  have e : seek (ps ++ [(("" : Str), x)]) [32] = seekI (ps ++ [(("" : Str), x)]) 32 ps.length := by
    unfold seek
    rw [List.length_append, List.length_singleton, Nat.add_sub_cancel]
    cases seekI (ps ++ [(("" : Str), x)]) 32 ps.length <;> rfl
  rw [e, seekI_some]
  constructor
  · rintro ⟨j, a, b, h⟩
    rw [hit6 g] at h
    rcases Nat.lt_or_eq_of_le b with b | b
    · have hj : (ps ++ [(("" : Str), x)])[j]? = some ps[j] := by rw [List.getElem?_append_left b, List.getElem?_eq_getElem b]
      unfold fstAt at h
      rw [hj] at h
      refine ⟨ps[j], ?_, fun z => ?_⟩
      · refine List.mem_iff_getElem?.mpr ⟨j - 1, ?_⟩
        rw [List.getElem?_drop, show 1 + (j - 1) = j by (first | lia | omega), List.getElem?_eq_getElem b]
      · have h : startsC ps[j].1 32 = true := h
        rw [z] at h; cases h
    · subst b
      unfold fstAt at h
      rw [List.getElem?_append_right (Nat.le_refl _), Nat.sub_self] at h
      cases h
  · rintro ⟨p, hp, hne⟩
    (refine x1_1 (List.mem_iff_getElem?.mp hp) fun j hj => ?_)
    rw [List.getElem?_drop] at hj
    have hl := (List.getElem?_eq_some_iff.mp hj).1
    refine ⟨1 + j, by (first | lia | omega), by (first | lia | omega), ?_⟩
    rw [hit6 g]
    unfold fstAt
    rw [List.getElem?_append_left hl, hj]
    rcases (g p (List.mem_append_left _ (List.mem_of_getElem? hj))).st with h | h
    · exact absurd h hne
    · exact h
end Mine.Internal
end
section
open PySem PySem.W PyProof.Rows PySem.Calls
namespace Mine.Internal
structure Inv6 (name : Int) (T : Nat) (st : St3) : Prop where
  a : st.1 = [] → st.2.1 = name
  b : st.1 ≠ [] → st.2.1 = 0
  g : ∀ p ∈ st.2.2, Part6 p
  n0 : 0 ≤ name
  n1 : name ≤ 4
  rl : st.1.length ≤ T
  pl : st.2.2.length ≤ T
  tl : (textLen st.1 : Int) + partsLen st.2.2 ≤ 4 * T
set_option tactic.hygienic false in
theorem nl_pos {rows : List Str} {ini : Int} {ps : List (Str × Str)} (h : 0 < ini) : nlRows rows ini ps = rows ++ [accText (lastSp ps)] := by
  have := partsLen_nonneg (lastSp ps)
  unfold nlRows
  rw [if_pos (by (first | lia | omega))]
  have e : onlySp ini (lastSp ps) = false := by
    unfold onlySp
    rw [show (ini == 0) = false from by simp; (first | lia | omega)]; rfl
  rw [e]; rfl
set_option tactic.hygienic false in
theorem more6 {ml ini : Int} {rows : List Str} {ps : List (Str × Str)} {x : Str} (g : ∀ p ∈ ps, Part6 p) (hx : endsC x 32 = false) (h : ml < ini + partsLen (ps ++ [(("" : Str), x)])) :
    (chunkP ml " " rows ini ps "" x).1.length = rows.length + (if 0 < ini ∨ ∃ p ∈ ps.drop 1, p.1 ≠ "" then 1 else 0) := by
  have g' : ∀ p ∈ ps ++ [(("" : Str), x)], Part6 p := by
    intro p hp
    rcases List.mem_append.mp hp with hp | hp
    · exact g p hp
    · cases List.mem_singleton.mp hp; exact ⟨.inl rfl, hx⟩
  have s := seek6 g'
  unfold chunkP
  rw [if_pos h, show ((" " : Str).cps.toList) = [32] from rfl]
  cases e : seek (ps ++ [(("" : Str), x)]) [32] with
  | some i =>
    rw [e] at s
    have c : 0 < ini ∨ ∃ p ∈ ps.drop 1, p.1 ≠ "" := .inr (s.mp rfl)
    rw [if_pos c]
    simp
  | none =>
    rw [e] at s
    have ns : ¬ ∃ p ∈ ps.drop 1, p.1 ≠ "" := fun z => by cases s.mpr z
    dsimp only
    by_cases hi : 0 < ini
    · have c : 0 < ini ∨ ∃ p ∈ ps.drop 1, p.1 ≠ "" := .inl hi
      rw [if_pos hi, if_pos c, nl_pos hi]; simp
    · have c : ¬ (0 < ini ∨ ∃ p ∈ ps.drop 1, p.1 ≠ "") := fun z => z.elim hi ns
      rw [if_neg hi, if_neg c]; rfl
end Mine.Internal
end
section
open PySem PySem.W PyProof.Rows PySem.Calls
namespace Mine.Internal
set_option tactic.hygienic false in
theorem accText_take_drop (ps : List (Str × Str)) (i : Nat) : ((accText (ps.take i)).length : Int) + partsLen (ps.drop i) = partsLen ps := by
  have h := accText_len (ps.take i)
  have e := partsLen_append (ps.take i) (ps.drop i)
  rw [List.take_append_drop] at e
  (first | lia | omega)
theorem chunk6 {ml name : Int} {T : Nat} {st : St3} {f s : Str} (I : Inv6 name T st) (hp : Part6 (f, s)) (hl : partLen (f, s) ≤ 3) : Inv6 name (T + 1) (chunkP ml " " st.1 st.2.1 st.2.2 f s) := by
  obtain ⟨rows, ini, ps⟩ := st
  obtain ⟨a, b, g, n0, n1, rl, pl, tl⟩ := I
  dsimp only at a b g rl pl tl ⊢
  have g' : ∀ p ∈ ps ++ [(f, s)], Part6 p := by
    intro p hq
    rcases List.mem_append.mp hq with hq | hq
    · exact g p hq
    · cases List.mem_singleton.mp hq; exact hp
  have hL : partsLen (ps ++ [(f, s)]) = partsLen ps + partLen (f, s) := by rw [partsLen_append, partsLen_cons, partsLen_nil]; (first | lia | omega)
  have base : Inv6 name (T + 1) (rows, ini, ps ++ [(f, s)]) := ⟨a, b, g', n0, n1, by dsimp only; (first | lia | omega), by simp; (first | lia | omega), by dsimp only; (first | lia | omega)⟩
  unfold chunkP
  split
  · split
    · rename_i i _
      refine ⟨fun z => by simp at z, fun uu => rfl, fun p hq => g' p (List.mem_of_mem_drop hq), n0, n1, by simp; (first | lia | omega), by simp; (first | lia | omega), ?_⟩
      have := accText_take_drop (ps ++ [(f, s)]) i
      dsimp only
      rw [textLen_append]
      have e : textLen [accText ((ps ++ [(f, s)]).take i)] = (accText ((ps ++ [(f, s)]).take i)).length := by simp [textLen]
      rw [e]
      (first | lia | omega)
    · split
      · rename_i hi
        have t := nlRows_text rows ini ps
        have l := nlRows_len rows ini ps
        rw [nl_pos hi] at t l ⊢
        refine ⟨fun z => by simp at z, fun uu => rfl, fun p hq => ?_, n0, n1, by dsimp only; (first | lia | omega), by simp, ?_⟩
        · cases List.mem_singleton.mp hq
          refine ⟨?_, hp.en⟩
          dsimp only
          split
          · exact .inr rfl
          · exact hp.st
        · dsimp only
          have hf : partLen (if f.length = 0 then " " else f, s) ≤ 4 := by
            unfold partLen at hl ⊢
            dsimp only at hl ⊢
            split
            · have : ((" " : Str).length : Int) = 1 := rfl
              (first | lia | omega)
            · (first | lia | omega)
          rw [partsLen_cons, partsLen_nil]
          (first | lia | omega)
      · exact base
  · exact base
set_option tactic.hygienic false in
theorem trans6 {name : Int} {T : Nat} {st : St3} (I : Inv6 name T st) : Inv6 name (T + 1) (st.1, st.2.1, st.2.2 ++ [((" " : Str), ("" : Str))]) := by
  obtain ⟨rows, ini, ps⟩ := st
  obtain ⟨a, b, g, n0, n1, rl, pl, tl⟩ := I
  dsimp only at a b g rl pl tl ⊢
  have e : partLen ((" " : Str), ("" : Str)) = 1 := rfl
  refine ⟨a, b, fun p hq => ?_, n0, n1, by dsimp only; (first | lia | omega), by simp; (first | lia | omega), by dsimp only; rw [partsLen_append, partsLen_cons, partsLen_nil]; (first | lia | omega)⟩
  rcases List.mem_append.mp hq with hq | hq
  · exact g p hq
  · cases List.mem_singleton.mp hq; exact ⟨.inr rfl, rfl⟩
set_option tactic.hygienic false in
theorem nl6 {name : Int} {T : Nat} {st : St3} (I : Inv6 name T st) : Inv6 name (T + 1) (nlRows st.1 st.2.1 st.2.2, 0, []) := by
  obtain ⟨rows, ini, ps⟩ := st
  obtain ⟨a, b, g, n0, n1, rl, pl, tl⟩ := I
  dsimp only at a b g rl pl tl ⊢
  have t := nlRows_text rows ini ps
  have l := nlRows_len rows ini ps
  refine ⟨fun z => ?_, fun uu => rfl, (fun p hq => nomatch hq), n0, n1, by dsimp only; (first | lia | omega), by simp, by dsimp only; rw [partsLen_nil]; (first | lia | omega)⟩
  dsimp only at z ⊢
  by_cases hi : 0 < ini
  · rw [nl_pos hi] at z; simp at z
  · by_cases hr : rows = []
    · have := a hr; (first | lia | omega)
    · exfalso
      unfold nlRows at z
      split at z
      · split at z
        · simp at z
        · simp at z
      · exact hr z
end Mine.Internal
end
section
open PySem PySem.W PyProof.Rows PySem.Calls
namespace Mine.Internal
noncomputable def words6 : List Str := ["a", " b", " cc", "ddd", "  e"]
noncomputable def parts6 : List (Str × Str) := [("", "a"), (" ", "b"), (" ", "cc"), ("", "ddd"), ("  ", "e")]
structure One (w : Str) (p : Str × Str) : Prop where
  cut : ∃ ys, wsSplit ("" ++ w) = some ys ∧ ys ≠ [] ∧ ys.length ≤ 100000 ∧ (ys.headD "").length ≤ 100000 ∧ pieces ys = flatP [p]
  len : ("" : Str).length + w.length ≤ 100000
set_option tactic.hygienic false in
theorem One.of {w : Str} {p : Str × Str} (ys : List Str) (h : wsSplit ("" ++ w) = some ys) (c : (!ys.isEmpty && decide (ys.length ≤ 100000) && decide ((ys.headD "").length ≤ 100000) && (pieces ys == flatP [p]) && decide (("" : Str).length + w.length ≤ 100000)) = true) : One w p := by
  simp only [Bool.and_eq_true, decide_eq_true_eq, beq_iff_eq] at c
  exact ⟨⟨ys, h, by intro z; rw [z] at c; simp at c, c.1.1.1.2, c.1.1.2, c.1.2⟩, c.2⟩
set_option tactic.hygienic false in
theorem word6 {k : Nat} (h : k < 5) : ∃ w p, words6[k]? = some w ∧ parts6[k]? = some p ∧ One w p ∧ Part6 p ∧ partLen p ≤ 3 := by
  have h0 : ∃ w p, words6[0]? = some w ∧ parts6[0]? = some p ∧ One w p ∧ Part6 p ∧ partLen p ≤ 3 := ⟨_, _, rfl, rfl, .of ["a"] (by decide +kernel) (by decide +kernel), ⟨.inl rfl, by decide +kernel⟩, by decide +kernel⟩
  have h1 : ∃ w p, words6[1]? = some w ∧ parts6[1]? = some p ∧ One w p ∧ Part6 p ∧ partLen p ≤ 3 := ⟨_, _, rfl, rfl, .of ["", " ", "b"] (by decide +kernel) (by decide +kernel), ⟨.inr (by decide +kernel), by decide +kernel⟩, by decide +kernel⟩
  have h2 : ∃ w p, words6[2]? = some w ∧ parts6[2]? = some p ∧ One w p ∧ Part6 p ∧ partLen p ≤ 3 := ⟨_, _, rfl, rfl, .of ["", " ", "cc"] (by decide +kernel) (by decide +kernel), ⟨.inr (by decide +kernel), by decide +kernel⟩, by decide +kernel⟩
  have h3 : ∃ w p, words6[3]? = some w ∧ parts6[3]? = some p ∧ One w p ∧ Part6 p ∧ partLen p ≤ 3 := ⟨_, _, rfl, rfl, .of ["ddd"] (by decide +kernel) (by decide +kernel), ⟨.inl rfl, by decide +kernel⟩, by decide +kernel⟩
  have h4 : ∃ w p, words6[4]? = some w ∧ parts6[4]? = some p ∧ One w p ∧ Part6 p ∧ partLen p ≤ 3 := ⟨_, _, rfl, rfl, .of ["", "  ", "e"] (by decide +kernel) (by decide +kernel), ⟨.inr (by decide +kernel), by decide +kernel⟩, by decide +kernel⟩
  exact upTo (P := fun k => ∃ w p, words6[k]? = some w ∧ parts6[k]? = some p ∧ One w p ∧ Part6 p ∧ partLen p ≤ 3) 4 (upTo 3 (upTo 2 (upTo 1 (upTo 0 upTo0 h0) h1) h2) h3) h4 k h
end Mine.Internal
end
section
open PySem PySem.W PyProof.Rows PySem.Calls
namespace Mine.Internal
noncomputable def stepP (ml : Int) (x : Int) (st : St3) : St3 := if x.fmod 7 = 5 then (st.1, st.2.1, st.2.2 ++ [((" " : Str), ("" : Str))]) else if x.fmod 7 = 6 then (nlRows st.1 st.2.1 st.2.2, 0, []) else
  chunkP ml " " st.1 st.2.1 st.2.2 ((parts6[(x.fmod 7).toNat]?).getD ("", "")).1 ((parts6[(x.fmod 7).toNat]?).getD ("", "")).2
section
variable {σ : St} {m ln ac T : Nat} {ml cwl name x : Int} {cw : Str} {st : St3}
set_option tactic.hygienic false in
theorem Inv6.ini (I : Inv6 name T st) : 0 ≤ st.2.1 ∧ st.2.1 ≤ 4 := by
  have := I.n0; have := I.n1
  by_cases h : st.1 = []
  · rw [I.a h]; (first | lia | omega)
  · rw [I.b h]; (first | lia | omega)
set_option tactic.hygienic false in
theorem Inv6.fits (I : Inv6 name T st) (hT : T ≤ 1000) {qs : List (Str × Str)} (hq : partsLen qs ≤ 100) (hl : qs.length ≤ 100) : Fits st.1 st.2.1 (st.2.2 ++ qs) := by
  (refine x0_2 (I.ini) fun i0 i1 => ?_)
  have := I.rl; have := I.pl; have := I.tl; have := partsLen_nonneg st.2.2
  exact ⟨by (first | lia | omega), by show textLen st.1 ≤ _; (first | lia | omega), by rw [List.length_append]; (first | lia | omega), by rw [partsLen_append]; (first | lia | omega), i0, by (first | lia | omega)⟩
set_option tactic.hygienic false in
theorem Inv6.fits0 (I : Inv6 name T st) (hT : T ≤ 1000) : Fits st.1 st.2.1 st.2.2 := by
  have := I.fits hT (qs := []) (by decide) (by decide)
  rwa [List.append_nil] at this
set_option tactic.hygienic false in
theorem lay6 {w sc : Str} {p : Str × Str} (F : FAt σ m ln ac ml cw cwl " " st) (I : Inv6 name T st) (hT : T ≤ 1000) (O : One w p) (hp : partLen p ≤ 100) :
    ∃ σ', splitF [.loc m, .str "", .str w, .str sc] σ = some (.none, σ') ∧ FAt σ' m ln ac ml cw cwl " " (chunkP ml " " st.1 st.2.1 st.2.2 p.1 p.2) ∧ Same [ln, ac] σ σ' := by
  (refine x1_5 (O.cut) fun ys h1 h2 h3 h4 h5 => ?_)
  exact split_spec (qs := [p]) F (by decide) O.len h1 h2 h3 h4 h5 ⟨I.fits hT (by rw [partsLen_cons, partsLen_nil]; (first | lia | omega)) (by simp), trivial⟩
set_option tactic.hygienic false in
theorem step6 (F : FAt σ m ln ac ml cw cwl " " st) (I : Inv6 name T st) (hT : T ≤ 1000) :
    ∃ σ', p_law_stepF [.loc m, .int x] σ = some (.none, σ') ∧ FAt σ' m ln ac ml cw cwl " " (stepP ml x st) ∧ Same [ln, ac] σ σ' ∧ Inv6 name (T + 1) (stepP ml x st) := by
  suffices h : WF p_law_stepF [.loc m, .int x] σ fun v σ' => v = .none ∧ FAt σ' m ln ac ml cw cwl " " (stepP ml x st) ∧ Same [ln, ac] σ σ' ∧ Inv6 name (T + 1) (stepP ml x st) by
    obtain ⟨v, σ', e, rfl, r⟩ := h
    exact ⟨σ', e, r⟩
  refine wf_run rfl ?_
  show WS p_law_stepFB [some (.loc m), some (.int x)] σ _
  unfold p_law_stepFB
  have c5 : ∀ k : Int, cmpT .Eq (binE .Mod (nE 1) (cE (.int 7))) (cE (.int k)) [some (.loc m), some (.int x)] σ = some (decide (x.fmod 7 = k), σ) := by
    intro k
    simp [cmpT, binE, nE, cE, abin, twoI, acmp, aeqv, toPD, PyData.eqv]
    rfl
  have H := I.fits0 hT
  have km : kind σ (.loc m) = 3 := by simp [kind, F.fm]
  unfold stepP
  refine ws_if (wt (c5 5) ?_)
  by_cases h5 : x.fmod 7 = 5
  · rw [decide_eq_true h5, if_pos h5]
    (refine x1_4 (trans_spec F H) fun σ' e F' S' uu => ?_)
    exact ws_expr (we_m (we (v := .loc m) (σ' := σ) rfl ⟨km, wl (xs := []) rfl (wf e (ws_nil ⟨rfl, F', S', trans6 I⟩))⟩))
  · rw [decide_eq_false h5, if_neg h5]
    refine ws_if (wt (c5 6) ?_)
    by_cases h6 : x.fmod 7 = 6
    · rw [decide_eq_true h6, if_pos h6]
      (refine x1_4 (newline_spec F H) fun σ' e F' S' uu => ?_)
      exact ws_expr (we_m (we (v := .loc m) (σ' := σ) rfl ⟨km, wl (xs := []) rfl (wf e (ws_nil ⟨rfl, F', S', nl6 I⟩))⟩))
    · rw [decide_eq_false h6, if_neg h6]
      obtain ⟨k0, k1⟩ := fmod_cases (x := x) (show (0 : Int) < 7 by decide)
      obtain ⟨k, hk⟩ : ∃ k : Nat, x.fmod 7 = k := ⟨(x.fmod 7).toNat, by (first | lia | omega)⟩
      obtain ⟨w, p, hw, hp, O, P, hl⟩ := word6 (k := k) (by (first | lia | omega))
      rw [hk, Int.toNat_natCast, hp]
      obtain ⟨σ', e, F', S'⟩ := lay6 (sc := "") F I hT O (by (first | lia | omega))
      have ix : idxE (lstE [(cE (.str "a")), (cE (.str " b")), (cE (.str " cc")), (cE (.str "ddd")), (cE (.str "  e"))]) (binE .Mod (nE 1) (cE (.int 7))) [some (.loc m), some (.int x)] σ = some (.str w, σ) :=
        idx_lst (xs := words6.map AV.str) (i := x.fmod 7) (σ' := σ) rfl (by simp [binE, nE, cE, abin, twoI]) hk (by rw [List.getElem?_map, hw]; rfl) (by decide)
      refine ws_expr (we_m (we (v := .loc m) (σ' := σ) rfl ⟨km, wl (xs := [.str "", .str w, .str ""]) (σ' := σ) ?_ (wf e (ws_nil ⟨rfl, F', S', chunk6 I P hl⟩))⟩))
      simp only [evs, ix, show ∀ (v : AV) (lc : Lc) (σ : St), cE v lc σ = some (v, σ) from fun uu uu uu => rfl]
end
end Mine.Internal
end
section
open PySem PySem.W PyProof.Rows PySem.Calls
namespace Mine.Internal
set_option tactic.hygienic false in
theorem intsOf_map (ns : List Int) : intsOf (ns.map AV.int) = some ns := by
  induction ns with
  | nil => rfl
  | cons n ns ih => simp [intsOf, ih]
set_option tactic.hygienic false in
theorem mF {lc : Lc} {σ : St} {l : Nat} {ml : Int} {cw : Str} {cwl : Int} {sp : Str} {ln ac : Nat} {f : EM} {G : FM} {es : List EM} {xs : List AV} {Q : AV → St → Prop} (hf : f lc σ = some (.loc l, σ)) (hl : σ[l]? = some (.fmt ml cw cwl sp ln ac)) (he : evs es lc σ = some (xs, σ)) (k : WF G (.loc l :: xs) σ Q) : WE (mE 3 G f es) lc σ Q :=
  we_m (we hf ⟨by simp [kind, hl], wl he k⟩)
noncomputable def run6P (ml name : Int) (ns : List Int) : St3 := ns.foldl (fun st x => stepP ml x st) ([], name, [])
set_option tactic.hygienic false in
theorem run6P_snoc (ml name : Int) (ns : List Int) (x : Int) : run6P ml name (ns ++ [x]) = stepP ml x (run6P ml name ns) := by unfold run6P; rw [List.foldl_append]; rfl
set_option tactic.hygienic false in
theorem Same.fresh {X : List Nat} {σ δ σ' : St} (h : Same X (σ ++ δ) σ') (hX : ∀ k ∈ X, σ.length ≤ k) : Same [] σ σ' := by
  refine ⟨by have := h.1; rw [List.length_append] at this; (first | lia | omega), fun k uu hl => ?_⟩
  rw [h.2 k (fun z => by have := hX k z; (first | lia | omega)) (by rw [List.length_append]; (first | lia | omega)), List.getElem?_append_left hl]
set_option tactic.hygienic false in
theorem inv0 {name : Int} (n0 : 0 ≤ name) (n1 : name ≤ 4) : Inv6 name 0 ([], name, []) := ⟨fun uu => rfl, fun z => absurd rfl z, (fun uu h => nomatch h), n0, n1, by simp, by simp, by simp [textLen, partsLen_nil]⟩
set_option tactic.hygienic false in
theorem run6 {σ : St} {ns : List Int} {name w : Int} {cw : Str} (hn : ns.length ≤ 100) (n0 : 0 ≤ name) (n1 : name ≤ 4) (hcw : cw.length ≤ 1000) :
    ∃ σ', p_law_runF [.lst (ns.map AV.int), .int name, .int w, .str cw] σ = some (.loc (σ.length + 2), σ') ∧ FAt σ' (σ.length + 2) σ.length (σ.length + 1) w cw cw.length " " (run6P w name ns) ∧ Same [] σ σ' ∧ Inv6 name ns.length (run6P w name ns) := by
  suffices h : WF p_law_runF [.lst (ns.map AV.int), .int name, .int w, .str cw] σ fun v σ' => v = .loc (σ.length + 2) ∧ FAt σ' (σ.length + 2) σ.length (σ.length + 1) w cw cw.length " " (run6P w name ns) ∧ Same [] σ σ' ∧ Inv6 name ns.length (run6P w name ns) by
    obtain ⟨v, σ', e, rfl, r⟩ := h
    exact ⟨σ', e, r⟩
  refine wf_run rfl ?_
  show WS p_law_runFB [some (.lst (ns.map AV.int)), some (.int name), some (.int w), some (.str cw), none, none] σ _
  unfold p_law_runFB
  have hc : cw.length ≤ 1000000 := by (first | lia | omega)
  have mk : mkFmtF [.int name, .int w, .str cw, .str " "] σ = some (.loc (σ.length + 2), σ ++ [.list [], .acc name [], .fmt w cw cw.length " " σ.length (σ.length + 1)]) := by
    show (if cw.length ≤ 1000000 then _ else _) = _
    rw [if_pos hc]
  refine ws_asg (we_call (wl (xs := [.int name, .int w, .str cw, .str " "]) (σ' := σ) rfl (wf mk ⟨[some (.lst (ns.map AV.int)), some (.int name), some (.int w), some (.str cw), some (.loc (σ.length + 2)), none], rfl, ?_⟩)))
  have F0 : FAt (σ ++ [.list [], .acc name [], .fmt w cw cw.length " " σ.length (σ.length + 1)]) (σ.length + 2) σ.length (σ.length + 1) w cw cw.length " " ([], name, []) := by
    refine ⟨?_, ?_, ?_⟩
    · rw [List.getElem?_append_right (by (first | lia | omega)), Nat.add_sub_cancel_left]; rfl
    · rw [List.getElem?_append_right (by (first | lia | omega)), Nat.sub_self]; rfl
    · rw [List.getElem?_append_right (by (first | lia | omega)), Nat.add_sub_cancel_left]; rfl
  refine ws_forL (xs := ns.map AV.int) (σ' := σ ++ [.list [], .acc name [], .fmt w cw cw.length " " σ.length (σ.length + 1)]) (fun i lc τ => ∃ b, lc = [some (.lst (ns.map AV.int)), some (.int name), some (.int w), some (.str cw), some (.loc (σ.length + 2)), b] ∧ FAt τ (σ.length + 2) σ.length (σ.length + 1) w cw cw.length " " (run6P w name (ns.take i)) ∧ Same [σ.length, σ.length + 1] (σ ++ [.list [], .acc name [], .fmt w cw cw.length " " σ.length (σ.length + 1)]) τ ∧ Inv6 name i (run6P w name (ns.take i))) rfl (by simp; (first | lia | omega)) ⟨none, rfl, F0, .refl, inv0 n0 n1⟩ ?_ ?_
  · rintro i x _ τ hx ⟨b, rfl, F, S, I⟩
    rw [List.getElem?_map] at hx
    (refine x1_2 (Option.map_eq_some_iff.mp hx) fun y hy rr2 => ?_; subst rr2)
    have hi := (List.getElem?_eq_some_iff.mp hy).1
    obtain ⟨τ', e, F', S', I'⟩ := step6 (x := y) F I (by (first | lia | omega))
    refine ⟨[some (.lst (ns.map AV.int)), some (.int name), some (.int w), some (.str cw), some (.loc (σ.length + 2)), some (.int y)], rfl, ?_⟩
    unfold p_law_runFTurn1
    have et : ns.take (i + 1) = ns.take i ++ [y] := by rw [List.take_add_one, hy]; rfl
    refine ws_expr (we_call (wl (xs := [.loc (σ.length + 2), .int y]) (σ' := τ) rfl (wf e (ws_nil ⟨.inl rfl, some (.int y), rfl, ?_, S.trans S', ?_⟩))))
    · rw [et, run6P_snoc]; exact F'
    · rw [et, run6P_snoc]; exact I'
  · rintro _ τ ⟨b, rfl, F, S, I⟩
    rw [List.length_map] at F I
    rw [List.take_length] at F I
    refine ws_ret (we (v := .loc (σ.length + 2)) (σ' := τ) rfl ⟨rfl, F, S.fresh (by intro k hk; simp at hk; (first | lia | omega)), I⟩)
section
variable {σ : St} {m ln ac l k : Nat} {ml cwl : Int} {cw sp : Str} {st : St3} {o : AO}
set_option tactic.hygienic false in
theorem FAt.gen (F : FAt σ m ln ac ml cw cwl sp st) (hl : σ[l]? = some (.gen m k)) (o : AO) : FAt (σ.set l o) m ln ac ml cw cwl sp st := by
  refine FmtAt.keep F (X := [l]) (.set (by simp)) ?_ ?_ ?_
  · intro h; simp at h; subst h; have := F.fm; rw [hl] at this; cases this
  · intro h; simp at h; subst h; have := F.li; rw [hl] at this; cases this
  · intro h; simp at h; subst h; have := F.acc; rw [hl] at this; cases this
set_option tactic.hygienic false in
theorem next_eq {v : Int} {e : EM} (hl : σ[l]? = some (.gen m k)) (he : (bif k == 0 then lenE0 else lenE1) = e) (h : ∀ n, e [some (.loc m)] (σ.set l (.out n)) = some (.int v, σ.set l (.out n))) : nextF lenE0 lenE1 [.loc l] σ = some (.int v, σ.set l (.gen m (k + 1))) := by
  have p := pickI_eq (P := fun v => ∀ n, (bif k == 0 then lenE0 else lenE1) [some (.loc m)] (σ.set l (.out n)) = some (.int v, σ.set l (.out n))) (v := v) (by rw [he]; exact h) fun u hu => by
    have := hu 0
    rw [he, h 0] at this
    cases this; rfl
  simp only [nextF, hl, p, Option.map_some]
set_option tactic.hygienic false in
theorem next0 (F : FAt σ m ln ac ml cw cwl sp st) (H : Fits st.1 st.2.1 st.2.2) (hl : σ[l]? = some (.gen m 0)) : nextF lenE0 lenE1 [.loc l] σ = some (.int (ml - (st.2.1 + partsLen st.2.2)), σ.set l (.gen m 1)) :=
  next_eq (e := lenE0) hl rfl fun n => by
    have F' := F.gen hl (.out n)
    have a : attrE 0 (nE 0) [some (.loc m)] (σ.set l (.out n)) = some (.int ml, σ.set l (.out n)) := by simp [attrE, nE, F'.fm, attrOf, fmtAttrs]
    unfold lenE0
    simp only [binE, a, lenLine_eq (lc := [some (.loc m)]) rfl F' H, abin, twoI, Option.map_some]
set_option tactic.hygienic false in
theorem next1 (F : FAt σ m ln ac ml cw cwl sp st) (hl : σ[l]? = some (.gen m (k + 1))) : nextF lenE0 lenE1 [.loc l] σ = some (.int (ml - cwl), σ.set l (.gen m (k + 2))) :=
  next_eq (e := lenE1) hl rfl fun n => by
    have F' := F.gen hl (.out n)
    have a : attrE 0 (nE 0) [some (.loc m)] (σ.set l (.out n)) = some (.int ml, σ.set l (.out n)) := by simp [attrE, nE, F'.fm, attrOf, fmtAttrs]
    have b : attrE 2 (nE 0) [some (.loc m)] (σ.set l (.out n)) = some (.int cwl, σ.set l (.out n)) := by simp [attrE, nE, F'.fm, attrOf, fmtAttrs]
    unfold lenE1
    simp only [binE, a, b, abin, twoI, Option.map_some]
set_option tactic.hygienic false in
theorem make6 (F : FAt σ m ln ac ml cw cwl sp st) : makeGenF [.loc m] σ = some (.loc σ.length, σ ++ [.gen m 0]) := by simp [makeGenF, F.fm]
end
end Mine.Internal
end
section
open PySem PySem.W PyProof.Rows PySem.Calls
namespace Mine.Internal
noncomputable abbrev lc6 (scr tot : Option AV) (name w : Int) (cw : Str) (later : Int) (room : Int) (x e l t : Option AV) : Lc := [scr, tot, some (.int name), some (.int w), some (.str cw), some (.int later), some (.loc 2), some (.loc 3), some (.int room), x, e, l, t, none, none, none, none]
set_option tactic.hygienic false in
theorem we_lst {es : List EM} {lc : Lc} {σ : St} {Q : AV → St → Prop} (h : WL es lc σ fun xs σ₁ => xs.length ≤ sizeLine ∧ Q (.lst xs) σ₁) : WE (lstE es) lc σ Q := by
  obtain ⟨xs, σ₁, e, hs, k⟩ := h
  exact ⟨_, _, by simp only [lstE, e, if_pos hs], k⟩
structure T6 (w name cwl : Int) (cw : Str) (T : Nat) (σ : St) (st : St3) : Prop where
  F : FAt σ 2 0 1 w cw cwl " " st
  g : σ[3]? = some (.gen 2 (T + 1))
  I : Inv6 name T st
noncomputable def roomP (w : Int) (st : St3) : Int := w - (st.2.1 + partsLen st.2.2)
section
variable {σ : St} {w name cwl room : Int} {cw : Str} {T : Nat} {st : St3} {scr tot a10 a11 a12 : Option AV} {x : Int}
set_option tactic.hygienic false in
theorem Inv6.iniEq (I : Inv6 name T st) : (if st.1 = [] then name else 0) = st.2.1 := by
  by_cases h : st.1 = []
  · rw [if_pos h, I.a h]
  · rw [if_neg h, I.b h]
set_option tactic.hygienic false in
theorem nilT {lc : Lc} {f : EM} (F : FAt σ 2 0 1 w cw cwl " " st) (hf : f lc σ = some (.loc 2, σ)) : cmpT .Eq (attrE 4 f) (lstE []) lc σ = some (decide (st.1 = []), σ) := by
  have e : acmp σ .Eq (.loc 0) (.lst []) = some (decide (st.1 = [])) := by
    show aeqv σ _ _ = _
    have q : toPD σ 4 (.lst []) = some (.list []) := toPD_strs (σ := σ) (n := 3) []
    rw [aeqv_pd (toPD_list F.li) q, show ([] : List PyData) = ([] : List Str).map PyData.str from rfl, eqv_strs]
  simp only [cmpT, attrLines hf F, lstE, evs, List.length_nil, Nat.zero_le, if_true, e, Option.map_some]
set_option tactic.hygienic false in
theorem told6 {a b : Int} {σ : St} {lc : Lc} (h8 : lc[8]? = some (some (.int a))) (h5 : lc[5]? = some (some (.int b))) (h12 : lc[12]? = some (some (.lst [.int a, .int b, .int a, .int b, .int b, .int b]))) :
    cmpT .NotEq (nE 12) (lstE [(nE 8), (nE 5), (nE 8), (nE 5), (nE 5), (nE 5)]) lc σ = some (false, σ) := by
  simp [cmpT, nE, lstE, evs, h8, h5, h12, sizeLine_eq, acmp, aeqv, toPD, optAll, PyData.eqv, PyData.eqvAll]
theorem turn6 (I : T6 w name cwl cw T σ st) (hT : T ≤ 30) :
    WS lawFTurn1 (lc6 scr tot name w cw (w - cwl) room (some (.int x)) a10 a11 a12) σ fun fl lc' σ' => (fl = .next ∨ fl = .cont) ∧ ∃ b10 b11 b12, lc' = lc6 scr tot name w cw (w - cwl) (roomP w (stepP w x st)) (some (.int x)) b10 b11 b12 ∧ T6 w name cwl cw (T + 1) σ' (stepP w x st) := by
  unfold lawFTurn1
  obtain ⟨F, g, I⟩ := I
  have h3 := (List.getElem?_eq_some_iff.mp g).1
  refine ws_asg (mF (l := 2) rfl F.fm (xs := []) rfl (wf (make6 F) ⟨lc6 scr tot name w cw (w - cwl) room (some (.int x)) (some (.loc σ.length)) a11 a12, rfl, ?_⟩))
  have F1 : FAt (σ ++ [.gen 2 0]) 2 0 1 w cw cwl " " st := FmtAt.keep F (X := []) (.app _) (by simp) (by simp) (by simp)
  have g1 : (σ ++ [.gen 2 0])[3]? = some (.gen 2 (T + 1)) := by rw [List.getElem?_append_left h3]; exact g
  have e1 : (σ ++ [.gen 2 0])[σ.length]? = some (.gen 2 0) := by rw [List.getElem?_append_right (Nat.le_refl _), Nat.sub_self]; rfl
  obtain ⟨σ₂, u, F2, S2, I2⟩ := step6 (x := x) F1 I (by (first | lia | omega))
  have hlen := S2.1
  rw [List.length_append] at hlen
  have g2 := S2.get (k := 3) (by decide) g1
  have e2 := S2.get (k := σ.length) (by intro z; simp only [List.mem_cons, List.not_mem_nil, or_false] at z; (first | lia | omega)) e1
  generalize hE : σ.length = E at e2 h3 ⊢
  clear F1 g1 e1 S2
  generalize hst : stepP w x st = s at F2 I2 ⊢
  have H := I2.fits0 (by (first | lia | omega))
  refine ws_expr (we_call (wl (xs := [.loc 2, .int x]) (σ' := σ ++ [.gen 2 0]) rfl (wf u ?_)))
  have hlc : ∀ (r : Int) (p q : Option AV) (σ : St), nE 6 (lc6 scr tot name w cw (w - cwl) r (some (.int x)) (some (.loc E)) p q) σ = some (.loc 2, σ) := fun uu uu uu uu => rfl
  refine ws_asg (we (v := .int (roomP w s)) (σ' := σ₂) ?_ ⟨lc6 scr tot name w cw (w - cwl) (roomP w s) (some (.int x)) (some (.loc E)) a11 a12, rfl, ?_⟩)
  · have c1 : callE (strF accStrF fmtStrF) [(attrE 5 (nE 6))] (lc6 scr tot name w cw (w - cwl) room (some (.int x)) (some (.loc E)) a11 a12) σ₂ = some (.str (accText s.2.2), σ₂) := by
      simp only [callE, evs, attrAcc (hlc _ _ _ _) F2, str_eq (FF := fmtStrF) F2.acc H.acc]
    have hl := accText_len s.2.2
    have hl' : (accText s.2.2).length ≤ 1000000 := by have := H.l; (first | lia | omega)
    have c2 : callE (lenF accLenF) [(callE (strF accStrF fmtStrF) [(attrE 5 (nE 6))])] (lc6 scr tot name w cw (w - cwl) room (some (.int x)) (some (.loc E)) a11 a12) σ₂ = some (.int (partsLen s.2.2), σ₂) := by
      rw [callE]
      simp only [evs, c1, lenF, if_pos hl', hl]
    have c3 : iteE (cmpT .Eq (attrE 4 (nE 6)) (lstE [])) (nE 2) (cE (.int 0)) (lc6 scr tot name w cw (w - cwl) room (some (.int x)) (some (.loc E)) a11 a12) σ₂ = some (.int s.2.1, σ₂) := by
      rw [← I2.iniEq]
      simp only [iteE, nilT F2 (hlc _ _ _ _)]
      by_cases h : s.1 = []
      · rw [decide_eq_true h, if_pos h]; rfl
      · rw [decide_eq_false h, if_neg h]; rfl
    have c4 : binE .Sub (nE 3) (callE (lenF accLenF) [(callE (strF accStrF fmtStrF) [(attrE 5 (nE 6))])]) (lc6 scr tot name w cw (w - cwl) room (some (.int x)) (some (.loc E)) a11 a12) σ₂ = some (.int (w - partsLen s.2.2), σ₂) := by
      rw [binE]
      simp only [show nE 3 (lc6 scr tot name w cw (w - cwl) room (some (.int x)) (some (.loc E)) a11 a12) σ₂ = some (.int w, σ₂) from rfl, c2]
      rfl
    have er : roomP w s = w - partsLen s.2.2 - s.2.1 := by unfold roomP; (first | lia | omega)
    rw [binE]
    simp only [c4, c3, er]
    rfl
  refine ws_asg (mF (l := 2) rfl F2.fm (xs := []) rfl (wf (make6 F2) ⟨lc6 scr tot name w cw (w - cwl) (roomP w s) (some (.int x)) (some (.loc E)) (some (.loc σ₂.length)) a12, rfl, ?_⟩))
  have F3 : FAt (σ₂ ++ [.gen 2 0]) 2 0 1 w cw cwl " " s := FmtAt.keep F2 (X := []) (.app _) (by simp) (by simp) (by simp)
  have hE2 := (List.getElem?_eq_some_iff.mp e2).1
  have g3 : (σ₂ ++ [.gen 2 0])[3]? = some (.gen 2 (T + 1)) := by rw [List.getElem?_append_left (by (first | lia | omega))]; exact g2
  have e3 : (σ₂ ++ [.gen 2 0])[E]? = some (.gen 2 0) := by rw [List.getElem?_append_left hE2]; exact e2
  have l3 : (σ₂ ++ [.gen 2 0])[σ₂.length]? = some (.gen 2 0) := by rw [List.getElem?_append_right (Nat.le_refl _), Nat.sub_self]; rfl
  generalize σ₂.length = L at l3 hE2 ⊢
  generalize σ₂ ++ [.gen 2 0] = τ at F3 g3 e3 l3 ⊢
  have st1 : ∀ {τ : St} {k : Nat} {o o' : AO}, τ[k]? = some o → (τ.set k o')[k]? = some o' := fun h => List.getElem?_set_self (List.getElem?_eq_some_iff.mp h).1
  have st2 : ∀ {τ : St} {k j : Nat} {o o' : AO}, k ≠ j → τ[j]? = some o → (τ.set k o')[j]? = some o := fun n h => by rw [List.getElem?_set_ne n]; exact h
  refine ws_asg (we_lst ?_)
  refine wl_cons (we_call (wl (xs := [.loc E]) (σ' := τ) rfl (wf (next0 F3 H e3) ?_)))
  have F4 := F3.gen e3 (.gen 2 1)
  have g4 := st2 (k := E) (j := 3) (o' := .gen 2 1) (by (first | lia | omega)) g3
  have l4 := st2 (k := E) (j := L) (o' := .gen 2 1) (by (first | lia | omega)) l3
  have e4 := st1 (o' := .gen 2 1) e3
  generalize τ.set E (.gen 2 1) = τ at F4 g4 l4 e4 ⊢
  refine wl_cons (we_call (wl (xs := [.loc E]) (σ' := τ) rfl (wf (next1 F4 e4) ?_)))
  have F5 := F4.gen e4 (.gen 2 2)
  have g5 := st2 (k := E) (j := 3) (o' := .gen 2 2) (by (first | lia | omega)) g4
  have l5 := st2 (k := E) (j := L) (o' := .gen 2 2) (by (first | lia | omega)) l4
  generalize τ.set E (.gen 2 (0 + 2)) = τ at F5 g5 l5 ⊢
  refine wl_cons (we_call (wl (xs := [.loc L]) (σ' := τ) rfl (wf (next0 F5 H l5) ?_)))
  have F6 := F5.gen l5 (.gen 2 1)
  have g6 := st2 (k := L) (j := 3) (o' := .gen 2 1) (by (first | lia | omega)) g5
  have l6 := st1 (o' := .gen 2 1) l5
  generalize τ.set L (.gen 2 1) = τ at F6 g6 l6 ⊢
  refine wl_cons (we_call (wl (xs := [.loc L]) (σ' := τ) rfl (wf (next1 F6 l6) ?_)))
  have F7 := F6.gen l6 (.gen 2 2)
  have g7 := st2 (k := L) (j := 3) (o' := .gen 2 2) (by (first | lia | omega)) g6
  have l7 := st1 (o' := .gen 2 2) l6
  generalize τ.set L (.gen 2 (0 + 2)) = τ at F7 g7 l7 ⊢
  refine wl_cons (we_call (wl (xs := [.loc L]) (σ' := τ) rfl (wf (next1 F7 l7) ?_)))
  have F8 := F7.gen l7 (.gen 2 3)
  have g8 := st2 (k := L) (j := 3) (o' := .gen 2 3) (by (first | lia | omega)) g7
  generalize τ.set L (.gen 2 (1 + 2)) = τ at F8 g8 ⊢
  refine wl_cons (we_call (wl (xs := [.loc 3]) (σ' := τ) rfl (wf (next1 F8 g8) ?_)))
  have F9 := F8.gen g8 (.gen 2 (T + 2))
  have g9 := st1 (o' := .gen 2 (T + 2)) g8
  refine wl_nil ⟨len_line (by simp), lc6 scr tot name w cw (w - cwl) (roomP w s) (some (.int x)) (some (.loc E)) (some (.loc L)) (some (.lst [.int (roomP w s), .int (w - cwl), .int (roomP w s), .int (w - cwl), .int (w - cwl), .int (w - cwl)])), rfl, ?_⟩
  exact ws_if (wt (b := false) (told6 (a := roomP w s) (b := w - cwl) rfl rfl rfl) (ws_nil ⟨.inl rfl, _, _, _, rfl, ⟨F9, g9, I2⟩⟩))
end
end Mine.Internal
end
section
open PySem PySem.W PyProof.Rows PySem.Calls
namespace Mine.Internal
noncomputable def xs6 (k : Nat) : Str := Txt.mul "x" k
noncomputable def chk6 (k : Nat) : Bool := (wsSplit ("" ++ xs6 k) == some [xs6 k]) && ((xs6 k).length == k) && !(endsC (xs6 k) 32)
set_option tactic.hygienic false in
theorem chk6_all : (List.range 15).all chk6 = true := by decide +kernel
set_option tactic.hygienic false in
theorem chk6_of {k : Nat} (h : k < 15) : wsSplit ("" ++ xs6 k) = some [xs6 k] ∧ (xs6 k).length = k ∧ endsC (xs6 k) 32 = false := by
  have := List.all_eq_true.mp chk6_all k (List.mem_range.mpr h)
  simpa [chk6, Bool.and_eq_true, and_assoc] using this
section
variable {σ : St} {m ln ac T k : Nat} {ml cwl name : Int} {cw sc : Str} {st : St3}
set_option tactic.hygienic false in
theorem lay0 (F : FAt σ m ln ac ml cw cwl " " st) : ∃ σ', splitF [.loc m, .str "", .str (xs6 0), .str sc] σ = some (.none, σ') ∧ FAt σ' m ln ac ml cw cwl " " st ∧ Same [ln, ac] σ σ' :=
  split_spec (qs := []) F (by decide) (by decide +kernel) (chk6_of (k := 0) (by decide)).1 (by simp) (by simp) (by decide +kernel) (by decide +kernel) trivial
set_option tactic.hygienic false in
theorem layK (F : FAt σ m ln ac ml cw cwl " " st) (I : Inv6 name T st) (hT : T ≤ 1000) (h : k < 15) (h0 : 0 < k) : ∃ σ', splitF [.loc m, .str "", .str (xs6 k), .str sc] σ = some (.none, σ') ∧ FAt σ' m ln ac ml cw cwl " " (chunkP ml " " st.1 st.2.1 st.2.2 "" (xs6 k)) ∧ Same [ln, ac] σ σ' := by
  (refine x0_3 (chk6_of h) fun h1 h2 h3 => ?_)
  have hp : partLen (("" : Str), xs6 k) = k := by
    unfold partLen
    dsimp only
    rw [h2, show ("" : Str).length = 0 from rfl]
    (first | lia | omega)
  refine lay6 (p := ("", xs6 k)) F I hT ⟨⟨_, h1, by simp, by simp, ?_, ?_⟩, ?_⟩ (by (first | lia | omega))
  · show (xs6 k).length ≤ _; (first | lia | omega)
  · unfold pieces
    rw [if_neg (by show ¬ (xs6 k).length = 0; (first | lia | omega))]
    rfl
  · rw [h2, show ("" : Str).length = 0 from rfl]; (first | lia | omega)
set_option tactic.hygienic false in
theorem lenK (h : k < 15) (ps : List (Str × Str)) : partsLen (ps ++ [(("" : Str), xs6 k)]) = partsLen ps + k := by
  rw [partsLen_append, partsLen_cons, partsLen_nil]
  unfold partLen
  dsimp only
  rw [(chk6_of h).2.1, show ("" : Str).length = 0 from rfl]
  (first | lia | omega)
set_option tactic.hygienic false in
theorem fits6 (F : FAt σ m ln ac ml cw cwl " " st) (I : Inv6 name T st) (hT : T ≤ 1000) (hm : ml ≤ 13) :
    ∃ σ' st', splitF [.loc m, .str "", .str (Txt.mul "x" (if 0 > roomP ml st then 0 else roomP ml st)), .str sc] σ = some (.none, σ') ∧ FAt σ' m ln ac ml cw cwl " " st' ∧ Same [ln, ac] σ σ' ∧ st'.1 = st.1 := by
  (refine x0_2 (I.ini) fun i0 i1 => ?_)
  have p0 := partsLen_nonneg st.2.2
  have hr : roomP ml st ≤ 13 := by unfold roomP; (first | lia | omega)
  by_cases h : roomP ml st ≤ 0
  · have e : (if 0 > roomP ml st then 0 else roomP ml st) = ((0 : Nat) : Int) := by split <;> (first | lia | omega)
    rw [e]
    (refine x1_3 (lay0 (sc := sc) F) fun σ' a b c => ?_)
    exact ⟨σ', st, a, b, c, rfl⟩
  · obtain ⟨k, hk⟩ : ∃ k : Nat, roomP ml st = k := ⟨(roomP ml st).toNat, by (first | lia | omega)⟩
    have e : (if 0 > roomP ml st then 0 else roomP ml st) = (k : Int) := by rw [if_neg (by (first | lia | omega)), hk]
    rw [e]
    obtain ⟨σ', a, b, c⟩ := layK (k := k) (sc := sc) F I hT (by (first | lia | omega)) (by (first | lia | omega))
    refine ⟨σ', _, a, b, c, ?_⟩
    unfold chunkP
    rw [if_neg]
    rw [lenK (by (first | lia | omega))]
    unfold roomP at hk
    (first | lia | omega)
set_option tactic.hygienic false in
theorem moreK (F : FAt σ m ln ac ml cw cwl " " st) (I : Inv6 name T st) (hT : T ≤ 1000) (hm : ml ≤ 13) :
    ∃ σ' st', splitF [.loc m, .str "", .str (Txt.mul "x" (if 1 > roomP ml st + 1 then 1 else roomP ml st + 1)), .str sc] σ = some (.none, σ') ∧ FAt σ' m ln ac ml cw cwl " " st' ∧ Same [ln, ac] σ σ' ∧ st'.1.length = st.1.length + (if 0 < st.2.1 ∨ ∃ p ∈ st.2.2.drop 1, p.1 ≠ "" then 1 else 0) := by
  (refine x0_2 (I.ini) fun i0 i1 => ?_)
  have p0 := partsLen_nonneg st.2.2
  have hr : roomP ml st ≤ 13 := by unfold roomP; (first | lia | omega)
  obtain ⟨k, hk⟩ : ∃ k : Nat, (if 1 > roomP ml st + 1 then 1 else roomP ml st + 1) = (k : Int) := ⟨(if 1 > roomP ml st + 1 then 1 else roomP ml st + 1).toNat, by split <;> (first | lia | omega)⟩
  have h1 : 0 < k ∧ k < 15 ∧ roomP ml st < k := by split at hk <;> (first | lia | omega)
  rw [hk]
  (refine x1_3 (layK (k := k) (sc := sc) F I hT h1.2.1 h1.1) fun σ' a b c => ?_)
  refine ⟨σ', _, a, b, c, more6 I.g (chk6_of h1.2.1).2.2 ?_⟩
  rw [lenK h1.2.1]
  unfold roomP at h1
  (first | lia | omega)
set_option tactic.hygienic false in
theorem comp_run {τ : St} {ac : Nat} {ini : Int} {ps : List (Str × Str)} (h : τ[ac]? = some (.acc ini ps)) (hl : ps.length ≤ 100000) : ∀ (n i fuel : Nat) (xs : List AV), n + i = ps.length → n < fuel → xs.length ≤ i →
    compL (nxA ac) (idxE (nE 0) (cE (.int 0))) τ.length fuel i (τ ++ [.list xs]) = some (τ ++ [.list (xs ++ (ps.drop i).map fun p => AV.str p.1)])
  | n, i, 0, xs, _, hf, _ => absurd hf (by (first | lia | omega))
  | 0, i, fuel + 1, xs, hi, _, hx => by
    have ha : (τ ++ [AO.list xs])[ac]? = some (.acc ini ps) := by rw [List.getElem?_append_left (List.getElem?_eq_some_iff.mp h).1]; exact h
    have e : nxA ac (τ ++ [.list xs]) i = some none := by
      unfold nxA; rw [ha]; simp; (first | lia | omega)
    rw [compL, e]
    dsimp only
    rw [List.drop_of_length_le (by (first | lia | omega))]; simp
  | n + 1, i, fuel + 1, xs, hi, hf, hx => by
    have ha : (τ ++ [AO.list xs])[ac]? = some (.acc ini ps) := by rw [List.getElem?_append_left (List.getElem?_eq_some_iff.mp h).1]; exact h
    have hlt : i < ps.length := by (first | lia | omega)
    have e : nxA ac (τ ++ [.list xs]) i = some (some (partAV ps[i])) := by
      unfold nxA; rw [ha]; simp [hlt]
    have e2 : idxE (nE 0) (cE (.int 0)) [some (partAV ps[i])] (τ ++ [.list xs]) = some (.str ps[i].1, τ ++ [.list xs]) := by
      have : seqIndex? (0 : Int) 2 = some 0 := sidx (n := 2) (k := 0) (by decide)
      simp [idxE, nE, cE, partAV, aget, this]
    have e3 : appendF [.loc τ.length, .str ps[i].1] (τ ++ [.list xs]) = some (.none, τ ++ [.list (xs ++ [.str ps[i].1])]) := by
      have hs : xs.length ≤ 16777216 := by (first | lia | omega)
      simp [appendF, sizeLine_eq, hs]
    rw [compL, e]
    dsimp only
    rw [e2]
    dsimp only
    rw [e3]
    dsimp only
    rw [comp_run h hl n (i + 1) fuel (xs ++ [AV.str (ps[i]).1]) (by (first | lia | omega)) (by (first | lia | omega)) (by simp; (first | lia | omega)), List.drop_eq_getElem_cons hlt, List.map_cons, List.append_assoc]
    rfl
set_option tactic.hygienic false in
theorem comp6 {lc : Lc} {f : EM} (F : FAt σ m ln ac ml cw cwl " " st) (hf : f lc σ = some (.loc m, σ)) (hl : st.2.2.length ≤ 100000) :
    sliceE (compE (attrE 5 f) (idxE (nE 0) (cE (.int 0)))) (some (cE (.int 1))) none lc σ = some (.lst (((st.2.2.drop 1).map (·.1)).map AV.str), σ ++ [.list (st.2.2.map fun p => AV.str p.1)]) := by
  have e : compE (attrE 5 f) (idxE (nE 0) (cE (.int 0))) lc σ = some (.loc σ.length, σ ++ [.list (st.2.2.map fun p => AV.str p.1)]) := by
    have := comp_run F.acc hl st.2.2.length 0 1000000 [] (by (first | lia | omega)) (by (first | lia | omega)) (by simp)
    simp only [compE, attrAcc hf F, F.acc, this]
    rfl
  have e2 : sliceL (st.2.2.map fun p => AV.str p.1) (some 1) none = ((st.2.2.drop 1).map (·.1)).map AV.str := by
    have := slice_from (st.2.2.map fun p => AV.str p.1) 1
    rw [show ((1 : Nat) : Int) = 1 from rfl] at this
    rw [this, List.map_map, List.map_drop]; rfl
  have hl' : st.2.2.length ≤ 1000000 := by (first | lia | omega)
  simp [sliceE, e, optE, cE, asSeq, e2, hl']
set_option tactic.hygienic false in
theorem join_nil (rs : List Str) : Txt.join "" rs ≠ "" ↔ ∃ r ∈ rs, r ≠ "" := by
  have e0 : ∀ y : Str, y = "" ↔ y.cps.toList = [] := fun y => ⟨by rintro rfl; decide, fun h => str_ext (by rw [h]; decide)⟩
  rw [Ne, e0, join_cps]
  induction rs with
  | nil => simp
  | cons r rs ih =>
    rw [List.map_cons, List.flatten_cons, List.append_eq_nil_iff]
    by_cases hr : r = ""
    · have := (e0 r).mp hr
      simp only [this, true_and, ih]
      constructor
      · rintro ⟨q, hq, h⟩; exact ⟨q, List.mem_cons_of_mem _ hq, h⟩
      · rintro ⟨q, hq, h⟩
        rcases List.mem_cons.mp hq with rfl | hq
        · exact absurd hr h
        · exact ⟨q, hq, h⟩
    · exact ⟨fun uu => ⟨r, List.mem_cons_self, hr⟩, fun uu h => hr ((e0 r).mpr h.1)⟩
end
end Mine.Internal
end
section
open PySem PySem.W PyProof.Rows PySem.Calls
namespace Mine.Internal
noncomputable abbrev lc7 (scr tot : Option AV) (name w : Int) (cw : Str) (a5 a7 : Option AV) (room : Int) (x e l t : Option AV) (f m b c : Option AV) : Lc := [scr, tot, some (.int name), some (.int w), some (.str cw), a5, some (.loc 2), a7, some (.int room), x, e, l, t, f, m, b, c]
set_option tactic.hygienic false in
theorem mulx {lc : Lc} {σ : St} {f : EM} {n : Int} (hf : f lc σ = some (.int n, σ)) (h0 : 0 ≤ n) (h1 : n ≤ 1000) : binE .Mult (cE (.str "x")) f lc σ = some (.str (Txt.mul "x" n), σ) := by
  have : ("x" : Str).length * n.toNat ≤ 1000000 ∧ n < 1000000 ∧ -1000000 < n := by
    rw [show ("x" : Str).length = 1 from rfl]; (first | lia | omega)
  rw [binE]
  simp only [cE, hf, abin, amul, if_pos this, Option.map_some]
set_option tactic.hygienic false in
theorem evs3 {lc : Lc} {σ : St} {f : EM} {a v b : AV} (hf : f lc σ = some (v, σ)) : evs [cE a, f, cE b] lc σ = some ([a, v, b], σ) := by
  simp only [evs, show ∀ (v : AV) (lc : Lc) (σ : St), cE v lc σ = some (v, σ) from fun uu uu uu => rfl, hf]
set_option tactic.hygienic false in
theorem apart2 {k a : Nat} (h : k < a) : k ∉ [a, a + 1] := fun z => by
  simp only [List.mem_cons, List.not_mem_nil, or_false] at z
  (first | lia | omega)
set_option tactic.hygienic false in
theorem keepN {σ σ' : St} {n a : Nat} {ml : Int} {cw : Str} {cwl : Int} {sp : Str} {st : St3} (F : FAt σ (n + 2) n (n + 1) ml cw cwl sp st) (S : Same [a, a + 1] σ σ') (h : n + 2 < a) : FAt σ' (n + 2) n (n + 1) ml cw cwl sp st :=
  FmtAt.keep F S (apart2 h) (apart2 (Nat.lt_of_le_of_lt (Nat.le_add_right _ _) h)) (apart2 (Nat.lt_trans (Nat.lt_succ_self _) h))
theorem fin6 {σ : St} {w name : Int} {cw : Str} {ms : List Int} {scr tot a5 a7 x e l t : Option AV} (hs : ∀ lc σ, lc[0]? = some scr → sliceE (nE 0) none (some (cE (.int 30))) lc σ = some (.lst (ms.map AV.int), σ)) (hcw : cw.length ≤ 1000) (hm : ms.length ≤ 30) (hw : w ≤ 13) (F : FAt σ 2 0 1 w cw cw.length " " (run6P w name ms)) (I : Inv6 name ms.length (run6P w name ms)) :
    WS (seqS [asgS 13 (callE p_law_runF [(sliceE (nE 0) none (some (cE (.int 30)))), (nE 2), (nE 3), (nE 4)]),
 exprS (mE 3 splitF (nE 13) [(cE (.str "")), (binE .Mult (cE (.str "x")) (callE maxF [(nE 8), (cE (.int 0))])), (cE (.str ""))]),
 asgS 14 (callE p_law_runF [(sliceE (nE 0) none (some (cE (.int 30)))), (nE 2), (nE 3), (nE 4)]),
 exprS (mE 3 splitF (nE 14) [(cE (.str "")), (binE .Mult (cE (.str "x")) (callE maxF [(binE .Add (nE 8) (cE (.int 1))), (cE (.int 1))])), (cE (.str ""))]),
 asgS 15 (sliceE (compE (attrE 5 (nE 6)) (idxE (nE 0) (cE (.int 0)))) (some (cE (.int 1))) none),
 asgS 16 (cE (.int 0)),
 ifS (orT [(andT [(cmpT .Gt (nE 2) (cE (.int 0))), (cmpT .Eq (attrE 4 (nE 6)) (lstE []))]), (cmpT .NotEq (mE 1 joinF (cE (.str "")) [(nE 15)]) (cE (.str "")))]) (seqS [asgS 16 (cE (.int 1))]) (seqS []),
 retS (andE (tE (cmpT .Eq (attrE 4 (nE 13)) (attrE 4 (nE 6)))) (tE (cmpT .Eq (callE (lenF accLenF) [(attrE 4 (nE 14))]) (binE .Add (callE (lenF accLenF) [(attrE 4 (nE 6))]) (nE 16)))))])
      (lc7 scr tot name w cw a5 a7 (roomP w (run6P w name ms)) x e l t none none none none) σ fun fl _ σ' => match fl with | .ret v => v = .bool true | .next => AV.none = .bool true | _ => False := by
  (refine x0_2 (I.ini) fun i0 i1 => ?_)
  have n0 := I.n0
  have n1 := I.n1
  have H := I.fits0 (by (first | lia | omega))
  obtain ⟨σ₁, u1, A1, S1, _⟩ := run6 (σ := σ) (ns := ms) (name := name) (w := w) (cw := cw) (by (first | lia | omega)) n0 n1 hcw
  have h2 := (List.getElem?_eq_some_iff.mp F.fm).1
  generalize hst : run6P w name ms = st at F I H A1 i0 i1 ⊢
  have p0 := partsLen_nonneg st.2.2
  have hroom : roomP w st ≤ 13 := by unfold roomP; (first | lia | omega)
  have F1 := FmtAt.keep F S1 (by simp) (by simp) (by simp)
  refine ws_asg (we_call (wl (xs := [.lst (ms.map AV.int), .int name, .int w, .str cw]) (σ' := σ) ?_ (wf u1 ⟨lc7 scr tot name w cw a5 a7 (roomP w st) x e l t (some (.loc (σ.length + 2))) none none none, rfl, ?_⟩)))
  · rw [evs, hs _ _ rfl]; rfl
  obtain ⟨σ₂, s2, u2, A2, S2, e2⟩ := fits6 (sc := "") A1 I (by (first | lia | omega)) hw
  have F2 : FAt σ₂ 2 0 1 w cw cw.length " " st := keepN (n := 0) F1 S2 h2
  have hx0 : binE .Mult (cE (.str "x")) (callE maxF [(nE 8), (cE (.int 0))]) (lc7 scr tot name w cw a5 a7 (roomP w st) x e l t (some (.loc (σ.length + 2))) none none none) σ₁ = some (.str (Txt.mul "x" (if 0 > roomP w st then 0 else roomP w st)), σ₁) :=
    mulx rfl (by split <;> (first | lia | omega)) (by split <;> (first | lia | omega))
  refine ws_expr (mF (l := σ.length + 2) rfl A1.fm (xs := [.str "", .str (Txt.mul "x" (if 0 > roomP w st then 0 else roomP w st)), .str ""]) ?_ (wf u2 ?_))
  · exact evs3 hx0
  obtain ⟨σ₃, u3, A3, S3, _⟩ := run6 (σ := σ₂) (ns := ms) (name := name) (w := w) (cw := cw) (by (first | lia | omega)) n0 n1 hcw
  rw [hst] at A3
  have h4 := (List.getElem?_eq_some_iff.mp A2.fm).1
  have F3 := FmtAt.keep F2 S3 (by simp) (by simp) (by simp)
  have B3 := FmtAt.keep A2 S3 (by simp) (by simp) (by simp)
  refine ws_asg (we_call (wl (xs := [.lst (ms.map AV.int), .int name, .int w, .str cw]) (σ' := σ₂) ?_ (wf u3 ⟨lc7 scr tot name w cw a5 a7 (roomP w st) x e l t (some (.loc (σ.length + 2))) (some (.loc (σ₂.length + 2))) none none, rfl, ?_⟩)))
  · rw [evs, hs _ _ rfl]; rfl
  obtain ⟨σ₄, s4, u4, A4, S4, e4⟩ := moreK (sc := "") A3 I (by (first | lia | omega)) hw
  have F4 : FAt σ₄ 2 0 1 w cw cw.length " " st := keepN (n := 0) F3 S4 (Nat.lt_of_le_of_lt (Nat.le_add_left 2 _) h4)
  have B4 := keepN B3 S4 h4
  have hx1 : binE .Mult (cE (.str "x")) (callE maxF [(binE .Add (nE 8) (cE (.int 1))), (cE (.int 1))]) (lc7 scr tot name w cw a5 a7 (roomP w st) x e l t (some (.loc (σ.length + 2))) (some (.loc (σ₂.length + 2))) none none) σ₃ = some (.str (Txt.mul "x" (if 1 > roomP w st + 1 then 1 else roomP w st + 1)), σ₃) :=
    mulx rfl (by split <;> (first | lia | omega)) (by split <;> (first | lia | omega))
  refine ws_expr (mF (l := σ₂.length + 2) rfl A3.fm (xs := [.str "", .str (Txt.mul "x" (if 1 > roomP w st + 1 then 1 else roomP w st + 1)), .str ""]) ?_ (wf u4 ?_))
  · exact evs3 hx1
  refine ws_asg (we (comp6 F4 rfl (by have := H.p; (first | lia | omega))) ⟨lc7 scr tot name w cw a5 a7 (roomP w st) x e l t (some (.loc (σ.length + 2))) (some (.loc (σ₂.length + 2))) (some (.lst (((st.2.2.drop 1).map (·.1)).map AV.str))) none, rfl, ?_⟩)
  have F5 : FAt (σ₄ ++ [.list (st.2.2.map fun p => AV.str p.1)]) 2 0 1 w cw cw.length " " st := FmtAt.keep F4 (X := []) (.app _) (by simp) (by simp) (by simp)
  have B5 := FmtAt.keep B4 (X := []) (.app [.list (st.2.2.map fun p => AV.str p.1)]) (by simp) (by simp) (by simp)
  have A5 := FmtAt.keep A4 (X := []) (.app [.list (st.2.2.map fun p => AV.str p.1)]) (by simp) (by simp) (by simp)
  clear F4 B4 A4 S4
  generalize σ₄ ++ [.list (st.2.2.map fun p => AV.str p.1)] = τ at F5 B5 A5 ⊢
  refine ws_asg (we (v := .int 0) (σ' := τ) rfl ⟨lc7 scr tot name w cw a5 a7 (roomP w st) x e l t (some (.loc (σ.length + 2))) (some (.loc (σ₂.length + 2))) (some (.lst (((st.2.2.drop 1).map (·.1)).map AV.str))) (some (.int 0)), rfl, ?_⟩)
  have last : ∀ c : Int, (c = if 0 < st.2.1 ∨ ∃ p ∈ st.2.2.drop 1, p.1 ≠ "" then 1 else 0) → WS (seqS [retS (andE (tE (cmpT .Eq (attrE 4 (nE 13)) (attrE 4 (nE 6)))) (tE (cmpT .Eq (callE (lenF accLenF) [(attrE 4 (nE 14))]) (binE .Add (callE (lenF accLenF) [(attrE 4 (nE 6))]) (nE 16)))))]) (lc7 scr tot name w cw a5 a7 (roomP w st) x e l t (some (.loc (σ.length + 2))) (some (.loc (σ₂.length + 2))) (some (.lst (((st.2.2.drop 1).map (·.1)).map AV.str))) (some (.int c))) τ fun fl _ σ' => match fl with | .ret v => v = .bool true | .next => AV.none = .bool true | _ => False := by
    intro c hc
    generalize hlc : lc7 scr tot name w cw a5 a7 (roomP w st) x e l t (some (.loc (σ.length + 2))) (some (.loc (σ₂.length + 2))) (some (.lst (((st.2.2.drop 1).map (·.1)).map AV.str))) (some (.int c)) = lc
    have l13 : nE 13 lc τ = some (.loc (σ.length + 2), τ) := by rw [← hlc]; rfl
    have l14 : nE 14 lc τ = some (.loc (σ₂.length + 2), τ) := by rw [← hlc]; rfl
    have l6 : nE 6 lc τ = some (.loc 2, τ) := by rw [← hlc]; rfl
    have l16 : nE 16 lc τ = some (.int c, τ) := by rw [← hlc]; rfl
    have q1 : cmpT .Eq (attrE 4 (nE 13)) (attrE 4 (nE 6)) lc τ = some (true, τ) := by
      simp only [cmpT, attrLines l13 B5, attrLines l6 F5, eq_lists B5.li F5.li, e2, decide_true, Option.map_some]
    have hr := H.r
    have hr4 : s4.1.length ≤ 1000000 := by rw [e4]; split <;> (first | lia | omega)
    have hrs : st.1.length ≤ 1000000 := by (first | lia | omega)
    have c1 : callE (lenF accLenF) [(attrE 4 (nE 14))] lc τ = some (.int s4.1.length, τ) := by
      simp only [callE, evs, attrLines l14 A5, lenF, A5.li, List.length_map, if_pos hr4]
    have c2 : callE (lenF accLenF) [(attrE 4 (nE 6))] lc τ = some (.int st.1.length, τ) := by
      simp only [callE, evs, attrLines l6 F5, lenF, F5.li, List.length_map, if_pos hrs]
    have c3 : (s4.1.length : Int) = st.1.length + c := by
      rw [e4, hc]
      split <;> simp
    have q2 : cmpT .Eq (callE (lenF accLenF) [(attrE 4 (nE 14))]) (binE .Add (callE (lenF accLenF) [(attrE 4 (nE 6))]) (nE 16)) lc τ = some (true, τ) := by
      simp only [cmpT, c1, binE, c2, l16, abin, aadd, Option.map_some, c3]
      simp [acmp, aeqv, toPD, PyData.eqv]
    exact ws_ret (we_and (we_t (wt q1 ⟨true, rfl, we_t (wt q2 rfl)⟩)))
  generalize hlc : lc7 scr tot name w cw a5 a7 (roomP w st) x e l t (some (.loc (σ.length + 2))) (some (.loc (σ₂.length + 2))) (some (.lst (((st.2.2.drop 1).map (·.1)).map AV.str))) (some (.int 0)) = lc
  have l6 : nE 6 lc τ = some (.loc 2, τ) := by rw [← hlc]; rfl
  have l2 : nE 2 lc τ = some (.int name, τ) := by rw [← hlc]; rfl
  have l15 : nE 15 lc τ = some (.lst (((st.2.2.drop 1).map (·.1)).map AV.str), τ) := by rw [← hlc]; rfl
  have t1 : andT [(cmpT .Gt (nE 2) (cE (.int 0))), (cmpT .Eq (attrE 4 (nE 6)) (lstE []))] lc τ = some (decide (0 < st.2.1), τ) := by
    have g : cmpT .Gt (nE 2) (cE (.int 0)) lc τ = some (decide (name > 0), τ) := by
      simp only [cmpT, l2]
      simp [cE, acmp, twoInts]
    rw [← I.iniEq]
    by_cases hn : name > 0
    · rw [decide_eq_true hn] at g
      by_cases hr : st.1 = []
      · simp only [andT, g, nilT F5 l6, hr, decide_true, if_true, hn]
      · simp only [andT, g, nilT F5 l6, hr, decide_false, if_false]
        rfl
    · rw [decide_eq_false hn] at g
      have : ¬ (0 : Int) < if st.1 = [] then name else 0 := by split <;> (first | lia | omega)
      simp only [andT, g, decide_eq_false this]
  have t2 : cmpT .NotEq (mE 1 joinF (cE (.str "")) [(nE 15)]) (cE (.str "")) lc τ = some (decide (∃ p ∈ st.2.2.drop 1, p.1 ≠ ""), τ) := by
    have hb : textLen ((st.2.2.drop 1).map (·.1)) + ((st.2.2.drop 1).map (·.1)).length * ("" : Str).length ≤ 16777216 := by
      have key : ∀ ps : List (Str × Str), (textLen (ps.map (·.1)) : Int) ≤ partsLen ps := by
        intro ps
        induction ps with
        | nil => simp [textLen, partsLen_nil]
        | cons p ps ih =>
          rw [partsLen_cons]
          unfold partLen
          simp only [textLen, List.map_cons, List.sum_cons] at ih ⊢
          (first | lia | omega)
      have k1 := key (st.2.2.drop 1)
      have k2 := accText_take_drop st.2.2 1
      have k3 := H.l
      rw [show ("" : Str).length = 0 from rfl, Nat.mul_zero]
      (first | lia | omega)
    have j : mE 1 joinF (cE (.str "")) [(nE 15)] lc τ = some (.str (Txt.join "" ((st.2.2.drop 1).map (·.1))), τ) := by
      simp only [mE, cE, kind, if_true, evs, l15, joinL_of (sep := "") hb]
    have jn := join_nil ((st.2.2.drop 1).map (·.1))
    simp only [cmpT, j]
    simp only [cE, acmp, aeqv, toPD, PyData.eqv, Option.map_some]
    congr 2
    have : (∃ r ∈ (st.2.2.drop 1).map (fun p : Str × Str => p.1), r ≠ ("" : Str)) ↔ ∃ p ∈ st.2.2.drop 1, p.1 ≠ "" := by
      constructor
      · rintro ⟨r, hr, h⟩
        (refine x1_2 (List.mem_map.mp hr) fun p hp rr2 => ?_; subst rr2)
        exact ⟨p, hp, h⟩
      · rintro ⟨p, hp, h⟩
        exact ⟨p.1, List.mem_map_of_mem hp, h⟩
    have jt := jn.trans this
    by_cases hj : ∃ p ∈ st.2.2.drop 1, p.1 ≠ ""
    · rw [decide_eq_true hj]
      have := jt.mpr hj
      simpa using this
    · rw [decide_eq_false hj]
      have : Txt.join "" ((st.2.2.drop 1).map (·.1)) = "" := Classical.byContradiction fun z => hj (jt.mp z)
      rw [this]; decide
  by_cases hc : 0 < st.2.1 ∨ ∃ p ∈ st.2.2.drop 1, p.1 ≠ ""
  · have t3 : orT [(andT [(cmpT .Gt (nE 2) (cE (.int 0))), (cmpT .Eq (attrE 4 (nE 6)) (lstE []))]), (cmpT .NotEq (mE 1 joinF (cE (.str "")) [(nE 15)]) (cE (.str "")))] lc τ = some (true, τ) := by
      by_cases hi : 0 < st.2.1
      · simp only [orT, t1, decide_eq_true hi]
      · simp only [orT, t1, decide_eq_false hi, t2, decide_eq_true (hc.resolve_left hi)]
    refine ws_if (wt t3 (ws_asg (we (v := .int 1) (σ' := τ) rfl ⟨_, by rw [← hlc]; rfl, last 1 (by rw [if_pos hc])⟩)))
  · have t3 : orT [(andT [(cmpT .Gt (nE 2) (cE (.int 0))), (cmpT .Eq (attrE 4 (nE 6)) (lstE []))]), (cmpT .NotEq (mE 1 joinF (cE (.str "")) [(nE 15)]) (cE (.str "")))] lc τ = some (false, τ) := by
      simp only [orT, t1, decide_eq_false fun z => hc (.inl z), t2, decide_eq_false fun z => hc (.inr z)]
    rw [← hlc] at t3 ⊢
    exact ws_if (wt t3 (last 0 (by rw [if_neg hc])))
end Mine.Internal
end
section
open PySem PySem.W PyProof.Rows PySem.Calls
namespace Mine.Internal
noncomputable def aheads6 : List Str := [" ", "\t", "   ", ""]
set_option tactic.hygienic false in
theorem plainL : ∀ ns : List Int, ns.length ≤ 63 → ∃ σ', lawF [.lst (ns.map AV.int)] [] = some (.bool true, σ') := by
  intro ns hn
  suffices h : WF lawF [.lst (ns.map AV.int)] [] fun v uu => v = .bool true by
    obtain ⟨v, σ', e, rfl⟩ := h
    exact ⟨σ', e⟩
  refine wf_run rfl ?_
  show WS lawFB [some (.lst (ns.map AV.int)), none, none, none, none, none, none, none, none, none, none, none, none, none, none, none, none] [] _
  unfold lawFB
  obtain ⟨name, hname⟩ : ∃ n, n = ns.sum.fmod 5 := ⟨_, rfl⟩
  obtain ⟨n0, n1⟩ : 0 ≤ name ∧ name < 5 := by rw [hname]; exact fmod_cases (by decide)
  obtain ⟨w, hw⟩ : ∃ n, n = (ns.sum.fdiv 5).fmod 16 - 2 := ⟨_, rfl⟩
  have hw1 : w ≤ 13 := by have := (fmod_cases (x := ns.sum.fdiv 5) (show (0 : Int) < 16 by decide)).2; (first | lia | omega)
  obtain ⟨k0, k1⟩ := fmod_cases (x := ns.sum.fdiv 80) (show (0 : Int) < 4 by decide)
  obtain ⟨k, hk⟩ : ∃ k : Nat, (ns.sum.fdiv 80).fmod 4 = k := ⟨((ns.sum.fdiv 80).fmod 4).toNat, by (first | lia | omega)⟩
  obtain ⟨cw, hs, hcw⟩ : ∃ cw : Str, aheads6[k]? = some cw ∧ cw.length ≤ 1000 :=
    upTo (P := fun k => ∃ cw : Str, aheads6[k]? = some cw ∧ cw.length ≤ 1000) 3 (upTo 2 (upTo 1 (upTo 0 upTo0 ⟨_, rfl, by decide⟩) ⟨_, rfl, by decide⟩) ⟨_, rfl, by decide⟩) ⟨_, rfl, by decide⟩ k (by (first | lia | omega))
  have hc : cw.length ≤ 1000000 := by (first | lia | omega)
  refine ws_asg (we (v := .int ns.sum) (σ' := []) (by simp [callE, evs, nE, sumF, asList, intsOf_map]) ⟨_, rfl, ?_⟩)
  refine ws_asg (we (v := .int name) (σ' := []) (by simp [binE, nE, cE, abin, twoI, hname]) ⟨_, rfl, ?_⟩)
  refine ws_asg (we (v := .int w) (σ' := []) (by simp [binE, nE, cE, abin, twoI, hw]) ⟨_, rfl, ?_⟩)
  refine ws_asg (we (v := .str cw) (σ' := []) (idx_lst (xs := aheads6.map AV.str) (i := (ns.sum.fdiv 80).fmod 4) (σ' := []) rfl (by simp [binE, nE, cE, abin, twoI]) hk (by rw [List.getElem?_map, hs]; rfl) (by decide)) ⟨_, rfl, ?_⟩)
  refine ws_asg (we (v := .int (w - cw.length)) (σ' := []) (by simp [binE, nE, callE, evs, lenF, hc, abin, twoI]) ⟨_, rfl, ?_⟩)
  have mk : mkFmtF [.int name, .int w, .str cw, .str " "] [] = some (.loc 2, [.list [], .acc name [], .fmt w cw cw.length " " 0 1]) := by
    show (if cw.length ≤ 1000000 then _ else _) = _
    rw [if_pos hc]; rfl
  refine ws_asg (we_call (wl (xs := [.int name, .int w, .str cw, .str " "]) (σ' := []) rfl (wf mk ⟨_, rfl, ?_⟩)))
  have F0 : FAt [.list [], .acc name [], .fmt w cw cw.length " " 0 1] 2 0 1 w cw cw.length " " ([], name, []) := ⟨rfl, rfl, rfl⟩
  have I0 := inv0 n0 (show name ≤ 4 by (first | lia | omega))
  refine ws_asg (mF (l := 2) rfl F0.fm (xs := []) rfl (wf (make6 F0) ⟨_, rfl, ?_⟩))
  have F1 : FAt ([.list [], .acc name [], .fmt w cw cw.length " " 0 1] ++ [.gen 2 0]) 2 0 1 w cw cw.length " " ([], name, []) := ⟨rfl, rfl, rfl⟩
  have g1 : ([.list [], .acc name [], .fmt w cw cw.length " " 0 1] ++ [.gen 2 0] : St)[3]? = some (.gen 2 0) := rfl
  have nx := next0 F1 (I0.fits0 (by (first | lia | omega))) g1
  have F2 := F1.gen g1 (.gen 2 1)
  have g2 : (([.list [], .acc name [], .fmt w cw cw.length " " 0 1] ++ [.gen 2 0] : St).set 3 (.gen 2 1))[3]? = some (.gen 2 1) := rfl
  dsimp only at nx
  rw [partsLen_nil, Int.add_zero] at nx
  refine ws_if (wt_cmp (we_call (wl (xs := [.loc 3]) (σ' := _) rfl (wf nx (we (v := .int (w - name)) rfl ⟨false, by simp [acmp, aeqv, toPD, PyData.eqv], ?_⟩)))))
  generalize ([.list [], .acc name [], .fmt w cw cw.length " " 0 1] ++ [.gen 2 0] : St).set 3 (.gen 2 1) = σ at F2 g2 ⊢
  clear F0 F1 g1 nx mk
  refine ws_asg (we (v := .int (w - name)) (σ' := σ) rfl ⟨lc6 (some (.lst (ns.map AV.int))) (some (.int ns.sum)) name w cw (w - cw.length) (roomP w (run6P w name [])) none none none none, by rw [show roomP w (run6P w name []) = w - name by show w - (name + partsLen []) = _; rw [partsLen_nil, Int.add_zero]]; rfl, ?_⟩)
  have sl : sliceL (ns.map AV.int) none (some 30) = (ns.take 30).map AV.int := by
    have := slice_to (ns.map AV.int) 30
    rw [show (((30 : Nat) : Int)) = 30 from rfl] at this
    rw [this, List.map_take]
  have hz : ns.length ≤ 1000000 := by (first | lia | omega)
  have hsl : ∀ (lc : Lc) (σ : St), lc[0]? = some (some (.lst (ns.map AV.int))) → sliceE (nE 0) none (some (cE (.int 30))) lc σ = some (.lst ((ns.take 30).map AV.int), σ) := by
    intro lc σ h
    simp only [sliceE, nE, h, optE, cE, asSeq, List.length_map, if_pos hz, sl]
  have hms : (ns.take 30).length ≤ 30 := by rw [List.length_take]; (first | lia | omega)
  generalize ns.take 30 = ms at hsl hms
  refine ws_forL (xs := ms.map AV.int) (σ' := σ) (fun i lc σ => ∃ x e l t, lc = lc6 (some (.lst (ns.map AV.int))) (some (.int ns.sum)) name w cw (w - cw.length) (roomP w (run6P w name (ms.take i))) x e l t ∧ T6 w name cw.length cw i σ (run6P w name (ms.take i))) (hsl _ _ rfl) (by simp; (first | lia | omega)) ⟨none, none, none, none, rfl, ⟨F2, g2, I0⟩⟩ ?_ ?_
  · rintro i x _ σ hx ⟨b9, b10, b11, b12, rfl, I⟩
    rw [List.getElem?_map] at hx
    (refine x1_2 (Option.map_eq_some_iff.mp hx) fun y hy rr2 => ?_; subst rr2)
    have hi := (List.getElem?_eq_some_iff.mp hy).1
    have et : ms.take (i + 1) = ms.take i ++ [y] := by rw [List.take_add_one, hy]; rfl
    refine ⟨lc6 (some (.lst (ns.map AV.int))) (some (.int ns.sum)) name w cw (w - cw.length) (roomP w (run6P w name (ms.take i))) (some (.int y)) b10 b11 b12, rfl, (turn6 I (by (first | lia | omega))).imp ?_⟩
    rintro fl _ σ' ⟨hfl, c10, c11, c12, rfl, I'⟩
    rw [et, run6P_snoc]
    exact ⟨hfl, _, c10, c11, c12, rfl, I'⟩
  · rintro _ σ ⟨b9, b10, b11, b12, rfl, I⟩
    rw [List.length_map, List.take_length] at I ⊢
    exact fin6 hsl hcw hms hw1 I.F I.I
end Mine.Internal
end
section
open PySem PySem.W PyProof.Rows PySem.Calls
namespace Mine.Internal
noncomputable abbrev tsL : List (Addr × Addr) := [(166, 162), (173, 169)]
noncomputable abbrev cfg0L (w : World) (s₁ : Shared) : Cfg := mkCfg Challenge.rw_dm0091_06.row.prog w (hd.heap_39 w.params) s₁ 116 200 tsL (fun _ _ _ => True)
noncomputable abbrev cfgL (w : World) (s₁ : Shared) : Cfg := mkCfg Challenge.rw_dm0091_06.row.prog w (hd.heap_39 w.params) s₁ 116 200 tsL (genG (model Challenge.rw_dm0091_06.row.prog w) (bodyAt (cfg0L w s₁).K 99) (envAt (cfg0L w s₁) 99))
section
variable {w : World} {s₁ : Shared} {mg mb : Str → Option Value}
set_option tactic.hygienic false in
theorem htL : ∀ t ∈ tsL, codeTabIn (hd.heap_39 w.params) t.1 t.2 = true := by
  have a : codeTabIn (hd.heap_39 w.params) 166 162 = true := by kernel_rfl
  have b : codeTabIn (hd.heap_39 w.params) 173 169 = true := by kernel_rfl
  intro t h
  simp at h
  rcases h with rfl | rfl
  · exact a
  · exact b
set_option tactic.hygienic false in
theorem HL (S : Start (hd.heap_39 w.params) s₁ mg mb) : CfgOk (cfgL w s₁) := start_cfg S (by decide) (by decide) (by decide)
set_option tactic.hygienic false in
theorem HGL (S : Start (hd.heap_39 w.params) s₁ mg mb) : GenOk (cfgL w s₁) := start_gen S htL (by decide)
set_option tactic.hygienic false in
theorem HCL : ClsOk (cfgL w s₁) where
  vfGa := by kernel_rfl
  vfGt := by kernel_rfl
  vfDict := by kernel_rfl
  vfAttr := upTo 5 (upTo 4 (upTo 3 (upTo 2 (upTo 1 (upTo 0 upTo0 (by kernel_rfl)) (by kernel_rfl)) (by kernel_rfl)) (by kernel_rfl)) (by kernel_rfl)) (by kernel_rfl)
  acGa := by kernel_rfl
  acGt := by kernel_rfl
  acDict := by kernel_rfl
  acAttr := by kernel_rfl
  acMro := by kernel_rfl
set_option tactic.hygienic false in
theorem HAL : AccOk (cfgL w s₁) := ⟨by kernel_rfl, by kernel_rfl, by kernel_rfl⟩
set_option tactic.hygienic false in
theorem HIL : ItemOk (cfgL w s₁) := ⟨by kernel_rfl⟩
set_option tactic.hygienic false in
theorem HSpL : SpecOk (cfgL w s₁) 167 174 71 := ⟨by kernel_rfl, by kernel_rfl, by kernel_rfl, by kernel_rfl, by kernel_rfl, by kernel_rfl, by kernel_rfl⟩
set_option tactic.hygienic false in
theorem supClsL : SupCls (cfgL w s₁) := ⟨⟨_, rfl, rfl, rfl⟩, by kernel_rfl, by kernel_rfl, by kernel_rfl, by kernel_rfl⟩
set_option tactic.hygienic false in
theorem takerIniL : takerIn (cfgL w s₁).K (cfgL w s₁).ACC "_initial_size" = some none := by kernel_rfl
set_option tactic.hygienic false in
theorem stAccL : StoreOk (cfgL w s₁) (cfgL w s₁).ACC := ⟨by kernel_rfl, _, rfl, rfl, .inl rfl⟩
set_option tactic.hygienic false in
theorem stVfL : StoreOk (cfgL w s₁) (cfgL w s₁).VF := ⟨by kernel_rfl, _, rfl, rfl, .inr rfl⟩
set_option tactic.hygienic false in
theorem supL (S : Start (hd.heap_39 w.params) s₁ mg mb) {f : Addr} {vars : List Str} (L : Addr) (ks : (envAt (cfgL w s₁) f L).kindOf "super" = some .globalImplicit) (kc : (envAt (cfgL w s₁) f L).kindOf "__class__" = some .free)
    (fn : ∃ of fd ar, (cfgL w s₁).K.lookup f = some of ∧ of.data = .func fd ∧ (fd.params.posonlyargs ++ fd.params.args).head? = some ar ∧ vars[0]? = some ar.arg)
    (code : ∃ cc oc vs file tf, (envAt (cfgL w s₁) f L).code = .ref cc ∧ (cfgL w s₁).K.lookup cc = some oc ∧ oc.data = .fields vs ∧ vs[2]? = some (.str file tf) ∧ (((cfgL w s₁).prog.main.file : Str) == file) = true)
    (cell : ∃ c oc, (envAt (cfgL w s₁) f L).cells.lookup ("__class__" : Str) = some c ∧ (cfgL w s₁).K.lookup c = some oc ∧ oc.data = .cell (some (.ref (cfgL w s₁).ACC))) : SupOk (cfgL w s₁) (envAt (cfgL w s₁) f L) vars where
  ks := ks
  kc := kc
  fn := let ⟨of, fd, ar, a, b, c, d⟩ := fn; ⟨f, of, fd, ar, rfl, a, b, c, d⟩
  code := code
  top := by kernel_rfl
  sup := globBlt (HL (w := w) S).kin S.g S.b (by kernel_rfl) (by kernel_rfl)
  cell := cell
set_option tactic.hygienic false in
theorem gStrL (S : Start (hd.heap_39 w.params) s₁ mg mb) : GlobVal (cfgL w s₁) "str" (.type "str") := globBlt (HL (w := w) S).kin S.g S.b (by kernel_rfl) (by kernel_rfl)
set_option tactic.hygienic false in
theorem gLenL (S : Start (hd.heap_39 w.params) s₁ mg mb) : GlobVal (cfgL w s₁) "len" (.builtin "len") := globBlt (HL (w := w) S).kin S.g S.b (by kernel_rfl) (by kernel_rfl)
set_option tactic.hygienic false in
theorem gSumL (S : Start (hd.heap_39 w.params) s₁ mg mb) : GlobVal (cfgL w s₁) "sum" (.builtin "sum") := globBlt (HL (w := w) S).kin S.g S.b (by kernel_rfl) (by kernel_rfl)
set_option tactic.hygienic false in
theorem gRangeL (S : Start (hd.heap_39 w.params) s₁ mg mb) : GlobVal (cfgL w s₁) "range" (.type "range") := globBlt (HL (w := w) S).kin S.g S.b (by kernel_rfl) (by kernel_rfl)
set_option tactic.hygienic false in
theorem gZipL (S : Start (hd.heap_39 w.params) s₁ mg mb) : GlobVal (cfgL w s₁) "zip" (.type "zip") := globBlt (HL (w := w) S).kin S.g S.b (by kernel_rfl) (by kernel_rfl)
set_option tactic.hygienic false in
theorem gIterL (S : Start (hd.heap_39 w.params) s₁ mg mb) : GlobVal (cfgL w s₁) "iter" (.builtin "iter") := globBlt (HL (w := w) S).kin S.g S.b (by kernel_rfl) (by kernel_rfl)
theorem gNextL (S : Start (hd.heap_39 w.params) s₁ mg mb) : GlobVal (cfgL w s₁) "next" (.builtin "next") := globBlt (HL (w := w) S).kin S.g S.b (by kernel_rfl) (by kernel_rfl)
set_option tactic.hygienic false in
theorem gMaxL (S : Start (hd.heap_39 w.params) s₁ mg mb) : GlobVal (cfgL w s₁) "max" (.builtin "max") := globBlt (HL (w := w) S).kin S.g S.b (by kernel_rfl) (by kernel_rfl)
set_option tactic.hygienic false in
theorem keepL {f : Addr} (h : keepIn (cfgL w s₁).K (.ref f) = true) : KeepOk (cfgL w s₁) (.ref f) := keep_K h
set_option tactic.hygienic false in
theorem f144 : FnIn (cfgL w s₁) 144 ["self", "fws", "string"] 3 := ⟨by kernel_rfl, by kernel_rfl, by kernel_rfl, by kernel_rfl, by kernel_rfl⟩
set_option tactic.hygienic false in
theorem d144 (S : Start (hd.heap_39 w.params) s₁ mg mb) : BF (cfgL w s₁) 11 144 pushF := by
  have H := HL (w := w) S; have HC := HCL (w := w) (s₁ := s₁)
  refine b_fn H f144 (by decide +kernel) (vec3 fun a b c => by kernel_rfl) fun L He => ?_
  exact b_cons (b_expr He (b_meth H (m_accApp H HC (by kernel_rfl) (by kernel_rfl)) keep_builtin (b_append H HC) (b_name He rfl) (b_econs (b_tup (b_econs (b_name He rfl) (b_econs (b_name He rfl) b_enil rfl) rfl)) b_enil rfl) (fun uu uu => rfl) (by decide) rfl) rfl) b_nil
set_option tactic.hygienic false in
theorem f197 : FnIn (cfgL w s₁) 197 ["self"] 1 := ⟨by kernel_rfl, by kernel_rfl, by kernel_rfl, by kernel_rfl, by kernel_rfl⟩
set_option tactic.hygienic false in
theorem d197 (S : Start (hd.heap_39 w.params) s₁ mg mb) : BF (cfgL w s₁) 11 197 pcF := by
  have H := HL (w := w) S; have HC := HCL (w := w) (s₁ := s₁)
  refine b_fnA H f197 (by decide +kernel) (vec1 fun a => by kernel_rfl) fun L He => ?_
  exact b_consA (b_partCount H HC He supClsL (supL S L (by kernel_rfl) (by kernel_rfl) ⟨_, _, _, rfl, rfl, rfl, rfl⟩ ⟨_, _, _, _, _, rfl, rfl, rfl, rfl, by kernel_rfl⟩ ⟨_, _, rfl, rfl, rfl⟩) (by kernel_rfl) rfl) b_nilA
set_option tactic.hygienic false in
theorem f160 : FnIn (cfgL w s₁) 160 ["self"] 1 := ⟨by kernel_rfl, by kernel_rfl, by kernel_rfl, by kernel_rfl, by kernel_rfl⟩
set_option tactic.hygienic false in
theorem mCountL (S : Start (hd.heap_39 w.params) s₁ mg mb) : BM (cfgL w s₁) 4 "part_count" (.ref 197) := m_acc (HL (w := w) S) HCL (by kernel_rfl) (by kernel_rfl) (by decide +kernel)
set_option tactic.hygienic false in
theorem d160 (S : Start (hd.heap_39 w.params) s₁ mg mb) : BF (cfgL w s₁) 13 160 popF := by
  have H := HL (w := w) S; have HC := HCL (w := w) (s₁ := s₁)
  refine b_fnA H f160 (by decide +kernel) (vec1 fun a => by kernel_rfl) fun L He => ?_
  refine b_consA (b_sA (b_if (b_cmpT (b_meth H (mCountL S) (keepL (by kernel_rfl)) ((d197 S).call (by decide)) (b_name He rfl) b_enil (fun uu uu => rfl) (by decide) rfl) b_int rfl) (b_cons (b_ret (b_tup (b_econs (b_str (by decide +kernel)) (b_econs (b_str (by decide +kernel)) b_enil rfl) rfl))) b_nil) b_nil)) ?_
  exact b_consA (b_pop H HC He supClsL (supL S L (by kernel_rfl) (by kernel_rfl) ⟨_, _, _, rfl, rfl, rfl, rfl⟩ ⟨_, _, _, _, _, rfl, rfl, rfl, rfl, by kernel_rfl⟩ ⟨_, _, rfl, rfl, rfl⟩) (by kernel_rfl) rfl) b_nilA
set_option tactic.hygienic false in
theorem f167 : FnIn (cfgL w s₁) 167 ["self"] 1 := ⟨by kernel_rfl, by kernel_rfl, by kernel_rfl, by kernel_rfl, by kernel_rfl⟩
set_option tactic.hygienic false in
theorem d167 (S : Start (hd.heap_39 w.params) s₁ mg mb) : BF (cfgL w s₁) 11 167 accLenF := by
  have H := HL (w := w) S; have HC := HCL (w := w) (s₁ := s₁)
  refine b_fn H f167 (by decide +kernel) (vec1 fun a => by kernel_rfl) fun L He => ?_
  exact b_cons (b_accLen H HC HAL (HGL S) He (t := (166, 162, #[])) ⟨by simp [mkCfg], by kernel_rfl, by kernel_rfl, by kernel_rfl, by intro y hy; revert y; decide, by kernel_rfl, rfl⟩ ⟨by kernel_rfl, by kernel_rfl, by kernel_rfl, by kernel_rfl⟩ (gLenL S) (gSumL S) (by kernel_rfl)) b_nil
set_option tactic.hygienic false in
theorem f174 : FnIn (cfgL w s₁) 174 ["self"] 1 := ⟨by kernel_rfl, by kernel_rfl, by kernel_rfl, by kernel_rfl, by kernel_rfl⟩
set_option tactic.hygienic false in
theorem d174 (S : Start (hd.heap_39 w.params) s₁ mg mb) : BF (cfgL w s₁) 11 174 accStrF := by
  have H := HL (w := w) S; have HC := HCL (w := w) (s₁ := s₁)
  refine b_fn H f174 (by decide +kernel) (vec1 fun a => by kernel_rfl) fun L He => ?_
  obtain ⟨te, hE⟩ : ∃ te, GlobVal (cfgL w s₁) "EMPTYSTRING" (.str "" te) := ⟨_, globOwn H.kin S.g rfl⟩
  exact b_cons (b_accStr H HC HAL (HGL S) He (t := (173, 169, #[])) ⟨by simp [mkCfg], by kernel_rfl, by kernel_rfl, by kernel_rfl, by intro y hy; revert y; decide, by kernel_rfl, rfl⟩ ⟨by kernel_rfl, by kernel_rfl, by kernel_rfl, by kernel_rfl⟩ hE (by kernel_rfl) rfl rfl) b_nil
set_option tactic.hygienic false in
theorem f152 : FnIn (cfgL w s₁) 152 ["self", "i", "popped"] 2 := ⟨by kernel_rfl, by kernel_rfl, by kernel_rfl, by kernel_rfl, by kernel_rfl⟩
set_option tactic.hygienic false in
theorem d152 (S : Start (hd.heap_39 w.params) s₁ mg mb) : BF (cfgL w s₁) 11 152 popFromF := by
  have H := HL (w := w) S; have HC := HCL (w := w) (s₁ := s₁)
  refine b_fnD (m := 2) (dxs := []) (dv := []) H f152 (by decide +kernel) (fun uu uu => .nil) (fun s X => vec2 fun a b => binds_K X rfl rfl rfl rfl (by kernel_rfl)) fun L He => ?_
  exact b_cons (b_asg He rfl (b_slice H HC HAL HIL (b_name He rfl) (b_oS (b_name He rfl)) b_oN) rfl) (b_cons (b_setSl H HC HAL HIL (b_lst b_enil) (b_name He rfl) (b_oS (b_name He rfl)) b_oN rfl) (b_cons (b_ret (b_name He rfl)) b_nil))
set_option tactic.hygienic false in
theorem f182 : FnIn (cfgL w s₁) 182 ["self", "startval"] 2 := ⟨by kernel_rfl, by kernel_rfl, by kernel_rfl, by kernel_rfl, by kernel_rfl⟩
set_option tactic.hygienic false in
theorem d182 (S : Start (hd.heap_39 w.params) s₁ mg mb) : BF (cfgL w s₁) 12 182 resetF := by
  have H := HL (w := w) S; have HC := HCL (w := w) (s₁ := s₁)
  have B : ∀ L, EnvB (envAt (cfgL w s₁) 182 L) ["self", "startval"] → BB (cfgL w s₁) 11 (envAt (cfgL w s₁) 182 L) ["self", "startval"] (bodyAt (cfgL w s₁).K 182) resetB := by
    intro L He
    exact b_cons (b_if (b_cmpT (b_name He rfl) b_none rfl) (b_cons (b_asg He rfl (b_lst b_enil) rfl) b_nil) b_nil) (b_cons (b_setSl H HC HAL HIL (b_name He rfl) (b_name He rfl) b_oN b_oN rfl) (b_cons (b_ini H stAccL takerIniL (b_name He rfl) b_int rfl) b_nil))
  exact ⟨DenF.or (b_fnD (m := 1) (dxs := [.none]) (dv := [.none]) H f182 (by decide +kernel) (fun uu uu => .cons .none .nil) (fun s X => vec1 fun a => binds_K X rfl rfl rfl rfl (by kernel_rfl)) B).run (b_fnD (m := 2) (dxs := []) (dv := []) H f182 (by decide +kernel) (fun uu uu => .nil) (fun s X => vec2 fun a b => binds_K X rfl rfl rfl rfl (by kernel_rfl)) B).run⟩
set_option tactic.hygienic false in
theorem dLenL (S : Start (hd.heap_39 w.params) s₁ mg mb) {d : Nat} (h : 12 ≤ d) : BC (cfgL w s₁) d (.builtin "len") (lenF accLenF) := b_len (d' := 11) (HL (w := w) S) HSpL (d167 S) h
set_option tactic.hygienic false in
theorem dStrL (S : Start (hd.heap_39 w.params) s₁ mg mb) {d : Nat} (h : 13 ≤ d) : BC (cfgL w s₁) d (.type "str") (strF accStrF noF) := b_strC (d' := 11) (HL (w := w) S) HSpL ((d174 S).call (by decide)) b_noF h
set_option tactic.hygienic false in
theorem fgL : FnGIn (cfgL w s₁) 99 := ⟨by kernel_rfl, by kernel_rfl, by kernel_rfl, by kernel_rfl, by kernel_rfl, fun v => by kernel_rfl⟩
set_option tactic.hygienic false in
theorem d99 (S : Start (hd.heap_39 w.params) s₁ mg mb) : BF (cfgL w s₁) 11 99 makeGenF := b_gen (HL (w := w) S) fgL rfl
theorem dNextL (S : Start (hd.heap_39 w.params) s₁ mg mb) : BC (cfgL w s₁) 16 (.builtin "next") (nextF lenE0 lenE1) := by
  have H := HL (w := w) S; have HC := HCL (w := w) (s₁ := s₁)
  exact b_nextG (d := 13) H fgL rfl rfl (fun L He => b_bin (b_attr H HC rfl (b_name He rfl) (fun uu uu => rfl)) (b_call H He (gLenL S) (by kernel_rfl) keep_builtin (dLenL S (by decide)) (b_econs (b_attr H HC rfl (b_name He rfl) (fun uu uu => rfl)) b_enil rfl) (by decide +kernel))) (fun L He => b_bin (b_attr H HC rfl (b_name He rfl) (fun uu uu => rfl)) (b_attr H HC rfl (b_name He rfl) (fun uu uu => rfl)))
set_option tactic.hygienic false in
theorem f189 : FnIn (cfgL w s₁) 189 ["self"] 1 := ⟨by kernel_rfl, by kernel_rfl, by kernel_rfl, by kernel_rfl, by kernel_rfl⟩
set_option tactic.hygienic false in
theorem d189 (S : Start (hd.heap_39 w.params) s₁ mg mb) : BF (cfgL w s₁) 16 189 onlywsF := by
  have H := HL (w := w) S; have HC := HCL (w := w) (s₁ := s₁)
  refine b_fn H f189 (by decide +kernel) (vec1 fun a => by kernel_rfl) fun L He => ?_
  exact b_cons (b_ret (b_andE (b_cmp (b_attr H HC rfl (b_name He rfl) (fun uu uu => rfl)) b_int rfl) (b_orE (b_notA H HSpL ((d167 S).call (by decide)) (b_name He rfl)) (b_meth H m_isspace keep_builtin b_isspace (b_call H He (gStrL S) (by kernel_rfl) keep_type (dStrL S (by decide)) (b_econs (b_name He rfl) b_enil rfl) (by decide +kernel)) b_enil (fun uu uu => rfl) (by decide) rfl)))) b_nil
set_option tactic.hygienic false in
theorem accMakeL : AccMake (cfgL w s₁) 137 := ⟨⟨_, _, _, _, rfl, rfl, rfl, rfl⟩, by kernel_rfl, by kernel_rfl, by kernel_rfl, by kernel_rfl⟩
set_option tactic.hygienic false in
theorem f137 : FnIn (cfgL w s₁) 137 ["self", "initial_size"] 2 := ⟨by kernel_rfl, by kernel_rfl, by kernel_rfl, by kernel_rfl, by kernel_rfl⟩
set_option tactic.hygienic false in
theorem dAccL (S : Start (hd.heap_39 w.params) s₁ mg mb) : BC (cfgL w s₁) 12 (.ref 200) mkAccF := by
  have H := HL (w := w) S; have HC := HCL (w := w) (s₁ := s₁)
  have F := f137 (w := w) (s₁ := s₁)
  exact ⟨den_mkAcc (d := 10) H HC supClsL accMakeL stAccL takerIniL (F.okD (m := 2) (dxs := []) (dv := []) H (fun uu uu => .nil) (fun s X => vec2 fun a b => binds_K X rfl rfl rfl rfl (by kernel_rfl))) (fun L => supL S L (by kernel_rfl) (by kernel_rfl) ⟨_, _, _, rfl, rfl, rfl, rfl⟩ ⟨_, _, _, _, _, rfl, rfl, rfl, rfl, by kernel_rfl⟩ ⟨_, _, rfl, rfl, rfl⟩) (by kernel_rfl) (by rfl) (fun L => by kernel_rfl) (fun L => rfl) (fun L => rfl)⟩
set_option tactic.hygienic false in
theorem f57 : FnIn (cfgL w s₁) 57 ["self", "headerlen", "maxlen", "continuation_ws", "splitchars"] 5 := ⟨by kernel_rfl, by kernel_rfl, by kernel_rfl, by kernel_rfl, by kernel_rfl⟩
set_option tactic.hygienic false in
theorem dFmtL (S : Start (hd.heap_39 w.params) s₁ mg mb) : BC (cfgL w s₁) 16 (.ref 116) mkFmtF := by
  have H := HL (w := w) S; have HC := HCL (w := w) (s₁ := s₁)
  refine b_mkFmt (d := 14) (LF := accLenF) H (by kernel_rfl) (by kernel_rfl) (by kernel_rfl) stVfL f57 (vec5 fun a b c d e => by kernel_rfl) fun L He => ?_
  have gA : GlobVal (cfgL w s₁) "_Accumulator" (.ref 200) := globOwn H.kin S.g (by kernel_rfl)
  exact b_icons (by kernel_rfl) (b_name He rfl) (b_icons (by kernel_rfl) (b_name He rfl) (b_icons (by kernel_rfl) (b_call H He (gLenL S) (by kernel_rfl) keep_builtin (dLenL S (by decide)) (b_econs (b_name He rfl) b_enil rfl) (by decide +kernel))
      (b_icons (by kernel_rfl) (b_name He rfl) (b_icons (by kernel_rfl) (b_newL b_enil) (b_icons (by kernel_rfl) (b_call H He gA (by kernel_rfl) (keepL (by kernel_rfl)) ((dAccL S).up (by decide)) (b_econs (b_name He rfl) b_enil rfl) (by decide +kernel)) b_inil rfl) rfl) rfl) rfl) rfl) rfl
set_option tactic.hygienic false in
theorem bPushL : BindOk (cfgL w s₁) "push" 144 := ⟨by kernel_rfl, by kernel_rfl, by kernel_rfl, by kernel_rfl, by kernel_rfl, by kernel_rfl, by decide +kernel⟩
set_option tactic.hygienic false in
theorem mA_push (S : Start (hd.heap_39 w.params) s₁ mg mb) : BM (cfgL w s₁) 4 "push" (.ref 144) := m_acc (HL (w := w) S) HCL (by kernel_rfl) (by kernel_rfl) (by decide +kernel)
set_option tactic.hygienic false in
theorem mA_pop (S : Start (hd.heap_39 w.params) s₁ mg mb) : BM (cfgL w s₁) 4 "pop" (.ref 160) := m_acc (HL (w := w) S) HCL (by kernel_rfl) (by kernel_rfl) (by decide +kernel)
set_option tactic.hygienic false in
theorem mA_pop_from (S : Start (hd.heap_39 w.params) s₁ mg mb) : BM (cfgL w s₁) 4 "pop_from" (.ref 152) := m_acc (HL (w := w) S) HCL (by kernel_rfl) (by kernel_rfl) (by decide +kernel)
set_option tactic.hygienic false in
theorem mA_reset (S : Start (hd.heap_39 w.params) s₁ mg mb) : BM (cfgL w s₁) 4 "reset" (.ref 182) := m_acc (HL (w := w) S) HCL (by kernel_rfl) (by kernel_rfl) (by decide +kernel)
set_option tactic.hygienic false in
theorem mA_is_onlyws (S : Start (hd.heap_39 w.params) s₁ mg mb) : BM (cfgL w s₁) 4 "is_onlyws" (.ref 189) := m_acc (HL (w := w) S) HCL (by kernel_rfl) (by kernel_rfl) (by decide +kernel)
set_option tactic.hygienic false in
theorem mA_part_count (S : Start (hd.heap_39 w.params) s₁ mg mb) : BM (cfgL w s₁) 4 "part_count" (.ref 197) := mCountL S
set_option tactic.hygienic false in
theorem mF_str (S : Start (hd.heap_39 w.params) s₁ mg mb) : BM (cfgL w s₁) 3 "_str" (.ref 64) := m_fmt (HL (w := w) S) HCL (by kernel_rfl) (by kernel_rfl) (by decide +kernel)
set_option tactic.hygienic false in
theorem mFnewline (S : Start (hd.heap_39 w.params) s₁ mg mb) : BM (cfgL w s₁) 3 "newline" (.ref 78) := m_fmt (HL (w := w) S) HCL (by kernel_rfl) (by kernel_rfl) (by decide +kernel)
set_option tactic.hygienic false in
theorem mFadd_transition (S : Start (hd.heap_39 w.params) s₁ mg mb) : BM (cfgL w s₁) 3 "add_transition" (.ref 85) := m_fmt (HL (w := w) S) HCL (by kernel_rfl) (by kernel_rfl) (by decide +kernel)
set_option tactic.hygienic false in
theorem mF_maxlengths (S : Start (hd.heap_39 w.params) s₁ mg mb) : BM (cfgL w s₁) 3 "_maxlengths" (.ref 99) := m_fmt (HL (w := w) S) HCL (by kernel_rfl) (by kernel_rfl) (by decide +kernel)
set_option tactic.hygienic false in
theorem mF_ascii_split (S : Start (hd.heap_39 w.params) s₁ mg mb) : BM (cfgL w s₁) 3 "_ascii_split" (.ref 106) := m_fmt (HL (w := w) S) HCL (by kernel_rfl) (by kernel_rfl) (by decide +kernel)
set_option tactic.hygienic false in
theorem mF_append_chunk (S : Start (hd.heap_39 w.params) s₁ mg mb) : BM (cfgL w s₁) 3 "_append_chunk" (.ref 113) := m_fmt (HL (w := w) S) HCL (by kernel_rfl) (by kernel_rfl) (by decide +kernel)
set_option tactic.hygienic false in
theorem k64 : KeepOk (cfgL w s₁) (.ref 64) := keepL (by kernel_rfl)
set_option tactic.hygienic false in
theorem k78 : KeepOk (cfgL w s₁) (.ref 78) := keepL (by kernel_rfl)
set_option tactic.hygienic false in
theorem k85 : KeepOk (cfgL w s₁) (.ref 85) := keepL (by kernel_rfl)
set_option tactic.hygienic false in
theorem k99 : KeepOk (cfgL w s₁) (.ref 99) := keepL (by kernel_rfl)
set_option tactic.hygienic false in
theorem k106 : KeepOk (cfgL w s₁) (.ref 106) := keepL (by kernel_rfl)
set_option tactic.hygienic false in
theorem k113 : KeepOk (cfgL w s₁) (.ref 113) := keepL (by kernel_rfl)
set_option tactic.hygienic false in
theorem k144 : KeepOk (cfgL w s₁) (.ref 144) := keepL (by kernel_rfl)
set_option tactic.hygienic false in
theorem k152 : KeepOk (cfgL w s₁) (.ref 152) := keepL (by kernel_rfl)
set_option tactic.hygienic false in
theorem k160 : KeepOk (cfgL w s₁) (.ref 160) := keepL (by kernel_rfl)
set_option tactic.hygienic false in
theorem k182 : KeepOk (cfgL w s₁) (.ref 182) := keepL (by kernel_rfl)
set_option tactic.hygienic false in
theorem k189 : KeepOk (cfgL w s₁) (.ref 189) := keepL (by kernel_rfl)
set_option tactic.hygienic false in
theorem k197 : KeepOk (cfgL w s₁) (.ref 197) := keepL (by kernel_rfl)
set_option tactic.hygienic false in
theorem k116 : KeepOk (cfgL w s₁) (.ref 116) := keepL (by kernel_rfl)
set_option tactic.hygienic false in
theorem g_ValueFormatter (S : Start (hd.heap_39 w.params) s₁ mg mb) : GlobVal (cfgL w s₁) "_ValueFormatter" (.ref 116) := globOwn (HL (w := w) S).kin S.g (by kernel_rfl)
set_option tactic.hygienic false in
theorem k211 : KeepOk (cfgL w s₁) (.ref 211) := keepL (by kernel_rfl)
set_option tactic.hygienic false in
theorem g_law_step (S : Start (hd.heap_39 w.params) s₁ mg mb) : GlobVal (cfgL w s₁) "_law_step" (.ref 211) := globOwn (HL (w := w) S).kin S.g (by kernel_rfl)
set_option tactic.hygienic false in
theorem k218 : KeepOk (cfgL w s₁) (.ref 218) := keepL (by kernel_rfl)
set_option tactic.hygienic false in
theorem g_law_run (S : Start (hd.heap_39 w.params) s₁ mg mb) : GlobVal (cfgL w s₁) "_law_run" (.ref 218) := globOwn (HL (w := w) S).kin S.g (by kernel_rfl)
set_option tactic.hygienic false in
theorem reL : ReOk (cfgL w s₁) 43 42 := ⟨⟨_, _, _, _, _, _, rfl⟩, ⟨_, _, _, _, rfl, by kernel_rfl⟩⟩
set_option tactic.hygienic false in
theorem reDictL : ∀ o, (cfgL w s₁).K.lookup 43 = some o → o.dict = none := by
  have e : ((cfgL w s₁).K.lookup 43).map (·.dict) = some none := by kernel_rfl
  intro o ho
  rw [ho] at e
  exact Option.some.inj e
set_option tactic.hygienic false in
theorem gReL (S : Start (hd.heap_39 w.params) s₁ mg mb) : GlobVal (cfgL w s₁) "_twin_re_1" (.ref 43) := globOwn (HL (w := w) S).kin S.g (by kernel_rfl)
end
end Mine.Internal
end
section
open PySem PySem.W PyProof.Rows PySem.Calls
namespace Mine.Internal
section
variable {w : World} {s₁ : Shared} {mg mb : Str → Option Value}
set_option tactic.hygienic false in
theorem f78 : FnIn (cfgL w s₁) 78 ["self", "end_of_line"] 1 := ⟨by kernel_rfl, by kernel_rfl, by kernel_rfl, by kernel_rfl, by kernel_rfl⟩
set_option tactic.hygienic false in
theorem d78 (S : Start (hd.heap_39 w.params) s₁ mg mb) : BF (cfgL w s₁) 18 78 newlineF := by
  have H := HL (w := w) S; have HC := HCL (w := w) (s₁ := s₁)
  refine b_fn H f78 (by decide +kernel) (vec1 fun a => by kernel_rfl) fun L He => ?_
  have kd_len : (envAt (cfgL w s₁) 78 L).kindOf "len" = some .globalImplicit := by kernel_rfl
  have kd_str : (envAt (cfgL w s₁) 78 L).kindOf "str" = some .globalImplicit := by kernel_rfl
  exact (b_cons (b_asg He rfl (b_meth H (mA_pop S) k160 ((d160 S).call (by decide)) (b_attr H HC rfl (b_name He rfl) (fun uu uu => rfl)) b_enil (fun uu uu => rfl) (by decide) rfl) rfl)
 (b_cons (b_if (b_cmpT (b_name He rfl) (b_tup (b_econs (b_str (by decide +kernel)) (b_econs (b_str (by decide +kernel)) b_enil rfl) rfl)) rfl) (b_cons (b_expr He (b_methStar H HC bPushL (d144 S) (by decide) (b_attr H HC rfl (b_name He rfl) (fun uu uu => rfl)) (b_name He rfl) (fun uu uu => rfl)) rfl)
 b_nil) b_nil)
 (b_cons (b_if (b_cmpT (b_call H He (gLenL S) kd_len keep_builtin (dLenL S (by decide)) (b_econs (b_attr H HC rfl (b_name He rfl) (fun uu uu => rfl)) b_enil rfl) (by decide +kernel)) b_int rfl) (b_cons (b_if (b_andT (b_tcons (b_tr (b_meth H (mA_is_onlyws S) k189 ((d189 S).call (by decide)) (b_attr H HC rfl (b_name He rfl) (fun uu uu => rfl)) b_enil (fun uu uu => rfl) (by decide) rfl) (fun uu => rfl)) (b_tcons (b_tr (b_attr H HC rfl (b_name He rfl) (fun uu uu => rfl)) (fun uu => rfl)) b_tnil))) (b_cons (b_augIdx H HC HAL HIL (b_attr H HC rfl (b_name He rfl) (fun uu uu => rfl)) (b_neg b_int) (b_call H He (gStrL S) kd_str keep_type (dStrL S (by decide)) (b_econs (b_attr H HC rfl (b_name He rfl) (fun uu uu => rfl)) b_enil rfl) (by decide +kernel)) (fun uu uu uu => rfl))
 b_nil) (b_cons (b_expr He (b_meth H m_append keep_builtin (b_append H HC) (b_attr H HC rfl (b_name He rfl) (fun uu uu => rfl)) (b_econs (b_call H He (gStrL S) kd_str keep_type (dStrL S (by decide)) (b_econs (b_attr H HC rfl (b_name He rfl) (fun uu uu => rfl)) b_enil rfl) (by decide +kernel)) b_enil rfl) (fun uu uu => rfl) (by decide) rfl) rfl)
 b_nil))
 b_nil) b_nil)
 (b_cons (b_expr He (b_meth H (mA_reset S) k182 ((d182 S).call (by decide)) (b_attr H HC rfl (b_name He rfl) (fun uu uu => rfl)) b_enil (fun uu uu => rfl) (by decide) rfl) rfl)
 b_nil))))
set_option tactic.hygienic false in
theorem f64 : FnIn (cfgL w s₁) 64 ["self", "linesep"] 2 := ⟨by kernel_rfl, by kernel_rfl, by kernel_rfl, by kernel_rfl, by kernel_rfl⟩
set_option tactic.hygienic false in
theorem d64 (S : Start (hd.heap_39 w.params) s₁ mg mb) : BF (cfgL w s₁) 20 64 uStrF := by
  have H := HL (w := w) S; have HC := HCL (w := w) (s₁ := s₁)
  refine b_fn H f64 (by decide +kernel) (vec2 fun a b => by kernel_rfl) fun L He => ?_
  exact (b_cons (b_expr He (b_meth H (mFnewline S) k78 ((d78 S).call (by decide)) (b_name He rfl) b_enil (fun uu uu => rfl) (by decide) rfl) rfl)
 (b_cons (b_ret (b_meth H m_join keep_builtin b_join (b_name He rfl) (b_econs (b_attr H HC rfl (b_name He rfl) (fun uu uu => rfl)) b_enil rfl) (fun uu uu => rfl) (by decide) rfl))
 b_nil))
set_option tactic.hygienic false in
theorem f71 : FnIn (cfgL w s₁) 71 ["self"] 1 := ⟨by kernel_rfl, by kernel_rfl, by kernel_rfl, by kernel_rfl, by kernel_rfl⟩
set_option tactic.hygienic false in
theorem d71 (S : Start (hd.heap_39 w.params) s₁ mg mb) : BF (cfgL w s₁) 22 71 fmtStrF := by
  have H := HL (w := w) S; have HC := HCL (w := w) (s₁ := s₁)
  refine b_fn H f71 (by decide +kernel) (vec1 fun a => by kernel_rfl) fun L He => ?_
  have kd_NL : (envAt (cfgL w s₁) 71 L).kindOf "NL" = some .globalImplicit := by kernel_rfl
  obtain ⟨teNL, hNL⟩ : ∃ te, GlobVal (cfgL w s₁) "NL" (.str "\n" te) := ⟨_, globOwn H.kin S.g rfl⟩
  exact (b_cons (b_ret (b_meth H (mF_str S) k64 ((d64 S).call (by decide)) (b_name He rfl) (b_econs (b_glob H He hNL (by decide +kernel) kd_NL (by decide +kernel)) b_enil rfl) (fun uu uu => rfl) (by decide) rfl))
 b_nil)
set_option tactic.hygienic false in
theorem f113 : FnIn (cfgL w s₁) 113 ["self", "fws", "string", "ch", "i", "prevpart", "part", "remainder"] 3 := ⟨by kernel_rfl, by kernel_rfl, by kernel_rfl, by kernel_rfl, by kernel_rfl⟩
set_option tactic.hygienic false in
theorem d113 (S : Start (hd.heap_39 w.params) s₁ mg mb) : BF (cfgL w s₁) 22 113 chunkF := by
  have H := HL (w := w) S; have HC := HCL (w := w) (s₁ := s₁)
  refine b_fn H f113 (by decide +kernel) (vec3 fun a b c => by kernel_rfl) fun L He => ?_
  have kd_len : (envAt (cfgL w s₁) 113 L).kindOf "len" = some .globalImplicit := by kernel_rfl
  have kd_range : (envAt (cfgL w s₁) 113 L).kindOf "range" = some .globalImplicit := by kernel_rfl
  have kd_str : (envAt (cfgL w s₁) 113 L).kindOf "str" = some .globalImplicit := by kernel_rfl
  exact (b_cons (b_expr He (b_meth H (mA_push S) k144 ((d144 S).call (by decide)) (b_attr H HC rfl (b_name He rfl) (fun uu uu => rfl)) (b_econs (b_name He rfl) (b_econs (b_name He rfl) b_enil rfl) rfl) (fun uu uu => rfl) (by decide) rfl) rfl)
 (b_cons (b_if (b_cmpT (b_call H He (gLenL S) kd_len keep_builtin (dLenL S (by decide)) (b_econs (b_attr H HC rfl (b_name He rfl) (fun uu uu => rfl)) b_enil rfl) (by decide +kernel)) (b_attr H HC rfl (b_name He rfl) (fun uu uu => rfl)) rfl) (b_cons (b_for He rfl (b_attr H HC rfl (b_name He rfl) (fun uu uu => rfl)) (b_cons (b_forR H He rfl (gRangeL S) kd_range (b_econs (b_bin (b_meth H (mA_part_count S) k197 ((d197 S).call (by decide)) (b_attr H HC rfl (b_name He rfl) (fun uu uu => rfl)) b_enil (fun uu uu => rfl) (by decide) rfl) b_int) (b_econs b_int (b_econs (b_neg b_int) b_enil rfl) rfl) rfl) (b_cons (b_if (b_tr (b_meth H m_isspace keep_builtin b_isspace (b_name He rfl) b_enil (fun uu uu => rfl) (by decide) rfl) (fun uu => rfl)) (b_cons (b_asg He rfl (b_idx H HC HAL HIL (b_idx H HC HAL HIL (b_attr H HC rfl (b_name He rfl) (fun uu uu => rfl)) (b_name He rfl)) b_int) rfl)
 (b_cons (b_if (b_andT (b_tcons (b_tr (b_name He rfl) (fun uu => rfl)) (b_tcons (b_cmpT (b_idx H HC HAL HIL (b_name He rfl) b_int) (b_name He rfl) rfl) b_tnil))) (b_cons b_brk
 b_nil) b_nil)
 b_nil)) b_nil)
 (b_cons (b_asg He rfl (b_idx H HC HAL HIL (b_idx H HC HAL HIL (b_attr H HC rfl (b_name He rfl) (fun uu uu => rfl)) (b_bin (b_name He rfl) b_int)) b_int) rfl)
 (b_cons (b_if (b_andT (b_tcons (b_tr (b_name He rfl) (fun uu => rfl)) (b_tcons (b_cmpT (b_idx H HC HAL HIL (b_name He rfl) (b_neg b_int)) (b_name He rfl) rfl) b_tnil))) (b_cons b_brk
 b_nil) b_nil)
 b_nil))) (b_cons b_cont
 b_nil))
 (b_cons b_brk
 b_nil)) (b_cons (b_unp He rfl rfl (b_meth H (mA_pop S) k160 ((d160 S).call (by decide)) (b_attr H HC rfl (b_name He rfl) (fun uu uu => rfl)) b_enil (fun uu uu => rfl) (by decide) rfl) rfl rfl)
 (b_cons (b_if (b_cmpT (b_attr H HC rfl (b_attr H HC rfl (b_name He rfl) (fun uu uu => rfl)) (fun uu uu => rfl)) b_int rfl) (b_cons (b_expr He (b_meth H (mFnewline S) k78 ((d78 S).call (by decide)) (b_name He rfl) b_enil (fun uu uu => rfl) (by decide) rfl) rfl)
 (b_cons (b_if (b_notT (b_tr (b_name He rfl) (fun uu => rfl))) (b_cons (b_asg He rfl (b_str (by decide +kernel)) rfl)
 b_nil) b_nil)
 b_nil)) b_nil)
 (b_cons (b_expr He (b_meth H (mA_push S) k144 ((d144 S).call (by decide)) (b_attr H HC rfl (b_name He rfl) (fun uu uu => rfl)) (b_econs (b_name He rfl) (b_econs (b_name He rfl) b_enil rfl) rfl) (fun uu uu => rfl) (by decide) rfl) rfl)
 (b_cons b_retN
 b_nil)))) (fun uu => rfl))
 (b_cons (b_asg He rfl (b_meth H (mA_pop_from S) k152 ((d152 S).call (by decide)) (b_attr H HC rfl (b_name He rfl) (fun uu uu => rfl)) (b_econs (b_name He rfl) b_enil rfl) (fun uu uu => rfl) (by decide) rfl) rfl)
 (b_cons (b_expr He (b_meth H m_append keep_builtin (b_append H HC) (b_attr H HC rfl (b_name He rfl) (fun uu uu => rfl)) (b_econs (b_call H He (gStrL S) kd_str keep_type (dStrL S (by decide)) (b_econs (b_attr H HC rfl (b_name He rfl) (fun uu uu => rfl)) b_enil rfl) (by decide +kernel)) b_enil rfl) (fun uu uu => rfl) (by decide) rfl) rfl)
 (b_cons (b_expr He (b_meth H (mA_reset S) k182 ((d182 S).call (by decide)) (b_attr H HC rfl (b_name He rfl) (fun uu uu => rfl)) (b_econs (b_name He rfl) b_enil rfl) (fun uu uu => rfl) (by decide) rfl) rfl)
 b_nil)))) b_nil)
 b_nil))
set_option tactic.hygienic false in
theorem f106 : FnIn (cfgL w s₁) 106 ["self", "fws", "string", "splitchars", "parts", "part"] 4 := ⟨by kernel_rfl, by kernel_rfl, by kernel_rfl, by kernel_rfl, by kernel_rfl⟩
set_option tactic.hygienic false in
theorem d106 (S : Start (hd.heap_39 w.params) s₁ mg mb) : BF (cfgL w s₁) 25 106 splitF := by
  have H := HL (w := w) S; have HC := HCL (w := w) (s₁ := s₁)
  refine b_fn H f106 (by decide +kernel) (vec4 fun a b c d => by kernel_rfl) fun L He => ?_
  have kd__twin_re_1 : (envAt (cfgL w s₁) 106 L).kindOf "_twin_re_1" = some .globalImplicit := by kernel_rfl
  have kd_iter : (envAt (cfgL w s₁) 106 L).kindOf "iter" = some .globalImplicit := by kernel_rfl
  have kd_zip : (envAt (cfgL w s₁) 106 L).kindOf "zip" = some .globalImplicit := by kernel_rfl
  exact (b_cons (b_asg He rfl (b_reSplit H He reL reDictL (gReL S) kd__twin_re_1 (b_bin (b_name He rfl) (b_name He rfl)) (by decide +kernel) rfl rfl) rfl)
 (b_cons (b_if (b_tr (b_idx H HC HAL HIL (b_name He rfl) b_int) (fun uu => rfl)) (b_cons (b_setSl H HC HAL HIL (b_lst (b_econs (b_str (by decide +kernel)) b_enil rfl)) (b_name He rfl) b_oN (b_oS b_int) rfl)
 b_nil) (b_cons (b_expr He (b_meth H m_popAt keep_builtin b_popAt (b_name He rfl) (b_econs b_int b_enil rfl) (fun uu uu => rfl) (by decide) rfl) rfl)
 b_nil))
 (b_cons (b_zip H He rfl rfl (gZipL S) kd_zip (gIterL S) kd_iter (b_name He rfl) (b_cons (b_expr He (b_meth H (mF_append_chunk S) k113 ((d113 S).call (by decide)) (b_name He rfl) (b_econs (b_name He rfl) (b_econs (b_name He rfl) b_enil rfl) rfl) (fun uu uu => rfl) (by decide) rfl) rfl)
 b_nil) b_nil rfl)
 b_nil)))
set_option tactic.hygienic false in
theorem f85 : FnIn (cfgL w s₁) 85 ["self"] 1 := ⟨by kernel_rfl, by kernel_rfl, by kernel_rfl, by kernel_rfl, by kernel_rfl⟩
set_option tactic.hygienic false in
theorem d85 (S : Start (hd.heap_39 w.params) s₁ mg mb) : BF (cfgL w s₁) 20 85 transF := by
  have H := HL (w := w) S; have HC := HCL (w := w) (s₁ := s₁)
  refine b_fn H f85 (by decide +kernel) (vec1 fun a => by kernel_rfl) fun L He => ?_
  exact (b_cons (b_expr He (b_meth H (mA_push S) k144 ((d144 S).call (by decide)) (b_attr H HC rfl (b_name He rfl) (fun uu uu => rfl)) (b_econs (b_str (by decide +kernel)) (b_econs (b_str (by decide +kernel)) b_enil rfl) rfl) (fun uu uu => rfl) (by decide) rfl) rfl)
 b_nil)
set_option tactic.hygienic false in
theorem dStrAnyL (S : Start (hd.heap_39 w.params) s₁ mg mb) {d : Nat} (h : 24 ≤ d) : BC (cfgL w s₁) d (.type "str") (strF accStrF fmtStrF) := b_strC (d' := 22) (HL (w := w) S) HSpL ((d174 S).call (by decide)) ((d71 S).call (by decide)) h
end
end Mine.Internal
end
section
open PySem PySem.W PyProof.Rows PySem.Calls
namespace Mine.Internal
section
variable {w : World} {s₁ : Shared} {mg mb : Str → Option Value}
set_option tactic.hygienic false in
theorem f211 : FnIn (cfgL w s₁) 211 ["made", "x"] 2 := ⟨by kernel_rfl, by kernel_rfl, by kernel_rfl, by kernel_rfl, by kernel_rfl⟩
set_option tactic.hygienic false in
theorem d211 (S : Start (hd.heap_39 w.params) s₁ mg mb) : BF (cfgL w s₁) 31 211 p_law_stepF := by
  have H := HL (w := w) S; have HC := HCL (w := w) (s₁ := s₁)
  refine b_fn H f211 (by decide +kernel) (vec2 fun a b => by kernel_rfl) fun L He => ?_
  exact (b_cons (b_if (b_cmpT (b_bin (b_name He rfl) b_int) b_int rfl) (b_cons (b_expr He (b_meth H (mFadd_transition S) k85 ((d85 S).call (by decide)) (b_name He rfl) b_enil (fun uu uu => rfl) (by decide) rfl) rfl)
 b_nil) (b_cons (b_if (b_cmpT (b_bin (b_name He rfl) b_int) b_int rfl) (b_cons (b_expr He (b_meth H (mFnewline S) k78 ((d78 S).call (by decide)) (b_name He rfl) b_enil (fun uu uu => rfl) (by decide) rfl) rfl)
 b_nil) (b_cons (b_expr He (b_meth H (mF_ascii_split S) k106 ((d106 S).call (by decide)) (b_name He rfl) (b_econs (b_str (by decide +kernel)) (b_econs (b_idx H HC HAL HIL (b_lst (b_econs (b_str (by decide +kernel)) (b_econs (b_str (by decide +kernel)) (b_econs (b_str (by decide +kernel)) (b_econs (b_str (by decide +kernel)) (b_econs (b_str (by decide +kernel)) b_enil rfl) rfl) rfl) rfl) rfl)) (b_bin (b_name He rfl) b_int)) (b_econs (b_str (by decide +kernel)) b_enil rfl) rfl) rfl) (fun uu uu => rfl) (by decide) rfl) rfl)
 b_nil))
 b_nil))
 b_nil)
set_option tactic.hygienic false in
theorem f218 : FnIn (cfgL w s₁) 218 ["script", "name", "width", "ahead", "made", "x"] 4 := ⟨by kernel_rfl, by kernel_rfl, by kernel_rfl, by kernel_rfl, by kernel_rfl⟩
set_option tactic.hygienic false in
theorem d218 (S : Start (hd.heap_39 w.params) s₁ mg mb) : BF (cfgL w s₁) 33 218 p_law_runF := by
  have H := HL (w := w) S; have HC := HCL (w := w) (s₁ := s₁)
  refine b_fn H f218 (by decide +kernel) (vec4 fun a b c d => by kernel_rfl) fun L He => ?_
  have kd__ValueFormatter : (envAt (cfgL w s₁) 218 L).kindOf "_ValueFormatter" = some .globalImplicit := by kernel_rfl
  have kd__law_step : (envAt (cfgL w s₁) 218 L).kindOf "_law_step" = some .globalImplicit := by kernel_rfl
  exact (b_cons (b_asg He rfl (b_call H He (g_ValueFormatter S) kd__ValueFormatter k116 ((dFmtL S).up (by decide)) (b_econs (b_name He rfl) (b_econs (b_name He rfl) (b_econs (b_name He rfl) (b_econs (b_str (by decide +kernel)) b_enil rfl) rfl) rfl) rfl) (by decide +kernel)) rfl)
 (b_cons (b_for He rfl (b_name He rfl) (b_cons (b_expr He (b_call H He (g_law_step S) kd__law_step k211 ((d211 S).call (by decide)) (b_econs (b_name He rfl) (b_econs (b_name He rfl) b_enil rfl) rfl) (by decide +kernel)) rfl)
 b_nil) b_nil (fun uu => rfl))
 (b_cons (b_ret (b_name He rfl))
 b_nil)))
set_option tactic.hygienic false in
theorem f223 : FnIn (cfgL w s₁) 223 ["script", "total", "name", "width", "ahead", "later", "made", "first", "room", "x", "early", "late", "told", "fits", "more", "blanks", "cut"] 1 := ⟨by kernel_rfl, by kernel_rfl, by kernel_rfl, by kernel_rfl, by kernel_rfl⟩
theorem d223 (S : Start (hd.heap_39 w.params) s₁ mg mb) : BF (cfgL w s₁) 35 223 lawF := by
  have H := HL (w := w) S; have HC := HCL (w := w) (s₁ := s₁)
  refine b_fn H f223 (by decide +kernel) (vec1 fun a => by kernel_rfl) fun L He => ?_
  have kd__ValueFormatter : (envAt (cfgL w s₁) 223 L).kindOf "_ValueFormatter" = some .globalImplicit := by kernel_rfl
  have kd__law_run : (envAt (cfgL w s₁) 223 L).kindOf "_law_run" = some .globalImplicit := by kernel_rfl
  have kd__law_step : (envAt (cfgL w s₁) 223 L).kindOf "_law_step" = some .globalImplicit := by kernel_rfl
  have kd_len : (envAt (cfgL w s₁) 223 L).kindOf "len" = some .globalImplicit := by kernel_rfl
  have kd_max : (envAt (cfgL w s₁) 223 L).kindOf "max" = some .globalImplicit := by kernel_rfl
  have kd_next : (envAt (cfgL w s₁) 223 L).kindOf "next" = some .globalImplicit := by kernel_rfl
  have kd_str : (envAt (cfgL w s₁) 223 L).kindOf "str" = some .globalImplicit := by kernel_rfl
  have kd_sum : (envAt (cfgL w s₁) 223 L).kindOf "sum" = some .globalImplicit := by kernel_rfl
  exact (b_cons (b_asg He rfl (b_call H He (gSumL S) kd_sum keep_builtin b_sum (b_econs (b_name He rfl) b_enil rfl) (by decide +kernel)) rfl)
 (b_cons (b_asg He rfl (b_bin (b_name He rfl) b_int) rfl)
 (b_cons (b_asg He rfl (b_bin (b_bin (b_bin (b_name He rfl) b_int) b_int) b_int) rfl)
 (b_cons (b_asg He rfl (b_idx H HC HAL HIL (b_lst (b_econs (b_str (by decide +kernel)) (b_econs (b_str (by decide +kernel)) (b_econs (b_str (by decide +kernel)) (b_econs (b_str (by decide +kernel)) b_enil rfl) rfl) rfl) rfl)) (b_bin (b_bin (b_name He rfl) b_int) b_int)) rfl)
 (b_cons (b_asg He rfl (b_bin (b_name He rfl) (b_call H He (gLenL S) kd_len keep_builtin (dLenL S (by decide)) (b_econs (b_name He rfl) b_enil rfl) (by decide +kernel))) rfl)
 (b_cons (b_asg He rfl (b_call H He (g_ValueFormatter S) kd__ValueFormatter k116 ((dFmtL S).up (by decide)) (b_econs (b_name He rfl) (b_econs (b_name He rfl) (b_econs (b_name He rfl) (b_econs (b_str (by decide +kernel)) b_enil rfl) rfl) rfl) rfl) (by decide +kernel)) rfl)
 (b_cons (b_asg He rfl (b_meth H (mF_maxlengths S) k99 ((d99 S).call (by decide)) (b_name He rfl) b_enil (fun uu uu => rfl) (by decide) rfl) rfl)
 (b_cons (b_if (b_cmpT (b_call H He (gNextL S) kd_next keep_builtin ((dNextL S).up (by decide)) (b_econs (b_name He rfl) b_enil rfl) (by decide +kernel)) (b_bin (b_name He rfl) (b_name He rfl)) rfl) (b_cons (b_ret b_bool)
 b_nil) b_nil)
 (b_cons (b_asg He rfl (b_bin (b_name He rfl) (b_name He rfl)) rfl)
 (b_cons (b_for He rfl (b_slice H HC HAL HIL (b_name He rfl) b_oN (b_oS b_int)) (b_cons (b_asg He rfl (b_meth H (mF_maxlengths S) k99 ((d99 S).call (by decide)) (b_name He rfl) b_enil (fun uu uu => rfl) (by decide) rfl) rfl)
 (b_cons (b_expr He (b_call H He (g_law_step S) kd__law_step k211 ((d211 S).call (by decide)) (b_econs (b_name He rfl) (b_econs (b_name He rfl) b_enil rfl) rfl) (by decide +kernel)) rfl)
 (b_cons (b_asg He rfl (b_bin (b_bin (b_name He rfl) (b_call H He (gLenL S) kd_len keep_builtin (dLenL S (by decide)) (b_econs (b_call H He (gStrL S) kd_str keep_type (dStrAnyL S (by decide)) (b_econs (b_attr H HC rfl (b_name He rfl) (fun uu uu => rfl)) b_enil rfl) (by decide +kernel)) b_enil rfl) (by decide +kernel))) (b_ite (b_cmpT (b_attr H HC rfl (b_name He rfl) (fun uu uu => rfl)) (b_lst b_enil) rfl) (b_name He rfl) b_int)) rfl)
 (b_cons (b_asg He rfl (b_meth H (mF_maxlengths S) k99 ((d99 S).call (by decide)) (b_name He rfl) b_enil (fun uu uu => rfl) (by decide) rfl) rfl)
 (b_cons (b_asg He rfl (b_lst (b_econs (b_call H He (gNextL S) kd_next keep_builtin ((dNextL S).up (by decide)) (b_econs (b_name He rfl) b_enil rfl) (by decide +kernel)) (b_econs (b_call H He (gNextL S) kd_next keep_builtin ((dNextL S).up (by decide)) (b_econs (b_name He rfl) b_enil rfl) (by decide +kernel)) (b_econs (b_call H He (gNextL S) kd_next keep_builtin ((dNextL S).up (by decide)) (b_econs (b_name He rfl) b_enil rfl) (by decide +kernel)) (b_econs (b_call H He (gNextL S) kd_next keep_builtin ((dNextL S).up (by decide)) (b_econs (b_name He rfl) b_enil rfl) (by decide +kernel)) (b_econs (b_call H He (gNextL S) kd_next keep_builtin ((dNextL S).up (by decide)) (b_econs (b_name He rfl) b_enil rfl) (by decide +kernel)) (b_econs (b_call H He (gNextL S) kd_next keep_builtin ((dNextL S).up (by decide)) (b_econs (b_name He rfl) b_enil rfl) (by decide +kernel)) b_enil rfl) rfl) rfl) rfl) rfl) rfl)) rfl)
 (b_cons (b_if (b_cmpT (b_name He rfl) (b_lst (b_econs (b_name He rfl) (b_econs (b_name He rfl) (b_econs (b_name He rfl) (b_econs (b_name He rfl) (b_econs (b_name He rfl) (b_econs (b_name He rfl) b_enil rfl) rfl) rfl) rfl) rfl) rfl)) rfl) (b_cons (b_ret b_bool)
 b_nil) b_nil)
 b_nil)))))) b_nil (fun uu => rfl))
 (b_cons (b_asg He rfl (b_call H He (g_law_run S) kd__law_run k218 ((d218 S).call (by decide)) (b_econs (b_slice H HC HAL HIL (b_name He rfl) b_oN (b_oS b_int)) (b_econs (b_name He rfl) (b_econs (b_name He rfl) (b_econs (b_name He rfl) b_enil rfl) rfl) rfl) rfl) (by decide +kernel)) rfl)
 (b_cons (b_expr He (b_meth H (mF_ascii_split S) k106 ((d106 S).call (by decide)) (b_name He rfl) (b_econs (b_str (by decide +kernel)) (b_econs (b_bin (b_str (by decide +kernel)) (b_call H He (gMaxL S) kd_max keep_builtin b_max (b_econs (b_name He rfl) (b_econs b_int b_enil rfl) rfl) (by decide +kernel))) (b_econs (b_str (by decide +kernel)) b_enil rfl) rfl) rfl) (fun uu uu => rfl) (by decide) rfl) rfl)
 (b_cons (b_asg He rfl (b_call H He (g_law_run S) kd__law_run k218 ((d218 S).call (by decide)) (b_econs (b_slice H HC HAL HIL (b_name He rfl) b_oN (b_oS b_int)) (b_econs (b_name He rfl) (b_econs (b_name He rfl) (b_econs (b_name He rfl) b_enil rfl) rfl) rfl) rfl) (by decide +kernel)) rfl)
 (b_cons (b_expr He (b_meth H (mF_ascii_split S) k106 ((d106 S).call (by decide)) (b_name He rfl) (b_econs (b_str (by decide +kernel)) (b_econs (b_bin (b_str (by decide +kernel)) (b_call H He (gMaxL S) kd_max keep_builtin b_max (b_econs (b_bin (b_name He rfl) b_int) (b_econs b_int b_enil rfl) rfl) (by decide +kernel))) (b_econs (b_str (by decide +kernel)) b_enil rfl) rfl) rfl) (fun uu uu => rfl) (by decide) rfl) rfl)
 (b_cons (b_asg He rfl (b_slice H HC HAL HIL (b_comp H HC HAL He (by intro y hy; revert y; decide) (by intro y hy; revert y; decide) rfl (by intro y hy; revert y; decide) rfl (by decide +kernel) (fun cenv hc => by unfold interactive; rw [hc]; rfl) (b_attr H HC rfl (b_name He rfl) (fun uu uu => rfl)) (fun cenv hc He => (b_idx H HC HAL HIL (b_name He rfl) b_int)) (fun uu => rfl)) (b_oS b_int) b_oN) rfl)
 (b_cons (b_asg He rfl b_int rfl)
 (b_cons (b_if (b_orT (b_tcons (b_andT (b_tcons (b_cmpT (b_name He rfl) b_int rfl) (b_tcons (b_cmpT (b_attr H HC rfl (b_name He rfl) (fun uu uu => rfl)) (b_lst b_enil) rfl) b_tnil))) (b_tcons (b_cmpT (b_meth H m_join keep_builtin b_join (b_str (by decide +kernel)) (b_econs (b_name He rfl) b_enil rfl) (fun uu uu => rfl) (by decide) rfl) (b_str (by decide +kernel)) rfl) b_tnil))) (b_cons (b_asg He rfl b_int rfl)
 b_nil) b_nil)
 (b_cons (b_ret (b_andE (b_cmp (b_attr H HC rfl (b_name He rfl) (fun uu uu => rfl)) (b_attr H HC rfl (b_name He rfl) (fun uu uu => rfl)) rfl) (b_cmp (b_call H He (gLenL S) kd_len keep_builtin (dLenL S (by decide)) (b_econs (b_attr H HC rfl (b_name He rfl) (fun uu uu => rfl)) b_enil rfl) (by decide +kernel)) (b_bin (b_call H He (gLenL S) kd_len keep_builtin (dLenL S (by decide)) (b_econs (b_attr H HC rfl (b_name He rfl) (fun uu uu => rfl)) b_enil rfl) (by decide +kernel)) (b_name He rfl)) rfl)))
 b_nil))))))))))))))))))
end
end Mine.Internal
end
section
open PySem PySem.W PyProof.Rows PySem.Calls
theorem PySem.Challenge.cw_dm0091_06_holds : PySem.Challenge.rw_dm0091_06.Holds := by
  refine Mine.Internal.hd ?_
  k_fill
  intro w s₀ s₁ mg mb G Y fa o pm cd doc dV kV ho hdd hcd hD hmg hg args vals as hpre hlay hrd hwl hlo
  have KX := kIn_of Y
  refine Ground.open G ?_
  intro T B D TE TW
  wrow_args hpre hlay hrd hwl hlo
  x_fa T KX hmg
  clear hdd hcd hD hmg ho
  rename_i ns hs hl0 hL1 hr1 hl2 as1 as2 l vs as3 hL ra wl r0 hI hr hc hc2
  have S : Mine.Internal.Start (Mine.Internal.hd.heap_39 w.params) s₁ mg mb := by
    refine ⟨KX, T.g, T.b, T.nolimit, ?_, hg⟩
    obtain ⟨bm, ob, a, b, c, d, e, f⟩ := T.bmain
    exact ⟨bm, ob, T.g, a, b, c, d, e, f⟩
  obtain ⟨σ', e⟩ := Mine.Internal.plainL ns (by omega)
  have R : Mine.Internal.Rel (Mine.Internal.cfgL w s₁) [] [] s₁ := Mine.Internal.start_rel S Mine.Internal.htL
  obtain ⟨ol, hol, hcl, _⟩ := id hL
  have nt : ¬ (Mine.Internal.cfgL w s₁).isTab l := Mine.Internal.notTab_of S Mine.Internal.htL hol (by rw [hcl]; simp)
  refine Mine.Internal.run_law (C := Mine.Internal.cfgL w s₁) (Mine.Internal.d223 S) R ⟨rfl, by decide +kernel, by decide +kernel⟩ (Mine.Internal.vr_ints wl hL hI nt) e fun s' ρ' R' => ?_
  exact Mine.Internal.good_end (fun uu => rfl) (by first | rfl | wrow_post) (Mine.Internal.end_old S Mine.Internal.htL R') R'.os R'.gens.bare
end
