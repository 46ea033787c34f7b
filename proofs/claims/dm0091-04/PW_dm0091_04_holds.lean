import PyProof.Rows.All
import Wide.All
import OpenK.AllK
import Wide.FinOn
import KE.KUnpack
import PySem.Challenge.RW_dm0091_04
set_option Elab.async false
set_option maxRecDepth 100000
set_option maxHeartbeats 8000000
set_option linter.all false
set_option genSizeOf false
set_option genInjectivity false
set_option bootstrap.genMatcherCode false
namespace Mine.Internal
end Mine.Internal
section
open PySem PySem.W PyProof.Rows PySem.Calls
namespace Mine.Internal
set_option tactic.hygienic false in
theorem ns {α : Type} {r : α} {P : Prop} (h : none = some r) : P := nomatch h
set_option tactic.hygienic false in
theorem c3 {α β γ : Type} {a x : α} {b y : β} {c z : γ} {P : Prop} (h : some (a, b, c) = some (x, y, z)) (k : a = x → y = b → z = c → P) : P := k (congrArg (·.1) (Option.some.inj h)) (congrArg (·.2.1) (Option.some.inj h)).symm (congrArg (·.2.2) (Option.some.inj h)).symm
set_option tactic.hygienic false in
theorem c2 {α β : Type} {a x : α} {b y : β} {P : Prop} (h : some (a, b) = some (x, y)) (k : a = x → y = b → P) : P := k (congrArg (·.1) (Option.some.inj h)) (congrArg (·.2) (Option.some.inj h)).symm
set_option tactic.hygienic false in
theorem p3 {α β γ : Type} {a x : α} {b y : β} {c z : γ} {P : Prop} (h : (a, b, c) = (x, y, z)) (k : a = x → y = b → z = c → P) : P := k (congrArg (·.1) h) (congrArg (·.2.1) h).symm (congrArg (·.2.2) h).symm
set_option tactic.hygienic false in
theorem p2 {α β : Type} {a x : α} {b y : β} {P : Prop} (h : (a, b) = (x, y)) (k : a = x → y = b → P) : P := k (congrArg (·.1) h) (congrArg (·.2) h).symm
set_option tactic.hygienic false in
theorem c1 {α : Type} {a x : α} {P : Prop} (h : some a = some x) (k : a = x → P) : P := k (Option.some.inj h)
set_option tactic.hygienic false in
theorem x0_2 {P1 P2 : Prop} {q : Prop} (h : P1 ∧ P2) (k : P1 → P2 → q) : q := k h.1 h.2
set_option tactic.hygienic false in
theorem x0_3 {P1 P2 P3 : Prop} {q : Prop} (h : P1 ∧ P2 ∧ P3) (k : P1 → P2 → P3 → q) : q := k h.1 h.2.1 h.2.2
set_option tactic.hygienic false in
theorem x0_4 {P1 P2 P3 P4 : Prop} {q : Prop} (h : P1 ∧ P2 ∧ P3 ∧ P4) (k : P1 → P2 → P3 → P4 → q) : q := k h.1 h.2.1 h.2.2.1 h.2.2.2
set_option tactic.hygienic false in
theorem x1_1 {A1 : Type} {P1 : A1 → Prop} {q : Prop} (h : ∃ a1, P1 a1) (k : ∀ a1, P1 a1 → q) : q := h.elim fun a1 y1 => k a1 y1
set_option tactic.hygienic false in
theorem x1_2 {A1 : Type} {P1 P2 : A1 → Prop} {q : Prop} (h : ∃ a1, P1 a1 ∧ P2 a1) (k : ∀ a1, P1 a1 → P2 a1 → q) : q := h.elim fun a1 y1 => k a1 y1.1 y1.2
set_option tactic.hygienic false in
theorem x1_3 {A1 : Type} {P1 P2 P3 : A1 → Prop} {q : Prop} (h : ∃ a1, P1 a1 ∧ P2 a1 ∧ P3 a1) (k : ∀ a1, P1 a1 → P2 a1 → P3 a1 → q) : q := h.elim fun a1 y1 => k a1 y1.1 y1.2.1 y1.2.2
set_option tactic.hygienic false in
theorem x1_4 {A1 : Type} {P1 P2 P3 P4 : A1 → Prop} {q : Prop} (h : ∃ a1, P1 a1 ∧ P2 a1 ∧ P3 a1 ∧ P4 a1) (k : ∀ a1, P1 a1 → P2 a1 → P3 a1 → P4 a1 → q) : q := h.elim fun a1 y1 => k a1 y1.1 y1.2.1 y1.2.2.1 y1.2.2.2
set_option tactic.hygienic false in
theorem x1_7 {A1 : Type} {P1 P2 P3 P4 P5 P6 P7 : A1 → Prop} {q : Prop} (h : ∃ a1, P1 a1 ∧ P2 a1 ∧ P3 a1 ∧ P4 a1 ∧ P5 a1 ∧ P6 a1 ∧ P7 a1) (k : ∀ a1, P1 a1 → P2 a1 → P3 a1 → P4 a1 → P5 a1 → P6 a1 → P7 a1 → q) : q := h.elim fun a1 y1 => k a1 y1.1 y1.2.1 y1.2.2.1 y1.2.2.2.1 y1.2.2.2.2.1 y1.2.2.2.2.2.1 y1.2.2.2.2.2.2
set_option tactic.hygienic false in
theorem x2_1 {A1 A2 : Type} {P1 : A1 → A2 → Prop} {q : Prop} (h : ∃ a1 a2, P1 a1 a2) (k : ∀ a1 a2, P1 a1 a2 → q) : q := h.elim fun a1 y1 => y1.elim fun a2 y2 => k a1 a2 y2
set_option tactic.hygienic false in
theorem x2_2 {A1 A2 : Type} {P1 P2 : A1 → A2 → Prop} {q : Prop} (h : ∃ a1 a2, P1 a1 a2 ∧ P2 a1 a2) (k : ∀ a1 a2, P1 a1 a2 → P2 a1 a2 → q) : q := h.elim fun a1 y1 => y1.elim fun a2 y2 => k a1 a2 y2.1 y2.2
set_option tactic.hygienic false in
theorem x2_3 {A1 A2 : Type} {P1 P2 P3 : A1 → A2 → Prop} {q : Prop} (h : ∃ a1 a2, P1 a1 a2 ∧ P2 a1 a2 ∧ P3 a1 a2) (k : ∀ a1 a2, P1 a1 a2 → P2 a1 a2 → P3 a1 a2 → q) : q := h.elim fun a1 y1 => y1.elim fun a2 y2 => k a1 a2 y2.1 y2.2.1 y2.2.2
set_option tactic.hygienic false in
theorem x2_4 {A1 A2 : Type} {P1 P2 P3 P4 : A1 → A2 → Prop} {q : Prop} (h : ∃ a1 a2, P1 a1 a2 ∧ P2 a1 a2 ∧ P3 a1 a2 ∧ P4 a1 a2) (k : ∀ a1 a2, P1 a1 a2 → P2 a1 a2 → P3 a1 a2 → P4 a1 a2 → q) : q := h.elim fun a1 y1 => y1.elim fun a2 y2 => k a1 a2 y2.1 y2.2.1 y2.2.2.1 y2.2.2.2
set_option tactic.hygienic false in
theorem x2_5 {A1 A2 : Type} {P1 P2 P3 P4 P5 : A1 → A2 → Prop} {q : Prop} (h : ∃ a1 a2, P1 a1 a2 ∧ P2 a1 a2 ∧ P3 a1 a2 ∧ P4 a1 a2 ∧ P5 a1 a2) (k : ∀ a1 a2, P1 a1 a2 → P2 a1 a2 → P3 a1 a2 → P4 a1 a2 → P5 a1 a2 → q) : q := h.elim fun a1 y1 => y1.elim fun a2 y2 => k a1 a2 y2.1 y2.2.1 y2.2.2.1 y2.2.2.2.1 y2.2.2.2.2
set_option tactic.hygienic false in
theorem x3_1 {A1 A2 A3 : Type} {P1 : A1 → A2 → A3 → Prop} {q : Prop} (h : ∃ a1 a2 a3, P1 a1 a2 a3) (k : ∀ a1 a2 a3, P1 a1 a2 a3 → q) : q := h.elim fun a1 y1 => y1.elim fun a2 y2 => y2.elim fun a3 y3 => k a1 a2 a3 y3
set_option tactic.hygienic false in
theorem x3_2 {A1 A2 A3 : Type} {P1 P2 : A1 → A2 → A3 → Prop} {q : Prop} (h : ∃ a1 a2 a3, P1 a1 a2 a3 ∧ P2 a1 a2 a3) (k : ∀ a1 a2 a3, P1 a1 a2 a3 → P2 a1 a2 a3 → q) : q := h.elim fun a1 y1 => y1.elim fun a2 y2 => y2.elim fun a3 y3 => k a1 a2 a3 y3.1 y3.2
set_option tactic.hygienic false in
theorem x3_3 {A1 A2 A3 : Type} {P1 P2 P3 : A1 → A2 → A3 → Prop} {q : Prop} (h : ∃ a1 a2 a3, P1 a1 a2 a3 ∧ P2 a1 a2 a3 ∧ P3 a1 a2 a3) (k : ∀ a1 a2 a3, P1 a1 a2 a3 → P2 a1 a2 a3 → P3 a1 a2 a3 → q) : q := h.elim fun a1 y1 => y1.elim fun a2 y2 => y2.elim fun a3 y3 => k a1 a2 a3 y3.1 y3.2.1 y3.2.2
set_option tactic.hygienic false in
theorem x3_4 {A1 A2 A3 : Type} {P1 P2 P3 P4 : A1 → A2 → A3 → Prop} {q : Prop} (h : ∃ a1 a2 a3, P1 a1 a2 a3 ∧ P2 a1 a2 a3 ∧ P3 a1 a2 a3 ∧ P4 a1 a2 a3) (k : ∀ a1 a2 a3, P1 a1 a2 a3 → P2 a1 a2 a3 → P3 a1 a2 a3 → P4 a1 a2 a3 → q) : q := h.elim fun a1 y1 => y1.elim fun a2 y2 => y2.elim fun a3 y3 => k a1 a2 a3 y3.1 y3.2.1 y3.2.2.1 y3.2.2.2
set_option tactic.hygienic false in
theorem x3_5 {A1 A2 A3 : Type} {P1 P2 P3 P4 P5 : A1 → A2 → A3 → Prop} {q : Prop} (h : ∃ a1 a2 a3, P1 a1 a2 a3 ∧ P2 a1 a2 a3 ∧ P3 a1 a2 a3 ∧ P4 a1 a2 a3 ∧ P5 a1 a2 a3) (k : ∀ a1 a2 a3, P1 a1 a2 a3 → P2 a1 a2 a3 → P3 a1 a2 a3 → P4 a1 a2 a3 → P5 a1 a2 a3 → q) : q := h.elim fun a1 y1 => y1.elim fun a2 y2 => y2.elim fun a3 y3 => k a1 a2 a3 y3.1 y3.2.1 y3.2.2.1 y3.2.2.2.1 y3.2.2.2.2
set_option tactic.hygienic false in
theorem x4_2 {A1 A2 A3 A4 : Type} {P1 P2 : A1 → A2 → A3 → A4 → Prop} {q : Prop} (h : ∃ a1 a2 a3 a4, P1 a1 a2 a3 a4 ∧ P2 a1 a2 a3 a4) (k : ∀ a1 a2 a3 a4, P1 a1 a2 a3 a4 → P2 a1 a2 a3 a4 → q) : q := h.elim fun a1 y1 => y1.elim fun a2 y2 => y2.elim fun a3 y3 => y3.elim fun a4 y4 => k a1 a2 a3 a4 y4.1 y4.2
set_option tactic.hygienic false in
theorem x4_3 {A1 A2 A3 A4 : Type} {P1 P2 P3 : A1 → A2 → A3 → A4 → Prop} {q : Prop} (h : ∃ a1 a2 a3 a4, P1 a1 a2 a3 a4 ∧ P2 a1 a2 a3 a4 ∧ P3 a1 a2 a3 a4) (k : ∀ a1 a2 a3 a4, P1 a1 a2 a3 a4 → P2 a1 a2 a3 a4 → P3 a1 a2 a3 a4 → q) : q := h.elim fun a1 y1 => y1.elim fun a2 y2 => y2.elim fun a3 y3 => y3.elim fun a4 y4 => k a1 a2 a3 a4 y4.1 y4.2.1 y4.2.2
set_option tactic.hygienic false in
theorem x4_4 {A1 A2 A3 A4 : Type} {P1 P2 P3 P4 : A1 → A2 → A3 → A4 → Prop} {q : Prop} (h : ∃ a1 a2 a3 a4, P1 a1 a2 a3 a4 ∧ P2 a1 a2 a3 a4 ∧ P3 a1 a2 a3 a4 ∧ P4 a1 a2 a3 a4) (k : ∀ a1 a2 a3 a4, P1 a1 a2 a3 a4 → P2 a1 a2 a3 a4 → P3 a1 a2 a3 a4 → P4 a1 a2 a3 a4 → q) : q := h.elim fun a1 y1 => y1.elim fun a2 y2 => y2.elim fun a3 y3 => y3.elim fun a4 y4 => k a1 a2 a3 a4 y4.1 y4.2.1 y4.2.2.1 y4.2.2.2
set_option tactic.hygienic false in
theorem x4_5 {A1 A2 A3 A4 : Type} {P1 P2 P3 P4 P5 : A1 → A2 → A3 → A4 → Prop} {q : Prop} (h : ∃ a1 a2 a3 a4, P1 a1 a2 a3 a4 ∧ P2 a1 a2 a3 a4 ∧ P3 a1 a2 a3 a4 ∧ P4 a1 a2 a3 a4 ∧ P5 a1 a2 a3 a4) (k : ∀ a1 a2 a3 a4, P1 a1 a2 a3 a4 → P2 a1 a2 a3 a4 → P3 a1 a2 a3 a4 → P4 a1 a2 a3 a4 → P5 a1 a2 a3 a4 → q) : q := h.elim fun a1 y1 => y1.elim fun a2 y2 => y2.elim fun a3 y3 => y3.elim fun a4 y4 => k a1 a2 a3 a4 y4.1 y4.2.1 y4.2.2.1 y4.2.2.2.1 y4.2.2.2.2
set_option tactic.hygienic false in
theorem x5_5 {A1 A2 A3 A4 A5 : Type} {P1 P2 P3 P4 P5 : A1 → A2 → A3 → A4 → A5 → Prop} {q : Prop} (h : ∃ a1 a2 a3 a4 a5, P1 a1 a2 a3 a4 a5 ∧ P2 a1 a2 a3 a4 a5 ∧ P3 a1 a2 a3 a4 a5 ∧ P4 a1 a2 a3 a4 a5 ∧ P5 a1 a2 a3 a4 a5) (k : ∀ a1 a2 a3 a4 a5, P1 a1 a2 a3 a4 a5 → P2 a1 a2 a3 a4 a5 → P3 a1 a2 a3 a4 a5 → P4 a1 a2 a3 a4 a5 → P5 a1 a2 a3 a4 a5 → q) : q := h.elim fun a1 y1 => y1.elim fun a2 y2 => y2.elim fun a3 y3 => y3.elim fun a4 y4 => y4.elim fun a5 y5 => k a1 a2 a3 a4 a5 y5.1 y5.2.1 y5.2.2.1 y5.2.2.2.1 y5.2.2.2.2
set_option tactic.hygienic false in
theorem x6_1 {A1 A2 A3 A4 A5 A6 : Type} {P1 : A1 → A2 → A3 → A4 → A5 → A6 → Prop} {q : Prop} (h : ∃ a1 a2 a3 a4 a5 a6, P1 a1 a2 a3 a4 a5 a6) (k : ∀ a1 a2 a3 a4 a5 a6, P1 a1 a2 a3 a4 a5 a6 → q) : q := h.elim fun a1 y1 => y1.elim fun a2 y2 => y2.elim fun a3 y3 => y3.elim fun a4 y4 => y4.elim fun a5 y5 => y5.elim fun a6 y6 => k a1 a2 a3 a4 a5 a6 y6
set_option tactic.hygienic false in
theorem x9_8 {A1 A2 A3 A4 A5 A6 A7 A8 A9 : Type} {P1 P2 P3 P4 P5 P6 P7 P8 : A1 → A2 → A3 → A4 → A5 → A6 → A7 → A8 → A9 → Prop} {q : Prop} (h : ∃ a1 a2 a3 a4 a5 a6 a7 a8 a9, P1 a1 a2 a3 a4 a5 a6 a7 a8 a9 ∧ P2 a1 a2 a3 a4 a5 a6 a7 a8 a9 ∧ P3 a1 a2 a3 a4 a5 a6 a7 a8 a9 ∧ P4 a1 a2 a3 a4 a5 a6 a7 a8 a9 ∧ P5 a1 a2 a3 a4 a5 a6 a7 a8 a9 ∧ P6 a1 a2 a3 a4 a5 a6 a7 a8 a9 ∧ P7 a1 a2 a3 a4 a5 a6 a7 a8 a9 ∧ P8 a1 a2 a3 a4 a5 a6 a7 a8 a9) (k : ∀ a1 a2 a3 a4 a5 a6 a7 a8 a9, P1 a1 a2 a3 a4 a5 a6 a7 a8 a9 → P2 a1 a2 a3 a4 a5 a6 a7 a8 a9 → P3 a1 a2 a3 a4 a5 a6 a7 a8 a9 → P4 a1 a2 a3 a4 a5 a6 a7 a8 a9 → P5 a1 a2 a3 a4 a5 a6 a7 a8 a9 → P6 a1 a2 a3 a4 a5 a6 a7 a8 a9 → P7 a1 a2 a3 a4 a5 a6 a7 a8 a9 → P8 a1 a2 a3 a4 a5 a6 a7 a8 a9 → q) : q := h.elim fun a1 y1 => y1.elim fun a2 y2 => y2.elim fun a3 y3 => y3.elim fun a4 y4 => y4.elim fun a5 y5 => y5.elim fun a6 y6 => y6.elim fun a7 y7 => y7.elim fun a8 y8 => y8.elim fun a9 y9 => k a1 a2 a3 a4 a5 a6 a7 a8 a9 y9.1 y9.2.1 y9.2.2.1 y9.2.2.2.1 y9.2.2.2.2.1 y9.2.2.2.2.2.1 y9.2.2.2.2.2.2.1 y9.2.2.2.2.2.2.2
end Mine.Internal
end
section
open PySem PySem.W PyProof.Rows
local macro_rules | `(tactic| k_head) => `(tactic| x_head)
open_top Mine.Internal.hd for PySem.Challenge.rw_dm0091_04
end
section
open PySem PySem.W PyProof.Rows PySem.Calls
namespace Mine.Internal
set_option tactic.hygienic false in
theorem upTo {P : Nat → Prop} (n : Nat) (h1 : ∀ k, k < n → P k) (h2 : P n) : ∀ k, k < n + 1 → P k := fun k hk => (Nat.lt_or_eq_of_le (Nat.le_of_lt_succ hk)).elim (h1 k) fun e => e ▸ h2
set_option tactic.hygienic false in
theorem upTo0 {P : Nat → Prop} : ∀ k, k < 0 → P k := fun k h => absurd h (Nat.not_lt_zero k)
inductive AV where
  | none
  | bool (b : Bool)
  | int (i : Int)
  | str (s : Str)
  | tup (xs : List AV)
  | lst (xs : List AV)
  | loc (l : Nat)
noncomputable def AV.int? : AV → Option Int
  | .none => .none
  | .bool _ => .none
  | .int i => .some i
  | .str _ => .none
  | .tup _ => .none
  | .lst _ => .none
  | .loc _ => .none
noncomputable def AV.str? : AV → Option Str
  | .none => .none
  | .bool _ => .none
  | .int _ => .none
  | .str i => .some i
  | .tup _ => .none
  | .lst _ => .none
  | .loc _ => .none
noncomputable def AV.tup? : AV → Option (List AV)
  | .none => .none
  | .bool _ => .none
  | .int _ => .none
  | .str _ => .none
  | .tup i => .some i
  | .lst _ => .none
  | .loc _ => .none
noncomputable def AV.lst? : AV → Option (List AV)
  | .none => .none
  | .bool _ => .none
  | .int _ => .none
  | .str _ => .none
  | .tup _ => .none
  | .lst i => .some i
  | .loc _ => .none
noncomputable def AV.loc? : AV → Option Nat
  | .none => .none
  | .bool _ => .none
  | .int _ => .none
  | .str _ => .none
  | .tup _ => .none
  | .lst _ => .none
  | .loc i => .some i
set_option tactic.hygienic false in
theorem AV.int_inv {x : AV} {i : Int} (h : x.int? = some i) : x = .int i := by
  cases x with
  | int j => exact congrArg AV.int (Option.some.inj h)
  | _ => exact nomatch h
set_option tactic.hygienic false in
theorem AV.str_inv {x : AV} {i : Str} (h : x.str? = some i) : x = .str i := by
  cases x with
  | str j => exact congrArg AV.str (Option.some.inj h)
  | _ => exact nomatch h
set_option tactic.hygienic false in
theorem AV.tup_inv {x : AV} {i : List AV} (h : x.tup? = some i) : x = .tup i := by
  cases x with
  | tup j => exact congrArg AV.tup (Option.some.inj h)
  | _ => exact nomatch h
set_option tactic.hygienic false in
theorem AV.lst_inv {x : AV} {i : List AV} (h : x.lst? = some i) : x = .lst i := by
  cases x with
  | lst j => exact congrArg AV.lst (Option.some.inj h)
  | _ => exact nomatch h
set_option tactic.hygienic false in
theorem AV.loc_inv {x : AV} {i : Nat} (h : x.loc? = some i) : x = .loc i := by
  cases x with
  | loc j => exact congrArg AV.loc (Option.some.inj h)
  | _ => exact nomatch h
inductive AO where
  | list (xs : List AV)
  | fmt (ml : Int) (cw : Str) (cwl : Int) (sp : Str) (ln ac : Nat)
  | acc (ini : Int) (parts : List (Str × Str))
  | ghost
  | gen (m k : Nat)
  | out (n : Nat)
  | cell (c : Addr) (x : Option AV)
  | ext (k : Nat) (cs : List AV)
noncomputable def AO.isGen : AO → Bool
  | .gen .. => true
  | .out .. => true
  | _ => false
noncomputable def AO.list? : AO → Option (List AV)
  | .list xs => some xs
  | .fmt .. => none
  | .acc .. => none
  | .ghost => none
  | .gen .. => none
  | .out .. => none
  | .cell .. => none
  | .ext .. => none
noncomputable def AO.acc? : AO → Option (Int × List (Str × Str))
  | .list _ => none
  | .fmt .. => none
  | .acc i ps => some (i, ps)
  | .ghost => none
  | .gen .. => none
  | .out .. => none
  | .cell .. => none
  | .ext .. => none
noncomputable def lstAt (σ : List AO) (l : Nat) : Option (List AV) := σ[l]?.bind AO.list?
noncomputable def accAt (σ : List AO) (l : Nat) : Option (Int × List (Str × Str)) := σ[l]?.bind AO.acc?
set_option tactic.hygienic false in
theorem lstAt_inv {σ : List AO} {l : Nat} {xs : List AV} (h : lstAt σ l = some xs) : σ[l]? = some (.list xs) := by
  unfold lstAt at h
  cases e : σ[l]? with
  | none => rw [e] at h; exact nomatch h
  | some o =>
    rw [e] at h
    cases o with
    | list ys => exact congrArg (fun x => some (AO.list x)) (Option.some.inj h)
    | _ => exact nomatch h
set_option tactic.hygienic false in
theorem accAt_inv {σ : List AO} {l : Nat} {i : Int × List (Str × Str)} (h : accAt σ l = some i) : σ[l]? = some (.acc i.1 i.2) := by
  unfold accAt at h
  cases e : σ[l]? with
  | none => rw [e] at h; exact nomatch h
  | some o =>
    rw [e] at h
    cases o with
    | acc i ps => exact congrArg (fun x : Int × List (Str × Str) => some (AO.acc x.1 x.2)) (Option.some.inj h)
    | _ => exact nomatch h
set_option tactic.hygienic false in
theorem lstAt_of {σ : List AO} {l : Nat} {xs : List AV} (h : σ[l]? = some (.list xs)) : lstAt σ l = some xs := by unfold lstAt; rw [h]; rfl
set_option tactic.hygienic false in
theorem accAt_of {σ : List AO} {l : Nat} {i : Int} {ps : List (Str × Str)} (h : σ[l]? = some (.acc i ps)) : accAt σ l = some (i, ps) := by unfold accAt; rw [h]; rfl
set_option tactic.hygienic false in
theorem oB {α β : Type} {o : Option α} {f : α → Option β} {r : β} {P : Prop} (h : o.bind f = some r) (k : ∀ a, o = some a → f a = some r → P) : P := by
  cases o with
  | none => exact nomatch h
  | some a => exact k a rfl h
set_option tactic.hygienic false in
theorem oM {α β : Type} {o : Option α} {f : α → β} {r : β} {P : Prop} (h : o.map f = some r) (k : ∀ a, o = some a → f a = r → P) : P := by
  cases o with
  | none => exact nomatch h
  | some a => exact k a rfl (Option.some.inj h)
set_option tactic.hygienic false in
theorem oO {α : Type} {a b : Option α} {r : α} {P : Prop} (h : a.or b = some r) (k1 : a = some r → P) (k2 : b = some r → P) : P := by
  cases a with
  | none => exact k2 h
  | some x => exact k1 h
noncomputable def gd {α : Type} (c : Bool) (a : α) : Option α := if c then some a else none
set_option tactic.hygienic false in
theorem oG {α : Type} {c : Bool} {a r : α} {P : Prop} (h : gd c a = some r) (k : c = true → a = r → P) : P := by
  cases c with
  | false => exact nomatch h
  | true => exact k rfl (Option.some.inj h)
set_option tactic.hygienic false in
theorem gd_of {α : Type} {c : Bool} {a : α} (h : c = true) : gd c a = some a := if_pos h
noncomputable def arg1 : List AV → Option AV
  | [x] => some x
  | [] => none
  | _ :: _ :: _ => none
noncomputable def arg2 : List AV → Option (AV × AV)
  | [x, y] => some (x, y)
  | [] => none
  | [_] => none
  | _ :: _ :: _ :: _ => none
set_option tactic.hygienic false in
theorem arg1_inv {xs : List AV} {x : AV} (h : arg1 xs = some x) : xs = [x] := match xs, h with
  | [_], h => congrArg (fun x => [x]) (Option.some.inj h)
  | [], h => nomatch h
  | _ :: _ :: _, h => nomatch h
set_option tactic.hygienic false in
theorem arg2_inv {xs : List AV} {p : AV × AV} (h : arg2 xs = some p) : xs = [p.1, p.2] := match xs, h with
  | [_, _], h => congrArg (fun p : AV × AV => [p.1, p.2]) (Option.some.inj h)
  | [], h => nomatch h
  | [_], h => nomatch h
  | _ :: _ :: _ :: _, h => nomatch h
noncomputable abbrev St := List AO
noncomputable abbrev Lc := List (Option AV)
noncomputable abbrev Rho := List (Addr × Addr)
structure Cfg where
  prog : Program
  w : World
  K : Frag
  s₁ : Shared
  VF : Addr
  ACC : Addr
  /-- code objects with their tables and what stood in these -/
  tabs : List (Addr × Addr × Array Value)
  /-- how a generator sleeps: where its frame's names stand, how often it was asked -/
  G : Addr → Nat → GenState → Prop
  /-- what other objects are: their two objects, the values they name -/
  X : Nat → Addr × Addr → List Value → Obj → Obj → Prop
set_option tactic.hygienic false in
theorem s1 {γ : Type} {o : Option (AV × St)} {F : AV → St → Option γ} {r : γ} {P : Prop} (h : (match o with | some (a, b) => F a b | none => none) = some r) (k : ∀ a b, o = some (a, b) → F a b = some r → P) : P := by
  cases o with
  | none => exact nomatch h
  | some p => exact k p.1 p.2 rfl h
set_option tactic.hygienic false in
theorem s2 {γ : Type} {o : Option (Bool × St)} {F : Bool → St → Option γ} {r : γ} {P : Prop} (h : (match o with | some (a, b) => F a b | none => none) = some r) (k : ∀ a b, o = some (a, b) → F a b = some r → P) : P := by
  cases o with
  | none => exact nomatch h
  | some p => exact k p.1 p.2 rfl h
set_option tactic.hygienic false in
theorem sf {γ : Type} {c : Prop} [Decidable c] {A : Option γ} {r : γ} {P : Prop} (h : (if c then A else none) = some r) (k : c → A = some r → P) : P := by
  by_cases hc : c
  · exact k hc ((if_pos hc).symm.trans h)
  · exact nomatch (if_neg hc).symm.trans h
set_option tactic.hygienic false in
theorem si {γ : Type} {o : Option (AV × St)} {F : Int → St → Option γ} {r : γ} {P : Prop} (h : (match o with | some (.int a, b) => F a b | _ => none) = some r) (k : ∀ a b, o = some (.int a, b) → F a b = some r → P) : P := by
  split at h
  · exact k _ _ rfl h
  · exact nomatch h
set_option tactic.hygienic false in
theorem sl {γ : Type} {o : Option (AV × St)} {F : Nat → St → Option γ} {r : γ} {P : Prop} (h : (match o with | some (.loc a, b) => F a b | _ => none) = some r) (k : ∀ a b, o = some (.loc a, b) → F a b = some r → P) : P := by
  split at h
  · exact k _ _ rfl h
  · exact nomatch h
set_option tactic.hygienic false in
theorem sa {γ : Type} {o : Option AO} {F : Int → List (Str × Str) → Option γ} {r : γ} {P : Prop} (h : (match o with | some (.acc a b) => F a b | _ => none) = some r) (k : ∀ a b, o = some (.acc a b) → F a b = some r → P) : P := by
  split at h
  · exact k _ _ rfl h
  · exact nomatch h
set_option tactic.hygienic false in
theorem sz {γ : Type} {o : Option (Int × St)} {F : Int → St → Option γ} {r : γ} {P : Prop} (h : (match o with | some (a, b) => F a b | none => none) = some r) (k : ∀ a b, o = some (a, b) → F a b = some r → P) : P := by
  cases o with
  | none => exact nomatch h
  | some p => exact k p.1 p.2 rfl h
set_option tactic.hygienic false in
theorem sy {γ : Type} {o : Option (Lc)} {F : Lc → Option γ} {r : γ} {P : Prop} (h : (match o with | some a => F a | none => none) = some r) (k : ∀ a, o = some a → F a = some r → P) : P := by
  cases o with
  | none => exact nomatch h
  | some p => exact k p rfl h
set_option tactic.hygienic false in
theorem sn {γ : Type} {o : Option (List Int)} {F : List Int → Option γ} {r : γ} {P : Prop} (h : (match o with | some a => F a | none => none) = some r) (k : ∀ a, o = some a → F a = some r → P) : P := by
  cases o with
  | none => exact nomatch h
  | some p => exact k p rfl h
set_option tactic.hygienic false in
theorem st {γ : Type} {o : Option (List Str)} {F : List Str → Option γ} {r : γ} {P : Prop} (h : (match o with | some a => F a | none => none) = some r) (k : ∀ a, o = some a → F a = some r → P) : P := by
  cases o with
  | none => exact nomatch h
  | some p => exact k p rfl h
noncomputable def Cfg.isTab (C : Cfg) (a : Addr) : Prop := a ∈ C.tabs.map (·.2.1)
noncomputable def Mut (C : Cfg) (ρ : Rho) (a : Addr) : Prop := C.isTab a ∨ ∃ p ∈ ρ, p.1 = a ∨ p.2 = a
noncomputable abbrev tupObj (vs : List Value) (n : Nat) : Obj := { cls := .type "tuple", data := .seq vs.toArray n }
noncomputable abbrev lstObj (vs : List Value) (n : Nat) : Obj := { cls := .type "list", data := .seq vs.toArray n }
mutual
inductive VR (C : Cfg) (ρ : Rho) (h : Heap) : AV → Value → Prop
  | none : VR C ρ h .none .none
  | bool (b : Bool) : VR C ρ h (.bool b) (.bool b)
  | int (i : Int) (t : Tok) : VR C ρ h (.int i) (.int i t)
  | str (x : Str) (t : Tok) (ok : PyData.strOk x = true) : VR C ρ h (.str x) (.str x t)
  | tup {a : Addr} {vs : List Value} {n : Nat} {xs : List AV} (ho : h.get? a = some (tupObj vs n)) (hm : ¬ Mut C ρ a) (hs : VRs C ρ h xs vs) : VR C ρ h (.tup xs) (.ref a)
  | lst {a : Addr} {vs : List Value} {n : Nat} {xs : List AV} (ho : h.get? a = some (lstObj vs n)) (hm : ¬ Mut C ρ a) (hs : VRs C ρ h xs vs) : VR C ρ h (.lst xs) (.ref a)
  | loc {l : Nat} {p : Addr × Addr} (e : ρ[l]? = some p) : VR C ρ h (.loc l) (.ref p.1)
inductive VRs (C : Cfg) (ρ : Rho) (h : Heap) : List AV → List Value → Prop
  | nil : VRs C ρ h [] []
  | cons {x : AV} {v : Value} {xs : List AV} {vs : List Value} (a : VR C ρ h x v) (b : VRs C ρ h xs vs) : VRs C ρ h (x :: xs) (v :: vs)
end

structure Step (C : Cfg) (W : List Addr) (ρ ρ' : Rho) (h h' : Heap) : Prop where
  size : h.objs.size ≤ h'.objs.size
  keep : ∀ b o, h.get? b = some o → ¬ Mut C ρ b → b ∉ W → h'.get? b = some o
  grow : ∃ δ, ρ' = ρ ++ δ ∧ ∀ p ∈ δ, h.objs.size ≤ p.1 ∧ h.objs.size ≤ p.2
section
variable {C : Cfg} {W : List Addr} {ρ ρ' ρ'' : Rho} {h h' h'' : Heap}
set_option tactic.hygienic false in
theorem Step.refl : Step C W ρ ρ h h := ⟨Nat.le_refl _, fun uu uu e uu uu => e, [], by simp, fun uu hp => nomatch hp⟩
set_option tactic.hygienic false in
theorem Step.same (k : ∀ b o, h.get? b = some o → h'.get? b = some o) (z : h.objs.size ≤ h'.objs.size) : Step C W ρ ρ h h' := ⟨z, fun b o e uu uu => k b o e, [], by simp, fun uu hp => nomatch hp⟩
set_option tactic.hygienic false in
theorem Mut.grow (S : Step C W ρ ρ' h h') {b : Addr} (hb : b < h.objs.size) (n : ¬ Mut C ρ b) : ¬ Mut C ρ' b := by
  obtain ⟨δ, rfl, hδ⟩ := S.grow
  rintro (t | ⟨p, hp, e⟩)
  · exact n (.inl t)
  · rcases List.mem_append.mp hp with hp | hp
    · exact n (.inr ⟨p, hp, e⟩)
    · rcases e with e | e
      · exact absurd hb (Nat.not_lt.mpr (e ▸ (hδ p hp).1))
      · exact absurd hb (Nat.not_lt.mpr (e ▸ (hδ p hp).2))
set_option tactic.hygienic false in
theorem Step.trans (S : Step C W ρ ρ' h h') (T : Step C W ρ' ρ'' h' h'') : Step C W ρ ρ'' h h'' := by
  refine ⟨Nat.le_trans S.size T.size, fun b o e n w => T.keep b o (S.keep b o e n w) (Mut.grow S (Heap.lt_size e) n) w, ?_⟩
  obtain ⟨δ, rfl, hδ⟩ := S.grow
  obtain ⟨δ', rfl, hδ'⟩ := T.grow
  refine ⟨δ ++ δ', by simp, fun p hp => ?_⟩
  rcases List.mem_append.mp hp with hp | hp
  · exact hδ p hp
  · have := hδ' p hp; have := S.size; (first | lia | omega)
set_option tactic.hygienic false in
theorem Step.weaken {W' : List Addr} (S : Step C W ρ ρ' h h') (hw : ∀ a ∈ W, a ∈ W') : Step C W' ρ ρ' h h' :=
  ⟨S.size, fun b o e n w => S.keep b o e n fun q => w (hw _ q), S.grow⟩
set_option tactic.hygienic false in
theorem Step.of_nil (S : Step C [] ρ ρ' h h') : Step C W ρ ρ' h h' := S.weaken fun uu q => nomatch q
set_option tactic.hygienic false in
theorem Step.above {W' : List Addr} (S : Step C W' ρ ρ' h h') (hw : ∀ a ∈ W', h.objs.size ≤ a) : Step C W ρ ρ' h h' :=
  ⟨S.size, fun b o e n uu => S.keep b o e n fun q => absurd (Heap.lt_size e) (Nat.not_lt.mpr (hw _ q)), S.grow⟩
set_option tactic.hygienic false in
theorem Step.pushObj (o : Obj) : Step C W ρ ρ h (h.push o) := .same (fun uu uu e => Heap.get?_push_of_some _ e) (by rw [Heap.size_push]; (first | lia | omega))
set_option tactic.hygienic false in
theorem VR.step (S : Step C W ρ ρ' h h') (hW : ∀ a o vs n, a ∈ W → h.get? a = some o → o.data ≠ .seq vs n) {x : AV} {v : Value} (q : VR C ρ h x v) : VR C ρ' h' x v :=
  VR.rec (motive_1 := fun x v uu => VR C ρ' h' x v) (motive_2 := fun xs vs uu => VRs C ρ' h' xs vs) .none (fun b => .bool b) (fun i t => .int i t) (fun x t ok => .str x t ok)
    (fun ho hm uu ih => .tup (S.keep _ _ ho hm fun q => hW _ _ _ _ q ho rfl) (Mut.grow S (Heap.lt_size ho) hm) ih) (fun ho hm uu ih => .lst (S.keep _ _ ho hm fun q => hW _ _ _ _ q ho rfl) (Mut.grow S (Heap.lt_size ho) hm) ih)
    (fun e => by
      obtain ⟨δ, rfl, _⟩ := S.grow
      exact .loc (by rw [List.getElem?_append_left (List.getElem?_eq_some_iff.mp e).1]; exact e)) .nil (fun uu uu a b => .cons a b) q
set_option tactic.hygienic false in
theorem VRs.ind {P : List AV → List Value → Prop} (h0 : P [] []) (h1 : ∀ {x v xs vs}, VR C ρ h x v → VRs C ρ h xs vs → P xs vs → P (x :: xs) (v :: vs)) {xs : List AV} {vs : List Value} (q : VRs C ρ h xs vs) : P xs vs :=
  VRs.rec (motive_1 := fun uu uu uu => True) (motive_2 := fun xs vs uu => P xs vs) trivial (fun uu => trivial) (fun uu uu => trivial) (fun uu uu uu => trivial) (fun uu uu uu uu => trivial) (fun uu uu uu uu => trivial) (fun uu => trivial) h0 (fun a b uu ih => h1 a b ih) q
set_option tactic.hygienic false in
theorem VRs.step (S : Step C W ρ ρ' h h') (hW : ∀ a o vs n, a ∈ W → h.get? a = some o → o.data ≠ .seq vs n) {xs : List AV} {vs : List Value} (q : VRs C ρ h xs vs) : VRs C ρ' h' xs vs :=
  q.ind (P := VRs C ρ' h') .nil fun a uu ih => .cons (a.step S hW) ih
set_option tactic.hygienic false in
theorem noW : ∀ a o vs n, a ∈ ([] : List Addr) → h.get? a = some o → o.data ≠ .seq vs n := fun uu uu uu uu q => nomatch q
set_option tactic.hygienic false in
theorem VR.go (S : Step C [] ρ ρ' h h') {x : AV} {v : Value} (q : VR C ρ h x v) : VR C ρ' h' x v := q.step S noW
set_option tactic.hygienic false in
theorem VRs.go (S : Step C [] ρ ρ' h h') {x : List AV} {v : List Value} (q : VRs C ρ h x v) : VRs C ρ' h' x v := q.step S noW
set_option tactic.hygienic false in
theorem VRs.length {xs : List AV} {vs : List Value} (q : VRs C ρ h xs vs) : vs.length = xs.length := q.ind (P := fun xs vs => vs.length = xs.length) rfl fun uu uu ih => congrArg (· + 1) ih
set_option tactic.hygienic false in
theorem VRs.append {xs ys : List AV} {vs ws : List Value} (q : VRs C ρ h xs vs) (b : VRs C ρ h ys ws) : VRs C ρ h (xs ++ ys) (vs ++ ws) := q.ind (P := fun xs vs => VRs C ρ h (xs ++ ys) (vs ++ ws)) b fun a uu ih => .cons a ih
set_option tactic.hygienic false in
theorem VRs.get {xs : List AV} {vs : List Value} (q : VRs C ρ h xs vs) {i : Nat} {x : AV} (e : xs[i]? = some x) : ∃ v, vs[i]? = some v ∧ VR C ρ h x v := by
  refine q.ind (P := fun xs vs => ∀ i, xs[i]? = some x → ∃ v, vs[i]? = some v ∧ VR C ρ h x v) (fun i e => by simp at e) (fun a uu ih i e => ?_) i e
  cases i with
  | zero => cases e; exact ⟨_, rfl, a⟩
  | succ i => exact ih i e
set_option tactic.hygienic false in
theorem VRs.take {xs : List AV} {vs : List Value} (q : VRs C ρ h xs vs) : ∀ n, VRs C ρ h (xs.take n) (vs.take n) :=
  q.ind (P := fun xs vs => ∀ n, VRs C ρ h (xs.take n) (vs.take n)) (fun n => by cases n <;> exact .nil) fun a uu ih n => by
    cases n with
    | zero => exact .nil
    | succ n => exact .cons a (ih n)
set_option tactic.hygienic false in
theorem VRs.drop {xs : List AV} {vs : List Value} (q : VRs C ρ h xs vs) : ∀ n, VRs C ρ h (xs.drop n) (vs.drop n) :=
  q.ind (P := fun xs vs => ∀ n, VRs C ρ h (xs.drop n) (vs.drop n)) (fun n => by cases n <;> exact .nil) fun a b ih n => by
    cases n with
    | zero => exact .cons a b
    | succ n => exact ih n
end
inductive EntR (C : Cfg) (ρ : Rho) (h : Heap) : List (Str × AV) → List DictEntry → Prop
  | nil : EntR C ρ h [] []
  | cons {k : Str} {x : AV} {t : Tok} {v : Value} {r : List (Str × AV)} {es : List DictEntry} (a : VR C ρ h x v) (b : EntR C ρ h r es) : EntR C ρ h ((k, x) :: r) (⟨PyData.keyHash C.w.params k, .str k t, v⟩ :: es)
noncomputable def partAV (p : Str × Str) : AV := .tup [.str p.1, .str p.2]
noncomputable def fmtAttrs (ml : Int) (cw : Str) (cwl : Int) (sp : Str) (ln ac : Nat) : List (Str × AV) :=
  [("_maxlen", .int ml), ("_continuation_ws", .str cw), ("_continuation_ws_len", .int cwl), ("_splitchars", .str sp), ("_lines", .loc ln), ("_current_line", .loc ac)]
noncomputable def accAttrs (ini : Int) : List (Str × AV) := [("_initial_size", .int ini)]
structure SelfAt (ρ : Rho) (h : Heap) (L : Addr) (m : Nat) : Prop where
  self : ∃ mm q, h.Ns L mm ∧ ρ[m]? = some q ∧ mm "self" = some (.ref q.1)
set_option tactic.hygienic false in
theorem SelfAt.keep {ρ : Rho} {h h' : Heap} {L : Addr} {m : Nat} (q : SelfAt ρ h L m) (k : ∀ o, h.get? L = some o → h'.get? L = some o) : SelfAt ρ h' L m :=
  let ⟨mm, q, a, b, c⟩ := q.self; ⟨mm, q, a.at k, b, c⟩
set_option tactic.hygienic false in
theorem SelfAt.grow {ρ : Rho} {h : Heap} {L : Addr} {m : Nat} (q : SelfAt ρ h L m) (δ : Rho) : SelfAt (ρ ++ δ) h L m :=
  let ⟨mm, q, a, b, c⟩ := q.self; ⟨mm, q, a, by rw [List.getElem?_append_left (List.getElem?_eq_some_iff.mp b).1]; exact b, c⟩
noncomputable abbrev genObj (n : Nat) (nm qn : Value) : Obj := { cls := .type "generator", data := .fields #[rawInt n, nm, qn] }
set_option tactic.hygienic false in
theorem cellAt {h h' : Heap} {c : Addr} {v : Option Value} (x : h.IsCell c v) (k : ∀ o, h.get? c = some o → h'.get? c = some o) : h'.IsCell c v := let ⟨o, a, b⟩ := x; ⟨o, k o a, b⟩
noncomputable def NoF (ob : Obj) : Prop := (∀ vs, ob.data ≠ .fields vs) ∨ ob.cls = .type "generator"
noncomputable def ObjR (C : Cfg) (ρ : Rho) (h : Heap) (p : Addr × Addr) (o : AO) : Prop := match o with
  | .list xs => ∃ vs n, p.2 = p.1 ∧ h.get? p.1 = some (lstObj vs n) ∧ VRs C ρ h xs vs
  | .fmt ml cw cwl sp ln ac => ∃ es n, h.get? p.1 = some ⟨.ref C.VF, some p.2, .plain, #[]⟩ ∧ h.get? p.2 = some (dictOf es n) ∧ EntR C ρ h (fmtAttrs ml cw cwl sp ln ac) es
  | .acc ini parts => ∃ es n n' vs, h.get? p.1 = some ⟨.ref C.ACC, some p.2, .seq (List.toArray vs) n, #[]⟩ ∧ h.get? p.2 = some (dictOf es n') ∧ EntR C ρ h (accAttrs ini) es ∧ VRs C ρ h (parts.map partAV) vs
  | .ghost => ∃ x y n, p.2 = p.1 ∧ h.get? p.1 = some { cls := .type "tuple", data := .seq #[x, y] n }
  | .gen m _ => ∃ n nm qn, h.get? p.1 = some (genObj n nm qn) ∧ SelfAt ρ h p.2 m
  | .out n => ∃ nm qn, p.2 = p.1 ∧ h.get? p.1 = some (genObj n nm qn)
  | .cell c x => p = (c, c) ∧ match x with
    | none => h.IsCell c none
    | some x => ∃ v, h.IsCell c (some v) ∧ VR C ρ h x v
  | .ext k cs => ∃ o1 o2 vs, h.get? p.1 = some o1 ∧ h.get? p.2 = some o2 ∧ NoF o1 ∧ NoF o2 ∧ VRs C ρ h cs vs ∧ (k = 0 ∨ C.X k p vs o1 o2)
section
variable {C : Cfg} {ρ : Rho} {h : Heap}
set_option tactic.hygienic false in
theorem ObjR.list {a : Addr} {vs : List Value} {n : Nat} {xs : List AV} (ho : h.get? a = some (lstObj vs n)) (hs : VRs C ρ h xs vs) : ObjR C ρ h (a, a) (.list xs) := ⟨vs, n, rfl, ho, hs⟩
set_option tactic.hygienic false in
theorem ObjR.fmt {a d : Addr} {es : List DictEntry} {n : Nat} {ml : Int} {cw : Str} {cwl : Int} {sp : Str} {ln ac : Nat} (ho : h.get? a = some ⟨.ref C.VF, some d, .plain, #[]⟩) (hd : h.get? d = some (dictOf es n))
  (he : EntR C ρ h (fmtAttrs ml cw cwl sp ln ac) es) : ObjR C ρ h (a, d) (.fmt ml cw cwl sp ln ac) := ⟨es, n, ho, hd, he⟩
set_option tactic.hygienic false in
theorem ObjR.acc {a d : Addr} {es : List DictEntry} {n n' : Nat} {vs : List Value} {ini : Int} {parts : List (Str × Str)} (ho : h.get? a = some ⟨.ref C.ACC, some d, .seq vs.toArray n, #[]⟩) (hd : h.get? d = some (dictOf es n'))
  (he : EntR C ρ h (accAttrs ini) es) (hs : VRs C ρ h (parts.map partAV) vs) : ObjR C ρ h (a, d) (.acc ini parts) := ⟨es, n, n', vs, ho, hd, he, hs⟩
set_option tactic.hygienic false in
theorem ObjR.ghost {a : Addr} {x y : Value} {n : Nat} (ho : h.get? a = some { cls := .type "tuple", data := .seq #[x, y] n }) : ObjR C ρ h (a, a) .ghost := ⟨x, y, n, rfl, ho⟩
set_option tactic.hygienic false in
theorem ObjR.cell0 {c : Addr} (ho : h.IsCell c Option.none) : ObjR C ρ h (c, c) (.cell c none) := ⟨rfl, ho⟩
set_option tactic.hygienic false in
theorem ObjR.cell {c : Addr} {x : AV} {v : Value} (ho : h.IsCell c (some v)) (q : VR C ρ h x v) : ObjR C ρ h (c, c) (.cell c (some x)) := ⟨rfl, v, ho, q⟩
end
structure GR (C : Cfg) (ρ : Rho) (σ : St) (h : Heap) (g : Array GenState) : Prop where
  bare : AllBare g
  live : ∀ (l : Nat) (p : Addr × Addr) (m k : Nat), ρ[l]? = some p → σ[l]? = some (.gen m k) → ∃ n nm qn st, h.get? p.1 = some (genObj n nm qn) ∧ g[n]? = some st ∧ C.G p.2 k st
  outs : ∀ (l : Nat) (p : Addr × Addr) (n : Nat), ρ[l]? = some p → σ[l]? = some (.out n) → ∃ nm qn, h.get? p.1 = some (genObj n nm qn) ∧ g[n]? = some .running
  apart : ∀ (l l' : Nat) (p p' : Addr × Addr) (o o' : AO) (n : Nat) (nm qn nm' qn' : Value), ρ[l]? = some p → ρ[l']? = some p' → σ[l]? = some o → o.isGen = true → σ[l']? = some o' → o'.isGen = true →
    h.get? p.1 = some (genObj n nm qn) → h.get? p'.1 = some (genObj n nm' qn') → l = l'
section
variable {C : Cfg} {ρ : Rho} {σ : St} {h h' : Heap} {g g' : Array GenState}
set_option tactic.hygienic false in
theorem GR.obj (q : GR C ρ σ h g) {l : Nat} {p : Addr × Addr} {o : AO} (e : ρ[l]? = some p) (e' : σ[l]? = some o) (hg : o.isGen = true) : ∃ n nm qn, h.get? p.1 = some (genObj n nm qn) ∧ n < g.size := by
  cases o with
  | gen m k => (refine x4_3 (q.live l p m k e e') fun n nm qn st z y uu => ?_); exact ⟨n, nm, qn, z, (Array.getElem?_eq_some_iff.mp y).1⟩
  | out n => (refine x2_2 (q.outs l p n e e') fun nm qn z y => ?_); exact ⟨n, nm, qn, z, (Array.getElem?_eq_some_iff.mp y).1⟩
  | _ => cases hg
set_option tactic.hygienic false in
theorem GR.mono (q : GR C ρ σ h g) (b : AllBare g') (k : ∀ (i : Nat) (st : GenState), g[i]? = some st → g'[i]? = some st) : GR C ρ σ h g' :=
  ⟨b, fun l p m i e e' => let ⟨n, nm, qn, st, z, x, y⟩ := q.live l p m i e e'; ⟨n, nm, qn, st, z, k _ _ x, y⟩, fun l p n e e' => let ⟨nm, qn, z, x⟩ := q.outs l p n e e'; ⟨nm, qn, z, k _ _ x⟩, q.apart⟩
set_option tactic.hygienic false in
theorem GR.heap (q : GR C ρ σ h g) (k : ∀ (l : Nat) (p : Addr × Addr) (o : AO), ρ[l]? = some p → σ[l]? = some o → o.isGen = true → ∀ ob, h.get? p.1 = some ob → h'.get? p.1 = some ob) : GR C ρ σ h' g := by
  refine ⟨q.bare, fun l p m i e e' => let ⟨n, nm, qn, st, z, x, y⟩ := q.live l p m i e e'; ⟨n, nm, qn, st, k _ _ _ e e' rfl _ z, x, y⟩, fun l p n e e' => let ⟨nm, qn, z, x⟩ := q.outs l p n e e'; ⟨nm, qn, k _ _ _ e e' rfl _ z, x⟩, ?_⟩
  intro l l' p p' o o' n nm qn nm' qn' e1 e2 e3 g3 e4 g4 e5 e6
  (refine x3_2 (q.obj e1 e3 g3) fun n1 a1 b1 z1 uu => ?_)
  (refine x3_2 (q.obj e2 e4 g4) fun n2 a2 b2 z2 uu => ?_)
  have w1 := (k _ _ _ e1 e3 g3 _ z1).symm.trans e5
  have w2 := (k _ _ _ e2 e4 g4 _ z2).symm.trans e6
  cases w1
  cases w2
  exact q.apart l l' p p' o o' _ _ _ _ _ e1 e2 e3 g3 e4 g4 z1 z2
set_option tactic.hygienic false in
theorem GR.set (q : GR C ρ σ h g) {l : Nat} {o : AO} (ng : o.isGen = false) : GR C ρ (σ.set l o) h g := by
  have k : ∀ (i : Nat) (x : AO), (σ.set l o)[i]? = some x → x.isGen = true → σ[i]? = some x := by
    intro i x e hx
    by_cases hi : l = i
    · subst hi
      rw [List.getElem?_set, if_pos rfl] at e
      (refine sf e ?_; clear e; intro uu e)
      cases e; rw [hx] at ng; cases ng
    · rw [List.getElem?_set_ne hi] at e; exact e
  exact ⟨q.bare, fun i p m n e e' => q.live i p m n e (k _ _ e' rfl), fun i p n e e' => q.outs i p n e (k _ _ e' rfl), fun i j p p' x x' r a b c d e1 e2 e3 g3 e4 g4 => q.apart i j p p' x x' r a b c d e1 e2 (k _ _ e3 g3) g3 (k _ _ e4 g4) g4⟩
set_option tactic.hygienic false in
theorem GR.snoc (q : GR C ρ σ h g) (hl : ρ.length = σ.length) {p : Addr × Addr} {o : AO} (ng : o.isGen = false) : GR C (ρ ++ [p]) (σ ++ [o]) h g := by
  have k : ∀ (i : Nat) (x : AO), (σ ++ [o])[i]? = some x → x.isGen = true → i < ρ.length ∧ σ[i]? = some x := by
    intro i x e hx
    by_cases hi : i < σ.length
    · rw [List.getElem?_append_left hi] at e; exact ⟨hl ▸ hi, e⟩
    · rw [List.getElem?_append_right (Nat.not_lt.mp hi), List.getElem?_singleton] at e
      (refine sf e ?_; clear e; intro uu e)
      cases e; rw [hx] at ng; cases ng
  have r : ∀ (i : Nat) {q : Addr × Addr}, i < ρ.length → (ρ ++ [p])[i]? = some q → ρ[i]? = some q := fun i q hi e => by rw [List.getElem?_append_left hi] at e; exact e
  refine ⟨q.bare, fun i p' m n e e' => ?_, fun i p' n e e' => ?_, fun i j p1 p2 x x' n a b c d e1 e2 e3 g3 e4 g4 => ?_⟩
  · (refine x0_2 (k _ _ e' rfl) fun a b => ?_)
    exact q.live i p' m n (r _ a e) b
  · (refine x0_2 (k _ _ e' rfl) fun a b => ?_)
    exact q.outs i p' n (r _ a e) b
  · (refine x0_2 (k _ _ e3 g3) fun h1 s1 => ?_)
    (refine x0_2 (k _ _ e4 g4) fun h2 s2 => ?_)
    exact q.apart i j p1 p2 x x' n a b c d (r _ h1 e1) (r _ h2 e2) s1 g3 s2 g4
end
structure Rel (C : Cfg) (ρ : Rho) (σ : St) (s : Shared) : Prop where
  old : ∀ b o, C.s₁.heap.get? b = some o → ¬ C.isTab b → s.heap.get? b = some o
  tab : ∀ t ∈ C.tabs, ∃ more, s.heap.IsCode t.1 t.2.1 (t.2.2 ++ more) ∧ s.heap.TableAt t.1 t.2.1 (t.2.2 ++ more)
  lo : ∀ p ∈ ρ, C.s₁.heap.objs.size ≤ p.1 ∧ C.s₁.heap.objs.size ≤ p.2
  dis : ρ.Pairwise fun p q => p.1 ≠ q.1 ∧ p.1 ≠ q.2 ∧ p.2 ≠ q.1 ∧ p.2 ≠ q.2
  len : ρ.length = σ.length
  st : ∀ (l : Nat) (p : Addr × Addr) (o : AO), ρ[l]? = some p → σ[l]? = some o → ObjR C ρ s.heap p o
  gens : GR C ρ σ s.heap s.gens
  drawn : s.drawn = C.s₁.drawn
  os : s.os = C.s₁.os
  size : C.s₁.heap.objs.size ≤ s.heap.objs.size
noncomputable def LcR (C : Cfg) (ρ : Rho) (h : Heap) (L : Addr) (vars : List Str) (lc : Lc) : Prop :=
  (∃ m, h.Ns L m ∧ ∀ (i : Nat) (x : AV), lc[i]? = some (some x) → ∃ n v, vars[i]? = some n ∧ m n = some v ∧ VR C ρ h x v) ∧ ¬ Mut C ρ L ∧ C.s₁.heap.objs.size ≤ L ∧ lc.length = vars.length
structure EnvOk (env : Env) (vars : List Str) : Prop where
  kind : env.scope.kind = .function
  loc : ∀ x ∈ vars, env.kindOf x = some .local
  nodup : vars.Nodup
  glob : env.globals = mainGlobals
  blt : env.builtins = builtinsNs
noncomputable def AOk (d : Nat) (A : Around) : Prop := A.handled = none ∧ A.depth + d < recursionLimit ∧ A.units + 8 * d < cLine
noncomputable abbrev EM := Lc → St → Option (AV × St)
inductive Fl where
  | next | brk | cont | ret (v : AV)
noncomputable abbrev SM := Lc → St → Option (Fl × Lc × St)
noncomputable abbrev TM := Lc → St → Option (Bool × St)
noncomputable def DenE (C : Cfg) (d : Nat) (env : Env) (vars : List Str) (e : Expr) (f : EM) : Prop :=
  ∀ lc σ x σ', f lc σ = some (x, σ') → ∀ (A : Around) (Q : Value → Shared → Prop) (E : Value → Shared → Prop) (s : Shared) (ρ : Rho), AOk d A → Rel C ρ σ s → LcR C ρ s.heap env.locals vars lc →
    (∀ v s' ρ', Rel C ρ' σ' s' → Step C [] ρ ρ' s.heap s'.heap → VR C ρ' s'.heap x v → Q v s') → wpAny (model C.prog C.w) A (eval e env) Q E s
noncomputable def DenT (C : Cfg) (d : Nat) (env : Env) (vars : List Str) (e : Expr) (f : TM) : Prop :=
  ∀ lc σ b σ', f lc σ = some (b, σ') → ∀ (A : Around) (Q : Bool → Shared → Prop) (E : Value → Shared → Prop) (s : Shared) (ρ : Rho), AOk d A → Rel C ρ σ s → LcR C ρ s.heap env.locals vars lc →
    (∀ s' ρ', Rel C ρ' σ' s' → Step C [] ρ ρ' s.heap s'.heap → Q b s') → wpAny (model C.prog C.w) A (isTrue e env (eval e env)) Q E s
inductive FlR (C : Cfg) (ρ : Rho) (h : Heap) : Fl → Flow → Prop
  | next : FlR C ρ h .next .next
  | brk : FlR C ρ h .brk .brk
  | cont : FlR C ρ h .cont .cont
  | ret {x : AV} {v : Value} (a : VR C ρ h x v) : FlR C ρ h (.ret x) (.ret v)
noncomputable def DenS (C : Cfg) (d : Nat) (env : Env) (vars : List Str) (st : Stmt) (f : SM) : Prop :=
  ∀ lc σ fl lc' σ', f lc σ = some (fl, lc', σ') → ∀ (A : Around) (Q : Flow → Shared → Prop) (E : Value → Shared → Prop) (s : Shared) (ρ : Rho), AOk d A → Rel C ρ σ s → LcR C ρ s.heap env.locals vars lc →
    (∀ w s' ρ', Rel C ρ' σ' s' → Step C [env.locals] ρ ρ' s.heap s'.heap → LcR C ρ' s'.heap env.locals vars lc' → FlR C ρ' s'.heap fl w → Q w s') → wpAny (model C.prog C.w) A (exec st env) Q E s
noncomputable def DenB (C : Cfg) (d : Nat) (env : Env) (vars : List Str) (b : List Stmt) (f : SM) : Prop :=
  ∀ lc σ fl lc' σ', f lc σ = some (fl, lc', σ') → ∀ (A : Around) (Q : Flow → Shared → Prop) (E : Value → Shared → Prop) (s : Shared) (ρ : Rho), AOk d A → Rel C ρ σ s → LcR C ρ s.heap env.locals vars lc →
    (∀ w s' ρ', Rel C ρ' σ' s' → Step C [env.locals] ρ ρ' s.heap s'.heap → LcR C ρ' s'.heap env.locals vars lc' → FlR C ρ' s'.heap fl w → Q w s') → wpAny (model C.prog C.w) A (execs b env) Q E s
section
variable {C : Cfg} {d : Nat} {env : Env} {vars : List Str} {ρ ρ' : Rho} {h h' : Heap} {L : Addr} {lc : Lc}
set_option tactic.hygienic false in
theorem AOk.mono {d' : Nat} {A : Around} (a : AOk d A) (h : d' ≤ d) : AOk d' A := ⟨a.1, by have := a.2.1; (first | lia | omega), by have := a.2.2; (first | lia | omega)⟩
set_option tactic.hygienic false in
theorem LcR.go (S : Step C [] ρ ρ' h h') (q : LcR C ρ h L vars lc) : LcR C ρ' h' L vars lc := by
  obtain ⟨⟨m, hn, hv⟩, hm, hl, hz⟩ := q
  refine ⟨⟨m, hn.at fun o e => S.keep _ _ e hm (by simp), fun i x e => ?_⟩, Mut.grow S hn.lt hm, hl, hz⟩
  (refine x2_3 (hv i x e) fun n v a b c => ?_)
  exact ⟨n, v, a, b, c.go S⟩
end
section
variable {C : Cfg} {ρ : Rho} {h : Heap} {v : Value}
set_option tactic.hygienic false in
@[elab_as_elim] theorem VR.none_e {P : Value → Prop} (q : VR C ρ h .none v) (k : P .none) : P v := by cases q; exact k
set_option tactic.hygienic false in
@[elab_as_elim] theorem VR.int_e {P : Value → Prop} {i : Int} (q : VR C ρ h (.int i) v) (k : ∀ t, P (.int i t)) : P v := by cases q with | int _ t => exact k t
set_option tactic.hygienic false in
@[elab_as_elim] theorem VR.str_e {P : Value → Prop} {x : Str} (q : VR C ρ h (.str x) v) (k : ∀ t, PyData.strOk x = true → P (.str x t)) : P v := by cases q with | str _ t ok => exact k t ok
set_option tactic.hygienic false in
@[elab_as_elim] theorem VR.loc_e {P : Value → Prop} {l : Nat} (q : VR C ρ h (.loc l) v) (k : ∀ p, ρ[l]? = some p → P (.ref p.1)) : P v := by cases q with | loc e => exact k _ e
set_option tactic.hygienic false in
@[elab_as_elim] theorem VR.tup_e {P : Value → Prop} {xs : List AV} (q : VR C ρ h (.tup xs) v) (k : ∀ a vs n, h.get? a = some (tupObj vs n) → ¬ Mut C ρ a → VRs C ρ h xs vs → P (.ref a)) : P v := by cases q with | tup ho hm hs => exact k _ _ _ ho hm hs
set_option tactic.hygienic false in
@[elab_as_elim] theorem VR.lst_e {P : Value → Prop} {xs : List AV} (q : VR C ρ h (.lst xs) v) (k : ∀ a vs n, h.get? a = some (lstObj vs n) → ¬ Mut C ρ a → VRs C ρ h xs vs → P (.ref a)) : P v := by cases q with | lst ho hm hs => exact k _ _ _ ho hm hs
set_option tactic.hygienic false in
@[elab_as_elim] theorem VRs.nil_e {P : List Value → Prop} {vs : List Value} (q : VRs C ρ h [] vs) (k : P []) : P vs := by cases q; exact k
set_option tactic.hygienic false in
@[elab_as_elim] theorem VRs.cons_e {P : List Value → Prop} {x : AV} {xs : List AV} {vs : List Value} (q : VRs C ρ h (x :: xs) vs) (k : ∀ w ws, VR C ρ h x w → VRs C ρ h xs ws → P (w :: ws)) : P vs := by cases q with | cons a b => exact k _ _ a b
set_option tactic.hygienic false in
@[elab_as_elim] theorem VR.int_of {P : Value → Prop} {x : AV} {i : Int} (q : VR C ρ h x v) (e : x.int? = some i) (k : ∀ t, P (.int i t)) : P v := by
  rw [AV.int_inv e] at q
  exact q.int_e k
set_option tactic.hygienic false in
@[elab_as_elim] theorem VR.str_of {P : Value → Prop} {x : AV} {i : Str} (q : VR C ρ h x v) (e : x.str? = some i) (k : ∀ t, PyData.strOk i = true → P (.str i t)) : P v := by
  rw [AV.str_inv e] at q
  exact q.str_e k
set_option tactic.hygienic false in
@[elab_as_elim] theorem VR.tup_of {P : Value → Prop} {x : AV} {xs : List AV} (q : VR C ρ h x v) (e : x.tup? = some xs) (k : ∀ a vs n, h.get? a = some (tupObj vs n) → ¬ Mut C ρ a → VRs C ρ h xs vs → P (.ref a)) : P v := by
  rw [AV.tup_inv e] at q
  exact q.tup_e k
set_option tactic.hygienic false in
@[elab_as_elim] theorem VR.lst_of {P : Value → Prop} {x : AV} {xs : List AV} (q : VR C ρ h x v) (e : x.lst? = some xs) (k : ∀ a vs n, h.get? a = some (lstObj vs n) → ¬ Mut C ρ a → VRs C ρ h xs vs → P (.ref a)) : P v := by
  rw [AV.lst_inv e] at q
  exact q.lst_e k
set_option tactic.hygienic false in
@[elab_as_elim] theorem VRs.arg1_e {P : List Value → Prop} {x : AV} {xs : List AV} {vs : List Value} (q : VRs C ρ h xs vs) (e : arg1 xs = some x) (k : ∀ v, VR C ρ h x v → P [v]) : P vs := by
  rw [arg1_inv e] at q
  exact q.cons_e fun w uu a b => b.nil_e (k w a)
set_option tactic.hygienic false in
@[elab_as_elim] theorem VRs.arg2_e {P : List Value → Prop} {p : AV × AV} {xs : List AV} {vs : List Value} (q : VRs C ρ h xs vs) (e : arg2 xs = some p) (k : ∀ v w, VR C ρ h p.1 v → VR C ρ h p.2 w → P [v, w]) : P vs := by
  rw [arg2_inv e] at q
  exact q.cons_e fun v uu a b => b.cons_e fun w uu c d => d.nil_e (k v w a c)
set_option tactic.hygienic false in
@[elab_as_elim] theorem VRs.one_e {P : List Value → Prop} {x : AV} {vs : List Value} (q : VRs C ρ h [x] vs) (k : ∀ v, VR C ρ h x v → P [v]) : P vs := q.cons_e fun w uu a b => b.nil_e (k w a)
set_option tactic.hygienic false in
@[elab_as_elim] theorem VRs.two_e {P : List Value → Prop} {x y : AV} {vs : List Value} (q : VRs C ρ h [x, y] vs) (k : ∀ v w, VR C ρ h x v → VR C ρ h y w → P [v, w]) : P vs := q.cons_e fun v uu a b => b.one_e fun w c => k v w a c
set_option tactic.hygienic false in
theorem kfE {a x : AV} {σ₁ σ' : St} {Q : Value → Shared → Prop} (k : ∀ v s' ρ', Rel C ρ' σ' s' → Step C [] ρ ρ' h s'.heap → VR C ρ' s'.heap x v → Q v s') (e : some (a, σ₁) = some (x, σ')) : ∀ v s' ρ', Rel C ρ' σ₁ s' → Step C [] ρ ρ' h s'.heap → VR C ρ' s'.heap a v → Q v s' := by cases e; exact k
set_option tactic.hygienic false in
theorem kfT {a x : Bool} {σ₁ σ' : St} {Q : Bool → Shared → Prop} (k : ∀ s' ρ', Rel C ρ' σ' s' → Step C [] ρ ρ' h s'.heap → Q x s') (e : some (a, σ₁) = some (x, σ')) : ∀ s' ρ', Rel C ρ' σ₁ s' → Step C [] ρ ρ' h s'.heap → Q a s' := by cases e; exact k
set_option tactic.hygienic false in
theorem kfS {L : Addr} {W : List Addr} {vars : List Str} {a x : Fl} {lc₁ lc' : Lc} {σ₁ σ' : St} {Q : Flow → Shared → Prop} (k : ∀ w s' ρ', Rel C ρ' σ' s' → Step C W ρ ρ' h s'.heap → LcR C ρ' s'.heap L vars lc' → FlR C ρ' s'.heap x w → Q w s') (e : some (a, lc₁, σ₁) = some (x, lc', σ')) :
    ∀ w s' ρ', Rel C ρ' σ₁ s' → Step C W ρ ρ' h s'.heap → LcR C ρ' s'.heap L vars lc₁ → FlR C ρ' s'.heap a w → Q w s' := by cases e; exact k
set_option tactic.hygienic false in
theorem kfe {a x : AV} {σ₁ σ' : St} {Q : Value → Shared → Prop} (k : ∀ v s' ρ', Rel C ρ' σ' s' → Step C [] ρ ρ' h s'.heap → VR C ρ' s'.heap x v → Q v s') (e : (a, σ₁) = (x, σ')) : ∀ v s' ρ', Rel C ρ' σ₁ s' → Step C [] ρ ρ' h s'.heap → VR C ρ' s'.heap a v → Q v s' := kfE k (congrArg some e)
set_option tactic.hygienic false in
theorem kft {a x : Bool} {σ₁ σ' : St} {Q : Bool → Shared → Prop} (k : ∀ s' ρ', Rel C ρ' σ' s' → Step C [] ρ ρ' h s'.heap → Q x s') (e : (a, σ₁) = (x, σ')) : ∀ s' ρ', Rel C ρ' σ₁ s' → Step C [] ρ ρ' h s'.heap → Q a s' := kfT k (congrArg some e)
set_option tactic.hygienic false in
theorem kfs {L : Addr} {W : List Addr} {vars : List Str} {a x : Fl} {lc₁ lc' : Lc} {σ₁ σ' : St} {Q : Flow → Shared → Prop} (k : ∀ w s' ρ', Rel C ρ' σ' s' → Step C W ρ ρ' h s'.heap → LcR C ρ' s'.heap L vars lc' → FlR C ρ' s'.heap x w → Q w s') (e : (a, lc₁, σ₁) = (x, lc', σ')) :
    ∀ w s' ρ', Rel C ρ' σ₁ s' → Step C W ρ ρ' h s'.heap → LcR C ρ' s'.heap L vars lc₁ → FlR C ρ' s'.heap a w → Q w s' := kfS k (congrArg some e)
set_option tactic.hygienic false in
theorem VRs.map {ρ' : Rho} {h' : Heap} (kv : ∀ {x : AV} {v : Value}, VR C ρ h x v → VR C ρ' h' x v) {xs : List AV} {vs : List Value} (q : VRs C ρ h xs vs) : VRs C ρ' h' xs vs := q.ind (P := VRs C ρ' h') .nil fun a uu ih => .cons (kv a) ih
set_option tactic.hygienic false in
theorem EntR.map {ρ' : Rho} {h' : Heap} (kv : ∀ {x : AV} {v : Value}, VR C ρ h x v → VR C ρ' h' x v) {r : List (Str × AV)} {es : List DictEntry} (q : EntR C ρ h r es) : EntR C ρ' h' r es := q.rec (motive := fun r es uu => EntR C ρ' h' r es) .nil fun a uu ih => .cons (kv a) ih
set_option tactic.hygienic false in
theorem ObjR.move {ρ' : Rho} {h' : Heap} {p : Addr × Addr} {o : AO} (q : ObjR C ρ h p o) (k1 : ∀ ob, h.get? p.1 = some ob → h'.get? p.1 = some ob) (k2 : ∀ ob, h.get? p.2 = some ob → h'.get? p.2 = some ob)
    (kv : ∀ {x : AV} {v : Value}, VR C ρ h x v → VR C ρ' h' x v) (kL : ∀ m, SelfAt ρ h' p.2 m → SelfAt ρ' h' p.2 m) : ObjR C ρ' h' p o := by
  cases o with
  | list => exact x2_3 q fun vs n e ho hs => ⟨vs, n, e, k1 _ ho, hs.map kv⟩
  | fmt => exact x2_3 q fun es n ho hd he => ⟨es, n, k1 _ ho, k2 _ hd, he.map kv⟩
  | acc => exact x4_4 q fun es n n' vs ho hd he hs => ⟨es, n, n', vs, k1 _ ho, k2 _ hd, he.map kv, hs.map kv⟩
  | ghost => exact x3_2 q fun x y n e ho => ⟨x, y, n, e, k1 _ ho⟩
  | gen => exact x3_2 q fun n nm qn ho hL => ⟨n, nm, qn, k1 _ ho, kL _ (hL.keep k2)⟩
  | out => exact x2_2 q fun nm qn e ho => ⟨nm, qn, e, k1 _ ho⟩
  | cell c x =>
    refine x0_2 q fun e z => ⟨e, ?_⟩
    rw [e] at k1
    cases x with
    | none => exact cellAt z k1
    | some y => exact x1_2 z fun v ho q' => ⟨v, cellAt ho k1, kv q'⟩
  | ext => exact let ⟨o1, o2, vs, a, b, n1, n2, c, d⟩ := q; ⟨o1, o2, vs, k1 _ a, k2 _ b, n1, n2, c.map kv, d⟩
set_option tactic.hygienic false in
theorem ObjR.lt {p : Addr × Addr} {o : AO} (q : ObjR C ρ h p o) : p.1 < h.objs.size ∧ p.2 < h.objs.size := by
  have same : ∀ {ob : Obj}, p.2 = p.1 → h.get? p.1 = some ob → p.1 < h.objs.size ∧ p.2 < h.objs.size := fun e ho => ⟨Heap.lt_size ho, e ▸ Heap.lt_size ho⟩
  cases o with
  | list => exact x2_3 q fun vs n e ho hs => same e ho
  | fmt => exact x2_3 q fun es n ho hd he => ⟨Heap.lt_size ho, Heap.lt_size hd⟩
  | acc => exact x4_4 q fun es n n' vs ho hd he hs => ⟨Heap.lt_size ho, Heap.lt_size hd⟩
  | ghost => exact x3_2 q fun x y n e ho => same e ho
  | gen => exact x3_2 q fun n nm qn ho hL => x2_2 hL.self fun mm q a uu => ⟨Heap.lt_size ho, a.lt⟩
  | out => exact x2_2 q fun nm qn e ho => same e ho
  | cell c x =>
    refine x0_2 q fun e z => ?_
    rw [e]
    cases x with
    | none => exact ⟨z.lt, z.lt⟩
    | some y => exact x1_2 z fun v ho q' => ⟨ho.lt, ho.lt⟩
  | ext => exact let ⟨_, _, _, a, b, _⟩ := q; ⟨Heap.lt_size a, Heap.lt_size b⟩
end
end Mine.Internal
end
section
open PySem PySem.W PyProof.Rows PySem.Calls
namespace Mine.Internal
section
variable {C : Cfg} {ρ ρ' : Rho} {σ σ' : St} {s s' : Shared}
set_option tactic.hygienic false in
theorem EntR.go {h h' : Heap} (S : Step C [] ρ ρ' h h') {r : List (Str × AV)} {es : List DictEntry} (q : EntR C ρ h r es) : EntR C ρ' h' r es := q.map (·.go S)
set_option tactic.hygienic false in
theorem ObjR.same {h h' : Heap} (k : ∀ b o, h.get? b = some o → h'.get? b = some o) (z : h.objs.size ≤ h'.objs.size) {p : Addr × Addr} {o : AO} (q : ObjR C ρ h p o) : ObjR C ρ h' p o := q.move (k _) (k _) (·.go (.same k z)) fun uu z => z
set_option tactic.hygienic false in
theorem Rel.same (R : Rel C ρ σ s) (k : ∀ b o, s.heap.get? b = some o → s'.heap.get? b = some o) (z : s.heap.objs.size ≤ s'.heap.objs.size) (hg : GR C ρ σ s.heap s'.gens) (hd : s'.drawn = s.drawn) (ho : s'.os = s.os) : Rel C ρ σ s' where
  old b o e n := k b o (R.old b o e n)
  tab t ht := let ⟨m, a, b⟩ := R.tab t ht; ⟨m, a.keeps k, b.keeps k⟩
  lo := R.lo
  dis := R.dis
  len := R.len
  st l p o e e' := (R.st l p o e e').same k z
  gens := hg.heap fun uu uu uu uu uu uu o e => k _ o e
  drawn := hd.trans R.drawn
  os := ho.trans R.os
  size := Nat.le_trans R.size z
set_option tactic.hygienic false in
theorem Rel.toks (R : Rel C ρ σ s) {n : Nat} : Rel C ρ σ { s with toks := n } := R.same (fun uu uu e => e) (Nat.le_refl _) R.gens rfl rfl
set_option tactic.hygienic false in
theorem Rel.push (R : Rel C ρ σ s) (o : Obj) {n : Nat} : Rel C ρ σ { s with heap := s.heap.push o, toks := n } :=
  R.same (fun uu uu e => Heap.get?_push_of_some _ e) (by show _ ≤ (s.heap.push o).objs.size; rw [Heap.size_push]; (first | lia | omega)) R.gens rfl rfl
set_option tactic.hygienic false in
theorem Rel.fresh (R : Rel C ρ σ s) : ¬ Mut C ρ s.heap.objs.size := by
  rintro (t | ⟨p, hp, e⟩)
  · obtain ⟨x, hx, e⟩ := List.mem_map.mp t
    exact x1_2 (R.tab x hx) fun m uu ht => Nat.ne_of_lt (Heap.lt_size ht.2) e
  · obtain ⟨l, hl, rfl⟩ := List.mem_iff_getElem.mp hp
    have q : l < σ.length := R.len ▸ hl
    have z := (R.st l ρ[l] σ[l] (List.getElem?_eq_getElem hl) (List.getElem?_eq_getElem q)).lt
    exact e.elim (Nat.ne_of_lt z.1) (Nat.ne_of_lt z.2)
end
noncomputable def cE (x : AV) : EM := fun _ σ => some (x, σ)
noncomputable def nE (i : Nat) : EM := fun lc σ => match lc[i]? with | some (some x) => some (x, σ) | _ => none
section
variable {C : Cfg} {d : Nat} {env : Env} {vars : List Str}
set_option tactic.hygienic false in
theorem den_int {i : Int} {k : Nat} {p : Pos} : DenE C d env vars (.Constant (.int i) k p) (cE (.int i)) := by
  intro lc σ x σ' hf A Q E s ρ hA R l kk
  (refine c2 hf fun hh0 hh1 => ?_; clear hf; subst hh0; subst hh1)
  exact wpAny_Constant_int (kk _ _ ρ R.toks .refl (.int _ _))
set_option tactic.hygienic false in
theorem den_str {x : Str} {k : Nat} {p : Pos} (ok : PyData.strOk x = true) : DenE C d env vars (.Constant (.str x) k p) (cE (.str x)) := by
  intro lc σ x σ' hf A Q E s ρ hA R l kk
  (refine c2 hf fun hh0 hh1 => ?_; clear hf; subst hh0; subst hh1)
  exact wpAny_Constant_str (kk _ _ ρ R.toks .refl (.str _ _ ok))
set_option tactic.hygienic false in
theorem den_bool {b : Bool} {k : Nat} {p : Pos} : DenE C d env vars (.Constant (.bool b) k p) (cE (.bool b)) := by
  intro lc σ x σ' hf A Q E s ρ hA R l kk
  (refine c2 hf fun hh0 hh1 => ?_; clear hf; subst hh0; subst hh1)
  exact wpAny_Constant_bool (kk _ _ ρ R .refl (.bool _))
set_option tactic.hygienic false in
theorem den_none {k : Nat} {p : Pos} : DenE C d env vars (.Constant .none k p) (cE .none) := by
  intro lc σ x σ' hf A Q E s ρ hA R l kk
  (refine c2 hf fun hh0 hh1 => ?_; clear hf; subst hh0; subst hh1)
  exact wpAny_Constant_none (kk _ _ ρ R .refl .none)
set_option tactic.hygienic false in
theorem nE_some {i : Nat} {lc : Lc} {σ σ' : St} {x : AV} (h : nE i lc σ = some (x, σ')) : lc[i]? = some (some x) ∧ σ' = σ := by
  unfold nE at h
  split at h
  · cases h; exact ⟨‹_›, rfl⟩
  · exact ns h
set_option tactic.hygienic false in
theorem load_name (H : EnvOk env vars) {i : Nat} {n : Str} (hi : vars[i]? = some n) {lc : Lc} {x : AV} (hx : lc[i]? = some (some x)) {A : Around} {Q : Value → Shared → Prop} {E : Value → Shared → Prop} {s : Shared} {ρ : Rho} (l : LcR C ρ s.heap env.locals vars lc)
    (k : ∀ v, VR C ρ s.heap x v → Q v s) : wpAny (model C.prog C.w) A (loadName env n) Q E s := by
  obtain ⟨⟨m, hn, hv⟩, _⟩ := l
  (refine x2_3 (hv i x hx) fun n' v a b c => ?_)
  rw [hi] at a
  (refine c1 a fun hh0 => ?_; clear a; subst hh0)
  exact wpAny_loadName_local H.kind (H.loc n (List.mem_of_getElem? hi)) hn b (k v c)
set_option tactic.hygienic false in
theorem den_name (H : EnvOk env vars) {n : Str} {i : Nat} {p : Pos} (hi : vars[i]? = some n) (hd : (n == ("__debug__" : Str)) = false) : DenE C d env vars (.Name n p) (nE i) := by
  intro lc σ x σ' hf A Q E s ρ hA R l kk
  (refine x0_2 (nE_some hf) fun hx rr1 => ?_; subst rr1)
  exact wpAny_Name (load_name H hi hx l fun v q => kk v s ρ R .refl q) hd
end
noncomputable def asList (σ : St) (x : AV) : Option (List AV) := x.lst?.or (x.loc?.bind (lstAt σ))
section
variable {C : Cfg} {ρ : Rho} {σ : St} {s : Shared}
set_option tactic.hygienic false in
theorem Rel.obj (R : Rel C ρ σ s) {l : Nat} {o : AO} (e : σ[l]? = some o) : ∃ p, ρ[l]? = some p ∧ ObjR C ρ s.heap p o := by
  have q : l < ρ.length := R.len ▸ (List.getElem?_eq_some_iff.mp e).1
  exact ⟨ρ[l], List.getElem?_eq_getElem q, R.st l _ o (List.getElem?_eq_getElem q) e⟩
set_option tactic.hygienic false in
@[elab_as_elim] theorem Rel.acc_e (R : Rel C ρ σ s) {l : Nat} {ini : Int} {ps : List (Str × Str)} (hl : σ[l]? = some (.acc ini ps)) {v : Value} (q : VR C ρ s.heap (.loc l) v) {P : Value → Prop}
    (k : ∀ a d es n n' vs, ρ[l]? = some (a, d) → s.heap.get? a = some ⟨.ref C.ACC, some d, .seq (List.toArray vs) n, #[]⟩ → s.heap.get? d = some (dictOf es n') → EntR C ρ s.heap (accAttrs ini) es → VRs C ρ s.heap (ps.map partAV) vs → P (.ref a)) : P v := by
  refine q.loc_e fun p e => ?_
  exact x4_4 (R.st l p _ e hl) fun es n n' vs ho hd he hs => k p.1 p.2 es n n' vs e ho hd he hs
set_option tactic.hygienic false in
@[elab_as_elim] theorem Rel.list_e (R : Rel C ρ σ s) {l : Nat} {xs : List AV} (hl : σ[l]? = some (.list xs)) {v : Value} (q : VR C ρ s.heap (.loc l) v) {P : Value → Prop}
    (k : ∀ a vs n, ρ[l]? = some (a, a) → s.heap.get? a = some (lstObj vs n) → VRs C ρ s.heap xs vs → P (.ref a)) : P v := by
  refine q.loc_e fun p e => ?_
  exact x2_3 (R.st l p _ e hl) fun vs n z ho hs => k p.1 vs n (e.trans (congrArg (fun b => some (p.1, b)) z)) ho hs
set_option tactic.hygienic false in
@[elab_as_elim] theorem Rel.fmt_e (R : Rel C ρ σ s) {l : Nat} {ml : Int} {cw : Str} {cwl : Int} {sp : Str} {ln ac : Nat} (hl : σ[l]? = some (.fmt ml cw cwl sp ln ac)) {v : Value} (q : VR C ρ s.heap (.loc l) v) {P : Value → Prop}
    (k : ∀ a d es n, ρ[l]? = some (a, d) → s.heap.get? a = some ⟨.ref C.VF, some d, .plain, #[]⟩ → s.heap.get? d = some (dictOf es n) → EntR C ρ s.heap (fmtAttrs ml cw cwl sp ln ac) es → P (.ref a)) : P v := by
  refine q.loc_e fun p e => ?_
  exact x2_3 (R.st l p _ e hl) fun es n ho hd he => k p.1 p.2 es n e ho hd he
set_option tactic.hygienic false in
theorem Rel.acc_at (R : Rel C ρ σ s) {l : Nat} {ini : Int} {ps : List (Str × Str)} {a d : Addr} (e : ρ[l]? = some (a, d)) (hl : σ[l]? = some (.acc ini ps)) {P : Prop}
    (k : ∀ es n n' vs, s.heap.get? a = some ⟨.ref C.ACC, some d, .seq (List.toArray vs) n, #[]⟩ → s.heap.get? d = some (dictOf es n') → EntR C ρ s.heap (accAttrs ini) es → VRs C ρ s.heap (ps.map partAV) vs → P) : P := x4_4 (R.st l _ _ e hl) k
noncomputable def selfL (lc : Lc) : Option Nat := lc[0]?.bind fun x => x.bind AV.loc?
set_option tactic.hygienic false in
theorem selfL_inv {lc : Lc} {l : Nat} (h : selfL lc = some l) : lc[0]? = some (some (.loc l)) := oB h fun x e h => oB h fun y e1 h => by rw [e, e1, AV.loc_inv h]
set_option tactic.hygienic false in
@[elab_as_elim] theorem Rel.asList_e (R : Rel C ρ σ s) {x : AV} {xs : List AV} {v : Value} (q : VR C ρ s.heap x v) (h : asList σ x = some xs) {P : Value → Prop} (k : ∀ a vs n, s.heap.get? a = some (lstObj vs n) → VRs C ρ s.heap xs vs → P (.ref a)) : P v := by
  refine oO h (fun e => q.lst_of e fun a vs n ho uu hs => k a vs n ho hs) fun h => oB h fun l e e' => ?_
  rw [AV.loc_inv e] at q
  exact R.list_e (lstAt_inv e') q fun a vs n uu ho hs => k a vs n ho hs
set_option tactic.hygienic false in
theorem asList_rel (R : Rel C ρ σ s) {x : AV} {xs : List AV} {v : Value} (q : VR C ρ s.heap x v) (h : asList σ x = some xs) : ∃ a vs n, v = .ref a ∧ s.heap.get? a = some (lstObj vs n) ∧ VRs C ρ s.heap xs vs :=
  R.asList_e q h fun a vs n ho hs => ⟨a, vs, n, rfl, ho, hs⟩
end
noncomputable def twoI (a b : AV) (f : Int → Int → Option AV) : Option AV := a.int?.bind fun x => b.int?.bind fun y => f x y
noncomputable def aadd (σ : St) (a b : AV) : Option AV :=
  (twoI a b fun x y => some (.int (x + y))).or
  ((a.str?.bind fun x => b.str?.bind fun y => gd (decide (x.length + y.length ≤ sizeLine)) (.str (x ++ y))).or
  ((asList σ a).bind fun xs => (asList σ b).bind fun ys => gd (decide (xs.length + ys.length ≤ sizeLine)) (.lst (xs ++ ys))))
noncomputable def amul (a b : AV) : Option AV :=
  (twoI a b fun x y => gd (decide (x < 1000000 ∧ -1000000 < x)) (.int (x * y))).or
  (a.str?.bind fun x => b.int?.bind fun n => gd (decide (x.length * n.toNat ≤ 1000000 ∧ n < 1000000 ∧ -1000000 < n)) (.str (Txt.mul x n)))
noncomputable def abin (σ : St) (op : Operator) (a b : AV) : Option AV := match op with
  | .Add => aadd σ a b
  | .Sub => twoI a b fun x y => some (.int (x - y))
  | .Mod => twoI a b fun x y => gd (y != 0) (.int (x.fmod y))
  | .FloorDiv => twoI a b fun x y => gd (decide (0 < y ∧ y < 1000000)) (.int (x.fdiv y))
  | .Mult => amul a b
  | .Pow => twoI a b fun x y => gd (decide (2 ≤ x ∧ x < 100 ∧ 0 ≤ y ∧ y < 10)) (.int (x ^ y.toNat))
  | _ => none
set_option tactic.hygienic false in
theorem twoI_e {a b r : AV} {f : Int → Int → Option AV} {P : Prop} (h : twoI a b f = some r) (k : ∀ x y, a.int? = some x → b.int? = some y → f x y = some r → P) : P := oB h fun x e1 h => oB h fun y e2 h => k x y e1 e2 h
set_option tactic.hygienic false in
theorem powOk {x y : Int} (h : 2 ≤ x ∧ x < 100 ∧ 0 ≤ y ∧ y < 10) : ¬ Builtin.Int.intTooBig (((Builtin.Int.intBits x : Nat) : Int) * y) = true := by
  have b : Builtin.Int.intBits x ≤ 64 := intBits_le_64 (by (first | lia | omega)) (by (first | lia | omega))
  have c : ((Builtin.Int.intBits x : Nat) : Int) * y ≤ 64 * 10 := Int.mul_le_mul (by (first | lia | omega)) (by (first | lia | omega)) (by (first | lia | omega)) (by (first | lia | omega))
  unfold Builtin.Int.intTooBig
  rw [bitsLine_eq, decide_eq_true_eq]
  (first | lia | omega)
theorem noPyl {x c : Int} (h : c.natAbs < 2 ^ 31) : Builtin.divisionGoesByPylong x c = false := by
  unfold Builtin.divisionGoesByPylong
  refine Bool.and_eq_false_iff.mpr (.inl (decide_eq_false ?_))
  dsimp only
  split
  · decide
  · rename_i hc
    have z : c.natAbs ≠ 0 := fun z => hc (by rw [Int.natAbs_eq_zero.mp z]; rfl)
    exact Nat.not_lt.mpr (Nat.le_trans (Nat.succ_le_succ (Nat.le_trans (Nat.div_le_self _ _) (Nat.le_of_lt_succ ((Nat.log2_lt z).mpr h)))) (by decide))
set_option tactic.hygienic false in
theorem noPylong {a b : Int} (h : 0 < b ∧ b < 1000000) : Builtin.divisionGoesByPylong a b = false := noPyl (by (first | lia | omega))
set_option tactic.hygienic false in
theorem mulOk_of {x : Str} {n : Int} (h : x.length * n.toNat ≤ 1000000 ∧ n < 1000000 ∧ -1000000 < n) : MulOk x n := by
  (refine x0_3 (h) fun h1 h2 h3 => ?_; clear h)
  refine ⟨?_, fun hn hx => ?_, fun hn hx => ?_⟩
  · rw [Bool.or_eq_false_iff, decide_eq_false_iff_not, decide_eq_false_iff_not]; (first | lia | omega)
  · have hl : x.length ≤ 1000000 := by
      have : 1 ≤ n.toNat := by (first | lia | omega)
      calc x.length = x.length * 1 := by (first | lia | omega)
        _ ≤ x.length * n.toNat := Nat.mul_le_mul_left _ this
        _ ≤ _ := h1
    have : (9223372036854 : Int) ≤ (2 ^ 63 - 1) / n := by
      rw [Int.le_ediv_iff_mul_le (by (first | lia | omega))]
      (first | lia | omega)
    (first | lia | omega)
  · unfold Builtin.Str.tooLong
    exact decide_eq_false (by rw [sizeLine_eq]; (first | lia | omega))
set_option tactic.hygienic false in
theorem strOk_iff {x : Str} : PyData.strOk x = true ↔ ∀ c ∈ x.cps.toList, c < 0x110000 := by
  unfold PyData.strOk
  rw [← Array.all_toList, List.all_eq_true]
  simp
set_option tactic.hygienic false in
theorem strOk_append {x y : Str} (a : PyData.strOk x = true) (b : PyData.strOk y = true) : PyData.strOk (x ++ y) = true := by
  rw [strOk_iff] at *
  intro c hc
  rw [Str.cps_append, Array.toList_append] at hc
  rcases List.mem_append.mp hc with h | h
  · exact a c h
  · exact b c h
set_option tactic.hygienic false in
theorem foldl_mem {x : Array Nat} {c : Nat} : ∀ (n : Nat) (acc : Array Nat), c ∈ (List.foldl (fun x1 x2 => x1 ++ x2) acc (List.replicate n x)).toList → c ∈ acc.toList ∨ c ∈ x.toList
  | 0, acc, h => .inl h
  | n + 1, acc, h => by
    rw [List.replicate_succ, List.foldl_cons] at h
    rcases foldl_mem n _ h with h | h
    · rw [Array.toList_append] at h
      exact List.mem_append.mp h
    · exact .inr h
set_option tactic.hygienic false in
theorem strOk_mul {x : Str} {n : Int} (a : PyData.strOk x = true) : PyData.strOk (Txt.mul x n) = true := by
  unfold Txt.mul
  split
  · decide +kernel
  · split
    · exact a
    · rw [strOk_iff] at *
      intro c hc
      rcases foldl_mem _ _ hc with h | h
      · simp at h
      · exact a c h
set_option tactic.hygienic false in
theorem abin_rel {C : Cfg} {ρ : Rho} {σ : St} {s : Shared} {A : Around} {Q : Value → Shared → Prop} {E : Value → Shared → Prop} {op : Operator} {a b x : AV} {va vb : Value} (R : Rel C ρ σ s) (qa : VR C ρ s.heap a va) (qb : VR C ρ s.heap b vb) (h : abin σ op a b = some x)
    (k : ∀ v s', Rel C ρ σ s' → Step C [] ρ ρ s.heap s'.heap → VR C ρ s'.heap x v → Q v s') : wpAny (model C.prog C.w) A (binaryOp op va vb) Q E s := by
  have kI : ∀ {i : Int}, some (AV.int i) = some x → Q (.int i s.toks) { s with toks := s.toks + 1 } := fun e => k _ _ R.toks .refl (Option.some.inj e ▸ .int _ _)
  cases op with
  | Add =>
    have h : aadd σ a b = some x := h
    refine oO h (fun h => twoI_e h fun i j e1 e2 h => ?_) fun h => oO h (fun h => oB h fun i e1 h => oB h fun j e2 h => oG h fun hh h => ?_) fun h => oB h fun xs e1 h => oB h fun ys e2 h => oG h fun hh h => ?_
    · exact qa.int_of e1 fun uu => qb.int_of e2 fun uu => add_int (kI h)
    · exact qa.str_of e1 fun uu o1 => qb.str_of e2 fun uu o2 => add_str (fun t tk => k _ _ R.toks .refl (h ▸ .str _ _ (strOk_append o1 o2))) (of_decide_eq_true hh)
    · refine R.asList_e qa e1 fun p vs n ho hs => R.asList_e qb e2 fun p' vs' n' ho' hs' => ?_
      refine P.add_list ho ho' ?_ (by rw [List.size_toArray, List.size_toArray, hs.length, hs'.length]; exact of_decide_eq_true hh)
      refine k _ _ (R.push _ (n := s.toks)) (.pushObj _) (h ▸ .lst (vs := vs ++ vs') (n := 0) ?_ R.fresh ((hs.append hs').go (.pushObj _)))
      exact (Heap.get?_push_size _ rfl).trans (by rw [List.append_toArray])
  | Sub => exact twoI_e h fun i j e1 e2 h => qa.int_of e1 fun uu => qb.int_of e2 fun uu => sub_int (kI h)
  | Mod => exact twoI_e h fun i j e1 e2 h => oG h fun hh h => qa.int_of e1 fun uu => qb.int_of e2 fun uu => mod_int' (bne_iff_ne.mp hh) (kI (congrArg some h))
  | FloorDiv => exact twoI_e h fun i j e1 e2 h => oG h fun hh h => qa.int_of e1 fun uu => qb.int_of e2 fun uu => floordiv_int (Int.ne_of_gt (of_decide_eq_true hh).1) (kI (congrArg some h)) (.inl (noPylong (of_decide_eq_true hh)))
  | Mult =>
    have h : amul a b = some x := h
    refine oO h (fun h => twoI_e h fun i j e1 e2 h => oG h fun hh h => ?_) fun h => oB h fun i e1 h => oB h fun j e2 h => oG h fun hh h => ?_
    · have hh := of_decide_eq_true hh
      exact qa.int_of e1 fun uu => qb.int_of e2 fun uu => mul_int (kI (congrArg some h)) (IntMulOk.of_left (intBits_le_64 (by (first | lia | omega)) (by (first | lia | omega))))
    · exact qa.str_of e1 fun uu o1 => qb.int_of e2 fun uu => SB.mul (mulOk_of (of_decide_eq_true hh)) fun t tk => k _ _ R.toks .refl (h ▸ .str _ _ (strOk_mul o1))
  | Pow =>
    refine twoI_e h fun i j e1 e2 h => oG h fun hh h => qa.int_of e1 fun uu => qb.int_of e2 fun uu => ?_
    have hh := of_decide_eq_true hh
    by_cases z : j = 0
    · subst z
      exact AutoIntOps.pow_0 (by decide) rfl (kI ((congrArg (fun n => some (AV.int n)) (Int.pow_zero i).symm).trans (congrArg some h)))
    · exact AutoIntOps.pow_4 hh.2.2.1 (by simpa using z) (by simp; (first | lia | omega)) (by simp; (first | lia | omega)) (powOk hh) (kI (congrArg some h))
  | _ => exact nomatch h
noncomputable def binE (op : Operator) (f g : EM) : EM := fun lc σ => (f lc σ).bind fun p => (g lc p.2).bind fun q => (abin q.2 op p.1 q.1).map (·, q.2)
set_option tactic.hygienic false in
theorem den_bin {C : Cfg} {d : Nat} {env : Env} {vars : List Str} {l r : Expr} {op : Operator} {p : Pos} {f g : EM} (D1 : DenE C d env vars l f) (D2 : DenE C d env vars r g) : DenE C d env vars (.BinOp l op r p) (binE op f g) := by
  intro lc σ x σ' hf A Q E s ρ hA R lr kk
  refine oB hf fun a e1 hf => oB hf fun b e2 hf => oM hf fun y hy e => ?_
  refine wpAny_BinOp (D1 _ _ _ _ e1 A _ E s ρ hA R lr fun va s₁ ρ₁ R₁ S₁ q₁ => D2 _ _ _ _ e2 A _ E s₁ ρ₁ hA R₁ (lr.go S₁) fun vb s₂ ρ₂ R₂ S₂ q₂ => ?_)
  exact abin_rel R₂ (q₁.go S₂) q₂ hy fun v s₃ R₃ S₃ q₃ => kfe kk e v s₃ ρ₂ R₃ ((S₁.trans S₂).trans S₃) q₃
end Mine.Internal
end
section
open PySem PySem.W PyProof.Rows PySem.Calls
namespace Mine.Internal
noncomputable def optAll {α β : Type} (f : α → Option β) : List α → Option (List β)
  | [] => some []
  | x :: xs => (f x).bind fun y => (optAll f xs).map (y :: ·)
noncomputable def pd0 : AV → Option PyData
  | .none => some .none
  | .bool b => some (.bool b)
  | .int i => some (.int i)
  | .str x => some (.str x)
  | .tup _ => none
  | .lst _ => none
  | .loc _ => none
noncomputable def pdc (σ : St) (f : AV → Option PyData) (x : AV) : Option PyData := (x.tup?.bind fun xs => (optAll f xs).map .tuple).or ((asList σ x).bind fun xs => (optAll f xs).map .list)
noncomputable def toPD (σ : St) : Nat → AV → Option PyData
  | 0, x => pd0 x
  | n + 1, x => (pd0 x).or (pdc σ (toPD σ n) x)
section
variable {C : Cfg} {ρ : Rho} {σ : St} {s : Shared}
set_option tactic.hygienic false in
theorem canLayAll_cons {x : PyData} {xs : List PyData} : PyData.canLayAll0 (x :: xs) = (x.canLay0 && PyData.canLayAll0 xs) := by rw [PyData.canLayAll0]
set_option tactic.hygienic false in
theorem toPD_all {n : Nat} {f : AV → Option PyData} (ih : ∀ {x : AV} {d : PyData} {v : Value}, VR C ρ s.heap x v → f x = some d → (∃ as, Reads s.heap v d as) ∧ d.canLay0 = true ∧ d.depth ≤ n) :
    ∀ {xs : List AV} {ds : List PyData} {vs : List Value}, VRs C ρ s.heap xs vs → optAll f xs = some ds → (∃ as, ReadsAll s.heap vs ds as) ∧ PyData.canLayAll0 ds = true ∧ PyData.depthAll ds ≤ n := fun q e =>
  q.ind (P := fun xs vs => ∀ ds, optAll f xs = some ds → (∃ as, ReadsAll s.heap vs ds as) ∧ PyData.canLayAll0 ds = true ∧ PyData.depthAll ds ≤ n) (fun ds e => Option.some.inj e ▸ ⟨⟨_, .nil⟩, by rw [PyData.canLayAll0], by rw [PyData.depthAll]; exact Nat.zero_le _⟩) (fun a uu ihs ds h =>
    oB h fun y e1 h => oM h fun ys e2 e => e ▸ x0_3 (ih a e1) fun r1 c1 d1 => x0_3 (ihs ys e2) fun r2 c2 d2 => x1_1 r1 fun uu r1 => x1_1 r2 fun uu r2 =>
      ⟨⟨_, .cons r1 r2⟩, by rw [canLayAll_cons, c1, c2]; rfl, by rw [PyData.depthAll]; exact Nat.max_le.mpr ⟨d1, d2⟩⟩) _ e
set_option tactic.hygienic false in
theorem pd0_rel {h : Heap} {x : AV} {d : PyData} {v : Value} (q : VR C ρ h x v) (e : pd0 x = some d) : (∃ as, Reads h v d as) ∧ d.canLay0 = true ∧ d.depth ≤ 0 := by
  have z : ∀ {y : PyData}, some y = some d → ((∃ as, Reads h v y as) ∧ y.canLay0 = true ∧ y.depth ≤ 0) → (∃ as, Reads h v d as) ∧ d.canLay0 = true ∧ d.depth ≤ 0 := fun e z => Option.some.inj e ▸ z
  cases q with
  | none => exact z e ⟨⟨_, .none⟩, rfl, by rw [PyData.depth]; exact Nat.le_refl _⟩
  | bool b => exact z e ⟨⟨_, .bool _⟩, rfl, by rw [PyData.depth]; exact Nat.le_refl _⟩
  | int i t => exact z e ⟨⟨_, .int _ _⟩, rfl, by rw [PyData.depth]; exact Nat.le_refl _⟩
  | str x t ok => exact z e ⟨⟨_, .str _ _⟩, by rw [PyData.canLay0]; exact ok, by rw [PyData.depth]; exact Nat.le_refl _⟩
  | _ => exact nomatch e
set_option tactic.hygienic false in
theorem toPD_rel (R : Rel C ρ σ s) : ∀ {n : Nat} {x : AV} {d : PyData} {v : Value}, VR C ρ s.heap x v → toPD σ n x = some d → (∃ as, Reads s.heap v d as) ∧ d.canLay0 = true ∧ d.depth ≤ n := by
  intro n
  induction n with
  | zero => exact pd0_rel
  | succ n ih =>
    intro x d v q h
    refine oO h (fun h => x0_3 (pd0_rel q h) fun a b c => ⟨a, b, Nat.le_trans c (Nat.zero_le _)⟩) fun h => oO h (fun h => oB h fun xs e1 h => oM h fun ds e2 e => e ▸ ?_) fun h => oB h fun xs e1 h => oM h fun ds e2 e => e ▸ ?_
    · exact q.tup_of e1 fun a vs m ho uu hs => x0_3 (toPD_all ih hs e2) fun r c dd => x1_1 r fun uu r => ⟨⟨_, .tuple ho rfl rfl r⟩, by rw [PyData.canLay0]; exact c, by rw [PyData.depth]; exact Nat.succ_le_succ dd⟩
    · exact R.asList_e q e1 fun a vs m ho hs => x0_3 (toPD_all ih hs e2) fun r c dd => x1_1 r fun uu r => ⟨⟨_, .list ho rfl rfl r⟩, by rw [PyData.canLay0]; exact c, by rw [PyData.depth]; exact Nat.succ_le_succ dd⟩
end
noncomputable def aeqv (σ : St) (a b : AV) : Option Bool := (toPD σ 4 a).bind fun x => (toPD σ 4 b).map fun y => PyData.eqv x y
noncomputable def isNone : AV → Bool
  | .none => true
  | .bool _ => false
  | .int _ => false
  | .str _ => false
  | .tup _ => false
  | .lst _ => false
  | .loc _ => false
noncomputable def twoInts (a b : AV) (f : Int → Int → Bool) : Option Bool := a.int?.bind fun x => b.int?.map fun y => f x y
noncomputable def acmp (σ : St) (op : CmpOp) (a b : AV) : Option Bool := match op with
  | .Eq => aeqv σ a b
  | .NotEq => (aeqv σ a b).map not
  | .Lt => twoInts a b fun x y => decide (x < y)
  | .LtE => twoInts a b fun x y => decide (x ≤ y)
  | .Gt => twoInts a b fun x y => decide (y < x)
  | .GtE => twoInts a b fun x y => decide (y ≤ x)
  | .Is => gd (isNone b) (isNone a)
  | .IsNot => gd (isNone b) (!isNone a)
  | .In => a.str?.bind fun y => b.str?.map fun x => Txt.contains x y
  | .NotIn => a.str?.bind fun y => b.str?.map fun x => !Txt.contains x y
set_option tactic.hygienic false in
theorem twoInts_e {a b : AV} {f : Int → Int → Bool} {r : Bool} {P : Prop} (h : twoInts a b f = some r) (k : ∀ x y, a.int? = some x → b.int? = some y → f x y = r → P) : P := oB h fun x e1 h => oM h fun y e2 h => k x y e1 e2 h
set_option tactic.hygienic false in
theorem isNone_inv {a : AV} (h : isNone a = true) : a = .none := by
  cases a with
  | none => rfl
  | _ => exact nomatch h
set_option tactic.hygienic false in
theorem isNone_val {C : Cfg} {ρ : Rho} {h : Heap} {a : AV} {v : Value} (q : VR C ρ h a v) : (v == Value.none) = isNone a := by cases q <;> rfl
set_option tactic.hygienic false in
theorem aeqv_e {C : Cfg} {ρ : Rho} {σ : St} {s : Shared} {a b : AV} {r : Bool} {va vb : Value} {P : Prop} (R : Rel C ρ σ s) (qa : VR C ρ s.heap a va) (qb : VR C ρ s.heap b vb) (h : aeqv σ a b = some r)
    (k : ∀ y z as bs, Reads s.heap va y as → Reads s.heap vb z bs → y.canLay0 = true → z.canLay0 = true → y.depth ≤ 4 → z.depth ≤ 4 → PyData.eqv y z = r → P) : P :=
  oB h fun y e1 h => oM h fun z e2 e => x0_3 (toPD_rel R qa e1) fun r1 c d1 => x0_3 (toPD_rel R qb e2) fun r2 c' d2 => x1_1 r1 fun as r1 => x1_1 r2 fun bs r2 => k y z as bs r1 r2 c c' d1 d2 e
set_option tactic.hygienic false in
theorem acmp_rel {C : Cfg} {ρ : Rho} {σ : St} {s : Shared} {A : Around} {Q : Value → Shared → Prop} {E : Value → Shared → Prop} {op : CmpOp} {a b : AV} {x : Bool} {va vb : Value} (hA : AOk 1 A) (R : Rel C ρ σ s) (qa : VR C ρ s.heap a va) (qb : VR C ρ s.heap b vb) (h : acmp σ op a b = some x)
    (k : Q (.bool x) s) : wpAny (model C.prog C.w) A (compareOp op va vb) Q E s := by
  have hu := hA.2.2
  cases op with
  | Eq => exact aeqv_e R qa qb h fun y z as bs r r' c c' dd dd' e => SeqAt.compareEq_reads r r' c c' (by (first | lia | omega)) (e ▸ k)
  | NotEq => exact oM h fun u hu' e' => aeqv_e R qa qb hu' fun y z as bs r r' c c' dd dd' e => SeqAt.compareNe_reads r r' c c' (by (first | lia | omega)) (e ▸ e' ▸ k)
  | Lt => exact twoInts_e h fun i j e1 e2 e => qa.int_of e1 fun uu => qb.int_of e2 fun uu => lt_int (e ▸ k)
  | LtE => exact twoInts_e h fun i j e1 e2 e => qa.int_of e1 fun uu => qb.int_of e2 fun uu => le_int (e ▸ k)
  | Gt => exact twoInts_e h fun i j e1 e2 e => qa.int_of e1 fun uu => qb.int_of e2 fun uu => gt_int (e ▸ k)
  | GtE => exact twoInts_e h fun i j e1 e2 e => qa.int_of e1 fun uu => qb.int_of e2 fun uu => ge_int (e ▸ k)
  | Is => exact oG h fun hb e => (isNone_inv hb ▸ qb : VR C ρ s.heap .none vb).none_e (is_none_gen ((isNone_val qa).trans e ▸ k))
  | IsNot => exact oG h fun hb e => (isNone_inv hb ▸ qb : VR C ρ s.heap .none vb).none_e (isnot_none_gen ((congrArg not (isNone_val qa)).trans e ▸ k))
  | In => exact oB h fun y e1 h => oM h fun z e2 e => qa.str_of e1 fun uu uu => qb.str_of e2 fun uu uu => P.in_str (show Q (.bool (Txt.contains z y)) s from e ▸ k)
  | NotIn => exact oB h fun y e1 h => oM h fun z e2 e => qa.str_of e1 fun uu uu => qb.str_of e2 fun uu uu => P.notIn_str (show Q (.bool (!Txt.contains z y)) s from e ▸ k)
noncomputable def cmpT (op : CmpOp) (f g : EM) : TM := fun lc σ => (f lc σ).bind fun p => (g lc p.2).bind fun q => (acmp q.2 op p.1 q.1).map (·, q.2)
noncomputable def tE (f : TM) : EM := fun lc σ => (f lc σ).map fun p => (.bool p.1, p.2)
section
variable {C : Cfg} {d : Nat} {env : Env} {vars : List Str} {l r : Expr} {p : Pos}
set_option tactic.hygienic false in
theorem den_cmp {op : CmpOp} {f g : EM} (D1 : DenE C (d + 1) env vars l f) (D2 : DenE C (d + 1) env vars r g) (hb : behindInMarks op r = false) : DenE C (d + 1) env vars (.Compare l [op] [r] p) (tE (cmpT op f g)) := by
  intro lc σ x σ' hf A Q E s ρ hA R lr kk
  refine oM hf fun y hy e => oB hy fun a e1 hy => oB hy fun b e2 hy => oM hy fun c e3 e' => ?_
  have kk := kfe kk ((congrArg (fun p : Bool × St => (AV.bool p.1, p.2)) e').trans e)
  refine wpAny_Compare1 (D1 _ _ _ _ e1 A _ E s ρ hA R lr fun va s₁ ρ₁ R₁ S₁ q₁ => D2 _ _ _ _ e2 A _ E s₁ ρ₁ hA R₁ (lr.go S₁) fun vb s₂ ρ₂ R₂ S₂ q₂ => ?_) hb
  exact acmp_rel (hA.mono (Nat.le_add_left ..)) R₂ (q₁.go S₂) q₂ e3 (kk _ s₂ ρ₂ R₂ (S₁.trans S₂) (.bool _))
set_option tactic.hygienic false in
theorem den_cmpT {op : CmpOp} {f g : EM} (D1 : DenE C (d + 1) env vars l f) (D2 : DenE C (d + 1) env vars r g) (hb : behindInMarks op r = false) : DenT C (d + 1) env vars (.Compare l [op] [r] p) (cmpT op f g) := by
  intro lc σ x σ' hf A Q E s ρ hA R lr kk
  refine oB hf fun a e1 hf => oB hf fun b e2 hf => oM hf fun c e3 e' => ?_
  refine wpAny_isTrue_Compare1 (D1 _ _ _ _ e1 A _ E s ρ hA R lr fun va s₁ ρ₁ R₁ S₁ q₁ => D2 _ _ _ _ e2 A _ E s₁ ρ₁ hA R₁ (lr.go S₁) fun vb s₂ ρ₂ R₂ S₂ q₂ => ?_) hb
  exact acmp_rel (hA.mono (Nat.le_add_left ..)) R₂ (q₁.go S₂) q₂ e3 (wpAny_truthy_bool (kft kk e' s₂ ρ₂ R₂ (S₁.trans S₂)))
noncomputable def at0 : AV → Option Bool
  | .none => some false
  | .bool b => some b
  | .int i => some (i != 0)
  | .str x => gd (decide (x.length ≤ sizeLine)) ((x.length : Int) != 0)
  | .tup _ => none
  | .lst _ => none
  | .loc _ => none
noncomputable def atruth (σ : St) (x : AV) : Option Bool := (at0 x).or ((asList σ x).bind fun xs => gd (decide (xs.length ≤ sizeLine)) (!xs.isEmpty))
set_option tactic.hygienic false in
theorem atruth_rel {ρ : Rho} {σ : St} {s : Shared} {A : Around} {Q : Bool → Shared → Prop} {E : Value → Shared → Prop} {a : AV} {x : Bool} {va : Value} (R : Rel C ρ σ s) (qa : VR C ρ s.heap a va) (h : atruth σ a = some x)
    (k : ∀ s', Rel C ρ σ s' → Step C [] ρ ρ s.heap s'.heap → Q x s') : wpAny (model C.prog C.w) A (truthy va) Q E s := by
  have hz := sizeLine_eq
  refine oO h (fun h => ?_) fun h => oB h fun xs e1 h => oG h fun hh e => ?_
  · have k0 : ∀ {b : Bool} {n : Nat}, some b = some x → Q b { s with toks := n } := fun e => Option.some.inj e ▸ k _ R.toks .refl
    cases qa with
    | none => exact truthy_none (k0 h)
    | bool => exact wpAny_truthy_bool (k0 h)
    | int => exact P.truthy_int (k0 h)
    | str y t => exact oG h fun hh e => P.truthy_str (by have := of_decide_eq_true hh; (first | lia | omega)) (k0 (congrArg some e))
    | _ => exact nomatch h
  · refine R.asList_e qa e1 fun p vs n ho hs => ?_
    refine wpAny_truthy_list (IsL.isList ho) (by rw [List.size_toArray, hs.length]; have := of_decide_eq_true hh; (first | lia | omega)) ?_
    have e2 : (!vs.toArray.isEmpty) = !xs.isEmpty := hs.ind (P := fun xs vs => (!(List.toArray vs).isEmpty) = !xs.isEmpty) rfl (fun uu uu uu => by simp)
    exact (e2.trans e) ▸ k _ R.toks .refl
noncomputable def trT (f : EM) : TM := fun lc σ => (f lc σ).bind fun p => (atruth p.2 p.1).map (·, p.2)
set_option tactic.hygienic false in
theorem den_truth {e : Expr} {f : EM} (D : DenE C d env vars e f) (hp : ∀ whole, isTrue e env whole = (do let v ← whole; standAt e.pos; holding [v] (truthy v))) : DenT C d env vars e (trT f) := by
  intro lc σ x σ' hf A Q E s ρ hA R lr kk
  refine oB hf fun a e1 hf => oM hf fun y hy e2 => ?_
  refine wpAny_isTrue_value (D _ _ _ _ e1 A _ E s ρ hA R lr fun va s₁ ρ₁ R₁ S₁ q₁ => ?_) (hp _)
  exact atruth_rel R₁ q₁ hy fun s₂ R₂ S₂ => kft kk e2 s₂ ρ₁ R₂ (S₁.trans S₂)
noncomputable def notT (f : TM) : TM := fun lc σ => (f lc σ).map fun p => (!p.1, p.2)
set_option tactic.hygienic false in
theorem den_notT {e : Expr} {f : TM} (D : DenT C d env vars e f) : DenT C d env vars (.UnaryOp .Not e p) (notT f) := by
  intro lc σ x σ' hf A Q E s ρ hA R lr kk
  exact oM hf fun y hy e => wpAny_isTrue_Not (D _ _ _ _ hy A _ E s ρ hA R lr fun s₁ ρ₁ R₁ S₁ => kft kk e s₁ ρ₁ R₁ S₁)
noncomputable def andT : List TM → TM
  | [] => fun _ σ => some (true, σ)
  | f :: r => fun lc σ => (f lc σ).bind fun p => if p.1 then andT r lc p.2 else some (false, p.2)
noncomputable def orT : List TM → TM
  | [] => fun _ σ => some (false, σ)
  | f :: r => fun lc σ => (f lc σ).bind fun p => if p.1 then some (true, p.2) else orT r lc p.2
inductive DenTs (C : Cfg) (d : Nat) (env : Env) (vars : List Str) : List Expr → List TM → Prop
  | nil : DenTs C d env vars [] []
  | cons {e : Expr} {f : TM} {es : List Expr} {fs : List TM} (a : DenT C d env vars e f) (b : DenTs C d env vars es fs) : DenTs C d env vars (e :: es) (f :: fs)
set_option tactic.hygienic false in
theorem den_andT {es : List Expr} {fs : List TM} (D : DenTs C d env vars es fs) : DenT C d env vars (.BoolOp .And es p) (andT fs) := by
  intro lc σ x σ' hf A Q E s ρ hA R lr kk
  refine wpAny_isTrue_BoolOp ?_
  induction D generalizing σ s ρ with
  | nil => exact wpAny_allTrue_And_nil (kfT kk hf s ρ R .refl)
  | cons a b ih =>
    refine oB hf fun y e1 hf => ?_
    rcases y with ⟨⟨⟩, σ₁⟩
    · exact wpAny_allTrue_And_cons (a _ _ _ _ e1 A _ E s ρ hA R lr fun s₁ ρ₁ R₁ S₁ => kfT kk hf s₁ ρ₁ R₁ S₁)
    · exact wpAny_allTrue_And_cons (a _ _ _ _ e1 A _ E s ρ hA R lr fun s₁ ρ₁ R₁ S₁ => ih _ hf s₁ ρ₁ R₁ (lr.go S₁) fun s₂ ρ₂ R₂ S₂ => kk s₂ ρ₂ R₂ (S₁.trans S₂))
set_option tactic.hygienic false in
theorem den_orT {es : List Expr} {fs : List TM} (D : DenTs C d env vars es fs) : DenT C d env vars (.BoolOp .Or es p) (orT fs) := by
  intro lc σ x σ' hf A Q E s ρ hA R lr kk
  refine wpAny_isTrue_BoolOp ?_
  induction D generalizing σ s ρ with
  | nil => exact wpAny_allTrue_Or_nil (kfT kk hf s ρ R .refl)
  | cons a b ih =>
    refine oB hf fun y e1 hf => ?_
    rcases y with ⟨⟨⟩, σ₁⟩
    · exact wpAny_allTrue_Or_cons (a _ _ _ _ e1 A _ E s ρ hA R lr fun s₁ ρ₁ R₁ S₁ => ih _ hf s₁ ρ₁ R₁ (lr.go S₁) fun s₂ ρ₂ R₂ S₂ => kk s₂ ρ₂ R₂ (S₁.trans S₂))
    · exact wpAny_allTrue_Or_cons (a _ _ _ _ e1 A _ E s ρ hA R lr fun s₁ ρ₁ R₁ S₁ => kfT kk hf s₁ ρ₁ R₁ S₁)
noncomputable def andE (f g : EM) : EM := fun lc σ => (f lc σ).bind fun p => (atruth p.2 p.1).bind fun t => if t then g lc p.2 else some p
noncomputable def orE (f g : EM) : EM := fun lc σ => (f lc σ).bind fun p => (atruth p.2 p.1).bind fun t => if t then some p else g lc p.2
set_option tactic.hygienic false in
theorem den_andE {f g : EM} (D1 : DenE C d env vars l f) (D2 : DenE C d env vars r g) : DenE C d env vars (.BoolOp .And [l, r] p) (andE f g) := by
  intro lc σ x σ' hf A Q E s ρ hA R lr kk
  refine oB hf fun a e1 hf => oB hf fun t e2 hf => ?_
  refine wpAny_And2 (D1 _ _ _ _ e1 A _ E s ρ hA R lr fun va s₁ ρ₁ R₁ S₁ q₁ => atruth_rel R₁ q₁ e2 fun s₂ R₂ S₂ => ?_)
  cases t with
  | true => exact D2 _ _ _ _ hf A _ E s₂ ρ₁ hA R₂ (lr.go (S₁.trans S₂)) fun v s₃ ρ₃ R₃ S₃ q₃ => kk v s₃ ρ₃ R₃ ((S₁.trans S₂).trans S₃) q₃
  | false => exact kfE kk hf va s₂ ρ₁ R₂ (S₁.trans S₂) (q₁.go S₂)
set_option tactic.hygienic false in
theorem den_orE {f g : EM} (D1 : DenE C d env vars l f) (D2 : DenE C d env vars r g) : DenE C d env vars (.BoolOp .Or [l, r] p) (orE f g) := by
  intro lc σ x σ' hf A Q E s ρ hA R lr kk
  refine oB hf fun a e1 hf => oB hf fun t e2 hf => ?_
  refine wpAny_Or2 (D1 _ _ _ _ e1 A _ E s ρ hA R lr fun va s₁ ρ₁ R₁ S₁ q₁ => atruth_rel R₁ q₁ e2 fun s₂ R₂ S₂ => ?_)
  cases t with
  | false => exact D2 _ _ _ _ hf A _ E s₂ ρ₁ hA R₂ (lr.go (S₁.trans S₂)) fun v s₃ ρ₃ R₃ S₃ q₃ => kk v s₃ ρ₃ R₃ ((S₁.trans S₂).trans S₃) q₃
  | true => exact kfE kk hf va s₂ ρ₁ R₂ (S₁.trans S₂) (q₁.go S₂)
end
end Mine.Internal
end
section
open PySem PySem.W PyProof.Rows PySem.Calls
namespace Mine.Internal
section
variable {C : Cfg} {ρ ρ' : Rho} {σ : St} {s : Shared} {L : Addr} {h' : Heap} {m m' : Str → Option Value}
set_option tactic.hygienic false in
theorem one_noSeq {h : Heap} {o : Obj} (e : h.get? L = some o) (hn : ∀ vs n, o.data ≠ .seq vs n) : ∀ a o vs n, a ∈ [L] → h.get? a = some o → o.data ≠ .seq vs n := fun a o' vs n ha e' => Option.some.inj (e.symm.trans (List.mem_singleton.mp ha ▸ e')) ▸ hn vs n
set_option tactic.hygienic false in
theorem ns_noSeq {h : Heap} (hn : h.Ns L m) : ∀ a o vs n, a ∈ [L] → h.get? a = some o → o.data ≠ .seq vs n := x3_3 hn fun o es ep ho hd uu => one_noSeq ho fun vs n z => Data.noConfusion (hd.symm.trans z)
set_option tactic.hygienic false in
theorem EntR.step {W : List Addr} {h h' : Heap} (S : Step C W ρ ρ' h h') (hW : ∀ a o vs n, a ∈ W → h.get? a = some o → o.data ≠ .seq vs n) : ∀ {r : List (Str × AV)} {es : List DictEntry}, EntR C ρ h r es → EntR C ρ' h' r es := fun q => q.map (·.step S hW)
set_option tactic.hygienic false in
theorem stepWrite {h h' : Heap} (hs : Heap.SameBut L h h') : Step C [L] ρ ρ h h' := ⟨by rw [hs.1]; exact Nat.le_refl _, fun b o e uu w => (hs.2 b (by simpa using w)).trans e, [], by simp, fun uu hp => nomatch hp⟩
set_option tactic.hygienic false in
theorem Rel.moves (R : Rel C ρ σ s) {Is : List Addr} {n : Nat} (hf : ∀ J ∈ Is, ∃ o, s.heap.get? J = some o ∧ (∀ vs n, o.data ≠ .seq vs n) ∧ (o.cls = .type "code" → ∀ vs, o.data ≠ .fields vs)) (hm : ∀ J ∈ Is, ¬ Mut C ρ J) (hl : ∀ J ∈ Is, C.s₁.heap.objs.size ≤ J)
    (k : ∀ b o, b ∉ Is → s.heap.get? b = some o → h'.get? b = some o) (z : s.heap.objs.size ≤ h'.objs.size) : Rel C ρ σ { s with heap := h', toks := n } ∧ Step C Is ρ ρ s.heap h' := by
  have S : Step C Is ρ ρ s.heap h' := ⟨z, fun b o e uu w => k b o w e, [], by rw [List.append_nil], fun uu hp => nomatch hp⟩
  have W : ∀ a o vs n, a ∈ Is → s.heap.get? a = some o → o.data ≠ .seq vs n := fun a o vs n ha e => x1_3 (hf a ha) fun o' e' hn uu => Option.some.inj (e'.symm.trans e) ▸ hn vs n
  have own : ∀ {p : Addr × Addr} {l : Nat}, ρ[l]? = some p → p.1 ∉ Is ∧ p.2 ∉ Is := fun {p l} e => ⟨fun z => hm _ z (.inr ⟨p, List.mem_of_getElem? e, .inl rfl⟩), fun z => hm _ z (.inr ⟨p, List.mem_of_getElem? e, .inr rfl⟩)⟩
  refine ⟨⟨fun b o e nt => k b o (fun m => Nat.not_lt.mpr (hl b m) (Heap.lt_size e)) (R.old b o e nt), fun t ht => x1_2 (R.tab t ht) fun more a b => ?_, R.lo, R.dis, R.len, fun l p o e e' => ?_, R.gens.heap (fun uu uu uu e uu uu o ho => k _ o (own e).1 ho), R.drawn, R.os, Nat.le_trans R.size z⟩, S⟩
  · have hP : t.2.1 ∉ Is := fun m => hm _ m (.inl (List.mem_map.mpr ⟨t, ht, rfl⟩))
    have hc : t.1 ∉ Is := fun m => x2_4 b.1 fun o vs ho hcl hd uu => x1_3 (hf _ m) fun o' e' uu hn => by
      have z := Option.some.inj (ho.symm.trans e')
      exact hn (z ▸ hcl) vs (z ▸ hd)
    exact ⟨more, a.at2 (fun o e => k _ o hc e) (fun o e => k _ o hP e), b.at2 (fun o e => k _ o hc e) (fun o e => k _ o hP e)⟩
  · exact (R.st l p o e e').move (fun ob z => k _ _ (own e).1 z) (fun ob z => k _ _ (own e).2 z) (·.step S W) fun uu z => z
set_option tactic.hygienic false in
theorem Rel.writeX (R : Rel C ρ σ s) {oL : Obj} (hL : s.heap.get? L = some oL) (nf : ∀ vs, oL.data ≠ .fields vs) (ns : ∀ vs n, oL.data ≠ .seq vs n) (hm : ¬ Mut C ρ L) (hl : C.s₁.heap.objs.size ≤ L) (hs : Heap.SameBut L s.heap h') {n : Nat} : Rel C ρ σ { s with heap := h', toks := n } :=
  (R.moves (Is := [L]) (fun J hJ => List.mem_singleton.mp hJ ▸ ⟨oL, hL, ns, fun uu => nf⟩) (fun J hJ => List.mem_singleton.mp hJ ▸ hm) (fun J hJ => List.mem_singleton.mp hJ ▸ hl) (fun b o hb e => (hs.2 b fun z => hb (List.mem_singleton.mpr z)).trans e) (Nat.le_of_eq hs.1.symm)).1
set_option tactic.hygienic false in
theorem Rel.write (R : Rel C ρ σ s) (hn : s.heap.Ns L m) (hm : ¬ Mut C ρ L) (hl : C.s₁.heap.objs.size ≤ L) (hs : Heap.SameBut L s.heap h') {n : Nat} : Rel C ρ σ { s with heap := h', toks := n } :=
  x3_3 hn fun o es ep ho hd uu => R.writeX ho (fun vs z => Data.noConfusion (hd.symm.trans z)) (fun vs n z => Data.noConfusion (hd.symm.trans z)) hm hl hs
end
set_option tactic.hygienic false in
theorem nodup_inj {xs : List Str} (hn : xs.Nodup) {i j : Nat} (hi : i < xs.length) (hj : j < xs.length) (e : xs[i] = xs[j]) : i = j := by
  rcases Nat.lt_trichotomy i j with q | q | q
  · exact absurd e (List.pairwise_iff_getElem.mp hn i j hi hj q)
  · exact q
  · exact absurd e.symm (List.pairwise_iff_getElem.mp hn j i hj hi q)
noncomputable def putL (lc : Lc) (i : Nat) (x : AV) : Option Lc := if i < lc.length then some (lc.set i (some x)) else none
noncomputable def asgS (i : Nat) (f : EM) : SM := fun lc σ => (f lc σ).bind fun p => (putL lc i p.1).map (.next, ·, p.2)
section
variable {C : Cfg} {d : Nat} {env : Env} {vars : List Str} {p p' : Pos}
set_option tactic.hygienic false in
theorem store_name (H : EnvOk env vars) {i : Nat} {n : Str} (hi : vars[i]? = some n) {lc lc' : Lc} {x : AV} (hx : putL lc i x = some lc') {A : Around} {Q : Unit → Shared → Prop} {E : Value → Shared → Prop} {s : Shared} {ρ : Rho} {σ : St} {v : Value} (R : Rel C ρ σ s) (l : LcR C ρ s.heap env.locals vars lc)
    (q : VR C ρ s.heap x v) (k : ∀ s', Rel C ρ σ s' → Step C [env.locals] ρ ρ s.heap s'.heap → LcR C ρ s'.heap env.locals vars lc' → Q () s') : wpAny (model C.prog C.w) A (storeName env n v) Q E s := by
  obtain ⟨⟨m, hn, hv⟩, hm, hl, hz⟩ := l
  unfold putL at hx
  (refine sf hx ?_; clear hx; intro hil hx)
  (refine c1 hx fun hh0 => ?_; clear hx; subst hh0)
  refine wpAny_storeName_local (H.loc n (List.mem_of_getElem? hi)) hn (fun h' hn' hs => ?_) (by rw [H.kind]; rfl)
  have S : Step C [env.locals] ρ ρ s.heap h' := stepWrite hs
  refine k _ (R.write hn hm hl hs) S ⟨⟨_, hn', fun j y e => ?_⟩, hm, hl, by rw [List.length_set]; exact hz⟩
  by_cases hij : i = j
  · rw [← hij, List.getElem?_set_self hil] at e
    exact ⟨n, v, hij ▸ hi, if_pos rfl, (Option.some.inj (Option.some.inj e) ▸ q : VR C ρ s.heap y v).step S (ns_noSeq hn)⟩
  · rw [List.getElem?_set_ne hij] at e
    (refine x2_3 (hv j y e) fun n' v' a b c => ?_)
    refine ⟨n', v', a, ?_, c.step S (ns_noSeq hn)⟩
    have : n' ≠ n := fun z => by
      subst z
      obtain ⟨h1, e1⟩ := List.getElem?_eq_some_iff.mp a
      obtain ⟨h2, e2⟩ := List.getElem?_eq_some_iff.mp hi
      exact hij (nodup_inj H.nodup h2 h1 (e2.trans e1.symm))
    show (if n' = n then some v else m n') = some v'
    rw [if_neg this]; exact b
theorem den_asg (H : EnvOk env vars) {i : Nat} {n : Str} {e : Expr} {f : EM} (hi : vars[i]? = some n) (D : DenE C d env vars e f) (hs : swapsWith e (some (.Name n p')) p.line env = pure false) : DenS C d env vars (.Assign [.Name n p'] e p) (asgS i f) := by
  intro lc σ fl lc' σ' hf A Q E s ρ hA R lr kk
  refine oB hf fun x e1 hf => oM hf fun lc'' hp e2 => ?_
  refine wpAny_Assign_Name (D _ _ _ _ e1 A _ E s ρ hA R lr fun v s₁ ρ₁ R₁ S₁ q₁ => store_name H hi hp R₁ (lr.go S₁) q₁ fun s₂ R₂ S₂ l₂ => ?_) hs
  exact kfs kk e2 _ s₂ ρ₁ R₂ (S₁.of_nil.trans S₂) l₂ .next
noncomputable def seqS : List SM → SM
  | [] => fun lc σ => some (.next, lc, σ)
  | f :: r => fun lc σ => (f lc σ).bind fun t => match t.1 with
    | .next => seqS r t.2.1 t.2.2
    | .brk => some t
    | .cont => some t
    | .ret _ => some t
theorem den_nil : DenB C d env vars [] (seqS []) := by
  intro lc σ fl lc' σ' hf A Q E s ρ hA R lr kk
  exact wpAny_execs_nil (kfS kk hf _ s ρ R .refl lr .next)
theorem den_cons {st : Stmt} {r : List Stmt} {f : SM} {fs : List SM} (D1 : DenS C d env vars st f) (D2 : DenB C d env vars r (seqS fs)) : DenB C d env vars (st :: r) (seqS (f :: fs)) := by
  intro lc σ fl lc' σ' hf A Q E s ρ hA R lr kk
  refine wpAny_execs_cons (oB hf fun t e1 hf => D1 _ _ _ _ _ e1 A _ E s ρ hA R lr fun w s₁ ρ₁ R₁ S₁ l₁ q₁ => ?_)
  rcases t with ⟨fl₁, lc₁, σ₁⟩
  have z : some (fl₁, lc₁, σ₁) = some (fl, lc', σ') → Q w s₁ := fun e => kfS kk e w s₁ ρ₁ R₁ S₁ l₁ q₁
  cases q₁ with
  | next => exact D2 _ _ _ _ _ hf A _ E s₁ ρ₁ hA R₁ l₁ fun w s₂ ρ₂ R₂ S₂ l₂ q₂ => kk w s₂ ρ₂ R₂ (S₁.trans S₂) l₂ q₂
  | _ => exact z hf
noncomputable def ifS (t : TM) (f g : SM) : SM := fun lc σ => (t lc σ).bind fun p => if p.1 then f lc p.2 else g lc p.2
set_option tactic.hygienic false in
theorem den_if {c : Expr} {t : TM} {b1 b2 : List Stmt} {f g : SM} (D0 : DenT C d env vars c t) (D1 : DenB C d env vars b1 f) (D2 : DenB C d env vars b2 g) : DenS C d env vars (.If c b1 b2 p) (ifS t f g) := by
  intro lc σ fl lc' σ' hf A Q E s ρ hA R lr kk
  refine oB hf fun y e1 hf => ?_
  rcases y with ⟨⟨⟩, σ₁⟩
  · exact wpAny_If (D0 _ _ _ _ e1 A _ E s ρ hA R lr fun s₁ ρ₁ R₁ S₁ => D2 _ _ _ _ _ hf A _ E s₁ ρ₁ hA R₁ (lr.go S₁) fun w s₂ ρ₂ R₂ S₂ l₂ q₂ => kk w s₂ ρ₂ R₂ (S₁.of_nil.trans S₂) l₂ q₂)
  · exact wpAny_If (D0 _ _ _ _ e1 A _ E s ρ hA R lr fun s₁ ρ₁ R₁ S₁ => D1 _ _ _ _ _ hf A _ E s₁ ρ₁ hA R₁ (lr.go S₁) fun w s₂ ρ₂ R₂ S₂ l₂ q₂ => kk w s₂ ρ₂ R₂ (S₁.of_nil.trans S₂) l₂ q₂)
noncomputable def retS (f : EM) : SM := fun lc σ => (f lc σ).map fun p => (.ret p.1, lc, p.2)
set_option tactic.hygienic false in
theorem den_ret {e : Expr} {f : EM} (D : DenE C d env vars e f) : DenS C d env vars (.Return (some e) p) (retS f) := by
  intro lc σ fl lc' σ' hf A Q E s ρ hA R lr kk
  exact oM hf fun y e1 e2 => wpAny_Return_some (D _ _ _ _ e1 A _ E s ρ hA R lr fun v s₁ ρ₁ R₁ S₁ q₁ => kfs kk e2 _ s₁ ρ₁ R₁ S₁.of_nil (lr.go S₁) (.ret q₁))
noncomputable def retNS : SM := fun lc σ => some (.ret .none, lc, σ)
set_option tactic.hygienic false in
theorem den_retN : DenS C d env vars (.Return none p) retNS := by
  intro lc σ fl lc' σ' hf A Q E s ρ hA R lr kk
  exact wpAny_Return_none (kfS kk hf _ s ρ R .refl lr (.ret .none))
noncomputable def brkS : SM := fun lc σ => some (.brk, lc, σ)
set_option tactic.hygienic false in
theorem den_brk : DenS C d env vars (.Break p) brkS := by
  intro lc σ fl lc' σ' hf A Q E s ρ hA R lr kk
  exact wpAny_Break (kfS kk hf _ s ρ R .refl lr .brk)
noncomputable def contS : SM := fun lc σ => some (.cont, lc, σ)
set_option tactic.hygienic false in
theorem den_cont : DenS C d env vars (.Continue p) contS := by
  intro lc σ fl lc' σ' hf A Q E s ρ hA R lr kk
  exact wpAny_Continue (kfS kk hf _ s ρ R .refl lr .cont)
noncomputable def exprS (f : EM) : SM := fun lc σ => (f lc σ).map fun p => (.next, lc, p.2)
theorem den_expr {e : Expr} {f : EM} (D : DenE C d env vars e f) (hi : interactive env = false) (hs : swapsWith e none p.line env = pure false) : DenS C d env vars (.Expr e p) (exprS f) := by
  intro lc σ fl lc' σ' hf A Q E s ρ hA R lr kk
  refine oM hf fun y e1 e2 => wpAny_Expr_any (D _ _ _ _ e1 A _ E s ρ hA R lr fun v s₁ ρ₁ R₁ S₁ q₁ => ?_) hi hs
  exact kfs kk e2 _ s₁ ρ₁ R₁ S₁.of_nil (lr.go S₁) .next
end
end Mine.Internal
end
section
open PySem PySem.W PyProof.Rows PySem.Calls
namespace Mine.Internal
noncomputable def evs : List EM → Lc → St → Option (List AV × St)
  | [], _, σ => some ([], σ)
  | f :: r, lc, σ => (f lc σ).bind fun p => (evs r lc p.2).map fun q => (p.1 :: q.1, q.2)
inductive DenEs (C : Cfg) (d : Nat) (env : Env) (vars : List Str) : List Expr → List EM → Prop
  | nil : DenEs C d env vars [] []
  | cons {e : Expr} {f : EM} {es : List Expr} {fs : List EM} (a : DenE C d env vars e f) (b : DenEs C d env vars es fs) (ns : ∀ r, starEach (e :: r) env = (false, eval e env) :: starEach r env) : DenEs C d env vars (e :: es) (f :: fs)
section
variable {C : Cfg} {d : Nat} {env : Env} {vars : List Str} {p p' : Pos}
set_option tactic.hygienic false in
theorem kfL {ρ : Rho} {h : Heap} {a x : List AV} {σ₁ σ' : St} {Q : List Value → Shared → Prop} (k : ∀ v s' ρ', Rel C ρ' σ' s' → Step C [] ρ ρ' h s'.heap → VRs C ρ' s'.heap x v → Q v s') (e : (a, σ₁) = (x, σ')) : ∀ v s' ρ', Rel C ρ' σ₁ s' → Step C [] ρ ρ' h s'.heap → VRs C ρ' s'.heap a v → Q v s' := by cases e; exact k
set_option tactic.hygienic false in
theorem items_rel {es : List Expr} {fs : List EM} (D : DenEs C d env vars es fs) : ∀ {lc : Lc} {σ σ' : St} {xs : List AV}, evs fs lc σ = some (xs, σ') → ∀ {A : Around} {Q : List Value → Shared → Prop} {E : Value → Shared → Prop} {s : Shared} {ρ : Rho}, AOk d A → Rel C ρ σ s → LcR C ρ s.heap env.locals vars lc →
    (∀ vs s' ρ', Rel C ρ' σ' s' → Step C [] ρ ρ' s.heap s'.heap → VRs C ρ' s'.heap xs vs → Q vs s') → wpAny (model C.prog C.w) A (spliced (backTo p (starEach es env))) Q E s := by
  induction D with
  | nil => intro lc σ σ' xs hf A Q E s ρ hA R lr kk; exact wpAny_items_nil (kfL kk (Option.some.inj hf) _ s ρ R .refl .nil)
  | cons a b ns ih =>
    intro lc σ σ' xs hf A Q E s ρ hA R lr kk
    refine oB hf fun x e1 hf => oM hf fun y e2 e => ?_
    exact wpAny_items_cons (a _ _ _ _ e1 A _ E s ρ hA R lr fun v s₁ ρ₁ R₁ S₁ q₁ => ih e2 hA R₁ (lr.go S₁) fun vs s₂ ρ₂ R₂ S₂ q₂ => kfL kk e _ s₂ ρ₂ R₂ (S₁.trans S₂) (.cons (q₁.go S₂) q₂)) (ns _)
noncomputable def tupE (fs : List EM) : EM := fun lc σ => (evs fs lc σ).bind fun p => gd (decide (p.1.length ≤ sizeLine)) (.tup p.1, p.2)
noncomputable def lstE (fs : List EM) : EM := fun lc σ => (evs fs lc σ).bind fun p => gd (decide (p.1.length ≤ sizeLine)) (.lst p.1, p.2)
set_option tactic.hygienic false in
theorem den_tup {es : List Expr} {fs : List EM} {k : Nat} (D : DenEs C d env vars es fs) : DenE C d env vars (.Tuple es k p) (tupE fs) := by
  intro lc σ x σ' hf A Q E s ρ hA R lr kk
  refine oB hf fun xs e1 hf => oG hf fun hz e => ?_
  refine wpAny_Tuple (items_rel D e1 hA R lr fun vs s₁ ρ₁ R₁ S₁ q₁ => ⟨by rw [q₁.length]; exact of_decide_eq_true hz, ?_⟩)
  exact kfe kk e _ _ ρ₁ (R₁.push _ (n := s₁.toks)) (S₁.trans (.pushObj _)) (.tup (Heap.get?_push_size _ rfl) R₁.fresh (q₁.go (.pushObj _)))
set_option tactic.hygienic false in
theorem den_lst {es : List Expr} {fs : List EM} (D : DenEs C d env vars es fs) : DenE C d env vars (.List es p) (lstE fs) := by
  intro lc σ x σ' hf A Q E s ρ hA R lr kk
  refine oB hf fun xs e1 hf => oG hf fun hz e => ?_
  refine wpAny_List (items_rel D e1 hA R lr fun vs s₁ ρ₁ R₁ S₁ q₁ => ⟨by rw [q₁.length]; exact of_decide_eq_true hz, ?_⟩)
  exact kfe kk e _ _ ρ₁ (R₁.push _ (n := s₁.toks)) (S₁.trans (.pushObj _)) (.lst (Heap.get?_push_size _ rfl) R₁.fresh (q₁.go (.pushObj _)))
end
section
variable {C : Cfg} {ρ : Rho} {σ : St} {s s' : Shared}
set_option tactic.hygienic false in
theorem ObjR.grow {ρ' : Rho} {h h' : Heap} (k : ∀ b o, h.get? b = some o → h'.get? b = some o) (S : Step C [] ρ ρ' h h') {p : Addr × Addr} {o : AO} (q : ObjR C ρ h p o) : ObjR C ρ' h' p o :=
  q.move (k _) (k _) (·.go S) fun uu z => x1_2 S.grow fun δ e _ => e ▸ z.grow δ
set_option tactic.hygienic false in
theorem Rel.rhoLt (R : Rel C ρ σ s) {p : Addr × Addr} (hp : p ∈ ρ) : p.1 < s.heap.objs.size ∧ p.2 < s.heap.objs.size := by
  obtain ⟨l, hl, rfl⟩ := List.mem_iff_getElem.mp hp
  have q : l < σ.length := R.len ▸ hl
  exact (R.st l ρ[l] σ[l] (List.getElem?_eq_getElem hl) (List.getElem?_eq_getElem q)).lt
set_option tactic.hygienic false in
theorem Rel.allocX (R : Rel C ρ σ s) (k : ∀ b o, s.heap.get? b = some o → s'.heap.get? b = some o) (z : s.heap.objs.size ≤ s'.heap.objs.size) (hd : s'.drawn = s.drawn) (hos : s'.os = s.os)
    {p : Addr × Addr} {o : AO} (h1 : s.heap.objs.size ≤ p.1) (h2 : s.heap.objs.size ≤ p.2) (ho : ObjR C (ρ ++ [p]) s'.heap p o) (hg : GR C (ρ ++ [p]) (σ ++ [o]) s'.heap s'.gens) : Rel C (ρ ++ [p]) (σ ++ [o]) s' ∧ Step C [] ρ (ρ ++ [p]) s.heap s'.heap := by
  have S : Step C [] ρ (ρ ++ [p]) s.heap s'.heap := ⟨z, fun b o e uu uu => k b o e, [p], rfl, fun q hq => by cases List.mem_singleton.mp hq; exact ⟨h1, h2⟩⟩
  refine ⟨⟨fun b o e n => k b o (R.old b o e n), fun t ht => let ⟨m, a, b⟩ := R.tab t ht; ⟨m, a.keeps k, b.keeps k⟩, fun q hq => ?_, ?_, by simp [R.len], fun l q o' e e' => ?_, hg, hd.trans R.drawn, hos.trans R.os, Nat.le_trans R.size z⟩, S⟩
  · rcases List.mem_append.mp hq with hq | hq
    · exact R.lo q hq
    · cases List.mem_singleton.mp hq; exact ⟨Nat.le_trans R.size h1, Nat.le_trans R.size h2⟩
  · refine List.pairwise_append.mpr ⟨R.dis, List.pairwise_singleton .., fun a ha b hb => ?_⟩
    cases List.mem_singleton.mp hb
    have := R.rhoLt ha
    exact ⟨Nat.ne_of_lt (Nat.lt_of_lt_of_le this.1 h1), Nat.ne_of_lt (Nat.lt_of_lt_of_le this.1 h2), Nat.ne_of_lt (Nat.lt_of_lt_of_le this.2 h1), Nat.ne_of_lt (Nat.lt_of_lt_of_le this.2 h2)⟩
  · by_cases hl : l < ρ.length
    · rw [List.getElem?_append_left hl] at e
      rw [List.getElem?_append_left (R.len ▸ hl)] at e'
      exact (R.st l q o' e e').grow k S
    · have hl' : ¬ l < σ.length := R.len ▸ hl
      rw [List.getElem?_append_right (Nat.not_lt.mp hl)] at e
      rw [List.getElem?_append_right (Nat.not_lt.mp hl')] at e'
      rw [List.getElem?_singleton] at e e'
      exact sf e fun uu e => sf e' fun uu e' => Option.some.inj e ▸ Option.some.inj e' ▸ ho
set_option tactic.hygienic false in
theorem Rel.alloc (R : Rel C ρ σ s) (k : ∀ b o, s.heap.get? b = some o → s'.heap.get? b = some o) (z : s.heap.objs.size ≤ s'.heap.objs.size) (hg : GR C ρ σ s.heap s'.gens) (hd : s'.drawn = s.drawn) (hos : s'.os = s.os)
    {p : Addr × Addr} {o : AO} (h1 : s.heap.objs.size ≤ p.1) (h2 : s.heap.objs.size ≤ p.2) (ho : ObjR C (ρ ++ [p]) s'.heap p o) (ng : o.isGen = false) : Rel C (ρ ++ [p]) (σ ++ [o]) s' ∧ Step C [] ρ (ρ ++ [p]) s.heap s'.heap :=
  R.allocX k z hd hos h1 h2 ho ((hg.heap fun uu uu uu uu uu uu o e => k _ o e).snoc R.len ng)
end
noncomputable def newLE (fs : List EM) : EM := fun lc σ => (evs fs lc σ).bind fun p => gd (decide (p.1.length ≤ sizeLine)) (.loc p.2.length, p.2 ++ [.list p.1])
set_option tactic.hygienic false in
theorem den_newL {C : Cfg} {d : Nat} {env : Env} {vars : List Str} {p : Pos} {es : List Expr} {fs : List EM} (D : DenEs C d env vars es fs) : DenE C d env vars (.List es p) (newLE fs) := by
  intro lc σ x σ' hf A Q E s ρ hA R lr kk
  refine oB hf fun xs e1 hf => oG hf fun hz e => ?_
  refine wpAny_List (items_rel D e1 hA R lr fun vs s₁ ρ₁ R₁ S₁ q₁ => ⟨by rw [q₁.length]; exact of_decide_eq_true hz, ?_⟩)
  have k : ∀ b o, s₁.heap.get? b = some o → (s₁.heap.push (lstObj vs 0)).get? b = some o := fun uu uu e => Heap.get?_push_of_some _ e
  have z : s₁.heap.objs.size ≤ (s₁.heap.push (lstObj vs 0)).objs.size := by rw [Heap.size_push]; exact Nat.le_succ _
  have S₂ : Step C [] ρ₁ (ρ₁ ++ [(s₁.heap.objs.size, s₁.heap.objs.size)]) s₁.heap (s₁.heap.push (lstObj vs 0)) := ⟨z, fun b o e uu uu => k b o e, _, rfl, fun q hq => by cases List.mem_singleton.mp hq; exact ⟨Nat.le_refl _, Nat.le_refl _⟩⟩
  (refine x0_2 (R₁.alloc (s' := { s₁ with heap := s₁.heap.push (lstObj vs 0) }) k z R₁.gens rfl rfl (p := (s₁.heap.objs.size, s₁.heap.objs.size)) (o := .list xs.1) (Nat.le_refl _) (Nat.le_refl _) (.list (Heap.get?_push_size _ rfl) (q₁.go S₂)) rfl) fun R₂ S₂ => ?_)
  refine kfe kk e _ _ _ R₂ (S₁.trans S₂) (.loc (p := (s₁.heap.objs.size, s₁.heap.objs.size)) ?_)
  rw [← R₁.len, List.getElem?_append_right (Nat.le_refl _), Nat.sub_self]
  rfl
noncomputable def DenF (C : Cfg) (d : Nat) (f : Addr) (F : List AV → St → Option (AV × St)) : Prop :=
  ∀ xs σ x σ', F xs σ = some (x, σ') → ∀ (A : Around) (P : Result → Shared → Prop) (s : Shared) (ρ : Rho) (vs : List Value), AOk d A → Rel C ρ σ s → VRs C ρ s.heap xs vs →
    (∀ v s' ρ', Rel C ρ' σ' s' → Step C [] ρ ρ' s.heap s'.heap → VR C ρ' s'.heap x v → P (.ok (.ret v)) s') → codeAny (model C.prog C.w) A (.call (.ref f) ⟨vs, []⟩) P s
noncomputable def lc0 (vars : List Str) (xs : List AV) : Lc := xs.map some ++ List.replicate (vars.length - xs.length) none
noncomputable def endF (t : Fl × Lc × St) : Option (AV × St) := match t.1 with
  | .ret x => some (x, t.2.2)
  | .next => some (.none, t.2.2)
  | .brk => none
  | .cont => none
noncomputable def runF (vars : List Str) (n : Nat) (B : SM) (xs : List AV) (σ : St) : Option (AV × St) := if xs.length = n then (B (lc0 vars xs) σ).bind endF else none
set_option tactic.hygienic false in
theorem DenF.mono {C : Cfg} {d d' : Nat} {f : Addr} {F : List AV → St → Option (AV × St)} (D : DenF C d' f F) (h : d' ≤ d) : DenF C d f F :=
  fun xs σ x σ' hf A P s ρ vs hA R q k => D xs σ x σ' hf A P s ρ vs (hA.mono h) R q k
set_option tactic.hygienic false in
theorem AOk.deeper {d : Nat} {A : Around} {env : Env} (a : AOk (d + 1) A) : AOk d (A.deeper env) := by
  (refine x0_3 (a) fun a1 a2 a3 => ?_; clear a)
  refine ⟨a1, ?_, ?_⟩
  · show A.depth + 1 + d < _; (first | lia | omega)
  · show A.units + 3 + 8 * d < _; (first | lia | omega)
set_option tactic.hygienic false in
theorem AOk.in1 {d : Nat} {A : Around} (a : AOk (d + 1) A) : AOk d A.in1 := by
  (refine x0_3 (a) fun a1 a2 a3 => ?_; clear a)
  refine ⟨a1, ?_, ?_⟩
  · show A.depth + d < _; (first | lia | omega)
  · show A.units + 1 + 8 * d < _; (first | lia | omega)
noncomputable abbrev envF (fd : FuncData) (f L : Addr) : Env := newEnv fd.scope L mainGlobals fd.closure (fd.qualname ++ ".<locals>.") (some f) fd.code none builtinsNs
set_option tactic.hygienic false in
theorem lookup_zip : ∀ {xs : List Str} {vs : List Value} {i : Nat} {x : Str} {v : Value}, xs.Nodup → xs[i]? = some x → vs[i]? = some v → (xs.zip vs).lookup x = some v
  | [], _, i, _, _, _, e, _ => by simp at e
  | _ :: _, [], i, _, _, _, _, e => by simp at e
  | y :: xs, w :: vs, 0, x, v, _, e, e' => by simp at e e'; subst e e'; simp
  | y :: xs, w :: vs, i + 1, x, v, hn, e, e' => by
    simp at e e'
    rw [List.zip_cons_cons, List.lookup_cons]
    have hm := List.mem_of_getElem? e
    have : x ≠ y := fun z => (List.nodup_cons.mp hn).1 (z ▸ hm)
    rw [beq_false_of_ne this]
    exact lookup_zip (List.nodup_cons.mp hn).2 e e'
set_option tactic.hygienic false in
theorem lookup_rev {l : List (Str × Value)} {x : Str} {v : Value} (hn : (l.map (·.1)).Nodup) (e : l.lookup x = some v) : l.reverse.lookup x = some v := by
  induction l with
  | nil => simp at e
  | cons a l ih =>
    obtain ⟨y, w⟩ := a
    rw [List.map_cons, List.nodup_cons] at hn
    rw [List.reverse_cons]
    rw [List.lookup_cons] at e
    by_cases h : x = y
    · subst h
      simp at e
      subst e
      have : l.reverse.lookup x = none := by
        rw [List.lookup_eq_none_iff]
        intro p hp
        have : p.1 ∈ l.map (·.1) := List.mem_map_of_mem (List.mem_reverse.mp hp)
        simp only [bne_iff_ne, ne_eq]
        intro z
        exact hn.1 (z ▸ this)
      rw [List.lookup_append, this]
      simp
    · rw [beq_false_of_ne h] at e
      rw [List.lookup_append, ih hn.2 e]
      rfl
end Mine.Internal
end
section
open PySem PySem.W PyProof.Rows PySem.Calls
namespace Mine.Internal
structure CfgOk (C : Cfg) : Prop where
  kin : C.K.In C.s₁.heap
  knt : ∀ a o, C.K.lookup a = some o → ¬ C.isTab a
  lim : C.s₁.heap.NoLimit
  stat : ¬ C.isTab cStatics
  glob : ¬ C.isTab mainGlobals
  blt : ¬ C.isTab builtinsNs
section
variable {C : Cfg} {ρ : Rho} {σ : St} {s : Shared}
set_option tactic.hygienic false in
theorem Rel.kin (R : Rel C ρ σ s) (H : CfgOk C) : C.K.In s.heap := fun a o e => R.old a o (H.kin a o e) (H.knt a o e)
noncomputable def DenCall (C : Cfg) (d : Nat) (fv : Value) (F : List AV → St → Option (AV × St)) : Prop :=
  ∀ xs σ x σ', F xs σ = some (x, σ') → ∀ (A : Around) (Q : Value → Shared → Prop) (E : Value → Shared → Prop) (s : Shared) (ρ : Rho) (vs : List Value), AOk d A → Rel C ρ σ s → VRs C ρ s.heap xs vs →
    (∀ v s' ρ', Rel C ρ' σ' s' → Step C [] ρ ρ' s.heap s'.heap → VR C ρ' s'.heap x v → Q v s') → wpAny (model C.prog C.w) A (call fv vs) Q E s
set_option tactic.hygienic false in
theorem DenF.call {d : Nat} {f : Addr} {F : List AV → St → Option (AV × St)} (D : DenF C d f F) : DenCall C d (.ref f) F := by
  intro xs σ x σ' hf A Q E s ρ vs hA R q k
  exact wpAny_call (D xs σ x σ' hf A _ s ρ vs hA R q fun v s' ρ' R' S' q' => k v s' ρ' R' S' q')
set_option tactic.hygienic false in
theorem DenCall.mono {d d' : Nat} {fv : Value} {F : List AV → St → Option (AV × St)} (D : DenCall C d' fv F) (h : d' ≤ d) : DenCall C d fv F :=
  fun xs σ x σ' hf A Q E s ρ vs hA R q k => D xs σ x σ' hf A Q E s ρ vs (hA.mono h) R q k
noncomputable def KeepOk (C : Cfg) (fv : Value) : Prop := ∀ h, C.K.In h → ∃ k, (k = Keeper.frame ∨ k = Keeper.machine ∨ k = Keeper.boundFrame) ∧ Looks (model C.prog C.w) h (keeperOf fv) k
set_option tactic.hygienic false in
theorem keep_builtin {i : String} : KeepOk C (.builtin i) := fun uu uu => ⟨.machine, .inr (.inl rfl), .now⟩
set_option tactic.hygienic false in
theorem keep_type {T : String} : KeepOk C (.type T) := fun uu uu => ⟨.machine, .inr (.inl rfl), .now⟩
set_option tactic.hygienic false in
theorem keep_K {f : Value} (hk : keepIn C.K f = true) : KeepOk C f := fun h X => keeps_K hk h X
variable {d : Nat} {env : Env} {vars : List Str} {p p' : Pos}
set_option tactic.hygienic false in
theorem noStar {es : List Expr} {fs : List EM} (D : DenEs C d env vars es fs) : (backTo p (starEach es env)).any (·.1) = false := by
  induction D with
  | nil => rfl
  | cons a b ns ih => rw [ns]; exact ih
set_option tactic.hygienic false in
theorem args_rel {es : List Expr} {fs : List EM} (D : DenEs C d env vars es fs) {lc : Lc} {σ σ' : St} {xs : List AV} (hf : evs fs lc σ = some (xs, σ')) {fv : Value} {A : Around} {Q : Args → Shared → Prop} {E : Value → Shared → Prop} {s : Shared} {ρ : Rho} (hA : AOk d A) (R : Rel C ρ σ s) (lr : LcR C ρ s.heap env.locals vars lc)
    (k : ∀ vs s' ρ', Rel C ρ' σ' s' → Step C [] ρ ρ' s.heap s'.heap → VRs C ρ' s'.heap xs vs → Q ⟨vs, []⟩ s') : wpAny (model C.prog C.w) A (evalArgs fv true (backTo p (starEach es env)) []) Q E s := by
  have it := fun (Q' : List Value → Shared → Prop) kk => items_rel (p := p) D hf (Q := Q') (E := E) hA R lr kk
  cases D with
  | nil =>
    have hf : some (([] : List AV), σ) = some (xs, σ') := hf
    refine evalArgs_nil3 ?_
    exact kfL (Q := fun vs => Q ⟨vs, []⟩) k (Option.some.inj hf) [] s ρ R .refl .nil
  | cons a b ns =>
    rw [ns] at it ⊢
    exact evalArgs_plain (it _ k)
set_option tactic.hygienic false in
theorem callWith_rel (H : CfgOk C) {es : List Expr} {fs : List EM} (D : DenEs C d env vars es fs) {lc : Lc} {σ σ' : St} {xs : List AV} (hf : evs fs lc σ = some (xs, σ')) {fv : Value} {first : List Value} (hk : KeepOk C fv) {A : Around} {Q : Value → Shared → Prop} {E : Value → Shared → Prop} {s : Shared} {ρ : Rho} (hA : AOk d A) (R : Rel C ρ σ s)
    (lr : LcR C ρ s.heap env.locals vars lc) (k : ∀ vs s' ρ', Rel C ρ' σ' s' → Step C [] ρ ρ' s.heap s'.heap → VRs C ρ' s'.heap xs vs → wpAny (model C.prog C.w) A (call fv (first ++ vs)) Q E s') :
    wpAny (model C.prog C.w) A (callWith p fv first (backTo p' (starEach es env)) []) Q E s :=
  callWith_of (P := fun h => C.K.In h) (by rw [noStar D]; rfl) hk (args_rel D hf hA R lr fun vs s' ρ' R' S' q' => ⟨R'.kin H, k vs s' ρ' R' S' q'⟩)
noncomputable def GlobVal (C : Cfg) (x : Str) (v : Value) : Prop := ∃ mg, C.s₁.heap.Ns mainGlobals mg ∧ (mg x = some v ∨ (mg x = none ∧ ∃ mb, C.s₁.heap.Ns builtinsNs mb ∧ mb x = some v))
set_option tactic.hygienic false in
theorem global_rel (H : CfgOk C) (He : EnvOk env vars) {x : Str} {v : Value} (hv : GlobVal C x v) (hx : env.kindOf x = some .globalImplicit) (hd : (x == ("__debug__" : Str)) = false) {A : Around} {Q : Value → Shared → Prop} {E : Value → Shared → Prop} (R : Rel C ρ σ s) (k : Q v s) :
    wpAny (model C.prog C.w) A (eval (.Name x p) env) Q E s := by
  (refine x1_2 (hv) fun mg hg h => ?_; clear hv)
  refine Name_function_global He.kind hx ?_ hd
  have hg' : s.heap.Ns env.globals mg := by rw [He.glob]; exact hg.at fun o e => R.old _ _ e H.glob
  rcases h with h | ⟨h, mb, hb, h'⟩
  · exact loadGlobal_global hg' h k
  · exact loadGlobal_builtin hg' h (by rw [He.blt]; exact hb.at fun o e => R.old _ _ e H.blt) h' k
noncomputable def callE (F : List AV → St → Option (AV × St)) (fs : List EM) : EM := fun lc σ => (evs fs lc σ).bind fun p => F p.1 p.2
set_option tactic.hygienic false in
theorem den_call (H : CfgOk C) (He : EnvOk env vars) {x : Str} {fv : Value} {F : List AV → St → Option (AV × St)} {es : List Expr} {fs : List EM} {p0 : Pos} (hv : GlobVal C x fv) (hx : env.kindOf x = some .globalImplicit) (hk : KeepOk C fv) (DF : DenCall C d fv F) (D : DenEs C d env vars es fs)
    (hd : (x == ("__debug__" : Str)) = false) : DenE C d env vars (.Call (.Name x p0) es [] p) (callE F fs) := by
  intro lc σ y σ' hf A Q E s ρ hA R lr kk
  refine oB hf fun xs e1 hf => ?_
  show wpAny _ _ (do callWith p (← eval (.Name x p0) env) [] (backTo p (starEach es env)) (backToKw p (keywordEach [] env))) _ _ _
  refine wpAny_bind (global_rel H He hv hx hd R ?_)
  refine callWith_rel H D e1 hk hA R lr fun vs s₁ ρ₁ R₁ S₁ q₁ => ?_
  rw [List.nil_append]
  exact DF _ _ _ _ hf A _ E s₁ ρ₁ vs hA R₁ q₁ fun v s₂ ρ₂ R₂ S₂ q₂ => kk v s₂ ρ₂ R₂ (S₁.trans S₂) q₂
set_option tactic.hygienic false in
theorem den_glob (H : CfgOk C) (He : EnvOk env vars) {x y : Str} {t : Tok} (hv : GlobVal C x (.str y t)) (ok : PyData.strOk y = true) (hx : env.kindOf x = some .globalImplicit) (hd : (x == ("__debug__" : Str)) = false) : DenE C d env vars (.Name x p) (cE (.str y)) := by
  intro lc σ z σ' hf A Q E s ρ hA R lr kk
  exact global_rel H He hv hx hd R (kfE kk hf _ s ρ R .refl (.str _ _ ok))
noncomputable def kindO : AO → Nat
  | .list _ => 2
  | .fmt .. => 3
  | .acc .. => 4
  | .ghost => 0
  | .gen .. => 5
  | .out _ => 0
  | .cell .. => 0
  | .ext .. => 9
noncomputable def kindV (σ : St) : AV → Nat
  | .none => 0
  | .bool _ => 0
  | .int _ => 0
  | .str _ => 1
  | .tup _ => 0
  | .lst _ => 2
  | .loc l => (σ[l]?.map kindO).getD 0
noncomputable def kind (σ : St) (x : AV) : Nat := kindV σ x
noncomputable def GetM (C : Cfg) (k : Nat) (name : Str) (fv : Value) : Prop :=
  ∀ (A : Around) (Q : Value × List Value → Shared → Prop) (E : Value → Shared → Prop) (s : Shared) (ρ : Rho) (σ : St) (x : AV) (v : Value) (pl : Sem Bool), Rel C ρ σ s → VR C ρ s.heap x v → kind σ x = k → Q (fv, [v]) s → wpAny (model C.prog C.w) A (getMethod v name pl) Q E s
noncomputable def mE (k : Nat) (F : List AV → St → Option (AV × St)) (f : EM) (fs : List EM) : EM := fun lc σ => (f lc σ).bind fun p => if kind p.2 p.1 = k then (evs fs lc p.2).bind fun q => F (p.1 :: q.1) q.2 else none
set_option tactic.hygienic false in
theorem den_meth (H : CfgOk C) {k : Nat} {name : Str} {fv : Value} {F : List AV → St → Option (AV × St)} {o : Expr} {f : EM} {es : List Expr} {fs : List EM} {apos : Pos} (hg : GetM C k name fv) (hk : KeepOk C fv) (DF : DenCall C d fv F) (D0 : DenE C d env vars o f) (D : DenEs C d env vars es fs)
    (hb : ∀ nm whole, attributeBase o nm env whole = whole) (hl : es.length < 30) (hp : (apos.endLine == p.line) = true) : DenE C d env vars (.Call (.Attribute o name apos) es [] p) (mE k F f fs) := by
  intro lc σ y σ' hf A Q E s ρ hA R lr kk
  refine oB hf fun r e1 hf => sf hf fun hkd hf => oB hf fun xs e2 hf => ?_
  rw [arm_eval_Call, hb]
  refine wpAny_bind (D0 _ _ _ _ e1 A _ E s ρ hA R lr fun v s₁ ρ₁ R₁ S₁ q₁ => wpAny_bind (wpAny_standAt ?_))
  have hform : methodCallForm (es.length + 0) (backTo p (starEach es env)) (backToKw p (keywordEach [] env)) = true := by
    have n := noStar (p := p) D
    unfold methodCallForm
    have a1 : (backTo p (starEach es env)).all (!·.1) = true := by
      rw [List.all_eq_true]
      intro x hx
      have := List.any_eq_false.mp n x hx
      simpa using this
    rw [a1]
    show (true && true && decide (es.length + 0 + 0 < 30)) = true
    simp [hl]
  show wpAny _ _ (methodCall o name apos p env v (es.length + 0) (backTo p (starEach es env)) (backToKw p (keywordEach [] env))) _ _ _
  unfold methodCall
  rw [hform]
  refine wpAny_bind (wpAny_holding ?_)
  show wpAny _ _ (getMethod v name _) _ _ _
  refine hg A _ E s₁ ρ₁ r.2 r.1 v _ R₁ q₁ hkd ?_
  dsimp only
  have hpos : methodCallPos true o env apos p = pure p := by
    unfold methodCallPos
    rw [hp]; rfl
  rw [hpos]
  refine wpAny_bind (wpAny_pure ?_)
  refine callWith_rel H D e2 hk hA R₁ (lr.go S₁) fun vs s₂ ρ₂ R₂ S₂ q₂ => ?_
  exact DF _ _ _ _ hf A _ E s₂ ρ₂ (v :: vs) hA R₂ (.cons (q₁.go S₂) q₂) fun v' s₃ ρ₃ R₃ S₃ q₃ => kk v' s₃ ρ₃ R₃ ((S₁.trans S₂).trans S₃) q₃
end
end Mine.Internal
end
section
open PySem PySem.W PyProof.Rows PySem.Calls
namespace Mine.Internal
set_option tactic.hygienic false in
theorem check_meth {M : Model} {A : Around} {E : Value → Shared → Prop} {s : Shared} {i owner n : String} {self : Value} {rest : List Value} {kw : List (Str × Value)} {Q : Unit → Shared → Prop}
    (hk : builtinKind i = some .method) (hs : splitId i = some (owner, n)) (hi : Looks M s.heap (isInstance self (.type owner)) true) (ha : argsOk i ⟨self :: rest, kw⟩) (q : Q () s) :
    wpAny M A (checkBuiltinCall i ⟨self :: rest, kw⟩) Q E s := by
  simp only [checkBuiltinCall, hk, hs]
  refine wpAny_bind (hi.here ?_)
  simp only [Bool.not_true, Bool.false_eq_true, if_false]
  cases hsig : Manifest.signature? i with
  | none => exact wpAny_pure q
  | some sig =>
    simp only [argsOk, hsig] at ha
    have h2 : Bind.checkArgs i sig ⟨self :: rest, kw⟩ = pure () := ha
    show wpAny M A (Bind.checkArgs i sig ⟨self :: rest, kw⟩) Q E s
    rw [h2]; exact wpAny_pure q
section
variable {C : Cfg} {ρ : Rho} {σ : St} {s : Shared} {A : Around} {E : Value → Shared → Prop} {x Cl : Addr} {ox : Obj} {od : Option Obj}
set_option tactic.hygienic false in
theorem call_below {id n T : String} {B : Builtin} {rest : List Value} {Q : Value → Shared → Prop} (X : C.K.In s.heap) (I : W.InstAt s.heap x ox Cl od) (hm : mroIn C.K Cl (.type T) = some true) (hk : builtinKind id = some .method ∨ builtinKind id = some .slot) (hs : splitId id = some (T, n)) (hp : plainId id = true) (hb : entryFor table id = some B)
    (ha : argsOk id ⟨.ref x :: rest, []⟩) (hc : wpAny (model C.prog C.w) A.in1 (B ⟨.ref x :: rest, []⟩) (fun fin s' => ∃ v, fin = .done (.ret v) ∧ Q v s') E s) : wpAny (model C.prog C.w) A (call (.builtin id) (.ref x :: rest)) Q E s := by
  refine wpAny_call (codeAny_call_builtin hp hb ?_)
  have hfin := wpAny_mono hc (Q' := fun fin s' => match fin with
      | .done f => (match (Except.ok f : Result) with | .ok (.ret v) => Q v s' | .ok _ => False | .error e => E e s')
      | .again c' => c'.quiet = true ∧ codeAny (model C.prog C.w) A c' (fun r s' => match r with | .ok (.ret v) => Q v s' | .ok _ => False | .error e => E e s') s')
    (fun fin s' h' => by (refine x1_2 (h') fun v rr1 hv => ?_; clear h'; subst rr1); exact hv) fun uu uu h' => h'
  have L : Looks (model C.prog C.w) s.heap (isInstance (.ref x) (.type T)) true := I.type.andThen (looks_mroIn X hm)
  rcases hk with hk | hk
  · exact check_meth hk hs L ha hfin
  · exact check_slot hk hs L ha hfin
set_option tactic.hygienic false in
theorem nsGet_obj {d : Addr} {o : Obj} {name : Str} {r : Option Value} {M : Model} {Q : Option Value → Shared → Prop} (ho : s.heap.get? d = some o) (e : lookIn name o = some r) (k : Q r s) : wpAny M A (nsGet d name) Q E s := by
  unfold nsGet
  refine wpAny_bind (wpAny_loadPart ho ?_)
  rw [nsLook_of e]
  exact wpAny_pure k
set_option tactic.hygienic false in
theorem getMethod_inst {name : Str} {ga : String} {fv : Value} {tf : Value} {dx : Addr} {o : Obj} {pl : Sem Bool} {Q : Value × List Value → Shared → Prop} (X : C.K.In s.heap) (I : W.InstAt s.heap x ox Cl od) (hd : ox.dict = some dx) (ho : s.heap.get? dx = some o)
    (hga : findIn C.K (.ref Cl) "__getattribute__" = some (some (.builtin ga))) (hcan : (Manifest.canonical ga != "object.__getattribute__") = false) (hgt : findIn C.K (.ref Cl) "__getattr__" = some none)
    (hf : findIn C.K (.ref Cl) name = some (some fv)) (ht : typeIn C.K fv = some tf) (htf : tf = .type "function" ∨ tf = .type "method_descriptor" ∨ tf = .type "wrapper_descriptor") (hn : lookIn name o = some none) (k : Q (fv, [.ref x]) s) :
    wpAny (model C.prog C.w) A (getMethod (.ref x) name pl) Q E s := by
  unfold getMethod
  have sp : ∀ {nm : Str} {r : Option Value}, findIn C.K (.ref Cl) nm = some r → Looks (model C.prog C.w) s.heap (specialOf (.ref x) nm) r := fun e => I.type.andThen (looks_findIn X e)
  refine wpAny_bind ((sp hga).here ?_)
  dsimp only
  rw [hcan, if_neg Bool.false_ne_true]
  refine wpAny_bind ((sp hgt).here ?_)
  rw [if_neg (by simp)]
  refine wpAny_bind ((sp hf).here ?_)
  dsimp only
  refine wpAny_bind ((looks_typeIn X ht).here ?_)
  have : (tf != .type "function" && tf != .type "method_descriptor" && tf != .type "wrapper_descriptor") = false := by rcases htf with rfl | rfl | rfl <;> decide
  rw [this, if_neg Bool.false_ne_true]
  refine wpAny_bind (wpAny_loadPart I.at_ ?_)
  rw [hd]
  refine wpAny_bind (nsGet_obj ho hn ?_)
  exact wpAny_bind (wpAny_rule (wpAny_pure k))
theorem entR_get {h : Heap} {name : Str} : ∀ {r : List (Str × AV)} {es : List DictEntry}, EntR C ρ h r es → match r.lookup name with
    | some y => ∃ v, getL name es = some (some v) ∧ VR C ρ h y v
    | none => getL name es = some none
  | _, _, .nil => rfl
  | _, _, .cons (k := k) (x := y) (v := v) (r := r) (es := es) (t := t) a b => by
    have ih := entR_get (name := name) b
    rw [List.lookup_cons]
    by_cases hk : name = k
    · subst hk
      simp only [beq_self_eq_true]
      refine ⟨v, ?_, a⟩
      unfold getL
      rw [List.find?_cons]
      simp [Value.isStr]
    · rw [beq_false_of_ne hk]
      dsimp only
      have e : getL name (⟨PyData.keyHash C.w.params k, .str k t, v⟩ :: es) = getL name es := by
        unfold getL
        rw [List.find?_cons]
        have : Value.isStr (.str k t) name = false := by
          show (k == name) = false
          exact beq_false_of_ne (Ne.symm hk)
        simp only [this, List.any_cons]
        rfl
      split
      · rename_i y' e'
        rw [e'] at ih
        (refine x1_2 (ih) fun v' h1 h2 => ?_; clear ih)
        exact ⟨v', e.trans h1, h2⟩
      · rename_i e'
        rw [e'] at ih
        exact e.trans ih
set_option tactic.hygienic false in
theorem getAttr_val {name : Str} {v : Value} {expr : Bool} {Q : Value → Shared → Prop} (X : C.K.In s.heap) (I : W.InstAt s.heap x ox Cl od) (hga : findIn C.K (.ref Cl) "__getattribute__" = some (some (.builtin "object.__getattribute__")))
    (hf : findObj C.K Cl od name = some (.value v)) (hh : handedIn v = true) (k : Q v { s with toks := s.toks + 1 }) : wpAny (model C.prog C.w) A (getAttr (.ref x) name expr) Q E s := get_value X I hga hf hh k
set_option tactic.hygienic false in
theorem ga_bind : bindSpecial (.builtin "list.__getattribute__") (.ref x) = pure (.builtin "list.__getattribute__", [.ref x]) := F.slot_list_getattribute.bind _
set_option tactic.hygienic false in
theorem getAttr_list {name : Str} {v : Value} {expr : Bool} {Q : Value → Shared → Prop} (X : C.K.In s.heap) (I : W.InstAt s.heap x ox Cl od) (hga : findIn C.K (.ref Cl) "__getattribute__" = some (some (.builtin "list.__getattribute__"))) (hgt : findIn C.K (.ref Cl) "__getattr__" = some none)
    (hm : mroIn C.K Cl (.type "list") = some true) (hf : findObj C.K Cl od name = some (.value v)) (hh : handedIn v = true) (k : Q v { s with toks := s.toks + 1 }) : wpAny (model C.prog C.w) A (getAttr (.ref x) name expr) Q E s := by
  have L1 := looks_findIn (M := model C.prog C.w) X hga
  have L2 := looks_findIn (M := model C.prog C.w) X hgt
  have L3 := looks_find (M := model C.prog C.w) X I hf
  have L0 := I.type (M := model C.prog C.w)
  obtain ⟨hp, g, d, t, os⟩ := s
  unfold getAttr getAttrBy
  refine wpAny_bind (wpAny_mkText (wpAny_holding (wpAny_bind (L0.at (wpAny_bind (L1.at ?_))))))
  show wpAny _ _ (getAttrByItsOwn _ _ _ _ _ _) _ _ _
  unfold getAttrByItsOwn
  refine wpAny_bind (L2.at ?_)
  refine wpAny_bind (wpAny_attempt (wpAny_holding ?_))
  have e : callGetattribute (.ref x) (.str name t) (.builtin "list.__getattribute__") expr = boundAndCalled (.builtin "list.__getattribute__") (.ref x) (.str name t) := by
    unfold callGetattribute
    rw [if_neg (by simp [onTheHeap])]
  rw [e]
  unfold boundAndCalled
  rw [ga_bind]
  refine wpAny_bind (wpAny_pure ?_)
  refine call_below (s := ⟨hp, g, d, t + 1, os⟩) X I hm (.inr (by decide +kernel)) (n := "__getattribute__") (by decide +kernel) (by decide +kernel) F.entry_list_ga (by unfold argsOk; kernel_rfl) ?_
  refine wpAny_bind (wpAny_pure (wpAny_bind (wpAny_pure (wpAny_bind (L0.at (wpAny_bind (L3.at ?_)))))))
  refine wpAny_pure ⟨_, rfl, ?_⟩
  show wpAny _ _ (handedOut v) _ _ _
  rw [handedOut_of hh]
  exact wpAny_pure k
end
end Mine.Internal
end
section
open PySem PySem.W PyProof.Rows PySem.Calls
namespace Mine.Internal
noncomputable def attrName : Nat → Str
  | 0 => "_maxlen"
  | 1 => "_continuation_ws"
  | 2 => "_continuation_ws_len"
  | 3 => "_splitchars"
  | 4 => "_lines"
  | 5 => "_current_line"
  | _ => "_initial_size"
noncomputable def attrOf (k : Nat) : AO → Option AV
  | .fmt ml cw cwl sp ln ac => ((fmtAttrs ml cw cwl sp ln ac)[k]?).map (·.2)
  | .acc ini _ => gd (k == 6) (.int ini)
  | .list _ => none
  | .ghost => none
  | .gen .. => none
  | .out _ => none
  | .cell .. => none
  | .ext .. => none
set_option tactic.hygienic false in
theorem fmt_lookup {k : Nat} {ml : Int} {cw : Str} {cwl : Int} {sp : Str} {ln ac : Nat} {x : AV} (h : attrOf k (.fmt ml cw cwl sp ln ac) = some x) : (fmtAttrs ml cw cwl sp ln ac).lookup (attrName k) = some x ∧ k < 6 := by
  match k, h with
  | 0, h => cases h; exact ⟨rfl, by decide⟩
  | 1, h => cases h; exact ⟨rfl, by decide⟩
  | 2, h => cases h; exact ⟨rfl, by decide⟩
  | 3, h => cases h; exact ⟨rfl, by decide⟩
  | 4, h => cases h; exact ⟨rfl, by decide⟩
  | 5, h => cases h; exact ⟨rfl, by decide⟩
  | k + 6, h => cases h
set_option tactic.hygienic false in
theorem acc_lookup {k : Nat} {ini : Int} {ps : List (Str × Str)} {x : AV} (h : attrOf k (.acc ini ps) = some x) : (accAttrs ini).lookup (attrName k) = some x ∧ attrName k = "_initial_size" :=
  oG (show gd (k == 6) (AV.int ini) = some x from h) fun hk e => by cases (beq_iff_eq.mp hk : k = 6); exact ⟨congrArg some e, rfl⟩
structure ClsOk (C : Cfg) : Prop where
  vfGa : findIn C.K (.ref C.VF) "__getattribute__" = some (some (.builtin "object.__getattribute__"))
  vfGt : findIn C.K (.ref C.VF) "__getattr__" = some none
  vfDict : hasDictIn C.K C.VF = true
  vfAttr : ∀ k, k < 6 → findIn C.K (.ref C.VF) (attrName k) = some none
  acGa : findIn C.K (.ref C.ACC) "__getattribute__" = some (some (.builtin "list.__getattribute__"))
  acGt : findIn C.K (.ref C.ACC) "__getattr__" = some none
  acDict : hasDictIn C.K C.ACC = true
  acAttr : findIn C.K (.ref C.ACC) "_initial_size" = some none
  acMro : mroIn C.K C.ACC (.type "list") = some true
section
variable {C : Cfg} {ρ : Rho} {σ : St} {s : Shared} {A : Around} {E : Value → Shared → Prop}
set_option tactic.hygienic false in
theorem fmtInst {h : Heap} {a d : Addr} {es : List DictEntry} {n : Nat} (ho : h.get? a = some ⟨.ref C.VF, some d, .plain, #[]⟩) (hd : h.get? d = some (dictOf es n)) : W.InstAt h a ⟨.ref C.VF, some d, .plain, #[]⟩ C.VF (some (dictOf es n)) := ⟨ho, rfl, rfl, hd⟩
set_option tactic.hygienic false in
theorem accInst {h : Heap} {a d : Addr} {es : List DictEntry} {n n' : Nat} {vs : List Value} (ho : h.get? a = some ⟨.ref C.ACC, some d, .seq vs.toArray n, #[]⟩) (hd : h.get? d = some (dictOf es n')) : W.InstAt h a ⟨.ref C.ACC, some d, .seq vs.toArray n, #[]⟩ C.ACC (some (dictOf es n')) := ⟨ho, rfl, rfl, hd⟩
set_option tactic.hygienic false in
theorem vr_handed {h : Heap} {x : AV} {v : Value} (q : VR C ρ h x v) : handedIn v = true := by cases q <;> rfl
set_option tactic.hygienic false in
theorem attr_rel (H : CfgOk C) (HC : ClsOk C) {k : Nat} {x : AV} {l : Nat} {o : AO} {v : Value} {Q : Value → Shared → Prop} (R : Rel C ρ σ s) (q : VR C ρ s.heap (.loc l) v) (hl : σ[l]? = some o) (h : attrOf k o = some x)
    (kk : ∀ w s', Rel C ρ σ s' → Step C [] ρ ρ s.heap s'.heap → VR C ρ s'.heap x w → Q w s') : wpAny (model C.prog C.w) A (getAttr v (attrName k) true) Q E s := by
  have X := R.kin H
  cases o with
  | fmt =>
    refine R.fmt_e hl q fun a d es n uu ho hd he => ?_
    have g := entR_get (name := attrName k) he
    (refine x0_2 (fmt_lookup h) fun h' hk => ?_)
    rw [h'] at g
    exact x1_2 g fun w hw qw => getAttr_val X (fmtInst ho hd) HC.vfGa (findObj_own HC.vfDict (HC.vfAttr k hk) rfl hw) (vr_handed qw) (kk w _ R.toks .refl qw)
  | acc =>
    refine R.acc_e hl q fun a d es n n' vs uu ho hd he hs => ?_
    have g := entR_get (name := attrName k) he
    (refine x0_2 (acc_lookup h) fun h' hk => ?_)
    rw [h'] at g
    rw [hk] at g ⊢
    exact x1_2 g fun w hw qw => getAttr_list X (accInst ho hd) HC.acGa HC.acGt HC.acMro (findObj_own HC.acDict HC.acAttr rfl hw) (vr_handed qw) (kk w _ R.toks .refl qw)
  | _ => exact nomatch h
noncomputable def attrE (k : Nat) (f : EM) : EM := fun lc σ => (f lc σ).bind fun p => p.1.loc?.bind fun l => p.2[l]?.bind fun o => (attrOf k o).map (·, p.2)
set_option tactic.hygienic false in
theorem den_attr {d : Nat} {env : Env} {vars : List Str} {p : Pos} {o : Expr} {n : Str} {f : EM} {k : Nat} (H : CfgOk C) (HC : ClsOk C) (hn : attrName k = n) (D : DenE C d env vars o f) (hb : ∀ nm whole, attributeBase o nm env whole = whole) : DenE C d env vars (.Attribute o n p) (attrE k f) := by
  intro lc σ x σ' hf A Q E s ρ hA R lr kk
  refine oB hf fun y e1 hf => oB hf fun l el hf => oB hf fun ob e2 hf => oM hf fun z hz e3 => ?_
  rw [← hn]
  refine Attribute_any_ (D _ _ _ _ e1 A _ E s ρ hA R lr fun v s₁ ρ₁ R₁ S₁ q₁ => ?_) (by rw [arm_eval_Attribute, hb])
  exact attr_rel H HC R₁ (AV.loc_inv el ▸ q₁) e2 hz fun w s₂ R₂ S₂ q₂ => kfe kk e3 w s₂ ρ₁ R₂ (S₁.trans S₂) q₂
set_option tactic.hygienic false in
theorem kind_loc {x : AV} {k : Nat} (h : kind σ x = k) (hk : 2 < k) : ∃ l o, x.loc? = some l ∧ σ[l]? = some o ∧ kindO o = k := by
  have no : ∀ {n : Nat}, n = k → n ≤ 2 → False := fun e z => Nat.lt_irrefl _ (Nat.lt_of_lt_of_le (e ▸ hk) z)
  cases x with
  | loc l =>
    have h : (σ[l]?.map kindO).getD 0 = k := h
    cases e : σ[l]? with
    | none => rw [e] at h; exact (no h (by decide)).elim
    | some o => rw [e] at h; exact ⟨l, o, rfl, e, h⟩
  | lst => exact (no (n := 2) h (by decide)).elim
  | str => exact (no (n := 1) h (by decide)).elim
  | _ => exact (no (n := 0) h (by decide)).elim
set_option tactic.hygienic false in
theorem kindO_fmt {o : AO} (h : kindO o = 3) : ∃ ml cw cwl sp ln ac, o = .fmt ml cw cwl sp ln ac := by
  cases o with
  | fmt ml cw cwl sp ln ac => exact ⟨ml, cw, cwl, sp, ln, ac, rfl⟩
  | _ => exact absurd h (by dsimp only [kindO]; decide)
set_option tactic.hygienic false in
theorem kindO_acc {o : AO} (h : kindO o = 4) : ∃ ini ps, o = .acc ini ps := by
  cases o with
  | acc ini ps => exact ⟨ini, ps, rfl⟩
  | _ => exact absurd h (by dsimp only [kindO]; decide)
set_option tactic.hygienic false in
theorem getM_fmt (H : CfgOk C) (HC : ClsOk C) {name : Str} {f : Addr} (hf : findIn C.K (.ref C.VF) name = some (some (.ref f))) (ht : typeIn C.K (.ref f) = some (.type "function")) (c : ∀ k, k < 6 → (name == attrName k) = false) : GetM C 3 name (.ref f) := by
  intro A Q E s ρ σ x v pl R q hk kk
  refine x2_3 (kind_loc hk (by decide)) fun l o el hl ko => x6_1 (kindO_fmt ko) fun ml cw cwl sp ln ac eo => ?_
  rw [eo] at hl
  rw [AV.loc_inv el] at q
  clear eo ko hk
  revert kk
  refine R.fmt_e hl q fun a d es n uu ho hd he kk => ?_
  have g := entR_get (name := name) he
  have e : (fmtAttrs ml cw cwl sp ln ac).lookup name = none := by
    unfold fmtAttrs
    have c0 : (name == ("_maxlen" : Str)) = false := c 0 (by decide)
    have c1 : (name == ("_continuation_ws" : Str)) = false := c 1 (by decide)
    have c2 : (name == ("_continuation_ws_len" : Str)) = false := c 2 (by decide)
    have c3 : (name == ("_splitchars" : Str)) = false := c 3 (by decide)
    have c4 : (name == ("_lines" : Str)) = false := c 4 (by decide)
    have c5 : (name == ("_current_line" : Str)) = false := c 5 (by decide)
    simp only [List.lookup_cons, c0, c1, c2, c3, c4, c5, List.lookup_nil]
  rw [e] at g
  exact getMethod_inst (R.kin H) (fmtInst ho hd) rfl hd HC.vfGa (by decide +kernel) HC.vfGt hf ht (.inl rfl) g kk
set_option tactic.hygienic false in
theorem getM_acc (H : CfgOk C) (HC : ClsOk C) {name : Str} {fv tf : Value} (hf : findIn C.K (.ref C.ACC) name = some (some fv)) (ht : typeIn C.K fv = some tf) (htf : tf = .type "function" ∨ tf = .type "method_descriptor" ∨ tf = .type "wrapper_descriptor") (hn : (name == ("_initial_size" : Str)) = false) : GetM C 4 name fv := by
  intro A Q E s ρ σ x v pl R q hk kk
  refine x2_3 (kind_loc hk (by decide)) fun l o el hl ko => x2_1 (kindO_acc ko) fun ini ps eo => ?_
  rw [eo] at hl
  rw [AV.loc_inv el] at q
  clear eo ko hk
  revert kk
  refine R.acc_e hl q fun a d es n n' vs uu ho hd he hs kk => ?_
  have g := entR_get (name := name) he
  have e : (accAttrs ini).lookup name = none := by
    unfold accAttrs
    rw [List.lookup_cons, hn]
    rfl
  rw [e] at g
  exact getMethod_inst (R.kin H) (accInst ho hd) rfl hd HC.acGa (by decide +kernel) HC.acGt hf ht htf g kk
end
end Mine.Internal
end
section
open PySem PySem.W PyProof.Rows PySem.Calls
namespace Mine.Internal
section
variable {C : Cfg} {ρ : Rho} {σ : St} {s : Shared} {A : Around} {E : Value → Shared → Prop}
set_option tactic.hygienic false in
theorem stepMut {a : Addr} {h h' : Heap} (hm : Mut C ρ a) (hs : Heap.SameBut a h h') : Step C [] ρ ρ h h' :=
  ⟨by rw [hs.1]; exact Nat.le_refl _, fun b o e n uu => (hs.2 b fun z => n (z ▸ hm)).trans e, [], by simp, fun uu hp => nomatch hp⟩
set_option tactic.hygienic false in
theorem dis_of (R : Rel C ρ σ s) {l l' : Nat} {p q : Addr × Addr} (hl : ρ[l]? = some p) (hl' : ρ[l']? = some q) (hne : l ≠ l') : p.1 ≠ q.1 ∧ p.1 ≠ q.2 ∧ p.2 ≠ q.1 ∧ p.2 ≠ q.2 := by
  obtain ⟨h1, e1⟩ := List.getElem?_eq_some_iff.mp hl
  obtain ⟨h2, e2⟩ := List.getElem?_eq_some_iff.mp hl'
  have D := List.pairwise_iff_getElem.mp R.dis
  rcases Nat.lt_or_gt_of_ne hne with h | h
  · have := D l l' h1 h2 h; rw [e1, e2] at this; exact this
  · have := D l' l h2 h1 h; rw [e1, e2] at this; exact ⟨this.1.symm, this.2.2.1.symm, this.2.1.symm, this.2.2.2.symm⟩
set_option tactic.hygienic false in
theorem ObjR.noFields {h : Heap} {p : Addr × Addr} {o : AO} {a : Addr} (z : ObjR C ρ h p o) (ha : p.1 = a ∨ p.2 = a) : ∃ ob, h.get? a = some ob ∧ ((∀ vs, ob.data ≠ .fields vs) ∨ ob.cls = .type "generator") := by
  have at_ : ∀ {b : Addr} {ob : Obj}, b = a → h.get? b = some ob → ((∀ vs, ob.data ≠ .fields vs) ∨ ob.cls = .type "generator") → ∃ ob, h.get? a = some ob ∧ ((∀ vs, ob.data ≠ .fields vs) ∨ ob.cls = .type "generator") := fun e ho z => ⟨_, e ▸ ho, z⟩
  have nf : ∀ {ob : Obj} {d : Data}, ob.data = d → (∀ vs, d ≠ .fields vs) → ((∀ vs, ob.data ≠ .fields vs) ∨ ob.cls = .type "generator") := fun e z => .inl fun vs y => z vs (e.symm.trans y)
  cases o with
  | list => exact x2_3 z fun vs n e h1 uu => at_ (ha.elim id fun z => e.symm.trans z) h1 (nf rfl fun uu => Data.noConfusion)
  | fmt => exact x2_3 z fun es n h1 h2 uu => ha.elim (fun e => at_ e h1 (nf rfl fun uu => Data.noConfusion)) fun e => at_ e h2 (nf rfl fun uu => Data.noConfusion)
  | acc => exact x4_4 z fun es n n' vs h1 h2 uu uu => ha.elim (fun e => at_ e h1 (nf rfl fun uu => Data.noConfusion)) fun e => at_ e h2 (nf rfl fun uu => Data.noConfusion)
  | ghost => exact x3_2 z fun x y n e h1 => at_ (ha.elim id fun z => e.symm.trans z) h1 (nf rfl fun uu => Data.noConfusion)
  | out => exact x2_2 z fun nm qn e h1 => at_ (ha.elim id fun z => e.symm.trans z) h1 (.inr rfl)
  | gen => exact x3_2 z fun n nm qn h1 hL => ha.elim (fun e => at_ e h1 (.inr rfl)) fun e => x2_2 hL.self fun mm q hn uu => x3_3 hn fun o es ep ho hd uu => at_ e ho (nf hd fun uu => Data.noConfusion)
  | cell c x =>
    refine x0_2 z fun e z => ?_
    have ec : c = a := ha.elim (fun q => (congrArg (·.1) e).symm.trans q) fun q => (congrArg (·.2) e).symm.trans q
    have cl : ∀ {v : Option Value}, h.IsCell c v → ∃ ob, h.get? a = some ob ∧ ((∀ vs, ob.data ≠ .fields vs) ∨ ob.cls = .type "generator") := fun q => x1_2 q fun ob ho hd => at_ ec ho (nf hd fun uu => Data.noConfusion)
    cases x with
    | none => exact cl z
    | some y => exact x1_2 z fun v q uu => cl q
  | ext => exact let ⟨o1, o2, _, a, b, n1, n2, _⟩ := z; ha.elim (fun e => at_ e a n1) fun e => at_ e b n2
set_option tactic.hygienic false in
theorem Rel.upd (R : Rel C ρ σ s) {l : Nat} {p : Addr × Addr} {o' : AO} {a : Addr} {h' : Heap} {n : Nat} (hl : ρ[l]? = some p) (ha : p.1 = a ∨ p.2 = a) (hs : Heap.SameBut a s.heap h') (ho' : ObjR C ρ h' p o') (ng : o'.isGen = false) :
    Rel C ρ (σ.set l o') { s with heap := h', toks := n } ∧ Step C [] ρ ρ s.heap h' := by
  have hmem := List.mem_of_getElem? hl
  have hm : Mut C ρ a := .inr ⟨p, hmem, ha⟩
  have S : Step C [] ρ ρ s.heap h' := stepMut hm hs
  have hlo : C.s₁.heap.objs.size ≤ a := by rcases ha with rfl | rfl; exact (R.lo p hmem).1; exact (R.lo p hmem).2
  have tabLt : ∀ t ∈ C.tabs, t.1 ≠ a ∧ t.2.1 ≠ a := fun t ht => by
    obtain ⟨_, _, ⟨⟨o, vs, ho, hc, hd, _⟩, hP⟩⟩ := R.tab t ht
    have q : l < σ.length := R.len ▸ (List.getElem?_eq_some_iff.mp hl).1
    (refine x1_2 ((R.st l p σ[l] hl (List.getElem?_eq_getElem q)).noFields ha) fun ob hob hn => ?_)
    constructor
    · rintro rfl
      rw [hob] at ho; cases ho
      exact hn.elim (fun hn => hn _ hd) fun hn => by rw [hc] at hn; exact absurd hn (by decide)
    · rintro rfl
      rw [hob] at hP; cases hP
      exact hn.elim (fun hn => hn _ rfl) fun hn => absurd (show Value.none = .type "generator" from hn) (by decide)
  have gk : ∀ (l' : Nat) (p' : Addr × Addr) (x : AO), ρ[l']? = some p' → (σ.set l o')[l']? = some x → x.isGen = true → ∀ o, s.heap.get? p'.1 = some o → h'.get? p'.1 = some o := by
    intro l' p' x e e' hx o ho
    have hll : l ≠ l' := by
      rintro rfl
      rw [List.getElem?_set_self (by exact R.len ▸ (List.getElem?_eq_some_iff.mp hl).1)] at e'
      cases e'; rw [hx] at ng; cases ng
    have d := dis_of R hl e hll
    refine (hs.2 _ ?_).trans ho
    rcases ha with rfl | rfl
    · exact d.1.symm
    · exact d.2.2.1.symm
  refine ⟨⟨fun b o e nt => ?_, fun t ht => ?_, R.lo, R.dis, by rw [List.length_set]; exact R.len, fun l' p' o e e' => ?_, (R.gens.set ng).heap gk, R.drawn, R.os, by show _ ≤ h'.objs.size; rw [hs.1]; exact R.size⟩, S⟩
  · exact (hs.2 b (Nat.ne_of_lt (Nat.lt_of_lt_of_le (Heap.lt_size e) hlo))).trans (R.old b o e nt)
  · (refine x1_2 (R.tab t ht) fun more x y => ?_)
    have := tabLt t ht
    exact ⟨more, x.sameBut hs this.1 this.2, y.sameBut hs this.1 this.2⟩
  · by_cases hll : l = l'
    · subst hll
      rw [hl] at e
      rw [List.getElem?_set_self (by exact R.len ▸ (List.getElem?_eq_some_iff.mp hl).1)] at e'
      exact Option.some.inj e ▸ Option.some.inj e' ▸ ho'
    · rw [List.getElem?_set_ne hll] at e'
      have d := dis_of R hl e hll
      have n1 : p'.1 ≠ a := by rcases ha with rfl | rfl; exact d.1.symm; exact d.2.2.1.symm
      have n2 : p'.2 ≠ a := by rcases ha with rfl | rfl; exact d.2.1.symm; exact d.2.2.2.symm
      exact (R.st l' p' o e e').move (fun ob z => (hs.2 _ n1).trans z) (fun ob z => (hs.2 _ n2).trans z) (·.go S) fun uu z => z
set_option tactic.hygienic false in
theorem accNe {h : Heap} {a d : Addr} {vs : List Value} {n n' : Nat} {es : List DictEntry} (ho : h.get? a = some ⟨.ref C.ACC, some d, .seq vs.toArray n, #[]⟩) (hd : h.get? d = some (dictOf es n')) : d ≠ a := by
  rintro rfl
  rw [ho] at hd
  cases hd
set_option tactic.hygienic false in
theorem mapSeq_at {h : Heap} {a : Addr} {c : Value} {d : Option Addr} {items : Array Value} {n : Nat} {sl : Array (Option Value)} (ho : h.get? a = some ⟨c, d, .seq items n, sl⟩) (f : Array Value → Array Value) :
    (h.update a (Obj.mapSeq f)).get? a = some ⟨c, d, .seq (f items) (if (f items).size == items.size then n else n + 1), sl⟩ := Heap.get?_update_self _ ho rfl
set_option tactic.hygienic false in
theorem append_any {a : Addr} {c : Value} {d : Option Addr} {items : Array Value} {n : Nat} {sl : Array (Option Value)} {x : Value} {Q : Fin → Shared → Prop} (ho : s.heap.get? a = some ⟨c, d, .seq items n, sl⟩) (hz : items.size ≤ sizeLine)
    (k : Q (.done (.ret .none)) { s with heap := s.heap.update a (Obj.mapSeq fun xs => xs.push x) }) : wpAny (model C.prog C.w) A (Builtin.«list.append» ⟨[.ref a, x], []⟩) Q E s := by
  obtain ⟨hp, g, dd, tk, os⟩ := s
  have hz' : (items.push x).size ≤ sizeLine + 1 := by rw [Array.size_push]; (first | lia | omega)
  wp_walk using (wpAny_updateSeq ho rfl (hz := hz) (_hz' := hz'))
  exact k
noncomputable def isPart (x : AV) : Option (Str × Str) := x.tup?.bind fun ys => (arg2 ys).bind fun p => p.1.str?.bind fun a => p.2.str?.map fun b => (a, b)
set_option tactic.hygienic false in
theorem isPart_eq {x : AV} {p : Str × Str} (h : isPart x = some p) : x = partAV p := by
  refine oB h fun ys e1 h => oB h fun q e2 h => oB h fun a e3 h => oM h fun b e4 e => ?_
  rw [AV.tup_inv e1, arg2_inv e2, AV.str_inv e3, AV.str_inv e4, ← e]
  rfl
noncomputable def appendF (xs : List AV) (σ : St) : Option (AV × St) := (arg2 xs).bind fun p => p.1.loc?.bind fun l =>
  ((lstAt σ l).bind fun ys => gd (decide (ys.length ≤ sizeLine)) (AV.none, σ.set l (.list (ys ++ [p.2])))).or
  ((accAt σ l).bind fun a => (isPart p.2).bind fun pt => gd (decide (a.2.length ≤ sizeLine)) (AV.none, σ.set l (.acc a.1 (a.2 ++ [pt]))))
set_option tactic.hygienic false in
theorem den_append (H : CfgOk C) (HC : ClsOk C) {d : Nat} : DenCall C (d + 1) (.builtin "list.append") appendF := by
  intro xs σ x σ' hf A Q E s ρ vs hA R q k
  refine oB hf fun pr e1 hf => oB hf fun l e2 hf => ?_
  revert k
  refine q.arg2_e e1 fun w v q1 q2 k => ?_
  have q1 := AV.loc_inv e2 ▸ q1
  refine oO hf (fun hf => oB hf fun ys e hf => oG hf fun hz hf => ?_) fun hf => oB hf fun ac e hf => oB hf fun pt e3 hf => oG hf fun hz hf => ?_
  · refine R.list_e (lstAt_inv e) q1 fun a vs n e0 ho hs => ?_
    have hz' : vs.toArray.size ≤ sizeLine := by rw [List.size_toArray, hs.length]; exact of_decide_eq_true hz
    refine wpAny_call_entry F.slot_list_append (T := "list") ⟨_, ho, rfl⟩ F.entry_list_append (append_any ho hz' ⟨_, rfl, ?_⟩) (F.args_list_append_2 _ _)
    have hsb := Heap.SameBut.update s.heap a (Obj.mapSeq fun xs => xs.push v)
    have S : Step C [] ρ ρ s.heap (s.heap.update a (Obj.mapSeq fun xs => xs.push v)) := stepMut (.inr ⟨_, List.mem_of_getElem? e0, .inl rfl⟩) hsb
    have gt := mapSeq_at ho (fun xs => xs.push v)
    rw [List.push_toArray] at gt
    exact x0_2 (R.upd (n := s.toks) e0 (.inl rfl) hsb (.list gt ((hs.go S).append (.cons (q2.go S) .nil))) rfl) fun R' S' => kfe k hf _ _ _ R' S' .none
  · refine R.acc_e (accAt_inv e) q1 fun a dd es n n' vs e0 ho hd he hs => ?_
    have hz' : vs.toArray.size ≤ sizeLine := by rw [List.size_toArray, hs.length, List.length_map]; exact of_decide_eq_true hz
    refine call_below (R.kin H) (accInst ho hd) HC.acMro (.inl (by decide +kernel)) (n := "append") (by decide +kernel) (by decide +kernel) F.entry_list_append (F.args_list_append_2 _ _) (append_any ho hz' ⟨_, rfl, ?_⟩)
    have hsb := Heap.SameBut.update s.heap a (Obj.mapSeq fun xs => xs.push v)
    have S : Step C [] ρ ρ s.heap (s.heap.update a (Obj.mapSeq fun xs => xs.push v)) := stepMut (.inr ⟨_, List.mem_of_getElem? e0, .inl rfl⟩) hsb
    have gt := mapSeq_at ho (fun xs => xs.push v)
    rw [List.push_toArray] at gt
    rw [isPart_eq e3] at q2
    exact x0_2 (R.upd (n := s.toks) e0 (.inl rfl) hsb (.acc (parts := ac.2 ++ [pt]) gt ((hsb.2 _ (accNe ho hd)).trans hd) (he.go S) (by rw [List.map_append]; exact (hs.go S).append (.cons (q2.go S) .nil))) rfl) fun R' S' => kfe k hf _ _ _ R' S' .none
end
end Mine.Internal
end
section
open PySem PySem.W PyProof.Rows PySem.Calls
namespace Mine.Internal
section
variable {C : Cfg} {s : Shared} {A : Around} {E : Value → Shared → Prop} {x Cl : Addr} {ox : Obj} {od : Option Obj}
set_option tactic.hygienic false in
theorem call_inst {id n T : String} {B : Builtin} {v : Value} {rest : List Value} {Q : Value → Shared → Prop} (L : Looks (model C.prog C.w) s.heap (isInstance v (.type T)) true) (hk : builtinKind id = some .method ∨ builtinKind id = some .slot) (hs : splitId id = some (T, n)) (hp : plainId id = true) (hb : entryFor table id = some B)
    (ha : argsOk id ⟨v :: rest, []⟩) (hc : wpAny (model C.prog C.w) A.in1 (B ⟨v :: rest, []⟩) (fun fin s' => ∃ v, fin = .done (.ret v) ∧ Q v s') E s) : wpAny (model C.prog C.w) A (call (.builtin id) (v :: rest)) Q E s := by
  refine wpAny_call (codeAny_call_builtin hp hb ?_)
  have hfin := wpAny_mono hc (Q' := fun fin s' => match fin with
      | .done f => (match (Except.ok f : Result) with | .ok (.ret v) => Q v s' | .ok _ => False | .error e => E e s')
      | .again c' => c'.quiet = true ∧ codeAny (model C.prog C.w) A c' (fun r s' => match r with | .ok (.ret v) => Q v s' | .ok _ => False | .error e => E e s') s')
    (fun fin s' h' => by (refine x1_2 (h') fun v rr1 hv => ?_; clear h'; subst rr1); exact hv) fun uu uu h' => h'
  rcases hk with hk | hk
  · exact check_meth hk hs L ha hfin
  · exact check_slot hk hs L ha hfin
end
set_option tactic.hygienic false in
theorem own_len : ".".intercalate ("list.__len__".cutAt '.').dropLast = "list" := by decide +kernel
set_option tactic.hygienic false in
theorem own_init : ".".intercalate ("list.__init__".cutAt '.').dropLast = "list" := by decide +kernel
set_option tactic.hygienic false in
theorem own_pop : ".".intercalate ("list.pop".cutAt '.').dropLast = "list" := by decide +kernel
set_option tactic.hygienic false in
theorem told_pop : Manifest.toldItsClass.contains "list.pop" = false := by decide +kernel
set_option tactic.hygienic false in
theorem sig_len (v : Value) : checkBoundCall "list.__len__" ⟨[v], []⟩ = pure () := by kernel_rfl
set_option tactic.hygienic false in
theorem sig_init (v : Value) : checkBoundCall "list.__init__" ⟨[v], []⟩ = pure () := by kernel_rfl
set_option tactic.hygienic false in
theorem sig_pop (v : Value) : (match Manifest.signature? "list.pop" with | some sig => Bind.checkArgs "list.pop" { sig with full := "_Accumulator.pop" } ⟨[v], []⟩ | none => pure ()) = pure () := by kernel_rfl
set_option tactic.hygienic false in
theorem acc_name : (s!"{(Str.ofString "_Accumulator").toString}.{Bind.lastOf "list.pop"}") = "_Accumulator.pop" := by decide +kernel
set_option tactic.hygienic false in
theorem kind_pop : builtinKind "list.pop" = some .method := by decide +kernel
set_option tactic.hygienic false in
theorem va_pop : Manifest.varargsMethods.contains "list.pop" = false := by decide +kernel
structure SupM (id dt get bt : String) (B : Builtin) : Prop where
  ty : ∀ K, typeIn K (.builtin id) = some (.type dt)
  hget : ∀ K, findIn K (.type dt) "__get__" = some (some (.builtin get))
  inst : ∀ K, instIn K (.builtin id) (.type dt) = some true
  kind : builtinKind get = some .slot
  split : splitId get = some (dt, "__get__")
  plain : plainId get = true
  entry : entryFor table get = some B
  args : ∀ a b c : Value, argsOk get ⟨[a, b, c], []⟩
  run : ∀ {M : Model} {A : Around} {h : Heap} {g : Array GenState} {d : Drawn} {t : Nat} {os : OsState} {x C : Addr} {ox : Obj} {Q : Fin → Shared → Prop} {E : Value → Shared → Prop}, h.get? x = some ox → Looks M h (isSubtype ox.cls (.type "list")) true →
    Q (.done (.ret (.ref h.objs.size))) ⟨h.push { cls := .type bt, data := .fields #[.builtin id, .ref x] }, g, d, t, os⟩ → wpAny M A (B ⟨[.builtin id, .ref x, .ref C], []⟩) Q E ⟨h, g, d, t, os⟩
  hbt : bt = "method-wrapper" ∨ bt = "builtin_function_or_method"
set_option tactic.hygienic false in
theorem sup_len : SupM "list.__len__" "wrapper_descriptor" "wrapper_descriptor.__get__" "method-wrapper" Builtin.«wrapper_descriptor.__get__» where
  ty K := by kernel_rfl
  hget K := by kernel_rfl
  inst K := by kernel_rfl
  kind := by decide +kernel
  split := by decide +kernel
  plain := by decide +kernel
  entry := entryFor_of_tree (by kernel_rfl)
  args a b c := by unfold argsOk; kernel_rfl
  run hx L k := by
    unfold Builtin.«wrapper_descriptor.__get__»
    repeat (first | (with_reducible refine wpAny_loadPart_at hx ?_) | (simp only [own_len]; with_reducible refine Looks.at L ?_) | wp_step)
    all_goals exact k
  hbt := .inl rfl
set_option tactic.hygienic false in
theorem sup_init : SupM "list.__init__" "wrapper_descriptor" "wrapper_descriptor.__get__" "method-wrapper" Builtin.«wrapper_descriptor.__get__» where
  ty K := by kernel_rfl
  hget K := by kernel_rfl
  inst K := by kernel_rfl
  kind := by decide +kernel
  split := by decide +kernel
  plain := by decide +kernel
  entry := entryFor_of_tree (by kernel_rfl)
  args a b c := by unfold argsOk; kernel_rfl
  run hx L k := by
    unfold Builtin.«wrapper_descriptor.__get__»
    repeat (first | (with_reducible refine wpAny_loadPart_at hx ?_) | (simp only [own_init]; with_reducible refine Looks.at L ?_) | wp_step)
    all_goals exact k
  hbt := .inl rfl
set_option tactic.hygienic false in
theorem sup_pop : SupM "list.pop" "method_descriptor" "method_descriptor.__get__" "builtin_function_or_method" Builtin.«method_descriptor.__get__» where
  ty K := by kernel_rfl
  hget K := by kernel_rfl
  inst K := by kernel_rfl
  kind := by decide +kernel
  split := by decide +kernel
  plain := by decide +kernel
  entry := entryFor_of_tree (by kernel_rfl)
  args a b c := by unfold argsOk; kernel_rfl
  run hx L k := by
    unfold Builtin.«method_descriptor.__get__»
    repeat (first | (with_reducible refine wpAny_loadPart_at hx ?_) | (simp only [own_pop]; with_reducible refine Looks.at L ?_) | (simp only [told_pop, Bool.false_eq_true, if_false]) | wp_step)
    all_goals exact k
  hbt := .inr rfl
section
variable {C : Cfg} {A : Around} {E : Value → Shared → Prop} {h : Heap} {g : Array GenState} {d : Drawn} {t : Nat} {os : OsState}
set_option tactic.hygienic false in
theorem super_ga {so D x Cl : Addr} {ox : Obj} {l₀ l : List Value} {name : Str} {tk : Tok} {id dt get bt : String} {B : Builtin} {Q : Fin → Shared → Prop} (SM : SupM id dt get bt B)
    (hso : h.get? so = some { cls := .type "super", dict := none, data := .fields #[.ref D, .ref x, .ref Cl], slots := #[] }) (hno : Looks (model C.prog C.w) h (opaqueClassAbove (.ref Cl)) none)
    (hC : Looks (model C.prog C.w) h (mroOf (.ref Cl)) l₀) (hl : (l₀.dropWhile (· != .ref D)).drop 1 = l) (X : C.K.In h) (hx : h.get? x = some ox) (hxc : ox.cls = .ref Cl) (hsub : Looks (model C.prog C.w) h (isSubtype (.ref Cl) (.type "list")) true)
    (hf : alongIn C.K name l = some (some (.builtin id))) (hxC : x ≠ Cl) (hn : (name == ("__class__" : Str)) = false)
    (hq : Q (.done (.ret (.ref h.objs.size))) ⟨h.push { cls := .type bt, data := .fields #[.builtin id, .ref x] }, g, d, t, os⟩) :
    wpAny (model C.prog C.w) A (Builtin.«super.__getattribute__» ⟨[.ref so, .str name tk], []⟩) Q E ⟨h, g, d, t, os⟩ := by
  have hne : (Value.ref x == Value.ref Cl) = false := by simp [hxC]
  have hdt : ({ cls := .type "super", dict := none, data := .fields #[.ref D, .ref x, .ref Cl], slots := #[] } : Obj).data = .fields #[.ref D, .ref x, .ref Cl] := rfl
  have f0 : (#[.ref D, .ref x, .ref Cl] : Array Value)[0]? = some (.ref D) := rfl
  have f1 : (#[.ref D, .ref x, .ref Cl] : Array Value)[1]? = some (.ref x) := rfl
  have f2 : (#[.ref D, .ref x, .ref Cl] : Array Value)[2]? = some (.ref Cl) := rfl
  have L1 := looks_typeIn (M := model C.prog C.w) X (SM.ty C.K)
  have L2 := looks_findIn (M := model C.prog C.w) X (SM.hget C.K)
  have L3 := looks_instIn (M := model C.prog C.w) X (SM.inst C.K)
  have hcall : ∀ {Q' : Value → Shared → Prop} {E' : Value → Shared → Prop}, Q' (.ref h.objs.size) ⟨h.push { cls := .type bt, data := .fields #[.builtin id, .ref x] }, g, d, t, os⟩ → wpAny (model C.prog C.w) A (call (.builtin get) [.builtin id, .ref x, .ref Cl]) Q' E' ⟨h, g, d, t, os⟩ := fun hq' =>
    call_inst (s := ⟨h, g, d, t, os⟩) L3 (.inr SM.kind) SM.split SM.plain SM.entry (SM.args _ _ _) (SM.run hx (by rw [hxc]; exact hsub) ⟨_, rfl, hq'⟩)
  unfold Builtin.«super.__getattribute__»
  repeat (first
    | (with_reducible refine wpAny_field hso hdt f0 ?_) | (with_reducible refine wpAny_field hso hdt f1 ?_) | (with_reducible refine wpAny_field hso hdt f2 ?_)
    | (with_reducible refine ks_wpAny_notOpaque hno ?_)
    | (with_reducible refine Looks.at hC ?_; rw [hl])
    | (refine ks_forIn_along X (fun uu uu => rfl) rfl ?_ hf)
    | (with_reducible refine Looks.at L1 ?_)
    | (with_reducible refine Looks.at L2 ?_)
    | (with_reducible refine hcall ?_)
    | (simp only [hn, hne, Bool.or_false, Bool.false_eq_true, if_false])
    | wp_step
    | dsimp only)
  all_goals exact hq
set_option tactic.hygienic false in
theorem getMethod_super {so D x Cl : Addr} {ox : Obj} {l₀ l : List Value} {name : Str} {id dt get bt : String} {B : Builtin} {pl : Sem Bool} {Q : Value × List Value → Shared → Prop} (SM : SupM id dt get bt B)
    (hso : h.get? so = some { cls := .type "super", dict := none, data := .fields #[.ref D, .ref x, .ref Cl], slots := #[] }) (hno : Looks (model C.prog C.w) h (opaqueClassAbove (.ref Cl)) none)
    (hC : Looks (model C.prog C.w) h (mroOf (.ref Cl)) l₀) (hl : (l₀.dropWhile (· != .ref D)).drop 1 = l) (X : C.K.In h) (hx : h.get? x = some ox) (hxc : ox.cls = .ref Cl) (hsub : Looks (model C.prog C.w) h (isSubtype (.ref Cl) (.type "list")) true)
    (hf : alongIn C.K name l = some (some (.builtin id))) (hxC : x ≠ Cl) (hn : (name == ("__class__" : Str)) = false)
    (hq : Q (.ref h.objs.size, []) ⟨h.push { cls := .type bt, data := .fields #[.builtin id, .ref x] }, g, d, t + 1, os⟩) :
    wpAny (model C.prog C.w) A (getMethod (.ref so) name pl) Q E ⟨h, g, d, t, os⟩ := by
  have hlk := F.ks_slot_super_ga.lookup
  have hcan := F.ks_canon_super_ga
  have hT : ∀ t', (⟨h, g, d, t', os⟩ : Shared).TypeIs (.ref so) "super" := fun uu => ⟨_, hso, rfl⟩
  unfold getMethod
  refine wpAny_bind (wpAny_specialOf (hT _) hlk ?_)
  show wpAny _ _ (if (Manifest.canonical "super.__getattribute__" != "object.__getattribute__") = true then _ else _) _ _ _
  rw [if_pos hcan]
  unfold getAttr getAttrBy
  refine wpAny_bind (wpAny_bind (wpAny_mkText (wpAny_holding (wpAny_bind (wpAny_typeOf (hT _) (wpAny_bind (wpAny_of_eq hlk ?_)))))))
  show wpAny _ _ (getAttrByItsOwn (.ref so) (.str name t) (.type "super") (.builtin "super.__getattribute__") true false) _ _ _
  unfold getAttrByItsOwn hookBefore callGetattribute boundAndCalled
  refine wpAny_bind (wpAny_of_eq (show (if onTheHeap (.type "super") then typeLookup (.type "super") "__getattr__" else pure none) = pure none from rfl) ?_)
  refine wpAny_bind (wpAny_attempt (wpAny_holding ?_))
  show wpAny _ _ (bindSpecial (.builtin "super.__getattribute__") (.ref so) >>= _) _ _ _
  refine wpAny_bind (wpAny_of_eq (F.ks_slot_super_ga.bind _) ?_)
  refine wpAny_mono (Q := fun v s' => v = .ref h.objs.size ∧ s' = ⟨h.push { cls := .type bt, data := .fields #[.builtin id, .ref x] }, g, d, t + 1, os⟩) (E := fun uu uu => False)
    (wpAny_call_entry F.ks_slot_super_ga (hT _) F.ks_entry_super_ga (super_ga SM hso hno hC hl X hx hxc hsub hf hxC hn ⟨_, rfl, rfl, rfl⟩) (F.ks_gaArgs_super _ _)) (fun v s' hv => ?_) fun uu uu z => z.elim
  (refine x0_2 (hv) fun rr0 rr1 => ?_; clear hv; subst rr0; subst rr1)
  exact wpAny_pure (wpAny_pure hq)
set_option tactic.hygienic false in
theorem keep_bound {b : Addr} {bt : String} {fv x : Value} (hbt : bt = "method-wrapper" ∨ bt = "builtin_function_or_method") {h : Heap} (hb : h.get? b = some { cls := .type bt, data := .fields #[fv, x] }) : Looks (model C.prog C.w) h (keeperOf (.ref b)) .machine := by
  unfold keeperOf
  refine (Looks.ld (part := none) hb).andThen ?_
  rcases hbt with rfl | rfl <;> exact .now
set_option tactic.hygienic false in
theorem call_bound {b : Addr} {bt id : String} {x : Value} {B : Builtin} {Q : Value → Shared → Prop} {s : Shared} (hbt : bt = "method-wrapper" ∨ bt = "builtin_function_or_method") (hb : s.heap.get? b = some { cls := .type bt, data := .fields #[.builtin id, x] })
    (hck : ∀ {Q' : Unit → Shared → Prop} {E' : Value → Shared → Prop}, Q' () s → wpAny (model C.prog C.w) A.in1 (checkBoundCall id ⟨[x], []⟩) Q' E' s) (hp : plainId id = true) (he : entryFor table id = some B)
    (hc : wpAny (model C.prog C.w) A.in1 (B ⟨[x], []⟩) (fun fin s' => ∃ v, fin = .done (.ret v) ∧ Q v s') E s) : wpAny (model C.prog C.w) A (call (.ref b) []) Q E s := by
  refine wpAny_call (codeAny_of_tree ?_)
  show wpAny _ A.in1 (callAny (.ref b) ⟨[], []⟩) _ _ _
  unfold callAny
  refine wpAny_bind (wpAny_load hb ?_)
  dsimp only
  have e1 : (((Value.type bt == .type "method") || (Value.type bt == .type "builtin_function_or_method")) || (Value.type bt == .type "method-wrapper")) = true := by rcases hbt with rfl | rfl <;> decide
  have e2 : (Value.type bt != .type "method") = true := by rcases hbt with rfl | rfl <;> decide
  rw [e1, if_pos rfl]
  show wpAny _ _ (if (Value.type bt != .type "method") = true then _ else _) _ _ _
  rw [e2, if_pos rfl]
  refine wpAny_bind (hck ?_)
  refine wpAny_bind (wpAny_pure (wpAny_pure ⟨plainId_quiet hp _, codeAny_builtin he ?_⟩))
  rw [Around.under_plainId hp]
  refine wpAny_mono hc (fun fin s' h' => ?_) fun uu uu h' => h'
  (refine x1_2 (h') fun v rr1 hv => ?_; clear h'; subst rr1)
  exact hv
theorem ck_pop {x Cl : Addr} {ox : Obj} {od : Option Obj} {cd : ClassData} {Q : Unit → Shared → Prop} (X : C.K.In h) (I : W.InstAt h x ox Cl od) (hc : clsIn C.K Cl = some cd) (hq : cd.qualname = "_Accumulator") (ht : typeIn C.K (.ref Cl) = some (.type "type")) (hm : mroIn C.K Cl (.type "module") = some false)
    (k : Q () ⟨h, g, d, t, os⟩) : wpAny (model C.prog C.w) A (checkBoundCall "list.pop" ⟨[.ref x], []⟩) Q E ⟨h, g, d, t, os⟩ := by
  have L0 := I.type (M := model C.prog C.w)
  have L1 : Looks (model C.prog C.w) h (isInstance (.ref x) (.type "module")) false := I.type.andThen (looks_mroIn X hm)
  have L2 := looks_clsIn (M := model C.prog C.w) X hc
  have L3 := looks_typeIn (M := model C.prog C.w) X ht
  have hnc : ∀ c, ox.data ≠ .cls c := fun c e => by have := I.no; unfold notCls at this; rw [e] at this; cases this
  unfold checkBoundCall
  have sp := sig_pop (.ref x)
  split
  · rename_i sig hs
    rw [hs] at sp
    dsimp only at sp
    rw [kind_pop]
    dsimp only
    show wpAny _ _ (do let ofModule ← isInstance (.ref x) (.type "module"); _) _ _ _
    refine wpAny_bind (Looks.at L1 ?_)
    rw [va_pop]
    refine wpAny_bind (ks_wpAny_isType_inst I.at_ hnc ?_)
    rw [if_neg Bool.false_ne_true]
    refine wpAny_bind (Looks.at L0 ?_)
    dsimp only
    refine wpAny_bind (Looks.at L2 ?_)
    refine wpAny_bind (Looks.at L3 ?_)
    rw [if_pos (by decide), hq]
    rw [show (toString (Str.ofString "_Accumulator").toString ++ toString "." ++ toString (Bind.lastOf "list.pop")) = "_Accumulator.pop" from acc_name]
    rw [sp]
    exact wpAny_pure k
  · exact wpAny_pure k
end
end Mine.Internal
end
section
open PySem PySem.W PyProof.Rows PySem.Calls
namespace Mine.Internal
noncomputable def DenSAt (C : Cfg) (d : Nat) (env : Env) (vars : List Str) (body : List Stmt) (st : Stmt) (f : SM) : Prop :=
  ∀ lc σ fl lc' σ', f lc σ = some (fl, lc', σ') → ∀ (A : Around) (Q : Flow → Shared → Prop) (E : Value → Shared → Prop) (s : Shared) (ρ : Rho), AOk d A → Rel C ρ σ s → LcR C ρ s.heap env.locals vars lc →
    (∀ w s' ρ', Rel C ρ' σ' s' → Step C [env.locals] ρ ρ' s.heap s'.heap → LcR C ρ' s'.heap env.locals vars lc' → FlR C ρ' s'.heap fl w → Q w s') → PySem.wpAt (model C.prog C.w) A (.func body env) (exec st env) Q E s
noncomputable def DenBAt (C : Cfg) (d : Nat) (env : Env) (vars : List Str) (body : List Stmt) (b : List Stmt) (f : SM) : Prop :=
  ∀ lc σ fl lc' σ', f lc σ = some (fl, lc', σ') → ∀ (A : Around) (Q : Flow → Shared → Prop) (E : Value → Shared → Prop) (s : Shared) (ρ : Rho), AOk d A → Rel C ρ σ s → LcR C ρ s.heap env.locals vars lc →
    (∀ w s' ρ', Rel C ρ' σ' s' → Step C [env.locals] ρ ρ' s.heap s'.heap → LcR C ρ' s'.heap env.locals vars lc' → FlR C ρ' s'.heap fl w → Q w s') → PySem.wpAt (model C.prog C.w) A (.func body env) (execs b env) Q E s
section
variable {C : Cfg} {d : Nat} {env : Env} {vars : List Str} {body : List Stmt}
set_option tactic.hygienic false in
theorem DenS.at {st : Stmt} {f : SM} (D : DenS C d env vars st f) : DenSAt C d env vars body st f := fun lc σ fl lc' σ' hf A Q E s ρ hA R lr k => wpAt_of_wpAny (D lc σ fl lc' σ' hf A Q E s ρ hA R lr k)
set_option tactic.hygienic false in
theorem DenB.at {b : List Stmt} {f : SM} (D : DenB C d env vars b f) : DenBAt C d env vars body b f := fun lc σ fl lc' σ' hf A Q E s ρ hA R lr k => wpAt_of_wpAny (D lc σ fl lc' σ' hf A Q E s ρ hA R lr k)
theorem den_consAt {st : Stmt} {r : List Stmt} {f : SM} {fs : List SM} (D1 : DenSAt C d env vars body st f) (D2 : DenBAt C d env vars body r (seqS fs)) : DenBAt C d env vars body (st :: r) (seqS (f :: fs)) := by
  intro lc σ fl lc' σ' hf A Q E s ρ hA R lr kk
  refine ks_wpAt_execs_cons (oB hf fun t e1 hf => D1 _ _ _ _ _ e1 A _ E s ρ hA R lr fun w s₁ ρ₁ R₁ S₁ l₁ q₁ => ?_)
  rcases t with ⟨fl₁, lc₁, σ₁⟩
  have z : some (fl₁, lc₁, σ₁) = some (fl, lc', σ') → Q w s₁ := fun e => kfS kk e w s₁ ρ₁ R₁ S₁ l₁ q₁
  cases q₁ with
  | next => exact D2 _ _ _ _ _ hf A _ E s₁ ρ₁ hA R₁ l₁ fun w s₂ ρ₂ R₂ S₂ l₂ q₂ => kk w s₂ ρ₂ R₂ (S₁.trans S₂) l₂ q₂
  | _ => exact z hf
end
structure SupOk (C : Cfg) (env : Env) (vars : List Str) : Prop where
  ks : env.kindOf "super" = some .globalImplicit
  kc : env.kindOf "__class__" = some .free
  fn : ∃ f of fd ar, env.func = some f ∧ C.K.lookup f = some of ∧ of.data = .func fd ∧ (fd.params.posonlyargs ++ fd.params.args).head? = some ar ∧ vars[0]? = some ar.arg
  code : ∃ cc oc vs file tf, env.code = .ref cc ∧ C.K.lookup cc = some oc ∧ oc.data = .fields vs ∧ vs[2]? = some (.str file tf) ∧ ((C.prog.main.file : Str) == file) = true
  top : (C.prog.main.scope.names.lookup ("super" : Str)).isSome = false
  sup : GlobVal C "super" (.type "super")
  cell : ∃ c oc, env.cells.lookup ("__class__" : Str) = some c ∧ C.K.lookup c = some oc ∧ oc.data = .cell (some (.ref C.ACC))
structure SupCls (C : Cfg) : Prop where
  cls : ∃ cd, clsIn C.K C.ACC = some cd ∧ cd.mro = [.ref C.ACC, .type "list", .type "object"] ∧ cd.qualname = "_Accumulator"
  self : mroIn C.K C.ACC (.ref C.ACC) = some true
  op : nsIn C.K cStatics "thirdparty.any" = some none
  ty : typeIn C.K (.ref C.ACC) = some (.type "type")
  noMod : mroIn C.K C.ACC (.type "module") = some false
section
variable {C : Cfg} {env : Env} {vars : List Str} {ρ : Rho} {σ : St} {s : Shared} {A : Around} {E : Value → Shared → Prop} {body : List Stmt} {lc : Lc}
theorem cls_obj {a : Addr} {cd : ClassData} (h : clsIn C.K a = some cd) : ∃ o, C.K.lookup a = some o ∧ o.data = .cls cd := by
  unfold clsIn at h
  split at h
  · rename_i c e; exact ⟨_, e, congrArg Data.cls (Option.some.inj h)⟩
  · exact ns h
set_option tactic.hygienic false in
theorem accNotCls (H : CfgOk C) (HS : SupCls C) (R : Rel C ρ σ s) {a d : Addr} {vs : List Value} {n : Nat} (ho : s.heap.get? a = some ⟨.ref C.ACC, some d, .seq vs.toArray n, #[]⟩) : a ≠ C.ACC := fun z =>
  x1_3 HS.cls fun cd hc uu uu => x1_2 (cls_obj hc) fun o e ed => by
    have := (R.kin H _ _ e).symm.trans (z ▸ ho)
    rw [Option.some.inj this] at ed
    exact Data.noConfusion ed
set_option tactic.hygienic false in
theorem super_base (H : CfgOk C) (He : EnvOk env vars) (HS : SupCls C) (SO : SupOk C env vars) {attr : Str} {whole : Sem Value} {p0 p1 : Pos} {l : Nat} {ini : Int} {ps : List (Str × Str)} (hat : (attr == ("__class__" : Str)) = false) (R : Rel C ρ σ s) (lr : LcR C ρ s.heap env.locals vars lc) (hself : lc[0]? = some (some (.loc l))) (hl : σ[l]? = some (.acc ini ps))
    {Q : Value → Shared → Prop} (k : ∀ a d h', ρ[l]? = some (a, d) → (∀ b o, s.heap.get? b = some o → h'.get? b = some o) → h'.get? s.heap.objs.size = some { cls := .type "super", dict := none, data := .fields #[.ref C.ACC, .ref a, .ref C.ACC], slots := #[] } → Q (.ref s.heap.objs.size) { s with heap := h' }) :
    PySem.wpAt (model C.prog C.w) A (.func body env) (attributeBase (.Call (.Name "super" p0) [] [] p1) attr env whole) Q E s := by
  have X := R.kin H
  (refine x4_5 (SO.fn) fun f of fd ar e1 e2 e3 e4 e5 => ?_)
  (refine x5_5 (SO.code) fun cc oc vs file tf c1 c2 c3 c4 c5 => ?_)
  (refine x2_3 (SO.cell) fun cl ocl d1 d2 d3 => ?_)
  (refine x1_3 (HS.cls) fun cd hcd hmro hqn => ?_)
  refine ks_wpAt_super_base SO.ks SO.kc hat e1 (X _ _ e2) e3 e4 c1 (X _ _ c2) c3 c4 c5 SO.top ?_
  refine ks_loadName_global He.kind SO.ks ?_
  (refine x1_2 (SO.sup) fun mg hg hv => ?_)
  have hg' : s.heap.Ns env.globals mg := by rw [He.glob]; exact hg.at fun o e => R.old _ _ e H.glob
  have fin : (fun (g : Value) (s₁ : Shared) => g = .type "super" ∧ wpAny (model C.prog C.w) A (loadName env "__class__") (fun cls s₂ => wpAny (model C.prog C.w) A (loadName env ar.arg) (fun self s₃ =>
      wpAny (model C.prog C.w) A (isType cls) (fun b s₄ => b = true ∧ wpAny (model C.prog C.w) A (call (.type "super") [cls, self]) Q E s₄) E s₃) E s₂) E s₁) (.type "super") s := by
    refine ⟨rfl, ?_⟩
    refine wpAny_loadName_free He.kind SO.kc d1 ⟨_, X _ _ d2, d3⟩ ?_
    refine load_name He e5 hself lr fun v qv => ?_
    refine x1_2 (cls_obj hcd) fun oD hD1 hD2 => ?_
    have hD1 := X _ _ hD1
    refine R.acc_e hl qv fun a d es n n' vs e0 ho hd he hs => ?_
    refine ks_wpAny_isType_cls hD1 hD2 ⟨rfl, ks_wpAny_call_super hD1 hD2 ho rfl (fun c e => Data.noConfusion e) (looks_mroIn X HS.self) fun h' g1 g2 => k _ _ h' e0 g2 g1⟩
  rcases hv with hv | ⟨hv, mb, hb, hv'⟩
  · exact loadGlobal_global hg' hv fin
  · exact loadGlobal_builtin hg' hv (by rw [He.blt]; exact hb.at fun o e => R.old _ _ e H.blt) hv' fin
set_option tactic.hygienic false in
theorem super_call (H : CfgOk C) (HC : ClsOk C) (He : EnvOk env vars) (HS : SupCls C) (SO : SupOk C env vars) {attr : Str} {p0 p1 apos p : Pos} {l : Nat} {ini : Int} {ps : List (Str × Str)} {id dt get bt : String} {B B' : Builtin} (SM : SupM id dt get bt B) (hat : (attr == ("__class__" : Str)) = false)
    (hf : alongIn C.K attr [.type "list", .type "object"] = some (some (.builtin id))) (hp : (apos.endLine == p.line) = true) (hpl : plainId id = true) (hen : entryFor table id = some B')
    (R : Rel C ρ σ s) (lr : LcR C ρ s.heap env.locals vars lc) (hself : lc[0]? = some (some (.loc l))) (hl : σ[l]? = some (.acc ini ps))
    (hck : ∀ {h : Heap} {g : Array GenState} {d : Drawn} {t : Nat} {os : OsState} {a dd : Addr} {vs : List Value} {n n' : Nat} {es : List DictEntry} {Q' : Unit → Shared → Prop} {E' : Value → Shared → Prop}, C.K.In h → h.get? a = some ⟨.ref C.ACC, some dd, .seq vs.toArray n, #[]⟩ → h.get? dd = some (dictOf es n') → Q' () ⟨h, g, d, t, os⟩ →
      wpAny (model C.prog C.w) A.in1 (checkBoundCall id ⟨[.ref a], []⟩) Q' E' ⟨h, g, d, t, os⟩)
    {Q : Value → Shared → Prop} (k : ∀ a d s', ρ[l]? = some (a, d) → Rel C ρ σ s' → Step C [] ρ ρ s.heap s'.heap → wpAny (model C.prog C.w) A.in1 (B' ⟨[.ref a], []⟩) (fun fin s'' => ∃ v, fin = .done (.ret v) ∧ Q v s'') E s') :
    PySem.wpAt (model C.prog C.w) A (.func body env) (eval (.Call (.Attribute (.Call (.Name "super" p0) [] [] p1) attr apos) [] [] p) env) Q E s := by
  refine ks_wpAt_MethodCall (pl := do return (← importBound (.Call (.Name "super" p0) [] [] p1) env).getD true) ?_ (by
    rw [arm_eval_Call]
    show (do let ov ← _; standAt apos.atName; methodCall _ attr apos p env ov 0 [] []) = _
    congr 1
    funext ov
    congr 1
    funext _
    unfold methodCall
    have hpos : methodCallPos (methodCallForm 0 [] []) (.Call (.Name "super" p0) [] [] p1) env apos p = pure p := by
      unfold methodCallPos
      rw [hp]; rfl
    rw [hpos]
    rfl)
  refine super_base H He HS SO hat R lr hself hl fun a d h' e0 kp hso => ?_
  have z' : s.heap.objs.size ≤ h'.objs.size := Nat.le_of_lt (Heap.lt_size hso)
  have R' : Rel C ρ σ { s with heap := h' } := R.same kp z' R.gens rfl rfl
  have S' : Step C [] ρ ρ s.heap h' := .same kp z'
  refine R'.acc_at e0 hl fun es n n' vs ho hd he hs => ?_
  have X := R'.kin H
  have I := accInst ho hd
  (refine x1_3 (HS.cls) fun cd hcd hmro hqn => ?_)
  have LM : Looks (model C.prog C.w) h' (mroOf (.ref C.ACC)) cd.mro := (looks_clsIn X hcd).andThen .now
  have hnc := accNotCls H HS R' ho
  have hdrop : ([Value.ref C.ACC, .type "list", .type "object"].dropWhile (· != .ref C.ACC)).drop 1 = [.type "list", .type "object"] := by
    rw [List.dropWhile_cons]
    simp
  rw [hmro] at LM
  refine getMethod_super SM hso (looks_opaque X HS.op) LM hdrop X ho rfl (looks_mroIn X HC.acMro) hf hnc hat ?_
  have hb : (h'.push { cls := .type bt, data := .fields #[.builtin id, .ref a] }).get? h'.objs.size = some { cls := .type bt, data := .fields #[.builtin id, .ref a] } := Heap.get?_push_size _ rfl
  refine callWith_of (P := fun h => h.get? h'.objs.size = some { cls := .type bt, data := .fields #[.builtin id, .ref a] }) rfl (fun h hh => ⟨_, .inr (.inl rfl), keep_bound SM.hbt hh⟩) (evalArgs_nil3 ⟨hb, ?_⟩)
  have R'' := R'.push { cls := .type bt, data := .fields #[.builtin id, .ref a] } (n := s.toks + 1)
  have S'' : Step C [] ρ ρ h' (h'.push { cls := .type bt, data := .fields #[.builtin id, .ref a] }) := .pushObj _
  refine call_bound SM.hbt hb (fun hq' => hck (R''.kin H) (Heap.get?_push_of_some _ ho) (Heap.get?_push_of_some _ hd) hq') hpl hen ?_
  exact k a d _ e0 R'' (S'.trans S'')
noncomputable def partCountS : SM := fun lc σ => (selfL lc).bind fun l => (accAt σ l).map fun a => (.ret (.int a.2.length), lc, σ)
set_option tactic.hygienic false in
theorem den_partCount {d : Nat} (H : CfgOk C) (HC : ClsOk C) (He : EnvOk env vars) (HS : SupCls C) (SO : SupOk C env vars) {p0 p1 apos p pr : Pos} (hf : alongIn C.K "__len__" [.type "list", .type "object"] = some (some (.builtin "list.__len__"))) (hp : (apos.endLine == p.line) = true) :
    DenSAt C d env vars body (.Return (some (.Call (.Attribute (.Call (.Name "super" p0) [] [] p1) "__len__" apos) [] [] p)) pr) partCountS := by
  intro lc σ fl lc' σ' hf' A Q E s ρ hA R lr kk
  refine oB hf' fun l hself hf' => oM hf' fun ac hl e2 => ?_
  have hl := accAt_inv hl
  refine ks_wpAt_Return_some (super_call H HC He HS SO sup_len (by decide) hf hp (by decide +kernel) F.entry_list_len R lr (selfL_inv hself) hl (fun uu uu uu q => by rw [sig_len]; exact wpAny_pure q) fun a dd s' e0 R' S' => ?_)
  refine R'.acc_at e0 hl fun es n n' vs ho hd he hs => ?_
  have e : (vs.toArray.size : Int) = ac.2.length := by rw [List.size_toArray, hs.length, List.length_map]
  show wpAny _ _ (do retInt (← seqSize a)) _ _ s'
  unfold seqSize
  refine wpAny_bind (wpAny_bind (wpAny_load ho (wpAny_pure (wpAny_bind (wpAny_mkInt (wpAny_pure ⟨_, rfl, ?_⟩))))))
  rw [e]
  exact kfs kk e2 _ _ _ R'.toks S'.of_nil (lr.go S') (.ret (.int _ _))
end
end Mine.Internal
end
section
open PySem PySem.W PyProof.Rows PySem.Calls
namespace Mine.Internal
section
variable {C : Cfg} {env : Env} {vars : List Str} {ρ : Rho} {σ : St} {s : Shared} {A : Around} {E : Value → Shared → Prop} {body : List Stmt} {lc : Lc}
set_option tactic.hygienic false in
theorem erased_le {items : Array Value} {k : Nat} : (items.eraseIdxIfInBounds k).size ≤ items.size := by
  unfold Array.eraseIdxIfInBounds
  split
  · rw [Array.size_eraseIdx]; (first | lia | omega)
  · exact Nat.le_refl _
set_option tactic.hygienic false in
theorem sidx {k n : Nat} (h : k < n) : seqIndex? (k : Int) n = some k := by
  unfold seqIndex?
  have : ¬ (k : Int) < 0 := Int.not_lt.mpr (Int.natCast_nonneg k)
  simp [this, h]
set_option tactic.hygienic false in
theorem sidx_last {n : Nat} (h : 0 < n) : seqIndex? (-1) n = some (n - 1) := by
  obtain ⟨m, rfl⟩ : ∃ m, n = m + 1 := ⟨n - 1, (Nat.succ_pred_eq_of_pos h).symm⟩
  show (if (decide (0 ≤ -1 + ((m + 1 : Nat) : Int)) && decide (-1 + ((m + 1 : Nat) : Int) < ((m + 1 : Nat) : Int))) = true then some (-1 + ((m + 1 : Nat) : Int)).toNat else none) = some m
  have e : -1 + ((m + 1 : Nat) : Int) = (m : Int) := by rw [Int.natCast_succ, Int.add_comm, Int.add_assoc]; exact Int.add_zero _
  rw [e, decide_eq_true (Int.natCast_nonneg m), decide_eq_true (Int.ofNat_lt.mpr (Nat.lt_succ_self m))]
  rfl
set_option tactic.hygienic false in
theorem pop_any {a : Addr} {c : Value} {d : Option Addr} {items : Array Value} {n : Nat} {sl : Array (Option Value)} {y : Value} {Q : Fin → Shared → Prop} (ho : s.heap.get? a = some ⟨c, d, .seq items n, sl⟩) (hz : items.size ≤ sizeLine) (hy : items[items.size - 1]? = some y)
    (k : Q (.done (.ret y)) { s with heap := s.heap.update a (Obj.mapSeq fun xs => xs.eraseIdxIfInBounds (items.size - 1)) }) : wpAny (model C.prog C.w) A (Builtin.«list.pop» ⟨[.ref a], []⟩) Q E s := by
  obtain ⟨hp, g, dd, tk, os⟩ := s
  have hpos : 0 < items.size := by
    rcases Nat.eq_zero_or_pos items.size with h0 | h0
    · simp [h0] at hy
    · exact h0
  have hne : ¬ items.isEmpty = true := by
    intro he; have : items.size = 0 := by simpa using he
    (first | lia | omega)
  have hk : seqIndex? (-1) items.size = some (items.size - 1) := by
    exact sidx_last hpos
  wp_walk using wpAny_loadPart' ho
  simp only [hk, hy, Option.bind_some, Option.map_some]
  have hz' : (items.eraseIdxIfInBounds (items.size - 1)).size ≤ sizeLine + 1 := Nat.le_trans (erased_le) (Nat.le_succ_of_le hz)
  wp_walk using (wpAny_updateSeq ho rfl (hz := hz) (_hz' := hz')), wpAny_loadPart' ho
  exact k
set_option tactic.hygienic false in
theorem erase_last {vs : List Value} {y : Value} (hy : vs[vs.length - 1]? = some y) : (vs.toArray.eraseIdxIfInBounds (vs.length - 1)) = (vs.take (vs.length - 1)).toArray := by
  have hl : vs.length - 1 < vs.length := (List.getElem?_eq_some_iff.mp hy).1
  unfold Array.eraseIdxIfInBounds
  rw [dif_pos (by simpa using hl)]
  rw [List.eraseIdx_toArray]
  congr 1
  rw [List.eraseIdx_eq_take_drop_succ]
  rw [show vs.length - 1 + 1 = vs.length by (first | lia | omega)]
  simp
set_option tactic.hygienic false in
theorem parts_get {h : Heap} {ps : List (Str × Str)} {vs : List Value} (hs : VRs C ρ h (ps.map partAV) vs) {i : Nat} {p : Str × Str} (e : ps[i]? = some p) : ∃ v, vs[i]? = some v ∧ VR C ρ h (partAV p) v := hs.get (by rw [List.getElem?_map, e]; rfl)
noncomputable def popS : SM := fun lc σ => (selfL lc).bind fun l => (accAt σ l).bind fun a => a.2.getLast?.bind fun p => gd (decide (a.2.length ≤ sizeLine)) (.ret (partAV p), lc, σ.set l (.acc a.1 a.2.dropLast))
set_option tactic.hygienic false in
theorem den_pop {d : Nat} (H : CfgOk C) (HC : ClsOk C) (He : EnvOk env vars) (HS : SupCls C) (SO : SupOk C env vars) {p0 p1 apos p pr : Pos} (hf : alongIn C.K "pop" [.type "list", .type "object"] = some (some (.builtin "list.pop"))) (hp : (apos.endLine == p.line) = true) :
    DenSAt C d env vars body (.Return (some (.Call (.Attribute (.Call (.Name "super" p0) [] [] p1) "pop" apos) [] [] p)) pr) popS := by
  intro lc σ fl lc' σ' hf' A Q E s ρ hA R lr kk
  refine oB hf' fun l hself hf' => oB hf' fun ac hl hf' => oB hf' fun pt hpt hf' => oG hf' fun hz e2 => ?_
  have hl := accAt_inv hl
  (refine x1_3 (HS.cls) fun cd hcd hmro hqn => ?_)
  refine ks_wpAt_Return_some (super_call H HC He HS SO sup_pop (by decide) hf hp (by decide +kernel) F.entry_list_pop R lr (selfL_inv hself) hl (fun X ho hd q => ck_pop X (accInst ho hd) hcd hqn HS.ty HS.noMod q) fun a dd s' e0 R' S' => ?_)
  refine R'.acc_at e0 hl fun es n n' vs ho hd he hs => ?_
  have hlen : vs.length = ac.2.length := by rw [hs.length, List.length_map]
  rw [List.getLast?_eq_getElem?] at hpt
  (refine x1_2 (parts_get hs hpt) fun y hy qy => ?_)
  rw [← hlen] at hy
  refine pop_any ho (by rw [List.size_toArray, hlen]; exact of_decide_eq_true hz) (by rw [List.size_toArray, List.getElem?_toArray]; exact hy) ⟨_, rfl, ?_⟩
  have hsb := Heap.SameBut.update s'.heap a (Obj.mapSeq fun xs => xs.eraseIdxIfInBounds (vs.toArray.size - 1))
  have S : Step C [] ρ ρ s'.heap (s'.heap.update a (Obj.mapSeq fun xs => xs.eraseIdxIfInBounds (vs.toArray.size - 1))) := stepMut (.inr ⟨_, List.mem_of_getElem? e0, .inl rfl⟩) hsb
  have gt := mapSeq_at ho (fun xs => xs.eraseIdxIfInBounds (vs.toArray.size - 1))
  have ev : vs.toArray.eraseIdxIfInBounds (vs.toArray.size - 1) = (vs.take (ac.2.length - 1)).toArray := by rw [List.size_toArray, erase_last hy, hlen]
  rw [ev] at gt
  have hs' := (hs.go S).take (vs.length - 1)
  rw [hlen, ← List.map_take, ← List.dropLast_eq_take] at hs'
  exact x0_2 (R'.upd (n := s'.toks) e0 (.inl rfl) hsb (.acc gt ((hsb.2 _ (accNe ho hd)).trans hd) (he.go S) hs') rfl) fun R'' S'' => kfs kk e2 _ _ _ R'' (S'.trans S'').of_nil (lr.go (S'.trans S'')) (.ret (qy.go S''))
end
end Mine.Internal
end
section
open PySem PySem.W PyProof.Rows PySem.Calls
namespace Mine.Internal
noncomputable def OldAt (C : Cfg) (s : Shared) : Prop := ∀ b o, C.s₁.heap.get? b = some o → ¬ C.isTab b → s.heap.get? b = some o
structure FnD (C : Cfg) (f : Addr) (vars : List Str) (m : Nat) (dxs : List AV) (dv : List Value) (body : List Stmt) (fd : FuncData) : Prop where
  obj : ∃ o, C.s₁.heap.get? f = some o ∧ o.data = .func fd
  bd : fd.body = .stmts body
  glob : fd.globals = mainGlobals
  blt : fd.builtins = builtinsNs
  bind : ∀ s : Shared, OldAt C s → ∀ vs : List Value, vs.length = m → BindsTo s fd ⟨vs, []⟩ ((vars.take (m + dxs.length)).zip (vs ++ dv))
  dq : ∀ ρ h, VRs C ρ h dxs dv
  notTab : ¬ C.isTab f
  crec : C.s₁.heap.CodeRec fd.code fd.qualname
  codeNo : ∀ c, fd.code = .ref c → ¬ C.isTab c
  coro : fd.scope.isCoroutine = false
  gen : fd.scope.isGenerator = false
  kind : fd.scope.kind = .function
  cells : ∀ x ∈ fd.scope.names, x.2 ≠ .cell
  loc : ∀ x ∈ vars, fd.scope.names.lookup x = some .local
  nodup : vars.Nodup
  n_le : m + dxs.length ≤ vars.length
noncomputable def runB (vars : List Str) (B : SM) (xs : List AV) (σ : St) : Option (AV × St) := (B (lc0 vars xs) σ).bind endF
noncomputable def runD (vars : List Str) (m : Nat) (dxs : List AV) (B : SM) (xs : List AV) (σ : St) : Option (AV × St) := if xs.length = m then runB vars B (xs ++ dxs) σ else none
noncomputable def orF (F G : List AV → St → Option (AV × St)) (xs : List AV) (σ : St) : Option (AV × St) := (F xs σ).or (G xs σ)
set_option tactic.hygienic false in
theorem DenF.or {C : Cfg} {d : Nat} {f : Addr} {F G : List AV → St → Option (AV × St)} (D1 : DenF C d f F) (D2 : DenF C d f G) : DenF C d f (orF F G) := by
  intro xs σ x σ' hf A P s ρ vs hA R q k
  exact oO hf (fun e => D1 xs σ x σ' e A P s ρ vs hA R q k) fun e => D2 xs σ x σ' e A P s ρ vs hA R q k
set_option tactic.hygienic false in
theorem enterD {C : Cfg} {s : Shared} {A : Around} {f : Addr} {vars : List Str} {m : Nat} {dxs : List AV} {dv : List Value} {body : List Stmt} {fd : FuncData} {P : Result → Shared → Prop} (H : FnD C f vars m dxs dv body fd) (hlim : C.s₁.heap.NoLimit) (hst : ¬ C.isTab cStatics) (old : OldAt C s)
    (hroom : A.depth < recursionLimit) {vs : List Value} (hm : vs.length = m)
    (k : ∀ h₁ tk (E' : Value → Shared → Prop), h₁.Ns s.heap.objs.size (fun x => ((vars.take (m + dxs.length)).zip (vs ++ dv)).reverse.lookup x) → (∀ b o, s.heap.get? b = some o → h₁.get? b = some o) → h₁.objs.size = s.heap.objs.size + 1 →
      PySem.wpAt (model C.prog C.w) (A.deeper (envF fd f s.heap.objs.size)) (.func body (envF fd f s.heap.objs.size)) (execs body (envF fd f s.heap.objs.size))
        (fun w s' => P (.ok (.ret (match w with | .ret v => v | _ => .none))) s') E' { s with heap := h₁, toks := tk }) :
    codeAny (model C.prog C.w) A (.call (.ref f) ⟨vs, []⟩) P s := by
  refine x1_2 H.obj fun o ho hd => ?_
  have hcode : s.heap.CodeRec fd.code fd.qualname := x4_4 H.crec fun c o' vs' t e1 e2 e3 e4 => ⟨c, o', vs', t, e1, old c o' e2 (H.codeNo c e1), e3, e4⟩
  refine codeAny_call_function hroom (old f o ho H.notTab) hd H.coro H.gen H.bd hcode ?_
  refine H.bind s old vs hm _ _ _ _ ?_
  refine wpAny_newFunctionEnv H.cells (fun y hy => H.loc y.1 (List.mem_of_mem_take (List.of_mem_zip hy).1)) (fun h₁ hns hsb => ?_) H.kind
  have k₁ : ∀ b o, s.heap.get? b = some o → h₁.get? b = some o := fun b o e => (hsb.2 b (Nat.ne_of_lt (Heap.lt_size e))).trans (Heap.get?_push_of_some _ e)
  refine ⟨x1_2 hlim fun mc a b => ⟨mc, a.at fun o e => k₁ _ _ (old _ _ e hst), b⟩, ?_⟩
  rw [H.glob, H.blt]
  exact ks_codeAny_funcAt (k h₁ _ _ hns k₁ (hsb.1.trans (Heap.size_push ..)))
set_option tactic.hygienic false in
theorem args_at {C : Cfg} {ρ : Rho} {h h' : Heap} {vars : List Str} {xs : List AV} {vs : List Value} (hnd : vars.Nodup) (hle : xs.length ≤ vars.length) (q : VRs C ρ h xs vs) (kv : ∀ {x : AV} {v : Value}, VR C ρ h x v → VR C ρ h' x v) (i : Nat) (y : AV) (e : (lc0 vars xs)[i]? = some (some y)) :
    ∃ n v, vars[i]? = some n ∧ ((vars.take xs.length).zip vs).reverse.lookup n = some v ∧ VR C ρ h' y v := by
  unfold lc0 at e
  by_cases hi : i < xs.length
  · rw [List.getElem?_append_left (by rw [List.length_map]; exact hi), List.getElem?_map] at e
    refine oM e fun y' e1 e2 => x1_2 (q.get e1) fun v ev qv => ?_
    have hv : i < vars.length := Nat.lt_of_lt_of_le hi hle
    have hx : (vars.take xs.length)[i]? = some vars[i] := by rw [List.getElem?_take_of_lt hi, List.getElem?_eq_getElem hv]
    have hnd := hnd.sublist (List.take_sublist xs.length vars)
    refine ⟨vars[i], v, List.getElem?_eq_getElem hv, lookup_rev ?_ (lookup_zip hnd hx ev), Option.some.inj e2 ▸ kv qv⟩
    rw [List.map_fst_zip (by rw [List.length_take, q.length]; exact Nat.min_le_left ..)]
    exact hnd
  · rw [List.getElem?_append_right (by rw [List.length_map]; exact Nat.not_lt.mp hi), List.getElem?_replicate] at e
    exact sf e fun uu e => nomatch e
theorem endF_rel {C : Cfg} {ρ : Rho} {h : Heap} {fl : Fl} {w : Flow} {lc : Lc} {σ₁ σ' : St} {x : AV} (q : FlR C ρ h fl w) (e : endF (fl, lc, σ₁) = some (x, σ')) : VR C ρ h x (match (generalizing := false) w with | .ret v => v | _ => .none) ∧ σ₁ = σ' := by
  cases q with
  | ret a => cases e; exact ⟨a, rfl⟩
  | next => cases e; exact ⟨.none, rfl⟩
  | _ => exact nomatch e
set_option tactic.hygienic false in
theorem denF_ofD {C : Cfg} {d : Nat} {f : Addr} {vars : List Str} {m : Nat} {dxs : List AV} {dv : List Value} {body : List Stmt} {fd : FuncData} {B : SM} (H : FnD C f vars m dxs dv body fd) (hlim : C.s₁.heap.NoLimit) (hst : ¬ C.isTab cStatics)
    (D : ∀ L, DenBAt C d (envF fd f L) vars body body B) : DenF C (d + 1) f (runD vars m dxs B) := by
  intro xs σ x σ' hf A P s ρ vs hA R q k
  refine sf hf fun hn hf => oB hf fun t e1 hf => ?_
  refine enterD H hlim hst R.old (Nat.lt_of_le_of_lt (Nat.le_add_right ..) hA.2.1) (q.length.trans hn) fun h₁ tk E' hns k₁ z₁ => ?_
  have hle : s.heap.objs.size ≤ h₁.objs.size := z₁ ▸ Nat.le_succ _
  have hl : (xs ++ dxs).length = m + dxs.length := by rw [List.length_append, hn]
  have hz : (xs ++ dxs).length ≤ vars.length := hl ▸ H.n_le
  rw [← hl] at hns
  refine D s.heap.objs.size _ _ _ _ _ e1 _ _ _ _ ρ hA.deeper (R.same k₁ hle R.gens rfl rfl)
    ⟨⟨_, hns, args_at H.nodup hz (q.append (H.dq ρ s.heap)) (·.go (.same k₁ hle))⟩, R.fresh, R.size, by unfold lc0; rw [List.length_append, List.length_map, List.length_replicate]; exact Nat.add_sub_cancel' hz⟩ fun w s' ρ' R' S' l' q' => ?_
  refine x0_2 (endF_rel q' hf) fun qx eσ => k _ s' ρ' (eσ ▸ R') ?_ qx
  exact ⟨Nat.le_trans hle S'.size, fun b o e nm uu => S'.keep b o (k₁ b o e) nm (by rw [List.mem_singleton]; exact Nat.ne_of_lt (Heap.lt_size e)), x1_2 S'.grow fun δ e hδ => ⟨δ, e, fun p hp => ⟨Nat.le_trans hle (hδ p hp).1, Nat.le_trans hle (hδ p hp).2⟩⟩⟩
set_option tactic.hygienic false in
theorem runD_runF {vars : List Str} {n : Nat} {B : SM} : runD vars n [] B = runF vars n B := by
  funext xs σ
  unfold runD runF runB
  rw [List.append_nil]
end Mine.Internal
end
section
open PySem PySem.W PyProof.Rows PySem.Calls
namespace Mine.Internal
structure AccOk (C : Cfg) : Prop where
  iter : findIn C.K (.ref C.ACC) "__iter__" = some (some (.builtin "list.__iter__"))
  gi : findIn C.K (.ref C.ACC) "__getitem__" = some (some (.builtin "list.__getitem__"))
  si : findIn C.K (.ref C.ACC) "__setitem__" = some (some (.builtin "list.__setitem__"))
section
variable {C : Cfg} {ρ : Rho} {σ : St} {s : Shared} {A : Around} {E : Value → Shared → Prop} {x Cl : Addr} {ox : Obj} {od : Option Obj}
set_option tactic.hygienic false in
theorem below_iter {Q : Value → Shared → Prop} (X : C.K.In s.heap) (I : W.InstAt s.heap x ox Cl od) (hm : mroIn C.K Cl (.type "list") = some true) (hs : findIn C.K (.ref Cl) "__iter__" = some (some (.builtin "list.__iter__")))
    (hQ : Q (.ref s.heap.objs.size) { s with heap := s.heap.push { cls := .type "list_iterator", data := .fields #[.ref x, .int 0 0] } }) : wpAny (model C.prog C.w) A (pyIter (.ref x)) Q E s := by
  have sp : ∀ {nm : Str} {r : Option Value}, findIn C.K (.ref Cl) nm = some r → Looks (model C.prog C.w) s.heap (specialOf (.ref x) nm) r := fun e => I.type.andThen (looks_findIn X e)
  have hc : wpAny (model C.prog C.w) A (call (.builtin "list.__iter__") [.ref x]) (fun v s' => v = .ref s.heap.objs.size ∧ s' = { s with heap := s.heap.push { cls := .type "list_iterator", data := .fields #[.ref x, .int 0 0] } }) E s := by
    refine call_below X I hm (.inr (by decide +kernel)) (n := "__iter__") (by decide +kernel) (by decide +kernel) entry_list_iter (args_list_iter _) ?_
    show wpAny _ _ (do ret (← newFields "list_iterator" [.ref x, rawInt 0])) _ _ s
    exact wpAny_bind (wpAny_newObj_type (wpAny_pure ⟨_, rfl, rfl, rfl⟩))
  have one : ∀ refuse : Sem Value, wpAny (model C.prog C.w) A (callSpecialIfBoundUnlessNone? (.ref x) "__iter__" refuse) (fun r s' => r = some (.ref s.heap.objs.size) ∧ s' = { s with heap := s.heap.push { cls := .type "list_iterator", data := .fields #[.ref x, .int 0 0] } }) E s := by
    intro refuse
    simp only [callSpecialIfBoundUnlessNone?, bindSpecialIfBound?]
    refine wpAny_holding (wpAny_bind (wpAny_bind ((sp hs).here ?_)))
    simp only [slot_list_iter.bind]
    refine wpAny_bind (wpAny_askSetting (wpAny_ite ?_))
    have fin : wpAny (model C.prog C.w) A (if (Value.builtin "list.__iter__" == Value.none) = true then (refuse >>= fun v => pure (some v)) else (call (.builtin "list.__iter__") [.ref x] >>= fun v => pure (some v)))
        (fun r s' => r = some (.ref s.heap.objs.size) ∧ s' = { s with heap := s.heap.push { cls := .type "list_iterator", data := .fields #[.ref x, .int 0 0] } }) E s := by
      simp only [builtin_beq_none, Bool.false_eq_true, if_false]
      exact wpAny_bind (wpAny_mono hc (fun v s' h' => wpAny_pure ⟨by rw [h'.1], h'.2⟩) fun uu uu h' => h')
    split
    · exact wpAny_bind (wpAny_pure (wpAny_pure fin))
    · exact wpAny_tryCatch (wpAny_bind (wpAny_pure (wpAny_pure fin)))
  unfold pyIter
  refine wpAny_bind ((sp hs).here ?_)
  show wpAny _ A (callSpecialIfBoundUnlessNone? (.ref x) "__iter__" _ >>= _) Q E s
  refine wpAny_bind (wpAny_mono (one _) (fun r s' hr => ?_) fun uu uu z => z)
  (refine x0_2 (hr) fun rr0 rr1 => ?_; clear hr; subst rr0; subst rr1)
  exact wpAny_bind (wpAny_specialOf (T := "list_iterator") ⟨_, Heap.get?_push_size _ rfl, rfl⟩ slot_listiter_next.lookup (wpAny_pure hQ))
noncomputable def SeqObj (h : Heap) (a : Addr) (items : Array Value) : Prop := ∃ o n, h.get? a = some o ∧ o.data = .seq items n
set_option tactic.hygienic false in
theorem SeqObj.at {h h' : Heap} {a : Addr} {items : Array Value} (x : SeqObj h a items) (k : ∀ o, h.get? a = some o → h'.get? a = some o) : SeqObj h' a items := let ⟨o, n, e, d⟩ := x; ⟨o, n, k o e, d⟩
set_option tactic.hygienic false in
theorem next_item {it l : Addr} {i : Nat} {items} {x : Value} {Q : Option Value → Shared → Prop} (hit : s.heap.IsListIter it l i) (hl : SeqObj s.heap l items) (hx : items[i]? = some x)
    (hQ : ∀ h', h'.IsListIter it l (i + 1) → Heap.SameBut it s.heap h' → Q (some x) { s with heap := h' }) : wpAny (model C.prog C.w) A (pyNext (.ref it)) Q E s := by
  (refine x1_3 (id hit) fun o ho hc hd => ?_)
  (refine x2_2 (hl) fun ol nl hol hdl => ?_; clear hl)
  unfold pyNext
  refine wpAny_bind (wpAny_attempt (wpAny_callSpecial?_slot (name := Str.ofString "__next__") hit.typeIs slot_listiter_next
    (wpAny_call_entry slot_listiter_next hit.typeIs entry_listiter_next ?_ (args_listiter_next _))))
  show wpAny _ _ (field (.ref it) 0 >>= _) _ _ s
  refine wpAny_bind (wpAny_field ho hd (x := .ref l) rfl ?_)
  show wpAny _ _ (if (Value.ref l == Value.none) = true then _ else _) _ _ s
  rw [if_neg (show ¬ ((Value.ref l == Value.none) = true) from Bool.false_ne_true)]
  show wpAny _ _ (field (.ref it) 1 >>= _) _ _ s
  refine wpAny_bind (wpAny_field ho hd (x := .int i 0) rfl ?_)
  show wpAny _ _ (seqItems? (.ref l) >>= _) _ _ s
  refine wpAny_bind (wpAny_seqItems hol hdl ?_)
  simp only [Int.toNat_natCast, hx]
  refine wpAny_bind (wpAny_setField ho hd (by simp) (wpAny_pure ⟨x, rfl, wpAny_pure (hQ _ ?_ (Heap.SameBut.update ..))⟩))
  exact ⟨_, Heap.get?_update_self _ ho (Obj.isFreed_of_fields (Obj.data_mapFields hd _)), (Obj.cls_mapFields ..).trans hc, by
    rw [Obj.data_mapFields hd]; simp [rawInt]⟩
set_option tactic.hygienic false in
theorem stop_iter {h : Heap} {it : Addr} {o : Obj} {fs : Array Value} {g : Array GenState} {dr : Drawn} {t : Nat} {os : OsState} {Q : Option Value → Shared → Prop} (hh : A.handled = none) (ho : h.get? it = some o) (hd : o.data = .fields fs) (h0 : 0 < fs.size) (r : String)
    (hQ : ∀ h', Heap.ExtBut it h h' → h.objs.size ≤ h'.objs.size → Q none ⟨h', g, dr, t, os⟩) :
    wpAny (model C.prog C.w) A.in1 (do rule r; setField (.ref it) 0 .none; raiseNew (← newExc (.type "StopIteration") [])) (fun fin s' => ∃ v, fin = Fin.done (.ret v) ∧ wpAny (model C.prog C.w) A (pure (some v) : Sem (Option Value)) Q E s')
      (fun e s' => wpAny (model C.prog C.w) A (do if ← isInstance e (.type "StopIteration") then pure none else throw e) Q E s') ⟨h, g, dr, t, os⟩ := by
  refine wpAny_bind (wpAny_rule (wpAny_bind (wpAny_setField ho hd h0 ?_)))
  show wpAny _ _ (newExc (.type "StopIteration") [] >>= _) _ _ _
  refine wpAny_bind ?_
  simp only [newExc, newTuple]
  refine wpAny_bind (wpAny_newObj_type ?_ (by size_fits))
  refine wpAny_bind (m := firstArgMember _ _) (wpAny_of_eq (a := Value.none) (by first | rfl | (simp only [firstArgMember]; rfl)) ?_)
  refine wpAny_newObj_type ?_ (by size_fits)
  simp only [raiseNew]
  refine wpAny_bind (wpAny_handled ?_)
  rw [show A.in1.handled = none from hh]
  refine wpAny_bind (wpAny_pure (wpAny_throw ?_))
  refine wpAny_bind (wpAny_isInstance (T := "StopIteration") (b := true) ⟨_, Heap.get?_push_size _ rfl, rfl⟩ isSubtype_stop ?_)
  refine wpAny_pure (hQ _ (((Heap.SameBut.update ..).extBut.push _).push _) ?_)
  rw [Heap.size_push, Heap.size_push, Heap.size_after_update]
  (first | lia | omega)
set_option tactic.hygienic false in
theorem list_end {it l : Addr} {i : Nat} {items} {Q : Option Value → Shared → Prop} (hh : A.handled = none) (hit : s.heap.IsListIter it l i) (hl : SeqObj s.heap l items) (hx : items[i]? = none)
    (hQ : ∀ h', Heap.ExtBut it s.heap h' → s.heap.objs.size ≤ h'.objs.size → Q none { s with heap := h' }) : wpAny (model C.prog C.w) A (pyNext (.ref it)) Q E s := by
  refine x1_3 (id hit) fun o ho hc hd => x2_2 hl fun ol nl hol hdl => ?_
  unfold pyNext
  refine wpAny_bind (wpAny_attempt (wpAny_callSpecial?_slot (name := Str.ofString "__next__") hit.typeIs slot_listiter_next
    (wpAny_call_entry slot_listiter_next hit.typeIs entry_listiter_next ?_ (args_listiter_next _))))
  show wpAny _ _ (field (.ref it) 0 >>= _) _ _ s
  refine wpAny_bind (wpAny_field ho hd (x := .ref l) rfl ?_)
  show wpAny _ _ (if (Value.ref l == Value.none) = true then _ else _) _ _ s
  rw [if_neg (show ¬ ((Value.ref l == Value.none) = true) from Bool.false_ne_true)]
  show wpAny _ _ (field (.ref it) 1 >>= _) _ _ s
  refine wpAny_bind (wpAny_field ho hd (x := .int i 0) rfl ?_)
  show wpAny _ _ (seqItems? (.ref l) >>= _) _ _ s
  refine wpAny_bind (wpAny_seqItems hol hdl ?_)
  simp only [Int.toNat_natCast, hx]
  exact stop_iter hh ho hd (by simp) _ hQ
set_option tactic.hygienic false in
theorem next_end {it l : Addr} {i : Nat} {items} {Q : Option Value → Shared → Prop} (hh : A.handled = none) (hit : s.heap.IsListIter it l i) (hl : SeqObj s.heap l items) (hx : items[i]? = none)
    (hQ : ∀ h', Heap.ExtBut it s.heap h' → Q none { s with heap := h' }) : wpAny (model C.prog C.w) A (pyNext (.ref it)) Q E s := list_end hh hit hl hx fun h' e uu => hQ h' e
set_option tactic.hygienic false in
theorem walkPairs (hh : A.handled = none) (I ax : Addr) (hne : ax ≠ I) (items : Array Value) (Ts : Nat → Addr) (vals : Nat → Array Value)
    (hit : ∀ j, j < items.size → items[j]? = some (.ref (Ts j))) (hTI : ∀ j, j < items.size → Ts j ≠ I) :
    WalksU C.prog C.w A I (I :: ax :: (List.range items.size).map Ts) [I] items.size (fun j v => j < items.size ∧ v = vals j)
      (fun j h => h.IsListIter I ax j ∧ SeqObj h ax items ∧ ∀ k, k < items.size → h.IsTuple (Ts k) (vals k))
      (fun j T h => (j < items.size ∧ T = Ts j) ∧ h.IsListIter I ax (j + 1) ∧ SeqObj h ax items ∧ ∀ k, k < items.size → h.IsTuple (Ts k) (vals k)) where
  sub := fun b hb => by simp at hb; simp [hb]
  frame := fun uu uu uu st hk => ⟨st.1.at fun o e => hk I (by simp) o e, st.2.1.at fun o e => hk ax (by simp) o e,
    fun k hk' => (st.2.2 k hk').at fun o e => hk (Ts k) (List.mem_cons_of_mem _ (List.mem_cons_of_mem _ (List.mem_map.mpr ⟨k, List.mem_range.mpr hk', rfl⟩))) o e⟩
  item := fun i s Q E hi st hQ => by
    refine next_item st.1 st.2.1 (x := .ref (Ts i)) (hit i hi) fun h' hit' hs' => ?_
    have tup : ∀ k, k < items.size → h'.IsTuple (Ts k) (vals k) := fun k hk' => (st.2.2 k hk').extBut hs'.extBut (hTI k hk')
    exact hQ (Ts i) (vals i) h' s.toks ⟨hi, rfl⟩ (tup i hi) ⟨⟨hi, rfl⟩, hit', st.2.1.at fun o e => hs'.extBut _ o hne e, tup⟩ fun b o hb e => hs'.extBut b o (fun h => hb (by simp [h])) e
  go := fun uu uu uu uu uu s Q uu hm hQ => wpAny_letOwnedTupleGo_listiter hm.2.1 (hQ s.heap hm.2 fun uu uu uu e => e)
  apart := fun j T uu hm hmem => by
    rcases List.mem_cons.mp hmem with e | e
    · exact hTI j hm.1.1 (hm.1.2 ▸ e)
    · cases e
  done := fun s Q E st hQ => next_end hh st.1 st.2.1 (by simp) fun h' he' => hQ h' s.toks fun b o hb e => he' b o (fun h => hb (by simp [h])) e
  self := fun uu uu uu uu st hQ => wpAny_pyIter_listiter st.1 hQ
end
end Mine.Internal
end
section
open PySem PySem.W PyProof.Rows PySem.Calls
namespace Mine.Internal
section
variable {C : Cfg} {A : Around} {R : Result → Shared → Prop} {I : Addr} {fp wr : List Addr} {G : Array GenState → Array GenState → Prop} {n : Nat} {P : Nat → Value → Prop} {St : Nat → Shared → Prop}
set_option tactic.hygienic false in
theorem sumLoop (W : WalksS C.prog C.w A.in1 I fp wr G n P St) (val acc : Nat → Int) (hacc : ∀ i, acc (i + 1) = acc i + val i) (hval : ∀ i v, P i v → ∃ t, v = .int (val i) t) (S : Addr) (hSf : S ∉ fp) :
    ∀ (k i : Nat) (s : Shared) (tA : Tok) (c : Nat) (st : Int), (st = 0 ∨ st = 2) → n - i = k → i ≤ n → St i s → s.heap.get? S = some { cls := .type "list", dict := none, data := .seq #[.int (acc i) tA] c, slots := #[] } →
    (∀ s' t', Moved (S :: wr) G s s' → R (.ok (.ret (.int (acc n) t'))) s') → codeAny (model C.prog C.w) A (.builtin "sum.loop" ⟨[.ref I, .ref S, rawInt st, rawInt 0], []⟩) R s := by
  have hSw : S ∉ wr := fun h => hSf (W.sub _ h)
  have hsub : ∀ b ∈ wr, b ∈ S :: wr := fun b hb => List.mem_cons_of_mem _ hb
  intro k
  induction k with
  | zero =>
    intro i s tA c st hst2 hk hi hst hS hR
    have hin : i = n := by (first | lia | omega)
    subst hin
    refine codeAny_builtin F.entry_sum_loop ?_
    rw [Around.under_plainId F.plain_sum_loop _]
    show wpAny _ A.in1 (seqItems? (.ref S) >>= _) _ _ s
    refine wpAny_bind (wpAny_seqItems hS rfl ?_)
    show wpAny _ A.in1 (tryCatch (pyNext (.ref I)) _ >>= _) _ _ s
    refine wpAny_bind (wpAny_tryCatch (W.done s _ _ hst fun s' hm => ?_))
    exact wpAny_pure (hR s' tA (hm.mono hsub))
  | succ k ih =>
    intro i s tA c st hst2 hk hi hst hS hR
    have hlt : i < n := by (first | lia | omega)
    refine codeAny_builtin F.entry_sum_loop ?_
    rw [Around.under_plainId F.plain_sum_loop _]
    show wpAny _ A.in1 (seqItems? (.ref S) >>= _) _ _ s
    refine wpAny_bind (wpAny_seqItems hS rfl ?_)
    show wpAny _ A.in1 (tryCatch (pyNext (.ref I)) _ >>= _) _ _ s
    refine wpAny_bind (wpAny_tryCatch (W.item i s _ _ hlt hst fun v s' hP hst' hm => ?_))
    (refine x1_1 (hval i v hP) fun t rr1 => ?_; subst rr1)
    have hS' := hm.heap S _ hSw hS
    have ac := hacc i
    have plain : ∀ (B : Sem Fin), B = (do
          match ← (holding [Value.int (val i) t] (binaryOp .Add (.int (acc i) tA) (.int (val i) t))).attempt with
          | .ok r => do updateSeq S (fun uu => #[r]); letGo [.int (acc i) tA, .int (val i) t]; updateSeq S (fun uu => #[r]); pure (.again (.builtin "sum.loop" ⟨[.ref I, .ref S, rawInt 2, rawInt 0], []⟩))
          | .error e => do updateSeq S (fun uu => #[]); letGo [.int (acc i) tA, .int (val i) t] [e]; throw e) →
        wpAny (model C.prog C.w) A.in1 B (fun fin s'' => match fin with | .done f => R (.ok f) s'' | .again c' => c'.quiet = true ∧ codeAny (model C.prog C.w) A c' R s'') (fun e s'' => R (.error e) s'') s' := by
      rintro B rfl
      refine wpAny_bind (wpAny_attempt (wpAny_holding (wpAny_add_int ?_)))
      show wpAny _ A.in1 (updateSeq S (fun uu => #[.int (acc i + val i) s'.toks]) >>= _) _ _ _
      refine wpAny_bind (wpAny_updateSeq hS' rfl ?_)
      have hS₂ := Heap.get?_update_self (Obj.mapSeq fun uu => #[Value.int (acc i + val i) s'.toks]) hS' rfl
      refine wpAny_bind (wpAny_letGo ?_)
      refine wpAny_bind (wpAny_updateSeq hS₂ rfl (wpAny_pure ⟨plainId_quiet F.plain_sum_loop _, ih (i + 1) _ s'.toks _ 2 (.inr rfl) (by (first | lia | omega)) hlt (W.frame _ s' _ _ hst' (by first | exact Nat.le_refl _ | exact Nat.le_succ _ | (first | lia | omega)) fun b hb o e => ?_) (by rw [ac]; exact Heap.get?_update_self _ hS₂ rfl) fun s'' t'' hm'' => ?_⟩))
      · exact (Heap.get?_update_other _ _ (fun h : S = b => hSf (by rw [h]; exact hb))).trans ((Heap.get?_update_other _ _ (fun h : S = b => hSf (by rw [h]; exact hb))).trans e)
      · refine hR s'' t'' (Moved.trans W.gtrans ((hm.mono hsub).then_heap (by first | exact Nat.le_refl _ | exact Nat.le_succ _ | (first | lia | omega)) fun b o hb e => ?_) hm'')
        exact (Heap.get?_update_other _ _ (fun h : S = b => hb (by rw [h]; exact List.mem_cons_self))).trans ((Heap.get?_update_other _ _ (fun h : S = b => hb (by rw [h]; exact List.mem_cons_self))).trans e)
    rcases hst2 with rfl | rfl
    · show wpAny _ A.in1 (if (_ : Bool) = true then (mkInt (acc i + val i) >>= _) else _) _ _ _
      split
      · refine wpAny_bind (wpAny_mkInt ?_)
        show wpAny _ A.in1 (updateSeq S (fun uu => #[.int (acc i + val i) s'.toks]) >>= _) _ _ _
        refine wpAny_bind ?_
        refine wpAny_updateSeq hS' rfl (wpAny_pure ⟨plainId_quiet F.plain_sum_loop _, ih (i + 1) _ s'.toks _ 0 (.inl rfl) (by (first | lia | omega)) hlt (W.frame _ s' _ _ hst' (by first | exact Nat.le_refl _ | exact Nat.le_succ _ | (first | lia | omega)) fun b hb o e => ?_) (by rw [ac]; exact Heap.get?_update_self _ hS' rfl) fun s'' t'' hm'' => ?_⟩)
        · exact (Heap.get?_update_other _ _ (fun h : S = b => hSf (by rw [h]; exact hb))).trans e
        · refine hR s'' t'' (Moved.trans W.gtrans ((hm.mono hsub).then_heap (by first | exact Nat.le_refl _ | exact Nat.le_succ _ | (first | lia | omega)) fun b o hb e => ?_) hm'')
          exact (Heap.get?_update_other _ _ (fun h : S = b => hb (by rw [h]; exact List.mem_cons_self))).trans e
      · exact wpAny_bind (wpAny_rule (plain _ rfl))
    · exact plain _ rfl
set_option tactic.hygienic false in
theorem args_sum2 (a b : Value) : argsOk "sum" ⟨[a, b], []⟩ := by unfold argsOk; kernel_rfl
set_option tactic.hygienic false in
theorem call_sum2 {E : Value → Shared → Prop} {s : Shared} {x : Value} {ini : Int} {tI : Tok} {Q : Value → Shared → Prop}
    (h : wpAny (model C.prog C.w) A.in1 (pyIter x) (fun it s₂ => ∃ I fp wr G n P St, ∃ val acc : Nat → Int, it = .ref I ∧ WalksS C.prog C.w A.in1 I fp wr G n P St ∧ St 0 s₂ ∧ (∀ b ∈ fp, b < s₂.heap.objs.size) ∧
      (∀ i v, P i v → ∃ t, v = .int (val i) t) ∧ (acc 0 = ini) ∧ (∀ i, acc (i + 1) = acc i + val i) ∧
      ∀ s' t', Moved wr G s₂ s' → Q (.int (acc n) t') s') E s) :
    wpAny (model C.prog C.w) A (call (.builtin "sum") [x, .int ini tI]) Q E s := by
  refine call_function_tree F.kind_sum F.plain_sum F.entry_sum (args_sum2 _ _) ?_
  unfold Builtin.«sum»
  simp only [List.length_cons, List.length_nil]
  rw [if_neg (by decide)]
  refine wpAny_bind (wpAny_of_eq (show Builtin.Builtins.bindParams "sum" ["start"] 0 ⟨[.int ini tI], []⟩ = pure [some (.int ini tI)] from rfl) ?_)
  refine wpAny_bind (wpAny_mono h (fun it s₂ h₂ => ?_) fun uu uu e => e)
  (refine x9_8 (h₂) fun I fp wr G n P St val acc rr9 W hst hfp hval h0 hacc hQ => ?_; clear h₂; subst rr9)
  have tail : ∀ (st : Int) (tk : Tok) (k : Nat), (st = 0 ∨ st = 2) → s₂.toks ≤ k → ∀ m : Sem Fin, m = (do
      for (ty, what, hint) in [("str", "strings", "''"), ("bytes", "bytes", "b''"), ("bytearray", "bytearray", "b''")] do
        if ← isInstance (.int ini tk) (.type ty) then
          rule "sum.start-refused"; raiseError "TypeError" s!"sum() can't sum {what} [use {hint}.join(seq) instead]"
      pure (.again (.builtin "sum.loop" ⟨[.ref I, ← newList [.int ini tk], rawInt st, rawInt 0], []⟩))) →
      wpAny (model C.prog C.w) A.in1 m (fun fin s' => match fin with
      | .done f => (match (Except.ok f : Result) with | .ok (.ret v) => Q v s' | .ok _ => False | .error e => E e s')
      | .again c' => c'.quiet = true ∧ codeAny (model C.prog C.w) A c' (fun r s' => match r with | .ok (.ret v) => Q v s' | .ok _ => False | .error e => E e s') s') E { s₂ with toks := k } := by
    rintro st tk k hst2 hk m rfl
    simp only [List.forIn_cons, List.forIn_nil]
    refine wpAny_bind (wpAny_bind (wpAny_bind (wpAny_isInstance (T := "int") (b := false) (typeIs_int _ _ _) PySem.sub_int_str ?_)))
    simp only [Bool.false_eq_true, if_false]
    refine wpAny_pure (wpAny_bind (wpAny_bind (wpAny_isInstance (T := "int") (b := false) (typeIs_int _ _ _) PySem.sub_int_bytes ?_)))
    simp only [Bool.false_eq_true, if_false]
    refine wpAny_pure (wpAny_bind (wpAny_bind (wpAny_isInstance (T := "int") (b := false) (typeIs_int _ _ _) PySem.sub_int_bytearray ?_)))
    simp only [Bool.false_eq_true, if_false]
    refine wpAny_pure (wpAny_pure ?_)
    refine wpAny_bind (wpAny_newObj_type ?_)
    have hSf : s₂.heap.objs.size ∉ fp := fun hm => Nat.lt_irrefl _ (hfp _ hm)
    refine wpAny_pure ⟨plainId_quiet F.plain_sum_loop _, sumLoop W val acc hacc hval s₂.heap.objs.size hSf n 0 _ tk 0 st hst2 rfl (Nat.zero_le _)
      (W.frame 0 s₂ _ _ hst hk fun b uu o e => Heap.get?_push_of_some _ e) (by rw [h0]; exact Heap.get?_push_size _ rfl) fun s' t' hm => ?_⟩
    exact hQ s' t' (hm.drop_new hk)
  dsimp only
  split
  · refine wpAny_bind (wpAny_rule (wpAny_bind (wpAny_mkInt (wpAny_bind (wpAny_pure ?_)))))
    exact tail 0 _ _ (.inl rfl) (Nat.le_succ _) _ rfl
  · refine wpAny_bind (wpAny_pure ?_)
    exact tail 2 _ _ (.inr rfl) (Nat.le_refl _) _ rfl
end
end Mine.Internal
end
section
open PySem PySem.W PyProof.Rows PySem.Calls
namespace Mine.Internal
structure Kept (C : Cfg) (s s' : Shared) : Prop where
  keep : ∀ b o, s.heap.get? b = some o → ¬ C.isTab b → s'.heap.get? b = some o
  tab : ∀ t ∈ C.tabs, ∃ more, s'.heap.IsCode t.1 t.2.1 (t.2.2 ++ more) ∧ s'.heap.TableAt t.1 t.2.1 (t.2.2 ++ more)
  size : s.heap.objs.size ≤ s'.heap.objs.size
  gens : AllBare s'.gens
  gold : ∀ (i : Nat) (st : GenState), s.gens[i]? = some st → s'.gens[i]? = some st
  drawn : s'.drawn = s.drawn
  os : s'.os = s.os
section
variable {C : Cfg} {ρ ρ' : Rho} {σ σ' : St} {s s' s'' : Shared}
set_option tactic.hygienic false in
theorem Kept.gsize (k : Kept C s s') : s.gens.size ≤ s'.gens.size := by
  rcases Nat.lt_or_ge s'.gens.size s.gens.size with h | h
  · have := k.gold s'.gens.size _ (Array.getElem?_eq_getElem h)
    exact absurd (Array.getElem?_eq_some_iff.mp this).1 (Nat.lt_irrefl _)
  · exact h
set_option tactic.hygienic false in
theorem Kept.step (k : Kept C s s') : Step C [] ρ ρ s.heap s'.heap := ⟨k.size, fun b o e n uu => k.keep b o e fun t => n (.inl t), [], by simp, fun uu hp => nomatch hp⟩
set_option tactic.hygienic false in
theorem Rel.notTab (R : Rel C ρ σ s) {a : Addr} {o : Obj} (ho : s.heap.get? a = some o) (hc : o.cls ≠ .none) : ¬ C.isTab a := by
  intro t
  (refine x1_2 (List.mem_map.mp t) fun x hx e => ?_)
  (refine x1_3 (R.tab x hx) fun m uu uu ht => ?_)
  rw [e, ho] at ht
  (refine c1 ht fun hh0 => ?_; clear ht; subst hh0)
  exact hc rfl
set_option tactic.hygienic false in
theorem Rel.objNotTab (R : Rel C ρ σ s) {l : Nat} {p : Addr × Addr} {o : AO} (e : ρ[l]? = some p) (e' : σ[l]? = some o) {a : Addr} (ha : p.1 = a ∨ p.2 = a) : ¬ C.isTab a := fun t =>
  x1_2 (List.mem_map.mp t) fun x hx ea => x1_2 (R.tab x hx) fun m uu ht => x1_2 ((R.st l p o e e').noFields ha) fun ob ho hn => by
    have z := Option.some.inj (ho.symm.trans (ea ▸ ht.2))
    rw [z] at hn
    exact hn.elim (fun h => h _ rfl) Value.noConfusion
set_option tactic.hygienic false in
theorem Rel.kept (R : Rel C ρ σ s) (k : Kept C s s') : Rel C ρ σ s' where
  old b o e n := k.keep b o (R.old b o e n) n
  tab := k.tab
  lo := R.lo
  dis := R.dis
  len := R.len
  st l p o e e' := (R.st l p o e e').move (fun ob z => k.keep _ _ z (R.objNotTab e e' (.inl rfl))) (fun ob z => k.keep _ _ z (R.objNotTab e e' (.inr rfl))) (·.go k.step) fun uu z => z
  gens := (R.gens.mono k.gens k.gold).heap fun l p x e e' hx o ho => k.keep _ _ ho (R.objNotTab e e' (.inl rfl))
  drawn := k.drawn.trans R.drawn
  os := k.os.trans R.os
  size := Nat.le_trans R.size k.size
set_option tactic.hygienic false in
theorem Kept.of (R : Rel C ρ σ s) (k : ∀ b o, s.heap.get? b = some o → s'.heap.get? b = some o) (z : s.heap.objs.size ≤ s'.heap.objs.size) (hg : s'.gens = s.gens) (hd : s'.drawn = s.drawn) (ho : s'.os = s.os) : Kept C s s' :=
  ⟨fun b o e uu => k b o e, fun t ht => let ⟨m, a, b⟩ := R.tab t ht; ⟨m, a.keeps k, b.keeps k⟩, z, by rw [hg]; exact R.gens.bare, fun i st e => by rw [hg]; exact e, hd, ho⟩
set_option tactic.hygienic false in
theorem Kept.moved {wr : List Addr} {g : Nat} (k : Kept C s s') (R : Rel C ρ σ s) (m : Moved wr (GenOnlyQ g) s' s'') (hw : ∀ b ∈ wr, s.heap.objs.size ≤ b) {a : Addr} {o : Obj} (ha : s'.heap.get? a = some o) (hl : s.heap.objs.size ≤ a) (hn : a ∉ wr) (hgz : s.gens.size ≤ g) : Kept C s s'' where
  keep b o e n := m.heap b o (fun h => Nat.not_lt.mpr (hw b h) (Heap.lt_size e)) (k.keep b o e n)
  tab t ht := by
    (refine x1_2 (k.tab t ht) fun more a1 b1 => ?_)
    (refine x1_2 (R.tab t ht) fun more' a2 b2 => ?_)
    have l1 := a2.lt
    refine ⟨more, a1.at2 (fun o e => m.heap _ o (fun h => Nat.not_lt.mpr (hw _ h) l1.1) e) (fun o e => m.heap _ o (fun h => Nat.not_lt.mpr (hw _ h) l1.2) e), ?_⟩
    obtain ⟨⟨o, vs, x, r⟩, y⟩ := b1
    exact ⟨⟨o, vs, m.heap _ _ (fun h => Nat.not_lt.mpr (hw _ h) l1.1) x, r⟩, m.heap _ _ (fun h => Nat.not_lt.mpr (hw _ h) l1.2) y⟩
  size := Nat.le_trans hl (Nat.le_of_lt (Heap.lt_size (m.heap a o hn ha)))
  gens := m.gens.bare k.gens
  gold i st e := by
    have e' := k.gold i st e
    have hi : i < s.gens.size := (Array.getElem?_eq_some_iff.mp e).1
    rcases m.gens with h | ⟨⟨_, h⟩, _⟩
    · rw [h]; exact e'
    · rw [h i (Nat.ne_of_lt (Nat.lt_of_lt_of_le hi hgz))]; exact e'
  drawn := m.drawn.trans k.drawn
  os := m.os.trans k.os
end
structure GenOk (C : Cfg) : Prop where
  bm : ∃ mg bm ob, BMod C.s₁.heap mainGlobals mg bm ob ∧ ¬ C.isTab bm
  one : ∀ t ∈ C.tabs, ∀ t' ∈ C.tabs, t.2.1 = t'.2.1 → t = t'
section
variable {C : Cfg} {ρ : Rho} {σ : St} {s : Shared} {A : Around} {E : Value → Shared → Prop} {env : Env} {vars : List Str} {lc : Lc}
set_option tactic.hygienic false in
theorem passing_all (n : Nat) : passing (fun uu => true) n 0 = List.range n := by simp [passing]
set_option tactic.hygienic false in
theorem gencode (HG : GenOk C) {t : Addr × Addr × Array Value} (ht : t ∈ C.tabs) (hcode : env.code = .ref t.1) {pos : Pos} {qn : Str} {scope : Scope} {Q : Value → Shared → Prop} (R : Rel C ρ σ s)
    (k : ∀ code s', Kept C s s' → Q code s') : wpAny (model C.prog C.w) A (genexprCode env pos qn scope) Q E s := by
  (refine x1_2 (R.tab t ht) fun more a b => ?_)
  cases hf : codeAmong pos (t.2.2 ++ more).toList with
  | some c' => exact wpAny_genexprCode_hit hcode a hf (k _ _ (.of R (fun uu uu e => e) (Nat.le_refl _) rfl rfl rfl))
  | none =>
    refine wpAny_genexprCodeX hcode a b hf fun c' h' tk hx hge hlt a' uu b' uu => k _ _ ?_
    refine ⟨fun b' o e n => hx b' o (fun z => n (z ▸ List.mem_map_of_mem ht)) e, fun t' ht' => ?_, Nat.le_trans hge (Nat.le_of_lt hlt), R.gens.bare, fun uu uu e => e, rfl, rfl⟩
    by_cases he : t'.2.1 = t.2.1
    · obtain rfl := HG.one t' ht' t ht he
      exact ⟨more ++ #[rawInt pos.line, rawInt pos.col, .ref c'], by rw [← Array.append_assoc]; exact a', by rw [← Array.append_assoc]; exact b'⟩
    · (refine x1_2 (R.tab t' ht') fun m2 a2 b2 => ?_)
      have hc : t'.1 ≠ t.2.1 := by
        intro z
        obtain ⟨⟨o, vs, x, y, _⟩, _⟩ := b2
        rw [z, b.2] at x
        cases x; cases y
      exact ⟨m2, a2.extBut hx hc he, b2.extBut hx hc he⟩
set_option tactic.hygienic false in
theorem parts_at {h : Heap} {pts : List (Str × Str)} {vs : List Value} (hs : VRs C ρ h (pts.map partAV) vs) : ∃ (Ts : Nat → Addr) (vals : Nat → Array Value), ∀ j, j < vs.length → vs[j]? = some (.ref (Ts j)) ∧ h.IsTuple (Ts j) (vals j) ∧ ¬ C.isTab (Ts j) ∧ ∃ p t u, pts[j]? = some p ∧ vals j = #[.str p.1 t, .str p.2 u] := by
  have one : ∀ j, ∃ (q : Addr × Array Value), j < vs.length → vs[j]? = some (.ref q.1) ∧ h.IsTuple q.1 q.2 ∧ ¬ C.isTab q.1 ∧ ∃ p t u, pts[j]? = some p ∧ q.2 = #[.str p.1 t, .str p.2 u] := by
    intro j
    by_cases hj : j < vs.length
    · have hj' : j < pts.length := by have := hs.length; rw [List.length_map] at this; (first | lia | omega)
      (refine x1_2 (parts_get hs (List.getElem?_eq_getElem hj')) fun v hv q => ?_)
      revert hv
      refine VR.tup_e (show VR C ρ h (.tup [.str pts[j].1, .str pts[j].2]) v from q) fun a us n ho hm hq hv => ?_
      revert ho
      refine hq.two_e fun x y q1 q2 => q1.str_e fun t uu => q2.str_e fun u uu ho => ?_
      exact ⟨(a, #[.str pts[j].1 t, .str pts[j].2 u]), fun uu => ⟨hv, ⟨_, ho, rfl, n, rfl⟩, fun z => hm (.inl z), pts[j], t, u, List.getElem?_eq_getElem hj', rfl⟩⟩
    · exact ⟨(0, #[]), fun h => absurd h hj⟩
  exact ⟨fun j => (one j).choose.1, fun j => (one j).choose.2, fun j hj => (one j).choose_spec hj⟩
end
end Mine.Internal
end
section
open PySem PySem.W PyProof.Rows PySem.Calls
namespace Mine.Internal
noncomputable def EltOk (C : Cfg) (env : Env) (scope : Scope) (elt : Expr) (xa xb : Str) (pts : List (Str × Str)) (F : Str × Str → Value → Prop) : Prop :=
  ∀ (Cn : Addr) (code : Value) (A' : Around) (E' : Value → Shared → Prop) (p : Str × Str) (t u : Tok) (s₂ : Shared) (m₂ : Str → Option Value), A'.handled = none → p ∈ pts → s₂.heap.Ns Cn m₂ → m₂ xa = some (.str p.1 t) → m₂ xb = some (.str p.2 u) →
    (∀ b o, C.s₁.heap.get? b = some o → ¬ C.isTab b → s₂.heap.get? b = some o) →
    wpAny (model C.prog C.w) A' (eval elt (genEnv scope [] Cn code builtinsNs env)) (fun y s₃ => F p y ∧ Keeps s₂ s₃) E' s₂
section
variable {C : Cfg} {ρ : Rho} {σ : St} {s : Shared} {A : Around} {E : Value → Shared → Prop} {env : Env} {vars : List Str} {lc : Lc}
set_option tactic.hygienic false in
theorem monoP {A : Around} {I : Addr} {fp wr : List Addr} {G : Array GenState → Array GenState → Prop} {n : Nat} {P P' : Nat → Value → Prop} {St : Nat → Shared → Prop} (W : WalksS C.prog C.w A I fp wr G n P St) (h : ∀ j y, P j y → P' j y) : WalksS C.prog C.w A I fp wr G n P' St where
  sub := W.sub
  grefl := W.grefl
  gtrans := W.gtrans
  frame := W.frame
  item := fun i s Q E hi st hQ => W.item i s Q E hi st fun v s' p => hQ v s' (h _ _ p)
  done := W.done
  self := W.self
set_option tactic.hygienic false in
theorem gen_rel (H : CfgOk C) (HC : ClsOk C) (HA : AccOk C) (HG : GenOk C) (He : EnvOk env vars) {t : Addr × Addr × Array Value} (ht : t ∈ C.tabs) (hcode : env.code = .ref t.1)
    {elt : Expr} {xa xb sn : Str} {pa pb pt ps : Pos} {kt : Nat} {scope : Scope} {pos : Pos} {Q : Value → Shared → Prop}
    (hco : scope.isCoroutine = false) (hclos : closureFor scope env = pure []) (hcell : ∀ y ∈ scope.names, y.2 ≠ .cell) (h0 : scope.names.lookup (".0" : Str) = some NameKind.local)
    (hxa : scope.names.lookup xa = some .local) (hxb : scope.names.lookup xb = some .local) (hab : xa ≠ xb) (hkind : scope.kind = .function)
    {i0 l : Nat} {ini : Int} {pts : List (Str × Str)} (hi0 : vars[i0]? = some sn) (hsn : (sn == ("__debug__" : Str)) = false) (hA : AOk 1 A) (R : Rel C ρ σ s) (lr : LcR C ρ s.heap env.locals vars lc) (hself : lc[i0]? = some (some (.loc l))) (hl : σ[l]? = some (.acc ini pts))
    {F : Str × Str → Value → Prop} (hel : EltOk C env scope elt xa xb pts F)
    (k : ∀ a g o s₅ fp wr St, s.gens.size ≤ g → Kept C s s₅ → s₅.heap.get? a = some o → s.heap.objs.size ≤ a → a ∉ wr → (∀ b ∈ wr, s.heap.objs.size ≤ b) → WalksS C.prog C.w A.in4 a fp wr (GenOnlyQ g) pts.length (fun j y => ∃ p, pts[j]? = some p ∧ F p y) St → St 0 s₅ →
      (∀ b ∈ fp, b < s₅.heap.objs.size) → a ∈ fp → (∀ i s', St i s' → s'.TypeIs (.ref a) "generator") → Q (.ref a) s₅) :
    wpAny (model C.prog C.w) A (eval (.GeneratorExp elt [⟨.Tuple [.Name xa pa, .Name xb pb] kt pt, .Name sn ps, [], 0⟩] scope pos) env) Q E s := by
  refine wpAny_GeneratorExp_walksQT hA.1 hco hclos hcell h0 hxa hxb hab hkind (by have := hA.2.1; (first | lia | omega)) ?_ (fun uu => rfl)
  refine wpAny_Name (load_name He hi0 hself lr fun v qv => ?_) hsn
  refine R.acc_e hl qv fun a dd es n n' vs e0 ho hd he hs => ?_
  refine below_iter (R.kin H) (accInst ho hd) HC.acMro HA.iter ?_
  obtain ⟨hh, gg, dr, tk, os⟩ := s
  have hlen : vs.length = pts.length := by rw [hs.length, List.length_map]
  have R₂ := R.push { cls := .type "list_iterator", data := .fields #[.ref a, .int 0 0] } (n := tk)
  have lim₂ : (hh.push { cls := .type "list_iterator", data := .fields #[.ref a, .int 0 0] }).NoLimit := by
    (refine x1_2 (H.lim) fun mc x y => ?_)
    exact ⟨mc, x.at fun o e => Heap.get?_push_of_some _ (R.old _ _ e H.stat), y⟩
  refine ⟨lim₂, gencode HG ht hcode R₂ fun code s₃ K₃ => ?_⟩
  have R₃ := R₂.kept K₃
  (refine x3_2 (HG.bm) fun mg bm ob' M hbm => ?_)
  have M₃ : BMod s₃.heap env.globals mg bm ob' := by rw [He.glob]; exact ⟨M.ns.at fun o e => R₃.old _ _ e H.glob, M.name, M.ne, R₃.old _ _ M.obj hbm, M.cls, M.dict, M.data⟩
  refine wpAny_builtinsFor M₃.ns M₃.name M₃.ne M₃.obj M₃.cls M₃.dict M₃.data ?_
  (refine x2_1 (parts_at (C := C) hs) fun Ts vals hT => ?_)
  have ait : a < hh.objs.size := Heap.lt_size ho
  have sz : vs.toArray.size = vs.length := List.size_toArray ..
  have hTlt : ∀ j, j < vs.length → Ts j < hh.objs.size := fun j hj => by obtain ⟨_, ⟨_, e, _⟩, _⟩ := hT j hj; exact Heap.lt_size e
  have W := fun (A' : Around) (hA' : A'.handled = none) => walkPairs (C := C) hA' hh.objs.size a (Nat.ne_of_lt ait) vs.toArray Ts vals (fun j hj => by rw [sz] at hj; simpa using (hT j hj).1) fun j hj => Nat.ne_of_lt (hTlt j (sz ▸ hj))
  have nt : ¬ C.isTab a := R.notTab ho (by simp)
  have z₃ : hh.objs.size < s₃.heap.objs.size := by have := K₃.size; rw [show (hh.push _).objs.size = hh.objs.size + 1 from Heap.size_push ..] at this; (first | lia | omega)
  have itAt : s₃.heap.get? hh.objs.size = some { cls := .type "list_iterator", data := .fields #[.ref a, .int 0 0] } := K₃.keep _ _ (Heap.get?_push_size _ rfl) (R₂.notTab (Heap.get?_push_size _ rfl) (by simp))
  have up : ∀ b o, hh.get? b = some o → ¬ C.isTab b → s₃.heap.get? b = some o := fun b o e nb => K₃.keep b o (Heap.get?_push_of_some _ e) nb
  have lim₃ : s₃.heap.NoLimit := by
    (refine x1_2 (H.lim) fun mc x y => ?_)
    exact ⟨mc, x.at fun o e => R₃.old _ _ e H.stat, y⟩
  have hcs : cStatics ≠ hh.objs.size := by
    (refine x1_2 (H.lim) fun mc x y => ?_)
    exact Nat.ne_of_lt (Nat.lt_of_lt_of_le x.lt R.size)
  refine ⟨hh.objs.size, _, [hh.objs.size], vs.toArray.size, _, _, _, (fun uu => true), (fun i y => ∃ p, pts[i]? = some p ∧ F p y), rfl, W, ?_, ⟨⟨_, itAt, rfl, rfl⟩, ⟨_, _, up _ _ ho nt, rfl⟩, fun j hj => ?_⟩, ?_, lim₃, (by simpa using hcs), ?_, ?_⟩
  · rintro i v ⟨hi, rfl⟩
    (refine x3_2 ((hT i (sz ▸ hi)).2.2.2) fun p t1 t2 uu e => ?_)
    exact ⟨_, _, e⟩
  · (refine x0_4 (hT j (sz ▸ hj)) fun uu tt nt' uu => ?_)
    exact tt.at fun o e => up _ o e nt'
  · intro b hb
    rcases List.mem_cons.mp hb with rfl | hb
    · exact z₃
    · rcases List.mem_cons.mp hb with rfl | hb
      · exact Nat.lt_trans ait z₃
      · (refine x1_2 (List.mem_map.mp hb) fun j hj rr2 => ?_; subst rr2)
        exact Nat.lt_trans (hTlt j (sz ▸ List.mem_range.mp hj)) z₃
  · intro href hk
    have oldk : ∀ (s₂ : Shared), (∀ b ∈ List.range s₃.heap.objs.size, b ∉ [hh.objs.size] → ∀ o, href.get? b = some o → s₂.heap.get? b = some o) → ∀ b o, C.s₁.heap.get? b = some o → ¬ C.isTab b → s₂.heap.get? b = some o := by
      intro s₂ h2 b o e nb
      have e3 := R₃.old b o e nb
      refine h2 b (List.mem_range.mpr (Heap.lt_size e3)) ?_ o (hk b o e3)
      intro hm
      obtain rfl : b = hh.objs.size := by simpa using hm
      exact absurd (Nat.lt_of_lt_of_le (Heap.lt_size e) R.size) (Nat.lt_irrefl _)
    refine ⟨fun A' E' i va vb s₂ m₂ hh' hP hn ha hb hkp => ?_, fun A' E' i va vb s₂ m₂ hh' hP uu hn ha hb hkp => ?_⟩
    · exact wpAny_pure ⟨rfl, s₂.heap, s₂.toks, rfl, fun uu uu e => e⟩
    · (refine x0_2 (hP) fun hi e => ?_; clear hP)
      (refine x3_2 ((hT i (sz ▸ hi)).2.2.2) fun p t1 t2 hp ev => ?_)
      rw [ev] at e
      obtain ⟨rfl, rfl⟩ : va = .str p.1 t1 ∧ vb = .str p.2 t2 := by simpa using congrArg Array.toList e
      exact wpAny_mono (hel _ _ A' E' p t1 t2 s₂ m₂ hh' (List.mem_of_getElem? hp) hn ha hb (oldk s₂ hkp)) (fun y s₃ r => ⟨⟨p, hp, r.1⟩, r.2⟩) fun uu uu e => e
  · intro a' h₅ tk gs hgb hag hsz₅ hk₅ WS hat
    (refine x3_2 (hat.1) fun oa nm qn hoa uu => ?_)
    rw [passing_all, List.length_range, sz, hlen] at WS
    rw [sz, hlen] at hat
    refine k a' s₃.gens.size oa { s₃ with gens := s₃.gens.push gs, toks := tk, heap := h₅ } (a' :: s₃.heap.objs.size :: List.range s₃.heap.objs.size) (s₃.heap.objs.size :: [hh.objs.size]) _ K₃.gsize ⟨fun b o e nb => hk₅ b o (up b o e nb), fun t ht => ?_, ?_, K₃.gens.push hgb, (fun i st e => by have e' := K₃.gold i st e; have hi := (Array.getElem?_eq_some_iff.mp e').1; show (s₃.gens.push gs)[i]? = some st; rw [Array.getElem?_push_lt hi]; rw [Array.getElem?_eq_getElem hi] at e'; exact e'), K₃.drawn, K₃.os⟩ hoa (Nat.le_of_lt (Nat.lt_trans z₃ hag)) ?_ ?_ ?_ hat ?_ (List.mem_cons_self ..) (fun i s' st => st.1.typeIs)
    · (refine x1_2 (K₃.tab t ht) fun more x y => ?_)
      exact ⟨more, x.keeps hk₅, y.keeps hk₅⟩
    · show hh.objs.size ≤ h₅.objs.size
      rw [hsz₅]; exact Nat.le_of_lt (Nat.lt_trans (Nat.lt_trans z₃ hag) (Nat.lt_succ_self _))
    · intro hm
      rcases List.mem_cons.mp hm with e | hm
      · exact absurd (e ▸ hag) (Nat.lt_irrefl _)
      · obtain rfl : a' = hh.objs.size := by simpa using hm
        exact absurd (Nat.lt_trans z₃ hag) (Nat.lt_irrefl _)
    · intro b hb
      rcases List.mem_cons.mp hb with rfl | hb
      · exact Nat.le_of_lt z₃
      · obtain rfl : b = hh.objs.size := by simpa using hb
        exact Nat.le_refl _
    · refine monoP WS fun j y => ?_
      rintro ⟨i, hi, q⟩
      obtain ⟨hj, e⟩ := List.getElem?_eq_some_iff.mp hi
      rw [List.getElem_range] at e
      rw [e]; exact q
    · intro b hb
      show b < h₅.objs.size
      rw [hsz₅]
      rcases List.mem_cons.mp hb with rfl | hb
      · exact Nat.lt_succ_self _
      · rcases List.mem_cons.mp hb with rfl | hb
        · exact Nat.lt_succ_of_lt hag
        · exact Nat.lt_succ_of_lt (Nat.lt_trans (List.mem_range.mp hb) hag)
end
end Mine.Internal
end
section
open PySem PySem.W PyProof.Rows PySem.Calls
namespace Mine.Internal
structure OutEnv (env : Env) : Prop where
  kind : env.scope.kind = .function
  glob : env.globals = mainGlobals
  blt : env.builtins = builtinsNs
set_option tactic.hygienic false in
theorem EnvOk.out {env : Env} {vars : List Str} (h : EnvOk env vars) : OutEnv env := ⟨h.kind, h.glob, h.blt⟩
section
variable {C : Cfg} {ρ : Rho} {σ : St} {s : Shared} {A : Around} {E : Value → Shared → Prop} {env : Env} {vars : List Str} {lc : Lc} {p p' : Pos}
set_option tactic.hygienic false in
theorem gname (H : CfgOk C) (He : OutEnv env) {x : Str} {v : Value} (hv : GlobVal C x v) (hx : env.kindOf x = some .globalImplicit) (hd : (x == ("__debug__" : Str)) = false) {Q : Value → Shared → Prop} (R : OldAt C s) (k : Q v s) :
    wpAny (model C.prog C.w) A (eval (.Name x p) env) Q E s := by
  (refine x1_2 (hv) fun mg hg h => ?_; clear hv)
  refine Name_function_global He.kind hx ?_ hd
  have hg' : s.heap.Ns env.globals mg := by rw [He.glob]; exact hg.at fun o e => R _ _ e H.glob
  rcases h with h | ⟨h, mb, hb, h'⟩
  · exact loadGlobal_global hg' h k
  · exact loadGlobal_builtin hg' h (by rw [He.blt]; exact hb.at fun o e => R _ _ e H.blt) h' k
set_option tactic.hygienic false in
theorem lname (He : OutEnv env) {x : Str} {v : Value} {m : Str → Option Value} (hx : env.kindOf x = some .local) (hn : s.heap.Ns env.locals m) (hm : m x = some v) (hd : (x == ("__debug__" : Str)) = false) {Q : Value → Shared → Prop} (k : Q v s) :
    wpAny (model C.prog C.w) A (eval (.Name x p) env) Q E s := wpAny_Name (wpAny_loadName_local He.kind hx hn hm k) hd
set_option tactic.hygienic false in
theorem call1 (H : CfgOk C) (He : OutEnv env) {f x : Str} {id : String} {v : Value} {m : Str → Option Value} {p0 p1 : Pos} (hv : GlobVal C f (.builtin id)) (hf : env.kindOf f = some .globalImplicit) (hfd : (f == ("__debug__" : Str)) = false) (hx : env.kindOf x = some .local) (hxd : (x == ("__debug__" : Str)) = false)
    (R : OldAt C s) (hn : s.heap.Ns env.locals m) (hm : m x = some v) {Q : Value → Shared → Prop} (k : wpAny (model C.prog C.w) A (call (.builtin id) [v]) Q E s) : wpAny (model C.prog C.w) A (eval (.Call (.Name f p0) [.Name x p1] [] p) env) Q E s := by
  show wpAny _ _ (do callWith p (← eval (.Name f p0) env) [] (backTo p (starEach [.Name x p1] env)) (backToKw p (keywordEach [] env))) _ _ _
  refine wpAny_bind (gname H He hv hf hfd R ?_)
  refine callWith_of (P := fun uu => True) rfl (fun h uu => ⟨.machine, .inr (.inl rfl), .now⟩) ?_
  show wpAny _ _ (evalArgs _ true ((false, eval (.Name x p1) env) :: _) []) _ _ _
  refine evalArgs_plain ?_
  refine wpAny_items_cons (pos := p) (rest := []) (lname He hx hn hm hxd ?_)
  exact wpAny_items_nil ⟨trivial, by simpa using k⟩
end
noncomputable def partLen (p : Str × Str) : Int := (p.1.length : Int) + p.2.length
noncomputable def partsLen (ps : List (Str × Str)) : Int := (ps.map partLen).sum
noncomputable def smallStr (x : Str) : Bool := x.length ≤ 1000000
noncomputable def smallPart (p : Str × Str) : Bool := smallStr p.1 && smallStr p.2
set_option tactic.hygienic false in
theorem partsLen_take_succ {ps : List (Str × Str)} {i : Nat} (p : Str × Str) (h : ps[i]? = some p) : partsLen (ps.take (i + 1)) = partsLen (ps.take i) + partLen p := by
  unfold partsLen
  rw [List.take_add_one, h]
  simp
structure LenScope (scope : Scope) : Prop where
  kind : scope.kind = .function
  len : scope.names.lookup ("len" : Str) = some NameKind.globalImplicit
  a : scope.names.lookup ("fws" : Str) = some NameKind.local
  b : scope.names.lookup ("part" : Str) = some NameKind.local
set_option tactic.hygienic false in
theorem elt_len {C : Cfg} {env : Env} {scope : Scope} (H : CfgOk C) (He : OutEnv env) (hS : LenScope scope) (hv : GlobVal C "len" (.builtin "len")) {pts : List (Str × Str)} (hp : pts.all smallPart = true) {p0 p1 p2 p3 p4 p5 p6 : Pos} :
    EltOk C env scope (.BinOp (.Call (.Name "len" p0) [.Name "fws" p1] [] p2) .Add (.Call (.Name "len" p3) [.Name "part" p4] [] p5) p6) "fws" "part" pts (fun p y => ∃ t, y = .int (partLen p) t) := by
  intro Cn code A' E' p t u s₂ m₂ hh hm hn ha hb hold
  have hs := List.all_eq_true.mp hp p hm
  unfold smallPart smallStr at hs
  rw [Bool.and_eq_true, decide_eq_true_eq, decide_eq_true_eq] at hs
  have He' : OutEnv (genEnv scope [] Cn code builtinsNs env) := ⟨hS.kind, He.glob, rfl⟩
  refine wpAny_BinOp ?_
  refine call1 H He' (id := "len") hv hS.len (by decide) hS.a (by decide) hold hn ha ?_
  refine PyProof.Rows.len_str (by (first | lia | omega)) ?_
  refine call1 (s := { s₂ with toks := s₂.toks + 1 + 1 }) H He' (id := "len") hv hS.len (by decide) hS.b (by decide) hold hn hb ?_
  refine PyProof.Rows.len_str (by (first | lia | omega)) ?_
  refine wpAny_add_int ?_
  exact ⟨⟨_, rfl⟩, s₂.heap, _, rfl, fun uu uu e => e⟩
end Mine.Internal
end
section
open PySem PySem.W PyProof.Rows PySem.Calls
namespace Mine.Internal
set_option tactic.hygienic false in
theorem join2 (a b : Str) : Txt.join "" [a, b] = a ++ b := by
  show (⟨(a.cps ++ #[]) ++ b.cps⟩ : Str) = ⟨a.cps ++ b.cps⟩
  rw [Array.append_empty]
set_option tactic.hygienic false in
theorem str_len_append (a b : Str) : (a ++ b).length = a.length + b.length := by
  show (a.cps ++ b.cps).size = a.cps.size + b.cps.size
  exact Array.size_append
set_option tactic.hygienic false in
theorem strOk_join {sep : Str} : ∀ {xs : List Str}, PyData.strOk sep = true → (∀ x ∈ xs, PyData.strOk x = true) → PyData.strOk (Txt.join sep xs) = true := by
  intro xs hs hx
  show PyData.strOk (Builtin.Str.glued sep xs) = true
  unfold Builtin.Str.glued
  have go : ∀ (ys : List Str) (acc : Array Nat), PyData.strOk ⟨acc⟩ = true → (∀ x ∈ ys, PyData.strOk x = true) → PyData.strOk ⟨ys.foldl (fun acc p => acc ++ sep.cps ++ p.cps) acc⟩ = true := by
    intro ys
    induction ys with
    | nil => intro acc h _; exact h
    | cons y ys ih =>
      intro acc h h'
      rw [List.foldl_cons]
      refine ih _ ?_ fun x hx => h' x (List.mem_cons_of_mem _ hx)
      exact strOk_append (x := ⟨acc ++ sep.cps⟩) (y := y) (strOk_append (x := ⟨acc⟩) (y := sep) h hs) (h' y (List.mem_cons_self ..))
  cases xs with
  | nil => show PyData.strOk Str.empty = true; decide +kernel
  | cons x xs => exact go xs x.cps (hx x (List.mem_cons_self ..)) fun y hy => hx y (List.mem_cons_of_mem _ hy)
noncomputable def partStr (p : Str × Str) : Str := p.1 ++ p.2
noncomputable def accText (ps : List (Str × Str)) : Str := Txt.join "" (ps.map partStr)
set_option tactic.hygienic false in
theorem partStr_len (p : Str × Str) : ((partStr p).length : Int) = partLen p := by unfold partStr partLen; rw [str_len_append]; (first | lia | omega)
set_option tactic.hygienic false in
theorem partsLen_sum (ps : List (Str × Str)) : ((((ps.map partStr).map fun x => x.length).sum : Nat) : Int) = partsLen ps := by
  induction ps with
  | nil => rfl
  | cons p ps ih =>
    unfold partsLen at ih ⊢
    simp only [List.map_cons, List.sum_cons]
    rw [← ih, ← partStr_len]
    (first | lia | omega)
section
variable {C : Cfg} {ρ : Rho} {σ : St} {s : Shared} {A : Around} {E : Value → Shared → Prop} {env : Env} {vars : List Str} {lc : Lc} {p p' : Pos}
set_option tactic.hygienic false in
theorem parts_ok {h : Heap} {ps : List (Str × Str)} : ∀ {vs : List Value}, VRs C ρ h (ps.map partAV) vs → ∀ p ∈ ps, PyData.strOk p.1 = true ∧ PyData.strOk p.2 = true := by
  induction ps with
  | nil => intro _ _ p hp; cases hp
  | cons q ps ih =>
    intro vs hs p hp
    refine hs.cons_e fun w ws a b => ?_
    rcases List.mem_cons.mp hp with rfl | hp
    · exact a.tup_e fun uu uu uu uu uu hq => hq.cons_e fun uu uu q1 q2 => q2.cons_e fun uu uu q2 uu => q1.str_e fun uu o1 => q2.str_e fun uu o2 => ⟨o1, o2⟩
    · exact ih b p hp
set_option tactic.hygienic false in
theorem callJoin (H : CfgOk C) (He : OutEnv env) {f : Str} {sep : Str} {tf : Tok} {es : List Expr} {p0 apos : Pos} (hv : GlobVal C f (.str sep tf)) (hf : env.kindOf f = some .globalImplicit) (hfd : (f == ("__debug__" : Str)) = false) (hp : (apos.endLine == p.line) = true) (R : OldAt C s) {e : Expr} (he : es = [e])
    (hn : starEach [e] env = [(false, eval e env)]) {Q : Value → Shared → Prop} (k : wpAny (model C.prog C.w) A (eval e env) (fun v s' => wpAny (model C.prog C.w) A (call (.builtin "str.join") [.str sep tf, v]) Q E s') E s) :
    wpAny (model C.prog C.w) A (eval (.Call (.Attribute (.Name f p0) "join" apos) es [] p) env) Q E s := by
  subst he
  rw [arm_eval_Call, show ∀ (n : Str) (p : Pos) nm whole, attributeBase (.Name n p) nm env whole = whole from fun uu uu uu uu => rfl]
  refine wpAny_bind (gname H He hv hf hfd R (wpAny_bind (wpAny_standAt ?_)))
  have hform : methodCallForm (1 + 0) (backTo p (starEach [e] env)) (backToKw p (keywordEach [] env)) = true := by rw [hn]; rfl
  show wpAny _ _ (methodCall (.Name f p0) "join" apos p env (.str sep tf) (1 + 0) (backTo p (starEach [e] env)) (backToKw p (keywordEach [] env))) _ _ _
  unfold methodCall
  rw [hform]
  refine wpAny_bind (wpAny_holding ?_)
  refine GM.join ?_
  dsimp only
  have hpos : methodCallPos true (.Name f p0) env apos p = pure p := by
    unfold methodCallPos
    rw [hp]; rfl
  rw [hpos]
  refine wpAny_bind (wpAny_pure ?_)
  refine callWith_of (P := fun uu => True) (by rw [hn]; rfl) (fun h uu => ⟨.machine, .inr (.inl rfl), .now⟩) ?_
  rw [hn]
  refine evalArgs_plain ?_
  have := wpAny_items_cons (M := model C.prog C.w) (A := A) (E := E) (s := s) (env := env) (pos := p) (e := e) (rest := []) (Q := fun vs s' => True ∧ wpAny (model C.prog C.w) A (call (.builtin "str.join") ([.str sep tf] ++ vs) []) Q E s') (wpAny_mono k (fun v s' hk => wpAny_items_nil ⟨trivial, hk⟩) fun uu uu z => z) hn
  rw [hn] at this
  exact this
structure StrScope (scope : Scope) : Prop where
  kind : scope.kind = .function
  es : scope.names.lookup ("EMPTYSTRING" : Str) = some NameKind.globalImplicit
  a : scope.names.lookup ("fws" : Str) = some NameKind.local
  b : scope.names.lookup ("part" : Str) = some NameKind.local
set_option tactic.hygienic false in
theorem elt_str {scope : Scope} (H : CfgOk C) (He : OutEnv env) (hS : StrScope scope) {tf : Tok} (hv : GlobVal C "EMPTYSTRING" (.str "" tf)) {pts : List (Str × Str)} (hp : pts.all smallPart = true) {p0 apos p1 p2 p3 p4 : Pos} {kt : Nat} (hpp : (apos.endLine == p4.line) = true) :
    EltOk C env scope (.Call (.Attribute (.Name "EMPTYSTRING" p0) "join" apos) [.Tuple [.Name "fws" p1, .Name "part" p2] kt p3] [] p4) "fws" "part" pts (fun p y => ∃ t, y = .str (partStr p) t) := by
  intro Cn code A' E' p t u s₂ m₂ hh hm hn ha hb hold
  have hs := List.all_eq_true.mp hp p hm
  unfold smallPart smallStr at hs
  rw [Bool.and_eq_true, decide_eq_true_eq, decide_eq_true_eq] at hs
  have He' : OutEnv (genEnv scope [] Cn code builtinsNs env) := ⟨hS.kind, He.glob, rfl⟩
  refine callJoin H He' hv hS.es (by decide) hpp hold rfl rfl ?_
  refine wpAny_Tuple ?_
  refine wpAny_items_cons (lname He' hS.a hn ha (by decide) ?_)
  refine wpAny_items_cons (lname He' hS.b hn hb (by decide) ?_)
  refine wpAny_items_nil ⟨(show 2 ≤ sizeLine by decide), ?_⟩
  refine join_tuple (ys := [p.1, p.2]) (items := #[.str p.1 t, .str p.2 u]) ⟨_, Heap.get?_push_size _ rfl, rfl, _, rfl⟩ (.cons _ _ (.cons _ _ .nil)) ?_ fun t' k => ?_
  · show (p.1.length + (p.2.length + 0)) + 2 * 0 ≤ _
    (first | lia | omega)
  · rw [join2]
    exact ⟨⟨t', rfl⟩, _, _, rfl, fun b o e => Heap.get?_push_of_some _ e⟩
end
end Mine.Internal
end
section
open PySem PySem.W PyProof.Rows PySem.Calls
namespace Mine.Internal
section
variable {C : Cfg} {ρ : Rho} {σ : St} {s : Shared} {A : Around} {E : Value → Shared → Prop} {env : Env} {vars : List Str} {lc : Lc} {p p' : Pos}
set_option tactic.hygienic false in
theorem args2 {f : Value} {e1 e2 : Expr} {Q : Args → Shared → Prop} (h1 : starEach [e1, e2] env = (false, eval e1 env) :: starEach [e2] env) (h2 : starEach [e2] env = (false, eval e2 env) :: starEach [] env)
    (h : wpAny (model C.prog C.w) A (eval e1 env) (fun v1 s1 => wpAny (model C.prog C.w) A (eval e2 env) (fun v2 s2 => Q ⟨[v1, v2], []⟩ s2) E s1) E s) : wpAny (model C.prog C.w) A (evalArgs f true (backTo p (starEach [e1, e2] env)) []) Q E s := by
  have it : wpAny (model C.prog C.w) A (spliced (backTo p (starEach [e1, e2] env))) (fun vs s' => Q ⟨vs, []⟩ s') E s :=
    wpAny_items_cons (wpAny_mono h (fun v1 s1 k1 => wpAny_items_cons (wpAny_mono k1 (fun v2 s2 k2 => wpAny_items_nil k2) fun uu uu z => z) h2) fun uu uu z => z) h1
  rw [h1] at it ⊢
  exact evalArgs_plain it
structure GenEnvOk (C : Cfg) (env : Env) (vars : List Str) (t : Addr × Addr × Array Value) (scope : Scope) : Prop where
  tab : t ∈ C.tabs
  code : env.code = .ref t.1
  coro : scope.isCoroutine = false
  clos : closureFor scope env = pure []
  cell : ∀ y ∈ scope.names, y.2 ≠ .cell
  zero : scope.names.lookup (".0" : Str) = some NameKind.local
  self : vars[0]? = some ("self" : Str)
noncomputable def lenAt (pts : List (Str × Str)) (i : Nat) : Int := match pts[i]? with | some p => partLen p | none => 0
noncomputable def accFits (ps : List (Str × Str)) : Bool := ps.all smallPart && decide (ps.length ≤ 1000000) && decide (partsLen ps ≤ 1000000)
noncomputable def accLenS : SM := fun lc σ => (selfL lc).bind fun l => (accAt σ l).bind fun a => gd (accFits a.2) (.ret (.int (a.1 + partsLen a.2)), lc, σ)
set_option tactic.hygienic false in
theorem den_accLen {d : Nat} (H : CfgOk C) (HC : ClsOk C) (HA : AccOk C) (HG : GenOk C) (He : EnvOk env vars) {t : Addr × Addr × Array Value} {scope : Scope} (GE : GenEnvOk C env vars t scope) (LS : LenScope scope) (hl : GlobVal C "len" (.builtin "len")) (hsum : GlobVal C "sum" (.builtin "sum")) (hk : env.kindOf "sum" = some .globalImplicit)
    {pa pb pt ps pos p0 q0 q1 r0 r1 r2 r3 r4 r5 r6 pr : Pos} {kt : Nat} :
    DenS C (d + 1) env vars (.Return (some (.Call (.Name "sum" p0) [.GeneratorExp (.BinOp (.Call (.Name "len" r0) [.Name "fws" r1] [] r2) .Add (.Call (.Name "len" r3) [.Name "part" r4] [] r5) r6) [⟨.Tuple [.Name "fws" pa, .Name "part" pb] kt pt, .Name "self" ps, [], 0⟩] scope pos, .Attribute (.Name "self" q0) "_initial_size" q1] [] p)) pr) accLenS := by
  intro lc σ fl lc' σ' hf' A Q E s ρ hA R lr kk
  refine oB hf' fun l hself hf' => oB hf' fun ac hl' hf' => oG hf' fun hfit e2 => ?_
  have hself := selfL_inv hself
  have hl' := accAt_inv hl'
  rcases ac with ⟨ini, pts⟩
  have hfit : accFits pts = true := hfit
  unfold accFits at hfit
  rw [Bool.and_eq_true, Bool.and_eq_true] at hfit
  refine wpAny_Return_some ?_
  show wpAny _ _ (do callWith p (← eval (.Name "sum" p0) env) [] (backTo p (starEach [_, _] env)) (backToKw p (keywordEach [] env))) _ _ _
  refine wpAny_bind (gname H He.out hsum hk (by decide) (fun b o e n => R.old b o e n) ?_)
  refine callWith_of (P := fun uu => True) rfl (fun h uu => ⟨.machine, .inr (.inl rfl), .now⟩) ?_
  refine args2 rfl rfl ?_
  refine gen_rel H HC HA HG He GE.tab GE.code GE.coro GE.clos GE.cell GE.zero LS.a LS.b (by decide) LS.kind GE.self (by decide) (hA.mono (by (first | lia | omega))) R lr hself hl' (elt_len H He.out LS hl hfit.1.1) fun a g o s₅ fp wr St hgz K ho hla hnw hwr W st0 hfp haf hty => ?_
  have R₅ := R.kept K
  have lr₅ := lr.go (K.step (ρ := ρ))
  refine Attribute_any_ (wpAny_Name (load_name He GE.self hself lr₅ fun v qv => ?_) (by decide)) (by rw [arm_eval_Attribute]; rfl)
  refine R₅.acc_e hl' qv fun ax dd es n n' vs e0 ho' hd he hs => ?_
  have ge := entR_get (name := attrName 6) he
  rw [(acc_lookup (k := 6) (ini := ini) (ps := pts) rfl).1] at ge
  (refine x1_2 (ge) fun w hw qw => ?_; clear ge)
  revert hw
  refine qw.int_e fun ti hw => ?_
  refine getAttr_list (R₅.kin H) (accInst ho' hd) HC.acGa HC.acGt HC.acMro (findObj_own HC.acDict HC.acAttr rfl hw) rfl ?_
  refine ⟨trivial, ?_⟩
  show wpAny _ _ (call (.builtin "sum") [.ref a, .int ini ti]) _ _ _
  have W' : WalksS C.prog C.w A.in1 a fp wr (GenOnlyQ g) pts.length (fun j y => ∃ p, pts[j]? = some p ∧ ∃ t, y = .int (partLen p) t) St := W.of_in1.of_in1.of_in1
  have st1 := W.frame 0 s₅ s₅.heap (s₅.toks + 1) st0 (Nat.le_succ _) fun uu uu uu e => e
  refine call_sum2 (W'.self 0 _ _ _ st1 ⟨a, fp, wr, GenOnlyQ g, pts.length, _, St, lenAt pts, (fun i => ini + partsLen (pts.take i)), rfl, W', st1, hfp, ?_, ?_, ?_, fun s' t' hm => ?_⟩)
  · rintro i v ⟨p, hp, t, rfl⟩
    exact ⟨t, by unfold lenAt; rw [hp]⟩
  · show ini + partsLen (pts.take 0) = ini
    simp [partsLen]
  · intro i
    show ini + partsLen (pts.take (i + 1)) = ini + partsLen (pts.take i) + lenAt pts i
    unfold lenAt
    cases hp : pts[i]? with
    | some p => rw [partsLen_take_succ p hp]; dsimp only; (first | lia | omega)
    | none =>
      have := List.getElem?_eq_none_iff.mp hp
      rw [List.take_of_length_le (by (first | lia | omega)), List.take_of_length_le (by (first | lia | omega))]
      dsimp only; (first | lia | omega)
  · have K1 : Kept C s { s₅ with toks := s₅.toks + 1 } := ⟨K.keep, K.tab, K.size, K.gens, K.gold, K.drawn, K.os⟩
    have K' := K1.moved R hm hwr ho hla hnw hgz
    show Q (.ret (.int (ini + partsLen (pts.take pts.length)) t')) s'
    rw [List.take_length]
    exact kfs kk e2 _ _ ρ (R.kept K') (K'.step.of_nil) (lr.go K'.step) (.ret (.int _ _))
noncomputable def accStrS : SM := fun lc σ => (selfL lc).bind fun l => (accAt σ l).bind fun a => gd (accFits a.2) (.ret (.str (accText a.2)), lc, σ)
set_option tactic.hygienic false in
theorem den_accStr {d : Nat} (H : CfgOk C) (HC : ClsOk C) (HA : AccOk C) (HG : GenOk C) (He : EnvOk env vars) {t : Addr × Addr × Array Value} {scope : Scope} (GE : GenEnvOk C env vars t scope) (LS : StrScope scope) {te : Tok} (hE : GlobVal C "EMPTYSTRING" (.str "" te)) (hk : env.kindOf "EMPTYSTRING" = some .globalImplicit)
    {pa pb pt ps pos p0 q0 r0 r1 r2 r3 r4 apos pr : Pos} {kt kt' : Nat} (hp1 : (apos.endLine == r4.line) = true) (hp2 : (q0.endLine == p.line) = true) :
    DenS C (d + 1) env vars (.Return (some (.Call (.Attribute (.Name "EMPTYSTRING" p0) "join" q0) [.GeneratorExp (.Call (.Attribute (.Name "EMPTYSTRING" r0) "join" apos) [.Tuple [.Name "fws" r1, .Name "part" r2] kt' r3] [] r4) [⟨.Tuple [.Name "fws" pa, .Name "part" pb] kt pt, .Name "self" ps, [], 0⟩] scope pos] [] p)) pr) accStrS := by
  intro lc σ fl lc' σ' hf' A Q E s ρ hA R lr kk
  refine oB hf' fun l hself hf' => oB hf' fun ac hl' hf' => oG hf' fun hfit e2 => ?_
  have hself := selfL_inv hself
  have hl' := accAt_inv hl'
  rcases ac with ⟨ini, pts⟩
  have hfit : accFits pts = true := hfit
  unfold accFits at hfit
  rw [Bool.and_eq_true, Bool.and_eq_true, decide_eq_true_eq, decide_eq_true_eq] at hfit
  refine wpAny_Return_some ?_
  refine callJoin H He.out hE hk (by decide) hp2 (fun b o e n => R.old b o e n) rfl rfl ?_
  refine gen_rel H HC HA HG He GE.tab GE.code GE.coro GE.clos GE.cell GE.zero LS.a LS.b (by decide) LS.kind GE.self (by decide) (hA.mono (by (first | lia | omega))) R lr hself hl' (elt_str H He.out LS hE hfit.1.1 hp1) fun a g o s₅ fp wr St hgz K ho hla hnw hwr W st0 hfp haf hty => ?_
  have W' : WalksS C.prog C.w A.in1.in1 a fp wr (GenOnlyQ g) pts.length (fun j y => ∃ p, pts[j]? = some p ∧ ∃ t, y = .str (partStr p) t) St := W.of_in1.of_in1
  have oks : ∀ p ∈ pts, PyData.strOk p.1 = true ∧ PyData.strOk p.2 = true := x1_2 (R.obj hl') fun pp uu ob => x4_4 ob fun uu uu uu uu uu uu uu hs => parts_ok hs
  have hsz : pts.length ≤ sizeLine := Nat.le_trans hfit.1.2 (by decide)
  refine SC.joinGen W' hty st0 hfp haf (fun i v h => by obtain ⟨p, _, t, rfl⟩ := h; exact ⟨_, _, rfl⟩) (fun s' li hm hit => ?_) hsz
  have hli : li.map (·.1) = pts.map partStr := by
    refine List.ext_getElem? fun i => ?_
    have hz := hit.1
    rw [List.size_toArray] at hz
    have hz' : li.length = pts.length := by rw [← hz]; simp [strValues]
    by_cases hi : i < pts.length
    · have e1 : (strValues li).toArray[i]? = some (.str (li[i]'(by (first | lia | omega))).1 (li[i]'(by (first | lia | omega))).2) := by
        simp [strValues, hz', hi]
      obtain ⟨p, hp, t, e2⟩ := hit.2 i _ e1
      rw [List.getElem?_map, List.getElem?_map, hp, List.getElem?_eq_getElem (by (first | lia | omega))]
      injection e2 with e3 _
      simp [e3]
    · rw [List.getElem?_eq_none (by rw [List.length_map]; (first | lia | omega)), List.getElem?_eq_none (by rw [List.length_map]; (first | lia | omega))]
  rw [hli]
  refine ⟨joinOk_of ?_, fun t' k => ?_⟩
  · have := partsLen_sum pts
    have h0 : (("" : Str)).length = 0 := by decide
    rw [h0]
    (first | lia | omega)
  · have K' := K.moved R hm hwr ho hla hnw hgz
    have K1 : Kept C s { s' with toks := k } := ⟨K'.keep, K'.tab, K'.size, K'.gens, K'.gold, K'.drawn, K'.os⟩
    refine kfs kk e2 _ _ ρ (R.kept K1) (K1.step.of_nil) (lr.go K1.step) (.ret (.str _ _ ?_))
    refine strOk_join (by decide +kernel) fun x hx => ?_
    (refine x1_2 (List.mem_map.mp hx) fun q hq rr2 => ?_; subst rr2)
    exact strOk_append (oks q hq).1 (oks q hq).2
end
end Mine.Internal
end
section
open PySem PySem.W PyProof.Rows PySem.Calls
namespace Mine.Internal
structure SpecOk (C : Cfg) (fl fs ff : Addr) : Prop where
  len : findIn C.K (.ref C.ACC) "__len__" = some (some (.ref fl))
  lenF : typeIn C.K (.ref fl) = some (.type "function")
  bool : findIn C.K (.ref C.ACC) "__bool__" = some none
  str : findIn C.K (.ref C.ACC) "__str__" = some (some (.ref fs))
  strF : typeIn C.K (.ref fs) = some (.type "function")
  fstr : findIn C.K (.ref C.VF) "__str__" = some (some (.ref ff))
  fstrF : typeIn C.K (.ref ff) = some (.type "function")
noncomputable abbrev FM := List AV → St → Option (AV × St)
noncomputable def lenA (LF : FM) (l : Nat) (σ : St) : Option (Int × St) := (LF [.loc l] σ).bind fun p => p.1.int?.bind fun n => gd (decide (0 ≤ n ∧ n < 1000000000)) (n, p.2)
noncomputable def lenF (LF : FM) : FM := fun xs σ => (arg1 xs).bind fun x =>
  (x.str?.bind fun y => gd (decide (y.length ≤ 1000000)) (AV.int y.length, σ)).or
  ((x.loc?.bind fun l => (accAt σ l).bind fun _ => (lenA LF l σ).map fun p => (AV.int p.1, p.2)).or
  ((asList σ x).bind fun ys => gd (decide (ys.length ≤ 1000000)) (AV.int ys.length, σ)))
section
variable {C : Cfg} {ρ : Rho} {σ : St} {s : Shared} {A : Around} {E : Value → Shared → Prop} {env : Env} {vars : List Str} {lc : Lc} {p p' : Pos} {fl fs ff : Addr} {d : Nat}
set_option tactic.hygienic false in
theorem len_body (H : CfgOk C) (HS : SpecOk C fl fs ff) {LF : FM} (DL : DenCall C d (.ref fl) LF) {l : Nat} {ini : Int} {ps : List (Str × Str)} {n : Int} {σ' : St} {v : Value} (hA : AOk d A) (R : Rel C ρ σ s) (q : VR C ρ s.heap (.loc l) v) (hl : σ[l]? = some (.acc ini ps)) (h : lenA LF l σ = some (n, σ'))
    {Q : Value → Shared → Prop} (k : ∀ t s' ρ', Rel C ρ' σ' s' → Step C [] ρ ρ' s.heap s'.heap → Q (.int n t) s') : wpAny (model C.prog C.w) A (Builtin.«len» ⟨[v], []⟩) (fun fin s' => ∃ v, fin = .done (.ret v) ∧ Q v s') E s := by
  refine oB h fun p e h => oB h fun n' e' h => oG h fun hb h => ?_
  have hb := of_decide_eq_true hb
  have en : n' = n := congrArg (·.1) h
  have k : ∀ t s' ρ', Rel C ρ' p.2 s' → Step C [] ρ ρ' s.heap s'.heap → Q (.int n' t) s' := fun t s' ρ' R' S' => en ▸ k t s' ρ' ((congrArg (·.2) h : p.2 = σ') ▸ R') S'
  clear h en
  refine R.acc_e hl q fun a dd es n1 n2 vs e0 ho hd he hs => ?_
  unfold Builtin.«len»
  refine wpAny_bind (m := oneArg "len" _) (wpAny_pure ?_)
  refine wpAny_bind (m := callSpecial? (.ref a) (Str.ofString "__len__")) ?_
  refine special_fn (R.kin H) (accInst ho hd) HS.len HS.lenF ?_
  refine DL _ _ _ _ e A _ E s ρ [.ref a] hA R (.cons (.loc e0) .nil) fun v s' ρ' R' S' q' => ?_
  refine q'.int_of e' fun t => ?_
  refine wpAny_bind (wpAny_holding (wpAny_pure ?_))
  refine wpAny_bind (wpAny_letGo ?_)
  show wpAny _ _ (if n' < 0 then _ else _) _ _ _
  rw [if_neg (Int.not_lt.mpr hb.1)]
  show wpAny _ _ (if n' ≥ 2 ^ 63 then _ else _) _ _ _
  rw [if_neg (by (first | lia | omega))]
  exact wpAny_bind (wpAny_mkInt (wpAny_pure ⟨_, rfl, k _ _ _ R'.toks S'⟩))
set_option tactic.hygienic false in
theorem den_len (H : CfgOk C) (HS : SpecOk C fl fs ff) {LF : FM} (DL : DenCall C d (.ref fl) LF) : DenCall C (d + 1) (.builtin "len") (lenF LF) := by
  intro xs σ x σ' hf A Q E s ρ vs hA R q k
  refine oB hf fun y e0 hf => ?_
  revert k
  refine q.arg1_e e0 fun v q1 k => oO hf (fun hf => oB hf fun z e1 hf => oG hf fun hz e => ?_) fun hf => oO hf (fun hf => oB hf fun l el hf => oB hf fun ac hl hf => oM hf fun p e1 e2 => ?_) fun hf => oB hf fun ys e1 hf => oG hf fun hz e => ?_
  · have hz := of_decide_eq_true hz
    exact q1.str_of e1 fun t ok => PyProof.Rows.len_str (by (first | lia | omega)) (kfe k e _ _ ρ R.toks .refl (.int _ _))
  · refine Calls.call_function_entry kind_len plain_len entry_len (args_len1 _) ?_
    exact len_body H HS DL hA.in1 R (AV.loc_inv el ▸ q1) (accAt_inv hl) e1 fun t s' ρ' R' S' => kfe k e2 _ s' ρ' R' S' (.int _ _)
  · refine R.asList_e q1 e1 fun a vs n ho hs => ?_
    have hz := of_decide_eq_true hz
    refine call_len_list (IsL.isList ho) (by rw [List.size_toArray, hs.length]; (first | lia | omega)) ?_
    rw [List.size_toArray, hs.length]
    exact kfe k e _ _ ρ R.toks .refl (.int _ _)
set_option tactic.hygienic false in
theorem truthyA (H : CfgOk C) (HS : SpecOk C fl fs ff) {LF : FM} (DL : DenCall C d (.ref fl) LF) {l : Nat} {ini : Int} {ps : List (Str × Str)} {n : Int} {σ₂ : St} {v : Value} {Q : Bool → Shared → Prop} (hA : AOk (d + 1) A) (R₁ : Rel C ρ σ s) (q₁ : VR C ρ s.heap (.loc l) v) (hl : σ[l]? = some (.acc ini ps)) (e2 : lenA LF l σ = some (n, σ₂))
    (kk : ∀ s' ρ', Rel C ρ' σ₂ s' → Step C [] ρ ρ' s.heap s'.heap → Q (n != 0) s') : wpAny (model C.prog C.w) A (truthy v) Q E s := by
  refine R₁.acc_e hl q₁ fun a dd es n1 n2 vs e0 ho hd he hs => ?_
  have sp : ∀ {nm : Str} {r : Option Value}, findIn C.K (.ref C.ACC) nm = some r → Looks (model C.prog C.w) s.heap (specialOf (.ref a) nm) r := fun e => (accInst ho hd).type.andThen (looks_findIn (R₁.kin H) e)
  have nb : Looks (model C.prog C.w) s.heap (callSpecial? (.ref a) "__bool__") none := by
    unfold callSpecial?
    exact (sp HS.bool).andThen .now
  refine wpAny_bind (nb.here (wpAny_bind ((sp HS.len).here ?_)))
  dsimp only [Option.isNone]
  rw [if_neg Bool.false_ne_true]
  refine wpAny_bind (wpAny_runValue (codeAny_builtin entry_len ?_))
  rw [Around.under_plainId plain_len _]
  refine wpAny_mono (len_body H HS DL hA.in1 R₁ (.loc e0) hl e2 (Q := fun v s' => ∃ t ρ', v = .int n t ∧ Rel C ρ' σ₂ s' ∧ Step C [] ρ ρ' s.heap s'.heap) fun t s' ρ' R' S' => ⟨t, ρ', rfl, R', S'⟩) (fun fin s' h' => ?_) fun uu uu z => z
  refine x1_2 h' fun v ev z => x2_3 z fun t ρ' e4 R' S' => ?_
  rw [ev, e4]
  exact wpAny_pure (kk s' ρ' R' S')
noncomputable def trA (LF : FM) (f : EM) : TM := fun lc σ => (f lc σ).bind fun p => p.1.loc?.bind fun l => (accAt p.2 l).bind fun _ => (lenA LF l p.2).map fun p => (p.1 != 0, p.2)
noncomputable def fmtAt? : AO → Bool
  | .fmt .. => true
  | .list _ => false
  | .acc .. => false
  | .ghost => false
  | .gen .. => false
  | .out _ => false
  | .cell .. => false
  | .ext .. => false
noncomputable def isFmt (σ : St) (l : Nat) : Option Unit := σ[l]?.bind fun o => gd (fmtAt? o) ()
set_option tactic.hygienic false in
theorem isFmt_inv {σ : St} {l : Nat} {u : Unit} (h : isFmt σ l = some u) : ∃ ml cw cwl sp ln ac, σ[l]? = some (.fmt ml cw cwl sp ln ac) := oB h fun o e h => oG h fun z uu => by
  cases o with
  | fmt ml cw cwl sp ln ac => exact ⟨ml, cw, cwl, sp, ln, ac, e⟩
  | _ => exact nomatch z
noncomputable def retStr (o : Option (AV × St)) : Option (AV × St) := o.bind fun p => p.1.str?.map fun y => (AV.str y, p.2)
noncomputable def strF (SF FF : FM) : FM := fun xs σ => (arg1 xs).bind fun x =>
  (x.str?.map fun y => (AV.str y, σ)).or
  (x.loc?.bind fun l => ((accAt σ l).bind fun _ => retStr (SF [.loc l] σ)).or ((isFmt σ l).bind fun _ => retStr (FF [.loc l] σ)))
set_option tactic.hygienic false in
theorem meets_str_newIn {v : Value} {S : PySem.Spec} (hs : ∀ (A : Around) (R : Result → Shared → Prop) (s : Shared), S A R s →
      wpAny (model C.prog C.w) A.in1 (Builtin.Str.strOf v) (fun r s' => R (.ok (.ret r)) s') (fun e s' => R (.error e) s') s) : MeetsIn C.prog C.w (Builtin.«str.__new__» ⟨[.type "str", v], []⟩) S := by
  refine MeetsIn.of_wp fun A R s h => ?_
  rw [str_new_tree v]
  refine wpAny_bind (wpAny_pure ?_)
  refine wpAny_bind (wpAny_of_eq isSubtype_str_str ?_)
  exact wpAny_bind (wpAny_mono (hs A R s h) (fun r s' h' => wpAny_pure ⟨_, rfl, h'⟩) fun uu uu e => e)
set_option tactic.hygienic false in
theorem str_inst {a Cl f : Addr} {ox : Obj} {od : Option Obj} (X : C.K.In s.heap) (I : W.InstAt s.heap a ox Cl od) (hf : findIn C.K (.ref Cl) "__str__" = some (some (.ref f))) (ht : typeIn C.K (.ref f) = some (.type "function")) (hu : A.units + 2 < cLine) {Q : Value → Shared → Prop}
    (k : wpAny (model C.prog C.w) A.in1.in1 (call (.ref f) [.ref a]) (fun v s' => ∃ x t, v = .str x t ∧ Q v s') E s) : wpAny (model C.prog C.w) A (call (.type "str") [.ref a]) Q E s := by
  refine callType_newIn F.called_str (by decide) (F.typeCall_str_1 _) (F.newCall_str_1 _) (fun obj => F.args_object_init_2 obj _) F.entry_str_new
    (meets_str_newIn (S := fun A' R s' => wpAny (model C.prog C.w) A'.in1 (Builtin.Str.strOf (.ref a)) (fun r s' => R (.ok (.ret r)) s') (fun e s' => R (.error e) s') s') fun A R s h => h) ?_
  unfold Builtin.Str.strOf
  rw [if_neg (by simp [Builtin.Str.isExactStr])]
  refine wpAny_bind (wpAny_cRoomFor (by show A.units + 1 + 1 < cLine; (first | lia | omega)) ?_)
  refine wpAny_bind (special_fn X I hf ht (wpAny_mono k (fun v s' h' => ?_) fun uu uu z => z))
  (refine x2_2 (h') fun x t rr2 hq => ?_; clear h'; subst rr2)
  refine wpAny_bind (wpAny_pure ?_)
  exact wpAny_pure ⟨typeIs_str _ _ _, hq⟩
set_option tactic.hygienic false in
theorem den_str' (H : CfgOk C) (HS : SpecOk C fl fs ff) {SF FF : FM} (DS : DenCall C d (.ref fs) SF) (DF : DenCall C d (.ref ff) FF) : DenCall C (d + 2) (.type "str") (strF SF FF) := by
  intro xs σ x σ' hf A Q E s ρ vs hA R q k
  have hu : A.units + 2 < cLine := by have := hA.2.2; (first | lia | omega)
  refine oB hf fun y e0 hf => ?_
  revert k
  refine q.arg1_e e0 fun v q1 k => oO hf (fun hf => oM hf fun z e1 e => ?_) fun hf => oB hf fun l el hf => ?_
  · exact q1.str_of e1 fun t ok => P.str_of_str (kfe k e _ _ ρ R .refl (.str _ _ ok))
  · have q1 := AV.loc_inv el ▸ q1
    refine oO hf (fun hf => oB hf fun ac hl hf => oB hf fun p e1 hf => oM hf fun z ez e => ?_) fun hf => oB hf fun u hl hf => oB hf fun p e1 hf => oM hf fun z ez e => ?_
    · refine R.acc_e (accAt_inv hl) q1 fun a dd es n1 n2 vs e0 ho hd he hs => ?_
      refine str_inst (R.kin H) (accInst ho hd) HS.str HS.strF hu ?_
      exact DS _ _ _ _ e1 _ _ E s ρ [.ref a] hA.in1.in1 R (.cons (.loc e0) .nil) fun v s' ρ' R' S' q' => q'.str_of ez fun t ok => ⟨_, _, rfl, kfe k e _ s' ρ' R' S' (.str _ _ ok)⟩
    · refine x6_1 (isFmt_inv hl) fun ml cw cwl sp ln ac hl => R.fmt_e hl q1 fun a dd es n e0 ho hd he => ?_
      refine str_inst (R.kin H) (fmtInst ho hd) HS.fstr HS.fstrF hu ?_
      exact DF _ _ _ _ e1 _ _ E s ρ [.ref a] hA.in1.in1 R (.cons (.loc e0) .nil) fun v s' ρ' R' S' q' => q'.str_of ez fun t ok => ⟨_, _, rfl, kfe k e _ s' ρ' R' S' (.str _ _ ok)⟩
end
end Mine.Internal
end
section
open PySem PySem.W PyProof.Rows PySem.Calls Builtin Builtin.ObjectAttr Builtin.Getset_descriptor
namespace Mine.Internal
set_option tactic.hygienic false in
theorem pass_list (self : Value) : refuseLoop self "__setattr__" [.type "list", .type "object"] = pure () := by
  unfold refuseLoop
  kernel_rfl
structure StoreOk (C : Cfg) (Cl : Addr) : Prop where
  sa : findIn C.K (.ref Cl) "__setattr__" = some (some (.builtin "object.__setattr__"))
  mro : ∃ cd, clsIn C.K Cl = some cd ∧ cd.hasDict = true ∧ (cd.mro = [.ref Cl, .type "list", .type "object"] ∨ cd.mro = [.ref Cl, .type "object"])
section
variable {C : Cfg} {ρ : Rho} {σ : St} {s : Shared} {A : Around} {E : Value → Shared → Prop} {x Cl dx : Addr} {ox : Obj} {R : Result → Shared → Prop}
theorem osa_any {es : List DictEntry} {n : Nat} {name : Str} {tk : Tok} {v : Value} (H : StoreOk C Cl) (X : C.K.In s.heap) (I : W.InstAt s.heap x ox Cl (some (dictOf es n))) (hd : ox.dict = some dx) (hD : s.heap.get? dx = some (dictOf es n)) (ht : takerIn C.K Cl name = some none)
    (hl : (getL name es).isSome = true) (hz : (W.putL name (PyData.keyHash C.w.params name) (.str name s.toks) v es).length ≤ 1000)
    (k : ∀ h', Heap.SameBut dx s.heap h' → h'.get? dx = some (dictOf (W.putL name (PyData.keyHash C.w.params name) (.str name s.toks) v es) (putN name es n)) → R (.ok (.ret .none)) { s with heap := h', toks := s.toks + 1 }) :
    codeAny (model C.prog C.w) A (.call (.builtin "object.__setattr__") ⟨[.ref x, .str name tk, v], []⟩) R s := by
  have SF := PySem.F.store_object
  (refine x1_3 (H.mro) fun cd hc hhd hmro => ?_)
  have sub : Looks (model C.prog C.w) s.heap (isInstance (.ref x) (.type "object")) true := I.type.andThen (looks_mroIn X (by unfold mroIn; rw [hc, Option.bind_some]; rcases hmro with e | e <;> rw [e] <;> rfl))
  refine codeAny_call_builtin SF.slot.plain SF.entry (@check_slot (model C.prog C.w) _ _ s "object.__setattr__" "object" "__setattr__" (.ref x) [.str name tk, v] [] _ SF.kind SF.split sub (SF.args (.ref x) (.str name tk) v) ?_)
  (refine x1_2 (Option.bind_eq_some_iff.mp ht) fun attr ha hr => ?_)
  have hm : Looks (model C.prog C.w) s.heap (mroOf (.ref Cl)) cd.mro := (looks_clsIn X hc).andThen .now
  have L3 : Looks (model C.prog C.w) s.heap (storeTaker? attr) none := by
    cases attr with
    | none => exact .now
    | some a =>
      (refine x1_2 (Option.map_eq_some_iff.mp hr) fun b hb hr' => ?_)
      refine (looks_takesIn X hb).andThen ?_
      cases b
      · exact .now
      · cases hr'
  rw [osa_eq, refuse_eq]
  refine wpAny_bind (wpAny_bind (I.type.here (wpAny_bind (hm.here ?_))))
  have pass : refuseLoop (.ref x) "__setattr__" cd.mro = pure () := by
    rcases hmro with e | e
    · rw [e, refuseLoop_ref]; exact pass_list _
    · rw [e, refuseLoop_ref]; exact SF.passes _
  rw [pass]
  refine wpAny_pure (wpAny_bind (I.type.here (wpAny_bind ((looks_findIn X ha).here (wpAny_bind (L3.here ?_))))))
  have hsb := Heap.SameBut.update s.heap dx (Obj.putName name (PyData.keyHash C.w.params name) (.str name s.toks) v)
  have D' : (s.heap.update dx (Obj.putName name (PyData.keyHash C.w.params name) (.str name s.toks) v)).get? dx = some (dictOf (W.putL name (PyData.keyHash C.w.params name) (.str name s.toks) v es) (putN name es n)) := by
    rw [Heap.get?_update_self _ hD (by rw [putName_dict]; rfl), putName_dict]
  obtain ⟨hx, hcl, hn, -⟩ := I
  obtain ⟨oc, odi, oda, osl⟩ := ox
  dsimp only at hcl hd
  subst hcl hd
  refine wpAny_bind (wpAny_pure (wpAny_bind (wpAny_bind (wpAny_loadPart hx (wpAny_bind ((looks_clsIn X hc).here ?_))))))
  rw [hhd]
  refine wpAny_pure (a := some dx) (wpAny_bind (wpAny_pure (wpAny_bind ?_)))
  unfold nsSet
  refine wpAny_bind (wpAny_bind (wpAny_askSetting (wpAny_pure (wpAny_bind (wpAny_mkText (wpAny_bind (wpAny_loadPart hD ?_)))))))
  dsimp only [dictOf]
  have c : (!es.toArray.any (·.key.isStr name) && es.toArray.any (·.refKey)) = false := by
    unfold getL at hl
    rw [← Array.any_toList, ← Array.any_toList]
    split at hl
    · rename_i en he
      rw [List.any_eq_true.mpr ⟨en, List.mem_of_find?_eq_some he, List.find?_some he⟩]; rfl
    · split at hl
      · cases hl
      · rename_i z; rw [Bool.not_eq_true] at z; rw [z, Bool.and_false]
  rw [aRefKeyMayBeTheName_at, c]
  refine wpAny_updatePart hD ?_
  refine wpAny_bind (wpAny_lookBehind D' (pastItsLine_dict (by rw [List.size_toArray, sizeLine_eq]; (first | lia | omega))) ?_)
  exact wpAny_pure (k _ hsb D')
set_option tactic.hygienic false in
theorem set_any {es : List DictEntry} {n : Nat} {name : Str} {v : Value} {Q : Unit → Shared → Prop} (H : StoreOk C Cl) (X : C.K.In s.heap) (I : W.InstAt s.heap x ox Cl (some (dictOf es n))) (hd : ox.dict = some dx) (hD : s.heap.get? dx = some (dictOf es n)) (ht : takerIn C.K Cl name = some none)
    (hl : (getL name es).isSome = true) (hz : (W.putL name (PyData.keyHash C.w.params name) (.str name (s.toks + 1)) v es).length ≤ 1000)
    (k : ∀ h', Heap.SameBut dx s.heap h' → h'.get? dx = some (dictOf (W.putL name (PyData.keyHash C.w.params name) (.str name (s.toks + 1)) v es) (putN name es n)) → Q () { s with heap := h', toks := s.toks + 2 }) :
    wpAny (model C.prog C.w) A (setAttr (.ref x) name v) Q E s :=
  set_plain X I H.sa (osa_any (s := { s with toks := s.toks + 1 }) H X I hd hD ht hl hz fun h' a b => k h' a b)
end
noncomputable def iniS (g f : EM) : SM := fun lc σ => (f lc σ).bind fun p => p.1.int?.bind fun i => (g lc p.2).bind fun q => q.1.loc?.bind fun l => (accAt q.2 l).map fun a => (.next, lc, q.2.set l (.acc i a.2))
section
variable {C : Cfg} {ρ : Rho} {σ : St} {s : Shared} {A : Around} {E : Value → Shared → Prop} {env : Env} {vars : List Str} {lc : Lc} {p p' : Pos} {d : Nat}
set_option tactic.hygienic false in
theorem ini_put {h : Heap} {ini i : Int} {es : List DictEntry} {v t : Value} {tk : Tok} {hsh : Int} (he : EntR C ρ h (accAttrs ini) es) (q : VR C ρ h (.int i) v) : (getL "_initial_size" es).isSome = true ∧ EntR C ρ h (accAttrs i) (W.putL "_initial_size" hsh t v es) ∧ (W.putL "_initial_size" hsh t v es).length ≤ 1000 := by
  unfold accAttrs at he ⊢
  cases he with | @cons k x tt w r es' a b =>
  cases b
  have e : (Value.str ("_initial_size" : Str) tt).isStr "_initial_size" = true := by simp [Value.isStr]
  refine ⟨?_, ?_, ?_⟩
  · unfold getL
    rw [List.find?_cons_of_pos (by exact e)]
    rfl
  · unfold W.putL
    dsimp only
    rw [if_pos e]
    exact .cons q .nil
  · unfold W.putL
    dsimp only
    rw [if_pos e]
    simp
theorem den_ini (H : CfgOk C) (HS : StoreOk C C.ACC) (ht : takerIn C.K C.ACC "_initial_size" = some none) {o e : Expr} {g f : EM} (D0 : DenE C d env vars o g) (D : DenE C d env vars e f) (hs : swapsWith e (some (.Attribute o "_initial_size" p')) p.line env = pure false) :
    DenS C d env vars (.Assign [.Attribute o "_initial_size" p'] e p) (iniS g f) := by
  intro lc σ fl lc' σ' hf A Q E s ρ hA R lr kk
  refine oB hf fun y e1 hf => oB hf fun i ei hf => oB hf fun z e2 hf => oB hf fun l el hf => oM hf fun ac hl e3 => ?_
  refine plainObj_wpAny_Assign_Attribute (D _ _ _ _ e1 A _ E s ρ hA R lr fun v s₁ ρ₁ R₁ S₁ q₁ => D0 _ _ _ _ e2 A _ E s₁ ρ₁ hA R₁ (lr.go S₁) fun ov s₂ ρ₂ R₂ S₂ q₂ => ?_) hs
  have q₂ : VR C ρ₂ s₂.heap (.loc l) ov := AV.loc_inv el ▸ q₂
  have q₁ : VR C ρ₁ s₁.heap (.int i) v := AV.int_inv ei ▸ q₁
  refine R₂.acc_e (accAt_inv hl) q₂ fun a dd es n1 n2 vs e0 ho hd he hs => ?_
  have P := ini_put (t := .str "_initial_size" (s₂.toks + 1)) (tk := 0) (hsh := PyData.keyHash C.w.params "_initial_size") he (q₁.go S₂)
  refine set_any HS (R₂.kin H) (accInst ho hd) rfl hd ht P.1 P.2.2 fun h' hsb hd' => ?_
  have S : Step C [] ρ₂ ρ₂ s₂.heap h' := stepMut (.inr ⟨_, List.mem_of_getElem? e0, .inr rfl⟩) hsb
  have hne : a ≠ dd := (accNe ho hd).symm
  (refine x0_2 (R₂.upd (n := s₂.toks + 2) e0 (.inr rfl) hsb (.acc ((hsb.2 _ hne).trans ho) hd' (P.2.1.go S) (hs.go S)) rfl) fun R' S' => ?_)
  exact kfs kk e3 _ _ ρ₂ R' ((S₁.trans S₂).trans S').of_nil (lr.go ((S₁.trans S₂).trans S')) .next
end
end Mine.Internal
end
section
open PySem PySem.W PyProof.Rows PySem.Calls
namespace Mine.Internal
structure AccMake (C : Cfg) (fI : Addr) : Prop where
  obj : ∃ oc od cd sl, C.K.lookup C.ACC = some ⟨oc, od, .cls cd, sl⟩ ∧ cd.hasDel = false ∧ (sl.toList[4]?).join = some (.builtin "list.__new__") ∧ cd.mro = [.ref C.ACC, .type "list", .type "object"]
  call : specialIn C.K (.ref C.ACC) "__call__" = some (some (.builtin "type.__call__"))
  typ : instIn C.K (.ref C.ACC) (.type "type") = some true
  init : findIn C.K (.ref C.ACC) "__init__" = some (some (.ref fI))
  initF : typeIn C.K (.ref fI) = some (.type "function")
set_option tactic.hygienic false in
theorem ln_args (a v : Value) : argsOk "list.__new__" ⟨[a, v], []⟩ := by unfold argsOk; kernel_rfl
set_option tactic.hygienic false in
theorem ln_kind : builtinKind "list.__new__" = some .builtinFn := by decide +kernel
set_option tactic.hygienic false in
theorem ln_split : splitId "list.__new__" = some ("list", "__new__") := by decide +kernel
noncomputable abbrev accObj0 (C : Cfg) (dx : Addr) : Obj := ⟨.ref C.ACC, some dx, .seq #[] 0, #[]⟩
section
variable {C : Cfg} {A : Around} {R : Result → Shared → Prop} {h : Heap} {g : Array GenState} {d : Drawn} {t : Nat} {os : OsState} {fI : Addr}
set_option tactic.hygienic false in
theorem acc_looks (H : AccMake C fI) (X : C.K.In h) : ∃ cd, clsIn C.K C.ACC = some cd ∧ cd.hasDel = false ∧ Looks (model C.prog C.w) h (mroOf (.ref C.ACC)) [.ref C.ACC, .type "list", .type "object"] ∧ Looks (model C.prog C.w) h (Bind.madeBy (.ref C.ACC)) (some "list.__new__") ∧ Looks (model C.prog C.w) h (Bind.staticBase (.ref C.ACC)) (.ref C.ACC) ∧
    Looks (model C.prog C.w) h (isSubtype (.ref C.ACC) (.ref C.ACC)) true ∧ Looks (model C.prog C.w) h (isSubtype (.ref C.ACC) (.type "list")) true := by
  (refine x4_4 (H.obj) fun oc od cd sl ho e2 e3 hl => ?_)
  have hc : clsIn C.K C.ACC = some cd := by unfold clsIn; rw [ho]
  have hm : Looks (model C.prog C.w) h (mroOf (.ref C.ACC)) cd.mro := (looks_clsIn X hc).andThen .now
  rw [hl] at hm
  have made : Looks (model C.prog C.w) h (Bind.madeBy (.ref C.ACC)) (some "list.__new__") := by
    intro A Q E s k q
    unfold Bind.madeBy
    refine wpAny_bind (hm A _ E s k ?_)
    rw [List.forIn_cons]
    refine wpAny_bind (wpAny_bind (wpAny_bind (wpAny_bind (wpAny_loadPart (k _ _ (X _ _ ho)) (wpAny_pure ?_)))))
    dsimp only
    rw [← Array.getElem?_toList, e3]
    exact wpAny_pure (wpAny_pure (wpAny_pure q))
  refine ⟨cd, hc, e2, hm, made, ?_, looks_mroIn X ?_, looks_mroIn X ?_⟩
  · intro A Q E s k q
    unfold Bind.staticBase
    refine wpAny_bind (hm A _ E s k ?_)
    rw [List.forIn_cons]
    exact wpAny_bind (wpAny_bind (wpAny_bind (made A _ E s k (wpAny_pure (wpAny_pure (wpAny_pure q))))))
  · unfold mroIn; rw [hc, Option.bind_some, hl]; simp
  · unfold mroIn; rw [hc, Option.bind_some, hl]; simp
theorem acc_new (H : AccMake C fI) (X : C.K.In h) {v : Value} (hq : R (.ok (.ret (.ref (h.objs.size + 1)))) ⟨(h.push emptyDict).push (accObj0 C h.objs.size), g, d, t, os⟩) :
    codeAny (model C.prog C.w) A (.call (.builtin "list.__new__") ⟨[.ref C.ACC, v], []⟩) R ⟨h, g, d, t, os⟩ := by
  (refine x1_7 (acc_looks H X) fun cd hc hdel hm made base self top => ?_)
  obtain ⟨oD, hD1, hD2⟩ : ∃ oD, h.get? C.ACC = some oD ∧ oD.data = .cls cd := by
    have hD := hc
    unfold clsIn at hD
    split at hD
    · rename_i ho; cases hD; exact ⟨_, X _ _ ho, rfl⟩
    · exact ns hD
  refine codeAny_of_tree ?_
  show wpAny _ A.in1 (do checkBuiltinCall "list.__new__" ⟨[.ref C.ACC, v], []⟩; again (.builtin "list.__new__" ⟨[.ref C.ACC, v], []⟩)) _ _ _
  refine wpAny_bind ?_
  have ha := ln_args (.ref C.ACC) v
  simp only [checkBuiltinCall, ln_kind, ln_split]
  rw [if_pos (by decide)]
  refine wpAny_bind (ks_wpAny_isType_cls hD1 hD2 ?_)
  rw [if_neg (by decide)]
  refine wpAny_bind (top.at ?_)
  rw [if_neg (by decide)]
  refine wpAny_bind (base.at (wpAny_bind (made.at ?_)))
  dsimp only
  rw [if_neg (by decide +kernel)]
  have goOn : wpAny (model C.prog C.w) A.in1 (again (.builtin "list.__new__" ⟨[.ref C.ACC, v], []⟩)) (fun fin s' => match fin with | .done f => R (.ok f) s' | .again c' => c'.quiet = true ∧ codeAny (model C.prog C.w) A c' R s') (fun e s' => R (.error e) s') ⟨h, g, d, t, os⟩ := by
    refine wpAny_pure ⟨plainId_quiet F.plain_list_new _, codeAny_builtin_stack F.entry_list_new rfl fun p st => ?_⟩
    rw [Around.under_plainId F.plain_list_new _]
    dsimp only
    rw [owner_list_new]
    refine wpAny_bind (ks_wpAny_isType_cls hD1 hD2 ?_)
    rw [if_neg (by decide)]
    refine wpAny_bind (top.at ?_)
    rw [if_neg (by decide)]
    refine wpAny_bind (wpAny_pure ?_)
    rw [if_neg (show ¬ (!typeHasDict (Value.ref C.ACC)) = true from Bool.false_ne_true)]
    refine wpAny_bind (wpAny_newObj_type ?_ (by size_fits))
    dsimp only
    refine wpAny_bind ?_
    show wpAny _ _ (newObjAsIs _ _ _) _ _ _
    unfold newObjAsIs classHasDel
    refine wpAny_bind (wpAny_alloc (wpAny_bind (wpAny_bind (wpAny_load (Heap.get?_push_of_some _ (Heap.get?_push_of_some _ hD1)) ?_))))
    rw [hD2]
    refine wpAny_pure ?_
    rw [hdel]
    refine wpAny_pure (wpAny_pure ?_)
    show R _ _
    rw [Heap.size_push]
    exact hq
  cases hsig : Manifest.signature? "list.__new__" with
  | none => exact wpAny_pure goOn
  | some sig =>
    simp only [argsOk, hsig] at ha
    have h2 : Bind.checkArgs "list.__new__" sig ⟨[.ref C.ACC, v], []⟩ = pure () := ha
    show wpAny _ _ (Bind.checkArgs "list.__new__" sig ⟨[.ref C.ACC, v], []⟩) _ _ _
    rw [h2]; exact wpAny_pure goOn
set_option tactic.hygienic false in
theorem acc_make (H : AccMake C fI) (X : C.K.In h) {v : Value}
    (hq : codeAny (model C.prog C.w) (A.under (.builtin "type.__call__" ⟨[.ref C.ACC, v], []⟩)) (.call (.ref fI) ⟨[.ref (h.objs.size + 1), v], []⟩) (InitBack (h.objs.size + 1) R) ⟨(h.push emptyDict).push (accObj0 C h.objs.size), g, d, t, os⟩) :
    codeAny (model C.prog C.w) A (.call (.ref C.ACC) ⟨[v], []⟩) R ⟨h, g, d, t, os⟩ := by
  (refine x1_7 (acc_looks H X) fun cd hc hdel hm made base self top => ?_)
  obtain ⟨oc, od, cd', sl, hK, -, -, -⟩ := H.obj
  have hC := X _ _ hK
  have call := looks_specialIn (M := model C.prog C.w) X H.call
  have typ := looks_instIn (M := model C.prog C.w) X H.typ
  refine codeAny_of_tree ?_
  show wpAny _ _ (callAny (.ref C.ACC) _) _ _ _
  refine nd_load hC ?_
  show wpAny _ _ (callAny.viaDunder (.ref C.ACC) _) _ _ _
  unfold callAny.viaDunder
  refine wpAny_bind (call.at ?_)
  dsimp only
  rw [tc_bind]
  refine wpAny_bind (wpAny_pure (wpAny_bind (wpAny_pure ?_)))
  refine wpAny_pure (a := Fin.again (.call (.builtin "type.__call__") ⟨[.ref C.ACC, v], []⟩)) (And.intro rfl ?_)
  refine codeAny_call_builtin_at (Code.quiet_builtin _ (by decide +kernel)) entry_typeCall (check_slot tc_kind tc_split typ (tc_args _ _ _) ?_)
  unfold Builtin.«type.__call__»
  repeat (first | simp only [List.isEmpty_cons, Bool.false_eq_true, if_false] | with_reducible refine wpAny_call ?_ | lk)
  refine acc_new H X ?_
  have k : ∀ b o, h.get? b = some o → ((h.push emptyDict).push (accObj0 C h.objs.size)).get? b = some o := fun b o e => Heap.get?_push_of_some _ (Heap.get?_push_of_some _ e)
  have hx : ((h.push emptyDict).push (accObj0 C h.objs.size)).get? (h.objs.size + 1) = some (accObj0 C h.objs.size) := by heap_get
  have t1 : Looks (model C.prog C.w) ((h.push emptyDict).push (accObj0 C h.objs.size)) (typeOf (.ref (h.objs.size + 1))) (.ref C.ACC) := (Looks.ld hx).andThen .now
  have s1 := self.keeps k
  have i1 := (looks_findIn (M := model C.prog C.w) X H.init).keeps k
  have b1 := (bind_fn (M := model C.prog C.w) X (.ref (h.objs.size + 1)) H.initF).keeps k
  unfold isInstance callSpecial? specialOf
  repeat (first | with_reducible refine wpAny_call ?_ | lk)
  refine codeAny_mono hq fun r s' z => ?_
  rcases r with e | (v | _ | _ | _) <;> first | exact z | exact z.elim | skip
  obtain ⟨rfl, z⟩ := z
  exact wpAny_pure (wpAny_pure z)
end
end Mine.Internal
end
section
open PySem PySem.W PyProof.Rows PySem.Calls
namespace Mine.Internal
section
variable {C : Cfg} {ρ : Rho} {σ : St} {s : Shared} {A : Around} {E : Value → Shared → Prop} {env : Env} {vars : List Str} {lc : Lc} {body : List Stmt} {p p' : Pos} {d : Nat}
set_option tactic.hygienic false in
theorem init_any {a : Addr} {c : Value} {dd : Option Addr} {items : Array Value} {n : Nat} {sl : Array (Option Value)} {Q : Fin → Shared → Prop} (ho : s.heap.get? a = some ⟨c, dd, .seq items n, sl⟩) (hz : items.size ≤ sizeLine)
    (k : Q (.done (.ret .none)) { s with heap := s.heap.update a (Obj.mapSeq fun uu => #[]) }) : wpAny (model C.prog C.w) A (Builtin.«list.__init__» ⟨[.ref a], []⟩) Q E s := by
  obtain ⟨hp, g, dr, tk, os⟩ := s
  have hz' : ((fun _ : Array Value => (#[] : Array Value)) items).size ≤ sizeLine + 1 := Nat.zero_le _
  wp_walk using (wpAny_updateSeq ho rfl (hz := hz) (_hz' := hz')), wpAny_loadPart' ho
  exact k
noncomputable def superInitS : SM := fun lc σ => (selfL lc).bind fun l => (accAt σ l).bind fun a => gd (decide (a.2.length ≤ sizeLine)) (.next, lc, σ.set l (.acc a.1 []))
theorem den_superInit {d : Nat} (H : CfgOk C) (HC : ClsOk C) (He : EnvOk env vars) (HS : SupCls C) (SO : SupOk C env vars) {p0 p1 apos p pr : Pos} (hf : alongIn C.K "__init__" [.type "list", .type "object"] = some (some (.builtin "list.__init__"))) (hp : (apos.endLine == p.line) = true) (hi : interactive env = false)
    (hs : swapsWith (.Call (.Attribute (.Call (.Name "super" p0) [] [] p1) "__init__" apos) [] [] p) none pr.line env = pure false) :
    DenSAt C d env vars body (.Expr (.Call (.Attribute (.Call (.Name "super" p0) [] [] p1) "__init__" apos) [] [] p) pr) superInitS := by
  intro lc σ fl lc' σ' hf' A Q E s ρ hA R lr kk
  refine oB hf' fun l hself hf' => oB hf' fun ac hl hf' => oG hf' fun hz e2 => ?_
  have hl := accAt_inv hl
  refine ks_wpAt_Expr_any (super_call H HC He HS SO sup_init (by decide) hf hp (by decide +kernel) F.entry_list_init R lr (selfL_inv hself) hl (fun uu uu uu q => by rw [sig_init]; exact wpAny_pure q) fun a dd s' e0 R' S' => ?_) hi hs
  refine R'.acc_at e0 hl fun es n n' vs ho hd he hs => ?_
  refine init_any ho (by rw [List.size_toArray, hs.length, List.length_map]; exact of_decide_eq_true hz) ⟨_, rfl, ?_⟩
  have hsb := Heap.SameBut.update s'.heap a (Obj.mapSeq fun uu => #[])
  have S : Step C [] ρ ρ s'.heap (s'.heap.update a (Obj.mapSeq fun uu => #[])) := stepMut (.inr ⟨_, List.mem_of_getElem? e0, .inl rfl⟩) hsb
  exact x0_2 (R'.upd (n := s'.toks) e0 (.inl rfl) hsb (.acc (vs := []) (parts := []) (mapSeq_at ho (fun uu => #[])) ((hsb.2 _ (accNe ho hd)).trans hd) (he.go S) .nil) rfl) fun R'' S'' => kfs kk e2 _ _ _ R'' (S'.trans S'').of_nil (lr.go (S'.trans S'')) .next
end
end Mine.Internal
end
section
open PySem PySem.W PyProof.Rows PySem.Calls
namespace Mine.Internal
section
variable {C : Cfg} {ρ ρ' : Rho} {σ σ' : St} {s : Shared} {L : Addr} {h' : Heap}
set_option tactic.hygienic false in
theorem dict_noSeq {h : Heap} {es : List DictEntry} {n : Nat} (hD : h.get? L = some (dictOf es n)) : ∀ a o vs k, a ∈ [L] → h.get? a = some o → o.data ≠ .seq vs k := one_noSeq hD fun uu uu => Data.noConfusion
set_option tactic.hygienic false in
theorem Rel.writeD (R : Rel C ρ σ s) {es : List DictEntry} {k : Nat} (hD : s.heap.get? L = some (dictOf es k)) (hm : ¬ Mut C ρ L) (hl : C.s₁.heap.objs.size ≤ L) (hs : Heap.SameBut L s.heap h') {n : Nat} : Rel C ρ σ { s with heap := h', toks := n } :=
  R.writeX hD (fun uu => Data.noConfusion) (fun uu uu => Data.noConfusion) hm hl hs
set_option tactic.hygienic false in
theorem EntR.snoc {h : Heap} {k : Str} {x : AV} {t : Tok} {v : Value} : ∀ {r : List (Str × AV)} {es : List DictEntry}, EntR C ρ h r es → VR C ρ h x v → EntR C ρ h (r ++ [(k, x)]) (es ++ [⟨PyData.keyHash C.w.params k, .str k t, v⟩]) := by
  intro r es q a
  induction q with
  | nil => exact .cons a .nil
  | cons b _ ih => exact .cons b ih
set_option tactic.hygienic false in
theorem EntR.length {h : Heap} : ∀ {r : List (Str × AV)} {es : List DictEntry}, EntR C ρ h r es → es.length = r.length := fun q => q.rec (motive := fun r es uu => es.length = r.length) rfl fun uu uu ih => congrArg (· + 1) ih
theorem putL_new {name : Str} {hsh : Int} {key v : Value} : ∀ {es : List DictEntry}, getL name es = some none → W.putL name hsh key v es = es ++ [⟨hsh, key, v⟩]
  | [], _ => rfl
  | e :: es, h => by
    unfold getL at h
    rw [List.find?_cons] at h
    split at h
    · rename_i q; split at q
      · cases h
      · rename_i hne
        cases h
    · rename_i q
      split at q
      · cases q
      · rename_i hne
        unfold W.putL
        rw [if_neg (by rw [hne]; exact Bool.false_ne_true)]
        have : getL name es = some none := by
          unfold getL
          rw [q]
          dsimp only
          split at h
          · exact ns h
          · rename_i z
            rw [List.any_cons] at z
            rw [if_neg]
            intro y
            exact z (by rw [y, Bool.or_true])
        rw [putL_new this]
        rfl
structure Pend (C : Cfg) (ρ : Rho) (σ : St) (s : Shared) (L : Addr) (vars : List Str) (lc : Lc) (x dx Cl : Addr) (ox : Obj) (attrs : List (Str × AV)) : Prop where
  rel : Rel C ρ σ s
  lc : LcR C ρ s.heap L vars lc
  self : ∃ m, s.heap.Ns L m ∧ m "self" = some (.ref x)
  ho : s.heap.get? x = some ox
  hd : ∃ es n, s.heap.get? dx = some (dictOf es n) ∧ EntR C ρ s.heap attrs es
  nx : ¬ Mut C ρ x
  nd : ¬ Mut C ρ dx
  lx : C.s₁.heap.objs.size ≤ x
  ld : C.s₁.heap.objs.size ≤ dx
  cls : ox.cls = .ref Cl
  no : notCls ox = true
  dict : ox.dict = some dx
  ne : x ≠ dx
  nL : L ≠ dx
set_option tactic.hygienic false in
theorem Pend.go {vars : List Str} {lc : Lc} {x dx Cl : Addr} {ox : Obj} {attrs : List (Str × AV)} {s' : Shared} (P : Pend C ρ σ s L vars lc x dx Cl ox attrs) (R : Rel C ρ' σ' s') (S : Step C [] ρ ρ' s.heap s'.heap) : Pend C ρ' σ' s' L vars lc x dx Cl ox attrs := by
  (refine x2_2 (P.hd) fun es n hD he => ?_)
  (refine x1_2 (P.self) fun m hm hs => ?_)
  exact ⟨R, P.lc.go S, ⟨m, hm.at fun o e => S.keep _ _ e P.lc.2.1 (by simp), hs⟩, S.keep _ _ P.ho P.nx (by simp), ⟨es, n, S.keep _ _ hD P.nd (by simp), he.go S⟩, Mut.grow S (Heap.lt_size P.ho) P.nx, Mut.grow S (Heap.lt_size hD) P.nd, P.lx, P.ld, P.cls, P.no, P.dict, P.ne, P.nL⟩
end
section
variable {C : Cfg} {ρ ρ' : Rho} {σ σ' : St} {s : Shared} {A : Around} {E : Value → Shared → Prop} {env : Env} {vars : List Str} {lc : Lc} {x dx Cl : Addr} {ox : Obj} {attrs : List (Str × AV)} {d : Nat}
theorem init_step (H : CfgOk C) (He : EnvOk env vars) (HS : StoreOk C Cl) {name : Str} (ht : takerIn C.K Cl name = some none) {e : Expr} {f : EM} (D : DenE C d env vars e f) {y : AV} (hf : f lc σ = some (y, σ')) (hn : attrs.lookup name = none) (hlen : attrs.length ≤ 100) (hself : env.kindOf "self" = some .local)
    (hA : AOk d A) (P : Pend C ρ σ s env.locals vars lc x dx Cl ox attrs) {p0 p1 p2 : Pos} (hs : swapsWith e (some (.Attribute (.Name "self" p0) name p1)) p2.line env = pure false) {Q : Flow → Shared → Prop}
    (k : ∀ s' ρ', Pend C ρ' σ' s' env.locals vars lc x dx Cl ox (attrs ++ [(name, y)]) → Step C [dx] ρ ρ' s.heap s'.heap → Q .next s') : wpAny (model C.prog C.w) A (exec (.Assign [.Attribute (.Name "self" p0) name p1] e p2) env) Q E s := by
  refine plainObj_wpAny_Assign_Attribute (D _ _ _ _ hf A _ E s ρ hA P.rel P.lc fun v s₁ ρ₁ R₁ S₁ q₁ => ?_) hs
  have P₁ := P.go R₁ S₁
  (refine x2_2 (P₁.hd) fun es n hD he => ?_)
  (refine x1_2 (P₁.self) fun m hm hms => ?_)
  refine lname He.out hself hm hms (by decide) ?_
  have ge := entR_get (name := name) he
  rw [hn] at ge
  have pe := putL_new (hsh := PyData.keyHash C.w.params name) (key := .str name (s₁.toks + 1)) (v := v) ge
  refine set_any HS (R₁.kin H) ⟨P₁.ho, P₁.cls, P₁.no, by rw [P₁.dict]; exact hD⟩ P₁.dict hD ht (by rw [ge]; rfl) (by rw [pe, List.length_append, he.length]; show attrs.length + 1 ≤ 1000; (first | lia | omega)) fun h' hsb hd' => ?_
  rw [pe] at hd'
  have S : Step C [dx] ρ₁ ρ₁ s₁.heap h' := stepWrite hsb
  have W := dict_noSeq hD
  have lcc := P₁.lc
  refine k _ ρ₁ ⟨R₁.writeD hD P₁.nd P₁.ld hsb, ?_, ⟨m, hm.at fun o e => (hsb.2 _ P.nL).trans e, hms⟩, (hsb.2 _ P.ne).trans P₁.ho, ⟨_, _, hd', (he.step S W).snoc (q₁.step S W)⟩, P₁.nx, P₁.nd, P.lx, P.ld, P.cls, P.no, P.dict, P.ne, P.nL⟩ (S₁.of_nil.trans S)
  obtain ⟨⟨m', hn', hv⟩, hm', hl', hz'⟩ := lcc
  refine ⟨⟨m', hn'.at fun o e => (hsb.2 _ P.nL).trans e, fun i x e => ?_⟩, hm', hl', hz'⟩
  (refine x2_3 (hv i x e) fun n' v' a b c => ?_)
  exact ⟨n', v', a, b, c.step S W⟩
end
end Mine.Internal
end
section
open PySem PySem.W PyProof.Rows PySem.Calls
namespace Mine.Internal
section
variable {C : Cfg} {ρ ρ' : Rho} {σ σ' : St} {s : Shared} {h : Heap} {p : Addr × Addr}
set_option tactic.hygienic false in
theorem mutSnoc {a : Addr} (n : ¬ Mut C ρ a) (h1 : a ≠ p.1) (h2 : a ≠ p.2) : ¬ Mut C (ρ ++ [p]) a := by
  rintro (t | ⟨q, hq, e⟩)
  · exact n (.inl t)
  · rcases List.mem_append.mp hq with hq | hq
    · exact n (.inr ⟨q, hq, e⟩)
    · cases List.mem_singleton.mp hq
      rcases e with e | e
      · exact h1 e.symm
      · exact h2 e.symm
set_option tactic.hygienic false in
theorem VR.adopt (k : ∀ a o, h.get? a = some o → (o.cls = .type "tuple" ∨ o.cls = .type "list") → a ≠ p.1 ∧ a ≠ p.2) {x : AV} {v : Value} (q : VR C ρ h x v) : VR C (ρ ++ [p]) h x v :=
  VR.rec (motive_1 := fun x v uu => VR C (ρ ++ [p]) h x v) (motive_2 := fun xs vs uu => VRs C (ρ ++ [p]) h xs vs) .none (fun b => .bool b) (fun i t => .int i t) (fun x t ok => .str x t ok)
    (fun ho hm uu ih => .tup ho (mutSnoc hm (k _ _ ho (.inl rfl)).1 (k _ _ ho (.inl rfl)).2) ih) (fun ho hm uu ih => .lst ho (mutSnoc hm (k _ _ ho (.inr rfl)).1 (k _ _ ho (.inr rfl)).2) ih)
    (fun e => .loc (by rw [List.getElem?_append_left (List.getElem?_eq_some_iff.mp e).1]; exact e)) .nil (fun uu uu a b => .cons a b) q
set_option tactic.hygienic false in
theorem EntR.adopt (k : ∀ a o, h.get? a = some o → (o.cls = .type "tuple" ∨ o.cls = .type "list") → a ≠ p.1 ∧ a ≠ p.2) {r : List (Str × AV)} {es : List DictEntry} (q : EntR C ρ h r es) : EntR C (ρ ++ [p]) h r es := q.map (·.adopt k)
set_option tactic.hygienic false in
theorem Rel.adopt (R : Rel C ρ σ s) {o : AO} (k : ∀ a o, s.heap.get? a = some o → (o.cls = .type "tuple" ∨ o.cls = .type "list") → a ≠ p.1 ∧ a ≠ p.2) (n1 : ¬ Mut C ρ p.1) (n2 : ¬ Mut C ρ p.2) (l1 : C.s₁.heap.objs.size ≤ p.1) (l2 : C.s₁.heap.objs.size ≤ p.2)
    (ho : ObjR C (ρ ++ [p]) s.heap p o) (ng : o.isGen = false) : Rel C (ρ ++ [p]) (σ ++ [o]) s := by
  refine ⟨R.old, R.tab, fun q hq => ?_, ?_, by simp [R.len], fun l q o' e e' => ?_, R.gens.snoc R.len ng, R.drawn, R.os, R.size⟩
  · rcases List.mem_append.mp hq with hq | hq
    · exact R.lo q hq
    · cases List.mem_singleton.mp hq; exact ⟨l1, l2⟩
  · refine List.pairwise_append.mpr ⟨R.dis, List.pairwise_singleton .., fun a ha b hb => ?_⟩
    cases List.mem_singleton.mp hb
    exact ⟨fun z => n1 (.inr ⟨a, ha, .inl z⟩), fun z => n2 (.inr ⟨a, ha, .inl z⟩), fun z => n1 (.inr ⟨a, ha, .inr z⟩), fun z => n2 (.inr ⟨a, ha, .inr z⟩)⟩
  · by_cases hl : l < ρ.length
    · rw [List.getElem?_append_left hl] at e
      rw [List.getElem?_append_left (R.len ▸ hl)] at e'
      exact (R.st l q o' e e').move (fun uu z => z) (fun uu z => z) (·.adopt k) fun uu z => z.grow _
    · have hl' : ¬ l < σ.length := R.len ▸ hl
      rw [List.getElem?_append_right (Nat.not_lt.mp hl)] at e
      rw [List.getElem?_append_right (Nat.not_lt.mp hl')] at e'
      rw [List.getElem?_singleton] at e e'
      exact sf e fun uu e => sf e' fun uu e' => Option.some.inj e ▸ Option.some.inj e' ▸ ho
set_option tactic.hygienic false in
theorem LcR.adopt {L : Addr} {vars : List Str} {lc : Lc} (k : ∀ a o, h.get? a = some o → (o.cls = .type "tuple" ∨ o.cls = .type "list") → a ≠ p.1 ∧ a ≠ p.2) (n1 : L ≠ p.1) (n2 : L ≠ p.2) (q : LcR C ρ h L vars lc) : LcR C (ρ ++ [p]) h L vars lc := by
  obtain ⟨⟨m, hn, hv⟩, hm, hl, hz⟩ := q
  refine ⟨⟨m, hn, fun i x e => ?_⟩, mutSnoc hm n1 n2, hl, hz⟩
  (refine x2_3 (hv i x e) fun n v a b c => ?_)
  exact ⟨n, v, a, b, c.adopt k⟩
theorem LcR.know {L : Addr} {vars : List Str} {lc : Lc} {m : Str → Option Value} {x : AV} {v : Value} {n : Str} (q : LcR C ρ h L vars lc) (hm : h.Ns L m) (hn : vars[0]? = some n) (hv : m n = some v) (qv : VR C ρ h x v) : LcR C ρ h L vars (lc.set 0 (some x)) := by
  obtain ⟨⟨m', hn', hv'⟩, hm', hl, hz⟩ := q
  have e : ∀ y, m y = m' y := by
    intro y
    (refine x3_4 (hm) fun o es ep a1 a2 uu a4 => ?_; clear hm)
    (refine x3_4 (hn') fun o' es' ep' b1 b2 uu b4 => ?_; clear hn')
    rw [a1] at b1; cases b1
    rw [a2] at b2; cases b2
    rw [← a4, ← b4]
  refine ⟨⟨m', hn', fun i y ei => ?_⟩, hm', hl, by rw [List.length_set]; exact hz⟩
  rw [List.getElem?_set] at ei
  split at ei
  · rename_i h0
    subst h0
    (refine sf ei ?_; clear ei; intro uu ei)
    cases ei
    exact ⟨n, v, hn, by rw [← e]; exact hv, qv⟩
  · exact hv' i y ei
set_option tactic.hygienic false in
theorem pend0 {vr : List Str} {xs : List AV} {vs : List Value} {ox : Obj} {Cl : Addr} {h₁ : Heap} {tk : Nat} (R : Rel C ρ σ s) (q : VRs C ρ s.heap xs vs) (hnd : (("self" : Str) :: vr).Nodup) (hlen : vr.length = xs.length) (hcl : ox.cls = .ref Cl) (hno : notCls ox = true) (hdict : ox.dict = some s.heap.objs.size) (hfr : ox.isFreed = false)
    (hns : h₁.Ns (s.heap.objs.size + 2) (fun y => ((("self" : Str) :: vr).zip (.ref (s.heap.objs.size + 1) :: vs)).reverse.lookup y)) (hk : ∀ b o, ((s.heap.push emptyDict).push ox).get? b = some o → h₁.get? b = some o) (hz : h₁.objs.size = s.heap.objs.size + 3) :
    Pend C ρ σ { s with heap := h₁, toks := tk } (s.heap.objs.size + 2) ("self" :: vr) (none :: xs.map some) (s.heap.objs.size + 1) s.heap.objs.size Cl ox [] := by
  have k₁ : ∀ b o, s.heap.get? b = some o → h₁.get? b = some o := fun b o e => hk b o (Heap.get?_push_of_some _ (Heap.get?_push_of_some _ e))
  have S₁ : Step C [] ρ ρ s.heap h₁ := .same k₁ (by (first | lia | omega))
  have fr : ∀ i, ¬ Mut C ρ (s.heap.objs.size + i) := by
    intro i
    rintro (t | ⟨p, hp, e⟩)
    · (refine x1_2 (List.mem_map.mp t) fun y hy e => ?_)
      (refine x1_3 (R.tab y hy) fun m uu uu ht => ?_)
      have := Heap.lt_size ht
      rw [e] at this
      exact absurd this (Nat.not_lt.mpr (Nat.le_add_right _ _))
    · have := R.rhoLt hp
      rcases e with e | e
      · rw [e] at this; exact absurd this.1 (Nat.not_lt.mpr (Nat.le_add_right _ _))
      · rw [e] at this; exact absurd this.2 (Nat.not_lt.mpr (Nat.le_add_right _ _))
  have hlv : vs.length = vr.length := by rw [q.length, hlen]
  have hmap : ((("self" : Str) :: vr).zip (.ref (s.heap.objs.size + 1) :: vs)).map (·.1) = ("self" : Str) :: vr := by
    rw [List.map_fst_zip]
    simp [hlv]
  refine ⟨R.same k₁ (by show _ ≤ h₁.objs.size; (first | lia | omega)) R.gens rfl rfl, ⟨⟨_, hns, fun i y e => ?_⟩, fr 2, Nat.le_trans R.size (Nat.le_add_right _ _), by simp [hlen]⟩, ⟨_, hns, ?_⟩, hk _ _ ?_, ⟨[], 0, hk _ _ ?_, .nil⟩, fr 1, fr 0, Nat.le_trans R.size (Nat.le_add_right _ _), R.size, hcl, hno, hdict, Nat.succ_ne_self _, Nat.ne_of_gt (Nat.lt_add_of_pos_right (by decide))⟩
  · cases i with
    | zero => cases e
    | succ i =>
      rw [List.getElem?_cons_succ, List.getElem?_map, Option.map_eq_some_iff] at e
      (refine x1_2 (e) fun y' e1 e2 => ?_; clear e)
      (refine c1 e2 fun hh0 => ?_; clear e2; subst hh0)
      (refine x1_2 (q.get e1) fun v ev qv => ?_)
      have hi : i < vr.length := by rw [hlen]; exact (List.getElem?_eq_some_iff.mp e1).1
      refine ⟨vr[i], v, by rw [List.getElem?_cons_succ]; exact List.getElem?_eq_getElem hi, ?_, qv.go S₁⟩
      refine lookup_rev (by rw [hmap]; exact hnd) (lookup_zip (i := i + 1) hnd ?_ ?_)
      · rw [List.getElem?_cons_succ]; exact List.getElem?_eq_getElem hi
      · rw [List.getElem?_cons_succ]; exact ev
  · exact lookup_rev (by rw [hmap]; exact hnd) (lookup_zip (i := 0) hnd rfl rfl)
  · have := Heap.get?_push_size (s.heap.push emptyDict) (o := ox) hfr
    rw [Heap.size_push] at this
    exact this
  · exact Heap.get?_push_of_some _ (Heap.get?_push_size _ rfl)
set_option tactic.hygienic false in
theorem makeStep {ρ₁ : Rho} {hh h₁ h₂ : Heap} (hk : ∀ b o, hh.get? b = some o → h₁.get? b = some o) (hz : hh.objs.size ≤ h₁.objs.size) (S : Step C [hh.objs.size] ρ ρ₁ h₁ h₂) : Step C [] ρ (ρ₁ ++ [(hh.objs.size + 1, hh.objs.size)]) hh h₂ := by
  refine ⟨Nat.le_trans hz S.size, fun b o e nm uu => S.keep b o (hk b o e) nm fun m => Nat.ne_of_lt (Heap.lt_size e) (List.mem_singleton.mp m), x1_2 S.grow fun δ e1 h1 => ⟨δ ++ [(hh.objs.size + 1, hh.objs.size)], by rw [e1, List.append_assoc], fun p hp => ?_⟩⟩
  rcases List.mem_append.mp hp with hp | hp
  · exact ⟨Nat.le_trans hz (h1 p hp).1, Nat.le_trans hz (h1 p hp).2⟩
  · exact List.mem_singleton.mp hp ▸ ⟨Nat.le_succ _, Nat.le_refl _⟩
end
end Mine.Internal
end
section
open PySem PySem.W PyProof.Rows PySem.Calls
namespace Mine.Internal
section
variable {C : Cfg} {ρ ρ' : Rho} {σ σ' : St} {s : Shared} {A : Around} {E : Value → Shared → Prop} {d : Nat}
set_option tactic.hygienic false in
theorem fnd_env {f : Addr} {vars : List Str} {m : Nat} {dxs : List AV} {dv : List Value} {body : List Stmt} {fd : FuncData} (H : FnD C f vars m dxs dv body fd) (L : Addr) : EnvOk (envF fd f L) vars :=
  ⟨H.kind, H.loc, H.nodup, rfl, rfl⟩
set_option tactic.hygienic false in
theorem AOk.tc {Cl : Addr} {vals : List Value} (a : AOk (d + 1) A) : AOk d (A.under (.builtin "type.__call__" ⟨.ref Cl :: vals, []⟩)) := by
  (refine x0_3 (a) fun a1 a2 a3 => ?_; clear a)
  refine ⟨a1, ?_, ?_⟩
  · show A.depth + 1 + d < _; (first | lia | omega)
  · show A.units + 1 + 8 * d < _; (first | lia | omega)
set_option tactic.hygienic false in
theorem notSeqCls {h : Heap} {x dx Cl : Addr} {ox : Obj} {es : List DictEntry} {n : Nat} (ho : h.get? x = some ox) (hc : ox.cls = .ref Cl) (hd : h.get? dx = some (dictOf es n)) : ∀ a o, h.get? a = some o → (o.cls = .type "tuple" ∨ o.cls = .type "list") → a ≠ x ∧ a ≠ dx := by
  intro a o e hcl
  have no : ∀ {o' : Obj}, h.get? a = some o' → (o'.cls = .type "tuple" ∨ o'.cls = .type "list") := fun e' => Option.some.inj (e.symm.trans e') ▸ hcl
  refine ⟨fun z => ?_, fun z => ?_⟩
  · have := no (z ▸ ho)
    rw [hc] at this
    exact this.elim Value.noConfusion Value.noConfusion
  · exact (no (z ▸ hd)).elim (fun z => absurd z (by simp)) fun z => absurd z (by simp)
noncomputable def mkAccF : FM := fun xs σ => (arg1 xs).bind fun x => x.int?.map fun i => (.loc σ.length, σ ++ [.acc i []])
theorem den_mkAcc {fI : Addr} {fd : FuncData} {p0 p1 p2 p3 q0 q1 apos q2 q3 : Pos} (H : CfgOk C) (HC : ClsOk C) (HS : SupCls C) (HM : AccMake C fI) (HSt : StoreOk C C.ACC) (ht : takerIn C.K C.ACC "_initial_size" = some none)
    (HF : FnD C fI ["self", "initial_size"] 2 [] [] [.Assign [.Attribute (.Name "self" p0) "_initial_size" p1] (.Name "initial_size" p2) p3, .Expr (.Call (.Attribute (.Call (.Name "super" q0) [] [] q1) "__init__" apos) [] [] q2) q3] fd)
    (SO : ∀ L, SupOk C (envF fd fI L) ["self", "initial_size"]) (hf : alongIn C.K "__init__" [.type "list", .type "object"] = some (some (.builtin "list.__init__"))) (hp : (apos.endLine == q2.line) = true) (hi : ∀ L, interactive (envF fd fI L) = false)
    (hs1 : ∀ L, swapsWith (.Name "initial_size" p2) (some (.Attribute (.Name "self" p0) "_initial_size" p1)) p3.line (envF fd fI L) = pure false)
    (hs2 : ∀ L, swapsWith (.Call (.Attribute (.Call (.Name "super" q0) [] [] q1) "__init__" apos) [] [] q2) none q3.line (envF fd fI L) = pure false) :
    DenCall C (d + 2) (.ref C.ACC) mkAccF := by
  intro xs σ x σ' hf' A Q E s ρ vs hA R q k
  refine oB hf' fun y e0 hf' => oM hf' fun i ei e9 => ?_
  have k := kfe k e9
  have qs : VRs C ρ s.heap [.int i] vs := by rw [arg1_inv e0, AV.int_inv ei] at q; exact q
  clear hf' e9
  revert k
  refine qs.one_e fun v qv k => ?_
  have q : VRs C ρ s.heap [.int i] [v] := .cons qv .nil
  refine wpAny_call (acc_make HM (R.kin H) ?_)
  have old : OldAt C { s with heap := (s.heap.push emptyDict).push (accObj0 C s.heap.objs.size) } := fun b o e n => Heap.get?_push_of_some _ (Heap.get?_push_of_some _ (R.old b o e n))
  have hA1 := hA.tc (Cl := C.ACC) (vals := [v])
  have sz2 : ((s.heap.push emptyDict).push (accObj0 C s.heap.objs.size)).objs.size = s.heap.objs.size + 2 := by rw [Heap.size_push, Heap.size_push]
  refine enterD HF H.lim H.stat old (by have := hA1.2.1; (first | lia | omega)) rfl fun h₁ tk₁ E' hns hk hz => ?_
  rw [sz2] at hns hz ⊢
  have P := pend0 (Cl := C.ACC) (tk := tk₁) R q (vr := ["initial_size"]) (by decide) rfl (ox := accObj0 C s.heap.objs.size) rfl rfl rfl rfl hns hk hz
  have He := fnd_env HF (s.heap.objs.size + 2)
  refine ks_wpAt_execs_cons (wpAt_of_wpAny ?_)
  refine init_step (attrs := []) (σ' := σ) (y := .int i) H He HSt ht (den_name (d := d) He (i := 1) rfl (by decide)) rfl rfl (by decide) (He.loc _ (by simp)) hA1.deeper P (hs1 _) fun s₁ ρ₁ P₁ S₁ => ?_
  (refine x2_2 (P₁.hd) fun es n hD he => ?_)
  have kk := notSeqCls P₁.ho P₁.cls hD
  have hob : ObjR C (ρ₁ ++ [(s.heap.objs.size + 1, s.heap.objs.size)]) s₁.heap (s.heap.objs.size + 1, s.heap.objs.size) (.acc i []) := .acc (vs := []) (parts := []) P₁.ho hD (EntR.adopt (p := (s.heap.objs.size + 1, s.heap.objs.size)) kk he) .nil
  have R₂ := P₁.rel.adopt (p := (s.heap.objs.size + 1, s.heap.objs.size)) kk P₁.nx P₁.nd P₁.lx P₁.ld hob rfl
  (refine x1_2 (P₁.self) fun m hm hms => ?_)
  have lr₂ := (P₁.lc.adopt (p := (s.heap.objs.size + 1, s.heap.objs.size)) kk (fun z => absurd z (Nat.succ_ne_self _)) P.nL).know hm rfl hms (.loc (l := σ.length) (p := (s.heap.objs.size + 1, s.heap.objs.size)) (by rw [← P₁.rel.len, List.getElem?_append_right (Nat.le_refl _), Nat.sub_self]; rfl))
  refine ks_wpAt_execs_cons ?_
  refine den_superInit (d := d) H HC He HS (SO _) hf hp (hi _) (hs2 _) [some (.loc σ.length), some (.int i)] (σ ++ [.acc i []]) .next [some (.loc σ.length), some (.int i)] (σ ++ [.acc i []]) ?_ _ _ _ _ _ hA1.deeper R₂ lr₂ fun w s₃ ρ₃ R₃ S₃ _ fr => ?_
  · show ((accAt (σ ++ [AO.acc i []]) σ.length).bind fun a => gd (decide (a.2.length ≤ sizeLine)) (Fl.next, ([some (.loc σ.length), some (.int i)] : Lc), (σ ++ [AO.acc i []]).set σ.length (AO.acc a.1 []))) = _
    rw [accAt_of (σ := σ ++ [AO.acc i []]) (i := i) (ps := []) (by rw [List.getElem?_append_right (Nat.le_refl _), Nat.sub_self]; rfl)]
    refine (gd_of (decide_eq_true (Nat.zero_le _))).trans ?_
    rw [List.set_append_right _ _ (Nat.le_refl _), Nat.sub_self]
    rfl
  · cases fr
    refine wpAt_of_wpAny (wpAny_pure ?_)
    refine ⟨rfl, ?_⟩
    have e₃ : ρ₃[σ.length]? = some (s.heap.objs.size + 1, s.heap.objs.size) := by
      obtain ⟨δ, rfl, _⟩ := S₃.grow
      rw [List.getElem?_append_left (by rw [List.length_append, P₁.rel.len]; exact Nat.lt_succ_self _), ← P₁.rel.len, List.getElem?_append_right (Nat.le_refl _), Nat.sub_self]
      rfl
    exact k _ s₃ ρ₃ R₃ (((makeStep (fun b o e => hk b o (Heap.get?_push_of_some _ (Heap.get?_push_of_some _ e))) (by show s.heap.objs.size ≤ h₁.objs.size; (first | lia | omega)) S₁).of_nil.trans S₃).above fun b hb => by cases List.mem_singleton.mp hb; exact Nat.le_add_right _ 2) (.loc e₃)
end
end Mine.Internal
end
section
open PySem PySem.W PyProof.Rows PySem.Calls
namespace Mine.Internal
inductive DenI (C : Cfg) (d : Nat) (env : Env) (vars : List Str) (Cl : Addr) : List Stmt → List (Str × EM) → Prop
  | nil : DenI C d env vars Cl [] []
  | cons {name : Str} {e : Expr} {f : EM} {r : List Stmt} {fs : List (Str × EM)} {p0 p1 p2 : Pos} (ht : takerIn C.K Cl name = some none) (D : DenE C d env vars e f) (hs : swapsWith e (some (.Attribute (.Name "self" p0) name p1)) p2.line env = pure false)
      (b : DenI C d env vars Cl r fs) : DenI C d env vars Cl (.Assign [.Attribute (.Name "self" p0) name p1] e p2 :: r) ((name, f) :: fs)
noncomputable def runI : List (Str × EM) → List (Str × AV) → Lc → St → Option (List (Str × AV) × St)
  | [], acc, _, σ => some (acc, σ)
  | a :: r, acc, lc, σ => (a.2 lc σ).bind fun p => if ((acc.lookup a.1).isNone && decide (acc.length ≤ 100)) = true then runI r (acc ++ [(a.1, p.1)]) lc p.2 else none
section
variable {C : Cfg} {ρ ρ' : Rho} {σ σ' : St} {s : Shared} {A : Around} {E : Value → Shared → Prop} {env : Env} {vars : List Str} {lc : Lc} {x dx Cl : Addr} {ox : Obj} {d : Nat}
theorem init_block (H : CfgOk C) (He : EnvOk env vars) (HS : StoreOk C Cl) (hself : env.kindOf "self" = some .local) (hA : AOk d A) {b : List Stmt} {fs : List (Str × EM)} (D : DenI C d env vars Cl b fs) :
    ∀ {attrs attrs' : List (Str × AV)} {σ σ' : St} {s : Shared} {ρ : Rho} {Q : Flow → Shared → Prop}, runI fs attrs lc σ = some (attrs', σ') → Pend C ρ σ s env.locals vars lc x dx Cl ox attrs →
      (∀ s' ρ', Pend C ρ' σ' s' env.locals vars lc x dx Cl ox attrs' → Step C [dx] ρ ρ' s.heap s'.heap → Q .next s') → wpAny (model C.prog C.w) A (execs b env) Q E s := by
  induction D with
  | nil => intro attrs attrs' σ σ' s ρ Q hf P k; cases hf; exact wpAny_pure (k _ _ P .refl)
  | @cons name e f r fs p0 p1 p2 ht D hs b ih =>
    intro attrs attrs' σ σ' s ρ Q hf P k
    refine oB hf fun y e1 hf => sf hf fun hc hf => ?_
    rw [Bool.and_eq_true] at hc
    refine wpAny_execs_cons (init_step H He HS ht D e1 (Option.isNone_iff_eq_none.mp hc.1) (of_decide_eq_true hc.2) hself hA P hs fun s₁ ρ₁ P₁ S₁ => ?_)
    exact ih hf P₁ fun s₂ ρ₂ P₂ S₂ => k s₂ ρ₂ P₂ (S₁.trans S₂)
noncomputable def fmtInit (LF : FM) : List (Str × EM) := [("_maxlen", nE 2), ("_continuation_ws", nE 3), ("_continuation_ws_len", callE (lenF LF) [nE 3]), ("_splitchars", nE 4), ("_lines", newLE []), ("_current_line", callE mkAccF [nE 1])]
noncomputable def arg4 : List AV → Option (AV × AV × AV × AV)
  | [a, b, c, d] => some (a, b, c, d)
  | [] => none
  | [_] => none
  | [_, _] => none
  | [_, _, _] => none
  | _ :: _ :: _ :: _ :: _ :: _ => none
set_option tactic.hygienic false in
theorem arg4_inv {xs : List AV} {a : AV × AV × AV × AV} (h : arg4 xs = some a) : xs = [a.1, a.2.1, a.2.2.1, a.2.2.2] := match xs, h with
  | [_, _, _, _], h => congrArg (fun a : AV × AV × AV × AV => [a.1, a.2.1, a.2.2.1, a.2.2.2]) (Option.some.inj h)
  | [], h => nomatch h
  | [_], h => nomatch h
  | [_, _], h => nomatch h
  | [_, _, _], h => nomatch h
  | _ :: _ :: _ :: _ :: _ :: _, h => nomatch h
noncomputable def mkFmtF : FM := fun xs σ => (arg4 xs).bind fun a => a.1.int?.bind fun hl => a.2.1.int?.bind fun ml => a.2.2.1.str?.bind fun cw => a.2.2.2.str?.bind fun sp =>
  gd (decide (cw.length ≤ 1000000)) (.loc (σ.length + 2), σ ++ [.list [], .acc hl [], .fmt ml cw cw.length sp σ.length (σ.length + 1)])
set_option tactic.hygienic false in
theorem fmt_run {LF : FM} {hl ml : Int} {cw sp : Str} {σ : St} (hcw : decide (cw.length ≤ 1000000) = true) : runI (fmtInit LF) [] [none, some (.int hl), some (.int ml), some (.str cw), some (.str sp)] σ = some (fmtAttrs ml cw cw.length sp σ.length (σ.length + 1), σ ++ [.list [], .acc hl []]) := by
  have e3 : callE (lenF LF) [nE 3] [none, some (.int hl), some (.int ml), some (.str cw), some (.str sp)] σ = some (.int cw.length, σ) := by
    show (gd (decide (cw.length ≤ 1000000)) (AV.int cw.length, σ)).or _ = _
    rw [gd_of hcw]
    rfl
  show (callE (lenF LF) [nE 3] [none, some (.int hl), some (.int ml), some (.str cw), some (.str sp)] σ).bind _ = _
  rw [e3]
  show some (([("_maxlen", AV.int ml), ("_continuation_ws", .str cw), ("_continuation_ws_len", .int cw.length), ("_splitchars", .str sp), ("_lines", .loc σ.length), ("_current_line", .loc (σ ++ [AO.list []]).length)] : List (Str × AV)), (σ ++ [AO.list []]) ++ [AO.acc hl []]) = _
  rw [List.append_assoc, List.length_append]
  rfl
set_option tactic.hygienic false in
theorem den_mkFmt {fI : Addr} {body : List Stmt} {fd : FuncData} {LF : FM} (H : CfgOk C) (HM : makesIn C.K C.VF = true) (hinit : findIn C.K (.ref C.VF) "__init__" = some (some (.ref fI))) (hfn : typeIn C.K (.ref fI) = some (.type "function")) (HSt : StoreOk C C.VF)
    (HF : FnD C fI ["self", "headerlen", "maxlen", "continuation_ws", "splitchars"] 5 [] [] body fd)
    (D : ∀ L, DenI C d (envF fd fI L) ["self", "headerlen", "maxlen", "continuation_ws", "splitchars"] C.VF body (fmtInit LF)) :
    DenCall C (d + 2) (.ref C.VF) mkFmtF := by
  intro xs σ x σ' hf' A Q E s ρ vs hA R q k
  refine oB hf' fun ag e0 hf' => oB hf' fun hl e1 hf' => oB hf' fun ml e2 hf' => oB hf' fun cw e3 hf' => oB hf' fun sp e4 hf' => oG hf' fun hcw e9 => ?_
  have k := kfe k e9
  have q : VRs C ρ s.heap [.int hl, .int ml, .str cw, .str sp] vs := by rw [arg4_inv e0, AV.int_inv e1, AV.int_inv e2, AV.str_inv e3, AV.str_inv e4] at q; exact q
  clear hf' e9 e0 e1 e2 e3 e4
  have X := R.kin H
  refine wpAny_call (make_core (makes_of X HM) (looks_findIn X hinit) (fun self => bind_fn X self hfn) (.inl rfl) ?_)
  have old : OldAt C { s with heap := (s.heap.push emptyDict).push (instObj C.VF s.heap.objs.size) } := fun b o e n => Heap.get?_push_of_some _ (Heap.get?_push_of_some _ (R.old b o e n))
  have hA1 := hA.tc (Cl := C.VF) (vals := vs)
  have sz2 : ((s.heap.push emptyDict).push (instObj C.VF s.heap.objs.size)).objs.size = s.heap.objs.size + 2 := by rw [Heap.size_push, Heap.size_push]
  refine enterD HF H.lim H.stat old (by have := hA1.2.1; (first | lia | omega)) (by rw [List.length_cons, q.length]; rfl) fun h₁ tk₁ E' hns hk hz => ?_
  rw [sz2] at hns hz ⊢
  rw [List.append_nil] at hns
  have P := pend0 (Cl := C.VF) (tk := tk₁) R q (vr := ["headerlen", "maxlen", "continuation_ws", "splitchars"]) (by decide) rfl (ox := instObj C.VF s.heap.objs.size) rfl rfl rfl rfl hns hk hz
  have He := fnd_env HF (s.heap.objs.size + 2)
  refine wpAt_of_wpAny (init_block H He HSt (He.loc _ (by simp)) hA1.deeper (D _) (fmt_run hcw) P fun s₁ ρ₁ P₁ S₁ => ?_)
  (refine x2_2 (P₁.hd) fun es n hD he => ?_)
  have kk := notSeqCls P₁.ho P₁.cls hD
  have R₂ := P₁.rel.adopt (p := (s.heap.objs.size + 1, s.heap.objs.size)) (o := .fmt ml cw cw.length sp σ.length (σ.length + 1)) kk P₁.nx P₁.nd P₁.lx P₁.ld (.fmt P₁.ho hD (EntR.adopt (p := (s.heap.objs.size + 1, s.heap.objs.size)) kk he)) rfl
  rw [List.append_assoc] at R₂
  refine ⟨rfl, k _ s₁ _ R₂ (makeStep (fun b o e => hk b o (Heap.get?_push_of_some _ (Heap.get?_push_of_some _ e))) (by show s.heap.objs.size ≤ h₁.objs.size; (first | lia | omega)) S₁) (.loc (p := (s.heap.objs.size + 1, s.heap.objs.size)) ?_)⟩
  have hz : ρ₁.length = σ.length + 2 := by rw [P₁.rel.len, List.length_append]; rfl
  rw [List.getElem?_append_right (Nat.le_of_eq hz), hz, Nat.sub_self]
  rfl
end
end Mine.Internal
end
section
open PySem PySem.W PyProof.Rows PySem.Calls
namespace Mine.Internal
inductive SeqV (C : Cfg) (h : Heap) (a : Addr) (vs : List Value) : Prop
  | list {n : Nat} (ho : h.get? a = some (lstObj vs n)) : SeqV C h a vs
  | acc {d : Addr} {es : List DictEntry} {n n' : Nat} (ho : h.get? a = some ⟨.ref C.ACC, some d, .seq vs.toArray n, #[]⟩) (hd : h.get? d = some (dictOf es n')) : SeqV C h a vs
structure ItemOk (C : Cfg) : Prop where
  noDeque : mroIn C.K C.ACC (.type "collections.deque") = some false
section
variable {C : Cfg} {ρ : Rho} {σ σ' : St} {s : Shared} {A : Around} {E : Value → Shared → Prop} {a : Addr} {vs : List Value}
set_option tactic.hygienic false in
theorem SeqV.obj {h : Heap} (S : SeqV C h a vs) : ∃ o n, h.get? a = some o ∧ o.data = .seq vs.toArray n ∧ ∃ c d sl, o = ⟨c, d, .seq vs.toArray n, sl⟩ := by
  cases S with
  | list ho => exact ⟨_, _, ho, rfl, _, _, _, rfl⟩
  | acc ho hd => exact ⟨_, _, ho, rfl, _, _, _, rfl⟩
set_option tactic.hygienic false in
theorem SeqV.special {h : Heap} (H : CfgOk C) (HA : AccOk C) (X : C.K.In h) (S : SeqV C h a vs) : Looks (model C.prog C.w) h (specialOf (.ref a) "__getitem__") (some (.builtin "list.__getitem__")) := by
  cases S with
  | list ho => exact ((Looks.ld ho).andThen .now).andThen (Looks.of_pure slot_list_getitem.lookup)
  | acc ho hd => exact (accInst ho hd).type.andThen (looks_findIn X HA.gi)
set_option tactic.hygienic false in
theorem call_seq {id n : String} {B : Builtin} {rest : List Value} {Q : Value → Shared → Prop} (HC : ClsOk C) (X : C.K.In s.heap) (S : SeqV C s.heap a vs) {nm : Str} (Sl : Slot "list" nm id) (hk : builtinKind id = some .method ∨ builtinKind id = some .slot) (hs : splitId id = some ("list", n)) (hb : entryFor table id = some B)
    (ha : argsOk id ⟨.ref a :: rest, []⟩) (hc : wpAny (model C.prog C.w) A.in1 (B ⟨.ref a :: rest, []⟩) (fun fin s' => ∃ v, fin = .done (.ret v) ∧ Q v s') E s) : wpAny (model C.prog C.w) A (call (.builtin id) (.ref a :: rest)) Q E s := by
  cases S with
  | list ho => exact wpAny_call_entry Sl ⟨_, ho, rfl⟩ hb hc ha
  | acc ho hd => exact call_below X (accInst ho hd) HC.acMro hk hs Sl.plain hb ha hc
set_option tactic.hygienic false in
theorem seqKey {i : Value} {nm : Str} {Q : Value → Shared → Prop} (HI : ItemOk C) (X : C.K.In s.heap) (S : SeqV C s.heap a vs) (k : Q i s) : wpAny (model C.prog C.w) A (sequenceKey (.ref a) i nm) Q E s := by
  cases S with
  | list ho => exact wpAny_sequenceKey (T := "list") ⟨_, ho, rfl⟩ (by decide) k
  | acc ho hd =>
    unfold sequenceKey
    refine wpAny_bind ((accInst ho hd).type.here ?_)
    dsimp only
    have L : Looks (model C.prog C.w) s.heap (seqItemTypes.anyM fun n => isSubtype (.ref C.ACC) (.type n)) false := by
      unfold seqItemTypes
      intro A Q E s' k' q
      rw [List.anyM_cons]
      refine wpAny_bind (looks_mroIn X HI.noDeque A _ E s' k' ?_)
      exact wpAny_pure q
    refine wpAny_bind (L.here ?_)
    rw [if_pos (by rfl)]
    exact wpAny_pure k
set_option tactic.hygienic false in
theorem special_seq {id : String} {nm : Str} {rest : List Value} {Q : Option Value → Shared → Prop} (X : C.K.In s.heap) (S : SeqV C s.heap a vs) (Sl : Slot "list" nm id) (hf : findIn C.K (.ref C.ACC) nm = some (some (.builtin id)))
    (h : wpAny (model C.prog C.w) A (call (.builtin id) (.ref a :: rest)) (fun v s' => Q (some v) s') E s) : wpAny (model C.prog C.w) A (callSpecial? (.ref a) nm rest) Q E s := by
  have L : Looks (model C.prog C.w) s.heap (specialOf (.ref a) nm) (some (.builtin id)) := by
    cases S with
    | list ho => exact ((Looks.ld ho).andThen .now).andThen (Looks.of_pure Sl.lookup)
    | acc ho hd => exact (accInst ho hd).type.andThen (looks_findIn X hf)
  unfold callSpecial?
  refine wpAny_bind (L.here ?_)
  dsimp only
  rw [Sl.bind]
  refine wpAny_holding (wpAny_bind (wpAny_pure ?_))
  exact wpAny_bind (wpAny_mono h (fun v s' z => wpAny_pure z) fun uu uu z => z)
set_option tactic.hygienic false in
theorem getItem_seq {i : Value} {Q : Value → Shared → Prop} (H : CfgOk C) (HC : ClsOk C) (HA : AccOk C) (HI : ItemOk C) (X : C.K.In s.heap) (S : SeqV C s.heap a vs)
    (h : wpAny (model C.prog C.w) A.in1 (Builtin.«list.__getitem__» ⟨[.ref a, i], []⟩) (fun fin s' => ∃ v, fin = .done (.ret v) ∧ Q v s') E s) : wpAny (model C.prog C.w) A (getItem (.ref a) i) Q E s := by
  unfold getItem
  refine wpAny_holding (wpAny_bind (seqKey HI X S (wpAny_bind (special_seq X S slot_list_getitem HA.gi (call_seq HC X S slot_list_getitem (.inl (by decide +kernel)) (n := "__getitem__") (by decide +kernel) entry_list_getitem (args_list_getitem _ _) (wpAny_mono h (fun fin s' z => ?_) fun uu uu z => z))))))
  (refine x1_2 (z) fun v rr1 hq => ?_; clear z; subst rr1)
  exact ⟨v, rfl, wpAny_pure hq⟩
set_option tactic.hygienic false in
theorem setItem_seq {i v : Value} {Q : Unit → Shared → Prop} (H : CfgOk C) (HC : ClsOk C) (HA : AccOk C) (HI : ItemOk C) (X : C.K.In s.heap) (S : SeqV C s.heap a vs)
    (h : wpAny (model C.prog C.w) A.in1 (Builtin.«list.__setitem__» ⟨[.ref a, i, v], []⟩) (fun fin s' => ∃ v, fin = .done (.ret v) ∧ Q () s') E s) : wpAny (model C.prog C.w) A (setItem (.ref a) i v) Q E s := by
  unfold setItem
  refine wpAny_holding (wpAny_bind (seqKey HI X S (wpAny_bind (special_seq X S slot_list_setitem HA.si (call_seq HC X S slot_list_setitem (.inr (by decide +kernel)) (n := "__setitem__") (by decide +kernel) entry_list_setitem (args_list_setitem _ _ _) (wpAny_mono h (fun fin s' z => ?_) fun uu uu z => z))))))
  (refine x1_2 (z) fun v rr1 hq => ?_; clear z; subst rr1)
  exact ⟨v, rfl, wpAny_pure hq⟩
theorem get_int {i : Int} {t : Tok} {x : Value} {j : Nat} {Q : Fin → Shared → Prop} (S : SeqV C s.heap a vs) (hi : -1000000000 ≤ i ∧ i < 1000000000) (hj : seqIndex? i vs.length = some j) (hx : vs[j]? = some x) (k : Q (.done (.ret x)) s) :
    wpAny (model C.prog C.w) A (Builtin.«list.__getitem__» ⟨[.ref a, .int i t], []⟩) Q E s := by
  obtain ⟨o, n, ho, hd, -⟩ := S.obj
  have hf : Builtin.List.listFitsIndex i = true := by
    unfold Builtin.List.listFitsIndex
    simp only [Bool.and_eq_true, decide_eq_true_eq]
    (first | lia | omega)
  show wpAny _ _ (Builtin.List.listSubscript? (.int i t) >>= _) _ _ s
  refine wpAny_bind (wpAny_listSubscript_int hf ?_)
  dsimp only
  cases i with
  | ofNat m =>
    have e : seqIndex? (Int.ofNat m) vs.length = some m ∨ seqIndex? (Int.ofNat m) vs.length = none := by
      unfold seqIndex?
      dsimp only
      split
      · rename_i h0; exact absurd h0 (by simp)
      · split
        · exact .inl rfl
        · exact .inr rfl
    have : j = m := by
      rcases e with e | e
      · rw [e] at hj; cases hj; rfl
      · rw [e] at hj; cases hj
    subst this
    show wpAny _ _ ((seqItemAt a j >>= _) >>= _) _ _ _
    refine wpAny_bind (wpAny_bind (wpAny_seqItemAt ho hd ?_))
    have : vs.toArray[j]? = some x := by simpa using hx
    rw [this]
    exact wpAny_pure (wpAny_pure k)
  | negSucc m =>
    show wpAny _ _ ((Builtin.List.listItems (.ref a) >>= _) >>= _) _ _ _
    unfold Builtin.List.listItems
    refine wpAny_bind (wpAny_bind (wpAny_bind (wpAny_seqItems ho hd (wpAny_pure ?_))))
    rw [List.size_toArray, hj]
    have : vs.toArray[j]? = some x := by simpa using hx
    dsimp only [Option.bind_some]
    rw [this]
    exact wpAny_pure (wpAny_pure k)
end
end Mine.Internal
end
section
open PySem PySem.W PyProof.Rows PySem.Calls
namespace Mine.Internal
noncomputable def asSeq (σ : St) (x : AV) : Option (List AV) := (asList σ x).or (x.loc?.bind fun l => (accAt σ l).map fun a => a.2.map partAV)
noncomputable def atIx {α : Type} (xs : List α) (i : Int) : Option α := (seqIndex? i xs.length).bind (xs[·]?)
noncomputable def aget (σ : St) (x : AV) (i : Int) : Option AV := if -1000000000 ≤ i ∧ i < 1000000000 then
  (x.str?.bind fun y => ((seqIndex? i y.length).bind (y.cps[·]?)).map fun c => .str ⟨#[c]⟩).or ((x.tup?.bind fun xs => atIx xs i).or ((asSeq σ x).bind fun xs => atIx xs i)) else none
noncomputable def idxE (f g : EM) : EM := fun lc σ => (f lc σ).bind fun p => (g lc p.2).bind fun q => q.1.int?.bind fun i => (aget q.2 p.1 i).map (·, q.2)
section
variable {C : Cfg} {ρ : Rho} {σ σ' : St} {s : Shared} {A : Around} {E : Value → Shared → Prop} {a : Addr} {vs : List Value} {env : Env} {vars : List Str} {lc : Lc} {p p' : Pos} {d : Nat}
set_option tactic.hygienic false in
@[elab_as_elim] theorem Rel.asSeq_e (R : Rel C ρ σ s) {x : AV} {xs : List AV} {v : Value} (q : VR C ρ s.heap x v) (h : asSeq σ x = some xs) {P : Value → Prop} (k : ∀ a vs, SeqV C s.heap a vs → VRs C ρ s.heap xs vs → P (.ref a)) : P v := by
  refine oO h (fun h => R.asList_e q h fun a vs n ho hs => k a vs (.list ho) hs) fun h => oB h fun l el h => oM h fun ac hl e => ?_
  have q : VR C ρ s.heap (.loc l) v := AV.loc_inv el ▸ q
  exact R.acc_e (accAt_inv hl) q fun a d es n n' vs uu ho hd he hs => k a vs (.acc ho hd) (e ▸ hs)
set_option tactic.hygienic false in
theorem Subscript_own {value slice : Expr} {Q : Value → Shared → Prop}
    (h : wpAny (model C.prog C.w) A (eval value env) (fun o s₁ => wpAny (model C.prog C.w) A (eval slice env) (fun i s₂ => (∃ id, Looks (model C.prog C.w) s₂.heap (specialOf o "__getitem__") (some (.builtin id))) ∧ wpAny (model C.prog C.w) A (getItem o i) Q E s₂) E s₁) E s) :
    wpAny (model C.prog C.w) A (eval (.Subscript value slice p) env) Q E s := by
  rw [eval_Subscript]
  refine wpAny_bind (wpAny_mono h (fun o s₁ h₁ => wpAny_bind (wpAny_holding (wpAny_mono h₁ (fun i s₂ h₂ => wpAny_bind (wpAny_standAt ?_)) fun uu uu x => x))) fun uu uu x => x)
  obtain ⟨⟨id, L⟩, hg⟩ := h₂
  have L2 : Looks (model C.prog C.w) s₂.heap (getitemInPython o) false := by
    unfold getitemInPython
    exact L.andThen .now
  refine wpAny_bind (L2.here ?_)
  have e : ∃ ws, subscripted slice false o i = operate ws (getItem o i) := by
    cases slice with
    | Slice a b c p => cases c <;> exact ⟨_, rfl⟩
    | _ => exact ⟨_, rfl⟩
  (refine x1_1 (e) fun ws e => ?_)
  rw [e]
  exact wpAny_bind (wpAny_operating (wpAny_mono hg (fun r s₃ h₃ => wpAny_bind (wpAny_letTemporaryGo (wpAny_pure h₃))) fun uu uu x => x))
set_option tactic.hygienic false in
theorem strOk_one {y : Str} {c : Nat} (ok : PyData.strOk y = true) (h : c ∈ y.cps.toList) : PyData.strOk ⟨#[c]⟩ = true := by
  rw [strOk_iff] at ok ⊢
  intro b hb
  have : b = c := by simpa using hb
  subst this
  exact ok b h
set_option tactic.hygienic false in
theorem get_rel (H : CfgOk C) (HC : ClsOk C) (HA : AccOk C) (HI : ItemOk C) {x z : AV} {i : Int} {t : Tok} {v : Value} {Q : Value → Shared → Prop} (h : aget σ x i = some z) (R : Rel C ρ σ s) (q : VR C ρ s.heap x v)
    (k : ∀ w n, VR C ρ s.heap z w → Q w { s with toks := n }) : (∃ id, Looks (model C.prog C.w) s.heap (specialOf v "__getitem__") (some (.builtin id))) ∧ wpAny (model C.prog C.w) A (getItem v (.int i t)) Q E s := by
  refine sf h fun hi h => oO h (fun h => oB h fun y e1 h => oM h fun c hc e => ?_) fun h => oO h (fun h => oB h fun xs e1 h => oB h fun j hj hx => ?_) fun h => oB h fun xs hsq h => oB h fun j hj hx => ?_
  · refine q.str_of e1 fun t ok => ⟨⟨_, (Looks.of_pure (by rfl)).andThen (Looks.of_pure F.slot_str_getitem.lookup)⟩, P.getItem_str (by rw [decide_eq_false (by (first | lia | omega)), decide_eq_false (by (first | lia | omega))]; rfl) hc (k _ _ (e ▸ .str _ _ (strOk_one ok ?_)))⟩
    exact oB hc fun j uu hj2 => (Array.getElem?_eq_some_iff.mp hj2).elim fun hlt e => e ▸ Array.mem_toList_iff.mpr (Array.getElem_mem hlt)
  · exact q.tup_of e1 fun a vs n ho hm hs => x1_2 (hs.get hx) fun w hv qv => ⟨⟨_, ((Looks.ld ho).andThen .now).andThen (Looks.of_pure slot_tuple_getitem.lookup)⟩, getItem_tuple (items := vs.toArray) ⟨_, ho, rfl, _, rfl⟩ (by (first | lia | omega)) (by (first | lia | omega)) (by rw [List.size_toArray, hs.length]; exact hj) (by rw [List.getElem?_toArray]; exact hv) (k _ _ qv)⟩
  · exact R.asSeq_e q hsq fun a vs SV hs => x1_2 (hs.get hx) fun w hv qv => ⟨⟨_, SV.special H HA (R.kin H)⟩, getItem_seq H HC HA HI (R.kin H) SV (get_int SV hi (by rw [hs.length]; exact hj) hv ⟨_, rfl, k _ _ qv⟩)⟩
set_option tactic.hygienic false in
theorem den_idx (H : CfgOk C) (HC : ClsOk C) (HA : AccOk C) (HI : ItemOk C) {value slice : Expr} {f g : EM} (D1 : DenE C d env vars value f) (D2 : DenE C d env vars slice g) : DenE C d env vars (.Subscript value slice p) (idxE f g) := by
  intro lc σ y σ' hf A Q E s ρ hA R lr kk
  refine oB hf fun x e1 hf => oB hf fun q e2 hf => oB hf fun i ei hf => oM hf fun z hz e3 => ?_
  refine Subscript_own (D1 _ _ _ _ e1 A _ E s ρ hA R lr fun o s₁ ρ₁ R₁ S₁ q₁ => D2 _ _ _ _ e2 A _ E s₁ ρ₁ hA R₁ (lr.go S₁) fun iv s₂ ρ₂ R₂ S₂ q₂ => ?_)
  exact q₂.int_of ei fun ti => get_rel H HC HA HI hz R₂ (q₁.go S₂) fun w n qw => kfe kk e3 _ _ ρ₂ R₂.toks (S₁.trans S₂) qw
end
end Mine.Internal
end
section
open PySem PySem.W PyProof.Rows PySem.Calls
namespace Mine.Internal
noncomputable def slIdx (lo hi : Option Int) (n : Nat) : List Nat := sliceRange (sliceBounds lo hi none n).1 (sliceBounds lo hi none n).2.1 (sliceBounds lo hi none n).2.2
noncomputable def pickL {α : Type} (xs : List α) (ix : List Nat) : List α := ix.filterMap (xs[·]?)
noncomputable def sliceL {α : Type} (xs : List α) (lo hi : Option Int) : List α := pickL xs (slIdx lo hi xs.length)
noncomputable def slLo (lo hi : Option Int) (n : Nat) : Nat := (sliceBounds lo hi none n).1.toNat
noncomputable def slHi (lo hi : Option Int) (n : Nat) : Nat := (max (sliceBounds lo hi none n).1 (sliceBounds lo hi none n).2.1).toNat
noncomputable def setSl {α : Type} (xs new : List α) (lo hi : Option Int) : List α := xs.take (slLo lo hi xs.length) ++ new ++ xs.drop (slHi lo hi xs.length)
noncomputable def optE : Option EM → Lc → St → Option (Option Int × St)
  | none, _, σ => some (none, σ)
  | some f, lc, σ => (f lc σ).bind fun p => p.1.int?.map fun i => (some i, p.2)
inductive DenO (C : Cfg) (d : Nat) (env : Env) (vars : List Str) : Option Expr → Option EM → Prop
  | none : DenO C d env vars none none
  | some {e : Expr} {f : EM} (D : DenE C d env vars e f) : DenO C d env vars (some e) (some f)
noncomputable def sliceE (f : EM) (lo hi : Option EM) : EM := fun lc σ => (f lc σ).bind fun p => (optE lo lc p.2).bind fun a => (optE hi lc a.2).bind fun b => (asSeq b.2 p.1).bind fun xs => gd (decide (xs.length ≤ 1000000)) (.lst (sliceL xs a.1 b.1), b.2)
section
variable {C : Cfg} {ρ : Rho} {σ σ' : St} {s : Shared} {A : Around} {E : Value → Shared → Prop} {a : Addr} {vs : List Value} {env : Env} {vars : List Str} {lc : Lc} {p p' : Pos} {d : Nat}
set_option tactic.hygienic false in
theorem VRs.pick {h : Heap} {xs : List AV} {vs : List Value} (q : VRs C ρ h xs vs) : ∀ ix : List Nat, VRs C ρ h (pickL xs ix) (pickL vs ix)
  | [] => .nil
  | i :: ix => by
    unfold pickL
    rw [List.filterMap_cons, List.filterMap_cons]
    cases hx : xs[i]? with
    | some x =>
      (refine x1_2 (q.get hx) fun v hv qv => ?_)
      rw [hv]
      exact .cons qv (q.pick ix)
    | none =>
      have : vs[i]? = none := by
        rw [List.getElem?_eq_none_iff] at hx ⊢
        rw [q.length]; exact hx
      rw [this]
      exact q.pick ix
set_option tactic.hygienic false in
theorem opt_rel {e : Option Expr} {f : Option EM} (D : DenO C d env vars e f) {x : Option Int} (hf : optE f lc σ = some (x, σ')) {Q : Value → Shared → Prop} (hA : AOk d A) (R : Rel C ρ σ s) (lr : LcR C ρ s.heap env.locals vars lc)
    (k : ∀ v s' ρ', Rel C ρ' σ' s' → Step C [] ρ ρ' s.heap s'.heap → IsPart v x → Q v s') : wpAny (model C.prog C.w) A (evalPart e env) Q E s := by
  have at_ : ∀ {y : Option Int} {σ₁ : St}, (y, σ₁) = (x, σ') → ∀ v s' ρ', Rel C ρ' σ₁ s' → Step C [] ρ ρ' s.heap s'.heap → IsPart v y → Q v s' := fun e v s' ρ' R' S' q => by cases e; exact k v s' ρ' R' S' q
  cases D with
  | none => exact wpAny_pure (at_ (Option.some.inj hf) _ _ _ R .refl .none)
  | some D => exact oB hf fun p e1 hf => oM hf fun i ei e => D _ _ _ _ e1 A Q E s ρ hA R lr fun v s' ρ' R' S' q' => q'.int_of ei fun t => at_ e _ _ _ R' S' (.int _ _)
set_option tactic.hygienic false in
theorem get_slice {sl : Addr} {vl vu : Value} {lo hi : Option Int} {Q : Fin → Shared → Prop} (S : SeqV C s.heap a vs) (hs : s.heap.IsSliceOf sl vl vu .none) (pl : IsPart vl lo) (pu : IsPart vu hi) (hz : vs.length ≤ sizeLine)
    (k : Q (.done (.ret (.ref s.heap.objs.size))) { s with heap := s.heap.push (lstObj (sliceL vs lo hi) 0) }) :
    wpAny (model C.prog C.w) A (Builtin.«list.__getitem__» ⟨[.ref a, .ref sl], []⟩) Q E s := by
  obtain ⟨o, n, ho, hd, -⟩ := S.obj
  (refine x1_3 (id hs) fun os hos hcs hds => ?_)
  have hTs : s.TypeIs (.ref sl) "slice" := ⟨os, hos, hcs⟩
  show wpAny _ _ (Builtin.List.listSubscript? (.ref sl) >>= _) _ _ s
  refine wpAny_bind ?_
  unfold Builtin.List.listSubscript?
  refine wpAny_bind (wpAny_specialOf hTs slice_no_index ?_)
  simp only [Option.isNone_none, if_true]
  refine wpAny_pure ?_
  show wpAny _ _ (typeOf (.ref sl) >>= _) _ _ s
  refine wpAny_bind (wpAny_typeOf hTs ?_)
  rw [if_neg (by decide)]
  rw [listSliceParts_eq]
  refine wpAny_bind (wpAny_bind (wpAny_field hos hds (x := .none) rfl (wpAny_bind (wpAny_listPart .none ?_))))
  rw [if_neg (by decide)]
  refine wpAny_bind (wpAny_field hos hds (x := vl) rfl (wpAny_bind (wpAny_listPart pl ?_)))
  refine wpAny_bind (wpAny_field hos hds (x := vu) rfl (wpAny_bind (wpAny_listPart pu (wpAny_pure ?_))))
  refine wpAny_bind (m := Builtin.List.listItems (.ref a)) ?_
  unfold Builtin.List.listItems
  refine wpAny_bind (wpAny_seqItems ho hd (wpAny_pure ?_))
  refine wpAny_bind (wpAny_of_eq (sliceIndices_raw lo hi none vs.toArray.size (by simp)) ?_)
  have e : ((sliceRange (sliceBounds lo hi none vs.toArray.size).1 (sliceBounds lo hi none vs.toArray.size).2.1 (sliceBounds lo hi none vs.toArray.size).2.2).filterMap (vs.toArray[·]?)) = sliceL vs lo hi := by
    unfold sliceL pickL slIdx
    rw [List.size_toArray]
    congr 1
    funext i
    simp
  refine wpAny_bind (wpAny_newObj_type ?_ (Nat.le_trans (slicePick_size_le vs.toArray lo hi none) (by simpa using hz)))
  rw [e]
  exact wpAny_pure k
set_option tactic.hygienic false in
theorem den_slice (H : CfgOk C) (HC : ClsOk C) (HA : AccOk C) (HI : ItemOk C) {value : Expr} {lo hi : Option Expr} {f : EM} {fl fh : Option EM} {ps : Pos} (D1 : DenE C d env vars value f) (D2 : DenO C d env vars lo fl) (D3 : DenO C d env vars hi fh) :
    DenE C d env vars (.Subscript value (.Slice lo hi none ps) p) (sliceE f fl fh) := by
  intro lc σ y σ' hf A Q E s ρ hA R lr kk
  refine oB hf fun x e1 hf => oB hf fun ai e2 hf => oB hf fun bi e3 hf => oB hf fun xs hsq hf => oG hf fun hz e9 => ?_
  refine Subscript_own (D1 _ _ _ _ e1 A _ E s ρ hA R lr fun o s₁ ρ₁ R₁ S₁ q₁ => wpAny_Slice ?_)
  refine opt_rel D2 e2 hA R₁ (lr.go S₁) fun vl s₂ ρ₂ R₂ S₂ pl => ?_
  refine opt_rel D3 e3 hA R₂ (lr.go (S₁.trans S₂)) fun vu s₃ ρ₃ R₃ S₃ pu => ?_
  rw [evalPart_none]
  refine wpAny_pure ?_
  have R₄ := R₃.push { cls := .type "slice", data := .fields #[vl, vu, .none] } (n := s₃.toks)
  have S₄ : Step C [] ρ₃ ρ₃ s₃.heap (s₃.heap.push { cls := .type "slice", data := .fields #[vl, vu, .none] }) := .pushObj _
  refine R₄.asSeq_e (((q₁.go S₂).go S₃).go S₄) hsq fun a vs SV hs => ?_
  refine ⟨⟨_, SV.special H HA (R₄.kin H)⟩, getItem_seq H HC HA HI (R₄.kin H) SV (get_slice SV (Heap.IsSliceOf.new ..) pl pu (by rw [hs.length]; exact Nat.le_trans (of_decide_eq_true hz) (by decide)) ⟨_, rfl, ?_⟩)⟩
  have S₅ : Step C [] ρ₃ ρ₃ (s₃.heap.push { cls := .type "slice", data := .fields #[vl, vu, .none] }) ((s₃.heap.push { cls := .type "slice", data := .fields #[vl, vu, .none] }).push (lstObj (sliceL vs ai.1 bi.1) 0)) := .pushObj _
  refine kfe kk e9 _ _ ρ₃ (R₄.push (lstObj (sliceL vs ai.1 bi.1) 0) (n := s₃.toks)) ((((S₁.trans S₂).trans S₃).trans S₄).trans S₅) (.lst (vs := sliceL vs ai.1 bi.1) (n := 0) (Heap.get?_push_size _ rfl) R₄.fresh ?_)
  have pk := (hs.go S₅).pick (slIdx ai.1 bi.1 xs.length)
  have e : pickL vs (slIdx ai.1 bi.1 xs.length) = sliceL vs ai.1 bi.1 := by unfold sliceL; rw [hs.length]
  rw [e] at pk
  exact pk
end
end Mine.Internal
end
section
open PySem PySem.W PyProof.Rows PySem.Calls
namespace Mine.Internal
set_option tactic.hygienic false in
theorem setSl_map {α β : Type} (f : α → β) (xs new : List α) (lo hi : Option Int) : setSl (xs.map f) (new.map f) lo hi = (setSl xs new lo hi).map f := by
  unfold setSl
  simp
set_option tactic.hygienic false in
theorem setSl_len {α : Type} (xs new : List α) (lo hi : Option Int) : (setSl xs new lo hi).length ≤ xs.length + new.length + xs.length := by
  unfold setSl
  simp only [List.length_append, List.length_take, List.length_drop]
  exact Nat.add_le_add (Nat.add_le_add (Nat.min_le_right _ _) (Nat.le_refl _)) (Nat.sub_le _ _)
section
variable {C : Cfg} {ρ : Rho} {σ σ' : St} {s : Shared} {A : Around} {E : Value → Shared → Prop} {a b : Addr} {vs ws : List Value} {env : Env} {vars : List Str} {lc : Lc} {p p' : Pos} {d : Nat}
set_option tactic.hygienic false in
theorem VRs.setSl {h : Heap} {xs new : List AV} {vs ws : List Value} (q : VRs C ρ h xs vs) (q' : VRs C ρ h new ws) (lo hi : Option Int) : VRs C ρ h (setSl xs new lo hi) (setSl vs ws lo hi) := by
  unfold Mine.Internal.setSl
  rw [q.length]
  exact ((q.take _).append q').append (q.drop _)
set_option tactic.hygienic false in
theorem extract_eq {vs ws : List Value} {lo hi : Option Int} : vs.toArray.extract 0 (sliceBounds lo hi none vs.toArray.size).1.toNat ++ ws.toArray ++ vs.toArray.extract (max (sliceBounds lo hi none vs.toArray.size).1 (sliceBounds lo hi none vs.toArray.size).2.1).toNat vs.toArray.size = (setSl vs ws lo hi).toArray := by
  unfold setSl slLo slHi
  rw [List.size_toArray]
  generalize (sliceBounds lo hi none vs.length).1 = x
  generalize (sliceBounds lo hi none vs.length).2.1 = y
  apply Array.toList_inj.mp
  simp [List.take_of_length_le]
set_option tactic.hygienic false in
theorem set_slice {sl : Addr} {vl vu : Value} {lo hi : Option Int} {m : Nat} {Q : Fin → Shared → Prop} {c : Value} {dd : Option Addr} {n : Nat} {slo : Array (Option Value)} (ho : s.heap.get? a = some ⟨c, dd, .seq vs.toArray n, slo⟩) (hb : s.heap.get? b = some (lstObj ws m)) (hab : a ≠ b) (hs : s.heap.IsSliceOf sl vl vu .none) (pl : IsPart vl lo) (pu : IsPart vu hi)
    (hz : vs.length ≤ 1000000) (hw : ws.length ≤ 1000000)
    (k : ∀ h', Heap.SameBut a s.heap h' → (∃ n', h'.get? a = some ⟨c, dd, .seq (setSl vs ws lo hi).toArray n', slo⟩) → Q (.done (.ret .none)) { s with heap := h' }) :
    wpAny (model C.prog C.w) A (Builtin.«list.__setitem__» ⟨[.ref a, .ref sl, .ref b], []⟩) Q E s := by
  (refine x1_3 (id hs) fun os hos hcs hds => ?_)
  have hTs : s.TypeIs (.ref sl) "slice" := ⟨os, hos, hcs⟩
  have hTb : s.TypeIs (.ref b) "list" := ⟨_, hb, rfl⟩
  have hzl : (sizeLine : Nat) = 16777216 := sizeLine_eq
  show wpAny _ _ (Builtin.List.listSubscript? (.ref sl) >>= _) _ _ s
  refine wpAny_bind ?_
  unfold Builtin.List.listSubscript?
  refine wpAny_bind (wpAny_specialOf hTs slice_no_index ?_)
  simp only [Option.isNone_none, if_true]
  refine wpAny_pure ?_
  show wpAny _ _ (typeOf (.ref sl) >>= _) _ _ s
  refine wpAny_bind (wpAny_typeOf hTs ?_)
  rw [if_neg (by decide)]
  rw [listSliceParts_eq]
  refine wpAny_bind (wpAny_bind (wpAny_field hos hds (x := .none) rfl (wpAny_bind (wpAny_listPart .none ?_))))
  rw [if_neg (by decide)]
  refine wpAny_bind (wpAny_field hos hds (x := vl) rfl (wpAny_bind (wpAny_listPart pl ?_)))
  refine wpAny_bind (wpAny_field hos hds (x := vu) rfl (wpAny_bind (wpAny_listPart pu (wpAny_pure ?_))))
  dsimp only
  have same : Builtin.List.listSameRef (.ref a) (.ref b) = false := by
    show (a == b) = false
    exact beq_false_of_ne hab
  rw [same, if_neg Bool.false_ne_true]
  refine wpAny_bind ?_
  unfold Builtin.List.listAllItems
  refine wpAny_bind (wpAny_typeOf hTb ?_)
  rw [if_pos (by decide)]
  unfold Builtin.List.listItems
  refine wpAny_bind (wpAny_seqItems hb rfl (wpAny_pure ?_))
  refine wpAny_bind (wpAny_bind (wpAny_seqItems ho rfl (wpAny_pure ?_)))
  refine wpAny_bind (wpAny_of_eq (sliceIndices_raw lo hi none vs.toArray.size (by simp)) ?_)
  dsimp only
  have st : ((sliceBounds lo hi none vs.toArray.size).2.2 == 1) = true := rfl
  rw [st, if_pos rfl]
  refine wpAny_bind (wpAny_rule ?_)
  have tl : Builtin.List.listTooLong (vs.toArray.size + ws.toArray.size) = false := by
    unfold Builtin.List.listTooLong
    rw [List.size_toArray, List.size_toArray]
    exact decide_eq_false (by (first | lia | omega))
  rw [tl, if_neg Bool.false_ne_true]
  refine wpAny_bind ?_
  show wpAny _ _ (updateSeq a _) _ _ _
  have hz' : (vs.toArray.extract 0 (sliceBounds lo hi none vs.toArray.size).1.toNat ++ ws.toArray ++ vs.toArray.extract (max (sliceBounds lo hi none vs.toArray.size).1 (sliceBounds lo hi none vs.toArray.size).2.1).toNat vs.toArray.size).size ≤ sizeLine + 1 := by
    rw [extract_eq, List.size_toArray]
    have := setSl_len vs ws lo hi
    (first | lia | omega)
  refine wpAny_updateSeq ho rfl ?_ (hz := by rw [List.size_toArray]; (first | lia | omega)) (_hz' := hz')
  refine wpAny_bind (wpAny_letGo (wpAny_pure ?_))
  have gt := mapSeq_at ho (fun xs => xs.extract 0 (sliceBounds lo hi none vs.toArray.size).1.toNat ++ ws.toArray ++ xs.extract (max (sliceBounds lo hi none vs.toArray.size).1 (sliceBounds lo hi none vs.toArray.size).2.1).toNat xs.size)
  have ee := extract_eq (vs := vs) (ws := ws) (lo := lo) (hi := hi)
  rw [ee] at gt
  exact k _ (Heap.SameBut.update ..) ⟨_, gt⟩
end
noncomputable def partsOf : List AV → Option (List (Str × Str))
  | [] => some []
  | x :: xs => (isPart x).bind fun p => (partsOf xs).map (p :: ·)
set_option tactic.hygienic false in
theorem partsOf_eq : ∀ {xs : List AV} {ps : List (Str × Str)}, partsOf xs = some ps → xs = ps.map partAV
  | [], _, h => Option.some.inj h ▸ rfl
  | x :: xs, ps, h => oB h fun p e1 h => oM h fun q e2 e => by rw [isPart_eq e1, partsOf_eq e2, ← e]; rfl
noncomputable def putSl (l : Nat) (a b : Option Int) (v : AV) (σ : St) : Option St := (asList σ v).bind fun new =>
  ((accAt σ l).bind fun ac => (partsOf new).bind fun qs => gd (decide (ac.2.length ≤ 1000000 ∧ qs.length ≤ 1000000)) (σ.set l (.acc ac.1 (setSl ac.2 qs a b)))).or
  ((lstAt σ l).bind fun xs => v.lst?.bind fun _ => gd (decide (xs.length ≤ 1000000 ∧ new.length ≤ 1000000)) (σ.set l (.list (setSl xs new a b))))
noncomputable def setSlS (g : EM) (lo hi : Option EM) (f : EM) : SM := fun lc σ => (f lc σ).bind fun v => (g lc v.2).bind fun o => o.1.loc?.bind fun l => (optE lo lc o.2).bind fun a => (optE hi lc a.2).bind fun b => (putSl l a.1 b.1 v.1 b.2).map (.next, lc, ·)
section
variable {C : Cfg} {ρ : Rho} {σ σ' : St} {s : Shared} {A : Around} {E : Value → Shared → Prop} {env : Env} {vars : List Str} {lc : Lc} {p p' ps' : Pos} {d : Nat}
set_option tactic.hygienic false in
theorem putSl_rel (H : CfgOk C) (HC : ClsOk C) (HA : AccOk C) (HI : ItemOk C) {l : Nat} {lo hi : Option Int} {v : AV} {vo vv vl vu : Value} {sl : Addr} {Q : Unit → Shared → Prop} (h : putSl l lo hi v σ = some σ') (R : Rel C ρ σ s) (qo : VR C ρ s.heap (.loc l) vo) (qv : VR C ρ s.heap v vv)
    (hs : s.heap.IsSliceOf sl vl vu .none) (pl : IsPart vl lo) (pu : IsPart vu hi) (k : ∀ s', Rel C ρ σ' s' → Step C [] ρ ρ s.heap s'.heap → Q () s') : wpAny (model C.prog C.w) A (setItem vo (.ref sl) vv) Q E s := by
  refine oB h fun new hn h => oO h (fun h => oB h fun ac hl h => oB h fun qs hq h => oG h fun hz e => ?_) fun h => oB h fun xs hl h => oB h fun ys ev h => oG h fun hz e => ?_
  · have hz := of_decide_eq_true hz
    refine R.acc_e (accAt_inv hl) qo fun a d es n n' vs e0 ho hd he hvs => R.asList_e qv hn fun b ws m hb hws => ?_
    have hab : a ≠ b := fun z => Value.noConfusion (congrArg Obj.cls (Option.some.inj ((z ▸ ho : s.heap.get? b = _).symm.trans hb)))
    have lv : vs.length = ac.2.length := by rw [hvs.length, List.length_map]
    have ew := partsOf_eq hq
    have lw : ws.length = qs.length := by rw [hws.length, ew, List.length_map]
    refine setItem_seq H HC HA HI (R.kin H) (.acc ho hd) (set_slice ho hb hab hs pl pu (lv ▸ hz.1) (lw ▸ hz.2) fun h' hsb hget => ⟨_, rfl, x1_1 hget fun n'' gt => ?_⟩)
    have S : Step C [] ρ ρ s.heap h' := stepMut (.inr ⟨_, List.mem_of_getElem? e0, .inl rfl⟩) hsb
    rw [ew] at hws
    have hv' := (hvs.go S).setSl (hws.go S) lo hi
    rw [setSl_map] at hv'
    exact x0_2 (R.upd (n := s.toks) e0 (.inl rfl) hsb (.acc gt ((hsb.2 _ (accNe ho hd)).trans hd) (he.go S) hv') rfl) fun R' S' => k _ (e ▸ R') S'
  · have hz := of_decide_eq_true hz
    have en : new = ys := by
      rw [AV.lst_inv ev] at hn
      exact (Option.some.inj hn).symm
    rw [en] at hz e
    refine R.list_e (lstAt_inv hl) qo fun a vs n e0 ho hvs => qv.lst_of ev fun b ws m hb hmb hws => ?_
    have hab : a ≠ b := fun z => hmb (z ▸ .inr ⟨_, List.mem_of_getElem? e0, .inl rfl⟩)
    refine setItem_seq H HC HA HI (R.kin H) (.list ho) (set_slice ho hb hab hs pl pu (hvs.length ▸ hz.1) (hws.length ▸ hz.2) fun h' hsb hget => ⟨_, rfl, x1_1 hget fun n'' gt => ?_⟩)
    have S : Step C [] ρ ρ s.heap h' := stepMut (.inr ⟨_, List.mem_of_getElem? e0, .inl rfl⟩) hsb
    exact x0_2 (R.upd (n := s.toks) e0 (.inl rfl) hsb (.list gt ((hvs.go S).setSl (hws.go S) lo hi)) rfl) fun R' S' => k _ (e ▸ R') S'
theorem den_setSl (H : CfgOk C) (HC : ClsOk C) (HA : AccOk C) (HI : ItemOk C) {o value : Expr} {lo hi : Option Expr} {f g : EM} {fl fh : Option EM} (D0 : DenE C d env vars value f) (D1 : DenE C d env vars o g) (D2 : DenO C d env vars lo fl) (D3 : DenO C d env vars hi fh)
    (hs : swapsWith value (some (.Subscript o (.Slice lo hi none ps') p')) p.line env = pure false) : DenS C d env vars (.Assign [.Subscript o (.Slice lo hi none ps') p'] value p) (setSlS g fl fh f) := by
  intro lc σ flw lc' σ' hf A Q E s ρ hA R lr kk
  refine oB hf fun v e1 hf => oB hf fun oo e2 hf => oB hf fun l el hf => oB hf fun ai e3 hf => oB hf fun bi e4 hf => oM hf fun σ₅ hp e9 => ?_
  refine wpAny_Assign_Subscript (D0 _ _ _ _ e1 A _ E s ρ hA R lr fun vv s₁ ρ₁ R₁ S₁ q₁ => D1 _ _ _ _ e2 A _ E s₁ ρ₁ hA R₁ (lr.go S₁) fun ov s₂ ρ₂ R₂ S₂ q₂ => wpAny_Slice ?_) hs
  refine opt_rel D2 e3 hA R₂ (lr.go (S₁.trans S₂)) fun vl s₃ ρ₃ R₃ S₃ pl => opt_rel D3 e4 hA R₃ (lr.go ((S₁.trans S₂).trans S₃)) fun vu s₄ ρ₄ R₄ S₄ pu => ?_
  rw [evalPart_none]
  refine wpAny_pure ?_
  have S₅ : Step C [] ρ₄ ρ₄ s₄.heap (s₄.heap.push { cls := .type "slice", data := .fields #[vl, vu, .none] }) := .pushObj _
  have T := (S₃.trans S₄).trans S₅
  exact putSl_rel H HC HA HI hp (R₄.push { cls := .type "slice", data := .fields #[vl, vu, .none] } (n := s₄.toks)) ((AV.loc_inv el ▸ q₂).go T) (q₁.go (S₂.trans T)) (Heap.IsSliceOf.new ..) pl pu fun s' R' S' =>
    kfs kk e9 _ s' ρ₄ R' (((S₁.trans S₂).trans T).trans S').of_nil (lr.go (((S₁.trans S₂).trans T).trans S')) .next
end
end Mine.Internal
end
section
open PySem PySem.W PyProof.Rows PySem.Calls
namespace Mine.Internal
noncomputable def ainp (op : Operator) (a b : AV) : Option AV := match op with
  | .Add => (a.str?.bind fun x => b.str?.bind fun y => gd (decide (x.length + y.length ≤ 1000000)) (.str (x ++ y))).or (a.int?.bind fun x => b.int?.map fun y => .int (x + y))
  | _ => none
section
variable {C : Cfg} {ρ : Rho} {σ σ' : St} {s : Shared} {A : Around} {E : Value → Shared → Prop} {a : Addr} {vs : List Value} {env : Env} {vars : List Str} {lc : Lc} {p p' : Pos} {d : Nat}
set_option tactic.hygienic false in
theorem ainp_rel {op : Operator} {x y z : AV} {vx vy : Value} {Q : Value → Shared → Prop} (R : Rel C ρ σ s) (qx : VR C ρ s.heap x vx) (qy : VR C ρ s.heap y vy) (h : ainp op x y = some z)
    (k : ∀ v s', Rel C ρ σ s' → Step C [] ρ ρ s.heap s'.heap → VR C ρ s'.heap z v → Q v s') : wpAny (model C.prog C.w) A (inplaceOp op vx vy) Q E s := by
  cases op with
  | Add =>
    refine oO (show ((x.str?.bind fun a => y.str?.bind fun b => gd (decide (a.length + b.length ≤ 1000000)) (AV.str (a ++ b))).or (x.int?.bind fun a => y.int?.map fun b => AV.int (a + b))) = some z from h) (fun h => oB h fun a e1 h => oB h fun b e2 h => oG h fun hz e => ?_) fun h => oB h fun a e1 h => oM h fun b e2 e => ?_
    · exact qx.str_of e1 fun uu o1 => qy.str_of e2 fun uu o2 => PyProof.Rows.iadd_str (fun t' tk => k _ _ R.toks .refl (e ▸ .str _ _ (strOk_append o1 o2))) (Nat.le_trans (of_decide_eq_true hz) (by decide))
    · exact qx.int_of e1 fun uu => qy.int_of e2 fun uu => wpAny_iadd_int (k _ _ R.toks .refl (e ▸ .int _ _))
  | _ => exact nomatch h
theorem set_int {i : Int} {t : Tok} {v : Value} {j : Nat} {Q : Fin → Shared → Prop} {c : Value} {dd : Option Addr} {n : Nat} {slo : Array (Option Value)} (ho : s.heap.get? a = some ⟨c, dd, .seq vs.toArray n, slo⟩) (hi : -1000000000 ≤ i ∧ i < 1000000000) (hj : seqIndex? i vs.length = some j) (hlt : j < vs.length)
    (k : ∀ h', Heap.SameBut a s.heap h' → (∃ n', h'.get? a = some ⟨c, dd, .seq (vs.set j v).toArray n', slo⟩) → Q (.done (.ret .none)) { s with heap := h' }) :
    wpAny (model C.prog C.w) A (Builtin.«list.__setitem__» ⟨[.ref a, .int i t, v], []⟩) Q E s := by
  have hf : Builtin.List.listFitsIndex i = true := by
    unfold Builtin.List.listFitsIndex
    simp only [Bool.and_eq_true, decide_eq_true_eq]
    (first | lia | omega)
  have x := List.getElem?_eq_getElem hlt
  have fin : ∀ (B : Sem Fin), B = (do setSeqItemAt a j v; pure (.done (.ret .none))) → wpAny (model C.prog C.w) A B Q E s := by
    rintro B rfl
    refine wpAny_bind (wpAny_setSeqItemAt ho rfl (wpAny_pure ?_))
    have gt := mapSeq_at ho (fun xs => xs.setIfInBounds j v)
    have e : vs.toArray.setIfInBounds j v = (vs.set j v).toArray := by simp
    rw [e] at gt
    exact k _ (Heap.SameBut.update ..) ⟨_, gt⟩
  show wpAny _ _ (Builtin.List.listSubscript? (.int i t) >>= _) _ _ s
  refine wpAny_bind (wpAny_listSubscript_int hf ?_)
  dsimp only
  have hx : vs.toArray[j]? = some vs[j] := by simpa using x
  cases i with
  | ofNat m =>
    have e : seqIndex? (Int.ofNat m) vs.length = some m ∨ seqIndex? (Int.ofNat m) vs.length = none := by
      unfold seqIndex?
      dsimp only
      split
      · rename_i h0; exact absurd h0 (by simp)
      · split
        · exact .inl rfl
        · exact .inr rfl
    have : j = m := by
      rcases e with e | e
      · rw [e] at hj; cases hj; rfl
      · rw [e] at hj; cases hj
    subst this
    show wpAny _ _ ((seqItemAt a j >>= _) >>= _) _ _ _
    refine wpAny_bind (wpAny_bind (wpAny_seqItemAt ho rfl ?_))
    rw [hx]
    exact wpAny_pure (fin _ rfl)
  | negSucc m =>
    show wpAny _ _ ((Builtin.List.listItems (.ref a) >>= _) >>= _) _ _ _
    unfold Builtin.List.listItems
    refine wpAny_bind (wpAny_bind (wpAny_bind (wpAny_seqItems ho rfl (wpAny_pure ?_))))
    rw [List.size_toArray, hj]
    dsimp only [Option.bind_some]
    rw [hx]
    exact wpAny_pure (fin _ rfl)
set_option tactic.hygienic false in
theorem VRs.set {h : Heap} {xs : List AV} {vs : List Value} (q : VRs C ρ h xs vs) {j : Nat} {x : AV} {v : Value} (qx : VR C ρ h x v) : VRs C ρ h (xs.set j x) (vs.set j v) := by
  refine q.ind (P := fun xs vs => ∀ j, VRs C ρ h (xs.set j x) (vs.set j v)) (fun uu => .nil) (fun a b ih j => ?_) j
  cases j with
  | zero => exact .cons qx b
  | succ j => exact .cons a (ih j)
noncomputable def putAt (l : Nat) (i : Int) (z : AV) (σ : St) : Option St := (lstAt σ l).bind fun xs => if -1000000000 ≤ i ∧ i < 1000000000 then (seqIndex? i xs.length).bind fun j => gd (decide (j < xs.length)) (σ.set l (.list (xs.set j z))) else none
set_option tactic.hygienic false in
theorem put_rel (H : CfgOk C) (HC : ClsOk C) (HA : AccOk C) (HI : ItemOk C) {l : Nat} {i : Int} {t : Tok} {z : AV} {vo v : Value} {Q : Unit → Shared → Prop} (h : putAt l i z σ = some σ') (R : Rel C ρ σ s) (qo : VR C ρ s.heap (.loc l) vo) (qz : VR C ρ s.heap z v)
    (k : ∀ s', Rel C ρ σ' s' → Step C [] ρ ρ s.heap s'.heap → Q () s') : wpAny (model C.prog C.w) A (setItem vo (.int i t) v) Q E s := by
  refine oB h fun xs hl h => sf h fun hi h => oB h fun j hj h => oG h fun hlt e => R.list_e (lstAt_inv hl) qo fun a vs n e0 ho hvs => ?_
  refine setItem_seq H HC HA HI (R.kin H) (.list ho) (set_int ho hi (by rw [hvs.length]; exact hj) (by rw [hvs.length]; exact of_decide_eq_true hlt) fun h' hsb hget => ⟨_, rfl, x1_1 hget fun n'' gt => ?_⟩)
  have S : Step C [] ρ ρ s.heap h' := stepMut (.inr ⟨_, List.mem_of_getElem? e0, .inl rfl⟩) hsb
  exact x0_2 (R.upd (n := s.toks) e0 (.inl rfl) hsb (.list gt ((hvs.go S).set (qz.go S))) rfl) fun R' S' => k _ (e ▸ R') S'
noncomputable def augIdxS (g ix : EM) (op : Operator) (f : EM) : SM := fun lc σ => (g lc σ).bind fun o => o.1.loc?.bind fun l => (ix lc o.2).bind fun q => q.1.int?.bind fun i => (aget q.2 o.1 i).bind fun x => (f lc q.2).bind fun r => (ainp op x r.1).bind fun z => (putAt l i z r.2).map (.next, lc, ·)
theorem den_augIdx (H : CfgOk C) (HC : ClsOk C) (HA : AccOk C) (HI : ItemOk C) {o i value : Expr} {op : Operator} {g ix f : EM} (D1 : DenE C d env vars o g) (D2 : DenE C d env vars i ix) (D3 : DenE C d env vars value f)
    (hst : ∀ ov iv new, augStore i ov iv new = (do holding [new, ov, iv] (setItem ov iv new); release [new, ov, iv] []; pure .next)) :
    DenS C d env vars (.AugAssign (.Subscript o i p') op value p) (augIdxS g ix op f) := by
  intro lc σ fl lc' σ' hf A Q E s ρ hA R lr kk
  refine oB hf fun oo e1 hf => oB hf fun l el hf => oB hf fun iq e2 hf => oB hf fun iv ei hf => oB hf fun x hx hf => oB hf fun y e3 hf => oB hf fun z hz hf => oM hf fun σ₅ hp e9 => ?_
  refine wpAny_AugAssign_SubscriptAny (D1 _ _ _ _ e1 A _ E s ρ hA R lr fun ov s₁ ρ₁ R₁ S₁ q₁ => D2 _ _ _ _ e2 A _ E s₁ ρ₁ hA R₁ (lr.go S₁) fun vi s₂ ρ₂ R₂ S₂ q₂ => ?_) hst
  refine q₂.int_of ei fun ti => (get_rel H HC HA HI hx R₂ (q₁.go S₂) fun w n qw => ?_).2
  refine D3 _ _ _ _ e3 A _ E _ ρ₂ hA R₂.toks (lr.go (S₁.trans S₂)) fun w s₃ ρ₃ R₃ S₃ q₃ => ?_
  refine ainp_rel R₃ (qw.go S₃) q₃ hz fun u s₄ R₄ S₄ q₄ => ?_
  have T := (S₂.trans S₃).trans S₄
  exact put_rel H HC HA HI hp R₄ ((AV.loc_inv el ▸ q₁).go T) q₄ fun s' R' S' => kfs kk e9 _ s' ρ₃ R' ((S₁.trans T).trans S').of_nil (lr.go ((S₁.trans T).trans S')) .next
end
end Mine.Internal
end
section
open PySem PySem.W PyProof.Rows PySem.Calls
namespace Mine.Internal
section
variable {C : Cfg} {ρ : Rho} {σ σ' : St} {s : Shared} {A : Around} {E : Value → Shared → Prop} {a : Addr} {vs : List Value} {env : Env} {vars : List Str} {lc : Lc} {p p' pt : Pos} {d : Nat}
set_option tactic.hygienic false in
theorem tuple_end {it l : Addr} {i : Nat} {items} {Q : Option Value → Shared → Prop} (hh : A.handled = none) (hit : s.heap.IsTupleIter it l i) (hl : s.heap.IsTuple l items) (hx : items[i]? = none)
    (hQ : ∀ h', Heap.ExtBut it s.heap h' → s.heap.objs.size ≤ h'.objs.size → Q none { s with heap := h' }) : wpAny (model C.prog C.w) A (pyNext (.ref it)) Q E s := by
  (refine x1_3 (id hit) fun o ho hc hd => ?_)
  refine x1_2 hl fun ol hol z => x1_1 z.2 fun nl hdl => ?_
  unfold pyNext
  refine wpAny_bind (wpAny_attempt (wpAny_callSpecial?_slot (name := Str.ofString "__next__") hit.typeIs F.slot_tuple_iterator_next
    (wpAny_call_entry F.slot_tuple_iterator_next hit.typeIs F.entry_tuple_iterator_next ?_ (F.args_tuple_iterator_next_1 _))))
  show wpAny _ _ (field (.ref it) 0 >>= _) _ _ s
  refine wpAny_bind (wpAny_field ho hd (x := .ref l) rfl ?_)
  show wpAny _ _ (if (Value.ref l == Value.none) = true then _ else _) _ _ s
  rw [if_neg (show ¬ ((Value.ref l == Value.none) = true) from Bool.false_ne_true)]
  show wpAny _ _ (field (.ref it) 1 >>= _) _ _ s
  refine wpAny_bind (wpAny_field ho hd (x := .int i 0) rfl ?_)
  show wpAny _ _ (seqItems? (.ref l) >>= _) _ _ s
  refine wpAny_bind (wpAny_seqItems hol hdl ?_)
  simp only [Int.toNat_natCast, hx]
  exact stop_iter hh ho hd (by simp) _ hQ
set_option tactic.hygienic false in
theorem unpack_tuple {t : Addr} {items : Array Value} {Q : List Value → Shared → Prop} (hh : A.handled = none) (ht : s.heap.IsTuple t items)
    (hQ : ∀ h', (∀ b o, s.heap.get? b = some o → h'.get? b = some o) → s.heap.objs.size ≤ h'.objs.size → Q items.toList { s with heap := h' }) : wpAny (model C.prog C.w) A (unpackItems (.ref t) items.size none) Q E s := by
  have hlt : t ≠ s.heap.objs.size := by (refine x1_2 (ht) fun o ho uu => ?_; clear ht); exact Nat.ne_of_lt (Heap.lt_size ho)
  unfold unpackItems
  refine wpAny_bind ?_
  unfold notIterableAtAll
  refine wpAny_bind (wpAny_specialOf ht.typeIs F.slot_tuple_iter.lookup ?_)
  refine wpAny_pure ?_
  simp only [Bool.false_eq_true, if_false]
  refine wpAny_bind (wpAny_holding (wpAny_pyIter_tuple ht ?_))
  refine wpAny_bind (wpAny_holding (wpAny_draw_tuple hlt items.size 0 _ _ ⟨_, Heap.get?_push_size _ rfl, rfl, rfl⟩ (ht.push _) (by (first | lia | omega)) fun h₁ hit₁ hs₁ => ?_))
  have hall : List.take items.size (List.drop 0 items.toList) = items.toList := by
    rw [List.drop_zero]; exact List.take_of_length_le (by simp)
  rw [hall]
  rw [if_neg (by simp)]
  have ht₁ : h₁.IsTuple t items := (ht.push _).extBut hs₁.extBut hlt
  refine wpAny_bind (wpAny_holding (tuple_end hh hit₁ ht₁ (by simp) fun h₂ he₂ z₂ => ?_))
  simp only [Option.isSome_none, Bool.false_eq_true, if_false]
  have z1 : h₁.objs.size = s.heap.objs.size + 1 := by rw [hs₁.1]; exact Heap.size_push ..
  refine wpAny_pure (hQ h₂ (fun b o e => ?_) (by have : h₁.objs.size ≤ h₂.objs.size := z₂; (first | lia | omega)))
  have hb : b ≠ s.heap.objs.size := Nat.ne_of_lt (Heap.lt_size e)
  exact he₂ b o hb (hs₁.extBut b o hb (Heap.get?_push_of_some _ e))
noncomputable def unpS (i j : Nat) (f : EM) : SM := fun lc σ => (f lc σ).bind fun p => p.1.tup?.bind fun xs => (arg2 xs).bind fun xy => (putL lc i xy.1).bind fun lc₁ => (putL lc₁ j xy.2).map (.next, ·, p.2)
set_option tactic.hygienic false in
theorem store_two (He : EnvOk env vars) {i j : Nat} {n m : Str} (hi : vars[i]? = some n) (hj : vars[j]? = some m) {lc lc₁ lc₂ : Lc} {x y : AV} {v w : Value} (h1 : putL lc i x = some lc₁) (h2 : putL lc₁ j y = some lc₂) {k0 : Nat} {t : Addr} {nn : Nat} {pa pb : Pos} (hh : A.handled = none) (R : Rel C ρ σ s) (lr : LcR C ρ s.heap env.locals vars lc)
    (ho : s.heap.get? t = some (tupObj [v, w] nn)) (qx : VR C ρ s.heap x v) (qy : VR C ρ s.heap y w) {Q : Unit → Shared → Prop}
    (k : ∀ s', Rel C ρ σ s' → Step C [env.locals] ρ ρ s.heap s'.heap → LcR C ρ s'.heap env.locals vars lc₂ → Q () s') : wpAny (model C.prog C.w) A (assign (.Tuple [.Name n pa, .Name m pb] k0 pt) env (.ref t)) Q E s := by
  rw [arm_assign_Tuple]
  refine wpAny_bind (wpAny_standAt ?_)
  unfold unpack
  refine wpAny_bind (wpAny_holding (unpack_tuple (items := #[v, w]) hh ⟨_, ho, rfl, _, rfl⟩ fun h' kp z => ?_))
  have R' : Rel C ρ σ { s with heap := h' } := R.same kp z R.gens rfl rfl
  have S' : Step C [] ρ ρ s.heap h' := .same kp z
  show wpAny _ _ (do holding [w] (assign (.Name n pa) env v); do holding [] (assign (.Name m pb) env w); pure ()) _ _ _
  refine wpAny_bind (wpAny_holding (wpAny_assign_Name (store_name He hi h1 R' (lr.go S') (qx.go S') fun s₁ R₁ S₁ l₁ => ?_)))
  have nsW : ∀ a o vs n, a ∈ [env.locals] → h'.get? a = some o → o.data ≠ .seq vs n := ns_noSeq (lr.go S').1.choose_spec.1
  refine wpAny_bind (wpAny_holding (wpAny_assign_Name (store_name He hj h2 R₁ l₁ ((qy.go S').step S₁ nsW) fun s₂ R₂ S₂ l₂ => wpAny_pure ?_)))
  exact k s₂ R₂ ((S'.of_nil.trans S₁).trans S₂) l₂
end
end Mine.Internal
end
section
open PySem PySem.W PyProof.Rows PySem.Calls
namespace Mine.Internal
noncomputable def loopS (nx : St → Nat → Option (Option AV)) (st : Lc → AV → Option Lc) (B O : SM) : Nat → Nat → SM
  | 0, _, _, _ => none
  | fuel + 1, i, lc, σ => (nx σ i).bind fun o => match o with
    | some x => (st lc x).bind fun lc₁ => (B lc₁ σ).bind fun t => match t.1 with
      | .next => loopS nx st B O fuel (i + 1) t.2.1 t.2.2
      | .cont => loopS nx st B O fuel (i + 1) t.2.1 t.2.2
      | .brk => some (.next, t.2)
      | .ret v => some (.ret v, t.2)
    | none => O lc σ
structure LoopAt (C : Cfg) (env : Env) (vars : List Str) (Is : List Addr) (nx : St → Nat → Option (Option AV)) (st : Lc → AV → Option Lc) (B O : SM) (Inv : Nat → Rho → Heap → Prop) (r : Fl × Lc × St) (ρ : Rho) (h : Heap) (n i : Nat) (lc : Lc) (σ : St) (ρ₁ : Rho) (u : Shared) : Prop where
  run : loopS nx st B O n i lc σ = some r
  R : Rel C ρ₁ σ u
  l : LcR C ρ₁ u.heap env.locals vars lc
  I : Inv i ρ₁ u.heap
  m : ∀ J ∈ Is, ¬ Mut C ρ₁ J
  S : Step C (env.locals :: Is) ρ ρ₁ h u.heap
section
variable {C : Cfg} {ρ ρ' : Rho} {σ σ' : St} {s : Shared} {A : Around} {E : Value → Shared → Prop} {env : Env} {vars : List Str} {lc : Lc} {d : Nat}
set_option tactic.hygienic false in
theorem Rel.iter (R : Rel C ρ σ s) {I : Addr} {o : Obj} {h' : Heap} {n : Nat} (ho : s.heap.get? I = some o) (hno : ∀ vs n, o.data ≠ .seq vs n) (hcl : o.cls ≠ .type "code") (hm : ¬ Mut C ρ I) (hl : C.s₁.heap.objs.size ≤ I)
    (k : ∀ b o, b ≠ I → s.heap.get? b = some o → h'.get? b = some o) (z : s.heap.objs.size ≤ h'.objs.size) : Rel C ρ σ { s with heap := h', toks := n } ∧ Step C [I] ρ ρ s.heap h' :=
  R.moves (Is := [I]) (fun J hJ => List.mem_singleton.mp hJ ▸ ⟨o, ho, hno, fun z => absurd z hcl⟩) (fun J hJ => List.mem_singleton.mp hJ ▸ hm) (fun J hJ => List.mem_singleton.mp hJ ▸ hl) (fun b o hb e => k b o (fun z => hb (List.mem_singleton.mpr z)) e) z
set_option tactic.hygienic false in
theorem LcR.iter {I L : Addr} {h h' : Heap} {o : Obj} (q : LcR C ρ h L vars lc) (S : Step C [I] ρ ρ h h') (hne : L ≠ I) (ho : h.get? I = some o) (hno : ∀ vs n, o.data ≠ .seq vs n) : LcR C ρ h' L vars lc := by
  refine ⟨x1_2 q.1 fun m hn hv => ⟨m, hn.at fun o e => S.keep _ _ e q.2.1 (by rw [List.mem_singleton]; exact hne), fun i x e => x2_3 (hv i x e) fun n v a b c => ⟨n, v, a, b, c.step S (one_noSeq ho hno)⟩⟩, q.2.1, q.2.2⟩
structure IterOk (C : Cfg) (d : Nat) (env : Env) (vars : List Str) (I : Addr) (Is : List Addr) (target : Expr) (nx : St → Nat → Option (Option AV)) (st : Lc → AV → Option Lc) (Inv : Nat → Rho → Heap → Prop) : Prop where
  keep : ∀ i ρ ρ' h h', Inv i ρ h → (∀ J ∈ Is, ¬ Mut C ρ J) → (∀ a o vs n, a ∈ [env.locals] → h.get? a = some o → o.data ≠ .seq vs n) → Step C [env.locals] ρ ρ' h h' → Inv i ρ' h'
  here : ∀ i ρ h, Inv i ρ h → ∀ J ∈ Is, ∃ o, h.get? J = some o
  next : ∀ (A : Around) i lc lc₁ σ ρ s x (Q : Shared → Prop) (E' : Value → Shared → Prop), AOk d A → Rel C ρ σ s → LcR C ρ s.heap env.locals vars lc → Inv i ρ s.heap → (∀ J ∈ Is, ¬ Mut C ρ J) → nx σ i = some (some x) → st lc x = some lc₁ →
    (∀ s', Rel C ρ σ s' → Step C (env.locals :: Is) ρ ρ s.heap s'.heap → LcR C ρ s'.heap env.locals vars lc₁ → Inv (i + 1) ρ s'.heap → Q s') →
    wpAny (model C.prog C.w) A (pyNext (.ref I)) (fun r s₁ => ∃ v, r = some v ∧ wpAny (model C.prog C.w) A (letOwnedTupleGo target (.ref I) v) (fun _ s₁' => wpAny (model C.prog C.w) A (assign target env v) (fun _ s₂ => Q s₂) E' s₁') E' s₁) E' s
  stop : ∀ (A : Around) i lc σ ρ s (Q : Shared → Prop) (E' : Value → Shared → Prop), AOk d A → Rel C ρ σ s → LcR C ρ s.heap env.locals vars lc → Inv i ρ s.heap → (∀ J ∈ Is, ¬ Mut C ρ J) → nx σ i = some none →
    (∀ s', Rel C ρ σ s' → Step C (env.locals :: Is) ρ ρ s.heap s'.heap → LcR C ρ s'.heap env.locals vars lc → Q s') →
    wpAny (model C.prog C.w) A (pyNext (.ref I)) (fun r s₁ => r = none ∧ Q s₁) E' s
theorem loop_turn {I : Addr} {Is : List Addr} {target : Expr} {body : List Stmt} {nx : St → Nat → Option (Option AV)} {st : Lc → AV → Option Lc} {B O : SM} {Inv : Nat → Rho → Heap → Prop} (IT : IterOk C d env vars I Is target nx st Inv) (DB : DenB C d env vars body B) (hA : AOk d A)
    {n i : Nat} {fl : Fl} {lc lc₁ lc' : Lc} {σ₁ : St} {ρ₁ : Rho} {u s₂ : Shared} (L : LoopAt C env vars Is nx st B O Inv (fl, lc', σ') ρ s.heap (n + 1) i lc σ₁ ρ₁ u) (R₂ : Rel C ρ₁ σ₁ s₂) (S₂ : Step C (env.locals :: Is) ρ₁ ρ₁ u.heap s₂.heap) (l₂ : LcR C ρ₁ s₂.heap env.locals vars lc₁) (I₂ : Inv (i + 1) ρ₁ s₂.heap)
    (hf : ((B lc₁ σ₁).bind fun t => match t.1 with
      | .next => loopS nx st B O n (i + 1) t.2.1 t.2.2
      | .cont => loopS nx st B O n (i + 1) t.2.1 t.2.2
      | .brk => some (.next, t.2)
      | .ret v => some (.ret v, t.2)) = some (fl, lc', σ')) {P : Result → Shared → Prop} {E' : Value → Shared → Prop}
    (k : ∀ w s' ρ', Rel C ρ' σ' s' → Step C (env.locals :: Is) ρ ρ' s.heap s'.heap → LcR C ρ' s'.heap env.locals vars lc' → FlR C ρ' s'.heap fl w → P (.ok w) s') :
    wpAny (model C.prog C.w) A (execs body env) (fun f s₃ => match f with
      | .next => ∃ m, m < n + 1 ∧ ∃ i lc σ₁ ρ₁, LoopAt C env vars Is nx st B O Inv (fl, lc', σ') ρ s.heap m i lc σ₁ ρ₁ s₃
      | .cont => ∃ m, m < n + 1 ∧ ∃ i lc σ₁ ρ₁, LoopAt C env vars Is nx st B O Inv (fl, lc', σ') ρ s.heap m i lc σ₁ ρ₁ s₃
      | .brk => P (.ok .next) s₃
      | .ret v => P (.ok (.ret v)) s₃) E' s₂ := by
  refine oB hf fun t hB hf => ?_
  rcases t with ⟨f1, lc₂, σ₂⟩
  refine DB _ _ _ _ _ hB A _ _ s₂ ρ₁ hA R₂ l₂ fun w s₃ ρ₃ R₃ S₃ l₃ q₃ => ?_
  have ST := (L.S.trans S₂).trans (S₃.weaken (W' := env.locals :: Is) fun a ha => by rw [List.mem_singleton.mp ha]; exact List.mem_cons_self)
  have more : loopS nx st B O n (i + 1) lc₂ σ₂ = some (fl, lc', σ') → ∃ m, m < n + 1 ∧ ∃ i lc σ₁ ρ₁, LoopAt C env vars Is nx st B O Inv (fl, lc', σ') ρ s.heap m i lc σ₁ ρ₁ s₃ :=
    fun hf' => ⟨n, Nat.lt_succ_self _, i + 1, lc₂, σ₂, ρ₃, hf', R₃, l₃, IT.keep _ _ _ _ _ I₂ L.m (ns_noSeq l₂.1.choose_spec.1) S₃, (fun J hJ => let ⟨o, ho⟩ := IT.here _ _ _ I₂ J hJ; Mut.grow S₃ (Heap.lt_size ho) (L.m J hJ)), ST⟩
  cases q₃ with
  | next => exact more hf
  | cont => exact more hf
  | brk => exact kfS k hf _ _ ρ₃ R₃ ST l₃ .next
  | ret q => exact kfS k hf _ _ ρ₃ R₃ ST l₃ (.ret q)
theorem loop_rel {I : Addr} {Is : List Addr} {target : Expr} {body orelse : List Stmt} {nx : St → Nat → Option (Option AV)} {st : Lc → AV → Option Lc} {B O : SM} {Inv : Nat → Rho → Heap → Prop} (IT : IterOk C d env vars I Is target nx st Inv) (DB : DenB C d env vars body B) (DO : DenB C d env vars orelse O) (hA : AOk d A)
    {fuel i : Nat} {fl : Fl} {lc' : Lc} (hf : loopS nx st B O fuel i lc σ = some (fl, lc', σ')) (R : Rel C ρ σ s) (lr : LcR C ρ s.heap env.locals vars lc) (hI : Inv i ρ s.heap) (hm : ∀ J ∈ Is, ¬ Mut C ρ J) {P : Result → Shared → Prop}
    (k : ∀ w s' ρ', Rel C ρ' σ' s' → Step C (env.locals :: Is) ρ ρ' s.heap s'.heap → LcR C ρ' s'.heap env.locals vars lc' → FlR C ρ' s'.heap fl w → P (.ok w) s') :
    codeAny (model C.prog C.w) A (.forLoop target (.ref I) body orelse env) P s := by
  refine codeAny_forLoop_any (fun n u => ∃ i lc σ₁ ρ₁, LoopAt C env vars Is nx st B O Inv (fl, lc', σ') ρ s.heap n i lc σ₁ ρ₁ u) ?_ fuel ⟨i, lc, σ, ρ, hf, R, lr, hI, hm, .refl⟩
  rintro n u ⟨i, lc, σ₁, ρ₁, L⟩
  cases n with
  | zero => exact nomatch L.run
  | succ n =>
    refine oB L.run fun o hx hf => ?_
    cases o with
    | some x =>
      refine oB hf fun lc₁ hst hf => ?_
      refine wpAny_mono (IT.next A i lc lc₁ σ₁ ρ₁ u x (fun s₂ => Rel C ρ₁ σ₁ s₂ ∧ Step C (env.locals :: Is) ρ₁ ρ₁ u.heap s₂.heap ∧ LcR C ρ₁ s₂.heap env.locals vars lc₁ ∧ Inv (i + 1) ρ₁ s₂.heap) _ hA L.R L.l L.I L.m hx hst fun s₂ a b c e => ⟨a, b, c, e⟩) (fun r s₁ h₁ => x1_2 h₁ fun v er h₁ => ?_) fun uu uu z => z
      rw [er]
      exact wpAny_mono h₁ (fun uu s₁' h₁' => wpAny_mono h₁' (fun uu s₂ h₂ => loop_turn IT DB hA L h₂.1 h₂.2.1 h₂.2.2.1 h₂.2.2.2 hf k) fun uu uu z => z) fun uu uu z => z
    | none =>
      refine wpAny_mono (IT.stop A i lc σ₁ ρ₁ u (fun s₂ => Rel C ρ₁ σ₁ s₂ ∧ Step C (env.locals :: Is) ρ₁ ρ₁ u.heap s₂.heap ∧ LcR C ρ₁ s₂.heap env.locals vars lc) _ hA L.R L.l L.I L.m hx fun s₂ a b c => ⟨a, b, c⟩) (fun r s₁ h₁ => x0_4 h₁ fun er R₂ S₂ l₂ => ?_) fun uu uu z => z
      rw [er]
      exact DO _ _ _ _ _ hf A _ _ s₁ ρ₁ hA R₂ l₂ fun w s₃ ρ₃ R₃ S₃ l₃ q₃ => k _ _ ρ₃ R₃ ((L.S.trans S₂).trans (S₃.weaken fun a ha => by rw [List.mem_singleton.mp ha]; exact List.mem_cons_self)) l₃ q₃
end
end Mine.Internal
end
section
open PySem PySem.W PyProof.Rows PySem.Calls
namespace Mine.Internal
set_option tactic.hygienic false in
theorem runs_size {M : Model} {Γ : Ctx} {p : Pos} {t : Sem Fin} {fs : List Frame} {s s' : Shared} {e : End} (h : Runs M Γ p t fs s e s') : s.heap.objs.size ≤ s'.heap.objs.size := by
  induction h <;> (try simp only [Shared.setGen, Heap.size_push, Heap.size_after_update] at *) <;> (first | lia | omega)
set_option tactic.hygienic false in
theorem wakes_size {M : Model} {Γ : Ctx} {p : Pos} {g : Nat} {r : Resume} {s s' : Shared} {res : GenResult} (h : Wakes M Γ p g r s res s') : s.heap.objs.size ≤ s'.heap.objs.size := by
  unfold Wakes at h
  split at h
  · exact h.elim
  · split at h
    · (refine x2_4 (h) fun e₁ s₁ hr uu uu rr5 => ?_; clear h; subst rr5); exact (runs_size hr : (s.setGen g .running).heap.objs.size ≤ s₁.heap.objs.size)
    · rw [h.2]; exact Nat.le_refl _
    · rw [h.2]; exact Nat.le_refl _
  · (refine x2_4 (h) fun e₁ s₁ hr uu uu rr5 => ?_; clear h; subst rr5); exact (runs_size hr : (s.setGen g .running).heap.objs.size ≤ s₁.heap.objs.size)
  · rw [h.2]; exact Nat.le_refl _
  · rw [h.2]; exact Nat.le_refl _
set_option tactic.hygienic false in
theorem wp_size {α : Type} (M : Model) (Γ : Ctx) (n : Nat) (t : Sem α) : ∀ (Q : α → Pos → Shared → Prop) (E : Value → Pos → Shared → Prop) (p : Pos) (s : Shared), n ≤ s.heap.objs.size → Sem.wp M Γ t Q E p s →
    Sem.wp M Γ t (fun a p' s' => n ≤ s'.heap.objs.size ∧ Q a p' s') (fun e p' s' => n ≤ s'.heap.objs.size ∧ E e p' s') p s := by
  induction t with
  | pure a => intro Q E p s hn h; exact ⟨hn, h⟩
  | raise e => intro Q E p s hn h; exact ⟨hn, h⟩
  | unsupported _ => intro Q E p s _ h; exact h
  | finish _ => intro Q E p s _ h; exact h
  | rule _ k ih => intro Q E p s hn h; exact ih () Q E p s hn h
  | «at» p' k ih => intro Q E p s hn h; exact ih () Q E p' s hn h
  | load a _ k ih => intro Q E p s hn h; (refine x1_2 (h) fun o ho h => ?_); exact ⟨o, ho, ih o Q E p s hn h⟩
  | update a _ f k ih => intro Q E p s hn h; exact ⟨h.1, ih () Q E p _ (by rw [Heap.size_after_update]; exact hn) h.2⟩
  | loadIfAlive a k ih => intro Q E p s hn h; exact ih _ Q E p s hn h
  | point _ k ih => intro Q E p s hn h; exact ih () Q E p s hn h
  | register _ _ => intro Q E p s _ h; exact h
  | alloc o k ih => intro Q E p s hn h; exact ih _ Q E p _ (by show n ≤ (s.heap.push o).objs.size; rw [Heap.size_push]; (first | lia | omega)) h
  | fresh k ih => intro Q E p s hn h; exact ih _ Q E p _ hn h
  | ask k ih => intro Q E p s hn h; exact ih _ Q E p s hn h
  | choose src m k ih => intro Q E p s hn h; exact ⟨h.1, ih _ Q E p _ hn h.2⟩
  | os q _ k ih => intro Q E p s hn h; exact ih _ Q E p _ hn h
  | call c hd _ _ k ih => intro Q E p s hn h; (refine x2_2 (h) fun r s' hr h => ?_); exact ⟨r, s', hr, ih r Q E p s' (Nat.le_trans hn (runs_size hr)) h⟩
  | handled own k ih => intro Q E p s hn h; exact ih _ Q E p s hn h
  | genState g k ih => intro Q E p s hn h; (refine x1_2 (h) fun st hs h => ?_); exact ⟨st, hs, ih _ Q E p s hn h⟩
  | newGen c k ih => intro Q E p s hn h; exact ih _ Q E p _ hn h
  | resume g r _ k ih => intro Q E p s hn h; (refine x2_2 (h) fun res s' hw h => ?_); exact ⟨res, s', hw, ih res Q E p s' (Nat.le_trans hn (wakes_size hw)) h⟩
  | yield _ _ _ _ => intro Q E p s _ h; exact h
  | stack k ih => intro Q E p s hn h; exact ih _ Q E p s hn h
  | fork _ _ => intro Q E p s _ h; exact h
  | thread k ih => intro Q E p s hn h; exact ih _ Q E p s hn h
  | await _ _ _ _ _ => intro Q E p s _ h; exact h
set_option tactic.hygienic false in
theorem with_size {α : Type} {M : Model} {A : Around} {s : Shared} {t : Sem α} {Q : α → Shared → Prop} {E : Value → Shared → Prop}
    (h : wpAny M A t (fun a s' => s.heap.objs.size ≤ s'.heap.objs.size → Q a s') (fun e s' => s.heap.objs.size ≤ s'.heap.objs.size → E e s') s) : wpAny M A t Q E s :=
  fun Γ p hΓ => Sem.wp_mono M Γ t (fun uu uu uu x => x.2 x.1) (fun uu uu uu x => x.2 x.1) _ _ (wp_size M Γ s.heap.objs.size t _ _ p s (Nat.le_refl _) (h Γ p hΓ))
end Mine.Internal
end
section
open PySem PySem.W PyProof.Rows PySem.Calls
namespace Mine.Internal
section
variable {C : Cfg} {ρ ρ' : Rho} {σ σ' : St} {s : Shared} {A : Around} {E : Value → Shared → Prop} {env : Env} {vars : List Str} {lc : Lc} {d : Nat}
structure OneIter (C : Cfg) (env : Env) (I : Addr) (nx : St → Nat → Option (Option AV)) (Inv : Nat → Rho → Heap → Prop) : Prop where
  lo : C.s₁.heap.objs.size ≤ I
  ne : env.locals ≠ I
  kind : ∀ i ρ h, Inv i ρ h → ∃ o, h.get? I = some o ∧ (∀ vs n, o.data ≠ .seq vs n) ∧ o.cls ≠ .type "code"
  keep : ∀ i ρ ρ' h h', Inv i ρ h → ¬ Mut C ρ I → (∀ a o vs n, a ∈ [env.locals] → h.get? a = some o → o.data ≠ .seq vs n) → Step C [env.locals] ρ ρ' h h' → Inv i ρ' h'
  item : ∀ (A : Around) i σ ρ s x (Q : Option Value → Shared → Prop) (E' : Value → Shared → Prop), A.handled = none → Rel C ρ σ s → Inv i ρ s.heap → nx σ i = some (some x) →
    (∀ v h' tk, VR C ρ s.heap x v → Inv (i + 1) ρ h' → (∀ b o, b ≠ I → s.heap.get? b = some o → h'.get? b = some o) → Q (some v) { s with heap := h', toks := tk }) → wpAny (model C.prog C.w) A (pyNext (.ref I)) Q E' s
  done : ∀ (A : Around) i σ ρ s (Q : Option Value → Shared → Prop) (E' : Value → Shared → Prop), A.handled = none → Rel C ρ σ s → Inv i ρ s.heap → nx σ i = some none →
    (∀ h' tk, (∀ b o, b ≠ I → s.heap.get? b = some o → h'.get? b = some o) → Q none { s with heap := h', toks := tk }) → wpAny (model C.prog C.w) A (pyNext (.ref I)) Q E' s
theorem OneIter.ok {I : Addr} {nx : St → Nat → Option (Option AV)} {Inv : Nat → Rho → Heap → Prop} (W : OneIter C env I nx Inv) (He : EnvOk env vars) {j : Nat} {n : Str} {pn : Pos} (hj : vars[j]? = some n) :
    IterOk C d env vars I [I] (.Name n pn) nx (fun lc x => putL lc j x) Inv where
  keep i ρ ρ' h h' hI hm := W.keep i ρ ρ' h h' hI (hm I List.mem_cons_self)
  here i ρ h hI J hJ := let ⟨o, ho, _⟩ := W.kind i ρ h hI; ⟨o, by rw [List.mem_singleton.mp hJ]; exact ho⟩
  next A i lc lc₁ σ ρ s x Q E' hA R lr hI hm hx hst k := by
    replace hm := hm I List.mem_cons_self
    (refine x1_3 (W.kind i ρ s.heap hI) fun o ho hno hcl => ?_)
    refine with_size (W.item A i σ ρ s x _ _ hA.1 R hI hx fun v h' tk qv hI' kp z => ?_)
    (refine x0_2 (R.iter (n := tk) ho hno hcl hm W.lo kp z) fun R' S' => ?_)
    have l' := lr.iter S' W.ne ho hno
    refine ⟨v, rfl, wpAny_pure ?_⟩
    refine wpAny_assign_Name (store_name He hj hst R' l' (qv.step S' (one_noSeq ho hno)) fun s₂ R₂ S₂ l₂ => ?_)
    have I₂ : Inv (i + 1) ρ s₂.heap := W.keep _ _ _ _ _ hI' hm (ns_noSeq l'.1.choose_spec.1) S₂
    exact k s₂ R₂ ((S'.weaken fun a ha => by simp at ha; simp [ha]).trans (S₂.weaken fun a ha => by simp at ha; simp [ha])) l₂ I₂
  stop A i lc σ ρ s Q E' hA R lr hI hm hx k := by
    replace hm := hm I List.mem_cons_self
    (refine x1_3 (W.kind i ρ s.heap hI) fun o ho hno hcl => ?_)
    refine with_size (W.done A i σ ρ s _ _ hA.1 R hI hx fun h' tk kp z => ?_)
    (refine x0_2 (R.iter (n := tk) ho hno hcl hm W.lo kp z) fun R' S' => ?_)
    exact ⟨rfl, k _ R' (S'.weaken fun a ha => by simp at ha; simp [ha]) (lr.iter S' W.ne ho hno)⟩
set_option tactic.hygienic false in
theorem Step.dropI {Is : List Addr} {h h' : Heap} (S : Step C (env.locals :: Is) ρ ρ' h h') (hI : ∀ J ∈ Is, h.objs.size ≤ J) : Step C [env.locals] ρ ρ' h h' :=
  ⟨S.size, fun b o e n w => S.keep b o e n (by
    intro m
    rcases List.mem_cons.mp m with m | m
    · exact w (by rw [m]; exact List.mem_cons_self)
    · exact absurd (Heap.lt_size e) (Nat.not_lt.mpr (hI b m))), S.grow⟩
set_option tactic.hygienic false in
theorem one_fresh {I : Addr} (h : ¬ Mut C ρ I) : ∀ J ∈ [I], ¬ Mut C ρ J := fun J hJ => by rw [List.mem_singleton.mp hJ]; exact h
set_option tactic.hygienic false in
theorem one_above {I : Addr} {h : Heap} (hI : h.objs.size ≤ I) : ∀ J ∈ [I], h.objs.size ≤ J := fun J hJ => by rw [List.mem_singleton.mp hJ]; exact hI
end
end Mine.Internal
end
section
open PySem PySem.W PyProof.Rows PySem.Calls
namespace Mine.Internal
noncomputable def nxL (src : AV) : St → Nat → Option (Option AV) := fun σ i => (asList σ src).map (·[i]?)
noncomputable def signAV (c : Nat) : AV := .str ⟨#[c]⟩
noncomputable def nxS (x : Str) : St → Nat → Option (Option AV) := fun _ i => some (x.cps[i]?.map signAV)
section
variable {C : Cfg} {ρ ρ' : Rho} {σ σ' : St} {s : Shared} {A : Around} {E : Value → Shared → Prop} {env : Env} {vars : List Str} {lc : Lc} {d : Nat}
set_option tactic.hygienic false in
theorem listIter_kind {h : Heap} {I a : Addr} {i : Nat} (x : h.IsListIter I a i) : ∃ o, h.get? I = some o ∧ (∀ vs n, o.data ≠ .seq vs n) ∧ o.cls ≠ .type "code" := by
  (refine x1_3 (x) fun o ho hc hd => ?_; clear x)
  exact ⟨o, ho, fun vs n z => by rw [hd] at z; (cases z), by rw [hc]; decide⟩
set_option tactic.hygienic false in
theorem strIter_kind {h : Heap} {I : Addr} {x : Str} {t : Tok} {ty : String} {i : Nat} (y : h.IsStrIter I ty x t i) (hty : ty ≠ "code") : ∃ o, h.get? I = some o ∧ (∀ vs n, o.data ≠ .seq vs n) ∧ o.cls ≠ .type "code" := by
  (refine x1_3 (y) fun o ho hc hd => ?_; clear y)
  exact ⟨o, ho, fun vs n z => by rw [hd] at z; (cases z), by rw [hc]; intro z; cases z; exact hty rfl⟩
set_option tactic.hygienic false in
theorem oneList {I a : Addr} {src : AV} (lo : C.s₁.heap.objs.size ≤ I) (ne : env.locals ≠ I) (haL : a ≠ env.locals) (haI : a ≠ I) : OneIter C env I (nxL src) (fun i ρ h => h.IsListIter I a i ∧ VR C ρ h src (.ref a)) where
  lo := lo
  ne := ne
  kind _ _ _ hI := listIter_kind hI.1
  keep i ρ ρ' h h' hI hm hW S := ⟨hI.1.at fun o e => S.keep _ _ e hm (by simpa using Ne.symm ne), hI.2.step S hW⟩
  item A i σ ρ s x Q E' hh R hI hx k := by
    unfold nxL at hx
    (refine x1_2 (Option.map_eq_some_iff.mp hx) fun xs hxs hxi => ?_)
    (refine x3_3 (asList_rel R hI.2 hxs) fun a' vs n e ho hs => ?_)
    cases e
    (refine x1_2 (hs.get hxi) fun v hv qv => ?_)
    (refine x1_3 (listIter_kind hI.1) fun o hoI hno uu => ?_)
    refine next_item hI.1 (items := vs.toArray) ⟨_, _, ho, rfl⟩ (x := v) (by simpa using hv) fun h' hit' hs' => ?_
    refine k v h' s.toks qv ⟨hit', ?_⟩ fun b o hb e => (hs'.2 b hb).trans e
    exact hI.2.step (stepWrite hs') (one_noSeq hoI hno)
  done A i σ ρ s Q E' hh R hI hx k := by
    unfold nxL at hx
    (refine x1_2 (Option.map_eq_some_iff.mp hx) fun xs hxs hxi => ?_)
    (refine x3_3 (asList_rel R hI.2 hxs) fun a' vs n e ho hs => ?_)
    cases e
    have hn : vs.toArray[i]? = none := by
      rw [List.getElem?_eq_none_iff] at hxi
      simp
      rw [hs.length]; exact hxi
    refine next_end hh hI.1 (items := vs.toArray) ⟨_, _, ho, rfl⟩ hn fun h' he => ?_
    exact k h' s.toks fun b o hb e => he b o hb e
set_option tactic.hygienic false in
theorem oneAscii {I : Addr} {x : Str} {t : Tok} (ok : PyData.strOk x = true) (lo : C.s₁.heap.objs.size ≤ I) (ne : env.locals ≠ I) : OneIter C env I (nxS x) (fun i uu h => h.IsStrIter I "str_ascii_iterator" x t i) where
  lo := lo
  ne := ne
  kind _ _ _ hI := strIter_kind hI (by decide)
  keep i ρ ρ' h h' hI hm hW S := let ⟨o, ho, r⟩ := hI; ⟨o, S.keep _ _ ho hm (by simpa using Ne.symm ne), r⟩
  item A i σ ρ s y Q E' hh R hI hx k := by
    unfold nxS at hx
    (refine x1_2 (Option.map_eq_some_iff.mp (Option.some.inj hx)) fun c hc e => ?_)
    cases e
    refine wpAny_pyNext_ascii_item hI hc fun h' hit' hs' => ?_
    obtain ⟨hlt, e⟩ := Array.getElem?_eq_some_iff.mp hc
    exact k _ h' _ (.str _ _ (strOk_one ok (e ▸ Array.mem_toList_iff.mpr (Array.getElem_mem hlt)))) hit' fun b o hb e => (hs'.2 b hb).trans e
  done A i σ ρ s Q E' hh R hI hx k := by
    unfold nxS at hx
    have hn : x.cps[i]? = none := by
      have := Option.some.inj hx
      cases h : x.cps[i]? with
      | none => rfl
      | some c => rw [h] at this; cases this
    exact wpAny_pyNext_ascii_end hh hI hn fun h' he => k h' _ fun b o hb e => he b o hb e
set_option tactic.hygienic false in
theorem oneWide {I : Addr} {x : Str} {t : Tok} (ok : PyData.strOk x = true) (lo : C.s₁.heap.objs.size ≤ I) (ne : env.locals ≠ I) : OneIter C env I (nxS x) (fun i uu h => h.IsStrIter I "str_iterator" x t i) where
  lo := lo
  ne := ne
  kind _ _ _ hI := strIter_kind hI (by decide)
  keep i ρ ρ' h h' hI hm hW S := let ⟨o, ho, r⟩ := hI; ⟨o, S.keep _ _ ho hm (by simpa using Ne.symm ne), r⟩
  item A i σ ρ s y Q E' hh R hI hx k := by
    unfold nxS at hx
    (refine x1_2 (Option.map_eq_some_iff.mp (Option.some.inj hx)) fun c hc e => ?_)
    cases e
    refine wpAny_pyNext_wide_item hI hc fun h' hit' hs' => ?_
    obtain ⟨hlt, e⟩ := Array.getElem?_eq_some_iff.mp hc
    exact k _ h' _ (.str _ _ (strOk_one ok (e ▸ Array.mem_toList_iff.mpr (Array.getElem_mem hlt)))) hit' fun b o hb e => (hs'.2 b hb).trans e
  done A i σ ρ s Q E' hh R hI hx k := by
    unfold nxS at hx
    have hn : x.cps[i]? = none := by
      have := Option.some.inj hx
      cases h : x.cps[i]? with
      | none => rfl
      | some c => rw [h] at this; cases this
    exact wpAny_pyNext_wide_end hh hI hn fun h' he => k h' _ fun b o hb e => he b o hb e
noncomputable def forS (j : Nat) (f : EM) (B O : SM) : SM := fun lc σ => (f lc σ).bind fun p =>
  (p.1.str?.bind fun x => loopS (nxS x) (fun lc y => putL lc j y) B O 1000000 0 lc p.2).or
  ((asList p.2 p.1).bind fun _ => loopS (nxL p.1) (fun lc y => putL lc j y) B O 1000000 0 lc p.2)
set_option tactic.hygienic false in
theorem den_for (He : EnvOk env vars) {j : Nat} {n : Str} {pn p : Pos} {iter : Expr} {body orelse : List Stmt} {f : EM} {B O : SM} (hj : vars[j]? = some n) (D : DenE C d env vars iter f) (DB : DenB C d env vars body B) (DO : DenB C d env vars orelse O)
    (hs : ∀ x, foldedSetIterable iter env x = pure x) : DenS C d env vars (.For (.Name n pn) iter body orelse p) (forS j f B O) := by
  intro lc σ fl lc' σ' hf A Q E s ρ hA R lr kk
  have run : ∀ {x : AV} {σ₁ : St}, f lc σ = some (x, σ₁) → (∀ v s₁ ρ₁, Rel C ρ₁ σ₁ s₁ → Step C [] ρ ρ₁ s.heap s₁.heap → VR C ρ₁ s₁.heap x v → LcR C ρ₁ s₁.heap env.locals vars lc →
      wpAny (model C.prog C.w) A (pyIter v) (fun it s₂ => ∃ o nx Inv, it = .ref s₁.heap.objs.size ∧ s₂ = { s₁ with heap := s₁.heap.push o } ∧ OneIter C env s₁.heap.objs.size nx Inv ∧ Inv 0 ρ₁ s₂.heap ∧ loopS nx (fun lc y => putL lc j y) B O 1000000 0 lc σ₁ = some (fl, lc', σ')) E s₁) →
      wpAny (model C.prog C.w) A (exec (.For (.Name n pn) iter body orelse p) env) Q E s := by
    intro x σ₁ e1 h
    refine wpAny_For (D _ _ _ _ e1 A _ E s ρ hA R lr fun v s₁ ρ₁ R₁ S₁ q₁ => ?_) hs
    refine wpAny_mono (h v s₁ ρ₁ R₁ S₁ q₁ (lr.go S₁)) (fun it s₂ h₂ => ?_) fun uu uu z => z
    (refine x3_5 (h₂) fun o nx Inv rr3 rr4 IT hI hL => ?_; clear h₂; subst rr3; subst rr4)
    have S₂ : Step C [] ρ₁ ρ₁ s₁.heap (s₁.heap.push o) := .pushObj _
    refine loop_rel (IT.ok He hj) DB DO hA hL (R₁.push o (n := s₁.toks)) ((lr.go S₁).go S₂) hI (one_fresh R₁.fresh) fun w s' ρ' R' S' l' q' => ?_
    refine kk w s' ρ' R' (S₁.of_nil.trans ?_) l' q'
    have S3 : Step C [env.locals, s₁.heap.objs.size] ρ₁ ρ' s₁.heap s'.heap := S₂.of_nil.trans S'
    exact S3.dropI (one_above (Nat.le_refl _))
  refine oB hf fun y e1 hf => run (x := y.1) (σ₁ := y.2) e1 fun v s₁ ρ₁ R₁ S₁ q₁ l₁ => ?_
  have neL : env.locals ≠ s₁.heap.objs.size := Nat.ne_of_lt l₁.1.choose_spec.1.lt
  refine oO hf (fun hf => ?_) fun hf => oB hf fun xs hxs hf => ?_
  · refine oB hf fun x ex hf => ?_
    refine q₁.str_of ex fun t ok => ?_
    cases ha : x.cps.all (· < 128)
    · exact wpAny_pyIter_wide ha ⟨_, _, _, rfl, rfl, oneWide (t := t) ok R₁.size neL, ⟨_, Heap.get?_push_size _ rfl, rfl, rfl⟩, hf⟩
    · exact wpAny_pyIter_ascii ha ⟨_, _, _, rfl, rfl, oneAscii (t := t) ok R₁.size neL, ⟨_, Heap.get?_push_size _ rfl, rfl, rfl⟩, hf⟩
  · refine x3_3 (asList_rel R₁ q₁ hxs) fun a vs n' ev ho hv => ?_
    rw [ev] at q₁ ⊢
    have haL : a ≠ env.locals := fun z => ns_noSeq l₁.1.choose_spec.1 _ _ _ _ (List.mem_singleton.mpr z) ho rfl
    exact wpAny_pyIter_list (IsL.isList ho) ⟨_, _, _, rfl, rfl, oneList (a := a) (src := y.1) R₁.size neL haL (Nat.ne_of_lt (Heap.lt_size ho)), ⟨⟨_, Heap.get?_push_size _ rfl, rfl, rfl⟩, q₁.go (.pushObj _)⟩, hf⟩
end
end Mine.Internal
end
section
open PySem PySem.W PyProof.Rows PySem.Calls
namespace Mine.Internal
noncomputable def smallInt (a : Int) : Bool := decide (-1000000000 < a) && decide (a < 1000000000)
set_option tactic.hygienic false in
theorem smallInt_iff {a : Int} : smallInt a = true ↔ -1000000000 < a ∧ a < 1000000000 := by unfold smallInt; rw [Bool.and_eq_true, decide_eq_true_eq, decide_eq_true_eq]
noncomputable def nxR (a b c : Int) : St → Nat → Option (Option AV) := fun _ i => some (gd (decide ((i : Int) < Builtin.Range.rangeSize a b c)) (.int (a + c * i)))
section
variable {C : Cfg} {ρ ρ' : Rho} {σ σ' : St} {s : Shared} {A : Around} {E : Value → Shared → Prop} {env : Env} {vars : List Str} {lc : Lc} {d : Nat}
set_option tactic.hygienic false in
theorem oneRange {I : Addr} {a b c : Int} (lo : C.s₁.heap.objs.size ≤ I) (ne : env.locals ≠ I) : OneIter C env I (nxR a b c) (fun i uu h => IsRangeIter h I (a + c * i) (Builtin.Range.rangeSize a b c - i) c) where
  lo := lo
  ne := ne
  kind _ _ _ hI := ⟨_, hI, (fun vs n z => by cases z), by show Value.type "range_iterator" ≠ _; decide⟩
  keep i ρ ρ' h h' hI hm hW S := S.keep _ _ hI hm (by simpa using Ne.symm ne)
  item A i σ ρ s y Q E' hh R hI hx k := by
    refine oG (Option.some.inj hx) fun hlt e => ?_
    have hlt := of_decide_eq_true hlt
    · refine wpAny_pyNext_range_item hI (by (first | lia | omega)) fun h' hit' hs' => ?_
      refine k _ h' _ (e ▸ .int _ _) ?_ fun b o hb e => (hs'.2 b hb).trans e
      have e1 : a + c * (i : Int) + c = a + c * ((i + 1 : Nat) : Int) := by rw [Int.natCast_add, Int.mul_add]; (first | lia | omega)
      have e2 : Builtin.Range.rangeSize a b c - (i : Int) - 1 = Builtin.Range.rangeSize a b c - ((i + 1 : Nat) : Int) := by (first | lia | omega)
      rw [e1, e2] at hit'
      exact hit'
  done A i σ ρ s Q E' hh R hI hx k := by
    have hlt : ¬ (i : Int) < Builtin.Range.rangeSize a b c := fun z => nomatch (gd_of (a := AV.int (a + c * i)) (decide_eq_true z)).symm.trans (Option.some.inj hx)
    · exact wpAny_pyNext_range_end hh hI (by (first | lia | omega)) fun h' he => k h' _ fun b o hb e => he b o hb e
noncomputable def rangeZ : List Int → Option (Int × Int × Int)
  | [b] => some (0, b, 1)
  | [a, b] => some (a, b, 1)
  | [a, b, c] => some (a, b, c)
  | [] => none
  | _ :: _ :: _ :: _ :: _ => none
noncomputable def rangeArgs (xs : List AV) : Option (Int × Int × Int) := (optAll AV.int? xs).bind rangeZ
noncomputable def okRange (a b c : Int) : Bool := Builtin.Range.small a b c && (c != 0 && decide (c.natAbs < 2 ^ 31))
noncomputable def forRS (j : Nat) (fs : List EM) (B O : SM) : SM := fun lc σ => (evs fs lc σ).bind fun p => (rangeArgs p.1).bind fun r => if okRange r.1 r.2.1 r.2.2 = true then loopS (nxR r.1 r.2.1 r.2.2) (fun lc y => putL lc j y) B O 1000000 0 lc p.2 else none
set_option tactic.hygienic false in
theorem okRange_iff {a b c : Int} (h : okRange a b c = true) : Builtin.Range.small a b c = true ∧ c.natAbs < 2 ^ 31 ∧ c ≠ 0 := by
  unfold okRange at h
  rw [Bool.and_eq_true, Bool.and_eq_true, bne_iff_ne, decide_eq_true_eq] at h
  exact ⟨h.1, h.2.2, h.2.1⟩
set_option tactic.hygienic false in
theorem avInt_rel {h : Heap} {xs : List AV} {vs : List Value} {zs : List Int} (q : VRs C ρ h xs vs) (e : optAll AV.int? xs = some zs) : IntsAre vs zs :=
  q.ind (P := fun xs vs => ∀ zs, optAll AV.int? xs = some zs → IntsAre vs zs) (fun zs e => Option.some.inj e ▸ .nil) (fun a uu ih zs e => oB e fun i ei e => oM e fun is e1 e2 => e2 ▸ a.int_of ei fun t => .cons _ _ (ih _ e1)) _ e
set_option tactic.hygienic false in
theorem range_rel {a b c : Int} {xs : List AV} {vs : List Value} {Q' : Value → Shared → Prop} (q : VRs C ρ s.heap xs vs) (e : rangeArgs xs = some (a, b, c)) (hc : c.natAbs < 2 ^ 31) (h0 : c ≠ 0)
    (k : ∀ h' tk r t u v, IsRange h' r a b c t u v → (∀ b o, s.heap.get? b = some o → h'.get? b = some o) → s.heap.objs.size ≤ h'.objs.size → Q' (.ref r) { s with heap := h', toks := tk }) : wpAny (model C.prog C.w) A (call (.type "range") vs) Q' E s := by
  have fin : ∀ {o : Obj}, (∀ b o', s.heap.get? b = some o' → (s.heap.push o).get? b = some o') ∧ s.heap.objs.size ≤ (s.heap.push o).objs.size := fun {o} => ⟨fun uu uu e => Heap.get?_push_of_some _ e, by rw [Heap.size_push]; (first | lia | omega)⟩
  refine oB e fun zs ez e => ?_
  have I := avInt_rel q ez
  cases I with
  | nil => exact nomatch e
  | cons z1 t1 I => cases I with
    | nil => cases e; exact call_range_1 (k _ _ _ _ _ _ (Heap.get?_push_size _ rfl) fin.1 fin.2)
    | cons z2 t2 I => cases I with
      | nil => cases e; exact call_range_2 (k _ _ _ _ _ _ (Heap.get?_push_size _ rfl) fin.1 fin.2)
      | cons z3 t3 I => cases I with
        | nil => cases e; exact call_range_3 h0 (k _ _ _ _ _ _ (Heap.get?_push_size _ rfl) fin.1 fin.2) (.inl (noPyl hc))
        | cons => exact nomatch e
set_option tactic.hygienic false in
theorem den_forR (H : CfgOk C) (He : EnvOk env vars) {j : Nat} {n : Str} {pn p p0 p1 : Pos} {es : List Expr} {body orelse : List Stmt} {fs : List EM} {B O : SM} (hj : vars[j]? = some n) (hv : GlobVal C "range" (.type "range")) (hk : env.kindOf "range" = some .globalImplicit) (D : DenEs C d env vars es fs) (DB : DenB C d env vars body B) (DO : DenB C d env vars orelse O) :
    DenS C d env vars (.For (.Name n pn) (.Call (.Name "range" p0) es [] p1) body orelse p) (forRS j fs B O) := by
  intro lc σ fl lc' σ' hf A Q E s ρ hA R lr kk
  refine oB hf fun y e1 hf => oB hf fun r e2 hf => sf hf fun e3 hL => ?_
  rcases y with ⟨xs, σ₁⟩
  rcases r with ⟨a, b, c⟩
  refine x0_3 (okRange_iff e3) fun hsm hc hc0 => ?_
  refine wpAny_For ?_
  show wpAny _ _ (do callWith p1 (← eval (.Name "range" p0) env) [] (backTo p1 (starEach es env)) (backToKw p1 (keywordEach [] env))) _ _ _
  refine wpAny_bind (global_rel H He hv hk (by decide) R ?_)
  refine callWith_rel H D e1 keep_type hA R lr fun vs s₁ ρ₁ R₁ S₁ q₁ => ?_
  rw [List.nil_append]
  refine range_rel q₁ e2 hc hc0 fun h₂ tk r t u v hr kp z => ?_
  have R₂ : Rel C ρ₁ σ₁ { s₁ with heap := h₂, toks := tk } := R₁.same kp z R₁.gens rfl rfl
  have S₂ : Step C [] ρ₁ ρ₁ s₁.heap h₂ := .same kp z
  have l₂ := (lr.go S₁).go S₂
  have neL : env.locals ≠ h₂.objs.size := Nat.ne_of_lt l₂.1.choose_spec.1.lt
  refine wpAny_pyIter_range hr hsm ?_
  have S₃ : Step C [] ρ₁ ρ₁ h₂ (h₂.push { cls := .type "range_iterator", data := .fields #[rawInt a, rawInt (Builtin.Range.rangeSize a b c), rawInt c] }) := .pushObj _
  have hI : IsRangeIter (h₂.push { cls := .type "range_iterator", data := .fields #[rawInt a, rawInt (Builtin.Range.rangeSize a b c), rawInt c] }) h₂.objs.size (a + c * ((0 : Nat) : Int)) (Builtin.Range.rangeSize a b c - ((0 : Nat) : Int)) c := by
    have := Heap.get?_push_size h₂ (o := { cls := .type "range_iterator", data := .fields #[rawInt a, rawInt (Builtin.Range.rangeSize a b c), rawInt c] }) rfl
    rw [show a + c * ((0 : Nat) : Int) = a by simp, show Builtin.Range.rangeSize a b c - ((0 : Nat) : Int) = Builtin.Range.rangeSize a b c by simp]
    exact this
  refine loop_rel ((oneRange R₂.size neL).ok He hj) DB DO hA hL (R₂.push _ (n := tk)) (l₂.go S₃) hI (one_fresh R₂.fresh) fun w s' ρ' R' S' l' q' => ?_
  refine kk w s' ρ' R' ((S₁.trans S₂).of_nil.trans ?_) l' q'
  have S4 : Step C [env.locals, h₂.objs.size] ρ₁ ρ' h₂ s'.heap := S₃.of_nil.trans S'
  exact S4.dropI (one_above (Nat.le_refl _))
end
end Mine.Internal
end
section
open PySem PySem.W PyProof.Rows PySem.Calls
namespace Mine.Internal
noncomputable def Own (h : Heap) (T : Addr) : Prop := ∃ x y n, h.get? T = some { cls := .type "tuple", data := .seq #[x, y] n }
section
variable {C : Cfg} {ρ ρ' : Rho} {σ σ' : St} {s : Shared} {A : Around} {E : Value → Shared → Prop} {env : Env} {vars : List Str} {lc : Lc} {d : Nat}
set_option tactic.hygienic false in
theorem Own.at {h h' : Heap} {T : Addr} (x : Own h T) (k : ∀ o, h.get? T = some o → h'.get? T = some o) : Own h' T := let ⟨a, b, n, e⟩ := x; ⟨a, b, n, k _ e⟩
set_option tactic.hygienic false in
theorem own_upd {T : Addr} {a b x : Value} {n k : Nat} {Q : Unit → Shared → Prop} (hT : s.heap.get? T = some { cls := .type "tuple", data := .seq #[a, b] n })
    (h : ∀ h', h'.get? T = some { cls := .type "tuple", data := .seq ((#[a, b] : Array Value).setIfInBounds k x) n } → Heap.SameBut T s.heap h' → Q () { s with heap := h' }) :
    wpAny (model C.prog C.w) A (updateSeq T (·.setIfInBounds k x)) Q E s := by
  refine wpAny_updateSeq hT rfl (h _ ?_ (Heap.SameBut.update ..))
  rw [Heap.get?_update_self _ hT rfl]
  simp [Obj.mapSeq]
structure ZipAt (h : Heap) (z TI TO J l : Addr) (i : Nat) : Prop where
  zip : IsZip h z TI TO .none
  ti : IsPair h TI (.ref J) (.ref J)
  own : Own h TO
  it : h.IsListIter J l i
structure Apart1 (z TI TO J l : Addr) : Prop where
  TIz : TI ≠ z
  TOz : TO ≠ z
  Jz : J ≠ z
  TITO : TI ≠ TO
  TIJ : TI ≠ J
  TOJ : TO ≠ J
  lz : l ≠ z
  lTO : l ≠ TO
  lJ : l ≠ J
set_option tactic.hygienic false in
theorem zip1_item {z TI TO J l : Addr} {i : Nat} {xs : Array Value} {x y : Value} {Q : Value → Shared → Prop} (D : Apart1 z TI TO J l) (Z : ZipAt s.heap z TI TO J l i) (hl : s.heap.IsList l xs) (hx : xs[i]? = some x) (hy : xs[i + 1]? = some y)
    (hQ : ∀ h', IsZip h' z TI TO (rawInt s.heap.objs.size) → Own h' TO → h'.IsListIter J l (i + 2) → IsPair h' s.heap.objs.size x y → h'.objs.size = s.heap.objs.size + 1 →
      (∀ c o, c ≠ z → c ≠ TO → c ≠ J → s.heap.get? c = some o → h'.get? c = some o) → Q (.ref s.heap.objs.size) { s with heap := h' }) :
    wpAny (model C.prog C.w) A (Builtin.«zip.__next__» ⟨[.ref z], []⟩) (fun fin s' => ∃ v, fin = .done (.ret v) ∧ Q v s') E s := by
  have hz := Z.zip
  (refine x3_1 (Z.own) fun a b n hTO => ?_)
  show wpAny _ _ (field (.ref z) 2 >>= _) _ _ _
  refine wpAny_bind (wpAny_field hz rfl (x := .bool false) rfl ?_)
  show wpAny _ _ (field (.ref z) 3 >>= _) _ _ _
  refine wpAny_bind (wpAny_field hz rfl (x := .ref TI) rfl ?_)
  refine wpAny_bind (wpAny_seqItems Z.ti rfl ?_)
  show wpAny _ _ (Builtin.SmallTypes.ownedTupleIsFree (.ref z) >>= _) _ _ _
  refine wpAny_bind ?_
  unfold Builtin.SmallTypes.ownedTupleIsFree
  refine wpAny_bind (wpAny_field hz rfl (x := .none) rfl (wpAny_pure ?_))
  simp only [if_true]
  refine wpAny_bind (wpAny_rule ?_)
  refine wpAny_bind (wpAny_field hz rfl (x := .ref TO) rfl ?_)
  refine wpAny_bind (wpAny_setField_rec hz (by simp) fun h₁ hz₁ hs₁ => ?_)
  replace hz₁ : IsZip h₁ z TI TO .ellipsis := hz₁
  refine wpAny_bind ?_
  simp only [List.zipIdx_cons, List.zipIdx_nil, List.forIn_cons, List.forIn_nil]
  refine wpAny_bind (wpAny_bind (wpAny_onRaise ?_))
  show wpAny _ _ (Builtin.SmallTypes.nextOf (.ref J) >>= _) _ _ _
  refine wpAny_bind (wpAny_nextOf_list_item (Z.it.extBut hs₁.extBut D.Jz) (hl.extBut hs₁.extBut D.lz) hx fun h₂ h1₂ hs₂ => wpAny_pure ?_)
  have hTO₂ := hs₂.extBut _ _ D.TOJ (hs₁.extBut _ _ D.TOz hTO)
  refine wpAny_bind (wpAny_seqItems hTO₂ rfl ?_)
  refine wpAny_bind (own_upd hTO₂ fun h₃ hTO₃ hs₃ => ?_)
  replace hTO₃ : h₃.get? TO = some { cls := .type "tuple", data := .seq #[x, b] n } := hTO₃
  refine wpAny_bind (wpAny_letGo (wpAny_pure ?_))
  refine wpAny_bind (wpAny_bind (wpAny_onRaise ?_))
  show wpAny _ _ (Builtin.SmallTypes.nextOf (.ref J) >>= _) _ _ _
  refine wpAny_bind (wpAny_nextOf_list_item (h1₂.extBut hs₃.extBut D.TOJ.symm)
    (((hl.extBut hs₁.extBut D.lz).extBut hs₂.extBut D.lJ).extBut hs₃.extBut D.lTO) hy fun h₄ h2₄ hs₄ => wpAny_pure ?_)
  have hTO₄ := hs₄.extBut _ _ D.TOJ hTO₃
  refine wpAny_bind (wpAny_seqItems hTO₄ rfl ?_)
  refine wpAny_bind (own_upd hTO₄ fun h₅ hTO₅ hs₅ => ?_)
  replace hTO₅ : h₅.get? TO = some { cls := .type "tuple", data := .seq #[x, y] n } := hTO₅
  refine wpAny_bind (wpAny_letGo (wpAny_pure (wpAny_pure ?_)))
  refine wpAny_bind (wpAny_seqItems hTO₅ rfl ?_)
  refine wpAny_bind (wpAny_newTuple ?_)
  have hsz : h₅.objs.size = s.heap.objs.size := by rw [hs₅.1, hs₄.1, hs₃.1, hs₂.1, hs₁.1]
  have hz₅ : IsZip h₅ z TI TO .ellipsis := hs₅.extBut _ _ D.TOz.symm (hs₄.extBut _ _ D.Jz.symm (hs₃.extBut _ _ D.TOz.symm (hs₂.extBut _ _ D.Jz.symm hz₁)))
  have hk₅ : ∀ c o, c ≠ z → c ≠ TO → c ≠ J → s.heap.get? c = some o → h₅.get? c = some o := fun c o c1 c2 c3 e =>
    hs₅.extBut _ _ c2 (hs₄.extBut _ _ c3 (hs₃.extBut _ _ c2 (hs₂.extBut _ _ c3 (hs₁.extBut _ _ c1 e))))
  have h2₅ : h₅.IsListIter J l (i + 2) := h2₄.extBut hs₅.extBut D.TOJ.symm
  have hzlt : z < h₅.objs.size := Heap.lt_size hz₅
  show wpAny _ _ (Builtin.SmallTypes.ownedTupleHandOut (.ref z) (.ref h₅.objs.size) >>= _) _ _ _
  refine wpAny_bind ?_
  unfold Builtin.SmallTypes.ownedTupleHandOut
  have hz₆ : IsZip (h₅.push { cls := .type "tuple", data := .seq #[x, y] }) z TI TO .ellipsis := Heap.get?_push_of_some _ hz₅
  refine wpAny_bind (wpAny_setField_rec hz₆ (by simp) fun h₇ hz₇ hs₇ => ?_)
  replace hz₇ : IsZip h₇ z TI TO (rawInt h₅.objs.size) := hz₇
  refine wpAny_setField_rec hz₇ (by simp) fun h₈ hz₈ hs₈ => ?_
  replace hz₈ : IsZip h₈ z TI TO (rawInt h₅.objs.size) := hz₈
  have up : ∀ c o, c ≠ z → h₅.get? c = some o → h₈.get? c = some o := fun c o c1 e => hs₈.extBut _ _ c1 (hs₇.extBut _ _ c1 (Heap.get?_push_of_some _ e))
  have hT₈ : IsPair h₈ h₅.objs.size x y := hs₈.extBut _ _ (Nat.ne_of_gt hzlt) (hs₇.extBut _ _ (Nat.ne_of_gt hzlt) (Heap.get?_push_size _ rfl))
  have hz8 : h₈.objs.size = h₅.objs.size + 1 := by rw [hs₈.1, hs₇.1, Heap.size_push]
  rw [hsz] at hz₈ hT₈ hz8
  refine wpAny_pure ⟨_, rfl, ?_⟩
  show Q (.ref h₅.objs.size) _
  rw [hsz]
  exact hQ h₈ hz₈ ⟨_, _, _, up _ _ D.TOz hTO₅⟩ (h2₅.at fun o e => up _ o D.Jz e) hT₈ hz8 fun c o c1 c2 c3 e => up c o c1 (hk₅ c o c1 c2 c3 e)
set_option tactic.hygienic false in
theorem zip1_end {z TI TO J l : Addr} {i : Nat} {xs : Array Value} {Q : Fin → Shared → Prop} (hh : A.handled = none) (D : Apart1 z TI TO J l) (Z : ZipAt s.heap z TI TO J l i) (hl : s.heap.IsList l xs) (hend : xs[i]? = none ∨ xs[i + 1]? = none)
    (hE : ∀ h' e, Own h' TO → (∀ c o, c ≠ z → c ≠ TO → c ≠ J → s.heap.get? c = some o → h'.get? c = some o) → (∃ o, h'.get? e = some o ∧ o.cls = .type "StopIteration") → E (.ref e) { s with heap := h' }) :
    wpAny (model C.prog C.w) A (Builtin.«zip.__next__» ⟨[.ref z], []⟩) Q E s := by
  have hz := Z.zip
  (refine x3_1 (Z.own) fun a b n hTO => ?_)
  show wpAny _ _ (field (.ref z) 2 >>= _) _ _ _
  refine wpAny_bind (wpAny_field hz rfl (x := .bool false) rfl ?_)
  show wpAny _ _ (field (.ref z) 3 >>= _) _ _ _
  refine wpAny_bind (wpAny_field hz rfl (x := .ref TI) rfl ?_)
  refine wpAny_bind (wpAny_seqItems Z.ti rfl ?_)
  show wpAny _ _ (Builtin.SmallTypes.ownedTupleIsFree (.ref z) >>= _) _ _ _
  refine wpAny_bind ?_
  unfold Builtin.SmallTypes.ownedTupleIsFree
  refine wpAny_bind (wpAny_field hz rfl (x := .none) rfl (wpAny_pure ?_))
  simp only [if_true]
  refine wpAny_bind (wpAny_rule ?_)
  refine wpAny_bind (wpAny_field hz rfl (x := .ref TO) rfl ?_)
  refine wpAny_bind (wpAny_setField_rec hz (by simp) fun h₁ hz₁ hs₁ => ?_)
  replace hz₁ : IsZip h₁ z TI TO .ellipsis := hz₁
  refine wpAny_bind ?_
  simp only [List.zipIdx_cons, List.zipIdx_nil, List.forIn_cons, List.forIn_nil]
  refine wpAny_bind (wpAny_bind (wpAny_onRaise ?_))
  show wpAny _ _ (Builtin.SmallTypes.nextOf (.ref J) >>= _) _ _ _
  cases hx : xs[i]? with
  | none =>
    refine wpAny_bind (wpAny_nextOf_list_end hh (Z.it.extBut hs₁.extBut D.Jz) (hl.extBut hs₁.extBut D.lz) hx fun h₂ e hs₂ he => ?_)
    (refine x1_2 (he) fun oe hoe hce => ?_; clear he)
    have hz₂ : IsZip h₂ z TI TO .ellipsis := hs₂ _ _ D.Jz.symm hz₁
    have hez : e ≠ z := fun x => by subst x; rw [hz₂] at hoe; cases hoe; simp at hce
    exact wpAny_setField_rec hz₂ (by simp) fun h₃ uu hs₃ => hE h₃ e ⟨a, b, n, hs₃.extBut _ _ D.TOz (hs₂ _ _ D.TOJ (hs₁.extBut _ _ D.TOz hTO))⟩ (fun c o c1 uu c3 x => hs₃.extBut _ _ c1 (hs₂ _ _ c3 (hs₁.extBut _ _ c1 x))) ⟨oe, hs₃.extBut _ _ hez hoe, hce⟩
  | some x =>
    have hy : xs[i + 1]? = none := by rcases hend with h | h; rw [hx] at h; cases h; exact h
    refine wpAny_bind (wpAny_nextOf_list_item (Z.it.extBut hs₁.extBut D.Jz) (hl.extBut hs₁.extBut D.lz) hx fun h₂ h1₂ hs₂ => wpAny_pure ?_)
    have hTO₂ := hs₂.extBut _ _ D.TOJ (hs₁.extBut _ _ D.TOz hTO)
    refine wpAny_bind (wpAny_seqItems hTO₂ rfl ?_)
    refine wpAny_bind (own_upd hTO₂ fun h₃ hTO₃ hs₃ => ?_)
    replace hTO₃ : h₃.get? TO = some { cls := .type "tuple", data := .seq #[x, b] n } := hTO₃
    refine wpAny_bind (wpAny_letGo (wpAny_pure ?_))
    refine wpAny_bind (wpAny_bind (wpAny_onRaise ?_))
    show wpAny _ _ (Builtin.SmallTypes.nextOf (.ref J) >>= _) _ _ _
    refine wpAny_bind (wpAny_nextOf_list_end hh (h1₂.extBut hs₃.extBut D.TOJ.symm)
      (((hl.extBut hs₁.extBut D.lz).extBut hs₂.extBut D.lJ).extBut hs₃.extBut D.lTO) hy fun h₄ e hs₄ he => ?_)
    (refine x1_2 (he) fun oe hoe hce => ?_; clear he)
    have hz₄ : IsZip h₄ z TI TO .ellipsis := hs₄ _ _ D.Jz.symm (hs₃.extBut _ _ D.TOz.symm (hs₂.extBut _ _ D.Jz.symm hz₁))
    have hez : e ≠ z := fun x => by subst x; rw [hz₄] at hoe; cases hoe; simp at hce
    exact wpAny_setField_rec hz₄ (by simp) fun h₅ uu hs₅ => hE h₅ e ⟨x, b, n, hs₅.extBut _ _ D.TOz (hs₄ _ _ D.TOJ hTO₃)⟩ (fun c o c1 c2 c3 x => hs₅.extBut _ _ c1 (hs₄ _ _ c3 (hs₃.extBut _ _ c2 (hs₂.extBut _ _ c3 (hs₁.extBut _ _ c1 x))))) ⟨oe, hs₅.extBut _ _ hez hoe, hce⟩
set_option tactic.hygienic false in
theorem pyNext1_item {z TI TO J l : Addr} {i : Nat} {xs : Array Value} {x y : Value} {Q : Option Value → Shared → Prop} (D : Apart1 z TI TO J l) (Z : ZipAt s.heap z TI TO J l i) (hl : s.heap.IsList l xs) (hx : xs[i]? = some x) (hy : xs[i + 1]? = some y)
    (hQ : ∀ h', IsZip h' z TI TO (rawInt s.heap.objs.size) → Own h' TO → h'.IsListIter J l (i + 2) → IsPair h' s.heap.objs.size x y → h'.objs.size = s.heap.objs.size + 1 →
      (∀ c o, c ≠ z → c ≠ TO → c ≠ J → s.heap.get? c = some o → h'.get? c = some o) → Q (some (.ref s.heap.objs.size)) { s with heap := h' }) :
    wpAny (model C.prog C.w) A (pyNext (.ref z)) Q E s := by
  have hT : s.TypeIs (.ref z) "zip" := ⟨_, Z.zip, rfl⟩
  unfold pyNext
  exact wpAny_bind (wpAny_attempt (wpAny_callSpecial?_slot (name := Str.ofString "__next__") hT F.slot_zip_next
    (wpAny_call_entry F.slot_zip_next hT F.entry_zip_next (zip1_item D Z hl hx hy fun h' a1 a2 a3 a4 a5 a6 => wpAny_pure (hQ h' a1 a2 a3 a4 a5 a6)) (F.args_zip_next_1 _))))
set_option tactic.hygienic false in
theorem pyNext1_end {z TI TO J l : Addr} {i : Nat} {xs : Array Value} {Q : Option Value → Shared → Prop} (hh : A.handled = none) (D : Apart1 z TI TO J l) (Z : ZipAt s.heap z TI TO J l i) (hl : s.heap.IsList l xs) (hend : xs[i]? = none ∨ xs[i + 1]? = none)
    (hQ : ∀ h', Own h' TO → (∀ c o, c ≠ z → c ≠ TO → c ≠ J → s.heap.get? c = some o → h'.get? c = some o) → Q none { s with heap := h' }) : wpAny (model C.prog C.w) A (pyNext (.ref z)) Q E s := by
  have hT : s.TypeIs (.ref z) "zip" := ⟨_, Z.zip, rfl⟩
  unfold pyNext
  refine wpAny_bind (wpAny_attempt (wpAny_callSpecial?_slot (name := Str.ofString "__next__") hT F.slot_zip_next
    (wpAny_call_entry F.slot_zip_next hT F.entry_zip_next (zip1_end hh D Z hl hend fun h' e ow hk he => ?_) (F.args_zip_next_1 _))))
  (refine x1_2 (he) fun o ho hc => ?_; clear he)
  refine wpAny_bind (wpAny_isInstance (T := "StopIteration") (b := true) ⟨o, ho, hc⟩ isSubtype_stop ?_)
  exact wpAny_pure (hQ _ ow hk)
end
end Mine.Internal
end
section
open PySem PySem.W PyProof.Rows PySem.Calls
namespace Mine.Internal
section
variable {C : Cfg} {ρ ρ' : Rho} {σ σ' : St} {s : Shared} {A : Around} {E : Value → Shared → Prop} {env : Env} {vars : List Str} {lc : Lc} {d : Nat} {p : Pos}
set_option tactic.hygienic false in
theorem callWith_star {P : Heap → Prop} {f : Value} {first : List Value} {Q : Value → Shared → Prop} {x : Sem Value} (hk : ∀ h, P h → ∃ k, (k = Keeper.frame ∨ k = Keeper.machine ∨ k = Keeper.boundFrame) ∧ Looks (model C.prog C.w) h (keeperOf f) k)
    (h : wpAny (model C.prog C.w) A (evalArgs f true [(true, x)] []) (fun a s₁ => P s₁.heap ∧ wpAny (model C.prog C.w) A (call f (first ++ a.pos) a.kw) Q E s₁) E s) : wpAny (model C.prog C.w) A (callWith p f first [(true, x)] []) Q E s := by
  unfold callWith
  refine wpAny_bind (wpAny_holding (wpAny_mono h (fun a s₁ h₁ => wpAny_bind (wpAny_standAt ?_)) fun uu uu x => x))
  (refine x1_2 (hk _ h₁.1) fun k hk' L => ?_)
  refine wpAny_bind (L.here ?_)
  have tail : ∀ {t : Sem Value}, wpAny (model C.prog C.w) A t Q E s₁ → wpAny (model C.prog C.w) A (t >>= fun r => holding [r] point >>= fun uu => pure r) Q E s₁ :=
    fun ht => wpAny_bind (wpAny_mono ht (fun r s₂ hr => wpAny_bind (wpAny_holding (wpAny_point (wpAny_pure hr)))) fun uu uu x => x)
  rcases hk' with rfl | rfl | rfl
  · exact tail (by unfold callMarked; exact Calls.wpAny_keep h₁.2)
  · exact tail (wpAny_operate' h₁.2)
  · exact tail (wpAny_operate' h₁.2)
set_option tactic.hygienic false in
theorem star_args {f : Value} {x : Sem Value} {Q : Args → Shared → Prop} {T : String} (hT : T = "list" ∨ T = "tuple")
    (h : wpAny (model C.prog C.w) A x (fun v s₁ => ∃ a items n, v = .ref a ∧ s₁.heap.get? a = some { cls := .type T, data := .seq items n } ∧ items.size ≤ sizeLine ∧ ∀ h', (∀ b o, s₁.heap.get? b = some o → h'.get? b = some o) → s₁.heap.objs.size ≤ h'.objs.size → Q ⟨items.toList, []⟩ { s₁ with heap := h' }) E s) :
    wpAny (model C.prog C.w) A (evalArgs f true [(true, x)] []) Q E s := by
  unfold evalArgs
  refine wpAny_bind (wpAny_mono h (fun v s₁ h₁ => ?_) fun uu uu z => z)
  refine x3_4 h₁ fun a items n ev ho hsz kk => ?_
  rw [ev]
  refine wpAny_bind (wpAny_pure (wpAny_holding ?_))
  refine wpAny_bind (wpAny_pure ?_)
  refine wpAny_bind (wpAny_bind ?_)
  unfold notIterableAtAll
  have hty : s₁.TypeIs (.ref a) T := ⟨_, ho, rfl⟩
  have fin : wpAny (model C.prog C.w) A (holding [] (collect (.ref a))) (fun vs s₂ => wpAny (model C.prog C.w) A (pure (⟨vs, []⟩ : Args) : Sem Args) Q E s₂) E s₁ := by
    refine wpAny_holding (with_size (wpAny_collect_seq a hT ho rfl rfl (fun h' kp z => ?_) hsz))
    exact wpAny_pure (kk h' kp z)
  rcases hT with rfl | rfl
  · refine wpAny_bind (wpAny_specialOf hty slot_list_iter.lookup (wpAny_pure ?_))
    simp only [Bool.false_eq_true, if_false]
    exact fin
  · refine wpAny_bind (wpAny_specialOf hty F.slot_tuple_iter.lookup (wpAny_pure ?_))
    simp only [Bool.false_eq_true, if_false]
    exact fin
set_option tactic.hygienic false in
theorem getAttr_listM {name : Str} {x Cl f : Addr} {ox : Obj} {od : Option Obj} {expr : Bool} {Q : Value → Shared → Prop} (X : C.K.In s.heap) (I : W.InstAt s.heap x ox Cl od) (hga : findIn C.K (.ref Cl) "__getattribute__" = some (some (.builtin "list.__getattribute__"))) (hgt : findIn C.K (.ref Cl) "__getattr__" = some none)
    (hm : mroIn C.K Cl (.type "list") = some true) (hf : findObj C.K Cl od name = some (.bind (.builtin "function.__get__") (.ref f))) (ht : typeIn C.K (.ref f) = some (.type "function")) (k : Q (.ref s.heap.objs.size) { s with heap := s.heap.push (methodObj (.ref f) (.ref x)), toks := s.toks + 1 }) : wpAny (model C.prog C.w) A (getAttr (.ref x) name expr) Q E s := by
  have L1 := looks_findIn (M := model C.prog C.w) X hga
  have L2 := looks_findIn (M := model C.prog C.w) X hgt
  have L3 := looks_find (M := model C.prog C.w) X I hf
  have L0 := I.type (M := model C.prog C.w)
  obtain ⟨hp, g, d, t, os⟩ := s
  unfold getAttr getAttrBy
  refine wpAny_bind (wpAny_mkText (wpAny_holding (wpAny_bind (L0.at (wpAny_bind (L1.at ?_))))))
  show wpAny _ _ (getAttrByItsOwn _ _ _ _ _ _) _ _ _
  unfold getAttrByItsOwn
  refine wpAny_bind (L2.at ?_)
  refine wpAny_bind (wpAny_attempt (wpAny_holding ?_))
  have e : callGetattribute (.ref x) (.str name t) (.builtin "list.__getattribute__") expr = boundAndCalled (.builtin "list.__getattribute__") (.ref x) (.str name t) := by
    unfold callGetattribute
    rw [if_neg (by simp [onTheHeap])]
  rw [e]
  unfold boundAndCalled
  rw [ga_bind]
  refine wpAny_bind (wpAny_pure ?_)
  refine call_below (s := ⟨hp, g, d, t + 1, os⟩) X I hm (.inr (by decide +kernel)) (n := "__getattribute__") (by decide +kernel) (by decide +kernel) F.entry_list_ga (by unfold argsOk; kernel_rfl) ?_
  refine wpAny_bind (wpAny_pure (wpAny_bind (wpAny_pure (wpAny_bind (L0.at (wpAny_bind (L3.at ?_)))))))
  show wpAny _ _ (holding [.ref f] (call (.builtin "function.__get__") [.ref f, .ref x, .ref Cl]) >>= ret) _ _ _
  refine wpAny_bind (wpAny_holding (wpAny_call (fn_get X ht ?_)))
  refine wpAny_pure ⟨_, rfl, ?_⟩
  show wpAny _ _ (handedOut (.ref _)) _ _ _
  rw [handedOut_of rfl]
  exact wpAny_pure k
noncomputable def mStarE (F : List AV → St → Option (AV × St)) (f g : EM) : EM := fun lc σ => (f lc σ).bind fun p => if kind p.2 p.1 = 4 then (g lc p.2).bind fun q => q.1.tup?.bind fun xs => if xs.length < 1000 then F (p.1 :: xs) q.2 else none else none
end
end Mine.Internal
end
section
open PySem PySem.W PyProof.Rows PySem.Calls
namespace Mine.Internal
section
variable {C : Cfg} {ρ ρ' : Rho} {σ σ' : St} {s : Shared} {A : Around} {E : Value → Shared → Prop} {env : Env} {vars : List Str} {lc : Lc} {d : Nat} {p : Pos}
structure BindOk (C : Cfg) (name : Str) (f : Addr) : Prop where
  hf : findIn C.K (.ref C.ACC) name = some (some (.ref f))
  hg : specialIn C.K (.ref f) "__get__" = some (some (.builtin "function.__get__"))
  ht : takesIn C.K (.ref f) = some false
  hc : copiedNames.contains name = false
  ty : typeIn C.K (.ref f) = some (.type "function")
  fn : fnIn C.K f = true
  nm : (name == ("_initial_size" : Str)) = false
set_option tactic.hygienic false in
theorem findObj_fn {K : Frag} {Cl : Addr} {name : Str} {a g : Value} {od : Obj} (hh : hasDictIn K Cl = true) (ha : findIn K (.ref Cl) name = some (some a)) (hg : specialIn K a "__get__" = some (some g)) (ht : takesIn K a = some false) (hc : copiedNames.contains name = false) (hl : lookIn name od = some none) :
    findObj K Cl (some od) name = some (.bind g a) := by
  (refine x1_2 (any_some hh) fun cd hc' hd => ?_)
  unfold findObj
  have ho : W.ownOf cd (some od) name = some none := by unfold W.ownOf; rw [if_pos hd]; exact hl
  rw [hc', Option.bind_some, ha, Option.bind_some]
  simp only [hg, ht, Option.bind_some, ho, hc, Bool.false_and, Bool.false_eq_true, if_false]
set_option tactic.hygienic false in
theorem den_methStar (H : CfgOk C) (HC : ClsOk C) {name : Str} {f : Addr} {F : List AV → St → Option (AV × St)} {o e : Expr} {fo g : EM} {apos ps : Pos} (B : BindOk C name f) (DF : DenF C d f F) (D0 : DenE C d env vars o fo) (D : DenE C d env vars e g)
    (hb : ∀ nm whole, attributeBase o nm env whole = whole) : DenE C d env vars (.Call (.Attribute o name apos) [.Starred e ps] [] p) (mStarE F fo g) := by
  intro lc σ y σ' hf A Q E s ρ hA R lr kk
  refine oB hf fun r e1 hf => sf hf fun hkd hf => oB hf fun q e2 hf => oB hf fun xs ex hf => sf hf fun hlen hf => ?_
  rw [arm_eval_Call, hb]
  refine wpAny_bind (D0 _ _ _ _ e1 A _ E s ρ hA R lr fun v s₁ ρ₁ R₁ S₁ q₁ => wpAny_bind (wpAny_standAt ?_))
  show wpAny _ _ (methodCall o name apos p env v 1 [(true, eval e env >>= fun v => standAt p >>= fun uu => pure v)] []) _ _ _
  unfold methodCall
  refine wpAny_bind (wpAny_holding ?_)
  show wpAny _ _ (getAttr v name true >>= fun r => pure (r, [])) _ _ _
  refine x2_3 (kind_loc hkd (by decide)) fun l o' el hl ko => x2_1 (kindO_acc ko) fun ini ps' eo => ?_
  have q₁ : VR C ρ₁ s₁.heap (.loc l) v := AV.loc_inv el ▸ q₁
  refine R₁.acc_e (eo ▸ hl) q₁ fun a dd es n n' vs e0 ho hd he hs => ?_
  have gl := entR_get (name := name) he
  have en : (accAttrs ini).lookup name = none := by
    unfold accAttrs
    rw [List.lookup_cons, B.nm]
    rfl
  rw [en] at gl
  refine wpAny_bind (getAttr_listM (R₁.kin H) (accInst ho hd) HC.acGa HC.acGt HC.acMro (findObj_fn HC.acDict B.hf B.hg B.ht B.hc gl) B.ty ?_)
  refine wpAny_pure ?_
  show wpAny _ _ (pure p >>= _) _ _ _
  refine wpAny_bind (wpAny_pure ?_)
  have S₂ : Step C [] ρ₁ ρ₁ s₁.heap (s₁.heap.push (methodObj (.ref f) (.ref a))) := .pushObj _
  refine callWith_star (P := MethP C.K s₁.heap.objs.size f (.ref a)) (fun h X => keeps_M B.fn h X) (star_args (.inr rfl) ?_)
  refine wpAny_bind (D _ _ _ _ e2 A _ E _ ρ₁ hA (R₁.push (methodObj (.ref f) (.ref a)) (n := s₁.toks + 1)) ((lr.go S₁).go S₂) fun v' s₃ ρ₃ R₃ S₃ q₃ => wpAny_bind (wpAny_standAt (wpAny_pure ?_)))
  refine q₃.tup_of ex fun ta tvs tn tho thm ths => ?_
  refine ⟨ta, tvs.toArray, tn, rfl, tho, by rw [List.size_toArray, ths.length, sizeLine_eq]; (first | lia | omega), fun h' kp z => ?_⟩
  have R₄ : Rel C ρ₃ q.2 { s₃ with heap := h' } := R₃.same kp z R₃.gens rfl rfl
  have S₄ : Step C [] ρ₃ ρ₃ s₃.heap h' := .same kp z
  have hq' : h'.get? s₁.heap.objs.size = some (methodObj (.ref f) (.ref a)) := kp _ _ (S₃.keep _ _ (Heap.get?_push_size _ rfl) R₁.fresh (fun z => nomatch z))
  refine ⟨⟨hq', R₄.kin H⟩, ?_⟩
  rw [List.nil_append]
  refine wpAny_call (method_call hq' ?_)
  have T := (S₂.trans S₃).trans S₄
  have qr : VR C ρ₃ h' r.1 (.ref a) := AV.loc_inv el ▸ (VR.loc e0 : VR C ρ₁ s₁.heap (.loc l) (.ref a)).go T
  exact DF _ _ _ _ hf A _ _ ρ₃ (.ref a :: tvs) hA R₄ (.cons qr (ths.go S₄)) fun v'' s₅ ρ₅ R₅ S₅ q₅ => kk v'' s₅ ρ₅ R₅ ((S₁.trans T).trans S₅) q₅
theorem den_unp (He : EnvOk env vars) {i j : Nat} {n m : Str} {e : Expr} {f : EM} {k0 : Nat} {pa pb pt : Pos} (hi : vars[i]? = some n) (hj : vars[j]? = some m) (D : DenE C d env vars e f)
    (hs : swapsWithSole [.Tuple [.Name n pa, .Name m pb] k0 pt] e p.line env = pure false) (hw : swappedStores [.Tuple [.Name n pa, .Name m pb] k0 pt] e env = pure none) :
    DenS C d env vars (.Assign [.Tuple [.Name n pa, .Name m pb] k0 pt] e p) (unpS i j f) := by
  intro lc σ fl lc' σ' hf A Q E s ρ hA R lr kk
  refine oB hf fun y e1 hf => oB hf fun xs ex hf => oB hf fun xy e0 hf => oB hf fun lc₁ e2 hf => oM hf fun lc₂ e3 e4 => ?_
  refine wpAny_Assign_stores (D _ _ _ _ e1 A _ E s ρ hA R lr fun v s₁ ρ₁ R₁ S₁ q₁ => ?_) hs hw
  refine q₁.tup_of ex fun ta tvs tn tho thm ths => ?_
  revert tho
  refine ths.arg2_e e0 fun va vb qa qb tho => ?_
  show wpAny _ _ (assign (.Tuple [.Name n pa, .Name m pb] k0 pt) env (.ref ta)) _ _ _
  exact store_two He hi hj e2 e3 hA.1 R₁ (lr.go S₁) tho qa qb fun s₂ R₂ S₂ l₂ => kfs kk e4 _ s₂ ρ₁ R₂ (S₁.of_nil.trans S₂) l₂ .next
end
end Mine.Internal
end
section
open PySem PySem.W PyProof.Rows PySem.Calls
namespace Mine.Internal
noncomputable def ghostO : AO → Bool
  | .ghost => true
  | .list _ => false
  | .fmt .. => false
  | .acc .. => false
  | .gen .. => false
  | .out _ => false
  | .cell .. => false
  | .ext .. => false
noncomputable def ghAt (σ : St) (g : Nat) : Option Unit := σ[g]?.bind fun o => gd (ghostO o) ()
set_option tactic.hygienic false in
theorem ghAt_inv {σ : St} {g : Nat} {u : Unit} (h : ghAt σ g = some u) : σ[g]? = some .ghost := oB h fun o e h => oG h fun z uu => by
  cases o with
  | ghost => exact e
  | _ => exact nomatch z
noncomputable def pair2 (xs : List AV) (i : Nat) : Option AV := xs[2 * i]?.bind fun x => xs[2 * i + 1]?.map fun y => .tup [x, y]
noncomputable def nxZ (g : Nat) (src : AV) : St → Nat → Option (Option AV) := fun σ i => (ghAt σ g).bind fun _ => (asList σ src).map fun xs => pair2 xs i
noncomputable def put2 (i j : Nat) : Lc → AV → Option Lc := fun lc v => v.tup?.bind fun xs => (arg2 xs).bind fun p => (putL lc i p.1).bind fun lc₁ => putL lc₁ j p.2
section
variable {C : Cfg} {ρ ρ' : Rho} {σ σ' : St} {s : Shared} {A : Around} {E : Value → Shared → Prop} {env : Env} {vars : List Str} {lc : Lc} {d : Nat} {p : Pos}
set_option tactic.hygienic false in
theorem call_iter_list {l : Addr} {items : Array Value} {Q : Value → Shared → Prop} (hl : s.heap.IsList l items)
    (h : Q (.ref s.heap.objs.size) { s with heap := s.heap.push { cls := .type "list_iterator", data := .fields #[.ref l, .int 0 0] } }) : wpAny (model C.prog C.w) A (call (.builtin "iter") [.ref l]) Q E s := by
  refine call_function_entry (by decide +kernel) (by decide +kernel) kdk_entry_iter (kdk_args_iter _) ?_
  unfold Builtin.«iter»
  refine wpAny_bind (m := someArgs "iter" 1 2 _) (wpAny_of_eq (a := [Value.ref l]) (by first | rfl | kernel_rfl!) ?_)
  show wpAny _ _ (pyIter (.ref l) >>= _) _ _ _
  refine wpAny_bind (wpAny_pyIter_list hl ?_)
  exact wpAny_pure ⟨_, rfl, h⟩
set_option tactic.hygienic false in
theorem mul2 {l : Addr} {v : Value} {k : Nat} {u : Tok} {Q : Value → Shared → Prop} (hl : s.heap.get? l = some { cls := .type "list", dict := none, data := .seq #[v] k, slots := #[] })
    (h : Q (.ref s.heap.objs.size) { s with heap := s.heap.push { cls := .type "list", data := .seq #[v, v] } }) : wpAny (model C.prog C.w) A (binaryOp .Mult (.ref l) (.int 2 u)) Q E s :=
  wpAny_binaryOp_repeat_ref (T := "list") (U := "int") (by decide) ⟨_, hl, rfl⟩ (fun s' => typeIs_int s' 2 u) noFill_list_mul PySem.F.fills_int_mul PySem.F.slot_int_rmul repeat_list PySem.F.slot_int_index.lookup
    (call_meets PySem.F.slot_int_rmul (typeIs_int s 2 u) PySem.F.entry_int_rmul (PySem.F.args_int_rmul_2 _ _) (int___rmul___int_list 2 u l #[v] k)
      ⟨hl, rfl, ⟨_, hl, rfl⟩, call_meets PySem.F.slot_list_mul ⟨_, hl, rfl⟩ PySem.F.entry_list_mul (PySem.F.args_list_mul_2 _ _)
        (AutoListH.list___mul___list_int_3 l #[v] k 2 u (by simp [Builtin.List.listFitsIndex]) (by simp) (by simp [Builtin.List.listTooLong, sizeLine]))
        ⟨hl, h⟩⟩)
set_option tactic.hygienic false in
theorem meets_zip1 (J l : Addr) (i : Nat) :
    Meets (Builtin.«zip.__new__» ⟨[.type "zip", .ref J, .ref J], []⟩) (fun uu R s => s.heap.IsListIter J l i ∧
      R (.ok (.ret (.ref (s.heap.objs.size + 2)))) { s with heap := ((s.heap.push { cls := .type "tuple", data := .seq #[.ref J, .ref J] }).push { cls := .type "tuple", data := .seq #[.none, .none] }).push { cls := .type "zip", data := .fields #[.none, .bool false, .bool false, .ref s.heap.objs.size, .ref (s.heap.objs.size + 1)] } }) :=
  .of_wp fun prog w A R s h => by
    obtain ⟨hp, g, d, tk, os⟩ := s; (refine x0_2 (h) fun hl1 h => ?_)
    have hsub := sub_zip
    have hL1 : Heap.IsListIter (Shared.heap ⟨hp, g, d, tk, os⟩) J l i := hl1
    have e1 : (hp.push { cls := .type "tuple", data := .seq #[.ref J, .ref J] }).objs.size = hp.objs.size + 1 := Heap.size_push ..
    have e2 : ((hp.push { cls := .type "tuple", data := .seq #[.ref J, .ref J] }).push { cls := .type "tuple", data := .seq #[.none, .none] }).objs.size = hp.objs.size + 2 := by rw [Heap.size_push, e1]
    wp_walk using wpAny_pyIter_listiter hL1
    refine ⟨_, rfl, ?_⟩
    rw [← e1, ← e2] at h
    exact h
set_option tactic.hygienic false in
theorem call_zip1 {J l : Addr} {i : Nat} {Q : Value → Shared → Prop} (hl : s.heap.IsListIter J l i)
    (h : ∀ h', ZipAt h' (s.heap.objs.size + 2) s.heap.objs.size (s.heap.objs.size + 1) J l i → h'.objs.size = s.heap.objs.size + 3 →
      (∀ c o, s.heap.get? c = some o → h'.get? c = some o) → Q (.ref (s.heap.objs.size + 2)) { s with heap := h' }) :
    wpAny (model C.prog C.w) A (call (.type "zip") [.ref J, .ref J]) Q E s := by
  refine callType_new PySem.F.called_zip (by decide) (PySem.F.typeCall_zip_2 _ _) (PySem.F.newCall_zip_2 _ _) (fun obj => PySem.F.args_object_init_3 obj _ _) PySem.F.entry_zip_new
    (meets_zip1 J l i) ⟨hl, ?_⟩
  have g1 : (s.heap.push { cls := .type "tuple", data := .seq #[.ref J, .ref J] }).get? s.heap.objs.size = some { cls := .type "tuple", data := .seq #[.ref J, .ref J] } := Heap.get?_push_size _ rfl
  have e1 : (s.heap.push { cls := .type "tuple", data := .seq #[.ref J, .ref J] }).objs.size = s.heap.objs.size + 1 := Heap.size_push ..
  have g2 : ((s.heap.push { cls := .type "tuple", data := .seq #[.ref J, .ref J] }).push { cls := .type "tuple", data := .seq #[.none, .none] }).get? (s.heap.objs.size + 1) = some { cls := .type "tuple", data := .seq #[.none, .none] } := e1 ▸ Heap.get?_push_size _ rfl
  have e2 : ((s.heap.push { cls := .type "tuple", data := .seq #[.ref J, .ref J] }).push { cls := .type "tuple", data := .seq #[.none, .none] }).objs.size = s.heap.objs.size + 2 := by rw [Heap.size_push, e1]
  have g3 : (((s.heap.push { cls := .type "tuple", data := .seq #[.ref J, .ref J] }).push { cls := .type "tuple", data := .seq #[.none, .none] }).push { cls := .type "zip", data := .fields #[.none, .bool false, .bool false, .ref s.heap.objs.size, .ref (s.heap.objs.size + 1)] }).get? (s.heap.objs.size + 2) = some { cls := .type "zip", data := .fields #[.none, .bool false, .bool false, .ref s.heap.objs.size, .ref (s.heap.objs.size + 1)] } := e2 ▸ Heap.get?_push_size _ rfl
  have up : ∀ c o, s.heap.get? c = some o → (((s.heap.push { cls := .type "tuple", data := .seq #[.ref J, .ref J] }).push { cls := .type "tuple", data := .seq #[.none, .none] }).push { cls := .type "zip", data := .fields #[.none, .bool false, .bool false, .ref s.heap.objs.size, .ref (s.heap.objs.size + 1)] }).get? c = some o :=
    fun c o e => Heap.get?_push_of_some _ (Heap.get?_push_of_some _ (Heap.get?_push_of_some _ e))
  show _ ∧ _
  exact ⟨⟨_, g3, rfl⟩, h _ ⟨g3, Heap.get?_push_of_some _ (Heap.get?_push_of_some _ g1), ⟨_, _, _, Heap.get?_push_of_some _ g2⟩, hl.at fun o e => up _ o e⟩ (by rw [Heap.size_push, e2]) up⟩
end
end Mine.Internal
end
section
open PySem PySem.W PyProof.Rows PySem.Calls
namespace Mine.Internal
section
variable {C : Cfg} {ρ ρ' : Rho} {σ σ' : St} {s : Shared} {A : Around} {E : Value → Shared → Prop} {env : Env} {vars : List Str} {lc : Lc} {d : Nat} {p : Pos}
set_option tactic.hygienic false in
theorem noSeqIs {Is : List Addr} {h : Heap} (hf : ∀ J ∈ Is, ∃ o, h.get? J = some o ∧ (∀ vs n, o.data ≠ .seq vs n) ∧ o.cls ≠ .type "code") : ∀ a o vs n, a ∈ Is → h.get? a = some o → o.data ≠ .seq vs n := fun a o vs n ha e =>
  x1_3 (hf a ha) fun o' ho' hn uu => Option.some.inj (ho'.symm.trans e) ▸ hn vs n
set_option tactic.hygienic false in
theorem Rel.zip (R : Rel C ρ σ s) {Is : List Addr} {g : Nat} {TO : Addr} {h' : Heap} {n : Nat} (hf : ∀ J ∈ Is, ∃ o, s.heap.get? J = some o ∧ (∀ vs n, o.data ≠ .seq vs n) ∧ o.cls ≠ .type "code") (hm : ∀ J ∈ Is, ¬ Mut C ρ J) (hl : ∀ J ∈ Is, C.s₁.heap.objs.size ≤ J)
    (hg : ρ[g]? = some (TO, TO)) (hσ : σ[g]? = some .ghost) (k : ∀ b o, b ∉ Is → b ≠ TO → s.heap.get? b = some o → h'.get? b = some o) (z : s.heap.objs.size ≤ h'.objs.size) (hT : Own h' TO) : Rel C ρ σ { s with heap := h', toks := n } ∧ Step C Is ρ ρ s.heap h' := by
  have mT : Mut C ρ TO := .inr ⟨_, List.mem_of_getElem? hg, .inl rfl⟩
  have S : Step C Is ρ ρ s.heap h' := ⟨z, fun b o e nm w => k b o w (fun z => nm (z ▸ mT)) e, [], by rw [List.append_nil], fun uu hp => nomatch hp⟩
  have W := noSeqIs hf
  have hTlo := (R.lo _ (List.mem_of_getElem? hg)).1
  have nI : ∀ {l : Nat} {p : Addr × Addr}, ρ[l]? = some p → p.1 ∉ Is ∧ p.2 ∉ Is := fun {l p} e => ⟨fun m => hm _ m (.inr ⟨p, List.mem_of_getElem? e, .inl rfl⟩), fun m => hm _ m (.inr ⟨p, List.mem_of_getElem? e, .inr rfl⟩)⟩
  refine ⟨⟨fun b o e nt => ?_, fun t ht => ?_, R.lo, R.dis, R.len, fun l p o e e' => ?_, R.gens.heap (fun l' p' x e e' hx o ho => ?_), R.drawn, R.os, Nat.le_trans R.size z⟩, S⟩
  · have hb := Heap.lt_size e
    exact k b o (fun m => absurd (hl b m) (Nat.not_le.mpr hb)) (Nat.ne_of_lt (Nat.lt_of_lt_of_le hb hTlo)) (R.old b o e nt)
  · refine x1_2 (R.tab t ht) fun more a b => ?_
    have nT : ¬ C.isTab TO := fun m => R.objNotTab hg hσ (.inl rfl) m
    have hP : t.2.1 ∉ Is := fun m => hm _ m (.inl (List.mem_map.mpr ⟨t, ht, rfl⟩))
    have hPT : t.2.1 ≠ TO := fun m => nT (m ▸ List.mem_map.mpr ⟨t, ht, rfl⟩)
    have hc : t.1 ∉ Is ∧ t.1 ≠ TO := x2_4 b.1 fun o vs ho hcl hd uu => ⟨fun m => x1_3 (hf _ m) fun o2 ho2 uu hcl' => hcl' (Option.some.inj (ho.symm.trans ho2) ▸ hcl),
      fun m => x3_2 (R.st g _ _ hg hσ) fun uu uu uu uu hgo => Data.noConfusion ((Option.some.inj (ho.symm.trans (m ▸ hgo)) ▸ hd.symm))⟩
    exact ⟨more, a.at2 (fun o e => k _ o hc.1 hc.2 e) (fun o e => k _ o hP hPT e), b.at2 (fun o e => k _ o hc.1 hc.2 e) (fun o e => k _ o hP hPT e)⟩
  · by_cases hgl : g = l
    · subst hgl
      have z1 := Option.some.inj (hg.symm.trans e)
      have z2 := Option.some.inj (hσ.symm.trans e')
      exact z1 ▸ z2 ▸ x3_1 hT fun x y m hT => ObjR.ghost hT
    · have dd := dis_of R hg e hgl
      exact (R.st l p o e e').move (fun ob z => k _ _ (nI e).1 dd.1.symm z) (fun ob z => k _ _ (nI e).2 dd.2.1.symm z) (·.step S W) fun uu z => z
  · have hll : g ≠ l' := fun z => by
      rw [← z, hσ] at e'
      exact nomatch (Option.some.inj e' ▸ hx : AO.ghost.isGen = true)
    exact k _ o (nI e).1 (dis_of R hg e hll).1.symm ho
set_option tactic.hygienic false in
theorem two_all {P : Addr → Prop} {a b : Addr} (ha : P a) (hb : P b) : ∀ K ∈ [a, b], P K := fun K h => (List.mem_cons.mp h).elim (fun e => e ▸ ha) fun h => List.mem_singleton.mp h ▸ hb
set_option tactic.hygienic false in
theorem not_two {a b c : Addr} (h : c ∉ [a, b]) : c ≠ a ∧ c ≠ b := ⟨fun e => h (e ▸ List.mem_cons_self), fun e => h (e ▸ List.mem_cons_of_mem _ List.mem_cons_self)⟩
set_option tactic.hygienic false in
theorem two_not {a b c : Addr} (h1 : c ≠ a) (h2 : c ≠ b) : c ∉ [a, b] := fun m => (List.mem_cons.mp m).elim h1 fun m => h2 (List.mem_singleton.mp m)
set_option tactic.hygienic false in
theorem LcR.iters {Is : List Addr} {L : Addr} {h h' : Heap} (q : LcR C ρ h L vars lc) (S : Step C Is ρ ρ h h') (hne : L ∉ Is) (W : ∀ a o vs n, a ∈ Is → h.get? a = some o → o.data ≠ .seq vs n) : LcR C ρ h' L vars lc := by
  exact ⟨x1_2 q.1 fun m hn hv => ⟨m, hn.at fun o e => S.keep _ _ e q.2.1 hne, fun i x e => x2_3 (hv i x e) fun n v a b c => ⟨n, v, a, b, c.step S W⟩⟩, q.2.1, q.2.2⟩
structure ZInv (C : Cfg) (g : Nat) (src : AV) (z TI TO J l : Addr) (i : Nat) (ρ : Rho) (h : Heap) : Prop where
  zip : IsZip h z TI TO .none
  ti : IsPair h TI (.ref J) (.ref J)
  tm : ¬ Mut C ρ TI
  it : h.IsListIter J l (2 * i)
  src : VR C ρ h src (.ref l)
  gh : ρ[g]? = some (TO, TO)
set_option tactic.hygienic false in
theorem rho_grow {W : List Addr} {h h' : Heap} (S : Step C W ρ ρ' h h') {g : Nat} {q : Addr × Addr} (e : ρ[g]? = some q) : ρ'[g]? = some q := by
  obtain ⟨δ, rfl, _⟩ := S.grow
  rw [List.getElem?_append_left (List.getElem?_eq_some_iff.mp e).1]; exact e
set_option tactic.hygienic false in
theorem zip_kind {h : Heap} {z TI TO : Addr} {f0 : Value} (hz : IsZip h z TI TO f0) : ∃ o, h.get? z = some o ∧ (∀ vs n, o.data ≠ .seq vs n) ∧ o.cls ≠ .type "code" := ⟨_, hz, (fun vs n q => by cases q), by show Value.type "zip" ≠ _; decide⟩
set_option tactic.hygienic false in
theorem ZInv.keeps {g : Nat} {src : AV} {z TI TO J l : Addr} {q : Nat} {h h' : Heap} (hI : ZInv C g src z TI TO J l q ρ h) (kz : ¬ Mut C ρ z) (kJ : ¬ Mut C ρ J) (nz : env.locals ≠ z) (nJ : env.locals ≠ J) (nT : env.locals ≠ TI) (hW : ∀ a o vs n, a ∈ [env.locals] → h.get? a = some o → o.data ≠ .seq vs n) (S : Step C [env.locals] ρ ρ' h h') : ZInv C g src z TI TO J l q ρ' h' := by
  have k : ∀ {b : Addr} {o : Obj}, env.locals ≠ b → ¬ Mut C ρ b → h.get? b = some o → h'.get? b = some o := fun n m e => S.keep _ _ e m fun z => n (List.mem_singleton.mp z).symm
  exact ⟨k nz kz hI.zip, k nT hI.tm hI.ti, Mut.grow S (Heap.lt_size hI.ti) hI.tm, hI.it.at fun o e => k nJ kJ e, hI.src.step S hW, rho_grow S hI.gh⟩
theorem zipOk (He : EnvOk env vars) {i j : Nat} {n m : Str} {k0 : Nat} {pa pb pt : Pos} (hi : vars[i]? = some n) (hj : vars[j]? = some m) {g : Nat} {src : AV} {z TI TO J l : Addr} (D : Apart1 z TI TO J l) (lz : C.s₁.heap.objs.size ≤ z) (lJ : C.s₁.heap.objs.size ≤ J) (nz : env.locals ≠ z) (nJ : env.locals ≠ J) (nT : env.locals ≠ TI) :
    IterOk C d env vars z [z, J] (.Tuple [.Name n pa, .Name m pb] k0 pt) (nxZ g src) (put2 i j) (ZInv C g src z TI TO J l) where
  keep q ρ ρ' h h' hI hm hW S := hI.keeps (hm z List.mem_cons_self) (hm J (List.mem_cons_of_mem _ List.mem_cons_self)) nz nJ nT hW S
  here q ρ h hI := two_all ⟨_, hI.zip⟩ (x1_2 hI.it fun o ho uu => ⟨o, ho⟩)
  next A q lc lc₁ σ ρ s x Q E' hA R lr hI hm hx hst k := by
    refine oB hx fun u hσ hx => oM hx fun xs hxs hx => oB hx fun x1 h1 hx => oM hx fun x2 h2 hx => ?_
    have hσ := ghAt_inv hσ
    have hst : ((putL lc i x1).bind fun lc₁ => putL lc₁ j x2) = some lc₁ := (congrArg (put2 i j lc) hx).trans hst
    refine oB hst fun lc₂ e2 hst => x3_3 (asList_rel R hI.src hxs) fun a' vs nn e ho hs => ?_
    rw [← Value.ref.inj e] at ho
    refine x1_2 (hs.get h1) fun v1 hv1 q1 => x1_2 (hs.get h2) fun v2 hv2 q2 => ?_
    have ow : Own s.heap TO := x3_2 (R.st g _ _ hI.gh hσ) fun a b c uu ho => ⟨a, b, c, ho⟩
    have hIs := two_all (P := fun K => ∃ o, s.heap.get? K = some o ∧ (∀ vs n, o.data ≠ .seq vs n) ∧ o.cls ≠ .type "code") (zip_kind hI.zip) (listIter_kind hI.it)
    refine pyNext1_item D ⟨hI.zip, hI.ti, ow, hI.it⟩ (IsL.isList ho) (x := v1) (y := v2) (by rw [List.getElem?_toArray]; exact hv1) (by rw [List.getElem?_toArray]; exact hv2) fun h₁ z₁ o₁ i₁ p₁ sz₁ k₁ => ?_
    refine ⟨_, rfl, wpAny_letOwnedTupleGo_zip z₁ fun h₂ z₂ s₂ => ?_⟩
    have k₂ : ∀ b o, b ∉ [z, J] → b ≠ TO → s.heap.get? b = some o → h₂.get? b = some o := fun b o hb hT e => s₂.extBut _ _ (not_two hb).1 (k₁ b o (not_two hb).1 hT (not_two hb).2 e)
    refine x0_2 (R.zip (n := s.toks) hIs hm (two_all lz lJ) hI.gh hσ k₂ (by rw [s₂.1, sz₁]; exact Nat.le_succ _) (o₁.at fun o e => s₂.extBut _ _ D.TOz e)) fun R₂ S₂ => ?_
    have W := noSeqIs hIs
    have l₂ := lr.iters S₂ (two_not nz nJ) W
    refine store_two He hi hj e2 hst hA.1 R₂ l₂ (nn := 0) (s₂.extBut _ _ (Nat.ne_of_gt (Heap.lt_size hI.zip)) p₁) (q1.step S₂ W) (q2.step S₂ W) fun s₃ R₃ S₃ l₃ => ?_
    have I₂ : ZInv C g src z TI TO J l (q + 1) ρ h₂ := ⟨z₂, k₂ _ _ (two_not D.TIz D.TIJ) D.TITO hI.ti, hI.tm, i₁.at fun o e => s₂.extBut _ _ D.Jz e, hI.src.step S₂ W, hI.gh⟩
    exact k s₃ R₃ ((S₂.weaken fun a ha => List.mem_cons_of_mem _ ha).trans (S₃.weaken fun a ha => List.mem_singleton.mp ha ▸ List.mem_cons_self)) l₃ (I₂.keeps (hm z List.mem_cons_self) (hm J (List.mem_cons_of_mem _ List.mem_cons_self)) nz nJ nT (ns_noSeq l₂.1.choose_spec.1) S₃)
  stop A q lc σ ρ s Q E' hA R lr hI hm hx k := by
    refine oB hx fun u hσ hx => oM hx fun xs hxs hx => x3_3 (asList_rel R hI.src hxs) fun a' vs nn e ho hs => ?_
    have hσ := ghAt_inv hσ
    rw [← Value.ref.inj e] at ho
    have ow : Own s.heap TO := x3_2 (R.st g _ _ hI.gh hσ) fun a b c uu ho => ⟨a, b, c, ho⟩
    have hIs := two_all (P := fun K => ∃ o, s.heap.get? K = some o ∧ (∀ vs n, o.data ≠ .seq vs n) ∧ o.cls ≠ .type "code") (zip_kind hI.zip) (listIter_kind hI.it)
    have hend : vs.toArray[2 * q]? = none ∨ vs.toArray[2 * q + 1]? = none := by
      rcases Nat.lt_or_ge (2 * q + 1) xs.length with hlt | hge
      · unfold pair2 at hx
        rw [List.getElem?_eq_getElem hlt, List.getElem?_eq_getElem (Nat.lt_of_succ_lt hlt)] at hx
        exact nomatch hx
      · exact .inr (by rw [List.getElem?_toArray, List.getElem?_eq_none_iff, hs.length]; exact hge)
    refine with_size (pyNext1_end hA.1 D ⟨hI.zip, hI.ti, ow, hI.it⟩ (IsL.isList ho) hend fun h₁ o₁ k₁ sz => ?_)
    exact x0_2 (R.zip (n := s.toks) hIs hm (two_all lz lJ) hI.gh hσ (fun b o hb hT e => k₁ b o (not_two hb).1 hT (not_two hb).2 e) sz o₁) fun R₂ S₂ => ⟨rfl, k _ R₂ (S₂.weaken fun a ha => List.mem_cons_of_mem _ ha) (lr.iters S₂ (two_not nz nJ) (noSeqIs hIs))⟩
end
end Mine.Internal
end
section
open PySem PySem.W PyProof.Rows PySem.Calls
namespace Mine.Internal
noncomputable def zipS (i j : Nat) (f : EM) (B O : SM) : SM := fun lc σ => (f lc σ).bind fun p => (asList p.2 p.1).bind fun _ => loopS (nxZ p.2.length p.1) (put2 i j) B O 1000000 0 lc (p.2 ++ [.ghost])
section
variable {C : Cfg} {ρ ρ' : Rho} {σ σ' : St} {s : Shared} {A : Around} {E : Value → Shared → Prop} {env : Env} {vars : List Str} {lc : Lc} {d : Nat} {p : Pos}
set_option tactic.hygienic false in
theorem nne {a b : Nat} (h : a < b ∨ b < a) : a ≠ b := by (first | lia | omega)
set_option tactic.hygienic false in
theorem apart_of {N J l : Nat} (h1 : J < N) (h2 : l < J) : Apart1 (N + 2) N (N + 1) J l := ⟨nne (.inl (by (first | lia | omega))), nne (.inl (by (first | lia | omega))), nne (.inl (by (first | lia | omega))), nne (.inl (by (first | lia | omega))), nne (.inr h1), nne (.inr (by (first | lia | omega))), nne (.inl (by (first | lia | omega))), nne (.inl (by (first | lia | omega))), nne (.inl h2)⟩
set_option tactic.hygienic false in
theorem Rel.freshGe (R : Rel C ρ σ s) {a : Addr} (h : s.heap.objs.size ≤ a) : ¬ Mut C ρ a := by
  rintro (t | ⟨p, hp, e⟩)
  · (refine x1_2 (List.mem_map.mp t) fun x hx e => ?_)
    (refine x1_2 (R.tab x hx) fun m hc ht => ?_)
    have := hc.lt.2
    rw [e] at this
    exact absurd this (Nat.not_lt.mpr h)
  · have := R.rhoLt hp
    rcases e with e | e
    · rw [e] at this; exact absurd this.1 (Nat.not_lt.mpr h)
    · rw [e] at this; exact absurd this.2 (Nat.not_lt.mpr h)
set_option tactic.hygienic false in
theorem fresh_app (R : Rel C ρ σ s) {a T : Addr} (h : s.heap.objs.size ≤ a) (hT : a ≠ T) : ¬ Mut C (ρ ++ [(T, T)]) a := by
  rintro (t | ⟨p, hp, e⟩)
  · exact R.freshGe h (.inl t)
  · rcases List.mem_append.mp hp with hp | hp
    · exact R.freshGe h (.inr ⟨p, hp, e⟩)
    · cases List.mem_singleton.mp hp
      rcases e with e | e <;> exact hT e.symm
set_option tactic.hygienic false in
theorem den_zip (H : CfgOk C) (He : EnvOk env vars) {i j : Nat} {n m : Str} {k0 k1 : Nat} {pa pb pt p0 p1 q0 q2 q3 q4 q5 q6 : Pos} {e : Expr} {body orelse : List Stmt} {f : EM} {B O : SM} (hi : vars[i]? = some n) (hj : vars[j]? = some m)
    (hz : GlobVal C "zip" (.type "zip")) (hzk : env.kindOf "zip" = some .globalImplicit) (hit : GlobVal C "iter" (.builtin "iter")) (hik : env.kindOf "iter" = some .globalImplicit)
    (ns : ∀ rest, starEach (e :: rest) env = (false, eval e env) :: starEach rest env)
    (D : DenE C d env vars e f) (DB : DenB C d env vars body B) (DO : DenB C d env vars orelse O) :
    DenS C d env vars (.For (.Tuple [.Name n pa, .Name m pb] k0 pt) (.Call (.Name "zip" p0) [.Starred (.BinOp (.List [.Call (.Name "iter" q0) [e] [] q2] q3) .Mult (.Constant (.int 2) k1 q4) q5) q6] [] p1) body orelse p) (zipS i j f B O) := by
  intro lc σ fl lc' σ' hf A Q E s ρ hA R lr kk
  refine oB hf fun sy e1 hf => oB hf fun xs hxs hf => ?_
  rcases sy with ⟨src, σ₁⟩
  refine wpAny_For ?_
  show wpAny _ _ (do callWith p1 (← eval (.Name "zip" p0) env) [] [(true, eval (.BinOp (.List [.Call (.Name "iter" q0) [e] [] q2] q3) .Mult (.Constant (.int 2) k1 q4) q5) env >>= fun v => standAt p1 >>= fun uu => pure v)] []) _ _ _
  refine wpAny_bind (global_rel H He hz hzk (by decide) R ?_)
  refine callWith_star (P := fun h => C.K.In h) keep_type (star_args (.inl rfl) ?_)
  refine wpAny_bind (wpAny_BinOp ?_)
  refine wpAny_List (wpAny_items_cons ?_ rfl)
  show wpAny _ _ (do callWith q2 (← eval (.Name "iter" q0) env) [] (backTo q2 (starEach [e] env)) (backToKw q2 (keywordEach [] env))) _ _ _
  refine wpAny_bind (global_rel H He hit hik (by decide) R ?_)
  have D1 : DenEs C d env vars [e] [f] := .cons D .nil ns
  have ev1 : evs [f] lc σ = some ([src], σ₁) := by simp [evs, e1]
  refine callWith_rel H D1 ev1 keep_builtin hA R lr fun vs s₁ ρ₁ R₁ S₁ q₁ => ?_
  refine q₁.one_e fun vl qs => ?_
  · refine x3_3 (asList_rel R₁ qs hxs) fun l vs nl ev ho hv => ?_
    rw [ev] at qs ⊢
    refine call_iter_list (IsL.isList ho) ?_
    refine wpAny_items_nil ⟨by simp [sizeLine_eq], ?_⟩
    have hit₀ : (s₁.heap.push { cls := .type "list_iterator", data := .fields #[.ref l, .int 0 0] }).IsListIter s₁.heap.objs.size l 0 := ⟨_, Heap.get?_push_size _ rfl, rfl, rfl⟩
    refine wpAny_Constant_int (mul2 (Heap.get?_push_size _ rfl) ?_)
    refine wpAny_bind (wpAny_standAt (wpAny_pure ?_))
    refine ⟨_, _, _, rfl, Heap.get?_push_size _ rfl, by simp [sizeLine_eq], fun h' kp z => ?_⟩
    have kp1 : ∀ b o, (s₁.heap.push { cls := .type "list_iterator", data := .fields #[.ref l, .int 0 0] }).get? b = some o → h'.get? b = some o := fun b o e => kp _ _ (Heap.get?_push_of_some _ (Heap.get?_push_of_some _ e))
    have kp0 : ∀ b o, s₁.heap.get? b = some o → h'.get? b = some o := fun b o e => kp1 _ _ (Heap.get?_push_of_some _ e)
    have hit : h'.IsListIter s₁.heap.objs.size l 0 := hit₀.at fun o e => kp1 _ _ e
    have hJ : s₁.heap.objs.size < h'.objs.size := by (refine x1_2 (hit) fun o e uu => ?_; clear hit); exact Heap.lt_size e
    clear z
    refine ⟨fun a o e => kp0 _ _ (R₁.kin H a o e), ?_⟩
    show wpAny _ _ (call (.type "zip") [.ref s₁.heap.objs.size, .ref s₁.heap.objs.size]) _ _ _
    refine call_zip1 hit fun h₃ Z sz₃ up₃ => ?_
    replace sz₃ : h₃.objs.size = h'.objs.size + 3 := sz₃
    replace Z : ZipAt h₃ (h'.objs.size + 2) h'.objs.size (h'.objs.size + 1) s₁.heap.objs.size l 0 := Z
    refine wpAny_pyIter_zip Z.zip ?_
    have up : ∀ b o, s₁.heap.get? b = some o → h₃.get? b = some o := fun b o e => up₃ _ _ (kp0 _ _ e)
    have l₁ := lr.go S₁
    have hL : @LT.lt Nat _ env.locals s₁.heap.objs.size := l₁.1.choose_spec.1.lt
    have hl : @LT.lt Nat _ l s₁.heap.objs.size := Heap.lt_size ho
    have sz : s₁.heap.objs.size ≤ h₃.objs.size := by (first | lia | omega)
    obtain ⟨R₃, S₃⟩ := R₁.alloc (s' := { s₁ with heap := h₃, toks := s₁.toks + 1 }) up sz R₁.gens rfl rfl (p := (h'.objs.size + 1, h'.objs.size + 1)) (o := .ghost) (by dsimp only; (first | lia | omega)) (by dsimp only; (first | lia | omega)) (by (refine x3_1 (Z.own) fun x y n e => ?_); exact .ghost e) rfl
    have AP : Apart1 (h'.objs.size + 2) h'.objs.size (h'.objs.size + 1) s₁.heap.objs.size l := apart_of hJ hl
    have hg : (ρ₁ ++ [(h'.objs.size + 1, h'.objs.size + 1)])[σ₁.length]? = some (h'.objs.size + 1, h'.objs.size + 1) := by
      rw [← R₁.len, List.getElem?_append_right (Nat.le_refl _), Nat.sub_self]; rfl
    have hm : ∀ K ∈ [h'.objs.size + 2, s₁.heap.objs.size], ¬ Mut C (ρ₁ ++ [(h'.objs.size + 1, h'.objs.size + 1)]) K := two_all (fresh_app R₁ (by (first | lia | omega)) (nne (by (first | lia | omega)))) (fresh_app R₁ (by (first | lia | omega)) (nne (by (first | lia | omega))))
    have lo := R₁.size
    have hI : ZInv C σ₁.length src (h'.objs.size + 2) h'.objs.size (h'.objs.size + 1) s₁.heap.objs.size l 0 (ρ₁ ++ [(h'.objs.size + 1, h'.objs.size + 1)]) h₃ :=
      ⟨Z.zip, Z.ti, fresh_app R₁ (by (first | lia | omega)) (nne (by (first | lia | omega))), Z.it, qs.go S₃, hg⟩
    refine loop_rel (zipOk He hi hj AP (by (first | lia | omega)) (by (first | lia | omega)) (nne (by (first | lia | omega))) (nne (by (first | lia | omega))) (nne (by (first | lia | omega)))) DB DO hA hf R₃ (l₁.go S₃) hI hm fun w s' ρ' R' S' l' q' => ?_
    refine kk w s' ρ' R' (S₁.of_nil.trans ?_) l' q'
    exact (S₃.of_nil.trans S').dropI (two_all (by (first | lia | omega)) (Nat.le_refl _))
end
end Mine.Internal
end
section
open PySem PySem.W PyProof.Rows PySem.Calls
namespace Mine.Internal
open Builtin.Re in
noncomputable def driveP : Nat → Sre.M → Option Sre.M
  | 0, _ => none
  | n + 1, m => let m' := m.runFor 4
    if m'.outcome.isSome then some m' else driveP n m'
noncomputable def outP (m : Sre.M) : Option (Option Sre.M) := match m.outcome with
  | some .matched => some (some m)
  | some .failed => some none
  | _ => none
noncomputable def runP (m : Sre.M) : Option (Option Sre.M) := (driveP 100000 m).bind outP
noncomputable def groupP (text : Array Nat) (m : Sre.M) : Option Str :=
  if ((0 : Nat) : Int) ≥ m.lastmark then none else
  match m.marks.getD 0 none, m.marks.getD 1 none with
  | some b, some e => if e < b then none else some ⟨text.extract b e⟩
  | _, _ => none
noncomputable def splitP (code text : Array Nat) : Nat → Nat → Bool → Option (List Str)
  | 0, _, _ => none
  | k + 1, start, must => match runP (Sre.forSearch code text 1 start text.size must) with
    | some none => some [⟨text.extract start text.size⟩]
    | some (some m) => match groupP text m with
      | some g => (splitP code text k m.handed (m.handed == m.start)).map fun r => ⟨text.extract start m.start⟩ :: g :: r
      | none => none
    | none => none
noncomputable def wsCode : Array Nat := #[14, 4, 0, 1, 4294967295, 17, 0, 24, 11, 1, 4294967295, 13, 6, 16, 32, 16, 9, 0, 1, 17, 1, 1]
noncomputable def wsSplit (x : Str) : Option (List Str) := splitP wsCode x.cps (2 * x.cps.size + 3) 0 false
section
variable {C : Cfg} {ρ ρ' : Rho} {σ σ' : St} {s : Shared} {A : Around} {E : Value → Shared → Prop} {env : Env} {vars : List Str} {lc : Lc} {d : Nat} {p : Pos}
theorem drive_rel {n : Nat} : ∀ {m m' : Sre.M} {Q : Sre.M → Shared → Prop}, driveP n m = some m' → ∀ {N : Nat}, n ≤ N → Q m' s → wpAny (model C.prog C.w) A (Builtin.Re.reDrive N m) Q E s := by
  induction n with
  | zero => intro m m' Q h; cases h
  | succ n ih =>
    intro m m' Q h N hN q
    obtain ⟨N', rfl⟩ : ∃ N', N = N' + 1 := ⟨N - 1, by (first | lia | omega)⟩
    unfold driveP at h
    unfold Builtin.Re.reDrive
    dsimp only at h ⊢
    show wpAny _ _ (if (Sre.M.runFor 4 m).outcome.isSome = true then _ else _) _ _ _
    split at h
    · rename_i ho
      (refine c1 h fun hh0 => ?_; clear h; subst hh0)
      rw [if_pos ho]
      exact wpAny_pure q
    · rename_i ho
      rw [if_neg ho]
      exact wpAny_bind (wpAny_rule (ih h (by (first | lia | omega)) q))
set_option tactic.hygienic false in
theorem rules_rel {m' : Sre.M} {β : Type} {g : PUnit → Sem β} {Q : β → Shared → Prop} (q : wpAny (model C.prog C.w) A (g ⟨⟩) Q E s) : wpAny (model C.prog C.w) A (forIn (List.range Sre.names.size) PUnit.unit (fun i uu =>
        if m'.seen.has i = true then do
          rule (Sre.names.getD i "")
          pure (ForInStep.yield PUnit.unit)
        else pure (ForInStep.yield PUnit.unit)) >>= g) Q E s := by
  refine wpAny_bind ?_
  generalize List.range Sre.names.size = l
  induction l with
  | nil => rw [List.forIn_nil]; exact wpAny_pure q
  | cons a l ih =>
    rw [List.forIn_cons]
    refine wpAny_bind ?_
    split
    · exact wpAny_bind (wpAny_rule (wpAny_pure ih))
    · exact wpAny_pure ih
theorem run_rel {m : Sre.M} {r : Option Sre.M} {Q : Option Sre.M → Shared → Prop} (h : runP m = some r) (q : Q r s) : wpAny (model C.prog C.w) A (Builtin.Re.reRunToEnd m) Q E s := by
  refine oB h fun m' e h => ?_
  unfold Builtin.Re.reRunToEnd
  refine wpAny_bind (drive_rel e (by decide) (rules_rel ?_))
  unfold outP at h
  split at h
  · rename_i e2
    rw [e2]
    exact wpAny_pure (Option.some.inj h ▸ q)
  · rename_i e2
    rw [e2]
    exact wpAny_pure (Option.some.inj h ▸ q)
  · exact ns h
set_option tactic.hygienic false in
theorem forIn_turns {β : Type} {f : Nat → β → Sem (ForInStep β)} {J : Nat → β → Shared → Prop} (step : ∀ k a b s, J (k + 1) b s → wpAny (model C.prog C.w) A (f a b) (fun r s' => ∃ b', r = .yield b' ∧ J k b' s') E s) :
    ∀ (l : List Nat) (b : β) (s : Shared) (Q : β → Shared → Prop), J l.length b s → (∀ b s, J 0 b s → Q b s) → wpAny (model C.prog C.w) A (forIn l b f) Q E s
  | [], b, s, Q, h, k => by rw [List.forIn_nil]; exact wpAny_pure (k b s h)
  | a :: l, b, s, Q, h, k => by
    rw [List.forIn_cons]
    refine wpAny_bind (wpAny_mono (step _ a b s h) (fun r s' hr => ?_) fun uu uu z => z)
    (refine x1_2 (hr) fun b' rr1 h' => ?_; clear hr; subst rr1)
    exact forIn_turns step l b' s' Q h' k
set_option tactic.hygienic false in
theorem strOk_cut {x : Str} {b e : Nat} (h : PyData.strOk x = true) : PyData.strOk ⟨x.cps.extract b e⟩ = true := by
  rw [strOk_iff] at *
  intro c hc
  apply h
  rw [Array.toList_extract] at hc
  exact List.mem_of_mem_drop (List.mem_of_mem_take hc)
structure ReOk (C : Cfg) (r rc : Addr) : Prop where
  pat : ∃ dd sl f0 f1 f3 f4, C.K.lookup r = some ⟨.type "re.Pattern", dd, .fields #[f0, f1, .int 1 0, f3, f4, .ref rc, .int 0 0], sl⟩
  code : ∃ dd sl items n, C.K.lookup rc = some ⟨.type "tuple", dd, .seq items n, sl⟩ ∧ (items.map Builtin.Re.reRawOf).map (·.toNat) = wsCode
theorem split_body {r rc : Addr} {x : Str} {t : Tok} {ys : List Str} {Q : Value → Shared → Prop} (X : C.K.In s.heap) (O : ReOk C r rc) (hx : wsSplit x = some ys) (ok : PyData.strOk x = true) (hl : x.length ≤ 1000000) (hy : ys.length ≤ 1000000)
    (k : ∀ vs tk, VRs C ρ s.heap (ys.map AV.str) vs → Q (.ref s.heap.objs.size) { s with heap := s.heap.push (lstObj vs 0), toks := tk }) :
    wpAny (model C.prog C.w) A (Builtin.«re.Pattern.split» ⟨[.ref r, .str x t], []⟩) (fun fin s' => ∃ v, fin = .done (.ret v) ∧ Q v s') E s := by
  (refine x6_1 (O.pat) fun dd sl f0 f1 f3 f4 hp => ?_)
  (refine x4_2 (O.code) fun dd' sl' items nn hc hcode => ?_)
  have cut : ∀ b e, (Str.mk (x.cps.extract b e)).length ≤ sizeLine := by
    intro b e
    show (x.cps.extract b e).size ≤ _
    have : x.cps.size ≤ 1000000 := hl
    rw [Array.size_extract, sizeLine_eq]; (first | lia | omega)
  unfold Builtin.«re.Pattern.split»
  dsimp only
  refine wpAny_bind (m := Builtin.Re.reNamed _ _ _ _ _ _) (wpAny_of_eq (a := [some (Value.str x t), none]) (by first | rfl | kernel_rfl!) ?_)
  dsimp only
  refine wpAny_bind (wpAny_pure ?_)
  refine wpAny_bind ?_
  unfold Builtin.Re.reWholeTarget
  refine wpAny_bind (wpAny_fieldsOf (X _ _ hp) rfl ?_)
  refine wpAny_bind (m := Builtin.Re.reTextOf _) (wpAny_of_eq (a := (x.cps, 0)) rfl ?_)
  show wpAny _ _ (do
    let __do_lift ← Builtin.Re.reRawItems (.ref rc)
    pure _) _ _ _
  refine wpAny_bind ?_
  unfold Builtin.Re.reRawItems
  refine wpAny_bind (wpAny_seqItems (X _ _ hc) rfl (wpAny_pure (wpAny_pure ?_)))
  dsimp only
  rw [show ((some items).getD #[]) = items from rfl, hcode]
  refine wpAny_bind (forIn_turns (J := fun k b u => ∃ tk pre, u = { s with toks := tk } ∧ VRs C ρ s.heap (pre.map AV.str) b.1.toList ∧ b.2.2.1 = b.2.1 ∧
    ((b.2.2.2.2.2 = true ∧ pre ++ [⟨x.cps.extract b.2.1 x.cps.size⟩] = ys) ∨ (b.2.2.2.2.2 = false ∧ ∃ rest, splitP wsCode x.cps k b.2.1 b.2.2.2.1 = some rest ∧ pre ++ rest = ys))) ?_ _ _ _ _ ?_ ?_)
  · rintro k a ⟨out, start, last, must, n, over⟩ u ⟨tk, pre, rfl, hv, hls, h⟩
    dsimp only at hv h hls ⊢
    subst hls
    rcases h with ⟨rfl, e⟩ | ⟨rfl, rest, e, e'⟩
    · exact wpAny_pure ⟨_, rfl, tk, pre, rfl, hv, rfl, .inl ⟨rfl, e⟩⟩
    · show wpAny _ _ (Builtin.Re.reNextFound _ _ _ >>= _) _ _ _
      unfold splitP at e
      split at e
      · rename_i e1
        (refine c1 e fun hh0 => ?_; clear e; subst hh0)
        refine wpAny_bind (run_rel e1 ?_)
        exact wpAny_pure ⟨_, rfl, tk, pre, rfl, hv, rfl, .inl ⟨rfl, e'⟩⟩
      · rename_i m e1
        split at e
        · rename_i g e2
          (refine x1_2 (Option.map_eq_some_iff.mp e) fun rest' e3 e4 => ?_)
          refine wpAny_bind (run_rel e1 ?_)
          dsimp only
          show wpAny _ _ (mkStr ⟨x.cps.extract last m.start⟩ >>= _) _ _ _
          refine wpAny_bind (wpAny_mkStr ?_ (cut _ _))
          refine wpAny_bind ?_
          rw [show List.range (Builtin.Re.reRawNat (#[f0, f1, Value.int 1 0, f3, f4, Value.ref rc, Value.int 0 0].getD 2 Value.none)) = [0] from rfl, List.forIn_cons]
          unfold groupP at e2
          split at e2
          · exact ns e2
          · rename_i hm
            split at e2
            · rename_i b ee hb he
              split at e2
              · exact ns e2
              · rename_i hbe
                (refine c1 e2 fun hh0 => ?_; clear e2; subst hh0)
                refine wpAny_bind (wpAny_bind ?_)
                unfold Builtin.Re.reMachineGroup
                show wpAny _ _ (if ((0 : Nat) : Int) ≥ m.lastmark then _ else _) _ _ _
                rw [if_neg hm]
                show wpAny _ _ (match m.marks.getD 0 none, m.marks.getD 1 none with
                  | some b, some e => if e < b then Builtin.Re.reWrongSpan else Builtin.Re.reSlice x.cps 0 b e
                  | _, _ => pure Value.none) _ _ _
                rw [hb, he]
                dsimp only
                rw [if_neg hbe]
                show wpAny _ _ (mkStr ⟨x.cps.extract b ee⟩) _ _ _
                refine wpAny_mkStr (wpAny_pure ?_) (cut _ _)
                dsimp only
                rw [List.forIn_nil]
                refine wpAny_pure (wpAny_pure ⟨_, rfl, tk + 1 + 1, pre ++ [⟨x.cps.extract last m.start⟩, ⟨x.cps.extract b ee⟩], rfl, ?_, rfl, .inr ⟨rfl, rest', e3, ?_⟩⟩)
                · dsimp only
                  simp only [List.map_append, Array.toList_push, List.append_assoc]
                  exact hv.append (.cons (.str _ _ (strOk_cut ok)) (.cons (.str _ _ (strOk_cut ok)) .nil))
                · rw [← e', ← e4]; simp
            · exact ns e2
        · exact ns e
      · exact ns e
  · refine ⟨s.toks, [], rfl, .nil, rfl, .inr ⟨rfl, ys, ?_, rfl⟩⟩
    rw [List.length_range]
    exact hx
  · rintro ⟨out, start, last, must, n, over⟩ u ⟨tk, pre, rfl, hv, hls, h⟩
    dsimp only at hv h hls ⊢
    subst hls
    rcases h with ⟨rfl, e⟩ | ⟨rfl, rest, e, e'⟩
    · show wpAny _ _ (mkStr ⟨x.cps.extract last x.cps.size⟩ >>= _) _ _ _
      refine wpAny_bind (wpAny_mkStr ?_ (cut _ _))
      have hvs : VRs C ρ s.heap (ys.map AV.str) (out.push (.str ⟨x.cps.extract last x.cps.size⟩ tk)).toList := by
        rw [← e, Array.toList_push, List.map_append]
        exact hv.append (.cons (.str _ _ (strOk_cut ok)) .nil)
      refine wpAny_bind (wpAny_newList ?_ (by rw [hvs.length, List.length_map, sizeLine_eq]; (first | lia | omega)))
      exact wpAny_pure ⟨_, rfl, k _ _ hvs⟩
    · unfold splitP at e; cases e
end
end Mine.Internal
end
section
open PySem PySem.W PyProof.Rows PySem.Calls
namespace Mine.Internal
noncomputable def strsOf (xs : List AV) : Option (List Str) := optAll AV.str? xs
noncomputable def intsOf (xs : List AV) : Option (List Int) := optAll AV.int? xs
noncomputable def joinF : List AV → St → Option (AV × St) := fun xs σ => (arg2 xs).bind fun p => p.1.str?.bind fun sep => (asList σ p.2).bind fun ys => (strsOf ys).bind fun zs => gd (decide ((zs.map (·.length)).sum + zs.length * sep.length ≤ 16777216)) (.str (Txt.join sep zs), σ)
noncomputable def isspaceF : List AV → St → Option (AV × St) := fun xs σ => (arg1 xs).bind fun x => x.str?.map fun y => (.bool (Txt.isspace y), σ)
noncomputable def sumF : List AV → St → Option (AV × St) := fun xs σ => (arg1 xs).bind fun x => (asList σ x).bind fun ys => (intsOf ys).map fun zs => (.int zs.sum, σ)
noncomputable def popAtF : List AV → St → Option (AV × St) := fun xs σ => (arg2 xs).bind fun p => p.1.loc?.bind fun l => p.2.int?.bind fun i => (lstAt σ l).bind fun ys =>
  if (smallInt i && decide (ys.length ≤ sizeLine)) = true then (seqIndex? i ys.length).bind fun k => ys[k]?.map fun y => (y, σ.set l (.list (ys.eraseIdx k))) else none
section
variable {C : Cfg} {ρ ρ' : Rho} {σ σ' : St} {s : Shared} {A : Around} {E : Value → Shared → Prop} {env : Env} {vars : List Str} {lc : Lc} {d : Nat} {p : Pos}
set_option tactic.hygienic false in
theorem strsOf_rel {h : Heap} {xs : List AV} {ys : List Str} {vs : List Value} (q : VRs C ρ h xs vs) (e : strsOf xs = some ys) : StrsAre vs ys ∧ ∀ y ∈ ys, PyData.strOk y = true :=
  q.ind (P := fun xs vs => ∀ ys, strsOf xs = some ys → StrsAre vs ys ∧ ∀ y ∈ ys, PyData.strOk y = true) (fun ys e => Option.some.inj e ▸ ⟨.nil, fun uu h => nomatch h⟩)
    (fun a uu ih ys e => oB e fun y ey e => oM e fun zs e1 e2 => e2 ▸ a.str_of ey fun t ok => ⟨.cons _ _ (ih zs e1).1, fun y hy => (List.mem_cons.mp hy).elim (fun e => e ▸ ok) ((ih zs e1).2 y)⟩) _ e
set_option tactic.hygienic false in
theorem den_join {d : Nat} : DenCall C d (.builtin "str.join") joinF := by
  intro xs σ x σ' hf A Q E s ρ vs hA R q k
  refine oB hf fun p e0 hf => oB hf fun sep es hf => oB hf fun ys hys hf => oB hf fun zs hzs hf => oG hf fun hz e => ?_
  have k := kfe k e
  revert k
  refine q.arg2_e e0 fun v w q1 q2 k => q1.str_of es fun t ok => R.asList_e q2 hys fun a ws n ho hs => x0_2 (strsOf_rel hs hzs) fun i1 i2 => ?_
  exact join_list (IsL.isList ho) (by simpa using i1) (of_decide_eq_true hz) fun t' tk => k _ _ ρ R.toks .refl (.str _ _ (strOk_join ok i2))
set_option tactic.hygienic false in
theorem den_isspace {d : Nat} : DenCall C d (.builtin "str.isspace") isspaceF := by
  intro xs σ x σ' hf A Q E s ρ vs hA R q k
  refine oB hf fun p e0 hf => oM hf fun y ey e => ?_
  have k := kfe k e
  revert k
  exact q.arg1_e e0 fun v q1 k => q1.str_of ey fun t ok => SC.isspace (k _ _ ρ R .refl (.bool _))
set_option tactic.hygienic false in
theorem intsOf_rel {h : Heap} {xs : List AV} {ns : List Int} {vs : List Value} (q : VRs C ρ h xs vs) (e : intsOf xs = some ns) : ∃ ys : List (Int × Tok), vs = ys.map (fun p => Value.int p.1 p.2) ∧ ys.map (·.1) = ns :=
  q.ind (P := fun xs vs => ∀ ns, intsOf xs = some ns → ∃ ys : List (Int × Tok), vs = ys.map (fun p => Value.int p.1 p.2) ∧ ys.map (·.1) = ns) (fun ns e => Option.some.inj e ▸ ⟨[], rfl, rfl⟩)
    (fun a uu ih ns e => oB e fun i ei e => oM e fun ys e1 e2 => x1_2 (ih ys e1) fun zs ev e3 => a.int_of ei fun t => ⟨(i, t) :: zs, congrArg _ ev, e2 ▸ congrArg _ e3⟩) _ e
set_option tactic.hygienic false in
theorem den_sum {d : Nat} : DenCall C d (.builtin "sum") sumF := by
  intro xs σ x σ' hf A Q E s ρ vs hA R q k
  refine oB hf fun p e0 hf => oB hf fun ys hys hf => oM hf fun zs hzs e => ?_
  have k := kfe k e
  revert k
  refine q.arg1_e e0 fun v q1 k => R.asList_e q1 hys fun a ws n ho hs => x1_2 (intsOf_rel hs hzs) fun us ev e2 => ?_
  have hl : s.heap.IsList a (intItems us.toArray) := by
    have := IsL.isList ho
    rw [ev] at this
    simpa [intItems] using this
  refine with_size (sum_intListG hA.1 hl fun h' tk t' kp z => ?_)
  rw [preSum_eq, List.take_of_length_le (by simp)]
  have e3 : (us.toArray.toList.map (·.1)).sum = zs.sum := congrArg List.sum e2
  rw [e3]
  exact k _ _ ρ (R.same kp z R.gens rfl rfl) (.same kp z) (.int _ _)
set_option tactic.hygienic false in
theorem den_popAt {d : Nat} : DenCall C d (.builtin "list.pop") popAtF := by
  intro xs σ x σ' hf A Q E s ρ vs hA R q k
  refine oB hf fun p e0 hf => oB hf fun l el hf => oB hf fun i ei hf => oB hf fun ys e hf => sf hf fun hz hf => oB hf fun kx hk hf => oM hf fun y hy e9 => ?_
  rw [Bool.and_eq_true, decide_eq_true_eq, smallInt_iff] at hz
  have k := kfe k e9
  revert k
  refine q.arg2_e e0 fun v w q1 q2 k => q2.int_of ei fun t => ?_
  have q1 := AV.loc_inv el ▸ q1
  refine R.list_e (lstAt_inv e) q1 fun a vs n e0 ho hs => x1_2 (hs.get hy) fun v hv qv => ?_
  have hlen := hs.length
  have hklt : kx < vs.length := (List.getElem?_eq_some_iff.mp hv).1
  refine call_meets PySem.F.slot_list_pop ⟨_, ho, rfl⟩ PySem.F.entry_list_pop (PySem.F.args_list_pop_2 _ _) (PySem.MeetsSeq.list_pop_at a vs.toArray n i t kx v (by simp [Builtin.List.listFitsIndex]; (first | lia | omega)) (by rw [List.size_toArray, hlen]; exact hk) (by rw [List.getElem?_toArray]; exact hv) (by rw [List.size_toArray, hlen]; exact hz.2)) ⟨ho, ?_⟩
  have hsb := Heap.SameBut.update s.heap a (Obj.mapSeq fun xs => xs.eraseIdxIfInBounds kx)
  have S : Step C [] ρ ρ s.heap (s.heap.update a (Obj.mapSeq fun xs => xs.eraseIdxIfInBounds kx)) := stepMut (.inr ⟨_, List.mem_of_getElem? e0, .inl rfl⟩) hsb
  have gt := mapSeq_at ho (fun xs => xs.eraseIdxIfInBounds kx)
  have er : vs.toArray.eraseIdxIfInBounds kx = (vs.eraseIdx kx).toArray := by
    unfold Array.eraseIdxIfInBounds
    rw [dif_pos (by rw [List.size_toArray]; exact hklt), List.eraseIdx_toArray]
  rw [er] at gt
  have hs' : VRs C ρ s.heap (ys.eraseIdx kx) (vs.eraseIdx kx) := by
    rw [List.eraseIdx_eq_take_drop_succ, List.eraseIdx_eq_take_drop_succ]
    exact (hs.take kx).append (hs.drop (kx + 1))
  exact x0_2 (R.upd (n := s.toks) e0 (.inl rfl) hsb (.list gt (hs'.go S)) rfl) fun R' S' => k _ _ _ R' S' (qv.go S)
set_option tactic.hygienic false in
theorem kindO_list {o : AO} (h : kindO o = 2) : ∃ xs, o = .list xs := by
  cases o with
  | list xs => exact ⟨xs, rfl⟩
  | _ => exact absurd h (by dsimp only [kindO]; decide)
set_option tactic.hygienic false in
theorem getM_list {name : Str} {id : String} (slot : Slot "list" name id) (hty : typeOf (.builtin id) = pure (.type "method_descriptor")) : GetM C 2 name (.builtin id) := by
  intro A Q E s ρ σ x v pl R q hk kk
  have : ∃ xs, asList σ x = some xs := by
    cases x with
    | lst xs => exact ⟨xs, rfl⟩
    | loc l =>
      have hk : (σ[l]?.map kindO).getD 0 = 2 := hk
      cases e : σ[l]? with
      | none => rw [e] at hk; exact absurd hk (by decide)
      | some o =>
        rw [e] at hk
        exact x1_1 (kindO_list hk) fun xs eo => ⟨xs, lstAt_of (eo ▸ e)⟩
    | _ => exact absurd hk (by dsimp only [kind, kindV]; decide)
  revert kk
  exact x1_1 this fun xs hxs => R.asList_e q hxs fun a vs n ho hs kk => getMethod_builtin ⟨_, ho, rfl⟩ PySem.F.plainAttrs_list slot hty (fun b e => ⟨_, Value.ref.inj e ▸ ho, rfl⟩) kk
set_option tactic.hygienic false in
theorem getM_str {name : Str} {id : String} (slot : Slot "str" name id) (hty : typeOf (.builtin id) = pure (.type "method_descriptor")) : GetM C 1 name (.builtin id) := by
  intro A Q E s ρ σ x v pl R q hk kk
  cases q with
  | str y t ok => exact getMethod_builtin (typeIs_str _ _ _) PySem.F.plainAttrs_str slot hty (fun b e => nomatch e) kk
  | @loc l p e =>
    have hk : (σ[l]?.map kindO).getD 0 = 1 := hk
    cases e : σ[l]? with
    | none => rw [e] at hk; exact absurd hk (by decide)
    | some o =>
      rw [e] at hk
      cases o <;> exact absurd (show _ = 1 from hk) (by dsimp only [kindO, Option.map, Option.getD]; decide)
  | _ => exact absurd hk (by dsimp only [kind, kindV]; decide)
end
end Mine.Internal
end
section
open PySem PySem.W PyProof.Rows PySem.Calls
namespace Mine.Internal
set_option tactic.hygienic false in
theorem plainAttrs_re : PlainAttrs "re.Pattern" :=
  ⟨⟨"object.__getattribute__", by rw [typeLookup_type, builtinLookup_eq_fast]; kernel_rfl, by decide +kernel⟩, by rw [typeLookup_type, builtinLookup_eq_fast]; kernel_rfl⟩
set_option tactic.hygienic false in
theorem slot_re_split : Slot "re.Pattern" "split" "re.Pattern.split" :=
  .of (owner := "re.Pattern") (n := "split") (by rw [typeLookup_type, builtinLookup_eq_fast]; kernel_rfl) (by decide +kernel) (by decide +kernel) (by decide +kernel)
    (by first | exact .inl (by decide +kernel) | exact .inr (by decide +kernel)) (by rw [isSubtype_type]; kernel_rfl)
set_option tactic.hygienic false in
theorem type_re_split : typeOf (.builtin "re.Pattern.split") = pure (.type "method_descriptor") := by show builtinType _ = _; rw [builtinType_eq_fast]; kernel_rfl
set_option tactic.hygienic false in
theorem entry_re_split : entryFor table "re.Pattern.split" = some Builtin.«re.Pattern.split» := entryFor_of_tree (by kernel_rfl)
set_option tactic.hygienic false in
theorem args_re_split (a b : Value) : argsOk "re.Pattern.split" ⟨[a, b], []⟩ := by unfold argsOk; kernel_rfl
noncomputable def reSplitE (f : EM) : EM := fun lc σ => (f lc σ).bind fun p => p.1.str?.bind fun x => if x.length ≤ 1000000 then (wsSplit x).bind fun ys => gd (decide (ys.length ≤ 1000000)) (.loc p.2.length, p.2 ++ [.list (ys.map AV.str)]) else none
section
variable {C : Cfg} {ρ ρ' : Rho} {σ σ' : St} {s : Shared} {A : Around} {E : Value → Shared → Prop} {env : Env} {vars : List Str} {lc : Lc} {d : Nat} {p : Pos}
set_option tactic.hygienic false in
theorem den_reSplit (H : CfgOk C) (He : EnvOk env vars) {r rc : Addr} {n : Str} {e : Expr} {f : EM} {p0 ap : Pos} (O : ReOk C r rc) (hd : ∀ o, C.K.lookup r = some o → o.dict = none) (hv : GlobVal C n (.ref r)) (hk : env.kindOf n = some .globalImplicit) (ns : ∀ rest, starEach (e :: rest) env = (false, eval e env) :: starEach rest env)
    (D : DenE C d env vars e f) (hdb : (n == ("__debug__" : Str)) = false) (hp : (ap.endLine == p.line) = true) : DenE C d env vars (.Call (.Attribute (.Name n p0) "split" ap) [e] [] p) (reSplitE f) := by
  intro lc σ y σ' hf A Q E s ρ hA R lr kk
  refine oB hf fun xp e1 hf => oB hf fun x ex hf => sf hf fun hl hf => oB hf fun ys hys hf => oG hf fun hyl e9 => ?_
  have kk := kfe kk e9
  rw [arm_eval_Call, show ∀ nm whole, attributeBase (.Name n p0) nm env whole = whole from fun uu uu => rfl]
  refine wpAny_bind (global_rel H He hv hk hdb R (wpAny_bind (wpAny_standAt ?_)))
  (refine x6_1 (id O.pat) fun dd sl f0 f1 f3 f4 hpat => ?_)
  have hob := R.kin H _ _ hpat
  have hform : methodCallForm 1 (backTo p (starEach [e] env)) (backToKw p (keywordEach [] env)) = true := by
    rw [ns]; rfl
  show wpAny _ _ (methodCall (.Name n p0) "split" ap p env (.ref r) 1 (backTo p (starEach [e] env)) (backToKw p (keywordEach [] env))) _ _ _
  unfold methodCall
  rw [hform]
  refine wpAny_bind (wpAny_holding ?_)
  show wpAny _ _ (getMethod (.ref r) "split" _) _ _ _
  refine getMethod_builtin (T := "re.Pattern") ⟨_, hob, rfl⟩ plainAttrs_re slot_re_split type_re_split (fun b e => by cases e; exact ⟨_, hob, hd _ hpat⟩) ?_
  dsimp only
  have hpos : methodCallPos true (.Name n p0) env ap p = pure p := by
    unfold methodCallPos
    rw [hp]; rfl
  rw [hpos]
  refine wpAny_bind (wpAny_pure ?_)
  have D1 : DenEs C d env vars [e] [f] := .cons D .nil ns
  have ev1 : evs [f] lc σ = some ([xp.1], xp.2) := by unfold evs; rw [e1]; rfl
  refine callWith_rel H D1 ev1 keep_builtin hA R lr fun vs s₁ ρ₁ R₁ S₁ q₁ => ?_
  refine q₁.one_e fun vx qs => ?_
  · refine qs.str_of ex fun t ok => ?_
    ·
      refine wpAny_call_entry slot_re_split ⟨_, R₁.kin H _ _ hpat, rfl⟩ entry_re_split (split_body (ρ := ρ₁) (R₁.kin H) O hys ok hl (of_decide_eq_true hyl) fun vs tk hvs => ?_) (args_re_split _ _)
      have k : ∀ b o, s₁.heap.get? b = some o → (s₁.heap.push (lstObj vs 0)).get? b = some o := fun uu uu e => Heap.get?_push_of_some _ e
      have z : s₁.heap.objs.size ≤ (s₁.heap.push (lstObj vs 0)).objs.size := by rw [Heap.size_push]; (first | lia | omega)
      have S₂ : Step C [] ρ₁ (ρ₁ ++ [(s₁.heap.objs.size, s₁.heap.objs.size)]) s₁.heap (s₁.heap.push (lstObj vs 0)) := ⟨z, fun b o e uu uu => k b o e, _, rfl, fun q hq => by cases List.mem_singleton.mp hq; exact ⟨Nat.le_refl _, Nat.le_refl _⟩⟩
      (refine x0_2 (R₁.alloc (s' := { s₁ with heap := s₁.heap.push (lstObj vs 0), toks := tk }) k z R₁.gens rfl rfl (p := (s₁.heap.objs.size, s₁.heap.objs.size)) (o := .list (ys.map AV.str)) (Nat.le_refl _) (Nat.le_refl _) (.list (Heap.get?_push_size _ rfl) (hvs.go S₂)) rfl) fun R₂ S₂ => ?_)
      refine kk _ _ _ R₂ (S₁.trans S₂) (.loc (p := (s₁.heap.objs.size, s₁.heap.objs.size)) ?_)
      rw [← R₁.len, List.getElem?_append_right (Nat.le_refl _), Nat.sub_self]
      rfl
end
end Mine.Internal
end
section
open PySem PySem.W PyProof.Rows PySem.Calls
namespace Mine.Internal
noncomputable def negE (f : EM) : EM := fun lc σ => (f lc σ).bind fun p => p.1.int?.map fun x => (.int (-x), p.2)
section
variable {C : Cfg} {ρ ρ' : Rho} {σ σ' : St} {s : Shared} {A : Around} {E : Value → Shared → Prop} {env : Env} {vars : List Str} {lc : Lc} {d : Nat} {p : Pos} {fl fs ff : Addr}
set_option tactic.hygienic false in
theorem den_neg {e : Expr} {f : EM} (D : DenE C d env vars e f) : DenE C d env vars (.UnaryOp .USub e p) (negE f) := by
  intro lc σ x σ' hf A Q E s ρ hA R lr kk
  refine oB hf fun y e1 hf => oM hf fun i ei e => ?_
  refine wpAny_UnaryOp (D _ _ _ _ e1 A _ E s ρ hA R lr fun va s₁ ρ₁ R₁ S₁ q₁ => ?_)
  exact q₁.int_of ei fun t => neg_int (kfe kk e _ _ ρ₁ R₁.toks S₁ (.int _ _))
set_option tactic.hygienic false in
theorem den_notA (H : CfgOk C) (HS : SpecOk C fl fs ff) {LF : FM} (DL : DenCall C d (.ref fl) LF) {e : Expr} {f : EM} (D : DenE C (d + 1) env vars e f) : DenE C (d + 1) env vars (.UnaryOp .Not e p) (tE (notT (trA LF f))) := by
  intro lc σ x σ' hf A Q E s ρ hA R lr kk
  refine oM hf fun y hy e => oM hy fun z hz e' => oB hz fun o e1 hz => oB hz fun l el hz => oB hz fun ac hl hz => oM hz fun t e2 e3 => ?_
  have kk := kfe kk (((congrArg (fun p : Bool × St => (AV.bool (!p.1), p.2)) e3).trans (congrArg (fun p : Bool × St => (AV.bool p.1, p.2)) e')).trans e)
  exact wpAny_UnaryOp (D _ _ _ _ e1 A _ E s ρ hA R lr fun va s₁ ρ₁ R₁ S₁ q₁ => not_of (truthyA H HS DL hA R₁ (AV.loc_inv el ▸ q₁) (accAt_inv hl) e2 fun s₂ ρ₂ R₂ S₂ => kk _ s₂ ρ₂ R₂ (S₁.trans S₂) (.bool _)))
end
end Mine.Internal
end
section
open PySem PySem.W PyProof.Rows PySem.Calls
namespace Mine.Internal
noncomputable def fdAt (K : Frag) (a : Addr) : FuncData := match K.lookup a with
  | some ⟨_, _, .func fd, _⟩ => fd
  | _ => default
noncomputable def bodyAt (K : Frag) (a : Addr) : List Stmt := match (fdAt K a).body with
  | .stmts b => b
  | _ => []
noncomputable def isFnAt (K : Frag) (a : Addr) : Bool := match K.lookup a with
  | some ⟨_, _, .func fd, _⟩ => match fd.body with
    | .stmts _ => true
    | _ => false
  | _ => false
theorem isFnAt_of {K : Frag} {a : Addr} (h : isFnAt K a = true) : ∃ o, K.lookup a = some o ∧ o.data = .func (fdAt K a) ∧ (fdAt K a).body = .stmts (bodyAt K a) := by
  unfold isFnAt at h
  split at h
  · rename_i c d fd sl e
    split at h
    · rename_i b hb
      have e1 : fdAt K a = fd := by unfold fdAt; rw [e]
      refine ⟨_, e, by rw [e1], ?_⟩
      unfold bodyAt
      rw [e1, hb]
    · cases h
  · cases h
noncomputable def codeIn (K : Frag) (code : Value) (q : Str) : Bool := match code with
  | .ref c => match K.lookup c with
    | some ⟨_, _, .fields vs, _⟩ => match (vs[1]? : Option Value) with
      | some (.str x _) => x == q
      | _ => false
    | _ => false
  | _ => false
theorem codeIn_of {K : Frag} {code : Value} {q : Str} {h : Heap} (X : K.In h) (e : codeIn K code q = true) : h.CodeRec code q ∧ ∃ c o, code = .ref c ∧ K.lookup c = some o := by
  unfold codeIn at e
  split at e
  · rename_i c
    split at e
    · rename_i vs sl hl
      split at e
      · rename_i x t hx
        cases eq_of_beq e
        exact ⟨⟨c, _, vs, t, rfl, X _ _ hl, rfl, hx⟩, c, _, rfl, hl⟩
      · cases e
    · cases e
  · cases e
noncomputable def scopeIn (scope : Scope) (vars : List Str) (n : Nat) : Bool :=
  !scope.isCoroutine && !scope.isGenerator && (scope.kind == .function) && scope.names.all (fun x => !(x.2 == .cell)) && vars.all (fun x => scope.names.lookup x == some .local) && decide vars.Nodup && decide (n ≤ vars.length)
structure ScopeIs (scope : Scope) (vars : List Str) (n : Nat) : Prop where
  coro : scope.isCoroutine = false
  gen : scope.isGenerator = false
  kind : scope.kind = .function
  cells : ∀ x ∈ scope.names, x.2 ≠ .cell
  loc : ∀ x ∈ vars, scope.names.lookup x = some .local
  nodup : vars.Nodup
  n_le : n ≤ vars.length
set_option tactic.hygienic false in
theorem scopeIn_of {scope : Scope} {vars : List Str} {n : Nat} (h : scopeIn scope vars n = true) : ScopeIs scope vars n := by
  unfold scopeIn at h
  simp only [Bool.and_eq_true, Bool.not_eq_true', decide_eq_true_eq, List.all_eq_true, beq_iff_eq] at h
  obtain ⟨⟨⟨⟨⟨⟨h1, h2⟩, h3⟩, h4⟩, h5⟩, h6⟩, h7⟩ := h
  exact ⟨h1, h2, h3, fun x hx e => by have := h4 x hx; rw [e] at this; simp at this, h5, h6, h7⟩
structure FnIn (C : Cfg) (f : Addr) (vars : List Str) (n : Nat) : Prop where
  fn : isFnAt C.K f = true
  glob : (fdAt C.K f).globals = mainGlobals
  blt : (fdAt C.K f).builtins = builtinsNs
  code : codeIn C.K (fdAt C.K f).code (fdAt C.K f).qualname = true
  scope : scopeIn (fdAt C.K f).scope vars n = true
noncomputable abbrev envAt (C : Cfg) (f L : Addr) : Env := envF (fdAt C.K f) f L
section
variable {C : Cfg} {f : Addr} {vars : List Str} {n : Nat} {ρ : Rho}
set_option tactic.hygienic false in
theorem FnIn.env (H : FnIn C f vars n) (L : Addr) : EnvOk (envAt C f L) vars := by
  have S := scopeIn_of H.scope
  exact ⟨S.kind, fun x hx => S.loc x hx, S.nodup, rfl, rfl⟩
set_option tactic.hygienic false in
theorem FnIn.okD (H : CfgOk C) {m : Nat} {dxs : List AV} {dv : List Value} (F : FnIn C f vars (m + dxs.length)) (dq : ∀ ρ h, VRs C ρ h dxs dv)
    (hb : ∀ s : Shared, C.K.In s.heap → ∀ vs : List Value, vs.length = m → BindsTo s (fdAt C.K f) ⟨vs, []⟩ ((vars.take (m + dxs.length)).zip (vs ++ dv))) : FnD C f vars m dxs dv (bodyAt C.K f) (fdAt C.K f) := by
  refine x1_3 (isFnAt_of F.fn) fun o e hd hbd => x0_2 (codeIn_of H.kin F.code) fun cr z => x2_2 z fun c oc ec hc => ?_
  have S := scopeIn_of F.scope
  exact ⟨⟨o, H.kin _ _ e, hd⟩, hbd, F.glob, F.blt, fun s k vs hv => hb s (fun a o e => k a o (H.kin a o e) (H.knt a o e)) vs hv, dq, H.knt _ _ e, cr, fun c' hc' => Value.ref.inj (ec.symm.trans hc') ▸ H.knt _ _ hc, S.coro, S.gen, S.kind, S.cells, S.loc, S.nodup, S.n_le⟩
set_option tactic.hygienic false in
theorem globOwn {mg : Str → Option Value} (X : C.K.In C.s₁.heap) (G : C.s₁.heap.Ns mainGlobals mg) {x : Str} {v : Value} (e : nsIn C.K mainGlobals x = some (some v)) : GlobVal C x v := ⟨mg, G, .inl (mg_of X G e)⟩
theorem ns_of {h : Heap} {a : Addr} {m : Str → Option Value} {x : Str} {r : Option Value} {K : Frag} (X : K.In h) (G : h.Ns a m) (e : nsIn K a x = some r) : m x = r := by
  (refine x3_4 (G) fun o es ep ho hd uu hf => ?_; clear G)
  unfold nsIn at e
  split at e
  · rename_i c d es' n' sl q
    have := X _ _ q
    rw [ho] at this
    (refine c1 this fun hh0 => ?_; clear this; subst hh0)
    cases hd
    rw [← hf]
    unfold nsFind findBy
    rw [← Array.find?_toList]
    split at e
    · rename_i en h1
      (refine c1 e fun hh0 => ?_; clear e; subst hh0)
      rw [h1]; rfl
    · rename_i h1
      split at e
      · exact ns e
      · (refine c1 e fun hh0 => ?_; clear e; subst hh0)
        rw [h1]; rfl
  · exact ns e
set_option tactic.hygienic false in
theorem globBlt {mg mb : Str → Option Value} (X : C.K.In C.s₁.heap) (G : C.s₁.heap.Ns mainGlobals mg) (B : C.s₁.heap.Ns builtinsNs mb) {x : Str} {v : Value} (e1 : nsIn C.K mainGlobals x = some none) (e2 : nsIn C.K builtinsNs x = some (some v)) : GlobVal C x v :=
  ⟨mg, G, .inr ⟨ns_of X G e1, mb, B, ns_of X B e2⟩⟩
end
end Mine.Internal
end
section
open PySem PySem.W PyProof.Rows PySem.Calls
namespace Mine.Internal
noncomputable def strV : Value → Bool
  | .str .. => true
  | _ => false
noncomputable def intV : Value → Bool
  | .int .. => true
  | _ => false
noncomputable def boolV : Value → Bool
  | .bool _ => true
  | _ => false
noncomputable def fieldsD : Data → Option (Array Value)
  | .fields vs => some vs
  | _ => none
set_option tactic.hygienic false in
theorem fieldsD_of {d : Data} {vs : Array Value} (h : fieldsD d = some vs) : d = .fields vs := by cases d <;> cases h; rfl
set_option tactic.hygienic false in
theorem strV_of {v : Value} (h : strV v = true) : ∃ x t, v = .str x t := by cases v <;> first | exact ⟨_, _, rfl⟩ | cases h
set_option tactic.hygienic false in
theorem intV_of {v : Value} (h : intV v = true) : ∃ x t, v = .int x t := by cases v <;> first | exact ⟨_, _, rfl⟩ | cases h
set_option tactic.hygienic false in
theorem boolV_of {v : Value} (h : boolV v = true) : ∃ x, v = .bool x := by cases v <;> first | exact ⟨_, rfl⟩ | cases h
noncomputable def codeTabIn (K : Frag) (c P : Addr) : Bool := match K.lookup c, K.lookup P with
  | some o, some o' => (match fieldsD o.data with
    | some vs => (o.cls == .type "code") && (o'.cls == .none) && o'.dict.isNone && o'.slots.isEmpty && ((fieldsD o'.data).map (·.size) == some 0) && (vs[11]? == some (.ref P)) && (vs.getD 11 .none == .ref P) && (c != P) && strV (vs.getD 18 .none) && intV (vs.getD 7 .none) && boolV (vs.getD 9 .none) && intV (vs.getD 10 .none)
    | none => false)
  | _, _ => false
theorem codeTabIn_of {K : Frag} {c P : Addr} {h : Heap} (X : K.In h) (e : codeTabIn K c P = true) : h.IsCode c P #[] ∧ h.TableAt c P #[] := by
  unfold codeTabIn at e
  split at e
  · rename_i o o' e1 e2
    split at e
    · rename_i vs hv
      simp only [Bool.and_eq_true, beq_iff_eq, bne_iff_ne] at e
      obtain ⟨⟨⟨⟨⟨⟨⟨⟨⟨⟨⟨h1, h2⟩, h3⟩, h4⟩, h5⟩, h6⟩, h7⟩, h8⟩, h9⟩, h10⟩, h11⟩, h12⟩ := e
      (refine x1_2 (Option.map_eq_some_iff.mp h5) fun ps hps hz => ?_)
      have hp : ps = #[] := Array.eq_empty_of_size_eq_zero hz
      subst hp
      obtain ⟨oc, od, dt, osl⟩ := o
      obtain ⟨oc', od', dt', osl'⟩ := o'
      have hd := fieldsD_of hv
      have hd' := fieldsD_of hps
      dsimp only at h1 h2 h3 h4 hd hd'
      subst h1 h2 hd hd'
      have h3' : od' = none := by simpa using h3
      have h4' : osl' = #[] := by simpa using h4
      subst h3' h4'
      (refine x2_1 (strV_of h9) fun uu uu a1 => ?_)
      (refine x2_1 (intV_of h10) fun uu uu a2 => ?_)
      (refine x1_1 (boolV_of h11) fun uu a3 => ?_)
      (refine x2_1 (intV_of h12) fun uu uu a4 => ?_)
      exact ⟨⟨_, vs, _, _, _, _, _, _, _, _, X _ _ e1, rfl, h7, a1, a2, a3, a4, X _ _ e2, rfl, trivial, h8⟩, ⟨_, vs, X _ _ e1, rfl, rfl, h6⟩, X _ _ e2⟩
    · cases e
  · cases e
set_option tactic.hygienic false in
theorem lookup_filter (q : Addr → Bool) : ∀ (l : Frag) (a : Addr), (l.filter fun p => q p.1).lookup a = if q a then l.lookup a else none
  | [], a => by simp
  | (b, o) :: l, a => by
    have ih := lookup_filter q l a
    rw [List.filter_cons]
    by_cases hb : q b = true
    · simp only [hb, if_true]
      rw [List.lookup_cons, List.lookup_cons, ih]
      by_cases hab : a = b
      · subst hab; simp [hb]
      · rw [beq_false_of_ne hab]
    · simp only [hb]
      rw [List.lookup_cons]
      simp only [Bool.false_eq_true, if_false]
      rw [ih]
      by_cases hab : a = b
      · subst hab; simp [hb]
      · rw [beq_false_of_ne hab]
structure Start (K : Frag) (s₁ : Shared) (mg mb : Str → Option Value) : Prop where
  kx : K.In s₁.heap
  g : s₁.heap.Ns mainGlobals mg
  b : s₁.heap.Ns builtinsNs mb
  lim : s₁.heap.NoLimit
  bm : ∃ bm ob, BMod s₁.heap mainGlobals mg bm ob
  gens : s₁.gens = #[]
noncomputable def noTabs (K : Frag) (ts : List Addr) : Frag := K.filter fun p => !ts.contains p.1
noncomputable def mkCfg (prog : Program) (w : World) (K : Frag) (s₁ : Shared) (VF ACC : Addr) (ts : List (Addr × Addr)) (G : Addr → Nat → GenState → Prop) (X : Nat → Addr × Addr → List Value → Obj → Obj → Prop) : Cfg :=
  { prog := prog, w := w, K := noTabs K (ts.map (·.2)), s₁ := s₁, VF := VF, ACC := ACC, tabs := ts.map (fun t => (t.1, t.2, #[])), G := G, X := X }
section
variable {prog : Program} {w : World} {K : Frag} {s₁ : Shared} {VF ACC : Addr} {ts : List (Addr × Addr)} {G : Addr → Nat → GenState → Prop} {X : Nat → Addr × Addr → List Value → Obj → Obj → Prop} {mg mb : Str → Option Value}
set_option tactic.hygienic false in
theorem noTabs_lookup {ts : List Addr} {a : Addr} {o : Obj} (h : (noTabs K ts).lookup a = some o) : a ∉ ts ∧ K.lookup a = some o := by
  unfold noTabs at h
  rw [lookup_filter (fun a => !ts.contains a)] at h
  (refine sf h ?_; clear h; intro q h)
  simp at q
  exact ⟨q, h⟩
set_option tactic.hygienic false in
theorem isTab_iff {a : Addr} : (mkCfg prog w K s₁ VF ACC ts G X).isTab a ↔ a ∈ ts.map (·.2) := by
  unfold Cfg.isTab mkCfg
  simp
set_option tactic.hygienic false in
theorem start_cfg (S : Start K s₁ mg mb) (h1 : cStatics ∉ ts.map (·.2)) (h2 : mainGlobals ∉ ts.map (·.2)) (h3 : builtinsNs ∉ ts.map (·.2)) : CfgOk (mkCfg prog w K s₁ VF ACC ts G X) where
  kin a o e := S.kx a o (noTabs_lookup e).2
  knt a o e := fun h => (noTabs_lookup e).1 (isTab_iff.mp h)
  lim := S.lim
  stat h := h1 (isTab_iff.mp h)
  glob h := h2 (isTab_iff.mp h)
  blt h := h3 (isTab_iff.mp h)
set_option tactic.hygienic false in
theorem start_gen (S : Start K s₁ mg mb) (ht : ∀ t ∈ ts, codeTabIn K t.1 t.2 = true) (nd : ∀ t ∈ ts, ∀ t' ∈ ts, t.2 = t'.2 → t = t') : GenOk (mkCfg prog w K s₁ VF ACC ts G X) where
  bm := by
    (refine x2_1 (S.bm) fun bm ob B => ?_)
    refine ⟨mg, bm, ob, B, fun h => ?_⟩
    (refine x1_2 (List.mem_map.mp (isTab_iff.mp h)) fun t hm e => ?_)
    have := (codeTabIn_of S.kx (ht t hm)).2.2
    rw [e, B.obj] at this
    have hc := B.cls
    (refine c1 this fun hh0 => ?_; clear this; subst hh0)
    cases hc
  one := by
    intro t h t' h' e
    unfold mkCfg at h h'
    (refine x1_2 (List.mem_map.mp h) fun u hu rr2 => ?_; subst rr2)
    (refine x1_2 (List.mem_map.mp h') fun u' hu' rr2 => ?_; subst rr2)
    have := nd u hu u' hu' e
    rw [this]
set_option tactic.hygienic false in
theorem start_rel (S : Start K s₁ mg mb) (ht : ∀ t ∈ ts, codeTabIn K t.1 t.2 = true) : Rel (mkCfg prog w K s₁ VF ACC ts G X) [] [] s₁ where
  old b o e _ := e
  tab t h := by
    unfold mkCfg at h
    (refine x1_2 (List.mem_map.mp h) fun u hu rr2 => ?_; subst rr2)
    (refine x0_2 (codeTabIn_of S.kx (ht u hu)) fun a b => ?_)
    exact ⟨#[], by simpa using a, by simpa using b⟩
  lo _ h := nomatch h
  dis := .nil
  len := rfl
  st l p o e := by simp at e
  gens := ⟨.of_eq S.gens, fun l p m k e => (by simp at e), fun l p n e => (by simp at e), fun l l' p p' o o' n a b c d e => (by simp at e)⟩
  drawn := rfl
  os := rfl
  size := Nat.le_refl _
set_option tactic.hygienic false in
theorem notTab_of (S : Start K s₁ mg mb) (ht : ∀ t ∈ ts, codeTabIn K t.1 t.2 = true) {a : Addr} {o : Obj} (ho : s₁.heap.get? a = some o) (hc : o.cls ≠ .none) : ¬ (mkCfg prog w K s₁ VF ACC ts G X).isTab a := fun h => by
  (refine x1_2 (List.mem_map.mp (isTab_iff.mp h)) fun t hm e => ?_)
  have := (codeTabIn_of S.kx (ht t hm)).2.2
  rw [e, ho] at this
  (refine c1 this fun hh0 => ?_; clear this; subst hh0)
  exact hc rfl
set_option tactic.hygienic false in
theorem end_old {ρ : Rho} {σ : St} {s' : Shared} (S : Start K s₁ mg mb) (ht : ∀ t ∈ ts, codeTabIn K t.1 t.2 = true) (R : Rel (mkCfg prog w K s₁ VF ACC ts G X) ρ σ s') : OldK s₁.heap s'.heap := by
  refine ⟨fun b o e => ?_, fun b o e => ?_⟩
  · by_cases hb : (mkCfg prog w K s₁ VF ACC ts G X).isTab b
    · (refine x1_2 (List.mem_map.mp (isTab_iff.mp hb)) fun t hm e' => ?_)
      (refine x0_2 (codeTabIn_of S.kx (ht t hm)) fun uu q => ?_)
      subst e'
      obtain ⟨more, _, q'⟩ := R.tab (t.1, t.2, #[]) (by unfold mkCfg; exact List.mem_map.mpr ⟨t, hm, rfl⟩)
      rw [q.2] at e
      (refine c1 e fun hh0 => ?_; clear e; subst hh0)
      refine .inr (.inl ⟨q.isCodeTable, rfl, #[], more, rfl, ?_⟩)
      exact q'.2
    · exact .inl (R.old b o e hb)
  · by_cases hb : (mkCfg prog w K s₁ VF ACC ts G X).isTab b
    · (refine x1_2 (List.mem_map.mp (isTab_iff.mp hb)) fun t hm e' => ?_)
      subst e'
      obtain ⟨more, _, q'⟩ := R.tab (t.1, t.2, #[]) (by unfold mkCfg; exact List.mem_map.mpr ⟨t, hm, rfl⟩)
      exact ⟨_, q'.2⟩
    · exact ⟨o, R.old b o e hb⟩
end
end Mine.Internal
end
section
open PySem PySem.W PyProof.Rows PySem.Calls
namespace Mine.Internal
noncomputable def noF : FM := fun _ _ => none
set_option tactic.hygienic false in
theorem den_noF {C : Cfg} {d : Nat} {fv : Value} : DenCall C d fv noF := by intro xs σ x σ' h; cases h
noncomputable def pushF : FM := runF ["self", "fws", "string"] 3 (seqS [exprS (mE 4 appendF (nE 0) [tupE [nE 1, nE 2]])])
noncomputable def pcF : FM := runF ["self"] 1 (seqS [partCountS])
noncomputable def popF : FM := runF ["self"] 1 (seqS [ifS (cmpT .Eq (mE 4 pcF (nE 0) []) (cE (.int 0))) (seqS [retS (tupE [cE (.str ""), cE (.str "")])]) (seqS []), popS])
noncomputable def popFromF : FM := runD ["self", "i", "popped"] 2 [] (seqS [asgS 2 (sliceE (nE 0) (some (nE 1)) none), setSlS (nE 0) (some (nE 1)) none (lstE []), retS (nE 2)])
noncomputable def accLenF : FM := runF ["self"] 1 (seqS [accLenS])
noncomputable def accStrF : FM := runF ["self"] 1 (seqS [accStrS])
noncomputable def resetB : SM := seqS [ifS (cmpT .Is (nE 1) (cE .none)) (seqS [asgS 1 (lstE [])]) (seqS []), setSlS (nE 0) none none (nE 1), iniS (nE 0) (cE (.int 0))]
noncomputable def resetF : FM := orF (runD ["self", "startval"] 1 [.none] resetB) (runD ["self", "startval"] 2 [] resetB)
noncomputable def onlywsF : FM := runF ["self"] 1 (seqS [retS (andE (tE (cmpT .Eq (attrE 6 (nE 0)) (cE (.int 0)))) (orE (tE (notT (trA accLenF (nE 0)))) (mE 1 isspaceF (callE (strF accStrF noF) [nE 0]) [])))])
end Mine.Internal
end
section
open PySem PySem.W PyProof.Rows PySem.Calls
namespace Mine.Internal
noncomputable def lineE : EM := attrE 5 (nE 0)
noncomputable def linesE : EM := attrE 4 (nE 0)
noncomputable def strAcc : EM := callE (strF accStrF noF) [lineE]
noncomputable def newlineB : SM := seqS [
  asgS 1 (mE 4 popF lineE []),
  ifS (cmpT .NotEq (nE 1) (tupE [cE (.str " "), cE (.str "")])) (seqS [exprS (mStarE pushF lineE (nE 1))]) (seqS []),
  ifS (cmpT .Gt (callE (lenF accLenF) [lineE]) (cE (.int 0)))
    (seqS [ifS (andT [trT (mE 4 onlywsF lineE []), trT linesE])
      (seqS [augIdxS linesE (negE (cE (.int 1))) .Add strAcc])
      (seqS [exprS (mE 2 appendF linesE [strAcc])])]) (seqS []),
  exprS (mE 4 resetF lineE [])]
noncomputable def newlineF : FM := runF ["self", "end_of_line"] 1 newlineB
noncomputable def uStrF : FM := runF ["self", "linesep"] 2 (seqS [exprS (mE 3 newlineF (nE 0) []), retS (mE 1 joinF (nE 1) [linesE])])
noncomputable def fmtStrF : FM := runF ["self"] 1 (seqS [retS (mE 3 uStrF (nE 0) [cE (.str "\n")])])
noncomputable def seekB : SM := seqS [
  ifS (trT (mE 1 isspaceF (nE 3) [])) (seqS [
    asgS 1 (idxE (idxE lineE (nE 4)) (cE (.int 0))),
    ifS (andT [trT (nE 1), cmpT .Eq (idxE (nE 1) (cE (.int 0))) (nE 3)]) (seqS [brkS]) (seqS [])]) (seqS []),
  asgS 5 (idxE (idxE lineE (binE .Sub (nE 4) (cE (.int 1)))) (cE (.int 1))),
  ifS (andT [trT (nE 5), cmpT .Eq (idxE (nE 5) (negE (cE (.int 1)))) (nE 3)]) (seqS [brkS]) (seqS [])]
noncomputable def seekS : SM := forS 3 (attrE 3 (nE 0))
  (seqS [forRS 4 [binE .Sub (mE 4 pcF lineE []) (cE (.int 1)), cE (.int 0), negE (cE (.int 1))] seekB (seqS [contS]), brkS])
  (seqS [unpS 1 6 (mE 4 popF lineE []),
    ifS (cmpT .Gt (attrE 6 lineE) (cE (.int 0))) (seqS [exprS (mE 3 newlineF (nE 0) []), ifS (notT (trT (nE 1))) (seqS [asgS 1 (cE (.str " "))]) (seqS [])]) (seqS []),
    exprS (mE 4 pushF lineE [nE 1, nE 6]),
    retNS])
noncomputable def chunkB : SM := seqS [
  exprS (mE 4 pushF lineE [nE 1, nE 2]),
  ifS (cmpT .Gt (callE (lenF accLenF) [lineE]) (attrE 0 (nE 0))) (seqS [
    seekS,
    asgS 7 (mE 4 popFromF lineE [nE 4]),
    exprS (mE 2 appendF linesE [strAcc]),
    exprS (mE 4 resetF lineE [nE 7])]) (seqS [])]
noncomputable def chunkF : FM := runF ["self", "fws", "string", "ch", "i", "prevpart", "part", "remainder"] 3 chunkB
noncomputable def splitB : SM := seqS [
  asgS 4 (reSplitE (binE .Add (nE 1) (nE 2))),
  ifS (trT (idxE (nE 4) (cE (.int 0)))) (seqS [setSlS (nE 4) none (some (cE (.int 0))) (lstE [cE (.str "")])]) (seqS [exprS (mE 2 popAtF (nE 4) [cE (.int 0)])]),
  zipS 1 5 (nE 4) (seqS [exprS (mE 3 chunkF (nE 0) [nE 1, nE 5])]) (seqS [])]
noncomputable def splitF : FM := runF ["self", "fws", "string", "splitchars", "parts", "part"] 4 splitB
end Mine.Internal
end
section
open PySem PySem.W PyProof.Rows PySem.Calls
namespace Mine.Internal
structure BE (C : Cfg) (d : Nat) (env : Env) (vars : List Str) (e : Expr) (f : EM) : Prop where
  run : DenE C d env vars e f
structure BT (C : Cfg) (d : Nat) (env : Env) (vars : List Str) (e : Expr) (f : TM) : Prop where
  run : DenT C d env vars e f
structure BS (C : Cfg) (d : Nat) (env : Env) (vars : List Str) (e : Stmt) (f : SM) : Prop where
  run : DenS C d env vars e f
structure BB (C : Cfg) (d : Nat) (env : Env) (vars : List Str) (e : List Stmt) (f : SM) : Prop where
  run : DenB C d env vars e f
structure BEs (C : Cfg) (d : Nat) (env : Env) (vars : List Str) (e : List Expr) (f : List EM) : Prop where
  run : DenEs C d env vars e f
structure BTs (C : Cfg) (d : Nat) (env : Env) (vars : List Str) (e : List Expr) (f : List TM) : Prop where
  run : DenTs C d env vars e f
structure BO (C : Cfg) (d : Nat) (env : Env) (vars : List Str) (e : Option Expr) (f : Option EM) : Prop where
  run : DenO C d env vars e f
structure BC (C : Cfg) (d : Nat) (fv : Value) (F : FM) : Prop where
  run : DenCall C d fv F
structure BF (C : Cfg) (d : Nat) (f : Addr) (F : FM) : Prop where
  run : DenF C d f F
structure BSA (C : Cfg) (d : Nat) (env : Env) (vars : List Str) (body : List Stmt) (e : Stmt) (f : SM) : Prop where
  run : DenSAt C d env vars body e f
structure BBA (C : Cfg) (d : Nat) (env : Env) (vars : List Str) (body : List Stmt) (e : List Stmt) (f : SM) : Prop where
  run : DenBAt C d env vars body e f
structure BM (C : Cfg) (k : Nat) (name : Str) (fv : Value) : Prop where
  run : GetM C k name fv
structure EnvB (env : Env) (vars : List Str) : Prop where
  ok : EnvOk env vars
  nd : ∀ x ∈ vars, (x == ("__debug__" : Str)) = false
  int : interactive env = false
noncomputable def plainVal : Expr → Bool
  | .ListComp .. | .SetComp .. | .DictComp .. => false
  | _ => true
set_option tactic.hygienic false in
theorem swaps_plain {e : Expr} (h : plainVal e = true) (t : Option Expr) (l : Nat) (env : Env) : swapsWith e t l env = pure false := by
  cases e <;> first | rfl | cases h
noncomputable def noStarE : Expr → Bool
  | .Starred .. => false
  | _ => true
set_option tactic.hygienic false in
theorem star_plain {e : Expr} (h : noStarE e = true) (env : Env) (r : List Expr) : starEach (e :: r) env = (false, eval e env) :: starEach r env := by
  cases e <;> first | rfl | cases h
section
variable {C : Cfg} {d d' : Nat} {env : Env} {vars : List Str} {p p' p0 p1 : Pos} {fl fs ff : Addr}
set_option tactic.hygienic false in
theorem BC.up {fv : Value} {F : FM} (D : BC C d' fv F) (h : d' ≤ d) : BC C d fv F := ⟨D.run.mono h⟩
set_option tactic.hygienic false in
theorem BF.call {f : Addr} {F : FM} (D : BF C d' f F) (h : d' ≤ d) : BC C d (.ref f) F := ⟨D.run.call.mono h⟩
set_option tactic.hygienic false in
theorem b_int {i : Int} {k : Nat} : BE C d env vars (.Constant (.int i) k p) (cE (.int i)) := ⟨den_int⟩
set_option tactic.hygienic false in
theorem b_str {x : Str} {k : Nat} (ok : PyData.strOk x = true) : BE C d env vars (.Constant (.str x) k p) (cE (.str x)) := ⟨den_str ok⟩
set_option tactic.hygienic false in
theorem b_bool {b : Bool} {k : Nat} : BE C d env vars (.Constant (.bool b) k p) (cE (.bool b)) := ⟨den_bool⟩
set_option tactic.hygienic false in
theorem b_none {k : Nat} : BE C d env vars (.Constant .none k p) (cE .none) := ⟨den_none⟩
set_option tactic.hygienic false in
theorem b_name (He : EnvB env vars) {n : Str} {i : Nat} (hi : vars[i]? = some n) : BE C d env vars (.Name n p) (nE i) := ⟨den_name He.ok hi (He.nd _ (List.mem_of_getElem? hi))⟩
set_option tactic.hygienic false in
theorem b_bin {l r : Expr} {op : Operator} {f g : EM} (D1 : BE C d env vars l f) (D2 : BE C d env vars r g) : BE C d env vars (.BinOp l op r p) (binE op f g) := ⟨den_bin D1.run D2.run⟩
set_option tactic.hygienic false in
theorem b_cmp {l r : Expr} {op : CmpOp} {f g : EM} (D1 : BE C (d + 1) env vars l f) (D2 : BE C (d + 1) env vars r g) (hb : behindInMarks op r = false) : BE C (d + 1) env vars (.Compare l [op] [r] p) (tE (cmpT op f g)) := ⟨den_cmp D1.run D2.run hb⟩
set_option tactic.hygienic false in
theorem b_cmpT {l r : Expr} {op : CmpOp} {f g : EM} (D1 : BE C (d + 1) env vars l f) (D2 : BE C (d + 1) env vars r g) (hb : behindInMarks op r = false) : BT C (d + 1) env vars (.Compare l [op] [r] p) (cmpT op f g) := ⟨den_cmpT D1.run D2.run hb⟩
set_option tactic.hygienic false in
theorem b_tr {e : Expr} {f : EM} (D : BE C d env vars e f) (hp : ∀ whole, isTrue e env whole = (do let v ← whole; standAt e.pos; holding [v] (truthy v))) : BT C d env vars e (trT f) := ⟨den_truth D.run hp⟩
set_option tactic.hygienic false in
theorem b_notT {e : Expr} {f : TM} (D : BT C d env vars e f) : BT C d env vars (.UnaryOp .Not e p) (notT f) := ⟨den_notT D.run⟩
set_option tactic.hygienic false in
theorem b_tnil : BTs C d env vars [] [] := ⟨.nil⟩
set_option tactic.hygienic false in
theorem b_tcons {e : Expr} {f : TM} {es : List Expr} {fs : List TM} (a : BT C d env vars e f) (b : BTs C d env vars es fs) : BTs C d env vars (e :: es) (f :: fs) := ⟨.cons a.run b.run⟩
set_option tactic.hygienic false in
theorem b_andT {es : List Expr} {fs : List TM} (D : BTs C d env vars es fs) : BT C d env vars (.BoolOp .And es p) (andT fs) := ⟨den_andT D.run⟩
set_option tactic.hygienic false in
theorem b_orT {es : List Expr} {fs : List TM} (D : BTs C d env vars es fs) : BT C d env vars (.BoolOp .Or es p) (orT fs) := ⟨den_orT D.run⟩
set_option tactic.hygienic false in
theorem b_andE {l r : Expr} {f g : EM} (D1 : BE C d env vars l f) (D2 : BE C d env vars r g) : BE C d env vars (.BoolOp .And [l, r] p) (andE f g) := ⟨den_andE D1.run D2.run⟩
set_option tactic.hygienic false in
theorem b_orE {l r : Expr} {f g : EM} (D1 : BE C d env vars l f) (D2 : BE C d env vars r g) : BE C d env vars (.BoolOp .Or [l, r] p) (orE f g) := ⟨den_orE D1.run D2.run⟩
set_option tactic.hygienic false in
theorem b_neg {e : Expr} {f : EM} (D : BE C d env vars e f) : BE C d env vars (.UnaryOp .USub e p) (negE f) := ⟨den_neg D.run⟩
set_option tactic.hygienic false in
theorem b_notA (H : CfgOk C) (HS : SpecOk C fl fs ff) {LF : FM} (DL : BC C d (.ref fl) LF) {e : Expr} {f : EM} (D : BE C (d + 1) env vars e f) : BE C (d + 1) env vars (.UnaryOp .Not e p) (tE (notT (trA LF f))) := ⟨den_notA H HS DL.run D.run⟩
set_option tactic.hygienic false in
theorem b_nil : BB C d env vars [] (seqS []) := ⟨den_nil⟩
set_option tactic.hygienic false in
theorem b_cons {st : Stmt} {r : List Stmt} {f : SM} {fs : List SM} (D1 : BS C d env vars st f) (D2 : BB C d env vars r (seqS fs)) : BB C d env vars (st :: r) (seqS (f :: fs)) := ⟨den_cons D1.run D2.run⟩
set_option tactic.hygienic false in
theorem b_asg (H : EnvB env vars) {i : Nat} {n : Str} {e : Expr} {f : EM} (hi : vars[i]? = some n) (D : BE C d env vars e f) (hs : plainVal e = true) : BS C d env vars (.Assign [.Name n p'] e p) (asgS i f) := ⟨den_asg H.ok hi D.run (swaps_plain hs _ _ _)⟩
set_option tactic.hygienic false in
theorem b_if {c : Expr} {t : TM} {b1 b2 : List Stmt} {f g : SM} (D0 : BT C d env vars c t) (D1 : BB C d env vars b1 f) (D2 : BB C d env vars b2 g) : BS C d env vars (.If c b1 b2 p) (ifS t f g) := ⟨den_if D0.run D1.run D2.run⟩
set_option tactic.hygienic false in
theorem b_ret {e : Expr} {f : EM} (D : BE C d env vars e f) : BS C d env vars (.Return (some e) p) (retS f) := ⟨den_ret D.run⟩
set_option tactic.hygienic false in
theorem b_retN : BS C d env vars (.Return none p) retNS := ⟨den_retN⟩
set_option tactic.hygienic false in
theorem b_brk : BS C d env vars (.Break p) brkS := ⟨den_brk⟩
set_option tactic.hygienic false in
theorem b_cont : BS C d env vars (.Continue p) contS := ⟨den_cont⟩
set_option tactic.hygienic false in
theorem b_expr (H : EnvB env vars) {e : Expr} {f : EM} (D : BE C d env vars e f) (hs : plainVal e = true) : BS C d env vars (.Expr e p) (exprS f) := ⟨den_expr D.run H.int (swaps_plain hs _ _ _)⟩
set_option tactic.hygienic false in
theorem b_enil : BEs C d env vars [] [] := ⟨.nil⟩
set_option tactic.hygienic false in
theorem b_econs {e : Expr} {f : EM} {es : List Expr} {fs : List EM} (a : BE C d env vars e f) (b : BEs C d env vars es fs) (ns : noStarE e = true) : BEs C d env vars (e :: es) (f :: fs) := ⟨.cons a.run b.run fun r => star_plain ns env r⟩
set_option tactic.hygienic false in
theorem b_tup {es : List Expr} {fs : List EM} {k : Nat} (D : BEs C d env vars es fs) : BE C d env vars (.Tuple es k p) (tupE fs) := ⟨den_tup D.run⟩
set_option tactic.hygienic false in
theorem b_lst {es : List Expr} {fs : List EM} (D : BEs C d env vars es fs) : BE C d env vars (.List es p) (lstE fs) := ⟨den_lst D.run⟩
set_option tactic.hygienic false in
theorem b_newL {es : List Expr} {fs : List EM} (D : BEs C d env vars es fs) : BE C d env vars (.List es p) (newLE fs) := ⟨den_newL D.run⟩
set_option tactic.hygienic false in
theorem b_call (H : CfgOk C) (He : EnvB env vars) {x : Str} {fv : Value} {F : FM} {es : List Expr} {fs : List EM} (hv : GlobVal C x fv) (hx : env.kindOf x = some .globalImplicit) (hk : KeepOk C fv) (DF : BC C d fv F) (D : BEs C d env vars es fs)
    (hd : (x == ("__debug__" : Str)) = false) : BE C d env vars (.Call (.Name x p0) es [] p) (callE F fs) := ⟨den_call H He.ok hv hx hk DF.run D.run hd⟩
set_option tactic.hygienic false in
theorem b_glob (H : CfgOk C) (He : EnvB env vars) {x y : Str} {t : Tok} (hv : GlobVal C x (.str y t)) (ok : PyData.strOk y = true) (hx : env.kindOf x = some .globalImplicit) (hd : (x == ("__debug__" : Str)) = false) : BE C d env vars (.Name x p) (cE (.str y)) := ⟨den_glob H He.ok hv ok hx hd⟩
set_option tactic.hygienic false in
theorem b_meth (H : CfgOk C) {k : Nat} {name : Str} {fv : Value} {F : FM} {o : Expr} {f : EM} {es : List Expr} {fs : List EM} {apos : Pos} (hg : BM C k name fv) (hk : KeepOk C fv) (DF : BC C d fv F) (D0 : BE C d env vars o f) (D : BEs C d env vars es fs)
    (hb : ∀ nm whole, attributeBase o nm env whole = whole) (hl : es.length < 30) (hp : (apos.endLine == p.line) = true) : BE C d env vars (.Call (.Attribute o name apos) es [] p) (mE k F f fs) := ⟨den_meth H hg.run hk DF.run D0.run D.run hb hl hp⟩
set_option tactic.hygienic false in
theorem b_attr {o : Expr} {n : Str} {f : EM} {k : Nat} (H : CfgOk C) (HC : ClsOk C) (hn : attrName k = n) (D : BE C d env vars o f) (hb : ∀ nm whole, attributeBase o nm env whole = whole) : BE C d env vars (.Attribute o n p) (attrE k f) := ⟨den_attr H HC hn D.run hb⟩
set_option tactic.hygienic false in
theorem b_methStar (H : CfgOk C) (HC : ClsOk C) {name : Str} {f : Addr} {F : FM} {o e : Expr} {fo g : EM} {apos ps : Pos} (B : BindOk C name f) (DF : BF C d' f F) (h : d' ≤ d) (D0 : BE C d env vars o fo) (D : BE C d env vars e g)
    (hb : ∀ nm whole, attributeBase o nm env whole = whole) : BE C d env vars (.Call (.Attribute o name apos) [.Starred e ps] [] p) (mStarE F fo g) := ⟨den_methStar H HC B (DF.run.mono h) D0.run D.run hb⟩
set_option tactic.hygienic false in
theorem b_unp (He : EnvB env vars) {i j : Nat} {n m : Str} {e : Expr} {f : EM} {k0 : Nat} {pa pb pt : Pos} (hi : vars[i]? = some n) (hj : vars[j]? = some m) (D : BE C d env vars e f)
    (hs : swapsWithSole [.Tuple [.Name n pa, .Name m pb] k0 pt] e p.line env = pure false) (hw : swappedStores [.Tuple [.Name n pa, .Name m pb] k0 pt] e env = pure none) : BS C d env vars (.Assign [.Tuple [.Name n pa, .Name m pb] k0 pt] e p) (unpS i j f) := ⟨den_unp He.ok hi hj D.run hs hw⟩
set_option tactic.hygienic false in
theorem b_for (He : EnvB env vars) {j : Nat} {n : Str} {pn : Pos} {iter : Expr} {body orelse : List Stmt} {f : EM} {B O : SM} (hj : vars[j]? = some n) (D : BE C d env vars iter f) (DB : BB C d env vars body B) (DO : BB C d env vars orelse O)
    (hs : ∀ x, foldedSetIterable iter env x = pure x) : BS C d env vars (.For (.Name n pn) iter body orelse p) (forS j f B O) := ⟨den_for He.ok hj D.run DB.run DO.run hs⟩
set_option tactic.hygienic false in
theorem b_forR (H : CfgOk C) (He : EnvB env vars) {j : Nat} {n : Str} {pn : Pos} {es : List Expr} {body orelse : List Stmt} {fs : List EM} {B O : SM} (hj : vars[j]? = some n) (hv : GlobVal C "range" (.type "range")) (hk : env.kindOf "range" = some .globalImplicit) (D : BEs C d env vars es fs) (DB : BB C d env vars body B) (DO : BB C d env vars orelse O) :
    BS C d env vars (.For (.Name n pn) (.Call (.Name "range" p0) es [] p1) body orelse p) (forRS j fs B O) := ⟨den_forR H He.ok hj hv hk D.run DB.run DO.run⟩
set_option tactic.hygienic false in
theorem b_zip (H : CfgOk C) (He : EnvB env vars) {i j : Nat} {n m : Str} {k0 k1 : Nat} {pa pb pt q0 q2 q3 q4 q5 q6 : Pos} {e : Expr} {body orelse : List Stmt} {f : EM} {B O : SM} (hi : vars[i]? = some n) (hj : vars[j]? = some m)
    (hz : GlobVal C "zip" (.type "zip")) (hzk : env.kindOf "zip" = some .globalImplicit) (hit : GlobVal C "iter" (.builtin "iter")) (hik : env.kindOf "iter" = some .globalImplicit)
    (D : BE C d env vars e f) (DB : BB C d env vars body B) (DO : BB C d env vars orelse O) (ns : noStarE e = true) :
    BS C d env vars (.For (.Tuple [.Name n pa, .Name m pb] k0 pt) (.Call (.Name "zip" p0) [.Starred (.BinOp (.List [.Call (.Name "iter" q0) [e] [] q2] q3) .Mult (.Constant (.int 2) k1 q4) q5) q6] [] p1) body orelse p) (zipS i j f B O) := ⟨den_zip H He.ok hi hj hz hzk hit hik (fun r => star_plain ns env r) D.run DB.run DO.run⟩
set_option tactic.hygienic false in
theorem b_reSplit (H : CfgOk C) (He : EnvB env vars) {r rc : Addr} {n : Str} {e : Expr} {f : EM} {ap : Pos} (O : ReOk C r rc) (hd : ∀ o, C.K.lookup r = some o → o.dict = none) (hv : GlobVal C n (.ref r)) (hk : env.kindOf n = some .globalImplicit)
    (D : BE C d env vars e f) (hdb : (n == ("__debug__" : Str)) = false) (hp : (ap.endLine == p.line) = true) (ns : noStarE e = true) : BE C d env vars (.Call (.Attribute (.Name n p0) "split" ap) [e] [] p) (reSplitE f) := ⟨den_reSplit H He.ok O hd hv hk (fun r => star_plain ns env r) D.run hdb hp⟩
set_option tactic.hygienic false in
theorem b_idx (H : CfgOk C) (HC : ClsOk C) (HA : AccOk C) (HI : ItemOk C) {value slice : Expr} {f g : EM} (D1 : BE C d env vars value f) (D2 : BE C d env vars slice g) : BE C d env vars (.Subscript value slice p) (idxE f g) := ⟨den_idx H HC HA HI D1.run D2.run⟩
set_option tactic.hygienic false in
theorem b_oN : BO C d env vars none none := ⟨.none⟩
set_option tactic.hygienic false in
theorem b_oS {e : Expr} {f : EM} (D : BE C d env vars e f) : BO C d env vars (some e) (some f) := ⟨.some D.run⟩
set_option tactic.hygienic false in
theorem b_slice (H : CfgOk C) (HC : ClsOk C) (HA : AccOk C) (HI : ItemOk C) {value : Expr} {lo hi : Option Expr} {f : EM} {fl fh : Option EM} {ps : Pos} (D1 : BE C d env vars value f) (D2 : BO C d env vars lo fl) (D3 : BO C d env vars hi fh) :
    BE C d env vars (.Subscript value (.Slice lo hi none ps) p) (sliceE f fl fh) := ⟨den_slice H HC HA HI D1.run D2.run D3.run⟩
set_option tactic.hygienic false in
theorem b_setSl (H : CfgOk C) (HC : ClsOk C) (HA : AccOk C) (HI : ItemOk C) {o value : Expr} {lo hi : Option Expr} {f g : EM} {fl fh : Option EM} {ps' : Pos} (D0 : BE C d env vars value f) (D1 : BE C d env vars o g) (D2 : BO C d env vars lo fl) (D3 : BO C d env vars hi fh)
    (hs : plainVal value = true) : BS C d env vars (.Assign [.Subscript o (.Slice lo hi none ps') p'] value p) (setSlS g fl fh f) := ⟨den_setSl H HC HA HI D0.run D1.run D2.run D3.run (swaps_plain hs _ _ _)⟩
theorem b_augIdx (H : CfgOk C) (HC : ClsOk C) (HA : AccOk C) (HI : ItemOk C) {o i value : Expr} {op : Operator} {g ix f : EM} (D1 : BE C d env vars o g) (D2 : BE C d env vars i ix) (D3 : BE C d env vars value f)
    (hst : ∀ ov iv new, augStore i ov iv new = (do holding [new, ov, iv] (setItem ov iv new); release [new, ov, iv] []; pure .next)) :
    BS C d env vars (.AugAssign (.Subscript o i p') op value p) (augIdxS g ix op f) := ⟨den_augIdx H HC HA HI D1.run D2.run D3.run hst⟩
set_option tactic.hygienic false in
theorem b_ini (H : CfgOk C) (HS : StoreOk C C.ACC) (ht : takerIn C.K C.ACC "_initial_size" = some none) {o e : Expr} {g f : EM} (D0 : BE C d env vars o g) (D : BE C d env vars e f) (hs : plainVal e = true) :
    BS C d env vars (.Assign [.Attribute o "_initial_size" p'] e p) (iniS g f) := ⟨den_ini H HS ht D0.run D.run (swaps_plain hs _ _ _)⟩
set_option tactic.hygienic false in
theorem FnIn.envB {f : Addr} {n : Nat} (F : FnIn C f vars n) (nd : vars.all (fun x => !(x == ("__debug__" : Str))) = true) (L : Addr) : EnvB (envAt C f L) vars := by
  refine ⟨F.env L, fun x hx => ?_, ?_⟩
  · have := List.all_eq_true.mp nd x hx
    simpa using this
  · have S := scopeIn_of F.scope
    show ((fdAt C.K f).scope.kind == .module && _) = false
    rw [S.kind]; rfl
set_option tactic.hygienic false in
theorem FnIn.ok0 {f : Addr} {n : Nat} (H : CfgOk C) (F : FnIn C f vars n) (hb : ∀ vs : List Value, vs.length = n → bindArgs (fdAt C.K f) ⟨vs, []⟩ = pure ((vars.take n).zip vs)) : FnD C f vars n [] [] (bodyAt C.K f) (fdAt C.K f) :=
  F.okD (m := n) (dxs := []) (dv := []) H (fun uu uu => .nil) fun s X vs h => .of_eq (by rw [hb vs h, List.append_nil]; rfl)
set_option tactic.hygienic false in
theorem b_fn {f : Addr} {n : Nat} {B : SM} (H : CfgOk C) (F : FnIn C f vars n) (nd : vars.all (fun x => !(x == ("__debug__" : Str))) = true) (hb : ∀ vs : List Value, vs.length = n → bindArgs (fdAt C.K f) ⟨vs, []⟩ = pure ((vars.take n).zip vs))
    (D : ∀ L, EnvB (envAt C f L) vars → BB C d (envAt C f L) vars (bodyAt C.K f) B) : BF C (d + 1) f (runF vars n B) := by
  exact ⟨runD_runF ▸ denF_ofD (F.ok0 H hb) H.lim H.stat fun L => (D L (F.envB nd L)).run.at⟩
set_option tactic.hygienic false in
theorem b_fnD {f : Addr} {m : Nat} {dxs : List AV} {dv : List Value} {B : SM} (H : CfgOk C) (F : FnIn C f vars (m + dxs.length)) (nd : vars.all (fun x => !(x == ("__debug__" : Str))) = true) (dq : ∀ ρ h, VRs C ρ h dxs dv)
    (hb : ∀ s : Shared, C.K.In s.heap → ∀ vs : List Value, vs.length = m → BindsTo s (fdAt C.K f) ⟨vs, []⟩ ((vars.take (m + dxs.length)).zip (vs ++ dv)))
    (D : ∀ L, EnvB (envAt C f L) vars → BB C d (envAt C f L) vars (bodyAt C.K f) B) : BF C (d + 1) f (runD vars m dxs B) :=
  ⟨denF_ofD (F.okD H dq hb) H.lim H.stat fun L => (D L (F.envB nd L)).run.at⟩
set_option tactic.hygienic false in
theorem b_fnA {f : Addr} {n : Nat} {B : SM} (H : CfgOk C) (F : FnIn C f vars n) (nd : vars.all (fun x => !(x == ("__debug__" : Str))) = true) (hb : ∀ vs : List Value, vs.length = n → bindArgs (fdAt C.K f) ⟨vs, []⟩ = pure ((vars.take n).zip vs))
    (D : ∀ L, EnvB (envAt C f L) vars → BBA C d (envAt C f L) vars (bodyAt C.K f) (bodyAt C.K f) B) : BF C (d + 1) f (runF vars n B) :=
  ⟨runD_runF ▸ denF_ofD (F.ok0 H hb) H.lim H.stat fun L => (D L (F.envB nd L)).run⟩
set_option tactic.hygienic false in
theorem b_nilA {body : List Stmt} : BBA C d env vars body [] (seqS []) := ⟨den_nil.at⟩
set_option tactic.hygienic false in
theorem b_sA {body : List Stmt} {st : Stmt} {f : SM} (D : BS C d env vars st f) : BSA C d env vars body st f := ⟨D.run.at⟩
set_option tactic.hygienic false in
theorem b_consA {body : List Stmt} {st : Stmt} {r : List Stmt} {f : SM} {fs : List SM} (D1 : BSA C d env vars body st f) (D2 : BBA C d env vars body r (seqS fs)) : BBA C d env vars body (st :: r) (seqS (f :: fs)) := ⟨den_consAt D1.run D2.run⟩
set_option tactic.hygienic false in
theorem b_partCount {body : List Stmt} (H : CfgOk C) (HC : ClsOk C) (He : EnvB env vars) (HS : SupCls C) (SO : SupOk C env vars) {apos pr : Pos} (hf : alongIn C.K "__len__" [.type "list", .type "object"] = some (some (.builtin "list.__len__"))) (hp : (apos.endLine == p.line) = true) :
    BSA C d env vars body (.Return (some (.Call (.Attribute (.Call (.Name "super" p0) [] [] p1) "__len__" apos) [] [] p)) pr) partCountS := ⟨den_partCount H HC He.ok HS SO hf hp⟩
set_option tactic.hygienic false in
theorem b_pop {body : List Stmt} (H : CfgOk C) (HC : ClsOk C) (He : EnvB env vars) (HS : SupCls C) (SO : SupOk C env vars) {apos pr : Pos} (hf : alongIn C.K "pop" [.type "list", .type "object"] = some (some (.builtin "list.pop"))) (hp : (apos.endLine == p.line) = true) :
    BSA C d env vars body (.Return (some (.Call (.Attribute (.Call (.Name "super" p0) [] [] p1) "pop" apos) [] [] p)) pr) popS := ⟨den_pop H HC He.ok HS SO hf hp⟩
set_option tactic.hygienic false in
theorem b_accLen (H : CfgOk C) (HC : ClsOk C) (HA : AccOk C) (HG : GenOk C) (He : EnvB env vars) {t : Addr × Addr × Array Value} {scope : Scope} (GE : GenEnvOk C env vars t scope) (LS : LenScope scope) (hl : GlobVal C "len" (.builtin "len")) (hsum : GlobVal C "sum" (.builtin "sum")) (hk : env.kindOf "sum" = some .globalImplicit)
    {pa pb pt ps pos q0 q1 r0 r1 r2 r3 r4 r5 r6 pr : Pos} {kt : Nat} :
    BS C (d + 1) env vars (.Return (some (.Call (.Name "sum" p0) [.GeneratorExp (.BinOp (.Call (.Name "len" r0) [.Name "fws" r1] [] r2) .Add (.Call (.Name "len" r3) [.Name "part" r4] [] r5) r6) [⟨.Tuple [.Name "fws" pa, .Name "part" pb] kt pt, .Name "self" ps, [], 0⟩] scope pos, .Attribute (.Name "self" q0) "_initial_size" q1] [] p)) pr) accLenS := ⟨den_accLen H HC HA HG He.ok GE LS hl hsum hk⟩
set_option tactic.hygienic false in
theorem b_accStr (H : CfgOk C) (HC : ClsOk C) (HA : AccOk C) (HG : GenOk C) (He : EnvB env vars) {t : Addr × Addr × Array Value} {scope : Scope} (GE : GenEnvOk C env vars t scope) (LS : StrScope scope) {te : Tok} (hE : GlobVal C "EMPTYSTRING" (.str "" te)) (hk : env.kindOf "EMPTYSTRING" = some .globalImplicit)
    {pa pb pt ps pos q0 r0 r1 r2 r3 r4 apos pr : Pos} {kt kt' : Nat} (hp1 : (apos.endLine == r4.line) = true) (hp2 : (q0.endLine == p.line) = true) :
    BS C (d + 1) env vars (.Return (some (.Call (.Attribute (.Name "EMPTYSTRING" p0) "join" q0) [.GeneratorExp (.Call (.Attribute (.Name "EMPTYSTRING" r0) "join" apos) [.Tuple [.Name "fws" r1, .Name "part" r2] kt' r3] [] r4) [⟨.Tuple [.Name "fws" pa, .Name "part" pb] kt pt, .Name "self" ps, [], 0⟩] scope pos] [] p)) pr) accStrS := ⟨den_accStr H HC HA HG He.ok GE LS hE hk hp1 hp2⟩
set_option tactic.hygienic false in
theorem b_len (H : CfgOk C) (HS : SpecOk C fl fs ff) {LF : FM} (DL : BF C d' fl LF) (h : d' + 1 ≤ d) : BC C d (.builtin "len") (lenF LF) := ⟨(den_len H HS DL.run.call).mono h⟩
set_option tactic.hygienic false in
theorem b_strC (H : CfgOk C) (HS : SpecOk C fl fs ff) {SF FF : FM} (DS : BC C d' (.ref fs) SF) (DF : BC C d' (.ref ff) FF) (h : d' + 2 ≤ d) : BC C d (.type "str") (strF SF FF) := ⟨(den_str' H HS DS.run DF.run).mono h⟩
set_option tactic.hygienic false in
theorem b_noF {fv : Value} : BC C d fv noF := ⟨den_noF⟩
set_option tactic.hygienic false in
theorem b_append (H : CfgOk C) (HC : ClsOk C) : BC C (d + 1) (.builtin "list.append") appendF := ⟨den_append H HC⟩
set_option tactic.hygienic false in
theorem b_join : BC C d (.builtin "str.join") joinF := ⟨den_join⟩
set_option tactic.hygienic false in
theorem b_isspace : BC C d (.builtin "str.isspace") isspaceF := ⟨den_isspace⟩
set_option tactic.hygienic false in
theorem b_sum : BC C d (.builtin "sum") sumF := ⟨den_sum⟩
set_option tactic.hygienic false in
theorem b_popAt : BC C d (.builtin "list.pop") popAtF := ⟨den_popAt⟩
set_option tactic.hygienic false in
theorem m_append : BM C 2 "append" (.builtin "list.append") := ⟨getM_list PySem.F.slot_list_append PySem.F.type_list_append⟩
set_option tactic.hygienic false in
theorem m_popAt : BM C 2 "pop" (.builtin "list.pop") := ⟨getM_list PySem.F.slot_list_pop PySem.F.type_list_pop⟩
set_option tactic.hygienic false in
theorem m_join : BM C 1 "join" (.builtin "str.join") := ⟨getM_str PySem.F.slot_str_join PySem.F.type_str_join⟩
set_option tactic.hygienic false in
theorem m_isspace : BM C 1 "isspace" (.builtin "str.isspace") := ⟨getM_str PySem.F.slot_str_isspace PySem.F.type_str_isspace⟩
set_option tactic.hygienic false in
theorem m_accApp (H : CfgOk C) (HC : ClsOk C) (hf : findIn C.K (.ref C.ACC) "append" = some (some (.builtin "list.append"))) (ht : typeIn C.K (.builtin "list.append") = some (.type "method_descriptor")) : BM C 4 "append" (.builtin "list.append") := ⟨getM_acc H HC hf ht (.inr (.inl rfl)) (by decide +kernel)⟩
set_option tactic.hygienic false in
theorem m_acc (H : CfgOk C) (HC : ClsOk C) {name : Str} {f : Addr} (hf : findIn C.K (.ref C.ACC) name = some (some (.ref f))) (ht : typeIn C.K (.ref f) = some (.type "function")) (hn : (name == ("_initial_size" : Str)) = false) : BM C 4 name (.ref f) := ⟨getM_acc H HC hf ht (.inl rfl) hn⟩
set_option tactic.hygienic false in
theorem m_fmt (H : CfgOk C) (HC : ClsOk C) {name : Str} {f : Addr} (hf : findIn C.K (.ref C.VF) name = some (some (.ref f))) (ht : typeIn C.K (.ref f) = some (.type "function")) (c : (List.range 6).all (fun k => !(name == attrName k)) = true) : BM C 3 name (.ref f) :=
  ⟨getM_fmt H HC hf ht fun k hk => by have := List.all_eq_true.mp c k (List.mem_range.mpr hk); simpa using this⟩
end
end Mine.Internal
end
section
open PySem PySem.W PyProof.Rows PySem.Calls
namespace Mine.Internal
set_option tactic.hygienic false in
theorem uncons {vs : List Value} {n : Nat} (e : vs.length = n + 1) : ∃ a r, vs = a :: r := by
  cases vs with
  | nil => cases e
  | cons a r => exact ⟨a, r, rfl⟩
set_option tactic.hygienic false in
theorem vec1 {P : List Value → Prop} (h : ∀ a, P [a]) : ∀ vs, vs.length = 1 → P vs := fun vs e => by
  (refine x2_1 (uncons e) fun a r rr2 => ?_; subst rr2)
  obtain rfl := List.eq_nil_of_length_eq_zero (Nat.succ.inj e)
  exact h a
set_option tactic.hygienic false in
theorem vec2 {P : List Value → Prop} (h : ∀ a b, P [a, b]) : ∀ vs, vs.length = 2 → P vs := fun vs e => by
  (refine x2_1 (uncons e) fun a r rr2 => ?_; subst rr2)
  exact vec1 (P := fun r => P (a :: r)) (fun b => h a b) r (Nat.succ.inj e)
set_option tactic.hygienic false in
theorem vec3 {P : List Value → Prop} (h : ∀ a b c, P [a, b, c]) : ∀ vs, vs.length = 3 → P vs := fun vs e => by
  (refine x2_1 (uncons e) fun a r rr2 => ?_; subst rr2)
  exact vec2 (P := fun r => P (a :: r)) (fun b c => h a b c) r (Nat.succ.inj e)
set_option tactic.hygienic false in
theorem vec4 {P : List Value → Prop} (h : ∀ a b c d, P [a, b, c, d]) : ∀ vs, vs.length = 4 → P vs := fun vs e => by
  (refine x2_1 (uncons e) fun a r rr2 => ?_; subst rr2)
  exact vec3 (P := fun r => P (a :: r)) (fun b c d => h a b c d) r (Nat.succ.inj e)
set_option tactic.hygienic false in
theorem vec5 {P : List Value → Prop} (h : ∀ a b c d e, P [a, b, c, d, e]) : ∀ vs, vs.length = 5 → P vs := fun vs e => by
  (refine x2_1 (uncons e) fun a r rr2 => ?_; subst rr2)
  exact vec4 (P := fun r => P (a :: r)) (fun b c d e => h a b c d e) r (Nat.succ.inj e)
structure BI (C : Cfg) (d : Nat) (env : Env) (vars : List Str) (Cl : Addr) (b : List Stmt) (f : List (Str × EM)) : Prop where
  run : DenI C d env vars Cl b f
section
variable {C : Cfg} {d : Nat} {env : Env} {vars : List Str} {Cl : Addr}
set_option tactic.hygienic false in
theorem b_inil : BI C d env vars Cl [] [] := ⟨.nil⟩
set_option tactic.hygienic false in
theorem b_icons {name : Str} {e : Expr} {f : EM} {r : List Stmt} {fs : List (Str × EM)} {p0 p1 p2 : Pos} (ht : takerIn C.K Cl name = some none) (D : BE C d env vars e f) (b : BI C d env vars Cl r fs) (hs : plainVal e = true) :
    BI C d env vars Cl (.Assign [.Attribute (.Name "self" p0) name p1] e p2 :: r) ((name, f) :: fs) := ⟨.cons ht D.run (swaps_plain hs _ _ _) b.run⟩
set_option tactic.hygienic false in
theorem b_mkFmt {fI : Addr} {LF : FM} (H : CfgOk C) (HM : makesIn C.K C.VF = true) (hinit : findIn C.K (.ref C.VF) "__init__" = some (some (.ref fI))) (hfn : typeIn C.K (.ref fI) = some (.type "function")) (HSt : StoreOk C C.VF)
    (F : FnIn C fI ["self", "headerlen", "maxlen", "continuation_ws", "splitchars"] 5) (hb : ∀ vs : List Value, vs.length = 5 → bindArgs (fdAt C.K fI) ⟨vs, []⟩ = pure ((["self", "headerlen", "maxlen", "continuation_ws", "splitchars"] : List Str).zip vs))
    (D : ∀ L, EnvB (envAt C fI L) ["self", "headerlen", "maxlen", "continuation_ws", "splitchars"] → BI C d (envAt C fI L) ["self", "headerlen", "maxlen", "continuation_ws", "splitchars"] C.VF (bodyAt C.K fI) (fmtInit LF)) :
    BC C (d + 2) (.ref C.VF) mkFmtF :=
  ⟨den_mkFmt (LF := LF) H HM hinit hfn HSt (F.okD (m := 5) (dxs := []) (dv := []) H (fun uu uu => .nil) (fun s X vs h => .of_eq (by rw [hb vs h]; simp))) fun L => (D L (F.envB (by decide +kernel) L)).run⟩
end
end Mine.Internal
end
section
open PySem PySem.W PyProof.Rows PySem.Calls
namespace Mine.Internal
set_option tactic.hygienic false in
theorem vrs_ints {C : Cfg} {ρ : Rho} {h : Heap} : ∀ {vs : List Value} {ns : List Int}, IntsAre vs ns → VRs C ρ h (ns.map AV.int) vs := by
  intro vs ns q
  induction q with
  | nil => exact .nil
  | cons n t r ih => exact .cons (.int n t) ih
set_option tactic.hygienic false in
theorem well_list {P : Params} {h : Heap} {l : Addr} {ds : List PyData} (w : Well P h (.ref l) (ofPy (.list ds))) : ∃ vs : List Value, h.get? l = some { cls := .type "list", data := .seq vs.toArray } := by
  rw [ofPy] at w
  cases w with
  | list ho _ => exact ⟨_, ho⟩
set_option tactic.hygienic false in
theorem vr_ints {C : Cfg} {P : Params} {h : Heap} {l : Addr} {vs : List Value} {ns : List Int} {ds : List PyData} (w : Well P h (.ref l) (ofPy (.list ds))) (hL : h.IsList l vs.toArray) (hI : IntsAre vs ns) (hm : ¬ C.isTab l) : VR C [] h (.lst (ns.map AV.int)) (.ref l) := by
  (refine x1_1 (well_list w) fun vs' ho => ?_)
  obtain ⟨o, ho', hc, n, hd⟩ := hL
  rw [ho] at ho'
  (refine c1 ho' fun hh0 => ?_; clear ho'; subst hh0)
  injection hd with e1 e2
  have : vs' = vs := by simpa using congrArg Array.toList e1
  subst this
  refine .lst ho ?_ (vrs_ints hI)
  rintro (t | ⟨p, hp, _⟩)
  · exact hm t
  · cases hp
set_option tactic.hygienic false in
theorem run_law {C : Cfg} {d : Nat} {f : Addr} {F : FM} (D : BF C d f F) (R : Rel C [] [] C.s₁) {A : Around} (hA : AOk d A) {l : Addr} {ns : List Int} (q : VR C [] C.s₁.heap (.lst (ns.map AV.int)) (.ref l)) {σ' : St} (e : F [.lst (ns.map AV.int)] [] = some (.bool true, σ'))
    {Q : Value → Shared → Prop} {E : Value → Shared → Prop} (k : ∀ s' ρ', Rel C ρ' σ' s' → Q (.bool true) s') : wpAny (model C.prog C.w) A (call (.ref f) [.ref l]) Q E C.s₁ := by
  refine D.run.call _ _ _ _ e A Q E C.s₁ [] [.ref l] hA R (.cons q .nil) fun v s' ρ' R' S' q' => ?_
  cases q' with
  | bool => exact k s' ρ' R'
set_option tactic.hygienic false in
theorem good_end {c : ClaimW} {cl : Str → Option Addr} {mean : ExcName → Option Value} {args : List WData} {s₁ s' : Shared} (hn : ∀ cls, c.raises args cls = false) (hp : c.post args (.bool true) args = true) (ho : OldK s₁.heap s'.heap) (hos : s'.os = s₁.os) (hg : AllBare s'.gens) :
    GoodWG c cl mean args s₁ (.ok (.ret (.bool true))) s' := ⟨.inl ⟨_, .bool true, [], rfl, hn, .bool _, hp, fun uu => ⟨.nil, fun uu h => nomatch h⟩⟩, ho, hos, hg⟩
end Mine.Internal
end
section
open PySem PySem.W PyProof.Rows PySem.Calls
namespace Mine.Internal
noncomputable def slStrE (f : EM) (lo hi : Option EM) : EM := fun lc σ => (f lc σ).bind fun p => p.1.str?.bind fun x => (optE lo lc p.2).bind fun a => (optE hi lc a.2).bind fun b => gd (decide (x.length ≤ 1000000)) (.str (Txt.slice x a.1 b.1), b.2)
noncomputable def transF : FM := runF ["self"] 1 (seqS [exprS (mE 4 pushF lineE [cE (.str " "), cE (.str "")])])
section
variable {C : Cfg} {ρ ρ' : Rho} {σ σ' : St} {s : Shared} {A : Around} {E : Value → Shared → Prop} {env : Env} {vars : List Str} {lc : Lc} {d : Nat} {p : Pos}
set_option tactic.hygienic false in
theorem strOk_pick {x : Str} (h : PyData.strOk x = true) (ix : List Nat) : PyData.strOk ⟨(ix.filterMap (x.cps[·]?)).toArray⟩ = true := by
  rw [strOk_iff] at *
  intro c hc
  simp only at hc
  (refine x1_2 (List.mem_filterMap.mp hc) fun i uu hi => ?_)
  exact h c (by simpa using Array.mem_of_getElem? hi)
set_option tactic.hygienic false in
theorem strOk_slice {x : Str} (h : PyData.strOk x = true) (a b : Option Int) : PyData.strOk (Txt.slice x a b) = true := by
  unfold Txt.slice
  split
  · exact h
  · exact strOk_pick h _
set_option tactic.hygienic false in
theorem den_slStr {value : Expr} {lo hi : Option Expr} {f : EM} {fl fh : Option EM} {ps : Pos} (D1 : DenE C d env vars value f) (D2 : DenO C d env vars lo fl) (D3 : DenO C d env vars hi fh) :
    DenE C d env vars (.Subscript value (.Slice lo hi none ps) p) (slStrE f fl fh) := by
  intro lc σ y σ' hf A Q E s ρ hA R lr kk
  refine oB hf fun xp e1 hf => oB hf fun x ex hf => oB hf fun ai e2 hf => oB hf fun bi e3 hf => oG hf fun hz e9 => ?_
  have kk := kfe kk e9
  have hz := of_decide_eq_true hz
  refine Subscript_own (D1 _ _ _ _ e1 A _ E s ρ hA R lr fun o s₁ ρ₁ R₁ S₁ q₁ => wpAny_Slice ?_)
  refine opt_rel D2 e2 hA R₁ (lr.go S₁) fun vl s₂ ρ₂ R₂ S₂ pl => opt_rel D3 e3 hA R₂ (lr.go (S₁.trans S₂)) fun vu s₃ ρ₃ R₃ S₃ pu => q₁.str_of ex fun t ok => ?_
  have hl : (Txt.slice x ai.1 bi.1).length ≤ sizeLine := Nat.le_trans (Txt.slice_le x _ _) (by rw [sizeLine_eq]; (first | lia | omega))
  have go : ∀ t' k, Q (.str (Txt.slice x ai.1 bi.1) t') { s₃ with heap := s₃.heap.push { cls := .type "slice", data := .fields #[vl, vu, .none] }, toks := k } := fun t' k => kk _ _ ρ₃ (R₃.push _ (n := k)) (((S₁.trans S₂).trans S₃).trans (.pushObj _)) (.str _ _ (strOk_slice ok _ _))
  rw [evalPart_none]
  refine wpAny_pure ⟨⟨_, (Looks.of_pure (by rfl)).andThen (Looks.of_pure PySem.F.slot_str_getitem.lookup)⟩, ?_⟩
  generalize ai.1 = a at *
  generalize bi.1 = b at *
  cases pl with
  | none =>
    cases pu with
    | none => exact wpAny_getItem_str_slice (l := none) (u := none) (st := none) ⟨_, Heap.get?_push_size _ rfl, rfl, rfl⟩ rfl (post_val_or_str ⟨hl, go⟩)
    | int j uj => exact wpAny_getItem_str_slice (l := none) (u := some (j, uj)) (st := none) ⟨_, Heap.get?_push_size _ rfl, rfl, rfl⟩ rfl (post_val_or_str ⟨hl, go⟩)
  | int i ui =>
    cases pu with
    | none => exact wpAny_getItem_str_slice (l := some (i, ui)) (u := none) (st := none) ⟨_, Heap.get?_push_size _ rfl, rfl, rfl⟩ rfl (post_val_or_str ⟨hl, go⟩)
    | int j uj => exact wpAny_getItem_str_slice (l := some (i, ui)) (u := some (j, uj)) (st := none) ⟨_, Heap.get?_push_size _ rfl, rfl, rfl⟩ rfl (post_val_or_str ⟨hl, go⟩)
set_option tactic.hygienic false in
theorem b_slStr {value : Expr} {lo hi : Option Expr} {f : EM} {fl fh : Option EM} {ps : Pos} (D1 : BE C d env vars value f) (D2 : BO C d env vars lo fl) (D3 : BO C d env vars hi fh) :
    BE C d env vars (.Subscript value (.Slice lo hi none ps) p) (slStrE f fl fh) := ⟨den_slStr D1.run D2.run D3.run⟩
end
end Mine.Internal
end
section
open PySem PySem.W PyProof.Rows PySem.Calls
namespace Mine.Internal
section
variable {M : Model} {A : Around} {Φ : End → Shared → Prop} {c : Code} {fs : List Frame} {s : Shared} {env : Env}
end
end Mine.Internal
end
section
open PySem PySem.W PyProof.Rows PySem.Calls
namespace Mine.Internal
section
variable {prog : Program} {w : World} {A : Around} {Φ : End → Shared → Prop} {fs : List Frame} {s : Shared} {env : Env}
variable {e1 e2 : Expr} {y1 p1 y2 p2 pw tp : Pos} {k : Nat}
end
end Mine.Internal
end
section
open PySem PySem.W PyProof.Rows PySem.Calls
namespace Mine.Internal
end Mine.Internal
end
section
open PySem PySem.W PyProof.Rows PySem.Calls
namespace Mine.Internal
section
variable {C : Cfg} {ρ ρ' : Rho} {σ : St} {s : Shared} {h : Heap} {g : Array GenState} {l n m k : Nat} {p p' : Addr × Addr} {o o' : AO} {st : GenState}
end
end Mine.Internal
end
section
open PySem PySem.W PyProof.Rows PySem.Calls
namespace Mine.Internal
section
variable {C : Cfg} {d : Nat} {ρ : Rho} {σ : St} {s : Shared} {A : Around} {genv : Addr → Env} {ex0 ex1 : Expr} {y1 p1 y2 p2 pw tp : Pos} {kk : Nat} {e0 e1 : EM}
end
end Mine.Internal
end
section
open PySem PySem.W PyProof.Rows PySem.Calls
namespace Mine.Internal
end Mine.Internal
end
section
open PySem PySem.W PyProof.Rows PySem.Calls
namespace Mine.Internal
section
variable {C : Cfg} {ρ ρ' : Rho} {σ σ' : St} {s : Shared} {A : Around} {E : Value → Shared → Prop} {env : Env} {vars : List Str} {lc : Lc} {d : Nat}
end
end Mine.Internal
end
section
open PySem PySem.W PyProof.Rows PySem.Calls
namespace Mine.Internal
noncomputable def nxA (l : Nat) : St → Nat → Option (Option AV) := fun σ i => (accAt σ l).map fun a => (a.2.map partAV)[i]?
section
variable {C : Cfg} {ρ ρ' : Rho} {σ σ' : St} {s : Shared} {A : Around} {E : Value → Shared → Prop} {env : Env} {vars : List Str} {lc : Lc} {d : Nat}
set_option tactic.hygienic false in
theorem acc_seq (R : Rel C ρ σ s) {l i : Nat} {a : Addr} {r : Option AV} (q : VR C ρ s.heap (.loc l) (.ref a)) (h : nxA l σ i = some r) : ∃ xs vs, SeqObj s.heap a (List.toArray vs) ∧ VRs C ρ s.heap xs vs ∧ xs[i]? = r := by
  refine oM h fun ac hl e => ?_
  refine q.loc_e (P := fun v => v = .ref a → _) (fun p ep ea => ?_) rfl
  refine R.acc_at (a := p.1) (d := p.2) ep (accAt_inv hl) fun es n n' vs ho hd he hs => ?_
  rw [Value.ref.inj ea] at ho
  exact ⟨_, vs, ⟨_, _, ho, rfl⟩, hs, e⟩
set_option tactic.hygienic false in
theorem oneAcc {I a : Addr} {l : Nat} (lo : C.s₁.heap.objs.size ≤ I) (ne : env.locals ≠ I) : OneIter C env I (nxA l) (fun i ρ h => h.IsListIter I a i ∧ VR C ρ h (.loc l) (.ref a)) where
  lo := lo
  ne := ne
  kind _ _ _ hI := listIter_kind hI.1
  keep i ρ ρ' h h' hI hm hW S := ⟨hI.1.at fun o e => S.keep _ _ e hm (by simpa using Ne.symm ne), hI.2.step S hW⟩
  item A i σ ρ s x Q E' hh R hI hx k := by
    (refine x2_3 (acc_seq R hI.2 hx) fun xs vs ho hs hxi => ?_)
    (refine x1_2 (hs.get hxi) fun v hv qv => ?_)
    (refine x1_3 (listIter_kind hI.1) fun o hoI hno uu => ?_)
    refine next_item hI.1 ho (x := v) (by simpa using hv) fun h' hit' hs' => ?_
    refine k v h' s.toks qv ⟨hit', ?_⟩ fun b o hb e => (hs'.2 b hb).trans e
    refine hI.2.step (stepWrite hs') ?_
    intro b o' vs' n' hb e
    cases List.mem_singleton.mp hb
    rw [hoI] at e; cases e
    exact hno vs' n'
  done A i σ ρ s Q E' hh R hI hx k := by
    (refine x2_3 (acc_seq R hI.2 hx) fun xs vs ho hs hxi => ?_)
    have hn : vs.toArray[i]? = none := by
      rw [List.getElem?_eq_none_iff] at hxi
      simp
      rw [hs.length]; exact hxi
    refine next_end hh hI.1 ho hn fun h' he => ?_
    exact k h' s.toks fun b o hb e => he b o hb e
end
end Mine.Internal
end
section
open PySem PySem.W PyProof.Rows PySem.Calls
namespace Mine.Internal
end Mine.Internal
end
section
open PySem PySem.W PyProof.Rows PySem.Calls
namespace Mine.Internal
section
variable {C : Cfg} {d : Nat} {env : Env} {vars : List Str}
end
end Mine.Internal
end
section
open PySem PySem.W PyProof.Rows PySem.Calls
namespace Mine.Internal
section
variable {C : Cfg} {f : Addr} {d : Nat}
end
end Mine.Internal
end
section
open PySem PySem.W PyProof.Rows PySem.Calls
namespace Mine.Internal
noncomputable def AO.cell? : AO → Option (Addr × Option AV)
  | .cell c x => some (c, x)
  | .list _ => none
  | .fmt .. => none
  | .acc .. => none
  | .ghost => none
  | .gen .. => none
  | .out _ => none
  | .ext .. => none
noncomputable def celAt (σ : St) (l : Nat) : Option (Addr × Option AV) := σ[l]?.bind AO.cell?
set_option tactic.hygienic false in
theorem celAt_inv {σ : St} {l : Nat} {g : Addr × Option AV} (h : celAt σ l = some g) : σ[l]? = some (.cell g.1 g.2) := oB h fun o e h => by
  cases o with
  | cell m k => exact e.trans (congrArg (fun g : Addr × Option AV => some (AO.cell g.1 g.2)) (Option.some.inj h))
  | _ => exact nomatch h
set_option tactic.hygienic false in
theorem celAt_of {σ : St} {l : Nat} {c : Addr} {x : Option AV} (h : σ[l]? = some (.cell c x)) : celAt σ l = some (c, x) := by unfold celAt; rw [h]; rfl
noncomputable def cellE (c : Addr) (l : Nat) : EM := fun _ σ => (celAt σ l).bind fun a => a.2.bind fun x => gd (a.1 == c) (x, σ)
section
variable {C : Cfg} {d : Nat} {env : Env} {vars : List Str} {p p' : Pos} {n : Str} {c : Addr} {l : Nat}
set_option tactic.hygienic false in
theorem den_cell (He : EnvOk env vars) (hk : env.kindOf n = some .cell) (hc : env.cells.lookup n = some c) (hd : (n == ("__debug__" : Str)) = false) : DenE C d env vars (.Name n p) (cellE c l) := by
  intro lc σ x σ' hf A Q E s ρ hA R lr kk
  refine oB hf fun g hl hf => oB hf fun y ey hf => oG hf fun ec e => ?_
  have hl := celAt_inv hl
  rw [ey, (beq_iff_eq.mp ec : g.1 = c)] at hl
  exact x1_2 (R.obj hl) fun p' e1 ob => x0_2 ob fun uu z => x1_2 z fun v ho q => wpAny_Name (wpAny_loadName_cell He.kind hk hc ho (kfe kk e _ s ρ R .refl q)) hd
end
end Mine.Internal
end
section
open PySem PySem.W PyProof.Rows PySem.Calls
namespace Mine.Internal
section
variable {C : Cfg} {d : Nat} {env : Env} {vars : List Str}
end
end Mine.Internal
end
section
open PySem PySem.W PyProof.Rows PySem.Calls
namespace Mine.Internal
end Mine.Internal
end
section
open PySem PySem.W PyProof.Rows PySem.Calls
namespace Mine.Internal
section
variable {C : Cfg} {d : Nat} {env : Env} {vars : List Str} {p p' p0 p1 : Pos} {n : Str} {c : Addr} {l : Nat}
set_option tactic.hygienic false in
theorem b_cell (He : EnvB env vars) (hk : env.kindOf n = some .cell) (hc : env.cells.lookup n = some c) (hd : (n == ("__debug__" : Str)) = false) : BE C d env vars (.Name n p) (cellE c l) := ⟨den_cell He.ok hk hc hd⟩
section
variable {elt : Expr} {x : Str} {px pos : Pos} {scope : Scope} {es : List Expr} {fs : List EM} {f : EM} {cl : List (Str × Addr)}
end
set_option tactic.hygienic false in
theorem kind_in {scope : Scope} {cenv : Env} {k : Option NameKind} (hc : cenv.scope = relabel scope env) (h : (relabel scope env).names.lookup n = k) : cenv.kindOf n = k := by
  unfold Env.kindOf
  rw [hc]; exact h
set_option tactic.hygienic false in
theorem cell_in {cl : List (Str × Addr)} {cenv : Env} {o : Option Addr} (hc : cenv.cells = cl) (h : cl.lookup n = o) : cenv.cells.lookup n = o := hc ▸ h
end
noncomputable def scopeInC (scope : Scope) (vars cv : List Str) : Bool :=
  !scope.isCoroutine && !scope.isGenerator && (scope.kind == .function) && vars.all (fun x => scope.names.lookup x == some .local) && cv.all (fun x => scope.names.lookup x == some .cell) && decide vars.Nodup
noncomputable abbrev envC (C : Cfg) (f L : Addr) : Env := callEnvC (fdAt C.K f) L f
section
variable {C : Cfg} {d : Nat} {f : Addr} {x : Str} {vars cv : List Str}
end
end Mine.Internal
end
section
open PySem PySem.W PyProof.Rows PySem.Calls
namespace Mine.Internal
noncomputable def putN : List Nat → List AV → Lc → Option Lc
  | [], [], lc => some lc
  | [], _ :: _, _ => none
  | _ :: _, [], _ => none
  | i :: is, x :: xs, lc => (putL lc i x).bind (putN is xs)
inductive Tgs : List Expr → List Str → Prop
  | nil : Tgs [] []
  | cons {n : Str} {p : Pos} {es : List Expr} {ns : List Str} (h : Tgs es ns) : Tgs (.Name n p :: es) (n :: ns)
noncomputable def itemsOf (σ : St) (x : AV) : Option (List AV) := x.tup?.or (asList σ x)
section
variable {C : Cfg} {ρ ρ' : Rho} {σ σ' : St} {s : Shared} {A : Around} {E : Value → Shared → Prop} {env : Env} {vars : List Str} {lc lc' : Lc} {d : Nat}
set_option tactic.hygienic false in
theorem Tgs.len {es : List Expr} {ns : List Str} (T : Tgs es ns) : (assignEach es env).length = ns.length ∧ (assignEach es env).findIdx? (·.1) = none := by
  induction T with
  | nil => exact ⟨rfl, rfl⟩
  | cons h ih =>
    refine ⟨congrArg (· + 1) ih.1, ?_⟩
    show List.findIdx? (·.1) ((false, _) :: assignEach _ env) = none
    rw [List.findIdx?_cons, if_neg Bool.false_ne_true, ih.2]
    rfl
set_option tactic.hygienic false in
theorem store_many (He : EnvOk env vars) {es : List Expr} {ns : List Str} (T : Tgs es ns) : ∀ {is : List Nat} {xs : List AV} {vs : List Value} {lc : Lc} {s : Shared} {Q : Unit → Shared → Prop}, is.map (vars[·]?) = ns.map some → putN is xs lc = some lc' → Rel C ρ σ s → LcR C ρ s.heap env.locals vars lc →
    VRs C ρ s.heap xs vs → (∀ s', Rel C ρ σ s' → Step C [env.locals] ρ ρ s.heap s'.heap → LcR C ρ s'.heap env.locals vars lc' → Q () s') → wpAny (model C.prog C.w) A (assignInOrder ((assignEach es env).map (·.2)) vs) Q E s := by
  induction T with
  | nil =>
    intro is xs vs lc s Q hi hp R lr q k
    cases is with
    | cons => exact nomatch hi
    | nil => cases xs with
      | cons => exact nomatch hp
      | nil => exact wpAny_pure (k s R .refl (Option.some.inj hp ▸ lr))
  | cons h ih =>
    intro is xs vs lc s Q hi hp R lr q k
    cases is with
    | nil => exact nomatch hi
    | cons i is => cases xs with
      | nil => exact nomatch hp
      | cons x xs =>
        refine oB hp fun lc₁ h1 h2 => q.cons_e fun v ws qv qs => ?_
        have hi := List.cons.inj hi
        refine wpAny_bind (wpAny_holding (wpAny_assign_Name (store_name He hi.1 h1 R lr qv fun s₁ R₁ S₁ l₁ => ?_)))
        exact ih hi.2 h2 R₁ l₁ (qs.step S₁ (ns_noSeq lr.1.choose_spec.1)) fun s₂ R₂ S₂ l₂ => k s₂ R₂ (S₁.trans S₂) l₂
set_option tactic.hygienic false in
theorem unpack_many (He : EnvOk env vars) {es : List Expr} {ns : List Str} (T : Tgs es ns) {is : List Nat} {x : AV} {xs : List AV} {v : Value} {k0 : Nat} {pt : Pos} {Q : Unit → Shared → Prop} (hi : is.map (vars[·]?) = ns.map some) (hx : itemsOf σ x = some xs) (hp : putN is xs lc = some lc') (hh : A.handled = none)
    (R : Rel C ρ σ s) (lr : LcR C ρ s.heap env.locals vars lc) (q : VR C ρ s.heap x v) (k : ∀ s', Rel C ρ σ s' → Step C [env.locals] ρ ρ s.heap s'.heap → LcR C ρ s'.heap env.locals vars lc' → Q () s') :
    wpAny (model C.prog C.w) A (assign (.Tuple es k0 pt) env v) Q E s := by
  have len : ∀ {is : List Nat} {xs : List AV} {lc : Lc}, putN is xs lc = some lc' → xs.length = is.length := by
    intro is
    induction is with
    | nil => intro xs lc h; cases xs with
      | nil => rfl
      | cons => exact nomatch h
    | cons i is ih => intro xs lc h; cases xs with
      | nil => exact nomatch h
      | cons x xs => exact oB h fun uu uu h => congrArg (· + 1) (ih h)
  have hn : ns.length = xs.length := by
    have := congrArg List.length hi
    rw [List.length_map, List.length_map] at this
    rw [len hp, this]
  have fin : ∀ (vs : List Value) (h' : Heap), (∀ b o, s.heap.get? b = some o → h'.get? b = some o) → s.heap.objs.size ≤ h'.objs.size → VRs C ρ s.heap xs vs → wpAny (model C.prog C.w) A (assignInOrder ((assignEach es env).map (·.2)) vs) Q E { s with heap := h' } := fun vs h' kp z qs => by
    have S' : Step C [] ρ ρ s.heap h' := .same kp z
    exact store_many He T hi hp (R.same kp z R.gens rfl rfl) (lr.go S') (qs.go S') fun s₁ R₁ S₁ l₁ => k s₁ R₁ (S'.of_nil.trans S₁) l₁
  rw [arm_assign_Tuple]
  refine wpAny_bind (wpAny_standAt ?_)
  unfold unpack
  rw [T.len.1, T.len.2, hn]
  refine oO hx (fun hx => q.tup_of hx fun a vs n ho uu qs => ?_) fun hx => R.asList_e q hx fun a vs n ho qs => ?_
  · rw [← qs.length]
    refine wpAny_bind (wpAny_holding (?_ : wpAny (model C.prog C.w) A (unpackItems (.ref a) vs.toArray.size none) _ E s))
    exact unpack_tuple (items := vs.toArray) hh ⟨_, ho, rfl, _, rfl⟩ fun h' kp z => fin vs h' kp z qs
  · rw [← qs.length]
    refine wpAny_bind (wpAny_holding (?_ : wpAny (model C.prog C.w) A (unpackItems (.ref a) vs.toArray.size none) _ E s))
    exact with_size (kun_itemsOf hh (IsL.isList ho) fun h' he z => fin vs h' (fun b o e => he b o (Nat.ne_of_lt (Heap.lt_size e)) e) z qs)
end
structure Itr (C : Cfg) (nx : St → Nat → Option (Option AV)) (I : Addr) (Inv : Nat → Rho → Heap → Prop) (ρ : Rho) (s : Shared) : Prop where
  fresh : ¬ Mut C ρ I
  lt : I < s.heap.objs.size
  one : ∀ env : Env, env.locals ≠ I → (∀ a o vs n, a ∈ [env.locals] → s.heap.get? a = some o → o.data ≠ .seq vs n) → OneIter C env I nx Inv
  inv : Inv 0 ρ s.heap
  self : ∀ (A : Around) (ρ : Rho) (s : Shared) (P E : Value → Shared → Prop), Inv 0 ρ s.heap → P (.ref I) s → wpAny (model C.prog C.w) A (pyIter (.ref I)) P E s
  go : ∀ (A : Around) (i : Nat) (ρ : Rho) (s : Shared) (es : List Expr) (k0 : Nat) (pt : Pos) (a : Addr) (Q : Unit → Shared → Prop) (E : Value → Shared → Prop), Inv i ρ s.heap → Q () s → wpAny (model C.prog C.w) A (letOwnedTupleGo (.Tuple es k0 pt) (.ref I) (.ref a)) Q E s
noncomputable abbrev SrcM := Lc → St → Option ((St → Nat → Option (Option AV)) × St)
noncomputable def DenSrc (C : Cfg) (d : Nat) (env : Env) (vars : List Str) (iter : Expr) (src : SrcM) : Prop :=
  ∀ lc σ nx σ', src lc σ = some (nx, σ') → ∀ (A : Around) (P E : Value → Shared → Prop) (s : Shared) (ρ : Rho), AOk d A → Rel C ρ σ s → LcR C ρ s.heap env.locals vars lc →
    (∀ s' ρ' I Inv, Itr C nx I Inv ρ' s' → Rel C ρ' σ' s' → Step C [] ρ ρ' s.heap s'.heap → s.heap.objs.size ≤ I → P (.ref I) s') →
    wpAny (model C.prog C.w) A (eval iter env) (fun v s₁ => wpAny (model C.prog C.w) A (pyIter v) P E s₁) E s
noncomputable def srcL (f : EM) : SrcM := fun lc σ => (f lc σ).bind fun p => (asList p.2 p.1).map fun _ => (nxL p.1, p.2)
noncomputable def srcA (f : EM) : SrcM := fun lc σ => (f lc σ).bind fun p => p.1.loc?.bind fun l => (accAt p.2 l).map fun _ => (nxA l, p.2)
noncomputable def srcR (fs : List EM) : SrcM := fun lc σ => (evs fs lc σ).bind fun p => (rangeArgs p.1).bind fun r => gd (okRange r.1 r.2.1 r.2.2) (nxR r.1 r.2.1 r.2.2, p.2)
section
variable {C : Cfg} {ρ ρ' : Rho} {σ σ' : St} {s : Shared} {A : Around} {E : Value → Shared → Prop} {env : Env} {vars : List Str} {lc lc' : Lc} {d : Nat}
set_option tactic.hygienic false in
theorem go_list {I l a : Addr} {i k0 : Nat} {es : List Expr} {pt : Pos} {Q : Unit → Shared → Prop} (h : s.heap.IsListIter I l i) (q : Q () s) : wpAny (model C.prog C.w) A (letOwnedTupleGo (.Tuple es k0 pt) (.ref I) (.ref a)) Q E s := by
  obtain ⟨o, ho, hc, hd⟩ := h
  unfold letOwnedTupleGo
  refine wpAny_bind (wpAny_load ho ?_)
  rw [hc, hd]
  exact wpAny_pure q
set_option tactic.hygienic false in
theorem den_srcL {iter : Expr} {f : EM} (D : DenE C d env vars iter f) : DenSrc C d env vars iter (srcL f) := by
  intro lc σ nx σ' hf A P E s ρ hA R lr k
  refine oB hf fun y e1 hf => oM hf fun xs hxs e => ?_
  obtain rfl : nxL y.1 = nx := congrArg (·.1) e
  obtain rfl : y.2 = σ' := congrArg (·.2) e
  refine D _ _ _ _ e1 A _ E s ρ hA R lr fun v s₁ ρ₁ R₁ S₁ q₁ => ?_
  refine x3_3 (asList_rel R₁ q₁ hxs) fun a vs n ev ho hv => ?_
  rw [ev] at q₁ ⊢
  refine wpAny_pyIter_list (IsL.isList ho) (k _ ρ₁ s₁.heap.objs.size (fun i ρ h => h.IsListIter s₁.heap.objs.size a i ∧ VR C ρ h y.1 (.ref a)) ⟨R₁.fresh, ?_, fun env ne ns => ?_, ⟨⟨_, Heap.get?_push_size _ rfl, rfl, rfl⟩, q₁.go (.pushObj _)⟩, fun A ρ s P E h p => wpAny_pyIter_listiter h.1 p, fun A i ρ s es k0 pt b Q E h q => go_list h.1 q⟩ (R₁.push _ (n := s₁.toks)) (S₁.trans (.pushObj _)) S₁.size)
  · show _ < (s₁.heap.push _).objs.size
    rw [Heap.size_push]; exact Nat.lt_succ_self _
  · refine oneList (a := a) (src := y.1) R₁.size ne (fun z => ?_) (Nat.ne_of_lt (Heap.lt_size ho))
    exact ns a _ _ _ (List.mem_singleton.mpr z) (Heap.get?_push_of_some _ ho) rfl
set_option tactic.hygienic false in
theorem den_srcA (H : CfgOk C) (HC : ClsOk C) (HA : AccOk C) {iter : Expr} {f : EM} (D : DenE C d env vars iter f) : DenSrc C d env vars iter (srcA f) := by
  intro lc σ nx σ' hf A P E s ρ hA R lr k
  refine oB hf fun y e1 hf => oB hf fun l el hf => oM hf fun ac hl e => ?_
  obtain rfl : nxA l = nx := congrArg (·.1) e
  obtain rfl : y.2 = σ' := congrArg (·.2) e
  refine D _ _ _ _ e1 A _ E s ρ hA R lr fun v s₁ ρ₁ R₁ S₁ q₁ => ?_
  have q₁ : VR C ρ₁ s₁.heap (.loc l) v := AV.loc_inv el ▸ q₁
  refine R₁.acc_e (accAt_inv hl) q₁ fun a dd es n1 n2 vs e0 ho hd he hs' => ?_
  have qq : VR C ρ₁ s₁.heap (.loc l) (.ref a) := .loc e0
  refine below_iter (R₁.kin H) (accInst ho hd) HC.acMro HA.iter (k _ ρ₁ s₁.heap.objs.size (fun i ρ h => h.IsListIter s₁.heap.objs.size a i ∧ VR C ρ h (.loc l) (.ref a)) ⟨R₁.fresh, ?_, fun env ne ns => oneAcc R₁.size ne, ⟨⟨_, Heap.get?_push_size _ rfl, rfl, rfl⟩, qq.go (.pushObj _)⟩, fun A ρ s P E h p => wpAny_pyIter_listiter h.1 p, fun A i ρ s es k0 pt b Q E h q => go_list h.1 q⟩ (R₁.push _ (n := s₁.toks)) (S₁.trans (.pushObj _)) S₁.size)
  show _ < (s₁.heap.push _).objs.size
  rw [Heap.size_push]; exact Nat.lt_succ_self _
set_option tactic.hygienic false in
theorem den_srcR (H : CfgOk C) (He : EnvOk env vars) {p0 p1 : Pos} {es : List Expr} {fs : List EM} (hv : GlobVal C "range" (.type "range")) (hk : env.kindOf "range" = some .globalImplicit) (D : DenEs C d env vars es fs) :
    DenSrc C d env vars (.Call (.Name "range" p0) es [] p1) (srcR fs) := by
  intro lc σ nx σ' hf A P E s ρ hA R lr k
  refine oB hf fun y e1 hf => oB hf fun r e2 hf => oG hf fun e3 e => ?_
  rcases y with ⟨xs, σ₁⟩
  rcases r with ⟨a, b, c⟩
  dsimp only at e e2 e3
  obtain rfl : nxR a b c = nx := congrArg (·.1) e
  obtain rfl : σ₁ = σ' := congrArg (·.2) e
  refine x0_3 (okRange_iff e3) fun hsm hc hc0 => ?_
  show wpAny _ _ (do callWith p1 (← eval (.Name "range" p0) env) [] (backTo p1 (starEach es env)) (backToKw p1 (keywordEach [] env))) _ _ _
  refine wpAny_bind (global_rel H He hv hk (by decide) R ?_)
  refine callWith_rel H D e1 keep_type hA R lr fun vs s₁ ρ₁ R₁ S₁ q₁ => ?_
  rw [List.nil_append]
  refine range_rel q₁ e2 hc hc0 fun h₂ tk r t u v hr kp z => ?_
  have R₂ : Rel C ρ₁ σ₁ { s₁ with heap := h₂, toks := tk } := R₁.same kp z R₁.gens rfl rfl
  have S₂ : Step C [] ρ₁ ρ₁ s₁.heap h₂ := .same kp z
  have hI : IsRangeIter (h₂.push { cls := .type "range_iterator", data := .fields #[rawInt a, rawInt (Builtin.Range.rangeSize a b c), rawInt c] }) h₂.objs.size (a + c * ((0 : Nat) : Int)) (Builtin.Range.rangeSize a b c - ((0 : Nat) : Int)) c := by
    have := Heap.get?_push_size h₂ (o := { cls := .type "range_iterator", data := .fields #[rawInt a, rawInt (Builtin.Range.rangeSize a b c), rawInt c] }) rfl
    rw [show a + c * ((0 : Nat) : Int) = a by simp, show Builtin.Range.rangeSize a b c - ((0 : Nat) : Int) = Builtin.Range.rangeSize a b c by simp]
    exact this
  refine wpAny_pyIter_range hr hsm (k _ ρ₁ h₂.objs.size (fun i uu h => IsRangeIter h h₂.objs.size (a + c * i) (Builtin.Range.rangeSize a b c - i) c) ⟨R₂.fresh, ?_, fun env ne ns => oneRange R₂.size ne, hI, fun A ρ s P E h p => wpAny_pyIter_rangeiter h p, fun A i ρ s es k0 pt b Q E h q => ?_⟩ (R₂.push _ (n := tk)) ((S₁.trans S₂).trans (.pushObj _)) (S₁.trans S₂).size)
  · show _ < (h₂.push _).objs.size
    rw [Heap.size_push]; exact Nat.lt_succ_self _
  · unfold letOwnedTupleGo
    refine wpAny_bind (wpAny_load h ?_)
    exact wpAny_pure q
noncomputable def DenTg (C : Cfg) (d : Nat) (env : Env) (vars : List Str) (target : Expr) (tn : (St → Nat → Option (Option AV)) → St → Nat → Option (Option AV)) (st : Lc → AV → Option Lc) : Prop :=
  ∀ nx I Inv ρ s, Itr C nx I Inv ρ s → env.locals ≠ I → (∀ a o vs n, a ∈ [env.locals] → s.heap.get? a = some o → o.data ≠ .seq vs n) → IterOk C d env vars I [I] target (tn nx) st Inv
set_option tactic.hygienic false in
theorem den_tgN (He : EnvOk env vars) {j : Nat} {n : Str} {pn : Pos} (hj : vars[j]? = some n) : DenTg C d env vars (.Name n pn) id (fun lc y => putL lc j y) :=
  fun nx I Inv ρ s T ne ns => (T.one env ne ns).ok He hj
noncomputable def nxU (k : Nat) (nx : St → Nat → Option (Option AV)) : St → Nat → Option (Option AV) := fun σ i => (nx σ i).bind fun o => match o with
  | some x => (itemsOf σ x).bind fun xs => gd (xs.length == k) (some (.tup xs))
  | none => some none
noncomputable def putU (is : List Nat) (lc : Lc) (x : AV) : Option Lc := x.tup?.bind fun xs => putN is xs lc
set_option tactic.hygienic false in
theorem itemsOf_ref {v : Value} {x : AV} {xs : List AV} (R : Rel C ρ σ s) (q : VR C ρ s.heap x v) (h : itemsOf σ x = some xs) : ∃ a, v = .ref a :=
  oO h (fun e => q.tup_of e fun a uu uu uu uu uu => ⟨a, rfl⟩) fun e => R.asList_e q e fun a uu uu uu uu => ⟨a, rfl⟩
set_option tactic.hygienic false in
theorem den_tgU (He : EnvOk env vars) {es : List Expr} {ns : List Str} (T : Tgs es ns) {is : List Nat} (hi : is.map (vars[·]?) = ns.map some) {k0 : Nat} {pt : Pos} : DenTg C d env vars (.Tuple es k0 pt) (nxU is.length) (putU is) :=
  fun nx I Inv ρ₀ s₀ B ne noS => by
  have W := B.one env ne noS
  refine ⟨fun i ρ ρ' h h' hI hm => W.keep i ρ ρ' h h' hI (hm I List.mem_cons_self), fun i ρ h hI J hJ => let ⟨o, ho, _⟩ := W.kind i ρ h hI; ⟨o, by rw [List.mem_singleton.mp hJ]; exact ho⟩, ?_, ?_⟩
  · intro A i lc lc₁ σ ρ s x Q E' hA R lr hI hm hx hst k
    replace hm := hm I List.mem_cons_self
    refine oB hx fun o hx1 hx => ?_
    cases o with
    | none => exact nomatch hx
    | some y =>
      refine oB hx fun ys hy hx => oG hx fun hk e => ?_
      obtain rfl : AV.tup ys = x := Option.some.inj e
      (refine x1_3 (W.kind i ρ s.heap hI) fun o ho hno hcl => ?_)
      refine with_size (W.item A i σ ρ s y _ _ hA.1 R hI hx1 fun v h' tk qv hI' kp z => ?_)
      (refine x0_2 (R.iter (n := tk) ho hno hcl hm W.lo kp z) fun R' S' => ?_)
      have l' := lr.iter S' W.ne ho hno
      have qv' := qv.step S' (one_noSeq ho hno)
      refine ⟨v, rfl, ?_⟩
      refine x1_1 (itemsOf_ref R' qv' hy) fun a ev => ?_
      subst ev
      refine B.go A (i + 1) ρ _ es k0 pt a _ _ hI' ?_
      refine unpack_many He T hi hy hst hA.1 R' l' qv' fun s₂ R₂ S₂ l₂ => ?_
      have I₂ : Inv (i + 1) ρ s₂.heap := W.keep _ _ _ _ _ hI' hm (ns_noSeq l'.1.choose_spec.1) S₂
      exact k s₂ R₂ ((S'.weaken fun a ha => by simp at ha; simp [ha]).trans (S₂.weaken fun a ha => by simp at ha; simp [ha])) l₂ I₂
  · intro A i lc σ ρ s Q E' hA R lr hI hm hx k
    replace hm := hm I List.mem_cons_self
    refine oB hx fun o hx1 hx => ?_
    cases o with
    | some y => exact oB hx fun ys hy hx => oG hx fun uu e => nomatch e
    | none =>
      (refine x1_3 (W.kind i ρ s.heap hI) fun o ho hno hcl => ?_)
      refine with_size (W.done A i σ ρ s _ _ hA.1 R hI hx1 fun h' tk kp z => ?_)
      (refine x0_2 (R.iter (n := tk) ho hno hcl hm W.lo kp z) fun R' S' => ?_)
      exact ⟨rfl, k _ R' (S'.weaken fun a ha => by simp at ha; simp [ha]) (lr.iter S' W.ne ho hno)⟩
noncomputable def forGS (src : SrcM) (tn : (St → Nat → Option (Option AV)) → St → Nat → Option (Option AV)) (st : Lc → AV → Option Lc) (B O : SM) : SM := fun lc σ => (src lc σ).bind fun p => loopS (tn p.1) st B O 1000000 0 lc p.2
set_option tactic.hygienic false in
theorem den_forG {target iter : Expr} {body orelse : List Stmt} {p : Pos} {src : SrcM} {tn : (St → Nat → Option (Option AV)) → St → Nat → Option (Option AV)} {st : Lc → AV → Option Lc} {B O : SM} (DI : DenSrc C d env vars iter src) (DT : DenTg C d env vars target tn st) (DB : DenB C d env vars body B) (DO : DenB C d env vars orelse O)
    (hs : ∀ x, foldedSetIterable iter env x = pure x) : DenS C d env vars (.For target iter body orelse p) (forGS src tn st B O) := by
  intro lc σ fl lc' σ' hf A Q E s ρ hA R lr kk
  refine oB hf fun y e1 hL => ?_
  refine wpAny_For (DI _ _ _ _ e1 A _ E s ρ hA R lr fun s₁ ρ₁ I Inv T R₁ S₁ hI => ?_) hs
  have l₁ := lr.go S₁
  have nL : env.locals < s.heap.objs.size := x1_2 lr.1 fun uu a uu => a.lt
  refine loop_rel (DT _ _ _ _ _ T (fun z => Nat.lt_irrefl _ (Nat.lt_of_lt_of_le (z ▸ nL) hI)) (ns_noSeq l₁.1.choose_spec.1)) DB DO hA hL R₁ l₁ T.inv (one_fresh T.fresh) fun w s' ρ' R' S' l' q' => ?_
  refine kk w s' ρ' R' ?_ l' q'
  have S3 : Step C [env.locals, I] ρ ρ' s.heap s'.heap := S₁.of_nil.trans S'
  exact S3.dropI (one_above hI)
end
end Mine.Internal
end
section
open PySem PySem.W PyProof.Rows PySem.Calls
namespace Mine.Internal
noncomputable def compG (nx : St → Nat → Option (Option AV)) (st : Lc → AV → Option Lc) (t : TM) (f : EM) (g : Nat) : Nat → Nat → Lc → St → Option St
  | 0, _, _, _ => none
  | n + 1, i, lc, σ => (nx σ i).bind fun o => match o with
    | some x => (st lc x).bind fun lc₁ => (t lc₁ σ).bind fun b => match b.1 with
      | true => (f lc₁ b.2).bind fun p => (appendF [.loc g, p.1] p.2).bind fun q => compG nx st t f g n (i + 1) lc₁ q.2
      | false => compG nx st t f g n (i + 1) lc₁ b.2
    | none => some σ
noncomputable def compGE (src : SrcM) (k : Nat) (tn : (St → Nat → Option (Option AV)) → St → Nat → Option (Option AV)) (st : Lc → AV → Option Lc) (t : TM) (f : EM) : EM := fun lc σ => (src lc σ).bind fun p =>
  (compG (tn p.1) st t f p.2.length 1000000 0 (List.replicate k none) (p.2 ++ [.list []])).map (.loc p.2.length, ·)
noncomputable def DenIfs (C : Cfg) (d : Nat) (env : Env) (vars : List Str) (ifs : List Expr) (t : TM) : Prop :=
  ∀ lc σ b σ', t lc σ = some (b, σ') → ∀ (A : Around) (Q : Bool → Shared → Prop) (E : Value → Shared → Prop) (s : Shared) (ρ : Rho), AOk d A → Rel C ρ σ s → LcR C ρ s.heap env.locals vars lc → (∀ s' ρ', Rel C ρ' σ' s' → Step C [] ρ ρ' s.heap s'.heap → Q b s') →
    wpAny (model C.prog C.w) A (forIn ifs true fun c r => if r = true then do let ok ← isTrue c env (eval c env); pure (ForInStep.yield ok) else pure (ForInStep.yield r)) Q E s
noncomputable def trueT : TM := fun _ σ => some (true, σ)
section
variable {C : Cfg} {ρ ρ' : Rho} {σ σ' : St} {s : Shared} {A : Around} {E : Value → Shared → Prop} {env : Env} {vars : List Str} {lc lc' : Lc} {d : Nat}
set_option tactic.hygienic false in
theorem den_ifs0 : DenIfs C d env vars [] trueT := fun lc σ b σ' hf A Q E s ρ hA R lr k => wpAny_tests_nil (kft k (Option.some.inj hf) s ρ R .refl)
set_option tactic.hygienic false in
theorem den_ifs1 {c : Expr} {t : TM} (D : DenT C d env vars c t) : DenIfs C d env vars [c] t := fun lc σ b σ' hf A Q E s ρ hA R lr k => wpAny_tests_one (D _ _ _ _ hf A Q E s ρ hA R lr k)
theorem comp_loop {elt target iter : Expr} {ifs : List Expr} {scope : Scope} {pos : Pos} {it acc : Value} {env : Env} {P : Result → Shared → Prop} (I : Nat → Shared → Prop)
    (turn : ∀ n s, I n s → wpAny (model C.prog C.w) A (pyNext it) (fun r s₁ => match r with
      | none => P (.ok .next) s₁
      | some v => wpAny (model C.prog C.w) A (letOwnedTupleGo target it v) (fun uu s₀ => wpAny (model C.prog C.w) A (assign target env v) (fun uu s₂ =>
          wpAny (model C.prog C.w) A (forIn ifs true fun c r => if r = true then do let ok ← isTrue c env (eval c env); pure (ForInStep.yield ok) else pure (ForInStep.yield r)) (fun ok s₃ => if ok = true then wpAny (model C.prog C.w) A (eval elt env) (fun x s₄ =>
            wpAny (model C.prog C.w) A (call (.builtin "list.append") [acc, x]) (fun uu s₅ => ∃ m, m < n ∧ I m s₅) (notedBy (model C.prog C.w) A env fun e s' => P (.error e) s') s₄) (notedBy (model C.prog C.w) A env fun e s' => P (.error e) s') s₃
            else ∃ m, m < n ∧ I m s₃) (notedBy (model C.prog C.w) A env fun e s' => P (.error e) s') s₂)
          (notedBy (model C.prog C.w) A env fun e s' => P (.error e) s') s₀) (notedBy (model C.prog C.w) A env fun e s' => P (.error e) s') s₁) (notedBy (model C.prog C.w) A env fun e s' => P (.error e) s') s)
    (n : Nat) (h : I n s) : codeAny (model C.prog C.w) A (.compLoop (.ListComp elt [⟨target, iter, ifs, 0⟩] scope pos) 0 it acc env) P s := by
  refine codeAny_loop rfl I (fun n s hI => ?_) n h
  show wpAny _ A ((compTurn (.ListComp elt [⟨target, iter, ifs, 0⟩] scope pos) 0 it acc env).onRaise (fun x => do noteFrame x env; theTreesLotGoes x)) _ _ s
  refine wpAny_noted ?_
  rw [compTurn_list]
  refine wpAny_bind (wpAny_standAt (wpAny_bind (wpAny_mono (turn n s hI) (fun r s₁ h₁ => ?_) fun uu uu h' => h')))
  cases r with
  | none => exact wpAny_pure h₁
  | some v =>
    refine wpAny_bind (wpAny_mono h₁ (fun uu s₀ h₀' => ?_) fun uu uu h' => h')
    refine wpAny_bind (wpAny_mono h₀' (fun uu s₂ h₂ => ?_) fun uu uu h' => h')
    refine wpAny_bind (wpAny_mono h₂ (fun okb s₃ h₃ => ?_) fun uu uu h' => h')
    cases okb with
    | false => exact wpAny_pure ⟨rfl, h₃⟩
    | true => exact wpAny_bind (wpAny_bind (wpAny_mono h₃ (fun x s₄ h₄ => wpAny_bind (wpAny_mono h₄ (fun uu s₅ h₅ => wpAny_pure (wpAny_pure ⟨rfl, h₅⟩)) fun uu uu h' => h')) fun uu uu h' => h'))
structure CompAtG (C : Cfg) (env : Env) (xs : List Str) (I : Addr) (nx : St → Nat → Option (Option AV)) (st : Lc → AV → Option Lc) (t : TM) (f : EM) (g : Nat) (a : Addr) (Inv : Nat → Rho → Heap → Prop) (σ' : St) (ρ : Rho) (h : Heap) (n i : Nat) (lc : Lc) (σ₁ : St) (ρ₁ : Rho) (u : Shared) : Prop where
  run : compG nx st t f g n i lc σ₁ = some σ'
  R : Rel C ρ₁ σ₁ u
  l : LcR C ρ₁ u.heap env.locals xs lc
  inv : Inv i ρ₁ u.heap
  m : ¬ Mut C ρ₁ I
  S : Step C (env.locals :: [I]) ρ ρ₁ h u.heap
  at_ : ρ₁[g]? = some (a, a)
theorem compG_rel {xs : List Str} {I a : Addr} {elt target iter : Expr} {ifs : List Expr} {scope : Scope} {pos : Pos} {nx : St → Nat → Option (Option AV)} {st : Lc → AV → Option Lc} {t : TM} {f : EM} {g : Nat} {Inv : Nat → Rho → Heap → Prop} (IT : IterOk C d env xs I [I] target nx st Inv) (DI : DenIfs C d env xs ifs t)
    (DE : DenE C d env xs elt f) (DA : DenCall C d (.builtin "list.append") appendF) (hA : AOk d A)
    {fuel i : Nat} (hf : compG nx st t f g fuel i lc σ = some σ') (R : Rel C ρ σ s) (lr : LcR C ρ s.heap env.locals xs lc) (hI : Inv i ρ s.heap) (hm : ¬ Mut C ρ I) (hg : ρ[g]? = some (a, a)) {P : Result → Shared → Prop}
    (k : ∀ s' ρ' lc', Rel C ρ' σ' s' → Step C (env.locals :: [I]) ρ ρ' s.heap s'.heap → LcR C ρ' s'.heap env.locals xs lc' → P (.ok .next) s') :
    codeAny (model C.prog C.w) A (.compLoop (.ListComp elt [⟨target, iter, ifs, 0⟩] scope pos) 0 (.ref I) (.ref a) env) P s := by
  refine comp_loop (fun n u => ∃ i lc σ₁ ρ₁, CompAtG C env xs I nx st t f g a Inv σ' ρ s.heap n i lc σ₁ ρ₁ u) ?_ fuel ⟨i, lc, σ, ρ, hf, R, lr, hI, hm, .refl, hg⟩
  rintro n u ⟨i, lc, σ₁, ρ₁, L⟩
  cases n with
  | zero => exact nomatch L.run
  | succ n =>
    refine oB L.run fun o hx hf => ?_
    cases o with
    | some y =>
      refine oB hf fun lc₁ hst hf => oB hf fun b hb hf => ?_
      refine wpAny_mono (IT.next A i lc lc₁ σ₁ ρ₁ u y (fun s₂ => Rel C ρ₁ σ₁ s₂ ∧ Step C (env.locals :: [I]) ρ₁ ρ₁ u.heap s₂.heap ∧ LcR C ρ₁ s₂.heap env.locals xs lc₁ ∧ Inv (i + 1) ρ₁ s₂.heap) _ hA L.R L.l L.inv (one_fresh L.m) hx hst fun s₂ a b c e => ⟨a, b, c, e⟩) (fun r s₁ h₁ => x1_2 h₁ fun v ev h₁ => ?_) fun uu uu z => z
      rw [ev]
      refine wpAny_mono h₁ (fun uu s₁' h₁' => wpAny_mono h₁' (fun uu s₂ h₂ => x0_4 h₂ fun R₂ S₂ l₂ I₂ => ?_) fun uu uu z => z) fun uu uu z => z
      refine DI _ _ _ _ hb A _ _ s₂ ρ₁ hA R₂ l₂ fun s₃ ρ₃ R₃ S₃ => ?_
      have next : ∀ {σ₄ s₄ ρ₄}, compG nx st t f g n (i + 1) lc₁ σ₄ = some σ' → Rel C ρ₄ σ₄ s₄ → Step C [] ρ₁ ρ₄ s₂.heap s₄.heap → ∃ m, m < n + 1 ∧ ∃ i lc σ₁ ρ₁, CompAtG C env xs I nx st t f g a Inv σ' ρ s.heap m i lc σ₁ ρ₁ s₄ := fun hf R₄ S₄ =>
        ⟨n, Nat.lt_succ_self _, i + 1, lc₁, _, _, hf, R₄, l₂.go S₄, IT.keep _ _ _ _ _ I₂ (one_fresh L.m) (ns_noSeq l₂.1.choose_spec.1) S₄.of_nil, Mut.grow S₄ (Heap.lt_size (IT.here _ _ _ I₂ I List.mem_cons_self).choose_spec) L.m, (L.S.trans S₂).trans S₄.of_nil, rho_grow S₄ L.at_⟩
      rcases b with ⟨b, σ₃⟩
      cases b with
      | false => exact next hf R₃ S₃
      | true =>
        refine oB hf fun z hy hf => oB hf fun z' hz hf => ?_
        refine DE _ _ _ _ hy A _ _ s₃ ρ₃ hA R₃ (l₂.go S₃) fun w s₄ ρ₄ R₄ S₄ q₄ => ?_
        have g₄ : ρ₄[g]? = some (a, a) := rho_grow (S₃.trans S₄) L.at_
        exact DA _ _ _ _ hz A _ _ s₄ ρ₄ [.ref a, w] hA R₄ (.cons (.loc (p := (a, a)) g₄) (.cons q₄ .nil)) fun _ s₅ ρ₅ R₅ S₅ _ => next hf R₅ ((S₃.trans S₄).trans S₅)
    | none =>
      rw [Option.some.inj hf] at L hx
      refine wpAny_mono (IT.stop A i lc σ' ρ₁ u (fun s₂ => Rel C ρ₁ σ' s₂ ∧ Step C (env.locals :: [I]) ρ₁ ρ₁ u.heap s₂.heap ∧ LcR C ρ₁ s₂.heap env.locals xs lc) _ hA L.R L.l L.inv (one_fresh L.m) hx fun s₂ a b c => ⟨a, b, c⟩) (fun r s₁ h₁ => x0_4 h₁ fun er R₂ S₂ l₂ => ?_) fun uu uu z => z
      rw [er]
      exact k _ _ _ R₂ (L.S.trans S₂) l₂
noncomputable def compScopeN (scope : Scope) (xs : List Str) : Bool :=
  scope.names.all (fun y => !(y.2 == .cell)) && (scope.kind == .function) && scope.names.all (fun y => !(y.2 == .local) || scope.names.lookup y.1 == some .local) && xs.all (fun x => scope.names.lookup x == some .local && !(x == ("__debug__" : Str))) && decide xs.Nodup
structure CompSc (scope : Scope) (xs : List Str) : Prop where
  cell : ∀ y ∈ scope.names, y.2 ≠ .cell
  kind : scope.kind = .function
  names : ∀ y ∈ scope.names, y.2 = .local → scope.names.lookup y.1 = some .local
  loc : ∀ x ∈ xs, scope.names.lookup x = some .local ∧ (x == ("__debug__" : Str)) = false
  nodup : xs.Nodup
set_option tactic.hygienic false in
theorem compSc_of {scope : Scope} {xs : List Str} (h : compScopeN scope xs = true) : CompSc scope xs := by
  unfold compScopeN at h
  simp only [Bool.and_eq_true, Bool.not_eq_true', List.all_eq_true, beq_iff_eq, Bool.or_eq_true, decide_eq_true_eq] at h
  obtain ⟨⟨⟨⟨h1, h2⟩, h3⟩, h4⟩, h5⟩ := h
  refine ⟨fun y hy e => ?_, h2, fun y hy e => ?_, h4, h5⟩
  · have := h1 y hy; rw [e] at this; cases this
  · rcases h3 y hy with q | q
    · rw [e] at q; cases q
    · exact q
structure CompDen (C : Cfg) (d : Nat) (env : Env) (scope : Scope) (cl : List (Str × Addr)) (xs : List Str) (target : Expr) (ifs : List Expr) (elt : Expr) (tn : (St → Nat → Option (Option AV)) → St → Nat → Option (Option AV)) (st : Lc → AV → Option Lc) (t : TM) (f : EM) : Prop where
  tg : ∀ cenv : Env, cenv.scope = relabel scope env → cenv.cells = cl → EnvOk cenv xs → DenTg C d cenv xs target tn st
  ifs : ∀ cenv : Env, cenv.scope = relabel scope env → cenv.cells = cl → EnvOk cenv xs → DenIfs C d cenv xs ifs t
  elt : ∀ cenv : Env, cenv.scope = relabel scope env → cenv.cells = cl → EnvOk cenv xs → DenE C d cenv xs elt f
theorem compG_core (H : CfgOk C) (HC : ClsOk C) (He : EnvOk env vars) {elt target iter : Expr} {ifs : List Expr} {pos : Pos} {scope : Scope} {xs : List Str} {src : SrcM} {tn : (St → Nat → Option (Option AV)) → St → Nat → Option (Option AV)} {st : Lc → AV → Option Lc} {t : TM} {f : EM} {cl : List (Str × Addr)}
    (hclos : closureFor scope env = pure cl) (hsc : CompSc scope xs) (hs : ∀ v, foldedSetIterable iter env v = pure v)
    (DI : DenSrc C (d + 1) env vars iter src) (DC : CompDen C (d + 1) env scope cl xs target ifs elt tn st t f)
    {σ₁ σ₂ : St} {nx : St → Nat → Option (Option AV)} (e1 : src lc σ = some (nx, σ₁)) (hL : compG (tn nx) st t f σ₁.length 1000000 0 (List.replicate xs.length none) (σ₁ ++ [.list []]) = some σ₂)
    {Q : Value → Shared → Prop} (hA : AOk (d + 1) A) (R : Rel C ρ σ s) (lr : LcR C ρ s.heap env.locals vars lc) (use : Option (Value → Sem Unit))
    (k : ∀ (s' : Shared) (ρ' : Rho) (lc' : Lc) (v : Value) (c : Addr), Rel C ρ' σ₂ s' → Step C [] ρ ρ' s.heap s'.heap → VR C ρ' s'.heap (.loc σ₁.length) v → LcR C ρ' s'.heap c xs lc' → s.heap.objs.size ≤ c → compPost (model C.prog C.w) A E use Q v c (.ok .next) s') :
    wpAny (model C.prog C.w) A (comprehension (.ListComp elt [⟨target, iter, ifs, 0⟩] scope pos) scope env (firstIterPos [⟨target, iter, ifs, 0⟩] pos) (newList []) (firstAsync [⟨target, iter, ifs, 0⟩]) (firstIter [⟨target, iter, ifs, 0⟩] env) use) Q E s := by
  refine wpAny_comprehension_free (use := use) rfl hs hclos hsc.kind hsc.names ?_
  refine DI _ _ _ _ e1 A _ E s ρ hA R lr fun s₁ ρ₁ I Inv T R₁ S₁ hI => ?_
  refine wpAny_newList ?_
  refine wpAny_newFunctionEnv hsc.cell (fun y hy => nomatch hy) (fun h' hns hsb => ?_) hsc.kind
  dsimp only at hns hsb ⊢
  have zz : (s₁.heap.push { cls := .type "list", data := .seq ([] : List Value).toArray }).objs.size = s₁.heap.objs.size + 1 := Heap.size_push ..
  rw [zz] at hns hsb ⊢
  have z₁ : h'.objs.size = s₁.heap.objs.size + 2 := by rw [hsb.1, Heap.size_push, zz]
  have kp' : ∀ b o, (s₁.heap.push { cls := .type "list", data := .seq ([] : List Value).toArray }).get? b = some o → h'.get? b = some o := fun b o e => (hsb.2 b (Nat.ne_of_lt (zz ▸ Heap.lt_size e))).trans (Heap.get?_push_of_some _ e)
  have k₁ : ∀ b o, s₁.heap.get? b = some o → h'.get? b = some o := fun b o e => kp' b o (Heap.get?_push_of_some _ e)
  have hac : h'.get? s₁.heap.objs.size = some { cls := .type "list", data := .seq ([] : List Value).toArray } := kp' _ _ (Heap.get?_push_size _ rfl)
  have hT := T.lt
  have hz : s₁.heap.objs.size ≤ h'.objs.size := z₁ ▸ Nat.le_add_right _ 2
  obtain ⟨R₄, S₄⟩ := R₁.alloc (s' := { s₁ with heap := h', toks := s₁.toks + ([] : List (Str × Value)).length }) k₁ hz R₁.gens rfl rfl (p := (s₁.heap.objs.size, s₁.heap.objs.size)) (o := .list []) (Nat.le_refl _) (Nat.le_refl _) (.list (vs := []) hac .nil) rfl
  have hg : (ρ₁ ++ [(s₁.heap.objs.size, s₁.heap.objs.size)])[σ₁.length]? = some (s₁.heap.objs.size, s₁.heap.objs.size) := by
    rw [← R₁.len, List.getElem?_append_right (Nat.le_refl _), Nat.sub_self]; rfl
  have nM : ¬ Mut C (ρ₁ ++ [(s₁.heap.objs.size, s₁.heap.objs.size)]) (s₁.heap.objs.size + 1) := mutSnoc (R₁.freshGe (Nat.le_succ _)) (Nat.succ_ne_self _) (Nat.succ_ne_self _)
  have nI : ¬ Mut C (ρ₁ ++ [(s₁.heap.objs.size, s₁.heap.objs.size)]) I := mutSnoc T.fresh (Nat.ne_of_lt hT) (Nat.ne_of_lt hT)
  have He' : EnvOk { newEnv scope (s₁.heap.objs.size + 1) env.globals cl env.qual none .none (some env) builtinsNs with scope := relabel scope env } xs :=
    ⟨hsc.kind, fun y hy => lookup_relabel_local (hsc.loc y hy).1, hsc.nodup, He.glob, He.blt⟩
  have l₄ : LcR C (ρ₁ ++ [(s₁.heap.objs.size, s₁.heap.objs.size)]) h' (s₁.heap.objs.size + 1) xs (List.replicate xs.length none) :=
    ⟨⟨_, hns, fun i y e => by rw [List.getElem?_replicate] at e; exact sf e fun uu e => nomatch e⟩, nM, Nat.le_trans R₁.size (Nat.le_succ _), List.length_replicate ..⟩
  have ne : s₁.heap.objs.size + 1 ≠ I := Nat.ne_of_gt (Nat.lt_succ_of_lt hT)
  have noS : ∀ a o vs n, a ∈ [s₁.heap.objs.size + 1] → s₁.heap.get? a = some o → o.data ≠ .seq vs n := fun a o vs n ha e => by
    cases List.mem_singleton.mp ha
    exact absurd (Heap.lt_size e) (Nat.not_lt.mpr (Nat.le_succ _))
  have IT := DC.tg _ rfl rfl He' nx I Inv ρ₁ s₁ T ne noS
  have hInv : Inv 0 (ρ₁ ++ [(s₁.heap.objs.size, s₁.heap.objs.size)]) h' := IT.keep 0 ρ₁ _ s₁.heap h' T.inv (one_fresh T.fresh) noS S₄.of_nil
  have go : codeAny (model C.prog C.w) A (.compLoop (.ListComp elt [⟨target, iter, ifs, 0⟩] scope pos) 0 (.ref I) (.ref s₁.heap.objs.size) { newEnv scope (s₁.heap.objs.size + 1) env.globals cl env.qual none .none (some env) builtinsNs with scope := relabel scope env })
      (compPost (model C.prog C.w) A E use Q (.ref s₁.heap.objs.size) (s₁.heap.objs.size + 1))
      { s₁ with heap := h', toks := s₁.toks + ([] : List (Str × Value)).length } := by
    refine compG_rel IT (DC.ifs _ rfl rfl He') (DC.elt _ rfl rfl He') (den_append H HC) hA hL R₄ l₄ hInv nI hg fun s' ρ' lc' R' S' l' => ?_
    have S3 : Step C [] ρ ρ' s.heap s'.heap := ((S₁.trans S₄).of_nil.trans S').above fun b hb => by
      rcases List.mem_cons.mp hb with rfl | hb
      · exact Nat.le_succ_of_le S₁.size
      · cases List.mem_singleton.mp hb; exact hI
    refine k s' ρ' lc' _ _ R' S3 (.loc (p := (s₁.heap.objs.size, s₁.heap.objs.size)) (rho_grow S' hg)) l' (Nat.le_succ_of_le S₁.size)
  exact codeAny_compStart_list go (T.self A _ _ _ _ hInv go)
section
variable {elt target iter : Expr} {ifs : List Expr} {pos : Pos} {scope : Scope} {xs : List Str} {src : SrcM} {tn : (St → Nat → Option (Option AV)) → St → Nat → Option (Option AV)} {st : Lc → AV → Option Lc} {t : TM} {f : EM} {cl : List (Str × Addr)}
set_option tactic.hygienic false in
theorem den_compG (H : CfgOk C) (HC : ClsOk C) (He : EnvOk env vars) (hclos : closureFor scope env = pure cl) (hsc : CompSc scope xs) (hs : ∀ v, foldedSetIterable iter env v = pure v)
    (DI : DenSrc C (d + 1) env vars iter src) (DC : CompDen C (d + 1) env scope cl xs target ifs elt tn st t f) : DenE C (d + 1) env vars (.ListComp elt [⟨target, iter, ifs, 0⟩] scope pos) (compGE src xs.length tn st t f) := by
  intro lc σ y σ' hf A Q E s ρ hA R lr kk
  refine oB hf fun p e1 hf => oM hf fun σ₂ hL e9 => ?_
  rw [eval_ListComp]
  refine compG_core H HC He hclos hsc hs DI DC e1 hL hA R lr none fun s' ρ' lc' v c R' S' q' l' hc => ?_
  obtain ⟨⟨m, hn, hv⟩, hm, hlo, _⟩ := l'
  refine ⟨m, hn, fun h'' hs'' => kfe kk e9 v _ ρ' (R'.write hn hm hlo hs'') ((S'.of_nil.trans (stepWrite hs'')).above fun b hb => ?_) ?_⟩
  · cases List.mem_singleton.mp hb; exact hc
  · exact q'.step (stepWrite hs'') (ns_noSeq hn)
theorem den_asgG (H : CfgOk C) (HC : ClsOk C) (He : EnvOk env vars) {i : Nat} {n : Str} {pn ps : Pos} (hi : vars[i]? = some n) (hsw : swapsWith (.ListComp elt [⟨target, iter, ifs, 0⟩] scope pos) (some (.Name n pn)) ps.line env = pure true)
    (hclos : closureFor scope env = pure cl) (hsc : CompSc scope xs) (hs : ∀ v, foldedSetIterable iter env v = pure v)
    (DI : DenSrc C (d + 1) env vars iter src) (DC : CompDen C (d + 1) env scope cl xs target ifs elt tn st t f) :
    DenS C (d + 1) env vars (.Assign [.Name n pn] (.ListComp elt [⟨target, iter, ifs, 0⟩] scope pos) ps) (asgS i (compGE src xs.length tn st t f)) := by
  intro lc σ fl lc' σ' hf A Q E s ρ hA R lr kk
  refine oB hf fun tt hf e2 => oM e2 fun lc'' hp e2 => ?_
  refine oB hf fun p e1 hf => oM hf fun σ₂ hL e9 => ?_
  rw [exec_Assign_Name_used _ _ _ _ hsw]
  refine wpAny_bind (wpAny_standAt (wpAny_bind ?_))
  show wpAny _ A (do let _ ← comprehension _ scope env _ (newList []) _ (firstIter _ env) (some (assign (.Name n pn) env))) _ _ s
  refine wpAny_bind (wpAny_mono (compG_core (Q := fun uu s' => Q .next s') H HC He hclos hsc hs DI DC e1 hL hA R lr (some (assign (.Name n pn) env)) fun s' ρ' lc₂ v c R' S' q' l' hc => ?_) (fun uu s' hq => wpAny_pure (wpAny_pure hq)) fun uu uu e => e)
  obtain ⟨⟨m, hn, hv⟩, hm, hlo, _⟩ := l'
  show wpAny _ A (assign (.Name n pn) env v) _ _ _
  cases e9
  refine wpAny_assign_Name (store_name He hi hp R' (lr.go S') q' fun s₂ R₂ S₂ l₂ => ?_)
  have hlt : env.locals < s.heap.objs.size := x1_2 lr.1 fun uu a uu => a.lt
  have hne : c ≠ env.locals := fun e => Nat.lt_irrefl _ (Nat.lt_of_le_of_lt (e ▸ hc) hlt)
  have hn₂ : s₂.heap.Ns c m := hn.at fun o e => S₂.keep _ _ e hm (by rw [List.mem_singleton]; exact hne)
  have T := S'.of_nil.trans S₂
  refine ⟨m, hn₂, fun h'' hs'' => ?_⟩
  refine kfs kk e2 _ _ ρ' (R₂.write hn₂ hm hlo hs'') ⟨hs''.1 ▸ T.size, fun b o e nm hb => (hs''.2 b (fun q => Nat.lt_irrefl _ (Nat.lt_of_lt_of_le (Heap.lt_size e) (q ▸ hc)))).trans (T.keep b o e nm hb), T.grow⟩ (l₂.iters (stepWrite hs'') (by rw [List.mem_singleton]; exact hne.symm) (ns_noSeq hn₂)) .next
end
end
end Mine.Internal
end
section
open PySem PySem.W PyProof.Rows PySem.Calls
namespace Mine.Internal
section
variable {C : Cfg} {ρ δ : Rho} {σ τ : St} {s : Shared} {h : Heap}
set_option tactic.hygienic false in
theorem Rel.allocs (R : Rel C ρ σ s) (kp : ∀ b o, s.heap.get? b = some o → h.get? b = some o) (z : s.heap.objs.size ≤ h.objs.size) {tk : Nat} (hl : δ.length = τ.length) (lo : ∀ p ∈ δ, s.heap.objs.size ≤ p.1 ∧ s.heap.objs.size ≤ p.2)
    (dis : δ.Pairwise fun p q => p.1 ≠ q.1 ∧ p.1 ≠ q.2 ∧ p.2 ≠ q.1 ∧ p.2 ≠ q.2) (ng : ∀ o ∈ τ, o.isGen = false) (S : Step C [] ρ (ρ ++ δ) s.heap h) (ho : ∀ (j : Nat) p o, δ[j]? = some p → τ[j]? = some o → ObjR C (ρ ++ δ) h p o) :
    Rel C (ρ ++ δ) (σ ++ τ) { s with heap := h, toks := tk } := by
  have g : ∀ (l : Nat) (o : AO), (σ ++ τ)[l]? = some o → o.isGen = true → l < ρ.length ∧ σ[l]? = some o := by
    intro l o e hg
    by_cases hh : l < σ.length
    · rw [List.getElem?_append_left hh] at e; exact ⟨R.len ▸ hh, e⟩
    · rw [List.getElem?_append_right (Nat.not_lt.mp hh)] at e
      rw [ng _ (List.mem_of_getElem? e)] at hg; cases hg
  have r : ∀ {l : Nat} {q : Addr × Addr}, l < ρ.length → (ρ ++ δ)[l]? = some q → ρ[l]? = some q := fun hh e => by rw [List.getElem?_append_left hh] at e; exact e
  have G := R.gens.heap fun uu uu uu uu uu uu o e => kp _ o e
  refine ⟨fun b o e n => kp b o (R.old b o e n), fun t ht => let ⟨m, a, b⟩ := R.tab t ht; ⟨m, a.keeps kp, b.keeps kp⟩, fun q hq => ?_, ?_, by rw [List.length_append, List.length_append, R.len, hl], fun l q o e e' => ?_, ?_, R.drawn, R.os, Nat.le_trans R.size z⟩
  · rcases List.mem_append.mp hq with hq | hq
    · exact R.lo q hq
    · exact ⟨Nat.le_trans R.size (lo q hq).1, Nat.le_trans R.size (lo q hq).2⟩
  · refine List.pairwise_append.mpr ⟨R.dis, dis, fun a ha b hb => ?_⟩
    have h1 := R.rhoLt ha
    have h2 := lo b hb
    exact ⟨Nat.ne_of_lt (Nat.lt_of_lt_of_le h1.1 h2.1), Nat.ne_of_lt (Nat.lt_of_lt_of_le h1.1 h2.2), Nat.ne_of_lt (Nat.lt_of_lt_of_le h1.2 h2.1), Nat.ne_of_lt (Nat.lt_of_lt_of_le h1.2 h2.2)⟩
  · by_cases hh : l < ρ.length
    · rw [List.getElem?_append_left hh] at e
      rw [List.getElem?_append_left (R.len ▸ hh)] at e'
      exact (R.st l q o e e').grow kp S
    · rw [List.getElem?_append_right (Nat.not_lt.mp hh)] at e
      rw [List.getElem?_append_right (R.len ▸ Nat.not_lt.mp hh), ← R.len] at e'
      exact ho _ _ _ e e'
  · refine ⟨G.bare, fun l p m k e e' => ?_, fun l p n e e' => ?_, fun l l' p p' o o' n nm qn nm' qn' e1 e2 e3 g3 e4 g4 => ?_⟩
    · exact x0_2 (g _ _ e' rfl) fun a b => G.live l p m k (r a e) b
    · exact x0_2 (g _ _ e' rfl) fun a b => G.outs l p n (r a e) b
    · exact x0_2 (g _ _ e3 g3) fun a1 b1 => x0_2 (g _ _ e4 g4) fun a2 b2 => G.apart l l' p p' o o' n nm qn nm' qn' (r a1 e1) (r a2 e2) b1 g3 b2 g4
set_option tactic.hygienic false in
theorem Rel.seal1 (R : Rel C ρ σ s) {l : Nat} {c : Addr × Option AV} (hc : celAt σ l = some c) : Rel C ρ (σ.set l (.ext 0 [])) s := by
  have e0 := celAt_inv hc
  refine ⟨R.old, R.tab, R.lo, R.dis, by rw [List.length_set]; exact R.len, fun l' p o e e' => ?_, R.gens.set rfl, R.drawn, R.os, R.size⟩
  by_cases hl : l = l'
  · subst hl
    rw [List.getElem?_set, if_pos rfl] at e'
    refine sf e' fun uu e' => ?_
    obtain rfl := Option.some.inj e'
    refine x0_2 (R.st l p _ e e0) fun ep z => ?_
    have go : ∀ {v}, s.heap.IsCell c.1 v → ObjR C ρ s.heap p (.ext 0 []) := fun ⟨o, ho, hd⟩ => by
      have nf : NoF o := .inl fun vs z => Data.noConfusion (hd.symm.trans z)
      rw [ep]
      exact ⟨o, o, [], ho, ho, nf, nf, .nil, .inl rfl⟩
    rcases c with ⟨c, _ | y⟩
    · exact go z
    · exact x1_2 z fun v ho uu => go ho
  · rw [List.getElem?_set_ne hl] at e'
    exact R.st l' p o e e'
end
noncomputable def sealN : Nat → Nat → St → Option St
  | 0, _, σ => some σ
  | n + 1, k, σ => (celAt σ k).bind fun _ => sealN n (k + 1) (σ.set k (.ext 0 []))
set_option tactic.hygienic false in
theorem Rel.sealN {C : Cfg} {ρ : Rho} {s : Shared} : ∀ {n k : Nat} {σ τ : St}, Rel C ρ σ s → Mine.Internal.sealN n k σ = some τ → Rel C ρ τ s
  | 0, _, _, _, R, h => Option.some.inj h ▸ R
  | n + 1, k, σ, τ, R, h => oB h fun uu hc h => Rel.sealN (R.seal1 hc) h
noncomputable def cellsA (L : Nat) : Nat → List (Option AV) → St
  | _, [] => []
  | j, x :: r => .cell (L + 1 + j) x :: cellsA L (j + 1) r
set_option tactic.hygienic false in
theorem cellsA_get {L : Nat} : ∀ {cs : List (Option AV)} {j i : Nat}, (cellsA L j cs)[i]? = (cs[i]?).map fun x => AO.cell (L + 1 + (j + i)) x
  | [], _, _ => rfl
  | x :: r, j, 0 => rfl
  | x :: r, j, i + 1 => by
    show (cellsA L (j + 1) r)[i]? = (r[i]?).map _
    rw [cellsA_get, show j + 1 + i = j + (i + 1) by (first | lia | omega)]
set_option tactic.hygienic false in
theorem cellsA_len {L : Nat} : ∀ {cs : List (Option AV)} {j : Nat}, (cellsA L j cs).length = cs.length
  | [], _ => rfl
  | x :: r, j => congrArg (· + 1) cellsA_len
noncomputable def pickA (F : Nat → Option (AV × St)) : Option (AV × St) := @ite _ (∀ L, F L = F 0) (Classical.propDecidable _) (F 0) none
set_option tactic.hygienic false in
theorem pickA_some {F : Nat → Option (AV × St)} {r : AV × St} (h : pickA F = some r) (L : Nat) : F L = some r := by
  unfold pickA at h
  by_cases hp : ∀ L, F L = F 0
  · rw [if_pos hp] at h; rw [hp L, h]
  · rw [if_neg hp] at h; cases h
set_option tactic.hygienic false in
theorem pickA_of {F : Nat → Option (AV × St)} {r : AV × St} (h : ∀ L, F L = some r) : pickA F = some r := by
  unfold pickA
  rw [if_pos fun L => (h L).trans (h 0).symm]
  exact h 0
noncomputable def fromA (xs : List AV) (ps : List (Option Nat)) : List (Option AV) := ps.map fun o => o.bind (xs[·]?)
noncomputable def runC (n : Nat) (pl pc : List (Option Nat)) (B : Nat → Nat → SM) : FM := fun xs σ => if xs.length = n then pickA fun L => ((B L σ.length (fromA xs pl) (σ ++ cellsA L 0 (fromA xs pc))).bind endF).bind fun p => (sealN pc.length σ.length p.2).map (p.1, ·) else none
structure FnCP (C : Cfg) (f : Addr) (ps vars cv : List Str) (pl pc : List (Option Nat)) : Prop where
  fn : isFnAt C.K f = true
  glob : (fdAt C.K f).globals = mainGlobals
  blt : (fdAt C.K f).builtins = builtinsNs
  code : codeIn C.K (fdAt C.K f).code (fdAt C.K f).qualname = true
  clo : (fdAt C.K f).closure = []
  scope : scopeInC (fdAt C.K f).scope vars cv = true
  cells : ∀ L j, j < cv.length → ∃ y, cv[j]? = some y ∧ (cellsFrom (L + 1) (fdAt C.K f).scope.names []).lookup y = some (L + 1 + j)
  bind : ∀ vs : List Value, vs.length = ps.length → bindArgs (fdAt C.K f) ⟨vs, []⟩ = pure (ps.zip vs)
  nodup : ps.Nodup
  ploc : pl.length = vars.length ∧ ∀ i < pl.length, ∀ k, pl[i]? = some (some k) → ∃ y, ps[k]? = some y ∧ vars[i]? = some y
  pcel : pc.length = cv.length ∧ ∀ j < pc.length, ∀ o, pc[j]? = some o → match o with
    | some k => ∃ y, ps[k]? = some y ∧ cv[j]? = some y
    | none => ∀ y, cv[j]? = some y → y ∉ ps
  par : ps.all (fun y => vars.contains y || cv.contains y) = true
set_option tactic.hygienic false in
theorem bindL_get {kindOf : Str → Option NameKind} : ∀ {ps : List Str} {vs : List Value} {k : Nat} {y : Str} {v : Value} {m : Str → Option Value}, ps.Nodup → ps[k]? = some y → vs[k]? = some v → kindOf y = some .local → bindL kindOf (ps.zip vs) m y = some v := by
  have keep : ∀ {ps : List Str} {vs : List Value} {y : Str} {m : Str → Option Value}, y ∉ ps → bindL kindOf (ps.zip vs) m y = m y := by
    intro ps
    induction ps with
    | nil => intros; rfl
    | cons p ps ih =>
      intro vs y m hn
      cases vs with
      | nil => rfl
      | cons w ws =>
        show bindL kindOf (ps.zip ws) _ y = _
        rw [ih fun h => hn (List.mem_cons_of_mem _ h)]
        split
        · exact if_neg fun (e : y = p) => hn (by rw [e]; exact List.mem_cons_self)
        · rfl
  intro ps
  induction ps with
  | nil => intro vs k y v m _ h; simp at h
  | cons p ps ih =>
    intro vs k y v m nd hp hv hk
    cases vs with
    | nil => simp at hv
    | cons w ws =>
      have nd := List.nodup_cons.mp nd
      cases k with
      | zero =>
        obtain rfl := Option.some.inj hp
        obtain rfl := Option.some.inj hv
        show bindL kindOf (ps.zip ws) _ p = _
        rw [keep nd.1, if_pos hk]
        exact if_pos rfl
      | succ k => exact ih nd.2 hp hv hk
set_option tactic.hygienic false in
theorem bindC_keep {kindOf : Str → Option NameKind} : ∀ {ps : List Str} {vs : List Value} {y : Str} {m : Str → Option Value}, y ∉ ps → bindC kindOf (ps.zip vs) m y = m y := by
  intro ps
  induction ps with
  | nil => intros; rfl
  | cons p ps ih =>
    intro vs y m hn
    cases vs with
    | nil => rfl
    | cons w ws =>
      show bindC kindOf (ps.zip ws) _ y = _
      rw [ih fun h => hn (List.mem_cons_of_mem _ h)]
      split
      · rfl
      · exact if_neg fun (e : y = p) => hn (by rw [e]; exact List.mem_cons_self)
set_option tactic.hygienic false in
theorem bindC_get {kindOf : Str → Option NameKind} : ∀ {ps : List Str} {vs : List Value} {k : Nat} {y : Str} {v : Value} {m : Str → Option Value}, ps.Nodup → ps[k]? = some y → vs[k]? = some v → kindOf y ≠ some .local → bindC kindOf (ps.zip vs) m y = some v := by
  intro ps
  induction ps with
  | nil => intro vs k y v m _ h; simp at h
  | cons p ps ih =>
    intro vs k y v m nd hp hv hk
    cases vs with
    | nil => simp at hv
    | cons w ws =>
      have nd := List.nodup_cons.mp nd
      cases k with
      | zero =>
        obtain rfl := Option.some.inj hp
        obtain rfl := Option.some.inj hv
        show bindC kindOf (ps.zip ws) _ p = _
        rw [bindC_keep nd.1, if_neg hk]
        exact if_pos rfl
      | succ k => exact ih nd.2 hp hv hk
section
variable {C : Cfg} {d : Nat} {f : Addr} {ps vars cv : List Str} {pl pc : List (Option Nat)}
structure ScC (C : Cfg) (f : Addr) (vars cv : List Str) : Prop where
  coro : (fdAt C.K f).scope.isCoroutine = false
  gen : (fdAt C.K f).scope.isGenerator = false
  kind : (fdAt C.K f).scope.kind = .function
  loc : ∀ y ∈ vars, (fdAt C.K f).scope.names.lookup y = some .local
  cel : ∀ y ∈ cv, (fdAt C.K f).scope.names.lookup y = some .cell
  nodup : vars.Nodup
set_option tactic.hygienic false in
theorem FnCP.sc (F : FnCP C f ps vars cv pl pc) : ScC C f vars cv := by
  have h := F.scope
  unfold scopeInC at h
  simp only [Bool.and_eq_true, Bool.not_eq_true', List.all_eq_true, beq_iff_eq, decide_eq_true_eq] at h
  obtain ⟨⟨⟨⟨⟨h1, h2⟩, h3⟩, h4⟩, h5⟩, h6⟩ := h
  exact ⟨h1, h2, h3, h4, h5, h6⟩
set_option tactic.hygienic false in
theorem FnCP.envB (F : FnCP C f ps vars cv pl pc) (nd : vars.all (fun y => !(y == ("__debug__" : Str))) = true) (L : Addr) : EnvB (envC C f L) vars := by
  have S := F.sc
  refine ⟨⟨S.kind, S.loc, S.nodup, F.glob, F.blt⟩, fun y hy => ?_, ?_⟩
  · have := List.all_eq_true.mp nd y hy
    simpa using this
  · show ((fdAt C.K f).scope.kind == .module && _) = false
    rw [S.kind]; rfl
set_option tactic.hygienic false in
theorem fromA_get {xs : List AV} {ps : List (Option Nat)} {i : Nat} {x : AV} (h : (fromA xs ps)[i]? = some (some x)) : ∃ k, ps[i]? = some (some k) ∧ xs[k]? = some x := by
  unfold fromA at h
  rw [List.getElem?_map] at h
  refine oM h fun o e1 h => oB h fun k e2 h => ⟨k, e1.trans (congrArg some e2), h⟩
set_option tactic.hygienic false in
theorem b_fnCP (H : CfgOk C) (F : FnCP C f ps vars cv pl pc) (nd : vars.all (fun y => !(y == ("__debug__" : Str))) = true) {B : Addr → Nat → SM} (D : ∀ L g, EnvB (envC C f L) vars → BB C d (envC C f L) vars (bodyAt C.K f) (B L g)) : BF C (d + 1) f (runC ps.length pl pc B) := by
  refine ⟨fun xs σ x σ' hf A P s ρ vs hA R q k => ?_⟩
  refine sf hf fun hn hf => ?_
  refine oB (pickA_some hf s.heap.objs.size) fun t e1 e2 => oM e2 fun τ hs e3 => oB e1 fun t' e1 e4 => ?_
  have S := F.sc
  have hvn : vs.length = ps.length := q.length.trans hn
  refine x1_3 (isFnAt_of F.fn) fun o e0 hd hbd => ?_
  have old : ∀ b o, C.K.lookup b = some o → s.heap.get? b = some o := fun b o e => R.kin H _ _ e
  have lk : ∀ y ∈ ps, (fdAt C.K f).scope.names.lookup y = some .local ∨ (fdAt C.K f).scope.names.lookup y = some .cell := fun y hy => by
    have := List.all_eq_true.mp F.par y hy
    rw [Bool.or_eq_true] at this
    exact this.elim (fun h => .inl (S.loc y (List.contains_iff_mem.mp h))) fun h => .inr (S.cel y (List.contains_iff_mem.mp h))
  refine codeAny_call_cells (Nat.lt_of_le_of_lt (Nat.le_add_right ..) hA.2.1) (old _ _ e0) hd (x1_2 H.lim fun mc a b => ⟨mc, a.at fun o e => R.old _ _ e H.stat, b⟩) (codeIn_of (R.kin H) F.code).1 hbd (F.bind vs hvn) F.clo (fun y hy => ?_) (fun s₁ X => ?_) S.coro S.gen S.kind
  · have hy' := (List.of_mem_zip hy).1
    refine (lk _ hy').imp id fun hc => ⟨hc, ?_⟩
    have := List.all_eq_true.mp F.par _ hy'
    rw [Bool.or_eq_true] at this
    rcases this with h | h
    · rw [S.loc _ (List.contains_iff_mem.mp h)] at hc; cases hc
    · obtain ⟨j, hj, ej⟩ := List.mem_iff_getElem.mp (List.contains_iff_mem.mp h)
      refine x1_2 (F.cells s.heap.objs.size j hj) fun y e5 e6 => ?_
      rw [List.getElem?_eq_getElem hj, ej] at e5
      rw [Option.some.inj e5, e6]; rfl
  · obtain ⟨⟨⟨h, tk, rfl⟩, hns, kp, _⟩, hcell, hap, hab⟩ := X
    have z : s.heap.objs.size ≤ h.objs.size := Nat.le_of_lt hns.lt
    have lt : ∀ {k : Nat} {y : Str}, ps[k]? = some y → ∃ v, vs[k]? = some v := fun e => ⟨_, List.getElem?_eq_getElem (hvn ▸ (List.getElem?_eq_some_iff.mp e).1)⟩
    let δ : Rho := (List.range (fromA xs pc).length).map fun j => (s.heap.objs.size + 1 + j, s.heap.objs.size + 1 + j)
    have hδ : ∀ {j : Nat} {p : Addr × Addr}, δ[j]? = some p → j < pc.length ∧ p = (s.heap.objs.size + 1 + j, s.heap.objs.size + 1 + j) := fun {j p} e => by
      rw [List.getElem?_map] at e
      refine oM e fun i e1 e => ?_
      obtain ⟨h1, h2⟩ := List.getElem?_eq_some_iff.mp e1
      rw [List.length_range, fromA, List.length_map] at h1
      rw [List.getElem_range] at h2
      exact ⟨h1, h2 ▸ e.symm⟩
    have hmem : ∀ p ∈ δ, s.heap.objs.size < p.1 ∧ s.heap.objs.size < p.2 := fun p hp => by
      obtain ⟨j, hj, rfl⟩ := List.mem_iff_getElem.mp hp
      obtain ⟨_, e⟩ := hδ (List.getElem?_eq_getElem hj)
      rw [e]
      exact ⟨by dsimp only; (first | lia | omega), by dsimp only; (first | lia | omega)⟩
    have S₁ : Step C [] ρ (ρ ++ δ) s.heap h := ⟨z, fun b o e uu uu => kp b o e, δ, rfl, fun p hp => ⟨Nat.le_of_lt (hmem p hp).1, Nat.le_of_lt (hmem p hp).2⟩⟩
    have R₁ : Rel C (ρ ++ δ) (σ ++ cellsA s.heap.objs.size 0 (fromA xs pc)) { s with heap := h, toks := tk } := by
      refine R.allocs kp z (by rw [cellsA_len]; simp [δ]) (fun p hp => ⟨Nat.le_of_lt (hmem p hp).1, Nat.le_of_lt (hmem p hp).2⟩) ?_ (fun o ho => ?_) S₁ fun j p o ej eo => ?_
      · rw [List.pairwise_map]
        refine List.Pairwise.imp ?_ List.pairwise_lt_range
        intro i j hij
        have ne : s.heap.objs.size + 1 + i ≠ s.heap.objs.size + 1 + j := by (first | lia | omega)
        exact ⟨ne, ne, ne, ne⟩
      · obtain ⟨j, hj, rfl⟩ := List.mem_iff_getElem.mp ho
        have := List.getElem?_eq_getElem hj
        rw [cellsA_get] at this
        exact oM this fun uu uu e => e ▸ rfl
      · obtain ⟨hj, rfl⟩ := hδ ej
        rw [cellsA_get, Nat.zero_add] at eo
        refine oM eo fun y ey eo => ?_
        rw [← eo]
        refine x1_2 (F.cells s.heap.objs.size j (F.pcel.1 ▸ hj)) fun n en el => ?_
        have hc := hcell n _ el
        have hnl : (envC C f s.heap.objs.size).kindOf n ≠ some .local := fun e => by
          have := S.cel n (List.mem_of_getElem? en)
          rw [show (fdAt C.K f).scope.names.lookup n = some .local from e] at this; cases this
        cases y with
        | none =>
          have hb : pc[j]? = some none ∨ ∃ k, pc[j]? = some (some k) ∧ xs[k]? = none := by
            unfold fromA at ey
            rw [List.getElem?_map] at ey
            refine oM ey fun o e1 e2 => ?_
            cases o with
            | none => exact .inl e1
            | some k => exact .inr ⟨k, e1, e2⟩
          rcases hb with hb | ⟨k, hb, hk⟩
          · rw [bindC_keep ((F.pcel.2 j hj _ hb) n en)] at hc
            exact .cell0 hc
          · obtain ⟨y, ep, _⟩ := F.pcel.2 j hj _ hb
            have := (List.getElem?_eq_some_iff.mp ep).1
            rw [← hn] at this
            rw [List.getElem?_eq_getElem this] at hk; cases hk
        | some x' =>
          refine x1_2 (fromA_get ey) fun k e1 e2 => ?_
          obtain ⟨y, ep, ec⟩ := F.pcel.2 j hj _ e1
          obtain rfl := Option.some.inj (ec.symm.trans en)
          refine x1_2 (q.get e2) fun v ev qv => ?_
          rw [bindC_get F.nodup ep ev hnl] at hc
          exact .cell hc (qv.go S₁)
    refine (D _ _ (F.envB nd _)).run _ _ _ _ _ e1 _ _ _ _ (ρ ++ δ) hA.deeper R₁ ⟨⟨_, hns, fun i y ei => ?_⟩, ?_, R.size, ?_⟩ fun w s' ρ' R' S' l' q' => ?_
    · refine x1_2 (fromA_get ei) fun k e1 e2 => ?_
      have hi : i < pl.length := (List.getElem?_eq_some_iff.mp e1).1
      obtain ⟨n, ep, ev⟩ := F.ploc.2 i hi k e1
      refine x1_2 (q.get e2) fun v evv qv => ⟨n, v, ev, ?_, qv.go S₁⟩
      exact bindL_get F.nodup ep evv (S.loc n (List.mem_of_getElem? ev))
    · rintro (t | ⟨p, hp, e⟩)
      · exact R.fresh (.inl t)
      · rcases List.mem_append.mp hp with hp | hp
        · exact R.fresh (.inr ⟨p, hp, e⟩)
        · have := hmem p hp
          change _ = s.heap.objs.size ∨ _ = s.heap.objs.size at e
          rcases e with e | e
          · exact absurd this.1 (by rw [e]; exact Nat.lt_irrefl _)
          · exact absurd this.2 (by rw [e]; exact Nat.lt_irrefl _)
    · unfold fromA; rw [List.length_map]; exact F.ploc.1
    · refine x0_2 (endF_rel q' e4) fun qx eσ => ?_
      obtain rfl : t.1 = x := congrArg (·.1) e3
      obtain rfl : τ = σ' := congrArg (·.2) e3
      refine k _ s' ρ' ((eσ ▸ R').sealN hs) ?_ qx
      exact ⟨Nat.le_trans z S'.size, fun b o e nm uu => S'.keep b o (kp b o e) (Mut.grow S₁ (Heap.lt_size e) nm) (by rw [List.mem_singleton]; exact Nat.ne_of_lt (Heap.lt_size e)), by
        obtain ⟨δ', rfl, h'⟩ := S'.grow
        refine ⟨δ ++ δ', by rw [List.append_assoc], fun p hp => ?_⟩
        rcases List.mem_append.mp hp with hp | hp
        · exact ⟨Nat.le_of_lt (hmem p hp).1, Nat.le_of_lt (hmem p hp).2⟩
        · exact ⟨Nat.le_trans z (h' p hp).1, Nat.le_trans z (h' p hp).2⟩⟩
end
end Mine.Internal
end
section
open PySem PySem.W PyProof.Rows PySem.Calls
namespace Mine.Internal
noncomputable def countF : FM := fun xs σ => (arg2 xs).bind fun p => p.1.str?.bind fun x => p.2.str?.map fun y => (.int (Txt.count x y), σ)
noncomputable def extendF : FM := fun xs σ => (arg2 xs).bind fun p => p.1.loc?.bind fun l => (lstAt σ l).bind fun ys => (asList σ p.2).bind fun zs => gd (decide (ys.length + zs.length ≤ 1000000)) (.none, σ.set l (.list (ys ++ zs)))
noncomputable def timesL {α : Type} (xs : List α) (n : Int) : List α := (List.replicate n.toNat xs).flatten
noncomputable def mulLE (f g : EM) : EM := fun lc σ => (f lc σ).bind fun p => (g lc p.2).bind fun q => q.1.int?.bind fun n => (asList q.2 p.1).bind fun xs => gd (decide (xs.length * n.toNat ≤ 1000000 ∧ n < 1000000 ∧ -1000000 < n)) (.lst (timesL xs n), q.2)
section
variable {C : Cfg} {ρ ρ' : Rho} {σ σ' : St} {s : Shared} {A : Around} {E : Value → Shared → Prop} {env : Env} {vars : List Str} {lc : Lc} {d : Nat} {p p' p0 p1 : Pos}
set_option tactic.hygienic false in
theorem den_count : DenCall C d (.builtin "str.count") countF := by
  intro xs σ x σ' hf A Q E s ρ vs hA R q k
  refine oB hf fun p e0 hf => oB hf fun x ex hf => oM hf fun y ey e => ?_
  have k := kfe k e
  revert k
  exact q.arg2_e e0 fun v w q1 q2 k => q1.str_of ex fun t ok => q2.str_of ey fun u ok' => SC.count (k _ _ ρ R.toks .refl (.int _ _))
set_option tactic.hygienic false in
theorem den_extend : DenCall C d (.builtin "list.extend") extendF := by
  intro xs σ x σ' hf A Q E s ρ vs hA R q k
  refine oB hf fun p e0 hf => oB hf fun l el hf => oB hf fun ys e1 hf => oB hf fun zs e2 hf => oG hf fun hz e9 => ?_
  have hz := of_decide_eq_true hz
  have k := kfe k e9
  revert k
  refine q.arg2_e e0 fun v w q1 q2 k => ?_
  have q1 := AV.loc_inv el ▸ q1
  refine R.list_e (lstAt_inv e1) q1 fun a vs n e0 ho hs => R.asList_e q2 e2 fun b ws m hob hsb => ?_
  have l1 := hs.length
  have l2 := hsb.length
  have hzl := sizeLine_eq
  refine call_meets PySem.F.slot_list_extend ⟨_, ho, rfl⟩ PySem.F.entry_list_extend (PySem.F.args_list_extend_2 _ _) (PySem.AutoSeq1.list_extend_list_list_0 a vs.toArray n b ws.toArray m (by
    rw [Bool.and_eq_true, not_and]
    intro _
    unfold Builtin.List.listTooLong
    rw [decide_eq_true_eq, List.size_toArray, List.size_toArray]; (first | lia | omega)) (by rw [List.size_toArray]; (first | lia | omega)) (by rw [List.size_toArray, List.size_toArray]; (first | lia | omega))) ⟨ho, hob, ?_⟩
  have hsb' := Heap.SameBut.update s.heap a (Obj.mapSeq fun xs => xs ++ ws.toArray)
  have S : Step C [] ρ ρ s.heap (s.heap.update a (Obj.mapSeq fun xs => xs ++ ws.toArray)) := stepMut (.inr ⟨_, List.mem_of_getElem? e0, .inl rfl⟩) hsb'
  have gt := mapSeq_at ho (fun xs => xs ++ ws.toArray)
  rw [List.append_toArray] at gt
  exact x0_2 (R.upd (n := s.toks) e0 (.inl rfl) hsb' (.list gt ((hs.append hsb).go S)) rfl) fun R' S' => k _ _ _ R' S' .none
set_option tactic.hygienic false in
theorem mul_listG {l : Addr} {items : Array Value} {k : Nat} {x : Int} {u : Tok} {Q : Value → Shared → Prop} (hl : s.heap.get? l = some { cls := .type "list", dict := none, data := .seq items k, slots := #[] }) (hlo : -(2 ^ 63 : Int) ≤ x) (hhi : x < 2 ^ 63) (hsz : items.size * x.toNat ≤ 2 ^ 24)
    (h : Q (.ref s.heap.objs.size) { s with heap := s.heap.push { cls := .type "list", data := .seq (List.foldl (fun x1 x2 => x1 ++ x2) #[] (List.replicate (if items.isEmpty = true then 0 else x.toNat) items)) } }) :
    wpAny (model C.prog C.w) A (binaryOp .Mult (.ref l) (.int x u)) Q E s :=
  wpAny_binaryOp_repeat_ref (T := "list") (U := "int") (by decide) ⟨_, hl, rfl⟩ (fun s' => typeIs_int s' x u) noFill_list_mul F.fills_int_mul F.slot_int_rmul repeat_list F.slot_int_index.lookup
    (call_meets F.slot_int_rmul (typeIs_int s x u) F.entry_int_rmul (F.args_int_rmul_2 _ _) (int___rmul___int_list x u l items k)
      ⟨hl, rfl, ⟨_, hl, rfl⟩, call_meets F.slot_list_mul ⟨_, hl, rfl⟩ F.entry_list_mul (F.args_list_mul_2 _ _)
        (AutoListH.list___mul___list_int_3 l items k x u (by simp [Builtin.List.listFitsIndex]; (first | lia | omega)) (by (first | lia | omega)) (by simp [Builtin.List.listTooLong, sizeLine]; (first | lia | omega)))
        ⟨hl, h⟩⟩)
set_option tactic.hygienic false in
theorem foldl_flat (vs : List Value) : ∀ (n : Nat) (acc : Array Value), List.foldl (fun x1 x2 => x1 ++ x2) acc (List.replicate n vs.toArray) = acc ++ ((List.replicate n vs).flatten).toArray
  | 0, acc => by simp
  | n + 1, acc => by rw [List.replicate_succ, List.foldl_cons, foldl_flat vs n, List.replicate_succ, List.flatten_cons]; simp
set_option tactic.hygienic false in
theorem VRs.times {h : Heap} {xs : List AV} {vs : List Value} (q : VRs C ρ h xs vs) : ∀ n : Nat, VRs C ρ h (List.replicate n xs).flatten (List.replicate n vs).flatten
  | 0 => .nil
  | n + 1 => by rw [List.replicate_succ, List.replicate_succ, List.flatten_cons, List.flatten_cons]; exact q.append (q.times n)
set_option tactic.hygienic false in
theorem den_mulL {l r : Expr} {f g : EM} (D1 : DenE C d env vars l f) (D2 : DenE C d env vars r g) : DenE C d env vars (.BinOp l .Mult r p) (mulLE f g) := by
  intro lc σ x σ' hf A Q E s ρ hA R lr kk
  refine oB hf fun a e1 hf => oB hf fun b e2 hf => oB hf fun n en hf => oB hf fun xs hxs hf => oG hf fun hz e9 => ?_
  have hz := of_decide_eq_true hz
  have kk := kfe kk e9
  refine wpAny_BinOp (D1 _ _ _ _ e1 A _ E s ρ hA R lr fun va s₁ ρ₁ R₁ S₁ q₁ => D2 _ _ _ _ e2 A _ E s₁ ρ₁ hA R₁ (lr.go S₁) fun vb s₂ ρ₂ R₂ S₂ q₂ => ?_)
  refine q₂.int_of en fun t => R₂.asList_e (q₁.go S₂) hxs fun a vs m ho hs => ?_
  have hl := hs.length
  have z2 : vs.toArray.size * n.toNat ≤ 2 ^ 24 := by rw [List.size_toArray, hl]; (first | lia | omega)
  refine mul_listG ho (by (first | lia | omega)) (by (first | lia | omega)) z2 ?_
  have e : List.foldl (fun x1 x2 => x1 ++ x2) #[] (List.replicate (if vs.toArray.isEmpty = true then 0 else n.toNat) vs.toArray) = (timesL vs n).toArray := by
    rw [foldl_flat]
    cases vs with
    | nil => simp [timesL]
    | cons v vs => simp [timesL]
  rw [e]
  exact kk _ _ ρ₂ (R₂.push _ (n := s₂.toks)) ((S₁.trans S₂).trans (.pushObj _)) (.lst (vs := timesL vs n) (n := 0) (Heap.get?_push_size _ rfl) R₂.fresh ((hs.times n.toNat).go (.pushObj _)))
set_option tactic.hygienic false in
theorem b_count : BC C d (.builtin "str.count") countF := ⟨den_count⟩
set_option tactic.hygienic false in
theorem b_extend : BC C d (.builtin "list.extend") extendF := ⟨den_extend⟩
set_option tactic.hygienic false in
theorem m_count : BM C 1 "count" (.builtin "str.count") := ⟨getM_str PySem.F.slot_str_count PySem.F.type_str_count⟩
set_option tactic.hygienic false in
theorem m_extend : BM C 2 "extend" (.builtin "list.extend") := ⟨getM_list PySem.F.slot_list_extend PySem.F.type_list_extend⟩
set_option tactic.hygienic false in
theorem b_mulL {l r : Expr} {f g : EM} (D1 : BE C d env vars l f) (D2 : BE C d env vars r g) : BE C d env vars (.BinOp l .Mult r p) (mulLE f g) := ⟨den_mulL D1.run D2.run⟩
structure BSrc (C : Cfg) (d : Nat) (env : Env) (vars : List Str) (iter : Expr) (src : SrcM) : Prop where
  run : DenSrc C d env vars iter src
  plain : ∀ v, foldedSetIterable iter env v = pure v
structure BTg (C : Cfg) (d : Nat) (env : Env) (vars : List Str) (target : Expr) (tn : (St → Nat → Option (Option AV)) → St → Nat → Option (Option AV)) (st : Lc → AV → Option Lc) : Prop where
  run : DenTg C d env vars target tn st
structure BIf (C : Cfg) (d : Nat) (env : Env) (vars : List Str) (ifs : List Expr) (t : TM) : Prop where
  run : DenIfs C d env vars ifs t
structure BCl (C : Cfg) (d : Nat) (env : Env) (vars : List Str) (target : Expr) (ifs : List Expr) (elt : Expr) (tn : (St → Nat → Option (Option AV)) → St → Nat → Option (Option AV)) (st : Lc → AV → Option Lc) (t : TM) (f : EM) : Prop where
  tg : BTg C d env vars target tn st
  ifs : BIf C d env vars ifs t
  elt : BE C d env vars elt f
set_option tactic.hygienic false in
theorem b_srcL {iter : Expr} {f : EM} (D : BE C d env vars iter f) (hs : ∀ v, foldedSetIterable iter env v = pure v) : BSrc C d env vars iter (srcL f) := ⟨den_srcL D.run, hs⟩
set_option tactic.hygienic false in
theorem b_srcA (H : CfgOk C) (HC : ClsOk C) (HA : AccOk C) {iter : Expr} {f : EM} (D : BE C d env vars iter f) (hs : ∀ v, foldedSetIterable iter env v = pure v) : BSrc C d env vars iter (srcA f) := ⟨den_srcA H HC HA D.run, hs⟩
set_option tactic.hygienic false in
theorem b_srcR (H : CfgOk C) (He : EnvB env vars) {es : List Expr} {fs : List EM} (hv : GlobVal C "range" (.type "range")) (hk : env.kindOf "range" = some .globalImplicit) (D : BEs C d env vars es fs) : BSrc C d env vars (.Call (.Name "range" p0) es [] p1) (srcR fs) := ⟨den_srcR H He.ok hv hk D.run, fun uu => rfl⟩
set_option tactic.hygienic false in
theorem b_tgN (He : EnvB env vars) {j : Nat} {n : Str} {pn : Pos} (hj : vars[j]? = some n) : BTg C d env vars (.Name n pn) id (fun lc y => putL lc j y) := ⟨den_tgN He.ok hj⟩
set_option tactic.hygienic false in
theorem b_tgU (He : EnvB env vars) {es : List Expr} {ns : List Str} (T : Tgs es ns) {is : List Nat} (hi : is.map (vars[·]?) = ns.map some) {k0 : Nat} {pt : Pos} : BTg C d env vars (.Tuple es k0 pt) (nxU is.length) (putU is) := ⟨den_tgU He.ok T hi⟩
set_option tactic.hygienic false in
theorem b_ifs0 : BIf C d env vars [] trueT := ⟨den_ifs0⟩
set_option tactic.hygienic false in
theorem b_ifs1 {c : Expr} {t : TM} (D : BT C d env vars c t) : BIf C d env vars [c] t := ⟨den_ifs1 D.run⟩
section
variable {target iter elt : Expr} {ifs : List Expr} {body orelse : List Stmt} {scope : Scope} {pos : Pos} {xs : List Str} {src : SrcM} {tn : (St → Nat → Option (Option AV)) → St → Nat → Option (Option AV)} {st : Lc → AV → Option Lc} {B O : SM} {t : TM} {f : EM} {cl : List (Str × Addr)}
set_option tactic.hygienic false in
theorem b_forG (DI : BSrc C d env vars iter src) (DT : BTg C d env vars target tn st) (DB : BB C d env vars body B) (DO : BB C d env vars orelse O) : BS C d env vars (.For target iter body orelse p) (forGS src tn st B O) := ⟨den_forG DI.run DT.run DB.run DO.run DI.plain⟩
set_option tactic.hygienic false in
theorem compDen (hsc : compScopeN scope xs = true) (DC : ∀ cenv : Env, cenv.scope = relabel scope env → cenv.cells = cl → EnvB cenv xs → BCl C d cenv xs target ifs elt tn st t f) : CompDen C d env scope cl xs target ifs elt tn st t f := by
  have go : ∀ cenv : Env, cenv.scope = relabel scope env → cenv.cells = cl → EnvOk cenv xs → BCl C d cenv xs target ifs elt tn st t f := fun cenv h1 h2 ho => DC cenv h1 h2 ⟨ho, fun y hy => ((compSc_of hsc).loc y hy).2, by
    unfold interactive
    rw [ho.kind]; rfl⟩
  exact ⟨fun cenv h1 h2 ho => (go cenv h1 h2 ho).tg.run, fun cenv h1 h2 ho => (go cenv h1 h2 ho).ifs.run, fun cenv h1 h2 ho => (go cenv h1 h2 ho).elt.run⟩
set_option tactic.hygienic false in
theorem b_compG (H : CfgOk C) (HC : ClsOk C) (He : EnvB env vars) (hclos : closureFor scope env = pure cl) (hsc : compScopeN scope xs = true) (DI : BSrc C (d + 1) env vars iter src)
    (DC : ∀ cenv : Env, cenv.scope = relabel scope env → cenv.cells = cl → EnvB cenv xs → BCl C (d + 1) cenv xs target ifs elt tn st t f) : BE C (d + 1) env vars (.ListComp elt [⟨target, iter, ifs, 0⟩] scope pos) (compGE src xs.length tn st t f) :=
  ⟨den_compG H HC He.ok hclos (compSc_of hsc) DI.plain DI.run (compDen hsc DC)⟩
set_option tactic.hygienic false in
theorem b_asgG (H : CfgOk C) (HC : ClsOk C) (He : EnvB env vars) {i : Nat} {n : Str} {pn : Pos} (hi : vars[i]? = some n) (hsw : swapsWith (.ListComp elt [⟨target, iter, ifs, 0⟩] scope pos) (some (.Name n pn)) p.line env = pure true) (hclos : closureFor scope env = pure cl) (hsc : compScopeN scope xs = true) (DI : BSrc C (d + 1) env vars iter src)
    (DC : ∀ cenv : Env, cenv.scope = relabel scope env → cenv.cells = cl → EnvB cenv xs → BCl C (d + 1) cenv xs target ifs elt tn st t f) : BS C (d + 1) env vars (.Assign [.Name n pn] (.ListComp elt [⟨target, iter, ifs, 0⟩] scope pos) p) (asgS i (compGE src xs.length tn st t f)) :=
  ⟨den_asgG H HC He.ok hi hsw hclos (compSc_of hsc) DI.plain DI.run (compDen hsc DC)⟩
end
end
end Mine.Internal
end
section
open PySem PySem.W PyProof.Rows PySem.Calls
namespace Mine.Internal
section
variable {σ : St} {n l : Nat} {x y : Str} {i j : Int} {b : Bool} {xs : List AV} {v : AV}
set_option tactic.hygienic false in
theorem toPD_none : toPD σ n .none = some .none := by cases n <;> rfl
set_option tactic.hygienic false in
theorem toPD_bool : toPD σ n (.bool b) = some (.bool b) := by cases n <;> rfl
set_option tactic.hygienic false in
theorem toPD_int : toPD σ n (.int i) = some (.int i) := by cases n <;> rfl
set_option tactic.hygienic false in
theorem toPD_str : toPD σ n (.str x) = some (.str x) := by cases n <;> rfl
set_option tactic.hygienic false in
theorem toPD_tup : toPD σ (n + 1) (.tup xs) = (optAll (toPD σ n) xs).map .tuple := Option.or_none
set_option tactic.hygienic false in
theorem toPD_lst : toPD σ (n + 1) (.lst xs) = (optAll (toPD σ n) xs).map .list := rfl
set_option tactic.hygienic false in
theorem toPD_loc : toPD σ (n + 1) (.loc l) = (lstAt σ l).bind fun xs => (optAll (toPD σ n) xs).map .list := rfl
set_option tactic.hygienic false in
theorem asList_lst : asList σ (.lst xs) = some xs := rfl
set_option tactic.hygienic false in
theorem asList_loc : asList σ (.loc l) = lstAt σ l := rfl
set_option tactic.hygienic false in
theorem twoI_int {f : Int → Int → Option AV} : twoI (.int i) (.int j) f = f i j := rfl
set_option tactic.hygienic false in
theorem twoInts_int {f : Int → Int → Bool} : twoInts (.int i) (.int j) f = some (f i j) := rfl
set_option tactic.hygienic false in
theorem aadd_int : aadd σ (.int i) (.int j) = some (.int (i + j)) := rfl
set_option tactic.hygienic false in
theorem aadd_str : aadd σ (.str x) (.str y) = gd (decide (x.length + y.length ≤ sizeLine)) (.str (x ++ y)) := Option.or_none
set_option tactic.hygienic false in
theorem amul_int : amul (.int i) (.int j) = gd (decide (i < 1000000 ∧ -1000000 < i)) (.int (i * j)) := Option.or_none
set_option tactic.hygienic false in
theorem amul_str : amul (.str x) (.int j) = gd (decide (x.length * j.toNat ≤ 1000000 ∧ j < 1000000 ∧ -1000000 < j)) (.str (Txt.mul x j)) := rfl
set_option tactic.hygienic false in
theorem ainp_str : ainp .Add (.str x) (.str y) = gd (decide (x.length + y.length ≤ 1000000)) (.str (x ++ y)) := Option.or_none
set_option tactic.hygienic false in
theorem atruth_none : atruth σ .none = some false := rfl
set_option tactic.hygienic false in
theorem atruth_bool : atruth σ (.bool b) = some b := rfl
set_option tactic.hygienic false in
theorem atruth_int : atruth σ (.int i) = some (i != 0) := rfl
set_option tactic.hygienic false in
theorem atruth_str : atruth σ (.str x) = gd (decide (x.length ≤ sizeLine)) ((x.length : Int) != 0) := Option.or_none
set_option tactic.hygienic false in
theorem atruth_lst : atruth σ (.lst xs) = gd (decide (xs.length ≤ sizeLine)) (!xs.isEmpty) := rfl
set_option tactic.hygienic false in
theorem atruth_loc : atruth σ (.loc l) = (lstAt σ l).bind fun xs => gd (decide (xs.length ≤ sizeLine)) (!xs.isEmpty) := rfl
set_option tactic.hygienic false in
theorem isPart_part : isPart (.tup [.str x, .str y]) = some (x, y) := rfl
set_option tactic.hygienic false in
theorem isPart_av {p : Str × Str} : isPart (partAV p) = some p := rfl
set_option tactic.hygienic false in
theorem appendF_loc : appendF [.loc l, v] σ = ((lstAt σ l).bind fun ys => gd (decide (ys.length ≤ sizeLine)) (AV.none, σ.set l (.list (ys ++ [v])))).or
    ((accAt σ l).bind fun a => (isPart v).bind fun pt => gd (decide (a.2.length ≤ sizeLine)) (AV.none, σ.set l (.acc a.1 (a.2 ++ [pt])))) := rfl
set_option tactic.hygienic false in
theorem lstAt_acc {ini : Int} {ps : List (Str × Str)} (h : σ[l]? = some (.acc ini ps)) : lstAt σ l = none := by unfold lstAt; rw [h]; rfl
set_option tactic.hygienic false in
theorem accAt_list (h : σ[l]? = some (.list xs)) : accAt σ l = none := by unfold accAt; rw [h]; rfl
set_option tactic.hygienic false in
theorem appendF_list (h : σ[l]? = some (.list xs)) (hz : xs.length ≤ sizeLine) : appendF [.loc l, v] σ = some (.none, σ.set l (.list (xs ++ [v]))) := by
  rw [appendF_loc, lstAt_of h]
  show (gd _ _).or _ = _
  rw [gd_of (decide_eq_true hz)]
  rfl
set_option tactic.hygienic false in
theorem lenF_str {LF : FM} : lenF LF [.str x] σ = gd (decide (x.length ≤ 1000000)) (.int x.length, σ) := Option.or_none
set_option tactic.hygienic false in
theorem lenF_list {LF : FM} (h : σ[l]? = some (.list xs)) (hz : xs.length ≤ 1000000) : lenF LF [.loc l] σ = some (.int xs.length, σ) := by
  show ((accAt σ l).bind _).or ((lstAt σ l).bind _) = _
  rw [accAt_list h, lstAt_of h]
  exact gd_of (decide_eq_true hz)
set_option tactic.hygienic false in
theorem lenF_acc {LF : FM} {ini : Int} {ps : List (Str × Str)} {σ' : St} (h : σ[l]? = some (.acc ini ps)) (e : lenA LF l σ = some (i, σ')) : lenF LF [.loc l] σ = some (.int i, σ') := by
  show ((accAt σ l).bind _).or _ = _
  rw [accAt_of h]
  show ((lenA LF l σ).map _).or _ = _
  rw [e]
  rfl
set_option tactic.hygienic false in
theorem strF_acc {SF FF : FM} {ini : Int} {ps : List (Str × Str)} {σ' : St} (h : σ[l]? = some (.acc ini ps)) (e : SF [.loc l] σ = some (.str x, σ')) : strF SF FF [.loc l] σ = some (.str x, σ') := by
  show ((accAt σ l).bind _).or _ = _
  rw [accAt_of h]
  show (retStr (SF [.loc l] σ)).or _ = _
  rw [e]
  rfl
set_option tactic.hygienic false in
theorem asSeq_lst : asSeq σ (.lst xs) = some xs := rfl
set_option tactic.hygienic false in
theorem asSeq_list (h : σ[l]? = some (.list xs)) : asSeq σ (.loc l) = some xs := by
  show (lstAt σ l).or _ = _
  rw [lstAt_of h]
  rfl
set_option tactic.hygienic false in
theorem asSeq_acc {ini : Int} {ps : List (Str × Str)} (h : σ[l]? = some (.acc ini ps)) : asSeq σ (.loc l) = some (ps.map partAV) := by
  show (lstAt σ l).or ((accAt σ l).map _) = _
  rw [lstAt_acc h, accAt_of h]
  rfl
set_option tactic.hygienic false in
theorem aget_tup : aget σ (.tup xs) i = if -1000000000 ≤ i ∧ i < 1000000000 then (seqIndex? i xs.length).bind (xs[·]?) else none := by
  show (if _ then (atIx xs i).or none else none) = _
  rw [Option.or_none]
  rfl
set_option tactic.hygienic false in
theorem aget_lst : aget σ (.lst xs) i = if -1000000000 ≤ i ∧ i < 1000000000 then (seqIndex? i xs.length).bind (xs[·]?) else none := rfl
set_option tactic.hygienic false in
theorem aget_seq (h : asSeq σ (.loc l) = some xs) : aget σ (.loc l) i = if -1000000000 ≤ i ∧ i < 1000000000 then (seqIndex? i xs.length).bind (xs[·]?) else none := by
  show (if _ then (asSeq σ (.loc l)).bind _ else none) = _
  rw [h]
  rfl
set_option tactic.hygienic false in
theorem aget_str : aget σ (.str x) i = if -1000000000 ≤ i ∧ i < 1000000000 then ((seqIndex? i x.length).bind (x.cps[·]?)).map fun c => .str ⟨#[c]⟩ else none := by
  show (if _ then (Option.map _ _).or none else none) = _
  rw [Option.or_none]
set_option tactic.hygienic false in
theorem putSl_acc {ini : Int} {ps qs : List (Str × Str)} {a b : Option Int} {new : List AV} (h : σ[l]? = some (.acc ini ps)) (hn : asList σ v = some new) (hq : partsOf new = some qs) (hz : ps.length ≤ 1000000 ∧ qs.length ≤ 1000000) : putSl l a b v σ = some (σ.set l (.acc ini (setSl ps qs a b))) := by
  unfold putSl
  rw [hn, accAt_of h]
  show ((partsOf new).bind _).or _ = _
  rw [hq]
  show (gd _ _).or _ = _
  rw [gd_of (decide_eq_true hz)]
  rfl
set_option tactic.hygienic false in
theorem putSl_list {a b : Option Int} {new : List AV} (h : σ[l]? = some (.list xs)) (hz : xs.length ≤ 1000000 ∧ new.length ≤ 1000000) : putSl l a b (.lst new) σ = some (σ.set l (.list (setSl xs new a b))) := by
  show ((accAt σ l).bind _).or ((lstAt σ l).bind _) = _
  rw [accAt_list h, lstAt_of h]
  exact gd_of (decide_eq_true hz)
set_option tactic.hygienic false in
theorem putAt_list {k : Nat} (h : σ[l]? = some (.list xs)) (hi : -1000000000 ≤ i ∧ i < 1000000000) (hj : seqIndex? i xs.length = some k) (hk : k < xs.length) : putAt l i v σ = some (σ.set l (.list (xs.set k v))) := by
  unfold putAt
  rw [lstAt_of h]
  show (if _ then (seqIndex? i xs.length).bind _ else none) = _
  rw [if_pos hi, hj]
  exact gd_of (decide_eq_true hk)
set_option tactic.hygienic false in
theorem idx_of {f g : EM} {lc : Lc} {σ₁ σ₂ : St} {a z : AV} (hf : f lc σ = some (a, σ₁)) (hg : g lc σ₁ = some (.int i, σ₂)) (ha : aget σ₂ a i = some z) : idxE f g lc σ = some (z, σ₂) := by
  unfold idxE
  rw [hf]
  show (g lc σ₁).bind _ = _
  rw [hg]
  show (aget σ₂ a i).map _ = _
  rw [ha]
  rfl
set_option tactic.hygienic false in
theorem nE_of {k : Nat} {lc : Lc} {a : AV} (h : lc[k]? = some (some a)) : nE k lc σ = some (a, σ) := by unfold nE; rw [h]
set_option tactic.hygienic false in
theorem aget_fst {p : Str × Str} : aget σ (partAV p) 0 = some (.str p.1) := by
  unfold partAV
  rw [aget_tup, if_pos (by decide)]
  rfl
set_option tactic.hygienic false in
theorem aget_snd {p : Str × Str} : aget σ (partAV p) 1 = some (.str p.2) := by
  unfold partAV
  rw [aget_tup, if_pos (by decide)]
  rfl
set_option tactic.hygienic false in
theorem joinF_eq : joinF [.str x, v] σ = (asList σ v).bind fun ys => (strsOf ys).bind fun zs => gd (decide ((zs.map (·.length)).sum + zs.length * x.length ≤ 16777216)) (.str (Txt.join x zs), σ) := rfl
set_option tactic.hygienic false in
theorem kind_loc_eq : kind σ (.loc l) = (σ[l]?.map kindO).getD 0 := rfl
set_option tactic.hygienic false in
theorem kind_str : kind σ (.str x) = 1 := rfl
set_option tactic.hygienic false in
theorem kind_lst : kind σ (.lst xs) = 2 := rfl
set_option tactic.hygienic false in
theorem gd_if {α : Type} {p : Prop} [Decidable p] {a : α} : gd (decide p) a = if p then some a else none := by
  by_cases h : p
  · rw [if_pos h, gd_of (decide_eq_true h)]
  · rw [if_neg h, decide_eq_false h]; rfl
set_option tactic.hygienic false in
theorem gd_true {α : Type} {a : α} : gd true a = some a := rfl
noncomputable def afterS (nx : St → Nat → Option (Option AV)) (st : Lc → AV → Option Lc) (B O : SM) (n i : Nat) (t : Fl × Lc × St) : Option (Fl × Lc × St) := match t.1 with
  | .next => loopS nx st B O n i t.2.1 t.2.2
  | .cont => loopS nx st B O n i t.2.1 t.2.2
  | .brk => some (.next, t.2)
  | .ret v => some (.ret v, t.2)
set_option tactic.hygienic false in
theorem loop_stop {nx : St → Nat → Option (Option AV)} {st : Lc → AV → Option Lc} {B O : SM} {k : Nat} {lc : Lc} (h : nx σ k = some none) : loopS nx st B O (n + 1) k lc σ = O lc σ := by
  unfold loopS
  rw [h]
  rfl
set_option tactic.hygienic false in
theorem loop_at {nx : St → Nat → Option (Option AV)} {st : Lc → AV → Option Lc} {B O : SM} {k : Nat} {lc lc₁ : Lc} {t : Fl × Lc × St} (h : nx σ k = some (some v)) (h1 : st lc v = some lc₁) (h2 : B lc₁ σ = some t) : loopS nx st B O (n + 1) k lc σ = afterS nx st B O n (k + 1) t := by
  unfold loopS
  rw [h]
  show ((st lc v).bind _) = _
  rw [h1]
  show ((B lc₁ σ).bind _) = _
  rw [h2]
  rfl
set_option tactic.hygienic false in
theorem for_str {k : Nat} {f : EM} {B O : SM} {lc : Lc} {σ₁ : St} (hf : f lc σ = some (.str x, σ₁)) : forS k f B O lc σ = loopS (nxS x) (fun lc y => putL lc k y) B O 1000000 0 lc σ₁ := by
  unfold forS
  rw [hf]
  simp only [Option.bind_some, AV.str?]
  rw [show asList σ₁ (AV.str x) = none from rfl, Option.bind_none, Option.or_none]
set_option tactic.hygienic false in
theorem for_lst {k : Nat} {f : EM} {B O : SM} {lc : Lc} {σ₁ : St} {a : AV} (hf : f lc σ = some (a, σ₁)) (ha : asList σ₁ a = some xs) (hs : a.str? = none) : forS k f B O lc σ = loopS (nxL a) (fun lc y => putL lc k y) B O 1000000 0 lc σ₁ := by
  unfold forS
  rw [hf]
  simp only [Option.bind_some]
  rw [hs, ha, Option.bind_none, Option.none_or, Option.bind_some]
set_option tactic.hygienic false in
theorem forR_of {k : Nat} {fs : List EM} {B O : SM} {lc : Lc} {σ₁ : St} {a b c : Int} {t : Fl × Lc × St} (hf : evs fs lc σ = some (xs, σ₁)) (ha : rangeArgs xs = some (a, b, c)) (ho : okRange a b c = true) (h : loopS (nxR a b c) (fun lc y => putL lc k y) B O 1000000 0 lc σ₁ = some t) : forRS k fs B O lc σ = some t := by
  unfold forRS
  rw [hf]
  simp only [Option.bind_some, ha]
  rw [if_pos ho, h]
set_option tactic.hygienic false in
theorem ghAt_of {g : Nat} (h : σ[g]? = some .ghost) : ghAt σ g = some () := by unfold ghAt; rw [h]; rfl
set_option tactic.hygienic false in
theorem nxZ_of {g k : Nat} {a : AV} (h : σ[g]? = some .ghost) (ha : asList σ a = some xs) : nxZ g a σ k = some (pair2 xs k) := by
  unfold nxZ
  rw [ghAt_of h, ha]
  rfl
set_option tactic.hygienic false in
theorem zip_of {i j : Nat} {f : EM} {B O : SM} {lc : Lc} {σ₁ : St} {a : AV} (hf : f lc σ = some (a, σ₁)) (ha : asList σ₁ a = some xs) : zipS i j f B O lc σ = loopS (nxZ σ₁.length a) (put2 i j) B O 1000000 0 lc (σ₁ ++ [.ghost]) := by
  unfold zipS
  rw [hf]
  simp only [Option.bind_some, ha]
end
end Mine.Internal
end
section
set_option linter.all false
open PySem PySem.W PyProof.Rows PySem.Calls
namespace Mine.Internal
set_option tactic.hygienic false in
theorem partLen_nonneg (p : Str × Str) : 0 ≤ partLen p := by unfold partLen; (first | lia | omega)
set_option tactic.hygienic false in
theorem partsLen_nil : partsLen [] = 0 := rfl
set_option tactic.hygienic false in
theorem partsLen_cons (p : Str × Str) (ps : List (Str × Str)) : partsLen (p :: ps) = partLen p + partsLen ps := by simp [partsLen]
set_option tactic.hygienic false in
theorem partsLen_append (ps qs : List (Str × Str)) : partsLen (ps ++ qs) = partsLen ps + partsLen qs := by simp [partsLen]
set_option tactic.hygienic false in
theorem partsLen_nonneg (ps : List (Str × Str)) : 0 ≤ partsLen ps := by
  induction ps with
  | nil => exact Int.le_refl _
  | cons p ps ih => rw [partsLen_cons]; have := partLen_nonneg p; (first | lia | omega)
set_option tactic.hygienic false in
theorem partLen_le {p : Str × Str} {ps : List (Str × Str)} (h : p ∈ ps) : partLen p ≤ partsLen ps := by
  induction ps with
  | nil => cases h
  | cons q ps ih =>
    rw [partsLen_cons]
    have := partLen_nonneg q
    have := partsLen_nonneg ps
    rcases List.mem_cons.mp h with rfl | h
    · (first | lia | omega)
    · have := ih h; (first | lia | omega)
set_option tactic.hygienic false in
theorem accFits_of {ps : List (Str × Str)} (h1 : ps.length ≤ 1000000) (h2 : partsLen ps ≤ 1000000) : accFits ps = true := by
  unfold accFits
  simp only [Bool.and_eq_true, decide_eq_true_eq, List.all_eq_true]
  refine ⟨⟨fun p hp => ?_, h1⟩, h2⟩
  have := partLen_le hp
  unfold partLen at this
  unfold smallPart smallStr
  simp only [Bool.and_eq_true, decide_eq_true_eq]
  (first | lia | omega)
set_option tactic.hygienic false in
theorem len_line {n : Nat} (h : n ≤ 1000000) : n ≤ sizeLine := by rw [sizeLine_eq]; (first | lia | omega)
section
variable {σ : St} {a : Nat} {ini : Int} {ps : List (Str × Str)}
set_option tactic.hygienic false in
theorem push_eq {f s : Str} (h : σ[a]? = some (.acc ini ps)) (hl : ps.length ≤ 1000000) : pushF [.loc a, .str f, .str s] σ = some (.none, σ.set a (.acc ini (ps ++ [(f, s)]))) := by
  have h' : ps.length ≤ 16777216 := by (first | lia | omega)
  simp [pushF, runF, endF, lc0, seqS, exprS, mE, nE, kind_loc_eq, kind_str, kind_lst, kindO, h, evs, tupE, appendF_loc, isPart_part, isPart_av, h', sizeLine_eq, AV.int?, AV.str?, AV.tup?, AV.lst?, AV.loc?, AO.list?, AO.acc?, lstAt, accAt, arg1, arg2, gd_if, gd_true, selfL]
set_option tactic.hygienic false in
theorem pc_eq (h : σ[a]? = some (.acc ini ps)) : pcF [.loc a] σ = some (.int ps.length, σ) := by
  simp [pcF, runF, endF, lc0, seqS, partCountS, h, AV.int?, AV.str?, AV.tup?, AV.lst?, AV.loc?, AO.list?, AO.acc?, lstAt, accAt, arg1, arg2, gd_if, gd_true, selfL]
set_option tactic.hygienic false in
theorem pop_nil (h : σ[a]? = some (.acc ini [])) : popF [.loc a] σ = some (partAV ("", ""), σ) := by
  simp [popF, runF, endF, lc0, seqS, ifS, cmpT, mE, nE, kind_loc_eq, kind_str, kind_lst, kindO, h, evs, pc_eq h, cE, acmp, twoInts_int, isNone, aeqv, toPD_none, toPD_bool, toPD_int, toPD_str, toPD_tup, toPD_lst, toPD_loc, optAll, PyData.eqv, retS, tupE, partAV, sizeLine_eq, AV.int?, AV.str?, AV.tup?, AV.lst?, AV.loc?, AO.list?, AO.acc?, lstAt, accAt, arg1, arg2, gd_if, gd_true, selfL]
set_option tactic.hygienic false in
theorem pop_snoc {p : Str × Str} (h : σ[a]? = some (.acc ini (ps ++ [p]))) (hl : ps.length < 1000000) : popF [.loc a] σ = some (partAV p, σ.set a (.acc ini ps)) := by
  have : ps.length + 1 ≤ sizeLine := len_line hl
  have hz : ((ps.length : Int) + 1 == 0) = false := by rw [beq_eq_false_iff_ne]; (first | lia | omega)
  simp [popF, runF, endF, lc0, seqS, ifS, cmpT, mE, nE, kind_loc_eq, kind_str, kind_lst, kindO, h, evs, pc_eq h, cE, acmp, twoInts_int, isNone, aeqv, toPD_none, toPD_bool, toPD_int, toPD_str, toPD_tup, toPD_lst, toPD_loc, optAll, PyData.eqv, popS, this, hz, AV.int?, AV.str?, AV.tup?, AV.lst?, AV.loc?, AO.list?, AO.acc?, lstAt, accAt, arg1, arg2, gd_if, gd_true, selfL]
set_option tactic.hygienic false in
theorem accLen_eq (h : σ[a]? = some (.acc ini ps)) (hf : accFits ps = true) : accLenF [.loc a] σ = some (.int (ini + partsLen ps), σ) := by
  simp [accLenF, runF, endF, lc0, seqS, accLenS, h, hf, AV.int?, AV.str?, AV.tup?, AV.lst?, AV.loc?, AO.list?, AO.acc?, lstAt, accAt, arg1, arg2, gd_if, gd_true, selfL]
set_option tactic.hygienic false in
theorem accStr_eq (h : σ[a]? = some (.acc ini ps)) (hf : accFits ps = true) : accStrF [.loc a] σ = some (.str (accText ps), σ) := by
  simp [accStrF, runF, endF, lc0, seqS, accStrS, h, hf, AV.int?, AV.str?, AV.tup?, AV.lst?, AV.loc?, AO.list?, AO.acc?, lstAt, accAt, arg1, arg2, gd_if, gd_true, selfL]
set_option tactic.hygienic false in
theorem lenA_eq (h : σ[a]? = some (.acc ini ps)) (hf : accFits ps = true) (h0 : 0 ≤ ini) (h1 : ini ≤ 1000000) : lenA accLenF a σ = some (ini + partsLen ps, σ) := by
  have := partsLen_nonneg ps
  have : partsLen ps ≤ 1000000 := by unfold accFits at hf; simp only [Bool.and_eq_true, decide_eq_true_eq] at hf; exact hf.2
  unfold lenA
  rw [accLen_eq h hf]
  exact gd_of (decide_eq_true ⟨by (first | lia | omega), by (first | lia | omega)⟩)
set_option tactic.hygienic false in
theorem len_eq (h : σ[a]? = some (.acc ini ps)) (hf : accFits ps = true) (h0 : 0 ≤ ini) (h1 : ini ≤ 1000000) : lenF accLenF [.loc a] σ = some (.int (ini + partsLen ps), σ) := lenF_acc h (lenA_eq h hf h0 h1)
set_option tactic.hygienic false in
theorem str_eq {FF : FM} (h : σ[a]? = some (.acc ini ps)) (hf : accFits ps = true) : strF accStrF FF [.loc a] σ = some (.str (accText ps), σ) := strF_acc h (accStr_eq h hf)
set_option tactic.hygienic false in
theorem pick_range {α : Type} (xs : List α) (b : Nat) : ∀ m, pickL xs ((List.range m).map (b + ·)) = (xs.drop b).take m
  | 0 => by simp [pickL]
  | m + 1 => by
    have ih := pick_range xs b m
    unfold pickL at ih ⊢
    rw [List.range_succ, List.map_append, List.filterMap_append, ih, List.take_add_one, List.getElem?_drop]
    simp only [List.map_cons, List.map_nil, List.filterMap_cons, List.filterMap_nil]
    cases xs[b + m]? <;> rfl
set_option tactic.hygienic false in
theorem slice_from {α : Type} (xs : List α) (i : Nat) : sliceL xs (some (i : Int)) none = xs.drop i := by
  unfold sliceL slIdx
  rw [sliceBounds_plain]
  simp only [Option.elim, clipAt_nat]
  rw [sliceRange_one, pick_range]
  rw [List.take_of_length_le (by rw [List.length_drop]; (first | lia | omega))]
  rcases Nat.le_total i xs.length with h | h
  · rw [Nat.min_eq_left h]
  · rw [Nat.min_eq_right h, List.drop_of_length_le h, List.drop_length]
set_option tactic.hygienic false in
theorem slice_to {α : Type} (xs : List α) (i : Nat) : sliceL xs none (some (i : Int)) = xs.take i := by
  unfold sliceL slIdx
  rw [sliceBounds_plain]
  simp only [Option.elim, clipAt_nat]
  rw [sliceRange_one, pick_range, List.drop_zero]
  rcases Nat.le_total i xs.length with h | h
  · rw [Nat.min_eq_left h]; rfl
  · rw [Nat.min_eq_right h, List.take_of_length_le h, List.take_of_length_le (by (first | lia | omega))]
set_option tactic.hygienic false in
theorem setSl_from {α : Type} (xs : List α) (i : Nat) (h : i ≤ xs.length) : setSl xs [] (some (i : Int)) none = xs.take i := by
  unfold setSl slLo slHi
  rw [sliceBounds_plain]
  simp only [Option.elim, clipAt_nat, Nat.min_eq_left h]
  rw [Int.max_eq_right (Int.ofNat_le.mpr h), Int.toNat_natCast xs.length, List.drop_length]
  simp
set_option tactic.hygienic false in
theorem setSl_all {α : Type} (xs new : List α) : setSl xs new none none = new := by
  unfold setSl slLo slHi
  rw [sliceBounds_plain]
  simp only [Option.elim]
  rw [Int.max_eq_right (Int.ofNat_le.mpr (Nat.zero_le _)), Int.toNat_natCast xs.length, List.drop_length]
  simp
set_option tactic.hygienic false in
theorem partsOf_map (ps : List (Str × Str)) : partsOf (ps.map partAV) = some ps := by
  induction ps with
  | nil => rfl
  | cons p ps ih => rw [List.map_cons, partsOf, ih]; rfl
set_option tactic.hygienic false in
theorem popFrom_eq {i : Nat} (h : σ[a]? = some (.acc ini ps)) (hl : ps.length ≤ 1000000) (hi : i ≤ ps.length) : popFromF [.loc a, .int i] σ = some (.lst ((ps.drop i).map partAV), σ.set a (.acc ini (ps.take i))) := by
  have e1 : sliceL (ps.map partAV) (some (i : Int)) none = (ps.drop i).map partAV := by rw [slice_from, List.map_drop]
  have e2 := putSl_acc (a := some (i : Int)) (b := none) (v := .lst []) h rfl rfl ⟨hl, Nat.zero_le _⟩
  rw [setSl_from _ _ hi] at e2
  simp [asSeq_acc h, e2, popFromF, runD, runB, endF, lc0, seqS, asgS, sliceE, nE, optE, asSeq_lst, h, hl, e1, putL, setSlS, lstE, evs, asList_lst, asList_loc, partsOf, setSl_from _ _ hi, retS, sizeLine_eq, AV.int?, AV.str?, AV.tup?, AV.lst?, AV.loc?, AO.list?, AO.acc?, lstAt, accAt, arg1, arg2, gd_if, gd_true, selfL]
set_option tactic.hygienic false in
theorem reset1_eq (h : σ[a]? = some (.acc ini ps)) (hl : ps.length ≤ 1000000) : resetF [.loc a] σ = some (.none, σ.set a (.acc 0 [])) := by
  have hs : ∀ x : AO, (σ.set a x)[a]? = some x := fun x => List.getElem?_set_self (List.getElem?_eq_some_iff.mp h).1
  have e2 := putSl_acc (a := none) (b := none) (v := .lst []) h rfl rfl ⟨hl, Nat.zero_le _⟩
  rw [setSl_all] at e2
  simp [e2, resetF, orF, runD, runB, endF, lc0, resetB, seqS, ifS, cmpT, nE, cE, acmp, twoInts_int, isNone, aeqv, toPD_none, toPD_bool, toPD_int, toPD_str, toPD_tup, toPD_lst, toPD_loc, optAll, PyData.eqv, asgS, lstE, evs, putL, setSlS, optE, h, asList_lst, asList_loc, partsOf, hl, setSl_all, iniS, sizeLine_eq, hs, AV.int?, AV.str?, AV.tup?, AV.lst?, AV.loc?, AO.list?, AO.acc?, lstAt, accAt, arg1, arg2, gd_if, gd_true, selfL]
set_option tactic.hygienic false in
theorem reset2_eq {qs : List (Str × Str)} (h : σ[a]? = some (.acc ini ps)) (hl : ps.length ≤ 1000000) (hq : qs.length ≤ 1000000) : resetF [.loc a, .lst (qs.map partAV)] σ = some (.none, σ.set a (.acc 0 qs)) := by
  have hs : ∀ x : AO, (σ.set a x)[a]? = some x := fun x => List.getElem?_set_self (List.getElem?_eq_some_iff.mp h).1
  have e2 := putSl_acc (a := none) (b := none) (v := .lst (qs.map partAV)) h rfl (partsOf_map qs) ⟨hl, hq⟩
  rw [setSl_all] at e2
  simp [e2, resetF, orF, runD, runB, endF, lc0, resetB, seqS, ifS, cmpT, nE, cE, acmp, twoInts_int, isNone, aeqv, toPD_none, toPD_bool, toPD_int, toPD_str, toPD_tup, toPD_lst, toPD_loc, optAll, PyData.eqv, asgS, lstE, evs, putL, setSlS, optE, h, asList_lst, asList_loc, partsOf_map, hl, hq, setSl_all, iniS, sizeLine_eq, hs, AV.int?, AV.str?, AV.tup?, AV.lst?, AV.loc?, AO.list?, AO.acc?, lstAt, accAt, arg1, arg2, gd_if, gd_true, selfL]
set_option tactic.hygienic false in
theorem onlyws_eq (h : σ[a]? = some (.acc ini ps)) (hf : accFits ps = true) (h0 : 0 ≤ ini) (h1 : ini ≤ 1000000) :
    onlywsF [.loc a] σ = some (.bool (ini == 0 && (partsLen ps == 0 || Txt.isspace (accText ps))), σ) := by
  have e1 := lenA_eq h hf h0 h1
  have e2 := str_eq (FF := noF) h hf
  cases hi : (ini == 0) with
  | false => simp [onlywsF, runF, endF, lc0, seqS, retS, andE, tE, cmpT, attrE, nE, h, attrOf, fmtAttrs, cE, acmp, twoInts_int, isNone, aeqv, toPD_none, toPD_bool, toPD_int, toPD_str, toPD_tup, toPD_lst, toPD_loc, optAll, PyData.eqv, hi, atruth_none, atruth_bool, atruth_int, atruth_str, atruth_lst, atruth_loc, AV.int?, AV.str?, AV.tup?, AV.lst?, AV.loc?, AO.list?, AO.acc?, lstAt, accAt, arg1, arg2, gd_if, gd_true, selfL]
  | true =>
    have hi' : ini = 0 := eq_of_beq hi
    subst hi'
    have e1' : lenA accLenF a σ = some (partsLen ps, σ) := by simpa using e1
    cases hp : (partsLen ps == 0) with
    | true =>
      have hp' : (partsLen ps != 0) = false := by simp [bne, hp]
      simp [onlywsF, runF, endF, lc0, seqS, retS, andE, tE, cmpT, attrE, nE, h, attrOf, fmtAttrs, cE, acmp, twoInts_int, isNone, aeqv, toPD_none, toPD_bool, toPD_int, toPD_str, toPD_tup, toPD_lst, toPD_loc, optAll, PyData.eqv, atruth_none, atruth_bool, atruth_int, atruth_str, atruth_lst, atruth_loc, orE, notT, trA, e1', hp', AV.int?, AV.str?, AV.tup?, AV.lst?, AV.loc?, AO.list?, AO.acc?, lstAt, accAt, arg1, arg2, gd_if, gd_true, selfL]
    | false =>
      have hp' : (partsLen ps != 0) = true := by simp [bne, hp]
      simp [onlywsF, runF, endF, lc0, seqS, retS, andE, tE, cmpT, attrE, nE, h, attrOf, fmtAttrs, cE, acmp, twoInts_int, isNone, aeqv, toPD_none, toPD_bool, toPD_int, toPD_str, toPD_tup, toPD_lst, toPD_loc, optAll, PyData.eqv, atruth_none, atruth_bool, atruth_int, atruth_str, atruth_lst, atruth_loc, orE, notT, trA, e1', hp', mE, callE, evs, e2, kind_loc_eq, kind_str, kind_lst, kindO, isspaceF, AV.int?, AV.str?, AV.tup?, AV.lst?, AV.loc?, AO.list?, AO.acc?, lstAt, accAt, arg1, arg2, gd_if, gd_true, selfL]
end
end Mine.Internal
end
section
set_option linter.all false
open PySem PySem.W PyProof.Rows PySem.Calls
namespace Mine.Internal
section
variable {lc lc₁ lc' : Lc} {σ σ₁ σ' : St}
theorem seq_next {f : SM} {fs : List SM} (h : f lc σ = some (.next, lc₁, σ₁)) : seqS (f :: fs) lc σ = seqS fs lc₁ σ₁ := by simp [seqS, h, AV.int?, AV.str?, AV.tup?, AV.lst?, AV.loc?, AO.list?, AO.acc?, lstAt, accAt, arg1, arg2, gd_if, gd_true, selfL]
set_option tactic.hygienic false in
theorem seq_ret {f : SM} {fs : List SM} {v : AV} (h : f lc σ = some (.ret v, lc₁, σ₁)) : seqS (f :: fs) lc σ = some (.ret v, lc₁, σ₁) := by simp [seqS, h, AV.int?, AV.str?, AV.tup?, AV.lst?, AV.loc?, AO.list?, AO.acc?, lstAt, accAt, arg1, arg2, gd_if, gd_true, selfL]
set_option tactic.hygienic false in
theorem seq_brk {f : SM} {fs : List SM} (h : f lc σ = some (.brk, lc₁, σ₁)) : seqS (f :: fs) lc σ = some (.brk, lc₁, σ₁) := by simp [seqS, h, AV.int?, AV.str?, AV.tup?, AV.lst?, AV.loc?, AO.list?, AO.acc?, lstAt, accAt, arg1, arg2, gd_if, gd_true, selfL]
set_option tactic.hygienic false in
theorem seq_cont {f : SM} {fs : List SM} (h : f lc σ = some (.cont, lc₁, σ₁)) : seqS (f :: fs) lc σ = some (.cont, lc₁, σ₁) := by simp [seqS, h, AV.int?, AV.str?, AV.tup?, AV.lst?, AV.loc?, AO.list?, AO.acc?, lstAt, accAt, arg1, arg2, gd_if, gd_true, selfL]
theorem seq_app {ys : List SM} : ∀ {xs : List SM} {lc : Lc} {σ : St}, seqS xs lc σ = some (.next, lc₁, σ₁) → seqS (xs ++ ys) lc σ = seqS ys lc₁ σ₁
  | [], lc, σ, h => by cases h; rfl
  | f :: fs, lc, σ, h => oB h fun t e h => by
    rcases t with ⟨fl, lc₂, σ₂⟩
    cases fl with
    | next => rw [List.cons_append, seq_next e]; exact seq_app h
    | _ => exact nomatch h
theorem seq_nil : seqS [] lc σ = some (.next, lc, σ) := rfl
set_option tactic.hygienic false in
theorem if_t {t : TM} {f g : SM} (h : t lc σ = some (true, σ₁)) : ifS t f g lc σ = f lc σ₁ := by simp [ifS, h]
set_option tactic.hygienic false in
theorem if_f {t : TM} {f g : SM} (h : t lc σ = some (false, σ₁)) : ifS t f g lc σ = g lc σ₁ := by simp [ifS, h]
theorem run_next {vars : List Str} {n : Nat} {B : SM} {xs : List AV} (hn : xs.length = n) (h : B (lc0 vars xs) σ = some (.next, lc', σ')) : runF vars n B xs σ = some (.none, σ') := by simp [runF, endF, hn, h, AV.int?, AV.str?, AV.tup?, AV.lst?, AV.loc?, AO.list?, AO.acc?, lstAt, accAt, arg1, arg2, gd_if, gd_true, selfL]
set_option tactic.hygienic false in
theorem run_ret {vars : List Str} {n : Nat} {B : SM} {xs : List AV} {v : AV} (hn : xs.length = n) (h : B (lc0 vars xs) σ = some (.ret v, lc', σ')) : runF vars n B xs σ = some (v, σ') := by simp [runF, endF, hn, h, AV.int?, AV.str?, AV.tup?, AV.lst?, AV.loc?, AO.list?, AO.acc?, lstAt, accAt, arg1, arg2, gd_if, gd_true, selfL]
theorem expr_of {f : EM} {v : AV} (h : f lc σ = some (v, σ₁)) : exprS f lc σ = some (.next, lc, σ₁) := by simp [exprS, h, AV.int?, AV.str?, AV.tup?, AV.lst?, AV.loc?, AO.list?, AO.acc?, lstAt, accAt, arg1, arg2, gd_if, gd_true, selfL]
theorem asg_of {i : Nat} {f : EM} {v : AV} (h : f lc σ = some (v, σ₁)) (hi : i < lc.length) : asgS i f lc σ = some (.next, lc.set i (some v), σ₁) := by simp [asgS, h, putL, hi, AV.int?, AV.str?, AV.tup?, AV.lst?, AV.loc?, AO.list?, AO.acc?, lstAt, accAt, arg1, arg2, gd_if, gd_true, selfL]
end
structure FmtAt (σ : St) (m ln ac : Nat) (ml : Int) (cw : Str) (cwl : Int) (sp : Str) (rows : List Str) (ini : Int) (ps : List (Str × Str)) : Prop where
  fm : σ[m]? = some (.fmt ml cw cwl sp ln ac)
  li : σ[ln]? = some (.list (rows.map AV.str))
  acc : σ[ac]? = some (.acc ini ps)
noncomputable def Same (X : List Nat) (σ σ' : St) : Prop := σ.length ≤ σ'.length ∧ ∀ k, k ∉ X → k < σ.length → σ'[k]? = σ[k]?
set_option tactic.hygienic false in
theorem Same.refl {X : List Nat} {σ : St} : Same X σ σ := ⟨Nat.le_refl _, fun uu uu uu => rfl⟩
set_option tactic.hygienic false in
theorem Same.trans {X : List Nat} {σ σ₁ σ₂ : St} (a : Same X σ σ₁) (b : Same X σ₁ σ₂) : Same X σ σ₂ := ⟨Nat.le_trans a.1 b.1, fun k hk hl => (b.2 k hk (Nat.lt_of_lt_of_le hl a.1)).trans (a.2 k hk hl)⟩
set_option tactic.hygienic false in
theorem Same.set {X : List Nat} {σ : St} {k : Nat} {o : AO} (h : k ∈ X) : Same X σ (σ.set k o) := ⟨by simp, fun j hj uu => by
  rw [List.getElem?_set_ne]
  rintro rfl
  exact hj h⟩
set_option tactic.hygienic false in
theorem Same.app {X : List Nat} {σ : St} (δ : St) : Same X σ (σ ++ δ) := ⟨by simp, fun j uu hl => List.getElem?_append_left hl⟩
set_option tactic.hygienic false in
theorem Same.get {X : List Nat} {σ σ' : St} (a : Same X σ σ') {k : Nat} {o : AO} (hk : k ∉ X) (h : σ[k]? = some o) : σ'[k]? = some o := (a.2 k hk (List.getElem?_eq_some_iff.mp h).1).trans h
section
variable {σ : St} {m ln ac : Nat} {ml : Int} {cw : Str} {cwl : Int} {sp : Str} {rows : List Str} {ini : Int} {ps : List (Str × Str)} {lc : Lc}
set_option tactic.hygienic false in
theorem FmtAt.ne1 (F : FmtAt σ m ln ac ml cw cwl sp rows ini ps) : m ≠ ln := by rintro rfl; have := F.fm; rw [F.li] at this; cases this
set_option tactic.hygienic false in
theorem FmtAt.ne2 (F : FmtAt σ m ln ac ml cw cwl sp rows ini ps) : m ≠ ac := by rintro rfl; have := F.fm; rw [F.acc] at this; cases this
set_option tactic.hygienic false in
theorem FmtAt.ne3 (F : FmtAt σ m ln ac ml cw cwl sp rows ini ps) : ln ≠ ac := by rintro rfl; have := F.li; rw [F.acc] at this; cases this
set_option tactic.hygienic false in
theorem FmtAt.setAcc (F : FmtAt σ m ln ac ml cw cwl sp rows ini ps) (i : Int) (qs : List (Str × Str)) : FmtAt (σ.set ac (.acc i qs)) m ln ac ml cw cwl sp rows i qs :=
  ⟨by rw [List.getElem?_set_ne F.ne2.symm]; exact F.fm, by rw [List.getElem?_set_ne F.ne3.symm]; exact F.li, by rw [List.getElem?_set_self (List.getElem?_eq_some_iff.mp F.acc).1]⟩
set_option tactic.hygienic false in
theorem FmtAt.setLi (F : FmtAt σ m ln ac ml cw cwl sp rows ini ps) (rs : List Str) : FmtAt (σ.set ln (.list (rs.map AV.str))) m ln ac ml cw cwl sp rs ini ps :=
  ⟨by rw [List.getElem?_set_ne F.ne1.symm]; exact F.fm, by rw [List.getElem?_set_self (List.getElem?_eq_some_iff.mp F.li).1], by rw [List.getElem?_set_ne F.ne3]; exact F.acc⟩
set_option tactic.hygienic false in
theorem FmtAt.keep {σ' : St} {X : List Nat} (F : FmtAt σ m ln ac ml cw cwl sp rows ini ps) (S : Same X σ σ') (h1 : m ∉ X) (h2 : ln ∉ X) (h3 : ac ∉ X) : FmtAt σ' m ln ac ml cw cwl sp rows ini ps := ⟨S.get h1 F.fm, S.get h2 F.li, S.get h3 F.acc⟩
set_option tactic.hygienic false in
theorem line_eq (h0 : lc[0]? = some (some (.loc m))) (F : FmtAt σ m ln ac ml cw cwl sp rows ini ps) : lineE lc σ = some (.loc ac, σ) := by simp [lineE, attrE, nE, h0, F.fm, attrOf, fmtAttrs, AV.int?, AV.str?, AV.tup?, AV.lst?, AV.loc?, AO.list?, AO.acc?, lstAt, accAt, arg1, arg2, gd_if, gd_true, selfL]
set_option tactic.hygienic false in
theorem lines_eq (h0 : lc[0]? = some (some (.loc m))) (F : FmtAt σ m ln ac ml cw cwl sp rows ini ps) : linesE lc σ = some (.loc ln, σ) := by simp [linesE, attrE, nE, h0, F.fm, attrOf, fmtAttrs, AV.int?, AV.str?, AV.tup?, AV.lst?, AV.loc?, AO.list?, AO.acc?, lstAt, accAt, arg1, arg2, gd_if, gd_true, selfL]
set_option tactic.hygienic false in
theorem attrLines {f : EM} (hf : f lc σ = some (.loc m, σ)) (F : FmtAt σ m ln ac ml cw cwl sp rows ini ps) : attrE 4 f lc σ = some (.loc ln, σ) := by simp [attrE, hf, F.fm, attrOf, fmtAttrs, AV.int?, AV.str?, AV.tup?, AV.lst?, AV.loc?, AO.list?, AO.acc?, lstAt, accAt, arg1, arg2, gd_if, gd_true, selfL]
set_option tactic.hygienic false in
theorem attrAcc {f : EM} (hf : f lc σ = some (.loc m, σ)) (F : FmtAt σ m ln ac ml cw cwl sp rows ini ps) : attrE 5 f lc σ = some (.loc ac, σ) := by simp [attrE, hf, F.fm, attrOf, fmtAttrs, AV.int?, AV.str?, AV.tup?, AV.lst?, AV.loc?, AO.list?, AO.acc?, lstAt, accAt, arg1, arg2, gd_if, gd_true, selfL]
set_option tactic.hygienic false in
theorem mLine (h0 : lc[0]? = some (some (.loc m))) (F : FmtAt σ m ln ac ml cw cwl sp rows ini ps) {G : FM} {fs : List EM} {xs : List AV} (hf : evs fs lc σ = some (xs, σ)) : mE 4 G lineE fs lc σ = G (.loc ac :: xs) σ := by
  simp [mE, line_eq h0 F, kind_loc_eq, kind_str, kind_lst, kindO, F.acc, hf, AV.int?, AV.str?, AV.tup?, AV.lst?, AV.loc?, AO.list?, AO.acc?, lstAt, accAt, arg1, arg2, gd_if, gd_true, selfL]
set_option tactic.hygienic false in
theorem strAcc_eq (h0 : lc[0]? = some (some (.loc m))) (F : FmtAt σ m ln ac ml cw cwl sp rows ini ps) (hf : accFits ps = true) : strAcc lc σ = some (.str (accText ps), σ) := by
  simp [strAcc, callE, evs, line_eq h0 F, str_eq F.acc hf, AV.int?, AV.str?, AV.tup?, AV.lst?, AV.loc?, AO.list?, AO.acc?, lstAt, accAt, arg1, arg2, gd_if, gd_true, selfL]
set_option tactic.hygienic false in
theorem append_rows (h0 : lc[0]? = some (some (.loc m))) (F : FmtAt σ m ln ac ml cw cwl sp rows ini ps) (hf : accFits ps = true) (hr : rows.length ≤ 1000000) :
    mE 2 appendF linesE [strAcc] lc σ = some (.none, σ.set ln (.list ((rows ++ [accText ps]).map AV.str))) := by
  have h' : rows.length ≤ 16777216 := by (first | lia | omega)
  simp [mE, lines_eq h0 F, kind_loc_eq, kind_str, kind_lst, kindO, F.li, evs, strAcc_eq h0 F hf, appendF_loc, sizeLine_eq, h', AV.int?, AV.str?, AV.tup?, AV.lst?, AV.loc?, AO.list?, AO.acc?, lstAt, accAt, arg1, arg2, gd_if, gd_true, selfL]
end
noncomputable def lastSp (ps : List (Str × Str)) : List (Str × Str) := if ps = [] then [("", "")] else if ps.getLast? = some ((" " : Str), ("" : Str)) then ps.dropLast else ps
noncomputable def onlySp (ini : Int) (ps : List (Str × Str)) : Bool := ini == 0 && (partsLen ps == 0 || Txt.isspace (accText ps))
noncomputable def nlRows (rows : List Str) (ini : Int) (ps : List (Str × Str)) : List Str :=
  if 0 < ini + partsLen (lastSp ps) then (if onlySp ini (lastSp ps) && !rows.isEmpty then rows.dropLast ++ [(rows.getLast?.getD "") ++ accText (lastSp ps)] else rows ++ [accText (lastSp ps)]) else rows
set_option tactic.hygienic false in
theorem cmp_part (σ : St) (a b : Str) : acmp σ .NotEq (partAV (a, b)) (.tup [.str " ", .str ""]) = some ((a, b) != ((" " : Str), ("" : Str))) := by
  simp [acmp, twoInts_int, isNone, partAV, aeqv, toPD_none, toPD_bool, toPD_int, toPD_str, toPD_tup, toPD_lst, toPD_loc, optAll, optAll, PyData.eqv, PyData.eqvAll, bne, AV.int?, AV.str?, AV.tup?, AV.lst?, AV.loc?, AO.list?, AO.acc?, lstAt, accAt, arg1, arg2, gd_if, gd_true, selfL]
  show _ = !((a == (" " : Str)) && (b == ("" : Str)))
  rw [Bool.not_and]
section
variable {σ : St} {m ln ac : Nat} {ml : Int} {cw : Str} {cwl : Int} {sp : Str} {rows : List Str} {ini : Int} {ps : List (Str × Str)} {lc : Lc}
structure Fits (rows : List Str) (ini : Int) (ps : List (Str × Str)) : Prop where
  r : rows.length ≤ 100000
  t : (rows.map (·.length)).sum ≤ 100000
  p : ps.length ≤ 100000
  l : partsLen ps ≤ 100000
  i0 : 0 ≤ ini
  i1 : ini ≤ 100000
set_option tactic.hygienic false in
theorem Fits.acc (H : Fits rows ini ps) : accFits ps = true := accFits_of (by have := H.p; (first | lia | omega)) (by have := H.l; (first | lia | omega))
set_option tactic.hygienic false in
theorem partsLen_dropLast (ps : List (Str × Str)) : partsLen ps.dropLast ≤ partsLen ps := by
  induction ps with
  | nil => exact Int.le_refl _
  | cons p ps ih =>
    cases ps with
    | nil => rw [List.dropLast_singleton, partsLen_cons]; have := partLen_nonneg p; simp [partsLen_nil]; (first | lia | omega)
    | cons q qs => rw [List.dropLast_cons_cons, partsLen_cons, partsLen_cons p (q :: qs)]; (first | lia | omega)
set_option tactic.hygienic false in
theorem Fits.last (H : Fits rows ini ps) : Fits rows ini (lastSp ps) := by
  unfold lastSp
  split
  · exact ⟨H.r, H.t, by simp, by simp [partsLen, partLen]; decide, H.i0, H.i1⟩
  · split
    · exact ⟨H.r, H.t, by rw [List.length_dropLast]; have := H.p; (first | lia | omega), Int.le_trans (partsLen_dropLast ps) H.l, H.i0, H.i1⟩
    · exact H
theorem pop_push (F : FmtAt σ m ln ac ml cw cwl sp rows ini ps) (H : Fits rows ini ps) (lc : Lc) (h0 : lc[0]? = some (some (.loc m))) (hl : lc.length = 2) :
    ∃ σ' lc', seqS [asgS 1 (mE 4 popF lineE []), ifS (cmpT .NotEq (nE 1) (tupE [cE (.str " "), cE (.str "")])) (seqS [exprS (mStarE pushF lineE (nE 1))]) (seqS [])] lc σ = some (.next, lc', σ') ∧ FmtAt σ' m ln ac ml cw cwl sp rows ini (lastSp ps) ∧ Same [ac] σ σ' ∧ lc'[0]? = some (some (.loc m)) ∧ σ'.length = σ.length := by
  obtain ⟨x, y, rfl⟩ : ∃ x y, lc = [x, y] := by
    match lc, hl with
    | [x, y], _ => exact ⟨x, y, rfl⟩
  simp at h0
  subst h0
  have pz := H.p
  rcases List.eq_nil_or_concat ps with rfl | ⟨qs, p, rfl⟩
  · have e1 : asgS 1 (mE 4 popF lineE []) [some (.loc m), y] σ = some (.next, [some (.loc m), some (partAV ("", ""))], σ) := by
      rw [asg_of (v := partAV ("", "")) (σ₁ := σ) (by rw [mLine (fs := []) (xs := []) rfl F rfl, pop_nil F.acc]) (by simp)]; rfl
    have e2 : pushF [.loc ac, .str "", .str ""] σ = some (.none, σ.set ac (.acc ini [("", "")])) := push_eq F.acc (by simp)
    refine ⟨σ.set ac (.acc ini [("", "")]), [some (.loc m), some (partAV ("", ""))], ?_, ?_, .set (by simp), rfl, by simp⟩
    · rw [seq_next e1, seq_next (lc₁ := [some (.loc m), some (partAV ("", ""))]) (σ₁ := σ.set ac (.acc ini [("", "")])), seq_nil]
      rw [if_t (σ₁ := σ)]
      · rw [seq_next (lc₁ := [some (.loc m), some (partAV ("", ""))]) (σ₁ := σ.set ac (.acc ini [("", "")])), seq_nil]
        refine expr_of (v := .none) ?_
        simp only [mStarE, line_eq (lc := [some (.loc m), some (partAV ("", ""))]) rfl F, kind_loc_eq, kind_str, kind_lst, kindO, F.acc, AV.int?, AV.str?, AV.tup?, AV.lst?, AV.loc?, AO.list?, AO.acc?, lstAt, accAt, arg1, arg2, gd_if, gd_true, selfL, Option.bind_some, Option.bind_none, Option.some_or, Option.none_or, Option.or_none, Option.map_some, Option.map_none, Option.getD_some, ↓reduceIte]
        simp [nE, partAV, e2, AV.int?, AV.str?, AV.tup?, AV.lst?, AV.loc?, AO.list?, AO.acc?, lstAt, accAt, arg1, arg2, gd_if, gd_true, selfL]
      · simp [cmpT, nE, tupE, evs, cE, sizeLine_eq, cmp_part, AV.int?, AV.str?, AV.tup?, AV.lst?, AV.loc?, AO.list?, AO.acc?, lstAt, accAt, arg1, arg2, gd_if, gd_true, selfL]
        decide
    · exact F.setAcc _ _
  · rw [List.concat_eq_append] at F H ⊢
    have hq : qs.length < 100000 := by have := H.p; simp at this; (first | lia | omega)
    have e1 : asgS 1 (mE 4 popF lineE []) [some (.loc m), y] σ = some (.next, [some (.loc m), some (partAV p)], σ.set ac (.acc ini qs)) := by
      rw [asg_of (v := partAV p) (σ₁ := σ.set ac (.acc ini qs)) (by rw [mLine (fs := []) (xs := []) rfl F rfl, pop_snoc F.acc (by (first | lia | omega))]) (by simp)]; rfl
    have F1 := F.setAcc ini qs
    by_cases hp : p = ((" " : Str), ("" : Str))
    · subst hp
      refine ⟨σ.set ac (.acc ini qs), [some (.loc m), some (partAV (" ", ""))], ?_, ?_, .set (by simp), rfl, by simp⟩
      · rw [seq_next e1, seq_next (lc₁ := [some (.loc m), some (partAV (" ", ""))]) (σ₁ := σ.set ac (.acc ini qs)), seq_nil]
        rw [if_f (σ₁ := σ.set ac (.acc ini qs)), seq_nil]
        simp [cmpT, nE, tupE, evs, cE, sizeLine_eq, cmp_part, AV.int?, AV.str?, AV.tup?, AV.lst?, AV.loc?, AO.list?, AO.acc?, lstAt, accAt, arg1, arg2, gd_if, gd_true, selfL]
      · have : lastSp (qs ++ [((" " : Str), ("" : Str))]) = qs := by simp [lastSp]
        rw [this]; exact F1
    · obtain ⟨f, t⟩ := p
      have e2 : pushF [.loc ac, .str f, .str t] (σ.set ac (.acc ini qs)) = some (.none, (σ.set ac (.acc ini qs)).set ac (.acc ini (qs ++ [(f, t)]))) := push_eq F1.acc (by (first | lia | omega))
      refine ⟨(σ.set ac (.acc ini qs)).set ac (.acc ini (qs ++ [(f, t)])), [some (.loc m), some (partAV (f, t))], ?_, ?_, (Same.set (by simp)).trans (.set (by simp)), rfl, by simp⟩
      · rw [seq_next e1, seq_next (lc₁ := [some (.loc m), some (partAV (f, t))]) (σ₁ := (σ.set ac (.acc ini qs)).set ac (.acc ini (qs ++ [(f, t)]))), seq_nil]
        rw [if_t (σ₁ := σ.set ac (.acc ini qs))]
        · rw [seq_next (lc₁ := [some (.loc m), some (partAV (f, t))]) (σ₁ := (σ.set ac (.acc ini qs)).set ac (.acc ini (qs ++ [(f, t)]))), seq_nil]
          refine expr_of (v := .none) ?_
          simp only [mStarE, line_eq (lc := [some (.loc m), some (partAV (f, t))]) rfl F1, kind_loc_eq, kind_str, kind_lst, kindO, F1.acc, AV.int?, AV.str?, AV.tup?, AV.lst?, AV.loc?, AO.list?, AO.acc?, lstAt, accAt, arg1, arg2, gd_if, gd_true, selfL, Option.bind_some, Option.bind_none, Option.some_or, Option.none_or, Option.or_none, Option.map_some, Option.map_none, Option.getD_some, ↓reduceIte]
          simp only [nE, partAV, List.getElem?_cons_succ, List.getElem?_cons_zero, AV.int?, AV.str?, AV.tup?, AV.lst?, AV.loc?, AO.list?, AO.acc?, lstAt, accAt, arg1, arg2, gd_if, gd_true, selfL, Option.bind_some, Option.bind_none, Option.some_or, Option.none_or, Option.or_none, Option.map_some, Option.map_none, Option.getD_some, ↓reduceIte]
          simp [e2]
        · have : ((f, t) != ((" " : Str), ("" : Str))) = true := by simpa [bne_iff_ne] using hp
          simp [cmpT, nE, tupE, evs, cE, sizeLine_eq, cmp_part, this, AV.int?, AV.str?, AV.tup?, AV.lst?, AV.loc?, AO.list?, AO.acc?, lstAt, accAt, arg1, arg2, gd_if, gd_true, selfL]
      · have : lastSp (qs ++ [(f, t)]) = qs ++ [(f, t)] := by
          unfold lastSp
          rw [if_neg (by simp), if_neg]
          simpa using hp
        rw [this]; exact F1.setAcc _ _
set_option tactic.hygienic false in
theorem onlyE_eq (h0 : lc[0]? = some (some (.loc m))) (F : FmtAt σ m ln ac ml cw cwl sp rows ini ps) (H : Fits rows ini ps) : trT (mE 4 onlywsF lineE []) lc σ = some (onlySp ini ps, σ) := by
  have e := onlyws_eq F.acc H.acc H.i0 (by have := H.i1; (first | lia | omega))
  simp [trT, mLine (fs := []) (xs := []) h0 F rfl, e, atruth_none, atruth_bool, atruth_int, atruth_str, atruth_lst, atruth_loc, onlySp, AV.int?, AV.str?, AV.tup?, AV.lst?, AV.loc?, AO.list?, AO.acc?, lstAt, accAt, arg1, arg2, gd_if, gd_true, selfL]
set_option tactic.hygienic false in
theorem rowsT_eq (h0 : lc[0]? = some (some (.loc m))) (F : FmtAt σ m ln ac ml cw cwl sp rows ini ps) (H : Fits rows ini ps) : trT linesE lc σ = some (!rows.isEmpty, σ) := by
  have : rows.length ≤ 16777216 := by have := H.r; (first | lia | omega)
  simp [trT, lines_eq h0 F, atruth_none, atruth_bool, atruth_int, atruth_str, atruth_lst, atruth_loc, asList_lst, asList_loc, F.li, sizeLine_eq, this, AV.int?, AV.str?, AV.tup?, AV.lst?, AV.loc?, AO.list?, AO.acc?, lstAt, accAt, arg1, arg2, gd_if, gd_true, selfL]
set_option tactic.hygienic false in
theorem lenLine_eq (h0 : lc[0]? = some (some (.loc m))) (F : FmtAt σ m ln ac ml cw cwl sp rows ini ps) (H : Fits rows ini ps) : callE (lenF accLenF) [lineE] lc σ = some (.int (ini + partsLen ps), σ) := by
  simp [callE, evs, line_eq h0 F, len_eq F.acc H.acc H.i0 (show ini ≤ 1000000 by have := H.i1; (first | lia | omega)), AV.int?, AV.str?, AV.tup?, AV.lst?, AV.loc?, AO.list?, AO.acc?, lstAt, accAt, arg1, arg2, gd_if, gd_true, selfL]
set_option tactic.hygienic false in
theorem str_len_eq (x y : Str) : (x ++ y).length = x.length + y.length := by
  show (x ++ y).cps.size = _
  rw [Str.cps_append, Array.size_append]
  rfl
set_option tactic.hygienic false in
theorem fold_cps (xs : List Str) : ∀ acc : Array Nat, (xs.foldl (fun acc p => acc ++ ("" : Str).cps ++ p.cps) acc).toList = acc.toList ++ (xs.map (·.cps.toList)).flatten := by
  induction xs with
  | nil => intro acc; simp
  | cons x xs ih =>
    intro acc
    rw [List.foldl_cons, ih]
    have : ("" : Str).cps = #[] := by decide
    simp [this]
set_option tactic.hygienic false in
theorem join_cps (xs : List Str) : (Txt.join "" xs).cps.toList = (xs.map (·.cps.toList)).flatten := by
  cases xs with
  | nil => rfl
  | cons x xs =>
    show (xs.foldl (fun acc p => acc ++ ("" : Str).cps ++ p.cps) x.cps).toList = _
    rw [fold_cps]; simp
set_option tactic.hygienic false in
theorem str_ext {x y : Str} (h : x.cps.toList = y.cps.toList) : x = y := by
  cases x; cases y
  simp at h
  simp [h]
set_option tactic.hygienic false in
theorem app_cps (x y : Str) : (x ++ y).cps.toList = x.cps.toList ++ y.cps.toList := by rw [Str.cps_append, Array.toList_append]
set_option tactic.hygienic false in
theorem join_cons (x : Str) (xs : List Str) : Txt.join "" (x :: xs) = x ++ Txt.join "" xs := str_ext (by rw [join_cps, app_cps, join_cps]; simp)
set_option tactic.hygienic false in
theorem accText_nil : accText [] = "" := rfl
set_option tactic.hygienic false in
theorem accText_cons (p : Str × Str) (ps : List (Str × Str)) : accText (p :: ps) = partStr p ++ accText ps := by unfold accText; rw [List.map_cons, join_cons]
set_option tactic.hygienic false in
theorem str_app_assoc (x y z : Str) : x ++ y ++ z = x ++ (y ++ z) := str_ext (by simp only [app_cps, List.append_assoc])
set_option tactic.hygienic false in
theorem str_nil_app (x : Str) : "" ++ x = x := str_ext (by rw [app_cps]; rfl)
set_option tactic.hygienic false in
theorem str_app_nil (x : Str) : x ++ "" = x := str_ext (by rw [app_cps, show ("" : Str).cps.toList = [] from by decide, List.append_nil])
set_option tactic.hygienic false in
theorem accText_append (ps qs : List (Str × Str)) : accText (ps ++ qs) = accText ps ++ accText qs := by
  induction ps with
  | nil => rw [List.nil_append, accText_nil, str_nil_app]
  | cons p ps ih => rw [List.cons_append, accText_cons, accText_cons, ih, str_app_assoc]
set_option tactic.hygienic false in
theorem accText_len (ps : List (Str × Str)) : ((accText ps).length : Int) = partsLen ps := by
  induction ps with
  | nil => rfl
  | cons p ps ih => rw [accText_cons, str_len_eq, partsLen_cons, Int.natCast_add, ih, partStr_len]
theorem glue_row (h0 : lc[0]? = some (some (.loc m))) (F : FmtAt σ m ln ac ml cw cwl sp rows ini ps) (H : Fits rows ini ps) (hr : rows ≠ []) :
    augIdxS linesE (negE (cE (.int 1))) .Add strAcc lc σ = some (.next, lc, σ.set ln (.list ((rows.dropLast ++ [(rows.getLast?.getD "") ++ accText ps]).map AV.str))) := by
  obtain ⟨rs, r, rfl⟩ : ∃ rs r, rows = rs ++ [r] := by
    rcases List.eq_nil_or_concat rows with h | ⟨rs, r, h⟩
    · exact absurd h hr
    · exact ⟨rs, r, by rw [h, List.concat_eq_append]⟩
  have hn := H.r
  rw [List.length_append, List.length_singleton] at hn
  have ht := H.t
  rw [List.map_append, List.sum_append] at ht
  simp at ht
  have e1 : seqIndex? (-1) (rs.length + 1) = some rs.length := sidx_last (Nat.succ_pos _)
  have e2 : (accText ps).length ≤ 100000 := by have := accText_len ps; have := H.l; (first | lia | omega)
  have e3 : r.length + (accText ps).length ≤ 1000000 := by (first | lia | omega)
  have e4 := putAt_list (v := .str (r ++ accText ps)) (i := -1) F.li (by decide) (by rw [List.length_map, List.length_append]; exact e1) (by rw [List.length_map, List.length_append]; exact Nat.lt_succ_self _)
  have e5 : aget σ (.loc ln) (-1) = some (.str r) := by
    rw [aget_seq (asSeq_list F.li), if_pos (by decide), List.length_map, List.length_append, List.length_singleton, e1]
    simp
  have e6 : ainp .Add (.str r) (.str (accText ps)) = some (.str (r ++ accText ps)) := by rw [ainp_str, gd_of (decide_eq_true e3)]
  simp [augIdxS, lines_eq h0 F, negE, cE, AV.loc?, AV.int?, e5, strAcc_eq h0 F H.acc, e6, e4]
theorem newline_spec (F : FmtAt σ m ln ac ml cw cwl sp rows ini ps) (H : Fits rows ini ps) : ∃ σ', newlineF [.loc m] σ = some (.none, σ') ∧ FmtAt σ' m ln ac ml cw cwl sp (nlRows rows ini ps) 0 [] ∧ Same [ln, ac] σ σ' ∧ σ'.length = σ.length := by
  (refine x2_5 (pop_push F H (lc0 ["self", "end_of_line"] [.loc m]) rfl rfl) fun σ₁ lc₁ e1 F1 S1 h1 z1 => ?_)
  have H1 := H.last
  have S1' : Same [ln, ac] σ σ₁ := ⟨S1.1, fun k hk => S1.2 k (by simp at hk ⊢; exact hk.2)⟩
  have fin : ∀ {σ₂ : St} {rs : List Str} {i : Int} {qs : List (Str × Str)}, FmtAt σ₂ m ln ac ml cw cwl sp rs i qs → qs.length ≤ 1000000 → exprS (mE 4 resetF lineE []) lc₁ σ₂ = some (.next, lc₁, σ₂.set ac (.acc 0 [])) := fun G hq => expr_of (v := .none) (by rw [mLine (fs := []) (xs := []) h1 G rfl, reset1_eq G.acc hq])
  have hq : (lastSp ps).length ≤ 1000000 := by have := H1.p; (first | lia | omega)
  have go : ∀ {σ₂ : St} {rs : List Str}, ifS (cmpT .Gt (callE (lenF accLenF) [lineE]) (cE (.int 0)))
    (seqS [ifS (andT [trT (mE 4 onlywsF lineE []), trT linesE])
      (seqS [augIdxS linesE (negE (cE (.int 1))) .Add strAcc])
      (seqS [exprS (mE 2 appendF linesE [strAcc])])]) (seqS []) lc₁ σ₁ = some (.next, lc₁, σ₂) → FmtAt σ₂ m ln ac ml cw cwl sp rs ini (lastSp ps) → Same [ln, ac] σ₁ σ₂ → σ₂.length = σ₁.length → nlRows rows ini ps = rs →
      ∃ σ', newlineF [.loc m] σ = some (.none, σ') ∧ FmtAt σ' m ln ac ml cw cwl sp (nlRows rows ini ps) 0 [] ∧ Same [ln, ac] σ σ' ∧ σ'.length = σ.length := by
    intro σ₂ rs e2 F2 S2 z2 hr
    refine ⟨σ₂.set ac (.acc 0 []), ?_, ?_, (S1'.trans S2).trans (.set (by simp)), by simp [z2, z1]⟩
    · refine run_next (lc' := lc₁) rfl ?_
      have : newlineB (lc0 ["self", "end_of_line"] [.loc m]) σ = seqS [ifS (cmpT .Gt (callE (lenF accLenF) [lineE]) (cE (.int 0)))
          (seqS [ifS (andT [trT (mE 4 onlywsF lineE []), trT linesE])
            (seqS [augIdxS linesE (negE (cE (.int 1))) .Add strAcc])
            (seqS [exprS (mE 2 appendF linesE [strAcc])])]) (seqS []), exprS (mE 4 resetF lineE [])] lc₁ σ₁ := by
        exact seq_app e1
      rw [this, seq_next e2, seq_next (fin F2 hq), seq_nil]
    · rw [hr]; exact F2.setAcc 0 []
  have eL := lenLine_eq h1 F1 H1
  by_cases hpos : 0 < ini + partsLen (lastSp ps)
  · have t1 : cmpT .Gt (callE (lenF accLenF) [lineE]) (cE (.int 0)) lc₁ σ₁ = some (true, σ₁) := by simp [cmpT, eL, cE, acmp, twoInts_int, isNone, aeqv, toPD_none, toPD_bool, toPD_int, toPD_str, toPD_tup, toPD_lst, toPD_loc, optAll, PyData.eqv, hpos, AV.int?, AV.str?, AV.tup?, AV.lst?, AV.loc?, AO.list?, AO.acc?, lstAt, accAt, arg1, arg2, gd_if, gd_true, selfL]
    by_cases hg : (onlySp ini (lastSp ps) && !rows.isEmpty) = true
    · have hne : rows ≠ [] := by rintro rfl; simp at hg
      refine go (rs := rows.dropLast ++ [(rows.getLast?.getD "") ++ accText (lastSp ps)]) ?_ (F1.setLi _) (.set (by simp)) (by simp) (by unfold nlRows; rw [if_pos hpos, if_pos hg])
      rw [if_t t1, seq_next (lc₁ := lc₁) (σ₁ := σ₁.set ln (.list ((rows.dropLast ++ [(rows.getLast?.getD "") ++ accText (lastSp ps)]).map AV.str))), seq_nil]
      rw [if_t (σ₁ := σ₁), seq_next (glue_row h1 F1 H1 hne), seq_nil]
      rw [Bool.and_eq_true] at hg
      simp only [andT, onlyE_eq h1 F1 H1, rowsT_eq h1 F1 H1, hg.1, hg.2, AV.int?, AV.str?, AV.tup?, AV.lst?, AV.loc?, AO.list?, AO.acc?, lstAt, accAt, arg1, arg2, gd_if, gd_true, selfL, Option.bind_some, Option.bind_none, Option.some_or, Option.none_or, Option.or_none, Option.map_some, Option.map_none, Option.getD_some, ↓reduceIte]
    · refine go (rs := rows ++ [accText (lastSp ps)]) ?_ (F1.setLi _) (.set (by simp)) (by simp) (by unfold nlRows; rw [if_pos hpos, if_neg hg])
      rw [if_t t1, seq_next (lc₁ := lc₁) (σ₁ := σ₁.set ln (.list ((rows ++ [accText (lastSp ps)]).map AV.str))), seq_nil]
      rw [if_f (σ₁ := σ₁), seq_next (expr_of (append_rows h1 F1 H1.acc (by have := H.r; (first | lia | omega)))), seq_nil]
      simp only [andT, onlyE_eq h1 F1 H1, rowsT_eq h1 F1 H1, AV.int?, AV.str?, AV.tup?, AV.lst?, AV.loc?, AO.list?, AO.acc?, lstAt, accAt, arg1, arg2, gd_if, gd_true, selfL, Option.bind_some, Option.bind_none, Option.some_or, Option.none_or, Option.or_none, Option.map_some, Option.map_none, Option.getD_some, ↓reduceIte]
      cases h3 : onlySp ini (lastSp ps) with
      | false => rfl
      | true =>
        cases h4 : rows.isEmpty with
        | true => rfl
        | false => rw [h3, h4] at hg; exact absurd rfl hg
  · refine go (rs := rows) ?_ F1 .refl rfl (by unfold nlRows; rw [if_neg hpos])
    rw [if_f (σ₁ := σ₁), seq_nil]
    simp [cmpT, eL, cE, acmp, twoInts_int, isNone, aeqv, toPD_none, toPD_bool, toPD_int, toPD_str, toPD_tup, toPD_lst, toPD_loc, optAll, PyData.eqv, hpos, AV.int?, AV.str?, AV.tup?, AV.lst?, AV.loc?, AO.list?, AO.acc?, lstAt, accAt, arg1, arg2, gd_if, gd_true, selfL]
end
end Mine.Internal
end
section
set_option linter.all false
open PySem PySem.W PyProof.Rows PySem.Calls
namespace Mine.Internal
noncomputable def startsC (x : Str) (c : Nat) : Bool := x.cps[0]? == some c
noncomputable def endsC (x : Str) (c : Nat) : Bool := x.cps[x.cps.size - 1]? == some c
noncomputable def fstAt (ps : List (Str × Str)) (i : Nat) : Str := (ps[i]?.map (·.1)).getD ""
noncomputable def sndAt (ps : List (Str × Str)) (i : Nat) : Str := (ps[i]?.map (·.2)).getD ""
noncomputable def hitAt (ps : List (Str × Str)) (c i : Nat) : Bool := (Txt.isspace ⟨#[c]⟩ && startsC (fstAt ps i) c) || endsC (sndAt ps (i - 1)) c
noncomputable def seekI (ps : List (Str × Str)) (c : Nat) : Nat → Option Nat
  | 0 => none
  | i + 1 => if hitAt ps c (i + 1) then some (i + 1) else seekI ps c i
noncomputable def seek (ps : List (Str × Str)) : List Nat → Option Nat
  | [] => none
  | c :: r => match seekI ps c (ps.length - 1) with
    | some i => some i
    | none => seek ps r
set_option tactic.hygienic false in
theorem rangeDown (n : Nat) : Builtin.Range.rangeSize (n : Int) 0 (-1) = n := by
  unfold Builtin.Range.rangeSize
  simp
  try (first | lia | omega)
set_option tactic.hygienic false in
theorem sgn_beq (a b : Nat) : ((⟨#[a]⟩ : Str) == ⟨#[b]⟩) = (a == b) := by
  rw [Bool.eq_iff_iff, beq_iff_eq, beq_iff_eq]
  simp
section
variable {σ : St} {m ln ac : Nat} {ml : Int} {cw : Str} {cwl : Int} {sp : Str} {rows : List Str} {ini : Int} {ps : List (Str × Str)} {lc : Lc}
set_option tactic.hygienic false in
theorem aget_part {i : Nat} {p : Str × Str} (h : σ[ac]? = some (.acc ini ps)) (hp : ps[i]? = some p) (hl : ps.length ≤ 100000) : aget σ (.loc ac) (i : Int) = some (partAV p) := by
  have hi := (List.getElem?_eq_some_iff.mp hp).1
  have e : seqIndex? (i : Int) ps.length = some i := sidx hi
  rw [aget_seq (asSeq_acc h), if_pos (by (first | lia | omega)), List.length_map, e]
  show (ps.map partAV)[i]? = _
  rw [List.getElem?_map, hp]
  rfl
set_option tactic.hygienic false in
theorem startsT_eq {i : Nat} {x : Str} {c j : Nat} (h1 : lc[i]? = some (some (.str x))) (h3 : lc[j]? = some (some (signAV c))) (hx : x.length ≤ 100000) :
    andT [trT (nE i), cmpT .Eq (idxE (nE i) (cE (.int 0))) (nE j)] lc σ = some (startsC x c, σ) := by
  have hz : x.length ≤ 16777216 := by (first | lia | omega)
  unfold startsC
  cases hx0 : x.cps[0]? with
  | none =>
    have : x.cps.size = 0 := by
      rcases Nat.eq_zero_or_pos x.cps.size with h | h
      · exact h
      · rw [Array.getElem?_eq_getElem h] at hx0; cases hx0
    have e : ((x.length : Int) != 0) = false := by
      have : x.length = 0 := this
      simp [this]
    simp [andT, trT, nE, h1, atruth_none, atruth_bool, atruth_int, atruth_str, atruth_lst, atruth_loc, sizeLine_eq, hz, e, AV.int?, AV.str?, AV.tup?, AV.lst?, AV.loc?, AO.list?, AO.acc?, lstAt, accAt, arg1, arg2, gd_if, gd_true, selfL]
  | some a =>
    have hpos : 0 < x.cps.size := (Array.getElem?_eq_some_iff.mp hx0).1
    have e : ((x.length : Int) != 0) = true := by
      have : 0 < x.length := hpos
      rw [bne_iff_ne]; (first | lia | omega)
    have e2 : seqIndex? 0 x.length = some 0 := sidx (k := 0) hpos
    simp [andT, trT, nE, h1, atruth_none, atruth_bool, atruth_int, atruth_str, atruth_lst, atruth_loc, sizeLine_eq, hz, e, cmpT, idxE, cE, aget_tup, aget_lst, aget_str, e2, hx0, h3, signAV, acmp, twoInts_int, isNone, aeqv, toPD_none, toPD_bool, toPD_int, toPD_str, toPD_tup, toPD_lst, toPD_loc, optAll, PyData.eqv, sgn_beq, AV.int?, AV.str?, AV.tup?, AV.lst?, AV.loc?, AO.list?, AO.acc?, lstAt, accAt, arg1, arg2, gd_if, gd_true, selfL]
    split <;> simp_all
set_option tactic.hygienic false in
theorem endsT_eq {i : Nat} {x : Str} {c j : Nat} (h1 : lc[i]? = some (some (.str x))) (h3 : lc[j]? = some (some (signAV c))) (hx : x.length ≤ 100000) :
    andT [trT (nE i), cmpT .Eq (idxE (nE i) (negE (cE (.int 1)))) (nE j)] lc σ = some (endsC x c, σ) := by
  have hz : x.length ≤ 16777216 := by (first | lia | omega)
  unfold endsC
  cases hx0 : x.cps[x.cps.size - 1]? with
  | none =>
    have : x.cps.size = 0 := by
      rcases Nat.eq_zero_or_pos x.cps.size with h | h
      · exact h
      · rw [Array.getElem?_eq_getElem (by (first | lia | omega))] at hx0; cases hx0
    have e : ((x.length : Int) != 0) = false := by
      have : x.length = 0 := this
      simp [this]
    simp [andT, trT, nE, h1, atruth_none, atruth_bool, atruth_int, atruth_str, atruth_lst, atruth_loc, sizeLine_eq, hz, e, AV.int?, AV.str?, AV.tup?, AV.lst?, AV.loc?, AO.list?, AO.acc?, lstAt, accAt, arg1, arg2, gd_if, gd_true, selfL]
  | some a =>
    have hpos : 0 < x.cps.size := by have := (Array.getElem?_eq_some_iff.mp hx0).1; (first | lia | omega)
    have e : ((x.length : Int) != 0) = true := by
      have : 0 < x.length := hpos
      rw [bne_iff_ne]; (first | lia | omega)
    have e2 : seqIndex? (-1) x.length = some (x.cps.size - 1) := sidx_last hpos
    simp [andT, trT, nE, h1, atruth_none, atruth_bool, atruth_int, atruth_str, atruth_lst, atruth_loc, sizeLine_eq, hz, e, cmpT, idxE, cE, negE, aget_tup, aget_lst, aget_str, e2, hx0, h3, signAV, acmp, twoInts_int, isNone, aeqv, toPD_none, toPD_bool, toPD_int, toPD_str, toPD_tup, toPD_lst, toPD_loc, optAll, PyData.eqv, sgn_beq, AV.int?, AV.str?, AV.tup?, AV.lst?, AV.loc?, AO.list?, AO.acc?, lstAt, accAt, arg1, arg2, gd_if, gd_true, selfL]
    split <;> simp_all
set_option tactic.hygienic false in
theorem part_small {p : Str × Str} (H : Fits rows ini ps) (h : p ∈ ps) : p.1.length ≤ 100000 ∧ p.2.length ≤ 100000 := by
  have := partLen_le h
  have := H.l
  unfold partLen at *
  (first | lia | omega)
set_option tactic.hygienic false in
theorem fst_eq {i : Nat} (h0 : lc[0]? = some (some (.loc m))) (h4 : lc[4]? = some (some (.int (i : Int)))) (F : FmtAt σ m ln ac ml cw cwl sp rows ini ps) (H : Fits rows ini ps) (hi : i < ps.length) :
    idxE (idxE lineE (nE 4)) (cE (.int 0)) lc σ = some (.str (fstAt ps i), σ) := by
  have e : fstAt ps i = ps[i].1 := by unfold fstAt; rw [List.getElem?_eq_getElem hi]; rfl
  rw [e]
  exact idx_of (idx_of (line_eq h0 F) (nE_of h4) (aget_part F.acc (List.getElem?_eq_getElem hi) H.p)) rfl aget_fst
set_option tactic.hygienic false in
theorem snd_eq {i : Nat} (h0 : lc[0]? = some (some (.loc m))) (h4 : lc[4]? = some (some (.int ((i + 1 : Nat) : Int)))) (F : FmtAt σ m ln ac ml cw cwl sp rows ini ps) (H : Fits rows ini ps) (hi : i < ps.length) :
    idxE (idxE lineE (binE .Sub (nE 4) (cE (.int 1)))) (cE (.int 1)) lc σ = some (.str (sndAt ps i), σ) := by
  have e : sndAt ps i = ps[i].2 := by unfold sndAt; rw [List.getElem?_eq_getElem hi]; rfl
  have e3 : (((i + 1 : Nat) : Int) - 1) = (i : Int) := by (first | lia | omega)
  have e4 : binE .Sub (nE 4) (cE (.int 1)) lc σ = some (.int (i : Int), σ) := by simp [binE, nE, h4, cE, abin, twoI_int, e3]
  rw [e]
  exact idx_of (idx_of (line_eq h0 F) e4 (aget_part F.acc (List.getElem?_eq_getElem hi) H.p)) rfl aget_snd
theorem seekB_spec {c i : Nat} {a1 a2 a5 a6 a7 : Option AV} (F : FmtAt σ m ln ac ml cw cwl sp rows ini ps) (H : Fits rows ini ps) (hi : i + 1 < ps.length) :
    ∃ b1 b5, seekB [some (.loc m), a1, a2, some (signAV c), some (.int ((i + 1 : Nat) : Int)), a5, a6, a7] σ = some (if hitAt ps c (i + 1) then .brk else .next, [some (.loc m), b1, a2, some (signAV c), some (.int ((i + 1 : Nat) : Int)), b5, a6, a7], σ) := by
  have p1 := part_small H (List.getElem_mem hi)
  have p2 := part_small H (List.getElem_mem (Nat.lt_of_succ_lt hi))
  have f1 : (fstAt ps (i + 1)).length ≤ 100000 := by simp [fstAt, List.getElem?_eq_getElem hi]; exact p1.1
  have f2 : (sndAt ps i).length ≤ 100000 := by simp [sndAt, List.getElem?_eq_getElem (Nat.lt_of_succ_lt hi)]; exact p2.2
  have sec : ∀ b1, ∃ b5, seqS [asgS 5 (idxE (idxE lineE (binE .Sub (nE 4) (cE (.int 1)))) (cE (.int 1))),
      ifS (andT [trT (nE 5), cmpT .Eq (idxE (nE 5) (negE (cE (.int 1)))) (nE 3)]) (seqS [brkS]) (seqS [])] [some (.loc m), b1, a2, some (signAV c), some (.int ((i + 1 : Nat) : Int)), a5, a6, a7] σ =
      some (if endsC (sndAt ps i) c then .brk else .next, [some (.loc m), b1, a2, some (signAV c), some (.int ((i + 1 : Nat) : Int)), b5, a6, a7], σ) := by
    intro b1
    refine ⟨some (.str (sndAt ps i)), ?_⟩
    rw [seq_next (asg_of (snd_eq rfl rfl F H (Nat.lt_of_succ_lt hi)) (by simp))]
    show seqS _ [some (.loc m), b1, a2, some (signAV c), some (.int ((i + 1 : Nat) : Int)), some (.str (sndAt ps i)), a6, a7] σ = _
    have e := endsT_eq (σ := σ) (lc := [some (.loc m), b1, a2, some (signAV c), some (.int ((i + 1 : Nat) : Int)), some (.str (sndAt ps i)), a6, a7]) (i := 5) (j := 3) rfl rfl f2
    cases hE : endsC (sndAt ps i) c with
    | true =>
      rw [hE] at e
      rw [seq_brk (lc₁ := [some (.loc m), b1, a2, some (signAV c), some (.int ((i + 1 : Nat) : Int)), some (.str (sndAt ps i)), a6, a7]) (σ₁ := σ)]
      · rfl
      · rw [if_t e]; rfl
    | false =>
      rw [hE] at e
      rw [seq_next (lc₁ := [some (.loc m), b1, a2, some (signAV c), some (.int ((i + 1 : Nat) : Int)), some (.str (sndAt ps i)), a6, a7]) (σ₁ := σ), seq_nil]
      · rfl
      · rw [if_f e]; rfl
  have tsp : trT (mE 1 isspaceF (nE 3) []) [some (.loc m), a1, a2, some (signAV c), some (.int ((i + 1 : Nat) : Int)), a5, a6, a7] σ = some (Txt.isspace ⟨#[c]⟩, σ) := by
    simp [trT, mE, nE, signAV, kind_loc_eq, kind_str, kind_lst, kindO, evs, isspaceF, atruth_none, atruth_bool, atruth_int, atruth_str, atruth_lst, atruth_loc, AV.int?, AV.str?, AV.tup?, AV.lst?, AV.loc?, AO.list?, AO.acc?, lstAt, accAt, arg1, arg2, gd_if, gd_true, selfL]
  unfold seekB
  cases hsp : Txt.isspace ⟨#[c]⟩ with
  | false =>
    rw [hsp] at tsp
    (refine x1_1 (sec a1) fun b5 e => ?_)
    refine ⟨a1, b5, ?_⟩
    rw [seq_next (lc₁ := [some (.loc m), a1, a2, some (signAV c), some (.int ((i + 1 : Nat) : Int)), a5, a6, a7]) (σ₁ := σ) (by rw [if_f tsp]; rfl), e]
    simp [hitAt, hsp]
  | true =>
    rw [hsp] at tsp
    have e1 := startsT_eq (σ := σ) (lc := [some (.loc m), some (.str (fstAt ps (i + 1))), a2, some (signAV c), some (.int ((i + 1 : Nat) : Int)), a5, a6, a7]) (i := 1) (j := 3) rfl rfl f1
    have body : ∀ fl lc', seqS [ifS (andT [trT (nE 1), cmpT .Eq (idxE (nE 1) (cE (.int 0))) (nE 3)]) (seqS [brkS]) (seqS [])] [some (.loc m), some (.str (fstAt ps (i + 1))), a2, some (signAV c), some (.int ((i + 1 : Nat) : Int)), a5, a6, a7] σ = some (fl, lc', σ) →
        ifS (trT (mE 1 isspaceF (nE 3) [])) (seqS [
          asgS 1 (idxE (idxE lineE (nE 4)) (cE (.int 0))),
          ifS (andT [trT (nE 1), cmpT .Eq (idxE (nE 1) (cE (.int 0))) (nE 3)]) (seqS [brkS]) (seqS [])]) (seqS []) [some (.loc m), a1, a2, some (signAV c), some (.int ((i + 1 : Nat) : Int)), a5, a6, a7] σ = some (fl, lc', σ) := by
      intro fl lc' h
      rw [if_t tsp, seq_next (asg_of (fst_eq rfl rfl F H hi) (by simp))]
      exact h
    cases hS : startsC (fstAt ps (i + 1)) c with
    | true =>
      rw [hS] at e1
      refine ⟨some (.str (fstAt ps (i + 1))), a5, ?_⟩
      rw [seq_brk (body .brk [some (.loc m), some (.str (fstAt ps (i + 1))), a2, some (signAV c), some (.int ((i + 1 : Nat) : Int)), a5, a6, a7] (seq_brk (by rw [if_t e1]; rfl)))]
      simp [hitAt, hsp, hS]
    | false =>
      rw [hS] at e1
      (refine x1_1 (sec (some (.str (fstAt ps (i + 1))))) fun b5 e => ?_)
      refine ⟨some (.str (fstAt ps (i + 1))), b5, ?_⟩
      rw [seq_next (body .next [some (.loc m), some (.str (fstAt ps (i + 1))), a2, some (signAV c), some (.int ((i + 1 : Nat) : Int)), a5, a6, a7] (by rw [seq_next (by rw [if_f e1]; rfl)]; rfl)), e]
      simp [hitAt, hsp, hS]
end
end Mine.Internal
end
section
set_option linter.all false
open PySem PySem.W PyProof.Rows PySem.Calls
namespace Mine.Internal
section
variable {σ : St} {m ln ac : Nat} {ml : Int} {cw : Str} {cwl : Int} {sp : Str} {rows : List Str} {ini : Int} {ps : List (Str × Str)} {lc : Lc}
theorem inner_spec {c N : Nat} (F : FmtAt σ m ln ac ml cw cwl sp rows ini ps) (H : Fits rows ini ps) (hN : N + 1 = ps.length) :
    ∀ (k t fuel : Nat) (a1 a2 a4 a5 a6 a7 : Option AV), k + t = N → k < fuel → ∃ b1 b4 b5, loopS (nxR (N : Int) 0 (-1)) (fun lc y => putL lc 4 y) seekB (seqS [contS]) fuel t [some (.loc m), a1, a2, some (signAV c), a4, a5, a6, a7] σ =
      some (match seekI ps c k with | some _ => .next | none => .cont, [some (.loc m), b1, a2, some (signAV c), b4, b5, a6, a7], σ) ∧ ∀ i, seekI ps c k = some i → b4 = some (.int (i : Int)) := by
  intro k
  induction k with
  | zero =>
    intro t fuel a1 a2 a4 a5 a6 a7 hk hf
    obtain ⟨fuel, rfl⟩ : ∃ f, fuel = f + 1 := ⟨fuel - 1, by (first | lia | omega)⟩
    refine ⟨a1, a4, a5, ?_, fun i h => by cases h⟩
    have : nxR (N : Int) 0 (-1) σ t = some none := by
      unfold nxR
      rw [rangeDown, decide_eq_false (by (first | lia | omega))]
      rfl
    rw [loop_stop this]
    rfl
  | succ k ih =>
    intro t fuel a1 a2 a4 a5 a6 a7 hk hf
    obtain ⟨fuel, rfl⟩ : ∃ f, fuel = f + 1 := ⟨fuel - 1, by (first | lia | omega)⟩
    have e1 : nxR (N : Int) 0 (-1) σ t = some (some (.int ((k + 1 : Nat) : Int))) := by
      unfold nxR
      rw [rangeDown, gd_of (decide_eq_true (by (first | lia | omega)))]
      congr 3
      (first | lia | omega)
    obtain ⟨b1, b5, e2⟩ := seekB_spec (c := c) (i := k) (a1 := a1) (a2 := a2) (a5 := a5) (a6 := a6) (a7 := a7) F H (by (first | lia | omega))
    have e3 : putL [some (.loc m), a1, a2, some (signAV c), a4, a5, a6, a7] 4 (.int ((k + 1 : Nat) : Int)) = some [some (.loc m), a1, a2, some (signAV c), some (.int ((k + 1 : Nat) : Int)), a5, a6, a7] := rfl
    rw [loop_at (lc₁ := [some (.loc m), a1, a2, some (signAV c), some (.int ((k + 1 : Nat) : Int)), a5, a6, a7]) e1 e3 e2]
    by_cases hh : hitAt ps c (k + 1) = true
    · rw [if_pos hh]
      have e4 : seekI ps c (k + 1) = some (k + 1) := by unfold seekI; rw [if_pos hh]
      rw [e4]
      exact ⟨b1, some (.int ((k + 1 : Nat) : Int)), b5, rfl, fun i h => by cases h; rfl⟩
    · rw [if_neg hh]
      have e4 : seekI ps c (k + 1) = seekI ps c k := by rw [seekI, if_neg hh]
      rw [e4]
      exact ih (t + 1) fuel b1 a2 (some (.int ((k + 1 : Nat) : Int))) b5 a6 a7 (by (first | lia | omega)) (by (first | lia | omega))
set_option tactic.hygienic false in
theorem okDown {N : Nat} (h : N < 1000000) : okRange (N : Int) 0 (-1) = true := by
  have f : Builtin.Range.rangeFitsLong (N : Int) = true := by
    unfold Builtin.Range.rangeFitsLong
    rw [Bool.and_eq_true, decide_eq_true_eq, decide_eq_true_eq]
    constructor <;> (first | lia | omega)
  unfold okRange Builtin.Range.small
  rw [rangeDown, f]
  generalize ((N : Int) == 0) = z
  cases z <;> decide
theorem turn_spec {c : Nat} {a1 a2 a4 a5 a6 a7 : Option AV} (F : FmtAt σ m ln ac ml cw cwl sp rows ini ps) (H : Fits rows ini ps) (hp : ps ≠ []) :
    ∃ b1 b4 b5, seqS [forRS 4 [binE .Sub (mE 4 pcF lineE []) (cE (.int 1)), cE (.int 0), negE (cE (.int 1))] seekB (seqS [contS]), brkS] [some (.loc m), a1, a2, some (signAV c), a4, a5, a6, a7] σ =
      some (match seekI ps c (ps.length - 1) with | some _ => .brk | none => .cont, [some (.loc m), b1, a2, some (signAV c), b4, b5, a6, a7], σ) ∧ ∀ i, seekI ps c (ps.length - 1) = some i → b4 = some (.int (i : Int)) := by
  obtain ⟨N, hN⟩ : ∃ N, N + 1 = ps.length := ⟨ps.length - 1, by have := List.length_pos_iff.mpr hp; (first | lia | omega)⟩
  have hz := H.p
  obtain ⟨b1, b4, b5, e, hb⟩ := inner_spec (c := c) F H hN N 0 1000000 a1 a2 a4 a5 a6 a7 (by (first | lia | omega)) (by (first | lia | omega))
  have hNl : ps.length - 1 = N := by (first | lia | omega)
  rw [hNl]
  have ea : evs [binE .Sub (mE 4 pcF lineE []) (cE (.int 1)), cE (.int 0), negE (cE (.int 1))] [some (.loc m), a1, a2, some (signAV c), a4, a5, a6, a7] σ = some ([.int (N : Int), .int 0, .int (-1)], σ) := by
    have : ((ps.length : Int) - 1) = N := by (first | lia | omega)
    simp [evs, binE, mLine (fs := []) (xs := []) (lc := [some (.loc m), a1, a2, some (signAV c), a4, a5, a6, a7]) rfl F rfl, pc_eq F.acc, cE, abin, twoI_int, negE, this, AV.int?, AV.str?, AV.tup?, AV.lst?, AV.loc?, AO.list?, AO.acc?, lstAt, accAt, arg1, arg2, gd_if, gd_true, selfL]
  have ef : forRS 4 [binE .Sub (mE 4 pcF lineE []) (cE (.int 1)), cE (.int 0), negE (cE (.int 1))] seekB (seqS [contS]) [some (.loc m), a1, a2, some (signAV c), a4, a5, a6, a7] σ = some (match seekI ps c N with | some _ => .next | none => .cont, [some (.loc m), b1, a2, some (signAV c), b4, b5, a6, a7], σ) := by
    exact forR_of ea rfl (okDown (by (first | lia | omega))) e
  refine ⟨b1, b4, b5, ?_, hb⟩
  cases hs : seekI ps c N with
  | none => rw [hs] at ef; rw [seq_cont ef]
  | some i => rw [hs] at ef; rw [seq_next ef]; rfl
theorem outer_spec {O : SM} (F : FmtAt σ m ln ac ml cw cwl sp rows ini ps) (H : Fits rows ini ps) (hp : ps ≠ []) :
    ∀ (k t fuel : Nat) (a1 a2 a3 a4 a5 a6 a7 : Option AV), k + t = sp.cps.size → k < fuel → ∃ b1 b3 b4 b5,
      loopS (nxS sp) (fun lc y => putL lc 3 y) (seqS [forRS 4 [binE .Sub (mE 4 pcF lineE []) (cE (.int 1)), cE (.int 0), negE (cE (.int 1))] seekB (seqS [contS]), brkS]) O fuel t [some (.loc m), a1, a2, a3, a4, a5, a6, a7] σ =
        (match seek ps (sp.cps.toList.drop t) with
          | some i => some (.next, [some (.loc m), b1, a2, b3, some (.int (i : Int)), b5, a6, a7], σ)
          | none => O [some (.loc m), b1, a2, b3, b4, b5, a6, a7] σ) := by
  intro k
  induction k with
  | zero =>
    intro t fuel a1 a2 a3 a4 a5 a6 a7 hk hf
    obtain ⟨fuel, rfl⟩ : ∃ f, fuel = f + 1 := ⟨fuel - 1, by (first | lia | omega)⟩
    refine ⟨a1, a3, a4, a5, ?_⟩
    have e0 : sp.cps.toList.drop t = [] := List.drop_of_length_le (by simp; (first | lia | omega))
    rw [e0]
    have : nxS sp σ t = some none := by
      unfold nxS
      rw [Array.getElem?_eq_none (by (first | lia | omega))]; rfl
    rw [loop_stop this]
    rfl
  | succ k ih =>
    intro t fuel a1 a2 a3 a4 a5 a6 a7 hk hf
    obtain ⟨fuel, rfl⟩ : ∃ f, fuel = f + 1 := ⟨fuel - 1, by (first | lia | omega)⟩
    have ht : t < sp.cps.size := by (first | lia | omega)
    have e1 : nxS sp σ t = some (some (signAV sp.cps[t])) := by
      unfold nxS
      rw [Array.getElem?_eq_getElem ht]; rfl
    have e0 : sp.cps.toList.drop t = sp.cps[t] :: sp.cps.toList.drop (t + 1) := by
      rw [List.drop_eq_getElem_cons (by simpa using ht)]; simp
    (refine x3_2 (turn_spec (c := sp.cps[t]) (a1 := a1) (a2 := a2) (a4 := a4) (a5 := a5) (a6 := a6) (a7 := a7) F H hp) fun b1 b4 b5 e2 hb => ?_)
    have e3 : putL [some (.loc m), a1, a2, a3, a4, a5, a6, a7] 3 (signAV sp.cps[t]) = some [some (.loc m), a1, a2, some (signAV sp.cps[t]), a4, a5, a6, a7] := rfl
    rw [loop_at (st := fun lc y => putL lc 3 y) (lc₁ := [some (.loc m), a1, a2, some (signAV sp.cps[t]), a4, a5, a6, a7]) e1 e3 e2, e0]
    unfold seek
    cases hs : seekI ps sp.cps[t] (ps.length - 1) with
    | some i =>
      dsimp only
      rw [hb i hs]
      exact ⟨b1, some (signAV sp.cps[t]), b4, b5, rfl⟩
    | none =>
      dsimp only
      exact ih (t + 1) fuel b1 a2 (some (signAV sp.cps[t])) b4 b5 a6 a7 (by (first | lia | omega)) (by (first | lia | omega))
set_option tactic.hygienic false in
theorem seekI_le {c : Nat} : ∀ {k i : Nat}, seekI ps c k = some i → i ≤ k ∧ 0 < i
  | 0, i, h => by cases h
  | k + 1, i, h => by
    unfold seekI at h
    split at h
    · cases h; (first | lia | omega)
    · have := seekI_le h; (first | lia | omega)
theorem seek_le : ∀ {cs : List Nat} {i : Nat}, seek ps cs = some i → i ≤ ps.length - 1 ∧ 0 < i
  | [], i, h => by cases h
  | c :: cs, i, h => by
    unfold seek at h
    split at h
    · rename_i j e
      (refine c1 h fun hh0 => ?_; clear h; subst hh0)
      exact seekI_le e
    · exact seek_le h
end
noncomputable def chunkP (ml : Int) (sp : Str) (rows : List Str) (ini : Int) (ps : List (Str × Str)) (f s : Str) : List Str × Int × List (Str × Str) :=
  if ml < ini + partsLen (ps ++ [(f, s)]) then (match seek (ps ++ [(f, s)]) sp.cps.toList with
    | some i => (rows ++ [accText ((ps ++ [(f, s)]).take i)], 0, (ps ++ [(f, s)]).drop i)
    | none => if 0 < ini then (nlRows rows ini ps, 0, [(if f.length = 0 then " " else f, s)]) else (rows, ini, ps ++ [(f, s)]))
  else (rows, ini, ps ++ [(f, s)])
section
variable {σ : St} {m ln ac : Nat} {ml : Int} {cw : Str} {cwl : Int} {sp : Str} {rows : List Str} {ini : Int} {ps : List (Str × Str)} {lc : Lc}
set_option tactic.hygienic false in
theorem Fits.init {f s : Str} (H : Fits rows ini (ps ++ [(f, s)])) : Fits rows ini ps := by
  have := H.p
  have h := H.l
  rw [partsLen_append] at h
  have := partsLen_nonneg [(f, s)]
  exact ⟨H.r, H.t, by have := H.p; simp at this; (first | lia | omega), by (first | lia | omega), H.i0, H.i1⟩
set_option tactic.hygienic false in
theorem Fits.take (H : Fits rows ini ps) (i : Nat) : Fits rows ini (ps.take i) := by
  have h : partsLen ps = partsLen (ps.take i) + partsLen (ps.drop i) := by rw [← partsLen_append, List.take_append_drop]
  have := partsLen_nonneg (ps.drop i)
  have := H.l
  exact ⟨H.r, H.t, by have := H.p; rw [List.length_take]; (first | lia | omega), by (first | lia | omega), H.i0, H.i1⟩
theorem chunk_spec {f s : Str} (F : FmtAt σ m ln ac ml cw cwl sp rows ini ps) (H : Fits rows ini (ps ++ [(f, s)])) (hsp : sp.cps.size ≤ 1000) :
    ∃ σ', chunkF [.loc m, .str f, .str s] σ = some (.none, σ') ∧ FmtAt σ' m ln ac ml cw cwl sp (chunkP ml sp rows ini ps f s).1 (chunkP ml sp rows ini ps f s).2.1 (chunkP ml sp rows ini ps f s).2.2 ∧ Same [ln, ac] σ σ' ∧ σ'.length = σ.length := by
  have H0 := H.init
  have hp : ps ++ [(f, s)] ≠ [] := by simp
  have hz : (ps ++ [(f, s)]).length ≤ 1000000 := by have := H.p; (first | lia | omega)
  have hz0 : ps.length ≤ 1000000 := by simp at hz; (first | lia | omega)
  -- push
  have e1 : exprS (mE 4 pushF lineE [nE 1, nE 2]) [some (.loc m), some (.str f), some (.str s), none, none, none, none, none] σ = some (.next, [some (.loc m), some (.str f), some (.str s), none, none, none, none, none], σ.set ac (.acc ini (ps ++ [(f, s)]))) :=
    expr_of (v := .none) (by rw [mLine (xs := [.str f, .str s]) rfl F rfl, push_eq F.acc hz0])
  have F1 := F.setAcc ini (ps ++ [(f, s)])
  have S1 : Same [ln, ac] σ (σ.set ac (.acc ini (ps ++ [(f, s)]))) := .set (by simp)
  have z1 : (σ.set ac (.acc ini (ps ++ [(f, s)]))).length = σ.length := by simp
  generalize σ.set ac (.acc ini (ps ++ [(f, s)])) = σ₁ at e1 F1 S1 z1
  have eL := lenLine_eq (lc := [some (.loc m), some (.str f), some (.str s), none, none, none, none, none]) rfl F1 H
  have eM : attrE 0 (nE 0) [some (.loc m), some (.str f), some (.str s), none, none, none, none, none] σ₁ = some (.int ml, σ₁) := by simp [attrE, nE, F1.fm, attrOf, fmtAttrs, AV.int?, AV.str?, AV.tup?, AV.lst?, AV.loc?, AO.list?, AO.acc?, lstAt, accAt, arg1, arg2, gd_if, gd_true, selfL]
  have eT : cmpT .Gt (callE (lenF accLenF) [lineE]) (attrE 0 (nE 0)) [some (.loc m), some (.str f), some (.str s), none, none, none, none, none] σ₁ = some (decide (ml < ini + partsLen (ps ++ [(f, s)])), σ₁) := by
    simp only [cmpT, eL, eM, AV.int?, AV.str?, AV.tup?, AV.lst?, AV.loc?, AO.list?, AO.acc?, lstAt, accAt, arg1, arg2, gd_if, gd_true, selfL, Option.bind_some, Option.bind_none, Option.some_or, Option.none_or, Option.or_none, Option.map_some, Option.map_none, Option.getD_some, ↓reduceIte]; simp [acmp, twoInts_int, isNone, aeqv, toPD_none, toPD_bool, toPD_int, toPD_str, toPD_tup, toPD_lst, toPD_loc, optAll, PyData.eqv, AV.int?, AV.str?, AV.tup?, AV.lst?, AV.loc?, AO.list?, AO.acc?, lstAt, accAt, arg1, arg2, gd_if, gd_true, selfL]
  unfold chunkP
  by_cases hlong : ml < ini + partsLen (ps ++ [(f, s)])
  · rw [if_pos hlong]
    rw [decide_eq_true hlong] at eT
    have eS : attrE 3 (nE 0) [some (.loc m), some (.str f), some (.str s), none, none, none, none, none] σ₁ = some (.str sp, σ₁) := by simp [attrE, nE, F1.fm, attrOf, fmtAttrs, AV.int?, AV.str?, AV.tup?, AV.lst?, AV.loc?, AO.list?, AO.acc?, lstAt, accAt, arg1, arg2, gd_if, gd_true, selfL]
    obtain ⟨b1, b3, b4, b5, e2⟩ := outer_spec (O := seqS [unpS 1 6 (mE 4 popF lineE []),
      ifS (cmpT .Gt (attrE 6 lineE) (cE (.int 0))) (seqS [exprS (mE 3 newlineF (nE 0) []), ifS (notT (trT (nE 1))) (seqS [asgS 1 (cE (.str " "))]) (seqS [])]) (seqS []),
      exprS (mE 4 pushF lineE [nE 1, nE 6]),
      retNS]) F1 H hp sp.cps.size 0 1000000 (some (.str f)) (some (.str s)) none none none none none (by (first | lia | omega)) (by (first | lia | omega))
    rw [List.drop_zero] at e2
    have e3 : ∀ r, loopS (nxS sp) (fun lc y => putL lc 3 y) (seqS [forRS 4 [binE .Sub (mE 4 pcF lineE []) (cE (.int 1)), cE (.int 0), negE (cE (.int 1))] seekB (seqS [contS]), brkS]) (seqS [unpS 1 6 (mE 4 popF lineE []),
      ifS (cmpT .Gt (attrE 6 lineE) (cE (.int 0))) (seqS [exprS (mE 3 newlineF (nE 0) []), ifS (notT (trT (nE 1))) (seqS [asgS 1 (cE (.str " "))]) (seqS [])]) (seqS []),
      exprS (mE 4 pushF lineE [nE 1, nE 6]),
      retNS]) 1000000 0 [some (.loc m), some (.str f), some (.str s), none, none, none, none, none] σ₁ = r → seekS [some (.loc m), some (.str f), some (.str s), none, none, none, none, none] σ₁ = r := by
      intro r h
      exact (for_str eS).trans h
    cases hseek : seek (ps ++ [(f, s)]) sp.cps.toList with
    | some i =>
      rw [hseek] at e2
      dsimp only at e2 ⊢
      have hi := (seek_le hseek).1
      have hi' : i ≤ (ps ++ [(f, s)]).length := by (first | lia | omega)
      have e4 := e3 _ e2
      -- pop_from
      have e5 : asgS 7 (mE 4 popFromF lineE [nE 4]) [some (.loc m), b1, some (.str s), b3, some (.int (i : Int)), b5, none, none] σ₁ = some (.next, [some (.loc m), b1, some (.str s), b3, some (.int (i : Int)), b5, none, some (.lst (((ps ++ [(f, s)]).drop i).map partAV))], σ₁.set ac (.acc ini ((ps ++ [(f, s)]).take i))) := by
        rw [asg_of (v := .lst (((ps ++ [(f, s)]).drop i).map partAV)) (σ₁ := σ₁.set ac (.acc ini ((ps ++ [(f, s)]).take i))) (by rw [mLine (xs := [.int (i : Int)]) rfl F1 rfl, popFrom_eq F1.acc hz hi']) (by simp)]; rfl
      have F2 := F1.setAcc ini ((ps ++ [(f, s)]).take i)
      have S2 : Same [ln, ac] σ₁ (σ₁.set ac (.acc ini ((ps ++ [(f, s)]).take i))) := .set (by simp)
      have z2 : (σ₁.set ac (.acc ini ((ps ++ [(f, s)]).take i))).length = σ₁.length := by simp
      generalize σ₁.set ac (.acc ini ((ps ++ [(f, s)]).take i)) = σ₂ at e5 F2 S2 z2
      have e6 := expr_of (append_rows (lc := [some (.loc m), b1, some (.str s), b3, some (.int (i : Int)), b5, none, some (.lst (((ps ++ [(f, s)]).drop i).map partAV))]) rfl F2 (H.take i).acc (by have := H.r; (first | lia | omega)))
      have F3 := F2.setLi (rows ++ [accText ((ps ++ [(f, s)]).take i)])
      have S3 : Same [ln, ac] σ₂ (σ₂.set ln (.list ((rows ++ [accText ((ps ++ [(f, s)]).take i)]).map AV.str))) := .set (by simp)
      have z3 : (σ₂.set ln (.list ((rows ++ [accText ((ps ++ [(f, s)]).take i)]).map AV.str))).length = σ₂.length := by simp
      generalize σ₂.set ln (.list ((rows ++ [accText ((ps ++ [(f, s)]).take i)]).map AV.str)) = σ₃ at e6 F3 S3 z3
      have e7 : exprS (mE 4 resetF lineE [nE 7]) [some (.loc m), b1, some (.str s), b3, some (.int (i : Int)), b5, none, some (.lst (((ps ++ [(f, s)]).drop i).map partAV))] σ₃ = some (.next, [some (.loc m), b1, some (.str s), b3, some (.int (i : Int)), b5, none, some (.lst (((ps ++ [(f, s)]).drop i).map partAV))], σ₃.set ac (.acc 0 ((ps ++ [(f, s)]).drop i))) :=
        expr_of (v := .none) (by rw [mLine (xs := [.lst (((ps ++ [(f, s)]).drop i).map partAV)]) rfl F3 rfl, reset2_eq F3.acc (by rw [List.length_take]; (first | lia | omega)) (by rw [List.length_drop]; (first | lia | omega))])
      refine ⟨σ₃.set ac (.acc 0 ((ps ++ [(f, s)]).drop i)), ?_, F3.setAcc 0 _, ((S1.trans S2).trans S3).trans (.set (by simp)), by simp [z3, z2, z1]⟩
      refine run_next (lc' := [some (.loc m), b1, some (.str s), b3, some (.int (i : Int)), b5, none, some (.lst (((ps ++ [(f, s)]).drop i).map partAV))]) rfl ?_
      show chunkB [some (.loc m), some (.str f), some (.str s), none, none, none, none, none] σ = _
      unfold chunkB
      rw [seq_next e1, seq_next, seq_nil]
      rw [if_t eT, seq_next e4, seq_next e5, seq_next e6, seq_next e7, seq_nil]
    | none =>
      rw [hseek] at e2
      dsimp only at e2 ⊢
      have e4 := e3 _ e2
      have e5 : unpS 1 6 (mE 4 popF lineE []) [some (.loc m), b1, some (.str s), b3, b4, b5, none, none] σ₁ = some (.next, [some (.loc m), some (.str f), some (.str s), b3, b4, b5, some (.str s), none], σ₁.set ac (.acc ini ps)) := by
        unfold unpS
        rw [mLine (fs := []) (xs := []) rfl F1 rfl, pop_snoc F1.acc (by have := H.p; simp at this; (first | lia | omega))]
        rfl
      have F2 := F1.setAcc ini ps
      have S2 : Same [ln, ac] σ₁ (σ₁.set ac (.acc ini ps)) := .set (by simp)
      have z2 : (σ₁.set ac (.acc ini ps)).length = σ₁.length := by simp
      generalize σ₁.set ac (.acc ini ps) = σ₂ at e5 F2 S2 z2
      have eI : attrE 6 lineE [some (.loc m), some (.str f), some (.str s), b3, b4, b5, some (.str s), none] σ₂ = some (.int ini, σ₂) := by
        unfold attrE
        rw [line_eq rfl F2]
        simp [F2.acc, attrOf, AV.loc?, gd_true]
      have eC : cmpT .Gt (attrE 6 lineE) (cE (.int 0)) [some (.loc m), some (.str f), some (.str s), b3, b4, b5, some (.str s), none] σ₂ = some (decide (0 < ini), σ₂) := by simp only [cmpT, eI, AV.int?, AV.str?, AV.tup?, AV.lst?, AV.loc?, AO.list?, AO.acc?, lstAt, accAt, arg1, arg2, gd_if, gd_true, selfL, Option.bind_some, Option.bind_none, Option.some_or, Option.none_or, Option.or_none, Option.map_some, Option.map_none, Option.getD_some, ↓reduceIte]; simp [cE, acmp, twoInts_int, isNone, aeqv, toPD_none, toPD_bool, toPD_int, toPD_str, toPD_tup, toPD_lst, toPD_loc, optAll, PyData.eqv, AV.int?, AV.str?, AV.tup?, AV.lst?, AV.loc?, AO.list?, AO.acc?, lstAt, accAt, arg1, arg2, gd_if, gd_true, selfL]
      have done : ∀ {σ₃ : St} {f' : Str} {rs : List Str} {i' : Int} {qs : List (Str × Str)}, qs.length ≤ 1000000 → FmtAt σ₃ m ln ac ml cw cwl sp rs i' qs → Same [ln, ac] σ₂ σ₃ → σ₃.length = σ₂.length →
          ifS (cmpT .Gt (attrE 6 lineE) (cE (.int 0))) (seqS [exprS (mE 3 newlineF (nE 0) []), ifS (notT (trT (nE 1))) (seqS [asgS 1 (cE (.str " "))]) (seqS [])]) (seqS []) [some (.loc m), some (.str f), some (.str s), b3, b4, b5, some (.str s), none] σ₂ = some (.next, [some (.loc m), some (.str f'), some (.str s), b3, b4, b5, some (.str s), none], σ₃) →
          ∃ σ', chunkF [.loc m, .str f, .str s] σ = some (.none, σ') ∧ FmtAt σ' m ln ac ml cw cwl sp rs i' (qs ++ [(f', s)]) ∧ Same [ln, ac] σ σ' ∧ σ'.length = σ.length := by
        intro σ₃ f' rs i' qs hq F3 S3 z3 e6
        have e7 : exprS (mE 4 pushF lineE [nE 1, nE 6]) [some (.loc m), some (.str f'), some (.str s), b3, b4, b5, some (.str s), none] σ₃ = some (.next, [some (.loc m), some (.str f'), some (.str s), b3, b4, b5, some (.str s), none], σ₃.set ac (.acc i' (qs ++ [(f', s)]))) :=
          expr_of (v := .none) (by rw [mLine (xs := [.str f', .str s]) rfl F3 rfl, push_eq F3.acc hq])
        refine ⟨σ₃.set ac (.acc i' (qs ++ [(f', s)])), ?_, F3.setAcc _ _, ((S1.trans S2).trans S3).trans (.set (by simp)), by simp [z3, z2, z1]⟩
        refine run_ret (v := .none) (lc' := [some (.loc m), some (.str f'), some (.str s), b3, b4, b5, some (.str s), none]) rfl ?_
        show chunkB [some (.loc m), some (.str f), some (.str s), none, none, none, none, none] σ = _
        unfold chunkB
        rw [seq_next e1, seq_ret]
        rw [if_t eT, seq_ret]
        rw [e4, seq_next e5, seq_next e6, seq_next e7]
        rfl
      by_cases hini : 0 < ini
      · rw [if_pos hini]
        rw [decide_eq_true hini] at eC
        (refine x1_4 (newline_spec F2 H0) fun σ₃ e6 F3 S3 z3 => ?_)
        have e7 : exprS (mE 3 newlineF (nE 0) []) [some (.loc m), some (.str f), some (.str s), b3, b4, b5, some (.str s), none] σ₂ = some (.next, [some (.loc m), some (.str f), some (.str s), b3, b4, b5, some (.str s), none], σ₃) := expr_of (v := .none) (by simp [mE, nE, kind_loc_eq, kind_str, kind_lst, kindO, F2.fm, evs, e6, AV.int?, AV.str?, AV.tup?, AV.lst?, AV.loc?, AO.list?, AO.acc?, lstAt, accAt, arg1, arg2, gd_if, gd_true, selfL])
        have hf : f.length ≤ 100000 := (part_small H (p := (f, s)) (by simp)).1
        have eN : notT (trT (nE 1)) [some (.loc m), some (.str f), some (.str s), b3, b4, b5, some (.str s), none] σ₃ = some (decide (f.length = 0), σ₃) := by
          have : f.length ≤ 16777216 := by (first | lia | omega)
          simp [notT, trT, nE, atruth_none, atruth_bool, atruth_int, atruth_str, atruth_lst, atruth_loc, sizeLine_eq, this, AV.int?, AV.str?, AV.tup?, AV.lst?, AV.loc?, AO.list?, AO.acc?, lstAt, accAt, arg1, arg2, gd_if, gd_true, selfL]
          by_cases h : f.length = 0 <;> simp [h]
        have := done (f' := if f.length = 0 then " " else f) (qs := []) (by simp) F3 S3 z3 (by
          rw [if_t eC, seq_next e7]
          by_cases h : f.length = 0
          · rw [decide_eq_true h] at eN
            rw [if_pos h, seq_next (lc₁ := [some (.loc m), some (.str " "), some (.str s), b3, b4, b5, some (.str s), none]) (σ₁ := σ₃), seq_nil]
            rw [if_t eN]; rfl
          · rw [decide_eq_false h] at eN
            rw [if_neg h, seq_next (lc₁ := [some (.loc m), some (.str f), some (.str s), b3, b4, b5, some (.str s), none]) (σ₁ := σ₃), seq_nil]
            rw [if_f eN]; rfl)
        simpa using this
      · rw [if_neg hini]
        rw [decide_eq_false hini] at eC
        exact done (f' := f) hz0 F2 .refl rfl (by rw [if_f eC]; rfl)
  · rw [if_neg hlong]
    rw [decide_eq_false hlong] at eT
    refine ⟨σ₁, ?_, F1, S1, z1⟩
    refine run_next (lc' := [some (.loc m), some (.str f), some (.str s), none, none, none, none, none]) rfl ?_
    show chunkB [some (.loc m), some (.str f), some (.str s), none, none, none, none, none] σ = _
    unfold chunkB
    rw [seq_next e1, seq_next, seq_nil]
    rw [if_f eT]; rfl
end
end Mine.Internal
end
section
set_option linter.all false
open PySem PySem.W PyProof.Rows PySem.Calls
namespace Mine.Internal
noncomputable abbrev St3 := List Str × Int × List (Str × Str)
noncomputable def chunksP (ml : Int) (sp : Str) : St3 → List (Str × Str) → St3
  | st, [] => st
  | st, p :: r => chunksP ml sp (chunkP ml sp st.1 st.2.1 st.2.2 p.1 p.2) r
noncomputable def FitsRun (ml : Int) (sp : Str) : St3 → List (Str × Str) → Prop
  | _, [] => True
  | st, p :: r => Fits st.1 st.2.1 (st.2.2 ++ [p]) ∧ FitsRun ml sp (chunkP ml sp st.1 st.2.1 st.2.2 p.1 p.2) r
noncomputable def flatP (qs : List (Str × Str)) : List Str := qs.flatMap fun p => [p.1, p.2]
noncomputable abbrev FAt (σ : St) (m ln ac : Nat) (ml : Int) (cw : Str) (cwl : Int) (sp : Str) (st : St3) : Prop := FmtAt σ m ln ac ml cw cwl sp st.1 st.2.1 st.2.2
set_option tactic.hygienic false in
theorem flat_get : ∀ (qs : List (Str × Str)) (t : Nat) (p : Str × Str), qs[t]? = some p → (flatP qs)[2 * t]? = some p.1 ∧ (flatP qs)[2 * t + 1]? = some p.2
  | [], t, p, h => by simp at h
  | q :: qs, 0, p, h => by simp at h; subst h; simp [flatP]
  | q :: qs, t + 1, p, h => by
    have ih := flat_get qs t p (by simpa using h)
    have e1 : 2 * (t + 1) = 2 * t + 1 + 1 := by (first | lia | omega)
    have e2 : 2 * (t + 1) + 1 = (2 * t + 1) + 1 + 1 := by (first | lia | omega)
    rw [e2, e1]
    simpa [flatP] using ih
set_option tactic.hygienic false in
theorem flat_len : ∀ (qs : List (Str × Str)), (flatP qs).length = 2 * qs.length
  | [] => rfl
  | q :: qs => by have := flat_len qs; simp [flatP] at this ⊢; (first | lia | omega)
section
variable {σ : St} {m ln ac : Nat} {ml : Int} {cw : Str} {cwl : Int} {sp : Str}
theorem zip_loop {qs : List (Str × Str)} {pl g : Nat} (hsp : sp.cps.size ≤ 1000) (hpl : pl ≠ ln ∧ pl ≠ ac) (hg : g ≠ ln ∧ g ≠ ac) :
    ∀ (k t fuel : Nat) (σ : St) (st : St3) (a1 a2 a3 a5 : Option AV), k + t = qs.length → k < fuel → FAt σ m ln ac ml cw cwl sp st → FitsRun ml sp st (qs.drop t) → σ[pl]? = some (.list ((flatP qs).map AV.str)) → σ[g]? = some .ghost →
      ∃ σ' lc', loopS (nxZ g (.loc pl)) (put2 1 5) (seqS [exprS (mE 3 chunkF (nE 0) [nE 1, nE 5])]) (seqS []) fuel t [some (.loc m), a1, a2, a3, some (.loc pl), a5] σ = some (.next, lc', σ') ∧ FAt σ' m ln ac ml cw cwl sp (chunksP ml sp st (qs.drop t)) ∧ Same [ln, ac] σ σ' ∧ σ'.length = σ.length := by
  intro k
  induction k with
  | zero =>
    intro t fuel σ st a1 a2 a3 a5 hk hf F _ hl hgh
    obtain ⟨fuel, rfl⟩ : ∃ f, fuel = f + 1 := ⟨fuel - 1, by (first | lia | omega)⟩
    have e0 : qs.drop t = [] := List.drop_of_length_le (by (first | lia | omega))
    refine ⟨σ, [some (.loc m), a1, a2, a3, some (.loc pl), a5], ?_, by rw [e0]; exact F, .refl, rfl⟩
    have : nxZ g (.loc pl) σ t = some none := by
      rw [nxZ_of (a := .loc pl) hgh (lstAt_of hl)]
      have : ((flatP qs).map AV.str)[2 * t]? = none := List.getElem?_eq_none (by rw [List.length_map, flat_len]; (first | lia | omega))
      unfold pair2
      rw [this]
      rfl
    rw [loop_stop this]
    rfl
  | succ k ih =>
    intro t fuel σ st a1 a2 a3 a5 hk hf F HR hl hgh
    obtain ⟨fuel, rfl⟩ : ∃ f, fuel = f + 1 := ⟨fuel - 1, by (first | lia | omega)⟩
    have ht : t < qs.length := by (first | lia | omega)
    have e0 : qs.drop t = qs[t] :: qs.drop (t + 1) := List.drop_eq_getElem_cons ht
    rw [e0] at HR ⊢
    (refine x0_2 (HR) fun H HR => ?_)
    rcases hq : qs[t] with ⟨f, s⟩
    rw [hq] at H HR
    obtain ⟨g1, g2⟩ := flat_get qs t (f, s) (by rw [List.getElem?_eq_getElem ht, hq])
    have e1 : nxZ g (.loc pl) σ t = some (some (.tup [.str f, .str s])) := by
      rw [nxZ_of (a := .loc pl) hgh (lstAt_of hl)]
      have h1 : ((flatP qs).map AV.str)[2 * t]? = some (.str f) := by rw [List.getElem?_map, g1]; rfl
      have h2 : ((flatP qs).map AV.str)[2 * t + 1]? = some (.str s) := by rw [List.getElem?_map, g2]; rfl
      unfold pair2
      rw [h1, h2]
      rfl
    (refine x1_4 (chunk_spec (f := f) (s := s) F H hsp) fun σ₁ e2 F1 S1 z1 => ?_)
    have e3 : seqS [exprS (mE 3 chunkF (nE 0) [nE 1, nE 5])] [some (.loc m), some (.str f), a2, a3, some (.loc pl), some (.str s)] σ = some (.next, [some (.loc m), some (.str f), a2, a3, some (.loc pl), some (.str s)], σ₁) := by
      rw [seq_next (expr_of (v := .none) (σ₁ := σ₁) (by simp [mE, nE, kind_loc_eq, kind_str, kind_lst, kindO, F.fm, evs, e2, AV.int?, AV.str?, AV.tup?, AV.lst?, AV.loc?, AO.list?, AO.acc?, lstAt, accAt, arg1, arg2, gd_if, gd_true, selfL])), seq_nil]
    have e4 : put2 1 5 [some (.loc m), a1, a2, a3, some (.loc pl), a5] (.tup [.str f, .str s]) = some [some (.loc m), some (.str f), a2, a3, some (.loc pl), some (.str s)] := rfl
    rw [loop_at e1 e4 e3]
    have hl' := S1.get (k := pl) (by simp [hpl]) hl
    have hg' := S1.get (k := g) (by simp [hg]) hgh
    obtain ⟨σ₂, lc₂, e5, F2, S2, z2⟩ := ih (t + 1) fuel σ₁ (chunkP ml sp st.1 st.2.1 st.2.2 f s) (some (.str f)) a2 a3 (some (.str s)) (by (first | lia | omega)) (by (first | lia | omega)) F1 HR hl' hg'
    refine ⟨σ₂, lc₂, e5, ?_, S1.trans S2, z2.trans z1⟩
    unfold chunksP
    exact F2
noncomputable def pieces (ys : List Str) : List Str := if (ys.headD "").length = 0 then ys.tail else "" :: ys
theorem split_spec {st : St3} {f s sc : Str} {ys : List Str} {qs : List (Str × Str)} (F : FAt σ m ln ac ml cw cwl sp st) (hsp : sp.cps.size ≤ 1000) (hlen : f.length + s.length ≤ 100000) (hw : wsSplit (f ++ s) = some ys) (hys : ys ≠ []) (hyl : ys.length ≤ 100000) (hy0 : (ys.headD "").length ≤ 100000) (hq : pieces ys = flatP qs) (HR : FitsRun ml sp st qs) :
    ∃ σ', splitF [.loc m, .str f, .str s, .str sc] σ = some (.none, σ') ∧ FAt σ' m ln ac ml cw cwl sp (chunksP ml sp st qs) ∧ Same [ln, ac] σ σ' := by
  have hl1 : f.length + s.length ≤ 16777216 := by (first | lia | omega)
  have hl2 : (f ++ s).length ≤ 1000000 := by rw [str_len_eq]; (first | lia | omega)
  have hyl' : ys.length ≤ 1000000 := by (first | lia | omega)
  obtain ⟨y, yr, rfl⟩ : ∃ y yr, ys = y :: yr := by
    cases ys with
    | nil => exact absurd rfl hys
    | cons y yr => exact ⟨y, yr, rfl⟩
  have e1 : asgS 4 (reSplitE (binE .Add (nE 1) (nE 2))) [some (.loc m), some (.str f), some (.str s), some (.str sc), none, none] σ = some (.next, [some (.loc m), some (.str f), some (.str s), some (.str sc), some (.loc σ.length), none], σ ++ [.list ((y :: yr).map AV.str)]) := by
    rw [asg_of (v := .loc σ.length) (σ₁ := σ ++ [.list ((y :: yr).map AV.str)]) _ (by simp)]
    · rfl
    · simp only [reSplitE, binE, nE, List.getElem?_cons_succ, List.getElem?_cons_zero, abin, aadd_int, aadd_str, amul_int, amul_str, twoI_int, sizeLine_eq, if_pos hl1, Option.map_some, if_pos hl2, hw, if_pos hyl', AV.int?, AV.str?, AV.tup?, AV.lst?, AV.loc?, AO.list?, AO.acc?, lstAt, accAt, arg1, arg2, gd_if, gd_true, selfL, Option.bind_some, Option.bind_none, Option.some_or, Option.none_or, Option.or_none, Option.map_some, Option.map_none, Option.getD_some, ↓reduceIte]
  clear hlen hl1 hl2 hw
  have hm := (List.getElem?_eq_some_iff.mp F.fm).1
  have hln := (List.getElem?_eq_some_iff.mp F.li).1
  have hac := (List.getElem?_eq_some_iff.mp F.acc).1
  have F1 : FAt (σ ++ [.list ((y :: yr).map AV.str)]) m ln ac ml cw cwl sp st := FmtAt.keep F (X := []) (.app _) (by simp) (by simp) (by simp)
  have hpl : (σ ++ [.list ((y :: yr).map AV.str)])[σ.length]? = some (.list ((y :: yr).map AV.str)) := by rw [List.getElem?_append_right (Nat.le_refl _), Nat.sub_self]; rfl
  have z1 : (σ ++ [AO.list ((y :: yr).map AV.str)]).length = σ.length + 1 := by simp
  have S1 : Same [ln, ac] σ (σ ++ [.list ((y :: yr).map AV.str)]) := .app _
  generalize σ ++ [.list ((y :: yr).map AV.str)] = σ₁ at e1 F1 hpl z1 S1
  have yl : y.length ≤ 16777216 := by simp at hy0; (first | lia | omega)
  have eT : trT (idxE (nE 4) (cE (.int 0))) [some (.loc m), some (.str f), some (.str s), some (.str sc), some (.loc σ.length), none] σ₁ = some (decide (y.length ≠ 0), σ₁) := by
    have e : seqIndex? 0 (yr.length + 1) = some 0 := sidx (k := 0) (Nat.succ_pos _)
    have e' : aget σ₁ (.loc σ.length) 0 = some (.str y) := by
      rw [aget_seq (asSeq_list hpl), if_pos (by decide), List.length_map, List.length_cons, e]
      rfl
    have e'' := idx_of (σ := σ₁) (f := nE 4) (g := cE (.int 0)) (lc := [some (.loc m), some (.str f), some (.str s), some (.str sc), some (.loc σ.length), none]) rfl rfl e'
    unfold trT
    rw [e'']
    simp [atruth_str, sizeLine_eq, yl]
    by_cases h : y.length = 0 <;> simp [h, gd_true]
  clear hyl' hy0 yl
  -- the list of pieces
  obtain ⟨σ₂, e2, hpl2, S2, F2, z2⟩ : ∃ σ₂, ifS (trT (idxE (nE 4) (cE (.int 0)))) (seqS [setSlS (nE 4) none (some (cE (.int 0))) (lstE [cE (.str "")])]) (seqS [exprS (mE 2 popAtF (nE 4) [cE (.int 0)])]) [some (.loc m), some (.str f), some (.str s), some (.str sc), some (.loc σ.length), none] σ₁ =
      some (.next, [some (.loc m), some (.str f), some (.str s), some (.str sc), some (.loc σ.length), none], σ₂) ∧ σ₂[σ.length]? = some (.list ((flatP qs).map AV.str)) ∧ Same [σ.length] σ₁ σ₂ ∧ FAt σ₂ m ln ac ml cw cwl sp st ∧ σ₂.length = σ₁.length := by
    have hlt : σ.length < σ₁.length := by (first | lia | omega)
    rw [← hq]
    have S : ∀ o, Same [σ.length] σ₁ (σ₁.set σ.length o) := fun o => .set (by simp)
    by_cases h : y.length = 0
    · refine ⟨σ₁.set σ.length (.list (yr.map AV.str)), ?_, ?_, S _, F1.keep (S _) (by simp; (first | lia | omega)) (by simp; (first | lia | omega)) (by simp; (first | lia | omega)), by simp⟩
      · rw [decide_eq_false (by simpa using h)] at eT
        rw [if_f eT, seq_next (expr_of (v := .str y) _), seq_nil]
        have e : seqIndex? 0 (yr.length + 1) = some 0 := sidx (k := 0) (Nat.succ_pos _)
        have hz : yr.length + 1 ≤ 16777216 := by simp at hyl; (first | lia | omega)
        have hs : smallInt 0 = true := by decide
        simp [mE, nE, kind_loc_eq, kind_str, kind_lst, kindO, hpl, evs, cE, popAtF, e, sizeLine_eq, hz, hs, AV.int?, AV.str?, AV.tup?, AV.lst?, AV.loc?, AO.list?, AO.acc?, lstAt, accAt, arg1, arg2, gd_if, gd_true, selfL]
      · rw [List.getElem?_set_self hlt]; simp [pieces, h]
    · refine ⟨σ₁.set σ.length (.list ((("" : Str) :: y :: yr).map AV.str)), ?_, ?_, S _, F1.keep (S _) (by simp; (first | lia | omega)) (by simp; (first | lia | omega)) (by simp; (first | lia | omega)), by simp⟩
      · rw [decide_eq_true (by simpa using h)] at eT
        rw [if_t eT, seq_next (lc₁ := [some (.loc m), some (.str f), some (.str s), some (.str sc), some (.loc σ.length), none]) (σ₁ := σ₁.set σ.length (.list ((("" : Str) :: y :: yr).map AV.str))), seq_nil]
        have hz : yr.length + 1 ≤ 1000000 := by simp at hyl; (first | lia | omega)
        have e : setSl (AV.str y :: yr.map AV.str) [AV.str ""] none (some 0) = AV.str "" :: AV.str y :: yr.map AV.str := by
          unfold setSl slLo slHi
          rw [sliceBounds_plain]
          simp [clipAt]
          rw [show (max (0 : Int) (min 0 ((yr.length : Int) + 1))).toNat = 0 by (first | lia | omega)]
          rfl
        have e' := putSl_list (a := none) (b := some 0) (new := [AV.str ""]) hpl ⟨by simp; (first | lia | omega), by simp⟩
        rw [List.map_cons, e] at e'
        simp [setSlS, lstE, evs, cE, nE, optE, AV.loc?, AV.int?, gd_if, sizeLine_eq, e']
      · rw [List.getElem?_set_self hlt]; simp [pieces, h]
  have S2' : Same [ln, ac] σ σ₂ := ⟨by (first | lia | omega), fun k hk hl => (S2.2 k (by simp; (first | lia | omega)) (by (first | lia | omega))).trans (S1.2 k hk hl)⟩
  -- the loop
  have hne : σ.length ≠ ln ∧ σ.length ≠ ac := by (first | lia | omega)
  have F3 : FAt (σ₂ ++ [.ghost]) m ln ac ml cw cwl sp st := FmtAt.keep F2 (X := []) (.app _) (by simp) (by simp) (by simp)
  have qn : qs.length < 1000000 := by
    have := congrArg List.length hq
    rw [flat_len] at this
    unfold pieces at this
    simp at hyl
    split at this <;> simp at this <;> (first | lia | omega)
  obtain ⟨σ₃, lc₃, e3, F4, S4, z4⟩ := zip_loop (qs := qs) (g := σ₂.length) (pl := σ.length) hsp hne (by (first | lia | omega)) qs.length 0 1000000 (σ₂ ++ [.ghost]) st (some (.str f)) (some (.str s)) (some (.str sc)) none (by (first | lia | omega)) qn F3 (by simpa using HR)
    (by rw [List.getElem?_append_left (by (first | lia | omega))]; exact hpl2) (by rw [List.getElem?_append_right (Nat.le_refl _), Nat.sub_self]; rfl)
  have e4 : zipS 1 5 (nE 4) (seqS [exprS (mE 3 chunkF (nE 0) [nE 1, nE 5])]) (seqS []) [some (.loc m), some (.str f), some (.str s), some (.str sc), some (.loc σ.length), none] σ₂ = some (.next, lc₃, σ₃) := by
    rw [zip_of (σ₁ := σ₂) (a := .loc σ.length) rfl (lstAt_of hpl2)]
    exact e3
  refine ⟨σ₃, ?_, by simpa using F4, (S2'.trans (.app _)).trans S4⟩
  refine run_next (lc' := lc₃) rfl ?_
  show splitB [some (.loc m), some (.str f), some (.str s), some (.str sc), none, none] σ = _
  unfold splitB
  rw [seq_next e1, seq_next e2, seq_next e4, seq_nil]
end
end Mine.Internal
end
section
set_option linter.all false
open PySem PySem.W PyProof.Rows PySem.Calls
namespace Mine.Internal
set_option tactic.hygienic false in
theorem strsOf_map (rows : List Str) : strsOf (rows.map AV.str) = some rows := by
  unfold strsOf
  induction rows with
  | nil => rfl
  | cons r rows ih => rw [List.map_cons, optAll, ih]; rfl
noncomputable def textLen (rows : List Str) : Nat := (rows.map (·.length)).sum
section
variable {σ : St} {m ln ac : Nat} {ml : Int} {cw : Str} {cwl : Int} {sp : Str} {rows : List Str} {ini : Int} {ps : List (Str × Str)}
set_option tactic.hygienic false in
theorem join_of {l : Nat} {sep : Str} {rs : List Str} (h : σ[l]? = some (.list (rs.map AV.str))) (hb : textLen rs + rs.length * sep.length ≤ 16777216) : joinF [.str sep, .loc l] σ = some (.str (Txt.join sep rs), σ) := by
  unfold textLen at hb
  simp [joinF_eq, asList_lst, asList_loc, h, strsOf_map, hb, AV.int?, AV.str?, AV.tup?, AV.lst?, AV.loc?, AO.list?, AO.acc?, lstAt, accAt, arg1, arg2, gd_if, gd_true, selfL]
end
set_option tactic.hygienic false in
theorem eqvAll_refl (rs : List Str) : PyData.eqvAll (rs.map PyData.str) (rs.map PyData.str) = true := by
  induction rs with
  | nil => rfl
  | cons r rs ih => rw [List.map_cons, PyData.eqvAll, ih, PyData.eqv]; simp
set_option tactic.hygienic false in
theorem optAll_strs (σ : St) (n : Nat) (rs : List Str) : optAll (toPD σ n) (rs.map AV.str) = some (rs.map PyData.str) := by
  induction rs with
  | nil => rfl
  | cons r rs ih => cases n <;> simp [optAll, toPD_none, toPD_bool, toPD_int, toPD_str, toPD_tup, toPD_lst, toPD_loc, optAll, ih, AV.int?, AV.str?, AV.tup?, AV.lst?, AV.loc?, AO.list?, AO.acc?, lstAt, accAt, arg1, arg2, gd_if, gd_true, selfL]
set_option tactic.hygienic false in
theorem aeqv_rows {σ : St} {l : Nat} {rs : List Str} (h : σ[l]? = some (.list (rs.map AV.str))) : aeqv σ (.loc l) (.lst (rs.map AV.str)) = some true := by
  have e : optAll (toPD σ 3) (rs.map AV.str) = some (rs.map PyData.str) := optAll_strs σ 3 rs
  simp [aeqv, toPD_none, toPD_bool, toPD_int, toPD_str, toPD_tup, toPD_lst, toPD_loc, optAll, h, e, PyData.eqv, eqvAll_refl, AV.int?, AV.str?, AV.tup?, AV.lst?, AV.loc?, AO.list?, AO.acc?, lstAt, accAt, arg1, arg2, gd_if, gd_true, selfL]
set_option tactic.hygienic false in
theorem ne_rows {σ : St} {l : Nat} {rs : List Str} (h : σ[l]? = some (.list (rs.map AV.str))) : acmp σ .NotEq (.loc l) (.lst (rs.map AV.str)) = some false := by
  show (aeqv σ (.loc l) (.lst (rs.map AV.str))).map not = _
  rw [aeqv_rows h]; rfl
end Mine.Internal
end
section
set_option linter.all false
open PySem PySem.W PyProof.Rows PySem.Calls
namespace Mine.Internal
structure WE (f : EM) (lc : Lc) (σ : St) (Q : AV → St → Prop) : Prop where
  run : ∃ v σ', f lc σ = some (v, σ') ∧ Q v σ'
structure WT (f : TM) (lc : Lc) (σ : St) (Q : Bool → St → Prop) : Prop where
  run : ∃ v σ', f lc σ = some (v, σ') ∧ Q v σ'
structure WL (f : List EM) (lc : Lc) (σ : St) (Q : List AV → St → Prop) : Prop where
  run : ∃ v σ', evs f lc σ = some (v, σ') ∧ Q v σ'
structure WF (F : FM) (xs : List AV) (σ : St) (Q : AV → St → Prop) : Prop where
  run : ∃ v σ', F xs σ = some (v, σ') ∧ Q v σ'
structure WS (f : SM) (lc : Lc) (σ : St) (Q : Fl → Lc → St → Prop) : Prop where
  run : ∃ fl lc' σ', f lc σ = some (fl, lc', σ') ∧ Q fl lc' σ'
set_option tactic.hygienic false in
theorem bnd {α β : Type} {o : Option α} {a : α} {f : α → Option β} {r : Option β} (h : o = some a) (k : f a = r) : o.bind f = r := by rw [h]; exact k
set_option tactic.hygienic false in
theorem mpo {α β : Type} {o : Option α} {a : α} {f : α → β} (h : o = some a) : o.map f = some (f a) := by rw [h]; rfl
section
variable {lc lc' : Lc} {σ σ' : St} {f g : EM} {F : FM} {QE : AV → St → Prop} {QT : Bool → St → Prop} {QL : List AV → St → Prop} {QS : Fl → Lc → St → Prop} {fs : List SM} {es : List EM} {v : AV}
set_option tactic.hygienic false in
theorem we (h : f lc σ = some (v, σ')) (k : QE v σ') : WE f lc σ QE := ⟨_, _, h, k⟩
set_option tactic.hygienic false in
theorem wt {t : TM} {b : Bool} (h : t lc σ = some (b, σ')) (k : QT b σ') : WT t lc σ QT := ⟨_, _, h, k⟩
set_option tactic.hygienic false in
theorem wf {xs : List AV} (h : F xs σ = some (v, σ')) (k : QE v σ') : WF F xs σ QE := ⟨_, _, h, k⟩
set_option tactic.hygienic false in
theorem wl {xs : List AV} (h : evs es lc σ = some (xs, σ')) (k : QL xs σ') : WL es lc σ QL := ⟨_, _, h, k⟩
set_option tactic.hygienic false in
theorem we_m {n : Nat} (h : WE f lc σ fun r σ₁ => kind σ₁ r = n ∧ WL es lc σ₁ fun xs σ₂ => WF F (r :: xs) σ₂ QE) : WE (mE n F f es) lc σ QE := by
  obtain ⟨r, σ₁, e1, hk, xs, σ₂, e2, x, σ₃, e3, k⟩ := h
  exact ⟨_, _, bnd e1 ((if_pos hk).trans (bnd e2 e3)), k⟩
theorem ws_nil (k : QS .next lc σ) : WS (seqS []) lc σ QS := ⟨_, _, _, rfl, k⟩
set_option tactic.hygienic false in
theorem ws_asg {i : Nat} (h : WE f lc σ fun v σ₁ => ∃ lc', putL lc i v = some lc' ∧ WS (seqS fs) lc' σ₁ QS) : WS (seqS (asgS i f :: fs)) lc σ QS := by
  obtain ⟨v, σ₁, e1, lc', hl, fl, lc₂, σ₂, e2, k⟩ := h
  exact ⟨_, _, _, (seq_next (bnd e1 (mpo hl))).trans e2, k⟩
set_option tactic.hygienic false in
theorem ws_expr (h : WE f lc σ fun _ σ₁ => WS (seqS fs) lc σ₁ QS) : WS (seqS (exprS f :: fs)) lc σ QS := by
  obtain ⟨v, σ₁, e1, fl, lc', σ₂, e2, k⟩ := h
  exact ⟨_, _, _, (seq_next (expr_of e1)).trans e2, k⟩
set_option tactic.hygienic false in
theorem ws_ret (h : WE f lc σ fun v σ₁ => QS (.ret v) lc σ₁) : WS (seqS (retS f :: fs)) lc σ QS := by
  obtain ⟨v, σ₁, e1, k⟩ := h
  exact ⟨_, _, _, seq_ret (mpo e1), k⟩
theorem ws_step {s : SM} (h : s lc σ = some (.next, lc', σ')) (k : WS (seqS fs) lc' σ' QS) : WS (seqS (s :: fs)) lc σ QS := by
  obtain ⟨fl, lc₂, σ₂, e2, k⟩ := k
  exact ⟨_, _, _, (seq_next h).trans e2, k⟩
set_option tactic.hygienic false in
theorem seq_head {s s' : SM} {σ' : St} (h : s lc σ = s' lc' σ') : seqS (s :: fs) lc σ = seqS (s' :: fs) lc' σ' := by unfold seqS; rw [h]
theorem seq_flat {xs : List SM} : seqS (seqS xs :: fs) lc σ = seqS (xs ++ fs) lc σ := by
  induction xs generalizing lc σ with
  | nil => exact seq_next rfl
  | cons x xs ih =>
    rw [List.cons_append]
    cases e : x lc σ with
    | none => exact (show ((seqS (x :: xs) lc σ).bind _ = _) by rw [show seqS (x :: xs) lc σ = none by unfold seqS; rw [e]; rfl]; unfold seqS; rw [e]; rfl)
    | some p =>
      obtain ⟨fl, lc₁, σ₁⟩ := p
      cases fl with
      | next => exact (seq_head (seq_next e)).trans (ih.trans (seq_next e).symm)
      | brk => rw [seq_brk e, seq_brk (seq_brk e)]
      | cont => rw [seq_cont e, seq_cont (seq_cont e)]
      | ret v => rw [seq_ret e, seq_ret (seq_ret e)]
set_option tactic.hygienic false in
theorem ws_if {t : TM} {xs ys : List SM} (h : WT t lc σ fun b σ₁ => match b with | true => WS (seqS (xs ++ fs)) lc σ₁ QS | false => WS (seqS (ys ++ fs)) lc σ₁ QS) : WS (seqS (ifS t (seqS xs) (seqS ys) :: fs)) lc σ QS := by
  obtain ⟨a, σ₁, e1, k⟩ := h
  cases a with
  | true => obtain ⟨fl, lc₂, σ₂, e2, k⟩ := k; exact ⟨_, _, _, (seq_head (if_t e1)).trans (seq_flat.trans e2), k⟩
  | false => obtain ⟨fl, lc₂, σ₂, e2, k⟩ := k; exact ⟨_, _, _, (seq_head (if_f e1)).trans (seq_flat.trans e2), k⟩
set_option tactic.hygienic false in
theorem WS.imp {s : SM} {Q' : Fl → Lc → St → Prop} (h : WS s lc σ QS) (k : ∀ fl lc' σ', QS fl lc' σ' → Q' fl lc' σ') : WS s lc σ Q' := by
  obtain ⟨fl, lc', σ', e, q⟩ := h
  exact ⟨_, _, _, e, k _ _ _ q⟩
theorem loop_inv {nx : St → Nat → Option (Option AV)} {st : Lc → AV → Option Lc} {B : SM} {n : Nat} (I : Nat → Lc → St → Prop)
    (hN : ∀ i lc σ, i < n → I i lc σ → ∃ x lc₁, nx σ i = some (some x) ∧ st lc x = some lc₁ ∧ WS B lc₁ σ fun fl lc₂ σ₂ => (fl = .next ∨ fl = .cont) ∧ I (i + 1) lc₂ σ₂)
    (hE : ∀ lc σ, I n lc σ → nx σ n = some none) : ∀ (k i fuel : Nat) (lc : Lc) (σ : St), k + i = n → k < fuel → I i lc σ → ∃ lc' σ', loopS nx st B (seqS []) fuel i lc σ = some (.next, lc', σ') ∧ I n lc' σ'
  | 0, i, fuel + 1, lc, σ, hk, hf, hI => by
    obtain rfl : i = n := by (first | lia | omega)
    exact ⟨lc, σ, loop_stop (hE _ _ hI), hI⟩
  | k + 1, i, fuel + 1, lc, σ, hk, hf, hI => by
    obtain ⟨x, lc₁, e1, e2, fl, lc₂, σ₂, e3, hfl, hI'⟩ := hN i lc σ (by (first | lia | omega)) hI
    obtain ⟨lc', σ', e4, h4⟩ := loop_inv I hN hE k (i + 1) fuel lc₂ σ₂ (by (first | lia | omega)) (by (first | lia | omega)) hI'
    refine ⟨lc', σ', ?_, h4⟩
    rw [loop_at e1 e2 e3]
    rcases hfl with rfl | rfl
    · exact e4
    · exact e4
  | 0, _, 0, _, _, _, hf, _ => by (first | lia | omega)
  | _ + 1, _, 0, _, _, _, hf, _ => by (first | lia | omega)
theorem ws_forL {j : Nat} {B : SM} {xs : List AV} (I : Nat → Lc → St → Prop) (hx : f lc σ = some (.lst xs, σ')) (hn : xs.length < 1000000) (h0 : I 0 lc σ')
    (hN : ∀ i x lc σ, xs[i]? = some x → I i lc σ → ∃ lc₁, putL lc j x = some lc₁ ∧ WS B lc₁ σ fun fl lc₂ σ₂ => (fl = .next ∨ fl = .cont) ∧ I (i + 1) lc₂ σ₂)
    (hE : ∀ lc σ, I xs.length lc σ → WS (seqS fs) lc σ QS) : WS (seqS (forS j f B (seqS []) :: fs)) lc σ QS := by
  obtain ⟨lc', σ₂, e, h⟩ := loop_inv (nx := nxL (.lst xs)) (st := fun lc y => putL lc j y) (B := B) (n := xs.length) I
    (fun i lc σ hi hI => by
      (refine x1_2 (hN i xs[i] lc σ (List.getElem?_eq_getElem hi) hI) fun lc₁ a b => ?_)
      exact ⟨xs[i], lc₁, by simp [nxL, asList_lst, asList_loc, List.getElem?_eq_getElem hi, AV.int?, AV.str?, AV.tup?, AV.lst?, AV.loc?, AO.list?, AO.acc?, lstAt, accAt, arg1, arg2, gd_if, gd_true, selfL], a, b⟩)
    (fun lc σ _ => by simp [nxL, asList_lst, asList_loc, AV.int?, AV.str?, AV.tup?, AV.lst?, AV.loc?, AO.list?, AO.acc?, lstAt, accAt, arg1, arg2, gd_if, gd_true, selfL]) xs.length 0 1000000 lc σ' (by (first | lia | omega)) hn h0
  obtain ⟨fl, lc₃, σ₃, e3, k⟩ := hE _ _ h
  exact ⟨_, _, _, (seq_next ((for_lst hx rfl rfl).trans e)).trans e3, k⟩
end
end Mine.Internal
end
section
set_option linter.all false
open PySem PySem.W PyProof.Rows PySem.Calls
namespace Mine.Internal
set_option tactic.hygienic false in
theorem aeqv_pd {σ : St} {a b : AV} {x y : PyData} (h1 : toPD σ 4 a = some x) (h2 : toPD σ 4 b = some y) : aeqv σ a b = some (PyData.eqv x y) := bnd h1 (mpo h2)
set_option tactic.hygienic false in
theorem accText_cps (ps : List (Str × Str)) : (accText ps).cps.toList = (ps.map fun p => (partStr p).cps.toList).flatten := by
  unfold accText; rw [join_cps, List.map_map]; rfl
set_option tactic.hygienic false in
theorem trans_spec {σ : St} {m ln ac : Nat} {ml : Int} {cw : Str} {cwl : Int} {sp : Str} {rows : List Str} {ini : Int} {ps : List (Str × Str)} (F : FmtAt σ m ln ac ml cw cwl sp rows ini ps) (H : Fits rows ini ps) :
    ∃ σ', transF [.loc m] σ = some (.none, σ') ∧ FmtAt σ' m ln ac ml cw cwl sp rows ini (ps ++ [((" " : Str), ("" : Str))]) ∧ Same [ln, ac] σ σ' ∧ σ'.length = σ.length := by
  refine ⟨_, ?_, F.setAcc ini (ps ++ [((" " : Str), ("" : Str))]), .set (by simp), by simp⟩
  have hp := H.p
  refine run_next (lc' := [some (.loc m)]) rfl ?_
  show seqS _ [some (.loc m)] σ = _
  rw [seq_next (expr_of (v := .none) (by rw [mLine (xs := [.str " ", .str ""]) rfl F rfl, push_eq F.acc (by (first | lia | omega))])), seq_nil]
theorem ws_forR {lc : Lc} {σ σ' : St} {QS : Fl → Lc → St → Prop} {fs : List SM} {j : Nat} {B : SM} {es : List EM} {xs : List AV} {a b c : Int} {n : Nat} (I : Nat → Lc → St → Prop) (hx : evs es lc σ = some (xs, σ')) (hr : rangeArgs xs = some (a, b, c)) (ho : okRange a b c = true) (hn : Builtin.Range.rangeSize a b c = n) (hlt : n < 1000000) (h0 : I 0 lc σ')
    (hN : ∀ (i : Nat) lc σ, i < n → I i lc σ → ∃ lc₁, putL lc j (.int (a + c * i)) = some lc₁ ∧ WS B lc₁ σ fun fl lc₂ σ₂ => (fl = .next ∨ fl = .cont) ∧ I (i + 1) lc₂ σ₂)
    (hE : ∀ lc σ, I n lc σ → WS (seqS fs) lc σ QS) : WS (seqS (forRS j es B (seqS []) :: fs)) lc σ QS := by
  obtain ⟨lc', σ₂, e, h⟩ := loop_inv (nx := nxR a b c) (st := fun lc y => putL lc j y) (B := B) (n := n) I
    (fun i lc σ hi hI => by
      (refine x1_2 (hN i lc σ hi hI) fun lc₁ p q => ?_)
      exact ⟨_, lc₁, by rw [nxR, hn, gd_if, if_pos (by (first | lia | omega))], p, q⟩)
    (fun lc σ _ => by rw [nxR, hn, gd_if, if_neg (by (first | lia | omega))]) n 0 1000000 lc σ' (by (first | lia | omega)) hlt h0
  obtain ⟨fl, lc₃, σ₃, e3, k⟩ := hE _ _ h
  exact ⟨_, _, _, (seq_next (forR_of hx hr ho e)).trans e3, k⟩
set_option tactic.hygienic false in
theorem fmod_cases {x m : Int} (h : 0 < m) : 0 ≤ x.fmod m ∧ x.fmod m < m := ⟨Int.fmod_nonneg_of_pos _ h, Int.fmod_lt_of_pos _ h⟩
end Mine.Internal
end
section
set_option linter.all false
open PySem PySem.W PyProof.Rows PySem.Calls
namespace Mine.Internal
section
variable {lc : Lc} {σ σ' : St} {f g h : EM} {a b v : AV} {x y : Str} {i j : Int} {op : Operator} {l : Nat}
set_option tactic.hygienic false in
theorem bin_of (h1 : f lc σ = some (a, σ)) (h2 : g lc σ = some (b, σ)) (h3 : abin σ op a b = some v) : binE op f g lc σ = some (v, σ) := bnd h1 (bnd h2 (mpo h3))
set_option tactic.hygienic false in
theorem add_of (h1 : f lc σ = some (.int i, σ)) (h2 : g lc σ = some (.int j, σ)) : binE .Add f g lc σ = some (.int (i + j), σ) := bin_of h1 h2 rfl
set_option tactic.hygienic false in
theorem sub_of (h1 : f lc σ = some (.int i, σ)) (h2 : g lc σ = some (.int j, σ)) : binE .Sub f g lc σ = some (.int (i - j), σ) := bin_of h1 h2 rfl
set_option tactic.hygienic false in
theorem cat_of (h1 : f lc σ = some (.str x, σ)) (h2 : g lc σ = some (.str y, σ)) (h3 : x.length + y.length ≤ 1000000) : binE .Add f g lc σ = some (.str (x ++ y), σ) := bin_of h1 h2 (aadd_str.trans (gd_of (decide_eq_true (by rw [sizeLine_eq]; (first | lia | omega)))))
set_option tactic.hygienic false in
theorem cmp_of {op : CmpOp} {c : Bool} (h1 : f lc σ = some (a, σ)) (h2 : g lc σ = some (b, σ)) (h3 : acmp σ op a b = some c) : cmpT op f g lc σ = some (c, σ) := bnd h1 (bnd h2 (mpo h3))
set_option tactic.hygienic false in
theorem evs1 (h1 : f lc σ = some (a, σ')) : evs [f] lc σ = some ([a], σ') := bnd h1 (mpo rfl)
set_option tactic.hygienic false in
theorem evs_cons {fs : List EM} {xs : List AV} {σ₁ σ₂ : St} (h1 : f lc σ = some (a, σ₁)) (h2 : evs fs lc σ₁ = some (xs, σ₂)) : evs (f :: fs) lc σ = some (a :: xs, σ₂) := bnd h1 (mpo h2)
set_option tactic.hygienic false in
theorem len_of {LF : FM} (h1 : f lc σ = some (.str x, σ)) (h2 : x.length ≤ 1000000) : callE (lenF LF) [f] lc σ = some (.int x.length, σ) := bnd (evs1 h1) (lenF_str.trans (gd_of (decide_eq_true h2)))
set_option tactic.hygienic false in
theorem neStr_of (h1 : f lc σ = some (.str x, σ)) (h2 : g lc σ = some (.str y, σ)) : cmpT .NotEq f g lc σ = some (decide (x ≠ y), σ) := cmp_of h1 h2 (by
  show ((toPD σ 4 (.str x)).bind fun p => (toPD σ 4 (.str y)).map fun q => PyData.eqv p q).map not = _
  rw [toPD_str, toPD_str]
  show some (!(PyData.eqv (.str x) (.str y))) = _
  rw [PyData.eqv]
  by_cases e : x = y
  · subst e; simp
  · simp [e])
set_option tactic.hygienic false in
theorem neInt_of (h1 : f lc σ = some (.int i, σ)) (h2 : g lc σ = some (.int j, σ)) : cmpT .NotEq f g lc σ = some (decide (i ≠ j), σ) := cmp_of h1 h2 (by
  show ((toPD σ 4 (.int i)).bind fun p => (toPD σ 4 (.int j)).map fun q => PyData.eqv p q).map not = _
  rw [toPD_int, toPD_int]
  show some (!(PyData.eqv (.int i) (.int j))) = _
  rw [PyData.eqv]
  by_cases e : i = j
  · subst e; simp
  · simp [e])
set_option tactic.hygienic false in
theorem or_f {t : TM} {ts : List TM} (h : t lc σ = some (false, σ)) (k : orT ts lc σ = some (false, σ)) : orT (t :: ts) lc σ = some (false, σ) := bnd h k
set_option tactic.hygienic false in
theorem lstE_of {es : List EM} {xs : List AV} (h : evs es lc σ = some (xs, σ')) (hz : xs.length ≤ 1000000) : lstE es lc σ = some (.lst xs, σ') := bnd h (gd_of (decide_eq_true (len_line hz)))
set_option tactic.hygienic false in
theorem newLE_of {es : List EM} {xs : List AV} (h : evs es lc σ = some (xs, σ')) (hz : xs.length ≤ 1000000) : newLE es lc σ = some (.loc σ'.length, σ' ++ [.list xs]) := bnd h (gd_of (decide_eq_true (len_line hz)))
set_option tactic.hygienic false in
theorem intsOf_map (ns : List Int) : intsOf (ns.map AV.int) = some ns := by
  unfold intsOf
  induction ns with
  | nil => rfl
  | cons n ns ih => rw [List.map_cons, optAll, ih]; rfl
set_option tactic.hygienic false in
theorem sum_of {ns : List Int} (h1 : f lc σ = some (.lst (ns.map AV.int), σ)) : callE sumF [f] lc σ = some (.int ns.sum, σ) :=
  bnd (evs1 h1) (bnd (a := .lst (ns.map AV.int)) rfl (bnd (a := ns.map AV.int) rfl (mpo (intsOf_map ns))))
set_option tactic.hygienic false in
theorem slice_of {hi : EM} {n : Nat} {xs : List AV} (h1 : f lc σ = some (.lst xs, σ)) (h2 : hi lc σ = some (.int (n : Int), σ)) (hz : xs.length ≤ 1000000) : sliceE f none (some hi) lc σ = some (.lst (xs.take n), σ) := by
  refine bnd h1 (bnd (a := (none, σ)) rfl (bnd (a := (some (n : Int), σ)) (bnd h2 (mpo rfl)) (bnd (a := xs) rfl ?_)))
  rw [gd_of (decide_eq_true hz), slice_to]
theorem augIdx_of {ix : EM} (h2 : g lc σ = some (.loc l, σ)) (h3 : ix lc σ = some (.int i, σ)) (h5 : aget σ (.loc l) i = some a) (h1 : f lc σ = some (b, σ)) (h6 : ainp op a b = some v) (h4 : putAt l i v σ = some σ') : augIdxS g ix op f lc σ = some (.next, lc, σ') := bnd h2 (bnd (a := l) rfl (bnd h3 (bnd (a := i) rfl (bnd h5 (bnd h1 (bnd h6 (mpo h4)))))))
set_option tactic.hygienic false in
theorem mF {ml : Int} {cw : Str} {cwl : Int} {sp : Str} {ln ac : Nat} {G : FM} {es : List EM} {xs : List AV} {Q : AV → St → Prop} (hf : f lc σ = some (.loc l, σ)) (hl : σ[l]? = some (.fmt ml cw cwl sp ln ac)) (he : evs es lc σ = some (xs, σ)) (k : WF G (.loc l :: xs) σ Q) : WE (mE 3 G f es) lc σ Q :=
  we_m (we hf ⟨by rw [kind_loc_eq, hl]; rfl, wl he k⟩)
set_option tactic.hygienic false in
theorem mS {G : FM} {es : List EM} {xs : List AV} {r : AV × St} (hf : f lc σ = some (.str x, σ)) (he : evs es lc σ = some (xs, σ)) (k : G (.str x :: xs) σ = some r) : mE 1 G f es lc σ = some r :=
  bnd hf ((if_pos rfl).trans (bnd he k))
end
set_option tactic.hygienic false in
theorem ne_same {σ : St} {a b : AV} {x : PyData} (h1 : toPD σ 4 a = some x) (h2 : toPD σ 4 b = some x) (h : PyData.eqv x x = true) : acmp σ .NotEq a b = some false := by
  show (aeqv σ a b).map not = _
  rw [aeqv_pd h1 h2, h]; rfl
set_option tactic.hygienic false in
theorem mod_cases (x : Int) {n : Nat} (h : 0 < n) : ∃ k : Nat, x.fmod n = k ∧ k < n := by
  obtain ⟨h1, h2⟩ := fmod_cases (x := x) (m := n) (by (first | lia | omega))
  exact ⟨(x.fmod n).toNat, by (first | lia | omega), by (first | lia | omega)⟩
end Mine.Internal
end
section
set_option linter.all false
open PySem PySem.W PyProof.Rows PySem.Calls
namespace Mine.Internal
section
variable {lc : Lc} {σ σ₁ : St} {f : EM} {v : AV} {c : Addr} {l : Nat}
set_option tactic.hygienic false in
theorem cell_eq (h : σ[l]? = some (.cell c (some v))) : cellE c l lc σ = some (v, σ) := bnd (celAt_of h) (bnd rfl (by rw [beq_self_eq_true]; rfl))
end
end Mine.Internal
end
section
set_option linter.all false
open PySem PySem.W PyProof.Rows PySem.Calls
namespace Mine.Internal
section
variable {lc : Lc} {σ σ₁ : St} {f : EM}
set_option tactic.hygienic false in
theorem snoc_get {α : Type} {xs : List α} {x : α} : (xs ++ [x])[xs.length]? = some x := by rw [List.getElem?_append_right (Nat.le_refl _), Nat.sub_self]; rfl
set_option tactic.hygienic false in
theorem snoc_set {α : Type} {xs : List α} {x y : α} : (xs ++ [x]).set xs.length y = xs ++ [y] := by simp
set_option tactic.hygienic false in
theorem append_snoc {xs : List AV} {v : AV} (hz : xs.length ≤ 1000000) : appendF [.loc σ.length, v] (σ ++ [.list xs]) = some (.none, σ ++ [.list (xs ++ [v])]) := by
  rw [appendF_list snoc_get (len_line hz), snoc_set]
structure PureC (σ : St) (nx : St → Nat → Option (Option AV)) (st : Lc → AV → Option Lc) (t : TM) (f : EM) (k n : Nat) (x : Nat → AV) (l : Nat → Lc) (b : Nat → Bool) (v : Nat → AV) : Prop where
  hx : ∀ i, i < n → ∀ acc, nx (σ ++ [.list acc]) i = some (some (x i))
  fin : ∀ acc, nx (σ ++ [.list acc]) n = some none
  hst : ∀ i, i < n → ∀ lc : Lc, lc.length = k → st lc (x i) = some (l i)
  len : ∀ i, i < n → (l i).length = k
  ht : ∀ i, i < n → ∀ acc, t (l i) (σ ++ [.list acc]) = some (b i, σ ++ [.list acc])
  hf : ∀ i, i < n → b i = true → ∀ acc, f (l i) (σ ++ [.list acc]) = some (v i, σ ++ [.list acc])
set_option tactic.hygienic false in
theorem comp_pure {nx : St → Nat → Option (Option AV)} {st : Lc → AV → Option Lc} {t : TM} {k n : Nat} {x : Nat → AV} {l : Nat → Lc} {b : Nat → Bool} {v : Nat → AV} (P : PureC σ nx st t f k n x l b v) (hn : n ≤ 900000) :
    ∀ (r i fuel : Nat) (lc : Lc) (acc : List AV), i + r = n → r < fuel → lc.length = k → acc.length ≤ i → compG nx st t f σ.length fuel i lc (σ ++ [.list acc]) = some (σ ++ [.list (acc ++ ((List.range' i r).filter b).map v)])
  | 0, i, fuel + 1, lc, acc, hi, _, _, _ => by
    obtain rfl : i = n := by (first | lia | omega)
    unfold compG
    rw [P.fin]
    simp
  | r + 1, i, fuel + 1, lc, acc, hi, hf, hl, ha => by
    have hlt : i < n := by (first | lia | omega)
    have e1 : compG nx st t f σ.length (fuel + 1) i lc (σ ++ [.list acc]) = if b i then compG nx st t f σ.length fuel (i + 1) (l i) (σ ++ [.list (acc ++ [v i])]) else compG nx st t f σ.length fuel (i + 1) (l i) (σ ++ [.list acc]) := by
      refine bnd (P.hx i hlt acc) (bnd (P.hst i hlt lc hl) (bnd (P.ht i hlt acc) ?_))
      cases hb : b i with
      | true => exact bnd (P.hf i hlt hb acc) (bnd (append_snoc (by (first | lia | omega))) rfl)
      | false => rfl
    rw [e1, List.range'_succ, List.filter_cons]
    cases hb : b i with
    | true =>
      rw [if_pos rfl, comp_pure P hn r (i + 1) fuel (l i) (acc ++ [v i]) (by (first | lia | omega)) (by (first | lia | omega)) (P.len i hlt) (by simp; (first | lia | omega))]
      simp
    | false =>
      rw [if_neg Bool.false_ne_true, comp_pure P hn r (i + 1) fuel (l i) acc (by (first | lia | omega)) (by (first | lia | omega)) (P.len i hlt) (by (first | lia | omega))]
      simp
  | 0, _, 0, _, _, _, h, _, _ => absurd h (Nat.lt_irrefl _)
  | _ + 1, _, 0, _, _, _, h, _, _ => absurd h (Nat.not_lt_zero _)
set_option tactic.hygienic false in
theorem compGE_pure {src : SrcM} {tn : (St → Nat → Option (Option AV)) → St → Nat → Option (Option AV)} {nx : St → Nat → Option (Option AV)} {st : Lc → AV → Option Lc} {t : TM} {k n : Nat} {x : Nat → AV} {l : Nat → Lc} {b : Nat → Bool} {v : Nat → AV} (hs : src lc σ = some (nx, σ₁)) (P : PureC σ₁ (tn nx) st t f k n x l b v) (hn : n ≤ 900000) :
    compGE src k tn st t f lc σ = some (.loc σ₁.length, σ₁ ++ [.list (((List.range n).filter b).map v)]) := by
  refine bnd hs (mpo ?_)
  have := comp_pure P hn n 0 1000000 (List.replicate k none) [] (by (first | lia | omega)) (by (first | lia | omega)) (List.length_replicate ..) (Nat.le_refl _)
  rw [List.nil_append, ← List.range_eq_range'] at this
  exact this
end
end Mine.Internal
end
section
set_option linter.all false
open PySem PySem.W PyProof.Rows PySem.Calls
namespace Mine.Internal
noncomputable def strL (xs : List Nat) : Str := ⟨xs.toArray⟩
set_option tactic.hygienic false in
theorem strL_len {xs : List Nat} : (strL xs).length = xs.length := List.size_toArray ..
set_option tactic.hygienic false in
theorem strL_cps {x : Str} : strL x.cps.toList = x := rfl
set_option tactic.hygienic false in
theorem cps_strL {xs : List Nat} : (strL xs).cps.toList = xs := rfl
set_option tactic.hygienic false in
theorem strL_app {a b : List Nat} : strL a ++ strL b = strL (a ++ b) := str_ext (by rw [app_cps]; rfl)
theorem slice_mid {x : Str} {a b : Nat} (hab : a ≤ b) (hb : b ≤ x.length) : Txt.slice x (some (a : Int)) (some (b : Int)) = strL ((x.cps.toList.drop a).take (b - a)) := by
  unfold Txt.slice
  rw [PySem.StrLaws.strSliceIndices_plain hab hb]
  have hl : x.cps.toList.length = x.length := by rw [Array.length_toList]; rfl
  split
  · rename_i h
    simp only [List.length_map, List.length_range, Bool.and_eq_true, beq_iff_eq] at h
    obtain rfl : a = 0 := by (first | lia | omega)
    rw [List.drop_zero, List.take_of_length_le (by rw [hl]; (first | lia | omega))]
    rfl
  · have := pick_range x.cps.toList a (b - a)
    unfold pickL at this
    rw [← this]
    simp only [Array.getElem?_toList]
    rfl
set_option tactic.hygienic false in
theorem slice_take (x : Str) (b : Nat) : Txt.slice x none (some (b : Int)) = strL (x.cps.toList.take b) := by
  have hl : x.cps.toList.length = x.length := by rw [Array.length_toList]; rfl
  have e : Txt.slice x none (some (b : Int)) = Txt.slice x (some ((0 : Nat) : Int)) (some ((min b x.length : Nat) : Int)) := by
    unfold Txt.slice
    rcases Nat.le_total b x.length with h | h
    · rw [PySem.StrLaws.sliceIdx_none_lo, Nat.min_eq_left h]; rfl
    · rw [Nat.min_eq_right h, sliceIdx_hi_beyond _ (by (first | lia | omega)), PySem.StrLaws.sliceIdx_none_lo]; rfl
  rw [e, slice_mid (Nat.zero_le _) (Nat.min_le_right _ _), List.drop_zero, Nat.sub_zero]
  rcases Nat.le_total b x.length with h | h
  · rw [Nat.min_eq_left h]
  · rw [Nat.min_eq_right h, List.take_of_length_le (by (first | lia | omega)), List.take_of_length_le (by (first | lia | omega))]
set_option tactic.hygienic false in
theorem slice_drop (x : Str) (a : Nat) : Txt.slice x (some (a : Int)) none = strL (x.cps.toList.drop a) := by
  have hl : x.cps.toList.length = x.length := by rw [Array.length_toList]; rfl
  have e : Txt.slice x (some (a : Int)) none = Txt.slice x (some ((min a x.length : Nat) : Int)) (some ((x.length : Nat) : Int)) := by
    unfold Txt.slice
    rcases Nat.le_total a x.length with h | h
    · rw [PySem.StrLaws.sliceIdx_none_hi, Nat.min_eq_left h]
    · rw [Nat.min_eq_right h, sliceIdx_lo_beyond _ (by (first | lia | omega)), PySem.StrLaws.sliceIdx_none_hi]
  rw [e, slice_mid (Nat.min_le_right _ _) (Nat.le_refl _), List.take_of_length_le (by rw [List.length_drop]; (first | lia | omega))]
  rcases Nat.le_total a x.length with h | h
  · rw [Nat.min_eq_left h]
  · rw [Nat.min_eq_right h, List.drop_of_length_le (by (first | lia | omega)), List.drop_of_length_le (by (first | lia | omega))]
set_option tactic.hygienic false in
theorem contains_one (x : Str) (c : Nat) : Txt.contains x ⟨#[c]⟩ = decide (c ∈ x.cps.toList) := PySem.StrLaws.found_one x c
set_option tactic.hygienic false in
theorem rangeUp (n : Nat) : Builtin.Range.rangeSize 0 (n : Int) 1 = n := by
  unfold Builtin.Range.rangeSize
  simp
  try (first | lia | omega)
set_option tactic.hygienic false in
theorem okUp {n : Nat} (h : n < 1000000) : okRange 0 (n : Int) 1 = true := by
  have f : Builtin.Range.rangeFitsLong (n : Int) = true := by
    unfold Builtin.Range.rangeFitsLong
    rw [Bool.and_eq_true, decide_eq_true_eq, decide_eq_true_eq]
    constructor <;> (first | lia | omega)
  unfold okRange Builtin.Range.small
  rw [rangeUp, f]
  have e : (if (1 : Int) > 0 then Builtin.Range.rangeFitsLong ((n : Int) + (1 - 1)) else Builtin.Range.rangeFitsLong ((n : Int) + (1 + 1))) = true := by
    rw [if_pos (by decide), show (n : Int) + (1 - 1) = n by (first | lia | omega), f]
  rw [e]
  generalize ((n : Int) == 0) = z
  cases z <;> decide
section
variable {lc : Lc} {σ σ' : St} {f g h : EM} {a b v : AV} {x y : Str} {i j : Int}
set_option tactic.hygienic false in
theorem eqInt_of (h1 : f lc σ = some (.int i, σ)) (h2 : g lc σ = some (.int j, σ)) : cmpT .Eq f g lc σ = some (decide (i = j), σ) := cmp_of h1 h2 (by
  show ((toPD σ 4 (.int i)).bind fun p => (toPD σ 4 (.int j)).map fun q => PyData.eqv p q) = _
  rw [toPD_int, toPD_int]
  show some (PyData.eqv (.int i) (.int j)) = _
  rw [PyData.eqv]
  by_cases e : i = j
  · subst e; simp
  · simp [e])
set_option tactic.hygienic false in
theorem ltInt_of (h1 : f lc σ = some (.int i, σ)) (h2 : g lc σ = some (.int j, σ)) : cmpT .Lt f g lc σ = some (decide (i < j), σ) := cmp_of h1 h2 rfl
set_option tactic.hygienic false in
theorem in_of (h1 : f lc σ = some (.str y, σ)) (h2 : g lc σ = some (.str x, σ)) : cmpT .In f g lc σ = some (Txt.contains x y, σ) := cmp_of h1 h2 rfl
set_option tactic.hygienic false in
theorem notIn_of (h1 : f lc σ = some (.str y, σ)) (h2 : g lc σ = some (.str x, σ)) : cmpT .NotIn f g lc σ = some (!Txt.contains x y, σ) := cmp_of h1 h2 rfl
set_option tactic.hygienic false in
theorem or_t {t : TM} {ts : List TM} (h : t lc σ = some (true, σ)) : orT (t :: ts) lc σ = some (true, σ) := bnd h rfl
set_option tactic.hygienic false in
theorem or_n {t : TM} {ts : List TM} {r : Option (Bool × St)} (h : t lc σ = some (false, σ)) (k : orT ts lc σ = r) : orT (t :: ts) lc σ = r := bnd h k
set_option tactic.hygienic false in
theorem and_t {t : TM} {ts : List TM} {r : Option (Bool × St)} (h : t lc σ = some (true, σ)) (k : andT ts lc σ = r) : andT (t :: ts) lc σ = r := bnd h k
set_option tactic.hygienic false in
theorem and_f {t : TM} {ts : List TM} (h : t lc σ = some (false, σ)) : andT (t :: ts) lc σ = some (false, σ) := bnd h rfl
set_option tactic.hygienic false in
theorem or_1 {t : TM} {c : Bool} (h : t lc σ = some (c, σ)) : orT [t] lc σ = some (c, σ) := by cases c <;> exact bnd h rfl
set_option tactic.hygienic false in
theorem and_1 {t : TM} {c : Bool} (h : t lc σ = some (c, σ)) : andT [t] lc σ = some (c, σ) := by cases c <;> exact bnd h rfl
set_option tactic.hygienic false in
theorem sign_of {k c : Nat} (h1 : f lc σ = some (.str x, σ)) (h2 : g lc σ = some (.int (k : Int), σ)) (hk : x.cps.toList[k]? = some c) (hz : x.length ≤ 1000000) : idxE f g lc σ = some (.str ⟨#[c]⟩, σ) := by
  have hl : x.cps.toList.length = x.length := by rw [Array.length_toList]; rfl
  have hlt : k < x.length := hl ▸ (List.getElem?_eq_some_iff.mp hk).1
  have es : seqIndex? (k : Int) x.length = some k := sidx hlt
  refine idx_of h1 h2 ?_
  rw [aget_str, if_pos (by (first | lia | omega)), es]
  show (x.cps[k]?).map _ = _
  rw [← Array.getElem?_toList, hk]
  rfl
set_option tactic.hygienic false in
theorem item_of {l k : Nat} {xs : List AV} (h1 : f lc σ = some (.loc l, σ)) (h2 : g lc σ = some (.int (k : Int), σ)) (hl : σ[l]? = some (.list xs)) (hk : xs[k]? = some v) (hz : xs.length ≤ 1000000) : idxE f g lc σ = some (v, σ) := by
  have hlt := (List.getElem?_eq_some_iff.mp hk).1
  have es : seqIndex? (k : Int) xs.length = some k := sidx hlt
  refine idx_of h1 h2 ?_
  rw [aget_seq (asSeq_list hl), if_pos (by (first | lia | omega)), es]
  exact hk
set_option tactic.hygienic false in
theorem slStr_of {lo hi : Option EM} {p q : Option Int} (h1 : f lc σ = some (.str x, σ)) (h2 : optE lo lc σ = some (p, σ)) (h3 : optE hi lc σ = some (q, σ)) (hz : x.length ≤ 1000000) : slStrE f lo hi lc σ = some (.str (Txt.slice x p q), σ) :=
  bnd h1 (bnd rfl (bnd h2 (bnd h3 (gd_of (decide_eq_true hz)))))
set_option tactic.hygienic false in
theorem opt_of (h : f lc σ = some (.int i, σ)) : optE (some f) lc σ = some (some i, σ) := bnd h (mpo rfl)
set_option tactic.hygienic false in
theorem count_of {c : Nat} (h1 : f lc σ = some (.str x, σ)) (h2 : g lc σ = some (.str ⟨#[c]⟩, σ)) : mE 1 countF f [g] lc σ = some (.int (cnt c x.cps.toList), σ) :=
  mS h1 (evs1 h2) (by show some (AV.int (Txt.count x ⟨#[c]⟩), σ) = _; rw [count_cnt])
set_option tactic.hygienic false in
theorem evs2 {σ₁ σ₂ : St} (h1 : f lc σ = some (a, σ₁)) (h2 : g lc σ₁ = some (b, σ₂)) : evs [f, g] lc σ = some ([a, b], σ₂) := evs_cons h1 (evs1 h2)
set_option tactic.hygienic false in
theorem srcR_of {fs : List EM} {xs : List AV} {r : Int × Int × Int} (h1 : evs fs lc σ = some (xs, σ')) (h2 : rangeArgs xs = some r) (h3 : okRange r.1 r.2.1 r.2.2 = true) : srcR fs lc σ = some (nxR r.1 r.2.1 r.2.2, σ') := bnd h1 (bnd h2 (gd_of h3))
set_option tactic.hygienic false in
theorem srcL_of {xs : List AV} (h1 : f lc σ = some (a, σ')) (h2 : asList σ' a = some xs) : srcL f lc σ = some (nxL a, σ') := bnd h1 (mpo h2)
set_option tactic.hygienic false in
theorem srcA_of {l : Nat} {ini : Int} {ps : List (Str × Str)} (h1 : f lc σ = some (.loc l, σ')) (h2 : σ'[l]? = some (.acc ini ps)) : srcA f lc σ = some (nxA l, σ') := bnd h1 (bnd rfl (mpo (accAt_of h2)))
set_option tactic.hygienic false in
theorem nxR_up {n i : Nat} (h : i < n) : nxR 0 (n : Int) 1 σ i = some (some (.int (i : Int))) := by
  unfold nxR
  rw [rangeUp, gd_of (decide_eq_true (by (first | lia | omega)))]
  simp
set_option tactic.hygienic false in
theorem nxR_fin {n : Nat} : nxR 0 (n : Int) 1 σ n = some none := by
  unfold nxR
  rw [rangeUp]
  simp [gd]
set_option tactic.hygienic false in
theorem app_of {l : Nat} {xs : List AV} (h1 : f lc σ = some (.loc l, σ)) (hl : σ[l]? = some (.list xs)) (h2 : g lc σ = some (v, σ')) (hl' : σ'[l]? = some (.list xs)) (hz : xs.length ≤ 1000000) : mE 2 appendF f [g] lc σ = some (.none, σ'.set l (.list (xs ++ [v]))) :=
  bnd h1 ((if_pos (by rw [kind_loc_eq, hl]; rfl)).trans (bnd (evs1 h2) (appendF_list hl' (len_line hz))))
set_option tactic.hygienic false in
theorem tup_of {fs : List EM} {xs : List AV} (h : evs fs lc σ = some (xs, σ')) (hz : xs.length ≤ 1000000) : tupE fs lc σ = some (.tup xs, σ') := bnd h (gd_of (decide_eq_true (len_line hz)))
set_option tactic.hygienic false in
theorem lenL_of {LF : FM} {l : Nat} {xs : List AV} (h1 : f lc σ = some (.loc l, σ)) (hl : σ[l]? = some (.list xs)) (hz : xs.length ≤ 1000000) : callE (lenF LF) [f] lc σ = some (.int xs.length, σ) := bnd (evs1 h1) (lenF_list hl hz)
end
section
variable {α : Type} {xs D : List α} {o p q : α}
set_option tactic.hygienic false in
theorem get0 : (xs ++ o :: D)[xs.length]? = some o := by rw [List.getElem?_append_right (Nat.le_refl _), Nat.sub_self]; rfl
set_option tactic.hygienic false in
theorem get1 : (xs ++ o :: p :: D)[xs.length + 1]? = some p := by rw [List.getElem?_append_right (Nat.le_add_right _ 1), Nat.add_sub_cancel_left]; rfl
set_option tactic.hygienic false in
theorem set0 : (xs ++ o :: D).set xs.length q = xs ++ q :: D := by simp
set_option tactic.hygienic false in
theorem set1 : (xs ++ o :: p :: D).set (xs.length + 1) q = xs ++ o :: q :: D := by rw [List.set_append_right _ _ (Nat.le_add_right _ 1), Nat.add_sub_cancel_left]; rfl
set_option tactic.hygienic false in
theorem getL {i : Nat} {v : α} (h : xs[i]? = some v) : (xs ++ D)[i]? = some v := by rw [List.getElem?_append_left (List.getElem?_eq_some_iff.mp h).1]; exact h
end
end Mine.Internal
end
section
open PySem PySem.W PyProof.Rows PySem.Calls
namespace Mine.Internal
noncomputable def p_law_piecesFTurn1 (L g : Nat) : SM := (seqS [asgS 3 (slStrE (cellE (L + 1 + 0) (g + 0)) (some (idxE (nE 0) (nE 2))) (some (idxE (nE 0) (binE .Add (nE 2) (cE (.int 1)))))),
 asgS 4 (binE .Add (mE 1 countF (nE 3) [(cE (.str " "))]) (mE 1 countF (nE 3) [(cE (.str "\t"))])),
 exprS (mE 2 appendF (nE 1) [(tupE [(slStrE (nE 3) none (some (nE 4))), (slStrE (nE 3) (some (nE 4)) none)])])])
noncomputable def p_law_piecesFB (L g : Nat) : SM := (seqS [asgS 0 (compGE (srcR [(callE (lenF accLenF) [(cellE (L + 1 + 0) (g + 0))])]) 1 id (fun lc y => putL lc 0 y) (orT [(cmpT .Eq (nE 0) (cE (.int 0))), (andT [(cmpT .In (idxE (cellE (L + 1 + 0) (g + 0)) (nE 0)) (cE (.str " \t"))), (cmpT .NotIn (idxE (cellE (L + 1 + 0) (g + 0)) (binE .Sub (nE 0) (cE (.int 1)))) (cE (.str " \t")))])]) (nE 0)),
 exprS (mE 2 appendF (nE 0) [(callE (lenF accLenF) [(cellE (L + 1 + 0) (g + 0))])]),
 asgS 1 (newLE []),
 forRS 2 [(binE .Sub (callE (lenF accLenF) [(nE 0)]) (cE (.int 1)))] (p_law_piecesFTurn1 L g) (seqS []),
 retS (nE 1)])
noncomputable def p_law_piecesF : FM := runC 1 [none, none, none, none, none] [some 0] p_law_piecesFB
noncomputable def p_law_textsFTurn1 : SM := (seqS [ifS (cmpT .Lt (binE .Mod (nE 3) (cE (.int 14))) (cE (.int 12))) (seqS [augIdxS (idxE (nE 2) (negE (cE (.int 1)))) (cE (.int 1)) .Add (idxE (nE 1) (binE .Mod (nE 3) (cE (.int 14))))]) (seqS [exprS (mE 2 appendF (nE 2) [(newLE [(binE .Sub (binE .Mod (nE 3) (cE (.int 14))) (cE (.int 12))), (cE (.str ""))])])])])
noncomputable def p_law_textsFB : SM := (seqS [asgS 1 (cE (.str "ab;\xe9 \t ,\n\xa0\u2003\x0b")),
 asgS 2 (newLE [(newLE [(cE (.int 0)), (cE (.str ""))])]),
 forS 3 (nE 0) p_law_textsFTurn1 (seqS []),
 retS (nE 2)])
noncomputable def p_law_textsF : FM := runF ["script", "signs", "texts", "x"] 1 p_law_textsFB
noncomputable def lawFTurn1 : SM := (seqS [exprS (mE 2 extendF (nE 4) [(mulLE (lstE [(tupE [(cE (.str " ")), (cE (.str ""))])]) (nE 5))]),
 exprS (mE 2 extendF (nE 4) [(callE p_law_piecesF [(nE 6)])])])
noncomputable def lawFTurn2 : SM := (seqS [ifS (cmpT .Eq (nE 5) (cE (.int 1))) (seqS [exprS (mE 3 transF (nE 12) [])]) (seqS []),
 exprS (mE 3 splitF (nE 12) [(slStrE (nE 6) none (some (nE 7))), (slStrE (nE 6) (some (nE 7)) none), (cE (.str ","))])])
noncomputable def lawFTurn3 : SM := (seqS [asgS 12 (callE mkFmtF [(nE 9), (nE 10), (cE (.str "\t")), (nE 11)]),
 forGS (srcL (nE 2)) (nxU 2) (putU [5, 6]) lawFTurn2 (seqS []),
 asgS 13 (attrE 5 (nE 12)),
 ifS (orT [(cmpT .NotEq (attrE 4 (nE 12)) (lstE [])), (cmpT .NotEq (compGE (srcA (nE 13)) 1 id (fun lc y => putL lc 0 y) trueT (nE 0)) (nE 4))]) (seqS [retS (cE (.bool false))]) (seqS []),
 ifS (orT [(cmpT .NotEq (callE (strF accStrF fmtStrF) [(nE 13)]) (nE 3)), (cmpT .NotEq (callE (lenF accLenF) [(nE 13)]) (binE .Add (nE 9) (callE (lenF accLenF) [(nE 3)])))]) (seqS [retS (cE (.bool false))]) (seqS [])])
noncomputable def lawFB : SM := (seqS [asgS 0 (sliceE (nE 0) none (some (cE (.int 63)))),
 asgS 1 (callE sumF [(nE 0)]),
 asgS 2 (callE p_law_textsF [(nE 0)]),
 asgS 3 (mE 1 joinF (cE (.str "")) [(compGE (srcL (nE 2)) 2 (nxU 2) (putU [0, 1]) trueT (binE .Add (binE .Mult (cE (.str " ")) (nE 0)) (nE 1)))]),
 asgS 4 (newLE []),
 forGS (srcL (nE 2)) (nxU 2) (putU [5, 6]) lawFTurn1 (seqS []),
 asgS 7 (binE .Mod (binE .FloorDiv (nE 1) (cE (.int 7))) (cE (.int 3))),
 asgS 8 (binE .Mod (nE 1) (cE (.int 7))),
 forGS (srcL (lstE [(tupE [(nE 8), (binE .Add (nE 8) (callE (lenF accLenF) [(nE 3)])), (cE (.str "; "))]), (tupE [(cE (.int 0)), (binE .Sub (nE 8) (cE (.int 3))), (cE (.str ""))])])) (nxU 3) (putU [9, 10, 11]) lawFTurn3 (seqS []),
 retS (cE (.bool true))])
noncomputable def lawF : FM := runF ["script", "total", "texts", "written", "due", "moved", "text", "first", "name", "room", "width", "signs", "made", "line"] 1 lawFB
end Mine.Internal
end
section
set_option linter.all false
open PySem PySem.W PyProof.Rows PySem.Calls
namespace Mine.Internal
noncomputable def blank (c : Nat) : Bool := c == 32 || c == 9
set_option tactic.hygienic false in
theorem acc_ws (c : Nat) (seen : Sre.Seen) : ∃ seen', Sre.accepts wsCode 11 c seen = .ok (blank c, seen') := by
  unfold blank
  have e : Sre.accepts wsCode 11 c seen = Sre.inSet wsCode c 22 13 true seen := rfl
  rw [e]
  have e1 : Sre.inSet wsCode c 22 13 true seen = if c == 32 then .ok (true, seen.add 16) else Sre.inSet wsCode c 21 15 true (seen.add 16) := rfl
  rw [e1]
  cases h : c == 32 with
  | true => exact ⟨_, rfl⟩
  | false =>
    have e2 : Sre.inSet wsCode c 21 15 true (seen.add 16) = if c == 9 then .ok (true, (seen.add 16).add 16) else Sre.inSet wsCode c 20 17 true ((seen.add 16).add 16) := rfl
    rw [if_neg Bool.false_ne_true, e2]
    cases h : c == 9 with
    | true => exact ⟨_, rfl⟩
    | false => exact ⟨_, rfl⟩
set_option tactic.hygienic false in
theorem run_ws (text : Array Nat) : ∀ (n p found : Nat) (seen : Sre.Seen), p + n = text.size → ∃ seen', Sre.run wsCode text 11 n p found seen = .ok (found + ((text.toList.drop p).takeWhile blank).length, seen')
  | 0, p, found, seen, h => by
    rw [List.drop_of_length_le (by rw [Array.length_toList]; (first | lia | omega))]
    exact ⟨seen, rfl⟩
  | n + 1, p, found, seen, h => by
    have hp : p < text.size := by (first | lia | omega)
    obtain ⟨s1, e1⟩ := acc_ws (text.getD p 0) seen
    have e2 : Sre.run wsCode text 11 (n + 1) p found seen = (Sre.accepts wsCode 11 (text.getD p 0) seen).bind fun q => if q.1 then Sre.run wsCode text 11 n (p + 1) (found + 1) q.2 else .ok (found, q.2) := rfl
    have e3 : text.toList.drop p = text.getD p 0 :: text.toList.drop (p + 1) := by
      rw [List.drop_eq_getElem_cons (by rw [Array.length_toList]; exact hp)]
      congr 1
      simp [Array.getD, hp]
    rw [e2, e1, e3]
    show ∃ seen', (if blank (text.getD p 0) then _ else _) = _
    cases h : blank (text.getD p 0) with
    | false => exact ⟨s1, by rw [List.takeWhile_cons, h]; rfl⟩
    | true =>
      obtain ⟨s2, e4⟩ := run_ws text n (p + 1) (found + 1) s1 (by (first | lia | omega))
      refine ⟨s2, ?_⟩
      rw [if_pos rfl, e4, List.takeWhile_cons, h]
      simp only [if_true, List.length_cons]
      congr 2
      (first | lia | omega)
noncomputable def mAt (text : Array Nat) (s : Nat) (first : Bool) (a b : Option Nat) (h : Nat) (seen : Sre.Seen) : Sre.M :=
  { code := wsCode, text := text, lim := text.size, start := s, lastStart := text.size, pc := 5, pos := s, handed := h, outermost := first, marks := #[a, b], frames := [{ wait := .nextStart, pc := 5, pos := s, outermost := first }], weight := 1, seen := seen }
set_option tactic.hygienic false in
theorem runFor_some {k : Nat} {m : Sre.M} (h : m.outcome.isSome = true) : Sre.M.runFor k m = m := by
  cases k with
  | zero => rfl
  | succ k => unfold Sre.M.runFor; rw [if_pos h]
set_option tactic.hygienic false in
theorem runFor_succ {k : Nat} {m : Sre.M} (h : ¬ m.outcome.isSome = true) : Sre.M.runFor (k + 1) m = Sre.M.runFor k m.step := if_neg h
set_option tactic.hygienic false in
theorem runFor_add : ∀ (a b : Nat) (m : Sre.M), Sre.M.runFor (a + b) m = Sre.M.runFor b (Sre.M.runFor a m)
  | 0, b, m => by rw [Nat.zero_add]; rfl
  | a + 1, b, m => by
    rw [show a + 1 + b = (a + b) + 1 by (first | lia | omega)]
    by_cases h : m.outcome.isSome = true
    · rw [runFor_some h, runFor_some h, runFor_some h]
    · rw [runFor_succ h, runFor_succ h, runFor_add a b]
set_option tactic.hygienic false in
theorem driveP_of : ∀ (n k : Nat) (m : Sre.M), (Sre.M.runFor k m).outcome.isSome = true → k ≤ 4 * n → 0 < n → driveP n m = some (Sre.M.runFor k m)
  | 0, _, _, _, _, h => absurd h (Nat.lt_irrefl _)
  | n + 1, k, m, h, hk, _ => by
    have e : driveP (n + 1) m = if (Sre.M.runFor 4 m).outcome.isSome then some (Sre.M.runFor 4 m) else driveP n (Sre.M.runFor 4 m) := rfl
    rw [e]
    by_cases h4 : k ≤ 4
    · have : Sre.M.runFor 4 m = Sre.M.runFor k m := by
        rw [show 4 = k + (4 - k) by (first | lia | omega), runFor_add, runFor_some h]
      rw [this, if_pos h]
    · have : Sre.M.runFor k m = Sre.M.runFor (k - 4) (Sre.M.runFor 4 m) := by
        rw [← runFor_add]; congr 1; (first | lia | omega)
      by_cases h5 : (Sre.M.runFor 4 m).outcome.isSome = true
      · rw [if_pos h5, this, runFor_some h5]
      · rw [if_neg h5, this]
        exact driveP_of n (k - 4) _ (this ▸ h) (by (first | lia | omega)) (by (first | lia | omega))
set_option tactic.hygienic false in
theorem run1 {m : Sre.M} (h : m.outcome = none) : Sre.M.runFor 1 m = m.step := by unfold Sre.M.runFor; rw [h]; rfl
section
variable {text : Array Nat} {s h : Nat} {first : Bool} {a b : Option Nat} {seen : Sre.Seen}
set_option tactic.hygienic false in
theorem len_drop {p : Nat} : (text.toList.drop p).length = text.size - p := by rw [List.length_drop, Array.length_toList]
set_option tactic.hygienic false in
theorem run_rep (hz : text.size ≤ 1000000) (hs : s ≤ text.size) (seen : Sre.Seen) : ∃ seen', Sre.run wsCode text 11 (min 4294967295 ((text.size : Int) - (s : Int)).toNat) s 0 seen = .ok (((text.toList.drop s).takeWhile blank).length, seen') := by
  obtain ⟨s', e⟩ := run_ws text (text.size - s) s 0 seen (by (first | lia | omega))
  refine ⟨s', ?_⟩
  rw [show min 4294967295 ((text.size : Int) - (s : Int)).toNat = text.size - s by (first | lia | omega), e, Nat.zero_add]
set_option tactic.hygienic false in
theorem step_rep {m : Sre.M} (hm : m = { mAt text s first a b h seen with lastmark := 0, pc := 7 }) : m.step = (if (1 : Int) > (text.size : Int) - (s : Int) then { m with seen := m.seen.add 24 }.say false else
    match Sre.run wsCode text 11 (min 4294967295 ((text.size : Int) - (s : Int)).toNat) s 0 ((m.seen.add 24).add 13) with
    | .error why => { m with seen := m.seen.add 24 }.stick why
    | .ok (n, seen) => if n < 1 then { m with seen }.say false else { m with seen, pos := s + n }.afterRun .giveBack n ({ m with seen, pos := s + n }.keep false)) := by
  subst hm
  rfl
noncomputable def tkw (text : Array Nat) (s : Nat) : Nat := ((text.toList.drop s).takeWhile blank).length
set_option tactic.hygienic false in
theorem step_next {m : Sre.M} (hm : m = { mAt text s first a b h seen with lastmark := 0, pc := 7, answer := some false }) : m.step = if s < text.size then mAt text (s + 1) false a b (s + 1) seen else { m with answer := some false, frames := [], weight := 0, pc := 5, pos := s } := by
  subst hm
  rfl
set_option tactic.hygienic false in
theorem two_steps (hz : text.size ≤ 1000000) (hs : s ≤ text.size) (h0 : tkw text s = 0) : ∃ seen', Sre.M.runFor 2 (mAt text s first a b h seen) = { mAt text s first (some s) b h seen' with lastmark := 0, pc := 7, answer := some false } := by
  have e1 : Sre.M.runFor 2 (mAt text s first a b h seen) = Sre.M.step { mAt text s first (some s) b h (seen.add 17) with lastmark := 0, pc := 7 } := rfl
  rw [e1, step_rep rfl]
  by_cases hr : (1 : Int) > (text.size : Int) - (s : Int)
  · rw [if_pos hr]
    exact ⟨_, rfl⟩
  · rw [if_neg hr]
    obtain ⟨s', e⟩ := run_rep (text := text) (s := s) hz hs ((((({ mAt text s first (some s) b h (seen.add 17) with lastmark := 0, pc := 7 } : Sre.M)).seen.add 24).add 13))
    rw [e]
    show ∃ seen', (if tkw text s < 1 then _ else _) = _
    rw [h0, if_pos (by decide)]
    exact ⟨_, rfl⟩
set_option tactic.hygienic false in
theorem fail_at (hz : text.size ≤ 1000000) (hs : s < text.size) (h0 : tkw text s = 0) : ∃ seen', Sre.M.runFor 3 (mAt text s first a b h seen) = mAt text (s + 1) false (some s) b (s + 1) seen' := by
  obtain ⟨s', e⟩ := two_steps (first := first) (a := a) (b := b) (h := h) (seen := seen) hz (Nat.le_of_lt hs) h0
  refine ⟨s', ?_⟩
  rw [show 3 = 2 + 1 from rfl, runFor_add, e, run1 rfl, step_next rfl, if_pos hs]
set_option tactic.hygienic false in
theorem fail_end (hz : text.size ≤ 1000000) (hs : s = text.size) : ∃ m, Sre.M.runFor 4 (mAt text s first a b h seen) = m ∧ m.outcome = some .failed := by
  have h0 : tkw text s = 0 := by unfold tkw; rw [List.drop_of_length_le (by rw [Array.length_toList]; (first | lia | omega))]; rfl
  obtain ⟨s', e⟩ := two_steps (first := first) (a := a) (b := b) (h := h) (seen := seen) hz (by (first | lia | omega)) h0
  refine ⟨_, rfl, ?_⟩
  have r2 : ∀ m : Sre.M, m.outcome = none → Sre.M.runFor 2 m = Sre.M.runFor 1 m.step := fun m hm => runFor_succ (by rw [hm]; exact Bool.false_ne_true)
  rw [show 4 = 2 + 2 from rfl, runFor_add, e, r2, step_next rfl, if_neg (by (first | lia | omega))] <;> rfl
set_option tactic.hygienic false in
theorem step_mark1 {x : Nat} {fr : List Sre.Frame} : Sre.M.step { mAt text s first (some s) b x seen with lastmark := 0, pc := 19, pos := x, weight := 2, frames := fr } = { mAt text s first (some s) (some x) x (seen.add 17) with lastmark := 1, lastindex := 1, pc := 21, pos := x, weight := 2, frames := fr } := by
  show (({ mAt text s first (some s) b x (seen.add 17) with lastmark := 0, pc := 19, pos := x, weight := 2, frames := fr } : Sre.M).mark 1) = _
  unfold Sre.M.mark
  have h1 : ((1 : Nat) : Int) ≤ ({ mAt text s first (some s) b x (seen.add 17) with lastmark := 0, pc := 19, pos := x, weight := 2, frames := fr } : Sre.M).lastmark + 1 := by show (1 : Int) ≤ 0 + 1; decide
  dsimp only
  rw [if_pos h1]
  rfl
set_option tactic.hygienic false in
theorem hit_at (hz : text.size ≤ 1000000) (hs : s < text.size) {n : Nat} (hn : tkw text s = n + 1) : ∃ m, Sre.M.runFor 7 (mAt text s first a b h seen) = m ∧ m.outcome = some .matched ∧ m.start = s ∧ m.handed = s + (n + 1) ∧ m.lastmark = 1 ∧ m.marks = #[some s, some (s + (n + 1))] := by
  have e1 : Sre.M.runFor 2 (mAt text s first a b h seen) = Sre.M.step { mAt text s first (some s) b h (seen.add 17) with lastmark := 0, pc := 7 } := rfl
  have hr : ¬ (1 : Int) > (text.size : Int) - (s : Int) := by (first | lia | omega)
  obtain ⟨s', e⟩ := run_rep (text := text) (s := s) hz (Nat.le_of_lt hs) ((((({ mAt text s first (some s) b h (seen.add 17) with lastmark := 0, pc := 7 } : Sre.M)).seen.add 24).add 13))
  have hn' : ((text.toList.drop s).takeWhile blank).length = n + 1 := hn
  rw [step_rep rfl, if_neg hr, e, hn'] at e1
  have e2 : ∃ seen', Sre.M.runFor 2 (mAt text s first a b h seen) = { mAt text s first (some s) b (s + (n + 1)) seen' with lastmark := 0, pc := 19, pos := s + (n + 1), weight := 2, frames := [{ wait := .giveBack, pc := 7, pos := s + (n + 1), outermost := first, count := ((n + 1 : Nat) : Int), kept := { lastmark := 0 } }, { wait := .nextStart, pc := 5, pos := s, outermost := first }] } := ⟨s', e1⟩
  obtain ⟨s2, e2⟩ := e2
  refine ⟨_, rfl, ?_⟩
  rw [show 7 = 2 + (1 + (1 + 3)) from rfl, runFor_add, e2, runFor_add, run1 rfl]
  rw [step_mark1, runFor_add, run1 rfl]
  have e4 : Sre.M.step { mAt text s first (some s) (some (s + (n + 1))) (s + (n + 1)) (s2.add 17) with lastmark := 1, lastindex := 1, pc := 21, pos := s + (n + 1), weight := 2, frames := [{ wait := .giveBack, pc := 7, pos := s + (n + 1), outermost := first, count := ((n + 1 : Nat) : Int), kept := { lastmark := 0 } }, { wait := .nextStart, pc := 5, pos := s, outermost := first }] } =
    { mAt text s first (some s) (some (s + (n + 1))) (s + (n + 1)) ((s2.add 17).add 1) with lastmark := 1, lastindex := 1, pc := 21, pos := s + (n + 1), weight := 2, answer := some true, frames := [{ wait := .giveBack, pc := 7, pos := s + (n + 1), outermost := first, count := ((n + 1 : Nat) : Int), kept := { lastmark := 0 } }, { wait := .nextStart, pc := 5, pos := s, outermost := first }] } := by
    cases first <;> rfl
  rw [e4]
  exact ⟨rfl, rfl, rfl, rfl, rfl⟩
set_option tactic.hygienic false in
theorem search (hz : text.size ≤ 1000000) : ∀ (d s : Nat) (first : Bool) (a b : Option Nat) (h : Nat) (seen : Sre.Seen), s + d ≤ text.size → (∀ j, j < d → tkw text (s + j) = 0) →
    (s + d = text.size → ∃ k m, k ≤ 3 * d + 4 ∧ Sre.M.runFor k (mAt text s first a b h seen) = m ∧ m.outcome = some .failed) ∧
    (∀ n, tkw text (s + d) = n + 1 → ∃ k m, k ≤ 3 * d + 7 ∧ Sre.M.runFor k (mAt text s first a b h seen) = m ∧ m.outcome = some .matched ∧ m.start = s + d ∧ m.handed = s + d + (n + 1) ∧ m.lastmark = 1 ∧ m.marks = #[some (s + d), some (s + d + (n + 1))])
  | 0, s, first, a, b, h, seen, hs, _ => by
    refine ⟨fun he => ?_, fun n hn => ?_⟩
    · obtain ⟨m, e, o⟩ := fail_end (first := first) (a := a) (b := b) (h := h) (seen := seen) hz he
      exact ⟨4, m, by (first | lia | omega), e, o⟩
    · have : s < text.size := by
        rcases Nat.lt_or_ge s text.size with q | q
        · exact q
        · unfold tkw at hn; rw [List.drop_of_length_le (by rw [Array.length_toList]; (first | lia | omega))] at hn; cases hn
      obtain ⟨m, e, o⟩ := hit_at (first := first) (a := a) (b := b) (h := h) (seen := seen) hz this hn
      exact ⟨7, m, by (first | lia | omega), e, o⟩
  | d + 1, s, first, a, b, h, seen, hs, h0 => by
    obtain ⟨s', e⟩ := fail_at (s := s) (first := first) (a := a) (b := b) (h := h) (seen := seen) hz (by (first | lia | omega)) (h0 0 (by (first | lia | omega)))
    have ih := search hz d (s + 1) false (some s) b (s + 1) s' (by (first | lia | omega)) fun j hj => by rw [show s + 1 + j = s + (j + 1) by (first | lia | omega)]; exact h0 _ (by (first | lia | omega))
    have ea : s + 1 + d = s + (d + 1) := by (first | lia | omega)
    rw [ea] at ih
    refine ⟨fun he => ?_, fun n hn => ?_⟩
    · obtain ⟨k, m, hk, e', o⟩ := ih.1 he
      exact ⟨3 + k, m, by (first | lia | omega), by rw [runFor_add, e, e'], o⟩
    · obtain ⟨k, m, hk, e', o⟩ := ih.2 n hn
      exact ⟨3 + k, m, by (first | lia | omega), by rw [runFor_add, e, e'], o⟩
set_option tactic.hygienic false in
theorem forSearch_at (hs : s ≤ text.size) : (Sre.forSearch wsCode text 1 s text.size false = mAt text s true none none s (({} : Sre.Seen).add 14)) ∨ (s = text.size ∧ (∃ m, Sre.M.runFor 1 (Sre.forSearch wsCode text 1 s text.size false) = m ∧ m.outcome = some .failed)) := by
  have e : Sre.forSearch wsCode text 1 s text.size false = if (decide (s > text.size) || decide (text.size - s < 1)) = true then ({ code := wsCode, text, lim := text.size, start := s, pc := 5, pos := s, handed := s, marks := Array.replicate 2 none, mustAdvance := false, seen := ({} : Sre.Seen).add 14 } : Sre.M).say false else mAt text s true none none s (({} : Sre.Seen).add 14) := by
    unfold Sre.forSearch
    rfl
  rw [e]
  by_cases h : (decide (s > text.size) || decide (text.size - s < 1)) = true
  · rw [if_pos h]
    rw [Bool.or_eq_true, decide_eq_true_eq, decide_eq_true_eq] at h
    exact .inr ⟨by (first | lia | omega), _, rfl, rfl⟩
  · rw [if_neg h]
    exact .inl rfl
set_option tactic.hygienic false in
theorem runP_none (hz : text.size ≤ 100000) {d : Nat} (hd : s + d = text.size) (h0 : ∀ j, j < d → tkw text (s + j) = 0) : runP (Sre.forSearch wsCode text 1 s text.size false) = some none := by
  have go : ∀ {k : Nat} {m m' : Sre.M}, k ≤ 400000 → Sre.M.runFor k m = m' → m'.outcome = some .failed → runP m = some none := fun {k m m'} hk e o => by
    unfold runP
    rw [driveP_of 100000 k m (by rw [e, o]; rfl) (by (first | lia | omega)) (by decide), e]
    unfold outP
    show (match m'.outcome with | some .matched => _ | some .failed => _ | _ => _) = _
    rw [o]
  rcases forSearch_at (text := text) (s := s) (by (first | lia | omega)) with e | ⟨_, m, e, o⟩
  · obtain ⟨k, m, hk, e', o⟩ := (search (by (first | lia | omega)) d s true none none s (({} : Sre.Seen).add 14) (by (first | lia | omega)) h0).1 hd
    rw [e]
    exact go (by (first | lia | omega)) e' o
  · exact go (by decide) e o
set_option tactic.hygienic false in
theorem runP_some (hz : text.size ≤ 100000) {d n : Nat} (hd : s + d < text.size) (h0 : ∀ j, j < d → tkw text (s + j) = 0) (hn : tkw text (s + d) = n + 1) : ∃ m, runP (Sre.forSearch wsCode text 1 s text.size false) = some (some m) ∧ m.start = s + d ∧ m.handed = s + d + (n + 1) ∧ groupP text m = some ⟨text.extract (s + d) (s + d + (n + 1))⟩ := by
  rcases forSearch_at (text := text) (s := s) (by (first | lia | omega)) with e | ⟨q, _⟩
  · obtain ⟨k, m, hk, e', o, h1, h2, h3, h4⟩ := (search (by (first | lia | omega)) d s true none none s (({} : Sre.Seen).add 14) (by (first | lia | omega)) h0).2 n hn
    refine ⟨m, ?_, h1, h2, ?_⟩
    · rw [e]
      unfold runP
      rw [driveP_of 100000 k _ (by rw [e', o]; rfl) (by (first | lia | omega)) (by decide), e']
      unfold outP
      show (match m.outcome with | some .matched => _ | some .failed => _ | _ => _) = _
      rw [o]
    · unfold groupP
      rw [h3, if_neg (by decide), h4]
      show (if s + d + (n + 1) < s + d then none else some _) = _
      rw [if_neg (by (first | lia | omega))]
  · (first | lia | omega)
end
end Mine.Internal
end
section
set_option linter.all false
open PySem PySem.W PyProof.Rows PySem.Calls
namespace Mine.Internal
noncomputable abbrev Tk := List (List Nat × List Nat)
inductive Toks : List Nat → Tk → Prop
  | nil : Toks [] []
  | cons {r s ys : List Nat} {ts : Tk} (hr : r ≠ []) (br : ∀ c ∈ r, blank c = true) (bs : ∀ c ∈ s, blank c = false) (hs : ys ≠ [] → s ≠ []) (h : Toks ys ts) : Toks (r ++ (s ++ ys)) ((r, s) :: ts)
set_option tactic.hygienic false in
theorem Toks.len {y : List Nat} {ts : Tk} (T : Toks y ts) : ts.length ≤ y.length := by
  induction T with
  | nil => exact Nat.le_refl _
  | @cons r s ys ts hr br bs hs h ih =>
    have := List.length_pos_iff.mpr hr
    simp only [List.length_cons, List.length_append]
    (first | lia | omega)
set_option tactic.hygienic false in
theorem toks_ex : ∀ (n : Nat) (y : List Nat), y.length ≤ n → (y = [] ∨ ∃ c y', y = c :: y' ∧ blank c = true) → ∃ ts, Toks y ts
  | 0, y, h, _ => by
    obtain rfl : y = [] := List.length_eq_zero_iff.mp (Nat.le_zero.mp h)
    exact ⟨[], .nil⟩
  | n + 1, y, h, hb => by
    rcases hb with rfl | ⟨c, y', rfl, hc⟩
    · exact ⟨[], .nil⟩
    · have e1 : (c :: y') = (c :: y').takeWhile blank ++ (c :: y').dropWhile blank := List.takeWhile_append_dropWhile.symm
      have hr : (c :: y').takeWhile blank ≠ [] := by rw [List.takeWhile_cons, hc]; simp
      have hl : ((c :: y').dropWhile blank).length ≤ n := by
        have := congrArg List.length e1
        rw [List.length_append] at this
        have := List.length_pos_iff.mpr hr
        (first | lia | omega)
      generalize hR : (c :: y').takeWhile blank = r at e1 hr
      generalize hD : (c :: y').dropWhile blank = z at e1 hl
      have br : ∀ c ∈ r, blank c = true := fun d hd => by rw [← hR] at hd; exact List.all_eq_true.mp List.all_takeWhile d hd
      have hz : z = [] ∨ ∃ d z', z = d :: z' ∧ blank d = false := by
        cases z with
        | nil => exact .inl rfl
        | cons d z' =>
          refine .inr ⟨d, z', rfl, ?_⟩
          have := List.head_dropWhile_not (l := c :: y') blank (by rw [hD]; simp)
          simpa [hD] using this
      have e2 : z = z.takeWhile (fun d => !blank d) ++ z.dropWhile (fun d => !blank d) := List.takeWhile_append_dropWhile.symm
      have hl2 : (z.dropWhile fun d => !blank d).length ≤ n := by
        have := congrArg List.length e2
        rw [List.length_append] at this
        (first | lia | omega)
      have hb2 : (z.dropWhile fun d => !blank d) = [] ∨ ∃ c y', (z.dropWhile fun d => !blank d) = c :: y' ∧ blank c = true := by
        cases hq : z.dropWhile (fun d => !blank d) with
        | nil => exact .inl rfl
        | cons d z' =>
          refine .inr ⟨d, z', rfl, ?_⟩
          have := List.head_dropWhile_not (l := z) (fun d => !blank d) (by rw [hq]; simp)
          simpa [hq] using this
      obtain ⟨ts, T⟩ := toks_ex n _ hl2 hb2
      refine ⟨(r, z.takeWhile fun d => !blank d) :: ts, ?_⟩
      rw [e1]
      conv => lhs; rw [e2]
      refine .cons hr br (fun d hd => by simpa using List.all_eq_true.mp List.all_takeWhile d hd) (fun hne => ?_) T
      rcases hz with rfl | ⟨d, z', rfl, hd⟩
      · exact absurd rfl hne
      · rw [List.takeWhile_cons, hd]; simp
structure TextIs (x s0 : List Nat) (y : List Nat) (ts : Tk) : Prop where
  e : x = s0 ++ y
  nb : ∀ c ∈ s0, blank c = false
  T : Toks y ts
set_option tactic.hygienic false in
theorem text_ex (x : List Nat) : ∃ s0 y ts, TextIs x s0 y ts := by
  have hb : (x.dropWhile fun d => !blank d) = [] ∨ ∃ c y', (x.dropWhile fun d => !blank d) = c :: y' ∧ blank c = true := by
    cases hq : x.dropWhile (fun d => !blank d) with
    | nil => exact .inl rfl
    | cons d z' =>
      refine .inr ⟨d, z', rfl, ?_⟩
      have := List.head_dropWhile_not (l := x) (fun d => !blank d) (by rw [hq]; simp)
      simpa [hq] using this
  obtain ⟨ts, T⟩ := toks_ex _ _ (Nat.le_refl _) hb
  exact ⟨_, _, ts, List.takeWhile_append_dropWhile.symm, fun d hd => by simpa using List.all_eq_true.mp List.all_takeWhile d hd, T⟩
noncomputable def partT (p : List Nat × List Nat) : Str × Str := (strL p.1, strL p.2)
noncomputable def flatS (ts : Tk) : List Str := ts.flatMap fun p => [strL p.1, strL p.2]
set_option tactic.hygienic false in
theorem take_nb {s z : List Nat} (hs : ∀ c ∈ s, blank c = false) : ∀ j, j < s.length → ((s ++ z).drop j).takeWhile blank = [] := by
  intro j hj
  have e : (s ++ z).drop j = s[j] :: (s.drop (j + 1) ++ z) := by
    rw [List.drop_append_of_le_length (Nat.le_of_lt hj), List.drop_eq_getElem_cons hj]; rfl
  rw [e, List.takeWhile_cons, hs _ (List.getElem_mem hj)]
  rfl
set_option tactic.hygienic false in
theorem take_b {r z : List Nat} (hr : ∀ c ∈ r, blank c = true) (hz : z = [] ∨ ∃ c z', z = c :: z' ∧ blank c = false) : (r ++ z).takeWhile blank = r := by
  rw [List.takeWhile_append_of_pos hr]
  rcases hz with rfl | ⟨c, z', rfl, hc⟩
  · simp
  · rw [List.takeWhile_cons, hc]; simp
set_option tactic.hygienic false in
theorem extract_drop {text : Array Nat} {b n : Nat} : strL ((text.toList.drop b).take n) = (⟨text.extract b (b + n)⟩ : Str) := by
  unfold strL
  congr 1
  apply Array.toList_inj.mp
  rw [Array.toList_extract]
  simp [List.take_drop]
set_option tactic.hygienic false in
theorem split_toks {text : Array Nat} (hz : text.size ≤ 100000) {y : List Nat} {ts : Tk} (T : Toks y ts) : ∀ {s0 : List Nat} {start k : Nat}, start ≤ text.size → (∀ c ∈ s0, blank c = false) → text.toList.drop start = s0 ++ y → ts.length + 1 ≤ k → splitP wsCode text k start false = some (strL s0 :: flatS ts) := by
  induction T with
  | nil =>
    intro s0 start k hst hs0 e hk
    obtain ⟨k, rfl⟩ : ∃ j, k = j + 1 := ⟨k - 1, by (first | lia | omega)⟩
    rw [List.append_nil] at e
    have hl : text.size - start = s0.length := by rw [← e, len_drop]
    have h0 : ∀ j, j < s0.length → tkw text (start + j) = 0 := fun j hj => by
      unfold tkw
      rw [← List.drop_drop, e]
      have := take_nb (z := []) hs0 j hj
      rw [List.append_nil] at this
      rw [this]; rfl
    have r := runP_none (s := start) hz (d := s0.length) (by (first | lia | omega)) h0
    unfold splitP
    rw [r]
    show some [(⟨text.extract start text.size⟩ : Str)] = _
    have := extract_drop (text := text) (b := start) (n := s0.length)
    rw [e, List.take_length, show start + s0.length = text.size by (first | lia | omega)] at this
    rw [← this]
    rfl
  | @cons r s ys ts hr br bs hs h ih =>
    intro s0 start k hst hs0 e hk
    obtain ⟨k, rfl⟩ : ∃ j, k = j + 1 := ⟨k - 1, by (first | lia | omega)⟩
    have hl : text.size - start = s0.length + (r.length + (s.length + ys.length)) := by
      rw [← len_drop, e]; simp
    have hrl := List.length_pos_iff.mpr hr
    obtain ⟨n, hn⟩ : ∃ n, r.length = n + 1 := ⟨r.length - 1, by (first | lia | omega)⟩
    have h0 : ∀ j, j < s0.length → tkw text (start + j) = 0 := fun j hj => by
      unfold tkw
      rw [← List.drop_drop, e, take_nb hs0 j hj]; rfl
    have e2 : text.toList.drop (start + s0.length) = r ++ (s ++ ys) := by rw [← List.drop_drop, e, List.drop_left]
    have h1 : tkw text (start + s0.length) = n + 1 := by
      unfold tkw
      rw [e2, take_b br, hn]
      cases s with
      | nil =>
        left
        by_cases q : ys = []
        · rw [q]; rfl
        · exact absurd rfl (hs q)
      | cons c s => exact .inr ⟨c, s ++ ys, rfl, bs c List.mem_cons_self⟩
    obtain ⟨m, r1, r2, r3, r4⟩ := runP_some (s := start) hz (d := s0.length) (by (first | lia | omega)) h0 h1
    unfold splitP
    rw [r1]
    show (match groupP text m with | some g => (splitP wsCode text k m.handed (m.handed == m.start)).map fun r => (⟨text.extract start m.start⟩ : Str) :: g :: r | none => none) = _
    rw [r4, r2, r3]
    have e3 : text.toList.drop (start + s0.length + (n + 1)) = s ++ ys := by rw [← List.drop_drop, e2, ← hn, List.drop_left]
    have hne : (start + s0.length + (n + 1) == start + s0.length) = false := by rw [beq_eq_false_iff_ne]; (first | lia | omega)
    rw [hne]
    have i := ih (s0 := s) (start := start + s0.length + (n + 1)) (k := k) (by (first | lia | omega)) bs e3 (by simp at hk; (first | lia | omega))
    dsimp only
    rw [i]
    have a1 : strL s0 = (⟨text.extract start (start + s0.length)⟩ : Str) := by
      have := extract_drop (text := text) (b := start) (n := s0.length)
      rw [e, List.take_left] at this
      exact this
    have a2 : strL r = (⟨text.extract (start + s0.length) (start + s0.length + (n + 1))⟩ : Str) := by
      have := extract_drop (text := text) (b := start + s0.length) (n := n + 1)
      rw [e2, ← hn, List.take_left, hn] at this
      exact this
    rw [← a1, ← a2]
    rfl
set_option tactic.hygienic false in
theorem ws_toks {x : Str} {s0 y : List Nat} {ts : Tk} (hz : x.length ≤ 100000) (T : TextIs x.cps.toList s0 y ts) : wsSplit x = some (strL s0 :: flatS ts) := by
  unfold wsSplit
  refine split_toks hz T.T (Nat.zero_le _) T.nb T.e ?_
  have h1 := T.T.len
  have h2 := congrArg List.length T.e
  rw [List.length_append, Array.length_toList] at h2
  (first | lia | omega)
noncomputable def piecesT (s0 : List Nat) (ts : Tk) : Tk := if s0 = [] then ts else ([], s0) :: ts
set_option tactic.hygienic false in
theorem pieces_toks (s0 : List Nat) (ts : Tk) : pieces (strL s0 :: flatS ts) = flatP ((piecesT s0 ts).map partT) := by
  have e : ∀ ts : Tk, flatP (ts.map partT) = flatS ts := fun ts => by
    unfold flatP flatS
    rw [List.flatMap_map]
    rfl
  unfold pieces piecesT
  by_cases h : s0 = []
  · rw [if_pos h, if_pos (by rw [h]; rfl), e]
    rfl
  · rw [if_neg h, if_neg (by show (strL s0).length ≠ 0; rw [strL_len]; exact fun z => h (List.length_eq_zero_iff.mp z)), List.map_cons]
    show _ = [("" : Str), strL s0] ++ flatP (ts.map partT)
    rw [e]
    rfl
end Mine.Internal
end
section
set_option linter.all false
open PySem PySem.W PyProof.Rows PySem.Calls
namespace Mine.Internal
noncomputable def offs : Nat → Tk → List Nat
  | _, [] => []
  | b, p :: ts => b :: offs (b + (p.1.length + p.2.length)) ts
noncomputable def cutB (x : List Nat) (k : Nat) : Bool := k == 0 || (blank (x.getD k 0) && !blank (x.getD (k - 1) 0))
set_option tactic.hygienic false in
theorem cut_mid {pre r s z : List Nat} (hr : ∀ c ∈ r, blank c = true) (hs : ∀ c ∈ s, blank c = false) : ∀ n, (List.range' (pre.length + 1) n).filter (cutB (pre ++ (r ++ (s ++ z)))) = [] ∨ r.length + s.length < n + 1 := by
  intro n
  by_cases h : r.length + s.length < n + 1
  · exact .inr h
  · refine .inl (List.filter_eq_nil_iff.mpr fun k hk => ?_)
    rw [List.mem_range'_1] at hk
    unfold cutB
    rw [Bool.not_eq_true, Bool.or_eq_false_iff]
    refine ⟨by rw [beq_eq_false_iff_ne]; (first | lia | omega), ?_⟩
    rw [Bool.and_eq_false_iff]
    have g : ∀ j, pre.length ≤ j → (pre ++ (r ++ (s ++ z))).getD j 0 = (r ++ (s ++ z)).getD (j - pre.length) 0 := fun j hj => by
      rw [List.getD_eq_getElem?_getD, List.getElem?_append_right hj, ← List.getD_eq_getElem?_getD]
    by_cases q : k < pre.length + r.length
    · right
      rw [g _ (by (first | lia | omega)), List.getD_eq_getElem?_getD, List.getElem?_append_left (by (first | lia | omega)), List.getElem?_eq_getElem (by (first | lia | omega))]
      simp only [Option.getD_some]
      rw [hr _ (List.getElem_mem _)]; rfl
    · left
      rw [g _ (by (first | lia | omega)), List.getD_eq_getElem?_getD, List.getElem?_append_right (by (first | lia | omega)), List.getElem?_append_left (by (first | lia | omega)), List.getElem?_eq_getElem (by (first | lia | omega))]
      simp only [Option.getD_some]
      exact hs _ (List.getElem_mem _)
set_option tactic.hygienic false in
theorem cut_toks {y : List Nat} {ts : Tk} (T : Toks y ts) : ∀ pre : List Nat, (y ≠ [] → pre = [] ∨ blank (pre.getD (pre.length - 1) 0) = false) → (List.range' pre.length y.length).filter (cutB (pre ++ y)) = offs pre.length ts := by
  induction T with
  | nil => intro pre _; rfl
  | @cons r s ys ts hr br bs hs h ih =>
    intro pre hp
    have hrl := List.length_pos_iff.mpr hr
    obtain ⟨n, hn⟩ : ∃ n, r.length + s.length = n + 1 := ⟨r.length + s.length - 1, by (first | lia | omega)⟩
    have e1 : (r ++ (s ++ ys)).length = 1 + n + ys.length := by simp; (first | lia | omega)
    rw [e1, ← List.range'_append_1, ← List.range'_append_1, List.filter_append, List.filter_append]
    have c0 : cutB (pre ++ (r ++ (s ++ ys))) pre.length = true := by
      unfold cutB
      have : r ++ (s ++ ys) ≠ [] := by simp [hr]
      rcases hp this with rfl | hb
      · rfl
      · by_cases q : pre = []
        · rw [q]; rfl
        · have hl := List.length_pos_iff.mpr q
          have a1 : (pre ++ (r ++ (s ++ ys))).getD pre.length 0 = r.getD 0 0 := by
            rw [List.getD_eq_getElem?_getD, List.getElem?_append_right (Nat.le_refl _), Nat.sub_self, List.getElem?_append_left hrl, ← List.getD_eq_getElem?_getD]
          have a2 : (pre ++ (r ++ (s ++ ys))).getD (pre.length - 1) 0 = pre.getD (pre.length - 1) 0 := by
            rw [List.getD_eq_getElem?_getD, List.getElem?_append_left (by (first | lia | omega)), ← List.getD_eq_getElem?_getD]
          rw [a1, a2, hb]
          have : blank (r.getD 0 0) = true := by
            rw [List.getD_eq_getElem?_getD, List.getElem?_eq_getElem hrl]
            exact br _ (List.getElem_mem _)
          rw [this]
          simp
    have c1 : (List.range' pre.length 1).filter (cutB (pre ++ (r ++ (s ++ ys)))) = [pre.length] := by
      simp [List.range'_succ, c0]
    have c2 : (List.range' (pre.length + 1) n).filter (cutB (pre ++ (r ++ (s ++ ys)))) = [] := (cut_mid br bs n).elim id fun h => by (first | lia | omega)
    have c3 := ih (pre ++ (r ++ s)) fun hy => .inr (by
      have hsl := List.length_pos_iff.mpr (hs hy)
      rw [List.getD_eq_getElem?_getD, List.getElem?_append_right (by simp; (first | lia | omega)), List.getElem?_append_right (by simp; (first | lia | omega)), List.getElem?_eq_getElem (by simp; (first | lia | omega))]
      simp only [Option.getD_some]
      exact bs _ (List.getElem_mem _))
    have e2 : (pre ++ (r ++ s)).length = pre.length + (1 + n) := by simp; (first | lia | omega)
    have e3 : pre ++ (r ++ s) ++ ys = pre ++ (r ++ (s ++ ys)) := by simp
    rw [e2, e3] at c3
    rw [c1, c2, c3]
    show _ = pre.length :: offs (pre.length + (r.length + s.length)) ts
    rw [hn, Nat.add_comm 1 n]
    rfl
set_option tactic.hygienic false in
theorem cut_text {x s0 y : List Nat} {ts : Tk} (T : TextIs x s0 y ts) : (List.range x.length).filter (cutB x) = offs 0 (piecesT s0 ts) := by
  obtain ⟨rfl, nb, T⟩ := T
  rw [List.range_eq_range']
  unfold piecesT
  by_cases h : s0 = []
  · subst h
    rw [if_pos rfl]
    exact cut_toks T [] fun uu => .inl rfl
  · rw [if_neg h]
    have hl := List.length_pos_iff.mpr h
    obtain ⟨n, hn⟩ : ∃ n, s0.length = n + 1 := ⟨s0.length - 1, by (first | lia | omega)⟩
    have e1 : (s0 ++ y).length = 1 + n + y.length := by simp; (first | lia | omega)
    rw [e1, ← List.range'_append_1, ← List.range'_append_1, List.filter_append, List.filter_append]
    have c1 : (List.range' 0 1).filter (cutB (s0 ++ y)) = [0] := rfl
    have c2 : (List.range' (0 + 1) n).filter (cutB (s0 ++ y)) = [] := (cut_mid (pre := []) (r := []) (s := s0) (z := y) (fun uu h => nomatch h) nb n).elim id fun h => by simp at h; (first | lia | omega)
    have c3 := cut_toks T s0 fun uu => .inr (by
      rw [List.getD_eq_getElem?_getD, List.getElem?_eq_getElem (by (first | lia | omega))]
      exact nb _ (List.getElem_mem _))
    rw [hn] at c3
    rw [c1, c2, show 0 + (1 + n) = n + 1 by (first | lia | omega), c3]
    show _ = 0 :: offs (0 + (0 + s0.length)) ts
    rw [hn, Nat.zero_add, Nat.zero_add]
    rfl
noncomputable def allP (ts : Tk) : List Nat := ts.flatMap fun p => p.1 ++ p.2
structure PieceOk (p : List Nat × List Nat) : Prop where
  b : ∀ c ∈ p.1, blank c = true
  n : ∀ c ∈ p.2, blank c = false
set_option tactic.hygienic false in
theorem toks_all {y : List Nat} {ts : Tk} (T : Toks y ts) : allP ts = y ∧ ∀ p ∈ ts, PieceOk p := by
  induction T with
  | nil => exact ⟨rfl, fun uu h => nomatch h⟩
  | @cons r s ys ts hr br bs hs h ih =>
    refine ⟨?_, fun p hp => ?_⟩
    · show (r ++ s) ++ allP ts = _
      rw [ih.1, List.append_assoc]
    · rcases List.mem_cons.mp hp with rfl | hp
      · exact ⟨br, bs⟩
      · exact ih.2 p hp
set_option tactic.hygienic false in
theorem text_all {x s0 y : List Nat} {ts : Tk} (T : TextIs x s0 y ts) : allP (piecesT s0 ts) = x ∧ ∀ p ∈ piecesT s0 ts, PieceOk p := by
  obtain ⟨rfl, nb, T⟩ := T
  have h := toks_all T
  unfold piecesT
  by_cases q : s0 = []
  · rw [if_pos q, q]; exact h
  · rw [if_neg q]
    refine ⟨?_, fun p hp => ?_⟩
    · show ([] ++ s0) ++ allP ts = _
      rw [h.1]; rfl
    · rcases List.mem_cons.mp hp with rfl | hp
      · exact ⟨(fun uu h => nomatch h), nb⟩
      · exact h.2 p hp
set_option tactic.hygienic false in
theorem offs_len : ∀ (ts : Tk) (b : Nat), (offs b ts).length = ts.length
  | [], _ => rfl
  | _ :: ts, b => congrArg (· + 1) (offs_len ts _)
set_option tactic.hygienic false in
theorem offs_at : ∀ (ts : Tk) (b k : Nat) (p : List Nat × List Nat), ts[k]? = some p → ∃ o, (offs b ts ++ [b + (allP ts).length])[k]? = some o ∧ (offs b ts ++ [b + (allP ts).length])[k + 1]? = some (o + (p.1.length + p.2.length)) ∧ b ≤ o ∧ ((allP ts).drop (o - b)).take (p.1.length + p.2.length) = p.1 ++ p.2 ∧ o + (p.1.length + p.2.length) ≤ b + (allP ts).length
  | q :: ts, b, 0, p, h => by
    obtain rfl := Option.some.inj h
    have e : allP (q :: ts) = (q.1 ++ q.2) ++ allP ts := rfl
    refine ⟨b, rfl, ?_, Nat.le_refl _, ?_, ?_⟩
    · show (offs (b + (q.1.length + q.2.length)) ts ++ _)[0]? = _
      rw [e]
      cases ts with
      | nil => simp [offs, allP]
      | cons q' ts => rfl
    · rw [Nat.sub_self, List.drop_zero, e, List.take_append_of_le_length (by simp), List.take_of_length_le (by simp)]
    · rw [e]; simp
  | q :: ts, b, k + 1, p, h => by
    obtain ⟨o, h1, h2, h3, h4, h5⟩ := offs_at ts (b + (q.1.length + q.2.length)) k p h
    have e : allP (q :: ts) = (q.1 ++ q.2) ++ allP ts := rfl
    have e2 : b + (q.1.length + q.2.length) + (allP ts).length = b + (allP (q :: ts)).length := by rw [e]; simp; (first | lia | omega)
    rw [e2] at h1 h2 h5
    refine ⟨o, h1, h2, by (first | lia | omega), ?_, h5⟩
    rw [e, List.drop_append, List.drop_of_length_le (by simp; (first | lia | omega)), List.nil_append, List.length_append, show o - b - (q.1.length + q.2.length) = o - (b + (q.1.length + q.2.length)) by (first | lia | omega)]
    exact h4
end Mine.Internal
end
section
set_option linter.all false
open PySem PySem.W PyProof.Rows PySem.Calls
namespace Mine.Internal
set_option tactic.hygienic false in
theorem blank_in (c : Nat) : Txt.contains " \t" ⟨#[c]⟩ = blank c := by
  rw [contains_one, show (" \t" : Str).cps.toList = [32, 9] from by decide]
  unfold blank
  by_cases h : c = 32
  · subst h; rfl
  · by_cases h' : c = 9
    · subst h'; rfl
    · simp [h, h']
set_option tactic.hygienic false in
theorem cnt_sp (x : List Nat) : cnt 32 x + cnt 9 x = ((x.filter blank).length : Int) := by
  induction x with
  | nil => rfl
  | cons c x ih =>
    rw [cnt_cons, cnt_cons, List.filter_cons]
    unfold blank at ih ⊢
    by_cases h : c = 32
    · subst h
      rw [if_pos rfl, if_neg (by decide), if_pos (by decide), List.length_cons]
      (first | lia | omega)
    · by_cases h' : c = 9
      · subst h'
        rw [if_neg h, if_pos rfl, if_pos (by decide), List.length_cons]
        (first | lia | omega)
      · rw [if_neg h, if_neg h', if_neg (by simp [h, h'])]
        (first | lia | omega)
set_option tactic.hygienic false in
theorem piece_cnt {p : List Nat × List Nat} (P : PieceOk p) : cnt 32 (p.1 ++ p.2) + cnt 9 (p.1 ++ p.2) = (p.1.length : Int) := by
  rw [cnt_sp, List.filter_append, List.filter_eq_self.mpr P.b, List.filter_eq_nil_iff.mpr (fun c hc => by rw [P.n c hc]; exact Bool.false_ne_true), List.append_nil]
noncomputable def natsV (xs : List Nat) : List AV := xs.map fun (k : Nat) => AV.int (k : Int)
section
variable {β : St} {x : Str} {L g : Nat}
set_option tactic.hygienic false in
theorem cuts_of {lc : Lc} (hc : β[g]? = some (.cell (L + 1 + 0) (some (.str x)))) (hz : x.length ≤ 1000) : compGE (srcR [(callE (lenF accLenF) [(cellE (L + 1 + 0) (g + 0))])]) 1 id (fun lc y => putL lc 0 y) (orT [(cmpT .Eq (nE 0) (cE (.int 0))), (andT [(cmpT .In (idxE (cellE (L + 1 + 0) (g + 0)) (nE 0)) (cE (.str " \t"))), (cmpT .NotIn (idxE (cellE (L + 1 + 0) (g + 0)) (binE .Sub (nE 0) (cE (.int 1)))) (cE (.str " \t")))])]) (nE 0) lc β =
    some (.loc β.length, β ++ [.list (natsV ((List.range x.length).filter (cutB x.cps.toList)))]) := by
  have hl : x.cps.toList.length = x.length := by rw [Array.length_toList]; rfl
  have e0 : srcR [(callE (lenF accLenF) [(cellE (L + 1 + 0) (g + 0))])] lc β = some (nxR 0 (x.length : Int) 1, β) :=
    srcR_of (r := (0, (x.length : Int), 1)) (evs1 (len_of (cell_eq hc) (by (first | lia | omega)))) rfl (okUp (by (first | lia | omega)))
  refine compGE_pure (n := x.length) (x := fun i => .int (i : Int)) (l := fun i => [some (.int (i : Int))]) (v := fun i => .int (i : Int)) e0 ⟨fun i hi acc => nxR_up hi, fun acc => nxR_fin, fun i hi lc hlc => ?_, fun i hi => rfl, fun i hi acc => ?_, fun i hi uu acc => rfl⟩ (by (first | lia | omega))
  · match lc, hlc with
    | [w], _ => rfl
  · have hc' : (β ++ [.list acc])[g]? = some (.cell (L + 1 + 0) (some (.str x))) := getL hc
    have n0 : nE 0 [some (.int (i : Int))] (β ++ [AO.list acc]) = some (.int (i : Int), β ++ [.list acc]) := rfl
    have c0 : cmpT .Eq (nE 0) (cE (.int 0)) [some (.int (i : Int))] (β ++ [AO.list acc]) = some (decide ((i : Int) = 0), β ++ [.list acc]) := eqInt_of n0 rfl
    have gd : ∀ k, k < x.length → x.cps.toList[k]? = some (x.cps.toList.getD k 0) := fun k hk => by
      rw [List.getD_eq_getElem?_getD, List.getElem?_eq_getElem (by (first | lia | omega))]; rfl
    by_cases h : i = 0
    · subst h
      rw [decide_eq_true (by rfl)] at c0
      exact or_t c0
    · rw [decide_eq_false (by (first | lia | omega))] at c0
      refine or_n c0 (or_1 ?_)
      have s1 : idxE (cellE (L + 1 + 0) (g + 0)) (nE 0) [some (.int (i : Int))] (β ++ [AO.list acc]) = _ := sign_of (cell_eq hc') n0 (gd i hi) (by (first | lia | omega))
      have s2 : idxE (cellE (L + 1 + 0) (g + 0)) (binE .Sub (nE 0) (cE (.int 1))) [some (.int (i : Int))] (β ++ [AO.list acc]) = _ := sign_of (k := i - 1) (cell_eq hc') ((sub_of n0 rfl).trans (by rw [show (i : Int) - 1 = ((i - 1 : Nat) : Int) by (first | lia | omega)])) (gd (i - 1) (by (first | lia | omega))) (by (first | lia | omega))
      have c1 := in_of (g := cE (.str " \t")) (x := " \t") s1 rfl
      have c2 := notIn_of (g := cE (.str " \t")) (x := " \t") s2 rfl
      rw [blank_in] at c1 c2
      have e : cutB x.cps.toList i = (blank (x.cps.toList.getD i 0) && !blank (x.cps.toList.getD (i - 1) 0)) := by
        unfold cutB
        rw [beq_eq_false_iff_ne.mpr h]
        rfl
      rw [e]
      cases hb : blank (x.cps.toList.getD i 0) with
      | false => rw [hb] at c1; exact and_f c1
      | true => rw [hb] at c1; exact and_t c1 (and_1 c2)
noncomputable def pcsV (ps : Tk) : List AV := ps.map fun p => partAV (partT p)
theorem turn_piece {C : List Nat} {ps : Tk} {k : Nat} {p : List Nat × List Nat} {c3 c4 : Option AV} (hc : β[g]? = some (.cell (L + 1 + 0) (some (.str x)))) (hz : x.length ≤ 1000) (P : PieceOk p) (hC : C = offs 0 ps ++ [0 + (allP ps).length]) (hx : allP ps = x.cps.toList) (hp : ps[k]? = some p) (hk : k ≤ 1000) (hn : C.length ≤ 2000) {done : List AV} (hd : done.length ≤ 1000) :
    WS (p_law_piecesFTurn1 L g) [some (.loc β.length), some (.loc (β.length + 1)), some (.int (k : Int)), c3, c4] (β ++ .list (natsV C) :: .list done :: []) fun fl lc' τ => fl = .next ∧ (∃ d3 d4, lc' = [some (.loc β.length), some (.loc (β.length + 1)), some (.int (k : Int)), d3, d4]) ∧ τ = β ++ .list (natsV C) :: .list (done ++ [partAV (partT p)]) :: [] := by
  have hl : x.cps.toList.length = x.length := by rw [Array.length_toList]; rfl
  obtain ⟨o, h1, h2, _, h4, h5⟩ := offs_at ps 0 k p hp
  rw [← hC] at h1 h2
  rw [Nat.sub_zero, hx] at h4
  rw [Nat.zero_add, hx, hl] at h5
  generalize hτ : β ++ AO.list (natsV C) :: AO.list done :: [] = τ
  have hcel : τ[g]? = some (.cell (L + 1 + 0) (some (.str x))) := by rw [← hτ]; exact getL hc
  have hcut : τ[β.length]? = some (.list (natsV C)) := by rw [← hτ]; exact get0
  have hdone : τ[β.length + 1]? = some (.list done) := by rw [← hτ]; exact get1
  have hnl : (natsV C).length ≤ 1000000 := by unfold natsV; rw [List.length_map]; (first | lia | omega)
  have v1 : (natsV C)[k]? = some (.int (o : Int)) := by unfold natsV; rw [List.getElem?_map, h1]; rfl
  have v2 : (natsV C)[k + 1]? = some (.int ((o + (p.1.length + p.2.length) : Nat) : Int)) := by unfold natsV; rw [List.getElem?_map, h2]; rfl
  have lp : (strL (p.1 ++ p.2)).length ≤ 1000 := by rw [strL_len, List.length_append]; (first | lia | omega)
  unfold p_law_piecesFTurn1
  -- piece = text[..]
  have i1 : idxE (nE 0) (nE 2) [some (.loc β.length), some (.loc (β.length + 1)), some (.int (k : Int)), c3, c4] τ = some (.int (o : Int), τ) := item_of (k := k) rfl rfl hcut v1 hnl
  have i2 : idxE (nE 0) (binE .Add (nE 2) (cE (.int 1))) [some (.loc β.length), some (.loc (β.length + 1)), some (.int (k : Int)), c3, c4] τ = some (.int ((o + (p.1.length + p.2.length) : Nat) : Int), τ) :=
    item_of (k := k + 1) rfl ((add_of rfl rfl).trans (by rw [show (k : Int) + 1 = ((k + 1 : Nat) : Int) by (first | lia | omega)])) hcut v2 hnl
  have e1 := slStr_of (lc := [some (.loc β.length), some (.loc (β.length + 1)), some (.int (k : Int)), c3, c4]) (f := cellE (L + 1 + 0) (g + 0)) (cell_eq hcel) (opt_of i1) (opt_of i2) (by (first | lia | omega))
  rw [slice_mid (Nat.le_add_right ..) h5, Nat.add_sub_cancel_left, h4] at e1
  refine ws_asg (we e1 ⟨[some (.loc β.length), some (.loc (β.length + 1)), some (.int (k : Int)), some (.str (strL (p.1 ++ p.2))), c4], rfl, ?_⟩)
  -- blanks
  have b1 := count_of (lc := [some (.loc β.length), some (.loc (β.length + 1)), some (.int (k : Int)), some (.str (strL (p.1 ++ p.2))), c4]) (σ := τ) (f := nE 3) (g := cE (.str " ")) (c := 32) (x := strL (p.1 ++ p.2)) rfl rfl
  have b2 := count_of (lc := [some (.loc β.length), some (.loc (β.length + 1)), some (.int (k : Int)), some (.str (strL (p.1 ++ p.2))), c4]) (σ := τ) (f := nE 3) (g := cE (.str "\t")) (c := 9) (x := strL (p.1 ++ p.2)) rfl rfl
  have b3 := add_of b1 b2
  rw [cps_strL, piece_cnt P] at b3
  refine ws_asg (we b3 ⟨[some (.loc β.length), some (.loc (β.length + 1)), some (.int (k : Int)), some (.str (strL (p.1 ++ p.2))), some (.int (p.1.length : Int))], rfl, ?_⟩)
  -- append
  generalize hlc : [some (AV.loc β.length), some (AV.loc (β.length + 1)), some (AV.int (k : Int)), some (AV.str (strL (p.1 ++ p.2))), some (AV.int (p.1.length : Int))] = lc
  have n1 : nE 1 lc τ = some (.loc (β.length + 1), τ) := by rw [← hlc]; rfl
  have n3 : nE 3 lc τ = some (.str (strL (p.1 ++ p.2)), τ) := by rw [← hlc]; rfl
  have n4 : nE 4 lc τ = some (.int (p.1.length : Int), τ) := by rw [← hlc]; rfl
  have t1 := slStr_of (lo := none) n3 rfl (opt_of n4) (by (first | lia | omega))
  have t2 := slStr_of (hi := none) n3 (opt_of n4) rfl (by (first | lia | omega))
  rw [slice_take, cps_strL, List.take_left] at t1
  rw [slice_drop, cps_strL, List.drop_left] at t2
  have e2 := app_of n1 hdone (tup_of (evs2 t1 t2) (by simp)) hdone (by (first | lia | omega))
  refine ws_expr (we e2 (ws_nil ⟨rfl, ?_, ?_⟩))
  · rw [← hlc]; exact ⟨_, _, rfl⟩
  · rw [← hτ, set1]; rfl
set_option tactic.hygienic false in
theorem pieces_spec {σ : St} {s0 y : List Nat} {ts : Tk} (T : TextIs x.cps.toList s0 y ts) (hz : x.length ≤ 1000) : p_law_piecesF [.str x] σ = some (.loc (σ.length + 2), σ ++ [.ext 0 [], .list (natsV (offs 0 (piecesT s0 ts) ++ [x.length])), .list (pcsV (piecesT s0 ts))]) := by
  have hl : x.cps.toList.length = x.length := by rw [Array.length_toList]; rfl
  obtain ⟨ha, hP⟩ := text_all T
  have hcut := cut_text T
  rw [hl] at hcut
  generalize hps : piecesT s0 ts = ps at ha hP hcut
  have hpl : ps.length ≤ x.length := by
    rw [← offs_len ps 0, ← hcut]
    exact Nat.le_trans (List.length_filter_le ..) (Nat.le_of_eq List.length_range)
  unfold p_law_piecesF runC
  refine (if_pos rfl).trans (pickA_of fun L => ?_)
  have run : ∀ (β : St) (g : Nat), β[g]? = some (.cell (L + 1 + 0) (some (.str x))) → WS (p_law_piecesFB L g) [none, none, none, none, none] β fun fl _ τ => fl = .ret (.loc (β.length + 1)) ∧ τ = β ++ [.list (natsV (offs 0 ps ++ [x.length])), .list (pcsV ps)] := by
    intro β g hc
    unfold p_law_piecesFB
    have e1 := cuts_of (lc := [none, none, none, none, none]) hc hz
    rw [hcut] at e1
    refine ws_asg (we e1 ⟨[some (.loc β.length), none, none, none, none], rfl, ?_⟩)
    have hc1 : (β ++ [AO.list (natsV (offs 0 ps))])[g]? = some (.cell (L + 1 + 0) (some (.str x))) := getL hc
    have e2 := app_of (f := nE 0) (g := callE (lenF accLenF) [cellE (L + 1 + 0) (g + 0)]) (lc := [some (.loc β.length), none, none, none, none]) (σ := β ++ [AO.list (natsV (offs 0 ps))]) (xs := natsV (offs 0 ps)) rfl snoc_get (len_of (cell_eq hc1) (by (first | lia | omega))) snoc_get (by unfold natsV; rw [List.length_map, offs_len]; (first | lia | omega))
    rw [snoc_set] at e2
    refine ws_expr (we e2 ?_)
    have en : natsV (offs 0 ps) ++ [AV.int (x.length : Int)] = natsV (offs 0 ps ++ [x.length]) := by unfold natsV; rw [List.map_append]; rfl
    rw [en]
    have e3 := newLE_of (lc := [some (.loc β.length), none, none, none, none]) (σ := β ++ [.list (natsV (offs 0 ps ++ [x.length]))]) (σ' := β ++ [.list (natsV (offs 0 ps ++ [x.length]))]) (es := []) (xs := []) rfl (by simp)
    rw [List.length_append, List.append_assoc] at e3
    refine ws_asg (we e3 ⟨[some (.loc β.length), some (.loc (β.length + 1)), none, none, none], rfl, ?_⟩)
    show WS _ _ (β ++ .list (natsV (offs 0 ps ++ [x.length])) :: .list [] :: []) _
    have hCl : (natsV (offs 0 ps ++ [x.length])).length = ps.length + 1 := by unfold natsV; rw [List.length_map, List.length_append, offs_len]; rfl
    have e4 : binE .Sub (callE (lenF accLenF) [(nE 0)]) (cE (.int 1)) [some (.loc β.length), some (.loc (β.length + 1)), none, none, none] (β ++ .list (natsV (offs 0 ps ++ [x.length])) :: .list [] :: []) = some (.int (ps.length : Int), _) :=
      (sub_of (lenL_of (f := nE 0) rfl get0 (by (first | lia | omega))) rfl).trans (by rw [hCl, show ((ps.length + 1 : Nat) : Int) - 1 = (ps.length : Int) by (first | lia | omega)])
    refine ws_forR (n := ps.length) (fun i lc τ => (∃ c2 c3 c4, lc = [some (.loc β.length), some (.loc (β.length + 1)), c2, c3, c4]) ∧ τ = β ++ .list (natsV (offs 0 ps ++ [x.length])) :: .list (pcsV (ps.take i)) :: []) (evs1 e4) rfl (okUp (by (first | lia | omega))) (rangeUp _) (by (first | lia | omega)) ⟨⟨_, _, _, rfl⟩, rfl⟩ ?_ ?_
    · rintro i _ τ hi ⟨⟨c2, c3, c4, rfl⟩, rfl⟩
      refine ⟨[some (.loc β.length), some (.loc (β.length + 1)), some (.int (i : Int)), c3, c4], by rw [show (0 : Int) + 1 * (i : Int) = i by (first | lia | omega)]; rfl, ?_⟩
      have hp : ps[i]? = some ps[i] := List.getElem?_eq_getElem hi
      refine (turn_piece (C := offs 0 ps ++ [x.length]) (k := i) hc hz (hP _ (List.getElem_mem hi)) (by rw [ha, hl, Nat.zero_add]) ha hp (by (first | lia | omega)) (by rw [List.length_append, offs_len]; simp; (first | lia | omega)) (done := pcsV (ps.take i)) (by unfold pcsV; rw [List.length_map, List.length_take]; (first | lia | omega))).imp ?_
      rintro fl lc' τ' ⟨rfl, ⟨d3, d4, rfl⟩, rfl⟩
      refine ⟨.inl rfl, ⟨_, _, _, rfl⟩, ?_⟩
      have : pcsV (ps.take (i + 1)) = pcsV (ps.take i) ++ [partAV (partT ps[i])] := by
        unfold pcsV
        rw [List.take_add_one, hp, List.map_append]
        rfl
      rw [this]
    · rintro _ τ ⟨⟨c2, c3, c4, rfl⟩, rfl⟩
      rw [List.take_length]
      exact ws_ret (we (v := .loc (β.length + 1)) rfl ⟨rfl, rfl⟩)
  obtain ⟨fl, lc', τ, e, rfl, rfl⟩ := run (σ ++ [.cell (L + 1 + 0) (some (.str x))]) σ.length snoc_get
  rw [List.length_append, List.append_assoc] at e
  refine bnd (a := (.loc (σ.length + 2), σ ++ [.cell (L + 1 + 0) (some (.str x)), .list (natsV (offs 0 ps ++ [x.length])), .list (pcsV ps)])) (bnd e rfl) ?_
  have es : sealN 1 σ.length (σ ++ [AO.cell (L + 1 + 0) (some (.str x)), .list (natsV (offs 0 ps ++ [x.length])), .list (pcsV ps)]) = some (σ ++ [.ext 0 [], .list (natsV (offs 0 ps ++ [x.length])), .list (pcsV ps)]) :=
    bnd (celAt_of get0) (by show some _ = _; rw [set0])
  exact mpo es
end
end Mine.Internal
end
section
set_option linter.all false
open PySem PySem.W PyProof.Rows PySem.Calls
namespace Mine.Internal
structure TX (o : Nat) (ls : List Nat) (tl : List (Int × Str)) (τ : St) : Prop where
  out : τ[o]? = some (.list (ls.map AV.loc))
  len : ls.length = tl.length
  inn : ∀ (j l : Nat) (t : Int × Str), ls[j]? = some l → tl[j]? = some t → τ[l]? = some (AO.list [.int t.1, .str t.2])
  nd : ls.Nodup
  no : o ∉ ls
set_option tactic.hygienic false in
theorem TX.keep {o : Nat} {ls : List Nat} {tl : List (Int × Str)} {τ τ' : St} {X : List Nat} (T : TX o ls tl τ) (S : Same X τ τ') (h1 : o ∉ X) (h2 : ∀ l ∈ ls, l ∉ X) : TX o ls tl τ' :=
  ⟨S.get h1 T.out, T.len, fun j l t a b => S.get (h2 l (List.mem_of_getElem? a)) (T.inn j l t a b), T.nd, T.no⟩
noncomputable def totLen (tl : List (Int × Str)) : Nat := (tl.map fun t => t.2.length).sum
set_option tactic.hygienic false in
theorem totLen_app (a b : List (Int × Str)) : totLen (a ++ b) = totLen a + totLen b := by simp [totLen]
structure TlOk (tl : List (Int × Str)) (n : Nat) : Prop where
  ne : tl ≠ []
  fl : ∀ t ∈ tl, t.1 = 0 ∨ t.1 = 1
  sz : tl.length + totLen tl ≤ n
set_option tactic.hygienic false in
theorem sizes_of {tl : List (Int × Str)} {n : Nat} (h : TlOk tl n) {t : Int × Str} (ht : t ∈ tl) : t.2.length ≤ n := by
  obtain ⟨a, b, rfl⟩ := List.append_of_mem ht
  have := h.sz
  rw [totLen_app] at this
  have : totLen (t :: b) = t.2.length + totLen b := by simp [totLen]
  (first | lia | omega)
noncomputable def signs4 : Str := "ab;\xe9 \t ,\n\xa0\u2003\x0b"
set_option tactic.hygienic false in
theorem last_loc {lc : Lc} {σ : St} {f : EM} {o l : Nat} {lp : List Nat} (h1 : f lc σ = some (.loc o, σ)) (hl : σ[o]? = some (.list ((lp ++ [l]).map AV.loc))) (hz : lp.length ≤ 1000) : idxE f (negE (cE (.int 1))) lc σ = some (.loc l, σ) := by
  refine idx_of h1 rfl ?_
  have e1 : seqIndex? (-1) (lp.length + 1) = some lp.length := sidx_last (Nat.succ_pos _)
  rw [aget_seq (asSeq_list hl), if_pos (by decide), List.length_map, List.length_append, List.length_singleton, e1]
  simp
theorem turn_text {o : Nat} {ls : List Nat} {tl : List (Int × Str)} {τ : St} {x : Int} {scr : AV} {n : Nat} (T : TX o ls tl τ) (G : TlOk tl n) (hn : n ≤ 100) :
    WS p_law_textsFTurn1 [some scr, some (.str signs4), some (.loc o), some (.int x)] τ fun fl lc' τ' => fl = .next ∧ lc' = [some scr, some (.str signs4), some (.loc o), some (.int x)] ∧ ∃ ls' tl', TX o ls' tl' τ' ∧ TlOk tl' (n + 1) := by
  have hls := T.len
  have hsz := G.sz
  obtain ⟨k, hk, hk14⟩ := mod_cases x (n := 14) (by decide)
  have hk' : x.fmod 14 = (k : Int) := hk
  have em : binE .Mod (nE 3) (cE (.int 14)) [some scr, some (.str signs4), some (.loc o), some (.int x)] τ = some (.int (k : Int), τ) := bin_of (b := .int 14) rfl rfl (by rw [← hk']; rfl)
  have et := ltInt_of (g := cE (.int 12)) (j := 12) em rfl
  unfold p_law_textsFTurn1
  by_cases h12 : (k : Int) < 12
  · rw [decide_eq_true h12] at et
    refine ws_if (wt et ?_)
    obtain ⟨tp, t, rfl⟩ : ∃ tp t, tl = tp ++ [t] := by
      rcases List.eq_nil_or_concat tl with h | ⟨rs, r, h⟩
      · exact absurd h G.ne
      · exact ⟨rs, r, by rw [h, List.concat_eq_append]⟩
    obtain ⟨lp, l, rfl⟩ : ∃ lp l, ls = lp ++ [l] := by
      rcases List.eq_nil_or_concat ls with h | ⟨rs, r, h⟩
      · rw [h] at hls; simp at hls
      · exact ⟨rs, r, by rw [h, List.concat_eq_append]⟩
    have hlp : lp.length = tp.length := by simpa using hls
    simp only [List.length_append, List.length_singleton] at hsz
    have hin : τ[l]? = some (.list [.int t.1, .str t.2]) := T.inn lp.length l t (by simp) (by rw [hlp]; simp)
    have e1 := last_loc (lc := [some scr, some (.str signs4), some (.loc o), some (.int x)]) (f := nE 2) rfl T.out (by (first | lia | omega))
    have hc : signs4.cps.toList[k]? = some (signs4.cps.toList.getD k 0) := by
      have : k < signs4.cps.toList.length := by rw [show signs4.cps.toList.length = 12 from by decide]; (first | lia | omega)
      rw [List.getD_eq_getElem?_getD, List.getElem?_eq_getElem this]; rfl
    have e2 : idxE (nE 1) (binE .Mod (nE 3) (cE (.int 14))) [some scr, some (.str signs4), some (.loc o), some (.int x)] τ = some (.str ⟨#[signs4.cps.toList.getD k 0]⟩, τ) := sign_of rfl em hc (by decide)
    generalize signs4.cps.toList.getD k 0 = c at e2
    have h2 : t.2.length ≤ n := sizes_of G (by simp)
    have e3 : ainp .Add (.str t.2) (.str ⟨#[c]⟩) = some (.str (t.2 ++ ⟨#[c]⟩)) := ainp_str.trans (gd_of (decide_eq_true (by show t.2.length + 1 ≤ _; (first | lia | omega))))
    have e4 : putAt l 1 (.str (t.2 ++ ⟨#[c]⟩)) τ = some (τ.set l (.list [.int t.1, .str (t.2 ++ ⟨#[c]⟩)])) := putAt_list (i := 1) (k := 1) hin (by decide) rfl (by decide : 1 < 2)
    have e5 : aget τ (.loc l) 1 = some (.str t.2) := by rw [aget_seq (asSeq_list hin), if_pos (by decide)]; rfl
    refine ws_step (augIdx_of (ix := cE (.int 1)) e1 rfl e5 e2 e3 e4) (ws_nil ⟨rfl, rfl, lp ++ [l], tp ++ [(t.1, t.2 ++ ⟨#[c]⟩)], ?_, ?_⟩)
    · have hlt := (List.getElem?_eq_some_iff.mp hin).1
      have hol : o ≠ l := fun e => T.no (by rw [e]; simp)
      refine ⟨?_, by simp [hlp], fun j l' t' a b => ?_, T.nd, T.no⟩
      · rw [List.getElem?_set_ne (Ne.symm hol)]; exact T.out
      · by_cases hj : j = lp.length
        · subst hj
          simp at a
          rw [hlp] at b
          simp at b
          subst a; subst b
          rw [List.getElem?_set_self hlt]
        · have hj' : j < lp.length := by
            have := (List.getElem?_eq_some_iff.mp a).1
            simp at this
            (first | lia | omega)
          rw [List.getElem?_append_left hj'] at a
          rw [List.getElem?_append_left (by (first | lia | omega))] at b
          have hne : l ≠ l' := fun e => by
            have := (List.nodup_append.mp T.nd).2.2 l' (List.mem_of_getElem? a) l (by simp)
            exact this e.symm
          rw [List.getElem?_set_ne hne]
          exact T.inn j l' t' (by rw [List.getElem?_append_left hj']; exact a) (by rw [List.getElem?_append_left (by (first | lia | omega))]; exact b)
    · refine ⟨by simp, fun t' ht => ?_, ?_⟩
      · rcases List.mem_append.mp ht with ht | ht
        · exact G.fl t' (List.mem_append_left _ ht)
        · obtain rfl := List.mem_singleton.mp ht
          exact G.fl t (by simp)
      · have e6 : totLen (tp ++ [t]) = totLen tp + t.2.length := by rw [totLen_app]; simp [totLen]
        have e7 : totLen (tp ++ [(t.1, t.2 ++ ⟨#[c]⟩)]) = totLen tp + (t.2.length + 1) := by rw [totLen_app]; simp [totLen, str_len_eq]; rfl
        rw [e7, List.length_append, List.length_singleton]
        (first | lia | omega)
  · rw [decide_eq_false h12] at et
    refine ws_if (wt et ?_)
    have e1 : binE .Sub (binE .Mod (nE 3) (cE (.int 14))) (cE (.int 12)) [some scr, some (.str signs4), some (.loc o), some (.int x)] τ = some (.int ((k : Int) - 12), τ) := sub_of em rfl
    have e2 := newLE_of (es := [(binE .Sub (binE .Mod (nE 3) (cE (.int 14))) (cE (.int 12))), (cE (.str ""))]) (evs2 e1 rfl) (xs := [.int ((k : Int) - 12), .str ""]) (by simp)
    have hol := (List.getElem?_eq_some_iff.mp T.out).1
    have hout : (τ ++ [AO.list [.int ((k : Int) - 12), .str ""]])[o]? = some (.list (ls.map AV.loc)) := getL T.out
    have e3 := app_of (f := nE 2) (lc := [some scr, some (.str signs4), some (.loc o), some (.int x)]) rfl T.out e2 hout (by rw [List.length_map]; (first | lia | omega))
    refine ws_expr (we e3 (ws_nil ⟨rfl, rfl, ls ++ [τ.length], tl ++ [((k : Int) - 12, ("" : Str))], ?_, ?_⟩))
    · have hlt : ∀ l ∈ ls, l < τ.length := fun l hl => by
        obtain ⟨j, hj, rfl⟩ := List.mem_iff_getElem.mp hl
        exact (List.getElem?_eq_some_iff.mp (T.inn j _ _ (List.getElem?_eq_getElem hj) (List.getElem?_eq_getElem (hls ▸ hj)))).1
      refine ⟨?_, by simp [hls], fun j l' t' a b => ?_, ?_, ?_⟩
      · rw [List.getElem?_set_self (by simp; (first | lia | omega)), List.map_append]; rfl
      · by_cases hj : j < ls.length
        · rw [List.getElem?_append_left hj] at a
          rw [List.getElem?_append_left (by (first | lia | omega))] at b
          have hne : o ≠ l' := fun e => T.no (e ▸ List.mem_of_getElem? a)
          rw [List.getElem?_set_ne hne]
          exact getL (T.inn j l' t' a b)
        · have : j = ls.length := by have := (List.getElem?_eq_some_iff.mp a).1; simp at this; (first | lia | omega)
          subst this
          simp at a
          rw [hls] at b
          simp at b
          subst a; subst b
          rw [List.getElem?_set_ne (Nat.ne_of_lt hol)]
          exact snoc_get
      · rw [List.nodup_append]
        exact ⟨T.nd, by simp, fun a ha b hb => by rw [List.mem_singleton.mp hb]; exact Nat.ne_of_lt (hlt a ha)⟩
      · rw [List.mem_append, List.mem_singleton]
        exact fun h => h.elim T.no fun e => absurd hol (by (first | lia | omega))
    · refine ⟨by simp, fun t' ht => ?_, ?_⟩
      · rcases List.mem_append.mp ht with ht | ht
        · exact G.fl t' ht
        · obtain rfl := List.mem_singleton.mp ht
          show (k : Int) - 12 = 0 ∨ (k : Int) - 12 = 1
          (first | lia | omega)
      · rw [totLen_app, List.length_append, List.length_singleton]
        have : totLen [((k : Int) - 12, ("" : Str))] = 0 := rfl
        (first | lia | omega)
set_option tactic.hygienic false in
theorem texts_spec (ns : List Int) (hn : ns.length ≤ 63) : ∃ o ls tl τ, p_law_textsF [.lst (ns.map AV.int)] [] = some (.loc o, τ) ∧ TX o ls tl τ ∧ TlOk tl (ns.length + 1) := by
  have run : WS p_law_textsFB [some (.lst (ns.map AV.int)), none, none, none] [] fun fl _ τ => ∃ o, fl = .ret (.loc o) ∧ ∃ ls tl, TX o ls tl τ ∧ TlOk tl (ns.length + 1) := by
    unfold p_law_textsFB
    refine ws_asg (we (v := .str signs4) rfl ⟨[some (.lst (ns.map AV.int)), some (.str signs4), none, none], rfl, ?_⟩)
    have e1 : newLE [(cE (.int 0)), (cE (.str ""))] [some (.lst (ns.map AV.int)), some (.str signs4), none, none] [] = some (.loc 0, [.list [.int 0, .str ""]]) := newLE_of (σ' := []) (xs := [.int 0, .str ""]) rfl (by simp)
    have e2 := newLE_of (evs1 e1) (xs := [.loc 0]) (by simp)
    refine ws_asg (we e2 ⟨[some (.lst (ns.map AV.int)), some (.str signs4), some (.loc 1), none], rfl, ?_⟩)
    have T0 : TX 1 [0] [(0, "")] [.list [.int 0, .str ""], .list [.loc 0]] := ⟨rfl, rfl, fun j l t a b => by
      cases j with
      | zero => cases a; cases b; rfl
      | succ j => simp at a, by simp, by simp⟩
    have G0 : TlOk [((0 : Int), ("" : Str))] 1 := ⟨by simp, fun t ht => by rw [List.mem_singleton.mp ht]; exact .inl rfl, by decide⟩
    refine ws_forL (xs := ns.map AV.int) (σ' := [.list [.int 0, .str ""], .list [.loc 0]]) (fun i lc τ => (∃ c3, lc = [some (.lst (ns.map AV.int)), some (.str signs4), some (.loc 1), c3]) ∧ ∃ ls tl, TX 1 ls tl τ ∧ TlOk tl (i + 1)) rfl (by rw [List.length_map]; (first | lia | omega)) ⟨⟨_, rfl⟩, _, _, T0, G0⟩ ?_ ?_
    · rintro i y _ τ hy ⟨⟨c3, rfl⟩, ls, tl, T, G⟩
      have hi : i < ns.length := by have := (List.getElem?_eq_some_iff.mp hy).1; simpa using this
      rw [List.getElem?_map] at hy
      obtain ⟨x, hx, rfl⟩ := Option.map_eq_some_iff.mp hy
      refine ⟨[some (.lst (ns.map AV.int)), some (.str signs4), some (.loc 1), some (.int x)], rfl, (turn_text T G (by (first | lia | omega))).imp ?_⟩
      rintro fl _ τ' ⟨rfl, rfl, ls', tl', T', G'⟩
      exact ⟨.inl rfl, ⟨_, rfl⟩, ls', tl', T', G'⟩
    · rintro _ τ ⟨⟨c3, rfl⟩, ls, tl, T, G⟩
      rw [List.length_map] at G
      exact ws_ret (we (v := .loc 1) rfl ⟨1, rfl, ls, tl, T, G⟩)
  obtain ⟨fl, lc', τ, e, o, rfl, ls, tl, T, G⟩ := run
  exact ⟨o, ls, tl, τ, run_ret rfl e, T, G⟩
end Mine.Internal
end
section
set_option linter.all false
open PySem PySem.W PyProof.Rows PySem.Calls
namespace Mine.Internal
set_option tactic.hygienic false in
theorem toks_of (x : Str) : ∃ ps : Tk, ∃ s0 y ts, TextIs x.cps.toList s0 y ts ∧ ps = piecesT s0 ts := by
  obtain ⟨s0, y, ts, T⟩ := text_ex x.cps.toList
  exact ⟨_, s0, y, ts, T, rfl⟩
noncomputable def toksOf (x : Str) : Tk := (toks_of x).choose
set_option tactic.hygienic false in
theorem toksOf_is (x : Str) : ∃ s0 y ts, TextIs x.cps.toList s0 y ts ∧ toksOf x = piecesT s0 ts := (toks_of x).choose_spec
noncomputable def dueT (t : Int × Str) : List (Str × Str) := (if t.1 = 1 then [((" " : Str), ("" : Str))] else []) ++ (toksOf t.2).map partT
noncomputable def writ (t : Int × Str) : Str := Txt.mul " " t.1 ++ t.2
noncomputable def dues (tl : List (Int × Str)) : List (Str × Str) := tl.flatMap dueT
set_option tactic.hygienic false in
theorem toks_text (x : Str) : accText ((toksOf x).map partT) = x := by
  obtain ⟨s0, y, ts, T, e⟩ := toksOf_is x
  apply str_ext
  rw [accText_cps, e]
  have h := (text_all T).1
  rw [← h]
  unfold allP
  rw [List.flatMap_def, List.map_map]
  congr 1
  apply List.map_congr_left
  intro p _
  show (partStr (partT p)).cps.toList = _
  unfold partStr partT
  rw [app_cps]
  rfl
set_option tactic.hygienic false in
theorem toks_len (x : Str) : (toksOf x).length ≤ x.length := by
  obtain ⟨s0, y, ts, T, e⟩ := toksOf_is x
  rw [e, ← offs_len _ 0, ← cut_text T]
  refine Nat.le_trans (List.length_filter_le ..) ?_
  rw [List.length_range, Array.length_toList]
  exact Nat.le_refl _
set_option tactic.hygienic false in
theorem accText_one (p : Str × Str) : accText [p] = partStr p := by rw [accText_cons, accText_nil, str_app_nil]
set_option tactic.hygienic false in
theorem due_text {t : Int × Str} (h : t.1 = 0 ∨ t.1 = 1) : accText (dueT t) = writ t := by
  unfold dueT writ
  rw [accText_append, toks_text]
  rcases h with h | h
  · rw [h, if_neg (by decide)]; rfl
  · rw [h, if_pos rfl, accText_one]
    congr 1
set_option tactic.hygienic false in
theorem dues_text : ∀ {tl : List (Int × Str)}, (∀ t ∈ tl, t.1 = 0 ∨ t.1 = 1) → accText (dues tl) = Txt.join "" (tl.map writ)
  | [], _ => rfl
  | t :: tl, h => by
    show accText (dueT t ++ dues tl) = _
    rw [accText_append, List.map_cons, join_cons, due_text (h t List.mem_cons_self), dues_text fun t ht => h t (List.mem_cons_of_mem _ ht)]
set_option tactic.hygienic false in
theorem writ_len {t : Int × Str} (h : t.1 = 0 ∨ t.1 = 1) : (writ t).length ≤ 1 + t.2.length := by
  unfold writ
  rw [str_len_eq]
  rcases h with h | h
  · rw [h, show (Txt.mul " " 0).length = 0 from by decide]; (first | lia | omega)
  · rw [h, show (Txt.mul " " 1).length = 1 from by decide]; (first | lia | omega)
set_option tactic.hygienic false in
theorem due_len (t : Int × Str) : (dueT t).length ≤ 1 + t.2.length := by
  unfold dueT
  have := toks_len t.2
  rw [List.length_append, List.length_map]
  split
  · simp; (first | lia | omega)
  · simp; (first | lia | omega)
set_option tactic.hygienic false in
theorem dues_len : ∀ (tl : List (Int × Str)), (dues tl).length ≤ tl.length + totLen tl
  | [] => Nat.le_refl _
  | t :: tl => by
    have h := dues_len tl
    have h' := due_len t
    show (dueT t ++ dues tl).length ≤ _
    rw [List.length_append, List.length_cons, show totLen (t :: tl) = t.2.length + totLen tl by simp [totLen]]
    (first | lia | omega)
set_option tactic.hygienic false in
theorem join_len : ∀ (xs : List Str), (Txt.join "" xs).length = textLen xs
  | [] => rfl
  | x :: xs => by rw [join_cons, str_len_eq, join_len xs]; simp [textLen]
set_option tactic.hygienic false in
theorem writs_len : ∀ {tl : List (Int × Str)}, (∀ t ∈ tl, t.1 = 0 ∨ t.1 = 1) → textLen (tl.map writ) ≤ tl.length + totLen tl
  | [], _ => Nat.le_refl _
  | t :: tl, h => by
    have h1 := writ_len (h t List.mem_cons_self)
    have h2 := writs_len fun t ht => h t (List.mem_cons_of_mem _ ht)
    rw [List.map_cons, show textLen (writ t :: tl.map writ) = (writ t).length + textLen (tl.map writ) by simp [textLen], List.length_cons, show totLen (t :: tl) = t.2.length + totLen tl by simp [totLen]]
    (first | lia | omega)
set_option tactic.hygienic false in
theorem dues_app (a b : List (Int × Str)) : dues (a ++ b) = dues a ++ dues b := by unfold dues; rw [List.flatMap_append]
set_option tactic.hygienic false in
theorem dues_snoc {tl : List (Int × Str)} {i : Nat} {t : Int × Str} (h : tl[i]? = some t) : dues (tl.take (i + 1)) = dues (tl.take i) ++ dueT t := by
  rw [List.take_add_one, h, dues_app]
  show _ ++ dues [t] = _
  unfold dues
  simp
set_option tactic.hygienic false in
theorem dues_pre {tl : List (Int × Str)} (i : Nat) : ∃ r, dues tl = dues (tl.take i) ++ r := ⟨dues (tl.drop i), by rw [← dues_app, List.take_append_drop]⟩
set_option tactic.hygienic false in
theorem nxU_text {o i : Nat} {ls : List Nat} {tl : List (Int × Str)} {τ : St} (T : TX o ls tl τ) {t : Int × Str} (h : tl[i]? = some t) : nxU 2 (nxL (.loc o)) τ i = some (some (.tup [.int t.1, .str t.2])) := by
  have hl : i < ls.length := by rw [T.len]; exact (List.getElem?_eq_some_iff.mp h).1
  have e : ls[i]? = some ls[i] := List.getElem?_eq_getElem hl
  refine bnd (a := some (.loc ls[i])) ?_ (bnd (a := [.int t.1, .str t.2]) ?_ rfl)
  · exact (mpo (lstAt_of T.out)).trans (by rw [List.getElem?_map, e]; rfl)
  · exact lstAt_of (T.inn i _ t e h)
set_option tactic.hygienic false in
theorem nxU_end {o : Nat} {ls : List Nat} {tl : List (Int × Str)} {τ : St} (T : TX o ls tl τ) : nxU 2 (nxL (.loc o)) τ tl.length = some none := by
  refine bnd (a := none) ?_ rfl
  exact (mpo (lstAt_of T.out)).trans (by rw [List.getElem?_eq_none (by rw [List.length_map, T.len]; exact Nat.le_refl _)])
set_option tactic.hygienic false in
theorem range_get {α β : Type} (f : α → β) (d : α) (xs : List α) : (List.range xs.length).map (fun i => f (xs.getD i d)) = xs.map f := by
  apply List.ext_getElem
  · simp
  · intro i h1 h2
    simp at h1
    simp [List.getD_eq_getElem?_getD, h1]
set_option tactic.hygienic false in
theorem getD_some {α : Type} {xs : List α} {i : Nat} (d : α) (h : i < xs.length) : xs[i]? = some (xs.getD i d) := by
  rw [List.getD_eq_getElem?_getD, List.getElem?_eq_getElem h]; rfl
set_option tactic.hygienic false in
theorem filter_all {α : Type} (xs : List α) : xs.filter (fun uu => true) = xs := List.filter_eq_self.mpr fun uu uu => rfl
set_option tactic.hygienic false in
theorem mS2 {lc : Lc} {σ σ' : St} {f : EM} {G : FM} {es : List EM} {xs : List AV} {x : Str} {r : AV × St} (hf : f lc σ = some (.str x, σ)) (he : evs es lc σ = some (xs, σ')) (k : G (.str x :: xs) σ' = some r) : mE 1 G f es lc σ = some r := bnd hf ((if_pos rfl).trans (bnd he k))
set_option tactic.hygienic false in
theorem written_of {o n : Nat} {ls : List Nat} {tl : List (Int × Str)} {τ : St} {lc : Lc} (T : TX o ls tl τ) (G : TlOk tl n) (hn : n ≤ 100) (h2 : nE 2 lc τ = some (.loc o, τ)) :
    ∃ τ', mE 1 joinF (cE (.str "")) [(compGE (srcL (nE 2)) 2 (nxU 2) (putU [0, 1]) trueT (binE .Add (binE .Mult (cE (.str " ")) (nE 0)) (nE 1)))] lc τ = some (.str (Txt.join "" (tl.map writ)), τ') ∧ Same [] τ τ' := by
  have hsz := G.sz
  have e0 : srcL (nE 2) lc τ = some (nxL (.loc o), τ) := srcL_of h2 (lstAt_of T.out)
  have hT : ∀ acc : List AV, TX o ls tl (τ ++ [.list acc]) := fun acc => T.keep (X := []) (.app _) (by simp) (by simp)
  have hg : ∀ i, i < tl.length → tl[i]? = some (tl.getD i (0, "")) := fun i hi => getD_some _ hi
  have e1 := compGE_pure (lc := lc) (tn := nxU 2) (st := putU [0, 1]) (t := trueT) (f := binE .Add (binE .Mult (cE (.str " ")) (nE 0)) (nE 1)) (k := 2) (n := tl.length) (x := fun i => .tup [.int (tl.getD i (0, "")).1, .str (tl.getD i (0, "")).2])
    (l := fun i => [some (.int (tl.getD i (0, "")).1), some (.str (tl.getD i (0, "")).2)]) (b := fun uu => true) (v := fun i => .str (writ (tl.getD i (0, "")))) e0
    ⟨fun i hi acc => nxU_text (hT acc) (hg i hi), fun acc => nxU_end (hT acc), fun i hi lc hlc => (match lc, hlc with | [_, _], _ => rfl), fun i hi => rfl, fun i hi acc => rfl, fun i hi uu acc => ?_⟩ (by (first | lia | omega))
  · rw [filter_all, range_get (fun t => AV.str (writ t))] at e1
    refine ⟨_, mS2 (x := "") rfl (evs1 e1) (join_of (rs := tl.map writ) ?_ ?_), .app _⟩
    · rw [List.map_map]; exact snoc_get
    · have := writs_len G.fl
      rw [show ("" : Str).length = 0 from by decide, Nat.mul_zero]
      (first | lia | omega)
  · have ht := List.mem_of_getElem? (hg i hi)
    have hf := G.fl _ ht
    have hs := sizes_of G ht
    generalize tl.getD i (0, "") = t at hf hs
    have a1 : binE .Mult (cE (.str " ")) (nE 0) [some (.int t.1), some (.str t.2)] (τ ++ [AO.list acc]) = some (.str (Txt.mul " " t.1), τ ++ [.list acc]) :=
      bin_of (a := .str " ") (b := .int t.1) rfl rfl (amul_str.trans (gd_of (decide_eq_true ⟨by rw [show (" " : Str).length = 1 from by decide]; (first | lia | omega), by (first | lia | omega), by (first | lia | omega)⟩)))
    have hm : (Txt.mul " " t.1).length ≤ 1 := by rcases hf with h | h <;> rw [h] <;> decide
    exact cat_of a1 rfl (by (first | lia | omega))
set_option tactic.hygienic false in
theorem ext_of {lc : Lc} {σ σ' : St} {f g : EM} {l : Nat} {ys zs : List AV} {v : AV} (h1 : f lc σ = some (.loc l, σ)) (hl : σ[l]? = some (.list ys)) (h2 : g lc σ = some (v, σ')) (hl' : σ'[l]? = some (.list ys)) (hv : asList σ' v = some zs) (hz : ys.length + zs.length ≤ 1000000) :
    mE 2 extendF f [g] lc σ = some (.none, σ'.set l (.list (ys ++ zs))) :=
  bnd h1 ((if_pos (by rw [kind_loc_eq, hl]; rfl)).trans (bnd (evs1 h2) (bnd (a := (.loc l, v)) rfl (bnd (a := l) rfl (bnd (lstAt_of hl') (bnd hv (gd_of (decide_eq_true hz))))))))
theorem ws_forG {lc : Lc} {σ σ' : St} {QS : Fl → Lc → St → Prop} {fs : List SM} {src : SrcM} {tn : (St → Nat → Option (Option AV)) → St → Nat → Option (Option AV)} {st : Lc → AV → Option Lc} {B : SM} {nx : St → Nat → Option (Option AV)} {n : Nat} (I : Nat → Lc → St → Prop) (hs : src lc σ = some (nx, σ')) (hn : n < 1000000) (h0 : I 0 lc σ')
    (hN : ∀ i lc σ, i < n → I i lc σ → ∃ x lc₁, tn nx σ i = some (some x) ∧ st lc x = some lc₁ ∧ WS B lc₁ σ fun fl lc₂ σ₂ => (fl = .next ∨ fl = .cont) ∧ I (i + 1) lc₂ σ₂) (hF : ∀ lc σ, I n lc σ → tn nx σ n = some none)
    (hE : ∀ lc σ, I n lc σ → WS (seqS fs) lc σ QS) : WS (seqS (forGS src tn st B (seqS []) :: fs)) lc σ QS := by
  obtain ⟨lc', σ₂, e, h⟩ := loop_inv (nx := tn nx) (st := st) (B := B) (n := n) I hN hF n 0 1000000 lc σ' (by (first | lia | omega)) hn h0
  obtain ⟨fl, lc₃, σ₃, e3, k⟩ := hE _ _ h
  exact ⟨_, _, _, (seq_next (bnd hs e)).trans e3, k⟩
noncomputable abbrev partsV (ps : List (Str × Str)) : List AV := ps.map partAV
theorem turn_due {o d : Nat} {ls : List Nat} {tl : List (Int × Str)} {τ : St} {a0 a1 a3 a7 a8 a9 a10 a11 a12 a13 : Option AV} {t : Int × Str} {done : List (Str × Str)} (T : TX o ls tl τ) (hf : t.1 = 0 ∨ t.1 = 1) (ht : t.2.length ≤ 100) (hd : τ[d]? = some (.list (partsV done))) (hdo : o ≠ d) (hdl : d ∉ ls) (hdn : done.length ≤ 1000) :
    WS lawFTurn1 [a0, a1, some (.loc o), a3, some (.loc d), some (.int t.1), some (.str t.2), a7, a8, a9, a10, a11, a12, a13] τ fun fl lc' τ' => fl = .next ∧ lc' = [a0, a1, some (.loc o), a3, some (.loc d), some (.int t.1), some (.str t.2), a7, a8, a9, a10, a11, a12, a13] ∧ TX o ls tl τ' ∧ τ'[d]? = some (.list (partsV (done ++ dueT t))) := by
  generalize hlc : [a0, a1, some (.loc o), a3, some (.loc d), some (.int t.1), some (.str t.2), a7, a8, a9, a10, a11, a12, a13] = lc
  have n4 : ∀ τ : St, nE 4 lc τ = some (.loc d, τ) := fun τ => by rw [← hlc]; rfl
  have n5 : ∀ τ : St, nE 5 lc τ = some (.int t.1, τ) := fun τ => by rw [← hlc]; rfl
  have n6 : ∀ τ : St, nE 6 lc τ = some (.str t.2, τ) := fun τ => by rw [← hlc]; rfl
  unfold lawFTurn1
  have hdt := (List.getElem?_eq_some_iff.mp hd).1
  -- the transition
  have e1 : mulLE (lstE [(tupE [(cE (.str " ")), (cE (.str ""))])]) (nE 5) lc τ = some (.lst (partsV (if t.1 = 1 then [((" " : Str), ("" : Str))] else [])), τ) := by
    have l1 : lstE [(tupE [(cE (.str " ")), (cE (.str ""))])] lc τ = some (.lst [.tup [.str " ", .str ""]], τ) := lstE_of (evs1 (tup_of (evs2 rfl rfl) (by simp))) (by simp)
    refine bnd l1 (bnd (n5 τ) (bnd (a := t.1) rfl (bnd (a := [.tup [.str " ", .str ""]]) rfl ((gd_of (decide_eq_true ⟨by simp; (first | lia | omega), by (first | lia | omega), by (first | lia | omega)⟩)).trans ?_))))
    rcases hf with h | h
    · rw [h, if_neg (by decide)]; rfl
    · rw [h, if_pos rfl]; rfl
  have hz1 : (partsV (if t.1 = 1 then [((" " : Str), ("" : Str))] else [])).length ≤ 1 := by
    rw [List.length_map]; split <;> simp
  have e2 := ext_of (n4 τ) hd e1 hd rfl (by rw [List.length_map]; (first | lia | omega))
  rw [← List.map_append] at e2
  refine ws_expr (we e2 ?_)
  generalize hd1 : done ++ (if t.1 = 1 then [((" " : Str), ("" : Str))] else []) = done1 at e2 ⊢
  have hdn1 : done1.length ≤ 1001 := by rw [← hd1, List.length_append]; rw [List.length_map] at hz1; (first | lia | omega)
  have hd' : (τ.set d (.list (partsV done1)))[d]? = some (.list (partsV done1)) := List.getElem?_set_self hdt
  have T1 : TX o ls tl (τ.set d (.list (partsV done1))) := T.keep (X := [d]) (.set (by simp)) (by simpa using hdo) (fun l hl e => hdl (by rw [← List.mem_singleton.mp e]; exact hl))
  generalize τ.set d (.list (partsV done1)) = τ1 at hd' T1
  -- the pieces
  obtain ⟨s0, y, ts, TI, et⟩ := toksOf_is t.2
  have e3 := pieces_spec (σ := τ1) TI (by (first | lia | omega))
  rw [← et] at e3
  have e4 : callE p_law_piecesF [(nE 6)] lc τ1 = _ := bnd (evs1 (n6 τ1)) e3
  have hpl := toks_len t.2
  have hp : (pcsV (toksOf t.2)) = partsV ((toksOf t.2).map partT) := by unfold pcsV partsV; rw [List.map_map]; rfl
  rw [hp] at e4
  have e5 := ext_of (n4 τ1) hd' e4 (getL hd') (zs := partsV ((toksOf t.2).map partT)) (lstAt_of (by
    rw [List.getElem?_append_right (Nat.le_add_right _ 2), Nat.add_sub_cancel_left]; rfl)) (by rw [List.length_map, List.length_map, List.length_map]; (first | lia | omega))
  rw [← List.map_append] at e5
  refine ws_expr (we e5 (ws_nil ⟨rfl, rfl, ?_, ?_⟩))
  · have T2 : TX o ls tl (τ1 ++ [AO.ext 0 [], .list (natsV (offs 0 (toksOf t.2) ++ [t.2.length])), .list (partsV ((toksOf t.2).map partT))]) := T1.keep (X := []) (.app _) (by simp) (by simp)
    exact T2.keep (X := [d]) (.set (by simp)) (by simpa using hdo) (fun l hl e => hdl (by rw [← List.mem_singleton.mp e]; exact hl))
  · rw [List.getElem?_set_self (by have := (List.getElem?_eq_some_iff.mp hd').1; simp; (first | lia | omega)), ← hd1]
    unfold dueT
    rw [List.append_assoc]
end Mine.Internal
end
section
set_option linter.all false
open PySem PySem.W PyProof.Rows PySem.Calls
namespace Mine.Internal
structure Wide (ml : Int) (sp : Str) (ini : Int) (DU : List (Str × Str)) : Prop where
  i0 : 0 ≤ ini
  i1 : ini ≤ 10
  w : ini + partsLen DU ≤ ml ∨ (ini = 0 ∧ sp = "")
  n : DU.length ≤ 200
  l : partsLen DU ≤ 200
  sp : sp.cps.size ≤ 1000
set_option tactic.hygienic false in
theorem wide_fits {ml : Int} {sp : Str} {ini : Int} {DU ps r : List (Str × Str)} (W : Wide ml sp ini DU) (h : DU = ps ++ r) : Fits [] ini ps := by
  have h1 := W.n; have h2 := W.l; have h3 := W.i0; have h4 := W.i1
  rw [h, List.length_append] at h1
  rw [h, partsLen_append] at h2
  have := partsLen_nonneg r
  exact ⟨by simp, by simp, by (first | lia | omega), by (first | lia | omega), h3, by (first | lia | omega)⟩
set_option tactic.hygienic false in
theorem wide_chunk {ml : Int} {sp : Str} {ini : Int} {DU ps r : List (Str × Str)} {p : Str × Str} (W : Wide ml sp ini DU) (h : DU = ps ++ [p] ++ r) : chunkP ml sp [] ini ps p.1 p.2 = ([], ini, ps ++ [p]) := by
  unfold chunkP
  rcases W.w with w | ⟨h0, hs⟩
  · have h2 := congrArg partsLen h
    rw [partsLen_append (ps ++ [p])] at h2
    have := partsLen_nonneg r
    rw [if_neg (by show ¬ ml < ini + partsLen (ps ++ [p]); (first | lia | omega))]
  · subst hs; subst h0
    split
    · rfl
    · rfl
set_option tactic.hygienic false in
theorem wide_run {ml : Int} {sp : Str} {ini : Int} {DU : List (Str × Str)} (W : Wide ml sp ini DU) : ∀ (qs ps r : List (Str × Str)), DU = ps ++ qs ++ r → chunksP ml sp ([], ini, ps) qs = ([], ini, ps ++ qs) ∧ FitsRun ml sp ([], ini, ps) qs
  | [], ps, r, _ => ⟨by rw [List.append_nil]; rfl, trivial⟩
  | q :: qs, ps, r, h => by
    have h1 : DU = ps ++ [q] ++ (qs ++ r) := by rw [h]; simp
    have h2 : DU = ps ++ [q] ++ qs ++ r := by rw [h]; simp
    have i := wide_run W qs (ps ++ [q]) r h2
    have c := wide_chunk W h1
    refine ⟨?_, wide_fits W h1, ?_⟩
    · show chunksP ml sp (chunkP ml sp [] ini ps q.1 q.2) qs = _
      rw [c, i.1]
      simp
    · show FitsRun ml sp (chunkP ml sp [] ini ps q.1 q.2) qs
      rw [c]
      exact i.2
set_option tactic.hygienic false in
theorem flatS_len (ts : Tk) : (flatS ts).length = 2 * ts.length := by
  induction ts with
  | nil => rfl
  | cons p ts ih => show ([strL p.1, strL p.2] ++ flatS ts).length = _; rw [List.length_append, ih]; simp; (first | lia | omega)
set_option tactic.hygienic false in
theorem split_text {σ : St} {m ln ac : Nat} {ml : Int} {cw : Str} {cwl : Int} {sp : Str} {ini : Int} {DU ps r : List (Str × Str)} {x sc : Str} {k : Nat} (F : FmtAt σ m ln ac ml cw cwl sp [] ini ps) (W : Wide ml sp ini DU) (hx : x.length ≤ 1000) (h : DU = ps ++ (toksOf x).map partT ++ r) :
    ∃ σ', splitF [.loc m, .str (strL (x.cps.toList.take k)), .str (strL (x.cps.toList.drop k)), .str sc] σ = some (.none, σ') ∧ FmtAt σ' m ln ac ml cw cwl sp [] ini (ps ++ (toksOf x).map partT) ∧ Same [ln, ac] σ σ' := by
  have hl : x.cps.toList.length = x.length := by rw [Array.length_toList]; rfl
  obtain ⟨s0, y, ts, TI, et⟩ := toksOf_is x
  have hw : strL (x.cps.toList.take k) ++ strL (x.cps.toList.drop k) = x := by rw [strL_app, List.take_append_drop, strL_cps]
  have hws := ws_toks (by (first | lia | omega)) TI
  have hl1 : (strL (x.cps.toList.take k)).length + (strL (x.cps.toList.drop k)).length = x.length := by
    rw [← str_len_eq, hw]
  have t1 := TI.T.len
  have t2 := congrArg List.length TI.e
  rw [List.length_append, hl] at t2
  have R := wide_run W _ _ _ h
  have s := split_spec (sc := sc) (st := ([], ini, ps)) (f := strL (x.cps.toList.take k)) (s := strL (x.cps.toList.drop k)) (ys := strL s0 :: flatS ts) (qs := (toksOf x).map partT) F W.sp (by (first | lia | omega)) (by rw [hw]; exact hws) (by simp) (by rw [List.length_cons, flatS_len]; (first | lia | omega)) (by show (strL s0).length ≤ _; rw [strL_len]; (first | lia | omega)) (by rw [pieces_toks, et]) R.2
  rw [R.1] at s
  exact s
theorem turn_lay {o d m ln ac i : Nat} {tl : List (Int × Str)} {τ : St} {a0 a1 a3 a8 a9 a10 a11 a13 : Option AV} {t : Int × Str} {ml : Int} {cw : Str} {cwl : Int} {sp : Str} {ini : Int} {k : Nat} (ht : tl[i]? = some t) (hf : t.1 = 0 ∨ t.1 = 1) (hz : t.2.length ≤ 100) (F : FmtAt τ m ln ac ml cw cwl sp [] ini (dues (tl.take i))) (W : Wide ml sp ini (dues tl)) :
    WS lawFTurn2 [a0, a1, some (.loc o), a3, some (.loc d), some (.int t.1), some (.str t.2), some (.int (k : Int)), a8, a9, a10, a11, some (.loc m), a13] τ fun fl lc' τ' => fl = .next ∧ lc' = [a0, a1, some (.loc o), a3, some (.loc d), some (.int t.1), some (.str t.2), some (.int (k : Int)), a8, a9, a10, a11, some (.loc m), a13] ∧ FmtAt τ' m ln ac ml cw cwl sp [] ini (dues (tl.take (i + 1))) ∧ Same [ln, ac] τ τ' := by
  generalize hlc : [a0, a1, some (.loc o), a3, some (.loc d), some (.int t.1), some (.str t.2), some (.int (k : Int)), a8, a9, a10, a11, some (.loc m), a13] = lc
  have n12 : ∀ τ : St, nE 12 lc τ = some (.loc m, τ) := fun τ => by rw [← hlc]; rfl
  have n5 : ∀ τ : St, nE 5 lc τ = some (.int t.1, τ) := fun τ => by rw [← hlc]; rfl
  have n6 : ∀ τ : St, nE 6 lc τ = some (.str t.2, τ) := fun τ => by rw [← hlc]; rfl
  have n7 : ∀ τ : St, nE 7 lc τ = some (.int (k : Int), τ) := fun τ => by rw [← hlc]; rfl
  obtain ⟨r, hr⟩ := dues_pre (tl := tl) (i + 1)
  rw [dues_snoc ht] at hr ⊢
  unfold lawFTurn2
  -- the text, behind whatever
  have lay : ∀ (τ0 : St) (ps : List (Str × Str)), FmtAt τ0 m ln ac ml cw cwl sp [] ini ps → dues tl = ps ++ (toksOf t.2).map partT ++ r → Same [ln, ac] τ τ0 → ps ++ (toksOf t.2).map partT = dues (tl.take i) ++ dueT t →
      WS (seqS [exprS (mE 3 splitF (nE 12) [(slStrE (nE 6) none (some (nE 7))), (slStrE (nE 6) (some (nE 7)) none), (cE (.str ","))])]) lc τ0 fun fl lc' τ' => fl = .next ∧ lc' = lc ∧ FmtAt τ' m ln ac ml cw cwl sp [] ini (dues (tl.take i) ++ dueT t) ∧ Same [ln, ac] τ τ' := fun τ0 ps F0 h S e => by
    obtain ⟨τ', e1, F', S'⟩ := split_text (sc := ",") (k := k) F0 W (by (first | lia | omega)) h
    have t1 := slStr_of (lo := none) (n6 τ0) rfl (opt_of (n7 τ0)) (by (first | lia | omega))
    have t2 := slStr_of (hi := none) (n6 τ0) (opt_of (n7 τ0)) rfl (by (first | lia | omega))
    rw [slice_take] at t1
    rw [slice_drop] at t2
    have e2 := evs_cons t1 (evs2 (g := cE (.str ",")) (b := .str ",") (σ₂ := τ0) t2 rfl)
    refine ws_expr (mF (n12 τ0) F0.fm e2 (wf e1 (ws_nil ⟨rfl, rfl, e ▸ F', S.trans S'⟩)))
  rcases hf with h0 | h1
  · have ec : cmpT .Eq (nE 5) (cE (.int 1)) lc τ = some (false, τ) := (eqInt_of (n5 τ) rfl).trans (by rw [h0]; rfl)
    have ed : dueT t = (toksOf t.2).map partT := by unfold dueT; rw [h0, if_neg (by decide)]; rfl
    refine ws_if (wt ec ?_)
    exact lay τ _ F (by rw [hr, ed]) .refl (by rw [ed])
  · have ec : cmpT .Eq (nE 5) (cE (.int 1)) lc τ = some (true, τ) := (eqInt_of (n5 τ) rfl).trans (by rw [h1]; rfl)
    have ed : dueT t = [((" " : Str), ("" : Str))] ++ (toksOf t.2).map partT := by unfold dueT; rw [h1, if_pos rfl]
    refine ws_if (wt ec ?_)
    obtain ⟨τ0, e1, F0, S0, _⟩ := trans_spec F (wide_fits W (r := dueT t ++ r) (by rw [hr, List.append_assoc]))
    refine ws_expr (mF (es := []) (n12 τ) F.fm rfl (wf e1 ?_))
    exact lay τ0 _ F0 (by rw [hr, ed]; simp) S0 (by rw [ed]; simp)
noncomputable def partPD (p : Str × Str) : PyData := .tuple [.str p.1, .str p.2]
set_option tactic.hygienic false in
theorem toPD_parts {σ : St} {l : Nat} {ps : List (Str × Str)} (h : σ[l]? = some (.list (partsV ps))) : toPD σ 4 (.loc l) = some (.list (ps.map partPD)) := by
  rw [toPD_loc, lstAt_of h]
  have : ∀ ps : List (Str × Str), optAll (toPD σ 3) (partsV ps) = some (ps.map partPD) := fun ps => by
    induction ps with
    | nil => rfl
    | cons p ps ih =>
      rw [partsV, List.map_cons, optAll, show toPD σ 3 (partAV p) = some (partPD p) by
        unfold partAV partPD
        rw [toPD_tup, optAll, toPD_str, optAll, toPD_str]; rfl]
      show (optAll (toPD σ 3) (partsV ps)).map _ = _
      rw [ih]; rfl
  show (optAll (toPD σ 3) (partsV ps)).map _ = _
  rw [this]; rfl
set_option tactic.hygienic false in
theorem eqv_parts (ps : List (Str × Str)) : PyData.eqv (.list (ps.map partPD)) (.list (ps.map partPD)) = true := by
  rw [PyData.eqv]
  induction ps with
  | nil => rfl
  | cons p ps ih =>
    rw [List.map_cons, PyData.eqvAll, ih]
    unfold partPD
    simp [PyData.eqv, PyData.eqvAll]
set_option tactic.hygienic false in
theorem ne_parts {σ : St} {l l' : Nat} {ps : List (Str × Str)} (h : σ[l]? = some (.list (partsV ps))) (h' : σ[l']? = some (.list (partsV ps))) : acmp σ .NotEq (.loc l) (.loc l') = some false := ne_same (toPD_parts h) (toPD_parts h') (eqv_parts ps)
set_option tactic.hygienic false in
theorem nxA_at {l : Nat} {ini : Int} {ps : List (Str × Str)} {σ : St} (h : σ[l]? = some (.acc ini ps)) (i : Nat) : nxA l σ i = some (ps[i]?.map partAV) := by
  refine (mpo (accAt_of h)).trans ?_
  show some ((ps.map partAV)[i]?) = _
  rw [List.getElem?_map]
set_option tactic.hygienic false in
theorem fmt_made {lc : Lc} {σ : St} {es : List EM} {hl ml : Int} {cw sp : Str} (h : evs es lc σ = some ([.int hl, .int ml, .str cw, .str sp], σ)) (hz : cw.length ≤ 1000000) : callE mkFmtF es lc σ = some (.loc (σ.length + 2), σ ++ [.list [], .acc hl [], .fmt ml cw cw.length sp σ.length (σ.length + 1)]) :=
  bnd h (gd_of (decide_eq_true hz))
theorem turn_room {o d n : Nat} {ls : List Nat} {tl : List (Int × Str)} {τ : St} {a0 a1 a5 a6 a8 a12 a13 : Option AV} {room width : Int} {sp : Str} {k : Nat} (T : TX o ls tl τ) (G : TlOk tl n) (hn : n ≤ 100) (hd : τ[d]? = some (.list (partsV (dues tl)))) (W : Wide width sp room (dues tl)) :
    WS lawFTurn3 [a0, a1, some (.loc o), some (.str (Txt.join "" (tl.map writ))), some (.loc d), a5, a6, some (.int (k : Int)), a8, some (.int room), some (.int width), some (.str sp), a12, a13] τ fun fl lc' τ' => fl = .next ∧ (∃ b5 b6 b12 b13, lc' = [a0, a1, some (.loc o), some (.str (Txt.join "" (tl.map writ))), some (.loc d), b5, b6, some (.int (k : Int)), a8, some (.int room), some (.int width), some (.str sp), b12, b13]) ∧ Same [] τ τ' := by
  have hsz := G.sz
  have htext := dues_text G.fl
  have hwl : (Txt.join "" (tl.map writ)).length ≤ 100 := by rw [join_len]; have := writs_len G.fl; (first | lia | omega)
  have hpl := accText_len (dues tl)
  rw [htext] at hpl
  generalize Txt.join "" (tl.map writ) = wr at *
  have hot := (List.getElem?_eq_some_iff.mp T.out).1
  have hdt := (List.getElem?_eq_some_iff.mp hd).1
  have hlt : ∀ l ∈ ls, l < τ.length := fun l hl => by
    obtain ⟨j, hj, rfl⟩ := List.mem_iff_getElem.mp hl
    exact (List.getElem?_eq_some_iff.mp (T.inn j _ _ (List.getElem?_eq_getElem hj) (List.getElem?_eq_getElem (T.len ▸ hj)))).1
  unfold lawFTurn3
  have e1 := fmt_made (lc := [a0, a1, some (.loc o), some (.str wr), some (.loc d), a5, a6, some (.int (k : Int)), a8, some (.int room), some (.int width), some (.str sp), a12, a13]) (σ := τ) (es := [(nE 9), (nE 10), (cE (.str "\t")), (nE 11)]) (hl := room) (ml := width) (cw := "\t") (sp := sp) rfl (by decide)
  refine ws_asg (we e1 ⟨[a0, a1, some (.loc o), some (.str wr), some (.loc d), a5, a6, some (.int (k : Int)), a8, some (.int room), some (.int width), some (.str sp), some (.loc (τ.length + 2)), a13], rfl, ?_⟩)
  have F0 : FmtAt (τ ++ [.list [], .acc room [], .fmt width "\t" ("\t" : Str).length sp τ.length (τ.length + 1)]) (τ.length + 2) τ.length (τ.length + 1) width "\t" ("\t" : Str).length sp [] room (dues (tl.take 0)) :=
    ⟨by rw [List.getElem?_append_right (Nat.le_add_right _ 2), Nat.add_sub_cancel_left]; rfl, get0, get1⟩
  have S0 : Same [] τ (τ ++ [.list [], .acc room [], .fmt width "\t" ("\t" : Str).length sp τ.length (τ.length + 1)]) := .app _
  generalize τ ++ [AO.list [], .acc room [], .fmt width "\t" ("\t" : Str).length sp τ.length (τ.length + 1)] = τ0 at F0 S0 ⊢
  generalize hm : τ.length + 2 = m at F0 ⊢
  generalize hln : τ.length = ln at F0
  generalize hac : ln + 1 = ac at F0
  have keep : ∀ {τ' : St}, Same [ln, ac] τ0 τ' → Same [] τ τ' := fun S => ⟨Nat.le_trans S0.1 S.1, fun j hj hl => (S.2 j (by simp; (first | lia | omega)) (Nat.lt_of_lt_of_le hl S0.1)).trans (S0.2 j hj hl)⟩
  refine ws_forG (n := tl.length) (nx := nxL (.loc o)) (fun i lc τ' => (∃ b5 b6, lc = [a0, a1, some (.loc o), some (.str wr), some (.loc d), b5, b6, some (.int (k : Int)), a8, some (.int room), some (.int width), some (.str sp), some (.loc m), a13]) ∧ FmtAt τ' m ln ac width "\t" ("\t" : Str).length sp [] room (dues (tl.take i)) ∧ Same [ln, ac] τ0 τ')
    (srcL_of rfl (lstAt_of (S0.get (by simp) T.out))) (by (first | lia | omega)) ⟨⟨_, _, rfl⟩, F0, .refl⟩ ?_ ?_ ?_
  · rintro i _ τ' hi ⟨⟨b5, b6, rfl⟩, F, S⟩
    have ht : tl[i]? = some tl[i] := List.getElem?_eq_getElem hi
    have T' : TX o ls tl τ' := T.keep (keep S) (by simp) (by simp)
    refine ⟨_, [a0, a1, some (.loc o), some (.str wr), some (.loc d), some (.int tl[i].1), some (.str tl[i].2), some (.int (k : Int)), a8, some (.int room), some (.int width), some (.str sp), some (.loc m), a13], nxU_text T' ht, rfl, ?_⟩
    have hs := sizes_of G (List.getElem_mem hi)
    refine (turn_lay (d := d) ht (G.fl _ (List.getElem_mem hi)) (by (first | lia | omega)) F W).imp ?_
    rintro fl _ τ'' ⟨rfl, rfl, F', S'⟩
    exact ⟨.inl rfl, ⟨_, _, rfl⟩, F', S.trans S'⟩
  · rintro _ τ' ⟨_, F, S⟩
    exact nxU_end (T.keep (keep S) (by simp) (by simp))
  · rintro _ τ' ⟨⟨b5, b6, rfl⟩, F, S⟩
    rw [List.take_length] at F
    have S1 := keep S
    have hd1 : τ'[d]? = some (.list (partsV (dues tl))) := S1.get (by simp) hd
    have eA : attrE 5 (nE 12) [a0, a1, some (.loc o), some (.str wr), some (.loc d), b5, b6, some (.int (k : Int)), a8, some (.int room), some (.int width), some (.str sp), some (.loc m), a13] τ' = some (.loc ac, τ') := attrAcc rfl F
    refine ws_asg (we eA ⟨[a0, a1, some (.loc o), some (.str wr), some (.loc d), b5, b6, some (.int (k : Int)), a8, some (.int room), some (.int width), some (.str sp), some (.loc m), some (.loc ac)], rfl, ?_⟩)
    generalize hlc : [a0, a1, some (.loc o), some (.str wr), some (.loc d), b5, b6, some (.int (k : Int)), a8, some (.int room), some (.int width), some (.str sp), some (.loc m), some (.loc ac)] = lc
    have n12 : ∀ τ : St, nE 12 lc τ = some (.loc m, τ) := fun τ => by rw [← hlc]; rfl
    have n13 : ∀ τ : St, nE 13 lc τ = some (.loc ac, τ) := fun τ => by rw [← hlc]; rfl
    have n4 : ∀ τ : St, nE 4 lc τ = some (.loc d, τ) := fun τ => by rw [← hlc]; rfl
    have n3 : ∀ τ : St, nE 3 lc τ = some (.str wr, τ) := fun τ => by rw [← hlc]; rfl
    have n9 : ∀ τ : St, nE 9 lc τ = some (.int room, τ) := fun τ => by rw [← hlc]; rfl
    -- no row, the pieces
    have c1 : cmpT .NotEq (attrE 4 (nE 12)) (lstE []) lc τ' = some (false, τ') := cmp_of (attrLines (n12 τ') F) (lstE_of rfl (by simp)) (ne_rows (rs := []) F.li)
    have e2 := compGE_pure (lc := lc) (tn := id) (st := fun lc y => putL lc 0 y) (t := trueT) (f := nE 0) (k := 1) (n := (dues tl).length) (x := fun i => partAV ((dues tl).getD i (("" : Str), ("" : Str)))) (l := fun i => [some (partAV ((dues tl).getD i (("" : Str), ("" : Str))))]) (b := fun uu => true) (v := fun i => partAV ((dues tl).getD i (("" : Str), ("" : Str)))) (srcA_of (n13 τ') F.acc)
      ⟨fun i hi acc => (nxA_at (getL F.acc) i).trans (by rw [getD_some ((("" : Str), ("" : Str)) : Str × Str) hi]; rfl), fun acc => (nxA_at (getL F.acc) _).trans (by rw [List.getElem?_eq_none (Nat.le_refl _)]; rfl), fun i hi lc hlc => (match lc, hlc with | [_], _ => rfl), fun i hi => rfl, fun i hi acc => rfl, fun i hi uu acc => rfl⟩ (by have := W.n; (first | lia | omega))
    rw [filter_all, range_get (fun p => partAV p)] at e2
    have c2 : cmpT .NotEq (compGE (srcA (nE 13)) 1 id (fun lc y => putL lc 0 y) trueT (nE 0)) (nE 4) lc τ' = some (false, τ' ++ [.list (partsV (dues tl))]) :=
      bnd e2 (bnd (n4 _) (mpo (ne_parts snoc_get (getL hd1))))
    refine ws_if (wt (bnd (a := (false, τ')) c1 (bnd (a := (false, τ' ++ [AO.list (partsV (dues tl))])) c2 rfl)) ?_)
    have F2 : FmtAt (τ' ++ [AO.list (partsV (dues tl))]) m ln ac width "\t" ("\t" : Str).length sp [] room (dues tl) := F.keep (X := []) (.app _) (by simp) (by simp) (by simp)
    have S2 : Same [] τ (τ' ++ [AO.list (partsV (dues tl))]) := S1.trans (.app _)
    generalize τ' ++ [AO.list (partsV (dues tl))] = τ2 at F2 S2 ⊢
    have H := wide_fits W (r := []) (List.append_nil _).symm
    have i0 := W.i0
    have i1 := W.i1
    have c3 : cmpT .NotEq (callE (strF accStrF fmtStrF) [(nE 13)]) (nE 3) lc τ2 = some (false, τ2) :=
      (neStr_of (x := accText (dues tl)) (bnd (evs1 (n13 τ2)) (str_eq F2.acc H.acc)) (n3 τ2)).trans (by rw [htext, decide_eq_false (by simp)])
    have c4 : cmpT .NotEq (callE (lenF accLenF) [(nE 13)]) (binE .Add (nE 9) (callE (lenF accLenF) [(nE 3)])) lc τ2 = some (false, τ2) :=
      (neInt_of (i := room + partsLen (dues tl)) (bnd (evs1 (n13 τ2)) (len_eq F2.acc H.acc i0 (by (first | lia | omega)))) (add_of (n9 τ2) (len_of (n3 τ2) (by (first | lia | omega))))).trans (by rw [hpl, decide_eq_false (by simp)])
    refine ws_if (wt (or_f c3 (or_f c4 rfl)) ?_)
    exact ws_nil ⟨rfl, ⟨_, _, _, _, hlc.symm⟩, S2⟩
end Mine.Internal
end
section
set_option linter.all false
open PySem PySem.W PyProof.Rows PySem.Calls
namespace Mine.Internal
set_option tactic.hygienic false in
theorem runF_true {vars : List Str} {n : Nat} {B : SM} {xs : List AV} {σ : St} (hn : xs.length = n) (h : WS B (lc0 vars xs) σ fun fl uu uu => fl = .ret (.bool true)) : ∃ σ', runF vars n B xs σ = some (.bool true, σ') := by
  obtain ⟨fl, lc', σ', e, rfl⟩ := h
  exact ⟨σ', run_ret hn e⟩
theorem plainL (ns : List Int) (hn : ns.length ≤ 63) : ∃ σ', lawF [.lst (ns.map AV.int)] [] = some (.bool true, σ') := by
  refine runF_true rfl ?_
  show WS lawFB [some (.lst (ns.map AV.int)), none, none, none, none, none, none, none, none, none, none, none, none, none] [] _
  unfold lawFB
  have hsl : (ns.map AV.int).take 63 = ns.map AV.int := List.take_of_length_le (by rw [List.length_map]; exact hn)
  have es := slice_of (lc := [some (.lst (ns.map AV.int)), none, none, none, none, none, none, none, none, none, none, none, none, none]) (σ := []) (f := nE 0) (hi := cE (.int 63)) (n := 63) (xs := ns.map AV.int) rfl rfl (by rw [List.length_map]; (first | lia | omega))
  rw [hsl] at es
  refine ws_asg (we es ⟨[some (.lst (ns.map AV.int)), none, none, none, none, none, none, none, none, none, none, none, none, none], rfl, ?_⟩)
  refine ws_asg (we (sum_of (ns := ns) rfl) ⟨[some (.lst (ns.map AV.int)), some (.int ns.sum), none, none, none, none, none, none, none, none, none, none, none, none], rfl, ?_⟩)
  obtain ⟨o, ls, tl, τ, et, T, G⟩ := texts_spec ns hn
  generalize ns.sum = tot
  generalize hS : AV.lst (ns.map AV.int) = S at et ⊢
  have e2 : callE p_law_textsF [(nE 0)] [some S, some (.int tot), none, none, none, none, none, none, none, none, none, none, none, none] [] = some (.loc o, τ) := bnd (evs1 (a := S) rfl) et
  refine ws_asg (we e2 ⟨[some S, some (.int tot), some (.loc o), none, none, none, none, none, none, none, none, none, none, none], rfl, ?_⟩)
  obtain ⟨τ1, e3, S1⟩ := written_of (lc := [some S, some (.int tot), some (.loc o), none, none, none, none, none, none, none, none, none, none, none]) T G (by (first | lia | omega)) rfl
  refine ws_asg (we e3 ⟨[some S, some (.int tot), some (.loc o), some (.str (Txt.join "" (tl.map writ))), none, none, none, none, none, none, none, none, none, none], rfl, ?_⟩)
  have T1 : TX o ls tl τ1 := T.keep S1 (by simp) (by simp)
  have hsz := G.sz
  have hdl := dues_len tl
  have hwl : (Txt.join "" (tl.map writ)).length ≤ 64 := by rw [join_len]; have := writs_len G.fl; (first | lia | omega)
  have htext := dues_text G.fl
  have hpl := accText_len (dues tl)
  rw [htext] at hpl
  generalize hwr : Txt.join "" (tl.map writ) = wr at *
  have e4 := newLE_of (lc := [some S, some (.int tot), some (.loc o), some (.str wr), none, none, none, none, none, none, none, none, none, none]) (σ := τ1) (σ' := τ1) (es := []) (xs := []) rfl (by simp)
  refine ws_asg (we e4 ⟨[some S, some (.int tot), some (.loc o), some (.str wr), some (.loc τ1.length), none, none, none, none, none, none, none, none, none], rfl, ?_⟩)
  have T2 : TX o ls tl (τ1 ++ [.list []]) := T1.keep (X := []) (.app _) (by simp) (by simp)
  have hd2 : (τ1 ++ [AO.list []])[τ1.length]? = some (.list (partsV (dues (tl.take 0)))) := snoc_get
  have hot := (List.getElem?_eq_some_iff.mp T1.out).1
  have hlt : τ1.length ∉ ls := fun hl => by
    obtain ⟨j, hj, e⟩ := List.mem_iff_getElem.mp hl
    have := (List.getElem?_eq_some_iff.mp (T1.inn j _ _ (List.getElem?_eq_getElem hj) (List.getElem?_eq_getElem (T1.len ▸ hj)))).1
    (first | lia | omega)
  have hod : o ≠ τ1.length := Nat.ne_of_lt hot
  generalize hd : τ1.length = d at hd2 hlt hod ⊢
  generalize τ1 ++ [AO.list []] = τ2 at T2 hd2 ⊢
  refine ws_forG (n := tl.length) (nx := nxL (.loc o)) (fun i lc τ => (∃ b5 b6, lc = [some S, some (.int tot), some (.loc o), some (.str wr), some (.loc d), b5, b6, none, none, none, none, none, none, none]) ∧ TX o ls tl τ ∧ τ[d]? = some (.list (partsV (dues (tl.take i)))))
    (srcL_of rfl (lstAt_of T2.out)) (by (first | lia | omega)) ⟨⟨_, _, rfl⟩, T2, hd2⟩ ?_ ?_ ?_
  · rintro i _ τ hi ⟨⟨b5, b6, rfl⟩, T, hd⟩
    have ht : tl[i]? = some tl[i] := List.getElem?_eq_getElem hi
    have hs := sizes_of G (List.getElem_mem hi)
    obtain ⟨r, hr⟩ := dues_pre (tl := tl) i
    have hdn : (dues (tl.take i)).length ≤ 1000 := by
      have := congrArg List.length hr
      rw [List.length_append] at this
      (first | lia | omega)
    refine ⟨_, [some S, some (.int tot), some (.loc o), some (.str wr), some (.loc d), some (.int tl[i].1), some (.str tl[i].2), none, none, none, none, none, none, none], nxU_text T ht, rfl, (turn_due T (G.fl _ (List.getElem_mem hi)) (by (first | lia | omega)) hd hod hlt hdn).imp ?_⟩
    rintro fl _ τ' ⟨rfl, rfl, T', hd'⟩
    exact ⟨.inl rfl, ⟨_, _, rfl⟩, T', by rw [dues_snoc ht]; exact hd'⟩
  · rintro _ τ ⟨_, T, _⟩
    exact nxU_end T
  rintro _ τ ⟨⟨b5, b6, rfl⟩, T, hd⟩
  rw [List.take_length] at hd
  -- first, name
  obtain ⟨k, hk, hk3⟩ := mod_cases (tot.fdiv 7) (n := 3) (by decide)
  have hk' : (tot.fdiv 7).fmod 3 = (k : Int) := hk
  obtain ⟨q, hq, hq7⟩ := mod_cases tot (n := 7) (by decide)
  have hq' : tot.fmod 7 = (q : Int) := hq
  have e5 : binE .Mod (binE .FloorDiv (nE 1) (cE (.int 7))) (cE (.int 3)) [some S, some (.int tot), some (.loc o), some (.str wr), some (.loc d), b5, b6, none, none, none, none, none, none, none] τ = some (.int (k : Int), τ) :=
    bin_of (a := .int (tot.fdiv 7)) (b := .int 3) (bin_of (a := .int tot) (b := .int 7) rfl rfl rfl) rfl (by rw [← hk']; rfl)
  refine ws_asg (we e5 ⟨[some S, some (.int tot), some (.loc o), some (.str wr), some (.loc d), b5, b6, some (.int (k : Int)), none, none, none, none, none, none], rfl, ?_⟩)
  have e6 : binE .Mod (nE 1) (cE (.int 7)) [some S, some (.int tot), some (.loc o), some (.str wr), some (.loc d), b5, b6, some (.int (k : Int)), none, none, none, none, none, none] τ = some (.int (q : Int), τ) :=
    bin_of (a := .int tot) (b := .int 7) rfl rfl (by rw [← hq']; rfl)
  refine ws_asg (we e6 ⟨[some S, some (.int tot), some (.loc o), some (.str wr), some (.loc d), b5, b6, some (.int (k : Int)), some (.int (q : Int)), none, none, none, none, none], rfl, ?_⟩)
  -- two rooms
  have l1 : tupE [(nE 8), (binE .Add (nE 8) (callE (lenF accLenF) [(nE 3)])), (cE (.str "; "))] [some S, some (.int tot), some (.loc o), some (.str wr), some (.loc d), b5, b6, some (.int (k : Int)), some (.int (q : Int)), none, none, none, none, none] τ = some (.tup [.int (q : Int), .int ((q : Int) + wr.length), .str "; "], τ) :=
    tup_of (evs_cons (σ₁ := τ) rfl (evs2 (b := .str "; ") (σ₂ := τ) (add_of rfl (len_of (x := wr) rfl (by (first | lia | omega)))) rfl)) (by simp)
  have l2 : tupE [(cE (.int 0)), (binE .Sub (nE 8) (cE (.int 3))), (cE (.str ""))] [some S, some (.int tot), some (.loc o), some (.str wr), some (.loc d), b5, b6, some (.int (k : Int)), some (.int (q : Int)), none, none, none, none, none] τ = some (.tup [.int 0, .int ((q : Int) - 3), .str ""], τ) :=
    tup_of (evs_cons (σ₁ := τ) rfl (evs2 (b := .str "") (σ₂ := τ) (sub_of rfl rfl) rfl)) (by simp)
  have l3 := lstE_of (evs2 l1 l2) (by simp)
  have W1 : Wide ((q : Int) + wr.length) "; " q (dues tl) := ⟨by (first | lia | omega), by (first | lia | omega), .inl (by (first | lia | omega)), by (first | lia | omega), by (first | lia | omega), by decide⟩
  have W2 : Wide ((q : Int) - 3) "" 0 (dues tl) := ⟨by (first | lia | omega), by (first | lia | omega), .inr ⟨rfl, rfl⟩, by (first | lia | omega), by (first | lia | omega), by decide⟩
  generalize hx1 : (q : Int) + wr.length = w1 at l3 W1
  generalize hx2 : (q : Int) - 3 = w2 at l3 W2
  refine ws_forG (n := 2) (nx := nxL (.lst [.tup [.int (q : Int), .int w1, .str "; "], .tup [.int 0, .int w2, .str ""]])) (fun i lc τ => (∃ b5 b6 b9 b10 b11 b12 b13, lc = [some S, some (.int tot), some (.loc o), some (.str wr), some (.loc d), b5, b6, some (.int (k : Int)), some (.int (q : Int)), b9, b10, b11, b12, b13]) ∧ TX o ls tl τ ∧ τ[d]? = some (.list (partsV (dues tl))))
    (srcL_of l3 rfl) (by decide) ⟨⟨_, _, _, _, _, _, _, rfl⟩, T, hd⟩ ?_ (fun uu uu uu => rfl) ?_
  · rintro i _ τ hi ⟨⟨b5, b6, b9, b10, b11, b12, b13, rfl⟩, T, hd⟩
    subst hwr
    have go : ∀ {room width : Int} {sp : Str}, Wide width sp room (dues tl) → nxU 3 (nxL (.lst [.tup [.int (q : Int), .int w1, .str "; "], .tup [.int 0, .int w2, .str ""]])) τ i = some (some (.tup [.int room, .int width, .str sp])) →
        ∃ x lc₁, nxU 3 (nxL (.lst [.tup [.int (q : Int), .int w1, .str "; "], .tup [.int 0, .int w2, .str ""]])) τ i = some (some x) ∧ putU [9, 10, 11] [some S, some (.int tot), some (.loc o), some (.str (Txt.join "" (tl.map writ))), some (.loc d), b5, b6, some (.int (k : Int)), some (.int (q : Int)), b9, b10, b11, b12, b13] x = some lc₁ ∧
          WS lawFTurn3 lc₁ τ fun fl lc₂ σ₂ => (fl = .next ∨ fl = .cont) ∧ (∃ b5 b6 b9 b10 b11 b12 b13, lc₂ = [some S, some (.int tot), some (.loc o), some (.str (Txt.join "" (tl.map writ))), some (.loc d), b5, b6, some (.int (k : Int)), some (.int (q : Int)), b9, b10, b11, b12, b13]) ∧ TX o ls tl σ₂ ∧ σ₂[d]? = some (.list (partsV (dues tl))) := fun {room width sp} W e => by
      refine ⟨_, [some S, some (.int tot), some (.loc o), some (.str (Txt.join "" (tl.map writ))), some (.loc d), b5, b6, some (.int (k : Int)), some (.int (q : Int)), some (.int room), some (.int width), some (.str sp), b12, b13], e, rfl, (turn_room T G (by (first | lia | omega)) hd W).imp ?_⟩
      rintro fl _ τ' ⟨rfl, ⟨c5, c6, c12, c13, rfl⟩, S'⟩
      exact ⟨.inl rfl, ⟨_, _, _, _, _, _, _, rfl⟩, T.keep S' (by simp) (by simp), S'.get (by simp) hd⟩
    match i, hi with
    | 0, _ => exact go W1 rfl
    | 1, _ => exact go W2 rfl
  · rintro _ τ ⟨⟨b5, b6, b9, b10, b11, b12, b13, rfl⟩, _, _⟩
    exact ws_ret (we (v := .bool true) (σ' := τ) rfl rfl)
end Mine.Internal
end
section
open PySem PySem.W PyProof.Rows PySem.Calls
namespace Mine.Internal
noncomputable abbrev tsL : List (Addr × Addr) := [(166, 162), (173, 169)]
noncomputable abbrev cfgL (w : World) (s₁ : Shared) : Cfg := mkCfg Challenge.rw_dm0091_04.row.prog w (hd.heap_39 w.params) s₁ 116 200 tsL (fun _ _ _ => True) (fun _ _ _ _ _ => False)
section
variable {w : World} {s₁ : Shared} {mg mb : Str → Option Value}
set_option tactic.hygienic false in
theorem htL : ∀ t ∈ tsL, codeTabIn (hd.heap_39 w.params) t.1 t.2 = true := by
  have a : codeTabIn (hd.heap_39 w.params) 166 162 = true := by kernel_rfl
  have b : codeTabIn (hd.heap_39 w.params) 173 169 = true := by kernel_rfl
  intro t h
  simp at h
  rcases h with rfl | rfl
  · exact a
  · exact b
set_option tactic.hygienic false in
theorem HL (S : Start (hd.heap_39 w.params) s₁ mg mb) : CfgOk (cfgL w s₁) := start_cfg S (by decide) (by decide) (by decide)
set_option tactic.hygienic false in
theorem HGL (S : Start (hd.heap_39 w.params) s₁ mg mb) : GenOk (cfgL w s₁) := start_gen S htL (by decide)
set_option tactic.hygienic false in
theorem HCL : ClsOk (cfgL w s₁) where
  vfGa := by kernel_rfl
  vfGt := by kernel_rfl
  vfDict := by kernel_rfl
  vfAttr := upTo 5 (upTo 4 (upTo 3 (upTo 2 (upTo 1 (upTo 0 upTo0 (by kernel_rfl)) (by kernel_rfl)) (by kernel_rfl)) (by kernel_rfl)) (by kernel_rfl)) (by kernel_rfl)
  acGa := by kernel_rfl
  acGt := by kernel_rfl
  acDict := by kernel_rfl
  acAttr := by kernel_rfl
  acMro := by kernel_rfl
set_option tactic.hygienic false in
theorem HAL : AccOk (cfgL w s₁) := ⟨by kernel_rfl, by kernel_rfl, by kernel_rfl⟩
set_option tactic.hygienic false in
theorem HIL : ItemOk (cfgL w s₁) := ⟨by kernel_rfl⟩
set_option tactic.hygienic false in
theorem HSpL : SpecOk (cfgL w s₁) 167 174 71 := ⟨by kernel_rfl, by kernel_rfl, by kernel_rfl, by kernel_rfl, by kernel_rfl, by kernel_rfl, by kernel_rfl⟩
set_option tactic.hygienic false in
theorem supClsL : SupCls (cfgL w s₁) := ⟨⟨_, rfl, rfl, rfl⟩, by kernel_rfl, by kernel_rfl, by kernel_rfl, by kernel_rfl⟩
set_option tactic.hygienic false in
theorem takerIniL : takerIn (cfgL w s₁).K (cfgL w s₁).ACC "_initial_size" = some none := by kernel_rfl
set_option tactic.hygienic false in
theorem stAccL : StoreOk (cfgL w s₁) (cfgL w s₁).ACC := ⟨by kernel_rfl, _, rfl, rfl, .inl rfl⟩
set_option tactic.hygienic false in
theorem stVfL : StoreOk (cfgL w s₁) (cfgL w s₁).VF := ⟨by kernel_rfl, _, rfl, rfl, .inr rfl⟩
set_option tactic.hygienic false in
theorem supL (S : Start (hd.heap_39 w.params) s₁ mg mb) {f : Addr} {vars : List Str} (L : Addr) (ks : (envAt (cfgL w s₁) f L).kindOf "super" = some .globalImplicit) (kc : (envAt (cfgL w s₁) f L).kindOf "__class__" = some .free)
    (fn : ∃ of fd ar, (cfgL w s₁).K.lookup f = some of ∧ of.data = .func fd ∧ (fd.params.posonlyargs ++ fd.params.args).head? = some ar ∧ vars[0]? = some ar.arg)
    (code : ∃ cc oc vs file tf, (envAt (cfgL w s₁) f L).code = .ref cc ∧ (cfgL w s₁).K.lookup cc = some oc ∧ oc.data = .fields vs ∧ vs[2]? = some (.str file tf) ∧ (((cfgL w s₁).prog.main.file : Str) == file) = true)
    (cell : ∃ c oc, (envAt (cfgL w s₁) f L).cells.lookup ("__class__" : Str) = some c ∧ (cfgL w s₁).K.lookup c = some oc ∧ oc.data = .cell (some (.ref (cfgL w s₁).ACC))) : SupOk (cfgL w s₁) (envAt (cfgL w s₁) f L) vars where
  ks := ks
  kc := kc
  fn := let ⟨of, fd, ar, a, b, c, d⟩ := fn; ⟨f, of, fd, ar, rfl, a, b, c, d⟩
  code := code
  top := by kernel_rfl
  sup := globBlt (HL (w := w) S).kin S.g S.b (by kernel_rfl) (by kernel_rfl)
  cell := cell
set_option tactic.hygienic false in
theorem gStrL (S : Start (hd.heap_39 w.params) s₁ mg mb) : GlobVal (cfgL w s₁) "str" (.type "str") := globBlt (HL (w := w) S).kin S.g S.b (by kernel_rfl) (by kernel_rfl)
set_option tactic.hygienic false in
theorem gLenL (S : Start (hd.heap_39 w.params) s₁ mg mb) : GlobVal (cfgL w s₁) "len" (.builtin "len") := globBlt (HL (w := w) S).kin S.g S.b (by kernel_rfl) (by kernel_rfl)
set_option tactic.hygienic false in
theorem gSumL (S : Start (hd.heap_39 w.params) s₁ mg mb) : GlobVal (cfgL w s₁) "sum" (.builtin "sum") := globBlt (HL (w := w) S).kin S.g S.b (by kernel_rfl) (by kernel_rfl)
set_option tactic.hygienic false in
theorem gRangeL (S : Start (hd.heap_39 w.params) s₁ mg mb) : GlobVal (cfgL w s₁) "range" (.type "range") := globBlt (HL (w := w) S).kin S.g S.b (by kernel_rfl) (by kernel_rfl)
set_option tactic.hygienic false in
theorem gZipL (S : Start (hd.heap_39 w.params) s₁ mg mb) : GlobVal (cfgL w s₁) "zip" (.type "zip") := globBlt (HL (w := w) S).kin S.g S.b (by kernel_rfl) (by kernel_rfl)
set_option tactic.hygienic false in
theorem gIterL (S : Start (hd.heap_39 w.params) s₁ mg mb) : GlobVal (cfgL w s₁) "iter" (.builtin "iter") := globBlt (HL (w := w) S).kin S.g S.b (by kernel_rfl) (by kernel_rfl)
set_option tactic.hygienic false in
theorem keepL {f : Addr} (h : keepIn (cfgL w s₁).K (.ref f) = true) : KeepOk (cfgL w s₁) (.ref f) := keep_K h
set_option tactic.hygienic false in
theorem f144 : FnIn (cfgL w s₁) 144 ["self", "fws", "string"] 3 := ⟨by kernel_rfl, by kernel_rfl, by kernel_rfl, by kernel_rfl, by kernel_rfl⟩
set_option tactic.hygienic false in
theorem d144 (S : Start (hd.heap_39 w.params) s₁ mg mb) : BF (cfgL w s₁) 11 144 pushF := by
  have H := HL (w := w) S; have HC := HCL (w := w) (s₁ := s₁)
  refine b_fn H f144 (by decide +kernel) (vec3 fun a b c => by kernel_rfl) fun L He => ?_
  exact b_cons (b_expr He (b_meth H (m_accApp H HC (by kernel_rfl) (by kernel_rfl)) keep_builtin (b_append H HC) (b_name He rfl) (b_econs (b_tup (b_econs (b_name He rfl) (b_econs (b_name He rfl) b_enil rfl) rfl)) b_enil rfl) (fun uu uu => rfl) (by decide) rfl) rfl) b_nil
set_option tactic.hygienic false in
theorem f197 : FnIn (cfgL w s₁) 197 ["self"] 1 := ⟨by kernel_rfl, by kernel_rfl, by kernel_rfl, by kernel_rfl, by kernel_rfl⟩
set_option tactic.hygienic false in
theorem d197 (S : Start (hd.heap_39 w.params) s₁ mg mb) : BF (cfgL w s₁) 11 197 pcF := by
  have H := HL (w := w) S; have HC := HCL (w := w) (s₁ := s₁)
  refine b_fnA H f197 (by decide +kernel) (vec1 fun a => by kernel_rfl) fun L He => ?_
  exact b_consA (b_partCount H HC He supClsL (supL S L (by kernel_rfl) (by kernel_rfl) ⟨_, _, _, rfl, rfl, rfl, rfl⟩ ⟨_, _, _, _, _, rfl, rfl, rfl, rfl, by kernel_rfl⟩ ⟨_, _, rfl, rfl, rfl⟩) (by kernel_rfl) rfl) b_nilA
set_option tactic.hygienic false in
theorem f160 : FnIn (cfgL w s₁) 160 ["self"] 1 := ⟨by kernel_rfl, by kernel_rfl, by kernel_rfl, by kernel_rfl, by kernel_rfl⟩
set_option tactic.hygienic false in
theorem mCountL (S : Start (hd.heap_39 w.params) s₁ mg mb) : BM (cfgL w s₁) 4 "part_count" (.ref 197) := m_acc (HL (w := w) S) HCL (by kernel_rfl) (by kernel_rfl) (by decide +kernel)
set_option tactic.hygienic false in
theorem d160 (S : Start (hd.heap_39 w.params) s₁ mg mb) : BF (cfgL w s₁) 13 160 popF := by
  have H := HL (w := w) S; have HC := HCL (w := w) (s₁ := s₁)
  refine b_fnA H f160 (by decide +kernel) (vec1 fun a => by kernel_rfl) fun L He => ?_
  refine b_consA (b_sA (b_if (b_cmpT (b_meth H (mCountL S) (keepL (by kernel_rfl)) ((d197 S).call (by decide)) (b_name He rfl) b_enil (fun uu uu => rfl) (by decide) rfl) b_int rfl) (b_cons (b_ret (b_tup (b_econs (b_str (by decide +kernel)) (b_econs (b_str (by decide +kernel)) b_enil rfl) rfl))) b_nil) b_nil)) ?_
  exact b_consA (b_pop H HC He supClsL (supL S L (by kernel_rfl) (by kernel_rfl) ⟨_, _, _, rfl, rfl, rfl, rfl⟩ ⟨_, _, _, _, _, rfl, rfl, rfl, rfl, by kernel_rfl⟩ ⟨_, _, rfl, rfl, rfl⟩) (by kernel_rfl) rfl) b_nilA
set_option tactic.hygienic false in
theorem f167 : FnIn (cfgL w s₁) 167 ["self"] 1 := ⟨by kernel_rfl, by kernel_rfl, by kernel_rfl, by kernel_rfl, by kernel_rfl⟩
set_option tactic.hygienic false in
theorem d167 (S : Start (hd.heap_39 w.params) s₁ mg mb) : BF (cfgL w s₁) 11 167 accLenF := by
  have H := HL (w := w) S; have HC := HCL (w := w) (s₁ := s₁)
  refine b_fn H f167 (by decide +kernel) (vec1 fun a => by kernel_rfl) fun L He => ?_
  exact b_cons (b_accLen H HC HAL (HGL S) He (t := (166, 162, #[])) ⟨by simp [mkCfg], by kernel_rfl, by kernel_rfl, by kernel_rfl, by intro y hy; revert y; decide, by kernel_rfl, rfl⟩ ⟨by kernel_rfl, by kernel_rfl, by kernel_rfl, by kernel_rfl⟩ (gLenL S) (gSumL S) (by kernel_rfl)) b_nil
set_option tactic.hygienic false in
theorem f174 : FnIn (cfgL w s₁) 174 ["self"] 1 := ⟨by kernel_rfl, by kernel_rfl, by kernel_rfl, by kernel_rfl, by kernel_rfl⟩
set_option tactic.hygienic false in
theorem d174 (S : Start (hd.heap_39 w.params) s₁ mg mb) : BF (cfgL w s₁) 11 174 accStrF := by
  have H := HL (w := w) S; have HC := HCL (w := w) (s₁ := s₁)
  refine b_fn H f174 (by decide +kernel) (vec1 fun a => by kernel_rfl) fun L He => ?_
  obtain ⟨te, hE⟩ : ∃ te, GlobVal (cfgL w s₁) "EMPTYSTRING" (.str "" te) := ⟨_, globOwn H.kin S.g rfl⟩
  exact b_cons (b_accStr H HC HAL (HGL S) He (t := (173, 169, #[])) ⟨by simp [mkCfg], by kernel_rfl, by kernel_rfl, by kernel_rfl, by intro y hy; revert y; decide, by kernel_rfl, rfl⟩ ⟨by kernel_rfl, by kernel_rfl, by kernel_rfl, by kernel_rfl⟩ hE (by kernel_rfl) rfl rfl) b_nil
set_option tactic.hygienic false in
theorem f152 : FnIn (cfgL w s₁) 152 ["self", "i", "popped"] 2 := ⟨by kernel_rfl, by kernel_rfl, by kernel_rfl, by kernel_rfl, by kernel_rfl⟩
set_option tactic.hygienic false in
theorem d152 (S : Start (hd.heap_39 w.params) s₁ mg mb) : BF (cfgL w s₁) 11 152 popFromF := by
  have H := HL (w := w) S; have HC := HCL (w := w) (s₁ := s₁)
  refine b_fnD (m := 2) (dxs := []) (dv := []) H f152 (by decide +kernel) (fun uu uu => .nil) (fun s X => vec2 fun a b => binds_K X rfl rfl rfl rfl (by kernel_rfl)) fun L He => ?_
  exact b_cons (b_asg He rfl (b_slice H HC HAL HIL (b_name He rfl) (b_oS (b_name He rfl)) b_oN) rfl) (b_cons (b_setSl H HC HAL HIL (b_lst b_enil) (b_name He rfl) (b_oS (b_name He rfl)) b_oN rfl) (b_cons (b_ret (b_name He rfl)) b_nil))
set_option tactic.hygienic false in
theorem f182 : FnIn (cfgL w s₁) 182 ["self", "startval"] 2 := ⟨by kernel_rfl, by kernel_rfl, by kernel_rfl, by kernel_rfl, by kernel_rfl⟩
set_option tactic.hygienic false in
theorem d182 (S : Start (hd.heap_39 w.params) s₁ mg mb) : BF (cfgL w s₁) 12 182 resetF := by
  have H := HL (w := w) S; have HC := HCL (w := w) (s₁ := s₁)
  have B : ∀ L, EnvB (envAt (cfgL w s₁) 182 L) ["self", "startval"] → BB (cfgL w s₁) 11 (envAt (cfgL w s₁) 182 L) ["self", "startval"] (bodyAt (cfgL w s₁).K 182) resetB := by
    intro L He
    exact b_cons (b_if (b_cmpT (b_name He rfl) b_none rfl) (b_cons (b_asg He rfl (b_lst b_enil) rfl) b_nil) b_nil) (b_cons (b_setSl H HC HAL HIL (b_name He rfl) (b_name He rfl) b_oN b_oN rfl) (b_cons (b_ini H stAccL takerIniL (b_name He rfl) b_int rfl) b_nil))
  exact ⟨DenF.or (b_fnD (m := 1) (dxs := [.none]) (dv := [.none]) H f182 (by decide +kernel) (fun uu uu => .cons .none .nil) (fun s X => vec1 fun a => binds_K X rfl rfl rfl rfl (by kernel_rfl)) B).run (b_fnD (m := 2) (dxs := []) (dv := []) H f182 (by decide +kernel) (fun uu uu => .nil) (fun s X => vec2 fun a b => binds_K X rfl rfl rfl rfl (by kernel_rfl)) B).run⟩
set_option tactic.hygienic false in
theorem dLenL (S : Start (hd.heap_39 w.params) s₁ mg mb) {d : Nat} (h : 12 ≤ d) : BC (cfgL w s₁) d (.builtin "len") (lenF accLenF) := b_len (d' := 11) (HL (w := w) S) HSpL (d167 S) h
set_option tactic.hygienic false in
theorem dStrL (S : Start (hd.heap_39 w.params) s₁ mg mb) {d : Nat} (h : 13 ≤ d) : BC (cfgL w s₁) d (.type "str") (strF accStrF noF) := b_strC (d' := 11) (HL (w := w) S) HSpL ((d174 S).call (by decide)) b_noF h
set_option tactic.hygienic false in
theorem f189 : FnIn (cfgL w s₁) 189 ["self"] 1 := ⟨by kernel_rfl, by kernel_rfl, by kernel_rfl, by kernel_rfl, by kernel_rfl⟩
set_option tactic.hygienic false in
theorem d189 (S : Start (hd.heap_39 w.params) s₁ mg mb) : BF (cfgL w s₁) 16 189 onlywsF := by
  have H := HL (w := w) S; have HC := HCL (w := w) (s₁ := s₁)
  refine b_fn H f189 (by decide +kernel) (vec1 fun a => by kernel_rfl) fun L He => ?_
  exact b_cons (b_ret (b_andE (b_cmp (b_attr H HC rfl (b_name He rfl) (fun uu uu => rfl)) b_int rfl) (b_orE (b_notA H HSpL ((d167 S).call (by decide)) (b_name He rfl)) (b_meth H m_isspace keep_builtin b_isspace (b_call H He (gStrL S) (by kernel_rfl) keep_type (dStrL S (by decide)) (b_econs (b_name He rfl) b_enil rfl) (by decide +kernel)) b_enil (fun uu uu => rfl) (by decide) rfl)))) b_nil
set_option tactic.hygienic false in
theorem accMakeL : AccMake (cfgL w s₁) 137 := ⟨⟨_, _, _, _, rfl, rfl, rfl, rfl⟩, by kernel_rfl, by kernel_rfl, by kernel_rfl, by kernel_rfl⟩
set_option tactic.hygienic false in
theorem f137 : FnIn (cfgL w s₁) 137 ["self", "initial_size"] 2 := ⟨by kernel_rfl, by kernel_rfl, by kernel_rfl, by kernel_rfl, by kernel_rfl⟩
set_option tactic.hygienic false in
theorem dAccL (S : Start (hd.heap_39 w.params) s₁ mg mb) : BC (cfgL w s₁) 12 (.ref 200) mkAccF := by
  have H := HL (w := w) S; have HC := HCL (w := w) (s₁ := s₁)
  have F := f137 (w := w) (s₁ := s₁)
  exact ⟨den_mkAcc (d := 10) H HC supClsL accMakeL stAccL takerIniL (F.okD (m := 2) (dxs := []) (dv := []) H (fun uu uu => .nil) (fun s X => vec2 fun a b => binds_K X rfl rfl rfl rfl (by kernel_rfl))) (fun L => supL S L (by kernel_rfl) (by kernel_rfl) ⟨_, _, _, rfl, rfl, rfl, rfl⟩ ⟨_, _, _, _, _, rfl, rfl, rfl, rfl, by kernel_rfl⟩ ⟨_, _, rfl, rfl, rfl⟩) (by kernel_rfl) (by rfl) (fun L => by kernel_rfl) (fun L => rfl) (fun L => rfl)⟩
set_option tactic.hygienic false in
theorem f57 : FnIn (cfgL w s₁) 57 ["self", "headerlen", "maxlen", "continuation_ws", "splitchars"] 5 := ⟨by kernel_rfl, by kernel_rfl, by kernel_rfl, by kernel_rfl, by kernel_rfl⟩
set_option tactic.hygienic false in
theorem dFmtL (S : Start (hd.heap_39 w.params) s₁ mg mb) : BC (cfgL w s₁) 16 (.ref 116) mkFmtF := by
  have H := HL (w := w) S; have HC := HCL (w := w) (s₁ := s₁)
  refine b_mkFmt (d := 14) (LF := accLenF) H (by kernel_rfl) (by kernel_rfl) (by kernel_rfl) stVfL f57 (vec5 fun a b c d e => by kernel_rfl) fun L He => ?_
  have gA : GlobVal (cfgL w s₁) "_Accumulator" (.ref 200) := globOwn H.kin S.g (by kernel_rfl)
  exact b_icons (by kernel_rfl) (b_name He rfl) (b_icons (by kernel_rfl) (b_name He rfl) (b_icons (by kernel_rfl) (b_call H He (gLenL S) (by kernel_rfl) keep_builtin (dLenL S (by decide)) (b_econs (b_name He rfl) b_enil rfl) (by decide +kernel))
      (b_icons (by kernel_rfl) (b_name He rfl) (b_icons (by kernel_rfl) (b_newL b_enil) (b_icons (by kernel_rfl) (b_call H He gA (by kernel_rfl) (keepL (by kernel_rfl)) ((dAccL S).up (by decide)) (b_econs (b_name He rfl) b_enil rfl) (by decide +kernel)) b_inil rfl) rfl) rfl) rfl) rfl) rfl
set_option tactic.hygienic false in
theorem bPushL : BindOk (cfgL w s₁) "push" 144 := ⟨by kernel_rfl, by kernel_rfl, by kernel_rfl, by kernel_rfl, by kernel_rfl, by kernel_rfl, by decide +kernel⟩
set_option tactic.hygienic false in
theorem mA_push (S : Start (hd.heap_39 w.params) s₁ mg mb) : BM (cfgL w s₁) 4 "push" (.ref 144) := m_acc (HL (w := w) S) HCL (by kernel_rfl) (by kernel_rfl) (by decide +kernel)
set_option tactic.hygienic false in
theorem mA_pop (S : Start (hd.heap_39 w.params) s₁ mg mb) : BM (cfgL w s₁) 4 "pop" (.ref 160) := m_acc (HL (w := w) S) HCL (by kernel_rfl) (by kernel_rfl) (by decide +kernel)
set_option tactic.hygienic false in
theorem mA_pop_from (S : Start (hd.heap_39 w.params) s₁ mg mb) : BM (cfgL w s₁) 4 "pop_from" (.ref 152) := m_acc (HL (w := w) S) HCL (by kernel_rfl) (by kernel_rfl) (by decide +kernel)
set_option tactic.hygienic false in
theorem mA_reset (S : Start (hd.heap_39 w.params) s₁ mg mb) : BM (cfgL w s₁) 4 "reset" (.ref 182) := m_acc (HL (w := w) S) HCL (by kernel_rfl) (by kernel_rfl) (by decide +kernel)
set_option tactic.hygienic false in
theorem mA_is_onlyws (S : Start (hd.heap_39 w.params) s₁ mg mb) : BM (cfgL w s₁) 4 "is_onlyws" (.ref 189) := m_acc (HL (w := w) S) HCL (by kernel_rfl) (by kernel_rfl) (by decide +kernel)
set_option tactic.hygienic false in
theorem mA_part_count (S : Start (hd.heap_39 w.params) s₁ mg mb) : BM (cfgL w s₁) 4 "part_count" (.ref 197) := mCountL S
set_option tactic.hygienic false in
theorem mF_str (S : Start (hd.heap_39 w.params) s₁ mg mb) : BM (cfgL w s₁) 3 "_str" (.ref 64) := m_fmt (HL (w := w) S) HCL (by kernel_rfl) (by kernel_rfl) (by decide +kernel)
set_option tactic.hygienic false in
theorem mFnewline (S : Start (hd.heap_39 w.params) s₁ mg mb) : BM (cfgL w s₁) 3 "newline" (.ref 78) := m_fmt (HL (w := w) S) HCL (by kernel_rfl) (by kernel_rfl) (by decide +kernel)
set_option tactic.hygienic false in
theorem mFadd_transition (S : Start (hd.heap_39 w.params) s₁ mg mb) : BM (cfgL w s₁) 3 "add_transition" (.ref 85) := m_fmt (HL (w := w) S) HCL (by kernel_rfl) (by kernel_rfl) (by decide +kernel)
set_option tactic.hygienic false in
theorem mF_ascii_split (S : Start (hd.heap_39 w.params) s₁ mg mb) : BM (cfgL w s₁) 3 "_ascii_split" (.ref 106) := m_fmt (HL (w := w) S) HCL (by kernel_rfl) (by kernel_rfl) (by decide +kernel)
set_option tactic.hygienic false in
theorem mF_append_chunk (S : Start (hd.heap_39 w.params) s₁ mg mb) : BM (cfgL w s₁) 3 "_append_chunk" (.ref 113) := m_fmt (HL (w := w) S) HCL (by kernel_rfl) (by kernel_rfl) (by decide +kernel)
set_option tactic.hygienic false in
theorem k64 : KeepOk (cfgL w s₁) (.ref 64) := keepL (by kernel_rfl)
set_option tactic.hygienic false in
theorem k78 : KeepOk (cfgL w s₁) (.ref 78) := keepL (by kernel_rfl)
set_option tactic.hygienic false in
theorem k85 : KeepOk (cfgL w s₁) (.ref 85) := keepL (by kernel_rfl)
set_option tactic.hygienic false in
theorem k106 : KeepOk (cfgL w s₁) (.ref 106) := keepL (by kernel_rfl)
set_option tactic.hygienic false in
theorem k113 : KeepOk (cfgL w s₁) (.ref 113) := keepL (by kernel_rfl)
set_option tactic.hygienic false in
theorem k144 : KeepOk (cfgL w s₁) (.ref 144) := keepL (by kernel_rfl)
set_option tactic.hygienic false in
theorem k152 : KeepOk (cfgL w s₁) (.ref 152) := keepL (by kernel_rfl)
set_option tactic.hygienic false in
theorem k160 : KeepOk (cfgL w s₁) (.ref 160) := keepL (by kernel_rfl)
set_option tactic.hygienic false in
theorem k182 : KeepOk (cfgL w s₁) (.ref 182) := keepL (by kernel_rfl)
set_option tactic.hygienic false in
theorem k189 : KeepOk (cfgL w s₁) (.ref 189) := keepL (by kernel_rfl)
set_option tactic.hygienic false in
theorem k197 : KeepOk (cfgL w s₁) (.ref 197) := keepL (by kernel_rfl)
set_option tactic.hygienic false in
theorem k116 : KeepOk (cfgL w s₁) (.ref 116) := keepL (by kernel_rfl)
set_option tactic.hygienic false in
theorem g_ValueFormatter (S : Start (hd.heap_39 w.params) s₁ mg mb) : GlobVal (cfgL w s₁) "_ValueFormatter" (.ref 116) := globOwn (HL (w := w) S).kin S.g (by kernel_rfl)
set_option tactic.hygienic false in
theorem k209 : KeepOk (cfgL w s₁) (.ref 209) := keepL (by kernel_rfl)
set_option tactic.hygienic false in
theorem g_law_pieces (S : Start (hd.heap_39 w.params) s₁ mg mb) : GlobVal (cfgL w s₁) "_law_pieces" (.ref 209) := globOwn (HL (w := w) S).kin S.g (by kernel_rfl)
set_option tactic.hygienic false in
theorem k216 : KeepOk (cfgL w s₁) (.ref 216) := keepL (by kernel_rfl)
set_option tactic.hygienic false in
theorem g_law_texts (S : Start (hd.heap_39 w.params) s₁ mg mb) : GlobVal (cfgL w s₁) "_law_texts" (.ref 216) := globOwn (HL (w := w) S).kin S.g (by kernel_rfl)
set_option tactic.hygienic false in
theorem reL : ReOk (cfgL w s₁) 43 42 := ⟨⟨_, _, _, _, _, _, rfl⟩, ⟨_, _, _, _, rfl, by kernel_rfl⟩⟩
set_option tactic.hygienic false in
theorem reDictL : ∀ o, (cfgL w s₁).K.lookup 43 = some o → o.dict = none := by
  have e : ((cfgL w s₁).K.lookup 43).map (·.dict) = some none := by kernel_rfl
  intro o ho
  rw [ho] at e
  exact Option.some.inj e
set_option tactic.hygienic false in
theorem gReL (S : Start (hd.heap_39 w.params) s₁ mg mb) : GlobVal (cfgL w s₁) "_twin_re_1" (.ref 43) := globOwn (HL (w := w) S).kin S.g (by kernel_rfl)
end
end Mine.Internal
end
section
open PySem PySem.W PyProof.Rows PySem.Calls
namespace Mine.Internal
section
variable {w : World} {s₁ : Shared} {mg mb : Str → Option Value}
set_option tactic.hygienic false in
theorem f78 : FnIn (cfgL w s₁) 78 ["self", "end_of_line"] 1 := ⟨by kernel_rfl, by kernel_rfl, by kernel_rfl, by kernel_rfl, by kernel_rfl⟩
set_option tactic.hygienic false in
theorem d78 (S : Start (hd.heap_39 w.params) s₁ mg mb) : BF (cfgL w s₁) 18 78 newlineF := by
  have H := HL (w := w) S; have HC := HCL (w := w) (s₁ := s₁)
  refine b_fn H f78 (by decide +kernel) (vec1 fun a => by kernel_rfl) fun L He => ?_
  have kd_len : (envAt (cfgL w s₁) 78 L).kindOf "len" = some .globalImplicit := by kernel_rfl
  have kd_str : (envAt (cfgL w s₁) 78 L).kindOf "str" = some .globalImplicit := by kernel_rfl
  exact (b_cons (b_asg He rfl (b_meth H (mA_pop S) k160 ((d160 S).call (by decide)) (b_attr H HC rfl (b_name He rfl) (fun uu uu => rfl)) b_enil (fun uu uu => rfl) (by decide) rfl) rfl)
 (b_cons (b_if (b_cmpT (b_name He rfl) (b_tup (b_econs (b_str (by decide +kernel)) (b_econs (b_str (by decide +kernel)) b_enil rfl) rfl)) rfl) (b_cons (b_expr He (b_methStar H HC bPushL (d144 S) (by decide) (b_attr H HC rfl (b_name He rfl) (fun uu uu => rfl)) (b_name He rfl) (fun uu uu => rfl)) rfl)
 b_nil) b_nil)
 (b_cons (b_if (b_cmpT (b_call H He (gLenL S) kd_len keep_builtin (dLenL S (by decide)) (b_econs (b_attr H HC rfl (b_name He rfl) (fun uu uu => rfl)) b_enil rfl) (by decide +kernel)) b_int rfl) (b_cons (b_if (b_andT (b_tcons (b_tr (b_meth H (mA_is_onlyws S) k189 ((d189 S).call (by decide)) (b_attr H HC rfl (b_name He rfl) (fun uu uu => rfl)) b_enil (fun uu uu => rfl) (by decide) rfl) (fun uu => rfl)) (b_tcons (b_tr (b_attr H HC rfl (b_name He rfl) (fun uu uu => rfl)) (fun uu => rfl)) b_tnil))) (b_cons (b_augIdx H HC HAL HIL (b_attr H HC rfl (b_name He rfl) (fun uu uu => rfl)) (b_neg b_int) (b_call H He (gStrL S) kd_str keep_type (dStrL S (by decide)) (b_econs (b_attr H HC rfl (b_name He rfl) (fun uu uu => rfl)) b_enil rfl) (by decide +kernel)) (fun uu uu uu => rfl))
 b_nil) (b_cons (b_expr He (b_meth H m_append keep_builtin (b_append H HC) (b_attr H HC rfl (b_name He rfl) (fun uu uu => rfl)) (b_econs (b_call H He (gStrL S) kd_str keep_type (dStrL S (by decide)) (b_econs (b_attr H HC rfl (b_name He rfl) (fun uu uu => rfl)) b_enil rfl) (by decide +kernel)) b_enil rfl) (fun uu uu => rfl) (by decide) rfl) rfl)
 b_nil))
 b_nil) b_nil)
 (b_cons (b_expr He (b_meth H (mA_reset S) k182 ((d182 S).call (by decide)) (b_attr H HC rfl (b_name He rfl) (fun uu uu => rfl)) b_enil (fun uu uu => rfl) (by decide) rfl) rfl)
 b_nil))))
set_option tactic.hygienic false in
theorem f64 : FnIn (cfgL w s₁) 64 ["self", "linesep"] 2 := ⟨by kernel_rfl, by kernel_rfl, by kernel_rfl, by kernel_rfl, by kernel_rfl⟩
set_option tactic.hygienic false in
theorem d64 (S : Start (hd.heap_39 w.params) s₁ mg mb) : BF (cfgL w s₁) 20 64 uStrF := by
  have H := HL (w := w) S; have HC := HCL (w := w) (s₁ := s₁)
  refine b_fn H f64 (by decide +kernel) (vec2 fun a b => by kernel_rfl) fun L He => ?_
  exact (b_cons (b_expr He (b_meth H (mFnewline S) k78 ((d78 S).call (by decide)) (b_name He rfl) b_enil (fun uu uu => rfl) (by decide) rfl) rfl)
 (b_cons (b_ret (b_meth H m_join keep_builtin b_join (b_name He rfl) (b_econs (b_attr H HC rfl (b_name He rfl) (fun uu uu => rfl)) b_enil rfl) (fun uu uu => rfl) (by decide) rfl))
 b_nil))
set_option tactic.hygienic false in
theorem f71 : FnIn (cfgL w s₁) 71 ["self"] 1 := ⟨by kernel_rfl, by kernel_rfl, by kernel_rfl, by kernel_rfl, by kernel_rfl⟩
set_option tactic.hygienic false in
theorem d71 (S : Start (hd.heap_39 w.params) s₁ mg mb) : BF (cfgL w s₁) 22 71 fmtStrF := by
  have H := HL (w := w) S; have HC := HCL (w := w) (s₁ := s₁)
  refine b_fn H f71 (by decide +kernel) (vec1 fun a => by kernel_rfl) fun L He => ?_
  have kd_NL : (envAt (cfgL w s₁) 71 L).kindOf "NL" = some .globalImplicit := by kernel_rfl
  obtain ⟨teNL, hNL⟩ : ∃ te, GlobVal (cfgL w s₁) "NL" (.str "\n" te) := ⟨_, globOwn H.kin S.g rfl⟩
  exact (b_cons (b_ret (b_meth H (mF_str S) k64 ((d64 S).call (by decide)) (b_name He rfl) (b_econs (b_glob H He hNL (by decide +kernel) kd_NL (by decide +kernel)) b_enil rfl) (fun uu uu => rfl) (by decide) rfl))
 b_nil)
set_option tactic.hygienic false in
theorem f113 : FnIn (cfgL w s₁) 113 ["self", "fws", "string", "ch", "i", "prevpart", "part", "remainder"] 3 := ⟨by kernel_rfl, by kernel_rfl, by kernel_rfl, by kernel_rfl, by kernel_rfl⟩
set_option tactic.hygienic false in
theorem d113 (S : Start (hd.heap_39 w.params) s₁ mg mb) : BF (cfgL w s₁) 22 113 chunkF := by
  have H := HL (w := w) S; have HC := HCL (w := w) (s₁ := s₁)
  refine b_fn H f113 (by decide +kernel) (vec3 fun a b c => by kernel_rfl) fun L He => ?_
  have kd_len : (envAt (cfgL w s₁) 113 L).kindOf "len" = some .globalImplicit := by kernel_rfl
  have kd_range : (envAt (cfgL w s₁) 113 L).kindOf "range" = some .globalImplicit := by kernel_rfl
  have kd_str : (envAt (cfgL w s₁) 113 L).kindOf "str" = some .globalImplicit := by kernel_rfl
  exact (b_cons (b_expr He (b_meth H (mA_push S) k144 ((d144 S).call (by decide)) (b_attr H HC rfl (b_name He rfl) (fun uu uu => rfl)) (b_econs (b_name He rfl) (b_econs (b_name He rfl) b_enil rfl) rfl) (fun uu uu => rfl) (by decide) rfl) rfl)
 (b_cons (b_if (b_cmpT (b_call H He (gLenL S) kd_len keep_builtin (dLenL S (by decide)) (b_econs (b_attr H HC rfl (b_name He rfl) (fun uu uu => rfl)) b_enil rfl) (by decide +kernel)) (b_attr H HC rfl (b_name He rfl) (fun uu uu => rfl)) rfl) (b_cons (b_for He rfl (b_attr H HC rfl (b_name He rfl) (fun uu uu => rfl)) (b_cons (b_forR H He rfl (gRangeL S) kd_range (b_econs (b_bin (b_meth H (mA_part_count S) k197 ((d197 S).call (by decide)) (b_attr H HC rfl (b_name He rfl) (fun uu uu => rfl)) b_enil (fun uu uu => rfl) (by decide) rfl) b_int) (b_econs b_int (b_econs (b_neg b_int) b_enil rfl) rfl) rfl) (b_cons (b_if (b_tr (b_meth H m_isspace keep_builtin b_isspace (b_name He rfl) b_enil (fun uu uu => rfl) (by decide) rfl) (fun uu => rfl)) (b_cons (b_asg He rfl (b_idx H HC HAL HIL (b_idx H HC HAL HIL (b_attr H HC rfl (b_name He rfl) (fun uu uu => rfl)) (b_name He rfl)) b_int) rfl)
 (b_cons (b_if (b_andT (b_tcons (b_tr (b_name He rfl) (fun uu => rfl)) (b_tcons (b_cmpT (b_idx H HC HAL HIL (b_name He rfl) b_int) (b_name He rfl) rfl) b_tnil))) (b_cons b_brk
 b_nil) b_nil)
 b_nil)) b_nil)
 (b_cons (b_asg He rfl (b_idx H HC HAL HIL (b_idx H HC HAL HIL (b_attr H HC rfl (b_name He rfl) (fun uu uu => rfl)) (b_bin (b_name He rfl) b_int)) b_int) rfl)
 (b_cons (b_if (b_andT (b_tcons (b_tr (b_name He rfl) (fun uu => rfl)) (b_tcons (b_cmpT (b_idx H HC HAL HIL (b_name He rfl) (b_neg b_int)) (b_name He rfl) rfl) b_tnil))) (b_cons b_brk
 b_nil) b_nil)
 b_nil))) (b_cons b_cont
 b_nil))
 (b_cons b_brk
 b_nil)) (b_cons (b_unp He rfl rfl (b_meth H (mA_pop S) k160 ((d160 S).call (by decide)) (b_attr H HC rfl (b_name He rfl) (fun uu uu => rfl)) b_enil (fun uu uu => rfl) (by decide) rfl) rfl rfl)
 (b_cons (b_if (b_cmpT (b_attr H HC rfl (b_attr H HC rfl (b_name He rfl) (fun uu uu => rfl)) (fun uu uu => rfl)) b_int rfl) (b_cons (b_expr He (b_meth H (mFnewline S) k78 ((d78 S).call (by decide)) (b_name He rfl) b_enil (fun uu uu => rfl) (by decide) rfl) rfl)
 (b_cons (b_if (b_notT (b_tr (b_name He rfl) (fun uu => rfl))) (b_cons (b_asg He rfl (b_str (by decide +kernel)) rfl)
 b_nil) b_nil)
 b_nil)) b_nil)
 (b_cons (b_expr He (b_meth H (mA_push S) k144 ((d144 S).call (by decide)) (b_attr H HC rfl (b_name He rfl) (fun uu uu => rfl)) (b_econs (b_name He rfl) (b_econs (b_name He rfl) b_enil rfl) rfl) (fun uu uu => rfl) (by decide) rfl) rfl)
 (b_cons b_retN
 b_nil)))) (fun uu => rfl))
 (b_cons (b_asg He rfl (b_meth H (mA_pop_from S) k152 ((d152 S).call (by decide)) (b_attr H HC rfl (b_name He rfl) (fun uu uu => rfl)) (b_econs (b_name He rfl) b_enil rfl) (fun uu uu => rfl) (by decide) rfl) rfl)
 (b_cons (b_expr He (b_meth H m_append keep_builtin (b_append H HC) (b_attr H HC rfl (b_name He rfl) (fun uu uu => rfl)) (b_econs (b_call H He (gStrL S) kd_str keep_type (dStrL S (by decide)) (b_econs (b_attr H HC rfl (b_name He rfl) (fun uu uu => rfl)) b_enil rfl) (by decide +kernel)) b_enil rfl) (fun uu uu => rfl) (by decide) rfl) rfl)
 (b_cons (b_expr He (b_meth H (mA_reset S) k182 ((d182 S).call (by decide)) (b_attr H HC rfl (b_name He rfl) (fun uu uu => rfl)) (b_econs (b_name He rfl) b_enil rfl) (fun uu uu => rfl) (by decide) rfl) rfl)
 b_nil)))) b_nil)
 b_nil))
set_option tactic.hygienic false in
theorem f106 : FnIn (cfgL w s₁) 106 ["self", "fws", "string", "splitchars", "parts", "part"] 4 := ⟨by kernel_rfl, by kernel_rfl, by kernel_rfl, by kernel_rfl, by kernel_rfl⟩
set_option tactic.hygienic false in
theorem d106 (S : Start (hd.heap_39 w.params) s₁ mg mb) : BF (cfgL w s₁) 25 106 splitF := by
  have H := HL (w := w) S; have HC := HCL (w := w) (s₁ := s₁)
  refine b_fn H f106 (by decide +kernel) (vec4 fun a b c d => by kernel_rfl) fun L He => ?_
  have kd__twin_re_1 : (envAt (cfgL w s₁) 106 L).kindOf "_twin_re_1" = some .globalImplicit := by kernel_rfl
  have kd_iter : (envAt (cfgL w s₁) 106 L).kindOf "iter" = some .globalImplicit := by kernel_rfl
  have kd_zip : (envAt (cfgL w s₁) 106 L).kindOf "zip" = some .globalImplicit := by kernel_rfl
  exact (b_cons (b_asg He rfl (b_reSplit H He reL reDictL (gReL S) kd__twin_re_1 (b_bin (b_name He rfl) (b_name He rfl)) (by decide +kernel) rfl rfl) rfl)
 (b_cons (b_if (b_tr (b_idx H HC HAL HIL (b_name He rfl) b_int) (fun uu => rfl)) (b_cons (b_setSl H HC HAL HIL (b_lst (b_econs (b_str (by decide +kernel)) b_enil rfl)) (b_name He rfl) b_oN (b_oS b_int) rfl)
 b_nil) (b_cons (b_expr He (b_meth H m_popAt keep_builtin b_popAt (b_name He rfl) (b_econs b_int b_enil rfl) (fun uu uu => rfl) (by decide) rfl) rfl)
 b_nil))
 (b_cons (b_zip H He rfl rfl (gZipL S) kd_zip (gIterL S) kd_iter (b_name He rfl) (b_cons (b_expr He (b_meth H (mF_append_chunk S) k113 ((d113 S).call (by decide)) (b_name He rfl) (b_econs (b_name He rfl) (b_econs (b_name He rfl) b_enil rfl) rfl) (fun uu uu => rfl) (by decide) rfl) rfl)
 b_nil) b_nil rfl)
 b_nil)))
set_option tactic.hygienic false in
theorem f85 : FnIn (cfgL w s₁) 85 ["self"] 1 := ⟨by kernel_rfl, by kernel_rfl, by kernel_rfl, by kernel_rfl, by kernel_rfl⟩
set_option tactic.hygienic false in
theorem d85 (S : Start (hd.heap_39 w.params) s₁ mg mb) : BF (cfgL w s₁) 20 85 transF := by
  have H := HL (w := w) S; have HC := HCL (w := w) (s₁ := s₁)
  refine b_fn H f85 (by decide +kernel) (vec1 fun a => by kernel_rfl) fun L He => ?_
  exact (b_cons (b_expr He (b_meth H (mA_push S) k144 ((d144 S).call (by decide)) (b_attr H HC rfl (b_name He rfl) (fun uu uu => rfl)) (b_econs (b_str (by decide +kernel)) (b_econs (b_str (by decide +kernel)) b_enil rfl) rfl) (fun uu uu => rfl) (by decide) rfl) rfl)
 b_nil)
set_option tactic.hygienic false in
theorem dStrAnyL (S : Start (hd.heap_39 w.params) s₁ mg mb) {d : Nat} (h : 24 ≤ d) : BC (cfgL w s₁) d (.type "str") (strF accStrF fmtStrF) := b_strC (d' := 22) (HL (w := w) S) HSpL ((d174 S).call (by decide)) ((d71 S).call (by decide)) h
end
end Mine.Internal
end
section
open PySem PySem.W PyProof.Rows PySem.Calls
namespace Mine.Internal
section
variable {w : World} {s₁ : Shared} {mg mb : Str → Option Value}
set_option tactic.hygienic false in
theorem f209 : FnCP (cfgL w s₁) 209 ["text"] ["cuts", "pieces", "k", "piece", "blanks"] ["text"] [none, none, none, none, none] [some 0] := ⟨by kernel_rfl, by kernel_rfl, by kernel_rfl, by kernel_rfl, by kernel_rfl, by kernel_rfl, fun L => (upTo 0 (upTo0) ⟨"text", rfl, by kernel_rfl⟩), (vec1 fun a => by kernel_rfl), by decide, ⟨rfl, (upTo 4 (upTo 3 (upTo 2 (upTo 1 (upTo 0 (upTo0) (fun k e => nomatch e)) (fun k e => nomatch e)) (fun k e => nomatch e)) (fun k e => nomatch e)) (fun k e => nomatch e))⟩, ⟨rfl, (upTo 0 (upTo0) (fun o e => by cases e; exact ⟨"text", rfl, rfl⟩))⟩, by decide +kernel⟩
set_option tactic.hygienic false in
theorem d209 (S : Start (hd.heap_39 w.params) s₁ mg mb) : BF (cfgL w s₁) 31 209 p_law_piecesF := by
  have H := HL (w := w) S; have HC := HCL (w := w) (s₁ := s₁)
  refine b_fnCP H f209 (by decide +kernel) fun L g He => ?_
  have kc_text : (envC (cfgL w s₁) 209 L).kindOf "text" = some .cell := by kernel_rfl
  have kd_len : (envC (cfgL w s₁) 209 L).kindOf "len" = some .globalImplicit := by kernel_rfl
  have kd_range : (envC (cfgL w s₁) 209 L).kindOf "range" = some .globalImplicit := by kernel_rfl
  exact (b_cons (b_asgG H HC He rfl (by kernel_rfl) (xs := ["k"]) (cl := [("text", L + 1 + 0)]) (by kernel_rfl) (by decide +kernel) (b_srcR H He (gRangeL S) kd_range (b_econs (b_call H He (gLenL S) kd_len keep_builtin (dLenL S (by decide)) (b_econs (b_cell He kc_text rfl (by decide +kernel)) b_enil rfl) (by decide +kernel)) b_enil rfl)) (fun cenv hs hc He => ⟨(b_tgN He rfl), (b_ifs1 (b_orT (b_tcons (b_cmpT (b_name He rfl) b_int rfl) (b_tcons (b_andT (b_tcons (b_cmpT (b_idx H HC HAL HIL (b_cell He (kind_in hs (by kernel_rfl)) (cell_in hc rfl) (by decide +kernel)) (b_name He rfl)) (b_str (by decide +kernel)) rfl) (b_tcons (b_cmpT (b_idx H HC HAL HIL (b_cell He (kind_in hs (by kernel_rfl)) (cell_in hc rfl) (by decide +kernel)) (b_bin (b_name He rfl) b_int)) (b_str (by decide +kernel)) rfl) b_tnil))) b_tnil)))), (b_name He rfl)⟩))
 (b_cons (b_expr He (b_meth H m_append keep_builtin (b_append H HC) (b_name He rfl) (b_econs (b_call H He (gLenL S) kd_len keep_builtin (dLenL S (by decide)) (b_econs (b_cell He kc_text rfl (by decide +kernel)) b_enil rfl) (by decide +kernel)) b_enil rfl) (fun uu uu => rfl) (by decide) rfl) rfl)
 (b_cons (b_asg He rfl (b_newL b_enil) rfl)
 (b_cons (b_forR H He rfl (gRangeL S) kd_range (b_econs (b_bin (b_call H He (gLenL S) kd_len keep_builtin (dLenL S (by decide)) (b_econs (b_name He rfl) b_enil rfl) (by decide +kernel)) b_int) b_enil rfl) (b_cons (b_asg He rfl (b_slStr (b_cell He kc_text rfl (by decide +kernel)) (b_oS (b_idx H HC HAL HIL (b_name He rfl) (b_name He rfl))) (b_oS (b_idx H HC HAL HIL (b_name He rfl) (b_bin (b_name He rfl) b_int)))) rfl)
 (b_cons (b_asg He rfl (b_bin (b_meth H m_count keep_builtin b_count (b_name He rfl) (b_econs (b_str (by decide +kernel)) b_enil rfl) (fun uu uu => rfl) (by decide) rfl) (b_meth H m_count keep_builtin b_count (b_name He rfl) (b_econs (b_str (by decide +kernel)) b_enil rfl) (fun uu uu => rfl) (by decide) rfl)) rfl)
 (b_cons (b_expr He (b_meth H m_append keep_builtin (b_append H HC) (b_name He rfl) (b_econs (b_tup (b_econs (b_slStr (b_name He rfl) b_oN (b_oS (b_name He rfl))) (b_econs (b_slStr (b_name He rfl) (b_oS (b_name He rfl)) b_oN) b_enil rfl) rfl)) b_enil rfl) (fun uu uu => rfl) (by decide) rfl) rfl)
 b_nil))) b_nil)
 (b_cons (b_ret (b_name He rfl))
 b_nil)))))
set_option tactic.hygienic false in
theorem f216 : FnIn (cfgL w s₁) 216 ["script", "signs", "texts", "x"] 1 := ⟨by kernel_rfl, by kernel_rfl, by kernel_rfl, by kernel_rfl, by kernel_rfl⟩
set_option tactic.hygienic false in
theorem d216 (S : Start (hd.heap_39 w.params) s₁ mg mb) : BF (cfgL w s₁) 33 216 p_law_textsF := by
  have H := HL (w := w) S; have HC := HCL (w := w) (s₁ := s₁)
  refine b_fn H f216 (by decide +kernel) (vec1 fun a => by kernel_rfl) fun L He => ?_
  exact (b_cons (b_asg He rfl (b_str (by decide +kernel)) rfl)
 (b_cons (b_asg He rfl (b_newL (b_econs (b_newL (b_econs b_int (b_econs (b_str (by decide +kernel)) b_enil rfl) rfl)) b_enil rfl)) rfl)
 (b_cons (b_for He rfl (b_name He rfl) (b_cons (b_if (b_cmpT (b_bin (b_name He rfl) b_int) b_int rfl) (b_cons (b_augIdx H HC HAL HIL (b_idx H HC HAL HIL (b_name He rfl) (b_neg b_int)) b_int (b_idx H HC HAL HIL (b_name He rfl) (b_bin (b_name He rfl) b_int)) (fun uu uu uu => rfl))
 b_nil) (b_cons (b_expr He (b_meth H m_append keep_builtin (b_append H HC) (b_name He rfl) (b_econs (b_newL (b_econs (b_bin (b_bin (b_name He rfl) b_int) b_int) (b_econs (b_str (by decide +kernel)) b_enil rfl) rfl)) b_enil rfl) (fun uu uu => rfl) (by decide) rfl) rfl)
 b_nil))
 b_nil) b_nil (fun uu => rfl))
 (b_cons (b_ret (b_name He rfl))
 b_nil))))
set_option tactic.hygienic false in
theorem f221 : FnIn (cfgL w s₁) 221 ["script", "total", "texts", "written", "due", "moved", "text", "first", "name", "room", "width", "signs", "made", "line"] 1 := ⟨by kernel_rfl, by kernel_rfl, by kernel_rfl, by kernel_rfl, by kernel_rfl⟩
set_option tactic.hygienic false in
theorem d221 (S : Start (hd.heap_39 w.params) s₁ mg mb) : BF (cfgL w s₁) 35 221 lawF := by
  have H := HL (w := w) S; have HC := HCL (w := w) (s₁ := s₁)
  refine b_fn H f221 (by decide +kernel) (vec1 fun a => by kernel_rfl) fun L He => ?_
  have kd__ValueFormatter : (envAt (cfgL w s₁) 221 L).kindOf "_ValueFormatter" = some .globalImplicit := by kernel_rfl
  have kd__law_pieces : (envAt (cfgL w s₁) 221 L).kindOf "_law_pieces" = some .globalImplicit := by kernel_rfl
  have kd__law_texts : (envAt (cfgL w s₁) 221 L).kindOf "_law_texts" = some .globalImplicit := by kernel_rfl
  have kd_len : (envAt (cfgL w s₁) 221 L).kindOf "len" = some .globalImplicit := by kernel_rfl
  have kd_str : (envAt (cfgL w s₁) 221 L).kindOf "str" = some .globalImplicit := by kernel_rfl
  have kd_sum : (envAt (cfgL w s₁) 221 L).kindOf "sum" = some .globalImplicit := by kernel_rfl
  exact (b_cons (b_asg He rfl (b_slice H HC HAL HIL (b_name He rfl) b_oN (b_oS b_int)) rfl)
 (b_cons (b_asg He rfl (b_call H He (gSumL S) kd_sum keep_builtin b_sum (b_econs (b_name He rfl) b_enil rfl) (by decide +kernel)) rfl)
 (b_cons (b_asg He rfl (b_call H He (g_law_texts S) kd__law_texts k216 ((d216 S).call (by decide)) (b_econs (b_name He rfl) b_enil rfl) (by decide +kernel)) rfl)
 (b_cons (b_asg He rfl (b_meth H m_join keep_builtin b_join (b_str (by decide +kernel)) (b_econs (b_compG H HC He (xs := ["moved", "text"]) (cl := []) (by kernel_rfl) (by decide +kernel) (b_srcL (b_name He rfl) (fun uu => rfl)) (fun cenv hs hc He => ⟨(b_tgU He (.cons (.cons .nil)) (is := [0, 1]) rfl), b_ifs0, (b_bin (b_bin (b_str (by decide +kernel)) (b_name He rfl)) (b_name He rfl))⟩)) b_enil rfl) (fun uu uu => rfl) (by decide) rfl) rfl)
 (b_cons (b_asg He rfl (b_newL b_enil) rfl)
 (b_cons (b_forG (b_srcL (b_name He rfl) (fun uu => rfl)) (b_tgU He (.cons (.cons .nil)) (is := [5, 6]) rfl) (b_cons (b_expr He (b_meth H m_extend keep_builtin b_extend (b_name He rfl) (b_econs (b_mulL (b_lst (b_econs (b_tup (b_econs (b_str (by decide +kernel)) (b_econs (b_str (by decide +kernel)) b_enil rfl) rfl)) b_enil rfl)) (b_name He rfl)) b_enil rfl) (fun uu uu => rfl) (by decide) rfl) rfl)
 (b_cons (b_expr He (b_meth H m_extend keep_builtin b_extend (b_name He rfl) (b_econs (b_call H He (g_law_pieces S) kd__law_pieces k209 ((d209 S).call (by decide)) (b_econs (b_name He rfl) b_enil rfl) (by decide +kernel)) b_enil rfl) (fun uu uu => rfl) (by decide) rfl) rfl)
 b_nil)) b_nil)
 (b_cons (b_asg He rfl (b_bin (b_bin (b_name He rfl) b_int) b_int) rfl)
 (b_cons (b_asg He rfl (b_bin (b_name He rfl) b_int) rfl)
 (b_cons (b_forG (b_srcL (b_lst (b_econs (b_tup (b_econs (b_name He rfl) (b_econs (b_bin (b_name He rfl) (b_call H He (gLenL S) kd_len keep_builtin (dLenL S (by decide)) (b_econs (b_name He rfl) b_enil rfl) (by decide +kernel))) (b_econs (b_str (by decide +kernel)) b_enil rfl) rfl) rfl)) (b_econs (b_tup (b_econs b_int (b_econs (b_bin (b_name He rfl) b_int) (b_econs (b_str (by decide +kernel)) b_enil rfl) rfl) rfl)) b_enil rfl) rfl)) (fun uu => rfl)) (b_tgU He (.cons (.cons (.cons .nil))) (is := [9, 10, 11]) rfl) (b_cons (b_asg He rfl (b_call H He (g_ValueFormatter S) kd__ValueFormatter k116 ((dFmtL S).up (by decide)) (b_econs (b_name He rfl) (b_econs (b_name He rfl) (b_econs (b_str (by decide +kernel)) (b_econs (b_name He rfl) b_enil rfl) rfl) rfl) rfl) (by decide +kernel)) rfl)
 (b_cons (b_forG (b_srcL (b_name He rfl) (fun uu => rfl)) (b_tgU He (.cons (.cons .nil)) (is := [5, 6]) rfl) (b_cons (b_if (b_cmpT (b_name He rfl) b_int rfl) (b_cons (b_expr He (b_meth H (mFadd_transition S) k85 ((d85 S).call (by decide)) (b_name He rfl) b_enil (fun uu uu => rfl) (by decide) rfl) rfl)
 b_nil) b_nil)
 (b_cons (b_expr He (b_meth H (mF_ascii_split S) k106 ((d106 S).call (by decide)) (b_name He rfl) (b_econs (b_slStr (b_name He rfl) b_oN (b_oS (b_name He rfl))) (b_econs (b_slStr (b_name He rfl) (b_oS (b_name He rfl)) b_oN) (b_econs (b_str (by decide +kernel)) b_enil rfl) rfl) rfl) (fun uu uu => rfl) (by decide) rfl) rfl)
 b_nil)) b_nil)
 (b_cons (b_asg He rfl (b_attr H HC rfl (b_name He rfl) (fun uu uu => rfl)) rfl)
 (b_cons (b_if (b_orT (b_tcons (b_cmpT (b_attr H HC rfl (b_name He rfl) (fun uu uu => rfl)) (b_lst b_enil) rfl) (b_tcons (b_cmpT (b_compG H HC He (xs := ["piece"]) (cl := []) (by kernel_rfl) (by decide +kernel) (b_srcA H HC HAL (b_name He rfl) (fun uu => rfl)) (fun cenv hs hc He => ⟨(b_tgN He rfl), b_ifs0, (b_name He rfl)⟩)) (b_name He rfl) rfl) b_tnil))) (b_cons (b_ret b_bool)
 b_nil) b_nil)
 (b_cons (b_if (b_orT (b_tcons (b_cmpT (b_call H He (gStrL S) kd_str keep_type (dStrAnyL S (by decide)) (b_econs (b_name He rfl) b_enil rfl) (by decide +kernel)) (b_name He rfl) rfl) (b_tcons (b_cmpT (b_call H He (gLenL S) kd_len keep_builtin (dLenL S (by decide)) (b_econs (b_name He rfl) b_enil rfl) (by decide +kernel)) (b_bin (b_name He rfl) (b_call H He (gLenL S) kd_len keep_builtin (dLenL S (by decide)) (b_econs (b_name He rfl) b_enil rfl) (by decide +kernel))) rfl) b_tnil))) (b_cons (b_ret b_bool)
 b_nil) b_nil)
 b_nil))))) b_nil)
 (b_cons (b_ret b_bool)
 b_nil))))))))))
end
end Mine.Internal
end
section
open PySem PySem.W PyProof.Rows PySem.Calls
theorem PySem.Challenge.cw_dm0091_04_holds : PySem.Challenge.rw_dm0091_04.Holds := by
  refine Mine.Internal.hd ?_
  k_fill
  intro w s₀ s₁ mg mb G Y fa o pm cd doc dV kV ho hdd hcd hD hmg hg args vals as hpre hlay hrd hwl hlo
  have KX := kIn_of Y
  refine Ground.open G ?_
  intro T B D TE TW
  wrow_args hpre hlay hrd hwl hlo
  x_fa T KX hmg
  clear hdd hcd hD hmg ho
  rename_i ns hs hl0 hL1 hr1 hl2 as1 as2 l vs as3 hL ra wl r0 hI hr hc hc2
  have S : Mine.Internal.Start (Mine.Internal.hd.heap_39 w.params) s₁ mg mb := by
    refine ⟨KX, T.g, T.b, T.nolimit, ?_, hg⟩
    obtain ⟨bm, ob, a, b, c, d, e, f⟩ := T.bmain
    exact ⟨bm, ob, T.g, a, b, c, d, e, f⟩
  obtain ⟨σ', e⟩ := Mine.Internal.plainL ns (by omega)
  have R : Mine.Internal.Rel (Mine.Internal.cfgL w s₁) [] [] s₁ := Mine.Internal.start_rel S Mine.Internal.htL
  obtain ⟨ol, hol, hcl, _⟩ := id hL
  have nt : ¬ (Mine.Internal.cfgL w s₁).isTab l := Mine.Internal.notTab_of S Mine.Internal.htL hol (by rw [hcl]; simp)
  refine Mine.Internal.run_law (C := Mine.Internal.cfgL w s₁) (Mine.Internal.d221 S) R ⟨rfl, by decide +kernel, by decide +kernel⟩ (Mine.Internal.vr_ints wl hL hI nt) e fun s' ρ' R' => ?_
  exact Mine.Internal.good_end (fun uu => rfl) (by first | rfl | wrow_post) (Mine.Internal.end_old S Mine.Internal.htL R') R'.os R'.gens.bare
end
