import PyProof.Rows.All
import Wide.All
import OpenK.AllK
import Wide.FinOn
import KE.KUnpack
import KE.KLam
import KE.KWhile
import PySem.Challenge.RW_dm0091_01
set_option Elab.async false
set_option maxRecDepth 100000
set_option maxHeartbeats 8000000
set_option linter.all false
set_option genSizeOf false
set_option genInjectivity false
set_option bootstrap.genMatcherCode false
namespace Mine.Internal
theorem x3_7 {A1 A2 A3 : Type} {P1 P2 P3 P4 P5 P6 P7 : A1 → A2 → A3 → Prop} {q : Prop} (h : ∃ a1 a2 a3, P1 a1 a2 a3 ∧ P2 a1 a2 a3 ∧ P3 a1 a2 a3 ∧ P4 a1 a2 a3 ∧ P5 a1 a2 a3 ∧ P6 a1 a2 a3 ∧ P7 a1 a2 a3) (k : ∀ a1 a2 a3, P1 a1 a2 a3 → P2 a1 a2 a3 → P3 a1 a2 a3 → P4 a1 a2 a3 → P5 a1 a2 a3 → P6 a1 a2 a3 → P7 a1 a2 a3 → q) : q := h.elim fun a1 y1 => y1.elim fun a2 y2 => y2.elim fun a3 y3 => k a1 a2 a3 y3.1 y3.2.1 y3.2.2.1 y3.2.2.2.1 y3.2.2.2.2.1 y3.2.2.2.2.2.1 y3.2.2.2.2.2.2
theorem x5_2 {A1 A2 A3 A4 A5 : Type} {P1 P2 : A1 → A2 → A3 → A4 → A5 → Prop} {q : Prop} (h : ∃ a1 a2 a3 a4 a5, P1 a1 a2 a3 a4 a5 ∧ P2 a1 a2 a3 a4 a5) (k : ∀ a1 a2 a3 a4 a5, P1 a1 a2 a3 a4 a5 → P2 a1 a2 a3 a4 a5 → q) : q := h.elim fun a1 y1 => y1.elim fun a2 y2 => y2.elim fun a3 y3 => y3.elim fun a4 y4 => y4.elim fun a5 y5 => k a1 a2 a3 a4 a5 y5.1 y5.2
theorem x10_11 {A1 A2 A3 A4 A5 A6 A7 A8 A9 A10 : Type} {P1 P2 P3 P4 P5 P6 P7 P8 P9 P10 P11 : A1 → A2 → A3 → A4 → A5 → A6 → A7 → A8 → A9 → A10 → Prop} {q : Prop} (h : ∃ a1 a2 a3 a4 a5 a6 a7 a8 a9 a10, P1 a1 a2 a3 a4 a5 a6 a7 a8 a9 a10 ∧ P2 a1 a2 a3 a4 a5 a6 a7 a8 a9 a10 ∧ P3 a1 a2 a3 a4 a5 a6 a7 a8 a9 a10 ∧ P4 a1 a2 a3 a4 a5 a6 a7 a8 a9 a10 ∧ P5 a1 a2 a3 a4 a5 a6 a7 a8 a9 a10 ∧ P6 a1 a2 a3 a4 a5 a6 a7 a8 a9 a10 ∧ P7 a1 a2 a3 a4 a5 a6 a7 a8 a9 a10 ∧ P8 a1 a2 a3 a4 a5 a6 a7 a8 a9 a10 ∧ P9 a1 a2 a3 a4 a5 a6 a7 a8 a9 a10 ∧ P10 a1 a2 a3 a4 a5 a6 a7 a8 a9 a10 ∧ P11 a1 a2 a3 a4 a5 a6 a7 a8 a9 a10) (k : ∀ a1 a2 a3 a4 a5 a6 a7 a8 a9 a10, P1 a1 a2 a3 a4 a5 a6 a7 a8 a9 a10 → P2 a1 a2 a3 a4 a5 a6 a7 a8 a9 a10 → P3 a1 a2 a3 a4 a5 a6 a7 a8 a9 a10 → P4 a1 a2 a3 a4 a5 a6 a7 a8 a9 a10 → P5 a1 a2 a3 a4 a5 a6 a7 a8 a9 a10 → P6 a1 a2 a3 a4 a5 a6 a7 a8 a9 a10 → P7 a1 a2 a3 a4 a5 a6 a7 a8 a9 a10 → P8 a1 a2 a3 a4 a5 a6 a7 a8 a9 a10 → P9 a1 a2 a3 a4 a5 a6 a7 a8 a9 a10 → P10 a1 a2 a3 a4 a5 a6 a7 a8 a9 a10 → P11 a1 a2 a3 a4 a5 a6 a7 a8 a9 a10 → q) : q := h.elim fun a1 y1 => y1.elim fun a2 y2 => y2.elim fun a3 y3 => y3.elim fun a4 y4 => y4.elim fun a5 y5 => y5.elim fun a6 y6 => y6.elim fun a7 y7 => y7.elim fun a8 y8 => y8.elim fun a9 y9 => y9.elim fun a10 y10 => k a1 a2 a3 a4 a5 a6 a7 a8 a9 a10 y10.1 y10.2.1 y10.2.2.1 y10.2.2.2.1 y10.2.2.2.2.1 y10.2.2.2.2.2.1 y10.2.2.2.2.2.2.1 y10.2.2.2.2.2.2.2.1 y10.2.2.2.2.2.2.2.2.1 y10.2.2.2.2.2.2.2.2.2.1 y10.2.2.2.2.2.2.2.2.2.2
end Mine.Internal
section
open PySem PySem.W PyProof.Rows PySem.Calls
namespace Mine.Internal
set_option tactic.hygienic false
theorem ns {α:Type} {r:α} {P:Prop} (h:none=some r):P:=nomatch h
theorem c3 {α β γ:Type} {a x:α} {b y:β} {c z:γ} {P:Prop} (h:some (a,b,c)=some (x,y,z)) (k:a=x→y=b→z=c→P):P:=k (congrArg (·.1) (Option.some.inj h)) (congrArg (·.2.1) (Option.some.inj h)).symm (congrArg (·.2.2) (Option.some.inj h)).symm
theorem c2 {α β:Type} {a x:α} {b y:β} {P:Prop} (h:some (a,b)=some (x,y)) (k:a=x→y=b→P):P:=k (congrArg (·.1) (Option.some.inj h)) (congrArg (·.2) (Option.some.inj h)).symm
theorem p3 {α β γ:Type} {a x:α} {b y:β} {c z:γ} {P:Prop} (h:(a,b,c)=(x,y,z)) (k:a=x→y=b→z=c→P):P:=k (congrArg (·.1) h) (congrArg (·.2.1) h).symm (congrArg (·.2.2) h).symm
theorem p2 {α β:Type} {a x:α} {b y:β} {P:Prop} (h:(a,b)=(x,y)) (k:a=x→y=b→P):P:=k (congrArg (·.1) h) (congrArg (·.2) h).symm
theorem c1 {α:Type} {a x:α} {P:Prop} (h:some a=some x) (k:a=x→P):P:=k (Option.some.inj h)
theorem x0_2 {P1 P2:Prop} {q:Prop} (h:P1∧P2) (k:P1→P2→q):q:=k h.1 h.2
theorem x0_3 {P1 P2 P3:Prop} {q:Prop} (h:P1∧P2∧P3) (k:P1→P2→P3→q):q:=k h.1 h.2.1 h.2.2
theorem x0_4 {P1 P2 P3 P4:Prop} {q:Prop} (h:P1∧P2∧P3∧P4) (k:P1→P2→P3→P4→q):q:=k h.1 h.2.1 h.2.2.1 h.2.2.2
theorem x0_5 {P1 P2 P3 P4 P5:Prop} {q:Prop} (h:P1∧P2∧P3∧P4∧P5) (k:P1→P2→P3→P4→P5→q):q:=k h.1 h.2.1 h.2.2.1 h.2.2.2.1 h.2.2.2.2
theorem x1_1 {A1:Type} {P1:A1→Prop} {q:Prop} (h:∃ a1,P1 a1) (k:∀ a1,P1 a1→q):q:=h.elim fun a1 y1=>k a1 y1
theorem x1_2 {A1:Type} {P1 P2:A1→Prop} {q:Prop} (h:∃ a1,P1 a1∧P2 a1) (k:∀ a1,P1 a1→P2 a1→q):q:=h.elim fun a1 y1=>k a1 y1.1 y1.2
theorem x1_3 {A1:Type} {P1 P2 P3:A1→Prop} {q:Prop} (h:∃ a1,P1 a1∧P2 a1∧P3 a1) (k:∀ a1,P1 a1→P2 a1→P3 a1→q):q:=h.elim fun a1 y1=>k a1 y1.1 y1.2.1 y1.2.2
theorem x1_4 {A1:Type} {P1 P2 P3 P4:A1→Prop} {q:Prop} (h:∃ a1,P1 a1∧P2 a1∧P3 a1∧P4 a1) (k:∀ a1,P1 a1→P2 a1→P3 a1→P4 a1→q):q:=h.elim fun a1 y1=>k a1 y1.1 y1.2.1 y1.2.2.1 y1.2.2.2
theorem x1_7 {A1:Type} {P1 P2 P3 P4 P5 P6 P7:A1→Prop} {q:Prop} (h:∃ a1,P1 a1∧P2 a1∧P3 a1∧P4 a1∧P5 a1∧P6 a1∧P7 a1) (k:∀ a1,P1 a1→P2 a1→P3 a1→P4 a1→P5 a1→P6 a1→P7 a1→q):q:=h.elim fun a1 y1=>k a1 y1.1 y1.2.1 y1.2.2.1 y1.2.2.2.1 y1.2.2.2.2.1 y1.2.2.2.2.2.1 y1.2.2.2.2.2.2
theorem x2_1 {A1 A2:Type} {P1:A1→A2→Prop} {q:Prop} (h:∃ a1 a2,P1 a1 a2) (k:∀ a1 a2,P1 a1 a2→q):q:=h.elim fun a1 y1=>y1.elim fun a2 y2=>k a1 a2 y2
theorem x2_2 {A1 A2:Type} {P1 P2:A1→A2→Prop} {q:Prop} (h:∃ a1 a2,P1 a1 a2∧P2 a1 a2) (k:∀ a1 a2,P1 a1 a2→P2 a1 a2→q):q:=h.elim fun a1 y1=>y1.elim fun a2 y2=>k a1 a2 y2.1 y2.2
theorem x2_3 {A1 A2:Type} {P1 P2 P3:A1→A2→Prop} {q:Prop} (h:∃ a1 a2,P1 a1 a2∧P2 a1 a2∧P3 a1 a2) (k:∀ a1 a2,P1 a1 a2→P2 a1 a2→P3 a1 a2→q):q:=h.elim fun a1 y1=>y1.elim fun a2 y2=>k a1 a2 y2.1 y2.2.1 y2.2.2
theorem x2_4 {A1 A2:Type} {P1 P2 P3 P4:A1→A2→Prop} {q:Prop} (h:∃ a1 a2,P1 a1 a2∧P2 a1 a2∧P3 a1 a2∧P4 a1 a2) (k:∀ a1 a2,P1 a1 a2→P2 a1 a2→P3 a1 a2→P4 a1 a2→q):q:=h.elim fun a1 y1=>y1.elim fun a2 y2=>k a1 a2 y2.1 y2.2.1 y2.2.2.1 y2.2.2.2
theorem x2_5 {A1 A2:Type} {P1 P2 P3 P4 P5:A1→A2→Prop} {q:Prop} (h:∃ a1 a2,P1 a1 a2∧P2 a1 a2∧P3 a1 a2∧P4 a1 a2∧P5 a1 a2) (k:∀ a1 a2,P1 a1 a2→P2 a1 a2→P3 a1 a2→P4 a1 a2→P5 a1 a2→q):q:=h.elim fun a1 y1=>y1.elim fun a2 y2=>k a1 a2 y2.1 y2.2.1 y2.2.2.1 y2.2.2.2.1 y2.2.2.2.2
theorem x3_1 {A1 A2 A3:Type} {P1:A1→A2→A3→Prop} {q:Prop} (h:∃ a1 a2 a3,P1 a1 a2 a3) (k:∀ a1 a2 a3,P1 a1 a2 a3→q):q:=h.elim fun a1 y1=>y1.elim fun a2 y2=>y2.elim fun a3 y3=>k a1 a2 a3 y3
theorem x3_2 {A1 A2 A3:Type} {P1 P2:A1→A2→A3→Prop} {q:Prop} (h:∃ a1 a2 a3,P1 a1 a2 a3∧P2 a1 a2 a3) (k:∀ a1 a2 a3,P1 a1 a2 a3→P2 a1 a2 a3→q):q:=h.elim fun a1 y1=>y1.elim fun a2 y2=>y2.elim fun a3 y3=>k a1 a2 a3 y3.1 y3.2
theorem x3_3 {A1 A2 A3:Type} {P1 P2 P3:A1→A2→A3→Prop} {q:Prop} (h:∃ a1 a2 a3,P1 a1 a2 a3∧P2 a1 a2 a3∧P3 a1 a2 a3) (k:∀ a1 a2 a3,P1 a1 a2 a3→P2 a1 a2 a3→P3 a1 a2 a3→q):q:=h.elim fun a1 y1=>y1.elim fun a2 y2=>y2.elim fun a3 y3=>k a1 a2 a3 y3.1 y3.2.1 y3.2.2
theorem x3_4 {A1 A2 A3:Type} {P1 P2 P3 P4:A1→A2→A3→Prop} {q:Prop} (h:∃ a1 a2 a3,P1 a1 a2 a3∧P2 a1 a2 a3∧P3 a1 a2 a3∧P4 a1 a2 a3) (k:∀ a1 a2 a3,P1 a1 a2 a3→P2 a1 a2 a3→P3 a1 a2 a3→P4 a1 a2 a3→q):q:=h.elim fun a1 y1=>y1.elim fun a2 y2=>y2.elim fun a3 y3=>k a1 a2 a3 y3.1 y3.2.1 y3.2.2.1 y3.2.2.2
theorem x3_5 {A1 A2 A3:Type} {P1 P2 P3 P4 P5:A1→A2→A3→Prop} {q:Prop} (h:∃ a1 a2 a3,P1 a1 a2 a3∧P2 a1 a2 a3∧P3 a1 a2 a3∧P4 a1 a2 a3∧P5 a1 a2 a3) (k:∀ a1 a2 a3,P1 a1 a2 a3→P2 a1 a2 a3→P3 a1 a2 a3→P4 a1 a2 a3→P5 a1 a2 a3→q):q:=h.elim fun a1 y1=>y1.elim fun a2 y2=>y2.elim fun a3 y3=>k a1 a2 a3 y3.1 y3.2.1 y3.2.2.1 y3.2.2.2.1 y3.2.2.2.2
theorem x4_3 {A1 A2 A3 A4:Type} {P1 P2 P3:A1→A2→A3→A4→Prop} {q:Prop} (h:∃ a1 a2 a3 a4,P1 a1 a2 a3 a4∧P2 a1 a2 a3 a4∧P3 a1 a2 a3 a4) (k:∀ a1 a2 a3 a4,P1 a1 a2 a3 a4→P2 a1 a2 a3 a4→P3 a1 a2 a3 a4→q):q:=h.elim fun a1 y1=>y1.elim fun a2 y2=>y2.elim fun a3 y3=>y3.elim fun a4 y4=>k a1 a2 a3 a4 y4.1 y4.2.1 y4.2.2
theorem x4_4 {A1 A2 A3 A4:Type} {P1 P2 P3 P4:A1→A2→A3→A4→Prop} {q:Prop} (h:∃ a1 a2 a3 a4,P1 a1 a2 a3 a4∧P2 a1 a2 a3 a4∧P3 a1 a2 a3 a4∧P4 a1 a2 a3 a4) (k:∀ a1 a2 a3 a4,P1 a1 a2 a3 a4→P2 a1 a2 a3 a4→P3 a1 a2 a3 a4→P4 a1 a2 a3 a4→q):q:=h.elim fun a1 y1=>y1.elim fun a2 y2=>y2.elim fun a3 y3=>y3.elim fun a4 y4=>k a1 a2 a3 a4 y4.1 y4.2.1 y4.2.2.1 y4.2.2.2
theorem x4_5 {A1 A2 A3 A4:Type} {P1 P2 P3 P4 P5:A1→A2→A3→A4→Prop} {q:Prop} (h:∃ a1 a2 a3 a4,P1 a1 a2 a3 a4∧P2 a1 a2 a3 a4∧P3 a1 a2 a3 a4∧P4 a1 a2 a3 a4∧P5 a1 a2 a3 a4) (k:∀ a1 a2 a3 a4,P1 a1 a2 a3 a4→P2 a1 a2 a3 a4→P3 a1 a2 a3 a4→P4 a1 a2 a3 a4→P5 a1 a2 a3 a4→q):q:=h.elim fun a1 y1=>y1.elim fun a2 y2=>y2.elim fun a3 y3=>y3.elim fun a4 y4=>k a1 a2 a3 a4 y4.1 y4.2.1 y4.2.2.1 y4.2.2.2.1 y4.2.2.2.2
theorem x5_5 {A1 A2 A3 A4 A5:Type} {P1 P2 P3 P4 P5:A1→A2→A3→A4→A5→Prop} {q:Prop} (h:∃ a1 a2 a3 a4 a5,P1 a1 a2 a3 a4 a5∧P2 a1 a2 a3 a4 a5∧P3 a1 a2 a3 a4 a5∧P4 a1 a2 a3 a4 a5∧P5 a1 a2 a3 a4 a5) (k:∀ a1 a2 a3 a4 a5,P1 a1 a2 a3 a4 a5→P2 a1 a2 a3 a4 a5→P3 a1 a2 a3 a4 a5→P4 a1 a2 a3 a4 a5→P5 a1 a2 a3 a4 a5→q):q:=h.elim fun a1 y1=>y1.elim fun a2 y2=>y2.elim fun a3 y3=>y3.elim fun a4 y4=>y4.elim fun a5 y5=>k a1 a2 a3 a4 a5 y5.1 y5.2.1 y5.2.2.1 y5.2.2.2.1 y5.2.2.2.2
theorem x6_1 {A1 A2 A3 A4 A5 A6:Type} {P1:A1→A2→A3→A4→A5→A6→Prop} {q:Prop} (h:∃ a1 a2 a3 a4 a5 a6,P1 a1 a2 a3 a4 a5 a6) (k:∀ a1 a2 a3 a4 a5 a6,P1 a1 a2 a3 a4 a5 a6→q):q:=h.elim fun a1 y1=>y1.elim fun a2 y2=>y2.elim fun a3 y3=>y3.elim fun a4 y4=>y4.elim fun a5 y5=>y5.elim fun a6 y6=>k a1 a2 a3 a4 a5 a6 y6
theorem x9_8 {A1 A2 A3 A4 A5 A6 A7 A8 A9:Type} {P1 P2 P3 P4 P5 P6 P7 P8:A1→A2→A3→A4→A5→A6→A7→A8→A9→Prop} {q:Prop} (h:∃ a1 a2 a3 a4 a5 a6 a7 a8 a9,P1 a1 a2 a3 a4 a5 a6 a7 a8 a9∧P2 a1 a2 a3 a4 a5 a6 a7 a8 a9∧P3 a1 a2 a3 a4 a5 a6 a7 a8 a9∧P4 a1 a2 a3 a4 a5 a6 a7 a8 a9∧P5 a1 a2 a3 a4 a5 a6 a7 a8 a9∧P6 a1 a2 a3 a4 a5 a6 a7 a8 a9∧P7 a1 a2 a3 a4 a5 a6 a7 a8 a9∧P8 a1 a2 a3 a4 a5 a6 a7 a8 a9) (k:∀ a1 a2 a3 a4 a5 a6 a7 a8 a9,P1 a1 a2 a3 a4 a5 a6 a7 a8 a9→P2 a1 a2 a3 a4 a5 a6 a7 a8 a9→P3 a1 a2 a3 a4 a5 a6 a7 a8 a9→P4 a1 a2 a3 a4 a5 a6 a7 a8 a9→P5 a1 a2 a3 a4 a5 a6 a7 a8 a9→P6 a1 a2 a3 a4 a5 a6 a7 a8 a9→P7 a1 a2 a3 a4 a5 a6 a7 a8 a9→P8 a1 a2 a3 a4 a5 a6 a7 a8 a9→q):q:=h.elim fun a1 y1=>y1.elim fun a2 y2=>y2.elim fun a3 y3=>y3.elim fun a4 y4=>y4.elim fun a5 y5=>y5.elim fun a6 y6=>y6.elim fun a7 y7=>y7.elim fun a8 y8=>y8.elim fun a9 y9=>k a1 a2 a3 a4 a5 a6 a7 a8 a9 y9.1 y9.2.1 y9.2.2.1 y9.2.2.2.1 y9.2.2.2.2.1 y9.2.2.2.2.2.1 y9.2.2.2.2.2.2.1 y9.2.2.2.2.2.2.2
end Mine.Internal
end
section
open PySem PySem.W PyProof.Rows
local macro_rules | `(tactic| k_head) => `(tactic| x_head)
open_top Mine.Internal.hd for PySem.Challenge.rw_dm0091_01
end
section
open PySem PySem.W PyProof.Rows PySem.Calls
namespace Mine.Internal
set_option tactic.hygienic false
theorem upTo {P:Nat→Prop} (n:Nat) (h1:∀ k,k < n→P k) (h2:P n):∀ k,k < n + 1→P k:=fun k hk=>(Nat.lt_or_eq_of_le (Nat.le_of_lt_succ hk)).elim (h1 k) fun e=>e▸h2
theorem upTo0 {P:Nat→Prop}:∀ k,k < 0→P k:=fun k h=>absurd h (Nat.not_lt_zero k)
inductive AV where
  | none
  | bool (b:Bool)
  | int (i:Int)
  | str (s:Str)
  | tup (xs:List AV)
  | lst (xs:List AV)
  | loc (l:Nat)
noncomputable def AV.int?:AV→Option Int
  | .none=>.none
  | .bool _=>.none
  | .int i=>.some i
  | .str _=>.none
  | .tup _=>.none
  | .lst _=>.none
  | .loc _=>.none
noncomputable def AV.str?:AV→Option Str
  | .none=>.none
  | .bool _=>.none
  | .int _=>.none
  | .str i=>.some i
  | .tup _=>.none
  | .lst _=>.none
  | .loc _=>.none
noncomputable def AV.tup?:AV→Option (List AV)
  | .none=>.none
  | .bool _=>.none
  | .int _=>.none
  | .str _=>.none
  | .tup i=>.some i
  | .lst _=>.none
  | .loc _=>.none
noncomputable def AV.lst?:AV→Option (List AV)
  | .none=>.none
  | .bool _=>.none
  | .int _=>.none
  | .str _=>.none
  | .tup _=>.none
  | .lst i=>.some i
  | .loc _=>.none
noncomputable def AV.loc?:AV→Option Nat
  | .none=>.none
  | .bool _=>.none
  | .int _=>.none
  | .str _=>.none
  | .tup _=>.none
  | .lst _=>.none
  | .loc i=>.some i
theorem AV.int_inv {x:AV} {i:Int} (h:x.int?=some i):x=.int i:=by
  cases x with
  | int j=>exact congrArg AV.int (Option.some.inj h)
  | _=>exact nomatch h
theorem AV.str_inv {x:AV} {i:Str} (h:x.str?=some i):x=.str i:=by
  cases x with
  | str j=>exact congrArg AV.str (Option.some.inj h)
  | _=>exact nomatch h
theorem AV.tup_inv {x:AV} {i:List AV} (h:x.tup?=some i):x=.tup i:=by
  cases x with
  | tup j=>exact congrArg AV.tup (Option.some.inj h)
  | _=>exact nomatch h
theorem AV.lst_inv {x:AV} {i:List AV} (h:x.lst?=some i):x=.lst i:=by
  cases x with
  | lst j=>exact congrArg AV.lst (Option.some.inj h)
  | _=>exact nomatch h
theorem AV.loc_inv {x:AV} {i:Nat} (h:x.loc?=some i):x=.loc i:=by
  cases x with
  | loc j=>exact congrArg AV.loc (Option.some.inj h)
  | _=>exact nomatch h
inductive AO where
  | list (xs:List AV)
  | fmt (ml:Int) (cw:Str) (cwl:Int) (sp:Str) (ln ac:Nat)
  | acc (ini:Int) (parts:List (Str × Str))
  | ghost
  | gen (m k:Nat)
  | out (n:Nat)
  | cell (c:Addr) (x:Option AV)
  | ext (k:Nat) (cs:List AV)
noncomputable def AO.isGen:AO→Bool
  | .gen ..=>true
  | .out ..=>true
  | _=>false
noncomputable def AO.list?:AO→Option (List AV)
  | .list xs=>some xs
  | .fmt ..=>none
  | .acc ..=>none
  | .ghost=>none
  | .gen ..=>none
  | .out ..=>none
  | .cell ..=>none
  | .ext ..=>none
noncomputable def AO.acc?:AO→Option (Int × List (Str × Str))
  | .list _=>none
  | .fmt ..=>none
  | .acc i ps=>some (i,ps)
  | .ghost=>none
  | .gen ..=>none
  | .out ..=>none
  | .cell ..=>none
  | .ext ..=>none
noncomputable def lstAt (σ:List AO) (l:Nat):Option (List AV):=σ[l]?.bind AO.list?
noncomputable def accAt (σ:List AO) (l:Nat):Option (Int × List (Str × Str)):=σ[l]?.bind AO.acc?
theorem lstAt_inv {σ:List AO} {l:Nat} {xs:List AV} (h:lstAt σ l=some xs):σ[l]?=some (.list xs):=by
  unfold lstAt at h
  cases e:σ[l]? with
  | none=>rw [e] at h; exact nomatch h
  | some o =>
    rw [e] at h
    cases o with
    | list ys=>exact congrArg (fun x=>some (AO.list x)) (Option.some.inj h)
    | _=>exact nomatch h
theorem accAt_inv {σ:List AO} {l:Nat} {i:Int × List (Str × Str)} (h:accAt σ l=some i):σ[l]?=some (.acc i.1 i.2):=by
  unfold accAt at h
  cases e:σ[l]? with
  | none=>rw [e] at h; exact nomatch h
  | some o =>
    rw [e] at h
    cases o with
    | acc i ps=>exact congrArg (fun x:Int × List (Str × Str)=>some (AO.acc x.1 x.2)) (Option.some.inj h)
    | _=>exact nomatch h
theorem lstAt_of {σ:List AO} {l:Nat} {xs:List AV} (h:σ[l]?=some (.list xs)):lstAt σ l=some xs:=by unfold lstAt; rw [h]; rfl
theorem accAt_of {σ:List AO} {l:Nat} {i:Int} {ps:List (Str × Str)} (h:σ[l]?=some (.acc i ps)):accAt σ l=some (i,ps):=by unfold accAt; rw [h]; rfl
theorem oB {α β:Type} {o:Option α} {f:α→Option β} {r:β} {P:Prop} (h:o.bind f=some r) (k:∀ a,o=some a→f a=some r→P):P:=by
  cases o with
  | none=>exact nomatch h
  | some a=>exact k a rfl h
theorem oM {α β:Type} {o:Option α} {f:α→β} {r:β} {P:Prop} (h:o.map f=some r) (k:∀ a,o=some a→f a=r→P):P:=by
  cases o with
  | none=>exact nomatch h
  | some a=>exact k a rfl (Option.some.inj h)
theorem oO {α:Type} {a b:Option α} {r:α} {P:Prop} (h:a.or b=some r) (k1:a=some r→P) (k2:b=some r→P):P:=by
  cases a with
  | none=>exact k2 h
  | some x=>exact k1 h
noncomputable def gd {α:Type} (c:Bool) (a:α):Option α:=if c then some a else none
theorem oG {α:Type} {c:Bool} {a r:α} {P:Prop} (h:gd c a=some r) (k:c=true→a=r→P):P:=by
  cases c with
  | false=>exact nomatch h
  | true=>exact k rfl (Option.some.inj h)
theorem gd_of {α:Type} {c:Bool} {a:α} (h:c=true):gd c a=some a:=if_pos h
noncomputable def arg1:List AV→Option AV
  | [x]=>some x
  | []=>none
  | _ :: _ :: _=>none
noncomputable def arg2:List AV→Option (AV × AV)
  | [x,y]=>some (x,y)
  | []=>none
  | [_]=>none
  | _ :: _ :: _ :: _=>none
theorem arg1_inv {xs:List AV} {x:AV} (h:arg1 xs=some x):xs=[x]:=match xs,h with
  | [_],h=>congrArg (fun x=>[x]) (Option.some.inj h)
  | [],h=>nomatch h
  | _ :: _ :: _,h=>nomatch h
theorem arg2_inv {xs:List AV} {p:AV × AV} (h:arg2 xs=some p):xs=[p.1,p.2]:=match xs,h with
  | [_,_],h=>congrArg (fun p:AV × AV=>[p.1,p.2]) (Option.some.inj h)
  | [],h=>nomatch h
  | [_],h=>nomatch h
  | _ :: _ :: _ :: _,h=>nomatch h
noncomputable abbrev St:=List AO
noncomputable abbrev Lc:=List (Option AV)
noncomputable abbrev Rho:=List (Addr × Addr)
structure Cfg where
  prog:Program
  w:World
  K:Frag
  s₁:Shared
  VF:Addr
  ACC:Addr
  /-- code objects with their tables and what stood in these -/
  tabs:List (Addr × Addr × Array Value)
  /-- how a generator sleeps: where its frame's names stand,how often it was asked -/
  G:Addr→Nat→GenState→Prop
  /-- what other objects are: their two objects,the values they name -/
  X:Nat→Addr × Addr→List Value→Obj→Obj→Prop
theorem s1 {γ:Type} {o:Option (AV × St)} {F:AV→St→Option γ} {r:γ} {P:Prop} (h:(match o with | some (a,b)=>F a b | none=>none)=some r) (k:∀ a b,o=some (a,b)→F a b=some r→P):P:=by
  cases o with
  | none=>exact nomatch h
  | some p=>exact k p.1 p.2 rfl h
theorem s2 {γ:Type} {o:Option (Bool × St)} {F:Bool→St→Option γ} {r:γ} {P:Prop} (h:(match o with | some (a,b)=>F a b | none=>none)=some r) (k:∀ a b,o=some (a,b)→F a b=some r→P):P:=by
  cases o with
  | none=>exact nomatch h
  | some p=>exact k p.1 p.2 rfl h
theorem s3 {γ:Type} {o:Option (List AV × St)} {F:List AV→St→Option γ} {r:γ} {P:Prop} (h:(match o with | some (a,b)=>F a b | none=>none)=some r) (k:∀ a b,o=some (a,b)→F a b=some r→P):P:=by
  cases o with
  | none=>exact nomatch h
  | some p=>exact k p.1 p.2 rfl h
theorem sf {γ:Type} {c:Prop} [Decidable c] {A:Option γ} {r:γ} {P:Prop} (h:(if c then A else none)=some r) (k:c→A=some r→P):P:=by
  by_cases hc:c
  · exact k hc ((if_pos hc).symm.trans h)
  · exact nomatch (if_neg hc).symm.trans h
theorem si {γ:Type} {o:Option (AV × St)} {F:Int→St→Option γ} {r:γ} {P:Prop} (h:(match o with | some (.int a,b)=>F a b | _=>none)=some r) (k:∀ a b,o=some (.int a,b)→F a b=some r→P):P:=by
  split at h
  · exact k _ _ rfl h
  · exact nomatch h
theorem sl {γ:Type} {o:Option (AV × St)} {F:Nat→St→Option γ} {r:γ} {P:Prop} (h:(match o with | some (.loc a,b)=>F a b | _=>none)=some r) (k:∀ a b,o=some (.loc a,b)→F a b=some r→P):P:=by
  split at h
  · exact k _ _ rfl h
  · exact nomatch h
theorem sa {γ:Type} {o:Option AO} {F:Int→List (Str × Str)→Option γ} {r:γ} {P:Prop} (h:(match o with | some (.acc a b)=>F a b | _=>none)=some r) (k:∀ a b,o=some (.acc a b)→F a b=some r→P):P:=by
  split at h
  · exact k _ _ rfl h
  · exact nomatch h
theorem sz {γ:Type} {o:Option (Int × St)} {F:Int→St→Option γ} {r:γ} {P:Prop} (h:(match o with | some (a,b)=>F a b | none=>none)=some r) (k:∀ a b,o=some (a,b)→F a b=some r→P):P:=by
  cases o with
  | none=>exact nomatch h
  | some p=>exact k p.1 p.2 rfl h
theorem sn {γ:Type} {o:Option (List Int)} {F:List Int→Option γ} {r:γ} {P:Prop} (h:(match o with | some a=>F a | none=>none)=some r) (k:∀ a,o=some a→F a=some r→P):P:=by
  cases o with
  | none=>exact nomatch h
  | some p=>exact k p rfl h
theorem st {γ:Type} {o:Option (List Str)} {F:List Str→Option γ} {r:γ} {P:Prop} (h:(match o with | some a=>F a | none=>none)=some r) (k:∀ a,o=some a→F a=some r→P):P:=by
  cases o with
  | none=>exact nomatch h
  | some p=>exact k p rfl h
noncomputable def Cfg.isTab (C:Cfg) (a:Addr):Prop:=a∈C.tabs.map (·.2.1)
noncomputable def Mut (C:Cfg) (ρ:Rho) (a:Addr):Prop:=C.isTab a∨∃ p∈ρ,p.1=a∨p.2=a
noncomputable abbrev tupObj (vs:List Value) (n:Nat):Obj:={ cls:=.type "tuple",data:=.seq vs.toArray n }
noncomputable abbrev lstObj (vs:List Value) (n:Nat):Obj:={ cls:=.type "list",data:=.seq vs.toArray n }
mutual
inductive VR (C:Cfg) (ρ:Rho) (h:Heap):AV→Value→Prop
  | none:VR C ρ h .none .none
  | bool (b:Bool):VR C ρ h (.bool b) (.bool b)
  | int (i:Int) (t:Tok):VR C ρ h (.int i) (.int i t)
  | str (x:Str) (t:Tok) (ok:PyData.strOk x=true):VR C ρ h (.str x) (.str x t)
  | tup {a:Addr} {vs:List Value} {n:Nat} {xs:List AV} (ho:h.get? a=some (tupObj vs n)) (hm:¬ Mut C ρ a) (hs:VRs C ρ h xs vs):VR C ρ h (.tup xs) (.ref a)
  | lst {a:Addr} {vs:List Value} {n:Nat} {xs:List AV} (ho:h.get? a=some (lstObj vs n)) (hm:¬ Mut C ρ a) (hs:VRs C ρ h xs vs):VR C ρ h (.lst xs) (.ref a)
  | loc {l:Nat} {p:Addr × Addr} (e:ρ[l]?=some p):VR C ρ h (.loc l) (.ref p.1)
inductive VRs (C:Cfg) (ρ:Rho) (h:Heap):List AV→List Value→Prop
  | nil:VRs C ρ h [] []
  | cons {x:AV} {v:Value} {xs:List AV} {vs:List Value} (a:VR C ρ h x v) (b:VRs C ρ h xs vs):VRs C ρ h (x :: xs) (v :: vs)
end
structure Step (C:Cfg) (W:List Addr) (ρ ρ':Rho) (h h':Heap):Prop where
  size:h.objs.size≤h'.objs.size
  keep:∀ b o,h.get? b=some o→¬ Mut C ρ b→b∉W→h'.get? b=some o
  grow:∃ δ,ρ'=ρ++δ∧∀ p∈δ,h.objs.size≤p.1∧h.objs.size≤p.2
section
variable {C:Cfg} {W:List Addr} {ρ ρ' ρ'':Rho} {h h' h'':Heap}
theorem Step.refl:Step C W ρ ρ h h:=⟨Nat.le_refl _,fun uu uu e uu uu=>e,[],by simp,fun uu hp=>nomatch hp⟩
theorem Step.same (k:∀ b o,h.get? b=some o→h'.get? b=some o) (z:h.objs.size≤h'.objs.size):Step C W ρ ρ h h':=⟨z,fun b o e uu uu=>k b o e,[],by simp,fun uu hp=>nomatch hp⟩
theorem Mut.grow (S:Step C W ρ ρ' h h') {b:Addr} (hb:b < h.objs.size) (n:¬ Mut C ρ b):¬ Mut C ρ' b:=by
  obtain ⟨δ,rfl,hδ⟩:=S.grow
  rintro (t | ⟨p,hp,e⟩)
  · exact n (.inl t)
  · rcases List.mem_append.mp hp with hp | hp
    · exact n (.inr ⟨p,hp,e⟩)
    · rcases e with e | e
      · exact absurd hb (Nat.not_lt.mpr (e▸(hδ p hp).1))
      · exact absurd hb (Nat.not_lt.mpr (e▸(hδ p hp).2))
theorem Step.trans (S:Step C W ρ ρ' h h') (T:Step C W ρ' ρ'' h' h''):Step C W ρ ρ'' h h'':=by
  refine ⟨Nat.le_trans S.size T.size,fun b o e n w=>T.keep b o (S.keep b o e n w) (Mut.grow S (Heap.lt_size e) n) w,?_⟩
  obtain ⟨δ,rfl,hδ⟩:=S.grow
  obtain ⟨δ',rfl,hδ'⟩:=T.grow
  refine ⟨δ++δ',by simp,fun p hp=>?_⟩
  rcases List.mem_append.mp hp with hp | hp
  · exact hδ p hp
  · have:=hδ' p hp; have:=S.size; (first | lia | omega)
theorem Step.weaken {W':List Addr} (S:Step C W ρ ρ' h h') (hw:∀ a∈W,a∈W'):Step C W' ρ ρ' h h' :=
  ⟨S.size,fun b o e n w=>S.keep b o e n fun q=>w (hw _ q),S.grow⟩
theorem Step.of_nil (S:Step C [] ρ ρ' h h'):Step C W ρ ρ' h h':=S.weaken fun uu q=>nomatch q
theorem Step.above {W':List Addr} (S:Step C W' ρ ρ' h h') (hw:∀ a∈W',h.objs.size≤a):Step C W ρ ρ' h h' :=
  ⟨S.size,fun b o e n uu=>S.keep b o e n fun q=>absurd (Heap.lt_size e) (Nat.not_lt.mpr (hw _ q)),S.grow⟩
theorem Step.pushObj (o:Obj):Step C W ρ ρ h (h.push o):=.same (fun uu uu e=>Heap.get?_push_of_some _ e) (by rw [Heap.size_push]; (first | lia | omega))
theorem VR.step (S:Step C W ρ ρ' h h') (hW:∀ a o vs n,a∈W→h.get? a=some o→o.data≠.seq vs n) {x:AV} {v:Value} (q:VR C ρ h x v):VR C ρ' h' x v :=
  VR.rec (motive_1:=fun x v uu=>VR C ρ' h' x v) (motive_2:=fun xs vs uu=>VRs C ρ' h' xs vs) .none (fun b=>.bool b) (fun i t=>.int i t) (fun x t ok=>.str x t ok)
    (fun ho hm uu ih=>.tup (S.keep _ _ ho hm fun q=>hW _ _ _ _ q ho rfl) (Mut.grow S (Heap.lt_size ho) hm) ih) (fun ho hm uu ih=>.lst (S.keep _ _ ho hm fun q=>hW _ _ _ _ q ho rfl) (Mut.grow S (Heap.lt_size ho) hm) ih)
    (fun e=>by
      obtain ⟨δ,rfl,_⟩:=S.grow
      exact .loc (by rw [List.getElem?_append_left (List.getElem?_eq_some_iff.mp e).1]; exact e)) .nil (fun uu uu a b=>.cons a b) q
theorem VRs.ind {P:List AV→List Value→Prop} (h0:P [] []) (h1:∀ {x v xs vs},VR C ρ h x v→VRs C ρ h xs vs→P xs vs→P (x :: xs) (v :: vs)) {xs:List AV} {vs:List Value} (q:VRs C ρ h xs vs):P xs vs :=
  VRs.rec (motive_1:=fun uu uu uu=>True) (motive_2:=fun xs vs uu=>P xs vs) trivial (fun uu=>trivial) (fun uu uu=>trivial) (fun uu uu uu=>trivial) (fun uu uu uu uu=>trivial) (fun uu uu uu uu=>trivial) (fun uu=>trivial) h0 (fun a b uu ih=>h1 a b ih) q
theorem VRs.step (S:Step C W ρ ρ' h h') (hW:∀ a o vs n,a∈W→h.get? a=some o→o.data≠.seq vs n) {xs:List AV} {vs:List Value} (q:VRs C ρ h xs vs):VRs C ρ' h' xs vs :=
  q.ind (P:=VRs C ρ' h') .nil fun a uu ih=>.cons (a.step S hW) ih
theorem noW:∀ a o vs n,a∈([]:List Addr)→h.get? a=some o→o.data≠.seq vs n:=fun uu uu uu uu q=>nomatch q
theorem VR.go (S:Step C [] ρ ρ' h h') {x:AV} {v:Value} (q:VR C ρ h x v):VR C ρ' h' x v:=q.step S noW
theorem VRs.go (S:Step C [] ρ ρ' h h') {x:List AV} {v:List Value} (q:VRs C ρ h x v):VRs C ρ' h' x v:=q.step S noW
theorem VRs.length {xs:List AV} {vs:List Value} (q:VRs C ρ h xs vs):vs.length=xs.length:=q.ind (P:=fun xs vs=>vs.length=xs.length) rfl fun uu uu ih=>congrArg (· + 1) ih
theorem VRs.append {xs ys:List AV} {vs ws:List Value} (q:VRs C ρ h xs vs) (b:VRs C ρ h ys ws):VRs C ρ h (xs++ys) (vs++ws):=q.ind (P:=fun xs vs=>VRs C ρ h (xs++ys) (vs++ws)) b fun a uu ih=>.cons a ih
theorem VRs.get {xs:List AV} {vs:List Value} (q:VRs C ρ h xs vs) {i:Nat} {x:AV} (e:xs[i]?=some x):∃ v,vs[i]?=some v∧VR C ρ h x v:=by
  refine q.ind (P:=fun xs vs=>∀ i,xs[i]?=some x→∃ v,vs[i]?=some v∧VR C ρ h x v) (fun i e=>by simp at e) (fun a uu ih i e=>?_) i e
  cases i with
  | zero=>cases e; exact ⟨_,rfl,a⟩
  | succ i=>exact ih i e
theorem VRs.take {xs:List AV} {vs:List Value} (q:VRs C ρ h xs vs):∀ n,VRs C ρ h (xs.take n) (vs.take n) :=
  q.ind (P:=fun xs vs=>∀ n,VRs C ρ h (xs.take n) (vs.take n)) (fun n=>by cases n <;> exact .nil) fun a uu ih n=>by
    cases n with
    | zero=>exact .nil
    | succ n=>exact .cons a (ih n)
theorem VRs.drop {xs:List AV} {vs:List Value} (q:VRs C ρ h xs vs):∀ n,VRs C ρ h (xs.drop n) (vs.drop n) :=
  q.ind (P:=fun xs vs=>∀ n,VRs C ρ h (xs.drop n) (vs.drop n)) (fun n=>by cases n <;> exact .nil) fun a b ih n=>by
    cases n with
    | zero=>exact .cons a b
    | succ n=>exact ih n
end
inductive EntR (C:Cfg) (ρ:Rho) (h:Heap):List (Str × AV)→List DictEntry→Prop
  | nil:EntR C ρ h [] []
  | cons {k:Str} {x:AV} {t:Tok} {v:Value} {r:List (Str × AV)} {es:List DictEntry} (a:VR C ρ h x v) (b:EntR C ρ h r es):EntR C ρ h ((k,x) :: r) (⟨PyData.keyHash C.w.params k,.str k t,v⟩ :: es)
noncomputable def partAV (p:Str × Str):AV:=.tup [.str p.1,.str p.2]
noncomputable def fmtAttrs (ml:Int) (cw:Str) (cwl:Int) (sp:Str) (ln ac:Nat):List (Str × AV) :=
  [("_maxlen",.int ml),("_continuation_ws",.str cw),("_continuation_ws_len",.int cwl),("_splitchars",.str sp),("_lines",.loc ln),("_current_line",.loc ac)]
noncomputable def accAttrs (ini:Int):List (Str × AV):=[("_initial_size",.int ini)]
structure SelfAt (ρ:Rho) (h:Heap) (L:Addr) (m:Nat):Prop where
  self:∃ mm q,h.Ns L mm∧ρ[m]?=some q∧mm "self" = some (.ref q.1)
theorem SelfAt.keep {ρ:Rho} {h h':Heap} {L:Addr} {m:Nat} (q:SelfAt ρ h L m) (k:∀ o,h.get? L=some o→h'.get? L=some o):SelfAt ρ h' L m :=
  let ⟨mm,q,a,b,c⟩:=q.self; ⟨mm,q,a.at k,b,c⟩
theorem SelfAt.grow {ρ:Rho} {h:Heap} {L:Addr} {m:Nat} (q:SelfAt ρ h L m) (δ:Rho):SelfAt (ρ++δ) h L m :=
  let ⟨mm,q,a,b,c⟩:=q.self; ⟨mm,q,a,by rw [List.getElem?_append_left (List.getElem?_eq_some_iff.mp b).1]; exact b,c⟩
noncomputable abbrev genObj (n:Nat) (nm qn:Value):Obj:={ cls:=.type "generator",data:=.fields #[rawInt n,nm,qn] }
theorem cellAt {h h':Heap} {c:Addr} {v:Option Value} (x:h.IsCell c v) (k:∀ o,h.get? c=some o→h'.get? c=some o):h'.IsCell c v:=let ⟨o,a,b⟩:=x; ⟨o,k o a,b⟩
noncomputable def NoF (ob:Obj):Prop:=(∀ vs,ob.data≠.fields vs)∨ob.cls=.type "generator"
noncomputable def CodeOb (o:Obj):Prop:=o.cls=.type "code" ∧ ∃ vs,o.data=.fields vs
noncomputable def codeRef (o:Obj):Option Addr:=match o.data with
  | .func fd=>(match fd.code with
    | .ref c=>some c
    | _=>none)
  | _=>none
noncomputable def CodeKept (h:Heap) (o:Obj):Prop:=∀ c,codeRef o=some c→∃ ob vs v,h.get? c=some ob∧ob.cls=.type "code" ∧ ob.data=.fields vs∧vs[1]?=some v
noncomputable def ObjR (C:Cfg) (ρ:Rho) (h:Heap) (p:Addr × Addr) (o:AO):Prop:=match o with
  | .list xs=>∃ vs n,p.2=p.1∧h.get? p.1=some (lstObj vs n)∧VRs C ρ h xs vs
  | .fmt ml cw cwl sp ln ac=>∃ es n,h.get? p.1=some ⟨.ref C.VF,some p.2,.plain,#[]⟩∧h.get? p.2=some (dictOf es n)∧EntR C ρ h (fmtAttrs ml cw cwl sp ln ac) es
  | .acc ini parts=>∃ es n n' vs,h.get? p.1=some ⟨.ref C.ACC,some p.2,.seq (List.toArray vs) n,#[]⟩∧h.get? p.2=some (dictOf es n')∧EntR C ρ h (accAttrs ini) es∧VRs C ρ h (parts.map partAV) vs
  | .ghost=>∃ x y n,p.2=p.1∧h.get? p.1=some { cls:=.type "tuple",data:=.seq #[x,y] n }
  | .gen m _=>∃ n nm qn,h.get? p.1=some (genObj n nm qn)∧SelfAt ρ h p.2 m
  | .out n=>∃ nm qn,p.2=p.1∧h.get? p.1=some (genObj n nm qn)
  | .cell c x=>p=(c,c)∧match x with
    | none=>h.IsCell c none
    | some x=>∃ v,h.IsCell c (some v)∧VR C ρ h x v
  | .ext k cs=>∃ o1 o2 vs,h.get? p.1=some o1∧h.get? p.2=some o2∧NoF o1∧NoF o2∧VRs C ρ h cs vs∧(k=0∨C.X k p vs o1 o2)∧CodeKept h o1
section
variable {C:Cfg} {ρ:Rho} {h:Heap}
theorem ObjR.list {a:Addr} {vs:List Value} {n:Nat} {xs:List AV} (ho:h.get? a=some (lstObj vs n)) (hs:VRs C ρ h xs vs):ObjR C ρ h (a,a) (.list xs):=⟨vs,n,rfl,ho,hs⟩
theorem ObjR.fmt {a d:Addr} {es:List DictEntry} {n:Nat} {ml:Int} {cw:Str} {cwl:Int} {sp:Str} {ln ac:Nat} (ho:h.get? a=some ⟨.ref C.VF,some d,.plain,#[]⟩) (hd:h.get? d=some (dictOf es n))
  (he:EntR C ρ h (fmtAttrs ml cw cwl sp ln ac) es):ObjR C ρ h (a,d) (.fmt ml cw cwl sp ln ac):=⟨es,n,ho,hd,he⟩
theorem ObjR.acc {a d:Addr} {es:List DictEntry} {n n':Nat} {vs:List Value} {ini:Int} {parts:List (Str × Str)} (ho:h.get? a=some ⟨.ref C.ACC,some d,.seq vs.toArray n,#[]⟩) (hd:h.get? d=some (dictOf es n'))
  (he:EntR C ρ h (accAttrs ini) es) (hs:VRs C ρ h (parts.map partAV) vs):ObjR C ρ h (a,d) (.acc ini parts):=⟨es,n,n',vs,ho,hd,he,hs⟩
theorem ObjR.gen {a L:Addr} {m k n:Nat} {nm qn:Value} (ho:h.get? a=some (genObj n nm qn)) (hL:SelfAt ρ h L m):ObjR C ρ h (a,L) (.gen m k):=⟨n,nm,qn,ho,hL⟩
theorem ObjR.out {a:Addr} {n:Nat} {nm qn:Value} (ho:h.get? a=some (genObj n nm qn)):ObjR C ρ h (a,a) (.out n):=⟨nm,qn,rfl,ho⟩
theorem ObjR.cell0 {c:Addr} (ho:h.IsCell c Option.none):ObjR C ρ h (c,c) (.cell c none):=⟨rfl,ho⟩
theorem ObjR.cell {c:Addr} {x:AV} {v:Value} (ho:h.IsCell c (some v)) (q:VR C ρ h x v):ObjR C ρ h (c,c) (.cell c (some x)):=⟨rfl,v,ho,q⟩
end
structure GR (C:Cfg) (ρ:Rho) (σ:St) (h:Heap) (g:Array GenState):Prop where
  bare:AllBare g
  live:∀ (l:Nat) (p:Addr × Addr) (m k:Nat),ρ[l]?=some p→σ[l]?=some (.gen m k)→∃ n nm qn st,h.get? p.1=some (genObj n nm qn)∧g[n]?=some st∧C.G p.2 k st
  outs:∀ (l:Nat) (p:Addr × Addr) (n:Nat),ρ[l]?=some p→σ[l]?=some (.out n)→∃ nm qn,h.get? p.1=some (genObj n nm qn)∧g[n]?=some .running
  apart:∀ (l l':Nat) (p p':Addr × Addr) (o o':AO) (n:Nat) (nm qn nm' qn':Value),ρ[l]?=some p→ρ[l']?=some p'→σ[l]?=some o→o.isGen=true→σ[l']?=some o'→o'.isGen=true →
    h.get? p.1=some (genObj n nm qn)→h.get? p'.1=some (genObj n nm' qn')→l=l'
section
variable {C:Cfg} {ρ:Rho} {σ:St} {h h':Heap} {g g':Array GenState}
theorem GR.obj (q:GR C ρ σ h g) {l:Nat} {p:Addr × Addr} {o:AO} (e:ρ[l]?=some p) (e':σ[l]?=some o) (hg:o.isGen=true):∃ n nm qn,h.get? p.1=some (genObj n nm qn)∧n < g.size:=by
  cases o with
  | gen m k=>(refine x4_3 (q.live l p m k e e') fun n nm qn st z y uu=>?_); exact ⟨n,nm,qn,z,(Array.getElem?_eq_some_iff.mp y).1⟩
  | out n=>(refine x2_2 (q.outs l p n e e') fun nm qn z y=>?_); exact ⟨n,nm,qn,z,(Array.getElem?_eq_some_iff.mp y).1⟩
  | _=>cases hg
theorem GR.mono (q:GR C ρ σ h g) (b:AllBare g') (k:∀ (i:Nat) (st:GenState),g[i]?=some st→g'[i]?=some st):GR C ρ σ h g' :=
  ⟨b,fun l p m i e e'=>let ⟨n,nm,qn,st,z,x,y⟩:=q.live l p m i e e'; ⟨n,nm,qn,st,z,k _ _ x,y⟩,fun l p n e e'=>let ⟨nm,qn,z,x⟩:=q.outs l p n e e'; ⟨nm,qn,z,k _ _ x⟩,q.apart⟩
theorem GR.heap (q:GR C ρ σ h g) (k:∀ (l:Nat) (p:Addr × Addr) (o:AO),ρ[l]?=some p→σ[l]?=some o→o.isGen=true→∀ ob,h.get? p.1=some ob→h'.get? p.1=some ob):GR C ρ σ h' g:=by
  refine ⟨q.bare,fun l p m i e e'=>let ⟨n,nm,qn,st,z,x,y⟩:=q.live l p m i e e'; ⟨n,nm,qn,st,k _ _ _ e e' rfl _ z,x,y⟩,fun l p n e e'=>let ⟨nm,qn,z,x⟩:=q.outs l p n e e'; ⟨nm,qn,k _ _ _ e e' rfl _ z,x⟩,?_⟩
  intro l l' p p' o o' n nm qn nm' qn' e1 e2 e3 g3 e4 g4 e5 e6
  (refine x3_2 (q.obj e1 e3 g3) fun n1 a1 b1 z1 uu=>?_)
  (refine x3_2 (q.obj e2 e4 g4) fun n2 a2 b2 z2 uu=>?_)
  have w1:=(k _ _ _ e1 e3 g3 _ z1).symm.trans e5
  have w2:=(k _ _ _ e2 e4 g4 _ z2).symm.trans e6
  cases w1
  cases w2
  exact q.apart l l' p p' o o' _ _ _ _ _ e1 e2 e3 g3 e4 g4 z1 z2
theorem GR.set (q:GR C ρ σ h g) {l:Nat} {o:AO} (ng:o.isGen=false):GR C ρ (σ.set l o) h g:=by
  have k:∀ (i:Nat) (x:AO),(σ.set l o)[i]?=some x→x.isGen=true→σ[i]?=some x:=by
    intro i x e hx
    by_cases hi:l=i
    · subst hi
      rw [List.getElem?_set,if_pos rfl] at e
      (refine sf e ?_; clear e; intro uu e)
      cases e; rw [hx] at ng; cases ng
    · rw [List.getElem?_set_ne hi] at e; exact e
  exact ⟨q.bare,fun i p m n e e'=>q.live i p m n e (k _ _ e' rfl),fun i p n e e'=>q.outs i p n e (k _ _ e' rfl),fun i j p p' x x' r a b c d e1 e2 e3 g3 e4 g4=>q.apart i j p p' x x' r a b c d e1 e2 (k _ _ e3 g3) g3 (k _ _ e4 g4) g4⟩
theorem GR.snoc (q:GR C ρ σ h g) (hl:ρ.length=σ.length) {p:Addr × Addr} {o:AO} (ng:o.isGen=false):GR C (ρ++[p]) (σ++[o]) h g:=by
  have k:∀ (i:Nat) (x:AO),(σ++[o])[i]?=some x→x.isGen=true→i < ρ.length∧σ[i]?=some x:=by
    intro i x e hx
    by_cases hi:i < σ.length
    · rw [List.getElem?_append_left hi] at e; exact ⟨hl▸hi,e⟩
    · rw [List.getElem?_append_right (Nat.not_lt.mp hi),List.getElem?_singleton] at e
      (refine sf e ?_; clear e; intro uu e)
      cases e; rw [hx] at ng; cases ng
  have r:∀ (i:Nat) {q:Addr × Addr},i < ρ.length→(ρ++[p])[i]?=some q→ρ[i]?=some q:=fun i q hi e=>by rw [List.getElem?_append_left hi] at e; exact e
  refine ⟨q.bare,fun i p' m n e e'=>?_,fun i p' n e e'=>?_,fun i j p1 p2 x x' n a b c d e1 e2 e3 g3 e4 g4=>?_⟩
  · (refine x0_2 (k _ _ e' rfl) fun a b=>?_)
    exact q.live i p' m n (r _ a e) b
  · (refine x0_2 (k _ _ e' rfl) fun a b=>?_)
    exact q.outs i p' n (r _ a e) b
  · (refine x0_2 (k _ _ e3 g3) fun h1 s1=>?_)
    (refine x0_2 (k _ _ e4 g4) fun h2 s2=>?_)
    exact q.apart i j p1 p2 x x' n a b c d (r _ h1 e1) (r _ h2 e2) s1 g3 s2 g4
end
noncomputable def CodesAt (h:Heap) (ps:Array Value):Prop:=∀ pos cv,codeAmong pos ps.toList=some cv→∃ c o vs v,cv=.ref c∧h.get? c=some o∧o.cls=.type "code" ∧ o.data=.fields vs∧vs[1]?=some v
structure TabX (h:Heap) (c P:Addr) (ps:Array Value):Prop where
  at_:h.TableAt c P ps
  codes:CodesAt h ps
theorem CodesAt.move {h h':Heap} {ps:Array Value} (x:CodesAt h ps) (k:∀ b o,h.get? b=some o→CodeOb o→h'.get? b=some o):CodesAt h' ps:=fun pos cv e=>let ⟨c,o,vs,v,a1,a2,a3,a4,a5⟩:=x pos cv e; ⟨c,o,vs,v,a1,k _ _ a2 ⟨a3,_,a4⟩,a3,a4,a5⟩
theorem TabX.move {h h':Heap} {c P:Addr} {ps:Array Value} (x:TabX h c P ps) (k:∀ b o,h.get? b=some o→CodeOb o→h'.get? b=some o) (kP:∀ o,h.get? P=some o→h'.get? P=some o):TabX h' c P ps :=
  ⟨let ⟨⟨o,vs,a,b,d,e⟩,t⟩:=x.at_; ⟨⟨o,vs,k _ _ a ⟨b,_,d⟩,b,d,e⟩,kP _ t⟩,x.codes.move k⟩
theorem TabX.keeps {h h':Heap} {c P:Addr} {ps:Array Value} (x:TabX h c P ps) (k:∀ b o,h.get? b=some o→h'.get? b=some o):TabX h' c P ps:=x.move (fun b o e uu=>k b o e) (k P)
structure Rel (C:Cfg) (ρ:Rho) (σ:St) (s:Shared):Prop where
  old:∀ b o,C.s₁.heap.get? b=some o→¬ C.isTab b→s.heap.get? b=some o
  tab:∀ t∈C.tabs,∃ more,s.heap.IsCode t.1 t.2.1 (t.2.2++more)∧TabX s.heap t.1 t.2.1 (t.2.2++more)
  lo:∀ p∈ρ,C.s₁.heap.objs.size≤p.1∧C.s₁.heap.objs.size≤p.2
  dis:ρ.Pairwise fun p q=>p.1≠q.1∧p.1≠q.2∧p.2≠q.1∧p.2≠q.2
  len:ρ.length=σ.length
  st:∀ (l:Nat) (p:Addr × Addr) (o:AO),ρ[l]?=some p→σ[l]?=some o→ObjR C ρ s.heap p o
  gens:GR C ρ σ s.heap s.gens
  drawn:s.drawn=C.s₁.drawn
  os:s.os=C.s₁.os
  size:C.s₁.heap.objs.size≤s.heap.objs.size
noncomputable def LcR (C:Cfg) (ρ:Rho) (h:Heap) (L:Addr) (vars:List Str) (lc:Lc):Prop :=
  (∃ m,h.Ns L m∧∀ (i:Nat) (x:AV),lc[i]?=some (some x)→∃ n v,vars[i]?=some n∧m n=some v∧VR C ρ h x v)∧¬ Mut C ρ L∧C.s₁.heap.objs.size≤L∧lc.length=vars.length
structure EnvOk (env:Env) (vars:List Str):Prop where
  kind:env.scope.kind=.function
  loc:∀ x∈vars,env.kindOf x=some .local
  nodup:vars.Nodup
  glob:env.globals=mainGlobals
  blt:env.builtins=builtinsNs
noncomputable def FrA (C:Cfg) (A:Around):Prop:=∃ l,A.frames=some l∧l≠[]∧l.length + 301≤A.depth∧∀ e,l.getLast?=some e→e.frame=some C.s₁.heap.objs.size∧e.scope.kind≠.module
noncomputable def AOk (C:Cfg) (d:Nat) (A:Around):Prop:=A.handled=none∧A.depth + d < recursionLimit∧A.units + 8 * d < cLine∧FrA C A
theorem FrA.push {C:Cfg} {A A':Around} (a:FrA C A) {es:List Env} (h:A'.frames=A.frames.map (es++·)) (hz:A.depth + es.length≤A'.depth):FrA C A' :=
  let ⟨l,e,n,z,k⟩:=a
  ⟨es++l,by rw [h,e]; rfl,by simp [n],by rw [List.length_append]; (first | lia | omega),fun x hx=>k x (by rw [List.getLast?_append] at hx; rw [← hx]; cases q:l.getLast? with | none=>exact absurd (List.getLast?_eq_none_iff.mp q) n | some y=>rfl)⟩
theorem FrA.same {C:Cfg} {A A':Around} (a:FrA C A) (h:A'.frames=A.frames) (hz:A.depth≤A'.depth):FrA C A' :=
  let ⟨l,e,n,z,k⟩:=a
  ⟨l,h.trans e,n,Nat.le_trans z hz,k⟩
noncomputable abbrev EM:=Lc→St→Option (AV × St)
inductive Fl where
  | next | brk | cont | ret (v:AV)
noncomputable abbrev SM:=Lc→St→Option (Fl × Lc × St)
noncomputable abbrev TM:=Lc→St→Option (Bool × St)
noncomputable def DenE (C:Cfg) (d:Nat) (env:Env) (vars:List Str) (e:Expr) (f:EM):Prop :=
  ∀ lc σ x σ',f lc σ=some (x,σ')→∀ (A:Around) (Q:Value→Shared→Prop) (E:Value→Shared→Prop) (s:Shared) (ρ:Rho),AOk C d A→Rel C ρ σ s→LcR C ρ s.heap env.locals vars lc →
    (∀ v s' ρ',Rel C ρ' σ' s'→Step C [] ρ ρ' s.heap s'.heap→VR C ρ' s'.heap x v→Q v s')→wpAny (model C.prog C.w) A (eval e env) Q E s
noncomputable def DenT (C:Cfg) (d:Nat) (env:Env) (vars:List Str) (e:Expr) (f:TM):Prop :=
  ∀ lc σ b σ',f lc σ=some (b,σ')→∀ (A:Around) (Q:Bool→Shared→Prop) (E:Value→Shared→Prop) (s:Shared) (ρ:Rho),AOk C d A→Rel C ρ σ s→LcR C ρ s.heap env.locals vars lc →
    (∀ s' ρ',Rel C ρ' σ' s'→Step C [] ρ ρ' s.heap s'.heap→Q b s')→wpAny (model C.prog C.w) A (isTrue e env (eval e env)) Q E s
inductive FlR (C:Cfg) (ρ:Rho) (h:Heap):Fl→Flow→Prop
  | next:FlR C ρ h .next .next
  | brk:FlR C ρ h .brk .brk
  | cont:FlR C ρ h .cont .cont
  | ret {x:AV} {v:Value} (a:VR C ρ h x v):FlR C ρ h (.ret x) (.ret v)
noncomputable def DenS (C:Cfg) (d:Nat) (env:Env) (vars:List Str) (st:Stmt) (f:SM):Prop :=
  ∀ lc σ fl lc' σ',f lc σ=some (fl,lc',σ')→∀ (A:Around) (Q:Flow→Shared→Prop) (E:Value→Shared→Prop) (s:Shared) (ρ:Rho),AOk C d A→Rel C ρ σ s→LcR C ρ s.heap env.locals vars lc →
    (∀ w s' ρ',Rel C ρ' σ' s'→Step C [env.locals] ρ ρ' s.heap s'.heap→LcR C ρ' s'.heap env.locals vars lc'→FlR C ρ' s'.heap fl w→Q w s')→wpAny (model C.prog C.w) A (exec st env) Q E s
noncomputable def DenB (C:Cfg) (d:Nat) (env:Env) (vars:List Str) (b:List Stmt) (f:SM):Prop :=
  ∀ lc σ fl lc' σ',f lc σ=some (fl,lc',σ')→∀ (A:Around) (Q:Flow→Shared→Prop) (E:Value→Shared→Prop) (s:Shared) (ρ:Rho),AOk C d A→Rel C ρ σ s→LcR C ρ s.heap env.locals vars lc →
    (∀ w s' ρ',Rel C ρ' σ' s'→Step C [env.locals] ρ ρ' s.heap s'.heap→LcR C ρ' s'.heap env.locals vars lc'→FlR C ρ' s'.heap fl w→Q w s')→wpAny (model C.prog C.w) A (execs b env) Q E s
section
variable {C:Cfg} {d:Nat} {env:Env} {vars:List Str} {ρ ρ':Rho} {h h':Heap} {L:Addr} {lc:Lc}
theorem AOk.mono {d':Nat} {A:Around} (a:AOk C d A) (h:d'≤d):AOk C d' A:=⟨a.1,by have:=a.2.1; (first | lia | omega),by have:=a.2.2.1; (first | lia | omega),a.2.2.2⟩
theorem LcR.go (S:Step C [] ρ ρ' h h') (q:LcR C ρ h L vars lc):LcR C ρ' h' L vars lc:=by
  obtain ⟨⟨m,hn,hv⟩,hm,hl,hz⟩:=q
  refine ⟨⟨m,hn.at fun o e=>S.keep _ _ e hm (by simp),fun i x e=>?_⟩,Mut.grow S hn.lt hm,hl,hz⟩
  (refine x2_3 (hv i x e) fun n v a b c=>?_)
  exact ⟨n,v,a,b,c.go S⟩
end
section
variable {C:Cfg} {ρ:Rho} {h:Heap} {v:Value}
@[elab_as_elim] theorem VR.none_e {P:Value→Prop} (q:VR C ρ h .none v) (k:P .none):P v:=by cases q; exact k
@[elab_as_elim] theorem VR.bool_e {P:Value→Prop} {b:Bool} (q:VR C ρ h (.bool b) v) (k:P (.bool b)):P v:=by cases q; exact k
@[elab_as_elim] theorem VR.int_e {P:Value→Prop} {i:Int} (q:VR C ρ h (.int i) v) (k:∀ t,P (.int i t)):P v:=by cases q with | int _ t=>exact k t
@[elab_as_elim] theorem VR.str_e {P:Value→Prop} {x:Str} (q:VR C ρ h (.str x) v) (k:∀ t,PyData.strOk x=true→P (.str x t)):P v:=by cases q with | str _ t ok=>exact k t ok
@[elab_as_elim] theorem VR.loc_e {P:Value→Prop} {l:Nat} (q:VR C ρ h (.loc l) v) (k:∀ p,ρ[l]?=some p→P (.ref p.1)):P v:=by cases q with | loc e=>exact k _ e
@[elab_as_elim] theorem VR.tup_e {P:Value→Prop} {xs:List AV} (q:VR C ρ h (.tup xs) v) (k:∀ a vs n,h.get? a=some (tupObj vs n)→¬ Mut C ρ a→VRs C ρ h xs vs→P (.ref a)):P v:=by cases q with | tup ho hm hs=>exact k _ _ _ ho hm hs
@[elab_as_elim] theorem VR.lst_e {P:Value→Prop} {xs:List AV} (q:VR C ρ h (.lst xs) v) (k:∀ a vs n,h.get? a=some (lstObj vs n)→¬ Mut C ρ a→VRs C ρ h xs vs→P (.ref a)):P v:=by cases q with | lst ho hm hs=>exact k _ _ _ ho hm hs
@[elab_as_elim] theorem VRs.nil_e {P:List Value→Prop} {vs:List Value} (q:VRs C ρ h [] vs) (k:P []):P vs:=by cases q; exact k
@[elab_as_elim] theorem VRs.cons_e {P:List Value→Prop} {x:AV} {xs:List AV} {vs:List Value} (q:VRs C ρ h (x :: xs) vs) (k:∀ w ws,VR C ρ h x w→VRs C ρ h xs ws→P (w :: ws)):P vs:=by cases q with | cons a b=>exact k _ _ a b
theorem VR.int_inv {i:Int} (q:VR C ρ h (.int i) v):∃ t,v=.int i t:=q.int_e fun t=>⟨t,rfl⟩
theorem VR.loc_inv {l:Nat} (q:VR C ρ h (.loc l) v):∃ p,ρ[l]?=some p∧v=.ref p.1:=q.loc_e fun p e=>⟨p,e,rfl⟩
theorem VRs.nil_inv {vs:List Value} (q:VRs C ρ h [] vs):vs=[]:=by cases q; rfl
theorem VRs.cons_inv {x:AV} {xs:List AV} {vs:List Value} (q:VRs C ρ h (x :: xs) vs):∃ w ws,vs=w :: ws∧VR C ρ h x w∧VRs C ρ h xs ws:=q.cons_e fun w ws a b=>⟨w,ws,rfl,a,b⟩
@[elab_as_elim] theorem VR.int_of {P:Value→Prop} {x:AV} {i:Int} (q:VR C ρ h x v) (e:x.int?=some i) (k:∀ t,P (.int i t)):P v:=by
  rw [AV.int_inv e] at q
  exact q.int_e k
@[elab_as_elim] theorem VR.str_of {P:Value→Prop} {x:AV} {i:Str} (q:VR C ρ h x v) (e:x.str?=some i) (k:∀ t,PyData.strOk i=true→P (.str i t)):P v:=by
  rw [AV.str_inv e] at q
  exact q.str_e k
@[elab_as_elim] theorem VR.tup_of {P:Value→Prop} {x:AV} {xs:List AV} (q:VR C ρ h x v) (e:x.tup?=some xs) (k:∀ a vs n,h.get? a=some (tupObj vs n)→¬ Mut C ρ a→VRs C ρ h xs vs→P (.ref a)):P v:=by
  rw [AV.tup_inv e] at q
  exact q.tup_e k
@[elab_as_elim] theorem VR.lst_of {P:Value→Prop} {x:AV} {xs:List AV} (q:VR C ρ h x v) (e:x.lst?=some xs) (k:∀ a vs n,h.get? a=some (lstObj vs n)→¬ Mut C ρ a→VRs C ρ h xs vs→P (.ref a)):P v:=by
  rw [AV.lst_inv e] at q
  exact q.lst_e k
@[elab_as_elim] theorem VRs.arg1_e {P:List Value→Prop} {x:AV} {xs:List AV} {vs:List Value} (q:VRs C ρ h xs vs) (e:arg1 xs=some x) (k:∀ v,VR C ρ h x v→P [v]):P vs:=by
  rw [arg1_inv e] at q
  exact q.cons_e fun w uu a b=>b.nil_e (k w a)
@[elab_as_elim] theorem VRs.arg2_e {P:List Value→Prop} {p:AV × AV} {xs:List AV} {vs:List Value} (q:VRs C ρ h xs vs) (e:arg2 xs=some p) (k:∀ v w,VR C ρ h p.1 v→VR C ρ h p.2 w→P [v,w]):P vs:=by
  rw [arg2_inv e] at q
  exact q.cons_e fun v uu a b=>b.cons_e fun w uu c d=>d.nil_e (k v w a c)
@[elab_as_elim] theorem VRs.one_e {P:List Value→Prop} {x:AV} {vs:List Value} (q:VRs C ρ h [x] vs) (k:∀ v,VR C ρ h x v→P [v]):P vs:=q.cons_e fun w uu a b=>b.nil_e (k w a)
@[elab_as_elim] theorem VRs.two_e {P:List Value→Prop} {x y:AV} {vs:List Value} (q:VRs C ρ h [x,y] vs) (k:∀ v w,VR C ρ h x v→VR C ρ h y w→P [v,w]):P vs:=q.cons_e fun v uu a b=>b.one_e fun w c=>k v w a c
theorem kfE {a x:AV} {σ₁ σ':St} {Q:Value→Shared→Prop} (k:∀ v s' ρ',Rel C ρ' σ' s'→Step C [] ρ ρ' h s'.heap→VR C ρ' s'.heap x v→Q v s') (e:some (a,σ₁)=some (x,σ')):∀ v s' ρ',Rel C ρ' σ₁ s'→Step C [] ρ ρ' h s'.heap→VR C ρ' s'.heap a v→Q v s':=by cases e; exact k
theorem kfT {a x:Bool} {σ₁ σ':St} {Q:Bool→Shared→Prop} (k:∀ s' ρ',Rel C ρ' σ' s'→Step C [] ρ ρ' h s'.heap→Q x s') (e:some (a,σ₁)=some (x,σ')):∀ s' ρ',Rel C ρ' σ₁ s'→Step C [] ρ ρ' h s'.heap→Q a s':=by cases e; exact k
theorem kfS {L:Addr} {W:List Addr} {vars:List Str} {a x:Fl} {lc₁ lc':Lc} {σ₁ σ':St} {Q:Flow→Shared→Prop} (k:∀ w s' ρ',Rel C ρ' σ' s'→Step C W ρ ρ' h s'.heap→LcR C ρ' s'.heap L vars lc'→FlR C ρ' s'.heap x w→Q w s') (e:some (a,lc₁,σ₁)=some (x,lc',σ')) :
    ∀ w s' ρ',Rel C ρ' σ₁ s'→Step C W ρ ρ' h s'.heap→LcR C ρ' s'.heap L vars lc₁→FlR C ρ' s'.heap a w→Q w s':=by cases e; exact k
theorem kfe {a x:AV} {σ₁ σ':St} {Q:Value→Shared→Prop} (k:∀ v s' ρ',Rel C ρ' σ' s'→Step C [] ρ ρ' h s'.heap→VR C ρ' s'.heap x v→Q v s') (e:(a,σ₁)=(x,σ')):∀ v s' ρ',Rel C ρ' σ₁ s'→Step C [] ρ ρ' h s'.heap→VR C ρ' s'.heap a v→Q v s':=kfE k (congrArg some e)
theorem kft {a x:Bool} {σ₁ σ':St} {Q:Bool→Shared→Prop} (k:∀ s' ρ',Rel C ρ' σ' s'→Step C [] ρ ρ' h s'.heap→Q x s') (e:(a,σ₁)=(x,σ')):∀ s' ρ',Rel C ρ' σ₁ s'→Step C [] ρ ρ' h s'.heap→Q a s':=kfT k (congrArg some e)
theorem kfs {L:Addr} {W:List Addr} {vars:List Str} {a x:Fl} {lc₁ lc':Lc} {σ₁ σ':St} {Q:Flow→Shared→Prop} (k:∀ w s' ρ',Rel C ρ' σ' s'→Step C W ρ ρ' h s'.heap→LcR C ρ' s'.heap L vars lc'→FlR C ρ' s'.heap x w→Q w s') (e:(a,lc₁,σ₁)=(x,lc',σ')) :
    ∀ w s' ρ',Rel C ρ' σ₁ s'→Step C W ρ ρ' h s'.heap→LcR C ρ' s'.heap L vars lc₁→FlR C ρ' s'.heap a w→Q w s':=kfS k (congrArg some e)
theorem VRs.map {ρ':Rho} {h':Heap} (kv:∀ {x:AV} {v:Value},VR C ρ h x v→VR C ρ' h' x v) {xs:List AV} {vs:List Value} (q:VRs C ρ h xs vs):VRs C ρ' h' xs vs:=q.ind (P:=VRs C ρ' h') .nil fun a uu ih=>.cons (kv a) ih
theorem EntR.map {ρ':Rho} {h':Heap} (kv:∀ {x:AV} {v:Value},VR C ρ h x v→VR C ρ' h' x v) {r:List (Str × AV)} {es:List DictEntry} (q:EntR C ρ h r es):EntR C ρ' h' r es:=q.rec (motive:=fun r es uu=>EntR C ρ' h' r es) .nil fun a uu ih=>.cons (kv a) ih
theorem ObjR.move {ρ':Rho} {h':Heap} {p:Addr × Addr} {o:AO} (q:ObjR C ρ h p o) (k1:∀ ob,h.get? p.1=some ob→h'.get? p.1=some ob) (k2:∀ ob,h.get? p.2=some ob→h'.get? p.2=some ob)
    (kv:∀ {x:AV} {v:Value},VR C ρ h x v→VR C ρ' h' x v) (kL:∀ m,SelfAt ρ h' p.2 m→SelfAt ρ' h' p.2 m) (kc:∀ b o,h.get? b=some o→CodeOb o→h'.get? b=some o):ObjR C ρ' h' p o:=by
  cases o with
  | list=>exact x2_3 q fun vs n e ho hs=>⟨vs,n,e,k1 _ ho,hs.map kv⟩
  | fmt=>exact x2_3 q fun es n ho hd he=>⟨es,n,k1 _ ho,k2 _ hd,he.map kv⟩
  | acc=>exact x4_4 q fun es n n' vs ho hd he hs=>⟨es,n,n',vs,k1 _ ho,k2 _ hd,he.map kv,hs.map kv⟩
  | ghost=>exact x3_2 q fun x y n e ho=>⟨x,y,n,e,k1 _ ho⟩
  | gen=>exact x3_2 q fun n nm qn ho hL=>⟨n,nm,qn,k1 _ ho,kL _ (hL.keep k2)⟩
  | out=>exact x2_2 q fun nm qn e ho=>⟨nm,qn,e,k1 _ ho⟩
  | cell c x =>
    refine x0_2 q fun e z=>⟨e,?_⟩
    rw [e] at k1
    cases x with
    | none=>exact cellAt z k1
    | some y=>exact x1_2 z fun v ho q'=>⟨v,cellAt ho k1,kv q'⟩
  | ext=>exact let ⟨o1,o2,vs,a,b,n1,n2,c,d,w⟩:=q; ⟨o1,o2,vs,k1 _ a,k2 _ b,n1,n2,c.map kv,d,fun c e=>let ⟨ob,us,v,x1,x2,x3,x4⟩:=w c e; ⟨ob,us,v,kc _ _ x1 ⟨x2,us,x3⟩,x2,x3,x4⟩⟩
theorem ObjR.lt {p:Addr × Addr} {o:AO} (q:ObjR C ρ h p o):p.1 < h.objs.size∧p.2 < h.objs.size:=by
  have same:∀ {ob:Obj},p.2=p.1→h.get? p.1=some ob→p.1 < h.objs.size∧p.2 < h.objs.size:=fun e ho=>⟨Heap.lt_size ho,e▸Heap.lt_size ho⟩
  cases o with
  | list=>exact x2_3 q fun vs n e ho hs=>same e ho
  | fmt=>exact x2_3 q fun es n ho hd he=>⟨Heap.lt_size ho,Heap.lt_size hd⟩
  | acc=>exact x4_4 q fun es n n' vs ho hd he hs=>⟨Heap.lt_size ho,Heap.lt_size hd⟩
  | ghost=>exact x3_2 q fun x y n e ho=>same e ho
  | gen=>exact x3_2 q fun n nm qn ho hL=>x2_2 hL.self fun mm q a uu=>⟨Heap.lt_size ho,a.lt⟩
  | out=>exact x2_2 q fun nm qn e ho=>same e ho
  | cell c x =>
    refine x0_2 q fun e z=>?_
    rw [e]
    cases x with
    | none=>exact ⟨z.lt,z.lt⟩
    | some y=>exact x1_2 z fun v ho q'=>⟨ho.lt,ho.lt⟩
  | ext=>exact let ⟨_,_,_,a,b,_⟩:=q; ⟨Heap.lt_size a,Heap.lt_size b⟩
end
section
variable {C:Cfg} {ρ ρ':Rho} {σ σ':St} {s s':Shared}
theorem EntR.go {h h':Heap} (S:Step C [] ρ ρ' h h') {r:List (Str × AV)} {es:List DictEntry} (q:EntR C ρ h r es):EntR C ρ' h' r es:=q.map (·.go S)
theorem ObjR.same {h h':Heap} (k:∀ b o,h.get? b=some o→h'.get? b=some o) (z:h.objs.size≤h'.objs.size) {p:Addr × Addr} {o:AO} (q:ObjR C ρ h p o):ObjR C ρ h' p o:=q.move (k _) (k _) (·.go (.same k z)) (fun uu z=>z) fun b o e uu=>k b o e
theorem Rel.same (R:Rel C ρ σ s) (k:∀ b o,s.heap.get? b=some o→s'.heap.get? b=some o) (z:s.heap.objs.size≤s'.heap.objs.size) (hg:GR C ρ σ s.heap s'.gens) (hd:s'.drawn=s.drawn) (ho:s'.os=s.os):Rel C ρ σ s' where
  old b o e n:=k b o (R.old b o e n)
  tab t ht:=let ⟨m,a,b⟩:=R.tab t ht; ⟨m,a.keeps k,b.keeps k⟩
  lo:=R.lo
  dis:=R.dis
  len:=R.len
  st l p o e e':=(R.st l p o e e').same k z
  gens:=hg.heap fun uu uu uu uu uu uu o e=>k _ o e
  drawn:=hd.trans R.drawn
  os:=ho.trans R.os
  size:=Nat.le_trans R.size z
theorem Rel.toks (R:Rel C ρ σ s) {n:Nat}:Rel C ρ σ { s with toks:=n }:=R.same (fun uu uu e=>e) (Nat.le_refl _) R.gens rfl rfl
theorem Rel.push (R:Rel C ρ σ s) (o:Obj) {n:Nat}:Rel C ρ σ { s with heap:=s.heap.push o,toks:=n } :=
  R.same (fun uu uu e=>Heap.get?_push_of_some _ e) (by show _≤(s.heap.push o).objs.size; rw [Heap.size_push]; (first | lia | omega)) R.gens rfl rfl
theorem Rel.fresh (R:Rel C ρ σ s):¬ Mut C ρ s.heap.objs.size:=by
  rintro (t | ⟨p,hp,e⟩)
  · (refine x1_2 (List.mem_map.mp t) fun x hx e=>?_)
    exact x1_2 (R.tab x hx) fun m uu ht=>Nat.ne_of_lt (Heap.lt_size ht.at_.2) e
  · obtain ⟨l,hl,rfl⟩:=List.mem_iff_getElem.mp hp
    have q:l < σ.length:=R.len▸hl
    have z:=(R.st l ρ[l] σ[l] (List.getElem?_eq_getElem hl) (List.getElem?_eq_getElem q)).lt
    exact e.elim (Nat.ne_of_lt z.1) (Nat.ne_of_lt z.2)
end
noncomputable def cE (x:AV):EM:=fun _ σ=>some (x,σ)
noncomputable def nE (i:Nat):EM:=fun lc σ=>match lc[i]? with | some (some x)=>some (x,σ) | _=>none
section
variable {C:Cfg} {d:Nat} {env:Env} {vars:List Str}
theorem den_int {i:Int} {k:Nat} {p:Pos}:DenE C d env vars (.Constant (.int i) k p) (cE (.int i)):=by
  intro lc σ x σ' hf A Q E s ρ hA R l kk
  (refine c2 hf fun hh0 hh1=>?_; clear hf; subst hh0; subst hh1)
  exact wpAny_Constant_int (kk _ _ ρ R.toks .refl (.int _ _))
theorem den_str {x:Str} {k:Nat} {p:Pos} (ok:PyData.strOk x=true):DenE C d env vars (.Constant (.str x) k p) (cE (.str x)):=by
  intro lc σ x σ' hf A Q E s ρ hA R l kk
  (refine c2 hf fun hh0 hh1=>?_; clear hf; subst hh0; subst hh1)
  exact wpAny_Constant_str (kk _ _ ρ R.toks .refl (.str _ _ ok))
theorem den_bool {b:Bool} {k:Nat} {p:Pos}:DenE C d env vars (.Constant (.bool b) k p) (cE (.bool b)):=by
  intro lc σ x σ' hf A Q E s ρ hA R l kk
  (refine c2 hf fun hh0 hh1=>?_; clear hf; subst hh0; subst hh1)
  exact wpAny_Constant_bool (kk _ _ ρ R .refl (.bool _))
theorem den_none {k:Nat} {p:Pos}:DenE C d env vars (.Constant .none k p) (cE .none):=by
  intro lc σ x σ' hf A Q E s ρ hA R l kk
  (refine c2 hf fun hh0 hh1=>?_; clear hf; subst hh0; subst hh1)
  exact wpAny_Constant_none (kk _ _ ρ R .refl .none)
theorem nE_some {i:Nat} {lc:Lc} {σ σ':St} {x:AV} (h:nE i lc σ=some (x,σ')):lc[i]?=some (some x)∧σ'=σ:=by
  unfold nE at h
  split at h
  · cases h; exact ⟨‹_›,rfl⟩
  · exact ns h
theorem load_name (H:EnvOk env vars) {i:Nat} {n:Str} (hi:vars[i]?=some n) {lc:Lc} {x:AV} (hx:lc[i]?=some (some x)) {A:Around} {Q:Value→Shared→Prop} {E:Value→Shared→Prop} {s:Shared} {ρ:Rho} (l:LcR C ρ s.heap env.locals vars lc)
    (k:∀ v,VR C ρ s.heap x v→Q v s):wpAny (model C.prog C.w) A (loadName env n) Q E s:=by
  obtain ⟨⟨m,hn,hv⟩,_⟩:=l
  (refine x2_3 (hv i x hx) fun n' v a b c=>?_)
  rw [hi] at a
  (refine c1 a fun hh0=>?_; clear a; subst hh0)
  exact wpAny_loadName_local H.kind (H.loc n (List.mem_of_getElem? hi)) hn b (k v c)
theorem den_name (H:EnvOk env vars) {n:Str} {i:Nat} {p:Pos} (hi:vars[i]?=some n) (hd:(n == ("__debug__" : Str))=false):DenE C d env vars (.Name n p) (nE i):=by
  intro lc σ x σ' hf A Q E s ρ hA R l kk
  (refine x0_2 (nE_some hf) fun hx rr1=>?_; subst rr1)
  exact wpAny_Name (load_name H hi hx l fun v q=>kk v s ρ R .refl q) hd
end
noncomputable def asList (σ:St) (x:AV):Option (List AV):=x.lst?.or (x.loc?.bind (lstAt σ))
section
variable {C:Cfg} {ρ:Rho} {σ:St} {s:Shared}
theorem Rel.obj (R:Rel C ρ σ s) {l:Nat} {o:AO} (e:σ[l]?=some o):∃ p,ρ[l]?=some p∧ObjR C ρ s.heap p o:=by
  have q:l < ρ.length:=R.len▸(List.getElem?_eq_some_iff.mp e).1
  exact ⟨ρ[l],List.getElem?_eq_getElem q,R.st l _ o (List.getElem?_eq_getElem q) e⟩
@[elab_as_elim] theorem Rel.acc_e (R:Rel C ρ σ s) {l:Nat} {ini:Int} {ps:List (Str × Str)} (hl:σ[l]?=some (.acc ini ps)) {v:Value} (q:VR C ρ s.heap (.loc l) v) {P:Value→Prop}
    (k:∀ a d es n n' vs,ρ[l]?=some (a,d)→s.heap.get? a=some ⟨.ref C.ACC,some d,.seq (List.toArray vs) n,#[]⟩→s.heap.get? d=some (dictOf es n')→EntR C ρ s.heap (accAttrs ini) es→VRs C ρ s.heap (ps.map partAV) vs→P (.ref a)):P v:=by
  refine q.loc_e fun p e=>?_
  exact x4_4 (R.st l p _ e hl) fun es n n' vs ho hd he hs=>k p.1 p.2 es n n' vs e ho hd he hs
@[elab_as_elim] theorem Rel.list_e (R:Rel C ρ σ s) {l:Nat} {xs:List AV} (hl:σ[l]?=some (.list xs)) {v:Value} (q:VR C ρ s.heap (.loc l) v) {P:Value→Prop}
    (k:∀ a vs n,ρ[l]?=some (a,a)→s.heap.get? a=some (lstObj vs n)→VRs C ρ s.heap xs vs→P (.ref a)):P v:=by
  refine q.loc_e fun p e=>?_
  exact x2_3 (R.st l p _ e hl) fun vs n z ho hs=>k p.1 vs n (e.trans (congrArg (fun b=>some (p.1,b)) z)) ho hs
@[elab_as_elim] theorem Rel.fmt_e (R:Rel C ρ σ s) {l:Nat} {ml:Int} {cw:Str} {cwl:Int} {sp:Str} {ln ac:Nat} (hl:σ[l]?=some (.fmt ml cw cwl sp ln ac)) {v:Value} (q:VR C ρ s.heap (.loc l) v) {P:Value→Prop}
    (k:∀ a d es n,ρ[l]?=some (a,d)→s.heap.get? a=some ⟨.ref C.VF,some d,.plain,#[]⟩→s.heap.get? d=some (dictOf es n)→EntR C ρ s.heap (fmtAttrs ml cw cwl sp ln ac) es→P (.ref a)):P v:=by
  refine q.loc_e fun p e=>?_
  exact x2_3 (R.st l p _ e hl) fun es n ho hd he=>k p.1 p.2 es n e ho hd he
theorem Rel.acc_at (R:Rel C ρ σ s) {l:Nat} {ini:Int} {ps:List (Str × Str)} {a d:Addr} (e:ρ[l]?=some (a,d)) (hl:σ[l]?=some (.acc ini ps)) {P:Prop}
    (k:∀ es n n' vs,s.heap.get? a=some ⟨.ref C.ACC,some d,.seq (List.toArray vs) n,#[]⟩→s.heap.get? d=some (dictOf es n')→EntR C ρ s.heap (accAttrs ini) es→VRs C ρ s.heap (ps.map partAV) vs→P):P:=x4_4 (R.st l _ _ e hl) k
noncomputable def selfL (lc:Lc):Option Nat:=lc[0]?.bind fun x=>x.bind AV.loc?
theorem selfL_inv {lc:Lc} {l:Nat} (h:selfL lc=some l):lc[0]?=some (some (.loc l)):=oB h fun x e h=>oB h fun y e1 h=>by rw [e,e1,AV.loc_inv h]
@[elab_as_elim] theorem Rel.asList_e (R:Rel C ρ σ s) {x:AV} {xs:List AV} {v:Value} (q:VR C ρ s.heap x v) (h:asList σ x=some xs) {P:Value→Prop} (k:∀ a vs n,s.heap.get? a=some (lstObj vs n)→VRs C ρ s.heap xs vs→P (.ref a)):P v:=by
  refine oO h (fun e=>q.lst_of e fun a vs n ho uu hs=>k a vs n ho hs) fun h=>oB h fun l e e'=>?_
  rw [AV.loc_inv e] at q
  exact R.list_e (lstAt_inv e') q fun a vs n uu ho hs=>k a vs n ho hs
theorem asList_rel (R:Rel C ρ σ s) {x:AV} {xs:List AV} {v:Value} (q:VR C ρ s.heap x v) (h:asList σ x=some xs):∃ a vs n,v=.ref a∧s.heap.get? a=some (lstObj vs n)∧VRs C ρ s.heap xs vs :=
  R.asList_e q h fun a vs n ho hs=>⟨a,vs,n,rfl,ho,hs⟩
end
noncomputable def twoI (a b:AV) (f:Int→Int→Option AV):Option AV:=a.int?.bind fun x=>b.int?.bind fun y=>f x y
noncomputable def aadd (σ:St) (a b:AV):Option AV :=
  (twoI a b fun x y=>some (.int (x + y))).or
  ((a.str?.bind fun x=>b.str?.bind fun y=>gd (decide (x.length + y.length≤sizeLine)) (.str (x++y))).or
  ((asList σ a).bind fun xs=>(asList σ b).bind fun ys=>gd (decide (xs.length + ys.length≤sizeLine)) (.lst (xs++ys))))
noncomputable def amul (a b:AV):Option AV :=
  (twoI a b fun x y=>gd (decide (x < 1000000∧-1000000 < x)) (.int (x * y))).or
  (a.str?.bind fun x=>b.int?.bind fun n=>gd (decide (x.length * n.toNat≤1000000∧n < 1000000∧-1000000 < n)) (.str (Txt.mul x n)))
noncomputable def abin (σ:St) (op:Operator) (a b:AV):Option AV:=match op with
  | .Add=>aadd σ a b
  | .Sub=>twoI a b fun x y=>some (.int (x - y))
  | .Mod=>twoI a b fun x y=>gd (y != 0) (.int (x.fmod y))
  | .FloorDiv=>twoI a b fun x y=>gd (decide (0 < y∧y < 1000000)) (.int (x.fdiv y))
  | .Mult=>amul a b
  | .Pow=>twoI a b fun x y=>gd (decide (2≤x∧x < 100∧0≤y∧y < 10)) (.int (x ^ y.toNat))
  | _=>none
theorem twoI_e {a b r:AV} {f:Int→Int→Option AV} {P:Prop} (h:twoI a b f=some r) (k:∀ x y,a.int?=some x→b.int?=some y→f x y=some r→P):P:=oB h fun x e1 h=>oB h fun y e2 h=>k x y e1 e2 h
theorem powOk {x y:Int} (h:2≤x∧x < 100∧0≤y∧y < 10):¬ Builtin.Int.intTooBig (((Builtin.Int.intBits x:Nat):Int) * y)=true:=by
  have b:Builtin.Int.intBits x≤64:=intBits_le_64 (by (first | lia | omega)) (by (first | lia | omega))
  have c:((Builtin.Int.intBits x:Nat):Int) * y≤64 * 10:=Int.mul_le_mul (by (first | lia | omega)) (by (first | lia | omega)) (by (first | lia | omega)) (by (first | lia | omega))
  unfold Builtin.Int.intTooBig
  rw [bitsLine_eq,decide_eq_true_eq]
  (first | lia | omega)
set_option tactic.hygienic true
theorem noPyl {x c:Int} (h:c.natAbs < 2 ^ 31):Builtin.divisionGoesByPylong x c=false:=by
  unfold Builtin.divisionGoesByPylong
  refine Bool.and_eq_false_iff.mpr (.inl (decide_eq_false ?_))
  dsimp only
  split
  · decide
  · rename_i hc
    have z:c.natAbs≠0:=fun z=>hc (by rw [Int.natAbs_eq_zero.mp z]; rfl)
    exact Nat.not_lt.mpr (Nat.le_trans (Nat.succ_le_succ (Nat.le_trans (Nat.div_le_self _ _) (Nat.le_of_lt_succ ((Nat.log2_lt z).mpr h)))) (by decide))
set_option tactic.hygienic false
theorem noPylong {a b:Int} (h:0 < b∧b < 1000000):Builtin.divisionGoesByPylong a b=false:=noPyl (by (first | lia | omega))
theorem mulOk_of {x:Str} {n:Int} (h:x.length * n.toNat≤1000000∧n < 1000000∧-1000000 < n):MulOk x n:=by
  (refine x0_3 (h) fun h1 h2 h3=>?_; clear h)
  refine ⟨?_,fun hn hx=>?_,fun hn hx=>?_⟩
  · rw [Bool.or_eq_false_iff,decide_eq_false_iff_not,decide_eq_false_iff_not]; (first | lia | omega)
  · have hl:x.length≤1000000:=by
      have:1≤n.toNat:=by (first | lia | omega)
      calc x.length=x.length * 1:=by (first | lia | omega)
        _≤x.length * n.toNat:=Nat.mul_le_mul_left _ this
        _≤_:=h1
    have:(9223372036854:Int)≤(2 ^ 63 - 1) / n:=by
      rw [Int.le_ediv_iff_mul_le (by (first | lia | omega))]
      (first | lia | omega)
    (first | lia | omega)
  · unfold Builtin.Str.tooLong
    exact decide_eq_false (by rw [sizeLine_eq]; (first | lia | omega))
theorem strOk_iff {x:Str}:PyData.strOk x=true↔∀ c∈x.cps.toList,c < 0x110000:=by
  unfold PyData.strOk
  rw [← Array.all_toList,List.all_eq_true]
  simp
theorem strOk_append {x y:Str} (a:PyData.strOk x=true) (b:PyData.strOk y=true):PyData.strOk (x++y)=true:=by
  rw [strOk_iff] at *
  intro c hc
  rw [Str.cps_append,Array.toList_append] at hc
  rcases List.mem_append.mp hc with h | h
  · exact a c h
  · exact b c h
theorem foldl_mem {x:Array Nat} {c:Nat}:∀ (n:Nat) (acc:Array Nat),c∈(List.foldl (fun x1 x2=>x1++x2) acc (List.replicate n x)).toList→c∈acc.toList∨c∈x.toList
  | 0,acc,h=>.inl h
  | n + 1,acc,h=>by
    rw [List.replicate_succ,List.foldl_cons] at h
    rcases foldl_mem n _ h with h | h
    · rw [Array.toList_append] at h
      exact List.mem_append.mp h
    · exact .inr h
theorem strOk_mul {x:Str} {n:Int} (a:PyData.strOk x=true):PyData.strOk (Txt.mul x n)=true:=by
  unfold Txt.mul
  split
  · decide +kernel
  · split
    · exact a
    · rw [strOk_iff] at *
      intro c hc
      rcases foldl_mem _ _ hc with h | h
      · simp at h
      · exact a c h
theorem abin_rel {C:Cfg} {ρ:Rho} {σ:St} {s:Shared} {A:Around} {Q:Value→Shared→Prop} {E:Value→Shared→Prop} {op:Operator} {a b x:AV} {va vb:Value} (R:Rel C ρ σ s) (qa:VR C ρ s.heap a va) (qb:VR C ρ s.heap b vb) (h:abin σ op a b=some x)
    (k:∀ v s',Rel C ρ σ s'→Step C [] ρ ρ s.heap s'.heap→VR C ρ s'.heap x v→Q v s'):wpAny (model C.prog C.w) A (binaryOp op va vb) Q E s:=by
  have kI:∀ {i:Int},some (AV.int i)=some x→Q (.int i s.toks) { s with toks:=s.toks + 1 }:=fun e=>k _ _ R.toks .refl (Option.some.inj e▸.int _ _)
  cases op with
  | Add =>
    have h:aadd σ a b=some x:=h
    refine oO h (fun h=>twoI_e h fun i j e1 e2 h=>?_) fun h=>oO h (fun h=>oB h fun i e1 h=>oB h fun j e2 h=>oG h fun hh h=>?_) fun h=>oB h fun xs e1 h=>oB h fun ys e2 h=>oG h fun hh h=>?_
    · exact qa.int_of e1 fun uu=>qb.int_of e2 fun uu=>add_int (kI h)
    · exact qa.str_of e1 fun uu o1=>qb.str_of e2 fun uu o2=>add_str (fun t tk=>k _ _ R.toks .refl (h▸.str _ _ (strOk_append o1 o2))) (of_decide_eq_true hh)
    · refine R.asList_e qa e1 fun p vs n ho hs=>R.asList_e qb e2 fun p' vs' n' ho' hs'=>?_
      refine P.add_list ho ho' ?_ (by rw [List.size_toArray,List.size_toArray,hs.length,hs'.length]; exact of_decide_eq_true hh)
      refine k _ _ (R.push _ (n:=s.toks)) (.pushObj _) (h▸.lst (vs:=vs++vs') (n:=0) ?_ R.fresh ((hs.append hs').go (.pushObj _)))
      exact (Heap.get?_push_size _ rfl).trans (by rw [List.append_toArray])
  | Sub=>exact twoI_e h fun i j e1 e2 h=>qa.int_of e1 fun uu=>qb.int_of e2 fun uu=>sub_int (kI h)
  | Mod=>exact twoI_e h fun i j e1 e2 h=>oG h fun hh h=>qa.int_of e1 fun uu=>qb.int_of e2 fun uu=>mod_int' (bne_iff_ne.mp hh) (kI (congrArg some h))
  | FloorDiv=>exact twoI_e h fun i j e1 e2 h=>oG h fun hh h=>qa.int_of e1 fun uu=>qb.int_of e2 fun uu=>floordiv_int (Int.ne_of_gt (of_decide_eq_true hh).1) (kI (congrArg some h)) (.inl (noPylong (of_decide_eq_true hh)))
  | Mult =>
    have h:amul a b=some x:=h
    refine oO h (fun h=>twoI_e h fun i j e1 e2 h=>oG h fun hh h=>?_) fun h=>oB h fun i e1 h=>oB h fun j e2 h=>oG h fun hh h=>?_
    · have hh:=of_decide_eq_true hh
      exact qa.int_of e1 fun uu=>qb.int_of e2 fun uu=>mul_int (kI (congrArg some h)) (IntMulOk.of_left (intBits_le_64 (by (first | lia | omega)) (by (first | lia | omega))))
    · exact qa.str_of e1 fun uu o1=>qb.int_of e2 fun uu=>SB.mul (mulOk_of (of_decide_eq_true hh)) fun t tk=>k _ _ R.toks .refl (h▸.str _ _ (strOk_mul o1))
  | Pow =>
    refine twoI_e h fun i j e1 e2 h=>oG h fun hh h=>qa.int_of e1 fun uu=>qb.int_of e2 fun uu=>?_
    have hh:=of_decide_eq_true hh
    by_cases z:j=0
    · subst z
      exact AutoIntOps.pow_0 (by decide) rfl (kI ((congrArg (fun n=>some (AV.int n)) (Int.pow_zero i).symm).trans (congrArg some h)))
    · exact AutoIntOps.pow_4 hh.2.2.1 (by simpa using z) (by simp; (first | lia | omega)) (by simp; (first | lia | omega)) (powOk hh) (kI (congrArg some h))
  | _=>exact nomatch h
noncomputable def binE (op:Operator) (f g:EM):EM:=fun lc σ=>(f lc σ).bind fun p=>(g lc p.2).bind fun q=>(abin q.2 op p.1 q.1).map (·,q.2)
theorem den_bin {C:Cfg} {d:Nat} {env:Env} {vars:List Str} {l r:Expr} {op:Operator} {p:Pos} {f g:EM} (D1:DenE C d env vars l f) (D2:DenE C d env vars r g):DenE C d env vars (.BinOp l op r p) (binE op f g):=by
  intro lc σ x σ' hf A Q E s ρ hA R lr kk
  refine oB hf fun a e1 hf=>oB hf fun b e2 hf=>oM hf fun y hy e=>?_
  refine wpAny_BinOp (D1 _ _ _ _ e1 A _ E s ρ hA R lr fun va s₁ ρ₁ R₁ S₁ q₁=>D2 _ _ _ _ e2 A _ E s₁ ρ₁ hA R₁ (lr.go S₁) fun vb s₂ ρ₂ R₂ S₂ q₂=>?_)
  exact abin_rel R₂ (q₁.go S₂) q₂ hy fun v s₃ R₃ S₃ q₃=>kfe kk e v s₃ ρ₂ R₃ ((S₁.trans S₂).trans S₃) q₃
noncomputable def optAll {α β:Type} (f:α→Option β):List α→Option (List β)
  | []=>some []
  | x :: xs=>(f x).bind fun y=>(optAll f xs).map (y :: ·)
noncomputable def pd0:AV→Option PyData
  | .none=>some .none
  | .bool b=>some (.bool b)
  | .int i=>some (.int i)
  | .str x=>some (.str x)
  | .tup _=>none
  | .lst _=>none
  | .loc _=>none
noncomputable def pdc (σ:St) (f:AV→Option PyData) (x:AV):Option PyData:=(x.tup?.bind fun xs=>(optAll f xs).map .tuple).or ((asList σ x).bind fun xs=>(optAll f xs).map .list)
noncomputable def toPD (σ:St):Nat→AV→Option PyData
  | 0,x=>pd0 x
  | n + 1,x=>(pd0 x).or (pdc σ (toPD σ n) x)
section
variable {C:Cfg} {ρ:Rho} {σ:St} {s:Shared}
theorem canLayAll_cons {x:PyData} {xs:List PyData}:PyData.canLayAll0 (x :: xs)=(x.canLay0 && PyData.canLayAll0 xs):=by rw [PyData.canLayAll0]
theorem toPD_all {n:Nat} {f:AV→Option PyData} (ih:∀ {x:AV} {d:PyData} {v:Value},VR C ρ s.heap x v→f x=some d→(∃ as,Reads s.heap v d as)∧d.canLay0=true∧d.depth≤n) :
    ∀ {xs:List AV} {ds:List PyData} {vs:List Value},VRs C ρ s.heap xs vs→optAll f xs=some ds→(∃ as,ReadsAll s.heap vs ds as)∧PyData.canLayAll0 ds=true∧PyData.depthAll ds≤n:=fun q e =>
  q.ind (P:=fun xs vs=>∀ ds,optAll f xs=some ds→(∃ as,ReadsAll s.heap vs ds as)∧PyData.canLayAll0 ds=true∧PyData.depthAll ds≤n) (fun ds e=>Option.some.inj e▸⟨⟨_,.nil⟩,by rw [PyData.canLayAll0],by rw [PyData.depthAll]; exact Nat.zero_le _⟩) (fun a uu ihs ds h =>
    oB h fun y e1 h=>oM h fun ys e2 e=>e▸x0_3 (ih a e1) fun r1 c1 d1=>x0_3 (ihs ys e2) fun r2 c2 d2=>x1_1 r1 fun uu r1=>x1_1 r2 fun uu r2 =>
      ⟨⟨_,.cons r1 r2⟩,by rw [canLayAll_cons,c1,c2]; rfl,by rw [PyData.depthAll]; exact Nat.max_le.mpr ⟨d1,d2⟩⟩) _ e
theorem pd0_rel {h:Heap} {x:AV} {d:PyData} {v:Value} (q:VR C ρ h x v) (e:pd0 x=some d):(∃ as,Reads h v d as)∧d.canLay0=true∧d.depth≤0:=by
  have z:∀ {y:PyData},some y=some d→((∃ as,Reads h v y as)∧y.canLay0=true∧y.depth≤0)→(∃ as,Reads h v d as)∧d.canLay0=true∧d.depth≤0:=fun e z=>Option.some.inj e▸z
  cases q with
  | none=>exact z e ⟨⟨_,.none⟩,rfl,by rw [PyData.depth]; exact Nat.le_refl _⟩
  | bool b=>exact z e ⟨⟨_,.bool _⟩,rfl,by rw [PyData.depth]; exact Nat.le_refl _⟩
  | int i t=>exact z e ⟨⟨_,.int _ _⟩,rfl,by rw [PyData.depth]; exact Nat.le_refl _⟩
  | str x t ok=>exact z e ⟨⟨_,.str _ _⟩,by rw [PyData.canLay0]; exact ok,by rw [PyData.depth]; exact Nat.le_refl _⟩
  | _=>exact nomatch e
theorem toPD_rel (R:Rel C ρ σ s):∀ {n:Nat} {x:AV} {d:PyData} {v:Value},VR C ρ s.heap x v→toPD σ n x=some d→(∃ as,Reads s.heap v d as)∧d.canLay0=true∧d.depth≤n:=by
  intro n
  induction n with
  | zero=>exact pd0_rel
  | succ n ih =>
    intro x d v q h
    refine oO h (fun h=>x0_3 (pd0_rel q h) fun a b c=>⟨a,b,Nat.le_trans c (Nat.zero_le _)⟩) fun h=>oO h (fun h=>oB h fun xs e1 h=>oM h fun ds e2 e=>e▸?_) fun h=>oB h fun xs e1 h=>oM h fun ds e2 e=>e▸?_
    · exact q.tup_of e1 fun a vs m ho uu hs=>x0_3 (toPD_all ih hs e2) fun r c dd=>x1_1 r fun uu r=>⟨⟨_,.tuple ho rfl rfl r⟩,by rw [PyData.canLay0]; exact c,by rw [PyData.depth]; exact Nat.succ_le_succ dd⟩
    · exact R.asList_e q e1 fun a vs m ho hs=>x0_3 (toPD_all ih hs e2) fun r c dd=>x1_1 r fun uu r=>⟨⟨_,.list ho rfl rfl r⟩,by rw [PyData.canLay0]; exact c,by rw [PyData.depth]; exact Nat.succ_le_succ dd⟩
end
noncomputable def aeqv (σ:St) (a b:AV):Option Bool:=(toPD σ 4 a).bind fun x=>(toPD σ 4 b).map fun y=>PyData.eqv x y
noncomputable def isNone:AV→Bool
  | .none=>true
  | .bool _=>false
  | .int _=>false
  | .str _=>false
  | .tup _=>false
  | .lst _=>false
  | .loc _=>false
noncomputable def twoInts (a b:AV) (f:Int→Int→Bool):Option Bool:=a.int?.bind fun x=>b.int?.map fun y=>f x y
noncomputable def acmp (σ:St) (op:CmpOp) (a b:AV):Option Bool:=match op with
  | .Eq=>aeqv σ a b
  | .NotEq=>(aeqv σ a b).map not
  | .Lt=>twoInts a b fun x y=>decide (x < y)
  | .LtE=>twoInts a b fun x y=>decide (x≤y)
  | .Gt=>twoInts a b fun x y=>decide (y < x)
  | .GtE=>twoInts a b fun x y=>decide (y≤x)
  | .Is=>gd (isNone b) (isNone a)
  | .IsNot=>gd (isNone b) (!isNone a)
  | .In=>a.str?.bind fun y=>b.str?.map fun x=>Txt.contains x y
  | .NotIn=>a.str?.bind fun y=>b.str?.map fun x=>!Txt.contains x y
theorem twoInts_e {a b:AV} {f:Int→Int→Bool} {r:Bool} {P:Prop} (h:twoInts a b f=some r) (k:∀ x y,a.int?=some x→b.int?=some y→f x y=r→P):P:=oB h fun x e1 h=>oM h fun y e2 h=>k x y e1 e2 h
theorem isNone_inv {a:AV} (h:isNone a=true):a=.none:=by
  cases a with
  | none=>rfl
  | _=>exact nomatch h
theorem isNone_val {C:Cfg} {ρ:Rho} {h:Heap} {a:AV} {v:Value} (q:VR C ρ h a v):(v == Value.none)=isNone a:=by cases q <;> rfl
theorem aeqv_e {C:Cfg} {ρ:Rho} {σ:St} {s:Shared} {a b:AV} {r:Bool} {va vb:Value} {P:Prop} (R:Rel C ρ σ s) (qa:VR C ρ s.heap a va) (qb:VR C ρ s.heap b vb) (h:aeqv σ a b=some r)
    (k:∀ y z as bs,Reads s.heap va y as→Reads s.heap vb z bs→y.canLay0=true→z.canLay0=true→y.depth≤4→z.depth≤4→PyData.eqv y z=r→P):P :=
  oB h fun y e1 h=>oM h fun z e2 e=>x0_3 (toPD_rel R qa e1) fun r1 c d1=>x0_3 (toPD_rel R qb e2) fun r2 c' d2=>x1_1 r1 fun as r1=>x1_1 r2 fun bs r2=>k y z as bs r1 r2 c c' d1 d2 e
theorem acmp_rel {C:Cfg} {ρ:Rho} {σ:St} {s:Shared} {A:Around} {Q:Value→Shared→Prop} {E:Value→Shared→Prop} {op:CmpOp} {a b:AV} {x:Bool} {va vb:Value} (hA:AOk C 1 A) (R:Rel C ρ σ s) (qa:VR C ρ s.heap a va) (qb:VR C ρ s.heap b vb) (h:acmp σ op a b=some x)
    (k:Q (.bool x) s):wpAny (model C.prog C.w) A (compareOp op va vb) Q E s:=by
  have hu:=hA.2.2.1
  cases op with
  | Eq=>exact aeqv_e R qa qb h fun y z as bs r r' c c' dd dd' e=>SeqAt.compareEq_reads r r' c c' (by (first | lia | omega)) (e▸k)
  | NotEq=>exact oM h fun u hu' e'=>aeqv_e R qa qb hu' fun y z as bs r r' c c' dd dd' e=>SeqAt.compareNe_reads r r' c c' (by (first | lia | omega)) (e▸e'▸k)
  | Lt=>exact twoInts_e h fun i j e1 e2 e=>qa.int_of e1 fun uu=>qb.int_of e2 fun uu=>lt_int (e▸k)
  | LtE=>exact twoInts_e h fun i j e1 e2 e=>qa.int_of e1 fun uu=>qb.int_of e2 fun uu=>le_int (e▸k)
  | Gt=>exact twoInts_e h fun i j e1 e2 e=>qa.int_of e1 fun uu=>qb.int_of e2 fun uu=>gt_int (e▸k)
  | GtE=>exact twoInts_e h fun i j e1 e2 e=>qa.int_of e1 fun uu=>qb.int_of e2 fun uu=>ge_int (e▸k)
  | Is=>exact oG h fun hb e=>(isNone_inv hb▸qb:VR C ρ s.heap .none vb).none_e (is_none_gen ((isNone_val qa).trans e▸k))
  | IsNot=>exact oG h fun hb e=>(isNone_inv hb▸qb:VR C ρ s.heap .none vb).none_e (isnot_none_gen ((congrArg not (isNone_val qa)).trans e▸k))
  | In=>exact oB h fun y e1 h=>oM h fun z e2 e=>qa.str_of e1 fun uu uu=>qb.str_of e2 fun uu uu=>P.in_str (show Q (.bool (Txt.contains z y)) s from e▸k)
  | NotIn=>exact oB h fun y e1 h=>oM h fun z e2 e=>qa.str_of e1 fun uu uu=>qb.str_of e2 fun uu uu=>P.notIn_str (show Q (.bool (!Txt.contains z y)) s from e▸k)
noncomputable def cmpT (op:CmpOp) (f g:EM):TM:=fun lc σ=>(f lc σ).bind fun p=>(g lc p.2).bind fun q=>(acmp q.2 op p.1 q.1).map (·,q.2)
noncomputable def tE (f:TM):EM:=fun lc σ=>(f lc σ).map fun p=>(.bool p.1,p.2)
section
variable {C:Cfg} {d:Nat} {env:Env} {vars:List Str} {l r:Expr} {p:Pos}
theorem den_cmp {op:CmpOp} {f g:EM} (D1:DenE C (d + 1) env vars l f) (D2:DenE C (d + 1) env vars r g) (hb:behindInMarks op r=false):DenE C (d + 1) env vars (.Compare l [op] [r] p) (tE (cmpT op f g)):=by
  intro lc σ x σ' hf A Q E s ρ hA R lr kk
  refine oM hf fun y hy e=>oB hy fun a e1 hy=>oB hy fun b e2 hy=>oM hy fun c e3 e'=>?_
  have kk:=kfe kk ((congrArg (fun p:Bool × St=>(AV.bool p.1,p.2)) e').trans e)
  refine wpAny_Compare1 (D1 _ _ _ _ e1 A _ E s ρ hA R lr fun va s₁ ρ₁ R₁ S₁ q₁=>D2 _ _ _ _ e2 A _ E s₁ ρ₁ hA R₁ (lr.go S₁) fun vb s₂ ρ₂ R₂ S₂ q₂=>?_) hb
  exact acmp_rel (hA.mono (Nat.le_add_left ..)) R₂ (q₁.go S₂) q₂ e3 (kk _ s₂ ρ₂ R₂ (S₁.trans S₂) (.bool _))
theorem den_cmpT {op:CmpOp} {f g:EM} (D1:DenE C (d + 1) env vars l f) (D2:DenE C (d + 1) env vars r g) (hb:behindInMarks op r=false):DenT C (d + 1) env vars (.Compare l [op] [r] p) (cmpT op f g):=by
  intro lc σ x σ' hf A Q E s ρ hA R lr kk
  refine oB hf fun a e1 hf=>oB hf fun b e2 hf=>oM hf fun c e3 e'=>?_
  refine wpAny_isTrue_Compare1 (D1 _ _ _ _ e1 A _ E s ρ hA R lr fun va s₁ ρ₁ R₁ S₁ q₁=>D2 _ _ _ _ e2 A _ E s₁ ρ₁ hA R₁ (lr.go S₁) fun vb s₂ ρ₂ R₂ S₂ q₂=>?_) hb
  exact acmp_rel (hA.mono (Nat.le_add_left ..)) R₂ (q₁.go S₂) q₂ e3 (wpAny_truthy_bool (kft kk e' s₂ ρ₂ R₂ (S₁.trans S₂)))
noncomputable def at0:AV→Option Bool
  | .none=>some false
  | .bool b=>some b
  | .int i=>some (i != 0)
  | .str x=>gd (decide (x.length≤sizeLine)) ((x.length:Int) != 0)
  | .tup _=>none
  | .lst _=>none
  | .loc _=>none
noncomputable def atruth (σ:St) (x:AV):Option Bool:=(at0 x).or ((asList σ x).bind fun xs=>gd (decide (xs.length≤sizeLine)) (!xs.isEmpty))
theorem atruth_rel {ρ:Rho} {σ:St} {s:Shared} {A:Around} {Q:Bool→Shared→Prop} {E:Value→Shared→Prop} {a:AV} {x:Bool} {va:Value} (R:Rel C ρ σ s) (qa:VR C ρ s.heap a va) (h:atruth σ a=some x)
    (k:∀ s',Rel C ρ σ s'→Step C [] ρ ρ s.heap s'.heap→Q x s'):wpAny (model C.prog C.w) A (truthy va) Q E s:=by
  have hz:=sizeLine_eq
  refine oO h (fun h=>?_) fun h=>oB h fun xs e1 h=>oG h fun hh e=>?_
  · have k0:∀ {b:Bool} {n:Nat},some b=some x→Q b { s with toks:=n }:=fun e=>Option.some.inj e▸k _ R.toks .refl
    cases qa with
    | none=>exact truthy_none (k0 h)
    | bool=>exact wpAny_truthy_bool (k0 h)
    | int=>exact P.truthy_int (k0 h)
    | str y t=>exact oG h fun hh e=>P.truthy_str (by have:=of_decide_eq_true hh; (first | lia | omega)) (k0 (congrArg some e))
    | _=>exact nomatch h
  · refine R.asList_e qa e1 fun p vs n ho hs=>?_
    refine wpAny_truthy_list (IsL.isList ho) (by rw [List.size_toArray,hs.length]; have:=of_decide_eq_true hh; (first | lia | omega)) ?_
    have e2:(!vs.toArray.isEmpty)=!xs.isEmpty:=hs.ind (P:=fun xs vs=>(!(List.toArray vs).isEmpty)=!xs.isEmpty) rfl (fun uu uu uu=>by simp)
    exact (e2.trans e)▸k _ R.toks .refl
noncomputable def trT (f:EM):TM:=fun lc σ=>(f lc σ).bind fun p=>(atruth p.2 p.1).map (·,p.2)
theorem den_truth {e:Expr} {f:EM} (D:DenE C d env vars e f) (hp:∀ whole,isTrue e env whole=(do let v ← whole; standAt e.pos; holding [v] (truthy v))):DenT C d env vars e (trT f):=by
  intro lc σ x σ' hf A Q E s ρ hA R lr kk
  refine oB hf fun a e1 hf=>oM hf fun y hy e2=>?_
  refine wpAny_isTrue_value (D _ _ _ _ e1 A _ E s ρ hA R lr fun va s₁ ρ₁ R₁ S₁ q₁=>?_) (hp _)
  exact atruth_rel R₁ q₁ hy fun s₂ R₂ S₂=>kft kk e2 s₂ ρ₁ R₂ (S₁.trans S₂)
noncomputable def notT (f:TM):TM:=fun lc σ=>(f lc σ).map fun p=>(!p.1,p.2)
theorem den_notT {e:Expr} {f:TM} (D:DenT C d env vars e f):DenT C d env vars (.UnaryOp .Not e p) (notT f):=by
  intro lc σ x σ' hf A Q E s ρ hA R lr kk
  exact oM hf fun y hy e=>wpAny_isTrue_Not (D _ _ _ _ hy A _ E s ρ hA R lr fun s₁ ρ₁ R₁ S₁=>kft kk e s₁ ρ₁ R₁ S₁)
noncomputable def andT:List TM→TM
  | []=>fun _ σ=>some (true,σ)
  | f :: r=>fun lc σ=>(f lc σ).bind fun p=>if p.1 then andT r lc p.2 else some (false,p.2)
noncomputable def orT:List TM→TM
  | []=>fun _ σ=>some (false,σ)
  | f :: r=>fun lc σ=>(f lc σ).bind fun p=>if p.1 then some (true,p.2) else orT r lc p.2
inductive DenTs (C:Cfg) (d:Nat) (env:Env) (vars:List Str):List Expr→List TM→Prop
  | nil:DenTs C d env vars [] []
  | cons {e:Expr} {f:TM} {es:List Expr} {fs:List TM} (a:DenT C d env vars e f) (b:DenTs C d env vars es fs):DenTs C d env vars (e :: es) (f :: fs)
theorem den_andT {es:List Expr} {fs:List TM} (D:DenTs C d env vars es fs):DenT C d env vars (.BoolOp .And es p) (andT fs):=by
  intro lc σ x σ' hf A Q E s ρ hA R lr kk
  refine wpAny_isTrue_BoolOp ?_
  induction D generalizing σ s ρ with
  | nil=>exact wpAny_allTrue_And_nil (kfT kk hf s ρ R .refl)
  | cons a b ih =>
    refine oB hf fun y e1 hf=>?_
    rcases y with ⟨⟨⟩,σ₁⟩
    · exact wpAny_allTrue_And_cons (a _ _ _ _ e1 A _ E s ρ hA R lr fun s₁ ρ₁ R₁ S₁=>kfT kk hf s₁ ρ₁ R₁ S₁)
    · exact wpAny_allTrue_And_cons (a _ _ _ _ e1 A _ E s ρ hA R lr fun s₁ ρ₁ R₁ S₁=>ih _ hf s₁ ρ₁ R₁ (lr.go S₁) fun s₂ ρ₂ R₂ S₂=>kk s₂ ρ₂ R₂ (S₁.trans S₂))
theorem den_orT {es:List Expr} {fs:List TM} (D:DenTs C d env vars es fs):DenT C d env vars (.BoolOp .Or es p) (orT fs):=by
  intro lc σ x σ' hf A Q E s ρ hA R lr kk
  refine wpAny_isTrue_BoolOp ?_
  induction D generalizing σ s ρ with
  | nil=>exact wpAny_allTrue_Or_nil (kfT kk hf s ρ R .refl)
  | cons a b ih =>
    refine oB hf fun y e1 hf=>?_
    rcases y with ⟨⟨⟩,σ₁⟩
    · exact wpAny_allTrue_Or_cons (a _ _ _ _ e1 A _ E s ρ hA R lr fun s₁ ρ₁ R₁ S₁=>ih _ hf s₁ ρ₁ R₁ (lr.go S₁) fun s₂ ρ₂ R₂ S₂=>kk s₂ ρ₂ R₂ (S₁.trans S₂))
    · exact wpAny_allTrue_Or_cons (a _ _ _ _ e1 A _ E s ρ hA R lr fun s₁ ρ₁ R₁ S₁=>kfT kk hf s₁ ρ₁ R₁ S₁)
noncomputable def andE (f g:EM):EM:=fun lc σ=>(f lc σ).bind fun p=>(atruth p.2 p.1).bind fun t=>if t then g lc p.2 else some p
noncomputable def orE (f g:EM):EM:=fun lc σ=>(f lc σ).bind fun p=>(atruth p.2 p.1).bind fun t=>if t then some p else g lc p.2
theorem den_andE {f g:EM} (D1:DenE C d env vars l f) (D2:DenE C d env vars r g):DenE C d env vars (.BoolOp .And [l,r] p) (andE f g):=by
  intro lc σ x σ' hf A Q E s ρ hA R lr kk
  refine oB hf fun a e1 hf=>oB hf fun t e2 hf=>?_
  refine wpAny_And2 (D1 _ _ _ _ e1 A _ E s ρ hA R lr fun va s₁ ρ₁ R₁ S₁ q₁=>atruth_rel R₁ q₁ e2 fun s₂ R₂ S₂=>?_)
  cases t with
  | true=>exact D2 _ _ _ _ hf A _ E s₂ ρ₁ hA R₂ (lr.go (S₁.trans S₂)) fun v s₃ ρ₃ R₃ S₃ q₃=>kk v s₃ ρ₃ R₃ ((S₁.trans S₂).trans S₃) q₃
  | false=>exact kfE kk hf va s₂ ρ₁ R₂ (S₁.trans S₂) (q₁.go S₂)
theorem den_orE {f g:EM} (D1:DenE C d env vars l f) (D2:DenE C d env vars r g):DenE C d env vars (.BoolOp .Or [l,r] p) (orE f g):=by
  intro lc σ x σ' hf A Q E s ρ hA R lr kk
  refine oB hf fun a e1 hf=>oB hf fun t e2 hf=>?_
  refine wpAny_Or2 (D1 _ _ _ _ e1 A _ E s ρ hA R lr fun va s₁ ρ₁ R₁ S₁ q₁=>atruth_rel R₁ q₁ e2 fun s₂ R₂ S₂=>?_)
  cases t with
  | false=>exact D2 _ _ _ _ hf A _ E s₂ ρ₁ hA R₂ (lr.go (S₁.trans S₂)) fun v s₃ ρ₃ R₃ S₃ q₃=>kk v s₃ ρ₃ R₃ ((S₁.trans S₂).trans S₃) q₃
  | true=>exact kfE kk hf va s₂ ρ₁ R₂ (S₁.trans S₂) (q₁.go S₂)
noncomputable def iteE (t:TM) (f g:EM):EM:=fun lc σ=>(t lc σ).bind fun p=>if p.1 then f lc p.2 else g lc p.2
theorem den_ite {c:Expr} {t:TM} {f g:EM} (D0:DenT C d env vars c t) (D1:DenE C d env vars l f) (D2:DenE C d env vars r g):DenE C d env vars (.IfExp c l r p) (iteE t f g):=by
  intro lc σ x σ' hf A Q E s ρ hA R lr kk
  refine oB hf fun y e1 hf=>?_
  rcases y with ⟨⟨⟩,σ₁⟩
  · exact wpAny_IfExp (D0 _ _ _ _ e1 A _ E s ρ hA R lr fun s₁ ρ₁ R₁ S₁=>D2 _ _ _ _ hf A _ E s₁ ρ₁ hA R₁ (lr.go S₁) fun v s₂ ρ₂ R₂ S₂ q₂=>kk v s₂ ρ₂ R₂ (S₁.trans S₂) q₂)
  · exact wpAny_IfExp (D0 _ _ _ _ e1 A _ E s ρ hA R lr fun s₁ ρ₁ R₁ S₁=>D1 _ _ _ _ hf A _ E s₁ ρ₁ hA R₁ (lr.go S₁) fun v s₂ ρ₂ R₂ S₂ q₂=>kk v s₂ ρ₂ R₂ (S₁.trans S₂) q₂)
end
section
variable {C:Cfg} {ρ ρ':Rho} {σ:St} {s:Shared} {L:Addr} {h':Heap} {m m':Str→Option Value}
theorem one_noSeq {h:Heap} {o:Obj} (e:h.get? L=some o) (hn:∀ vs n,o.data≠.seq vs n):∀ a o vs n,a∈[L]→h.get? a=some o→o.data≠.seq vs n:=fun a o' vs n ha e'=>Option.some.inj (e.symm.trans (List.mem_singleton.mp ha▸e'))▸hn vs n
theorem ns_noSeq {h:Heap} (hn:h.Ns L m):∀ a o vs n,a∈[L]→h.get? a=some o→o.data≠.seq vs n:=x3_3 hn fun o es ep ho hd uu=>one_noSeq ho fun vs n z=>Data.noConfusion (hd.symm.trans z)
theorem EntR.step {W:List Addr} {h h':Heap} (S:Step C W ρ ρ' h h') (hW:∀ a o vs n,a∈W→h.get? a=some o→o.data≠.seq vs n):∀ {r:List (Str × AV)} {es:List DictEntry},EntR C ρ h r es→EntR C ρ' h' r es:=fun q=>q.map (·.step S hW)
theorem stepWrite {h h':Heap} (hs:Heap.SameBut L h h'):Step C [L] ρ ρ h h':=⟨by rw [hs.1]; exact Nat.le_refl _,fun b o e uu w=>(hs.2 b (by simpa using w)).trans e,[],by simp,fun uu hp=>nomatch hp⟩
theorem Rel.moves (R:Rel C ρ σ s) {Is:List Addr} {n:Nat} (hf:∀ J∈Is,∃ o,s.heap.get? J=some o∧(∀ vs n,o.data≠.seq vs n)∧(o.cls=.type "code" → ∀ vs,o.data≠.fields vs)) (hm:∀ J∈Is,¬ Mut C ρ J) (hl:∀ J∈Is,C.s₁.heap.objs.size≤J)
    (k:∀ b o,b∉Is→s.heap.get? b=some o→h'.get? b=some o) (z:s.heap.objs.size≤h'.objs.size):Rel C ρ σ { s with heap:=h',toks:=n }∧Step C Is ρ ρ s.heap h':=by
  have S:Step C Is ρ ρ s.heap h':=⟨z,fun b o e uu w=>k b o w e,[],by rw [List.append_nil],fun uu hp=>nomatch hp⟩
  have W:∀ a o vs n,a∈Is→s.heap.get? a=some o→o.data≠.seq vs n:=fun a o vs n ha e=>x1_3 (hf a ha) fun o' e' hn uu=>Option.some.inj (e'.symm.trans e)▸hn vs n
  have own:∀ {p:Addr × Addr} {l:Nat},ρ[l]?=some p→p.1∉Is∧p.2∉Is:=fun {p l} e=>⟨fun z=>hm _ z (.inr ⟨p,List.mem_of_getElem? e,.inl rfl⟩),fun z=>hm _ z (.inr ⟨p,List.mem_of_getElem? e,.inr rfl⟩)⟩
  have kc:∀ b' o,s.heap.get? b'=some o→CodeOb o→h'.get? b'=some o:=fun b' o ho hc=>k _ o (fun m=>x1_3 (hf _ m) fun o' e' uu hn=>x1_1 hc.2 fun vs hd=>by
    have z:=Option.some.inj (ho.symm.trans e')
    exact hn (z▸hc.1) vs (z▸hd)) ho
  refine ⟨⟨fun b o e nt=>k b o (fun m=>Nat.not_lt.mpr (hl b m) (Heap.lt_size e)) (R.old b o e nt),fun t ht=>x1_2 (R.tab t ht) fun more a b=>?_,R.lo,R.dis,R.len,fun l p o e e'=>?_,R.gens.heap (fun uu uu uu e uu uu o ho=>k _ o (own e).1 ho),R.drawn,R.os,Nat.le_trans R.size z⟩,S⟩
  · have hP:t.2.1∉Is:=fun m=>hm _ m (.inl (List.mem_map.mpr ⟨t,ht,rfl⟩))
    exact ⟨more,a.at2 (fun o e=>x2_4 b.at_.1 fun o' vs ho hcl hd uu=>kc _ o e (Option.some.inj (ho.symm.trans e)▸⟨hcl,vs,hd⟩)) (fun o e=>k _ o hP e),b.move kc (fun o e=>k _ o hP e)⟩
  · exact (R.st l p o e e').move (fun ob z=>k _ _ (own e).1 z) (fun ob z=>k _ _ (own e).2 z) (·.step S W) (fun uu z=>z) kc
theorem Rel.writeX (R:Rel C ρ σ s) {oL:Obj} (hL:s.heap.get? L=some oL) (nf:∀ vs,oL.data≠.fields vs) (ns:∀ vs n,oL.data≠.seq vs n) (hm:¬ Mut C ρ L) (hl:C.s₁.heap.objs.size≤L) (hs:Heap.SameBut L s.heap h') {n:Nat}:Rel C ρ σ { s with heap:=h',toks:=n } :=
  (R.moves (Is:=[L]) (fun J hJ=>List.mem_singleton.mp hJ▸⟨oL,hL,ns,fun uu=>nf⟩) (fun J hJ=>List.mem_singleton.mp hJ▸hm) (fun J hJ=>List.mem_singleton.mp hJ▸hl) (fun b o hb e=>(hs.2 b fun z=>hb (List.mem_singleton.mpr z)).trans e) (Nat.le_of_eq hs.1.symm)).1
theorem Rel.write (R:Rel C ρ σ s) (hn:s.heap.Ns L m) (hm:¬ Mut C ρ L) (hl:C.s₁.heap.objs.size≤L) (hs:Heap.SameBut L s.heap h') {n:Nat}:Rel C ρ σ { s with heap:=h',toks:=n } :=
  x3_3 hn fun o es ep ho hd uu=>R.writeX ho (fun vs z=>Data.noConfusion (hd.symm.trans z)) (fun vs n z=>Data.noConfusion (hd.symm.trans z)) hm hl hs
end
theorem nodup_inj {xs:List Str} (hn:xs.Nodup) {i j:Nat} (hi:i < xs.length) (hj:j < xs.length) (e:xs[i]=xs[j]):i=j:=by
  rcases Nat.lt_trichotomy i j with q | q | q
  · exact absurd e (List.pairwise_iff_getElem.mp hn i j hi hj q)
  · exact q
  · exact absurd e.symm (List.pairwise_iff_getElem.mp hn j i hj hi q)
noncomputable def putL (lc:Lc) (i:Nat) (x:AV):Option Lc:=if i < lc.length then some (lc.set i (some x)) else none
noncomputable def asgS (i:Nat) (f:EM):SM:=fun lc σ=>(f lc σ).bind fun p=>(putL lc i p.1).map (.next,·,p.2)
section
variable {C:Cfg} {d:Nat} {env:Env} {vars:List Str} {p p':Pos}
theorem store_name (H:EnvOk env vars) {i:Nat} {n:Str} (hi:vars[i]?=some n) {lc lc':Lc} {x:AV} (hx:putL lc i x=some lc') {A:Around} {Q:Unit→Shared→Prop} {E:Value→Shared→Prop} {s:Shared} {ρ:Rho} {σ:St} {v:Value} (R:Rel C ρ σ s) (l:LcR C ρ s.heap env.locals vars lc)
    (q:VR C ρ s.heap x v) (k:∀ s',Rel C ρ σ s'→Step C [env.locals] ρ ρ s.heap s'.heap→LcR C ρ s'.heap env.locals vars lc'→Q () s'):wpAny (model C.prog C.w) A (storeName env n v) Q E s:=by
  obtain ⟨⟨m,hn,hv⟩,hm,hl,hz⟩:=l
  unfold putL at hx
  (refine sf hx ?_; clear hx; intro hil hx)
  (refine c1 hx fun hh0=>?_; clear hx; subst hh0)
  refine wpAny_storeName_local (H.loc n (List.mem_of_getElem? hi)) hn (fun h' hn' hs=>?_) (by rw [H.kind]; rfl)
  have S:Step C [env.locals] ρ ρ s.heap h':=stepWrite hs
  refine k _ (R.write hn hm hl hs) S ⟨⟨_,hn',fun j y e=>?_⟩,hm,hl,by rw [List.length_set]; exact hz⟩
  by_cases hij:i=j
  · rw [← hij,List.getElem?_set_self hil] at e
    exact ⟨n,v,hij▸hi,if_pos rfl,(Option.some.inj (Option.some.inj e)▸q:VR C ρ s.heap y v).step S (ns_noSeq hn)⟩
  · rw [List.getElem?_set_ne hij] at e
    (refine x2_3 (hv j y e) fun n' v' a b c=>?_)
    refine ⟨n',v',a,?_,c.step S (ns_noSeq hn)⟩
    have:n'≠n:=fun z=>by
      subst z
      obtain ⟨h1,e1⟩:=List.getElem?_eq_some_iff.mp a
      obtain ⟨h2,e2⟩:=List.getElem?_eq_some_iff.mp hi
      exact hij (nodup_inj H.nodup h2 h1 (e2.trans e1.symm))
    show (if n'=n then some v else m n')=some v'
    rw [if_neg this]; exact b
set_option tactic.hygienic true
theorem den_asg (H:EnvOk env vars) {i:Nat} {n:Str} {e:Expr} {f:EM} (hi:vars[i]?=some n) (D:DenE C d env vars e f) (hs:swapsWith e (some (.Name n p')) p.line env=pure false):DenS C d env vars (.Assign [.Name n p'] e p) (asgS i f):=by
  intro lc σ fl lc' σ' hf A Q E s ρ hA R lr kk
  refine oB hf fun x e1 hf=>oM hf fun lc'' hp e2=>?_
  refine wpAny_Assign_Name (D _ _ _ _ e1 A _ E s ρ hA R lr fun v s₁ ρ₁ R₁ S₁ q₁=>store_name H hi hp R₁ (lr.go S₁) q₁ fun s₂ R₂ S₂ l₂=>?_) hs
  exact kfs kk e2 _ s₂ ρ₁ R₂ (S₁.of_nil.trans S₂) l₂ .next
noncomputable def seqS:List SM→SM
  | []=>fun lc σ=>some (.next,lc,σ)
  | f :: r=>fun lc σ=>(f lc σ).bind fun t=>match t.1 with
    | .next=>seqS r t.2.1 t.2.2
    | .brk=>some t
    | .cont=>some t
    | .ret _=>some t
theorem den_nil:DenB C d env vars [] (seqS []):=by
  intro lc σ fl lc' σ' hf A Q E s ρ hA R lr kk
  exact wpAny_execs_nil (kfS kk hf _ s ρ R .refl lr .next)
theorem den_cons {st:Stmt} {r:List Stmt} {f:SM} {fs:List SM} (D1:DenS C d env vars st f) (D2:DenB C d env vars r (seqS fs)):DenB C d env vars (st :: r) (seqS (f :: fs)):=by
  intro lc σ fl lc' σ' hf A Q E s ρ hA R lr kk
  refine wpAny_execs_cons (oB hf fun t e1 hf=>D1 _ _ _ _ _ e1 A _ E s ρ hA R lr fun w s₁ ρ₁ R₁ S₁ l₁ q₁=>?_)
  rcases t with ⟨fl₁,lc₁,σ₁⟩
  have z:some (fl₁,lc₁,σ₁)=some (fl,lc',σ')→Q w s₁:=fun e=>kfS kk e w s₁ ρ₁ R₁ S₁ l₁ q₁
  cases q₁ with
  | next=>exact D2 _ _ _ _ _ hf A _ E s₁ ρ₁ hA R₁ l₁ fun w s₂ ρ₂ R₂ S₂ l₂ q₂=>kk w s₂ ρ₂ R₂ (S₁.trans S₂) l₂ q₂
  | _=>exact z hf
noncomputable def ifS (t:TM) (f g:SM):SM:=fun lc σ=>(t lc σ).bind fun p=>if p.1 then f lc p.2 else g lc p.2
set_option tactic.hygienic false
theorem den_if {c:Expr} {t:TM} {b1 b2:List Stmt} {f g:SM} (D0:DenT C d env vars c t) (D1:DenB C d env vars b1 f) (D2:DenB C d env vars b2 g):DenS C d env vars (.If c b1 b2 p) (ifS t f g):=by
  intro lc σ fl lc' σ' hf A Q E s ρ hA R lr kk
  refine oB hf fun y e1 hf=>?_
  rcases y with ⟨⟨⟩,σ₁⟩
  · exact wpAny_If (D0 _ _ _ _ e1 A _ E s ρ hA R lr fun s₁ ρ₁ R₁ S₁=>D2 _ _ _ _ _ hf A _ E s₁ ρ₁ hA R₁ (lr.go S₁) fun w s₂ ρ₂ R₂ S₂ l₂ q₂=>kk w s₂ ρ₂ R₂ (S₁.of_nil.trans S₂) l₂ q₂)
  · exact wpAny_If (D0 _ _ _ _ e1 A _ E s ρ hA R lr fun s₁ ρ₁ R₁ S₁=>D1 _ _ _ _ _ hf A _ E s₁ ρ₁ hA R₁ (lr.go S₁) fun w s₂ ρ₂ R₂ S₂ l₂ q₂=>kk w s₂ ρ₂ R₂ (S₁.of_nil.trans S₂) l₂ q₂)
noncomputable def retS (f:EM):SM:=fun lc σ=>(f lc σ).map fun p=>(.ret p.1,lc,p.2)
theorem den_ret {e:Expr} {f:EM} (D:DenE C d env vars e f):DenS C d env vars (.Return (some e) p) (retS f):=by
  intro lc σ fl lc' σ' hf A Q E s ρ hA R lr kk
  exact oM hf fun y e1 e2=>wpAny_Return_some (D _ _ _ _ e1 A _ E s ρ hA R lr fun v s₁ ρ₁ R₁ S₁ q₁=>kfs kk e2 _ s₁ ρ₁ R₁ S₁.of_nil (lr.go S₁) (.ret q₁))
noncomputable def retNS:SM:=fun lc σ=>some (.ret .none,lc,σ)
theorem den_retN:DenS C d env vars (.Return none p) retNS:=by
  intro lc σ fl lc' σ' hf A Q E s ρ hA R lr kk
  exact wpAny_Return_none (kfS kk hf _ s ρ R .refl lr (.ret .none))
noncomputable def brkS:SM:=fun lc σ=>some (.brk,lc,σ)
theorem den_brk:DenS C d env vars (.Break p) brkS:=by
  intro lc σ fl lc' σ' hf A Q E s ρ hA R lr kk
  exact wpAny_Break (kfS kk hf _ s ρ R .refl lr .brk)
noncomputable def contS:SM:=fun lc σ=>some (.cont,lc,σ)
theorem den_cont:DenS C d env vars (.Continue p) contS:=by
  intro lc σ fl lc' σ' hf A Q E s ρ hA R lr kk
  exact wpAny_Continue (kfS kk hf _ s ρ R .refl lr .cont)
noncomputable def exprS (f:EM):SM:=fun lc σ=>(f lc σ).map fun p=>(.next,lc,p.2)
set_option tactic.hygienic true
theorem den_expr {e:Expr} {f:EM} (D:DenE C d env vars e f) (hi:interactive env=false) (hs:swapsWith e none p.line env=pure false):DenS C d env vars (.Expr e p) (exprS f):=by
  intro lc σ fl lc' σ' hf A Q E s ρ hA R lr kk
  refine oM hf fun y e1 e2=>wpAny_Expr_any (D _ _ _ _ e1 A _ E s ρ hA R lr fun v s₁ ρ₁ R₁ S₁ q₁=>?_) hi hs
  exact kfs kk e2 _ s₁ ρ₁ R₁ S₁.of_nil (lr.go S₁) .next
end
noncomputable def evs:List EM→Lc→St→Option (List AV × St)
  | [],_,σ=>some ([],σ)
  | f :: r,lc,σ=>(f lc σ).bind fun p=>(evs r lc p.2).map fun q=>(p.1 :: q.1,q.2)
inductive DenEs (C:Cfg) (d:Nat) (env:Env) (vars:List Str):List Expr→List EM→Prop
  | nil:DenEs C d env vars [] []
  | cons {e:Expr} {f:EM} {es:List Expr} {fs:List EM} (a:DenE C d env vars e f) (b:DenEs C d env vars es fs) (ns:∀ r,starEach (e :: r) env=(false,eval e env) :: starEach r env):DenEs C d env vars (e :: es) (f :: fs)
section
variable {C:Cfg} {d:Nat} {env:Env} {vars:List Str} {p p':Pos}
theorem kfL {ρ:Rho} {h:Heap} {a x:List AV} {σ₁ σ':St} {Q:List Value→Shared→Prop} (k:∀ v s' ρ',Rel C ρ' σ' s'→Step C [] ρ ρ' h s'.heap→VRs C ρ' s'.heap x v→Q v s') (e:(a,σ₁)=(x,σ')):∀ v s' ρ',Rel C ρ' σ₁ s'→Step C [] ρ ρ' h s'.heap→VRs C ρ' s'.heap a v→Q v s':=by cases e; exact k
theorem items_rel {es:List Expr} {fs:List EM} (D:DenEs C d env vars es fs):∀ {lc:Lc} {σ σ':St} {xs:List AV},evs fs lc σ=some (xs,σ')→∀ {A:Around} {Q:List Value→Shared→Prop} {E:Value→Shared→Prop} {s:Shared} {ρ:Rho},AOk C d A→Rel C ρ σ s→LcR C ρ s.heap env.locals vars lc →
    (∀ vs s' ρ',Rel C ρ' σ' s'→Step C [] ρ ρ' s.heap s'.heap→VRs C ρ' s'.heap xs vs→Q vs s')→wpAny (model C.prog C.w) A (spliced (backTo p (starEach es env))) Q E s:=by
  induction D with
  | nil=>intro lc σ σ' xs hf A Q E s ρ hA R lr kk; exact wpAny_items_nil (kfL kk (Option.some.inj hf) _ s ρ R .refl .nil)
  | cons a b ns ih =>
    intro lc σ σ' xs hf A Q E s ρ hA R lr kk
    refine oB hf fun x e1 hf=>oM hf fun y e2 e=>?_
    exact wpAny_items_cons (a _ _ _ _ e1 A _ E s ρ hA R lr fun v s₁ ρ₁ R₁ S₁ q₁=>ih e2 hA R₁ (lr.go S₁) fun vs s₂ ρ₂ R₂ S₂ q₂=>kfL kk e _ s₂ ρ₂ R₂ (S₁.trans S₂) (.cons (q₁.go S₂) q₂)) (ns _)
noncomputable def tupE (fs:List EM):EM:=fun lc σ=>(evs fs lc σ).bind fun p=>gd (decide (p.1.length≤sizeLine)) (.tup p.1,p.2)
noncomputable def lstE (fs:List EM):EM:=fun lc σ=>(evs fs lc σ).bind fun p=>gd (decide (p.1.length≤sizeLine)) (.lst p.1,p.2)
theorem den_tup {es:List Expr} {fs:List EM} {k:Nat} (D:DenEs C d env vars es fs):DenE C d env vars (.Tuple es k p) (tupE fs):=by
  intro lc σ x σ' hf A Q E s ρ hA R lr kk
  refine oB hf fun xs e1 hf=>oG hf fun hz e=>?_
  refine wpAny_Tuple (items_rel D e1 hA R lr fun vs s₁ ρ₁ R₁ S₁ q₁=>⟨by rw [q₁.length]; exact of_decide_eq_true hz,?_⟩)
  exact kfe kk e _ _ ρ₁ (R₁.push _ (n:=s₁.toks)) (S₁.trans (.pushObj _)) (.tup (Heap.get?_push_size _ rfl) R₁.fresh (q₁.go (.pushObj _)))
theorem den_lst {es:List Expr} {fs:List EM} (D:DenEs C d env vars es fs):DenE C d env vars (.List es p) (lstE fs):=by
  intro lc σ x σ' hf A Q E s ρ hA R lr kk
  refine oB hf fun xs e1 hf=>oG hf fun hz e=>?_
  refine wpAny_List (items_rel D e1 hA R lr fun vs s₁ ρ₁ R₁ S₁ q₁=>⟨by rw [q₁.length]; exact of_decide_eq_true hz,?_⟩)
  exact kfe kk e _ _ ρ₁ (R₁.push _ (n:=s₁.toks)) (S₁.trans (.pushObj _)) (.lst (Heap.get?_push_size _ rfl) R₁.fresh (q₁.go (.pushObj _)))
end
section
variable {C:Cfg} {ρ:Rho} {σ:St} {s s':Shared}
theorem ObjR.grow {ρ':Rho} {h h':Heap} (k:∀ b o,h.get? b=some o→h'.get? b=some o) (S:Step C [] ρ ρ' h h') {p:Addr × Addr} {o:AO} (q:ObjR C ρ h p o):ObjR C ρ' h' p o :=
  q.move (k _) (k _) (·.go S) (fun uu z=>x1_2 S.grow fun δ e _=>e▸z.grow δ) fun b o e uu=>k b o e
theorem Rel.rhoLt (R:Rel C ρ σ s) {p:Addr × Addr} (hp:p∈ρ):p.1 < s.heap.objs.size∧p.2 < s.heap.objs.size:=by
  obtain ⟨l,hl,rfl⟩:=List.mem_iff_getElem.mp hp
  have q:l < σ.length:=R.len▸hl
  exact (R.st l ρ[l] σ[l] (List.getElem?_eq_getElem hl) (List.getElem?_eq_getElem q)).lt
theorem Rel.allocX (R:Rel C ρ σ s) (k:∀ b o,s.heap.get? b=some o→s'.heap.get? b=some o) (z:s.heap.objs.size≤s'.heap.objs.size) (hd:s'.drawn=s.drawn) (hos:s'.os=s.os)
    {p:Addr × Addr} {o:AO} (h1:s.heap.objs.size≤p.1) (h2:s.heap.objs.size≤p.2) (ho:ObjR C (ρ++[p]) s'.heap p o) (hg:GR C (ρ++[p]) (σ++[o]) s'.heap s'.gens):Rel C (ρ++[p]) (σ++[o]) s'∧Step C [] ρ (ρ++[p]) s.heap s'.heap:=by
  have S:Step C [] ρ (ρ++[p]) s.heap s'.heap:=⟨z,fun b o e uu uu=>k b o e,[p],rfl,fun q hq=>by cases List.mem_singleton.mp hq; exact ⟨h1,h2⟩⟩
  refine ⟨⟨fun b o e n=>k b o (R.old b o e n),fun t ht=>let ⟨m,a,b⟩:=R.tab t ht; ⟨m,a.keeps k,b.keeps k⟩,fun q hq=>?_,?_,by simp [R.len],fun l q o' e e'=>?_,hg,hd.trans R.drawn,hos.trans R.os,Nat.le_trans R.size z⟩,S⟩
  · rcases List.mem_append.mp hq with hq | hq
    · exact R.lo q hq
    · cases List.mem_singleton.mp hq; exact ⟨Nat.le_trans R.size h1,Nat.le_trans R.size h2⟩
  · refine List.pairwise_append.mpr ⟨R.dis,List.pairwise_singleton ..,fun a ha b hb=>?_⟩
    cases List.mem_singleton.mp hb
    have:=R.rhoLt ha
    exact ⟨Nat.ne_of_lt (Nat.lt_of_lt_of_le this.1 h1),Nat.ne_of_lt (Nat.lt_of_lt_of_le this.1 h2),Nat.ne_of_lt (Nat.lt_of_lt_of_le this.2 h1),Nat.ne_of_lt (Nat.lt_of_lt_of_le this.2 h2)⟩
  · by_cases hl:l < ρ.length
    · rw [List.getElem?_append_left hl] at e
      rw [List.getElem?_append_left (R.len▸hl)] at e'
      exact (R.st l q o' e e').grow k S
    · have hl':¬ l < σ.length:=R.len▸hl
      rw [List.getElem?_append_right (Nat.not_lt.mp hl)] at e
      rw [List.getElem?_append_right (Nat.not_lt.mp hl')] at e'
      rw [List.getElem?_singleton] at e e'
      exact sf e fun uu e=>sf e' fun uu e'=>Option.some.inj e▸Option.some.inj e'▸ho
theorem Rel.alloc (R:Rel C ρ σ s) (k:∀ b o,s.heap.get? b=some o→s'.heap.get? b=some o) (z:s.heap.objs.size≤s'.heap.objs.size) (hg:GR C ρ σ s.heap s'.gens) (hd:s'.drawn=s.drawn) (hos:s'.os=s.os)
    {p:Addr × Addr} {o:AO} (h1:s.heap.objs.size≤p.1) (h2:s.heap.objs.size≤p.2) (ho:ObjR C (ρ++[p]) s'.heap p o) (ng:o.isGen=false):Rel C (ρ++[p]) (σ++[o]) s'∧Step C [] ρ (ρ++[p]) s.heap s'.heap :=
  R.allocX k z hd hos h1 h2 ho ((hg.heap fun uu uu uu uu uu uu o e=>k _ o e).snoc R.len ng)
end
noncomputable def newLE (fs:List EM):EM:=fun lc σ=>(evs fs lc σ).bind fun p=>gd (decide (p.1.length≤sizeLine)) (.loc p.2.length,p.2++[.list p.1])
theorem den_newL {C:Cfg} {d:Nat} {env:Env} {vars:List Str} {p:Pos} {es:List Expr} {fs:List EM} (D:DenEs C d env vars es fs):DenE C d env vars (.List es p) (newLE fs):=by
  intro lc σ x σ' hf A Q E s ρ hA R lr kk
  refine oB hf fun xs e1 hf=>oG hf fun hz e=>?_
  refine wpAny_List (items_rel D e1 hA R lr fun vs s₁ ρ₁ R₁ S₁ q₁=>⟨by rw [q₁.length]; exact of_decide_eq_true hz,?_⟩)
  have k:∀ b o,s₁.heap.get? b=some o→(s₁.heap.push (lstObj vs 0)).get? b=some o:=fun uu uu e=>Heap.get?_push_of_some _ e
  have z:s₁.heap.objs.size≤(s₁.heap.push (lstObj vs 0)).objs.size:=by rw [Heap.size_push]; exact Nat.le_succ _
  have S₂:Step C [] ρ₁ (ρ₁++[(s₁.heap.objs.size,s₁.heap.objs.size)]) s₁.heap (s₁.heap.push (lstObj vs 0)):=⟨z,fun b o e uu uu=>k b o e,_,rfl,fun q hq=>by cases List.mem_singleton.mp hq; exact ⟨Nat.le_refl _,Nat.le_refl _⟩⟩
  (refine x0_2 (R₁.alloc (s':={ s₁ with heap:=s₁.heap.push (lstObj vs 0) }) k z R₁.gens rfl rfl (p:=(s₁.heap.objs.size,s₁.heap.objs.size)) (o:=.list xs.1) (Nat.le_refl _) (Nat.le_refl _) (.list (Heap.get?_push_size _ rfl) (q₁.go S₂)) rfl) fun R₂ S₂=>?_)
  refine kfe kk e _ _ _ R₂ (S₁.trans S₂) (.loc (p:=(s₁.heap.objs.size,s₁.heap.objs.size)) ?_)
  rw [← R₁.len,List.getElem?_append_right (Nat.le_refl _),Nat.sub_self]
  rfl
noncomputable def DenF (C:Cfg) (d:Nat) (f:Addr) (F:List AV→St→Option (AV × St)):Prop :=
  ∀ xs σ x σ',F xs σ=some (x,σ')→∀ (A:Around) (P:Result→Shared→Prop) (s:Shared) (ρ:Rho) (vs:List Value),AOk C d A→Rel C ρ σ s→VRs C ρ s.heap xs vs →
    (∀ v s' ρ',Rel C ρ' σ' s'→Step C [] ρ ρ' s.heap s'.heap→VR C ρ' s'.heap x v→P (.ok (.ret v)) s')→codeAny (model C.prog C.w) A (.call (.ref f) ⟨vs,[]⟩) P s
noncomputable def lc0 (vars:List Str) (xs:List AV):Lc:=xs.map some++List.replicate (vars.length - xs.length) none
noncomputable def endF (t:Fl × Lc × St):Option (AV × St):=match t.1 with
  | .ret x=>some (x,t.2.2)
  | .next=>some (.none,t.2.2)
  | .brk=>none
  | .cont=>none
noncomputable def runF (vars:List Str) (n:Nat) (B:SM) (xs:List AV) (σ:St):Option (AV × St):=if xs.length=n then (B (lc0 vars xs) σ).bind endF else none
theorem DenF.mono {C:Cfg} {d d':Nat} {f:Addr} {F:List AV→St→Option (AV × St)} (D:DenF C d' f F) (h:d'≤d):DenF C d f F :=
  fun xs σ x σ' hf A P s ρ vs hA R q k=>D xs σ x σ' hf A P s ρ vs (hA.mono h) R q k
theorem AOk.deeper {d:Nat} {A:Around} {env:Env} (a:AOk C (d + 1) A):AOk C d (A.deeper env):=by
  (refine x0_4 (a) fun a1 a2 a3 a4=>?_; clear a)
  refine ⟨a1,?_,?_,a4.push (es:=[env]) rfl (Nat.le_refl _)⟩
  · show A.depth + 1 + d < _; (first | lia | omega)
  · show A.units + 3 + 8 * d < _; (first | lia | omega)
theorem AOk.in1 {d:Nat} {A:Around} (a:AOk C (d + 1) A):AOk C d A.in1:=by
  (refine x0_4 (a) fun a1 a2 a3 a4=>?_; clear a)
  refine ⟨a1,?_,?_,a4.same rfl (Nat.le_refl _)⟩
  · show A.depth + d < _; (first | lia | omega)
  · show A.units + 1 + 8 * d < _; (first | lia | omega)
noncomputable abbrev envF (fd:FuncData) (f L:Addr):Env:=newEnv fd.scope L mainGlobals fd.closure (fd.qualname ++ ".<locals>.") (some f) fd.code none builtinsNs
theorem lookup_zip:∀ {xs:List Str} {vs:List Value} {i:Nat} {x:Str} {v:Value},xs.Nodup→xs[i]?=some x→vs[i]?=some v→(xs.zip vs).lookup x=some v
  | [],_,i,_,_,_,e,_=>by simp at e
  | _ :: _,[],i,_,_,_,_,e=>by simp at e
  | y :: xs,w :: vs,0,x,v,_,e,e'=>by simp at e e'; subst e e'; simp
  | y :: xs,w :: vs,i + 1,x,v,hn,e,e'=>by
    simp at e e'
    rw [List.zip_cons_cons,List.lookup_cons]
    have hm:=List.mem_of_getElem? e
    have:x≠y:=fun z=>(List.nodup_cons.mp hn).1 (z▸hm)
    rw [beq_false_of_ne this]
    exact lookup_zip (List.nodup_cons.mp hn).2 e e'
theorem lookup_rev {l:List (Str × Value)} {x:Str} {v:Value} (hn:(l.map (·.1)).Nodup) (e:l.lookup x=some v):l.reverse.lookup x=some v:=by
  induction l with
  | nil=>simp at e
  | cons a l ih =>
    obtain ⟨y,w⟩:=a
    rw [List.map_cons,List.nodup_cons] at hn
    rw [List.reverse_cons]
    rw [List.lookup_cons] at e
    by_cases h:x=y
    · subst h
      simp at e
      subst e
      have:l.reverse.lookup x=none:=by
        rw [List.lookup_eq_none_iff]
        intro p hp
        have:p.1∈l.map (·.1):=List.mem_map_of_mem (List.mem_reverse.mp hp)
        simp only [bne_iff_ne,ne_eq]
        intro z
        exact hn.1 (z▸this)
      rw [List.lookup_append,this]
      simp
    · rw [beq_false_of_ne h] at e
      rw [List.lookup_append,ih hn.2 e]
      rfl
structure CfgOk (C:Cfg):Prop where
  kin:C.K.In C.s₁.heap
  knt:∀ a o,C.K.lookup a=some o→¬ C.isTab a
  lim:C.s₁.heap.NoLimit
  stat:¬ C.isTab cStatics
  glob:¬ C.isTab mainGlobals
  blt:¬ C.isTab builtinsNs
section
variable {C:Cfg} {ρ:Rho} {σ:St} {s:Shared}
theorem Rel.kin (R:Rel C ρ σ s) (H:CfgOk C):C.K.In s.heap:=fun a o e=>R.old a o (H.kin a o e) (H.knt a o e)
noncomputable def DenCall (C:Cfg) (d:Nat) (fv:Value) (F:List AV→St→Option (AV × St)):Prop :=
  ∀ xs σ x σ',F xs σ=some (x,σ')→∀ (A:Around) (Q:Value→Shared→Prop) (E:Value→Shared→Prop) (s:Shared) (ρ:Rho) (vs:List Value),AOk C d A→Rel C ρ σ s→VRs C ρ s.heap xs vs →
    (∀ v s' ρ',Rel C ρ' σ' s'→Step C [] ρ ρ' s.heap s'.heap→VR C ρ' s'.heap x v→Q v s')→wpAny (model C.prog C.w) A (call fv vs) Q E s
theorem DenF.call {d:Nat} {f:Addr} {F:List AV→St→Option (AV × St)} (D:DenF C d f F):DenCall C d (.ref f) F:=by
  intro xs σ x σ' hf A Q E s ρ vs hA R q k
  exact wpAny_call (D xs σ x σ' hf A _ s ρ vs hA R q fun v s' ρ' R' S' q'=>k v s' ρ' R' S' q')
theorem DenCall.mono {d d':Nat} {fv:Value} {F:List AV→St→Option (AV × St)} (D:DenCall C d' fv F) (h:d'≤d):DenCall C d fv F :=
  fun xs σ x σ' hf A Q E s ρ vs hA R q k=>D xs σ x σ' hf A Q E s ρ vs (hA.mono h) R q k
noncomputable def KeepOk (C:Cfg) (fv:Value):Prop:=∀ h,C.K.In h→∃ k,(k=Keeper.frame∨k=Keeper.machine∨k=Keeper.boundFrame)∧Looks (model C.prog C.w) h (keeperOf fv) k
theorem keep_builtin {i:String}:KeepOk C (.builtin i):=fun uu uu=>⟨.machine,.inr (.inl rfl),.now⟩
theorem keep_type {T:String}:KeepOk C (.type T):=fun uu uu=>⟨.machine,.inr (.inl rfl),.now⟩
theorem keep_K {f:Value} (hk:keepIn C.K f=true):KeepOk C f:=fun h X=>keeps_K hk h X
variable {d:Nat} {env:Env} {vars:List Str} {p p':Pos}
theorem noStar {es:List Expr} {fs:List EM} (D:DenEs C d env vars es fs):(backTo p (starEach es env)).any (·.1)=false:=by
  induction D with
  | nil=>rfl
  | cons a b ns ih=>rw [ns]; exact ih
theorem args_rel {es:List Expr} {fs:List EM} (D:DenEs C d env vars es fs) {lc:Lc} {σ σ':St} {xs:List AV} (hf:evs fs lc σ=some (xs,σ')) {fv:Value} {A:Around} {Q:Args→Shared→Prop} {E:Value→Shared→Prop} {s:Shared} {ρ:Rho} (hA:AOk C d A) (R:Rel C ρ σ s) (lr:LcR C ρ s.heap env.locals vars lc)
    (k:∀ vs s' ρ',Rel C ρ' σ' s'→Step C [] ρ ρ' s.heap s'.heap→VRs C ρ' s'.heap xs vs→Q ⟨vs,[]⟩ s'):wpAny (model C.prog C.w) A (evalArgs fv true (backTo p (starEach es env)) []) Q E s:=by
  have it:=fun (Q':List Value→Shared→Prop) kk=>items_rel (p:=p) D hf (Q:=Q') (E:=E) hA R lr kk
  cases D with
  | nil =>
    have hf:some (([]:List AV),σ)=some (xs,σ'):=hf
    refine evalArgs_nil3 ?_
    exact kfL (Q:=fun vs=>Q ⟨vs,[]⟩) k (Option.some.inj hf) [] s ρ R .refl .nil
  | cons a b ns =>
    rw [ns] at it ⊢
    exact evalArgs_plain (it _ k)
theorem callWith_rel (H:CfgOk C) {es:List Expr} {fs:List EM} (D:DenEs C d env vars es fs) {lc:Lc} {σ σ':St} {xs:List AV} (hf:evs fs lc σ=some (xs,σ')) {fv:Value} {first:List Value} (hk:KeepOk C fv) {A:Around} {Q:Value→Shared→Prop} {E:Value→Shared→Prop} {s:Shared} {ρ:Rho} (hA:AOk C d A) (R:Rel C ρ σ s)
    (lr:LcR C ρ s.heap env.locals vars lc) (k:∀ vs s' ρ',Rel C ρ' σ' s'→Step C [] ρ ρ' s.heap s'.heap→VRs C ρ' s'.heap xs vs→wpAny (model C.prog C.w) A (call fv (first++vs)) Q E s') :
    wpAny (model C.prog C.w) A (callWith p fv first (backTo p' (starEach es env)) []) Q E s :=
  callWith_of (P:=fun h=>C.K.In h) (by rw [noStar D]; rfl) hk (args_rel D hf hA R lr fun vs s' ρ' R' S' q'=>⟨R'.kin H,k vs s' ρ' R' S' q'⟩)
noncomputable def GlobVal (C:Cfg) (x:Str) (v:Value):Prop:=∃ mg,C.s₁.heap.Ns mainGlobals mg∧(mg x=some v∨(mg x=none∧∃ mb,C.s₁.heap.Ns builtinsNs mb∧mb x=some v))
theorem global_rel (H:CfgOk C) (He:EnvOk env vars) {x:Str} {v:Value} (hv:GlobVal C x v) (hx:env.kindOf x=some .globalImplicit) (hd:(x == ("__debug__" : Str))=false) {A:Around} {Q:Value→Shared→Prop} {E:Value→Shared→Prop} (R:Rel C ρ σ s) (k:Q v s) :
    wpAny (model C.prog C.w) A (eval (.Name x p) env) Q E s:=by
  (refine x1_2 (hv) fun mg hg h=>?_; clear hv)
  refine Name_function_global He.kind hx ?_ hd
  have hg':s.heap.Ns env.globals mg:=by rw [He.glob]; exact hg.at fun o e=>R.old _ _ e H.glob
  rcases h with h | ⟨h,mb,hb,h'⟩
  · exact loadGlobal_global hg' h k
  · exact loadGlobal_builtin hg' h (by rw [He.blt]; exact hb.at fun o e=>R.old _ _ e H.blt) h' k
noncomputable def callE (F:List AV→St→Option (AV × St)) (fs:List EM):EM:=fun lc σ=>(evs fs lc σ).bind fun p=>F p.1 p.2
theorem den_call (H:CfgOk C) (He:EnvOk env vars) {x:Str} {fv:Value} {F:List AV→St→Option (AV × St)} {es:List Expr} {fs:List EM} {p0:Pos} (hv:GlobVal C x fv) (hx:env.kindOf x=some .globalImplicit) (hk:KeepOk C fv) (DF:DenCall C d fv F) (D:DenEs C d env vars es fs)
    (hd:(x == ("__debug__" : Str))=false):DenE C d env vars (.Call (.Name x p0) es [] p) (callE F fs):=by
  intro lc σ y σ' hf A Q E s ρ hA R lr kk
  refine oB hf fun xs e1 hf=>?_
  show wpAny _ _ (do callWith p (← eval (.Name x p0) env) [] (backTo p (starEach es env)) (backToKw p (keywordEach [] env))) _ _ _
  refine wpAny_bind (global_rel H He hv hx hd R ?_)
  refine callWith_rel H D e1 hk hA R lr fun vs s₁ ρ₁ R₁ S₁ q₁=>?_
  rw [List.nil_append]
  exact DF _ _ _ _ hf A _ E s₁ ρ₁ vs hA R₁ q₁ fun v s₂ ρ₂ R₂ S₂ q₂=>kk v s₂ ρ₂ R₂ (S₁.trans S₂) q₂
noncomputable def kindO:AO→Nat
  | .list _=>2
  | .fmt ..=>3
  | .acc ..=>4
  | .ghost=>0
  | .gen ..=>5
  | .out _=>0
  | .cell ..=>0
  | .ext ..=>9
noncomputable def kindV (σ:St):AV→Nat
  | .none=>0
  | .bool _=>0
  | .int _=>0
  | .str _=>1
  | .tup _=>0
  | .lst _=>2
  | .loc l=>(σ[l]?.map kindO).getD 0
noncomputable def kind (σ:St) (x:AV):Nat:=kindV σ x
noncomputable def GetM (C:Cfg) (k:Nat) (name:Str) (fv:Value):Prop :=
  ∀ (A:Around) (Q:Value × List Value→Shared→Prop) (E:Value→Shared→Prop) (s:Shared) (ρ:Rho) (σ:St) (x:AV) (v:Value) (pl:Sem Bool),Rel C ρ σ s→VR C ρ s.heap x v→kind σ x=k→Q (fv,[v]) s→wpAny (model C.prog C.w) A (getMethod v name pl) Q E s
noncomputable def mE (k:Nat) (F:List AV→St→Option (AV × St)) (f:EM) (fs:List EM):EM:=fun lc σ=>(f lc σ).bind fun p=>if kind p.2 p.1=k then (evs fs lc p.2).bind fun q=>F (p.1 :: q.1) q.2 else none
theorem den_meth (H:CfgOk C) {k:Nat} {name:Str} {fv:Value} {F:List AV→St→Option (AV × St)} {o:Expr} {f:EM} {es:List Expr} {fs:List EM} {apos:Pos} (hg:GetM C k name fv) (hk:KeepOk C fv) (DF:DenCall C d fv F) (D0:DenE C d env vars o f) (D:DenEs C d env vars es fs)
    (hb:∀ nm whole,attributeBase o nm env whole=whole) (hl:es.length < 30) (hp:(apos.endLine == p.line)=true):DenE C d env vars (.Call (.Attribute o name apos) es [] p) (mE k F f fs):=by
  intro lc σ y σ' hf A Q E s ρ hA R lr kk
  refine oB hf fun r e1 hf=>sf hf fun hkd hf=>oB hf fun xs e2 hf=>?_
  rw [arm_eval_Call,hb]
  refine wpAny_bind (D0 _ _ _ _ e1 A _ E s ρ hA R lr fun v s₁ ρ₁ R₁ S₁ q₁=>wpAny_bind (wpAny_standAt ?_))
  have hform:methodCallForm (es.length + 0) (backTo p (starEach es env)) (backToKw p (keywordEach [] env))=true:=by
    have n:=noStar (p:=p) D
    unfold methodCallForm
    have a1:(backTo p (starEach es env)).all (!·.1)=true:=by
      rw [List.all_eq_true]
      intro x hx
      have:=List.any_eq_false.mp n x hx
      simpa using this
    rw [a1]
    show (true && true && decide (es.length + 0 + 0 < 30))=true
    simp [hl]
  show wpAny _ _ (methodCall o name apos p env v (es.length + 0) (backTo p (starEach es env)) (backToKw p (keywordEach [] env))) _ _ _
  unfold methodCall
  rw [hform]
  refine wpAny_bind (wpAny_holding ?_)
  show wpAny _ _ (getMethod v name _) _ _ _
  refine hg A _ E s₁ ρ₁ r.2 r.1 v _ R₁ q₁ hkd ?_
  dsimp only
  have hpos:methodCallPos true o env apos p=pure p:=by
    unfold methodCallPos
    rw [hp]; rfl
  rw [hpos]
  refine wpAny_bind (wpAny_pure ?_)
  refine callWith_rel H D e2 hk hA R₁ (lr.go S₁) fun vs s₂ ρ₂ R₂ S₂ q₂=>?_
  exact DF _ _ _ _ hf A _ E s₂ ρ₂ (v :: vs) hA R₂ (.cons (q₁.go S₂) q₂) fun v' s₃ ρ₃ R₃ S₃ q₃=>kk v' s₃ ρ₃ R₃ ((S₁.trans S₂).trans S₃) q₃
end
theorem check_meth {M:Model} {A:Around} {E:Value→Shared→Prop} {s:Shared} {i owner n:String} {self:Value} {rest:List Value} {kw:List (Str × Value)} {Q:Unit→Shared→Prop}
    (hk:builtinKind i=some .method) (hs:splitId i=some (owner,n)) (hi:Looks M s.heap (isInstance self (.type owner)) true) (ha:argsOk i ⟨self :: rest,kw⟩) (q:Q () s) :
    wpAny M A (checkBuiltinCall i ⟨self :: rest,kw⟩) Q E s:=by
  simp only [checkBuiltinCall,hk,hs]
  refine wpAny_bind (hi.here ?_)
  simp only [Bool.not_true,Bool.false_eq_true,if_false]
  cases hsig:Manifest.signature? i with
  | none=>exact wpAny_pure q
  | some sig =>
    simp only [argsOk,hsig] at ha
    have h2:Bind.checkArgs i sig ⟨self :: rest,kw⟩=pure ():=ha
    show wpAny M A (Bind.checkArgs i sig ⟨self :: rest,kw⟩) Q E s
    rw [h2]; exact wpAny_pure q
section
variable {C:Cfg} {ρ:Rho} {σ:St} {s:Shared} {A:Around} {E:Value→Shared→Prop} {x Cl:Addr} {ox:Obj} {od:Option Obj}
theorem call_below {id n T:String} {B:Builtin} {rest:List Value} {Q:Value→Shared→Prop} (X:C.K.In s.heap) (I:W.InstAt s.heap x ox Cl od) (hm:mroIn C.K Cl (.type T)=some true) (hk:builtinKind id=some .method∨builtinKind id=some .slot) (hs:splitId id=some (T,n)) (hp:plainId id=true) (hb:entryFor table id=some B)
    (ha:argsOk id ⟨.ref x :: rest,[]⟩) (hc:wpAny (model C.prog C.w) A.in1 (B ⟨.ref x :: rest,[]⟩) (fun fin s'=>∃ v,fin=.done (.ret v)∧Q v s') E s):wpAny (model C.prog C.w) A (call (.builtin id) (.ref x :: rest)) Q E s:=by
  refine wpAny_call (codeAny_call_builtin hp hb ?_)
  have hfin:=wpAny_mono hc (Q':=fun fin s'=>match fin with
      | .done f=>(match (Except.ok f:Result) with | .ok (.ret v)=>Q v s' | .ok _=>False | .error e=>E e s')
      | .again c'=>c'.quiet=true∧codeAny (model C.prog C.w) A c' (fun r s'=>match r with | .ok (.ret v)=>Q v s' | .ok _=>False | .error e=>E e s') s')
    (fun fin s' h'=>by (refine x1_2 (h') fun v rr1 hv=>?_; clear h'; subst rr1); exact hv) fun uu uu h'=>h'
  have L:Looks (model C.prog C.w) s.heap (isInstance (.ref x) (.type T)) true:=I.type.andThen (looks_mroIn X hm)
  rcases hk with hk | hk
  · exact check_meth hk hs L ha hfin
  · exact check_slot hk hs L ha hfin
theorem nsGet_obj {d:Addr} {o:Obj} {name:Str} {r:Option Value} {M:Model} {Q:Option Value→Shared→Prop} (ho:s.heap.get? d=some o) (e:lookIn name o=some r) (k:Q r s):wpAny M A (nsGet d name) Q E s:=by
  unfold nsGet
  refine wpAny_bind (wpAny_loadPart ho ?_)
  rw [nsLook_of e]
  exact wpAny_pure k
theorem getMethod_inst {name:Str} {ga:String} {fv:Value} {tf:Value} {dx:Addr} {o:Obj} {pl:Sem Bool} {Q:Value × List Value→Shared→Prop} (X:C.K.In s.heap) (I:W.InstAt s.heap x ox Cl od) (hd:ox.dict=some dx) (ho:s.heap.get? dx=some o)
    (hga:findIn C.K (.ref Cl) "__getattribute__" = some (some (.builtin ga))) (hcan:(Manifest.canonical ga != "object.__getattribute__")=false) (hgt:findIn C.K (.ref Cl) "__getattr__" = some none)
    (hf:findIn C.K (.ref Cl) name=some (some fv)) (ht:typeIn C.K fv=some tf) (htf:tf=.type "function" ∨ tf=.type "method_descriptor" ∨ tf=.type "wrapper_descriptor") (hn:lookIn name o=some none) (k:Q (fv,[.ref x]) s) :
    wpAny (model C.prog C.w) A (getMethod (.ref x) name pl) Q E s:=by
  unfold getMethod
  have sp:∀ {nm:Str} {r:Option Value},findIn C.K (.ref Cl) nm=some r→Looks (model C.prog C.w) s.heap (specialOf (.ref x) nm) r:=fun e=>I.type.andThen (looks_findIn X e)
  refine wpAny_bind ((sp hga).here ?_)
  dsimp only
  rw [hcan,if_neg Bool.false_ne_true]
  refine wpAny_bind ((sp hgt).here ?_)
  rw [if_neg (by simp)]
  refine wpAny_bind ((sp hf).here ?_)
  dsimp only
  refine wpAny_bind ((looks_typeIn X ht).here ?_)
  have:(tf != .type "function" && tf != .type "method_descriptor" && tf != .type "wrapper_descriptor")=false:=by rcases htf with rfl | rfl | rfl <;> decide
  rw [this,if_neg Bool.false_ne_true]
  refine wpAny_bind (wpAny_loadPart I.at_ ?_)
  rw [hd]
  refine wpAny_bind (nsGet_obj ho hn ?_)
  exact wpAny_bind (wpAny_rule (wpAny_pure k))
set_option tactic.hygienic true
theorem entR_get {h:Heap} {name:Str}:∀ {r:List (Str × AV)} {es:List DictEntry},EntR C ρ h r es→match r.lookup name with
    | some y=>∃ v,getL name es=some (some v)∧VR C ρ h y v
    | none=>getL name es=some none
  | _,_,.nil=>rfl
  | _,_,.cons (k:=k) (x:=y) (v:=v) (r:=r) (es:=es) (t:=t) a b=>by
    have ih:=entR_get (name:=name) b
    rw [List.lookup_cons]
    by_cases hk:name=k
    · subst hk
      simp only [beq_self_eq_true]
      refine ⟨v,?_,a⟩
      unfold getL
      rw [List.find?_cons]
      simp [Value.isStr]
    · rw [beq_false_of_ne hk]
      dsimp only
      have e:getL name (⟨PyData.keyHash C.w.params k,.str k t,v⟩ :: es)=getL name es:=by
        unfold getL
        rw [List.find?_cons]
        have:Value.isStr (.str k t) name=false:=by
          show (k == name)=false
          exact beq_false_of_ne (Ne.symm hk)
        simp only [this,List.any_cons]
        rfl
      split
      · rename_i y' e'
        rw [e'] at ih
        (refine x1_2 (ih) fun v' h1 h2=>?_; clear ih)
        exact ⟨v',e.trans h1,h2⟩
      · rename_i e'
        rw [e'] at ih
        exact e.trans ih
set_option tactic.hygienic false
theorem getAttr_val {name:Str} {v:Value} {expr:Bool} {Q:Value→Shared→Prop} (X:C.K.In s.heap) (I:W.InstAt s.heap x ox Cl od) (hga:findIn C.K (.ref Cl) "__getattribute__" = some (some (.builtin "object.__getattribute__")))
    (hf:findObj C.K Cl od name=some (.value v)) (hh:handedIn v=true) (k:Q v { s with toks:=s.toks + 1 }):wpAny (model C.prog C.w) A (getAttr (.ref x) name expr) Q E s:=get_value X I hga hf hh k
theorem ga_bind:bindSpecial (.builtin "list.__getattribute__") (.ref x)=pure (.builtin "list.__getattribute__",[.ref x]):=F.slot_list_getattribute.bind _
theorem getAttr_list {name:Str} {v:Value} {expr:Bool} {Q:Value→Shared→Prop} (X:C.K.In s.heap) (I:W.InstAt s.heap x ox Cl od) (hga:findIn C.K (.ref Cl) "__getattribute__" = some (some (.builtin "list.__getattribute__"))) (hgt:findIn C.K (.ref Cl) "__getattr__" = some none)
    (hm:mroIn C.K Cl (.type "list")=some true) (hf:findObj C.K Cl od name=some (.value v)) (hh:handedIn v=true) (k:Q v { s with toks:=s.toks + 1 }):wpAny (model C.prog C.w) A (getAttr (.ref x) name expr) Q E s:=by
  have L1:=looks_findIn (M:=model C.prog C.w) X hga
  have L2:=looks_findIn (M:=model C.prog C.w) X hgt
  have L3:=looks_find (M:=model C.prog C.w) X I hf
  have L0:=I.type (M:=model C.prog C.w)
  obtain ⟨hp,g,d,t,os⟩:=s
  unfold getAttr getAttrBy
  refine wpAny_bind (wpAny_mkText (wpAny_holding (wpAny_bind (L0.at (wpAny_bind (L1.at ?_))))))
  show wpAny _ _ (getAttrByItsOwn _ _ _ _ _ _) _ _ _
  unfold getAttrByItsOwn
  refine wpAny_bind (L2.at ?_)
  refine wpAny_bind (wpAny_attempt (wpAny_holding ?_))
  have e:callGetattribute (.ref x) (.str name t) (.builtin "list.__getattribute__") expr=boundAndCalled (.builtin "list.__getattribute__") (.ref x) (.str name t):=by
    unfold callGetattribute
    rw [if_neg (by simp [onTheHeap])]
  rw [e]
  unfold boundAndCalled
  rw [ga_bind]
  refine wpAny_bind (wpAny_pure ?_)
  refine call_below (s:=⟨hp,g,d,t + 1,os⟩) X I hm (.inr (by decide +kernel)) (n := "__getattribute__") (by decide +kernel) (by decide +kernel) F.entry_list_ga (by unfold argsOk; kernel_rfl) ?_
  refine wpAny_bind (wpAny_pure (wpAny_bind (wpAny_pure (wpAny_bind (L0.at (wpAny_bind (L3.at ?_)))))))
  refine wpAny_pure ⟨_,rfl,?_⟩
  show wpAny _ _ (handedOut v) _ _ _
  rw [handedOut_of hh]
  exact wpAny_pure k
end
noncomputable def attrName:Nat→Str
  | 0 => "_maxlen"
  | 1 => "_continuation_ws"
  | 2 => "_continuation_ws_len"
  | 3 => "_splitchars"
  | 4 => "_lines"
  | 5 => "_current_line"
  | _ => "_initial_size"
noncomputable def attrOf (k:Nat):AO→Option AV
  | .fmt ml cw cwl sp ln ac=>((fmtAttrs ml cw cwl sp ln ac)[k]?).map (·.2)
  | .acc ini _=>gd (k == 6) (.int ini)
  | .list _=>none
  | .ghost=>none
  | .gen ..=>none
  | .out _=>none
  | .cell ..=>none
  | .ext ..=>none
theorem fmt_lookup {k:Nat} {ml:Int} {cw:Str} {cwl:Int} {sp:Str} {ln ac:Nat} {x:AV} (h:attrOf k (.fmt ml cw cwl sp ln ac)=some x):(fmtAttrs ml cw cwl sp ln ac).lookup (attrName k)=some x∧k < 6:=by
  match k,h with
  | 0,h=>cases h; exact ⟨rfl,by decide⟩
  | 1,h=>cases h; exact ⟨rfl,by decide⟩
  | 2,h=>cases h; exact ⟨rfl,by decide⟩
  | 3,h=>cases h; exact ⟨rfl,by decide⟩
  | 4,h=>cases h; exact ⟨rfl,by decide⟩
  | 5,h=>cases h; exact ⟨rfl,by decide⟩
  | k + 6,h=>cases h
theorem acc_lookup {k:Nat} {ini:Int} {ps:List (Str × Str)} {x:AV} (h:attrOf k (.acc ini ps)=some x):(accAttrs ini).lookup (attrName k)=some x∧attrName k = "_initial_size" :=
  oG (show gd (k == 6) (AV.int ini)=some x from h) fun hk e=>by cases (beq_iff_eq.mp hk:k=6); exact ⟨congrArg some e,rfl⟩
structure ClsOk (C:Cfg):Prop where
  vfGa:findIn C.K (.ref C.VF) "__getattribute__" = some (some (.builtin "object.__getattribute__"))
  vfGt:findIn C.K (.ref C.VF) "__getattr__" = some none
  vfDict:hasDictIn C.K C.VF=true
  vfAttr:∀ k,k < 6→findIn C.K (.ref C.VF) (attrName k)=some none
  acGa:findIn C.K (.ref C.ACC) "__getattribute__" = some (some (.builtin "list.__getattribute__"))
  acGt:findIn C.K (.ref C.ACC) "__getattr__" = some none
  acDict:hasDictIn C.K C.ACC=true
  acAttr:findIn C.K (.ref C.ACC) "_initial_size" = some none
  acMro:mroIn C.K C.ACC (.type "list")=some true
section
variable {C:Cfg} {ρ:Rho} {σ:St} {s:Shared} {A:Around} {E:Value→Shared→Prop}
theorem fmtInst {h:Heap} {a d:Addr} {es:List DictEntry} {n:Nat} (ho:h.get? a=some ⟨.ref C.VF,some d,.plain,#[]⟩) (hd:h.get? d=some (dictOf es n)):W.InstAt h a ⟨.ref C.VF,some d,.plain,#[]⟩ C.VF (some (dictOf es n)):=⟨ho,rfl,rfl,hd⟩
theorem accInst {h:Heap} {a d:Addr} {es:List DictEntry} {n n':Nat} {vs:List Value} (ho:h.get? a=some ⟨.ref C.ACC,some d,.seq vs.toArray n,#[]⟩) (hd:h.get? d=some (dictOf es n')):W.InstAt h a ⟨.ref C.ACC,some d,.seq vs.toArray n,#[]⟩ C.ACC (some (dictOf es n')):=⟨ho,rfl,rfl,hd⟩
theorem vr_handed {h:Heap} {x:AV} {v:Value} (q:VR C ρ h x v):handedIn v=true:=by cases q <;> rfl
theorem attr_rel (H:CfgOk C) (HC:ClsOk C) {k:Nat} {x:AV} {l:Nat} {o:AO} {v:Value} {Q:Value→Shared→Prop} (R:Rel C ρ σ s) (q:VR C ρ s.heap (.loc l) v) (hl:σ[l]?=some o) (h:attrOf k o=some x)
    (kk:∀ w s',Rel C ρ σ s'→Step C [] ρ ρ s.heap s'.heap→VR C ρ s'.heap x w→Q w s'):wpAny (model C.prog C.w) A (getAttr v (attrName k) true) Q E s:=by
  have X:=R.kin H
  cases o with
  | fmt =>
    refine R.fmt_e hl q fun a d es n uu ho hd he=>?_
    have g:=entR_get (name:=attrName k) he
    (refine x0_2 (fmt_lookup h) fun h' hk=>?_)
    rw [h'] at g
    exact x1_2 g fun w hw qw=>getAttr_val X (fmtInst ho hd) HC.vfGa (findObj_own HC.vfDict (HC.vfAttr k hk) rfl hw) (vr_handed qw) (kk w _ R.toks .refl qw)
  | acc =>
    refine R.acc_e hl q fun a d es n n' vs uu ho hd he hs=>?_
    have g:=entR_get (name:=attrName k) he
    (refine x0_2 (acc_lookup h) fun h' hk=>?_)
    rw [h'] at g
    rw [hk] at g ⊢
    exact x1_2 g fun w hw qw=>getAttr_list X (accInst ho hd) HC.acGa HC.acGt HC.acMro (findObj_own HC.acDict HC.acAttr rfl hw) (vr_handed qw) (kk w _ R.toks .refl qw)
  | _=>exact nomatch h
noncomputable def attrE (k:Nat) (f:EM):EM:=fun lc σ=>(f lc σ).bind fun p=>p.1.loc?.bind fun l=>p.2[l]?.bind fun o=>(attrOf k o).map (·,p.2)
theorem den_attr {d:Nat} {env:Env} {vars:List Str} {p:Pos} {o:Expr} {n:Str} {f:EM} {k:Nat} (H:CfgOk C) (HC:ClsOk C) (hn:attrName k=n) (D:DenE C d env vars o f) (hb:∀ nm whole,attributeBase o nm env whole=whole):DenE C d env vars (.Attribute o n p) (attrE k f):=by
  intro lc σ x σ' hf A Q E s ρ hA R lr kk
  refine oB hf fun y e1 hf=>oB hf fun l el hf=>oB hf fun ob e2 hf=>oM hf fun z hz e3=>?_
  rw [← hn]
  refine Attribute_any_ (D _ _ _ _ e1 A _ E s ρ hA R lr fun v s₁ ρ₁ R₁ S₁ q₁=>?_) (by rw [arm_eval_Attribute,hb])
  exact attr_rel H HC R₁ (AV.loc_inv el▸q₁) e2 hz fun w s₂ R₂ S₂ q₂=>kfe kk e3 w s₂ ρ₁ R₂ (S₁.trans S₂) q₂
theorem kind_loc {x:AV} {k:Nat} (h:kind σ x=k) (hk:2 < k):∃ l o,x.loc?=some l∧σ[l]?=some o∧kindO o=k:=by
  have no:∀ {n:Nat},n=k→n≤2→False:=fun e z=>Nat.lt_irrefl _ (Nat.lt_of_lt_of_le (e▸hk) z)
  cases x with
  | loc l =>
    have h:(σ[l]?.map kindO).getD 0=k:=h
    cases e:σ[l]? with
    | none=>rw [e] at h; exact (no h (by decide)).elim
    | some o=>rw [e] at h; exact ⟨l,o,rfl,e,h⟩
  | lst=>exact (no (n:=2) h (by decide)).elim
  | str=>exact (no (n:=1) h (by decide)).elim
  | _=>exact (no (n:=0) h (by decide)).elim
theorem kindO_fmt {o:AO} (h:kindO o=3):∃ ml cw cwl sp ln ac,o=.fmt ml cw cwl sp ln ac:=by
  cases o with
  | fmt ml cw cwl sp ln ac=>exact ⟨ml,cw,cwl,sp,ln,ac,rfl⟩
  | _=>exact absurd h (by dsimp only [kindO]; decide)
theorem kindO_acc {o:AO} (h:kindO o=4):∃ ini ps,o=.acc ini ps:=by
  cases o with
  | acc ini ps=>exact ⟨ini,ps,rfl⟩
  | _=>exact absurd h (by dsimp only [kindO]; decide)
theorem getM_fmt (H:CfgOk C) (HC:ClsOk C) {name:Str} {f:Addr} (hf:findIn C.K (.ref C.VF) name=some (some (.ref f))) (ht:typeIn C.K (.ref f)=some (.type "function")) (c:∀ k,k < 6→(name == attrName k)=false):GetM C 3 name (.ref f):=by
  intro A Q E s ρ σ x v pl R q hk kk
  refine x2_3 (kind_loc hk (by decide)) fun l o el hl ko=>x6_1 (kindO_fmt ko) fun ml cw cwl sp ln ac eo=>?_
  rw [eo] at hl
  rw [AV.loc_inv el] at q
  clear eo ko hk
  revert kk
  refine R.fmt_e hl q fun a d es n uu ho hd he kk=>?_
  have g:=entR_get (name:=name) he
  have e:(fmtAttrs ml cw cwl sp ln ac).lookup name=none:=by
    unfold fmtAttrs
    have c0:(name == ("_maxlen" : Str))=false:=c 0 (by decide)
    have c1:(name == ("_continuation_ws" : Str))=false:=c 1 (by decide)
    have c2:(name == ("_continuation_ws_len" : Str))=false:=c 2 (by decide)
    have c3:(name == ("_splitchars" : Str))=false:=c 3 (by decide)
    have c4:(name == ("_lines" : Str))=false:=c 4 (by decide)
    have c5:(name == ("_current_line" : Str))=false:=c 5 (by decide)
    simp only [List.lookup_cons,c0,c1,c2,c3,c4,c5,List.lookup_nil]
  rw [e] at g
  exact getMethod_inst (R.kin H) (fmtInst ho hd) rfl hd HC.vfGa (by decide +kernel) HC.vfGt hf ht (.inl rfl) g kk
theorem getM_acc (H:CfgOk C) (HC:ClsOk C) {name:Str} {fv tf:Value} (hf:findIn C.K (.ref C.ACC) name=some (some fv)) (ht:typeIn C.K fv=some tf) (htf:tf=.type "function" ∨ tf=.type "method_descriptor" ∨ tf=.type "wrapper_descriptor") (hn:(name == ("_initial_size" : Str))=false):GetM C 4 name fv:=by
  intro A Q E s ρ σ x v pl R q hk kk
  refine x2_3 (kind_loc hk (by decide)) fun l o el hl ko=>x2_1 (kindO_acc ko) fun ini ps eo=>?_
  rw [eo] at hl
  rw [AV.loc_inv el] at q
  clear eo ko hk
  revert kk
  refine R.acc_e hl q fun a d es n n' vs uu ho hd he hs kk=>?_
  have g:=entR_get (name:=name) he
  have e:(accAttrs ini).lookup name=none:=by
    unfold accAttrs
    rw [List.lookup_cons,hn]
    rfl
  rw [e] at g
  exact getMethod_inst (R.kin H) (accInst ho hd) rfl hd HC.acGa (by decide +kernel) HC.acGt hf ht htf g kk
end
section
variable {C:Cfg} {ρ:Rho} {σ:St} {s:Shared} {A:Around} {E:Value→Shared→Prop}
theorem stepMut {a:Addr} {h h':Heap} (hm:Mut C ρ a) (hs:Heap.SameBut a h h'):Step C [] ρ ρ h h' :=
  ⟨by rw [hs.1]; exact Nat.le_refl _,fun b o e n uu=>(hs.2 b fun z=>n (z▸hm)).trans e,[],by simp,fun uu hp=>nomatch hp⟩
theorem dis_of (R:Rel C ρ σ s) {l l':Nat} {p q:Addr × Addr} (hl:ρ[l]?=some p) (hl':ρ[l']?=some q) (hne:l≠l'):p.1≠q.1∧p.1≠q.2∧p.2≠q.1∧p.2≠q.2:=by
  obtain ⟨h1,e1⟩:=List.getElem?_eq_some_iff.mp hl
  obtain ⟨h2,e2⟩:=List.getElem?_eq_some_iff.mp hl'
  have D:=List.pairwise_iff_getElem.mp R.dis
  rcases Nat.lt_or_gt_of_ne hne with h | h
  · have:=D l l' h1 h2 h; rw [e1,e2] at this; exact this
  · have:=D l' l h2 h1 h; rw [e1,e2] at this; exact ⟨this.1.symm,this.2.2.1.symm,this.2.1.symm,this.2.2.2.symm⟩
theorem ObjR.noFields {h:Heap} {p:Addr × Addr} {o:AO} {a:Addr} (z:ObjR C ρ h p o) (ha:p.1=a∨p.2=a):∃ ob,h.get? a=some ob∧((∀ vs,ob.data≠.fields vs)∨ob.cls=.type "generator"):=by
  have at_:∀ {b:Addr} {ob:Obj},b=a→h.get? b=some ob→((∀ vs,ob.data≠.fields vs)∨ob.cls=.type "generator")→∃ ob,h.get? a=some ob∧((∀ vs,ob.data≠.fields vs)∨ob.cls=.type "generator"):=fun e ho z=>⟨_,e▸ho,z⟩
  have nf:∀ {ob:Obj} {d:Data},ob.data=d→(∀ vs,d≠.fields vs)→((∀ vs,ob.data≠.fields vs)∨ob.cls=.type "generator"):=fun e z=>.inl fun vs y=>z vs (e.symm.trans y)
  cases o with
  | list=>exact x2_3 z fun vs n e h1 uu=>at_ (ha.elim id fun z=>e.symm.trans z) h1 (nf rfl fun uu=>Data.noConfusion)
  | fmt=>exact x2_3 z fun es n h1 h2 uu=>ha.elim (fun e=>at_ e h1 (nf rfl fun uu=>Data.noConfusion)) fun e=>at_ e h2 (nf rfl fun uu=>Data.noConfusion)
  | acc=>exact x4_4 z fun es n n' vs h1 h2 uu uu=>ha.elim (fun e=>at_ e h1 (nf rfl fun uu=>Data.noConfusion)) fun e=>at_ e h2 (nf rfl fun uu=>Data.noConfusion)
  | ghost=>exact x3_2 z fun x y n e h1=>at_ (ha.elim id fun z=>e.symm.trans z) h1 (nf rfl fun uu=>Data.noConfusion)
  | out=>exact x2_2 z fun nm qn e h1=>at_ (ha.elim id fun z=>e.symm.trans z) h1 (.inr rfl)
  | gen=>exact x3_2 z fun n nm qn h1 hL=>ha.elim (fun e=>at_ e h1 (.inr rfl)) fun e=>x2_2 hL.self fun mm q hn uu=>x3_3 hn fun o es ep ho hd uu=>at_ e ho (nf hd fun uu=>Data.noConfusion)
  | cell c x =>
    refine x0_2 z fun e z=>?_
    have ec:c=a:=ha.elim (fun q=>(congrArg (·.1) e).symm.trans q) fun q=>(congrArg (·.2) e).symm.trans q
    have cl:∀ {v:Option Value},h.IsCell c v→∃ ob,h.get? a=some ob∧((∀ vs,ob.data≠.fields vs)∨ob.cls=.type "generator"):=fun q=>x1_2 q fun ob ho hd=>at_ ec ho (nf hd fun uu=>Data.noConfusion)
    cases x with
    | none=>exact cl z
    | some y=>exact x1_2 z fun v q uu=>cl q
  | ext=>exact let ⟨o1,o2,_,a,b,n1,n2,_⟩:=z; ha.elim (fun e=>at_ e a n1) fun e=>at_ e b n2
theorem Rel.upd (R:Rel C ρ σ s) {l:Nat} {p:Addr × Addr} {o':AO} {a:Addr} {h':Heap} {n:Nat} (hl:ρ[l]?=some p) (ha:p.1=a∨p.2=a) (hs:Heap.SameBut a s.heap h') (ho':ObjR C ρ h' p o') (ng:o'.isGen=false) :
    Rel C ρ (σ.set l o') { s with heap:=h',toks:=n }∧Step C [] ρ ρ s.heap h':=by
  have hmem:=List.mem_of_getElem? hl
  have hm:Mut C ρ a:=.inr ⟨p,hmem,ha⟩
  have S:Step C [] ρ ρ s.heap h':=stepMut hm hs
  have hlo:C.s₁.heap.objs.size≤a:=by rcases ha with rfl | rfl; exact (R.lo p hmem).1; exact (R.lo p hmem).2
  have q0:l < σ.length:=R.len▸(List.getElem?_eq_some_iff.mp hl).1
  have cdLt:∀ b o,s.heap.get? b=some o→CodeOb o→b≠a:=fun b o ho hc=>by
    (refine x1_2 ((R.st l p σ[l] hl (List.getElem?_eq_getElem q0)).noFields ha) fun ob hob hn=>?_)
    obtain ⟨hc,vs,hd⟩:=hc
    rintro rfl
    rw [hob] at ho; cases ho
    exact hn.elim (fun hn=>hn _ hd) fun hn=>by rw [hc] at hn; exact absurd hn (by decide)
  have tabLt:∀ t∈C.tabs,t.1≠a∧t.2.1≠a:=fun t ht=>by
    obtain ⟨_,_,⟨⟨⟨o,vs,ho,hc,hd,_⟩,hP⟩,_⟩⟩:=R.tab t ht
    have q:l < σ.length:=R.len▸(List.getElem?_eq_some_iff.mp hl).1
    (refine x1_2 ((R.st l p σ[l] hl (List.getElem?_eq_getElem q)).noFields ha) fun ob hob hn=>?_)
    constructor
    · rintro rfl
      rw [hob] at ho; cases ho
      exact hn.elim (fun hn=>hn _ hd) fun hn=>by rw [hc] at hn; exact absurd hn (by decide)
    · rintro rfl
      rw [hob] at hP; cases hP
      exact hn.elim (fun hn=>hn _ rfl) fun hn=>absurd (show Value.none=.type "generator" from hn) (by decide)
  have gk:∀ (l':Nat) (p':Addr × Addr) (x:AO),ρ[l']?=some p'→(σ.set l o')[l']?=some x→x.isGen=true→∀ o,s.heap.get? p'.1=some o→h'.get? p'.1=some o:=by
    intro l' p' x e e' hx o ho
    have hll:l≠l':=by
      rintro rfl
      rw [List.getElem?_set_self (by exact R.len▸(List.getElem?_eq_some_iff.mp hl).1)] at e'
      cases e'; rw [hx] at ng; cases ng
    have d:=dis_of R hl e hll
    refine (hs.2 _ ?_).trans ho
    rcases ha with rfl | rfl
    · exact d.1.symm
    · exact d.2.2.1.symm
  refine ⟨⟨fun b o e nt=>?_,fun t ht=>?_,R.lo,R.dis,by rw [List.length_set]; exact R.len,fun l' p' o e e'=>?_,(R.gens.set ng).heap gk,R.drawn,R.os,by show _≤h'.objs.size; rw [hs.1]; exact R.size⟩,S⟩
  · exact (hs.2 b (Nat.ne_of_lt (Nat.lt_of_lt_of_le (Heap.lt_size e) hlo))).trans (R.old b o e nt)
  · (refine x1_2 (R.tab t ht) fun more x y=>?_)
    have:=tabLt t ht
    exact ⟨more,x.sameBut hs this.1 this.2,y.move (fun b o e hc=>(hs.2 b (cdLt b o e hc)).trans e) fun o e=>(hs.2 _ this.2).trans e⟩
  · by_cases hll:l=l'
    · subst hll
      rw [hl] at e
      rw [List.getElem?_set_self (by exact R.len▸(List.getElem?_eq_some_iff.mp hl).1)] at e'
      exact Option.some.inj e▸Option.some.inj e'▸ho'
    · rw [List.getElem?_set_ne hll] at e'
      have d:=dis_of R hl e hll
      have n1:p'.1≠a:=by rcases ha with rfl | rfl; exact d.1.symm; exact d.2.2.1.symm
      have n2:p'.2≠a:=by rcases ha with rfl | rfl; exact d.2.1.symm; exact d.2.2.2.symm
      exact (R.st l' p' o e e').move (fun ob z=>(hs.2 _ n1).trans z) (fun ob z=>(hs.2 _ n2).trans z) (·.go S) (fun uu z=>z) fun b o e hc=>(hs.2 b (cdLt b o e hc)).trans e
theorem accNe {h:Heap} {a d:Addr} {vs:List Value} {n n':Nat} {es:List DictEntry} (ho:h.get? a=some ⟨.ref C.ACC,some d,.seq vs.toArray n,#[]⟩) (hd:h.get? d=some (dictOf es n')):d≠a:=by
  rintro rfl
  rw [ho] at hd
  cases hd
theorem mapSeq_at {h:Heap} {a:Addr} {c:Value} {d:Option Addr} {items:Array Value} {n:Nat} {sl:Array (Option Value)} (ho:h.get? a=some ⟨c,d,.seq items n,sl⟩) (f:Array Value→Array Value) :
    (h.update a (Obj.mapSeq f)).get? a=some ⟨c,d,.seq (f items) (if (f items).size == items.size then n else n + 1),sl⟩:=Heap.get?_update_self _ ho rfl
theorem append_any {a:Addr} {c:Value} {d:Option Addr} {items:Array Value} {n:Nat} {sl:Array (Option Value)} {x:Value} {Q:Fin→Shared→Prop} (ho:s.heap.get? a=some ⟨c,d,.seq items n,sl⟩) (hz:items.size≤sizeLine)
    (k:Q (.done (.ret .none)) { s with heap:=s.heap.update a (Obj.mapSeq fun xs=>xs.push x) }):wpAny (model C.prog C.w) A (Builtin.«list.append» ⟨[.ref a,x],[]⟩) Q E s:=by
  obtain ⟨hp,g,dd,tk,os⟩:=s
  have hz':(items.push x).size≤sizeLine + 1:=by rw [Array.size_push]; (first | lia | omega)
  wp_walk using (wpAny_updateSeq ho rfl (hz:=hz) (_hz':=hz'))
  exact k
noncomputable def isPart (x:AV):Option (Str × Str):=x.tup?.bind fun ys=>(arg2 ys).bind fun p=>p.1.str?.bind fun a=>p.2.str?.map fun b=>(a,b)
theorem isPart_eq {x:AV} {p:Str × Str} (h:isPart x=some p):x=partAV p:=by
  refine oB h fun ys e1 h=>oB h fun q e2 h=>oB h fun a e3 h=>oM h fun b e4 e=>?_
  rw [AV.tup_inv e1,arg2_inv e2,AV.str_inv e3,AV.str_inv e4,← e]
  rfl
noncomputable def appendF (xs:List AV) (σ:St):Option (AV × St):=(arg2 xs).bind fun p=>p.1.loc?.bind fun l =>
  ((lstAt σ l).bind fun ys=>gd (decide (ys.length≤sizeLine)) (AV.none,σ.set l (.list (ys++[p.2])))).or
  ((accAt σ l).bind fun a=>(isPart p.2).bind fun pt=>gd (decide (a.2.length≤sizeLine)) (AV.none,σ.set l (.acc a.1 (a.2++[pt]))))
theorem den_append (H:CfgOk C) (HC:ClsOk C) {d:Nat}:DenCall C (d + 1) (.builtin "list.append") appendF:=by
  intro xs σ x σ' hf A Q E s ρ vs hA R q k
  refine oB hf fun pr e1 hf=>oB hf fun l e2 hf=>?_
  revert k
  refine q.arg2_e e1 fun w v q1 q2 k=>?_
  have q1:=AV.loc_inv e2▸q1
  refine oO hf (fun hf=>oB hf fun ys e hf=>oG hf fun hz hf=>?_) fun hf=>oB hf fun ac e hf=>oB hf fun pt e3 hf=>oG hf fun hz hf=>?_
  · refine R.list_e (lstAt_inv e) q1 fun a vs n e0 ho hs=>?_
    have hz':vs.toArray.size≤sizeLine:=by rw [List.size_toArray,hs.length]; exact of_decide_eq_true hz
    refine wpAny_call_entry F.slot_list_append (T := "list") ⟨_,ho,rfl⟩ F.entry_list_append (append_any ho hz' ⟨_,rfl,?_⟩) (F.args_list_append_2 _ _)
    have hsb:=Heap.SameBut.update s.heap a (Obj.mapSeq fun xs=>xs.push v)
    have S:Step C [] ρ ρ s.heap (s.heap.update a (Obj.mapSeq fun xs=>xs.push v)):=stepMut (.inr ⟨_,List.mem_of_getElem? e0,.inl rfl⟩) hsb
    have gt:=mapSeq_at ho (fun xs=>xs.push v)
    rw [List.push_toArray] at gt
    exact x0_2 (R.upd (n:=s.toks) e0 (.inl rfl) hsb (.list gt ((hs.go S).append (.cons (q2.go S) .nil))) rfl) fun R' S'=>kfe k hf _ _ _ R' S' .none
  · refine R.acc_e (accAt_inv e) q1 fun a dd es n n' vs e0 ho hd he hs=>?_
    have hz':vs.toArray.size≤sizeLine:=by rw [List.size_toArray,hs.length,List.length_map]; exact of_decide_eq_true hz
    refine call_below (R.kin H) (accInst ho hd) HC.acMro (.inl (by decide +kernel)) (n := "append") (by decide +kernel) (by decide +kernel) F.entry_list_append (F.args_list_append_2 _ _) (append_any ho hz' ⟨_,rfl,?_⟩)
    have hsb:=Heap.SameBut.update s.heap a (Obj.mapSeq fun xs=>xs.push v)
    have S:Step C [] ρ ρ s.heap (s.heap.update a (Obj.mapSeq fun xs=>xs.push v)):=stepMut (.inr ⟨_,List.mem_of_getElem? e0,.inl rfl⟩) hsb
    have gt:=mapSeq_at ho (fun xs=>xs.push v)
    rw [List.push_toArray] at gt
    rw [isPart_eq e3] at q2
    exact x0_2 (R.upd (n:=s.toks) e0 (.inl rfl) hsb (.acc (parts:=ac.2++[pt]) gt ((hsb.2 _ (accNe ho hd)).trans hd) (he.go S) (by rw [List.map_append]; exact (hs.go S).append (.cons (q2.go S) .nil))) rfl) fun R' S'=>kfe k hf _ _ _ R' S' .none
end
section
variable {C:Cfg} {s:Shared} {A:Around} {E:Value→Shared→Prop} {x Cl:Addr} {ox:Obj} {od:Option Obj}
theorem call_inst {id n T:String} {B:Builtin} {v:Value} {rest:List Value} {Q:Value→Shared→Prop} (L:Looks (model C.prog C.w) s.heap (isInstance v (.type T)) true) (hk:builtinKind id=some .method∨builtinKind id=some .slot) (hs:splitId id=some (T,n)) (hp:plainId id=true) (hb:entryFor table id=some B)
    (ha:argsOk id ⟨v :: rest,[]⟩) (hc:wpAny (model C.prog C.w) A.in1 (B ⟨v :: rest,[]⟩) (fun fin s'=>∃ v,fin=.done (.ret v)∧Q v s') E s):wpAny (model C.prog C.w) A (call (.builtin id) (v :: rest)) Q E s:=by
  refine wpAny_call (codeAny_call_builtin hp hb ?_)
  have hfin:=wpAny_mono hc (Q':=fun fin s'=>match fin with
      | .done f=>(match (Except.ok f:Result) with | .ok (.ret v)=>Q v s' | .ok _=>False | .error e=>E e s')
      | .again c'=>c'.quiet=true∧codeAny (model C.prog C.w) A c' (fun r s'=>match r with | .ok (.ret v)=>Q v s' | .ok _=>False | .error e=>E e s') s')
    (fun fin s' h'=>by (refine x1_2 (h') fun v rr1 hv=>?_; clear h'; subst rr1); exact hv) fun uu uu h'=>h'
  rcases hk with hk | hk
  · exact check_meth hk hs L ha hfin
  · exact check_slot hk hs L ha hfin
end
theorem own_len : ".".intercalate ("list.__len__".cutAt '.').dropLast = "list" := by decide +kernel
theorem own_init : ".".intercalate ("list.__init__".cutAt '.').dropLast = "list" := by decide +kernel
theorem own_pop : ".".intercalate ("list.pop".cutAt '.').dropLast = "list" := by decide +kernel
theorem told_pop:Manifest.toldItsClass.contains "list.pop" = false:=by decide +kernel
theorem sig_len (v:Value):checkBoundCall "list.__len__" ⟨[v],[]⟩=pure ():=by kernel_rfl
theorem sig_init (v:Value):checkBoundCall "list.__init__" ⟨[v],[]⟩=pure ():=by kernel_rfl
theorem sig_pop (v:Value):(match Manifest.signature? "list.pop" with | some sig=>Bind.checkArgs "list.pop" { sig with full := "_Accumulator.pop" } ⟨[v],[]⟩ | none=>pure ())=pure ():=by kernel_rfl
theorem acc_name:(s!"{(Str.ofString "_Accumulator").toString}.{Bind.lastOf "list.pop"}") = "_Accumulator.pop" := by decide +kernel
theorem kind_pop:builtinKind "list.pop" = some .method:=by decide +kernel
theorem va_pop:Manifest.varargsMethods.contains "list.pop" = false:=by decide +kernel
structure SupM (id dt get bt:String) (B:Builtin):Prop where
  ty:∀ K,typeIn K (.builtin id)=some (.type dt)
  hget:∀ K,findIn K (.type dt) "__get__" = some (some (.builtin get))
  inst:∀ K,instIn K (.builtin id) (.type dt)=some true
  kind:builtinKind get=some .slot
  split:splitId get=some (dt, "__get__")
  plain:plainId get=true
  entry:entryFor table get=some B
  args:∀ a b c:Value,argsOk get ⟨[a,b,c],[]⟩
  run:∀ {M:Model} {A:Around} {h:Heap} {g:Array GenState} {d:Drawn} {t:Nat} {os:OsState} {x C:Addr} {ox:Obj} {Q:Fin→Shared→Prop} {E:Value→Shared→Prop},h.get? x=some ox→Looks M h (isSubtype ox.cls (.type "list")) true →
    Q (.done (.ret (.ref h.objs.size))) ⟨h.push { cls:=.type bt,data:=.fields #[.builtin id,.ref x] },g,d,t,os⟩→wpAny M A (B ⟨[.builtin id,.ref x,.ref C],[]⟩) Q E ⟨h,g,d,t,os⟩
  hbt:bt = "method-wrapper" ∨ bt = "builtin_function_or_method"
theorem sup_len:SupM "list.__len__" "wrapper_descriptor" "wrapper_descriptor.__get__" "method-wrapper" Builtin.«wrapper_descriptor.__get__» where
  ty K:=by kernel_rfl
  hget K:=by kernel_rfl
  inst K:=by kernel_rfl
  kind:=by decide +kernel
  split:=by decide +kernel
  plain:=by decide +kernel
  entry:=entryFor_of_tree (by kernel_rfl)
  args a b c:=by unfold argsOk; kernel_rfl
  run hx L k:=by
    unfold Builtin.«wrapper_descriptor.__get__»
    repeat (first | (with_reducible refine wpAny_loadPart_at hx ?_) | (simp only [own_len]; with_reducible refine Looks.at L ?_) | wp_step)
    all_goals exact k
  hbt:=.inl rfl
theorem sup_init:SupM "list.__init__" "wrapper_descriptor" "wrapper_descriptor.__get__" "method-wrapper" Builtin.«wrapper_descriptor.__get__» where
  ty K:=by kernel_rfl
  hget K:=by kernel_rfl
  inst K:=by kernel_rfl
  kind:=by decide +kernel
  split:=by decide +kernel
  plain:=by decide +kernel
  entry:=entryFor_of_tree (by kernel_rfl)
  args a b c:=by unfold argsOk; kernel_rfl
  run hx L k:=by
    unfold Builtin.«wrapper_descriptor.__get__»
    repeat (first | (with_reducible refine wpAny_loadPart_at hx ?_) | (simp only [own_init]; with_reducible refine Looks.at L ?_) | wp_step)
    all_goals exact k
  hbt:=.inl rfl
theorem sup_pop:SupM "list.pop" "method_descriptor" "method_descriptor.__get__" "builtin_function_or_method" Builtin.«method_descriptor.__get__» where
  ty K:=by kernel_rfl
  hget K:=by kernel_rfl
  inst K:=by kernel_rfl
  kind:=by decide +kernel
  split:=by decide +kernel
  plain:=by decide +kernel
  entry:=entryFor_of_tree (by kernel_rfl)
  args a b c:=by unfold argsOk; kernel_rfl
  run hx L k:=by
    unfold Builtin.«method_descriptor.__get__»
    repeat (first | (with_reducible refine wpAny_loadPart_at hx ?_) | (simp only [own_pop]; with_reducible refine Looks.at L ?_) | (simp only [told_pop,Bool.false_eq_true,if_false]) | wp_step)
    all_goals exact k
  hbt:=.inr rfl
section
variable {C:Cfg} {A:Around} {E:Value→Shared→Prop} {h:Heap} {g:Array GenState} {d:Drawn} {t:Nat} {os:OsState}
theorem super_ga {so D x Cl:Addr} {ox:Obj} {l₀ l:List Value} {name:Str} {tk:Tok} {id dt get bt:String} {B:Builtin} {Q:Fin→Shared→Prop} (SM:SupM id dt get bt B)
    (hso:h.get? so=some { cls:=.type "super",dict:=none,data:=.fields #[.ref D,.ref x,.ref Cl],slots:=#[] }) (hno:Looks (model C.prog C.w) h (opaqueClassAbove (.ref Cl)) none)
    (hC:Looks (model C.prog C.w) h (mroOf (.ref Cl)) l₀) (hl:(l₀.dropWhile (· != .ref D)).drop 1=l) (X:C.K.In h) (hx:h.get? x=some ox) (hxc:ox.cls=.ref Cl) (hsub:Looks (model C.prog C.w) h (isSubtype (.ref Cl) (.type "list")) true)
    (hf:alongIn C.K name l=some (some (.builtin id))) (hxC:x≠Cl) (hn:(name == ("__class__" : Str))=false)
    (hq:Q (.done (.ret (.ref h.objs.size))) ⟨h.push { cls:=.type bt,data:=.fields #[.builtin id,.ref x] },g,d,t,os⟩) :
    wpAny (model C.prog C.w) A (Builtin.«super.__getattribute__» ⟨[.ref so,.str name tk],[]⟩) Q E ⟨h,g,d,t,os⟩:=by
  have hne:(Value.ref x == Value.ref Cl)=false:=by simp [hxC]
  have hdt:({ cls:=.type "super",dict:=none,data:=.fields #[.ref D,.ref x,.ref Cl],slots:=#[] }:Obj).data=.fields #[.ref D,.ref x,.ref Cl]:=rfl
  have f0:(#[.ref D,.ref x,.ref Cl]:Array Value)[0]?=some (.ref D):=rfl
  have f1:(#[.ref D,.ref x,.ref Cl]:Array Value)[1]?=some (.ref x):=rfl
  have f2:(#[.ref D,.ref x,.ref Cl]:Array Value)[2]?=some (.ref Cl):=rfl
  have L1:=looks_typeIn (M:=model C.prog C.w) X (SM.ty C.K)
  have L2:=looks_findIn (M:=model C.prog C.w) X (SM.hget C.K)
  have L3:=looks_instIn (M:=model C.prog C.w) X (SM.inst C.K)
  have hcall:∀ {Q':Value→Shared→Prop} {E':Value→Shared→Prop},Q' (.ref h.objs.size) ⟨h.push { cls:=.type bt,data:=.fields #[.builtin id,.ref x] },g,d,t,os⟩→wpAny (model C.prog C.w) A (call (.builtin get) [.builtin id,.ref x,.ref Cl]) Q' E' ⟨h,g,d,t,os⟩:=fun hq' =>
    call_inst (s:=⟨h,g,d,t,os⟩) L3 (.inr SM.kind) SM.split SM.plain SM.entry (SM.args _ _ _) (SM.run hx (by rw [hxc]; exact hsub) ⟨_,rfl,hq'⟩)
  unfold Builtin.«super.__getattribute__»
  repeat (first
    | (with_reducible refine wpAny_field hso hdt f0 ?_) | (with_reducible refine wpAny_field hso hdt f1 ?_) | (with_reducible refine wpAny_field hso hdt f2 ?_)
    | (with_reducible refine ks_wpAny_notOpaque hno ?_)
    | (with_reducible refine Looks.at hC ?_; rw [hl])
    | (refine ks_forIn_along X (fun uu uu=>rfl) rfl ?_ hf)
    | (with_reducible refine Looks.at L1 ?_)
    | (with_reducible refine Looks.at L2 ?_)
    | (with_reducible refine hcall ?_)
    | (simp only [hn,hne,Bool.or_false,Bool.false_eq_true,if_false])
    | wp_step
    | dsimp only)
  all_goals exact hq
theorem getMethod_super {so D x Cl:Addr} {ox:Obj} {l₀ l:List Value} {name:Str} {id dt get bt:String} {B:Builtin} {pl:Sem Bool} {Q:Value × List Value→Shared→Prop} (SM:SupM id dt get bt B)
    (hso:h.get? so=some { cls:=.type "super",dict:=none,data:=.fields #[.ref D,.ref x,.ref Cl],slots:=#[] }) (hno:Looks (model C.prog C.w) h (opaqueClassAbove (.ref Cl)) none)
    (hC:Looks (model C.prog C.w) h (mroOf (.ref Cl)) l₀) (hl:(l₀.dropWhile (· != .ref D)).drop 1=l) (X:C.K.In h) (hx:h.get? x=some ox) (hxc:ox.cls=.ref Cl) (hsub:Looks (model C.prog C.w) h (isSubtype (.ref Cl) (.type "list")) true)
    (hf:alongIn C.K name l=some (some (.builtin id))) (hxC:x≠Cl) (hn:(name == ("__class__" : Str))=false)
    (hq:Q (.ref h.objs.size,[]) ⟨h.push { cls:=.type bt,data:=.fields #[.builtin id,.ref x] },g,d,t + 1,os⟩) :
    wpAny (model C.prog C.w) A (getMethod (.ref so) name pl) Q E ⟨h,g,d,t,os⟩:=by
  have hlk:=F.ks_slot_super_ga.lookup
  have hcan:=F.ks_canon_super_ga
  have hT:∀ t',(⟨h,g,d,t',os⟩:Shared).TypeIs (.ref so) "super" := fun uu=>⟨_,hso,rfl⟩
  unfold getMethod
  refine wpAny_bind (wpAny_specialOf (hT _) hlk ?_)
  show wpAny _ _ (if (Manifest.canonical "super.__getattribute__" != "object.__getattribute__")=true then _ else _) _ _ _
  rw [if_pos hcan]
  unfold getAttr getAttrBy
  refine wpAny_bind (wpAny_bind (wpAny_mkText (wpAny_holding (wpAny_bind (wpAny_typeOf (hT _) (wpAny_bind (wpAny_of_eq hlk ?_)))))))
  show wpAny _ _ (getAttrByItsOwn (.ref so) (.str name t) (.type "super") (.builtin "super.__getattribute__") true false) _ _ _
  unfold getAttrByItsOwn hookBefore callGetattribute boundAndCalled
  refine wpAny_bind (wpAny_of_eq (show (if onTheHeap (.type "super") then typeLookup (.type "super") "__getattr__" else pure none)=pure none from rfl) ?_)
  refine wpAny_bind (wpAny_attempt (wpAny_holding ?_))
  show wpAny _ _ (bindSpecial (.builtin "super.__getattribute__") (.ref so) >>= _) _ _ _
  refine wpAny_bind (wpAny_of_eq (F.ks_slot_super_ga.bind _) ?_)
  refine wpAny_mono (Q:=fun v s'=>v=.ref h.objs.size∧s'=⟨h.push { cls:=.type bt,data:=.fields #[.builtin id,.ref x] },g,d,t + 1,os⟩) (E:=fun uu uu=>False)
    (wpAny_call_entry F.ks_slot_super_ga (hT _) F.ks_entry_super_ga (super_ga SM hso hno hC hl X hx hxc hsub hf hxC hn ⟨_,rfl,rfl,rfl⟩) (F.ks_gaArgs_super _ _)) (fun v s' hv=>?_) fun uu uu z=>z.elim
  (refine x0_2 (hv) fun rr0 rr1=>?_; clear hv; subst rr0; subst rr1)
  exact wpAny_pure (wpAny_pure hq)
theorem keep_bound {b:Addr} {bt:String} {fv x:Value} (hbt:bt = "method-wrapper" ∨ bt = "builtin_function_or_method") {h:Heap} (hb:h.get? b=some { cls:=.type bt,data:=.fields #[fv,x] }):Looks (model C.prog C.w) h (keeperOf (.ref b)) .machine:=by
  unfold keeperOf
  refine (Looks.ld (part:=none) hb).andThen ?_
  rcases hbt with rfl | rfl <;> exact .now
theorem call_bound {b:Addr} {bt id:String} {x:Value} {B:Builtin} {Q:Value→Shared→Prop} {s:Shared} (hbt:bt = "method-wrapper" ∨ bt = "builtin_function_or_method") (hb:s.heap.get? b=some { cls:=.type bt,data:=.fields #[.builtin id,x] })
    (hck:∀ {Q':Unit→Shared→Prop} {E':Value→Shared→Prop},Q' () s→wpAny (model C.prog C.w) A.in1 (checkBoundCall id ⟨[x],[]⟩) Q' E' s) (hp:plainId id=true) (he:entryFor table id=some B)
    (hc:wpAny (model C.prog C.w) A.in1 (B ⟨[x],[]⟩) (fun fin s'=>∃ v,fin=.done (.ret v)∧Q v s') E s):wpAny (model C.prog C.w) A (call (.ref b) []) Q E s:=by
  refine wpAny_call (codeAny_of_tree ?_)
  show wpAny _ A.in1 (callAny (.ref b) ⟨[],[]⟩) _ _ _
  unfold callAny
  refine wpAny_bind (wpAny_load hb ?_)
  dsimp only
  have e1:(((Value.type bt == .type "method") || (Value.type bt == .type "builtin_function_or_method")) || (Value.type bt == .type "method-wrapper"))=true:=by rcases hbt with rfl | rfl <;> decide
  have e2:(Value.type bt != .type "method")=true:=by rcases hbt with rfl | rfl <;> decide
  rw [e1,if_pos rfl]
  show wpAny _ _ (if (Value.type bt != .type "method")=true then _ else _) _ _ _
  rw [e2,if_pos rfl]
  refine wpAny_bind (hck ?_)
  refine wpAny_bind (wpAny_pure (wpAny_pure ⟨plainId_quiet hp _,codeAny_builtin he ?_⟩))
  rw [Around.under_plainId hp]
  refine wpAny_mono hc (fun fin s' h'=>?_) fun uu uu h'=>h'
  (refine x1_2 (h') fun v rr1 hv=>?_; clear h'; subst rr1)
  exact hv
set_option tactic.hygienic true
theorem ck_pop {x Cl:Addr} {ox:Obj} {od:Option Obj} {cd:ClassData} {Q:Unit→Shared→Prop} (X:C.K.In h) (I:W.InstAt h x ox Cl od) (hc:clsIn C.K Cl=some cd) (hq:cd.qualname = "_Accumulator") (ht:typeIn C.K (.ref Cl)=some (.type "type")) (hm:mroIn C.K Cl (.type "module")=some false)
    (k:Q () ⟨h,g,d,t,os⟩):wpAny (model C.prog C.w) A (checkBoundCall "list.pop" ⟨[.ref x],[]⟩) Q E ⟨h,g,d,t,os⟩:=by
  have L0:=I.type (M:=model C.prog C.w)
  have L1:Looks (model C.prog C.w) h (isInstance (.ref x) (.type "module")) false:=I.type.andThen (looks_mroIn X hm)
  have L2:=looks_clsIn (M:=model C.prog C.w) X hc
  have L3:=looks_typeIn (M:=model C.prog C.w) X ht
  have hnc:∀ c,ox.data≠.cls c:=fun c e=>by have:=I.no; unfold notCls at this; rw [e] at this; cases this
  unfold checkBoundCall
  have sp:=sig_pop (.ref x)
  split
  · rename_i sig hs
    rw [hs] at sp
    dsimp only at sp
    rw [kind_pop]
    dsimp only
    show wpAny _ _ (do let ofModule ← isInstance (.ref x) (.type "module"); _) _ _ _
    refine wpAny_bind (Looks.at L1 ?_)
    rw [va_pop]
    refine wpAny_bind (ks_wpAny_isType_inst I.at_ hnc ?_)
    rw [if_neg Bool.false_ne_true]
    refine wpAny_bind (Looks.at L0 ?_)
    dsimp only
    refine wpAny_bind (Looks.at L2 ?_)
    refine wpAny_bind (Looks.at L3 ?_)
    rw [if_pos (by decide),hq]
    rw [show (toString (Str.ofString "_Accumulator").toString++toString "." ++ toString (Bind.lastOf "list.pop")) = "_Accumulator.pop" from acc_name]
    rw [sp]
    exact wpAny_pure k
  · exact wpAny_pure k
end
noncomputable def DenSAt (C:Cfg) (d:Nat) (env:Env) (vars:List Str) (body:List Stmt) (st:Stmt) (f:SM):Prop :=
  ∀ lc σ fl lc' σ',f lc σ=some (fl,lc',σ')→∀ (A:Around) (Q:Flow→Shared→Prop) (E:Value→Shared→Prop) (s:Shared) (ρ:Rho),AOk C d A→Rel C ρ σ s→LcR C ρ s.heap env.locals vars lc →
    (∀ w s' ρ',Rel C ρ' σ' s'→Step C [env.locals] ρ ρ' s.heap s'.heap→LcR C ρ' s'.heap env.locals vars lc'→FlR C ρ' s'.heap fl w→Q w s')→PySem.wpAt (model C.prog C.w) A (.func body env) (exec st env) Q E s
noncomputable def DenBAt (C:Cfg) (d:Nat) (env:Env) (vars:List Str) (body:List Stmt) (b:List Stmt) (f:SM):Prop :=
  ∀ lc σ fl lc' σ',f lc σ=some (fl,lc',σ')→∀ (A:Around) (Q:Flow→Shared→Prop) (E:Value→Shared→Prop) (s:Shared) (ρ:Rho),AOk C d A→Rel C ρ σ s→LcR C ρ s.heap env.locals vars lc →
    (∀ w s' ρ',Rel C ρ' σ' s'→Step C [env.locals] ρ ρ' s.heap s'.heap→LcR C ρ' s'.heap env.locals vars lc'→FlR C ρ' s'.heap fl w→Q w s')→PySem.wpAt (model C.prog C.w) A (.func body env) (execs b env) Q E s
section
variable {C:Cfg} {d:Nat} {env:Env} {vars:List Str} {body:List Stmt}
theorem DenS.at {st:Stmt} {f:SM} (D:DenS C d env vars st f):DenSAt C d env vars body st f:=fun lc σ fl lc' σ' hf A Q E s ρ hA R lr k=>wpAt_of_wpAny (D lc σ fl lc' σ' hf A Q E s ρ hA R lr k)
theorem DenB.at {b:List Stmt} {f:SM} (D:DenB C d env vars b f):DenBAt C d env vars body b f:=fun lc σ fl lc' σ' hf A Q E s ρ hA R lr k=>wpAt_of_wpAny (D lc σ fl lc' σ' hf A Q E s ρ hA R lr k)
set_option tactic.hygienic true
theorem den_consAt {st:Stmt} {r:List Stmt} {f:SM} {fs:List SM} (D1:DenSAt C d env vars body st f) (D2:DenBAt C d env vars body r (seqS fs)):DenBAt C d env vars body (st :: r) (seqS (f :: fs)):=by
  intro lc σ fl lc' σ' hf A Q E s ρ hA R lr kk
  refine ks_wpAt_execs_cons (oB hf fun t e1 hf=>D1 _ _ _ _ _ e1 A _ E s ρ hA R lr fun w s₁ ρ₁ R₁ S₁ l₁ q₁=>?_)
  rcases t with ⟨fl₁,lc₁,σ₁⟩
  have z:some (fl₁,lc₁,σ₁)=some (fl,lc',σ')→Q w s₁:=fun e=>kfS kk e w s₁ ρ₁ R₁ S₁ l₁ q₁
  cases q₁ with
  | next=>exact D2 _ _ _ _ _ hf A _ E s₁ ρ₁ hA R₁ l₁ fun w s₂ ρ₂ R₂ S₂ l₂ q₂=>kk w s₂ ρ₂ R₂ (S₁.trans S₂) l₂ q₂
  | _=>exact z hf
end
structure SupOk (C:Cfg) (env:Env) (vars:List Str):Prop where
  ks:env.kindOf "super" = some .globalImplicit
  kc:env.kindOf "__class__" = some .free
  fn:∃ f of fd ar,env.func=some f∧C.K.lookup f=some of∧of.data=.func fd∧(fd.params.posonlyargs++fd.params.args).head?=some ar∧vars[0]?=some ar.arg
  code:∃ cc oc vs file tf,env.code=.ref cc∧C.K.lookup cc=some oc∧oc.data=.fields vs∧vs[2]?=some (.str file tf)∧((C.prog.main.file:Str) == file)=true
  top:(C.prog.main.scope.names.lookup ("super" : Str)).isSome=false
  sup:GlobVal C "super" (.type "super")
  cell:∃ c oc,env.cells.lookup ("__class__" : Str)=some c∧C.K.lookup c=some oc∧oc.data=.cell (some (.ref C.ACC))
structure SupCls (C:Cfg):Prop where
  cls:∃ cd,clsIn C.K C.ACC=some cd∧cd.mro=[.ref C.ACC,.type "list",.type "object"]∧cd.qualname = "_Accumulator"
  self:mroIn C.K C.ACC (.ref C.ACC)=some true
  op:nsIn C.K cStatics "thirdparty.any" = some none
  ty:typeIn C.K (.ref C.ACC)=some (.type "type")
  noMod:mroIn C.K C.ACC (.type "module")=some false
section
variable {C:Cfg} {env:Env} {vars:List Str} {ρ:Rho} {σ:St} {s:Shared} {A:Around} {E:Value→Shared→Prop} {body:List Stmt} {lc:Lc}
set_option tactic.hygienic true
theorem cls_obj {a:Addr} {cd:ClassData} (h:clsIn C.K a=some cd):∃ o,C.K.lookup a=some o∧o.data=.cls cd:=by
  unfold clsIn at h
  split at h
  · rename_i c e; exact ⟨_,e,congrArg Data.cls (Option.some.inj h)⟩
  · exact ns h
set_option tactic.hygienic false
theorem accNotCls (H:CfgOk C) (HS:SupCls C) (R:Rel C ρ σ s) {a d:Addr} {vs:List Value} {n:Nat} (ho:s.heap.get? a=some ⟨.ref C.ACC,some d,.seq vs.toArray n,#[]⟩):a≠C.ACC:=fun z =>
  x1_3 HS.cls fun cd hc uu uu=>x1_2 (cls_obj hc) fun o e ed=>by
    have:=(R.kin H _ _ e).symm.trans (z▸ho)
    rw [Option.some.inj this] at ed
    exact Data.noConfusion ed
theorem super_base (H:CfgOk C) (He:EnvOk env vars) (HS:SupCls C) (SO:SupOk C env vars) {attr:Str} {whole:Sem Value} {p0 p1:Pos} {l:Nat} {ini:Int} {ps:List (Str × Str)} (hat:(attr == ("__class__" : Str))=false) (R:Rel C ρ σ s) (lr:LcR C ρ s.heap env.locals vars lc) (hself:lc[0]?=some (some (.loc l))) (hl:σ[l]?=some (.acc ini ps))
    {Q:Value→Shared→Prop} (k:∀ a d h',ρ[l]?=some (a,d)→(∀ b o,s.heap.get? b=some o→h'.get? b=some o)→h'.get? s.heap.objs.size=some { cls:=.type "super",dict:=none,data:=.fields #[.ref C.ACC,.ref a,.ref C.ACC],slots:=#[] }→Q (.ref s.heap.objs.size) { s with heap:=h' }) :
    PySem.wpAt (model C.prog C.w) A (.func body env) (attributeBase (.Call (.Name "super" p0) [] [] p1) attr env whole) Q E s:=by
  have X:=R.kin H
  (refine x4_5 (SO.fn) fun f of fd ar e1 e2 e3 e4 e5=>?_)
  (refine x5_5 (SO.code) fun cc oc vs file tf c1 c2 c3 c4 c5=>?_)
  (refine x2_3 (SO.cell) fun cl ocl d1 d2 d3=>?_)
  (refine x1_3 (HS.cls) fun cd hcd hmro hqn=>?_)
  refine ks_wpAt_super_base SO.ks SO.kc hat e1 (X _ _ e2) e3 e4 c1 (X _ _ c2) c3 c4 c5 SO.top ?_
  refine ks_loadName_global He.kind SO.ks ?_
  (refine x1_2 (SO.sup) fun mg hg hv=>?_)
  have hg':s.heap.Ns env.globals mg:=by rw [He.glob]; exact hg.at fun o e=>R.old _ _ e H.glob
  have fin:(fun (g:Value) (s₁:Shared)=>g=.type "super" ∧ wpAny (model C.prog C.w) A (loadName env "__class__") (fun cls s₂=>wpAny (model C.prog C.w) A (loadName env ar.arg) (fun self s₃ =>
      wpAny (model C.prog C.w) A (isType cls) (fun b s₄=>b=true∧wpAny (model C.prog C.w) A (call (.type "super") [cls,self]) Q E s₄) E s₃) E s₂) E s₁) (.type "super") s:=by
    refine ⟨rfl,?_⟩
    refine wpAny_loadName_free He.kind SO.kc d1 ⟨_,X _ _ d2,d3⟩ ?_
    refine load_name He e5 hself lr fun v qv=>?_
    refine x1_2 (cls_obj hcd) fun oD hD1 hD2=>?_
    have hD1:=X _ _ hD1
    refine R.acc_e hl qv fun a d es n n' vs e0 ho hd he hs=>?_
    refine ks_wpAny_isType_cls hD1 hD2 ⟨rfl,ks_wpAny_call_super hD1 hD2 ho rfl (fun c e=>Data.noConfusion e) (looks_mroIn X HS.self) fun h' g1 g2=>k _ _ h' e0 g2 g1⟩
  rcases hv with hv | ⟨hv,mb,hb,hv'⟩
  · exact loadGlobal_global hg' hv fin
  · exact loadGlobal_builtin hg' hv (by rw [He.blt]; exact hb.at fun o e=>R.old _ _ e H.blt) hv' fin
theorem super_call (H:CfgOk C) (HC:ClsOk C) (He:EnvOk env vars) (HS:SupCls C) (SO:SupOk C env vars) {attr:Str} {p0 p1 apos p:Pos} {l:Nat} {ini:Int} {ps:List (Str × Str)} {id dt get bt:String} {B B':Builtin} (SM:SupM id dt get bt B) (hat:(attr == ("__class__" : Str))=false)
    (hf:alongIn C.K attr [.type "list",.type "object"]=some (some (.builtin id))) (hp:(apos.endLine == p.line)=true) (hpl:plainId id=true) (hen:entryFor table id=some B')
    (R:Rel C ρ σ s) (lr:LcR C ρ s.heap env.locals vars lc) (hself:lc[0]?=some (some (.loc l))) (hl:σ[l]?=some (.acc ini ps))
    (hck:∀ {h:Heap} {g:Array GenState} {d:Drawn} {t:Nat} {os:OsState} {a dd:Addr} {vs:List Value} {n n':Nat} {es:List DictEntry} {Q':Unit→Shared→Prop} {E':Value→Shared→Prop},C.K.In h→h.get? a=some ⟨.ref C.ACC,some dd,.seq vs.toArray n,#[]⟩→h.get? dd=some (dictOf es n')→Q' () ⟨h,g,d,t,os⟩ →
      wpAny (model C.prog C.w) A.in1 (checkBoundCall id ⟨[.ref a],[]⟩) Q' E' ⟨h,g,d,t,os⟩)
    {Q:Value→Shared→Prop} (k:∀ a d s',ρ[l]?=some (a,d)→Rel C ρ σ s'→Step C [] ρ ρ s.heap s'.heap→wpAny (model C.prog C.w) A.in1 (B' ⟨[.ref a],[]⟩) (fun fin s''=>∃ v,fin=.done (.ret v)∧Q v s'') E s') :
    PySem.wpAt (model C.prog C.w) A (.func body env) (eval (.Call (.Attribute (.Call (.Name "super" p0) [] [] p1) attr apos) [] [] p) env) Q E s:=by
  refine ks_wpAt_MethodCall (pl:=do return (← importBound (.Call (.Name "super" p0) [] [] p1) env).getD true) ?_ (by
    rw [arm_eval_Call]
    show (do let ov ← _; standAt apos.atName; methodCall _ attr apos p env ov 0 [] [])=_
    congr 1
    funext ov
    congr 1
    funext _
    unfold methodCall
    have hpos:methodCallPos (methodCallForm 0 [] []) (.Call (.Name "super" p0) [] [] p1) env apos p=pure p:=by
      unfold methodCallPos
      rw [hp]; rfl
    rw [hpos]
    rfl)
  refine super_base H He HS SO hat R lr hself hl fun a d h' e0 kp hso=>?_
  have z':s.heap.objs.size≤h'.objs.size:=Nat.le_of_lt (Heap.lt_size hso)
  have R':Rel C ρ σ { s with heap:=h' }:=R.same kp z' R.gens rfl rfl
  have S':Step C [] ρ ρ s.heap h':=.same kp z'
  refine R'.acc_at e0 hl fun es n n' vs ho hd he hs=>?_
  have X:=R'.kin H
  have I:=accInst ho hd
  (refine x1_3 (HS.cls) fun cd hcd hmro hqn=>?_)
  have LM:Looks (model C.prog C.w) h' (mroOf (.ref C.ACC)) cd.mro:=(looks_clsIn X hcd).andThen .now
  have hnc:=accNotCls H HS R' ho
  have hdrop:([Value.ref C.ACC,.type "list",.type "object"].dropWhile (· != .ref C.ACC)).drop 1=[.type "list",.type "object"]:=by
    rw [List.dropWhile_cons]
    simp
  rw [hmro] at LM
  refine getMethod_super SM hso (looks_opaque X HS.op) LM hdrop X ho rfl (looks_mroIn X HC.acMro) hf hnc hat ?_
  have hb:(h'.push { cls:=.type bt,data:=.fields #[.builtin id,.ref a] }).get? h'.objs.size=some { cls:=.type bt,data:=.fields #[.builtin id,.ref a] }:=Heap.get?_push_size _ rfl
  refine callWith_of (P:=fun h=>h.get? h'.objs.size=some { cls:=.type bt,data:=.fields #[.builtin id,.ref a] }) rfl (fun h hh=>⟨_,.inr (.inl rfl),keep_bound SM.hbt hh⟩) (evalArgs_nil3 ⟨hb,?_⟩)
  have R'':=R'.push { cls:=.type bt,data:=.fields #[.builtin id,.ref a] } (n:=s.toks + 1)
  have S'':Step C [] ρ ρ h' (h'.push { cls:=.type bt,data:=.fields #[.builtin id,.ref a] }):=.pushObj _
  refine call_bound SM.hbt hb (fun hq'=>hck (R''.kin H) (Heap.get?_push_of_some _ ho) (Heap.get?_push_of_some _ hd) hq') hpl hen ?_
  exact k a d _ e0 R'' (S'.trans S'')
noncomputable def partCountS:SM:=fun lc σ=>(selfL lc).bind fun l=>(accAt σ l).map fun a=>(.ret (.int a.2.length),lc,σ)
theorem den_partCount {d:Nat} (H:CfgOk C) (HC:ClsOk C) (He:EnvOk env vars) (HS:SupCls C) (SO:SupOk C env vars) {p0 p1 apos p pr:Pos} (hf:alongIn C.K "__len__" [.type "list",.type "object"]=some (some (.builtin "list.__len__"))) (hp:(apos.endLine == p.line)=true) :
    DenSAt C d env vars body (.Return (some (.Call (.Attribute (.Call (.Name "super" p0) [] [] p1) "__len__" apos) [] [] p)) pr) partCountS:=by
  intro lc σ fl lc' σ' hf' A Q E s ρ hA R lr kk
  refine oB hf' fun l hself hf'=>oM hf' fun ac hl e2=>?_
  have hl:=accAt_inv hl
  refine ks_wpAt_Return_some (super_call H HC He HS SO sup_len (by decide) hf hp (by decide +kernel) F.entry_list_len R lr (selfL_inv hself) hl (fun uu uu uu q=>by rw [sig_len]; exact wpAny_pure q) fun a dd s' e0 R' S'=>?_)
  refine R'.acc_at e0 hl fun es n n' vs ho hd he hs=>?_
  have e:(vs.toArray.size:Int)=ac.2.length:=by rw [List.size_toArray,hs.length,List.length_map]
  show wpAny _ _ (do retInt (← seqSize a)) _ _ s'
  unfold seqSize
  refine wpAny_bind (wpAny_bind (wpAny_load ho (wpAny_pure (wpAny_bind (wpAny_mkInt (wpAny_pure ⟨_,rfl,?_⟩))))))
  rw [e]
  exact kfs kk e2 _ _ _ R'.toks S'.of_nil (lr.go S') (.ret (.int _ _))
end
section
variable {C:Cfg} {env:Env} {vars:List Str} {ρ:Rho} {σ:St} {s:Shared} {A:Around} {E:Value→Shared→Prop} {body:List Stmt} {lc:Lc}
theorem erased_le {items:Array Value} {k:Nat}:(items.eraseIdxIfInBounds k).size≤items.size:=by
  unfold Array.eraseIdxIfInBounds
  split
  · rw [Array.size_eraseIdx]; (first | lia | omega)
  · exact Nat.le_refl _
theorem sidx {k n:Nat} (h:k < n):seqIndex? (k:Int) n=some k:=by
  unfold seqIndex?
  have:¬ (k:Int) < 0:=Int.not_lt.mpr (Int.natCast_nonneg k)
  simp [this,h]
theorem sidx_last {n:Nat} (h:0 < n):seqIndex? (-1) n=some (n - 1):=by
  obtain ⟨m,rfl⟩:∃ m,n=m + 1:=⟨n - 1,(Nat.succ_pred_eq_of_pos h).symm⟩
  show (if (decide (0≤-1 + ((m + 1:Nat):Int)) && decide (-1 + ((m + 1:Nat):Int) < ((m + 1:Nat):Int)))=true then some (-1 + ((m + 1:Nat):Int)).toNat else none)=some m
  have e:-1 + ((m + 1:Nat):Int)=(m:Int):=by rw [Int.natCast_succ,Int.add_comm,Int.add_assoc]; exact Int.add_zero _
  rw [e,decide_eq_true (Int.natCast_nonneg m),decide_eq_true (Int.ofNat_lt.mpr (Nat.lt_succ_self m))]
  rfl
theorem pop_any {a:Addr} {c:Value} {d:Option Addr} {items:Array Value} {n:Nat} {sl:Array (Option Value)} {y:Value} {Q:Fin→Shared→Prop} (ho:s.heap.get? a=some ⟨c,d,.seq items n,sl⟩) (hz:items.size≤sizeLine) (hy:items[items.size - 1]?=some y)
    (k:Q (.done (.ret y)) { s with heap:=s.heap.update a (Obj.mapSeq fun xs=>xs.eraseIdxIfInBounds (items.size - 1)) }):wpAny (model C.prog C.w) A (Builtin.«list.pop» ⟨[.ref a],[]⟩) Q E s:=by
  obtain ⟨hp,g,dd,tk,os⟩:=s
  have hpos:0 < items.size:=by
    rcases Nat.eq_zero_or_pos items.size with h0 | h0
    · simp [h0] at hy
    · exact h0
  have hne:¬ items.isEmpty=true:=by
    intro he; have:items.size=0:=by simpa using he
    (first | lia | omega)
  have hk:seqIndex? (-1) items.size=some (items.size - 1):=by
    exact sidx_last hpos
  wp_walk using wpAny_loadPart' ho
  simp only [hk,hy,Option.bind_some,Option.map_some]
  have hz':(items.eraseIdxIfInBounds (items.size - 1)).size≤sizeLine + 1:=Nat.le_trans (erased_le) (Nat.le_succ_of_le hz)
  wp_walk using (wpAny_updateSeq ho rfl (hz:=hz) (_hz':=hz')),wpAny_loadPart' ho
  exact k
theorem erase_last {vs:List Value} {y:Value} (hy:vs[vs.length - 1]?=some y):(vs.toArray.eraseIdxIfInBounds (vs.length - 1))=(vs.take (vs.length - 1)).toArray:=by
  have hl:vs.length - 1 < vs.length:=(List.getElem?_eq_some_iff.mp hy).1
  unfold Array.eraseIdxIfInBounds
  rw [dif_pos (by simpa using hl)]
  rw [List.eraseIdx_toArray]
  congr 1
  rw [List.eraseIdx_eq_take_drop_succ]
  rw [show vs.length - 1 + 1=vs.length by (first | lia | omega)]
  simp
theorem parts_get {h:Heap} {ps:List (Str × Str)} {vs:List Value} (hs:VRs C ρ h (ps.map partAV) vs) {i:Nat} {p:Str × Str} (e:ps[i]?=some p):∃ v,vs[i]?=some v∧VR C ρ h (partAV p) v:=hs.get (by rw [List.getElem?_map,e]; rfl)
noncomputable def popS:SM:=fun lc σ=>(selfL lc).bind fun l=>(accAt σ l).bind fun a=>a.2.getLast?.bind fun p=>gd (decide (a.2.length≤sizeLine)) (.ret (partAV p),lc,σ.set l (.acc a.1 a.2.dropLast))
theorem den_pop {d:Nat} (H:CfgOk C) (HC:ClsOk C) (He:EnvOk env vars) (HS:SupCls C) (SO:SupOk C env vars) {p0 p1 apos p pr:Pos} (hf:alongIn C.K "pop" [.type "list",.type "object"]=some (some (.builtin "list.pop"))) (hp:(apos.endLine == p.line)=true) :
    DenSAt C d env vars body (.Return (some (.Call (.Attribute (.Call (.Name "super" p0) [] [] p1) "pop" apos) [] [] p)) pr) popS:=by
  intro lc σ fl lc' σ' hf' A Q E s ρ hA R lr kk
  refine oB hf' fun l hself hf'=>oB hf' fun ac hl hf'=>oB hf' fun pt hpt hf'=>oG hf' fun hz e2=>?_
  have hl:=accAt_inv hl
  (refine x1_3 (HS.cls) fun cd hcd hmro hqn=>?_)
  refine ks_wpAt_Return_some (super_call H HC He HS SO sup_pop (by decide) hf hp (by decide +kernel) F.entry_list_pop R lr (selfL_inv hself) hl (fun X ho hd q=>ck_pop X (accInst ho hd) hcd hqn HS.ty HS.noMod q) fun a dd s' e0 R' S'=>?_)
  refine R'.acc_at e0 hl fun es n n' vs ho hd he hs=>?_
  have hlen:vs.length=ac.2.length:=by rw [hs.length,List.length_map]
  rw [List.getLast?_eq_getElem?] at hpt
  (refine x1_2 (parts_get hs hpt) fun y hy qy=>?_)
  rw [← hlen] at hy
  refine pop_any ho (by rw [List.size_toArray,hlen]; exact of_decide_eq_true hz) (by rw [List.size_toArray,List.getElem?_toArray]; exact hy) ⟨_,rfl,?_⟩
  have hsb:=Heap.SameBut.update s'.heap a (Obj.mapSeq fun xs=>xs.eraseIdxIfInBounds (vs.toArray.size - 1))
  have S:Step C [] ρ ρ s'.heap (s'.heap.update a (Obj.mapSeq fun xs=>xs.eraseIdxIfInBounds (vs.toArray.size - 1))):=stepMut (.inr ⟨_,List.mem_of_getElem? e0,.inl rfl⟩) hsb
  have gt:=mapSeq_at ho (fun xs=>xs.eraseIdxIfInBounds (vs.toArray.size - 1))
  have ev:vs.toArray.eraseIdxIfInBounds (vs.toArray.size - 1)=(vs.take (ac.2.length - 1)).toArray:=by rw [List.size_toArray,erase_last hy,hlen]
  rw [ev] at gt
  have hs':=(hs.go S).take (vs.length - 1)
  rw [hlen,← List.map_take,← List.dropLast_eq_take] at hs'
  exact x0_2 (R'.upd (n:=s'.toks) e0 (.inl rfl) hsb (.acc gt ((hsb.2 _ (accNe ho hd)).trans hd) (he.go S) hs') rfl) fun R'' S''=>kfs kk e2 _ _ _ R'' (S'.trans S'').of_nil (lr.go (S'.trans S'')) (.ret (qy.go S''))
end
noncomputable def OldAt (C:Cfg) (s:Shared):Prop:=∀ b o,C.s₁.heap.get? b=some o→¬ C.isTab b→s.heap.get? b=some o
structure FnD (C:Cfg) (f:Addr) (vars:List Str) (m:Nat) (dxs:List AV) (dv:List Value) (body:List Stmt) (fd:FuncData):Prop where
  obj:∃ o,C.s₁.heap.get? f=some o∧o.data=.func fd
  bd:fd.body=.stmts body
  glob:fd.globals=mainGlobals
  blt:fd.builtins=builtinsNs
  bind:∀ s:Shared,OldAt C s→∀ vs:List Value,vs.length=m→BindsTo s fd ⟨vs,[]⟩ ((vars.take (m + dxs.length)).zip (vs++dv))
  dq:∀ ρ h,VRs C ρ h dxs dv
  notTab:¬ C.isTab f
  crec:C.s₁.heap.CodeRec fd.code fd.qualname
  codeNo:∀ c,fd.code=.ref c→¬ C.isTab c
  coro:fd.scope.isCoroutine=false
  gen:fd.scope.isGenerator=false
  kind:fd.scope.kind=.function
  cells:∀ x∈fd.scope.names,x.2≠.cell
  loc:∀ x∈vars,fd.scope.names.lookup x=some .local
  nodup:vars.Nodup
  n_le:m + dxs.length≤vars.length
noncomputable def runB (vars:List Str) (B:SM) (xs:List AV) (σ:St):Option (AV × St):=(B (lc0 vars xs) σ).bind endF
noncomputable def runD (vars:List Str) (m:Nat) (dxs:List AV) (B:SM) (xs:List AV) (σ:St):Option (AV × St):=if xs.length=m then runB vars B (xs++dxs) σ else none
noncomputable def orF (F G:List AV→St→Option (AV × St)) (xs:List AV) (σ:St):Option (AV × St):=(F xs σ).or (G xs σ)
theorem DenF.or {C:Cfg} {d:Nat} {f:Addr} {F G:List AV→St→Option (AV × St)} (D1:DenF C d f F) (D2:DenF C d f G):DenF C d f (orF F G):=by
  intro xs σ x σ' hf A P s ρ vs hA R q k
  exact oO hf (fun e=>D1 xs σ x σ' e A P s ρ vs hA R q k) fun e=>D2 xs σ x σ' e A P s ρ vs hA R q k
theorem enterD {C:Cfg} {s:Shared} {A:Around} {f:Addr} {vars:List Str} {m:Nat} {dxs:List AV} {dv:List Value} {body:List Stmt} {fd:FuncData} {P:Result→Shared→Prop} (H:FnD C f vars m dxs dv body fd) (hlim:C.s₁.heap.NoLimit) (hst:¬ C.isTab cStatics) (old:OldAt C s)
    (hroom:A.depth < recursionLimit) {vs:List Value} (hm:vs.length=m)
    (k:∀ h₁ tk (E':Value→Shared→Prop),h₁.Ns s.heap.objs.size (fun x=>((vars.take (m + dxs.length)).zip (vs++dv)).reverse.lookup x)→(∀ b o,s.heap.get? b=some o→h₁.get? b=some o)→h₁.objs.size=s.heap.objs.size + 1 →
      PySem.wpAt (model C.prog C.w) (A.deeper (envF fd f s.heap.objs.size)) (.func body (envF fd f s.heap.objs.size)) (execs body (envF fd f s.heap.objs.size))
        (fun w s'=>P (.ok (.ret (match w with | .ret v=>v | _=>.none))) s') E' { s with heap:=h₁,toks:=tk }) :
    codeAny (model C.prog C.w) A (.call (.ref f) ⟨vs,[]⟩) P s:=by
  refine x1_2 H.obj fun o ho hd=>?_
  have hcode:s.heap.CodeRec fd.code fd.qualname:=x4_4 H.crec fun c o' vs' t e1 e2 e3 e4=>⟨c,o',vs',t,e1,old c o' e2 (H.codeNo c e1),e3,e4⟩
  refine codeAny_call_function hroom (old f o ho H.notTab) hd H.coro H.gen H.bd hcode ?_
  refine H.bind s old vs hm _ _ _ _ ?_
  refine wpAny_newFunctionEnv H.cells (fun y hy=>H.loc y.1 (List.mem_of_mem_take (List.of_mem_zip hy).1)) (fun h₁ hns hsb=>?_) H.kind
  have k₁:∀ b o,s.heap.get? b=some o→h₁.get? b=some o:=fun b o e=>(hsb.2 b (Nat.ne_of_lt (Heap.lt_size e))).trans (Heap.get?_push_of_some _ e)
  refine ⟨x1_2 hlim fun mc a b=>⟨mc,a.at fun o e=>k₁ _ _ (old _ _ e hst),b⟩,?_⟩
  rw [H.glob,H.blt]
  exact ks_codeAny_funcAt (k h₁ _ _ hns k₁ (hsb.1.trans (Heap.size_push ..)))
theorem args_at {C:Cfg} {ρ:Rho} {h h':Heap} {vars:List Str} {xs:List AV} {vs:List Value} (hnd:vars.Nodup) (hle:xs.length≤vars.length) (q:VRs C ρ h xs vs) (kv:∀ {x:AV} {v:Value},VR C ρ h x v→VR C ρ h' x v) (i:Nat) (y:AV) (e:(lc0 vars xs)[i]?=some (some y)) :
    ∃ n v,vars[i]?=some n∧((vars.take xs.length).zip vs).reverse.lookup n=some v∧VR C ρ h' y v:=by
  unfold lc0 at e
  by_cases hi:i < xs.length
  · rw [List.getElem?_append_left (by rw [List.length_map]; exact hi),List.getElem?_map] at e
    refine oM e fun y' e1 e2=>x1_2 (q.get e1) fun v ev qv=>?_
    have hv:i < vars.length:=Nat.lt_of_lt_of_le hi hle
    have hx:(vars.take xs.length)[i]?=some vars[i]:=by rw [List.getElem?_take_of_lt hi,List.getElem?_eq_getElem hv]
    have hnd:=hnd.sublist (List.take_sublist xs.length vars)
    refine ⟨vars[i],v,List.getElem?_eq_getElem hv,lookup_rev ?_ (lookup_zip hnd hx ev),Option.some.inj e2▸kv qv⟩
    rw [List.map_fst_zip (by rw [List.length_take,q.length]; exact Nat.min_le_left ..)]
    exact hnd
  · rw [List.getElem?_append_right (by rw [List.length_map]; exact Nat.not_lt.mp hi),List.getElem?_replicate] at e
    exact sf e fun uu e=>nomatch e
set_option tactic.hygienic true
theorem endF_rel {C:Cfg} {ρ:Rho} {h:Heap} {fl:Fl} {w:Flow} {lc:Lc} {σ₁ σ':St} {x:AV} (q:FlR C ρ h fl w) (e:endF (fl,lc,σ₁)=some (x,σ')):VR C ρ h x (match (generalizing:=false) w with | .ret v=>v | _=>.none)∧σ₁=σ':=by
  cases q with
  | ret a=>cases e; exact ⟨a,rfl⟩
  | next=>cases e; exact ⟨.none,rfl⟩
  | _=>exact nomatch e
set_option tactic.hygienic false
theorem denF_ofD {C:Cfg} {d:Nat} {f:Addr} {vars:List Str} {m:Nat} {dxs:List AV} {dv:List Value} {body:List Stmt} {fd:FuncData} {B:SM} (H:FnD C f vars m dxs dv body fd) (hlim:C.s₁.heap.NoLimit) (hst:¬ C.isTab cStatics)
    (D:∀ L,DenBAt C d (envF fd f L) vars body body B):DenF C (d + 1) f (runD vars m dxs B):=by
  intro xs σ x σ' hf A P s ρ vs hA R q k
  refine sf hf fun hn hf=>oB hf fun t e1 hf=>?_
  refine enterD H hlim hst R.old (Nat.lt_of_le_of_lt (Nat.le_add_right ..) hA.2.1) (q.length.trans hn) fun h₁ tk E' hns k₁ z₁=>?_
  have hle:s.heap.objs.size≤h₁.objs.size:=z₁▸Nat.le_succ _
  have hl:(xs++dxs).length=m + dxs.length:=by rw [List.length_append,hn]
  have hz:(xs++dxs).length≤vars.length:=hl▸H.n_le
  rw [← hl] at hns
  refine D s.heap.objs.size _ _ _ _ _ e1 _ _ _ _ ρ hA.deeper (R.same k₁ hle R.gens rfl rfl)
    ⟨⟨_,hns,args_at H.nodup hz (q.append (H.dq ρ s.heap)) (·.go (.same k₁ hle))⟩,R.fresh,R.size,by unfold lc0; rw [List.length_append,List.length_map,List.length_replicate]; exact Nat.add_sub_cancel' hz⟩ fun w s' ρ' R' S' l' q'=>?_
  refine x0_2 (endF_rel q' hf) fun qx eσ=>k _ s' ρ' (eσ▸R') ?_ qx
  exact ⟨Nat.le_trans hle S'.size,fun b o e nm uu=>S'.keep b o (k₁ b o e) nm (by rw [List.mem_singleton]; exact Nat.ne_of_lt (Heap.lt_size e)),x1_2 S'.grow fun δ e hδ=>⟨δ,e,fun p hp=>⟨Nat.le_trans hle (hδ p hp).1,Nat.le_trans hle (hδ p hp).2⟩⟩⟩
theorem runD_runF {vars:List Str} {n:Nat} {B:SM}:runD vars n [] B=runF vars n B:=by
  funext xs σ
  unfold runD runF runB
  rw [List.append_nil]
structure AccOk (C:Cfg):Prop where
  iter:findIn C.K (.ref C.ACC) "__iter__" = some (some (.builtin "list.__iter__"))
  gi:findIn C.K (.ref C.ACC) "__getitem__" = some (some (.builtin "list.__getitem__"))
  si:findIn C.K (.ref C.ACC) "__setitem__" = some (some (.builtin "list.__setitem__"))
section
variable {C:Cfg} {ρ:Rho} {σ:St} {s:Shared} {A:Around} {E:Value→Shared→Prop} {x Cl:Addr} {ox:Obj} {od:Option Obj}
theorem below_iter {Q:Value→Shared→Prop} (X:C.K.In s.heap) (I:W.InstAt s.heap x ox Cl od) (hm:mroIn C.K Cl (.type "list")=some true) (hs:findIn C.K (.ref Cl) "__iter__" = some (some (.builtin "list.__iter__")))
    (hQ:Q (.ref s.heap.objs.size) { s with heap:=s.heap.push { cls:=.type "list_iterator",data:=.fields #[.ref x,.int 0 0] } }):wpAny (model C.prog C.w) A (pyIter (.ref x)) Q E s:=by
  have sp:∀ {nm:Str} {r:Option Value},findIn C.K (.ref Cl) nm=some r→Looks (model C.prog C.w) s.heap (specialOf (.ref x) nm) r:=fun e=>I.type.andThen (looks_findIn X e)
  have hc:wpAny (model C.prog C.w) A (call (.builtin "list.__iter__") [.ref x]) (fun v s'=>v=.ref s.heap.objs.size∧s'={ s with heap:=s.heap.push { cls:=.type "list_iterator",data:=.fields #[.ref x,.int 0 0] } }) E s:=by
    refine call_below X I hm (.inr (by decide +kernel)) (n := "__iter__") (by decide +kernel) (by decide +kernel) entry_list_iter (args_list_iter _) ?_
    show wpAny _ _ (do ret (← newFields "list_iterator" [.ref x,rawInt 0])) _ _ s
    exact wpAny_bind (wpAny_newObj_type (wpAny_pure ⟨_,rfl,rfl,rfl⟩))
  have one:∀ refuse:Sem Value,wpAny (model C.prog C.w) A (callSpecialIfBoundUnlessNone? (.ref x) "__iter__" refuse) (fun r s'=>r=some (.ref s.heap.objs.size)∧s'={ s with heap:=s.heap.push { cls:=.type "list_iterator",data:=.fields #[.ref x,.int 0 0] } }) E s:=by
    intro refuse
    simp only [callSpecialIfBoundUnlessNone?,bindSpecialIfBound?]
    refine wpAny_holding (wpAny_bind (wpAny_bind ((sp hs).here ?_)))
    simp only [slot_list_iter.bind]
    refine wpAny_bind (wpAny_askSetting (wpAny_ite ?_))
    have fin:wpAny (model C.prog C.w) A (if (Value.builtin "list.__iter__" == Value.none)=true then (refuse >>= fun v=>pure (some v)) else (call (.builtin "list.__iter__") [.ref x] >>= fun v=>pure (some v)))
        (fun r s'=>r=some (.ref s.heap.objs.size)∧s'={ s with heap:=s.heap.push { cls:=.type "list_iterator",data:=.fields #[.ref x,.int 0 0] } }) E s:=by
      simp only [builtin_beq_none,Bool.false_eq_true,if_false]
      exact wpAny_bind (wpAny_mono hc (fun v s' h'=>wpAny_pure ⟨by rw [h'.1],h'.2⟩) fun uu uu h'=>h')
    split
    · exact wpAny_bind (wpAny_pure (wpAny_pure fin))
    · exact wpAny_tryCatch (wpAny_bind (wpAny_pure (wpAny_pure fin)))
  unfold pyIter
  refine wpAny_bind ((sp hs).here ?_)
  show wpAny _ A (callSpecialIfBoundUnlessNone? (.ref x) "__iter__" _ >>= _) Q E s
  refine wpAny_bind (wpAny_mono (one _) (fun r s' hr=>?_) fun uu uu z=>z)
  (refine x0_2 (hr) fun rr0 rr1=>?_; clear hr; subst rr0; subst rr1)
  exact wpAny_bind (wpAny_specialOf (T := "list_iterator") ⟨_,Heap.get?_push_size _ rfl,rfl⟩ slot_listiter_next.lookup (wpAny_pure hQ))
noncomputable def SeqObj (h:Heap) (a:Addr) (items:Array Value):Prop:=∃ o n,h.get? a=some o∧o.data=.seq items n
theorem SeqObj.at {h h':Heap} {a:Addr} {items:Array Value} (x:SeqObj h a items) (k:∀ o,h.get? a=some o→h'.get? a=some o):SeqObj h' a items:=let ⟨o,n,e,d⟩:=x; ⟨o,n,k o e,d⟩
theorem next_item {it l:Addr} {i:Nat} {items} {x:Value} {Q:Option Value→Shared→Prop} (hit:s.heap.IsListIter it l i) (hl:SeqObj s.heap l items) (hx:items[i]?=some x)
    (hQ:∀ h',h'.IsListIter it l (i + 1)→Heap.SameBut it s.heap h'→Q (some x) { s with heap:=h' }):wpAny (model C.prog C.w) A (pyNext (.ref it)) Q E s:=by
  (refine x1_3 (id hit) fun o ho hc hd=>?_)
  (refine x2_2 (hl) fun ol nl hol hdl=>?_; clear hl)
  unfold pyNext
  refine wpAny_bind (wpAny_attempt (wpAny_callSpecial?_slot (name:=Str.ofString "__next__") hit.typeIs slot_listiter_next
    (wpAny_call_entry slot_listiter_next hit.typeIs entry_listiter_next ?_ (args_listiter_next _))))
  show wpAny _ _ (field (.ref it) 0 >>= _) _ _ s
  refine wpAny_bind (wpAny_field ho hd (x:=.ref l) rfl ?_)
  show wpAny _ _ (if (Value.ref l == Value.none)=true then _ else _) _ _ s
  rw [if_neg (show ¬ ((Value.ref l == Value.none)=true) from Bool.false_ne_true)]
  show wpAny _ _ (field (.ref it) 1 >>= _) _ _ s
  refine wpAny_bind (wpAny_field ho hd (x:=.int i 0) rfl ?_)
  show wpAny _ _ (seqItems? (.ref l) >>= _) _ _ s
  refine wpAny_bind (wpAny_seqItems hol hdl ?_)
  simp only [Int.toNat_natCast,hx]
  refine wpAny_bind (wpAny_setField ho hd (by simp) (wpAny_pure ⟨x,rfl,wpAny_pure (hQ _ ?_ (Heap.SameBut.update ..))⟩))
  exact ⟨_,Heap.get?_update_self _ ho (Obj.isFreed_of_fields (Obj.data_mapFields hd _)),(Obj.cls_mapFields ..).trans hc,by
    rw [Obj.data_mapFields hd]; simp [rawInt]⟩
theorem stop_iter {h:Heap} {it:Addr} {o:Obj} {fs:Array Value} {g:Array GenState} {dr:Drawn} {t:Nat} {os:OsState} {Q:Option Value→Shared→Prop} (hh:A.handled=none) (ho:h.get? it=some o) (hd:o.data=.fields fs) (h0:0 < fs.size) (r:String)
    (hQ:∀ h',Heap.ExtBut it h h'→h.objs.size≤h'.objs.size→Q none ⟨h',g,dr,t,os⟩) :
    wpAny (model C.prog C.w) A.in1 (do rule r; setField (.ref it) 0 .none; raiseNew (← newExc (.type "StopIteration") [])) (fun fin s'=>∃ v,fin=Fin.done (.ret v)∧wpAny (model C.prog C.w) A (pure (some v):Sem (Option Value)) Q E s')
      (fun e s'=>wpAny (model C.prog C.w) A (do if ← isInstance e (.type "StopIteration") then pure none else throw e) Q E s') ⟨h,g,dr,t,os⟩:=by
  refine wpAny_bind (wpAny_rule (wpAny_bind (wpAny_setField ho hd h0 ?_)))
  show wpAny _ _ (newExc (.type "StopIteration") [] >>= _) _ _ _
  refine wpAny_bind ?_
  simp only [newExc,newTuple]
  refine wpAny_bind (wpAny_newObj_type ?_ (by size_fits))
  refine wpAny_bind (m:=firstArgMember _ _) (wpAny_of_eq (a:=Value.none) (by first | rfl | (simp only [firstArgMember]; rfl)) ?_)
  refine wpAny_newObj_type ?_ (by size_fits)
  simp only [raiseNew]
  refine wpAny_bind (wpAny_handled ?_)
  rw [show A.in1.handled=none from hh]
  refine wpAny_bind (wpAny_pure (wpAny_throw ?_))
  refine wpAny_bind (wpAny_isInstance (T := "StopIteration") (b:=true) ⟨_,Heap.get?_push_size _ rfl,rfl⟩ isSubtype_stop ?_)
  refine wpAny_pure (hQ _ (((Heap.SameBut.update ..).extBut.push _).push _) ?_)
  rw [Heap.size_push,Heap.size_push,Heap.size_after_update]
  (first | lia | omega)
theorem list_end {it l:Addr} {i:Nat} {items} {Q:Option Value→Shared→Prop} (hh:A.handled=none) (hit:s.heap.IsListIter it l i) (hl:SeqObj s.heap l items) (hx:items[i]?=none)
    (hQ:∀ h',Heap.ExtBut it s.heap h'→s.heap.objs.size≤h'.objs.size→Q none { s with heap:=h' }):wpAny (model C.prog C.w) A (pyNext (.ref it)) Q E s:=by
  refine x1_3 (id hit) fun o ho hc hd=>x2_2 hl fun ol nl hol hdl=>?_
  unfold pyNext
  refine wpAny_bind (wpAny_attempt (wpAny_callSpecial?_slot (name:=Str.ofString "__next__") hit.typeIs slot_listiter_next
    (wpAny_call_entry slot_listiter_next hit.typeIs entry_listiter_next ?_ (args_listiter_next _))))
  show wpAny _ _ (field (.ref it) 0 >>= _) _ _ s
  refine wpAny_bind (wpAny_field ho hd (x:=.ref l) rfl ?_)
  show wpAny _ _ (if (Value.ref l == Value.none)=true then _ else _) _ _ s
  rw [if_neg (show ¬ ((Value.ref l == Value.none)=true) from Bool.false_ne_true)]
  show wpAny _ _ (field (.ref it) 1 >>= _) _ _ s
  refine wpAny_bind (wpAny_field ho hd (x:=.int i 0) rfl ?_)
  show wpAny _ _ (seqItems? (.ref l) >>= _) _ _ s
  refine wpAny_bind (wpAny_seqItems hol hdl ?_)
  simp only [Int.toNat_natCast,hx]
  exact stop_iter hh ho hd (by simp) _ hQ
theorem next_end {it l:Addr} {i:Nat} {items} {Q:Option Value→Shared→Prop} (hh:A.handled=none) (hit:s.heap.IsListIter it l i) (hl:SeqObj s.heap l items) (hx:items[i]?=none)
    (hQ:∀ h',Heap.ExtBut it s.heap h'→Q none { s with heap:=h' }):wpAny (model C.prog C.w) A (pyNext (.ref it)) Q E s:=list_end hh hit hl hx fun h' e uu=>hQ h' e
theorem walkPairs (hh:A.handled=none) (I ax:Addr) (hne:ax≠I) (items:Array Value) (Ts:Nat→Addr) (vals:Nat→Array Value)
    (hit:∀ j,j < items.size→items[j]?=some (.ref (Ts j))) (hTI:∀ j,j < items.size→Ts j≠I) :
    WalksU C.prog C.w A I (I :: ax :: (List.range items.size).map Ts) [I] items.size (fun j v=>j < items.size∧v=vals j)
      (fun j h=>h.IsListIter I ax j∧SeqObj h ax items∧∀ k,k < items.size→h.IsTuple (Ts k) (vals k))
      (fun j T h=>(j < items.size∧T=Ts j)∧h.IsListIter I ax (j + 1)∧SeqObj h ax items∧∀ k,k < items.size→h.IsTuple (Ts k) (vals k)) where
  sub:=fun b hb=>by simp at hb; simp [hb]
  frame:=fun uu uu uu st hk=>⟨st.1.at fun o e=>hk I (by simp) o e,st.2.1.at fun o e=>hk ax (by simp) o e,
    fun k hk'=>(st.2.2 k hk').at fun o e=>hk (Ts k) (List.mem_cons_of_mem _ (List.mem_cons_of_mem _ (List.mem_map.mpr ⟨k,List.mem_range.mpr hk',rfl⟩))) o e⟩
  item:=fun i s Q E hi st hQ=>by
    refine next_item st.1 st.2.1 (x:=.ref (Ts i)) (hit i hi) fun h' hit' hs'=>?_
    have tup:∀ k,k < items.size→h'.IsTuple (Ts k) (vals k):=fun k hk'=>(st.2.2 k hk').extBut hs'.extBut (hTI k hk')
    exact hQ (Ts i) (vals i) h' s.toks ⟨hi,rfl⟩ (tup i hi) ⟨⟨hi,rfl⟩,hit',st.2.1.at fun o e=>hs'.extBut _ o hne e,tup⟩ fun b o hb e=>hs'.extBut b o (fun h=>hb (by simp [h])) e
  go:=fun uu uu uu uu uu s Q uu hm hQ=>wpAny_letOwnedTupleGo_listiter hm.2.1 (hQ s.heap hm.2 fun uu uu uu e=>e)
  apart:=fun j T uu hm hmem=>by
    rcases List.mem_cons.mp hmem with e | e
    · exact hTI j hm.1.1 (hm.1.2▸e)
    · cases e
  done:=fun s Q E st hQ=>next_end hh st.1 st.2.1 (by simp) fun h' he'=>hQ h' s.toks fun b o hb e=>he' b o (fun h=>hb (by simp [h])) e
  self:=fun uu uu uu uu st hQ=>wpAny_pyIter_listiter st.1 hQ
end
section
variable {C:Cfg} {A:Around} {R:Result→Shared→Prop} {I:Addr} {fp wr:List Addr} {G:Array GenState→Array GenState→Prop} {n:Nat} {P:Nat→Value→Prop} {St:Nat→Shared→Prop}
theorem sumLoop (W:WalksS C.prog C.w A.in1 I fp wr G n P St) (val acc:Nat→Int) (hacc:∀ i,acc (i + 1)=acc i + val i) (hval:∀ i v,P i v→∃ t,v=.int (val i) t) (S:Addr) (hSf:S∉fp) :
    ∀ (k i:Nat) (s:Shared) (tA:Tok) (c:Nat) (st:Int),(st=0∨st=2)→n - i=k→i≤n→St i s→s.heap.get? S=some { cls:=.type "list",dict:=none,data:=.seq #[.int (acc i) tA] c,slots:=#[] } →
    (∀ s' t',Moved (S :: wr) G s s'→R (.ok (.ret (.int (acc n) t'))) s')→codeAny (model C.prog C.w) A (.builtin "sum.loop" ⟨[.ref I,.ref S,rawInt st,rawInt 0],[]⟩) R s:=by
  have hSw:S∉wr:=fun h=>hSf (W.sub _ h)
  have hsub:∀ b∈wr,b∈S :: wr:=fun b hb=>List.mem_cons_of_mem _ hb
  intro k
  induction k with
  | zero =>
    intro i s tA c st hst2 hk hi hst hS hR
    have hin:i=n:=by (first | lia | omega)
    subst hin
    refine codeAny_builtin F.entry_sum_loop ?_
    rw [Around.under_plainId F.plain_sum_loop _]
    show wpAny _ A.in1 (seqItems? (.ref S) >>= _) _ _ s
    refine wpAny_bind (wpAny_seqItems hS rfl ?_)
    show wpAny _ A.in1 (tryCatch (pyNext (.ref I)) _ >>= _) _ _ s
    refine wpAny_bind (wpAny_tryCatch (W.done s _ _ hst fun s' hm=>?_))
    exact wpAny_pure (hR s' tA (hm.mono hsub))
  | succ k ih =>
    intro i s tA c st hst2 hk hi hst hS hR
    have hlt:i < n:=by (first | lia | omega)
    refine codeAny_builtin F.entry_sum_loop ?_
    rw [Around.under_plainId F.plain_sum_loop _]
    show wpAny _ A.in1 (seqItems? (.ref S) >>= _) _ _ s
    refine wpAny_bind (wpAny_seqItems hS rfl ?_)
    show wpAny _ A.in1 (tryCatch (pyNext (.ref I)) _ >>= _) _ _ s
    refine wpAny_bind (wpAny_tryCatch (W.item i s _ _ hlt hst fun v s' hP hst' hm=>?_))
    (refine x1_1 (hval i v hP) fun t rr1=>?_; subst rr1)
    have hS':=hm.heap S _ hSw hS
    have ac:=hacc i
    have plain:∀ (B:Sem Fin),B=(do
          match ← (holding [Value.int (val i) t] (binaryOp .Add (.int (acc i) tA) (.int (val i) t))).attempt with
          | .ok r=>do updateSeq S (fun uu=>#[r]); letGo [.int (acc i) tA,.int (val i) t]; updateSeq S (fun uu=>#[r]); pure (.again (.builtin "sum.loop" ⟨[.ref I,.ref S,rawInt 2,rawInt 0],[]⟩))
          | .error e=>do updateSeq S (fun uu=>#[]); letGo [.int (acc i) tA,.int (val i) t] [e]; throw e) →
        wpAny (model C.prog C.w) A.in1 B (fun fin s''=>match fin with | .done f=>R (.ok f) s'' | .again c'=>c'.quiet=true∧codeAny (model C.prog C.w) A c' R s'') (fun e s''=>R (.error e) s'') s':=by
      rintro B rfl
      refine wpAny_bind (wpAny_attempt (wpAny_holding (wpAny_add_int ?_)))
      show wpAny _ A.in1 (updateSeq S (fun uu=>#[.int (acc i + val i) s'.toks]) >>= _) _ _ _
      refine wpAny_bind (wpAny_updateSeq hS' rfl ?_)
      have hS₂:=Heap.get?_update_self (Obj.mapSeq fun uu=>#[Value.int (acc i + val i) s'.toks]) hS' rfl
      refine wpAny_bind (wpAny_letGo ?_)
      refine wpAny_bind (wpAny_updateSeq hS₂ rfl (wpAny_pure ⟨plainId_quiet F.plain_sum_loop _,ih (i + 1) _ s'.toks _ 2 (.inr rfl) (by (first | lia | omega)) hlt (W.frame _ s' _ _ hst' (by first | exact Nat.le_refl _ | exact Nat.le_succ _ | (first | lia | omega)) fun b hb o e=>?_) (by rw [ac]; exact Heap.get?_update_self _ hS₂ rfl) fun s'' t'' hm''=>?_⟩))
      · exact (Heap.get?_update_other _ _ (fun h:S=b=>hSf (by rw [h]; exact hb))).trans ((Heap.get?_update_other _ _ (fun h:S=b=>hSf (by rw [h]; exact hb))).trans e)
      · refine hR s'' t'' (Moved.trans W.gtrans ((hm.mono hsub).then_heap (by first | exact Nat.le_refl _ | exact Nat.le_succ _ | (first | lia | omega)) fun b o hb e=>?_) hm'')
        exact (Heap.get?_update_other _ _ (fun h:S=b=>hb (by rw [h]; exact List.mem_cons_self))).trans ((Heap.get?_update_other _ _ (fun h:S=b=>hb (by rw [h]; exact List.mem_cons_self))).trans e)
    rcases hst2 with rfl | rfl
    · show wpAny _ A.in1 (if (_:Bool)=true then (mkInt (acc i + val i) >>= _) else _) _ _ _
      split
      · refine wpAny_bind (wpAny_mkInt ?_)
        show wpAny _ A.in1 (updateSeq S (fun uu=>#[.int (acc i + val i) s'.toks]) >>= _) _ _ _
        refine wpAny_bind ?_
        refine wpAny_updateSeq hS' rfl (wpAny_pure ⟨plainId_quiet F.plain_sum_loop _,ih (i + 1) _ s'.toks _ 0 (.inl rfl) (by (first | lia | omega)) hlt (W.frame _ s' _ _ hst' (by first | exact Nat.le_refl _ | exact Nat.le_succ _ | (first | lia | omega)) fun b hb o e=>?_) (by rw [ac]; exact Heap.get?_update_self _ hS' rfl) fun s'' t'' hm''=>?_⟩)
        · exact (Heap.get?_update_other _ _ (fun h:S=b=>hSf (by rw [h]; exact hb))).trans e
        · refine hR s'' t'' (Moved.trans W.gtrans ((hm.mono hsub).then_heap (by first | exact Nat.le_refl _ | exact Nat.le_succ _ | (first | lia | omega)) fun b o hb e=>?_) hm'')
          exact (Heap.get?_update_other _ _ (fun h:S=b=>hb (by rw [h]; exact List.mem_cons_self))).trans e
      · exact wpAny_bind (wpAny_rule (plain _ rfl))
    · exact plain _ rfl
theorem args_sum2 (a b:Value):argsOk "sum" ⟨[a,b],[]⟩:=by unfold argsOk; kernel_rfl
theorem call_sum2 {E:Value→Shared→Prop} {s:Shared} {x:Value} {ini:Int} {tI:Tok} {Q:Value→Shared→Prop}
    (h:wpAny (model C.prog C.w) A.in1 (pyIter x) (fun it s₂=>∃ I fp wr G n P St,∃ val acc:Nat→Int,it=.ref I∧WalksS C.prog C.w A.in1 I fp wr G n P St∧St 0 s₂∧(∀ b∈fp,b < s₂.heap.objs.size) ∧
      (∀ i v,P i v→∃ t,v=.int (val i) t)∧(acc 0=ini)∧(∀ i,acc (i + 1)=acc i + val i) ∧
      ∀ s' t',Moved wr G s₂ s'→Q (.int (acc n) t') s') E s) :
    wpAny (model C.prog C.w) A (call (.builtin "sum") [x,.int ini tI]) Q E s:=by
  refine call_function_tree F.kind_sum F.plain_sum F.entry_sum (args_sum2 _ _) ?_
  unfold Builtin.«sum»
  simp only [List.length_cons,List.length_nil]
  rw [if_neg (by decide)]
  refine wpAny_bind (wpAny_of_eq (show Builtin.Builtins.bindParams "sum" ["start"] 0 ⟨[.int ini tI],[]⟩=pure [some (.int ini tI)] from rfl) ?_)
  refine wpAny_bind (wpAny_mono h (fun it s₂ h₂=>?_) fun uu uu e=>e)
  (refine x9_8 (h₂) fun I fp wr G n P St val acc rr9 W hst hfp hval h0 hacc hQ=>?_; clear h₂; subst rr9)
  have tail:∀ (st:Int) (tk:Tok) (k:Nat),(st=0∨st=2)→s₂.toks≤k→∀ m:Sem Fin,m=(do
      for (ty,what,hint) in [("str", "strings", "''"),("bytes", "bytes", "b''"),("bytearray", "bytearray", "b''")] do
        if ← isInstance (.int ini tk) (.type ty) then
          rule "sum.start-refused"; raiseError "TypeError" s!"sum() can't sum {what} [use {hint}.join(seq) instead]"
      pure (.again (.builtin "sum.loop" ⟨[.ref I,← newList [.int ini tk],rawInt st,rawInt 0],[]⟩))) →
      wpAny (model C.prog C.w) A.in1 m (fun fin s'=>match fin with
      | .done f=>(match (Except.ok f:Result) with | .ok (.ret v)=>Q v s' | .ok _=>False | .error e=>E e s')
      | .again c'=>c'.quiet=true∧codeAny (model C.prog C.w) A c' (fun r s'=>match r with | .ok (.ret v)=>Q v s' | .ok _=>False | .error e=>E e s') s') E { s₂ with toks:=k }:=by
    rintro st tk k hst2 hk m rfl
    simp only [List.forIn_cons,List.forIn_nil]
    refine wpAny_bind (wpAny_bind (wpAny_bind (wpAny_isInstance (T := "int") (b:=false) (typeIs_int _ _ _) PySem.sub_int_str ?_)))
    simp only [Bool.false_eq_true,if_false]
    refine wpAny_pure (wpAny_bind (wpAny_bind (wpAny_isInstance (T := "int") (b:=false) (typeIs_int _ _ _) PySem.sub_int_bytes ?_)))
    simp only [Bool.false_eq_true,if_false]
    refine wpAny_pure (wpAny_bind (wpAny_bind (wpAny_isInstance (T := "int") (b:=false) (typeIs_int _ _ _) PySem.sub_int_bytearray ?_)))
    simp only [Bool.false_eq_true,if_false]
    refine wpAny_pure (wpAny_pure ?_)
    refine wpAny_bind (wpAny_newObj_type ?_)
    have hSf:s₂.heap.objs.size∉fp:=fun hm=>Nat.lt_irrefl _ (hfp _ hm)
    refine wpAny_pure ⟨plainId_quiet F.plain_sum_loop _,sumLoop W val acc hacc hval s₂.heap.objs.size hSf n 0 _ tk 0 st hst2 rfl (Nat.zero_le _)
      (W.frame 0 s₂ _ _ hst hk fun b uu o e=>Heap.get?_push_of_some _ e) (by rw [h0]; exact Heap.get?_push_size _ rfl) fun s' t' hm=>?_⟩
    exact hQ s' t' (hm.drop_new hk)
  dsimp only
  split
  · refine wpAny_bind (wpAny_rule (wpAny_bind (wpAny_mkInt (wpAny_bind (wpAny_pure ?_)))))
    exact tail 0 _ _ (.inl rfl) (Nat.le_succ _) _ rfl
  · refine wpAny_bind (wpAny_pure ?_)
    exact tail 2 _ _ (.inr rfl) (Nat.le_refl _) _ rfl
end
structure Kept (C:Cfg) (s s':Shared):Prop where
  keep:∀ b o,s.heap.get? b=some o→¬ C.isTab b→s'.heap.get? b=some o
  tab:∀ t∈C.tabs,∃ more,s'.heap.IsCode t.1 t.2.1 (t.2.2++more)∧TabX s'.heap t.1 t.2.1 (t.2.2++more)
  size:s.heap.objs.size≤s'.heap.objs.size
  gens:AllBare s'.gens
  gold:∀ (i:Nat) (st:GenState),s.gens[i]?=some st→s'.gens[i]?=some st
  drawn:s'.drawn=s.drawn
  os:s'.os=s.os
noncomputable def CodesOut (C:Cfg) (h:Heap) (wr:List Addr):Prop:=∀ t∈C.tabs,∀ ps,TabX h t.1 t.2.1 ps→∀ pos cv c,codeAmong pos ps.toList=some cv→cv=.ref c→c∉wr
section
variable {C:Cfg} {ρ ρ':Rho} {σ σ':St} {s s' s'':Shared}
theorem Kept.gsize (k:Kept C s s'):s.gens.size≤s'.gens.size:=by
  rcases Nat.lt_or_ge s'.gens.size s.gens.size with h | h
  · have:=k.gold s'.gens.size _ (Array.getElem?_eq_getElem h)
    exact absurd (Array.getElem?_eq_some_iff.mp this).1 (Nat.lt_irrefl _)
  · exact h
theorem Kept.step (k:Kept C s s'):Step C [] ρ ρ s.heap s'.heap:=⟨k.size,fun b o e n uu=>k.keep b o e fun t=>n (.inl t),[],by simp,fun uu hp=>nomatch hp⟩
theorem Rel.notTab (R:Rel C ρ σ s) {a:Addr} {o:Obj} (ho:s.heap.get? a=some o) (hc:o.cls≠.none):¬ C.isTab a:=by
  intro t
  (refine x1_2 (List.mem_map.mp t) fun x hx e=>?_)
  (refine x1_2 (R.tab x hx) fun m uu ht=>?_)
  have ht:=ht.at_.2
  rw [e,ho] at ht
  (refine c1 ht fun hh0=>?_; clear ht; subst hh0)
  exact hc rfl
theorem Rel.objNotTab (R:Rel C ρ σ s) {l:Nat} {p:Addr × Addr} {o:AO} (e:ρ[l]?=some p) (e':σ[l]?=some o) {a:Addr} (ha:p.1=a∨p.2=a):¬ C.isTab a:=fun t =>
  x1_2 (List.mem_map.mp t) fun x hx ea=>x1_2 (R.tab x hx) fun m uu ht=>x1_2 ((R.st l p o e e').noFields ha) fun ob ho hn=>by
    have z:=Option.some.inj (ho.symm.trans (ea▸ht.at_.2))
    rw [z] at hn
    exact hn.elim (fun h=>h _ rfl) Value.noConfusion
theorem Rel.kept (R:Rel C ρ σ s) (k:Kept C s s'):Rel C ρ σ s' where
  old b o e n:=k.keep b o (R.old b o e n) n
  tab:=k.tab
  lo:=R.lo
  dis:=R.dis
  len:=R.len
  st l p o e e':=(R.st l p o e e').move (fun ob z=>k.keep _ _ z (R.objNotTab e e' (.inl rfl))) (fun ob z=>k.keep _ _ z (R.objNotTab e e' (.inr rfl))) (·.go k.step) (fun uu z=>z) fun b o e hc=>k.keep _ _ e (R.notTab e (by rw [hc.1]; exact fun z=>Value.noConfusion z))
  gens:=(R.gens.mono k.gens k.gold).heap fun l p x e e' hx o ho=>k.keep _ _ ho (R.objNotTab e e' (.inl rfl))
  drawn:=k.drawn.trans R.drawn
  os:=k.os.trans R.os
  size:=Nat.le_trans R.size k.size
theorem Kept.of (R:Rel C ρ σ s) (k:∀ b o,s.heap.get? b=some o→s'.heap.get? b=some o) (z:s.heap.objs.size≤s'.heap.objs.size) (hg:s'.gens=s.gens) (hd:s'.drawn=s.drawn) (ho:s'.os=s.os):Kept C s s' :=
  ⟨fun b o e uu=>k b o e,fun t ht=>let ⟨m,a,b⟩:=R.tab t ht; ⟨m,a.keeps k,b.keeps k⟩,z,by rw [hg]; exact R.gens.bare,fun i st e=>by rw [hg]; exact e,hd,ho⟩
theorem Kept.moved {wr:List Addr} {g:Nat} (k:Kept C s s') (R:Rel C ρ σ s) (m:Moved wr (GenOnlyQ g) s' s'') (hw:∀ b∈wr,s.heap.objs.size≤b) {a:Addr} {o:Obj} (ha:s'.heap.get? a=some o) (hl:s.heap.objs.size≤a) (hn:a∉wr) (hgz:s.gens.size≤g) (hwc:CodesOut C s'.heap wr):Kept C s s'' where
  keep b o e n:=m.heap b o (fun h=>Nat.not_lt.mpr (hw b h) (Heap.lt_size e)) (k.keep b o e n)
  tab t ht:=by
    (refine x1_2 (k.tab t ht) fun more a1 b1=>?_)
    (refine x1_2 (R.tab t ht) fun more' a2 b2=>?_)
    have l1:=a2.lt
    refine ⟨more,a1.at2 (fun o e=>m.heap _ o (fun h=>Nat.not_lt.mpr (hw _ h) l1.1) e) (fun o e=>m.heap _ o (fun h=>Nat.not_lt.mpr (hw _ h) l1.2) e),?_⟩
    obtain ⟨⟨⟨o,vs,x,r⟩,y⟩,z⟩:=id b1
    exact ⟨⟨⟨o,vs,m.heap _ _ (fun h=>Nat.not_lt.mpr (hw _ h) l1.1) x,r⟩,m.heap _ _ (fun h=>Nat.not_lt.mpr (hw _ h) l1.2) y⟩,fun pos cv e=>let ⟨c,o,vs,v,a1,a2,a3⟩:=z pos cv e; ⟨c,o,vs,v,a1,m.heap _ _ (hwc t ht _ b1 pos cv c e a1) a2,a3⟩⟩
  size:=Nat.le_trans hl (Nat.le_of_lt (Heap.lt_size (m.heap a o hn ha)))
  gens:=m.gens.bare k.gens
  gold i st e:=by
    have e':=k.gold i st e
    have hi:i < s.gens.size:=(Array.getElem?_eq_some_iff.mp e).1
    rcases m.gens with h | ⟨⟨_,h⟩,_⟩
    · rw [h]; exact e'
    · rw [h i (Nat.ne_of_lt (Nat.lt_of_lt_of_le hi hgz))]; exact e'
  drawn:=m.drawn.trans k.drawn
  os:=m.os.trans k.os
end
theorem code_noTab {h:Heap} {c P:Addr} {ps:Array Value} {o:Obj} (b:TabX h c P ps) (e:h.get? P=some o) (hc:CodeOb o):False:=by
  rw [b.at_.2] at e
  exact Value.noConfusion ((congrArg Obj.cls (Option.some.inj e)).trans hc.1)
set_option tactic.hygienic true
theorem amongs (pos pos':Pos) (c cv:Value) (l:List Value) (h:TriplesOk l) (e:codeAmong pos' (l++[rawInt pos.line,rawInt pos.col,c])=some cv):codeAmong pos' l=some cv∨cv=c:=by
  fun_induction TriplesOk l with
  | case1 =>
    have e:(if (Int.ofNat pos.line == pos'.line && Int.ofNat pos.col == pos'.col)=true then some c else none)=some cv:=e
    (refine sf e ?_; clear e; intro uu e)
    exact .inr (Option.some.inj e).symm
  | case2 a t b u x rest ih =>
    simp only [List.cons_append,codeAmong] at e ⊢
    split at e
    · rename_i hc; rw [if_pos hc]; exact .inl e
    · rename_i hc; rw [if_neg hc]; exact ih h e
  | case3 l h1 h2=>exact h.elim
set_option tactic.hygienic false
theorem codes_snoc {h h':Heap} {c P c':Addr} {ps:Array Value} {pos:Pos} {qn:Str} (b:TabX h c P ps) (hx:Heap.ExtBut P h h') (hrec:h'.CodeRec (.ref c') qn) (hP':∃ P',h.objs.size≤P'∧h'.IsCode c' P' #[]∧h'.TableAt c' P' #[]) (ht:TriplesOk ps.toList):CodesAt h' (ps++#[rawInt pos.line,rawInt pos.col,.ref c']):=by
  intro pos' cv e
  rw [Array.toList_append] at e
  rcases amongs pos pos' (.ref c') cv ps.toList ht e with e | rfl
  · (refine x4_5 (b.codes pos' cv e) fun c2 o vs v a1 a2 a3 a4 a5=>?_)
    exact ⟨c2,o,vs,v,a1,hx _ _ (fun z=>code_noTab b (z▸a2) ⟨a3,vs,a4⟩) a2,a3,a4,a5⟩
  · (refine x4_4 (hrec) fun c2 o vs t e1 e2 e3 e4=>?_; clear hrec)
    obtain ⟨P',_,_,⟨⟨o',vs',x1,x2,x3,x4⟩,_⟩⟩:=hP'
    cases e1
    rw [e2] at x1
    cases x1
    exact ⟨c',o,vs,_,rfl,e2,x2,e3,e4⟩
theorem _root_.PySem.Heap.IsCode.triples {h:Heap} {c P:Addr} {ps:Array Value} (x:h.IsCode c P ps):TriplesOk ps.toList:=by
  (refine x10_11 (x) fun uu uu uu uu uu uu uu uu uu uu uu uu uu uu uu uu uu uu uu t uu=>?_; clear x)
  exact t
structure GenOk (C:Cfg):Prop where
  bm:∃ mg bm ob,BMod C.s₁.heap mainGlobals mg bm ob∧¬ C.isTab bm
  one:∀ t∈C.tabs,∀ t'∈C.tabs,t.2.1=t'.2.1→t=t'
section
variable {C:Cfg} {ρ:Rho} {σ:St} {s:Shared} {A:Around} {E:Value→Shared→Prop} {env:Env} {vars:List Str} {lc:Lc}
theorem passing_all (n:Nat):passing (fun uu=>true) n 0=List.range n:=by simp [passing]
theorem gencode (HG:GenOk C) {t:Addr × Addr × Array Value} (ht:t∈C.tabs) (hcode:env.code=.ref t.1) {pos:Pos} {qn:Str} {scope:Scope} {Q:Value→Shared→Prop} (R:Rel C ρ σ s)
    (k:∀ code s',Kept C s s'→Q code s'):wpAny (model C.prog C.w) A (genexprCode env pos qn scope) Q E s:=by
  (refine x1_2 (R.tab t ht) fun more a b=>?_)
  cases hf:codeAmong pos (t.2.2++more).toList with
  | some c'=>exact wpAny_genexprCode_hit hcode a hf (k _ _ (.of R (fun uu uu e=>e) (Nat.le_refl _) rfl rfl rfl))
  | none =>
    refine wpAny_genexprCodeX hcode a b.at_ hf fun c' h' tk hx hge hlt a' hrec b' hP'=>k _ _ ?_
    refine ⟨fun b' o e n=>hx b' o (fun z=>n (z▸List.mem_map_of_mem ht)) e,fun t' ht'=>?_,Nat.le_trans hge (Nat.le_of_lt hlt),R.gens.bare,fun uu uu e=>e,rfl,rfl⟩
    by_cases he:t'.2.1=t.2.1
    · obtain rfl:=HG.one t' ht' t ht he
      exact ⟨more++#[rawInt pos.line,rawInt pos.col,.ref c'],by rw [← Array.append_assoc]; exact a',by rw [← Array.append_assoc]; exact ⟨b',codes_snoc b hx hrec hP' (a.triples) ⟩⟩
    · (refine x1_2 (R.tab t' ht') fun m2 a2 b2=>?_)
      have hc:t'.1≠t.2.1:=by
        intro z
        obtain ⟨⟨o,vs,x,y,_⟩,_⟩:=b2.at_
        rw [z,b.at_.2] at x
        cases x; cases y
      exact ⟨m2,a2.extBut hx hc he,b2.move (fun b' o e hc=>hx b' o (fun z=>code_noTab b (z▸e) hc) e) fun o e=>hx _ _ he e⟩
theorem parts_at {h:Heap} {pts:List (Str × Str)} {vs:List Value} (hs:VRs C ρ h (pts.map partAV) vs):∃ (Ts:Nat→Addr) (vals:Nat→Array Value),∀ j,j < vs.length→vs[j]?=some (.ref (Ts j))∧h.IsTuple (Ts j) (vals j)∧¬ C.isTab (Ts j)∧∃ p t u,pts[j]?=some p∧vals j=#[.str p.1 t,.str p.2 u]:=by
  have one:∀ j,∃ (q:Addr × Array Value),j < vs.length→vs[j]?=some (.ref q.1)∧h.IsTuple q.1 q.2∧¬ C.isTab q.1∧∃ p t u,pts[j]?=some p∧q.2=#[.str p.1 t,.str p.2 u]:=by
    intro j
    by_cases hj:j < vs.length
    · have hj':j < pts.length:=by have:=hs.length; rw [List.length_map] at this; (first | lia | omega)
      (refine x1_2 (parts_get hs (List.getElem?_eq_getElem hj')) fun v hv q=>?_)
      revert hv
      refine VR.tup_e (show VR C ρ h (.tup [.str pts[j].1,.str pts[j].2]) v from q) fun a us n ho hm hq hv=>?_
      revert ho
      refine hq.two_e fun x y q1 q2=>q1.str_e fun t uu=>q2.str_e fun u uu ho=>?_
      exact ⟨(a,#[.str pts[j].1 t,.str pts[j].2 u]),fun uu=>⟨hv,⟨_,ho,rfl,n,rfl⟩,fun z=>hm (.inl z),pts[j],t,u,List.getElem?_eq_getElem hj',rfl⟩⟩
    · exact ⟨(0,#[]),fun h=>absurd h hj⟩
  exact ⟨fun j=>(one j).choose.1,fun j=>(one j).choose.2,fun j hj=>(one j).choose_spec hj⟩
end
noncomputable def EltOk (C:Cfg) (env:Env) (scope:Scope) (elt:Expr) (xa xb:Str) (pts:List (Str × Str)) (F:Str × Str→Value→Prop):Prop :=
  ∀ (Cn:Addr) (code:Value) (A':Around) (E':Value→Shared→Prop) (p:Str × Str) (t u:Tok) (s₂:Shared) (m₂:Str→Option Value),A'.handled=none→p∈pts→s₂.heap.Ns Cn m₂→m₂ xa=some (.str p.1 t)→m₂ xb=some (.str p.2 u) →
    (∀ b o,C.s₁.heap.get? b=some o→¬ C.isTab b→s₂.heap.get? b=some o) →
    wpAny (model C.prog C.w) A' (eval elt (genEnv scope [] Cn code builtinsNs env)) (fun y s₃=>F p y∧Keeps s₂ s₃) E' s₂
section
variable {C:Cfg} {ρ:Rho} {σ:St} {s:Shared} {A:Around} {E:Value→Shared→Prop} {env:Env} {vars:List Str} {lc:Lc}
theorem monoP {A:Around} {I:Addr} {fp wr:List Addr} {G:Array GenState→Array GenState→Prop} {n:Nat} {P P':Nat→Value→Prop} {St:Nat→Shared→Prop} (W:WalksS C.prog C.w A I fp wr G n P St) (h:∀ j y,P j y→P' j y):WalksS C.prog C.w A I fp wr G n P' St where
  sub:=W.sub
  grefl:=W.grefl
  gtrans:=W.gtrans
  frame:=W.frame
  item:=fun i s Q E hi st hQ=>W.item i s Q E hi st fun v s' p=>hQ v s' (h _ _ p)
  done:=W.done
  self:=W.self
theorem gen_rel (H:CfgOk C) (HC:ClsOk C) (HA:AccOk C) (HG:GenOk C) (He:EnvOk env vars) {t:Addr × Addr × Array Value} (ht:t∈C.tabs) (hcode:env.code=.ref t.1)
    {elt:Expr} {xa xb sn:Str} {pa pb pt ps:Pos} {kt:Nat} {scope:Scope} {pos:Pos} {Q:Value→Shared→Prop}
    (hco:scope.isCoroutine=false) (hclos:closureFor scope env=pure []) (hcell:∀ y∈scope.names,y.2≠.cell) (h0:scope.names.lookup (".0" : Str)=some NameKind.local)
    (hxa:scope.names.lookup xa=some .local) (hxb:scope.names.lookup xb=some .local) (hab:xa≠xb) (hkind:scope.kind=.function)
    {i0 l:Nat} {ini:Int} {pts:List (Str × Str)} (hi0:vars[i0]?=some sn) (hsn:(sn == ("__debug__" : Str))=false) (hA:AOk C 1 A) (R:Rel C ρ σ s) (lr:LcR C ρ s.heap env.locals vars lc) (hself:lc[i0]?=some (some (.loc l))) (hl:σ[l]?=some (.acc ini pts))
    {F:Str × Str→Value→Prop} (hel:EltOk C env scope elt xa xb pts F)
    (k:∀ a g o s₅ fp wr St,s.gens.size≤g→Kept C s s₅→s₅.heap.get? a=some o→s.heap.objs.size≤a→a∉wr→(∀ b∈wr,s.heap.objs.size≤b)→CodesOut C s₅.heap wr→WalksS C.prog C.w A.in4 a fp wr (GenOnlyQ g) pts.length (fun j y=>∃ p,pts[j]?=some p∧F p y) St→St 0 s₅ →
      (∀ b∈fp,b < s₅.heap.objs.size)→a∈fp→(∀ i s',St i s'→s'.TypeIs (.ref a) "generator")→Q (.ref a) s₅) :
    wpAny (model C.prog C.w) A (eval (.GeneratorExp elt [⟨.Tuple [.Name xa pa,.Name xb pb] kt pt,.Name sn ps,[],0⟩] scope pos) env) Q E s:=by
  refine wpAny_GeneratorExp_walksQT hA.1 hco hclos hcell h0 hxa hxb hab hkind (by have:=hA.2.1; (first | lia | omega)) ?_ (fun uu=>rfl)
  refine wpAny_Name (load_name He hi0 hself lr fun v qv=>?_) hsn
  refine R.acc_e hl qv fun a dd es n n' vs e0 ho hd he hs=>?_
  refine below_iter (R.kin H) (accInst ho hd) HC.acMro HA.iter ?_
  obtain ⟨hh,gg,dr,tk,os⟩:=s
  have hlen:vs.length=pts.length:=by rw [hs.length,List.length_map]
  have R₂:=R.push { cls:=.type "list_iterator",data:=.fields #[.ref a,.int 0 0] } (n:=tk)
  have lim₂:(hh.push { cls:=.type "list_iterator",data:=.fields #[.ref a,.int 0 0] }).NoLimit:=by
    (refine x1_2 (H.lim) fun mc x y=>?_)
    exact ⟨mc,x.at fun o e=>Heap.get?_push_of_some _ (R.old _ _ e H.stat),y⟩
  refine ⟨lim₂,gencode HG ht hcode R₂ fun code s₃ K₃=>?_⟩
  have R₃:=R₂.kept K₃
  (refine x3_2 (HG.bm) fun mg bm ob' M hbm=>?_)
  have M₃:BMod s₃.heap env.globals mg bm ob':=by rw [He.glob]; exact ⟨M.ns.at fun o e=>R₃.old _ _ e H.glob,M.name,M.ne,R₃.old _ _ M.obj hbm,M.cls,M.dict,M.data⟩
  refine wpAny_builtinsFor M₃.ns M₃.name M₃.ne M₃.obj M₃.cls M₃.dict M₃.data ?_
  (refine x2_1 (parts_at (C:=C) hs) fun Ts vals hT=>?_)
  have ait:a < hh.objs.size:=Heap.lt_size ho
  have sz:vs.toArray.size=vs.length:=List.size_toArray ..
  have hTlt:∀ j,j < vs.length→Ts j < hh.objs.size:=fun j hj=>by obtain ⟨_,⟨_,e,_⟩,_⟩:=hT j hj; exact Heap.lt_size e
  have W:=fun (A':Around) (hA':A'.handled=none)=>walkPairs (C:=C) hA' hh.objs.size a (Nat.ne_of_lt ait) vs.toArray Ts vals (fun j hj=>by rw [sz] at hj; simpa using (hT j hj).1) fun j hj=>Nat.ne_of_lt (hTlt j (sz▸hj))
  have nt:¬ C.isTab a:=R.notTab ho (by simp)
  have z₃:hh.objs.size < s₃.heap.objs.size:=by have:=K₃.size; rw [show (hh.push _).objs.size=hh.objs.size + 1 from Heap.size_push ..] at this; (first | lia | omega)
  have itAt:s₃.heap.get? hh.objs.size=some { cls:=.type "list_iterator",data:=.fields #[.ref a,.int 0 0] }:=K₃.keep _ _ (Heap.get?_push_size _ rfl) (R₂.notTab (Heap.get?_push_size _ rfl) (by simp))
  have up:∀ b o,hh.get? b=some o→¬ C.isTab b→s₃.heap.get? b=some o:=fun b o e nb=>K₃.keep b o (Heap.get?_push_of_some _ e) nb
  have lim₃:s₃.heap.NoLimit:=by
    (refine x1_2 (H.lim) fun mc x y=>?_)
    exact ⟨mc,x.at fun o e=>R₃.old _ _ e H.stat,y⟩
  have hcs:cStatics≠hh.objs.size:=by
    (refine x1_2 (H.lim) fun mc x y=>?_)
    exact Nat.ne_of_lt (Nat.lt_of_lt_of_le x.lt R.size)
  refine ⟨hh.objs.size,_,[hh.objs.size],vs.toArray.size,_,_,_,(fun uu=>true),(fun i y=>∃ p,pts[i]?=some p∧F p y),rfl,W,?_,⟨⟨_,itAt,rfl,rfl⟩,⟨_,_,up _ _ ho nt,rfl⟩,fun j hj=>?_⟩,?_,lim₃,(by simpa using hcs),?_,?_⟩
  · rintro i v ⟨hi,rfl⟩
    (refine x3_2 ((hT i (sz▸hi)).2.2.2) fun p t1 t2 uu e=>?_)
    exact ⟨_,_,e⟩
  · (refine x0_4 (hT j (sz▸hj)) fun uu tt nt' uu=>?_)
    exact tt.at fun o e=>up _ o e nt'
  · intro b hb
    rcases List.mem_cons.mp hb with rfl | hb
    · exact z₃
    · rcases List.mem_cons.mp hb with rfl | hb
      · exact Nat.lt_trans ait z₃
      · (refine x1_2 (List.mem_map.mp hb) fun j hj rr2=>?_; subst rr2)
        exact Nat.lt_trans (hTlt j (sz▸List.mem_range.mp hj)) z₃
  · intro href hk
    have oldk:∀ (s₂:Shared),(∀ b∈List.range s₃.heap.objs.size,b∉[hh.objs.size]→∀ o,href.get? b=some o→s₂.heap.get? b=some o)→∀ b o,C.s₁.heap.get? b=some o→¬ C.isTab b→s₂.heap.get? b=some o:=by
      intro s₂ h2 b o e nb
      have e3:=R₃.old b o e nb
      refine h2 b (List.mem_range.mpr (Heap.lt_size e3)) ?_ o (hk b o e3)
      intro hm
      obtain rfl:b=hh.objs.size:=by simpa using hm
      exact absurd (Nat.lt_of_lt_of_le (Heap.lt_size e) R.size) (Nat.lt_irrefl _)
    refine ⟨fun A' E' i va vb s₂ m₂ hh' hP hn ha hb hkp=>?_,fun A' E' i va vb s₂ m₂ hh' hP uu hn ha hb hkp=>?_⟩
    · exact wpAny_pure ⟨rfl,s₂.heap,s₂.toks,rfl,fun uu uu e=>e⟩
    · (refine x0_2 (hP) fun hi e=>?_; clear hP)
      (refine x3_2 ((hT i (sz▸hi)).2.2.2) fun p t1 t2 hp ev=>?_)
      rw [ev] at e
      obtain ⟨rfl,rfl⟩:va=.str p.1 t1∧vb=.str p.2 t2:=by simpa using congrArg Array.toList e
      exact wpAny_mono (hel _ _ A' E' p t1 t2 s₂ m₂ hh' (List.mem_of_getElem? hp) hn ha hb (oldk s₂ hkp)) (fun y s₃ r=>⟨⟨p,hp,r.1⟩,r.2⟩) fun uu uu e=>e
  · intro a' h₅ tk gs hgb hag hsz₅ hk₅ WS hat
    (refine x3_2 (hat.1) fun oa nm qn hoa uu=>?_)
    rw [passing_all,List.length_range,sz,hlen] at WS
    rw [sz,hlen] at hat
    refine k a' s₃.gens.size oa { s₃ with gens:=s₃.gens.push gs,toks:=tk,heap:=h₅ } (a' :: s₃.heap.objs.size :: List.range s₃.heap.objs.size) (s₃.heap.objs.size :: [hh.objs.size]) _ K₃.gsize ⟨fun b o e nb=>hk₅ b o (up b o e nb),fun t ht=>?_,?_,K₃.gens.push hgb,(fun i st e=>by have e':=K₃.gold i st e; have hi:=(Array.getElem?_eq_some_iff.mp e').1; show (s₃.gens.push gs)[i]?=some st; rw [Array.getElem?_push_lt hi]; rw [Array.getElem?_eq_getElem hi] at e'; exact e'),K₃.drawn,K₃.os⟩ hoa (Nat.le_of_lt (Nat.lt_trans z₃ hag)) ?_ ?_ ?_ ?_ hat ?_ (List.mem_cons_self ..) (fun i s' st=>st.1.typeIs)
    · (refine x1_2 (K₃.tab t ht) fun more x y=>?_)
      exact ⟨more,x.keeps hk₅,y.keeps hk₅⟩
    · show hh.objs.size≤h₅.objs.size
      rw [hsz₅]; exact Nat.le_of_lt (Nat.lt_trans (Nat.lt_trans z₃ hag) (Nat.lt_succ_self _))
    · intro hm
      rcases List.mem_cons.mp hm with e | hm
      · exact absurd (e▸hag) (Nat.lt_irrefl _)
      · obtain rfl:a'=hh.objs.size:=by simpa using hm
        exact absurd (Nat.lt_trans z₃ hag) (Nat.lt_irrefl _)
    · intro b hb
      rcases List.mem_cons.mp hb with rfl | hb
      · exact Nat.le_of_lt z₃
      · obtain rfl:b=hh.objs.size:=by simpa using hb
        exact Nat.le_refl _
    · intro t ht ps b5 pos' cv c e ec hm
      refine x1_2 (K₃.tab t ht) fun more x y=>?_
      have e5:=(hk₅ _ _ y.at_.2).symm.trans b5.at_.2
      obtain rfl:t.2.2++more=ps:=by injection e5 with e5; injection e5 with _ _ e5; injection e5
      (refine x4_5 (y.codes pos' cv e) fun c2 o vs v a1 a2 a3 a4 a5=>?_)
      obtain rfl:c2=c:=Value.ref.inj (a1.symm.trans ec)
      rcases List.mem_cons.mp hm with e6 | hm
      · exact absurd (e6▸Heap.lt_size a2) (Nat.lt_irrefl _)
      · obtain rfl:c2=hh.objs.size:=by simpa using hm
        rw [itAt] at a2
        injection a2 with a2
        rw [← a2] at a3
        exact absurd (Value.type.inj a3) (by decide)
    · refine monoP WS fun j y=>?_
      rintro ⟨i,hi,q⟩
      obtain ⟨hj,e⟩:=List.getElem?_eq_some_iff.mp hi
      rw [List.getElem_range] at e
      rw [e]; exact q
    · intro b hb
      show b < h₅.objs.size
      rw [hsz₅]
      rcases List.mem_cons.mp hb with rfl | hb
      · exact Nat.lt_succ_self _
      · rcases List.mem_cons.mp hb with rfl | hb
        · exact Nat.lt_succ_of_lt hag
        · exact Nat.lt_succ_of_lt (Nat.lt_trans (List.mem_range.mp hb) hag)
end
structure OutEnv (env:Env):Prop where
  kind:env.scope.kind=.function
  glob:env.globals=mainGlobals
  blt:env.builtins=builtinsNs
theorem EnvOk.out {env:Env} {vars:List Str} (h:EnvOk env vars):OutEnv env:=⟨h.kind,h.glob,h.blt⟩
section
variable {C:Cfg} {ρ:Rho} {σ:St} {s:Shared} {A:Around} {E:Value→Shared→Prop} {env:Env} {vars:List Str} {lc:Lc} {p p':Pos}
theorem gname (H:CfgOk C) (He:OutEnv env) {x:Str} {v:Value} (hv:GlobVal C x v) (hx:env.kindOf x=some .globalImplicit) (hd:(x == ("__debug__" : Str))=false) {Q:Value→Shared→Prop} (R:OldAt C s) (k:Q v s) :
    wpAny (model C.prog C.w) A (eval (.Name x p) env) Q E s:=by
  (refine x1_2 (hv) fun mg hg h=>?_; clear hv)
  refine Name_function_global He.kind hx ?_ hd
  have hg':s.heap.Ns env.globals mg:=by rw [He.glob]; exact hg.at fun o e=>R _ _ e H.glob
  rcases h with h | ⟨h,mb,hb,h'⟩
  · exact loadGlobal_global hg' h k
  · exact loadGlobal_builtin hg' h (by rw [He.blt]; exact hb.at fun o e=>R _ _ e H.blt) h' k
theorem lname (He:OutEnv env) {x:Str} {v:Value} {m:Str→Option Value} (hx:env.kindOf x=some .local) (hn:s.heap.Ns env.locals m) (hm:m x=some v) (hd:(x == ("__debug__" : Str))=false) {Q:Value→Shared→Prop} (k:Q v s) :
    wpAny (model C.prog C.w) A (eval (.Name x p) env) Q E s:=wpAny_Name (wpAny_loadName_local He.kind hx hn hm k) hd
theorem call1 (H:CfgOk C) (He:OutEnv env) {f x:Str} {id:String} {v:Value} {m:Str→Option Value} {p0 p1:Pos} (hv:GlobVal C f (.builtin id)) (hf:env.kindOf f=some .globalImplicit) (hfd:(f == ("__debug__" : Str))=false) (hx:env.kindOf x=some .local) (hxd:(x == ("__debug__" : Str))=false)
    (R:OldAt C s) (hn:s.heap.Ns env.locals m) (hm:m x=some v) {Q:Value→Shared→Prop} (k:wpAny (model C.prog C.w) A (call (.builtin id) [v]) Q E s):wpAny (model C.prog C.w) A (eval (.Call (.Name f p0) [.Name x p1] [] p) env) Q E s:=by
  show wpAny _ _ (do callWith p (← eval (.Name f p0) env) [] (backTo p (starEach [.Name x p1] env)) (backToKw p (keywordEach [] env))) _ _ _
  refine wpAny_bind (gname H He hv hf hfd R ?_)
  refine callWith_of (P:=fun uu=>True) rfl (fun h uu=>⟨.machine,.inr (.inl rfl),.now⟩) ?_
  show wpAny _ _ (evalArgs _ true ((false,eval (.Name x p1) env) :: _) []) _ _ _
  refine evalArgs_plain ?_
  refine wpAny_items_cons (pos:=p) (rest:=[]) (lname He hx hn hm hxd ?_)
  exact wpAny_items_nil ⟨trivial,by simpa using k⟩
end
noncomputable def partLen (p:Str × Str):Int:=(p.1.length:Int) + p.2.length
noncomputable def partsLen (ps:List (Str × Str)):Int:=(ps.map partLen).sum
noncomputable def smallStr (x:Str):Bool:=x.length≤1000000
noncomputable def smallPart (p:Str × Str):Bool:=smallStr p.1 && smallStr p.2
theorem partsLen_take_succ {ps:List (Str × Str)} {i:Nat} (p:Str × Str) (h:ps[i]?=some p):partsLen (ps.take (i + 1))=partsLen (ps.take i) + partLen p:=by
  unfold partsLen
  rw [List.take_add_one,h]
  simp
structure LenScope (scope:Scope):Prop where
  kind:scope.kind=.function
  len:scope.names.lookup ("len" : Str)=some NameKind.globalImplicit
  a:scope.names.lookup ("fws" : Str)=some NameKind.local
  b:scope.names.lookup ("part" : Str)=some NameKind.local
theorem elt_len {C:Cfg} {env:Env} {scope:Scope} (H:CfgOk C) (He:OutEnv env) (hS:LenScope scope) (hv:GlobVal C "len" (.builtin "len")) {pts:List (Str × Str)} (hp:pts.all smallPart=true) {p0 p1 p2 p3 p4 p5 p6:Pos} :
    EltOk C env scope (.BinOp (.Call (.Name "len" p0) [.Name "fws" p1] [] p2) .Add (.Call (.Name "len" p3) [.Name "part" p4] [] p5) p6) "fws" "part" pts (fun p y=>∃ t,y=.int (partLen p) t):=by
  intro Cn code A' E' p t u s₂ m₂ hh hm hn ha hb hold
  have hs:=List.all_eq_true.mp hp p hm
  unfold smallPart smallStr at hs
  rw [Bool.and_eq_true,decide_eq_true_eq,decide_eq_true_eq] at hs
  have He':OutEnv (genEnv scope [] Cn code builtinsNs env):=⟨hS.kind,He.glob,rfl⟩
  refine wpAny_BinOp ?_
  refine call1 H He' (id := "len") hv hS.len (by decide) hS.a (by decide) hold hn ha ?_
  refine PyProof.Rows.len_str (by (first | lia | omega)) ?_
  refine call1 (s:={ s₂ with toks:=s₂.toks + 1 + 1 }) H He' (id := "len") hv hS.len (by decide) hS.b (by decide) hold hn hb ?_
  refine PyProof.Rows.len_str (by (first | lia | omega)) ?_
  refine wpAny_add_int ?_
  exact ⟨⟨_,rfl⟩,s₂.heap,_,rfl,fun uu uu e=>e⟩
theorem join2 (a b:Str):Txt.join "" [a,b]=a++b:=by
  show (⟨(a.cps++#[])++b.cps⟩:Str)=⟨a.cps++b.cps⟩
  rw [Array.append_empty]
theorem str_len_append (a b:Str):(a++b).length=a.length + b.length:=by
  show (a.cps++b.cps).size=a.cps.size + b.cps.size
  exact Array.size_append
theorem strOk_join {sep:Str}:∀ {xs:List Str},PyData.strOk sep=true→(∀ x∈xs,PyData.strOk x=true)→PyData.strOk (Txt.join sep xs)=true:=by
  intro xs hs hx
  show PyData.strOk (Builtin.Str.glued sep xs)=true
  unfold Builtin.Str.glued
  have go:∀ (ys:List Str) (acc:Array Nat),PyData.strOk ⟨acc⟩=true→(∀ x∈ys,PyData.strOk x=true)→PyData.strOk ⟨ys.foldl (fun acc p=>acc++sep.cps++p.cps) acc⟩=true:=by
    intro ys
    induction ys with
    | nil=>intro acc h _; exact h
    | cons y ys ih =>
      intro acc h h'
      rw [List.foldl_cons]
      refine ih _ ?_ fun x hx=>h' x (List.mem_cons_of_mem _ hx)
      exact strOk_append (x:=⟨acc++sep.cps⟩) (y:=y) (strOk_append (x:=⟨acc⟩) (y:=sep) h hs) (h' y (List.mem_cons_self ..))
  cases xs with
  | nil=>show PyData.strOk Str.empty=true; decide +kernel
  | cons x xs=>exact go xs x.cps (hx x (List.mem_cons_self ..)) fun y hy=>hx y (List.mem_cons_of_mem _ hy)
noncomputable def partStr (p:Str × Str):Str:=p.1++p.2
noncomputable def accText (ps:List (Str × Str)):Str:=Txt.join "" (ps.map partStr)
theorem partStr_len (p:Str × Str):((partStr p).length:Int)=partLen p:=by unfold partStr partLen; rw [str_len_append]; (first | lia | omega)
theorem partsLen_sum (ps:List (Str × Str)):((((ps.map partStr).map fun x=>x.length).sum:Nat):Int)=partsLen ps:=by
  induction ps with
  | nil=>rfl
  | cons p ps ih =>
    unfold partsLen at ih ⊢
    simp only [List.map_cons,List.sum_cons]
    rw [← ih,← partStr_len]
    (first | lia | omega)
section
variable {C:Cfg} {ρ:Rho} {σ:St} {s:Shared} {A:Around} {E:Value→Shared→Prop} {env:Env} {vars:List Str} {lc:Lc} {p p':Pos}
theorem parts_ok {h:Heap} {ps:List (Str × Str)}:∀ {vs:List Value},VRs C ρ h (ps.map partAV) vs→∀ p∈ps,PyData.strOk p.1=true∧PyData.strOk p.2=true:=by
  induction ps with
  | nil=>intro _ _ p hp; cases hp
  | cons q ps ih =>
    intro vs hs p hp
    refine hs.cons_e fun w ws a b=>?_
    rcases List.mem_cons.mp hp with rfl | hp
    · exact a.tup_e fun uu uu uu uu uu hq=>hq.cons_e fun uu uu q1 q2=>q2.cons_e fun uu uu q2 uu=>q1.str_e fun uu o1=>q2.str_e fun uu o2=>⟨o1,o2⟩
    · exact ih b p hp
theorem callJoin (H:CfgOk C) (He:OutEnv env) {f:Str} {sep:Str} {tf:Tok} {es:List Expr} {p0 apos:Pos} (hv:GlobVal C f (.str sep tf)) (hf:env.kindOf f=some .globalImplicit) (hfd:(f == ("__debug__" : Str))=false) (hp:(apos.endLine == p.line)=true) (R:OldAt C s) {e:Expr} (he:es=[e])
    (hn:starEach [e] env=[(false,eval e env)]) {Q:Value→Shared→Prop} (k:wpAny (model C.prog C.w) A (eval e env) (fun v s'=>wpAny (model C.prog C.w) A (call (.builtin "str.join") [.str sep tf,v]) Q E s') E s) :
    wpAny (model C.prog C.w) A (eval (.Call (.Attribute (.Name f p0) "join" apos) es [] p) env) Q E s:=by
  subst he
  rw [arm_eval_Call,show ∀ (n:Str) (p:Pos) nm whole,attributeBase (.Name n p) nm env whole=whole from fun uu uu uu uu=>rfl]
  refine wpAny_bind (gname H He hv hf hfd R (wpAny_bind (wpAny_standAt ?_)))
  have hform:methodCallForm (1 + 0) (backTo p (starEach [e] env)) (backToKw p (keywordEach [] env))=true:=by rw [hn]; rfl
  show wpAny _ _ (methodCall (.Name f p0) "join" apos p env (.str sep tf) (1 + 0) (backTo p (starEach [e] env)) (backToKw p (keywordEach [] env))) _ _ _
  unfold methodCall
  rw [hform]
  refine wpAny_bind (wpAny_holding ?_)
  refine GM.join ?_
  dsimp only
  have hpos:methodCallPos true (.Name f p0) env apos p=pure p:=by
    unfold methodCallPos
    rw [hp]; rfl
  rw [hpos]
  refine wpAny_bind (wpAny_pure ?_)
  refine callWith_of (P:=fun uu=>True) (by rw [hn]; rfl) (fun h uu=>⟨.machine,.inr (.inl rfl),.now⟩) ?_
  rw [hn]
  refine evalArgs_plain ?_
  have:=wpAny_items_cons (M:=model C.prog C.w) (A:=A) (E:=E) (s:=s) (env:=env) (pos:=p) (e:=e) (rest:=[]) (Q:=fun vs s'=>True∧wpAny (model C.prog C.w) A (call (.builtin "str.join") ([.str sep tf]++vs) []) Q E s') (wpAny_mono k (fun v s' hk=>wpAny_items_nil ⟨trivial,hk⟩) fun uu uu z=>z) hn
  rw [hn] at this
  exact this
structure StrScope (scope:Scope):Prop where
  kind:scope.kind=.function
  es:scope.names.lookup ("EMPTYSTRING" : Str)=some NameKind.globalImplicit
  a:scope.names.lookup ("fws" : Str)=some NameKind.local
  b:scope.names.lookup ("part" : Str)=some NameKind.local
theorem elt_str {scope:Scope} (H:CfgOk C) (He:OutEnv env) (hS:StrScope scope) {tf:Tok} (hv:GlobVal C "EMPTYSTRING" (.str "" tf)) {pts:List (Str × Str)} (hp:pts.all smallPart=true) {p0 apos p1 p2 p3 p4:Pos} {kt:Nat} (hpp:(apos.endLine == p4.line)=true) :
    EltOk C env scope (.Call (.Attribute (.Name "EMPTYSTRING" p0) "join" apos) [.Tuple [.Name "fws" p1,.Name "part" p2] kt p3] [] p4) "fws" "part" pts (fun p y=>∃ t,y=.str (partStr p) t):=by
  intro Cn code A' E' p t u s₂ m₂ hh hm hn ha hb hold
  have hs:=List.all_eq_true.mp hp p hm
  unfold smallPart smallStr at hs
  rw [Bool.and_eq_true,decide_eq_true_eq,decide_eq_true_eq] at hs
  have He':OutEnv (genEnv scope [] Cn code builtinsNs env):=⟨hS.kind,He.glob,rfl⟩
  refine callJoin H He' hv hS.es (by decide) hpp hold rfl rfl ?_
  refine wpAny_Tuple ?_
  refine wpAny_items_cons (lname He' hS.a hn ha (by decide) ?_)
  refine wpAny_items_cons (lname He' hS.b hn hb (by decide) ?_)
  refine wpAny_items_nil ⟨(show 2≤sizeLine by decide),?_⟩
  refine join_tuple (ys:=[p.1,p.2]) (items:=#[.str p.1 t,.str p.2 u]) ⟨_,Heap.get?_push_size _ rfl,rfl,_,rfl⟩ (.cons _ _ (.cons _ _ .nil)) ?_ fun t' k=>?_
  · show (p.1.length + (p.2.length + 0)) + 2 * 0≤_
    (first | lia | omega)
  · rw [join2]
    exact ⟨⟨t',rfl⟩,_,_,rfl,fun b o e=>Heap.get?_push_of_some _ e⟩
end
section
variable {C:Cfg} {ρ:Rho} {σ:St} {s:Shared} {A:Around} {E:Value→Shared→Prop} {env:Env} {vars:List Str} {lc:Lc} {p p':Pos}
theorem args2 {f:Value} {e1 e2:Expr} {Q:Args→Shared→Prop} (h1:starEach [e1,e2] env=(false,eval e1 env) :: starEach [e2] env) (h2:starEach [e2] env=(false,eval e2 env) :: starEach [] env)
    (h:wpAny (model C.prog C.w) A (eval e1 env) (fun v1 s1=>wpAny (model C.prog C.w) A (eval e2 env) (fun v2 s2=>Q ⟨[v1,v2],[]⟩ s2) E s1) E s):wpAny (model C.prog C.w) A (evalArgs f true (backTo p (starEach [e1,e2] env)) []) Q E s:=by
  have it:wpAny (model C.prog C.w) A (spliced (backTo p (starEach [e1,e2] env))) (fun vs s'=>Q ⟨vs,[]⟩ s') E s :=
    wpAny_items_cons (wpAny_mono h (fun v1 s1 k1=>wpAny_items_cons (wpAny_mono k1 (fun v2 s2 k2=>wpAny_items_nil k2) fun uu uu z=>z) h2) fun uu uu z=>z) h1
  rw [h1] at it ⊢
  exact evalArgs_plain it
structure GenEnvOk (C:Cfg) (env:Env) (vars:List Str) (t:Addr × Addr × Array Value) (scope:Scope):Prop where
  tab:t∈C.tabs
  code:env.code=.ref t.1
  coro:scope.isCoroutine=false
  clos:closureFor scope env=pure []
  cell:∀ y∈scope.names,y.2≠.cell
  zero:scope.names.lookup (".0" : Str)=some NameKind.local
  self:vars[0]?=some ("self" : Str)
noncomputable def lenAt (pts:List (Str × Str)) (i:Nat):Int:=match pts[i]? with | some p=>partLen p | none=>0
noncomputable def accFits (ps:List (Str × Str)):Bool:=ps.all smallPart && decide (ps.length≤1000000) && decide (partsLen ps≤1000000)
noncomputable def accLenS:SM:=fun lc σ=>(selfL lc).bind fun l=>(accAt σ l).bind fun a=>gd (accFits a.2) (.ret (.int (a.1 + partsLen a.2)),lc,σ)
theorem den_accLen {d:Nat} (H:CfgOk C) (HC:ClsOk C) (HA:AccOk C) (HG:GenOk C) (He:EnvOk env vars) {t:Addr × Addr × Array Value} {scope:Scope} (GE:GenEnvOk C env vars t scope) (LS:LenScope scope) (hl:GlobVal C "len" (.builtin "len")) (hsum:GlobVal C "sum" (.builtin "sum")) (hk:env.kindOf "sum" = some .globalImplicit)
    {pa pb pt ps pos p0 q0 q1 r0 r1 r2 r3 r4 r5 r6 pr:Pos} {kt:Nat} :
    DenS C (d + 1) env vars (.Return (some (.Call (.Name "sum" p0) [.GeneratorExp (.BinOp (.Call (.Name "len" r0) [.Name "fws" r1] [] r2) .Add (.Call (.Name "len" r3) [.Name "part" r4] [] r5) r6) [⟨.Tuple [.Name "fws" pa,.Name "part" pb] kt pt,.Name "self" ps,[],0⟩] scope pos,.Attribute (.Name "self" q0) "_initial_size" q1] [] p)) pr) accLenS:=by
  intro lc σ fl lc' σ' hf' A Q E s ρ hA R lr kk
  refine oB hf' fun l hself hf'=>oB hf' fun ac hl' hf'=>oG hf' fun hfit e2=>?_
  have hself:=selfL_inv hself
  have hl':=accAt_inv hl'
  rcases ac with ⟨ini,pts⟩
  have hfit:accFits pts=true:=hfit
  unfold accFits at hfit
  rw [Bool.and_eq_true,Bool.and_eq_true] at hfit
  refine wpAny_Return_some ?_
  show wpAny _ _ (do callWith p (← eval (.Name "sum" p0) env) [] (backTo p (starEach [_,_] env)) (backToKw p (keywordEach [] env))) _ _ _
  refine wpAny_bind (gname H He.out hsum hk (by decide) (fun b o e n=>R.old b o e n) ?_)
  refine callWith_of (P:=fun uu=>True) rfl (fun h uu=>⟨.machine,.inr (.inl rfl),.now⟩) ?_
  refine args2 rfl rfl ?_
  refine gen_rel H HC HA HG He GE.tab GE.code GE.coro GE.clos GE.cell GE.zero LS.a LS.b (by decide) LS.kind GE.self (by decide) (hA.mono (by (first | lia | omega))) R lr hself hl' (elt_len H He.out LS hl hfit.1.1) fun a g o s₅ fp wr St hgz K ho hla hnw hwr hwc W st0 hfp haf hty=>?_
  have R₅:=R.kept K
  have lr₅:=lr.go (K.step (ρ:=ρ))
  refine Attribute_any_ (wpAny_Name (load_name He GE.self hself lr₅ fun v qv=>?_) (by decide)) (by rw [arm_eval_Attribute]; rfl)
  refine R₅.acc_e hl' qv fun ax dd es n n' vs e0 ho' hd he hs=>?_
  have ge:=entR_get (name:=attrName 6) he
  rw [(acc_lookup (k:=6) (ini:=ini) (ps:=pts) rfl).1] at ge
  (refine x1_2 (ge) fun w hw qw=>?_; clear ge)
  revert hw
  refine qw.int_e fun ti hw=>?_
  refine getAttr_list (R₅.kin H) (accInst ho' hd) HC.acGa HC.acGt HC.acMro (findObj_own HC.acDict HC.acAttr rfl hw) rfl ?_
  refine ⟨trivial,?_⟩
  show wpAny _ _ (call (.builtin "sum") [.ref a,.int ini ti]) _ _ _
  have W':WalksS C.prog C.w A.in1 a fp wr (GenOnlyQ g) pts.length (fun j y=>∃ p,pts[j]?=some p∧∃ t,y=.int (partLen p) t) St:=W.of_in1.of_in1.of_in1
  have st1:=W.frame 0 s₅ s₅.heap (s₅.toks + 1) st0 (Nat.le_succ _) fun uu uu uu e=>e
  refine call_sum2 (W'.self 0 _ _ _ st1 ⟨a,fp,wr,GenOnlyQ g,pts.length,_,St,lenAt pts,(fun i=>ini + partsLen (pts.take i)),rfl,W',st1,hfp,?_,?_,?_,fun s' t' hm=>?_⟩)
  · rintro i v ⟨p,hp,t,rfl⟩
    exact ⟨t,by unfold lenAt; rw [hp]⟩
  · show ini + partsLen (pts.take 0)=ini
    simp [partsLen]
  · intro i
    show ini + partsLen (pts.take (i + 1))=ini + partsLen (pts.take i) + lenAt pts i
    unfold lenAt
    cases hp:pts[i]? with
    | some p=>rw [partsLen_take_succ p hp]; dsimp only; (first | lia | omega)
    | none =>
      have:=List.getElem?_eq_none_iff.mp hp
      rw [List.take_of_length_le (by (first | lia | omega)),List.take_of_length_le (by (first | lia | omega))]
      dsimp only; (first | lia | omega)
  · have K1:Kept C s { s₅ with toks:=s₅.toks + 1 }:=⟨K.keep,K.tab,K.size,K.gens,K.gold,K.drawn,K.os⟩
    have K':=K1.moved R hm hwr ho hla hnw hgz hwc
    show Q (.ret (.int (ini + partsLen (pts.take pts.length)) t')) s'
    rw [List.take_length]
    exact kfs kk e2 _ _ ρ (R.kept K') (K'.step.of_nil) (lr.go K'.step) (.ret (.int _ _))
noncomputable def accStrS:SM:=fun lc σ=>(selfL lc).bind fun l=>(accAt σ l).bind fun a=>gd (accFits a.2) (.ret (.str (accText a.2)),lc,σ)
theorem den_accStr {d:Nat} (H:CfgOk C) (HC:ClsOk C) (HA:AccOk C) (HG:GenOk C) (He:EnvOk env vars) {t:Addr × Addr × Array Value} {scope:Scope} (GE:GenEnvOk C env vars t scope) (LS:StrScope scope) {te:Tok} (hE:GlobVal C "EMPTYSTRING" (.str "" te)) (hk:env.kindOf "EMPTYSTRING" = some .globalImplicit)
    {pa pb pt ps pos p0 q0 r0 r1 r2 r3 r4 apos pr:Pos} {kt kt':Nat} (hp1:(apos.endLine == r4.line)=true) (hp2:(q0.endLine == p.line)=true) :
    DenS C (d + 1) env vars (.Return (some (.Call (.Attribute (.Name "EMPTYSTRING" p0) "join" q0) [.GeneratorExp (.Call (.Attribute (.Name "EMPTYSTRING" r0) "join" apos) [.Tuple [.Name "fws" r1,.Name "part" r2] kt' r3] [] r4) [⟨.Tuple [.Name "fws" pa,.Name "part" pb] kt pt,.Name "self" ps,[],0⟩] scope pos] [] p)) pr) accStrS:=by
  intro lc σ fl lc' σ' hf' A Q E s ρ hA R lr kk
  refine oB hf' fun l hself hf'=>oB hf' fun ac hl' hf'=>oG hf' fun hfit e2=>?_
  have hself:=selfL_inv hself
  have hl':=accAt_inv hl'
  rcases ac with ⟨ini,pts⟩
  have hfit:accFits pts=true:=hfit
  unfold accFits at hfit
  rw [Bool.and_eq_true,Bool.and_eq_true,decide_eq_true_eq,decide_eq_true_eq] at hfit
  refine wpAny_Return_some ?_
  refine callJoin H He.out hE hk (by decide) hp2 (fun b o e n=>R.old b o e n) rfl rfl ?_
  refine gen_rel H HC HA HG He GE.tab GE.code GE.coro GE.clos GE.cell GE.zero LS.a LS.b (by decide) LS.kind GE.self (by decide) (hA.mono (by (first | lia | omega))) R lr hself hl' (elt_str H He.out LS hE hfit.1.1 hp1) fun a g o s₅ fp wr St hgz K ho hla hnw hwr hwc W st0 hfp haf hty=>?_
  have W':WalksS C.prog C.w A.in1.in1 a fp wr (GenOnlyQ g) pts.length (fun j y=>∃ p,pts[j]?=some p∧∃ t,y=.str (partStr p) t) St:=W.of_in1.of_in1
  have oks:∀ p∈pts,PyData.strOk p.1=true∧PyData.strOk p.2=true:=x1_2 (R.obj hl') fun pp uu ob=>x4_4 ob fun uu uu uu uu uu uu uu hs=>parts_ok hs
  have hsz:pts.length≤sizeLine:=Nat.le_trans hfit.1.2 (by decide)
  refine SC.joinGen W' hty st0 hfp haf (fun i v h=>by obtain ⟨p,_,t,rfl⟩:=h; exact ⟨_,_,rfl⟩) (fun s' li hm hit=>?_) hsz
  have hli:li.map (·.1)=pts.map partStr:=by
    refine List.ext_getElem? fun i=>?_
    have hz:=hit.1
    rw [List.size_toArray] at hz
    have hz':li.length=pts.length:=by rw [← hz]; simp [strValues]
    by_cases hi:i < pts.length
    · have e1:(strValues li).toArray[i]?=some (.str (li[i]'(by (first | lia | omega))).1 (li[i]'(by (first | lia | omega))).2):=by
        simp [strValues,hz',hi]
      obtain ⟨p,hp,t,e2⟩:=hit.2 i _ e1
      rw [List.getElem?_map,List.getElem?_map,hp,List.getElem?_eq_getElem (by (first | lia | omega))]
      injection e2 with e3 _
      simp [e3]
    · rw [List.getElem?_eq_none (by rw [List.length_map]; (first | lia | omega)),List.getElem?_eq_none (by rw [List.length_map]; (first | lia | omega))]
  rw [hli]
  refine ⟨joinOk_of ?_,fun t' k=>?_⟩
  · have:=partsLen_sum pts
    have h0:(("" : Str)).length=0:=by decide
    rw [h0]
    (first | lia | omega)
  · have K':=K.moved R hm hwr ho hla hnw hgz hwc
    have K1:Kept C s { s' with toks:=k }:=⟨K'.keep,K'.tab,K'.size,K'.gens,K'.gold,K'.drawn,K'.os⟩
    refine kfs kk e2 _ _ ρ (R.kept K1) (K1.step.of_nil) (lr.go K1.step) (.ret (.str _ _ ?_))
    refine strOk_join (by decide +kernel) fun x hx=>?_
    (refine x1_2 (List.mem_map.mp hx) fun q hq rr2=>?_; subst rr2)
    exact strOk_append (oks q hq).1 (oks q hq).2
end
structure SpecOk (C:Cfg) (fl fs ff:Addr):Prop where
  len:findIn C.K (.ref C.ACC) "__len__" = some (some (.ref fl))
  lenF:typeIn C.K (.ref fl)=some (.type "function")
  bool:findIn C.K (.ref C.ACC) "__bool__" = some none
  str:findIn C.K (.ref C.ACC) "__str__" = some (some (.ref fs))
  strF:typeIn C.K (.ref fs)=some (.type "function")
  fstr:findIn C.K (.ref C.VF) "__str__" = some (some (.ref ff))
  fstrF:typeIn C.K (.ref ff)=some (.type "function")
noncomputable abbrev FM:=List AV→St→Option (AV × St)
noncomputable def lenA (LF:FM) (l:Nat) (σ:St):Option (Int × St):=(LF [.loc l] σ).bind fun p=>p.1.int?.bind fun n=>gd (decide (0≤n∧n < 1000000000)) (n,p.2)
noncomputable def lenF (LF:FM):FM:=fun xs σ=>(arg1 xs).bind fun x =>
  (x.str?.bind fun y=>gd (decide (y.length≤1000000)) (AV.int y.length,σ)).or
  ((x.loc?.bind fun l=>(accAt σ l).bind fun _=>(lenA LF l σ).map fun p=>(AV.int p.1,p.2)).or
  ((asList σ x).bind fun ys=>gd (decide (ys.length≤1000000)) (AV.int ys.length,σ)))
section
variable {C:Cfg} {ρ:Rho} {σ:St} {s:Shared} {A:Around} {E:Value→Shared→Prop} {env:Env} {vars:List Str} {lc:Lc} {p p':Pos} {fl fs ff:Addr} {d:Nat}
theorem len_body (H:CfgOk C) (HS:SpecOk C fl fs ff) {LF:FM} (DL:DenCall C d (.ref fl) LF) {l:Nat} {ini:Int} {ps:List (Str × Str)} {n:Int} {σ':St} {v:Value} (hA:AOk C d A) (R:Rel C ρ σ s) (q:VR C ρ s.heap (.loc l) v) (hl:σ[l]?=some (.acc ini ps)) (h:lenA LF l σ=some (n,σ'))
    {Q:Value→Shared→Prop} (k:∀ t s' ρ',Rel C ρ' σ' s'→Step C [] ρ ρ' s.heap s'.heap→Q (.int n t) s'):wpAny (model C.prog C.w) A (Builtin.«len» ⟨[v],[]⟩) (fun fin s'=>∃ v,fin=.done (.ret v)∧Q v s') E s:=by
  refine oB h fun p e h=>oB h fun n' e' h=>oG h fun hb h=>?_
  have hb:=of_decide_eq_true hb
  have en:n'=n:=congrArg (·.1) h
  have k:∀ t s' ρ',Rel C ρ' p.2 s'→Step C [] ρ ρ' s.heap s'.heap→Q (.int n' t) s':=fun t s' ρ' R' S'=>en▸k t s' ρ' ((congrArg (·.2) h:p.2=σ')▸R') S'
  clear h en
  refine R.acc_e hl q fun a dd es n1 n2 vs e0 ho hd he hs=>?_
  unfold Builtin.«len»
  refine wpAny_bind (m:=oneArg "len" _) (wpAny_pure ?_)
  refine wpAny_bind (m:=callSpecial? (.ref a) (Str.ofString "__len__")) ?_
  refine special_fn (R.kin H) (accInst ho hd) HS.len HS.lenF ?_
  refine DL _ _ _ _ e A _ E s ρ [.ref a] hA R (.cons (.loc e0) .nil) fun v s' ρ' R' S' q'=>?_
  refine q'.int_of e' fun t=>?_
  refine wpAny_bind (wpAny_holding (wpAny_pure ?_))
  refine wpAny_bind (wpAny_letGo ?_)
  show wpAny _ _ (if n' < 0 then _ else _) _ _ _
  rw [if_neg (Int.not_lt.mpr hb.1)]
  show wpAny _ _ (if n' ≥ 2 ^ 63 then _ else _) _ _ _
  rw [if_neg (by (first | lia | omega))]
  exact wpAny_bind (wpAny_mkInt (wpAny_pure ⟨_,rfl,k _ _ _ R'.toks S'⟩))
theorem den_len (H:CfgOk C) (HS:SpecOk C fl fs ff) {LF:FM} (DL:DenCall C d (.ref fl) LF):DenCall C (d + 1) (.builtin "len") (lenF LF):=by
  intro xs σ x σ' hf A Q E s ρ vs hA R q k
  refine oB hf fun y e0 hf=>?_
  revert k
  refine q.arg1_e e0 fun v q1 k=>oO hf (fun hf=>oB hf fun z e1 hf=>oG hf fun hz e=>?_) fun hf=>oO hf (fun hf=>oB hf fun l el hf=>oB hf fun ac hl hf=>oM hf fun p e1 e2=>?_) fun hf=>oB hf fun ys e1 hf=>oG hf fun hz e=>?_
  · have hz:=of_decide_eq_true hz
    exact q1.str_of e1 fun t ok=>PyProof.Rows.len_str (by (first | lia | omega)) (kfe k e _ _ ρ R.toks .refl (.int _ _))
  · refine Calls.call_function_entry kind_len plain_len entry_len (args_len1 _) ?_
    exact len_body H HS DL hA.in1 R (AV.loc_inv el▸q1) (accAt_inv hl) e1 fun t s' ρ' R' S'=>kfe k e2 _ s' ρ' R' S' (.int _ _)
  · refine R.asList_e q1 e1 fun a vs n ho hs=>?_
    have hz:=of_decide_eq_true hz
    refine call_len_list (IsL.isList ho) (by rw [List.size_toArray,hs.length]; (first | lia | omega)) ?_
    rw [List.size_toArray,hs.length]
    exact kfe k e _ _ ρ R.toks .refl (.int _ _)
theorem truthyA (H:CfgOk C) (HS:SpecOk C fl fs ff) {LF:FM} (DL:DenCall C d (.ref fl) LF) {l:Nat} {ini:Int} {ps:List (Str × Str)} {n:Int} {σ₂:St} {v:Value} {Q:Bool→Shared→Prop} (hA:AOk C (d + 1) A) (R₁:Rel C ρ σ s) (q₁:VR C ρ s.heap (.loc l) v) (hl:σ[l]?=some (.acc ini ps)) (e2:lenA LF l σ=some (n,σ₂))
    (kk:∀ s' ρ',Rel C ρ' σ₂ s'→Step C [] ρ ρ' s.heap s'.heap→Q (n != 0) s'):wpAny (model C.prog C.w) A (truthy v) Q E s:=by
  refine R₁.acc_e hl q₁ fun a dd es n1 n2 vs e0 ho hd he hs=>?_
  have sp:∀ {nm:Str} {r:Option Value},findIn C.K (.ref C.ACC) nm=some r→Looks (model C.prog C.w) s.heap (specialOf (.ref a) nm) r:=fun e=>(accInst ho hd).type.andThen (looks_findIn (R₁.kin H) e)
  have nb:Looks (model C.prog C.w) s.heap (callSpecial? (.ref a) "__bool__") none:=by
    unfold callSpecial?
    exact (sp HS.bool).andThen .now
  refine wpAny_bind (nb.here (wpAny_bind ((sp HS.len).here ?_)))
  dsimp only [Option.isNone]
  rw [if_neg Bool.false_ne_true]
  refine wpAny_bind (wpAny_runValue (codeAny_builtin entry_len ?_))
  rw [Around.under_plainId plain_len _]
  refine wpAny_mono (len_body H HS DL hA.in1 R₁ (.loc e0) hl e2 (Q:=fun v s'=>∃ t ρ',v=.int n t∧Rel C ρ' σ₂ s'∧Step C [] ρ ρ' s.heap s'.heap) fun t s' ρ' R' S'=>⟨t,ρ',rfl,R',S'⟩) (fun fin s' h'=>?_) fun uu uu z=>z
  refine x1_2 h' fun v ev z=>x2_3 z fun t ρ' e4 R' S'=>?_
  rw [ev,e4]
  exact wpAny_pure (kk s' ρ' R' S')
noncomputable def trA (LF:FM) (f:EM):TM:=fun lc σ=>(f lc σ).bind fun p=>p.1.loc?.bind fun l=>(accAt p.2 l).bind fun _=>(lenA LF l p.2).map fun p=>(p.1 != 0,p.2)
noncomputable def fmtAt?:AO→Bool
  | .fmt ..=>true
  | .list _=>false
  | .acc ..=>false
  | .ghost=>false
  | .gen ..=>false
  | .out _=>false
  | .cell ..=>false
  | .ext ..=>false
noncomputable def isFmt (σ:St) (l:Nat):Option Unit:=σ[l]?.bind fun o=>gd (fmtAt? o) ()
theorem isFmt_inv {σ:St} {l:Nat} {u:Unit} (h:isFmt σ l=some u):∃ ml cw cwl sp ln ac,σ[l]?=some (.fmt ml cw cwl sp ln ac):=oB h fun o e h=>oG h fun z uu=>by
  cases o with
  | fmt ml cw cwl sp ln ac=>exact ⟨ml,cw,cwl,sp,ln,ac,e⟩
  | _=>exact nomatch z
noncomputable def retStr (o:Option (AV × St)):Option (AV × St):=o.bind fun p=>p.1.str?.map fun y=>(AV.str y,p.2)
noncomputable def strF (SF FF:FM):FM:=fun xs σ=>(arg1 xs).bind fun x =>
  (x.str?.map fun y=>(AV.str y,σ)).or
  (x.loc?.bind fun l=>((accAt σ l).bind fun _=>retStr (SF [.loc l] σ)).or ((isFmt σ l).bind fun _=>retStr (FF [.loc l] σ)))
theorem meets_str_newIn {v:Value} {S:PySem.Spec} (hs:∀ (A:Around) (R:Result→Shared→Prop) (s:Shared),S A R s →
      wpAny (model C.prog C.w) A.in1 (Builtin.Str.strOf v) (fun r s'=>R (.ok (.ret r)) s') (fun e s'=>R (.error e) s') s):MeetsIn C.prog C.w (Builtin.«str.__new__» ⟨[.type "str",v],[]⟩) S:=by
  refine MeetsIn.of_wp fun A R s h=>?_
  rw [str_new_tree v]
  refine wpAny_bind (wpAny_pure ?_)
  refine wpAny_bind (wpAny_of_eq isSubtype_str_str ?_)
  exact wpAny_bind (wpAny_mono (hs A R s h) (fun r s' h'=>wpAny_pure ⟨_,rfl,h'⟩) fun uu uu e=>e)
theorem str_inst {a Cl f:Addr} {ox:Obj} {od:Option Obj} (X:C.K.In s.heap) (I:W.InstAt s.heap a ox Cl od) (hf:findIn C.K (.ref Cl) "__str__" = some (some (.ref f))) (ht:typeIn C.K (.ref f)=some (.type "function")) (hu:A.units + 2 < cLine) {Q:Value→Shared→Prop}
    (k:wpAny (model C.prog C.w) A.in1.in1 (call (.ref f) [.ref a]) (fun v s'=>∃ x t,v=.str x t∧Q v s') E s):wpAny (model C.prog C.w) A (call (.type "str") [.ref a]) Q E s:=by
  refine callType_newIn F.called_str (by decide) (F.typeCall_str_1 _) (F.newCall_str_1 _) (fun obj=>F.args_object_init_2 obj _) F.entry_str_new
    (meets_str_newIn (S:=fun A' R s'=>wpAny (model C.prog C.w) A'.in1 (Builtin.Str.strOf (.ref a)) (fun r s'=>R (.ok (.ret r)) s') (fun e s'=>R (.error e) s') s') fun A R s h=>h) ?_
  unfold Builtin.Str.strOf
  rw [if_neg (by simp [Builtin.Str.isExactStr])]
  refine wpAny_bind (wpAny_cRoomFor (by show A.units + 1 + 1 < cLine; (first | lia | omega)) ?_)
  refine wpAny_bind (special_fn X I hf ht (wpAny_mono k (fun v s' h'=>?_) fun uu uu z=>z))
  (refine x2_2 (h') fun x t rr2 hq=>?_; clear h'; subst rr2)
  refine wpAny_bind (wpAny_pure ?_)
  exact wpAny_pure ⟨typeIs_str _ _ _,hq⟩
theorem den_str' (H:CfgOk C) (HS:SpecOk C fl fs ff) {SF FF:FM} (DS:DenCall C d (.ref fs) SF) (DF:DenCall C d (.ref ff) FF):DenCall C (d + 2) (.type "str") (strF SF FF):=by
  intro xs σ x σ' hf A Q E s ρ vs hA R q k
  have hu:A.units + 2 < cLine:=by have:=hA.2.2.1; (first | lia | omega)
  refine oB hf fun y e0 hf=>?_
  revert k
  refine q.arg1_e e0 fun v q1 k=>oO hf (fun hf=>oM hf fun z e1 e=>?_) fun hf=>oB hf fun l el hf=>?_
  · exact q1.str_of e1 fun t ok=>P.str_of_str (kfe k e _ _ ρ R .refl (.str _ _ ok))
  · have q1:=AV.loc_inv el▸q1
    refine oO hf (fun hf=>oB hf fun ac hl hf=>oB hf fun p e1 hf=>oM hf fun z ez e=>?_) fun hf=>oB hf fun u hl hf=>oB hf fun p e1 hf=>oM hf fun z ez e=>?_
    · refine R.acc_e (accAt_inv hl) q1 fun a dd es n1 n2 vs e0 ho hd he hs=>?_
      refine str_inst (R.kin H) (accInst ho hd) HS.str HS.strF hu ?_
      exact DS _ _ _ _ e1 _ _ E s ρ [.ref a] hA.in1.in1 R (.cons (.loc e0) .nil) fun v s' ρ' R' S' q'=>q'.str_of ez fun t ok=>⟨_,_,rfl,kfe k e _ s' ρ' R' S' (.str _ _ ok)⟩
    · refine x6_1 (isFmt_inv hl) fun ml cw cwl sp ln ac hl=>R.fmt_e hl q1 fun a dd es n e0 ho hd he=>?_
      refine str_inst (R.kin H) (fmtInst ho hd) HS.fstr HS.fstrF hu ?_
      exact DF _ _ _ _ e1 _ _ E s ρ [.ref a] hA.in1.in1 R (.cons (.loc e0) .nil) fun v s' ρ' R' S' q'=>q'.str_of ez fun t ok=>⟨_,_,rfl,kfe k e _ s' ρ' R' S' (.str _ _ ok)⟩
end
end Mine.Internal
end
section
open PySem PySem.W PyProof.Rows PySem.Calls Builtin Builtin.ObjectAttr Builtin.Getset_descriptor
namespace Mine.Internal
set_option tactic.hygienic false
theorem pass_list (self:Value):refuseLoop self "__setattr__" [.type "list",.type "object"]=pure ():=by
  unfold refuseLoop
  kernel_rfl
structure StoreOk (C:Cfg) (Cl:Addr):Prop where
  sa:findIn C.K (.ref Cl) "__setattr__" = some (some (.builtin "object.__setattr__"))
  mro:∃ cd,clsIn C.K Cl=some cd∧cd.hasDict=true∧(cd.mro=[.ref Cl,.type "list",.type "object"]∨cd.mro=[.ref Cl,.type "object"])
section
variable {C:Cfg} {ρ:Rho} {σ:St} {s:Shared} {A:Around} {E:Value→Shared→Prop} {x Cl dx:Addr} {ox:Obj} {R:Result→Shared→Prop}
set_option tactic.hygienic true
theorem osa_any {es:List DictEntry} {n:Nat} {name:Str} {tk:Tok} {v:Value} (H:StoreOk C Cl) (X:C.K.In s.heap) (I:W.InstAt s.heap x ox Cl (some (dictOf es n))) (hd:ox.dict=some dx) (hD:s.heap.get? dx=some (dictOf es n)) (ht:takerIn C.K Cl name=some none)
    (hl:(getL name es).isSome=true) (hz:(W.putL name (PyData.keyHash C.w.params name) (.str name s.toks) v es).length≤1000)
    (k:∀ h',Heap.SameBut dx s.heap h'→h'.get? dx=some (dictOf (W.putL name (PyData.keyHash C.w.params name) (.str name s.toks) v es) (putN name es n))→R (.ok (.ret .none)) { s with heap:=h',toks:=s.toks + 1 }) :
    codeAny (model C.prog C.w) A (.call (.builtin "object.__setattr__") ⟨[.ref x,.str name tk,v],[]⟩) R s:=by
  have SF:=PySem.F.store_object
  (refine x1_3 (H.mro) fun cd hc hhd hmro=>?_)
  have sub:Looks (model C.prog C.w) s.heap (isInstance (.ref x) (.type "object")) true:=I.type.andThen (looks_mroIn X (by unfold mroIn; rw [hc,Option.bind_some]; rcases hmro with e | e <;> rw [e] <;> rfl))
  refine codeAny_call_builtin SF.slot.plain SF.entry (@check_slot (model C.prog C.w) _ _ s "object.__setattr__" "object" "__setattr__" (.ref x) [.str name tk,v] [] _ SF.kind SF.split sub (SF.args (.ref x) (.str name tk) v) ?_)
  (refine x1_2 (Option.bind_eq_some_iff.mp ht) fun attr ha hr=>?_)
  have hm:Looks (model C.prog C.w) s.heap (mroOf (.ref Cl)) cd.mro:=(looks_clsIn X hc).andThen .now
  have L3:Looks (model C.prog C.w) s.heap (storeTaker? attr) none:=by
    cases attr with
    | none=>exact .now
    | some a =>
      (refine x1_2 (Option.map_eq_some_iff.mp hr) fun b hb hr'=>?_)
      refine (looks_takesIn X hb).andThen ?_
      cases b
      · exact .now
      · cases hr'
  rw [osa_eq,refuse_eq]
  refine wpAny_bind (wpAny_bind (I.type.here (wpAny_bind (hm.here ?_))))
  have pass:refuseLoop (.ref x) "__setattr__" cd.mro=pure ():=by
    rcases hmro with e | e
    · rw [e,refuseLoop_ref]; exact pass_list _
    · rw [e,refuseLoop_ref]; exact SF.passes _
  rw [pass]
  refine wpAny_pure (wpAny_bind (I.type.here (wpAny_bind ((looks_findIn X ha).here (wpAny_bind (L3.here ?_))))))
  have hsb:=Heap.SameBut.update s.heap dx (Obj.putName name (PyData.keyHash C.w.params name) (.str name s.toks) v)
  have D':(s.heap.update dx (Obj.putName name (PyData.keyHash C.w.params name) (.str name s.toks) v)).get? dx=some (dictOf (W.putL name (PyData.keyHash C.w.params name) (.str name s.toks) v es) (putN name es n)):=by
    rw [Heap.get?_update_self _ hD (by rw [putName_dict]; rfl),putName_dict]
  obtain ⟨hx,hcl,hn,-⟩:=I
  obtain ⟨oc,odi,oda,osl⟩:=ox
  dsimp only at hcl hd
  subst hcl hd
  refine wpAny_bind (wpAny_pure (wpAny_bind (wpAny_bind (wpAny_loadPart hx (wpAny_bind ((looks_clsIn X hc).here ?_))))))
  rw [hhd]
  refine wpAny_pure (a:=some dx) (wpAny_bind (wpAny_pure (wpAny_bind ?_)))
  unfold nsSet
  refine wpAny_bind (wpAny_bind (wpAny_askSetting (wpAny_pure (wpAny_bind (wpAny_mkText (wpAny_bind (wpAny_loadPart hD ?_)))))))
  dsimp only [dictOf]
  have c:(!es.toArray.any (·.key.isStr name) && es.toArray.any (·.refKey))=false:=by
    unfold getL at hl
    rw [← Array.any_toList,← Array.any_toList]
    split at hl
    · rename_i en he
      rw [List.any_eq_true.mpr ⟨en,List.mem_of_find?_eq_some he,List.find?_some he⟩]; rfl
    · split at hl
      · cases hl
      · rename_i z; rw [Bool.not_eq_true] at z; rw [z,Bool.and_false]
  rw [aRefKeyMayBeTheName_at,c]
  refine wpAny_updatePart hD ?_
  refine wpAny_bind (wpAny_lookBehind D' (pastItsLine_dict (by rw [List.size_toArray,sizeLine_eq]; (first | lia | omega))) ?_)
  exact wpAny_pure (k _ hsb D')
set_option tactic.hygienic false
theorem set_any {es:List DictEntry} {n:Nat} {name:Str} {v:Value} {Q:Unit→Shared→Prop} (H:StoreOk C Cl) (X:C.K.In s.heap) (I:W.InstAt s.heap x ox Cl (some (dictOf es n))) (hd:ox.dict=some dx) (hD:s.heap.get? dx=some (dictOf es n)) (ht:takerIn C.K Cl name=some none)
    (hl:(getL name es).isSome=true) (hz:(W.putL name (PyData.keyHash C.w.params name) (.str name (s.toks + 1)) v es).length≤1000)
    (k:∀ h',Heap.SameBut dx s.heap h'→h'.get? dx=some (dictOf (W.putL name (PyData.keyHash C.w.params name) (.str name (s.toks + 1)) v es) (putN name es n))→Q () { s with heap:=h',toks:=s.toks + 2 }) :
    wpAny (model C.prog C.w) A (setAttr (.ref x) name v) Q E s :=
  set_plain X I H.sa (osa_any (s:={ s with toks:=s.toks + 1 }) H X I hd hD ht hl hz fun h' a b=>k h' a b)
end
noncomputable def iniS (g f:EM):SM:=fun lc σ=>(f lc σ).bind fun p=>p.1.int?.bind fun i=>(g lc p.2).bind fun q=>q.1.loc?.bind fun l=>(accAt q.2 l).map fun a=>(.next,lc,q.2.set l (.acc i a.2))
section
variable {C:Cfg} {ρ:Rho} {σ:St} {s:Shared} {A:Around} {E:Value→Shared→Prop} {env:Env} {vars:List Str} {lc:Lc} {p p':Pos} {d:Nat}
theorem ini_put {h:Heap} {ini i:Int} {es:List DictEntry} {v t:Value} {tk:Tok} {hsh:Int} (he:EntR C ρ h (accAttrs ini) es) (q:VR C ρ h (.int i) v):(getL "_initial_size" es).isSome=true∧EntR C ρ h (accAttrs i) (W.putL "_initial_size" hsh t v es)∧(W.putL "_initial_size" hsh t v es).length≤1000:=by
  unfold accAttrs at he ⊢
  cases he with | @cons k x tt w r es' a b =>
  cases b
  have e:(Value.str ("_initial_size" : Str) tt).isStr "_initial_size" = true:=by simp [Value.isStr]
  refine ⟨?_,?_,?_⟩
  · unfold getL
    rw [List.find?_cons_of_pos (by exact e)]
    rfl
  · unfold W.putL
    dsimp only
    rw [if_pos e]
    exact .cons q .nil
  · unfold W.putL
    dsimp only
    rw [if_pos e]
    simp
set_option tactic.hygienic true
theorem den_ini (H:CfgOk C) (HS:StoreOk C C.ACC) (ht:takerIn C.K C.ACC "_initial_size" = some none) {o e:Expr} {g f:EM} (D0:DenE C d env vars o g) (D:DenE C d env vars e f) (hs:swapsWith e (some (.Attribute o "_initial_size" p')) p.line env=pure false) :
    DenS C d env vars (.Assign [.Attribute o "_initial_size" p'] e p) (iniS g f):=by
  intro lc σ fl lc' σ' hf A Q E s ρ hA R lr kk
  refine oB hf fun y e1 hf=>oB hf fun i ei hf=>oB hf fun z e2 hf=>oB hf fun l el hf=>oM hf fun ac hl e3=>?_
  refine plainObj_wpAny_Assign_Attribute (D _ _ _ _ e1 A _ E s ρ hA R lr fun v s₁ ρ₁ R₁ S₁ q₁=>D0 _ _ _ _ e2 A _ E s₁ ρ₁ hA R₁ (lr.go S₁) fun ov s₂ ρ₂ R₂ S₂ q₂=>?_) hs
  have q₂:VR C ρ₂ s₂.heap (.loc l) ov:=AV.loc_inv el▸q₂
  have q₁:VR C ρ₁ s₁.heap (.int i) v:=AV.int_inv ei▸q₁
  refine R₂.acc_e (accAt_inv hl) q₂ fun a dd es n1 n2 vs e0 ho hd he hs=>?_
  have P:=ini_put (t:=.str "_initial_size" (s₂.toks + 1)) (tk:=0) (hsh:=PyData.keyHash C.w.params "_initial_size") he (q₁.go S₂)
  refine set_any HS (R₂.kin H) (accInst ho hd) rfl hd ht P.1 P.2.2 fun h' hsb hd'=>?_
  have S:Step C [] ρ₂ ρ₂ s₂.heap h':=stepMut (.inr ⟨_,List.mem_of_getElem? e0,.inr rfl⟩) hsb
  have hne:a≠dd:=(accNe ho hd).symm
  (refine x0_2 (R₂.upd (n:=s₂.toks + 2) e0 (.inr rfl) hsb (.acc ((hsb.2 _ hne).trans ho) hd' (P.2.1.go S) (hs.go S)) rfl) fun R' S'=>?_)
  exact kfs kk e3 _ _ ρ₂ R' ((S₁.trans S₂).trans S').of_nil (lr.go ((S₁.trans S₂).trans S')) .next
end
end Mine.Internal
end
section
open PySem PySem.W PyProof.Rows PySem.Calls
namespace Mine.Internal
structure AccMake (C:Cfg) (fI:Addr):Prop where
  obj:∃ oc od cd sl,C.K.lookup C.ACC=some ⟨oc,od,.cls cd,sl⟩∧cd.hasDel=false∧(sl.toList[4]?).join=some (.builtin "list.__new__")∧cd.mro=[.ref C.ACC,.type "list",.type "object"]
  call:specialIn C.K (.ref C.ACC) "__call__" = some (some (.builtin "type.__call__"))
  typ:instIn C.K (.ref C.ACC) (.type "type")=some true
  init:findIn C.K (.ref C.ACC) "__init__" = some (some (.ref fI))
  initF:typeIn C.K (.ref fI)=some (.type "function")
set_option tactic.hygienic false
theorem ln_args (a v:Value):argsOk "list.__new__" ⟨[a,v],[]⟩:=by unfold argsOk; kernel_rfl
theorem ln_kind:builtinKind "list.__new__" = some .builtinFn:=by decide +kernel
theorem ln_split:splitId "list.__new__" = some ("list", "__new__"):=by decide +kernel
noncomputable abbrev accObj0 (C:Cfg) (dx:Addr):Obj:=⟨.ref C.ACC,some dx,.seq #[] 0,#[]⟩
section
variable {C:Cfg} {A:Around} {R:Result→Shared→Prop} {h:Heap} {g:Array GenState} {d:Drawn} {t:Nat} {os:OsState} {fI:Addr}
theorem acc_looks (H:AccMake C fI) (X:C.K.In h):∃ cd,clsIn C.K C.ACC=some cd∧cd.hasDel=false∧Looks (model C.prog C.w) h (mroOf (.ref C.ACC)) [.ref C.ACC,.type "list",.type "object"]∧Looks (model C.prog C.w) h (Bind.madeBy (.ref C.ACC)) (some "list.__new__")∧Looks (model C.prog C.w) h (Bind.staticBase (.ref C.ACC)) (.ref C.ACC) ∧
    Looks (model C.prog C.w) h (isSubtype (.ref C.ACC) (.ref C.ACC)) true∧Looks (model C.prog C.w) h (isSubtype (.ref C.ACC) (.type "list")) true:=by
  (refine x4_4 (H.obj) fun oc od cd sl ho e2 e3 hl=>?_)
  have hc:clsIn C.K C.ACC=some cd:=by unfold clsIn; rw [ho]
  have hm:Looks (model C.prog C.w) h (mroOf (.ref C.ACC)) cd.mro:=(looks_clsIn X hc).andThen .now
  rw [hl] at hm
  have made:Looks (model C.prog C.w) h (Bind.madeBy (.ref C.ACC)) (some "list.__new__"):=by
    intro A Q E s k q
    unfold Bind.madeBy
    refine wpAny_bind (hm A _ E s k ?_)
    rw [List.forIn_cons]
    refine wpAny_bind (wpAny_bind (wpAny_bind (wpAny_bind (wpAny_loadPart (k _ _ (X _ _ ho)) (wpAny_pure ?_)))))
    dsimp only
    rw [← Array.getElem?_toList,e3]
    exact wpAny_pure (wpAny_pure (wpAny_pure q))
  refine ⟨cd,hc,e2,hm,made,?_,looks_mroIn X ?_,looks_mroIn X ?_⟩
  · intro A Q E s k q
    unfold Bind.staticBase
    refine wpAny_bind (hm A _ E s k ?_)
    rw [List.forIn_cons]
    exact wpAny_bind (wpAny_bind (wpAny_bind (made A _ E s k (wpAny_pure (wpAny_pure (wpAny_pure q))))))
  · unfold mroIn; rw [hc,Option.bind_some,hl]; simp
  · unfold mroIn; rw [hc,Option.bind_some,hl]; simp
set_option tactic.hygienic true
theorem acc_new (H:AccMake C fI) (X:C.K.In h) {v:Value} (hq:R (.ok (.ret (.ref (h.objs.size + 1)))) ⟨(h.push emptyDict).push (accObj0 C h.objs.size),g,d,t,os⟩) :
    codeAny (model C.prog C.w) A (.call (.builtin "list.__new__") ⟨[.ref C.ACC,v],[]⟩) R ⟨h,g,d,t,os⟩:=by
  (refine x1_7 (acc_looks H X) fun cd hc hdel hm made base self top=>?_)
  obtain ⟨oD,hD1,hD2⟩:∃ oD,h.get? C.ACC=some oD∧oD.data=.cls cd:=by
    have hD:=hc
    unfold clsIn at hD
    split at hD
    · rename_i ho; cases hD; exact ⟨_,X _ _ ho,rfl⟩
    · exact ns hD
  refine codeAny_of_tree ?_
  show wpAny _ A.in1 (do checkBuiltinCall "list.__new__" ⟨[.ref C.ACC,v],[]⟩; again (.builtin "list.__new__" ⟨[.ref C.ACC,v],[]⟩)) _ _ _
  refine wpAny_bind ?_
  have ha:=ln_args (.ref C.ACC) v
  simp only [checkBuiltinCall,ln_kind,ln_split]
  rw [if_pos (by decide)]
  refine wpAny_bind (ks_wpAny_isType_cls hD1 hD2 ?_)
  rw [if_neg (by decide)]
  refine wpAny_bind (top.at ?_)
  rw [if_neg (by decide)]
  refine wpAny_bind (base.at (wpAny_bind (made.at ?_)))
  dsimp only
  rw [if_neg (by decide +kernel)]
  have goOn:wpAny (model C.prog C.w) A.in1 (again (.builtin "list.__new__" ⟨[.ref C.ACC,v],[]⟩)) (fun fin s'=>match fin with | .done f=>R (.ok f) s' | .again c'=>c'.quiet=true∧codeAny (model C.prog C.w) A c' R s') (fun e s'=>R (.error e) s') ⟨h,g,d,t,os⟩:=by
    refine wpAny_pure ⟨plainId_quiet F.plain_list_new _,codeAny_builtin_stack F.entry_list_new rfl fun p st=>?_⟩
    rw [Around.under_plainId F.plain_list_new _]
    dsimp only
    rw [owner_list_new]
    refine wpAny_bind (ks_wpAny_isType_cls hD1 hD2 ?_)
    rw [if_neg (by decide)]
    refine wpAny_bind (top.at ?_)
    rw [if_neg (by decide)]
    refine wpAny_bind (wpAny_pure ?_)
    rw [if_neg (show ¬ (!typeHasDict (Value.ref C.ACC))=true from Bool.false_ne_true)]
    refine wpAny_bind (wpAny_newObj_type ?_ (by size_fits))
    dsimp only
    refine wpAny_bind ?_
    show wpAny _ _ (newObjAsIs _ _ _) _ _ _
    unfold newObjAsIs classHasDel
    refine wpAny_bind (wpAny_alloc (wpAny_bind (wpAny_bind (wpAny_load (Heap.get?_push_of_some _ (Heap.get?_push_of_some _ hD1)) ?_))))
    rw [hD2]
    refine wpAny_pure ?_
    rw [hdel]
    refine wpAny_pure (wpAny_pure ?_)
    show R _ _
    rw [Heap.size_push]
    exact hq
  cases hsig:Manifest.signature? "list.__new__" with
  | none=>exact wpAny_pure goOn
  | some sig =>
    simp only [argsOk,hsig] at ha
    have h2:Bind.checkArgs "list.__new__" sig ⟨[.ref C.ACC,v],[]⟩=pure ():=ha
    show wpAny _ _ (Bind.checkArgs "list.__new__" sig ⟨[.ref C.ACC,v],[]⟩) _ _ _
    rw [h2]; exact wpAny_pure goOn
set_option tactic.hygienic false
theorem acc_make (H:AccMake C fI) (X:C.K.In h) {v:Value}
    (hq:codeAny (model C.prog C.w) (A.under (.builtin "type.__call__" ⟨[.ref C.ACC,v],[]⟩)) (.call (.ref fI) ⟨[.ref (h.objs.size + 1),v],[]⟩) (InitBack (h.objs.size + 1) R) ⟨(h.push emptyDict).push (accObj0 C h.objs.size),g,d,t,os⟩) :
    codeAny (model C.prog C.w) A (.call (.ref C.ACC) ⟨[v],[]⟩) R ⟨h,g,d,t,os⟩:=by
  (refine x1_7 (acc_looks H X) fun cd hc hdel hm made base self top=>?_)
  obtain ⟨oc,od,cd',sl,hK,-,-,-⟩:=H.obj
  have hC:=X _ _ hK
  have call:=looks_specialIn (M:=model C.prog C.w) X H.call
  have typ:=looks_instIn (M:=model C.prog C.w) X H.typ
  refine codeAny_of_tree ?_
  show wpAny _ _ (callAny (.ref C.ACC) _) _ _ _
  refine nd_load hC ?_
  show wpAny _ _ (callAny.viaDunder (.ref C.ACC) _) _ _ _
  unfold callAny.viaDunder
  refine wpAny_bind (call.at ?_)
  dsimp only
  rw [tc_bind]
  refine wpAny_bind (wpAny_pure (wpAny_bind (wpAny_pure ?_)))
  refine wpAny_pure (a:=Fin.again (.call (.builtin "type.__call__") ⟨[.ref C.ACC,v],[]⟩)) (And.intro rfl ?_)
  refine codeAny_call_builtin_at (Code.quiet_builtin _ (by decide +kernel)) entry_typeCall (check_slot tc_kind tc_split typ (tc_args _ _ _) ?_)
  unfold Builtin.«type.__call__»
  repeat (first | simp only [List.isEmpty_cons,Bool.false_eq_true,if_false] | with_reducible refine wpAny_call ?_ | lk)
  refine acc_new H X ?_
  have k:∀ b o,h.get? b=some o→((h.push emptyDict).push (accObj0 C h.objs.size)).get? b=some o:=fun b o e=>Heap.get?_push_of_some _ (Heap.get?_push_of_some _ e)
  have hx:((h.push emptyDict).push (accObj0 C h.objs.size)).get? (h.objs.size + 1)=some (accObj0 C h.objs.size):=by heap_get
  have t1:Looks (model C.prog C.w) ((h.push emptyDict).push (accObj0 C h.objs.size)) (typeOf (.ref (h.objs.size + 1))) (.ref C.ACC):=(Looks.ld hx).andThen .now
  have s1:=self.keeps k
  have i1:=(looks_findIn (M:=model C.prog C.w) X H.init).keeps k
  have b1:=(bind_fn (M:=model C.prog C.w) X (.ref (h.objs.size + 1)) H.initF).keeps k
  unfold isInstance callSpecial? specialOf
  repeat (first | with_reducible refine wpAny_call ?_ | lk)
  refine codeAny_mono hq fun r s' z=>?_
  rcases r with e | (v | _ | _ | _) <;> first | exact z | exact z.elim | skip
  obtain ⟨rfl,z⟩:=z
  exact wpAny_pure (wpAny_pure z)
end
section
variable {C:Cfg} {ρ:Rho} {σ:St} {s:Shared} {A:Around} {E:Value→Shared→Prop} {env:Env} {vars:List Str} {lc:Lc} {body:List Stmt} {p p':Pos} {d:Nat}
theorem init_any {a:Addr} {c:Value} {dd:Option Addr} {items:Array Value} {n:Nat} {sl:Array (Option Value)} {Q:Fin→Shared→Prop} (ho:s.heap.get? a=some ⟨c,dd,.seq items n,sl⟩) (hz:items.size≤sizeLine)
    (k:Q (.done (.ret .none)) { s with heap:=s.heap.update a (Obj.mapSeq fun uu=>#[]) }):wpAny (model C.prog C.w) A (Builtin.«list.__init__» ⟨[.ref a],[]⟩) Q E s:=by
  obtain ⟨hp,g,dr,tk,os⟩:=s
  have hz':((fun _:Array Value=>(#[]:Array Value)) items).size≤sizeLine + 1:=Nat.zero_le _
  wp_walk using (wpAny_updateSeq ho rfl (hz:=hz) (_hz':=hz')),wpAny_loadPart' ho
  exact k
noncomputable def superInitS:SM:=fun lc σ=>(selfL lc).bind fun l=>(accAt σ l).bind fun a=>gd (decide (a.2.length≤sizeLine)) (.next,lc,σ.set l (.acc a.1 []))
set_option tactic.hygienic true
theorem den_superInit {d:Nat} (H:CfgOk C) (HC:ClsOk C) (He:EnvOk env vars) (HS:SupCls C) (SO:SupOk C env vars) {p0 p1 apos p pr:Pos} (hf:alongIn C.K "__init__" [.type "list",.type "object"]=some (some (.builtin "list.__init__"))) (hp:(apos.endLine == p.line)=true) (hi:interactive env=false)
    (hs:swapsWith (.Call (.Attribute (.Call (.Name "super" p0) [] [] p1) "__init__" apos) [] [] p) none pr.line env=pure false) :
    DenSAt C d env vars body (.Expr (.Call (.Attribute (.Call (.Name "super" p0) [] [] p1) "__init__" apos) [] [] p) pr) superInitS:=by
  intro lc σ fl lc' σ' hf' A Q E s ρ hA R lr kk
  refine oB hf' fun l hself hf'=>oB hf' fun ac hl hf'=>oG hf' fun hz e2=>?_
  have hl:=accAt_inv hl
  refine ks_wpAt_Expr_any (super_call H HC He HS SO sup_init (by decide) hf hp (by decide +kernel) F.entry_list_init R lr (selfL_inv hself) hl (fun uu uu uu q=>by rw [sig_init]; exact wpAny_pure q) fun a dd s' e0 R' S'=>?_) hi hs
  refine R'.acc_at e0 hl fun es n n' vs ho hd he hs=>?_
  refine init_any ho (by rw [List.size_toArray,hs.length,List.length_map]; exact of_decide_eq_true hz) ⟨_,rfl,?_⟩
  have hsb:=Heap.SameBut.update s'.heap a (Obj.mapSeq fun uu=>#[])
  have S:Step C [] ρ ρ s'.heap (s'.heap.update a (Obj.mapSeq fun uu=>#[])):=stepMut (.inr ⟨_,List.mem_of_getElem? e0,.inl rfl⟩) hsb
  exact x0_2 (R'.upd (n:=s'.toks) e0 (.inl rfl) hsb (.acc (vs:=[]) (parts:=[]) (mapSeq_at ho (fun uu=>#[])) ((hsb.2 _ (accNe ho hd)).trans hd) (he.go S) .nil) rfl) fun R'' S''=>kfs kk e2 _ _ _ R'' (S'.trans S'').of_nil (lr.go (S'.trans S'')) .next
end
section
variable {C:Cfg} {ρ ρ':Rho} {σ σ':St} {s:Shared} {L:Addr} {h':Heap}
theorem dict_noSeq {h:Heap} {es:List DictEntry} {n:Nat} (hD:h.get? L=some (dictOf es n)):∀ a o vs k,a∈[L]→h.get? a=some o→o.data≠.seq vs k:=one_noSeq hD fun uu uu=>Data.noConfusion
theorem Rel.writeD (R:Rel C ρ σ s) {es:List DictEntry} {k:Nat} (hD:s.heap.get? L=some (dictOf es k)) (hm:¬ Mut C ρ L) (hl:C.s₁.heap.objs.size≤L) (hs:Heap.SameBut L s.heap h') {n:Nat}:Rel C ρ σ { s with heap:=h',toks:=n } :=
  R.writeX hD (fun uu=>Data.noConfusion) (fun uu uu=>Data.noConfusion) hm hl hs
theorem EntR.snoc {h:Heap} {k:Str} {x:AV} {t:Tok} {v:Value}:∀ {r:List (Str × AV)} {es:List DictEntry},EntR C ρ h r es→VR C ρ h x v→EntR C ρ h (r++[(k,x)]) (es++[⟨PyData.keyHash C.w.params k,.str k t,v⟩]):=by
  intro r es q a
  induction q with
  | nil=>exact .cons a .nil
  | cons b _ ih=>exact .cons b ih
theorem EntR.length {h:Heap}:∀ {r:List (Str × AV)} {es:List DictEntry},EntR C ρ h r es→es.length=r.length:=fun q=>q.rec (motive:=fun r es uu=>es.length=r.length) rfl fun uu uu ih=>congrArg (· + 1) ih
set_option tactic.hygienic true
theorem putL_new {name:Str} {hsh:Int} {key v:Value}:∀ {es:List DictEntry},getL name es=some none→W.putL name hsh key v es=es++[⟨hsh,key,v⟩]
  | [],_=>rfl
  | e :: es,h=>by
    unfold getL at h
    rw [List.find?_cons] at h
    split at h
    · rename_i q; split at q
      · cases h
      · rename_i hne
        cases h
    · rename_i q
      split at q
      · cases q
      · rename_i hne
        unfold W.putL
        rw [if_neg (by rw [hne]; exact Bool.false_ne_true)]
        have:getL name es=some none:=by
          unfold getL
          rw [q]
          dsimp only
          split at h
          · exact ns h
          · rename_i z
            rw [List.any_cons] at z
            rw [if_neg]
            intro y
            exact z (by rw [y,Bool.or_true])
        rw [putL_new this]
        rfl
structure Pend (C:Cfg) (ρ:Rho) (σ:St) (s:Shared) (L:Addr) (vars:List Str) (lc:Lc) (x dx Cl:Addr) (ox:Obj) (attrs:List (Str × AV)):Prop where
  rel:Rel C ρ σ s
  lc:LcR C ρ s.heap L vars lc
  self:∃ m,s.heap.Ns L m∧m "self" = some (.ref x)
  ho:s.heap.get? x=some ox
  hd:∃ es n,s.heap.get? dx=some (dictOf es n)∧EntR C ρ s.heap attrs es
  nx:¬ Mut C ρ x
  nd:¬ Mut C ρ dx
  lx:C.s₁.heap.objs.size≤x
  ld:C.s₁.heap.objs.size≤dx
  cls:ox.cls=.ref Cl
  no:notCls ox=true
  dict:ox.dict=some dx
  ne:x≠dx
  nL:L≠dx
set_option tactic.hygienic false
theorem Pend.go {vars:List Str} {lc:Lc} {x dx Cl:Addr} {ox:Obj} {attrs:List (Str × AV)} {s':Shared} (P:Pend C ρ σ s L vars lc x dx Cl ox attrs) (R:Rel C ρ' σ' s') (S:Step C [] ρ ρ' s.heap s'.heap):Pend C ρ' σ' s' L vars lc x dx Cl ox attrs:=by
  (refine x2_2 (P.hd) fun es n hD he=>?_)
  (refine x1_2 (P.self) fun m hm hs=>?_)
  exact ⟨R,P.lc.go S,⟨m,hm.at fun o e=>S.keep _ _ e P.lc.2.1 (by simp),hs⟩,S.keep _ _ P.ho P.nx (by simp),⟨es,n,S.keep _ _ hD P.nd (by simp),he.go S⟩,Mut.grow S (Heap.lt_size P.ho) P.nx,Mut.grow S (Heap.lt_size hD) P.nd,P.lx,P.ld,P.cls,P.no,P.dict,P.ne,P.nL⟩
end
section
variable {C:Cfg} {ρ ρ':Rho} {σ σ':St} {s:Shared} {A:Around} {E:Value→Shared→Prop} {env:Env} {vars:List Str} {lc:Lc} {x dx Cl:Addr} {ox:Obj} {attrs:List (Str × AV)} {d:Nat}
set_option tactic.hygienic true
theorem init_step (H:CfgOk C) (He:EnvOk env vars) (HS:StoreOk C Cl) {name:Str} (ht:takerIn C.K Cl name=some none) {e:Expr} {f:EM} (D:DenE C d env vars e f) {y:AV} (hf:f lc σ=some (y,σ')) (hn:attrs.lookup name=none) (hlen:attrs.length≤100) (hself:env.kindOf "self" = some .local)
    (hA:AOk C d A) (P:Pend C ρ σ s env.locals vars lc x dx Cl ox attrs) {p0 p1 p2:Pos} (hs:swapsWith e (some (.Attribute (.Name "self" p0) name p1)) p2.line env=pure false) {Q:Flow→Shared→Prop}
    (k:∀ s' ρ',Pend C ρ' σ' s' env.locals vars lc x dx Cl ox (attrs++[(name,y)])→Step C [dx] ρ ρ' s.heap s'.heap→Q .next s'):wpAny (model C.prog C.w) A (exec (.Assign [.Attribute (.Name "self" p0) name p1] e p2) env) Q E s:=by
  refine plainObj_wpAny_Assign_Attribute (D _ _ _ _ hf A _ E s ρ hA P.rel P.lc fun v s₁ ρ₁ R₁ S₁ q₁=>?_) hs
  have P₁:=P.go R₁ S₁
  (refine x2_2 (P₁.hd) fun es n hD he=>?_)
  (refine x1_2 (P₁.self) fun m hm hms=>?_)
  refine lname He.out hself hm hms (by decide) ?_
  have ge:=entR_get (name:=name) he
  rw [hn] at ge
  have pe:=putL_new (hsh:=PyData.keyHash C.w.params name) (key:=.str name (s₁.toks + 1)) (v:=v) ge
  refine set_any HS (R₁.kin H) ⟨P₁.ho,P₁.cls,P₁.no,by rw [P₁.dict]; exact hD⟩ P₁.dict hD ht (by rw [ge]; rfl) (by rw [pe,List.length_append,he.length]; show attrs.length + 1≤1000; (first | lia | omega)) fun h' hsb hd'=>?_
  rw [pe] at hd'
  have S:Step C [dx] ρ₁ ρ₁ s₁.heap h':=stepWrite hsb
  have W:=dict_noSeq hD
  have lcc:=P₁.lc
  refine k _ ρ₁ ⟨R₁.writeD hD P₁.nd P₁.ld hsb,?_,⟨m,hm.at fun o e=>(hsb.2 _ P.nL).trans e,hms⟩,(hsb.2 _ P.ne).trans P₁.ho,⟨_,_,hd',(he.step S W).snoc (q₁.step S W)⟩,P₁.nx,P₁.nd,P.lx,P.ld,P.cls,P.no,P.dict,P.ne,P.nL⟩ (S₁.of_nil.trans S)
  obtain ⟨⟨m',hn',hv⟩,hm',hl',hz'⟩:=lcc
  refine ⟨⟨m',hn'.at fun o e=>(hsb.2 _ P.nL).trans e,fun i x e=>?_⟩,hm',hl',hz'⟩
  (refine x2_3 (hv i x e) fun n' v' a b c=>?_)
  exact ⟨n',v',a,b,c.step S W⟩
end
section
variable {C:Cfg} {ρ ρ':Rho} {σ σ':St} {s:Shared} {h:Heap} {p:Addr × Addr}
theorem mutSnoc {a:Addr} (n:¬ Mut C ρ a) (h1:a≠p.1) (h2:a≠p.2):¬ Mut C (ρ++[p]) a:=by
  rintro (t | ⟨q,hq,e⟩)
  · exact n (.inl t)
  · rcases List.mem_append.mp hq with hq | hq
    · exact n (.inr ⟨q,hq,e⟩)
    · cases List.mem_singleton.mp hq
      rcases e with e | e
      · exact h1 e.symm
      · exact h2 e.symm
theorem VR.adopt (k:∀ a o,h.get? a=some o→(o.cls=.type "tuple" ∨ o.cls=.type "list")→a≠p.1∧a≠p.2) {x:AV} {v:Value} (q:VR C ρ h x v):VR C (ρ++[p]) h x v :=
  VR.rec (motive_1:=fun x v uu=>VR C (ρ++[p]) h x v) (motive_2:=fun xs vs uu=>VRs C (ρ++[p]) h xs vs) .none (fun b=>.bool b) (fun i t=>.int i t) (fun x t ok=>.str x t ok)
    (fun ho hm uu ih=>.tup ho (mutSnoc hm (k _ _ ho (.inl rfl)).1 (k _ _ ho (.inl rfl)).2) ih) (fun ho hm uu ih=>.lst ho (mutSnoc hm (k _ _ ho (.inr rfl)).1 (k _ _ ho (.inr rfl)).2) ih)
    (fun e=>.loc (by rw [List.getElem?_append_left (List.getElem?_eq_some_iff.mp e).1]; exact e)) .nil (fun uu uu a b=>.cons a b) q
theorem EntR.adopt (k:∀ a o,h.get? a=some o→(o.cls=.type "tuple" ∨ o.cls=.type "list")→a≠p.1∧a≠p.2) {r:List (Str × AV)} {es:List DictEntry} (q:EntR C ρ h r es):EntR C (ρ++[p]) h r es:=q.map (·.adopt k)
theorem Rel.adopt (R:Rel C ρ σ s) {o:AO} (k:∀ a o,s.heap.get? a=some o→(o.cls=.type "tuple" ∨ o.cls=.type "list")→a≠p.1∧a≠p.2) (n1:¬ Mut C ρ p.1) (n2:¬ Mut C ρ p.2) (l1:C.s₁.heap.objs.size≤p.1) (l2:C.s₁.heap.objs.size≤p.2)
    (ho:ObjR C (ρ++[p]) s.heap p o) (ng:o.isGen=false):Rel C (ρ++[p]) (σ++[o]) s:=by
  refine ⟨R.old,R.tab,fun q hq=>?_,?_,by simp [R.len],fun l q o' e e'=>?_,R.gens.snoc R.len ng,R.drawn,R.os,R.size⟩
  · rcases List.mem_append.mp hq with hq | hq
    · exact R.lo q hq
    · cases List.mem_singleton.mp hq; exact ⟨l1,l2⟩
  · refine List.pairwise_append.mpr ⟨R.dis,List.pairwise_singleton ..,fun a ha b hb=>?_⟩
    cases List.mem_singleton.mp hb
    exact ⟨fun z=>n1 (.inr ⟨a,ha,.inl z⟩),fun z=>n2 (.inr ⟨a,ha,.inl z⟩),fun z=>n1 (.inr ⟨a,ha,.inr z⟩),fun z=>n2 (.inr ⟨a,ha,.inr z⟩)⟩
  · by_cases hl:l < ρ.length
    · rw [List.getElem?_append_left hl] at e
      rw [List.getElem?_append_left (R.len▸hl)] at e'
      exact (R.st l q o' e e').move (fun uu z=>z) (fun uu z=>z) (·.adopt k) (fun uu z=>z.grow _) fun uu uu z uu=>z
    · have hl':¬ l < σ.length:=R.len▸hl
      rw [List.getElem?_append_right (Nat.not_lt.mp hl)] at e
      rw [List.getElem?_append_right (Nat.not_lt.mp hl')] at e'
      rw [List.getElem?_singleton] at e e'
      exact sf e fun uu e=>sf e' fun uu e'=>Option.some.inj e▸Option.some.inj e'▸ho
theorem LcR.adopt {L:Addr} {vars:List Str} {lc:Lc} (k:∀ a o,h.get? a=some o→(o.cls=.type "tuple" ∨ o.cls=.type "list")→a≠p.1∧a≠p.2) (n1:L≠p.1) (n2:L≠p.2) (q:LcR C ρ h L vars lc):LcR C (ρ++[p]) h L vars lc:=by
  obtain ⟨⟨m,hn,hv⟩,hm,hl,hz⟩:=q
  refine ⟨⟨m,hn,fun i x e=>?_⟩,mutSnoc hm n1 n2,hl,hz⟩
  (refine x2_3 (hv i x e) fun n v a b c=>?_)
  exact ⟨n,v,a,b,c.adopt k⟩
set_option tactic.hygienic true
theorem LcR.know {L:Addr} {vars:List Str} {lc:Lc} {m:Str→Option Value} {x:AV} {v:Value} {n:Str} (q:LcR C ρ h L vars lc) (hm:h.Ns L m) (hn:vars[0]?=some n) (hv:m n=some v) (qv:VR C ρ h x v):LcR C ρ h L vars (lc.set 0 (some x)):=by
  obtain ⟨⟨m',hn',hv'⟩,hm',hl,hz⟩:=q
  have e:∀ y,m y=m' y:=by
    intro y
    (refine x3_4 (hm) fun o es ep a1 a2 uu a4=>?_; clear hm)
    (refine x3_4 (hn') fun o' es' ep' b1 b2 uu b4=>?_; clear hn')
    rw [a1] at b1; cases b1
    rw [a2] at b2; cases b2
    rw [← a4,← b4]
  refine ⟨⟨m',hn',fun i y ei=>?_⟩,hm',hl,by rw [List.length_set]; exact hz⟩
  rw [List.getElem?_set] at ei
  split at ei
  · rename_i h0
    subst h0
    (refine sf ei ?_; clear ei; intro uu ei)
    cases ei
    exact ⟨n,v,hn,by rw [← e]; exact hv,qv⟩
  · exact hv' i y ei
set_option tactic.hygienic false
theorem pend0 {vr:List Str} {xs:List AV} {vs:List Value} {ox:Obj} {Cl:Addr} {h₁:Heap} {tk:Nat} (R:Rel C ρ σ s) (q:VRs C ρ s.heap xs vs) (hnd:(("self" : Str) :: vr).Nodup) (hlen:vr.length=xs.length) (hcl:ox.cls=.ref Cl) (hno:notCls ox=true) (hdict:ox.dict=some s.heap.objs.size) (hfr:ox.isFreed=false)
    (hns:h₁.Ns (s.heap.objs.size + 2) (fun y=>((("self" : Str) :: vr).zip (.ref (s.heap.objs.size + 1) :: vs)).reverse.lookup y)) (hk:∀ b o,((s.heap.push emptyDict).push ox).get? b=some o→h₁.get? b=some o) (hz:h₁.objs.size=s.heap.objs.size + 3) :
    Pend C ρ σ { s with heap:=h₁,toks:=tk } (s.heap.objs.size + 2) ("self" :: vr) (none :: xs.map some) (s.heap.objs.size + 1) s.heap.objs.size Cl ox []:=by
  have k₁:∀ b o,s.heap.get? b=some o→h₁.get? b=some o:=fun b o e=>hk b o (Heap.get?_push_of_some _ (Heap.get?_push_of_some _ e))
  have S₁:Step C [] ρ ρ s.heap h₁:=.same k₁ (by (first | lia | omega))
  have fr:∀ i,¬ Mut C ρ (s.heap.objs.size + i):=by
    intro i
    rintro (t | ⟨p,hp,e⟩)
    · (refine x1_2 (List.mem_map.mp t) fun y hy e=>?_)
      (refine x1_2 (R.tab y hy) fun m uu ht=>?_)
      have:=Heap.lt_size ht.at_.2
      rw [e] at this
      exact absurd this (Nat.not_lt.mpr (Nat.le_add_right _ _))
    · have:=R.rhoLt hp
      rcases e with e | e
      · rw [e] at this; exact absurd this.1 (Nat.not_lt.mpr (Nat.le_add_right _ _))
      · rw [e] at this; exact absurd this.2 (Nat.not_lt.mpr (Nat.le_add_right _ _))
  have hlv:vs.length=vr.length:=by rw [q.length,hlen]
  have hmap:((("self" : Str) :: vr).zip (.ref (s.heap.objs.size + 1) :: vs)).map (·.1)=("self" : Str) :: vr:=by
    rw [List.map_fst_zip]
    simp [hlv]
  refine ⟨R.same k₁ (by show _≤h₁.objs.size; (first | lia | omega)) R.gens rfl rfl,⟨⟨_,hns,fun i y e=>?_⟩,fr 2,Nat.le_trans R.size (Nat.le_add_right _ _),by simp [hlen]⟩,⟨_,hns,?_⟩,hk _ _ ?_,⟨[],0,hk _ _ ?_,.nil⟩,fr 1,fr 0,Nat.le_trans R.size (Nat.le_add_right _ _),R.size,hcl,hno,hdict,Nat.succ_ne_self _,Nat.ne_of_gt (Nat.lt_add_of_pos_right (by decide))⟩
  · cases i with
    | zero=>cases e
    | succ i =>
      rw [List.getElem?_cons_succ,List.getElem?_map,Option.map_eq_some_iff] at e
      (refine x1_2 (e) fun y' e1 e2=>?_; clear e)
      (refine c1 e2 fun hh0=>?_; clear e2; subst hh0)
      (refine x1_2 (q.get e1) fun v ev qv=>?_)
      have hi:i < vr.length:=by rw [hlen]; exact (List.getElem?_eq_some_iff.mp e1).1
      refine ⟨vr[i],v,by rw [List.getElem?_cons_succ]; exact List.getElem?_eq_getElem hi,?_,qv.go S₁⟩
      refine lookup_rev (by rw [hmap]; exact hnd) (lookup_zip (i:=i + 1) hnd ?_ ?_)
      · rw [List.getElem?_cons_succ]; exact List.getElem?_eq_getElem hi
      · rw [List.getElem?_cons_succ]; exact ev
  · exact lookup_rev (by rw [hmap]; exact hnd) (lookup_zip (i:=0) hnd rfl rfl)
  · have:=Heap.get?_push_size (s.heap.push emptyDict) (o:=ox) hfr
    rw [Heap.size_push] at this
    exact this
  · exact Heap.get?_push_of_some _ (Heap.get?_push_size _ rfl)
theorem makeStep {ρ₁:Rho} {hh h₁ h₂:Heap} (hk:∀ b o,hh.get? b=some o→h₁.get? b=some o) (hz:hh.objs.size≤h₁.objs.size) (S:Step C [hh.objs.size] ρ ρ₁ h₁ h₂):Step C [] ρ (ρ₁++[(hh.objs.size + 1,hh.objs.size)]) hh h₂:=by
  refine ⟨Nat.le_trans hz S.size,fun b o e nm uu=>S.keep b o (hk b o e) nm fun m=>Nat.ne_of_lt (Heap.lt_size e) (List.mem_singleton.mp m),x1_2 S.grow fun δ e1 h1=>⟨δ++[(hh.objs.size + 1,hh.objs.size)],by rw [e1,List.append_assoc],fun p hp=>?_⟩⟩
  rcases List.mem_append.mp hp with hp | hp
  · exact ⟨Nat.le_trans hz (h1 p hp).1,Nat.le_trans hz (h1 p hp).2⟩
  · exact List.mem_singleton.mp hp▸⟨Nat.le_succ _,Nat.le_refl _⟩
end
section
variable {C:Cfg} {ρ ρ':Rho} {σ σ':St} {s:Shared} {A:Around} {E:Value→Shared→Prop} {d:Nat}
theorem fnd_env {f:Addr} {vars:List Str} {m:Nat} {dxs:List AV} {dv:List Value} {body:List Stmt} {fd:FuncData} (H:FnD C f vars m dxs dv body fd) (L:Addr):EnvOk (envF fd f L) vars :=
  ⟨H.kind,H.loc,H.nodup,rfl,rfl⟩
theorem AOk.tc {Cl:Addr} {vals:List Value} (a:AOk C (d + 1) A):AOk C d (A.under (.builtin "type.__call__" ⟨.ref Cl :: vals,[]⟩)):=by
  (refine x0_4 (a) fun a1 a2 a3 a4=>?_; clear a)
  refine ⟨a1,?_,?_,a4.same rfl (Nat.le_add_right _ 1)⟩
  · show A.depth + 1 + d < _; (first | lia | omega)
  · show A.units + 1 + 8 * d < _; (first | lia | omega)
theorem notSeqCls {h:Heap} {x dx Cl:Addr} {ox:Obj} {es:List DictEntry} {n:Nat} (ho:h.get? x=some ox) (hc:ox.cls=.ref Cl) (hd:h.get? dx=some (dictOf es n)):∀ a o,h.get? a=some o→(o.cls=.type "tuple" ∨ o.cls=.type "list")→a≠x∧a≠dx:=by
  intro a o e hcl
  have no:∀ {o':Obj},h.get? a=some o'→(o'.cls=.type "tuple" ∨ o'.cls=.type "list"):=fun e'=>Option.some.inj (e.symm.trans e')▸hcl
  refine ⟨fun z=>?_,fun z=>?_⟩
  · have:=no (z▸ho)
    rw [hc] at this
    exact this.elim Value.noConfusion Value.noConfusion
  · exact (no (z▸hd)).elim (fun z=>absurd z (by simp)) fun z=>absurd z (by simp)
noncomputable def mkAccF:FM:=fun xs σ=>(arg1 xs).bind fun x=>x.int?.map fun i=>(.loc σ.length,σ++[.acc i []])
set_option tactic.hygienic true
theorem den_mkAcc {fI:Addr} {fd:FuncData} {p0 p1 p2 p3 q0 q1 apos q2 q3:Pos} (H:CfgOk C) (HC:ClsOk C) (HS:SupCls C) (HM:AccMake C fI) (HSt:StoreOk C C.ACC) (ht:takerIn C.K C.ACC "_initial_size" = some none)
    (HF:FnD C fI ["self", "initial_size"] 2 [] [] [.Assign [.Attribute (.Name "self" p0) "_initial_size" p1] (.Name "initial_size" p2) p3,.Expr (.Call (.Attribute (.Call (.Name "super" q0) [] [] q1) "__init__" apos) [] [] q2) q3] fd)
    (SO:∀ L,SupOk C (envF fd fI L) ["self", "initial_size"]) (hf:alongIn C.K "__init__" [.type "list",.type "object"]=some (some (.builtin "list.__init__"))) (hp:(apos.endLine == q2.line)=true) (hi:∀ L,interactive (envF fd fI L)=false)
    (hs1:∀ L,swapsWith (.Name "initial_size" p2) (some (.Attribute (.Name "self" p0) "_initial_size" p1)) p3.line (envF fd fI L)=pure false)
    (hs2:∀ L,swapsWith (.Call (.Attribute (.Call (.Name "super" q0) [] [] q1) "__init__" apos) [] [] q2) none q3.line (envF fd fI L)=pure false) :
    DenCall C (d + 2) (.ref C.ACC) mkAccF:=by
  intro xs σ x σ' hf' A Q E s ρ vs hA R q k
  refine oB hf' fun y e0 hf'=>oM hf' fun i ei e9=>?_
  have k:=kfe k e9
  have qs:VRs C ρ s.heap [.int i] vs:=by rw [arg1_inv e0,AV.int_inv ei] at q; exact q
  clear hf' e9
  revert k
  refine qs.one_e fun v qv k=>?_
  have q:VRs C ρ s.heap [.int i] [v]:=.cons qv .nil
  refine wpAny_call (acc_make HM (R.kin H) ?_)
  have old:OldAt C { s with heap:=(s.heap.push emptyDict).push (accObj0 C s.heap.objs.size) }:=fun b o e n=>Heap.get?_push_of_some _ (Heap.get?_push_of_some _ (R.old b o e n))
  have hA1:=hA.tc (Cl:=C.ACC) (vals:=[v])
  have sz2:((s.heap.push emptyDict).push (accObj0 C s.heap.objs.size)).objs.size=s.heap.objs.size + 2:=by rw [Heap.size_push,Heap.size_push]
  refine enterD HF H.lim H.stat old (by have:=hA1.2.1; (first | lia | omega)) rfl fun h₁ tk₁ E' hns hk hz=>?_
  rw [sz2] at hns hz ⊢
  have P:=pend0 (Cl:=C.ACC) (tk:=tk₁) R q (vr:=["initial_size"]) (by decide) rfl (ox:=accObj0 C s.heap.objs.size) rfl rfl rfl rfl hns hk hz
  have He:=fnd_env HF (s.heap.objs.size + 2)
  refine ks_wpAt_execs_cons (wpAt_of_wpAny ?_)
  refine init_step (attrs:=[]) (σ':=σ) (y:=.int i) H He HSt ht (den_name (d:=d) He (i:=1) rfl (by decide)) rfl rfl (by decide) (He.loc _ (by simp)) hA1.deeper P (hs1 _) fun s₁ ρ₁ P₁ S₁=>?_
  (refine x2_2 (P₁.hd) fun es n hD he=>?_)
  have kk:=notSeqCls P₁.ho P₁.cls hD
  have hob:ObjR C (ρ₁++[(s.heap.objs.size + 1,s.heap.objs.size)]) s₁.heap (s.heap.objs.size + 1,s.heap.objs.size) (.acc i []):=.acc (vs:=[]) (parts:=[]) P₁.ho hD (EntR.adopt (p:=(s.heap.objs.size + 1,s.heap.objs.size)) kk he) .nil
  have R₂:=P₁.rel.adopt (p:=(s.heap.objs.size + 1,s.heap.objs.size)) kk P₁.nx P₁.nd P₁.lx P₁.ld hob rfl
  (refine x1_2 (P₁.self) fun m hm hms=>?_)
  have lr₂:=(P₁.lc.adopt (p:=(s.heap.objs.size + 1,s.heap.objs.size)) kk (fun z=>absurd z (Nat.succ_ne_self _)) P.nL).know hm rfl hms (.loc (l:=σ.length) (p:=(s.heap.objs.size + 1,s.heap.objs.size)) (by rw [← P₁.rel.len,List.getElem?_append_right (Nat.le_refl _),Nat.sub_self]; rfl))
  refine ks_wpAt_execs_cons ?_
  refine den_superInit (d:=d) H HC He HS (SO _) hf hp (hi _) (hs2 _) [some (.loc σ.length),some (.int i)] (σ++[.acc i []]) .next [some (.loc σ.length),some (.int i)] (σ++[.acc i []]) ?_ _ _ _ _ _ hA1.deeper R₂ lr₂ fun w s₃ ρ₃ R₃ S₃ _ fr=>?_
  · show ((accAt (σ++[AO.acc i []]) σ.length).bind fun a=>gd (decide (a.2.length≤sizeLine)) (Fl.next,([some (.loc σ.length),some (.int i)]:Lc),(σ++[AO.acc i []]).set σ.length (AO.acc a.1 [])))=_
    rw [accAt_of (σ:=σ++[AO.acc i []]) (i:=i) (ps:=[]) (by rw [List.getElem?_append_right (Nat.le_refl _),Nat.sub_self]; rfl)]
    refine (gd_of (decide_eq_true (Nat.zero_le _))).trans ?_
    rw [List.set_append_right _ _ (Nat.le_refl _),Nat.sub_self]
    rfl
  · cases fr
    refine wpAt_of_wpAny (wpAny_pure ?_)
    refine ⟨rfl,?_⟩
    have e₃:ρ₃[σ.length]?=some (s.heap.objs.size + 1,s.heap.objs.size):=by
      obtain ⟨δ,rfl,_⟩:=S₃.grow
      rw [List.getElem?_append_left (by rw [List.length_append,P₁.rel.len]; exact Nat.lt_succ_self _),← P₁.rel.len,List.getElem?_append_right (Nat.le_refl _),Nat.sub_self]
      rfl
    exact k _ s₃ ρ₃ R₃ (((makeStep (fun b o e=>hk b o (Heap.get?_push_of_some _ (Heap.get?_push_of_some _ e))) (by show s.heap.objs.size≤h₁.objs.size; (first | lia | omega)) S₁).of_nil.trans S₃).above fun b hb=>by cases List.mem_singleton.mp hb; exact Nat.le_add_right _ 2) (.loc e₃)
end
inductive DenI (C:Cfg) (d:Nat) (env:Env) (vars:List Str) (Cl:Addr):List Stmt→List (Str × EM)→Prop
  | nil:DenI C d env vars Cl [] []
  | cons {name:Str} {e:Expr} {f:EM} {r:List Stmt} {fs:List (Str × EM)} {p0 p1 p2:Pos} (ht:takerIn C.K Cl name=some none) (D:DenE C d env vars e f) (hs:swapsWith e (some (.Attribute (.Name "self" p0) name p1)) p2.line env=pure false)
      (b:DenI C d env vars Cl r fs):DenI C d env vars Cl (.Assign [.Attribute (.Name "self" p0) name p1] e p2 :: r) ((name,f) :: fs)
noncomputable def runI:List (Str × EM)→List (Str × AV)→Lc→St→Option (List (Str × AV) × St)
  | [],acc,_,σ=>some (acc,σ)
  | a :: r,acc,lc,σ=>(a.2 lc σ).bind fun p=>if ((acc.lookup a.1).isNone && decide (acc.length≤100))=true then runI r (acc++[(a.1,p.1)]) lc p.2 else none
section
variable {C:Cfg} {ρ ρ':Rho} {σ σ':St} {s:Shared} {A:Around} {E:Value→Shared→Prop} {env:Env} {vars:List Str} {lc:Lc} {x dx Cl:Addr} {ox:Obj} {d:Nat}
set_option tactic.hygienic true
theorem init_block (H:CfgOk C) (He:EnvOk env vars) (HS:StoreOk C Cl) (hself:env.kindOf "self" = some .local) (hA:AOk C d A) {b:List Stmt} {fs:List (Str × EM)} (D:DenI C d env vars Cl b fs) :
    ∀ {attrs attrs':List (Str × AV)} {σ σ':St} {s:Shared} {ρ:Rho} {Q:Flow→Shared→Prop},runI fs attrs lc σ=some (attrs',σ')→Pend C ρ σ s env.locals vars lc x dx Cl ox attrs →
      (∀ s' ρ',Pend C ρ' σ' s' env.locals vars lc x dx Cl ox attrs'→Step C [dx] ρ ρ' s.heap s'.heap→Q .next s')→wpAny (model C.prog C.w) A (execs b env) Q E s:=by
  induction D with
  | nil=>intro attrs attrs' σ σ' s ρ Q hf P k; cases hf; exact wpAny_pure (k _ _ P .refl)
  | @cons name e f r fs p0 p1 p2 ht D hs b ih =>
    intro attrs attrs' σ σ' s ρ Q hf P k
    refine oB hf fun y e1 hf=>sf hf fun hc hf=>?_
    rw [Bool.and_eq_true] at hc
    refine wpAny_execs_cons (init_step H He HS ht D e1 (Option.isNone_iff_eq_none.mp hc.1) (of_decide_eq_true hc.2) hself hA P hs fun s₁ ρ₁ P₁ S₁=>?_)
    exact ih hf P₁ fun s₂ ρ₂ P₂ S₂=>k s₂ ρ₂ P₂ (S₁.trans S₂)
noncomputable def fmtInit (LF:FM):List (Str × EM):=[("_maxlen",nE 2),("_continuation_ws",nE 3),("_continuation_ws_len",callE (lenF LF) [nE 3]),("_splitchars",nE 4),("_lines",newLE []),("_current_line",callE mkAccF [nE 1])]
noncomputable def arg4:List AV→Option (AV × AV × AV × AV)
  | [a,b,c,d]=>some (a,b,c,d)
  | []=>none
  | [_]=>none
  | [_,_]=>none
  | [_,_,_]=>none
  | _ :: _ :: _ :: _ :: _ :: _=>none
set_option tactic.hygienic false
theorem arg4_inv {xs:List AV} {a:AV × AV × AV × AV} (h:arg4 xs=some a):xs=[a.1,a.2.1,a.2.2.1,a.2.2.2]:=match xs,h with
  | [_,_,_,_],h=>congrArg (fun a:AV × AV × AV × AV=>[a.1,a.2.1,a.2.2.1,a.2.2.2]) (Option.some.inj h)
  | [],h=>nomatch h
  | [_],h=>nomatch h
  | [_,_],h=>nomatch h
  | [_,_,_],h=>nomatch h
  | _ :: _ :: _ :: _ :: _ :: _,h=>nomatch h
noncomputable def mkFmtF:FM:=fun xs σ=>(arg4 xs).bind fun a=>a.1.int?.bind fun hl=>a.2.1.int?.bind fun ml=>a.2.2.1.str?.bind fun cw=>a.2.2.2.str?.bind fun sp =>
  gd (decide (cw.length≤1000000)) (.loc (σ.length + 2),σ++[.list [],.acc hl [],.fmt ml cw cw.length sp σ.length (σ.length + 1)])
theorem fmt_run {LF:FM} {hl ml:Int} {cw sp:Str} {σ:St} (hcw:decide (cw.length≤1000000)=true):runI (fmtInit LF) [] [none,some (.int hl),some (.int ml),some (.str cw),some (.str sp)] σ=some (fmtAttrs ml cw cw.length sp σ.length (σ.length + 1),σ++[.list [],.acc hl []]):=by
  have e3:callE (lenF LF) [nE 3] [none,some (.int hl),some (.int ml),some (.str cw),some (.str sp)] σ=some (.int cw.length,σ):=by
    show (gd (decide (cw.length≤1000000)) (AV.int cw.length,σ)).or _=_
    rw [gd_of hcw]
    rfl
  show (callE (lenF LF) [nE 3] [none,some (.int hl),some (.int ml),some (.str cw),some (.str sp)] σ).bind _=_
  rw [e3]
  show some (([("_maxlen",AV.int ml),("_continuation_ws",.str cw),("_continuation_ws_len",.int cw.length),("_splitchars",.str sp),("_lines",.loc σ.length),("_current_line",.loc (σ++[AO.list []]).length)]:List (Str × AV)),(σ++[AO.list []])++[AO.acc hl []])=_
  rw [List.append_assoc,List.length_append]
  rfl
theorem den_mkFmt {fI:Addr} {body:List Stmt} {fd:FuncData} {LF:FM} (H:CfgOk C) (HM:makesIn C.K C.VF=true) (hinit:findIn C.K (.ref C.VF) "__init__" = some (some (.ref fI))) (hfn:typeIn C.K (.ref fI)=some (.type "function")) (HSt:StoreOk C C.VF)
    (HF:FnD C fI ["self", "headerlen", "maxlen", "continuation_ws", "splitchars"] 5 [] [] body fd)
    (D:∀ L,DenI C d (envF fd fI L) ["self", "headerlen", "maxlen", "continuation_ws", "splitchars"] C.VF body (fmtInit LF)) :
    DenCall C (d + 2) (.ref C.VF) mkFmtF:=by
  intro xs σ x σ' hf' A Q E s ρ vs hA R q k
  refine oB hf' fun ag e0 hf'=>oB hf' fun hl e1 hf'=>oB hf' fun ml e2 hf'=>oB hf' fun cw e3 hf'=>oB hf' fun sp e4 hf'=>oG hf' fun hcw e9=>?_
  have k:=kfe k e9
  have q:VRs C ρ s.heap [.int hl,.int ml,.str cw,.str sp] vs:=by rw [arg4_inv e0,AV.int_inv e1,AV.int_inv e2,AV.str_inv e3,AV.str_inv e4] at q; exact q
  clear hf' e9 e0 e1 e2 e3 e4
  have X:=R.kin H
  refine wpAny_call (make_core (makes_of X HM) (looks_findIn X hinit) (fun self=>bind_fn X self hfn) (.inl rfl) ?_)
  have old:OldAt C { s with heap:=(s.heap.push emptyDict).push (instObj C.VF s.heap.objs.size) }:=fun b o e n=>Heap.get?_push_of_some _ (Heap.get?_push_of_some _ (R.old b o e n))
  have hA1:=hA.tc (Cl:=C.VF) (vals:=vs)
  have sz2:((s.heap.push emptyDict).push (instObj C.VF s.heap.objs.size)).objs.size=s.heap.objs.size + 2:=by rw [Heap.size_push,Heap.size_push]
  refine enterD HF H.lim H.stat old (by have:=hA1.2.1; (first | lia | omega)) (by rw [List.length_cons,q.length]; rfl) fun h₁ tk₁ E' hns hk hz=>?_
  rw [sz2] at hns hz ⊢
  rw [List.append_nil] at hns
  have P:=pend0 (Cl:=C.VF) (tk:=tk₁) R q (vr:=["headerlen", "maxlen", "continuation_ws", "splitchars"]) (by decide) rfl (ox:=instObj C.VF s.heap.objs.size) rfl rfl rfl rfl hns hk hz
  have He:=fnd_env HF (s.heap.objs.size + 2)
  refine wpAt_of_wpAny (init_block H He HSt (He.loc _ (by simp)) hA1.deeper (D _) (fmt_run hcw) P fun s₁ ρ₁ P₁ S₁=>?_)
  (refine x2_2 (P₁.hd) fun es n hD he=>?_)
  have kk:=notSeqCls P₁.ho P₁.cls hD
  have R₂:=P₁.rel.adopt (p:=(s.heap.objs.size + 1,s.heap.objs.size)) (o:=.fmt ml cw cw.length sp σ.length (σ.length + 1)) kk P₁.nx P₁.nd P₁.lx P₁.ld (.fmt P₁.ho hD (EntR.adopt (p:=(s.heap.objs.size + 1,s.heap.objs.size)) kk he)) rfl
  rw [List.append_assoc] at R₂
  refine ⟨rfl,k _ s₁ _ R₂ (makeStep (fun b o e=>hk b o (Heap.get?_push_of_some _ (Heap.get?_push_of_some _ e))) (by show s.heap.objs.size≤h₁.objs.size; (first | lia | omega)) S₁) (.loc (p:=(s.heap.objs.size + 1,s.heap.objs.size)) ?_)⟩
  have hz:ρ₁.length=σ.length + 2:=by rw [P₁.rel.len,List.length_append]; rfl
  rw [List.getElem?_append_right (Nat.le_of_eq hz),hz,Nat.sub_self]
  rfl
end
inductive SeqV (C:Cfg) (h:Heap) (a:Addr) (vs:List Value):Prop
  | list {n:Nat} (ho:h.get? a=some (lstObj vs n)):SeqV C h a vs
  | acc {d:Addr} {es:List DictEntry} {n n':Nat} (ho:h.get? a=some ⟨.ref C.ACC,some d,.seq vs.toArray n,#[]⟩) (hd:h.get? d=some (dictOf es n')):SeqV C h a vs
structure ItemOk (C:Cfg):Prop where
  noDeque:mroIn C.K C.ACC (.type "collections.deque")=some false
section
variable {C:Cfg} {ρ:Rho} {σ σ':St} {s:Shared} {A:Around} {E:Value→Shared→Prop} {a:Addr} {vs:List Value}
theorem SeqV.obj {h:Heap} (S:SeqV C h a vs):∃ o n,h.get? a=some o∧o.data=.seq vs.toArray n∧∃ c d sl,o=⟨c,d,.seq vs.toArray n,sl⟩:=by
  cases S with
  | list ho=>exact ⟨_,_,ho,rfl,_,_,_,rfl⟩
  | acc ho hd=>exact ⟨_,_,ho,rfl,_,_,_,rfl⟩
theorem SeqV.special {h:Heap} (H:CfgOk C) (HA:AccOk C) (X:C.K.In h) (S:SeqV C h a vs):Looks (model C.prog C.w) h (specialOf (.ref a) "__getitem__") (some (.builtin "list.__getitem__")):=by
  cases S with
  | list ho=>exact ((Looks.ld ho).andThen .now).andThen (Looks.of_pure slot_list_getitem.lookup)
  | acc ho hd=>exact (accInst ho hd).type.andThen (looks_findIn X HA.gi)
theorem call_seq {id n:String} {B:Builtin} {rest:List Value} {Q:Value→Shared→Prop} (HC:ClsOk C) (X:C.K.In s.heap) (S:SeqV C s.heap a vs) {nm:Str} (Sl:Slot "list" nm id) (hk:builtinKind id=some .method∨builtinKind id=some .slot) (hs:splitId id=some ("list",n)) (hb:entryFor table id=some B)
    (ha:argsOk id ⟨.ref a :: rest,[]⟩) (hc:wpAny (model C.prog C.w) A.in1 (B ⟨.ref a :: rest,[]⟩) (fun fin s'=>∃ v,fin=.done (.ret v)∧Q v s') E s):wpAny (model C.prog C.w) A (call (.builtin id) (.ref a :: rest)) Q E s:=by
  cases S with
  | list ho=>exact wpAny_call_entry Sl ⟨_,ho,rfl⟩ hb hc ha
  | acc ho hd=>exact call_below X (accInst ho hd) HC.acMro hk hs Sl.plain hb ha hc
theorem seqKey {i:Value} {nm:Str} {Q:Value→Shared→Prop} (HI:ItemOk C) (X:C.K.In s.heap) (S:SeqV C s.heap a vs) (k:Q i s):wpAny (model C.prog C.w) A (sequenceKey (.ref a) i nm) Q E s:=by
  cases S with
  | list ho=>exact wpAny_sequenceKey (T := "list") ⟨_,ho,rfl⟩ (by decide) k
  | acc ho hd =>
    unfold sequenceKey
    refine wpAny_bind ((accInst ho hd).type.here ?_)
    dsimp only
    have L:Looks (model C.prog C.w) s.heap (seqItemTypes.anyM fun n=>isSubtype (.ref C.ACC) (.type n)) false:=by
      unfold seqItemTypes
      intro A Q E s' k' q
      rw [List.anyM_cons]
      refine wpAny_bind (looks_mroIn X HI.noDeque A _ E s' k' ?_)
      exact wpAny_pure q
    refine wpAny_bind (L.here ?_)
    rw [if_pos (by rfl)]
    exact wpAny_pure k
theorem special_seq {id:String} {nm:Str} {rest:List Value} {Q:Option Value→Shared→Prop} (X:C.K.In s.heap) (S:SeqV C s.heap a vs) (Sl:Slot "list" nm id) (hf:findIn C.K (.ref C.ACC) nm=some (some (.builtin id)))
    (h:wpAny (model C.prog C.w) A (call (.builtin id) (.ref a :: rest)) (fun v s'=>Q (some v) s') E s):wpAny (model C.prog C.w) A (callSpecial? (.ref a) nm rest) Q E s:=by
  have L:Looks (model C.prog C.w) s.heap (specialOf (.ref a) nm) (some (.builtin id)):=by
    cases S with
    | list ho=>exact ((Looks.ld ho).andThen .now).andThen (Looks.of_pure Sl.lookup)
    | acc ho hd=>exact (accInst ho hd).type.andThen (looks_findIn X hf)
  unfold callSpecial?
  refine wpAny_bind (L.here ?_)
  dsimp only
  rw [Sl.bind]
  refine wpAny_holding (wpAny_bind (wpAny_pure ?_))
  exact wpAny_bind (wpAny_mono h (fun v s' z=>wpAny_pure z) fun uu uu z=>z)
theorem getItem_seq {i:Value} {Q:Value→Shared→Prop} (H:CfgOk C) (HC:ClsOk C) (HA:AccOk C) (HI:ItemOk C) (X:C.K.In s.heap) (S:SeqV C s.heap a vs)
    (h:wpAny (model C.prog C.w) A.in1 (Builtin.«list.__getitem__» ⟨[.ref a,i],[]⟩) (fun fin s'=>∃ v,fin=.done (.ret v)∧Q v s') E s):wpAny (model C.prog C.w) A (getItem (.ref a) i) Q E s:=by
  unfold getItem
  refine wpAny_holding (wpAny_bind (seqKey HI X S (wpAny_bind (special_seq X S slot_list_getitem HA.gi (call_seq HC X S slot_list_getitem (.inl (by decide +kernel)) (n := "__getitem__") (by decide +kernel) entry_list_getitem (args_list_getitem _ _) (wpAny_mono h (fun fin s' z=>?_) fun uu uu z=>z))))))
  (refine x1_2 (z) fun v rr1 hq=>?_; clear z; subst rr1)
  exact ⟨v,rfl,wpAny_pure hq⟩
theorem setItem_seq {i v:Value} {Q:Unit→Shared→Prop} (H:CfgOk C) (HC:ClsOk C) (HA:AccOk C) (HI:ItemOk C) (X:C.K.In s.heap) (S:SeqV C s.heap a vs)
    (h:wpAny (model C.prog C.w) A.in1 (Builtin.«list.__setitem__» ⟨[.ref a,i,v],[]⟩) (fun fin s'=>∃ v,fin=.done (.ret v)∧Q () s') E s):wpAny (model C.prog C.w) A (setItem (.ref a) i v) Q E s:=by
  unfold setItem
  refine wpAny_holding (wpAny_bind (seqKey HI X S (wpAny_bind (special_seq X S slot_list_setitem HA.si (call_seq HC X S slot_list_setitem (.inr (by decide +kernel)) (n := "__setitem__") (by decide +kernel) entry_list_setitem (args_list_setitem _ _ _) (wpAny_mono h (fun fin s' z=>?_) fun uu uu z=>z))))))
  (refine x1_2 (z) fun v rr1 hq=>?_; clear z; subst rr1)
  exact ⟨v,rfl,wpAny_pure hq⟩
set_option tactic.hygienic true
theorem get_int {i:Int} {t:Tok} {x:Value} {j:Nat} {Q:Fin→Shared→Prop} (S:SeqV C s.heap a vs) (hi:-1000000000≤i∧i < 1000000000) (hj:seqIndex? i vs.length=some j) (hx:vs[j]?=some x) (k:Q (.done (.ret x)) s) :
    wpAny (model C.prog C.w) A (Builtin.«list.__getitem__» ⟨[.ref a,.int i t],[]⟩) Q E s:=by
  obtain ⟨o,n,ho,hd,-⟩:=S.obj
  have hf:Builtin.List.listFitsIndex i=true:=by
    unfold Builtin.List.listFitsIndex
    simp only [Bool.and_eq_true,decide_eq_true_eq]
    (first | lia | omega)
  show wpAny _ _ (Builtin.List.listSubscript? (.int i t) >>= _) _ _ s
  refine wpAny_bind (wpAny_listSubscript_int hf ?_)
  dsimp only
  cases i with
  | ofNat m =>
    have e:seqIndex? (Int.ofNat m) vs.length=some m∨seqIndex? (Int.ofNat m) vs.length=none:=by
      unfold seqIndex?
      dsimp only
      split
      · rename_i h0; exact absurd h0 (by simp)
      · split
        · exact .inl rfl
        · exact .inr rfl
    have:j=m:=by
      rcases e with e | e
      · rw [e] at hj; cases hj; rfl
      · rw [e] at hj; cases hj
    subst this
    show wpAny _ _ ((seqItemAt a j >>= _) >>= _) _ _ _
    refine wpAny_bind (wpAny_bind (wpAny_seqItemAt ho hd ?_))
    have:vs.toArray[j]?=some x:=by simpa using hx
    rw [this]
    exact wpAny_pure (wpAny_pure k)
  | negSucc m =>
    show wpAny _ _ ((Builtin.List.listItems (.ref a) >>= _) >>= _) _ _ _
    unfold Builtin.List.listItems
    refine wpAny_bind (wpAny_bind (wpAny_bind (wpAny_seqItems ho hd (wpAny_pure ?_))))
    rw [List.size_toArray,hj]
    have:vs.toArray[j]?=some x:=by simpa using hx
    dsimp only [Option.bind_some]
    rw [this]
    exact wpAny_pure (wpAny_pure k)
end
noncomputable def asSeq (σ:St) (x:AV):Option (List AV):=(asList σ x).or (x.loc?.bind fun l=>(accAt σ l).map fun a=>a.2.map partAV)
noncomputable def atIx {α:Type} (xs:List α) (i:Int):Option α:=(seqIndex? i xs.length).bind (xs[·]?)
noncomputable def aget (σ:St) (x:AV) (i:Int):Option AV:=if -1000000000≤i∧i < 1000000000 then
  (x.str?.bind fun y=>((seqIndex? i y.length).bind (y.cps[·]?)).map fun c=>.str ⟨#[c]⟩).or ((x.tup?.bind fun xs=>atIx xs i).or ((asSeq σ x).bind fun xs=>atIx xs i)) else none
noncomputable def idxE (f g:EM):EM:=fun lc σ=>(f lc σ).bind fun p=>(g lc p.2).bind fun q=>q.1.int?.bind fun i=>(aget q.2 p.1 i).map (·,q.2)
section
variable {C:Cfg} {ρ:Rho} {σ σ':St} {s:Shared} {A:Around} {E:Value→Shared→Prop} {a:Addr} {vs:List Value} {env:Env} {vars:List Str} {lc:Lc} {p p':Pos} {d:Nat}
@[elab_as_elim] theorem Rel.asSeq_e (R:Rel C ρ σ s) {x:AV} {xs:List AV} {v:Value} (q:VR C ρ s.heap x v) (h:asSeq σ x=some xs) {P:Value→Prop} (k:∀ a vs,SeqV C s.heap a vs→VRs C ρ s.heap xs vs→P (.ref a)):P v:=by
  refine oO h (fun h=>R.asList_e q h fun a vs n ho hs=>k a vs (.list ho) hs) fun h=>oB h fun l el h=>oM h fun ac hl e=>?_
  have q:VR C ρ s.heap (.loc l) v:=AV.loc_inv el▸q
  exact R.acc_e (accAt_inv hl) q fun a d es n n' vs uu ho hd he hs=>k a vs (.acc ho hd) (e▸hs)
theorem Subscript_own {value slice:Expr} {Q:Value→Shared→Prop}
    (h:wpAny (model C.prog C.w) A (eval value env) (fun o s₁=>wpAny (model C.prog C.w) A (eval slice env) (fun i s₂=>(∃ id,Looks (model C.prog C.w) s₂.heap (specialOf o "__getitem__") (some (.builtin id)))∧wpAny (model C.prog C.w) A (getItem o i) Q E s₂) E s₁) E s) :
    wpAny (model C.prog C.w) A (eval (.Subscript value slice p) env) Q E s:=by
  rw [eval_Subscript]
  refine wpAny_bind (wpAny_mono h (fun o s₁ h₁=>wpAny_bind (wpAny_holding (wpAny_mono h₁ (fun i s₂ h₂=>wpAny_bind (wpAny_standAt ?_)) fun uu uu x=>x))) fun uu uu x=>x)
  obtain ⟨⟨id,L⟩,hg⟩:=h₂
  have L2:Looks (model C.prog C.w) s₂.heap (getitemInPython o) false:=by
    unfold getitemInPython
    exact L.andThen .now
  refine wpAny_bind (L2.here ?_)
  have e:∃ ws,subscripted slice false o i=operate ws (getItem o i):=by
    cases slice with
    | Slice a b c p=>cases c <;> exact ⟨_,rfl⟩
    | _=>exact ⟨_,rfl⟩
  (refine x1_1 (e) fun ws e=>?_)
  rw [e]
  exact wpAny_bind (wpAny_operating (wpAny_mono hg (fun r s₃ h₃=>wpAny_bind (wpAny_letTemporaryGo (wpAny_pure h₃))) fun uu uu x=>x))
theorem strOk_one {y:Str} {c:Nat} (ok:PyData.strOk y=true) (h:c∈y.cps.toList):PyData.strOk ⟨#[c]⟩=true:=by
  rw [strOk_iff] at ok ⊢
  intro b hb
  have:b=c:=by simpa using hb
  subst this
  exact ok b h
theorem get_rel (H:CfgOk C) (HC:ClsOk C) (HA:AccOk C) (HI:ItemOk C) {x z:AV} {i:Int} {t:Tok} {v:Value} {Q:Value→Shared→Prop} (h:aget σ x i=some z) (R:Rel C ρ σ s) (q:VR C ρ s.heap x v)
    (k:∀ w n,VR C ρ s.heap z w→Q w { s with toks:=n }):(∃ id,Looks (model C.prog C.w) s.heap (specialOf v "__getitem__") (some (.builtin id)))∧wpAny (model C.prog C.w) A (getItem v (.int i t)) Q E s:=by
  refine sf h fun hi h=>oO h (fun h=>oB h fun y e1 h=>oM h fun c hc e=>?_) fun h=>oO h (fun h=>oB h fun xs e1 h=>oB h fun j hj hx=>?_) fun h=>oB h fun xs hsq h=>oB h fun j hj hx=>?_
  · refine q.str_of e1 fun t ok=>⟨⟨_,(Looks.of_pure (by rfl)).andThen (Looks.of_pure F.slot_str_getitem.lookup)⟩,P.getItem_str (by rw [decide_eq_false (by (first | lia | omega)),decide_eq_false (by (first | lia | omega))]; rfl) hc (k _ _ (e▸.str _ _ (strOk_one ok ?_)))⟩
    exact oB hc fun j uu hj2=>(Array.getElem?_eq_some_iff.mp hj2).elim fun hlt e=>e▸Array.mem_toList_iff.mpr (Array.getElem_mem hlt)
  · exact q.tup_of e1 fun a vs n ho hm hs=>x1_2 (hs.get hx) fun w hv qv=>⟨⟨_,((Looks.ld ho).andThen .now).andThen (Looks.of_pure slot_tuple_getitem.lookup)⟩,getItem_tuple (items:=vs.toArray) ⟨_,ho,rfl,_,rfl⟩ (by (first | lia | omega)) (by (first | lia | omega)) (by rw [List.size_toArray,hs.length]; exact hj) (by rw [List.getElem?_toArray]; exact hv) (k _ _ qv)⟩
  · exact R.asSeq_e q hsq fun a vs SV hs=>x1_2 (hs.get hx) fun w hv qv=>⟨⟨_,SV.special H HA (R.kin H)⟩,getItem_seq H HC HA HI (R.kin H) SV (get_int SV hi (by rw [hs.length]; exact hj) hv ⟨_,rfl,k _ _ qv⟩)⟩
theorem den_idx (H:CfgOk C) (HC:ClsOk C) (HA:AccOk C) (HI:ItemOk C) {value slice:Expr} {f g:EM} (D1:DenE C d env vars value f) (D2:DenE C d env vars slice g):DenE C d env vars (.Subscript value slice p) (idxE f g):=by
  intro lc σ y σ' hf A Q E s ρ hA R lr kk
  refine oB hf fun x e1 hf=>oB hf fun q e2 hf=>oB hf fun i ei hf=>oM hf fun z hz e3=>?_
  refine Subscript_own (D1 _ _ _ _ e1 A _ E s ρ hA R lr fun o s₁ ρ₁ R₁ S₁ q₁=>D2 _ _ _ _ e2 A _ E s₁ ρ₁ hA R₁ (lr.go S₁) fun iv s₂ ρ₂ R₂ S₂ q₂=>?_)
  exact q₂.int_of ei fun ti=>get_rel H HC HA HI hz R₂ (q₁.go S₂) fun w n qw=>kfe kk e3 _ _ ρ₂ R₂.toks (S₁.trans S₂) qw
end
noncomputable def slIdx (lo hi:Option Int) (n:Nat):List Nat:=sliceRange (sliceBounds lo hi none n).1 (sliceBounds lo hi none n).2.1 (sliceBounds lo hi none n).2.2
noncomputable def pickL {α:Type} (xs:List α) (ix:List Nat):List α:=ix.filterMap (xs[·]?)
noncomputable def sliceL {α:Type} (xs:List α) (lo hi:Option Int):List α:=pickL xs (slIdx lo hi xs.length)
noncomputable def slLo (lo hi:Option Int) (n:Nat):Nat:=(sliceBounds lo hi none n).1.toNat
noncomputable def slHi (lo hi:Option Int) (n:Nat):Nat:=(max (sliceBounds lo hi none n).1 (sliceBounds lo hi none n).2.1).toNat
noncomputable def setSl {α:Type} (xs new:List α) (lo hi:Option Int):List α:=xs.take (slLo lo hi xs.length)++new++xs.drop (slHi lo hi xs.length)
noncomputable def optE:Option EM→Lc→St→Option (Option Int × St)
  | none,_,σ=>some (none,σ)
  | some f,lc,σ=>(f lc σ).bind fun p=>p.1.int?.map fun i=>(some i,p.2)
inductive DenO (C:Cfg) (d:Nat) (env:Env) (vars:List Str):Option Expr→Option EM→Prop
  | none:DenO C d env vars none none
  | some {e:Expr} {f:EM} (D:DenE C d env vars e f):DenO C d env vars (some e) (some f)
noncomputable def sliceE (f:EM) (lo hi:Option EM):EM:=fun lc σ=>(f lc σ).bind fun p=>(optE lo lc p.2).bind fun a=>(optE hi lc a.2).bind fun b=>(asSeq b.2 p.1).bind fun xs=>gd (decide (xs.length≤1000000)) (.lst (sliceL xs a.1 b.1),b.2)
section
variable {C:Cfg} {ρ:Rho} {σ σ':St} {s:Shared} {A:Around} {E:Value→Shared→Prop} {a:Addr} {vs:List Value} {env:Env} {vars:List Str} {lc:Lc} {p p':Pos} {d:Nat}
theorem VRs.pick {h:Heap} {xs:List AV} {vs:List Value} (q:VRs C ρ h xs vs):∀ ix:List Nat,VRs C ρ h (pickL xs ix) (pickL vs ix)
  | []=>.nil
  | i :: ix=>by
    unfold pickL
    rw [List.filterMap_cons,List.filterMap_cons]
    cases hx:xs[i]? with
    | some x =>
      (refine x1_2 (q.get hx) fun v hv qv=>?_)
      rw [hv]
      exact .cons qv (q.pick ix)
    | none =>
      have:vs[i]?=none:=by
        rw [List.getElem?_eq_none_iff] at hx ⊢
        rw [q.length]; exact hx
      rw [this]
      exact q.pick ix
theorem opt_rel {e:Option Expr} {f:Option EM} (D:DenO C d env vars e f) {x:Option Int} (hf:optE f lc σ=some (x,σ')) {Q:Value→Shared→Prop} (hA:AOk C d A) (R:Rel C ρ σ s) (lr:LcR C ρ s.heap env.locals vars lc)
    (k:∀ v s' ρ',Rel C ρ' σ' s'→Step C [] ρ ρ' s.heap s'.heap→IsPart v x→Q v s'):wpAny (model C.prog C.w) A (evalPart e env) Q E s:=by
  have at_:∀ {y:Option Int} {σ₁:St},(y,σ₁)=(x,σ')→∀ v s' ρ',Rel C ρ' σ₁ s'→Step C [] ρ ρ' s.heap s'.heap→IsPart v y→Q v s':=fun e v s' ρ' R' S' q=>by cases e; exact k v s' ρ' R' S' q
  cases D with
  | none=>exact wpAny_pure (at_ (Option.some.inj hf) _ _ _ R .refl .none)
  | some D=>exact oB hf fun p e1 hf=>oM hf fun i ei e=>D _ _ _ _ e1 A Q E s ρ hA R lr fun v s' ρ' R' S' q'=>q'.int_of ei fun t=>at_ e _ _ _ R' S' (.int _ _)
theorem get_slice {sl:Addr} {vl vu:Value} {lo hi:Option Int} {Q:Fin→Shared→Prop} (S:SeqV C s.heap a vs) (hs:s.heap.IsSliceOf sl vl vu .none) (pl:IsPart vl lo) (pu:IsPart vu hi) (hz:vs.length≤sizeLine)
    (k:Q (.done (.ret (.ref s.heap.objs.size))) { s with heap:=s.heap.push (lstObj (sliceL vs lo hi) 0) }) :
    wpAny (model C.prog C.w) A (Builtin.«list.__getitem__» ⟨[.ref a,.ref sl],[]⟩) Q E s:=by
  obtain ⟨o,n,ho,hd,-⟩:=S.obj
  (refine x1_3 (id hs) fun os hos hcs hds=>?_)
  have hTs:s.TypeIs (.ref sl) "slice" := ⟨os,hos,hcs⟩
  show wpAny _ _ (Builtin.List.listSubscript? (.ref sl) >>= _) _ _ s
  refine wpAny_bind ?_
  unfold Builtin.List.listSubscript?
  refine wpAny_bind (wpAny_specialOf hTs slice_no_index ?_)
  simp only [Option.isNone_none,if_true]
  refine wpAny_pure ?_
  show wpAny _ _ (typeOf (.ref sl) >>= _) _ _ s
  refine wpAny_bind (wpAny_typeOf hTs ?_)
  rw [if_neg (by decide)]
  rw [listSliceParts_eq]
  refine wpAny_bind (wpAny_bind (wpAny_field hos hds (x:=.none) rfl (wpAny_bind (wpAny_listPart .none ?_))))
  rw [if_neg (by decide)]
  refine wpAny_bind (wpAny_field hos hds (x:=vl) rfl (wpAny_bind (wpAny_listPart pl ?_)))
  refine wpAny_bind (wpAny_field hos hds (x:=vu) rfl (wpAny_bind (wpAny_listPart pu (wpAny_pure ?_))))
  refine wpAny_bind (m:=Builtin.List.listItems (.ref a)) ?_
  unfold Builtin.List.listItems
  refine wpAny_bind (wpAny_seqItems ho hd (wpAny_pure ?_))
  refine wpAny_bind (wpAny_of_eq (sliceIndices_raw lo hi none vs.toArray.size (by simp)) ?_)
  have e:((sliceRange (sliceBounds lo hi none vs.toArray.size).1 (sliceBounds lo hi none vs.toArray.size).2.1 (sliceBounds lo hi none vs.toArray.size).2.2).filterMap (vs.toArray[·]?))=sliceL vs lo hi:=by
    unfold sliceL pickL slIdx
    rw [List.size_toArray]
    congr 1
    funext i
    simp
  refine wpAny_bind (wpAny_newObj_type ?_ (Nat.le_trans (slicePick_size_le vs.toArray lo hi none) (by simpa using hz)))
  rw [e]
  exact wpAny_pure k
theorem den_slice (H:CfgOk C) (HC:ClsOk C) (HA:AccOk C) (HI:ItemOk C) {value:Expr} {lo hi:Option Expr} {f:EM} {fl fh:Option EM} {ps:Pos} (D1:DenE C d env vars value f) (D2:DenO C d env vars lo fl) (D3:DenO C d env vars hi fh) :
    DenE C d env vars (.Subscript value (.Slice lo hi none ps) p) (sliceE f fl fh):=by
  intro lc σ y σ' hf A Q E s ρ hA R lr kk
  refine oB hf fun x e1 hf=>oB hf fun ai e2 hf=>oB hf fun bi e3 hf=>oB hf fun xs hsq hf=>oG hf fun hz e9=>?_
  refine Subscript_own (D1 _ _ _ _ e1 A _ E s ρ hA R lr fun o s₁ ρ₁ R₁ S₁ q₁=>wpAny_Slice ?_)
  refine opt_rel D2 e2 hA R₁ (lr.go S₁) fun vl s₂ ρ₂ R₂ S₂ pl=>?_
  refine opt_rel D3 e3 hA R₂ (lr.go (S₁.trans S₂)) fun vu s₃ ρ₃ R₃ S₃ pu=>?_
  rw [evalPart_none]
  refine wpAny_pure ?_
  have R₄:=R₃.push { cls:=.type "slice",data:=.fields #[vl,vu,.none] } (n:=s₃.toks)
  have S₄:Step C [] ρ₃ ρ₃ s₃.heap (s₃.heap.push { cls:=.type "slice",data:=.fields #[vl,vu,.none] }):=.pushObj _
  refine R₄.asSeq_e (((q₁.go S₂).go S₃).go S₄) hsq fun a vs SV hs=>?_
  refine ⟨⟨_,SV.special H HA (R₄.kin H)⟩,getItem_seq H HC HA HI (R₄.kin H) SV (get_slice SV (Heap.IsSliceOf.new ..) pl pu (by rw [hs.length]; exact Nat.le_trans (of_decide_eq_true hz) (by decide)) ⟨_,rfl,?_⟩)⟩
  have S₅:Step C [] ρ₃ ρ₃ (s₃.heap.push { cls:=.type "slice",data:=.fields #[vl,vu,.none] }) ((s₃.heap.push { cls:=.type "slice",data:=.fields #[vl,vu,.none] }).push (lstObj (sliceL vs ai.1 bi.1) 0)):=.pushObj _
  refine kfe kk e9 _ _ ρ₃ (R₄.push (lstObj (sliceL vs ai.1 bi.1) 0) (n:=s₃.toks)) ((((S₁.trans S₂).trans S₃).trans S₄).trans S₅) (.lst (vs:=sliceL vs ai.1 bi.1) (n:=0) (Heap.get?_push_size _ rfl) R₄.fresh ?_)
  have pk:=(hs.go S₅).pick (slIdx ai.1 bi.1 xs.length)
  have e:pickL vs (slIdx ai.1 bi.1 xs.length)=sliceL vs ai.1 bi.1:=by unfold sliceL; rw [hs.length]
  rw [e] at pk
  exact pk
end
theorem setSl_map {α β:Type} (f:α→β) (xs new:List α) (lo hi:Option Int):setSl (xs.map f) (new.map f) lo hi=(setSl xs new lo hi).map f:=by
  unfold setSl
  simp
theorem setSl_len {α:Type} (xs new:List α) (lo hi:Option Int):(setSl xs new lo hi).length≤xs.length + new.length + xs.length:=by
  unfold setSl
  simp only [List.length_append,List.length_take,List.length_drop]
  exact Nat.add_le_add (Nat.add_le_add (Nat.min_le_right _ _) (Nat.le_refl _)) (Nat.sub_le _ _)
section
variable {C:Cfg} {ρ:Rho} {σ σ':St} {s:Shared} {A:Around} {E:Value→Shared→Prop} {a b:Addr} {vs ws:List Value} {env:Env} {vars:List Str} {lc:Lc} {p p':Pos} {d:Nat}
theorem VRs.setSl {h:Heap} {xs new:List AV} {vs ws:List Value} (q:VRs C ρ h xs vs) (q':VRs C ρ h new ws) (lo hi:Option Int):VRs C ρ h (setSl xs new lo hi) (setSl vs ws lo hi):=by
  unfold Mine.Internal.setSl
  rw [q.length]
  exact ((q.take _).append q').append (q.drop _)
theorem extract_eq {vs ws:List Value} {lo hi:Option Int}:vs.toArray.extract 0 (sliceBounds lo hi none vs.toArray.size).1.toNat++ws.toArray++vs.toArray.extract (max (sliceBounds lo hi none vs.toArray.size).1 (sliceBounds lo hi none vs.toArray.size).2.1).toNat vs.toArray.size=(setSl vs ws lo hi).toArray:=by
  unfold setSl slLo slHi
  rw [List.size_toArray]
  generalize (sliceBounds lo hi none vs.length).1=x
  generalize (sliceBounds lo hi none vs.length).2.1=y
  apply Array.toList_inj.mp
  simp [List.take_of_length_le]
theorem set_slice {sl:Addr} {vl vu:Value} {lo hi:Option Int} {m:Nat} {Q:Fin→Shared→Prop} {c:Value} {dd:Option Addr} {n:Nat} {slo:Array (Option Value)} (ho:s.heap.get? a=some ⟨c,dd,.seq vs.toArray n,slo⟩) (hb:s.heap.get? b=some (lstObj ws m)) (hab:a≠b) (hs:s.heap.IsSliceOf sl vl vu .none) (pl:IsPart vl lo) (pu:IsPart vu hi)
    (hz:vs.length≤1000000) (hw:ws.length≤1000000)
    (k:∀ h',Heap.SameBut a s.heap h'→(∃ n',h'.get? a=some ⟨c,dd,.seq (setSl vs ws lo hi).toArray n',slo⟩)→Q (.done (.ret .none)) { s with heap:=h' }) :
    wpAny (model C.prog C.w) A (Builtin.«list.__setitem__» ⟨[.ref a,.ref sl,.ref b],[]⟩) Q E s:=by
  (refine x1_3 (id hs) fun os hos hcs hds=>?_)
  have hTs:s.TypeIs (.ref sl) "slice" := ⟨os,hos,hcs⟩
  have hTb:s.TypeIs (.ref b) "list" := ⟨_,hb,rfl⟩
  have hzl:(sizeLine:Nat)=16777216:=sizeLine_eq
  show wpAny _ _ (Builtin.List.listSubscript? (.ref sl) >>= _) _ _ s
  refine wpAny_bind ?_
  unfold Builtin.List.listSubscript?
  refine wpAny_bind (wpAny_specialOf hTs slice_no_index ?_)
  simp only [Option.isNone_none,if_true]
  refine wpAny_pure ?_
  show wpAny _ _ (typeOf (.ref sl) >>= _) _ _ s
  refine wpAny_bind (wpAny_typeOf hTs ?_)
  rw [if_neg (by decide)]
  rw [listSliceParts_eq]
  refine wpAny_bind (wpAny_bind (wpAny_field hos hds (x:=.none) rfl (wpAny_bind (wpAny_listPart .none ?_))))
  rw [if_neg (by decide)]
  refine wpAny_bind (wpAny_field hos hds (x:=vl) rfl (wpAny_bind (wpAny_listPart pl ?_)))
  refine wpAny_bind (wpAny_field hos hds (x:=vu) rfl (wpAny_bind (wpAny_listPart pu (wpAny_pure ?_))))
  dsimp only
  have same:Builtin.List.listSameRef (.ref a) (.ref b)=false:=by
    show (a == b)=false
    exact beq_false_of_ne hab
  rw [same,if_neg Bool.false_ne_true]
  refine wpAny_bind ?_
  unfold Builtin.List.listAllItems
  refine wpAny_bind (wpAny_typeOf hTb ?_)
  rw [if_pos (by decide)]
  unfold Builtin.List.listItems
  refine wpAny_bind (wpAny_seqItems hb rfl (wpAny_pure ?_))
  refine wpAny_bind (wpAny_bind (wpAny_seqItems ho rfl (wpAny_pure ?_)))
  refine wpAny_bind (wpAny_of_eq (sliceIndices_raw lo hi none vs.toArray.size (by simp)) ?_)
  dsimp only
  have st:((sliceBounds lo hi none vs.toArray.size).2.2 == 1)=true:=rfl
  rw [st,if_pos rfl]
  refine wpAny_bind (wpAny_rule ?_)
  have tl:Builtin.List.listTooLong (vs.toArray.size + ws.toArray.size)=false:=by
    unfold Builtin.List.listTooLong
    rw [List.size_toArray,List.size_toArray]
    exact decide_eq_false (by (first | lia | omega))
  rw [tl,if_neg Bool.false_ne_true]
  refine wpAny_bind ?_
  show wpAny _ _ (updateSeq a _) _ _ _
  have hz':(vs.toArray.extract 0 (sliceBounds lo hi none vs.toArray.size).1.toNat++ws.toArray++vs.toArray.extract (max (sliceBounds lo hi none vs.toArray.size).1 (sliceBounds lo hi none vs.toArray.size).2.1).toNat vs.toArray.size).size≤sizeLine + 1:=by
    rw [extract_eq,List.size_toArray]
    have:=setSl_len vs ws lo hi
    (first | lia | omega)
  refine wpAny_updateSeq ho rfl ?_ (hz:=by rw [List.size_toArray]; (first | lia | omega)) (_hz':=hz')
  refine wpAny_bind (wpAny_letGo (wpAny_pure ?_))
  have gt:=mapSeq_at ho (fun xs=>xs.extract 0 (sliceBounds lo hi none vs.toArray.size).1.toNat++ws.toArray++xs.extract (max (sliceBounds lo hi none vs.toArray.size).1 (sliceBounds lo hi none vs.toArray.size).2.1).toNat xs.size)
  have ee:=extract_eq (vs:=vs) (ws:=ws) (lo:=lo) (hi:=hi)
  rw [ee] at gt
  exact k _ (Heap.SameBut.update ..) ⟨_,gt⟩
end
noncomputable def partsOf:List AV→Option (List (Str × Str))
  | []=>some []
  | x :: xs=>(isPart x).bind fun p=>(partsOf xs).map (p :: ·)
theorem partsOf_eq:∀ {xs:List AV} {ps:List (Str × Str)},partsOf xs=some ps→xs=ps.map partAV
  | [],_,h=>Option.some.inj h▸rfl
  | x :: xs,ps,h=>oB h fun p e1 h=>oM h fun q e2 e=>by rw [isPart_eq e1,partsOf_eq e2,← e]; rfl
noncomputable def putSl (l:Nat) (a b:Option Int) (v:AV) (σ:St):Option St:=(asList σ v).bind fun new =>
  ((accAt σ l).bind fun ac=>(partsOf new).bind fun qs=>gd (decide (ac.2.length≤1000000∧qs.length≤1000000)) (σ.set l (.acc ac.1 (setSl ac.2 qs a b)))).or
  ((lstAt σ l).bind fun xs=>v.lst?.bind fun _=>gd (decide (xs.length≤1000000∧new.length≤1000000)) (σ.set l (.list (setSl xs new a b))))
noncomputable def setSlS (g:EM) (lo hi:Option EM) (f:EM):SM:=fun lc σ=>(f lc σ).bind fun v=>(g lc v.2).bind fun o=>o.1.loc?.bind fun l=>(optE lo lc o.2).bind fun a=>(optE hi lc a.2).bind fun b=>(putSl l a.1 b.1 v.1 b.2).map (.next,lc,·)
section
variable {C:Cfg} {ρ:Rho} {σ σ':St} {s:Shared} {A:Around} {E:Value→Shared→Prop} {env:Env} {vars:List Str} {lc:Lc} {p p' ps':Pos} {d:Nat}
theorem putSl_rel (H:CfgOk C) (HC:ClsOk C) (HA:AccOk C) (HI:ItemOk C) {l:Nat} {lo hi:Option Int} {v:AV} {vo vv vl vu:Value} {sl:Addr} {Q:Unit→Shared→Prop} (h:putSl l lo hi v σ=some σ') (R:Rel C ρ σ s) (qo:VR C ρ s.heap (.loc l) vo) (qv:VR C ρ s.heap v vv)
    (hs:s.heap.IsSliceOf sl vl vu .none) (pl:IsPart vl lo) (pu:IsPart vu hi) (k:∀ s',Rel C ρ σ' s'→Step C [] ρ ρ s.heap s'.heap→Q () s'):wpAny (model C.prog C.w) A (setItem vo (.ref sl) vv) Q E s:=by
  refine oB h fun new hn h=>oO h (fun h=>oB h fun ac hl h=>oB h fun qs hq h=>oG h fun hz e=>?_) fun h=>oB h fun xs hl h=>oB h fun ys ev h=>oG h fun hz e=>?_
  · have hz:=of_decide_eq_true hz
    refine R.acc_e (accAt_inv hl) qo fun a d es n n' vs e0 ho hd he hvs=>R.asList_e qv hn fun b ws m hb hws=>?_
    have hab:a≠b:=fun z=>Value.noConfusion (congrArg Obj.cls (Option.some.inj ((z▸ho:s.heap.get? b=_).symm.trans hb)))
    have lv:vs.length=ac.2.length:=by rw [hvs.length,List.length_map]
    have ew:=partsOf_eq hq
    have lw:ws.length=qs.length:=by rw [hws.length,ew,List.length_map]
    refine setItem_seq H HC HA HI (R.kin H) (.acc ho hd) (set_slice ho hb hab hs pl pu (lv▸hz.1) (lw▸hz.2) fun h' hsb hget=>⟨_,rfl,x1_1 hget fun n'' gt=>?_⟩)
    have S:Step C [] ρ ρ s.heap h':=stepMut (.inr ⟨_,List.mem_of_getElem? e0,.inl rfl⟩) hsb
    rw [ew] at hws
    have hv':=(hvs.go S).setSl (hws.go S) lo hi
    rw [setSl_map] at hv'
    exact x0_2 (R.upd (n:=s.toks) e0 (.inl rfl) hsb (.acc gt ((hsb.2 _ (accNe ho hd)).trans hd) (he.go S) hv') rfl) fun R' S'=>k _ (e▸R') S'
  · have hz:=of_decide_eq_true hz
    have en:new=ys:=by
      rw [AV.lst_inv ev] at hn
      exact (Option.some.inj hn).symm
    rw [en] at hz e
    refine R.list_e (lstAt_inv hl) qo fun a vs n e0 ho hvs=>qv.lst_of ev fun b ws m hb hmb hws=>?_
    have hab:a≠b:=fun z=>hmb (z▸.inr ⟨_,List.mem_of_getElem? e0,.inl rfl⟩)
    refine setItem_seq H HC HA HI (R.kin H) (.list ho) (set_slice ho hb hab hs pl pu (hvs.length▸hz.1) (hws.length▸hz.2) fun h' hsb hget=>⟨_,rfl,x1_1 hget fun n'' gt=>?_⟩)
    have S:Step C [] ρ ρ s.heap h':=stepMut (.inr ⟨_,List.mem_of_getElem? e0,.inl rfl⟩) hsb
    exact x0_2 (R.upd (n:=s.toks) e0 (.inl rfl) hsb (.list gt ((hvs.go S).setSl (hws.go S) lo hi)) rfl) fun R' S'=>k _ (e▸R') S'
set_option tactic.hygienic true
theorem den_setSl (H:CfgOk C) (HC:ClsOk C) (HA:AccOk C) (HI:ItemOk C) {o value:Expr} {lo hi:Option Expr} {f g:EM} {fl fh:Option EM} (D0:DenE C d env vars value f) (D1:DenE C d env vars o g) (D2:DenO C d env vars lo fl) (D3:DenO C d env vars hi fh)
    (hs:swapsWith value (some (.Subscript o (.Slice lo hi none ps') p')) p.line env=pure false):DenS C d env vars (.Assign [.Subscript o (.Slice lo hi none ps') p'] value p) (setSlS g fl fh f):=by
  intro lc σ flw lc' σ' hf A Q E s ρ hA R lr kk
  refine oB hf fun v e1 hf=>oB hf fun oo e2 hf=>oB hf fun l el hf=>oB hf fun ai e3 hf=>oB hf fun bi e4 hf=>oM hf fun σ₅ hp e9=>?_
  refine wpAny_Assign_Subscript (D0 _ _ _ _ e1 A _ E s ρ hA R lr fun vv s₁ ρ₁ R₁ S₁ q₁=>D1 _ _ _ _ e2 A _ E s₁ ρ₁ hA R₁ (lr.go S₁) fun ov s₂ ρ₂ R₂ S₂ q₂=>wpAny_Slice ?_) hs
  refine opt_rel D2 e3 hA R₂ (lr.go (S₁.trans S₂)) fun vl s₃ ρ₃ R₃ S₃ pl=>opt_rel D3 e4 hA R₃ (lr.go ((S₁.trans S₂).trans S₃)) fun vu s₄ ρ₄ R₄ S₄ pu=>?_
  rw [evalPart_none]
  refine wpAny_pure ?_
  have S₅:Step C [] ρ₄ ρ₄ s₄.heap (s₄.heap.push { cls:=.type "slice",data:=.fields #[vl,vu,.none] }):=.pushObj _
  have T:=(S₃.trans S₄).trans S₅
  exact putSl_rel H HC HA HI hp (R₄.push { cls:=.type "slice",data:=.fields #[vl,vu,.none] } (n:=s₄.toks)) ((AV.loc_inv el▸q₂).go T) (q₁.go (S₂.trans T)) (Heap.IsSliceOf.new ..) pl pu fun s' R' S' =>
    kfs kk e9 _ s' ρ₄ R' (((S₁.trans S₂).trans T).trans S').of_nil (lr.go (((S₁.trans S₂).trans T).trans S')) .next
end
noncomputable def ainp (op:Operator) (a b:AV):Option AV:=match op with
  | .Add=>(a.str?.bind fun x=>b.str?.bind fun y=>gd (decide (x.length + y.length≤1000000)) (.str (x++y))).or (a.int?.bind fun x=>b.int?.map fun y=>.int (x + y))
  | _=>none
section
variable {C:Cfg} {ρ:Rho} {σ σ':St} {s:Shared} {A:Around} {E:Value→Shared→Prop} {a:Addr} {vs:List Value} {env:Env} {vars:List Str} {lc:Lc} {p p':Pos} {d:Nat}
theorem ainp_rel {op:Operator} {x y z:AV} {vx vy:Value} {Q:Value→Shared→Prop} (R:Rel C ρ σ s) (qx:VR C ρ s.heap x vx) (qy:VR C ρ s.heap y vy) (h:ainp op x y=some z)
    (k:∀ v s',Rel C ρ σ s'→Step C [] ρ ρ s.heap s'.heap→VR C ρ s'.heap z v→Q v s'):wpAny (model C.prog C.w) A (inplaceOp op vx vy) Q E s:=by
  cases op with
  | Add =>
    refine oO (show ((x.str?.bind fun a=>y.str?.bind fun b=>gd (decide (a.length + b.length≤1000000)) (AV.str (a++b))).or (x.int?.bind fun a=>y.int?.map fun b=>AV.int (a + b)))=some z from h) (fun h=>oB h fun a e1 h=>oB h fun b e2 h=>oG h fun hz e=>?_) fun h=>oB h fun a e1 h=>oM h fun b e2 e=>?_
    · exact qx.str_of e1 fun uu o1=>qy.str_of e2 fun uu o2=>PyProof.Rows.iadd_str (fun t' tk=>k _ _ R.toks .refl (e▸.str _ _ (strOk_append o1 o2))) (Nat.le_trans (of_decide_eq_true hz) (by decide))
    · exact qx.int_of e1 fun uu=>qy.int_of e2 fun uu=>wpAny_iadd_int (k _ _ R.toks .refl (e▸.int _ _))
  | _=>exact nomatch h
noncomputable def augS (i:Nat) (op:Operator) (f:EM):SM:=fun lc σ=>lc[i]?.bind fun o=>o.bind fun x=>(f lc σ).bind fun p=>(ainp op x p.1).bind fun z=>(putL lc i z).map (.next,·,p.2)
set_option tactic.hygienic true
theorem den_aug (He:EnvOk env vars) {i:Nat} {n:Str} {op:Operator} {e:Expr} {f:EM} (hi:vars[i]?=some n) (D:DenE C d env vars e f):DenS C d env vars (.AugAssign (.Name n p') op e p) (augS i op f):=by
  intro lc σ fl lc' σ' hf A Q E s ρ hA R lr kk
  refine oB hf fun o e0 hf=>oB hf fun x ex hf=>oB hf fun y e1 hf=>oB hf fun z hz hf=>oM hf fun lc'' hp e2=>?_
  rw [ex] at e0
  refine wpAny_AugAssign_Name (load_name He hi e0 lr fun v qv=>D _ _ _ _ e1 A _ E s ρ hA R lr fun w s₁ ρ₁ R₁ S₁ q₁=>ainp_rel R₁ (qv.go S₁) q₁ hz fun u s₂ R₂ S₂ q₂=>?_)
  exact store_name He hi hp R₂ (lr.go (S₁.trans S₂)) q₂ fun s₃ R₃ S₃ l₃=>kfs kk e2 _ s₃ ρ₁ R₃ ((S₁.trans S₂).of_nil.trans S₃) l₃ .next
theorem set_int {i:Int} {t:Tok} {v:Value} {j:Nat} {Q:Fin→Shared→Prop} {c:Value} {dd:Option Addr} {n:Nat} {slo:Array (Option Value)} (ho:s.heap.get? a=some ⟨c,dd,.seq vs.toArray n,slo⟩) (hi:-1000000000≤i∧i < 1000000000) (hj:seqIndex? i vs.length=some j) (hlt:j < vs.length)
    (k:∀ h',Heap.SameBut a s.heap h'→(∃ n',h'.get? a=some ⟨c,dd,.seq (vs.set j v).toArray n',slo⟩)→Q (.done (.ret .none)) { s with heap:=h' }) :
    wpAny (model C.prog C.w) A (Builtin.«list.__setitem__» ⟨[.ref a,.int i t,v],[]⟩) Q E s:=by
  have hf:Builtin.List.listFitsIndex i=true:=by
    unfold Builtin.List.listFitsIndex
    simp only [Bool.and_eq_true,decide_eq_true_eq]
    (first | lia | omega)
  have x:=List.getElem?_eq_getElem hlt
  have fin:∀ (B:Sem Fin),B=(do setSeqItemAt a j v; pure (.done (.ret .none)))→wpAny (model C.prog C.w) A B Q E s:=by
    rintro B rfl
    refine wpAny_bind (wpAny_setSeqItemAt ho rfl (wpAny_pure ?_))
    have gt:=mapSeq_at ho (fun xs=>xs.setIfInBounds j v)
    have e:vs.toArray.setIfInBounds j v=(vs.set j v).toArray:=by simp
    rw [e] at gt
    exact k _ (Heap.SameBut.update ..) ⟨_,gt⟩
  show wpAny _ _ (Builtin.List.listSubscript? (.int i t) >>= _) _ _ s
  refine wpAny_bind (wpAny_listSubscript_int hf ?_)
  dsimp only
  have hx:vs.toArray[j]?=some vs[j]:=by simpa using x
  cases i with
  | ofNat m =>
    have e:seqIndex? (Int.ofNat m) vs.length=some m∨seqIndex? (Int.ofNat m) vs.length=none:=by
      unfold seqIndex?
      dsimp only
      split
      · rename_i h0; exact absurd h0 (by simp)
      · split
        · exact .inl rfl
        · exact .inr rfl
    have:j=m:=by
      rcases e with e | e
      · rw [e] at hj; cases hj; rfl
      · rw [e] at hj; cases hj
    subst this
    show wpAny _ _ ((seqItemAt a j >>= _) >>= _) _ _ _
    refine wpAny_bind (wpAny_bind (wpAny_seqItemAt ho rfl ?_))
    rw [hx]
    exact wpAny_pure (fin _ rfl)
  | negSucc m =>
    show wpAny _ _ ((Builtin.List.listItems (.ref a) >>= _) >>= _) _ _ _
    unfold Builtin.List.listItems
    refine wpAny_bind (wpAny_bind (wpAny_bind (wpAny_seqItems ho rfl (wpAny_pure ?_))))
    rw [List.size_toArray,hj]
    dsimp only [Option.bind_some]
    rw [hx]
    exact wpAny_pure (fin _ rfl)
set_option tactic.hygienic false
theorem VRs.set {h:Heap} {xs:List AV} {vs:List Value} (q:VRs C ρ h xs vs) {j:Nat} {x:AV} {v:Value} (qx:VR C ρ h x v):VRs C ρ h (xs.set j x) (vs.set j v):=by
  refine q.ind (P:=fun xs vs=>∀ j,VRs C ρ h (xs.set j x) (vs.set j v)) (fun uu=>.nil) (fun a b ih j=>?_) j
  cases j with
  | zero=>exact .cons qx b
  | succ j=>exact .cons a (ih j)
noncomputable def putAt (l:Nat) (i:Int) (z:AV) (σ:St):Option St:=(lstAt σ l).bind fun xs=>if -1000000000≤i∧i < 1000000000 then (seqIndex? i xs.length).bind fun j=>gd (decide (j < xs.length)) (σ.set l (.list (xs.set j z))) else none
theorem put_rel (H:CfgOk C) (HC:ClsOk C) (HA:AccOk C) (HI:ItemOk C) {l:Nat} {i:Int} {t:Tok} {z:AV} {vo v:Value} {Q:Unit→Shared→Prop} (h:putAt l i z σ=some σ') (R:Rel C ρ σ s) (qo:VR C ρ s.heap (.loc l) vo) (qz:VR C ρ s.heap z v)
    (k:∀ s',Rel C ρ σ' s'→Step C [] ρ ρ s.heap s'.heap→Q () s'):wpAny (model C.prog C.w) A (setItem vo (.int i t) v) Q E s:=by
  refine oB h fun xs hl h=>sf h fun hi h=>oB h fun j hj h=>oG h fun hlt e=>R.list_e (lstAt_inv hl) qo fun a vs n e0 ho hvs=>?_
  refine setItem_seq H HC HA HI (R.kin H) (.list ho) (set_int ho hi (by rw [hvs.length]; exact hj) (by rw [hvs.length]; exact of_decide_eq_true hlt) fun h' hsb hget=>⟨_,rfl,x1_1 hget fun n'' gt=>?_⟩)
  have S:Step C [] ρ ρ s.heap h':=stepMut (.inr ⟨_,List.mem_of_getElem? e0,.inl rfl⟩) hsb
  exact x0_2 (R.upd (n:=s.toks) e0 (.inl rfl) hsb (.list gt ((hvs.go S).set (qz.go S))) rfl) fun R' S'=>k _ (e▸R') S'
noncomputable def augIdxS (g ix:EM) (op:Operator) (f:EM):SM:=fun lc σ=>(g lc σ).bind fun o=>o.1.loc?.bind fun l=>(ix lc o.2).bind fun q=>q.1.int?.bind fun i=>(aget q.2 o.1 i).bind fun x=>(f lc q.2).bind fun r=>(ainp op x r.1).bind fun z=>(putAt l i z r.2).map (.next,lc,·)
set_option tactic.hygienic true
theorem den_augIdx (H:CfgOk C) (HC:ClsOk C) (HA:AccOk C) (HI:ItemOk C) {o i value:Expr} {op:Operator} {g ix f:EM} (D1:DenE C d env vars o g) (D2:DenE C d env vars i ix) (D3:DenE C d env vars value f)
    (hst:∀ ov iv new,augStore i ov iv new=(do holding [new,ov,iv] (setItem ov iv new); release [new,ov,iv] []; pure .next)) :
    DenS C d env vars (.AugAssign (.Subscript o i p') op value p) (augIdxS g ix op f):=by
  intro lc σ fl lc' σ' hf A Q E s ρ hA R lr kk
  refine oB hf fun oo e1 hf=>oB hf fun l el hf=>oB hf fun iq e2 hf=>oB hf fun iv ei hf=>oB hf fun x hx hf=>oB hf fun y e3 hf=>oB hf fun z hz hf=>oM hf fun σ₅ hp e9=>?_
  refine wpAny_AugAssign_SubscriptAny (D1 _ _ _ _ e1 A _ E s ρ hA R lr fun ov s₁ ρ₁ R₁ S₁ q₁=>D2 _ _ _ _ e2 A _ E s₁ ρ₁ hA R₁ (lr.go S₁) fun vi s₂ ρ₂ R₂ S₂ q₂=>?_) hst
  refine q₂.int_of ei fun ti=>(get_rel H HC HA HI hx R₂ (q₁.go S₂) fun w n qw=>?_).2
  refine D3 _ _ _ _ e3 A _ E _ ρ₂ hA R₂.toks (lr.go (S₁.trans S₂)) fun w s₃ ρ₃ R₃ S₃ q₃=>?_
  refine ainp_rel R₃ (qw.go S₃) q₃ hz fun u s₄ R₄ S₄ q₄=>?_
  have T:=(S₂.trans S₃).trans S₄
  exact put_rel H HC HA HI hp R₄ ((AV.loc_inv el▸q₁).go T) q₄ fun s' R' S'=>kfs kk e9 _ s' ρ₃ R' ((S₁.trans T).trans S').of_nil (lr.go ((S₁.trans T).trans S')) .next
end
section
variable {C:Cfg} {ρ:Rho} {σ σ':St} {s:Shared} {A:Around} {E:Value→Shared→Prop} {a:Addr} {vs:List Value} {env:Env} {vars:List Str} {lc:Lc} {p p' pt:Pos} {d:Nat}
theorem tuple_end {it l:Addr} {i:Nat} {items} {Q:Option Value→Shared→Prop} (hh:A.handled=none) (hit:s.heap.IsTupleIter it l i) (hl:s.heap.IsTuple l items) (hx:items[i]?=none)
    (hQ:∀ h',Heap.ExtBut it s.heap h'→s.heap.objs.size≤h'.objs.size→Q none { s with heap:=h' }):wpAny (model C.prog C.w) A (pyNext (.ref it)) Q E s:=by
  (refine x1_3 (id hit) fun o ho hc hd=>?_)
  refine x1_2 hl fun ol hol z=>x1_1 z.2 fun nl hdl=>?_
  unfold pyNext
  refine wpAny_bind (wpAny_attempt (wpAny_callSpecial?_slot (name:=Str.ofString "__next__") hit.typeIs F.slot_tuple_iterator_next
    (wpAny_call_entry F.slot_tuple_iterator_next hit.typeIs F.entry_tuple_iterator_next ?_ (F.args_tuple_iterator_next_1 _))))
  show wpAny _ _ (field (.ref it) 0 >>= _) _ _ s
  refine wpAny_bind (wpAny_field ho hd (x:=.ref l) rfl ?_)
  show wpAny _ _ (if (Value.ref l == Value.none)=true then _ else _) _ _ s
  rw [if_neg (show ¬ ((Value.ref l == Value.none)=true) from Bool.false_ne_true)]
  show wpAny _ _ (field (.ref it) 1 >>= _) _ _ s
  refine wpAny_bind (wpAny_field ho hd (x:=.int i 0) rfl ?_)
  show wpAny _ _ (seqItems? (.ref l) >>= _) _ _ s
  refine wpAny_bind (wpAny_seqItems hol hdl ?_)
  simp only [Int.toNat_natCast,hx]
  exact stop_iter hh ho hd (by simp) _ hQ
theorem unpack_tuple {t:Addr} {items:Array Value} {Q:List Value→Shared→Prop} (hh:A.handled=none) (ht:s.heap.IsTuple t items)
    (hQ:∀ h',(∀ b o,s.heap.get? b=some o→h'.get? b=some o)→s.heap.objs.size≤h'.objs.size→Q items.toList { s with heap:=h' }):wpAny (model C.prog C.w) A (unpackItems (.ref t) items.size none) Q E s:=by
  have hlt:t≠s.heap.objs.size:=by (refine x1_2 (ht) fun o ho uu=>?_; clear ht); exact Nat.ne_of_lt (Heap.lt_size ho)
  unfold unpackItems
  refine wpAny_bind ?_
  unfold notIterableAtAll
  refine wpAny_bind (wpAny_specialOf ht.typeIs F.slot_tuple_iter.lookup ?_)
  refine wpAny_pure ?_
  simp only [Bool.false_eq_true,if_false]
  refine wpAny_bind (wpAny_holding (wpAny_pyIter_tuple ht ?_))
  refine wpAny_bind (wpAny_holding (wpAny_draw_tuple hlt items.size 0 _ _ ⟨_,Heap.get?_push_size _ rfl,rfl,rfl⟩ (ht.push _) (by (first | lia | omega)) fun h₁ hit₁ hs₁=>?_))
  have hall:List.take items.size (List.drop 0 items.toList)=items.toList:=by
    rw [List.drop_zero]; exact List.take_of_length_le (by simp)
  rw [hall]
  rw [if_neg (by simp)]
  have ht₁:h₁.IsTuple t items:=(ht.push _).extBut hs₁.extBut hlt
  refine wpAny_bind (wpAny_holding (tuple_end hh hit₁ ht₁ (by simp) fun h₂ he₂ z₂=>?_))
  simp only [Option.isSome_none,Bool.false_eq_true,if_false]
  have z1:h₁.objs.size=s.heap.objs.size + 1:=by rw [hs₁.1]; exact Heap.size_push ..
  refine wpAny_pure (hQ h₂ (fun b o e=>?_) (by have:h₁.objs.size≤h₂.objs.size:=z₂; (first | lia | omega)))
  have hb:b≠s.heap.objs.size:=Nat.ne_of_lt (Heap.lt_size e)
  exact he₂ b o hb (hs₁.extBut b o hb (Heap.get?_push_of_some _ e))
noncomputable def unpS (i j:Nat) (f:EM):SM:=fun lc σ=>(f lc σ).bind fun p=>p.1.tup?.bind fun xs=>(arg2 xs).bind fun xy=>(putL lc i xy.1).bind fun lc₁=>(putL lc₁ j xy.2).map (.next,·,p.2)
theorem store_two (He:EnvOk env vars) {i j:Nat} {n m:Str} (hi:vars[i]?=some n) (hj:vars[j]?=some m) {lc lc₁ lc₂:Lc} {x y:AV} {v w:Value} (h1:putL lc i x=some lc₁) (h2:putL lc₁ j y=some lc₂) {k0:Nat} {t:Addr} {nn:Nat} {pa pb:Pos} (hh:A.handled=none) (R:Rel C ρ σ s) (lr:LcR C ρ s.heap env.locals vars lc)
    (ho:s.heap.get? t=some (tupObj [v,w] nn)) (qx:VR C ρ s.heap x v) (qy:VR C ρ s.heap y w) {Q:Unit→Shared→Prop}
    (k:∀ s',Rel C ρ σ s'→Step C [env.locals] ρ ρ s.heap s'.heap→LcR C ρ s'.heap env.locals vars lc₂→Q () s'):wpAny (model C.prog C.w) A (assign (.Tuple [.Name n pa,.Name m pb] k0 pt) env (.ref t)) Q E s:=by
  rw [arm_assign_Tuple]
  refine wpAny_bind (wpAny_standAt ?_)
  unfold unpack
  refine wpAny_bind (wpAny_holding (unpack_tuple (items:=#[v,w]) hh ⟨_,ho,rfl,_,rfl⟩ fun h' kp z=>?_))
  have R':Rel C ρ σ { s with heap:=h' }:=R.same kp z R.gens rfl rfl
  have S':Step C [] ρ ρ s.heap h':=.same kp z
  show wpAny _ _ (do holding [w] (assign (.Name n pa) env v); do holding [] (assign (.Name m pb) env w); pure ()) _ _ _
  refine wpAny_bind (wpAny_holding (wpAny_assign_Name (store_name He hi h1 R' (lr.go S') (qx.go S') fun s₁ R₁ S₁ l₁=>?_)))
  have nsW:∀ a o vs n,a∈[env.locals]→h'.get? a=some o→o.data≠.seq vs n:=ns_noSeq (lr.go S').1.choose_spec.1
  refine wpAny_bind (wpAny_holding (wpAny_assign_Name (store_name He hj h2 R₁ l₁ ((qy.go S').step S₁ nsW) fun s₂ R₂ S₂ l₂=>wpAny_pure ?_)))
  exact k s₂ R₂ ((S'.of_nil.trans S₁).trans S₂) l₂
end
noncomputable def loopS (nx:St→Nat→Option (Option AV)) (st:Lc→AV→Option Lc) (B O:SM):Nat→Nat→SM
  | 0,_,_,_=>none
  | fuel + 1,i,lc,σ=>(nx σ i).bind fun o=>match o with
    | some x=>(st lc x).bind fun lc₁=>(B lc₁ σ).bind fun t=>match t.1 with
      | .next=>loopS nx st B O fuel (i + 1) t.2.1 t.2.2
      | .cont=>loopS nx st B O fuel (i + 1) t.2.1 t.2.2
      | .brk=>some (.next,t.2)
      | .ret v=>some (.ret v,t.2)
    | none=>O lc σ
structure LoopAt (C:Cfg) (env:Env) (vars:List Str) (Is:List Addr) (nx:St→Nat→Option (Option AV)) (st:Lc→AV→Option Lc) (B O:SM) (Inv:Nat→Rho→Heap→Prop) (r:Fl × Lc × St) (ρ:Rho) (h:Heap) (n i:Nat) (lc:Lc) (σ:St) (ρ₁:Rho) (u:Shared):Prop where
  run:loopS nx st B O n i lc σ=some r
  R:Rel C ρ₁ σ u
  l:LcR C ρ₁ u.heap env.locals vars lc
  I:Inv i ρ₁ u.heap
  m:∀ J∈Is,¬ Mut C ρ₁ J
  S:Step C (env.locals :: Is) ρ ρ₁ h u.heap
section
variable {C:Cfg} {ρ ρ':Rho} {σ σ':St} {s:Shared} {A:Around} {E:Value→Shared→Prop} {env:Env} {vars:List Str} {lc:Lc} {d:Nat}
theorem Rel.iter (R:Rel C ρ σ s) {I:Addr} {o:Obj} {h':Heap} {n:Nat} (ho:s.heap.get? I=some o) (hno:∀ vs n,o.data≠.seq vs n) (hcl:o.cls≠.type "code") (hm:¬ Mut C ρ I) (hl:C.s₁.heap.objs.size≤I)
    (k:∀ b o,b≠I→s.heap.get? b=some o→h'.get? b=some o) (z:s.heap.objs.size≤h'.objs.size):Rel C ρ σ { s with heap:=h',toks:=n }∧Step C [I] ρ ρ s.heap h' :=
  R.moves (Is:=[I]) (fun J hJ=>List.mem_singleton.mp hJ▸⟨o,ho,hno,fun z=>absurd z hcl⟩) (fun J hJ=>List.mem_singleton.mp hJ▸hm) (fun J hJ=>List.mem_singleton.mp hJ▸hl) (fun b o hb e=>k b o (fun z=>hb (List.mem_singleton.mpr z)) e) z
theorem LcR.iter {I L:Addr} {h h':Heap} {o:Obj} (q:LcR C ρ h L vars lc) (S:Step C [I] ρ ρ h h') (hne:L≠I) (ho:h.get? I=some o) (hno:∀ vs n,o.data≠.seq vs n):LcR C ρ h' L vars lc:=by
  refine ⟨x1_2 q.1 fun m hn hv=>⟨m,hn.at fun o e=>S.keep _ _ e q.2.1 (by rw [List.mem_singleton]; exact hne),fun i x e=>x2_3 (hv i x e) fun n v a b c=>⟨n,v,a,b,c.step S (one_noSeq ho hno)⟩⟩,q.2.1,q.2.2⟩
structure IterOk (C:Cfg) (d:Nat) (env:Env) (vars:List Str) (I:Addr) (Is:List Addr) (target:Expr) (nx:St→Nat→Option (Option AV)) (st:Lc→AV→Option Lc) (Inv:Nat→Rho→Heap→Prop):Prop where
  keep:∀ i ρ ρ' h h',Inv i ρ h→(∀ J∈Is,¬ Mut C ρ J)→(∀ a o vs n,a∈[env.locals]→h.get? a=some o→o.data≠.seq vs n)→Step C [env.locals] ρ ρ' h h'→Inv i ρ' h'
  here:∀ i ρ h,Inv i ρ h→∀ J∈Is,∃ o,h.get? J=some o
  next:∀ (A:Around) i lc lc₁ σ ρ s x (Q:Shared→Prop) (E':Value→Shared→Prop),AOk C d A→Rel C ρ σ s→LcR C ρ s.heap env.locals vars lc→Inv i ρ s.heap→(∀ J∈Is,¬ Mut C ρ J)→nx σ i=some (some x)→st lc x=some lc₁ →
    (∀ s',Rel C ρ σ s'→Step C (env.locals :: Is) ρ ρ s.heap s'.heap→LcR C ρ s'.heap env.locals vars lc₁→Inv (i + 1) ρ s'.heap→Q s') →
    wpAny (model C.prog C.w) A (pyNext (.ref I)) (fun r s₁=>∃ v,r=some v∧wpAny (model C.prog C.w) A (letOwnedTupleGo target (.ref I) v) (fun _ s₁'=>wpAny (model C.prog C.w) A (assign target env v) (fun _ s₂=>Q s₂) E' s₁') E' s₁) E' s
  stop:∀ (A:Around) i lc σ ρ s (Q:Shared→Prop) (E':Value→Shared→Prop),AOk C d A→Rel C ρ σ s→LcR C ρ s.heap env.locals vars lc→Inv i ρ s.heap→(∀ J∈Is,¬ Mut C ρ J)→nx σ i=some none →
    (∀ s',Rel C ρ σ s'→Step C (env.locals :: Is) ρ ρ s.heap s'.heap→LcR C ρ s'.heap env.locals vars lc→Q s') →
    wpAny (model C.prog C.w) A (pyNext (.ref I)) (fun r s₁=>r=none∧Q s₁) E' s
set_option tactic.hygienic true
theorem loop_turn {I:Addr} {Is:List Addr} {target:Expr} {body:List Stmt} {nx:St→Nat→Option (Option AV)} {st:Lc→AV→Option Lc} {B O:SM} {Inv:Nat→Rho→Heap→Prop} (IT:IterOk C d env vars I Is target nx st Inv) (DB:DenB C d env vars body B) (hA:AOk C d A)
    {n i:Nat} {fl:Fl} {lc lc₁ lc':Lc} {σ₁:St} {ρ₁:Rho} {u s₂:Shared} (L:LoopAt C env vars Is nx st B O Inv (fl,lc',σ') ρ s.heap (n + 1) i lc σ₁ ρ₁ u) (R₂:Rel C ρ₁ σ₁ s₂) (S₂:Step C (env.locals :: Is) ρ₁ ρ₁ u.heap s₂.heap) (l₂:LcR C ρ₁ s₂.heap env.locals vars lc₁) (I₂:Inv (i + 1) ρ₁ s₂.heap)
    (hf:((B lc₁ σ₁).bind fun t=>match t.1 with
      | .next=>loopS nx st B O n (i + 1) t.2.1 t.2.2
      | .cont=>loopS nx st B O n (i + 1) t.2.1 t.2.2
      | .brk=>some (.next,t.2)
      | .ret v=>some (.ret v,t.2))=some (fl,lc',σ')) {P:Result→Shared→Prop} {E':Value→Shared→Prop}
    (k:∀ w s' ρ',Rel C ρ' σ' s'→Step C (env.locals :: Is) ρ ρ' s.heap s'.heap→LcR C ρ' s'.heap env.locals vars lc'→FlR C ρ' s'.heap fl w→P (.ok w) s') :
    wpAny (model C.prog C.w) A (execs body env) (fun f s₃=>match f with
      | .next=>∃ m,m < n + 1∧∃ i lc σ₁ ρ₁,LoopAt C env vars Is nx st B O Inv (fl,lc',σ') ρ s.heap m i lc σ₁ ρ₁ s₃
      | .cont=>∃ m,m < n + 1∧∃ i lc σ₁ ρ₁,LoopAt C env vars Is nx st B O Inv (fl,lc',σ') ρ s.heap m i lc σ₁ ρ₁ s₃
      | .brk=>P (.ok .next) s₃
      | .ret v=>P (.ok (.ret v)) s₃) E' s₂:=by
  refine oB hf fun t hB hf=>?_
  rcases t with ⟨f1,lc₂,σ₂⟩
  refine DB _ _ _ _ _ hB A _ _ s₂ ρ₁ hA R₂ l₂ fun w s₃ ρ₃ R₃ S₃ l₃ q₃=>?_
  have ST:=(L.S.trans S₂).trans (S₃.weaken (W':=env.locals :: Is) fun a ha=>by rw [List.mem_singleton.mp ha]; exact List.mem_cons_self)
  have more:loopS nx st B O n (i + 1) lc₂ σ₂=some (fl,lc',σ')→∃ m,m < n + 1∧∃ i lc σ₁ ρ₁,LoopAt C env vars Is nx st B O Inv (fl,lc',σ') ρ s.heap m i lc σ₁ ρ₁ s₃ :=
    fun hf'=>⟨n,Nat.lt_succ_self _,i + 1,lc₂,σ₂,ρ₃,hf',R₃,l₃,IT.keep _ _ _ _ _ I₂ L.m (ns_noSeq l₂.1.choose_spec.1) S₃,(fun J hJ=>let ⟨o,ho⟩:=IT.here _ _ _ I₂ J hJ; Mut.grow S₃ (Heap.lt_size ho) (L.m J hJ)),ST⟩
  cases q₃ with
  | next=>exact more hf
  | cont=>exact more hf
  | brk=>exact kfS k hf _ _ ρ₃ R₃ ST l₃ .next
  | ret q=>exact kfS k hf _ _ ρ₃ R₃ ST l₃ (.ret q)
theorem loop_rel {I:Addr} {Is:List Addr} {target:Expr} {body orelse:List Stmt} {nx:St→Nat→Option (Option AV)} {st:Lc→AV→Option Lc} {B O:SM} {Inv:Nat→Rho→Heap→Prop} (IT:IterOk C d env vars I Is target nx st Inv) (DB:DenB C d env vars body B) (DO:DenB C d env vars orelse O) (hA:AOk C d A)
    {fuel i:Nat} {fl:Fl} {lc':Lc} (hf:loopS nx st B O fuel i lc σ=some (fl,lc',σ')) (R:Rel C ρ σ s) (lr:LcR C ρ s.heap env.locals vars lc) (hI:Inv i ρ s.heap) (hm:∀ J∈Is,¬ Mut C ρ J) {P:Result→Shared→Prop}
    (k:∀ w s' ρ',Rel C ρ' σ' s'→Step C (env.locals :: Is) ρ ρ' s.heap s'.heap→LcR C ρ' s'.heap env.locals vars lc'→FlR C ρ' s'.heap fl w→P (.ok w) s') :
    codeAny (model C.prog C.w) A (.forLoop target (.ref I) body orelse env) P s:=by
  refine codeAny_forLoop_any (fun n u=>∃ i lc σ₁ ρ₁,LoopAt C env vars Is nx st B O Inv (fl,lc',σ') ρ s.heap n i lc σ₁ ρ₁ u) ?_ fuel ⟨i,lc,σ,ρ,hf,R,lr,hI,hm,.refl⟩
  rintro n u ⟨i,lc,σ₁,ρ₁,L⟩
  cases n with
  | zero=>exact nomatch L.run
  | succ n =>
    refine oB L.run fun o hx hf=>?_
    cases o with
    | some x =>
      refine oB hf fun lc₁ hst hf=>?_
      refine wpAny_mono (IT.next A i lc lc₁ σ₁ ρ₁ u x (fun s₂=>Rel C ρ₁ σ₁ s₂∧Step C (env.locals :: Is) ρ₁ ρ₁ u.heap s₂.heap∧LcR C ρ₁ s₂.heap env.locals vars lc₁∧Inv (i + 1) ρ₁ s₂.heap) _ hA L.R L.l L.I L.m hx hst fun s₂ a b c e=>⟨a,b,c,e⟩) (fun r s₁ h₁=>x1_2 h₁ fun v er h₁=>?_) fun uu uu z=>z
      rw [er]
      exact wpAny_mono h₁ (fun uu s₁' h₁'=>wpAny_mono h₁' (fun uu s₂ h₂=>loop_turn IT DB hA L h₂.1 h₂.2.1 h₂.2.2.1 h₂.2.2.2 hf k) fun uu uu z=>z) fun uu uu z=>z
    | none =>
      refine wpAny_mono (IT.stop A i lc σ₁ ρ₁ u (fun s₂=>Rel C ρ₁ σ₁ s₂∧Step C (env.locals :: Is) ρ₁ ρ₁ u.heap s₂.heap∧LcR C ρ₁ s₂.heap env.locals vars lc) _ hA L.R L.l L.I L.m hx fun s₂ a b c=>⟨a,b,c⟩) (fun r s₁ h₁=>x0_4 h₁ fun er R₂ S₂ l₂=>?_) fun uu uu z=>z
      rw [er]
      exact DO _ _ _ _ _ hf A _ _ s₁ ρ₁ hA R₂ l₂ fun w s₃ ρ₃ R₃ S₃ l₃ q₃=>k _ _ ρ₃ R₃ ((L.S.trans S₂).trans (S₃.weaken fun a ha=>by rw [List.mem_singleton.mp ha]; exact List.mem_cons_self)) l₃ q₃
end
theorem runs_size {M:Model} {Γ:Ctx} {p:Pos} {t:Sem Fin} {fs:List Frame} {s s':Shared} {e:End} (h:Runs M Γ p t fs s e s'):s.heap.objs.size≤s'.heap.objs.size:=by
  induction h <;> (try simp only [Shared.setGen,Heap.size_push,Heap.size_after_update] at *) <;> (first | lia | omega)
theorem wakes_size {M:Model} {Γ:Ctx} {p:Pos} {g:Nat} {r:Resume} {s s':Shared} {res:GenResult} (h:Wakes M Γ p g r s res s'):s.heap.objs.size≤s'.heap.objs.size:=by
  unfold Wakes at h
  split at h
  · exact h.elim
  · split at h
    · (refine x2_4 (h) fun e₁ s₁ hr uu uu rr5=>?_; clear h; subst rr5); exact (runs_size hr:(s.setGen g .running).heap.objs.size≤s₁.heap.objs.size)
    · rw [h.2]; exact Nat.le_refl _
    · rw [h.2]; exact Nat.le_refl _
  · (refine x2_4 (h) fun e₁ s₁ hr uu uu rr5=>?_; clear h; subst rr5); exact (runs_size hr:(s.setGen g .running).heap.objs.size≤s₁.heap.objs.size)
  · rw [h.2]; exact Nat.le_refl _
  · rw [h.2]; exact Nat.le_refl _
theorem wp_size {α:Type} (M:Model) (Γ:Ctx) (n:Nat) (t:Sem α):∀ (Q:α→Pos→Shared→Prop) (E:Value→Pos→Shared→Prop) (p:Pos) (s:Shared),n≤s.heap.objs.size→Sem.wp M Γ t Q E p s →
    Sem.wp M Γ t (fun a p' s'=>n≤s'.heap.objs.size∧Q a p' s') (fun e p' s'=>n≤s'.heap.objs.size∧E e p' s') p s:=by
  induction t with
  | pure a=>intro Q E p s hn h; exact ⟨hn,h⟩
  | raise e=>intro Q E p s hn h; exact ⟨hn,h⟩
  | unsupported _=>intro Q E p s _ h; exact h
  | finish _=>intro Q E p s _ h; exact h
  | rule _ k ih=>intro Q E p s hn h; exact ih () Q E p s hn h
  | «at» p' k ih=>intro Q E p s hn h; exact ih () Q E p' s hn h
  | load a _ k ih=>intro Q E p s hn h; (refine x1_2 (h) fun o ho h=>?_); exact ⟨o,ho,ih o Q E p s hn h⟩
  | update a _ f k ih=>intro Q E p s hn h; exact ⟨h.1,ih () Q E p _ (by rw [Heap.size_after_update]; exact hn) h.2⟩
  | loadIfAlive a k ih=>intro Q E p s hn h; exact ih _ Q E p s hn h
  | point _ k ih=>intro Q E p s hn h; exact ih () Q E p s hn h
  | register _ _=>intro Q E p s _ h; exact h
  | alloc o k ih=>intro Q E p s hn h; exact ih _ Q E p _ (by show n≤(s.heap.push o).objs.size; rw [Heap.size_push]; (first | lia | omega)) h
  | fresh k ih=>intro Q E p s hn h; exact ih _ Q E p _ hn h
  | ask k ih=>intro Q E p s hn h; exact ih _ Q E p s hn h
  | choose src m k ih=>intro Q E p s hn h; exact ⟨h.1,ih _ Q E p _ hn h.2⟩
  | os q _ k ih=>intro Q E p s hn h; exact ih _ Q E p _ hn h
  | call c hd _ _ k ih=>intro Q E p s hn h; (refine x2_2 (h) fun r s' hr h=>?_); exact ⟨r,s',hr,ih r Q E p s' (Nat.le_trans hn (runs_size hr)) h⟩
  | handled own k ih=>intro Q E p s hn h; exact ih _ Q E p s hn h
  | genState g k ih=>intro Q E p s hn h; (refine x1_2 (h) fun st hs h=>?_); exact ⟨st,hs,ih _ Q E p s hn h⟩
  | newGen c k ih=>intro Q E p s hn h; exact ih _ Q E p _ hn h
  | resume g r _ k ih=>intro Q E p s hn h; (refine x2_2 (h) fun res s' hw h=>?_); exact ⟨res,s',hw,ih res Q E p s' (Nat.le_trans hn (wakes_size hw)) h⟩
  | yield _ _ _ _=>intro Q E p s _ h; exact h
  | stack k ih=>intro Q E p s hn h; exact ih _ Q E p s hn h
  | fork _ _=>intro Q E p s _ h; exact h
  | thread k ih=>intro Q E p s hn h; exact ih _ Q E p s hn h
  | await _ _ _ _ _=>intro Q E p s _ h; exact h
theorem with_size {α:Type} {M:Model} {A:Around} {s:Shared} {t:Sem α} {Q:α→Shared→Prop} {E:Value→Shared→Prop}
    (h:wpAny M A t (fun a s'=>s.heap.objs.size≤s'.heap.objs.size→Q a s') (fun e s'=>s.heap.objs.size≤s'.heap.objs.size→E e s') s):wpAny M A t Q E s :=
  fun Γ p hΓ=>Sem.wp_mono M Γ t (fun uu uu uu x=>x.2 x.1) (fun uu uu uu x=>x.2 x.1) _ _ (wp_size M Γ s.heap.objs.size t _ _ p s (Nat.le_refl _) (h Γ p hΓ))
section
variable {C:Cfg} {ρ ρ':Rho} {σ σ':St} {s:Shared} {A:Around} {E:Value→Shared→Prop} {env:Env} {vars:List Str} {lc:Lc} {d:Nat}
structure OneIter (C:Cfg) (env:Env) (I:Addr) (nx:St→Nat→Option (Option AV)) (Inv:Nat→Rho→Heap→Prop):Prop where
  lo:C.s₁.heap.objs.size≤I
  ne:env.locals≠I
  kind:∀ i ρ h,Inv i ρ h→∃ o,h.get? I=some o∧(∀ vs n,o.data≠.seq vs n)∧o.cls≠.type "code"
  keep:∀ i ρ ρ' h h',Inv i ρ h→¬ Mut C ρ I→(∀ a o vs n,a∈[env.locals]→h.get? a=some o→o.data≠.seq vs n)→Step C [env.locals] ρ ρ' h h'→Inv i ρ' h'
  item:∀ (A:Around) i σ ρ s x (Q:Option Value→Shared→Prop) (E':Value→Shared→Prop),A.handled=none→Rel C ρ σ s→Inv i ρ s.heap→nx σ i=some (some x) →
    (∀ v h' tk,VR C ρ s.heap x v→Inv (i + 1) ρ h'→(∀ b o,b≠I→s.heap.get? b=some o→h'.get? b=some o)→Q (some v) { s with heap:=h',toks:=tk })→wpAny (model C.prog C.w) A (pyNext (.ref I)) Q E' s
  done:∀ (A:Around) i σ ρ s (Q:Option Value→Shared→Prop) (E':Value→Shared→Prop),A.handled=none→Rel C ρ σ s→Inv i ρ s.heap→nx σ i=some none →
    (∀ h' tk,(∀ b o,b≠I→s.heap.get? b=some o→h'.get? b=some o)→Q none { s with heap:=h',toks:=tk })→wpAny (model C.prog C.w) A (pyNext (.ref I)) Q E' s
set_option tactic.hygienic true
theorem OneIter.ok {I:Addr} {nx:St→Nat→Option (Option AV)} {Inv:Nat→Rho→Heap→Prop} (W:OneIter C env I nx Inv) (He:EnvOk env vars) {j:Nat} {n:Str} {pn:Pos} (hj:vars[j]?=some n) :
    IterOk C d env vars I [I] (.Name n pn) nx (fun lc x=>putL lc j x) Inv where
  keep i ρ ρ' h h' hI hm:=W.keep i ρ ρ' h h' hI (hm I List.mem_cons_self)
  here i ρ h hI J hJ:=let ⟨o,ho,_⟩:=W.kind i ρ h hI; ⟨o,by rw [List.mem_singleton.mp hJ]; exact ho⟩
  next A i lc lc₁ σ ρ s x Q E' hA R lr hI hm hx hst k:=by
    replace hm:=hm I List.mem_cons_self
    (refine x1_3 (W.kind i ρ s.heap hI) fun o ho hno hcl=>?_)
    refine with_size (W.item A i σ ρ s x _ _ hA.1 R hI hx fun v h' tk qv hI' kp z=>?_)
    (refine x0_2 (R.iter (n:=tk) ho hno hcl hm W.lo kp z) fun R' S'=>?_)
    have l':=lr.iter S' W.ne ho hno
    refine ⟨v,rfl,wpAny_pure ?_⟩
    refine wpAny_assign_Name (store_name He hj hst R' l' (qv.step S' (one_noSeq ho hno)) fun s₂ R₂ S₂ l₂=>?_)
    have I₂:Inv (i + 1) ρ s₂.heap:=W.keep _ _ _ _ _ hI' hm (ns_noSeq l'.1.choose_spec.1) S₂
    exact k s₂ R₂ ((S'.weaken fun a ha=>by simp at ha; simp [ha]).trans (S₂.weaken fun a ha=>by simp at ha; simp [ha])) l₂ I₂
  stop A i lc σ ρ s Q E' hA R lr hI hm hx k:=by
    replace hm:=hm I List.mem_cons_self
    (refine x1_3 (W.kind i ρ s.heap hI) fun o ho hno hcl=>?_)
    refine with_size (W.done A i σ ρ s _ _ hA.1 R hI hx fun h' tk kp z=>?_)
    (refine x0_2 (R.iter (n:=tk) ho hno hcl hm W.lo kp z) fun R' S'=>?_)
    exact ⟨rfl,k _ R' (S'.weaken fun a ha=>by simp at ha; simp [ha]) (lr.iter S' W.ne ho hno)⟩
set_option tactic.hygienic false
theorem Step.dropI {Is:List Addr} {h h':Heap} (S:Step C (env.locals :: Is) ρ ρ' h h') (hI:∀ J∈Is,h.objs.size≤J):Step C [env.locals] ρ ρ' h h' :=
  ⟨S.size,fun b o e n w=>S.keep b o e n (by
    intro m
    rcases List.mem_cons.mp m with m | m
    · exact w (by rw [m]; exact List.mem_cons_self)
    · exact absurd (Heap.lt_size e) (Nat.not_lt.mpr (hI b m))),S.grow⟩
theorem one_fresh {I:Addr} (h:¬ Mut C ρ I):∀ J∈[I],¬ Mut C ρ J:=fun J hJ=>by rw [List.mem_singleton.mp hJ]; exact h
theorem one_above {I:Addr} {h:Heap} (hI:h.objs.size≤I):∀ J∈[I],h.objs.size≤J:=fun J hJ=>by rw [List.mem_singleton.mp hJ]; exact hI
end
noncomputable def nxL (src:AV):St→Nat→Option (Option AV):=fun σ i=>(asList σ src).map (·[i]?)
noncomputable def signAV (c:Nat):AV:=.str ⟨#[c]⟩
noncomputable def nxS (x:Str):St→Nat→Option (Option AV):=fun _ i=>some (x.cps[i]?.map signAV)
section
variable {C:Cfg} {ρ ρ':Rho} {σ σ':St} {s:Shared} {A:Around} {E:Value→Shared→Prop} {env:Env} {vars:List Str} {lc:Lc} {d:Nat}
theorem listIter_kind {h:Heap} {I a:Addr} {i:Nat} (x:h.IsListIter I a i):∃ o,h.get? I=some o∧(∀ vs n,o.data≠.seq vs n)∧o.cls≠.type "code" := by
  (refine x1_3 (x) fun o ho hc hd=>?_; clear x)
  exact ⟨o,ho,fun vs n z=>by rw [hd] at z; (cases z),by rw [hc]; decide⟩
theorem strIter_kind {h:Heap} {I:Addr} {x:Str} {t:Tok} {ty:String} {i:Nat} (y:h.IsStrIter I ty x t i) (hty:ty ≠ "code"):∃ o,h.get? I=some o∧(∀ vs n,o.data≠.seq vs n)∧o.cls≠.type "code" := by
  (refine x1_3 (y) fun o ho hc hd=>?_; clear y)
  exact ⟨o,ho,fun vs n z=>by rw [hd] at z; (cases z),by rw [hc]; intro z; cases z; exact hty rfl⟩
theorem oneList {I a:Addr} {src:AV} (lo:C.s₁.heap.objs.size≤I) (ne:env.locals≠I) (haL:a≠env.locals) (haI:a≠I):OneIter C env I (nxL src) (fun i ρ h=>h.IsListIter I a i∧VR C ρ h src (.ref a)) where
  lo:=lo
  ne:=ne
  kind _ _ _ hI:=listIter_kind hI.1
  keep i ρ ρ' h h' hI hm hW S:=⟨hI.1.at fun o e=>S.keep _ _ e hm (by simpa using Ne.symm ne),hI.2.step S hW⟩
  item A i σ ρ s x Q E' hh R hI hx k:=by
    unfold nxL at hx
    (refine x1_2 (Option.map_eq_some_iff.mp hx) fun xs hxs hxi=>?_)
    (refine x3_3 (asList_rel R hI.2 hxs) fun a' vs n e ho hs=>?_)
    cases e
    (refine x1_2 (hs.get hxi) fun v hv qv=>?_)
    (refine x1_3 (listIter_kind hI.1) fun o hoI hno uu=>?_)
    refine next_item hI.1 (items:=vs.toArray) ⟨_,_,ho,rfl⟩ (x:=v) (by simpa using hv) fun h' hit' hs'=>?_
    refine k v h' s.toks qv ⟨hit',?_⟩ fun b o hb e=>(hs'.2 b hb).trans e
    exact hI.2.step (stepWrite hs') (one_noSeq hoI hno)
  done A i σ ρ s Q E' hh R hI hx k:=by
    unfold nxL at hx
    (refine x1_2 (Option.map_eq_some_iff.mp hx) fun xs hxs hxi=>?_)
    (refine x3_3 (asList_rel R hI.2 hxs) fun a' vs n e ho hs=>?_)
    cases e
    have hn:vs.toArray[i]?=none:=by
      rw [List.getElem?_eq_none_iff] at hxi
      simp
      rw [hs.length]; exact hxi
    refine next_end hh hI.1 (items:=vs.toArray) ⟨_,_,ho,rfl⟩ hn fun h' he=>?_
    exact k h' s.toks fun b o hb e=>he b o hb e
theorem oneAscii {I:Addr} {x:Str} {t:Tok} (ok:PyData.strOk x=true) (lo:C.s₁.heap.objs.size≤I) (ne:env.locals≠I):OneIter C env I (nxS x) (fun i uu h=>h.IsStrIter I "str_ascii_iterator" x t i) where
  lo:=lo
  ne:=ne
  kind _ _ _ hI:=strIter_kind hI (by decide)
  keep i ρ ρ' h h' hI hm hW S:=let ⟨o,ho,r⟩:=hI; ⟨o,S.keep _ _ ho hm (by simpa using Ne.symm ne),r⟩
  item A i σ ρ s y Q E' hh R hI hx k:=by
    unfold nxS at hx
    (refine x1_2 (Option.map_eq_some_iff.mp (Option.some.inj hx)) fun c hc e=>?_)
    cases e
    refine wpAny_pyNext_ascii_item hI hc fun h' hit' hs'=>?_
    obtain ⟨hlt,e⟩:=Array.getElem?_eq_some_iff.mp hc
    exact k _ h' _ (.str _ _ (strOk_one ok (e▸Array.mem_toList_iff.mpr (Array.getElem_mem hlt)))) hit' fun b o hb e=>(hs'.2 b hb).trans e
  done A i σ ρ s Q E' hh R hI hx k:=by
    unfold nxS at hx
    have hn:x.cps[i]?=none:=by
      have:=Option.some.inj hx
      cases h:x.cps[i]? with
      | none=>rfl
      | some c=>rw [h] at this; cases this
    exact wpAny_pyNext_ascii_end hh hI hn fun h' he=>k h' _ fun b o hb e=>he b o hb e
theorem oneWide {I:Addr} {x:Str} {t:Tok} (ok:PyData.strOk x=true) (lo:C.s₁.heap.objs.size≤I) (ne:env.locals≠I):OneIter C env I (nxS x) (fun i uu h=>h.IsStrIter I "str_iterator" x t i) where
  lo:=lo
  ne:=ne
  kind _ _ _ hI:=strIter_kind hI (by decide)
  keep i ρ ρ' h h' hI hm hW S:=let ⟨o,ho,r⟩:=hI; ⟨o,S.keep _ _ ho hm (by simpa using Ne.symm ne),r⟩
  item A i σ ρ s y Q E' hh R hI hx k:=by
    unfold nxS at hx
    (refine x1_2 (Option.map_eq_some_iff.mp (Option.some.inj hx)) fun c hc e=>?_)
    cases e
    refine wpAny_pyNext_wide_item hI hc fun h' hit' hs'=>?_
    obtain ⟨hlt,e⟩:=Array.getElem?_eq_some_iff.mp hc
    exact k _ h' _ (.str _ _ (strOk_one ok (e▸Array.mem_toList_iff.mpr (Array.getElem_mem hlt)))) hit' fun b o hb e=>(hs'.2 b hb).trans e
  done A i σ ρ s Q E' hh R hI hx k:=by
    unfold nxS at hx
    have hn:x.cps[i]?=none:=by
      have:=Option.some.inj hx
      cases h:x.cps[i]? with
      | none=>rfl
      | some c=>rw [h] at this; cases this
    exact wpAny_pyNext_wide_end hh hI hn fun h' he=>k h' _ fun b o hb e=>he b o hb e
noncomputable def forS (j:Nat) (f:EM) (B O:SM):SM:=fun lc σ=>(f lc σ).bind fun p =>
  (p.1.str?.bind fun x=>loopS (nxS x) (fun lc y=>putL lc j y) B O 1000000 0 lc p.2).or
  ((asList p.2 p.1).bind fun _=>loopS (nxL p.1) (fun lc y=>putL lc j y) B O 1000000 0 lc p.2)
theorem den_for (He:EnvOk env vars) {j:Nat} {n:Str} {pn p:Pos} {iter:Expr} {body orelse:List Stmt} {f:EM} {B O:SM} (hj:vars[j]?=some n) (D:DenE C d env vars iter f) (DB:DenB C d env vars body B) (DO:DenB C d env vars orelse O)
    (hs:∀ x,foldedSetIterable iter env x=pure x):DenS C d env vars (.For (.Name n pn) iter body orelse p) (forS j f B O):=by
  intro lc σ fl lc' σ' hf A Q E s ρ hA R lr kk
  have run:∀ {x:AV} {σ₁:St},f lc σ=some (x,σ₁)→(∀ v s₁ ρ₁,Rel C ρ₁ σ₁ s₁→Step C [] ρ ρ₁ s.heap s₁.heap→VR C ρ₁ s₁.heap x v→LcR C ρ₁ s₁.heap env.locals vars lc →
      wpAny (model C.prog C.w) A (pyIter v) (fun it s₂=>∃ o nx Inv,it=.ref s₁.heap.objs.size∧s₂={ s₁ with heap:=s₁.heap.push o }∧OneIter C env s₁.heap.objs.size nx Inv∧Inv 0 ρ₁ s₂.heap∧loopS nx (fun lc y=>putL lc j y) B O 1000000 0 lc σ₁=some (fl,lc',σ')) E s₁) →
      wpAny (model C.prog C.w) A (exec (.For (.Name n pn) iter body orelse p) env) Q E s:=by
    intro x σ₁ e1 h
    refine wpAny_For (D _ _ _ _ e1 A _ E s ρ hA R lr fun v s₁ ρ₁ R₁ S₁ q₁=>?_) hs
    refine wpAny_mono (h v s₁ ρ₁ R₁ S₁ q₁ (lr.go S₁)) (fun it s₂ h₂=>?_) fun uu uu z=>z
    (refine x3_5 (h₂) fun o nx Inv rr3 rr4 IT hI hL=>?_; clear h₂; subst rr3; subst rr4)
    have S₂:Step C [] ρ₁ ρ₁ s₁.heap (s₁.heap.push o):=.pushObj _
    refine loop_rel (IT.ok He hj) DB DO hA hL (R₁.push o (n:=s₁.toks)) ((lr.go S₁).go S₂) hI (one_fresh R₁.fresh) fun w s' ρ' R' S' l' q'=>?_
    refine kk w s' ρ' R' (S₁.of_nil.trans ?_) l' q'
    have S3:Step C [env.locals,s₁.heap.objs.size] ρ₁ ρ' s₁.heap s'.heap:=S₂.of_nil.trans S'
    exact S3.dropI (one_above (Nat.le_refl _))
  refine oB hf fun y e1 hf=>run (x:=y.1) (σ₁:=y.2) e1 fun v s₁ ρ₁ R₁ S₁ q₁ l₁=>?_
  have neL:env.locals≠s₁.heap.objs.size:=Nat.ne_of_lt l₁.1.choose_spec.1.lt
  refine oO hf (fun hf=>?_) fun hf=>oB hf fun xs hxs hf=>?_
  · refine oB hf fun x ex hf=>?_
    refine q₁.str_of ex fun t ok=>?_
    cases ha:x.cps.all (· < 128)
    · exact wpAny_pyIter_wide ha ⟨_,_,_,rfl,rfl,oneWide (t:=t) ok R₁.size neL,⟨_,Heap.get?_push_size _ rfl,rfl,rfl⟩,hf⟩
    · exact wpAny_pyIter_ascii ha ⟨_,_,_,rfl,rfl,oneAscii (t:=t) ok R₁.size neL,⟨_,Heap.get?_push_size _ rfl,rfl,rfl⟩,hf⟩
  · refine x3_3 (asList_rel R₁ q₁ hxs) fun a vs n' ev ho hv=>?_
    rw [ev] at q₁ ⊢
    have haL:a≠env.locals:=fun z=>ns_noSeq l₁.1.choose_spec.1 _ _ _ _ (List.mem_singleton.mpr z) ho rfl
    exact wpAny_pyIter_list (IsL.isList ho) ⟨_,_,_,rfl,rfl,oneList (a:=a) (src:=y.1) R₁.size neL haL (Nat.ne_of_lt (Heap.lt_size ho)),⟨⟨_,Heap.get?_push_size _ rfl,rfl,rfl⟩,q₁.go (.pushObj _)⟩,hf⟩
end
noncomputable def smallInt (a:Int):Bool:=decide (-1000000000 < a) && decide (a < 1000000000)
theorem smallInt_iff {a:Int}:smallInt a=true↔-1000000000 < a∧a < 1000000000:=by unfold smallInt; rw [Bool.and_eq_true,decide_eq_true_eq,decide_eq_true_eq]
noncomputable def nxR (a b c:Int):St→Nat→Option (Option AV):=fun _ i=>some (gd (decide ((i:Int) < Builtin.Range.rangeSize a b c)) (.int (a + c * i)))
section
variable {C:Cfg} {ρ ρ':Rho} {σ σ':St} {s:Shared} {A:Around} {E:Value→Shared→Prop} {env:Env} {vars:List Str} {lc:Lc} {d:Nat}
theorem oneRange {I:Addr} {a b c:Int} (lo:C.s₁.heap.objs.size≤I) (ne:env.locals≠I):OneIter C env I (nxR a b c) (fun i uu h=>IsRangeIter h I (a + c * i) (Builtin.Range.rangeSize a b c - i) c) where
  lo:=lo
  ne:=ne
  kind _ _ _ hI:=⟨_,hI,(fun vs n z=>by cases z),by show Value.type "range_iterator" ≠ _; decide⟩
  keep i ρ ρ' h h' hI hm hW S:=S.keep _ _ hI hm (by simpa using Ne.symm ne)
  item A i σ ρ s y Q E' hh R hI hx k:=by
    refine oG (Option.some.inj hx) fun hlt e=>?_
    have hlt:=of_decide_eq_true hlt
    · refine wpAny_pyNext_range_item hI (by (first | lia | omega)) fun h' hit' hs'=>?_
      refine k _ h' _ (e▸.int _ _) ?_ fun b o hb e=>(hs'.2 b hb).trans e
      have e1:a + c * (i:Int) + c=a + c * ((i + 1:Nat):Int):=by rw [Int.natCast_add,Int.mul_add]; (first | lia | omega)
      have e2:Builtin.Range.rangeSize a b c - (i:Int) - 1=Builtin.Range.rangeSize a b c - ((i + 1:Nat):Int):=by (first | lia | omega)
      rw [e1,e2] at hit'
      exact hit'
  done A i σ ρ s Q E' hh R hI hx k:=by
    have hlt:¬ (i:Int) < Builtin.Range.rangeSize a b c:=fun z=>nomatch (gd_of (a:=AV.int (a + c * i)) (decide_eq_true z)).symm.trans (Option.some.inj hx)
    · exact wpAny_pyNext_range_end hh hI (by (first | lia | omega)) fun h' he=>k h' _ fun b o hb e=>he b o hb e
noncomputable def rangeZ:List Int→Option (Int × Int × Int)
  | [b]=>some (0,b,1)
  | [a,b]=>some (a,b,1)
  | [a,b,c]=>some (a,b,c)
  | []=>none
  | _ :: _ :: _ :: _ :: _=>none
noncomputable def rangeArgs (xs:List AV):Option (Int × Int × Int):=(optAll AV.int? xs).bind rangeZ
noncomputable def okRange (a b c:Int):Bool:=Builtin.Range.small a b c && (c != 0 && decide (c.natAbs < 2 ^ 31))
noncomputable def forRS (j:Nat) (fs:List EM) (B O:SM):SM:=fun lc σ=>(evs fs lc σ).bind fun p=>(rangeArgs p.1).bind fun r=>if okRange r.1 r.2.1 r.2.2=true then loopS (nxR r.1 r.2.1 r.2.2) (fun lc y=>putL lc j y) B O 1000000 0 lc p.2 else none
theorem okRange_iff {a b c:Int} (h:okRange a b c=true):Builtin.Range.small a b c=true∧c.natAbs < 2 ^ 31∧c≠0:=by
  unfold okRange at h
  rw [Bool.and_eq_true,Bool.and_eq_true,bne_iff_ne,decide_eq_true_eq] at h
  exact ⟨h.1,h.2.2,h.2.1⟩
theorem avInt_rel {h:Heap} {xs:List AV} {vs:List Value} {zs:List Int} (q:VRs C ρ h xs vs) (e:optAll AV.int? xs=some zs):IntsAre vs zs :=
  q.ind (P:=fun xs vs=>∀ zs,optAll AV.int? xs=some zs→IntsAre vs zs) (fun zs e=>Option.some.inj e▸.nil) (fun a uu ih zs e=>oB e fun i ei e=>oM e fun is e1 e2=>e2▸a.int_of ei fun t=>.cons _ _ (ih _ e1)) _ e
theorem range_rel {a b c:Int} {xs:List AV} {vs:List Value} {Q':Value→Shared→Prop} (q:VRs C ρ s.heap xs vs) (e:rangeArgs xs=some (a,b,c)) (hc:c.natAbs < 2 ^ 31) (h0:c≠0)
    (k:∀ h' tk r t u v,IsRange h' r a b c t u v→(∀ b o,s.heap.get? b=some o→h'.get? b=some o)→s.heap.objs.size≤h'.objs.size→Q' (.ref r) { s with heap:=h',toks:=tk }):wpAny (model C.prog C.w) A (call (.type "range") vs) Q' E s:=by
  have fin:∀ {o:Obj},(∀ b o',s.heap.get? b=some o'→(s.heap.push o).get? b=some o')∧s.heap.objs.size≤(s.heap.push o).objs.size:=fun {o}=>⟨fun uu uu e=>Heap.get?_push_of_some _ e,by rw [Heap.size_push]; (first | lia | omega)⟩
  refine oB e fun zs ez e=>?_
  have I:=avInt_rel q ez
  cases I with
  | nil=>exact nomatch e
  | cons z1 t1 I=>cases I with
    | nil=>cases e; exact call_range_1 (k _ _ _ _ _ _ (Heap.get?_push_size _ rfl) fin.1 fin.2)
    | cons z2 t2 I=>cases I with
      | nil=>cases e; exact call_range_2 (k _ _ _ _ _ _ (Heap.get?_push_size _ rfl) fin.1 fin.2)
      | cons z3 t3 I=>cases I with
        | nil=>cases e; exact call_range_3 h0 (k _ _ _ _ _ _ (Heap.get?_push_size _ rfl) fin.1 fin.2) (.inl (noPyl hc))
        | cons=>exact nomatch e
theorem den_forR (H:CfgOk C) (He:EnvOk env vars) {j:Nat} {n:Str} {pn p p0 p1:Pos} {es:List Expr} {body orelse:List Stmt} {fs:List EM} {B O:SM} (hj:vars[j]?=some n) (hv:GlobVal C "range" (.type "range")) (hk:env.kindOf "range" = some .globalImplicit) (D:DenEs C d env vars es fs) (DB:DenB C d env vars body B) (DO:DenB C d env vars orelse O) :
    DenS C d env vars (.For (.Name n pn) (.Call (.Name "range" p0) es [] p1) body orelse p) (forRS j fs B O):=by
  intro lc σ fl lc' σ' hf A Q E s ρ hA R lr kk
  refine oB hf fun y e1 hf=>oB hf fun r e2 hf=>sf hf fun e3 hL=>?_
  rcases y with ⟨xs,σ₁⟩
  rcases r with ⟨a,b,c⟩
  refine x0_3 (okRange_iff e3) fun hsm hc hc0=>?_
  refine wpAny_For ?_
  show wpAny _ _ (do callWith p1 (← eval (.Name "range" p0) env) [] (backTo p1 (starEach es env)) (backToKw p1 (keywordEach [] env))) _ _ _
  refine wpAny_bind (global_rel H He hv hk (by decide) R ?_)
  refine callWith_rel H D e1 keep_type hA R lr fun vs s₁ ρ₁ R₁ S₁ q₁=>?_
  rw [List.nil_append]
  refine range_rel q₁ e2 hc hc0 fun h₂ tk r t u v hr kp z=>?_
  have R₂:Rel C ρ₁ σ₁ { s₁ with heap:=h₂,toks:=tk }:=R₁.same kp z R₁.gens rfl rfl
  have S₂:Step C [] ρ₁ ρ₁ s₁.heap h₂:=.same kp z
  have l₂:=(lr.go S₁).go S₂
  have neL:env.locals≠h₂.objs.size:=Nat.ne_of_lt l₂.1.choose_spec.1.lt
  refine wpAny_pyIter_range hr hsm ?_
  have S₃:Step C [] ρ₁ ρ₁ h₂ (h₂.push { cls:=.type "range_iterator",data:=.fields #[rawInt a,rawInt (Builtin.Range.rangeSize a b c),rawInt c] }):=.pushObj _
  have hI:IsRangeIter (h₂.push { cls:=.type "range_iterator",data:=.fields #[rawInt a,rawInt (Builtin.Range.rangeSize a b c),rawInt c] }) h₂.objs.size (a + c * ((0:Nat):Int)) (Builtin.Range.rangeSize a b c - ((0:Nat):Int)) c:=by
    have:=Heap.get?_push_size h₂ (o:={ cls:=.type "range_iterator",data:=.fields #[rawInt a,rawInt (Builtin.Range.rangeSize a b c),rawInt c] }) rfl
    rw [show a + c * ((0:Nat):Int)=a by simp,show Builtin.Range.rangeSize a b c - ((0:Nat):Int)=Builtin.Range.rangeSize a b c by simp]
    exact this
  refine loop_rel ((oneRange R₂.size neL).ok He hj) DB DO hA hL (R₂.push _ (n:=tk)) (l₂.go S₃) hI (one_fresh R₂.fresh) fun w s' ρ' R' S' l' q'=>?_
  refine kk w s' ρ' R' ((S₁.trans S₂).of_nil.trans ?_) l' q'
  have S4:Step C [env.locals,h₂.objs.size] ρ₁ ρ' h₂ s'.heap:=S₃.of_nil.trans S'
  exact S4.dropI (one_above (Nat.le_refl _))
end
section
variable {C:Cfg} {ρ ρ':Rho} {σ σ':St} {s:Shared} {A:Around} {E:Value→Shared→Prop} {env:Env} {vars:List Str} {lc:Lc} {d:Nat}
end
section
variable {C:Cfg} {ρ ρ':Rho} {σ σ':St} {s:Shared} {A:Around} {E:Value→Shared→Prop} {env:Env} {vars:List Str} {lc:Lc} {d:Nat} {p:Pos}
theorem callWith_star {P:Heap→Prop} {f:Value} {first:List Value} {Q:Value→Shared→Prop} {x:Sem Value} (hk:∀ h,P h→∃ k,(k=Keeper.frame∨k=Keeper.machine∨k=Keeper.boundFrame)∧Looks (model C.prog C.w) h (keeperOf f) k)
    (h:wpAny (model C.prog C.w) A (evalArgs f true [(true,x)] []) (fun a s₁=>P s₁.heap∧wpAny (model C.prog C.w) A (call f (first++a.pos) a.kw) Q E s₁) E s):wpAny (model C.prog C.w) A (callWith p f first [(true,x)] []) Q E s:=by
  unfold callWith
  refine wpAny_bind (wpAny_holding (wpAny_mono h (fun a s₁ h₁=>wpAny_bind (wpAny_standAt ?_)) fun uu uu x=>x))
  (refine x1_2 (hk _ h₁.1) fun k hk' L=>?_)
  refine wpAny_bind (L.here ?_)
  have tail:∀ {t:Sem Value},wpAny (model C.prog C.w) A t Q E s₁→wpAny (model C.prog C.w) A (t >>= fun r=>holding [r] point >>= fun uu=>pure r) Q E s₁ :=
    fun ht=>wpAny_bind (wpAny_mono ht (fun r s₂ hr=>wpAny_bind (wpAny_holding (wpAny_point (wpAny_pure hr)))) fun uu uu x=>x)
  rcases hk' with rfl | rfl | rfl
  · exact tail (by unfold callMarked; exact Calls.wpAny_keep h₁.2)
  · exact tail (wpAny_operate' h₁.2)
  · exact tail (wpAny_operate' h₁.2)
theorem star_args {f:Value} {x:Sem Value} {Q:Args→Shared→Prop} {T:String} (hT:T = "list" ∨ T = "tuple")
    (h:wpAny (model C.prog C.w) A x (fun v s₁=>∃ a items n,v=.ref a∧s₁.heap.get? a=some { cls:=.type T,data:=.seq items n }∧items.size≤sizeLine∧∀ h',(∀ b o,s₁.heap.get? b=some o→h'.get? b=some o)→s₁.heap.objs.size≤h'.objs.size→Q ⟨items.toList,[]⟩ { s₁ with heap:=h' }) E s) :
    wpAny (model C.prog C.w) A (evalArgs f true [(true,x)] []) Q E s:=by
  unfold evalArgs
  refine wpAny_bind (wpAny_mono h (fun v s₁ h₁=>?_) fun uu uu z=>z)
  refine x3_4 h₁ fun a items n ev ho hsz kk=>?_
  rw [ev]
  refine wpAny_bind (wpAny_pure (wpAny_holding ?_))
  refine wpAny_bind (wpAny_pure ?_)
  refine wpAny_bind (wpAny_bind ?_)
  unfold notIterableAtAll
  have hty:s₁.TypeIs (.ref a) T:=⟨_,ho,rfl⟩
  have fin:wpAny (model C.prog C.w) A (holding [] (collect (.ref a))) (fun vs s₂=>wpAny (model C.prog C.w) A (pure (⟨vs,[]⟩:Args):Sem Args) Q E s₂) E s₁:=by
    refine wpAny_holding (with_size (wpAny_collect_seq a hT ho rfl rfl (fun h' kp z=>?_) hsz))
    exact wpAny_pure (kk h' kp z)
  rcases hT with rfl | rfl
  · refine wpAny_bind (wpAny_specialOf hty slot_list_iter.lookup (wpAny_pure ?_))
    simp only [Bool.false_eq_true,if_false]
    exact fin
  · refine wpAny_bind (wpAny_specialOf hty F.slot_tuple_iter.lookup (wpAny_pure ?_))
    simp only [Bool.false_eq_true,if_false]
    exact fin
theorem getAttr_listM {name:Str} {x Cl f:Addr} {ox:Obj} {od:Option Obj} {expr:Bool} {Q:Value→Shared→Prop} (X:C.K.In s.heap) (I:W.InstAt s.heap x ox Cl od) (hga:findIn C.K (.ref Cl) "__getattribute__" = some (some (.builtin "list.__getattribute__"))) (hgt:findIn C.K (.ref Cl) "__getattr__" = some none)
    (hm:mroIn C.K Cl (.type "list")=some true) (hf:findObj C.K Cl od name=some (.bind (.builtin "function.__get__") (.ref f))) (ht:typeIn C.K (.ref f)=some (.type "function")) (k:Q (.ref s.heap.objs.size) { s with heap:=s.heap.push (methodObj (.ref f) (.ref x)),toks:=s.toks + 1 }):wpAny (model C.prog C.w) A (getAttr (.ref x) name expr) Q E s:=by
  have L1:=looks_findIn (M:=model C.prog C.w) X hga
  have L2:=looks_findIn (M:=model C.prog C.w) X hgt
  have L3:=looks_find (M:=model C.prog C.w) X I hf
  have L0:=I.type (M:=model C.prog C.w)
  obtain ⟨hp,g,d,t,os⟩:=s
  unfold getAttr getAttrBy
  refine wpAny_bind (wpAny_mkText (wpAny_holding (wpAny_bind (L0.at (wpAny_bind (L1.at ?_))))))
  show wpAny _ _ (getAttrByItsOwn _ _ _ _ _ _) _ _ _
  unfold getAttrByItsOwn
  refine wpAny_bind (L2.at ?_)
  refine wpAny_bind (wpAny_attempt (wpAny_holding ?_))
  have e:callGetattribute (.ref x) (.str name t) (.builtin "list.__getattribute__") expr=boundAndCalled (.builtin "list.__getattribute__") (.ref x) (.str name t):=by
    unfold callGetattribute
    rw [if_neg (by simp [onTheHeap])]
  rw [e]
  unfold boundAndCalled
  rw [ga_bind]
  refine wpAny_bind (wpAny_pure ?_)
  refine call_below (s:=⟨hp,g,d,t + 1,os⟩) X I hm (.inr (by decide +kernel)) (n := "__getattribute__") (by decide +kernel) (by decide +kernel) F.entry_list_ga (by unfold argsOk; kernel_rfl) ?_
  refine wpAny_bind (wpAny_pure (wpAny_bind (wpAny_pure (wpAny_bind (L0.at (wpAny_bind (L3.at ?_)))))))
  show wpAny _ _ (holding [.ref f] (call (.builtin "function.__get__") [.ref f,.ref x,.ref Cl]) >>= ret) _ _ _
  refine wpAny_bind (wpAny_holding (wpAny_call (fn_get X ht ?_)))
  refine wpAny_pure ⟨_,rfl,?_⟩
  show wpAny _ _ (handedOut (.ref _)) _ _ _
  rw [handedOut_of rfl]
  exact wpAny_pure k
noncomputable def mStarE (F:List AV→St→Option (AV × St)) (f g:EM):EM:=fun lc σ=>(f lc σ).bind fun p=>if kind p.2 p.1=4 then (g lc p.2).bind fun q=>q.1.tup?.bind fun xs=>if xs.length < 1000 then F (p.1 :: xs) q.2 else none else none
end
section
variable {C:Cfg} {ρ ρ':Rho} {σ σ':St} {s:Shared} {A:Around} {E:Value→Shared→Prop} {env:Env} {vars:List Str} {lc:Lc} {d:Nat} {p:Pos}
structure BindOk (C:Cfg) (name:Str) (f:Addr):Prop where
  hf:findIn C.K (.ref C.ACC) name=some (some (.ref f))
  hg:specialIn C.K (.ref f) "__get__" = some (some (.builtin "function.__get__"))
  ht:takesIn C.K (.ref f)=some false
  hc:copiedNames.contains name=false
  ty:typeIn C.K (.ref f)=some (.type "function")
  fn:fnIn C.K f=true
  nm:(name == ("_initial_size" : Str))=false
theorem findObj_fn {K:Frag} {Cl:Addr} {name:Str} {a g:Value} {od:Obj} (hh:hasDictIn K Cl=true) (ha:findIn K (.ref Cl) name=some (some a)) (hg:specialIn K a "__get__" = some (some g)) (ht:takesIn K a=some false) (hc:copiedNames.contains name=false) (hl:lookIn name od=some none) :
    findObj K Cl (some od) name=some (.bind g a):=by
  (refine x1_2 (any_some hh) fun cd hc' hd=>?_)
  unfold findObj
  have ho:W.ownOf cd (some od) name=some none:=by unfold W.ownOf; rw [if_pos hd]; exact hl
  rw [hc',Option.bind_some,ha,Option.bind_some]
  simp only [hg,ht,Option.bind_some,ho,hc,Bool.false_and,Bool.false_eq_true,if_false]
theorem den_methStar (H:CfgOk C) (HC:ClsOk C) {name:Str} {f:Addr} {F:List AV→St→Option (AV × St)} {o e:Expr} {fo g:EM} {apos ps:Pos} (B:BindOk C name f) (DF:DenF C d f F) (D0:DenE C d env vars o fo) (D:DenE C d env vars e g)
    (hb:∀ nm whole,attributeBase o nm env whole=whole):DenE C d env vars (.Call (.Attribute o name apos) [.Starred e ps] [] p) (mStarE F fo g):=by
  intro lc σ y σ' hf A Q E s ρ hA R lr kk
  refine oB hf fun r e1 hf=>sf hf fun hkd hf=>oB hf fun q e2 hf=>oB hf fun xs ex hf=>sf hf fun hlen hf=>?_
  rw [arm_eval_Call,hb]
  refine wpAny_bind (D0 _ _ _ _ e1 A _ E s ρ hA R lr fun v s₁ ρ₁ R₁ S₁ q₁=>wpAny_bind (wpAny_standAt ?_))
  show wpAny _ _ (methodCall o name apos p env v 1 [(true,eval e env >>= fun v=>standAt p >>= fun uu=>pure v)] []) _ _ _
  unfold methodCall
  refine wpAny_bind (wpAny_holding ?_)
  show wpAny _ _ (getAttr v name true >>= fun r=>pure (r,[])) _ _ _
  refine x2_3 (kind_loc hkd (by decide)) fun l o' el hl ko=>x2_1 (kindO_acc ko) fun ini ps' eo=>?_
  have q₁:VR C ρ₁ s₁.heap (.loc l) v:=AV.loc_inv el▸q₁
  refine R₁.acc_e (eo▸hl) q₁ fun a dd es n n' vs e0 ho hd he hs=>?_
  have gl:=entR_get (name:=name) he
  have en:(accAttrs ini).lookup name=none:=by
    unfold accAttrs
    rw [List.lookup_cons,B.nm]
    rfl
  rw [en] at gl
  refine wpAny_bind (getAttr_listM (R₁.kin H) (accInst ho hd) HC.acGa HC.acGt HC.acMro (findObj_fn HC.acDict B.hf B.hg B.ht B.hc gl) B.ty ?_)
  refine wpAny_pure ?_
  show wpAny _ _ (pure p >>= _) _ _ _
  refine wpAny_bind (wpAny_pure ?_)
  have S₂:Step C [] ρ₁ ρ₁ s₁.heap (s₁.heap.push (methodObj (.ref f) (.ref a))):=.pushObj _
  refine callWith_star (P:=MethP C.K s₁.heap.objs.size f (.ref a)) (fun h X=>keeps_M B.fn h X) (star_args (.inr rfl) ?_)
  refine wpAny_bind (D _ _ _ _ e2 A _ E _ ρ₁ hA (R₁.push (methodObj (.ref f) (.ref a)) (n:=s₁.toks + 1)) ((lr.go S₁).go S₂) fun v' s₃ ρ₃ R₃ S₃ q₃=>wpAny_bind (wpAny_standAt (wpAny_pure ?_)))
  refine q₃.tup_of ex fun ta tvs tn tho thm ths=>?_
  refine ⟨ta,tvs.toArray,tn,rfl,tho,by rw [List.size_toArray,ths.length,sizeLine_eq]; (first | lia | omega),fun h' kp z=>?_⟩
  have R₄:Rel C ρ₃ q.2 { s₃ with heap:=h' }:=R₃.same kp z R₃.gens rfl rfl
  have S₄:Step C [] ρ₃ ρ₃ s₃.heap h':=.same kp z
  have hq':h'.get? s₁.heap.objs.size=some (methodObj (.ref f) (.ref a)):=kp _ _ (S₃.keep _ _ (Heap.get?_push_size _ rfl) R₁.fresh (fun z=>nomatch z))
  refine ⟨⟨hq',R₄.kin H⟩,?_⟩
  rw [List.nil_append]
  refine wpAny_call (method_call hq' ?_)
  have T:=(S₂.trans S₃).trans S₄
  have qr:VR C ρ₃ h' r.1 (.ref a):=AV.loc_inv el▸(VR.loc e0:VR C ρ₁ s₁.heap (.loc l) (.ref a)).go T
  exact DF _ _ _ _ hf A _ _ ρ₃ (.ref a :: tvs) hA R₄ (.cons qr (ths.go S₄)) fun v'' s₅ ρ₅ R₅ S₅ q₅=>kk v'' s₅ ρ₅ R₅ ((S₁.trans T).trans S₅) q₅
set_option tactic.hygienic true
theorem den_unp (He:EnvOk env vars) {i j:Nat} {n m:Str} {e:Expr} {f:EM} {k0:Nat} {pa pb pt:Pos} (hi:vars[i]?=some n) (hj:vars[j]?=some m) (D:DenE C d env vars e f)
    (hs:swapsWithSole [.Tuple [.Name n pa,.Name m pb] k0 pt] e p.line env=pure false) (hw:swappedStores [.Tuple [.Name n pa,.Name m pb] k0 pt] e env=pure none) :
    DenS C d env vars (.Assign [.Tuple [.Name n pa,.Name m pb] k0 pt] e p) (unpS i j f):=by
  intro lc σ fl lc' σ' hf A Q E s ρ hA R lr kk
  refine oB hf fun y e1 hf=>oB hf fun xs ex hf=>oB hf fun xy e0 hf=>oB hf fun lc₁ e2 hf=>oM hf fun lc₂ e3 e4=>?_
  refine wpAny_Assign_stores (D _ _ _ _ e1 A _ E s ρ hA R lr fun v s₁ ρ₁ R₁ S₁ q₁=>?_) hs hw
  refine q₁.tup_of ex fun ta tvs tn tho thm ths=>?_
  revert tho
  refine ths.arg2_e e0 fun va vb qa qb tho=>?_
  show wpAny _ _ (assign (.Tuple [.Name n pa,.Name m pb] k0 pt) env (.ref ta)) _ _ _
  exact store_two He hi hj e2 e3 hA.1 R₁ (lr.go S₁) tho qa qb fun s₂ R₂ S₂ l₂=>kfs kk e4 _ s₂ ρ₁ R₂ (S₁.of_nil.trans S₂) l₂ .next
end
section
variable {C:Cfg} {ρ ρ':Rho} {σ σ':St} {s:Shared} {A:Around} {E:Value→Shared→Prop} {env:Env} {vars:List Str} {lc:Lc} {d:Nat} {p:Pos}
end
section
variable {C:Cfg} {ρ ρ':Rho} {σ σ':St} {s:Shared} {A:Around} {E:Value→Shared→Prop} {env:Env} {vars:List Str} {lc:Lc} {d:Nat} {p:Pos}
theorem LcR.iters {Is:List Addr} {L:Addr} {h h':Heap} (q:LcR C ρ h L vars lc) (S:Step C Is ρ ρ h h') (hne:L∉Is) (W:∀ a o vs n,a∈Is→h.get? a=some o→o.data≠.seq vs n):LcR C ρ h' L vars lc:=by
  exact ⟨x1_2 q.1 fun m hn hv=>⟨m,hn.at fun o e=>S.keep _ _ e q.2.1 hne,fun i x e=>x2_3 (hv i x e) fun n v a b c=>⟨n,v,a,b,c.step S W⟩⟩,q.2.1,q.2.2⟩
theorem rho_grow {W:List Addr} {h h':Heap} (S:Step C W ρ ρ' h h') {g:Nat} {q:Addr × Addr} (e:ρ[g]?=some q):ρ'[g]?=some q:=by
  obtain ⟨δ,rfl,_⟩:=S.grow
  rw [List.getElem?_append_left (List.getElem?_eq_some_iff.mp e).1]; exact e
end
section
variable {C:Cfg} {ρ ρ':Rho} {σ σ':St} {s:Shared} {A:Around} {E:Value→Shared→Prop} {env:Env} {vars:List Str} {lc:Lc} {d:Nat} {p:Pos}
theorem Rel.freshGe (R:Rel C ρ σ s) {a:Addr} (h:s.heap.objs.size≤a):¬ Mut C ρ a:=by
  rintro (t | ⟨p,hp,e⟩)
  · (refine x1_2 (List.mem_map.mp t) fun x hx e=>?_)
    (refine x1_2 (R.tab x hx) fun m hc ht=>?_)
    have:=hc.lt.2
    rw [e] at this
    exact absurd this (Nat.not_lt.mpr h)
  · have:=R.rhoLt hp
    rcases e with e | e
    · rw [e] at this; exact absurd this.1 (Nat.not_lt.mpr h)
    · rw [e] at this; exact absurd this.2 (Nat.not_lt.mpr h)
end
end Mine.Internal
end
section
open PySem PySem.W PyProof.Rows PySem.Calls
namespace Mine.Internal
open Builtin.Re in
section
variable {C:Cfg} {ρ ρ':Rho} {σ σ':St} {s:Shared} {A:Around} {E:Value→Shared→Prop} {env:Env} {vars:List Str} {lc:Lc} {d:Nat} {p:Pos}
set_option tactic.hygienic false
theorem strOk_cut {x:Str} {b e:Nat} (h:PyData.strOk x=true):PyData.strOk ⟨x.cps.extract b e⟩=true:=by
  rw [strOk_iff] at *
  intro c hc
  apply h
  rw [Array.toList_extract] at hc
  exact List.mem_of_mem_drop (List.mem_of_mem_take hc)
end
end Mine.Internal
end
section
open PySem PySem.W PyProof.Rows PySem.Calls
namespace Mine.Internal
noncomputable def strsOf (xs:List AV):Option (List Str):=optAll AV.str? xs
noncomputable def joinF:List AV→St→Option (AV × St):=fun xs σ=>(arg2 xs).bind fun p=>p.1.str?.bind fun sep=>(asList σ p.2).bind fun ys=>(strsOf ys).bind fun zs=>gd (decide ((zs.map (·.length)).sum + zs.length * sep.length≤16777216)) (.str (Txt.join sep zs),σ)
noncomputable def isspaceF:List AV→St→Option (AV × St):=fun xs σ=>(arg1 xs).bind fun x=>x.str?.map fun y=>(.bool (Txt.isspace y),σ)
noncomputable def popAtF:List AV→St→Option (AV × St):=fun xs σ=>(arg2 xs).bind fun p=>p.1.loc?.bind fun l=>p.2.int?.bind fun i=>(lstAt σ l).bind fun ys =>
  if (smallInt i && decide (ys.length≤sizeLine))=true then (seqIndex? i ys.length).bind fun k=>ys[k]?.map fun y=>(y,σ.set l (.list (ys.eraseIdx k))) else none
section
variable {C:Cfg} {ρ ρ':Rho} {σ σ':St} {s:Shared} {A:Around} {E:Value→Shared→Prop} {env:Env} {vars:List Str} {lc:Lc} {d:Nat} {p:Pos}
set_option tactic.hygienic false
theorem strsOf_rel {h:Heap} {xs:List AV} {ys:List Str} {vs:List Value} (q:VRs C ρ h xs vs) (e:strsOf xs=some ys):StrsAre vs ys∧∀ y∈ys,PyData.strOk y=true :=
  q.ind (P:=fun xs vs=>∀ ys,strsOf xs=some ys→StrsAre vs ys∧∀ y∈ys,PyData.strOk y=true) (fun ys e=>Option.some.inj e▸⟨.nil,fun uu h=>nomatch h⟩)
    (fun a uu ih ys e=>oB e fun y ey e=>oM e fun zs e1 e2=>e2▸a.str_of ey fun t ok=>⟨.cons _ _ (ih zs e1).1,fun y hy=>(List.mem_cons.mp hy).elim (fun e=>e▸ok) ((ih zs e1).2 y)⟩) _ e
theorem den_join {d:Nat}:DenCall C d (.builtin "str.join") joinF:=by
  intro xs σ x σ' hf A Q E s ρ vs hA R q k
  refine oB hf fun p e0 hf=>oB hf fun sep es hf=>oB hf fun ys hys hf=>oB hf fun zs hzs hf=>oG hf fun hz e=>?_
  have k:=kfe k e
  revert k
  refine q.arg2_e e0 fun v w q1 q2 k=>q1.str_of es fun t ok=>R.asList_e q2 hys fun a ws n ho hs=>x0_2 (strsOf_rel hs hzs) fun i1 i2=>?_
  exact join_list (IsL.isList ho) (by simpa using i1) (of_decide_eq_true hz) fun t' tk=>k _ _ ρ R.toks .refl (.str _ _ (strOk_join ok i2))
theorem den_isspace {d:Nat}:DenCall C d (.builtin "str.isspace") isspaceF:=by
  intro xs σ x σ' hf A Q E s ρ vs hA R q k
  refine oB hf fun p e0 hf=>oM hf fun y ey e=>?_
  have k:=kfe k e
  revert k
  exact q.arg1_e e0 fun v q1 k=>q1.str_of ey fun t ok=>SC.isspace (k _ _ ρ R .refl (.bool _))
theorem den_popAt {d:Nat}:DenCall C d (.builtin "list.pop") popAtF:=by
  intro xs σ x σ' hf A Q E s ρ vs hA R q k
  refine oB hf fun p e0 hf=>oB hf fun l el hf=>oB hf fun i ei hf=>oB hf fun ys e hf=>sf hf fun hz hf=>oB hf fun kx hk hf=>oM hf fun y hy e9=>?_
  rw [Bool.and_eq_true,decide_eq_true_eq,smallInt_iff] at hz
  have k:=kfe k e9
  revert k
  refine q.arg2_e e0 fun v w q1 q2 k=>q2.int_of ei fun t=>?_
  have q1:=AV.loc_inv el▸q1
  refine R.list_e (lstAt_inv e) q1 fun a vs n e0 ho hs=>x1_2 (hs.get hy) fun v hv qv=>?_
  have hlen:=hs.length
  have hklt:kx < vs.length:=(List.getElem?_eq_some_iff.mp hv).1
  refine call_meets PySem.F.slot_list_pop ⟨_,ho,rfl⟩ PySem.F.entry_list_pop (PySem.F.args_list_pop_2 _ _) (PySem.MeetsSeq.list_pop_at a vs.toArray n i t kx v (by simp [Builtin.List.listFitsIndex]; (first | lia | omega)) (by rw [List.size_toArray,hlen]; exact hk) (by rw [List.getElem?_toArray]; exact hv) (by rw [List.size_toArray,hlen]; exact hz.2)) ⟨ho,?_⟩
  have hsb:=Heap.SameBut.update s.heap a (Obj.mapSeq fun xs=>xs.eraseIdxIfInBounds kx)
  have S:Step C [] ρ ρ s.heap (s.heap.update a (Obj.mapSeq fun xs=>xs.eraseIdxIfInBounds kx)):=stepMut (.inr ⟨_,List.mem_of_getElem? e0,.inl rfl⟩) hsb
  have gt:=mapSeq_at ho (fun xs=>xs.eraseIdxIfInBounds kx)
  have er:vs.toArray.eraseIdxIfInBounds kx=(vs.eraseIdx kx).toArray:=by
    unfold Array.eraseIdxIfInBounds
    rw [dif_pos (by rw [List.size_toArray]; exact hklt),List.eraseIdx_toArray]
  rw [er] at gt
  have hs':VRs C ρ s.heap (ys.eraseIdx kx) (vs.eraseIdx kx):=by
    rw [List.eraseIdx_eq_take_drop_succ,List.eraseIdx_eq_take_drop_succ]
    exact (hs.take kx).append (hs.drop (kx + 1))
  exact x0_2 (R.upd (n:=s.toks) e0 (.inl rfl) hsb (.list gt (hs'.go S)) rfl) fun R' S'=>k _ _ _ R' S' (qv.go S)
theorem kindO_list {o:AO} (h:kindO o=2):∃ xs,o=.list xs:=by
  cases o with
  | list xs=>exact ⟨xs,rfl⟩
  | _=>exact absurd h (by dsimp only [kindO]; decide)
theorem getM_list {name:Str} {id:String} (slot:Slot "list" name id) (hty:typeOf (.builtin id)=pure (.type "method_descriptor")):GetM C 2 name (.builtin id):=by
  intro A Q E s ρ σ x v pl R q hk kk
  have:∃ xs,asList σ x=some xs:=by
    cases x with
    | lst xs=>exact ⟨xs,rfl⟩
    | loc l =>
      have hk:(σ[l]?.map kindO).getD 0=2:=hk
      cases e:σ[l]? with
      | none=>rw [e] at hk; exact absurd hk (by decide)
      | some o =>
        rw [e] at hk
        exact x1_1 (kindO_list hk) fun xs eo=>⟨xs,lstAt_of (eo▸e)⟩
    | _=>exact absurd hk (by dsimp only [kind,kindV]; decide)
  revert kk
  exact x1_1 this fun xs hxs=>R.asList_e q hxs fun a vs n ho hs kk=>getMethod_builtin ⟨_,ho,rfl⟩ PySem.F.plainAttrs_list slot hty (fun b e=>⟨_,Value.ref.inj e▸ho,rfl⟩) kk
theorem getM_str {name:Str} {id:String} (slot:Slot "str" name id) (hty:typeOf (.builtin id)=pure (.type "method_descriptor")):GetM C 1 name (.builtin id):=by
  intro A Q E s ρ σ x v pl R q hk kk
  cases q with
  | str y t ok=>exact getMethod_builtin (typeIs_str _ _ _) PySem.F.plainAttrs_str slot hty (fun b e=>nomatch e) kk
  | @loc l p e =>
    have hk:(σ[l]?.map kindO).getD 0=1:=hk
    cases e:σ[l]? with
    | none=>rw [e] at hk; exact absurd hk (by decide)
    | some o =>
      rw [e] at hk
      cases o <;> exact absurd (show _=1 from hk) (by dsimp only [kindO,Option.map,Option.getD]; decide)
  | _=>exact absurd hk (by dsimp only [kind,kindV]; decide)
end
section
variable {C:Cfg} {ρ ρ':Rho} {σ σ':St} {s:Shared} {A:Around} {E:Value→Shared→Prop} {env:Env} {vars:List Str} {lc:Lc} {d:Nat} {p:Pos}
end
noncomputable def negE (f:EM):EM:=fun lc σ=>(f lc σ).bind fun p=>p.1.int?.map fun x=>(.int (-x),p.2)
section
variable {C:Cfg} {ρ ρ':Rho} {σ σ':St} {s:Shared} {A:Around} {E:Value→Shared→Prop} {env:Env} {vars:List Str} {lc:Lc} {d:Nat} {p:Pos} {fl fs ff:Addr}
set_option tactic.hygienic false
theorem den_neg {e:Expr} {f:EM} (D:DenE C d env vars e f):DenE C d env vars (.UnaryOp .USub e p) (negE f):=by
  intro lc σ x σ' hf A Q E s ρ hA R lr kk
  refine oB hf fun y e1 hf=>oM hf fun i ei e=>?_
  refine wpAny_UnaryOp (D _ _ _ _ e1 A _ E s ρ hA R lr fun va s₁ ρ₁ R₁ S₁ q₁=>?_)
  exact q₁.int_of ei fun t=>neg_int (kfe kk e _ _ ρ₁ R₁.toks S₁ (.int _ _))
theorem den_notA (H:CfgOk C) (HS:SpecOk C fl fs ff) {LF:FM} (DL:DenCall C d (.ref fl) LF) {e:Expr} {f:EM} (D:DenE C (d + 1) env vars e f):DenE C (d + 1) env vars (.UnaryOp .Not e p) (tE (notT (trA LF f))):=by
  intro lc σ x σ' hf A Q E s ρ hA R lr kk
  refine oM hf fun y hy e=>oM hy fun z hz e'=>oB hz fun o e1 hz=>oB hz fun l el hz=>oB hz fun ac hl hz=>oM hz fun t e2 e3=>?_
  have kk:=kfe kk (((congrArg (fun p:Bool × St=>(AV.bool (!p.1),p.2)) e3).trans (congrArg (fun p:Bool × St=>(AV.bool p.1,p.2)) e')).trans e)
  exact wpAny_UnaryOp (D _ _ _ _ e1 A _ E s ρ hA R lr fun va s₁ ρ₁ R₁ S₁ q₁=>not_of (truthyA H HS DL hA R₁ (AV.loc_inv el▸q₁) (accAt_inv hl) e2 fun s₂ ρ₂ R₂ S₂=>kk _ s₂ ρ₂ R₂ (S₁.trans S₂) (.bool _)))
end
noncomputable def fdAt (K:Frag) (a:Addr):FuncData:=match K.lookup a with
  | some ⟨_,_,.func fd,_⟩=>fd
  | _=>default
noncomputable def bodyAt (K:Frag) (a:Addr):List Stmt:=match (fdAt K a).body with
  | .stmts b=>b
  | _=>[]
noncomputable def isFnAt (K:Frag) (a:Addr):Bool:=match K.lookup a with
  | some ⟨_,_,.func fd,_⟩=>match fd.body with
    | .stmts _=>true
    | _=>false
  | _=>false
set_option tactic.hygienic true
theorem isFnAt_of {K:Frag} {a:Addr} (h:isFnAt K a=true):∃ o,K.lookup a=some o∧o.data=.func (fdAt K a)∧(fdAt K a).body=.stmts (bodyAt K a):=by
  unfold isFnAt at h
  split at h
  · rename_i c d fd sl e
    split at h
    · rename_i b hb
      have e1:fdAt K a=fd:=by unfold fdAt; rw [e]
      refine ⟨_,e,by rw [e1],?_⟩
      unfold bodyAt
      rw [e1,hb]
    · cases h
  · cases h
noncomputable def codeIn (K:Frag) (code:Value) (q:Str):Bool:=match code with
  | .ref c=>match K.lookup c with
    | some ⟨_,_,.fields vs,_⟩=>match (vs[1]?:Option Value) with
      | some (.str x _)=>x == q
      | _=>false
    | _=>false
  | _=>false
theorem codeIn_of {K:Frag} {code:Value} {q:Str} {h:Heap} (X:K.In h) (e:codeIn K code q=true):h.CodeRec code q∧∃ c o,code=.ref c∧K.lookup c=some o:=by
  unfold codeIn at e
  split at e
  · rename_i c
    split at e
    · rename_i vs sl hl
      split at e
      · rename_i x t hx
        cases eq_of_beq e
        exact ⟨⟨c,_,vs,t,rfl,X _ _ hl,rfl,hx⟩,c,_,rfl,hl⟩
      · cases e
    · cases e
  · cases e
noncomputable def scopeIn (scope:Scope) (vars:List Str) (n:Nat):Bool :=
  !scope.isCoroutine && !scope.isGenerator && (scope.kind == .function) && scope.names.all (fun x=>!(x.2 == .cell)) && vars.all (fun x=>scope.names.lookup x == some .local) && decide vars.Nodup && decide (n≤vars.length)
structure ScopeIs (scope:Scope) (vars:List Str) (n:Nat):Prop where
  coro:scope.isCoroutine=false
  gen:scope.isGenerator=false
  kind:scope.kind=.function
  cells:∀ x∈scope.names,x.2≠.cell
  loc:∀ x∈vars,scope.names.lookup x=some .local
  nodup:vars.Nodup
  n_le:n≤vars.length
set_option tactic.hygienic false
theorem scopeIn_of {scope:Scope} {vars:List Str} {n:Nat} (h:scopeIn scope vars n=true):ScopeIs scope vars n:=by
  unfold scopeIn at h
  simp only [Bool.and_eq_true,Bool.not_eq_true',decide_eq_true_eq,List.all_eq_true,beq_iff_eq] at h
  obtain ⟨⟨⟨⟨⟨⟨h1,h2⟩,h3⟩,h4⟩,h5⟩,h6⟩,h7⟩:=h
  exact ⟨h1,h2,h3,fun x hx e=>by have:=h4 x hx; rw [e] at this; simp at this,h5,h6,h7⟩
structure FnIn (C:Cfg) (f:Addr) (vars:List Str) (n:Nat):Prop where
  fn:isFnAt C.K f=true
  glob:(fdAt C.K f).globals=mainGlobals
  blt:(fdAt C.K f).builtins=builtinsNs
  code:codeIn C.K (fdAt C.K f).code (fdAt C.K f).qualname=true
  scope:scopeIn (fdAt C.K f).scope vars n=true
noncomputable abbrev envAt (C:Cfg) (f L:Addr):Env:=envF (fdAt C.K f) f L
section
variable {C:Cfg} {f:Addr} {vars:List Str} {n:Nat} {ρ:Rho}
theorem FnIn.env (H:FnIn C f vars n) (L:Addr):EnvOk (envAt C f L) vars:=by
  have S:=scopeIn_of H.scope
  exact ⟨S.kind,fun x hx=>S.loc x hx,S.nodup,rfl,rfl⟩
theorem FnIn.okD (H:CfgOk C) {m:Nat} {dxs:List AV} {dv:List Value} (F:FnIn C f vars (m + dxs.length)) (dq:∀ ρ h,VRs C ρ h dxs dv)
    (hb:∀ s:Shared,C.K.In s.heap→∀ vs:List Value,vs.length=m→BindsTo s (fdAt C.K f) ⟨vs,[]⟩ ((vars.take (m + dxs.length)).zip (vs++dv))):FnD C f vars m dxs dv (bodyAt C.K f) (fdAt C.K f):=by
  refine x1_3 (isFnAt_of F.fn) fun o e hd hbd=>x0_2 (codeIn_of H.kin F.code) fun cr z=>x2_2 z fun c oc ec hc=>?_
  have S:=scopeIn_of F.scope
  exact ⟨⟨o,H.kin _ _ e,hd⟩,hbd,F.glob,F.blt,fun s k vs hv=>hb s (fun a o e=>k a o (H.kin a o e) (H.knt a o e)) vs hv,dq,H.knt _ _ e,cr,fun c' hc'=>Value.ref.inj (ec.symm.trans hc')▸H.knt _ _ hc,S.coro,S.gen,S.kind,S.cells,S.loc,S.nodup,S.n_le⟩
theorem globOwn {mg:Str→Option Value} (X:C.K.In C.s₁.heap) (G:C.s₁.heap.Ns mainGlobals mg) {x:Str} {v:Value} (e:nsIn C.K mainGlobals x=some (some v)):GlobVal C x v:=⟨mg,G,.inl (mg_of X G e)⟩
set_option tactic.hygienic true
theorem ns_of {h:Heap} {a:Addr} {m:Str→Option Value} {x:Str} {r:Option Value} {K:Frag} (X:K.In h) (G:h.Ns a m) (e:nsIn K a x=some r):m x=r:=by
  (refine x3_4 (G) fun o es ep ho hd uu hf=>?_; clear G)
  unfold nsIn at e
  split at e
  · rename_i c d es' n' sl q
    have:=X _ _ q
    rw [ho] at this
    (refine c1 this fun hh0=>?_; clear this; subst hh0)
    cases hd
    rw [← hf]
    unfold nsFind findBy
    rw [← Array.find?_toList]
    split at e
    · rename_i en h1
      (refine c1 e fun hh0=>?_; clear e; subst hh0)
      rw [h1]; rfl
    · rename_i h1
      split at e
      · exact ns e
      · (refine c1 e fun hh0=>?_; clear e; subst hh0)
        rw [h1]; rfl
  · exact ns e
set_option tactic.hygienic false
theorem globBlt {mg mb:Str→Option Value} (X:C.K.In C.s₁.heap) (G:C.s₁.heap.Ns mainGlobals mg) (B:C.s₁.heap.Ns builtinsNs mb) {x:Str} {v:Value} (e1:nsIn C.K mainGlobals x=some none) (e2:nsIn C.K builtinsNs x=some (some v)):GlobVal C x v :=
  ⟨mg,G,.inr ⟨ns_of X G e1,mb,B,ns_of X B e2⟩⟩
end
noncomputable def strV:Value→Bool
  | .str ..=>true
  | _=>false
noncomputable def intV:Value→Bool
  | .int ..=>true
  | _=>false
noncomputable def boolV:Value→Bool
  | .bool _=>true
  | _=>false
noncomputable def fieldsD:Data→Option (Array Value)
  | .fields vs=>some vs
  | _=>none
theorem fieldsD_of {d:Data} {vs:Array Value} (h:fieldsD d=some vs):d=.fields vs:=by cases d <;> cases h; rfl
theorem strV_of {v:Value} (h:strV v=true):∃ x t,v=.str x t:=by cases v <;> first | exact ⟨_,_,rfl⟩ | cases h
theorem intV_of {v:Value} (h:intV v=true):∃ x t,v=.int x t:=by cases v <;> first | exact ⟨_,_,rfl⟩ | cases h
theorem boolV_of {v:Value} (h:boolV v=true):∃ x,v=.bool x:=by cases v <;> first | exact ⟨_,rfl⟩ | cases h
noncomputable def codeTabIn (K:Frag) (c P:Addr):Bool:=match K.lookup c,K.lookup P with
  | some o,some o'=>(match fieldsD o.data with
    | some vs=>(o.cls == .type "code") && (o'.cls == .none) && o'.dict.isNone && o'.slots.isEmpty && ((fieldsD o'.data).map (·.size) == some 0) && (vs[11]? == some (.ref P)) && (vs.getD 11 .none == .ref P) && (c != P) && strV (vs.getD 18 .none) && intV (vs.getD 7 .none) && boolV (vs.getD 9 .none) && intV (vs.getD 10 .none)
    | none=>false)
  | _,_=>false
set_option tactic.hygienic true
theorem codeTabIn_of {K:Frag} {c P:Addr} {h:Heap} (X:K.In h) (e:codeTabIn K c P=true):h.IsCode c P #[]∧h.TableAt c P #[]:=by
  unfold codeTabIn at e
  split at e
  · rename_i o o' e1 e2
    split at e
    · rename_i vs hv
      simp only [Bool.and_eq_true,beq_iff_eq,bne_iff_ne] at e
      obtain ⟨⟨⟨⟨⟨⟨⟨⟨⟨⟨⟨h1,h2⟩,h3⟩,h4⟩,h5⟩,h6⟩,h7⟩,h8⟩,h9⟩,h10⟩,h11⟩,h12⟩:=e
      (refine x1_2 (Option.map_eq_some_iff.mp h5) fun ps hps hz=>?_)
      have hp:ps=#[]:=Array.eq_empty_of_size_eq_zero hz
      subst hp
      obtain ⟨oc,od,dt,osl⟩:=o
      obtain ⟨oc',od',dt',osl'⟩:=o'
      have hd:=fieldsD_of hv
      have hd':=fieldsD_of hps
      dsimp only at h1 h2 h3 h4 hd hd'
      subst h1 h2 hd hd'
      have h3':od'=none:=by simpa using h3
      have h4':osl'=#[]:=by simpa using h4
      subst h3' h4'
      (refine x2_1 (strV_of h9) fun uu uu a1=>?_)
      (refine x2_1 (intV_of h10) fun uu uu a2=>?_)
      (refine x1_1 (boolV_of h11) fun uu a3=>?_)
      (refine x2_1 (intV_of h12) fun uu uu a4=>?_)
      exact ⟨⟨_,vs,_,_,_,_,_,_,_,_,X _ _ e1,rfl,h7,a1,a2,a3,a4,X _ _ e2,rfl,trivial,h8⟩,⟨_,vs,X _ _ e1,rfl,rfl,h6⟩,X _ _ e2⟩
    · cases e
  · cases e
set_option tactic.hygienic false
theorem lookup_filter (q:Addr→Bool):∀ (l:Frag) (a:Addr),(l.filter fun p=>q p.1).lookup a=if q a then l.lookup a else none
  | [],a=>by simp
  | (b,o) :: l,a=>by
    have ih:=lookup_filter q l a
    rw [List.filter_cons]
    by_cases hb:q b=true
    · simp only [hb,if_true]
      rw [List.lookup_cons,List.lookup_cons,ih]
      by_cases hab:a=b
      · subst hab; simp [hb]
      · rw [beq_false_of_ne hab]
    · simp only [hb]
      rw [List.lookup_cons]
      simp only [Bool.false_eq_true,if_false]
      rw [ih]
      by_cases hab:a=b
      · subst hab; simp [hb]
      · rw [beq_false_of_ne hab]
structure Start (K:Frag) (s₁:Shared) (mg mb:Str→Option Value):Prop where
  kx:K.In s₁.heap
  g:s₁.heap.Ns mainGlobals mg
  b:s₁.heap.Ns builtinsNs mb
  lim:s₁.heap.NoLimit
  bm:∃ bm ob,BMod s₁.heap mainGlobals mg bm ob
  gens:s₁.gens=#[]
noncomputable def noTabs (K:Frag) (ts:List Addr):Frag:=K.filter fun p=>!ts.contains p.1
noncomputable def mkCfg (prog:Program) (w:World) (K:Frag) (s₁:Shared) (VF ACC:Addr) (ts:List (Addr × Addr)) (G:Addr→Nat→GenState→Prop) (X:Nat→Addr × Addr→List Value→Obj→Obj→Prop):Cfg :=
  { prog:=prog,w:=w,K:=noTabs K (ts.map (·.2)),s₁:=s₁,VF:=VF,ACC:=ACC,tabs:=ts.map (fun t=>(t.1,t.2,#[])),G:=G,X:=X }
section
variable {prog:Program} {w:World} {K:Frag} {s₁:Shared} {VF ACC:Addr} {ts:List (Addr × Addr)} {G:Addr→Nat→GenState→Prop} {X:Nat→Addr × Addr→List Value→Obj→Obj→Prop} {mg mb:Str→Option Value}
theorem noTabs_lookup {ts:List Addr} {a:Addr} {o:Obj} (h:(noTabs K ts).lookup a=some o):a∉ts∧K.lookup a=some o:=by
  unfold noTabs at h
  rw [lookup_filter (fun a=>!ts.contains a)] at h
  (refine sf h ?_; clear h; intro q h)
  simp at q
  exact ⟨q,h⟩
theorem isTab_iff {a:Addr}:(mkCfg prog w K s₁ VF ACC ts G X).isTab a↔a∈ts.map (·.2):=by
  unfold Cfg.isTab mkCfg
  simp
theorem start_cfg (S:Start K s₁ mg mb) (h1:cStatics∉ts.map (·.2)) (h2:mainGlobals∉ts.map (·.2)) (h3:builtinsNs∉ts.map (·.2)):CfgOk (mkCfg prog w K s₁ VF ACC ts G X) where
  kin a o e:=S.kx a o (noTabs_lookup e).2
  knt a o e:=fun h=>(noTabs_lookup e).1 (isTab_iff.mp h)
  lim:=S.lim
  stat h:=h1 (isTab_iff.mp h)
  glob h:=h2 (isTab_iff.mp h)
  blt h:=h3 (isTab_iff.mp h)
theorem start_gen (S:Start K s₁ mg mb) (ht:∀ t∈ts,codeTabIn K t.1 t.2=true) (nd:∀ t∈ts,∀ t'∈ts,t.2=t'.2→t=t'):GenOk (mkCfg prog w K s₁ VF ACC ts G X) where
  bm:=by
    (refine x2_1 (S.bm) fun bm ob B=>?_)
    refine ⟨mg,bm,ob,B,fun h=>?_⟩
    (refine x1_2 (List.mem_map.mp (isTab_iff.mp h)) fun t hm e=>?_)
    have:=(codeTabIn_of S.kx (ht t hm)).2.2
    rw [e,B.obj] at this
    have hc:=B.cls
    (refine c1 this fun hh0=>?_; clear this; subst hh0)
    cases hc
  one:=by
    intro t h t' h' e
    unfold mkCfg at h h'
    (refine x1_2 (List.mem_map.mp h) fun u hu rr2=>?_; subst rr2)
    (refine x1_2 (List.mem_map.mp h') fun u' hu' rr2=>?_; subst rr2)
    have:=nd u hu u' hu' e
    rw [this]
theorem start_rel (S:Start K s₁ mg mb) (ht:∀ t∈ts,codeTabIn K t.1 t.2=true):Rel (mkCfg prog w K s₁ VF ACC ts G X) [] [] s₁ where
  old b o e _:=e
  tab t h:=by
    unfold mkCfg at h
    (refine x1_2 (List.mem_map.mp h) fun u hu rr2=>?_; subst rr2)
    (refine x0_2 (codeTabIn_of S.kx (ht u hu)) fun a b=>?_)
    exact ⟨#[],by simpa using a,⟨by simpa using b,fun pos cv e=>by simp [codeAmong] at e⟩⟩
  lo _ h:=nomatch h
  dis:=.nil
  len:=rfl
  st l p o e:=by simp at e
  gens:=⟨.of_eq S.gens,fun l p m k e=>(by simp at e),fun l p n e=>(by simp at e),fun l l' p p' o o' n a b c d e=>(by simp at e)⟩
  drawn:=rfl
  os:=rfl
  size:=Nat.le_refl _
theorem notTab_of (S:Start K s₁ mg mb) (ht:∀ t∈ts,codeTabIn K t.1 t.2=true) {a:Addr} {o:Obj} (ho:s₁.heap.get? a=some o) (hc:o.cls≠.none):¬ (mkCfg prog w K s₁ VF ACC ts G X).isTab a:=fun h=>by
  (refine x1_2 (List.mem_map.mp (isTab_iff.mp h)) fun t hm e=>?_)
  have:=(codeTabIn_of S.kx (ht t hm)).2.2
  rw [e,ho] at this
  (refine c1 this fun hh0=>?_; clear this; subst hh0)
  exact hc rfl
theorem end_old {ρ:Rho} {σ:St} {s':Shared} (S:Start K s₁ mg mb) (ht:∀ t∈ts,codeTabIn K t.1 t.2=true) (R:Rel (mkCfg prog w K s₁ VF ACC ts G X) ρ σ s'):OldK s₁.heap s'.heap:=by
  refine ⟨fun b o e=>?_,fun b o e=>?_⟩
  · by_cases hb:(mkCfg prog w K s₁ VF ACC ts G X).isTab b
    · (refine x1_2 (List.mem_map.mp (isTab_iff.mp hb)) fun t hm e'=>?_)
      (refine x0_2 (codeTabIn_of S.kx (ht t hm)) fun uu q=>?_)
      subst e'
      obtain ⟨more,_,q'⟩:=R.tab (t.1,t.2,#[]) (by unfold mkCfg; exact List.mem_map.mpr ⟨t,hm,rfl⟩)
      rw [q.2] at e
      (refine c1 e fun hh0=>?_; clear e; subst hh0)
      refine .inr (.inl ⟨q.isCodeTable,rfl,#[],more,rfl,?_⟩)
      exact q'.at_.2
    · exact .inl (R.old b o e hb)
  · by_cases hb:(mkCfg prog w K s₁ VF ACC ts G X).isTab b
    · (refine x1_2 (List.mem_map.mp (isTab_iff.mp hb)) fun t hm e'=>?_)
      subst e'
      obtain ⟨more,_,q'⟩:=R.tab (t.1,t.2,#[]) (by unfold mkCfg; exact List.mem_map.mpr ⟨t,hm,rfl⟩)
      exact ⟨_,q'.at_.2⟩
    · exact ⟨o,R.old b o e hb⟩
end
noncomputable def noF:FM:=fun _ _=>none
theorem den_noF {C:Cfg} {d:Nat} {fv:Value}:DenCall C d fv noF:=by intro xs σ x σ' h; cases h
noncomputable def pushF:FM:=runF ["self", "fws", "string"] 3 (seqS [exprS (mE 4 appendF (nE 0) [tupE [nE 1,nE 2]])])
noncomputable def pcF:FM:=runF ["self"] 1 (seqS [partCountS])
noncomputable def popF:FM:=runF ["self"] 1 (seqS [ifS (cmpT .Eq (mE 4 pcF (nE 0) []) (cE (.int 0))) (seqS [retS (tupE [cE (.str ""),cE (.str "")])]) (seqS []),popS])
noncomputable def popFromF:FM:=runD ["self", "i", "popped"] 2 [] (seqS [asgS 2 (sliceE (nE 0) (some (nE 1)) none),setSlS (nE 0) (some (nE 1)) none (lstE []),retS (nE 2)])
noncomputable def accLenF:FM:=runF ["self"] 1 (seqS [accLenS])
noncomputable def accStrF:FM:=runF ["self"] 1 (seqS [accStrS])
noncomputable def resetB:SM:=seqS [ifS (cmpT .Is (nE 1) (cE .none)) (seqS [asgS 1 (lstE [])]) (seqS []),setSlS (nE 0) none none (nE 1),iniS (nE 0) (cE (.int 0))]
noncomputable def resetF:FM:=orF (runD ["self", "startval"] 1 [.none] resetB) (runD ["self", "startval"] 2 [] resetB)
noncomputable def onlywsF:FM:=runF ["self"] 1 (seqS [retS (andE (tE (cmpT .Eq (attrE 6 (nE 0)) (cE (.int 0)))) (orE (tE (notT (trA accLenF (nE 0)))) (mE 1 isspaceF (callE (strF accStrF noF) [nE 0]) [])))])
noncomputable def lineE:EM:=attrE 5 (nE 0)
noncomputable def linesE:EM:=attrE 4 (nE 0)
noncomputable def strAcc:EM:=callE (strF accStrF noF) [lineE]
noncomputable def newlineB:SM:=seqS [
  asgS 1 (mE 4 popF lineE []),
  ifS (cmpT .NotEq (nE 1) (tupE [cE (.str " "),cE (.str "")])) (seqS [exprS (mStarE pushF lineE (nE 1))]) (seqS []),
  ifS (cmpT .Gt (callE (lenF accLenF) [lineE]) (cE (.int 0)))
    (seqS [ifS (andT [trT (mE 4 onlywsF lineE []),trT linesE])
      (seqS [augIdxS linesE (negE (cE (.int 1))) .Add strAcc])
      (seqS [exprS (mE 2 appendF linesE [strAcc])])]) (seqS []),
  exprS (mE 4 resetF lineE [])]
noncomputable def newlineF:FM:=runF ["self", "end_of_line"] 1 newlineB
noncomputable def uStrF:FM:=runF ["self", "linesep"] 2 (seqS [exprS (mE 3 newlineF (nE 0) []),retS (mE 1 joinF (nE 1) [linesE])])
noncomputable def seekB:SM:=seqS [
  ifS (trT (mE 1 isspaceF (nE 3) [])) (seqS [
    asgS 1 (idxE (idxE lineE (nE 4)) (cE (.int 0))),
    ifS (andT [trT (nE 1),cmpT .Eq (idxE (nE 1) (cE (.int 0))) (nE 3)]) (seqS [brkS]) (seqS [])]) (seqS []),
  asgS 5 (idxE (idxE lineE (binE .Sub (nE 4) (cE (.int 1)))) (cE (.int 1))),
  ifS (andT [trT (nE 5),cmpT .Eq (idxE (nE 5) (negE (cE (.int 1)))) (nE 3)]) (seqS [brkS]) (seqS [])]
noncomputable def seekS:SM:=forS 3 (attrE 3 (nE 0))
  (seqS [forRS 4 [binE .Sub (mE 4 pcF lineE []) (cE (.int 1)),cE (.int 0),negE (cE (.int 1))] seekB (seqS [contS]),brkS])
  (seqS [unpS 1 6 (mE 4 popF lineE []),
    ifS (cmpT .Gt (attrE 6 lineE) (cE (.int 0))) (seqS [exprS (mE 3 newlineF (nE 0) []),ifS (notT (trT (nE 1))) (seqS [asgS 1 (cE (.str " "))]) (seqS [])]) (seqS []),
    exprS (mE 4 pushF lineE [nE 1,nE 6]),
    retNS])
noncomputable def chunkB:SM:=seqS [
  exprS (mE 4 pushF lineE [nE 1,nE 2]),
  ifS (cmpT .Gt (callE (lenF accLenF) [lineE]) (attrE 0 (nE 0))) (seqS [
    seekS,
    asgS 7 (mE 4 popFromF lineE [nE 4]),
    exprS (mE 2 appendF linesE [strAcc]),
    exprS (mE 4 resetF lineE [nE 7])]) (seqS [])]
noncomputable def chunkF:FM:=runF ["self", "fws", "string", "ch", "i", "prevpart", "part", "remainder"] 3 chunkB
structure BE (C:Cfg) (d:Nat) (env:Env) (vars:List Str) (e:Expr) (f:EM):Prop where
  run:DenE C d env vars e f
structure BT (C:Cfg) (d:Nat) (env:Env) (vars:List Str) (e:Expr) (f:TM):Prop where
  run:DenT C d env vars e f
structure BS (C:Cfg) (d:Nat) (env:Env) (vars:List Str) (e:Stmt) (f:SM):Prop where
  run:DenS C d env vars e f
structure BB (C:Cfg) (d:Nat) (env:Env) (vars:List Str) (e:List Stmt) (f:SM):Prop where
  run:DenB C d env vars e f
structure BEs (C:Cfg) (d:Nat) (env:Env) (vars:List Str) (e:List Expr) (f:List EM):Prop where
  run:DenEs C d env vars e f
structure BTs (C:Cfg) (d:Nat) (env:Env) (vars:List Str) (e:List Expr) (f:List TM):Prop where
  run:DenTs C d env vars e f
structure BO (C:Cfg) (d:Nat) (env:Env) (vars:List Str) (e:Option Expr) (f:Option EM):Prop where
  run:DenO C d env vars e f
structure BC (C:Cfg) (d:Nat) (fv:Value) (F:FM):Prop where
  run:DenCall C d fv F
structure BF (C:Cfg) (d:Nat) (f:Addr) (F:FM):Prop where
  run:DenF C d f F
structure BSA (C:Cfg) (d:Nat) (env:Env) (vars:List Str) (body:List Stmt) (e:Stmt) (f:SM):Prop where
  run:DenSAt C d env vars body e f
structure BBA (C:Cfg) (d:Nat) (env:Env) (vars:List Str) (body:List Stmt) (e:List Stmt) (f:SM):Prop where
  run:DenBAt C d env vars body e f
structure BM (C:Cfg) (k:Nat) (name:Str) (fv:Value):Prop where
  run:GetM C k name fv
structure EnvB (env:Env) (vars:List Str):Prop where
  ok:EnvOk env vars
  nd:∀ x∈vars,(x == ("__debug__" : Str))=false
  int:interactive env=false
noncomputable def plainVal:Expr→Bool
  | .ListComp .. | .SetComp .. | .DictComp ..=>false
  | _=>true
theorem swaps_plain {e:Expr} (h:plainVal e=true) (t:Option Expr) (l:Nat) (env:Env):swapsWith e t l env=pure false:=by
  cases e <;> first | rfl | cases h
noncomputable def noStarE:Expr→Bool
  | .Starred ..=>false
  | _=>true
theorem star_plain {e:Expr} (h:noStarE e=true) (env:Env) (r:List Expr):starEach (e :: r) env=(false,eval e env) :: starEach r env:=by
  cases e <;> first | rfl | cases h
section
variable {C:Cfg} {d d':Nat} {env:Env} {vars:List Str} {p p' p0 p1:Pos} {fl fs ff:Addr}
theorem BC.up {fv:Value} {F:FM} (D:BC C d' fv F) (h:d'≤d):BC C d fv F:=⟨D.run.mono h⟩
theorem BF.call {f:Addr} {F:FM} (D:BF C d' f F) (h:d'≤d):BC C d (.ref f) F:=⟨D.run.call.mono h⟩
theorem b_int {i:Int} {k:Nat}:BE C d env vars (.Constant (.int i) k p) (cE (.int i)):=⟨den_int⟩
theorem b_str {x:Str} {k:Nat} (ok:PyData.strOk x=true):BE C d env vars (.Constant (.str x) k p) (cE (.str x)):=⟨den_str ok⟩
theorem b_bool {b:Bool} {k:Nat}:BE C d env vars (.Constant (.bool b) k p) (cE (.bool b)):=⟨den_bool⟩
theorem b_none {k:Nat}:BE C d env vars (.Constant .none k p) (cE .none):=⟨den_none⟩
theorem b_name (He:EnvB env vars) {n:Str} {i:Nat} (hi:vars[i]?=some n):BE C d env vars (.Name n p) (nE i):=⟨den_name He.ok hi (He.nd _ (List.mem_of_getElem? hi))⟩
theorem b_bin {l r:Expr} {op:Operator} {f g:EM} (D1:BE C d env vars l f) (D2:BE C d env vars r g):BE C d env vars (.BinOp l op r p) (binE op f g):=⟨den_bin D1.run D2.run⟩
theorem b_cmp {l r:Expr} {op:CmpOp} {f g:EM} (D1:BE C (d + 1) env vars l f) (D2:BE C (d + 1) env vars r g) (hb:behindInMarks op r=false):BE C (d + 1) env vars (.Compare l [op] [r] p) (tE (cmpT op f g)):=⟨den_cmp D1.run D2.run hb⟩
theorem b_cmpT {l r:Expr} {op:CmpOp} {f g:EM} (D1:BE C (d + 1) env vars l f) (D2:BE C (d + 1) env vars r g) (hb:behindInMarks op r=false):BT C (d + 1) env vars (.Compare l [op] [r] p) (cmpT op f g):=⟨den_cmpT D1.run D2.run hb⟩
theorem b_tr {e:Expr} {f:EM} (D:BE C d env vars e f) (hp:∀ whole,isTrue e env whole=(do let v ← whole; standAt e.pos; holding [v] (truthy v))):BT C d env vars e (trT f):=⟨den_truth D.run hp⟩
theorem b_notT {e:Expr} {f:TM} (D:BT C d env vars e f):BT C d env vars (.UnaryOp .Not e p) (notT f):=⟨den_notT D.run⟩
theorem b_tnil:BTs C d env vars [] []:=⟨.nil⟩
theorem b_tcons {e:Expr} {f:TM} {es:List Expr} {fs:List TM} (a:BT C d env vars e f) (b:BTs C d env vars es fs):BTs C d env vars (e :: es) (f :: fs):=⟨.cons a.run b.run⟩
theorem b_andT {es:List Expr} {fs:List TM} (D:BTs C d env vars es fs):BT C d env vars (.BoolOp .And es p) (andT fs):=⟨den_andT D.run⟩
theorem b_orT {es:List Expr} {fs:List TM} (D:BTs C d env vars es fs):BT C d env vars (.BoolOp .Or es p) (orT fs):=⟨den_orT D.run⟩
theorem b_andE {l r:Expr} {f g:EM} (D1:BE C d env vars l f) (D2:BE C d env vars r g):BE C d env vars (.BoolOp .And [l,r] p) (andE f g):=⟨den_andE D1.run D2.run⟩
theorem b_orE {l r:Expr} {f g:EM} (D1:BE C d env vars l f) (D2:BE C d env vars r g):BE C d env vars (.BoolOp .Or [l,r] p) (orE f g):=⟨den_orE D1.run D2.run⟩
theorem b_ite {c l r:Expr} {t:TM} {f g:EM} (D0:BT C d env vars c t) (D1:BE C d env vars l f) (D2:BE C d env vars r g):BE C d env vars (.IfExp c l r p) (iteE t f g):=⟨den_ite D0.run D1.run D2.run⟩
theorem b_neg {e:Expr} {f:EM} (D:BE C d env vars e f):BE C d env vars (.UnaryOp .USub e p) (negE f):=⟨den_neg D.run⟩
theorem b_notA (H:CfgOk C) (HS:SpecOk C fl fs ff) {LF:FM} (DL:BC C d (.ref fl) LF) {e:Expr} {f:EM} (D:BE C (d + 1) env vars e f):BE C (d + 1) env vars (.UnaryOp .Not e p) (tE (notT (trA LF f))):=⟨den_notA H HS DL.run D.run⟩
theorem b_nil:BB C d env vars [] (seqS []):=⟨den_nil⟩
theorem b_cons {st:Stmt} {r:List Stmt} {f:SM} {fs:List SM} (D1:BS C d env vars st f) (D2:BB C d env vars r (seqS fs)):BB C d env vars (st :: r) (seqS (f :: fs)):=⟨den_cons D1.run D2.run⟩
theorem b_asg (H:EnvB env vars) {i:Nat} {n:Str} {e:Expr} {f:EM} (hi:vars[i]?=some n) (D:BE C d env vars e f) (hs:plainVal e=true):BS C d env vars (.Assign [.Name n p'] e p) (asgS i f):=⟨den_asg H.ok hi D.run (swaps_plain hs _ _ _)⟩
theorem b_if {c:Expr} {t:TM} {b1 b2:List Stmt} {f g:SM} (D0:BT C d env vars c t) (D1:BB C d env vars b1 f) (D2:BB C d env vars b2 g):BS C d env vars (.If c b1 b2 p) (ifS t f g):=⟨den_if D0.run D1.run D2.run⟩
theorem b_ret {e:Expr} {f:EM} (D:BE C d env vars e f):BS C d env vars (.Return (some e) p) (retS f):=⟨den_ret D.run⟩
theorem b_retN:BS C d env vars (.Return none p) retNS:=⟨den_retN⟩
theorem b_brk:BS C d env vars (.Break p) brkS:=⟨den_brk⟩
theorem b_cont:BS C d env vars (.Continue p) contS:=⟨den_cont⟩
theorem b_expr (H:EnvB env vars) {e:Expr} {f:EM} (D:BE C d env vars e f) (hs:plainVal e=true):BS C d env vars (.Expr e p) (exprS f):=⟨den_expr D.run H.int (swaps_plain hs _ _ _)⟩
theorem b_enil:BEs C d env vars [] []:=⟨.nil⟩
theorem b_econs {e:Expr} {f:EM} {es:List Expr} {fs:List EM} (a:BE C d env vars e f) (b:BEs C d env vars es fs) (ns:noStarE e=true):BEs C d env vars (e :: es) (f :: fs):=⟨.cons a.run b.run fun r=>star_plain ns env r⟩
theorem b_tup {es:List Expr} {fs:List EM} {k:Nat} (D:BEs C d env vars es fs):BE C d env vars (.Tuple es k p) (tupE fs):=⟨den_tup D.run⟩
theorem b_lst {es:List Expr} {fs:List EM} (D:BEs C d env vars es fs):BE C d env vars (.List es p) (lstE fs):=⟨den_lst D.run⟩
theorem b_newL {es:List Expr} {fs:List EM} (D:BEs C d env vars es fs):BE C d env vars (.List es p) (newLE fs):=⟨den_newL D.run⟩
theorem b_call (H:CfgOk C) (He:EnvB env vars) {x:Str} {fv:Value} {F:FM} {es:List Expr} {fs:List EM} (hv:GlobVal C x fv) (hx:env.kindOf x=some .globalImplicit) (hk:KeepOk C fv) (DF:BC C d fv F) (D:BEs C d env vars es fs)
    (hd:(x == ("__debug__" : Str))=false):BE C d env vars (.Call (.Name x p0) es [] p) (callE F fs):=⟨den_call H He.ok hv hx hk DF.run D.run hd⟩
theorem b_meth (H:CfgOk C) {k:Nat} {name:Str} {fv:Value} {F:FM} {o:Expr} {f:EM} {es:List Expr} {fs:List EM} {apos:Pos} (hg:BM C k name fv) (hk:KeepOk C fv) (DF:BC C d fv F) (D0:BE C d env vars o f) (D:BEs C d env vars es fs)
    (hb:∀ nm whole,attributeBase o nm env whole=whole) (hl:es.length < 30) (hp:(apos.endLine == p.line)=true):BE C d env vars (.Call (.Attribute o name apos) es [] p) (mE k F f fs):=⟨den_meth H hg.run hk DF.run D0.run D.run hb hl hp⟩
theorem b_attr {o:Expr} {n:Str} {f:EM} {k:Nat} (H:CfgOk C) (HC:ClsOk C) (hn:attrName k=n) (D:BE C d env vars o f) (hb:∀ nm whole,attributeBase o nm env whole=whole):BE C d env vars (.Attribute o n p) (attrE k f):=⟨den_attr H HC hn D.run hb⟩
theorem b_methStar (H:CfgOk C) (HC:ClsOk C) {name:Str} {f:Addr} {F:FM} {o e:Expr} {fo g:EM} {apos ps:Pos} (B:BindOk C name f) (DF:BF C d' f F) (h:d'≤d) (D0:BE C d env vars o fo) (D:BE C d env vars e g)
    (hb:∀ nm whole,attributeBase o nm env whole=whole):BE C d env vars (.Call (.Attribute o name apos) [.Starred e ps] [] p) (mStarE F fo g):=⟨den_methStar H HC B (DF.run.mono h) D0.run D.run hb⟩
theorem b_unp (He:EnvB env vars) {i j:Nat} {n m:Str} {e:Expr} {f:EM} {k0:Nat} {pa pb pt:Pos} (hi:vars[i]?=some n) (hj:vars[j]?=some m) (D:BE C d env vars e f)
    (hs:swapsWithSole [.Tuple [.Name n pa,.Name m pb] k0 pt] e p.line env=pure false) (hw:swappedStores [.Tuple [.Name n pa,.Name m pb] k0 pt] e env=pure none):BS C d env vars (.Assign [.Tuple [.Name n pa,.Name m pb] k0 pt] e p) (unpS i j f):=⟨den_unp He.ok hi hj D.run hs hw⟩
theorem b_for (He:EnvB env vars) {j:Nat} {n:Str} {pn:Pos} {iter:Expr} {body orelse:List Stmt} {f:EM} {B O:SM} (hj:vars[j]?=some n) (D:BE C d env vars iter f) (DB:BB C d env vars body B) (DO:BB C d env vars orelse O)
    (hs:∀ x,foldedSetIterable iter env x=pure x):BS C d env vars (.For (.Name n pn) iter body orelse p) (forS j f B O):=⟨den_for He.ok hj D.run DB.run DO.run hs⟩
theorem b_forR (H:CfgOk C) (He:EnvB env vars) {j:Nat} {n:Str} {pn:Pos} {es:List Expr} {body orelse:List Stmt} {fs:List EM} {B O:SM} (hj:vars[j]?=some n) (hv:GlobVal C "range" (.type "range")) (hk:env.kindOf "range" = some .globalImplicit) (D:BEs C d env vars es fs) (DB:BB C d env vars body B) (DO:BB C d env vars orelse O) :
    BS C d env vars (.For (.Name n pn) (.Call (.Name "range" p0) es [] p1) body orelse p) (forRS j fs B O):=⟨den_forR H He.ok hj hv hk D.run DB.run DO.run⟩
theorem b_idx (H:CfgOk C) (HC:ClsOk C) (HA:AccOk C) (HI:ItemOk C) {value slice:Expr} {f g:EM} (D1:BE C d env vars value f) (D2:BE C d env vars slice g):BE C d env vars (.Subscript value slice p) (idxE f g):=⟨den_idx H HC HA HI D1.run D2.run⟩
theorem b_oN:BO C d env vars none none:=⟨.none⟩
theorem b_oS {e:Expr} {f:EM} (D:BE C d env vars e f):BO C d env vars (some e) (some f):=⟨.some D.run⟩
theorem b_slice (H:CfgOk C) (HC:ClsOk C) (HA:AccOk C) (HI:ItemOk C) {value:Expr} {lo hi:Option Expr} {f:EM} {fl fh:Option EM} {ps:Pos} (D1:BE C d env vars value f) (D2:BO C d env vars lo fl) (D3:BO C d env vars hi fh) :
    BE C d env vars (.Subscript value (.Slice lo hi none ps) p) (sliceE f fl fh):=⟨den_slice H HC HA HI D1.run D2.run D3.run⟩
theorem b_setSl (H:CfgOk C) (HC:ClsOk C) (HA:AccOk C) (HI:ItemOk C) {o value:Expr} {lo hi:Option Expr} {f g:EM} {fl fh:Option EM} {ps':Pos} (D0:BE C d env vars value f) (D1:BE C d env vars o g) (D2:BO C d env vars lo fl) (D3:BO C d env vars hi fh)
    (hs:plainVal value=true):BS C d env vars (.Assign [.Subscript o (.Slice lo hi none ps') p'] value p) (setSlS g fl fh f):=⟨den_setSl H HC HA HI D0.run D1.run D2.run D3.run (swaps_plain hs _ _ _)⟩
theorem b_aug (He:EnvB env vars) {i:Nat} {n:Str} {op:Operator} {e:Expr} {f:EM} (hi:vars[i]?=some n) (D:BE C d env vars e f):BS C d env vars (.AugAssign (.Name n p') op e p) (augS i op f):=⟨den_aug He.ok hi D.run⟩
set_option tactic.hygienic true
theorem b_augIdx (H:CfgOk C) (HC:ClsOk C) (HA:AccOk C) (HI:ItemOk C) {o i value:Expr} {op:Operator} {g ix f:EM} (D1:BE C d env vars o g) (D2:BE C d env vars i ix) (D3:BE C d env vars value f)
    (hst:∀ ov iv new,augStore i ov iv new=(do holding [new,ov,iv] (setItem ov iv new); release [new,ov,iv] []; pure .next)) :
    BS C d env vars (.AugAssign (.Subscript o i p') op value p) (augIdxS g ix op f):=⟨den_augIdx H HC HA HI D1.run D2.run D3.run hst⟩
set_option tactic.hygienic false
theorem b_ini (H:CfgOk C) (HS:StoreOk C C.ACC) (ht:takerIn C.K C.ACC "_initial_size" = some none) {o e:Expr} {g f:EM} (D0:BE C d env vars o g) (D:BE C d env vars e f) (hs:plainVal e=true) :
    BS C d env vars (.Assign [.Attribute o "_initial_size" p'] e p) (iniS g f):=⟨den_ini H HS ht D0.run D.run (swaps_plain hs _ _ _)⟩
theorem FnIn.envB {f:Addr} {n:Nat} (F:FnIn C f vars n) (nd:vars.all (fun x=>!(x == ("__debug__" : Str)))=true) (L:Addr):EnvB (envAt C f L) vars:=by
  refine ⟨F.env L,fun x hx=>?_,?_⟩
  · have:=List.all_eq_true.mp nd x hx
    simpa using this
  · have S:=scopeIn_of F.scope
    show ((fdAt C.K f).scope.kind == .module && _)=false
    rw [S.kind]; rfl
theorem FnIn.ok0 {f:Addr} {n:Nat} (H:CfgOk C) (F:FnIn C f vars n) (hb:∀ vs:List Value,vs.length=n→bindArgs (fdAt C.K f) ⟨vs,[]⟩=pure ((vars.take n).zip vs)):FnD C f vars n [] [] (bodyAt C.K f) (fdAt C.K f) :=
  F.okD (m:=n) (dxs:=[]) (dv:=[]) H (fun uu uu=>.nil) fun s X vs h=>.of_eq (by rw [hb vs h,List.append_nil]; rfl)
theorem b_fn {f:Addr} {n:Nat} {B:SM} (H:CfgOk C) (F:FnIn C f vars n) (nd:vars.all (fun x=>!(x == ("__debug__" : Str)))=true) (hb:∀ vs:List Value,vs.length=n→bindArgs (fdAt C.K f) ⟨vs,[]⟩=pure ((vars.take n).zip vs))
    (D:∀ L,EnvB (envAt C f L) vars→BB C d (envAt C f L) vars (bodyAt C.K f) B):BF C (d + 1) f (runF vars n B):=by
  exact ⟨runD_runF▸denF_ofD (F.ok0 H hb) H.lim H.stat fun L=>(D L (F.envB nd L)).run.at⟩
theorem b_fnD {f:Addr} {m:Nat} {dxs:List AV} {dv:List Value} {B:SM} (H:CfgOk C) (F:FnIn C f vars (m + dxs.length)) (nd:vars.all (fun x=>!(x == ("__debug__" : Str)))=true) (dq:∀ ρ h,VRs C ρ h dxs dv)
    (hb:∀ s:Shared,C.K.In s.heap→∀ vs:List Value,vs.length=m→BindsTo s (fdAt C.K f) ⟨vs,[]⟩ ((vars.take (m + dxs.length)).zip (vs++dv)))
    (D:∀ L,EnvB (envAt C f L) vars→BB C d (envAt C f L) vars (bodyAt C.K f) B):BF C (d + 1) f (runD vars m dxs B) :=
  ⟨denF_ofD (F.okD H dq hb) H.lim H.stat fun L=>(D L (F.envB nd L)).run.at⟩
theorem b_fnA {f:Addr} {n:Nat} {B:SM} (H:CfgOk C) (F:FnIn C f vars n) (nd:vars.all (fun x=>!(x == ("__debug__" : Str)))=true) (hb:∀ vs:List Value,vs.length=n→bindArgs (fdAt C.K f) ⟨vs,[]⟩=pure ((vars.take n).zip vs))
    (D:∀ L,EnvB (envAt C f L) vars→BBA C d (envAt C f L) vars (bodyAt C.K f) (bodyAt C.K f) B):BF C (d + 1) f (runF vars n B) :=
  ⟨runD_runF▸denF_ofD (F.ok0 H hb) H.lim H.stat fun L=>(D L (F.envB nd L)).run⟩
theorem b_nilA {body:List Stmt}:BBA C d env vars body [] (seqS []):=⟨den_nil.at⟩
theorem b_sA {body:List Stmt} {st:Stmt} {f:SM} (D:BS C d env vars st f):BSA C d env vars body st f:=⟨D.run.at⟩
theorem b_consA {body:List Stmt} {st:Stmt} {r:List Stmt} {f:SM} {fs:List SM} (D1:BSA C d env vars body st f) (D2:BBA C d env vars body r (seqS fs)):BBA C d env vars body (st :: r) (seqS (f :: fs)):=⟨den_consAt D1.run D2.run⟩
theorem b_partCount {body:List Stmt} (H:CfgOk C) (HC:ClsOk C) (He:EnvB env vars) (HS:SupCls C) (SO:SupOk C env vars) {apos pr:Pos} (hf:alongIn C.K "__len__" [.type "list",.type "object"]=some (some (.builtin "list.__len__"))) (hp:(apos.endLine == p.line)=true) :
    BSA C d env vars body (.Return (some (.Call (.Attribute (.Call (.Name "super" p0) [] [] p1) "__len__" apos) [] [] p)) pr) partCountS:=⟨den_partCount H HC He.ok HS SO hf hp⟩
theorem b_pop {body:List Stmt} (H:CfgOk C) (HC:ClsOk C) (He:EnvB env vars) (HS:SupCls C) (SO:SupOk C env vars) {apos pr:Pos} (hf:alongIn C.K "pop" [.type "list",.type "object"]=some (some (.builtin "list.pop"))) (hp:(apos.endLine == p.line)=true) :
    BSA C d env vars body (.Return (some (.Call (.Attribute (.Call (.Name "super" p0) [] [] p1) "pop" apos) [] [] p)) pr) popS:=⟨den_pop H HC He.ok HS SO hf hp⟩
theorem b_accLen (H:CfgOk C) (HC:ClsOk C) (HA:AccOk C) (HG:GenOk C) (He:EnvB env vars) {t:Addr × Addr × Array Value} {scope:Scope} (GE:GenEnvOk C env vars t scope) (LS:LenScope scope) (hl:GlobVal C "len" (.builtin "len")) (hsum:GlobVal C "sum" (.builtin "sum")) (hk:env.kindOf "sum" = some .globalImplicit)
    {pa pb pt ps pos q0 q1 r0 r1 r2 r3 r4 r5 r6 pr:Pos} {kt:Nat} :
    BS C (d + 1) env vars (.Return (some (.Call (.Name "sum" p0) [.GeneratorExp (.BinOp (.Call (.Name "len" r0) [.Name "fws" r1] [] r2) .Add (.Call (.Name "len" r3) [.Name "part" r4] [] r5) r6) [⟨.Tuple [.Name "fws" pa,.Name "part" pb] kt pt,.Name "self" ps,[],0⟩] scope pos,.Attribute (.Name "self" q0) "_initial_size" q1] [] p)) pr) accLenS:=⟨den_accLen H HC HA HG He.ok GE LS hl hsum hk⟩
theorem b_accStr (H:CfgOk C) (HC:ClsOk C) (HA:AccOk C) (HG:GenOk C) (He:EnvB env vars) {t:Addr × Addr × Array Value} {scope:Scope} (GE:GenEnvOk C env vars t scope) (LS:StrScope scope) {te:Tok} (hE:GlobVal C "EMPTYSTRING" (.str "" te)) (hk:env.kindOf "EMPTYSTRING" = some .globalImplicit)
    {pa pb pt ps pos q0 r0 r1 r2 r3 r4 apos pr:Pos} {kt kt':Nat} (hp1:(apos.endLine == r4.line)=true) (hp2:(q0.endLine == p.line)=true) :
    BS C (d + 1) env vars (.Return (some (.Call (.Attribute (.Name "EMPTYSTRING" p0) "join" q0) [.GeneratorExp (.Call (.Attribute (.Name "EMPTYSTRING" r0) "join" apos) [.Tuple [.Name "fws" r1,.Name "part" r2] kt' r3] [] r4) [⟨.Tuple [.Name "fws" pa,.Name "part" pb] kt pt,.Name "self" ps,[],0⟩] scope pos] [] p)) pr) accStrS:=⟨den_accStr H HC HA HG He.ok GE LS hE hk hp1 hp2⟩
theorem b_len (H:CfgOk C) (HS:SpecOk C fl fs ff) {LF:FM} (DL:BF C d' fl LF) (h:d' + 1≤d):BC C d (.builtin "len") (lenF LF):=⟨(den_len H HS DL.run.call).mono h⟩
theorem b_strC (H:CfgOk C) (HS:SpecOk C fl fs ff) {SF FF:FM} (DS:BC C d' (.ref fs) SF) (DF:BC C d' (.ref ff) FF) (h:d' + 2≤d):BC C d (.type "str") (strF SF FF):=⟨(den_str' H HS DS.run DF.run).mono h⟩
theorem b_noF {fv:Value}:BC C d fv noF:=⟨den_noF⟩
theorem b_append (H:CfgOk C) (HC:ClsOk C):BC C (d + 1) (.builtin "list.append") appendF:=⟨den_append H HC⟩
theorem b_join:BC C d (.builtin "str.join") joinF:=⟨den_join⟩
theorem b_isspace:BC C d (.builtin "str.isspace") isspaceF:=⟨den_isspace⟩
theorem b_popAt:BC C d (.builtin "list.pop") popAtF:=⟨den_popAt⟩
theorem m_append:BM C 2 "append" (.builtin "list.append"):=⟨getM_list PySem.F.slot_list_append PySem.F.type_list_append⟩
theorem m_popAt:BM C 2 "pop" (.builtin "list.pop"):=⟨getM_list PySem.F.slot_list_pop PySem.F.type_list_pop⟩
theorem m_join:BM C 1 "join" (.builtin "str.join"):=⟨getM_str PySem.F.slot_str_join PySem.F.type_str_join⟩
theorem m_isspace:BM C 1 "isspace" (.builtin "str.isspace"):=⟨getM_str PySem.F.slot_str_isspace PySem.F.type_str_isspace⟩
theorem m_accApp (H:CfgOk C) (HC:ClsOk C) (hf:findIn C.K (.ref C.ACC) "append" = some (some (.builtin "list.append"))) (ht:typeIn C.K (.builtin "list.append")=some (.type "method_descriptor")):BM C 4 "append" (.builtin "list.append"):=⟨getM_acc H HC hf ht (.inr (.inl rfl)) (by decide +kernel)⟩
theorem m_acc (H:CfgOk C) (HC:ClsOk C) {name:Str} {f:Addr} (hf:findIn C.K (.ref C.ACC) name=some (some (.ref f))) (ht:typeIn C.K (.ref f)=some (.type "function")) (hn:(name == ("_initial_size" : Str))=false):BM C 4 name (.ref f):=⟨getM_acc H HC hf ht (.inl rfl) hn⟩
theorem m_fmt (H:CfgOk C) (HC:ClsOk C) {name:Str} {f:Addr} (hf:findIn C.K (.ref C.VF) name=some (some (.ref f))) (ht:typeIn C.K (.ref f)=some (.type "function")) (c:(List.range 6).all (fun k=>!(name == attrName k))=true):BM C 3 name (.ref f) :=
  ⟨getM_fmt H HC hf ht fun k hk=>by have:=List.all_eq_true.mp c k (List.mem_range.mpr hk); simpa using this⟩
end
theorem uncons {vs:List Value} {n:Nat} (e:vs.length=n + 1):∃ a r,vs=a :: r:=by
  cases vs with
  | nil=>cases e
  | cons a r=>exact ⟨a,r,rfl⟩
theorem vec1 {P:List Value→Prop} (h:∀ a,P [a]):∀ vs,vs.length=1→P vs:=fun vs e=>by
  (refine x2_1 (uncons e) fun a r rr2=>?_; subst rr2)
  obtain rfl:=List.eq_nil_of_length_eq_zero (Nat.succ.inj e)
  exact h a
theorem vec2 {P:List Value→Prop} (h:∀ a b,P [a,b]):∀ vs,vs.length=2→P vs:=fun vs e=>by
  (refine x2_1 (uncons e) fun a r rr2=>?_; subst rr2)
  exact vec1 (P:=fun r=>P (a :: r)) (fun b=>h a b) r (Nat.succ.inj e)
theorem vec3 {P:List Value→Prop} (h:∀ a b c,P [a,b,c]):∀ vs,vs.length=3→P vs:=fun vs e=>by
  (refine x2_1 (uncons e) fun a r rr2=>?_; subst rr2)
  exact vec2 (P:=fun r=>P (a :: r)) (fun b c=>h a b c) r (Nat.succ.inj e)
theorem vec4 {P:List Value→Prop} (h:∀ a b c d,P [a,b,c,d]):∀ vs,vs.length=4→P vs:=fun vs e=>by
  (refine x2_1 (uncons e) fun a r rr2=>?_; subst rr2)
  exact vec3 (P:=fun r=>P (a :: r)) (fun b c d=>h a b c d) r (Nat.succ.inj e)
theorem vec5 {P:List Value→Prop} (h:∀ a b c d e,P [a,b,c,d,e]):∀ vs,vs.length=5→P vs:=fun vs e=>by
  (refine x2_1 (uncons e) fun a r rr2=>?_; subst rr2)
  exact vec4 (P:=fun r=>P (a :: r)) (fun b c d e=>h a b c d e) r (Nat.succ.inj e)
structure BI (C:Cfg) (d:Nat) (env:Env) (vars:List Str) (Cl:Addr) (b:List Stmt) (f:List (Str × EM)):Prop where
  run:DenI C d env vars Cl b f
section
variable {C:Cfg} {d:Nat} {env:Env} {vars:List Str} {Cl:Addr}
theorem b_inil:BI C d env vars Cl [] []:=⟨.nil⟩
theorem b_icons {name:Str} {e:Expr} {f:EM} {r:List Stmt} {fs:List (Str × EM)} {p0 p1 p2:Pos} (ht:takerIn C.K Cl name=some none) (D:BE C d env vars e f) (b:BI C d env vars Cl r fs) (hs:plainVal e=true) :
    BI C d env vars Cl (.Assign [.Attribute (.Name "self" p0) name p1] e p2 :: r) ((name,f) :: fs):=⟨.cons ht D.run (swaps_plain hs _ _ _) b.run⟩
theorem b_mkFmt {fI:Addr} {LF:FM} (H:CfgOk C) (HM:makesIn C.K C.VF=true) (hinit:findIn C.K (.ref C.VF) "__init__" = some (some (.ref fI))) (hfn:typeIn C.K (.ref fI)=some (.type "function")) (HSt:StoreOk C C.VF)
    (F:FnIn C fI ["self", "headerlen", "maxlen", "continuation_ws", "splitchars"] 5) (hb:∀ vs:List Value,vs.length=5→bindArgs (fdAt C.K fI) ⟨vs,[]⟩=pure ((["self", "headerlen", "maxlen", "continuation_ws", "splitchars"]:List Str).zip vs))
    (D:∀ L,EnvB (envAt C fI L) ["self", "headerlen", "maxlen", "continuation_ws", "splitchars"]→BI C d (envAt C fI L) ["self", "headerlen", "maxlen", "continuation_ws", "splitchars"] C.VF (bodyAt C.K fI) (fmtInit LF)) :
    BC C (d + 2) (.ref C.VF) mkFmtF :=
  ⟨den_mkFmt (LF:=LF) H HM hinit hfn HSt (F.okD (m:=5) (dxs:=[]) (dv:=[]) H (fun uu uu=>.nil) (fun s X vs h=>.of_eq (by rw [hb vs h]; simp))) fun L=>(D L (F.envB (by decide +kernel) L)).run⟩
end
theorem vrs_ints {C:Cfg} {ρ:Rho} {h:Heap}:∀ {vs:List Value} {ns:List Int},IntsAre vs ns→VRs C ρ h (ns.map AV.int) vs:=by
  intro vs ns q
  induction q with
  | nil=>exact .nil
  | cons n t r ih=>exact .cons (.int n t) ih
theorem well_list {P:Params} {h:Heap} {l:Addr} {ds:List PyData} (w:Well P h (.ref l) (ofPy (.list ds))):∃ vs:List Value,h.get? l=some { cls:=.type "list",data:=.seq vs.toArray }:=by
  rw [ofPy] at w
  cases w with
  | list ho _=>exact ⟨_,ho⟩
theorem vr_ints {C:Cfg} {P:Params} {h:Heap} {l:Addr} {vs:List Value} {ns:List Int} {ds:List PyData} (w:Well P h (.ref l) (ofPy (.list ds))) (hL:h.IsList l vs.toArray) (hI:IntsAre vs ns) (hm:¬ C.isTab l):VR C [] h (.lst (ns.map AV.int)) (.ref l):=by
  (refine x1_1 (well_list w) fun vs' ho=>?_)
  obtain ⟨o,ho',hc,n,hd⟩:=hL
  rw [ho] at ho'
  (refine c1 ho' fun hh0=>?_; clear ho'; subst hh0)
  injection hd with e1 e2
  have:vs'=vs:=by simpa using congrArg Array.toList e1
  subst this
  refine .lst ho ?_ (vrs_ints hI)
  rintro (t | ⟨p,hp,_⟩)
  · exact hm t
  · cases hp
theorem good_end {c:ClaimW} {cl:Str→Option Addr} {mean:ExcName→Option Value} {args:List WData} {s₁ s':Shared} (hn:∀ cls,c.raises args cls=false) (hp:c.post args (.bool true) args=true) (ho:OldK s₁.heap s'.heap) (hos:s'.os=s₁.os) (hg:AllBare s'.gens) :
    GoodWG c cl mean args s₁ (.ok (.ret (.bool true))) s':=⟨.inl ⟨_,.bool true,[],rfl,hn,.bool _,hp,fun uu=>⟨.nil,fun uu h=>nomatch h⟩⟩,ho,hos,hg⟩
noncomputable def slStrE (f:EM) (lo hi:Option EM):EM:=fun lc σ=>(f lc σ).bind fun p=>p.1.str?.bind fun x=>(optE lo lc p.2).bind fun a=>(optE hi lc a.2).bind fun b=>gd (decide (x.length≤1000000)) (.str (Txt.slice x a.1 b.1),b.2)
noncomputable def transF:FM:=runF ["self"] 1 (seqS [exprS (mE 4 pushF lineE [cE (.str " "),cE (.str "")])])
section
variable {C:Cfg} {ρ ρ':Rho} {σ σ':St} {s:Shared} {A:Around} {E:Value→Shared→Prop} {env:Env} {vars:List Str} {lc:Lc} {d:Nat} {p:Pos}
theorem strOk_pick {x:Str} (h:PyData.strOk x=true) (ix:List Nat):PyData.strOk ⟨(ix.filterMap (x.cps[·]?)).toArray⟩=true:=by
  rw [strOk_iff] at *
  intro c hc
  simp only at hc
  (refine x1_2 (List.mem_filterMap.mp hc) fun i uu hi=>?_)
  exact h c (by simpa using Array.mem_of_getElem? hi)
theorem strOk_slice {x:Str} (h:PyData.strOk x=true) (a b:Option Int):PyData.strOk (Txt.slice x a b)=true:=by
  unfold Txt.slice
  split
  · exact h
  · exact strOk_pick h _
theorem den_slStr {value:Expr} {lo hi:Option Expr} {f:EM} {fl fh:Option EM} {ps:Pos} (D1:DenE C d env vars value f) (D2:DenO C d env vars lo fl) (D3:DenO C d env vars hi fh) :
    DenE C d env vars (.Subscript value (.Slice lo hi none ps) p) (slStrE f fl fh):=by
  intro lc σ y σ' hf A Q E s ρ hA R lr kk
  refine oB hf fun xp e1 hf=>oB hf fun x ex hf=>oB hf fun ai e2 hf=>oB hf fun bi e3 hf=>oG hf fun hz e9=>?_
  have kk:=kfe kk e9
  have hz:=of_decide_eq_true hz
  refine Subscript_own (D1 _ _ _ _ e1 A _ E s ρ hA R lr fun o s₁ ρ₁ R₁ S₁ q₁=>wpAny_Slice ?_)
  refine opt_rel D2 e2 hA R₁ (lr.go S₁) fun vl s₂ ρ₂ R₂ S₂ pl=>opt_rel D3 e3 hA R₂ (lr.go (S₁.trans S₂)) fun vu s₃ ρ₃ R₃ S₃ pu=>q₁.str_of ex fun t ok=>?_
  have hl:(Txt.slice x ai.1 bi.1).length≤sizeLine:=Nat.le_trans (Txt.slice_le x _ _) (by rw [sizeLine_eq]; (first | lia | omega))
  have go:∀ t' k,Q (.str (Txt.slice x ai.1 bi.1) t') { s₃ with heap:=s₃.heap.push { cls:=.type "slice",data:=.fields #[vl,vu,.none] },toks:=k }:=fun t' k=>kk _ _ ρ₃ (R₃.push _ (n:=k)) (((S₁.trans S₂).trans S₃).trans (.pushObj _)) (.str _ _ (strOk_slice ok _ _))
  rw [evalPart_none]
  refine wpAny_pure ⟨⟨_,(Looks.of_pure (by rfl)).andThen (Looks.of_pure PySem.F.slot_str_getitem.lookup)⟩,?_⟩
  generalize ai.1=a at *
  generalize bi.1=b at *
  cases pl with
  | none =>
    cases pu with
    | none=>exact wpAny_getItem_str_slice (l:=none) (u:=none) (st:=none) ⟨_,Heap.get?_push_size _ rfl,rfl,rfl⟩ rfl (post_val_or_str ⟨hl,go⟩)
    | int j uj=>exact wpAny_getItem_str_slice (l:=none) (u:=some (j,uj)) (st:=none) ⟨_,Heap.get?_push_size _ rfl,rfl,rfl⟩ rfl (post_val_or_str ⟨hl,go⟩)
  | int i ui =>
    cases pu with
    | none=>exact wpAny_getItem_str_slice (l:=some (i,ui)) (u:=none) (st:=none) ⟨_,Heap.get?_push_size _ rfl,rfl,rfl⟩ rfl (post_val_or_str ⟨hl,go⟩)
    | int j uj=>exact wpAny_getItem_str_slice (l:=some (i,ui)) (u:=some (j,uj)) (st:=none) ⟨_,Heap.get?_push_size _ rfl,rfl,rfl⟩ rfl (post_val_or_str ⟨hl,go⟩)
theorem b_slStr {value:Expr} {lo hi:Option Expr} {f:EM} {fl fh:Option EM} {ps:Pos} (D1:BE C d env vars value f) (D2:BO C d env vars lo fl) (D3:BO C d env vars hi fh) :
    BE C d env vars (.Subscript value (.Slice lo hi none ps) p) (slStrE f fl fh):=⟨den_slStr D1.run D2.run D3.run⟩
end
noncomputable def SX (M:Model) (A:Around) (Φ:End→Shared→Prop) (c:Code) (t:Sem Fin) (fs:List Frame) (s:Shared):Prop :=
  ∀ Γ p,Γ.code=c→Γ.Woken A→∃ e s',Runs M Γ p t fs s e s'∧Φ e s'
section
variable {M:Model} {A:Around} {Φ:End→Shared→Prop} {c:Code} {fs:List Frame} {s:Shared} {env:Env}
theorem sx_wrap {α:Type} {m:Sem α} {K:α→Sem Fin} {H:Value→Sem Fin} {gd:Bool→Bool} {lv:List Value→List Value} (h:wpAny M (A.over c fs) m (fun a s'=>SX M A Φ c (K a) fs s') (fun x s'=>SX M A Φ c (H x) fs s') s):SX M A Φ c (m.wrap K H gd lv) fs s:=by
  rintro Γ p rfl hΓ
  exact runs_wrap_of_wp K H gd lv m (h (Γ.over fs) p (hΓ.over fs)) (fun a p' s' h'=>h' Γ p' rfl hΓ) (fun x p' s' h'=>h' Γ p' rfl hΓ)
theorem sx_at {p':Pos} {k:Unit→Sem Fin} (h:SX M A Φ c (k ()) fs s):SX M A Φ c (.at p' k) fs s:=sx_wrap (m:=standAt p') (K:=k) (H:=.raise) (gd:=id) (lv:=id) (wpAny_standAt h)
theorem sx_point {l:List Value} {k:Unit→Sem Fin} (h:SX M A Φ c (k ()) fs s):SX M A Φ c (.point l k) fs s:=sx_wrap (m:=point) (K:=k) (H:=.raise) (gd:=id) (lv:=fun uu=>l) (wpAny_point h)
theorem sx_call {c':Code} {h:Option Value} {g:Bool} {l:List Value} {k:Result→Sem Fin} (hc:∀ p,SX M A Φ c' (M.den c') (.ret k h g l c p [] :: fs) s):SX M A Φ c (.call c' h g l k) fs s:=by
  rintro Γ p rfl hΓ
  (refine x2_2 (hc p (Γ.goto c') p rfl (hΓ.goto c')) fun e s' hr he=>?_)
  exact ⟨e,s',runs_call_seg hr,he⟩
theorem sx_again {c':Code} (hq:c'.quiet=true) (hc:SX M A Φ c' (M.den c') fs s):SX M A Φ c (.pure (.again c')) fs s:=by
  rintro Γ p rfl hΓ
  (refine x2_2 (hc (Γ.goto c') p rfl (hΓ.goto c')) fun e s' hr he=>?_)
  exact ⟨e,s',Runs.head (c₁:=c') (fun uu uu x=>.again hq x) hr,he⟩
theorem sx_yield {v:Value} {g:Bool} {l:List Value} {k:Resume→Sem Fin} (hfs:splitAtGen fs=none) (h:∀ p,Φ (.susp v g l k c p fs) s):SX M A Φ c (.yield v g l k) fs s:=by
  rintro Γ p rfl _
  exact ⟨_,s,Runs.yield' fs hfs,h p⟩
set_option tactic.hygienic true
theorem sx_Yield {e:Expr} {ypos pos:Pos} {K:Flow→Sem Fin} {H:Value→Sem Fin} {gd:Bool→Bool} {lv:List Value→List Value} (hfs:splitAtGen fs=none) (hgd:gd false=false) (hco:env.scope.isCoroutine=false) (hi:interactive env=false)
    (h:wpAny M (A.over c fs) (eval e env) (fun v s'=>∀ l k p,k (.send .none)=K .next→Φ (.susp v false l k c p fs) s') (fun x s'=>SX M A Φ c (H x) fs s') s) :
    SX M A Φ c ((exec (.Expr (.Yield (some e) ypos) pos) env).wrap K H gd lv) fs s:=by
  rw [exec_Expr env _ pos hi rfl]
  show SX M A Φ c (.at pos fun uu=>((eval e env >>= fun v=>(standAt ypos >>= fun uu=>yieldOut env v)) >>= fun x =>
    dropValue (.Yield (some e) ypos) pos x).wrap K H gd lv) fs s
  have hy:∀ v,yieldOut env v=yieldValue v:=fun v=>by simp only [yieldOut,hco,Bool.false_eq_true,if_false]
  simp only [hy]
  refine sx_at ?_
  rw [Sem.bind_eq_wrap',Sem.bind_eq_wrap',Sem.wrap_wrap,Sem.wrap_wrap]
  refine sx_wrap (wpAny_mono h (fun v s' h'=>?_) fun uu uu x=>x)
  refine sx_at (sx_yield hfs fun p=>?_)
  show Φ (.susp v (gd false) _ _ c p fs) s'
  rw [hgd]
  exact h' _ _ p rfl
theorem sx_nil {K:Flow→Sem Fin} {H:Value→Sem Fin} {gd:Bool→Bool} {lv:List Value→List Value} (h:SX M A Φ c (K .next) fs s):SX M A Φ c ((execs [] env).wrap K H gd lv) fs s:=h
theorem sx_cons {st:Stmt} {rest:List Stmt} {K:Flow→Sem Fin} {H:Value→Sem Fin} {gd:Bool→Bool} {lv:List Value→List Value}
    (h:SX M A Φ c ((exec st env).wrap (fun f=>match f with | .next=>(execs rest env).wrap K H gd lv | f=>K f) H gd lv) fs s):SX M A Φ c ((execs (st :: rest) env).wrap K H gd lv) fs s:=by rw [execs_cons_wrap]; exact h
noncomputable def FsW (F:Code) (fs:List Frame):Prop:=∃ k l p,fs=[Frame.ret k none false l F p []]
set_option tactic.hygienic false
theorem FsW.split {F:Code} (h:FsW F fs):splitAtGen fs=none:=by (refine x3_1 (h) fun k l p rr3=>?_; clear h; subst rr3); rfl
theorem FsW.bare {F:Code} (h:FsW F fs):fs.any Frame.guarded=false:=by (refine x3_1 (h) fun k l p rr3=>?_; clear h; subst rr3); rfl
theorem sx_While {test:Expr} {body orelse:List Stmt} {pos:Pos} {K:Flow→Sem Fin} {H:Value→Sem Fin} {gd:Bool→Bool} {lv:List Value→List Value} (hgd:gd false=false)
    (h:∀ fs',FsW c fs'→SX M A Φ (.whileLoop test body orelse env) (M.den (.whileLoop test body orelse env)) fs' s):SX M A Φ c ((exec (.While test body orelse pos) env).wrap K H gd lv) [] s:=by
  refine sx_at (sx_call fun p=>?_)
  show SX M A Φ _ _ [.ret _ none (gd false) _ c p []] s
  rw [hgd]
  exact h _ ⟨_,_,_,rfl⟩
end
noncomputable abbrev yieldS (e:Expr) (yp p:Pos):Stmt:=.Expr (.Yield (some e) yp) p
noncomputable def GSleep (M:Model) (F W:Code) (st:GenState):Prop:=∃ k l c p fs,st=.suspended k l c p fs false ∧
  ∀ A Φ s,(∀ fs',FsW F fs'→SX M A Φ W (M.den W) fs' s)→SX M A Φ c (k (.send .none)) fs s
section
variable {prog:Program} {w:World} {A:Around} {Φ:End→Shared→Prop} {fs:List Frame} {s:Shared} {env:Env}
set_option tactic.hygienic true
theorem sx_whileTrue {body:List Stmt} {k:Nat} {tp:Pos}
    (h:∀ K H,(∀ A Φ s fs,SX (model prog w) A Φ (.whileLoop (.Constant (.bool true) k tp) body [] env) ((model prog w).den (.whileLoop (.Constant (.bool true) k tp) body [] env)) fs s→SX (model prog w) A Φ (.whileLoop (.Constant (.bool true) k tp) body [] env) (K .next) fs s) →
      SX (model prog w) A Φ (.whileLoop (.Constant (.bool true) k tp) body [] env) ((execs body env).wrap K H id id) fs s) :
    SX (model prog w) A Φ (.whileLoop (.Constant (.bool true) k tp) body [] env) ((model prog w).den (.whileLoop (.Constant (.bool true) k tp) body [] env)) fs s:=by
  show SX _ A Φ _ ((whileTurn (.Constant (.bool true) k tp) body [] env).onRaise (fun x=>do noteFrame x env; theTreesLotGoes x)) fs s
  unfold whileTurn
  rw [Sem.onRaise_eq_wrap,Sem.bind_eq_wrap',Sem.wrap_wrap]
  refine sx_wrap (wpAny_mono (Q:=fun b s'=>b=true∧s'=s) (E:=fun uu uu=>False) ?_ (fun b s' hb=>?_) fun uu uu z=>z.elim)
  · exact fun uu uu uu=>⟨rfl,rfl⟩
  · (refine x0_2 (hb) fun rr0 rr1=>?_; clear hb; subst rr0; subst rr1)
    show SX _ A Φ _ (Sem.wrap _ _ _ _ (if true=true then _ else _)) fs s'
    rw [if_pos rfl,Sem.bind_eq_wrap',Sem.wrap_wrap]
    refine h _ _ fun A Φ s fs h'=>?_
    exact sx_again rfl h'
set_option tactic.hygienic false
theorem sx_func {body:List Stmt} (h:∀ K H,SX (model prog w) A Φ (.func body env) ((execs body env).wrap K H id id) fs s):SX (model prog w) A Φ (.func body env) ((model prog w).den (.func body env)) fs s:=by
  show SX _ A Φ _ (.point [] fun uu=>((execs body env).onRaise (leaving env)) >>= _) fs s
  refine sx_point ?_
  rw [Sem.onRaise_eq_wrap,Sem.bind_eq_wrap',Sem.wrap_wrap]
  exact h _ _
variable {e1 e2:Expr} {y1 p1 y2 p2 pw tp:Pos} {k:Nat}
noncomputable abbrev genF (env:Env) (e1 e2:Expr) (y1 p1 y2 p2 pw tp:Pos) (k:Nat):Code:=.func [yieldS e1 y1 p1,.While (.Constant (.bool true) k tp) [yieldS e2 y2 p2] [] pw] env
noncomputable abbrev genW (env:Env) (e2:Expr) (y2 p2 tp:Pos) (k:Nat):Code:=.whileLoop (.Constant (.bool true) k tp) [yieldS e2 y2 p2] [] env
theorem gen_first (hco:env.scope.isCoroutine=false) (hi:interactive env=false)
    (h:wpAny (model prog w) (A.over (genF env e1 e2 y1 p1 y2 p2 pw tp k) []) (eval e1 env) (fun v s'=>∀ e:End,e.quiet=true→e.result=.yielded v→GSleep (model prog w) (genF env e1 e2 y1 p1 y2 p2 pw tp k) (genW env e2 y2 p2 tp k) e.genState→Φ e s') (fun uu uu=>False) s) :
    SX (model prog w) A Φ (genF env e1 e2 y1 p1 y2 p2 pw tp k) ((model prog w).den (genF env e1 e2 y1 p1 y2 p2 pw tp k)) [] s:=by
  refine sx_func fun K H=>sx_cons (sx_Yield rfl rfl hco hi (wpAny_mono h (fun v s' h' l k' p hk=>h' _ rfl rfl ⟨k',l,_,p,[],rfl,fun A Φ s hW=>?_⟩) (fun uu uu z=>z.elim)))
  rw [hk]
  exact sx_cons (sx_While rfl hW)
theorem gen_next (hco:env.scope.isCoroutine=false) (hi:interactive env=false) (hfs:FsW (genF env e1 e2 y1 p1 y2 p2 pw tp k) fs)
    (h:wpAny (model prog w) (A.over (genW env e2 y2 p2 tp k) fs) (eval e2 env) (fun v s'=>∀ e:End,e.quiet=true→e.result=.yielded v→GSleep (model prog w) (genF env e1 e2 y1 p1 y2 p2 pw tp k) (genW env e2 y2 p2 tp k) e.genState→Φ e s') (fun uu uu=>False) s) :
    SX (model prog w) A Φ (genW env e2 y2 p2 tp k) ((model prog w).den (genW env e2 y2 p2 tp k)) fs s:=by
  refine sx_whileTrue fun K H hK=>sx_cons (sx_Yield hfs.split rfl hco hi (wpAny_mono h (fun v s' h' l k' p hk=>h' (.susp v false l k' (genW env e2 y2 p2 tp k) p fs) ?_ rfl ⟨k',l,genW env e2 y2 p2 tp k,p,fs,?_,fun A Φ s hW=>?_⟩) (fun uu uu z=>z.elim)))
  · show (!(false || fs.any Frame.guarded))=true
    rw [hfs.bare]; rfl
  · show GenState.suspended k' l (genW env e2 y2 p2 tp k) p fs (false || fs.any Frame.guarded)=_
    rw [hfs.bare]; rfl
  · rw [hk]
    exact sx_nil (hK A Φ s fs (hW fs hfs))
noncomputable def GoX (M:Model) (A:Around) (Φ:End→Shared→Prop) (gs:GenState) (s:Shared):Prop:=match gs with
  | .fresh c=>SX M A Φ c (M.den c) [] s
  | .suspended k _ c _ fs _=>SX M A Φ c (k (.send .none)) fs s
  | _=>False
theorem wp_resumeX {M:Model} {E:Value→Shared→Prop} {g:Nat} {gs:GenState} {l:List Value} {α:Type} {K:GenResult→Sem α} {Q:α→Shared→Prop} (hg:s.gens[g]?=some gs) (hgo:GoX M A Φ gs (s.setGen g .running))
    (hΦ:∀ e s₁,Φ e s₁→e.quiet=true∧wpAny M A (K e.result) Q E (s₁.setGen g e.genState)):wpAny M A (.resume g (.send .none) l K) Q E s:=by
  intro Γ p hΓ
  rw [Sem.wp_resume]
  cases gs with
  | fresh c =>
    (refine x2_2 (hgo (Γ.wake c p) p rfl (hΓ.wake c p)) fun e s₁ hr he=>?_)
    (refine x0_2 (hΦ e s₁ he) fun a b=>?_)
    exact ⟨_,_,by unfold Wakes; rw [hg]; exact ⟨e,s₁,hr,a,rfl,rfl⟩,b Γ p hΓ⟩
  | suspended k₀ l₀ c₀ p₀ fs₀ cl =>
    (refine x2_2 (hgo (Γ.wake c₀ p) p₀ rfl (hΓ.wake c₀ p)) fun e s₁ hr he=>?_)
    (refine x0_2 (hΦ e s₁ he) fun a b=>?_)
    exact ⟨_,_,by unfold Wakes; rw [hg]; exact ⟨e,s₁,hr,a,rfl,rfl⟩,b Γ p hΓ⟩
  | running=>exact hgo.elim
  | finished=>exact hgo.elim
end
set_option tactic.hygienic true
theorem GR.new {C:Cfg} {ρ:Rho} {σ:St} {h:Heap} {g:Array GenState} (q:GR C ρ σ h g) (hl:ρ.length=σ.length) {p:Addr × Addr} {m k:Nat} {st:GenState} {nm qn:Value} (hp:h.get? p.1=some (genObj g.size nm qn)) (hG:C.G p.2 k st) (hb:st.bare=true) :
    GR C (ρ++[p]) (σ++[.gen m k]) h (g.push st):=by
  have gk:∀ (i:Nat) (x:GenState),g[i]?=some x→(g.push st)[i]?=some x:=by
    intro i x e
    have hi:=(Array.getElem?_eq_some_iff.mp e).1
    rw [Array.getElem?_push_lt hi]
    rw [Array.getElem?_eq_getElem hi] at e
    exact e
  have oldS:∀ (i:Nat) {o:AO},i < ρ.length→(σ++[.gen m k])[i]?=some o→σ[i]?=some o:=fun i o hi e=>by rw [List.getElem?_append_left (hl▸hi)] at e; exact e
  have oldR:∀ (i:Nat) {r:Addr × Addr},i < ρ.length→(ρ++[p])[i]?=some r→ρ[i]?=some r:=fun i r hi e=>by rw [List.getElem?_append_left hi] at e; exact e
  have newR:∀ (i:Nat) {r:Addr × Addr},¬ i < ρ.length→(ρ++[p])[i]?=some r→i=ρ.length∧r=p:=by
    intro i r hi e
    rw [List.getElem?_append_right (Nat.not_lt.mp hi),List.getElem?_singleton] at e
    split at e
    · rename_i h0; cases e; exact ⟨by (first | lia | omega),rfl⟩
    · exact ns e
  have newS:∀ (i:Nat) {o:AO},i=ρ.length→(σ++[.gen m k])[i]?=some o→o=.gen m k:=fun i o hi e=>by
    rw [hi,hl,List.getElem?_append_right (Nat.le_refl _),Nat.sub_self] at e; cases e; rfl
  refine ⟨q.bare.push hb,fun i r m' k' e e'=>?_,fun i r n e e'=>?_,fun i j r r' x x' n a b a' b' e1 e2 e3 g3 e4 g4 e5 e6=>?_⟩
  · by_cases hi:i < ρ.length
    · (refine x4_3 (q.live i r m' k' (oldR i hi e) (oldS i hi e')) fun n a b x z y w=>?_)
      exact ⟨n,a,b,x,z,gk _ _ y,w⟩
    · (refine x0_2 (newR i hi e) fun hi' rr1=>?_; subst rr1)
      cases newS i hi' e'
      exact ⟨g.size,nm,qn,st,hp,Array.getElem?_push_size,hG⟩
  · by_cases hi:i < ρ.length
    · (refine x2_2 (q.outs i r n (oldR i hi e) (oldS i hi e')) fun a b z y=>?_)
      exact ⟨a,b,z,gk _ _ y⟩
    · (refine x0_2 (newR i hi e) fun hi' rr1=>?_; subst rr1)
      cases newS i hi' e'
  · by_cases hi:i < ρ.length
    · by_cases hj:j < ρ.length
      · exact q.apart i j r r' x x' n a b a' b' (oldR i hi e1) (oldR j hj e2) (oldS i hi e3) g3 (oldS j hj e4) g4 e5 e6
      · (refine x0_2 (newR j hj e2) fun uu rr1=>?_; subst rr1)
        (refine x3_2 (q.obj (oldR i hi e1) (oldS i hi e3) g3) fun n' uu uu z hlt=>?_)
        rw [hp] at e6
        rw [z] at e5
        cases e6
        cases e5
        exact absurd hlt (Nat.lt_irrefl _)
    · (refine x0_2 (newR i hi e1) fun hi' rr1=>?_; subst rr1)
      by_cases hj:j < ρ.length
      · (refine x3_2 (q.obj (oldR j hj e2) (oldS j hj e4) g4) fun n' uu uu z hlt=>?_)
        rw [hp] at e5
        rw [z] at e6
        cases e5
        cases e6
        exact absurd hlt (Nat.lt_irrefl _)
      · exact hi'.trans (newR j hj e2).1.symm
structure FnG (C:Cfg) (f:Addr) (body:List Stmt) (fd:FuncData):Prop where
  obj:∃ o,C.s₁.heap.get? f=some o∧o.data=.func fd
  bd:fd.body=.stmts body
  glob:fd.globals=mainGlobals
  blt:fd.builtins=builtinsNs
  bind:∀ v:Value,bindArgs fd ⟨[v],[]⟩=(pure [(("self" : Str),v)]:Sem (List (Str × Value)))
  notTab:¬ C.isTab f
  crec:C.s₁.heap.CodeRec fd.code fd.qualname
  codeNo:∀ c,fd.code=.ref c→¬ C.isTab c
  coro:fd.scope.isCoroutine=false
  gen:fd.scope.isGenerator=true
  kind:fd.scope.kind=.function
  cells:∀ x∈fd.scope.names,x.2≠.cell
  loc:fd.scope.names.lookup ("self" : Str)=some .local
noncomputable def makeGenF:FM:=fun xs σ=>(arg1 xs).bind fun x=>x.loc?.bind fun m=>(isFmt σ m).map fun _=>(.loc σ.length,σ++[.gen m 0])
set_option tactic.hygienic false
theorem den_makeGen {C:Cfg} {d:Nat} {f:Addr} {body:List Stmt} {fd:FuncData} (H:FnG C f body fd) (hlim:C.s₁.heap.NoLimit) (hst:¬ C.isTab cStatics)
    (hG:∀ L,C.G L 0 (.fresh (.func body (envF fd f L)))):DenF C (d + 1) f makeGenF:=by
  intro xs σ x σ' hf A P s ρ vs hA R q k
  refine oB hf fun y e0 hf=>oB hf fun m em hf=>oM hf fun u hm e=>?_
  have k:∀ v s' ρ',Rel C ρ' (σ++[.gen m 0]) s'→Step C [] ρ ρ' s.heap s'.heap→VR C ρ' s'.heap (.loc σ.length) v→P (.ok (.ret v)) s':=kfe (Q:=fun v s'=>P (.ok (.ret v)) s') k e
  revert k
  refine q.arg1_e e0 fun v qv=>?_
  have qv:=AV.loc_inv em▸qv
  refine qv.loc_e fun pm em k=>x1_2 H.obj fun o ho hd=>?_
  have hcode:s.heap.CodeRec fd.code fd.qualname:=x4_4 H.crec fun c o' vs' t e1 e2 e3 e4=>⟨c,o',vs',t,e1,R.old c o' e2 (H.codeNo c e1),e3,e4⟩
  refine codeAny_call_generator (Nat.lt_of_le_of_lt (Nat.le_add_right ..) hA.2.1) (R.old f o ho H.notTab) hd H.coro H.gen H.bd hcode ?_
  rw [H.bind]
  refine wpAny_pure ?_
  refine wpAny_newFunctionEnv H.cells (fun y hy=>by cases List.mem_singleton.mp hy; exact H.loc) (fun h₁ hns hsb=>?_) H.kind
  have z₁:h₁.objs.size=s.heap.objs.size + 1:=by rw [hsb.1,Heap.size_push]
  have k₁:∀ b o,s.heap.get? b=some o→h₁.get? b=some o:=fun b o e=>(hsb.2 b (Nat.ne_of_lt (Heap.lt_size e))).trans (Heap.get?_push_of_some _ e)
  refine ⟨x1_2 hlim fun mc a b=>⟨mc,a.at fun o e=>k₁ _ _ (R.old _ _ e hst),b⟩,?_⟩
  rw [H.glob,H.blt]
  dsimp only
  ·
    ·
      have k₂:∀ b o,s.heap.get? b=some o→(h₁.push (genObj s.gens.size (.str fd.name (s.toks + 1)) (.str fd.qualname (s.toks + 1 + 1)))).get? b=some o:=fun b o e=>Heap.get?_push_of_some _ (k₁ b o e)
      have z₂:(h₁.push (genObj s.gens.size (.str fd.name (s.toks + 1)) (.str fd.qualname (s.toks + 1 + 1)))).objs.size=s.heap.objs.size + 2:=by rw [Heap.size_push,z₁]
      have hp:(h₁.push (genObj s.gens.size (.str fd.name (s.toks + 1)) (.str fd.qualname (s.toks + 1 + 1)))).get? h₁.objs.size=some (genObj s.gens.size (.str fd.name (s.toks + 1)) (.str fd.qualname (s.toks + 1 + 1))):=Heap.get?_push_size _ rfl
      have RS:=R.allocX (s':={ s with gens:=s.gens.push (.fresh (.func body (envF fd f s.heap.objs.size))),toks:=s.toks + 1 + 1 + 1,heap:=h₁.push (genObj s.gens.size (.str fd.name (s.toks + 1)) (.str fd.qualname (s.toks + 1 + 1))) })
        k₂ (by show s.heap.objs.size≤_; rw [z₂]; (first | lia | omega)) rfl rfl (p:=(h₁.objs.size,s.heap.objs.size)) (o:=.gen m 0) (by rw [z₁]; exact Nat.le_succ _) (Nat.le_refl _)
        (.gen hp ⟨⟨_,pm,hns.at fun o e=>Heap.get?_push_of_some _ e,by rw [List.getElem?_append_left (List.getElem?_eq_some_iff.mp em).1]; exact em,List.lookup_cons_self⟩⟩)
        (GR.new (R.gens.heap fun uu uu uu uu uu uu o e=>k₂ _ o e) R.len hp (hG _) rfl)
      refine k _ _ _ RS.1 RS.2 (.loc (p:=(h₁.objs.size,s.heap.objs.size)) ?_)
      rw [← R.len,List.getElem?_append_right (Nat.le_refl _),Nat.sub_self]
      rfl
section
variable {C:Cfg} {ρ ρ':Rho} {σ:St} {s:Shared} {h:Heap} {g:Array GenState} {l n m k:Nat} {p p':Addr × Addr} {o o':AO} {st:GenState}
structure Swap (C:Cfg) (h:Heap) (ρ ρ':Rho):Prop where
  fst:∀ (i:Nat) (p:Addr × Addr),ρ[i]?=some p→∃ p',ρ'[i]?=some p'∧p'.1=p.1
  mu:∀ a o,h.get? a=some o→(∃ vs n,o.data=.seq vs n)→¬ Mut C ρ a→¬ Mut C ρ' a
theorem VR.swap (w:Swap C h ρ ρ') {x:AV} {v:Value} (q:VR C ρ h x v):VR C ρ' h x v :=
  VR.rec (motive_1:=fun x v uu=>VR C ρ' h x v) (motive_2:=fun xs vs uu=>VRs C ρ' h xs vs) .none (fun b=>.bool b) (fun i t=>.int i t) (fun x t ok=>.str x t ok)
    (fun ho hm uu ih=>.tup ho (w.mu _ _ ho ⟨_,_,rfl⟩ hm) ih) (fun ho hm uu ih=>.lst ho (w.mu _ _ ho ⟨_,_,rfl⟩ hm) ih)
    (fun e=>by (refine x1_2 (w.fst _ _ e) fun p' a b=>?_); rw [← b]; exact .loc a) .nil (fun uu uu a b=>.cons a b) q
theorem SelfAt.swap (w:Swap C h ρ ρ') {L:Addr} (q:SelfAt ρ h L m):SelfAt ρ' h L m :=
  let ⟨mm,_,a,b,c⟩:=q.self; let ⟨q',d,e⟩:=w.fst _ _ b; ⟨mm,q',a,d,by rw [e]; exact c⟩
theorem ObjR.swap (w:Swap C h ρ ρ') (q:ObjR C ρ h p o):ObjR C ρ' h p o:=q.move (fun uu z=>z) (fun uu z=>z) (·.swap w) (fun uu z=>z.swap w) fun uu uu z uu=>z
theorem GR.swap (q:GR C ρ σ h g) (e:ρ[l]?=some p) (e':σ[l]?=some o) (ho:o.isGen=true) {nm qn:Value} (hn:h.get? p.1=some (genObj n nm qn)) (hp:p'.1=p.1) (ho':o'.isGen=true) (hb:st.bare=true)
    (hg:∀ m k,o'=.gen m k→C.G p'.2 k st) (ht:∀ n',o'=.out n'→n'=n∧st=.running):GR C (ρ.set l p') (σ.set l o') h (g.setIfInBounds n st):=by
  have hz:n < g.size:=by
    (refine x3_2 (q.obj e e' ho) fun n' a b z y=>?_)
    rw [hn] at z; cases z; exact y
  have hlρ:=(List.getElem?_eq_some_iff.mp e).1
  have hlσ:=(List.getElem?_eq_some_iff.mp e').1
  have at':(g.setIfInBounds n st)[n]?=some st:=by rw [Array.getElem?_setIfInBounds,if_pos rfl,if_pos hz]
  have ot:∀ (j:Nat),j≠n→(g.setIfInBounds n st)[j]?=g[j]?:=fun j hj=>by rw [Array.getElem?_setIfInBounds,if_neg hj.symm]
  have far:∀ {i:Nat} {r:Addr × Addr} {x:AO} {n':Nat} {a b:Value},l≠i→ρ[i]?=some r→σ[i]?=some x→x.isGen=true→h.get? r.1=some (genObj n' a b)→n'≠n:=by
    intro i r x n' a b hi e1 e2 hx hr hnn
    subst hnn
    exact hi (q.apart l i p r o x n' _ _ _ _ e e1 e' ho e2 hx hn hr)
  have backR:∀ (i:Nat) {r:Addr × Addr},(ρ.set l p')[i]?=some r→∃ r',ρ[i]?=some r'∧r'.1=r.1:=by
    intro i r e1
    by_cases hi:l=i
    · subst hi
      rw [List.getElem?_set,if_pos rfl,if_pos hlρ] at e1
      cases e1; exact ⟨p,e,hp.symm⟩
    · rw [List.getElem?_set_ne hi] at e1; exact ⟨r,e1,rfl⟩
  have backS:∀ (i:Nat) {x:AO},(σ.set l o')[i]?=some x→x.isGen=true→∃ x',σ[i]?=some x'∧x'.isGen=true:=by
    intro i x e1 hx
    by_cases hi:l=i
    · subst hi; exact ⟨o,e',ho⟩
    · rw [List.getElem?_set_ne hi] at e1; exact ⟨x,e1,hx⟩
  refine ⟨?_,fun i r m k e1 e2=>?_,fun i r n₀ e1 e2=>?_,fun i j r r' x x' n' a b c d e1 e2 e3 g3 e4 g4 e5 e6=>?_⟩
  · intro y hy
    (refine x1_1 (Array.mem_iff_getElem?.mp hy) fun j hj=>?_)
    by_cases hjn:j=n
    · subst hjn; rw [at'] at hj; cases hj; exact hb
    · rw [ot j hjn] at hj; exact q.bare y (Array.mem_iff_getElem?.mpr ⟨j,hj⟩)
  · by_cases hi:l=i
    · subst hi
      rw [List.getElem?_set,if_pos rfl,if_pos hlρ] at e1
      rw [List.getElem?_set,if_pos rfl,if_pos hlσ] at e2
      cases e1; cases e2
      exact ⟨n,nm,qn,st,by rw [hp]; exact hn,at',hg _ _ rfl⟩
    · rw [List.getElem?_set_ne hi] at e1 e2
      (refine x4_3 (q.live i r m k e1 e2) fun n' a b x z y w=>?_)
      exact ⟨n',a,b,x,z,by rw [ot n' (far hi e1 e2 rfl z)]; exact y,w⟩
  · by_cases hi:l=i
    · subst hi
      rw [List.getElem?_set,if_pos rfl,if_pos hlρ] at e1
      rw [List.getElem?_set,if_pos rfl,if_pos hlσ] at e2
      cases e1; cases e2
      (refine x0_2 (ht _ rfl) fun rr0 rr1=>?_; subst rr0; subst rr1)
      exact ⟨nm,qn,by rw [hp]; exact hn,at'⟩
    · rw [List.getElem?_set_ne hi] at e1 e2
      (refine x2_2 (q.outs i r n₀ e1 e2) fun a b z y=>?_)
      exact ⟨a,b,z,by rw [ot n₀ (far hi e1 e2 rfl z)]; exact y⟩
  · (refine x1_2 (backR i e1) fun r1 f1 f2=>?_)
    (refine x1_2 (backR j e2) fun r2 f3 f4=>?_)
    (refine x1_2 (backS i e3 g3) fun x1 f5 f6=>?_)
    (refine x1_2 (backS j e4 g4) fun x2 f7 f8=>?_)
    exact q.apart i j r1 r2 x1 x2 n' a b c d f1 f3 f5 f6 f7 f8 (by rw [f2]; exact e5) (by rw [f4]; exact e6)
theorem Swap.set (e:ρ[l]?=some p) (hp:p'.1=p.1) (h2:∀ a o,h.get? a=some o→(∃ vs n,o.data=.seq vs n)→¬ Mut C ρ a→a≠p'.2):Swap C h ρ (ρ.set l p'):=by
  have hl:=(List.getElem?_eq_some_iff.mp e).1
  refine ⟨fun i r er=>?_,fun a ob ha hc n=>?_⟩
  · by_cases hi:l=i
    · subst hi
      rw [e] at er; cases er
      exact ⟨p',by rw [List.getElem?_set,if_pos rfl,if_pos hl],hp⟩
    · exact ⟨r,by rw [List.getElem?_set_ne hi]; exact er,rfl⟩
  · have h2':=h2 a ob ha hc n
    rintro (t | ⟨q,hq,z⟩)
    · exact n (.inl t)
    · rcases List.mem_or_eq_of_mem_set hq with hq | rfl
      · exact n (.inr ⟨q,hq,z⟩)
      · rcases z with z | z
        · exact n (.inr ⟨p,List.mem_of_getElem? e,.inl (hp▸z)⟩)
        · exact h2' z.symm
theorem Rel.swap (R:Rel C ρ σ s) (e:ρ[l]?=some p) (e':σ[l]?=some o) (ho:o.isGen=true) {nm qn:Value} (hn:s.heap.get? p.1=some (genObj n nm qn)) (hp:p'.1=p.1) (ho':o'.isGen=true) (hb:st.bare=true)
    (hg:∀ m k,o'=.gen m k→C.G p'.2 k st) (ht:∀ n',o'=.out n'→n'=n∧st=.running) (w:Swap C s.heap ρ (ρ.set l p')) (h2:p'.2=p.1∨¬ Mut C ρ p'.2) (lo:C.s₁.heap.objs.size≤p'.2) (hO:ObjR C (ρ.set l p') s.heap p' o') :
    Rel C (ρ.set l p') (σ.set l o') (s.setGen n st):=by
  have hlρ:=(List.getElem?_eq_some_iff.mp e).1
  have hlσ:=(List.getElem?_eq_some_iff.mp e').1
  refine ⟨R.old,R.tab,fun q hq=>?_,?_,by simp [R.len],fun i q x e1 e2=>?_,R.gens.swap e e' ho hn hp ho' hb hg ht,R.drawn,R.os,R.size⟩
  · rcases List.mem_or_eq_of_mem_set hq with hq | rfl
    · exact R.lo q hq
    · exact ⟨hp▸(R.lo p (List.mem_of_getElem? e)).1,lo⟩
  · have hd:=List.pairwise_iff_getElem.mp R.dis
    have hel:ρ[l]=p:=(List.getElem?_eq_some_iff.mp e).2
    have nm':∀ (i:Nat) (hi:i < ρ.length),i≠l→p'.2≠ρ[i].1∧p'.2≠ρ[i].2∧p'.1≠ρ[i].1∧p'.1≠ρ[i].2:=by
      intro i hi hne
      have z:ρ[l].1≠ρ[i].1∧ρ[l].1≠ρ[i].2:=by
        rcases Nat.lt_or_gt_of_ne hne with c | c
        · have:=hd i l hi hlρ c; exact ⟨this.1.symm,this.2.2.1.symm⟩
        · have:=hd l i hlρ hi c; exact ⟨this.1,this.2.1⟩
      rw [hel,← hp] at z
      rcases h2 with h2 | h2
      · rw [← hp] at h2; rw [h2]; exact ⟨z.1,z.2,z.1,z.2⟩
      · exact ⟨fun c=>h2 (.inr ⟨_,List.getElem_mem hi,.inl c.symm⟩),fun c=>h2 (.inr ⟨_,List.getElem_mem hi,.inr c.symm⟩),z.1,z.2⟩
    refine List.pairwise_iff_getElem.mpr fun i j hi hj hij=>?_
    rw [List.length_set] at hi hj
    rw [List.getElem_set,List.getElem_set]
    by_cases h1:l=i
    · subst h1
      rw [if_pos rfl,if_neg (Nat.ne_of_lt hij)]
      (refine x0_4 (nm' j hj (Nat.ne_of_gt hij)) fun a b c d=>?_)
      exact ⟨c,d,a,b⟩
    · rw [if_neg h1]
      by_cases h3:l=j
      · subst h3
        rw [if_pos rfl]
        (refine x0_4 (nm' i hi (Nat.ne_of_lt hij)) fun a b c d=>?_)
        exact ⟨c.symm,a.symm,d.symm,b.symm⟩
      · rw [if_neg h3]; exact hd i j hi hj hij
  · by_cases hi:l=i
    · subst hi
      rw [List.getElem?_set,if_pos rfl,if_pos hlρ] at e1
      rw [List.getElem?_set,if_pos rfl,if_pos hlσ] at e2
      cases e1; cases e2; exact hO
    · rw [List.getElem?_set_ne hi] at e1 e2
      exact (R.st i q x e1 e2).swap w
end
set_option tactic.hygienic true
theorem kind_next:builtinKind "next" = none:=by decide +kernel
theorem plain_next:plainId "next" = true:=by decide +kernel
theorem entry_next:entryFor table "next" = some Builtin.«next»:=entryFor_of_fast (by kernel_rfl)
theorem args_next1 (a:Value):argsOk "next" ⟨[a],[]⟩:=by unfold argsOk; kernel_rfl
noncomputable def pickI (P:Int→Prop):Option Int:=@dite _ (∃ v,P v) (Classical.propDecidable _) (fun h=>some h.choose) fun _=>none
set_option tactic.hygienic false
theorem pickI_some {P:Int→Prop} {v:Int} (h:pickI P=some v):P v:=by
  unfold pickI at h
  by_cases hp:∃ v,P v
  · rw [dif_pos hp] at h
    cases h
    exact hp.choose_spec
  · rw [dif_neg hp] at h; cases h
theorem pickI_eq {P:Int→Prop} {v:Int} (h:P v) (k:∀ u,P u→u=v):pickI P=some v:=by
  unfold pickI
  have hp:∃ v,P v:=⟨v,h⟩
  rw [dif_pos hp,k _ hp.choose_spec]
noncomputable def AO.gen?:AO→Option (Nat × Nat)
  | .gen m k=>some (m,k)
  | .list _=>none
  | .fmt ..=>none
  | .acc ..=>none
  | .ghost=>none
  | .out _=>none
  | .cell ..=>none
  | .ext ..=>none
noncomputable def genAt (σ:St) (l:Nat):Option (Nat × Nat):=σ[l]?.bind AO.gen?
theorem genAt_inv {σ:St} {l:Nat} {g:Nat × Nat} (h:genAt σ l=some g):σ[l]?=some (.gen g.1 g.2):=oB h fun o e h=>by
  cases o with
  | gen m k=>exact e.trans (congrArg (fun g:Nat × Nat=>some (AO.gen g.1 g.2)) (Option.some.inj h))
  | _=>exact nomatch h
theorem genAt_of {σ:St} {l m k:Nat} (h:σ[l]?=some (.gen m k)):genAt σ l=some (m,k):=by unfold genAt; rw [h]; rfl
noncomputable def nextF (e0 e1:EM):FM:=fun xs σ=>(arg1 xs).bind fun x=>x.loc?.bind fun l=>(genAt σ l).bind fun g =>
  (pickI fun v=>∀ n,(bif g.2 == 0 then e0 else e1) [some (.loc g.1)] (σ.set l (.out n))=some (.int v,σ.set l (.out n))).map fun v=>(.int v,σ.set l (.gen g.1 (g.2 + 1)))
structure NextOk (C:Cfg) (d:Nat) (genv:Addr→Env) (ex0 ex1:Expr) (y1 p1 y2 p2 pw tp:Pos) (kk:Nat) (e0 e1:EM):Prop where
  G0:∀ L st,C.G L 0 st→st=.fresh (genF (genv L) ex0 ex1 y1 p1 y2 p2 pw tp kk)
  G1:∀ L k st,C.G L (k + 1) st→GSleep (model C.prog C.w) (genF (genv L) ex0 ex1 y1 p1 y2 p2 pw tp kk) (genW (genv L) ex1 y2 p2 tp kk) st
  G2:∀ L k st,GSleep (model C.prog C.w) (genF (genv L) ex0 ex1 y1 p1 y2 p2 pw tp kk) (genW (genv L) ex1 y2 p2 tp kk) st→C.G L (k + 1) st
  loc:∀ L,(genv L).locals=L
  co:∀ L,(genv L).scope.isCoroutine=false
  ia:∀ L,interactive (genv L)=false
  D0:∀ L,DenE C d (genv L) ["self"] ex0 e0
  D1:∀ L,DenE C d (genv L) ["self"] ex1 e1
section
variable {C:Cfg} {d:Nat} {ρ:Rho} {σ:St} {s:Shared} {A:Around} {genv:Addr→Env} {ex0 ex1:Expr} {y1 p1 y2 p2 pw tp:Pos} {kk:Nat} {e0 e1:EM}
theorem AOk.genF {F:Code} {env:Env} {b:List Stmt} (hF:F=.func b env) (a:AOk C (d + 1) A):AOk C d (A.over F []):=by
  subst hF
  (refine x0_4 (a) fun a1 a2 a3 a4=>?_; clear a)
  refine ⟨a1,?_,?_,a4.push (es:=[env]) rfl (Nat.le_refl _)⟩
  · show A.depth + 0 + 1 + d < _; (first | lia | omega)
  · show A.units + 0 + _ + 8 * d < _
    show A.units + 0 + 3 + 8 * d < _; (first | lia | omega)
theorem AOk.genW {F:Code} {env:Env} {b b':List Stmt} {t:Expr} {fs:List Frame} (hF:F=.func b env) (hfs:FsW F fs) (a:AOk C (d + 1) A):AOk C d (A.over (.whileLoop t b' [] env) fs):=by
  subst hF
  (refine x3_1 (hfs) fun k l p rr3=>?_; clear hfs; subst rr3)
  (refine x0_4 (a) fun a1 a2 a3 a4=>?_; clear a)
  refine ⟨a1,?_,?_,a4.push (es:=[env]) rfl (Nat.le_refl _)⟩
  · show A.depth + 1 + 0 + d < _; (first | lia | omega)
  · show A.units + 3 + 0 + 8 * d < _; (first | lia | omega)
noncomputable def NextEnd (C:Cfg) (ρ:Rho) (σ':St) (s:Shared) (n:Nat) (v:Int) (e:End) (s':Shared):Prop :=
  e.quiet=true∧∃ t ρ',e.result=.yielded (.int v t)∧Rel C ρ' σ' (s'.setGen n e.genState)∧Step C [] ρ ρ' s.heap s'.heap
theorem next_turn (R:Rel C ρ σ s) {l m k n:Nat} {a L:Addr} {nm qn:Value} (e:ρ[l]?=some (a,L)) (e':σ[l]?=some (.gen m k)) (hn:s.heap.get? a=some (genObj n nm qn)) (hL:SelfAt ρ s.heap L m) {env:Env} (henv:env.locals=L)
    {ex:Expr} {f:EM} (D:DenE C d env ["self"] ex f) {v:Int} (hf:∀ n,f [some (.loc m)] (σ.set l (.out n))=some (.int v,σ.set l (.out n))) (hA:AOk C d A) {T:GenState→Prop} (hT:∀ st,T st→C.G L (k + 1) st) :
    wpAny (model C.prog C.w) A (eval ex env) (fun v' s'=>∀ ee:End,ee.quiet=true→ee.result=.yielded v'→T ee.genState→NextEnd C ρ (σ.set l (.gen m (k + 1))) s n v ee s') (fun uu uu=>False) (s.setGen n .running):=by
  have hlρ:=(List.getElem?_eq_some_iff.mp e).1
  have hlσ:=(List.getElem?_eq_some_iff.mp e').1
  (refine x2_3 (hL.self) fun mm q hNs hq hself=>?_)
  have hLo:∀ o',s.heap.get? L=some o'→∀ n nm qn,o'≠genObj n nm qn:=by
    (refine x3_3 (hNs) fun o es ep ho hd uu=>?_; clear hNs)
    intro o' e1 n nm qn z
    rw [ho] at e1; cases e1; subst z; cases hd
  have hLa:L≠a:=fun z=>hLo _ (z▸hn) _ _ _ rfl
  have hsw:Swap C s.heap ρ (ρ.set l (a,a)):=Swap.set e rfl fun x o hx hc uu z=>by
    subst z
    rw [hn] at hx; cases hx
    (refine x2_1 (hc) fun uu uu hc=>?_); cases hc
  have R':Rel C (ρ.set l (a,a)) (σ.set l (.out n)) (s.setGen n .running) :=
    R.swap e e' rfl hn rfl rfl rfl (fun uu uu z=>by cases z) (fun uu z=>by cases z; exact ⟨rfl,rfl⟩) hsw (.inl rfl) (R.lo _ (List.mem_of_getElem? e)).1 (.out hn)
  have hmL:¬ Mut C (ρ.set l (a,a)) L:=by
    rintro (t | ⟨p,hp,z⟩)
    · exact R.objNotTab e e' (.inr rfl) t
    · obtain ⟨i,hi,rfl⟩:=List.mem_iff_getElem.mp hp
      rw [List.length_set] at hi
      rw [List.getElem_set] at z
      by_cases hli:l=i
      · rw [if_pos hli] at z
        rcases z with z | z <;> exact hLa z.symm
      · rw [if_neg hli] at z
        have hd:=List.pairwise_iff_getElem.mp R.dis
        have hel:ρ[l]=(a,L):=(List.getElem?_eq_some_iff.mp e).2
        rcases Nat.lt_or_gt_of_ne hli with c | c
        · have:=hd l i hlρ hi c
          rw [hel] at this
          rcases z with z | z
          · exact this.2.2.1 z.symm
          · exact this.2.2.2 z.symm
        · have:=hd i l hi hlρ c
          rw [hel] at this
          rcases z with z | z
          · exact this.2.1 z
          · exact this.2.2.2 z
  have lr:LcR C (ρ.set l (a,a)) s.heap env.locals ["self"] [some (.loc m)]:=by
    rw [henv]
    (refine x1_2 (hsw.fst _ _ hq) fun q' hq' hq''=>?_)
    refine ⟨⟨mm,hNs,fun i x ei=>?_⟩,hmL,(R.lo _ (List.mem_of_getElem? e)).2,rfl⟩
    cases i with
    | zero=>cases ei; exact ⟨_,_,rfl,hself,by rw [← hq'']; exact .loc hq'⟩
    | succ i=>cases ei
  refine D _ _ _ _ (hf n) A _ _ _ _ hA R' lr fun v' s' ρ' R₁ S₁ q₁=>fun ee h1 h2 h3=>?_
  (refine x1_1 (q₁.int_inv) fun t rr1=>?_; subst rr1)
  obtain ⟨δ,rfl,hδ⟩:=S₁.grow
  have eρ:(ρ.set l (a,a)++δ)[l]?=some (a,a):=by
    rw [List.getElem?_append_left (by rw [List.length_set]; exact hlρ),List.getElem?_set,if_pos rfl,if_pos hlρ]
  have eσ:(σ.set l (.out n))[l]?=some (.out n):=by rw [List.getElem?_set,if_pos rfl,if_pos hlσ]
  (refine x2_2 (R₁.gens.outs l _ n eρ eσ) fun nm' qn' hn' uu=>?_)
  have lr':=lr.go S₁
  rw [henv] at lr'
  obtain ⟨⟨mm',hNs',hv'⟩,hmL',_,_⟩:=lr'
  (refine x2_3 (hv' 0 _ rfl) fun x0 v0 hx0 hm0 hq0=>?_)
  (refine c1 hx0 fun hh0=>?_; clear hx0; subst hh0)
  (refine x1_2 (hq0.loc_inv) fun pm em rr2=>?_; subst rr2)
  have hsw':Swap C s'.heap (ρ.set l (a,a)++δ) ((ρ.set l (a,a)++δ).set l (a,L)):=Swap.set eρ rfl fun x o hx hc uu z=>by
    subst z
    (refine x3_3 (hNs') fun o' es ep ho hd uu=>?_; clear hNs')
    rw [hx] at ho; cases ho
    (refine x2_1 (hc) fun uu uu hc=>?_)
    rw [hd] at hc; cases hc
  refine ⟨h1,t,(ρ.set l (a,a)++δ).set l (a,L),h2,?_,?_⟩
  · have:=R₁.swap (o':=.gen m (k + 1)) (p':=(a,L)) (st:=ee.genState) eρ eσ rfl hn' rfl rfl (End.bare_of_quiet h1) (fun m' k' z=>by cases z; exact hT _ h3) (fun uu z=>by cases z) hsw' (.inr hmL') (R.lo _ (List.mem_of_getElem? e)).2
      (.gen hn' ⟨⟨mm',_,hNs',(hsw'.fst _ _ em).choose_spec.1,by rw [(hsw'.fst _ _ em).choose_spec.2]; exact hm0⟩⟩)
    rw [List.set_set] at this
    exact this
  · refine ⟨S₁.size,fun b o hb hm w=>S₁.keep b o hb (fun mu=>hm ?_) w,δ,?_,hδ⟩
    · rcases mu with t | ⟨p,hp,z⟩
      · exact .inl t
      · rcases List.mem_or_eq_of_mem_set hp with hp | rfl
        · exact .inr ⟨p,hp,z⟩
        · exact .inr ⟨_,List.mem_of_getElem? e,.inl (by rcases z with z | z <;> exact z)⟩
    · rw [List.set_append_left _ _ (by rw [List.length_set]; exact hlρ),List.set_set]
      congr 1
      have hel:ρ[l]=(a,L):=(List.getElem?_eq_some_iff.mp e).2
      rw [← hel]
      exact List.set_getElem_self hlρ
set_option tactic.hygienic true
theorem den_next (H:NextOk C d genv ex0 ex1 y1 p1 y2 p2 pw tp kk e0 e1) (hlim:C.s₁.heap.NoLimit) (hst:¬ C.isTab cStatics):DenCall C (d + 3) (.builtin "next") (nextF e0 e1):=by
  intro xs σ x σ' hf A Q E s ρ vs hA R q k
  refine oB hf fun y e0 hf=>oB hf fun l el hf=>oB hf fun g hl hf=>oM hf fun v hv e=>?_
  have k:=kfe k e
  have hv:=pickI_some hv
  have hl:=genAt_inv hl
  rcases g with ⟨m,k'⟩
  dsimp only at hv hl k
  clear hf e
  revert k
  refine q.arg1_e e0 fun w qw=>?_
  have qw:=AV.loc_inv el▸qw
  refine qw.loc_e fun p ep k=>x4_3 (R.gens.live l p m k' ep hl) fun n nm qn st hn hst' hG=>?_
  rcases p with ⟨a,L⟩
  have hL:SelfAt ρ s.heap L m:=x3_2 (R.st l _ _ ep hl) fun uu uu uu uu hL=>hL
  ·
    ·
      have hg:s.heap.IsGen a n:=⟨_,nm,qn,hn,rfl,rfl,rfl⟩
      have hA':AOk C (d + 1) A.in1.in1:=hA.in1.in1
      have room:A.in1.in1.depth < recursionLimit:=by have:=hA'.2.1; (first | lia | omega)
      have hlim':s.heap.NoLimit:=x1_2 hlim fun mc b c=>⟨mc,b.at fun o e=>R.old _ _ e hst,c⟩
      refine Calls.call_function_entry kind_next plain_next entry_next (args_next1 _) ?_
      unfold Builtin.«next»
      refine wpAny_bind (m:=someArgs "next" 1 2 _) (wpAny_of_eq (a:=[.ref a]) rfl ?_)
      refine wpAny_bind (wpAny_specialOf hg.typeIs slot_gen_next.lookup ?_)
      refine wpAny_bind (m:=callSpecial? (.ref a) (Str.ofString "__next__")) (wpAny_callSpecial?_slot (name:=Str.ofString "__next__") hg.typeIs slot_gen_next (wpAny_call_entry slot_gen_next hg.typeIs entry_gen_next ?_ (args_gen_next _)))
      show wpAny _ A.in1.in1 (Builtin.Generator.genWake (.ref a) (.send .none)) _ _ s
      unfold Builtin.Generator.genWake
      refine wpAny_bind (wpAny_holding (wpAny_genNumber hg (wpAny_bind (wpAny_genState hst' ?_))))
      have fin:∀ (e:End) (s₁:Shared),NextEnd C ρ (σ.set l (.gen m (k' + 1))) s n v e s₁→∃ t,e.quiet=true∧e.result=.yielded (.int v t)∧Q (.int v t) (s₁.setGen n e.genState):=by
        rintro e s₁ ⟨h1,t,ρ',h2,h3,h4⟩
        exact ⟨t,h1,h2,k _ _ _ h3 h4 (.int _ _)⟩
      cases k' with
      | zero =>
        obtain rfl:=H.G0 _ _ hG
        refine wpAny_bind (wpAny_roomToWake hlim' room ?_)
        show wpAny _ _ (.resume n (.send .none) [] _) _ _ s
        refine wp_resumeX (Φ:=NextEnd C ρ (σ.set l (.gen m 1)) s n v) hst' (gen_first (H.co L) (H.ia L) (next_turn R ep hl hn hL (H.loc L) (H.D0 L) hv (AOk.genF rfl hA') (H.G2 L 0))) fun e s₁ h=>?_
        (refine x1_3 (fin e s₁ h) fun t h1 h2 h3=>?_)
        refine ⟨h1,?_⟩
        rw [h2]
        exact wpAny_pure ⟨_,rfl,wpAny_pure ⟨_,rfl,h3⟩⟩
      | succ k' =>
        (refine x5_2 (H.G1 _ _ _ hG) fun kk' ll c pp fs rr5 hW=>?_; subst rr5)
        refine wpAny_bind (wpAny_roomToWake hlim' room ?_)
        show wpAny _ _ (.resume n (.send .none) [] _) _ _ s
        refine wp_resumeX (Φ:=NextEnd C ρ (σ.set l (.gen m (k' + 1 + 1))) s n v) hst' (hW _ _ _ fun fs' hfs=>gen_next (H.co L) (H.ia L) hfs (next_turn R ep hl hn hL (H.loc L) (H.D1 L) hv (AOk.genW rfl hfs hA') (H.G2 L (k' + 1)))) fun e s₁ h=>?_
        (refine x1_3 (fin e s₁ h) fun t h1 h2 h3=>?_)
        refine ⟨h1,?_⟩
        rw [h2]
        exact wpAny_pure ⟨_,rfl,wpAny_pure ⟨_,rfl,h3⟩⟩
end
noncomputable def lenE0:EM:=binE .Sub (attrE 0 (nE 0)) (callE (lenF accLenF) [lineE])
noncomputable def lenE1:EM:=binE .Sub (attrE 0 (nE 0)) (attrE 2 (nE 0))
section
variable {C:Cfg} {ρ ρ':Rho} {σ σ':St} {s:Shared} {A:Around} {E:Value→Shared→Prop} {env:Env} {vars:List Str} {lc:Lc} {d:Nat}
end
section
variable {C:Cfg} {ρ ρ':Rho} {σ σ':St} {s:Shared} {A:Around} {E:Value→Shared→Prop} {env:Env} {vars:List Str} {lc:Lc} {d:Nat}
end
section
variable {C:Cfg} {d:Nat} {env:Env} {vars:List Str}
set_option tactic.hygienic true
theorem b_next {genv:Addr→Env} {ex0 ex1:Expr} {y1 p1 y2 p2 pw tp:Pos} {kk:Nat} {e0 e1:EM} (H:NextOk C d genv ex0 ex1 y1 p1 y2 p2 pw tp kk e0 e1) (hlim:C.s₁.heap.NoLimit) (hst:¬ C.isTab cStatics):BC C (d + 3) (.builtin "next") (nextF e0 e1):=⟨den_next H hlim hst⟩
set_option tactic.hygienic false
theorem b_makeGen {f:Addr} {body:List Stmt} {fd:FuncData} (H:FnG C f body fd) (hlim:C.s₁.heap.NoLimit) (hst:¬ C.isTab cStatics)
    (hG:∀ L,C.G L 0 (.fresh (.func body (envF fd f L)))):BF C (d + 1) f makeGenF:=⟨den_makeGen H hlim hst hG⟩
end
noncomputable def scopeInG (scope:Scope):Bool :=
  !scope.isCoroutine && scope.isGenerator && (scope.kind == .function) && scope.names.all (fun x=>!(x.2 == .cell)) && (scope.names.lookup ("self" : Str) == some .local)
structure FnGIn (C:Cfg) (f:Addr):Prop where
  fn:isFnAt C.K f=true
  glob:(fdAt C.K f).globals=mainGlobals
  blt:(fdAt C.K f).builtins=builtinsNs
  code:codeIn C.K (fdAt C.K f).code (fdAt C.K f).qualname=true
  scope:scopeInG (fdAt C.K f).scope=true
  bind:∀ v:Value,bindArgs (fdAt C.K f) ⟨[v],[]⟩=(pure [(("self" : Str),v)]:Sem (List (Str × Value)))
noncomputable def loopOf (body:List Stmt) (env:Env):Code:=match body with
  | [_,.While t b o _]=>.whileLoop t b o env
  | _=>.func [] env
noncomputable def genG (M:Model) (body:List Stmt) (env:Addr→Env) (L:Addr) (k:Nat) (st:GenState):Prop :=
  (k=0∧st=.fresh (.func body (env L)))∨(0 < k∧GSleep M (.func body (env L)) (loopOf body (env L)) st)
section
variable {C:Cfg} {f:Addr} {d:Nat}
theorem FnGIn.sc (F:FnGIn C f):(fdAt C.K f).scope.isCoroutine=false∧(fdAt C.K f).scope.isGenerator=true∧(fdAt C.K f).scope.kind=.function∧(∀ x∈(fdAt C.K f).scope.names,x.2≠.cell)∧(fdAt C.K f).scope.names.lookup ("self" : Str)=some .local:=by
  have h:=F.scope
  unfold scopeInG at h
  simp only [Bool.and_eq_true,Bool.not_eq_true',List.all_eq_true,beq_iff_eq] at h
  obtain ⟨⟨⟨⟨h1,h2⟩,h3⟩,h4⟩,h5⟩:=h
  exact ⟨h1,h2,h3,fun x hx e=>by have:=h4 x hx; rw [e] at this; simp at this,h5⟩
theorem FnGIn.ok (H:CfgOk C) (F:FnGIn C f):FnG C f (bodyAt C.K f) (fdAt C.K f):=by
  refine x1_3 (isFnAt_of F.fn) fun o e hd hbd=>x0_2 (codeIn_of H.kin F.code) fun cr z=>x2_2 z fun c oc ec hc=>x0_5 F.sc fun a1 a2 a3 a4 a5=>?_
  exact ⟨⟨o,H.kin _ _ e,hd⟩,hbd,F.glob,F.blt,F.bind,H.knt _ _ e,cr,fun c' hc'=>Value.ref.inj (ec.symm.trans hc')▸H.knt _ _ hc,a1,a2,a3,a4,a5⟩
theorem FnGIn.inter (F:FnGIn C f) (L:Addr):interactive (envAt C f L)=false:=by
  have h:(envAt C f L).scope.kind=.function:=F.sc.2.2.1
  unfold interactive
  rw [h]; rfl
theorem FnGIn.envB (F:FnGIn C f) (L:Addr):EnvB (envAt C f L) ["self"] :=
  ⟨⟨F.sc.2.2.1,fun x hx=>by cases List.mem_singleton.mp hx; exact F.sc.2.2.2.2,List.pairwise_singleton _ _,rfl,rfl⟩,fun x hx=>by cases List.mem_singleton.mp hx; decide +kernel,F.inter L⟩
theorem b_gen (H:CfgOk C) (F:FnGIn C f) (hG:C.G=genG (model C.prog C.w) (bodyAt C.K f) (envAt C f)):BF C (d + 1) f makeGenF :=
  b_makeGen (F.ok H) H.lim H.stat fun L=>by rw [hG]; exact .inl ⟨rfl,rfl⟩
set_option tactic.hygienic true
theorem b_nextG (H:CfgOk C) (F:FnGIn C f) (hG:C.G=genG (model C.prog C.w) (bodyAt C.K f) (envAt C f)) {ex0 ex1:Expr} {y1 p1 y2 p2 pw tp:Pos} {kk:Nat} {e0 e1:EM}
    (hb:bodyAt C.K f=[yieldS ex0 y1 p1,.While (.Constant (.bool true) kk tp) [yieldS ex1 y2 p2] [] pw])
    (D0:∀ L,EnvB (envAt C f L) ["self"]→BE C d (envAt C f L) ["self"] ex0 e0) (D1:∀ L,EnvB (envAt C f L) ["self"]→BE C d (envAt C f L) ["self"] ex1 e1):BC C (d + 3) (.builtin "next") (nextF e0 e1):=by
  rw [hb] at hG
  refine b_next (genv:=envAt C f) (ex0:=ex0) (ex1:=ex1) (y1:=y1) (p1:=p1) (y2:=y2) (p2:=p2) (pw:=pw) (tp:=tp) (kk:=kk) ⟨fun L st h=>?_,fun L k st h=>?_,fun L k st h=>?_,fun L=>rfl,fun L=>F.sc.1,F.inter,fun L=>(D0 L (F.envB L)).run,fun L=>(D1 L (F.envB L)).run⟩ H.lim H.stat
  · rw [hG] at h
    rcases h with ⟨_,h⟩ | ⟨h,_⟩
    · exact h
    · exact absurd h (Nat.lt_irrefl _)
  · rw [hG] at h
    rcases h with ⟨h,_⟩ | ⟨_,h⟩
    · cases h
    · exact h
  · rw [hG]
    exact .inr ⟨Nat.succ_pos _,h⟩
end
noncomputable def AO.cell?:AO→Option (Addr × Option AV)
  | .cell c x=>some (c,x)
  | .list _=>none
  | .fmt ..=>none
  | .acc ..=>none
  | .ghost=>none
  | .gen ..=>none
  | .out _=>none
  | .ext ..=>none
noncomputable def celAt (σ:St) (l:Nat):Option (Addr × Option AV):=σ[l]?.bind AO.cell?
theorem celAt_inv {σ:St} {l:Nat} {g:Addr × Option AV} (h:celAt σ l=some g):σ[l]?=some (.cell g.1 g.2):=oB h fun o e h=>by
  cases o with
  | cell m k=>exact e.trans (congrArg (fun g:Addr × Option AV=>some (AO.cell g.1 g.2)) (Option.some.inj h))
  | _=>exact nomatch h
theorem celAt_of {σ:St} {l:Nat} {c:Addr} {x:Option AV} (h:σ[l]?=some (.cell c x)):celAt σ l=some (c,x):=by unfold celAt; rw [h]; rfl
noncomputable def cellE (c:Addr) (l:Nat):EM:=fun _ σ=>(celAt σ l).bind fun a=>a.2.bind fun x=>gd (a.1 == c) (x,σ)
section
variable {C:Cfg} {d:Nat} {env:Env} {vars:List Str} {p p':Pos} {n:Str} {c:Addr} {l:Nat}
end
section
variable {C:Cfg} {d:Nat} {env:Env} {vars:List Str}
end
noncomputable def cells0 (L k:Nat):St:=(List.range k).map fun j=>.cell (L + 1 + j) none
noncomputable def rho0 (L k:Nat):Rho:=(List.range k).map fun j=>(L + 1 + j,L + 1 + j)
theorem rel_cells {C:Cfg} {s:Shared} {k:Nat} {h:Heap} {tk:Nat} (R:Rel C [] [] s) (kp:∀ b o,s.heap.get? b=some o→h.get? b=some o) (z:s.heap.objs.size≤h.objs.size)
    (hc:∀ j,j < k→h.IsCell (s.heap.objs.size + 1 + j) none):Rel C (rho0 s.heap.objs.size k) (cells0 s.heap.objs.size k) { s with heap:=h,toks:=tk }:=by
  have at_:∀ (l:Nat) (p:Addr × Addr),(rho0 s.heap.objs.size k)[l]?=some p→l < k∧p=(s.heap.objs.size + 1 + l,s.heap.objs.size + 1 + l):=by
    intro l p e
    unfold rho0 at e
    rw [List.getElem?_map] at e
    (refine x1_2 (Option.map_eq_some_iff.mp e) fun j e1 rr2=>?_; subst rr2)
    obtain ⟨h1,h2⟩:=List.getElem?_eq_some_iff.mp e1
    rw [List.length_range] at h1
    rw [List.getElem_range] at h2
    subst h2
    exact ⟨h1,rfl⟩
  have ob_:∀ (l:Nat) (o:AO),(cells0 s.heap.objs.size k)[l]?=some o→o=.cell (s.heap.objs.size + 1 + l) none:=by
    intro l o e
    unfold cells0 at e
    rw [List.getElem?_map] at e
    (refine x1_2 (Option.map_eq_some_iff.mp e) fun j e1 rr2=>?_; subst rr2)
    obtain ⟨h1,h2⟩:=List.getElem?_eq_some_iff.mp e1
    rw [List.getElem_range] at h2
    subst h2; rfl
  have sz:=R.size
  refine ⟨fun b o e n=>kp b o (R.old b o e n),fun t ht=>let ⟨m,a,b⟩:=R.tab t ht; ⟨m,a.keeps kp,b.keeps kp⟩,fun p hp=>?_,?_,by simp [rho0,cells0],fun l p o e e'=>?_,?_,R.drawn,R.os,Nat.le_trans R.size z⟩
  · (refine x1_2 (List.mem_map.mp hp) fun j uu rr2=>?_; subst rr2)
    exact ⟨by dsimp only; (first | lia | omega),by dsimp only; (first | lia | omega)⟩
  · unfold rho0
    rw [List.pairwise_map]
    refine List.Pairwise.imp ?_ List.pairwise_lt_range
    intro i j hij
    have ne:s.heap.objs.size + 1 + i≠s.heap.objs.size + 1 + j:=by (first | lia | omega)
    exact ⟨ne,ne,ne,ne⟩
  · (refine x0_2 (at_ l p e) fun h1 rr1=>?_; subst rr1)
    obtain rfl:=ob_ l o e'
    exact .cell0 (hc l h1)
  · have g:=R.gens
    exact ⟨g.bare,fun l p m k e e'=>(by cases ob_ _ _ e'),fun l p n e e'=>(by cases ob_ _ _ e'),fun l l' p p' o o' n nm qn nm' qn' e1 e2 e3 g3=>(by cases ob_ _ _ e3; cases g3)⟩
section
variable {C:Cfg} {d:Nat} {env:Env} {vars:List Str} {p p' p0 p1:Pos} {n:Str} {c:Addr} {l:Nat}
section
variable {elt:Expr} {x:Str} {px pos:Pos} {scope:Scope} {es:List Expr} {fs:List EM} {f:EM} {cl:List (Str × Addr)}
end
end
noncomputable def scopeInC (scope:Scope) (vars cv:List Str):Bool :=
  !scope.isCoroutine && !scope.isGenerator && (scope.kind == .function) && vars.all (fun x=>scope.names.lookup x == some .local) && cv.all (fun x=>scope.names.lookup x == some .cell) && decide vars.Nodup
structure FnCIn (C:Cfg) (f:Addr) (x:Str) (vars cv:List Str):Prop where
  fn:isFnAt C.K f=true
  glob:(fdAt C.K f).globals=mainGlobals
  blt:(fdAt C.K f).builtins=builtinsNs
  code:codeIn C.K (fdAt C.K f).code (fdAt C.K f).qualname=true
  clo:(fdAt C.K f).closure=[]
  scope:scopeInC (fdAt C.K f).scope (x :: vars) cv=true
  cells:∀ L j,j < cv.length→∃ y,(cellsFrom (L + 1) (fdAt C.K f).scope.names []).lookup y=some (L + 1 + j)
  bind:∀ v:Value,bindArgs (fdAt C.K f) ⟨[v],[]⟩=(pure [(x,v)]:Sem (List (Str × Value)))
noncomputable abbrev envC (C:Cfg) (f L:Addr):Env:=callEnvC (fdAt C.K f) L f
section
variable {C:Cfg} {d:Nat} {f:Addr} {x:Str} {vars cv:List Str}
theorem FnCIn.sc (F:FnCIn C f x vars cv):(fdAt C.K f).scope.isCoroutine=false∧(fdAt C.K f).scope.isGenerator=false∧(fdAt C.K f).scope.kind=.function∧(∀ y∈x :: vars,(fdAt C.K f).scope.names.lookup y=some .local)∧(x :: vars).Nodup:=by
  have h:=F.scope
  unfold scopeInC at h
  simp only [Bool.and_eq_true,Bool.not_eq_true',List.all_eq_true,beq_iff_eq,decide_eq_true_eq] at h
  obtain ⟨⟨⟨⟨⟨h1,h2⟩,h3⟩,h4⟩,_⟩,h6⟩:=h
  exact ⟨h1,h2,h3,h4,h6⟩
theorem FnCIn.envB (F:FnCIn C f x vars cv) (nd:(x :: vars).all (fun y=>!(y == ("__debug__" : Str)))=true) (L:Addr):EnvB (envC C f L) (x :: vars):=by
  refine x0_5 F.sc fun h1 h2 h3 h4 h6=>⟨⟨h3,h4,h6,F.glob,F.blt⟩,fun y hy=>?_,?_⟩
  · have:=List.all_eq_true.mp nd y hy
    simpa using this
  · show ((fdAt C.K f).scope.kind == .module && _)=false
    rw [h3]; rfl
end
noncomputable def putN:List Nat→List AV→Lc→Option Lc
  | [],[],lc=>some lc
  | [],_ :: _,_=>none
  | _ :: _,[],_=>none
  | i :: is,x :: xs,lc=>(putL lc i x).bind (putN is xs)
section
variable {C:Cfg} {ρ ρ':Rho} {σ σ':St} {s:Shared} {A:Around} {E:Value→Shared→Prop} {env:Env} {vars:List Str} {lc lc':Lc} {d:Nat}
end
structure Itr (C:Cfg) (nx:St→Nat→Option (Option AV)) (I:Addr) (Inv:Nat→Rho→Heap→Prop) (ρ:Rho) (s:Shared):Prop where
  fresh:¬ Mut C ρ I
  lt:I < s.heap.objs.size
  one:∀ env:Env,env.locals≠I→(∀ a o vs n,a∈[env.locals]→s.heap.get? a=some o→o.data≠.seq vs n)→OneIter C env I nx Inv
  inv:Inv 0 ρ s.heap
  self:∀ (A:Around) (ρ:Rho) (s:Shared) (P E:Value→Shared→Prop),Inv 0 ρ s.heap→P (.ref I) s→wpAny (model C.prog C.w) A (pyIter (.ref I)) P E s
  go:∀ (A:Around) (i:Nat) (ρ:Rho) (s:Shared) (es:List Expr) (k0:Nat) (pt:Pos) (a:Addr) (Q:Unit→Shared→Prop) (E:Value→Shared→Prop),Inv i ρ s.heap→Q () s→wpAny (model C.prog C.w) A (letOwnedTupleGo (.Tuple es k0 pt) (.ref I) (.ref a)) Q E s
noncomputable abbrev SrcM:=Lc→St→Option ((St→Nat→Option (Option AV)) × St)
noncomputable def DenSrc (C:Cfg) (d:Nat) (env:Env) (vars:List Str) (iter:Expr) (src:SrcM):Prop :=
  ∀ lc σ nx σ',src lc σ=some (nx,σ')→∀ (A:Around) (P E:Value→Shared→Prop) (s:Shared) (ρ:Rho),AOk C d A→Rel C ρ σ s→LcR C ρ s.heap env.locals vars lc →
    (∀ s' ρ' I Inv,Itr C nx I Inv ρ' s'→Rel C ρ' σ' s'→Step C [] ρ ρ' s.heap s'.heap→s.heap.objs.size≤I→P (.ref I) s') →
    wpAny (model C.prog C.w) A (eval iter env) (fun v s₁=>wpAny (model C.prog C.w) A (pyIter v) P E s₁) E s
noncomputable def srcL (f:EM):SrcM:=fun lc σ=>(f lc σ).bind fun p=>(asList p.2 p.1).map fun _=>(nxL p.1,p.2)
section
variable {C:Cfg} {ρ ρ':Rho} {σ σ':St} {s:Shared} {A:Around} {E:Value→Shared→Prop} {env:Env} {vars:List Str} {lc lc':Lc} {d:Nat}
theorem go_list {I l a:Addr} {i k0:Nat} {es:List Expr} {pt:Pos} {Q:Unit→Shared→Prop} (h:s.heap.IsListIter I l i) (q:Q () s):wpAny (model C.prog C.w) A (letOwnedTupleGo (.Tuple es k0 pt) (.ref I) (.ref a)) Q E s:=by
  (refine x1_3 (h) fun o ho hc hd=>?_; clear h)
  unfold letOwnedTupleGo
  refine wpAny_bind (wpAny_load ho ?_)
  rw [hc,hd]
  exact wpAny_pure q
theorem den_srcL {iter:Expr} {f:EM} (D:DenE C d env vars iter f):DenSrc C d env vars iter (srcL f):=by
  intro lc σ nx σ' hf A P E s ρ hA R lr k
  refine oB hf fun y e1 hf=>oM hf fun xs hxs e=>?_
  obtain rfl:nxL y.1=nx:=congrArg (·.1) e
  obtain rfl:y.2=σ':=congrArg (·.2) e
  refine D _ _ _ _ e1 A _ E s ρ hA R lr fun v s₁ ρ₁ R₁ S₁ q₁=>?_
  refine x3_3 (asList_rel R₁ q₁ hxs) fun a vs n ev ho hv=>?_
  rw [ev] at q₁ ⊢
  refine wpAny_pyIter_list (IsL.isList ho) (k _ ρ₁ s₁.heap.objs.size (fun i ρ h=>h.IsListIter s₁.heap.objs.size a i∧VR C ρ h y.1 (.ref a)) ⟨R₁.fresh,?_,fun env ne ns=>?_,⟨⟨_,Heap.get?_push_size _ rfl,rfl,rfl⟩,q₁.go (.pushObj _)⟩,fun A ρ s P E h p=>wpAny_pyIter_listiter h.1 p,fun A i ρ s es k0 pt b Q E h q=>go_list h.1 q⟩ (R₁.push _ (n:=s₁.toks)) (S₁.trans (.pushObj _)) S₁.size)
  · show _ < (s₁.heap.push _).objs.size
    rw [Heap.size_push]; exact Nat.lt_succ_self _
  · refine oneList (a:=a) (src:=y.1) R₁.size ne (fun z=>?_) (Nat.ne_of_lt (Heap.lt_size ho))
    exact ns a _ _ _ (List.mem_singleton.mpr z) (Heap.get?_push_of_some _ ho) rfl
noncomputable def DenTg (C:Cfg) (d:Nat) (env:Env) (vars:List Str) (target:Expr) (tn:(St→Nat→Option (Option AV))→St→Nat→Option (Option AV)) (st:Lc→AV→Option Lc):Prop :=
  ∀ nx I Inv ρ s,Itr C nx I Inv ρ s→env.locals≠I→(∀ a o vs n,a∈[env.locals]→s.heap.get? a=some o→o.data≠.seq vs n)→IterOk C d env vars I [I] target (tn nx) st Inv
theorem den_tgN (He:EnvOk env vars) {j:Nat} {n:Str} {pn:Pos} (hj:vars[j]?=some n):DenTg C d env vars (.Name n pn) id (fun lc y=>putL lc j y) :=
  fun nx I Inv ρ s T ne ns=>(T.one env ne ns).ok He hj
end
noncomputable def compG (nx:St→Nat→Option (Option AV)) (st:Lc→AV→Option Lc) (t:TM) (f:EM) (g:Nat):Nat→Nat→Lc→St→Option St
  | 0,_,_,_=>none
  | n + 1,i,lc,σ=>(nx σ i).bind fun o=>match o with
    | some x=>(st lc x).bind fun lc₁=>(t lc₁ σ).bind fun b=>match b.1 with
      | true=>(f lc₁ b.2).bind fun p=>(appendF [.loc g,p.1] p.2).bind fun q=>compG nx st t f g n (i + 1) lc₁ q.2
      | false=>compG nx st t f g n (i + 1) lc₁ b.2
    | none=>some σ
noncomputable def compGE (src:SrcM) (k:Nat) (tn:(St→Nat→Option (Option AV))→St→Nat→Option (Option AV)) (st:Lc→AV→Option Lc) (t:TM) (f:EM):EM:=fun lc σ=>(src lc σ).bind fun p =>
  (compG (tn p.1) st t f p.2.length 1000000 0 (List.replicate k none) (p.2++[.list []])).map (.loc p.2.length,·)
noncomputable def DenIfs (C:Cfg) (d:Nat) (env:Env) (vars:List Str) (ifs:List Expr) (t:TM):Prop :=
  ∀ lc σ b σ',t lc σ=some (b,σ')→∀ (A:Around) (Q:Bool→Shared→Prop) (E:Value→Shared→Prop) (s:Shared) (ρ:Rho),AOk C d A→Rel C ρ σ s→LcR C ρ s.heap env.locals vars lc→(∀ s' ρ',Rel C ρ' σ' s'→Step C [] ρ ρ' s.heap s'.heap→Q b s') →
    wpAny (model C.prog C.w) A (forIn ifs true fun c r=>if r=true then do let ok ← isTrue c env (eval c env); pure (ForInStep.yield ok) else pure (ForInStep.yield r)) Q E s
section
variable {C:Cfg} {ρ ρ':Rho} {σ σ':St} {s:Shared} {A:Around} {E:Value→Shared→Prop} {env:Env} {vars:List Str} {lc lc':Lc} {d:Nat}
theorem den_ifs1 {c:Expr} {t:TM} (D:DenT C d env vars c t):DenIfs C d env vars [c] t:=fun lc σ b σ' hf A Q E s ρ hA R lr k=>wpAny_tests_one (D _ _ _ _ hf A Q E s ρ hA R lr k)
set_option tactic.hygienic true
theorem comp_loop {elt target iter:Expr} {ifs:List Expr} {scope:Scope} {pos:Pos} {it acc:Value} {env:Env} {P:Result→Shared→Prop} (I:Nat→Shared→Prop)
    (turn:∀ n s,I n s→wpAny (model C.prog C.w) A (pyNext it) (fun r s₁=>match r with
      | none=>P (.ok .next) s₁
      | some v=>wpAny (model C.prog C.w) A (letOwnedTupleGo target it v) (fun uu s₀=>wpAny (model C.prog C.w) A (assign target env v) (fun uu s₂ =>
          wpAny (model C.prog C.w) A (forIn ifs true fun c r=>if r=true then do let ok ← isTrue c env (eval c env); pure (ForInStep.yield ok) else pure (ForInStep.yield r)) (fun ok s₃=>if ok=true then wpAny (model C.prog C.w) A (eval elt env) (fun x s₄ =>
            wpAny (model C.prog C.w) A (call (.builtin "list.append") [acc,x]) (fun uu s₅=>∃ m,m < n∧I m s₅) (notedBy (model C.prog C.w) A env fun e s'=>P (.error e) s') s₄) (notedBy (model C.prog C.w) A env fun e s'=>P (.error e) s') s₃
            else ∃ m,m < n∧I m s₃) (notedBy (model C.prog C.w) A env fun e s'=>P (.error e) s') s₂)
          (notedBy (model C.prog C.w) A env fun e s'=>P (.error e) s') s₀) (notedBy (model C.prog C.w) A env fun e s'=>P (.error e) s') s₁) (notedBy (model C.prog C.w) A env fun e s'=>P (.error e) s') s)
    (n:Nat) (h:I n s):codeAny (model C.prog C.w) A (.compLoop (.ListComp elt [⟨target,iter,ifs,0⟩] scope pos) 0 it acc env) P s:=by
  refine codeAny_loop rfl I (fun n s hI=>?_) n h
  show wpAny _ A ((compTurn (.ListComp elt [⟨target,iter,ifs,0⟩] scope pos) 0 it acc env).onRaise (fun x=>do noteFrame x env; theTreesLotGoes x)) _ _ s
  refine wpAny_noted ?_
  rw [compTurn_list]
  refine wpAny_bind (wpAny_standAt (wpAny_bind (wpAny_mono (turn n s hI) (fun r s₁ h₁=>?_) fun uu uu h'=>h')))
  cases r with
  | none=>exact wpAny_pure h₁
  | some v =>
    refine wpAny_bind (wpAny_mono h₁ (fun uu s₀ h₀'=>?_) fun uu uu h'=>h')
    refine wpAny_bind (wpAny_mono h₀' (fun uu s₂ h₂=>?_) fun uu uu h'=>h')
    refine wpAny_bind (wpAny_mono h₂ (fun okb s₃ h₃=>?_) fun uu uu h'=>h')
    cases okb with
    | false=>exact wpAny_pure ⟨rfl,h₃⟩
    | true=>exact wpAny_bind (wpAny_bind (wpAny_mono h₃ (fun x s₄ h₄=>wpAny_bind (wpAny_mono h₄ (fun uu s₅ h₅=>wpAny_pure (wpAny_pure ⟨rfl,h₅⟩)) fun uu uu h'=>h')) fun uu uu h'=>h'))
structure CompAtG (C:Cfg) (env:Env) (xs:List Str) (I:Addr) (nx:St→Nat→Option (Option AV)) (st:Lc→AV→Option Lc) (t:TM) (f:EM) (g:Nat) (a:Addr) (Inv:Nat→Rho→Heap→Prop) (σ':St) (ρ:Rho) (h:Heap) (n i:Nat) (lc:Lc) (σ₁:St) (ρ₁:Rho) (u:Shared):Prop where
  run:compG nx st t f g n i lc σ₁=some σ'
  R:Rel C ρ₁ σ₁ u
  l:LcR C ρ₁ u.heap env.locals xs lc
  inv:Inv i ρ₁ u.heap
  m:¬ Mut C ρ₁ I
  S:Step C (env.locals :: [I]) ρ ρ₁ h u.heap
  at_:ρ₁[g]?=some (a,a)
theorem compG_rel {xs:List Str} {I a:Addr} {elt target iter:Expr} {ifs:List Expr} {scope:Scope} {pos:Pos} {nx:St→Nat→Option (Option AV)} {st:Lc→AV→Option Lc} {t:TM} {f:EM} {g:Nat} {Inv:Nat→Rho→Heap→Prop} (IT:IterOk C d env xs I [I] target nx st Inv) (DI:DenIfs C d env xs ifs t)
    (DE:DenE C d env xs elt f) (DA:DenCall C d (.builtin "list.append") appendF) (hA:AOk C d A)
    {fuel i:Nat} (hf:compG nx st t f g fuel i lc σ=some σ') (R:Rel C ρ σ s) (lr:LcR C ρ s.heap env.locals xs lc) (hI:Inv i ρ s.heap) (hm:¬ Mut C ρ I) (hg:ρ[g]?=some (a,a)) {P:Result→Shared→Prop}
    (k:∀ s' ρ' lc',Rel C ρ' σ' s'→Step C (env.locals :: [I]) ρ ρ' s.heap s'.heap→LcR C ρ' s'.heap env.locals xs lc'→P (.ok .next) s') :
    codeAny (model C.prog C.w) A (.compLoop (.ListComp elt [⟨target,iter,ifs,0⟩] scope pos) 0 (.ref I) (.ref a) env) P s:=by
  refine comp_loop (fun n u=>∃ i lc σ₁ ρ₁,CompAtG C env xs I nx st t f g a Inv σ' ρ s.heap n i lc σ₁ ρ₁ u) ?_ fuel ⟨i,lc,σ,ρ,hf,R,lr,hI,hm,.refl,hg⟩
  rintro n u ⟨i,lc,σ₁,ρ₁,L⟩
  cases n with
  | zero=>exact nomatch L.run
  | succ n =>
    refine oB L.run fun o hx hf=>?_
    cases o with
    | some y =>
      refine oB hf fun lc₁ hst hf=>oB hf fun b hb hf=>?_
      refine wpAny_mono (IT.next A i lc lc₁ σ₁ ρ₁ u y (fun s₂=>Rel C ρ₁ σ₁ s₂∧Step C (env.locals :: [I]) ρ₁ ρ₁ u.heap s₂.heap∧LcR C ρ₁ s₂.heap env.locals xs lc₁∧Inv (i + 1) ρ₁ s₂.heap) _ hA L.R L.l L.inv (one_fresh L.m) hx hst fun s₂ a b c e=>⟨a,b,c,e⟩) (fun r s₁ h₁=>x1_2 h₁ fun v ev h₁=>?_) fun uu uu z=>z
      rw [ev]
      refine wpAny_mono h₁ (fun uu s₁' h₁'=>wpAny_mono h₁' (fun uu s₂ h₂=>x0_4 h₂ fun R₂ S₂ l₂ I₂=>?_) fun uu uu z=>z) fun uu uu z=>z
      refine DI _ _ _ _ hb A _ _ s₂ ρ₁ hA R₂ l₂ fun s₃ ρ₃ R₃ S₃=>?_
      have next:∀ {σ₄ s₄ ρ₄},compG nx st t f g n (i + 1) lc₁ σ₄=some σ'→Rel C ρ₄ σ₄ s₄→Step C [] ρ₁ ρ₄ s₂.heap s₄.heap→∃ m,m < n + 1∧∃ i lc σ₁ ρ₁,CompAtG C env xs I nx st t f g a Inv σ' ρ s.heap m i lc σ₁ ρ₁ s₄:=fun hf R₄ S₄ =>
        ⟨n,Nat.lt_succ_self _,i + 1,lc₁,_,_,hf,R₄,l₂.go S₄,IT.keep _ _ _ _ _ I₂ (one_fresh L.m) (ns_noSeq l₂.1.choose_spec.1) S₄.of_nil,Mut.grow S₄ (Heap.lt_size (IT.here _ _ _ I₂ I List.mem_cons_self).choose_spec) L.m,(L.S.trans S₂).trans S₄.of_nil,rho_grow S₄ L.at_⟩
      rcases b with ⟨b,σ₃⟩
      cases b with
      | false=>exact next hf R₃ S₃
      | true =>
        refine oB hf fun z hy hf=>oB hf fun z' hz hf=>?_
        refine DE _ _ _ _ hy A _ _ s₃ ρ₃ hA R₃ (l₂.go S₃) fun w s₄ ρ₄ R₄ S₄ q₄=>?_
        have g₄:ρ₄[g]?=some (a,a):=rho_grow (S₃.trans S₄) L.at_
        exact DA _ _ _ _ hz A _ _ s₄ ρ₄ [.ref a,w] hA R₄ (.cons (.loc (p:=(a,a)) g₄) (.cons q₄ .nil)) fun _ s₅ ρ₅ R₅ S₅ _=>next hf R₅ ((S₃.trans S₄).trans S₅)
    | none =>
      rw [Option.some.inj hf] at L hx
      refine wpAny_mono (IT.stop A i lc σ' ρ₁ u (fun s₂=>Rel C ρ₁ σ' s₂∧Step C (env.locals :: [I]) ρ₁ ρ₁ u.heap s₂.heap∧LcR C ρ₁ s₂.heap env.locals xs lc) _ hA L.R L.l L.inv (one_fresh L.m) hx fun s₂ a b c=>⟨a,b,c⟩) (fun r s₁ h₁=>x0_4 h₁ fun er R₂ S₂ l₂=>?_) fun uu uu z=>z
      rw [er]
      exact k _ _ _ R₂ (L.S.trans S₂) l₂
noncomputable def compScopeN (scope:Scope) (xs:List Str):Bool :=
  scope.names.all (fun y=>!(y.2 == .cell)) && (scope.kind == .function) && scope.names.all (fun y=>!(y.2 == .local) || scope.names.lookup y.1 == some .local) && xs.all (fun x=>scope.names.lookup x == some .local && !(x == ("__debug__" : Str))) && decide xs.Nodup
structure CompSc (scope:Scope) (xs:List Str):Prop where
  cell:∀ y∈scope.names,y.2≠.cell
  kind:scope.kind=.function
  names:∀ y∈scope.names,y.2=.local→scope.names.lookup y.1=some .local
  loc:∀ x∈xs,scope.names.lookup x=some .local∧(x == ("__debug__" : Str))=false
  nodup:xs.Nodup
set_option tactic.hygienic false
theorem compSc_of {scope:Scope} {xs:List Str} (h:compScopeN scope xs=true):CompSc scope xs:=by
  unfold compScopeN at h
  simp only [Bool.and_eq_true,Bool.not_eq_true',List.all_eq_true,beq_iff_eq,Bool.or_eq_true,decide_eq_true_eq] at h
  obtain ⟨⟨⟨⟨h1,h2⟩,h3⟩,h4⟩,h5⟩:=h
  refine ⟨fun y hy e=>?_,h2,fun y hy e=>?_,h4,h5⟩
  · have:=h1 y hy; rw [e] at this; cases this
  · rcases h3 y hy with q | q
    · rw [e] at q; cases q
    · exact q
structure CompDen (C:Cfg) (d:Nat) (env:Env) (scope:Scope) (cl:List (Str × Addr)) (xs:List Str) (target:Expr) (ifs:List Expr) (elt:Expr) (tn:(St→Nat→Option (Option AV))→St→Nat→Option (Option AV)) (st:Lc→AV→Option Lc) (t:TM) (f:EM):Prop where
  tg:∀ cenv:Env,cenv.scope=relabel scope env→cenv.cells=cl→EnvOk cenv xs→DenTg C d cenv xs target tn st
  ifs:∀ cenv:Env,cenv.scope=relabel scope env→cenv.cells=cl→EnvOk cenv xs→DenIfs C d cenv xs ifs t
  elt:∀ cenv:Env,cenv.scope=relabel scope env→cenv.cells=cl→EnvOk cenv xs→DenE C d cenv xs elt f
set_option tactic.hygienic true
theorem compG_core (H:CfgOk C) (HC:ClsOk C) (He:EnvOk env vars) {elt target iter:Expr} {ifs:List Expr} {pos:Pos} {scope:Scope} {xs:List Str} {src:SrcM} {tn:(St→Nat→Option (Option AV))→St→Nat→Option (Option AV)} {st:Lc→AV→Option Lc} {t:TM} {f:EM} {cl:List (Str × Addr)}
    (hclos:closureFor scope env=pure cl) (hsc:CompSc scope xs) (hs:∀ v,foldedSetIterable iter env v=pure v)
    (DI:DenSrc C (d + 1) env vars iter src) (DC:CompDen C (d + 1) env scope cl xs target ifs elt tn st t f)
    {σ₁ σ₂:St} {nx:St→Nat→Option (Option AV)} (e1:src lc σ=some (nx,σ₁)) (hL:compG (tn nx) st t f σ₁.length 1000000 0 (List.replicate xs.length none) (σ₁++[.list []])=some σ₂)
    {Q:Value→Shared→Prop} (hA:AOk C (d + 1) A) (R:Rel C ρ σ s) (lr:LcR C ρ s.heap env.locals vars lc) (use:Option (Value→Sem Unit))
    (k:∀ (s':Shared) (ρ':Rho) (lc':Lc) (v:Value) (c:Addr),Rel C ρ' σ₂ s'→Step C [] ρ ρ' s.heap s'.heap→VR C ρ' s'.heap (.loc σ₁.length) v→LcR C ρ' s'.heap c xs lc'→s.heap.objs.size≤c→compPost (model C.prog C.w) A E use Q v c (.ok .next) s') :
    wpAny (model C.prog C.w) A (comprehension (.ListComp elt [⟨target,iter,ifs,0⟩] scope pos) scope env (firstIterPos [⟨target,iter,ifs,0⟩] pos) (newList []) (firstAsync [⟨target,iter,ifs,0⟩]) (firstIter [⟨target,iter,ifs,0⟩] env) use) Q E s:=by
  refine wpAny_comprehension_free (use:=use) rfl hs hclos hsc.kind hsc.names ?_
  refine DI _ _ _ _ e1 A _ E s ρ hA R lr fun s₁ ρ₁ I Inv T R₁ S₁ hI=>?_
  refine wpAny_newList ?_
  refine wpAny_newFunctionEnv hsc.cell (fun y hy=>nomatch hy) (fun h' hns hsb=>?_) hsc.kind
  dsimp only at hns hsb ⊢
  have zz:(s₁.heap.push { cls:=.type "list",data:=.seq ([]:List Value).toArray }).objs.size=s₁.heap.objs.size + 1:=Heap.size_push ..
  rw [zz] at hns hsb ⊢
  have z₁:h'.objs.size=s₁.heap.objs.size + 2:=by rw [hsb.1,Heap.size_push,zz]
  have kp':∀ b o,(s₁.heap.push { cls:=.type "list",data:=.seq ([]:List Value).toArray }).get? b=some o→h'.get? b=some o:=fun b o e=>(hsb.2 b (Nat.ne_of_lt (zz▸Heap.lt_size e))).trans (Heap.get?_push_of_some _ e)
  have k₁:∀ b o,s₁.heap.get? b=some o→h'.get? b=some o:=fun b o e=>kp' b o (Heap.get?_push_of_some _ e)
  have hac:h'.get? s₁.heap.objs.size=some { cls:=.type "list",data:=.seq ([]:List Value).toArray }:=kp' _ _ (Heap.get?_push_size _ rfl)
  have hT:=T.lt
  have hz:s₁.heap.objs.size≤h'.objs.size:=z₁▸Nat.le_add_right _ 2
  (refine x0_2 (R₁.alloc (s':={ s₁ with heap:=h',toks:=s₁.toks + ([]:List (Str × Value)).length }) k₁ hz R₁.gens rfl rfl (p:=(s₁.heap.objs.size,s₁.heap.objs.size)) (o:=.list []) (Nat.le_refl _) (Nat.le_refl _) (.list (vs:=[]) hac .nil) rfl) fun R₄ S₄=>?_)
  have hg:(ρ₁++[(s₁.heap.objs.size,s₁.heap.objs.size)])[σ₁.length]?=some (s₁.heap.objs.size,s₁.heap.objs.size):=by
    rw [← R₁.len,List.getElem?_append_right (Nat.le_refl _),Nat.sub_self]; rfl
  have nM:¬ Mut C (ρ₁++[(s₁.heap.objs.size,s₁.heap.objs.size)]) (s₁.heap.objs.size + 1):=mutSnoc (R₁.freshGe (Nat.le_succ _)) (Nat.succ_ne_self _) (Nat.succ_ne_self _)
  have nI:¬ Mut C (ρ₁++[(s₁.heap.objs.size,s₁.heap.objs.size)]) I:=mutSnoc T.fresh (Nat.ne_of_lt hT) (Nat.ne_of_lt hT)
  have He':EnvOk { newEnv scope (s₁.heap.objs.size + 1) env.globals cl env.qual none .none (some env) builtinsNs with scope:=relabel scope env } xs :=
    ⟨hsc.kind,fun y hy=>lookup_relabel_local (hsc.loc y hy).1,hsc.nodup,He.glob,He.blt⟩
  have l₄:LcR C (ρ₁++[(s₁.heap.objs.size,s₁.heap.objs.size)]) h' (s₁.heap.objs.size + 1) xs (List.replicate xs.length none) :=
    ⟨⟨_,hns,fun i y e=>by rw [List.getElem?_replicate] at e; exact sf e fun uu e=>nomatch e⟩,nM,Nat.le_trans R₁.size (Nat.le_succ _),List.length_replicate ..⟩
  have ne:s₁.heap.objs.size + 1≠I:=Nat.ne_of_gt (Nat.lt_succ_of_lt hT)
  have noS:∀ a o vs n,a∈[s₁.heap.objs.size + 1]→s₁.heap.get? a=some o→o.data≠.seq vs n:=fun a o vs n ha e=>by
    cases List.mem_singleton.mp ha
    exact absurd (Heap.lt_size e) (Nat.not_lt.mpr (Nat.le_succ _))
  have IT:=DC.tg _ rfl rfl He' nx I Inv ρ₁ s₁ T ne noS
  have hInv:Inv 0 (ρ₁++[(s₁.heap.objs.size,s₁.heap.objs.size)]) h':=IT.keep 0 ρ₁ _ s₁.heap h' T.inv (one_fresh T.fresh) noS S₄.of_nil
  have go:codeAny (model C.prog C.w) A (.compLoop (.ListComp elt [⟨target,iter,ifs,0⟩] scope pos) 0 (.ref I) (.ref s₁.heap.objs.size) { newEnv scope (s₁.heap.objs.size + 1) env.globals cl env.qual none .none (some env) builtinsNs with scope:=relabel scope env })
      (compPost (model C.prog C.w) A E use Q (.ref s₁.heap.objs.size) (s₁.heap.objs.size + 1))
      { s₁ with heap:=h',toks:=s₁.toks + ([]:List (Str × Value)).length }:=by
    refine compG_rel IT (DC.ifs _ rfl rfl He') (DC.elt _ rfl rfl He') (den_append H HC) hA hL R₄ l₄ hInv nI hg fun s' ρ' lc' R' S' l'=>?_
    have S3:Step C [] ρ ρ' s.heap s'.heap:=((S₁.trans S₄).of_nil.trans S').above fun b hb=>by
      rcases List.mem_cons.mp hb with rfl | hb
      · exact Nat.le_succ_of_le S₁.size
      · cases List.mem_singleton.mp hb; exact hI
    refine k s' ρ' lc' _ _ R' S3 (.loc (p:=(s₁.heap.objs.size,s₁.heap.objs.size)) (rho_grow S' hg)) l' (Nat.le_succ_of_le S₁.size)
  exact codeAny_compStart_list go (T.self A _ _ _ _ hInv go)
section
variable {elt target iter:Expr} {ifs:List Expr} {pos:Pos} {scope:Scope} {xs:List Str} {src:SrcM} {tn:(St→Nat→Option (Option AV))→St→Nat→Option (Option AV)} {st:Lc→AV→Option Lc} {t:TM} {f:EM} {cl:List (Str × Addr)}
theorem den_asgG (H:CfgOk C) (HC:ClsOk C) (He:EnvOk env vars) {i:Nat} {n:Str} {pn ps:Pos} (hi:vars[i]?=some n) (hsw:swapsWith (.ListComp elt [⟨target,iter,ifs,0⟩] scope pos) (some (.Name n pn)) ps.line env=pure true)
    (hclos:closureFor scope env=pure cl) (hsc:CompSc scope xs) (hs:∀ v,foldedSetIterable iter env v=pure v)
    (DI:DenSrc C (d + 1) env vars iter src) (DC:CompDen C (d + 1) env scope cl xs target ifs elt tn st t f) :
    DenS C (d + 1) env vars (.Assign [.Name n pn] (.ListComp elt [⟨target,iter,ifs,0⟩] scope pos) ps) (asgS i (compGE src xs.length tn st t f)):=by
  intro lc σ fl lc' σ' hf A Q E s ρ hA R lr kk
  refine oB hf fun tt hf e2=>oM e2 fun lc'' hp e2=>?_
  refine oB hf fun p e1 hf=>oM hf fun σ₂ hL e9=>?_
  rw [exec_Assign_Name_used _ _ _ _ hsw]
  refine wpAny_bind (wpAny_standAt (wpAny_bind ?_))
  show wpAny _ A (do let _ ← comprehension _ scope env _ (newList []) _ (firstIter _ env) (some (assign (.Name n pn) env))) _ _ s
  refine wpAny_bind (wpAny_mono (compG_core (Q:=fun uu s'=>Q .next s') H HC He hclos hsc hs DI DC e1 hL hA R lr (some (assign (.Name n pn) env)) fun s' ρ' lc₂ v c R' S' q' l' hc=>?_) (fun uu s' hq=>wpAny_pure (wpAny_pure hq)) fun uu uu e=>e)
  obtain ⟨⟨m,hn,hv⟩,hm,hlo,_⟩:=l'
  show wpAny _ A (assign (.Name n pn) env v) _ _ _
  cases e9
  refine wpAny_assign_Name (store_name He hi hp R' (lr.go S') q' fun s₂ R₂ S₂ l₂=>?_)
  have hlt:env.locals < s.heap.objs.size:=x1_2 lr.1 fun uu a uu=>a.lt
  have hne:c≠env.locals:=fun e=>Nat.lt_irrefl _ (Nat.lt_of_le_of_lt (e▸hc) hlt)
  have hn₂:s₂.heap.Ns c m:=hn.at fun o e=>S₂.keep _ _ e hm (by rw [List.mem_singleton]; exact hne)
  have T:=S'.of_nil.trans S₂
  refine ⟨m,hn₂,fun h'' hs''=>?_⟩
  refine kfs kk e2 _ _ ρ' (R₂.write hn₂ hm hlo hs'') ⟨hs''.1▸T.size,fun b o e nm hb=>(hs''.2 b (fun q=>Nat.lt_irrefl _ (Nat.lt_of_lt_of_le (Heap.lt_size e) (q▸hc)))).trans (T.keep b o e nm hb),T.grow⟩ (l₂.iters (stepWrite hs'') (by rw [List.mem_singleton]; exact hne.symm) (ns_noSeq hn₂)) .next
end
end
section
variable {C:Cfg} {ρ δ:Rho} {σ τ:St} {s:Shared} {h:Heap}
theorem Rel.allocs (R:Rel C ρ σ s) (kp:∀ b o,s.heap.get? b=some o→h.get? b=some o) (z:s.heap.objs.size≤h.objs.size) {tk:Nat} (hl:δ.length=τ.length) (lo:∀ p∈δ,s.heap.objs.size≤p.1∧s.heap.objs.size≤p.2)
    (dis:δ.Pairwise fun p q=>p.1≠q.1∧p.1≠q.2∧p.2≠q.1∧p.2≠q.2) (ng:∀ o∈τ,o.isGen=false) (S:Step C [] ρ (ρ++δ) s.heap h) (ho:∀ (j:Nat) p o,δ[j]?=some p→τ[j]?=some o→ObjR C (ρ++δ) h p o) :
    Rel C (ρ++δ) (σ++τ) { s with heap:=h,toks:=tk }:=by
  have g:∀ (l:Nat) (o:AO),(σ++τ)[l]?=some o→o.isGen=true→l < ρ.length∧σ[l]?=some o:=by
    intro l o e hg
    by_cases hh:l < σ.length
    · rw [List.getElem?_append_left hh] at e; exact ⟨R.len▸hh,e⟩
    · rw [List.getElem?_append_right (Nat.not_lt.mp hh)] at e
      rw [ng _ (List.mem_of_getElem? e)] at hg; cases hg
  have r:∀ {l:Nat} {q:Addr × Addr},l < ρ.length→(ρ++δ)[l]?=some q→ρ[l]?=some q:=fun hh e=>by rw [List.getElem?_append_left hh] at e; exact e
  have G:=R.gens.heap fun uu uu uu uu uu uu o e=>kp _ o e
  refine ⟨fun b o e n=>kp b o (R.old b o e n),fun t ht=>let ⟨m,a,b⟩:=R.tab t ht; ⟨m,a.keeps kp,b.keeps kp⟩,fun q hq=>?_,?_,by rw [List.length_append,List.length_append,R.len,hl],fun l q o e e'=>?_,?_,R.drawn,R.os,Nat.le_trans R.size z⟩
  · rcases List.mem_append.mp hq with hq | hq
    · exact R.lo q hq
    · exact ⟨Nat.le_trans R.size (lo q hq).1,Nat.le_trans R.size (lo q hq).2⟩
  · refine List.pairwise_append.mpr ⟨R.dis,dis,fun a ha b hb=>?_⟩
    have h1:=R.rhoLt ha
    have h2:=lo b hb
    exact ⟨Nat.ne_of_lt (Nat.lt_of_lt_of_le h1.1 h2.1),Nat.ne_of_lt (Nat.lt_of_lt_of_le h1.1 h2.2),Nat.ne_of_lt (Nat.lt_of_lt_of_le h1.2 h2.1),Nat.ne_of_lt (Nat.lt_of_lt_of_le h1.2 h2.2)⟩
  · by_cases hh:l < ρ.length
    · rw [List.getElem?_append_left hh] at e
      rw [List.getElem?_append_left (R.len▸hh)] at e'
      exact (R.st l q o e e').grow kp S
    · rw [List.getElem?_append_right (Nat.not_lt.mp hh)] at e
      rw [List.getElem?_append_right (R.len▸Nat.not_lt.mp hh),← R.len] at e'
      exact ho _ _ _ e e'
  · refine ⟨G.bare,fun l p m k e e'=>?_,fun l p n e e'=>?_,fun l l' p p' o o' n nm qn nm' qn' e1 e2 e3 g3 e4 g4=>?_⟩
    · exact x0_2 (g _ _ e' rfl) fun a b=>G.live l p m k (r a e) b
    · exact x0_2 (g _ _ e' rfl) fun a b=>G.outs l p n (r a e) b
    · exact x0_2 (g _ _ e3 g3) fun a1 b1=>x0_2 (g _ _ e4 g4) fun a2 b2=>G.apart l l' p p' o o' n nm qn nm' qn' (r a1 e1) (r a2 e2) b1 g3 b2 g4
end
noncomputable def cellsA (L:Nat):Nat→List (Option AV)→St
  | _,[]=>[]
  | j,x :: r=>.cell (L + 1 + j) x :: cellsA L (j + 1) r
theorem cellsA_get {L:Nat}:∀ {cs:List (Option AV)} {j i:Nat},(cellsA L j cs)[i]?=(cs[i]?).map fun x=>AO.cell (L + 1 + (j + i)) x
  | [],_,_=>rfl
  | x :: r,j,0=>rfl
  | x :: r,j,i + 1=>by
    show (cellsA L (j + 1) r)[i]?=(r[i]?).map _
    rw [cellsA_get,show j + 1 + i=j + (i + 1) by (first | lia | omega)]
theorem cellsA_len {L:Nat}:∀ {cs:List (Option AV)} {j:Nat},(cellsA L j cs).length=cs.length
  | [],_=>rfl
  | x :: r,j=>congrArg (· + 1) cellsA_len
noncomputable def pickA (F:Nat→Option (AV × St)):Option (AV × St):=@ite _ (∀ L,F L=F 0) (Classical.propDecidable _) (F 0) none
theorem pickA_some {F:Nat→Option (AV × St)} {r:AV × St} (h:pickA F=some r) (L:Nat):F L=some r:=by
  unfold pickA at h
  by_cases hp:∀ L,F L=F 0
  · rw [if_pos hp] at h; rw [hp L,h]
  · rw [if_neg hp] at h; cases h
theorem pickA_of {F:Nat→Option (AV × St)} {r:AV × St} (h:∀ L,F L=some r):pickA F=some r:=by
  unfold pickA
  rw [if_pos fun L=>(h L).trans (h 0).symm]
  exact h 0
noncomputable def fromA (xs:List AV) (ps:List (Option Nat)):List (Option AV):=ps.map fun o=>o.bind (xs[·]?)
noncomputable def runCF (fin:Nat→St→Option St) (n:Nat) (pl pc:List (Option Nat)) (B:Nat→Nat→SM):FM:=fun xs σ=>if xs.length=n then pickA fun L=>((B L σ.length (fromA xs pl) (σ++cellsA L 0 (fromA xs pc))).bind endF).bind fun p=>(fin σ.length p.2).map (p.1,·) else none
structure FnCP (C:Cfg) (f:Addr) (ps vars cv:List Str) (pl pc:List (Option Nat)):Prop where
  fn:isFnAt C.K f=true
  glob:(fdAt C.K f).globals=mainGlobals
  blt:(fdAt C.K f).builtins=builtinsNs
  code:codeIn C.K (fdAt C.K f).code (fdAt C.K f).qualname=true
  clo:(fdAt C.K f).closure=[]
  scope:scopeInC (fdAt C.K f).scope vars cv=true
  cells:∀ L j,j < cv.length→∃ y,cv[j]?=some y∧(cellsFrom (L + 1) (fdAt C.K f).scope.names []).lookup y=some (L + 1 + j)
  bind:∀ vs:List Value,vs.length=ps.length→bindArgs (fdAt C.K f) ⟨vs,[]⟩=pure (ps.zip vs)
  nodup:ps.Nodup
  ploc:pl.length=vars.length∧∀ i < pl.length,∀ k,pl[i]?=some (some k)→∃ y,ps[k]?=some y∧vars[i]?=some y
  pcel:pc.length=cv.length∧∀ j < pc.length,∀ o,pc[j]?=some o→match o with
    | some k=>∃ y,ps[k]?=some y∧cv[j]?=some y
    | none=>∀ y,cv[j]?=some y→y∉ps
  par:ps.all (fun y=>vars.contains y || cv.contains y)=true
theorem bindL_get {kindOf:Str→Option NameKind}:∀ {ps:List Str} {vs:List Value} {k:Nat} {y:Str} {v:Value} {m:Str→Option Value},ps.Nodup→ps[k]?=some y→vs[k]?=some v→kindOf y=some .local→bindL kindOf (ps.zip vs) m y=some v:=by
  have keep:∀ {ps:List Str} {vs:List Value} {y:Str} {m:Str→Option Value},y∉ps→bindL kindOf (ps.zip vs) m y=m y:=by
    intro ps
    induction ps with
    | nil=>intros; rfl
    | cons p ps ih =>
      intro vs y m hn
      cases vs with
      | nil=>rfl
      | cons w ws =>
        show bindL kindOf (ps.zip ws) _ y=_
        rw [ih fun h=>hn (List.mem_cons_of_mem _ h)]
        split
        · exact if_neg fun (e:y=p)=>hn (by rw [e]; exact List.mem_cons_self)
        · rfl
  intro ps
  induction ps with
  | nil=>intro vs k y v m _ h; simp at h
  | cons p ps ih =>
    intro vs k y v m nd hp hv hk
    cases vs with
    | nil=>simp at hv
    | cons w ws =>
      have nd:=List.nodup_cons.mp nd
      cases k with
      | zero =>
        obtain rfl:=Option.some.inj hp
        obtain rfl:=Option.some.inj hv
        show bindL kindOf (ps.zip ws) _ p=_
        rw [keep nd.1,if_pos hk]
        exact if_pos rfl
      | succ k=>exact ih nd.2 hp hv hk
theorem bindC_keep {kindOf:Str→Option NameKind}:∀ {ps:List Str} {vs:List Value} {y:Str} {m:Str→Option Value},y∉ps→bindC kindOf (ps.zip vs) m y=m y:=by
  intro ps
  induction ps with
  | nil=>intros; rfl
  | cons p ps ih =>
    intro vs y m hn
    cases vs with
    | nil=>rfl
    | cons w ws =>
      show bindC kindOf (ps.zip ws) _ y=_
      rw [ih fun h=>hn (List.mem_cons_of_mem _ h)]
      split
      · rfl
      · exact if_neg fun (e:y=p)=>hn (by rw [e]; exact List.mem_cons_self)
theorem bindC_get {kindOf:Str→Option NameKind}:∀ {ps:List Str} {vs:List Value} {k:Nat} {y:Str} {v:Value} {m:Str→Option Value},ps.Nodup→ps[k]?=some y→vs[k]?=some v→kindOf y≠some .local→bindC kindOf (ps.zip vs) m y=some v:=by
  intro ps
  induction ps with
  | nil=>intro vs k y v m _ h; simp at h
  | cons p ps ih =>
    intro vs k y v m nd hp hv hk
    cases vs with
    | nil=>simp at hv
    | cons w ws =>
      have nd:=List.nodup_cons.mp nd
      cases k with
      | zero =>
        obtain rfl:=Option.some.inj hp
        obtain rfl:=Option.some.inj hv
        show bindC kindOf (ps.zip ws) _ p=_
        rw [bindC_keep nd.1,if_neg hk]
        exact if_pos rfl
      | succ k=>exact ih nd.2 hp hv hk
section
variable {C:Cfg} {d:Nat} {f:Addr} {ps vars cv:List Str} {pl pc:List (Option Nat)}
structure ScC (C:Cfg) (f:Addr) (vars cv:List Str):Prop where
  coro:(fdAt C.K f).scope.isCoroutine=false
  gen:(fdAt C.K f).scope.isGenerator=false
  kind:(fdAt C.K f).scope.kind=.function
  loc:∀ y∈vars,(fdAt C.K f).scope.names.lookup y=some .local
  cel:∀ y∈cv,(fdAt C.K f).scope.names.lookup y=some .cell
  nodup:vars.Nodup
theorem FnCP.sc (F:FnCP C f ps vars cv pl pc):ScC C f vars cv:=by
  have h:=F.scope
  unfold scopeInC at h
  simp only [Bool.and_eq_true,Bool.not_eq_true',List.all_eq_true,beq_iff_eq,decide_eq_true_eq] at h
  obtain ⟨⟨⟨⟨⟨h1,h2⟩,h3⟩,h4⟩,h5⟩,h6⟩:=h
  exact ⟨h1,h2,h3,h4,h5,h6⟩
theorem FnCP.envB (F:FnCP C f ps vars cv pl pc) (nd:vars.all (fun y=>!(y == ("__debug__" : Str)))=true) (L:Addr):EnvB (envC C f L) vars:=by
  have S:=F.sc
  refine ⟨⟨S.kind,S.loc,S.nodup,F.glob,F.blt⟩,fun y hy=>?_,?_⟩
  · have:=List.all_eq_true.mp nd y hy
    simpa using this
  · show ((fdAt C.K f).scope.kind == .module && _)=false
    rw [S.kind]; rfl
theorem fromA_get {xs:List AV} {ps:List (Option Nat)} {i:Nat} {x:AV} (h:(fromA xs ps)[i]?=some (some x)):∃ k,ps[i]?=some (some k)∧xs[k]?=some x:=by
  unfold fromA at h
  rw [List.getElem?_map] at h
  refine oM h fun o e1 h=>oB h fun k e2 h=>⟨k,e1.trans (congrArg some e2),h⟩
theorem b_fnCPF {fin:Nat→St→Option St} (hfin:∀ (k:Nat) (σ τ:St) (ρ:Rho) (s:Shared),Rel C ρ σ s→fin k σ=some τ→Rel C ρ τ s) (H:CfgOk C) (F:FnCP C f ps vars cv pl pc) (nd:vars.all (fun y=>!(y == ("__debug__" : Str)))=true) {B:Addr→Nat→SM} (D:∀ L g,EnvB (envC C f L) vars→BB C d (envC C f L) vars (bodyAt C.K f) (B L g)):BF C (d + 1) f (runCF fin ps.length pl pc B):=by
  refine ⟨fun xs σ x σ' hf A P s ρ vs hA R q k=>?_⟩
  refine sf hf fun hn hf=>?_
  refine oB (pickA_some hf s.heap.objs.size) fun t e1 e2=>oM e2 fun τ hs e3=>oB e1 fun t' e1 e4=>?_
  have S:=F.sc
  have hvn:vs.length=ps.length:=q.length.trans hn
  refine x1_3 (isFnAt_of F.fn) fun o e0 hd hbd=>?_
  have old:∀ b o,C.K.lookup b=some o→s.heap.get? b=some o:=fun b o e=>R.kin H _ _ e
  have lk:∀ y∈ps,(fdAt C.K f).scope.names.lookup y=some .local∨(fdAt C.K f).scope.names.lookup y=some .cell:=fun y hy=>by
    have:=List.all_eq_true.mp F.par y hy
    rw [Bool.or_eq_true] at this
    exact this.elim (fun h=>.inl (S.loc y (List.contains_iff_mem.mp h))) fun h=>.inr (S.cel y (List.contains_iff_mem.mp h))
  refine codeAny_call_cells (Nat.lt_of_le_of_lt (Nat.le_add_right ..) hA.2.1) (old _ _ e0) hd (x1_2 H.lim fun mc a b=>⟨mc,a.at fun o e=>R.old _ _ e H.stat,b⟩) (codeIn_of (R.kin H) F.code).1 hbd (F.bind vs hvn) F.clo (fun y hy=>?_) (fun s₁ X=>?_) S.coro S.gen S.kind
  · have hy':=(List.of_mem_zip hy).1
    refine (lk _ hy').imp id fun hc=>⟨hc,?_⟩
    have:=List.all_eq_true.mp F.par _ hy'
    rw [Bool.or_eq_true] at this
    rcases this with h | h
    · rw [S.loc _ (List.contains_iff_mem.mp h)] at hc; cases hc
    · obtain ⟨j,hj,ej⟩:=List.mem_iff_getElem.mp (List.contains_iff_mem.mp h)
      refine x1_2 (F.cells s.heap.objs.size j hj) fun y e5 e6=>?_
      rw [List.getElem?_eq_getElem hj,ej] at e5
      rw [Option.some.inj e5,e6]; rfl
  · obtain ⟨⟨⟨h,tk,rfl⟩,hns,kp,_⟩,hcell,hap,hab⟩:=X
    have z:s.heap.objs.size≤h.objs.size:=Nat.le_of_lt hns.lt
    have lt:∀ {k:Nat} {y:Str},ps[k]?=some y→∃ v,vs[k]?=some v:=fun e=>⟨_,List.getElem?_eq_getElem (hvn▸(List.getElem?_eq_some_iff.mp e).1)⟩
    let δ:Rho:=(List.range (fromA xs pc).length).map fun j=>(s.heap.objs.size + 1 + j,s.heap.objs.size + 1 + j)
    have hδ:∀ {j:Nat} {p:Addr × Addr},δ[j]?=some p→j < pc.length∧p=(s.heap.objs.size + 1 + j,s.heap.objs.size + 1 + j):=fun {j p} e=>by
      rw [List.getElem?_map] at e
      refine oM e fun i e1 e=>?_
      obtain ⟨h1,h2⟩:=List.getElem?_eq_some_iff.mp e1
      rw [List.length_range,fromA,List.length_map] at h1
      rw [List.getElem_range] at h2
      exact ⟨h1,h2▸e.symm⟩
    have hmem:∀ p∈δ,s.heap.objs.size < p.1∧s.heap.objs.size < p.2:=fun p hp=>by
      obtain ⟨j,hj,rfl⟩:=List.mem_iff_getElem.mp hp
      (refine x0_2 (hδ (List.getElem?_eq_getElem hj)) fun uu e=>?_)
      rw [e]
      exact ⟨by dsimp only; (first | lia | omega),by dsimp only; (first | lia | omega)⟩
    have S₁:Step C [] ρ (ρ++δ) s.heap h:=⟨z,fun b o e uu uu=>kp b o e,δ,rfl,fun p hp=>⟨Nat.le_of_lt (hmem p hp).1,Nat.le_of_lt (hmem p hp).2⟩⟩
    have R₁:Rel C (ρ++δ) (σ++cellsA s.heap.objs.size 0 (fromA xs pc)) { s with heap:=h,toks:=tk }:=by
      refine R.allocs kp z (by rw [cellsA_len]; simp [δ]) (fun p hp=>⟨Nat.le_of_lt (hmem p hp).1,Nat.le_of_lt (hmem p hp).2⟩) ?_ (fun o ho=>?_) S₁ fun j p o ej eo=>?_
      · rw [List.pairwise_map]
        refine List.Pairwise.imp ?_ List.pairwise_lt_range
        intro i j hij
        have ne:s.heap.objs.size + 1 + i≠s.heap.objs.size + 1 + j:=by (first | lia | omega)
        exact ⟨ne,ne,ne,ne⟩
      · obtain ⟨j,hj,rfl⟩:=List.mem_iff_getElem.mp ho
        have:=List.getElem?_eq_getElem hj
        rw [cellsA_get] at this
        exact oM this fun uu uu e=>e▸rfl
      · (refine x0_2 (hδ ej) fun hj rr1=>?_; subst rr1)
        rw [cellsA_get,Nat.zero_add] at eo
        refine oM eo fun y ey eo=>?_
        rw [← eo]
        refine x1_2 (F.cells s.heap.objs.size j (F.pcel.1▸hj)) fun n en el=>?_
        have hc:=hcell n _ el
        have hnl:(envC C f s.heap.objs.size).kindOf n≠some .local:=fun e=>by
          have:=S.cel n (List.mem_of_getElem? en)
          rw [show (fdAt C.K f).scope.names.lookup n=some .local from e] at this; cases this
        cases y with
        | none =>
          have hb:pc[j]?=some none∨∃ k,pc[j]?=some (some k)∧xs[k]?=none:=by
            unfold fromA at ey
            rw [List.getElem?_map] at ey
            refine oM ey fun o e1 e2=>?_
            cases o with
            | none=>exact .inl e1
            | some k=>exact .inr ⟨k,e1,e2⟩
          rcases hb with hb | ⟨k,hb,hk⟩
          · rw [bindC_keep ((F.pcel.2 j hj _ hb) n en)] at hc
            exact .cell0 hc
          · (refine x1_2 (F.pcel.2 j hj _ hb) fun y ep uu=>?_)
            have:=(List.getElem?_eq_some_iff.mp ep).1
            rw [← hn] at this
            rw [List.getElem?_eq_getElem this] at hk; cases hk
        | some x' =>
          refine x1_2 (fromA_get ey) fun k e1 e2=>?_
          (refine x1_2 (F.pcel.2 j hj _ e1) fun y ep ec=>?_)
          obtain rfl:=Option.some.inj (ec.symm.trans en)
          refine x1_2 (q.get e2) fun v ev qv=>?_
          rw [bindC_get F.nodup ep ev hnl] at hc
          exact .cell hc (qv.go S₁)
    refine (D _ _ (F.envB nd _)).run _ _ _ _ _ e1 _ _ _ _ (ρ++δ) hA.deeper R₁ ⟨⟨_,hns,fun i y ei=>?_⟩,?_,R.size,?_⟩ fun w s' ρ' R' S' l' q'=>?_
    · refine x1_2 (fromA_get ei) fun k e1 e2=>?_
      have hi:i < pl.length:=(List.getElem?_eq_some_iff.mp e1).1
      (refine x1_2 (F.ploc.2 i hi k e1) fun n ep ev=>?_)
      refine x1_2 (q.get e2) fun v evv qv=>⟨n,v,ev,?_,qv.go S₁⟩
      exact bindL_get F.nodup ep evv (S.loc n (List.mem_of_getElem? ev))
    · rintro (t | ⟨p,hp,e⟩)
      · exact R.fresh (.inl t)
      · rcases List.mem_append.mp hp with hp | hp
        · exact R.fresh (.inr ⟨p,hp,e⟩)
        · have:=hmem p hp
          change _=s.heap.objs.size∨_=s.heap.objs.size at e
          rcases e with e | e
          · exact absurd this.1 (by rw [e]; exact Nat.lt_irrefl _)
          · exact absurd this.2 (by rw [e]; exact Nat.lt_irrefl _)
    · unfold fromA; rw [List.length_map]; exact F.ploc.1
    · refine x0_2 (endF_rel q' e4) fun qx eσ=>?_
      obtain rfl:t.1=x:=congrArg (·.1) e3
      obtain rfl:τ=σ':=congrArg (·.2) e3
      refine k _ s' ρ' (hfin _ _ _ _ _ (eσ▸R') hs) ?_ qx
      exact ⟨Nat.le_trans z S'.size,fun b o e nm uu=>S'.keep b o (kp b o e) (Mut.grow S₁ (Heap.lt_size e) nm) (by rw [List.mem_singleton]; exact Nat.ne_of_lt (Heap.lt_size e)),by
        obtain ⟨δ',rfl,h'⟩:=S'.grow
        refine ⟨δ++δ',by rw [List.append_assoc],fun p hp=>?_⟩
        rcases List.mem_append.mp hp with hp | hp
        · exact ⟨Nat.le_of_lt (hmem p hp).1,Nat.le_of_lt (hmem p hp).2⟩
        · exact ⟨Nat.le_trans z (h' p hp).1,Nat.le_trans z (h' p hp).2⟩⟩
end
section
variable {C:Cfg} {ρ ρ':Rho} {σ σ':St} {s:Shared} {A:Around} {E:Value→Shared→Prop} {env:Env} {vars:List Str} {lc:Lc} {d:Nat} {p p' p0 p1:Pos}
structure BSrc (C:Cfg) (d:Nat) (env:Env) (vars:List Str) (iter:Expr) (src:SrcM):Prop where
  run:DenSrc C d env vars iter src
  plain:∀ v,foldedSetIterable iter env v=pure v
structure BTg (C:Cfg) (d:Nat) (env:Env) (vars:List Str) (target:Expr) (tn:(St→Nat→Option (Option AV))→St→Nat→Option (Option AV)) (st:Lc→AV→Option Lc):Prop where
  run:DenTg C d env vars target tn st
structure BIf (C:Cfg) (d:Nat) (env:Env) (vars:List Str) (ifs:List Expr) (t:TM):Prop where
  run:DenIfs C d env vars ifs t
structure BCl (C:Cfg) (d:Nat) (env:Env) (vars:List Str) (target:Expr) (ifs:List Expr) (elt:Expr) (tn:(St→Nat→Option (Option AV))→St→Nat→Option (Option AV)) (st:Lc→AV→Option Lc) (t:TM) (f:EM):Prop where
  tg:BTg C d env vars target tn st
  ifs:BIf C d env vars ifs t
  elt:BE C d env vars elt f
theorem b_srcL {iter:Expr} {f:EM} (D:BE C d env vars iter f) (hs:∀ v,foldedSetIterable iter env v=pure v):BSrc C d env vars iter (srcL f):=⟨den_srcL D.run,hs⟩
theorem b_tgN (He:EnvB env vars) {j:Nat} {n:Str} {pn:Pos} (hj:vars[j]?=some n):BTg C d env vars (.Name n pn) id (fun lc y=>putL lc j y):=⟨den_tgN He.ok hj⟩
theorem b_ifs1 {c:Expr} {t:TM} (D:BT C d env vars c t):BIf C d env vars [c] t:=⟨den_ifs1 D.run⟩
section
variable {target iter elt:Expr} {ifs:List Expr} {body orelse:List Stmt} {scope:Scope} {pos:Pos} {xs:List Str} {src:SrcM} {tn:(St→Nat→Option (Option AV))→St→Nat→Option (Option AV)} {st:Lc→AV→Option Lc} {B O:SM} {t:TM} {f:EM} {cl:List (Str × Addr)}
theorem compDen (hsc:compScopeN scope xs=true) (DC:∀ cenv:Env,cenv.scope=relabel scope env→cenv.cells=cl→EnvB cenv xs→BCl C d cenv xs target ifs elt tn st t f):CompDen C d env scope cl xs target ifs elt tn st t f:=by
  have go:∀ cenv:Env,cenv.scope=relabel scope env→cenv.cells=cl→EnvOk cenv xs→BCl C d cenv xs target ifs elt tn st t f:=fun cenv h1 h2 ho=>DC cenv h1 h2 ⟨ho,fun y hy=>((compSc_of hsc).loc y hy).2,by
    unfold interactive
    rw [ho.kind]; rfl⟩
  exact ⟨fun cenv h1 h2 ho=>(go cenv h1 h2 ho).tg.run,fun cenv h1 h2 ho=>(go cenv h1 h2 ho).ifs.run,fun cenv h1 h2 ho=>(go cenv h1 h2 ho).elt.run⟩
theorem b_asgG (H:CfgOk C) (HC:ClsOk C) (He:EnvB env vars) {i:Nat} {n:Str} {pn:Pos} (hi:vars[i]?=some n) (hsw:swapsWith (.ListComp elt [⟨target,iter,ifs,0⟩] scope pos) (some (.Name n pn)) p.line env=pure true) (hclos:closureFor scope env=pure cl) (hsc:compScopeN scope xs=true) (DI:BSrc C (d + 1) env vars iter src)
    (DC:∀ cenv:Env,cenv.scope=relabel scope env→cenv.cells=cl→EnvB cenv xs→BCl C (d + 1) cenv xs target ifs elt tn st t f):BS C (d + 1) env vars (.Assign [.Name n pn] (.ListComp elt [⟨target,iter,ifs,0⟩] scope pos) p) (asgS i (compGE src xs.length tn st t f)) :=
  ⟨den_asgG H HC He.ok hi hsw hclos (compSc_of hsc) DI.plain DI.run (compDen hsc DC)⟩
end
end
noncomputable abbrev L0 (C:Cfg):Addr:=C.s₁.heap.objs.size
structure LawFr (C:Cfg) (ρ:Rho) (h:Heap) (L:Addr):Prop where
  ns:∃ m,h.Ns (L0 C) m
  nm:¬ Mut C ρ (L0 C)
  ne:L0 C≠L
structure ASt (C:Cfg) (env:Env) (A:Around):Prop where
  fr:∃ e,A.frames=some [env,e]∧e.frame=some (L0 C)∧e.scope.kind≠.module
  own:env.frame=some env.locals
noncomputable def SlotsOf (C:Cfg) (h h':Heap):Prop:=∀ o,h.get? (L0 C)=some o→∃ sl,h'.get? (L0 C)=some { o with slots:=sl }
theorem SlotsOf.trans {C:Cfg} {h h' h'':Heap} (a:SlotsOf C h h') (b:SlotsOf C h' h''):SlotsOf C h h'':=fun o e=>x1_1 (a o e) fun uu e'=>x1_1 (b _ e') fun sl e''=>⟨sl,e''⟩
section
variable {C:Cfg} {ρ ρ':Rho} {σ:St} {s:Shared} {A:Around} {E:Value→Shared→Prop} {env:Env} {vars:List Str} {lc:Lc} {h h':Heap} {L:Addr}
theorem LawFr.go (F:LawFr C ρ h L) (S:Step C [L] ρ ρ' h h'):LawFr C ρ' h' L∧SlotsOf C h h':=by
  (refine x1_1 (F.ns) fun m hn=>?_)
  have keep:∀ o,h.get? (L0 C)=some o→h'.get? (L0 C)=some o:=fun o e=>S.keep _ o e F.nm fun q=>F.ne (List.mem_singleton.mp q)
  exact ⟨⟨⟨m,hn.at keep⟩,Mut.grow S hn.lt F.nm,F.ne⟩,fun o e=>⟨o.slots,keep o e⟩⟩
theorem ns_obj {m:Str→Option Value} (hn:h.Ns L m):∃ o,h.get? L=some o∧(∀ vs n,o.data≠.seq vs n)∧(∀ vs,o.data≠.fields vs):=x3_3 hn fun o es ep ho hd uu=>⟨o,ho,fun vs n z=>Data.noConfusion (hd.symm.trans z),fun vs z=>Data.noConfusion (hd.symm.trans z)⟩
theorem settle (R:Rel C ρ σ s) (lr:LcR C ρ s.heap L vars lc) (F:LawFr C ρ s.heap L) (k:∀ b o,b∉[L,L0 C]→s.heap.get? b=some o→h'.get? b=some o) (u:∀ b∈[L,L0 C],∀ o,s.heap.get? b=some o→(∀ vs,o.data≠.fields vs)→∃ sl,h'.get? b=some { o with slots:=sl })
    (z:s.heap.objs.size≤h'.objs.size) {n:Nat}:Rel C ρ σ { s with heap:=h',toks:=n }∧Step C [L,L0 C] ρ ρ s.heap h'∧LawFr C ρ h' L∧SlotsOf C s.heap h'∧LcR C ρ h' L vars lc:=by
  obtain ⟨⟨m,hn,hv⟩,hm,hl,hz⟩:=lr
  (refine x1_1 (F.ns) fun m0 hn0=>?_)
  have two:∀ J∈[L,L0 C],J=L∨J=L0 C:=fun J hJ=>(List.mem_cons.mp hJ).imp id fun q=>List.mem_singleton.mp q
  have ob:∀ J∈[L,L0 C],∃ o,s.heap.get? J=some o∧(∀ vs n,o.data≠.seq vs n)∧(∀ vs,o.data≠.fields vs):=fun J hJ=>(two J hJ).elim (fun e=>e▸ns_obj hn) fun e=>e▸ns_obj hn0
  obtain ⟨R',S'⟩:=R.moves (n:=n) (Is:=[L,L0 C]) (h':=h') (fun J hJ=>x1_3 (ob J hJ) fun o a b c=>⟨o,a,b,fun uu=>c⟩) (fun J hJ=>(two J hJ).elim (fun e=>e▸hm) fun e=>e▸F.nm) (fun J hJ=>(two J hJ).elim (fun e=>e▸hl) fun e=>e▸Nat.le_refl _) k z
  have ns:∀ J∈[L,L0 C],∀ m,s.heap.Ns J m→h'.Ns J m:=fun J hJ m hn=>x3_3 hn fun o es ep ho hd r=>x1_1 (u J hJ o ho fun vs q=>Data.noConfusion (hd.symm.trans q)) fun sl e=>⟨_,es,ep,e,hd,r⟩
  refine ⟨R',S',⟨⟨m0,ns _ (by simp) _ hn0⟩,F.nm,F.ne⟩,fun o e=>x1_3 (ob (L0 C) (by simp)) fun o' e' uu c=>u _ (by simp) o e (Option.some.inj (e'.symm.trans e)▸c),⟨m,ns _ (by simp) _ hn,fun i x e=>x2_3 (hv i x e) fun n v a b c=>⟨n,v,a,b,c.step S' fun a o vs n ha e z=>x1_3 (ob a ha) fun o' e' c uu=>c vs n (Option.some.inj (e'.symm.trans e)▸z)⟩⟩,hm,hl,hz⟩
theorem lands (H:CfgOk C) (He:EnvOk env vars) (hA:ASt C env A) (R:Rel C ρ σ s) (lr:LcR C ρ s.heap env.locals vars lc) (F:LawFr C ρ s.heap env.locals) {h₁:Heap} {e:Addr} {tk:Nat} (hx:Heap.NewExc s.heap h₁ e "IndexError") (z₁:s.heap.objs.size≤h₁.objs.size)
    (hv:GlobVal C "IndexError" (.type "IndexError")) (hk:env.kindOf "IndexError" = some .globalImplicit) {p0 p1 p2:Pos} {Q:Flow→Shared→Prop}
    (k:∀ s',Rel C ρ σ s'→Step C [env.locals,L0 C] ρ ρ s.heap s'.heap→LawFr C ρ s'.heap env.locals→SlotsOf C s.heap s'.heap→LcR C ρ s'.heap env.locals vars lc→Q (.ret .none) s') :
    wpAny (model C.prog C.w) A (noteFrame (.ref e) env) (fun uu s₂=>wpAny (model C.prog C.w) A (setFlight (.ref e) none) (fun uu s₃=>wpAny (model C.prog C.w) A (handleBy (.ref e) env [.ExceptHandler (some (.Name "IndexError" p0)) none [.Return none p1] p2]) Q E s₃) E s₂) E { s with heap:=h₁,toks:=tk }:=by
  obtain ⟨oL,hL,hL1,hL2⟩:=x1_2 lr.1 fun m hn uu=>ns_obj hn
  obtain ⟨o0,h0,h01,h02⟩:=x1_1 F.ns fun m hn=>ns_obj hn
  (refine x1_3 (hA.fr) fun e' hfr hf0 hk0=>?_)
  (refine x2_3 (hx.there) fun ob tp he hcls hd=>?_)
  have hbase:∀ {b:Addr},b∉[env.locals,L0 C]→∀ {o:Obj},s.heap.get? b=some o→(hideAll s.heap [env.locals,L0 C]).get? b=some o:=fun hb o ho=>hideAll_get _ ho hb
  have hff:h₁.FunFrames (hideAll s.heap [env.locals,L0 C]) [env,e']:=⟨by rw [He.kind]; decide,⟨env.locals,oL,hA.own,hideAll_none _ (by simp),hx.keeps _ _ hL,hL2⟩,hk0,⟨L0 C,o0,hf0,hideAll_none _ (by simp),hx.keeps _ _ h0,h02⟩,trivial⟩
  have hne:(hideAll s.heap [env.locals,L0 C]).get? e=none:=by
    cases q:(hideAll s.heap [env.locals,L0 C]).get? e with
    | none=>rfl
    | some o=>have:=of_hideAll _ q; rw [hx.new] at this; cases this
  unfold noteFrame
  simp only [hA.own]
  refine wpAny_bind (wpAny_field he hd (x:=.none) rfl ?_)
  rw [if_neg (by decide)]
  refine with_size (wpAny_entryW (base:=hideAll s.heap [env.locals,L0 C]) (a0:=tp) hfr hff hA.own he (fun b o e=>hx.keeps _ _ (of_hideAll _ e)) hne hd (by show 1 < 6; decide) rfl fun h₂ hN z₂=>?_)
  (refine x0_4 (hN) fun b2 f2 t2 u2=>?_; clear hN)
  refine with_size (wpAny_setFlight_noneW b2 f2 t2 fun h₃ b3 f3 t3 u3 z₃=>?_)
  have st:∀ {h'':Heap} {n:Nat},(hideAll s.heap [env.locals,L0 C]).StaysIn h''→(∀ b o,h₁.get? b=some o→(∀ vs,o.data≠.fields vs)→∃ sl,h''.get? b=some { o with slots:=sl })→s.heap.objs.size≤h''.objs.size→Rel C ρ σ { s with heap:=h'',toks:=n }∧Step C [env.locals,L0 C] ρ ρ s.heap h''∧LawFr C ρ h'' env.locals∧SlotsOf C s.heap h''∧LcR C ρ h'' env.locals vars lc :=
    fun b u z=>settle R lr F (fun b' o hb e=>b _ _ (hbase hb e)) (fun b' uu o e nf=>u b' o (hx.keeps _ _ e) nf) z
  have w3:s.heap.objs.size≤h₃.objs.size:=Nat.le_trans z₁ (Nat.le_trans z₂ z₃)
  have u3':∀ b o,h₁.get? b=some o→(∀ vs,o.data≠.fields vs)→∃ sl,h₃.get? b=some { o with slots:=sl }:=fun b o hb nf=>x1_1 (u2 b o hb nf) fun sl e=>⟨sl,u3 _ _ e nf⟩
  (refine x0_2 (st (n:=tk) b3 u3' w3) fun R3 uu=>?_)
  (refine x1_2 (t3.at.there) fun ob3 ho3 hc3=>?_)
  refine wpAny_handleBy_builtin (X := "IndexError") (T := "IndexError") (b:=true) PySem.F.isExc_IndexError PySem.F.notTuple_IndexError (by rw [isSubtype_type]; kernel_rfl) (global_rel H He hv hk (by decide) R3 ⟨rfl,⟨ob3,ho3,hc3.trans hcls⟩,?_⟩)
  rw [if_pos rfl]
  refine with_size (wpAny_setFlight_noneW b3 f3 t3.at fun h₄ b4 f4 t4 u4 z₄=>?_)
  refine wpAny_execs_cons (wpAny_Return_none ?_)
  obtain ⟨q1,q2,q3,q4,q5⟩:=st (n:=tk) b4 (fun b o hb nf=>x1_1 (u3' b o hb nf) fun sl e=>⟨sl,u4 _ _ e nf⟩) (Nat.le_trans w3 z₄)
  exact k _ q1 q2 q3 q4 q5
end
structure XS (C:Cfg) (d:Nat) (env:Env) (vars:List Str) (st:Stmt) (f:SM):Prop where
  run:∀ lc σ fl lc' σ',f lc σ=some (fl,lc',σ')→∀ (A:Around) (Q:Flow→Shared→Prop) (E:Value→Shared→Prop) (s:Shared) (ρ:Rho),AOk C d A→ASt C env A→Rel C ρ σ s→LcR C ρ s.heap env.locals vars lc→LawFr C ρ s.heap env.locals →
    (∀ w s' ρ',Rel C ρ' σ' s'→Step C [env.locals,L0 C] ρ ρ' s.heap s'.heap→LcR C ρ' s'.heap env.locals vars lc'→LawFr C ρ' s'.heap env.locals→SlotsOf C s.heap s'.heap→FlR C ρ' s'.heap fl w→Q w s')→wpAny (model C.prog C.w) A (exec st env) Q E s
structure XB (C:Cfg) (d:Nat) (env:Env) (vars:List Str) (b:List Stmt) (f:SM):Prop where
  run:∀ lc σ fl lc' σ',f lc σ=some (fl,lc',σ')→∀ (A:Around) (Q:Flow→Shared→Prop) (E:Value→Shared→Prop) (s:Shared) (ρ:Rho),AOk C d A→ASt C env A→Rel C ρ σ s→LcR C ρ s.heap env.locals vars lc→LawFr C ρ s.heap env.locals →
    (∀ w s' ρ',Rel C ρ' σ' s'→Step C [env.locals,L0 C] ρ ρ' s.heap s'.heap→LcR C ρ' s'.heap env.locals vars lc'→LawFr C ρ' s'.heap env.locals→SlotsOf C s.heap s'.heap→FlR C ρ' s'.heap fl w→Q w s')→wpAny (model C.prog C.w) A (execs b env) Q E s
noncomputable def popArgs:List AV→Bool
  | []=>true
  | [x]=>match x.int? with
    | some i=>smallInt i
    | none=>false
  | _ :: _ :: _=>false
noncomputable def tryPopS (i:Nat) (fs:List EM) (f:SM):SM:=fun lc σ=>(nE i lc σ).bind fun r=>r.1.loc?.bind fun l=>(lstAt r.2 l).bind fun ys=>if ys.isEmpty then (evs fs lc r.2).bind fun q=>(lstAt q.2 l).bind fun zs=>gd (zs.isEmpty && popArgs q.1) (.ret .none,lc,q.2) else f lc σ
noncomputable def popLF:FM:=fun xs σ=>(arg1 xs).bind fun x=>x.loc?.bind fun l=>(lstAt σ l).bind fun ys=>if ys.length≤sizeLine then ys.getLast?.map fun y=>(y,σ.set l (.list ys.dropLast)) else none
section
variable {C:Cfg} {d:Nat} {env:Env} {vars:List Str} {p p' p0 p1 p2 p3 p4 p5:Pos}
theorem two_l {a b:Addr}:∀ x∈[a],x∈[a,b]:=fun uu h=>List.mem_cons.mpr (.inl (List.mem_singleton.mp h))
theorem x_lift {st:Stmt} {f:SM} (D:BS C d env vars st f):XS C d env vars st f:=⟨fun lc σ fl lc' σ' hf A Q E s ρ hA _ R lr F k =>
  D.run lc σ fl lc' σ' hf A Q E s ρ hA R lr fun w s' ρ' R' S' l' q'=>x0_2 (F.go S') fun F' u=>k w s' ρ' R' (S'.weaken two_l) l' F' u q'⟩
theorem x_nil:XB C d env vars [] (seqS []):=⟨fun lc σ fl lc' σ' hf A Q E s ρ hA a R lr F k=>den_nil lc σ fl lc' σ' hf A Q E s ρ hA R lr fun w s' ρ' R' S' l' q'=>x0_2 (F.go S') fun F' u=>k w s' ρ' R' (S'.weaken two_l) l' F' u q'⟩
theorem kfX {L:Addr} {W:List Addr} {ρ:Rho} {h:Heap} {vars:List Str} {a x:Fl} {lc₁ lc':Lc} {σ₁ σ':St} {Q:Flow→Shared→Prop} (k:∀ w s' ρ',Rel C ρ' σ' s'→Step C W ρ ρ' h s'.heap→LcR C ρ' s'.heap L vars lc'→LawFr C ρ' s'.heap L→SlotsOf C h s'.heap→FlR C ρ' s'.heap x w→Q w s') (e:some (a,lc₁,σ₁)=some (x,lc',σ')) :
    ∀ w s' ρ',Rel C ρ' σ₁ s'→Step C W ρ ρ' h s'.heap→LcR C ρ' s'.heap L vars lc₁→LawFr C ρ' s'.heap L→SlotsOf C h s'.heap→FlR C ρ' s'.heap a w→Q w s':=by cases e; exact k
set_option tactic.hygienic true
theorem x_cons {st:Stmt} {r:List Stmt} {f:SM} {fs:List SM} (D1:XS C d env vars st f) (D2:XB C d env vars r (seqS fs)):XB C d env vars (st :: r) (seqS (f :: fs)):=by
  refine ⟨fun lc σ fl lc' σ' hf A Q E s ρ hA a R lr F kk=>?_⟩
  refine wpAny_execs_cons (oB hf fun t e1 hf=>D1.run _ _ _ _ _ e1 A _ E s ρ hA a R lr F fun w s₁ ρ₁ R₁ S₁ l₁ F₁ u₁ q₁=>?_)
  rcases t with ⟨fl₁,lc₁,σ₁⟩
  have z:some (fl₁,lc₁,σ₁)=some (fl,lc',σ')→Q w s₁:=fun e=>kfX kk e w s₁ ρ₁ R₁ S₁ l₁ F₁ u₁ q₁
  cases q₁ with
  | next=>exact D2.run _ _ _ _ _ hf A _ E s₁ ρ₁ hA a R₁ l₁ F₁ fun w s₂ ρ₂ R₂ S₂ l₂ F₂ u₂ q₂=>kk w s₂ ρ₂ R₂ (S₁.trans S₂) l₂ F₂ (u₁.trans u₂) q₂
  | _=>exact z hf
theorem x_pop (H:CfgOk C) (He:EnvB env vars) {i:Nat} {x n:Str} {pn:Pos} {es:List Expr} {fs:List EM} {f:SM} {apos ps:Pos} (hi:vars[i]?=some x) (D:BEs C d env vars es fs) (hl:es.length < 30) (hp:(apos.endLine == p.line)=true)
    (DS:BS C d env vars (.Assign [.Name n pn] (.Call (.Attribute (.Name x p0) "pop" apos) es [] p) ps) f) (hv:GlobVal C "IndexError" (.type "IndexError")) (hk:env.kindOf "IndexError" = some .globalImplicit) :
    XS C d env vars (.Try [.Assign [.Name n pn] (.Call (.Attribute (.Name x p0) "pop" apos) es [] p) ps] [.ExceptHandler (some (.Name "IndexError" p1)) none [.Return none p2] p3] [] [] p4) (tryPopS i fs f):=by
  refine ⟨fun lc σ fl lc' σ' hf A Q E s ρ hA a R lr F kk=>?_⟩
  refine oB hf fun r e1 hf=>oB hf fun l el hf=>oB hf fun ys ey0 hf=>?_
  refine wpAny_Try_except ?_
  cases ys with
  | cons y ys =>
    refine wpAny_execs_cons (DS.run _ _ _ _ _ hf A _ _ s ρ hA R lr fun w s₁ ρ₁ R₁ S₁ l₁ q₁=>?_)
    have z:=x0_2 (F.go S₁) fun F' u=>kk w s₁ ρ₁ R₁ (S₁.weaken two_l) l₁ F' u q₁
    cases q₁ with
    | next=>exact wpAny_execs_nil (wpAny_execs_nil z)
    | _=>exact z
  | nil =>
    refine oB (show (evs fs lc r.2).bind _=some (fl,lc',σ') from hf) fun q e2 hf=>oB hf fun zs ey hf=>oG hf fun hpa hfin=>?_
    rw [Bool.and_eq_true] at hpa
    obtain rfl:=List.isEmpty_iff.mp hpa.1
    refine wpAny_execs_cons (wpAny_Assign_Name ?_ rfl)
    rw [arm_eval_Call,show ∀ nm whole,attributeBase (.Name x p0) nm env whole=whole from fun uu uu=>rfl]
    refine wpAny_bind (den_name He.ok hi (He.nd _ (List.mem_of_getElem? hi)) _ _ _ _ e1 A _ _ s ρ hA R lr fun v s₁ ρ₁ R₁ S₁ q₁=>wpAny_bind (wpAny_standAt ?_))
    have hform:methodCallForm (es.length + 0) (backTo p (starEach es env)) (backToKw p (keywordEach [] env))=true:=by
      have n:=noStar (p:=p) D.run
      unfold methodCallForm
      have a1:(backTo p (starEach es env)).all (!·.1)=true:=by
        rw [List.all_eq_true]
        intro x hx
        have:=List.any_eq_false.mp n x hx
        simpa using this
      rw [a1]
      show (true && true && decide (es.length + 0 + 0 < 30))=true
      simp [hl]
    show wpAny _ _ (methodCall (.Name x p0) "pop" apos p env v (es.length + 0) (backTo p (starEach es env)) (backToKw p (keywordEach [] env))) _ _ _
    unfold methodCall
    rw [hform]
    refine wpAny_bind (wpAny_holding ?_)
    show wpAny _ _ (getMethod v "pop" _) _ _ _
    have hkd:kind r.2 r.1=2:=by
      rw [AV.loc_inv el]
      show (r.2[l]?.map kindO).getD 0=2
      rw [lstAt_inv ey0]; rfl
    refine m_popAt.run A _ _ s₁ ρ₁ r.2 r.1 v _ R₁ q₁ hkd ?_
    dsimp only
    have hpos:methodCallPos true (.Name x p0) env apos p=pure p:=by
      unfold methodCallPos
      rw [hp]; rfl
    rw [hpos]
    refine wpAny_bind (wpAny_pure ?_)
    refine callWith_rel H D.run e2 keep_builtin hA R₁ (lr.go S₁) fun vs s₂ ρ₂ R₂ S₂ q₂=>?_
    have lr₂:=(lr.go S₁).go S₂
    have ST:=S₁.trans S₂
    have F₂:=x0_2 (F.go ST.of_nil) fun a uu=>a
    have u₂:=x0_2 (F.go ST.of_nil) fun uu a=>a
    have fin:∀ {h₁:Heap} {e:Addr} {tk:Nat},Heap.NewExc s₂.heap h₁ e "IndexError" → s₂.heap.objs.size≤h₁.objs.size→wpAny (model C.prog C.w) A (noteFrame (.ref e) env) (fun uu s₂=>wpAny (model C.prog C.w) A (setFlight (.ref e) none) (fun uu s₃=>wpAny (model C.prog C.w) A (handleBy (.ref e) env [.ExceptHandler (some (.Name "IndexError" p1)) none [.Return none p2] p3]) Q E s₃) E s₂) E { s₂ with heap:=h₁,toks:=tk } :=
      fun hx z=>lands H He.ok a R₂ lr₂ F₂ hx z hv hk fun s' R' S' F' u' l'=>kfX kk (congrArg some hfin) _ s' ρ₂ R' (ST.of_nil.trans S') l' F' (u₂.trans u') (.ret .none)
    have q1:=AV.loc_inv el▸q₁.go S₂
    refine R₂.list_e (lstAt_inv ey) q1 fun b ws n e0 ho hs=>?_
    have e3:ws=[]:=VRs.nil_inv hs
    subst e3
    have hxs:q.1=[]∨∃ i,q.1=[.int i]∧smallInt i=true:=by
      have h:=hpa.2
      unfold popArgs at h
      split at h
      · exact .inl ‹_›
      · split at h
        · rename_i e _ _ ei
          exact .inr ⟨_,e.trans (by rw [AV.int_inv ei]),h⟩
        · cases h
      · cases h
    rcases hxs with e4 | ⟨i,e4,hi⟩
    · rw [e4] at q₂
      obtain rfl:=VRs.nil_inv q₂
      exact with_size (call_meets PySem.F.slot_list_pop ⟨_,ho,rfl⟩ PySem.F.entry_list_pop (PySem.F.args_list_pop_1 _) (PySem.AutoSeq1.list_pop_list_0 b #[] n rfl) ⟨ho,hA.1,fun h' tk e hx z=>fin hx z⟩)
    · rw [e4] at q₂
      (refine x2_3 (VRs.cons_inv q₂) fun w uu rr2 qw q3=>?_; subst rr2)
      obtain rfl:=VRs.nil_inv q3
      (refine x1_1 (VR.int_inv qw) fun t rr1=>?_; subst rr1)
      rw [smallInt_iff] at hi
      exact with_size (call_meets PySem.F.slot_list_pop ⟨_,ho,rfl⟩ PySem.F.entry_list_pop (PySem.F.args_list_pop_2 _ _) (PySem.AutoSeq1.list_pop_list_int_1 b #[] n i t (by simp [Builtin.List.listFitsIndex]; (first | lia | omega)) rfl) ⟨ho,hA.1,fun h' tk e hx z=>fin hx z⟩)
set_option tactic.hygienic false
theorem den_popL:DenCall C d (.builtin "list.pop") popLF:=by
  intro xs σ x σ' hf A Q E s ρ vs hA R q k
  refine oB hf fun z e0 hf=>oB hf fun l el hf=>oB hf fun ys e hf=>sf hf fun hz hf=>oM hf fun y hy e9=>?_
  have k:=kfe k e9
  revert k
  refine q.arg1_e e0 fun v q1 k=>?_
  have q1:=AV.loc_inv el▸q1
  refine R.list_e (lstAt_inv e) q1 fun a vs n e0 ho hs=>?_
  have hlen:=hs.length
  rw [List.getLast?_eq_getElem?] at hy
  refine x1_2 (hs.get hy) fun v hv qv=>?_
  have hklt:ys.length - 1 < vs.length:=(List.getElem?_eq_some_iff.mp hv).1
  refine call_meets PySem.F.slot_list_pop ⟨_,ho,rfl⟩ PySem.F.entry_list_pop (PySem.F.args_list_pop_1 _) (PySem.MeetsSeq.list_pop_last a vs.toArray n v (by rw [List.size_toArray,hlen,List.getElem?_toArray]; exact hv) (by rw [List.size_toArray,hlen]; exact hz)) ⟨ho,?_⟩
  rw [List.size_toArray,hlen]
  have hsb:=Heap.SameBut.update s.heap a (Obj.mapSeq fun xs=>xs.eraseIdxIfInBounds (ys.length - 1))
  have S:Step C [] ρ ρ s.heap (s.heap.update a (Obj.mapSeq fun xs=>xs.eraseIdxIfInBounds (ys.length - 1))):=stepMut (.inr ⟨_,List.mem_of_getElem? e0,.inl rfl⟩) hsb
  have gt:=mapSeq_at ho (fun xs=>xs.eraseIdxIfInBounds (ys.length - 1))
  have er:vs.toArray.eraseIdxIfInBounds (ys.length - 1)=(vs.dropLast).toArray:=by
    unfold Array.eraseIdxIfInBounds
    rw [dif_pos (by rw [List.size_toArray]; exact hklt),List.eraseIdx_toArray,← hlen,List.eraseIdx_length_sub_one]
  rw [er] at gt
  have hs':VRs C ρ s.heap ys.dropLast vs.dropLast:=by
    rw [List.dropLast_eq_take,List.dropLast_eq_take,hlen]
    exact hs.take _
  exact x0_2 (R.upd (n:=s.toks) e0 (.inl rfl) hsb (.list gt (hs'.go S)) rfl) fun R' S'=>k _ _ _ R' S' (qv.go S)
theorem b_popL:BC C d (.builtin "list.pop") popLF:=⟨den_popL⟩
structure XF (C:Cfg) (d:Nat) (f:Addr) (F:FM):Prop where
  run:∀ xs σ x σ',F xs σ=some (x,σ')→∀ (A:Around) (P:Result→Shared→Prop) (s:Shared) (ρ:Rho) (vs:List Value),AOk C d A→Rel C ρ σ s→VRs C ρ s.heap xs vs→(∃ m,s.heap.Ns (L0 C) m)→¬ Mut C ρ (L0 C) →
    (∀ v s' ρ',Rel C ρ' σ' s'→Step C [L0 C] ρ ρ' s.heap s'.heap→SlotsOf C s.heap s'.heap→VR C ρ' s'.heap x v→P (.ok (.ret v)) s')→codeAny (model C.prog C.w) A (.call (.ref f) ⟨vs,[]⟩) P s
theorem x_fn {f:Addr} {n:Nat} {B:SM} (H:CfgOk C) (F:FnIn C f vars n) (nd:vars.all (fun x=>!(x == ("__debug__" : Str)))=true) (hb:∀ vs:List Value,vs.length=n→bindArgs (fdAt C.K f) ⟨vs,[]⟩=pure ((vars.take n).zip vs)) (hd:697≤d + 1)
    (D:∀ L,EnvB (envAt C f L) vars→XB C d (envAt C f L) vars (bodyAt C.K f) B):XF C (d + 1) f (runF vars n B):=by
  refine ⟨fun xs σ x σ' hf A P s ρ vs hA R q hns0 hm0 k=>?_⟩
  have H0:=F.ok0 H hb
  refine sf hf fun hn hf=>oB hf fun t e1 hf=>?_
  refine enterD H0 H.lim H.stat R.old (Nat.lt_of_le_of_lt (Nat.le_add_right ..) hA.2.1) (q.length.trans hn) fun h₁ tk E' hns k₁ z₁=>wpAt_of_wpAny ?_
  have hle:s.heap.objs.size≤h₁.objs.size:=z₁▸Nat.le_succ _
  have hz:xs.length≤vars.length:=hn▸H0.n_le
  rw [List.append_nil,List.length_nil,Nat.add_zero,← hn] at hns
  (refine x1_1 (hns0) fun m0 hn0=>?_; clear hns0)
  have ast:ASt C (envAt C f s.heap.objs.size) (A.deeper (envAt C f s.heap.objs.size)):=by
    obtain ⟨h1,h2,h3,l,e1,e2,e3,e4⟩:=hA
    refine ⟨?_,rfl⟩
    have hr:recursionLimit=1000:=rfl
    rw [hr] at h2
    have hl:l.length≤1:=by (first | lia | omega)
    match l,e2,hl with
    | [e],_,_=>exact ⟨e,Around.frames_deeper e1,e4 e rfl⟩
    | _ :: _ :: _,_,h=>exact absurd h (by simp)
  refine (D s.heap.objs.size (F.envB nd _)).run _ _ _ _ _ e1 _ _ _ _ ρ hA.deeper ast (R.same k₁ hle R.gens rfl rfl)
    ⟨⟨_,hns,args_at H0.nodup hz q (·.go (.same k₁ hle))⟩,R.fresh,R.size,by unfold lc0; rw [List.length_append,List.length_map,List.length_replicate]; exact Nat.add_sub_cancel' hz⟩ ⟨⟨m0,hn0.at fun o e=>k₁ _ o e⟩,hm0,fun e=>Nat.lt_irrefl _ (e▸hn0.lt)⟩ fun w s' ρ' R' S' l' F' u' q'=>?_
  refine x0_2 (endF_rel q' hf) fun qx eσ=>k _ s' ρ' (eσ▸R') ?_ (fun o e=>u' o (k₁ _ _ e)) qx
  refine ⟨Nat.le_trans hle S'.size,fun b o e nm nw=>S'.keep b o (k₁ b o e) nm fun hb=>?_,x1_2 S'.grow fun δ e hδ=>⟨δ,e,fun p hp=>⟨Nat.le_trans hle (hδ p hp).1,Nat.le_trans hle (hδ p hp).2⟩⟩⟩
  rcases List.mem_cons.mp hb with hb | hb
  · exact Nat.ne_of_lt (Heap.lt_size e) hb
  · exact nw hb
end
section
variable {C:Cfg} {d:Nat} {env:Env} {vars:List Str} {p p' p0 p1 p2 p3 p4 p5:Pos} {ρ ρ':Rho} {s:Shared} {h h':Heap} {lc:Lc}
theorem lcr_law (lr:LcR C ρ h (L0 C) vars lc) (S:Step C [L0 C] ρ ρ' h h') (u:SlotsOf C h h'):LcR C ρ' h' (L0 C) vars lc:=by
  obtain ⟨⟨m,hn,hv⟩,hm,hl,hz⟩:=lr
  refine ⟨⟨m,x3_3 hn fun o es ep ho hd r=>x1_1 (u o ho) fun sl e=>⟨_,es,ep,e,hd,r⟩,fun i x e=>x2_3 (hv i x e) fun n v a b c=>⟨n,v,a,b,c.step S (ns_noSeq hn)⟩⟩,Mut.grow S hn.lt hm,hl,hz⟩
set_option tactic.hygienic true
theorem x_meth (H:CfgOk C) (He:EnvB env vars) (hL:env.locals=L0 C) {k:Nat} {name:Str} {g:Addr} {F:FM} {o:Expr} {f:EM} {es:List Expr} {fs:List EM} {apos:Pos} (hg:BM C k name (.ref g)) (hk:KeepOk C (.ref g)) (DF:XF C d g F) (D0:BE C d env vars o f) (D:BEs C d env vars es fs)
    (hb:∀ nm whole,attributeBase o nm env whole=whole) (hl:es.length < 30) (hp:(apos.endLine == p.line)=true):BS C d env vars (.Expr (.Call (.Attribute o name apos) es [] p) p') (exprS (mE k F f fs)):=by
  refine ⟨fun lc σ fl lc' σ' hf A Q E s ρ hA R lr kk=>oM hf fun y hf e9=>wpAny_Expr_any ?_ He.int rfl⟩
  refine oB hf fun r e1 hf=>sf hf fun hkd hf=>oB hf fun xs e2 hf=>?_
  rw [arm_eval_Call,hb]
  refine wpAny_bind (D0.run _ _ _ _ e1 A _ E s ρ hA R lr fun v s₁ ρ₁ R₁ S₁ q₁=>wpAny_bind (wpAny_standAt ?_))
  have hform:methodCallForm (es.length + 0) (backTo p (starEach es env)) (backToKw p (keywordEach [] env))=true:=by
    have n:=noStar (p:=p) D.run
    unfold methodCallForm
    have a1:(backTo p (starEach es env)).all (!·.1)=true:=by
      rw [List.all_eq_true]
      intro x hx
      have:=List.any_eq_false.mp n x hx
      simpa using this
    rw [a1]
    show (true && true && decide (es.length + 0 + 0 < 30))=true
    simp [hl]
  show wpAny _ _ (methodCall o name apos p env v (es.length + 0) (backTo p (starEach es env)) (backToKw p (keywordEach [] env))) _ _ _
  unfold methodCall
  rw [hform]
  refine wpAny_bind (wpAny_holding ?_)
  show wpAny _ _ (getMethod v name _) _ _ _
  refine hg.run A _ E s₁ ρ₁ r.2 r.1 v _ R₁ q₁ hkd ?_
  dsimp only
  have hpos:methodCallPos true o env apos p=pure p:=by
    unfold methodCallPos
    rw [hp]; rfl
  rw [hpos]
  refine wpAny_bind (wpAny_pure ?_)
  refine callWith_rel H D.run e2 hk hA R₁ (lr.go S₁) fun vs s₂ ρ₂ R₂ S₂ q₂=>?_
  have lr₂:=(lr.go S₁).go S₂
  rw [hL] at lr₂
  refine wpAny_call (DF.run _ _ _ _ hf A _ s₂ ρ₂ (v :: vs) hA R₂ (.cons (q₁.go S₂) q₂) (x1_2 lr₂.1 fun m a uu=>⟨m,a⟩) lr₂.2.1 fun v' s₃ ρ₃ R₃ S₃ u₃ q₃=>?_)
  refine kfs kk e9 _ s₃ ρ₃ R₃ ?_ ?_ .next
  · rw [hL]; exact (S₁.trans S₂).of_nil.trans S₃
  · rw [hL]; exact lcr_law lr₂ S₃ u₃
end
section
variable {C:Cfg} {d:Nat} {f:Addr} {x:Str} {vars cv:List Str}
theorem run_lawX (H:CfgOk C) (F:FnCIn C f x vars cv) (nd:(x :: vars).all (fun y=>!(y == ("__debug__" : Str)))=true) {B:SM} (D:EnvB (envC C f (L0 C)) (x :: vars)→BB C d (envC C f (L0 C)) (x :: vars) (bodyAt C.K f) B)
    (R:Rel C [] [] C.s₁) {A:Around} (h1:A.handled=none) (h2:A.depth + (d + 1) < recursionLimit) (h3:A.units + 8 * (d + 1) < cLine) (h4:A.frames=some []) (h5:301≤A.depth) {l:Addr} {ns:List Int} (q:VR C [] C.s₁.heap (.lst (ns.map AV.int)) (.ref l)) {σ':St} (e:runB (x :: vars) B [.lst (ns.map AV.int)] (cells0 C.s₁.heap.objs.size cv.length)=some (.bool true,σ'))
    {Q:Value→Shared→Prop} {E:Value→Shared→Prop} (k:∀ s' ρ',Rel C ρ' σ' s'→Q (.bool true) s'):wpAny (model C.prog C.w) A (call (.ref f) [.ref l]) Q E C.s₁:=by
  have hA:AOk C d (A.deeper (envC C f (L0 C))):=⟨h1,by show A.depth + 1 + d < _; (first | lia | omega),by show A.units + 3 + 8 * d < _; (first | lia | omega),[envC C f (L0 C)],Around.frames_deeper h4,by simp,by show 1 + 301≤A.depth + 1; (first | lia | omega),fun e he=>by
    have he:envC C f (L0 C)=e:=Option.some.inj he
    subst he
    exact ⟨rfl,fun e=>ScopeKind.noConfusion ((show (envC C f (L0 C)).scope.kind=.function from F.sc.2.2.1).symm.trans e)⟩⟩
  refine x0_5 F.sc fun k1 k2 k3 k4 k6=>?_
  refine oB e fun t e1 e2=>?_
  refine x1_3 (isFnAt_of F.fn) fun o e3 hd hbd=>?_
  have hx:(envC C f C.s₁.heap.objs.size).kindOf x=some .local:=k4 x List.mem_cons_self
  refine wpAny_call (codeAny_call_cells (Nat.lt_of_le_of_lt (Nat.le_add_right ..) h2) (H.kin _ _ e3) hd H.lim (codeIn_of H.kin F.code).1 hbd (F.bind _) F.clo (fun y hy=>?_) (fun s₁ X=>?_) k1 k2 k3)
  · cases List.mem_singleton.mp hy
    exact .inl hx
  obtain ⟨⟨⟨h,tk,rfl⟩,hns,kp,_⟩,hcell,hap,hab⟩:=X
  have z:C.s₁.heap.objs.size≤h.objs.size:=Nat.le_of_lt hns.lt
  have bL:bindL (envC C f C.s₁.heap.objs.size).kindOf [(x,Value.ref l)] (fun uu=>none)=fun y=>if y=x then some (Value.ref l) else none:=by
    unfold bindL bindL; rw [if_pos hx]
  have bC:bindC (envC C f C.s₁.heap.objs.size).kindOf [(x,Value.ref l)] (fun uu=>none)=fun uu=>none:=by
    unfold bindC bindC; rw [if_pos hx]
  rw [bL] at hns
  rw [bC] at hcell
  have R₁:=rel_cells (k:=cv.length) (tk:=tk) R kp z fun j hj=>x1_1 (F.cells C.s₁.heap.objs.size j hj) fun y hy=>hcell y _ hy
  have S₁:Step C [] [] (rho0 C.s₁.heap.objs.size cv.length) C.s₁.heap h:=⟨z,fun b o e uu uu=>kp b o e,_,(List.nil_append _).symm,fun p hp=>by
    (refine x1_2 (List.mem_map.mp hp) fun j uu rr2=>?_; subst rr2)
    exact ⟨by dsimp only; (first | lia | omega),by dsimp only; (first | lia | omega)⟩⟩
  refine (D (F.envB nd _)).run _ _ _ _ _ e1 _ _ _ _ _ hA R₁ ⟨⟨_,hns,fun i y ei=>?_⟩,?_,Nat.le_refl _,by simp [lc0]⟩ fun w s' ρ' R' S' l' q'=>?_
  · match i,ei with
    | 0,ei=>cases ei; exact ⟨x,_,rfl,if_pos rfl,q.go S₁⟩
    | i + 1,ei =>
      have:(List.replicate vars.length (none:Option AV))[i]?=some (some y):=ei
      rw [List.getElem?_replicate] at this
      exact sf this fun uu e=>nomatch e
  · rintro (t | ⟨p,hp,e⟩)
    · exact R.fresh (.inl t)
    · (refine x1_2 (List.mem_map.mp hp) fun j uu rr2=>?_; subst rr2)
      change _=C.s₁.heap.objs.size∨_=C.s₁.heap.objs.size at e
      rcases e with e | e <;> (dsimp only at e; (first | lia | omega))
  · exact x0_2 (endF_rel q' e2) fun qx eσ=>VR.bool_e (P:=fun v=>Q v s') qx (k s' ρ' (eσ▸R'))
end
noncomputable def attr8:List Str:=["_maxlen", "_continuation_ws", "_continuation_ws_len", "_splitchars", "_lines", "_current_line", "header_encoding", "header_encode_lines"]
inductive EntV (P:Params):List (Str × Value)→List DictEntry→Prop
  | nil:EntV P [] []
  | cons {k:Str} {t:Tok} {v:Value} {r:List (Str × Value)} {es:List DictEntry} (b:EntV P r es):EntV P ((k,v) :: r) (⟨PyData.keyHash P k,.str k t,v⟩ :: es)
noncomputable def FmtX (P:Params) (VF:Addr) (k:Nat) (p:Addr × Addr) (vs:List Value) (o1 o2:Obj):Prop:=o1=⟨.ref VF,some p.2,.plain,#[]⟩∧∃ es n,o2=dictOf es n∧EntV P ((attr8.take k).zip vs) es
noncomputable def attrsOf:AO→Option (List AV)
  | .fmt ml cw cwl sp ln ac=>some ((fmtAttrs ml cw cwl sp ln ac).map (·.2))
  | .ext k cs=>gd (k == cs.length && decide (7≤k) && decide (k≤8)) cs
  | .list _=>none
  | .acc ..=>none
  | .ghost=>none
  | .gen ..=>none
  | .out _=>none
  | .cell ..=>none
noncomputable def attsAt (σ:St) (l:Nat):Option (List AV):=σ[l]?.bind attrsOf
structure XOk (C:Cfg):Prop where
  fmt:∀ k,7≤k→k≤8→C.X k=FmtX C.w.params C.VF k
  att:∀ k,k < 8→∀ n,attr8[k]?=some n→findIn C.K (.ref C.VF) n=some none
noncomputable def attrXE (k:Nat) (f:EM):EM:=fun lc σ=>(f lc σ).bind fun p=>p.1.loc?.bind fun l=>(attsAt p.2 l).bind fun cs=>cs[k]?.map (·,p.2)
noncomputable def setXS (k:Nat) (g f:EM):SM:=fun lc σ=>(f lc σ).bind fun p=>(g lc p.2).bind fun q=>q.1.loc?.bind fun l=>(attsAt q.2 l).bind fun cs=>gd (cs.length == k) (.next,lc,q.2.set l (.ext (k + 1) (cs++[p.1])))
section
variable {C:Cfg} {ρ:Rho} {σ:St} {s:Shared} {A:Around} {E:Value→Shared→Prop} {env:Env} {vars:List Str} {lc:Lc} {p p':Pos} {d:Nat} {h:Heap}
theorem entV_of:∀ {ns:List Str} {cs:List AV} {es:List DictEntry},cs.length≤ns.length→EntR C ρ h (ns.zip cs) es→∃ vs,VRs C ρ h cs vs∧EntV C.w.params (ns.zip vs) es
  | [],[],_,_,.nil=>⟨[],.nil,.nil⟩
  | _ :: _,[],_,_,.nil=>⟨[],.nil,.nil⟩
  | [],_ :: _,_,hl,_=>absurd hl (Nat.not_succ_le_zero _)
  | _ :: ns,x :: cs,_,hl,.cons (v:=v) a b=>x1_2 (entV_of (Nat.le_of_succ_le_succ hl) b) fun vs q e=>⟨v :: vs,.cons a q,.cons e⟩
theorem entR_of:∀ {ns:List Str} {cs:List AV} {vs:List Value} {es:List DictEntry},cs.length≤ns.length→VRs C ρ h cs vs→EntV C.w.params (ns.zip vs) es→EntR C ρ h (ns.zip cs) es
  | [],[],_,_,_,.nil,e=>by cases e; exact .nil
  | _ :: _,[],_,_,_,.nil,e=>by cases e; exact .nil
  | [],_ :: _,_,_,hl,_,_=>absurd hl (Nat.not_succ_le_zero _)
  | _ :: ns,x :: cs,_,_,hl,.cons a q,e=>by
    cases e with | cons b=>exact .cons a (entR_of (Nat.le_of_succ_le_succ hl) q b)
theorem take_zip {n:Nat}:∀ {ns:List Str} {cs:List AV},cs.length=n→(ns.take n).zip cs=ns.zip cs:=by
  induction n with
  | zero=>intro ns cs e; cases cs with | nil=>simp | cons=>cases e
  | succ n ih =>
    intro ns cs e
    cases cs with
    | nil=>cases e
    | cons c cs =>
      cases ns with
      | nil=>rfl
      | cons a ns=>exact congrArg ((a,c) :: ·) (ih (Nat.succ.inj e))
@[elab_as_elim] theorem Rel.atts_e (HX:XOk C) (R:Rel C ρ σ s) {P:Value→Prop} {l:Nat} {cs:List AV} {v:Value} (hl:attsAt σ l=some cs) (q:VR C ρ s.heap (.loc l) v)
    (k:∀ a dd es n,ρ[l]?=some (a,dd)→s.heap.get? a=some ⟨.ref C.VF,some dd,.plain,#[]⟩→s.heap.get? dd=some (dictOf es n)→EntR C ρ s.heap (attr8.zip cs) es→cs.length≤8→P (.ref a)):P v:=by
  refine oB hl fun o eo hl=>?_
  cases o with
  | fmt ml cw cwl sp ln ac =>
    obtain rfl:=Option.some.inj hl
    exact R.fmt_e eo q fun a dd es n e0 ho hd he=>k a dd es n e0 ho hd he (by simp [fmtAttrs])
  | ext kk cs' =>
    refine oG hl fun hk e=>?_
    subst e
    simp only [Bool.and_eq_true,beq_iff_eq,decide_eq_true_eq] at hk
    refine q.loc_e fun p e0=>?_
    (refine x3_7 (R.st l p _ e0 eo) fun o1 o2 vs h1 h2 uu uu qs hX uu=>?_)
    rcases hX with hX | hX
    · (first | lia | omega)
    · rw [HX.fmt kk hk.1.2 hk.2] at hX
      obtain ⟨rfl,es,n,rfl,he⟩:=hX
      rw [hk.1.1] at he
      exact k p.1 p.2 es n e0 h1 h2 (take_zip (ns:=attr8) (rfl:cs'.length=cs'.length)▸entR_of (by rw [List.length_take]; show _≤min _ 8; (first | lia | omega)) qs he) (by (first | lia | omega))
  | _=>exact nomatch hl
theorem attr_lookup {cs:List AV} {k:Nat} {x:AV} {n:Str} (hn:attr8[k]?=some n) (hx:cs[k]?=some x):(attr8.zip cs).lookup n=some x:=by
  have go:∀ {xs:List Str} {vs:List AV} {i:Nat},xs.Nodup→xs[i]?=some n→vs[i]?=some x→(xs.zip vs).lookup n=some x:=by
    intro xs
    induction xs with
    | nil=>intro vs i _ e _; simp at e
    | cons y xs ih =>
      intro vs i nd e e'
      cases vs with
      | nil=>simp at e'
      | cons w vs =>
        rw [List.zip_cons_cons,List.lookup_cons]
        cases i with
        | zero =>
          obtain rfl:=Option.some.inj e
          obtain rfl:=Option.some.inj e'
          simp
        | succ i =>
          have hne:n≠y:=fun z=>(List.nodup_cons.mp nd).1 (z▸List.mem_of_getElem? e)
          rw [beq_false_of_ne hne]
          exact ih (List.nodup_cons.mp nd).2 e e'
  exact go (by decide) hn hx
theorem attr_none {cs:List AV} {n:Str} {k:Nat} (hn:attr8[k]?=some n) (hc:cs.length=k):(attr8.zip cs).lookup n=none:=by
  have go:∀ {xs:List Str} {vs:List AV} {i:Nat},xs.Nodup→xs[i]?=some n→vs.length=i→(xs.zip vs).lookup n=none:=by
    intro xs
    induction xs with
    | nil=>intro vs i _ e _; simp at e
    | cons y xs ih =>
      intro vs i nd e e'
      cases vs with
      | nil=>rfl
      | cons w vs =>
        cases i with
        | zero=>cases e'
        | succ i =>
          rw [List.zip_cons_cons,List.lookup_cons]
          have hne:n≠y:=fun z=>(List.nodup_cons.mp nd).1 (z▸List.mem_of_getElem? e)
          rw [beq_false_of_ne hne]
          exact ih (List.nodup_cons.mp nd).2 e (Nat.succ.inj e')
  exact go (by decide) hn hc
theorem zip_snoc {ns:List Str} {cs:List AV} {n:Str} {x:AV} (hn:ns[cs.length]?=some n):ns.zip (cs++[x])=ns.zip cs++[(n,x)]:=by
  induction ns generalizing cs with
  | nil=>simp at hn
  | cons a ns ih =>
    cases cs with
    | nil =>
      obtain rfl:=Option.some.inj hn
      simp
    | cons c cs=>exact congrArg ((a,c) :: ·) (ih hn)
theorem den_attrX (H:CfgOk C) (HC:ClsOk C) (HX:XOk C) {o:Expr} {n:Str} {f:EM} {k:Nat} (hn:attr8[k]?=some n) (D:DenE C d env vars o f) (hb:∀ nm whole,attributeBase o nm env whole=whole):DenE C d env vars (.Attribute o n p) (attrXE k f):=by
  intro lc σ x σ' hf A Q E s ρ hA R lr kk
  refine oB hf fun y e1 hf=>oB hf fun l el hf=>oB hf fun cs e2 hf=>oM hf fun z hz e3=>?_
  refine Attribute_any_ (D _ _ _ _ e1 A _ E s ρ hA R lr fun v s₁ ρ₁ R₁ S₁ q₁=>?_) (by rw [arm_eval_Attribute,hb])
  have kk:=kfe kk e3
  have q₁:VR C ρ₁ s₁.heap (.loc l) v:=AV.loc_inv el▸q₁
  refine R₁.atts_e HX e2 q₁ fun a dd es m e0 ho hd he hl=>?_
  have g:=entR_get (name:=n) he
  rw [attr_lookup hn hz] at g
  have hk8:k < 8:=(List.getElem?_eq_some_iff.mp hn).1
  exact x1_2 g fun w hw qw=>getAttr_val (R₁.kin H) (fmtInst ho hd) HC.vfGa (findObj_own HC.vfDict (HX.att k hk8 n hn) rfl hw) (vr_handed qw) (kk w _ ρ₁ R₁.toks S₁ qw)
set_option tactic.hygienic true
theorem den_setX (H:CfgOk C) (HX:XOk C) (HS:StoreOk C C.VF) {o e:Expr} {n:Str} {g f:EM} {k:Nat} (hn:attr8[k]?=some n) (hk:6≤k) (ht:takerIn C.K C.VF n=some none) (D0:DenE C d env vars o g) (D:DenE C d env vars e f) (hs:swapsWith e (some (.Attribute o n p')) p.line env=pure false) :
    DenS C d env vars (.Assign [.Attribute o n p'] e p) (setXS k g f):=by
  intro lc σ fl lc' σ' hf A Q E s ρ hA R lr kk
  refine oB hf fun y e1 hf=>oB hf fun z e2 hf=>oB hf fun l el hf=>oB hf fun cs hl hf=>oG hf fun hc e3=>?_
  refine plainObj_wpAny_Assign_Attribute (D _ _ _ _ e1 A _ E s ρ hA R lr fun v s₁ ρ₁ R₁ S₁ q₁=>D0 _ _ _ _ e2 A _ E s₁ ρ₁ hA R₁ (lr.go S₁) fun ov s₂ ρ₂ R₂ S₂ q₂=>?_) hs
  have hc:cs.length=k:=beq_iff_eq.mp hc
  have hk8:k < 8:=(List.getElem?_eq_some_iff.mp hn).1
  have q₂:VR C ρ₂ s₂.heap (.loc l) ov:=AV.loc_inv el▸q₂
  refine R₂.atts_e HX hl q₂ fun a dd es m e0 ho hd he hl8=>?_
  have ge:=entR_get (name:=n) he
  rw [attr_none hn hc] at ge
  have pe:=putL_new (hsh:=PyData.keyHash C.w.params n) (key:=.str n (s₂.toks + 1)) (v:=v) ge
  have hel:es.length=cs.length:=by rw [he.length,List.length_zip]; show min 8 _=_; (first | lia | omega)
  refine set_any HS (R₂.kin H) (fmtInst ho hd) rfl hd ht (by rw [ge]; rfl) (by rw [pe,List.length_append,hel,hc]; show k + 1≤1000; (first | lia | omega)) fun h' hsb hd'=>?_
  have S:Step C [] ρ₂ ρ₂ s₂.heap h':=stepMut (.inr ⟨_,List.mem_of_getElem? e0,.inr rfl⟩) hsb
  have hne:a≠dd:=by
    rintro rfl
    rw [ho] at hd
    exact Data.noConfusion (congrArg Obj.data (Option.some.inj hd))
  have he':EntR C ρ₂ s₂.heap (attr8.zip (cs++[y.1])) (es++[⟨PyData.keyHash C.w.params n,.str n (s₂.toks + 1),v⟩]):=by
    rw [zip_snoc (by rw [hc]; exact hn)]
    exact he.snoc (q₁.go S₂)
  rw [pe] at hd'
  refine x1_2 (entV_of (by rw [List.length_append,hc]; show k + 1≤8; (first | lia | omega)) (he'.map (·.go S))) fun vs qs hv=>?_
  have ob:ObjR C ρ₂ h' (a,dd) (.ext (k + 1) (cs++[y.1])):=by
    refine ⟨_,_,vs,(hsb.2 _ hne).trans ho,hd',.inl fun vs=>Data.noConfusion,.inl fun vs=>Data.noConfusion,qs,.inr ?_,fun c e=>nomatch e⟩
    rw [HX.fmt (k + 1) (by (first | lia | omega)) (by (first | lia | omega))]
    refine ⟨rfl,_,_,rfl,?_⟩
    have hvl:vs.length=k + 1:=by rw [qs.length,List.length_append,hc]; rfl
    have tz:∀ {n:Nat} {ns:List Str} {us:List Value},us.length=n→(ns.take n).zip us=ns.zip us:=by
      intro n
      induction n with
      | zero=>intro ns us e; cases us with | nil=>simp | cons=>cases e
      | succ n ih =>
        intro ns us e
        cases us with
        | nil=>cases e
        | cons c us =>
          cases ns with
          | nil=>rfl
          | cons a ns=>exact congrArg ((a,c) :: ·) (ih (Nat.succ.inj e))
    rw [tz hvl]
    exact hv
  (refine x0_2 (R₂.upd (n:=s₂.toks + 2) e0 (.inr rfl) hsb ob rfl) fun R' S'=>?_)
  exact kfs kk e3 _ _ ρ₂ R' ((S₁.trans S₂).trans S').of_nil (lr.go ((S₁.trans S₂).trans S')) .next
end
noncomputable def CodeAt (h:Heap) (c:Addr):Prop:=∃ ob vs v,h.get? c=some ob∧ob.cls=.type "code" ∧ ob.data=.fields vs∧vs[1]?=some v
structure LamS where
  qual:Str
  params:Arguments
  body:Expr
  scope:Scope
  names:List Str
noncomputable def LamX (S:LamS) (p:Addr × Addr) (vs:List Value) (o1 o2:Obj):Prop:=p.2=p.1∧o2=o1∧∃ pm c ctv addrs,vs=addrs.map Value.ref∧o1=kla_obj "<lambda>" S.qual S.params S.body S.scope (S.names.zip addrs) pm c ctv
noncomputable def cellIs (σ:St) (p:Addr × Nat):Bool:=match celAt σ p.2 with
  | some g=>g.1 == p.1
  | none=>false
noncomputable def lamE (k:Nat) (cl:List (Addr × Nat)):EM:=fun _ σ=>gd (cl.all (cellIs σ)) (.loc σ.length,σ++[.ext k (cl.map fun p=>.loc p.2)])
section
variable {C:Cfg} {ρ:Rho} {σ:St} {s:Shared} {A:Around} {E:Value→Shared→Prop} {env:Env} {vars:List Str} {lc:Lc} {d:Nat}
theorem funcode (HG:GenOk C) {t:Addr × Addr × Array Value} (ht:t∈C.tabs) (hcode:env.code=.ref t.1) {pos:Pos} {fl:Nat} {nm qn:Str} {ps:Arguments} {scope:Scope} {body:FuncBody} {Q:Value→Shared→Prop} (R:Rel C ρ σ s)
    (k:∀ c s',Kept C s s'→CodeAt s'.heap c→Q (.ref c) s'):wpAny (model C.prog C.w) A (functionCode env pos fl nm qn ps scope body) Q E s:=by
  (refine x1_2 (R.tab t ht) fun more a b=>?_)
  cases hf:codeAmong pos (t.2.2++more).toList with
  | some cv =>
    (refine x4_5 (b.codes pos cv hf) fun c o vs v rr4 h1 h2 h3 h4=>?_; subst rr4)
    exact wpAny_functionCode_hit hcode a hf (k _ _ (.of R (fun uu uu e=>e) (Nat.le_refl _) rfl rfl rfl) ⟨o,vs,v,h1,h2,h3,h4⟩)
  | none =>
    refine wpAny_functionCodeX hcode a b.at_ hf fun c' h' tk hx hge hlt a' hrec b' hP'=>?_
    have ca:CodeAt h' c':=by
      (refine x4_4 (id hrec) fun c2 o vs t e1 e2 e3 e4=>?_)
      obtain ⟨P',_,_,⟨⟨o',vs',x1,x2,x3,x4⟩,_⟩⟩:=hP'
      cases e1
      rw [e2] at x1
      cases x1
      exact ⟨o,vs,_,e2,x2,e3,e4⟩
    refine k _ _ ?_ ca
    refine ⟨fun b' o e n=>hx b' o (fun z=>n (z▸List.mem_map_of_mem ht)) e,fun t' ht'=>?_,Nat.le_trans hge (Nat.le_of_lt hlt),R.gens.bare,fun uu uu e=>e,rfl,rfl⟩
    by_cases he:t'.2.1=t.2.1
    · obtain rfl:=HG.one t' ht' t ht he
      exact ⟨more++#[rawInt pos.line,rawInt pos.col,.ref c'],by rw [← Array.append_assoc]; exact a',by rw [← Array.append_assoc]; exact ⟨b',codes_snoc b hx hrec hP' (a.triples) ⟩⟩
    · (refine x1_2 (R.tab t' ht') fun m2 a2 b2=>?_)
      have hc:t'.1≠t.2.1:=by
        intro z
        obtain ⟨⟨o,vs,x,y,_⟩,_⟩:=b2.at_
        rw [z,b.at_.2] at x
        cases x; cases y
      exact ⟨m2,a2.extBut hx hc he,b2.move (fun b' o e hc=>hx b' o (fun z=>code_noTab b (z▸e) hc) e) fun o e=>hx _ _ he e⟩
set_option tactic.hygienic true
theorem cells_vr (R:Rel C ρ σ s):∀ {cl:List (Addr × Nat)},cl.all (cellIs σ)=true→VRs C ρ s.heap (cl.map fun p=>.loc p.2) (cl.map fun p=>Value.ref p.1)
  | [],_=>.nil
  | p :: cl,h=>by
    rw [List.all_cons,Bool.and_eq_true] at h
    refine .cons ?_ (cells_vr R h.2)
    have h1:=h.1
    unfold cellIs at h1
    split at h1
    · rename_i g e
      have e':=celAt_inv e
      refine x1_2 (R.obj e') fun q e1 ob=>x0_2 ob fun ep uu=>?_
      rw [beq_iff_eq.mp h1] at ep
      rw [ep] at e1
      exact .loc (p:=(p.1,p.1)) e1
    · cases h1
set_option tactic.hygienic false
theorem den_lam (H:CfgOk C) (HG:GenOk C) (He:EnvOk env vars) {t:Addr × Addr × Array Value} (ht:t∈C.tabs) (hcode:env.code=.ref t.1) {k:Nat} {S:LamS} (hX:C.X k=LamX S) {cl:List (Addr × Nat)} {pos:Pos} (hq:env.qual ++ "<lambda>" = S.qual) (hdef:defaultsOf S.params env=([],[]))
    (hcl:closureFor S.scope env=pure (S.names.zip (cl.map (·.1)))) (hne:(S.names.zip (cl.map (·.1))).isEmpty=false):DenE C d env vars (.Lambda S.params S.body S.scope pos) (lamE k cl):=by
  intro lc σ x σ' hf A Q E s ρ hA R lr kk
  refine oG hf fun hc e=>?_
  have kk:=kfe kk e
  refine kla_eval hdef ?_
  rw [hq,makeFunction_eq]
  simp only [List.zip_nil_right,List.filterMap_nil,List.isEmpty_nil,if_true,pure_bind]
  unfold makeTail
  rw [hcl,He.glob]
  refine wpAny_bind (wpAny_pure ?_)
  rw [hne]
  simp only [Bool.false_eq_true,if_false]
  refine wpAny_bind (wpAny_newTextTuple ?_)
  refine wpAny_bind (funcode HG ht hcode (R.push _ (n:=s.toks)) fun c s₃ K₃ ca=>?_)
  have R₃:=(R.push _ (n:=s.toks)).kept K₃
  (refine x3_2 (HG.bm) fun mg bm ob' M hbm=>?_)
  have M₃:BMod s₃.heap mainGlobals mg bm ob':=⟨M.ns.at fun o e=>R₃.old _ _ e H.glob,M.name,M.ne,R₃.old _ _ M.obj hbm,M.cls,M.dict,M.data⟩
  refine wpAny_bind (wpAny_builtinsFor M₃.ns M₃.name M₃.ne M₃.obj M₃.cls M₃.dict M₃.data ?_)
  refine wpAny_bind (wpAny_nsGet M₃.ns ?_)
  refine wpAny_bind (wpAny_pure (wpAny_newObj_type ?_ (by size_fits)))
  have S₃:Step C [] ρ ρ s.heap s₃.heap:=(Step.pushObj _).trans K₃.step
  let fo:Obj:=kla_obj "<lambda>" S.qual S.params S.body S.scope (S.names.zip (cl.map (·.1))) ((mg "__name__").getD .none) c (.ref s.heap.objs.size)
  have kp:∀ b o,s₃.heap.get? b=some o→(s₃.heap.push fo).get? b=some o:=fun uu uu e=>Heap.get?_push_of_some _ e
  have z:s₃.heap.objs.size≤(s₃.heap.push fo).objs.size:=by rw [Heap.size_push]; exact Nat.le_succ _
  have S₄:Step C [] ρ (ρ++[(s₃.heap.objs.size,s₃.heap.objs.size)]) s₃.heap (s₃.heap.push fo):=⟨z,fun b o e uu uu=>kp b o e,_,rfl,fun q hq=>by cases List.mem_singleton.mp hq; exact ⟨Nat.le_refl _,Nat.le_refl _⟩⟩
  have ob:ObjR C (ρ++[(s₃.heap.objs.size,s₃.heap.objs.size)]) (s₃.heap.push fo) (s₃.heap.objs.size,s₃.heap.objs.size) (.ext k (cl.map fun p=>.loc p.2)):=by
    refine ⟨fo,fo,cl.map fun p=>Value.ref p.1,Heap.get?_push_size _ rfl,Heap.get?_push_size _ rfl,.inl fun vs=>Data.noConfusion,.inl fun vs=>Data.noConfusion,(cells_vr R₃ hc).map (·.go S₄),.inr ?_,fun c' e=>?_⟩
    · rw [hX]
      exact ⟨rfl,rfl,_,c,_,cl.map (·.1),by rw [List.map_map]; rfl,rfl⟩
    · obtain rfl:=Option.some.inj (show some c=some c' from e)
      (refine x3_2 (ca) fun ob vs v h1 h2=>?_; clear ca)
      exact ⟨ob,vs,v,kp _ _ h1,h2⟩
  refine x0_2 (R₃.alloc (s':={ s₃ with heap:=s₃.heap.push fo }) kp z R₃.gens rfl rfl (p:=(s₃.heap.objs.size,s₃.heap.objs.size)) (Nat.le_refl _) (Nat.le_refl _) ob rfl) fun R₄ S₄=>?_
  refine kk _ _ _ R₄ (S₃.trans S₄) (.loc (p:=(s₃.heap.objs.size,s₃.heap.objs.size)) ?_)
  rw [← R.len,List.getElem?_append_right (Nat.le_refl _),Nat.sub_self]
  rfl
end
noncomputable def lamCells (σ:St):List AV→Option (List (Addr × Nat))
  | []=>some []
  | x :: r=>x.loc?.bind fun i=>(celAt σ i).bind fun g=>(lamCells σ r).map ((g.1,i) :: ·)
noncomputable def AO.ext? (k:Nat):AO→Option (List AV)
  | .ext k' cs=>gd (k' == k) cs
  | .list _=>none
  | .fmt ..=>none
  | .acc ..=>none
  | .ghost=>none
  | .gen ..=>none
  | .out _=>none
  | .cell ..=>none
noncomputable def runLam (k n:Nat) (vars:List Str) (B:List (Addr × Nat)→EM):FM:=fun xs σ=>match xs with
  | []=>none
  | f :: ys=>f.loc?.bind fun l=>(σ[l]?.bind (AO.ext? k)).bind fun cs=>(lamCells σ cs).bind fun cl=>if ys.length=n then B cl (lc0 vars ys) σ else none
noncomputable def FunV (h:Heap) (f:Value):Prop:=∃ a o fd,f=.ref a∧h.get? a=some o∧o.data=.func fd
structure BLam (C:Cfg) (d:Nat) (F:FM):Prop where
  run:∀ xs σ x σ',F xs σ=some (x,σ')→∀ (A:Around) (Q:Value→Shared→Prop) (E:Value→Shared→Prop) (s:Shared) (ρ:Rho) (f:Value) (vs:List Value),AOk C d A→Rel C ρ σ s→VRs C ρ s.heap xs (f :: vs) →
    FunV s.heap f∧((∀ v s' ρ',Rel C ρ' σ' s'→Step C [] ρ ρ' s.heap s'.heap→VR C ρ' s'.heap x v→Q v s')→wpAny (model C.prog C.w) A (call f vs) Q E s)
noncomputable def callAttrE (k:Nat) (g:EM) (fs:List EM) (F:FM):EM:=fun lc σ=>(g lc σ).bind fun r=>r.1.loc?.bind fun l=>(attsAt r.2 l).bind fun cs=>cs[k]?.bind fun x=>(evs fs lc r.2).bind fun q=>F (x :: q.1) q.2
section
variable {C:Cfg} {ρ:Rho} {σ:St} {s:Shared} {A:Around} {E:Value→Shared→Prop} {env:Env} {vars:List Str} {lc:Lc} {d:Nat} {p:Pos}
theorem getMethod_own {x Cl:Addr} {ox:Obj} {od:Option Obj} {name:Str} {ga:String} {pl:Sem Bool} {Q:Value × List Value→Shared→Prop} (X:C.K.In s.heap) (I:W.InstAt s.heap x ox Cl od)
    (hga:findIn C.K (.ref Cl) "__getattribute__" = some (some (.builtin ga))) (hcan:(Manifest.canonical ga != "object.__getattribute__")=false) (hgt:findIn C.K (.ref Cl) "__getattr__" = some none)
    (hf:findIn C.K (.ref Cl) name=some none) (k:wpAny (model C.prog C.w) A (getAttr (.ref x) name) (fun v s=>Q (v,[]) s) E s):wpAny (model C.prog C.w) A (getMethod (.ref x) name pl) Q E s:=by
  unfold getMethod
  have sp:∀ {nm:Str} {r:Option Value},findIn C.K (.ref Cl) nm=some r→Looks (model C.prog C.w) s.heap (specialOf (.ref x) nm) r:=fun e=>I.type.andThen (looks_findIn X e)
  refine wpAny_bind ((sp hga).here ?_)
  dsimp only
  rw [hcan,if_neg Bool.false_ne_true]
  refine wpAny_bind ((sp hgt).here ?_)
  rw [if_neg (by simp)]
  refine wpAny_bind ((sp hf).here ?_)
  exact wpAny_bind (wpAny_mono k (fun v s h=>wpAny_pure h) fun uu uu h=>h)
theorem fun_keeps {h:Heap} {f:Value} (F:FunV h f):∃ k,(k=Keeper.frame∨k=Keeper.machine∨k=Keeper.boundFrame)∧Looks (model C.prog C.w) h (keeperOf f) k:=by
  obtain ⟨a,⟨c,dd,da,sl⟩,fd,rfl,ho,hd⟩:=F
  dsimp only at hd
  subst hd
  refine ⟨.frame,.inl rfl,?_⟩
  unfold keeperOf
  exact (Looks.ld (part:=none) ho).andThen .now
theorem den_callAttr (H:CfgOk C) (HC:ClsOk C) (HX:XOk C) {k:Nat} {n:Str} {F:FM} {o:Expr} {g:EM} {es:List Expr} {fs:List EM} {apos:Pos} (hn:attr8[k]?=some n) (DF:BLam C d F) (D0:DenE C d env vars o g) (D:DenEs C d env vars es fs)
    (hb:∀ nm whole,attributeBase o nm env whole=whole) (hl:es.length < 30) (hp:(apos.endLine == p.line)=true):DenE C d env vars (.Call (.Attribute o n apos) es [] p) (callAttrE k g fs F):=by
  intro lc σ y σ' hf A Q E s ρ hA R lr kk
  refine oB hf fun r e1 hf=>oB hf fun l el hf=>oB hf fun cs hcs hf=>oB hf fun x hx hf=>oB hf fun xs e2 hf=>?_
  rw [arm_eval_Call,hb]
  refine wpAny_bind (D0 _ _ _ _ e1 A _ E s ρ hA R lr fun v s₁ ρ₁ R₁ S₁ q₁=>wpAny_bind (wpAny_standAt ?_))
  have hform:methodCallForm (es.length + 0) (backTo p (starEach es env)) (backToKw p (keywordEach [] env))=true:=by
    have n:=noStar (p:=p) D
    unfold methodCallForm
    have a1:(backTo p (starEach es env)).all (!·.1)=true:=by
      rw [List.all_eq_true]
      intro x hx
      have:=List.any_eq_false.mp n x hx
      simpa using this
    rw [a1]
    show (true && true && decide (es.length + 0 + 0 < 30))=true
    simp [hl]
  show wpAny _ _ (methodCall o n apos p env v (es.length + 0) (backTo p (starEach es env)) (backToKw p (keywordEach [] env))) _ _ _
  unfold methodCall
  rw [hform]
  refine wpAny_bind (wpAny_holding ?_)
  show wpAny _ _ (getMethod v n _) _ _ _
  have q₁:VR C ρ₁ s₁.heap (.loc l) v:=AV.loc_inv el▸q₁
  refine R₁.atts_e HX hcs q₁ fun a dd es' m e0 ho hd he hl8=>?_
  have ge:=entR_get (name:=n) he
  rw [attr_lookup hn hx] at ge
  have hk8:k < 8:=(List.getElem?_eq_some_iff.mp hn).1
  refine x1_2 ge fun fv hw qw=>getMethod_own (R₁.kin H) (fmtInst ho hd) HC.vfGa (by decide +kernel) HC.vfGt (HX.att k hk8 n hn) (getAttr_val (R₁.kin H) (fmtInst ho hd) HC.vfGa (findObj_own HC.vfDict (HX.att k hk8 n hn) rfl hw) (vr_handed qw) ?_)
  dsimp only
  have hpos:methodCallPos true o env apos p=pure p:=by
    unfold methodCallPos
    rw [hp]; rfl
  rw [hpos]
  refine wpAny_bind (wpAny_pure ?_)
  refine callWith_of (P:=fun h=>FunV h fv) (by rw [noStar D]; rfl) (fun h=>fun_keeps) (args_rel D e2 hA R₁.toks (lr.go S₁) fun vs s₂ ρ₂ R₂ S₂ q₂=>?_)
  have z:=DF.run _ _ _ _ hf A Q E s₂ ρ₂ fv vs hA R₂ (.cons (qw.go S₂) q₂)
  exact ⟨z.1,z.2 fun v' s₃ ρ₃ R₃ S₃ q₃=>kk v' s₃ ρ₃ R₃ ((S₁.trans S₂).trans S₃) q₃⟩
theorem den_free (He:EnvOk env vars) {n:Str} {c:Addr} {l:Nat} (hk:env.kindOf n=some .free) (hc:env.cells.lookup n=some c) (hd:(n == ("__debug__" : Str))=false) (hcd:(n == ("__classdict__" : Str))=false):DenE C d env vars (.Name n p) (cellE c l):=by
  intro lc σ x σ' hf A Q E s ρ hA R lr kk
  refine oB hf fun g hl hf=>oB hf fun y ey hf=>oG hf fun ec e=>?_
  have hl:=celAt_inv hl
  rw [ey,(beq_iff_eq.mp ec:g.1=c)] at hl
  exact x1_2 (R.obj hl) fun p' e1 ob=>x0_2 ob fun uu z=>x1_2 z fun v ho q=>wpAny_Name (wpAny_loadName_free He.kind hk hc ho (kfe kk e _ s ρ R .refl q) hcd) hd
end
section
variable {prog:Program} {w:World} {A:Around} {R:Result→Shared→Prop} {s:Shared}
theorem callLam {a:Addr} {args:Args} {o:Obj} {fd:FuncData} {body:Expr} (hroom:A.depth < recursionLimit) (ho:s.heap.get? a=some o) (hd':o.data=.func fd) (hco:fd.scope.isCoroutine=false) (hgen:fd.scope.isGenerator=false) (hbody:fd.body=.expr body)
    {c:Addr} {oc:Obj} {vs:Array Value} {v:Value} (hc:fd.code=.ref c) (hoc:s.heap.get? c=some oc) (hdc:oc.data=.fields vs) (hv:vs[1]?=some v)
    (h:∀ q:Str,wpAny (model prog w) A.in1 (bindArgs fd args) (fun binds s₁ =>
      wpAny (model prog w) A.in1 (newFunctionEnv fd.scope fd.globals fd.closure binds (q ++ ".<locals>.") (some a) fd.code none fd.builtins)
        (fun env s₂=>s₂.heap.NoLimit∧codeAny (model prog w) A (.expr body env) R s₂) (fun e s'=>R (.error e) s') s₁) (fun e s'=>R (.error e) s') s) :
    codeAny (model prog w) A (.call (.ref a) args) R s:=by
  refine codeAny_of_tree ?_
  show wpAny _ A.in1 (callAny (.ref a) args) _ _ s
  simp only [callAny]
  refine wpAny_bind (wpAny_load ho ?_)
  rw [hc] at h
  simp only [hd',callFunction,hco,hgen,hbody,hc]
  refine wpAny_bind (m:=field (.ref c) 1) (wpAny_field hoc hdc hv ?_)
  have fin:∀ q:Str,wpAny (model prog w) A.in1 (do
      let env ← newFunctionEnv fd.scope fd.globals fd.closure (← bindArgs fd args) (q ++ ".<locals>.") (some a) (.ref c) none fd.builtins
      enterFrame
      again (.expr body env)) (fun r s'=>match r with
        | .done f=>R (.ok f) s'
        | .again c'=>c'.quiet=true∧codeAny (model prog w) A c' R s') (fun e s'=>R (.error e) s') s:=fun q =>
    wpAny_bind (wpAny_mono (h q) (fun binds s₁ h₁=>wpAny_bind (wpAny_mono h₁ (fun env s₂ h₂=>wpAny_bind (wpAny_enterFrame h₂.1 hroom (wpAny_pure (And.intro rfl h₂.2)))) fun uu uu h'=>h')) fun uu uu h'=>h')
  cases v with
  | str q t=>exact wpAny_bind (wpAny_pure (fin q))
  | _=>exact wpAny_bind (wpAny_pure (fin fd.qualname))
end
theorem ext_inv {σ:St} {l k:Nat} {cs:List AV} (h:σ[l]?.bind (AO.ext? k)=some cs):σ[l]?=some (.ext k cs):=oB h fun o e h=>by
  cases o with
  | ext k' cs'=>exact oG h fun a b=>by rw [e,beq_iff_eq.mp a,b]
  | _=>exact nomatch h
theorem lamCells_vr {C:Cfg} {ρ:Rho} {σ:St} {s:Shared} (R:Rel C ρ σ s):∀ {cs:List AV} {cl:List (Addr × Nat)} {addrs:List Addr},lamCells σ cs=some cl→VRs C ρ s.heap cs (addrs.map Value.ref)→addrs=cl.map (·.1)
  | [],cl,addrs,h,q=>by
    cases Option.some.inj h
    cases addrs with
    | nil=>rfl
    | cons a r=>cases q
  | x :: cs,cl,addrs,h,q=>oB h fun i ei h=>oB h fun g hg h=>oM h fun cl' h' e=>by
    cases addrs with
    | nil=>cases q
    | cons a r =>
      cases q with
      | cons q1 q2 =>
        subst e
        have ih:=lamCells_vr R h' q2
        rw [AV.loc_inv ei] at q1
        have:Value.ref a=Value.ref g.1:=by
          (refine x1_2 (VR.loc_inv q1) fun p e1 e2=>?_)
          refine x1_2 (R.obj (celAt_inv hg)) fun p' e3 ob=>x0_2 ob fun ep uu=>?_
          rw [e1] at e3
          rw [e2,Option.some.inj e3,ep]
        rw [ih,Value.ref.inj this]
        rfl
noncomputable def scopeLam (scope:Scope) (vars:List Str) (n:Nat):Bool :=
  !scope.isCoroutine && !scope.isGenerator && (scope.kind == .function) && scope.names.all (fun x=>!(x.2 == .cell)) && vars.all (fun x=>scope.names.lookup x == some .local) && vars.all (fun y=>!(y == ("__debug__" : Str))) && decide vars.Nodup && decide (n≤vars.length)
section
variable {C:Cfg} {d:Nat}
set_option tactic.hygienic true
theorem b_lamF (H:CfgOk C) {S:LamS} {k n:Nat} {vars:List Str} {B:List (Addr × Nat)→EM} (hX:C.X k=LamX S) (hk:k≠0) (hs:scopeLam S.scope vars n=true)
    (hbind:∀ cl pm cdv ctv (vs:List Value),vs.length=n→bindArgs (kla_fn "<lambda>" S.qual S.params S.body S.scope cl pm cdv ctv) ⟨vs,[]⟩=(pure ((vars.take n).zip vs):Sem (List (Str × Value))))
    (D:∀ env cl,env.scope=S.scope→env.cells=S.names.zip (cl.map (·.1))→EnvB env vars→BE C d env vars S.body (B cl)):BLam C (d + 1) (runLam k n vars B):=by
  unfold scopeLam at hs
  simp only [Bool.and_eq_true,Bool.not_eq_true',List.all_eq_true,beq_iff_eq,decide_eq_true_eq] at hs
  obtain ⟨⟨⟨⟨⟨⟨⟨h1,h2⟩,h3⟩,h4⟩,h5⟩,h6⟩,h7⟩,h8⟩:=hs
  refine ⟨fun xs σ x σ' hf A Q E s ρ f vs hA R q=>?_⟩
  cases q with
  | cons q0 qs =>
    rename_i x0 ys
    refine oB (show (x0.loc?.bind fun l=>(σ[l]?.bind (AO.ext? k)).bind fun cs=>(lamCells σ cs).bind fun cl=>if ys.length=n then B cl (lc0 vars ys) σ else none)=some (x,σ') from hf) fun l el hf=>oB hf fun cs hcs hf=>oB hf fun cl hcl hf=>sf hf fun hn hf=>?_
    rw [AV.loc_inv el] at q0
    (refine x1_2 (VR.loc_inv q0) fun p e0 rr2=>?_; subst rr2)
    (refine x3_7 (R.st l p _ e0 (ext_inv hcs)) fun o1 o2 us g1 uu uu uu qus hx ck=>?_)
    rcases hx with hx | hx
    · exact absurd hx hk
    rw [hX] at hx
    obtain ⟨_,_,pm,c,ctv,addrs,rfl,rfl⟩:=hx
    have hv:=qs.length.trans hn
    obtain rfl:=lamCells_vr R hcl qus
    refine ⟨⟨p.1,_,_,rfl,g1,rfl⟩,fun kk=>?_⟩
    (refine x3_4 (ck c rfl) fun ob ws v c1 c2 c3 c4=>?_)
    refine wpAny_call (callLam (Nat.lt_of_le_of_lt (Nat.le_add_right ..) hA.2.1) g1 rfl h1 h2 rfl rfl c1 c3 c4 fun q=>?_)
    rw [hbind _ _ _ _ vs hv]
    refine wpAny_pure (wpAny_newFunctionEnv (fun x hx e=>by have:=h4 x hx; rw [e] at this; cases this) (fun y hy=>h5 _ (List.mem_of_mem_take (List.of_mem_zip hy).1)) (fun h₁ hns hsb=>?_) h3)
    have k₁:∀ b o,s.heap.get? b=some o→h₁.get? b=some o:=fun b o e=>(hsb.2 b (Nat.ne_of_lt (Heap.lt_size e))).trans (Heap.get?_push_of_some _ e)
    have z₁:h₁.objs.size=s.heap.objs.size + 1:=hsb.1.trans (Heap.size_push ..)
    have hle:s.heap.objs.size≤h₁.objs.size:=z₁▸Nat.le_succ _
    refine ⟨x1_2 H.lim fun mc a b=>⟨mc,a.at fun o e=>k₁ _ _ (R.old _ _ e H.stat),b⟩,?_⟩
    refine kla_codeExpr ?_
    have hz:ys.length≤vars.length:=hn▸h8
    rw [← hn] at hns
    refine (D _ cl ?e1 ?e2 ?e3).run _ _ _ _ hf _ _ _ _ ρ hA.deeper (R.same k₁ hle R.gens rfl rfl)
      ⟨⟨_,hns,args_at h7 hz qs (·.go (.same k₁ hle))⟩,R.fresh,R.size,by unfold lc0; rw [List.length_append,List.length_map,List.length_replicate]; exact Nat.add_sub_cancel' hz⟩ fun v' s' ρ' R' S' q'=>?_
    case e1=>rfl
    case e2=>rfl
    case e3=>exact ⟨⟨h3,h5,h7,rfl,rfl⟩,h6,by unfold interactive; rw [show Scope.kind (Env.scope _)=.function from h3]; rfl⟩
    refine kk v' s' ρ' R' ⟨Nat.le_trans hle S'.size,fun b o e nm w=>S'.keep b o (k₁ b o e) nm w,x1_2 S'.grow fun δ e hδ=>⟨δ,e,fun p hp=>⟨Nat.le_trans hle (hδ p hp).1,Nat.le_trans hle (hδ p hp).2⟩⟩⟩ q'
noncomputable def lamB1 (B:Addr→Nat→EM):List (Addr × Nat)→EM
  | []=>fun _ _=>none
  | [p]=>B p.1 p.2
  | _ :: _ :: _=>fun _ _=>none
set_option tactic.hygienic false
theorem b_lam1 (H:CfgOk C) {S:LamS} {k n:Nat} {vars:List Str} {name:Str} {B:Addr→Nat→EM} (hX:C.X k=LamX S) (hk:k≠0) (hs:scopeLam S.scope vars n=true) (hnm:S.names=[name])
    (hbind:∀ cl pm cdv ctv (vs:List Value),vs.length=n→bindArgs (kla_fn "<lambda>" S.qual S.params S.body S.scope cl pm cdv ctv) ⟨vs,[]⟩=(pure ((vars.take n).zip vs):Sem (List (Str × Value))))
    (D:∀ env c i,env.scope=S.scope→env.cells=[(name,c)]→EnvB env vars→BE C d env vars S.body (B c i)):BLam C (d + 1) (runLam k n vars (lamB1 B)) :=
  b_lamF H hX hk hs hbind fun env cl h1 h2 He=>match cl,h2 with
    | [],_=>⟨fun uu uu uu uu h=>nomatch h⟩
    | [p],h2=>D env p.1 p.2 h1 (by rw [h2,hnm]; rfl) He
    | _ :: _ :: _,_=>⟨fun uu uu uu uu h=>nomatch h⟩
end
section
variable {C:Cfg} {ρ ρ':Rho} {σ σ':St} {s:Shared} {A:Around} {E:Value→Shared→Prop} {env:Env} {vars:List Str} {lc lc':Lc} {d:Nat} {p:Pos}
end
end Mine.Internal
end
section
open PySem PySem.W PyProof.Rows PySem.Calls Builtin Builtin.Str
namespace Mine.Internal
noncomputable def splitTextF:FM:=fun xs σ=>(arg2 xs).bind fun p=>p.1.str?.bind fun x=>p.2.str?.bind fun y=>gd (!(y.length == 0) && decide (x.length≤1000000) && decide ((Txt.split x y).length≤1000000)) (.lst ((Txt.split x y).map AV.str),σ)
section
variable {C:Cfg} {ρ:Rho} {d:Nat}
set_option tactic.hygienic false
theorem strOk_split {x y:Str} (h:PyData.strOk x=true):∀ z∈Txt.split x y,PyData.strOk z=true:=by
  intro z hz
  unfold Txt.split at hz
  split at hz
  · rw [List.mem_singleton.mp hz]; exact h
  · split at hz
    · rw [List.mem_singleton.mp hz]; exact h
    · simp only [partsBetween,List.mem_map] at hz
      obtain ⟨⟨i,j⟩,_,rfl⟩:=hz
      exact strOk_cut h
theorem vrs_strs {h:Heap}:∀ {l:List (Str × Tok)},(∀ z∈l.map (·.1),PyData.strOk z=true)→VRs C ρ h (l.map fun p=>AV.str p.1) (strValues l)
  | [],_=>.nil
  | (x,t) :: l,h=>.cons (.str x t (h x List.mem_cons_self)) (vrs_strs fun z hz=>h z (List.mem_cons_of_mem _ hz))
theorem den_splitText:DenCall C d (.builtin "str.split") splitTextF:=by
  intro xs σ x σ' hf A Q E s ρ vs hA R q k
  refine oB hf fun p e0 hf=>oB hf fun x ex hf=>oB hf fun y ey hf=>oG hf fun hz e=>?_
  have k:=kfe k e
  simp only [Bool.and_eq_true,Bool.not_eq_true',decide_eq_true_eq] at hz
  obtain ⟨⟨hy,hx⟩,hn⟩:=hz
  revert k
  refine q.arg2_e e0 fun v w q1 q2 k=>q1.str_of ex fun t ok=>q2.str_of ey fun u ok'=>?_
  have fin:∀ (l:List (Str × Tok)) (tk:Nat),l.map (·.1)=Txt.split x y→Q (.ref s.heap.objs.size) { s with heap:=s.heap.push (lstObj (strValues l) 0),toks:=tk }:=fun l tk hl=>by
    refine k _ _ ρ (R.push _ (n:=tk)) (.pushObj _) ?_
    have:=vrs_strs (C:=C) (ρ:=ρ) (h:=s.heap.push (lstObj (strValues l) 0)) (l:=l) (by rw [hl]; exact strOk_split ok)
    rw [show (l.map fun p=>AV.str p.1)=(Txt.split x y).map AV.str by rw [← hl,List.map_map]; rfl] at this
    exact .lst (Heap.get?_push_size _ rfl) R.fresh this
  cases h1:(decide (x.length < y.length) || decide (strKind x < strKind y))
  · cases hf:(occurrences x y 0 x.length (x.length + 1)).isEmpty
    · have e:Txt.split x y=partsBetween x (occurrences x y 0 x.length (x.length + 1)) y.length:=(if_neg (ne_true_of_eq_false h1)).trans (if_neg (ne_true_of_eq_false hf))
      refine call_meets F.slot_str_split (typeIs_str _ _ _) F.entry_str_split (F.args_str_split_2 _ _) (meets_str_split_sep x y t u h1 hy hf (by rw [sizeLine_eq]; (first | lia | omega)) (by rw [← e,sizeLine_eq]; (first | lia | omega))) ?_
      show wants Q E _ { s with toks:=_,heap:=s.heap.push { cls:=.type "list",data:=.seq (strsFrom s.toks (partsBetween x (occurrences x y 0 x.length (x.length + 1)) y.length)).toArray } }
      rw [strsFrom_eq]
      exact fin _ _ ((numbered_texts _ _).trans e.symm)
    · exact call_meets F.slot_str_split (typeIs_str _ _ _) F.entry_str_split (F.args_str_split_2 _ _) (meets_str_split_not_found x y t u h1 hy hf)
        (fin [(x,t)] s.toks ((if_neg (ne_true_of_eq_false h1)).trans (if_pos hf)).symm)
  · exact call_meets F.slot_str_split (typeIs_str _ _ _) F.entry_str_split (F.args_str_split_2 _ _) (meets_str_split_cannot_occur x y t u h1) (fin [(x,t)] s.toks (if_pos h1).symm)
end
section
variable {C:Cfg} {d:Nat} {env:Env} {vars:List Str} {p p':Pos}
set_option tactic.hygienic false
theorem b_splitText:BC C d (.builtin "str.split") splitTextF:=⟨den_splitText⟩
theorem m_splitText:BM C 1 "split" (.builtin "str.split"):=⟨getM_str PySem.F.slot_str_split PySem.F.type_str_split⟩
theorem b_attrX (H:CfgOk C) (HC:ClsOk C) (HX:XOk C) {o:Expr} {n:Str} {f:EM} {k:Nat} (hn:attr8[k]?=some n) (D:BE C d env vars o f) (hb:∀ nm whole,attributeBase o nm env whole=whole):BE C d env vars (.Attribute o n p) (attrXE k f):=⟨den_attrX H HC HX hn D.run hb⟩
theorem b_setX (H:CfgOk C) (HX:XOk C) (HS:StoreOk C C.VF) {o e:Expr} {n:Str} {g f:EM} {k:Nat} (hn:attr8[k]?=some n) (hk:6≤k) (ht:takerIn C.K C.VF n=some none) (D0:BE C d env vars o g) (D:BE C d env vars e f) (hs:swapsWith e (some (.Attribute o n p')) p.line env=pure false) :
    BS C d env vars (.Assign [.Attribute o n p'] e p) (setXS k g f):=⟨den_setX H HX HS hn hk ht D0.run D.run hs⟩
theorem b_lam (H:CfgOk C) (HG:GenOk C) (He:EnvB env vars) {t:Addr × Addr × Array Value} (ht:t∈C.tabs) (hcode:env.code=.ref t.1) {k:Nat} {S:LamS} (hX:C.X k=LamX S) {cl:List (Addr × Nat)} {pos:Pos} {params:Arguments} {body:Expr} {scope:Scope} (h1:S.params=params) (h2:S.body=body) (h3:S.scope=scope) (hq:env.qual ++ "<lambda>" = S.qual) (hdef:defaultsOf S.params env=([],[]))
    (hcl:closureFor S.scope env=pure (S.names.zip (cl.map (·.1)))) (hne:(S.names.zip (cl.map (·.1))).isEmpty=false):BE C d env vars (.Lambda params body scope pos) (lamE k cl):=by
  subst h1 h2 h3
  exact ⟨den_lam H HG He.ok ht hcode hX hq hdef hcl hne⟩
theorem b_callAttr (H:CfgOk C) (HC:ClsOk C) (HX:XOk C) {k:Nat} {n:Str} {F:FM} {o:Expr} {g:EM} {es:List Expr} {fs:List EM} {apos:Pos} (hn:attr8[k]?=some n) (DF:BLam C d F) (D0:BE C d env vars o g) (D:BEs C d env vars es fs)
    (hb:∀ nm whole,attributeBase o nm env whole=whole) (hl:es.length < 30) (hp:(apos.endLine == p.line)=true):BE C d env vars (.Call (.Attribute o n apos) es [] p) (callAttrE k g fs F):=⟨den_callAttr H HC HX hn DF D0.run D.run hb hl hp⟩
theorem BLam.up {d':Nat} {F:FM} (D:BLam C d' F) (h:d'≤d):BLam C d F:=⟨fun xs σ x σ' hf A Q E s ρ f vs hA R q=>D.run xs σ x σ' hf A Q E s ρ f vs (hA.mono h) R q⟩
theorem b_free (He:EnvB env vars) {n:Str} {c:Addr} {l:Nat} (hk:env.kindOf n=some .free) (hc:env.cells.lookup n=some c) (hd:(n == ("__debug__" : Str))=false) (hcd:(n == ("__classdict__" : Str))=false):BE C d env vars (.Name n p) (cellE c l):=⟨den_free He.ok hk hc hd hcd⟩
noncomputable def ifNotS (t:TM) (g:SM):SM:=fun lc σ=>(t lc σ).bind fun p=>if p.1 then none else g lc p.2
theorem b_ifNot {c:Expr} {t:TM} {b1 b2:List Stmt} {g:SM} (D0:BT C d env vars c t) (D2:BB C d env vars b2 g):BS C d env vars (.If c b1 b2 p) (ifNotS t g):=by
  refine ⟨fun lc σ fl lc' σ' hf A Q E s ρ hA R lr kk=>?_⟩
  refine oB hf fun y e1 hf=>?_
  rcases y with ⟨⟨⟩,σ₁⟩
  · exact wpAny_If (D0.run _ _ _ _ e1 A _ E s ρ hA R lr fun s₁ ρ₁ R₁ S₁=>D2.run _ _ _ _ _ hf A _ E s₁ ρ₁ hA R₁ (lr.go S₁) fun w s₂ ρ₂ R₂ S₂ l₂ q₂=>kk w s₂ ρ₂ R₂ (S₁.of_nil.trans S₂) l₂ q₂)
  · exact nomatch hf
end
end Mine.Internal
end
section
open PySem PySem.W PyProof.Rows PySem.Calls
namespace Mine.Internal
noncomputable def whileN (t:TM) (B O:SM):Nat→SM
  | 0=>fun _ _=>none
  | n + 1=>fun lc σ=>(t lc σ).bind fun p=>if p.1 then (B lc p.2).bind fun r=>match r.1 with
    | .next=>whileN t B O n r.2.1 r.2.2
    | .cont=>whileN t B O n r.2.1 r.2.2
    | .brk=>some (.next,r.2)
    | .ret v=>some (.ret v,r.2) else O lc p.2
noncomputable def whileS (t:TM) (B O:SM):SM:=whileN t B O 1000000
section
variable {C:Cfg} {d:Nat} {env:Env} {vars:List Str} {p:Pos}
set_option tactic.hygienic true
theorem den_while {test:Expr} {t:TM} {body orelse:List Stmt} {B O:SM} (DT:DenT C d env vars test t) (DB:DenB C d env vars body B) (DO:DenB C d env vars orelse O):DenS C d env vars (.While test body orelse p) (whileS t B O):=by
  intro lc σ fl lc' σ' hf A Q E s ρ hA R lr kk
  have go:∀ (n:Nat) (lc:Lc) (σ:St) (s₁:Shared) (ρ₁:Rho),whileN t B O n lc σ=some (fl,lc',σ')→Rel C ρ₁ σ s₁→LcR C ρ₁ s₁.heap env.locals vars lc→Step C [env.locals] ρ ρ₁ s.heap s₁.heap→WhlRest C.prog C.w A (fun uu uu=>False) env test body orelse Q n s₁:=by
    intro n
    induction n with
    | zero=>intro lc σ s₁ ρ₁ h; exact nomatch h
    | succ n ih =>
      intro lc σ s₁ ρ₁ h R₁ l₁ S₁
      refine oB h fun b e1 h=>?_
      refine whl_turn ?_ (DT lc σ b.1 b.2 e1 A _ _ s₁ ρ₁ hA R₁ l₁ fun s₂ ρ₂ R₂ S₂=>?_)
      · exact PassesOwn.never
      · have l₂:=l₁.go S₂
        have S₁₂:=S₁.trans S₂.of_nil
        rcases b with ⟨⟨⟩,σ₁⟩
        · exact WhlIf.no rfl (DO lc σ₁ fl lc' σ' h A _ _ s₂ ρ₂ hA R₂ l₂ fun w s₃ ρ₃ R₃ S₃ l₃ q₃=>kk w s₃ ρ₃ R₃ (S₁₂.trans S₃) l₃ q₃)
        · refine WhlIf.yes rfl (oB (show (B lc σ₁).bind _=some (fl,lc',σ') from h) fun r e2 h=>DB lc σ₁ r.1 r.2.1 r.2.2 e2 A _ _ s₂ ρ₂ hA R₂ l₂ fun w s₃ ρ₃ R₃ S₃ l₃ q₃=>?_)
          rcases r with ⟨f1,lc1,σ1⟩
          have S:=S₁₂.trans S₃
          cases q₃ with
          | next=>exact ih lc1 σ1 s₃ ρ₃ h R₃ l₃ S
          | cont=>exact ih lc1 σ1 s₃ ρ₃ h R₃ l₃ S
          | brk =>
            have h:some (Fl.next,lc1,σ1)=some (fl,lc',σ'):=h
            exact kfS kk h _ s₃ ρ₃ R₃ S l₃ .next
          | ret q =>
            have h:some (Fl.ret _,lc1,σ1)=some (fl,lc',σ'):=h
            exact kfS kk h _ s₃ ρ₃ R₃ S l₃ (.ret q)
  exact wpAny_mono (whl_start 1000000 (go 1000000 lc σ s ρ hf R lr .refl)) (fun uu uu h=>h) fun uu uu h=>h.elim
set_option tactic.hygienic false
theorem b_while {test:Expr} {t:TM} {body orelse:List Stmt} {B O:SM} (DT:BT C d env vars test t) (DB:BB C d env vars body B) (DO:BB C d env vars orelse O):BS C d env vars (.While test body orelse p) (whileS t B O):=⟨den_while DT.run DB.run DO.run⟩
end
noncomputable def CellX (p:Addr × Addr) (vs:List Value) (o1 o2:Obj):Prop:=p.2=p.1∧o2=o1∧∃ v,vs=[v]∧o1.data=.cell (some v)
section
variable {C:Cfg} {ρ:Rho} {σ:St} {s:Shared}
set_option tactic.hygienic false
theorem Rel.turn (R:Rel C ρ σ s) {l:Nat} {o o':AO} (e0:σ[l]?=some o) (h:∀ p,ObjR C ρ s.heap p o→ObjR C ρ s.heap p o') (g:o'.isGen=false):Rel C ρ (σ.set l o') s:=by
  refine ⟨R.old,R.tab,R.lo,R.dis,by rw [List.length_set]; exact R.len,fun l' p q e e'=>?_,R.gens.set g,R.drawn,R.os,R.size⟩
  by_cases hl:l=l'
  · subst hl
    rw [List.getElem?_set,if_pos rfl] at e'
    refine sf e' fun uu e'=>?_
    exact Option.some.inj e'▸h p (R.st l p _ e e0)
  · rw [List.getElem?_set_ne hl] at e'
    exact R.st l' p q e e'
theorem Rel.seal5 (hX:C.X 5=CellX) (R:Rel C ρ σ s) {l:Nat} {c:Addr} {x:AV} (e0:σ[l]?=some (.cell c (some x))):Rel C ρ (σ.set l (.ext 5 [x])) s :=
  R.turn e0 (fun p q=>by
    obtain ⟨ep,v,⟨o,ho,hd⟩,hv⟩:=q
    have nf:NoF o:=.inl fun vs z=>Data.noConfusion (hd.symm.trans z)
    rw [ep]
    exact ⟨o,o,[v],ho,ho,nf,nf,.cons hv .nil,.inr (by rw [hX]; exact ⟨rfl,rfl,v,rfl,hd⟩),fun c e=>by unfold codeRef at e; rw [hd] at e; cases e⟩) rfl
theorem Rel.unseal5 (hX:C.X 5=CellX) (R:Rel C ρ σ s) {l:Nat} {x:AV} (e0:σ[l]?=some (.ext 5 [x])):∃ c,Rel C ρ (σ.set l (.cell c (some x))) s:=by
  have hl:l < ρ.length:=R.len▸(List.getElem?_eq_some_iff.mp e0).1
  refine ⟨ρ[l].1,?_⟩
  refine ⟨R.old,R.tab,R.lo,R.dis,by rw [List.length_set]; exact R.len,fun l' p q e e'=>?_,R.gens.set rfl,R.drawn,R.os,R.size⟩
  by_cases hh:l=l'
  · subst hh
    rw [List.getElem?_set,if_pos rfl] at e'
    refine sf e' fun uu e'=>?_
    obtain rfl:=Option.some.inj e'
    rw [List.getElem?_eq_getElem hl] at e
    obtain rfl:=Option.some.inj e
    (refine x3_7 (R.st l _ _ (List.getElem?_eq_getElem hl) e0) fun o1 o2 us h1 h2 uu uu qs hx uu=>?_)
    rcases hx with hx | hx
    · cases hx
    rw [hX] at hx
    obtain ⟨hp,_,v,rfl,hd⟩:=hx
    refine ⟨Prod.ext rfl hp,v,⟨o1,h1,hd⟩,?_⟩
    exact qs.one_e (P:=fun us=>∀ v',us=[v']→VR C ρ s.heap x v') (fun w q v' e=>(List.cons.inj e).1▸q) v rfl
  · rw [List.getElem?_set_ne hh] at e'
    exact R.st l' p q e e'
end
noncomputable def runLam5 (k:Nat) (G:FM):FM:=fun xs σ=>match xs with
  | []=>none
  | f :: ys=>f.loc?.bind fun l=>(σ[l]?.bind (AO.ext? k)).bind fun cs=>(arg1 cs).bind fun a=>a.loc?.bind fun i=>(σ[i]?.bind (AO.ext? 5)).bind fun q=>(arg1 q).bind fun x =>
    pickA fun c=>(G (f :: ys) (σ.set i (.cell c (some x)))).bind fun p=>(celAt p.2 i).bind fun g=>g.2.map fun x'=>(p.1,p.2.set i (.ext 5 [x']))
set_option tactic.hygienic true
theorem b_lam5 {C:Cfg} {d k:Nat} {G:FM} (hX:C.X 5=CellX) (D:BLam C d G):BLam C d (runLam5 k G):=by
  refine ⟨fun xs σ x σ' hf A Q E s ρ f vs hA R q=>?_⟩
  cases q with
  | cons q0 qs =>
    rename_i x0 ys
    refine oB (show (x0.loc?.bind fun l=>_)=some (x,σ') from hf) fun l el hf=>oB hf fun cs hcs hf=>oB hf fun a ha hf=>oB hf fun i hi hf=>oB hf fun q5 h5 hf=>oB hf fun y hy hf=>?_
    have e5:σ[i]?=some (.ext 5 [y]):=by rw [ext_inv h5,arg1_inv hy]
    (refine x1_1 (R.unseal5 hX e5) fun c Rc=>?_)
    refine oB (pickA_some hf c) fun p e1 e2=>oB e2 fun g hg e3=>oM e3 fun x' hx' e4=>?_
    cases e4
    have z:=D.run _ _ _ _ e1 A Q E s ρ f vs hA Rc (.cons q0 qs)
    refine ⟨z.1,fun kk=>z.2 fun v s' ρ' R' S' q'=>kk v s' ρ' ?_ S' q'⟩
    have eg:=celAt_inv hg
    rw [hx'] at eg
    exact R'.seal5 hX eg
noncomputable def seal5N:Nat→Nat→St→Option St
  | 0,_,σ=>some σ
  | n + 1,k,σ=>(celAt σ k).bind fun g=>g.2.bind fun x=>seal5N n (k + 1) (σ.set k (.ext 5 [x]))
set_option tactic.hygienic false
theorem Rel.seal5N {C:Cfg} {ρ:Rho} {s:Shared} (hX:C.X 5=CellX):∀ {n k:Nat} {σ τ:St},Rel C ρ σ s→Mine.Internal.seal5N n k σ=some τ→Rel C ρ τ s
  | 0,_,_,_,R,h=>Option.some.inj h▸R
  | n + 1,k,σ,τ,R,h=>oB h fun g hg h=>oB h fun x hx h=>Rel.seal5N hX (R.seal5 hX (by rw [celAt_inv hg,hx])) h
noncomputable def runC5 (n:Nat) (pl pc:List (Option Nat)) (B:Nat→Nat→SM):FM:=runCF (Mine.Internal.seal5N pc.length) n pl pc B
theorem b_fnC5 {C:Cfg} {d:Nat} {f:Addr} {ps vars cv:List Str} {pl pc:List (Option Nat)} (hX:C.X 5=CellX) (H:CfgOk C) (F:FnCP C f ps vars cv pl pc) (nd:vars.all (fun y=>!(y == ("__debug__" : Str)))=true) {B:Addr→Nat→SM} (D:∀ L g,EnvB (envC C f L) vars→BB C d (envC C f L) vars (bodyAt C.K f) (B L g)):BF C (d + 1) f (runC5 ps.length pl pc B) :=
  b_fnCPF (fun uu uu uu uu uu R h=>R.seal5N hX h) H F nd D
noncomputable def minF:FM:=fun xs σ=>(arg2 xs).bind fun p=>p.1.int?.bind fun a=>p.2.int?.map fun b=>(.int (if b < a then b else a),σ)
theorem den_min {C:Cfg} {d:Nat}:DenCall C d (.builtin "min") minF:=by
  intro xs σ x σ' hf A Q E s ρ vs hA R q k
  refine oB hf fun p e0 hf=>oB hf fun a ea hf=>oM hf fun b eb e=>?_
  have k:=kfe k e
  revert k
  refine q.arg2_e e0 fun v w q1 q2 k=>q1.int_of ea fun t=>q2.int_of eb fun u=>?_
  refine with_size (min_two_ints hA.1 fun h' tk kp=>fun z=>?_)
  have R':Rel C ρ σ { s with heap:=h',toks:=tk }:=R.same kp z R.gens rfl rfl
  by_cases c:b < a
  · rw [if_pos c] at k ⊢
    exact k _ _ ρ R' (.same kp z) (.int _ _)
  · rw [if_neg c] at k ⊢
    exact k _ _ ρ R' (.same kp z) (.int _ _)
theorem b_min {C:Cfg} {d:Nat}:BC C d (.builtin "min") minF:=⟨den_min⟩
section
variable {σ:St} {n l:Nat} {x y:Str} {i j:Int} {b:Bool} {xs:List AV} {v:AV}
theorem toPD_none:toPD σ n .none=some .none:=by cases n <;> rfl
theorem toPD_bool:toPD σ n (.bool b)=some (.bool b):=by cases n <;> rfl
theorem toPD_int:toPD σ n (.int i)=some (.int i):=by cases n <;> rfl
theorem toPD_str:toPD σ n (.str x)=some (.str x):=by cases n <;> rfl
theorem toPD_tup:toPD σ (n + 1) (.tup xs)=(optAll (toPD σ n) xs).map .tuple:=Option.or_none
theorem toPD_lst:toPD σ (n + 1) (.lst xs)=(optAll (toPD σ n) xs).map .list:=rfl
theorem toPD_loc:toPD σ (n + 1) (.loc l)=(lstAt σ l).bind fun xs=>(optAll (toPD σ n) xs).map .list:=rfl
theorem asList_lst:asList σ (.lst xs)=some xs:=rfl
theorem asList_loc:asList σ (.loc l)=lstAt σ l:=rfl
theorem twoI_int {f:Int→Int→Option AV}:twoI (.int i) (.int j) f=f i j:=rfl
theorem twoInts_int {f:Int→Int→Bool}:twoInts (.int i) (.int j) f=some (f i j):=rfl
theorem aadd_str:aadd σ (.str x) (.str y)=gd (decide (x.length + y.length≤sizeLine)) (.str (x++y)):=Option.or_none
theorem amul_int:amul (.int i) (.int j)=gd (decide (i < 1000000∧-1000000 < i)) (.int (i * j)):=Option.or_none
theorem ainp_str:ainp .Add (.str x) (.str y)=gd (decide (x.length + y.length≤1000000)) (.str (x++y)):=Option.or_none
theorem atruth_none:atruth σ .none=some false:=rfl
theorem atruth_bool:atruth σ (.bool b)=some b:=rfl
theorem atruth_int:atruth σ (.int i)=some (i != 0):=rfl
theorem atruth_str:atruth σ (.str x)=gd (decide (x.length≤sizeLine)) ((x.length:Int) != 0):=Option.or_none
theorem atruth_lst:atruth σ (.lst xs)=gd (decide (xs.length≤sizeLine)) (!xs.isEmpty):=rfl
theorem atruth_loc:atruth σ (.loc l)=(lstAt σ l).bind fun xs=>gd (decide (xs.length≤sizeLine)) (!xs.isEmpty):=rfl
theorem isPart_part:isPart (.tup [.str x,.str y])=some (x,y):=rfl
theorem isPart_av {p:Str × Str}:isPart (partAV p)=some p:=rfl
theorem appendF_loc:appendF [.loc l,v] σ=((lstAt σ l).bind fun ys=>gd (decide (ys.length≤sizeLine)) (AV.none,σ.set l (.list (ys++[v])))).or
    ((accAt σ l).bind fun a=>(isPart v).bind fun pt=>gd (decide (a.2.length≤sizeLine)) (AV.none,σ.set l (.acc a.1 (a.2++[pt])))):=rfl
theorem lstAt_acc {ini:Int} {ps:List (Str × Str)} (h:σ[l]?=some (.acc ini ps)):lstAt σ l=none:=by unfold lstAt; rw [h]; rfl
theorem accAt_list (h:σ[l]?=some (.list xs)):accAt σ l=none:=by unfold accAt; rw [h]; rfl
theorem appendF_list (h:σ[l]?=some (.list xs)) (hz:xs.length≤sizeLine):appendF [.loc l,v] σ=some (.none,σ.set l (.list (xs++[v]))):=by
  rw [appendF_loc,lstAt_of h]
  show (gd _ _).or _=_
  rw [gd_of (decide_eq_true hz)]
  rfl
theorem lenF_str {LF:FM}:lenF LF [.str x] σ=gd (decide (x.length≤1000000)) (.int x.length,σ):=Option.or_none
theorem lenF_lst {LF:FM}:lenF LF [.lst xs] σ=gd (decide (xs.length≤1000000)) (.int xs.length,σ):=rfl
theorem lenF_list {LF:FM} (h:σ[l]?=some (.list xs)) (hz:xs.length≤1000000):lenF LF [.loc l] σ=some (.int xs.length,σ):=by
  show ((accAt σ l).bind _).or ((lstAt σ l).bind _)=_
  rw [accAt_list h,lstAt_of h]
  exact gd_of (decide_eq_true hz)
theorem lenF_acc {LF:FM} {ini:Int} {ps:List (Str × Str)} {σ':St} (h:σ[l]?=some (.acc ini ps)) (e:lenA LF l σ=some (i,σ')):lenF LF [.loc l] σ=some (.int i,σ'):=by
  show ((accAt σ l).bind _).or _=_
  rw [accAt_of h]
  show ((lenA LF l σ).map _).or _=_
  rw [e]
  rfl
theorem strF_acc {SF FF:FM} {ini:Int} {ps:List (Str × Str)} {σ':St} (h:σ[l]?=some (.acc ini ps)) (e:SF [.loc l] σ=some (.str x,σ')):strF SF FF [.loc l] σ=some (.str x,σ'):=by
  show ((accAt σ l).bind _).or _=_
  rw [accAt_of h]
  show (retStr (SF [.loc l] σ)).or _=_
  rw [e]
  rfl
theorem asSeq_lst:asSeq σ (.lst xs)=some xs:=rfl
theorem asSeq_list (h:σ[l]?=some (.list xs)):asSeq σ (.loc l)=some xs:=by
  show (lstAt σ l).or _=_
  rw [lstAt_of h]
  rfl
theorem asSeq_acc {ini:Int} {ps:List (Str × Str)} (h:σ[l]?=some (.acc ini ps)):asSeq σ (.loc l)=some (ps.map partAV):=by
  show (lstAt σ l).or ((accAt σ l).map _)=_
  rw [lstAt_acc h,accAt_of h]
  rfl
theorem aget_tup:aget σ (.tup xs) i=if -1000000000≤i∧i < 1000000000 then (seqIndex? i xs.length).bind (xs[·]?) else none:=by
  show (if _ then (atIx xs i).or none else none)=_
  rw [Option.or_none]
  rfl
theorem aget_lst:aget σ (.lst xs) i=if -1000000000≤i∧i < 1000000000 then (seqIndex? i xs.length).bind (xs[·]?) else none:=rfl
theorem aget_seq (h:asSeq σ (.loc l)=some xs):aget σ (.loc l) i=if -1000000000≤i∧i < 1000000000 then (seqIndex? i xs.length).bind (xs[·]?) else none:=by
  show (if _ then (asSeq σ (.loc l)).bind _ else none)=_
  rw [h]
  rfl
theorem aget_str:aget σ (.str x) i=if -1000000000≤i∧i < 1000000000 then ((seqIndex? i x.length).bind (x.cps[·]?)).map fun c=>.str ⟨#[c]⟩ else none:=by
  show (if _ then (Option.map _ _).or none else none)=_
  rw [Option.or_none]
theorem putSl_acc {ini:Int} {ps qs:List (Str × Str)} {a b:Option Int} {new:List AV} (h:σ[l]?=some (.acc ini ps)) (hn:asList σ v=some new) (hq:partsOf new=some qs) (hz:ps.length≤1000000∧qs.length≤1000000):putSl l a b v σ=some (σ.set l (.acc ini (setSl ps qs a b))):=by
  unfold putSl
  rw [hn,accAt_of h]
  show ((partsOf new).bind _).or _=_
  rw [hq]
  show (gd _ _).or _=_
  rw [gd_of (decide_eq_true hz)]
  rfl
theorem putAt_list {k:Nat} (h:σ[l]?=some (.list xs)) (hi:-1000000000≤i∧i < 1000000000) (hj:seqIndex? i xs.length=some k) (hk:k < xs.length):putAt l i v σ=some (σ.set l (.list (xs.set k v))):=by
  unfold putAt
  rw [lstAt_of h]
  show (if _ then (seqIndex? i xs.length).bind _ else none)=_
  rw [if_pos hi,hj]
  exact gd_of (decide_eq_true hk)
theorem idx_of {f g:EM} {lc:Lc} {σ₁ σ₂:St} {a z:AV} (hf:f lc σ=some (a,σ₁)) (hg:g lc σ₁=some (.int i,σ₂)) (ha:aget σ₂ a i=some z):idxE f g lc σ=some (z,σ₂):=by
  unfold idxE
  rw [hf]
  show (g lc σ₁).bind _=_
  rw [hg]
  show (aget σ₂ a i).map _=_
  rw [ha]
  rfl
theorem nE_of {k:Nat} {lc:Lc} {a:AV} (h:lc[k]?=some (some a)):nE k lc σ=some (a,σ):=by unfold nE; rw [h]
theorem aget_fst {p:Str × Str}:aget σ (partAV p) 0=some (.str p.1):=by
  unfold partAV
  rw [aget_tup,if_pos (by decide)]
  rfl
theorem aget_snd {p:Str × Str}:aget σ (partAV p) 1=some (.str p.2):=by
  unfold partAV
  rw [aget_tup,if_pos (by decide)]
  rfl
theorem joinF_eq:joinF [.str x,v] σ=(asList σ v).bind fun ys=>(strsOf ys).bind fun zs=>gd (decide ((zs.map (·.length)).sum + zs.length * x.length≤16777216)) (.str (Txt.join x zs),σ):=rfl
theorem kind_loc_eq:kind σ (.loc l)=(σ[l]?.map kindO).getD 0:=rfl
theorem kind_str:kind σ (.str x)=1:=rfl
theorem kind_lst:kind σ (.lst xs)=2:=rfl
theorem gd_if {α:Type} {p:Prop} [Decidable p] {a:α}:gd (decide p) a=if p then some a else none:=by
  by_cases h:p
  · rw [if_pos h,gd_of (decide_eq_true h)]
  · rw [if_neg h,decide_eq_false h]; rfl
theorem gd_true {α:Type} {a:α}:gd true a=some a:=rfl
noncomputable def afterS (nx:St→Nat→Option (Option AV)) (st:Lc→AV→Option Lc) (B O:SM) (n i:Nat) (t:Fl × Lc × St):Option (Fl × Lc × St):=match t.1 with
  | .next=>loopS nx st B O n i t.2.1 t.2.2
  | .cont=>loopS nx st B O n i t.2.1 t.2.2
  | .brk=>some (.next,t.2)
  | .ret v=>some (.ret v,t.2)
theorem loop_stop {nx:St→Nat→Option (Option AV)} {st:Lc→AV→Option Lc} {B O:SM} {k:Nat} {lc:Lc} (h:nx σ k=some none):loopS nx st B O (n + 1) k lc σ=O lc σ:=by
  unfold loopS
  rw [h]
  rfl
theorem loop_at {nx:St→Nat→Option (Option AV)} {st:Lc→AV→Option Lc} {B O:SM} {k:Nat} {lc lc₁:Lc} {t:Fl × Lc × St} (h:nx σ k=some (some v)) (h1:st lc v=some lc₁) (h2:B lc₁ σ=some t):loopS nx st B O (n + 1) k lc σ=afterS nx st B O n (k + 1) t:=by
  unfold loopS
  rw [h]
  show ((st lc v).bind _)=_
  rw [h1]
  show ((B lc₁ σ).bind _)=_
  rw [h2]
  rfl
theorem for_str {k:Nat} {f:EM} {B O:SM} {lc:Lc} {σ₁:St} (hf:f lc σ=some (.str x,σ₁)):forS k f B O lc σ=loopS (nxS x) (fun lc y=>putL lc k y) B O 1000000 0 lc σ₁:=by
  unfold forS
  rw [hf]
  simp only [Option.bind_some,AV.str?]
  rw [show asList σ₁ (AV.str x)=none from rfl,Option.bind_none,Option.or_none]
theorem for_lst {k:Nat} {f:EM} {B O:SM} {lc:Lc} {σ₁:St} {a:AV} (hf:f lc σ=some (a,σ₁)) (ha:asList σ₁ a=some xs) (hs:a.str?=none):forS k f B O lc σ=loopS (nxL a) (fun lc y=>putL lc k y) B O 1000000 0 lc σ₁:=by
  unfold forS
  rw [hf]
  simp only [Option.bind_some]
  rw [hs,ha,Option.bind_none,Option.none_or,Option.bind_some]
theorem forR_of {k:Nat} {fs:List EM} {B O:SM} {lc:Lc} {σ₁:St} {a b c:Int} {t:Fl × Lc × St} (hf:evs fs lc σ=some (xs,σ₁)) (ha:rangeArgs xs=some (a,b,c)) (ho:okRange a b c=true) (h:loopS (nxR a b c) (fun lc y=>putL lc k y) B O 1000000 0 lc σ₁=some t):forRS k fs B O lc σ=some t:=by
  unfold forRS
  rw [hf]
  simp only [Option.bind_some,ha]
  rw [if_pos ho,h]
end
theorem partLen_nonneg (p:Str × Str):0≤partLen p:=by unfold partLen; (first | lia | omega)
theorem partsLen_nil:partsLen []=0:=rfl
theorem partsLen_cons (p:Str × Str) (ps:List (Str × Str)):partsLen (p :: ps)=partLen p + partsLen ps:=by simp [partsLen]
theorem partsLen_append (ps qs:List (Str × Str)):partsLen (ps++qs)=partsLen ps + partsLen qs:=by simp [partsLen]
theorem partsLen_nonneg (ps:List (Str × Str)):0≤partsLen ps:=by
  induction ps with
  | nil=>exact Int.le_refl _
  | cons p ps ih=>rw [partsLen_cons]; have:=partLen_nonneg p; (first | lia | omega)
theorem partLen_le {p:Str × Str} {ps:List (Str × Str)} (h:p∈ps):partLen p≤partsLen ps:=by
  induction ps with
  | nil=>cases h
  | cons q ps ih =>
    rw [partsLen_cons]
    have:=partLen_nonneg q
    have:=partsLen_nonneg ps
    rcases List.mem_cons.mp h with rfl | h
    · (first | lia | omega)
    · have:=ih h; (first | lia | omega)
theorem accFits_of {ps:List (Str × Str)} (h1:ps.length≤1000000) (h2:partsLen ps≤1000000):accFits ps=true:=by
  unfold accFits
  simp only [Bool.and_eq_true,decide_eq_true_eq,List.all_eq_true]
  refine ⟨⟨fun p hp=>?_,h1⟩,h2⟩
  have:=partLen_le hp
  unfold partLen at this
  unfold smallPart smallStr
  simp only [Bool.and_eq_true,decide_eq_true_eq]
  (first | lia | omega)
theorem len_line {n:Nat} (h:n≤1000000):n≤sizeLine:=by rw [sizeLine_eq]; (first | lia | omega)
section
variable {σ:St} {a:Nat} {ini:Int} {ps:List (Str × Str)}
theorem push_eq {f s:Str} (h:σ[a]?=some (.acc ini ps)) (hl:ps.length≤1000000):pushF [.loc a,.str f,.str s] σ=some (.none,σ.set a (.acc ini (ps++[(f,s)]))):=by
  have h':ps.length≤16777216:=by (first | lia | omega)
  simp [pushF,runF,endF,lc0,seqS,exprS,mE,nE,kind_loc_eq,kind_str,kind_lst,kindO,h,evs,tupE,appendF_loc,isPart_part,isPart_av,h',sizeLine_eq,AV.int?,AV.str?,AV.tup?,AV.lst?,AV.loc?,AO.list?,AO.acc?,lstAt,accAt,arg1,arg2,gd_if,gd_true,selfL]
theorem pc_eq (h:σ[a]?=some (.acc ini ps)):pcF [.loc a] σ=some (.int ps.length,σ):=by
  simp [pcF,runF,endF,lc0,seqS,partCountS,h,AV.int?,AV.str?,AV.tup?,AV.lst?,AV.loc?,AO.list?,AO.acc?,lstAt,accAt,arg1,arg2,gd_if,gd_true,selfL]
theorem pop_nil (h:σ[a]?=some (.acc ini [])):popF [.loc a] σ=some (partAV ("", ""),σ):=by
  simp [popF,runF,endF,lc0,seqS,ifS,cmpT,mE,nE,kind_loc_eq,kind_str,kind_lst,kindO,h,evs,pc_eq h,cE,acmp,twoInts_int,isNone,aeqv,toPD_none,toPD_bool,toPD_int,toPD_str,toPD_tup,toPD_lst,toPD_loc,optAll,PyData.eqv,retS,tupE,partAV,sizeLine_eq,AV.int?,AV.str?,AV.tup?,AV.lst?,AV.loc?,AO.list?,AO.acc?,lstAt,accAt,arg1,arg2,gd_if,gd_true,selfL]
theorem pop_snoc {p:Str × Str} (h:σ[a]?=some (.acc ini (ps++[p]))) (hl:ps.length < 1000000):popF [.loc a] σ=some (partAV p,σ.set a (.acc ini ps)):=by
  have:ps.length + 1≤sizeLine:=len_line hl
  have hz:((ps.length:Int) + 1 == 0)=false:=by rw [beq_eq_false_iff_ne]; (first | lia | omega)
  simp [popF,runF,endF,lc0,seqS,ifS,cmpT,mE,nE,kind_loc_eq,kind_str,kind_lst,kindO,h,evs,pc_eq h,cE,acmp,twoInts_int,isNone,aeqv,toPD_none,toPD_bool,toPD_int,toPD_str,toPD_tup,toPD_lst,toPD_loc,optAll,PyData.eqv,popS,this,hz,AV.int?,AV.str?,AV.tup?,AV.lst?,AV.loc?,AO.list?,AO.acc?,lstAt,accAt,arg1,arg2,gd_if,gd_true,selfL]
theorem accLen_eq (h:σ[a]?=some (.acc ini ps)) (hf:accFits ps=true):accLenF [.loc a] σ=some (.int (ini + partsLen ps),σ):=by
  simp [accLenF,runF,endF,lc0,seqS,accLenS,h,hf,AV.int?,AV.str?,AV.tup?,AV.lst?,AV.loc?,AO.list?,AO.acc?,lstAt,accAt,arg1,arg2,gd_if,gd_true,selfL]
theorem accStr_eq (h:σ[a]?=some (.acc ini ps)) (hf:accFits ps=true):accStrF [.loc a] σ=some (.str (accText ps),σ):=by
  simp [accStrF,runF,endF,lc0,seqS,accStrS,h,hf,AV.int?,AV.str?,AV.tup?,AV.lst?,AV.loc?,AO.list?,AO.acc?,lstAt,accAt,arg1,arg2,gd_if,gd_true,selfL]
theorem lenA_eq (h:σ[a]?=some (.acc ini ps)) (hf:accFits ps=true) (h0:0≤ini) (h1:ini≤1000000):lenA accLenF a σ=some (ini + partsLen ps,σ):=by
  have:=partsLen_nonneg ps
  have:partsLen ps≤1000000:=by unfold accFits at hf; simp only [Bool.and_eq_true,decide_eq_true_eq] at hf; exact hf.2
  unfold lenA
  rw [accLen_eq h hf]
  exact gd_of (decide_eq_true ⟨by (first | lia | omega),by (first | lia | omega)⟩)
theorem len_eq (h:σ[a]?=some (.acc ini ps)) (hf:accFits ps=true) (h0:0≤ini) (h1:ini≤1000000):lenF accLenF [.loc a] σ=some (.int (ini + partsLen ps),σ):=lenF_acc h (lenA_eq h hf h0 h1)
theorem str_eq {FF:FM} (h:σ[a]?=some (.acc ini ps)) (hf:accFits ps=true):strF accStrF FF [.loc a] σ=some (.str (accText ps),σ):=strF_acc h (accStr_eq h hf)
theorem pick_range {α:Type} (xs:List α) (b:Nat):∀ m,pickL xs ((List.range m).map (b + ·))=(xs.drop b).take m
  | 0=>by simp [pickL]
  | m + 1=>by
    have ih:=pick_range xs b m
    unfold pickL at ih ⊢
    rw [List.range_succ,List.map_append,List.filterMap_append,ih,List.take_add_one,List.getElem?_drop]
    simp only [List.map_cons,List.map_nil,List.filterMap_cons,List.filterMap_nil]
    cases xs[b + m]? <;> rfl
theorem slice_from {α:Type} (xs:List α) (i:Nat):sliceL xs (some (i:Int)) none=xs.drop i:=by
  unfold sliceL slIdx
  rw [sliceBounds_plain]
  simp only [Option.elim,clipAt_nat]
  rw [sliceRange_one,pick_range]
  rw [List.take_of_length_le (by rw [List.length_drop]; (first | lia | omega))]
  rcases Nat.le_total i xs.length with h | h
  · rw [Nat.min_eq_left h]
  · rw [Nat.min_eq_right h,List.drop_of_length_le h,List.drop_length]
theorem slice_to {α:Type} (xs:List α) (i:Nat):sliceL xs none (some (i:Int))=xs.take i:=by
  unfold sliceL slIdx
  rw [sliceBounds_plain]
  simp only [Option.elim,clipAt_nat]
  rw [sliceRange_one,pick_range,List.drop_zero]
  rcases Nat.le_total i xs.length with h | h
  · rw [Nat.min_eq_left h]; rfl
  · rw [Nat.min_eq_right h,List.take_of_length_le h,List.take_of_length_le (by (first | lia | omega))]
theorem setSl_from {α:Type} (xs:List α) (i:Nat) (h:i≤xs.length):setSl xs [] (some (i:Int)) none=xs.take i:=by
  unfold setSl slLo slHi
  rw [sliceBounds_plain]
  simp only [Option.elim,clipAt_nat,Nat.min_eq_left h]
  rw [Int.max_eq_right (Int.ofNat_le.mpr h),Int.toNat_natCast xs.length,List.drop_length]
  simp
theorem setSl_all {α:Type} (xs new:List α):setSl xs new none none=new:=by
  unfold setSl slLo slHi
  rw [sliceBounds_plain]
  simp only [Option.elim]
  rw [Int.max_eq_right (Int.ofNat_le.mpr (Nat.zero_le _)),Int.toNat_natCast xs.length,List.drop_length]
  simp
theorem partsOf_map (ps:List (Str × Str)):partsOf (ps.map partAV)=some ps:=by
  induction ps with
  | nil=>rfl
  | cons p ps ih=>rw [List.map_cons,partsOf,ih]; rfl
theorem popFrom_eq {i:Nat} (h:σ[a]?=some (.acc ini ps)) (hl:ps.length≤1000000) (hi:i≤ps.length):popFromF [.loc a,.int i] σ=some (.lst ((ps.drop i).map partAV),σ.set a (.acc ini (ps.take i))):=by
  have e1:sliceL (ps.map partAV) (some (i:Int)) none=(ps.drop i).map partAV:=by rw [slice_from,List.map_drop]
  have e2:=putSl_acc (a:=some (i:Int)) (b:=none) (v:=.lst []) h rfl rfl ⟨hl,Nat.zero_le _⟩
  rw [setSl_from _ _ hi] at e2
  simp [asSeq_acc h,e2,popFromF,runD,runB,endF,lc0,seqS,asgS,sliceE,nE,optE,asSeq_lst,h,hl,e1,putL,setSlS,lstE,evs,asList_lst,asList_loc,partsOf,setSl_from _ _ hi,retS,sizeLine_eq,AV.int?,AV.str?,AV.tup?,AV.lst?,AV.loc?,AO.list?,AO.acc?,lstAt,accAt,arg1,arg2,gd_if,gd_true,selfL]
theorem reset1_eq (h:σ[a]?=some (.acc ini ps)) (hl:ps.length≤1000000):resetF [.loc a] σ=some (.none,σ.set a (.acc 0 [])):=by
  have hs:∀ x:AO,(σ.set a x)[a]?=some x:=fun x=>List.getElem?_set_self (List.getElem?_eq_some_iff.mp h).1
  have e2:=putSl_acc (a:=none) (b:=none) (v:=.lst []) h rfl rfl ⟨hl,Nat.zero_le _⟩
  rw [setSl_all] at e2
  simp [e2,resetF,orF,runD,runB,endF,lc0,resetB,seqS,ifS,cmpT,nE,cE,acmp,twoInts_int,isNone,aeqv,toPD_none,toPD_bool,toPD_int,toPD_str,toPD_tup,toPD_lst,toPD_loc,optAll,PyData.eqv,asgS,lstE,evs,putL,setSlS,optE,h,asList_lst,asList_loc,partsOf,hl,setSl_all,iniS,sizeLine_eq,hs,AV.int?,AV.str?,AV.tup?,AV.lst?,AV.loc?,AO.list?,AO.acc?,lstAt,accAt,arg1,arg2,gd_if,gd_true,selfL]
theorem reset2_eq {qs:List (Str × Str)} (h:σ[a]?=some (.acc ini ps)) (hl:ps.length≤1000000) (hq:qs.length≤1000000):resetF [.loc a,.lst (qs.map partAV)] σ=some (.none,σ.set a (.acc 0 qs)):=by
  have hs:∀ x:AO,(σ.set a x)[a]?=some x:=fun x=>List.getElem?_set_self (List.getElem?_eq_some_iff.mp h).1
  have e2:=putSl_acc (a:=none) (b:=none) (v:=.lst (qs.map partAV)) h rfl (partsOf_map qs) ⟨hl,hq⟩
  rw [setSl_all] at e2
  simp [e2,resetF,orF,runD,runB,endF,lc0,resetB,seqS,ifS,cmpT,nE,cE,acmp,twoInts_int,isNone,aeqv,toPD_none,toPD_bool,toPD_int,toPD_str,toPD_tup,toPD_lst,toPD_loc,optAll,PyData.eqv,asgS,lstE,evs,putL,setSlS,optE,h,asList_lst,asList_loc,partsOf_map,hl,hq,setSl_all,iniS,sizeLine_eq,hs,AV.int?,AV.str?,AV.tup?,AV.lst?,AV.loc?,AO.list?,AO.acc?,lstAt,accAt,arg1,arg2,gd_if,gd_true,selfL]
theorem onlyws_eq (h:σ[a]?=some (.acc ini ps)) (hf:accFits ps=true) (h0:0≤ini) (h1:ini≤1000000) :
    onlywsF [.loc a] σ=some (.bool (ini == 0 && (partsLen ps == 0 || Txt.isspace (accText ps))),σ):=by
  have e1:=lenA_eq h hf h0 h1
  have e2:=str_eq (FF:=noF) h hf
  cases hi:(ini == 0) with
  | false=>simp [onlywsF,runF,endF,lc0,seqS,retS,andE,tE,cmpT,attrE,nE,h,attrOf,fmtAttrs,cE,acmp,twoInts_int,isNone,aeqv,toPD_none,toPD_bool,toPD_int,toPD_str,toPD_tup,toPD_lst,toPD_loc,optAll,PyData.eqv,hi,atruth_none,atruth_bool,atruth_int,atruth_str,atruth_lst,atruth_loc,AV.int?,AV.str?,AV.tup?,AV.lst?,AV.loc?,AO.list?,AO.acc?,lstAt,accAt,arg1,arg2,gd_if,gd_true,selfL]
  | true =>
    have hi':ini=0:=eq_of_beq hi
    subst hi'
    have e1':lenA accLenF a σ=some (partsLen ps,σ):=by simpa using e1
    cases hp:(partsLen ps == 0) with
    | true =>
      have hp':(partsLen ps != 0)=false:=by simp [bne,hp]
      simp [onlywsF,runF,endF,lc0,seqS,retS,andE,tE,cmpT,attrE,nE,h,attrOf,fmtAttrs,cE,acmp,twoInts_int,isNone,aeqv,toPD_none,toPD_bool,toPD_int,toPD_str,toPD_tup,toPD_lst,toPD_loc,optAll,PyData.eqv,atruth_none,atruth_bool,atruth_int,atruth_str,atruth_lst,atruth_loc,orE,notT,trA,e1',hp',AV.int?,AV.str?,AV.tup?,AV.lst?,AV.loc?,AO.list?,AO.acc?,lstAt,accAt,arg1,arg2,gd_if,gd_true,selfL]
    | false =>
      have hp':(partsLen ps != 0)=true:=by simp [bne,hp]
      simp [onlywsF,runF,endF,lc0,seqS,retS,andE,tE,cmpT,attrE,nE,h,attrOf,fmtAttrs,cE,acmp,twoInts_int,isNone,aeqv,toPD_none,toPD_bool,toPD_int,toPD_str,toPD_tup,toPD_lst,toPD_loc,optAll,PyData.eqv,atruth_none,atruth_bool,atruth_int,atruth_str,atruth_lst,atruth_loc,orE,notT,trA,e1',hp',mE,callE,evs,e2,kind_loc_eq,kind_str,kind_lst,kindO,isspaceF,AV.int?,AV.str?,AV.tup?,AV.lst?,AV.loc?,AO.list?,AO.acc?,lstAt,accAt,arg1,arg2,gd_if,gd_true,selfL]
end
section
variable {lc lc₁ lc':Lc} {σ σ₁ σ':St}
set_option tactic.hygienic true
theorem seq_next {f:SM} {fs:List SM} (h:f lc σ=some (.next,lc₁,σ₁)):seqS (f :: fs) lc σ=seqS fs lc₁ σ₁:=by simp [seqS,h,AV.int?,AV.str?,AV.tup?,AV.lst?,AV.loc?,AO.list?,AO.acc?,lstAt,accAt,arg1,arg2,gd_if,gd_true,selfL]
set_option tactic.hygienic false
theorem seq_ret {f:SM} {fs:List SM} {v:AV} (h:f lc σ=some (.ret v,lc₁,σ₁)):seqS (f :: fs) lc σ=some (.ret v,lc₁,σ₁):=by simp [seqS,h,AV.int?,AV.str?,AV.tup?,AV.lst?,AV.loc?,AO.list?,AO.acc?,lstAt,accAt,arg1,arg2,gd_if,gd_true,selfL]
theorem seq_brk {f:SM} {fs:List SM} (h:f lc σ=some (.brk,lc₁,σ₁)):seqS (f :: fs) lc σ=some (.brk,lc₁,σ₁):=by simp [seqS,h,AV.int?,AV.str?,AV.tup?,AV.lst?,AV.loc?,AO.list?,AO.acc?,lstAt,accAt,arg1,arg2,gd_if,gd_true,selfL]
theorem seq_cont {f:SM} {fs:List SM} (h:f lc σ=some (.cont,lc₁,σ₁)):seqS (f :: fs) lc σ=some (.cont,lc₁,σ₁):=by simp [seqS,h,AV.int?,AV.str?,AV.tup?,AV.lst?,AV.loc?,AO.list?,AO.acc?,lstAt,accAt,arg1,arg2,gd_if,gd_true,selfL]
set_option tactic.hygienic true
theorem seq_app {ys:List SM}:∀ {xs:List SM} {lc:Lc} {σ:St},seqS xs lc σ=some (.next,lc₁,σ₁)→seqS (xs++ys) lc σ=seqS ys lc₁ σ₁
  | [],lc,σ,h=>by cases h; rfl
  | f :: fs,lc,σ,h=>oB h fun t e h=>by
    rcases t with ⟨fl,lc₂,σ₂⟩
    cases fl with
    | next=>rw [List.cons_append,seq_next e]; exact seq_app h
    | _=>exact nomatch h
theorem seq_nil:seqS [] lc σ=some (.next,lc,σ):=rfl
set_option tactic.hygienic false
theorem if_t {t:TM} {f g:SM} (h:t lc σ=some (true,σ₁)):ifS t f g lc σ=f lc σ₁:=by simp [ifS,h]
theorem if_f {t:TM} {f g:SM} (h:t lc σ=some (false,σ₁)):ifS t f g lc σ=g lc σ₁:=by simp [ifS,h]
set_option tactic.hygienic true
theorem run_next {vars:List Str} {n:Nat} {B:SM} {xs:List AV} (hn:xs.length=n) (h:B (lc0 vars xs) σ=some (.next,lc',σ')):runF vars n B xs σ=some (.none,σ'):=by simp [runF,endF,hn,h,AV.int?,AV.str?,AV.tup?,AV.lst?,AV.loc?,AO.list?,AO.acc?,lstAt,accAt,arg1,arg2,gd_if,gd_true,selfL]
set_option tactic.hygienic false
theorem run_ret {vars:List Str} {n:Nat} {B:SM} {xs:List AV} {v:AV} (hn:xs.length=n) (h:B (lc0 vars xs) σ=some (.ret v,lc',σ')):runF vars n B xs σ=some (v,σ'):=by simp [runF,endF,hn,h,AV.int?,AV.str?,AV.tup?,AV.lst?,AV.loc?,AO.list?,AO.acc?,lstAt,accAt,arg1,arg2,gd_if,gd_true,selfL]
set_option tactic.hygienic true
theorem expr_of {f:EM} {v:AV} (h:f lc σ=some (v,σ₁)):exprS f lc σ=some (.next,lc,σ₁):=by simp [exprS,h,AV.int?,AV.str?,AV.tup?,AV.lst?,AV.loc?,AO.list?,AO.acc?,lstAt,accAt,arg1,arg2,gd_if,gd_true,selfL]
theorem asg_of {i:Nat} {f:EM} {v:AV} (h:f lc σ=some (v,σ₁)) (hi:i < lc.length):asgS i f lc σ=some (.next,lc.set i (some v),σ₁):=by simp [asgS,h,putL,hi,AV.int?,AV.str?,AV.tup?,AV.lst?,AV.loc?,AO.list?,AO.acc?,lstAt,accAt,arg1,arg2,gd_if,gd_true,selfL]
end
structure FmtAt (σ:St) (m ln ac:Nat) (ml:Int) (cw:Str) (cwl:Int) (sp:Str) (rows:List Str) (ini:Int) (ps:List (Str × Str)):Prop where
  fm:σ[m]?=some (.fmt ml cw cwl sp ln ac)
  li:σ[ln]?=some (.list (rows.map AV.str))
  acc:σ[ac]?=some (.acc ini ps)
noncomputable def Same (X:List Nat) (σ σ':St):Prop:=σ.length≤σ'.length∧∀ k,k∉X→k < σ.length→σ'[k]?=σ[k]?
theorem Same.refl {X:List Nat} {σ:St}:Same X σ σ:=⟨Nat.le_refl _,fun uu uu uu=>rfl⟩
theorem Same.trans {X:List Nat} {σ σ₁ σ₂:St} (a:Same X σ σ₁) (b:Same X σ₁ σ₂):Same X σ σ₂:=⟨Nat.le_trans a.1 b.1,fun k hk hl=>(b.2 k hk (Nat.lt_of_lt_of_le hl a.1)).trans (a.2 k hk hl)⟩
theorem Same.set {X:List Nat} {σ:St} {k:Nat} {o:AO} (h:k∈X):Same X σ (σ.set k o):=⟨by simp,fun j hj uu=>by
  rw [List.getElem?_set_ne]
  rintro rfl
  exact hj h⟩
theorem Same.app {X:List Nat} {σ:St} (δ:St):Same X σ (σ++δ):=⟨by simp,fun j uu hl=>List.getElem?_append_left hl⟩
theorem Same.get {X:List Nat} {σ σ':St} (a:Same X σ σ') {k:Nat} {o:AO} (hk:k∉X) (h:σ[k]?=some o):σ'[k]?=some o:=(a.2 k hk (List.getElem?_eq_some_iff.mp h).1).trans h
section
variable {σ:St} {m ln ac:Nat} {ml:Int} {cw:Str} {cwl:Int} {sp:Str} {rows:List Str} {ini:Int} {ps:List (Str × Str)} {lc:Lc}
theorem FmtAt.ne1 (F:FmtAt σ m ln ac ml cw cwl sp rows ini ps):m≠ln:=by rintro rfl; have:=F.fm; rw [F.li] at this; cases this
theorem FmtAt.ne2 (F:FmtAt σ m ln ac ml cw cwl sp rows ini ps):m≠ac:=by rintro rfl; have:=F.fm; rw [F.acc] at this; cases this
theorem FmtAt.ne3 (F:FmtAt σ m ln ac ml cw cwl sp rows ini ps):ln≠ac:=by rintro rfl; have:=F.li; rw [F.acc] at this; cases this
theorem FmtAt.setAcc (F:FmtAt σ m ln ac ml cw cwl sp rows ini ps) (i:Int) (qs:List (Str × Str)):FmtAt (σ.set ac (.acc i qs)) m ln ac ml cw cwl sp rows i qs :=
  ⟨by rw [List.getElem?_set_ne F.ne2.symm]; exact F.fm,by rw [List.getElem?_set_ne F.ne3.symm]; exact F.li,by rw [List.getElem?_set_self (List.getElem?_eq_some_iff.mp F.acc).1]⟩
theorem FmtAt.setLi (F:FmtAt σ m ln ac ml cw cwl sp rows ini ps) (rs:List Str):FmtAt (σ.set ln (.list (rs.map AV.str))) m ln ac ml cw cwl sp rs ini ps :=
  ⟨by rw [List.getElem?_set_ne F.ne1.symm]; exact F.fm,by rw [List.getElem?_set_self (List.getElem?_eq_some_iff.mp F.li).1],by rw [List.getElem?_set_ne F.ne3]; exact F.acc⟩
theorem FmtAt.keep {σ':St} {X:List Nat} (F:FmtAt σ m ln ac ml cw cwl sp rows ini ps) (S:Same X σ σ') (h1:m∉X) (h2:ln∉X) (h3:ac∉X):FmtAt σ' m ln ac ml cw cwl sp rows ini ps:=⟨S.get h1 F.fm,S.get h2 F.li,S.get h3 F.acc⟩
theorem line_eq (h0:lc[0]?=some (some (.loc m))) (F:FmtAt σ m ln ac ml cw cwl sp rows ini ps):lineE lc σ=some (.loc ac,σ):=by simp [lineE,attrE,nE,h0,F.fm,attrOf,fmtAttrs,AV.int?,AV.str?,AV.tup?,AV.lst?,AV.loc?,AO.list?,AO.acc?,lstAt,accAt,arg1,arg2,gd_if,gd_true,selfL]
theorem lines_eq (h0:lc[0]?=some (some (.loc m))) (F:FmtAt σ m ln ac ml cw cwl sp rows ini ps):linesE lc σ=some (.loc ln,σ):=by simp [linesE,attrE,nE,h0,F.fm,attrOf,fmtAttrs,AV.int?,AV.str?,AV.tup?,AV.lst?,AV.loc?,AO.list?,AO.acc?,lstAt,accAt,arg1,arg2,gd_if,gd_true,selfL]
theorem attrLines {f:EM} (hf:f lc σ=some (.loc m,σ)) (F:FmtAt σ m ln ac ml cw cwl sp rows ini ps):attrE 4 f lc σ=some (.loc ln,σ):=by simp [attrE,hf,F.fm,attrOf,fmtAttrs,AV.int?,AV.str?,AV.tup?,AV.lst?,AV.loc?,AO.list?,AO.acc?,lstAt,accAt,arg1,arg2,gd_if,gd_true,selfL]
theorem mLine (h0:lc[0]?=some (some (.loc m))) (F:FmtAt σ m ln ac ml cw cwl sp rows ini ps) {G:FM} {fs:List EM} {xs:List AV} (hf:evs fs lc σ=some (xs,σ)):mE 4 G lineE fs lc σ=G (.loc ac :: xs) σ:=by
  simp [mE,line_eq h0 F,kind_loc_eq,kind_str,kind_lst,kindO,F.acc,hf,AV.int?,AV.str?,AV.tup?,AV.lst?,AV.loc?,AO.list?,AO.acc?,lstAt,accAt,arg1,arg2,gd_if,gd_true,selfL]
theorem strAcc_eq (h0:lc[0]?=some (some (.loc m))) (F:FmtAt σ m ln ac ml cw cwl sp rows ini ps) (hf:accFits ps=true):strAcc lc σ=some (.str (accText ps),σ):=by
  simp [strAcc,callE,evs,line_eq h0 F,str_eq F.acc hf,AV.int?,AV.str?,AV.tup?,AV.lst?,AV.loc?,AO.list?,AO.acc?,lstAt,accAt,arg1,arg2,gd_if,gd_true,selfL]
theorem append_rows (h0:lc[0]?=some (some (.loc m))) (F:FmtAt σ m ln ac ml cw cwl sp rows ini ps) (hf:accFits ps=true) (hr:rows.length≤1000000) :
    mE 2 appendF linesE [strAcc] lc σ=some (.none,σ.set ln (.list ((rows++[accText ps]).map AV.str))):=by
  have h':rows.length≤16777216:=by (first | lia | omega)
  simp [mE,lines_eq h0 F,kind_loc_eq,kind_str,kind_lst,kindO,F.li,evs,strAcc_eq h0 F hf,appendF_loc,sizeLine_eq,h',AV.int?,AV.str?,AV.tup?,AV.lst?,AV.loc?,AO.list?,AO.acc?,lstAt,accAt,arg1,arg2,gd_if,gd_true,selfL]
end
noncomputable def lastSp (ps:List (Str × Str)):List (Str × Str):=if ps=[] then [("", "")] else if ps.getLast?=some ((" " : Str),("" : Str)) then ps.dropLast else ps
noncomputable def onlySp (ini:Int) (ps:List (Str × Str)):Bool:=ini == 0 && (partsLen ps == 0 || Txt.isspace (accText ps))
noncomputable def nlRows (rows:List Str) (ini:Int) (ps:List (Str × Str)):List Str :=
  if 0 < ini + partsLen (lastSp ps) then (if onlySp ini (lastSp ps) && !rows.isEmpty then rows.dropLast++[(rows.getLast?.getD "")++accText (lastSp ps)] else rows++[accText (lastSp ps)]) else rows
theorem cmp_part (σ:St) (a b:Str):acmp σ .NotEq (partAV (a,b)) (.tup [.str " ",.str ""])=some ((a,b) != ((" " : Str),("" : Str))):=by
  simp [acmp,twoInts_int,isNone,partAV,aeqv,toPD_none,toPD_bool,toPD_int,toPD_str,toPD_tup,toPD_lst,toPD_loc,optAll,optAll,PyData.eqv,PyData.eqvAll,bne,AV.int?,AV.str?,AV.tup?,AV.lst?,AV.loc?,AO.list?,AO.acc?,lstAt,accAt,arg1,arg2,gd_if,gd_true,selfL]
  show _=!((a == (" " : Str)) && (b == ("" : Str)))
  rw [Bool.not_and]
section
variable {σ:St} {m ln ac:Nat} {ml:Int} {cw:Str} {cwl:Int} {sp:Str} {rows:List Str} {ini:Int} {ps:List (Str × Str)} {lc:Lc}
structure Fits (rows:List Str) (ini:Int) (ps:List (Str × Str)):Prop where
  r:rows.length≤100000
  t:(rows.map (·.length)).sum≤100000
  p:ps.length≤100000
  l:partsLen ps≤100000
  i0:0≤ini
  i1:ini≤100000
theorem Fits.acc (H:Fits rows ini ps):accFits ps=true:=accFits_of (by have:=H.p; (first | lia | omega)) (by have:=H.l; (first | lia | omega))
theorem partsLen_dropLast (ps:List (Str × Str)):partsLen ps.dropLast≤partsLen ps:=by
  induction ps with
  | nil=>exact Int.le_refl _
  | cons p ps ih =>
    cases ps with
    | nil=>rw [List.dropLast_singleton,partsLen_cons]; have:=partLen_nonneg p; simp [partsLen_nil]; (first | lia | omega)
    | cons q qs=>rw [List.dropLast_cons_cons,partsLen_cons,partsLen_cons p (q :: qs)]; (first | lia | omega)
theorem Fits.last (H:Fits rows ini ps):Fits rows ini (lastSp ps):=by
  unfold lastSp
  split
  · exact ⟨H.r,H.t,by simp,by simp [partsLen,partLen]; decide,H.i0,H.i1⟩
  · split
    · exact ⟨H.r,H.t,by rw [List.length_dropLast]; have:=H.p; (first | lia | omega),Int.le_trans (partsLen_dropLast ps) H.l,H.i0,H.i1⟩
    · exact H
set_option tactic.hygienic true
theorem pop_push (F:FmtAt σ m ln ac ml cw cwl sp rows ini ps) (H:Fits rows ini ps) (lc:Lc) (h0:lc[0]?=some (some (.loc m))) (hl:lc.length=2) :
    ∃ σ' lc',seqS [asgS 1 (mE 4 popF lineE []),ifS (cmpT .NotEq (nE 1) (tupE [cE (.str " "),cE (.str "")])) (seqS [exprS (mStarE pushF lineE (nE 1))]) (seqS [])] lc σ=some (.next,lc',σ')∧FmtAt σ' m ln ac ml cw cwl sp rows ini (lastSp ps)∧Same [ac] σ σ'∧lc'[0]?=some (some (.loc m))∧σ'.length=σ.length:=by
  obtain ⟨x,y,rfl⟩:∃ x y,lc=[x,y]:=by
    match lc,hl with
    | [x,y],_=>exact ⟨x,y,rfl⟩
  simp at h0
  subst h0
  have pz:=H.p
  rcases List.eq_nil_or_concat ps with rfl | ⟨qs,p,rfl⟩
  · have e1:asgS 1 (mE 4 popF lineE []) [some (.loc m),y] σ=some (.next,[some (.loc m),some (partAV ("", ""))],σ):=by
      rw [asg_of (v:=partAV ("", "")) (σ₁:=σ) (by rw [mLine (fs:=[]) (xs:=[]) rfl F rfl,pop_nil F.acc]) (by simp)]; rfl
    have e2:pushF [.loc ac,.str "",.str ""] σ=some (.none,σ.set ac (.acc ini [("", "")])):=push_eq F.acc (by simp)
    refine ⟨σ.set ac (.acc ini [("", "")]),[some (.loc m),some (partAV ("", ""))],?_,?_,.set (by simp),rfl,by simp⟩
    · rw [seq_next e1,seq_next (lc₁:=[some (.loc m),some (partAV ("", ""))]) (σ₁:=σ.set ac (.acc ini [("", "")])),seq_nil]
      rw [if_t (σ₁:=σ)]
      · rw [seq_next (lc₁:=[some (.loc m),some (partAV ("", ""))]) (σ₁:=σ.set ac (.acc ini [("", "")])),seq_nil]
        refine expr_of (v:=.none) ?_
        simp only [mStarE,line_eq (lc:=[some (.loc m),some (partAV ("", ""))]) rfl F,kind_loc_eq,kind_str,kind_lst,kindO,F.acc,AV.int?,AV.str?,AV.tup?,AV.lst?,AV.loc?,AO.list?,AO.acc?,lstAt,accAt,arg1,arg2,gd_if,gd_true,selfL,Option.bind_some,Option.bind_none,Option.some_or,Option.none_or,Option.or_none,Option.map_some,Option.map_none,Option.getD_some,↓reduceIte]
        simp [nE,partAV,e2,AV.int?,AV.str?,AV.tup?,AV.lst?,AV.loc?,AO.list?,AO.acc?,lstAt,accAt,arg1,arg2,gd_if,gd_true,selfL]
      · simp [cmpT,nE,tupE,evs,cE,sizeLine_eq,cmp_part,AV.int?,AV.str?,AV.tup?,AV.lst?,AV.loc?,AO.list?,AO.acc?,lstAt,accAt,arg1,arg2,gd_if,gd_true,selfL]
        decide
    · exact F.setAcc _ _
  · rw [List.concat_eq_append] at F H ⊢
    have hq:qs.length < 100000:=by have:=H.p; simp at this; (first | lia | omega)
    have e1:asgS 1 (mE 4 popF lineE []) [some (.loc m),y] σ=some (.next,[some (.loc m),some (partAV p)],σ.set ac (.acc ini qs)):=by
      rw [asg_of (v:=partAV p) (σ₁:=σ.set ac (.acc ini qs)) (by rw [mLine (fs:=[]) (xs:=[]) rfl F rfl,pop_snoc F.acc (by (first | lia | omega))]) (by simp)]; rfl
    have F1:=F.setAcc ini qs
    by_cases hp:p=((" " : Str),("" : Str))
    · subst hp
      refine ⟨σ.set ac (.acc ini qs),[some (.loc m),some (partAV (" ", ""))],?_,?_,.set (by simp),rfl,by simp⟩
      · rw [seq_next e1,seq_next (lc₁:=[some (.loc m),some (partAV (" ", ""))]) (σ₁:=σ.set ac (.acc ini qs)),seq_nil]
        rw [if_f (σ₁:=σ.set ac (.acc ini qs)),seq_nil]
        simp [cmpT,nE,tupE,evs,cE,sizeLine_eq,cmp_part,AV.int?,AV.str?,AV.tup?,AV.lst?,AV.loc?,AO.list?,AO.acc?,lstAt,accAt,arg1,arg2,gd_if,gd_true,selfL]
      · have:lastSp (qs++[((" " : Str),("" : Str))])=qs:=by simp [lastSp]
        rw [this]; exact F1
    · obtain ⟨f,t⟩:=p
      have e2:pushF [.loc ac,.str f,.str t] (σ.set ac (.acc ini qs))=some (.none,(σ.set ac (.acc ini qs)).set ac (.acc ini (qs++[(f,t)]))):=push_eq F1.acc (by (first | lia | omega))
      refine ⟨(σ.set ac (.acc ini qs)).set ac (.acc ini (qs++[(f,t)])),[some (.loc m),some (partAV (f,t))],?_,?_,(Same.set (by simp)).trans (.set (by simp)),rfl,by simp⟩
      · rw [seq_next e1,seq_next (lc₁:=[some (.loc m),some (partAV (f,t))]) (σ₁:=(σ.set ac (.acc ini qs)).set ac (.acc ini (qs++[(f,t)]))),seq_nil]
        rw [if_t (σ₁:=σ.set ac (.acc ini qs))]
        · rw [seq_next (lc₁:=[some (.loc m),some (partAV (f,t))]) (σ₁:=(σ.set ac (.acc ini qs)).set ac (.acc ini (qs++[(f,t)]))),seq_nil]
          refine expr_of (v:=.none) ?_
          simp only [mStarE,line_eq (lc:=[some (.loc m),some (partAV (f,t))]) rfl F1,kind_loc_eq,kind_str,kind_lst,kindO,F1.acc,AV.int?,AV.str?,AV.tup?,AV.lst?,AV.loc?,AO.list?,AO.acc?,lstAt,accAt,arg1,arg2,gd_if,gd_true,selfL,Option.bind_some,Option.bind_none,Option.some_or,Option.none_or,Option.or_none,Option.map_some,Option.map_none,Option.getD_some,↓reduceIte]
          simp only [nE,partAV,List.getElem?_cons_succ,List.getElem?_cons_zero,AV.int?,AV.str?,AV.tup?,AV.lst?,AV.loc?,AO.list?,AO.acc?,lstAt,accAt,arg1,arg2,gd_if,gd_true,selfL,Option.bind_some,Option.bind_none,Option.some_or,Option.none_or,Option.or_none,Option.map_some,Option.map_none,Option.getD_some,↓reduceIte]
          simp [e2]
        · have:((f,t) != ((" " : Str),("" : Str)))=true:=by simpa [bne_iff_ne] using hp
          simp [cmpT,nE,tupE,evs,cE,sizeLine_eq,cmp_part,this,AV.int?,AV.str?,AV.tup?,AV.lst?,AV.loc?,AO.list?,AO.acc?,lstAt,accAt,arg1,arg2,gd_if,gd_true,selfL]
      · have:lastSp (qs++[(f,t)])=qs++[(f,t)]:=by
          unfold lastSp
          rw [if_neg (by simp),if_neg]
          simpa using hp
        rw [this]; exact F1.setAcc _ _
set_option tactic.hygienic false
theorem onlyE_eq (h0:lc[0]?=some (some (.loc m))) (F:FmtAt σ m ln ac ml cw cwl sp rows ini ps) (H:Fits rows ini ps):trT (mE 4 onlywsF lineE []) lc σ=some (onlySp ini ps,σ):=by
  have e:=onlyws_eq F.acc H.acc H.i0 (by have:=H.i1; (first | lia | omega))
  simp [trT,mLine (fs:=[]) (xs:=[]) h0 F rfl,e,atruth_none,atruth_bool,atruth_int,atruth_str,atruth_lst,atruth_loc,onlySp,AV.int?,AV.str?,AV.tup?,AV.lst?,AV.loc?,AO.list?,AO.acc?,lstAt,accAt,arg1,arg2,gd_if,gd_true,selfL]
theorem rowsT_eq (h0:lc[0]?=some (some (.loc m))) (F:FmtAt σ m ln ac ml cw cwl sp rows ini ps) (H:Fits rows ini ps):trT linesE lc σ=some (!rows.isEmpty,σ):=by
  have:rows.length≤16777216:=by have:=H.r; (first | lia | omega)
  simp [trT,lines_eq h0 F,atruth_none,atruth_bool,atruth_int,atruth_str,atruth_lst,atruth_loc,asList_lst,asList_loc,F.li,sizeLine_eq,this,AV.int?,AV.str?,AV.tup?,AV.lst?,AV.loc?,AO.list?,AO.acc?,lstAt,accAt,arg1,arg2,gd_if,gd_true,selfL]
theorem lenLine_eq (h0:lc[0]?=some (some (.loc m))) (F:FmtAt σ m ln ac ml cw cwl sp rows ini ps) (H:Fits rows ini ps):callE (lenF accLenF) [lineE] lc σ=some (.int (ini + partsLen ps),σ):=by
  simp [callE,evs,line_eq h0 F,len_eq F.acc H.acc H.i0 (show ini≤1000000 by have:=H.i1; (first | lia | omega)),AV.int?,AV.str?,AV.tup?,AV.lst?,AV.loc?,AO.list?,AO.acc?,lstAt,accAt,arg1,arg2,gd_if,gd_true,selfL]
theorem str_len_eq (x y:Str):(x++y).length=x.length + y.length:=by
  show (x++y).cps.size=_
  rw [Str.cps_append,Array.size_append]
  rfl
theorem fold_cps (xs:List Str):∀ acc:Array Nat,(xs.foldl (fun acc p=>acc++("" : Str).cps++p.cps) acc).toList=acc.toList++(xs.map (·.cps.toList)).flatten:=by
  induction xs with
  | nil=>intro acc; simp
  | cons x xs ih =>
    intro acc
    rw [List.foldl_cons,ih]
    have:("" : Str).cps=#[]:=by decide
    simp [this]
theorem join_cps (xs:List Str):(Txt.join "" xs).cps.toList=(xs.map (·.cps.toList)).flatten:=by
  cases xs with
  | nil=>rfl
  | cons x xs =>
    show (xs.foldl (fun acc p=>acc++("" : Str).cps++p.cps) x.cps).toList=_
    rw [fold_cps]; simp
theorem str_ext {x y:Str} (h:x.cps.toList=y.cps.toList):x=y:=by
  cases x; cases y
  simp at h
  simp [h]
theorem app_cps (x y:Str):(x++y).cps.toList=x.cps.toList++y.cps.toList:=by rw [Str.cps_append,Array.toList_append]
theorem join_cons (x:Str) (xs:List Str):Txt.join "" (x :: xs)=x++Txt.join "" xs:=str_ext (by rw [join_cps,app_cps,join_cps]; simp)
theorem accText_nil:accText [] = "" := rfl
theorem accText_cons (p:Str × Str) (ps:List (Str × Str)):accText (p :: ps)=partStr p++accText ps:=by unfold accText; rw [List.map_cons,join_cons]
theorem str_app_assoc (x y z:Str):x++y++z=x++(y++z):=str_ext (by simp only [app_cps,List.append_assoc])
theorem str_nil_app (x:Str) : "" ++ x=x:=str_ext (by rw [app_cps]; rfl)
theorem str_app_nil (x:Str):x ++ "" = x:=str_ext (by rw [app_cps,show ("" : Str).cps.toList=[] from by decide,List.append_nil])
theorem accText_append (ps qs:List (Str × Str)):accText (ps++qs)=accText ps++accText qs:=by
  induction ps with
  | nil=>rw [List.nil_append,accText_nil,str_nil_app]
  | cons p ps ih=>rw [List.cons_append,accText_cons,accText_cons,ih,str_app_assoc]
theorem accText_len (ps:List (Str × Str)):((accText ps).length:Int)=partsLen ps:=by
  induction ps with
  | nil=>rfl
  | cons p ps ih=>rw [accText_cons,str_len_eq,partsLen_cons,Int.natCast_add,ih,partStr_len]
set_option tactic.hygienic true
theorem glue_row (h0:lc[0]?=some (some (.loc m))) (F:FmtAt σ m ln ac ml cw cwl sp rows ini ps) (H:Fits rows ini ps) (hr:rows≠[]) :
    augIdxS linesE (negE (cE (.int 1))) .Add strAcc lc σ=some (.next,lc,σ.set ln (.list ((rows.dropLast++[(rows.getLast?.getD "")++accText ps]).map AV.str))):=by
  obtain ⟨rs,r,rfl⟩:∃ rs r,rows=rs++[r]:=by
    rcases List.eq_nil_or_concat rows with h | ⟨rs,r,h⟩
    · exact absurd h hr
    · exact ⟨rs,r,by rw [h,List.concat_eq_append]⟩
  have hn:=H.r
  rw [List.length_append,List.length_singleton] at hn
  have ht:=H.t
  rw [List.map_append,List.sum_append] at ht
  simp at ht
  have e1:seqIndex? (-1) (rs.length + 1)=some rs.length:=sidx_last (Nat.succ_pos _)
  have e2:(accText ps).length≤100000:=by have:=accText_len ps; have:=H.l; (first | lia | omega)
  have e3:r.length + (accText ps).length≤1000000:=by (first | lia | omega)
  have e4:=putAt_list (v:=.str (r++accText ps)) (i:=-1) F.li (by decide) (by rw [List.length_map,List.length_append]; exact e1) (by rw [List.length_map,List.length_append]; exact Nat.lt_succ_self _)
  have e5:aget σ (.loc ln) (-1)=some (.str r):=by
    rw [aget_seq (asSeq_list F.li),if_pos (by decide),List.length_map,List.length_append,List.length_singleton,e1]
    simp
  have e6:ainp .Add (.str r) (.str (accText ps))=some (.str (r++accText ps)):=by rw [ainp_str,gd_of (decide_eq_true e3)]
  simp [augIdxS,lines_eq h0 F,negE,cE,AV.loc?,AV.int?,e5,strAcc_eq h0 F H.acc,e6,e4]
theorem newline_spec (F:FmtAt σ m ln ac ml cw cwl sp rows ini ps) (H:Fits rows ini ps):∃ σ',newlineF [.loc m] σ=some (.none,σ')∧FmtAt σ' m ln ac ml cw cwl sp (nlRows rows ini ps) 0 []∧Same [ln,ac] σ σ'∧σ'.length=σ.length:=by
  (refine x2_5 (pop_push F H (lc0 ["self", "end_of_line"] [.loc m]) rfl rfl) fun σ₁ lc₁ e1 F1 S1 h1 z1=>?_)
  have H1:=H.last
  have S1':Same [ln,ac] σ σ₁:=⟨S1.1,fun k hk=>S1.2 k (by simp at hk ⊢; exact hk.2)⟩
  have fin:∀ {σ₂:St} {rs:List Str} {i:Int} {qs:List (Str × Str)},FmtAt σ₂ m ln ac ml cw cwl sp rs i qs→qs.length≤1000000→exprS (mE 4 resetF lineE []) lc₁ σ₂=some (.next,lc₁,σ₂.set ac (.acc 0 [])):=fun G hq=>expr_of (v:=.none) (by rw [mLine (fs:=[]) (xs:=[]) h1 G rfl,reset1_eq G.acc hq])
  have hq:(lastSp ps).length≤1000000:=by have:=H1.p; (first | lia | omega)
  have go:∀ {σ₂:St} {rs:List Str},ifS (cmpT .Gt (callE (lenF accLenF) [lineE]) (cE (.int 0)))
    (seqS [ifS (andT [trT (mE 4 onlywsF lineE []),trT linesE])
      (seqS [augIdxS linesE (negE (cE (.int 1))) .Add strAcc])
      (seqS [exprS (mE 2 appendF linesE [strAcc])])]) (seqS []) lc₁ σ₁=some (.next,lc₁,σ₂)→FmtAt σ₂ m ln ac ml cw cwl sp rs ini (lastSp ps)→Same [ln,ac] σ₁ σ₂→σ₂.length=σ₁.length→nlRows rows ini ps=rs →
      ∃ σ',newlineF [.loc m] σ=some (.none,σ')∧FmtAt σ' m ln ac ml cw cwl sp (nlRows rows ini ps) 0 []∧Same [ln,ac] σ σ'∧σ'.length=σ.length:=by
    intro σ₂ rs e2 F2 S2 z2 hr
    refine ⟨σ₂.set ac (.acc 0 []),?_,?_,(S1'.trans S2).trans (.set (by simp)),by simp [z2,z1]⟩
    · refine run_next (lc':=lc₁) rfl ?_
      have:newlineB (lc0 ["self", "end_of_line"] [.loc m]) σ=seqS [ifS (cmpT .Gt (callE (lenF accLenF) [lineE]) (cE (.int 0)))
          (seqS [ifS (andT [trT (mE 4 onlywsF lineE []),trT linesE])
            (seqS [augIdxS linesE (negE (cE (.int 1))) .Add strAcc])
            (seqS [exprS (mE 2 appendF linesE [strAcc])])]) (seqS []),exprS (mE 4 resetF lineE [])] lc₁ σ₁:=by
        exact seq_app e1
      rw [this,seq_next e2,seq_next (fin F2 hq),seq_nil]
    · rw [hr]; exact F2.setAcc 0 []
  have eL:=lenLine_eq h1 F1 H1
  by_cases hpos:0 < ini + partsLen (lastSp ps)
  · have t1:cmpT .Gt (callE (lenF accLenF) [lineE]) (cE (.int 0)) lc₁ σ₁=some (true,σ₁):=by simp [cmpT,eL,cE,acmp,twoInts_int,isNone,aeqv,toPD_none,toPD_bool,toPD_int,toPD_str,toPD_tup,toPD_lst,toPD_loc,optAll,PyData.eqv,hpos,AV.int?,AV.str?,AV.tup?,AV.lst?,AV.loc?,AO.list?,AO.acc?,lstAt,accAt,arg1,arg2,gd_if,gd_true,selfL]
    by_cases hg:(onlySp ini (lastSp ps) && !rows.isEmpty)=true
    · have hne:rows≠[]:=by rintro rfl; simp at hg
      refine go (rs:=rows.dropLast++[(rows.getLast?.getD "")++accText (lastSp ps)]) ?_ (F1.setLi _) (.set (by simp)) (by simp) (by unfold nlRows; rw [if_pos hpos,if_pos hg])
      rw [if_t t1,seq_next (lc₁:=lc₁) (σ₁:=σ₁.set ln (.list ((rows.dropLast++[(rows.getLast?.getD "")++accText (lastSp ps)]).map AV.str))),seq_nil]
      rw [if_t (σ₁:=σ₁),seq_next (glue_row h1 F1 H1 hne),seq_nil]
      rw [Bool.and_eq_true] at hg
      simp only [andT,onlyE_eq h1 F1 H1,rowsT_eq h1 F1 H1,hg.1,hg.2,AV.int?,AV.str?,AV.tup?,AV.lst?,AV.loc?,AO.list?,AO.acc?,lstAt,accAt,arg1,arg2,gd_if,gd_true,selfL,Option.bind_some,Option.bind_none,Option.some_or,Option.none_or,Option.or_none,Option.map_some,Option.map_none,Option.getD_some,↓reduceIte]
    · refine go (rs:=rows++[accText (lastSp ps)]) ?_ (F1.setLi _) (.set (by simp)) (by simp) (by unfold nlRows; rw [if_pos hpos,if_neg hg])
      rw [if_t t1,seq_next (lc₁:=lc₁) (σ₁:=σ₁.set ln (.list ((rows++[accText (lastSp ps)]).map AV.str))),seq_nil]
      rw [if_f (σ₁:=σ₁),seq_next (expr_of (append_rows h1 F1 H1.acc (by have:=H.r; (first | lia | omega)))),seq_nil]
      simp only [andT,onlyE_eq h1 F1 H1,rowsT_eq h1 F1 H1,AV.int?,AV.str?,AV.tup?,AV.lst?,AV.loc?,AO.list?,AO.acc?,lstAt,accAt,arg1,arg2,gd_if,gd_true,selfL,Option.bind_some,Option.bind_none,Option.some_or,Option.none_or,Option.or_none,Option.map_some,Option.map_none,Option.getD_some,↓reduceIte]
      cases h3:onlySp ini (lastSp ps) with
      | false=>rfl
      | true =>
        cases h4:rows.isEmpty with
        | true=>rfl
        | false=>rw [h3,h4] at hg; exact absurd rfl hg
  · refine go (rs:=rows) ?_ F1 .refl rfl (by unfold nlRows; rw [if_neg hpos])
    rw [if_f (σ₁:=σ₁),seq_nil]
    simp [cmpT,eL,cE,acmp,twoInts_int,isNone,aeqv,toPD_none,toPD_bool,toPD_int,toPD_str,toPD_tup,toPD_lst,toPD_loc,optAll,PyData.eqv,hpos,AV.int?,AV.str?,AV.tup?,AV.lst?,AV.loc?,AO.list?,AO.acc?,lstAt,accAt,arg1,arg2,gd_if,gd_true,selfL]
end
noncomputable def startsC (x:Str) (c:Nat):Bool:=x.cps[0]? == some c
noncomputable def endsC (x:Str) (c:Nat):Bool:=x.cps[x.cps.size - 1]? == some c
noncomputable def fstAt (ps:List (Str × Str)) (i:Nat):Str:=(ps[i]?.map (·.1)).getD ""
noncomputable def sndAt (ps:List (Str × Str)) (i:Nat):Str:=(ps[i]?.map (·.2)).getD ""
noncomputable def hitAt (ps:List (Str × Str)) (c i:Nat):Bool:=(Txt.isspace ⟨#[c]⟩ && startsC (fstAt ps i) c) || endsC (sndAt ps (i - 1)) c
noncomputable def seekI (ps:List (Str × Str)) (c:Nat):Nat→Option Nat
  | 0=>none
  | i + 1=>if hitAt ps c (i + 1) then some (i + 1) else seekI ps c i
noncomputable def seek (ps:List (Str × Str)):List Nat→Option Nat
  | []=>none
  | c :: r=>match seekI ps c (ps.length - 1) with
    | some i=>some i
    | none=>seek ps r
theorem rangeDown (n:Nat):Builtin.Range.rangeSize (n:Int) 0 (-1)=n:=by
  unfold Builtin.Range.rangeSize
  simp
  try (first | lia | omega)
theorem sgn_beq (a b:Nat):((⟨#[a]⟩:Str) == ⟨#[b]⟩)=(a == b):=by
  rw [Bool.eq_iff_iff,beq_iff_eq,beq_iff_eq]
  simp
section
variable {σ:St} {m ln ac:Nat} {ml:Int} {cw:Str} {cwl:Int} {sp:Str} {rows:List Str} {ini:Int} {ps:List (Str × Str)} {lc:Lc}
theorem aget_part {i:Nat} {p:Str × Str} (h:σ[ac]?=some (.acc ini ps)) (hp:ps[i]?=some p) (hl:ps.length≤100000):aget σ (.loc ac) (i:Int)=some (partAV p):=by
  have hi:=(List.getElem?_eq_some_iff.mp hp).1
  have e:seqIndex? (i:Int) ps.length=some i:=sidx hi
  rw [aget_seq (asSeq_acc h),if_pos (by (first | lia | omega)),List.length_map,e]
  show (ps.map partAV)[i]?=_
  rw [List.getElem?_map,hp]
  rfl
theorem startsT_eq {i:Nat} {x:Str} {c j:Nat} (h1:lc[i]?=some (some (.str x))) (h3:lc[j]?=some (some (signAV c))) (hx:x.length≤100000) :
    andT [trT (nE i),cmpT .Eq (idxE (nE i) (cE (.int 0))) (nE j)] lc σ=some (startsC x c,σ):=by
  have hz:x.length≤16777216:=by (first | lia | omega)
  unfold startsC
  cases hx0:x.cps[0]? with
  | none =>
    have:x.cps.size=0:=by
      rcases Nat.eq_zero_or_pos x.cps.size with h | h
      · exact h
      · rw [Array.getElem?_eq_getElem h] at hx0; cases hx0
    have e:((x.length:Int) != 0)=false:=by
      have:x.length=0:=this
      simp [this]
    simp [andT,trT,nE,h1,atruth_none,atruth_bool,atruth_int,atruth_str,atruth_lst,atruth_loc,sizeLine_eq,hz,e,AV.int?,AV.str?,AV.tup?,AV.lst?,AV.loc?,AO.list?,AO.acc?,lstAt,accAt,arg1,arg2,gd_if,gd_true,selfL]
  | some a =>
    have hpos:0 < x.cps.size:=(Array.getElem?_eq_some_iff.mp hx0).1
    have e:((x.length:Int) != 0)=true:=by
      have:0 < x.length:=hpos
      rw [bne_iff_ne]; (first | lia | omega)
    have e2:seqIndex? 0 x.length=some 0:=sidx (k:=0) hpos
    simp [andT,trT,nE,h1,atruth_none,atruth_bool,atruth_int,atruth_str,atruth_lst,atruth_loc,sizeLine_eq,hz,e,cmpT,idxE,cE,aget_tup,aget_lst,aget_str,e2,hx0,h3,signAV,acmp,twoInts_int,isNone,aeqv,toPD_none,toPD_bool,toPD_int,toPD_str,toPD_tup,toPD_lst,toPD_loc,optAll,PyData.eqv,sgn_beq,AV.int?,AV.str?,AV.tup?,AV.lst?,AV.loc?,AO.list?,AO.acc?,lstAt,accAt,arg1,arg2,gd_if,gd_true,selfL]
    split <;> simp_all
theorem endsT_eq {i:Nat} {x:Str} {c j:Nat} (h1:lc[i]?=some (some (.str x))) (h3:lc[j]?=some (some (signAV c))) (hx:x.length≤100000) :
    andT [trT (nE i),cmpT .Eq (idxE (nE i) (negE (cE (.int 1)))) (nE j)] lc σ=some (endsC x c,σ):=by
  have hz:x.length≤16777216:=by (first | lia | omega)
  unfold endsC
  cases hx0:x.cps[x.cps.size - 1]? with
  | none =>
    have:x.cps.size=0:=by
      rcases Nat.eq_zero_or_pos x.cps.size with h | h
      · exact h
      · rw [Array.getElem?_eq_getElem (by (first | lia | omega))] at hx0; cases hx0
    have e:((x.length:Int) != 0)=false:=by
      have:x.length=0:=this
      simp [this]
    simp [andT,trT,nE,h1,atruth_none,atruth_bool,atruth_int,atruth_str,atruth_lst,atruth_loc,sizeLine_eq,hz,e,AV.int?,AV.str?,AV.tup?,AV.lst?,AV.loc?,AO.list?,AO.acc?,lstAt,accAt,arg1,arg2,gd_if,gd_true,selfL]
  | some a =>
    have hpos:0 < x.cps.size:=by have:=(Array.getElem?_eq_some_iff.mp hx0).1; (first | lia | omega)
    have e:((x.length:Int) != 0)=true:=by
      have:0 < x.length:=hpos
      rw [bne_iff_ne]; (first | lia | omega)
    have e2:seqIndex? (-1) x.length=some (x.cps.size - 1):=sidx_last hpos
    simp [andT,trT,nE,h1,atruth_none,atruth_bool,atruth_int,atruth_str,atruth_lst,atruth_loc,sizeLine_eq,hz,e,cmpT,idxE,cE,negE,aget_tup,aget_lst,aget_str,e2,hx0,h3,signAV,acmp,twoInts_int,isNone,aeqv,toPD_none,toPD_bool,toPD_int,toPD_str,toPD_tup,toPD_lst,toPD_loc,optAll,PyData.eqv,sgn_beq,AV.int?,AV.str?,AV.tup?,AV.lst?,AV.loc?,AO.list?,AO.acc?,lstAt,accAt,arg1,arg2,gd_if,gd_true,selfL]
    split <;> simp_all
theorem part_small {p:Str × Str} (H:Fits rows ini ps) (h:p∈ps):p.1.length≤100000∧p.2.length≤100000:=by
  have:=partLen_le h
  have:=H.l
  unfold partLen at *
  (first | lia | omega)
theorem fst_eq {i:Nat} (h0:lc[0]?=some (some (.loc m))) (h4:lc[4]?=some (some (.int (i:Int)))) (F:FmtAt σ m ln ac ml cw cwl sp rows ini ps) (H:Fits rows ini ps) (hi:i < ps.length) :
    idxE (idxE lineE (nE 4)) (cE (.int 0)) lc σ=some (.str (fstAt ps i),σ):=by
  have e:fstAt ps i=ps[i].1:=by unfold fstAt; rw [List.getElem?_eq_getElem hi]; rfl
  rw [e]
  exact idx_of (idx_of (line_eq h0 F) (nE_of h4) (aget_part F.acc (List.getElem?_eq_getElem hi) H.p)) rfl aget_fst
theorem snd_eq {i:Nat} (h0:lc[0]?=some (some (.loc m))) (h4:lc[4]?=some (some (.int ((i + 1:Nat):Int)))) (F:FmtAt σ m ln ac ml cw cwl sp rows ini ps) (H:Fits rows ini ps) (hi:i < ps.length) :
    idxE (idxE lineE (binE .Sub (nE 4) (cE (.int 1)))) (cE (.int 1)) lc σ=some (.str (sndAt ps i),σ):=by
  have e:sndAt ps i=ps[i].2:=by unfold sndAt; rw [List.getElem?_eq_getElem hi]; rfl
  have e3:(((i + 1:Nat):Int) - 1)=(i:Int):=by (first | lia | omega)
  have e4:binE .Sub (nE 4) (cE (.int 1)) lc σ=some (.int (i:Int),σ):=by simp [binE,nE,h4,cE,abin,twoI_int,e3]
  rw [e]
  exact idx_of (idx_of (line_eq h0 F) e4 (aget_part F.acc (List.getElem?_eq_getElem hi) H.p)) rfl aget_snd
set_option tactic.hygienic true
theorem seekB_spec {c i:Nat} {a1 a2 a5 a6 a7:Option AV} (F:FmtAt σ m ln ac ml cw cwl sp rows ini ps) (H:Fits rows ini ps) (hi:i + 1 < ps.length) :
    ∃ b1 b5,seekB [some (.loc m),a1,a2,some (signAV c),some (.int ((i + 1:Nat):Int)),a5,a6,a7] σ=some (if hitAt ps c (i + 1) then .brk else .next,[some (.loc m),b1,a2,some (signAV c),some (.int ((i + 1:Nat):Int)),b5,a6,a7],σ):=by
  have p1:=part_small H (List.getElem_mem hi)
  have p2:=part_small H (List.getElem_mem (Nat.lt_of_succ_lt hi))
  have f1:(fstAt ps (i + 1)).length≤100000:=by simp [fstAt,List.getElem?_eq_getElem hi]; exact p1.1
  have f2:(sndAt ps i).length≤100000:=by simp [sndAt,List.getElem?_eq_getElem (Nat.lt_of_succ_lt hi)]; exact p2.2
  have sec:∀ b1,∃ b5,seqS [asgS 5 (idxE (idxE lineE (binE .Sub (nE 4) (cE (.int 1)))) (cE (.int 1))),
      ifS (andT [trT (nE 5),cmpT .Eq (idxE (nE 5) (negE (cE (.int 1)))) (nE 3)]) (seqS [brkS]) (seqS [])] [some (.loc m),b1,a2,some (signAV c),some (.int ((i + 1:Nat):Int)),a5,a6,a7] σ =
      some (if endsC (sndAt ps i) c then .brk else .next,[some (.loc m),b1,a2,some (signAV c),some (.int ((i + 1:Nat):Int)),b5,a6,a7],σ):=by
    intro b1
    refine ⟨some (.str (sndAt ps i)),?_⟩
    rw [seq_next (asg_of (snd_eq rfl rfl F H (Nat.lt_of_succ_lt hi)) (by simp))]
    show seqS _ [some (.loc m),b1,a2,some (signAV c),some (.int ((i + 1:Nat):Int)),some (.str (sndAt ps i)),a6,a7] σ=_
    have e:=endsT_eq (σ:=σ) (lc:=[some (.loc m),b1,a2,some (signAV c),some (.int ((i + 1:Nat):Int)),some (.str (sndAt ps i)),a6,a7]) (i:=5) (j:=3) rfl rfl f2
    cases hE:endsC (sndAt ps i) c with
    | true =>
      rw [hE] at e
      rw [seq_brk (lc₁:=[some (.loc m),b1,a2,some (signAV c),some (.int ((i + 1:Nat):Int)),some (.str (sndAt ps i)),a6,a7]) (σ₁:=σ)]
      · rfl
      · rw [if_t e]; rfl
    | false =>
      rw [hE] at e
      rw [seq_next (lc₁:=[some (.loc m),b1,a2,some (signAV c),some (.int ((i + 1:Nat):Int)),some (.str (sndAt ps i)),a6,a7]) (σ₁:=σ),seq_nil]
      · rfl
      · rw [if_f e]; rfl
  have tsp:trT (mE 1 isspaceF (nE 3) []) [some (.loc m),a1,a2,some (signAV c),some (.int ((i + 1:Nat):Int)),a5,a6,a7] σ=some (Txt.isspace ⟨#[c]⟩,σ):=by
    simp [trT,mE,nE,signAV,kind_loc_eq,kind_str,kind_lst,kindO,evs,isspaceF,atruth_none,atruth_bool,atruth_int,atruth_str,atruth_lst,atruth_loc,AV.int?,AV.str?,AV.tup?,AV.lst?,AV.loc?,AO.list?,AO.acc?,lstAt,accAt,arg1,arg2,gd_if,gd_true,selfL]
  unfold seekB
  cases hsp:Txt.isspace ⟨#[c]⟩ with
  | false =>
    rw [hsp] at tsp
    (refine x1_1 (sec a1) fun b5 e=>?_)
    refine ⟨a1,b5,?_⟩
    rw [seq_next (lc₁:=[some (.loc m),a1,a2,some (signAV c),some (.int ((i + 1:Nat):Int)),a5,a6,a7]) (σ₁:=σ) (by rw [if_f tsp]; rfl),e]
    simp [hitAt,hsp]
  | true =>
    rw [hsp] at tsp
    have e1:=startsT_eq (σ:=σ) (lc:=[some (.loc m),some (.str (fstAt ps (i + 1))),a2,some (signAV c),some (.int ((i + 1:Nat):Int)),a5,a6,a7]) (i:=1) (j:=3) rfl rfl f1
    have body:∀ fl lc',seqS [ifS (andT [trT (nE 1),cmpT .Eq (idxE (nE 1) (cE (.int 0))) (nE 3)]) (seqS [brkS]) (seqS [])] [some (.loc m),some (.str (fstAt ps (i + 1))),a2,some (signAV c),some (.int ((i + 1:Nat):Int)),a5,a6,a7] σ=some (fl,lc',σ) →
        ifS (trT (mE 1 isspaceF (nE 3) [])) (seqS [
          asgS 1 (idxE (idxE lineE (nE 4)) (cE (.int 0))),
          ifS (andT [trT (nE 1),cmpT .Eq (idxE (nE 1) (cE (.int 0))) (nE 3)]) (seqS [brkS]) (seqS [])]) (seqS []) [some (.loc m),a1,a2,some (signAV c),some (.int ((i + 1:Nat):Int)),a5,a6,a7] σ=some (fl,lc',σ):=by
      intro fl lc' h
      rw [if_t tsp,seq_next (asg_of (fst_eq rfl rfl F H hi) (by simp))]
      exact h
    cases hS:startsC (fstAt ps (i + 1)) c with
    | true =>
      rw [hS] at e1
      refine ⟨some (.str (fstAt ps (i + 1))),a5,?_⟩
      rw [seq_brk (body .brk [some (.loc m),some (.str (fstAt ps (i + 1))),a2,some (signAV c),some (.int ((i + 1:Nat):Int)),a5,a6,a7] (seq_brk (by rw [if_t e1]; rfl)))]
      simp [hitAt,hsp,hS]
    | false =>
      rw [hS] at e1
      (refine x1_1 (sec (some (.str (fstAt ps (i + 1))))) fun b5 e=>?_)
      refine ⟨some (.str (fstAt ps (i + 1))),b5,?_⟩
      rw [seq_next (body .next [some (.loc m),some (.str (fstAt ps (i + 1))),a2,some (signAV c),some (.int ((i + 1:Nat):Int)),a5,a6,a7] (by rw [seq_next (by rw [if_f e1]; rfl)]; rfl)),e]
      simp [hitAt,hsp,hS]
end
section
variable {σ:St} {m ln ac:Nat} {ml:Int} {cw:Str} {cwl:Int} {sp:Str} {rows:List Str} {ini:Int} {ps:List (Str × Str)} {lc:Lc}
set_option tactic.hygienic true
theorem inner_spec {c N:Nat} (F:FmtAt σ m ln ac ml cw cwl sp rows ini ps) (H:Fits rows ini ps) (hN:N + 1=ps.length) :
    ∀ (k t fuel:Nat) (a1 a2 a4 a5 a6 a7:Option AV),k + t=N→k < fuel→∃ b1 b4 b5,loopS (nxR (N:Int) 0 (-1)) (fun lc y=>putL lc 4 y) seekB (seqS [contS]) fuel t [some (.loc m),a1,a2,some (signAV c),a4,a5,a6,a7] σ =
      some (match seekI ps c k with | some _=>.next | none=>.cont,[some (.loc m),b1,a2,some (signAV c),b4,b5,a6,a7],σ)∧∀ i,seekI ps c k=some i→b4=some (.int (i:Int)):=by
  intro k
  induction k with
  | zero =>
    intro t fuel a1 a2 a4 a5 a6 a7 hk hf
    obtain ⟨fuel,rfl⟩:∃ f,fuel=f + 1:=⟨fuel - 1,by (first | lia | omega)⟩
    refine ⟨a1,a4,a5,?_,fun i h=>by cases h⟩
    have:nxR (N:Int) 0 (-1) σ t=some none:=by
      unfold nxR
      rw [rangeDown,decide_eq_false (by (first | lia | omega))]
      rfl
    rw [loop_stop this]
    rfl
  | succ k ih =>
    intro t fuel a1 a2 a4 a5 a6 a7 hk hf
    obtain ⟨fuel,rfl⟩:∃ f,fuel=f + 1:=⟨fuel - 1,by (first | lia | omega)⟩
    have e1:nxR (N:Int) 0 (-1) σ t=some (some (.int ((k + 1:Nat):Int))):=by
      unfold nxR
      rw [rangeDown,gd_of (decide_eq_true (by (first | lia | omega)))]
      congr 3
      (first | lia | omega)
    obtain ⟨b1,b5,e2⟩:=seekB_spec (c:=c) (i:=k) (a1:=a1) (a2:=a2) (a5:=a5) (a6:=a6) (a7:=a7) F H (by (first | lia | omega))
    have e3:putL [some (.loc m),a1,a2,some (signAV c),a4,a5,a6,a7] 4 (.int ((k + 1:Nat):Int))=some [some (.loc m),a1,a2,some (signAV c),some (.int ((k + 1:Nat):Int)),a5,a6,a7]:=rfl
    rw [loop_at (lc₁:=[some (.loc m),a1,a2,some (signAV c),some (.int ((k + 1:Nat):Int)),a5,a6,a7]) e1 e3 e2]
    by_cases hh:hitAt ps c (k + 1)=true
    · rw [if_pos hh]
      have e4:seekI ps c (k + 1)=some (k + 1):=by unfold seekI; rw [if_pos hh]
      rw [e4]
      exact ⟨b1,some (.int ((k + 1:Nat):Int)),b5,rfl,fun i h=>by cases h; rfl⟩
    · rw [if_neg hh]
      have e4:seekI ps c (k + 1)=seekI ps c k:=by rw [seekI,if_neg hh]
      rw [e4]
      exact ih (t + 1) fuel b1 a2 (some (.int ((k + 1:Nat):Int))) b5 a6 a7 (by (first | lia | omega)) (by (first | lia | omega))
set_option tactic.hygienic false
theorem okDown {N:Nat} (h:N < 1000000):okRange (N:Int) 0 (-1)=true:=by
  have f:Builtin.Range.rangeFitsLong (N:Int)=true:=by
    unfold Builtin.Range.rangeFitsLong
    rw [Bool.and_eq_true,decide_eq_true_eq,decide_eq_true_eq]
    constructor <;> (first | lia | omega)
  unfold okRange Builtin.Range.small
  rw [rangeDown,f]
  generalize ((N:Int) == 0)=z
  cases z <;> decide
set_option tactic.hygienic true
theorem turn_spec {c:Nat} {a1 a2 a4 a5 a6 a7:Option AV} (F:FmtAt σ m ln ac ml cw cwl sp rows ini ps) (H:Fits rows ini ps) (hp:ps≠[]) :
    ∃ b1 b4 b5,seqS [forRS 4 [binE .Sub (mE 4 pcF lineE []) (cE (.int 1)),cE (.int 0),negE (cE (.int 1))] seekB (seqS [contS]),brkS] [some (.loc m),a1,a2,some (signAV c),a4,a5,a6,a7] σ =
      some (match seekI ps c (ps.length - 1) with | some _=>.brk | none=>.cont,[some (.loc m),b1,a2,some (signAV c),b4,b5,a6,a7],σ)∧∀ i,seekI ps c (ps.length - 1)=some i→b4=some (.int (i:Int)):=by
  obtain ⟨N,hN⟩:∃ N,N + 1=ps.length:=⟨ps.length - 1,by have:=List.length_pos_iff.mpr hp; (first | lia | omega)⟩
  have hz:=H.p
  obtain ⟨b1,b4,b5,e,hb⟩:=inner_spec (c:=c) F H hN N 0 1000000 a1 a2 a4 a5 a6 a7 (by (first | lia | omega)) (by (first | lia | omega))
  have hNl:ps.length - 1=N:=by (first | lia | omega)
  rw [hNl]
  have ea:evs [binE .Sub (mE 4 pcF lineE []) (cE (.int 1)),cE (.int 0),negE (cE (.int 1))] [some (.loc m),a1,a2,some (signAV c),a4,a5,a6,a7] σ=some ([.int (N:Int),.int 0,.int (-1)],σ):=by
    have:((ps.length:Int) - 1)=N:=by (first | lia | omega)
    simp [evs,binE,mLine (fs:=[]) (xs:=[]) (lc:=[some (.loc m),a1,a2,some (signAV c),a4,a5,a6,a7]) rfl F rfl,pc_eq F.acc,cE,abin,twoI_int,negE,this,AV.int?,AV.str?,AV.tup?,AV.lst?,AV.loc?,AO.list?,AO.acc?,lstAt,accAt,arg1,arg2,gd_if,gd_true,selfL]
  have ef:forRS 4 [binE .Sub (mE 4 pcF lineE []) (cE (.int 1)),cE (.int 0),negE (cE (.int 1))] seekB (seqS [contS]) [some (.loc m),a1,a2,some (signAV c),a4,a5,a6,a7] σ=some (match seekI ps c N with | some _=>.next | none=>.cont,[some (.loc m),b1,a2,some (signAV c),b4,b5,a6,a7],σ):=by
    exact forR_of ea rfl (okDown (by (first | lia | omega))) e
  refine ⟨b1,b4,b5,?_,hb⟩
  cases hs:seekI ps c N with
  | none=>rw [hs] at ef; rw [seq_cont ef]
  | some i=>rw [hs] at ef; rw [seq_next ef]; rfl
theorem outer_spec {O:SM} (F:FmtAt σ m ln ac ml cw cwl sp rows ini ps) (H:Fits rows ini ps) (hp:ps≠[]) :
    ∀ (k t fuel:Nat) (a1 a2 a3 a4 a5 a6 a7:Option AV),k + t=sp.cps.size→k < fuel→∃ b1 b3 b4 b5,
      loopS (nxS sp) (fun lc y=>putL lc 3 y) (seqS [forRS 4 [binE .Sub (mE 4 pcF lineE []) (cE (.int 1)),cE (.int 0),negE (cE (.int 1))] seekB (seqS [contS]),brkS]) O fuel t [some (.loc m),a1,a2,a3,a4,a5,a6,a7] σ =
        (match seek ps (sp.cps.toList.drop t) with
          | some i=>some (.next,[some (.loc m),b1,a2,b3,some (.int (i:Int)),b5,a6,a7],σ)
          | none=>O [some (.loc m),b1,a2,b3,b4,b5,a6,a7] σ):=by
  intro k
  induction k with
  | zero =>
    intro t fuel a1 a2 a3 a4 a5 a6 a7 hk hf
    obtain ⟨fuel,rfl⟩:∃ f,fuel=f + 1:=⟨fuel - 1,by (first | lia | omega)⟩
    refine ⟨a1,a3,a4,a5,?_⟩
    have e0:sp.cps.toList.drop t=[]:=List.drop_of_length_le (by simp; (first | lia | omega))
    rw [e0]
    have:nxS sp σ t=some none:=by
      unfold nxS
      rw [Array.getElem?_eq_none (by (first | lia | omega))]; rfl
    rw [loop_stop this]
    rfl
  | succ k ih =>
    intro t fuel a1 a2 a3 a4 a5 a6 a7 hk hf
    obtain ⟨fuel,rfl⟩:∃ f,fuel=f + 1:=⟨fuel - 1,by (first | lia | omega)⟩
    have ht:t < sp.cps.size:=by (first | lia | omega)
    have e1:nxS sp σ t=some (some (signAV sp.cps[t])):=by
      unfold nxS
      rw [Array.getElem?_eq_getElem ht]; rfl
    have e0:sp.cps.toList.drop t=sp.cps[t] :: sp.cps.toList.drop (t + 1):=by
      rw [List.drop_eq_getElem_cons (by simpa using ht)]; simp
    (refine x3_2 (turn_spec (c:=sp.cps[t]) (a1:=a1) (a2:=a2) (a4:=a4) (a5:=a5) (a6:=a6) (a7:=a7) F H hp) fun b1 b4 b5 e2 hb=>?_)
    have e3:putL [some (.loc m),a1,a2,a3,a4,a5,a6,a7] 3 (signAV sp.cps[t])=some [some (.loc m),a1,a2,some (signAV sp.cps[t]),a4,a5,a6,a7]:=rfl
    rw [loop_at (st:=fun lc y=>putL lc 3 y) (lc₁:=[some (.loc m),a1,a2,some (signAV sp.cps[t]),a4,a5,a6,a7]) e1 e3 e2,e0]
    unfold seek
    cases hs:seekI ps sp.cps[t] (ps.length - 1) with
    | some i =>
      dsimp only
      rw [hb i hs]
      exact ⟨b1,some (signAV sp.cps[t]),b4,b5,rfl⟩
    | none =>
      dsimp only
      exact ih (t + 1) fuel b1 a2 (some (signAV sp.cps[t])) b4 b5 a6 a7 (by (first | lia | omega)) (by (first | lia | omega))
set_option tactic.hygienic false
theorem seekI_le {c:Nat}:∀ {k i:Nat},seekI ps c k=some i→i≤k∧0 < i
  | 0,i,h=>by cases h
  | k + 1,i,h=>by
    unfold seekI at h
    split at h
    · cases h; (first | lia | omega)
    · have:=seekI_le h; (first | lia | omega)
set_option tactic.hygienic true
theorem seek_le:∀ {cs:List Nat} {i:Nat},seek ps cs=some i→i≤ps.length - 1∧0 < i
  | [],i,h=>by cases h
  | c :: cs,i,h=>by
    unfold seek at h
    split at h
    · rename_i j e
      (refine c1 h fun hh0=>?_; clear h; subst hh0)
      exact seekI_le e
    · exact seek_le h
end
noncomputable def chunkP (ml:Int) (sp:Str) (rows:List Str) (ini:Int) (ps:List (Str × Str)) (f s:Str):List Str × Int × List (Str × Str) :=
  if ml < ini + partsLen (ps++[(f,s)]) then (match seek (ps++[(f,s)]) sp.cps.toList with
    | some i=>(rows++[accText ((ps++[(f,s)]).take i)],0,(ps++[(f,s)]).drop i)
    | none=>if 0 < ini then (nlRows rows ini ps,0,[(if f.length=0 then " " else f,s)]) else (rows,ini,ps++[(f,s)]))
  else (rows,ini,ps++[(f,s)])
section
variable {σ:St} {m ln ac:Nat} {ml:Int} {cw:Str} {cwl:Int} {sp:Str} {rows:List Str} {ini:Int} {ps:List (Str × Str)} {lc:Lc}
theorem Fits.init {f s:Str} (H:Fits rows ini (ps++[(f,s)])):Fits rows ini ps:=by
  have:=H.p
  have h:=H.l
  rw [partsLen_append] at h
  have:=partsLen_nonneg [(f,s)]
  exact ⟨H.r,H.t,by have:=H.p; simp at this; (first | lia | omega),by (first | lia | omega),H.i0,H.i1⟩
theorem Fits.take (H:Fits rows ini ps) (i:Nat):Fits rows ini (ps.take i):=by
  have h:partsLen ps=partsLen (ps.take i) + partsLen (ps.drop i):=by rw [← partsLen_append,List.take_append_drop]
  have:=partsLen_nonneg (ps.drop i)
  have:=H.l
  exact ⟨H.r,H.t,by have:=H.p; rw [List.length_take]; (first | lia | omega),by (first | lia | omega),H.i0,H.i1⟩
set_option tactic.hygienic true
theorem chunk_spec {f s:Str} (F:FmtAt σ m ln ac ml cw cwl sp rows ini ps) (H:Fits rows ini (ps++[(f,s)])) (hsp:sp.cps.size≤1000) :
    ∃ σ',chunkF [.loc m,.str f,.str s] σ=some (.none,σ')∧FmtAt σ' m ln ac ml cw cwl sp (chunkP ml sp rows ini ps f s).1 (chunkP ml sp rows ini ps f s).2.1 (chunkP ml sp rows ini ps f s).2.2∧Same [ln,ac] σ σ'∧σ'.length=σ.length:=by
  have H0:=H.init
  have hp:ps++[(f,s)]≠[]:=by simp
  have hz:(ps++[(f,s)]).length≤1000000:=by have:=H.p; (first | lia | omega)
  have hz0:ps.length≤1000000:=by simp at hz; (first | lia | omega)
  -- push
  have e1:exprS (mE 4 pushF lineE [nE 1,nE 2]) [some (.loc m),some (.str f),some (.str s),none,none,none,none,none] σ=some (.next,[some (.loc m),some (.str f),some (.str s),none,none,none,none,none],σ.set ac (.acc ini (ps++[(f,s)]))) :=
    expr_of (v:=.none) (by rw [mLine (xs:=[.str f,.str s]) rfl F rfl,push_eq F.acc hz0])
  have F1:=F.setAcc ini (ps++[(f,s)])
  have S1:Same [ln,ac] σ (σ.set ac (.acc ini (ps++[(f,s)]))):=.set (by simp)
  have z1:(σ.set ac (.acc ini (ps++[(f,s)]))).length=σ.length:=by simp
  generalize σ.set ac (.acc ini (ps++[(f,s)]))=σ₁ at e1 F1 S1 z1
  have eL:=lenLine_eq (lc:=[some (.loc m),some (.str f),some (.str s),none,none,none,none,none]) rfl F1 H
  have eM:attrE 0 (nE 0) [some (.loc m),some (.str f),some (.str s),none,none,none,none,none] σ₁=some (.int ml,σ₁):=by simp [attrE,nE,F1.fm,attrOf,fmtAttrs,AV.int?,AV.str?,AV.tup?,AV.lst?,AV.loc?,AO.list?,AO.acc?,lstAt,accAt,arg1,arg2,gd_if,gd_true,selfL]
  have eT:cmpT .Gt (callE (lenF accLenF) [lineE]) (attrE 0 (nE 0)) [some (.loc m),some (.str f),some (.str s),none,none,none,none,none] σ₁=some (decide (ml < ini + partsLen (ps++[(f,s)])),σ₁):=by
    simp only [cmpT,eL,eM,AV.int?,AV.str?,AV.tup?,AV.lst?,AV.loc?,AO.list?,AO.acc?,lstAt,accAt,arg1,arg2,gd_if,gd_true,selfL,Option.bind_some,Option.bind_none,Option.some_or,Option.none_or,Option.or_none,Option.map_some,Option.map_none,Option.getD_some,↓reduceIte]; simp [acmp,twoInts_int,isNone,aeqv,toPD_none,toPD_bool,toPD_int,toPD_str,toPD_tup,toPD_lst,toPD_loc,optAll,PyData.eqv,AV.int?,AV.str?,AV.tup?,AV.lst?,AV.loc?,AO.list?,AO.acc?,lstAt,accAt,arg1,arg2,gd_if,gd_true,selfL]
  unfold chunkP
  by_cases hlong:ml < ini + partsLen (ps++[(f,s)])
  · rw [if_pos hlong]
    rw [decide_eq_true hlong] at eT
    have eS:attrE 3 (nE 0) [some (.loc m),some (.str f),some (.str s),none,none,none,none,none] σ₁=some (.str sp,σ₁):=by simp [attrE,nE,F1.fm,attrOf,fmtAttrs,AV.int?,AV.str?,AV.tup?,AV.lst?,AV.loc?,AO.list?,AO.acc?,lstAt,accAt,arg1,arg2,gd_if,gd_true,selfL]
    obtain ⟨b1,b3,b4,b5,e2⟩:=outer_spec (O:=seqS [unpS 1 6 (mE 4 popF lineE []),
      ifS (cmpT .Gt (attrE 6 lineE) (cE (.int 0))) (seqS [exprS (mE 3 newlineF (nE 0) []),ifS (notT (trT (nE 1))) (seqS [asgS 1 (cE (.str " "))]) (seqS [])]) (seqS []),
      exprS (mE 4 pushF lineE [nE 1,nE 6]),
      retNS]) F1 H hp sp.cps.size 0 1000000 (some (.str f)) (some (.str s)) none none none none none (by (first | lia | omega)) (by (first | lia | omega))
    rw [List.drop_zero] at e2
    have e3:∀ r,loopS (nxS sp) (fun lc y=>putL lc 3 y) (seqS [forRS 4 [binE .Sub (mE 4 pcF lineE []) (cE (.int 1)),cE (.int 0),negE (cE (.int 1))] seekB (seqS [contS]),brkS]) (seqS [unpS 1 6 (mE 4 popF lineE []),
      ifS (cmpT .Gt (attrE 6 lineE) (cE (.int 0))) (seqS [exprS (mE 3 newlineF (nE 0) []),ifS (notT (trT (nE 1))) (seqS [asgS 1 (cE (.str " "))]) (seqS [])]) (seqS []),
      exprS (mE 4 pushF lineE [nE 1,nE 6]),
      retNS]) 1000000 0 [some (.loc m),some (.str f),some (.str s),none,none,none,none,none] σ₁=r→seekS [some (.loc m),some (.str f),some (.str s),none,none,none,none,none] σ₁=r:=by
      intro r h
      exact (for_str eS).trans h
    cases hseek:seek (ps++[(f,s)]) sp.cps.toList with
    | some i =>
      rw [hseek] at e2
      dsimp only at e2 ⊢
      have hi:=(seek_le hseek).1
      have hi':i≤(ps++[(f,s)]).length:=by (first | lia | omega)
      have e4:=e3 _ e2
      -- pop_from
      have e5:asgS 7 (mE 4 popFromF lineE [nE 4]) [some (.loc m),b1,some (.str s),b3,some (.int (i:Int)),b5,none,none] σ₁=some (.next,[some (.loc m),b1,some (.str s),b3,some (.int (i:Int)),b5,none,some (.lst (((ps++[(f,s)]).drop i).map partAV))],σ₁.set ac (.acc ini ((ps++[(f,s)]).take i))):=by
        rw [asg_of (v:=.lst (((ps++[(f,s)]).drop i).map partAV)) (σ₁:=σ₁.set ac (.acc ini ((ps++[(f,s)]).take i))) (by rw [mLine (xs:=[.int (i:Int)]) rfl F1 rfl,popFrom_eq F1.acc hz hi']) (by simp)]; rfl
      have F2:=F1.setAcc ini ((ps++[(f,s)]).take i)
      have S2:Same [ln,ac] σ₁ (σ₁.set ac (.acc ini ((ps++[(f,s)]).take i))):=.set (by simp)
      have z2:(σ₁.set ac (.acc ini ((ps++[(f,s)]).take i))).length=σ₁.length:=by simp
      generalize σ₁.set ac (.acc ini ((ps++[(f,s)]).take i))=σ₂ at e5 F2 S2 z2
      have e6:=expr_of (append_rows (lc:=[some (.loc m),b1,some (.str s),b3,some (.int (i:Int)),b5,none,some (.lst (((ps++[(f,s)]).drop i).map partAV))]) rfl F2 (H.take i).acc (by have:=H.r; (first | lia | omega)))
      have F3:=F2.setLi (rows++[accText ((ps++[(f,s)]).take i)])
      have S3:Same [ln,ac] σ₂ (σ₂.set ln (.list ((rows++[accText ((ps++[(f,s)]).take i)]).map AV.str))):=.set (by simp)
      have z3:(σ₂.set ln (.list ((rows++[accText ((ps++[(f,s)]).take i)]).map AV.str))).length=σ₂.length:=by simp
      generalize σ₂.set ln (.list ((rows++[accText ((ps++[(f,s)]).take i)]).map AV.str))=σ₃ at e6 F3 S3 z3
      have e7:exprS (mE 4 resetF lineE [nE 7]) [some (.loc m),b1,some (.str s),b3,some (.int (i:Int)),b5,none,some (.lst (((ps++[(f,s)]).drop i).map partAV))] σ₃=some (.next,[some (.loc m),b1,some (.str s),b3,some (.int (i:Int)),b5,none,some (.lst (((ps++[(f,s)]).drop i).map partAV))],σ₃.set ac (.acc 0 ((ps++[(f,s)]).drop i))) :=
        expr_of (v:=.none) (by rw [mLine (xs:=[.lst (((ps++[(f,s)]).drop i).map partAV)]) rfl F3 rfl,reset2_eq F3.acc (by rw [List.length_take]; (first | lia | omega)) (by rw [List.length_drop]; (first | lia | omega))])
      refine ⟨σ₃.set ac (.acc 0 ((ps++[(f,s)]).drop i)),?_,F3.setAcc 0 _,((S1.trans S2).trans S3).trans (.set (by simp)),by simp [z3,z2,z1]⟩
      refine run_next (lc':=[some (.loc m),b1,some (.str s),b3,some (.int (i:Int)),b5,none,some (.lst (((ps++[(f,s)]).drop i).map partAV))]) rfl ?_
      show chunkB [some (.loc m),some (.str f),some (.str s),none,none,none,none,none] σ=_
      unfold chunkB
      rw [seq_next e1,seq_next,seq_nil]
      rw [if_t eT,seq_next e4,seq_next e5,seq_next e6,seq_next e7,seq_nil]
    | none =>
      rw [hseek] at e2
      dsimp only at e2 ⊢
      have e4:=e3 _ e2
      have e5:unpS 1 6 (mE 4 popF lineE []) [some (.loc m),b1,some (.str s),b3,b4,b5,none,none] σ₁=some (.next,[some (.loc m),some (.str f),some (.str s),b3,b4,b5,some (.str s),none],σ₁.set ac (.acc ini ps)):=by
        unfold unpS
        rw [mLine (fs:=[]) (xs:=[]) rfl F1 rfl,pop_snoc F1.acc (by have:=H.p; simp at this; (first | lia | omega))]
        rfl
      have F2:=F1.setAcc ini ps
      have S2:Same [ln,ac] σ₁ (σ₁.set ac (.acc ini ps)):=.set (by simp)
      have z2:(σ₁.set ac (.acc ini ps)).length=σ₁.length:=by simp
      generalize σ₁.set ac (.acc ini ps)=σ₂ at e5 F2 S2 z2
      have eI:attrE 6 lineE [some (.loc m),some (.str f),some (.str s),b3,b4,b5,some (.str s),none] σ₂=some (.int ini,σ₂):=by
        unfold attrE
        rw [line_eq rfl F2]
        simp [F2.acc,attrOf,AV.loc?,gd_true]
      have eC:cmpT .Gt (attrE 6 lineE) (cE (.int 0)) [some (.loc m),some (.str f),some (.str s),b3,b4,b5,some (.str s),none] σ₂=some (decide (0 < ini),σ₂):=by simp only [cmpT,eI,AV.int?,AV.str?,AV.tup?,AV.lst?,AV.loc?,AO.list?,AO.acc?,lstAt,accAt,arg1,arg2,gd_if,gd_true,selfL,Option.bind_some,Option.bind_none,Option.some_or,Option.none_or,Option.or_none,Option.map_some,Option.map_none,Option.getD_some,↓reduceIte]; simp [cE,acmp,twoInts_int,isNone,aeqv,toPD_none,toPD_bool,toPD_int,toPD_str,toPD_tup,toPD_lst,toPD_loc,optAll,PyData.eqv,AV.int?,AV.str?,AV.tup?,AV.lst?,AV.loc?,AO.list?,AO.acc?,lstAt,accAt,arg1,arg2,gd_if,gd_true,selfL]
      have done:∀ {σ₃:St} {f':Str} {rs:List Str} {i':Int} {qs:List (Str × Str)},qs.length≤1000000→FmtAt σ₃ m ln ac ml cw cwl sp rs i' qs→Same [ln,ac] σ₂ σ₃→σ₃.length=σ₂.length →
          ifS (cmpT .Gt (attrE 6 lineE) (cE (.int 0))) (seqS [exprS (mE 3 newlineF (nE 0) []),ifS (notT (trT (nE 1))) (seqS [asgS 1 (cE (.str " "))]) (seqS [])]) (seqS []) [some (.loc m),some (.str f),some (.str s),b3,b4,b5,some (.str s),none] σ₂=some (.next,[some (.loc m),some (.str f'),some (.str s),b3,b4,b5,some (.str s),none],σ₃) →
          ∃ σ',chunkF [.loc m,.str f,.str s] σ=some (.none,σ')∧FmtAt σ' m ln ac ml cw cwl sp rs i' (qs++[(f',s)])∧Same [ln,ac] σ σ'∧σ'.length=σ.length:=by
        intro σ₃ f' rs i' qs hq F3 S3 z3 e6
        have e7:exprS (mE 4 pushF lineE [nE 1,nE 6]) [some (.loc m),some (.str f'),some (.str s),b3,b4,b5,some (.str s),none] σ₃=some (.next,[some (.loc m),some (.str f'),some (.str s),b3,b4,b5,some (.str s),none],σ₃.set ac (.acc i' (qs++[(f',s)]))) :=
          expr_of (v:=.none) (by rw [mLine (xs:=[.str f',.str s]) rfl F3 rfl,push_eq F3.acc hq])
        refine ⟨σ₃.set ac (.acc i' (qs++[(f',s)])),?_,F3.setAcc _ _,((S1.trans S2).trans S3).trans (.set (by simp)),by simp [z3,z2,z1]⟩
        refine run_ret (v:=.none) (lc':=[some (.loc m),some (.str f'),some (.str s),b3,b4,b5,some (.str s),none]) rfl ?_
        show chunkB [some (.loc m),some (.str f),some (.str s),none,none,none,none,none] σ=_
        unfold chunkB
        rw [seq_next e1,seq_ret]
        rw [if_t eT,seq_ret]
        rw [e4,seq_next e5,seq_next e6,seq_next e7]
        rfl
      by_cases hini:0 < ini
      · rw [if_pos hini]
        rw [decide_eq_true hini] at eC
        (refine x1_4 (newline_spec F2 H0) fun σ₃ e6 F3 S3 z3=>?_)
        have e7:exprS (mE 3 newlineF (nE 0) []) [some (.loc m),some (.str f),some (.str s),b3,b4,b5,some (.str s),none] σ₂=some (.next,[some (.loc m),some (.str f),some (.str s),b3,b4,b5,some (.str s),none],σ₃):=expr_of (v:=.none) (by simp [mE,nE,kind_loc_eq,kind_str,kind_lst,kindO,F2.fm,evs,e6,AV.int?,AV.str?,AV.tup?,AV.lst?,AV.loc?,AO.list?,AO.acc?,lstAt,accAt,arg1,arg2,gd_if,gd_true,selfL])
        have hf:f.length≤100000:=(part_small H (p:=(f,s)) (by simp)).1
        have eN:notT (trT (nE 1)) [some (.loc m),some (.str f),some (.str s),b3,b4,b5,some (.str s),none] σ₃=some (decide (f.length=0),σ₃):=by
          have:f.length≤16777216:=by (first | lia | omega)
          simp [notT,trT,nE,atruth_none,atruth_bool,atruth_int,atruth_str,atruth_lst,atruth_loc,sizeLine_eq,this,AV.int?,AV.str?,AV.tup?,AV.lst?,AV.loc?,AO.list?,AO.acc?,lstAt,accAt,arg1,arg2,gd_if,gd_true,selfL]
          by_cases h:f.length=0 <;> simp [h]
        have:=done (f':=if f.length=0 then " " else f) (qs:=[]) (by simp) F3 S3 z3 (by
          rw [if_t eC,seq_next e7]
          by_cases h:f.length=0
          · rw [decide_eq_true h] at eN
            rw [if_pos h,seq_next (lc₁:=[some (.loc m),some (.str " "),some (.str s),b3,b4,b5,some (.str s),none]) (σ₁:=σ₃),seq_nil]
            rw [if_t eN]; rfl
          · rw [decide_eq_false h] at eN
            rw [if_neg h,seq_next (lc₁:=[some (.loc m),some (.str f),some (.str s),b3,b4,b5,some (.str s),none]) (σ₁:=σ₃),seq_nil]
            rw [if_f eN]; rfl)
        simpa using this
      · rw [if_neg hini]
        rw [decide_eq_false hini] at eC
        exact done (f':=f) hz0 F2 .refl rfl (by rw [if_f eC]; rfl)
  · rw [if_neg hlong]
    rw [decide_eq_false hlong] at eT
    refine ⟨σ₁,?_,F1,S1,z1⟩
    refine run_next (lc':=[some (.loc m),some (.str f),some (.str s),none,none,none,none,none]) rfl ?_
    show chunkB [some (.loc m),some (.str f),some (.str s),none,none,none,none,none] σ=_
    unfold chunkB
    rw [seq_next e1,seq_next,seq_nil]
    rw [if_f eT]; rfl
end
noncomputable abbrev St3:=List Str × Int × List (Str × Str)
noncomputable abbrev FAt (σ:St) (m ln ac:Nat) (ml:Int) (cw:Str) (cwl:Int) (sp:Str) (st:St3):Prop:=FmtAt σ m ln ac ml cw cwl sp st.1 st.2.1 st.2.2
section
variable {σ:St} {m ln ac:Nat} {ml:Int} {cw:Str} {cwl:Int} {sp:Str}
noncomputable def pieces (ys:List Str):List Str:=if (ys.headD "").length=0 then ys.tail else "" :: ys
end
theorem strsOf_map (rows:List Str):strsOf (rows.map AV.str)=some rows:=by
  unfold strsOf
  induction rows with
  | nil=>rfl
  | cons r rows ih=>rw [List.map_cons,optAll,ih]; rfl
noncomputable def textLen (rows:List Str):Nat:=(rows.map (·.length)).sum
theorem textLen_append (a b:List Str):textLen (a++b)=textLen a + textLen b:=by simp [textLen]
set_option tactic.hygienic true
theorem lastSp_len (ps:List (Str × Str)):partsLen (lastSp ps)≤partsLen ps:=by
  unfold lastSp
  split
  · rename_i h; subst h; exact Int.le_of_eq (by decide)
  · split
    · exact partsLen_dropLast ps
    · exact Int.le_refl _
set_option tactic.hygienic false
theorem nlRows_len (rows:List Str) (ini:Int) (ps:List (Str × Str)):(nlRows rows ini ps).length≤rows.length + 1:=by
  unfold nlRows
  split
  · split
    · simp
    · simp
  · (first | lia | omega)
set_option tactic.hygienic true
theorem nlRows_text (rows:List Str) (ini:Int) (ps:List (Str × Str)):(textLen (nlRows rows ini ps):Int)≤textLen rows + partsLen ps:=by
  have h:=lastSp_len ps
  have h0:=partsLen_nonneg (lastSp ps)
  have e:=accText_len (lastSp ps)
  unfold nlRows
  split
  · split
    · rename_i hg
      rcases List.eq_nil_or_concat rows with rfl | ⟨rs,r,rfl⟩
      · simp at hg
      · rw [List.concat_eq_append]
        simp only [List.dropLast_concat,textLen_append]
        simp [textLen,str_len_eq]
        (first | lia | omega)
    · rw [textLen_append]
      simp [textLen]
      (first | lia | omega)
  · (first | lia | omega)
section
variable {σ:St} {m ln ac:Nat} {ml:Int} {cw:Str} {cwl:Int} {sp:Str} {rows:List Str} {ini:Int} {ps:List (Str × Str)}
set_option tactic.hygienic false
theorem join_of {l:Nat} {sep:Str} {rs:List Str} (h:σ[l]?=some (.list (rs.map AV.str))) (hb:textLen rs + rs.length * sep.length≤16777216):joinF [.str sep,.loc l] σ=some (.str (Txt.join sep rs),σ):=by
  unfold textLen at hb
  simp [joinF_eq,asList_lst,asList_loc,h,strsOf_map,hb,AV.int?,AV.str?,AV.tup?,AV.lst?,AV.loc?,AO.list?,AO.acc?,lstAt,accAt,arg1,arg2,gd_if,gd_true,selfL]
theorem joinOk {rs:List Str} {sep:Str} (h1:rs.length≤100001) (h2:textLen rs≤200000) (h3:sep.length≤16):textLen rs + rs.length * sep.length≤16777216:=by
  have:rs.length * sep.length≤100001 * 16:=Nat.mul_le_mul h1 h3
  (first | lia | omega)
theorem nl_joinOk {sep:Str} (H:Fits rows ini ps) (h3:sep.length≤16):textLen (nlRows rows ini ps) + (nlRows rows ini ps).length * sep.length≤16777216:=by
  refine joinOk ?_ ?_ h3
  · have:=nlRows_len rows ini ps; have:=H.r; (first | lia | omega)
  · have:=nlRows_text rows ini ps
    have h:textLen rows≤100000:=H.t
    have:=H.l
    (first | lia | omega)
theorem uStr_spec {sep:Str} (F:FmtAt σ m ln ac ml cw cwl sp rows ini ps) (H:Fits rows ini ps) (hs:sep.length≤16) :
    ∃ σ',uStrF [.loc m,.str sep] σ=some (.str (Txt.join sep (nlRows rows ini ps)),σ')∧FmtAt σ' m ln ac ml cw cwl sp (nlRows rows ini ps) 0 []∧Same [ln,ac] σ σ'∧σ'.length=σ.length:=by
  (refine x1_4 (newline_spec F H) fun σ₁ e1 F1 S1 z1=>?_)
  refine ⟨σ₁,?_,F1,S1,z1⟩
  have e2:=join_of (sep:=sep) F1.li (nl_joinOk H hs)
  refine run_ret (lc':=[some (.loc m),some (.str sep)]) rfl ?_
  show seqS _ [some (.loc m),some (.str sep)] σ=_
  rw [seq_next (expr_of (v:=.none) (σ₁:=σ₁) (by simp [mE,nE,kind_loc_eq,kind_str,kind_lst,kindO,F.fm,evs,e1,AV.int?,AV.str?,AV.tup?,AV.lst?,AV.loc?,AO.list?,AO.acc?,lstAt,accAt,arg1,arg2,gd_if,gd_true,selfL])),seq_ret (v:=.str (Txt.join sep (nlRows rows ini ps))) (lc₁:=[some (.loc m),some (.str sep)]) (σ₁:=σ₁)]
  simp [retS,mE,nE,kind_loc_eq,kind_str,kind_lst,kindO,evs,lines_eq (lc:=[some (.loc m),some (.str sep)]) rfl F1,e2,AV.int?,AV.str?,AV.tup?,AV.lst?,AV.loc?,AO.list?,AO.acc?,lstAt,accAt,arg1,arg2,gd_if,gd_true,selfL]
end
set_option tactic.hygienic false
theorem optAll_strs (σ:St) (n:Nat) (rs:List Str):optAll (toPD σ n) (rs.map AV.str)=some (rs.map PyData.str):=by
  induction rs with
  | nil=>rfl
  | cons r rs ih=>cases n <;> simp [optAll,toPD_none,toPD_bool,toPD_int,toPD_str,toPD_tup,toPD_lst,toPD_loc,optAll,ih,AV.int?,AV.str?,AV.tup?,AV.lst?,AV.loc?,AO.list?,AO.acc?,lstAt,accAt,arg1,arg2,gd_if,gd_true,selfL]
structure WE (f:EM) (lc:Lc) (σ:St) (Q:AV→St→Prop):Prop where
  run:∃ v σ',f lc σ=some (v,σ')∧Q v σ'
structure WT (f:TM) (lc:Lc) (σ:St) (Q:Bool→St→Prop):Prop where
  run:∃ v σ',f lc σ=some (v,σ')∧Q v σ'
structure WL (f:List EM) (lc:Lc) (σ:St) (Q:List AV→St→Prop):Prop where
  run:∃ v σ',evs f lc σ=some (v,σ')∧Q v σ'
structure WF (F:FM) (xs:List AV) (σ:St) (Q:AV→St→Prop):Prop where
  run:∃ v σ',F xs σ=some (v,σ')∧Q v σ'
structure WS (f:SM) (lc:Lc) (σ:St) (Q:Fl→Lc→St→Prop):Prop where
  run:∃ fl lc' σ',f lc σ=some (fl,lc',σ')∧Q fl lc' σ'
theorem bnd {α β:Type} {o:Option α} {a:α} {f:α→Option β} {r:Option β} (h:o=some a) (k:f a=r):o.bind f=r:=by rw [h]; exact k
theorem mpo {α β:Type} {o:Option α} {a:α} {f:α→β} (h:o=some a):o.map f=some (f a):=by rw [h]; rfl
section
variable {lc lc':Lc} {σ σ':St} {f g:EM} {F:FM} {QE:AV→St→Prop} {QT:Bool→St→Prop} {QL:List AV→St→Prop} {QS:Fl→Lc→St→Prop} {fs:List SM} {es:List EM} {v:AV}
theorem we (h:f lc σ=some (v,σ')) (k:QE v σ'):WE f lc σ QE:=⟨_,_,h,k⟩
theorem wt {t:TM} {b:Bool} (h:t lc σ=some (b,σ')) (k:QT b σ'):WT t lc σ QT:=⟨_,_,h,k⟩
theorem wl {xs:List AV} (h:evs es lc σ=some (xs,σ')) (k:QL xs σ'):WL es lc σ QL:=⟨_,_,h,k⟩
set_option tactic.hygienic true
theorem ws_nil (k:QS .next lc σ):WS (seqS []) lc σ QS:=⟨_,_,_,rfl,k⟩
set_option tactic.hygienic false
theorem ws_asg {i:Nat} (h:WE f lc σ fun v σ₁=>∃ lc',putL lc i v=some lc'∧WS (seqS fs) lc' σ₁ QS):WS (seqS (asgS i f :: fs)) lc σ QS:=by
  obtain ⟨v,σ₁,e1,lc',hl,fl,lc₂,σ₂,e2,k⟩:=h
  exact ⟨_,_,_,(seq_next (bnd e1 (mpo hl))).trans e2,k⟩
theorem ws_expr (h:WE f lc σ fun _ σ₁=>WS (seqS fs) lc σ₁ QS):WS (seqS (exprS f :: fs)) lc σ QS:=by
  obtain ⟨v,σ₁,e1,fl,lc',σ₂,e2,k⟩:=h
  exact ⟨_,_,_,(seq_next (expr_of e1)).trans e2,k⟩
theorem ws_aug {i:Nat} {op:Operator} {x:AV} (hx:lc[i]?=some (some x)) (h:WE f lc σ fun v σ₁=>∃ z lc',ainp op x v=some z∧putL lc i z=some lc'∧WS (seqS fs) lc' σ₁ QS):WS (seqS (augS i op f :: fs)) lc σ QS:=by
  obtain ⟨v,σ₁,e1,z,lc',hz,hl,fl,lc₂,σ₂,e2,k⟩:=h
  exact ⟨_,_,_,(seq_next (bnd hx (bnd rfl (bnd e1 (bnd hz (mpo hl)))))).trans e2,k⟩
theorem ws_ret (h:WE f lc σ fun v σ₁=>QS (.ret v) lc σ₁):WS (seqS (retS f :: fs)) lc σ QS:=by
  obtain ⟨v,σ₁,e1,k⟩:=h
  exact ⟨_,_,_,seq_ret (mpo e1),k⟩
set_option tactic.hygienic true
theorem ws_step {s:SM} (h:s lc σ=some (.next,lc',σ')) (k:WS (seqS fs) lc' σ' QS):WS (seqS (s :: fs)) lc σ QS:=by
  obtain ⟨fl,lc₂,σ₂,e2,k⟩:=k
  exact ⟨_,_,_,(seq_next h).trans e2,k⟩
set_option tactic.hygienic false
theorem seq_head {s s':SM} {σ':St} (h:s lc σ=s' lc' σ'):seqS (s :: fs) lc σ=seqS (s' :: fs) lc' σ':=by unfold seqS; rw [h]
set_option tactic.hygienic true
theorem seq_flat {xs:List SM}:seqS (seqS xs :: fs) lc σ=seqS (xs++fs) lc σ:=by
  induction xs generalizing lc σ with
  | nil=>exact seq_next rfl
  | cons x xs ih =>
    rw [List.cons_append]
    cases e:x lc σ with
    | none=>exact (show ((seqS (x :: xs) lc σ).bind _=_) by rw [show seqS (x :: xs) lc σ=none by unfold seqS; rw [e]; rfl]; unfold seqS; rw [e]; rfl)
    | some p =>
      obtain ⟨fl,lc₁,σ₁⟩:=p
      cases fl with
      | next=>exact (seq_head (seq_next e)).trans (ih.trans (seq_next e).symm)
      | brk=>rw [seq_brk e,seq_brk (seq_brk e)]
      | cont=>rw [seq_cont e,seq_cont (seq_cont e)]
      | ret v=>rw [seq_ret e,seq_ret (seq_ret e)]
set_option tactic.hygienic false
theorem ws_if {t:TM} {xs ys:List SM} (h:WT t lc σ fun b σ₁=>match b with | true=>WS (seqS (xs++fs)) lc σ₁ QS | false=>WS (seqS (ys++fs)) lc σ₁ QS):WS (seqS (ifS t (seqS xs) (seqS ys) :: fs)) lc σ QS:=by
  obtain ⟨a,σ₁,e1,k⟩:=h
  cases a with
  | true=>obtain ⟨fl,lc₂,σ₂,e2,k⟩:=k; exact ⟨_,_,_,(seq_head (if_t e1)).trans (seq_flat.trans e2),k⟩
  | false=>obtain ⟨fl,lc₂,σ₂,e2,k⟩:=k; exact ⟨_,_,_,(seq_head (if_f e1)).trans (seq_flat.trans e2),k⟩
theorem WS.imp {s:SM} {Q':Fl→Lc→St→Prop} (h:WS s lc σ QS) (k:∀ fl lc' σ',QS fl lc' σ'→Q' fl lc' σ'):WS s lc σ Q':=by
  obtain ⟨fl,lc',σ',e,q⟩:=h
  exact ⟨_,_,_,e,k _ _ _ q⟩
set_option tactic.hygienic true
theorem wf_run {vars:List Str} {n:Nat} {B:SM} {xs:List AV} (hn:xs.length=n) (h:WS B (lc0 vars xs) σ fun fl _ σ'=>match fl with | .ret v=>QE v σ' | .next=>QE .none σ' | _=>False):WF (runF vars n B) xs σ QE:=by
  obtain ⟨fl,lc',σ',e,k⟩:=h
  cases fl with
  | next=>exact ⟨_,_,run_next hn e,k⟩
  | ret v=>exact ⟨_,_,run_ret hn e,k⟩
  | brk=>exact k.elim
  | cont=>exact k.elim
theorem loop_inv {nx:St→Nat→Option (Option AV)} {st:Lc→AV→Option Lc} {B:SM} {n:Nat} (I:Nat→Lc→St→Prop)
    (hN:∀ i lc σ,i < n→I i lc σ→∃ x lc₁,nx σ i=some (some x)∧st lc x=some lc₁∧WS B lc₁ σ fun fl lc₂ σ₂=>(fl=.next∨fl=.cont)∧I (i + 1) lc₂ σ₂)
    (hE:∀ lc σ,I n lc σ→nx σ n=some none):∀ (k i fuel:Nat) (lc:Lc) (σ:St),k + i=n→k < fuel→I i lc σ→∃ lc' σ',loopS nx st B (seqS []) fuel i lc σ=some (.next,lc',σ')∧I n lc' σ'
  | 0,i,fuel + 1,lc,σ,hk,hf,hI=>by
    obtain rfl:i=n:=by (first | lia | omega)
    exact ⟨lc,σ,loop_stop (hE _ _ hI),hI⟩
  | k + 1,i,fuel + 1,lc,σ,hk,hf,hI=>by
    obtain ⟨x,lc₁,e1,e2,fl,lc₂,σ₂,e3,hfl,hI'⟩:=hN i lc σ (by (first | lia | omega)) hI
    obtain ⟨lc',σ',e4,h4⟩:=loop_inv I hN hE k (i + 1) fuel lc₂ σ₂ (by (first | lia | omega)) (by (first | lia | omega)) hI'
    refine ⟨lc',σ',?_,h4⟩
    rw [loop_at e1 e2 e3]
    rcases hfl with rfl | rfl
    · exact e4
    · exact e4
  | 0,_,0,_,_,_,hf,_=>by (first | lia | omega)
  | _ + 1,_,0,_,_,_,hf,_=>by (first | lia | omega)
theorem ws_forL {j:Nat} {B:SM} {xs:List AV} (I:Nat→Lc→St→Prop) (hx:f lc σ=some (.lst xs,σ')) (hn:xs.length < 1000000) (h0:I 0 lc σ')
    (hN:∀ i x lc σ,xs[i]?=some x→I i lc σ→∃ lc₁,putL lc j x=some lc₁∧WS B lc₁ σ fun fl lc₂ σ₂=>(fl=.next∨fl=.cont)∧I (i + 1) lc₂ σ₂)
    (hE:∀ lc σ,I xs.length lc σ→WS (seqS fs) lc σ QS):WS (seqS (forS j f B (seqS []) :: fs)) lc σ QS:=by
  obtain ⟨lc',σ₂,e,h⟩:=loop_inv (nx:=nxL (.lst xs)) (st:=fun lc y=>putL lc j y) (B:=B) (n:=xs.length) I
    (fun i lc σ hi hI=>by
      (refine x1_2 (hN i xs[i] lc σ (List.getElem?_eq_getElem hi) hI) fun lc₁ a b=>?_)
      exact ⟨xs[i],lc₁,by simp [nxL,asList_lst,asList_loc,List.getElem?_eq_getElem hi,AV.int?,AV.str?,AV.tup?,AV.lst?,AV.loc?,AO.list?,AO.acc?,lstAt,accAt,arg1,arg2,gd_if,gd_true,selfL],a,b⟩)
    (fun lc σ _=>by simp [nxL,asList_lst,asList_loc,AV.int?,AV.str?,AV.tup?,AV.lst?,AV.loc?,AO.list?,AO.acc?,lstAt,accAt,arg1,arg2,gd_if,gd_true,selfL]) xs.length 0 1000000 lc σ' (by (first | lia | omega)) hn h0
  obtain ⟨fl,lc₃,σ₃,e3,k⟩:=hE _ _ h
  exact ⟨_,_,_,(seq_next ((for_lst hx rfl rfl).trans e)).trans e3,k⟩
end
theorem eqvAll_strs:∀ (xs ys:List Str),PyData.eqvAll (xs.map PyData.str) (ys.map PyData.str)=decide (xs=ys)
  | [],[]=>by simp [PyData.eqvAll]
  | [],y :: ys=>by simp [PyData.eqvAll]
  | x :: xs,[]=>by simp [PyData.eqvAll]
  | x :: xs,y :: ys=>by
    rw [List.map_cons,List.map_cons,PyData.eqvAll,eqvAll_strs xs ys,PyData.eqv]
    by_cases h1:x=y <;> by_cases h2:xs=ys <;> simp [h1,h2]
theorem toPD_strs {σ:St} {n:Nat} (xs:List Str):toPD σ (n + 1) (.lst (xs.map AV.str))=some (.list (xs.map PyData.str)):=by
  rw [toPD_lst,optAll_strs]; rfl
theorem toPD_list {σ:St} {n l:Nat} {xs:List Str} (h:σ[l]?=some (.list (xs.map AV.str))):toPD σ (n + 1) (.loc l)=some (.list (xs.map PyData.str)):=by
  rw [toPD_loc,lstAt_of h]; exact (congrArg (Option.map PyData.list) (optAll_strs ..))
theorem aeqv_pd {σ:St} {a b:AV} {x y:PyData} (h1:toPD σ 4 a=some x) (h2:toPD σ 4 b=some y):aeqv σ a b=some (PyData.eqv x y):=bnd h1 (mpo h2)
theorem eqv_strs (xs ys:List Str):PyData.eqv (.list (xs.map PyData.str)) (.list (ys.map PyData.str))=decide (xs=ys):=by rw [PyData.eqv,eqvAll_strs]
theorem isspace_iff (x:Str):Txt.isspace x=true↔x ≠ "" ∧ ∀ c∈x.cps.toList,Unicode.isSpace c=true:=by
  unfold Txt.isspace
  rw [Bool.and_eq_true,decide_eq_true_eq,Array.all_eq_true']
  constructor
  · rintro ⟨h1,h2⟩
    refine ⟨?_,fun c hc=>h2 c (by simpa using hc)⟩
    rintro rfl
    exact absurd h1 (by decide)
  · rintro ⟨h1,h2⟩
    refine ⟨?_,fun c hc=>h2 c (by simpa using hc)⟩
    rcases Nat.eq_zero_or_pos x.length with h | h
    · refine absurd (str_ext ?_) h1
      have:x.cps=#[]:=Array.eq_empty_of_size_eq_zero h
      rw [this]; decide
    · exact h
set_option tactic.hygienic true
theorem glue_list {σ:St} {lc:Lc} {f g:EM} {l:Nat} {rows:List Str} {t:Str} (hg:g lc σ=some (.loc l,σ)) (hl:σ[l]?=some (.list (rows.map AV.str))) (hf:f lc σ=some (.str t,σ)) (hr:rows≠[]) (hn:rows.length≤100001) (hb:textLen rows + t.length≤1000000) :
    augIdxS g (negE (cE (.int 1))) .Add f lc σ=some (.next,lc,σ.set l (.list ((rows.dropLast++[(rows.getLast?.getD "")++t]).map AV.str))):=by
  obtain ⟨rs,r,rfl⟩:∃ rs r,rows=rs++[r]:=by
    rcases List.eq_nil_or_concat rows with h | ⟨rs,r,h⟩
    · exact absurd h hr
    · exact ⟨rs,r,by rw [h,List.concat_eq_append]⟩
  rw [List.length_append,List.length_singleton] at hn
  rw [textLen_append] at hb
  simp [textLen] at hb
  have e1:seqIndex? (-1) (rs.length + 1)=some rs.length:=sidx_last (Nat.succ_pos _)
  have e3:r.length + t.length≤1000000:=by (first | lia | omega)
  have eg:aget σ (.loc l) (-1)=some (.str r):=by
    rw [aget_seq (asSeq_list hl),if_pos (by decide),List.length_map,List.length_append,List.length_singleton,e1]
    simp
  have ep:putAt l (-1) (.str (r++t)) σ=some (σ.set l (.list (((rs++[r]).map AV.str).set rs.length (.str (r++t))))) :=
    putAt_list hl (by decide) (by rw [List.length_map,List.length_append,List.length_singleton]; exact e1) (by simp)
  rw [show augIdxS g (negE (cE (.int 1))) .Add f lc σ=_ from bnd hg (bnd (a:=l) rfl (bnd (a:=(.int (-1),σ)) rfl (bnd (a:=(-1:Int)) rfl (bnd eg (bnd hf (bnd (ainp_str.trans (gd_of (decide_eq_true e3))) (mpo ep)))))))]
  simp
set_option tactic.hygienic false
theorem trans_spec {σ:St} {m ln ac:Nat} {ml:Int} {cw:Str} {cwl:Int} {sp:Str} {rows:List Str} {ini:Int} {ps:List (Str × Str)} (F:FmtAt σ m ln ac ml cw cwl sp rows ini ps) (H:Fits rows ini ps) :
    ∃ σ',transF [.loc m] σ=some (.none,σ')∧FmtAt σ' m ln ac ml cw cwl sp rows ini (ps++[((" " : Str),("" : Str))])∧Same [ln,ac] σ σ'∧σ'.length=σ.length:=by
  refine ⟨_,?_,F.setAcc ini (ps++[((" " : Str),("" : Str))]),.set (by simp),by simp⟩
  have hp:=H.p
  refine run_next (lc':=[some (.loc m)]) rfl ?_
  show seqS _ [some (.loc m)] σ=_
  rw [seq_next (expr_of (v:=.none) (by rw [mLine (xs:=[.str " ",.str ""]) rfl F rfl,push_eq F.acc (by (first | lia | omega))])),seq_nil]
theorem idx_lst {σ σ' σ'':St} {lc:Lc} {f g:EM} {xs:List AV} {k:Nat} {i:Int} {v:AV} (hf:f lc σ=some (.lst xs,σ')) (hg:g lc σ'=some (.int i,σ'')) (hi:i=k) (hv:xs[k]?=some v) (hl:xs.length≤1000000):idxE f g lc σ=some (v,σ''):=by
  subst hi
  have hk:=(List.getElem?_eq_some_iff.mp hv).1
  have es:seqIndex? (k:Int) xs.length=some k:=sidx hk
  refine idx_of hf hg ?_
  rw [aget_lst,if_pos (by (first | lia | omega)),es]
  exact hv
set_option tactic.hygienic true
theorem ws_forR {lc:Lc} {σ σ':St} {QS:Fl→Lc→St→Prop} {fs:List SM} {j:Nat} {B:SM} {es:List EM} {xs:List AV} {a b c:Int} {n:Nat} (I:Nat→Lc→St→Prop) (hx:evs es lc σ=some (xs,σ')) (hr:rangeArgs xs=some (a,b,c)) (ho:okRange a b c=true) (hn:Builtin.Range.rangeSize a b c=n) (hlt:n < 1000000) (h0:I 0 lc σ')
    (hN:∀ (i:Nat) lc σ,i < n→I i lc σ→∃ lc₁,putL lc j (.int (a + c * i))=some lc₁∧WS B lc₁ σ fun fl lc₂ σ₂=>(fl=.next∨fl=.cont)∧I (i + 1) lc₂ σ₂)
    (hE:∀ lc σ,I n lc σ→WS (seqS fs) lc σ QS):WS (seqS (forRS j es B (seqS []) :: fs)) lc σ QS:=by
  obtain ⟨lc',σ₂,e,h⟩:=loop_inv (nx:=nxR a b c) (st:=fun lc y=>putL lc j y) (B:=B) (n:=n) I
    (fun i lc σ hi hI=>by
      (refine x1_2 (hN i lc σ hi hI) fun lc₁ p q=>?_)
      exact ⟨_,lc₁,by rw [nxR,hn,gd_if,if_pos (by (first | lia | omega))],p,q⟩)
    (fun lc σ _=>by rw [nxR,hn,gd_if,if_neg (by (first | lia | omega))]) n 0 1000000 lc σ' (by (first | lia | omega)) hlt h0
  obtain ⟨fl,lc₃,σ₃,e3,k⟩:=hE _ _ h
  exact ⟨_,_,_,(seq_next (forR_of hx hr ho e)).trans e3,k⟩
set_option tactic.hygienic false
theorem fmod_cases {x m:Int} (h:0 < m):0≤x.fmod m∧x.fmod m < m:=⟨Int.fmod_nonneg_of_pos _ h,Int.fmod_lt_of_pos _ h⟩
section
variable {lc:Lc} {σ σ':St} {f g h:EM} {a b v:AV} {x y:Str} {i j:Int} {op:Operator} {l:Nat}
theorem bin_of (h1:f lc σ=some (a,σ)) (h2:g lc σ=some (b,σ)) (h3:abin σ op a b=some v):binE op f g lc σ=some (v,σ):=bnd h1 (bnd h2 (mpo h3))
theorem add_of (h1:f lc σ=some (.int i,σ)) (h2:g lc σ=some (.int j,σ)):binE .Add f g lc σ=some (.int (i + j),σ):=bin_of h1 h2 rfl
theorem sub_of (h1:f lc σ=some (.int i,σ)) (h2:g lc σ=some (.int j,σ)):binE .Sub f g lc σ=some (.int (i - j),σ):=bin_of h1 h2 rfl
theorem cat_of (h1:f lc σ=some (.str x,σ)) (h2:g lc σ=some (.str y,σ)) (h3:x.length + y.length≤1000000):binE .Add f g lc σ=some (.str (x++y),σ):=bin_of h1 h2 (aadd_str.trans (gd_of (decide_eq_true (by rw [sizeLine_eq]; (first | lia | omega)))))
theorem cmp_of {op:CmpOp} {c:Bool} (h1:f lc σ=some (a,σ)) (h2:g lc σ=some (b,σ)) (h3:acmp σ op a b=some c):cmpT op f g lc σ=some (c,σ):=bnd h1 (bnd h2 (mpo h3))
theorem tE_of {t:TM} {c:Bool} (h:t lc σ=some (c,σ')):tE t lc σ=some (.bool c,σ'):=mpo h
theorem evs1 (h1:f lc σ=some (a,σ')):evs [f] lc σ=some ([a],σ'):=bnd h1 (mpo rfl)
theorem evs_cons {fs:List EM} {xs:List AV} {σ₁ σ₂:St} (h1:f lc σ=some (a,σ₁)) (h2:evs fs lc σ₁=some (xs,σ₂)):evs (f :: fs) lc σ=some (a :: xs,σ₂):=bnd h1 (mpo h2)
theorem len_of {LF:FM} (h1:f lc σ=some (.str x,σ)) (h2:x.length≤1000000):callE (lenF LF) [f] lc σ=some (.int x.length,σ):=bnd (evs1 h1) (lenF_str.trans (gd_of (decide_eq_true h2)))
theorem gt_of (h1:f lc σ=some (.int i,σ)) (h2:g lc σ=some (.int j,σ)):cmpT .Gt f g lc σ=some (decide (j < i),σ):=cmp_of h1 h2 rfl
theorem neStr_of (h1:f lc σ=some (.str x,σ)) (h2:g lc σ=some (.str y,σ)):cmpT .NotEq f g lc σ=some (decide (x≠y),σ):=cmp_of h1 h2 (by
  show ((toPD σ 4 (.str x)).bind fun p=>(toPD σ 4 (.str y)).map fun q=>PyData.eqv p q).map not=_
  rw [toPD_str,toPD_str]
  show some (!(PyData.eqv (.str x) (.str y)))=_
  rw [PyData.eqv]
  by_cases e:x=y
  · subst e; simp
  · simp [e])
theorem neInt_of (h1:f lc σ=some (.int i,σ)) (h2:g lc σ=some (.int j,σ)):cmpT .NotEq f g lc σ=some (decide (i≠j),σ):=cmp_of h1 h2 (by
  show ((toPD σ 4 (.int i)).bind fun p=>(toPD σ 4 (.int j)).map fun q=>PyData.eqv p q).map not=_
  rw [toPD_int,toPD_int]
  show some (!(PyData.eqv (.int i) (.int j)))=_
  rw [PyData.eqv]
  by_cases e:i=j
  · subst e; simp
  · simp [e])
theorem addL_of {xs ys:List AV} (h1:f lc σ=some (a,σ)) (h2:g lc σ=some (b,σ)) (ha:asList σ a=some xs) (hb:asList σ b=some ys) (na:a.int?=none) (sa:a.str?=none) (hz:xs.length + ys.length≤1000000):binE .Add f g lc σ=some (.lst (xs++ys),σ):=bin_of h1 h2 (by
  show (twoI a b _).or ((a.str?.bind _).or ((asList σ a).bind fun xs=>(asList σ b).bind fun ys=>_))=_
  unfold twoI
  rw [na,sa,ha,hb]
  show gd _ _=_
  exact gd_of (decide_eq_true (by rw [sizeLine_eq]; (first | lia | omega))))
theorem lstE_of {es:List EM} {xs:List AV} (h:evs es lc σ=some (xs,σ')) (hz:xs.length≤1000000):lstE es lc σ=some (.lst xs,σ'):=bnd h (gd_of (decide_eq_true (len_line hz)))
theorem newLE_of {es:List EM} {xs:List AV} (h:evs es lc σ=some (xs,σ')) (hz:xs.length≤1000000):newLE es lc σ=some (.loc σ'.length,σ'++[.list xs]):=bnd h (gd_of (decide_eq_true (len_line hz)))
theorem slice_of {hi:EM} {n:Nat} {xs:List AV} (h1:f lc σ=some (.lst xs,σ)) (h2:hi lc σ=some (.int (n:Int),σ)) (hz:xs.length≤1000000):sliceE f none (some hi) lc σ=some (.lst (xs.take n),σ):=by
  refine bnd h1 (bnd (a:=(none,σ)) rfl (bnd (a:=(some (n:Int),σ)) (bnd h2 (mpo rfl)) (bnd (a:=xs) rfl ?_)))
  rw [gd_of (decide_eq_true hz),slice_to]
theorem mA {ini:Int} {ps:List (Str × Str)} {G:FM} {es:List EM} {xs:List AV} {r:AV × St} (hf:f lc σ=some (.loc l,σ)) (hl:σ[l]?=some (.acc ini ps)) (he:evs es lc σ=some (xs,σ)) (k:G (.loc l :: xs) σ=some r):mE 4 G f es lc σ=some r :=
  bnd hf ((if_pos (by rw [kind_loc_eq,hl]; rfl)).trans (bnd he k))
theorem mS {G:FM} {es:List EM} {xs:List AV} {r:AV × St} (hf:f lc σ=some (.str x,σ)) (he:evs es lc σ=some (xs,σ)) (k:G (.str x :: xs) σ=some r):mE 1 G f es lc σ=some r :=
  bnd hf ((if_pos rfl).trans (bnd he k))
end
theorem Same.more {X Y:List Nat} {σ σ':St} (S:Same X σ σ') (h:∀ j∈X,j∈Y):Same Y σ σ':=⟨S.1,fun j hj hl=>S.2 j (fun q=>hj (h j q)) hl⟩
theorem mod_cases (x:Int) {n:Nat} (h:0 < n):∃ k:Nat,x.fmod n=k∧k < n:=by
  obtain ⟨h1,h2⟩:=fmod_cases (x:=x) (m:=n) (by (first | lia | omega))
  exact ⟨(x.fmod n).toNat,by (first | lia | omega),by (first | lia | omega)⟩
section
variable {lc:Lc} {σ σ₁:St} {f:EM} {v:AV} {c:Addr} {l:Nat}
end
section
variable {lc:Lc} {σ σ₁:St} {f:EM}
theorem snoc_get {α:Type} {xs:List α} {x:α}:(xs++[x])[xs.length]?=some x:=by rw [List.getElem?_append_right (Nat.le_refl _),Nat.sub_self]; rfl
theorem snoc_set {α:Type} {xs:List α} {x y:α}:(xs++[x]).set xs.length y=xs++[y]:=by simp
theorem append_snoc {xs:List AV} {v:AV} (hz:xs.length≤1000000):appendF [.loc σ.length,v] (σ++[.list xs])=some (.none,σ++[.list (xs++[v])]):=by
  rw [appendF_list snoc_get (len_line hz),snoc_set]
structure PureC (σ:St) (nx:St→Nat→Option (Option AV)) (st:Lc→AV→Option Lc) (t:TM) (f:EM) (k n:Nat) (x:Nat→AV) (l:Nat→Lc) (b:Nat→Bool) (v:Nat→AV):Prop where
  hx:∀ i,i < n→∀ acc,nx (σ++[.list acc]) i=some (some (x i))
  fin:∀ acc,nx (σ++[.list acc]) n=some none
  hst:∀ i,i < n→∀ lc:Lc,lc.length=k→st lc (x i)=some (l i)
  len:∀ i,i < n→(l i).length=k
  ht:∀ i,i < n→∀ acc,t (l i) (σ++[.list acc])=some (b i,σ++[.list acc])
  hf:∀ i,i < n→b i=true→∀ acc,f (l i) (σ++[.list acc])=some (v i,σ++[.list acc])
theorem comp_pure {nx:St→Nat→Option (Option AV)} {st:Lc→AV→Option Lc} {t:TM} {k n:Nat} {x:Nat→AV} {l:Nat→Lc} {b:Nat→Bool} {v:Nat→AV} (P:PureC σ nx st t f k n x l b v) (hn:n≤900000) :
    ∀ (r i fuel:Nat) (lc:Lc) (acc:List AV),i + r=n→r < fuel→lc.length=k→acc.length≤i→compG nx st t f σ.length fuel i lc (σ++[.list acc])=some (σ++[.list (acc++((List.range' i r).filter b).map v)])
  | 0,i,fuel + 1,lc,acc,hi,_,_,_=>by
    obtain rfl:i=n:=by (first | lia | omega)
    unfold compG
    rw [P.fin]
    simp
  | r + 1,i,fuel + 1,lc,acc,hi,hf,hl,ha=>by
    have hlt:i < n:=by (first | lia | omega)
    have e1:compG nx st t f σ.length (fuel + 1) i lc (σ++[.list acc])=if b i then compG nx st t f σ.length fuel (i + 1) (l i) (σ++[.list (acc++[v i])]) else compG nx st t f σ.length fuel (i + 1) (l i) (σ++[.list acc]):=by
      refine bnd (P.hx i hlt acc) (bnd (P.hst i hlt lc hl) (bnd (P.ht i hlt acc) ?_))
      cases hb:b i with
      | true=>exact bnd (P.hf i hlt hb acc) (bnd (append_snoc (by (first | lia | omega))) rfl)
      | false=>rfl
    rw [e1,List.range'_succ,List.filter_cons]
    cases hb:b i with
    | true =>
      rw [if_pos rfl,comp_pure P hn r (i + 1) fuel (l i) (acc++[v i]) (by (first | lia | omega)) (by (first | lia | omega)) (P.len i hlt) (by simp; (first | lia | omega))]
      simp
    | false =>
      rw [if_neg Bool.false_ne_true,comp_pure P hn r (i + 1) fuel (l i) acc (by (first | lia | omega)) (by (first | lia | omega)) (P.len i hlt) (by (first | lia | omega))]
      simp
  | 0,_,0,_,_,_,h,_,_=>absurd h (Nat.lt_irrefl _)
  | _ + 1,_,0,_,_,_,h,_,_=>absurd h (Nat.not_lt_zero _)
theorem compGE_pure {src:SrcM} {tn:(St→Nat→Option (Option AV))→St→Nat→Option (Option AV)} {nx:St→Nat→Option (Option AV)} {st:Lc→AV→Option Lc} {t:TM} {k n:Nat} {x:Nat→AV} {l:Nat→Lc} {b:Nat→Bool} {v:Nat→AV} (hs:src lc σ=some (nx,σ₁)) (P:PureC σ₁ (tn nx) st t f k n x l b v) (hn:n≤900000) :
    compGE src k tn st t f lc σ=some (.loc σ₁.length,σ₁++[.list (((List.range n).filter b).map v)]):=by
  refine bnd hs (mpo ?_)
  have:=comp_pure P hn n 0 1000000 (List.replicate k none) [] (by (first | lia | omega)) (by (first | lia | omega)) (List.length_replicate ..) (Nat.le_refl _)
  rw [List.nil_append,← List.range_eq_range'] at this
  exact this
end
noncomputable def strL (xs:List Nat):Str:=⟨xs.toArray⟩
theorem strL_len {xs:List Nat}:(strL xs).length=xs.length:=List.size_toArray ..
theorem strL_cps {x:Str}:strL x.cps.toList=x:=rfl
set_option tactic.hygienic true
theorem slice_mid {x:Str} {a b:Nat} (hab:a≤b) (hb:b≤x.length):Txt.slice x (some (a:Int)) (some (b:Int))=strL ((x.cps.toList.drop a).take (b - a)):=by
  unfold Txt.slice
  rw [PySem.StrLaws.strSliceIndices_plain hab hb]
  have hl:x.cps.toList.length=x.length:=by rw [Array.length_toList]; rfl
  split
  · rename_i h
    simp only [List.length_map,List.length_range,Bool.and_eq_true,beq_iff_eq] at h
    obtain rfl:a=0:=by (first | lia | omega)
    rw [List.drop_zero,List.take_of_length_le (by rw [hl]; (first | lia | omega))]
    rfl
  · have:=pick_range x.cps.toList a (b - a)
    unfold pickL at this
    rw [← this]
    simp only [Array.getElem?_toList]
    rfl
set_option tactic.hygienic false
theorem slice_take (x:Str) (b:Nat):Txt.slice x none (some (b:Int))=strL (x.cps.toList.take b):=by
  have hl:x.cps.toList.length=x.length:=by rw [Array.length_toList]; rfl
  have e:Txt.slice x none (some (b:Int))=Txt.slice x (some ((0:Nat):Int)) (some ((min b x.length:Nat):Int)):=by
    unfold Txt.slice
    rcases Nat.le_total b x.length with h | h
    · rw [PySem.StrLaws.sliceIdx_none_lo,Nat.min_eq_left h]; rfl
    · rw [Nat.min_eq_right h,sliceIdx_hi_beyond _ (by (first | lia | omega)),PySem.StrLaws.sliceIdx_none_lo]; rfl
  rw [e,slice_mid (Nat.zero_le _) (Nat.min_le_right _ _),List.drop_zero,Nat.sub_zero]
  rcases Nat.le_total b x.length with h | h
  · rw [Nat.min_eq_left h]
  · rw [Nat.min_eq_right h,List.take_of_length_le (by (first | lia | omega)),List.take_of_length_le (by (first | lia | omega))]
theorem slice_drop (x:Str) (a:Nat):Txt.slice x (some (a:Int)) none=strL (x.cps.toList.drop a):=by
  have hl:x.cps.toList.length=x.length:=by rw [Array.length_toList]; rfl
  have e:Txt.slice x (some (a:Int)) none=Txt.slice x (some ((min a x.length:Nat):Int)) (some ((x.length:Nat):Int)):=by
    unfold Txt.slice
    rcases Nat.le_total a x.length with h | h
    · rw [PySem.StrLaws.sliceIdx_none_hi,Nat.min_eq_left h]
    · rw [Nat.min_eq_right h,sliceIdx_lo_beyond _ (by (first | lia | omega)),PySem.StrLaws.sliceIdx_none_hi]
  rw [e,slice_mid (Nat.min_le_right _ _) (Nat.le_refl _),List.take_of_length_le (by rw [List.length_drop]; (first | lia | omega))]
  rcases Nat.le_total a x.length with h | h
  · rw [Nat.min_eq_left h]
  · rw [Nat.min_eq_right h,List.drop_of_length_le (by (first | lia | omega)),List.drop_of_length_le (by (first | lia | omega))]
theorem rangeUp (n:Nat):Builtin.Range.rangeSize 0 (n:Int) 1=n:=by
  unfold Builtin.Range.rangeSize
  simp
  try (first | lia | omega)
theorem okUp {n:Nat} (h:n < 1000000):okRange 0 (n:Int) 1=true:=by
  have f:Builtin.Range.rangeFitsLong (n:Int)=true:=by
    unfold Builtin.Range.rangeFitsLong
    rw [Bool.and_eq_true,decide_eq_true_eq,decide_eq_true_eq]
    constructor <;> (first | lia | omega)
  unfold okRange Builtin.Range.small
  rw [rangeUp,f]
  have e:(if (1:Int) > 0 then Builtin.Range.rangeFitsLong ((n:Int) + (1 - 1)) else Builtin.Range.rangeFitsLong ((n:Int) + (1 + 1)))=true:=by
    rw [if_pos (by decide),show (n:Int) + (1 - 1)=n by (first | lia | omega),f]
  rw [e]
  generalize ((n:Int) == 0)=z
  cases z <;> decide
section
variable {lc:Lc} {σ σ':St} {f g h:EM} {a b v:AV} {x y:Str} {i j:Int}
theorem eqInt_of (h1:f lc σ=some (.int i,σ)) (h2:g lc σ=some (.int j,σ)):cmpT .Eq f g lc σ=some (decide (i=j),σ):=cmp_of h1 h2 (by
  show ((toPD σ 4 (.int i)).bind fun p=>(toPD σ 4 (.int j)).map fun q=>PyData.eqv p q)=_
  rw [toPD_int,toPD_int]
  show some (PyData.eqv (.int i) (.int j))=_
  rw [PyData.eqv]
  by_cases e:i=j
  · subst e; simp
  · simp [e])
theorem ltInt_of (h1:f lc σ=some (.int i,σ)) (h2:g lc σ=some (.int j,σ)):cmpT .Lt f g lc σ=some (decide (i < j),σ):=cmp_of h1 h2 rfl
theorem or_n {t:TM} {ts:List TM} {r:Option (Bool × St)} (h:t lc σ=some (false,σ)) (k:orT ts lc σ=r):orT (t :: ts) lc σ=r:=bnd h k
theorem and_t {t:TM} {ts:List TM} {r:Option (Bool × St)} (h:t lc σ=some (true,σ)) (k:andT ts lc σ=r):andT (t :: ts) lc σ=r:=bnd h k
theorem and_f {t:TM} {ts:List TM} (h:t lc σ=some (false,σ)):andT (t :: ts) lc σ=some (false,σ):=bnd h rfl
theorem or_1 {t:TM} {c:Bool} (h:t lc σ=some (c,σ)):orT [t] lc σ=some (c,σ):=by cases c <;> exact bnd h rfl
theorem and_1 {t:TM} {c:Bool} (h:t lc σ=some (c,σ)):andT [t] lc σ=some (c,σ):=by cases c <;> exact bnd h rfl
theorem sign_of {k c:Nat} (h1:f lc σ=some (.str x,σ)) (h2:g lc σ=some (.int (k:Int),σ)) (hk:x.cps.toList[k]?=some c) (hz:x.length≤1000000):idxE f g lc σ=some (.str ⟨#[c]⟩,σ):=by
  have hl:x.cps.toList.length=x.length:=by rw [Array.length_toList]; rfl
  have hlt:k < x.length:=hl▸(List.getElem?_eq_some_iff.mp hk).1
  have es:seqIndex? (k:Int) x.length=some k:=sidx hlt
  refine idx_of h1 h2 ?_
  rw [aget_str,if_pos (by (first | lia | omega)),es]
  show (x.cps[k]?).map _=_
  rw [← Array.getElem?_toList,hk]
  rfl
theorem item_of {l k:Nat} {xs:List AV} (h1:f lc σ=some (.loc l,σ)) (h2:g lc σ=some (.int (k:Int),σ)) (hl:σ[l]?=some (.list xs)) (hk:xs[k]?=some v) (hz:xs.length≤1000000):idxE f g lc σ=some (v,σ):=by
  have hlt:=(List.getElem?_eq_some_iff.mp hk).1
  have es:seqIndex? (k:Int) xs.length=some k:=sidx hlt
  refine idx_of h1 h2 ?_
  rw [aget_seq (asSeq_list hl),if_pos (by (first | lia | omega)),es]
  exact hk
theorem slStr_of {lo hi:Option EM} {p q:Option Int} (h1:f lc σ=some (.str x,σ)) (h2:optE lo lc σ=some (p,σ)) (h3:optE hi lc σ=some (q,σ)) (hz:x.length≤1000000):slStrE f lo hi lc σ=some (.str (Txt.slice x p q),σ) :=
  bnd h1 (bnd rfl (bnd h2 (bnd h3 (gd_of (decide_eq_true hz)))))
theorem opt_of (h:f lc σ=some (.int i,σ)):optE (some f) lc σ=some (some i,σ):=bnd h (mpo rfl)
theorem evs2 {σ₁ σ₂:St} (h1:f lc σ=some (a,σ₁)) (h2:g lc σ₁=some (b,σ₂)):evs [f,g] lc σ=some ([a,b],σ₂):=evs_cons h1 (evs1 h2)
theorem srcL_of {xs:List AV} (h1:f lc σ=some (a,σ')) (h2:asList σ' a=some xs):srcL f lc σ=some (nxL a,σ'):=bnd h1 (mpo h2)
theorem nxR_up {n i:Nat} (h:i < n):nxR 0 (n:Int) 1 σ i=some (some (.int (i:Int))):=by
  unfold nxR
  rw [rangeUp,gd_of (decide_eq_true (by (first | lia | omega)))]
  simp
theorem nxR_fin {n:Nat}:nxR 0 (n:Int) 1 σ n=some none:=by
  unfold nxR
  rw [rangeUp]
  simp [gd]
theorem app_of {l:Nat} {xs:List AV} (h1:f lc σ=some (.loc l,σ)) (hl:σ[l]?=some (.list xs)) (h2:g lc σ=some (v,σ')) (hl':σ'[l]?=some (.list xs)) (hz:xs.length≤1000000):mE 2 appendF f [g] lc σ=some (.none,σ'.set l (.list (xs++[v]))) :=
  bnd h1 ((if_pos (by rw [kind_loc_eq,hl]; rfl)).trans (bnd (evs1 h2) (appendF_list hl' (len_line hz))))
theorem tup_of {fs:List EM} {xs:List AV} (h:evs fs lc σ=some (xs,σ')) (hz:xs.length≤1000000):tupE fs lc σ=some (.tup xs,σ'):=bnd h (gd_of (decide_eq_true (len_line hz)))
theorem lenL_of {LF:FM} {l:Nat} {xs:List AV} (h1:f lc σ=some (.loc l,σ)) (hl:σ[l]?=some (.list xs)) (hz:xs.length≤1000000):callE (lenF LF) [f] lc σ=some (.int xs.length,σ):=bnd (evs1 h1) (lenF_list hl hz)
end
section
variable {α:Type} {xs D:List α} {o p q:α}
theorem get1:(xs++o :: p :: D)[xs.length + 1]?=some p:=by rw [List.getElem?_append_right (Nat.le_add_right _ 1),Nat.add_sub_cancel_left]; rfl
theorem getL {i:Nat} {v:α} (h:xs[i]?=some v):(xs++D)[i]?=some v:=by rw [List.getElem?_append_left (List.getElem?_eq_some_iff.mp h).1]; exact h
end
section
variable {σ:St} {m ln ac l k:Nat} {ml cwl:Int} {cw sp:Str} {rows:List Str} {ini:Int} {ps:List (Str × Str)} {o:AO}
theorem FmtAt.gen (F:FmtAt σ m ln ac ml cw cwl sp rows ini ps) (hl:σ[l]?=some (.gen m k)) (o:AO):FmtAt (σ.set l o) m ln ac ml cw cwl sp rows ini ps:=by
  refine FmtAt.keep F (X:=[l]) (.set (by simp)) ?_ ?_ ?_
  · intro h; simp at h; subst h; have:=F.fm; rw [hl] at this; cases this
  · intro h; simp at h; subst h; have:=F.li; rw [hl] at this; cases this
  · intro h; simp at h; subst h; have:=F.acc; rw [hl] at this; cases this
theorem next_eq {v:Int} {e:EM} (hl:σ[l]?=some (.gen m k)) (he:(bif k == 0 then lenE0 else lenE1)=e) (h:∀ n,e [some (.loc m)] (σ.set l (.out n))=some (.int v,σ.set l (.out n))):nextF lenE0 lenE1 [.loc l] σ=some (.int v,σ.set l (.gen m (k + 1))):=by
  have p:=pickI_eq (P:=fun v=>∀ n,(bif k == 0 then lenE0 else lenE1) [some (.loc m)] (σ.set l (.out n))=some (.int v,σ.set l (.out n))) (v:=v) (by rw [he]; exact h) fun u hu=>by
    have:=hu 0
    rw [he,h 0] at this
    cases this; rfl
  exact bnd (a:=.loc l) rfl (bnd (a:=l) rfl (bnd (genAt_of hl) (mpo p)))
theorem next0 (F:FmtAt σ m ln ac ml cw cwl sp rows ini ps) (H:Fits rows ini ps) (hl:σ[l]?=some (.gen m 0)):nextF lenE0 lenE1 [.loc l] σ=some (.int (ml - (ini + partsLen ps)),σ.set l (.gen m 1)) :=
  next_eq (e:=lenE0) hl rfl fun n=>by
    have F':=F.gen hl (.out n)
    have a:attrE 0 (nE 0) [some (.loc m)] (σ.set l (.out n))=some (.int ml,σ.set l (.out n)):=by simp [attrE,nE,F'.fm,attrOf,fmtAttrs,AV.loc?]
    exact sub_of a (lenLine_eq (lc:=[some (.loc m)]) rfl F' H)
theorem next1 (F:FmtAt σ m ln ac ml cw cwl sp rows ini ps) (hl:σ[l]?=some (.gen m (k + 1))):nextF lenE0 lenE1 [.loc l] σ=some (.int (ml - cwl),σ.set l (.gen m (k + 2))) :=
  next_eq (e:=lenE1) hl rfl fun n=>by
    have F':=F.gen hl (.out n)
    have a:attrE 0 (nE 0) [some (.loc m)] (σ.set l (.out n))=some (.int ml,σ.set l (.out n)):=by simp [attrE,nE,F'.fm,attrOf,fmtAttrs,AV.loc?]
    have b:attrE 2 (nE 0) [some (.loc m)] (σ.set l (.out n))=some (.int cwl,σ.set l (.out n)):=by simp [attrE,nE,F'.fm,attrOf,fmtAttrs,AV.loc?]
    exact sub_of a b
theorem makeGen_eq (F:FmtAt σ m ln ac ml cw cwl sp rows ini ps):makeGenF [.loc m] σ=some (.loc σ.length,σ++[.gen m 0]):=bnd (a:=.loc m) rfl (bnd (a:=m) rfl (mpo (a:=()) (by unfold isFmt; rw [F.fm]; rfl)))
end
noncomputable def p_law_codedFB:SM:=(seqS [asgS 3 (newLE []),
 whileS (cmpT .NotEq (nE 1) (cE (.str ""))) (seqS [asgS 4 (binE .Sub (callE (nextF lenE0 lenE1) [(nE 2)]) (cE (.int 2))),
 ifS (cmpT .Gt (nE 4) (cE (.int 0))) (seqS [exprS (mE 2 appendF (nE 3) [(binE .Add (binE .Add (idxE (nE 0) (cE (.int 0))) (slStrE (nE 1) none (some (nE 4)))) (idxE (nE 0) (cE (.int 1))))]),
 asgS 1 (slStrE (nE 1) (some (nE 4)) none)]) (seqS [exprS (mE 2 appendF (nE 3) [(cE .none)])])]) (seqS []),
 retS (nE 3)])
noncomputable def p_law_codedF:FM:=runF ["marks", "text", "rooms", "lines", "size"] 3 p_law_codedFB
noncomputable def p_law_charsetFB (L g:Nat):SM:=(seqS [asgS 0 (callE mkFmtF [(cE (.int 0)),(cE (.int 0)),(cE (.str "")),(cE (.str ""))]),
 setXS 6 (nE 0) (cE (.int 1)),
 setXS 7 (nE 0) (lamE 1 [(L + 1 + 0,g + 0)]),
 retS (nE 0)])
noncomputable def p_law_charsetF:FM:=runC5 1 [none] [some 0] p_law_charsetFB
noncomputable def lamF:FM:=runLam5 1 (runLam 1 2 ["text", "rooms"] (lamB1 fun c i=>callE p_law_codedF [cellE c i,nE 0,nE 1]))
noncomputable def feedFB:SM:=(seqS [ifNotS (cmpT .Is (attrXE 6 (nE 3)) (cE .none)) (seqS []),
 asgS 4 (callAttrE 7 (nE 3) [(nE 2),(mE 3 makeGenF (nE 0) [])] lamF),
 tryPopS 4 [(cE (.int 0))] (asgS 5 (mE 2 popAtF (nE 4) [(cE (.int 0))])),
 ifS (cmpT .IsNot (nE 5) (cE .none)) (seqS [exprS (mE 3 chunkF (nE 0) [(nE 1),(nE 5)])]) (seqS []),
 tryPopS 4 [] (asgS 6 (mE 2 popLF (nE 4) [])),
 exprS (mE 3 newlineF (nE 0) []),
 exprS (mE 4 pushF (attrE 5 (nE 0)) [(attrE 1 (nE 0)),(nE 6)]),
 forS 7 (nE 4) (seqS [exprS (mE 2 appendF (attrE 4 (nE 0)) [(binE .Add (attrE 1 (nE 0)) (nE 7))])]) (seqS [])])
noncomputable def feedF:FM:=runF ["self", "fws", "string", "charset", "encoded_lines", "first_line", "last_line", "line"] 4 feedFB
noncomputable def lawFTurn1:SM:=(seqS [ifS (cmpT .Eq (binE .Mod (nE 6) (cE (.int 5))) (cE (.int 0))) (seqS [exprS (mE 2 appendF (nE 5) [(cE (.str ""))])]) (seqS [augIdxS (nE 5) (negE (cE (.int 1))) .Add (idxE (cE (.str "abcd")) (binE .Sub (binE .Mod (nE 6) (cE (.int 5))) (cE (.int 1))))])])
noncomputable def lawFTurn2:SM:=(seqS [ifS (cmpT .Gt (nE 9) (cE (.int 0))) (seqS [exprS (mE 3 transF (nE 8) [])]) (seqS []),
 exprS (mE 3 feedF (nE 8) [(cE (.str "")),(idxE (nE 5) (nE 9)),(idxE (nE 7) (binE .Mod (nE 9) (cE (.int 2))))])])
noncomputable def lawFTurn3:SM:=(seqS [ifS (orT [(cmpT .Eq (nE 9) (callE (lenF accLenF) [(nE 5)])),(andT [(cmpT .Gt (nE 18) (cE (.int 0))),(cmpT .NotEq (nE 12) (idxE (nE 5) (nE 9)))])]) (seqS [retS (cE (.bool false))]) (seqS []),
 asgS 19 (idxE (lstE [(cE (.str "[]")),(cE (.str "()"))]) (binE .Mod (nE 9) (cE (.int 2)))),
 asgS 20 (slStrE (idxE (nE 17) (nE 18)) (some (cE (.int 1))) (some (negE (cE (.int 1))))),
 ifS (orT [(cmpT .Eq (nE 20) (cE (.str ""))),(cmpT .NotEq (idxE (nE 17) (nE 18)) (binE .Add (binE .Add (idxE (nE 19) (cE (.int 0))) (nE 20)) (idxE (nE 19) (cE (.int 1))))),(cmpT .NotEq (slStrE (nE 12) none (some (callE (lenF accLenF) [(nE 20)]))) (nE 20))]) (seqS [retS (cE (.bool false))]) (seqS []),
 asgS 12 (slStrE (nE 12) (some (callE (lenF accLenF) [(nE 20)])) none),
 ifS (cmpT .Eq (nE 12) (cE (.str ""))) (seqS [augS 9 .Add (cE (.int 1)),
 asgS 12 (idxE (binE .Add (nE 5) (lstE [(cE (.str ""))])) (nE 9))]) (seqS [])])
noncomputable def lawFTurn4:SM:=(seqS [asgS 14 (idxE (nE 11) (nE 13)),
 asgS 15 (iteE (cmpT .Eq (nE 13) (cE (.int 0))) (binE .Sub (nE 3) (nE 4)) (nE 3)),
 asgS 16 (iteE (cmpT .Eq (nE 13) (cE (.int 0))) (nE 14) (slStrE (nE 14) (some (callE (lenF accLenF) [(nE 2)])) none)),
 ifS (andT [(cmpT .Gt (nE 13) (cE (.int 0))),(orT [(cmpT .NotEq (slStrE (nE 14) none (some (callE (lenF accLenF) [(nE 2)]))) (nE 2)),(cmpT .Eq (nE 16) (cE (.str "")))])]) (seqS [retS (cE (.bool false))]) (seqS []),
 ifS (andT [(cmpT .NotEq (nE 14) (cE (.str ""))),(cmpT .Gt (callE (lenF accLenF) [(nE 14)]) (nE 15))]) (seqS [retS (cE (.bool false))]) (seqS []),
 asgS 17 (iteE (cmpT .NotEq (nE 16) (cE (.str ""))) (mE 1 splitTextF (nE 16) [(cE (.str " "))]) (lstE [])),
 forRS 18 [(callE (lenF accLenF) [(nE 17)])] lawFTurn3 (seqS []),
 ifS (cmpT .Lt (nE 13) (binE .Sub (callE (lenF accLenF) [(nE 11)]) (cE (.int 1)))) (seqS [ifS (cmpT .Eq (nE 9) (callE (lenF accLenF) [(nE 5)])) (seqS [retS (cE (.bool false))]) (seqS []),
 ifS (cmpT .NotEq (nE 12) (idxE (nE 5) (nE 9))) (seqS [ifS (cmpT .NotEq (callE (lenF accLenF) [(nE 14)]) (nE 15)) (seqS [retS (cE (.bool false))]) (seqS [])]) (seqS [ifS (cmpT .LtE (binE .Add (binE .Add (callE (lenF accLenF) [(nE 14)]) (callE minF [(callE (lenF accLenF) [(nE 17)]),(cE (.int 1))])) (cE (.int 3))) (nE 15)) (seqS [retS (cE (.bool false))]) (seqS [])])]) (seqS [])])
noncomputable def lawFB (L:Nat):SM:=(seqS [asgS 0 (sliceE (nE 0) none (some (cE (.int 63)))),
 asgS 1 (idxE (binE .Add (nE 0) (lstE [(cE (.int 0))])) (cE (.int 0))),
 asgS 2 (idxE (lstE [(cE (.str " ")),(cE (.str "\t")),(cE (.str "  \t"))]) (binE .Mod (nE 1) (cE (.int 3)))),
 asgS 3 (binE .Add (binE .Add (callE (lenF accLenF) [(nE 2)]) (cE (.int 3))) (binE .Mod (binE .FloorDiv (nE 1) (cE (.int 3))) (cE (.int 9)))),
 asgS 4 (binE .Mult (binE .Mod (binE .FloorDiv (nE 1) (cE (.int 27))) (cE (.int 5))) (cE (.int 4))),
 asgS 5 (newLE [(cE (.str ""))]),
 forS 6 (sliceE (nE 0) (some (cE (.int 1))) none) lawFTurn1 (seqS []),
 asgS 5 (compGE (srcL (nE 5)) 1 id (fun lc y=>putL lc 0 y) (cmpT .NotEq (nE 0) (cE (.str ""))) (nE 0)),
 asgS 7 (lstE [(callE p_law_charsetF [(cE (.str "[]"))]),(callE p_law_charsetF [(cE (.str "()"))])]),
 asgS 8 (callE mkFmtF [(nE 4),(nE 3),(nE 2),(cE (.str " ;"))]),
 forRS 9 [(callE (lenF accLenF) [(nE 5)])] lawFTurn2 (seqS []),
 exprS (mE 3 transF (nE 8) []),
 asgS 10 (mE 3 uStrF (nE 8) [(cE (.str "\n"))]),
 asgS 11 (attrE 4 (nE 8)),
 ifS (cmpT .Eq (nE 5) (lstE [])) (seqS [retS (andE (tE (cmpT .Eq (nE 11) (iteE (cmpT .Gt (nE 4) (cE (.int 0))) (lstE [(cE (.str ""))]) (lstE [])))) (tE (cmpT .Eq (nE 10) (cE (.str "")))))]) (seqS []),
 asgS 9 (cE (.int 0)),
 asgS 12 (idxE (nE 5) (cE (.int 0))),
 forRS 13 [(callE (lenF accLenF) [(nE 11)])] lawFTurn4 (seqS []),
 retS (andE (tE (cmpT .Eq (nE 9) (callE (lenF accLenF) [(nE 5)]))) (tE (cmpT .Eq (nE 10) (mE 1 joinF (cE (.str "\n")) [(nE 11)]))))])
noncomputable abbrev lawFV:List Str:=["script", "first", "ahead", "width", "head", "pieces", "x", "charsets", "formatter", "k", "told", "rows", "left", "n", "row", "room", "body", "words", "m", "marks", "inner"]
noncomputable abbrev chs (n:Nat) (marks:Str):St:=[.ext 5 [.str marks],.list [],.acc 0 [],.ext 8 [.int 0,.str "",.int 0,.str "",.loc (n + 1),.loc (n + 2),.int 1,.loc (n + 4)],.ext 1 [.loc n]]
theorem set_at {α:Type} {xs ys:List α} {j:Nat} {y:α}:(xs++ys).set (xs.length + j) y=xs++ys.set j y:=by
  rw [List.set_append_right _ _ (Nat.le_add_right _ _),Nat.add_sub_cancel_left]
theorem get_at {α:Type} {xs ys:List α} {j:Nat}:(xs++ys)[xs.length + j]?=ys[j]?:=by
  rw [List.getElem?_append_right (Nat.le_add_right _ _),Nat.add_sub_cancel_left]
theorem fmt_made1 {lc:Lc} {σ:St} {es:List EM} {hl ml:Int} {cw sp:Str} (h:evs es lc σ=some ([.int hl,.int ml,.str cw,.str sp],σ)) (hz:cw.length≤1000000):callE mkFmtF es lc σ=some (.loc (σ.length + 2),σ++[.list [],.acc hl [],.fmt ml cw cw.length sp σ.length (σ.length + 1)]) :=
  bnd h (gd_of (decide_eq_true hz))
set_option tactic.hygienic true
theorem charset_spec (σ:St) (marks:Str):p_law_charsetF [.str marks] σ=some (.loc (σ.length + 3),σ++chs σ.length marks):=by
  unfold p_law_charsetF runC5 runCF
  refine (if_pos rfl).trans (pickA_of fun L=>?_)
  have ea:fromA [AV.str marks] [none]=[none]:=rfl
  have ec:cellsA L 0 (fromA [AV.str marks] [some 0])=[.cell (L + 1 + 0) (some (.str marks))]:=rfl
  rw [ea,ec]
  have f1:callE mkFmtF [(cE (.int 0)),(cE (.int 0)),(cE (.str "")),(cE (.str ""))] [none] (σ++[.cell (L + 1 + 0) (some (.str marks))])=some (.loc (σ.length + 3),σ++[.cell (L + 1 + 0) (some (.str marks)),.list [],.acc 0 [],.fmt 0 "" 0 "" (σ.length + 1) (σ.length + 2)]):=by
    have:=fmt_made1 (lc:=[none]) (σ:=σ++[.cell (L + 1 + 0) (some (.str marks))]) (es:=[(cE (.int 0)),(cE (.int 0)),(cE (.str "")),(cE (.str ""))]) (hl:=0) (ml:=0) (cw := "") (sp := "") rfl (by decide)
    rw [List.length_append,List.append_assoc] at this
    exact this
  have e1:p_law_charsetFB L σ.length [none] (σ++[.cell (L + 1 + 0) (some (.str marks))])=some (.ret (.loc (σ.length + 3)),[some (.loc (σ.length + 3))],σ++[.cell (L + 1 + 0) (some (.str marks)),.list [],.acc 0 [],.ext 8 [.int 0,.str "",.int 0,.str "",.loc (σ.length + 1),.loc (σ.length + 2),.int 1,.loc (σ.length + 4)],.ext 1 [.loc σ.length]]):=by
    unfold p_law_charsetFB
    rw [seq_next (asg_of f1 (by decide))]
    have g3:∀ (o0 o1 o2 o3:AO) (r:St),(σ++o0 :: o1 :: o2 :: o3 :: r)[σ.length + 3]?=some o3:=fun uu uu uu uu uu=>get_at
    have s3:∀ (o0 o1 o2 o3 o:AO) (r:St),(σ++o0 :: o1 :: o2 :: o3 :: r).set (σ.length + 3) o=σ++o0 :: o1 :: o2 :: o :: r:=fun uu uu uu uu uu uu=>set_at
    have e2:setXS 6 (nE 0) (cE (.int 1)) [some (.loc (σ.length + 3))] (σ++[.cell (L + 1 + 0) (some (.str marks)),.list [],.acc 0 [],.fmt 0 "" 0 "" (σ.length + 1) (σ.length + 2)])=some (.next,[some (.loc (σ.length + 3))],σ++[.cell (L + 1 + 0) (some (.str marks)),.list [],.acc 0 [],.ext 7 [.int 0,.str "",.int 0,.str "",.loc (σ.length + 1),.loc (σ.length + 2),.int 1]]):=by
      refine bnd (a:=(AV.int 1,_)) rfl (bnd (a:=(AV.loc (σ.length + 3),_)) rfl (bnd (a:=σ.length + 3) rfl (bnd (a:=[AV.int 0,.str "",.int 0,.str "",.loc (σ.length + 1),.loc (σ.length + 2)]) (bnd (g3 _ _ _ _ _) rfl) ((gd_of rfl).trans ?_))))
      rw [s3]; rfl
    refine (seq_next e2).trans ?_
    have e3:lamE 1 [(L + 1 + 0,σ.length + 0)] [some (.loc (σ.length + 3))] (σ++[.cell (L + 1 + 0) (some (.str marks)),.list [],.acc 0 [],.ext 7 [.int 0,.str "",.int 0,.str "",.loc (σ.length + 1),.loc (σ.length + 2),.int 1]])=some (.loc (σ.length + 4),σ++[.cell (L + 1 + 0) (some (.str marks)),.list [],.acc 0 [],.ext 7 [.int 0,.str "",.int 0,.str "",.loc (σ.length + 1),.loc (σ.length + 2),.int 1],.ext 1 [.loc σ.length]]):=by
      have hb:[(L + 1 + 0,σ.length + 0)].all (cellIs (σ++[AO.cell (L + 1 + 0) (some (.str marks)),.list [],.acc 0 [],.ext 7 [.int 0,.str "",.int 0,.str "",.loc (σ.length + 1),.loc (σ.length + 2),.int 1]]))=true:=by
        rw [List.all_cons,List.all_nil,Bool.and_true]
        unfold cellIs
        have:celAt (σ++[AO.cell (L + 1 + 0) (some (.str marks)),.list [],.acc 0 [],.ext 7 [.int 0,.str "",.int 0,.str "",.loc (σ.length + 1),.loc (σ.length + 2),.int 1]]) (σ.length + 0)=some (L + 1 + 0,some (.str marks)):=celAt_of get_at
        rw [this]
        exact beq_self_eq_true _
      refine (gd_of hb).trans ?_
      rw [List.length_append,List.append_assoc]; rfl
    have e4:setXS 7 (nE 0) (lamE 1 [(L + 1 + 0,σ.length + 0)]) [some (.loc (σ.length + 3))] (σ++[.cell (L + 1 + 0) (some (.str marks)),.list [],.acc 0 [],.ext 7 [.int 0,.str "",.int 0,.str "",.loc (σ.length + 1),.loc (σ.length + 2),.int 1]])=some (.next,[some (.loc (σ.length + 3))],σ++[.cell (L + 1 + 0) (some (.str marks)),.list [],.acc 0 [],.ext 8 [.int 0,.str "",.int 0,.str "",.loc (σ.length + 1),.loc (σ.length + 2),.int 1,.loc (σ.length + 4)],.ext 1 [.loc σ.length]]):=by
      refine bnd e3 (bnd (a:=(AV.loc (σ.length + 3),_)) rfl (bnd (a:=σ.length + 3) rfl (bnd (a:=[AV.int 0,.str "",.int 0,.str "",.loc (σ.length + 1),.loc (σ.length + 2),.int 1]) (bnd (g3 _ _ _ _ _) rfl) ((gd_of rfl).trans ?_))))
      rw [s3]; rfl
    refine (seq_next e4).trans ?_
    rfl
  rw [e1]
  have g0:∀ (o:AO) (r:St),(σ++o :: r)[σ.length]?=some o:=fun uu uu=>get_at (j:=0)
  refine bnd (a:=(AV.loc (σ.length + 3),_)) rfl ?_
  have e5:seal5N 1 σ.length (σ++[.cell (L + 1 + 0) (some (.str marks)),.list [],.acc 0 [],.ext 8 [.int 0,.str "",.int 0,.str "",.loc (σ.length + 1),.loc (σ.length + 2),.int 1,.loc (σ.length + 4)],.ext 1 [.loc σ.length]])=some (σ++chs σ.length marks):=by
    refine bnd (celAt_of (g0 _ _)) (bnd (a:=AV.str marks) rfl ?_)
    exact congrArg some (set_at (j:=0))
  exact (congrArg (Option.map _) e5).trans rfl
noncomputable def slices (size:Nat):Nat→List Nat→List (List Nat)
  | 0,_=>[]
  | n + 1,xs=>if xs=[] then [] else xs.take size :: slices size n (xs.drop size)
theorem slices_flat {size:Nat} (hs:0 < size):∀ {n:Nat} {xs:List Nat},xs.length≤n→(slices size n xs).flatten=xs
  | 0,xs,h=>by rw [List.eq_nil_of_length_eq_zero (Nat.le_zero.mp h)]; rfl
  | n + 1,xs,h=>by
    unfold slices
    split
    · rename_i e; rw [e]; rfl
    · rw [List.flatten_cons,slices_flat hs (by rw [List.length_drop]; (first | lia | omega)),List.take_append_drop]
theorem slices_ne {size:Nat} (hs:0 < size):∀ {n:Nat} {xs:List Nat} (y:List Nat),y∈slices size n xs→y≠[]
  | 0,_,_,h=>nomatch h
  | n + 1,xs,y,h=>by
    unfold slices at h
    split at h
    · cases h
    · rename_i hx
      rcases List.mem_cons.mp h with rfl | h
      · intro e
        have:=congrArg List.length e
        rw [List.length_take,List.length_nil] at this
        have:0 < xs.length:=List.length_pos_iff.mpr hx
        (first | lia | omega)
      · exact slices_ne hs y h
noncomputable def wd (mk:Nat × Nat) (xs:List Nat):Str:=strL (mk.1 :: (xs++[mk.2]))
noncomputable def mkS (mk:Nat × Nat):Str:=strL [mk.1,mk.2]
set_option tactic.hygienic false
theorem wd_len {mk:Nat × Nat} {xs:List Nat}:(wd mk xs).length=xs.length + 2:=by unfold wd; rw [strL_len]; simp
noncomputable def lineAt (mk:Nat × Nat) (v:Int) (xs:List Nat):AV:=if v≤2 then .none else .str (wd mk (xs.take (v - 2).toNat))
noncomputable abbrev wdV (mk:Nat × Nat) (y:List Nat):AV:=.str (wd mk y)
noncomputable def codedL (mk:Nat × Nat) (near:Int) (fr:Nat) (xs:List Nat):List AV:=lineAt mk near xs :: (slices fr xs.length (xs.drop (near - 2).toNat)).map (wdV mk)
noncomputable abbrev tauC (σ:St) (g m k:Nat) (acc:List AV):St:=σ.set g (.gen m k)++[.list acc]
noncomputable abbrev lcC (mk:Nat × Nat) (xs:List Nat) (g e:Nat) (a4:Option AV):Lc:=[some (.str (mkS mk)),some (.str (strL xs)),some (.loc g),some (.loc e),a4]
noncomputable abbrev codedB:SM:=seqS [asgS 4 (binE .Sub (callE (nextF lenE0 lenE1) [(nE 2)]) (cE (.int 2))),
 ifS (cmpT .Gt (nE 4) (cE (.int 0))) (seqS [exprS (mE 2 appendF (nE 3) [(binE .Add (binE .Add (idxE (nE 0) (cE (.int 0))) (slStrE (nE 1) none (some (nE 4)))) (idxE (nE 0) (cE (.int 1))))]),
 asgS 1 (slStrE (nE 1) (some (nE 4)) none)]) (seqS [exprS (mE 2 appendF (nE 3) [(cE .none)])])]
noncomputable abbrev codedT:TM:=cmpT .NotEq (nE 1) (cE (.str ""))
section
variable {σ:St} {g m k:Nat} {mk:Nat × Nat} {acc:List AV} {xs:List Nat} {a4:Option AV} {v:Int}
theorem strL_ne {xs:List Nat}:strL xs ≠ "" ↔ xs≠[]:=⟨fun h e=>h (by rw [e]; rfl),fun h e=>h (by have:=congrArg (fun x:Str=>x.cps.toList) e; exact this)⟩
set_option tactic.hygienic true
theorem coded_turn (hg:g < σ.length) (hn:nextF lenE0 lenE1 [.loc g] (tauC σ g m k acc)=some (.int v,tauC σ g m (k + 1) acc)) (hx:xs.length≤1000) (ha:acc.length≤1000) :
    codedB (lcC mk xs g σ.length a4) (tauC σ g m k acc)=some (.next,lcC mk (xs.drop (v - 2).toNat) g σ.length (some (.int (v - 2))),tauC σ g m (k + 1) (acc++[lineAt mk v xs])):=by
  have hl:∀ k acc,(tauC σ g m k acc)[σ.length]?=some (.list acc):=fun k acc=>by
    have:=snoc_get (xs:=σ.set g (.gen m k)) (x:=AO.list acc)
    rw [List.length_set] at this
    exact this
  have hs:∀ k acc acc',(tauC σ g m k acc).set σ.length (.list acc')=tauC σ g m k acc':=fun k acc acc'=>by
    have:=snoc_set (xs:=σ.set g (.gen m k)) (x:=AO.list acc) (y:=AO.list acc')
    rw [List.length_set] at this
    exact this
  have e1:asgS 4 (binE .Sub (callE (nextF lenE0 lenE1) [(nE 2)]) (cE (.int 2))) (lcC mk xs g σ.length a4) (tauC σ g m k acc)=some (.next,lcC mk xs g σ.length (some (.int (v - 2))),tauC σ g m (k + 1) acc) :=
    asg_of (lc:=lcC mk xs g σ.length a4) (bnd (a:=(.int v,_)) (bnd (a:=([.loc g],_)) rfl hn) (bnd (a:=(.int 2,_)) rfl rfl)) (by show 4 < 5; decide)
  refine (seq_next e1).trans ?_
  have e2:cmpT .Gt (nE 4) (cE (.int 0)) (lcC mk xs g σ.length (some (.int (v - 2)))) (tauC σ g m (k + 1) acc)=some (decide (0 < v - 2),tauC σ g m (k + 1) acc):=gt_of rfl rfl
  unfold lineAt
  by_cases h:v≤2
  · rw [decide_eq_false (by (first | lia | omega))] at e2
    rw [if_pos h,show (v - 2).toNat=0 by (first | lia | omega),List.drop_zero]
    have e3:=app_of (f:=nE 3) (g:=cE .none) (lc:=lcC mk xs g σ.length (some (.int (v - 2)))) (v:=.none) rfl (hl (k + 1) acc) rfl (hl (k + 1) acc) (by (first | lia | omega))
    rw [hs] at e3
    refine (seq_next ((if_f e2).trans ((seq_next (expr_of e3)).trans rfl))).trans rfl
  · rw [decide_eq_true (by (first | lia | omega))] at e2
    rw [if_neg h]
    have hv:((v - 2).toNat:Int)=v - 2:=by (first | lia | omega)
    have s1:slStrE (nE 1) none (some (nE 4)) (lcC mk xs g σ.length (some (.int (v - 2)))) (tauC σ g m (k + 1) acc)=some (.str (strL (xs.take (v - 2).toNat)),tauC σ g m (k + 1) acc):=by
      have:=slStr_of (f:=nE 1) (lo:=none) (hi:=some (nE 4)) (lc:=lcC mk xs g σ.length (some (.int (v - 2)))) (σ:=tauC σ g m (k + 1) acc) (x:=strL xs) (p:=none) (q:=some (((v - 2).toNat:Nat):Int)) rfl rfl (by rw [hv]; rfl) (by rw [strL_len]; (first | lia | omega))
      rw [slice_take] at this
      exact this
    have s2:slStrE (nE 1) (some (nE 4)) none (lcC mk xs g σ.length (some (.int (v - 2)))) (tauC σ g m (k + 1) (acc++[.str (wd mk (xs.take (v - 2).toNat))]))=some (.str (strL (xs.drop (v - 2).toNat)),tauC σ g m (k + 1) (acc++[.str (wd mk (xs.take (v - 2).toNat))])):=by
      have:=slStr_of (f:=nE 1) (lo:=some (nE 4)) (hi:=none) (lc:=lcC mk xs g σ.length (some (.int (v - 2)))) (σ:=tauC σ g m (k + 1) (acc++[.str (wd mk (xs.take (v - 2).toNat))])) (x:=strL xs) (p:=some (((v - 2).toNat:Nat):Int)) (q:=none) rfl (by rw [hv]; rfl) rfl (by rw [strL_len]; (first | lia | omega))
      rw [slice_drop] at this
      exact this
    have hlen:(xs.take (v - 2).toNat).length≤1000:=Nat.le_trans (List.length_take_le' ..) hx
    have m0:idxE (nE 0) (cE (.int 0)) (lcC mk xs g σ.length (some (.int (v - 2)))) (tauC σ g m (k + 1) acc)=some (.str ⟨#[mk.1]⟩,tauC σ g m (k + 1) acc):=sign_of (x:=mkS mk) (k:=0) rfl rfl rfl (by show 2≤_; decide)
    have m1:idxE (nE 0) (cE (.int 1)) (lcC mk xs g σ.length (some (.int (v - 2)))) (tauC σ g m (k + 1) acc)=some (.str ⟨#[mk.2]⟩,tauC σ g m (k + 1) acc):=sign_of (x:=mkS mk) (k:=1) rfl rfl rfl (by show 2≤_; decide)
    have c1:=cat_of m0 s1 (by rw [strL_len]; show 1 + _≤_; (first | lia | omega))
    have c2:=cat_of c1 m1 (by rw [str_len_eq,strL_len]; show 1 + _ + 1≤_; (first | lia | omega))
    have ew:(⟨#[mk.1]⟩:Str)++strL (xs.take (v - 2).toNat)++⟨#[mk.2]⟩=wd mk (xs.take (v - 2).toNat):=str_ext (by rw [app_cps,app_cps]; rfl)
    rw [ew] at c2
    have e3:=app_of (f:=nE 3) (lc:=lcC mk xs g σ.length (some (.int (v - 2)))) rfl (hl (k + 1) acc) c2 (hl (k + 1) acc) (by (first | lia | omega))
    rw [hs] at e3
    refine (seq_next ((if_t e2).trans ((seq_next (expr_of e3)).trans ((seq_next (asg_of (lc:=lcC mk xs g σ.length (some (.int (v - 2)))) s2 (by show 1 < 5; decide))).trans rfl)))).trans rfl
variable {ln ac:Nat} {ml cwl:Int} {cw sp:Str} {rows:List Str} {ini:Int} {ps:List (Str × Str)}
set_option tactic.hygienic false
theorem tau_fmt (F:FmtAt σ m ln ac ml cw cwl sp rows ini ps) (hg:σ[g]?=some (.gen m 0)):FmtAt (tauC σ g m k acc) m ln ac ml cw cwl sp rows ini ps:=(F.gen hg (.gen m k)).keep (X:=[]) (.app _) (by simp) (by simp) (by simp)
theorem tau_gen (hg:g < σ.length):(tauC σ g m k acc)[g]?=some (.gen m k):=by
  rw [List.getElem?_append_left (by rw [List.length_set]; exact hg),List.getElem?_set_self hg]
theorem tau_set (hg:g < σ.length) {j:Nat}:(tauC σ g m k acc).set g (.gen m j)=tauC σ g m j acc:=by
  rw [List.set_append_left _ _ (by rw [List.length_set]; exact hg),List.set_set]
theorem tau_next (F:FmtAt σ m ln ac ml cw cwl sp rows ini ps) (hg:σ[g]?=some (.gen m 0)):nextF lenE0 lenE1 [.loc g] (tauC σ g m (k + 1) acc)=some (.int (ml - cwl),tauC σ g m (k + 2) acc):=by
  have hl:=(List.getElem?_eq_some_iff.mp hg).1
  have:=next1 (tau_fmt (k:=k + 1) (acc:=acc) F hg) (tau_gen hl)
  rw [tau_set hl] at this
  exact this
set_option tactic.hygienic true
theorem while_go {t:TM} {B O:SM} {n:Nat} {lc lc':Lc} {σ σ':St} (h:t lc σ=some (true,σ)) (hB:B lc σ=some (.next,lc',σ')):whileN t B O (n + 1) lc σ=whileN t B O n lc' σ':=bnd h (bnd hB rfl)
set_option tactic.hygienic false
theorem while_end {t:TM} {B O:SM} {n:Nat} {lc:Lc} {σ:St} (h:t lc σ=some (false,σ)):whileN t B O (n + 1) lc σ=O lc σ:=bnd h rfl
set_option tactic.hygienic true
theorem coded_loop (F:FmtAt σ m ln ac ml cw cwl sp rows ini ps) (hg:σ[g]?=some (.gen m 0)) {fr:Nat} (hfr:ml - cwl=(fr:Int) + 2) (h0:0 < fr):∀ (n:Nat) (xs:List Nat) (k:Nat) (acc:List AV) (fuel:Nat) (a4:Option AV),xs.length≤n→n < fuel→xs.length≤1000→acc.length + n≤1000 →
      ∃ a4',whileN codedT codedB (seqS []) fuel (lcC mk xs g σ.length a4) (tauC σ g m (k + 1) acc)=some (.next,lcC mk [] g σ.length a4',tauC σ g m (k + 1 + (slices fr n xs).length) (acc++(slices fr n xs).map (wdV mk)))
  | n,xs,k,acc,fuel + 1,a4,hn,hf,hx,ha=>by
    have et:codedT (lcC mk xs g σ.length a4) (tauC σ g m (k + 1) acc)=some (decide (strL xs ≠ ""),tauC σ g m (k + 1) acc):=neStr_of rfl rfl
    by_cases hxs:xs=[]
    · subst hxs
      rw [decide_eq_false (by decide)] at et
      refine ⟨a4,(while_end et).trans ?_⟩
      have:slices fr n []=[]:=by cases n with | zero=>rfl | succ n=>exact if_pos rfl
      rw [this]
      simp [seq_nil]
    · rw [decide_eq_true (strL_ne.mpr hxs)] at et
      cases n with
      | zero=>exact absurd (List.eq_nil_of_length_eq_zero (Nat.le_zero.mp hn)) hxs
      | succ n =>
        have hl:=(List.getElem?_eq_some_iff.mp hg).1
        have e:=coded_turn (acc:=acc) (k:=k + 1) (mk:=mk) (xs:=xs) (a4:=a4) hl (tau_next F hg) hx (by (first | lia | omega))
        have hv:(ml - cwl - 2).toNat=fr:=by (first | lia | omega)
        rw [hv] at e
        have hll:lineAt mk (ml - cwl) xs=wdV mk (xs.take fr):=by unfold lineAt; rw [if_neg (by (first | lia | omega)),hv]
        rw [hll] at e
        have hd:(xs.drop fr).length≤n:=by
          rw [List.length_drop]
          have:0 < xs.length:=List.length_pos_iff.mpr hxs
          (first | lia | omega)
        obtain ⟨a4',ih⟩:=coded_loop F hg hfr h0 n (xs.drop fr) (k + 1) (acc++[wdV mk (xs.take fr)]) fuel (some (.int (ml - cwl - 2))) hd (by (first | lia | omega)) (by (first | lia | omega)) (by simp; (first | lia | omega))
        refine ⟨a4',(while_go et e).trans (ih.trans ?_)⟩
        have es:slices fr (n + 1) xs=xs.take fr :: slices fr n (xs.drop fr):=if_neg hxs
        rw [es,List.length_cons,List.map_cons,List.append_assoc,show k + 1 + 1 + (slices fr n (xs.drop fr)).length=k + 1 + ((slices fr n (xs.drop fr)).length + 1) by (first | lia | omega)]
        rfl
theorem coded_spec (F:FmtAt σ m ln ac ml cw cwl sp rows ini ps) (H:Fits rows ini ps) (hg:σ[g]?=some (.gen m 0)) {fr:Nat} (hfr:ml - cwl=(fr:Int) + 2) (h0:0 < fr) (hx:xs.length≤500) (hne:xs≠[]) :
    p_law_codedF [.str (mkS mk),.str (strL xs),.loc g] σ=some (.loc σ.length,tauC σ g m (codedL mk (ml - (ini + partsLen ps)) fr xs).length (codedL mk (ml - (ini + partsLen ps)) fr xs)):=by
  have hl:=(List.getElem?_eq_some_iff.mp hg).1
  have n0:=next0 (tau_fmt (k:=0) (acc:=[]) F hg) H (tau_gen hl)
  rw [tau_set hl] at n0
  generalize hv:ml - (ini + partsLen ps)=v at n0 ⊢
  suffices hm:∃ lc',p_law_codedFB [some (.str (mkS mk)),some (.str (strL xs)),some (.loc g),none,none] σ=some (.ret (.loc σ.length),lc',tauC σ g m (codedL mk v fr xs).length (codedL mk v fr xs)) by
    (refine x1_1 (hm) fun lc' e=>?_; clear hm)
    exact run_ret rfl e
  unfold p_law_codedFB
  have e1:asgS 3 (newLE []) [some (.str (mkS mk)),some (.str (strL xs)),some (.loc g),none,none] σ=some (.next,lcC mk xs g σ.length none,tauC σ g m 0 []):=by
    refine (asg_of (newLE_of (es:=[]) (xs:=[]) rfl (by decide)) (by show 3 < 5; decide)).trans ?_
    have:σ.set g (.gen m 0)=σ:=by
      apply List.ext_getElem?
      intro i
      by_cases h:g=i
      · subst h; rw [List.getElem?_set_self hl,hg]
      · rw [List.getElem?_set_ne h]
    rw [show tauC σ g m 0 []=σ++[.list []] by unfold tauC; rw [this]]
    rfl
  rw [seq_next e1]
  have et:codedT (lcC mk xs g σ.length none) (tauC σ g m 0 [])=some (true,tauC σ g m 0 []):=(neStr_of rfl rfl).trans (by rw [decide_eq_true (strL_ne.mpr hne)])
  have e2:=coded_turn (mk:=mk) (xs:=xs) (a4:=none) hl n0 (by (first | lia | omega)) (by show 0≤_; (first | lia | omega))
  obtain ⟨a4,e3⟩:=coded_loop (mk:=mk) F hg hfr h0 xs.length (xs.drop (v - 2).toNat) 0 ([]++[lineAt mk v xs]) 999999 (some (.int (v - 2))) (by rw [List.length_drop]; (first | lia | omega)) (by (first | lia | omega)) (by rw [List.length_drop]; (first | lia | omega)) (by simp; (first | lia | omega))
  have e4:whileS codedT codedB (seqS []) (lcC mk xs g σ.length none) (tauC σ g m 0 [])=_:=(while_go et e2).trans e3
  have el:codedL mk v fr xs=[]++[lineAt mk v xs]++(slices fr xs.length (xs.drop (v - 2).toNat)).map (wdV mk):=rfl
  refine ⟨lcC mk [] g σ.length a4,(seq_next e4).trans (seq_ret ?_)⟩
  rw [el,List.length_append,List.length_map,show (([]:List AV)++[lineAt mk v xs]).length=0 + 1 from rfl]
  rfl
end
structure Ch (σ:St) (c lf ic:Nat) (mk:Nat × Nat):Prop where
  atts:∃ l1 l2,σ[c]?=some (.ext 8 [.int 0,.str "",.int 0,.str "",.loc l1,.loc l2,.int 1,.loc lf])
  lam:σ[lf]?=some (.ext 1 [.loc ic])
  cell:σ[ic]?=some (.ext 5 [.str (mkS mk)])
noncomputable abbrev LcF (m:Nat) (fws text:Str) (c:Nat) (a4 a5 a6 a7:Option AV):Lc:=[some (.loc m),some (.str fws),some (.str text),some (.loc c),a4,a5,a6,a7]
theorem Ch.keep {σ σ':St} {X:List Nat} {c lf ic:Nat} {mk:Nat × Nat} (K:Ch σ c lf ic mk) (S:Same X σ σ') (h1:c∉X) (h2:lf∉X) (h3:ic∉X):Ch σ' c lf ic mk :=
  ⟨let ⟨l1,l2,e⟩:=K.atts; ⟨l1,l2,S.get h1 e⟩,S.get h2 K.lam,S.get h3 K.cell⟩
theorem Ch.attsAt {σ:St} {c lf ic:Nat} {mk:Nat × Nat} (K:Ch σ c lf ic mk):∃ cs,Mine.Internal.attsAt σ c=some cs∧cs[6]?=some (.int 1)∧cs[7]?=some (.loc lf) :=
  let ⟨l1,l2,e⟩:=K.atts; ⟨_,bnd e rfl,rfl,rfl⟩
section
variable {σ:St} {m ln ac c lf ic:Nat} {mk:Nat × Nat} {ml cwl:Int} {cw sp:Str} {rows:List Str} {ini:Int} {ps:List (Str × Str)} {xs:List Nat}
theorem set_id {α:Type} {xs:List α} {i:Nat} {x:α} (h:xs[i]?=some x):xs.set i x=xs:=by
  apply List.ext_getElem?
  intro j
  by_cases e:i=j
  · subst e; rw [List.getElem?_set_self (List.getElem?_eq_some_iff.mp h).1,h]
  · rw [List.getElem?_set_ne e]
theorem coder_spec {a4 a5 a6 a7:Option AV} (F:FmtAt σ m ln ac ml cw cwl sp rows ini ps) (H:Fits rows ini ps) (K:Ch σ c lf ic mk) {fr:Nat} (hfr:ml - cwl=(fr:Int) + 2) (h0:0 < fr) (hx:xs.length≤500) (hne:xs≠[]) :
    callAttrE 7 (nE 3) [(nE 2),(mE 3 makeGenF (nE 0) [])] lamF (LcF m "" (strL xs) c a4 a5 a6 a7) σ=some (.loc (σ.length + 1),σ++[.gen m (codedL mk (ml - (ini + partsLen ps)) fr xs).length,.list (codedL mk (ml - (ini + partsLen ps)) fr xs)]):=by
  (refine x1_3 (K.attsAt) fun cs hcs uu h7=>?_)
  have S1:Same [] σ (σ++[.gen m 0]):=.app _
  have F1:=F.keep S1 (by simp) (by simp) (by simp)
  have K1:=K.keep S1 (by simp) (by simp) (by simp)
  have e2:evs [(nE 2),(mE 3 makeGenF (nE 0) [])] (LcF m "" (strL xs) c a4 a5 a6 a7) σ=some ([.str (strL xs),.loc σ.length],σ++[.gen m 0]):=by
    refine evs2 (σ₁:=σ) rfl ?_
    refine bnd (a:=(.loc m,σ)) rfl ((if_pos ?_).trans (bnd (a:=([],σ)) rfl (makeGen_eq F)))
    show (σ[m]?.map kindO).getD 0=3
    rw [F.fm]; rfl
  have hg:(σ++[AO.gen m 0])[σ.length]?=some (.gen m 0):=snoc_get
  have hic:=(List.getElem?_eq_some_iff.mp K.cell).1
  generalize hσ1:σ++[AO.gen m 0]=σ1 at *
  generalize hgg:σ.length=g at *
  have hl1:σ1.length=g + 1:=by rw [← hσ1]; simp [hgg]
  have hne1:m≠ic:=by rintro rfl; have:=F1.fm; rw [K1.cell] at this; cases this
  have hne2:ln≠ic:=by rintro rfl; have:=F1.li; rw [K1.cell] at this; cases this
  have hne3:ac≠ic:=by rintro rfl; have:=F1.acc; rw [K1.cell] at this; cases this
  have hgi:ic≠g:=by (first | lia | omega)
  generalize hcl:codedL mk (ml - (ini + partsLen ps)) fr xs=ls
  have hfin:tauC σ1 g m ls.length ls=σ++[.gen m ls.length,.list ls]:=by
    unfold tauC
    rw [← hσ1,← hgg,snoc_set,List.append_assoc]; rfl
  rw [← hfin]
  refine bnd (a:=(.loc c,σ)) rfl (bnd (a:=c) rfl (bnd hcs (bnd h7 (bnd e2 ?_))))
  show ((AV.loc lf).loc?.bind fun l=>(σ1[l]?.bind (AO.ext? 1)).bind fun cs=>(arg1 cs).bind fun a=>a.loc?.bind fun i=>(σ1[i]?.bind (AO.ext? 5)).bind fun q=>(arg1 q).bind fun x =>
    pickA fun c=>(runLam 1 2 ["text", "rooms"] (lamB1 fun c i=>callE p_law_codedF [cellE c i,nE 0,nE 1]) (.loc lf :: [.str (strL xs),.loc g]) (σ1.set i (.cell c (some x)))).bind fun p=>(celAt p.2 i).bind fun g=>g.2.map fun x'=>(p.1,p.2.set i (.ext 5 [x'])))=_
  refine bnd (a:=lf) rfl (bnd (a:=[AV.loc ic]) (bnd K1.lam rfl) (bnd (a:=.loc ic) rfl (bnd (a:=ic) rfl (bnd (a:=[AV.str (mkS mk)]) (bnd K1.cell rfl) (bnd (a:=AV.str (mkS mk)) rfl ?_)))))
  refine pickA_of fun ca=>?_
  have hci:(σ1.set ic (.cell ca (some (.str (mkS mk)))))[ic]?=some (.cell ca (some (.str (mkS mk)))):=List.getElem?_set_self (by (first | lia | omega))
  have S2:Same [ic] σ1 (σ1.set ic (.cell ca (some (.str (mkS mk))))):=.set (by simp)
  have F2:=F1.keep S2 (by simpa using hne1) (by simpa using hne2) (by simpa using hne3)
  have hg2:(σ1.set ic (.cell ca (some (.str (mkS mk)))))[g]?=some (.gen m 0):=by rw [List.getElem?_set_ne hgi]; exact hg
  have e3:=coded_spec (mk:=mk) F2 H hg2 hfr h0 hx hne
  rw [List.length_set,hl1,hcl] at e3
  have hlf:lf≠ic:=by rintro rfl; have:=K1.lam; rw [K1.cell] at this; cases this
  have hlam:(σ1.set ic (.cell ca (some (.str (mkS mk)))))[lf]?=some (.ext 1 [.loc ic]):=by rw [List.getElem?_set_ne (Ne.symm hlf)]; exact K1.lam
  have e4:runLam 1 2 ["text", "rooms"] (lamB1 fun c i=>callE p_law_codedF [cellE c i,nE 0,nE 1]) (.loc lf :: [.str (strL xs),.loc g]) (σ1.set ic (.cell ca (some (.str (mkS mk)))))=some (.loc (g + 1),tauC (σ1.set ic (.cell ca (some (.str (mkS mk))))) g m ls.length ls):=by
    show ((AV.loc lf).loc?.bind fun l=>((σ1.set ic (.cell ca (some (.str (mkS mk)))))[l]?.bind (AO.ext? 1)).bind fun cs=>(lamCells (σ1.set ic (.cell ca (some (.str (mkS mk))))) cs).bind fun cl=>if [AV.str (strL xs),AV.loc g].length=2 then lamB1 (fun c i=>callE p_law_codedF [cellE c i,nE 0,nE 1]) cl (lc0 ["text", "rooms"] [.str (strL xs),.loc g]) (σ1.set ic (.cell ca (some (.str (mkS mk))))) else none)=_
    refine bnd (a:=lf) rfl (bnd (a:=[AV.loc ic]) (bnd hlam rfl) (bnd (a:=[(ca,ic)]) (bnd (a:=ic) rfl (bnd (celAt_of hci) (mpo (a:=[]) rfl))) ?_))
    refine (if_pos rfl).trans ?_
    refine bnd (a:=([.str (mkS mk),.str (strL xs),.loc g],σ1.set ic (.cell ca (some (.str (mkS mk)))))) ?_ e3
    refine evs_cons (σ₁:=σ1.set ic (.cell ca (some (.str (mkS mk))))) ?_ (evs2 (σ₁:=σ1.set ic (.cell ca (some (.str (mkS mk))))) rfl rfl)
    exact bnd (celAt_of hci) (bnd (a:=AV.str (mkS mk)) rfl (gd_of (beq_self_eq_true _)))
  have hci':(tauC (σ1.set ic (.cell ca (some (.str (mkS mk))))) g m ls.length ls)[ic]?=some (.cell ca (some (.str (mkS mk)))):=by
    unfold tauC
    rw [List.getElem?_append_left (by simp; (first | lia | omega)),List.getElem?_set_ne (Ne.symm hgi)]
    exact hci
  refine bnd e4 (bnd (celAt_of hci') ?_)
  show some (AV.loc (g + 1),(tauC (σ1.set ic (.cell ca (some (.str (mkS mk))))) g m ls.length ls).set ic (.ext 5 [.str (mkS mk)]))=_
  unfold tauC
  rw [List.set_append_left _ _ (by simp; (first | lia | omega)),List.set_comm _ _ (Ne.symm hgi),List.set_set,set_id K1.cell]
end
theorem partsLen_one (f s:Str):partsLen [(f,s)]=(f.length:Int) + s.length:=by
  unfold partsLen; simp [partLen]
theorem nxL_some {σ:St} {a:AV} {xs:List AV} (h:asList σ a=some xs) (i:Nat):nxL a σ i=some xs[i]?:=by
  unfold nxL; rw [h]; rfl
structure Sm (ml:Int) (rows:List Str) (ini:Int) (ps:List (Str × Str)):Prop where
  r:rows.length≤5000
  t:(rows.map (·.length)).sum≤90000
  p:ps.length≤1000
  l:partsLen ps≤800
  i0:0≤ini
  i1:ini≤20
theorem Sm.fits {ml:Int} {rows:List Str} {ini:Int} {ps:List (Str × Str)} (H:Sm ml rows ini ps):Fits rows ini ps:=⟨by have:=H.r; (first | lia | omega),by have:=H.t; (first | lia | omega),by have:=H.p; (first | lia | omega),by have:=H.l; (first | lia | omega),H.i0,by have:=H.i1; (first | lia | omega)⟩
noncomputable def firstP (mk:Nat × Nat) (ps:List (Str × Str)) (near:Int) (xs:List Nat):List (Str × Str):=if near≤2 then ps else ps++[(("" : Str),wd mk (xs.take (near - 2).toNat))]
noncomputable def fedOf (mk:Nat × Nat) (cw:Str) (rows:List Str) (ini:Int) (pf:List (Str × Str)) (rest:List (List Nat)):List Str × Int × List (Str × Str) :=
  match rest.getLast? with
  | none=>(rows,ini,pf)
  | some z=>(nlRows rows ini pf++(rest.dropLast.map (wd mk)).map (cw++·),0,[(cw,wd mk z)])
section
variable {σ:St} {m ln ac c lf ic e:Nat} {mk:Nat × Nat} {ml cwl:Int} {cw sp:Str} {rows:List Str} {ini:Int} {ps:List (Str × Str)} {fws text:Str} {xs:List Nat} {a4 a5 a6 a7:Option AV}
set_option tactic.hygienic true
theorem t1 (K:Ch σ c lf ic mk):ifNotS (cmpT .Is (attrXE 6 (nE 3)) (cE .none)) (seqS []) (LcF m fws text c a4 a5 a6 a7) σ=some (.next,LcF m fws text c a4 a5 a6 a7,σ):=by
  (refine x1_3 (K.attsAt) fun cs hcs h6 uu=>?_)
  have e1:attrXE 6 (nE 3) (LcF m fws text c a4 a5 a6 a7) σ=some (.int 1,σ):=bnd (a:=(.loc c,σ)) rfl (bnd (a:=c) rfl (bnd hcs (by rw [h6]; rfl)))
  have e2:cmpT .Is (attrXE 6 (nE 3)) (cE .none) (LcF m fws text c a4 a5 a6 a7) σ=some (false,σ):=cmp_of (b:=.none) e1 rfl rfl
  exact bnd e2 rfl
set_option tactic.hygienic false
theorem t3_nil (he:σ[e]?=some (.list [])) {fs:List EM} {xs:List AV} {f:SM} (hf:evs fs (LcF m fws text c (some (.loc e)) a5 a6 a7) σ=some (xs,σ)) (hp:popArgs xs=true):tryPopS 4 fs f (LcF m fws text c (some (.loc e)) a5 a6 a7) σ=some (.ret .none,LcF m fws text c (some (.loc e)) a5 a6 a7,σ):=by
  refine bnd (a:=(.loc e,σ)) rfl (bnd (a:=e) rfl (bnd (lstAt_of he) ?_))
  show (evs _ _ _).bind _=_
  exact bnd hf (bnd (lstAt_of he) (gd_of (by rw [hp]; rfl)))
theorem t3_cons {y:AV} {ys:List AV} (he:σ[e]?=some (.list (y :: ys))) {fs:List EM} {f:SM}:tryPopS 4 fs f (LcF m fws text c (some (.loc e)) a5 a6 a7) σ=f (LcF m fws text c (some (.loc e)) a5 a6 a7) σ:=by
  refine bnd (a:=(.loc e,σ)) rfl (bnd (a:=e) rfl (bnd (lstAt_of he) ?_))
  rfl
theorem t3_snoc {ys:List AV} {y:AV} (he:σ[e]?=some (.list (ys++[y]))) {fs:List EM} {f:SM}:tryPopS 4 fs f (LcF m fws text c (some (.loc e)) a5 a6 a7) σ=f (LcF m fws text c (some (.loc e)) a5 a6 a7) σ:=by
  cases ys with
  | nil=>exact t3_cons he
  | cons a r=>exact t3_cons he
theorem attr1 {lc:Lc} {f:EM} (hf:f lc σ=some (.loc m,σ)) (F:FmtAt σ m ln ac ml cw cwl sp rows ini ps):attrE 1 f lc σ=some (.str cw,σ):=bnd hf (bnd (a:=m) rfl (bnd F.fm rfl))
theorem pop0 {y:AV} {ys:List AV} (he:σ[e]?=some (.list (y :: ys))) (hz:ys.length≤1000):popAtF [.loc e,.int 0] σ=some (y,σ.set e (.list ys)):=by
  refine bnd (a:=(.loc e,.int 0)) rfl (bnd (a:=e) rfl (bnd (a:=0) rfl (bnd (lstAt_of he) ?_)))
  rw [if_pos (by rw [Bool.and_eq_true,decide_eq_true_eq,List.length_cons,sizeLine_eq]; exact ⟨by decide,by (first | lia | omega)⟩)]
  refine bnd (a:=0) (sidx (by simp)) (mpo (a:=y) rfl)
theorem popL {y:AV} {ys:List AV} (he:σ[e]?=some (.list (ys++[y]))) (hz:ys.length≤1000):popLF [.loc e] σ=some (y,σ.set e (.list ys)):=by
  refine bnd (a:=.loc e) rfl (bnd (a:=e) rfl (bnd (lstAt_of he) ?_))
  rw [if_pos (by rw [List.length_append,sizeLine_eq]; show ys.length + 1≤_; (first | lia | omega))]
  rw [List.getLast?_concat,List.dropLast_concat]; rfl
theorem kindL {xs:List AV} (he:σ[e]?=some (.list xs)):kind σ (.loc e)=2:=by
  show (σ[e]?.map kindO).getD 0=2
  rw [he]; rfl
set_option tactic.hygienic true
theorem lay_mids {a5 a6 a7:Option AV} {mids:List Str} {σ:St} {rows:List Str} {ini:Int} {ps:List (Str × Str)} (F:FmtAt σ m ln ac ml cw cwl sp rows ini ps) (he:σ[e]?=some (.list (mids.map AV.str))) (hel:e≠ln) (hr:rows.length + mids.length≤100000) (hc:cw.length≤10) (hm:∀ y∈mids,y.length≤1000) (hn:mids.length≤1000) :
    ∃ lc' σ',forS 7 (nE 4) (seqS [exprS (mE 2 appendF (attrE 4 (nE 0)) [(binE .Add (attrE 1 (nE 0)) (nE 7))])]) (seqS []) (LcF m fws text c (some (.loc e)) a5 a6 a7) σ=some (.next,lc',σ')∧FmtAt σ' m ln ac ml cw cwl sp (rows++mids.map (cw++·)) ini ps∧Same [ln] σ σ':=by
  let I:Nat→Lc→St→Prop:=fun i lc τ=>(∃ b7,lc=LcF m fws text c (some (.loc e)) a5 a6 b7)∧FmtAt τ m ln ac ml cw cwl sp (rows++(mids.take i).map (cw++·)) ini ps∧Same [ln] σ τ
  have hN:∀ i lc τ,i < mids.length→I i lc τ→∃ x lc₁,nxL (.loc e) τ i=some (some x)∧putL lc 7 x=some lc₁∧WS (seqS [exprS (mE 2 appendF (attrE 4 (nE 0)) [(binE .Add (attrE 1 (nE 0)) (nE 7))])]) lc₁ τ fun fl lc₂ σ₂=>(fl=.next∨fl=.cont)∧I (i + 1) lc₂ σ₂:=by
    intro i lc τ hi hI
    obtain ⟨⟨b7,rfl⟩,G,S⟩:=hI
    have he':τ[e]?=some (.list (mids.map AV.str)):=S.get (by simpa using hel) he
    have hx:(mids.map AV.str)[i]?=some (.str mids[i]):=by rw [List.getElem?_map,List.getElem?_eq_getElem hi]; rfl
    refine ⟨.str mids[i],LcF m fws text c (some (.loc e)) a5 a6 (some (.str mids[i])),?_,rfl,?_⟩
    · rw [nxL_some (a:=.loc e) (lstAt_of he'),hx]
    · have e3:=cat_of (lc:=LcF m fws text c (some (.loc e)) a5 a6 (some (.str mids[i]))) (g:=nE 7) (y:=mids[i]) (attr1 (f:=nE 0) rfl G) rfl (by have:=hm _ (List.getElem_mem hi); (first | lia | omega))
      have e4:=app_of (attrLines (lc:=LcF m fws text c (some (.loc e)) a5 a6 (some (.str mids[i]))) (f:=nE 0) rfl G) G.li e3 G.li (by simp; (first | lia | omega))
      refine ⟨.next,_,_,by rw [seq_next (expr_of e4),seq_nil],.inl rfl,⟨_,rfl⟩,?_,S.trans (.set (by simp))⟩
      have G':=G.setLi (rows++(mids.take (i + 1)).map (cw++·))
      have ht:mids.take (i + 1)=mids.take i++[mids[i]]:=(List.take_append_getElem hi).symm
      rw [show (rows++(mids.take (i + 1)).map (cw++·)).map AV.str=(rows++(mids.take i).map (cw++·)).map AV.str++[.str (cw++mids[i])] by rw [ht,List.map_append,List.map_append,List.map_append,List.map_append,List.append_assoc]; rfl] at G'
      exact G'
  have hE:∀ lc τ,I mids.length lc τ→nxL (.loc e) τ mids.length=some none:=by
    intro lc τ hI
    (refine x0_3 (hI) fun uu G S=>?_; clear hI)
    have he':τ[e]?=some (.list (mids.map AV.str)):=S.get (by simpa using hel) he
    rw [nxL_some (a:=.loc e) (lstAt_of he')]
    simp
  obtain ⟨lc',σ',e1,⟨b7,rfl⟩,F',S'⟩:=loop_inv (st:=fun lc y=>putL lc 7 y) I hN hE mids.length 0 1000000 (LcF m fws text c (some (.loc e)) a5 a6 a7) σ (by (first | lia | omega)) (by (first | lia | omega)) ⟨⟨a7,rfl⟩,by simpa using F,.refl⟩
  refine ⟨_,σ',(for_lst (a:=.loc e) rfl (lstAt_of he) rfl).trans e1,?_,S'⟩
  rw [List.take_length] at F'
  exact F'
set_option tactic.hygienic false
theorem first_fits {x:Str} (H:Sm ml rows ini ps) (hx:x.length≤800) (hf:ini + partsLen ps + x.length≤ml):Fits rows ini (ps++[(("" : Str),x)])∧chunkP ml sp rows ini ps "" x=(rows,ini,ps++[(("" : Str),x)]):=by
  have hp:partsLen (ps++[(("" : Str),x)])=partsLen ps + x.length:=by
    rw [partsLen_append,partsLen_one]
    show _ + ((0:Int) + _)=_
    (first | lia | omega)
  obtain ⟨h1,h2,h3,h4,h5,h6⟩:=H
  refine ⟨⟨by (first | lia | omega),by (first | lia | omega),by rw [List.length_append]; show ps.length + 1≤_; (first | lia | omega),by (first | lia | omega),h5,by (first | lia | omega)⟩,?_⟩
  unfold chunkP
  rw [if_neg (by (first | lia | omega))]
set_option tactic.hygienic true
theorem first_step {a6 a7:Option AV} (F:FmtAt σ m ln ac ml cw cwl sp rows ini ps) (H:Sm ml rows ini ps) (hx:xs.length≤500) (hsz:sp.cps.size≤10) :
    ∃ σ',ifS (cmpT .IsNot (nE 5) (cE .none)) (seqS [exprS (mE 3 chunkF (nE 0) [(nE 1),(nE 5)])]) (seqS []) (LcF m "" text c a4 (some (lineAt mk (ml - (ini + partsLen ps)) xs)) a6 a7) σ=some (.next,LcF m "" text c a4 (some (lineAt mk (ml - (ini + partsLen ps)) xs)) a6 a7,σ')∧FmtAt σ' m ln ac ml cw cwl sp rows ini (firstP mk ps (ml - (ini + partsLen ps)) xs)∧Fits rows ini (firstP mk ps (ml - (ini + partsLen ps)) xs)∧Same [ln,ac] σ σ':=by
  unfold lineAt firstP
  by_cases hv:ml - (ini + partsLen ps)≤2
  · rw [if_pos hv,if_pos hv]
    have e1:cmpT .IsNot (nE 5) (cE .none) (LcF m "" text c a4 (some .none) a6 a7) σ=some (false,σ):=cmp_of (a:=.none) (b:=.none) rfl rfl rfl
    exact ⟨σ,bnd e1 rfl,F,H.fits,.refl⟩
  · rw [if_neg hv,if_neg hv]
    have hl:(wd mk (xs.take (ml - (ini + partsLen ps) - 2).toNat)).length≤800∧((wd mk (xs.take (ml - (ini + partsLen ps) - 2).toNat)).length:Int)≤ml - (ini + partsLen ps):=by
      rw [wd_len,List.length_take]
      (first | lia | omega)
    generalize wd mk (xs.take (ml - (ini + partsLen ps) - 2).toNat)=x at hl ⊢
    have e1:cmpT .IsNot (nE 5) (cE .none) (LcF m "" text c a4 (some (.str x)) a6 a7) σ=some (true,σ):=cmp_of (a:=.str x) (b:=.none) rfl rfl rfl
    obtain ⟨h1,h2⟩:=first_fits (sp:=sp) H hl.1 (by (first | lia | omega))
    obtain ⟨σ',e2,F',S',_⟩:=chunk_spec F h1 (by (first | lia | omega))
    rw [h2] at F'
    have e3:mE 3 chunkF (nE 0) [(nE 1),(nE 5)] (LcF m "" text c a4 (some (.str x)) a6 a7) σ=some (.none,σ'):=by
      refine bnd (a:=(.loc m,σ)) rfl ((if_pos ?_).trans (bnd (a:=([AV.str "",AV.str x],σ)) rfl e2))
      show (σ[m]?.map kindO).getD 0=3
      rw [F.fm]; rfl
    refine ⟨σ',bnd e1 ?_,F',h1,S'⟩
    show seqS _ _ _=_
    rw [seq_next (expr_of e3),seq_nil]
set_option tactic.hygienic false
theorem slices_n {size:Nat} (hs:0 < size):∀ {n:Nat} {xs:List Nat},(slices size n xs).length≤n
  | 0,_=>Nat.le_refl _
  | n + 1,xs=>by
    unfold slices
    split
    · exact Nat.zero_le _
    · exact Nat.succ_le_succ (slices_n hs)
theorem slices_lenx {size:Nat}:∀ {n:Nat} {xs:List Nat} (y:List Nat),y∈slices size n xs→y.length≤xs.length
  | 0,_,_,h=>nomatch h
  | n + 1,xs,y,h=>by
    unfold slices at h
    split at h
    · cases h
    · rcases List.mem_cons.mp h with rfl | h
      · rw [List.length_take]; exact Nat.min_le_right ..
      · have:=slices_lenx y h
        rw [List.length_drop] at this
        (first | lia | omega)
set_option tactic.hygienic true
theorem feed_spec (F:FmtAt σ m ln ac ml cw cwl sp rows ini ps) (H:Sm ml rows ini ps) (K:Ch σ c lf ic mk) {fr:Nat} (hfr:ml - cwl=(fr:Int) + 2) (h0:0 < fr) (hx:xs.length≤500) (hne:xs≠[])
    (hc:cw.length≤10) (hsz:sp.cps.size≤10) :
    ∃ σ',feedF [.loc m,.str "",.str (strL xs),.loc c] σ=some (.none,σ') ∧
      FAt σ' m ln ac ml cw cwl sp (fedOf mk cw rows ini (firstP mk ps (ml - (ini + partsLen ps)) xs) (slices fr xs.length (xs.drop (ml - (ini + partsLen ps) - 2).toNat)))∧Same [ln,ac] σ σ':=by
  have e2:=coder_spec (a4:=none) (a5:=none) (a6:=none) (a7:=none) F H.fits K hfr h0 hx hne
  have hrl:(slices fr xs.length (xs.drop (ml - (ini + partsLen ps) - 2).toNat)).length≤500:=Nat.le_trans (slices_n h0) hx
  have hry:∀ y∈slices fr xs.length (xs.drop (ml - (ini + partsLen ps) - 2).toNat),y.length≤500:=fun y hy=>by
    have:=slices_lenx y hy
    rw [List.length_drop] at this
    (first | lia | omega)
  unfold codedL at e2
  generalize slices fr xs.length (xs.drop (ml - (ini + partsLen ps) - 2).toNat)=rest at e2 hrl hry ⊢
  generalize hee:σ.length + 1=e at e2
  generalize hσ2:σ++[AO.gen m (lineAt mk (ml - (ini + partsLen ps)) xs :: rest.map (wdV mk)).length,.list (lineAt mk (ml - (ini + partsLen ps)) xs :: rest.map (wdV mk))]=σ₂ at e2
  have S2:Same [ln,ac] σ σ₂:=hσ2▸.app _
  have S2':Same [] σ σ₂:=hσ2▸.app _
  have he2:σ₂[e]?=some (.list (lineAt mk (ml - (ini + partsLen ps)) xs :: rest.map (wdV mk))):=by rw [← hσ2,← hee]; exact get1
  have F2:=F.keep S2' (by simp) (by simp) (by simp)
  have lt:∀ {j:Nat} {o:AO},σ[j]?=some o→j≠e:=fun h=>by have:=(List.getElem?_eq_some_iff.mp h).1; (first | lia | omega)
  have hem:m≠e:=lt F.fm
  have heln:ln≠e:=lt F.li
  have heac:ac≠e:=lt F.acc
  suffices hW:WF feedF [.loc m,.str "",.str (strL xs),.loc c] σ fun v σ'=>v=.none∧FAt σ' m ln ac ml cw cwl sp (fedOf mk cw rows ini (firstP mk ps (ml - (ini + partsLen ps)) xs) rest)∧Same [ln,ac] σ σ' by
    obtain ⟨v,σ',q,rfl,r⟩:=hW
    exact ⟨σ',q,r⟩
  refine wf_run rfl ?_
  show WS feedFB (LcF m "" (strL xs) c none none none none) σ _
  unfold feedFB
  refine ws_step (t1 K) (ws_asg (we e2 ⟨LcF m "" (strL xs) c (some (.loc e)) none none none,rfl,?_⟩))
  -- a state whose encoded_lines alone is other
  have setE:∀ {τ:St} {ps':List (Str × Str)} (q:List AV),FmtAt τ m ln ac ml cw cwl sp rows ini ps'→Same [ln,ac] σ τ→e < τ.length→FmtAt (τ.set e (.list q)) m ln ac ml cw cwl sp rows ini ps'∧Same [ln,ac] σ (τ.set e (.list q))∧(τ.set e (.list q))[e]?=some (.list q):=fun {τ} ps' q G S hlt=>by
    have Se:Same [e] τ (τ.set e (.list q)):=.set (by simp)
    refine ⟨G.keep Se (by simpa using hem) (by simpa using heln) (by simpa using heac),⟨by rw [List.length_set]; exact S.1,fun j hj hl=>?_⟩,List.getElem?_set_self hlt⟩
    rw [List.getElem?_set_ne (by (first | lia | omega))]
    exact S.2 j hj hl
  have lt2:e < σ₂.length:=(List.getElem?_eq_some_iff.mp he2).1
  -- the first line is taken and laid
  (refine x0_3 (setE (rest.map (wdV mk)) F2 S2 lt2) fun F3 S3 he3=>?_)
  generalize hf:lineAt mk (ml - (ini + partsLen ps)) xs=first at *
  refine ws_step (lc':=LcF m "" (strL xs) c (some (.loc e)) (some first) none none) (σ':=σ₂.set e (.list (rest.map (wdV mk)))) ((t3_cons he2).trans (asg_of (lc:=LcF m "" (strL xs) c (some (.loc e)) none none none) (bnd (a:=(.loc e,σ₂)) rfl ((if_pos (kindL he2)).trans (bnd (a:=([AV.int 0],σ₂)) rfl (pop0 he2 (by simp; (first | lia | omega)))))) (by show 5 < 8; decide))) ?_
  obtain ⟨τ,e4,F4,H4,S4⟩:=first_step (mk:=mk) (xs:=xs) (text:=strL xs) (c:=c) (a4:=some (.loc e)) (a6:=none) (a7:=none) F3 H hx hsz
  rw [hf] at e4
  refine ws_step e4 ?_
  have he4:=S4.get (by simp; exact ⟨Ne.symm heln,Ne.symm heac⟩) he3
  have S4':=S3.trans S4
  generalize firstP mk ps (ml - (ini + partsLen ps)) xs=pf at F4 H4 ⊢
  rcases List.eq_nil_or_concat rest with rfl | ⟨mids,z,rfl⟩
  · exact ⟨_,_,_,seq_ret (t3_nil he4 (fs:=[]) (xs:=[]) rfl rfl),rfl,F4,S4'⟩
  · rw [List.concat_eq_append] at *
    rw [List.map_append] at he4
    have hmm:mids.map (wdV mk)=(mids.map (wd mk)).map AV.str:=by rw [List.map_map]; rfl
    rw [hmm] at he4
    have hnm:mids.length≤500:=by simp at hrl; (first | lia | omega)
    have hlt:=(List.getElem?_eq_some_iff.mp he4).1
    (refine x0_3 (setE ((mids.map (wd mk)).map AV.str) F4 S4' hlt) fun F5 S5 he5=>?_)
    have e5:tryPopS 4 [] (asgS 6 (mE 2 popLF (nE 4) [])) (LcF m "" (strL xs) c (some (.loc e)) (some first) none none) τ=some (.next,LcF m "" (strL xs) c (some (.loc e)) (some first) (some (.str (wd mk z))) none,τ.set e (.list ((mids.map (wd mk)).map AV.str))):=by
      refine (t3_snoc he4).trans ?_
      exact asg_of (lc:=LcF m "" (strL xs) c (some (.loc e)) (some first) none none) (bnd (a:=(.loc e,τ)) rfl ((if_pos (kindL he4)).trans (bnd (a:=([],τ)) rfl (popL he4 (by simp; (first | lia | omega)))))) (by show 6 < 8; decide)
    refine ws_step e5 ?_
    -- the row is closed
    obtain ⟨τ6,e6,F6,S6,_⟩:=newline_spec F5 H4
    have hk5:kind (τ.set e (.list ((mids.map (wd mk)).map AV.str))) (.loc m)=3:=by
      show ((τ.set e (.list ((mids.map (wd mk)).map AV.str)))[m]?.map kindO).getD 0=3
      rw [F5.fm]; rfl
    refine ws_step (expr_of (v:=.none) (σ₁:=τ6) (bnd (a:=(.loc m,_)) rfl ((if_pos hk5).trans (bnd (a:=([],_)) rfl e6)))) ?_
    have he6:τ6[e]?=some (.list ((mids.map (wd mk)).map AV.str)):=S6.get (by simp; exact ⟨Ne.symm heln,Ne.symm heac⟩) he5
    -- the last line is the new open row
    have F7:=F6.setAcc 0 [(cw,wd mk z)]
    have S7:Same [ac] τ6 (τ6.set ac (.acc 0 [(cw,wd mk z)])):=.set (by simp)
    have e7:mE 4 pushF (attrE 5 (nE 0)) [(attrE 1 (nE 0)),(nE 6)] (LcF m "" (strL xs) c (some (.loc e)) (some first) (some (.str (wd mk z))) none) τ6=some (.none,τ6.set ac (.acc 0 [(cw,wd mk z)])):=by
      exact mA (l:=ac) (line_eq rfl F6) F6.acc (evs2 (attr1 rfl F6) (g:=nE 6) (b:=.str (wd mk z)) (σ₂:=τ6) rfl) (push_eq F6.acc (by simp))
    refine ws_step (expr_of e7) ?_
    have he7:(τ6.set ac (.acc 0 [(cw,wd mk z)]))[e]?=some (.list ((mids.map (wd mk)).map AV.str)):=S7.get (by simpa using Ne.symm heac) he6
    have hnr:=nlRows_len rows ini pf
    obtain ⟨lc8,τ8,e8,F8,S8⟩:=lay_mids (fws := "") (text:=strL xs) (c:=c) (a5:=some first) (a6:=some (.str (wd mk z))) (a7:=none) F7 he7 (Ne.symm heln) (by have:=H.r; simp; (first | lia | omega)) hc (fun y hy=>by
      (refine x1_2 (List.mem_map.mp hy) fun q hq rr2=>?_; subst rr2)
      have:=hry q (by simp [hq])
      rw [wd_len]; (first | lia | omega)) (by simp; (first | lia | omega))
    refine ws_step e8 (ws_nil ⟨rfl,?_,((S5.trans S6).trans (S7.more (by simp))).trans (S8.more (by simp))⟩)
    unfold fedOf
    rw [List.getLast?_concat,List.dropLast_concat]
    exact F8
end
noncomputable def jl:List (List Nat)→List Nat
  | []=>[]
  | [x]=>x
  | x :: y :: r=>x++32 :: jl (y :: r)
theorem jl_cons {x:List Nat} {r:List (List Nat)} (h:r≠[]):jl (x :: r)=x++32 :: jl r:=by
  cases r with
  | nil=>exact absurd rfl h
  | cons y r=>rfl
theorem jl_snoc {z:List Nat}:∀ {xs:List (List Nat)},xs≠[]→jl (xs++[z])=jl xs++32 :: z
  | [],h=>absurd rfl h
  | [x],_=>rfl
  | x :: y :: r,_=>by
    have ih:=jl_snoc (z:=z) (xs:=y :: r) (by simp)
    rw [jl_cons (x:=x) (r:=y :: r) (by simp),List.cons_append,jl_cons (x:=x) (by simp),ih,List.append_assoc]
    rfl
theorem sep_eq:∀ {a c b d:List Nat},32∉a→32∉c→a++32 :: b=c++32 :: d→a=c∧b=d
  | [],[],_,_,_,_,h=>⟨rfl,(List.cons.inj h).2⟩
  | [],y :: c,_,_,_,hc,h=>absurd (by rw [(List.cons.inj h).1]; exact List.mem_cons_self) hc
  | x :: a,[],_,_,ha,_,h=>absurd (by rw [← (List.cons.inj h).1]; exact List.mem_cons_self) ha
  | x :: a,y :: c,b,d,ha,hc,h=>by
    (refine x0_2 (List.cons.inj h) fun e1 e2=>?_)
    obtain ⟨e3,e4⟩:=sep_eq (fun q=>ha (List.mem_cons_of_mem _ q)) (fun q=>hc (List.mem_cons_of_mem _ q)) e2
    exact ⟨by rw [e1,e3],e4⟩
theorem jl_inj:∀ {xs ys:List (List Nat)},xs≠[]→ys≠[]→(∀ x∈xs,32∉x)→(∀ y∈ys,32∉y)→jl xs=jl ys→xs=ys
  | [],_,h,_,_,_,_=>absurd rfl h
  | _ :: _,[],_,h,_,_,_=>absurd rfl h
  | [x],[y],_,_,_,_,h=>congrArg (fun z=>[z]) h
  | [x],y :: z :: r,_,_,hx,_,h=>absurd (by rw [show x=y++32 :: jl (z :: r) from h]; simp) (hx x (by simp))
  | x :: w :: r,[y],_,_,_,hy,h=>absurd (by rw [← show x++32 :: jl (w :: r)=y from h]; simp) (hy y (by simp))
  | x :: w :: r,y :: z :: t,_,_,hx,hy,h=>by
    obtain ⟨e1,e2⟩:=sep_eq (hx x (by simp)) (hy y (by simp)) (show x++32 :: jl (w :: r)=y++32 :: jl (z :: t) from h)
    rw [e1,jl_inj (by simp) (by simp) (fun q hq=>hx q (List.mem_cons_of_mem _ hq)) (fun q hq=>hy q (List.mem_cons_of_mem _ hq)) e2]
theorem join_jl:∀ (xs:List Str),(Str.join " " xs).cps.toList=jl (xs.map (·.cps.toList))
  | []=>rfl
  | [x]=>rfl
  | x :: y :: r=>by
    show (x ++ " " ++ Str.join " " (y :: r)).cps.toList=x.cps.toList++32 :: jl ((y :: r).map (·.cps.toList))
    rw [app_cps,app_cps,join_jl (y :: r),List.append_assoc]
    rfl
theorem split_jl {xs:List (List Nat)} (h:xs≠[]) (h32:∀ x∈xs,32∉x):Txt.split (strL (jl xs)) " " = xs.map strL:=by
  have e1:=congrArg (fun x:Str=>x.cps.toList) (PySem.StrLaws.join_split (strL (jl xs)) " ")
  have e1:(Str.join " " (Txt.split (strL (jl xs)) " ")).cps.toList=jl xs:=e1
  rw [join_jl] at e1
  have hf:∀ p∈Txt.split (strL (jl xs)) " ",32∉p.cps.toList:=PySem.StrLaws.split_free (strL (jl xs)) 32
  have hp:=split_pos (strL (jl xs)) " "
  have e2:=jl_inj (by intro e; rw [List.map_eq_nil_iff] at e; rw [e] at hp; exact absurd hp (by decide)) h (fun x hx=>by (refine x1_2 (List.mem_map.mp hx) fun p hp rr2=>?_; subst rr2); exact hf p hp) h32 e1
  refine Eq.trans ?_ (congrArg (List.map strL) e2)
  rw [List.map_map]
  exact (List.map_id'' (f:=strL ∘ fun x:Str=>x.cps.toList) (fun x=>strL_cps) _).symm
noncomputable def mkO (k:Nat):Nat × Nat:=if k % 2=0 then (91,93) else (40,41)
noncomputable abbrev Wd:=Nat × List Nat
noncomputable def wL (w:Wd):List Nat:=(mkO w.1).1 :: (w.2++[(mkO w.1).2])
noncomputable def wT (w:Wd):Str:=wd (mkO w.1) w.2
noncomputable def bodyT (O:List Wd):Str:=strL (jl (O.map wL))
noncomputable def pc (P:List (List Nat)) (k:Nat):List Nat:=P.getD k []
inductive RowRd (P:List (List Nat)) (s:Nat × List Nat):List Wd→Nat × List Nat→Prop
  | nil:RowRd P s [] s
  | snoc {ws:List Wd} {k:Nat} {ys left':List Nat} (h:RowRd P s ws (k,ys++left')) (hk:k < P.length) (hy:ys≠[]) (h32:32∉ys) (hw:ws≠[]→ys++left'=pc P k):RowRd P s (ws++[(k,ys)]) (if left'=[] then (k + 1,pc P (k + 1)) else (k,left'))
noncomputable def rowT (A:Str) (rows:List Str) (O:List Wd):Str:=(if rows=[] then ("" : Str) else A)++bodyT O
noncomputable def roomOf (W H:Nat) (rows:List Str):Int:=if rows=[] then (W:Int) - H else W
structure RowOk (A:Str) (W H:Nat) (rows:List Str) (O:List Wd):Prop where
  len:O≠[]→((rowT A rows O).length:Int)≤roomOf W H rows
  ne:rows≠[]→O≠[]
structure EndOk (P:List (List Nat)) (A:Str) (W H:Nat) (rows:List Str) (O:List Wd) (s:Nat × List Nat):Prop where
  k:s.1 < P.length
  full:s.2≠pc P s.1→((rowT A rows O).length:Int)=roomOf W H rows
  next:s.2=pc P s.1→roomOf W H rows < (rowT A rows O).length + (if O=[] then 0 else 1) + 3
inductive Log (P:List (List Nat)) (A:Str) (W H:Nat):List Str→Nat × List Nat→Prop
  | nil:Log P A W H [] (0,pc P 0)
  | snoc {rows:List Str} {s s':Nat × List Nat} {O:List Wd} (h:Log P A W H rows s) (rd:RowRd P s O s') (ok:RowOk A W H rows O) (en:EndOk P A W H rows O s'):Log P A W H (rows++[rowT A rows O]) s'
theorem wT_len {w:Wd}:(wT w).length=w.2.length + 2:=wd_len
theorem body_one {w:Wd}:bodyT [w]=wT w:=rfl
theorem body_snoc {O:List Wd} {w:Wd} (h:O≠[]):bodyT (O++[w])=bodyT O++(" " : Str)++wT w:=by
  unfold bodyT
  rw [List.map_append,List.map_cons,List.map_nil,jl_snoc (by simpa using h)]
  exact str_ext (by rw [app_cps,app_cps,List.append_assoc]; rfl)
theorem jl_mem:∀ {xs:List (List Nat)} {x:List Nat},x∈xs→∀ c∈x,c∈jl xs
  | [],_,h=>nomatch h
  | [y],x,h=>by rw [List.mem_singleton.mp h]; exact fun c hc=>hc
  | y :: z :: r,x,h=>fun c hc=>by
    show c∈y++32 :: jl (z :: r)
    rcases List.mem_cons.mp h with rfl | h
    · exact List.mem_append_left _ hc
    · exact List.mem_append_right _ (List.mem_cons_of_mem _ (jl_mem h c hc))
theorem mk_sign (k:Nat):Unicode.isSpace (mkO k).1=false∧(mkO k).1≠32∧(mkO k).2≠32:=by
  unfold mkO
  split
  · exact ⟨by decide,by decide,by decide⟩
  · exact ⟨by decide,by decide,by decide⟩
theorem body_sign {O:List Wd} (h:O≠[]):∃ c∈(bodyT O).cps.toList,Unicode.isSpace c=false:=by
  cases O with
  | nil=>exact absurd rfl h
  | cons w r=>exact ⟨(mkO w.1).1,jl_mem (x:=wL w) (by simp) _ List.mem_cons_self,(mk_sign _).1⟩
theorem row_sign {A:Str} {rows:List Str} {O:List Wd} (h:O≠[]):∃ c∈(rowT A rows O).cps.toList,Unicode.isSpace c=false:=by
  (refine x1_2 (body_sign h) fun c hc e=>?_)
  exact ⟨c,by unfold rowT; rw [app_cps]; exact List.mem_append_right _ hc,e⟩
theorem nl_app {rows:List Str} {ini:Int} {ps:List (Str × Str)} (h0:0≤ini) (h:0 < ini∨∃ c∈(accText (lastSp ps)).cps.toList,Unicode.isSpace c=false):nlRows rows ini ps=rows++[accText (lastSp ps)]:=by
  unfold nlRows
  have hl:=accText_len (lastSp ps)
  rcases h with h | ⟨c,hc,hs⟩
  · have:onlySp ini (lastSp ps)=false:=by unfold onlySp; rw [show (ini == 0)=false from beq_false_of_ne (by (first | lia | omega))]; rfl
    rw [if_pos (by (first | lia | omega)),this,if_neg (by simp)]
  · have hp:0 < (accText (lastSp ps)).length:=by rw [← len_toList']; exact List.length_pos_of_mem hc
    have:onlySp ini (lastSp ps)=false:=by
      unfold onlySp
      rw [← hl,show (((accText (lastSp ps)).length:Int) == 0)=false from beq_false_of_ne (by (first | lia | omega))]
      have:Txt.isspace (accText (lastSp ps))=false:=Bool.eq_false_iff.mpr fun e=>by
        have:=((isspace_iff _).mp e).2 c hc
        rw [hs] at this; cases this
      rw [this]; simp
    rw [if_pos (by (first | lia | omega)),this,if_neg (by simp)]
where len_toList' {x:Str}:x.cps.toList.length=x.length:=by rw [Array.length_toList]; rfl
theorem last_trans {ps:List (Str × Str)}:lastSp (ps++[((" " : Str),("" : Str))])=ps:=by
  unfold lastSp
  rw [if_neg (by simp),if_pos (by simp),List.dropLast_concat]
theorem last_word {ps:List (Str × Str)} {f s:Str} (h:s ≠ ""):lastSp (ps++[(f,s)])=ps++[(f,s)]:=by
  unfold lastSp
  rw [if_neg (by simp),if_neg]
  rw [List.getLast?_concat]
  intro e
  exact h (Prod.mk.inj (Option.some.inj e)).2
theorem wd_ne {mk:Nat × Nat} {xs:List Nat}:wd mk xs ≠ "" := fun e=>by
  have:=wd_len (mk:=mk) (xs:=xs)
  rw [e] at this
  have e0:("" : Str).length=0:=rfl
  (first | lia | omega)
section
variable {P:List (List Nat)} {A:Str} {W H fr:Nat}
theorem lay_rest (hW:W=A.length + fr + 2) (h0:0 < fr) {k:Nat} (hk:k < P.length):∀ {n:Nat} {left:List Nat} {rows:List Str} {mids:List (List Nat)} {z:List Nat},slices fr n left=mids++[z]→left.length≤n→left.length≤(pc P k).length→32∉left→rows≠[]→Log P A W H rows (k,left) →
      Log P A W H (rows++(mids.map (wd (mkO k))).map (A++·)) (k,z)∧z≠[]∧z.length≤fr∧32∉z
  | 0,left,rows,mids,z,h,hn,_,_,_,L=>by
    simp [slices] at h
  | n + 1,left,rows,mids,z,h,hn,hp,h32,hr,L=>by
    by_cases hl:left=[]
    · rw [hl] at h; simp [slices] at h
    have hlp:0 < left.length:=List.length_pos_iff.mpr hl
    have es:slices fr (n + 1) left=left.take fr :: slices fr n (left.drop fr):=if_neg hl
    rw [es] at h
    cases mids with
    | nil =>
      (refine x0_2 (List.cons.inj h) fun e1 e2=>?_)
      have hd:=slices_flat h0 (n:=n) (xs:=left.drop fr) (by rw [List.length_drop]; (first | lia | omega))
      rw [e2] at hd
      have hz:left.take fr=left:=by have:=List.take_append_drop fr left; rw [← hd] at this; simpa using this
      rw [hz] at e1
      subst e1
      have hlen:=congrArg List.length hz
      rw [List.length_take] at hlen
      simpa using ⟨L,hl,by (first | lia | omega),h32⟩
    | cons y mids =>
      (refine x0_2 (List.cons.inj h) fun e1 e2=>?_)
      subst e1
      have hd:=slices_flat h0 (n:=n) (xs:=left.drop fr) (by rw [List.length_drop]; (first | lia | omega))
      have hdn:left.drop fr≠[]:=by
        intro e
        rw [e,show slices fr n []=[] by cases n with | zero=>rfl | succ n=>exact if_pos rfl] at e2
        simp at e2
      have hdl:(left.drop fr).length=left.length - fr:=List.length_drop
      have hdp:0 < (left.drop fr).length:=List.length_pos_iff.mpr hdn
      have htl:(left.take fr).length=fr:=by rw [List.length_take]; (first | lia | omega)
      have rd:RowRd P (k,left) [(k,left.take fr)] (k,left.drop fr):=by
        have:=RowRd.snoc (P:=P) (s:=(k,left)) (ws:=[]) (k:=k) (ys:=left.take fr) (left':=left.drop fr) (by rw [List.take_append_drop]; exact .nil) hk (by intro e; rw [e] at htl; simp at htl; (first | lia | omega)) (fun q=>h32 (List.mem_of_mem_take q)) (fun e=>absurd rfl e)
        rw [if_neg hdn] at this
        exact this
      have er:rowT A rows [(k,left.take fr)]=A++wd (mkO k) (left.take fr):=by unfold rowT; rw [if_neg hr]; rfl
      have hlen:((rowT A rows [(k,left.take fr)]).length:Int)=roomOf W H rows:=by
        rw [er,str_len_eq,wd_len,htl]
        unfold roomOf
        rw [if_neg hr,hW]
        (first | lia | omega)
      have ok:RowOk A W H rows [(k,left.take fr)]:=⟨fun uu=>by (first | lia | omega),fun uu=>by simp⟩
      have hne:left.drop fr≠pc P k:=fun e=>by have:=congrArg List.length e; (first | lia | omega)
      have L':=Log.snoc L rd ok ⟨hk,fun uu=>hlen,fun e=>absurd e hne⟩
      rw [er] at L'
      have ih:=lay_rest hW h0 hk (mids:=mids) (z:=z) e2 (by (first | lia | omega)) (by (first | lia | omega)) (fun q=>h32 (List.mem_of_mem_drop q)) (by simp) L'
      rw [List.map_cons,List.map_cons]
      rw [List.append_assoc] at ih
      exact ih
structure Inv (P:List (List Nat)) (A:Str) (W H:Nat) (k:Nat) (rows:List Str) (ini:Int) (ps:List (Str × Str)):Prop where
  ex:∃ s O,Log P A W H rows s∧RowRd P s O (k,pc P k)∧accText ps=rowT A rows O∧(O=[]→k=0∧ps=[]∧rows=[])∧(k=0→O=[])
  hini:ini=if rows=[] then (H:Int) else 0
  fit:k≠0→ini + partsLen ps≤W
noncomputable abbrev psT (k:Nat) (ps:List (Str × Str)):List (Str × Str):=if k=0 then ps else ps++[((" " : Str),("" : Str))]
theorem Inv.feed {k:Nat} {rows:List Str} {ini:Int} {ps:List (Str × Str)} {xs:List Nat} {near:Int} {q:List Str × Int × List (Str × Str)} (I:Inv P A W H k rows ini ps) (hW:W=A.length + fr + 2) (h0:0 < fr) (hk:k < P.length) (hxs:pc P k=xs) (hne:xs≠[]) (h32:32∉xs)
    (hnear:near=W - (ini + partsLen (psT k ps))) (hq:q=fedOf (mkO k) A rows ini (firstP (mkO k) (psT k ps) near xs) (slices fr xs.length (xs.drop (near - 2).toNat))):Inv P A W H (k + 1) q.1 q.2.1 q.2.2:=by
  obtain ⟨⟨s,O,L,rd,et,hO,hk0⟩,hini,hfit⟩:=I
  have hi0:0≤ini:=by rw [hini]; split <;> (first | lia | omega)
  -- the open row's text with the transition
  have eT:accText (psT k ps)=if O=[] then rowT A rows O else rowT A rows O++(" " : Str):=by
    unfold psT
    by_cases hz:k=0
    · rw [if_pos hz,if_pos (hk0 hz),et]
    · rw [if_neg hz,if_neg (fun e=>hz (hO e).1),accText_append,et]; rfl
  have hlT:(partsLen (psT k ps):Int)=(rowT A rows O).length + (if O=[] then 0 else 1):=by
    rw [← accText_len,eT]
    split
    · (first | lia | omega)
    · rw [str_len_eq]; rfl
  have hsp:accText (lastSp (psT k ps))=rowT A rows O:=by
    unfold psT
    by_cases hz:k=0
    · rw [if_pos hz]
      (refine x0_3 (hO (hk0 hz)) fun uu e uu=>?_)
      rw [← et,e]; rfl
    · rw [if_neg hz,last_trans,et]
  have hroom:roomOf W H rows=W - ini:=by unfold roomOf; rw [hini]; split <;> (first | lia | omega)
  rw [hxs] at rd
  by_cases hv:near≤2
  · -- nothing fits beside the open row
    have ef:firstP (mkO k) (psT k ps) near xs=psT k ps:=if_pos hv
    have ed:xs.drop (near - 2).toNat=xs:=by rw [show (near - 2).toNat=0 by (first | lia | omega),List.drop_zero]
    rw [ef,ed] at hq
    have hfl:=slices_flat h0 (n:=xs.length) (xs:=xs) (Nat.le_refl _)
    rcases List.eq_nil_or_concat (slices fr xs.length xs) with e | ⟨mids,z,e⟩
    · rw [e] at hfl; exact absurd hfl.symm hne
    · rw [List.concat_eq_append] at e
      have hnl:nlRows rows ini (psT k ps)=rows++[rowT A rows O]:=by
        rw [← hsp]
        refine nl_app hi0 ?_
        by_cases hOn:O=[]
        · (refine x0_3 (hO hOn) fun hz hps hrw=>?_)
          left
          rw [hnear,hlT,hOn,hrw,hini] at hv
          rw [hini]
          simp [hrw] at hv ⊢
          have e0:(rowT A [] []).length=0:=rfl
          (first | lia | omega)
        · right; rw [hsp]; exact row_sign hOn
      have L':Log P A W H (rows++[rowT A rows O]) (k,xs):=by
        refine .snoc L rd ⟨fun hOn=>?_,fun hr=>fun hOn=>hr (hO hOn).2.2⟩ ⟨hk,fun e=>absurd hxs.symm e,fun uu=>?_⟩
        · have:=hfit fun hz=>hOn (hk0 hz)
          rw [← accText_len,et] at this
          (first | lia | omega)
        · rw [hroom]
          (first | lia | omega)
      obtain ⟨L2,hz,hzl,hz32⟩:=lay_rest hW h0 hk e (Nat.le_refl _) (by rw [hxs]; exact Nat.le_refl _) h32 (by simp) L'
      have hq2:q=(rows++[rowT A rows O]++(mids.map (wd (mkO k))).map (A++·),0,[(A,wd (mkO k) z)]):=by
        rw [hq,e]; unfold fedOf
        rw [List.getLast?_concat,List.dropLast_concat,hnl]
      rw [hq2]
      have rd':RowRd P (k,z) [(k,z)] (k + 1,pc P (k + 1)):=by
        have:=RowRd.snoc (P:=P) (s:=(k,z)) (ws:=[]) (k:=k) (ys:=z) (left':=[]) (by rw [List.append_nil]; exact .nil) hk hz hz32 (fun e=>absurd rfl e)
        rw [if_pos rfl] at this
        exact this
      refine ⟨⟨(k,z),[(k,z)],L2,rd',?_,fun e=>(nomatch e),fun e=>(nomatch e)⟩,?_,fun uu=>?_⟩
      · show A++wd (mkO k) z++("" : Str)=_
        rw [str_app_nil]; unfold rowT; rw [if_neg (by simp)]; rfl
      · rw [if_neg (by simp)]
      · show 0 + partsLen [(A,wd (mkO k) z)]≤W
        rw [partsLen_one,wd_len]; (first | lia | omega)
  · -- the first word goes behind the open row
    have hs0:0 < (near - 2).toNat:=by (first | lia | omega)
    have ef:firstP (mkO k) (psT k ps) near xs=psT k ps++[((("" : Str)),wd (mkO k) (xs.take (near - 2).toNat))]:=if_neg hv
    have hsN:((near - 2).toNat:Int)=near - 2:=by (first | lia | omega)
    generalize (near - 2).toNat=sN at *
    have htn:xs.take sN≠[]:=by
      intro e
      have:=congrArg List.length e
      rw [List.length_take,List.length_nil] at this
      have:=List.length_pos_iff.mpr hne
      (first | lia | omega)
    have et2:accText (psT k ps++[((("" : Str)),wd (mkO k) (xs.take sN))])=rowT A rows (O++[(k,xs.take sN)]):=by
      rw [accText_append,eT]
      show _++(("" : Str)++wd (mkO k) (xs.take sN)++("" : Str))=_
      rw [str_app_nil,str_nil_app]
      by_cases hOn:O=[]
      · rw [if_pos hOn,hOn,List.nil_append]; unfold rowT; rw [body_one]
        show _++("" : Str)++_=_
        rw [str_app_nil]; rfl
      · rw [if_neg hOn]; unfold rowT; rw [body_snoc hOn]
        simp only [str_app_assoc]; rfl
    have hlen2:partsLen (psT k ps++[((("" : Str)),wd (mkO k) (xs.take sN))])=partsLen (psT k ps) + ((xs.take sN).length + 2:Nat):=by
      rw [partsLen_append,partsLen_one,wd_len]
      show _ + ((0:Int) + _)=_
      (first | lia | omega)
    have hfit2:ini + partsLen (psT k ps++[((("" : Str)),wd (mkO k) (xs.take sN))])≤W:=by
      rw [hlen2]
      have:(xs.take sN).length≤sN:=by rw [List.length_take]; (first | lia | omega)
      (first | lia | omega)
    have rd2:RowRd P s (O++[(k,xs.take sN)]) (if xs.drop sN=[] then (k + 1,pc P (k + 1)) else (k,xs.drop sN)):=.snoc (by rw [List.take_append_drop]; exact rd) hk htn (fun q=>h32 (List.mem_of_mem_take q)) (fun uu=>by rw [List.take_append_drop,hxs])
    rw [ef] at hq
    have hls:lastSp (psT k ps++[((("" : Str)),wd (mkO k) (xs.take sN))])=psT k ps++[((("" : Str)),wd (mkO k) (xs.take sN))]:=last_word wd_ne
    have hfl:=slices_flat h0 (n:=xs.length) (xs:=xs.drop sN) (by rw [List.length_drop]; (first | lia | omega))
    rcases List.eq_nil_or_concat (slices fr xs.length (xs.drop sN)) with e | ⟨mids,z,e⟩
    · rw [e] at hfl
      have hfl:xs.drop sN=[]:=hfl.symm
      rw [if_pos hfl] at rd2
      have hq2:q=(rows,ini,psT k ps++[((("" : Str)),wd (mkO k) (xs.take sN))]):=by rw [hq,e]; rfl
      rw [hq2]
      exact ⟨⟨s,_,L,rd2,et2,fun e=>absurd e (by simp),fun e=>(nomatch e)⟩,hini,fun uu=>hfit2⟩
    · rw [List.concat_eq_append] at e
      have hdn:xs.drop sN≠[]:=by
        intro e'
        rw [e,e',List.flatten_append] at hfl
        have hz:z≠[]:=slices_ne h0 z (by rw [e]; simp)
        simp at hfl
        exact hz hfl.2
      rw [if_neg hdn] at rd2
      have hdl:(xs.drop sN).length=xs.length - sN:=List.length_drop
      have hdp:=List.length_pos_iff.mpr hdn
      have htl:(xs.take sN).length=sN:=by rw [List.length_take]; (first | lia | omega)
      have hnl:nlRows rows ini (psT k ps++[((("" : Str)),wd (mkO k) (xs.take sN))])=rows++[rowT A rows (O++[(k,xs.take sN)])]:=by
        rw [nl_app hi0 (.inr (by rw [hls,et2]; exact row_sign (by simp))),hls,et2]
      have hrl:((rowT A rows (O++[(k,xs.take sN)])).length:Int)=roomOf W H rows:=by
        rw [← et2,accText_len,hlen2,htl,hroom]
        (first | lia | omega)
      have hne2:xs.drop sN≠pc P k:=fun e=>by have:=congrArg List.length e; rw [hxs] at this; (first | lia | omega)
      have L':Log P A W H (rows++[rowT A rows (O++[(k,xs.take sN)])]) (k,xs.drop sN) :=
        .snoc L rd2 ⟨fun uu=>by (first | lia | omega),fun uu=>by simp⟩ ⟨hk,fun uu=>hrl,fun e=>absurd e hne2⟩
      obtain ⟨L2,hz,hzl,hz32⟩:=lay_rest hW h0 hk e (by (first | lia | omega)) (by rw [hxs]; (first | lia | omega)) (fun q=>h32 (List.mem_of_mem_drop q)) (by simp) L'
      have hq2:q=(rows++[rowT A rows (O++[(k,xs.take sN)])]++(mids.map (wd (mkO k))).map (A++·),0,[(A,wd (mkO k) z)]):=by
        rw [hq,e]; unfold fedOf
        rw [List.getLast?_concat,List.dropLast_concat,hnl]
      rw [hq2]
      have rd':RowRd P (k,z) [(k,z)] (k + 1,pc P (k + 1)):=by
        have:=RowRd.snoc (P:=P) (s:=(k,z)) (ws:=[]) (k:=k) (ys:=z) (left':=[]) (by rw [List.append_nil]; exact .nil) hk hz hz32 (fun e=>absurd rfl e)
        rw [if_pos rfl] at this
        exact this
      refine ⟨⟨(k,z),[(k,z)],L2,rd',?_,fun e=>(nomatch e),fun e=>(nomatch e)⟩,?_,fun uu=>?_⟩
      · show A++wd (mkO k) z++("" : Str)=_
        rw [str_app_nil]; unfold rowT; rw [if_neg (by simp)]; rfl
      · rw [if_neg (by simp)]
      · show 0 + partsLen [(A,wd (mkO k) z)]≤W
        rw [partsLen_one,wd_len]; (first | lia | omega)
end
structure Fx where
  (a0 a1 a6 a7 a8:Option AV) (A told:Str) (W H p r:Nat)
structure Tl where
  (n row room body words m marks inner:Option AV)
noncomputable abbrev LcQ (x:Fx) (k:Nat) (left:Str) (q:Tl):Lc :=
  [x.a0,x.a1,some (.str x.A),some (.int x.W),some (.int x.H),some (.loc x.p),x.a6,x.a7,x.a8,some (.int (k:Int)),some (.str x.told),some (.loc x.r),some (.str left),q.n,q.row,q.room,q.body,q.words,q.m,q.marks,q.inner]
noncomputable abbrev strsV (rows:List Str):List AV:=rows.map AV.str
noncomputable abbrev pcsV (P:List (List Nat)):List AV:=P.map fun y=>AV.str (strL y)
theorem slice_inner {mk:Nat × Nat} {ys:List Nat}:Txt.slice (wd mk ys) (some 1) (some (-1))=strL ys:=by
  have hl:(wd mk ys).length=ys.length + 2:=wd_len
  have e:Txt.slice (wd mk ys) (some 1) (some (-1))=Txt.slice (wd mk ys) (some ((1:Nat):Int)) (some ((ys.length + 1:Nat):Int)):=by
    unfold Txt.slice
    rw [PySem.StrLaws.sliceIdx_neg_hi _ _ (by decide) (by rw [hl]; (first | lia | omega)),show (-1 + ((wd mk ys).length:Int))=((ys.length + 1:Nat):Int) by rw [hl]; (first | lia | omega)]
    rfl
  rw [e,slice_mid (by (first | lia | omega)) (by rw [hl]; (first | lia | omega))]
  show strL ((ys++[mk.2]).take (ys.length + 1 - 1))=_
  rw [Nat.add_sub_cancel,List.take_left' rfl]
theorem marks_at (k:Nat):[AV.str "[]",AV.str "()"][k % 2]?=some (.str (mkS (mkO k))):=by
  unfold mkO
  rcases Nat.mod_two_eq_zero_or_one k with h | h
  · rw [h]; rfl
  · rw [h]; rfl
theorem eqStr_of {σ:St} {lc:Lc} {f g:EM} {x y:Str} (h1:f lc σ=some (.str x,σ)) (h2:g lc σ=some (.str y,σ)):cmpT .Eq f g lc σ=some (decide (x=y),σ):=cmp_of h1 h2 (by
  show aeqv σ _ _=_
  rw [aeqv_pd toPD_str toPD_str]
  rw [PyData.eqv]
  by_cases e:x=y
  · subst e; simp
  · simp [e])
theorem fmod_nat (k n:Nat):(k:Int).fmod (n:Int)=((k % n:Nat):Int):=by cases k <;> cases n <;> rfl
section
variable {P:List (List Nat)} {x:Fx} {σ:St} {k:Nat} {n row room body m marks inner:Option AV} {ys left':List Nat} {ws:List Str}
theorem piece_at (hk:k < P.length):(pcsV P)[k]?=some (.str (strL (pc P k))):=by
  unfold pc
  rw [List.getElem?_map,List.getElem?_eq_getElem hk]
  simp [List.getD,List.getElem?_eq_getElem hk]
theorem piece_next (hk:k≤P.length):(pcsV P++[AV.str ""])[k]?=some (.str (strL (pc P k))):=by
  rcases Nat.lt_or_eq_of_le hk with h | h
  · rw [List.getElem?_append_left (by simpa using h)]; exact piece_at h
  · subst h
    rw [List.getElem?_append_right (by simp)]
    simp [pc]; rfl
set_option tactic.hygienic true
theorem turn3 (hp:σ[x.p]?=some (.list (pcsV P))) (hP:P.length≤1000) (hys:(ys++left').length≤1000) {mm:Nat} (hm:ws[mm]?=some (wT (k,ys))) (hw:ws.length≤1000) (hk:k < P.length) (hy:ys≠[]) (hpc:0 < mm→ys++left'=pc P k) :
    WS lawFTurn3 (LcQ x k (strL (ys++left')) ⟨n,row,room,body,(some (.lst (strsV ws))),(some (.int (mm:Int))),marks,inner⟩) σ fun fl lc σ'=>fl=.next∧σ'=σ ∧
      ∃ s:Nat × List Nat,s=(if left'=[] then (k + 1,pc P (k + 1)) else (k,left'))∧∃ a b,lc=LcQ x s.1 (strL s.2) ⟨n,row,room,body,(some (.lst (strsV ws))),(some (.int (mm:Int))),a,b⟩:=by
  have hyl:ys.length≤1000:=by rw [List.length_append] at hys; (first | lia | omega)
  unfold lawFTurn3
  generalize hlc:LcQ x k (strL (ys++left')) ⟨n,row,room,body,(some (.lst (strsV ws))),(some (.int (mm:Int))),marks,inner⟩=lc
  have n5:nE 5 lc σ=some (.loc x.p,σ):=by rw [← hlc]; rfl
  have n9:nE 9 lc σ=some (.int (k:Int),σ):=by rw [← hlc]; rfl
  have n12:nE 12 lc σ=some (.str (strL (ys++left')),σ):=by rw [← hlc]; rfl
  have n18:nE 18 lc σ=some (.int (mm:Int),σ):=by rw [← hlc]; rfl
  have lp:callE (lenF accLenF) [nE 5] lc σ=some (.int (P.length:Int),σ):=by
    have:=lenL_of (LF:=accLenF) n5 hp (by simp; (first | lia | omega))
    rw [List.length_map] at this; exact this
  have c1:cmpT .Eq (nE 9) (callE (lenF accLenF) [(nE 5)]) lc σ=some (false,σ):=by rw [eqInt_of n9 lp,decide_eq_false (by (first | lia | omega))]
  have i59:idxE (nE 5) (nE 9) lc σ=some (.str (strL (pc P k)),σ):=item_of n5 n9 hp (piece_at hk) (by simp; (first | lia | omega))
  have c2:andT [(cmpT .Gt (nE 18) (cE (.int 0))),(cmpT .NotEq (nE 12) (idxE (nE 5) (nE 9)))] lc σ=some (false,σ):=by
    have g:=gt_of n18 (g:=cE (.int 0)) (j:=0) rfl
    by_cases h:0 < mm
    · rw [decide_eq_true (by (first | lia | omega))] at g
      refine and_t g (and_1 ?_)
      rw [neStr_of n12 i59,hpc h,decide_eq_false (by simp)]
    · rw [decide_eq_false (by (first | lia | omega))] at g
      exact and_f g
  refine ws_if (wt (or_n c1 (or_1 c2)) ?_)
  -- the marks
  have e19:idxE (lstE [(cE (.str "[]")),(cE (.str "()"))]) (binE .Mod (nE 9) (cE (.int 2))) lc σ=some (.str (mkS (mkO k)),σ) :=
    idx_lst (lstE_of (xs:=[.str "[]",.str "()"]) rfl (by show 2≤_; decide)) (bin_of (a:=.int (k:Int)) (b:=.int 2) n9 rfl rfl) (fmod_nat k 2) (marks_at k) (by show 2≤_; decide)
  refine ws_asg (we e19 ⟨LcQ x k (strL (ys++left')) ⟨n,row,room,body,(some (.lst (strsV ws))),(some (.int (mm:Int))),(some (.str (mkS (mkO k)))),inner⟩,by rw [← hlc]; rfl,?_⟩)
  clear c1 c2 e19 n5 n9 n12 n18 lp i59
  have w:∀ b,idxE (nE 17) (nE 18) (LcQ x k (strL (ys++left')) ⟨n,row,room,body,(some (.lst (strsV ws))),(some (.int (mm:Int))),(some (.str (mkS (mkO k)))),b⟩) σ=some (.str (wT (k,ys)),σ):=fun b =>
    idx_lst (xs:=strsV ws) rfl (i:=(mm:Int)) rfl rfl (by rw [List.getElem?_map,hm]; rfl) (by simp; (first | lia | omega))
  have hwl:(wT (k,ys)).length≤1000000:=by rw [wT_len]; show ys.length + 2≤_; (first | lia | omega)
  have e20:=slStr_of (lo:=some (cE (.int 1))) (hi:=some (negE (cE (.int 1)))) (p:=some 1) (q:=some (-1)) (w inner) rfl rfl hwl
  rw [show Txt.slice (wT (k,ys)) (some 1) (some (-1))=strL ys from slice_inner] at e20
  refine ws_asg (we e20 ⟨LcQ x k (strL (ys++left')) ⟨n,row,room,body,(some (.lst (strsV ws))),(some (.int (mm:Int))),(some (.str (mkS (mkO k)))),(some (.str (strL ys)))⟩,rfl,?_⟩)
  have w:=w (some (.str (strL ys)))
  generalize hlc:LcQ x k (strL (ys++left')) ⟨n,row,room,body,(some (.lst (strsV ws))),(some (.int (mm:Int))),(some (.str (mkS (mkO k)))),(some (.str (strL ys)))⟩=lc at w ⊢
  have n12:nE 12 lc σ=some (.str (strL (ys++left')),σ):=by rw [← hlc]; rfl
  have n19:nE 19 lc σ=some (.str (mkS (mkO k)),σ):=by rw [← hlc]; rfl
  have n20:nE 20 lc σ=some (.str (strL ys),σ):=by rw [← hlc]; rfl
  have l20:callE (lenF accLenF) [(nE 20)] lc σ=some (.int (ys.length:Int),σ):=by
    have:=len_of (LF:=accLenF) n20 (by rw [strL_len]; (first | lia | omega))
    rw [strL_len] at this; exact this
  have c1:cmpT .Eq (nE 20) (cE (.str "")) lc σ=some (false,σ):=by
    have:=eqStr_of n20 (g:=cE (.str "")) (y := "") rfl
    rw [decide_eq_false (strL_ne.mpr hy)] at this
    exact this
  have m0:idxE (nE 19) (cE (.int 0)) lc σ=some (.str ⟨#[(mkO k).1]⟩,σ):=sign_of (x:=mkS (mkO k)) (k:=0) n19 rfl rfl (by show 2≤_; decide)
  have m1:idxE (nE 19) (cE (.int 1)) lc σ=some (.str ⟨#[(mkO k).2]⟩,σ):=sign_of (x:=mkS (mkO k)) (k:=1) n19 rfl rfl (by show 2≤_; decide)
  have k1:=cat_of m0 n20 (by rw [strL_len]; show 1 + _≤_; (first | lia | omega))
  have k2:=cat_of k1 m1 (by rw [str_len_eq,strL_len]; show 1 + _ + 1≤_; (first | lia | omega))
  have ew:(⟨#[(mkO k).1]⟩:Str)++strL ys++⟨#[(mkO k).2]⟩=wT (k,ys):=str_ext (by rw [app_cps,app_cps]; rfl)
  rw [ew] at k2
  have c2:cmpT .NotEq (idxE (nE 17) (nE 18)) (binE .Add (binE .Add (idxE (nE 19) (cE (.int 0))) (nE 20)) (idxE (nE 19) (cE (.int 1)))) lc σ=some (false,σ):=by
    rw [neStr_of w k2,decide_eq_false (by simp)]
  have s1:slStrE (nE 12) none (some (callE (lenF accLenF) [(nE 20)])) lc σ=some (.str (strL ys),σ):=by
    have:=slStr_of (lo:=none) (p:=none) n12 rfl (opt_of l20) (by rw [strL_len]; (first | lia | omega))
    rw [slice_take] at this
    exact this.trans (by rw [show (strL (ys++left')).cps.toList.take ys.length=ys from List.take_left' rfl])
  have s2:slStrE (nE 12) (some (callE (lenF accLenF) [(nE 20)])) none lc σ=some (.str (strL left'),σ):=by
    have:=slStr_of (hi:=none) (q:=none) n12 (opt_of l20) rfl (by rw [strL_len]; (first | lia | omega))
    rw [slice_drop] at this
    exact this.trans (by rw [show (strL (ys++left')).cps.toList.drop ys.length=left' from List.drop_left' rfl])
  have c3:cmpT .NotEq (slStrE (nE 12) none (some (callE (lenF accLenF) [(nE 20)]))) (nE 20) lc σ=some (false,σ):=by rw [neStr_of s1 n20,decide_eq_false (by simp)]
  refine ws_if (wt (or_n c1 (or_n c2 (or_1 c3))) ?_)
  refine ws_asg (we s2 ⟨LcQ x k (strL left') ⟨n,row,room,body,(some (.lst (strsV ws))),(some (.int (mm:Int))),(some (.str (mkS (mkO k)))),(some (.str (strL ys)))⟩,by rw [← hlc]; rfl,?_⟩)
  have c4:cmpT .Eq (nE 12) (cE (.str "")) (LcQ x k (strL left') ⟨n,row,room,body,(some (.lst (strsV ws))),(some (.int (mm:Int))),(some (.str (mkS (mkO k)))),(some (.str (strL ys)))⟩) σ=some (decide (strL left' = ""),σ):=eqStr_of rfl rfl
  by_cases hl:left'=[]
  · rw [decide_eq_true (by rw [hl]; rfl)] at c4
    rw [if_pos hl]
    refine ws_if (wt c4 (ws_aug rfl (we (v:=.int 1) rfl ⟨.int ((k:Int) + 1),LcQ x (k + 1) (strL left') ⟨n,row,room,body,(some (.lst (strsV ws))),(some (.int (mm:Int))),(some (.str (mkS (mkO k)))),(some (.str (strL ys)))⟩,rfl,rfl,?_⟩)))
    have eL:=addL_of (f:=nE 5) (g:=lstE [(cE (.str ""))]) (lc:=LcQ x (k + 1) (strL left') ⟨n,row,room,body,(some (.lst (strsV ws))),(some (.int (mm:Int))),(some (.str (mkS (mkO k)))),(some (.str (strL ys)))⟩) (σ:=σ) (a:=.loc x.p) (b:=.lst [.str ""]) (xs:=pcsV P) (ys:=[.str ""]) rfl (lstE_of (xs:=[.str ""]) rfl (by show 1≤_; decide)) (lstAt_of hp) rfl rfl rfl (by simp; (first | lia | omega))
    have e12:=idx_lst eL (g:=nE 9) (i:=((k + 1:Nat):Int)) rfl rfl (piece_next hk) (by simp; (first | lia | omega))
    exact ws_asg (we e12 ⟨LcQ x (k + 1) (strL (pc P (k + 1))) ⟨n,row,room,body,(some (.lst (strsV ws))),(some (.int (mm:Int))),(some (.str (mkS (mkO k)))),(some (.str (strL ys)))⟩,rfl,ws_nil ⟨rfl,rfl,_,rfl,_,_,rfl⟩⟩)
  · rw [decide_eq_false (strL_ne.mpr hl)] at c4
    rw [if_neg hl]
    exact ws_if (wt c4 (ws_nil ⟨rfl,rfl,_,rfl,_,_,rfl⟩))
end
section
variable {P:List (List Nat)} {x:Fx} {σ:St} {n row room body:Option AV} {s s':Nat × List Nat} {O:List Wd}
theorem RowRd.small (R:RowRd P s O s') (hP:∀ y∈P,y.length≤100) (hs:s.2.length≤100):s'.2.length≤100:=by
  have hpc:∀ k,(pc P k).length≤100:=fun k=>by
    unfold pc
    by_cases h:k < P.length
    · simp only [List.getD,List.getElem?_eq_getElem h,Option.getD_some]; exact hP _ (List.getElem_mem h)
    · simp only [List.getD,List.getElem?_eq_none (Nat.le_of_not_lt h)]; exact Nat.zero_le _
  induction R with
  | nil=>exact hs
  | @snoc ws k ys left' h hk hy h32 hw ih =>
    split
    · exact hpc _
    · have ih:(ys++left').length≤100:=ih
      rw [List.length_append] at ih
      show left'.length≤100
      (first | lia | omega)
noncomputable abbrev wordsV (ws:List Str):Option AV:=some (.lst (strsV ws))
noncomputable abbrev T3:=Option AV × Option AV × Option AV
theorem words_loop (hp:σ[x.p]?=some (.list (pcsV P))) (hP:P.length≤1000) (hPl:∀ y∈P,y.length≤100) (hs:s.2.length≤100) (R:RowRd P s O s'):∀ (rest:List Wd) (ws:List Str) (N fuel:Nat) (q:T3),ws=(O++rest).map wT→ws.length=N→N≤1000→O.length < fuel →
    ∃ q':T3,loopS (nxR 0 (N:Int) 1) (fun lc y=>putL lc 18 y) lawFTurn3 (seqS []) fuel 0 (LcQ x s.1 (strL s.2) ⟨n,row,room,body,wordsV ws,q.1,q.2.1,q.2.2⟩) σ=loopS (nxR 0 (N:Int) 1) (fun lc y=>putL lc 18 y) lawFTurn3 (seqS []) (fuel - O.length) O.length (LcQ x s'.1 (strL s'.2) ⟨n,row,room,body,wordsV ws,q'.1,q'.2.1,q'.2.2⟩) σ:=by
  induction R with
  | nil=>exact fun rest ws N fuel q uu uu uu uu=>⟨q,rfl⟩
  | @snoc ws0 k ys left' h hk hy h32 hw ih =>
    intro rest ws N fuel q hws hN hN2 hf
    rw [List.length_append,List.length_singleton] at hf ⊢
    obtain ⟨q',e⟩:=ih ((k,ys) :: rest) ws N fuel q (by rw [hws,List.append_assoc]; rfl) hN hN2 (by (first | lia | omega))
    have hlt:ws0.length < N:=by rw [← hN,hws]; simp
    have hm:ws[ws0.length]?=some (wT (k,ys)):=by rw [hws,List.map_append,List.getElem?_append_left (by simp),List.map_append,List.getElem?_append_right (by simp)]; simp
    obtain ⟨fl,lc,σ',e3,rfl,rfl,s2,rfl,a2,b2,rfl⟩:=turn3 (n:=n) (row:=row) (room:=room) (body:=body) (marks:=q'.2.1) (inner:=q'.2.2) hp hP (by have:=(RowRd.small h hPl hs); show (ys++left').length≤1000; have h2:(ys++left').length≤100:=this; (first | lia | omega)) hm (by (first | lia | omega)) hk hy (fun h0=>hw (List.length_pos_iff.mp h0))
    refine ⟨(some (.int (ws0.length:Int)),a2,b2),e.trans ?_⟩
    obtain ⟨fu,hfu⟩:∃ fu,fuel - ws0.length=fu + 1:=⟨fuel - ws0.length - 1,by (first | lia | omega)⟩
    rw [show fuel - (ws0.length + 1)=fu by (first | lia | omega),hfu]
    exact loop_at (nxR_up hlt) rfl e3
theorem RowRd.no32 (R:RowRd P s O s'):∀ w∈O,32∉wL w:=by
  induction R with
  | nil=>exact fun uu h=>nomatch h
  | @snoc ws k ys left' h hk hy h32 hw ih =>
    intro w hw
    rcases List.mem_append.mp hw with h | h
    · exact ih w h
    · rw [List.mem_singleton.mp h]
      intro q
      rcases List.mem_cons.mp q with q | q
      · exact (mk_sign k).2.1 q.symm
      · rcases List.mem_append.mp q with q | q
        · exact h32 q
        · exact (mk_sign k).2.2 (List.mem_singleton.mp q).symm
theorem RowRd.cnt (R:RowRd P s O s'):O.length≤(bodyT O).length:=by
  have g:∀ (O:List Wd),O.length≤(jl (O.map wL)).length:=by
    intro O
    induction O with
    | nil=>exact Nat.le_refl _
    | cons w O ih =>
      by_cases h:O=[]
      · subst h; show 1≤(wL w).length; unfold wL; simp
      · rw [List.map_cons,jl_cons (by simpa using h)]
        simp only [List.length_append,List.length_cons]
        (first | lia | omega)
  unfold bodyT
  rw [strL_len]
  exact g O
theorem leInt_of {lc:Lc} {f g:EM} {i j:Int} (h1:f lc σ=some (.int i,σ)) (h2:g lc σ=some (.int j,σ)):cmpT .LtE f g lc σ=some (decide (i≤j),σ):=cmp_of h1 h2 rfl
theorem lenW_of {lc:Lc} {f:EM} {xs:List AV} (h1:f lc σ=some (.lst xs,σ)) (hz:xs.length≤1000000):callE (lenF accLenF) [f] lc σ=some (.int xs.length,σ):=bnd (evs1 h1) (lenF_lst.trans (gd_of (decide_eq_true hz)))
theorem ite_of {lc:Lc} {t:TM} {f g:EM} {b:Bool} {v:AV} (h:t lc σ=some (b,σ)) (h1:b=true→f lc σ=some (v,σ)) (h2:b=false→g lc σ=some (v,σ)):iteE t f g lc σ=some (v,σ):=by
  cases b with
  | true=>exact bnd h (h1 rfl)
  | false=>exact bnd h (h2 rfl)
set_option tactic.hygienic true
theorem turn4 {rows rest:List Str} {words m a b:Option AV} (hp:σ[x.p]?=some (.list (pcsV P))) (hP:P.length≤1000) (hPl:∀ y∈P,y.length≤100) (hs:s.2.length≤100)
    (hr:σ[x.r]?=some (.list (strsV (rows++rowT x.A rows O :: rest)))) (hsz:rows.length + rest.length≤9000) (hA:x.A.length≤10) (hW:x.W≤100) (R:RowRd P s O s') (ok:RowOk x.A x.W x.H rows O) (he:rest≠[]→EndOk P x.A x.W x.H rows O s') :
    WS lawFTurn4 (LcQ x s.1 (strL s.2) ⟨(some (.int rows.length)),row,room,body,words,m,a,b⟩) σ fun fl lc σ'=>fl=.next∧σ'=σ∧∃ q:Tl,lc=LcQ x s'.1 (strL s'.2) q:=by
  -- lengths
  have hrl:((rowT x.A rows O).length:Int)≤100∧(bodyT O).length≤(rowT x.A rows O).length:=by
    refine ⟨?_,by unfold rowT; rw [str_len_eq]; (first | lia | omega)⟩
    by_cases hO:O=[]
    · have hrw:rows=[]:=Classical.byContradiction fun h=>ok.ne h hO
      rw [hO,hrw]; exact (by decide:((0:Nat):Int)≤100)
    · have:=ok.len hO
      unfold roomOf at this
      split at this <;> (first | lia | omega)
  have hbl:(bodyT O).length≤100:=by (first | lia | omega)
  have hOl:O.length≤100:=Nat.le_trans R.cnt hbl
  have hrl':(rowT x.A rows O).length≤1000000:=by (first | lia | omega)
  have ert:rowT x.A rows O=(if rows=[] then ("" : Str) else x.A)++bodyT O:=rfl
  have ebody:O=[]↔bodyT O = "" := ⟨fun h=>by rw [h]; rfl,fun h=>Classical.byContradiction fun hO=>by
    (refine x1_2 (body_sign hO) fun c hc uu=>?_)
    rw [h] at hc; exact nomatch hc⟩
  have erow:O=[]→rowT x.A rows O = "" := fun h=>by
    have hrw:rows=[]:=Classical.byContradiction fun h'=>ok.ne h' h
    rw [h,hrw]; rfl
  unfold lawFTurn4
  generalize hrt:rowT x.A rows O=R0 at *
  generalize hbt:bodyT O=B0 at *
  -- the row
  have e14:idxE (nE 11) (nE 13) (LcQ x s.1 (strL s.2) ⟨(some (.int rows.length)),row,room,body,words,m,a,b⟩) σ=some (.str R0,σ) :=
    item_of (k:=rows.length) rfl rfl hr (by rw [strsV,List.map_append,List.getElem?_append_right (by simp)]; simp) (by simp; (first | lia | omega))
  refine ws_asg (we e14 ⟨LcQ x s.1 (strL s.2) ⟨(some (.int rows.length)),(some (.str R0)),room,body,words,m,a,b⟩,rfl,?_⟩)
  have c13:∀ (row room body words m a b:Option AV),cmpT .Eq (nE 13) (cE (.int 0)) (LcQ x s.1 (strL s.2) ⟨(some (.int rows.length)),row,room,body,words,m,a,b⟩) σ=some (decide (rows=[]),σ):=fun row room body words m a b=>by
    have:=eqInt_of (f:=nE 13) (g:=cE (.int 0)) (lc:=LcQ x s.1 (strL s.2) ⟨(some (.int rows.length)),row,room,body,words,m,a,b⟩) (σ:=σ) (i:=(rows.length:Int)) (j:=0) rfl rfl
    rw [this]
    have:decide ((rows.length:Int)=0)=decide (rows=[]):=decide_eq_decide.mpr ⟨fun h=>List.eq_nil_of_length_eq_zero (by (first | lia | omega)),fun h=>by rw [h]; rfl⟩
    rw [this]
  have e15:iteE (cmpT .Eq (nE 13) (cE (.int 0))) (binE .Sub (nE 3) (nE 4)) (nE 3) (LcQ x s.1 (strL s.2) ⟨(some (.int rows.length)),(some (.str R0)),room,body,words,m,a,b⟩) σ=some (.int (roomOf x.W x.H rows),σ):=by
    refine ite_of (c13 _ _ _ _ _ _ _) (fun h=>?_) (fun h=>?_)
    · unfold roomOf; rw [if_pos (of_decide_eq_true h)]; exact sub_of rfl rfl
    · unfold roomOf; rw [if_neg (of_decide_eq_false h)]; rfl
  refine ws_asg (we e15 ⟨LcQ x s.1 (strL s.2) ⟨(some (.int rows.length)),(some (.str R0)),(some (.int (roomOf x.W x.H rows))),body,words,m,a,b⟩,rfl,?_⟩)
  have lA:∀ (body words m a b:Option AV),callE (lenF accLenF) [(nE 2)] (LcQ x s.1 (strL s.2) ⟨(some (.int rows.length)),(some (.str R0)),(some (.int (roomOf x.W x.H rows))),body,words,m,a,b⟩) σ=some (.int (x.A.length:Int),σ):=fun uu uu uu uu uu=>len_of (x:=x.A) rfl (by (first | lia | omega))
  have e16:iteE (cmpT .Eq (nE 13) (cE (.int 0))) (nE 14) (slStrE (nE 14) (some (callE (lenF accLenF) [(nE 2)])) none) (LcQ x s.1 (strL s.2) ⟨(some (.int rows.length)),(some (.str R0)),(some (.int (roomOf x.W x.H rows))),body,words,m,a,b⟩) σ=some (.str B0,σ):=by
    refine ite_of (c13 _ _ _ _ _ _ _) (fun h=>?_) (fun h=>?_)
    · rw [ert,if_pos (of_decide_eq_true h),str_nil_app]; rfl
    · have:=slStr_of (f:=nE 14) (x:=R0) (hi:=none) (q:=none) rfl (opt_of (lA body words m a b)) rfl hrl'
      rw [slice_drop] at this
      refine this.trans ?_
      rw [ert,if_neg (of_decide_eq_false h),app_cps,List.drop_left' (by rw [Array.length_toList]; rfl)]
      rfl
  refine ws_asg (we e16 ⟨LcQ x s.1 (strL s.2) ⟨(some (.int rows.length)),(some (.str R0)),(some (.int (roomOf x.W x.H rows))),(some (.str B0)),words,m,a,b⟩,rfl,?_⟩)
  -- the blanks ahead
  generalize hlc:LcQ x s.1 (strL s.2) ⟨(some (.int rows.length)),(some (.str R0)),(some (.int (roomOf x.W x.H rows))),(some (.str B0)),words,m,a,b⟩=lc
  have n2:nE 2 lc σ=some (.str x.A,σ):=by rw [← hlc]; rfl
  have n13:nE 13 lc σ=some (.int (rows.length:Int),σ):=by rw [← hlc]; rfl
  have n14:nE 14 lc σ=some (.str R0,σ):=by rw [← hlc]; rfl
  have n15:nE 15 lc σ=some (.int (roomOf x.W x.H rows),σ):=by rw [← hlc]; rfl
  have n16:nE 16 lc σ=some (.str B0,σ):=by rw [← hlc]; rfl
  have l2:callE (lenF accLenF) [(nE 2)] lc σ=some (.int (x.A.length:Int),σ):=len_of n2 (by (first | lia | omega))
  have l14:callE (lenF accLenF) [(nE 14)] lc σ=some (.int (R0.length:Int),σ):=len_of n14 hrl'
  have c17:andT [(cmpT .Gt (nE 13) (cE (.int 0))),(orT [(cmpT .NotEq (slStrE (nE 14) none (some (callE (lenF accLenF) [(nE 2)]))) (nE 2)),(cmpT .Eq (nE 16) (cE (.str "")))])] lc σ=some (false,σ):=by
    have g:=gt_of n13 (g:=cE (.int 0)) (j:=0) rfl
    by_cases h:rows=[]
    · rw [decide_eq_false (by rw [h]; decide)] at g
      exact and_f g
    · have:=List.length_pos_iff.mpr h
      rw [decide_eq_true (by (first | lia | omega))] at g
      have t1:slStrE (nE 14) none (some (callE (lenF accLenF) [nE 2])) lc σ=some (.str x.A,σ):=by
        have t1:=slStr_of (lo:=none) (p:=none) n14 rfl (opt_of l2) hrl'
        rw [slice_take] at t1
        refine t1.trans ?_
        rw [ert,if_neg h,app_cps,List.take_left' (by rw [Array.length_toList]; rfl)]
        rfl
      refine and_t g (and_1 (or_n ?_ (or_1 ?_)))
      · rw [neStr_of t1 n2,decide_eq_false (by simp)]
      · rw [eqStr_of n16 (g:=cE (.str "")) (y := "") rfl,decide_eq_false (fun e=>ok.ne h (ebody.mpr e))]
  refine ws_if (wt c17 ?_)
  have c18:andT [(cmpT .NotEq (nE 14) (cE (.str ""))),(cmpT .Gt (callE (lenF accLenF) [(nE 14)]) (nE 15))] lc σ=some (false,σ):=by
    have g:=neStr_of n14 (g:=cE (.str "")) (y := "") rfl
    by_cases h:R0 = ""
    · rw [decide_eq_false (by simpa using h)] at g
      exact and_f g
    · rw [decide_eq_true (by simpa using h)] at g
      have:=ok.len (fun e=>h (erow e))
      rw [hrt] at this
      refine and_t g (and_1 ?_)
      rw [gt_of l14 n15,decide_eq_false (by (first | lia | omega))]
  refine ws_if (wt c18 ?_)
  -- the words
  have e17:iteE (cmpT .NotEq (nE 16) (cE (.str ""))) (mE 1 splitTextF (nE 16) [(cE (.str " "))]) (lstE []) lc σ=some (.lst (strsV (O.map wT)),σ):=by
    refine ite_of (neStr_of n16 (g:=cE (.str "")) (y := "") rfl) (fun h=>?_) (fun h=>?_)
    · have hO:O≠[]:=fun e=>of_decide_eq_true h (ebody.mp e)
      have es:Txt.split B0 " " = O.map wT:=by
        rw [← hbt]
        unfold bodyT
        rw [split_jl (by simpa using hO) (fun y hy=>by (refine x1_2 (List.mem_map.mp hy) fun w hw rr2=>?_; subst rr2); exact R.no32 w hw),List.map_map]
        rfl
      refine mS (x:=B0) (xs:=[.str " "]) n16 rfl ?_
      have hb:(!((" " : Str).length == 0) && decide (B0.length≤1000000) && decide ((Txt.split B0 " ").length≤1000000))=true:=by
        rw [es,List.length_map]
        simp only [Bool.and_eq_true,decide_eq_true_eq]
        exact ⟨⟨rfl,by (first | lia | omega)⟩,by (first | lia | omega)⟩
      rw [← es]
      exact gd_of hb
    · have hO:O=[]:=ebody.mpr (by simpa using of_decide_eq_false h)
      rw [hO]
      exact lstE_of rfl (by show 0≤_; (first | lia | omega))
  refine ws_asg (we e17 ⟨LcQ x s.1 (strL s.2) ⟨(some (.int rows.length)),(some (.str R0)),(some (.int (roomOf x.W x.H rows))),(some (.str B0)),(wordsV (O.map wT)),m,a,b⟩,by rw [← hlc]; rfl,?_⟩)
  obtain ⟨q',el⟩:=words_loop (n:=some (.int rows.length)) (row:=some (.str R0)) (room:=some (.int (roomOf x.W x.H rows))) (body:=some (.str B0)) hp hP hPl hs R [] (O.map wT) O.length 1000000 (m,a,b) (by rw [List.append_nil]) (by simp) (by (first | lia | omega)) (by (first | lia | omega))
  obtain ⟨fu,hfu⟩:∃ fu,1000000 - O.length=fu + 1:=⟨999999 - O.length,by (first | lia | omega)⟩
  rw [hfu,loop_stop nxR_fin] at el
  have l17:∀ m a b,callE (lenF accLenF) [(nE 17)] (LcQ x s.1 (strL s.2) ⟨(some (.int rows.length)),(some (.str R0)),(some (.int (roomOf x.W x.H rows))),(some (.str B0)),(wordsV (O.map wT)),m,a,b⟩) σ=some (.int (O.length:Int),σ):=fun m a b=>by
    have:=lenW_of (f:=nE 17) (lc:=LcQ x s.1 (strL s.2) ⟨(some (.int rows.length)),(some (.str R0)),(some (.int (roomOf x.W x.H rows))),(some (.str B0)),(wordsV (O.map wT)),m,a,b⟩) (σ:=σ) (xs:=strsV (O.map wT)) rfl (by simp; (first | lia | omega))
    rw [List.length_map,List.length_map] at this
    exact this
  refine ws_step (forR_of (evs1 (l17 m a b)) (a:=0) (b:=(O.length:Int)) (c:=1) rfl (okUp (by (first | lia | omega))) el) ?_
  -- the row's end
  clear hlc n2 n13 n14 n15 n16 l2 l14 c17 c18 e17 el l17 e14 e15 e16 c13 lA
  generalize hlc:LcQ x s'.1 (strL s'.2) ⟨(some (.int rows.length)),(some (.str R0)),(some (.int (roomOf x.W x.H rows))),(some (.str B0)),(wordsV (O.map wT)),q'.1,q'.2.1,q'.2.2⟩=lc
  have fin:WS (seqS []) lc σ fun fl lc σ'=>fl=.next∧σ'=σ∧∃ q:Tl,lc=LcQ x s'.1 (strL s'.2) q:=ws_nil ⟨rfl,rfl,_,hlc.symm⟩
  have n5:nE 5 lc σ=some (.loc x.p,σ):=by rw [← hlc]; rfl
  have n9:nE 9 lc σ=some (.int (s'.1:Int),σ):=by rw [← hlc]; rfl
  have n11:nE 11 lc σ=some (.loc x.r,σ):=by rw [← hlc]; rfl
  have n12:nE 12 lc σ=some (.str (strL s'.2),σ):=by rw [← hlc]; rfl
  have n13:nE 13 lc σ=some (.int (rows.length:Int),σ):=by rw [← hlc]; rfl
  have n14:nE 14 lc σ=some (.str R0,σ):=by rw [← hlc]; rfl
  have n15:nE 15 lc σ=some (.int (roomOf x.W x.H rows),σ):=by rw [← hlc]; rfl
  have n17:nE 17 lc σ=some (.lst (strsV (O.map wT)),σ):=by rw [← hlc]; rfl
  have l11:callE (lenF accLenF) [(nE 11)] lc σ=some (.int ((rows.length + 1 + rest.length:Nat):Int),σ):=by
    have:=lenL_of (LF:=accLenF) n11 hr (by simp; (first | lia | omega))
    rw [this]; simp; (first | lia | omega)
  have cend:=ltInt_of n13 (sub_of l11 (g:=cE (.int 1)) (j:=1) rfl)
  by_cases hrest:rest=[]
  · rw [decide_eq_false (by rw [hrest]; show ¬ _ < _; simp)] at cend
    exact ws_if (wt cend fin)
  · have hrp:=List.length_pos_iff.mpr hrest
    rw [decide_eq_true (by (first | lia | omega))] at cend
    have E:=he hrest
    refine ws_if (wt cend ?_)
    have lp:callE (lenF accLenF) [nE 5] lc σ=some (.int (P.length:Int),σ):=by
      have:=lenL_of (LF:=accLenF) n5 hp (by simp; (first | lia | omega))
      rw [List.length_map] at this; exact this
    have hk:=E.k
    have c1:cmpT .Eq (nE 9) (callE (lenF accLenF) [(nE 5)]) lc σ=some (false,σ):=by rw [eqInt_of n9 lp,decide_eq_false (by (first | lia | omega))]
    refine ws_if (wt c1 ?_)
    have i59:idxE (nE 5) (nE 9) lc σ=some (.str (strL (pc P s'.1)),σ):=item_of n5 n9 hp (piece_at hk) (by simp; (first | lia | omega))
    have c2:=neStr_of n12 i59
    have l14:callE (lenF accLenF) [(nE 14)] lc σ=some (.int (R0.length:Int),σ):=len_of n14 hrl'
    by_cases hpc:s'.2=pc P s'.1
    · rw [decide_eq_false (by simpa using congrArg strL hpc)] at c2
      have hn:=E.next hpc
      rw [hrt] at hn
      have l17:callE (lenF accLenF) [(nE 17)] lc σ=some (.int (O.length:Int),σ):=by
        have:=lenW_of n17 (by simp; (first | lia | omega))
        rw [List.length_map,List.length_map] at this
        exact this
      have em:callE minF [(callE (lenF accLenF) [(nE 17)]),(cE (.int 1))] lc σ=some (.int (if O=[] then 0 else 1),σ):=by
        refine bnd (evs2 l17 (b:=.int 1) rfl) ?_
        show some (AV.int (if (1:Int) < (O.length:Int) then 1 else (O.length:Int)),σ)=_
        by_cases hO:O=[]
        · rw [hO]; rfl
        · have:=List.length_pos_iff.mpr hO
          rw [if_neg hO]
          split
          · rfl
          · rw [show (O.length:Int)=1 by (first | lia | omega)]
      have c3:=leInt_of (add_of (add_of l14 em) (g:=cE (.int 3)) (j:=3) rfl) n15
      rw [decide_eq_false (by (first | lia | omega))] at c3
      exact ws_if (wt c2 (ws_if (wt c3 fin)))
    · have hne:strL s'.2≠strL (pc P s'.1):=fun e=>hpc (congrArg (fun z:Str=>z.cps.toList) e)
      rw [decide_eq_true hne] at c2
      have hf:=E.full hpc
      rw [hrt] at hf
      have c3:=neInt_of l14 n15
      rw [decide_eq_false (by simpa using hf)] at c3
      exact ws_if (wt c2 (ws_if (wt c3 fin)))
end
section
variable {P:List (List Nat)} {x:Fx} {σ:St} {s:Nat × List Nat} {rows:List Str}
theorem pc_small (hPl:∀ y∈P,y.length≤100) (k:Nat):(pc P k).length≤100:=by
  have R:=RowRd.small (P:=P) (s:=(k,pc P k)) .nil hPl
  unfold pc
  by_cases h:k < P.length
  · simp only [List.getD,List.getElem?_eq_getElem h,Option.getD_some]; exact hPl _ (List.getElem_mem h)
  · simp only [List.getD,List.getElem?_eq_none (Nat.le_of_not_lt h)]; exact Nat.zero_le _
theorem Log.small (L:Log P x.A x.W x.H rows s) (hPl:∀ y∈P,y.length≤100):s.2.length≤100:=by
  induction L with
  | nil=>exact pc_small hPl 0
  | snoc h rd ok en ih=>exact rd.small hPl ih
theorem Log.row_len {A:Str} {W H:Nat} (L:Log P A W H rows s):∀ r∈rows,r.length≤W:=by
  induction L with
  | nil=>exact fun uu h=>nomatch h
  | @snoc rows s s' O h rd ok en ih =>
    intro r hr
    rcases List.mem_append.mp hr with hr | hr
    · exact ih r hr
    · rw [List.mem_singleton.mp hr]
      by_cases hO:O=[]
      · have hrw:rows=[]:=Classical.byContradiction fun h=>ok.ne h hO
        rw [hO,hrw]; exact Nat.zero_le _
      · have:=ok.len hO
        unfold roomOf at this
        split at this <;> (first | lia | omega)
theorem rows_loop (hp:σ[x.p]?=some (.list (pcsV P))) (hP:P.length≤1000) (hPl:∀ y∈P,y.length≤100) (hA:x.A.length≤10) (hW:x.W≤100) (L:Log P x.A x.W x.H rows s):∀ (rest:List Str) (N fuel:Nat) (q:Tl),rest≠[]→σ[x.r]?=some (.list (strsV (rows++rest)))→(rows++rest).length=N→N≤8000→rows.length < fuel →
    ∃ q':Tl,loopS (nxR 0 (N:Int) 1) (fun lc y=>putL lc 13 y) lawFTurn4 (seqS []) fuel 0 (LcQ x 0 (strL (pc P 0)) q) σ=loopS (nxR 0 (N:Int) 1) (fun lc y=>putL lc 13 y) lawFTurn4 (seqS []) (fuel - rows.length) rows.length (LcQ x s.1 (strL s.2) q') σ:=by
  induction L with
  | nil=>exact fun rest N fuel q uu uu uu uu uu=>⟨q,rfl⟩
  | @snoc rows s s' O h rd ok en ih =>
    intro rest N fuel q hrest hr hN hN2 hf
    rw [List.length_append,List.length_singleton] at hf ⊢
    rw [List.append_assoc] at hr hN
    obtain ⟨q',e⟩:=ih (rowT x.A rows O :: rest) N fuel q (by simp) hr hN hN2 (by (first | lia | omega))
    have hlt:rows.length < N:=by rw [← hN]; simp
    obtain ⟨fl,lc,σ',e4,rfl,rfl,q2,rfl⟩:=turn4 (rest:=rest) (row:=q'.row) (room:=q'.room) (body:=q'.body) (words:=q'.words) (m:=q'.m) (a:=q'.marks) (b:=q'.inner) hp hP hPl (h.small hPl) hr (by simp at hN; (first | lia | omega)) hA hW rd ok (fun uu=>en)
    refine ⟨q2,e.trans ?_⟩
    obtain ⟨fu,hfu⟩:∃ fu,fuel - rows.length=fu + 1:=⟨fuel - rows.length - 1,by (first | lia | omega)⟩
    rw [show fuel - (rows.length + 1)=fu by (first | lia | omega),hfu]
    exact loop_at (nxR_up hlt) rfl e4
set_option tactic.hygienic true
theorem reader {O:List Wd} {N:Nat} {ak:Option AV} (hp:σ[x.p]?=some (.list (pcsV P))) (hP:P.length≤1000) (hP0:P≠[]) (hPl:∀ y∈P,y.length≤100) (hA:x.A.length≤10) (hW:x.W≤100) (L:Log P x.A x.W x.H rows s) (rd:RowRd P s O (P.length,pc P P.length)) (ok:RowOk x.A x.W x.H rows O)
    (hr:σ[x.r]?=some (.list (strsV (rows++[rowT x.A rows O])))) (hN:rows.length≤5000) (ht:x.told=Txt.join "\n" (rows++[rowT x.A rows O])) :
    WS (seqS [asgS 9 (cE (.int 0)),
 asgS 12 (idxE (nE 5) (cE (.int 0))),
 forRS 13 [(callE (lenF accLenF) [(nE 11)])] lawFTurn4 (seqS []),
 retS (andE (tE (cmpT .Eq (nE 9) (callE (lenF accLenF) [(nE 5)]))) (tE (cmpT .Eq (nE 10) (mE 1 joinF (cE (.str "\n")) [(nE 11)]))))])
      [x.a0,x.a1,some (.str x.A),some (.int x.W),some (.int x.H),some (.loc x.p),x.a6,x.a7,x.a8,ak,some (.str x.told),some (.loc x.r),none,none,none,none,none,none,none,none,none] σ fun fl uu uu=>fl=.ret (.bool true):=by
  have hPp:=List.length_pos_iff.mpr hP0
  refine ws_asg (we (v:=.int 0) rfl ⟨_,rfl,?_⟩)
  have e12:idxE (nE 5) (cE (.int 0)) [x.a0,x.a1,some (.str x.A),some (.int x.W),some (.int x.H),some (.loc x.p),x.a6,x.a7,x.a8,some (.int 0),some (.str x.told),some (.loc x.r),none,none,none,none,none,none,none,none,none] σ=some (.str (strL (pc P 0)),σ):=item_of (k:=0) rfl rfl hp (piece_at hPp) (by simp; (first | lia | omega))
  refine ws_asg (we e12 ⟨LcQ x 0 (strL (pc P 0)) ⟨none,none,none,none,none,none,none,none⟩,rfl,?_⟩)
  have hlen:(rows++[rowT x.A rows O]).length=rows.length + 1:=by simp
  obtain ⟨q',e⟩:=rows_loop hp hP hPl hA hW L [rowT x.A rows O] (rows.length + 1) 1000000 ⟨none,none,none,none,none,none,none,none⟩ (by simp) hr hlen (by (first | lia | omega)) (by (first | lia | omega))
  obtain ⟨fl,lc,σ',e4,rfl,rfl,q2,rfl⟩:=turn4 (row:=q'.row) (room:=q'.room) (body:=q'.body) (words:=q'.words) (m:=q'.m) (a:=q'.marks) (b:=q'.inner) hp hP hPl (L.small hPl) hr (by simp; (first | lia | omega)) hA hW rd ok (fun h=>absurd rfl h)
  obtain ⟨fu,hfu⟩:∃ fu,1000000 - rows.length=fu + 1 + 1:=⟨999998 - rows.length,by (first | lia | omega)⟩
  have e5:=loop_at (O:=seqS []) (n:=fu + 1) (lc:=LcQ x s.1 (strL s.2) q') (st:=fun lc y=>putL lc 13 y) (nxR_up (σ:=σ') (Nat.lt_succ_self rows.length)) rfl e4
  rw [hfu] at e
  have e7:afterS (nxR 0 ((rows.length + 1:Nat):Int) 1) (fun lc y=>putL lc 13 y) lawFTurn4 (seqS []) (fu + 1) (rows.length + 1) (.next,LcQ x P.length (strL (pc P P.length)) q2,σ')=some (.next,LcQ x P.length (strL (pc P P.length)) q2,σ'):=by
    show loopS _ _ _ _ _ _ _ _=_
    rw [loop_stop nxR_fin]; rfl
  have e8:=e.trans (e5.trans e7)
  have l11:callE (lenF accLenF) [(nE 11)] (LcQ x 0 (strL (pc P 0)) ⟨none,none,none,none,none,none,none,none⟩) σ'=some (.int ((rows.length + 1:Nat):Int),σ'):=by
    have:=lenL_of (LF:=accLenF) (f:=nE 11) (lc:=LcQ x 0 (strL (pc P 0)) ⟨none,none,none,none,none,none,none,none⟩) rfl hr (by simp; (first | lia | omega))
    rw [List.length_map,hlen] at this
    exact this
  refine ws_step (forR_of (evs1 l11) (a:=0) (b:=((rows.length + 1:Nat):Int)) (c:=1) rfl (okUp (by (first | lia | omega))) e8) ?_
  refine ws_ret (we (v:=.bool true) (σ':=σ') ?_ rfl)
  have lp:callE (lenF accLenF) [nE 5] (LcQ x P.length (strL (pc P P.length)) q2) σ'=some (.int (P.length:Int),σ'):=by
    have:=lenL_of (LF:=accLenF) (f:=nE 5) (lc:=LcQ x P.length (strL (pc P P.length)) q2) rfl hp (by simp; (first | lia | omega))
    rw [List.length_map] at this; exact this
  have c1:=eqInt_of (f:=nE 9) (lc:=LcQ x P.length (strL (pc P P.length)) q2) rfl lp
  rw [decide_eq_true rfl] at c1
  refine bnd (tE_of c1) (bnd (a:=true) rfl ?_)
  have hrw:=L.row_len
  have hsum:textLen (rows++[rowT x.A rows O])≤101 * 5000 + 101:=by
    have g:∀ (rs:List Str),(∀ r∈rs,r.length≤101)→textLen rs≤101 * rs.length:=by
      intro rs
      induction rs with
      | nil=>exact fun uu=>Nat.zero_le _
      | cons r rs ih =>
        intro h
        have h1:=h r (by simp)
        have h2:=ih fun q hq=>h q (List.mem_cons_of_mem _ hq)
        simp only [textLen,List.map_cons,List.sum_cons,List.length_cons] at h2 ⊢
        (first | lia | omega)
    have h1:=g (rows++[rowT x.A rows O]) (by
      intro r hr
      rcases List.mem_append.mp hr with hr | hr
      · have:=hrw r hr; (first | lia | omega)
      · rw [List.mem_singleton.mp hr]
        by_cases hO:O=[]
        · have hrw:rows=[]:=Classical.byContradiction fun h=>ok.ne h hO
          rw [hO,hrw]; exact Nat.zero_le _
        · have:=ok.len hO
          unfold roomOf at this
          split at this <;> (first | lia | omega))
    rw [hlen] at h1
    (first | lia | omega)
  have ej:mE 1 joinF (cE (.str "\n")) [(nE 11)] (LcQ x P.length (strL (pc P P.length)) q2) σ'=some (.str (Txt.join "\n" (rows++[rowT x.A rows O])),σ') :=
    mS (x := "\n") (xs:=[.loc x.r]) rfl rfl (join_of hr (by rw [hlen]; show _ + _ * 1≤_; (first | lia | omega)))
  have c2:=eqStr_of (f:=nE 10) (x:=x.told) (lc:=LcQ x P.length (strL (pc P P.length)) q2) rfl ej
  rw [decide_eq_true ht] at c2
  exact tE_of c2
end
noncomputable abbrev LcA (a0 a1 a6:Option AV) (A:Str) (W H p c0 c1 m:Nat) (ak a10 a11:Option AV):Lc :=
  [a0,a1,some (.str A),some (.int W),some (.int H),some (.loc p),a6,some (.lst [.loc c0,.loc c1]),some (.loc m),ak,a10,a11,none,none,none,none,none,none,none,none,none]
structure TI (P:List (List Nat)) (A:Str) (W H:Nat) (m ln ac p c0 c1:Nat) (k:Nat) (σ:St):Prop where
  ex:∃ rows ini ps,FmtAt σ m ln ac W A A.length " ;" rows ini ps∧Inv P A W H k rows ini ps∧rows.length≤63 * k∧ps.length≤2 * k
  K0:∃ lf ic,Ch σ c0 lf ic (91,93)
  K1:∃ lf ic,Ch σ c1 lf ic (40,41)
  hp:σ[p]?=some (.list (pcsV P))
  dis:p≠ln
section
variable {P:List (List Nat)} {A:Str} {W H fr m ln ac p c0 c1 k:Nat} {σ:St} {a0 a1 a6:Option AV}
theorem fed_len {mk:Nat × Nat} {cw:Str} {rows:List Str} {ini:Int} {pf:List (Str × Str)} {rest:List (List Nat)}:(fedOf mk cw rows ini pf rest).1.length≤rows.length + rest.length∧(fedOf mk cw rows ini pf rest).2.2.length≤pf.length + 1:=by
  unfold fedOf
  rcases List.eq_nil_or_concat rest with rfl | ⟨mids,z,rfl⟩
  · exact ⟨Nat.le_refl _,Nat.le_succ _⟩
  · rw [List.concat_eq_append,List.getLast?_concat,List.dropLast_concat]
    have:=nlRows_len rows ini pf
    simp
    (first | lia | omega)
theorem ch_dis {mk:Nat × Nat} {lf ic:Nat} {ml cwl:Int} {cw sp:Str} {rows:List Str} {ini:Int} {ps:List (Str × Str)} (F:FmtAt σ m ln ac ml cw cwl sp rows ini ps) (K:Ch σ c0 lf ic mk):c0∉[ln,ac]∧lf∉[ln,ac]∧ic∉[ln,ac]:=by
  have g:∀ {j:Nat} {q:Nat} {cs:List AV},σ[j]?=some (.ext q cs)→j∉[ln,ac]:=fun e h=>by
    rcases List.mem_cons.mp h with rfl | h
    · rw [F.li] at e; cases e
    · rw [List.mem_singleton.mp h,F.acc] at e; cases e
  (refine x2_1 (K.atts) fun l1 l2 e=>?_)
  exact ⟨g e,g K.lam,g K.cell⟩
theorem p_dis {ml cwl:Int} {cw sp:Str} {rows:List Str} {ini:Int} {ps:List (Str × Str)} (F:FmtAt σ m ln ac ml cw cwl sp rows ini ps) (hp:σ[p]?=some (.list (pcsV P))) (h:p≠ln):p∉[ln,ac]:=fun q=>by
  rcases List.mem_cons.mp q with q | q
  · exact h q
  · rw [List.mem_singleton.mp q,F.acc] at hp; cases hp
theorem Inv.sm {rows:List Str} {ini:Int} {ps qs:List (Str × Str)} (I:Inv P A W H k rows ini ps) (hk:k≤70) (hr:rows.length≤63 * k) (hq:ps.length≤2 * k) (hW:W≤20) (hH:H≤16) (e:qs=ps∨qs=ps++[((" " : Str),("" : Str))]):Sm W rows ini qs:=by
  obtain ⟨⟨s,O,L,rd,et,hO,hk0⟩,hini,hfit⟩:=I
  have hps:partsLen ps≤20∧0≤ini∧ini≤16:=by
    have hi:0≤ini∧ini≤16:=by rw [hini]; split <;> (first | lia | omega)
    refine ⟨?_,hi⟩
    by_cases h:k=0
    · rw [(hO (hk0 h)).2.1]; decide
    · have:=hfit h; (first | lia | omega)
  have hsum:∀ (rs:List Str),(∀ r∈rs,r.length≤20)→(rs.map (·.length)).sum≤20 * rs.length:=by
    intro rs
    induction rs with
    | nil=>exact fun uu=>Nat.zero_le _
    | cons r rs ih =>
      intro h
      have h1:=h r (by simp)
      have h2:=ih fun q hq=>h q (List.mem_cons_of_mem _ hq)
      simp only [List.map_cons,List.sum_cons,List.length_cons] at h2 ⊢
      (first | lia | omega)
  have h1:=hsum rows fun r hr=>Nat.le_trans (L.row_len r hr) hW
  have hq2:qs.length≤ps.length + 1∧partsLen qs≤partsLen ps + 1:=by
    rcases e with rfl | rfl
    · exact ⟨Nat.le_succ _,by (first | lia | omega)⟩
    · rw [partsLen_append,List.length_append]; exact ⟨Nat.le_refl _,Int.le_refl _⟩
  exact ⟨by (first | lia | omega),by (first | lia | omega),by (first | lia | omega),by (first | lia | omega),hps.2.1,by (first | lia | omega)⟩
set_option tactic.hygienic true
theorem turn2 (T:TI P A W H m ln ac p c0 c1 k σ) (hWA:W=A.length + fr + 2) (h0:0 < fr) (hk:k < P.length) (hP:P.length≤70) (hPl:∀ y∈P,y.length≤62∧y≠[]∧32∉y) (hA:A.length≤10) (hW:W≤20) (hH:H≤16) :
    WS lawFTurn2 (LcA a0 a1 a6 A W H p c0 c1 m (some (.int (k:Int))) none none) σ fun fl lc σ'=>fl=.next∧lc=LcA a0 a1 a6 A W H p c0 c1 m (some (.int (k:Int))) none none∧TI P A W H m ln ac p c0 c1 (k + 1) σ':=by
  obtain ⟨⟨rows,ini,ps,F,I,hr,hq⟩,K0,K1,hp,dis⟩:=T
  have hS1:=I.sm (qs:=ps) (by (first | lia | omega)) hr hq hW hH (.inl rfl)
  have hpck:=hPl (pc P k) (by unfold pc; simp only [List.getD,List.getElem?_eq_getElem hk,Option.getD_some]; exact List.getElem_mem hk)
  have hxs:pc P k=pc P k:=rfl
  generalize hx:pc P k=xs at hpck
  -- the transition
  obtain ⟨σ1,e1,F1,S1⟩:∃ σ1,ifS (cmpT .Gt (nE 9) (cE (.int 0))) (seqS [exprS (mE 3 transF (nE 8) [])]) (seqS []) (LcA a0 a1 a6 A W H p c0 c1 m (some (.int (k:Int))) none none) σ=some (.next,LcA a0 a1 a6 A W H p c0 c1 m (some (.int (k:Int))) none none,σ1)∧FmtAt σ1 m ln ac W A A.length " ;" rows ini (psT k ps)∧Same [ln,ac] σ σ1:=by
    have g:cmpT .Gt (nE 9) (cE (.int 0)) (LcA a0 a1 a6 A W H p c0 c1 m (some (.int (k:Int))) none none) σ=some (decide ((0:Int) < (k:Int)),σ):=gt_of rfl rfl
    unfold psT
    by_cases hz:k=0
    · rw [decide_eq_false (by (first | lia | omega))] at g
      rw [if_pos hz]
      exact ⟨σ,(if_f g).trans rfl,F,.refl⟩
    · rw [decide_eq_true (by (first | lia | omega))] at g
      rw [if_neg hz]
      (refine x1_4 (trans_spec F hS1.fits) fun σ1 e F1 S1 uu=>?_)
      refine ⟨σ1,(if_t g).trans ((seq_next (expr_of (v:=.none) (bnd (a:=(AV.loc m,σ)) rfl ((if_pos ?_).trans (bnd (a:=([],σ)) rfl e))))).trans rfl),F1,S1⟩
      show (σ[m]?.map kindO).getD 0=3
      rw [F.fm]; rfl
  have hS2:=I.sm (qs:=psT k ps) (by (first | lia | omega)) hr hq hW hH (by unfold psT; split; exact .inl rfl; exact .inr rfl)
  (refine x2_1 (K0) fun lf0 ic0 K0=>?_)
  (refine x2_1 (K1) fun lf1 ic1 K1=>?_)
  have d0:=ch_dis F K0
  have d1:=ch_dis F K1
  have dp:=p_dis F hp dis
  have K0':=K0.keep S1 d0.1 d0.2.1 d0.2.2
  have K1':=K1.keep S1 d1.1 d1.2.1 d1.2.2
  have hp1:=S1.get dp hp
  obtain ⟨c,lf,ic,hc,K⟩:∃ c lf ic,[AV.loc c0,AV.loc c1][k % 2]?=some (AV.loc c)∧Ch σ1 c lf ic (mkO k):=by
    unfold mkO
    rcases Nat.mod_two_eq_zero_or_one k with h | h
    · rw [h]; exact ⟨c0,lf0,ic0,rfl,K0'⟩
    · rw [h]; exact ⟨c1,lf1,ic1,rfl,K1'⟩
  have hfr:(W:Int) - (A.length:Int)=(fr:Int) + 2:=by (first | lia | omega)
  obtain ⟨σ2,e2,F2,S2⟩:=feed_spec (mk:=mkO k) (xs:=xs) F1 hS2 K hfr h0 (by (first | lia | omega)) hpck.2.1 (by (first | lia | omega)) (by decide)
  have I2:=I.feed (near:=W - (ini + partsLen (psT k ps))) hWA h0 hk hx hpck.2.1 hpck.2.2 rfl rfl
  have hln:=fed_len (mk:=mkO k) (cw:=A) (rows:=rows) (ini:=ini) (pf:=firstP (mkO k) (psT k ps) (W - (ini + partsLen (psT k ps))) xs) (rest:=slices fr xs.length (xs.drop ((W - (ini + partsLen (psT k ps))) - 2).toNat))
  have hsl:=slices_n h0 (n:=xs.length) (xs:=xs.drop (((W:Int) - (ini + partsLen (psT k ps))) - 2).toNat)
  have hfp:(firstP (mkO k) (psT k ps) (W - (ini + partsLen (psT k ps))) xs).length≤2 * (k + 1):=by
    have h1:(psT k ps).length≤2 * k + 1:=by
      unfold psT
      split
      · (first | lia | omega)
      · rw [List.length_append]; show _ + 1≤_; (first | lia | omega)
    unfold firstP
    split
    · (first | lia | omega)
    · rw [List.length_append]; show _ + 1≤_; (first | lia | omega)
  unfold lawFTurn2
  refine ws_step e1 ?_
  have e3:mE 3 feedF (nE 8) [(cE (.str "")),(idxE (nE 5) (nE 9)),(idxE (nE 7) (binE .Mod (nE 9) (cE (.int 2))))] (LcA a0 a1 a6 A W H p c0 c1 m (some (.int (k:Int))) none none) σ1=some (.none,σ2):=by
    have i5:idxE (nE 5) (nE 9) (LcA a0 a1 a6 A W H p c0 c1 m (some (.int (k:Int))) none none) σ1=some (.str (strL xs),σ1):=item_of rfl rfl hp1 (hx▸piece_at hk) (by simp; (first | lia | omega))
    have i7:idxE (nE 7) (binE .Mod (nE 9) (cE (.int 2))) (LcA a0 a1 a6 A W H p c0 c1 m (some (.int (k:Int))) none none) σ1=some (.loc c,σ1):=idx_lst (xs:=[AV.loc c0,AV.loc c1]) rfl (bin_of (a:=.int (k:Int)) (b:=.int 2) rfl rfl rfl) (fmod_nat k 2) hc (by show 2≤_; decide)
    refine bnd (a:=(.loc m,σ1)) rfl ((if_pos ?_).trans (bnd (evs_cons (a:=.str "") rfl (evs2 i5 i7)) e2))
    show (σ1[m]?.map kindO).getD 0=3
    rw [F1.fm]; rfl
  refine ws_step (expr_of e3) (ws_nil ⟨rfl,rfl,⟨⟨_,_,_,F2,I2,by (first | lia | omega),?_⟩,⟨_,_,K0'.keep S2 d0.1 d0.2.1 d0.2.2⟩,⟨_,_,K1'.keep S2 d1.1 d1.2.1 d1.2.2⟩,S2.get dp hp1,dis⟩⟩)
  have hcase:(fedOf (mkO k) A rows ini (firstP (mkO k) (psT k ps) (W - (ini + partsLen (psT k ps))) xs) (slices fr xs.length (xs.drop ((W - (ini + partsLen (psT k ps))) - 2).toNat))).2.2.length≤2 * (k + 1):=by
    unfold fedOf
    split
    · exact hfp
    · show 1≤_; (first | lia | omega)
  exact hcase
end
section
variable {P:List (List Nat)} {A:Str} {W H fr m ln ac p c0 c1 k:Nat} {σ:St} {a0 a1 a6:Option AV}
theorem eqLoc_nil {lc:Lc} {f:EM} {l:Nat} {xs ys:List Str} {g:EM} (h1:f lc σ=some (.loc l,σ)) (hl:σ[l]?=some (.list (strsV xs))) (h2:g lc σ=some (.lst (strsV ys),σ)):cmpT .Eq f g lc σ=some (decide (xs=ys),σ):=cmp_of h1 h2 (by
  show aeqv σ _ _=_
  rw [aeqv_pd (toPD_list hl) (toPD_strs ys),eqv_strs])
theorem pcs_strs:pcsV P=strsV (P.map strL):=by rw [pcsV,strsV,List.map_map]; rfl
set_option tactic.hygienic true
theorem tail1 {ak:Option AV} (T:TI P A W H m ln ac p c0 c1 P.length σ) (hP:P.length≤70) (hPl:∀ y∈P,y.length≤62∧y≠[]∧32∉y) (hA:A.length≤10) (hW:W≤20) (hH:H≤16) :
    WS (seqS [exprS (mE 3 transF (nE 8) []),
 asgS 10 (mE 3 uStrF (nE 8) [(cE (.str "\n"))]),
 asgS 11 (attrE 4 (nE 8)),
 ifS (cmpT .Eq (nE 5) (lstE [])) (seqS [retS (andE (tE (cmpT .Eq (nE 11) (iteE (cmpT .Gt (nE 4) (cE (.int 0))) (lstE [(cE (.str ""))]) (lstE [])))) (tE (cmpT .Eq (nE 10) (cE (.str "")))))]) (seqS []),
 asgS 9 (cE (.int 0)),
 asgS 12 (idxE (nE 5) (cE (.int 0))),
 forRS 13 [(callE (lenF accLenF) [(nE 11)])] lawFTurn4 (seqS []),
 retS (andE (tE (cmpT .Eq (nE 9) (callE (lenF accLenF) [(nE 5)]))) (tE (cmpT .Eq (nE 10) (mE 1 joinF (cE (.str "\n")) [(nE 11)]))))])
      (LcA a0 a1 a6 A W H p c0 c1 m ak none none) σ fun fl uu uu=>fl=.ret (.bool true):=by
  obtain ⟨⟨rows,ini,ps,F,I,hr,hq⟩,_,_,hp,dis⟩:=T
  have hS1:=I.sm (qs:=ps) (by (first | lia | omega)) hr hq hW hH (.inl rfl)
  have hS2:=I.sm (qs:=ps++[((" " : Str),("" : Str))]) (by (first | lia | omega)) hr hq hW hH (.inr rfl)
  have dp:=p_dis F hp dis
  (refine x1_4 (trans_spec F hS1.fits) fun σ1 e1 F1 S1 uu=>?_)
  obtain ⟨σ2,e2,F2,S2,_⟩:=uStr_spec (sep := "\n") F1 hS2.fits (by decide)
  have hp2:=S2.get dp (S1.get dp hp)
  refine ws_step (expr_of (v:=.none) (bnd (a:=(AV.loc m,σ)) rfl ((if_pos ?_).trans (bnd (a:=([],σ)) rfl e1)))) ?_
  · show (σ[m]?.map kindO).getD 0=3
    rw [F.fm]; rfl
  have e3:mE 3 uStrF (nE 8) [(cE (.str "\n"))] (LcA a0 a1 a6 A W H p c0 c1 m ak none none) σ1=some (.str (Txt.join "\n" (nlRows rows ini (ps++[((" " : Str),("" : Str))]))),σ2):=by
    refine bnd (a:=(AV.loc m,σ1)) rfl ((if_pos ?_).trans (bnd (a:=([AV.str "\n"],σ1)) rfl e2))
    show (σ1[m]?.map kindO).getD 0=3
    rw [F1.fm]; rfl
  generalize hrs:nlRows rows ini (ps++[((" " : Str),("" : Str))])=rs at e3 F2
  refine ws_asg (we e3 ⟨LcA a0 a1 a6 A W H p c0 c1 m ak (some (.str (Txt.join "\n" rs))) none,rfl,?_⟩)
  refine ws_asg (we (attrLines rfl F2) ⟨LcA a0 a1 a6 A W H p c0 c1 m ak (some (.str (Txt.join "\n" rs))) (some (.loc ln)),rfl,?_⟩)
  have c5:cmpT .Eq (nE 5) (lstE []) (LcA a0 a1 a6 A W H p c0 c1 m ak (some (.str (Txt.join "\n" rs))) (some (.loc ln))) σ2=some (decide (P.map strL=[]),σ2) :=
    eqLoc_nil (l:=p) (xs:=P.map strL) (ys:=[]) rfl (by rw [hp2,pcs_strs]) (lstE_of rfl (by show 0≤_; (first | lia | omega)))
  obtain ⟨⟨s,O,L,rd,et,hO,hk0⟩,hini,hfit⟩:=I
  have hi0:=hS1.i0
  by_cases hP0:P=[]
  · rw [decide_eq_true (by rw [hP0]; rfl)] at c5
    refine ws_if (wt c5 (ws_ret (we (v:=.bool true) (σ':=σ2) ?_ rfl)))
    obtain ⟨_,hps,hrw⟩:=hO (hk0 (by rw [hP0]; rfl))
    rw [hrw,if_pos rfl] at hini
    have hrs2:rs=if 0 < H then [("" : Str)] else []:=by
      rw [← hrs,hps,hrw,hini]
      by_cases h:0 < H
      · rw [if_pos h,nl_app (by (first | lia | omega)) (.inl (by (first | lia | omega))),last_trans]; rfl
      · rw [if_neg h,show H=0 by (first | lia | omega)]
        unfold nlRows
        rw [last_trans,if_neg (by show ¬ _ < ((0:Nat):Int) + 0; (first | lia | omega))]
    have g:cmpT .Gt (nE 4) (cE (.int 0)) (LcA a0 a1 a6 A W H p c0 c1 m ak (some (.str (Txt.join "\n" rs))) (some (.loc ln))) σ2=some (decide ((0:Int) < (H:Int)),σ2):=gt_of rfl rfl
    have ei:iteE (cmpT .Gt (nE 4) (cE (.int 0))) (lstE [(cE (.str ""))]) (lstE []) (LcA a0 a1 a6 A W H p c0 c1 m ak (some (.str (Txt.join "\n" rs))) (some (.loc ln))) σ2=some (.lst (strsV rs),σ2):=by
      refine ite_of g (fun h=>?_) (fun h=>?_)
      · rw [hrs2,if_pos (by have:=of_decide_eq_true h; (first | lia | omega))]
        exact lstE_of (xs:=[.str ""]) rfl (by show 1≤_; (first | lia | omega))
      · rw [hrs2,if_neg (by have:=of_decide_eq_false h; (first | lia | omega))]
        exact lstE_of (xs:=[]) rfl (by show 0≤_; (first | lia | omega))
    have q1:=eqLoc_nil (f:=nE 11) (lc:=LcA a0 a1 a6 A W H p c0 c1 m ak (some (.str (Txt.join "\n" rs))) (some (.loc ln))) rfl F2.li ei
    rw [decide_eq_true rfl] at q1
    refine bnd (tE_of q1) (bnd (a:=true) rfl ?_)
    have c2:=eqStr_of (f:=nE 10) (g:=cE (.str "")) (lc:=LcA a0 a1 a6 A W H p c0 c1 m ak (some (.str (Txt.join "\n" rs))) (some (.loc ln))) (σ:=σ2) (x:=Txt.join "\n" rs) (y := "") rfl rfl
    rw [decide_eq_true (by rw [hrs2]; split <;> rfl)] at c2
    exact tE_of c2
  · rw [decide_eq_false (by simpa using hP0)] at c5
    refine ws_if (wt c5 ?_)
    have hPp:=List.length_pos_iff.mpr hP0
    have hOn:O≠[]:=fun e=>by have:=(hO e).1; (first | lia | omega)
    have hrs2:rs=rows++[rowT A rows O]:=by
      rw [← hrs,nl_app hi0 (.inr (by rw [last_trans,et]; exact row_sign hOn)),last_trans,et]
    have hok:RowOk A W H rows O:=⟨fun uu=>by
      have:=hfit (by (first | lia | omega))
      rw [← accText_len,et,hini] at this
      unfold roomOf
      split at this
      · rename_i h; rw [if_pos h]; (first | lia | omega)
      · rename_i h; rw [if_neg h]; (first | lia | omega),fun uu=>hOn⟩
    have:=reader (x:=⟨a0,a1,a6,some (.lst [.loc c0,.loc c1]),some (.loc m),A,Txt.join "\n" rs,W,H,p,ln⟩) (ak:=ak) (N:=0) hp2 (by (first | lia | omega)) hP0 (fun y hy=>by have:=(hPl y hy).1; (first | lia | omega)) hA (by show W≤100; (first | lia | omega)) L rd hok (hrs2▸F2.li) (by (first | lia | omega)) (by rw [← hrs2])
    exact this
set_option tactic.hygienic false
theorem loop2 (T:TI P A W H m ln ac p c0 c1 0 σ) (hWA:W=A.length + fr + 2) (h0:0 < fr) (hP:P.length≤70) (hPl:∀ y∈P,y.length≤62∧y≠[]∧32∉y) (hA:A.length≤10) (hW:W≤20) (hH:H≤16) :
    WS (seqS [forRS 9 [(callE (lenF accLenF) [(nE 5)])] lawFTurn2 (seqS []),
 exprS (mE 3 transF (nE 8) []),
 asgS 10 (mE 3 uStrF (nE 8) [(cE (.str "\n"))]),
 asgS 11 (attrE 4 (nE 8)),
 ifS (cmpT .Eq (nE 5) (lstE [])) (seqS [retS (andE (tE (cmpT .Eq (nE 11) (iteE (cmpT .Gt (nE 4) (cE (.int 0))) (lstE [(cE (.str ""))]) (lstE [])))) (tE (cmpT .Eq (nE 10) (cE (.str "")))))]) (seqS []),
 asgS 9 (cE (.int 0)),
 asgS 12 (idxE (nE 5) (cE (.int 0))),
 forRS 13 [(callE (lenF accLenF) [(nE 11)])] lawFTurn4 (seqS []),
 retS (andE (tE (cmpT .Eq (nE 9) (callE (lenF accLenF) [(nE 5)]))) (tE (cmpT .Eq (nE 10) (mE 1 joinF (cE (.str "\n")) [(nE 11)]))))])
      (LcA a0 a1 a6 A W H p c0 c1 m none none none) σ fun fl uu uu=>fl=.ret (.bool true):=by
  let J:Nat→Lc→St→Prop:=fun k lc τ=>(∃ ak,lc=LcA a0 a1 a6 A W H p c0 c1 m ak none none)∧TI P A W H m ln ac p c0 c1 k τ
  have l5:callE (lenF accLenF) [nE 5] (LcA a0 a1 a6 A W H p c0 c1 m none none none) σ=some (.int (P.length:Int),σ):=by
    have:=lenL_of (LF:=accLenF) (f:=nE 5) (lc:=LcA a0 a1 a6 A W H p c0 c1 m none none none) rfl T.hp (by simp; (first | lia | omega))
    rw [List.length_map] at this; exact this
  refine ws_forR J (evs1 l5) (a:=0) (b:=(P.length:Int)) (c:=1) rfl (okUp (by (first | lia | omega))) (rangeUp _) (by (first | lia | omega)) ⟨⟨none,rfl⟩,T⟩ ?_ ?_
  · intro i lc τ hi hJ
    obtain ⟨⟨ak,rfl⟩,T⟩:=hJ
    refine ⟨LcA a0 a1 a6 A W H p c0 c1 m (some (.int (i:Int))) none none,by rw [show (0:Int) + 1 * (i:Int)=i by (first | lia | omega)]; rfl,?_⟩
    exact (turn2 T hWA h0 hi hP hPl hA hW hH).imp fun fl lc' σ' q=>⟨.inl q.1,⟨_,q.2.1⟩,q.2.2⟩
  · intro lc τ hJ
    obtain ⟨⟨ak,rfl⟩,T⟩:=hJ
    exact tail1 T hP hPl hA hW hH
end
noncomputable abbrev n14:Lc:=[none,none,none,none,none,none,none,none,none,none,none,none,none,none]
noncomputable abbrev LcP (sc fi A W H p x:AV):Lc:=some sc :: some fi :: some A :: some W :: some H :: some p :: some x :: n14
structure Lets (qs:List (List Nat)) (i:Nat):Prop where
  ne:qs≠[]
  c:∀ y∈qs,32∉y
  n:qs.length≤i + 1
  l:(qs.map List.length).sum≤i
theorem Lets.nil {qs:List (List Nat)} {i:Nat} (h:Lets qs i):Lets (qs++[[]]) (i + 1) :=
  ⟨by simp,fun y hy=>(List.mem_append.mp hy).elim (h.c y) fun q=>by rw [List.mem_singleton.mp q]; exact List.not_mem_nil,by have:=h.n; simp; (first | lia | omega),by have:=h.l; simp; (first | lia | omega)⟩
theorem Lets.snoc {qs:List (List Nat)} {z:List Nat} {i c:Nat} (h:Lets (qs++[z]) i) (hc:c≠32):Lets (qs++[z++[c]]) (i + 1) :=
  ⟨by simp,fun y hy=>(List.mem_append.mp hy).elim (fun q=>h.c y (List.mem_append_left _ q)) fun q=>by
    rw [List.mem_singleton.mp q]
    intro k
    rcases List.mem_append.mp k with k | k
    · exact h.c z (by simp) k
    · exact hc (List.mem_singleton.mp k).symm,by have:=h.n; simp at this ⊢; (first | lia | omega),by have:=h.l; simp at this ⊢; (first | lia | omega)⟩
section
variable {sc fi A W H:AV} {σ:St} {qs:List (List Nat)}
set_option tactic.hygienic true
theorem turn1 {x:Int} {i:Nat} (h:Lets qs i) (hi:i≤100):WS lawFTurn1 (LcP sc fi A W H (.loc 0) (.int x)) [.list (pcsV qs)] fun fl lc τ=>fl=.next∧lc=LcP sc fi A W H (.loc 0) (.int x)∧∃ qs',τ=[.list (pcsV qs')]∧Lets qs' (i + 1):=by
  obtain ⟨k,hk,hlt⟩:=mod_cases x (n:=5) (by decide)
  have hk:x.fmod 5=(k:Int):=hk
  have em:∀ {τ:St},binE .Mod (nE 6) (cE (.int 5)) (LcP sc fi A W H (.loc 0) (.int x)) τ=some (.int (k:Int),τ):=fun {τ}=>hk▸bin_of (a:=.int x) (b:=.int 5) rfl rfl rfl
  have c0:cmpT .Eq (binE .Mod (nE 6) (cE (.int 5))) (cE (.int 0)) (LcP sc fi A W H (.loc 0) (.int x)) [.list (pcsV qs)]=some (decide ((k:Int)=0),[.list (pcsV qs)]):=eqInt_of em rfl
  have hn:=h.n
  unfold lawFTurn1
  by_cases hz:k=0
  · rw [decide_eq_true (by (first | lia | omega))] at c0
    refine ws_if (wt c0 (ws_expr (we (v:=.none) (σ':=[.list (pcsV (qs++[[]]))]) ?_ (ws_nil ⟨rfl,rfl,_,rfl,h.nil⟩))))
    have:=app_of (f:=nE 5) (g:=cE (.str "")) (lc:=LcP sc fi A W H (.loc 0) (.int x)) (σ:=[.list (pcsV qs)]) (l:=0) rfl rfl rfl rfl (by simp; (first | lia | omega))
    rw [this]
    show some (AV.none,[AO.list (pcsV qs++[AV.str ""])])=_
    rw [pcsV,pcsV,List.map_append]
    rfl
  · rw [decide_eq_false (by (first | lia | omega))] at c0
    obtain ⟨zs,z,rfl⟩:∃ zs z,qs=zs++[z]:=by
      rcases List.eq_nil_or_concat qs with e | ⟨zs,z,e⟩
      · exact absurd e h.ne
      · exact ⟨zs,z,by rw [e,List.concat_eq_append]⟩
    have hl:=h.l
    have hlz:z.length≤i:=by simp at hl; (first | lia | omega)
    obtain ⟨c,hc,hc32⟩:∃ c,(strL [97,98,99,100]).cps.toList[k - 1]?=some c∧c≠32:=by
      match k,hz,hlt with
      | 0,h,_=>exact absurd rfl h
      | 1,_,_=>exact ⟨97,rfl,by decide⟩
      | 2,_,_=>exact ⟨98,rfl,by decide⟩
      | 3,_,_=>exact ⟨99,rfl,by decide⟩
      | 4,_,_=>exact ⟨100,rfl,by decide⟩
      | n + 5,_,h=>(first | lia | omega)
    have e1:idxE (cE (.str "abcd")) (binE .Sub (binE .Mod (nE 6) (cE (.int 5))) (cE (.int 1))) (LcP sc fi A W H (.loc 0) (.int x)) [.list (pcsV (zs++[z]))]=some (.str ⟨#[c]⟩,[.list (pcsV (zs++[z]))]):=by
      have es:binE .Sub (binE .Mod (nE 6) (cE (.int 5))) (cE (.int 1)) (LcP sc fi A W H (.loc 0) (.int x)) [.list (pcsV (zs++[z]))]=some (.int ((k - 1:Nat):Int),[.list (pcsV (zs++[z]))]):=by
        rw [sub_of em (g:=cE (.int 1)) (j:=1) rfl,show ((k - 1:Nat):Int)=(k:Int) - 1 by (first | lia | omega)]
      exact sign_of (x := "abcd") (k:=k - 1) rfl es hc (by decide)
    have htl:textLen ((zs++[z]).map strL)≤1000:=by
      have:textLen ((zs++[z]).map strL)=((zs++[z]).map List.length).sum:=by
        unfold textLen
        rw [List.map_map]
        exact congrArg List.sum (List.map_congr_left fun y uu=>strL_len)
      (first | lia | omega)
    have e2:=glue_list (g:=nE 5) (lc:=LcP sc fi A W H (.loc 0) (.int x)) (σ:=[.list (pcsV (zs++[z]))]) (l:=0) (rows:=(zs++[z]).map strL) rfl (by rw [pcs_strs]; rfl) e1 (by simp) (by simp at hn ⊢; (first | lia | omega)) (by show _ + 1≤_; (first | lia | omega))
    refine ws_if (wt c0 (ws_step e2 (ws_nil ⟨rfl,rfl,zs++[z++[c]],?_,h.snoc hc32⟩)))
    show [AO.list _]=_
    rw [show (zs++[z]).map strL=zs.map strL++[strL z] by simp,List.getLast?_concat,List.dropLast_concat,pcs_strs,show (zs++[z++[c]]).map strL=zs.map strL++[strL (z++[c])] by simp]
    have:strL z++(⟨#[c]⟩:Str)=strL (z++[c]):=str_ext (by rw [app_cps]; rfl)
    rw [← this]; rfl
set_option tactic.hygienic false
theorem len_le_sum {y:List Nat}:∀ {qs:List (List Nat)},y∈qs→y.length≤(qs.map List.length).sum
  | [],h=>nomatch h
  | q :: qs,h=>by
    rw [List.map_cons,List.sum_cons]
    rcases List.mem_cons.mp h with rfl | h
    · (first | lia | omega)
    · have:=len_le_sum h; (first | lia | omega)
theorem filter_getD {α β:Type} (qs:List α) (d:α) (f:α→Bool) (g:α→β):((List.range qs.length).filter fun i=>f (qs.getD i d)).map (fun i=>g (qs.getD i d))=(qs.filter f).map g:=by
  have e:(List.range qs.length).map (fun i=>qs.getD i d)=qs:=by
    apply List.ext_getElem?
    intro i
    rw [List.getElem?_map]
    by_cases h:i < qs.length
    · rw [List.getElem?_range h,List.getElem?_eq_getElem h]
      simp [h]
    · rw [List.getElem?_eq_none (by rw [List.length_range]; (first | lia | omega)),List.getElem?_eq_none (by (first | lia | omega))]
      rfl
  conv=>rhs; rw [← e,List.filter_map,List.map_map]
  rfl
theorem compP {lc:Lc} {l:Nat} (h5:nE 5 lc σ=some (.loc l,σ)) (hl:σ[l]?=some (.list (pcsV qs))) (hn:qs.length≤1000):compGE (srcL (nE 5)) 1 id (fun lc y=>putL lc 0 y) (cmpT .NotEq (nE 0) (cE (.str ""))) (nE 0) lc σ=some (.loc σ.length,σ++[.list (pcsV (qs.filter fun y=>decide (strL y ≠ "")))]):=by
  have hlt:=(List.getElem?_eq_some_iff.mp hl).1
  have ha:∀ acc,asList (σ++acc) (.loc l)=some (pcsV qs):=fun acc=>by rw [asList_loc]; exact lstAt_of (by rw [List.getElem?_append_left hlt]; exact hl)
  have h0:=ha []
  rw [List.append_nil] at h0
  have gx:∀ i,i < qs.length→(pcsV qs)[i]?=some (.str (strL (qs.getD i []))):=fun i hi=>by rw [List.getElem?_map]; simp [hi]
  have Q:PureC σ (id (nxL (.loc l))) (fun lc y=>putL lc 0 y) (cmpT .NotEq (nE 0) (cE (.str ""))) (nE 0) 1 qs.length (fun i=>.str (strL (qs.getD i []))) (fun i=>[some (.str (strL (qs.getD i [])))]) (fun i=>decide (strL (qs.getD i []) ≠ "")) (fun i=>.str (strL (qs.getD i []))):=by
    refine ⟨fun i hi acc=>?_,fun acc=>?_,fun i hi lc hlc=>?_,fun uu uu=>rfl,fun uu uu uu=>neStr_of rfl rfl,fun i hi uu acc=>rfl⟩
    · show nxL (.loc l) _ i=_
      rw [nxL_some (ha _),gx i hi]
    · show nxL (.loc l) _ _=_
      rw [nxL_some (ha _)]; simp
    · match lc,hlc with
      | [_],_=>rfl
  have e:=compGE_pure (tn:=id) (srcL_of h5 h0) Q (by (first | lia | omega))
  rw [filter_getD qs [] (fun y=>decide (strL y ≠ "")) (fun y=>AV.str (strL y))] at e
  exact e
end
noncomputable def aheads:List Str:=[" ", "\t", "  \t"]
theorem aheads_len:∀ y∈aheads,y.length≤3:=by decide +kernel
theorem slice_tail {α:Type} (xs:List α):sliceL xs (some 1) none=xs.drop 1:=slice_from xs 1
theorem plainL (L:Nat) (ns:List Int) (hz:ns.length≤63):∃ σ',runB lawFV (lawFB L) [.lst (ns.map AV.int)] (cells0 L 0)=some (.bool true,σ'):=by
  suffices h:WS (lawFB L) (lc0 lawFV [.lst (ns.map AV.int)]) (cells0 L 0) fun fl uu uu=>fl=.ret (.bool true) by
    obtain ⟨fl,lc',σ',e,rfl⟩:=h
    exact ⟨σ',by unfold runB; rw [e]; rfl⟩
  unfold lawFB
  show WS _ (some (.lst (ns.map AV.int)) :: none :: none :: none :: none :: none :: none :: n14) [] _
  have e0:sliceE (nE 0) none (some (cE (.int 63))) (some (.lst (ns.map AV.int)) :: none :: none :: none :: none :: none :: none :: n14) []=some (.lst (ns.map AV.int),[]):=by
    have:=slice_of (n:=63) (hi:=cE (.int 63)) (f:=nE 0) (lc:=some (.lst (ns.map AV.int)) :: none :: none :: none :: none :: none :: none :: n14) (σ:=[]) (xs:=ns.map AV.int) rfl rfl (by rw [List.length_map]; (first | lia | omega))
    rw [List.take_of_length_le (by rw [List.length_map]; exact hz)] at this
    exact this
  refine ws_asg (we e0 ⟨some (.lst (ns.map AV.int)) :: none :: none :: none :: none :: none :: none :: n14,rfl,?_⟩)
  obtain ⟨first,e1⟩:∃ first:Int,idxE (binE .Add (nE 0) (lstE [(cE (.int 0))])) (cE (.int 0)) (some (.lst (ns.map AV.int)) :: none :: none :: none :: none :: none :: none :: n14) []=some (.int first,[]):=by
    have e:=addL_of (f:=nE 0) (lc:=some (.lst (ns.map AV.int)) :: none :: none :: none :: none :: none :: none :: n14) (σ:=[]) (a:=.lst (ns.map AV.int)) (xs:=ns.map AV.int) rfl (lstE_of (es:=[cE (.int 0)]) (xs:=[.int 0]) rfl (by show 1≤_; decide)) rfl rfl rfl rfl (by simp; (first | lia | omega))
    cases ns with
    | nil=>exact ⟨0,idx_lst e (g:=cE (.int 0)) (k:=0) rfl rfl rfl (by show 1≤_; decide)⟩
    | cons x r=>exact ⟨x,idx_lst e (g:=cE (.int 0)) (k:=0) rfl rfl rfl (by simp at hz ⊢; (first | lia | omega))⟩
  generalize hsc:AV.lst (ns.map AV.int)=sc
  refine ws_asg (we (hsc▸e1) ⟨some sc :: some (.int first) :: none :: none :: none :: none :: none :: n14,rfl,?_⟩)
  obtain ⟨A,e2,hA⟩:∃ A:Str,idxE (lstE [(cE (.str " ")),(cE (.str "\t")),(cE (.str "  \t"))]) (binE .Mod (nE 1) (cE (.int 3))) (some sc :: some (.int first) :: none :: none :: none :: none :: none :: n14) []=some (.str A,[])∧A.length≤3:=by
    obtain ⟨k,hk,hlt⟩:=mod_cases first (n:=3) (by decide)
    have hlt:k < aheads.length:=hlt
    exact ⟨aheads[k],idx_lst (lstE_of (xs:=aheads.map AV.str) rfl (by decide)) (bin_of (a:=.int first) (b:=.int 3) rfl rfl rfl) hk (by rw [List.getElem?_map,List.getElem?_eq_getElem hlt]; rfl) (by decide),aheads_len _ (List.getElem_mem hlt)⟩
  refine ws_asg (we e2 ⟨some sc :: some (.int first) :: some (.str A) :: none :: none :: none :: none :: n14,rfl,?_⟩)
  obtain ⟨k9,hk9,hlt9⟩:=mod_cases (first.fdiv 3) (n:=9) (by decide)
  obtain ⟨k5,hk5,hlt5⟩:=mod_cases (first.fdiv 27) (n:=5) (by decide)
  have hk9:(first.fdiv 3).fmod 9=(k9:Int):=hk9
  have hk5:(first.fdiv 27).fmod 5=(k5:Int):=hk5
  have e3:binE .Add (binE .Add (callE (lenF accLenF) [(nE 2)]) (cE (.int 3))) (binE .Mod (binE .FloorDiv (nE 1) (cE (.int 3))) (cE (.int 9))) (some sc :: some (.int first) :: some (.str A) :: none :: none :: none :: none :: n14) []=some (.int ((A.length + (k9 + 1) + 2:Nat):Int),[]):=by
    have:=add_of (lc:=some sc :: some (.int first) :: some (.str A) :: none :: none :: none :: none :: n14) (σ:=[]) (add_of (f:=callE (lenF accLenF) [(nE 2)]) (g:=cE (.int 3)) (j:=3) (len_of (x:=A) rfl (by (first | lia | omega))) rfl) (bin_of (op:=.Mod) (a:=.int (first.fdiv 3)) (b:=.int 9) (bin_of (op:=.FloorDiv) (f:=nE 1) (g:=cE (.int 3)) (a:=.int first) (b:=.int 3) rfl rfl rfl) (g:=cE (.int 9)) rfl rfl)
    rw [this,hk9,show (A.length:Int) + 3 + (k9:Int)=((A.length + (k9 + 1) + 2:Nat):Int) by (first | lia | omega)]
  generalize hW:A.length + (k9 + 1) + 2=W at e3
  refine ws_asg (we e3 ⟨some sc :: some (.int first) :: some (.str A) :: some (.int W) :: none :: none :: none :: n14,rfl,?_⟩)
  have e4:binE .Mult (binE .Mod (binE .FloorDiv (nE 1) (cE (.int 27))) (cE (.int 5))) (cE (.int 4)) (some sc :: some (.int first) :: some (.str A) :: some (.int W) :: none :: none :: none :: n14) []=some (.int ((k5 * 4:Nat):Int),[]):=by
    refine bin_of (a:=.int ((first.fdiv 27).fmod 5)) (b:=.int 4) (bin_of (a:=.int (first.fdiv 27)) (b:=.int 5) (bin_of (a:=.int first) (b:=.int 27) rfl rfl rfl) rfl rfl) rfl ((amul_int.trans (gd_of (decide_eq_true (by rw [hk5]; (first | lia | omega))))).trans ?_)
    rw [hk5]; rfl
  generalize hH:k5 * 4=H at e4
  refine ws_asg (we e4 ⟨some sc :: some (.int first) :: some (.str A) :: some (.int W) :: some (.int H) :: none :: none :: n14,rfl,?_⟩)
  refine ws_asg (we (newLE_of (es:=[cE (.str "")]) (xs:=[.str ""]) rfl (by show 1≤_; decide)) ⟨some sc :: some (.int first) :: some (.str A) :: some (.int W) :: some (.int H) :: some (.loc 0) :: none :: n14,rfl,?_⟩)
  -- the pieces
  let I:Nat→Lc→St→Prop:=fun i lc τ=>(∃ x,lc=some sc :: some (.int first) :: some (.str A) :: some (.int W) :: some (.int H) :: some (.loc 0) :: x :: n14)∧∃ qs,τ=[.list (pcsV qs)]∧Lets qs i
  have es:sliceE (nE 0) (some (cE (.int 1))) none (some sc :: some (.int first) :: some (.str A) :: some (.int W) :: some (.int H) :: some (.loc 0) :: none :: n14) [.list [.str ""]]=some (.lst ((ns.drop 1).map AV.int),[.list [.str ""]]):=by
    rw [← hsc]
    refine bnd (a:=(.lst (ns.map AV.int),_)) rfl (bnd (a:=(some 1,[AO.list [.str ""]])) rfl (bnd (a:=(none,[AO.list [.str ""]])) rfl (bnd (a:=ns.map AV.int) rfl ?_)))
    rw [gd_of (decide_eq_true (by simp; (first | lia | omega))),slice_tail,List.map_drop]
  refine ws_forL I es (by simp; (first | lia | omega)) ⟨⟨none,rfl⟩,[[]],rfl,⟨by simp,fun y hy=>by rw [List.mem_singleton.mp hy]; exact List.not_mem_nil,Nat.le_refl _,Nat.le_refl _⟩⟩ ?_ ?_
  · intro i x lc τ hx hI
    obtain ⟨⟨x0,rfl⟩,qs,rfl,hq⟩:=hI
    rw [List.getElem?_map] at hx
    (refine x1_2 (Option.map_eq_some_iff.mp hx) fun n hn rr2=>?_; subst rr2)
    have hi:=(List.getElem?_eq_some_iff.mp hn).1
    rw [List.length_drop] at hi
    refine ⟨LcP sc (.int first) (.str A) (.int W) (.int H) (.loc 0) (.int n),rfl,?_⟩
    exact (turn1 hq (by (first | lia | omega))).imp fun fl lc' σ' q=>⟨.inl q.1,⟨_,q.2.1⟩,q.2.2⟩
  · intro lc τ hI
    obtain ⟨⟨x0,rfl⟩,qs,rfl,hq⟩:=hI
    rw [List.length_map,List.length_drop] at hq
    have hqn:=hq.n
    have ec:=compP (lc:=some sc :: some (.int first) :: some (.str A) :: some (.int W) :: some (.int H) :: some (.loc 0) :: x0 :: n14) (σ:=[.list (pcsV qs)]) (l:=0) rfl rfl (by (first | lia | omega))
    have hPl:∀ y∈qs.filter (fun y=>decide (strL y ≠ "")),y.length≤62∧y≠[]∧32∉y:=fun y hy=>by
      (refine x0_2 (List.mem_filter.mp hy) fun h1 h2=>?_)
      refine ⟨?_,strL_ne.mp (of_decide_eq_true h2),hq.c y h1⟩
      have:=hq.l
      have h3:y.length≤(qs.map List.length).sum:=len_le_sum h1
      (first | lia | omega)
    have hPn:(qs.filter (fun y=>decide (strL y ≠ ""))).length≤70:=Nat.le_trans (List.length_filter_le ..) (by (first | lia | omega))
    generalize qs.filter (fun y=>decide (strL y ≠ ""))=P at ec hPl hPn
    refine ws_asg (we ec ⟨some sc :: some (.int first) :: some (.str A) :: some (.int W) :: some (.int H) :: some (.loc 1) :: x0 :: n14,rfl,?_⟩)
    show WS _ _ [.list (pcsV qs),.list (pcsV P)] _
    have s1:=charset_spec [.list (pcsV qs),.list (pcsV P)] "[]"
    have s2:=charset_spec ([.list (pcsV qs),.list (pcsV P)]++chs 2 "[]") "()"
    have e7:lstE [(callE p_law_charsetF [(cE (.str "[]"))]),(callE p_law_charsetF [(cE (.str "()"))])] (some sc :: some (.int first) :: some (.str A) :: some (.int W) :: some (.int H) :: some (.loc 1) :: x0 :: n14) [.list (pcsV qs),.list (pcsV P)]=some (.lst [.loc 5,.loc 10],[.list (pcsV qs),.list (pcsV P)]++chs 2 "[]" ++ chs 7 "()") :=
      lstE_of (evs2 (bnd rfl s1) (bnd rfl s2)) (by show 2≤_; decide)
    refine ws_asg (we e7 ⟨some sc :: some (.int first) :: some (.str A) :: some (.int W) :: some (.int H) :: some (.loc 1) :: x0 :: some (.lst [.loc 5,.loc 10]) :: none :: none :: none :: none :: none :: none :: none :: none :: none :: none :: none :: none :: [none],rfl,?_⟩)
    have f2:=fmt_made1 (lc:=some sc :: some (.int first) :: some (.str A) :: some (.int W) :: some (.int H) :: some (.loc 1) :: x0 :: some (.lst [.loc 5,.loc 10]) :: none :: none :: none :: none :: none :: none :: none :: none :: none :: none :: none :: none :: [none]) (σ:=[.list (pcsV qs),.list (pcsV P)]++chs 2 "[]" ++ chs 7 "()") (es:=[(nE 4),(nE 3),(nE 2),(cE (.str " ;"))]) (hl:=H) (ml:=W) (cw:=A) (sp := " ;") rfl (by (first | lia | omega))
    refine ws_asg (we f2 ⟨LcA (some sc) (some (.int first)) x0 A W H 1 5 10 14 none none none,rfl,?_⟩)
    refine loop2 (fr:=k9 + 1) (P:=P) (ln:=12) (ac:=13) ⟨⟨[],H,[],⟨rfl,rfl,rfl⟩,⟨⟨(0,pc P 0),[],.nil,.nil,rfl,fun uu=>⟨rfl,rfl,rfl⟩,fun uu=>rfl⟩,rfl,fun h=>absurd rfl h⟩,Nat.le_refl _,Nat.le_refl _⟩,⟨6,2,⟨⟨3,4,rfl⟩,rfl,rfl⟩⟩,⟨11,7,⟨⟨8,9,rfl⟩,rfl,rfl⟩⟩,rfl,by decide⟩ hW.symm (Nat.succ_pos _) hPn hPl (by (first | lia | omega)) (by (first | lia | omega)) (by (first | lia | omega))
noncomputable abbrev tsL:List (Addr × Addr):=[(159,155),(166,162),(210,206)]
noncomputable def lamOf (q:Str) (ns:List Str):Stmt→LamS
  | .Assign _ (.Lambda ps b sc _) _=>⟨q,ps,b,sc,ns⟩
  | _=>⟨q,⟨[],[],none,[],[],none,[]⟩,.Constant .none 0 ⟨0,0,0,0⟩,default,ns⟩
noncomputable def lamL (w:World):LamS:=lamOf "_law_charset.<locals>.<lambda>" ["marks"] ((bodyAt (noTabs (hd.heap_39 w.params) (tsL.map (·.2))) 211)[2]?.getD (.Pass ⟨0,0,0,0⟩))
noncomputable def XL (w:World):Nat→Addr × Addr→List Value→Obj→Obj→Prop:=fun k=>if k=1 then LamX (lamL w) else if k=5 then CellX else FmtX w.params 109 k
noncomputable abbrev cfg0L (w:World) (s₁:Shared):Cfg:=mkCfg Challenge.rw_dm0091_01.row.prog w (hd.heap_39 w.params) s₁ 109 193 tsL (fun _ _ _=>True) (XL w)
noncomputable abbrev cfgL (w:World) (s₁:Shared):Cfg:=mkCfg Challenge.rw_dm0091_01.row.prog w (hd.heap_39 w.params) s₁ 109 193 tsL (genG (model Challenge.rw_dm0091_01.row.prog w) (bodyAt (cfg0L w s₁).K 92) (envAt (cfg0L w s₁) 92)) (XL w)
section
variable {w:World} {s₁:Shared} {mg mb:Str→Option Value}
theorem htL:∀ t∈tsL,codeTabIn (hd.heap_39 w.params) t.1 t.2=true:=by
  have a0:codeTabIn (hd.heap_39 w.params) 159 155=true:=by kernel_rfl
  have a1:codeTabIn (hd.heap_39 w.params) 166 162=true:=by kernel_rfl
  have a2:codeTabIn (hd.heap_39 w.params) 210 206=true:=by kernel_rfl
  intro t h
  simp at h
  rcases h with rfl | rfl | rfl
  · exact a0
  · exact a1
  · exact a2
theorem HL (S:Start (hd.heap_39 w.params) s₁ mg mb):CfgOk (cfgL w s₁):=start_cfg S (by decide) (by decide) (by decide)
theorem HGL (S:Start (hd.heap_39 w.params) s₁ mg mb):GenOk (cfgL w s₁):=start_gen S htL (by decide)
theorem HCL:ClsOk (cfgL w s₁) where
  vfGa:=by kernel_rfl
  vfGt:=by kernel_rfl
  vfDict:=by kernel_rfl
  vfAttr:=upTo 5 (upTo 4 (upTo 3 (upTo 2 (upTo 1 (upTo 0 upTo0 (by kernel_rfl)) (by kernel_rfl)) (by kernel_rfl)) (by kernel_rfl)) (by kernel_rfl)) (by kernel_rfl)
  acGa:=by kernel_rfl
  acGt:=by kernel_rfl
  acDict:=by kernel_rfl
  acAttr:=by kernel_rfl
  acMro:=by kernel_rfl
theorem HAL:AccOk (cfgL w s₁):=⟨by kernel_rfl,by kernel_rfl,by kernel_rfl⟩
theorem HIL:ItemOk (cfgL w s₁):=⟨by kernel_rfl⟩
theorem HSpL:SpecOk (cfgL w s₁) 160 167 64:=⟨by kernel_rfl,by kernel_rfl,by kernel_rfl,by kernel_rfl,by kernel_rfl,by kernel_rfl,by kernel_rfl⟩
theorem supClsL:SupCls (cfgL w s₁):=⟨⟨_,rfl,rfl,rfl⟩,by kernel_rfl,by kernel_rfl,by kernel_rfl,by kernel_rfl⟩
theorem takerIniL:takerIn (cfgL w s₁).K (cfgL w s₁).ACC "_initial_size" = some none:=by kernel_rfl
theorem stAccL:StoreOk (cfgL w s₁) (cfgL w s₁).ACC:=⟨by kernel_rfl,_,rfl,rfl,.inl rfl⟩
theorem stVfL:StoreOk (cfgL w s₁) (cfgL w s₁).VF:=⟨by kernel_rfl,_,rfl,rfl,.inr rfl⟩
theorem supL (S:Start (hd.heap_39 w.params) s₁ mg mb) {f:Addr} {vars:List Str} (L:Addr) (ks:(envAt (cfgL w s₁) f L).kindOf "super" = some .globalImplicit) (kc:(envAt (cfgL w s₁) f L).kindOf "__class__" = some .free)
    (fn:∃ of fd ar,(cfgL w s₁).K.lookup f=some of∧of.data=.func fd∧(fd.params.posonlyargs++fd.params.args).head?=some ar∧vars[0]?=some ar.arg)
    (code:∃ cc oc vs file tf,(envAt (cfgL w s₁) f L).code=.ref cc∧(cfgL w s₁).K.lookup cc=some oc∧oc.data=.fields vs∧vs[2]?=some (.str file tf)∧(((cfgL w s₁).prog.main.file:Str) == file)=true)
    (cell:∃ c oc,(envAt (cfgL w s₁) f L).cells.lookup ("__class__" : Str)=some c∧(cfgL w s₁).K.lookup c=some oc∧oc.data=.cell (some (.ref (cfgL w s₁).ACC))):SupOk (cfgL w s₁) (envAt (cfgL w s₁) f L) vars where
  ks:=ks
  kc:=kc
  fn:=let ⟨of,fd,ar,a,b,c,d⟩:=fn; ⟨f,of,fd,ar,rfl,a,b,c,d⟩
  code:=code
  top:=by kernel_rfl
  sup:=globBlt (HL (w:=w) S).kin S.g S.b (by kernel_rfl) (by kernel_rfl)
  cell:=cell
theorem HXL:XOk (cfgL w s₁):=⟨fun k h uu=>(if_neg (by (first | lia | omega))).trans (if_neg (by (first | lia | omega))),upTo 7 (upTo 6 (upTo 5 (upTo 4 (upTo 3 (upTo 2 (upTo 1 (upTo 0 upTo0 (fun n e=>by cases e; kernel_rfl)) (fun n e=>by cases e; kernel_rfl)) (fun n e=>by cases e; kernel_rfl)) (fun n e=>by cases e; kernel_rfl)) (fun n e=>by cases e; kernel_rfl)) (fun n e=>by cases e; kernel_rfl)) (fun n e=>by cases e; kernel_rfl)) (fun n e=>by cases e; kernel_rfl)⟩
theorem hXlamL:(cfgL w s₁).X 1=LamX (lamL w):=show XL w 1=LamX (lamL w) from if_pos rfl
theorem hX5L:(cfgL w s₁).X 5=CellX:=show XL w 5=CellX from (if_neg (by decide)).trans (if_pos rfl)
theorem gIndexErrorL (S:Start (hd.heap_39 w.params) s₁ mg mb):GlobVal (cfgL w s₁) "IndexError" (.type "IndexError"):=globBlt (HL (w:=w) S).kin S.g S.b (by kernel_rfl) (by kernel_rfl)
theorem gStrL (S:Start (hd.heap_39 w.params) s₁ mg mb):GlobVal (cfgL w s₁) "str" (.type "str"):=globBlt (HL (w:=w) S).kin S.g S.b (by kernel_rfl) (by kernel_rfl)
theorem gLenL (S:Start (hd.heap_39 w.params) s₁ mg mb):GlobVal (cfgL w s₁) "len" (.builtin "len"):=globBlt (HL (w:=w) S).kin S.g S.b (by kernel_rfl) (by kernel_rfl)
theorem gSumL (S:Start (hd.heap_39 w.params) s₁ mg mb):GlobVal (cfgL w s₁) "sum" (.builtin "sum"):=globBlt (HL (w:=w) S).kin S.g S.b (by kernel_rfl) (by kernel_rfl)
theorem gRangeL (S:Start (hd.heap_39 w.params) s₁ mg mb):GlobVal (cfgL w s₁) "range" (.type "range"):=globBlt (HL (w:=w) S).kin S.g S.b (by kernel_rfl) (by kernel_rfl)
set_option tactic.hygienic true
theorem gNextL (S:Start (hd.heap_39 w.params) s₁ mg mb):GlobVal (cfgL w s₁) "next" (.builtin "next"):=globBlt (HL (w:=w) S).kin S.g S.b (by kernel_rfl) (by kernel_rfl)
set_option tactic.hygienic false
theorem gMinL (S:Start (hd.heap_39 w.params) s₁ mg mb):GlobVal (cfgL w s₁) "min" (.builtin "min"):=globBlt (HL (w:=w) S).kin S.g S.b (by kernel_rfl) (by kernel_rfl)
theorem keepL {f:Addr} (h:keepIn (cfgL w s₁).K (.ref f)=true):KeepOk (cfgL w s₁) (.ref f):=keep_K h
theorem f137:FnIn (cfgL w s₁) 137 ["self", "fws", "string"] 3:=⟨by kernel_rfl,by kernel_rfl,by kernel_rfl,by kernel_rfl,by kernel_rfl⟩
theorem d137 (S:Start (hd.heap_39 w.params) s₁ mg mb):BF (cfgL w s₁) 11 137 pushF:=by
  have H:=HL (w:=w) S; have HC:=HCL (w:=w) (s₁:=s₁)
  refine b_fn H f137 (by decide +kernel) (vec3 fun a b c=>by kernel_rfl) fun L He=>?_
  exact b_cons (b_expr He (b_meth H (m_accApp H HC (by kernel_rfl) (by kernel_rfl)) keep_builtin (b_append H HC) (b_name He rfl) (b_econs (b_tup (b_econs (b_name He rfl) (b_econs (b_name He rfl) b_enil rfl) rfl)) b_enil rfl) (fun uu uu=>rfl) (by decide) rfl) rfl) b_nil
theorem f190:FnIn (cfgL w s₁) 190 ["self"] 1:=⟨by kernel_rfl,by kernel_rfl,by kernel_rfl,by kernel_rfl,by kernel_rfl⟩
theorem d190 (S:Start (hd.heap_39 w.params) s₁ mg mb):BF (cfgL w s₁) 11 190 pcF:=by
  have H:=HL (w:=w) S; have HC:=HCL (w:=w) (s₁:=s₁)
  refine b_fnA H f190 (by decide +kernel) (vec1 fun a=>by kernel_rfl) fun L He=>?_
  exact b_consA (b_partCount H HC He supClsL (supL S L (by kernel_rfl) (by kernel_rfl) ⟨_,_,_,rfl,rfl,rfl,rfl⟩ ⟨_,_,_,_,_,rfl,rfl,rfl,rfl,by kernel_rfl⟩ ⟨_,_,rfl,rfl,rfl⟩) (by kernel_rfl) rfl) b_nilA
theorem f153:FnIn (cfgL w s₁) 153 ["self"] 1:=⟨by kernel_rfl,by kernel_rfl,by kernel_rfl,by kernel_rfl,by kernel_rfl⟩
theorem mCountL (S:Start (hd.heap_39 w.params) s₁ mg mb):BM (cfgL w s₁) 4 "part_count" (.ref 190):=m_acc (HL (w:=w) S) HCL (by kernel_rfl) (by kernel_rfl) (by decide +kernel)
theorem d153 (S:Start (hd.heap_39 w.params) s₁ mg mb):BF (cfgL w s₁) 13 153 popF:=by
  have H:=HL (w:=w) S; have HC:=HCL (w:=w) (s₁:=s₁)
  refine b_fnA H f153 (by decide +kernel) (vec1 fun a=>by kernel_rfl) fun L He=>?_
  refine b_consA (b_sA (b_if (b_cmpT (b_meth H (mCountL S) (keepL (by kernel_rfl)) ((d190 S).call (by decide)) (b_name He rfl) b_enil (fun uu uu=>rfl) (by decide) rfl) b_int rfl) (b_cons (b_ret (b_tup (b_econs (b_str (by decide +kernel)) (b_econs (b_str (by decide +kernel)) b_enil rfl) rfl))) b_nil) b_nil)) ?_
  exact b_consA (b_pop H HC He supClsL (supL S L (by kernel_rfl) (by kernel_rfl) ⟨_,_,_,rfl,rfl,rfl,rfl⟩ ⟨_,_,_,_,_,rfl,rfl,rfl,rfl,by kernel_rfl⟩ ⟨_,_,rfl,rfl,rfl⟩) (by kernel_rfl) rfl) b_nilA
theorem f160:FnIn (cfgL w s₁) 160 ["self"] 1:=⟨by kernel_rfl,by kernel_rfl,by kernel_rfl,by kernel_rfl,by kernel_rfl⟩
theorem d160 (S:Start (hd.heap_39 w.params) s₁ mg mb):BF (cfgL w s₁) 11 160 accLenF:=by
  have H:=HL (w:=w) S; have HC:=HCL (w:=w) (s₁:=s₁)
  refine b_fn H f160 (by decide +kernel) (vec1 fun a=>by kernel_rfl) fun L He=>?_
  exact b_cons (b_accLen H HC HAL (HGL S) He (t:=(159,155,#[])) ⟨by simp [mkCfg],by kernel_rfl,by kernel_rfl,by kernel_rfl,by intro y hy; revert y; decide,by kernel_rfl,rfl⟩ ⟨by kernel_rfl,by kernel_rfl,by kernel_rfl,by kernel_rfl⟩ (gLenL S) (gSumL S) (by kernel_rfl)) b_nil
theorem f167:FnIn (cfgL w s₁) 167 ["self"] 1:=⟨by kernel_rfl,by kernel_rfl,by kernel_rfl,by kernel_rfl,by kernel_rfl⟩
theorem d167 (S:Start (hd.heap_39 w.params) s₁ mg mb):BF (cfgL w s₁) 11 167 accStrF:=by
  have H:=HL (w:=w) S; have HC:=HCL (w:=w) (s₁:=s₁)
  refine b_fn H f167 (by decide +kernel) (vec1 fun a=>by kernel_rfl) fun L He=>?_
  obtain ⟨te,hE⟩:∃ te,GlobVal (cfgL w s₁) "EMPTYSTRING" (.str "" te):=⟨_,globOwn H.kin S.g rfl⟩
  exact b_cons (b_accStr H HC HAL (HGL S) He (t:=(166,162,#[])) ⟨by simp [mkCfg],by kernel_rfl,by kernel_rfl,by kernel_rfl,by intro y hy; revert y; decide,by kernel_rfl,rfl⟩ ⟨by kernel_rfl,by kernel_rfl,by kernel_rfl,by kernel_rfl⟩ hE (by kernel_rfl) rfl rfl) b_nil
theorem f145:FnIn (cfgL w s₁) 145 ["self", "i", "popped"] 2:=⟨by kernel_rfl,by kernel_rfl,by kernel_rfl,by kernel_rfl,by kernel_rfl⟩
theorem d145 (S:Start (hd.heap_39 w.params) s₁ mg mb):BF (cfgL w s₁) 11 145 popFromF:=by
  have H:=HL (w:=w) S; have HC:=HCL (w:=w) (s₁:=s₁)
  refine b_fnD (m:=2) (dxs:=[]) (dv:=[]) H f145 (by decide +kernel) (fun uu uu=>.nil) (fun s X=>vec2 fun a b=>binds_K X rfl rfl rfl rfl (by kernel_rfl)) fun L He=>?_
  exact b_cons (b_asg He rfl (b_slice H HC HAL HIL (b_name He rfl) (b_oS (b_name He rfl)) b_oN) rfl) (b_cons (b_setSl H HC HAL HIL (b_lst b_enil) (b_name He rfl) (b_oS (b_name He rfl)) b_oN rfl) (b_cons (b_ret (b_name He rfl)) b_nil))
theorem f175:FnIn (cfgL w s₁) 175 ["self", "startval"] 2:=⟨by kernel_rfl,by kernel_rfl,by kernel_rfl,by kernel_rfl,by kernel_rfl⟩
theorem d175 (S:Start (hd.heap_39 w.params) s₁ mg mb):BF (cfgL w s₁) 12 175 resetF:=by
  have H:=HL (w:=w) S; have HC:=HCL (w:=w) (s₁:=s₁)
  have B:∀ L,EnvB (envAt (cfgL w s₁) 175 L) ["self", "startval"]→BB (cfgL w s₁) 11 (envAt (cfgL w s₁) 175 L) ["self", "startval"] (bodyAt (cfgL w s₁).K 175) resetB:=by
    intro L He
    exact b_cons (b_if (b_cmpT (b_name He rfl) b_none rfl) (b_cons (b_asg He rfl (b_lst b_enil) rfl) b_nil) b_nil) (b_cons (b_setSl H HC HAL HIL (b_name He rfl) (b_name He rfl) b_oN b_oN rfl) (b_cons (b_ini H stAccL takerIniL (b_name He rfl) b_int rfl) b_nil))
  exact ⟨DenF.or (b_fnD (m:=1) (dxs:=[.none]) (dv:=[.none]) H f175 (by decide +kernel) (fun uu uu=>.cons .none .nil) (fun s X=>vec1 fun a=>binds_K X rfl rfl rfl rfl (by kernel_rfl)) B).run (b_fnD (m:=2) (dxs:=[]) (dv:=[]) H f175 (by decide +kernel) (fun uu uu=>.nil) (fun s X=>vec2 fun a b=>binds_K X rfl rfl rfl rfl (by kernel_rfl)) B).run⟩
theorem dLenL (S:Start (hd.heap_39 w.params) s₁ mg mb) {d:Nat} (h:12≤d):BC (cfgL w s₁) d (.builtin "len") (lenF accLenF):=b_len (d':=11) (HL (w:=w) S) HSpL (d160 S) h
theorem dStrL (S:Start (hd.heap_39 w.params) s₁ mg mb) {d:Nat} (h:13≤d):BC (cfgL w s₁) d (.type "str") (strF accStrF noF):=b_strC (d':=11) (HL (w:=w) S) HSpL ((d167 S).call (by decide)) b_noF h
theorem fgL:FnGIn (cfgL w s₁) 92:=⟨by kernel_rfl,by kernel_rfl,by kernel_rfl,by kernel_rfl,by kernel_rfl,fun v=>by kernel_rfl⟩
theorem d92 (S:Start (hd.heap_39 w.params) s₁ mg mb):BF (cfgL w s₁) 11 92 makeGenF:=b_gen (HL (w:=w) S) fgL rfl
set_option tactic.hygienic true
theorem dNextL (S:Start (hd.heap_39 w.params) s₁ mg mb):BC (cfgL w s₁) 16 (.builtin "next") (nextF lenE0 lenE1):=by
  have H:=HL (w:=w) S; have HC:=HCL (w:=w) (s₁:=s₁)
  exact b_nextG (d:=13) H fgL rfl rfl (fun L He=>b_bin (b_attr H HC rfl (b_name He rfl) (fun uu uu=>rfl)) (b_call H He (gLenL S) (by kernel_rfl) keep_builtin (dLenL S (by decide)) (b_econs (b_attr H HC rfl (b_name He rfl) (fun uu uu=>rfl)) b_enil rfl) (by decide +kernel))) (fun L He=>b_bin (b_attr H HC rfl (b_name He rfl) (fun uu uu=>rfl)) (b_attr H HC rfl (b_name He rfl) (fun uu uu=>rfl)))
set_option tactic.hygienic false
theorem f182:FnIn (cfgL w s₁) 182 ["self"] 1:=⟨by kernel_rfl,by kernel_rfl,by kernel_rfl,by kernel_rfl,by kernel_rfl⟩
theorem d182 (S:Start (hd.heap_39 w.params) s₁ mg mb):BF (cfgL w s₁) 16 182 onlywsF:=by
  have H:=HL (w:=w) S; have HC:=HCL (w:=w) (s₁:=s₁)
  refine b_fn H f182 (by decide +kernel) (vec1 fun a=>by kernel_rfl) fun L He=>?_
  exact b_cons (b_ret (b_andE (b_cmp (b_attr H HC rfl (b_name He rfl) (fun uu uu=>rfl)) b_int rfl) (b_orE (b_notA H HSpL ((d160 S).call (by decide)) (b_name He rfl)) (b_meth H m_isspace keep_builtin b_isspace (b_call H He (gStrL S) (by kernel_rfl) keep_type (dStrL S (by decide)) (b_econs (b_name He rfl) b_enil rfl) (by decide +kernel)) b_enil (fun uu uu=>rfl) (by decide) rfl)))) b_nil
theorem accMakeL:AccMake (cfgL w s₁) 130:=⟨⟨_,_,_,_,rfl,rfl,rfl,rfl⟩,by kernel_rfl,by kernel_rfl,by kernel_rfl,by kernel_rfl⟩
theorem f130:FnIn (cfgL w s₁) 130 ["self", "initial_size"] 2:=⟨by kernel_rfl,by kernel_rfl,by kernel_rfl,by kernel_rfl,by kernel_rfl⟩
theorem dAccL (S:Start (hd.heap_39 w.params) s₁ mg mb):BC (cfgL w s₁) 12 (.ref 193) mkAccF:=by
  have H:=HL (w:=w) S; have HC:=HCL (w:=w) (s₁:=s₁)
  have F:=f130 (w:=w) (s₁:=s₁)
  exact ⟨den_mkAcc (d:=10) H HC supClsL accMakeL stAccL takerIniL (F.okD (m:=2) (dxs:=[]) (dv:=[]) H (fun uu uu=>.nil) (fun s X=>vec2 fun a b=>binds_K X rfl rfl rfl rfl (by kernel_rfl))) (fun L=>supL S L (by kernel_rfl) (by kernel_rfl) ⟨_,_,_,rfl,rfl,rfl,rfl⟩ ⟨_,_,_,_,_,rfl,rfl,rfl,rfl,by kernel_rfl⟩ ⟨_,_,rfl,rfl,rfl⟩) (by kernel_rfl) (by rfl) (fun L=>by kernel_rfl) (fun L=>rfl) (fun L=>rfl)⟩
theorem f50:FnIn (cfgL w s₁) 50 ["self", "headerlen", "maxlen", "continuation_ws", "splitchars"] 5:=⟨by kernel_rfl,by kernel_rfl,by kernel_rfl,by kernel_rfl,by kernel_rfl⟩
theorem dFmtL (S:Start (hd.heap_39 w.params) s₁ mg mb):BC (cfgL w s₁) 16 (.ref 109) mkFmtF:=by
  have H:=HL (w:=w) S; have HC:=HCL (w:=w) (s₁:=s₁)
  refine b_mkFmt (d:=14) (LF:=accLenF) H (by kernel_rfl) (by kernel_rfl) (by kernel_rfl) stVfL f50 (vec5 fun a b c d e=>by kernel_rfl) fun L He=>?_
  have gA:GlobVal (cfgL w s₁) "_Accumulator" (.ref 193):=globOwn H.kin S.g (by kernel_rfl)
  exact b_icons (by kernel_rfl) (b_name He rfl) (b_icons (by kernel_rfl) (b_name He rfl) (b_icons (by kernel_rfl) (b_call H He (gLenL S) (by kernel_rfl) keep_builtin (dLenL S (by decide)) (b_econs (b_name He rfl) b_enil rfl) (by decide +kernel))
      (b_icons (by kernel_rfl) (b_name He rfl) (b_icons (by kernel_rfl) (b_newL b_enil) (b_icons (by kernel_rfl) (b_call H He gA (by kernel_rfl) (keepL (by kernel_rfl)) ((dAccL S).up (by decide)) (b_econs (b_name He rfl) b_enil rfl) (by decide +kernel)) b_inil rfl) rfl) rfl) rfl) rfl) rfl
theorem bPushL:BindOk (cfgL w s₁) "push" 137:=⟨by kernel_rfl,by kernel_rfl,by kernel_rfl,by kernel_rfl,by kernel_rfl,by kernel_rfl,by decide +kernel⟩
theorem mA_push (S:Start (hd.heap_39 w.params) s₁ mg mb):BM (cfgL w s₁) 4 "push" (.ref 137):=m_acc (HL (w:=w) S) HCL (by kernel_rfl) (by kernel_rfl) (by decide +kernel)
theorem mA_pop (S:Start (hd.heap_39 w.params) s₁ mg mb):BM (cfgL w s₁) 4 "pop" (.ref 153):=m_acc (HL (w:=w) S) HCL (by kernel_rfl) (by kernel_rfl) (by decide +kernel)
theorem mA_pop_from (S:Start (hd.heap_39 w.params) s₁ mg mb):BM (cfgL w s₁) 4 "pop_from" (.ref 145):=m_acc (HL (w:=w) S) HCL (by kernel_rfl) (by kernel_rfl) (by decide +kernel)
theorem mA_reset (S:Start (hd.heap_39 w.params) s₁ mg mb):BM (cfgL w s₁) 4 "reset" (.ref 175):=m_acc (HL (w:=w) S) HCL (by kernel_rfl) (by kernel_rfl) (by decide +kernel)
theorem mA_is_onlyws (S:Start (hd.heap_39 w.params) s₁ mg mb):BM (cfgL w s₁) 4 "is_onlyws" (.ref 182):=m_acc (HL (w:=w) S) HCL (by kernel_rfl) (by kernel_rfl) (by decide +kernel)
theorem mA_part_count (S:Start (hd.heap_39 w.params) s₁ mg mb):BM (cfgL w s₁) 4 "part_count" (.ref 190):=mCountL S
theorem mF_str (S:Start (hd.heap_39 w.params) s₁ mg mb):BM (cfgL w s₁) 3 "_str" (.ref 57):=m_fmt (HL (w:=w) S) HCL (by kernel_rfl) (by kernel_rfl) (by decide +kernel)
theorem mFnewline (S:Start (hd.heap_39 w.params) s₁ mg mb):BM (cfgL w s₁) 3 "newline" (.ref 71):=m_fmt (HL (w:=w) S) HCL (by kernel_rfl) (by kernel_rfl) (by decide +kernel)
theorem mFadd_transition (S:Start (hd.heap_39 w.params) s₁ mg mb):BM (cfgL w s₁) 3 "add_transition" (.ref 78):=m_fmt (HL (w:=w) S) HCL (by kernel_rfl) (by kernel_rfl) (by decide +kernel)
theorem mFfeed (S:Start (hd.heap_39 w.params) s₁ mg mb):BM (cfgL w s₁) 3 "feed" (.ref 85):=m_fmt (HL (w:=w) S) HCL (by kernel_rfl) (by kernel_rfl) (by decide +kernel)
theorem mF_maxlengths (S:Start (hd.heap_39 w.params) s₁ mg mb):BM (cfgL w s₁) 3 "_maxlengths" (.ref 92):=m_fmt (HL (w:=w) S) HCL (by kernel_rfl) (by kernel_rfl) (by decide +kernel)
theorem mF_append_chunk (S:Start (hd.heap_39 w.params) s₁ mg mb):BM (cfgL w s₁) 3 "_append_chunk" (.ref 106):=m_fmt (HL (w:=w) S) HCL (by kernel_rfl) (by kernel_rfl) (by decide +kernel)
theorem k57:KeepOk (cfgL w s₁) (.ref 57):=keepL (by kernel_rfl)
theorem k71:KeepOk (cfgL w s₁) (.ref 71):=keepL (by kernel_rfl)
theorem k78:KeepOk (cfgL w s₁) (.ref 78):=keepL (by kernel_rfl)
theorem k85:KeepOk (cfgL w s₁) (.ref 85):=keepL (by kernel_rfl)
theorem k92:KeepOk (cfgL w s₁) (.ref 92):=keepL (by kernel_rfl)
theorem k106:KeepOk (cfgL w s₁) (.ref 106):=keepL (by kernel_rfl)
theorem k137:KeepOk (cfgL w s₁) (.ref 137):=keepL (by kernel_rfl)
theorem k145:KeepOk (cfgL w s₁) (.ref 145):=keepL (by kernel_rfl)
theorem k153:KeepOk (cfgL w s₁) (.ref 153):=keepL (by kernel_rfl)
theorem k175:KeepOk (cfgL w s₁) (.ref 175):=keepL (by kernel_rfl)
theorem k182:KeepOk (cfgL w s₁) (.ref 182):=keepL (by kernel_rfl)
theorem k190:KeepOk (cfgL w s₁) (.ref 190):=keepL (by kernel_rfl)
theorem k109:KeepOk (cfgL w s₁) (.ref 109):=keepL (by kernel_rfl)
theorem g_ValueFormatter (S:Start (hd.heap_39 w.params) s₁ mg mb):GlobVal (cfgL w s₁) "_ValueFormatter" (.ref 109):=globOwn (HL (w:=w) S).kin S.g (by kernel_rfl)
theorem k204:KeepOk (cfgL w s₁) (.ref 204):=keepL (by kernel_rfl)
theorem g_law_coded (S:Start (hd.heap_39 w.params) s₁ mg mb):GlobVal (cfgL w s₁) "_law_coded" (.ref 204):=globOwn (HL (w:=w) S).kin S.g (by kernel_rfl)
theorem k211:KeepOk (cfgL w s₁) (.ref 211):=keepL (by kernel_rfl)
theorem g_law_charset (S:Start (hd.heap_39 w.params) s₁ mg mb):GlobVal (cfgL w s₁) "_law_charset" (.ref 211):=globOwn (HL (w:=w) S).kin S.g (by kernel_rfl)
end
section
variable {w:World} {s₁:Shared} {mg mb:Str→Option Value}
theorem f204:FnIn (cfgL w s₁) 204 ["marks", "text", "rooms", "lines", "size"] 3:=⟨by kernel_rfl,by kernel_rfl,by kernel_rfl,by kernel_rfl,by kernel_rfl⟩
set_option tactic.hygienic true
theorem d204 (S:Start (hd.heap_39 w.params) s₁ mg mb):BF (cfgL w s₁) 31 204 p_law_codedF:=by
  have H:=HL (w:=w) S; have HC:=HCL (w:=w) (s₁:=s₁)
  refine b_fn H f204 (by decide +kernel) (vec3 fun a b c=>by kernel_rfl) fun L He=>?_
  have kd_next:(envAt (cfgL w s₁) 204 L).kindOf "next" = some .globalImplicit:=by kernel_rfl
  exact (b_cons (b_asg He rfl (b_newL b_enil) rfl)
 (b_cons (b_while (b_cmpT (b_name He rfl) (b_str (by decide +kernel)) rfl) (b_cons (b_asg He rfl (b_bin (b_call H He (gNextL S) kd_next keep_builtin ((dNextL S).up (by decide)) (b_econs (b_name He rfl) b_enil rfl) (by decide +kernel)) b_int) rfl)
 (b_cons (b_if (b_cmpT (b_name He rfl) b_int rfl) (b_cons (b_expr He (b_meth H m_append keep_builtin (b_append H HC) (b_name He rfl) (b_econs (b_bin (b_bin (b_idx H HC HAL HIL (b_name He rfl) b_int) (b_slStr (b_name He rfl) b_oN (b_oS (b_name He rfl)))) (b_idx H HC HAL HIL (b_name He rfl) b_int)) b_enil rfl) (fun uu uu=>rfl) (by decide) rfl) rfl)
 (b_cons (b_asg He rfl (b_slStr (b_name He rfl) (b_oS (b_name He rfl)) b_oN) rfl)
 b_nil)) (b_cons (b_expr He (b_meth H m_append keep_builtin (b_append H HC) (b_name He rfl) (b_econs b_none b_enil rfl) (fun uu uu=>rfl) (by decide) rfl) rfl)
 b_nil))
 b_nil)) b_nil)
 (b_cons (b_ret (b_name He rfl))
 b_nil)))
set_option tactic.hygienic false
theorem dLamL (S:Start (hd.heap_39 w.params) s₁ mg mb):BLam (cfgL w s₁) 33 lamF:=by
  have H:=HL (w:=w) S
  refine b_lam5 hX5L (b_lam1 (name := "marks") H hXlamL (by decide) (by kernel_rfl) (by kernel_rfl) (fun cl pm cdv ctv=>vec2 fun a b=>by kernel_rfl) fun env c i hs hc He=>?_)
  have kd:env.kindOf "_law_coded" = some .globalImplicit:=by unfold Env.kindOf; rw [hs]; kernel_rfl
  exact b_call H He (g_law_coded S) kd k204 ((d204 S).call (by decide)) (b_econs (b_free He (by unfold Env.kindOf; rw [hs]; kernel_rfl) (by rw [hc]; rfl) (by decide +kernel) (by decide +kernel)) (b_econs (b_name He rfl) (b_econs (b_name He rfl) b_enil rfl) rfl) rfl) (by decide +kernel)
theorem f71:FnIn (cfgL w s₁) 71 ["self", "end_of_line"] 1:=⟨by kernel_rfl,by kernel_rfl,by kernel_rfl,by kernel_rfl,by kernel_rfl⟩
theorem d71 (S:Start (hd.heap_39 w.params) s₁ mg mb):BF (cfgL w s₁) 18 71 newlineF:=by
  have H:=HL (w:=w) S; have HC:=HCL (w:=w) (s₁:=s₁)
  refine b_fn H f71 (by decide +kernel) (vec1 fun a=>by kernel_rfl) fun L He=>?_
  have kd_len:(envAt (cfgL w s₁) 71 L).kindOf "len" = some .globalImplicit:=by kernel_rfl
  have kd_str:(envAt (cfgL w s₁) 71 L).kindOf "str" = some .globalImplicit:=by kernel_rfl
  exact (b_cons (b_asg He rfl (b_meth H (mA_pop S) k153 ((d153 S).call (by decide)) (b_attr H HC rfl (b_name He rfl) (fun uu uu=>rfl)) b_enil (fun uu uu=>rfl) (by decide) rfl) rfl)
 (b_cons (b_if (b_cmpT (b_name He rfl) (b_tup (b_econs (b_str (by decide +kernel)) (b_econs (b_str (by decide +kernel)) b_enil rfl) rfl)) rfl) (b_cons (b_expr He (b_methStar H HC bPushL (d137 S) (by decide) (b_attr H HC rfl (b_name He rfl) (fun uu uu=>rfl)) (b_name He rfl) (fun uu uu=>rfl)) rfl)
 b_nil) b_nil)
 (b_cons (b_if (b_cmpT (b_call H He (gLenL S) kd_len keep_builtin (dLenL S (by decide)) (b_econs (b_attr H HC rfl (b_name He rfl) (fun uu uu=>rfl)) b_enil rfl) (by decide +kernel)) b_int rfl) (b_cons (b_if (b_andT (b_tcons (b_tr (b_meth H (mA_is_onlyws S) k182 ((d182 S).call (by decide)) (b_attr H HC rfl (b_name He rfl) (fun uu uu=>rfl)) b_enil (fun uu uu=>rfl) (by decide) rfl) (fun uu=>rfl)) (b_tcons (b_tr (b_attr H HC rfl (b_name He rfl) (fun uu uu=>rfl)) (fun uu=>rfl)) b_tnil))) (b_cons (b_augIdx H HC HAL HIL (b_attr H HC rfl (b_name He rfl) (fun uu uu=>rfl)) (b_neg b_int) (b_call H He (gStrL S) kd_str keep_type (dStrL S (by decide)) (b_econs (b_attr H HC rfl (b_name He rfl) (fun uu uu=>rfl)) b_enil rfl) (by decide +kernel)) (fun uu uu uu=>rfl))
 b_nil) (b_cons (b_expr He (b_meth H m_append keep_builtin (b_append H HC) (b_attr H HC rfl (b_name He rfl) (fun uu uu=>rfl)) (b_econs (b_call H He (gStrL S) kd_str keep_type (dStrL S (by decide)) (b_econs (b_attr H HC rfl (b_name He rfl) (fun uu uu=>rfl)) b_enil rfl) (by decide +kernel)) b_enil rfl) (fun uu uu=>rfl) (by decide) rfl) rfl)
 b_nil))
 b_nil) b_nil)
 (b_cons (b_expr He (b_meth H (mA_reset S) k175 ((d175 S).call (by decide)) (b_attr H HC rfl (b_name He rfl) (fun uu uu=>rfl)) b_enil (fun uu uu=>rfl) (by decide) rfl) rfl)
 b_nil))))
theorem f57:FnIn (cfgL w s₁) 57 ["self", "linesep"] 2:=⟨by kernel_rfl,by kernel_rfl,by kernel_rfl,by kernel_rfl,by kernel_rfl⟩
theorem d57 (S:Start (hd.heap_39 w.params) s₁ mg mb):BF (cfgL w s₁) 20 57 uStrF:=by
  have H:=HL (w:=w) S; have HC:=HCL (w:=w) (s₁:=s₁)
  refine b_fn H f57 (by decide +kernel) (vec2 fun a b=>by kernel_rfl) fun L He=>?_
  exact (b_cons (b_expr He (b_meth H (mFnewline S) k71 ((d71 S).call (by decide)) (b_name He rfl) b_enil (fun uu uu=>rfl) (by decide) rfl) rfl)
 (b_cons (b_ret (b_meth H m_join keep_builtin b_join (b_name He rfl) (b_econs (b_attr H HC rfl (b_name He rfl) (fun uu uu=>rfl)) b_enil rfl) (fun uu uu=>rfl) (by decide) rfl))
 b_nil))
theorem f106:FnIn (cfgL w s₁) 106 ["self", "fws", "string", "ch", "i", "prevpart", "part", "remainder"] 3:=⟨by kernel_rfl,by kernel_rfl,by kernel_rfl,by kernel_rfl,by kernel_rfl⟩
theorem d106 (S:Start (hd.heap_39 w.params) s₁ mg mb):BF (cfgL w s₁) 22 106 chunkF:=by
  have H:=HL (w:=w) S; have HC:=HCL (w:=w) (s₁:=s₁)
  refine b_fn H f106 (by decide +kernel) (vec3 fun a b c=>by kernel_rfl) fun L He=>?_
  have kd_len:(envAt (cfgL w s₁) 106 L).kindOf "len" = some .globalImplicit:=by kernel_rfl
  have kd_range:(envAt (cfgL w s₁) 106 L).kindOf "range" = some .globalImplicit:=by kernel_rfl
  have kd_str:(envAt (cfgL w s₁) 106 L).kindOf "str" = some .globalImplicit:=by kernel_rfl
  exact (b_cons (b_expr He (b_meth H (mA_push S) k137 ((d137 S).call (by decide)) (b_attr H HC rfl (b_name He rfl) (fun uu uu=>rfl)) (b_econs (b_name He rfl) (b_econs (b_name He rfl) b_enil rfl) rfl) (fun uu uu=>rfl) (by decide) rfl) rfl)
 (b_cons (b_if (b_cmpT (b_call H He (gLenL S) kd_len keep_builtin (dLenL S (by decide)) (b_econs (b_attr H HC rfl (b_name He rfl) (fun uu uu=>rfl)) b_enil rfl) (by decide +kernel)) (b_attr H HC rfl (b_name He rfl) (fun uu uu=>rfl)) rfl) (b_cons (b_for He rfl (b_attr H HC rfl (b_name He rfl) (fun uu uu=>rfl)) (b_cons (b_forR H He rfl (gRangeL S) kd_range (b_econs (b_bin (b_meth H (mA_part_count S) k190 ((d190 S).call (by decide)) (b_attr H HC rfl (b_name He rfl) (fun uu uu=>rfl)) b_enil (fun uu uu=>rfl) (by decide) rfl) b_int) (b_econs b_int (b_econs (b_neg b_int) b_enil rfl) rfl) rfl) (b_cons (b_if (b_tr (b_meth H m_isspace keep_builtin b_isspace (b_name He rfl) b_enil (fun uu uu=>rfl) (by decide) rfl) (fun uu=>rfl)) (b_cons (b_asg He rfl (b_idx H HC HAL HIL (b_idx H HC HAL HIL (b_attr H HC rfl (b_name He rfl) (fun uu uu=>rfl)) (b_name He rfl)) b_int) rfl)
 (b_cons (b_if (b_andT (b_tcons (b_tr (b_name He rfl) (fun uu=>rfl)) (b_tcons (b_cmpT (b_idx H HC HAL HIL (b_name He rfl) b_int) (b_name He rfl) rfl) b_tnil))) (b_cons b_brk
 b_nil) b_nil)
 b_nil)) b_nil)
 (b_cons (b_asg He rfl (b_idx H HC HAL HIL (b_idx H HC HAL HIL (b_attr H HC rfl (b_name He rfl) (fun uu uu=>rfl)) (b_bin (b_name He rfl) b_int)) b_int) rfl)
 (b_cons (b_if (b_andT (b_tcons (b_tr (b_name He rfl) (fun uu=>rfl)) (b_tcons (b_cmpT (b_idx H HC HAL HIL (b_name He rfl) (b_neg b_int)) (b_name He rfl) rfl) b_tnil))) (b_cons b_brk
 b_nil) b_nil)
 b_nil))) (b_cons b_cont
 b_nil))
 (b_cons b_brk
 b_nil)) (b_cons (b_unp He rfl rfl (b_meth H (mA_pop S) k153 ((d153 S).call (by decide)) (b_attr H HC rfl (b_name He rfl) (fun uu uu=>rfl)) b_enil (fun uu uu=>rfl) (by decide) rfl) rfl rfl)
 (b_cons (b_if (b_cmpT (b_attr H HC rfl (b_attr H HC rfl (b_name He rfl) (fun uu uu=>rfl)) (fun uu uu=>rfl)) b_int rfl) (b_cons (b_expr He (b_meth H (mFnewline S) k71 ((d71 S).call (by decide)) (b_name He rfl) b_enil (fun uu uu=>rfl) (by decide) rfl) rfl)
 (b_cons (b_if (b_notT (b_tr (b_name He rfl) (fun uu=>rfl))) (b_cons (b_asg He rfl (b_str (by decide +kernel)) rfl)
 b_nil) b_nil)
 b_nil)) b_nil)
 (b_cons (b_expr He (b_meth H (mA_push S) k137 ((d137 S).call (by decide)) (b_attr H HC rfl (b_name He rfl) (fun uu uu=>rfl)) (b_econs (b_name He rfl) (b_econs (b_name He rfl) b_enil rfl) rfl) (fun uu uu=>rfl) (by decide) rfl) rfl)
 (b_cons b_retN
 b_nil)))) (fun uu=>rfl))
 (b_cons (b_asg He rfl (b_meth H (mA_pop_from S) k145 ((d145 S).call (by decide)) (b_attr H HC rfl (b_name He rfl) (fun uu uu=>rfl)) (b_econs (b_name He rfl) b_enil rfl) (fun uu uu=>rfl) (by decide) rfl) rfl)
 (b_cons (b_expr He (b_meth H m_append keep_builtin (b_append H HC) (b_attr H HC rfl (b_name He rfl) (fun uu uu=>rfl)) (b_econs (b_call H He (gStrL S) kd_str keep_type (dStrL S (by decide)) (b_econs (b_attr H HC rfl (b_name He rfl) (fun uu uu=>rfl)) b_enil rfl) (by decide +kernel)) b_enil rfl) (fun uu uu=>rfl) (by decide) rfl) rfl)
 (b_cons (b_expr He (b_meth H (mA_reset S) k175 ((d175 S).call (by decide)) (b_attr H HC rfl (b_name He rfl) (fun uu uu=>rfl)) (b_econs (b_name He rfl) b_enil rfl) (fun uu uu=>rfl) (by decide) rfl) rfl)
 b_nil)))) b_nil)
 b_nil))
theorem f78:FnIn (cfgL w s₁) 78 ["self"] 1:=⟨by kernel_rfl,by kernel_rfl,by kernel_rfl,by kernel_rfl,by kernel_rfl⟩
theorem d78 (S:Start (hd.heap_39 w.params) s₁ mg mb):BF (cfgL w s₁) 20 78 transF:=by
  have H:=HL (w:=w) S; have HC:=HCL (w:=w) (s₁:=s₁)
  refine b_fn H f78 (by decide +kernel) (vec1 fun a=>by kernel_rfl) fun L He=>?_
  exact (b_cons (b_expr He (b_meth H (mA_push S) k137 ((d137 S).call (by decide)) (b_attr H HC rfl (b_name He rfl) (fun uu uu=>rfl)) (b_econs (b_str (by decide +kernel)) (b_econs (b_str (by decide +kernel)) b_enil rfl) rfl) (fun uu uu=>rfl) (by decide) rfl) rfl)
 b_nil)
theorem f85:FnIn (cfgL w s₁) 85 ["self", "fws", "string", "charset", "encoded_lines", "first_line", "last_line", "line"] 4:=⟨by kernel_rfl,by kernel_rfl,by kernel_rfl,by kernel_rfl,by kernel_rfl⟩
theorem d85 (S:Start (hd.heap_39 w.params) s₁ mg mb):XF (cfgL w s₁) 697 85 feedF:=by
  have H:=HL (w:=w) S; have HC:=HCL (w:=w) (s₁:=s₁)
  refine x_fn H f85 (by decide +kernel) (vec4 fun a b c d=>by kernel_rfl) (by decide) fun L He=>?_
  have kd_IndexError:(envAt (cfgL w s₁) 85 L).kindOf "IndexError" = some .globalImplicit:=by kernel_rfl
  exact (x_cons (x_lift (b_ifNot (b_cmpT (b_attrX H HC HXL (k:=6) rfl (b_name He rfl) (fun uu uu=>rfl)) b_none rfl) b_nil))
 (x_cons (x_lift (b_asg He rfl (b_callAttr H HC HXL (k:=7) rfl ((dLamL S).up (by decide)) (b_name He rfl) (b_econs (b_name He rfl) (b_econs (b_meth H (mF_maxlengths S) k92 ((d92 S).call (by decide)) (b_name He rfl) b_enil (fun uu uu=>rfl) (by decide) rfl) b_enil rfl) rfl) (fun uu uu=>rfl) (by decide) rfl) rfl))
 (x_cons (x_pop H He rfl (b_econs b_int b_enil rfl) (by decide) rfl (b_asg He rfl (b_meth H m_popAt keep_builtin b_popAt (b_name He rfl) (b_econs b_int b_enil rfl) (fun uu uu=>rfl) (by decide) rfl) rfl) (gIndexErrorL S) kd_IndexError)
 (x_cons (x_lift (b_if (b_cmpT (b_name He rfl) b_none rfl) (b_cons (b_expr He (b_meth H (mF_append_chunk S) k106 ((d106 S).call (by decide)) (b_name He rfl) (b_econs (b_name He rfl) (b_econs (b_name He rfl) b_enil rfl) rfl) (fun uu uu=>rfl) (by decide) rfl) rfl)
 b_nil) b_nil))
 (x_cons (x_pop H He rfl b_enil (by decide) rfl (b_asg He rfl (b_meth H m_popAt keep_builtin b_popL (b_name He rfl) b_enil (fun uu uu=>rfl) (by decide) rfl) rfl) (gIndexErrorL S) kd_IndexError)
 (x_cons (x_lift (b_expr He (b_meth H (mFnewline S) k71 ((d71 S).call (by decide)) (b_name He rfl) b_enil (fun uu uu=>rfl) (by decide) rfl) rfl))
 (x_cons (x_lift (b_expr He (b_meth H (mA_push S) k137 ((d137 S).call (by decide)) (b_attr H HC rfl (b_name He rfl) (fun uu uu=>rfl)) (b_econs (b_attr H HC rfl (b_name He rfl) (fun uu uu=>rfl)) (b_econs (b_name He rfl) b_enil rfl) rfl) (fun uu uu=>rfl) (by decide) rfl) rfl))
 (x_cons (x_lift (b_for He rfl (b_name He rfl) (b_cons (b_expr He (b_meth H m_append keep_builtin (b_append H HC) (b_attr H HC rfl (b_name He rfl) (fun uu uu=>rfl)) (b_econs (b_bin (b_attr H HC rfl (b_name He rfl) (fun uu uu=>rfl)) (b_name He rfl)) b_enil rfl) (fun uu uu=>rfl) (by decide) rfl) rfl)
 b_nil) b_nil (fun uu=>rfl)))
 x_nil))))))))
end
section
variable {w:World} {s₁:Shared} {mg mb:Str→Option Value}
theorem f211:FnCP (cfgL w s₁) 211 ["marks"] ["charset"] ["marks"] [none] [some 0]:=⟨by kernel_rfl,by kernel_rfl,by kernel_rfl,by kernel_rfl,by kernel_rfl,by kernel_rfl,fun L=>(upTo 0 (upTo0) ⟨"marks",rfl,by kernel_rfl⟩),(vec1 fun a=>by kernel_rfl),by decide,⟨rfl,(upTo 0 (upTo0) (fun k e=>nomatch e))⟩,⟨rfl,(upTo 0 (upTo0) (fun o e=>by cases e; exact ⟨"marks",rfl,rfl⟩))⟩,by decide +kernel⟩
theorem d211 (S:Start (hd.heap_39 w.params) s₁ mg mb):BF (cfgL w s₁) 33 211 p_law_charsetF:=by
  have H:=HL (w:=w) S; have HC:=HCL (w:=w) (s₁:=s₁)
  refine b_fnC5 hX5L H f211 (by decide +kernel) fun L g He=>?_
  have kc_marks:(envC (cfgL w s₁) 211 L).kindOf "marks" = some .cell:=by kernel_rfl
  have kd__ValueFormatter:(envC (cfgL w s₁) 211 L).kindOf "_ValueFormatter" = some .globalImplicit:=by kernel_rfl
  exact (b_cons (b_asg He rfl (b_call H He (g_ValueFormatter S) kd__ValueFormatter k109 ((dFmtL S).up (by decide)) (b_econs b_int (b_econs b_int (b_econs (b_str (by decide +kernel)) (b_econs (b_str (by decide +kernel)) b_enil rfl) rfl) rfl) rfl) (by decide +kernel)) rfl)
 (b_cons (b_setX H HXL stVfL (k:=6) rfl (by decide) (by kernel_rfl) (b_name He rfl) b_int rfl)
 (b_cons (b_setX H HXL stVfL (k:=7) rfl (by decide) (by kernel_rfl) (b_name He rfl) (b_lam H (HGL S) He (t:=(210,206,#[])) (by simp [mkCfg]) (by kernel_rfl) hXlamL (cl:=[(L + 1 + 0,g + 0)]) (by kernel_rfl) (by kernel_rfl) (by kernel_rfl) (by kernel_rfl) (by kernel_rfl) (by kernel_rfl) rfl) rfl)
 (b_cons (b_ret (b_name He rfl))
 b_nil))))
theorem f216:FnCIn (cfgL w s₁) 216 "script" ["first", "ahead", "width", "head", "pieces", "x", "charsets", "formatter", "k", "told", "rows", "left", "n", "row", "room", "body", "words", "m", "marks", "inner"] []:=⟨by kernel_rfl,by kernel_rfl,by kernel_rfl,by kernel_rfl,by kernel_rfl,by kernel_rfl,fun L=>upTo0,fun v=>by kernel_rfl⟩
theorem d216 (S:Start (hd.heap_39 w.params) s₁ mg mb) (L:Addr) (hL:L=L0 (cfgL w s₁)) (He:EnvB (envC (cfgL w s₁) 216 L) ["script", "first", "ahead", "width", "head", "pieces", "x", "charsets", "formatter", "k", "told", "rows", "left", "n", "row", "room", "body", "words", "m", "marks", "inner"]):BB (cfgL w s₁) 697 (envC (cfgL w s₁) 216 L) ["script", "first", "ahead", "width", "head", "pieces", "x", "charsets", "formatter", "k", "told", "rows", "left", "n", "row", "room", "body", "words", "m", "marks", "inner"] (bodyAt (cfgL w s₁).K 216) (lawFB L):=by
  have H:=HL (w:=w) S; have HC:=HCL (w:=w) (s₁:=s₁)
  have kd__ValueFormatter:(envC (cfgL w s₁) 216 L).kindOf "_ValueFormatter" = some .globalImplicit:=by kernel_rfl
  have kd__law_charset:(envC (cfgL w s₁) 216 L).kindOf "_law_charset" = some .globalImplicit:=by kernel_rfl
  have kd_len:(envC (cfgL w s₁) 216 L).kindOf "len" = some .globalImplicit:=by kernel_rfl
  have kd_min:(envC (cfgL w s₁) 216 L).kindOf "min" = some .globalImplicit:=by kernel_rfl
  have kd_range:(envC (cfgL w s₁) 216 L).kindOf "range" = some .globalImplicit:=by kernel_rfl
  exact (b_cons (b_asg He rfl (b_slice H HC HAL HIL (b_name He rfl) b_oN (b_oS b_int)) rfl)
 (b_cons (b_asg He rfl (b_idx H HC HAL HIL (b_bin (b_name He rfl) (b_lst (b_econs b_int b_enil rfl))) b_int) rfl)
 (b_cons (b_asg He rfl (b_idx H HC HAL HIL (b_lst (b_econs (b_str (by decide +kernel)) (b_econs (b_str (by decide +kernel)) (b_econs (b_str (by decide +kernel)) b_enil rfl) rfl) rfl)) (b_bin (b_name He rfl) b_int)) rfl)
 (b_cons (b_asg He rfl (b_bin (b_bin (b_call H He (gLenL S) kd_len keep_builtin (dLenL S (by decide)) (b_econs (b_name He rfl) b_enil rfl) (by decide +kernel)) b_int) (b_bin (b_bin (b_name He rfl) b_int) b_int)) rfl)
 (b_cons (b_asg He rfl (b_bin (b_bin (b_bin (b_name He rfl) b_int) b_int) b_int) rfl)
 (b_cons (b_asg He rfl (b_newL (b_econs (b_str (by decide +kernel)) b_enil rfl)) rfl)
 (b_cons (b_for He rfl (b_slice H HC HAL HIL (b_name He rfl) (b_oS b_int) b_oN) (b_cons (b_if (b_cmpT (b_bin (b_name He rfl) b_int) b_int rfl) (b_cons (b_expr He (b_meth H m_append keep_builtin (b_append H HC) (b_name He rfl) (b_econs (b_str (by decide +kernel)) b_enil rfl) (fun uu uu=>rfl) (by decide) rfl) rfl)
 b_nil) (b_cons (b_augIdx H HC HAL HIL (b_name He rfl) (b_neg b_int) (b_idx H HC HAL HIL (b_str (by decide +kernel)) (b_bin (b_bin (b_name He rfl) b_int) b_int)) (fun uu uu uu=>rfl))
 b_nil))
 b_nil) b_nil (fun uu=>rfl))
 (b_cons (b_asgG H HC He rfl (by kernel_rfl) (xs:=["piece"]) (cl:=[]) (by kernel_rfl) (by decide +kernel) (b_srcL (b_name He rfl) (fun uu=>rfl)) (fun cenv hs hc He=>⟨(b_tgN He rfl),(b_ifs1 (b_cmpT (b_name He rfl) (b_str (by decide +kernel)) rfl)),(b_name He rfl)⟩))
 (b_cons (b_asg He rfl (b_lst (b_econs (b_call H He (g_law_charset S) kd__law_charset k211 ((d211 S).call (by decide)) (b_econs (b_str (by decide +kernel)) b_enil rfl) (by decide +kernel)) (b_econs (b_call H He (g_law_charset S) kd__law_charset k211 ((d211 S).call (by decide)) (b_econs (b_str (by decide +kernel)) b_enil rfl) (by decide +kernel)) b_enil rfl) rfl)) rfl)
 (b_cons (b_asg He rfl (b_call H He (g_ValueFormatter S) kd__ValueFormatter k109 ((dFmtL S).up (by decide)) (b_econs (b_name He rfl) (b_econs (b_name He rfl) (b_econs (b_name He rfl) (b_econs (b_str (by decide +kernel)) b_enil rfl) rfl) rfl) rfl) (by decide +kernel)) rfl)
 (b_cons (b_forR H He rfl (gRangeL S) kd_range (b_econs (b_call H He (gLenL S) kd_len keep_builtin (dLenL S (by decide)) (b_econs (b_name He rfl) b_enil rfl) (by decide +kernel)) b_enil rfl) (b_cons (b_if (b_cmpT (b_name He rfl) b_int rfl) (b_cons (b_expr He (b_meth H (mFadd_transition S) k78 ((d78 S).call (by decide)) (b_name He rfl) b_enil (fun uu uu=>rfl) (by decide) rfl) rfl)
 b_nil) b_nil)
 (b_cons (x_meth H He hL (mFfeed S) k85 (d85 S) (b_name He rfl) (b_econs (b_str (by decide +kernel)) (b_econs (b_idx H HC HAL HIL (b_name He rfl) (b_name He rfl)) (b_econs (b_idx H HC HAL HIL (b_name He rfl) (b_bin (b_name He rfl) b_int)) b_enil rfl) rfl) rfl) (fun uu uu=>rfl) (by decide) rfl)
 b_nil)) b_nil)
 (b_cons (b_expr He (b_meth H (mFadd_transition S) k78 ((d78 S).call (by decide)) (b_name He rfl) b_enil (fun uu uu=>rfl) (by decide) rfl) rfl)
 (b_cons (b_asg He rfl (b_meth H (mF_str S) k57 ((d57 S).call (by decide)) (b_name He rfl) (b_econs (b_str (by decide +kernel)) b_enil rfl) (fun uu uu=>rfl) (by decide) rfl) rfl)
 (b_cons (b_asg He rfl (b_attr H HC rfl (b_name He rfl) (fun uu uu=>rfl)) rfl)
 (b_cons (b_if (b_cmpT (b_name He rfl) (b_lst b_enil) rfl) (b_cons (b_ret (b_andE (b_cmp (b_name He rfl) (b_ite (b_cmpT (b_name He rfl) b_int rfl) (b_lst (b_econs (b_str (by decide +kernel)) b_enil rfl)) (b_lst b_enil)) rfl) (b_cmp (b_name He rfl) (b_str (by decide +kernel)) rfl)))
 b_nil) b_nil)
 (b_cons (b_asg He rfl b_int rfl)
 (b_cons (b_asg He rfl (b_idx H HC HAL HIL (b_name He rfl) b_int) rfl)
 (b_cons (b_forR H He rfl (gRangeL S) kd_range (b_econs (b_call H He (gLenL S) kd_len keep_builtin (dLenL S (by decide)) (b_econs (b_name He rfl) b_enil rfl) (by decide +kernel)) b_enil rfl) (b_cons (b_asg He rfl (b_idx H HC HAL HIL (b_name He rfl) (b_name He rfl)) rfl)
 (b_cons (b_asg He rfl (b_ite (b_cmpT (b_name He rfl) b_int rfl) (b_bin (b_name He rfl) (b_name He rfl)) (b_name He rfl)) rfl)
 (b_cons (b_asg He rfl (b_ite (b_cmpT (b_name He rfl) b_int rfl) (b_name He rfl) (b_slStr (b_name He rfl) (b_oS (b_call H He (gLenL S) kd_len keep_builtin (dLenL S (by decide)) (b_econs (b_name He rfl) b_enil rfl) (by decide +kernel))) b_oN)) rfl)
 (b_cons (b_if (b_andT (b_tcons (b_cmpT (b_name He rfl) b_int rfl) (b_tcons (b_orT (b_tcons (b_cmpT (b_slStr (b_name He rfl) b_oN (b_oS (b_call H He (gLenL S) kd_len keep_builtin (dLenL S (by decide)) (b_econs (b_name He rfl) b_enil rfl) (by decide +kernel)))) (b_name He rfl) rfl) (b_tcons (b_cmpT (b_name He rfl) (b_str (by decide +kernel)) rfl) b_tnil))) b_tnil))) (b_cons (b_ret b_bool)
 b_nil) b_nil)
 (b_cons (b_if (b_andT (b_tcons (b_cmpT (b_name He rfl) (b_str (by decide +kernel)) rfl) (b_tcons (b_cmpT (b_call H He (gLenL S) kd_len keep_builtin (dLenL S (by decide)) (b_econs (b_name He rfl) b_enil rfl) (by decide +kernel)) (b_name He rfl) rfl) b_tnil))) (b_cons (b_ret b_bool)
 b_nil) b_nil)
 (b_cons (b_asg He rfl (b_ite (b_cmpT (b_name He rfl) (b_str (by decide +kernel)) rfl) (b_meth H m_splitText keep_builtin b_splitText (b_name He rfl) (b_econs (b_str (by decide +kernel)) b_enil rfl) (fun uu uu=>rfl) (by decide) rfl) (b_lst b_enil)) rfl)
 (b_cons (b_forR H He rfl (gRangeL S) kd_range (b_econs (b_call H He (gLenL S) kd_len keep_builtin (dLenL S (by decide)) (b_econs (b_name He rfl) b_enil rfl) (by decide +kernel)) b_enil rfl) (b_cons (b_if (b_orT (b_tcons (b_cmpT (b_name He rfl) (b_call H He (gLenL S) kd_len keep_builtin (dLenL S (by decide)) (b_econs (b_name He rfl) b_enil rfl) (by decide +kernel)) rfl) (b_tcons (b_andT (b_tcons (b_cmpT (b_name He rfl) b_int rfl) (b_tcons (b_cmpT (b_name He rfl) (b_idx H HC HAL HIL (b_name He rfl) (b_name He rfl)) rfl) b_tnil))) b_tnil))) (b_cons (b_ret b_bool)
 b_nil) b_nil)
 (b_cons (b_asg He rfl (b_idx H HC HAL HIL (b_lst (b_econs (b_str (by decide +kernel)) (b_econs (b_str (by decide +kernel)) b_enil rfl) rfl)) (b_bin (b_name He rfl) b_int)) rfl)
 (b_cons (b_asg He rfl (b_slStr (b_idx H HC HAL HIL (b_name He rfl) (b_name He rfl)) (b_oS b_int) (b_oS (b_neg b_int))) rfl)
 (b_cons (b_if (b_orT (b_tcons (b_cmpT (b_name He rfl) (b_str (by decide +kernel)) rfl) (b_tcons (b_cmpT (b_idx H HC HAL HIL (b_name He rfl) (b_name He rfl)) (b_bin (b_bin (b_idx H HC HAL HIL (b_name He rfl) b_int) (b_name He rfl)) (b_idx H HC HAL HIL (b_name He rfl) b_int)) rfl) (b_tcons (b_cmpT (b_slStr (b_name He rfl) b_oN (b_oS (b_call H He (gLenL S) kd_len keep_builtin (dLenL S (by decide)) (b_econs (b_name He rfl) b_enil rfl) (by decide +kernel)))) (b_name He rfl) rfl) b_tnil)))) (b_cons (b_ret b_bool)
 b_nil) b_nil)
 (b_cons (b_asg He rfl (b_slStr (b_name He rfl) (b_oS (b_call H He (gLenL S) kd_len keep_builtin (dLenL S (by decide)) (b_econs (b_name He rfl) b_enil rfl) (by decide +kernel))) b_oN) rfl)
 (b_cons (b_if (b_cmpT (b_name He rfl) (b_str (by decide +kernel)) rfl) (b_cons (b_aug He rfl b_int)
 (b_cons (b_asg He rfl (b_idx H HC HAL HIL (b_bin (b_name He rfl) (b_lst (b_econs (b_str (by decide +kernel)) b_enil rfl))) (b_name He rfl)) rfl)
 b_nil)) b_nil)
 b_nil)))))) b_nil)
 (b_cons (b_if (b_cmpT (b_name He rfl) (b_bin (b_call H He (gLenL S) kd_len keep_builtin (dLenL S (by decide)) (b_econs (b_name He rfl) b_enil rfl) (by decide +kernel)) b_int) rfl) (b_cons (b_if (b_cmpT (b_name He rfl) (b_call H He (gLenL S) kd_len keep_builtin (dLenL S (by decide)) (b_econs (b_name He rfl) b_enil rfl) (by decide +kernel)) rfl) (b_cons (b_ret b_bool)
 b_nil) b_nil)
 (b_cons (b_if (b_cmpT (b_name He rfl) (b_idx H HC HAL HIL (b_name He rfl) (b_name He rfl)) rfl) (b_cons (b_if (b_cmpT (b_call H He (gLenL S) kd_len keep_builtin (dLenL S (by decide)) (b_econs (b_name He rfl) b_enil rfl) (by decide +kernel)) (b_name He rfl) rfl) (b_cons (b_ret b_bool)
 b_nil) b_nil)
 b_nil) (b_cons (b_if (b_cmpT (b_bin (b_bin (b_call H He (gLenL S) kd_len keep_builtin (dLenL S (by decide)) (b_econs (b_name He rfl) b_enil rfl) (by decide +kernel)) (b_call H He (gMinL S) kd_min keep_builtin b_min (b_econs (b_call H He (gLenL S) kd_len keep_builtin (dLenL S (by decide)) (b_econs (b_name He rfl) b_enil rfl) (by decide +kernel)) (b_econs b_int b_enil rfl) rfl) (by decide +kernel))) b_int) (b_name He rfl) rfl) (b_cons (b_ret b_bool)
 b_nil) b_nil)
 b_nil))
 b_nil)) b_nil)
 b_nil)))))))) b_nil)
 (b_cons (b_ret (b_andE (b_cmp (b_name He rfl) (b_call H He (gLenL S) kd_len keep_builtin (dLenL S (by decide)) (b_econs (b_name He rfl) b_enil rfl) (by decide +kernel)) rfl) (b_cmp (b_name He rfl) (b_meth H m_join keep_builtin b_join (b_str (by decide +kernel)) (b_econs (b_name He rfl) b_enil rfl) (fun uu uu=>rfl) (by decide) rfl) rfl)))
 b_nil)))))))))))))))))))
end
end Mine.Internal
end
section
open PySem PySem.W PyProof.Rows PySem.Calls
set_option tactic.hygienic true
theorem PySem.Challenge.cw_dm0091_01_holds : PySem.Challenge.rw_dm0091_01.Holds := by
  refine Mine.Internal.hd ?_
  k_fill
  intro w s₀ s₁ mg mb G Y fa o pm cd doc dV kV ho hdd hcd hD hmg hg args vals as hpre hlay hrd hwl hlo
  have KX := kIn_of Y
  refine Ground.open G ?_
  intro T B D TE TW
  wrow_args hpre hlay hrd hwl hlo
  x_fa T KX hmg
  clear hdd hcd hD hmg ho
  rename_i ns hs hl0 hL1 hr1 hl2 as1 as2 l vs as3 hL ra wl r0 hI hr hc hc2
  have S : Mine.Internal.Start (Mine.Internal.hd.heap_39 w.params) s₁ mg mb := by
    refine ⟨KX, T.g, T.b, T.nolimit, ?_, hg⟩
    obtain ⟨bm, ob, a, b, c, d, e, f⟩ := T.bmain
    exact ⟨bm, ob, T.g, a, b, c, d, e, f⟩
  obtain ⟨σ', e⟩ := Mine.Internal.plainL s₁.heap.objs.size ns (by omega)
  have R : Mine.Internal.Rel (Mine.Internal.cfgL w s₁) [] [] s₁ := Mine.Internal.start_rel S Mine.Internal.htL
  obtain ⟨ol, hol, hcl, _⟩ := id hL
  have nt : ¬ (Mine.Internal.cfgL w s₁).isTab l := Mine.Internal.notTab_of S Mine.Internal.htL hol (by rw [hcl]; simp)
  refine Mine.Internal.run_lawX (C := Mine.Internal.cfgL w s₁) (d := 697) (B := Mine.Internal.lawFB (Mine.Internal.L0 (Mine.Internal.cfgL w s₁))) (Mine.Internal.HL S) Mine.Internal.f216 (by decide +kernel) (Mine.Internal.d216 S _ rfl) R rfl (by decide +kernel) (by decide +kernel) rfl (by decide +kernel) (Mine.Internal.vr_ints wl hL hI nt) e fun s' ρ' R' => ?_
  exact Mine.Internal.good_end (fun uu => rfl) (by first | rfl | wrow_post) (Mine.Internal.end_old S Mine.Internal.htL R') R'.os R'.gens.bare
end
