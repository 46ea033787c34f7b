import PyProof.Rows.All
import Wide.All
import OpenK.AllK
import Wide.FinOn
import KE.KUnpack
import KE.KLam
import KE.KFmtOwn
import KE.KWhile
import PySem.Challenge.RW_dm0091_02
set_option Elab.async false
set_option maxRecDepth 100000
set_option maxHeartbeats 8000000
set_option linter.all false
set_option genSizeOf false
set_option genInjectivity false
set_option bootstrap.genMatcherCode false
local macro_rules | `(tactic| left) => `(tactic| kernel_rfl)
local macro_rules | `(tactic| right) => `(tactic| first | solve_by_elim [Nat.le_trans, Nat.lt_of_lt_of_le, Nat.lt_of_le_of_lt, Nat.le_of_lt, Nat.le_add_right, Nat.le_refl, Nat.zero_le, Nat.succ_le_succ] | lia)
local macro_rules | `(tactic| omega) => `(tactic| lia)
namespace Mine.Internal
theorem gu{A1 A2 A3 A4 A5 A6 A7 A8 A9 ux : Type}{P1 P2 P3 P4 P5 P6 P7 P8 P9 sF sG : A1 -> A2 -> A3 -> A4 -> A5 -> A6 -> A7 -> A8 -> A9 -> ux -> Prop}{q : Prop}(h : ∃ a1 a2 a3 a4 a5 a6 a7 a8 a9 LW, P1 a1 a2 a3 a4 a5 a6 a7 a8 a9 LW /\ P2 a1 a2 a3 a4 a5 a6 a7 a8 a9 LW /\ P3 a1 a2 a3 a4 a5 a6 a7 a8 a9 LW /\ P4 a1 a2 a3 a4 a5 a6 a7 a8 a9 LW /\ P5 a1 a2 a3 a4 a5 a6 a7 a8 a9 LW /\ P6 a1 a2 a3 a4 a5 a6 a7 a8 a9 LW /\ P7 a1 a2 a3 a4 a5 a6 a7 a8 a9 LW /\ P8 a1 a2 a3 a4 a5 a6 a7 a8 a9 LW /\ P9 a1 a2 a3 a4 a5 a6 a7 a8 a9 LW /\ sF a1 a2 a3 a4 a5 a6 a7 a8 a9 LW /\ sG a1 a2 a3 a4 a5 a6 a7 a8 a9 LW)(k : ∀ a1 a2 a3 a4 a5 a6 a7 a8 a9 LW, P1 a1 a2 a3 a4 a5 a6 a7 a8 a9 LW -> P2 a1 a2 a3 a4 a5 a6 a7 a8 a9 LW -> P3 a1 a2 a3 a4 a5 a6 a7 a8 a9 LW -> P4 a1 a2 a3 a4 a5 a6 a7 a8 a9 LW -> P5 a1 a2 a3 a4 a5 a6 a7 a8 a9 LW -> P6 a1 a2 a3 a4 a5 a6 a7 a8 a9 LW -> P7 a1 a2 a3 a4 a5 a6 a7 a8 a9 LW -> P8 a1 a2 a3 a4 a5 a6 a7 a8 a9 LW -> P9 a1 a2 a3 a4 a5 a6 a7 a8 a9 LW -> sF a1 a2 a3 a4 a5 a6 a7 a8 a9 LW -> sG a1 a2 a3 a4 a5 a6 a7 a8 a9 LW -> q) : q := h.elim λa1 y1 => y1.elim λa2 y2 => y2.elim λa3 y3 => y3.elim λa4 y4 => y4.elim λa5 y5 => y5.elim λa6 y6 => y6.elim λa7 y7 => y7.elim λa8 y8 => y8.elim λa9 y9 => y9.elim λLW Xl => k a1 a2 a3 a4 a5 a6 a7 a8 a9 LW Xl.1 Xl.2.1 Xl.2.2.1 Xl.2.2.2.1 Xl.2.2.2.2.1 Xl.2.2.2.2.2.1 Xl.2.2.2.2.2.2.1 Xl.2.2.2.2.2.2.2.1 Xl.2.2.2.2.2.2.2.2.1 Xl.2.2.2.2.2.2.2.2.2.1 Xl.2.2.2.2.2.2.2.2.2.2
end Mine.Internal
section
open PySem PySem.W PyProof.Rows PySem.Calls
namespace Mine.Internal
set_option tactic.hygienic false
theorem ns{α:Type}{r:α}{P:Prop}(h:none=some r):P:=Option.noConfusion rfl (heq_of_eq h)
theorem sN{α:Type}{r:α}{P:Prop}(h:some r=none):P:=ns h.symm
theorem nm{α:Type}{a:α}{P:Prop}(h:a∈[]):P:=(List.not_mem_nil h).elim
theorem eJ{P:Nat->Prop}:∀ x∈[],P x:=λuu h=>nm h
theorem ft{P:Prop}(h:false=true):P:=Bool.noConfusion h
theorem tf{P:Prop}(h:true=false):P:=Bool.noConfusion h
theorem c2{α β:Type}{a x:α}{b y:β}{P:Prop}(h:some (a,b)=some (x,y))(k:a=x->y=b->P):P:=k (congrArg (·.1) (Option.some.inj h)) (congrArg (·.2) (Option.some.inj h)).symm
theorem c1{α:Type}{a x:α}{P:Prop}(h:some a=some x)(k:a=x->P):P:=k (Option.some.inj h)
theorem AS{P1 P2:Prop}{q:Prop}(h:P1/\P2)(k:P1->P2->q):q:=k h.1 h.2
theorem LX{P1 P2 P3:Prop}{q:Prop}(h:P1/\P2/\P3)(k:P1->P2->P3->q):q:=k h.1 h.2.1 h.2.2
theorem Hv{P1 P2 P3 P4:Prop}{q:Prop}(h:P1/\P2/\P3/\P4)(k:P1->P2->P3->P4->q):q:=k h.1 h.2.1 h.2.2.1 h.2.2.2
theorem br{P1 P2 P3 P4 P5:Prop}{q:Prop}(h:P1/\P2/\P3/\P4/\P5)(k:P1->P2->P3->P4->P5->q):q:=k h.1 h.2.1 h.2.2.1 h.2.2.2.1 h.2.2.2.2
theorem CJ{A1:Type}{P1:A1->Prop}{q:Prop}(h:∃ a1,P1 a1)(k:∀ a1,P1 a1->q):q:=h.elim λa1 y1=>k a1 y1
theorem Am{A1:Type}{P1 P2:A1->Prop}{q:Prop}(h:∃ a1,P1 a1/\P2 a1)(k:∀ a1,P1 a1->P2 a1->q):q:=h.elim λa1 y1=>k a1 y1.1 y1.2
theorem Ci{A1:Type}{P1 P2 P3:A1->Prop}{q:Prop}(h:∃ a1,P1 a1/\P2 a1/\P3 a1)(k:∀ a1,P1 a1->P2 a1->P3 a1->q):q:=h.elim λa1 y1=>k a1 y1.1 y1.2.1 y1.2.2
theorem Mu{A1:Type}{P1 P2 P3 P4:A1->Prop}{q:Prop}(h:∃ a1,P1 a1/\P2 a1/\P3 a1/\P4 a1)(k:∀ a1,P1 a1->P2 a1->P3 a1->P4 a1->q):q:=h.elim λa1 y1=>k a1 y1.1 y1.2.1 y1.2.2.1 y1.2.2.2
theorem gv{A1:Type}{P1 P2 P3 P4 P5 P6 P7:A1->Prop}{q:Prop}(h:∃ a1,P1 a1/\P2 a1/\P3 a1/\P4 a1/\P5 a1/\P6 a1/\P7 a1)(k:∀ a1,P1 a1->P2 a1->P3 a1->P4 a1->P5 a1->P6 a1->P7 a1->q):q:=h.elim λa1 y1=>k a1 y1.1 y1.2.1 y1.2.2.1 y1.2.2.2.1 y1.2.2.2.2.1 y1.2.2.2.2.2.1 y1.2.2.2.2.2.2
theorem ID{A1 A2:Type}{P1:A1->A2->Prop}{q:Prop}(h:∃ a1 a2,P1 a1 a2)(k:∀ a1 a2,P1 a1 a2->q):q:=h.elim λa1 y1=>y1.elim λa2 y2=>k a1 a2 y2
theorem Es{A1 A2:Type}{P1 P2:A1->A2->Prop}{q:Prop}(h:∃ a1 a2,P1 a1 a2/\P2 a1 a2)(k:∀ a1 a2,P1 a1 a2->P2 a1 a2->q):q:=h.elim λa1 y1=>y1.elim λa2 y2=>k a1 a2 y2.1 y2.2
theorem Dt{A1 A2:Type}{P1 P2 P3:A1->A2->Prop}{q:Prop}(h:∃ a1 a2,P1 a1 a2/\P2 a1 a2/\P3 a1 a2)(k:∀ a1 a2,P1 a1 a2->P2 a1 a2->P3 a1 a2->q):q:=h.elim λa1 y1=>y1.elim λa2 y2=>k a1 a2 y2.1 y2.2.1 y2.2.2
theorem NT{A1 A2:Type}{P1 P2 P3 P4:A1->A2->Prop}{q:Prop}(h:∃ a1 a2,P1 a1 a2/\P2 a1 a2/\P3 a1 a2/\P4 a1 a2)(k:∀ a1 a2,P1 a1 a2->P2 a1 a2->P3 a1 a2->P4 a1 a2->q):q:=h.elim λa1 y1=>y1.elim λa2 y2=>k a1 a2 y2.1 y2.2.1 y2.2.2.1 y2.2.2.2
theorem oV{A1 A2:Type}{P1 P2 P3 P4 P5:A1->A2->Prop}{q:Prop}(h:∃ a1 a2,P1 a1 a2/\P2 a1 a2/\P3 a1 a2/\P4 a1 a2/\P5 a1 a2)(k:∀ a1 a2,P1 a1 a2->P2 a1 a2->P3 a1 a2->P4 a1 a2->P5 a1 a2->q):q:=h.elim λa1 y1=>y1.elim λa2 y2=>k a1 a2 y2.1 y2.2.1 y2.2.2.1 y2.2.2.2.1 y2.2.2.2.2
theorem Qt{A1 A2 A3:Type}{P1:A1->A2->A3->Prop}{q:Prop}(h:∃ a1 a2 a3,P1 a1 a2 a3)(k:∀ a1 a2 a3,P1 a1 a2 a3->q):q:=h.elim λa1 y1=>y1.elim λa2 y2=>y2.elim λa3 y3=>k a1 a2 a3 y3
theorem Gf{A1 A2 A3:Type}{P1 P2:A1->A2->A3->Prop}{q:Prop}(h:∃ a1 a2 a3,P1 a1 a2 a3/\P2 a1 a2 a3)(k:∀ a1 a2 a3,P1 a1 a2 a3->P2 a1 a2 a3->q):q:=h.elim λa1 y1=>y1.elim λa2 y2=>y2.elim λa3 y3=>k a1 a2 a3 y3.1 y3.2
theorem G7{A1 A2 A3:Type}{P1 P2 P3:A1->A2->A3->Prop}{q:Prop}(h:∃ a1 a2 a3,P1 a1 a2 a3/\P2 a1 a2 a3/\P3 a1 a2 a3)(k:∀ a1 a2 a3,P1 a1 a2 a3->P2 a1 a2 a3->P3 a1 a2 a3->q):q:=h.elim λa1 y1=>y1.elim λa2 y2=>y2.elim λa3 y3=>k a1 a2 a3 y3.1 y3.2.1 y3.2.2
theorem Sj{A1 A2 A3:Type}{P1 P2 P3 P4:A1->A2->A3->Prop}{q:Prop}(h:∃ a1 a2 a3,P1 a1 a2 a3/\P2 a1 a2 a3/\P3 a1 a2 a3/\P4 a1 a2 a3)(k:∀ a1 a2 a3,P1 a1 a2 a3->P2 a1 a2 a3->P3 a1 a2 a3->P4 a1 a2 a3->q):q:=h.elim λa1 y1=>y1.elim λa2 y2=>y2.elim λa3 y3=>k a1 a2 a3 y3.1 y3.2.1 y3.2.2.1 y3.2.2.2
theorem gw{A1 A2 A3:Type}{P1 P2 P3 P4 P5:A1->A2->A3->Prop}{q:Prop}(h:∃ a1 a2 a3,P1 a1 a2 a3/\P2 a1 a2 a3/\P3 a1 a2 a3/\P4 a1 a2 a3/\P5 a1 a2 a3)(k:∀ a1 a2 a3,P1 a1 a2 a3->P2 a1 a2 a3->P3 a1 a2 a3->P4 a1 a2 a3->P5 a1 a2 a3->q):q:=h.elim λa1 y1=>y1.elim λa2 y2=>y2.elim λa3 y3=>k a1 a2 a3 y3.1 y3.2.1 y3.2.2.1 y3.2.2.2.1 y3.2.2.2.2
theorem bu{A1 A2 A3:Type}{P1 P2 P3 P4 P5 P6 P7:A1->A2->A3->Prop}{q:Prop}(h:∃ a1 a2 a3,P1 a1 a2 a3/\P2 a1 a2 a3/\P3 a1 a2 a3/\P4 a1 a2 a3/\P5 a1 a2 a3/\P6 a1 a2 a3/\P7 a1 a2 a3)(k:∀ a1 a2 a3,P1 a1 a2 a3->P2 a1 a2 a3->P3 a1 a2 a3->P4 a1 a2 a3->P5 a1 a2 a3->P6 a1 a2 a3->P7 a1 a2 a3->q):q:=h.elim λa1 y1=>y1.elim λa2 y2=>y2.elim λa3 y3=>k a1 a2 a3 y3.1 y3.2.1 y3.2.2.1 y3.2.2.2.1 y3.2.2.2.2.1 y3.2.2.2.2.2.1 y3.2.2.2.2.2.2
theorem oW{A1 A2 A3 A4:Type}{P1:A1->A2->A3->A4->Prop}{q:Prop}(h:∃ a1 a2 a3 a4,P1 a1 a2 a3 a4)(k:∀ a1 a2 a3 a4,P1 a1 a2 a3 a4->q):q:=h.elim λa1 y1=>y1.elim λa2 y2=>y2.elim λa3 y3=>y3.elim λa4 y4=>k a1 a2 a3 a4 y4
theorem oX{A1 A2 A3 A4:Type}{P1 P2:A1->A2->A3->A4->Prop}{q:Prop}(h:∃ a1 a2 a3 a4,P1 a1 a2 a3 a4/\P2 a1 a2 a3 a4)(k:∀ a1 a2 a3 a4,P1 a1 a2 a3 a4->P2 a1 a2 a3 a4->q):q:=h.elim λa1 y1=>y1.elim λa2 y2=>y2.elim λa3 y3=>y3.elim λa4 y4=>k a1 a2 a3 a4 y4.1 y4.2
theorem Sk{A1 A2 A3 A4:Type}{P1 P2 P3:A1->A2->A3->A4->Prop}{q:Prop}(h:∃ a1 a2 a3 a4,P1 a1 a2 a3 a4/\P2 a1 a2 a3 a4/\P3 a1 a2 a3 a4)(k:∀ a1 a2 a3 a4,P1 a1 a2 a3 a4->P2 a1 a2 a3 a4->P3 a1 a2 a3 a4->q):q:=h.elim λa1 y1=>y1.elim λa2 y2=>y2.elim λa3 y3=>y3.elim λa4 y4=>k a1 a2 a3 a4 y4.1 y4.2.1 y4.2.2
theorem LY{A1 A2 A3 A4:Type}{P1 P2 P3 P4:A1->A2->A3->A4->Prop}{q:Prop}(h:∃ a1 a2 a3 a4,P1 a1 a2 a3 a4/\P2 a1 a2 a3 a4/\P3 a1 a2 a3 a4/\P4 a1 a2 a3 a4)(k:∀ a1 a2 a3 a4,P1 a1 a2 a3 a4->P2 a1 a2 a3 a4->P3 a1 a2 a3 a4->P4 a1 a2 a3 a4->q):q:=h.elim λa1 y1=>y1.elim λa2 y2=>y2.elim λa3 y3=>y3.elim λa4 y4=>k a1 a2 a3 a4 y4.1 y4.2.1 y4.2.2.1 y4.2.2.2
theorem Xm{A1 A2 A3 A4:Type}{P1 P2 P3 P4 P5:A1->A2->A3->A4->Prop}{q:Prop}(h:∃ a1 a2 a3 a4,P1 a1 a2 a3 a4/\P2 a1 a2 a3 a4/\P3 a1 a2 a3 a4/\P4 a1 a2 a3 a4/\P5 a1 a2 a3 a4)(k:∀ a1 a2 a3 a4,P1 a1 a2 a3 a4->P2 a1 a2 a3 a4->P3 a1 a2 a3 a4->P4 a1 a2 a3 a4->P5 a1 a2 a3 a4->q):q:=h.elim λa1 y1=>y1.elim λa2 y2=>y2.elim λa3 y3=>y3.elim λa4 y4=>k a1 a2 a3 a4 y4.1 y4.2.1 y4.2.2.1 y4.2.2.2.1 y4.2.2.2.2
theorem oY{A1 A2 A3 A4 A5:Type}{P1 P2:A1->A2->A3->A4->A5->Prop}{q:Prop}(h:∃ a1 a2 a3 a4 a5,P1 a1 a2 a3 a4 a5/\P2 a1 a2 a3 a4 a5)(k:∀ a1 a2 a3 a4 a5,P1 a1 a2 a3 a4 a5->P2 a1 a2 a3 a4 a5->q):q:=h.elim λa1 y1=>y1.elim λa2 y2=>y2.elim λa3 y3=>y3.elim λa4 y4=>y4.elim λa5 y5=>k a1 a2 a3 a4 a5 y5.1 y5.2
theorem oZ{A1 A2 A3 A4 A5:Type}{P1 P2 P3 P4 P5:A1->A2->A3->A4->A5->Prop}{q:Prop}(h:∃ a1 a2 a3 a4 a5,P1 a1 a2 a3 a4 a5/\P2 a1 a2 a3 a4 a5/\P3 a1 a2 a3 a4 a5/\P4 a1 a2 a3 a4 a5/\P5 a1 a2 a3 a4 a5)(k:∀ a1 a2 a3 a4 a5,P1 a1 a2 a3 a4 a5->P2 a1 a2 a3 a4 a5->P3 a1 a2 a3 a4 a5->P4 a1 a2 a3 a4 a5->P5 a1 a2 a3 a4 a5->q):q:=h.elim λa1 y1=>y1.elim λa2 y2=>y2.elim λa3 y3=>y3.elim λa4 y4=>y4.elim λa5 y5=>k a1 a2 a3 a4 a5 y5.1 y5.2.1 y5.2.2.1 y5.2.2.2.1 y5.2.2.2.2
theorem bw{A1 A2 A3 A4 A5 A6:Type}{P1:A1->A2->A3->A4->A5->A6->Prop}{q:Prop}(h:∃ a1 a2 a3 a4 a5 a6,P1 a1 a2 a3 a4 a5 a6)(k:∀ a1 a2 a3 a4 a5 a6,P1 a1 a2 a3 a4 a5 a6->q):q:=h.elim λa1 y1=>y1.elim λa2 y2=>y2.elim λa3 y3=>y3.elim λa4 y4=>y4.elim λa5 y5=>y5.elim λa6 y6=>k a1 a2 a3 a4 a5 a6 y6
theorem o4{A1 A2 A3 A4 A5 A6 A7 A8 A9:Type}{P1 P2 P3 P4 P5 P6 P7 P8:A1->A2->A3->A4->A5->A6->A7->A8->A9->Prop}{q:Prop}(h:∃ a1 a2 a3 a4 a5 a6 a7 a8 a9,P1 a1 a2 a3 a4 a5 a6 a7 a8 a9/\P2 a1 a2 a3 a4 a5 a6 a7 a8 a9/\P3 a1 a2 a3 a4 a5 a6 a7 a8 a9/\P4 a1 a2 a3 a4 a5 a6 a7 a8 a9/\P5 a1 a2 a3 a4 a5 a6 a7 a8 a9/\P6 a1 a2 a3 a4 a5 a6 a7 a8 a9/\P7 a1 a2 a3 a4 a5 a6 a7 a8 a9/\P8 a1 a2 a3 a4 a5 a6 a7 a8 a9)(k:∀ a1 a2 a3 a4 a5 a6 a7 a8 a9,P1 a1 a2 a3 a4 a5 a6 a7 a8 a9->P2 a1 a2 a3 a4 a5 a6 a7 a8 a9->P3 a1 a2 a3 a4 a5 a6 a7 a8 a9->P4 a1 a2 a3 a4 a5 a6 a7 a8 a9->P5 a1 a2 a3 a4 a5 a6 a7 a8 a9->P6 a1 a2 a3 a4 a5 a6 a7 a8 a9->P7 a1 a2 a3 a4 a5 a6 a7 a8 a9->P8 a1 a2 a3 a4 a5 a6 a7 a8 a9->q):q:=h.elim λa1 y1=>y1.elim λa2 y2=>y2.elim λa3 y3=>y3.elim λa4 y4=>y4.elim λa5 y5=>y5.elim λa6 y6=>y6.elim λa7 y7=>y7.elim λa8 y8=>y8.elim λa9 y9=>k a1 a2 a3 a4 a5 a6 a7 a8 a9 y9.1 y9.2.1 y9.2.2.1 y9.2.2.2.1 y9.2.2.2.2.1 y9.2.2.2.2.2.1 y9.2.2.2.2.2.2.1 y9.2.2.2.2.2.2.2
theorem B6{A B:Sort _}{P:A->B->Prop}(a:A)(b:B)(z:P a b):∃ a b,P a b:=⟨a,b,z⟩
theorem EY{A B C:Sort _}{P:A->B->C->Prop}(a:A)(b:B)(c:C)(z:P a b c):∃ a b c,P a b c:=⟨a,b,c,z⟩
theorem Lm{A B C D:Sort _}{P:A->B->C->D->Prop}(a:A)(b:B)(c:C)(d:D)(z:P a b c d):∃ a b c d,P a b c d:=⟨a,b,c,d,z⟩
theorem j9{A B C D E:Sort _}{P:A->B->C->D->E->Prop}(a:A)(b:B)(c:C)(d:D)(e:E)(z:P a b c d e):∃ a b c d e,P a b c d e:=⟨a,b,c,d,e,z⟩
theorem jM{A B C D E F:Sort _}{P:A->B->C->D->E->F->Prop}(a:A)(b:B)(c:C)(d:D)(e:E)(f:F)(z:P a b c d e f):∃ a b c d e f,P a b c d e f:=⟨a,b,c,d,e,f,z⟩
theorem sH{A B C D E F G H I:Sort _}{P:A->B->C->D->E->F->G->H->I->Prop}(a:A)(b:B)(c:C)(d:D)(e:E)(f:F)(g:G)(h:H)(i:I)(z:P a b c d e f g h i):∃ a b c d e f g h i,P a b c d e f g h i:=⟨a,b,c,d,e,f,g,h,i,z⟩
theorem o5{A B C D E F G H I J:Sort _}{P:A->B->C->D->E->F->G->H->I->J->Prop}(a:A)(b:B)(c:C)(d:D)(e:E)(f:F)(g:G)(h:H)(i:I)(j:J)(z:P a b c d e f g h i j):∃ a b c d e f g h i j,P a b c d e f g h i j:=⟨a,b,c,d,e,f,g,h,i,j,z⟩
theorem o6{A B C D E F G H I J K:Sort _}{P:A->B->C->D->E->F->G->H->I->J->K->Prop}(a:A)(b:B)(c:C)(d:D)(e:E)(f:F)(g:G)(h:H)(i:I)(j:J)(k:K)(z:P a b c d e f g h i j k):∃ a b c d e f g h i j k,P a b c d e f g h i j k:=⟨a,b,c,d,e,f,g,h,i,j,k,z⟩
theorem wE{β:Type}{M:Model}{A:Around}{m m':Sem β}{Q:β->Shared->Prop}{E:Value->Shared->Prop}{s:Shared}(h:m=m')(w:wpAny M A m' Q E s):wpAny M A m Q E s:=h▸w
theorem sI{β:Type}{M:Model}{A:Around}{c:Prop}[Decidable c]{x y:Sem β}{Q:β->Shared->Prop}{E:Value->Shared->Prop}{s:Shared}(h:c)(w:wpAny M A x Q E s):wpAny M A (if c then x else y) Q E s:=wE (if_pos h) w
theorem sJ{β:Type}{M:Model}{A:Around}{c:Prop}[Decidable c]{x y:Sem β}{Q:β->Shared->Prop}{E:Value->Shared->Prop}{s:Shared}(h:¬ c)(w:wpAny M A y Q E s):wpAny M A (if c then x else y) Q E s:=wE (if_neg h) w
theorem Mv{α β:Type}{M:Model}{A:Around}{f:α->β->Sem (ForInStep β)}{b:β}{Q:β->Shared->Prop}{E:Value->Shared->Prop}{s:Shared}(h:Q b s):wpAny M A (forIn [] b f) Q E s:=by
 rw[List.forIn_nil];exact wpAny_pure h
theorem E3{α β:Type}{M:Model}{A:Around}{f:α->β->Sem (ForInStep β)}{b:β}{x:α}{l:List α}{Q:β->Shared->Prop}{E:Value->Shared->Prop}{s:Shared}(h:wpAny M A (f x b) (λr s'=>∃ b',r=.yield b'/\wpAny M A (forIn l b' f) Q E s') E s):wpAny M A (forIn (x::l) b f) Q E s:=by
 rw[List.forIn_cons]
 refine wpAny_bind (wpAny_mono h (λr s' hr=>?_) λuu uu z=>z)
 refine Am hr λb' e q=>?_
 rw[e];exact q
theorem Ob{α β:Type}{M:Model}{A:Around}{f:α->β->Sem (ForInStep β)}{b:β}{x y:α}{l:List α}{Q:β->Shared->Prop}{E:Value->Shared->Prop}{s:Shared}(hl:l=[x,y])(h:wpAny M A (f x b) (λr s'=>∃ b',r=.yield b'/\wpAny M A (f y b') (λr Pe=>∃ sL,r=.yield sL/\Q sL Pe) E s') E s):wpAny M A (forIn l b f) Q E s:=by
 rw[hl]
 exact E3 (wpAny_mono h (λr s' hr=>Am hr λb' e q=>⟨b',e,E3 (wpAny_mono q (λr s' hr=>Am hr λb' e q=>⟨b',e,Mv q⟩) λuu uu z=>z)⟩) λuu uu z=>z)
theorem snoc_inv{α:Type}{xs:List α}{x r:α}{i:Nat}{P:Prop}(e:(xs++[x])[i]?=some r)(h1:i<xs.length->xs[i]?=some r->P)(h2:i=xs.length->r=x->P):P:=by
 rcases Nat.lt_or_ge i xs.length with h|h
 . exact h1 h ((List.getElem?_append_left h).symm.trans e)
 . rw[List.getElem?_append_right h,List.getElem?_singleton] at e
   by_cases h0:i-xs.length=0
   . rw[if_pos h0] at e
     exact h2 (Nat.le_antisymm (Nat.sub_eq_zero_iff_le.mp h0) h) (Option.some.inj e).symm
   . rw[if_neg h0] at e
     exact ns e
theorem set_inv{α:Type}{xs:List α}{p r:α}{l i:Nat}{P:Prop}(e:(xs.set l p)[i]?=some r)(h1:l≠i->xs[i]?=some r->P)(h2:l=i->r=p->P):P:=by
 by_cases h:l=i
 . have hl:i<(xs.set l p).length:=(List.getElem?_eq_some_iff.mp e).1
   rw[List.length_set] at hl
   rw[h,List.getElem?_set_self hl] at e
   exact h2 h (Option.some.inj e).symm
 . rw[List.getElem?_set_ne h] at e
   exact h1 h e
end Mine.Internal
end
section
open PySem PySem.W PyProof.Rows
set_option tactic.hygienic false
theorem Mine.Internal.rowSaid:PySem.Challenge.rw_dm0091_02.wellSaid=true:=by left
local macro_rules | `(tactic| k_head) => `(tactic| x_head)
local macro_rules | `(tactic| o_law) => `(tactic| refine holds_law Mine.Internal.rowSaid λsaid => ?_)
open_top Mine.Internal.hd for PySem.Challenge.rw_dm0091_02
end
section
open PySem PySem.W PyProof.Rows PySem.Calls
namespace Mine.Internal
variable{A A':Around}{L a b c:Addr}{P:Value->Prop}{W':List Addr}{ac d d' i k l ln m n n':Nat}{cw sp:Str}{Cr ini ml:Int}{env:Env}{es:List DictEntry}{g:Array GenState}{h h' LZ:Heap}{p:Addr×Addr}{ps:List (Str×Str)}{qn v y:Value}{Aa:List Str}{vs ws:List Value}{α β:Type}
set_option tactic.hygienic false
theorem upTo{P:Nat->Prop}(n:Nat)(h1:∀ k,k<n->P k)(h2:P n):∀ k,k<n+1->P k:=λk hk=>(Nat.lt_or_eq_of_le (Nat.le_of_lt_succ hk)).elim (h1 k) λe=>e▸h2
theorem Mw{P:Nat->Prop}:∀ k,k<0->P k:=λk h=>absurd h (Nat.not_lt_zero k)
inductive AV where
 |none
 |bool (b:Bool)
 |int (i:Int)
 |str (s:Str)
 |tup (xs:List AV)
 |lst (xs:List AV)
 |loc (l:Nat)
variable{x:AV}{xs ys:List AV}
noncomputable def AV.int?:AV->Option Int
 | .none=>.none
 | .bool _=>.none
 | .int i=>.some i
 | .str _=>.none
 | .tup _=>.none
 | .lst _=>.none
 | .loc _=>.none
noncomputable def AV.str?:AV->Option Str
 | .none=>.none
 | .bool _=>.none
 | .int _=>.none
 | .str i=>.some i
 | .tup _=>.none
 | .lst _=>.none
 | .loc _=>.none
noncomputable def AV.tup?:AV->Option (List AV)
 | .none=>.none
 | .bool _=>.none
 | .int _=>.none
 | .str _=>.none
 | .tup i=>.some i
 | .lst _=>.none
 | .loc _=>.none
noncomputable def AV.lst?:AV->Option (List AV)
 | .none=>.none
 | .bool _=>.none
 | .int _=>.none
 | .str _=>.none
 | .tup _=>.none
 | .lst i=>.some i
 | .loc _=>.none
noncomputable def AV.loc?:AV->Option Nat
 | .none=>.none
 | .bool _=>.none
 | .int _=>.none
 | .str _=>.none
 | .tup _=>.none
 | .lst _=>.none
 | .loc i=>.some i
theorem AV.int_inv{i:Int}(h:x.int?=some i):x=.int i:=by
 cases x with
 |int j=>exact congrArg AV.int (Option.some.inj h)
 | _=>exact ns h
theorem AV.str_inv{i:Str}(h:x.str?=some i):x=.str i:=by
 cases x with
 |str j=>exact congrArg AV.str (Option.some.inj h)
 | _=>exact ns h
theorem AV.tup_inv{i:List AV}(h:x.tup?=some i):x=.tup i:=by
 cases x with
 |tup j=>exact congrArg AV.tup (Option.some.inj h)
 | _=>exact ns h
theorem AV.lst_inv{i:List AV}(h:x.lst?=some i):x=.lst i:=by
 cases x with
 |lst j=>exact congrArg AV.lst (Option.some.inj h)
 | _=>exact ns h
theorem AV.loc_inv(h:x.loc?=some i):x=.loc i:=by
 cases x with
 |loc j=>exact congrArg AV.loc (Option.some.inj h)
 | _=>exact ns h
inductive AO where
 |list (xs:List AV)
 |fmt (ml:Int) (cw:Str) (Cr:Int) (sp:Str) (ln ac:Nat)
 |acc (ini:Int) (parts:List (Str×Str))
 |ghost
 |gen (m k:Nat)
 |out (n:Nat)
 |cell (c:Addr) (x:Option AV)
 |ext (k:Nat) (cs:List AV)
variable{o:AO}
noncomputable def AO.isGen:AO->Bool
 | .gen ..=>true
 | .out ..=>true
 | _=>false
noncomputable def AO.list?:AO->Option (List AV)
 | .list xs=>some xs
 | .fmt ..=>none
 | .acc ..=>none
 | .ghost=>none
 | .gen ..=>none
 | .out ..=>none
 | .cell ..=>none
 | .ext ..=>none
noncomputable def AO.acc?:AO->Option (Int×List (Str×Str))
 | .list _=>none
 | .fmt ..=>none
 | .acc i ps=>some (i,ps)
 | .ghost=>none
 | .gen ..=>none
 | .out ..=>none
 | .cell ..=>none
 | .ext ..=>none
noncomputable def CT(σ:List AO)(l:Nat):Option (List AV):=σ[l]?.bind AO.list?
noncomputable def Cj(σ:List AO)(l:Nat):Option (Int×List (Str×Str)):=σ[l]?.bind AO.acc?
theorem Ei{σ:List AO}(h:CT σ l=some xs):σ[l]?=some (.list xs):=by
 unfold CT at h
 cases e:σ[l]? with
 |none=>rw[e] at h;exact ns h
 |some o =>
  rw[e] at h
  cases o with
  |list ys=>exact congrArg (λx=>some (AO.list x)) (Option.some.inj h)
  | _=>exact ns h
theorem B8{σ:List AO}{i:Int×List (Str×Str)}(h:Cj σ l=some i):σ[l]?=some (.acc i.1 i.2):=by
 unfold Cj at h
 cases e:σ[l]? with
 |none=>rw[e] at h;exact ns h
 |some o =>
  rw[e] at h
  cases o with
  |acc i ps=>exact congrArg (λx:Int×List (Str×Str)=>some (AO.acc x.1 x.2)) (Option.some.inj h)
  | _=>exact ns h
theorem AY{σ:List AO}(h:σ[l]?=some (.list xs)):CT σ l=some xs:=by unfold CT;rw[h];rfl
theorem Cy{σ:List AO}{i:Int}(h:σ[l]?=some (.acc i ps)):Cj σ l=some (i,ps):=by unfold Cj;rw[h];rfl
theorem oB{o:Option α}{f:α->Option β}{r:β}{P:Prop}(h:o.bind f=some r)(k:∀ a,o=some a->f a=some r->P):P:=by
 cases o with
 |none=>exact ns h
 |some a=>exact k a rfl h
theorem oM{o:Option α}{f:α->β}{r:β}{P:Prop}(h:o.map f=some r)(k:∀ a,o=some a->f a=r->P):P:=by
 cases o with
 |none=>exact ns h
 |some a=>exact k a rfl (Option.some.inj h)
theorem oO{a b:Option α}{r:α}{P:Prop}(h:a.or b=some r)(k1:a=some r->P)(k2:b=some r->P):P:=by
 cases a with
 |none=>exact k2 h
 |some x=>exact k1 h
noncomputable def gd(c:Bool)(a:α):Option α:=if c then some a else none
theorem oG{c:Bool}{a r:α}{P:Prop}(h:gd c a=some r)(k:c=true->a=r->P):P:=by
 cases c with
 |false=>exact ns h
 |true=>exact k rfl (Option.some.inj h)
theorem AZ{c:Bool}{a:α}(h:c=true):gd c a=some a:=if_pos h
noncomputable def I5:List AV->Option AV
 | [x]=>some x
 | []=>none
 | _::_::_=>none
noncomputable def JG:List AV->Option (AV×AV)
 | [x,y]=>some (x,y)
 | []=>none
 | [_]=>none
 | _::_::_::_=>none
theorem Qw(h:I5 xs=some x):xs=[x]:=by
 cases xs with
 |nil=>exact ns h
 |cons a r=>cases r with
  |nil=>exact congrArg (λx=>[x]) (Option.some.inj h)
  |cons b s=>exact ns h
theorem Mx{p:AV×AV}(h:JG xs=some p):xs=[p.1,p.2]:=by
 cases xs with
 |nil=>exact ns h
 |cons a r=>cases r with
  |nil=>exact ns h
  |cons b s=>cases s with
   |nil=>exact congrArg (λp:AV×AV=>[p.1,p.2]) (Option.some.inj h)
   |cons c u=>exact ns h
noncomputable abbrev St:=List AO
variable{σ:St}
noncomputable abbrev Lc:=List (Option AV)
variable{lc:Lc}
noncomputable abbrev D7:=List (Addr×Addr)
variable{ρ Ar:D7}
structure Cfg where
 prog:Program
 w:World
 K:Frag
 s₁:Shared
 VF:Addr
 ACC:Addr
 /-- code objects with ka tables and what stood in these -/
 tabs:List (Addr×Addr×Array Value)
 /-- how a generator sleeps: where sM frame's names stand,how often it was asked -/
 G:Addr->Nat->GenState->Prop
 /-- what other objects are: ka two objects,Um values they name -/
 X:Nat->Addr×Addr->List Value->Obj->Obj->Prop
variable{C:Cfg}
theorem sf{γ:Type}{c:Prop}[Decidable c]{A:Option γ}{r:γ}{P:Prop}(h:(if c then A else none)=some r)(k:c->A=some r->P):P:=by
 by_cases hc:c
 . exact k hc ((if_pos hc).symm.trans h)
 . exact nomatch (if_neg hc).symm.trans h
noncomputable def Cfg.isTab(C:Cfg)(a:Addr):Prop:=a∈C.tabs.map (·.2.1)
noncomputable def Ds(C:Cfg)(ρ:D7)(a:Addr):Prop:=C.isTab a\/∃ p∈ρ,p.1=a\/p.2=a
noncomputable abbrev Pf(vs:List Value)(n:Nat):Obj:={ cls:=.type "tuple",data:=.seq vs.toArray n }
noncomputable abbrev Ck(vs:List Value)(n:Nat):Obj:={ cls:=.type "list",data:=.seq vs.toArray n }
mutual
inductive VR (C:Cfg) (ρ:D7) (h:Heap):AV->Value->Prop
 |none:VR C ρ h .none .none
 |bool (b:Bool):VR C ρ h (.bool b) (.bool b)
 |int (i:Int) (t:Tok):VR C ρ h (.int i) (.int i t)
 |str (x:Str) (t:Tok) (ok:PyData.strOk x=true):VR C ρ h (.str x) (.str x t)
 |tup {a:Addr} {vs:List Value} {n:Nat} {xs:List AV} (ho:h.get? a=some (Pf vs n)) (hm:¬ Ds C ρ a) (hs:Bx C ρ h xs vs):VR C ρ h (.tup xs) (.ref a)
 |lst {a:Addr} {vs:List Value} {n:Nat} {xs:List AV} (ho:h.get? a=some (Ck vs n)) (hm:¬ Ds C ρ a) (hs:Bx C ρ h xs vs):VR C ρ h (.lst xs) (.ref a)
 |loc {l:Nat} {p:Addr×Addr} (e:ρ[l]?=some p):VR C ρ h (.loc l) (.ref p.1)
inductive Bx (C:Cfg) (ρ:D7) (h:Heap):List AV->List Value->Prop
 |nil:Bx C ρ h [] []
 |cons {x:AV} {v:Value} {xs:List AV} {vs:List Value} (a:VR C ρ h x v) (b:Bx C ρ h xs vs):Bx C ρ h (x::xs) (v::vs)
end
structure Step (C:Cfg) (W:List Addr) (ρ Ar:D7) (h h':Heap):Prop where
 size:h.objs.size<=h'.objs.size
 keep:∀ b o,h.get? b=some o->¬ Ds C ρ b->b∉W->h'.get? b=some o
 grow:∃ δ,Ar=ρ++δ/\∀ p∈δ,h.objs.size<=p.1/\h.objs.size<=p.2
section
variable{W:List Addr}{kb:D7}
theorem Step.refl:Step C W ρ ρ h h:=⟨Nat.le_refl _,λuu uu e uu uu=>e,[],by simp,λuu hp=>nm hp⟩
theorem Step.same(k:∀ b o,h.get? b=some o->h'.get? b=some o)(z:h.objs.size<=h'.objs.size):Step C W ρ ρ h h':=⟨z,λb o e uu uu=>k b o e,[],by simp,λuu hp=>nm hp⟩
theorem Ds.grow(S:Step C W ρ Ar h h')(hb:b<h.objs.size)(n:¬ Ds C ρ b):¬ Ds C Ar b:=by
 obtain⟨δ,rfl,Me⟩:=S.grow
 rintro(t|⟨p,hp,e⟩)
 . exact n (.inl t)
 . rcases List.mem_append.mp hp with hp|hp
   . exact n (.inr ⟨p,hp,e⟩)
   . rcases e with e|e
     . exact absurd hb (Nat.not_lt.mpr (e▸(Me p hp).1))
     . exact absurd hb (Nat.not_lt.mpr (e▸(Me p hp).2))
theorem Step.trans(S:Step C W ρ Ar h h')(T:Step C W Ar kb h' LZ):Step C W ρ kb h LZ:=by
 refine⟨Nat.le_trans S.size T.size,λb o e n w=>T.keep b o (S.keep b o e n w) (Ds.grow S (Heap.lt_size e) n) w,?_⟩
 obtain⟨δ,rfl,Me⟩:=S.grow
 obtain⟨o7,rfl,ke⟩:=T.grow
 refine⟨δ++o7,by simp,λp hp=>?_⟩
 rcases List.mem_append.mp hp with hp|hp
 . exact Me p hp
 . exact⟨Nat.le_trans S.size (ke p hp).1,Nat.le_trans S.size (ke p hp).2⟩
theorem Step.weaken(S:Step C W ρ Ar h h')(hw:∀ a∈W,a∈W'):Step C W' ρ Ar h h' :=
 ⟨S.size,λb o e n w=>S.keep b o e n λq=>w (hw _ q),S.grow⟩
theorem Step.of_nil(S:Step C [] ρ Ar h h'):Step C W ρ Ar h h':=S.weaken λuu q=>nm q
theorem Step.above(S:Step C W' ρ Ar h h')(hw:∀ a∈W',h.objs.size<=a):Step C W ρ Ar h h' :=
 ⟨S.size,λb o e n uu=>S.keep b o e n λq=>absurd (Heap.lt_size e) (Nat.not_lt.mpr (hw _ q)),S.grow⟩
theorem Step.pushObj(o:Obj):Step C W ρ ρ h (h.push o):=.same (λuu uu e=>Heap.get?_push_of_some _ e) (by rw[Heap.size_push];exact Nat.le_add_right _ _)
theorem VR.step(S:Step C W ρ Ar h h')(hW:∀ a o vs n,a∈W->h.get? a=some o->o.data≠.seq vs n)(q:VR C ρ h x v):VR C Ar h' x v :=
 VR.rec (motive_1:=λx v uu=>VR C Ar h' x v) (motive_2:=λxs vs uu=>Bx C Ar h' xs vs) .none (λb=>.bool b) (λi t=>.int i t) (λx t ok=>.str x t ok)
  (λho hm uu ih=>.tup (S.keep _ _ ho hm λq=>hW _ _ _ _ q ho rfl) (Ds.grow S (Heap.lt_size ho) hm) ih) (λho hm uu ih=>.lst (S.keep _ _ ho hm λq=>hW _ _ _ _ q ho rfl) (Ds.grow S (Heap.lt_size ho) hm) ih)
  (λe=>by
   (refine Am (S.grow) λδ IF uu=>?_;subst IF)
   exact .loc (by rw[List.getElem?_append_left (List.getElem?_eq_some_iff.mp e).1];exact e)) .nil (λuu uu a b=>.cons a b) q
theorem Bx.ind{P:List AV->List Value->Prop}(h0:P [] [])(h1:∀ {x v xs vs},VR C ρ h x v->Bx C ρ h xs vs->P xs vs->P (x::xs) (v::vs))(q:Bx C ρ h xs vs):P xs vs :=
 Bx.rec (motive_1:=λuu uu uu=>True) (motive_2:=λxs vs uu=>P xs vs) trivial (λuu=>trivial) (λuu uu=>trivial) (λuu uu uu=>trivial) (λuu uu uu uu=>trivial) (λuu uu uu uu=>trivial) (λuu=>trivial) h0 (λa b uu ih=>h1 a b ih) q
theorem Bx.step(S:Step C W ρ Ar h h')(hW:∀ a o vs n,a∈W->h.get? a=some o->o.data≠.seq vs n)(q:Bx C ρ h xs vs):Bx C Ar h' xs vs :=
 q.ind (P:=Bx C Ar h') .nil λa uu ih=>.cons (a.step S hW) ih
theorem sO:∀ a o vs n,a∈([]:List Addr)->h.get? a=some o->o.data≠.seq vs n:=λuu uu uu uu q=>nm q
theorem VR.go(S:Step C [] ρ Ar h h')(q:VR C ρ h x v):VR C Ar h' x v:=q.step S sO
theorem Bx.go(S:Step C [] ρ Ar h h'){x:List AV}{v:List Value}(q:Bx C ρ h x v):Bx C Ar h' x v:=q.step S sO
theorem Bx.length(q:Bx C ρ h xs vs):vs.length=xs.length:=q.ind (P:=λxs vs=>vs.length=xs.length) rfl λuu uu ih=>congrArg (·+1) ih
theorem Bx.append(q:Bx C ρ h xs vs)(b:Bx C ρ h ys ws):Bx C ρ h (xs++ys) (vs++ws):=q.ind (P:=λxs vs=>Bx C ρ h (xs++ys) (vs++ws)) b λa uu ih=>.cons a ih
theorem Bx.get(q:Bx C ρ h xs vs)(e:xs[i]?=some x):∃ v,vs[i]?=some v/\VR C ρ h x v:=by
 refine q.ind (P:=λxs vs=>∀ i,xs[i]?=some x->∃ v,vs[i]?=some v/\VR C ρ h x v) (λi e=>by simp at e) (λa uu ih i e=>?_) i e
 cases i with
 |zero=>cases e;exact⟨_,rfl,a⟩
 |succ i=>exact ih i e
theorem Bx.take(q:Bx C ρ h xs vs):∀ n,Bx C ρ h (xs.take n) (vs.take n) :=
 q.ind (P:=λxs vs=>∀ n,Bx C ρ h (xs.take n) (vs.take n)) (λn=>by cases n<;>exact .nil) λa uu ih n=>by
  cases n with
  |zero=>exact .nil
  |succ n=>exact .cons a (ih n)
theorem Bx.drop(q:Bx C ρ h xs vs):∀ n,Bx C ρ h (xs.drop n) (vs.drop n) :=
 q.ind (P:=λxs vs=>∀ n,Bx C ρ h (xs.drop n) (vs.drop n)) (λn=>by cases n<;>exact .nil) λa b ih n=>by
  cases n with
  |zero=>exact .cons a b
  |succ n=>exact ih n
end
inductive CX (C:Cfg) (ρ:D7) (h:Heap):List (Str×AV)->List DictEntry->Prop
 |nil:CX C ρ h [] []
 |cons {k:Str} {x:AV} {t:Tok} {v:Value} {r:List (Str×AV)} {es:List DictEntry} (a:VR C ρ h x v) (b:CX C ρ h r es):CX C ρ h ((k,x)::r) (⟨PyData.keyHash C.w.params k,.str k t,v⟩::es)
noncomputable def AK(p:Str×Str):AV:=.tup [.str p.1,.str p.2]
noncomputable def B2(ml:Int)(cw:Str)(Cr:Int)(sp:Str)(ln ac:Nat):List (Str×AV) :=
 [("_maxlen",.int ml),("_continuation_ws",.str cw),("_continuation_ws_len",.int Cr),("_splitchars",.str sp),("_lines",.loc ln),("_current_line",.loc ac)]
noncomputable def C6(ini:Int):List (Str×AV):=[("_initial_size",.int ini)]
structure D8 (ρ:D7) (h:Heap) (L:Addr) (m:Nat):Prop where
 self:∃ mm q,h.Ns L mm/\ρ[m]?=some q/\mm "self" = some (.ref q.1)
theorem D8.keep(q:D8 ρ h L m)(k:∀ o,h.get? L=some o->h'.get? L=some o):D8 ρ h' L m :=
 Dt (q.self) λmm q a b c=>⟨mm,q,a.at k,b,c⟩
theorem D8.grow(q:D8 ρ h L m)(δ:D7):D8 (ρ++δ) h L m :=
 Dt (q.self) λmm q a b c=>⟨mm,q,a,by rw[List.getElem?_append_left (List.getElem?_eq_some_iff.mp b).1];exact b,c⟩
noncomputable abbrev Ce(n:Nat)(nm qn:Value):Obj:={ cls:=.type "generator",data:=.fields #[rawInt n,nm,qn] }
theorem cellAt{v:Option Value}(x:h.IsCell c v)(k:∀ o,h.get? c=some o->h'.get? c=some o):h'.IsCell c v:=Am (x) λo a b=>⟨o,k o a,b⟩
noncomputable def o8(ob:Obj):Prop:=(∀ vs,ob.data≠.fields vs)\/ob.cls=.type "generator"
noncomputable def I6(o:Obj):Prop:=o.cls=.type "code" /\ ∃ vs,o.data=.fields vs
noncomputable def Un(o:Obj):Option Addr:=match o.data with
 | .func fd=>(match fd.code with
  | .ref c=>some c
  | _=>none)
 | _=>none
noncomputable def Xo(h:Heap)(o:Obj):Prop:=∀ c,Un o=some c->∃ ob vs v,h.get? c=some ob/\ob.cls=.type "code" /\ ob.data=.fields vs/\vs[1]?=some v
noncomputable def Ct(C:Cfg)(ρ:D7)(h:Heap)(p:Addr×Addr)(o:AO):Prop:=match o with
 | .list xs=>∃ vs n,p.2=p.1/\h.get? p.1=some (Ck vs n)/\Bx C ρ h xs vs
 | .fmt ml cw Cr sp ln ac=>∃ es n,h.get? p.1=some ⟨.ref C.VF,some p.2,.plain,#[]⟩/\h.get? p.2=some (dictOf es n)/\CX C ρ h (B2 ml cw Cr sp ln ac) es
 | .acc ini parts=>∃ es n n' vs,h.get? p.1=some ⟨.ref C.ACC,some p.2,.seq (List.toArray vs) n,#[]⟩/\h.get? p.2=some (dictOf es n')/\CX C ρ h (C6 ini) es/\Bx C ρ h (parts.map AK) vs
 | .ghost=>∃ x y n,p.2=p.1/\h.get? p.1=some { cls:=.type "tuple",data:=.seq #[x,y] n }
 | .gen m _=>∃ n nm qn,h.get? p.1=some (Ce n nm qn)/\D8 ρ h p.2 m
 | .out n=>∃ nm qn,p.2=p.1/\h.get? p.1=some (Ce n nm qn)
 | .cell c x=>p=(c,c)/\match x with
  |none=>h.IsCell c none
  |some x=>∃ v,h.IsCell c (some v)/\VR C ρ h x v
 | .ext k cs=>∃ o1 o2 vs,h.get? p.1=some o1/\h.get? p.2=some o2/\o8 o1/\o8 o2/\Bx C ρ h cs vs/\(k=0\/C.X k p vs o1 o2)/\Xo h o1
theorem Ct.list(ho:h.get? a=some (Ck vs n))(hs:Bx C ρ h xs vs):Ct C ρ h (a,a) (.list xs):=(B6 vs n ⟨rfl,ho,hs⟩)
theorem Ct.fmt{d:Addr}(ho:h.get? a=some ⟨.ref C.VF,some d,.plain,#[]⟩)(hd:h.get? d=some (dictOf es n))(he:CX C ρ h (B2 ml cw Cr sp ln ac) es):Ct C ρ h (a,d) (.fmt ml cw Cr sp ln ac):=(B6 es n ⟨ho,hd,he⟩)
theorem Ct.acc{d:Addr}{parts:List (Str×Str)}(ho:h.get? a=some ⟨.ref C.ACC,some d,.seq vs.toArray n,#[]⟩)(hd:h.get? d=some (dictOf es n'))(he:CX C ρ h (C6 ini) es)(hs:Bx C ρ h (parts.map AK) vs):Ct C ρ h (a,d) (.acc ini parts):=(Lm es n n' vs ⟨ho,hd,he,hs⟩)
theorem Ct.ghost{x:Value}(ho:h.get? a=some { cls:=.type "tuple",data:=.seq #[x,y] n }):Ct C ρ h (a,a) .ghost:=(EY x y n ⟨rfl,ho⟩)
theorem Ct.gen{nm:Value}(ho:h.get? a=some (Ce n nm qn))(hL:D8 ρ h L m):Ct C ρ h (a,L) (.gen m k):=(EY n nm qn ⟨ho,hL⟩)
theorem Ct.out{nm:Value}(ho:h.get? a=some (Ce n nm qn)):Ct C ρ h (a,a) (.out n):=(B6 nm qn ⟨rfl,ho⟩)
theorem Ct.cell0(ho:h.IsCell c Option.none):Ct C ρ h (c,c) (.cell c none):=⟨rfl,ho⟩
theorem Ct.cell(ho:h.IsCell c (some v))(q:VR C ρ h x v):Ct C ρ h (c,c) (.cell c (some x)):=⟨rfl,v,ho,q⟩
theorem Pg{a b a' b':Value}{o:Option Obj}(h:o=some (Ce n a b))(h':o=some (Ce n' a' b')):n=n':=by
 rw[h] at h';cases h';rfl
theorem kf{m' k':Nat}(e:AO.gen m k=.gen m' k'):k=k':=by cases e;rfl
theorem bx{P:Prop}(e:AO.out n=.gen m k):P:=by cases e
structure GR (C:Cfg) (ρ:D7) (σ:St) (h:Heap) (g:Array GenState):Prop where
 bare:AllBare g
 live:∀ (l:Nat) (p:Addr×Addr) (m k:Nat),ρ[l]?=some p->σ[l]?=some (.gen m k)->∃ n nm qn st,h.get? p.1=some (Ce n nm qn)/\g[n]?=some st/\C.G p.2 k st
 outs:∀ (l:Nat) (p:Addr×Addr) (n:Nat),ρ[l]?=some p->σ[l]?=some (.out n)->∃ nm qn,h.get? p.1=some (Ce n nm qn)/\g[n]?=some .running
 apart:∀ (l l':Nat) (p p':Addr×Addr) (o o':AO) (n:Nat) (nm qn bz jN:Value),ρ[l]?=some p->ρ[l']?=some p'->σ[l]?=some o->o.isGen=true->σ[l']?=some o'->o'.isGen=true ->
  h.get? p.1=some (Ce n nm qn)->h.get? p'.1=some (Ce n bz jN)->l=l'
section
variable{g':Array GenState}
theorem GR.obj(q:GR C ρ σ h g)(e:ρ[l]?=some p)(e':σ[l]?=some o)(hg:o.isGen=true):∃ n nm qn,h.get? p.1=some (Ce n nm qn)/\n<g.size:=by
 cases o with
 |gen m k=>(refine Sk (q.live l p m k e e') λn nm qn st z y uu=>?_);exact(EY n nm qn ⟨z,(Array.getElem?_eq_some_iff.mp y).1⟩)
 |out n=>(refine Es (q.outs l p n e e') λnm qn z y=>?_);exact(EY n nm qn ⟨z,(Array.getElem?_eq_some_iff.mp y).1⟩)
 | _=>cases hg
theorem GR.mono(q:GR C ρ σ h g)(b:AllBare g')(k:∀ (i:Nat) (st:GenState),g[i]?=some st->g'[i]?=some st):GR C ρ σ h g' :=
 ⟨b,λl p m i e e'=>Sk (q.live l p m i e e') λn nm qn st z x y=>(Lm n nm qn st ⟨z,k _ _ x,y⟩),λl p n e e'=>Es (q.outs l p n e e') λnm qn z x=>(B6 nm qn ⟨z,k _ _ x⟩),q.apart⟩
theorem GR.heap(q:GR C ρ σ h g)(k:∀ (l:Nat) (p:Addr×Addr) (o:AO),ρ[l]?=some p->σ[l]?=some o->o.isGen=true->∀ ob,h.get? p.1=some ob->h'.get? p.1=some ob):GR C ρ σ h' g:=by
 refine⟨q.bare,λl p m i e e'=>Sk (q.live l p m i e e') λn nm qn st z x y=>(Lm n nm qn st ⟨k _ _ _ e e' rfl _ z,x,y⟩),λl p n e e'=>Es (q.outs l p n e e') λnm qn z x=>(B6 nm qn ⟨k _ _ _ e e' rfl _ z,x⟩),?_⟩
 intro l l' p p' o o' n nm qn bz jN e1 e2 e3 g3 e4 g4 e5 e6
 (refine Gf (q.obj e1 e3 g3) λn1 a1 b1 z1 uu=>?_)
 (refine Gf (q.obj e2 e4 g4) λn2 a2 b2 z2 uu=>?_)
 have w1:=(k _ _ _ e1 e3 g3 _ z1).symm.trans e5
 have w2:=(k _ _ _ e2 e4 g4 _ z2).symm.trans e6
 cases w1
 cases w2
 exact q.apart l l' p p' o o' _ _ _ _ _ e1 e2 e3 g3 e4 g4 z1 z2
theorem GR.set(q:GR C ρ σ h g)(ng:o.isGen=false):GR C ρ (σ.set l o) h g:=by
 have k:∀ (i:Nat) (x:AO),(σ.set l o)[i]?=some x->x.isGen=true->σ[i]?=some x:=by
  intro i x e hx
  by_cases hi:l=i
  . subst hi
    rw[List.getElem?_set,if_pos rfl] at e
    (refine sf e ?_;clear e;intro uu e)
    cases e;rw[hx] at ng;cases ng
  . rw[List.getElem?_set_ne hi] at e;exact e
 exact⟨q.bare,λi p m n e e'=>q.live i p m n e (k _ _ e' rfl),λi p n e e'=>q.outs i p n e (k _ _ e' rfl),λi j p p' x x' r a b c d e1 e2 e3 g3 e4 g4=>q.apart i j p p' x x' r a b c d e1 e2 (k _ _ e3 g3) g3 (k _ _ e4 g4) g4⟩
theorem GR.snoc(q:GR C ρ σ h g)(hl:ρ.length=σ.length)(ng:o.isGen=false):GR C (ρ++[p]) (σ++[o]) h g:=by
 have k:∀ (i:Nat) (x:AO),(σ++[o])[i]?=some x->x.isGen=true->i<ρ.length/\σ[i]?=some x:=by
  intro i x e hx
  by_cases hi:i<σ.length
  . rw[List.getElem?_append_left hi] at e;exact⟨hl▸hi,e⟩
  . rw[List.getElem?_append_right (Nat.not_lt.mp hi),List.getElem?_singleton] at e
    (refine sf e ?_;clear e;intro uu e)
    cases e;rw[hx] at ng;cases ng
 have r:∀ (i:Nat) {q:Addr×Addr},i<ρ.length->(ρ++[p])[i]?=some q->ρ[i]?=some q:=λi q hi e=>by rw[List.getElem?_append_left hi] at e;exact e
 refine⟨q.bare,λi p' m n e e'=>?_,λi p' n e e'=>?_,λi j p1 p2 x x' n a b c d e1 e2 e3 g3 e4 g4=>?_⟩
 . (refine AS (k _ _ e' rfl) λa b=>?_)
   exact q.live i p' m n (r _ a e) b
 . (refine AS (k _ _ e' rfl) λa b=>?_)
   exact q.outs i p' n (r _ a e) b
 . (refine AS (k _ _ e3 g3) λh1 s1=>?_)
   (refine AS (k _ _ e4 g4) λh2 s2=>?_)
   exact q.apart i j p1 p2 x x' n a b c d (r _ h1 e1) (r _ h2 e2) s1 g3 s2 g4
end
noncomputable def JH(h:Heap)(ps:Array Value):Prop:=∀ pos cv,codeAmong pos ps.toList=some cv->∃ c o vs v,cv=.ref c/\h.get? c=some o/\o.cls=.type "code" /\ o.data=.fields vs/\vs[1]?=some v
structure My (h:Heap) (c P:Addr) (ps:Array Value):Prop where
 at_:h.TableAt c P ps
 codes:JH h ps
theorem JH.move{ps:Array Value}(x:JH h ps)(k:∀ b o,h.get? b=some o->I6 o->h'.get? b=some o):JH h' ps:=λpos cv e=>Xm (x pos cv e) λc o vs v a1 a2 a3 a4 a5=>(Lm c o vs v ⟨a1,k _ _ a2 ⟨a3,_,a4⟩,a3,a4,a5⟩)
theorem My.move{P:Addr}{ps:Array Value}(x:My h c P ps)(k:∀ b o,h.get? b=some o->I6 o->h'.get? b=some o)(kP:∀ o,h.get? P=some o->h'.get? P=some o):My h' c P ps :=
 ⟨⟨NT x.at_.1 λo vs a b d e=>(B6 o vs ⟨k _ _ a ⟨b,_,d⟩,b,d,e⟩),kP _ x.at_.2⟩,x.codes.move k⟩
theorem My.keeps{P:Addr}{ps:Array Value}(x:My h c P ps)(k:∀ b o,h.get? b=some o->h'.get? b=some o):My h' c P ps:=x.move (λb o e uu=>k b o e) (k P)
structure Rel (C:Cfg) (ρ:D7) (σ:St) (s:Shared):Prop where
 old:∀ b o,C.s₁.heap.get? b=some o->¬ C.isTab b->s.heap.get? b=some o
 tab:∀ t∈C.tabs,∃ more,s.heap.IsCode t.1 t.2.1 (t.2.2++more)/\My s.heap t.1 t.2.1 (t.2.2++more)
 lo:∀ p∈ρ,C.s₁.heap.objs.size<=p.1/\C.s₁.heap.objs.size<=p.2
 dis:ρ.Pairwise λp q=>p.1≠q.1/\p.1≠q.2/\p.2≠q.1/\p.2≠q.2
 len:ρ.length=σ.length
 st:∀ (l:Nat) (p:Addr×Addr) (o:AO),ρ[l]?=some p->σ[l]?=some o->Ct C ρ s.heap p o
 gens:GR C ρ σ s.heap s.gens
 drawn:s.drawn=C.s₁.drawn
 os:s.os=C.s₁.os
 size:C.s₁.heap.objs.size<=s.heap.objs.size
noncomputable def Cx(C:Cfg)(ρ:D7)(h:Heap)(L:Addr)(Aa:List Str)(lc:Lc):Prop :=
 (∃ m,h.Ns L m/\∀ (i:Nat) (x:AV),lc[i]?=some (some x)->∃ n v,Aa[i]?=some n/\m n=some v/\VR C ρ h x v)/\¬ Ds C ρ L/\C.s₁.heap.objs.size<=L/\lc.length=Aa.length
structure Bi (env:Env) (Aa:List Str):Prop where
 kind:env.scope.kind=.function
 loc:∀ x∈Aa,env.kindOf x=some .local
 nodup:Aa.Nodup
 glob:env.globals=mainGlobals
 blt:env.builtins=builtinsNs
noncomputable def gx(C:Cfg)(A:Around):Prop:=∃ l,A.frames=some l/\l≠[]/\l.length+301<=A.depth/\∀ e,l.getLast?=some e->e.frame=some C.s₁.heap.objs.size/\e.scope.kind≠.module
noncomputable def EL(C:Cfg)(d:Nat)(A:Around):Prop:=A.handled=none/\A.depth+d<recursionLimit/\A.units+8*d<cLine/\gx C A
theorem gx.push(a:gx C A){es:List Env}(h:A'.frames=A.frames.map (es++·))(hz:A.depth+es.length<=A'.depth):gx C A' :=
 Mu a λl e n z k=>⟨es++l,by rw[h,e];rfl,λq=>n (List.append_eq_nil_iff.mp q).2,by rw[List.length_append,Nat.add_assoc,Nat.add_comm];exact Nat.le_trans (Nat.add_le_add_right z _) hz,λx hx=>k x (by rw[<- hx,List.getLast?_append,List.getLast?_eq_some_getLast n];rfl)⟩
theorem gx.same(a:gx C A)(h:A'.frames=A.frames)(hz:A.depth<=A'.depth):gx C A' :=
 Mu a λl e n z k=>⟨l,h.trans e,n,Nat.le_trans z hz,k⟩
noncomputable abbrev EM:=Lc->St->Option (AV×St)
inductive Fl where
 |next|brk|cont|ret (v:AV)
noncomputable abbrev SM:=Lc->St->Option (Fl×Lc×St)
noncomputable abbrev TM:=Lc->St->Option (Bool×St)
noncomputable def AQ(C:Cfg)(d:Nat)(env:Env)(Aa:List Str)(e:Expr)(f:EM):Prop :=
 ∀ lc σ x σ',f lc σ=some (x,σ')->∀ (A:Around) (Q:Value->Shared->Prop) (E:Value->Shared->Prop) (s:Shared) (ρ:D7),EL C d A->Rel C ρ σ s->Cx C ρ s.heap env.locals Aa lc ->
  (∀ v s' Ar,Rel C Ar σ' s'->Step C [] ρ Ar s.heap s'.heap->VR C Ar s'.heap x v->Q v s')->wpAny (model C.prog C.w) A (eval e env) Q E s
noncomputable def KD(C:Cfg)(d:Nat)(env:Env)(Aa:List Str)(e:Expr)(f:TM):Prop :=
 ∀ lc σ b σ',f lc σ=some (b,σ')->∀ (A:Around) (Q:Bool->Shared->Prop) (E:Value->Shared->Prop) (s:Shared) (ρ:D7),EL C d A->Rel C ρ σ s->Cx C ρ s.heap env.locals Aa lc ->
  (∀ s' Ar,Rel C Ar σ' s'->Step C [] ρ Ar s.heap s'.heap->Q b s')->wpAny (model C.prog C.w) A (isTrue e env (eval e env)) Q E s
inductive Ph (C:Cfg) (ρ:D7) (h:Heap):Fl->Flow->Prop
 |next:Ph C ρ h .next .next
 |brk:Ph C ρ h .brk .brk
 |cont:Ph C ρ h .cont .cont
 |ret {x:AV} {v:Value} (a:VR C ρ h x v):Ph C ρ h (.ret x) (.ret v)
noncomputable def E4(C:Cfg)(d:Nat)(env:Env)(Aa:List Str)(st:Stmt)(f:SM):Prop :=
 ∀ lc σ fl lc' σ',f lc σ=some (fl,lc',σ')->∀ (A:Around) (Q:Flow->Shared->Prop) (E:Value->Shared->Prop) (s:Shared) (ρ:D7),EL C d A->Rel C ρ σ s->Cx C ρ s.heap env.locals Aa lc ->
  (∀ w s' Ar,Rel C Ar σ' s'->Step C [env.locals] ρ Ar s.heap s'.heap->Cx C Ar s'.heap env.locals Aa lc'->Ph C Ar s'.heap fl w->Q w s')->wpAny (model C.prog C.w) A (exec st env) Q E s
noncomputable def G8(C:Cfg)(d:Nat)(env:Env)(Aa:List Str)(b:List Stmt)(f:SM):Prop :=
 ∀ lc σ fl lc' σ',f lc σ=some (fl,lc',σ')->∀ (A:Around) (Q:Flow->Shared->Prop) (E:Value->Shared->Prop) (s:Shared) (ρ:D7),EL C d A->Rel C ρ σ s->Cx C ρ s.heap env.locals Aa lc ->
  (∀ w s' Ar,Rel C Ar σ' s'->Step C [env.locals] ρ Ar s.heap s'.heap->Cx C Ar s'.heap env.locals Aa lc'->Ph C Ar s'.heap fl w->Q w s')->wpAny (model C.prog C.w) A (execs b env) Q E s
theorem EL.mono(a:EL C d A)(h:d'<=d):EL C d' A:=⟨a.1,Nat.lt_of_le_of_lt (Nat.add_le_add_left h _) a.2.1,Nat.lt_of_le_of_lt (Nat.add_le_add_left (Nat.mul_le_mul_left 8 h) _) a.2.2.1,a.2.2.2⟩
theorem Cx.go(S:Step C [] ρ Ar h h')(q:Cx C ρ h L Aa lc):Cx C Ar h' L Aa lc:=by
 obtain⟨⟨m,hn,hv⟩,hm,hl,hz⟩:=q
 refine⟨⟨m,hn.at λo e=>S.keep _ _ e hm (by simp),λi x e=>?_⟩,Ds.grow S hn.lt hm,hl,hz⟩
 (refine Dt (hv i x e) λn v a b c=>?_)
 exact(B6 n v ⟨a,b,c.go S⟩)
@[elab_as_elim] theorem VR.none_e(q:VR C ρ h .none v)(k:P .none):P v:=by cases q;exact k
@[elab_as_elim] theorem VR.bool_e{b:Bool}(q:VR C ρ h (.bool b) v)(k:P (.bool b)):P v:=by cases q;exact k
@[elab_as_elim] theorem VR.int_e{i:Int}(q:VR C ρ h (.int i) v)(k:∀ t,P (.int i t)):P v:=by cases q with|int _ t=>exact k t
@[elab_as_elim] theorem VR.str_e{x:Str}(q:VR C ρ h (.str x) v)(k:∀ t,PyData.strOk x=true->P (.str x t)):P v:=by cases q with|str _ t ok=>exact k t ok
@[elab_as_elim] theorem VR.loc_e(q:VR C ρ h (.loc l) v)(k:∀ p,ρ[l]?=some p->P (.ref p.1)):P v:=by cases q with|loc e=>exact k _ e
@[elab_as_elim] theorem VR.tup_e(q:VR C ρ h (.tup xs) v)(k:∀ a vs n,h.get? a=some (Pf vs n)->¬ Ds C ρ a->Bx C ρ h xs vs->P (.ref a)):P v:=by cases q with|tup ho hm hs=>exact k _ _ _ ho hm hs
@[elab_as_elim] theorem VR.lst_e(q:VR C ρ h (.lst xs) v)(k:∀ a vs n,h.get? a=some (Ck vs n)->¬ Ds C ρ a->Bx C ρ h xs vs->P (.ref a)):P v:=by cases q with|lst ho hm hs=>exact k _ _ _ ho hm hs
@[elab_as_elim] theorem Bx.nil_e{P:List Value->Prop}(q:Bx C ρ h [] vs)(k:P []):P vs:=by cases q;exact k
@[elab_as_elim] theorem Bx.cons_e{P:List Value->Prop}(q:Bx C ρ h (x::xs) vs)(k:∀ w ws,VR C ρ h x w->Bx C ρ h xs ws->P (w::ws)):P vs:=by cases q with|cons a b=>exact k _ _ a b
theorem VR.int_inv{i:Int}(q:VR C ρ h (.int i) v):∃ t,v=.int i t:=q.int_e λt=>⟨t,rfl⟩
theorem VR.loc_inv(q:VR C ρ h (.loc l) v):∃ p,ρ[l]?=some p/\v=.ref p.1:=q.loc_e λp e=>⟨p,e,rfl⟩
theorem Bx.nil_inv(q:Bx C ρ h [] vs):vs=[]:=by cases q;rfl
theorem Bx.cons_inv(q:Bx C ρ h (x::xs) vs):∃ w ws,vs=w::ws/\VR C ρ h x w/\Bx C ρ h xs ws:=q.cons_e λw ws a b=>(B6 w ws ⟨rfl,a,b⟩)
@[elab_as_elim] theorem VR.int_of{i:Int}(q:VR C ρ h x v)(e:x.int?=some i)(k:∀ t,P (.int i t)):P v:=by
 rw[AV.int_inv e] at q
 exact q.int_e k
@[elab_as_elim] theorem VR.str_of{i:Str}(q:VR C ρ h x v)(e:x.str?=some i)(k:∀ t,PyData.strOk i=true->P (.str i t)):P v:=by
 rw[AV.str_inv e] at q
 exact q.str_e k
@[elab_as_elim] theorem VR.ES(q:VR C ρ h x v)(e:x.tup?=some xs)(k:∀ a vs n,h.get? a=some (Pf vs n)->¬ Ds C ρ a->Bx C ρ h xs vs->P (.ref a)):P v:=by
 rw[AV.tup_inv e] at q
 exact q.tup_e k
@[elab_as_elim] theorem VR.lst_of(q:VR C ρ h x v)(e:x.lst?=some xs)(k:∀ a vs n,h.get? a=some (Ck vs n)->¬ Ds C ρ a->Bx C ρ h xs vs->P (.ref a)):P v:=by
 rw[AV.lst_inv e] at q
 exact q.lst_e k
@[elab_as_elim] theorem Bx.arg1_e{P:List Value->Prop}(q:Bx C ρ h xs vs)(e:I5 xs=some x)(k:∀ v,VR C ρ h x v->P [v]):P vs:=by
 rw[Qw e] at q
 exact q.cons_e λw uu a b=>b.nil_e (k w a)
@[elab_as_elim] theorem Bx.arg2_e{P:List Value->Prop}{p:AV×AV}(q:Bx C ρ h xs vs)(e:JG xs=some p)(k:∀ v w,VR C ρ h p.1 v->VR C ρ h p.2 w->P [v,w]):P vs:=by
 rw[Mx e] at q
 exact q.cons_e λv uu a b=>b.cons_e λw uu c d=>d.nil_e (k v w a c)
@[elab_as_elim] theorem Bx.one_e{P:List Value->Prop}(q:Bx C ρ h [x] vs)(k:∀ v,VR C ρ h x v->P [v]):P vs:=q.cons_e λw uu a b=>b.nil_e (k w a)
@[elab_as_elim] theorem Bx.two_e{P:List Value->Prop}{y:AV}(q:Bx C ρ h [x,y] vs)(k:∀ v w,VR C ρ h x v->VR C ρ h y w->P [v,w]):P vs:=q.cons_e λv uu a b=>b.one_e λw c=>k v w a c
theorem o9{a:AV}{σ₁ σ':St}{Q:Value->Shared->Prop}(k:∀ v s' Ar,Rel C Ar σ' s'->Step C [] ρ Ar h s'.heap->VR C Ar s'.heap x v->Q v s')(e:some (a,σ₁)=some (x,σ')):∀ v s' Ar,Rel C Ar σ₁ s'->Step C [] ρ Ar h s'.heap->VR C Ar s'.heap a v->Q v s':=by cases e;exact k
theorem ki{a x:Bool}{σ₁ σ':St}{Q:Bool->Shared->Prop}(k:∀ s' Ar,Rel C Ar σ' s'->Step C [] ρ Ar h s'.heap->Q x s')(e:some (a,σ₁)=some (x,σ')):∀ s' Ar,Rel C Ar σ₁ s'->Step C [] ρ Ar h s'.heap->Q a s':=by cases e;exact k
theorem Xt{W:List Addr}{a x:Fl}{lc₁ lc':Lc}{σ₁ σ':St}{Q:Flow->Shared->Prop}(k:∀ w s' Ar,Rel C Ar σ' s'->Step C W ρ Ar h s'.heap->Cx C Ar s'.heap L Aa lc'->Ph C Ar s'.heap x w->Q w s')(e:some (a,lc₁,σ₁)=some (x,lc',σ')) :
 ∀ w s' Ar,Rel C Ar σ₁ s'->Step C W ρ Ar h s'.heap->Cx C Ar s'.heap L Aa lc₁->Ph C Ar s'.heap a w->Q w s':=by cases e;exact k
theorem Hz{a:AV}{σ₁ σ':St}{Q:Value->Shared->Prop}(k:∀ v s' Ar,Rel C Ar σ' s'->Step C [] ρ Ar h s'.heap->VR C Ar s'.heap x v->Q v s')(e:(a,σ₁)=(x,σ')):∀ v s' Ar,Rel C Ar σ₁ s'->Step C [] ρ Ar h s'.heap->VR C Ar s'.heap a v->Q v s':=o9 k (congrArg some e)
theorem kj{a x:Bool}{σ₁ σ':St}{Q:Bool->Shared->Prop}(k:∀ s' Ar,Rel C Ar σ' s'->Step C [] ρ Ar h s'.heap->Q x s')(e:(a,σ₁)=(x,σ')):∀ s' Ar,Rel C Ar σ₁ s'->Step C [] ρ Ar h s'.heap->Q a s':=ki k (congrArg some e)
theorem Pj{W:List Addr}{a x:Fl}{lc₁ lc':Lc}{σ₁ σ':St}{Q:Flow->Shared->Prop}(k:∀ w s' Ar,Rel C Ar σ' s'->Step C W ρ Ar h s'.heap->Cx C Ar s'.heap L Aa lc'->Ph C Ar s'.heap x w->Q w s')(e:(a,lc₁,σ₁)=(x,lc',σ')) :
 ∀ w s' Ar,Rel C Ar σ₁ s'->Step C W ρ Ar h s'.heap->Cx C Ar s'.heap L Aa lc₁->Ph C Ar s'.heap a w->Q w s':=Xt k (congrArg some e)
theorem Bx.map(kv:∀ {x:AV} {v:Value},VR C ρ h x v->VR C Ar h' x v)(q:Bx C ρ h xs vs):Bx C Ar h' xs vs:=q.ind (P:=Bx C Ar h') .nil λa uu ih=>.cons (kv a) ih
theorem CX.map(kv:∀ {x:AV} {v:Value},VR C ρ h x v->VR C Ar h' x v){r:List (Str×AV)}(q:CX C ρ h r es):CX C Ar h' r es:=q.rec (motive:=λr es uu=>CX C Ar h' r es) .nil λa uu ih=>.cons (kv a) ih
theorem Ct.move(q:Ct C ρ h p o)(k1:∀ ob,h.get? p.1=some ob->h'.get? p.1=some ob)(k2:∀ ob,h.get? p.2=some ob->h'.get? p.2=some ob)(kv:∀ {x:AV} {v:Value},VR C ρ h x v->VR C Ar h' x v)(kL:∀ m,D8 ρ h' p.2 m->D8 Ar h' p.2 m)(kc:∀ b o,h.get? b=some o->I6 o->h'.get? b=some o):Ct C Ar h' p o:=by
 cases o with
 |list=>exact Dt q λvs n e ho hs=>(B6 vs n ⟨e,k1 _ ho,hs.map kv⟩)
 |fmt=>exact Dt q λes n ho hd he=>(B6 es n ⟨k1 _ ho,k2 _ hd,he.map kv⟩)
 |acc=>exact LY q λes n n' vs ho hd he hs=>(Lm es n n' vs ⟨k1 _ ho,k2 _ hd,he.map kv,hs.map kv⟩)
 |ghost=>exact Gf q λx y n e ho=>(EY x y n ⟨e,k1 _ ho⟩)
 |gen=>exact Gf q λn nm qn ho hL=>(EY n nm qn ⟨k1 _ ho,kL _ (hL.keep k2)⟩)
 |out=>exact Es q λnm qn e ho=>(B6 nm qn ⟨e,k1 _ ho⟩)
 |cell c x =>
  refine AS q λe z=>⟨e,?_⟩
  rw[e] at k1
  cases x with
  |none=>exact cellAt z k1
  |some y=>exact Am z λv ho q'=>⟨v,cellAt ho k1,kv q'⟩
 |ext=>exact bu (q) λo1 o2 vs a b n1 n2 c d w=>(EY o1 o2 vs ⟨k1 _ a,k2 _ b,n1,n2,c.map kv,d,λc e=>Sj (w c e) λob us v x1 x2 x3 x4=>(EY ob us v ⟨kc _ _ x1 ⟨x2,us,x3⟩,x2,x3,x4⟩)⟩)
theorem Ct.lt(q:Ct C ρ h p o):p.1<h.objs.size/\p.2<h.objs.size:=by
 have same:∀ {ob:Obj},p.2=p.1->h.get? p.1=some ob->p.1<h.objs.size/\p.2<h.objs.size:=λe ho=>⟨Heap.lt_size ho,e▸Heap.lt_size ho⟩
 cases o with
 |list=>exact Dt q λvs n e ho hs=>same e ho
 |fmt=>exact Dt q λes n ho hd he=>⟨Heap.lt_size ho,Heap.lt_size hd⟩
 |acc=>exact LY q λes n n' vs ho hd he hs=>⟨Heap.lt_size ho,Heap.lt_size hd⟩
 |ghost=>exact Gf q λx y n e ho=>same e ho
 |gen=>exact Gf q λn nm qn ho hL=>Es hL.self λmm q a uu=>⟨Heap.lt_size ho,a.lt⟩
 |out=>exact Es q λnm qn e ho=>same e ho
 |cell c x =>
  refine AS q λe z=>?_
  rw[e]
  cases x with
  |none=>exact⟨z.lt,z.lt⟩
  |some y=>exact Am z λv ho q'=>⟨ho.lt,ho.lt⟩
 |ext=>exact G7 (q) λuu uu uu a b uu=>⟨Heap.lt_size a,Heap.lt_size b⟩
variable{E Q:Value->Shared->Prop}{Is:List Addr}{a b:AV}{b1 b2 r:List Stmt}{c e:Expr}{es:List Expr}{f g:EM}{fs:List EM}{j:Nat}{lc':Lc}{op:Operator}{p':Pos}{s s':Shared}{st:Stmt}{t:TM}{va vb:Value}{σ' σ₁:St}
theorem CX.go(S:Step C [] ρ Ar h h'){r:List (Str×AV)}{es:List DictEntry}(q:CX C ρ h r es):CX C Ar h' r es:=q.map (·.go S)
theorem Ct.same(k:∀ b o,h.get? b=some o->h'.get? b=some o)(z:h.objs.size<=h'.objs.size)(q:Ct C ρ h p o):Ct C ρ h' p o:=q.move (k _) (k _) (·.go (.same k z)) (λuu z=>z) λb o e uu=>k b o e
theorem Rel.same(R:Rel C ρ σ s)(k:∀ b o,s.heap.get? b=some o->s'.heap.get? b=some o)(z:s.heap.objs.size<=s'.heap.objs.size)(hg:GR C ρ σ s.heap s'.gens)(hd:s'.drawn=s.drawn)(ho:s'.os=s.os):Rel C ρ σ s' where
 old b o e n:=k b o (R.old b o e n)
 tab t ht:=Am (R.tab t ht) λm a b=>⟨m,a.keeps k,b.keeps k⟩
 lo:=R.lo
 dis:=R.dis
 len:=R.len
 st l p o e e':=(R.st l p o e e').same k z
 gens:=hg.heap λuu uu uu uu uu uu o e=>k _ o e
 drawn:=hd.trans R.drawn
 os:=ho.trans R.os
 size:=Nat.le_trans R.size z
theorem Rel.toks(R:Rel C ρ σ s):Rel C ρ σ { s with toks:=n }:=R.same (λuu uu e=>e) (Nat.le_refl _) R.gens rfl rfl
theorem Rel.push(R:Rel C ρ σ s)(o:Obj):Rel C ρ σ { s with heap:=s.heap.push o,toks:=n } :=
 R.same (λuu uu e=>Heap.get?_push_of_some _ e) (by show _<=(s.heap.push o).objs.size;rw[Heap.size_push];exact Nat.le_add_right _ _) R.gens rfl rfl
theorem Rel.fresh(R:Rel C ρ σ s):¬ Ds C ρ s.heap.objs.size:=by
 rintro(t|⟨p,hp,e⟩)
 . (refine Am (List.mem_map.mp t) λx hx e=>?_)
   exact Am (R.tab x hx) λm uu ht=>Nat.ne_of_lt (Heap.lt_size ht.at_.2) e
 . obtain⟨l,hl,rfl⟩:=List.mem_iff_getElem.mp hp
   have q:l<σ.length:=R.len▸hl
   have z:=(R.st l ρ[l] σ[l] (List.getElem?_eq_getElem hl) (List.getElem?_eq_getElem q)).lt
   exact e.elim (Nat.ne_of_lt z.1) (Nat.ne_of_lt z.2)
noncomputable def cE(x:AV):EM:=λ_ σ=>some (x,σ)
noncomputable def nE(i:Nat):EM:=λlc σ=>lc[i]?.bind λo=>o.map λx=>(x,σ)
theorem bA{i:Int}{p:Pos}:AQ C d env Aa (.Constant (.int i) k p) (cE (.int i)):=by
 intro lc σ x σ' hf A Q E s ρ hA R l kk
 (refine c2 hf λG9 gB=>?_;clear hf;subst G9;subst gB)
 exact wpAny_Constant_int (kk _ _ ρ R.toks .refl (.int _ _))
theorem bB{x:Str}{p:Pos}(ok:PyData.strOk x=true):AQ C d env Aa (.Constant (.str x) k p) (cE (.str x)):=by
 intro lc σ x σ' hf A Q E s ρ hA R l kk
 (refine c2 hf λG9 gB=>?_;clear hf;subst G9;subst gB)
 exact wpAny_Constant_str (kk _ _ ρ R.toks .refl (.str _ _ ok))
theorem Xu{b:Bool}{p:Pos}:AQ C d env Aa (.Constant (.bool b) k p) (cE (.bool b)):=by
 intro lc σ x σ' hf A Q E s ρ hA R l kk
 (refine c2 hf λG9 gB=>?_;clear hf;subst G9;subst gB)
 exact wpAny_Constant_bool (kk _ _ ρ R .refl (.bool _))
theorem Xv{p:Pos}:AQ C d env Aa (.Constant .none k p) (cE .none):=by
 intro lc σ x σ' hf A Q E s ρ hA R l kk
 (refine c2 hf λG9 gB=>?_;clear hf;subst G9;subst gB)
 exact wpAny_Constant_none (kk _ _ ρ R .refl .none)
theorem bD(h:nE i lc σ=some (x,σ')):lc[i]?=some (some x)/\σ'=σ:=by
 exact oB h λo e h=>oM h λy ey h=>⟨e.trans (congrArg some (ey.trans (congrArg some (congrArg (·.1) h)))),(congrArg (·.2) h).symm⟩
theorem Ig(H:Bi env Aa){n:Str}(hi:Aa[i]?=some n)(hx:lc[i]?=some (some x))(l:Cx C ρ s.heap env.locals Aa lc)(k:∀ v,VR C ρ s.heap x v->Q v s):wpAny (model C.prog C.w) A (loadName env n) Q E s:=by
 obtain⟨⟨m,hn,hv⟩,_⟩:=l
 (refine Dt (hv i x hx) λn' v a b c=>?_)
 rw[hi] at a
 (refine c1 a λG9=>?_;clear a;subst G9)
 exact wpAny_loadName_local H.kind (H.loc n (List.mem_of_getElem? hi)) hn b (k v c)
theorem MA(H:Bi env Aa){n:Str}{p:Pos}(hi:Aa[i]?=some n)(hd:(n==("__debug__" : Str))=false):AQ C d env Aa (.Name n p) (nE i):=by
 intro lc σ x σ' hf A Q E s ρ hA R l kk
 (refine AS (bD hf) λhx IF=>?_;subst IF)
 exact wpAny_Name (Ig H hi hx l λv q=>kk v s ρ R .refl q) hd
noncomputable def Bq(σ:St)(x:AV):Option (List AV):=x.lst?.or (x.loc?.bind (CT σ))
theorem Rel.obj(R:Rel C ρ σ s)(e:σ[l]?=some o):∃ p,ρ[l]?=some p/\Ct C ρ s.heap p o:=by
 have q:l<ρ.length:=R.len▸(List.getElem?_eq_some_iff.mp e).1
 exact⟨ρ[l],List.getElem?_eq_getElem q,R.st l _ o (List.getElem?_eq_getElem q) e⟩
@[elab_as_elim] theorem Rel.acc_e(R:Rel C ρ σ s)(hl:σ[l]?=some (.acc ini ps))(q:VR C ρ s.heap (.loc l) v)(k:∀ a d es n n' vs,ρ[l]?=some (a,d)->s.heap.get? a=some ⟨.ref C.ACC,some d,.seq (List.toArray vs) n,#[]⟩->s.heap.get? d=some (dictOf es n')->CX C ρ s.heap (C6 ini) es->Bx C ρ s.heap (ps.map AK) vs->P (.ref a)):P v:=by
 refine q.loc_e λp e=>?_
 exact LY (R.st l p _ e hl) λes n n' vs ho hd he hs=>k p.1 p.2 es n n' vs e ho hd he hs
@[elab_as_elim] theorem Rel.list_e(R:Rel C ρ σ s)(hl:σ[l]?=some (.list xs))(q:VR C ρ s.heap (.loc l) v)(k:∀ a vs n,ρ[l]?=some (a,a)->s.heap.get? a=some (Ck vs n)->Bx C ρ s.heap xs vs->P (.ref a)):P v:=by
 refine q.loc_e λp e=>?_
 exact Dt (R.st l p _ e hl) λvs n z ho hs=>k p.1 vs n (e.trans (congrArg (λb=>some (p.1,b)) z)) ho hs
@[elab_as_elim] theorem Rel.fmt_e(R:Rel C ρ σ s)(hl:σ[l]?=some (.fmt ml cw Cr sp ln ac))(q:VR C ρ s.heap (.loc l) v)(k:∀ a d es n,ρ[l]?=some (a,d)->s.heap.get? a=some ⟨.ref C.VF,some d,.plain,#[]⟩->s.heap.get? d=some (dictOf es n)->CX C ρ s.heap (B2 ml cw Cr sp ln ac) es->P (.ref a)):P v:=by
 refine q.loc_e λp e=>?_
 exact Dt (R.st l p _ e hl) λes n ho hd he=>k p.1 p.2 es n e ho hd he
theorem Rel.acc_at(R:Rel C ρ σ s){a d:Addr}(e:ρ[l]?=some (a,d))(hl:σ[l]?=some (.acc ini ps)){P:Prop}(k:∀ es n n' vs,s.heap.get? a=some ⟨.ref C.ACC,some d,.seq (List.toArray vs) n,#[]⟩->s.heap.get? d=some (dictOf es n')->CX C ρ s.heap (C6 ini) es->Bx C ρ s.heap (ps.map AK) vs->P):P:=LY (R.st l _ _ e hl) k
noncomputable def IP(lc:Lc):Option Nat:=lc[0]?.bind λx=>x.bind AV.loc?
theorem GG(h:IP lc=some l):lc[0]?=some (some (.loc l)):=oB h λx e h=>oB h λy e1 h=>by rw[e,e1,AV.loc_inv h]
@[elab_as_elim] theorem Rel.asList_e(R:Rel C ρ σ s)(q:VR C ρ s.heap x v)(h:Bq σ x=some xs)(k:∀ a vs n,s.heap.get? a=some (Ck vs n)->Bx C ρ s.heap xs vs->P (.ref a)):P v:=by
 refine oO h (λe=>q.lst_of e λa vs n ho uu hs=>k a vs n ho hs) λh=>oB h λl e e'=>?_
 rw[AV.loc_inv e] at q
 exact R.list_e (Ei e') q λa vs n uu ho hs=>k a vs n ho hs
theorem D9(R:Rel C ρ σ s)(q:VR C ρ s.heap x v)(h:Bq σ x=some xs):∃ a vs n,v=.ref a/\s.heap.get? a=some (Ck vs n)/\Bx C ρ s.heap xs vs :=
 R.asList_e q h λa vs n ho hs=>(EY a vs n ⟨rfl,ho,hs⟩)
noncomputable def Pk(a b:AV)(f:Int->Int->Option AV):Option AV:=a.int?.bind λx=>b.int?.bind λy=>f x y
noncomputable def gC(σ:St)(a b:AV):Option AV :=
 (Pk a b λx y=>some (.int (x+y))).or
 ((a.str?.bind λx=>b.str?.bind λy=>gd (decide (x.length+y.length<=sizeLine)) (.str (x++y))).or
 ((Bq σ a).bind λxs=>(Bq σ b).bind λys=>gd (decide (xs.length+ys.length<=sizeLine)) (.lst (xs++ys))))
noncomputable def bE(a b:AV):Option AV :=
 (Pk a b λx y=>gd (decide (x<1000000/\-1000000<x)) (.int (x*y))).or
 (a.str?.bind λx=>b.int?.bind λn=>gd (decide (x.length*n.toNat<=1000000/\n<1000000/\-1000000<n)) (.str (Txt.mul x n)))
noncomputable def gD(σ:St)(op:Operator)(a b:AV):Option AV:=match op with
 | .Add=>gC σ a b
 | .Sub=>Pk a b λx y=>some (.int (x-y))
 | .Mod=>Pk a b λx y=>gd (y != 0) (.int (x.fmod y))
 | .FloorDiv=>Pk a b λx y=>gd (decide (0<y/\y<1000000)) (.int (x.fdiv y))
 | .Mult=>bE a b
 | .Pow=>Pk a b λx y=>gd (decide (2<=x/\x<100/\0<=y/\y<10)) (.int (x ^ y.toNat))
 | _=>none
theorem KG{r:AV}{f:Int->Int->Option AV}{P:Prop}(h:Pk a b f=some r)(k:∀ x y,a.int?=some x->b.int?=some y->f x y=some r->P):P:=oB h λx e1 h=>oB h λy e2 h=>k x y e1 e2 h
theorem kl{x y:Int}(h:2<=x/\x<100/\0<=y/\y<10):¬ Builtin.Int.intTooBig (((Builtin.Int.intBits x:Nat):Int)*y)=true:=by
 have b:Builtin.Int.intBits x<=64:=intBits_le_64 (by omega) (by omega)
 have c:((Builtin.Int.intBits x:Nat):Int)*y<=64*10:=Int.mul_le_mul (by omega) (by omega) (by omega) (by right)
 unfold Builtin.Int.intTooBig
 rw[bitsLine_eq,decide_eq_true_eq]
 omega
set_option tactic.hygienic true
theorem eM{x c:Int}(h:c.natAbs<2 ^ 31):Builtin.divisionGoesByPylong x c=false:=by
 unfold Builtin.divisionGoesByPylong
 refine Bool.and_eq_false_iff.mpr (.inl (decide_eq_false ?_))
 dsimp only
 split
 . decide
 . rename_i hc
   have z:c.natAbs≠0:=λz=>hc (by rw[Int.natAbs_eq_zero.mp z];rfl)
   exact Nat.not_lt.mpr (Nat.le_trans (Nat.succ_le_succ (Nat.le_trans (Nat.div_le_self _ _) (Nat.le_of_lt_succ ((Nat.log2_lt z).mpr h)))) (by decide))
set_option tactic.hygienic false
theorem noPylong{a b:Int}(h:0<b/\b<1000000):Builtin.divisionGoesByPylong a b=false:=eM (Int.ofNat_lt.mp ((Int.natAbs_of_nonneg (Int.le_of_lt h.1)).symm▸Int.lt_trans h.2 (by decide)))
theorem mulOk_of{x:Str}{n:Int}(h:x.length*n.toNat<=1000000/\n<1000000/\-1000000<n):MulOk x n:=by
 (refine LX (h) λh1 h2 h3=>?_;clear h)
 refine⟨?_,λhn hx=>?_,λhn hx=>?_⟩
 . rw[Bool.or_eq_false_iff,decide_eq_false_iff_not,decide_eq_false_iff_not];omega
 . have hl:x.length<=1000000:=by
    have:1<=n.toNat:=by omega
    calc x.length=x.length*1:=by omega
     _<=x.length*n.toNat:=Nat.mul_le_mul_left _ this
     _<=_:=h1
   have:(9223372036854:Int)<=(2 ^ 63-1) / n:=by
    rw[Int.le_ediv_iff_mul_le (by omega)]
    omega
   omega
 . unfold Builtin.Str.tooLong
   exact decide_eq_false (by rw[sizeLine_eq];omega)
theorem GH{x:Str}:PyData.strOk x=true↔∀ c∈x.cps.toList,c<0x110000:=by
 unfold PyData.strOk
 rw[<- Array.all_toList,List.all_eq_true]
 simp
theorem Eu{x y:Str}(a:PyData.strOk x=true)(b:PyData.strOk y=true):PyData.strOk (x++y)=true:=by
 rw[GH] at *
 intro c hc
 rw[Str.cps_append,Array.toList_append] at hc
 rcases List.mem_append.mp hc with h|h
 . exact a c h
 . exact b c h
theorem Oc{x:Array Nat}{c:Nat}:∀ (n:Nat) (acc:Array Nat),c∈(List.foldl (λx1 x2=>x1++x2) acc (List.replicate n x)).toList->c∈acc.toList\/c∈x.toList
 | 0,acc,h=>.inl h
 |n+1,acc,h=>by
  rw[List.replicate_succ,List.foldl_cons] at h
  rcases Oc n _ h with h|h
  . rw[Array.toList_append] at h
    exact List.mem_append.mp h
  . exact .inr h
theorem Vm{x:Str}{n:Int}(a:PyData.strOk x=true):PyData.strOk (Txt.mul x n)=true:=by
 unfold Txt.mul
 split
 . decide +kernel
 . split
   . exact a
   . rw[GH] at *
     intro c hc
     rcases Oc _ _ hc with h|h
     . simp at h
     . exact a c h
theorem Xw(R:Rel C ρ σ s)(qa:VR C ρ s.heap a va)(qb:VR C ρ s.heap b vb)(h:gD σ op a b=some x)(k:∀ v s',Rel C ρ σ s'->Step C [] ρ ρ s.heap s'.heap->VR C ρ s'.heap x v->Q v s'):wpAny (model C.prog C.w) A (binaryOp op va vb) Q E s:=by
 have kI:∀ {i:Int},some (AV.int i)=some x->Q (.int i s.toks) { s with toks:=s.toks+1 }:=λe=>k _ _ R.toks .refl (Option.some.inj e▸.int _ _)
 cases op with
 |Add =>
  have h:gC σ a b=some x:=h
  refine oO h (λh=>KG h λi j e1 e2 h=>?_) λh=>oO h (λh=>oB h λi e1 h=>oB h λj e2 h=>oG h λhh h=>?_) λh=>oB h λxs e1 h=>oB h λys e2 h=>oG h λhh h=>?_
  . exact qa.int_of e1 λuu=>qb.int_of e2 λuu=>add_int (kI h)
  . exact qa.str_of e1 λuu o1=>qb.str_of e2 λuu o2=>add_str (λt tk=>k _ _ R.toks .refl (h▸.str _ _ (Eu o1 o2))) (of_decide_eq_true hh)
  . refine R.asList_e qa e1 λp vs n ho hs=>R.asList_e qb e2 λp' CL n' Uq Ln=>?_
    refine P.add_list ho Uq ?_ (by rw[List.size_toArray,List.size_toArray,hs.length,Ln.length];exact of_decide_eq_true hh)
    refine k _ _ (R.push _ (n:=s.toks)) (.pushObj _) (h▸.lst (vs:=vs++CL) (n:=0) ?_ R.fresh ((hs.append Ln).go (.pushObj _)))
    exact(Heap.get?_push_size _ rfl).trans (by rw[List.append_toArray])
 |Sub=>exact KG h λi j e1 e2 h=>qa.int_of e1 λuu=>qb.int_of e2 λuu=>sub_int (kI h)
 |Mod=>exact KG h λi j e1 e2 h=>oG h λhh h=>qa.int_of e1 λuu=>qb.int_of e2 λuu=>mod_int' (bne_iff_ne.mp hh) (kI (congrArg some h))
 |FloorDiv=>exact KG h λi j e1 e2 h=>oG h λhh h=>qa.int_of e1 λuu=>qb.int_of e2 λuu=>floordiv_int (Int.ne_of_gt (of_decide_eq_true hh).1) (kI (congrArg some h)) (.inl (noPylong (of_decide_eq_true hh)))
 |Mult =>
  have h:bE a b=some x:=h
  refine oO h (λh=>KG h λi j e1 e2 h=>oG h λhh h=>?_) λh=>oB h λi e1 h=>oB h λj e2 h=>oG h λhh h=>?_
  . have hh:=of_decide_eq_true hh
    exact qa.int_of e1 λuu=>qb.int_of e2 λuu=>mul_int (kI (congrArg some h)) (IntMulOk.of_left (intBits_le_64 (by omega) (by omega)))
  . exact qa.str_of e1 λuu o1=>qb.int_of e2 λuu=>SB.mul (mulOk_of (of_decide_eq_true hh)) λt tk=>k _ _ R.toks .refl (h▸.str _ _ (Vm o1))
 |Pow =>
  refine KG h λi j e1 e2 h=>oG h λhh h=>qa.int_of e1 λuu=>qb.int_of e2 λuu=>?_
  have hh:=of_decide_eq_true hh
  by_cases z:j=0
  . subst z
    exact AutoIntOps.pow_0 (by decide) rfl (kI ((congrArg (λn=>some (AV.int n)) (Int.pow_zero i).symm).trans (congrArg some h)))
  . exact AutoIntOps.pow_4 hh.2.2.1 (by simpa using z) (by simp;omega) (by simp;omega) (kl hh) (kI (congrArg some h))
 | _=>exact ns h
noncomputable def AN(op:Operator)(f g:EM):EM:=λlc σ=>(f lc σ).bind λp=>(g lc p.2).bind λq=>(gD q.2 op p.1 q.1).map (·,q.2)
theorem bF{l r:Expr}{p:Pos}(D1:AQ C d env Aa l f)(D2:AQ C d env Aa r g):AQ C d env Aa (.BinOp l op r p) (AN op f g):=by
 intro lc σ x σ' hf A Q E s ρ hA R lr kk
 refine oB hf λa e1 hf=>oB hf λb e2 hf=>oM hf λy hy e=>?_
 refine wpAny_BinOp (D1 _ _ _ _ e1 A _ E s ρ hA R lr λva s₁ Ad An Aj AA=>D2 _ _ _ _ e2 A _ E s₁ Ad hA An (lr.go Aj) λvb Ai AF Az Au BL=>?_)
 exact Xw Az (AA.go Au) BL hy λv AJ BY BV Gg=>Hz kk e v AJ AF BY ((Aj.trans Au).trans BV) Gg
noncomputable def Cb(f:α->Option β):List α->Option (List β)
 | []=>some []
 |x::xs=>(f x).bind λy=>(Cb f xs).map (y::·)
noncomputable def pf:AV->Option PyData
 | .none=>some .none
 | .bool b=>some (.bool b)
 | .int i=>some (.int i)
 | .str x=>some (.str x)
 | .tup _=>none
 | .lst _=>none
 | .loc _=>none
noncomputable def uy(σ:St)(f:AV->Option PyData)(x:AV):Option PyData:=(x.tup?.bind λxs=>(Cb f xs).map .tuple).or ((Bq σ x).bind λxs=>(Cb f xs).map .list)
noncomputable def Dj(σ:St):Nat->AV->Option PyData
 | 0,x=>pf x
 |n+1,x=>(pf x).or (uy σ (Dj σ n) x)
theorem MC{x:PyData}{xs:List PyData}:PyData.canLayAll0 (x::xs)=(x.canLay0&&PyData.canLayAll0 xs):=by rw[PyData.canLayAll0]
theorem Qz{f:AV->Option PyData}(ih:∀ {x:AV} {d:PyData} {v:Value},VR C ρ s.heap x v->f x=some d->(∃ as,Reads s.heap v d as)/\d.canLay0=true/\d.depth<=n) :
 ∀ {xs:List AV} {ds:List PyData} {vs:List Value},Bx C ρ s.heap xs vs->Cb f xs=some ds->(∃ as,ReadsAll s.heap vs ds as)/\PyData.canLayAll0 ds=true/\PyData.depthAll ds<=n:=λq e =>
 q.ind (P:=λxs vs=>∀ ds,Cb f xs=some ds->(∃ as,ReadsAll s.heap vs ds as)/\PyData.canLayAll0 ds=true/\PyData.depthAll ds<=n) (λds e=>Option.some.inj e▸⟨⟨_,.nil⟩,by rw[PyData.canLayAll0],by rw[PyData.depthAll];exact Nat.zero_le _⟩) (λa uu uz ds h =>
  oB h λy e1 h=>oM h λys e2 e=>e▸LX (ih a e1) λr1 c1 d1=>LX (uz ys e2) λr2 c2 d2=>CJ r1 λuu r1=>CJ r2 λuu r2 =>
   ⟨⟨_,.cons r1 r2⟩,by rw[MC,c1,c2];rfl,by rw[PyData.depthAll];exact Nat.max_le.mpr ⟨d1,d2⟩⟩) _ e
theorem Ur{d:PyData}(q:VR C ρ h x v)(e:pf x=some d):(∃ as,Reads h v d as)/\d.canLay0=true/\d.depth<=0:=by
 have z:∀ {y:PyData},some y=some d->((∃ as,Reads h v y as)/\y.canLay0=true/\y.depth<=0)->(∃ as,Reads h v d as)/\d.canLay0=true/\d.depth<=0:=λe z=>Option.some.inj e▸z
 cases q with
 |none=>exact z e ⟨⟨_,.none⟩,rfl,by rw[PyData.depth];exact Nat.le_refl _⟩
 |bool b=>exact z e ⟨⟨_,.bool _⟩,rfl,by rw[PyData.depth];exact Nat.le_refl _⟩
 |int i t=>exact z e ⟨⟨_,.int _ _⟩,rfl,by rw[PyData.depth];exact Nat.le_refl _⟩
 |str x t ok=>exact z e ⟨⟨_,.str _ _⟩,by rw[PyData.canLay0];exact ok,by rw[PyData.depth];exact Nat.le_refl _⟩
 | _=>exact ns e
theorem QA(R:Rel C ρ σ s):∀ {n:Nat} {x:AV} {d:PyData} {v:Value},VR C ρ s.heap x v->Dj σ n x=some d->(∃ as,Reads s.heap v d as)/\d.canLay0=true/\d.depth<=n:=by
 intro n
 induction n with
 |zero=>exact Ur
 |succ n ih =>
  intro x d v q h
  refine oO h (λh=>LX (Ur q h) λa b c=>⟨a,b,Nat.le_trans c (Nat.zero_le _)⟩) λh=>oO h (λh=>oB h λxs e1 h=>oM h λds e2 e=>e▸?_) λh=>oB h λxs e1 h=>oM h λds e2 e=>e▸?_
  . exact q.ES e1 λa vs m ho uu hs=>LX (Qz ih hs e2) λr c dd=>CJ r λuu r=>⟨⟨_,.tuple ho rfl rfl r⟩,by rw[PyData.canLay0];exact c,by rw[PyData.depth];exact Nat.succ_le_succ dd⟩
  . exact R.asList_e q e1 λa vs m ho hs=>LX (Qz ih hs e2) λr c dd=>CJ r λuu r=>⟨⟨_,.list ho rfl rfl r⟩,by rw[PyData.canLay0];exact c,by rw[PyData.depth];exact Nat.succ_le_succ dd⟩
noncomputable def aeqv(σ:St)(a b:AV):Option Bool:=(Dj σ 4 a).bind λx=>(Dj σ 4 b).map λy=>PyData.eqv x y
noncomputable def isNone:AV->Bool
 | .none=>true
 | .bool _=>false
 | .int _=>false
 | .str _=>false
 | .tup _=>false
 | .lst _=>false
 | .loc _=>false
noncomputable def JJ(a b:AV)(f:Int->Int->Bool):Option Bool:=a.int?.bind λx=>b.int?.map λy=>f x y
noncomputable def QB(σ:St)(op:CmpOp)(a b:AV):Option Bool:=match op with
 | .Eq=>aeqv σ a b
 | .NotEq=>(aeqv σ a b).map not
 | .Lt=>JJ a b λx y=>decide (x<y)
 | .LtE=>JJ a b λx y=>decide (x<=y)
 | .Gt=>JJ a b λx y=>decide (y<x)
 | .GtE=>JJ a b λx y=>decide (y<=x)
 | .Is=>gd (isNone b) (isNone a)
 | .IsNot=>gd (isNone b) (!isNone a)
 | .In=>a.str?.bind λy=>b.str?.map λx=>Txt.contains x y
 | .NotIn=>a.str?.bind λy=>b.str?.map λx=>!Txt.contains x y
theorem Ih{f:Int->Int->Bool}{r:Bool}{P:Prop}(h:JJ a b f=some r)(k:∀ x y,a.int?=some x->b.int?=some y->f x y=r->P):P:=oB h λx e1 h=>oM h λy e2 h=>k x y e1 e2 h
theorem MD(h:isNone a=true):a=.none:=by
 cases a with
 |none=>rfl
 | _=>exact ft h
theorem ME(q:VR C ρ h a v):(v==Value.none)=isNone a:=by cases q<;>rfl
theorem Xx{r:Bool}{P:Prop}(R:Rel C ρ σ s)(qa:VR C ρ s.heap a va)(qb:VR C ρ s.heap b vb)(h:aeqv σ a b=some r)(k:∀ y z as bs,Reads s.heap va y as->Reads s.heap vb z bs->y.canLay0=true->z.canLay0=true->y.depth<=4->z.depth<=4->PyData.eqv y z=r->P):P :=
 oB h λy e1 h=>oM h λz e2 e=>LX (QA R qa e1) λr1 c d1=>LX (QA R qb e2) λr2 c' d2=>CJ r1 λas r1=>CJ r2 λbs r2=>k y z as bs r1 r2 c c' d1 d2 e
theorem QC{op:CmpOp}{x:Bool}(hA:EL C 1 A)(R:Rel C ρ σ s)(qa:VR C ρ s.heap a va)(qb:VR C ρ s.heap b vb)(h:QB σ op a b=some x)(k:Q (.bool x) s):wpAny (model C.prog C.w) A (compareOp op va vb) Q E s:=by
 have hu:=hA.2.2.1
 cases op with
 |Eq=>exact Xx R qa qb h λy z as bs r r' c c' dd nO e=>SeqAt.compareEq_reads r r' c c' (by omega) (e▸k)
 |NotEq=>exact oM h λu pg e'=>Xx R qa qb pg λy z as bs r r' c c' dd nO e=>SeqAt.compareNe_reads r r' c c' (by omega) (e▸e'▸k)
 |Lt=>exact Ih h λi j e1 e2 e=>qa.int_of e1 λuu=>qb.int_of e2 λuu=>lt_int (e▸k)
 |LtE=>exact Ih h λi j e1 e2 e=>qa.int_of e1 λuu=>qb.int_of e2 λuu=>le_int (e▸k)
 |Gt=>exact Ih h λi j e1 e2 e=>qa.int_of e1 λuu=>qb.int_of e2 λuu=>gt_int (e▸k)
 |GtE=>exact Ih h λi j e1 e2 e=>qa.int_of e1 λuu=>qb.int_of e2 λuu=>ge_int (e▸k)
 |Is=>exact oG h λhb e=>(MD hb▸qb:VR C ρ s.heap .none vb).none_e (is_none_gen ((ME qa).trans e▸k))
 |IsNot=>exact oG h λhb e=>(MD hb▸qb:VR C ρ s.heap .none vb).none_e (isnot_none_gen ((congrArg not (ME qa)).trans e▸k))
 |In=>exact oB h λy e1 h=>oM h λz e2 e=>qa.str_of e1 λuu uu=>qb.str_of e2 λuu uu=>P.in_str (show Q (.bool (Txt.contains z y)) s from e▸k)
 |NotIn=>exact oB h λy e1 h=>oM h λz e2 e=>qa.str_of e1 λuu uu=>qb.str_of e2 λuu uu=>P.notIn_str (show Q (.bool (!Txt.contains z y)) s from e▸k)
noncomputable def AL(op:CmpOp)(f g:EM):TM:=λlc σ=>(f lc σ).bind λp=>(g lc p.2).bind λq=>(QB q.2 op p.1 q.1).map (·,q.2)
noncomputable def tE(f:TM):EM:=λlc σ=>(f lc σ).map λp=>(.bool p.1,p.2)
section
variable{l r:Expr}{p:Pos}
theorem bG{op:CmpOp}(D1:AQ C (d+1) env Aa l f)(D2:AQ C (d+1) env Aa r g)(hb:behindInMarks op r=false):AQ C (d+1) env Aa (.Compare l [op] [r] p) (tE (AL op f g)):=by
 intro lc σ x σ' hf A Q E s ρ hA R lr kk
 refine oM hf λy hy e=>oB hy λa e1 hy=>oB hy λb e2 hy=>oM hy λc e3 e'=>?_
 have kk:=Hz kk ((congrArg (λp:Bool×St=>(AV.bool p.1,p.2)) e').trans e)
 refine wpAny_Compare1 (D1 _ _ _ _ e1 A _ E s ρ hA R lr λva s₁ Ad An Aj AA=>D2 _ _ _ _ e2 A _ E s₁ Ad hA An (lr.go Aj) λvb Ai AF Az Au BL=>?_) hb
 exact QC (hA.mono (Nat.le_add_left ..)) Az (AA.go Au) BL e3 (kk _ Ai AF Az (Aj.trans Au) (.bool _))
theorem Xy{op:CmpOp}(D1:AQ C (d+1) env Aa l f)(D2:AQ C (d+1) env Aa r g)(hb:behindInMarks op r=false):KD C (d+1) env Aa (.Compare l [op] [r] p) (AL op f g):=by
 intro lc σ x σ' hf A Q E s ρ hA R lr kk
 refine oB hf λa e1 hf=>oB hf λb e2 hf=>oM hf λc e3 e'=>?_
 refine wpAny_isTrue_Compare1 (D1 _ _ _ _ e1 A _ E s ρ hA R lr λva s₁ Ad An Aj AA=>D2 _ _ _ _ e2 A _ E s₁ Ad hA An (lr.go Aj) λvb Ai AF Az Au BL=>?_) hb
 exact QC (hA.mono (Nat.le_add_left ..)) Az (AA.go Au) BL e3 (wpAny_truthy_bool (kj kk e' Ai AF Az (Aj.trans Au)))
noncomputable def uA:AV->Option Bool
 | .none=>some false
 | .bool b=>some b
 | .int i=>some (i != 0)
 | .str x=>gd (decide (x.length<=sizeLine)) ((x.length:Int) != 0)
 | .tup _=>none
 | .lst _=>none
 | .loc _=>none
noncomputable def HE(σ:St)(x:AV):Option Bool:=(uA x).or ((Bq σ x).bind λxs=>gd (decide (xs.length<=sizeLine)) (!xs.isEmpty))
theorem I8{Q:Bool->Shared->Prop}{x:Bool}(R:Rel C ρ σ s)(qa:VR C ρ s.heap a va)(h:HE σ a=some x)(k:∀ s',Rel C ρ σ s'->Step C [] ρ ρ s.heap s'.heap->Q x s'):wpAny (model C.prog C.w) A (truthy va) Q E s:=by
 have hz:=sizeLine_eq
 refine oO h (λh=>?_) λh=>oB h λxs e1 h=>oG h λhh e=>?_
 . have k0:∀ {b:Bool} {n:Nat},some b=some x->Q b { s with toks:=n }:=λe=>Option.some.inj e▸k _ R.toks .refl
   cases qa with
   |none=>exact truthy_none (k0 h)
   |bool=>exact wpAny_truthy_bool (k0 h)
   |int=>exact P.truthy_int (k0 h)
   |str y t=>exact oG h λhh e=>P.truthy_str (by have:=of_decide_eq_true hh;omega) (k0 (congrArg some e))
   | _=>exact ns h
 . refine R.asList_e qa e1 λp vs n ho hs=>?_
   refine wpAny_truthy_list (IsL.isList ho) (by rw[List.size_toArray,hs.length];have:=of_decide_eq_true hh;omega) ?_
   have e2:(!vs.toArray.isEmpty)=!xs.isEmpty:=hs.ind (P:=λxs vs=>(!(List.toArray vs).isEmpty)=!xs.isEmpty) rfl (λuu uu uu=>by simp)
   exact(e2.trans e)▸k _ R.toks .refl
noncomputable def Mf(f:EM):TM:=λlc σ=>(f lc σ).bind λp=>(HE p.2 p.1).map (·,p.2)
theorem Vn(D:AQ C d env Aa e f)(hp:∀ AR,isTrue e env AR=(do let v <- AR;standAt e.pos;holding [v] (truthy v))):KD C d env Aa e (Mf f):=by
 intro lc σ x σ' hf A Q E s ρ hA R lr kk
 refine oB hf λa e1 hf=>oM hf λy hy e2=>?_
 refine wpAny_isTrue_value (D _ _ _ _ e1 A _ E s ρ hA R lr λva s₁ Ad An Aj AA=>?_) (hp _)
 exact I8 An AA hy λAi Az Au=>kj kk e2 Ai Ad Az (Aj.trans Au)
noncomputable def QD(f:TM):TM:=λlc σ=>(f lc σ).map λp=>(!p.1,p.2)
theorem Xz{f:TM}(D:KD C d env Aa e f):KD C d env Aa (.UnaryOp .Not e p) (QD f):=by
 intro lc σ x σ' hf A Q E s ρ hA R lr kk
 exact oM hf λy hy e=>wpAny_isTrue_Not (D _ _ _ _ hy A _ E s ρ hA R lr λs₁ Ad An Aj=>kj kk e s₁ Ad An Aj)
noncomputable def Hw:List TM->TM
 | []=>λ_ σ=>some (true,σ)
 |f::r=>λlc σ=>(f lc σ).bind λp=>if p.1 then Hw r lc p.2 else some (false,p.2)
noncomputable def Vo:List TM->TM
 | []=>λ_ σ=>some (false,σ)
 |f::r=>λlc σ=>(f lc σ).bind λp=>if p.1 then some (true,p.2) else Vo r lc p.2
inductive Od (C:Cfg) (d:Nat) (env:Env) (Aa:List Str):List Expr->List TM->Prop
 |nil:Od C d env Aa [] []
 |cons {e:Expr} {f:TM} {es:List Expr} {fs:List TM} (a:KD C d env Aa e f) (b:Od C d env Aa es fs):Od C d env Aa (e::es) (f::fs)
theorem XA{fs:List TM}(D:Od C d env Aa es fs):KD C d env Aa (.BoolOp .And es p) (Hw fs):=by
 intro lc σ x σ' hf A Q E s ρ hA R lr kk
 refine wpAny_isTrue_BoolOp ?_
 induction D generalizing σ s ρ with
 |nil=>exact wpAny_allTrue_And_nil (ki kk hf s ρ R .refl)
 |cons a b ih =>
  refine oB hf λy e1 hf=>?_
  rcases y with ⟨⟨⟩,σ₁⟩
  . exact wpAny_allTrue_And_cons (a _ _ _ _ e1 A _ E s ρ hA R lr λs₁ Ad An Aj=>ki kk hf s₁ Ad An Aj)
  . exact wpAny_allTrue_And_cons (a _ _ _ _ e1 A _ E s ρ hA R lr λs₁ Ad An Aj=>ih _ hf s₁ Ad An (lr.go Aj) λAi AF Az Au=>kk Ai AF Az (Aj.trans Au))
theorem bH{fs:List TM}(D:Od C d env Aa es fs):KD C d env Aa (.BoolOp .Or es p) (Vo fs):=by
 intro lc σ x σ' hf A Q E s ρ hA R lr kk
 refine wpAny_isTrue_BoolOp ?_
 induction D generalizing σ s ρ with
 |nil=>exact wpAny_allTrue_Or_nil (ki kk hf s ρ R .refl)
 |cons a b ih =>
  refine oB hf λy e1 hf=>?_
  rcases y with ⟨⟨⟩,σ₁⟩
  . exact wpAny_allTrue_Or_cons (a _ _ _ _ e1 A _ E s ρ hA R lr λs₁ Ad An Aj=>ih _ hf s₁ Ad An (lr.go Aj) λAi AF Az Au=>kk Ai AF Az (Aj.trans Au))
  . exact wpAny_allTrue_Or_cons (a _ _ _ _ e1 A _ E s ρ hA R lr λs₁ Ad An Aj=>ki kk hf s₁ Ad An Aj)
noncomputable def XC(f g:EM):EM:=λlc σ=>(f lc σ).bind λp=>(HE p.2 p.1).bind λt=>if t then g lc p.2 else some p
noncomputable def km(f g:EM):EM:=λlc σ=>(f lc σ).bind λp=>(HE p.2 p.1).bind λt=>if t then some p else g lc p.2
theorem XD(D1:AQ C d env Aa l f)(D2:AQ C d env Aa r g):AQ C d env Aa (.BoolOp .And [l,r] p) (XC f g):=by
 intro lc σ x σ' hf A Q E s ρ hA R lr kk
 refine oB hf λa e1 hf=>oB hf λt e2 hf=>?_
 refine wpAny_And2 (D1 _ _ _ _ e1 A _ E s ρ hA R lr λva s₁ Ad An Aj AA=>I8 An AA e2 λAi Az Au=>?_)
 cases t with
 |true=>exact D2 _ _ _ _ hf A _ E Ai Ad hA Az (lr.go (Aj.trans Au)) λv AJ By BY BV Gg=>kk v AJ By BY ((Aj.trans Au).trans BV) Gg
 |false=>exact o9 kk hf va Ai Ad Az (Aj.trans Au) (AA.go Au)
theorem bI(D1:AQ C d env Aa l f)(D2:AQ C d env Aa r g):AQ C d env Aa (.BoolOp .Or [l,r] p) (km f g):=by
 intro lc σ x σ' hf A Q E s ρ hA R lr kk
 refine oB hf λa e1 hf=>oB hf λt e2 hf=>?_
 refine wpAny_Or2 (D1 _ _ _ _ e1 A _ E s ρ hA R lr λva s₁ Ad An Aj AA=>I8 An AA e2 λAi Az Au=>?_)
 cases t with
 |false=>exact D2 _ _ _ _ hf A _ E Ai Ad hA Az (lr.go (Aj.trans Au)) λv AJ By BY BV Gg=>kk v AJ By BY ((Aj.trans Au).trans BV) Gg
 |true=>exact o9 kk hf va Ai Ad Az (Aj.trans Au) (AA.go Au)
noncomputable def Vp(t:TM)(f g:EM):EM:=λlc σ=>(t lc σ).bind λp=>if p.1 then f lc p.2 else g lc p.2
theorem bJ(D0:KD C d env Aa c t)(D1:AQ C d env Aa l f)(D2:AQ C d env Aa r g):AQ C d env Aa (.IfExp c l r p) (Vp t f g):=by
 intro lc σ x σ' hf A Q E s ρ hA R lr kk
 refine oB hf λy e1 hf=>?_
 rcases y with ⟨⟨⟩,σ₁⟩
 . exact wpAny_IfExp (D0 _ _ _ _ e1 A _ E s ρ hA R lr λs₁ Ad An Aj=>D2 _ _ _ _ hf A _ E s₁ Ad hA An (lr.go Aj) λv Ai AF Az Au BL=>kk v Ai AF Az (Aj.trans Au) BL)
 . exact wpAny_IfExp (D0 _ _ _ _ e1 A _ E s ρ hA R lr λs₁ Ad An Aj=>D1 _ _ _ _ hf A _ E s₁ Ad hA An (lr.go Aj) λv Ai AF Az Au BL=>kk v Ai AF Az (Aj.trans Au) BL)
end
section
variable{m m':Str->Option Value}
theorem FE{o:Obj}(e:h.get? L=some o)(hn:∀ vs n,o.data≠.seq vs n):∀ a o vs n,a∈[L]->h.get? a=some o->o.data≠.seq vs n:=λa o' vs n ha e'=>Option.some.inj (e.symm.trans (List.mem_singleton.mp ha▸e'))▸hn vs n
theorem CA(hn:h.Ns L m):∀ a o vs n,a∈[L]->h.get? a=some o->o.data≠.seq vs n:=G7 hn λo es ep ho hd uu=>FE ho λvs n z=>Data.noConfusion (hd.symm.trans z)
theorem CX.step{W:List Addr}(S:Step C W ρ Ar h h')(hW:∀ a o vs n,a∈W->h.get? a=some o->o.data≠.seq vs n):∀ {r:List (Str×AV)} {es:List DictEntry},CX C ρ h r es->CX C Ar h' r es:=λq=>q.map (·.step S hW)
theorem ET(hs:Heap.SameBut L h h'):Step C [L] ρ ρ h h':=⟨by rw[hs.1];exact Nat.le_refl _,λb o e uu w=>(hs.2 b (by simpa using w)).trans e,[],by simp,λuu hp=>nm hp⟩
theorem Rel.moves(R:Rel C ρ σ s)(hf:∀ J∈Is,∃ o,s.heap.get? J=some o/\(∀ vs n,o.data≠.seq vs n)/\(o.cls=.type "code" -> ∀ vs,o.data≠.fields vs))(hm:∀ J∈Is,¬ Ds C ρ J)(hl:∀ J∈Is,C.s₁.heap.objs.size<=J)(k:∀ b o,b∉Is->s.heap.get? b=some o->h'.get? b=some o)(z:s.heap.objs.size<=h'.objs.size):Rel C ρ σ { s with heap:=h',toks:=n }/\Step C Is ρ ρ s.heap h':=by
 have S:Step C Is ρ ρ s.heap h':=⟨z,λb o e uu w=>k b o w e,[],by rw[List.append_nil],λuu hp=>nm hp⟩
 have W:∀ a o vs n,a∈Is->s.heap.get? a=some o->o.data≠.seq vs n:=λa o vs n ha e=>Ci (hf a ha) λo' e' hn uu=>Option.some.inj (e'.symm.trans e)▸hn vs n
 have own:∀ {p:Addr×Addr} {l:Nat},ρ[l]?=some p->p.1∉Is/\p.2∉Is:=λ{p l} e=>⟨λz=>hm _ z (.inr ⟨p,List.mem_of_getElem? e,.inl rfl⟩),λz=>hm _ z (.inr ⟨p,List.mem_of_getElem? e,.inr rfl⟩)⟩
 have kc:∀ b' o,s.heap.get? b'=some o->I6 o->h'.get? b'=some o:=λb' o ho hc=>k _ o (λm=>Ci (hf _ m) λo' e' uu hn=>CJ hc.2 λvs hd=>by
  have z:=Option.some.inj (ho.symm.trans e')
  exact hn (z▸hc.1) vs (z▸hd)) ho
 refine⟨⟨λb o e nt=>k b o (λm=>Nat.not_lt.mpr (hl b m) (Heap.lt_size e)) (R.old b o e nt),λt ht=>Am (R.tab t ht) λmore a b=>?_,R.lo,R.dis,R.len,λl p o e e'=>?_,R.gens.heap (λuu uu uu e uu uu o ho=>k _ o (own e).1 ho),R.drawn,R.os,Nat.le_trans R.size z⟩,S⟩
 . have hP:t.2.1∉Is:=λm=>hm _ m (.inl (List.mem_map.mpr ⟨t,ht,rfl⟩))
   exact⟨more,a.at2 (λo e=>NT b.at_.1 λo' vs ho JF hd uu=>kc _ o e (Option.some.inj (ho.symm.trans e)▸⟨JF,vs,hd⟩)) (λo e=>k _ o hP e),b.move kc (λo e=>k _ o hP e)⟩
 . exact(R.st l p o e e').move (λob z=>k _ _ (own e).1 z) (λob z=>k _ _ (own e).2 z) (·.step S W) (λuu z=>z) kc
theorem Rel.writeX(R:Rel C ρ σ s){oL:Obj}(hL:s.heap.get? L=some oL)(nf:∀ vs,oL.data≠.fields vs)(ns:∀ vs n,oL.data≠.seq vs n)(hm:¬ Ds C ρ L)(hl:C.s₁.heap.objs.size<=L)(hs:Heap.SameBut L s.heap h'):Rel C ρ σ { s with heap:=h',toks:=n } :=
 (R.moves (Is:=[L]) (λJ hJ=>List.mem_singleton.mp hJ▸⟨oL,hL,ns,λuu=>nf⟩) (λJ hJ=>List.mem_singleton.mp hJ▸hm) (λJ hJ=>List.mem_singleton.mp hJ▸hl) (λb o hb e=>(hs.2 b λz=>hb (List.mem_singleton.mpr z)).trans e) (Nat.le_of_eq hs.1.symm)).1
theorem Rel.write(R:Rel C ρ σ s)(hn:s.heap.Ns L m)(hm:¬ Ds C ρ L)(hl:C.s₁.heap.objs.size<=L)(hs:Heap.SameBut L s.heap h'):Rel C ρ σ { s with heap:=h',toks:=n } :=
 G7 hn λo es ep ho hd uu=>R.writeX ho (λvs z=>Data.noConfusion (hd.symm.trans z)) (λvs n z=>Data.noConfusion (hd.symm.trans z)) hm hl hs
end
theorem Vq{xs:List Str}(hn:xs.Nodup)(hi:i<xs.length)(hj:j<xs.length)(e:xs[i]=xs[j]):i=j:=by
 rcases Nat.lt_trichotomy i j with q|q|q
 . exact absurd e (List.pairwise_iff_getElem.mp hn i j hi hj q)
 . exact q
 . exact absurd e.symm (List.pairwise_iff_getElem.mp hn j i hj hi q)
noncomputable def putL(lc:Lc)(i:Nat)(x:AV):Option Lc:=if i<lc.length then some (lc.set i (some x)) else none
noncomputable def BZ(i:Nat)(f:EM):SM:=λlc σ=>(f lc σ).bind λp=>(putL lc i p.1).map (.next,·,p.2)
section
variable{p:Pos}
theorem Ea(H:Bi env Aa){n:Str}(hi:Aa[i]?=some n)(hx:putL lc i x=some lc'){Q:Unit->Shared->Prop}(R:Rel C ρ σ s)(l:Cx C ρ s.heap env.locals Aa lc)(q:VR C ρ s.heap x v)(k:∀ s',Rel C ρ σ s'->Step C [env.locals] ρ ρ s.heap s'.heap->Cx C ρ s'.heap env.locals Aa lc'->Q () s'):wpAny (model C.prog C.w) A (storeName env n v) Q E s:=by
 obtain⟨⟨m,hn,hv⟩,hm,hl,hz⟩:=l
 unfold putL at hx
 (refine sf hx ?_;clear hx;intro uB hx)
 (refine c1 hx λG9=>?_;clear hx;subst G9)
 refine wpAny_storeName_local (H.loc n (List.mem_of_getElem? hi)) hn (λh' Xe hs=>?_) (by rw[H.kind];rfl)
 have S:Step C [env.locals] ρ ρ s.heap h':=ET hs
 refine k _ (R.write hn hm hl hs) S ⟨⟨_,Xe,λj y e=>?_⟩,hm,hl,by rw[List.length_set];exact hz⟩
 by_cases XH:i=j
 . rw[<- XH,List.getElem?_set_self uB] at e
   exact(B6 n v ⟨XH▸hi,if_pos rfl,(Option.some.inj (Option.some.inj e)▸q:VR C ρ s.heap y v).step S (CA hn)⟩)
 . rw[List.getElem?_set_ne XH] at e
   (refine Dt (hv j y e) λn' v' a b c=>?_)
   refine(B6 n' v' ⟨a,?_,c.step S (CA hn)⟩)
   have:n'≠n:=λz=>by
    subst z
    obtain⟨h1,e1⟩:=List.getElem?_eq_some_iff.mp a
    obtain⟨h2,e2⟩:=List.getElem?_eq_some_iff.mp hi
    exact XH (Vq H.nodup h2 h1 (e2.trans e1.symm))
   show(if n'=n then some v else m n')=some v'
   rw[if_neg this];exact b
set_option tactic.hygienic true
theorem bK(H:Bi env Aa){n:Str}(hi:Aa[i]?=some n)(D:AQ C d env Aa e f)(hs:swapsWith e (some (.Name n p')) p.line env=pure false):E4 C d env Aa (.Assign [.Name n p'] e p) (BZ i f):=by
 intro lc σ fl lc' σ' hf A Q E s ρ hA R lr kk
 refine oB hf λx e1 hf=>oM hf λph hp e2=>?_
 refine wpAny_Assign_Name (D _ _ _ _ e1 A _ E s ρ hA R lr λv s₁ Ad An Aj AA=>Ea H hi hp An (lr.go Aj) AA λAi Az Au Cu=>?_) hs
 exact Pj kk e2 _ Ai Ad Az (Aj.of_nil.trans Au) Cu .next
noncomputable def Ah:List SM->SM
 | []=>λlc σ=>some (.next,lc,σ)
 |f::r=>λlc σ=>(f lc σ).bind λt=>match t.1 with
  | .next=>Ah r t.2.1 t.2.2
  | .brk=>some t
  | .cont=>some t
  | .ret _=>some t
theorem Pl:G8 C d env Aa [] (Ah []):=by
 intro lc σ fl lc' σ' hf A Q E s ρ hA R lr kk
 exact wpAny_execs_nil (Xt kk hf _ s ρ R .refl lr .next)
theorem XI{f:SM}{fs:List SM}(D1:E4 C d env Aa st f)(D2:G8 C d env Aa r (Ah fs)):G8 C d env Aa (st::r) (Ah (f::fs)):=by
 intro lc σ fl lc' σ' hf A Q E s ρ hA R lr kk
 refine wpAny_execs_cons (oB hf λt e1 hf=>D1 _ _ _ _ _ e1 A _ E s ρ hA R lr λw s₁ Ad An Aj Ew AA=>?_)
 rcases t with ⟨Oe,lc₁,σ₁⟩
 have z:some (Oe,lc₁,σ₁)=some (fl,lc',σ')->Q w s₁:=λe=>Xt kk e w s₁ Ad An Aj Ew AA
 cases AA with
 |next=>exact D2 _ _ _ _ _ hf A _ E s₁ Ad hA An Ew λw Ai AF Az Au Cu BL=>kk w Ai AF Az (Aj.trans Au) Cu BL
 | _=>exact z hf
noncomputable def Ff(t:TM)(f g:SM):SM:=λlc σ=>(t lc σ).bind λp=>if p.1 then f lc p.2 else g lc p.2
set_option tactic.hygienic false
theorem gE{f g:SM}(D0:KD C d env Aa c t)(D1:G8 C d env Aa b1 f)(D2:G8 C d env Aa b2 g):E4 C d env Aa (.If c b1 b2 p) (Ff t f g):=by
 intro lc σ fl lc' σ' hf A Q E s ρ hA R lr kk
 refine oB hf λy e1 hf=>?_
 rcases y with ⟨⟨⟩,σ₁⟩
 . exact wpAny_If (D0 _ _ _ _ e1 A _ E s ρ hA R lr λs₁ Ad An Aj=>D2 _ _ _ _ _ hf A _ E s₁ Ad hA An (lr.go Aj) λw Ai AF Az Au Cu BL=>kk w Ai AF Az (Aj.of_nil.trans Au) Cu BL)
 . exact wpAny_If (D0 _ _ _ _ e1 A _ E s ρ hA R lr λs₁ Ad An Aj=>D1 _ _ _ _ _ hf A _ E s₁ Ad hA An (lr.go Aj) λw Ai AF Az Au Cu BL=>kk w Ai AF Az (Aj.of_nil.trans Au) Cu BL)
noncomputable def retS(f:EM):SM:=λlc σ=>(f lc σ).map λp=>(.ret p.1,lc,p.2)
theorem bM(D:AQ C d env Aa e f):E4 C d env Aa (.Return (some e) p) (retS f):=by
 intro lc σ fl lc' σ' hf A Q E s ρ hA R lr kk
 exact oM hf λy e1 e2=>wpAny_Return_some (D _ _ _ _ e1 A _ E s ρ hA R lr λv s₁ Ad An Aj AA=>Pj kk e2 _ s₁ Ad An Aj.of_nil (lr.go Aj) (.ret AA))
noncomputable def IQ:SM:=λlc σ=>some (.ret .none,lc,σ)
theorem XJ:E4 C d env Aa (.Return none p) IQ:=by
 intro lc σ fl lc' σ' hf A Q E s ρ hA R lr kk
 exact wpAny_Return_none (Xt kk hf _ s ρ R .refl lr (.ret .none))
noncomputable def NU:SM:=λlc σ=>some (.brk,lc,σ)
theorem bN:E4 C d env Aa (.Break p) NU:=by
 intro lc σ fl lc' σ' hf A Q E s ρ hA R lr kk
 exact wpAny_Break (Xt kk hf _ s ρ R .refl lr .brk)
noncomputable def Of:SM:=λlc σ=>some (.cont,lc,σ)
theorem XK:E4 C d env Aa (.Continue p) Of:=by
 intro lc σ fl lc' σ' hf A Q E s ρ hA R lr kk
 exact wpAny_Continue (Xt kk hf _ s ρ R .refl lr .cont)
noncomputable def Bj(f:EM):SM:=λlc σ=>(f lc σ).map λp=>(.next,lc,p.2)
set_option tactic.hygienic true
theorem XM(D:AQ C d env Aa e f)(hi:interactive env=false)(hs:swapsWith e none p.line env=pure false):E4 C d env Aa (.Expr e p) (Bj f):=by
 intro lc σ fl lc' σ' hf A Q E s ρ hA R lr kk
 refine oM hf λy e1 e2=>wpAny_Expr_any (D _ _ _ _ e1 A _ E s ρ hA R lr λv s₁ Ad An Aj AA=>?_) hi hs
 exact Pj kk e2 _ s₁ Ad An Aj.of_nil (lr.go Aj) .next
end
noncomputable def Ft:List EM->Lc->St->Option (List AV×St)
 | [],_,σ=>some ([],σ)
 |f::r,lc,σ=>(f lc σ).bind λp=>(Ft r lc p.2).map λq=>(p.1::q.1,q.2)
inductive Ej (C:Cfg) (d:Nat) (env:Env) (Aa:List Str):List Expr->List EM->Prop
 |nil:Ej C d env Aa [] []
 |cons {e:Expr} {f:EM} {es:List Expr} {fs:List EM} (a:AQ C d env Aa e f) (b:Ej C d env Aa es fs) (ns:∀ r,starEach (e::r) env=(false,eval e env)::starEach r env):Ej C d env Aa (e::es) (f::fs)
section
variable{p:Pos}
theorem pj{a x:List AV}{Q:List Value->Shared->Prop}(k:∀ v s' Ar,Rel C Ar σ' s'->Step C [] ρ Ar h s'.heap->Bx C Ar s'.heap x v->Q v s')(e:(a,σ₁)=(x,σ')):∀ v s' Ar,Rel C Ar σ₁ s'->Step C [] ρ Ar h s'.heap->Bx C Ar s'.heap a v->Q v s':=by cases e;exact k
theorem Ii(D:Ej C d env Aa es fs):∀ {lc:Lc} {σ σ':St} {xs:List AV},Ft fs lc σ=some (xs,σ')->∀ {A:Around} {Q:List Value->Shared->Prop} {E:Value->Shared->Prop} {s:Shared} {ρ:D7},EL C d A->Rel C ρ σ s->Cx C ρ s.heap env.locals Aa lc ->
 (∀ vs s' Ar,Rel C Ar σ' s'->Step C [] ρ Ar s.heap s'.heap->Bx C Ar s'.heap xs vs->Q vs s')->wpAny (model C.prog C.w) A (spliced (backTo p (starEach es env))) Q E s:=by
 induction D with
 |nil=>intro lc σ σ' xs hf A Q E s ρ hA R lr kk;exact wpAny_items_nil (pj kk (Option.some.inj hf) _ s ρ R .refl .nil)
 |cons a b ns ih =>
  intro lc σ σ' xs hf A Q E s ρ hA R lr kk
  refine oB hf λx e1 hf=>oM hf λy e2 e=>?_
  exact wpAny_items_cons (a _ _ _ _ e1 A _ E s ρ hA R lr λv s₁ Ad An Aj AA=>ih e2 hA An (lr.go Aj) λvs Ai AF Az Au BL=>pj kk e _ Ai AF Az (Aj.trans Au) (.cons (AA.go Au) BL)) (ns _)
noncomputable def IG(fs:List EM):EM:=λlc σ=>(Ft fs lc σ).bind λp=>gd (decide (p.1.length<=sizeLine)) (.tup p.1,p.2)
noncomputable def Br(fs:List EM):EM:=λlc σ=>(Ft fs lc σ).bind λp=>gd (decide (p.1.length<=sizeLine)) (.lst p.1,p.2)
theorem bO(D:Ej C d env Aa es fs):AQ C d env Aa (.Tuple es k p) (IG fs):=by
 intro lc σ x σ' hf A Q E s ρ hA R lr kk
 refine oB hf λxs e1 hf=>oG hf λhz e=>?_
 refine wpAny_Tuple (Ii D e1 hA R lr λvs s₁ Ad An Aj AA=>⟨by rw[AA.length];exact of_decide_eq_true hz,?_⟩)
 exact Hz kk e _ _ Ad (An.push _ (n:=s₁.toks)) (Aj.trans (.pushObj _)) (.tup (Heap.get?_push_size _ rfl) An.fresh (AA.go (.pushObj _)))
theorem bP(D:Ej C d env Aa es fs):AQ C d env Aa (.List es p) (Br fs):=by
 intro lc σ x σ' hf A Q E s ρ hA R lr kk
 refine oB hf λxs e1 hf=>oG hf λhz e=>?_
 refine wpAny_List (Ii D e1 hA R lr λvs s₁ Ad An Aj AA=>⟨by rw[AA.length];exact of_decide_eq_true hz,?_⟩)
 exact Hz kk e _ _ Ad (An.push _ (n:=s₁.toks)) (Aj.trans (.pushObj _)) (.lst (Heap.get?_push_size _ rfl) An.fresh (AA.go (.pushObj _)))
end
theorem Ct.grow(k:∀ b o,h.get? b=some o->h'.get? b=some o)(S:Step C [] ρ Ar h h')(q:Ct C ρ h p o):Ct C Ar h' p o :=
 q.move (k _) (k _) (·.go S) (λuu z=>Am S.grow λδ e _=>e▸z.grow δ) λb o e uu=>k b o e
theorem Rel.rhoLt(R:Rel C ρ σ s)(hp:p∈ρ):p.1<s.heap.objs.size/\p.2<s.heap.objs.size:=by
 obtain⟨l,hl,rfl⟩:=List.mem_iff_getElem.mp hp
 have q:l<σ.length:=R.len▸hl
 exact(R.st l ρ[l] σ[l] (List.getElem?_eq_getElem hl) (List.getElem?_eq_getElem q)).lt
theorem Rel.allocX(R:Rel C ρ σ s)(k:∀ b o,s.heap.get? b=some o->s'.heap.get? b=some o)(z:s.heap.objs.size<=s'.heap.objs.size)(hd:s'.drawn=s.drawn)(bQ:s'.os=s.os)(h1:s.heap.objs.size<=p.1)(h2:s.heap.objs.size<=p.2)(ho:Ct C (ρ++[p]) s'.heap p o)(hg:GR C (ρ++[p]) (σ++[o]) s'.heap s'.gens):Rel C (ρ++[p]) (σ++[o]) s'/\Step C [] ρ (ρ++[p]) s.heap s'.heap:=by
 have S:Step C [] ρ (ρ++[p]) s.heap s'.heap:=⟨z,λb o e uu uu=>k b o e,[p],rfl,λq hq=>by cases List.mem_singleton.mp hq;exact⟨h1,h2⟩⟩
 refine⟨⟨λb o e n=>k b o (R.old b o e n),λt ht=>Am (R.tab t ht) λm a b=>⟨m,a.keeps k,b.keeps k⟩,λq hq=>?_,?_,by simp[R.len],λl q o' e e'=>?_,hg,hd.trans R.drawn,bQ.trans R.os,Nat.le_trans R.size z⟩,S⟩
 . rcases List.mem_append.mp hq with hq|hq
   . exact R.lo q hq
   . cases List.mem_singleton.mp hq;exact⟨Nat.le_trans R.size h1,Nat.le_trans R.size h2⟩
 . refine List.pairwise_append.mpr ⟨R.dis,List.pairwise_singleton ..,λa ha b hb=>?_⟩
   cases List.mem_singleton.mp hb
   have:=R.rhoLt ha
   exact⟨Nat.ne_of_lt (Nat.lt_of_lt_of_le this.1 h1),Nat.ne_of_lt (Nat.lt_of_lt_of_le this.1 h2),Nat.ne_of_lt (Nat.lt_of_lt_of_le this.2 h1),Nat.ne_of_lt (Nat.lt_of_lt_of_le this.2 h2)⟩
 . by_cases hl:l<ρ.length
   . rw[List.getElem?_append_left hl] at e
     rw[List.getElem?_append_left (R.len▸hl)] at e'
     exact(R.st l q o' e e').grow k S
   . have KH:¬ l<σ.length:=R.len▸hl
     rw[List.getElem?_append_right (Nat.not_lt.mp hl)] at e
     rw[List.getElem?_append_right (Nat.not_lt.mp KH)] at e'
     rw[List.getElem?_singleton] at e e'
     exact sf e λuu e=>sf e' λuu e'=>Option.some.inj e▸Option.some.inj e'▸ho
theorem Rel.alloc(R:Rel C ρ σ s)(k:∀ b o,s.heap.get? b=some o->s'.heap.get? b=some o)(z:s.heap.objs.size<=s'.heap.objs.size)(hg:GR C ρ σ s.heap s'.gens)(hd:s'.drawn=s.drawn)(bQ:s'.os=s.os)(h1:s.heap.objs.size<=p.1)(h2:s.heap.objs.size<=p.2)(ho:Ct C (ρ++[p]) s'.heap p o)(ng:o.isGen=false):Rel C (ρ++[p]) (σ++[o]) s'/\Step C [] ρ (ρ++[p]) s.heap s'.heap :=
 R.allocX k z hd bQ h1 h2 ho ((hg.heap λuu uu uu uu uu uu o e=>k _ o e).snoc R.len ng)
noncomputable def FN(fs:List EM):EM:=λlc σ=>(Ft fs lc σ).bind λp=>gd (decide (p.1.length<=sizeLine)) (.loc p.2.length,p.2++[.list p.1])
theorem XO{p:Pos}(D:Ej C d env Aa es fs):AQ C d env Aa (.List es p) (FN fs):=by
 intro lc σ x σ' hf A Q E s ρ hA R lr kk
 refine oB hf λxs e1 hf=>oG hf λhz e=>?_
 refine wpAny_List (Ii D e1 hA R lr λvs s₁ Ad An Aj AA=>⟨by rw[AA.length];exact of_decide_eq_true hz,?_⟩)
 have k:∀ b o,s₁.heap.get? b=some o->(s₁.heap.push (Ck vs 0)).get? b=some o:=λuu uu e=>Heap.get?_push_of_some _ e
 have z:s₁.heap.objs.size<=(s₁.heap.push (Ck vs 0)).objs.size:=by rw[Heap.size_push];exact Nat.le_succ _
 have Au:Step C [] Ad (Ad++[(s₁.heap.objs.size,s₁.heap.objs.size)]) s₁.heap (s₁.heap.push (Ck vs 0)):=⟨z,λb o e uu uu=>k b o e,_,rfl,λq hq=>by cases List.mem_singleton.mp hq;exact⟨Nat.le_refl _,Nat.le_refl _⟩⟩
 (refine AS (An.alloc (s':={ s₁ with heap:=s₁.heap.push (Ck vs 0) }) k z An.gens rfl rfl (p:=(s₁.heap.objs.size,s₁.heap.objs.size)) (o:=.list xs.1) (Nat.le_refl _) (Nat.le_refl _) (.list (Heap.get?_push_size _ rfl) (AA.go Au)) rfl) λAz Au=>?_)
 refine Hz kk e _ _ _ Az (Aj.trans Au) (.loc (p:=(s₁.heap.objs.size,s₁.heap.objs.size)) ?_)
 rw[<- An.len,List.getElem?_append_right (Nat.le_refl _),Nat.sub_self]
 rfl
noncomputable def JK(C:Cfg)(d:Nat)(f:Addr)(F:List AV->St->Option (AV×St)):Prop :=
 ∀ xs σ x σ',F xs σ=some (x,σ')->∀ (A:Around) (P:Result->Shared->Prop) (s:Shared) (ρ:D7) (vs:List Value),EL C d A->Rel C ρ σ s->Bx C ρ s.heap xs vs ->
  (∀ v s' Ar,Rel C Ar σ' s'->Step C [] ρ Ar s.heap s'.heap->VR C Ar s'.heap x v->P (.ok (.ret v)) s')->codeAny (model C.prog C.w) A (.call (.ref f) ⟨vs,[]⟩) P s
noncomputable def Lo(Aa:List Str)(xs:List AV):Lc:=xs.map some++List.replicate (Aa.length-xs.length) none
variable{B:SM}{Cl D a b dx f so:Addr}{F:List AV->St->Option (AV×St)}{M:Model}{T bt dt ga:String}{B1 p0 p1 pr:Pos}{Pm name:Str}{body:List Stmt}{c fv:Value}{cd:ClassData}{dv XP:List Value}{dxs:List AV}{es:List DictEntry}{QF:Bool}{fd:FuncData}{fl:Fl}{hsh:Int}{l':Nat}{o':AO}{od:Option Obj}{os:OsState}{ox:Obj}{pl:Sem Bool}{q:Addr×Addr}{sl:Array (Option Value)}{t tk:Tok}
noncomputable def bR(t:Fl×Lc×St):Option (AV×St):=match t.1 with
 | .ret x=>some (x,t.2.2)
 | .next=>some (.none,t.2.2)
 | .brk=>none
 | .cont=>none
noncomputable def E5(Aa:List Str)(n:Nat)(B:SM)(xs:List AV)(σ:St):Option (AV×St):=if xs.length=n then (B (Lo Aa xs) σ).bind bR else none
theorem JK.mono(D:JK C d' f F)(h:d'<=d):JK C d f F :=
 λxs σ x σ' hf A P s ρ vs hA R q k=>D xs σ x σ' hf A P s ρ vs (hA.mono h) R q k
theorem EL.deeper(a:EL C (d+1) A):EL C d (A.deeper env):=by
 (refine Hv (a) λa1 a2 a3 a4=>?_;clear a)
 refine⟨a1,?_,?_,a4.push (es:=[env]) rfl (Nat.le_refl _)⟩
 . show A.depth+1+d<_;omega
 . show A.units+3+8*d<_;omega
theorem EL.in1(a:EL C (d+1) A):EL C d A.in1:=by
 (refine Hv (a) λa1 a2 a3 a4=>?_;clear a)
 refine⟨a1,?_,?_,a4.same rfl (Nat.le_refl _)⟩
 . show A.depth+d<_;right
 . show A.units+1+8*d<_;omega
noncomputable abbrev Hx(fd:FuncData)(f L:Addr):Env:=newEnv fd.scope L mainGlobals fd.closure (fd.qualname ++ ".<locals>.") (some f) fd.code none builtinsNs
theorem I9{xs:List Str}{x:Str}(hn:xs.Nodup)(e:xs[i]?=some x)(e':vs[i]?=some v):(xs.zip vs).lookup x=some v:=by
 induction xs generalizing vs i with
 |nil=>exact ns e
 |cons y xs ih=>cases vs with
  |nil=>exact ns e'
  |cons w vs =>
   rw[List.zip_cons_cons,List.lookup_cons]
   cases i with
   |zero=>rw[Option.some.inj e,Option.some.inj e',beq_self_eq_true]
   |succ i =>
    have hm:x∈xs:=List.mem_of_getElem? (show xs[i]?=some x from e)
    have Gj:x≠y:=λz=>(List.nodup_cons.mp hn).1 (z▸hm)
    rw[beq_false_of_ne Gj]
    exact ih (List.nodup_cons.mp hn).2 e e'
theorem Ja{l:List (Str×Value)}{x:Str}(hn:(l.map (·.1)).Nodup)(e:l.lookup x=some v):l.reverse.lookup x=some v:=by
 induction l with
 |nil=>simp at e
 |cons a l ih =>
  obtain⟨y,w⟩:=a
  rw[List.map_cons,List.nodup_cons] at hn
  rw[List.reverse_cons]
  rw[List.lookup_cons] at e
  by_cases h:x=y
  . subst h
    simp at e
    subst e
    have:l.reverse.lookup x=none:=by
     rw[List.lookup_eq_none_iff]
     intro p hp
     have:p.1∈l.map (·.1):=List.mem_map_of_mem (List.mem_reverse.mp hp)
     simp only[bne_iff_ne,ne_eq]
     intro z
     exact hn.1 (z▸this)
    rw[List.lookup_append,this]
    simp
  . rw[beq_false_of_ne h] at e
    rw[List.lookup_append,ih hn.2 e]
    rfl
structure Aq (C:Cfg):Prop where
 kin:C.K.In C.s₁.heap
 knt:∀ a o,C.K.lookup a=some o->¬ C.isTab a
 lim:C.s₁.heap.NoLimit
 stat:¬ C.isTab cStatics
 glob:¬ C.isTab mainGlobals
 blt:¬ C.isTab builtinsNs
section
theorem Rel.kin(R:Rel C ρ σ s)(H:Aq C):C.K.In s.heap:=λa o e=>R.old a o (H.kin a o e) (H.knt a o e)
noncomputable def Bp(C:Cfg)(d:Nat)(fv:Value)(F:List AV->St->Option (AV×St)):Prop :=
 ∀ xs σ x σ',F xs σ=some (x,σ')->∀ (A:Around) (Q:Value->Shared->Prop) (E:Value->Shared->Prop) (s:Shared) (ρ:D7) (vs:List Value),EL C d A->Rel C ρ σ s->Bx C ρ s.heap xs vs ->
  (∀ v s' Ar,Rel C Ar σ' s'->Step C [] ρ Ar s.heap s'.heap->VR C Ar s'.heap x v->Q v s')->wpAny (model C.prog C.w) A (call fv vs) Q E s
theorem JK.call(D:JK C d f F):Bp C d (.ref f) F:=by
 intro xs σ x σ' hf A Q E s ρ vs hA R q k
 exact wpAny_call (D xs σ x σ' hf A _ s ρ vs hA R q λv s' Ar R' S' q'=>k v s' Ar R' S' q')
theorem Bp.mono(D:Bp C d' fv F)(h:d'<=d):Bp C d fv F :=
 λxs σ x σ' hf A Q E s ρ vs hA R q k=>D xs σ x σ' hf A Q E s ρ vs (hA.mono h) R q k
noncomputable def BJ(C:Cfg)(fv:Value):Prop:=∀ h,C.K.In h->∃ k,(k=Keeper.frame\/k=Keeper.machine\/k=Keeper.boundFrame)/\Looks (model C.prog C.w) h (keeperOf fv) k
theorem Ak{i:String}:BJ C (.builtin i):=λuu uu=>⟨.machine,.inr (.inl rfl),.now⟩
theorem FG:BJ C (.type T):=λuu uu=>⟨.machine,.inr (.inl rfl),.now⟩
theorem gG{f:Value}(hk:keepIn C.K f=true):BJ C f:=λh X=>keeps_K hk h X
variable{p:Pos}
theorem noStar{es:List Expr}(D:Ej C d env Aa es fs):(backTo p (starEach es env)).any (·.1)=false:=by
 induction D with
 |nil=>rfl
 |cons a b ns ih=>rw[ns];exact ih
theorem JL{es:List Expr}(D:Ej C d env Aa es fs)(hf:Ft fs lc σ=some (xs,σ')){Q:Args->Shared->Prop}(hA:EL C d A)(R:Rel C ρ σ s)(lr:Cx C ρ s.heap env.locals Aa lc)(k:∀ vs s' Ar,Rel C Ar σ' s'->Step C [] ρ Ar s.heap s'.heap->Bx C Ar s'.heap xs vs->Q ⟨vs,[]⟩ s'):wpAny (model C.prog C.w) A (evalArgs fv true (backTo p (starEach es env)) []) Q E s:=by
 have it:=λ(Q':List Value->Shared->Prop) kk=>Ii (p:=p) D hf (Q:=Q') (E:=E) hA R lr kk
 cases D with
 |nil =>
  have hf:some (([]:List AV),σ)=some (xs,σ'):=hf
  refine evalArgs_nil3 ?_
  exact pj (Q:=λvs=>Q ⟨vs,[]⟩) k (Option.some.inj hf) [] s ρ R .refl .nil
 |cons a b ns =>
  rw[ns] at it ⊢
  exact evalArgs_plain (it _ k)
theorem CB(H:Aq C){es:List Expr}(D:Ej C d env Aa es fs)(hf:Ft fs lc σ=some (xs,σ')){first:List Value}(hk:BJ C fv)(hA:EL C d A)(R:Rel C ρ σ s)(lr:Cx C ρ s.heap env.locals Aa lc)(k:∀ vs s' Ar,Rel C Ar σ' s'->Step C [] ρ Ar s.heap s'.heap->Bx C Ar s'.heap xs vs->wpAny (model C.prog C.w) A (call fv (first++vs)) Q E s') :
 wpAny (model C.prog C.w) A (callWith p fv first (backTo p' (starEach es env)) []) Q E s :=
 callWith_of (P:=λh=>C.K.In h) (by rw[noStar D];rfl) hk (JL D hf hA R lr λvs s' Ar R' S' q'=>⟨R'.kin H,k vs s' Ar R' S' q'⟩)
noncomputable def Ay(C:Cfg)(x:Str)(v:Value):Prop:=∃ mg,C.s₁.heap.Ns mainGlobals mg/\(mg x=some v\/(mg x=none/\∃ mb,C.s₁.heap.Ns builtinsNs mb/\mb x=some v))
theorem CY(H:Aq C)(He:Bi env Aa){x:Str}(hv:Ay C x v)(hx:env.kindOf x=some .globalImplicit)(hd:(x==("__debug__" : Str))=false)(R:Rel C ρ σ s)(k:Q v s) :
 wpAny (model C.prog C.w) A (eval (.Name x p) env) Q E s:=by
 (refine Am (hv) λmg hg h=>?_;clear hv)
 refine Name_function_global He.kind hx ?_ hd
 have bj:s.heap.Ns env.globals mg:=by rw[He.glob];exact hg.at λo e=>R.old _ _ e H.glob
 rcases h with h|⟨h,mb,hb,h'⟩
 . exact loadGlobal_global bj h k
 . exact loadGlobal_builtin bj h (by rw[He.blt];exact hb.at λo e=>R.old _ _ e H.blt) h' k
noncomputable def Av(F:List AV->St->Option (AV×St))(fs:List EM):EM:=λlc σ=>(Ft fs lc σ).bind λp=>F p.1 p.2
theorem XQ(H:Aq C)(He:Bi env Aa){x:Str}{es:List Expr}(hv:Ay C x fv)(hx:env.kindOf x=some .globalImplicit)(hk:BJ C fv)(DF:Bp C d fv F)(D:Ej C d env Aa es fs)(hd:(x==("__debug__" : Str))=false):AQ C d env Aa (.Call (.Name x p0) es [] p) (Av F fs):=by
 intro lc σ y σ' hf A Q E s ρ hA R lr kk
 refine oB hf λxs e1 hf=>?_
 show wpAny _ _ (do callWith p (<- eval (.Name x p0) env) [] (backTo p (starEach es env)) (backToKw p (keywordEach [] env))) _ _ _
 refine wpAny_bind (CY H He hv hx hd R ?_)
 refine CB H D e1 hk hA R lr λvs s₁ Ad An Aj AA=>?_
 rw[List.nil_append]
 exact DF _ _ _ _ hf A _ E s₁ Ad vs hA An AA λv Ai AF Az Au BL=>kk v Ai AF Az (Aj.trans Au) BL
noncomputable def EN:AO->Nat
 | .list _=>2
 | .fmt ..=>3
 | .acc ..=>4
 | .ghost=>0
 | .gen ..=>5
 | .out _=>0
 | .cell ..=>0
 | .ext ..=>9
noncomputable def XR(σ:St):AV->Nat
 | .none=>0
 | .bool _=>0
 | .int _=>0
 | .str _=>1
 | .tup _=>0
 | .lst _=>2
 | .loc l=>(σ[l]?.map EN).getD 0
noncomputable def kind(σ:St)(x:AV):Nat:=XR σ x
noncomputable def Vr(C:Cfg)(k:Nat)(name:Str)(fv:Value):Prop :=
 ∀ (A:Around) (Q:Value×List Value->Shared->Prop) (E:Value->Shared->Prop) (s:Shared) (ρ:D7) (σ:St) (x:AV) (v:Value) (pl:Sem Bool),Rel C ρ σ s->VR C ρ s.heap x v->kind σ x=k->Q (fv,[v]) s->wpAny (model C.prog C.w) A (getMethod v name pl) Q E s
noncomputable def mE(k:Nat)(F:List AV->St->Option (AV×St))(f:EM)(fs:List EM):EM:=λlc σ=>(f lc σ).bind λp=>if kind p.2 p.1=k then (Ft fs lc p.2).bind λq=>F (p.1::q.1) q.2 else none
theorem Jb{o:Expr}{es:List Expr}(D:Ej C d env Aa es fs)(hb:∀ nm AR,attributeBase o nm env AR=AR)(hl:es.length<30)(hp:(B1.endLine==p.line)=true)(h:wpAny (model C.prog C.w) A (eval o env) (λv s₁=>wpAny (model C.prog C.w) A (getMethod v name (do return (<- importBound o env).getD true)) (λr Ai=>wpAny (model C.prog C.w) A (callWith p r.1 r.2 (backTo p (starEach es env)) (backToKw p (keywordEach [] env))) Q E Ai) E s₁) E s) :
 wpAny (model C.prog C.w) A (eval (.Call (.Attribute o name B1) es [] p) env) Q E s:=by
 have a1:(backTo p (starEach es env)).all (!·.1)=true:=by
  rw[List.all_eq_true]
  intro x hx
  simpa using List.any_eq_false.mp (noStar (p:=p) D) x hx
 have XT:methodCallForm (es.length+0) (backTo p (starEach es env)) (backToKw p (keywordEach [] env))=true:=by
  unfold methodCallForm
  rw[a1]
  exact decide_eq_true hl
 have KI:methodCallPos true o env B1 p=pure p:=by
  unfold methodCallPos
  rw[hp];rfl
 rw[arm_eval_Call,hb]
 refine wpAny_bind (wpAny_mono h (λv s₁ q=>wpAny_bind (wpAny_standAt ?_)) λuu uu z=>z)
 show wpAny _ _ (methodCall o name B1 p env v (es.length+0) (backTo p (starEach es env)) (backToKw p (keywordEach [] env))) _ _ _
 unfold methodCall
 rw[XT,KI]
 exact wpAny_bind (wpAny_holding (wpAny_mono q (λr Ai q=>wpAny_bind (wpAny_pure q)) λuu uu z=>z))
theorem XU(H:Aq C){o:Expr}{f:EM}{es:List Expr}(hg:Vr C k name fv)(hk:BJ C fv)(DF:Bp C d fv F)(D0:AQ C d env Aa o f)(D:Ej C d env Aa es fs)(hb:∀ nm AR,attributeBase o nm env AR=AR)(hl:es.length<30)(hp:(B1.endLine==p.line)=true):AQ C d env Aa (.Call (.Attribute o name B1) es [] p) (mE k F f fs):=by
 intro lc σ y σ' hf A Q E s ρ hA R lr kk
 refine oB hf λr e1 hf=>sf hf λbS hf=>oB hf λxs e2 hf=>?_
 refine Jb D hb hl hp (D0 _ _ _ _ e1 A _ E s ρ hA R lr λv s₁ Ad An Aj AA=>?_)
 refine hg A _ E s₁ Ad r.2 r.1 v _ An AA bS ?_
 dsimp only
 refine CB H D e2 hk hA An (lr.go Aj) λvs Ai AF Az Au BL=>?_
 exact DF _ _ _ _ hf A _ E Ai AF (v::vs) hA Az (.cons (AA.go Au) BL) λv' AJ By BY BV Gg=>kk v' AJ By BY ((Aj.trans Au).trans BV) Gg
end
section
variable{x:Addr}
theorem Og{id n:String}{B:Builtin}{rest:List Value}(L:Looks (model C.prog C.w) s.heap (isInstance v (.type T)) true)(hk:builtinKind id=some .method\/builtinKind id=some .slot)(hs:splitId id=some (T,n))(hp:plainId id=true)(hb:entryFor table id=some B)(ha:argsOk id ⟨v::rest,[]⟩)(hc:wpAny (model C.prog C.w) A.in1 (B ⟨v::rest,[]⟩) (λfin s'=>∃ v,fin=.done (.ret v)/\Q v s') E s):wpAny (model C.prog C.w) A (call (.builtin id) (v::rest)) Q E s:=by
 refine wpAny_call (codeAny_call_builtin hp hb ?_)
 have Vs:=wpAny_mono hc (Q':=λfin s'=>match fin with
  | .done f=>(match (Except.ok f:Result) with | .ok (.ret v)=>Q v s' | .ok _=>False | .error e=>E e s')
  | .again c'=>c'.quiet=true/\codeAny (model C.prog C.w) A c' (λr s'=>match r with | .ok (.ret v)=>Q v s' | .ok _=>False | .error e=>E e s') s')
  (λfin s' h'=>by (refine Am (h') λv IF hv=>?_;clear h';subst IF);exact hv) λuu uu h'=>h'
 rcases hk with hk|hk
 . exact kfo_check hk hs L ha Vs
 . exact check_slot hk hs L ha Vs
theorem FO{id n:String}{B:Builtin}{rest:List Value}(X:C.K.In s.heap)(I:W.InstAt s.heap x ox Cl od)(hm:mroIn C.K Cl (.type T)=some true)(hk:builtinKind id=some .method\/builtinKind id=some .slot)(hs:splitId id=some (T,n))(hp:plainId id=true)(hb:entryFor table id=some B)(ha:argsOk id ⟨.ref x::rest,[]⟩)(hc:wpAny (model C.prog C.w) A.in1 (B ⟨.ref x::rest,[]⟩) (λfin s'=>∃ v,fin=.done (.ret v)/\Q v s') E s):wpAny (model C.prog C.w) A (call (.builtin id) (.ref x::rest)) Q E s:=Og (I.type.andThen (looks_mroIn X hm)) hk hs hp hb ha hc
theorem Vt{d:Addr}{o:Obj}{r:Option Value}{Q:Option Value->Shared->Prop}(ho:s.heap.get? d=some o)(e:lookIn name o=some r)(k:Q r s):wpAny M A (nsGet d name) Q E s:=by
 unfold nsGet
 refine wpAny_bind (wpAny_loadPart ho ?_)
 rw[nsLook_of e]
 exact wpAny_pure k
theorem HH{tf:Value}{o:Obj}{Q:Value×List Value->Shared->Prop}(X:C.K.In s.heap)(I:W.InstAt s.heap x ox Cl od)(hd:ox.dict=some dx)(ho:s.heap.get? dx=some o)(bT:findIn C.K (.ref Cl) "__getattribute__" = some (some (.builtin ga)))(XW:(Manifest.canonical ga != "object.__getattribute__")=false)(gH:findIn C.K (.ref Cl) "__getattr__" = some none)(hf:findIn C.K (.ref Cl) name=some (some fv))(ht:typeIn C.K fv=some tf)(pq:tf=.type "function" \/ tf=.type "method_descriptor" \/ tf=.type "wrapper_descriptor")(hn:lookIn name o=some none)(k:Q (fv,[.ref x]) s) :
 wpAny (model C.prog C.w) A (getMethod (.ref x) name pl) Q E s:=by
 unfold getMethod
 have sp:∀ {nm:Str} {r:Option Value},findIn C.K (.ref Cl) nm=some r->Looks (model C.prog C.w) s.heap (specialOf (.ref x) nm) r:=λe=>I.type.andThen (looks_findIn X e)
 refine wpAny_bind ((sp bT).here ?_)
 dsimp only
 rw[XW,if_neg Bool.false_ne_true]
 refine wpAny_bind ((sp gH).here ?_)
 rw[if_neg (by simp)]
 refine wpAny_bind ((sp hf).here ?_)
 dsimp only
 refine wpAny_bind ((looks_typeIn X ht).here ?_)
 have:(tf != .type "function" && tf != .type "method_descriptor" && tf != .type "wrapper_descriptor")=false:=by rcases pq with rfl|rfl|rfl<;>decide
 rw[this,if_neg Bool.false_ne_true]
 refine wpAny_bind (wpAny_loadPart I.at_ ?_)
 rw[hd]
 refine wpAny_bind (Vt ho hn ?_)
 exact wpAny_bind (wpAny_rule (wpAny_pure k))
theorem XX{k:Str}(h:name=k):getL name (⟨hsh,.str k t,v⟩::es)=some (some v):=by
 subst h
 unfold getL
 rw[List.find?_cons_of_pos (p:=λx:DictEntry=>x.key.isStr name) (a:=⟨hsh,.str name t,v⟩) (beq_self_eq_true name)]
theorem QH{k:Str}(h:¬ name=k):getL name (⟨hsh,.str k t,v⟩::es)=getL name es:=by
 have:Value.isStr (.str k t) name=false:=beq_false_of_ne (Ne.symm h)
 unfold getL
 rw[List.find?_cons]
 simp -iota only[this,List.any_cons]
 rfl
noncomputable def pv(C:Cfg)(ρ:D7)(h:Heap)(name:Str)(es:List DictEntry):Option AV->Prop
 |some y=>∃ v,getL name es=some (some v)/\VR C ρ h y v
 |none=>getL name es=some none
theorem CO{r:List (Str×AV)}(e:CX C ρ h r es):pv C ρ h name es (r.lookup name):=by
 induction e with
 |nil=>exact rfl
 | @cons k x t v r es a b ih =>
  rw[List.lookup_cons]
  by_cases hk:name=k
  . rw[hk,beq_self_eq_true]
    exact⟨v,XX rfl,a⟩
  . rw[beq_false_of_ne hk]
    cases q:r.lookup name with
    |none=>rw[q] at ih;exact(QH hk).trans ih
    |some y=>rw[q] at ih;exact Am ih λv h1 h2=>⟨v,(QH hk).trans h1,h2⟩
theorem E6(X:C.K.In s.heap)(I:W.InstAt s.heap x ox Cl od)(bT:findIn C.K (.ref Cl) "__getattribute__" = some (some (.builtin "object.__getattribute__")))(hf:findObj C.K Cl od name=some (.value v))(hh:handedIn v=true)(k:Q v { s with toks:=s.toks+1 }):wpAny (model C.prog C.w) A (getAttr (.ref x) name QF) Q E s:=get_value X I bT hf hh k
theorem Ut:bindSpecial (.builtin "list.__getattribute__") (.ref x)=pure (.builtin "list.__getattribute__",[.ref x]):=F.slot_list_getattribute.bind _
theorem JM(X:C.K.In s.heap)(I:W.InstAt s.heap x ox Cl od)(bT:findIn C.K (.ref Cl) "__getattribute__" = some (some (.builtin "list.__getattribute__")))(gH:findIn C.K (.ref Cl) "__getattr__" = some none)(hm:mroIn C.K Cl (.type "list")=some true)(hf:findObj C.K Cl od name=some (.value v))(hh:handedIn v=true)(k:Q v { s with toks:=s.toks+1 }):wpAny (model C.prog C.w) A (getAttr (.ref x) name QF) Q E s:=by
 have L1:=looks_findIn (M:=model C.prog C.w) X bT
 have L2:=looks_findIn (M:=model C.prog C.w) X gH
 have L3:=looks_find (M:=model C.prog C.w) X I hf
 have L0:=I.type (M:=model C.prog C.w)
 obtain⟨hp,g,d,t,os⟩:=s
 unfold getAttr getAttrBy
 refine wpAny_bind (wpAny_mkText (wpAny_holding (wpAny_bind (L0.at (wpAny_bind (L1.at ?_))))))
 show wpAny _ _ (getAttrByItsOwn _ _ _ _ _ _) _ _ _
 unfold getAttrByItsOwn
 refine wpAny_bind (L2.at ?_)
 refine wpAny_bind (wpAny_attempt (wpAny_holding ?_))
 have e:callGetattribute (.ref x) (.str name t) (.builtin "list.__getattribute__") QF=boundAndCalled (.builtin "list.__getattribute__") (.ref x) (.str name t):=by
  unfold callGetattribute
  rw[if_neg (by simp -iota [onTheHeap])]
 rw[e]
 unfold boundAndCalled
 rw[Ut]
 refine wpAny_bind (wpAny_pure ?_)
 refine FO (s:=⟨hp,g,d,t+1,os⟩) X I hm (.inr (by decide +kernel)) (n := "__getattribute__") (by decide +kernel) (by decide +kernel) F.entry_list_ga (by unfold argsOk;left) ?_
 refine wpAny_bind (wpAny_pure (wpAny_bind (wpAny_pure (wpAny_bind (L0.at (wpAny_bind (L3.at ?_)))))))
 refine wpAny_pure ⟨_,rfl,?_⟩
 show wpAny _ _ (handedOut v) _ _ _
 rw[handedOut_of hh]
 exact wpAny_pure k
end
noncomputable def attrName:Nat->Str
 | 0 => "_maxlen"
 | 1 => "_continuation_ws"
 | 2 => "_continuation_ws_len"
 | 3 => "_splitchars"
 | 4 => "_lines"
 | 5 => "_current_line"
 | _ => "_initial_size"
noncomputable def Jc(k:Nat):AO->Option AV
 | .fmt ml cw Cr sp ln ac=>((B2 ml cw Cr sp ln ac)[k]?).map (·.2)
 | .acc ini _=>gd (k==6) (.int ini)
 | .list _=>none
 | .ghost=>none
 | .gen ..=>none
 | .out _=>none
 | .cell ..=>none
 | .ext ..=>none
theorem Sm(h:Jc k (.fmt ml cw Cr sp ln ac)=some x):(B2 ml cw Cr sp ln ac).lookup (attrName k)=some x/\k<6:=by
 have h:((B2 ml cw Cr sp ln ac)[k]?).map (·.2)=some x:=h
 have hk:k<6:=Nat.lt_of_not_le λq=>by
  rw[List.getElem?_eq_none (show(B2 ml cw Cr sp ln ac).length<=k from q)] at h
  exact ns h
 exact⟨upTo (P:=λk=>((B2 ml cw Cr sp ln ac)[k]?).map (·.2)=some x->(B2 ml cw Cr sp ln ac).lookup (attrName k)=some x) 5 (upTo 4 (upTo 3 (upTo 2 (upTo 1 (upTo 0 Mw λh=>h) λh=>h) λh=>h) λh=>h) λh=>h) (λh=>h) k hk h,hk⟩
theorem MF(h:Jc k (.acc ini ps)=some x):(C6 ini).lookup (attrName k)=some x/\attrName k = "_initial_size" :=
 oG (show gd (k==6) (AV.int ini)=some x from h) λhk e=>by cases(beq_iff_eq.mp hk:k=6);exact⟨congrArg some e,rfl⟩
structure Bg (C:Cfg):Prop where
 vfGa:findIn C.K (.ref C.VF) "__getattribute__" = some (some (.builtin "object.__getattribute__"))
 vfGt:findIn C.K (.ref C.VF) "__getattr__" = some none
 vfDict:hasDictIn C.K C.VF=true
 vfAttr:∀ k,k<6->findIn C.K (.ref C.VF) (attrName k)=some none
 acGa:findIn C.K (.ref C.ACC) "__getattribute__" = some (some (.builtin "list.__getattribute__"))
 acGt:findIn C.K (.ref C.ACC) "__getattr__" = some none
 acDict:hasDictIn C.K C.ACC=true
 acAttr:findIn C.K (.ref C.ACC) "_initial_size" = some none
 acMro:mroIn C.K C.ACC (.type "list")=some true
theorem Ex{d:Addr}(ho:h.get? a=some ⟨.ref C.VF,some d,.plain,#[]⟩)(hd:h.get? d=some (dictOf es n)):W.InstAt h a ⟨.ref C.VF,some d,.plain,#[]⟩ C.VF (some (dictOf es n)):=⟨ho,rfl,rfl,hd⟩
theorem CC{d:Addr}(ho:h.get? a=some ⟨.ref C.ACC,some d,.seq vs.toArray n,#[]⟩)(hd:h.get? d=some (dictOf es n')):W.InstAt h a ⟨.ref C.ACC,some d,.seq vs.toArray n,#[]⟩ C.ACC (some (dictOf es n')):=⟨ho,rfl,rfl,hd⟩
theorem GI(q:VR C ρ h x v):handedIn v=true:=by cases q<;>rfl
theorem XY(H:Aq C)(HC:Bg C)(R:Rel C ρ σ s)(q:VR C ρ s.heap (.loc l) v)(hl:σ[l]?=some o)(h:Jc k o=some x)(kk:∀ w s',Rel C ρ σ s'->Step C [] ρ ρ s.heap s'.heap->VR C ρ s'.heap x w->Q w s'):wpAny (model C.prog C.w) A (getAttr v (attrName k) true) Q E s:=by
 have X:=R.kin H
 cases o with
 |fmt =>
  refine R.fmt_e hl q λa d es n uu ho hd he=>?_
  have g:=CO (name:=attrName k) he
  (refine AS (Sm h) λh' hk=>?_)
  rw[h'] at g
  exact Am g λw hw qw=>E6 X (Ex ho hd) HC.vfGa (findObj_own HC.vfDict (HC.vfAttr k hk) rfl hw) (GI qw) (kk w _ R.toks .refl qw)
 |acc =>
  refine R.acc_e hl q λa d es n n' vs uu ho hd he hs=>?_
  have g:=CO (name:=attrName k) he
  (refine AS (MF h) λh' hk=>?_)
  rw[h'] at g
  rw[hk] at g ⊢
  exact Am g λw hw qw=>JM X (CC ho hd) HC.acGa HC.acGt HC.acMro (findObj_own HC.acDict HC.acAttr rfl hw) (GI qw) (kk w _ R.toks .refl qw)
 | _=>exact ns h
noncomputable def Bk(k:Nat)(f:EM):EM:=λlc σ=>(f lc σ).bind λp=>p.1.loc?.bind λl=>p.2[l]?.bind λo=>(Jc k o).map (·,p.2)
theorem XZ{p:Pos}{o:Expr}{n:Str}{f:EM}(H:Aq C)(HC:Bg C)(hn:attrName k=n)(D:AQ C d env Aa o f)(hb:∀ nm AR,attributeBase o nm env AR=AR):AQ C d env Aa (.Attribute o n p) (Bk k f):=by
 intro lc σ x σ' hf A Q E s ρ hA R lr kk
 refine oB hf λy e1 hf=>oB hf λl el hf=>oB hf λob e2 hf=>oM hf λz hz e3=>?_
 rw[<- hn]
 refine Attribute_any_ (D _ _ _ _ e1 A _ E s ρ hA R lr λv s₁ Ad An Aj AA=>?_) (by rw[arm_eval_Attribute,hb])
 exact XY H HC An (AV.loc_inv el▸AA) e2 hz λw Ai Az Au BL=>Hz kk e3 w Ai Ad Az (Aj.trans Au) BL
theorem MG(h:kind σ x=k)(hk:2<k):∃ l o,x.loc?=some l/\σ[l]?=some o/\EN o=k:=by
 have no:∀ {n:Nat},n=k->n<=2->False:=λe z=>Nat.lt_irrefl _ (Nat.lt_of_lt_of_le (e▸hk) z)
 cases x with
 |loc l =>
  have h:(σ[l]?.map EN).getD 0=k:=h
  cases e:σ[l]? with
  |none=>rw[e] at h;exact(no h (by decide)).elim
  |some o=>rw[e] at h;exact(B6 l o ⟨rfl,e,h⟩)
 |lst=>exact(no (n:=2) h (by decide)).elim
 |str=>exact(no (n:=1) h (by decide)).elim
 | _=>exact(no (n:=0) h (by decide)).elim
theorem Vu(h:EN o=3):∃ ml cw Cr sp ln ac,o=.fmt ml cw Cr sp ln ac:=by
 cases o with
 |fmt ml cw Cr sp ln ac=>exact(jM ml cw Cr sp ln ac rfl)
 | _=>exact absurd h (by dsimp only[EN];decide)
theorem Oh(h:EN o=4):∃ ini ps,o=.acc ini ps:=by
 cases o with
 |acc ini ps=>exact(B6 ini ps rfl)
 | _=>exact absurd h (by dsimp only[EN];decide)
theorem X0(H:Aq C)(HC:Bg C)(hf:findIn C.K (.ref C.VF) name=some (some (.ref f)))(ht:typeIn C.K (.ref f)=some (.type "function"))(c:∀ k,k<6->(name==attrName k)=false):Vr C 3 name (.ref f):=by
 intro A Q E s ρ σ x v pl R q hk kk
 refine Dt (MG hk (by decide)) λl o el hl ko=>bw (Vu ko) λml cw Cr sp ln ac eo=>?_
 rw[eo] at hl
 rw[AV.loc_inv el] at q
 clear eo ko hk
 revert kk
 refine R.fmt_e hl q λa d es n uu ho hd he kk=>?_
 have g:=CO (name:=name) he
 have e:(B2 ml cw Cr sp ln ac).lookup name=none:=by
  unfold B2
  have c0:(name==("_maxlen" : Str))=false:=c 0 (by decide)
  have c1:(name==("_continuation_ws" : Str))=false:=c 1 (by decide)
  have c2:(name==("_continuation_ws_len" : Str))=false:=c 2 (by decide)
  have c3:(name==("_splitchars" : Str))=false:=c 3 (by decide)
  have c4:(name==("_lines" : Str))=false:=c 4 (by decide)
  have c5:(name==("_current_line" : Str))=false:=c 5 (by decide)
  simp only[List.lookup_cons,c0,c1,c2,c3,c4,c5,List.lookup_nil]
 rw[e] at g
 exact HH (R.kin H) (Ex ho hd) rfl hd HC.vfGa (by decide +kernel) HC.vfGt hf ht (.inl rfl) g kk
theorem QI(H:Aq C)(HC:Bg C){tf:Value}(hf:findIn C.K (.ref C.ACC) name=some (some fv))(ht:typeIn C.K fv=some tf)(pq:tf=.type "function" \/ tf=.type "method_descriptor" \/ tf=.type "wrapper_descriptor")(hn:(name==("_initial_size" : Str))=false):Vr C 4 name fv:=by
 intro A Q E s ρ σ x v pl R q hk kk
 refine Dt (MG hk (by decide)) λl o el hl ko=>ID (Oh ko) λini ps eo=>?_
 rw[eo] at hl
 rw[AV.loc_inv el] at q
 clear eo ko hk
 revert kk
 refine R.acc_e hl q λa d es n n' vs uu ho hd he hs kk=>?_
 have g:=CO (name:=name) he
 have e:(C6 ini).lookup name=none:=by
  unfold C6
  rw[List.lookup_cons,hn]
  rfl
 rw[e] at g
 exact HH (R.kin H) (CC ho hd) rfl hd HC.acGa (by decide +kernel) HC.acGt hf ht pq g kk
theorem Dk(hm:Ds C ρ a)(hs:Heap.SameBut a h h'):Step C [] ρ ρ h h' :=
 ⟨by rw[hs.1];exact Nat.le_refl _,λb o e n uu=>(hs.2 b λz=>n (z▸hm)).trans e,[],by simp,λuu hp=>nm hp⟩
theorem Pn(R:Rel C ρ σ s)(hl:ρ[l]?=some p)(KH:ρ[l']?=some q)(Gj:l≠l'):p.1≠q.1/\p.1≠q.2/\p.2≠q.1/\p.2≠q.2:=by
 obtain⟨h1,e1⟩:=List.getElem?_eq_some_iff.mp hl
 obtain⟨h2,e2⟩:=List.getElem?_eq_some_iff.mp KH
 have D:=List.pairwise_iff_getElem.mp R.dis
 rcases Nat.lt_or_gt_of_ne Gj with h|h
 . have:=D l l' h1 h2 h;rw[e1,e2] at this;exact this
 . have:=D l' l h2 h1 h;rw[e1,e2] at this;exact⟨this.1.symm,this.2.2.1.symm,this.2.1.symm,this.2.2.2.symm⟩
theorem Ct.noFields(z:Ct C ρ h p o)(ha:p.1=a\/p.2=a):∃ ob,h.get? a=some ob/\((∀ vs,ob.data≠.fields vs)\/ob.cls=.type "generator"):=by
 have at_:∀ {b:Addr} {ob:Obj},b=a->h.get? b=some ob->((∀ vs,ob.data≠.fields vs)\/ob.cls=.type "generator")->∃ ob,h.get? a=some ob/\((∀ vs,ob.data≠.fields vs)\/ob.cls=.type "generator"):=λe ho z=>⟨_,e▸ho,z⟩
 have nf:∀ {ob:Obj} {d:Data},ob.data=d->(∀ vs,d≠.fields vs)->((∀ vs,ob.data≠.fields vs)\/ob.cls=.type "generator"):=λe z=>.inl λvs y=>z vs (e.symm.trans y)
 cases o with
 |list=>exact Dt z λvs n e h1 uu=>at_ (ha.elim id λz=>e.symm.trans z) h1 (nf rfl λuu=>Data.noConfusion)
 |fmt=>exact Dt z λes n h1 h2 uu=>ha.elim (λe=>at_ e h1 (nf rfl λuu=>Data.noConfusion)) λe=>at_ e h2 (nf rfl λuu=>Data.noConfusion)
 |acc=>exact LY z λes n n' vs h1 h2 uu uu=>ha.elim (λe=>at_ e h1 (nf rfl λuu=>Data.noConfusion)) λe=>at_ e h2 (nf rfl λuu=>Data.noConfusion)
 |ghost=>exact Gf z λx y n e h1=>at_ (ha.elim id λz=>e.symm.trans z) h1 (nf rfl λuu=>Data.noConfusion)
 |out=>exact Es z λnm qn e h1=>at_ (ha.elim id λz=>e.symm.trans z) h1 (.inr rfl)
 |gen=>exact Gf z λn nm qn h1 hL=>ha.elim (λe=>at_ e h1 (.inr rfl)) λe=>Es hL.self λmm q hn uu=>G7 hn λo es ep ho hd uu=>at_ e ho (nf hd λuu=>Data.noConfusion)
 |cell c x =>
  refine AS z λe z=>?_
  have ec:c=a:=ha.elim (λq=>(congrArg (·.1) e).symm.trans q) λq=>(congrArg (·.2) e).symm.trans q
  have cl:∀ {v:Option Value},h.IsCell c v->∃ ob,h.get? a=some ob/\((∀ vs,ob.data≠.fields vs)\/ob.cls=.type "generator"):=λq=>Am q λob ho hd=>at_ ec ho (nf hd λuu=>Data.noConfusion)
  cases x with
  |none=>exact cl z
  |some y=>exact Am z λv q uu=>cl q
 |ext=>exact gw (z) λo1 o2 uu a b n1 n2 uu=>ha.elim (λe=>at_ e a n1) λe=>at_ e b n2
theorem Rel.upd(R:Rel C ρ σ s)(hl:ρ[l]?=some p)(ha:p.1=a\/p.2=a)(hs:Heap.SameBut a s.heap h')(Uq:Ct C ρ h' p o')(ng:o'.isGen=false) :
 Rel C ρ (σ.set l o') { s with heap:=h',toks:=n }/\Step C [] ρ ρ s.heap h':=by
 have KJ:=List.mem_of_getElem? hl
 have hm:Ds C ρ a:=.inr ⟨p,KJ,ha⟩
 have S:Step C [] ρ ρ s.heap h':=Dk hm hs
 have gI:C.s₁.heap.objs.size<=a:=by rcases ha with rfl|rfl;exact(R.lo p KJ).1;exact(R.lo p KJ).2
 have q0:l<σ.length:=R.len▸(List.getElem?_eq_some_iff.mp hl).1
 have kn:∀ b o,s.heap.get? b=some o->I6 o->b≠a:=λb o ho hc=>by
  (refine Am ((R.st l p σ[l] hl (List.getElem?_eq_getElem q0)).noFields ha) λob bU hn=>?_)
  obtain⟨hc,vs,hd⟩:=hc
  rintro rfl
  rw[bU] at ho;cases ho
  exact hn.elim (λhn=>hn _ hd) λhn=>by rw[hc] at hn;exact absurd hn (by decide)
 have kq:∀ t∈C.tabs,t.1≠a/\t.2.1≠a:=λt ht=>by
  obtain⟨_,_,⟨⟨⟨o,vs,ho,hc,hd,_⟩,hP⟩,_⟩⟩:=R.tab t ht
  have q:l<σ.length:=R.len▸(List.getElem?_eq_some_iff.mp hl).1
  (refine Am ((R.st l p σ[l] hl (List.getElem?_eq_getElem q)).noFields ha) λob bU hn=>?_)
  constructor
  . rintro rfl
    rw[bU] at ho;cases ho
    exact hn.elim (λhn=>hn _ hd) λhn=>by rw[hc] at hn;exact absurd hn (by decide)
  . rintro rfl
    rw[bU] at hP;cases hP
    exact hn.elim (λhn=>hn _ rfl) λhn=>absurd (show Value.none=.type "generator" from hn) (by decide)
 have gk:∀ (l':Nat) (p':Addr×Addr) (x:AO),ρ[l']?=some p'->(σ.set l o')[l']?=some x->x.isGen=true->∀ o,s.heap.get? p'.1=some o->h'.get? p'.1=some o:=by
  intro l' p' x e e' hx o ho
  have eO:l≠l':=by
   rintro rfl
   rw[List.getElem?_set_self (by exact R.len▸(List.getElem?_eq_some_iff.mp hl).1)] at e'
   cases e';rw[hx] at ng;cases ng
  have d:=Pn R hl e eO
  refine(hs.2 _ ?_).trans ho
  rcases ha with rfl|rfl
  . exact d.1.symm
  . exact d.2.2.1.symm
 refine⟨⟨λb o e nt=>?_,λt ht=>?_,R.lo,R.dis,by rw[List.length_set];exact R.len,λl' p' o e e'=>?_,(R.gens.set ng).heap gk,R.drawn,R.os,by show _<=h'.objs.size;rw[hs.1];exact R.size⟩,S⟩
 . exact(hs.2 b (Nat.ne_of_lt (Nat.lt_of_lt_of_le (Heap.lt_size e) gI))).trans (R.old b o e nt)
 . (refine Am (R.tab t ht) λmore x y=>?_)
   have:=kq t ht
   exact⟨more,x.sameBut hs this.1 this.2,y.move (λb o e hc=>(hs.2 b (kn b o e hc)).trans e) λo e=>(hs.2 _ this.2).trans e⟩
 . by_cases eO:l=l'
   . subst eO
     rw[hl] at e
     rw[List.getElem?_set_self (by exact R.len▸(List.getElem?_eq_some_iff.mp hl).1)] at e'
     exact Option.some.inj e▸Option.some.inj e'▸Uq
   . rw[List.getElem?_set_ne eO] at e'
     have d:=Pn R hl e eO
     have n1:p'.1≠a:=by rcases ha with rfl|rfl;exact d.1.symm;exact d.2.2.1.symm
     have n2:p'.2≠a:=by rcases ha with rfl|rfl;exact d.2.1.symm;exact d.2.2.2.symm
     exact(R.st l' p' o e e').move (λob z=>(hs.2 _ n1).trans z) (λob z=>(hs.2 _ n2).trans z) (·.go S) (λuu z=>z) λb o e hc=>(hs.2 b (kn b o e hc)).trans e
theorem QJ{d:Addr}(ho:h.get? a=some ⟨.ref C.ACC,some d,.seq vs.toArray n,#[]⟩)(hd:h.get? d=some (dictOf es n')):d≠a:=by
 rintro rfl
 rw[ho] at hd
 cases hd
theorem Ek{d:Option Addr}{items:Array Value}(ho:h.get? a=some ⟨c,d,.seq items n,sl⟩)(f:Array Value->Array Value) :
 (h.update a (Obj.mapSeq f)).get? a=some ⟨c,d,.seq (f items) (if (f items).size==items.size then n else n+1),sl⟩:=Heap.get?_update_self _ ho rfl
theorem MI{d:Option Addr}{items:Array Value}{x:Value}{Q:Fin->Shared->Prop}(ho:s.heap.get? a=some ⟨c,d,.seq items n,sl⟩)(hz:items.size<=sizeLine)(k:Q (.done (.ret .none)) { s with heap:=s.heap.update a (Obj.mapSeq λxs=>xs.push x) }):wpAny (model C.prog C.w) A (Builtin.«list.append» ⟨[.ref a,x],[]⟩) Q E s:=by
 obtain⟨hp,g,dd,tk,os⟩:=s
 have QK:(items.push x).size<=sizeLine+1:=by rw[Array.size_push];right
 wp_walk using (wpAny_updateSeq ho rfl (hz:=hz) (_hz':=QK))
 exact k
noncomputable def KL(x:AV):Option (Str×Str):=x.tup?.bind λys=>(JG ys).bind λp=>p.1.str?.bind λa=>p.2.str?.map λb=>(a,b)
theorem Oi{p:Str×Str}(h:KL x=some p):x=AK p:=by
 refine oB h λys e1 h=>oB h λq e2 h=>oB h λa e3 h=>oM h λb e4 e=>?_
 rw[AV.tup_inv e1,Mx e2,AV.str_inv e3,AV.str_inv e4,<- e]
 rfl
noncomputable def Bv(xs:List AV)(σ:St):Option (AV×St):=(JG xs).bind λp=>p.1.loc?.bind λl =>
 ((CT σ l).bind λys=>gd (decide (ys.length<=sizeLine)) (AV.none,σ.set l (.list (ys++[p.2])))).or
 ((Cj σ l).bind λa=>(KL p.2).bind λpt=>gd (decide (a.2.length<=sizeLine)) (AV.none,σ.set l (.acc a.1 (a.2++[pt]))))
theorem MJ(H:Aq C)(HC:Bg C):Bp C (d+1) (.builtin "list.append") Bv:=by
 intro xs σ x σ' hf A Q E s ρ vs hA R q k
 refine oB hf λpr e1 hf=>oB hf λl e2 hf=>?_
 revert k
 refine q.arg2_e e1 λw v q1 q2 k=>?_
 have q1:=AV.loc_inv e2▸q1
 refine oO hf (λhf=>oB hf λys e hf=>oG hf λhz hf=>?_) λhf=>oB hf λac e hf=>oB hf λpt e3 hf=>oG hf λhz hf=>?_
 . refine R.list_e (Ei e) q1 λa vs n e0 ho hs=>?_
   have QK:vs.toArray.size<=sizeLine:=by rw[List.size_toArray,hs.length];exact of_decide_eq_true hz
   refine wpAny_call_entry F.slot_list_append (T := "list") ⟨_,ho,rfl⟩ F.entry_list_append (MI ho QK ⟨_,rfl,?_⟩) (F.args_list_append_2 _ _)
   have DW:=Heap.SameBut.update s.heap a (Obj.mapSeq λxs=>xs.push v)
   have S:Step C [] ρ ρ s.heap (s.heap.update a (Obj.mapSeq λxs=>xs.push v)):=Dk (.inr ⟨_,List.mem_of_getElem? e0,.inl rfl⟩) DW
   have gt:=Ek ho (λxs=>xs.push v)
   rw[List.push_toArray] at gt
   exact AS (R.upd (n:=s.toks) e0 (.inl rfl) DW (.list gt ((hs.go S).append (.cons (q2.go S) .nil))) rfl) λR' S'=>Hz k hf _ _ _ R' S' .none
 . refine R.acc_e (B8 e) q1 λa dd es n n' vs e0 ho hd he hs=>?_
   have QK:vs.toArray.size<=sizeLine:=by rw[List.size_toArray,hs.length,List.length_map];exact of_decide_eq_true hz
   refine FO (R.kin H) (CC ho hd) HC.acMro (.inl (by decide +kernel)) (n := "append") (by decide +kernel) (by decide +kernel) F.entry_list_append (F.args_list_append_2 _ _) (MI ho QK ⟨_,rfl,?_⟩)
   have DW:=Heap.SameBut.update s.heap a (Obj.mapSeq λxs=>xs.push v)
   have S:Step C [] ρ ρ s.heap (s.heap.update a (Obj.mapSeq λxs=>xs.push v)):=Dk (.inr ⟨_,List.mem_of_getElem? e0,.inl rfl⟩) DW
   have gt:=Ek ho (λxs=>xs.push v)
   rw[List.push_toArray] at gt
   rw[Oi e3] at q2
   exact AS (R.upd (n:=s.toks) e0 (.inl rfl) DW (.acc (parts:=ac.2++[pt]) gt ((DW.2 _ (QJ ho hd)).trans hd) (he.go S) (by rw[List.map_append];exact(hs.go S).append (.cons (q2.go S) .nil))) rfl) λR' S'=>Hz k hf _ _ _ R' S' .none
theorem bV : ".".intercalate ("list.__len__".cutAt '.').dropLast = "list" := by decide +kernel
theorem X1 : ".".intercalate ("list.__init__".cutAt '.').dropLast = "list" := by decide +kernel
theorem bW : ".".intercalate ("list.pop".cutAt '.').dropLast = "list" := by decide +kernel
theorem X2:Manifest.toldItsClass.contains "list.pop" = false:=by decide +kernel
theorem bX(v:Value):checkBoundCall "list.__len__" ⟨[v],[]⟩=pure ():=by left
theorem X3(v:Value):checkBoundCall "list.__init__" ⟨[v],[]⟩=pure ():=by left
theorem bY(v:Value):(match Manifest.signature? "list.pop" with|some sig=>Bind.checkArgs "list.pop" { sig with full := "_Accumulator.pop" } ⟨[v],[]⟩|none=>pure ())=pure ():=by left
theorem X4:(s!"{(Str.ofString "_Accumulator").toString}.{Bind.lastOf "list.pop"}") = "_Accumulator.pop" := by decide +kernel
theorem X5:builtinKind "list.pop" = some .method:=by decide +kernel
theorem gJ:Manifest.varargsMethods.contains "list.pop" = false:=by decide +kernel
structure Vv (id dt get bt:String) (B:Builtin):Prop where
 ty:∀ K,typeIn K (.builtin id)=some (.type dt)
 hget:∀ K,findIn K (.type dt) "__get__" = some (some (.builtin get))
 inst:∀ K,instIn K (.builtin id) (.type dt)=some true
 kind:builtinKind get=some .slot
 split:splitId get=some (dt, "__get__")
 plain:plainId get=true
 entry:entryFor table get=some B
 args:∀ a b c:Value,argsOk get ⟨[a,b,c],[]⟩
 run:∀ {M:Model} {A:Around} {h:Heap} {g:Array GenState} {d:Drawn} {t:Nat} {os:OsState} {x C:Addr} {ox:Obj} {Q:Fin->Shared->Prop} {E:Value->Shared->Prop},h.get? x=some ox->Looks M h (isSubtype ox.cls (.type "list")) true ->
  Q (.done (.ret (.ref h.objs.size))) ⟨h.push { cls:=.type bt,data:=.fields #[.builtin id,.ref x] },g,d,t,os⟩->wpAny M A (B ⟨[.builtin id,.ref x,.ref C],[]⟩) Q E ⟨h,g,d,t,os⟩
 hbt:bt = "method-wrapper" \/ bt = "builtin_function_or_method"
theorem bZ:Vv "list.__len__" "wrapper_descriptor" "wrapper_descriptor.__get__" "method-wrapper" Builtin.«wrapper_descriptor.__get__» where
 ty K:=by left
 hget K:=by left
 inst K:=by left
 kind:=by decide +kernel
 split:=by decide +kernel
 plain:=by decide +kernel
 entry:=entryFor_of_tree (by left)
 args a b c:=by unfold argsOk;left
 run hx L k:=by
  unfold Builtin.«wrapper_descriptor.__get__»
  repeat (first|(with_reducible refine wpAny_loadPart_at hx ?_)|(simp only[bV];with_reducible refine Looks.at L ?_)|wp_step)
  all_goals exact k
 hbt:=.inl rfl
theorem X6:Vv "list.__init__" "wrapper_descriptor" "wrapper_descriptor.__get__" "method-wrapper" Builtin.«wrapper_descriptor.__get__» where
 ty K:=by left
 hget K:=by left
 inst K:=by left
 kind:=by decide +kernel
 split:=by decide +kernel
 plain:=by decide +kernel
 entry:=entryFor_of_tree (by left)
 args a b c:=by unfold argsOk;left
 run hx L k:=by
  unfold Builtin.«wrapper_descriptor.__get__»
  repeat (first|(with_reducible refine wpAny_loadPart_at hx ?_)|(simp only[X1];with_reducible refine Looks.at L ?_)|wp_step)
  all_goals exact k
 hbt:=.inl rfl
theorem b0:Vv "list.pop" "method_descriptor" "method_descriptor.__get__" "builtin_function_or_method" Builtin.«method_descriptor.__get__» where
 ty K:=by left
 hget K:=by left
 inst K:=by left
 kind:=by decide +kernel
 split:=by decide +kernel
 plain:=by decide +kernel
 entry:=entryFor_of_tree (by left)
 args a b c:=by unfold argsOk;left
 run hx L k:=by
  unfold Builtin.«method_descriptor.__get__»
  repeat (first|(with_reducible refine wpAny_loadPart_at hx ?_)|(simp only[bW];with_reducible refine Looks.at L ?_)|(simp only[X2,Bool.false_eq_true,if_false])|wp_step)
  all_goals exact k
 hbt:=.inr rfl
section
variable{g:Array GenState}{d:Drawn}{t:Nat}
theorem X7{x:Addr}{l:List Value}{id get:String}{B:Builtin}{Q:Fin->Shared->Prop}(SM:Vv id dt get bt B)(b6:h.get? so=some { cls:=.type "super",dict:=none,data:=.fields #[.ref D,.ref x,.ref Cl],slots:=#[] })(KN:Looks (model C.prog C.w) h (opaqueClassAbove (.ref Cl)) none)(hC:Looks (model C.prog C.w) h (mroOf (.ref Cl)) XP)(hl:(XP.dropWhile (· != .ref D)).drop 1=l)(X:C.K.In h)(hx:h.get? x=some ox)(pA:ox.cls=.ref Cl)(QM:Looks (model C.prog C.w) h (isSubtype (.ref Cl) (.type "list")) true)(hf:alongIn C.K name l=some (some (.builtin id)))(pB:x≠Cl)(hn:(name==("__class__" : Str))=false)(hq:Q (.done (.ret (.ref h.objs.size))) ⟨h.push { cls:=.type bt,data:=.fields #[.builtin id,.ref x] },g,d,t,os⟩) :
 wpAny (model C.prog C.w) A (Builtin.«super.__getattribute__» ⟨[.ref so,.str name tk],[]⟩) Q E ⟨h,g,d,t,os⟩:=by
 have Gj:(Value.ref x==Value.ref Cl)=false:=by simp[pB]
 have pC:({ cls:=.type "super",dict:=none,data:=.fields #[.ref D,.ref x,.ref Cl],slots:=#[] }:Obj).data=.fields #[.ref D,.ref x,.ref Cl]:=rfl
 have f0:(#[.ref D,.ref x,.ref Cl]:Array Value)[0]?=some (.ref D):=rfl
 have f1:(#[.ref D,.ref x,.ref Cl]:Array Value)[1]?=some (.ref x):=rfl
 have f2:(#[.ref D,.ref x,.ref Cl]:Array Value)[2]?=some (.ref Cl):=rfl
 have L1:=looks_typeIn (M:=model C.prog C.w) X (SM.ty C.K)
 have L2:=looks_findIn (M:=model C.prog C.w) X (SM.hget C.K)
 have L3:=looks_instIn (M:=model C.prog C.w) X (SM.inst C.K)
 have kr:∀ {Q':Value->Shared->Prop} {E':Value->Shared->Prop},Q' (.ref h.objs.size) ⟨h.push { cls:=.type bt,data:=.fields #[.builtin id,.ref x] },g,d,t,os⟩->wpAny (model C.prog C.w) A (call (.builtin get) [.builtin id,.ref x,.ref Cl]) Q' E' ⟨h,g,d,t,os⟩:=λXf =>
  Og (s:=⟨h,g,d,t,os⟩) L3 (.inr SM.kind) SM.split SM.plain SM.entry (SM.args _ _ _) (SM.run hx (by rw[pA];exact QM) ⟨_,rfl,Xf⟩)
 unfold Builtin.«super.__getattribute__»
 repeat (first
  |(with_reducible refine wpAny_field b6 pC f0 ?_)|(with_reducible refine wpAny_field b6 pC f1 ?_)|(with_reducible refine wpAny_field b6 pC f2 ?_)
  |(with_reducible refine ks_wpAny_notOpaque KN ?_)
  |(with_reducible refine Looks.at hC ?_;rw[hl])
  |(refine ks_forIn_along X (λuu uu=>rfl) rfl ?_ hf)
  |(with_reducible refine Looks.at L1 ?_)
  |(with_reducible refine Looks.at L2 ?_)
  |(with_reducible refine kr ?_)
  |(simp only[hn,Gj,Bool.or_false,Bool.false_eq_true,if_false])
  |wp_step
  |dsimp only)
 all_goals exact hq
theorem L4{x:Addr}{l:List Value}{id get:String}{B:Builtin}{Q:Value×List Value->Shared->Prop}(SM:Vv id dt get bt B)(b6:h.get? so=some { cls:=.type "super",dict:=none,data:=.fields #[.ref D,.ref x,.ref Cl],slots:=#[] })(KN:Looks (model C.prog C.w) h (opaqueClassAbove (.ref Cl)) none)(hC:Looks (model C.prog C.w) h (mroOf (.ref Cl)) XP)(hl:(XP.dropWhile (· != .ref D)).drop 1=l)(X:C.K.In h)(hx:h.get? x=some ox)(pA:ox.cls=.ref Cl)(QM:Looks (model C.prog C.w) h (isSubtype (.ref Cl) (.type "list")) true)(hf:alongIn C.K name l=some (some (.builtin id)))(pB:x≠Cl)(hn:(name==("__class__" : Str))=false)(hq:Q (.ref h.objs.size,[]) ⟨h.push { cls:=.type bt,data:=.fields #[.builtin id,.ref x] },g,d,t+1,os⟩) :
 wpAny (model C.prog C.w) A (getMethod (.ref so) name pl) Q E ⟨h,g,d,t,os⟩:=by
 have sP:=F.ks_slot_super_ga.lookup
 have XW:=F.ks_canon_super_ga
 have hT:∀ t',(⟨h,g,d,t',os⟩:Shared).TypeIs (.ref so) "super" := λuu=>⟨_,b6,rfl⟩
 unfold getMethod
 refine wpAny_bind (wpAny_specialOf (hT _) sP ?_)
 show wpAny _ _ (if (Manifest.canonical "super.__getattribute__" != "object.__getattribute__")=true then _ else _) _ _ _
 rw[if_pos XW]
 unfold getAttr getAttrBy
 refine wpAny_bind (wpAny_bind (wpAny_mkText (wpAny_holding (wpAny_bind (wpAny_typeOf (hT _) (wpAny_bind (wpAny_of_eq sP ?_)))))))
 show wpAny _ _ (getAttrByItsOwn (.ref so) (.str name t) (.type "super") (.builtin "super.__getattribute__") true false) _ _ _
 unfold getAttrByItsOwn hookBefore callGetattribute boundAndCalled
 refine wpAny_bind (wpAny_of_eq (show(if onTheHeap (.type "super") then typeLookup (.type "super") "__getattr__" else pure none)=pure none from rfl) ?_)
 refine wpAny_bind (wpAny_attempt (wpAny_holding ?_))
 show wpAny _ _ (bindSpecial (.builtin "super.__getattribute__") (.ref so) >>= _) _ _ _
 refine wpAny_bind (wpAny_of_eq (F.ks_slot_super_ga.bind _) ?_)
 refine wpAny_mono (Q:=λv s'=>v=.ref h.objs.size/\s'=⟨h.push { cls:=.type bt,data:=.fields #[.builtin id,.ref x] },g,d,t+1,os⟩) (E:=λuu uu=>False)
  (wpAny_call_entry F.ks_slot_super_ga (hT _) F.ks_entry_super_ga (X7 SM b6 KN hC hl X hx pA QM hf pB hn ⟨_,rfl,rfl,rfl⟩) (F.ks_gaArgs_super _ _)) (λv s' hv=>?_) λuu uu z=>z.elim
 (refine AS (hv) λku IF=>?_;clear hv;subst ku;subst IF)
 exact wpAny_pure (wpAny_pure hq)
theorem Sn{x:Value}(hbt:bt = "method-wrapper" \/ bt = "builtin_function_or_method")(hb:h.get? b=some { cls:=.type bt,data:=.fields #[fv,x] }):Looks (model C.prog C.w) h (keeperOf (.ref b)) .machine:=by
 unfold keeperOf
 refine(Looks.ld (part:=none) hb).andThen ?_
 rcases hbt with rfl|rfl<;>exact .now
theorem So{id:String}{x:Value}{B:Builtin}(hbt:bt = "method-wrapper" \/ bt = "builtin_function_or_method")(hb:s.heap.get? b=some { cls:=.type bt,data:=.fields #[.builtin id,x] })(pD:∀ {Q':Unit->Shared->Prop} {E':Value->Shared->Prop},Q' () s->wpAny (model C.prog C.w) A.in1 (checkBoundCall id ⟨[x],[]⟩) Q' E' s)(hp:plainId id=true)(he:entryFor table id=some B)(hc:wpAny (model C.prog C.w) A.in1 (B ⟨[x],[]⟩) (λfin s'=>∃ v,fin=.done (.ret v)/\Q v s') E s):wpAny (model C.prog C.w) A (call (.ref b) []) Q E s:=by
 refine wpAny_call (codeAny_of_tree ?_)
 show wpAny _ A.in1 (callAny (.ref b) ⟨[],[]⟩) _ _ _
 unfold callAny
 refine wpAny_bind (wpAny_load hb ?_)
 dsimp only
 have e1:(((Value.type bt==.type "method")||(Value.type bt==.type "builtin_function_or_method"))||(Value.type bt==.type "method-wrapper"))=true:=by rcases hbt with rfl|rfl<;>decide
 have e2:(Value.type bt != .type "method")=true:=by rcases hbt with rfl|rfl<;>decide
 rw[e1,if_pos rfl]
 show wpAny _ _ (if (Value.type bt != .type "method")=true then _ else _) _ _ _
 rw[e2,if_pos rfl]
 refine wpAny_bind (pD ?_)
 refine wpAny_bind (wpAny_pure (wpAny_pure ⟨plainId_quiet hp _,codeAny_builtin he ?_⟩))
 rw[Around.under_plainId hp]
 refine wpAny_mono hc (λfin s' h'=>?_) λuu uu h'=>h'
 (refine Am (h') λv IF hv=>?_;clear h';subst IF)
 exact hv
set_option tactic.hygienic true
theorem gK{x:Addr}{Q:Unit->Shared->Prop}(X:C.K.In h)(I:W.InstAt h x ox Cl od)(hc:clsIn C.K Cl=some cd)(hq:cd.qualname = "_Accumulator")(ht:typeIn C.K (.ref Cl)=some (.type "type"))(hm:mroIn C.K Cl (.type "module")=some false)(k:Q () ⟨h,g,d,t,os⟩):wpAny (model C.prog C.w) A (checkBoundCall "list.pop" ⟨[.ref x],[]⟩) Q E ⟨h,g,d,t,os⟩:=by
 have L0:=I.type (M:=model C.prog C.w)
 have L1:Looks (model C.prog C.w) h (isInstance (.ref x) (.type "module")) false:=I.type.andThen (looks_mroIn X hm)
 have L2:=looks_clsIn (M:=model C.prog C.w) X hc
 have L3:=looks_typeIn (M:=model C.prog C.w) X ht
 have pE:∀ c,ox.data≠.cls c:=λc e=>by have:=I.no;unfold notCls at this;rw[e] at this;cases this
 unfold checkBoundCall
 have sp:=bY (.ref x)
 split
 . rename_i sig hs
   rw[hs] at sp
   dsimp only at sp
   rw[X5]
   dsimp only
   show wpAny _ _ (do let ofModule <- isInstance (.ref x) (.type "module");_) _ _ _
   refine wpAny_bind (Looks.at L1 ?_)
   rw[gJ]
   refine wpAny_bind (ks_wpAny_isType_inst I.at_ pE ?_)
   rw[if_neg Bool.false_ne_true]
   refine wpAny_bind (Looks.at L0 ?_)
   dsimp only
   refine wpAny_bind (Looks.at L2 ?_)
   refine wpAny_bind (Looks.at L3 ?_)
   rw[if_pos (by decide),hq]
   rw[show(toString (Str.ofString "_Accumulator").toString++toString "." ++ toString (Bind.lastOf "list.pop")) = "_Accumulator.pop" from X4]
   rw[sp]
   exact wpAny_pure k
 . exact wpAny_pure k
end
noncomputable def KO(C:Cfg)(d:Nat)(env:Env)(Aa:List Str)(body:List Stmt)(st:Stmt)(f:SM):Prop :=
 ∀ lc σ fl lc' σ',f lc σ=some (fl,lc',σ')->∀ (A:Around) (Q:Flow->Shared->Prop) (E:Value->Shared->Prop) (s:Shared) (ρ:D7),EL C d A->Rel C ρ σ s->Cx C ρ s.heap env.locals Aa lc ->
  (∀ w s' Ar,Rel C Ar σ' s'->Step C [env.locals] ρ Ar s.heap s'.heap->Cx C Ar s'.heap env.locals Aa lc'->Ph C Ar s'.heap fl w->Q w s')->PySem.wpAt (model C.prog C.w) A (.func body env) (exec st env) Q E s
noncomputable def MK(C:Cfg)(d:Nat)(env:Env)(Aa:List Str)(body:List Stmt)(b:List Stmt)(f:SM):Prop :=
 ∀ lc σ fl lc' σ',f lc σ=some (fl,lc',σ')->∀ (A:Around) (Q:Flow->Shared->Prop) (E:Value->Shared->Prop) (s:Shared) (ρ:D7),EL C d A->Rel C ρ σ s->Cx C ρ s.heap env.locals Aa lc ->
  (∀ w s' Ar,Rel C Ar σ' s'->Step C [env.locals] ρ Ar s.heap s'.heap->Cx C Ar s'.heap env.locals Aa lc'->Ph C Ar s'.heap fl w->Q w s')->PySem.wpAt (model C.prog C.w) A (.func body env) (execs b env) Q E s
theorem E4.at{f:SM}(D:E4 C d env Aa st f):KO C d env Aa body st f:=λlc σ fl lc' σ' hf A Q E s ρ hA R lr k=>wpAt_of_wpAny (D lc σ fl lc' σ' hf A Q E s ρ hA R lr k)
theorem G8.at{b:List Stmt}{f:SM}(D:G8 C d env Aa b f):MK C d env Aa body b f:=λlc σ fl lc' σ' hf A Q E s ρ hA R lr k=>wpAt_of_wpAny (D lc σ fl lc' σ' hf A Q E s ρ hA R lr k)
set_option tactic.hygienic true
theorem Sp{f:SM}{fs:List SM}(D1:KO C d env Aa body st f)(D2:MK C d env Aa body r (Ah fs)):MK C d env Aa body (st::r) (Ah (f::fs)):=by
 intro lc σ fl lc' σ' hf A Q E s ρ hA R lr kk
 refine ks_wpAt_execs_cons (oB hf λt e1 hf=>D1 _ _ _ _ _ e1 A _ E s ρ hA R lr λw s₁ Ad An Aj Ew AA=>?_)
 rcases t with ⟨Oe,lc₁,σ₁⟩
 have z:some (Oe,lc₁,σ₁)=some (fl,lc',σ')->Q w s₁:=λe=>Xt kk e w s₁ Ad An Aj Ew AA
 cases AA with
 |next=>exact D2 _ _ _ _ _ hf A _ E s₁ Ad hA An Ew λw Ai AF Az Au Cu BL=>kk w Ai AF Az (Aj.trans Au) Cu BL
 | _=>exact z hf
structure JN (C:Cfg) (env:Env) (Aa:List Str):Prop where
 ks:env.kindOf "super" = some .globalImplicit
 kc:env.kindOf "__class__" = some .free
 fn:∃ f of fd ar,env.func=some f/\C.K.lookup f=some of/\of.data=.func fd/\(fd.params.posonlyargs++fd.params.args).head?=some ar/\Aa[0]?=some ar.arg
 code:∃ cc oc vs QN tf,env.code=.ref cc/\C.K.lookup cc=some oc/\oc.data=.fields vs/\vs[2]?=some (.str QN tf)/\((C.prog.main.file:Str)==QN)=true
 top:(C.prog.main.scope.names.lookup ("super" : Str)).isSome=false
 sup:Ay C "super" (.type "super")
 cell:∃ c oc,env.cells.lookup ("__class__" : Str)=some c/\C.K.lookup c=some oc/\oc.data=.cell (some (.ref C.ACC))
structure Gw (C:Cfg):Prop where
 cls:∃ cd,clsIn C.K C.ACC=some cd/\cd.mro=[.ref C.ACC,.type "list",.type "object"]/\cd.qualname = "_Accumulator"
 self:mroIn C.K C.ACC (.ref C.ACC)=some true
 op:nsIn C.K cStatics "thirdparty.any" = some none
 ty:typeIn C.K (.ref C.ACC)=some (.type "type")
 noMod:mroIn C.K C.ACC (.type "module")=some false
set_option tactic.hygienic false
theorem Po(h:clsIn C.K a=some cd):∃ o,C.K.lookup a=some o/\o.data=.cls cd:=by
 unfold clsIn at h
 cases e:C.K.lookup a with
 |none=>rw[e] at h;exact ns h
 |some o =>
  rw[e] at h
  rcases o with ⟨c,d,dt,sl⟩
  cases dt with
  |cls uC=>exact⟨_,rfl,congrArg Data.cls (Option.some.inj h)⟩
  | _=>exact ns h
theorem Vw(H:Aq C)(HS:Gw C)(R:Rel C ρ σ s){d:Addr}(ho:s.heap.get? a=some ⟨.ref C.ACC,some d,.seq vs.toArray n,#[]⟩):a≠C.ACC:=λz =>
 Ci HS.cls λcd hc uu uu=>Am (Po hc) λo e ed=>by
  have:=(R.kin H _ _ e).symm.trans (z▸ho)
  rw[Option.some.inj this] at ed
  exact Data.noConfusion ed
theorem Sq(H:Aq C)(He:Bi env Aa)(HS:Gw C)(SO:JN C env Aa){AR:Sem Value}(eP:(Pm==("__class__" : Str))=false)(R:Rel C ρ σ s)(lr:Cx C ρ s.heap env.locals Aa lc)(CV:lc[0]?=some (some (.loc l)))(hl:σ[l]?=some (.acc ini ps))(k:∀ a d h',ρ[l]?=some (a,d)->(∀ b o,s.heap.get? b=some o->h'.get? b=some o)->h'.get? s.heap.objs.size=some { cls:=.type "super",dict:=none,data:=.fields #[.ref C.ACC,.ref a,.ref C.ACC],slots:=#[] }->Q (.ref s.heap.objs.size) { s with heap:=h' }) :
 PySem.wpAt (model C.prog C.w) A (.func body env) (attributeBase (.Call (.Name "super" p0) [] [] p1) Pm env AR) Q E s:=by
 have X:=R.kin H
 (refine Xm (SO.fn) λf of fd ar e1 e2 e3 e4 e5=>?_)
 (refine oZ (SO.code) λcc oc vs QN tf c1 c2 c3 c4 c5=>?_)
 (refine Dt (SO.cell) λcl ocl d1 d2 d3=>?_)
 (refine Ci (HS.cls) λcd gL Vx ky=>?_)
 refine ks_wpAt_super_base SO.ks SO.kc eP e1 (X _ _ e2) e3 e4 c1 (X _ _ c2) c3 c4 c5 SO.top ?_
 refine ks_loadName_global He.kind SO.ks ?_
 (refine Am (SO.sup) λmg hg hv=>?_)
 have bj:s.heap.Ns env.globals mg:=by rw[He.glob];exact hg.at λo e=>R.old _ _ e H.glob
 have fin:(λ(g:Value) (s₁:Shared)=>g=.type "super" /\ wpAny (model C.prog C.w) A (loadName env "__class__") (λcls Ai=>wpAny (model C.prog C.w) A (loadName env ar.arg) (λself AJ =>
  wpAny (model C.prog C.w) A (isType cls) (λb Jd=>b=true/\wpAny (model C.prog C.w) A (call (.type "super") [cls,self]) Q E Jd) E AJ) E Ai) E s₁) (.type "super") s:=by
  refine⟨rfl,?_⟩
  refine wpAny_loadName_free He.kind SO.kc d1 ⟨_,X _ _ d2,d3⟩ ?_
  refine Ig He e5 CV lr λv qv=>?_
  refine Am (Po gL) λoD eQ jO=>?_
  have eQ:=X _ _ eQ
  refine R.acc_e hl qv λa d es n n' vs e0 ho hd he hs=>?_
  refine ks_wpAny_isType_cls eQ jO ⟨rfl,ks_wpAny_call_super eQ jO ho rfl (λc e=>Data.noConfusion e) (looks_mroIn X HS.self) λh' g1 g2=>k _ _ h' e0 g2 g1⟩
 rcases hv with hv|⟨hv,mb,hb,QO⟩
 . exact loadGlobal_global bj hv fin
 . exact loadGlobal_builtin bj hv (by rw[He.blt];exact hb.at λo e=>R.old _ _ e H.blt) QO fin
theorem Je(H:Aq C)(HC:Bg C)(He:Bi env Aa)(HS:Gw C)(SO:JN C env Aa){p:Pos}{id get:String}{B B':Builtin}(SM:Vv id dt get bt B)(eP:(Pm==("__class__" : Str))=false)(hf:alongIn C.K Pm [.type "list",.type "object"]=some (some (.builtin id)))(hp:(B1.endLine==p.line)=true)(X8:plainId id=true)(uD:entryFor table id=some B')(R:Rel C ρ σ s)(lr:Cx C ρ s.heap env.locals Aa lc)(CV:lc[0]?=some (some (.loc l)))(hl:σ[l]?=some (.acc ini ps))(pD:∀ {h:Heap} {g:Array GenState} {d:Drawn} {t:Nat} {os:OsState} {a dd:Addr} {vs:List Value} {n n':Nat} {es:List DictEntry} {Q':Unit->Shared->Prop} {E':Value->Shared->Prop},C.K.In h->h.get? a=some ⟨.ref C.ACC,some dd,.seq vs.toArray n,#[]⟩->h.get? dd=some (dictOf es n')->Q' () ⟨h,g,d,t,os⟩ ->
  wpAny (model C.prog C.w) A.in1 (checkBoundCall id ⟨[.ref a],[]⟩) Q' E' ⟨h,g,d,t,os⟩)(k:∀ a d s',ρ[l]?=some (a,d)->Rel C ρ σ s'->Step C [] ρ ρ s.heap s'.heap->wpAny (model C.prog C.w) A.in1 (B' ⟨[.ref a],[]⟩) (λfin Pe=>∃ v,fin=.done (.ret v)/\Q v Pe) E s') :
 PySem.wpAt (model C.prog C.w) A (.func body env) (eval (.Call (.Attribute (.Call (.Name "super" p0) [] [] p1) Pm B1) [] [] p) env) Q E s:=by
 refine ks_wpAt_MethodCall (pl:=do return (<- importBound (.Call (.Name "super" p0) [] [] p1) env).getD true) ?_ (by
  rw[arm_eval_Call]
  show(do let ov <- _;standAt B1.atName;methodCall _ Pm B1 p env ov 0 [] [])=_
  congr 1
  funext ov
  congr 1
  funext _
  unfold methodCall
  have KI:methodCallPos (methodCallForm 0 [] []) (.Call (.Name "super" p0) [] [] p1) env B1 p=pure p:=by
   unfold methodCallPos
   rw[hp];rfl
  rw[KI]
  rfl)
 refine Sq H He HS SO eP R lr CV hl λa d h' e0 kp b6=>?_
 have z':s.heap.objs.size<=h'.objs.size:=Nat.le_of_lt (Heap.lt_size b6)
 have R':Rel C ρ σ { s with heap:=h' }:=R.same kp z' R.gens rfl rfl
 have S':Step C [] ρ ρ s.heap h':=.same kp z'
 refine R'.acc_at e0 hl λes n n' vs ho hd he hs=>?_
 have X:=R'.kin H
 have I:=CC ho hd
 (refine Ci (HS.cls) λcd gL Vx ky=>?_)
 have LM:Looks (model C.prog C.w) h' (mroOf (.ref C.ACC)) cd.mro:=(looks_clsIn X gL).andThen .now
 have pE:=Vw H HS R' ho
 have kA:([Value.ref C.ACC,.type "list",.type "object"].dropWhile (· != .ref C.ACC)).drop 1=[.type "list",.type "object"]:=by
  rw[List.dropWhile_cons]
  simp
 rw[Vx] at LM
 refine L4 SM b6 (looks_opaque X HS.op) LM kA X ho rfl (looks_mroIn X HC.acMro) hf pE eP ?_
 have hb:(h'.push { cls:=.type bt,data:=.fields #[.builtin id,.ref a] }).get? h'.objs.size=some { cls:=.type bt,data:=.fields #[.builtin id,.ref a] }:=Heap.get?_push_size _ rfl
 refine callWith_of (P:=λh=>h.get? h'.objs.size=some { cls:=.type bt,data:=.fields #[.builtin id,.ref a] }) rfl (λh hh=>⟨_,.inr (.inl rfl),Sn SM.hbt hh⟩) (evalArgs_nil3 ⟨hb,?_⟩)
 have jP:=R'.push { cls:=.type bt,data:=.fields #[.builtin id,.ref a] } (n:=s.toks+1)
 have eR:Step C [] ρ ρ h' (h'.push { cls:=.type bt,data:=.fields #[.builtin id,.ref a] }):=.pushObj _
 refine So SM.hbt hb (λXf=>pD (jP.kin H) (Heap.get?_push_of_some _ ho) (Heap.get?_push_of_some _ hd) Xf) X8 uD ?_
 exact k a d _ e0 jP (S'.trans eR)
noncomputable def Jf:SM:=λlc σ=>(IP lc).bind λl=>(Cj σ l).map λa=>(.ret (.int a.2.length),lc,σ)
theorem NV(H:Aq C)(HC:Bg C)(He:Bi env Aa)(HS:Gw C)(SO:JN C env Aa){p:Pos}(hf:alongIn C.K "__len__" [.type "list",.type "object"]=some (some (.builtin "list.__len__")))(hp:(B1.endLine==p.line)=true) :
 KO C d env Aa body (.Return (some (.Call (.Attribute (.Call (.Name "super" p0) [] [] p1) "__len__" B1) [] [] p)) pr) Jf:=by
 intro lc σ fl lc' σ' Fg A Q E s ρ hA R lr kk
 refine oB Fg λl CV Fg=>oM Fg λac hl e2=>?_
 have hl:=B8 hl
 refine ks_wpAt_Return_some (Je H HC He HS SO bZ (by decide) hf hp (by decide +kernel) F.entry_list_len R lr (GG CV) hl (λuu uu uu q=>by rw[bX];exact wpAny_pure q) λa dd s' e0 R' S'=>?_)
 refine R'.acc_at e0 hl λes n n' vs ho hd he hs=>?_
 have e:(vs.toArray.size:Int)=ac.2.length:=by rw[List.size_toArray,hs.length,List.length_map]
 show wpAny _ _ (do retInt (<- seqSize a)) _ _ s'
 unfold seqSize
 refine wpAny_bind (wpAny_bind (wpAny_load ho (wpAny_pure (wpAny_bind (wpAny_mkInt (wpAny_pure ⟨_,rfl,?_⟩))))))
 rw[e]
 exact Pj kk e2 _ _ _ R'.toks S'.of_nil (lr.go S') (.ret (.int _ _))
theorem Vy{items:Array Value}:(items.eraseIdxIfInBounds k).size<=items.size:=by
 unfold Array.eraseIdxIfInBounds
 split
 . rw[Array.size_eraseIdx];exact Nat.sub_le _ _
 . exact Nat.le_refl _
theorem Sr(h:k<n):seqIndex? (k:Int) n=some k:=by
 unfold seqIndex?
 have:¬ (k:Int)<0:=Int.not_lt.mpr (Int.natCast_nonneg k)
 simp[this,h]
theorem GJ(h:0<n):seqIndex? (-1) n=some (n-1):=by
 obtain⟨m,rfl⟩:∃ m,n=m+1:=⟨n-1,(Nat.succ_pred_eq_of_pos h).symm⟩
 show(if (decide (0<=-1+((m+1:Nat):Int))&&decide (-1+((m+1:Nat):Int)<((m+1:Nat):Int)))=true then some (-1+((m+1:Nat):Int)).toNat else none)=some m
 have e:-1+((m+1:Nat):Int)=(m:Int):=by rw[Int.natCast_succ,Int.add_comm,Int.add_assoc];exact Int.add_zero _
 rw[e,decide_eq_true (Int.natCast_nonneg m),decide_eq_true (Int.ofNat_lt.mpr (Nat.lt_succ_self m))]
 rfl
theorem b8{d:Option Addr}{items:Array Value}{Q:Fin->Shared->Prop}(ho:s.heap.get? a=some ⟨c,d,.seq items n,sl⟩)(hz:items.size<=sizeLine)(hy:items[items.size-1]?=some y)(k:Q (.done (.ret y)) { s with heap:=s.heap.update a (Obj.mapSeq λxs=>xs.eraseIdxIfInBounds (items.size-1)) }):wpAny (model C.prog C.w) A (Builtin.«list.pop» ⟨[.ref a],[]⟩) Q E s:=by
 obtain⟨hp,g,dd,tk,os⟩:=s
 have KI:0<items.size:=by
  rcases Nat.eq_zero_or_pos items.size with h0|h0
  . simp[h0] at hy
  . exact h0
 have Gj:¬ items.isEmpty=true:=by
  intro he;have:items.size=0:=by simpa using he
  omega
 have hk:seqIndex? (-1) items.size=some (items.size-1):=by
  exact GJ KI
 wp_walk using wpAny_loadPart' ho
 simp only[hk,hy,Option.bind_some,Option.map_some]
 have QK:(items.eraseIdxIfInBounds (items.size-1)).size<=sizeLine+1:=Nat.le_trans (Vy) (Nat.le_succ_of_le hz)
 wp_walk using (wpAny_updateSeq ho rfl (hz:=hz) (_hz':=QK)),wpAny_loadPart' ho
 exact k
theorem Ss(hy:vs[vs.length-1]?=some y):(vs.toArray.eraseIdxIfInBounds (vs.length-1))=(vs.take (vs.length-1)).toArray:=by
 have hl:vs.length-1<vs.length:=(List.getElem?_eq_some_iff.mp hy).1
 unfold Array.eraseIdxIfInBounds
 rw[dif_pos (by simpa using hl)]
 rw[List.eraseIdx_toArray]
 congr 1
 rw[List.eraseIdx_eq_take_drop_succ]
 rw[Nat.sub_add_cancel (Nat.lt_of_le_of_lt (Nat.zero_le _) hl:0<vs.length)]
 simp
theorem Oj(hs:Bx C ρ h (ps.map AK) vs){p:Str×Str}(e:ps[i]?=some p):∃ v,vs[i]?=some v/\VR C ρ h (AK p) v:=hs.get (by rw[List.getElem?_map,e];rfl)
noncomputable def gM:SM:=λlc σ=>(IP lc).bind λl=>(Cj σ l).bind λa=>a.2.getLast?.bind λp=>gd (decide (a.2.length<=sizeLine)) (.ret (AK p),lc,σ.set l (.acc a.1 a.2.dropLast))
theorem b9(H:Aq C)(HC:Bg C)(He:Bi env Aa)(HS:Gw C)(SO:JN C env Aa){p:Pos}(hf:alongIn C.K "pop" [.type "list",.type "object"]=some (some (.builtin "list.pop")))(hp:(B1.endLine==p.line)=true) :
 KO C d env Aa body (.Return (some (.Call (.Attribute (.Call (.Name "super" p0) [] [] p1) "pop" B1) [] [] p)) pr) gM:=by
 intro lc σ fl lc' σ' Fg A Q E s ρ hA R lr kk
 refine oB Fg λl CV Fg=>oB Fg λac hl Fg=>oB Fg λpt sQ Fg=>oG Fg λhz e2=>?_
 have hl:=B8 hl
 (refine Ci (HS.cls) λcd gL Vx ky=>?_)
 refine ks_wpAt_Return_some (Je H HC He HS SO b0 (by decide) hf hp (by decide +kernel) F.entry_list_pop R lr (GG CV) hl (λX ho hd q=>gK X (CC ho hd) gL ky HS.ty HS.noMod q) λa dd s' e0 R' S'=>?_)
 refine R'.acc_at e0 hl λes n n' vs ho hd he hs=>?_
 have Et:vs.length=ac.2.length:=by rw[hs.length,List.length_map]
 rw[List.getLast?_eq_getElem?] at sQ
 (refine Am (Oj hs sQ) λy hy qy=>?_)
 rw[<- Et] at hy
 refine b8 ho (by rw[List.size_toArray,Et];exact of_decide_eq_true hz) (by rw[List.size_toArray,List.getElem?_toArray];exact hy) ⟨_,rfl,?_⟩
 have DW:=Heap.SameBut.update s'.heap a (Obj.mapSeq λxs=>xs.eraseIdxIfInBounds (vs.toArray.size-1))
 have S:Step C [] ρ ρ s'.heap (s'.heap.update a (Obj.mapSeq λxs=>xs.eraseIdxIfInBounds (vs.toArray.size-1))):=Dk (.inr ⟨_,List.mem_of_getElem? e0,.inl rfl⟩) DW
 have gt:=Ek ho (λxs=>xs.eraseIdxIfInBounds (vs.toArray.size-1))
 have ev:vs.toArray.eraseIdxIfInBounds (vs.toArray.size-1)=(vs.take (ac.2.length-1)).toArray:=by rw[List.size_toArray,Ss hy,Et]
 rw[ev] at gt
 have Ln:=(hs.go S).take (vs.length-1)
 rw[Et,<- List.map_take,<- List.dropLast_eq_take] at Ln
 exact AS (R'.upd (n:=s'.toks) e0 (.inl rfl) DW (.acc gt ((DW.2 _ (QJ ho hd)).trans hd) (he.go S) Ln) rfl) λjP eR=>Pj kk e2 _ _ _ jP (S'.trans eR).of_nil (lr.go (S'.trans eR)) (.ret (qy.go eR))
noncomputable def Lp(C:Cfg)(s:Shared):Prop:=∀ b o,C.s₁.heap.get? b=some o->¬ C.isTab b->s.heap.get? b=some o
structure eU (C:Cfg) (f:Addr) (Aa:List Str) (m:Nat) (dxs:List AV) (dv:List Value) (body:List Stmt) (fd:FuncData):Prop where
 obj:∃ o,C.s₁.heap.get? f=some o/\o.data=.func fd
 bd:fd.body=.stmts body
 glob:fd.globals=mainGlobals
 blt:fd.builtins=builtinsNs
 bind:∀ s:Shared,Lp C s->∀ vs:List Value,vs.length=m->BindsTo s fd ⟨vs,[]⟩ ((Aa.take (m+dxs.length)).zip (vs++dv))
 dq:∀ ρ h,Bx C ρ h dxs dv
 notTab:¬ C.isTab f
 crec:C.s₁.heap.CodeRec fd.code fd.qualname
 codeNo:∀ c,fd.code=.ref c->¬ C.isTab c
 coro:fd.scope.isCoroutine=false
 gen:fd.scope.isGenerator=false
 kind:fd.scope.kind=.function
 cells:∀ x∈fd.scope.names,x.2≠.cell
 loc:∀ x∈Aa,fd.scope.names.lookup x=some .local
 nodup:Aa.Nodup
 n_le:m+dxs.length<=Aa.length
noncomputable def X9(Aa:List Str)(B:SM)(xs:List AV)(σ:St):Option (AV×St):=(B (Lo Aa xs) σ).bind bR
noncomputable def ML(Aa:List Str)(m:Nat)(dxs:List AV)(B:SM)(xs:List AV)(σ:St):Option (AV×St):=if xs.length=m then X9 Aa B (xs++dxs) σ else none
noncomputable def nP(F G:List AV->St->Option (AV×St))(xs:List AV)(σ:St):Option (AV×St):=(F xs σ).or (G xs σ)
theorem JK.or{G:List AV->St->Option (AV×St)}(D1:JK C d f F)(D2:JK C d f G):JK C d f (nP F G):=by
 intro xs σ x σ' hf A P s ρ vs hA R q k
 exact oO hf (λe=>D1 xs σ x σ' e A P s ρ vs hA R q k) λe=>D2 xs σ x σ' e A P s ρ vs hA R q k
theorem Pp{P:Result->Shared->Prop}(H:eU C f Aa m dxs dv body fd)(KP:C.s₁.heap.NoLimit)(hst:¬ C.isTab cStatics)(old:Lp C s)(QP:A.depth<recursionLimit)(hm:vs.length=m)(k:∀ AI tk (E':Value->Shared->Prop),AI.Ns s.heap.objs.size (λx=>((Aa.take (m+dxs.length)).zip (vs++dv)).reverse.lookup x)->(∀ b o,s.heap.get? b=some o->AI.get? b=some o)->AI.objs.size=s.heap.objs.size+1 ->
  PySem.wpAt (model C.prog C.w) (A.deeper (Hx fd f s.heap.objs.size)) (.func body (Hx fd f s.heap.objs.size)) (execs body (Hx fd f s.heap.objs.size))
   (λw s'=>P (.ok (.ret (match w with | .ret v=>v | _=>.none))) s') E' { s with heap:=AI,toks:=tk }) :
 codeAny (model C.prog C.w) A (.call (.ref f) ⟨vs,[]⟩) P s:=by
 refine Am H.obj λo ho hd=>?_
 have Ey:s.heap.CodeRec fd.code fd.qualname:=LY H.crec λc o' CL t e1 e2 e3 e4=>(Lm c o' CL t ⟨e1,old c o' e2 (H.codeNo c e1),e3,e4⟩)
 refine codeAny_call_function QP (old f o ho H.notTab) hd H.coro H.gen H.bd Ey ?_
 refine H.bind s old vs hm _ _ _ _ ?_
 refine wpAny_newFunctionEnv H.cells (λy hy=>H.loc y.1 (List.mem_of_mem_take (List.of_mem_zip hy).1)) (λAI GF DW=>?_) H.kind
 have CP:∀ b o,s.heap.get? b=some o->AI.get? b=some o:=λb o e=>(DW.2 b (Nat.ne_of_lt (Heap.lt_size e))).trans (Heap.get?_push_of_some _ e)
 refine⟨Am KP λmc a b=>⟨mc,a.at λo e=>CP _ _ (old _ _ e hst),b⟩,?_⟩
 rw[H.glob,H.blt]
 exact ks_codeAny_funcAt (k AI _ _ GF CP (DW.1.trans (Heap.size_push ..)))
theorem JO(cf:Aa.Nodup)(IH:xs.length<=Aa.length)(q:Bx C ρ h xs vs)(kv:∀ {x:AV} {v:Value},VR C ρ h x v->VR C ρ h' x v)(i:Nat)(y:AV)(e:(Lo Aa xs)[i]?=some (some y)) :
 ∃ n v,Aa[i]?=some n/\((Aa.take xs.length).zip vs).reverse.lookup n=some v/\VR C ρ h' y v:=by
 unfold Lo at e
 by_cases hi:i<xs.length
 . rw[List.getElem?_append_left (by rw[List.length_map];exact hi),List.getElem?_map] at e
   refine oM e λy' e1 e2=>Am (q.get e1) λv ev qv=>?_
   have hv:i<Aa.length:=Nat.lt_of_lt_of_le hi IH
   have hx:(Aa.take xs.length)[i]?=some Aa[i]:=by rw[List.getElem?_take_of_lt hi,List.getElem?_eq_getElem hv]
   have cf:=cf.sublist (List.take_sublist xs.length Aa)
   refine(B6 (Aa[i]) v ⟨List.getElem?_eq_getElem hv,Ja ?_ (I9 cf hx ev),Option.some.inj e2▸kv qv⟩)
   rw[List.map_fst_zip (by rw[List.length_take,q.length];exact Nat.min_le_left ..)]
   exact cf
 . rw[List.getElem?_append_right (by rw[List.length_map];exact Nat.not_lt.mp hi),List.getElem?_replicate] at e
   exact sf e λuu e=>nomatch e
set_option tactic.hygienic true
theorem JP{w:Flow}(q:Ph C ρ h fl w)(e:bR (fl,lc,σ₁)=some (x,σ')):VR C ρ h x (match (generalizing:=false) w with | .ret v=>v | _=>.none)/\σ₁=σ':=by
 cases q with
 |ret a=>cases e;exact⟨a,rfl⟩
 |next=>cases e;exact⟨.none,rfl⟩
 | _=>exact ns e
set_option tactic.hygienic false
theorem MM(H:eU C f Aa m dxs dv body fd)(KP:C.s₁.heap.NoLimit)(hst:¬ C.isTab cStatics)(D:∀ L,MK C d (Hx fd f L) Aa body body B):JK C (d+1) f (ML Aa m dxs B):=by
 intro xs σ x σ' hf A P s ρ vs hA R q k
 refine sf hf λhn hf=>oB hf λt e1 hf=>?_
 refine Pp H KP hst R.old (Nat.lt_of_le_of_lt (Nat.le_add_right ..) hA.2.1) (q.length.trans hn) λAI tk E' GF CP Hy=>?_
 have IH:s.heap.objs.size<=AI.objs.size:=Hy▸Nat.le_succ _
 have hl:(xs++dxs).length=m+dxs.length:=by rw[List.length_append,hn]
 have hz:(xs++dxs).length<=Aa.length:=hl▸H.n_le
 rw[<- hl] at GF
 refine D s.heap.objs.size _ _ _ _ _ e1 _ _ _ _ ρ hA.deeper (R.same CP IH R.gens rfl rfl)
  ⟨⟨_,GF,JO H.nodup hz (q.append (H.dq ρ s.heap)) (·.go (.same CP IH))⟩,R.fresh,R.size,by unfold Lo;rw[List.length_append,List.length_map,List.length_replicate];exact Nat.add_sub_cancel' hz⟩ λw s' Ar R' S' l' q'=>?_
 refine AS (JP q' hf) λqx bk=>k _ s' Ar (bk▸R') ?_ qx
 exact⟨Nat.le_trans IH S'.size,λb o e nm uu=>S'.keep b o (CP b o e) nm (by rw[List.mem_singleton];exact Nat.ne_of_lt (Heap.lt_size e)),Am S'.grow λδ e Me=>⟨δ,e,λp hp=>⟨Nat.le_trans IH (Me p hp).1,Nat.le_trans IH (Me p hp).2⟩⟩⟩
theorem Ol:ML Aa n [] B=E5 Aa n B:=by
 funext xs σ
 unfold ML E5 X9
 rw[List.append_nil]
structure DV (C:Cfg):Prop where
 iter:findIn C.K (.ref C.ACC) "__iter__" = some (some (.builtin "list.__iter__"))
 gi:findIn C.K (.ref C.ACC) "__getitem__" = some (some (.builtin "list.__getitem__"))
 si:findIn C.K (.ref C.ACC) "__setitem__" = some (some (.builtin "list.__setitem__"))
section
variable{x:Addr}
theorem MN(X:C.K.In s.heap)(I:W.InstAt s.heap x ox Cl od)(hm:mroIn C.K Cl (.type "list")=some true)(hs:findIn C.K (.ref Cl) "__iter__" = some (some (.builtin "list.__iter__")))(hQ:Q (.ref s.heap.objs.size) { s with heap:=s.heap.push { cls:=.type "list_iterator",data:=.fields #[.ref x,.int 0 0] } }):wpAny (model C.prog C.w) A (pyIter (.ref x)) Q E s:=by
 have sp:∀ {nm:Str} {r:Option Value},findIn C.K (.ref Cl) nm=some r->Looks (model C.prog C.w) s.heap (specialOf (.ref x) nm) r:=λe=>I.type.andThen (looks_findIn X e)
 have hc:wpAny (model C.prog C.w) A (call (.builtin "list.__iter__") [.ref x]) (λv s'=>v=.ref s.heap.objs.size/\s'={ s with heap:=s.heap.push { cls:=.type "list_iterator",data:=.fields #[.ref x,.int 0 0] } }) E s:=by
  refine FO X I hm (.inr (by decide +kernel)) (n := "__iter__") (by decide +kernel) (by decide +kernel) entry_list_iter (args_list_iter _) ?_
  show wpAny _ _ (do ret (<- newFields "list_iterator" [.ref x,rawInt 0])) _ _ s
  exact wpAny_bind (wpAny_newObj_type (wpAny_pure ⟨_,rfl,rfl,rfl⟩))
 have one:∀ refuse:Sem Value,wpAny (model C.prog C.w) A (callSpecialIfBoundUnlessNone? (.ref x) "__iter__" refuse) (λr s'=>r=some (.ref s.heap.objs.size)/\s'={ s with heap:=s.heap.push { cls:=.type "list_iterator",data:=.fields #[.ref x,.int 0 0] } }) E s:=by
  intro refuse
  simp -iota only[callSpecialIfBoundUnlessNone?,bindSpecialIfBound?]
  refine wpAny_holding (wpAny_bind (wpAny_bind ((sp hs).here ?_)))
  simp only[slot_list_iter.bind]
  refine wpAny_bind (wpAny_askSetting (wpAny_ite ?_))
  have fin:wpAny (model C.prog C.w) A (if (Value.builtin "list.__iter__" == Value.none)=true then (refuse >>= λv=>pure (some v)) else (call (.builtin "list.__iter__") [.ref x] >>= λv=>pure (some v)))
   (λr s'=>r=some (.ref s.heap.objs.size)/\s'={ s with heap:=s.heap.push { cls:=.type "list_iterator",data:=.fields #[.ref x,.int 0 0] } }) E s:=by
   simp -iota only[builtin_beq_none,Bool.false_eq_true,if_false]
   exact wpAny_bind (wpAny_mono hc (λv s' h'=>wpAny_pure ⟨by rw[h'.1],h'.2⟩) λuu uu h'=>h')
  split
  . exact wpAny_bind (wpAny_pure (wpAny_pure fin))
  . exact wpAny_tryCatch (wpAny_bind (wpAny_pure (wpAny_pure fin)))
 unfold pyIter
 refine wpAny_bind ((sp hs).here ?_)
 show wpAny _ A (callSpecialIfBoundUnlessNone? (.ref x) "__iter__" _ >>= _) Q E s
 refine wpAny_bind (wpAny_mono (one _) (λr s' hr=>?_) λuu uu z=>z)
 (refine AS (hr) λku IF=>?_;clear hr;subst ku;subst IF)
 exact wpAny_bind (wpAny_specialOf (T := "list_iterator") ⟨_,Heap.get?_push_size _ rfl,rfl⟩ slot_listiter_next.lookup (wpAny_pure hQ))
noncomputable def Ha(h:Heap)(a:Addr)(items:Array Value):Prop:=∃ o n,h.get? a=some o/\o.data=.seq items n
theorem Ha.at{items:Array Value}(x:Ha h a items)(k:∀ o,h.get? a=some o->h'.get? a=some o):Ha h' a items:=Es (x) λo n e d=>(B6 o n ⟨k o e,d⟩)
theorem next_item{it l:Addr}{items}{x:Value}{Q:Option Value->Shared->Prop}(KC:s.heap.IsListIter it l i)(hl:Ha s.heap l items)(hx:items[i]?=some x)(hQ:∀ h',h'.IsListIter it l (i+1)->Heap.SameBut it s.heap h'->Q (some x) { s with heap:=h' }):wpAny (model C.prog C.w) A (pyNext (.ref it)) Q E s:=by
 (refine Ci (id KC) λo ho hc hd=>?_)
 (refine Es (hl) λol nl gN kB=>?_;clear hl)
 unfold pyNext
 refine wpAny_bind (wpAny_attempt (wpAny_callSpecial?_slot (name:=Str.ofString "__next__") KC.typeIs slot_listiter_next
  (wpAny_call_entry slot_listiter_next KC.typeIs entry_listiter_next ?_ (args_listiter_next _))))
 show wpAny _ _ (field (.ref it) 0 >>= _) _ _ s
 refine wpAny_bind (wpAny_field ho hd (x:=.ref l) rfl ?_)
 show wpAny _ _ (if (Value.ref l==Value.none)=true then _ else _) _ _ s
 rw[if_neg (show ¬ ((Value.ref l==Value.none)=true) from Bool.false_ne_true)]
 show wpAny _ _ (field (.ref it) 1 >>= _) _ _ s
 refine wpAny_bind (wpAny_field ho hd (x:=.int i 0) rfl ?_)
 show wpAny _ _ (seqItems? (.ref l) >>= _) _ _ s
 refine wpAny_bind (wpAny_seqItems gN kB ?_)
 simp only[Int.toNat_natCast,hx]
 refine wpAny_bind (wpAny_setField ho hd (by simp) (wpAny_pure ⟨x,rfl,wpAny_pure (hQ _ ?_ (Heap.SameBut.update ..))⟩))
 exact⟨_,Heap.get?_update_self _ ho (Obj.isFreed_of_fields (Obj.data_mapFields hd _)),(Obj.cls_mapFields ..).trans hc,by
  rw[Obj.data_mapFields hd];simp -iota [rawInt]⟩
theorem Om{it:Addr}{o:Obj}{fs:Array Value}{g:Array GenState}{dr:Drawn}{t:Nat}{Q:Option Value->Shared->Prop}(hh:A.handled=none)(ho:h.get? it=some o)(hd:o.data=.fields fs)(h0:0<fs.size)(r:String)(hQ:∀ h',Heap.ExtBut it h h'->h.objs.size<=h'.objs.size->Q none ⟨h',g,dr,t,os⟩) :
 wpAny (model C.prog C.w) A.in1 (do rule r;setField (.ref it) 0 .none;raiseNew (<- newExc (.type "StopIteration") [])) (λfin s'=>∃ v,fin=Fin.done (.ret v)/\wpAny (model C.prog C.w) A (pure (some v):Sem (Option Value)) Q E s')
  (λe s'=>wpAny (model C.prog C.w) A (do if <- isInstance e (.type "StopIteration") then pure none else throw e) Q E s') ⟨h,g,dr,t,os⟩:=by
 refine wpAny_bind (wpAny_rule (wpAny_bind (wpAny_setField ho hd h0 ?_)))
 show wpAny _ _ (newExc (.type "StopIteration") [] >>= _) _ _ _
 refine wpAny_bind ?_
 simp -iota only[newExc,newTuple]
 refine wpAny_bind (wpAny_newObj_type ?_ (by size_fits))
 refine wpAny_bind (m:=firstArgMember _ _) (wpAny_of_eq (a:=Value.none) (by first|rfl|(simp -iota only[firstArgMember];rfl)) ?_)
 refine wpAny_newObj_type ?_ (by size_fits)
 simp -iota only[raiseNew]
 refine wpAny_bind (wpAny_handled ?_)
 rw[show A.in1.handled=none from hh]
 refine wpAny_bind (wpAny_pure (wpAny_throw ?_))
 refine wpAny_bind (wpAny_isInstance (T := "StopIteration") (b:=true) ⟨_,Heap.get?_push_size _ rfl,rfl⟩ isSubtype_stop ?_)
 refine wpAny_pure (hQ _ (((Heap.SameBut.update ..).extBut.push _).push _) ?_)
 rw[Heap.size_push,Heap.size_push,Heap.size_after_update]
 right
theorem Ya{it l:Addr}{items}{Q:Option Value->Shared->Prop}(hh:A.handled=none)(KC:s.heap.IsListIter it l i)(hl:Ha s.heap l items)(hx:items[i]?=none)(hQ:∀ h',Heap.ExtBut it s.heap h'->s.heap.objs.size<=h'.objs.size->Q none { s with heap:=h' }):wpAny (model C.prog C.w) A (pyNext (.ref it)) Q E s:=by
 refine Ci (id KC) λo ho hc hd=>Es hl λol nl gN kB=>?_
 unfold pyNext
 refine wpAny_bind (wpAny_attempt (wpAny_callSpecial?_slot (name:=Str.ofString "__next__") KC.typeIs slot_listiter_next
  (wpAny_call_entry slot_listiter_next KC.typeIs entry_listiter_next ?_ (args_listiter_next _))))
 show wpAny _ _ (field (.ref it) 0 >>= _) _ _ s
 refine wpAny_bind (wpAny_field ho hd (x:=.ref l) rfl ?_)
 show wpAny _ _ (if (Value.ref l==Value.none)=true then _ else _) _ _ s
 rw[if_neg (show ¬ ((Value.ref l==Value.none)=true) from Bool.false_ne_true)]
 show wpAny _ _ (field (.ref it) 1 >>= _) _ _ s
 refine wpAny_bind (wpAny_field ho hd (x:=.int i 0) rfl ?_)
 show wpAny _ _ (seqItems? (.ref l) >>= _) _ _ s
 refine wpAny_bind (wpAny_seqItems gN kB ?_)
 simp only[Int.toNat_natCast,hx]
 exact Om hh ho hd (by simp) _ hQ
theorem next_end{it l:Addr}{items}{Q:Option Value->Shared->Prop}(hh:A.handled=none)(KC:s.heap.IsListIter it l i)(hl:Ha s.heap l items)(hx:items[i]?=none)(hQ:∀ h',Heap.ExtBut it s.heap h'->Q none { s with heap:=h' }):wpAny (model C.prog C.w) A (pyNext (.ref it)) Q E s:=Ya hh KC hl hx λh' e uu=>hQ h' e
theorem walkPairs(hh:A.handled=none)(I ax:Addr)(Gj:ax≠I)(items:Array Value)(Ts:Nat->Addr)(vals:Nat->Array Value)(KC:∀ j,j<items.size->items[j]?=some (.ref (Ts j)))(sR:∀ j,j<items.size->Ts j≠I) :
 WalksU C.prog C.w A I (I::ax::(List.range items.size).map Ts) [I] items.size (λj v=>j<items.size/\v=vals j)
  (λj h=>h.IsListIter I ax j/\Ha h ax items/\∀ k,k<items.size->h.IsTuple (Ts k) (vals k))
  (λj T h=>(j<items.size/\T=Ts j)/\h.IsListIter I ax (j+1)/\Ha h ax items/\∀ k,k<items.size->h.IsTuple (Ts k) (vals k)) where
 sub:=λb hb=>by simp at hb;simp -iota [hb]
 frame:=λuu uu uu st hk=>⟨st.1.at λo e=>hk I (by simp) o e,st.2.1.at λo e=>hk ax (by simp) o e,
  λk Pq=>(st.2.2 k Pq).at λo e=>hk (Ts k) (List.mem_cons_of_mem _ (List.mem_cons_of_mem _ (List.mem_map.mpr ⟨k,List.mem_range.mpr Pq,rfl⟩))) o e⟩
 item:=λi s Q E hi st hQ=>by
  refine next_item st.1 st.2.1 (x:=.ref (Ts i)) (KC i hi) λh' L5 Ln=>?_
  have tup:∀ k,k<items.size->h'.IsTuple (Ts k) (vals k):=λk Pq=>(st.2.2 k Pq).extBut Ln.extBut (sR k Pq)
  exact hQ (Ts i) (vals i) h' s.toks ⟨hi,rfl⟩ (tup i hi) ⟨⟨hi,rfl⟩,L5,st.2.1.at λo e=>Ln.extBut _ o Gj e,tup⟩ λb o hb e=>Ln.extBut b o (λh=>hb (by simp -iota [h])) e
 go:=λuu uu uu uu uu s Q uu hm hQ=>wpAny_letOwnedTupleGo_listiter hm.2.1 (hQ s.heap hm.2 λuu uu uu e=>e)
 apart:=λj T uu hm KJ=>by
  rcases List.mem_cons.mp KJ with e|e
  . exact sR j hm.1.1 (hm.1.2▸e)
  . cases e
 done:=λs Q E st hQ=>next_end hh st.1 st.2.1 (by simp) λh' cj=>hQ h' s.toks λb o hb e=>cj b o (λh=>hb (by simp -iota [h])) e
 self:=λuu uu uu uu st hQ=>wpAny_pyIter_listiter st.1 hQ
end
variable{G:Array GenState->Array GenState->Prop}{I c fI ff:Addr}{P:Nat->Value->Prop}{R:Result->Shared->Prop}{attrs:List (Str×AV)}{dd:Option Addr}{e1 e2 elt:Expr}{fp wr:List Addr}{kt sS:Nat}{m:Str->Option Value}{o:Obj}{p p2 p3 p4 p5 pa pb pos pt q0 q1 r0 r1 r2 r3 r4 r5 r6:Pos}{FH:List (Str×Str)}{qn sep:Str}{scope:Scope}{t:Addr×Addr×Array Value}{te:Tok}{u:Unit}{σ₂:St}
section
variable{St:Nat->Shared->Prop}
theorem cm(W:WalksS C.prog C.w A.in1 I fp wr G n P St)(Su acc:Nat->Int)(gO:∀ i,acc (i+1)=acc i+Su i)(gP:∀ i v,P i v->∃ t,v=.int (Su i) t)(S:Addr)(Vz:S∉fp) :
 ∀ (k i:Nat) (s:Shared) (tA:Tok) (c:Nat) (st:Int),(st=0\/st=2)->n-i=k->i<=n->St i s->s.heap.get? S=some { cls:=.type "list",dict:=none,data:=.seq #[.int (acc i) tA] c,slots:=#[] } ->
 (∀ s' t',Moved (S::wr) G s s'->R (.ok (.ret (.int (acc n) t'))) s')->codeAny (model C.prog C.w) A (.builtin "sum.loop" ⟨[.ref I,.ref S,rawInt st,rawInt 0],[]⟩) R s:=by
 have jQ:S∉wr:=λh=>Vz (W.sub _ h)
 have QM:∀ b∈wr,b∈S::wr:=λb hb=>List.mem_cons_of_mem _ hb
 intro k
 induction k with
 |zero =>
  intro i s tA c st cn hk hi hst hS hR
  have jR:i=n:=Nat.le_antisymm hi (Nat.sub_eq_zero_iff_le.mp hk)
  subst jR
  refine codeAny_builtin F.entry_sum_loop ?_
  rw[Around.under_plainId F.plain_sum_loop _]
  show wpAny _ A.in1 (seqItems? (.ref S) >>= _) _ _ s
  refine wpAny_bind (wpAny_seqItems hS rfl ?_)
  show wpAny _ A.in1 (tryCatch (pyNext (.ref I)) _ >>= _) _ _ s
  refine wpAny_bind (wpAny_tryCatch (W.done s _ _ hst λs' hm=>?_))
  exact wpAny_pure (hR s' tA (hm.mono QM))
 |succ k ih =>
  intro i s tA c st cn hk hi hst hS hR
  have DK:i<n:=Nat.lt_of_sub_eq_succ hk
  refine codeAny_builtin F.entry_sum_loop ?_
  rw[Around.under_plainId F.plain_sum_loop _]
  show wpAny _ A.in1 (seqItems? (.ref S) >>= _) _ _ s
  refine wpAny_bind (wpAny_seqItems hS rfl ?_)
  show wpAny _ A.in1 (tryCatch (pyNext (.ref I)) _ >>= _) _ _ s
  refine wpAny_bind (wpAny_tryCatch (W.item i s _ _ DK hst λv s' hP MO hm=>?_))
  (refine CJ (gP i v hP) λt IF=>?_;subst IF)
  have VA:=hm.heap S _ jQ hS
  have ac:=gO i
  have plain:∀ (B:Sem Fin),B=(do
   match <- (holding [Value.int (Su i) t] (binaryOp .Add (.int (acc i) tA) (.int (Su i) t))).attempt with
   | .ok r=>do updateSeq S (λuu=>#[r]);letGo [.int (acc i) tA,.int (Su i) t];updateSeq S (λuu=>#[r]);pure (.again (.builtin "sum.loop" ⟨[.ref I,.ref S,rawInt 2,rawInt 0],[]⟩))
   | .error e=>do updateSeq S (λuu=>#[]);letGo [.int (acc i) tA,.int (Su i) t] [e];throw e) ->
   wpAny (model C.prog C.w) A.in1 B (λfin Pe=>match fin with | .done f=>R (.ok f) Pe | .again c'=>c'.quiet=true/\codeAny (model C.prog C.w) A c' R Pe) (λe Pe=>R (.error e) Pe) s':=by
   rintro B rfl
   refine wpAny_bind (wpAny_attempt (wpAny_holding (wpAny_add_int ?_)))
   show wpAny _ A.in1 (updateSeq S (λuu=>#[.int (acc i+Su i) s'.toks]) >>= _) _ _ _
   refine wpAny_bind (wpAny_updateSeq VA rfl ?_)
   have eV:=Heap.get?_update_self (Obj.mapSeq λuu=>#[Value.int (acc i+Su i) s'.toks]) VA rfl
   refine wpAny_bind (wpAny_letGo ?_)
   refine wpAny_bind (wpAny_updateSeq eV rfl (wpAny_pure ⟨plainId_quiet F.plain_sum_loop _,ih (i+1) _ s'.toks _ 2 (.inr rfl) ((Nat.sub_succ n i).trans (congrArg Nat.pred hk)) DK (W.frame _ s' _ _ MO (by first|exact Nat.le_refl _|exact Nat.le_succ _|omega) λb hb o e=>?_) (by rw[ac];exact Heap.get?_update_self _ eV rfl) λPe pF gQ=>?_⟩))
   . exact(Heap.get?_update_other _ _ (λh:S=b=>Vz (by rw[h];exact hb))).trans ((Heap.get?_update_other _ _ (λh:S=b=>Vz (by rw[h];exact hb))).trans e)
   . refine hR Pe pF (Moved.trans W.gtrans ((hm.mono QM).then_heap (by first|exact Nat.le_refl _|exact Nat.le_succ _|omega) λb o hb e=>?_) gQ)
     exact(Heap.get?_update_other _ _ (λh:S=b=>hb (by rw[h];exact List.mem_cons_self))).trans ((Heap.get?_update_other _ _ (λh:S=b=>hb (by rw[h];exact List.mem_cons_self))).trans e)
  rcases cn with rfl|rfl
  . show wpAny _ A.in1 (if (_:Bool)=true then (mkInt (acc i+Su i) >>= _) else _) _ _ _
    split
    . refine wpAny_bind (wpAny_mkInt ?_)
      show wpAny _ A.in1 (updateSeq S (λuu=>#[.int (acc i+Su i) s'.toks]) >>= _) _ _ _
      refine wpAny_bind ?_
      refine wpAny_updateSeq VA rfl (wpAny_pure ⟨plainId_quiet F.plain_sum_loop _,ih (i+1) _ s'.toks _ 0 (.inl rfl) ((Nat.sub_succ n i).trans (congrArg Nat.pred hk)) DK (W.frame _ s' _ _ MO (by first|exact Nat.le_refl _|exact Nat.le_succ _|omega) λb hb o e=>?_) (by rw[ac];exact Heap.get?_update_self _ VA rfl) λPe pF gQ=>?_⟩)
      . exact(Heap.get?_update_other _ _ (λh:S=b=>Vz (by rw[h];exact hb))).trans e
      . refine hR Pe pF (Moved.trans W.gtrans ((hm.mono QM).then_heap (by first|exact Nat.le_refl _|exact Nat.le_succ _|omega) λb o hb e=>?_) gQ)
        exact(Heap.get?_update_other _ _ (λh:S=b=>hb (by rw[h];exact List.mem_cons_self))).trans e
    . exact wpAny_bind (wpAny_rule (plain _ rfl))
  . exact plain _ rfl
theorem VB(a b:Value):argsOk "sum" ⟨[a,b],[]⟩:=by unfold argsOk;left
theorem VC{x:Value}{tI:Tok}(h:wpAny (model C.prog C.w) A.in1 (pyIter x) (λit Ai=>∃ I fp wr G n P St,∃ Su acc:Nat->Int,it=.ref I/\WalksS C.prog C.w A.in1 I fp wr G n P St/\St 0 Ai/\(∀ b∈fp,b<Ai.heap.objs.size) /\
  (∀ i v,P i v->∃ t,v=.int (Su i) t)/\(acc 0=ini)/\(∀ i,acc (i+1)=acc i+Su i) /\
  ∀ s' t',Moved wr G Ai s'->Q (.int (acc n) t') s') E s) :
 wpAny (model C.prog C.w) A (call (.builtin "sum") [x,.int ini tI]) Q E s:=by
 refine call_function_tree F.kind_sum F.plain_sum F.entry_sum (VB _ _) ?_
 unfold Builtin.«sum»
 simp -iota only[List.length_cons,List.length_nil]
 rw[if_neg (by decide)]
 refine wpAny_bind (wpAny_of_eq (show Builtin.Builtins.bindParams "sum" ["start"] 0 ⟨[.int ini tI],[]⟩=pure [some (.int ini tI)] from rfl) ?_)
 refine wpAny_bind (wpAny_mono h (λit Ai Dv=>?_) λuu uu e=>e)
 (refine o4 (Dv) λI fp wr G n P St Su acc uE W hst kC gP h0 gO hQ=>?_;clear Dv;subst uE)
 have tail:∀ (st:Int) (tk:Tok) (k:Nat),(st=0\/st=2)->Ai.toks<=k->∀ m:Sem Fin,m=(do
  for (ty,what,hint) in [("str", "strings", "''"),("bytes", "bytes", "b''"),("bytearray", "bytearray", "b''")] do
   if <- isInstance (.int ini tk) (.type ty) then
    rule "sum.start-refused";raiseError "TypeError" s!"sum() can't sum {what} [use {hint}.join(seq) instead]"
  pure (.again (.builtin "sum.loop" ⟨[.ref I,<- newList [.int ini tk],rawInt st,rawInt 0],[]⟩))) ->
  wpAny (model C.prog C.w) A.in1 m (λfin s'=>match fin with
  | .done f=>(match (Except.ok f:Result) with | .ok (.ret v)=>Q v s' | .ok _=>False | .error e=>E e s')
  | .again c'=>c'.quiet=true/\codeAny (model C.prog C.w) A c' (λr s'=>match r with | .ok (.ret v)=>Q v s' | .ok _=>False | .error e=>E e s') s') E { Ai with toks:=k }:=by
  rintro st tk k cn hk m rfl
  have no:∀ {T:String} {f:Sem (ForInStep PUnit)} {Q:ForInStep PUnit->Shared->Prop} {E:Value->Shared->Prop},isSubtype (.type "int") (.type T)=pure false->Q (.yield ⟨⟩) { Ai with toks:=k }->wpAny (model C.prog C.w) A.in1 (isInstance (.int st tk) (.type T) >>= λb=>if b=true then f else pure (.yield ⟨⟩)) Q E { Ai with toks:=k }:=λh q=>wpAny_bind (wpAny_isInstance (T := "int") (b:=false) (typeIs_int _ _ _) h (sJ Bool.false_ne_true (wpAny_pure q)))
  refine wpAny_bind (E3 (no PySem.sub_int_str ⟨_,rfl,E3 (no PySem.sub_int_bytes ⟨_,rfl,E3 (no PySem.sub_int_bytearray ⟨_,rfl,Mv ?_⟩)⟩)⟩))
  refine wpAny_bind (wpAny_newObj_type ?_)
  have Vz:Ai.heap.objs.size∉fp:=λhm=>Nat.lt_irrefl _ (kC _ hm)
  refine wpAny_pure ⟨plainId_quiet F.plain_sum_loop _,cm W Su acc gO gP Ai.heap.objs.size Vz n 0 _ tk 0 st cn rfl (Nat.zero_le _)
   (W.frame 0 Ai _ _ hst hk λb uu o e=>Heap.get?_push_of_some _ e) (by rw[h0];exact Heap.get?_push_size _ rfl) λs' t' hm=>?_⟩
  exact hQ s' t' (hm.drop_new hk)
 dsimp only
 split
 . refine wpAny_bind (wpAny_rule (wpAny_bind (wpAny_mkInt (wpAny_bind (wpAny_pure ?_)))))
   exact tail 0 _ _ (.inl rfl) (Nat.le_succ _) _ rfl
 . refine wpAny_bind (wpAny_pure ?_)
   exact tail 2 _ _ (.inr rfl) (Nat.le_refl _) _ rfl
end
structure Kept (C:Cfg) (s s':Shared):Prop where
 keep:∀ b o,s.heap.get? b=some o->¬ C.isTab b->s'.heap.get? b=some o
 tab:∀ t∈C.tabs,∃ more,s'.heap.IsCode t.1 t.2.1 (t.2.2++more)/\My s'.heap t.1 t.2.1 (t.2.2++more)
 size:s.heap.objs.size<=s'.heap.objs.size
 gens:AllBare s'.gens
 gold:∀ (i:Nat) (st:GenState),s.gens[i]?=some st->s'.gens[i]?=some st
 drawn:s'.drawn=s.drawn
 os:s'.os=s.os
noncomputable def QQ(C:Cfg)(h:Heap)(wr:List Addr):Prop:=∀ t∈C.tabs,∀ ps,My h t.1 t.2.1 ps->∀ pos cv c,codeAmong pos ps.toList=some cv->cv=.ref c->c∉wr
section
variable{Pe:Shared}
theorem Kept.gsize(k:Kept C s s'):s.gens.size<=s'.gens.size:=by
 rcases Nat.lt_or_ge s'.gens.size s.gens.size with h|h
 . have:=k.gold s'.gens.size _ (Array.getElem?_eq_getElem h)
   exact absurd (Array.getElem?_eq_some_iff.mp this).1 (Nat.lt_irrefl _)
 . exact h
theorem Kept.step(k:Kept C s s'):Step C [] ρ ρ s.heap s'.heap:=⟨k.size,λb o e n uu=>k.keep b o e λt=>n (.inl t),[],by simp,λuu hp=>nm hp⟩
theorem Rel.notTab(R:Rel C ρ σ s)(ho:s.heap.get? a=some o)(hc:o.cls≠.none):¬ C.isTab a:=by
 intro t
 (refine Am (List.mem_map.mp t) λx hx e=>?_)
 (refine Am (R.tab x hx) λm uu ht=>?_)
 have ht:=ht.at_.2
 rw[e,ho] at ht
 (refine c1 ht λG9=>?_;clear ht;subst G9)
 exact hc rfl
theorem Rel.objNotTab(R:Rel C ρ σ s){p:Addr×Addr}{o:AO}(e:ρ[l]?=some p)(e':σ[l]?=some o)(ha:p.1=a\/p.2=a):¬ C.isTab a:=λt =>
 Am (List.mem_map.mp t) λx hx ea=>Am (R.tab x hx) λm uu ht=>Am ((R.st l p o e e').noFields ha) λob ho hn=>by
  have z:=Option.some.inj (ho.symm.trans (ea▸ht.at_.2))
  rw[z] at hn
  exact hn.elim (λh=>h _ rfl) Value.noConfusion
theorem Rel.kept(R:Rel C ρ σ s)(k:Kept C s s'):Rel C ρ σ s' where
 old b o e n:=k.keep b o (R.old b o e n) n
 tab:=k.tab
 lo:=R.lo
 dis:=R.dis
 len:=R.len
 st l p o e e':=(R.st l p o e e').move (λob z=>k.keep _ _ z (R.objNotTab e e' (.inl rfl))) (λob z=>k.keep _ _ z (R.objNotTab e e' (.inr rfl))) (·.go k.step) (λuu z=>z) λb o e hc=>k.keep _ _ e (R.notTab e (by rw[hc.1];exactλz=>Value.noConfusion z))
 gens:=(R.gens.mono k.gens k.gold).heap λl p x e e' hx o ho=>k.keep _ _ ho (R.objNotTab e e' (.inl rfl))
 drawn:=k.drawn.trans R.drawn
 os:=k.os.trans R.os
 size:=Nat.le_trans R.size k.size
theorem Kept.of(R:Rel C ρ σ s)(k:∀ b o,s.heap.get? b=some o->s'.heap.get? b=some o)(z:s.heap.objs.size<=s'.heap.objs.size)(hg:s'.gens=s.gens)(hd:s'.drawn=s.drawn)(ho:s'.os=s.os):Kept C s s' :=
 ⟨λb o e uu=>k b o e,λt ht=>Am (R.tab t ht) λm a b=>⟨m,a.keeps k,b.keeps k⟩,z,by rw[hg];exact R.gens.bare,λi st e=>by rw[hg];exact e,hd,ho⟩
theorem Kept.moved{g:Nat}(k:Kept C s s')(R:Rel C ρ σ s)(m:Moved wr (GenOnlyQ g) s' Pe)(hw:∀ b∈wr,s.heap.objs.size<=b)(ha:s'.heap.get? a=some o)(hl:s.heap.objs.size<=a)(hn:a∉wr)(kE:s.gens.size<=g)(kF:QQ C s'.heap wr):Kept C s Pe where
 keep b o e n:=m.heap b o (λh=>Nat.not_lt.mpr (hw b h) (Heap.lt_size e)) (k.keep b o e n)
 tab t ht:=by
  (refine Am (k.tab t ht) λmore a1 b1=>?_)
  (refine Am (R.tab t ht) λmore' a2 b2=>?_)
  have l1:=a2.lt
  refine⟨more,a1.at2 (λo e=>m.heap _ o (λh=>Nat.not_lt.mpr (hw _ h) l1.1) e) (λo e=>m.heap _ o (λh=>Nat.not_lt.mpr (hw _ h) l1.2) e),?_⟩
  obtain⟨⟨⟨o,vs,x,r⟩,y⟩,z⟩:=id b1
  exact⟨⟨(B6 o vs ⟨m.heap _ _ (λh=>Nat.not_lt.mpr (hw _ h) l1.1) x,r⟩),m.heap _ _ (λh=>Nat.not_lt.mpr (hw _ h) l1.2) y⟩,λpos cv e=>Sk (z pos cv e) λc o vs v a1 a2 a3=>(Lm c o vs v ⟨a1,m.heap _ _ (kF t ht _ b1 pos cv c e a1) a2,a3⟩)⟩
 size:=Nat.le_trans hl (Nat.le_of_lt (Heap.lt_size (m.heap a o hn ha)))
 gens:=m.gens.bare k.gens
 gold i st e:=by
  have e':=k.gold i st e
  have hi:i<s.gens.size:=(Array.getElem?_eq_some_iff.mp e).1
  rcases m.gens with h|⟨⟨_,h⟩,_⟩
  . rw[h];exact e'
  . rw[h i (Nat.ne_of_lt (Nat.lt_of_lt_of_le hi kE))];exact e'
 drawn:=m.drawn.trans k.drawn
 os:=m.os.trans k.os
end
theorem Jg{P:Addr}{ps:Array Value}(b:My h c P ps)(e:h.get? P=some o)(hc:I6 o):False:=by
 rw[b.at_.2] at e
 exact Value.noConfusion ((congrArg Obj.cls (Option.some.inj e)).trans hc.1)
set_option tactic.hygienic true
theorem gR(pos Pr:Pos)(c cv:Value)(l:List Value)(h:TriplesOk l)(e:codeAmong Pr (l++[rawInt pos.line,rawInt pos.col,c])=some cv):codeAmong Pr l=some cv\/cv=c:=by
 fun_induction TriplesOk l with
 |case1 =>
  have e:(if (Int.ofNat pos.line==Pr.line&&Int.ofNat pos.col==Pr.col)=true then some c else none)=some cv:=e
  (refine sf e ?_;clear e;intro uu e)
  exact .inr (Option.some.inj e).symm
 |case2 a t b u x rest ih =>
  simp only[List.cons_append,codeAmong] at e ⊢
  split at e
  . rename_i hc;rw[if_pos hc];exact .inl e
  . rename_i hc;rw[if_neg hc];exact ih h e
 |case3 l h1 h2=>exact h.elim
set_option tactic.hygienic false
theorem MP{P c':Addr}{ps:Array Value}(b:My h c P ps)(hx:Heap.ExtBut P h h')(Sv:h'.CodeRec (.ref c') qn)(Xg:∃ P',h.objs.size<=P'/\h'.IsCode c' P' #[]/\h'.TableAt c' P' #[])(ht:TriplesOk ps.toList):JH h' (ps++#[rawInt pos.line,rawInt pos.col,.ref c']):=by
 intro Pr cv e
 rw[Array.toList_append] at e
 rcases gR pos Pr (.ref c') cv ps.toList ht e with e|rfl
 . (refine Xm (b.codes Pr cv e) λc2 o vs v a1 a2 a3 a4 a5=>?_)
   exact(Lm c2 o vs v ⟨a1,hx _ _ (λz=>Jg b (z▸a2) ⟨a3,vs,a4⟩) a2,a3,a4,a5⟩)
 . (refine LY (Sv) λc2 o vs t e1 e2 e3 e4=>?_;clear Sv)
   obtain⟨P',_,_,⟨⟨o',CL,x1,x2,x3,x4⟩,_⟩⟩:=Xg
   cases e1
   rw[e2] at x1
   cases x1
   exact(Lm c' o vs _ ⟨rfl,e2,x2,e3,e4⟩)
theorem _root_.PySem.Heap.IsCode.triples{P:Addr}{ps:Array Value}(x:h.IsCode c P ps):TriplesOk ps.toList:=by
 (refine gu (x) λuu uu uu uu uu uu uu uu uu uu uu uu uu uu uu uu uu uu uu t uu=>?_;clear x)
 exact t
structure HJ (C:Cfg):Prop where
 bm:∃ mg bm ob,BMod C.s₁.heap mainGlobals mg bm ob/\¬ C.isTab bm
 one:∀ t∈C.tabs,∀ t'∈C.tabs,t.2.1=t'.2.1->t=t'
theorem QR(n:Nat):passing (λuu=>true) n 0=List.range n:=by simp[passing]
theorem cp(HG:HJ C)(ht:t∈C.tabs)(Ey:env.code=.ref t.1)(R:Rel C ρ σ s)(k:∀ code s',Kept C s s'->Q code s'):wpAny (model C.prog C.w) A (genexprCode env pos qn scope) Q E s:=by
 (refine Am (R.tab t ht) λmore a b=>?_)
 cases hf:codeAmong pos (t.2.2++more).toList with
 |some c'=>exact wpAny_genexprCode_hit Ey a hf (k _ _ (.of R (λuu uu e=>e) (Nat.le_refl _) rfl rfl rfl))
 |none =>
  refine wpAny_genexprCodeX Ey a b.at_ hf λc' h' tk hx kG DK a' Sv b' Xg=>k _ _ ?_
  refine⟨λb' o e n=>hx b' o (λz=>n (z▸List.mem_map_of_mem ht)) e,λt' kK=>?_,Nat.le_trans kG (Nat.le_of_lt DK),R.gens.bare,λuu uu e=>e,rfl,rfl⟩
  by_cases he:t'.2.1=t.2.1
  . obtain rfl:=HG.one t' kK t ht he
    exact⟨more++#[rawInt pos.line,rawInt pos.col,.ref c'],by rw[<- Array.append_assoc];exact a',by rw[<- Array.append_assoc];exact⟨b',MP b hx Sv Xg (a.triples) ⟩⟩
  . (refine Am (R.tab t' kK) λm2 a2 b2=>?_)
    have hc:t'.1≠t.2.1:=by
     intro z
     obtain⟨⟨o,vs,x,y,_⟩,_⟩:=b2.at_
     rw[z,b.at_.2] at x
     cases x;cases y
    exact⟨m2,a2.extBut hx hc he,b2.move (λb' o e hc=>hx b' o (λz=>Jg b (z▸e) hc) e) λo e=>hx _ _ he e⟩
theorem Yb(hs:Bx C ρ h (FH.map AK) vs):∃ (Ts:Nat->Addr) (vals:Nat->Array Value),∀ j,j<vs.length->vs[j]?=some (.ref (Ts j))/\h.IsTuple (Ts j) (vals j)/\¬ C.isTab (Ts j)/\∃ p t u,FH[j]?=some p/\vals j=#[.str p.1 t,.str p.2 u]:=by
 have one:∀ j,∃ (q:Addr×Array Value),j<vs.length->vs[j]?=some (.ref q.1)/\h.IsTuple q.1 q.2/\¬ C.isTab q.1/\∃ p t u,FH[j]?=some p/\q.2=#[.str p.1 t,.str p.2 u]:=by
  intro j
  by_cases hj:j<vs.length
  . have nQ:j<FH.length:=by have:=hs.length;rw[List.length_map] at this;omega
    (refine Am (Oj hs (List.getElem?_eq_getElem nQ)) λv hv q=>?_)
    revert hv
    refine VR.tup_e (show VR C ρ h (.tup [.str FH[j].1,.str FH[j].2]) v from q) λa us n ho hm hq hv=>?_
    revert ho
    refine hq.two_e λx y q1 q2=>q1.str_e λt uu=>q2.str_e λu uu ho=>?_
    exact⟨(a,#[.str FH[j].1 t,.str FH[j].2 u]),λuu=>⟨hv,⟨_,ho,rfl,n,rfl⟩,λz=>hm (.inl z),EY (FH[j]) t u ⟨List.getElem?_eq_getElem nQ,rfl⟩⟩⟩
  . exact⟨(0,#[]),λh=>absurd h hj⟩
 exact(B6 (λj=>(one j).choose.1) (λj=>(one j).choose.2) (λj hj=>(one j).choose_spec hj))
noncomputable def Yc(C:Cfg)(env:Env)(scope:Scope)(elt:Expr)(xa xb:Str)(FH:List (Str×Str))(F:Str×Str->Value->Prop):Prop :=
 ∀ (Cn:Addr) (code:Value) (A':Around) (E':Value->Shared->Prop) (p:Str×Str) (t u:Tok) (Ai:Shared) (QU:Str->Option Value),A'.handled=none->p∈FH->Ai.heap.Ns Cn QU->QU xa=some (.str p.1 t)->QU xb=some (.str p.2 u) ->
  (∀ b o,C.s₁.heap.get? b=some o->¬ C.isTab b->Ai.heap.get? b=some o) ->
  wpAny (model C.prog C.w) A' (eval elt (genEnv scope [] Cn code builtinsNs env)) (λy AJ=>F p y/\Keeps Ai AJ) E' Ai
theorem kM{P':Nat->Value->Prop}{St:Nat->Shared->Prop}(W:WalksS C.prog C.w A I fp wr G n P St)(h:∀ j y,P j y->P' j y):WalksS C.prog C.w A I fp wr G n P' St where
 sub:=W.sub
 grefl:=W.grefl
 gtrans:=W.gtrans
 frame:=W.frame
 item:=λi s Q E hi st hQ=>W.item i s Q E hi st λv s' p=>hQ v s' (h _ _ p)
 done:=W.done
 self:=W.self
theorem Uu(H:Aq C)(HC:Bg C)(HA:DV C)(HG:HJ C)(He:Bi env Aa)(ht:t∈C.tabs)(Ey:env.code=.ref t.1){xa xb sn:Str}{ps:Pos}(Yd:scope.isCoroutine=false)(HK:closureFor scope env=pure [])(Oo:∀ y∈scope.names,y.2≠.cell)(h0:scope.names.lookup (".0" : Str)=some NameKind.local)(uF:scope.names.lookup xa=some .local)(uG:scope.names.lookup xb=some .local)(NR:xa≠xb)(kN:scope.kind=.function){i0:Nat}(jS:Aa[i0]?=some sn)(uH:(sn==("__debug__" : Str))=false)(hA:EL C 1 A)(R:Rel C ρ σ s)(lr:Cx C ρ s.heap env.locals Aa lc)(CV:lc[i0]?=some (some (.loc l)))(hl:σ[l]?=some (.acc ini FH)){F:Str×Str->Value->Prop}(II:Yc C env scope elt xa xb FH F)(k:∀ a g o Hb fp wr St,s.gens.size<=g->Kept C s Hb->Hb.heap.get? a=some o->s.heap.objs.size<=a->a∉wr->(∀ b∈wr,s.heap.objs.size<=b)->QQ C Hb.heap wr->WalksS C.prog C.w A.in4 a fp wr (GenOnlyQ g) FH.length (λj y=>∃ p,FH[j]?=some p/\F p y) St->St 0 Hb ->
  (∀ b∈fp,b<Hb.heap.objs.size)->a∈fp->(∀ i s',St i s'->s'.TypeIs (.ref a) "generator")->Q (.ref a) Hb) :
 wpAny (model C.prog C.w) A (eval (.GeneratorExp elt [⟨.Tuple [.Name xa pa,.Name xb pb] kt pt,.Name sn ps,[],0⟩] scope pos) env) Q E s:=by
 refine wpAny_GeneratorExp_walksQT hA.1 Yd HK Oo h0 uF uG NR kN (by have:=hA.2.1;right) ?_ (λuu=>rfl)
 refine wpAny_Name (Ig He jS CV lr λv qv=>?_) uH
 refine R.acc_e hl qv λa dd es n n' vs e0 ho hd he hs=>?_
 refine MN (R.kin H) (CC ho hd) HC.acMro HA.iter ?_
 obtain⟨hh,gg,dr,tk,os⟩:=s
 have Et:vs.length=FH.length:=by rw[hs.length,List.length_map]
 have Az:=R.push { cls:=.type "list_iterator",data:=.fields #[.ref a,.int 0 0] } (n:=tk)
 have gS:(hh.push { cls:=.type "list_iterator",data:=.fields #[.ref a,.int 0 0] }).NoLimit:=by
  (refine Am (H.lim) λmc x y=>?_)
  exact⟨mc,x.at λo e=>Heap.get?_push_of_some _ (R.old _ _ e H.stat),y⟩
 refine⟨gS,cp HG ht Ey Az λcode AJ JQ=>?_⟩
 have BY:=Az.kept JQ
 (refine Gf (HG.bm) λmg bm pG M pH=>?_)
 have IJ:BMod AJ.heap env.globals mg bm pG:=by rw[He.glob];exact⟨M.ns.at λo e=>BY.old _ _ e H.glob,M.name,M.ne,BY.old _ _ M.obj pH,M.cls,M.dict,M.data⟩
 refine wpAny_builtinsFor IJ.ns IJ.name IJ.ne IJ.obj IJ.cls IJ.dict IJ.data ?_
 (refine ID (Yb (C:=C) hs) λTs vals hT=>?_)
 have sT:a<hh.objs.size:=Heap.lt_size ho
 have sz:vs.toArray.size=vs.length:=List.size_toArray ..
 have kO:∀ j,j<vs.length->Ts j<hh.objs.size:=λj hj=>by obtain⟨_,⟨_,e,_⟩,_⟩:=hT j hj;exact Heap.lt_size e
 have W:=λ(A':Around) (kQ:A'.handled=none)=>walkPairs (C:=C) kQ hh.objs.size a (Nat.ne_of_lt sT) vs.toArray Ts vals (λj hj=>by rw[sz] at hj;simpa using (hT j hj).1) λj hj=>Nat.ne_of_lt (kO j (sz▸hj))
 have nt:¬ C.isTab a:=R.notTab ho (by simp)
 have Pt:hh.objs.size<AJ.heap.objs.size:=by have:=JQ.size;rw[show(hh.push _).objs.size=hh.objs.size+1 from Heap.size_push ..] at this;right
 have kR:AJ.heap.get? hh.objs.size=some { cls:=.type "list_iterator",data:=.fields #[.ref a,.int 0 0] }:=JQ.keep _ _ (Heap.get?_push_size _ rfl) (Az.notTab (Heap.get?_push_size _ rfl) (by simp))
 have up:∀ b o,hh.get? b=some o->¬ C.isTab b->AJ.heap.get? b=some o:=λb o e nb=>JQ.keep b o (Heap.get?_push_of_some _ e) nb
 have gT:AJ.heap.NoLimit:=by
  (refine Am (H.lim) λmc x y=>?_)
  exact⟨mc,x.at λo e=>BY.old _ _ e H.stat,y⟩
 have eW:cStatics≠hh.objs.size:=by
  (refine Am (H.lim) λmc x y=>?_)
  exact Nat.ne_of_lt (Nat.lt_of_lt_of_le x.lt R.size)
 refine(sH hh.objs.size _ [hh.objs.size] vs.toArray.size _ _ _ (λuu=>true) (λi y=>∃ p,FH[i]?=some p/\F p y) ⟨rfl,W,?_,⟨⟨_,kR,rfl,rfl⟩,(B6 _ _ ⟨up _ _ ho nt,rfl⟩),λj hj=>?_⟩,?_,gT,(by simpa using eW),?_,?_⟩)
 . rintro i v ⟨hi,rfl⟩
   (refine Gf ((hT i (sz▸hi)).2.2.2) λp t1 t2 uu e=>?_)
   exact(B6 _ _ e)
 . (refine Hv (hT j (sz▸hj)) λuu tt uI uu=>?_)
   exact tt.at λo e=>up _ o e uI
 . intro b hb
   rcases List.mem_cons.mp hb with rfl|hb
   . exact Pt
   . rcases List.mem_cons.mp hb with rfl|hb
     . exact Nat.lt_trans sT Pt
     . (refine Am (List.mem_map.mp hb) λj hj FP=>?_;subst FP)
       exact Nat.lt_trans (kO j (sz▸List.mem_range.mp hj)) Pt
 . intro pI hk
   have pJ:∀ (Ai:Shared),(∀ b∈List.range AJ.heap.objs.size,b∉[hh.objs.size]->∀ o,pI.get? b=some o->Ai.heap.get? b=some o)->∀ b o,C.s₁.heap.get? b=some o->¬ C.isTab b->Ai.heap.get? b=some o:=by
    intro Ai h2 b o e nb
    have e3:=BY.old b o e nb
    refine h2 b (List.mem_range.mpr (Heap.lt_size e3)) ?_ o (hk b o e3)
    intro hm
    obtain rfl:b=hh.objs.size:=by simpa using hm
    exact absurd (Nat.lt_of_lt_of_le (Heap.lt_size e) R.size) (Nat.lt_irrefl _)
   refine⟨λA' E' i va vb Ai QU sU hP hn ha hb sV=>?_,λA' E' i va vb Ai QU sU hP uu hn ha hb sV=>?_⟩
   . exact wpAny_pure ⟨rfl,B6 Ai.heap Ai.toks ⟨rfl,λuu uu e=>e⟩⟩
   . (refine AS (hP) λhi e=>?_;clear hP)
     (refine Gf ((hT i (sz▸hi)).2.2.2) λp t1 t2 hp ev=>?_)
     rw[ev] at e
     obtain⟨rfl,rfl⟩:va=.str p.1 t1/\vb=.str p.2 t2:=by simpa using congrArg Array.toList e
     exact wpAny_mono (II _ _ A' E' p t1 t2 Ai QU sU (List.mem_of_getElem? hp) hn ha hb (pJ Ai sV)) (λy AJ r=>⟨⟨p,hp,r.1⟩,r.2⟩) λuu uu e=>e
 . intro a' Gh tk gs uJ jT Ye Oq WS eP
   (refine Gf (eP.1) λoa nm qn uK uu=>?_)
   rw[QR,List.length_range,sz,Et] at WS
   rw[sz,Et] at eP
   refine k a' AJ.gens.size oa { AJ with gens:=AJ.gens.push gs,toks:=tk,heap:=Gh } (a'::AJ.heap.objs.size::List.range AJ.heap.objs.size) (AJ.heap.objs.size::[hh.objs.size]) _ JQ.gsize ⟨λb o e nb=>Oq b o (up b o e nb),λt ht=>?_,?_,JQ.gens.push uJ,(λi st e=>by have e':=JQ.gold i st e;have hi:=(Array.getElem?_eq_some_iff.mp e').1;show(AJ.gens.push gs)[i]?=some st;rw[Array.getElem?_push_lt hi];rw[Array.getElem?_eq_getElem hi] at e';exact e'),JQ.drawn,JQ.os⟩ uK (Nat.le_of_lt (Nat.lt_trans Pt jT)) ?_ ?_ ?_ ?_ eP ?_ (List.mem_cons_self ..) (λi s' st=>st.1.typeIs)
   . (refine Am (JQ.tab t ht) λmore x y=>?_)
     exact⟨more,x.keeps Oq,y.keeps Oq⟩
   . show hh.objs.size<=Gh.objs.size
     rw[Ye];exact Nat.le_of_lt (Nat.lt_trans (Nat.lt_trans Pt jT) (Nat.lt_succ_self _))
   . intro hm
     rcases List.mem_cons.mp hm with e|hm
     . exact absurd (e▸jT) (Nat.lt_irrefl _)
     . obtain rfl:a'=hh.objs.size:=by simpa using hm
       exact absurd (Nat.lt_trans Pt jT) (Nat.lt_irrefl _)
   . intro b hb
     rcases List.mem_cons.mp hb with rfl|hb
     . exact Nat.le_of_lt Pt
     . obtain rfl:b=hh.objs.size:=by simpa using hb
       exact Nat.le_refl _
   . intro t ht ps b5 Pr cv c e ec hm
     refine Am (JQ.tab t ht) λmore x y=>?_
     have e5:=(Oq _ _ y.at_.2).symm.trans b5.at_.2
     obtain rfl:t.2.2++more=ps:=by injection e5 with e5;injection e5 with _ _ e5;injection e5
     (refine Xm (y.codes Pr cv e) λc2 o vs v a1 a2 a3 a4 a5=>?_)
     obtain rfl:c2=c:=Value.ref.inj (a1.symm.trans ec)
     rcases List.mem_cons.mp hm with e6|hm
     . exact absurd (e6▸Heap.lt_size a2) (Nat.lt_irrefl _)
     . obtain rfl:c2=hh.objs.size:=by simpa using hm
       rw[kR] at a2
       injection a2 with a2
       rw[<- a2] at a3
       exact absurd (Value.type.inj a3) (by decide)
   . refine kM WS λj y=>?_
     rintro⟨i,hi,q⟩
     obtain⟨hj,e⟩:=List.getElem?_eq_some_iff.mp hi
     rw[List.getElem_range] at e
     rw[e];exact q
   . intro b hb
     show b<Gh.objs.size
     rw[Ye]
     rcases List.mem_cons.mp hb with rfl|hb
     . exact Nat.lt_succ_self _
     . rcases List.mem_cons.mp hb with rfl|hb
       . exact Nat.lt_succ_of_lt jT
       . exact Nat.lt_succ_of_lt (Nat.lt_trans (List.mem_range.mp hb) jT)
structure Hc (env:Env):Prop where
 kind:env.scope.kind=.function
 glob:env.globals=mainGlobals
 blt:env.builtins=builtinsNs
theorem Bi.out(h:Bi env Aa):Hc env:=⟨h.kind,h.glob,h.blt⟩
theorem Yf(H:Aq C)(He:Hc env){x:Str}(hv:Ay C x v)(hx:env.kindOf x=some .globalImplicit)(hd:(x==("__debug__" : Str))=false)(R:Lp C s)(k:Q v s) :
 wpAny (model C.prog C.w) A (eval (.Name x p) env) Q E s:=by
 (refine Am (hv) λmg hg h=>?_;clear hv)
 refine Name_function_global He.kind hx ?_ hd
 have bj:s.heap.Ns env.globals mg:=by rw[He.glob];exact hg.at λo e=>R _ _ e H.glob
 rcases h with h|⟨h,mb,hb,h'⟩
 . exact loadGlobal_global bj h k
 . exact loadGlobal_builtin bj h (by rw[He.blt];exact hb.at λo e=>R _ _ e H.blt) h' k
theorem Uv(He:Hc env){x:Str}(hx:env.kindOf x=some .local)(hn:s.heap.Ns env.locals m)(hm:m x=some v)(hd:(x==("__debug__" : Str))=false)(k:Q v s) :
 wpAny (model C.prog C.w) A (eval (.Name x p) env) Q E s:=wpAny_Name (wpAny_loadName_local He.kind hx hn hm k) hd
theorem eX(H:Aq C)(He:Hc env){f x:Str}{id:String}(hv:Ay C f (.builtin id))(hf:env.kindOf f=some .globalImplicit)(pK:(f==("__debug__" : Str))=false)(hx:env.kindOf x=some .local)(uL:(x==("__debug__" : Str))=false)(R:Lp C s)(hn:s.heap.Ns env.locals m)(hm:m x=some v)(k:wpAny (model C.prog C.w) A (call (.builtin id) [v]) Q E s):wpAny (model C.prog C.w) A (eval (.Call (.Name f p0) [.Name x p1] [] p) env) Q E s:=by
 show wpAny _ _ (do callWith p (<- eval (.Name f p0) env) [] (backTo p (starEach [.Name x p1] env)) (backToKw p (keywordEach [] env))) _ _ _
 refine wpAny_bind (Yf H He hv hf pK R ?_)
 refine callWith_of (P:=λuu=>True) rfl (λh uu=>⟨.machine,.inr (.inl rfl),.now⟩) ?_
 show wpAny _ _ (evalArgs _ true ((false,eval (.Name x p1) env)::_) []) _ _ _
 refine evalArgs_plain ?_
 refine wpAny_items_cons (pos:=p) (rest:=[]) (Uv He hx hn hm uL ?_)
 exact wpAny_items_nil ⟨trivial,by simpa using k⟩
noncomputable def CN(p:Str×Str):Int:=(p.1.length:Int)+p.2.length
noncomputable def Ag(ps:List (Str×Str)):Int:=(ps.map CN).sum
noncomputable def HO(x:Str):Bool:=x.length<=1000000
noncomputable def FI(p:Str×Str):Bool:=HO p.1&&HO p.2
theorem Jh(p:Str×Str)(h:ps[i]?=some p):Ag (ps.take (i+1))=Ag (ps.take i)+CN p:=by
 unfold Ag
 rw[List.take_add_one,h]
 simp
structure MQ (scope:Scope):Prop where
 kind:scope.kind=.function
 len:scope.names.lookup ("len" : Str)=some NameKind.globalImplicit
 a:scope.names.lookup ("fws" : Str)=some NameKind.local
 b:scope.names.lookup ("part" : Str)=some NameKind.local
theorem cq(H:Aq C)(He:Hc env)(hS:MQ scope)(hv:Ay C "len" (.builtin "len"))(hp:FH.all FI=true){p6:Pos} :
 Yc C env scope (.BinOp (.Call (.Name "len" p0) [.Name "fws" p1] [] p2) .Add (.Call (.Name "len" p3) [.Name "part" p4] [] p5) p6) "fws" "part" FH (λp y=>∃ t,y=.int (CN p) t):=by
 intro Cn code A' E' p t u Ai QU hh hm hn ha hb hold
 have hs:=List.all_eq_true.mp hp p hm
 unfold FI HO at hs
 rw[Bool.and_eq_true,decide_eq_true_eq,decide_eq_true_eq] at hs
 have bl:Hc (genEnv scope [] Cn code builtinsNs env):=⟨hS.kind,He.glob,rfl⟩
 refine wpAny_BinOp ?_
 refine eX H bl (id := "len") hv hS.len (by decide) hS.a (by decide) hold hn ha ?_
 refine PyProof.Rows.len_str (by omega) ?_
 refine eX (s:={ Ai with toks:=Ai.toks+1+1 }) H bl (id := "len") hv hS.len (by decide) hS.b (by decide) hold hn hb ?_
 refine PyProof.Rows.len_str (by omega) ?_
 refine wpAny_add_int ?_
 exact⟨⟨_,rfl⟩,B6 Ai.heap _ ⟨rfl,λuu uu e=>e⟩⟩
theorem kS(a b:Str):Txt.join "" [a,b]=a++b:=by
 show(⟨(a.cps++#[])++b.cps⟩:Str)=⟨a.cps++b.cps⟩
 rw[Array.append_empty]
theorem MR(a b:Str):(a++b).length=a.length+b.length:=by
 show(a.cps++b.cps).size=a.cps.size+b.cps.size
 exact Array.size_append
theorem MS:∀ {xs:List Str},PyData.strOk sep=true->(∀ x∈xs,PyData.strOk x=true)->PyData.strOk (Txt.join sep xs)=true:=by
 intro xs hs hx
 show PyData.strOk (Builtin.Str.glued sep xs)=true
 unfold Builtin.Str.glued
 have go:∀ (ys:List Str) (acc:Array Nat),PyData.strOk ⟨acc⟩=true->(∀ x∈ys,PyData.strOk x=true)->PyData.strOk ⟨ys.foldl (λacc p=>acc++sep.cps++p.cps) acc⟩=true:=by
  intro ys
  induction ys with
  |nil=>intro acc h _;exact h
  |cons y ys ih =>
   intro acc h h'
   rw[List.foldl_cons]
   refine ih _ ?_ λx hx=>h' x (List.mem_cons_of_mem _ hx)
   exact Eu (x:=⟨acc++sep.cps⟩) (y:=y) (Eu (x:=⟨acc⟩) (y:=sep) h hs) (h' y (List.mem_cons_self ..))
 cases xs with
 |nil=>show PyData.strOk Str.empty=true;decide +kernel
 |cons x xs=>exact go xs x.cps (hx x (List.mem_cons_self ..)) λy hy=>hx y (List.mem_cons_of_mem _ hy)
noncomputable def DM(p:Str×Str):Str:=p.1++p.2
noncomputable def AE(ps:List (Str×Str)):Str:=Txt.join "" (ps.map DM)
theorem Lq(p:Str×Str):((DM p).length:Int)=CN p:=by unfold DM CN;rw[MR];right
theorem JR(ps:List (Str×Str)):((((ps.map DM).map λx=>x.length).sum:Nat):Int)=Ag ps:=by
 induction ps with
 |nil=>rfl
 |cons p ps ih =>
  unfold Ag at ih ⊢
  simp only[List.map_cons,List.sum_cons]
  rw[<- ih,<- Lq]
  right
theorem Yg:∀ {vs:List Value},Bx C ρ h (ps.map AK) vs->∀ p∈ps,PyData.strOk p.1=true/\PyData.strOk p.2=true:=by
 induction ps with
 |nil=>intro _ _ p hp;cases hp
 |cons q ps ih =>
  intro vs hs p hp
  refine hs.cons_e λw ws a b=>?_
  rcases List.mem_cons.mp hp with rfl|hp
  . exact a.tup_e λuu uu uu uu uu hq=>hq.cons_e λuu uu q1 q2=>q2.cons_e λuu uu q2 uu=>q1.str_e λuu o1=>q2.str_e λuu o2=>⟨o1,o2⟩
  . exact ih b p hp
theorem QV(H:Aq C)(He:Hc env){f:Str}{tf:Tok}{es:List Expr}(hv:Ay C f (.str sep tf))(hf:env.kindOf f=some .globalImplicit)(pK:(f==("__debug__" : Str))=false)(hp:(B1.endLine==p.line)=true)(R:Lp C s)(he:es=[e])(hn:starEach [e] env=[(false,eval e env)])(k:wpAny (model C.prog C.w) A (eval e env) (λv s'=>wpAny (model C.prog C.w) A (call (.builtin "str.join") [.str sep tf,v]) Q E s') E s) :
 wpAny (model C.prog C.w) A (eval (.Call (.Attribute (.Name f p0) "join" B1) es [] p) env) Q E s:=by
 subst he
 rw[arm_eval_Call,show ∀ (n:Str) (p:Pos) nm AR,attributeBase (.Name n p) nm env AR=AR from λuu uu uu uu=>rfl]
 refine wpAny_bind (Yf H He hv hf pK R (wpAny_bind (wpAny_standAt ?_)))
 have XT:methodCallForm (1+0) (backTo p (starEach [e] env)) (backToKw p (keywordEach [] env))=true:=by rw[hn];rfl
 show wpAny _ _ (methodCall (.Name f p0) "join" B1 p env (.str sep tf) (1+0) (backTo p (starEach [e] env)) (backToKw p (keywordEach [] env))) _ _ _
 unfold methodCall
 rw[XT]
 refine wpAny_bind (wpAny_holding ?_)
 refine GM.join ?_
 dsimp only
 have KI:methodCallPos true (.Name f p0) env B1 p=pure p:=by
  unfold methodCallPos
  rw[hp];rfl
 rw[KI]
 refine wpAny_bind (wpAny_pure ?_)
 refine callWith_of (P:=λuu=>True) (by rw[hn];rfl) (λh uu=>⟨.machine,.inr (.inl rfl),.now⟩) ?_
 rw[hn]
 refine evalArgs_plain ?_
 have:=wpAny_items_cons (M:=model C.prog C.w) (A:=A) (E:=E) (s:=s) (env:=env) (pos:=p) (e:=e) (rest:=[]) (Q:=λvs s'=>True/\wpAny (model C.prog C.w) A (call (.builtin "str.join") ([.str sep tf]++vs) []) Q E s') (wpAny_mono k (λv s' hk=>wpAny_items_nil ⟨trivial,hk⟩) λuu uu z=>z) hn
 rw[hn] at this
 exact this
structure MT (scope:Scope):Prop where
 kind:scope.kind=.function
 es:scope.names.lookup ("EMPTYSTRING" : Str)=some NameKind.globalImplicit
 a:scope.names.lookup ("fws" : Str)=some NameKind.local
 b:scope.names.lookup ("part" : Str)=some NameKind.local
theorem ct(H:Aq C)(He:Hc env)(hS:MT scope){tf:Tok}(hv:Ay C "EMPTYSTRING" (.str "" tf))(hp:FH.all FI=true)(gU:(B1.endLine==p4.line)=true) :
 Yc C env scope (.Call (.Attribute (.Name "EMPTYSTRING" p0) "join" B1) [.Tuple [.Name "fws" p1,.Name "part" p2] kt p3] [] p4) "fws" "part" FH (λp y=>∃ t,y=.str (DM p) t):=by
 intro Cn code A' E' p t u Ai QU hh hm hn ha hb hold
 have hs:=List.all_eq_true.mp hp p hm
 unfold FI HO at hs
 rw[Bool.and_eq_true,decide_eq_true_eq,decide_eq_true_eq] at hs
 have bl:Hc (genEnv scope [] Cn code builtinsNs env):=⟨hS.kind,He.glob,rfl⟩
 refine QV H bl hv hS.es (by decide) gU hold rfl rfl ?_
 refine wpAny_Tuple ?_
 refine wpAny_items_cons (Uv bl hS.a hn ha (by decide) ?_)
 refine wpAny_items_cons (Uv bl hS.b hn hb (by decide) ?_)
 refine wpAny_items_nil ⟨(show 2<=sizeLine by decide),?_⟩
 refine join_tuple (ys:=[p.1,p.2]) (items:=#[.str p.1 t,.str p.2 u]) ⟨_,Heap.get?_push_size _ rfl,rfl,_,rfl⟩ (.cons _ _ (.cons _ _ .nil)) ?_ λt' k=>?_
 . show(p.1.length+(p.2.length+0))+2*0<=_
   omega
 . rw[kS]
   exact⟨⟨t',rfl⟩,B6 _ _ ⟨rfl,λb o e=>Heap.get?_push_of_some _ e⟩⟩
theorem kT{f:Value}{Q:Args->Shared->Prop}(h1:starEach [e1,e2] env=(false,eval e1 env)::starEach [e2] env)(h2:starEach [e2] env=(false,eval e2 env)::starEach [] env)(h:wpAny (model C.prog C.w) A (eval e1 env) (λv1 s1=>wpAny (model C.prog C.w) A (eval e2 env) (λv2 s2=>Q ⟨[v1,v2],[]⟩ s2) E s1) E s):wpAny (model C.prog C.w) A (evalArgs f true (backTo p (starEach [e1,e2] env)) []) Q E s:=by
 have it:wpAny (model C.prog C.w) A (spliced (backTo p (starEach [e1,e2] env))) (λvs s'=>Q ⟨vs,[]⟩ s') E s :=
  wpAny_items_cons (wpAny_mono h (λv1 s1 k1=>wpAny_items_cons (wpAny_mono k1 (λv2 s2 k2=>wpAny_items_nil k2) λuu uu z=>z) h2) λuu uu z=>z) h1
 rw[h1] at it ⊢
 exact evalArgs_plain it
structure JS (C:Cfg) (env:Env) (Aa:List Str) (t:Addr×Addr×Array Value) (scope:Scope):Prop where
 tab:t∈C.tabs
 code:env.code=.ref t.1
 coro:scope.isCoroutine=false
 clos:closureFor scope env=pure []
 cell:∀ y∈scope.names,y.2≠.cell
 zero:scope.names.lookup (".0" : Str)=some NameKind.local
 self:Aa[0]?=some ("self" : Str)
noncomputable def Uw(FH:List (Str×Str))(i:Nat):Int:=match FH[i]? with|some p=>CN p|none=>0
noncomputable def accFits(ps:List (Str×Str)):Bool:=ps.all FI&&decide (ps.length<=1000000)&&decide (Ag ps<=1000000)
noncomputable def Pu:SM:=λlc σ=>(IP lc).bind λl=>(Cj σ l).bind λa=>gd (accFits a.2) (.ret (.int (a.1+Ag a.2)),lc,σ)
theorem Sw(H:Aq C)(HC:Bg C)(HA:DV C)(HG:HJ C)(He:Bi env Aa)(GE:JS C env Aa t scope)(LS:MQ scope)(hl:Ay C "len" (.builtin "len"))(gV:Ay C "sum" (.builtin "sum"))(hk:env.kindOf "sum" = some .globalImplicit){ps:Pos} :
 E4 C (d+1) env Aa (.Return (some (.Call (.Name "sum" p0) [.GeneratorExp (.BinOp (.Call (.Name "len" r0) [.Name "fws" r1] [] r2) .Add (.Call (.Name "len" r3) [.Name "part" r4] [] r5) r6) [⟨.Tuple [.Name "fws" pa,.Name "part" pb] kt pt,.Name "self" ps,[],0⟩] scope pos,.Attribute (.Name "self" q0) "_initial_size" q1] [] p)) pr) Pu:=by
 intro lc σ fl lc' σ' Fg A Q E s ρ hA R lr kk
 refine oB Fg λl CV Fg=>oB Fg λac KH Fg=>oG Fg λGL e2=>?_
 have CV:=GG CV
 have KH:=B8 KH
 rcases ac with ⟨ini,FH⟩
 have GL:accFits FH=true:=GL
 unfold accFits at GL
 rw[Bool.and_eq_true,Bool.and_eq_true] at GL
 refine wpAny_Return_some ?_
 show wpAny _ _ (do callWith p (<- eval (.Name "sum" p0) env) [] (backTo p (starEach [_,_] env)) (backToKw p (keywordEach [] env))) _ _ _
 refine wpAny_bind (Yf H He.out gV hk (by decide) (λb o e n=>R.old b o e n) ?_)
 refine callWith_of (P:=λuu=>True) rfl (λh uu=>⟨.machine,.inr (.inl rfl),.now⟩) ?_
 refine kT rfl rfl ?_
 refine Uu H HC HA HG He GE.tab GE.code GE.coro GE.clos GE.cell GE.zero LS.a LS.b (by decide) LS.kind GE.self (by decide) (hA.mono (by exact Nat.le_add_left _ _)) R lr CV KH (cq H He.out LS hl GL.1.1) λa g o Hb fp wr St kE K ho pL pM pN kF W pO kC sW Yh=>?_
 have VD:=R.kept K
 have kU:=lr.go (K.step (ρ:=ρ))
 refine Attribute_any_ (wpAny_Name (Ig He GE.self CV kU λv qv=>?_) (by decide)) (by rw[arm_eval_Attribute];rfl)
 refine VD.acc_e KH qv λax dd es n n' vs e0 Uq hd he hs=>?_
 have ge:=CO (name:=attrName 6) he
 rw[(MF (k:=6) (ini:=ini) (ps:=FH) rfl).1] at ge
 (refine Am (ge) λw hw qw=>?_;clear ge)
 revert hw
 refine qw.int_e λti hw=>?_
 refine JM (VD.kin H) (CC Uq hd) HC.acGa HC.acGt HC.acMro (findObj_own HC.acDict HC.acAttr rfl hw) rfl ?_
 refine⟨trivial,?_⟩
 show wpAny _ _ (call (.builtin "sum") [.ref a,.int ini ti]) _ _ _
 have W':WalksS C.prog C.w A.in1 a fp wr (GenOnlyQ g) FH.length (λj y=>∃ p,FH[j]?=some p/\∃ t,y=.int (CN p) t) St:=W.of_in1.of_in1.of_in1
 have Ux:=W.frame 0 Hb Hb.heap (Hb.toks+1) pO (Nat.le_succ _) λuu uu uu e=>e
 refine VC (W'.self 0 _ _ _ Ux (sH a fp wr (GenOnlyQ g) FH.length _ St (Uw FH) (λi=>ini+Ag (FH.take i)) ⟨rfl,W',Ux,kC,?_,?_,?_,λs' t' hm=>?_⟩))
 . rintro i v ⟨p,hp,t,rfl⟩
   exact⟨t,by unfold Uw;rw[hp]⟩
 . show ini+Ag (FH.take 0)=ini
   simp[Ag]
 . intro i
   show ini+Ag (FH.take (i+1))=ini+Ag (FH.take i)+Uw FH i
   unfold Uw
   cases hp:FH[i]? with
   |some p=>rw[Jh p hp];dsimp only;omega
   |none =>
    have:=List.getElem?_eq_none_iff.mp hp
    rw[List.take_of_length_le (by right),List.take_of_length_le (by right)]
    dsimp only;omega
 . have K1:Kept C s { Hb with toks:=Hb.toks+1 }:=⟨K.keep,K.tab,K.size,K.gens,K.gold,K.drawn,K.os⟩
   have K':=K1.moved R hm pN ho pL pM kE kF
   show Q (.ret (.int (ini+Ag (FH.take FH.length)) t')) s'
   rw[List.take_length]
   exact Pj kk e2 _ _ ρ (R.kept K') (K'.step.of_nil) (lr.go K'.step) (.ret (.int _ _))
noncomputable def Pw:SM:=λlc σ=>(IP lc).bind λl=>(Cj σ l).bind λa=>gd (accFits a.2) (.ret (.str (AE a.2)),lc,σ)
theorem Sx(H:Aq C)(HC:Bg C)(HA:DV C)(HG:HJ C)(He:Bi env Aa)(GE:JS C env Aa t scope)(LS:MT scope)(hE:Ay C "EMPTYSTRING" (.str "" te))(hk:env.kindOf "EMPTYSTRING" = some .globalImplicit){ps:Pos}(pP:(B1.endLine==r4.line)=true)(pQ:(q0.endLine==p.line)=true) :
 E4 C (d+1) env Aa (.Return (some (.Call (.Attribute (.Name "EMPTYSTRING" p0) "join" q0) [.GeneratorExp (.Call (.Attribute (.Name "EMPTYSTRING" r0) "join" B1) [.Tuple [.Name "fws" r1,.Name "part" r2] sS r3] [] r4) [⟨.Tuple [.Name "fws" pa,.Name "part" pb] kt pt,.Name "self" ps,[],0⟩] scope pos] [] p)) pr) Pw:=by
 intro lc σ fl lc' σ' Fg A Q E s ρ hA R lr kk
 refine oB Fg λl CV Fg=>oB Fg λac KH Fg=>oG Fg λGL e2=>?_
 have CV:=GG CV
 have KH:=B8 KH
 rcases ac with ⟨ini,FH⟩
 have GL:accFits FH=true:=GL
 unfold accFits at GL
 rw[Bool.and_eq_true,Bool.and_eq_true,decide_eq_true_eq,decide_eq_true_eq] at GL
 refine wpAny_Return_some ?_
 refine QV H He.out hE hk (by decide) pQ (λb o e n=>R.old b o e n) rfl rfl ?_
 refine Uu H HC HA HG He GE.tab GE.code GE.coro GE.clos GE.cell GE.zero LS.a LS.b (by decide) LS.kind GE.self (by decide) (hA.mono (by omega)) R lr CV KH (ct H He.out LS hE GL.1.1 pP) λa g o Hb fp wr St kE K ho pL pM pN kF W pO kC sW Yh=>?_
 have W':WalksS C.prog C.w A.in1.in1 a fp wr (GenOnlyQ g) FH.length (λj y=>∃ p,FH[j]?=some p/\∃ t,y=.str (DM p) t) St:=W.of_in1.of_in1
 have sX:∀ p∈FH,PyData.strOk p.1=true/\PyData.strOk p.2=true:=Am (R.obj KH) λpp uu ob=>LY ob λuu uu uu uu uu uu uu hs=>Yg hs
 have Yi:FH.length<=sizeLine:=Nat.le_trans GL.1.2 (by decide)
 refine SC.joinGen W' Yh pO kC sW (λi v h=>by obtain⟨p,_,t,rfl⟩:=h;exact(B6 _ _ rfl)) (λs' li hm KC=>?_) Yi
 have Yj:li.map (·.1)=FH.map DM:=by
  refine List.ext_getElem? λi=>?_
  have hz:=KC.1
  rw[List.size_toArray] at hz
  have QK:li.length=FH.length:=by rw[<- hz];simp[strValues]
  by_cases hi:i<FH.length
  . have e1:(strValues li).toArray[i]?=some (.str (li[i]'(by omega)).1 (li[i]'(by omega)).2):=by
     simp[strValues,QK,hi]
    obtain⟨p,hp,t,e2⟩:=KC.2 i _ e1
    rw[List.getElem?_map,List.getElem?_map,hp,List.getElem?_eq_getElem (by omega)]
    injection e2 with e3 _
    simp[e3]
  . rw[List.getElem?_eq_none (by rw[List.length_map];omega),List.getElem?_eq_none (by rw[List.length_map];omega)]
 rw[Yj]
 refine⟨joinOk_of ?_,λt' k=>?_⟩
 . have:=JR FH
   have h0:(("" : Str)).length=0:=by decide
   rw[h0]
   omega
 . have K':=K.moved R hm pN ho pL pM kE kF
   have K1:Kept C s { s' with toks:=k }:=⟨K'.keep,K'.tab,K'.size,K'.gens,K'.gold,K'.drawn,K'.os⟩
   refine Pj kk e2 _ _ ρ (R.kept K1) (K1.step.of_nil) (lr.go K1.step) (.ret (.str _ _ ?_))
   refine MS (by decide +kernel) λx hx=>?_
   (refine Am (List.mem_map.mp hx) λq hq FP=>?_;subst FP)
   exact Eu (sX q hq).1 (sX q hq).2
structure Hd (C:Cfg) (fl fs ff:Addr):Prop where
 len:findIn C.K (.ref C.ACC) "__len__" = some (some (.ref fl))
 BW:typeIn C.K (.ref fl)=some (.type "function")
 bool:findIn C.K (.ref C.ACC) "__bool__" = some none
 str:findIn C.K (.ref C.ACC) "__str__" = some (some (.ref fs))
 NW:typeIn C.K (.ref fs)=some (.type "function")
 fstr:findIn C.K (.ref C.VF) "__str__" = some (some (.ref ff))
 fstrF:typeIn C.K (.ref ff)=some (.type "function")
noncomputable abbrev FM:=List AV->St->Option (AV×St)
variable{FF LF SF:FM}
noncomputable def QW(LF:FM)(l:Nat)(σ:St):Option (Int×St):=(LF [.loc l] σ).bind λp=>p.1.int?.bind λn=>gd (decide (0<=n/\n<1000000000)) (n,p.2)
noncomputable def BW(LF:FM):FM:=λxs σ=>(I5 xs).bind λx =>
 (x.str?.bind λy=>gd (decide (y.length<=1000000)) (AV.int y.length,σ)).or
 ((x.loc?.bind λl=>(Cj σ l).bind λ_=>(QW LF l σ).map λp=>(AV.int p.1,p.2)).or
 ((Bq σ x).bind λys=>gd (decide (ys.length<=1000000)) (AV.int ys.length,σ)))
section
variable{fl fs:Addr}
theorem QX(H:Aq C)(HS:Hd C fl fs ff)(DL:Bp C d (.ref fl) LF){n:Int}(hA:EL C d A)(R:Rel C ρ σ s)(q:VR C ρ s.heap (.loc l) v)(hl:σ[l]?=some (.acc ini ps))(h:QW LF l σ=some (n,σ'))(k:∀ t s' Ar,Rel C Ar σ' s'->Step C [] ρ Ar s.heap s'.heap->Q (.int n t) s'):wpAny (model C.prog C.w) A (Builtin.«len» ⟨[v],[]⟩) (λfin s'=>∃ v,fin=.done (.ret v)/\Q v s') E s:=by
 refine oB h λp e h=>oB h λn' e' h=>oG h λhb h=>?_
 have hb:=of_decide_eq_true hb
 have en:n'=n:=congrArg (·.1) h
 have k:∀ t s' Ar,Rel C Ar p.2 s'->Step C [] ρ Ar s.heap s'.heap->Q (.int n' t) s':=λt s' Ar R' S'=>en▸k t s' Ar ((congrArg (·.2) h:p.2=σ')▸R') S'
 clear h en
 refine R.acc_e hl q λa dd es n1 n2 vs e0 ho hd he hs=>?_
 unfold Builtin.«len»
 refine wpAny_bind (m:=oneArg "len" _) (wpAny_pure ?_)
 refine wpAny_bind (m:=callSpecial? (.ref a) (Str.ofString "__len__")) ?_
 refine special_fn (R.kin H) (CC ho hd) HS.len HS.BW ?_
 refine DL _ _ _ _ e A _ E s ρ [.ref a] hA R (.cons (.loc e0) .nil) λv s' Ar R' S' q'=>?_
 refine q'.int_of e' λt=>?_
 refine wpAny_bind (wpAny_holding (wpAny_pure ?_))
 refine wpAny_bind (wpAny_letGo ?_)
 show wpAny _ _ (if n'<0 then _ else _) _ _ _
 rw[if_neg (Int.not_lt.mpr hb.1)]
 show wpAny _ _ (if n' ≥ 2 ^ 63 then _ else _) _ _ _
 rw[if_neg (by omega)]
 exact wpAny_bind (wpAny_mkInt (wpAny_pure ⟨_,rfl,k _ _ _ R'.toks S'⟩))
theorem cx(H:Aq C)(HS:Hd C fl fs ff)(DL:Bp C d (.ref fl) LF):Bp C (d+1) (.builtin "len") (BW LF):=by
 intro xs σ x σ' hf A Q E s ρ vs hA R q k
 refine oB hf λy e0 hf=>?_
 revert k
 refine q.arg1_e e0 λv q1 k=>oO hf (λhf=>oB hf λz e1 hf=>oG hf λhz e=>?_) λhf=>oO hf (λhf=>oB hf λl el hf=>oB hf λac hl hf=>oM hf λp e1 e2=>?_) λhf=>oB hf λys e1 hf=>oG hf λhz e=>?_
 . have hz:=of_decide_eq_true hz
   exact q1.str_of e1 λt ok=>PyProof.Rows.len_str (by omega) (Hz k e _ _ ρ R.toks .refl (.int _ _))
 . refine Calls.call_function_entry kind_len plain_len entry_len (args_len1 _) ?_
   exact QX H HS DL hA.in1 R (AV.loc_inv el▸q1) (B8 hl) e1 λt s' Ar R' S'=>Hz k e2 _ s' Ar R' S' (.int _ _)
 . refine R.asList_e q1 e1 λa vs n ho hs=>?_
   have hz:=of_decide_eq_true hz
   refine call_len_list (IsL.isList ho) (by rw[List.size_toArray,hs.length];omega) ?_
   rw[List.size_toArray,hs.length]
   exact Hz k e _ _ ρ R.toks .refl (.int _ _)
theorem cy(H:Aq C)(HS:Hd C fl fs ff)(DL:Bp C d (.ref fl) LF){n:Int}{Q:Bool->Shared->Prop}(hA:EL C (d+1) A)(An:Rel C ρ σ s)(AA:VR C ρ s.heap (.loc l) v)(hl:σ[l]?=some (.acc ini ps))(e2:QW LF l σ=some (n,σ₂))(kk:∀ s' Ar,Rel C Ar σ₂ s'->Step C [] ρ Ar s.heap s'.heap->Q (n != 0) s'):wpAny (model C.prog C.w) A (truthy v) Q E s:=by
 refine An.acc_e hl AA λa dd es n1 n2 vs e0 ho hd he hs=>?_
 have sp:∀ {nm:Str} {r:Option Value},findIn C.K (.ref C.ACC) nm=some r->Looks (model C.prog C.w) s.heap (specialOf (.ref a) nm) r:=λe=>(CC ho hd).type.andThen (looks_findIn (An.kin H) e)
 have nb:Looks (model C.prog C.w) s.heap (callSpecial? (.ref a) "__bool__") none:=by
  unfold callSpecial?
  exact(sp HS.bool).andThen .now
 refine wpAny_bind (nb.here (wpAny_bind ((sp HS.len).here ?_)))
 dsimp -iota only[Option.isNone]
 rw[if_neg Bool.false_ne_true]
 refine wpAny_bind (wpAny_runValue (codeAny_builtin entry_len ?_))
 rw[Around.under_plainId plain_len _]
 refine wpAny_mono (QX H HS DL hA.in1 An (.loc e0) hl e2 (Q:=λv s'=>∃ t Ar,v=.int n t/\Rel C Ar σ₂ s'/\Step C [] ρ Ar s.heap s'.heap) λt s' Ar R' S'=>(B6 t Ar ⟨rfl,R',S'⟩)) (λfin s' h'=>?_) λuu uu z=>z
 refine Am h' λv ev z=>Dt z λt Ar e4 R' S'=>?_
 rw[ev,e4]
 exact wpAny_pure (kk s' Ar R' S')
noncomputable def nR(LF:FM)(f:EM):TM:=λlc σ=>(f lc σ).bind λp=>p.1.loc?.bind λl=>(Cj p.2 l).bind λ_=>(QW LF l p.2).map λp=>(p.1 != 0,p.2)
noncomputable def gW:AO->Bool
 | .fmt ..=>true
 | .list _=>false
 | .acc ..=>false
 | .ghost=>false
 | .gen ..=>false
 | .out _=>false
 | .cell ..=>false
 | .ext ..=>false
noncomputable def Uy(σ:St)(l:Nat):Option Unit:=σ[l]?.bind λo=>gd (gW o) ()
theorem VE(h:Uy σ l=some u):∃ ml cw Cr sp ln ac,σ[l]?=some (.fmt ml cw Cr sp ln ac):=oB h λo e h=>oG h λz uu=>by
 cases o with
 |fmt ml cw Cr sp ln ac=>exact(jM ml cw Cr sp ln ac e)
 | _=>exact ft z
noncomputable def retStr(o:Option (AV×St)):Option (AV×St):=o.bind λp=>p.1.str?.map λy=>(AV.str y,p.2)
noncomputable def NW(SF FF:FM):FM:=λxs σ=>(I5 xs).bind λx =>
 (x.str?.map λy=>(AV.str y,σ)).or
 (x.loc?.bind λl=>((Cj σ l).bind λ_=>retStr (SF [.loc l] σ)).or ((Uy σ l).bind λ_=>retStr (FF [.loc l] σ)))
theorem L6{S:PySem.Spec}(hs:∀ (A:Around) (R:Result->Shared->Prop) (s:Shared),S A R s ->
 wpAny (model C.prog C.w) A.in1 (Builtin.Str.strOf v) (λr s'=>R (.ok (.ret r)) s') (λe s'=>R (.error e) s') s):MeetsIn C.prog C.w (Builtin.«str.__new__» ⟨[.type "str",v],[]⟩) S:=by
 refine MeetsIn.of_wp λA R s h=>?_
 rw[str_new_tree v]
 refine wpAny_bind (wpAny_pure ?_)
 refine wpAny_bind (wpAny_of_eq isSubtype_str_str ?_)
 exact wpAny_bind (wpAny_mono (hs A R s h) (λr s' h'=>wpAny_pure ⟨_,rfl,h'⟩) λuu uu e=>e)
theorem QY(X:C.K.In s.heap)(I:W.InstAt s.heap a ox Cl od)(hf:findIn C.K (.ref Cl) "__str__" = some (some (.ref f)))(ht:typeIn C.K (.ref f)=some (.type "function"))(hu:A.units+2<cLine)(k:wpAny (model C.prog C.w) A.in1.in1 (call (.ref f) [.ref a]) (λv s'=>∃ x t,v=.str x t/\Q v s') E s):wpAny (model C.prog C.w) A (call (.type "str") [.ref a]) Q E s:=by
 refine callType_newIn F.called_str (by decide) (F.typeCall_str_1 _) (F.newCall_str_1 _) (λobj=>F.args_object_init_2 obj _) F.entry_str_new
  (L6 (S:=λA' R s'=>wpAny (model C.prog C.w) A'.in1 (Builtin.Str.strOf (.ref a)) (λr s'=>R (.ok (.ret r)) s') (λe s'=>R (.error e) s') s') λA R s h=>h) ?_
 unfold Builtin.Str.strOf
 rw[if_neg (by simp -iota [Builtin.Str.isExactStr])]
 refine wpAny_bind (wpAny_cRoomFor (by show A.units+1+1<cLine;right) ?_)
 refine wpAny_bind (special_fn X I hf ht (wpAny_mono k (λv s' h'=>?_) λuu uu z=>z))
 (refine Es (h') λx t FP hq=>?_;clear h';subst FP)
 refine wpAny_bind (wpAny_pure ?_)
 exact wpAny_pure ⟨typeIs_str _ _ _,hq⟩
theorem Yk(H:Aq C)(HS:Hd C fl fs ff)(DS:Bp C d (.ref fs) SF)(DF:Bp C d (.ref ff) FF):Bp C (d+2) (.type "str") (NW SF FF):=by
 intro xs σ x σ' hf A Q E s ρ vs hA R q k
 have hu:A.units+2<cLine:=by have:=hA.2.2.1;omega
 refine oB hf λy e0 hf=>?_
 revert k
 refine q.arg1_e e0 λv q1 k=>oO hf (λhf=>oM hf λz e1 e=>?_) λhf=>oB hf λl el hf=>?_
 . exact q1.str_of e1 λt ok=>P.str_of_str (Hz k e _ _ ρ R .refl (.str _ _ ok))
 . have q1:=AV.loc_inv el▸q1
   refine oO hf (λhf=>oB hf λac hl hf=>oB hf λp e1 hf=>oM hf λz ez e=>?_) λhf=>oB hf λu hl hf=>oB hf λp e1 hf=>oM hf λz ez e=>?_
   . refine R.acc_e (B8 hl) q1 λa dd es n1 n2 vs e0 ho hd he hs=>?_
     refine QY (R.kin H) (CC ho hd) HS.str HS.NW hu ?_
     exact DS _ _ _ _ e1 _ _ E s ρ [.ref a] hA.in1.in1 R (.cons (.loc e0) .nil) λv s' Ar R' S' q'=>q'.str_of ez λt ok=>(B6 _ _ ⟨rfl,Hz k e _ s' Ar R' S' (.str _ _ ok)⟩)
   . refine bw (VE hl) λml cw Cr sp ln ac hl=>R.fmt_e hl q1 λa dd es n e0 ho hd he=>?_
     refine QY (R.kin H) (Ex ho hd) HS.fstr HS.fstrF hu ?_
     exact DF _ _ _ _ e1 _ _ E s ρ [.ref a] hA.in1.in1 R (.cons (.loc e0) .nil) λv s' Ar R' S' q'=>q'.str_of ez λt ok=>(B6 _ _ ⟨rfl,Hz k e _ s' Ar R' S' (.str _ _ ok)⟩)
end
section
open Builtin Builtin.ObjectAttr Builtin.Getset_descriptor
theorem VG(self:Value):refuseLoop self "__setattr__" [.type "list",.type "object"]=pure ():=by
 unfold refuseLoop
 left
structure CZ (C:Cfg) (Cl:Addr):Prop where
 sa:findIn C.K (.ref Cl) "__setattr__" = some (some (.builtin "object.__setattr__"))
 mro:∃ cd,clsIn C.K Cl=some cd/\cd.hasDict=true/\(cd.mro=[.ref Cl,.type "list",.type "object"]\/cd.mro=[.ref Cl,.type "object"])
section
variable{x:Addr}
set_option tactic.hygienic true
theorem cz(H:CZ C Cl)(X:C.K.In s.heap)(I:W.InstAt s.heap x ox Cl (some (dictOf es n)))(hd:ox.dict=some dx)(hD:s.heap.get? dx=some (dictOf es n))(ht:takerIn C.K Cl name=some none)(hl:(getL name es).isSome=true)(hz:(W.putL name (PyData.keyHash C.w.params name) (.str name s.toks) v es).length<=1000)(k:∀ h',Heap.SameBut dx s.heap h'->h'.get? dx=some (dictOf (W.putL name (PyData.keyHash C.w.params name) (.str name s.toks) v es) (putN name es n))->R (.ok (.ret .none)) { s with heap:=h',toks:=s.toks+1 }) :
 codeAny (model C.prog C.w) A (.call (.builtin "object.__setattr__") ⟨[.ref x,.str name tk,v],[]⟩) R s:=by
 have SF:=PySem.F.store_object
 (refine Ci (H.mro) λcd hc uM Vx=>?_)
 have sub:Looks (model C.prog C.w) s.heap (isInstance (.ref x) (.type "object")) true:=I.type.andThen (looks_mroIn X (by unfold mroIn;rw[hc,Option.bind_some];rcases Vx with e|e<;>rw[e]<;>rfl))
 refine codeAny_call_builtin SF.slot.plain SF.entry (@check_slot (model C.prog C.w) _ _ s "object.__setattr__" "object" "__setattr__" (.ref x) [.str name tk,v] [] _ SF.kind SF.split sub (SF.args (.ref x) (.str name tk) v) ?_)
 (refine Am (Option.bind_eq_some_iff.mp ht) λPm ha hr=>?_)
 have hm:Looks (model C.prog C.w) s.heap (mroOf (.ref Cl)) cd.mro:=(looks_clsIn X hc).andThen .now
 have L3:Looks (model C.prog C.w) s.heap (storeTaker? Pm) none:=by
  cases Pm with
  |none=>exact .now
  |some a =>
   (refine Am (Option.map_eq_some_iff.mp hr) λb hb eY=>?_)
   refine(looks_takesIn X hb).andThen ?_
   cases b
   . exact .now
   . cases eY
 rw[osa_eq,refuse_eq]
 refine wpAny_bind (wpAny_bind (I.type.here (wpAny_bind (hm.here ?_))))
 have pass:refuseLoop (.ref x) "__setattr__" cd.mro=pure ():=by
  rcases Vx with e|e
  . rw[e,refuseLoop_ref];exact VG _
  . rw[e,refuseLoop_ref];exact SF.passes _
 rw[pass]
 refine wpAny_pure (wpAny_bind (I.type.here (wpAny_bind ((looks_findIn X ha).here (wpAny_bind (L3.here ?_))))))
 have DW:=Heap.SameBut.update s.heap dx (Obj.putName name (PyData.keyHash C.w.params name) (.str name s.toks) v)
 have D':(s.heap.update dx (Obj.putName name (PyData.keyHash C.w.params name) (.str name s.toks) v)).get? dx=some (dictOf (W.putL name (PyData.keyHash C.w.params name) (.str name s.toks) v es) (putN name es n)):=by
  rw[Heap.get?_update_self _ hD (by rw[putName_dict];rfl),putName_dict]
 obtain⟨hx,JF,hn,-⟩:=I
 obtain⟨oc,odi,oda,uN⟩:=ox
 dsimp only at JF hd
 subst JF hd
 refine wpAny_bind (wpAny_pure (wpAny_bind (wpAny_bind (wpAny_loadPart hx (wpAny_bind ((looks_clsIn X hc).here ?_))))))
 rw[uM]
 refine wpAny_pure (a:=some dx) (wpAny_bind (wpAny_pure (wpAny_bind ?_)))
 unfold nsSet
 refine wpAny_bind (wpAny_bind (wpAny_askSetting (wpAny_pure (wpAny_bind (wpAny_mkText (wpAny_bind (wpAny_loadPart hD ?_)))))))
 dsimp only[dictOf]
 have c:(!es.toArray.any (·.key.isStr name)&&es.toArray.any (·.refKey))=false:=by
  unfold getL at hl
  rw[<- Array.any_toList,<- Array.any_toList]
  split at hl
  . rename_i en he
    rw[List.any_eq_true.mpr ⟨en,List.mem_of_find?_eq_some he,List.find?_some he⟩];rfl
  . split at hl
    . cases hl
    . rename_i z;rw[Bool.not_eq_true] at z;rw[z,Bool.and_false]
 rw[aRefKeyMayBeTheName_at,c]
 refine wpAny_updatePart hD ?_
 refine wpAny_bind (wpAny_lookBehind D' (pastItsLine_dict (by rw[List.size_toArray,sizeLine_eq];omega)) ?_)
 exact wpAny_pure (k _ DW D')
set_option tactic.hygienic false
theorem Mg{Q:Unit->Shared->Prop}(H:CZ C Cl)(X:C.K.In s.heap)(I:W.InstAt s.heap x ox Cl (some (dictOf es n)))(hd:ox.dict=some dx)(hD:s.heap.get? dx=some (dictOf es n))(ht:takerIn C.K Cl name=some none)(hl:(getL name es).isSome=true)(hz:(W.putL name (PyData.keyHash C.w.params name) (.str name (s.toks+1)) v es).length<=1000)(k:∀ h',Heap.SameBut dx s.heap h'->h'.get? dx=some (dictOf (W.putL name (PyData.keyHash C.w.params name) (.str name (s.toks+1)) v es) (putN name es n))->Q () { s with heap:=h',toks:=s.toks+2 }) :
 wpAny (model C.prog C.w) A (setAttr (.ref x) name v) Q E s :=
 set_plain X I H.sa (cz (s:={ s with toks:=s.toks+1 }) H X I hd hD ht hl hz λh' a b=>k h' a b)
end
noncomputable def Yl(g f:EM):SM:=λlc σ=>(f lc σ).bind λp=>p.1.int?.bind λi=>(g lc p.2).bind λq=>q.1.loc?.bind λl=>(Cj q.2 l).map λa=>(.next,lc,q.2.set l (.acc i a.2))
theorem cA{i:Int}{t:Value}{tk:Tok}(he:CX C ρ h (C6 ini) es)(q:VR C ρ h (.int i) v):(getL "_initial_size" es).isSome=true/\CX C ρ h (C6 i) (W.putL "_initial_size" hsh t v es)/\(W.putL "_initial_size" hsh t v es).length<=1000:=by
 unfold C6 at he ⊢
 cases he with | @cons k x tt w r nS a b =>
 cases b
 have e:(Value.str ("_initial_size" : Str) tt).isStr "_initial_size" = true:=by simp[Value.isStr]
 refine⟨?_,?_,?_⟩
 . unfold getL
   rw[List.find?_cons_of_pos (by exact e)]
   rfl
 . unfold W.putL
   dsimp only
   rw[if_pos e]
   exact .cons q .nil
 . unfold W.putL
   dsimp only
   rw[if_pos e]
   simp
set_option tactic.hygienic true
theorem cB(H:Aq C)(HS:CZ C C.ACC)(ht:takerIn C.K C.ACC "_initial_size" = some none){o:Expr}{f:EM}(D0:AQ C d env Aa o g)(D:AQ C d env Aa e f)(hs:swapsWith e (some (.Attribute o "_initial_size" p')) p.line env=pure false) :
 E4 C d env Aa (.Assign [.Attribute o "_initial_size" p'] e p) (Yl g f):=by
 intro lc σ fl lc' σ' hf A Q E s ρ hA R lr kk
 refine oB hf λy e1 hf=>oB hf λi ei hf=>oB hf λz e2 hf=>oB hf λl el hf=>oM hf λac hl e3=>?_
 refine plainObj_wpAny_Assign_Attribute (D _ _ _ _ e1 A _ E s ρ hA R lr λv s₁ Ad An Aj AA=>D0 _ _ _ _ e2 A _ E s₁ Ad hA An (lr.go Aj) λov Ai AF Az Au BL=>?_) hs
 have BL:VR C AF Ai.heap (.loc l) ov:=AV.loc_inv el▸BL
 have AA:VR C Ad s₁.heap (.int i) v:=AV.int_inv ei▸AA
 refine Az.acc_e (B8 hl) BL λa dd es n1 n2 vs e0 ho hd he hs=>?_
 have P:=cA (t:=.str "_initial_size" (Ai.toks+1)) (tk:=0) (hsh:=PyData.keyHash C.w.params "_initial_size") he (AA.go Au)
 refine Mg HS (Az.kin H) (CC ho hd) rfl hd ht P.1 P.2.2 λh' DW QZ=>?_
 have S:Step C [] AF AF Ai.heap h':=Dk (.inr ⟨_,List.mem_of_getElem? e0,.inr rfl⟩) DW
 have Gj:a≠dd:=(QJ ho hd).symm
 (refine AS (Az.upd (n:=Ai.toks+2) e0 (.inr rfl) DW (.acc ((DW.2 _ Gj).trans ho) QZ (P.2.1.go S) (hs.go S)) rfl) λR' S'=>?_)
 exact Pj kk e3 _ _ AF R' ((Aj.trans Au).trans S').of_nil (lr.go ((Aj.trans Au).trans S')) .next
end
structure JT (C:Cfg) (fI:Addr):Prop where
 obj:∃ oc od cd sl,C.K.lookup C.ACC=some ⟨oc,od,.cls cd,sl⟩/\cd.hasDel=false/\(sl.toList[4]?).join=some (.builtin "list.__new__")/\cd.mro=[.ref C.ACC,.type "list",.type "object"]
 call:specialIn C.K (.ref C.ACC) "__call__" = some (some (.builtin "type.__call__"))
 typ:instIn C.K (.ref C.ACC) (.type "type")=some true
 init:findIn C.K (.ref C.ACC) "__init__" = some (some (.ref fI))
 initF:typeIn C.K (.ref fI)=some (.type "function")
theorem cC(a v:Value):argsOk "list.__new__" ⟨[a,v],[]⟩:=by unfold argsOk;left
theorem cD:builtinKind "list.__new__" = some .builtinFn:=by decide +kernel
theorem Ym:splitId "list.__new__" = some ("list", "__new__"):=by decide +kernel
noncomputable abbrev Fu(C:Cfg)(dx:Addr):Obj:=⟨.ref C.ACC,some dx,.seq #[] 0,#[]⟩
section
variable{g:Array GenState}{d:Drawn}{t:Nat}
theorem Ot(H:JT C fI)(X:C.K.In h):∃ cd,clsIn C.K C.ACC=some cd/\cd.hasDel=false/\Looks (model C.prog C.w) h (mroOf (.ref C.ACC)) [.ref C.ACC,.type "list",.type "object"]/\Looks (model C.prog C.w) h (Bind.madeBy (.ref C.ACC)) (some "list.__new__")/\Looks (model C.prog C.w) h (Bind.staticBase (.ref C.ACC)) (.ref C.ACC) /\
 Looks (model C.prog C.w) h (isSubtype (.ref C.ACC) (.ref C.ACC)) true/\Looks (model C.prog C.w) h (isSubtype (.ref C.ACC) (.type "list")) true:=by
 (refine LY (H.obj) λoc od cd sl ho e2 e3 hl=>?_)
 have hc:clsIn C.K C.ACC=some cd:=by unfold clsIn;rw[ho]
 have hm:Looks (model C.prog C.w) h (mroOf (.ref C.ACC)) cd.mro:=(looks_clsIn X hc).andThen .now
 rw[hl] at hm
 have Yn:Looks (model C.prog C.w) h (Bind.madeBy (.ref C.ACC)) (some "list.__new__"):=by
  intro A Q E s k q
  unfold Bind.madeBy
  refine wpAny_bind (hm A _ E s k ?_)
  rw[List.forIn_cons]
  refine wpAny_bind (wpAny_bind (wpAny_bind (wpAny_bind (wpAny_loadPart (k _ _ (X _ _ ho)) (wpAny_pure ?_)))))
  dsimp -iota only
  rw[<- Array.getElem?_toList,e3]
  exact wpAny_pure (wpAny_pure (wpAny_pure q))
 refine⟨cd,hc,e2,hm,Yn,?_,looks_mroIn X ?_,looks_mroIn X ?_⟩
 . intro A Q E s k q
   unfold Bind.staticBase
   refine wpAny_bind (hm A _ E s k ?_)
   rw[List.forIn_cons]
   exact wpAny_bind (wpAny_bind (wpAny_bind (Yn A _ E s k (wpAny_pure (wpAny_pure (wpAny_pure q))))))
 . unfold mroIn;rw[hc,Option.bind_some,hl];simp
 . unfold mroIn;rw[hc,Option.bind_some,hl];simp
theorem kW:(builtinKind "list.__new__",splitId "list.__new__")=(some .builtinFn,some ("list", "__new__")):=by rw[cD,Ym]
theorem cF(H:JT C fI)(X:C.K.In h)(hq:R (.ok (.ret (.ref (h.objs.size+1)))) ⟨(h.push emptyDict).push (Fu C h.objs.size),g,d,t,os⟩) :
 codeAny (model C.prog C.w) A (.call (.builtin "list.__new__") ⟨[.ref C.ACC,v],[]⟩) R ⟨h,g,d,t,os⟩:=by
 (refine gv (Ot H X) λcd hc kX hm Yn base self top=>?_)
 refine Am (Po hc) λoD uO jO=>?_
 have eQ:=X _ _ uO
 refine codeAny_of_tree ?_
 show wpAny _ A.in1 (do checkBuiltinCall "list.__new__" ⟨[.ref C.ACC,v],[]⟩;again (.builtin "list.__new__" ⟨[.ref C.ACC,v],[]⟩)) _ _ _
 refine wpAny_bind ?_
 have ha:=cC (.ref C.ACC) v
 delta checkBuiltinCall
 refine kW.symm▸?_
 show wpAny _ _ (isType _ >>= _) _ _ _
 refine wpAny_bind (ks_wpAny_isType_cls eQ jO ?_)
 rw[if_neg (by decide)]
 refine wpAny_bind (top.at ?_)
 rw[if_neg (by decide)]
 refine wpAny_bind (base.at (wpAny_bind (Yn.at ?_)))
 dsimp only
 rw[if_neg (by decide +kernel)]
 have kY:wpAny (model C.prog C.w) A.in1 (again (.builtin "list.__new__" ⟨[.ref C.ACC,v],[]⟩)) (λfin s'=>match fin with | .done f=>R (.ok f) s' | .again c'=>c'.quiet=true/\codeAny (model C.prog C.w) A c' R s') (λe s'=>R (.error e) s') ⟨h,g,d,t,os⟩:=by
  refine wpAny_pure ⟨plainId_quiet F.plain_list_new _,codeAny_builtin_stack F.entry_list_new rfl λp st=>?_⟩
  rw[Around.under_plainId F.plain_list_new _]
  dsimp only
  rw[owner_list_new]
  refine wpAny_bind (ks_wpAny_isType_cls eQ jO ?_)
  rw[if_neg (by decide)]
  refine wpAny_bind (top.at ?_)
  rw[if_neg (by decide)]
  refine wpAny_bind (wpAny_pure ?_)
  rw[if_neg (show ¬ (!typeHasDict (Value.ref C.ACC))=true from Bool.false_ne_true)]
  refine wpAny_bind (wpAny_newObj_type ?_ (by size_fits))
  dsimp -iota only
  refine wpAny_bind ?_
  show wpAny _ _ (newObjAsIs _ _ _) _ _ _
  unfold newObjAsIs classHasDel
  refine wpAny_bind (wpAny_alloc (wpAny_bind (wpAny_bind (wpAny_load (Heap.get?_push_of_some _ (Heap.get?_push_of_some _ eQ)) ?_))))
  rw[jO]
  refine wpAny_pure ?_
  rw[kX]
  refine wpAny_pure (wpAny_pure ?_)
  show R _ _
  rw[Heap.size_push]
  exact hq
 cases pR:Manifest.signature? "list.__new__" with
 |none=>exact wpAny_pure kY
 |some sig =>
  simp -iota only[argsOk,pR] at ha
  have h2:Bind.checkArgs "list.__new__" sig ⟨[.ref C.ACC,v],[]⟩=pure ():=ha
  show wpAny _ _ (Bind.checkArgs "list.__new__" sig ⟨[.ref C.ACC,v],[]⟩) _ _ _
  rw[h2];exact wpAny_pure kY
theorem Yo(H:JT C fI)(X:C.K.In h)(hq:codeAny (model C.prog C.w) (A.under (.builtin "type.__call__" ⟨[.ref C.ACC,v],[]⟩)) (.call (.ref fI) ⟨[.ref (h.objs.size+1),v],[]⟩) (InitBack (h.objs.size+1) R) ⟨(h.push emptyDict).push (Fu C h.objs.size),g,d,t,os⟩) :
 codeAny (model C.prog C.w) A (.call (.ref C.ACC) ⟨[v],[]⟩) R ⟨h,g,d,t,os⟩:=by
 (refine gv (Ot H X) λcd hc kX hm Yn base self top=>?_)
 obtain⟨oc,od,uC,sl,hK,-,-,-⟩:=H.obj
 have hC:=X _ _ hK
 have call:=looks_specialIn (M:=model C.prog C.w) X H.call
 have typ:=looks_instIn (M:=model C.prog C.w) X H.typ
 refine codeAny_of_tree ?_
 show wpAny _ _ (callAny (.ref C.ACC) _) _ _ _
 refine nd_load hC ?_
 show wpAny _ _ (callAny.viaDunder (.ref C.ACC) _) _ _ _
 unfold callAny.viaDunder
 refine wpAny_bind (call.at ?_)
 dsimp only
 rw[tc_bind]
 refine wpAny_bind (wpAny_pure (wpAny_bind (wpAny_pure ?_)))
 refine wpAny_pure (a:=Fin.again (.call (.builtin "type.__call__") ⟨[.ref C.ACC,v],[]⟩)) (And.intro rfl ?_)
 refine codeAny_call_builtin_at (Code.quiet_builtin _ (by decide +kernel)) entry_typeCall (check_slot tc_kind tc_split typ (tc_args _ _ _) ?_)
 unfold Builtin.«type.__call__»
 repeat (first|with_reducible refine sJ (show ¬ (List.isEmpty (_::_)=true) from Bool.false_ne_true) ?_|with_reducible refine wpAny_call ?_|lk)
 refine cF H X ?_
 have k:∀ b o,h.get? b=some o->((h.push emptyDict).push (Fu C h.objs.size)).get? b=some o:=λb o e=>Heap.get?_push_of_some _ (Heap.get?_push_of_some _ e)
 have hx:((h.push emptyDict).push (Fu C h.objs.size)).get? (h.objs.size+1)=some (Fu C h.objs.size):=by heap_get
 have t1:Looks (model C.prog C.w) ((h.push emptyDict).push (Fu C h.objs.size)) (typeOf (.ref (h.objs.size+1))) (.ref C.ACC):=(Looks.ld hx).andThen .now
 have s1:=self.keeps k
 have i1:=(looks_findIn (M:=model C.prog C.w) X H.init).keeps k
 have b1:=(bind_fn (M:=model C.prog C.w) X (.ref (h.objs.size+1)) H.initF).keeps k
 unfold isInstance callSpecial? specialOf
 repeat (first|with_reducible refine wpAny_call ?_|lk)
 refine codeAny_mono hq λr s' z=>?_
 rcases r with e|(v | _ | _ | _)<;>first|exact z|exact z.elim|skip
 obtain⟨rfl,z⟩:=z
 exact wpAny_pure (wpAny_pure z)
end
theorem Yp{c:Value}{items:Array Value}{Q:Fin->Shared->Prop}(ho:s.heap.get? a=some ⟨c,dd,.seq items n,sl⟩)(hz:items.size<=sizeLine)(k:Q (.done (.ret .none)) { s with heap:=s.heap.update a (Obj.mapSeq λuu=>#[]) }):wpAny (model C.prog C.w) A (Builtin.«list.__init__» ⟨[.ref a],[]⟩) Q E s:=by
 obtain⟨hp,g,dr,tk,os⟩:=s
 have QK:((λ_:Array Value=>(#[]:Array Value)) items).size<=sizeLine+1:=Nat.zero_le _
 wp_walk using (wpAny_updateSeq ho rfl (hz:=hz) (_hz':=QK)),wpAny_loadPart' ho
 exact k
noncomputable def Sy:SM:=λlc σ=>(IP lc).bind λl=>(Cj σ l).bind λa=>gd (decide (a.2.length<=sizeLine)) (.next,lc,σ.set l (.acc a.1 []))
set_option tactic.hygienic true
theorem NX(H:Aq C)(HC:Bg C)(He:Bi env Aa)(HS:Gw C)(SO:JN C env Aa)(hf:alongIn C.K "__init__" [.type "list",.type "object"]=some (some (.builtin "list.__init__")))(hp:(B1.endLine==p.line)=true)(hi:interactive env=false)(hs:swapsWith (.Call (.Attribute (.Call (.Name "super" p0) [] [] p1) "__init__" B1) [] [] p) none pr.line env=pure false) :
 KO C d env Aa body (.Expr (.Call (.Attribute (.Call (.Name "super" p0) [] [] p1) "__init__" B1) [] [] p) pr) Sy:=by
 intro lc σ fl lc' σ' Fg A Q E s ρ hA R lr kk
 refine oB Fg λl CV Fg=>oB Fg λac hl Fg=>oG Fg λhz e2=>?_
 have hl:=B8 hl
 refine ks_wpAt_Expr_any (Je H HC He HS SO X6 (by decide) hf hp (by decide +kernel) F.entry_list_init R lr (GG CV) hl (λuu uu uu q=>by rw[X3];exact wpAny_pure q) λa dd s' e0 R' S'=>?_) hi hs
 refine R'.acc_at e0 hl λes n n' vs ho hd he hs=>?_
 refine Yp ho (by rw[List.size_toArray,hs.length,List.length_map];exact of_decide_eq_true hz) ⟨_,rfl,?_⟩
 have DW:=Heap.SameBut.update s'.heap a (Obj.mapSeq λuu=>#[])
 have S:Step C [] ρ ρ s'.heap (s'.heap.update a (Obj.mapSeq λuu=>#[])):=Dk (.inr ⟨_,List.mem_of_getElem? e0,.inl rfl⟩) DW
 exact AS (R'.upd (n:=s'.toks) e0 (.inl rfl) DW (.acc (vs:=[]) (parts:=[]) (Ek ho (λuu=>#[])) ((DW.2 _ (QJ ho hd)).trans hd) (he.go S) .nil) rfl) λjP eR=>Pj kk e2 _ _ _ jP (S'.trans eR).of_nil (lr.go (S'.trans eR)) .next
set_option tactic.hygienic false
theorem Sz(hD:h.get? L=some (dictOf es n)):∀ a o vs k,a∈[L]->h.get? a=some o->o.data≠.seq vs k:=FE hD λuu uu=>Data.noConfusion
theorem Rel.writeD(R:Rel C ρ σ s)(hD:s.heap.get? L=some (dictOf es k))(hm:¬ Ds C ρ L)(hl:C.s₁.heap.objs.size<=L)(hs:Heap.SameBut L s.heap h'):Rel C ρ σ { s with heap:=h',toks:=n } :=
 R.writeX hD (λuu=>Data.noConfusion) (λuu uu=>Data.noConfusion) hm hl hs
theorem CX.snoc{k:Str}{t:Tok}:∀ {r:List (Str×AV)} {es:List DictEntry},CX C ρ h r es->VR C ρ h x v->CX C ρ h (r++[(k,x)]) (es++[⟨PyData.keyHash C.w.params k,.str k t,v⟩]):=by
 intro r es q a
 induction q with
 |nil=>exact .cons a .nil
 |cons b _ ih=>exact .cons b ih
theorem CX.length:∀ {r:List (Str×AV)} {es:List DictEntry},CX C ρ h r es->es.length=r.length:=λq=>q.rec (motive:=λr es uu=>es.length=r.length) rfl λuu uu ih=>congrArg (·+1) ih
set_option tactic.hygienic true
theorem putL_new{key:Value}:∀ {es:List DictEntry},getL name es=some none->W.putL name hsh key v es=es++[⟨hsh,key,v⟩]
 | [],_=>rfl
 |e::es,h=>by
  unfold getL at h
  rw[List.find?_cons] at h
  split at h
  . rename_i q;split at q
    . cases h
    . rename_i Gj
      cases h
  . rename_i q
    split at q
    . cases q
    . rename_i Gj
      unfold W.putL
      rw[if_neg (by rw[Gj];exact Bool.false_ne_true)]
      have:getL name es=some none:=by
       unfold getL
       rw[q]
       dsimp only
       split at h
       . exact ns h
       . rename_i z
         rw[List.any_cons] at z
         rw[if_neg]
         intro y
         exact z (by rw[y,Bool.or_true])
      rw[putL_new this]
      rfl
structure Q0 (C:Cfg) (ρ:D7) (σ:St) (s:Shared) (L:Addr) (Aa:List Str) (lc:Lc) (x dx Cl:Addr) (ox:Obj) (attrs:List (Str×AV)):Prop where
 rel:Rel C ρ σ s
 lc:Cx C ρ s.heap L Aa lc
 self:∃ m,s.heap.Ns L m/\m "self" = some (.ref x)
 ho:s.heap.get? x=some ox
 hd:∃ es n,s.heap.get? dx=some (dictOf es n)/\CX C ρ s.heap attrs es
 nx:¬ Ds C ρ x
 nd:¬ Ds C ρ dx
 lx:C.s₁.heap.objs.size<=x
 ld:C.s₁.heap.objs.size<=dx
 cls:ox.cls=.ref Cl
 no:notCls ox=true
 dict:ox.dict=some dx
 ne:x≠dx
 nL:L≠dx
set_option tactic.hygienic false
theorem Q0.go{x:Addr}(P:Q0 C ρ σ s L Aa lc x dx Cl ox attrs)(R:Rel C Ar σ' s')(S:Step C [] ρ Ar s.heap s'.heap):Q0 C Ar σ' s' L Aa lc x dx Cl ox attrs:=by
 (refine Es (P.hd) λes n hD he=>?_)
 (refine Am (P.self) λm hm hs=>?_)
 exact⟨R,P.lc.go S,⟨m,hm.at λo e=>S.keep _ _ e P.lc.2.1 (by simp),hs⟩,S.keep _ _ P.ho P.nx (by simp),(B6 es n ⟨S.keep _ _ hD P.nd (by simp),he.go S⟩),Ds.grow S (Heap.lt_size P.ho) P.nx,Ds.grow S (Heap.lt_size hD) P.nd,P.lx,P.ld,P.cls,P.no,P.dict,P.ne,P.nL⟩
section
variable{x:Addr}
set_option tactic.hygienic true
theorem Ou(H:Aq C)(He:Bi env Aa)(HS:CZ C Cl)(ht:takerIn C.K Cl name=some none){f:EM}(D:AQ C d env Aa e f){y:AV}(hf:f lc σ=some (y,σ'))(hn:attrs.lookup name=none)(Et:attrs.length<=100)(CV:env.kindOf "self" = some .local)(hA:EL C d A)(P:Q0 C ρ σ s env.locals Aa lc x dx Cl ox attrs)(hs:swapsWith e (some (.Attribute (.Name "self" p0) name p1)) p2.line env=pure false){Q:Flow->Shared->Prop}(k:∀ s' Ar,Q0 C Ar σ' s' env.locals Aa lc x dx Cl ox (attrs++[(name,y)])->Step C [dx] ρ Ar s.heap s'.heap->Q .next s'):wpAny (model C.prog C.w) A (exec (.Assign [.Attribute (.Name "self" p0) name p1] e p2) env) Q E s:=by
 refine plainObj_wpAny_Assign_Attribute (D _ _ _ _ hf A _ E s ρ hA P.rel P.lc λv s₁ Ad An Aj AA=>?_) hs
 have CQ:=P.go An Aj
 (refine Es (CQ.hd) λes n hD he=>?_)
 (refine Am (CQ.self) λm hm nU=>?_)
 refine Uv He.out CV hm nU (by decide) ?_
 have ge:=CO (name:=name) he
 rw[hn] at ge
 have pe:=putL_new (hsh:=PyData.keyHash C.w.params name) (key:=.str name (s₁.toks+1)) (v:=v) ge
 refine Mg HS (An.kin H) ⟨CQ.ho,CQ.cls,CQ.no,by rw[CQ.dict];exact hD⟩ CQ.dict hD ht (by rw[ge];rfl) (by rw[pe,List.length_append,he.length];show attrs.length+1<=1000;omega) λh' DW QZ=>?_
 rw[pe] at QZ
 have S:Step C [dx] Ad Ad s₁.heap h':=ET DW
 have W:=Sz hD
 have uP:=CQ.lc
 refine k _ Ad ⟨An.writeD hD CQ.nd CQ.ld DW,?_,⟨m,hm.at λo e=>(DW.2 _ P.nL).trans e,nU⟩,(DW.2 _ P.ne).trans CQ.ho,(B6 _ _ ⟨QZ,(he.step S W).snoc (AA.step S W)⟩),CQ.nx,CQ.nd,P.lx,P.ld,P.cls,P.no,P.dict,P.ne,P.nL⟩ (Aj.of_nil.trans S)
 obtain⟨⟨m',Xe,hv⟩,jU,KH,QK⟩:=uP
 refine⟨⟨m',Xe.at λo e=>(DW.2 _ P.nL).trans e,λi x e=>?_⟩,jU,KH,QK⟩
 (refine Dt (hv i x e) λn' v' a b c=>?_)
 exact(B6 n' v' ⟨a,b,c.step S W⟩)
end
section
variable{p:Addr×Addr}
theorem JU(n:¬ Ds C ρ a)(h1:a≠p.1)(h2:a≠p.2):¬ Ds C (ρ++[p]) a:=by
 rintro(t|⟨q,hq,e⟩)
 . exact n (.inl t)
 . rcases List.mem_append.mp hq with hq|hq
   . exact n (.inr ⟨q,hq,e⟩)
   . cases List.mem_singleton.mp hq
     rcases e with e|e
     . exact h1 e.symm
     . exact h2 e.symm
theorem VR.adopt(k:∀ a o,h.get? a=some o->(o.cls=.type "tuple" \/ o.cls=.type "list")->a≠p.1/\a≠p.2)(q:VR C ρ h x v):VR C (ρ++[p]) h x v :=
 VR.rec (motive_1:=λx v uu=>VR C (ρ++[p]) h x v) (motive_2:=λxs vs uu=>Bx C (ρ++[p]) h xs vs) .none (λb=>.bool b) (λi t=>.int i t) (λx t ok=>.str x t ok)
  (λho hm uu ih=>.tup ho (JU hm (k _ _ ho (.inl rfl)).1 (k _ _ ho (.inl rfl)).2) ih) (λho hm uu ih=>.lst ho (JU hm (k _ _ ho (.inr rfl)).1 (k _ _ ho (.inr rfl)).2) ih)
  (λe=>.loc (by rw[List.getElem?_append_left (List.getElem?_eq_some_iff.mp e).1];exact e)) .nil (λuu uu a b=>.cons a b) q
theorem CX.adopt(k:∀ a o,h.get? a=some o->(o.cls=.type "tuple" \/ o.cls=.type "list")->a≠p.1/\a≠p.2){r:List (Str×AV)}(q:CX C ρ h r es):CX C (ρ++[p]) h r es:=q.map (·.adopt k)
theorem Rel.adopt(R:Rel C ρ σ s){o:AO}(k:∀ a o,s.heap.get? a=some o->(o.cls=.type "tuple" \/ o.cls=.type "list")->a≠p.1/\a≠p.2)(n1:¬ Ds C ρ p.1)(n2:¬ Ds C ρ p.2)(l1:C.s₁.heap.objs.size<=p.1)(l2:C.s₁.heap.objs.size<=p.2)(ho:Ct C (ρ++[p]) s.heap p o)(ng:o.isGen=false):Rel C (ρ++[p]) (σ++[o]) s:=by
 refine⟨R.old,R.tab,λq hq=>?_,?_,by simp[R.len],λl q o' e e'=>?_,R.gens.snoc R.len ng,R.drawn,R.os,R.size⟩
 . rcases List.mem_append.mp hq with hq|hq
   . exact R.lo q hq
   . cases List.mem_singleton.mp hq;exact⟨l1,l2⟩
 . refine List.pairwise_append.mpr ⟨R.dis,List.pairwise_singleton ..,λa ha b hb=>?_⟩
   cases List.mem_singleton.mp hb
   exact⟨λz=>n1 (.inr ⟨a,ha,.inl z⟩),λz=>n2 (.inr ⟨a,ha,.inl z⟩),λz=>n1 (.inr ⟨a,ha,.inr z⟩),λz=>n2 (.inr ⟨a,ha,.inr z⟩)⟩
 . by_cases hl:l<ρ.length
   . rw[List.getElem?_append_left hl] at e
     rw[List.getElem?_append_left (R.len▸hl)] at e'
     exact(R.st l q o' e e').move (λuu z=>z) (λuu z=>z) (·.adopt k) (λuu z=>z.grow _) λuu uu z uu=>z
   . have KH:¬ l<σ.length:=R.len▸hl
     rw[List.getElem?_append_right (Nat.not_lt.mp hl)] at e
     rw[List.getElem?_append_right (Nat.not_lt.mp KH)] at e'
     rw[List.getElem?_singleton] at e e'
     exact sf e λuu e=>sf e' λuu e'=>Option.some.inj e▸Option.some.inj e'▸ho
theorem Cx.adopt(k:∀ a o,h.get? a=some o->(o.cls=.type "tuple" \/ o.cls=.type "list")->a≠p.1/\a≠p.2)(n1:L≠p.1)(n2:L≠p.2)(q:Cx C ρ h L Aa lc):Cx C (ρ++[p]) h L Aa lc:=by
 obtain⟨⟨m,hn,hv⟩,hm,hl,hz⟩:=q
 refine⟨⟨m,hn,λi x e=>?_⟩,JU hm n1 n2,hl,hz⟩
 (refine Dt (hv i x e) λn v a b c=>?_)
 exact(B6 n v ⟨a,b,c.adopt k⟩)
set_option tactic.hygienic true
theorem Cx.know{n:Str}(q:Cx C ρ h L Aa lc)(hm:h.Ns L m)(hn:Aa[0]?=some n)(hv:m n=some v)(qv:VR C ρ h x v):Cx C ρ h L Aa (lc.set 0 (some x)):=by
 obtain⟨⟨m',Xe,QO⟩,jU,hl,hz⟩:=q
 have e:∀ y,m y=m' y:=by
  intro y
  (refine Sj (hm) λo es ep a1 a2 uu a4=>?_;clear hm)
  (refine Sj (Xe) λo' nS ep' b1 b2 uu b4=>?_;clear Xe)
  rw[a1] at b1;cases b1
  rw[a2] at b2;cases b2
  rw[<- a4,<- b4]
 refine⟨⟨m',Xe,λi y ei=>?_⟩,jU,hl,by rw[List.length_set];exact hz⟩
 rw[List.getElem?_set] at ei
 split at ei
 . rename_i h0
   subst h0
   (refine sf ei ?_;clear ei;intro uu ei)
   cases ei
   exact(B6 n v ⟨hn,by rw[<- e];exact hv,qv⟩)
 . exact QO i y ei
set_option tactic.hygienic false
theorem eZ{vr:List Str}{AI:Heap}{tk:Nat}(R:Rel C ρ σ s)(q:Bx C ρ s.heap xs vs)(cf:(("self" : Str)::vr).Nodup)(Et:vr.length=xs.length)(JF:ox.cls=.ref Cl)(KN:notCls ox=true)(kZ:ox.dict=some s.heap.objs.size)(SA:ox.isFreed=false)(GF:AI.Ns (s.heap.objs.size+2) (λy=>((("self" : Str)::vr).zip (.ref (s.heap.objs.size+1)::vs)).reverse.lookup y))(hk:∀ b o,((s.heap.push emptyDict).push ox).get? b=some o->AI.get? b=some o)(hz:AI.objs.size=s.heap.objs.size+3) :
 Q0 C ρ σ { s with heap:=AI,toks:=tk } (s.heap.objs.size+2) ("self" :: vr) (none::xs.map some) (s.heap.objs.size+1) s.heap.objs.size Cl ox []:=by
 have CP:∀ b o,s.heap.get? b=some o->AI.get? b=some o:=λb o e=>hk b o (Heap.get?_push_of_some _ (Heap.get?_push_of_some _ e))
 have Aj:Step C [] ρ ρ s.heap AI:=.same CP (by omega)
 have fr:∀ i,¬ Ds C ρ (s.heap.objs.size+i):=by
  intro i
  rintro(t|⟨p,hp,e⟩)
  . (refine Am (List.mem_map.mp t) λy hy e=>?_)
    (refine Am (R.tab y hy) λm uu ht=>?_)
    have:=Heap.lt_size ht.at_.2
    rw[e] at this
    exact absurd this (Nat.not_lt.mpr (Nat.le_add_right _ _))
  . have:=R.rhoLt hp
    rcases e with e|e
    . rw[e] at this;exact absurd this.1 (Nat.not_lt.mpr (Nat.le_add_right _ _))
    . rw[e] at this;exact absurd this.2 (Nat.not_lt.mpr (Nat.le_add_right _ _))
 have uQ:vs.length=vr.length:=by rw[q.length,Et]
 have k5:((("self" : Str)::vr).zip (.ref (s.heap.objs.size+1)::vs)).map (·.1)=("self" : Str)::vr:=by
  rw[List.map_fst_zip]
  simp[uQ]
 refine⟨R.same CP (by show _<=AI.objs.size;omega) R.gens rfl rfl,⟨⟨_,GF,λi y e=>?_⟩,fr 2,Nat.le_trans R.size (Nat.le_add_right _ _),by simp[Et]⟩,⟨_,GF,?_⟩,hk _ _ ?_,(B6 [] 0 ⟨hk _ _ ?_,.nil⟩),fr 1,fr 0,Nat.le_trans R.size (Nat.le_add_right _ _),R.size,JF,KN,kZ,Nat.succ_ne_self _,Nat.ne_of_gt (Nat.lt_add_of_pos_right (by decide))⟩
 . cases i with
   |zero=>cases e
   |succ i =>
    rw[List.getElem?_cons_succ,List.getElem?_map,Option.map_eq_some_iff] at e
    (refine Am (e) λy' e1 e2=>?_;clear e)
    (refine c1 e2 λG9=>?_;clear e2;subst G9)
    (refine Am (q.get e1) λv ev qv=>?_)
    have hi:i<vr.length:=by rw[Et];exact(List.getElem?_eq_some_iff.mp e1).1
    refine(B6 (vr[i]) v ⟨by rw[List.getElem?_cons_succ];exact List.getElem?_eq_getElem hi,?_,qv.go Aj⟩)
    refine Ja (by rw[k5];exact cf) (I9 (i:=i+1) cf ?_ ?_)
    . rw[List.getElem?_cons_succ];exact List.getElem?_eq_getElem hi
    . rw[List.getElem?_cons_succ];exact ev
 . exact Ja (by rw[k5];exact cf) (I9 (i:=0) cf rfl rfl)
 . have:=Heap.get?_push_size (s.heap.push emptyDict) (o:=ox) SA
   rw[Heap.size_push] at this
   exact this
 . exact Heap.get?_push_of_some _ (Heap.get?_push_size _ rfl)
theorem Q1{Ad:D7}{hh AI Dv:Heap}(hk:∀ b o,hh.get? b=some o->AI.get? b=some o)(hz:hh.objs.size<=AI.objs.size)(S:Step C [hh.objs.size] ρ Ad AI Dv):Step C [] ρ (Ad++[(hh.objs.size+1,hh.objs.size)]) hh Dv:=by
 refine⟨Nat.le_trans hz S.size,λb o e nm uu=>S.keep b o (hk b o e) nm λm=>Nat.ne_of_lt (Heap.lt_size e) (List.mem_singleton.mp m),Am S.grow λδ e1 h1=>⟨δ++[(hh.objs.size+1,hh.objs.size)],by rw[e1,List.append_assoc],λp hp=>?_⟩⟩
 rcases List.mem_append.mp hp with hp|hp
 . exact⟨Nat.le_trans hz (h1 p hp).1,Nat.le_trans hz (h1 p hp).2⟩
 . exact List.mem_singleton.mp hp▸⟨Nat.le_succ _,Nat.le_refl _⟩
end
variable{Inv:Nat->D7->Heap->Prop}{O:SM}{P:Result->Shared->Prop}{c vl vo vu:Value}{f ix:EM}{fh fl:Option EM}{fuel k0 m:Nat}{hi lo:Option Int}{hl:Int}{lc₁:Lc}{nx:St->Nat->Option (Option AV)}{Co:List Stmt}{pn CI q2 q3:Pos}{sl:Addr}{slice Bh CU:Expr}{nV:Array (Option Value)}{src y z:AV}{st:Lc->AV->Option Lc}{t:Tok}{Γ:Ctx}
theorem Uz{f:Addr}(H:eU C f Aa m dxs dv body fd)(L:Addr):Bi (Hx fd f L) Aa :=
 ⟨H.kind,H.loc,H.nodup,rfl,rfl⟩
theorem EL.tc{vals:List Value}(a:EL C (d+1) A):EL C d (A.under (.builtin "type.__call__" ⟨.ref Cl::vals,[]⟩)):=by
 (refine Hv (a) λa1 a2 a3 a4=>?_;clear a)
 refine⟨a1,?_,?_,a4.same rfl (Nat.le_add_right _ 1)⟩
 . show A.depth+1+d<_;omega
 . show A.units+1+8*d<_;omega
theorem Ov{x:Addr}(ho:h.get? x=some ox)(hc:ox.cls=.ref Cl)(hd:h.get? dx=some (dictOf es n)):∀ a o,h.get? a=some o->(o.cls=.type "tuple" \/ o.cls=.type "list")->a≠x/\a≠dx:=by
 intro a o e JF
 have no:∀ {o':Obj},h.get? a=some o'->(o'.cls=.type "tuple" \/ o'.cls=.type "list"):=λe'=>Option.some.inj (e.symm.trans e')▸JF
 refine⟨λz=>?_,λz=>?_⟩
 . have:=no (z▸ho)
   rw[hc] at this
   exact this.elim Value.noConfusion Value.noConfusion
 . exact(no (z▸hd)).elim (λz=>absurd z (by simp)) λz=>absurd z (by simp)
noncomputable def SD:FM:=λxs σ=>(I5 xs).bind λx=>x.int?.map λi=>(.loc σ.length,σ++[.acc i []])
set_option tactic.hygienic true
theorem VH(H:Aq C)(HC:Bg C)(HS:Gw C)(HM:JT C fI)(k7:CZ C C.ACC)(ht:takerIn C.K C.ACC "_initial_size" = some none)(HF:eU C fI ["self", "initial_size"] 2 [] [] [.Assign [.Attribute (.Name "self" p0) "_initial_size" p1] (.Name "initial_size" p2) p3,.Expr (.Call (.Attribute (.Call (.Name "super" q0) [] [] q1) "__init__" B1) [] [] q2) q3] fd)(SO:∀ L,JN C (Hx fd fI L) ["self", "initial_size"])(hf:alongIn C.K "__init__" [.type "list",.type "object"]=some (some (.builtin "list.__init__")))(hp:(B1.endLine==q2.line)=true)(hi:∀ L,interactive (Hx fd fI L)=false)(uR:∀ L,swapsWith (.Name "initial_size" p2) (some (.Attribute (.Name "self" p0) "_initial_size" p1)) p3.line (Hx fd fI L)=pure false)(uS:∀ L,swapsWith (.Call (.Attribute (.Call (.Name "super" q0) [] [] q1) "__init__" B1) [] [] q2) none q3.line (Hx fd fI L)=pure false) :
 Bp C (d+2) (.ref C.ACC) SD:=by
 intro xs σ x σ' Fg A Q E s ρ vs hA R q k
 refine oB Fg λy e0 Fg=>oM Fg λi ei e9=>?_
 have k:=Hz k e9
 have qs:Bx C ρ s.heap [.int i] vs:=by rw[Qw e0,AV.int_inv ei] at q;exact q
 clear Fg e9
 revert k
 refine qs.one_e λv qv k=>?_
 have q:Bx C ρ s.heap [.int i] [v]:=.cons qv .nil
 refine wpAny_call (Yo HM (R.kin H) ?_)
 have old:Lp C { s with heap:=(s.heap.push emptyDict).push (Fu C s.heap.objs.size) }:=λb o e n=>Heap.get?_push_of_some _ (Heap.get?_push_of_some _ (R.old b o e n))
 have jV:=hA.tc (Cl:=C.ACC) (vals:=[v])
 have pT:((s.heap.push emptyDict).push (Fu C s.heap.objs.size)).objs.size=s.heap.objs.size+2:=by rw[Heap.size_push,Heap.size_push]
 refine Pp HF H.lim H.stat old (by have:=jV.2.1;omega) rfl λAI Yq E' GF hk hz=>?_
 rw[pT] at GF hz ⊢
 have P:=eZ (Cl:=C.ACC) (tk:=Yq) R q (vr:=["initial_size"]) (by decide) rfl (ox:=Fu C s.heap.objs.size) rfl rfl rfl rfl GF hk hz
 have He:=Uz HF (s.heap.objs.size+2)
 refine ks_wpAt_execs_cons (wpAt_of_wpAny ?_)
 refine Ou (attrs:=[]) (σ':=σ) (y:=.int i) H He k7 ht (MA (d:=d) He (i:=1) rfl (by decide)) rfl rfl (by decide) (He.loc _ (by simp)) jV.deeper P (uR _) λs₁ Ad CQ Aj=>?_
 (refine Es (CQ.hd) λes n hD he=>?_)
 have kk:=Ov CQ.ho CQ.cls hD
 have bU:Ct C (Ad++[(s.heap.objs.size+1,s.heap.objs.size)]) s₁.heap (s.heap.objs.size+1,s.heap.objs.size) (.acc i []):=.acc (vs:=[]) (parts:=[]) CQ.ho hD (CX.adopt (p:=(s.heap.objs.size+1,s.heap.objs.size)) kk he) .nil
 have Az:=CQ.rel.adopt (p:=(s.heap.objs.size+1,s.heap.objs.size)) kk CQ.nx CQ.nd CQ.lx CQ.ld bU rfl
 (refine Am (CQ.self) λm hm nU=>?_)
 have FQ:=(CQ.lc.adopt (p:=(s.heap.objs.size+1,s.heap.objs.size)) kk (λz=>absurd z (Nat.succ_ne_self _)) P.nL).know hm rfl nU (.loc (l:=σ.length) (p:=(s.heap.objs.size+1,s.heap.objs.size)) (by rw[<- CQ.rel.len,List.getElem?_append_right (Nat.le_refl _),Nat.sub_self];rfl))
 refine ks_wpAt_execs_cons ?_
 refine NX (d:=d) H HC He HS (SO _) hf hp (hi _) (uS _) [some (.loc σ.length),some (.int i)] (σ++[.acc i []]) .next [some (.loc σ.length),some (.int i)] (σ++[.acc i []]) ?_ _ _ _ _ _ jV.deeper Az FQ λw AJ By BY BV _ fr=>?_
 . show((Cj (σ++[AO.acc i []]) σ.length).bind λa=>gd (decide (a.2.length<=sizeLine)) (Fl.next,([some (.loc σ.length),some (.int i)]:Lc),(σ++[AO.acc i []]).set σ.length (AO.acc a.1 [])))=_
   rw[Cy (σ:=σ++[AO.acc i []]) (i:=i) (ps:=[]) (by rw[List.getElem?_append_right (Nat.le_refl _),Nat.sub_self];rfl)]
   refine(AZ (decide_eq_true (Nat.zero_le _))).trans ?_
   rw[List.set_append_right _ _ (Nat.le_refl _),Nat.sub_self]
   rfl
 . cases fr
   refine wpAt_of_wpAny (wpAny_pure ?_)
   refine⟨rfl,?_⟩
   have pU:By[σ.length]?=some (s.heap.objs.size+1,s.heap.objs.size):=by
    (refine Am (BV.grow) λδ IF uu=>?_;subst IF)
    rw[List.getElem?_append_left (by rw[List.length_append,CQ.rel.len];exact Nat.lt_succ_self _),<- CQ.rel.len,List.getElem?_append_right (Nat.le_refl _),Nat.sub_self]
    rfl
   exact k _ AJ By BY (((Q1 (λb o e=>hk b o (Heap.get?_push_of_some _ (Heap.get?_push_of_some _ e))) (by show s.heap.objs.size<=AI.objs.size;omega) Aj).of_nil.trans BV).above λb hb=>by cases List.mem_singleton.mp hb;exact Nat.le_add_right _ 2) (.loc pU)
inductive VI (C:Cfg) (d:Nat) (env:Env) (Aa:List Str) (Cl:Addr):List Stmt->List (Str×EM)->Prop
 |nil:VI C d env Aa Cl [] []
 |cons {name:Str} {e:Expr} {f:EM} {r:List Stmt} {fs:List (Str×EM)} {p0 p1 p2:Pos} (ht:takerIn C.K Cl name=some none) (D:AQ C d env Aa e f) (hs:swapsWith e (some (.Attribute (.Name "self" p0) name p1)) p2.line env=pure false)
  (b:VI C d env Aa Cl r fs):VI C d env Aa Cl (.Assign [.Attribute (.Name "self" p0) name p1] e p2::r) ((name,f)::fs)
noncomputable def gY:List (Str×EM)->List (Str×AV)->Lc->St->Option (List (Str×AV)×St)
 | [],acc,_,σ=>some (acc,σ)
 |a::r,acc,lc,σ=>(a.2 lc σ).bind λp=>if ((acc.lookup a.1).isNone&&decide (acc.length<=100))=true then gY r (acc++[(a.1,p.1)]) lc p.2 else none
section
variable{x:Addr}
theorem SE(H:Aq C)(He:Bi env Aa)(HS:CZ C Cl)(CV:env.kindOf "self" = some .local)(hA:EL C d A){b:List Stmt}{fs:List (Str×EM)}(D:VI C d env Aa Cl b fs) :
 ∀ {attrs Px:List (Str×AV)} {σ σ':St} {s:Shared} {ρ:D7} {Q:Flow->Shared->Prop},gY fs attrs lc σ=some (Px,σ')->Q0 C ρ σ s env.locals Aa lc x dx Cl ox attrs ->
  (∀ s' Ar,Q0 C Ar σ' s' env.locals Aa lc x dx Cl ox Px->Step C [dx] ρ Ar s.heap s'.heap->Q .next s')->wpAny (model C.prog C.w) A (execs b env) Q E s:=by
 induction D with
 |nil=>intro attrs Px σ σ' s ρ Q hf P k;cases hf;exact wpAny_pure (k _ _ P .refl)
 | @cons name e f r fs p0 p1 p2 ht D hs b ih =>
  intro attrs Px σ σ' s ρ Q hf P k
  refine oB hf λy e1 hf=>sf hf λhc hf=>?_
  rw[Bool.and_eq_true] at hc
  refine wpAny_execs_cons (Ou H He HS ht D e1 (Option.isNone_iff_eq_none.mp hc.1) (of_decide_eq_true hc.2) CV hA P hs λs₁ Ad CQ Aj=>?_)
  exact ih hf CQ λAi AF pV Au=>k Ai AF pV (Aj.trans Au)
noncomputable def Py(LF:FM):List (Str×EM):=[("_maxlen",nE 2),("_continuation_ws",nE 3),("_continuation_ws_len",Av (BW LF) [nE 3]),("_splitchars",nE 4),("_lines",FN []),("_current_line",Av SD [nE 1])]
noncomputable def k8:List AV->Option (AV×AV×AV×AV)
 | [a,b,c,d]=>some (a,b,c,d)
 | []=>none
 | [_]=>none
 | [_,_]=>none
 | [_,_,_]=>none
 | _::_::_::_::_::_=>none
set_option tactic.hygienic false
theorem Yr{a:AV×AV×AV×AV}(h:k8 xs=some a):xs=[a.1,a.2.1,a.2.2.1,a.2.2.2]:=by
 cases xs with
 |nil=>exact ns h
 |cons a r=>cases r with
  |nil=>exact ns h
  |cons b s=>cases s with
   |nil=>exact ns h
   |cons c u=>cases u with
    |nil=>exact ns h
    |cons d w=>cases w with
     |nil=>exact congrArg (λa:AV×AV×AV×AV=>[a.1,a.2.1,a.2.2.1,a.2.2.2]) (Option.some.inj h)
     |cons e z=>exact ns h
noncomputable def Ji:FM:=λxs σ=>(k8 xs).bind λa=>a.1.int?.bind λhl=>a.2.1.int?.bind λml=>a.2.2.1.str?.bind λcw=>a.2.2.2.str?.bind λsp =>
 gd (decide (cw.length<=1000000)) (.loc (σ.length+2),σ++[.list [],.acc hl [],.fmt ml cw cw.length sp σ.length (σ.length+1)])
theorem cG(pW:decide (cw.length<=1000000)=true):gY (Py LF) [] [none,some (.int hl),some (.int ml),some (.str cw),some (.str sp)] σ=some (B2 ml cw cw.length sp σ.length (σ.length+1),σ++[.list [],.acc hl []]):=by
 have e3:Av (BW LF) [nE 3] [none,some (.int hl),some (.int ml),some (.str cw),some (.str sp)] σ=some (.int cw.length,σ):=by
  show(gd (decide (cw.length<=1000000)) (AV.int cw.length,σ)).or _=_
  rw[AZ pW]
  rfl
 show(Av (BW LF) [nE 3] [none,some (.int hl),some (.int ml),some (.str cw),some (.str sp)] σ).bind _=_
 rw[e3]
 show some (([("_maxlen",AV.int ml),("_continuation_ws",.str cw),("_continuation_ws_len",.int cw.length),("_splitchars",.str sp),("_lines",.loc σ.length),("_current_line",.loc (σ++[AO.list []]).length)]:List (Str×AV)),(σ++[AO.list []])++[AO.acc hl []])=_
 rw[List.append_assoc,List.length_append]
 rfl
theorem VJ(H:Aq C)(HM:makesIn C.K C.VF=true)(Ys:findIn C.K (.ref C.VF) "__init__" = some (some (.ref fI)))(pX:typeIn C.K (.ref fI)=some (.type "function"))(k7:CZ C C.VF)(HF:eU C fI ["self", "headerlen", "maxlen", "continuation_ws", "splitchars"] 5 [] [] body fd)(D:∀ L,VI C d (Hx fd fI L) ["self", "headerlen", "maxlen", "continuation_ws", "splitchars"] C.VF body (Py LF)) :
 Bp C (d+2) (.ref C.VF) Ji:=by
 intro xs σ x σ' Fg A Q E s ρ vs hA R q k
 refine oB Fg λag e0 Fg=>oB Fg λhl e1 Fg=>oB Fg λml e2 Fg=>oB Fg λcw e3 Fg=>oB Fg λsp e4 Fg=>oG Fg λpW e9=>?_
 have k:=Hz k e9
 have q:Bx C ρ s.heap [.int hl,.int ml,.str cw,.str sp] vs:=by rw[Yr e0,AV.int_inv e1,AV.int_inv e2,AV.str_inv e3,AV.str_inv e4] at q;exact q
 clear Fg e9 e0 e1 e2 e3 e4
 have X:=R.kin H
 refine wpAny_call (make_core (makes_of X HM) (looks_findIn X Ys) (λself=>bind_fn X self pX) (.inl rfl) ?_)
 have old:Lp C { s with heap:=(s.heap.push emptyDict).push (instObj C.VF s.heap.objs.size) }:=λb o e n=>Heap.get?_push_of_some _ (Heap.get?_push_of_some _ (R.old b o e n))
 have jV:=hA.tc (Cl:=C.VF) (vals:=vs)
 have pT:((s.heap.push emptyDict).push (instObj C.VF s.heap.objs.size)).objs.size=s.heap.objs.size+2:=by rw[Heap.size_push,Heap.size_push]
 refine Pp HF H.lim H.stat old (by have:=jV.2.1;omega) (by rw[List.length_cons,q.length];rfl) λAI Yq E' GF hk hz=>?_
 rw[pT] at GF hz ⊢
 rw[List.append_nil] at GF
 have P:=eZ (Cl:=C.VF) (tk:=Yq) R q (vr:=["headerlen", "maxlen", "continuation_ws", "splitchars"]) (by decide) rfl (ox:=instObj C.VF s.heap.objs.size) rfl rfl rfl rfl GF hk hz
 have He:=Uz HF (s.heap.objs.size+2)
 refine wpAt_of_wpAny (SE H He k7 (He.loc _ (by simp)) jV.deeper (D _) (cG pW) P λs₁ Ad CQ Aj=>?_)
 (refine Es (CQ.hd) λes n hD he=>?_)
 have kk:=Ov CQ.ho CQ.cls hD
 have Az:=CQ.rel.adopt (p:=(s.heap.objs.size+1,s.heap.objs.size)) (o:=.fmt ml cw cw.length sp σ.length (σ.length+1)) kk CQ.nx CQ.nd CQ.lx CQ.ld (.fmt CQ.ho hD (CX.adopt (p:=(s.heap.objs.size+1,s.heap.objs.size)) kk he)) rfl
 rw[List.append_assoc] at Az
 refine⟨rfl,k _ s₁ _ Az (Q1 (λb o e=>hk b o (Heap.get?_push_of_some _ (Heap.get?_push_of_some _ e))) (by show s.heap.objs.size<=AI.objs.size;omega) Aj) (.loc (p:=(s.heap.objs.size+1,s.heap.objs.size)) ?_)⟩
 have hz:Ad.length=σ.length+2:=by rw[CQ.rel.len,List.length_append];rfl
 rw[List.getElem?_append_right (Nat.le_of_eq hz),hz,Nat.sub_self]
 rfl
end
inductive JV (C:Cfg) (h:Heap) (a:Addr) (vs:List Value):Prop
 |list {n:Nat} (ho:h.get? a=some (Ck vs n)):JV C h a vs
 |acc {d:Addr} {es:List DictEntry} {n n':Nat} (ho:h.get? a=some ⟨.ref C.ACC,some d,.seq vs.toArray n,#[]⟩) (hd:h.get? d=some (dictOf es n')):JV C h a vs
structure Eb (C:Cfg):Prop where
 noDeque:mroIn C.K C.ACC (.type "collections.deque")=some false
set_option tactic.hygienic false
theorem JV.obj(S:JV C h a vs):∃ o n,h.get? a=some o/\o.data=.seq vs.toArray n/\∃ c d sl,o=⟨c,d,.seq vs.toArray n,sl⟩:=by
 cases S with
 |list ho=>exact(B6 _ _ ⟨ho,rfl,EY _ _ _ rfl⟩)
 |acc ho hd=>exact(B6 _ _ ⟨ho,rfl,EY _ _ _ rfl⟩)
theorem JV.special(H:Aq C)(HA:DV C)(X:C.K.In h)(S:JV C h a vs):Looks (model C.prog C.w) h (specialOf (.ref a) "__getitem__") (some (.builtin "list.__getitem__")):=by
 cases S with
 |list ho=>exact((Looks.ld ho).andThen .now).andThen (Looks.of_pure slot_list_getitem.lookup)
 |acc ho hd=>exact(CC ho hd).type.andThen (looks_findIn X HA.gi)
theorem Q2{id n:String}{B:Builtin}{rest:List Value}(HC:Bg C)(X:C.K.In s.heap)(S:JV C s.heap a vs){nm:Str}(Sl:Slot "list" nm id)(hk:builtinKind id=some .method\/builtinKind id=some .slot)(hs:splitId id=some ("list",n))(hb:entryFor table id=some B)(ha:argsOk id ⟨.ref a::rest,[]⟩)(hc:wpAny (model C.prog C.w) A.in1 (B ⟨.ref a::rest,[]⟩) (λfin s'=>∃ v,fin=.done (.ret v)/\Q v s') E s):wpAny (model C.prog C.w) A (call (.builtin id) (.ref a::rest)) Q E s:=by
 cases S with
 |list ho=>exact wpAny_call_entry Sl ⟨_,ho,rfl⟩ hb hc ha
 |acc ho hd=>exact FO X (CC ho hd) HC.acMro hk hs Sl.plain hb ha hc
theorem Yt{i:Value}{nm:Str}(HI:Eb C)(X:C.K.In s.heap)(S:JV C s.heap a vs)(k:Q i s):wpAny (model C.prog C.w) A (sequenceKey (.ref a) i nm) Q E s:=by
 cases S with
 |list ho=>exact wpAny_sequenceKey (T := "list") ⟨_,ho,rfl⟩ (by decide) k
 |acc ho hd =>
  unfold sequenceKey
  refine wpAny_bind ((CC ho hd).type.here ?_)
  dsimp only
  have L:Looks (model C.prog C.w) s.heap (seqItemTypes.anyM λn=>isSubtype (.ref C.ACC) (.type n)) false:=by
   unfold seqItemTypes
   intro A Q E s' k' q
   rw[List.anyM_cons]
   refine wpAny_bind (looks_mroIn X HI.noDeque A _ E s' k' ?_)
   exact wpAny_pure q
  refine wpAny_bind (L.here ?_)
  rw[if_pos (by rfl)]
  exact wpAny_pure k
theorem Lr{id:String}{nm:Str}{rest:List Value}{Q:Option Value->Shared->Prop}(X:C.K.In s.heap)(S:JV C s.heap a vs)(Sl:Slot "list" nm id)(hf:findIn C.K (.ref C.ACC) nm=some (some (.builtin id)))(h:wpAny (model C.prog C.w) A (call (.builtin id) (.ref a::rest)) (λv s'=>Q (some v) s') E s):wpAny (model C.prog C.w) A (callSpecial? (.ref a) nm rest) Q E s:=by
 have L:Looks (model C.prog C.w) s.heap (specialOf (.ref a) nm) (some (.builtin id)):=by
  cases S with
  |list ho=>exact((Looks.ld ho).andThen .now).andThen (Looks.of_pure Sl.lookup)
  |acc ho hd=>exact(CC ho hd).type.andThen (looks_findIn X hf)
 unfold callSpecial?
 refine wpAny_bind (L.here ?_)
 dsimp only
 rw[Sl.bind]
 refine wpAny_holding (wpAny_bind (wpAny_pure ?_))
 exact wpAny_bind (wpAny_mono h (λv s' z=>wpAny_pure z) λuu uu z=>z)
theorem Lu{i:Value}(H:Aq C)(HC:Bg C)(HA:DV C)(HI:Eb C)(X:C.K.In s.heap)(S:JV C s.heap a vs)(h:wpAny (model C.prog C.w) A.in1 (Builtin.«list.__getitem__» ⟨[.ref a,i],[]⟩) (λfin s'=>∃ v,fin=.done (.ret v)/\Q v s') E s):wpAny (model C.prog C.w) A (getItem (.ref a) i) Q E s:=by
 unfold getItem
 refine wpAny_holding (wpAny_bind (Yt HI X S (wpAny_bind (Lr X S slot_list_getitem HA.gi (Q2 HC X S slot_list_getitem (.inl (by decide +kernel)) (n := "__getitem__") (by decide +kernel) entry_list_getitem (args_list_getitem _ _) (wpAny_mono h (λfin s' z=>?_) λuu uu z=>z))))))
 (refine Am (z) λv IF hq=>?_;clear z;subst IF)
 exact⟨v,rfl,wpAny_pure hq⟩
theorem HQ{i:Value}{Q:Unit->Shared->Prop}(H:Aq C)(HC:Bg C)(HA:DV C)(HI:Eb C)(X:C.K.In s.heap)(S:JV C s.heap a vs)(h:wpAny (model C.prog C.w) A.in1 (Builtin.«list.__setitem__» ⟨[.ref a,i,v],[]⟩) (λfin s'=>∃ v,fin=.done (.ret v)/\Q () s') E s):wpAny (model C.prog C.w) A (setItem (.ref a) i v) Q E s:=by
 unfold setItem
 refine wpAny_holding (wpAny_bind (Yt HI X S (wpAny_bind (Lr X S slot_list_setitem HA.si (Q2 HC X S slot_list_setitem (.inr (by decide +kernel)) (n := "__setitem__") (by decide +kernel) entry_list_setitem (args_list_setitem _ _ _) (wpAny_mono h (λfin s' z=>?_) λuu uu z=>z))))))
 (refine Am (z) λv IF hq=>?_;clear z;subst IF)
 exact⟨v,rfl,wpAny_pure hq⟩
theorem Q3{i:Int}(hi:-1000000000<=i/\i<1000000000):Builtin.List.listFitsIndex i=true:=by
 unfold Builtin.List.listFitsIndex
 simp only[Bool.and_eq_true,decide_eq_true_eq]
 omega
set_option tactic.hygienic true
theorem cH(h:seqIndex? (Int.ofNat m) n=some j):j=m:=by
 have e:seqIndex? (Int.ofNat m) n=some m\/seqIndex? (Int.ofNat m) n=none:=by
  unfold seqIndex?
  dsimp only
  split
  . rename_i h0;exact absurd h0 (by simp)
  . split
    . exact .inl rfl
    . exact .inr rfl
 rcases e with e|e
 . rw[e] at h;exact(Option.some.inj h).symm
 . rw[e] at h;exact ns h
set_option tactic.hygienic false
theorem Q4{x:Value}{Q:Option (Nat×Value)->Shared->Prop}(ho:s.heap.get? a=some o)(hd:o.data=.seq vs.toArray n)(hj:seqIndex? (Int.ofNat m) vs.length=some j)(hx:vs[j]?=some x)(q:Q (some (j,x)) s):wpAny (model C.prog C.w) A (seqItemAt a m >>= λr=>pure (r.map (m,·))) Q E s:=by
 have hx:vs.toArray[j]?=some x:=by simpa using hx
 rw[<- cH hj]
 refine wpAny_bind (wpAny_seqItemAt ho hd ?_)
 rw[hx]
 exact wpAny_pure q
theorem Q5{i:Int}{x:Value}{Q:Option (Nat×Value)->Shared->Prop}(ho:s.heap.get? a=some o)(hd:o.data=.seq vs.toArray n)(hj:seqIndex? i vs.length=some j)(hx:vs[j]?=some x)(q:Q (some (j,x)) s):wpAny (model C.prog C.w) A (Builtin.List.listItems (.ref a) >>= λxs=>pure ((seqIndex? i xs.size).bind λj=>xs[j]?.map (j,·))) Q E s:=by
 have hx:vs.toArray[j]?=some x:=by simpa using hx
 unfold Builtin.List.listItems
 refine wpAny_bind (wpAny_bind (wpAny_seqItems ho hd (wpAny_pure ?_)))
 rw[List.size_toArray,hj]
 dsimp only[Option.bind_some]
 rw[hx]
 exact wpAny_pure q
theorem cI{i:Int}{x:Value}{Q:Fin->Shared->Prop}(S:JV C s.heap a vs)(hi:-1000000000<=i/\i<1000000000)(hj:seqIndex? i vs.length=some j)(hx:vs[j]?=some x)(k:Q (.done (.ret x)) s) :
 wpAny (model C.prog C.w) A (Builtin.«list.__getitem__» ⟨[.ref a,.int i t],[]⟩) Q E s:=by
 obtain⟨o,n,ho,hd,-⟩:=S.obj
 show wpAny _ _ (Builtin.List.listSubscript? (.int i t) >>= _) _ _ s
 refine wpAny_bind (wpAny_listSubscript_int (Q3 hi) ?_)
 dsimp only
 cases i with
 |ofNat m=>exact wpAny_bind (Q4 ho hd hj hx (wpAny_pure k))
 |negSucc m=>exact wpAny_bind (Q5 ho hd hj hx (wpAny_pure k))
noncomputable def MU(σ:St)(x:AV):Option (List AV):=(Bq σ x).or (x.loc?.bind λl=>(Cj σ l).map λa=>a.2.map AK)
noncomputable def gZ(xs:List α)(i:Int):Option α:=(seqIndex? i xs.length).bind (xs[·]?)
noncomputable def HT(σ:St)(x:AV)(i:Int):Option AV:=if -1000000000<=i/\i<1000000000 then
 (x.str?.bind λy=>((seqIndex? i y.length).bind (y.cps[·]?)).map λc=>.str ⟨#[c]⟩).or ((x.tup?.bind λxs=>gZ xs i).or ((MU σ x).bind λxs=>gZ xs i)) else none
noncomputable def A0(f g:EM):EM:=λlc σ=>(f lc σ).bind λp=>(g lc p.2).bind λq=>q.1.int?.bind λi=>(HT q.2 p.1 i).map (·,q.2)
@[elab_as_elim] theorem Rel.asSeq_e(R:Rel C ρ σ s)(q:VR C ρ s.heap x v)(h:MU σ x=some xs){P:Value->Prop}(k:∀ a vs,JV C s.heap a vs->Bx C ρ s.heap xs vs->P (.ref a)):P v:=by
 refine oO h (λh=>R.asList_e q h λa vs n ho hs=>k a vs (.list ho) hs) λh=>oB h λl el h=>oM h λac hl e=>?_
 have q:VR C ρ s.heap (.loc l) v:=AV.loc_inv el▸q
 exact R.acc_e (B8 hl) q λa d es n n' vs uu ho hd he hs=>k a vs (.acc ho hd) (e▸hs)
theorem Gx(h:wpAny (model C.prog C.w) A (eval CU env) (λo s₁=>wpAny (model C.prog C.w) A (eval slice env) (λi Ai=>(∃ id,Looks (model C.prog C.w) Ai.heap (specialOf o "__getitem__") (some (.builtin id)))/\wpAny (model C.prog C.w) A (getItem o i) Q E Ai) E s₁) E s) :
 wpAny (model C.prog C.w) A (eval (.Subscript CU slice p) env) Q E s:=by
 rw[eval_Subscript]
 refine wpAny_bind (wpAny_mono h (λo s₁ AI=>wpAny_bind (wpAny_holding (wpAny_mono AI (λi Ai Dv=>wpAny_bind (wpAny_standAt ?_)) λuu uu x=>x))) λuu uu x=>x)
 obtain⟨⟨id,L⟩,hg⟩:=Dv
 have L2:Looks (model C.prog C.w) Ai.heap (getitemInPython o) false:=by
  unfold getitemInPython
  exact L.andThen .now
 refine wpAny_bind (L2.here ?_)
 have e:∃ ws,subscripted slice false o i=operate ws (getItem o i):=by
  cases slice with
  |Slice a b c p=>cases c<;>exact⟨_,rfl⟩
  | _=>exact⟨_,rfl⟩
 (refine CJ (e) λws e=>?_)
 rw[e]
 exact wpAny_bind (wpAny_operating (wpAny_mono hg (λr AJ GN=>wpAny_bind (wpAny_letTemporaryGo (wpAny_pure GN))) λuu uu x=>x))
theorem KQ{y:Str}{c:Nat}(ok:PyData.strOk y=true)(h:c∈y.cps.toList):PyData.strOk ⟨#[c]⟩=true:=by
 rw[GH] at ok ⊢
 intro b hb
 have:b=c:=by simpa using hb
 subst this
 exact ok b h
theorem UB(H:Aq C)(HC:Bg C)(HA:DV C)(HI:Eb C){i:Int}(h:HT σ x i=some z)(R:Rel C ρ σ s)(q:VR C ρ s.heap x v)(k:∀ w n,VR C ρ s.heap z w->Q w { s with toks:=n }):(∃ id,Looks (model C.prog C.w) s.heap (specialOf v "__getitem__") (some (.builtin id)))/\wpAny (model C.prog C.w) A (getItem v (.int i t)) Q E s:=by
 refine sf h λhi h=>oO h (λh=>oB h λy e1 h=>oM h λc hc e=>?_) λh=>oO h (λh=>oB h λxs e1 h=>oB h λj hj hx=>?_) λh=>oB h λxs pY h=>oB h λj hj hx=>?_
 . refine q.str_of e1 λt ok=>⟨⟨_,(Looks.of_pure (by rfl)).andThen (Looks.of_pure F.slot_str_getitem.lookup)⟩,P.getItem_str (by rw[decide_eq_false (by omega),decide_eq_false (by omega)];rfl) hc (k _ _ (e▸.str _ _ (KQ ok ?_)))⟩
   exact oB hc λj uu uT=>(Array.getElem?_eq_some_iff.mp uT).elim λDK e=>e▸Array.mem_toList_iff.mpr (Array.getElem_mem DK)
 . exact q.ES e1 λa vs n ho hm hs=>Am (hs.get hx) λw hv qv=>⟨⟨_,((Looks.ld ho).andThen .now).andThen (Looks.of_pure slot_tuple_getitem.lookup)⟩,getItem_tuple (items:=vs.toArray) ⟨_,ho,rfl,_,rfl⟩ (by omega) (by omega) (by rw[List.size_toArray,hs.length];exact hj) (by rw[List.getElem?_toArray];exact hv) (k _ _ qv)⟩
 . exact R.asSeq_e q pY λa vs SV hs=>Am (hs.get hx) λw hv qv=>⟨⟨_,SV.special H HA (R.kin H)⟩,Lu H HC HA HI (R.kin H) SV (cI SV hi (by rw[hs.length];exact hj) hv ⟨_,rfl,k _ _ qv⟩)⟩
theorem cJ(H:Aq C)(HC:Bg C)(HA:DV C)(HI:Eb C)(D1:AQ C d env Aa CU f)(D2:AQ C d env Aa slice g):AQ C d env Aa (.Subscript CU slice p) (A0 f g):=by
 intro lc σ y σ' hf A Q E s ρ hA R lr kk
 refine oB hf λx e1 hf=>oB hf λq e2 hf=>oB hf λi ei hf=>oM hf λz hz e3=>?_
 refine Gx (D1 _ _ _ _ e1 A _ E s ρ hA R lr λo s₁ Ad An Aj AA=>D2 _ _ _ _ e2 A _ E s₁ Ad hA An (lr.go Aj) λiv Ai AF Az Au BL=>?_)
 exact BL.int_of ei λti=>UB H HC HA HI hz Az (AA.go Au) λw n qw=>Hz kk e3 _ _ AF Az.toks (Aj.trans Au) qw
noncomputable def JW(lo hi:Option Int)(n:Nat):List Nat:=sliceRange (sliceBounds lo hi none n).1 (sliceBounds lo hi none n).2.1 (sliceBounds lo hi none n).2.2
noncomputable def IS(xs:List α)(ix:List Nat):List α:=ix.filterMap (xs[·]?)
noncomputable def C0(xs:List α)(lo hi:Option Int):List α:=IS xs (JW lo hi xs.length)
noncomputable def Yu(lo hi:Option Int)(n:Nat):Nat:=(sliceBounds lo hi none n).1.toNat
noncomputable def Yv(lo hi:Option Int)(n:Nat):Nat:=(max (sliceBounds lo hi none n).1 (sliceBounds lo hi none n).2.1).toNat
noncomputable def Dl(xs new:List α)(lo hi:Option Int):List α:=xs.take (Yu lo hi xs.length)++new++xs.drop (Yv lo hi xs.length)
noncomputable def NY:Option EM->Lc->St->Option (Option Int×St)
 |none,_,σ=>some (none,σ)
 |some f,lc,σ=>(f lc σ).bind λp=>p.1.int?.map λi=>(some i,p.2)
inductive NZ (C:Cfg) (d:Nat) (env:Env) (Aa:List Str):Option Expr->Option EM->Prop
 |none:NZ C d env Aa none none
 |some {e:Expr} {f:EM} (D:AQ C d env Aa e f):NZ C d env Aa (some e) (some f)
noncomputable def Cc(f:EM)(lo hi:Option EM):EM:=λlc σ=>(f lc σ).bind λp=>(NY lo lc p.2).bind λa=>(NY hi lc a.2).bind λb=>(MU b.2 p.1).bind λxs=>gd (decide (xs.length<=1000000)) (.lst (C0 xs a.1 b.1),b.2)
theorem Bx.pick(q:Bx C ρ h xs vs):∀ ix:List Nat,Bx C ρ h (IS xs ix) (IS vs ix)
 | []=>.nil
 |i::ix=>by
  unfold IS
  rw[List.filterMap_cons,List.filterMap_cons]
  cases hx:xs[i]? with
  |some x =>
   (refine Am (q.get hx) λv hv qv=>?_)
   rw[hv]
   exact .cons qv (q.pick ix)
  |none =>
   have:vs[i]?=none:=by
    rw[List.getElem?_eq_none_iff] at hx ⊢
    rw[q.length];exact hx
   rw[this]
   exact q.pick ix
theorem Ij{e:Option Expr}{f:Option EM}(D:NZ C d env Aa e f){x:Option Int}(hf:NY f lc σ=some (x,σ'))(hA:EL C d A)(R:Rel C ρ σ s)(lr:Cx C ρ s.heap env.locals Aa lc)(k:∀ v s' Ar,Rel C Ar σ' s'->Step C [] ρ Ar s.heap s'.heap->IsPart v x->Q v s'):wpAny (model C.prog C.w) A (evalPart e env) Q E s:=by
 have at_:∀ {y:Option Int} {σ₁:St},(y,σ₁)=(x,σ')->∀ v s' Ar,Rel C Ar σ₁ s'->Step C [] ρ Ar s.heap s'.heap->IsPart v y->Q v s':=λe v s' Ar R' S' q=>by cases e;exact k v s' Ar R' S' q
 cases D with
 |none=>exact wpAny_pure (at_ (Option.some.inj hf) _ _ _ R .refl .none)
 |some D=>exact oB hf λp e1 hf=>oM hf λi ei e=>D _ _ _ _ e1 A Q E s ρ hA R lr λv s' Ar R' S' q'=>q'.int_of ei λt=>at_ e _ _ _ R' S' (.int _ _)
theorem Q6{g:Option Int->Sem β}{Q:β->Shared->Prop}(uU:s.TypeIs (.ref sl) "slice")(q:wpAny (model C.prog C.w) A (g none) Q E s):wpAny (model C.prog C.w) A (Builtin.List.listSubscript? (.ref sl) >>= g) Q E s:=by
 refine wpAny_bind ?_
 unfold Builtin.List.listSubscript?
 refine wpAny_bind (wpAny_specialOf uU slice_no_index ?_)
 simp -iota only[Option.isNone_none,if_true]
 exact wpAny_pure q
theorem Lv{Q:Value×Value×Value->Shared->Prop}(hs:s.heap.IsSliceOf sl vl vu .none)(pl:IsPart vl lo)(pu:IsPart vu hi)(q:Q (rawPart lo,rawPart hi,rawPart none) s):wpAny (model C.prog C.w) A (Builtin.List.listSliceParts (.ref sl)) Q E s:=by
 (refine Ci (id hs) λos bQ eW pZ=>?_)
 rw[listSliceParts_eq]
 refine wpAny_bind (wpAny_field bQ pZ (x:=.none) rfl (wpAny_bind (wpAny_listPart .none ?_)))
 rw[if_neg (by decide)]
 refine wpAny_bind (wpAny_field bQ pZ (x:=vl) rfl (wpAny_bind (wpAny_listPart pl ?_)))
 exact wpAny_bind (wpAny_field bQ pZ (x:=vu) rfl (wpAny_bind (wpAny_listPart pu (wpAny_pure q))))
theorem Hf(hs:s.heap.IsSliceOf sl vl vu .none):s.TypeIs (.ref sl) "slice" := Ci hs λos a b uu=>⟨os,a,b⟩
theorem cK{c:Prop}[Decidable c]{x y:Sem β}{Q:β->Shared->Prop}(h:¬ c)(q:wpAny (model C.prog C.w) A y Q E s):wpAny (model C.prog C.w) A (if c then x else y) Q E s:=by rw[if_neg h];exact q
theorem k9{c:Prop}[Decidable c]{x y:Sem β}{Q:β->Shared->Prop}(h:c)(q:wpAny (model C.prog C.w) A x Q E s):wpAny (model C.prog C.w) A (if c then x else y) Q E s:=by rw[if_pos h];exact q
theorem get_slice{Q:Fin->Shared->Prop}(S:JV C s.heap a vs)(hs:s.heap.IsSliceOf sl vl vu .none)(pl:IsPart vl lo)(pu:IsPart vu hi)(hz:vs.length<=sizeLine)(k:Q (.done (.ret (.ref s.heap.objs.size))) { s with heap:=s.heap.push (Ck (C0 vs lo hi) 0) }) :
 wpAny (model C.prog C.w) A (Builtin.«list.__getitem__» ⟨[.ref a,.ref sl],[]⟩) Q E s:=by
 obtain⟨o,n,ho,hd,-⟩:=S.obj
 show wpAny _ _ (Builtin.List.listSubscript? (.ref sl) >>= _) _ _ s
 refine Q6 (Hf hs) ?_
 show wpAny _ _ (typeOf (.ref sl) >>= _) _ _ s
 refine wpAny_bind (wpAny_typeOf (Hf hs) (cK (by decide) (wpAny_bind (Lv hs pl pu ?_))))
 dsimp only
 refine wpAny_bind (m:=Builtin.List.listItems (.ref a)) ?_
 unfold Builtin.List.listItems
 refine wpAny_bind (wpAny_seqItems ho hd (wpAny_pure ?_))
 refine wpAny_bind (wpAny_of_eq (sliceIndices_raw lo hi none vs.toArray.size (by simp)) ?_)
 have e:((sliceRange (sliceBounds lo hi none vs.toArray.size).1 (sliceBounds lo hi none vs.toArray.size).2.1 (sliceBounds lo hi none vs.toArray.size).2.2).filterMap (vs.toArray[·]?))=C0 vs lo hi:=by
  unfold C0 IS JW
  rw[List.size_toArray]
  congr 1
  funext i
  simp
 refine wpAny_bind (wpAny_newObj_type ?_ (Nat.le_trans (slicePick_size_le vs.toArray lo hi none) (by simpa using hz)))
 rw[e]
 exact wpAny_pure k
theorem VK(H:Aq C)(HC:Bg C)(HA:DV C)(HI:Eb C){lo hi:Option Expr}{ps:Pos}(D1:AQ C d env Aa CU f)(D2:NZ C d env Aa lo fl)(D3:NZ C d env Aa hi fh) :
 AQ C d env Aa (.Subscript CU (.Slice lo hi none ps) p) (Cc f fl fh):=by
 intro lc σ y σ' hf A Q E s ρ hA R lr kk
 refine oB hf λx e1 hf=>oB hf λai e2 hf=>oB hf λbi e3 hf=>oB hf λxs pY hf=>oG hf λhz e9=>?_
 refine Gx (D1 _ _ _ _ e1 A _ E s ρ hA R lr λo s₁ Ad An Aj AA=>wpAny_Slice ?_)
 refine Ij D2 e2 hA An (lr.go Aj) λvl Ai AF Az Au pl=>?_
 refine Ij D3 e3 hA Az (lr.go (Aj.trans Au)) λvu AJ By BY BV pu=>?_
 rw[evalPart_none]
 refine wpAny_pure ?_
 have GO:=BY.push { cls:=.type "slice",data:=.fields #[vl,vu,.none] } (n:=AJ.toks)
 have FR:Step C [] By By AJ.heap (AJ.heap.push { cls:=.type "slice",data:=.fields #[vl,vu,.none] }):=.pushObj _
 refine GO.asSeq_e (((AA.go Au).go BV).go FR) pY λa vs SV hs=>?_
 refine⟨⟨_,SV.special H HA (GO.kin H)⟩,Lu H HC HA HI (GO.kin H) SV (get_slice SV (Heap.IsSliceOf.new ..) pl pu (by rw[hs.length];exact Nat.le_trans (of_decide_eq_true hz) (by decide)) ⟨_,rfl,?_⟩)⟩
 have Q7:Step C [] By By (AJ.heap.push { cls:=.type "slice",data:=.fields #[vl,vu,.none] }) ((AJ.heap.push { cls:=.type "slice",data:=.fields #[vl,vu,.none] }).push (Ck (C0 vs ai.1 bi.1) 0)):=.pushObj _
 refine Hz kk e9 _ _ By (GO.push (Ck (C0 vs ai.1 bi.1) 0) (n:=AJ.toks)) ((((Aj.trans Au).trans BV).trans FR).trans Q7) (.lst (vs:=C0 vs ai.1 bi.1) (n:=0) (Heap.get?_push_size _ rfl) GO.fresh ?_)
 have pk:=(hs.go Q7).pick (JW ai.1 bi.1 xs.length)
 have e:IS vs (JW ai.1 bi.1 xs.length)=C0 vs ai.1 bi.1:=by unfold C0;rw[hs.length]
 rw[e] at pk
 exact pk
theorem VL(f:α->β)(xs new:List α)(lo hi:Option Int):Dl (xs.map f) (new.map f) lo hi=(Dl xs new lo hi).map f:=by
 unfold Dl
 simp
theorem VM(xs new:List α)(lo hi:Option Int):(Dl xs new lo hi).length<=xs.length+new.length+xs.length:=by
 unfold Dl
 simp -iota only[List.length_append,List.length_take,List.length_drop]
 exact Nat.add_le_add (Nat.add_le_add (Nat.min_le_right _ _) (Nat.le_refl _)) (Nat.sub_le _ _)
theorem Bx.Dl{new:List AV}(q:Bx C ρ h xs vs)(q':Bx C ρ h new ws)(lo hi:Option Int):Bx C ρ h (Dl xs new lo hi) (Dl vs ws lo hi):=by
 unfold Mine.Internal.Dl
 rw[q.length]
 exact((q.take _).append q').append (q.drop _)
theorem MV:vs.toArray.extract 0 (sliceBounds lo hi none vs.toArray.size).1.toNat++ws.toArray++vs.toArray.extract (max (sliceBounds lo hi none vs.toArray.size).1 (sliceBounds lo hi none vs.toArray.size).2.1).toNat vs.toArray.size=(Dl vs ws lo hi).toArray:=by
 unfold Dl Yu Yv
 rw[List.size_toArray]
 generalize (sliceBounds lo hi none vs.length).1=x
 generalize (sliceBounds lo hi none vs.length).2.1=y
 apply Array.toList_inj.mp
 simp -iota [List.take_of_length_le]
theorem VN{er:String}{Q:Array Value->Shared->Prop}(hb:s.heap.get? b=some (Ck ws m))(q:Q ws.toArray s):wpAny (model C.prog C.w) A (Builtin.List.listAllItems (.ref b) er) Q E s:=by
 unfold Builtin.List.listAllItems
 refine wpAny_bind (wpAny_typeOf ⟨_,hb,rfl⟩ (k9 (by decide) ?_))
 unfold Builtin.List.listItems
 exact wpAny_bind (wpAny_seqItems hb rfl (wpAny_pure q))
theorem Ow{Q:Fin->Shared->Prop}(ho:s.heap.get? a=some ⟨c,dd,.seq vs.toArray n,nV⟩)(hb:s.heap.get? b=some (Ck ws m))(NR:a≠b)(hs:s.heap.IsSliceOf sl vl vu .none)(pl:IsPart vl lo)(pu:IsPart vu hi)(hz:vs.length<=1000000)(hw:ws.length<=1000000)(k:∀ h',Heap.SameBut a s.heap h'->(∃ n',h'.get? a=some ⟨c,dd,.seq (Dl vs ws lo hi).toArray n',nV⟩)->Q (.done (.ret .none)) { s with heap:=h' }) :
 wpAny (model C.prog C.w) A (Builtin.«list.__setitem__» ⟨[.ref a,.ref sl,.ref b],[]⟩) Q E s:=by
 have hTb:s.TypeIs (.ref b) "list" := ⟨_,hb,rfl⟩
 have hzl:(sizeLine:Nat)=16777216:=sizeLine_eq
 show wpAny _ _ (Builtin.List.listSubscript? (.ref sl) >>= _) _ _ s
 refine Q6 (Hf hs) ?_
 show wpAny _ _ (typeOf (.ref sl) >>= _) _ _ s
 refine wpAny_bind (wpAny_typeOf (Hf hs) (cK (by decide) (wpAny_bind (Lv hs pl pu ?_))))
 have same:Builtin.List.listSameRef (.ref a) (.ref b)=false:=by
  show(a==b)=false
  exact beq_false_of_ne NR
 refine cK (λz=>Bool.false_ne_true (same.symm.trans z)) (wpAny_bind (VN hb ?_))
 refine wpAny_bind (wpAny_bind (wpAny_seqItems ho rfl (wpAny_pure ?_)))
 refine wpAny_bind (wpAny_of_eq (sliceIndices_raw lo hi none vs.toArray.size (by simp)) ?_)
 refine k9 rfl (wpAny_bind (wpAny_rule ?_))
 have tl:Builtin.List.listTooLong (vs.toArray.size+ws.toArray.size)=false:=by
  unfold Builtin.List.listTooLong
  rw[List.size_toArray,List.size_toArray]
  exact decide_eq_false (by omega)
 refine cK (λz=>Bool.false_ne_true (tl.symm.trans z)) (wpAny_bind ?_)
 show wpAny _ _ (updateSeq a _) _ _ _
 have QK:(vs.toArray.extract 0 (sliceBounds lo hi none vs.toArray.size).1.toNat++ws.toArray++vs.toArray.extract (max (sliceBounds lo hi none vs.toArray.size).1 (sliceBounds lo hi none vs.toArray.size).2.1).toNat vs.toArray.size).size<=sizeLine+1:=by
  rw[MV,List.size_toArray]
  have:=VM vs ws lo hi
  omega
 refine wpAny_updateSeq ho rfl ?_ (hz:=by rw[List.size_toArray];omega) (_hz':=QK)
 refine wpAny_bind (wpAny_letGo (wpAny_pure ?_))
 have gt:=Ek ho (λxs=>xs.extract 0 (sliceBounds lo hi none vs.toArray.size).1.toNat++ws.toArray++xs.extract (max (sliceBounds lo hi none vs.toArray.size).1 (sliceBounds lo hi none vs.toArray.size).2.1).toNat xs.size)
 have ee:=MV (vs:=vs) (ws:=ws) (lo:=lo) (hi:=hi)
 rw[ee] at gt
 exact k _ (Heap.SameBut.update ..) ⟨_,gt⟩
noncomputable def partsOf:List AV->Option (List (Str×Str))
 | []=>some []
 |x::xs=>(KL x).bind λp=>(partsOf xs).map (p::·)
theorem MW:∀ {xs:List AV} {ps:List (Str×Str)},partsOf xs=some ps->xs=ps.map AK
 | [],_,h=>Option.some.inj h▸rfl
 |x::xs,ps,h=>oB h λp e1 h=>oM h λq e2 e=>by rw[Oi e1,MW e2,<- e];rfl
noncomputable def Ox(l:Nat)(a b:Option Int)(v:AV)(σ:St):Option St:=(Bq σ v).bind λnew =>
 ((Cj σ l).bind λac=>(partsOf new).bind λqs=>gd (decide (ac.2.length<=1000000/\qs.length<=1000000)) (σ.set l (.acc ac.1 (Dl ac.2 qs a b)))).or
 ((CT σ l).bind λxs=>v.lst?.bind λ_=>gd (decide (xs.length<=1000000/\new.length<=1000000)) (σ.set l (.list (Dl xs new a b))))
noncomputable def Hg(g:EM)(lo hi:Option EM)(f:EM):SM:=λlc σ=>(f lc σ).bind λv=>(g lc v.2).bind λo=>o.1.loc?.bind λl=>(NY lo lc o.2).bind λa=>(NY hi lc a.2).bind λb=>(Ox l a.1 b.1 v.1 b.2).map (.next,lc,·)
theorem VO(H:Aq C)(HC:Bg C)(HA:DV C)(HI:Eb C){v:AV}{vv:Value}{Q:Unit->Shared->Prop}(h:Ox l lo hi v σ=some σ')(R:Rel C ρ σ s)(qo:VR C ρ s.heap (.loc l) vo)(qv:VR C ρ s.heap v vv)(hs:s.heap.IsSliceOf sl vl vu .none)(pl:IsPart vl lo)(pu:IsPart vu hi)(k:∀ s',Rel C ρ σ' s'->Step C [] ρ ρ s.heap s'.heap->Q () s'):wpAny (model C.prog C.w) A (setItem vo (.ref sl) vv) Q E s:=by
 refine oB h λnew hn h=>oO h (λh=>oB h λac hl h=>oB h λqs hq h=>oG h λhz e=>?_) λh=>oB h λxs hl h=>oB h λys ev h=>oG h λhz e=>?_
 . have hz:=of_decide_eq_true hz
   refine R.acc_e (B8 hl) qo λa d es n n' vs e0 ho hd he UC=>R.asList_e qv hn λb ws m hb fb=>?_
   have NR:a≠b:=λz=>Value.noConfusion (congrArg Obj.cls (Option.some.inj ((z▸ho:s.heap.get? b=_).symm.trans hb)))
   have lv:vs.length=ac.2.length:=by rw[UC.length,List.length_map]
   have ew:=MW hq
   have lw:ws.length=qs.length:=by rw[fb.length,ew,List.length_map]
   refine HQ H HC HA HI (R.kin H) (.acc ho hd) (Ow ho hb NR hs pl pu (lv▸hz.1) (lw▸hz.2) λh' DW hget=>⟨_,rfl,CJ hget λsY gt=>?_⟩)
   have S:Step C [] ρ ρ s.heap h':=Dk (.inr ⟨_,List.mem_of_getElem? e0,.inl rfl⟩) DW
   rw[ew] at fb
   have QO:=(UC.go S).Dl (fb.go S) lo hi
   rw[VL] at QO
   exact AS (R.upd (n:=s.toks) e0 (.inl rfl) DW (.acc gt ((DW.2 _ (QJ ho hd)).trans hd) (he.go S) QO) rfl) λR' S'=>k _ (e▸R') S'
 . have hz:=of_decide_eq_true hz
   have en:new=ys:=by
    rw[AV.lst_inv ev] at hn
    exact(Option.some.inj hn).symm
   rw[en] at hz e
   refine R.list_e (Ei hl) qo λa vs n e0 ho UC=>qv.lst_of ev λb ws m hb uV fb=>?_
   have NR:a≠b:=λz=>uV (z▸.inr ⟨_,List.mem_of_getElem? e0,.inl rfl⟩)
   refine HQ H HC HA HI (R.kin H) (.list ho) (Ow ho hb NR hs pl pu (UC.length▸hz.1) (fb.length▸hz.2) λh' DW hget=>⟨_,rfl,CJ hget λsY gt=>?_⟩)
   have S:Step C [] ρ ρ s.heap h':=Dk (.inr ⟨_,List.mem_of_getElem? e0,.inl rfl⟩) DW
   exact AS (R.upd (n:=s.toks) e0 (.inl rfl) DW (.list gt ((UC.go S).Dl (fb.go S) lo hi)) rfl) λR' S'=>k _ (e▸R') S'
set_option tactic.hygienic true
theorem VP(H:Aq C)(HC:Bg C)(HA:DV C)(HI:Eb C){o:Expr}{lo hi:Option Expr}(D0:AQ C d env Aa CU f)(D1:AQ C d env Aa o g)(D2:NZ C d env Aa lo fl)(D3:NZ C d env Aa hi fh)(hs:swapsWith CU (some (.Subscript o (.Slice lo hi none CI) p')) p.line env=pure false):E4 C d env Aa (.Assign [.Subscript o (.Slice lo hi none CI) p'] CU p) (Hg g fl fh f):=by
 intro lc σ flw lc' σ' hf A Q E s ρ hA R lr kk
 refine oB hf λv e1 hf=>oB hf λoo e2 hf=>oB hf λl el hf=>oB hf λai e3 hf=>oB hf λbi e4 hf=>oM hf λla hp e9=>?_
 refine wpAny_Assign_Subscript (D0 _ _ _ _ e1 A _ E s ρ hA R lr λvv s₁ Ad An Aj AA=>D1 _ _ _ _ e2 A _ E s₁ Ad hA An (lr.go Aj) λov Ai AF Az Au BL=>wpAny_Slice ?_) hs
 refine Ij D2 e3 hA Az (lr.go (Aj.trans Au)) λvl AJ By BY BV pl=>Ij D3 e4 hA BY (lr.go ((Aj.trans Au).trans BV)) λvu Jd JX GO FR pu=>?_
 rw[evalPart_none]
 refine wpAny_pure ?_
 have Q7:Step C [] JX JX Jd.heap (Jd.heap.push { cls:=.type "slice",data:=.fields #[vl,vu,.none] }):=.pushObj _
 have T:=(BV.trans FR).trans Q7
 exact VO H HC HA HI hp (GO.push { cls:=.type "slice",data:=.fields #[vl,vu,.none] } (n:=Jd.toks)) ((AV.loc_inv el▸BL).go T) (AA.go (Au.trans T)) (Heap.IsSliceOf.new ..) pl pu λs' R' S' =>
  Pj kk e9 _ s' JX R' (((Aj.trans Au).trans T).trans S').of_nil (lr.go (((Aj.trans Au).trans T).trans S')) .next
noncomputable def Yw(op:Operator)(a b:AV):Option AV:=match op with
 | .Add=>(a.str?.bind λx=>b.str?.bind λy=>gd (decide (x.length+y.length<=1000000)) (.str (x++y))).or (a.int?.bind λx=>b.int?.map λy=>.int (x+y))
 | _=>none
set_option tactic.hygienic false
theorem Yx{vx vy:Value}(R:Rel C ρ σ s)(qx:VR C ρ s.heap x vx)(qy:VR C ρ s.heap y vy)(h:Yw op x y=some z)(k:∀ v s',Rel C ρ σ s'->Step C [] ρ ρ s.heap s'.heap->VR C ρ s'.heap z v->Q v s'):wpAny (model C.prog C.w) A (inplaceOp op vx vy) Q E s:=by
 cases op with
 |Add =>
  refine oO (show((x.str?.bind λa=>y.str?.bind λb=>gd (decide (a.length+b.length<=1000000)) (AV.str (a++b))).or (x.int?.bind λa=>y.int?.map λb=>AV.int (a+b)))=some z from h) (λh=>oB h λa e1 h=>oB h λb e2 h=>oG h λhz e=>?_) λh=>oB h λa e1 h=>oM h λb e2 e=>?_
  . exact qx.str_of e1 λuu o1=>qy.str_of e2 λuu o2=>PyProof.Rows.iadd_str (λt' tk=>k _ _ R.toks .refl (e▸.str _ _ (Eu o1 o2))) (Nat.le_trans (of_decide_eq_true hz) (by decide))
  . exact qx.int_of e1 λuu=>qy.int_of e2 λuu=>wpAny_iadd_int (k _ _ R.toks .refl (e▸.int _ _))
 | _=>exact ns h
theorem set_int{i:Int}{Q:Fin->Shared->Prop}(ho:s.heap.get? a=some ⟨c,dd,.seq vs.toArray n,nV⟩)(hi:-1000000000<=i/\i<1000000000)(hj:seqIndex? i vs.length=some j)(DK:j<vs.length)(k:∀ h',Heap.SameBut a s.heap h'->(∃ n',h'.get? a=some ⟨c,dd,.seq (vs.set j v).toArray n',nV⟩)->Q (.done (.ret .none)) { s with heap:=h' }) :
 wpAny (model C.prog C.w) A (Builtin.«list.__setitem__» ⟨[.ref a,.int i t,v],[]⟩) Q E s:=by
 have x:=List.getElem?_eq_getElem DK
 have fin:∀ (B:Sem Fin),B=(do setSeqItemAt a j v;pure (.done (.ret .none)))->wpAny (model C.prog C.w) A B Q E s:=by
  rintro B rfl
  refine wpAny_bind (wpAny_setSeqItemAt ho rfl (wpAny_pure ?_))
  have gt:=Ek ho (λxs=>xs.setIfInBounds j v)
  have e:vs.toArray.setIfInBounds j v=(vs.set j v).toArray:=by simp
  rw[e] at gt
  exact k _ (Heap.SameBut.update ..) ⟨_,gt⟩
 show wpAny _ _ (Builtin.List.listSubscript? (.int i t) >>= _) _ _ s
 refine wpAny_bind (wpAny_listSubscript_int (Q3 hi) ?_)
 dsimp only
 cases i with
 |ofNat m=>exact wpAny_bind (Q4 ho rfl hj x (fin _ rfl))
 |negSucc m=>exact wpAny_bind (Q5 ho rfl hj x (fin _ rfl))
theorem Bx.set(q:Bx C ρ h xs vs)(qx:VR C ρ h x v):Bx C ρ h (xs.set j x) (vs.set j v):=by
 refine q.ind (P:=λxs vs=>∀ j,Bx C ρ h (xs.set j x) (vs.set j v)) (λuu=>.nil) (λa b ih j=>?_) j
 cases j with
 |zero=>exact .cons qx b
 |succ j=>exact .cons a (ih j)
noncomputable def putAt(l:Nat)(i:Int)(z:AV)(σ:St):Option St:=(CT σ l).bind λxs=>if -1000000000<=i/\i<1000000000 then (seqIndex? i xs.length).bind λj=>gd (decide (j<xs.length)) (σ.set l (.list (xs.set j z))) else none
theorem cL(H:Aq C)(HC:Bg C)(HA:DV C)(HI:Eb C){i:Int}{Q:Unit->Shared->Prop}(h:putAt l i z σ=some σ')(R:Rel C ρ σ s)(qo:VR C ρ s.heap (.loc l) vo)(qz:VR C ρ s.heap z v)(k:∀ s',Rel C ρ σ' s'->Step C [] ρ ρ s.heap s'.heap->Q () s'):wpAny (model C.prog C.w) A (setItem vo (.int i t) v) Q E s:=by
 refine oB h λxs hl h=>sf h λhi h=>oB h λj hj h=>oG h λDK e=>R.list_e (Ei hl) qo λa vs n e0 ho UC=>?_
 refine HQ H HC HA HI (R.kin H) (.list ho) (set_int ho hi (by rw[UC.length];exact hj) (by rw[UC.length];exact of_decide_eq_true DK) λh' DW hget=>⟨_,rfl,CJ hget λsY gt=>?_⟩)
 have S:Step C [] ρ ρ s.heap h':=Dk (.inr ⟨_,List.mem_of_getElem? e0,.inl rfl⟩) DW
 exact AS (R.upd (n:=s.toks) e0 (.inl rfl) DW (.list gt ((UC.go S).set (qz.go S))) rfl) λR' S'=>k _ (e▸R') S'
noncomputable def Ez(g ix:EM)(op:Operator)(f:EM):SM:=λlc σ=>(g lc σ).bind λo=>o.1.loc?.bind λl=>(ix lc o.2).bind λq=>q.1.int?.bind λi=>(HT q.2 o.1 i).bind λx=>(f lc q.2).bind λr=>(Yw op x r.1).bind λz=>(putAt l i z r.2).map (.next,lc,·)
set_option tactic.hygienic true
theorem SH(H:Aq C)(HC:Bg C)(HA:DV C)(HI:Eb C){o i:Expr}(D1:AQ C d env Aa o g)(D2:AQ C d env Aa i ix)(D3:AQ C d env Aa CU f)(hst:∀ ov iv new,augStore i ov iv new=(do holding [new,ov,iv] (setItem ov iv new);release [new,ov,iv] [];pure .next)) :
 E4 C d env Aa (.AugAssign (.Subscript o i p') op CU p) (Ez g ix op f):=by
 intro lc σ fl lc' σ' hf A Q E s ρ hA R lr kk
 refine oB hf λoo e1 hf=>oB hf λl el hf=>oB hf λiq e2 hf=>oB hf λiv ei hf=>oB hf λx hx hf=>oB hf λy e3 hf=>oB hf λz hz hf=>oM hf λla hp e9=>?_
 refine wpAny_AugAssign_SubscriptAny (D1 _ _ _ _ e1 A _ E s ρ hA R lr λov s₁ Ad An Aj AA=>D2 _ _ _ _ e2 A _ E s₁ Ad hA An (lr.go Aj) λvi Ai AF Az Au BL=>?_) hst
 refine BL.int_of ei λti=>(UB H HC HA HI hx Az (AA.go Au) λw n qw=>?_).2
 refine D3 _ _ _ _ e3 A _ E _ AF hA Az.toks (lr.go (Aj.trans Au)) λw AJ By BY BV Gg=>?_
 refine Yx BY (qw.go BV) Gg hz λu Jd GO FR g5=>?_
 have T:=(Au.trans BV).trans FR
 exact cL H HC HA HI hp GO ((AV.loc_inv el▸AA).go T) g5 λs' R' S'=>Pj kk e9 _ s' By R' ((Aj.trans T).trans S').of_nil (lr.go ((Aj.trans T).trans S')) .next
set_option tactic.hygienic false
theorem VQ{it l:Addr}{items}{Q:Option Value->Shared->Prop}(hh:A.handled=none)(KC:s.heap.IsTupleIter it l i)(hl:s.heap.IsTuple l items)(hx:items[i]?=none)(hQ:∀ h',Heap.ExtBut it s.heap h'->s.heap.objs.size<=h'.objs.size->Q none { s with heap:=h' }):wpAny (model C.prog C.w) A (pyNext (.ref it)) Q E s:=by
 (refine Ci (id KC) λo ho hc hd=>?_)
 refine Am hl λol gN z=>CJ z.2 λnl kB=>?_
 unfold pyNext
 refine wpAny_bind (wpAny_attempt (wpAny_callSpecial?_slot (name:=Str.ofString "__next__") KC.typeIs F.slot_tuple_iterator_next
  (wpAny_call_entry F.slot_tuple_iterator_next KC.typeIs F.entry_tuple_iterator_next ?_ (F.args_tuple_iterator_next_1 _))))
 show wpAny _ _ (field (.ref it) 0 >>= _) _ _ s
 refine wpAny_bind (wpAny_field ho hd (x:=.ref l) rfl ?_)
 show wpAny _ _ (if (Value.ref l==Value.none)=true then _ else _) _ _ s
 rw[if_neg (show ¬ ((Value.ref l==Value.none)=true) from Bool.false_ne_true)]
 show wpAny _ _ (field (.ref it) 1 >>= _) _ _ s
 refine wpAny_bind (wpAny_field ho hd (x:=.int i 0) rfl ?_)
 show wpAny _ _ (seqItems? (.ref l) >>= _) _ _ s
 refine wpAny_bind (wpAny_seqItems gN kB ?_)
 simp only[Int.toNat_natCast,hx]
 exact Om hh ho hd (by simp) _ hQ
theorem unpack_tuple{t:Addr}{items:Array Value}{Q:List Value->Shared->Prop}(hh:A.handled=none)(ht:s.heap.IsTuple t items)(hQ:∀ h',(∀ b o,s.heap.get? b=some o->h'.get? b=some o)->s.heap.objs.size<=h'.objs.size->Q items.toList { s with heap:=h' }):wpAny (model C.prog C.w) A (unpackItems (.ref t) items.size none) Q E s:=by
 have DK:t≠s.heap.objs.size:=by (refine Am (ht) λo ho uu=>?_;clear ht);exact Nat.ne_of_lt (Heap.lt_size ho)
 unfold unpackItems
 refine wpAny_bind ?_
 unfold notIterableAtAll
 refine wpAny_bind (wpAny_specialOf ht.typeIs F.slot_tuple_iter.lookup ?_)
 refine wpAny_pure ?_
 simp only[Bool.false_eq_true,if_false]
 refine wpAny_bind (wpAny_holding (wpAny_pyIter_tuple ht ?_))
 refine wpAny_bind (wpAny_holding (wpAny_draw_tuple DK items.size 0 _ _ ⟨_,Heap.get?_push_size _ rfl,rfl,rfl⟩ (ht.push _) (by omega) λAI g6 El=>?_))
 have p7:List.take items.size (List.drop 0 items.toList)=items.toList:=by
  rw[List.drop_zero];exact List.take_of_length_le (by simp)
 rw[p7]
 rw[if_neg (by simp)]
 have lb:AI.IsTuple t items:=(ht.push _).extBut El.extBut DK
 refine wpAny_bind (wpAny_holding (VQ hh g6 lb (by simp) λDv lh SI=>?_))
 simp only[Option.isSome_none,Bool.false_eq_true,if_false]
 have z1:AI.objs.size=s.heap.objs.size+1:=by rw[El.1];exact Heap.size_push ..
 refine wpAny_pure (hQ Dv (λb o e=>?_) (by have:AI.objs.size<=Dv.objs.size:=SI;omega))
 have hb:b≠s.heap.objs.size:=Nat.ne_of_lt (Heap.lt_size e)
 exact lh b o hb (El.extBut b o hb (Heap.get?_push_of_some _ e))
noncomputable def SJ(i j:Nat)(f:EM):SM:=λlc σ=>(f lc σ).bind λp=>p.1.tup?.bind λxs=>(JG xs).bind λxy=>(putL lc i xy.1).bind λlc₁=>(putL lc₁ j xy.2).map (.next,·,p.2)
theorem Oy(He:Bi env Aa){n m:Str}(hi:Aa[i]?=some n)(hj:Aa[j]?=some m){CD:Lc}{w:Value}(h1:putL lc i x=some lc₁)(h2:putL lc₁ j y=some CD){t:Addr}{nn:Nat}(hh:A.handled=none)(R:Rel C ρ σ s)(lr:Cx C ρ s.heap env.locals Aa lc)(ho:s.heap.get? t=some (Pf [v,w] nn))(qx:VR C ρ s.heap x v)(qy:VR C ρ s.heap y w){Q:Unit->Shared->Prop}(k:∀ s',Rel C ρ σ s'->Step C [env.locals] ρ ρ s.heap s'.heap->Cx C ρ s'.heap env.locals Aa CD->Q () s'):wpAny (model C.prog C.w) A (assign (.Tuple [.Name n pa,.Name m pb] k0 pt) env (.ref t)) Q E s:=by
 rw[arm_assign_Tuple]
 refine wpAny_bind (wpAny_standAt ?_)
 unfold unpack
 refine wpAny_bind (wpAny_holding (unpack_tuple (items:=#[v,w]) hh ⟨_,ho,rfl,_,rfl⟩ λh' kp z=>?_))
 have R':Rel C ρ σ { s with heap:=h' }:=R.same kp z R.gens rfl rfl
 have S':Step C [] ρ ρ s.heap h':=.same kp z
 show wpAny _ _ (do holding [w] (assign (.Name n pa) env v);do holding [] (assign (.Name m pb) env w);pure ()) _ _ _
 refine wpAny_bind (wpAny_holding (wpAny_assign_Name (Ea He hi h1 R' (lr.go S') (qx.go S') λs₁ An Aj Ew=>?_)))
 have uW:∀ a o vs n,a∈[env.locals]->h'.get? a=some o->o.data≠.seq vs n:=CA (lr.go S').1.choose_spec.1
 refine wpAny_bind (wpAny_holding (wpAny_assign_Name (Ea He hj h2 An Ew ((qy.go S').step Aj uW) λAi Az Au Cu=>wpAny_pure ?_)))
 exact k Ai Az ((S'.of_nil.trans Aj).trans Au) Cu
noncomputable def CM(nx:St->Nat->Option (Option AV))(st:Lc->AV->Option Lc)(B O:SM):Nat->Nat->SM
 | 0,_,_,_=>none
 |fuel+1,i,lc,σ=>(nx σ i).bind λo=>match o with
  |some x=>(st lc x).bind λlc₁=>(B lc₁ σ).bind λt=>match t.1 with
   | .next=>CM nx st B O fuel (i+1) t.2.1 t.2.2
   | .cont=>CM nx st B O fuel (i+1) t.2.1 t.2.2
   | .brk=>some (.next,t.2)
   | .ret v=>some (.ret v,t.2)
  |none=>O lc σ
structure LoopAt (C:Cfg) (env:Env) (Aa:List Str) (Is:List Addr) (nx:St->Nat->Option (Option AV)) (st:Lc->AV->Option Lc) (B O:SM) (Inv:Nat->D7->Heap->Prop) (r:Fl×Lc×St) (ρ:D7) (h:Heap) (n i:Nat) (lc:Lc) (σ:St) (Ad:D7) (u:Shared):Prop where
 run:CM nx st B O n i lc σ=some r
 R:Rel C Ad σ u
 l:Cx C Ad u.heap env.locals Aa lc
 I:Inv i Ad u.heap
 m:∀ J∈Is,¬ Ds C Ad J
 S:Step C (env.locals::Is) ρ Ad h u.heap
theorem Rel.iter(R:Rel C ρ σ s)(ho:s.heap.get? I=some o)(KN:∀ vs n,o.data≠.seq vs n)(JF:o.cls≠.type "code")(hm:¬ Ds C ρ I)(hl:C.s₁.heap.objs.size<=I)(k:∀ b o,b≠I->s.heap.get? b=some o->h'.get? b=some o)(z:s.heap.objs.size<=h'.objs.size):Rel C ρ σ { s with heap:=h',toks:=n }/\Step C [I] ρ ρ s.heap h' :=
 R.moves (Is:=[I]) (λJ hJ=>List.mem_singleton.mp hJ▸⟨o,ho,KN,λz=>absurd z JF⟩) (λJ hJ=>List.mem_singleton.mp hJ▸hm) (λJ hJ=>List.mem_singleton.mp hJ▸hl) (λb o hb e=>k b o (λz=>hb (List.mem_singleton.mpr z)) e) z
theorem Cx.iter(q:Cx C ρ h L Aa lc)(S:Step C [I] ρ ρ h h')(Gj:L≠I)(ho:h.get? I=some o)(KN:∀ vs n,o.data≠.seq vs n):Cx C ρ h' L Aa lc:=by
 refine⟨Am q.1 λm hn hv=>⟨m,hn.at λo e=>S.keep _ _ e q.2.1 (by rw[List.mem_singleton];exact Gj),λi x e=>Dt (hv i x e) λn v a b c=>(B6 n v ⟨a,b,c.step S (FE ho KN)⟩)⟩,q.2.1,q.2.2⟩
structure KR (C:Cfg) (d:Nat) (env:Env) (Aa:List Str) (I:Addr) (Is:List Addr) (Bh:Expr) (nx:St->Nat->Option (Option AV)) (st:Lc->AV->Option Lc) (Inv:Nat->D7->Heap->Prop):Prop where
 keep:∀ i ρ Ar h h',Inv i ρ h->(∀ J∈Is,¬ Ds C ρ J)->(∀ a o vs n,a∈[env.locals]->h.get? a=some o->o.data≠.seq vs n)->Step C [env.locals] ρ Ar h h'->Inv i Ar h'
 here:∀ i ρ h,Inv i ρ h->∀ J∈Is,∃ o,h.get? J=some o
 next:∀ (A:Around) i lc lc₁ σ ρ s x (Q:Shared->Prop) (E':Value->Shared->Prop),EL C d A->Rel C ρ σ s->Cx C ρ s.heap env.locals Aa lc->Inv i ρ s.heap->(∀ J∈Is,¬ Ds C ρ J)->nx σ i=some (some x)->st lc x=some lc₁ ->
  (∀ s',Rel C ρ σ s'->Step C (env.locals::Is) ρ ρ s.heap s'.heap->Cx C ρ s'.heap env.locals Aa lc₁->Inv (i+1) ρ s'.heap->Q s') ->
  wpAny (model C.prog C.w) A (pyNext (.ref I)) (λr s₁=>∃ v,r=some v/\wpAny (model C.prog C.w) A (letOwnedTupleGo Bh (.ref I) v) (λ_ Yy=>wpAny (model C.prog C.w) A (assign Bh env v) (λ_ Ai=>Q Ai) E' Yy) E' s₁) E' s
 stop:∀ (A:Around) i lc σ ρ s (Q:Shared->Prop) (E':Value->Shared->Prop),EL C d A->Rel C ρ σ s->Cx C ρ s.heap env.locals Aa lc->Inv i ρ s.heap->(∀ J∈Is,¬ Ds C ρ J)->nx σ i=some none ->
  (∀ s',Rel C ρ σ s'->Step C (env.locals::Is) ρ ρ s.heap s'.heap->Cx C ρ s'.heap env.locals Aa lc->Q s') ->
  wpAny (model C.prog C.w) A (pyNext (.ref I)) (λr s₁=>r=none/\Q s₁) E' s
set_option tactic.hygienic true
theorem VS(IT:KR C d env Aa I Is Bh nx st Inv)(DB:G8 C d env Aa body B)(hA:EL C d A){fl:Fl}{Ad:D7}{u Ai:Shared}(L:LoopAt C env Aa Is nx st B O Inv (fl,lc',σ') ρ s.heap (n+1) i lc σ₁ Ad u)(Az:Rel C Ad σ₁ Ai)(Au:Step C (env.locals::Is) Ad Ad u.heap Ai.heap)(Cu:Cx C Ad Ai.heap env.locals Aa lc₁)(MX:Inv (i+1) Ad Ai.heap)(hf:((B lc₁ σ₁).bind λt=>match t.1 with
  | .next=>CM nx st B O n (i+1) t.2.1 t.2.2
  | .cont=>CM nx st B O n (i+1) t.2.1 t.2.2
  | .brk=>some (.next,t.2)
  | .ret v=>some (.ret v,t.2))=some (fl,lc',σ')){E':Value->Shared->Prop}(k:∀ w s' Ar,Rel C Ar σ' s'->Step C (env.locals::Is) ρ Ar s.heap s'.heap->Cx C Ar s'.heap env.locals Aa lc'->Ph C Ar s'.heap fl w->P (.ok w) s') :
 wpAny (model C.prog C.w) A (execs body env) (λf AJ=>match f with
  | .next=>∃ m,m<n+1/\∃ i lc σ₁ Ad,LoopAt C env Aa Is nx st B O Inv (fl,lc',σ') ρ s.heap m i lc σ₁ Ad AJ
  | .cont=>∃ m,m<n+1/\∃ i lc σ₁ Ad,LoopAt C env Aa Is nx st B O Inv (fl,lc',σ') ρ s.heap m i lc σ₁ Ad AJ
  | .brk=>P (.ok .next) AJ
  | .ret v=>P (.ok (.ret v)) AJ) E' Ai:=by
 refine oB hf λt hB hf=>?_
 rcases t with ⟨f1,CD,σ₂⟩
 refine DB _ _ _ _ _ hB A _ _ Ai Ad hA Az Cu λw AJ By BY BV IK Gg=>?_
 have ST:=(L.S.trans Au).trans (BV.weaken (W':=env.locals::Is) λa ha=>by rw[List.mem_singleton.mp ha];exact List.mem_cons_self)
 have more:CM nx st B O n (i+1) CD σ₂=some (fl,lc',σ')->∃ m,m<n+1/\∃ i lc σ₁ Ad,LoopAt C env Aa Is nx st B O Inv (fl,lc',σ') ρ s.heap m i lc σ₁ Ad AJ :=
  λFg=>⟨n,Nat.lt_succ_self _,Lm (i+1) CD σ₂ By ⟨Fg,BY,IK,IT.keep _ _ _ _ _ MX L.m (CA Cu.1.choose_spec.1) BV,(λJ hJ=>CJ (IT.here _ _ _ MX J hJ) λo ho=>Ds.grow BV (Heap.lt_size ho) (L.m J hJ)),ST⟩⟩
 cases Gg with
 |next=>exact more hf
 |cont=>exact more hf
 |brk=>exact Xt k hf _ _ By BY ST IK .next
 |ret q=>exact Xt k hf _ _ By BY ST IK (.ret q)
theorem MY(IT:KR C d env Aa I Is Bh nx st Inv)(DB:G8 C d env Aa body B)(DO:G8 C d env Aa Co O)(hA:EL C d A){fl:Fl}(hf:CM nx st B O fuel i lc σ=some (fl,lc',σ'))(R:Rel C ρ σ s)(lr:Cx C ρ s.heap env.locals Aa lc)(hI:Inv i ρ s.heap)(hm:∀ J∈Is,¬ Ds C ρ J)(k:∀ w s' Ar,Rel C Ar σ' s'->Step C (env.locals::Is) ρ Ar s.heap s'.heap->Cx C Ar s'.heap env.locals Aa lc'->Ph C Ar s'.heap fl w->P (.ok w) s') :
 codeAny (model C.prog C.w) A (.forLoop Bh (.ref I) body Co env) P s:=by
 refine codeAny_forLoop_any (λn u=>∃ i lc σ₁ Ad,LoopAt C env Aa Is nx st B O Inv (fl,lc',σ') ρ s.heap n i lc σ₁ Ad u) ?_ fuel (Lm i lc σ ρ ⟨hf,R,lr,hI,hm,.refl⟩)
 rintro n u ⟨i,lc,σ₁,Ad,L⟩
 cases n with
 |zero=>exact ns L.run
 |succ n =>
  refine oB L.run λo hx hf=>?_
  cases o with
  |some x =>
   refine oB hf λlc₁ hst hf=>?_
   refine wpAny_mono (IT.next A i lc lc₁ σ₁ Ad u x (λAi=>Rel C Ad σ₁ Ai/\Step C (env.locals::Is) Ad Ad u.heap Ai.heap/\Cx C Ad Ai.heap env.locals Aa lc₁/\Inv (i+1) Ad Ai.heap) _ hA L.R L.l L.I L.m hx hst λAi a b c e=>⟨a,b,c,e⟩) (λr s₁ AI=>Am AI λv er AI=>?_) λuu uu z=>z
   rw[er]
   exact wpAny_mono AI (λuu Yy Yz=>wpAny_mono Yz (λuu Ai Dv=>VS IT DB hA L Dv.1 Dv.2.1 Dv.2.2.1 Dv.2.2.2 hf k) λuu uu z=>z) λuu uu z=>z
  |none =>
   refine wpAny_mono (IT.stop A i lc σ₁ Ad u (λAi=>Rel C Ad σ₁ Ai/\Step C (env.locals::Is) Ad Ad u.heap Ai.heap/\Cx C Ad Ai.heap env.locals Aa lc) _ hA L.R L.l L.I L.m hx λAi a b c=>⟨a,b,c⟩) (λr s₁ AI=>Hv AI λer Az Au Cu=>?_) λuu uu z=>z
   rw[er]
   exact DO _ _ _ _ _ hf A _ _ s₁ Ad hA Az Cu λw AJ By BY BV IK Gg=>k _ _ By BY ((L.S.trans Au).trans (BV.weaken λa ha=>by rw[List.mem_singleton.mp ha];exact List.mem_cons_self)) IK Gg
set_option tactic.hygienic false
theorem KS{t:Sem Fin}{fs:List Frame}{e:End}(h:Runs M Γ p t fs s e s'):s.heap.objs.size<=s'.heap.objs.size:=by
 induction h<;>(try simp only[Shared.setGen,Heap.size_push,Heap.size_after_update] at *)<;>omega
theorem SK{g:Nat}{r:Resume}{res:GenResult}(h:Wakes M Γ p g r s res s'):s.heap.objs.size<=s'.heap.objs.size:=by
 unfold Wakes at h
 split at h
 . exact h.elim
 . split at h
   . (refine NT (h) λp8 s₁ hr uu uu lj=>?_;clear h;subst lj);exact(KS hr:(s.setGen g .running).heap.objs.size<=s₁.heap.objs.size)
   . rw[h.2];exact Nat.le_refl _
   . rw[h.2];exact Nat.le_refl _
 . (refine NT (h) λp8 s₁ hr uu uu lj=>?_;clear h;subst lj);exact(KS hr:(s.setGen g .running).heap.objs.size<=s₁.heap.objs.size)
 . rw[h.2];exact Nat.le_refl _
 . rw[h.2];exact Nat.le_refl _
theorem cM(M:Model)(Γ:Ctx)(n:Nat)(t:Sem α):∀ (Q:α->Pos->Shared->Prop) (E:Value->Pos->Shared->Prop) (p:Pos) (s:Shared),n<=s.heap.objs.size->Sem.wp M Γ t Q E p s ->
 Sem.wp M Γ t (λa p' s'=>n<=s'.heap.objs.size/\Q a p' s') (λe p' s'=>n<=s'.heap.objs.size/\E e p' s') p s:=by
 induction t with
 |pure a=>intro Q E p s hn h;exact⟨hn,h⟩
 |raise e=>intro Q E p s hn h;exact⟨hn,h⟩
 |unsupported _=>intro Q E p s _ h;exact h
 |finish _=>intro Q E p s _ h;exact h
 |rule _ k ih=>intro Q E p s hn h;exact ih () Q E p s hn h
 | «at» p' k ih=>intro Q E p s hn h;exact ih () Q E p' s hn h
 |load a _ k ih=>intro Q E p s hn h;(refine Am (h) λo ho h=>?_);exact⟨o,ho,ih o Q E p s hn h⟩
 |update a _ f k ih=>intro Q E p s hn h;exact⟨h.1,ih () Q E p _ (by rw[Heap.size_after_update];exact hn) h.2⟩
 |loadIfAlive a k ih=>intro Q E p s hn h;exact ih _ Q E p s hn h
 |point _ k ih=>intro Q E p s hn h;exact ih () Q E p s hn h
 |register _ _=>intro Q E p s _ h;exact h
 |alloc o k ih=>intro Q E p s hn h;exact ih _ Q E p _ (by show n<=(s.heap.push o).objs.size;rw[Heap.size_push];right) h
 |fresh k ih=>intro Q E p s hn h;exact ih _ Q E p _ hn h
 |ask k ih=>intro Q E p s hn h;exact ih _ Q E p s hn h
 |choose src m k ih=>intro Q E p s hn h;exact⟨h.1,ih _ Q E p _ hn h.2⟩
 |os q _ k ih=>intro Q E p s hn h;exact ih _ Q E p _ hn h
 |call c hd _ _ k ih=>intro Q E p s hn h;(refine Es (h) λr s' hr h=>?_);exact(B6 r s' ⟨hr,ih r Q E p s' (Nat.le_trans hn (KS hr)) h⟩)
 |handled own k ih=>intro Q E p s hn h;exact ih _ Q E p s hn h
 |genState g k ih=>intro Q E p s hn h;(refine Am (h) λst hs h=>?_);exact⟨st,hs,ih _ Q E p s hn h⟩
 |newGen c k ih=>intro Q E p s hn h;exact ih _ Q E p _ hn h
 |resume g r _ k ih=>intro Q E p s hn h;(refine Es (h) λres s' hw h=>?_);exact(B6 res s' ⟨hw,ih res Q E p s' (Nat.le_trans hn (SK hw)) h⟩)
 |yield _ _ _ _=>intro Q E p s _ h;exact h
 |stack k ih=>intro Q E p s hn h;exact ih _ Q E p s hn h
 |fork _ _=>intro Q E p s _ h;exact h
 |thread k ih=>intro Q E p s hn h;exact ih _ Q E p s hn h
 |await _ _ _ _ _=>intro Q E p s _ h;exact h
theorem AX{t:Sem α}{Q:α->Shared->Prop}(h:wpAny M A t (λa s'=>s.heap.objs.size<=s'.heap.objs.size->Q a s') (λe s'=>s.heap.objs.size<=s'.heap.objs.size->E e s') s):wpAny M A t Q E s :=
 λΓ p UD=>Sem.wp_mono M Γ t (λuu uu uu x=>x.2 x.1) (λuu uu uu x=>x.2 x.1) _ _ (cM M Γ s.heap.objs.size t _ _ p s (Nat.le_refl _) (h Γ p UD))
structure Fv (C:Cfg) (env:Env) (I:Addr) (nx:St->Nat->Option (Option AV)) (Inv:Nat->D7->Heap->Prop):Prop where
 lo:C.s₁.heap.objs.size<=I
 ne:env.locals≠I
 kind:∀ i ρ h,Inv i ρ h->∃ o,h.get? I=some o/\(∀ vs n,o.data≠.seq vs n)/\o.cls≠.type "code"
 keep:∀ i ρ Ar h h',Inv i ρ h->¬ Ds C ρ I->(∀ a o vs n,a∈[env.locals]->h.get? a=some o->o.data≠.seq vs n)->Step C [env.locals] ρ Ar h h'->Inv i Ar h'
 item:∀ (A:Around) i σ ρ s x (Q:Option Value->Shared->Prop) (E':Value->Shared->Prop),A.handled=none->Rel C ρ σ s->Inv i ρ s.heap->nx σ i=some (some x) ->
  (∀ v h' tk,VR C ρ s.heap x v->Inv (i+1) ρ h'->(∀ b o,b≠I->s.heap.get? b=some o->h'.get? b=some o)->Q (some v) { s with heap:=h',toks:=tk })->wpAny (model C.prog C.w) A (pyNext (.ref I)) Q E' s
 done:∀ (A:Around) i σ ρ s (Q:Option Value->Shared->Prop) (E':Value->Shared->Prop),A.handled=none->Rel C ρ σ s->Inv i ρ s.heap->nx σ i=some none ->
  (∀ h' tk,(∀ b o,b≠I->s.heap.get? b=some o->h'.get? b=some o)->Q none { s with heap:=h',toks:=tk })->wpAny (model C.prog C.w) A (pyNext (.ref I)) Q E' s
set_option tactic.hygienic true
theorem Fv.ok(W:Fv C env I nx Inv)(He:Bi env Aa){n:Str}(hj:Aa[j]?=some n) :
 KR C d env Aa I [I] (.Name n pn) nx (λlc x=>putL lc j x) Inv where
 keep i ρ Ar h h' hI hm:=W.keep i ρ Ar h h' hI (hm I List.mem_cons_self)
 here i ρ h hI J hJ:=Am (W.kind i ρ h hI) λo ho uu=>⟨o,by rw[List.mem_singleton.mp hJ];exact ho⟩
 next A i lc lc₁ σ ρ s x Q E' hA R lr hI hm hx hst k:=by
  replace hm:=hm I List.mem_cons_self
  (refine Ci (W.kind i ρ s.heap hI) λo ho KN JF=>?_)
  refine AX (W.item A i σ ρ s x _ _ hA.1 R hI hx λv h' tk qv jW kp z=>?_)
  (refine AS (R.iter (n:=tk) ho KN JF hm W.lo kp z) λR' S'=>?_)
  have l':=lr.iter S' W.ne ho KN
  refine⟨v,rfl,wpAny_pure ?_⟩
  refine wpAny_assign_Name (Ea He hj hst R' l' (qv.step S' (FE ho KN)) λAi Az Au Cu=>?_)
  have MX:Inv (i+1) ρ Ai.heap:=W.keep _ _ _ _ _ jW hm (CA l'.1.choose_spec.1) Au
  exact k Ai Az ((S'.weaken λa ha=>by simp at ha;simp[ha]).trans (Au.weaken λa ha=>by simp at ha;simp[ha])) Cu MX
 stop A i lc σ ρ s Q E' hA R lr hI hm hx k:=by
  replace hm:=hm I List.mem_cons_self
  (refine Ci (W.kind i ρ s.heap hI) λo ho KN JF=>?_)
  refine AX (W.done A i σ ρ s _ _ hA.1 R hI hx λh' tk kp z=>?_)
  (refine AS (R.iter (n:=tk) ho KN JF hm W.lo kp z) λR' S'=>?_)
  exact⟨rfl,k _ R' (S'.weaken λa ha=>by simp at ha;simp[ha]) (lr.iter S' W.ne ho KN)⟩
set_option tactic.hygienic false
theorem Step.dropI(S:Step C (env.locals::Is) ρ Ar h h')(hI:∀ J∈Is,h.objs.size<=J):Step C [env.locals] ρ Ar h h' :=
 ⟨S.size,λb o e n w=>S.keep b o e n (by
  intro m
  rcases List.mem_cons.mp m with m|m
  . exact w (by rw[m];exact List.mem_cons_self)
  . exact absurd (Heap.lt_size e) (Nat.not_lt.mpr (hI b m))),S.grow⟩
theorem FJ(h:¬ Ds C ρ I):∀ J∈[I],¬ Ds C ρ J:=λJ hJ=>by rw[List.mem_singleton.mp hJ];exact h
theorem Oz(hI:h.objs.size<=I):∀ J∈[I],h.objs.size<=J:=λJ hJ=>by rw[List.mem_singleton.mp hJ];exact hI
noncomputable def Qs(src:AV):St->Nat->Option (Option AV):=λσ i=>(Bq σ src).map (·[i]?)
noncomputable def CR(c:Nat):AV:=.str ⟨#[c]⟩
noncomputable def Q8(x:Str):St->Nat->Option (Option AV):=λ_ i=>some (x.cps[i]?.map CR)
theorem Df(x:h.IsListIter I a i):∃ o,h.get? I=some o/\(∀ vs n,o.data≠.seq vs n)/\o.cls≠.type "code" := by
 (refine Ci (x) λo ho hc hd=>?_;clear x)
 exact⟨o,ho,λvs n z=>by rw[hd] at z;(cases z),by rw[hc];decide⟩
theorem JY{x:Str}{ty:String}(y:h.IsStrIter I ty x t i)(Yh:ty ≠ "code"):∃ o,h.get? I=some o/\(∀ vs n,o.data≠.seq vs n)/\o.cls≠.type "code" := by
 (refine Ci (y) λo ho hc hd=>?_;clear y)
 exact⟨o,ho,λvs n z=>by rw[hd] at z;(cases z),by rw[hc];intro z;cases z;exact Yh rfl⟩
theorem UE(lo:C.s₁.heap.objs.size<=I)(ne:env.locals≠I)(sZ:a≠env.locals)(haI:a≠I):Fv C env I (Qs src) (λi ρ h=>h.IsListIter I a i/\VR C ρ h src (.ref a)) where
 lo:=lo
 ne:=ne
 kind _ _ _ hI:=Df hI.1
 keep i ρ Ar h h' hI hm hW S:=⟨hI.1.at λo e=>S.keep _ _ e hm (by simpa using Ne.symm ne),hI.2.step S hW⟩
 item A i σ ρ s x Q E' hh R hI hx k:=by
  unfold Qs at hx
  (refine Am (Option.map_eq_some_iff.mp hx) λxs G6 cN=>?_)
  (refine G7 (D9 R hI.2 G6) λa' vs n e ho hs=>?_)
  cases e
  (refine Am (hs.get cN) λv hv qv=>?_)
  (refine Ci (Df hI.1) λo p9 KN uu=>?_)
  refine next_item hI.1 (items:=vs.toArray) (B6 _ _ ⟨ho,rfl⟩) (x:=v) (by simpa using hv) λh' L5 Ln=>?_
  refine k v h' s.toks qv ⟨L5,?_⟩ λb o hb e=>(Ln.2 b hb).trans e
  exact hI.2.step (ET Ln) (FE p9 KN)
 done A i σ ρ s Q E' hh R hI hx k:=by
  unfold Qs at hx
  (refine Am (Option.map_eq_some_iff.mp hx) λxs G6 cN=>?_)
  (refine G7 (D9 R hI.2 G6) λa' vs n e ho hs=>?_)
  cases e
  have hn:vs.toArray[i]?=none:=by
   rw[List.getElem?_eq_none_iff] at cN
   simp
   rw[hs.length];exact cN
  refine next_end hh hI.1 (items:=vs.toArray) (B6 _ _ ⟨ho,rfl⟩) hn λh' he=>?_
  exact k h' s.toks λb o hb e=>he b o hb e
theorem YB{x:Str}(ok:PyData.strOk x=true)(lo:C.s₁.heap.objs.size<=I)(ne:env.locals≠I):Fv C env I (Q8 x) (λi uu h=>h.IsStrIter I "str_ascii_iterator" x t i) where
 lo:=lo
 ne:=ne
 kind _ _ _ hI:=JY hI (by decide)
 keep i ρ Ar h h' hI hm hW S:=Am (hI) λo ho r=>⟨o,S.keep _ _ ho hm (by simpa using Ne.symm ne),r⟩
 item A i σ ρ s y Q E' hh R hI hx k:=by
  unfold Q8 at hx
  (refine Am (Option.map_eq_some_iff.mp (Option.some.inj hx)) λc hc e=>?_)
  cases e
  refine wpAny_pyNext_ascii_item hI hc λh' L5 Ln=>?_
  obtain⟨DK,e⟩:=Array.getElem?_eq_some_iff.mp hc
  exact k _ h' _ (.str _ _ (KQ ok (e▸Array.mem_toList_iff.mpr (Array.getElem_mem DK)))) L5 λb o hb e=>(Ln.2 b hb).trans e
 done A i σ ρ s Q E' hh R hI hx k:=by
  unfold Q8 at hx
  have hn:x.cps[i]?=none:=by
   have:=Option.some.inj hx
   cases h:x.cps[i]? with
   |none=>rfl
   |some c=>rw[h] at this;cases this
  exact wpAny_pyNext_ascii_end hh hI hn λh' he=>k h' _ λb o hb e=>he b o hb e
theorem cO{x:Str}(ok:PyData.strOk x=true)(lo:C.s₁.heap.objs.size<=I)(ne:env.locals≠I):Fv C env I (Q8 x) (λi uu h=>h.IsStrIter I "str_iterator" x t i) where
 lo:=lo
 ne:=ne
 kind _ _ _ hI:=JY hI (by decide)
 keep i ρ Ar h h' hI hm hW S:=Am (hI) λo ho r=>⟨o,S.keep _ _ ho hm (by simpa using Ne.symm ne),r⟩
 item A i σ ρ s y Q E' hh R hI hx k:=by
  unfold Q8 at hx
  (refine Am (Option.map_eq_some_iff.mp (Option.some.inj hx)) λc hc e=>?_)
  cases e
  refine wpAny_pyNext_wide_item hI hc λh' L5 Ln=>?_
  obtain⟨DK,e⟩:=Array.getElem?_eq_some_iff.mp hc
  exact k _ h' _ (.str _ _ (KQ ok (e▸Array.mem_toList_iff.mpr (Array.getElem_mem DK)))) L5 λb o hb e=>(Ln.2 b hb).trans e
 done A i σ ρ s Q E' hh R hI hx k:=by
  unfold Q8 at hx
  have hn:x.cps[i]?=none:=by
   have:=Option.some.inj hx
   cases h:x.cps[i]? with
   |none=>rfl
   |some c=>rw[h] at this;cases this
  exact wpAny_pyNext_wide_end hh hI hn λh' he=>k h' _ λb o hb e=>he b o hb e
noncomputable def L7(j:Nat)(f:EM)(B O:SM):SM:=λlc σ=>(f lc σ).bind λp =>
 (p.1.str?.bind λx=>CM (Q8 x) (λlc y=>putL lc j y) B O 1000000 0 lc p.2).or
 ((Bq p.2 p.1).bind λ_=>CM (Qs p.1) (λlc y=>putL lc j y) B O 1000000 0 lc p.2)
theorem cP(He:Bi env Aa){n:Str}{iter:Expr}(hj:Aa[j]?=some n)(D:AQ C d env Aa iter f)(DB:G8 C d env Aa body B)(DO:G8 C d env Aa Co O)(hs:∀ x,foldedSetIterable iter env x=pure x):E4 C d env Aa (.For (.Name n pn) iter body Co p) (L7 j f B O):=by
 intro lc σ fl lc' σ' hf A Q E s ρ hA R lr kk
 have run:∀ {x:AV} {σ₁:St},f lc σ=some (x,σ₁)->(∀ v s₁ Ad,Rel C Ad σ₁ s₁->Step C [] ρ Ad s.heap s₁.heap->VR C Ad s₁.heap x v->Cx C Ad s₁.heap env.locals Aa lc ->
  wpAny (model C.prog C.w) A (pyIter v) (λit Ai=>∃ o nx Inv,it=.ref s₁.heap.objs.size/\Ai={ s₁ with heap:=s₁.heap.push o }/\Fv C env s₁.heap.objs.size nx Inv/\Inv 0 Ad Ai.heap/\CM nx (λlc y=>putL lc j y) B O 1000000 0 lc σ₁=some (fl,lc',σ')) E s₁) ->
  wpAny (model C.prog C.w) A (exec (.For (.Name n pn) iter body Co p) env) Q E s:=by
  intro x σ₁ e1 h
  refine wpAny_For (D _ _ _ _ e1 A _ E s ρ hA R lr λv s₁ Ad An Aj AA=>?_) hs
  refine wpAny_mono (h v s₁ Ad An Aj AA (lr.go Aj)) (λit Ai Dv=>?_) λuu uu z=>z
  (refine gw (Dv) λo nx Inv g7 qc IT hI hL=>?_;clear Dv;subst g7;subst qc)
  have Au:Step C [] Ad Ad s₁.heap (s₁.heap.push o):=.pushObj _
  refine MY (IT.ok He hj) DB DO hA hL (An.push o (n:=s₁.toks)) ((lr.go Aj).go Au) hI (FJ An.fresh) λw s' Ar R' S' l' q'=>?_
  refine kk w s' Ar R' (Aj.of_nil.trans ?_) l' q'
  have S3:Step C [env.locals,s₁.heap.objs.size] Ad Ar s₁.heap s'.heap:=Au.of_nil.trans S'
  exact S3.dropI (Oz (Nat.le_refl _))
 refine oB hf λy e1 hf=>run (x:=y.1) (σ₁:=y.2) e1 λv s₁ Ad An Aj AA Ew=>?_
 have lp:env.locals≠s₁.heap.objs.size:=Nat.ne_of_lt Ew.1.choose_spec.1.lt
 refine oO hf (λhf=>?_) λhf=>oB hf λxs G6 hf=>?_
 . refine oB hf λx ex hf=>?_
   refine AA.str_of ex λt ok=>?_
   cases ha:x.cps.all (·<128)
   . exact wpAny_pyIter_wide ha (EY _ _ _ ⟨rfl,rfl,cO (t:=t) ok An.size lp,⟨_,Heap.get?_push_size _ rfl,rfl,rfl⟩,hf⟩)
   . exact wpAny_pyIter_ascii ha (EY _ _ _ ⟨rfl,rfl,YB (t:=t) ok An.size lp,⟨_,Heap.get?_push_size _ rfl,rfl,rfl⟩,hf⟩)
 . refine G7 (D9 An AA G6) λa vs n' ev ho hv=>?_
   rw[ev] at AA ⊢
   have sZ:a≠env.locals:=λz=>CA Ew.1.choose_spec.1 _ _ _ _ (List.mem_singleton.mpr z) ho rfl
   exact wpAny_pyIter_list (IsL.isList ho) (EY _ _ _ ⟨rfl,rfl,UE (a:=a) (src:=y.1) An.size lp sZ (Nat.ne_of_lt (Heap.lt_size ho)),⟨⟨_,Heap.get?_push_size _ rfl,rfl,rfl⟩,AA.go (.pushObj _)⟩,hf⟩)
noncomputable def smallInt(a:Int):Bool:=decide (-1000000000<a)&&decide (a<1000000000)
theorem JZ{a:Int}:smallInt a=true↔-1000000000<a/\a<1000000000:=by unfold smallInt;rw[Bool.and_eq_true,decide_eq_true_eq,decide_eq_true_eq]
noncomputable def IU(a b c:Int):St->Nat->Option (Option AV):=λ_ i=>some (gd (decide ((i:Int)<Builtin.Range.rangeSize a b c)) (.int (a+c*i)))
theorem Q9{a b c:Int}(lo:C.s₁.heap.objs.size<=I)(ne:env.locals≠I):Fv C env I (IU a b c) (λi uu h=>IsRangeIter h I (a+c*i) (Builtin.Range.rangeSize a b c-i) c) where
 lo:=lo
 ne:=ne
 kind _ _ _ hI:=⟨_,hI,(λvs n z=>by cases z),by show Value.type "range_iterator" ≠ _;decide⟩
 keep i ρ Ar h h' hI hm hW S:=S.keep _ _ hI hm (by simpa using Ne.symm ne)
 item A i σ ρ s y Q E' hh R hI hx k:=by
  refine oG (Option.some.inj hx) λDK e=>?_
  have DK:=of_decide_eq_true DK
  . refine wpAny_pyNext_range_item hI (by omega) λh' L5 Ln=>?_
    refine k _ h' _ (e▸.int _ _) ?_ λb o hb e=>(Ln.2 b hb).trans e
    have e1:a+c*(i:Int)+c=a+c*((i+1:Nat):Int):=by rw[Int.natCast_add,Int.mul_add];omega
    have e2:Builtin.Range.rangeSize a b c-(i:Int)-1=Builtin.Range.rangeSize a b c-((i+1:Nat):Int):=by omega
    rw[e1,e2] at L5
    exact L5
 done A i σ ρ s Q E' hh R hI hx k:=by
  have DK:¬ (i:Int)<Builtin.Range.rangeSize a b c:=λz=>nomatch (AZ (a:=AV.int (a+c*i)) (decide_eq_true z)).symm.trans (Option.some.inj hx)
  . exact wpAny_pyNext_range_end hh hI (by omega) λh' he=>k h' _ λb o hb e=>he b o hb e
noncomputable def YC:List Int->Option (Int×Int×Int)
 | [b]=>some (0,b,1)
 | [a,b]=>some (a,b,1)
 | [a,b,c]=>some (a,b,c)
 | []=>none
 | _::_::_::_::_=>none
noncomputable def EU(xs:List AV):Option (Int×Int×Int):=(Cb AV.int? xs).bind YC
noncomputable def Dm(a b c:Int):Bool:=Builtin.Range.small a b c&&(c != 0&&decide (c.natAbs<2 ^ 31))
noncomputable def GP(j:Nat)(fs:List EM)(B O:SM):SM:=λlc σ=>(Ft fs lc σ).bind λp=>(EU p.1).bind λr=>if Dm r.1 r.2.1 r.2.2=true then CM (IU r.1 r.2.1 r.2.2) (λlc y=>putL lc j y) B O 1000000 0 lc p.2 else none
theorem Lx{a b c:Int}(h:Dm a b c=true):Builtin.Range.small a b c=true/\c.natAbs<2 ^ 31/\c≠0:=by
 unfold Dm at h
 rw[Bool.and_eq_true,Bool.and_eq_true,bne_iff_ne,decide_eq_true_eq] at h
 exact⟨h.1,h.2.2,h.2.1⟩
theorem VT{zs:List Int}(q:Bx C ρ h xs vs)(e:Cb AV.int? xs=some zs):IntsAre vs zs :=
 q.ind (P:=λxs vs=>∀ zs,Cb AV.int? xs=some zs->IntsAre vs zs) (λzs e=>Option.some.inj e▸.nil) (λa uu ih zs e=>oB e λi ei e=>oM e λis e1 e2=>e2▸a.int_of ei λt=>.cons _ _ (ih _ e1)) _ e
@[elab_as_elim] theorem Ra{P:Int->Int->Int->List Value->Prop}{zs:List Int}{a b c:Int}(I:IntsAre vs zs)(e:YC zs=some (a,b,c))(h1:∀ b t,P 0 b 1 [.int b t])(h2:∀ a b t u,P a b 1 [.int a t,.int b u])(h3:∀ a b c t u v,P a b c [.int a t,.int b u,.int c v]):P a b c vs:=by
 cases I with
 |nil=>exact ns e
 |cons z1 t1 I=>cases I with
  |nil=>exact(congrArg (λt:Int×Int×Int=>P t.1 t.2.1 t.2.2 _) (Option.some.inj e)).mp (h1 _ _)
  |cons z2 t2 I=>cases I with
   |nil=>exact(congrArg (λt:Int×Int×Int=>P t.1 t.2.1 t.2.2 _) (Option.some.inj e)).mp (h2 _ _ _ _)
   |cons z3 t3 I=>cases I with
    |nil=>exact(congrArg (λt:Int×Int×Int=>P t.1 t.2.1 t.2.2 _) (Option.some.inj e)).mp (h3 _ _ _ _ _ _)
    |cons=>exact ns e
theorem VU{a b c:Int}{Q':Value->Shared->Prop}(q:Bx C ρ s.heap xs vs)(e:EU xs=some (a,b,c))(hc:c.natAbs<2 ^ 31)(h0:c≠0)(k:∀ h' tk r t u v,IsRange h' r a b c t u v->(∀ b o,s.heap.get? b=some o->h'.get? b=some o)->s.heap.objs.size<=h'.objs.size->Q' (.ref r) { s with heap:=h',toks:=tk }):wpAny (model C.prog C.w) A (call (.type "range") vs) Q' E s:=by
 have fin:∀ {o:Obj},(∀ b o',s.heap.get? b=some o'->(s.heap.push o).get? b=some o')/\s.heap.objs.size<=(s.heap.push o).objs.size:=λ{o}=>⟨λuu uu e=>Heap.get?_push_of_some _ e,by rw[Heap.size_push];exact Nat.le_add_right _ _⟩
 refine oB e λzs ez e=>?_
 revert hc h0 k
 refine Ra (VT q ez) e ?_ ?_ ?_
 . exactλb t uu uu k=>call_range_1 (k _ _ _ _ _ _ (Heap.get?_push_size _ rfl) fin.1 fin.2)
 . exactλa b t u uu uu k=>call_range_2 (k _ _ _ _ _ _ (Heap.get?_push_size _ rfl) fin.1 fin.2)
 . exactλa b c t u v hc h0 k=>call_range_3 h0 (k _ _ _ _ _ _ (Heap.get?_push_size _ rfl) fin.1 fin.2) (.inl (eM hc))
theorem Ly(H:Aq C)(He:Bi env Aa){es:List Expr}{a b c:Int}(hv:Ay C "range" (.type "range"))(hk:env.kindOf "range" = some .globalImplicit)(D:Ej C d env Aa es fs)(e1:Ft fs lc σ=some (xs,σ₁))(e2:EU xs=some (a,b,c))(hc:c.natAbs<2 ^ 31)(lq:c≠0)(hA:EL C d A)(R:Rel C ρ σ s)(lr:Cx C ρ s.heap env.locals Aa lc)(k:∀ Ad (s':Shared) r t u v,Rel C Ad σ₁ s'->Step C [] ρ Ad s.heap s'.heap->IsRange s'.heap r a b c t u v->IsRangeIter (s'.heap.push { cls:=.type "range_iterator",data:=.fields #[rawInt a,rawInt (Builtin.Range.rangeSize a b c),rawInt c] }) s'.heap.objs.size (a+c*((0:Nat):Int)) (Builtin.Range.rangeSize a b c-((0:Nat):Int)) c->Q (.ref r) s'):wpAny (model C.prog C.w) A (eval (.Call (.Name "range" p0) es [] p1) env) Q E s:=by
 show wpAny _ _ (do callWith p1 (<- eval (.Name "range" p0) env) [] (backTo p1 (starEach es env)) (backToKw p1 (keywordEach [] env))) _ _ _
 refine wpAny_bind (CY H He hv hk (by decide) R ?_)
 refine CB H D e1 FG hA R lr λvs s₁ Ad An Aj AA=>?_
 rw[List.nil_append]
 refine VU AA e2 hc lq λDv tk r t u v hr kp z=>k Ad _ r t u v (An.same kp z An.gens rfl rfl) (Aj.trans (.same kp z)) hr ?_
 have:=Heap.get?_push_size Dv (o:={ cls:=.type "range_iterator",data:=.fields #[rawInt a,rawInt (Builtin.Range.rangeSize a b c),rawInt c] }) rfl
 rw[show a+c*((0:Nat):Int)=a by simp,show Builtin.Range.rangeSize a b c-((0:Nat):Int)=Builtin.Range.rangeSize a b c by simp]
 exact this
theorem YD(H:Aq C)(He:Bi env Aa){n:Str}{es:List Expr}(hj:Aa[j]?=some n)(hv:Ay C "range" (.type "range"))(hk:env.kindOf "range" = some .globalImplicit)(D:Ej C d env Aa es fs)(DB:G8 C d env Aa body B)(DO:G8 C d env Aa Co O) :
 E4 C d env Aa (.For (.Name n pn) (.Call (.Name "range" p0) es [] p1) body Co p) (GP j fs B O):=by
 intro lc σ fl lc' σ' hf A Q E s ρ hA R lr kk
 refine oB hf λy e1 hf=>oB hf λr e2 hf=>sf hf λe3 hL=>?_
 rcases y with ⟨xs,σ₁⟩
 rcases r with ⟨a,b,c⟩
 refine LX (Lx e3) λjX hc lq=>?_
 refine wpAny_For ?_
 refine Ly H He hv hk D e1 e2 hc lq hA R lr λAd Ai r t u v Az Au hr hI=>?_
 have Cu:=lr.go Au
 have lp:env.locals≠Ai.heap.objs.size:=Nat.ne_of_lt Cu.1.choose_spec.1.lt
 refine wpAny_pyIter_range hr jX ?_
 have BV:Step C [] Ad Ad Ai.heap (Ai.heap.push { cls:=.type "range_iterator",data:=.fields #[rawInt a,rawInt (Builtin.Range.rangeSize a b c),rawInt c] }):=.pushObj _
 refine MY ((Q9 Az.size lp).ok He hj) DB DO hA hL (Az.push _ (n:=Ai.toks)) (Cu.go BV) hI (FJ Az.fresh) λw s' Ar R' S' l' q'=>?_
 refine kk w s' Ar R' (Au.of_nil.trans ?_) l' q'
 have S4:Step C [env.locals,Ai.heap.objs.size] Ad Ar Ai.heap s'.heap:=BV.of_nil.trans S'
 exact S4.dropI (Oz (Nat.le_refl _))
variable{J TI TO c l r rc z:Addr}{K:Frag}{N g k1 tk:Nat}{T:Builtin.Re.ReTarget}{ap q4 q5 q6:Pos}{fo:EM}{m x:Str}{mb mg:Str->Option Value}{FT:Bool}{pre ys:List Str}{xs:Array Value}{y:Value}
noncomputable def Own(h:Heap)(T:Addr):Prop:=∃ x y n,h.get? T=some { cls:=.type "tuple",data:=.seq #[x,y] n }
theorem Own.at{T:Addr}(x:Own h T)(k:∀ o,h.get? T=some o->h'.get? T=some o):Own h' T:=Qt (x) λa b n e=>(EY a b n (k _ e))
theorem Pz{T:Addr}{a b x:Value}{Q:Unit->Shared->Prop}(hT:s.heap.get? T=some { cls:=.type "tuple",data:=.seq #[a,b] n })(h:∀ h',h'.get? T=some { cls:=.type "tuple",data:=.seq ((#[a,b]:Array Value).setIfInBounds k x) n }->Heap.SameBut T s.heap h'->Q () { s with heap:=h' }) :
 wpAny (model C.prog C.w) A (updateSeq T (·.setIfInBounds k x)) Q E s:=by
 refine wpAny_updateSeq hT rfl (h _ ?_ (Heap.SameBut.update ..))
 rw[Heap.get?_update_self _ hT rfl]
 simp[Obj.mapSeq]
structure OA (h:Heap) (z TI TO J l:Addr) (i:Nat):Prop where
 zip:IsZip h z TI TO .none
 ti:IsPair h TI (.ref J) (.ref J)
 own:Own h TO
 it:h.IsListIter J l i
structure Jj (z TI TO J l:Addr):Prop where
 TIz:TI≠z
 TOz:TO≠z
 Jz:J≠z
 TITO:TI≠TO
 TIJ:TI≠J
 TOJ:TO≠J
 lz:l≠z
 lTO:l≠TO
 lJ:l≠J
theorem VV{x:Value}(D:Jj z TI TO J l)(Z:OA s.heap z TI TO J l i)(hl:s.heap.IsList l xs)(hx:xs[i]?=some x)(hy:xs[i+1]?=some y)(hQ:∀ h',IsZip h' z TI TO (rawInt s.heap.objs.size)->Own h' TO->h'.IsListIter J l (i+2)->IsPair h' s.heap.objs.size x y->h'.objs.size=s.heap.objs.size+1 ->
  (∀ c o,c≠z->c≠TO->c≠J->s.heap.get? c=some o->h'.get? c=some o)->Q (.ref s.heap.objs.size) { s with heap:=h' }) :
 wpAny (model C.prog C.w) A (Builtin.«zip.__next__» ⟨[.ref z],[]⟩) (λfin s'=>∃ v,fin=.done (.ret v)/\Q v s') E s:=by
 have hz:=Z.zip
 (refine Qt (Z.own) λa b n nW=>?_)
 show wpAny _ _ (field (.ref z) 2 >>= _) _ _ _
 refine wpAny_bind (wpAny_field hz rfl (x:=.bool false) rfl ?_)
 show wpAny _ _ (field (.ref z) 3 >>= _) _ _ _
 refine wpAny_bind (wpAny_field hz rfl (x:=.ref TI) rfl ?_)
 refine wpAny_bind (wpAny_seqItems Z.ti rfl ?_)
 show wpAny _ _ (Builtin.SmallTypes.ownedTupleIsFree (.ref z) >>= _) _ _ _
 refine wpAny_bind ?_
 unfold Builtin.SmallTypes.ownedTupleIsFree
 refine wpAny_bind (wpAny_field hz rfl (x:=.none) rfl (wpAny_pure ?_))
 refine sI rfl (wpAny_bind (wpAny_rule ?_))
 refine wpAny_bind (wpAny_field hz rfl (x:=.ref TO) rfl ?_)
 refine wpAny_bind (wpAny_setField_rec hz (by simp) λAI Lz El=>?_)
 replace Lz:IsZip AI z TI TO .ellipsis:=Lz
 refine wpAny_bind (Ob rfl (wpAny_bind (wpAny_onRaise ?_)))
 show wpAny _ _ (Builtin.SmallTypes.nextOf (.ref J) >>= _) _ _ _
 refine wpAny_bind (wpAny_nextOf_list_item (Z.it.extBut El.extBut D.Jz) (hl.extBut El.extBut D.lz) hx λDv YE Gk=>wpAny_pure ?_)
 have MZ:=Gk.extBut _ _ D.TOJ (El.extBut _ _ D.TOz nW)
 refine wpAny_bind (wpAny_seqItems MZ rfl ?_)
 refine wpAny_bind (Pz MZ λGN Jk Gl=>?_)
 replace Jk:GN.get? TO=some { cls:=.type "tuple",data:=.seq #[x,b] n }:=Jk
 refine wpAny_bind (wpAny_letGo (wpAny_pure ⟨_,rfl,wpAny_bind (wpAny_onRaise ?_)⟩))
 show wpAny _ _ (Builtin.SmallTypes.nextOf (.ref J) >>= _) _ _ _
 refine wpAny_bind (wpAny_nextOf_list_item (YE.extBut Gl.extBut D.TOJ.symm)
  (((hl.extBut El.extBut D.lz).extBut Gk.extBut D.lJ).extBut Gl.extBut D.lTO) hy λYF lu LA=>wpAny_pure ?_)
 have YG:=LA.extBut _ _ D.TOJ Jk
 refine wpAny_bind (wpAny_seqItems YG rfl ?_)
 refine wpAny_bind (Pz YG λGh PA LB=>?_)
 replace PA:Gh.get? TO=some { cls:=.type "tuple",data:=.seq #[x,y] n }:=PA
 refine wpAny_bind (wpAny_letGo (wpAny_pure ⟨_,rfl,?_⟩))
 refine wpAny_bind (wpAny_seqItems PA rfl ?_)
 refine wpAny_bind (wpAny_newTuple ?_)
 have Yi:Gh.objs.size=s.heap.objs.size:=by rw[LB.1,LA.1,Gl.1,Gk.1,El.1]
 have fc:IsZip Gh z TI TO .ellipsis:=LB.extBut _ _ D.TOz.symm (LA.extBut _ _ D.Jz.symm (Gl.extBut _ _ D.TOz.symm (Gk.extBut _ _ D.Jz.symm Lz)))
 have Oq:∀ c o,c≠z->c≠TO->c≠J->s.heap.get? c=some o->Gh.get? c=some o:=λc o c1 c2 c3 e =>
  LB.extBut _ _ c2 (LA.extBut _ _ c3 (Gl.extBut _ _ c2 (Gk.extBut _ _ c3 (El.extBut _ _ c1 e))))
 have ly:Gh.IsListIter J l (i+2):=lu.extBut LB.extBut D.TOJ.symm
 have lA:z<Gh.objs.size:=Heap.lt_size fc
 show wpAny _ _ (Builtin.SmallTypes.ownedTupleHandOut (.ref z) (.ref Gh.objs.size) >>= _) _ _ _
 refine wpAny_bind ?_
 unfold Builtin.SmallTypes.ownedTupleHandOut
 have lB:IsZip (Gh.push { cls:=.type "tuple",data:=.seq #[x,y] }) z TI TO .ellipsis:=Heap.get?_push_of_some _ fc
 refine wpAny_bind (wpAny_setField_rec lB (by simp) λqd YH YI=>?_)
 replace YH:IsZip qd z TI TO (rawInt Gh.objs.size):=YH
 refine wpAny_setField_rec YH (by simp) λYJ UG YK=>?_
 replace UG:IsZip YJ z TI TO (rawInt Gh.objs.size):=UG
 have up:∀ c o,c≠z->Gh.get? c=some o->YJ.get? c=some o:=λc o c1 e=>YK.extBut _ _ c1 (YI.extBut _ _ c1 (Heap.get?_push_of_some _ e))
 have fe:IsPair YJ Gh.objs.size x y:=YK.extBut _ _ (Nat.ne_of_gt lA) (YI.extBut _ _ (Nat.ne_of_gt lA) (Heap.get?_push_size _ rfl))
 have s6:YJ.objs.size=Gh.objs.size+1:=by rw[YK.1,YI.1,Heap.size_push]
 rw[Yi] at UG fe s6
 refine wpAny_pure ⟨_,rfl,?_⟩
 show Q (.ref Gh.objs.size) _
 rw[Yi]
 exact hQ YJ UG (EY _ _ _ (up _ _ D.TOz PA)) (ly.at λo e=>up _ o D.Jz e) fe s6 λc o c1 c2 c3 e=>up c o c1 (Oq c o c1 c2 c3 e)
theorem YL{Q:Fin->Shared->Prop}(hh:A.handled=none)(D:Jj z TI TO J l)(Z:OA s.heap z TI TO J l i)(hl:s.heap.IsList l xs)(YM:xs[i]?=none\/xs[i+1]?=none)(hE:∀ h' e,Own h' TO->(∀ c o,c≠z->c≠TO->c≠J->s.heap.get? c=some o->h'.get? c=some o)->(∃ o,h'.get? e=some o/\o.cls=.type "StopIteration")->E (.ref e) { s with heap:=h' }) :
 wpAny (model C.prog C.w) A (Builtin.«zip.__next__» ⟨[.ref z],[]⟩) Q E s:=by
 have hz:=Z.zip
 (refine Qt (Z.own) λa b n nW=>?_)
 show wpAny _ _ (field (.ref z) 2 >>= _) _ _ _
 refine wpAny_bind (wpAny_field hz rfl (x:=.bool false) rfl ?_)
 show wpAny _ _ (field (.ref z) 3 >>= _) _ _ _
 refine wpAny_bind (wpAny_field hz rfl (x:=.ref TI) rfl ?_)
 refine wpAny_bind (wpAny_seqItems Z.ti rfl ?_)
 show wpAny _ _ (Builtin.SmallTypes.ownedTupleIsFree (.ref z) >>= _) _ _ _
 refine wpAny_bind ?_
 unfold Builtin.SmallTypes.ownedTupleIsFree
 refine wpAny_bind (wpAny_field hz rfl (x:=.none) rfl (wpAny_pure ?_))
 refine sI rfl (wpAny_bind (wpAny_rule ?_))
 refine wpAny_bind (wpAny_field hz rfl (x:=.ref TO) rfl ?_)
 refine wpAny_bind (wpAny_setField_rec hz (by simp) λAI Lz El=>?_)
 replace Lz:IsZip AI z TI TO .ellipsis:=Lz
 refine wpAny_bind (Ob rfl (wpAny_bind (wpAny_onRaise ?_)))
 show wpAny _ _ (Builtin.SmallTypes.nextOf (.ref J) >>= _) _ _ _
 cases hx:xs[i]? with
 |none =>
  refine wpAny_bind (wpAny_nextOf_list_end hh (Z.it.extBut El.extBut D.Jz) (hl.extBut El.extBut D.lz) hx λDv e Gk he=>?_)
  (refine Am (he) λoe g8 lC=>?_;clear he)
  have fg:IsZip Dv z TI TO .ellipsis:=Gk _ _ D.Jz.symm Lz
  have qe:e≠z:=λx=>by subst x;rw[fg] at g8;cases g8;simp at lC
  exact wpAny_setField_rec fg (by simp) λGN uu Gl=>hE GN e (EY a b n (Gl.extBut _ _ D.TOz (Gk _ _ D.TOJ (El.extBut _ _ D.TOz nW)))) (λc o c1 uu c3 x=>Gl.extBut _ _ c1 (Gk _ _ c3 (El.extBut _ _ c1 x))) ⟨oe,Gl.extBut _ _ qe g8,lC⟩
 |some x =>
  have hy:xs[i+1]?=none:=by rcases YM with h|h;rw[hx] at h;cases h;exact h
  refine wpAny_bind (wpAny_nextOf_list_item (Z.it.extBut El.extBut D.Jz) (hl.extBut El.extBut D.lz) hx λDv YE Gk=>wpAny_pure ?_)
  have MZ:=Gk.extBut _ _ D.TOJ (El.extBut _ _ D.TOz nW)
  refine wpAny_bind (wpAny_seqItems MZ rfl ?_)
  refine wpAny_bind (Pz MZ λGN Jk Gl=>?_)
  replace Jk:GN.get? TO=some { cls:=.type "tuple",data:=.seq #[x,b] n }:=Jk
  refine wpAny_bind (wpAny_letGo (wpAny_pure ⟨_,rfl,wpAny_bind (wpAny_onRaise ?_)⟩))
  show wpAny _ _ (Builtin.SmallTypes.nextOf (.ref J) >>= _) _ _ _
  refine wpAny_bind (wpAny_nextOf_list_end hh (YE.extBut Gl.extBut D.TOJ.symm)
   (((hl.extBut El.extBut D.lz).extBut Gk.extBut D.lJ).extBut Gl.extBut D.lTO) hy λYF e LA he=>?_)
  (refine Am (he) λoe g8 lC=>?_;clear he)
  have fi:IsZip YF z TI TO .ellipsis:=LA _ _ D.Jz.symm (Gl.extBut _ _ D.TOz.symm (Gk.extBut _ _ D.Jz.symm Lz))
  have qe:e≠z:=λx=>by subst x;rw[fi] at g8;cases g8;simp at lC
  exact wpAny_setField_rec fi (by simp) λGh uu LB=>hE Gh e (EY x b n (LB.extBut _ _ D.TOz (LA _ _ D.TOJ Jk))) (λc o c1 c2 c3 x=>LB.extBut _ _ c1 (LA _ _ c3 (Gl.extBut _ _ c2 (Gk.extBut _ _ c3 (El.extBut _ _ c1 x))))) ⟨oe,LB.extBut _ _ qe g8,lC⟩
theorem PB{x:Value}{Q:Option Value->Shared->Prop}(D:Jj z TI TO J l)(Z:OA s.heap z TI TO J l i)(hl:s.heap.IsList l xs)(hx:xs[i]?=some x)(hy:xs[i+1]?=some y)(hQ:∀ h',IsZip h' z TI TO (rawInt s.heap.objs.size)->Own h' TO->h'.IsListIter J l (i+2)->IsPair h' s.heap.objs.size x y->h'.objs.size=s.heap.objs.size+1 ->
  (∀ c o,c≠z->c≠TO->c≠J->s.heap.get? c=some o->h'.get? c=some o)->Q (some (.ref s.heap.objs.size)) { s with heap:=h' }) :
 wpAny (model C.prog C.w) A (pyNext (.ref z)) Q E s:=by
 have hT:s.TypeIs (.ref z) "zip" := ⟨_,Z.zip,rfl⟩
 unfold pyNext
 exact wpAny_bind (wpAny_attempt (wpAny_callSpecial?_slot (name:=Str.ofString "__next__") hT F.slot_zip_next
  (wpAny_call_entry F.slot_zip_next hT F.entry_zip_next (VV D Z hl hx hy λh' a1 a2 a3 a4 a5 a6=>wpAny_pure (hQ h' a1 a2 a3 a4 a5 a6)) (F.args_zip_next_1 _))))
theorem Rb{Q:Option Value->Shared->Prop}(hh:A.handled=none)(D:Jj z TI TO J l)(Z:OA s.heap z TI TO J l i)(hl:s.heap.IsList l xs)(YM:xs[i]?=none\/xs[i+1]?=none)(hQ:∀ h',Own h' TO->(∀ c o,c≠z->c≠TO->c≠J->s.heap.get? c=some o->h'.get? c=some o)->Q none { s with heap:=h' }):wpAny (model C.prog C.w) A (pyNext (.ref z)) Q E s:=by
 have hT:s.TypeIs (.ref z) "zip" := ⟨_,Z.zip,rfl⟩
 unfold pyNext
 refine wpAny_bind (wpAny_attempt (wpAny_callSpecial?_slot (name:=Str.ofString "__next__") hT F.slot_zip_next
  (wpAny_call_entry F.slot_zip_next hT F.entry_zip_next (YL hh D Z hl YM λh' e ow hk he=>?_) (F.args_zip_next_1 _))))
 (refine Am (he) λo ho hc=>?_;clear he)
 refine wpAny_bind (wpAny_isInstance (T := "StopIteration") (b:=true) ⟨o,ho,hc⟩ isSubtype_stop ?_)
 exact wpAny_pure (hQ _ ow hk)
theorem IV{P:Heap->Prop}{f:Value}{first:List Value}{x:Sem Value}(hk:∀ h,P h->∃ k,(k=Keeper.frame\/k=Keeper.machine\/k=Keeper.boundFrame)/\Looks (model C.prog C.w) h (keeperOf f) k)(h:wpAny (model C.prog C.w) A (evalArgs f true [(true,x)] []) (λa s₁=>P s₁.heap/\wpAny (model C.prog C.w) A (call f (first++a.pos) a.kw) Q E s₁) E s):wpAny (model C.prog C.w) A (callWith p f first [(true,x)] []) Q E s:=by
 unfold callWith
 refine wpAny_bind (wpAny_holding (wpAny_mono h (λa s₁ AI=>wpAny_bind (wpAny_standAt ?_)) λuu uu x=>x))
 (refine Am (hk _ AI.1) λk Pq L=>?_)
 refine wpAny_bind (L.here ?_)
 have tail:∀ {t:Sem Value},wpAny (model C.prog C.w) A t Q E s₁->wpAny (model C.prog C.w) A (t >>= λr=>holding [r] point >>= λuu=>pure r) Q E s₁ :=
  λht=>wpAny_bind (wpAny_mono ht (λr Ai hr=>wpAny_bind (wpAny_holding (wpAny_point (wpAny_pure hr)))) λuu uu x=>x)
 rcases Pq with rfl|rfl|rfl
 . exact tail (by unfold callMarked;exact Calls.wpAny_keep AI.2)
 . exact tail (wpAny_operate' AI.2)
 . exact tail (wpAny_operate' AI.2)
theorem OB{f:Value}{x:Sem Value}{Q:Args->Shared->Prop}{T:String}(hT:T = "list" \/ T = "tuple")(h:wpAny (model C.prog C.w) A x (λv s₁=>∃ a items n,v=.ref a/\s₁.heap.get? a=some { cls:=.type T,data:=.seq items n }/\items.size<=sizeLine/\∀ h',(∀ b o,s₁.heap.get? b=some o->h'.get? b=some o)->s₁.heap.objs.size<=h'.objs.size->Q ⟨items.toList,[]⟩ { s₁ with heap:=h' }) E s) :
 wpAny (model C.prog C.w) A (evalArgs f true [(true,x)] []) Q E s:=by
 unfold evalArgs
 refine wpAny_bind (wpAny_mono h (λv s₁ AI=>?_) λuu uu z=>z)
 refine Sj AI λa items n ev ho Yi kk=>?_
 rw[ev]
 refine wpAny_bind (wpAny_pure (wpAny_holding ?_))
 refine wpAny_bind (wpAny_pure ?_)
 refine wpAny_bind (wpAny_bind ?_)
 unfold notIterableAtAll
 have Yh:s₁.TypeIs (.ref a) T:=⟨_,ho,rfl⟩
 have fin:wpAny (model C.prog C.w) A (holding [] (collect (.ref a))) (λvs Ai=>wpAny (model C.prog C.w) A (pure (⟨vs,[]⟩:Args):Sem Args) Q E Ai) E s₁:=by
  refine wpAny_holding (AX (wpAny_collect_seq a hT ho rfl rfl (λh' kp z=>?_) Yi))
  exact wpAny_pure (kk h' kp z)
 rcases hT with rfl|rfl
 . refine wpAny_bind (wpAny_specialOf Yh slot_list_iter.lookup (wpAny_pure ?_))
   simp only[Bool.false_eq_true,if_false]
   exact fin
 . refine wpAny_bind (wpAny_specialOf Yh F.slot_tuple_iter.lookup (wpAny_pure ?_))
   simp only[Bool.false_eq_true,if_false]
   exact fin
theorem N0{x f:Addr}(X:C.K.In s.heap)(I:W.InstAt s.heap x ox Cl od)(bT:findIn C.K (.ref Cl) "__getattribute__" = some (some (.builtin "list.__getattribute__")))(gH:findIn C.K (.ref Cl) "__getattr__" = some none)(hm:mroIn C.K Cl (.type "list")=some true)(hf:findObj C.K Cl od name=some (.bind (.builtin "function.__get__") (.ref f)))(ht:typeIn C.K (.ref f)=some (.type "function"))(k:Q (.ref s.heap.objs.size) { s with heap:=s.heap.push (methodObj (.ref f) (.ref x)),toks:=s.toks+1 }):wpAny (model C.prog C.w) A (getAttr (.ref x) name QF) Q E s:=by
 have L1:=looks_findIn (M:=model C.prog C.w) X bT
 have L2:=looks_findIn (M:=model C.prog C.w) X gH
 have L3:=looks_find (M:=model C.prog C.w) X I hf
 have L0:=I.type (M:=model C.prog C.w)
 obtain⟨hp,g,d,t,os⟩:=s
 unfold getAttr getAttrBy
 refine wpAny_bind (wpAny_mkText (wpAny_holding (wpAny_bind (L0.at (wpAny_bind (L1.at ?_))))))
 show wpAny _ _ (getAttrByItsOwn _ _ _ _ _ _) _ _ _
 unfold getAttrByItsOwn
 refine wpAny_bind (L2.at ?_)
 refine wpAny_bind (wpAny_attempt (wpAny_holding ?_))
 have e:callGetattribute (.ref x) (.str name t) (.builtin "list.__getattribute__") QF=boundAndCalled (.builtin "list.__getattribute__") (.ref x) (.str name t):=by
  unfold callGetattribute
  rw[if_neg (by simp[onTheHeap])]
 rw[e]
 unfold boundAndCalled
 rw[Ut]
 refine wpAny_bind (wpAny_pure ?_)
 refine FO (s:=⟨hp,g,d,t+1,os⟩) X I hm (.inr (by decide +kernel)) (n := "__getattribute__") (by decide +kernel) (by decide +kernel) F.entry_list_ga (by unfold argsOk;left) ?_
 refine wpAny_bind (wpAny_pure (wpAny_bind (wpAny_pure (wpAny_bind (L0.at (wpAny_bind (L3.at ?_)))))))
 show wpAny _ _ (holding [.ref f] (call (.builtin "function.__get__") [.ref f,.ref x,.ref Cl]) >>= ret) _ _ _
 refine wpAny_bind (wpAny_holding (wpAny_call (fn_get X ht ?_)))
 refine wpAny_pure ⟨_,rfl,?_⟩
 show wpAny _ _ (handedOut (.ref _)) _ _ _
 rw[handedOut_of rfl]
 exact wpAny_pure k
noncomputable def KU(F:List AV->St->Option (AV×St))(f g:EM):EM:=λlc σ=>(f lc σ).bind λp=>if kind p.2 p.1=4 then (g lc p.2).bind λq=>q.1.tup?.bind λxs=>if xs.length<1000 then F (p.1::xs) q.2 else none else none
structure SN (C:Cfg) (name:Str) (f:Addr):Prop where
 hf:findIn C.K (.ref C.ACC) name=some (some (.ref f))
 hg:specialIn C.K (.ref f) "__get__" = some (some (.builtin "function.__get__"))
 ht:takesIn C.K (.ref f)=some false
 hc:copiedNames.contains name=false
 ty:typeIn C.K (.ref f)=some (.type "function")
 fn:fnIn C.K f=true
 nm:(name==("_initial_size" : Str))=false
theorem findObj_fn{a g:Value}{od:Obj}(hh:hasDictIn K Cl=true)(ha:findIn K (.ref Cl) name=some (some a))(hg:specialIn K a "__get__" = some (some g))(ht:takesIn K a=some false)(hc:copiedNames.contains name=false)(hl:lookIn name od=some none) :
 findObj K Cl (some od) name=some (.bind g a):=by
 (refine Am (any_some hh) λcd g9 hd=>?_)
 unfold findObj
 have ho:W.ownOf cd (some od) name=some none:=by unfold W.ownOf;rw[if_pos hd];exact hl
 rw[g9,Option.bind_some,ha,Option.bind_some]
 simp only[hg,ht,Option.bind_some,ho,hc,Bool.false_and,Bool.false_eq_true,if_false]
theorem PC(H:Aq C)(HC:Bg C){f:Addr}{o:Expr}{g:EM}{ps:Pos}(B:SN C name f)(DF:JK C d f F)(D0:AQ C d env Aa o fo)(D:AQ C d env Aa e g)(hb:∀ nm AR,attributeBase o nm env AR=AR):AQ C d env Aa (.Call (.Attribute o name B1) [.Starred e ps] [] p) (KU F fo g):=by
 intro lc σ y σ' hf A Q E s ρ hA R lr kk
 refine oB hf λr e1 hf=>sf hf λbS hf=>oB hf λq e2 hf=>oB hf λxs ex hf=>sf hf λEt hf=>?_
 rw[arm_eval_Call,hb]
 refine wpAny_bind (D0 _ _ _ _ e1 A _ E s ρ hA R lr λv s₁ Ad An Aj AA=>wpAny_bind (wpAny_standAt ?_))
 show wpAny _ _ (methodCall o name B1 p env v 1 [(true,eval e env >>= λv=>standAt p >>= λuu=>pure v)] []) _ _ _
 unfold methodCall
 refine wpAny_bind (wpAny_holding ?_)
 show wpAny _ _ (getAttr v name true >>= λr=>pure (r,[])) _ _ _
 refine Dt (MG bS (by decide)) λl o' el hl ko=>ID (Oh ko) λini CI eo=>?_
 have AA:VR C Ad s₁.heap (.loc l) v:=AV.loc_inv el▸AA
 refine An.acc_e (eo▸hl) AA λa dd es n n' vs e0 ho hd he hs=>?_
 have gl:=CO (name:=name) he
 have en:(C6 ini).lookup name=none:=by
  unfold C6
  rw[List.lookup_cons,B.nm]
  rfl
 rw[en] at gl
 refine wpAny_bind (N0 (An.kin H) (CC ho hd) HC.acGa HC.acGt HC.acMro (findObj_fn HC.acDict B.hf B.hg B.ht B.hc gl) B.ty ?_)
 refine wpAny_pure ?_
 show wpAny _ _ (pure p >>= _) _ _ _
 refine wpAny_bind (wpAny_pure ?_)
 have Au:Step C [] Ad Ad s₁.heap (s₁.heap.push (methodObj (.ref f) (.ref a))):=.pushObj _
 refine IV (P:=MethP C.K s₁.heap.objs.size f (.ref a)) (λh X=>keeps_M B.fn h X) (OB (.inr rfl) ?_)
 refine wpAny_bind (D _ _ _ _ e2 A _ E _ Ad hA (An.push (methodObj (.ref f) (.ref a)) (n:=s₁.toks+1)) ((lr.go Aj).go Au) λv' AJ By BY BV Gg=>wpAny_bind (wpAny_standAt (wpAny_pure ?_)))
 refine Gg.ES ex λta qf tn lD uX nX=>?_
 refine(EY ta qf.toArray tn ⟨rfl,lD,by rw[List.size_toArray,nX.length,sizeLine_eq];omega,λh' kp z=>?_⟩)
 have GO:Rel C By q.2 { AJ with heap:=h' }:=BY.same kp z BY.gens rfl rfl
 have FR:Step C [] By By AJ.heap h':=.same kp z
 have Xf:h'.get? s₁.heap.objs.size=some (methodObj (.ref f) (.ref a)):=kp _ _ (BV.keep _ _ (Heap.get?_push_size _ rfl) An.fresh (λz=>nm z))
 refine⟨⟨Xf,GO.kin H⟩,?_⟩
 rw[List.nil_append]
 refine wpAny_call (method_call Xf ?_)
 have T:=(Au.trans BV).trans FR
 have qr:VR C By h' r.1 (.ref a):=AV.loc_inv el▸(VR.loc e0:VR C Ad s₁.heap (.loc l) (.ref a)).go T
 exact DF _ _ _ _ hf A _ _ By (.ref a::qf) hA GO (.cons qr (nX.go FR)) λuY Hb fj VD Q7 qg=>kk uY Hb fj VD ((Aj.trans T).trans Q7) qg
set_option tactic.hygienic true
theorem cQ(He:Bi env Aa){n:Str}(hi:Aa[i]?=some n)(hj:Aa[j]?=some m)(D:AQ C d env Aa e f)(hs:swapsWithSole [.Tuple [.Name n pa,.Name m pb] k0 pt] e p.line env=pure false)(hw:swappedStores [.Tuple [.Name n pa,.Name m pb] k0 pt] e env=pure none) :
 E4 C d env Aa (.Assign [.Tuple [.Name n pa,.Name m pb] k0 pt] e p) (SJ i j f):=by
 intro lc σ fl lc' σ' hf A Q E s ρ hA R lr kk
 refine oB hf λy e1 hf=>oB hf λxs ex hf=>oB hf λxy e0 hf=>oB hf λlc₁ e2 hf=>oM hf λCD e3 e4=>?_
 refine wpAny_Assign_stores (D _ _ _ _ e1 A _ E s ρ hA R lr λv s₁ Ad An Aj AA=>?_) hs hw
 refine AA.ES ex λta qf tn lD uX nX=>?_
 revert lD
 refine nX.arg2_e e0 λva vb qa qb lD=>?_
 show wpAny _ _ (assign (.Tuple [.Name n pa,.Name m pb] k0 pt) env (.ref ta)) _ _ _
 exact Oy He hi hj e2 e3 hA.1 An (lr.go Aj) lD qa qb λAi Az Au Cu=>Pj kk e4 _ Ai Ad Az (Aj.of_nil.trans Au) Cu .next
noncomputable def hM:AO->Bool
 | .ghost=>true
 | .list _=>false
 | .fmt ..=>false
 | .acc ..=>false
 | .gen ..=>false
 | .out _=>false
 | .cell ..=>false
 | .ext ..=>false
noncomputable def cR(σ:St)(g:Nat):Option Unit:=σ[g]?.bind λo=>gd (hM o) ()
set_option tactic.hygienic false
theorem Rc(h:cR σ g=some u):σ[g]?=some .ghost:=oB h λo e h=>oG h λz uu=>by
 cases o with
 |ghost=>exact e
 | _=>exact ft z
noncomputable def Rd(xs:List AV)(i:Nat):Option AV:=xs[2*i]?.bind λx=>xs[2*i+1]?.map λy=>.tup [x,y]
noncomputable def fk(g:Nat)(src:AV):St->Nat->Option (Option AV):=λσ i=>(cR σ g).bind λ_=>(Bq σ src).map λxs=>Rd xs i
noncomputable def put2(i j:Nat):Lc->AV->Option Lc:=λlc v=>v.tup?.bind λxs=>(JG xs).bind λp=>(putL lc i p.1).bind λlc₁=>putL lc₁ j p.2
theorem M0{items:Array Value}(hl:s.heap.IsList l items)(h:Q (.ref s.heap.objs.size) { s with heap:=s.heap.push { cls:=.type "list_iterator",data:=.fields #[.ref l,.int 0 0] } }):wpAny (model C.prog C.w) A (call (.builtin "iter") [.ref l]) Q E s:=by
 refine call_function_entry (by decide +kernel) (by decide +kernel) kdk_entry_iter (kdk_args_iter _) ?_
 unfold Builtin.«iter»
 refine wpAny_bind (m:=someArgs "iter" 1 2 _) (wpAny_of_eq (a:=[Value.ref l]) (by first|rfl|kernel_rfl!) ?_)
 show wpAny _ _ (pyIter (.ref l) >>= _) _ _ _
 refine wpAny_bind (wpAny_pyIter_list hl ?_)
 exact wpAny_pure ⟨_,rfl,h⟩
theorem qh{u:Tok}(hl:s.heap.get? l=some { cls:=.type "list",dict:=none,data:=.seq #[v] k,slots:=#[] })(h:Q (.ref s.heap.objs.size) { s with heap:=s.heap.push { cls:=.type "list",data:=.seq #[v,v] } }):wpAny (model C.prog C.w) A (binaryOp .Mult (.ref l) (.int 2 u)) Q E s :=
 wpAny_binaryOp_repeat_ref (T := "list") (U := "int") (by decide) ⟨_,hl,rfl⟩ (λs'=>typeIs_int s' 2 u) noFill_list_mul PySem.F.fills_int_mul PySem.F.slot_int_rmul repeat_list PySem.F.slot_int_index.lookup
  (call_meets PySem.F.slot_int_rmul (typeIs_int s 2 u) PySem.F.entry_int_rmul (PySem.F.args_int_rmul_2 _ _) (int___rmul___int_list 2 u l #[v] k)
   ⟨hl,rfl,⟨_,hl,rfl⟩,call_meets PySem.F.slot_list_mul ⟨_,hl,rfl⟩ PySem.F.entry_list_mul (PySem.F.args_list_mul_2 _ _)
    (AutoListH.list___mul___list_int_3 l #[v] k 2 u (by simp[Builtin.List.listFitsIndex]) (by simp) (by simp[Builtin.List.listTooLong,sizeLine]))
    ⟨hl,h⟩⟩)
theorem SP(J l:Addr)(i:Nat) :
 Meets (Builtin.«zip.__new__» ⟨[.type "zip",.ref J,.ref J],[]⟩) (λuu R s=>s.heap.IsListIter J l i /\
  R (.ok (.ret (.ref (s.heap.objs.size+2)))) { s with heap:=((s.heap.push { cls:=.type "tuple",data:=.seq #[.ref J,.ref J] }).push { cls:=.type "tuple",data:=.seq #[.none,.none] }).push { cls:=.type "zip",data:=.fields #[.none,.bool false,.bool false,.ref s.heap.objs.size,.ref (s.heap.objs.size+1)] } }) :=
 .of_wp λprog w A R s h=>by
  obtain⟨hp,g,d,tk,os⟩:=s;(refine AS (h) λs7 h=>?_)
  have QM:=sub_zip
  have lE:Heap.IsListIter (Shared.heap ⟨hp,g,d,tk,os⟩) J l i:=s7
  have e1:(hp.push { cls:=.type "tuple",data:=.seq #[.ref J,.ref J] }).objs.size=hp.objs.size+1:=Heap.size_push ..
  have e2:((hp.push { cls:=.type "tuple",data:=.seq #[.ref J,.ref J] }).push { cls:=.type "tuple",data:=.seq #[.none,.none] }).objs.size=hp.objs.size+2:=by rw[Heap.size_push,e1]
  wp_walk using wpAny_pyIter_listiter lE
  refine⟨_,rfl,?_⟩
  rw[<- e1,<- e2] at h
  exact h
theorem VW(hl:s.heap.IsListIter J l i)(h:∀ h',OA h' (s.heap.objs.size+2) s.heap.objs.size (s.heap.objs.size+1) J l i->h'.objs.size=s.heap.objs.size+3 ->
  (∀ c o,s.heap.get? c=some o->h'.get? c=some o)->Q (.ref (s.heap.objs.size+2)) { s with heap:=h' }) :
 wpAny (model C.prog C.w) A (call (.type "zip") [.ref J,.ref J]) Q E s:=by
 refine callType_new PySem.F.called_zip (by decide) (PySem.F.typeCall_zip_2 _ _) (PySem.F.newCall_zip_2 _ _) (λobj=>PySem.F.args_object_init_3 obj _ _) PySem.F.entry_zip_new
  (SP J l i) ⟨hl,?_⟩
 have g1:(s.heap.push { cls:=.type "tuple",data:=.seq #[.ref J,.ref J] }).get? s.heap.objs.size=some { cls:=.type "tuple",data:=.seq #[.ref J,.ref J] }:=Heap.get?_push_size _ rfl
 have e1:(s.heap.push { cls:=.type "tuple",data:=.seq #[.ref J,.ref J] }).objs.size=s.heap.objs.size+1:=Heap.size_push ..
 have g2:((s.heap.push { cls:=.type "tuple",data:=.seq #[.ref J,.ref J] }).push { cls:=.type "tuple",data:=.seq #[.none,.none] }).get? (s.heap.objs.size+1)=some { cls:=.type "tuple",data:=.seq #[.none,.none] }:=e1▸Heap.get?_push_size _ rfl
 have e2:((s.heap.push { cls:=.type "tuple",data:=.seq #[.ref J,.ref J] }).push { cls:=.type "tuple",data:=.seq #[.none,.none] }).objs.size=s.heap.objs.size+2:=by rw[Heap.size_push,e1]
 have g3:(((s.heap.push { cls:=.type "tuple",data:=.seq #[.ref J,.ref J] }).push { cls:=.type "tuple",data:=.seq #[.none,.none] }).push { cls:=.type "zip",data:=.fields #[.none,.bool false,.bool false,.ref s.heap.objs.size,.ref (s.heap.objs.size+1)] }).get? (s.heap.objs.size+2)=some { cls:=.type "zip",data:=.fields #[.none,.bool false,.bool false,.ref s.heap.objs.size,.ref (s.heap.objs.size+1)] }:=e2▸Heap.get?_push_size _ rfl
 have up:∀ c o,s.heap.get? c=some o->(((s.heap.push { cls:=.type "tuple",data:=.seq #[.ref J,.ref J] }).push { cls:=.type "tuple",data:=.seq #[.none,.none] }).push { cls:=.type "zip",data:=.fields #[.none,.bool false,.bool false,.ref s.heap.objs.size,.ref (s.heap.objs.size+1)] }).get? c=some o :=
  λc o e=>Heap.get?_push_of_some _ (Heap.get?_push_of_some _ (Heap.get?_push_of_some _ e))
 show _/\_
 exact⟨⟨_,g3,rfl⟩,h _ ⟨g3,Heap.get?_push_of_some _ (Heap.get?_push_of_some _ g1),(EY _ _ _ (Heap.get?_push_of_some _ g2)),hl.at λo e=>up _ o e⟩ (by rw[Heap.size_push,e2]) up⟩
theorem PD(hf:∀ J∈Is,∃ o,h.get? J=some o/\(∀ vs n,o.data≠.seq vs n)/\o.cls≠.type "code"):∀ a o vs n,a∈Is->h.get? a=some o->o.data≠.seq vs n:=λa o vs n ha e =>
 Ci (hf a ha) λo' Uq hn uu=>Option.some.inj (Uq.symm.trans e)▸hn vs n
theorem Rel.zip(R:Rel C ρ σ s)(hf:∀ J∈Is,∃ o,s.heap.get? J=some o/\(∀ vs n,o.data≠.seq vs n)/\o.cls≠.type "code")(hm:∀ J∈Is,¬ Ds C ρ J)(hl:∀ J∈Is,C.s₁.heap.objs.size<=J)(hg:ρ[g]?=some (TO,TO))(Rf:σ[g]?=some .ghost)(k:∀ b o,b∉Is->b≠TO->s.heap.get? b=some o->h'.get? b=some o)(z:s.heap.objs.size<=h'.objs.size)(hT:Own h' TO):Rel C ρ σ { s with heap:=h',toks:=n }/\Step C Is ρ ρ s.heap h':=by
 have mT:Ds C ρ TO:=.inr ⟨_,List.mem_of_getElem? hg,.inl rfl⟩
 have S:Step C Is ρ ρ s.heap h':=⟨z,λb o e nm w=>k b o w (λz=>nm (z▸mT)) e,[],by rw[List.append_nil],λuu hp=>nm hp⟩
 have W:=PD hf
 have qi:=(R.lo _ (List.mem_of_getElem? hg)).1
 have nI:∀ {l:Nat} {p:Addr×Addr},ρ[l]?=some p->p.1∉Is/\p.2∉Is:=λ{l p} e=>⟨λm=>hm _ m (.inr ⟨p,List.mem_of_getElem? e,.inl rfl⟩),λm=>hm _ m (.inr ⟨p,List.mem_of_getElem? e,.inr rfl⟩)⟩
 have kc:∀ b' o,s.heap.get? b'=some o->I6 o->b'∉Is/\b'≠TO:=λb' o ho hc=>CJ hc.2 λvs hd=>⟨λm=>Ci (hf _ m) λo2 uZ uu qj=>qj (Option.some.inj (ho.symm.trans uZ)▸hc.1),
  λm=>Gf (R.st g _ _ hg Rf) λuu uu uu uu jY=>Data.noConfusion ((Option.some.inj (ho.symm.trans (m▸jY))▸hd.symm))⟩
 refine⟨⟨λb o e nt=>?_,λt ht=>?_,R.lo,R.dis,R.len,λl p o e e'=>?_,R.gens.heap (λl' p' x e e' hx o ho=>?_),R.drawn,R.os,Nat.le_trans R.size z⟩,S⟩
 . have hb:=Heap.lt_size e
   exact k b o (λm=>absurd (hl b m) (Nat.not_le.mpr hb)) (Nat.ne_of_lt (Nat.lt_of_lt_of_le hb qi)) (R.old b o e nt)
 . refine Am (R.tab t ht) λmore a b=>?_
   have nT:¬ C.isTab TO:=λm=>R.objNotTab hg Rf (.inl rfl) m
   have hP:t.2.1∉Is:=λm=>hm _ m (.inl (List.mem_map.mpr ⟨t,ht,rfl⟩))
   have s8:t.2.1≠TO:=λm=>nT (m▸List.mem_map.mpr ⟨t,ht,rfl⟩)
   have hc:t.1∉Is/\t.1≠TO:=NT b.at_.1 λo vs ho JF hd uu=>kc _ o ho ⟨JF,vs,hd⟩
   exact⟨more,a.at2 (λo e=>k _ o hc.1 hc.2 e) (λo e=>k _ o hP s8 e),b.move (λb' o e hc=>k _ o (kc b' o e hc).1 (kc b' o e hc).2 e) (λo e=>k _ o hP s8 e)⟩
 . by_cases jZ:g=l
   . subst jZ
     have z1:=Option.some.inj (hg.symm.trans e)
     have z2:=Option.some.inj (Rf.symm.trans e')
     exact z1▸z2▸Qt hT λx y m hT=>Ct.ghost hT
   . have dd:=Pn R hg e jZ
     exact(R.st l p o e e').move (λob z=>k _ _ (nI e).1 dd.1.symm z) (λob z=>k _ _ (nI e).2 dd.2.1.symm z) (·.step S W) (λuu z=>z) λb o e hc=>k _ o (kc b o e hc).1 (kc b o e hc).2 e
 . have eO:g≠l':=λz=>by
    rw[<- z,Rf] at e'
    exact ft (Option.some.inj e'▸hx:AO.ghost.isGen=true)
   exact k _ o (nI e).1 (Pn R hg e eO).1.symm ho
theorem Hh{P:Addr->Prop}(ha:P a)(hb:P b):∀ K∈[a,b],P K:=λK h=>(List.mem_cons.mp h).elim (λe=>e▸ha) λh=>List.mem_singleton.mp h▸hb
theorem J0(h:c∉[a,b]):c≠a/\c≠b:=⟨λe=>h (e▸List.mem_cons_self),λe=>h (e▸List.mem_cons_of_mem _ List.mem_cons_self)⟩
theorem PE(h1:c≠a)(h2:c≠b):c∉[a,b]:=λm=>(List.mem_cons.mp m).elim h1 λm=>h2 (List.mem_singleton.mp m)
theorem Cx.iters(q:Cx C ρ h L Aa lc)(S:Step C Is ρ ρ h h')(Gj:L∉Is)(W:∀ a o vs n,a∈Is->h.get? a=some o->o.data≠.seq vs n):Cx C ρ h' L Aa lc:=by
 exact⟨Am q.1 λm hn hv=>⟨m,hn.at λo e=>S.keep _ _ e q.2.1 Gj,λi x e=>Dt (hv i x e) λn v a b c=>(B6 n v ⟨a,b,c.step S W⟩)⟩,q.2.1,q.2.2⟩
structure VX (C:Cfg) (g:Nat) (src:AV) (z TI TO J l:Addr) (i:Nat) (ρ:D7) (h:Heap):Prop where
 zip:IsZip h z TI TO .none
 ti:IsPair h TI (.ref J) (.ref J)
 tm:¬ Ds C ρ TI
 it:h.IsListIter J l (2*i)
 src:VR C ρ h src (.ref l)
 gh:ρ[g]?=some (TO,TO)
theorem J1{W:List Addr}(S:Step C W ρ Ar h h')(e:ρ[g]?=some q):Ar[g]?=some q:=by
 (refine Am (S.grow) λδ IF uu=>?_;subst IF)
 rw[List.getElem?_append_left (List.getElem?_eq_some_iff.mp e).1];exact e
theorem Rg{f0:Value}(hz:IsZip h z TI TO f0):∃ o,h.get? z=some o/\(∀ vs n,o.data≠.seq vs n)/\o.cls≠.type "code" := ⟨_,hz,(λvs n q=>by cases q),by show Value.type "zip" ≠ _;decide⟩
theorem VX.keeps{q:Nat}(hI:VX C g src z TI TO J l q ρ h)(kz:¬ Ds C ρ z)(kJ:¬ Ds C ρ J)(nz:env.locals≠z)(nJ:env.locals≠J)(nT:env.locals≠TI)(hW:∀ a o vs n,a∈[env.locals]->h.get? a=some o->o.data≠.seq vs n)(S:Step C [env.locals] ρ Ar h h'):VX C g src z TI TO J l q Ar h':=by
 have k:∀ {b:Addr} {o:Obj},env.locals≠b->¬ Ds C ρ b->h.get? b=some o->h'.get? b=some o:=λn m e=>S.keep _ _ e m λz=>n (List.mem_singleton.mp z).symm
 exact⟨k nz kz hI.zip,k nT hI.tm hI.ti,Ds.grow S (Heap.lt_size hI.ti) hI.tm,hI.it.at λo e=>k nJ kJ e,hI.src.step S hW,J1 S hI.gh⟩
set_option tactic.hygienic true
theorem lF(He:Bi env Aa){n:Str}(hi:Aa[i]?=some n)(hj:Aa[j]?=some m)(D:Jj z TI TO J l)(lz:C.s₁.heap.objs.size<=z)(lJ:C.s₁.heap.objs.size<=J)(nz:env.locals≠z)(nJ:env.locals≠J)(nT:env.locals≠TI) :
 KR C d env Aa z [z,J] (.Tuple [.Name n pa,.Name m pb] k0 pt) (fk g src) (put2 i j) (VX C g src z TI TO J l) where
 keep q ρ Ar h h' hI hm hW S:=hI.keeps (hm z List.mem_cons_self) (hm J (List.mem_cons_of_mem _ List.mem_cons_self)) nz nJ nT hW S
 here q ρ h hI:=Hh ⟨_,hI.zip⟩ (Am hI.it λo ho uu=>⟨o,ho⟩)
 next A q lc lc₁ σ ρ s x Q E' hA R lr hI hm hx hst k:=by
  refine oB hx λu Rf hx=>oM hx λxs G6 hx=>oB hx λx1 h1 hx=>oM hx λx2 h2 hx=>?_
  have Rf:=Rc Rf
  have hst:((putL lc i x1).bind λlc₁=>putL lc₁ j x2)=some lc₁:=(congrArg (put2 i j lc) hx).trans hst
  refine oB hst λCD e2 hst=>G7 (D9 R hI.src G6) λa' vs nn e ho hs=>?_
  rw[<- Value.ref.inj e] at ho
  refine Am (hs.get h1) λv1 u0 q1=>Am (hs.get h2) λv2 nY q2=>?_
  have ow:Own s.heap TO:=Gf (R.st g _ _ hI.gh Rf) λa b c uu ho=>(EY a b c ho)
  have lG:=Hh (P:=λK=>∃ o,s.heap.get? K=some o/\(∀ vs n,o.data≠.seq vs n)/\o.cls≠.type "code") (Rg hI.zip) (Df hI.it)
  refine PB D ⟨hI.zip,hI.ti,ow,hI.it⟩ (IsL.isList ho) (x:=v1) (y:=v2) (by rw[List.getElem?_toArray];exact u0) (by rw[List.getElem?_toArray];exact nY) λAI Hy hU qk ql lH CP=>?_
  refine⟨_,rfl,wpAny_letOwnedTupleGo_zip Hy λDv SI Ai=>?_⟩
  have k₂:∀ b o,b∉[z,J]->b≠TO->s.heap.get? b=some o->Dv.get? b=some o:=λb o hb hT e=>Ai.extBut _ _ (J0 hb).1 (CP b o (J0 hb).1 hT (J0 hb).2 e)
  refine AS (R.zip (n:=s.toks) lG hm (Hh lz lJ) hI.gh Rf k₂ (by rw[Ai.1,lH];exact Nat.le_succ _) (hU.at λo e=>Ai.extBut _ _ D.TOz e)) λAz Au=>?_
  have W:=PD lG
  have Cu:=lr.iters Au (PE nz nJ) W
  refine Oy He hi hj e2 hst hA.1 Az Cu (nn:=0) (Ai.extBut _ _ (Nat.ne_of_gt (Heap.lt_size hI.zip)) ql) (q1.step Au W) (q2.step Au W) λAJ BY BV IK=>?_
  have MX:VX C g src z TI TO J l (q+1) ρ Dv:=⟨SI,k₂ _ _ (PE D.TIz D.TIJ) D.TITO hI.ti,hI.tm,qk.at λo e=>Ai.extBut _ _ D.Jz e,hI.src.step Au W,hI.gh⟩
  exact k AJ BY ((Au.weaken λa ha=>List.mem_cons_of_mem _ ha).trans (BV.weaken λa ha=>List.mem_singleton.mp ha▸List.mem_cons_self)) IK (MX.keeps (hm z List.mem_cons_self) (hm J (List.mem_cons_of_mem _ List.mem_cons_self)) nz nJ nT (CA Cu.1.choose_spec.1) BV)
 stop A q lc σ ρ s Q E' hA R lr hI hm hx k:=by
  refine oB hx λu Rf hx=>oM hx λxs G6 hx=>G7 (D9 R hI.src G6) λa' vs nn e ho hs=>?_
  have Rf:=Rc Rf
  rw[<- Value.ref.inj e] at ho
  have ow:Own s.heap TO:=Gf (R.st g _ _ hI.gh Rf) λa b c uu ho=>(EY a b c ho)
  have lG:=Hh (P:=λK=>∃ o,s.heap.get? K=some o/\(∀ vs n,o.data≠.seq vs n)/\o.cls≠.type "code") (Rg hI.zip) (Df hI.it)
  have YM:vs.toArray[2*q]?=none\/vs.toArray[2*q+1]?=none:=by
   rcases Nat.lt_or_ge (2*q+1) xs.length with DK|kG
   . unfold Rd at hx
     rw[List.getElem?_eq_getElem DK,List.getElem?_eq_getElem (Nat.lt_of_succ_lt DK)] at hx
     exact sN hx
   . exact .inr (by rw[List.getElem?_toArray,List.getElem?_eq_none_iff,hs.length];exact kG)
  refine AX (Rb hA.1 D ⟨hI.zip,hI.ti,ow,hI.it⟩ (IsL.isList ho) YM λAI hU CP sz=>?_)
  exact AS (R.zip (n:=s.toks) lG hm (Hh lz lJ) hI.gh Rf (λb o hb hT e=>CP b o (J0 hb).1 hT (J0 hb).2 e) sz hU) λAz Au=>⟨rfl,k _ Az (Au.weaken λa ha=>List.mem_cons_of_mem _ ha) (lr.iters Au (PE nz nJ) (PD lG))⟩
noncomputable def YO(i j:Nat)(f:EM)(B O:SM):SM:=λlc σ=>(f lc σ).bind λp=>(Bq p.2 p.1).bind λ_=>CM (fk p.2.length p.1) (put2 i j) B O 1000000 0 lc (p.2++[.ghost])
set_option tactic.hygienic false
theorem SQ{a b:Nat}(h:a<b\/b<a):a≠b:=by omega
theorem YP{J l:Nat}(h1:J<N)(h2:l<J):Jj (N+2) N (N+1) J l:=⟨SQ (.inl (by right)),SQ (.inl (by right)),SQ (.inl (by right)),SQ (.inl (by right)),SQ (.inr h1),SQ (.inr (by right)),SQ (.inl (by omega)),SQ (.inl (by omega)),SQ (.inl h2)⟩
theorem Rel.freshGe(R:Rel C ρ σ s)(h:s.heap.objs.size<=a):¬ Ds C ρ a:=by
 rintro(t|⟨p,hp,e⟩)
 . (refine Am (List.mem_map.mp t) λx hx e=>?_)
   (refine Am (R.tab x hx) λm hc ht=>?_)
   have:=hc.lt.2
   rw[e] at this
   exact absurd this (Nat.not_lt.mpr h)
 . have:=R.rhoLt hp
   rcases e with e|e
   . rw[e] at this;exact absurd this.1 (Nat.not_lt.mpr h)
   . rw[e] at this;exact absurd this.2 (Nat.not_lt.mpr h)
theorem KV(R:Rel C ρ σ s){T:Addr}(h:s.heap.objs.size<=a)(hT:a≠T):¬ Ds C (ρ++[(T,T)]) a:=by
 rintro(t|⟨p,hp,e⟩)
 . exact R.freshGe h (.inl t)
 . rcases List.mem_append.mp hp with hp|hp
   . exact R.freshGe h (.inr ⟨p,hp,e⟩)
   . cases List.mem_singleton.mp hp
     rcases e with e|e<;>exact hT e.symm
theorem cS(H:Aq C)(He:Bi env Aa){n:Str}(hi:Aa[i]?=some n)(hj:Aa[j]?=some m)(hz:Ay C "zip" (.type "zip"))(qm:env.kindOf "zip" = some .globalImplicit)(KC:Ay C "iter" (.builtin "iter"))(nZ:env.kindOf "iter" = some .globalImplicit)(ns:∀ rest,starEach (e::rest) env=(false,eval e env)::starEach rest env)(D:AQ C d env Aa e f)(DB:G8 C d env Aa body B)(DO:G8 C d env Aa Co O) :
 E4 C d env Aa (.For (.Tuple [.Name n pa,.Name m pb] k0 pt) (.Call (.Name "zip" p0) [.Starred (.BinOp (.List [.Call (.Name "iter" q0) [e] [] q2] q3) .Mult (.Constant (.int 2) k1 q4) q5) q6] [] p1) body Co p) (YO i j f B O):=by
 intro lc σ fl lc' σ' hf A Q E s ρ hA R lr kk
 refine oB hf λsy e1 hf=>oB hf λxs G6 hf=>?_
 rcases sy with ⟨src,σ₁⟩
 refine wpAny_For ?_
 show wpAny _ _ (do callWith p1 (<- eval (.Name "zip" p0) env) [] [(true,eval (.BinOp (.List [.Call (.Name "iter" q0) [e] [] q2] q3) .Mult (.Constant (.int 2) k1 q4) q5) env >>= λv=>standAt p1 >>= λuu=>pure v)] []) _ _ _
 refine wpAny_bind (CY H He hz qm (by decide) R ?_)
 refine IV (P:=λh=>C.K.In h) FG (OB (.inl rfl) ?_)
 refine wpAny_bind (wpAny_BinOp ?_)
 refine wpAny_List (wpAny_items_cons ?_ rfl)
 show wpAny _ _ (do callWith q2 (<- eval (.Name "iter" q0) env) [] (backTo q2 (starEach [e] env)) (backToKw q2 (keywordEach [] env))) _ _ _
 refine wpAny_bind (CY H He KC nZ (by decide) R ?_)
 have D1:Ej C d env Aa [e] [f]:=.cons D .nil ns
 have qp:Ft [f] lc σ=some ([src],σ₁):=by simp[Ft,e1]
 refine CB H D1 qp Ak hA R lr λvs s₁ Ad An Aj AA=>?_
 refine AA.one_e λvl qs=>?_
 . refine G7 (D9 An qs G6) λl vs nl ev ho hv=>?_
   rw[ev] at qs ⊢
   refine M0 (IsL.isList ho) ?_
   refine wpAny_items_nil ⟨by simp[sizeLine_eq],?_⟩
   have hV:(s₁.heap.push { cls:=.type "list_iterator",data:=.fields #[.ref l,.int 0 0] }).IsListIter s₁.heap.objs.size l 0:=⟨_,Heap.get?_push_size _ rfl,rfl,rfl⟩
   refine wpAny_Constant_int (qh (Heap.get?_push_size _ rfl) ?_)
   refine wpAny_bind (wpAny_standAt (wpAny_pure ?_))
   refine(EY _ _ _ ⟨rfl,Heap.get?_push_size _ rfl,by simp[sizeLine_eq],λh' kp z=>?_⟩)
   have s9:∀ b o,(s₁.heap.push { cls:=.type "list_iterator",data:=.fields #[.ref l,.int 0 0] }).get? b=some o->h'.get? b=some o:=λb o e=>kp _ _ (Heap.get?_push_of_some _ (Heap.get?_push_of_some _ e))
   have tb:∀ b o,s₁.heap.get? b=some o->h'.get? b=some o:=λb o e=>s9 _ _ (Heap.get?_push_of_some _ e)
   have KC:h'.IsListIter s₁.heap.objs.size l 0:=hV.at λo e=>s9 _ _ e
   have hJ:s₁.heap.objs.size<h'.objs.size:=by (refine Am (KC) λo e uu=>?_;clear KC);exact Heap.lt_size e
   clear z
   refine⟨λa o e=>tb _ _ (An.kin H a o e),?_⟩
   show wpAny _ _ (call (.type "zip") [.ref s₁.heap.objs.size,.ref s₁.heap.objs.size]) _ _ _
   refine VW KC λGN Z fq lI=>?_
   replace fq:GN.objs.size=h'.objs.size+3:=fq
   replace Z:OA GN (h'.objs.size+2) h'.objs.size (h'.objs.size+1) s₁.heap.objs.size l 0:=Z
   refine wpAny_pyIter_zip Z.zip ?_
   have up:∀ b o,s₁.heap.get? b=some o->GN.get? b=some o:=λb o e=>lI _ _ (tb _ _ e)
   have Ew:=lr.go Aj
   have hL:@LT.lt Nat _ env.locals s₁.heap.objs.size:=Ew.1.choose_spec.1.lt
   have hl:@LT.lt Nat _ l s₁.heap.objs.size:=Heap.lt_size ho
   have sz:s₁.heap.objs.size<=GN.objs.size:=by omega
   (refine AS (An.alloc (s':={ s₁ with heap:=GN,toks:=s₁.toks+1 }) up sz An.gens rfl rfl (p:=(h'.objs.size+1,h'.objs.size+1)) (o:=.ghost) (by dsimp only;omega) (by dsimp only;omega) (by (refine Qt (Z.own) λx y n e=>?_);exact .ghost e) rfl) λBY BV=>?_)
   have AP:Jj (h'.objs.size+2) h'.objs.size (h'.objs.size+1) s₁.heap.objs.size l:=YP hJ hl
   have hg:(Ad++[(h'.objs.size+1,h'.objs.size+1)])[σ₁.length]?=some (h'.objs.size+1,h'.objs.size+1):=by
    rw[<- An.len,List.getElem?_append_right (Nat.le_refl _),Nat.sub_self];rfl
   have hm:∀ K∈[h'.objs.size+2,s₁.heap.objs.size],¬ Ds C (Ad++[(h'.objs.size+1,h'.objs.size+1)]) K:=Hh (KV An (by omega) (SQ (by omega))) (KV An (by omega) (SQ (by omega)))
   have lo:=An.size
   have hI:VX C σ₁.length src (h'.objs.size+2) h'.objs.size (h'.objs.size+1) s₁.heap.objs.size l 0 (Ad++[(h'.objs.size+1,h'.objs.size+1)]) GN :=
    ⟨Z.zip,Z.ti,KV An (by omega) (SQ (by omega)),Z.it,qs.go BV,hg⟩
   refine MY (lF He hi hj AP (by omega) (by omega) (SQ (by omega)) (SQ (by omega)) (SQ (by omega))) DB DO hA hf BY (Ew.go BV) hI hm λw s' Ar R' S' l' q'=>?_
   refine kk w s' Ar R' (Aj.of_nil.trans ?_) l' q'
   exact(BV.of_nil.trans S').dropI (Hh (by omega) (Nat.le_refl _))
open Builtin.Re in
noncomputable def PG:Nat->Sre.M->Option Sre.M
 | 0,_=>none
 |n+1,m=>let m':=m.runFor 4
  if m'.outcome.isSome then some m' else PG n m'
noncomputable def lK(m:Sre.M):Option (Option Sre.M):=match m.outcome with
 |some .matched=>some (some m)
 |some .failed=>some none
 | _=>none
noncomputable def YQ(m:Sre.M):Option (Option Sre.M):=(PG 100000 m).bind lK
noncomputable def PH(text:Array Nat)(m:Sre.M):Option Str :=
 if ((0:Nat):Int) ≥ m.lastmark then none else
 match m.marks.getD 0 none,m.marks.getD 1 none with
 |some b,some e=>if e<b then none else some ⟨text.extract b e⟩
 | _,_=>none
noncomputable def Hi(code text:Array Nat):Nat->Nat->Bool->Option (List Str)
 | 0,_,_=>none
 |k+1,start,FT=>match YQ (Sre.forSearch code text 1 start text.size FT) with
  |some none=>some [⟨text.extract start text.size⟩]
  |some (some m)=>match PH text m with
   |some g=>(Hi code text k m.handed (m.handed==m.start)).map λr=>⟨text.extract start m.start⟩::g::r
   |none=>none
  |none=>none
noncomputable def FU:Array Nat:=#[14,4,0,1,4294967295,17,0,24,11,1,4294967295,13,6,16,32,16,9,0,1,17,1,1]
noncomputable def J2(x:Str):Option (List Str):=Hi FU x.cps (2*x.cps.size+3) 0 false
set_option tactic.hygienic true
theorem VY:∀ {m m':Sre.M} {Q:Sre.M->Shared->Prop},PG n m=some m'->∀ {N:Nat},n<=N->Q m' s->wpAny (model C.prog C.w) A (Builtin.Re.reDrive N m) Q E s:=by
 induction n with
 |zero=>intro m m' Q h;cases h
 |succ n ih =>
  intro m m' Q h N hN q
  obtain⟨N',rfl⟩:∃ N',N=N'+1:=⟨N-1,by omega⟩
  unfold PG at h
  unfold Builtin.Re.reDrive
  dsimp -iota only at h ⊢
  show wpAny _ _ (if (Sre.M.runFor 4 m).outcome.isSome=true then _ else _) _ _ _
  split at h
  . rename_i ho
    (refine c1 h λG9=>?_;clear h;subst G9)
    rw[if_pos ho]
    exact wpAny_pure q
  . rename_i ho
    rw[if_neg ho]
    exact wpAny_bind (wpAny_rule (ih h (by omega) q))
set_option tactic.hygienic false
theorem VZ{m':Sre.M}{g:PUnit->Sem β}{Q:β->Shared->Prop}(q:wpAny (model C.prog C.w) A (g ⟨⟩) Q E s):wpAny (model C.prog C.w) A (forIn (List.range Sre.names.size) PUnit.unit (λi uu =>
 if m'.seen.has i=true then do
  rule (Sre.names.getD i "")
  pure (ForInStep.yield PUnit.unit)
 else pure (ForInStep.yield PUnit.unit)) >>= g) Q E s:=by
 refine wpAny_bind ?_
 generalize List.range Sre.names.size=l
 induction l with
 |nil=>rw[List.forIn_nil];exact wpAny_pure q
 |cons a l ih =>
  rw[List.forIn_cons]
  refine wpAny_bind ?_
  split
  . exact wpAny_bind (wpAny_rule (wpAny_pure ih))
  . exact wpAny_pure ih
set_option tactic.hygienic true
theorem cT{m:Sre.M}{r:Option Sre.M}{Q:Option Sre.M->Shared->Prop}(h:YQ m=some r)(q:Q r s):wpAny (model C.prog C.w) A (Builtin.Re.reRunToEnd m) Q E s:=by
 refine oB h λm' e h=>?_
 unfold Builtin.Re.reRunToEnd
 refine wpAny_bind (VY e (by decide) (VZ ?_))
 unfold lK at h
 split at h
 . rename_i e2
   rw[e2]
   exact wpAny_pure (Option.some.inj h▸q)
 . rename_i e2
   rw[e2]
   exact wpAny_pure (Option.some.inj h▸q)
 . exact ns h
set_option tactic.hygienic false
theorem LC{f:Nat->β->Sem (ForInStep β)}{J:Nat->β->Shared->Prop}(step:∀ k a b s,J (k+1) b s->wpAny (model C.prog C.w) A (f a b) (λr s'=>∃ b',r=.yield b'/\J k b' s') E s) :
 ∀ (l:List Nat) (b:β) (s:Shared) (Q:β->Shared->Prop),J l.length b s->(∀ b s,J 0 b s->Q b s)->wpAny (model C.prog C.w) A (forIn l b f) Q E s
 | [],b,s,Q,h,k=>by rw[List.forIn_nil];exact wpAny_pure (k b s h)
 |a::l,b,s,Q,h,k=>by
  rw[List.forIn_cons]
  refine wpAny_bind (wpAny_mono (step _ a b s h) (λr s' hr=>?_) λuu uu z=>z)
  (refine Am (hr) λb' IF h'=>?_;clear hr;subst IF)
  exact LC step l b' s' Q h' k
theorem Ik{b e:Nat}(h:PyData.strOk x=true):PyData.strOk ⟨x.cps.extract b e⟩=true:=by
 rw[GH] at *
 intro c hc
 apply h
 rw[Array.toList_extract] at hc
 exact List.mem_of_mem_drop (List.mem_of_mem_take hc)
structure YR (C:Cfg) (r rc:Addr):Prop where
 pat:∃ dd sl f0 f1 f3 f4,C.K.lookup r=some ⟨.type "re.Pattern",dd,.fields #[f0,f1,.int 1 0,f3,f4,.ref rc,.int 0 0],sl⟩
 code:∃ dd sl items n,C.K.lookup rc=some ⟨.type "tuple",dd,.seq items n,sl⟩/\(items.map Builtin.Re.reRawOf).map (·.toNat)=FU
noncomputable def hY(T:Builtin.Re.ReTarget)(x:Str):Prop:=T.text=x.cps/\T.kind=0/\T.groups=1/\T.lim=x.cps.size/\T.code=FU
theorem V0{Q:Builtin.Re.ReTarget->Shared->Prop}(X:C.K.In s.heap)(O:YR C r rc)(k:∀ T,hY T x->Q T s):wpAny (model C.prog C.w) A (Builtin.Re.reWholeTarget (.ref r) (.str x t)) Q E s:=by
 (refine bw (O.pat) λdd sl f0 f1 f3 f4 hp=>?_)
 (refine oX (O.code) λnO td items nn hc Ey=>?_)
 unfold Builtin.Re.reWholeTarget
 refine wpAny_bind (wpAny_fieldsOf (X _ _ hp) rfl ?_)
 refine wpAny_bind (m:=Builtin.Re.reTextOf _) (wpAny_of_eq (a:=(x.cps,0)) rfl ?_)
 show wpAny _ _ (do
  let __do_lift <- Builtin.Re.reRawItems (.ref rc)
  pure _) _ _ _
 refine wpAny_bind ?_
 unfold Builtin.Re.reRawItems
 exact wpAny_bind (wpAny_seqItems (X _ _ hc) rfl (wpAny_pure (wpAny_pure (k _ ⟨rfl,rfl,rfl,rfl,Ey⟩))))
theorem Rh{b:Bool}{r:Option Sre.M}{Q:Option Sre.M->Shared->Prop}(h:hY T x)(e:YQ (Sre.forSearch FU x.cps 1 i x.cps.size b)=some r)(q:Q r s):wpAny (model C.prog C.w) A (Builtin.Re.reNextFound T i b) Q E s:=by
 unfold Builtin.Re.reNextFound
 rw[h.1,h.2.2.1,h.2.2.2.1,h.2.2.2.2]
 exact cT e q
theorem KW{b e:Nat}(h:hY T x)(hl:x.length<=1000000)(q:Q (.str ⟨x.cps.extract b e⟩ s.toks) { s with toks:=s.toks+1 }):wpAny (model C.prog C.w) A (Builtin.Re.reSlice T.text T.kind b e) Q E s:=by
 rw[h.1,h.2.1]
 refine wpAny_mkStr q ?_
 show(x.cps.extract b e).size<=_
 have:x.cps.size<=1000000:=hl
 rw[Array.size_extract,sizeLine_eq];omega
theorem V1{f:Nat->β->Sem (ForInStep β)}{l:List Nat}{b:β}{Q:β->Shared->Prop}(hl:l=[0])(h:wpAny (model C.prog C.w) A (f 0 b) (λr s'=>∃ b',r=.yield b'/\Q b' s') E s):wpAny (model C.prog C.w) A (forIn l b f) Q E s:=by
 rw[hl,List.forIn_cons]
 refine wpAny_bind (wpAny_mono h (λr s' hr=>?_) λuu uu z=>z)
 refine Am hr λb' e q=>?_
 rw[e]
 show wpAny _ _ (forIn [] b' f) _ _ _
 rw[List.forIn_nil]
 exact wpAny_pure q
set_option tactic.hygienic true
theorem YS{text:Array Nat}{m:Sre.M}{g:Str}(h:PH text m=some g):∃ b e,g=⟨text.extract b e⟩/\Builtin.Re.reMachineGroup T m (0+1) (pure .none)=Builtin.Re.reSlice T.text T.kind b e:=by
 unfold PH at h
 split at h
 . cases h
 . rename_i hm
   split at h
   . rename_i b e hb he
     split at h
     . cases h
     . rename_i u1
       refine(B6 b e ⟨(Option.some.inj h).symm,?_⟩)
       unfold Builtin.Re.reMachineGroup
       rw[if_neg hm]
       show(match m.marks.getD 0 none,m.marks.getD 1 none with
        |some b,some e=>if e<b then Builtin.Re.reWrongSpan else Builtin.Re.reSlice T.text T.kind b e
        | _,_=>pure Value.none)=_
       rw[hb,he]
       exact if_neg u1
   . cases h
theorem Ri{b:Bool}{rest:List Str}{P:Prop}(e:Hi FU x.cps (k+1) i b=some rest)(h0:YQ (Sre.forSearch FU x.cps 1 i x.cps.size b)=some none->rest=[⟨x.cps.extract i x.cps.size⟩]->P)(h1:∀ m g r,YQ (Sre.forSearch FU x.cps 1 i x.cps.size b)=some (some m)->PH x.cps m=some g->Hi FU x.cps k m.handed (m.handed==m.start)=some r->rest=⟨x.cps.extract i m.start⟩::g::r->P):P:=by
 unfold Hi at e
 split at e
 . rename_i e1
   exact h0 e1 (Option.some.inj e).symm
 . rename_i m e1
   split at e
   . rename_i g e2
     (refine Am (Option.map_eq_some_iff.mp e) λlL e3 e4=>?_)
     exact h1 m g lL e1 e2 e3 e4.symm
   . cases e
 . cases e
noncomputable abbrev qt:=Array Value×Nat×Nat×Bool×Int×Bool
noncomputable def n6(C:Cfg)(ρ:D7)(x:Str)(ys:List Str)(s:Shared)(k:Nat)(b:qt)(u:Shared):Prop:=∃ out i FT n tk pre,(u={ s with toks:=tk }/\Bx C ρ s.heap (pre.map AV.str) out.toList) /\
 ((b=(out,i,i,FT,n,true)/\pre++[⟨x.cps.extract i x.cps.size⟩]=ys)\/∃ rest,b=(out,i,i,FT,n,false)/\Hi FU x.cps k i FT=some rest/\pre++rest=ys)
set_option tactic.hygienic false
theorem Rj{out:Array Value}{n:Int}(hv:Bx C ρ s.heap (pre.map AV.str) out.toList)(e:pre++[⟨x.cps.extract i x.cps.size⟩]=ys):n6 C ρ x ys s k (out,i,i,FT,n,true) { s with toks:=tk }:=(jM out i FT n tk pre ⟨⟨rfl,hv⟩,.inl ⟨rfl,e⟩⟩)
theorem YT{rest:List Str}{out:Array Value}{n:Int}(hv:Bx C ρ s.heap (pre.map AV.str) out.toList)(h:Hi FU x.cps k i FT=some rest)(e:pre++rest=ys):n6 C ρ x ys s k (out,i,i,FT,n,false) { s with toks:=tk }:=(jM out i FT n tk pre ⟨⟨rfl,hv⟩,.inr ⟨rest,rfl,h,e⟩⟩)
@[elab_as_elim] theorem Rk{P:qt->Shared->Prop}{b:qt}{u:Shared}(h:n6 C ρ x ys s k b u)(h0:∀ out i FT n tk pre,Bx C ρ s.heap (pre.map AV.str) out.toList->pre++[⟨x.cps.extract i x.cps.size⟩]=ys->P (out,i,i,FT,n,true) { s with toks:=tk })(h1:∀ out i FT n tk pre rest,Bx C ρ s.heap (pre.map AV.str) out.toList->Hi FU x.cps k i FT=some rest->pre++rest=ys->P (out,i,i,FT,n,false) { s with toks:=tk }):P b u:=by
 obtain⟨out,i,FT,n,tk,pre,⟨e,hv⟩,⟨eb,h⟩|⟨rest,eb,h,h'⟩⟩:=h
 . rw[e,eb];exact h0 out i FT n tk pre hv h
 . rw[e,eb];exact h1 out i FT n tk pre rest hv h h'
theorem SR(X:C.K.In s.heap)(O:YR C r rc)(hx:J2 x=some ys)(ok:PyData.strOk x=true)(hl:x.length<=1000000)(hy:ys.length<=1000000)(k:∀ vs tk,Bx C ρ s.heap (ys.map AV.str) vs->Q (.ref s.heap.objs.size) { s with heap:=s.heap.push (Ck vs 0),toks:=tk }) :
 wpAny (model C.prog C.w) A (Builtin.«re.Pattern.split» ⟨[.ref r,.str x t],[]⟩) (λfin s'=>∃ v,fin=.done (.ret v)/\Q v s') E s:=by
 unfold Builtin.«re.Pattern.split»
 refine wpAny_bind (m:=Builtin.Re.reNamed _ _ _ _ _ _) (wpAny_of_eq (a:=[some (Value.str x t),none]) (by first|rfl|kernel_rfl!) ?_)
 refine wpAny_bind (wpAny_pure ?_)
 refine wpAny_bind (V0 X O λT hT=>?_)
 refine wpAny_bind (LC (J:=n6 C ρ x ys s) ?_ _ _ _ _ ?_ ?_)
 . intro k a b u h
   refine Rk h (λout i FT n tk pre hv e=>?_) (λout i FT n tk pre rest hv e e'=>?_)
   . exact wpAny_pure ⟨_,rfl,Rj hv e⟩
   . show wpAny _ _ (Builtin.Re.reNextFound _ _ _ >>= _) _ _ _
     refine Ri e (λe1 e2=>?_) (λm g r e1 e2 e3 e4=>?_)
     . exact wpAny_bind (Rh hT e1 (wpAny_pure ⟨_,rfl,Rj hv (e2▸e')⟩))
     . refine Es (YS (T:=T) e2) λb ee hg he=>?_
       refine wpAny_bind (Rh hT e1 ?_)
       show wpAny _ _ (Builtin.Re.reSlice _ _ _ _ >>= _) _ _ _
       refine wpAny_bind (KW hT hl ?_)
       refine wpAny_bind (V1 (by rw[hT.2.2.1];rfl) (wpAny_bind ?_))
       rw[he]
       refine KW hT hl (wpAny_pure ⟨_,rfl,wpAny_pure ⟨_,rfl,YT (pre:=pre++[⟨x.cps.extract i m.start⟩,g]) ?_ e3 ?_⟩⟩)
       . rw[hg,List.map_append,Array.toList_push,Array.toList_push,List.append_assoc]
         exact hv.append (.cons (.str _ _ (Ik ok)) (.cons (.str _ _ (Ik ok)) .nil))
       . rw[<- e',e4,List.append_assoc];rfl
 . refine YT (tk:=s.toks) (out:=#[]) (pre:=[]) .nil ?_ rfl
   rw[List.length_range,Builtin.Re.reMostMatches,hT.1]
   exact hx
 . intro b u h
   refine Rk h (λout i FT n tk pre hv e=>?_) (λout i FT n tk pre rest hv e e'=>?_)
   . show wpAny _ _ (Builtin.Re.reSlice _ _ _ _ >>= _) _ _ _
     refine wpAny_bind (hT.2.2.2.1▸KW hT hl ?_)
     have UC:Bx C ρ s.heap (ys.map AV.str) (out.push (.str ⟨x.cps.extract i x.cps.size⟩ tk)).toList:=by
      rw[<- e,Array.toList_push,List.map_append]
      exact hv.append (.cons (.str _ _ (Ik ok)) .nil)
     refine wpAny_bind (wpAny_newList ?_ (by rw[UC.length,List.length_map,sizeLine_eq];omega))
     exact wpAny_pure ⟨_,rfl,k _ _ UC⟩
   . unfold Hi at e;cases e
noncomputable def strsOf(xs:List AV):Option (List Str):=Cb AV.str? xs
noncomputable def J3:List AV->St->Option (AV×St):=λxs σ=>(JG xs).bind λp=>p.1.str?.bind λsep=>(Bq σ p.2).bind λys=>(strsOf ys).bind λzs=>gd (decide ((zs.map (·.length)).sum+zs.length*sep.length<=16777216)) (.str (Txt.join sep zs),σ)
noncomputable def GQ:List AV->St->Option (AV×St):=λxs σ=>(I5 xs).bind λx=>x.str?.map λy=>(.bool (Txt.isspace y),σ)
noncomputable def KY:List AV->St->Option (AV×St):=λxs σ=>(JG xs).bind λp=>p.1.loc?.bind λl=>p.2.int?.bind λi=>(CT σ l).bind λys =>
 if (smallInt i&&decide (ys.length<=sizeLine))=true then (seqIndex? i ys.length).bind λk=>ys[k]?.map λy=>(y,σ.set l (.list (ys.eraseIdx k))) else none
theorem SS{xs:List AV}(q:Bx C ρ h xs vs)(e:strsOf xs=some ys):StrsAre vs ys/\∀ y∈ys,PyData.strOk y=true :=
 q.ind (P:=λxs vs=>∀ ys,strsOf xs=some ys->StrsAre vs ys/\∀ y∈ys,PyData.strOk y=true) (λys e=>Option.some.inj e▸⟨.nil,λuu h=>nm h⟩)
  (λa uu ih ys e=>oB e λy ey e=>oM e λzs e1 e2=>e2▸a.str_of ey λt ok=>⟨.cons _ _ (ih zs e1).1,λy hy=>(List.mem_cons.mp hy).elim (λe=>e▸ok) ((ih zs e1).2 y)⟩) _ e
theorem YU:Bp C d (.builtin "str.join") J3:=by
 intro xs σ x σ' hf A Q E s ρ vs hA R q k
 refine oB hf λp e0 hf=>oB hf λsep es hf=>oB hf λys cU hf=>oB hf λzs qu hf=>oG hf λhz e=>?_
 have k:=Hz k e
 revert k
 refine q.arg2_e e0 λv w q1 q2 k=>q1.str_of es λt ok=>R.asList_e q2 cU λa ws n ho hs=>AS (SS hs qu) λi1 i2=>?_
 exact join_list (IsL.isList ho) (by simpa using i1) (of_decide_eq_true hz) λt' tk=>k _ _ ρ R.toks .refl (.str _ _ (MS ok i2))
theorem Rl:Bp C d (.builtin "str.isspace") GQ:=by
 intro xs σ x σ' hf A Q E s ρ vs hA R q k
 refine oB hf λp e0 hf=>oM hf λy ey e=>?_
 have k:=Hz k e
 revert k
 exact q.arg1_e e0 λv q1 k=>q1.str_of ey λt ok=>SC.isspace (k _ _ ρ R .refl (.bool _))
theorem V2:Bp C d (.builtin "list.pop") KY:=by
 intro xs σ x σ' hf A Q E s ρ vs hA R q k
 refine oB hf λp e0 hf=>oB hf λl el hf=>oB hf λi ei hf=>oB hf λys e hf=>sf hf λhz hf=>oB hf λkx hk hf=>oM hf λy hy e9=>?_
 rw[Bool.and_eq_true,decide_eq_true_eq,JZ] at hz
 have k:=Hz k e9
 revert k
 refine q.arg2_e e0 λv w q1 q2 k=>q2.int_of ei λt=>?_
 have q1:=AV.loc_inv el▸q1
 refine R.list_e (Ei e) q1 λa vs n e0 ho hs=>Am (hs.get hy) λv hv qv=>?_
 have Et:=hs.length
 have hZ:kx<vs.length:=(List.getElem?_eq_some_iff.mp hv).1
 refine call_meets PySem.F.slot_list_pop ⟨_,ho,rfl⟩ PySem.F.entry_list_pop (PySem.F.args_list_pop_2 _ _) (PySem.MeetsSeq.list_pop_at a vs.toArray n i t kx v (by simp[Builtin.List.listFitsIndex];omega) (by rw[List.size_toArray,Et];exact hk) (by rw[List.getElem?_toArray];exact hv) (by rw[List.size_toArray,Et];exact hz.2)) ⟨ho,?_⟩
 have DW:=Heap.SameBut.update s.heap a (Obj.mapSeq λxs=>xs.eraseIdxIfInBounds kx)
 have S:Step C [] ρ ρ s.heap (s.heap.update a (Obj.mapSeq λxs=>xs.eraseIdxIfInBounds kx)):=Dk (.inr ⟨_,List.mem_of_getElem? e0,.inl rfl⟩) DW
 have gt:=Ek ho (λxs=>xs.eraseIdxIfInBounds kx)
 have er:vs.toArray.eraseIdxIfInBounds kx=(vs.eraseIdx kx).toArray:=by
  unfold Array.eraseIdxIfInBounds
  rw[dif_pos (by rw[List.size_toArray];exact hZ),List.eraseIdx_toArray]
 rw[er] at gt
 have Ln:Bx C ρ s.heap (ys.eraseIdx kx) (vs.eraseIdx kx):=by
  rw[List.eraseIdx_eq_take_drop_succ,List.eraseIdx_eq_take_drop_succ]
  exact(hs.take kx).append (hs.drop (kx+1))
 exact AS (R.upd (n:=s.toks) e0 (.inl rfl) DW (.list gt (Ln.go S)) rfl) λR' S'=>k _ _ _ R' S' (qv.go S)
theorem SU{o:AO}(h:EN o=2):∃ xs,o=.list xs:=by
 cases o with
 |list xs=>exact⟨xs,rfl⟩
 | _=>exact absurd h (by dsimp only[EN];decide)
theorem OC{id:String}(QG:Slot "list" name id)(Yh:typeOf (.builtin id)=pure (.type "method_descriptor")):Vr C 2 name (.builtin id):=by
 intro A Q E s ρ σ x v pl R q hk kk
 have:∃ xs,Bq σ x=some xs:=by
  cases x with
  |lst xs=>exact⟨xs,rfl⟩
  |loc l =>
   have hk:(σ[l]?.map EN).getD 0=2:=hk
   cases e:σ[l]? with
   |none=>rw[e] at hk;exact absurd hk (by decide)
   |some o =>
    rw[e] at hk
    exact CJ (SU hk) λxs eo=>⟨xs,AY (eo▸e)⟩
  | _=>exact absurd hk (by dsimp only[kind,XR];decide)
 revert kk
 exact CJ this λxs G6=>R.asList_e q G6 λa vs n ho hs kk=>getMethod_builtin ⟨_,ho,rfl⟩ PySem.F.plainAttrs_list QG Yh (λb e=>⟨_,Value.ref.inj e▸ho,rfl⟩) kk
theorem M1{id:String}(QG:Slot "str" name id)(Yh:typeOf (.builtin id)=pure (.type "method_descriptor")):Vr C 1 name (.builtin id):=by
 intro A Q E s ρ σ x v pl R q hk kk
 cases q with
 |str y t ok=>exact getMethod_builtin (typeIs_str _ _ _) PySem.F.plainAttrs_str QG Yh (λb e=>nomatch e) kk
 | @loc l p e =>
  have hk:(σ[l]?.map EN).getD 0=1:=hk
  cases e:σ[l]? with
  |none=>rw[e] at hk;exact absurd hk (by decide)
  |some o =>
   rw[e] at hk
   cases o<;>exact absurd (show _=1 from hk) (by dsimp only[EN,Option.map,Option.getD];decide)
 | _=>exact absurd hk (by dsimp only[kind,XR];decide)
theorem N1:PlainAttrs "re.Pattern" :=
 ⟨⟨"object.__getattribute__",by rw[typeLookup_type,builtinLookup_eq_fast];left,by decide +kernel⟩,by rw[typeLookup_type,builtinLookup_eq_fast];left⟩
theorem IW:Slot "re.Pattern" "split" "re.Pattern.split" :=
 .of (owner := "re.Pattern") (n := "split") (by rw[typeLookup_type,builtinLookup_eq_fast];left) (by decide +kernel) (by decide +kernel) (by decide +kernel)
  (by first|exact .inl (by decide +kernel)|exact .inr (by decide +kernel)) (by rw[isSubtype_type];left)
theorem N2:typeOf (.builtin "re.Pattern.split")=pure (.type "method_descriptor"):=by show builtinType _=_;rw[builtinType_eq_fast];left
theorem M3:entryFor table "re.Pattern.split" = some Builtin.«re.Pattern.split»:=entryFor_of_tree (by left)
theorem N3(a b:Value):argsOk "re.Pattern.split" ⟨[a,b],[]⟩:=by unfold argsOk;left
noncomputable def J4(f:EM):EM:=λlc σ=>(f lc σ).bind λp=>p.1.str?.bind λx=>if x.length<=1000000 then (J2 x).bind λys=>gd (decide (ys.length<=1000000)) (.loc p.2.length,p.2++[.list (ys.map AV.str)]) else none
theorem Rm(H:Aq C)(He:Bi env Aa){n:Str}(O:YR C r rc)(hd:∀ o,C.K.lookup r=some o->o.dict=none)(hv:Ay C n (.ref r))(hk:env.kindOf n=some .globalImplicit)(ns:∀ rest,starEach (e::rest) env=(false,eval e env)::starEach rest env)(D:AQ C d env Aa e f)(ic:(n==("__debug__" : Str))=false)(hp:(ap.endLine==p.line)=true):AQ C d env Aa (.Call (.Attribute (.Name n p0) "split" ap) [e] [] p) (J4 f):=by
 intro lc σ y σ' hf A Q E s ρ hA R lr kk
 refine oB hf λxp e1 hf=>oB hf λx ex hf=>sf hf λhl hf=>oB hf λys cU hf=>oG hf λXh e9=>?_
 have kk:=Hz kk e9
 have D1:Ej C d env Aa [e] [f]:=.cons D .nil ns
 refine Jb D1 (λuu uu=>rfl) (by show 1<30;decide) hp (CY H He hv hk ic R ?_)
 (refine bw (id O.pat) λdd sl f0 f1 f3 f4 ie=>?_)
 have bU:=R.kin H _ _ ie
 refine getMethod_builtin (T := "re.Pattern") ⟨_,bU,rfl⟩ N1 IW N2 (λb e=>by cases e;exact⟨_,bU,hd _ ie⟩) ?_
 dsimp only
 have qp:Ft [f] lc σ=some ([xp.1],xp.2):=by unfold Ft;rw[e1];rfl
 refine CB H D1 qp Ak hA R lr λvs s₁ Ad An Aj AA=>?_
 refine AA.one_e λvx qs=>?_
 . refine qs.str_of ex λt ok=>?_
   ·
    refine wpAny_call_entry IW ⟨_,An.kin H _ _ ie,rfl⟩ M3 (SR (ρ:=Ad) (An.kin H) O cU ok hl (of_decide_eq_true Xh) λvs tk UC=>?_) (N3 _ _)
    have k:∀ b o,s₁.heap.get? b=some o->(s₁.heap.push (Ck vs 0)).get? b=some o:=λuu uu e=>Heap.get?_push_of_some _ e
    have z:s₁.heap.objs.size<=(s₁.heap.push (Ck vs 0)).objs.size:=by rw[Heap.size_push];exact Nat.le_add_right _ _
    have Au:Step C [] Ad (Ad++[(s₁.heap.objs.size,s₁.heap.objs.size)]) s₁.heap (s₁.heap.push (Ck vs 0)):=⟨z,λb o e uu uu=>k b o e,_,rfl,λq hq=>by cases List.mem_singleton.mp hq;exact⟨Nat.le_refl _,Nat.le_refl _⟩⟩
    (refine AS (An.alloc (s':={ s₁ with heap:=s₁.heap.push (Ck vs 0),toks:=tk }) k z An.gens rfl rfl (p:=(s₁.heap.objs.size,s₁.heap.objs.size)) (o:=.list (ys.map AV.str)) (Nat.le_refl _) (Nat.le_refl _) (.list (Heap.get?_push_size _ rfl) (UC.go Au)) rfl) λAz Au=>?_)
    refine kk _ _ _ Az (Aj.trans Au) (.loc (p:=(s₁.heap.objs.size,s₁.heap.objs.size)) ?_)
    rw[<- An.len,List.getElem?_append_right (Nat.le_refl _),Nat.sub_self]
    rfl
noncomputable def CE(f:EM):EM:=λlc σ=>(f lc σ).bind λp=>p.1.int?.map λx=>(.int (-x),p.2)
section
variable{fl fs:Addr}
theorem cV(D:AQ C d env Aa e f):AQ C d env Aa (.UnaryOp .USub e p) (CE f):=by
 intro lc σ x σ' hf A Q E s ρ hA R lr kk
 refine oB hf λy e1 hf=>oM hf λi ei e=>?_
 refine wpAny_UnaryOp (D _ _ _ _ e1 A _ E s ρ hA R lr λva s₁ Ad An Aj AA=>?_)
 exact AA.int_of ei λt=>neg_int (Hz kk e _ _ Ad An.toks Aj (.int _ _))
theorem YV(H:Aq C)(HS:Hd C fl fs ff)(DL:Bp C d (.ref fl) LF)(D:AQ C (d+1) env Aa e f):AQ C (d+1) env Aa (.UnaryOp .Not e p) (tE (QD (nR LF f))):=by
 intro lc σ x σ' hf A Q E s ρ hA R lr kk
 refine oM hf λy hy e=>oM hy λz hz e'=>oB hz λo e1 hz=>oB hz λl el hz=>oB hz λac hl hz=>oM hz λt e2 e3=>?_
 have kk:=Hz kk (((congrArg (λp:Bool×St=>(AV.bool (!p.1),p.2)) e3).trans (congrArg (λp:Bool×St=>(AV.bool p.1,p.2)) e')).trans e)
 exact wpAny_UnaryOp (D _ _ _ _ e1 A _ E s ρ hA R lr λva s₁ Ad An Aj AA=>not_of (cy H HS DL hA An (AV.loc_inv el▸AA) (B8 hl) e2 λAi AF Az Au=>kk _ Ai AF Az (Aj.trans Au) (.bool _)))
end
noncomputable def Bw(K:Frag)(a:Addr):FuncData:=match K.lookup a with
 |some ⟨_,_,.func fd,_⟩=>fd
 | _=>default
noncomputable def Cf(K:Frag)(a:Addr):List Stmt:=match (Bw K a).body with
 | .stmts b=>b
 | _=>[]
noncomputable def KZ(K:Frag)(a:Addr):Bool:=match K.lookup a with
 |some ⟨_,_,.func fd,_⟩=>match fd.body with
  | .stmts _=>true
  | _=>false
 | _=>false
set_option tactic.hygienic true
theorem GS(h:KZ K a=true):∃ o,K.lookup a=some o/\o.data=.func (Bw K a)/\(Bw K a).body=.stmts (Cf K a):=by
 unfold KZ at h
 split at h
 . rename_i c d fd sl e
   split at h
   . rename_i b hb
     have e1:Bw K a=fd:=by unfold Bw;rw[e]
     refine⟨_,e,by rw[e1],?_⟩
     unfold Cf
     rw[e1,hb]
   . cases h
 . cases h
noncomputable def codeIn(K:Frag)(code:Value)(q:Str):Bool:=match code with
 | .ref c=>match K.lookup c with
  |some ⟨_,_,.fields vs,_⟩=>match (vs[1]?:Option Value) with
   |some (.str x _)=>x==q
   | _=>false
  | _=>false
 | _=>false
theorem Il{code:Value}{q:Str}(X:K.In h)(e:codeIn K code q=true):h.CodeRec code q/\∃ c o,code=.ref c/\K.lookup c=some o:=by
 unfold codeIn at e
 split at e
 . rename_i c
   split at e
   . rename_i vs sl hl
     split at e
     . rename_i x t hx
       cases eq_of_beq e
       exact⟨(Lm c _ vs t ⟨rfl,X _ _ hl,rfl,hx⟩),B6 c _ ⟨rfl,hl⟩⟩
     . cases e
   . cases e
 . cases e
noncomputable def PI(scope:Scope)(Aa:List Str)(n:Nat):Bool :=
 !scope.isCoroutine&&!scope.isGenerator&&(scope.kind==.function)&&scope.names.all (λx=>!(x.2==.cell))&&Aa.all (λx=>scope.names.lookup x==some .local)&&decide Aa.Nodup&&decide (n<=Aa.length)
structure cW (scope:Scope) (Aa:List Str) (n:Nat):Prop where
 coro:scope.isCoroutine=false
 gen:scope.isGenerator=false
 kind:scope.kind=.function
 cells:∀ x∈scope.names,x.2≠.cell
 loc:∀ x∈Aa,scope.names.lookup x=some .local
 nodup:Aa.Nodup
 n_le:n<=Aa.length
set_option tactic.hygienic false
theorem Jl(h:PI scope Aa n=true):cW scope Aa n:=by
 unfold PI at h
 simp only[Bool.and_eq_true,Bool.not_eq_true',decide_eq_true_eq,List.all_eq_true,beq_iff_eq] at h
 obtain⟨⟨⟨⟨⟨⟨h1,h2⟩,h3⟩,h4⟩,h5⟩,h6⟩,h7⟩:=h
 exact⟨h1,h2,h3,λx hx e=>by have:=h4 x hx;rw[e] at this;simp at this,h5,h6,h7⟩
structure C7 (C:Cfg) (f:Addr) (Aa:List Str) (n:Nat):Prop where
 fn:KZ C.K f=true
 glob:(Bw C.K f).globals=mainGlobals
 blt:(Bw C.K f).builtins=builtinsNs
 code:codeIn C.K (Bw C.K f).code (Bw C.K f).qualname=true
 scope:PI (Bw C.K f).scope Aa n=true
noncomputable abbrev Ba(C:Cfg)(f L:Addr):Env:=Hx (Bw C.K f) f L
section
variable{f:Addr}
theorem C7.envk(H:C7 C f Aa n)(L:Addr):Bi (Ba C f L) Aa:=by
 have S:=Jl H.scope
 exact⟨S.kind,λx hx=>S.loc x hx,S.nodup,rfl,rfl⟩
theorem C7.okD(H:Aq C){m:Nat}(F:C7 C f Aa (m+dxs.length))(dq:∀ ρ h,Bx C ρ h dxs dv)(hb:∀ s:Shared,C.K.In s.heap->∀ vs:List Value,vs.length=m->BindsTo s (Bw C.K f) ⟨vs,[]⟩ ((Aa.take (m+dxs.length)).zip (vs++dv))):eU C f Aa m dxs dv (Cf C.K f) (Bw C.K f):=by
 refine Ci (GS F.fn) λo e hd ig=>AS (Il H.kin F.code) λcr z=>Es z λc oc ec hc=>?_
 have S:=Jl F.scope
 exact⟨⟨o,H.kin _ _ e,hd⟩,ig,F.glob,F.blt,λs k vs hv=>hb s (λa o e=>k a o (H.kin a o e) (H.knt a o e)) vs hv,dq,H.knt _ _ e,cr,λc' g9=>Value.ref.inj (ec.symm.trans g9)▸H.knt _ _ hc,S.coro,S.gen,S.kind,S.cells,S.loc,S.nodup,S.n_le⟩
theorem EA(X:C.K.In C.s₁.heap)(G:C.s₁.heap.Ns mainGlobals mg)(e:nsIn C.K mainGlobals x=some (some v)):Ay C x v:=⟨mg,G,.inl (mg_of X G e)⟩
set_option tactic.hygienic true
theorem fw{m:Str->Option Value}{r:Option Value}(X:K.In h)(G:h.Ns a m)(e:nsIn K a x=some r):m x=r:=by
 (refine Sj (G) λo es ep ho hd uu hf=>?_;clear G)
 unfold nsIn at e
 split at e
 . rename_i c d nS n' sl q
   have:=X _ _ q
   rw[ho] at this
   (refine c1 this λG9=>?_;clear this;subst G9)
   cases hd
   rw[<- hf]
   unfold nsFind findBy
   rw[<- Array.find?_toList]
   split at e
   . rename_i en h1
     (refine c1 e λG9=>?_;clear e;subst G9)
     rw[h1];rfl
   . rename_i h1
     split at e
     . exact ns e
     . (refine c1 e λG9=>?_;clear e;subst G9)
       rw[h1];rfl
 . exact ns e
set_option tactic.hygienic false
theorem EB(X:C.K.In C.s₁.heap)(G:C.s₁.heap.Ns mainGlobals mg)(B:C.s₁.heap.Ns builtinsNs mb)(e1:nsIn C.K mainGlobals x=some none)(e2:nsIn C.K builtinsNs x=some (some v)):Ay C x v :=
 ⟨mg,G,.inr ⟨fw X G e1,mb,B,fw X B e2⟩⟩
end
noncomputable def lM:Value->Bool
 | .str ..=>true
 | _=>false
noncomputable def ij:Value->Bool
 | .int ..=>true
 | _=>false
noncomputable def fx:Value->Bool
 | .bool _=>true
 | _=>false
noncomputable def PJ:Data->Option (Array Value)
 | .fields vs=>some vs
 | _=>none
theorem M4{d:Data}{vs:Array Value}(h:PJ d=some vs):d=.fields vs:=by cases d<;>cases h;rfl
theorem cX(h:lM v=true):∃ x t,v=.str x t:=by cases v<;>first|exact(B6 _ _ rfl)|cases h
theorem UH(h:ij v=true):∃ x t,v=.int x t:=by cases v<;>first|exact(B6 _ _ rfl)|cases h
theorem YW(h:fx v=true):∃ x,v=.bool x:=by cases v<;>first|exact⟨_,rfl⟩|cases h
noncomputable def Dg(K:Frag)(c P:Addr):Bool:=match K.lookup c,K.lookup P with
 |some o,some o'=>(match PJ o.data with
  |some vs=>(o.cls==.type "code")&&(o'.cls==.none)&&o'.dict.isNone&&o'.slots.isEmpty&&((PJ o'.data).map (·.size)==some 0)&&(vs[11]?==some (.ref P))&&(vs.getD 11 .none==.ref P)&&(c != P)&&lM (vs.getD 18 .none)&&ij (vs.getD 7 .none)&&fx (vs.getD 9 .none)&&ij (vs.getD 10 .none)
  |none=>false)
 | _,_=>false
variable{F:FM}{P:List Value->Prop}{ds:List PyData}{es:List Expr}{g:EM}{hi lo:Option Expr}{l o r:Expr}{n:Str}{prog:Program}{ps:Pos}{st:Stmt}{s₁:Shared}{t:Addr×Addr×Array Value}{w:World}
set_option tactic.hygienic true
theorem Fw{P:Addr}(X:K.In h)(e:Dg K c P=true):h.IsCode c P #[]/\h.TableAt c P #[]:=by
 unfold Dg at e
 split at e
 . rename_i o o' e1 e2
   split at e
   . rename_i vs hv
     simp -iota only[Bool.and_eq_true,beq_iff_eq,bne_iff_ne] at e
     obtain⟨⟨⟨⟨⟨⟨⟨⟨⟨⟨⟨h1,h2⟩,h3⟩,h4⟩,h5⟩,h6⟩,h7⟩,h8⟩,h9⟩,u5⟩,u6⟩,u7⟩:=e
     (refine Am (Option.map_eq_some_iff.mp h5) λps n8 hz=>?_)
     have hp:ps=#[]:=Array.eq_empty_of_size_eq_zero hz
     subst hp
     obtain⟨oc,od,dt,uN⟩:=o
     obtain⟨oc',u9,dt',qB⟩:=o'
     have hd:=M4 hv
     have QZ:=M4 n8
     dsimp -iota only at h1 h2 h3 h4 hd QZ
     subst h1 h2 hd QZ
     have vd:u9=none:=by simpa using h3
     have ve:qB=#[]:=by simpa using h4
     subst vd ve
     (refine ID (cX h9) λuu uu a1=>?_)
     (refine ID (UH u5) λuu uu a2=>?_)
     (refine CJ (YW u6) λuu a3=>?_)
     (refine ID (UH u7) λuu uu a4=>?_)
     exact⟨(o5 _ vs _ _ _ _ _ _ _ _ ⟨X _ _ e1,rfl,h7,a1,a2,a3,a4,X _ _ e2,rfl,trivial,h8⟩),(B6 _ vs ⟨X _ _ e1,rfl,rfl,h6⟩),X _ _ e2⟩
   . cases e
 . cases e
set_option tactic.hygienic false
theorem IX(q:Addr->Bool):∀ (l:Frag) (a:Addr),(l.filter λp=>q p.1).lookup a=if q a then l.lookup a else none
 | [],a=>by simp
 |(b,o)::l,a=>by
  have ih:=IX q l a
  rw[List.filter_cons]
  by_cases hb:q b=true
  . simp -iota only[hb,if_true]
    rw[List.lookup_cons,List.lookup_cons,ih]
    by_cases NR:a=b
    . subst NR;simp -iota [hb]
    . rw[beq_false_of_ne NR]
  . simp -iota only[hb]
    rw[List.lookup_cons]
    simp -iota only[Bool.false_eq_true,if_false]
    rw[ih]
    by_cases NR:a=b
    . subst NR;simp -iota [hb]
    . rw[beq_false_of_ne NR]
structure Start (K:Frag) (s₁:Shared) (mg mb:Str->Option Value):Prop where
 kx:K.In s₁.heap
 g:s₁.heap.Ns mainGlobals mg
 b:s₁.heap.Ns builtinsNs mb
 lim:s₁.heap.NoLimit
 bm:∃ bm ob,BMod s₁.heap mainGlobals mg bm ob
 gens:s₁.gens=#[]
noncomputable def noTabs(K:Frag)(ts:List Addr):Frag:=K.filter λp=>!ts.contains p.1
noncomputable def EO(prog:Program)(w:World)(K:Frag)(s₁:Shared)(VF ACC:Addr)(ts:List (Addr×Addr))(G:Addr->Nat->GenState->Prop)(X:Nat->Addr×Addr->List Value->Obj->Obj->Prop):Cfg :=
 { prog:=prog,w:=w,K:=noTabs K (ts.map (·.2)),s₁:=s₁,VF:=VF,ACC:=ACC,tabs:=ts.map (λt=>(t.1,t.2,#[])),G:=G,X:=X }
section
variable{VF ACC:Addr}{ts:List (Addr×Addr)}{G:Addr->Nat->GenState->Prop}{X:Nat->Addr×Addr->List Value->Obj->Obj->Prop}
theorem IY{ts:List Addr}{o:Obj}(h:(noTabs K ts).lookup a=some o):a∉ts/\K.lookup a=some o:=by
 unfold noTabs at h
 rw[IX (λa=>!ts.contains a)] at h
 (refine sf h ?_;clear h;intro q h)
 simp at q
 exact⟨q,h⟩
theorem Em:(EO prog w K s₁ VF ACC ts G X).isTab a↔a∈ts.map (·.2):=by
 unfold Cfg.isTab EO
 simp
theorem V3(S:Start K s₁ mg mb)(h1:cStatics∉ts.map (·.2))(h2:mainGlobals∉ts.map (·.2))(h3:builtinsNs∉ts.map (·.2)):Aq (EO prog w K s₁ VF ACC ts G X) where
 kin a o e:=S.kx a o (IY e).2
 knt a o e:=λh=>(IY e).1 (Em.mp h)
 lim:=S.lim
 stat h:=h1 (Em.mp h)
 glob h:=h2 (Em.mp h)
 blt h:=h3 (Em.mp h)
theorem V4(S:Start K s₁ mg mb)(ht:∀ t∈ts,Dg K t.1 t.2=true)(nd:∀ t∈ts,∀ t'∈ts,t.2=t'.2->t=t'):HJ (EO prog w K s₁ VF ACC ts G X) where
 bm:=by
  (refine ID (S.bm) λbm ob B=>?_)
  refine(EY mg bm ob ⟨B,λh=>?_⟩)
  (refine Am (List.mem_map.mp (Em.mp h)) λt hm e=>?_)
  have:=(Fw S.kx (ht t hm)).2.2
  rw[e,B.obj] at this
  have hc:=B.cls
  (refine c1 this λG9=>?_;clear this;subst G9)
  cases hc
 one:=by
  intro t h t' h' e
  unfold EO at h h'
  (refine Am (List.mem_map.mp h) λu hu FP=>?_;subst FP)
  (refine Am (List.mem_map.mp h') λu' pg FP=>?_;subst FP)
  have:=nd u hu u' pg e
  rw[this]
theorem V5(S:Start K s₁ mg mb)(ht:∀ t∈ts,Dg K t.1 t.2=true):Rel (EO prog w K s₁ VF ACC ts G X) [] [] s₁ where
 old b o e _:=e
 tab t h:=by
  unfold EO at h
  (refine Am (List.mem_map.mp h) λu hu FP=>?_;subst FP)
  (refine AS (Fw S.kx (ht u hu)) λa b=>?_)
  exact⟨#[],by simpa using a,⟨by simpa using b,λpos cv e=>by simp -iota [codeAmong] at e⟩⟩
 lo _ h:=nm h
 dis:=.nil
 len:=rfl
 st l p o e:=by simp at e
 gens:=⟨.of_eq S.gens,λl p m k e=>(by simp at e),λl p n e=>(by simp at e),λl l' p p' o o' n a b c d e=>(by simp at e)⟩
 drawn:=rfl
 os:=rfl
 size:=Nat.le_refl _
theorem V6(S:Start K s₁ mg mb)(ht:∀ t∈ts,Dg K t.1 t.2=true){o:Obj}(ho:s₁.heap.get? a=some o)(hc:o.cls≠.none):¬ (EO prog w K s₁ VF ACC ts G X).isTab a:=λh=>by
 (refine Am (List.mem_map.mp (Em.mp h)) λt hm e=>?_)
 have:=(Fw S.kx (ht t hm)).2.2
 rw[e,ho] at this
 (refine c1 this λG9=>?_;clear this;subst G9)
 exact hc rfl
theorem cY(S:Start K s₁ mg mb)(ht:∀ t∈ts,Dg K t.1 t.2=true)(R:Rel (EO prog w K s₁ VF ACC ts G X) ρ σ s'):OldK s₁.heap s'.heap:=by
 refine⟨λb o e=>?_,λb o e=>?_⟩
 . by_cases hb:(EO prog w K s₁ VF ACC ts G X).isTab b
   . (refine Am (List.mem_map.mp (Em.mp hb)) λt hm e'=>?_)
     (refine AS (Fw S.kx (ht t hm)) λuu q=>?_)
     subst e'
     (refine Am (R.tab (t.1,t.2,#[]) (by unfold EO;exact List.mem_map.mpr ⟨t,hm,rfl⟩)) λmore uu q'=>?_)
     rw[q.2] at e
     (refine c1 e λG9=>?_;clear e;subst G9)
     refine .inr (.inl ⟨q.isCodeTable,rfl,B6 (#[]) more ⟨rfl,?_⟩⟩)
     exact q'.at_.2
   . exact .inl (R.old b o e hb)
 . by_cases hb:(EO prog w K s₁ VF ACC ts G X).isTab b
   . (refine Am (List.mem_map.mp (Em.mp hb)) λt hm e'=>?_)
     subst e'
     (refine Am (R.tab (t.1,t.2,#[]) (by unfold EO;exact List.mem_map.mpr ⟨t,hm,rfl⟩)) λmore uu q'=>?_)
     exact⟨_,q'.at_.2⟩
   . exact⟨o,R.old b o e hb⟩
end
noncomputable def j0:FM:=λ_ _=>none
theorem cZ:Bp C d fv j0:=by intro xs σ x σ' h;cases h
noncomputable def Gm:FM:=E5 ["self", "fws", "string"] 3 (Ah [Bj (mE 4 Bv (nE 0) [IG [nE 1,nE 2]])])
noncomputable def fz:FM:=E5 ["self"] 1 (Ah [Jf])
noncomputable def K0:FM:=E5 ["self"] 1 (Ah [Ff (AL .Eq (mE 4 fz (nE 0) []) (cE (.int 0))) (Ah [retS (IG [cE (.str ""),cE (.str "")])]) (Ah []),gM])
noncomputable def J5:FM:=ML ["self", "i", "popped"] 2 [] (Ah [BZ 2 (Cc (nE 0) (some (nE 1)) none),Hg (nE 0) (some (nE 1)) none (Br []),retS (nE 2)])
noncomputable def AD:FM:=E5 ["self"] 1 (Ah [Pu])
noncomputable def Hj:FM:=E5 ["self"] 1 (Ah [Pw])
noncomputable def M5:SM:=Ah [Ff (AL .Is (nE 1) (cE .none)) (Ah [BZ 1 (Br [])]) (Ah []),Hg (nE 0) none none (nE 1),Yl (nE 0) (cE (.int 0))]
noncomputable def HU:FM:=nP (ML ["self", "startval"] 1 [.none] M5) (ML ["self", "startval"] 2 [] M5)
noncomputable def Im:FM:=E5 ["self"] 1 (Ah [retS (XC (tE (AL .Eq (Bk 6 (nE 0)) (cE (.int 0)))) (km (tE (QD (nR AD (nE 0)))) (mE 1 GQ (Av (NW Hj j0) [nE 0]) [])))])
noncomputable def Bn:EM:=Bk 5 (nE 0)
noncomputable def EC:EM:=Bk 4 (nE 0)
noncomputable def Hk:EM:=Av (NW Hj j0) [Bn]
noncomputable def YX:SM:=Ah [
 BZ 1 (mE 4 K0 Bn []),
 Ff (AL .NotEq (nE 1) (IG [cE (.str " "),cE (.str "")])) (Ah [Bj (KU Gm Bn (nE 1))]) (Ah []),
 Ff (AL .Gt (Av (BW AD) [Bn]) (cE (.int 0)))
  (Ah [Ff (Hw [Mf (mE 4 Im Bn []),Mf EC])
   (Ah [Ez EC (CE (cE (.int 1))) .Add Hk])
   (Ah [Bj (mE 2 Bv EC [Hk])])]) (Ah []),
 Bj (mE 4 HU Bn [])]
noncomputable def ED:FM:=E5 ["self", "end_of_line"] 1 YX
noncomputable def Rn:FM:=E5 ["self", "linesep"] 2 (Ah [Bj (mE 3 ED (nE 0) []),retS (mE 1 J3 (nE 1) [EC])])
noncomputable def OD:SM:=Ah [
 Ff (Mf (mE 1 GQ (nE 3) [])) (Ah [
  BZ 1 (A0 (A0 Bn (nE 4)) (cE (.int 0))),
  Ff (Hw [Mf (nE 1),AL .Eq (A0 (nE 1) (cE (.int 0))) (nE 3)]) (Ah [NU]) (Ah [])]) (Ah []),
 BZ 5 (A0 (A0 Bn (AN .Sub (nE 4) (cE (.int 1)))) (cE (.int 1))),
 Ff (Hw [Mf (nE 5),AL .Eq (A0 (nE 5) (CE (cE (.int 1)))) (nE 3)]) (Ah [NU]) (Ah [])]
noncomputable def lN:SM:=L7 3 (Bk 3 (nE 0))
 (Ah [GP 4 [AN .Sub (mE 4 fz Bn []) (cE (.int 1)),cE (.int 0),CE (cE (.int 1))] OD (Ah [Of]),NU])
 (Ah [SJ 1 6 (mE 4 K0 Bn []),
  Ff (AL .Gt (Bk 6 Bn) (cE (.int 0))) (Ah [Bj (mE 3 ED (nE 0) []),Ff (QD (Mf (nE 1))) (Ah [BZ 1 (cE (.str " "))]) (Ah [])]) (Ah []),
  Bj (mE 4 Gm Bn [nE 1,nE 6]),
  IQ])
noncomputable def ik:SM:=Ah [
 Bj (mE 4 Gm Bn [nE 1,nE 2]),
 Ff (AL .Gt (Av (BW AD) [Bn]) (Bk 0 (nE 0))) (Ah [
  lN,
  BZ 7 (mE 4 J5 Bn [nE 4]),
  Bj (mE 2 Bv EC [Hk]),
  Bj (mE 4 HU Bn [nE 7])]) (Ah [])]
noncomputable def Jm:FM:=E5 ["self", "fws", "string", "ch", "i", "prevpart", "part", "remainder"] 3 ik
noncomputable def ip:SM:=Ah [
 BZ 4 (J4 (AN .Add (nE 1) (nE 2))),
 Ff (Mf (A0 (nE 4) (cE (.int 0)))) (Ah [Hg (nE 4) none (some (cE (.int 0))) (Br [cE (.str "")])]) (Ah [Bj (mE 2 KY (nE 4) [cE (.int 0)])]),
 YO 1 5 (nE 4) (Ah [Bj (mE 3 Jm (nE 0) [nE 1,nE 5])]) (Ah [])]
noncomputable def Jn:FM:=E5 ["self", "fws", "string", "splitchars", "parts", "part"] 4 ip
structure BE (C:Cfg) (d:Nat) (env:Env) (Aa:List Str) (e:Expr) (f:EM):Prop where
 run:AQ C d env Aa e f
structure BT (C:Cfg) (d:Nat) (env:Env) (Aa:List Str) (e:Expr) (f:TM):Prop where
 run:KD C d env Aa e f
structure BS (C:Cfg) (d:Nat) (env:Env) (Aa:List Str) (e:Stmt) (f:SM):Prop where
 run:E4 C d env Aa e f
structure BB (C:Cfg) (d:Nat) (env:Env) (Aa:List Str) (e:List Stmt) (f:SM):Prop where
 run:G8 C d env Aa e f
structure Ro (C:Cfg) (d:Nat) (env:Env) (Aa:List Str) (e:List Expr) (f:List EM):Prop where
 run:Ej C d env Aa e f
structure lO (C:Cfg) (d:Nat) (env:Env) (Aa:List Str) (e:List Expr) (f:List TM):Prop where
 run:Od C d env Aa e f
structure BO (C:Cfg) (d:Nat) (env:Env) (Aa:List Str) (e:Option Expr) (f:Option EM):Prop where
 run:NZ C d env Aa e f
structure BC (C:Cfg) (d:Nat) (fv:Value) (F:FM):Prop where
 run:Bp C d fv F
structure BF (C:Cfg) (d:Nat) (f:Addr) (F:FM):Prop where
 run:JK C d f F
structure og (C:Cfg) (d:Nat) (env:Env) (Aa:List Str) (body:List Stmt) (e:Stmt) (f:SM):Prop where
 run:KO C d env Aa body e f
structure oh (C:Cfg) (d:Nat) (env:Env) (Aa:List Str) (body:List Stmt) (e:List Stmt) (f:SM):Prop where
 run:MK C d env Aa body e f
structure BM (C:Cfg) (k:Nat) (name:Str) (fv:Value):Prop where
 run:Vr C k name fv
structure Cd (env:Env) (Aa:List Str):Prop where
 ok:Bi env Aa
 nd:∀ x∈Aa,(x==("__debug__" : Str))=false
 int:interactive env=false
noncomputable def GU:Expr->Bool
 | .ListComp .. | .SetComp .. | .DictComp ..=>false
 | _=>true
theorem E7(h:GU e=true)(t:Option Expr)(l:Nat)(env:Env):swapsWith e t l env=pure false:=by
 cases e<;>first|rfl|cases h
noncomputable def Mh:Expr->Bool
 | .Starred ..=>false
 | _=>true
theorem Jo(h:Mh e=true)(env:Env)(r:List Expr):starEach (e::r) env=(false,eval e env)::starEach r env:=by
 cases e<;>first|rfl|cases h
section
variable{fl fs:Addr}
theorem BC.up(D:BC C d' fv F)(h:d'<=d):BC C d fv F:=⟨D.run.mono h⟩
theorem BF.call{f:Addr}(D:BF C d' f F)(h:d'<=d):BC C d (.ref f) F:=⟨D.run.call.mono h⟩
theorem AB{i:Int}:BE C d env Aa (.Constant (.int i) k p) (cE (.int i)):=⟨bA⟩
theorem Bf(ok:PyData.strOk x=true):BE C d env Aa (.Constant (.str x) k p) (cE (.str x)):=⟨bB ok⟩
theorem SW{b:Bool}:BE C d env Aa (.Constant (.bool b) k p) (cE (.bool b)):=⟨Xu⟩
theorem Jp:BE C d env Aa (.Constant .none k p) (cE .none):=⟨Xv⟩
theorem Ab(He:Cd env Aa)(hi:Aa[i]?=some n):BE C d env Aa (.Name n p) (nE i):=⟨MA He.ok hi (He.nd _ (List.mem_of_getElem? hi))⟩
theorem BN(D1:BE C d env Aa l f)(D2:BE C d env Aa r g):BE C d env Aa (.BinOp l op r p) (AN op f g):=⟨bF D1.run D2.run⟩
theorem YY{op:CmpOp}(D1:BE C (d+1) env Aa l f)(D2:BE C (d+1) env Aa r g)(hb:behindInMarks op r=false):BE C (d+1) env Aa (.Compare l [op] [r] p) (tE (AL op f g)):=⟨bG D1.run D2.run hb⟩
theorem Bs{op:CmpOp}(D1:BE C (d+1) env Aa l f)(D2:BE C (d+1) env Aa r g)(hb:behindInMarks op r=false):BT C (d+1) env Aa (.Compare l [op] [r] p) (AL op f g):=⟨Xy D1.run D2.run hb⟩
theorem SY(D:BE C d env Aa e f)(hp:∀ AR,isTrue e env AR=(do let v <- AR;standAt e.pos;holding [v] (truthy v))):BT C d env Aa e (Mf f):=⟨Vn D.run hp⟩
theorem ir{f:TM}(D:BT C d env Aa e f):BT C d env Aa (.UnaryOp .Not e p) (QD f):=⟨Xz D.run⟩
theorem K2:lO C d env Aa [] []:=⟨.nil⟩
theorem DN{f:TM}{fs:List TM}(a:BT C d env Aa e f)(b:lO C d env Aa es fs):lO C d env Aa (e::es) (f::fs):=⟨.cons a.run b.run⟩
theorem PK{fs:List TM}(D:lO C d env Aa es fs):BT C d env Aa (.BoolOp .And es p) (Hw fs):=⟨XA D.run⟩
theorem fA{fs:List TM}(D:lO C d env Aa es fs):BT C d env Aa (.BoolOp .Or es p) (Vo fs):=⟨bH D.run⟩
theorem YZ(D1:BE C d env Aa l f)(D2:BE C d env Aa r g):BE C d env Aa (.BoolOp .And [l,r] p) (XC f g):=⟨XD D1.run D2.run⟩
theorem fB(D1:BE C d env Aa l f)(D2:BE C d env Aa r g):BE C d env Aa (.BoolOp .Or [l,r] p) (km f g):=⟨bI D1.run D2.run⟩
theorem lP{c:Expr}{t:TM}(D0:BT C d env Aa c t)(D1:BE C d env Aa l f)(D2:BE C d env Aa r g):BE C d env Aa (.IfExp c l r p) (Vp t f g):=⟨bJ D0.run D1.run D2.run⟩
theorem Gn(D:BE C d env Aa e f):BE C d env Aa (.UnaryOp .USub e p) (CE f):=⟨cV D.run⟩
theorem iu(H:Aq C)(HS:Hd C fl fs ff)(DL:BC C d (.ref fl) LF)(D:BE C (d+1) env Aa e f):BE C (d+1) env Aa (.UnaryOp .Not e p) (tE (QD (nR LF f))):=⟨YV H HS DL.run D.run⟩
theorem Aw:BB C d env Aa [] (Ah []):=⟨Pl⟩
theorem Ae{r:List Stmt}{f:SM}{fs:List SM}(D1:BS C d env Aa st f)(D2:BB C d env Aa r (Ah fs)):BB C d env Aa (st::r) (Ah (f::fs)):=⟨XI D1.run D2.run⟩
theorem B0(H:Cd env Aa)(hi:Aa[i]?=some n)(D:BE C d env Aa e f)(hs:GU e=true):BS C d env Aa (.Assign [.Name n p'] e p) (BZ i f):=⟨bK H.ok hi D.run (E7 hs _ _ _)⟩
theorem DX{c:Expr}{t:TM}{f g:SM}(D0:BT C d env Aa c t)(D1:BB C d env Aa b1 f)(D2:BB C d env Aa b2 g):BS C d env Aa (.If c b1 b2 p) (Ff t f g):=⟨gE D0.run D1.run D2.run⟩
theorem EP(D:BE C d env Aa e f):BS C d env Aa (.Return (some e) p) (retS f):=⟨bM D.run⟩
theorem S0:BS C d env Aa (.Return none p) IQ:=⟨XJ⟩
theorem Y0:BS C d env Aa (.Break p) NU:=⟨bN⟩
theorem iw:BS C d env Aa (.Continue p) Of:=⟨XK⟩
theorem B4(H:Cd env Aa)(D:BE C d env Aa e f)(hs:GU e=true):BS C d env Aa (.Expr e p) (Bj f):=⟨XM D.run H.int (E7 hs _ _ _)⟩
theorem Af:Ro C d env Aa [] []:=⟨.nil⟩
theorem Ac{fs:List EM}(a:BE C d env Aa e f)(b:Ro C d env Aa es fs)(ns:Mh e=true):Ro C d env Aa (e::es) (f::fs):=⟨.cons a.run b.run λr=>Jo ns env r⟩
theorem OE{fs:List EM}(D:Ro C d env Aa es fs):BE C d env Aa (.Tuple es k p) (IG fs):=⟨bO D.run⟩
theorem B5{fs:List EM}(D:Ro C d env Aa es fs):BE C d env Aa (.List es p) (Br fs):=⟨bP D.run⟩
theorem K3{fs:List EM}(D:Ro C d env Aa es fs):BE C d env Aa (.List es p) (FN fs):=⟨XO D.run⟩
theorem AU(H:Aq C)(He:Cd env Aa){fs:List EM}(hv:Ay C x fv)(hx:env.kindOf x=some .globalImplicit)(hk:BJ C fv)(DF:BC C d fv F)(D:Ro C d env Aa es fs)(hd:(x==("__debug__" : Str))=false):BE C d env Aa (.Call (.Name x p0) es [] p) (Av F fs):=⟨XQ H He.ok hv hx hk DF.run D.run hd⟩
theorem Bb(H:Aq C){fs:List EM}(hg:BM C k name fv)(hk:BJ C fv)(DF:BC C d fv F)(D0:BE C d env Aa o f)(D:Ro C d env Aa es fs)(hb:∀ nm AR,attributeBase o nm env AR=AR)(hl:es.length<30)(hp:(B1.endLine==p.line)=true):BE C d env Aa (.Call (.Attribute o name B1) es [] p) (mE k F f fs):=⟨XU H hg.run hk DF.run D0.run D.run hb hl hp⟩
theorem Bc(H:Aq C)(HC:Bg C)(hn:attrName k=n)(D:BE C d env Aa o f)(hb:∀ nm AR,attributeBase o nm env AR=AR):BE C d env Aa (.Attribute o n p) (Bk k f):=⟨XZ H HC hn D.run hb⟩
theorem S9(H:Aq C)(HC:Bg C){f:Addr}(B:SN C name f)(DF:BF C d' f F)(h:d'<=d)(D0:BE C d env Aa o fo)(D:BE C d env Aa e g)(hb:∀ nm AR,attributeBase o nm env AR=AR):BE C d env Aa (.Call (.Attribute o name B1) [.Starred e ps] [] p) (KU F fo g):=⟨PC H HC B (DF.run.mono h) D0.run D.run hb⟩
theorem lQ(He:Cd env Aa)(hi:Aa[i]?=some n)(hj:Aa[j]?=some m)(D:BE C d env Aa e f)(hs:swapsWithSole [.Tuple [.Name n pa,.Name m pb] k0 pt] e p.line env=pure false)(hw:swappedStores [.Tuple [.Name n pa,.Name m pb] k0 pt] e env=pure none):BS C d env Aa (.Assign [.Tuple [.Name n pa,.Name m pb] k0 pt] e p) (SJ i j f):=⟨cQ He.ok hi hj D.run hs hw⟩
theorem UI(He:Cd env Aa){iter:Expr}(hj:Aa[j]?=some n)(D:BE C d env Aa iter f)(DB:BB C d env Aa body B)(DO:BB C d env Aa Co O)(hs:∀ x,foldedSetIterable iter env x=pure x):BS C d env Aa (.For (.Name n pn) iter body Co p) (L7 j f B O):=⟨cP He.ok hj D.run DB.run DO.run hs⟩
theorem PL(H:Aq C)(He:Cd env Aa){fs:List EM}(hj:Aa[j]?=some n)(hv:Ay C "range" (.type "range"))(hk:env.kindOf "range" = some .globalImplicit)(D:Ro C d env Aa es fs)(DB:BB C d env Aa body B)(DO:BB C d env Aa Co O) :
 BS C d env Aa (.For (.Name n pn) (.Call (.Name "range" p0) es [] p1) body Co p) (GP j fs B O):=⟨YD H He.ok hj hv hk D.run DB.run DO.run⟩
theorem lR(H:Aq C)(He:Cd env Aa)(hi:Aa[i]?=some n)(hj:Aa[j]?=some m)(hz:Ay C "zip" (.type "zip"))(qm:env.kindOf "zip" = some .globalImplicit)(KC:Ay C "iter" (.builtin "iter"))(nZ:env.kindOf "iter" = some .globalImplicit)(D:BE C d env Aa e f)(DB:BB C d env Aa body B)(DO:BB C d env Aa Co O)(ns:Mh e=true) :
 BS C d env Aa (.For (.Tuple [.Name n pa,.Name m pb] k0 pt) (.Call (.Name "zip" p0) [.Starred (.BinOp (.List [.Call (.Name "iter" q0) [e] [] q2] q3) .Mult (.Constant (.int 2) k1 q4) q5) q6] [] p1) body Co p) (YO i j f B O):=⟨cS H He.ok hi hj hz qm KC nZ (λr=>Jo ns env r) D.run DB.run DO.run⟩
theorem V7(H:Aq C)(He:Cd env Aa){r:Addr}(O:YR C r rc)(hd:∀ o,C.K.lookup r=some o->o.dict=none)(hv:Ay C n (.ref r))(hk:env.kindOf n=some .globalImplicit)(D:BE C d env Aa e f)(ic:(n==("__debug__" : Str))=false)(hp:(ap.endLine==p.line)=true)(ns:Mh e=true):BE C d env Aa (.Call (.Attribute (.Name n p0) "split" ap) [e] [] p) (J4 f):=⟨Rm H He.ok O hd hv hk (λr=>Jo ns env r) D.run ic hp⟩
theorem Cp(H:Aq C)(HC:Bg C)(HA:DV C)(HI:Eb C)(D1:BE C d env Aa CU f)(D2:BE C d env Aa slice g):BE C d env Aa (.Subscript CU slice p) (A0 f g):=⟨cJ H HC HA HI D1.run D2.run⟩
theorem IL:BO C d env Aa none none:=⟨.none⟩
theorem IM(D:BE C d env Aa e f):BO C d env Aa (some e) (some f):=⟨.some D.run⟩
theorem Fx(H:Aq C)(HC:Bg C)(HA:DV C)(HI:Eb C){fl:Option EM}(D1:BE C d env Aa CU f)(D2:BO C d env Aa lo fl)(D3:BO C d env Aa hi fh) :
 BE C d env Aa (.Subscript CU (.Slice lo hi none ps) p) (Cc f fl fh):=⟨VK H HC HA HI D1.run D2.run D3.run⟩
theorem PM(H:Aq C)(HC:Bg C)(HA:DV C)(HI:Eb C){fl:Option EM}(D0:BE C d env Aa CU f)(D1:BE C d env Aa o g)(D2:BO C d env Aa lo fl)(D3:BO C d env Aa hi fh)(hs:GU CU=true):BS C d env Aa (.Assign [.Subscript o (.Slice lo hi none CI) p'] CU p) (Hg g fl fh f):=⟨VP H HC HA HI D0.run D1.run D2.run D3.run (E7 hs _ _ _)⟩
set_option tactic.hygienic true
theorem J6(H:Aq C)(HC:Bg C)(HA:DV C)(HI:Eb C){i:Expr}(D1:BE C d env Aa o g)(D2:BE C d env Aa i ix)(D3:BE C d env Aa CU f)(hst:∀ ov iv new,augStore i ov iv new=(do holding [new,ov,iv] (setItem ov iv new);release [new,ov,iv] [];pure .next)) :
 BS C d env Aa (.AugAssign (.Subscript o i p') op CU p) (Ez g ix op f):=⟨SH H HC HA HI D1.run D2.run D3.run hst⟩
set_option tactic.hygienic false
theorem lS(H:Aq C)(HS:CZ C C.ACC)(ht:takerIn C.K C.ACC "_initial_size" = some none)(D0:BE C d env Aa o g)(D:BE C d env Aa e f)(hs:GU e=true) :
 BS C d env Aa (.Assign [.Attribute o "_initial_size" p'] e p) (Yl g f):=⟨cB H HS ht D0.run D.run (E7 hs _ _ _)⟩
theorem C7.envB{f:Addr}{n:Nat}(F:C7 C f Aa n)(nd:Aa.all (λx=>!(x==("__debug__" : Str)))=true)(L:Addr):Cd (Ba C f L) Aa:=by
 refine⟨F.envk L,λx hx=>?_,?_⟩
 . have:=List.all_eq_true.mp nd x hx
   simpa using this
 . have S:=Jl F.scope
   show((Bw C.K f).scope.kind==.module&&_)=false
   rw[S.kind];rfl
theorem C7.ok0{f:Addr}{n:Nat}(H:Aq C)(F:C7 C f Aa n)(hb:∀ vs:List Value,vs.length=n->bindArgs (Bw C.K f) ⟨vs,[]⟩=pure ((Aa.take n).zip vs)):eU C f Aa n [] [] (Cf C.K f) (Bw C.K f) :=
 F.okD (m:=n) (dxs:=[]) (dv:=[]) H (λuu uu=>.nil) λs X vs h=>.of_eq (by rw[hb vs h,List.append_nil];rfl)
theorem J8{f:Addr}{n:Nat}(H:Aq C)(F:C7 C f Aa n)(nd:Aa.all (λx=>!(x==("__debug__" : Str)))=true)(hb:∀ vs:List Value,vs.length=n->bindArgs (Bw C.K f) ⟨vs,[]⟩=pure ((Aa.take n).zip vs))(D:∀ L,Cd (Ba C f L) Aa->BB C d (Ba C f L) Aa (Cf C.K f) B):BF C (d+1) f (E5 Aa n B):=by
 exact⟨Ol▸MM (F.ok0 H hb) H.lim H.stat λL=>(D L (F.envB nd L)).run.at⟩
theorem Y1{f:Addr}{m:Nat}(H:Aq C)(F:C7 C f Aa (m+dxs.length))(nd:Aa.all (λx=>!(x==("__debug__" : Str)))=true)(dq:∀ ρ h,Bx C ρ h dxs dv)(hb:∀ s:Shared,C.K.In s.heap->∀ vs:List Value,vs.length=m->BindsTo s (Bw C.K f) ⟨vs,[]⟩ ((Aa.take (m+dxs.length)).zip (vs++dv)))(D:∀ L,Cd (Ba C f L) Aa->BB C d (Ba C f L) Aa (Cf C.K f) B):BF C (d+1) f (ML Aa m dxs B) :=
 ⟨MM (F.okD H dq hb) H.lim H.stat λL=>(D L (F.envB nd L)).run.at⟩
theorem fC{f:Addr}{n:Nat}(H:Aq C)(F:C7 C f Aa n)(nd:Aa.all (λx=>!(x==("__debug__" : Str)))=true)(hb:∀ vs:List Value,vs.length=n->bindArgs (Bw C.K f) ⟨vs,[]⟩=pure ((Aa.take n).zip vs))(D:∀ L,Cd (Ba C f L) Aa->oh C d (Ba C f L) Aa (Cf C.K f) (Cf C.K f) B):BF C (d+1) f (E5 Aa n B) :=
 ⟨Ol▸MM (F.ok0 H hb) H.lim H.stat λL=>(D L (F.envB nd L)).run⟩
theorem Y2:oh C d env Aa body [] (Ah []):=⟨Pl.at⟩
theorem qC{f:SM}(D:BS C d env Aa st f):og C d env Aa body st f:=⟨D.run.at⟩
theorem PN{r:List Stmt}{f:SM}{fs:List SM}(D1:og C d env Aa body st f)(D2:oh C d env Aa body r (Ah fs)):oh C d env Aa body (st::r) (Ah (f::fs)):=⟨Sp D1.run D2.run⟩
theorem Rp(H:Aq C)(HC:Bg C)(He:Cd env Aa)(HS:Gw C)(SO:JN C env Aa)(hf:alongIn C.K "__len__" [.type "list",.type "object"]=some (some (.builtin "list.__len__")))(hp:(B1.endLine==p.line)=true) :
 og C d env Aa body (.Return (some (.Call (.Attribute (.Call (.Name "super" p0) [] [] p1) "__len__" B1) [] [] p)) pr) Jf:=⟨NV H HC He.ok HS SO hf hp⟩
theorem lU(H:Aq C)(HC:Bg C)(He:Cd env Aa)(HS:Gw C)(SO:JN C env Aa)(hf:alongIn C.K "pop" [.type "list",.type "object"]=some (some (.builtin "list.pop")))(hp:(B1.endLine==p.line)=true) :
 og C d env Aa body (.Return (some (.Call (.Attribute (.Call (.Name "super" p0) [] [] p1) "pop" B1) [] [] p)) pr) gM:=⟨b9 H HC He.ok HS SO hf hp⟩
theorem Y3(H:Aq C)(HC:Bg C)(HA:DV C)(HG:HJ C)(He:Cd env Aa)(GE:JS C env Aa t scope)(LS:MQ scope)(hl:Ay C "len" (.builtin "len"))(gV:Ay C "sum" (.builtin "sum"))(hk:env.kindOf "sum" = some .globalImplicit) :
 BS C (d+1) env Aa (.Return (some (.Call (.Name "sum" p0) [.GeneratorExp (.BinOp (.Call (.Name "len" r0) [.Name "fws" r1] [] r2) .Add (.Call (.Name "len" r3) [.Name "part" r4] [] r5) r6) [⟨.Tuple [.Name "fws" pa,.Name "part" pb] kt pt,.Name "self" ps,[],0⟩] scope pos,.Attribute (.Name "self" q0) "_initial_size" q1] [] p)) pr) Pu:=⟨Sw H HC HA HG He.ok GE LS hl gV hk⟩
theorem Y4(H:Aq C)(HC:Bg C)(HA:DV C)(HG:HJ C)(He:Cd env Aa)(GE:JS C env Aa t scope)(LS:MT scope)(hE:Ay C "EMPTYSTRING" (.str "" te))(hk:env.kindOf "EMPTYSTRING" = some .globalImplicit)(pP:(B1.endLine==r4.line)=true)(pQ:(q0.endLine==p.line)=true) :
 BS C (d+1) env Aa (.Return (some (.Call (.Attribute (.Name "EMPTYSTRING" p0) "join" q0) [.GeneratorExp (.Call (.Attribute (.Name "EMPTYSTRING" r0) "join" B1) [.Tuple [.Name "fws" r1,.Name "part" r2] sS r3] [] r4) [⟨.Tuple [.Name "fws" pa,.Name "part" pb] kt pt,.Name "self" ps,[],0⟩] scope pos] [] p)) pr) Pw:=⟨Sx H HC HA HG He.ok GE LS hE hk pP pQ⟩
theorem lV(H:Aq C)(HS:Hd C fl fs ff)(DL:BF C d' fl LF)(h:d'+1<=d):BC C d (.builtin "len") (BW LF):=⟨(cx H HS DL.run.call).mono h⟩
theorem iy(H:Aq C)(HS:Hd C fl fs ff)(DS:BC C d' (.ref fs) SF)(DF:BC C d' (.ref ff) FF)(h:d'+2<=d):BC C d (.type "str") (NW SF FF):=⟨(Yk H HS DS.run DF.run).mono h⟩
theorem lW:BC C d fv j0:=⟨cZ⟩
theorem EE(H:Aq C)(HC:Bg C):BC C (d+1) (.builtin "list.append") Bv:=⟨MJ H HC⟩
theorem Ta:BC C d (.builtin "str.join") J3:=⟨YU⟩
theorem OF:BC C d (.builtin "str.isspace") GQ:=⟨Rl⟩
theorem UJ:BC C d (.builtin "list.pop") KY:=⟨V2⟩
theorem E8:BM C 2 "append" (.builtin "list.append"):=⟨OC PySem.F.slot_list_append PySem.F.type_list_append⟩
theorem Mi:BM C 2 "pop" (.builtin "list.pop"):=⟨OC PySem.F.slot_list_pop PySem.F.type_list_pop⟩
theorem Tb:BM C 1 "join" (.builtin "str.join"):=⟨M1 PySem.F.slot_str_join PySem.F.type_str_join⟩
theorem m_isspace:BM C 1 "isspace" (.builtin "str.isspace"):=⟨M1 PySem.F.slot_str_isspace PySem.F.type_str_isspace⟩
theorem Y5(H:Aq C)(HC:Bg C)(hf:findIn C.K (.ref C.ACC) "append" = some (some (.builtin "list.append")))(ht:typeIn C.K (.builtin "list.append")=some (.type "method_descriptor")):BM C 4 "append" (.builtin "list.append"):=⟨QI H HC hf ht (.inr (.inl rfl)) (by decide +kernel)⟩
theorem OG(H:Aq C)(HC:Bg C){f:Addr}(hf:findIn C.K (.ref C.ACC) name=some (some (.ref f)))(ht:typeIn C.K (.ref f)=some (.type "function"))(hn:(name==("_initial_size" : Str))=false):BM C 4 name (.ref f):=⟨QI H HC hf ht (.inl rfl) hn⟩
theorem M6(H:Aq C)(HC:Bg C){f:Addr}(hf:findIn C.K (.ref C.VF) name=some (some (.ref f)))(ht:typeIn C.K (.ref f)=some (.type "function"))(c:(List.range 6).all (λk=>!(name==attrName k))=true):BM C 3 name (.ref f) :=
 ⟨X0 H HC hf ht λk hk=>by have:=List.all_eq_true.mp c k (List.mem_range.mpr hk);simpa using this⟩
end
theorem M7{n:Nat}(e:vs.length=n+1):∃ a r,vs=a::r:=by
 cases vs with
 |nil=>cases e
 |cons a r=>exact(B6 a r rfl)
theorem L8(h:∀ a,P [a]):∀ vs,vs.length=1->P vs:=λvs e=>by
 (refine ID (M7 e) λa r FP=>?_;subst FP)
 obtain rfl:=List.eq_nil_of_length_eq_zero (Nat.succ.inj e)
 exact h a
theorem Tc(h:∀ a b,P [a,b]):∀ vs,vs.length=2->P vs:=λvs e=>by
 (refine ID (M7 e) λa r FP=>?_;subst FP)
 exact L8 (P:=λr=>P (a::r)) (λb=>h a b) r (Nat.succ.inj e)
theorem Y6(h:∀ a b c,P [a,b,c]):∀ vs,vs.length=3->P vs:=λvs e=>by
 (refine ID (M7 e) λa r FP=>?_;subst FP)
 exact Tc (P:=λr=>P (a::r)) (λb c=>h a b c) r (Nat.succ.inj e)
theorem Y7(h:∀ a b c d,P [a,b,c,d]):∀ vs,vs.length=4->P vs:=λvs e=>by
 (refine ID (M7 e) λa r FP=>?_;subst FP)
 exact Y6 (P:=λr=>P (a::r)) (λb c d=>h a b c d) r (Nat.succ.inj e)
theorem qD(h:∀ a b c d e,P [a,b,c,d,e]):∀ vs,vs.length=5->P vs:=λvs e=>by
 (refine ID (M7 e) λa r FP=>?_;subst FP)
 exact Y7 (P:=λr=>P (a::r)) (λb c d e=>h a b c d e) r (Nat.succ.inj e)
structure BI (C:Cfg) (d:Nat) (env:Env) (Aa:List Str) (Cl:Addr) (b:List Stmt) (f:List (Str×EM)):Prop where
 run:VI C d env Aa Cl b f
theorem iz:BI C d env Aa Cl [] []:=⟨.nil⟩
theorem Io{r:List Stmt}{fs:List (Str×EM)}(ht:takerIn C.K Cl name=some none)(D:BE C d env Aa e f)(b:BI C d env Aa Cl r fs)(hs:GU e=true) :
 BI C d env Aa Cl (.Assign [.Attribute (.Name "self" p0) name p1] e p2::r) ((name,f)::fs):=⟨.cons ht D.run (E7 hs _ _ _) b.run⟩
theorem c7(H:Aq C)(HM:makesIn C.K C.VF=true)(Ys:findIn C.K (.ref C.VF) "__init__" = some (some (.ref fI)))(pX:typeIn C.K (.ref fI)=some (.type "function"))(k7:CZ C C.VF)(F:C7 C fI ["self", "headerlen", "maxlen", "continuation_ws", "splitchars"] 5)(hb:∀ vs:List Value,vs.length=5->bindArgs (Bw C.K fI) ⟨vs,[]⟩=pure ((["self", "headerlen", "maxlen", "continuation_ws", "splitchars"]:List Str).zip vs))(D:∀ L,Cd (Ba C fI L) ["self", "headerlen", "maxlen", "continuation_ws", "splitchars"]->BI C d (Ba C fI L) ["self", "headerlen", "maxlen", "continuation_ws", "splitchars"] C.VF (Cf C.K fI) (Py LF)) :
 BC C (d+2) (.ref C.VF) Ji :=
 ⟨VJ (LF:=LF) H HM Ys pX k7 (F.okD (m:=5) (dxs:=[]) (dv:=[]) H (λuu uu=>.nil) (λs X vs h=>.of_eq (by rw[hb vs h];simp))) λL=>(D L (F.envB (by decide +kernel) L)).run⟩
theorem Y8:∀ {vs:List Value} {ns:List Int},IntsAre vs ns->Bx C ρ h (ns.map AV.int) vs:=by
 intro vs ns q
 induction q with
 |nil=>exact .nil
 |cons n t r ih=>exact .cons (.int n t) ih
theorem V8{P:Params}{l:Addr}(w:Well P h (.ref l) (ofPy (.list ds))):∃ vs:List Value,h.get? l=some { cls:=.type "list",data:=.seq vs.toArray }:=by
 rw[ofPy] at w
 cases w with
 |list ho _=>exact⟨_,ho⟩
variable{F c':Code}{H:Value->Sem Fin}{K:Flow->Sem Fin}{P:Int->Prop}{b:List Stmt}{B7:Env}{cl:List (Str×Addr)}{cv:List Str}{e0 e1:EM}{ex0 ex1 Rq:Expr}{fs:List Frame}{g:Array GenState}{genv:Addr->Env}{kk l m:Nat}{lv:List Value->List Value}{pw tp y1 y2:Pos}{qn:Value}{st:GenState}{Φ:End->Shared->Prop}
theorem c8{P:Params}{l:Addr}{ns:List Int}(w:Well P h (.ref l) (ofPy (.list ds)))(hL:h.IsList l vs.toArray)(hI:IntsAre vs ns)(hm:¬ C.isTab l):VR C [] h (.lst (ns.map AV.int)) (.ref l):=by
 (refine CJ (V8 w) λCL ho=>?_)
 obtain⟨o,Uq,hc,n,hd⟩:=hL
 rw[ho] at Uq
 (refine c1 Uq λG9=>?_;clear Uq;subst G9)
 injection hd with e1 e2
 have:CL=vs:=by simpa using congrArg Array.toList e1
 subst this
 refine .lst ho ?_ (Y8 hI)
 rintro(t|⟨p,hp,_⟩)
 . exact hm t
 . cases hp
theorem Y9{c:ClaimW}{cl:Str->Option Addr}{qE:ExcName->Option Value}{args:List WData}(hn:∀ cls,c.raises args cls=false)(hp:c.post args (.bool true) args=true)(ho:OldK s₁.heap s'.heap)(bQ:s'.os=s₁.os)(hg:AllBare s'.gens) :
 GoodWG c cl qE args s₁ (.ok (.ret (.bool true))) s':=⟨.inl (EY _ (.bool true) [] ⟨rfl,hn,.bool _,hp,λuu=>⟨.nil,λuu h=>nm h⟩⟩),ho,bQ,hg⟩
noncomputable def EF(f:EM)(lo hi:Option EM):EM:=λlc σ=>(f lc σ).bind λp=>p.1.str?.bind λx=>(NY lo lc p.2).bind λa=>(NY hi lc a.2).bind λb=>gd (decide (x.length<=1000000)) (.str (Txt.slice x a.1 b.1),b.2)
noncomputable def Td:FM:=E5 ["self"] 1 (Ah [Bj (mE 4 Gm Bn [cE (.str " "),cE (.str "")])])
theorem Te(h:PyData.strOk x=true)(ix:List Nat):PyData.strOk ⟨(ix.filterMap (x.cps[·]?)).toArray⟩=true:=by
 rw[GH] at *
 intro c hc
 simp only at hc
 (refine Am (List.mem_filterMap.mp hc) λi uu hi=>?_)
 exact h c (by simpa using Array.mem_of_getElem? hi)
theorem Rr(h:PyData.strOk x=true)(a b:Option Int):PyData.strOk (Txt.slice x a b)=true:=by
 unfold Txt.slice
 split
 . exact h
 . exact Te h _
theorem V9(D1:AQ C d env Aa CU f)(D2:NZ C d env Aa lo fl)(D3:NZ C d env Aa hi fh) :
 AQ C d env Aa (.Subscript CU (.Slice lo hi none ps) p) (EF f fl fh):=by
 intro lc σ y σ' hf A Q E s ρ hA R lr kk
 refine oB hf λxp e1 hf=>oB hf λx ex hf=>oB hf λai e2 hf=>oB hf λbi e3 hf=>oG hf λhz e9=>?_
 have kk:=Hz kk e9
 have hz:=of_decide_eq_true hz
 refine Gx (D1 _ _ _ _ e1 A _ E s ρ hA R lr λo s₁ Ad An Aj AA=>wpAny_Slice ?_)
 refine Ij D2 e2 hA An (lr.go Aj) λvl Ai AF Az Au pl=>Ij D3 e3 hA Az (lr.go (Aj.trans Au)) λvu AJ By BY BV pu=>AA.str_of ex λt ok=>?_
 have hl:(Txt.slice x ai.1 bi.1).length<=sizeLine:=Nat.le_trans (Txt.slice_le x _ _) (by rw[sizeLine_eq];omega)
 have go:∀ t' k,Q (.str (Txt.slice x ai.1 bi.1) t') { AJ with heap:=AJ.heap.push { cls:=.type "slice",data:=.fields #[vl,vu,.none] },toks:=k }:=λt' k=>kk _ _ By (BY.push _ (n:=k)) (((Aj.trans Au).trans BV).trans (.pushObj _)) (.str _ _ (Rr ok _ _))
 rw[evalPart_none]
 refine wpAny_pure ⟨⟨_,(Looks.of_pure (by rfl)).andThen (Looks.of_pure PySem.F.slot_str_getitem.lookup)⟩,?_⟩
 generalize ai.1=a at *
 generalize bi.1=b at *
 cases pl with
 |none =>
  cases pu with
  |none=>exact wpAny_getItem_str_slice (l:=none) (u:=none) (st:=none) ⟨_,Heap.get?_push_size _ rfl,rfl,rfl⟩ rfl (post_val_or_str ⟨hl,go⟩)
  |int j uj=>exact wpAny_getItem_str_slice (l:=none) (u:=some (j,uj)) (st:=none) ⟨_,Heap.get?_push_size _ rfl,rfl,rfl⟩ rfl (post_val_or_str ⟨hl,go⟩)
 |int i ui =>
  cases pu with
  |none=>exact wpAny_getItem_str_slice (l:=some (i,ui)) (u:=none) (st:=none) ⟨_,Heap.get?_push_size _ rfl,rfl,rfl⟩ rfl (post_val_or_str ⟨hl,go⟩)
  |int j uj=>exact wpAny_getItem_str_slice (l:=some (i,ui)) (u:=some (j,uj)) (st:=none) ⟨_,Heap.get?_push_size _ rfl,rfl,rfl⟩ rfl (post_val_or_str ⟨hl,go⟩)
theorem Mj(D1:BE C d env Aa CU f)(D2:BO C d env Aa lo fl)(D3:BO C d env Aa hi fh) :
 BE C d env Aa (.Subscript CU (.Slice lo hi none ps) p) (EF f fl fh):=⟨V9 D1.run D2.run D3.run⟩
theorem m_strip:BM C 1 "strip" (.builtin "str.strip"):=⟨M1 PySem.F.slot_str_strip PySem.F.type_str_strip⟩
noncomputable def SX(M:Model)(A:Around)(Φ:End->Shared->Prop)(c:Code)(t:Sem Fin)(fs:List Frame)(s:Shared):Prop :=
 ∀ Γ p,Γ.code=c->Γ.Woken A->∃ e s',Runs M Γ p t fs s e s'/\Φ e s'
section
variable{c:Code}
theorem Mk{m:Sem α}{K:α->Sem Fin}{gd:Bool->Bool}(h:wpAny M (A.over c fs) m (λa s'=>SX M A Φ c (K a) fs s') (λx s'=>SX M A Φ c (H x) fs s') s):SX M A Φ c (m.wrap K H gd lv) fs s:=by
 rintro Γ p rfl UD
 exact runs_wrap_of_wp K H gd lv m (h (Γ.over fs) p (UD.over fs)) (λa p' s' h'=>h' Γ p' rfl UD) (λx p' s' h'=>h' Γ p' rfl UD)
theorem Za{k:Unit->Sem Fin}(h:SX M A Φ c (k ()) fs s):SX M A Φ c (.at p' k) fs s:=Mk (m:=standAt p') (K:=k) (H:=.raise) (gd:=id) (lv:=id) (wpAny_standAt h)
theorem Zb{l:List Value}{k:Unit->Sem Fin}(h:SX M A Φ c (k ()) fs s):SX M A Φ c (.point l k) fs s:=Mk (m:=point) (K:=k) (H:=.raise) (gd:=id) (lv:=λuu=>l) (wpAny_point h)
theorem c9{h:Option Value}{g:Bool}{l:List Value}{k:Result->Sem Fin}(hc:∀ p,SX M A Φ c' (M.den c') (.ret k h g l c p []::fs) s):SX M A Φ c (.call c' h g l k) fs s:=by
 rintro Γ p rfl UD
 (refine Es (hc p (Γ.goto c') p rfl (UD.goto c')) λe s' hr he=>?_)
 exact(B6 e s' ⟨runs_call_seg hr,he⟩)
theorem Zc(hq:c'.quiet=true)(hc:SX M A Φ c' (M.den c') fs s):SX M A Φ c (.pure (.again c')) fs s:=by
 rintro Γ p rfl UD
 (refine Es (hc (Γ.goto c') p rfl (UD.goto c')) λe s' hr he=>?_)
 exact(B6 e s' ⟨Runs.head (c₁:=c') (λuu uu x=>.again hq x) hr,he⟩)
theorem Zd{g:Bool}{l:List Value}{k:Resume->Sem Fin}(UK:splitAtGen fs=none)(h:∀ p,Φ (.susp v g l k c p fs) s):SX M A Φ c (.yield v g l k) fs s:=by
 rintro Γ p rfl _
 exact(B6 _ s ⟨Runs.yield' fs UK,h p⟩)
set_option tactic.hygienic true
theorem Rt{iA:Pos}{gd:Bool->Bool}(UK:splitAtGen fs=none)(qF:gd false=false)(Yd:env.scope.isCoroutine=false)(hi:interactive env=false)(h:wpAny M (A.over c fs) (eval e env) (λv s'=>∀ l k p,k (.send .none)=K .next->Φ (.susp v false l k c p fs) s') (λx s'=>SX M A Φ c (H x) fs s') s) :
 SX M A Φ c ((exec (.Expr (.Yield (some e) iA) pos) env).wrap K H gd lv) fs s:=by
 rw[exec_Expr env _ pos hi rfl]
 show SX M A Φ c (.at pos λuu=>((eval e env >>= λv=>(standAt iA >>= λuu=>yieldOut env v)) >>= λx =>
  dropValue (.Yield (some e) iA) pos x).wrap K H gd lv) fs s
 have hy:∀ v,yieldOut env v=yieldValue v:=λv=>by simp only[yieldOut,Yd,Bool.false_eq_true,if_false]
 simp only[hy]
 refine Za ?_
 rw[Sem.bind_eq_wrap',Sem.bind_eq_wrap',Sem.wrap_wrap,Sem.wrap_wrap]
 refine Mk (wpAny_mono h (λv s' h'=>?_) λuu uu x=>x)
 refine Za (Zd UK λp=>?_)
 show Φ (.susp v (gd false) _ _ c p fs) s'
 rw[qF]
 exact h' _ _ p rfl
theorem iB{gd:Bool->Bool}(h:SX M A Φ c (K .next) fs s):SX M A Φ c ((execs [] env).wrap K H gd lv) fs s:=h
theorem PQ{st:Stmt}{rest:List Stmt}{gd:Bool->Bool}(h:SX M A Φ c ((exec st env).wrap (λf=>match f with | .next=>(execs rest env).wrap K H gd lv|f=>K f) H gd lv) fs s):SX M A Φ c ((execs (st::rest) env).wrap K H gd lv) fs s:=by rw[execs_cons_wrap];exact h
noncomputable def fD(F:Code)(fs:List Frame):Prop:=∃ k l p,fs=[Frame.ret k none false l F p []]
set_option tactic.hygienic false
theorem fD.split(h:fD F fs):splitAtGen fs=none:=by (refine Qt (h) λk l p g7=>?_;clear h;subst g7);rfl
theorem fD.bare(h:fD F fs):fs.any Frame.guarded=false:=by (refine Qt (h) λk l p g7=>?_;clear h;subst g7);rfl
theorem Ze{gd:Bool->Bool}(qF:gd false=false)(h:∀ j1,fD c j1->SX M A Φ (.whileLoop Rq body Co env) (M.den (.whileLoop Rq body Co env)) j1 s):SX M A Φ c ((exec (.While Rq body Co pos) env).wrap K H gd lv) [] s:=by
 refine Za (c9 λp=>?_)
 show SX M A Φ _ _ [.ret _ none (gd false) _ c p []] s
 rw[qF]
 exact h _ (EY _ _ _ rfl)
end
noncomputable abbrev M8(e:Expr)(yp p:Pos):Stmt:=.Expr (.Yield (some e) yp) p
noncomputable def M9(M:Model)(F W:Code)(st:GenState):Prop:=∃ k l c p fs,st=.suspended k l c p fs false /\
 ∀ A Φ s,(∀ j1,fD F j1->SX M A Φ W (M.den W) j1 s)->SX M A Φ c (k (.send .none)) fs s
section
set_option tactic.hygienic true
theorem PR(h:∀ K H,(∀ A Φ s fs,SX (model prog w) A Φ (.whileLoop (.Constant (.bool true) k tp) body [] env) ((model prog w).den (.whileLoop (.Constant (.bool true) k tp) body [] env)) fs s->SX (model prog w) A Φ (.whileLoop (.Constant (.bool true) k tp) body [] env) (K .next) fs s) ->
  SX (model prog w) A Φ (.whileLoop (.Constant (.bool true) k tp) body [] env) ((execs body env).wrap K H id id) fs s) :
 SX (model prog w) A Φ (.whileLoop (.Constant (.bool true) k tp) body [] env) ((model prog w).den (.whileLoop (.Constant (.bool true) k tp) body [] env)) fs s:=by
 show SX _ A Φ _ ((whileTurn (.Constant (.bool true) k tp) body [] env).onRaise (λx=>do noteFrame x env;theTreesLotGoes x)) fs s
 unfold whileTurn
 rw[Sem.onRaise_eq_wrap,Sem.bind_eq_wrap',Sem.wrap_wrap]
 refine Mk (wpAny_mono (Q:=λb s'=>b=true/\s'=s) (E:=λuu uu=>False) ?_ (λb s' hb=>?_) λuu uu z=>z.elim)
 . exactλuu uu uu=>⟨rfl,rfl⟩
 . (refine AS (hb) λku IF=>?_;clear hb;subst ku;subst IF)
   show SX _ A Φ _ (Sem.wrap _ _ _ _ (if true=true then _ else _)) fs s'
   rw[if_pos rfl,Sem.bind_eq_wrap',Sem.wrap_wrap]
   refine h _ _ λA Φ s fs h'=>?_
   exact Zc rfl h'
set_option tactic.hygienic false
theorem dc(h:∀ K H,SX (model prog w) A Φ (.func body env) ((execs body env).wrap K H id id) fs s):SX (model prog w) A Φ (.func body env) ((model prog w).den (.func body env)) fs s:=by
 show SX _ A Φ _ (.point [] λuu=>((execs body env).onRaise (leaving env)) >>= _) fs s
 refine Zb ?_
 rw[Sem.onRaise_eq_wrap,Sem.bind_eq_wrap',Sem.wrap_wrap]
 exact h _ _
variable{e1:Expr}
noncomputable abbrev Na(env:Env)(e1 e2:Expr)(y1 p1 y2 p2 pw tp:Pos)(k:Nat):Code:=.func [M8 e1 y1 p1,.While (.Constant (.bool true) k tp) [M8 e2 y2 p2] [] pw] env
noncomputable abbrev L9(env:Env)(e2:Expr)(y2 p2 tp:Pos)(k:Nat):Code:=.whileLoop (.Constant (.bool true) k tp) [M8 e2 y2 p2] [] env
theorem Wa(Yd:env.scope.isCoroutine=false)(hi:interactive env=false)(h:wpAny (model prog w) (A.over (Na env e1 e2 y1 p1 y2 p2 pw tp k) []) (eval e1 env) (λv s'=>∀ e:End,e.quiet=true->e.result=.yielded v->M9 (model prog w) (Na env e1 e2 y1 p1 y2 p2 pw tp k) (L9 env e2 y2 p2 tp k) e.genState->Φ e s') (λuu uu=>False) s) :
 SX (model prog w) A Φ (Na env e1 e2 y1 p1 y2 p2 pw tp k) ((model prog w).den (Na env e1 e2 y1 p1 y2 p2 pw tp k)) [] s:=by
 refine dc λK H=>PQ (Rt rfl rfl Yd hi (wpAny_mono h (λv s' h' l k' p hk=>h' _ rfl rfl (j9 k' l _ p [] ⟨rfl,λA Φ s hW=>?_⟩)) (λuu uu z=>z.elim)))
 rw[hk]
 exact PQ (Ze rfl hW)
theorem Zf(Yd:env.scope.isCoroutine=false)(hi:interactive env=false)(UK:fD (Na env e1 e2 y1 p1 y2 p2 pw tp k) fs)(h:wpAny (model prog w) (A.over (L9 env e2 y2 p2 tp k) fs) (eval e2 env) (λv s'=>∀ e:End,e.quiet=true->e.result=.yielded v->M9 (model prog w) (Na env e1 e2 y1 p1 y2 p2 pw tp k) (L9 env e2 y2 p2 tp k) e.genState->Φ e s') (λuu uu=>False) s) :
 SX (model prog w) A Φ (L9 env e2 y2 p2 tp k) ((model prog w).den (L9 env e2 y2 p2 tp k)) fs s:=by
 refine PR λK H hK=>PQ (Rt UK.split rfl Yd hi (wpAny_mono h (λv s' h' l k' p hk=>h' (.susp v false l k' (L9 env e2 y2 p2 tp k) p fs) ?_ rfl (j9 k' l (L9 env e2 y2 p2 tp k) p fs ⟨?_,λA Φ s hW=>?_⟩)) (λuu uu z=>z.elim)))
 . show(!(false||fs.any Frame.guarded))=true
   rw[UK.bare];rfl
 . show GenState.suspended k' l (L9 env e2 y2 p2 tp k) p fs (false||fs.any Frame.guarded)=_
   rw[UK.bare];rfl
 . rw[hk]
   exact iB (hK A Φ s fs (hW fs UK))
noncomputable def vf(M:Model)(A:Around)(Φ:End->Shared->Prop)(gs:GenState)(s:Shared):Prop:=match gs with
 | .fresh c=>SX M A Φ c (M.den c) [] s
 | .suspended k _ c _ fs _=>SX M A Φ c (k (.send .none)) fs s
 | _=>False
theorem Nb{g:Nat}{gs:GenState}{l:List Value}{K:GenResult->Sem α}{Q:α->Shared->Prop}(hg:s.gens[g]?=some gs)(jY:vf M A Φ gs (s.setGen g .running))(th:∀ e s₁,Φ e s₁->e.quiet=true/\wpAny M A (K e.result) Q E (s₁.setGen g e.genState)):wpAny M A (.resume g (.send .none) l K) Q E s:=by
 intro Γ p UD
 rw[Sem.wp_resume]
 cases gs with
 |fresh c =>
  (refine Es (jY (Γ.wake c p) p rfl (UD.wake c p)) λe s₁ hr he=>?_)
  (refine AS (th e s₁ he) λa b=>?_)
  exact(B6 _ _ ⟨by unfold Wakes;rw[hg];exact(B6 e s₁ ⟨hr,a,rfl,rfl⟩),b Γ p UD⟩)
 |suspended k₀ XP c₀ qG fs₀ cl =>
  (refine Es (jY (Γ.wake c₀ p) qG rfl (UD.wake c₀ p)) λe s₁ hr he=>?_)
  (refine AS (th e s₁ he) λa b=>?_)
  exact(B6 _ _ ⟨by unfold Wakes;rw[hg];exact(B6 e s₁ ⟨hr,a,rfl,rfl⟩),b Γ p UD⟩)
 |running=>exact jY.elim
 |finished=>exact jY.elim
end
theorem GR.new(q:GR C ρ σ h g)(hl:ρ.length=σ.length){p:Addr×Addr}{nm:Value}(hp:h.get? p.1=some (Ce g.size nm qn))(hG:C.G p.2 k st)(hb:st.bare=true) :
 GR C (ρ++[p]) (σ++[.gen m k]) h (g.push st):=by
 have gk:∀ (i:Nat) (x:GenState),g[i]?=some x->(g.push st)[i]?=some x:=by
  intro i x e
  have hi:=(Array.getElem?_eq_some_iff.mp e).1
  rw[Array.getElem?_push_lt hi]
  rw[Array.getElem?_eq_getElem hi] at e
  exact e
 have tw:∀ {i j:Nat} {r r':Addr×Addr} {x:AO} {n:Nat} {a b a' b':Value},ρ[i]?=some r->σ[i]?=some x->x.isGen=true->h.get? r.1=some (Ce n a b)->r'=p->h.get? r'.1=some (Ce n a' b')->i=j:=λ{i j r r' x n a b a' b'} e1 e2 g1 e3 er e4=>by
  refine Gf (q.obj e1 e2 g1) λn' uu uu z DK=>?_
  rw[er] at e4
  rw[Pg z e3,<- Pg hp e4] at DK
  exact absurd DK (Nat.lt_irrefl _)
 have cut:∀ {i:Nat} {P:Prop},i<σ.length->i=ρ.length->P:=λh e=>absurd (hl▸e▸h) (Nat.lt_irrefl _)
 have Wb:∀ {i:Nat} {P:Prop},i<ρ.length->i=σ.length->P:=λh e=>absurd (hl.symm▸e▸h) (Nat.lt_irrefl _)
 refine⟨q.bare.push hb,λi r m' k' e e'=>snoc_inv e (λhi e=>snoc_inv e' (λuu e'=>Sk (q.live i r m' k' e e') λn a b x z y w=>Lm n a b x ⟨z,gk _ _ y,w⟩) λh uu=>Wb hi h) λhi er=>snoc_inv e' (λh uu=>cut h hi) λuu eo=>Lm g.size nm qn st ⟨er▸hp,Array.getElem?_push_size,by rw[er,kf eo];exact hG⟩,
  λi r n e e'=>snoc_inv e (λhi e=>snoc_inv e' (λuu e'=>Es (q.outs i r n e e') λa b z y=>B6 a b ⟨z,gk _ _ y⟩) λh uu=>Wb hi h) λhi er=>snoc_inv e' (λh uu=>cut h hi) λuu eo=>bx eo,
  λi j r r' x x' n a b a' b' e1 e2 e3 g3 e4 g4 e5 e6=>snoc_inv e1 (λhi e1=>snoc_inv e2 (λhj e2=>q.apart i j r r' x x' n a b a' b' e1 e2 (snoc_inv e3 (λuu z=>z) λh uu=>Wb hi h) g3 (snoc_inv e4 (λuu z=>z) λh uu=>Wb hj h) g4 e5 e6) λuu er=>tw e1 (snoc_inv e3 (λuu z=>z) λh uu=>Wb hi h) g3 e5 er e6) λhi er=>snoc_inv e2 (λhj e2=>(tw e2 (snoc_inv e4 (λuu z=>z) λh uu=>Wb hj h) g4 e6 er e5).symm) λhj uu=>hi.trans hj.symm⟩
structure qH (C:Cfg) (f:Addr) (body:List Stmt) (fd:FuncData):Prop where
 obj:∃ o,C.s₁.heap.get? f=some o/\o.data=.func fd
 bd:fd.body=.stmts body
 glob:fd.globals=mainGlobals
 blt:fd.builtins=builtinsNs
 bind:∀ v:Value,bindArgs fd ⟨[v],[]⟩=(pure [(("self" : Str),v)]:Sem (List (Str×Value)))
 notTab:¬ C.isTab f
 crec:C.s₁.heap.CodeRec fd.code fd.qualname
 codeNo:∀ c,fd.code=.ref c->¬ C.isTab c
 coro:fd.scope.isCoroutine=false
 gen:fd.scope.isGenerator=true
 kind:fd.scope.kind=.function
 cells:∀ x∈fd.scope.names,x.2≠.cell
 loc:fd.scope.names.lookup ("self" : Str)=some .local
noncomputable def DY:FM:=λxs σ=>(I5 xs).bind λx=>x.loc?.bind λm=>(Uy σ m).map λ_=>(.loc σ.length,σ++[.gen m 0])
theorem Ru{f:Addr}(H:qH C f body fd)(KP:C.s₁.heap.NoLimit)(hst:¬ C.isTab cStatics)(hG:∀ L,C.G L 0 (.fresh (.func body (Hx fd f L)))):JK C (d+1) f DY:=by
 intro xs σ x σ' hf A P s ρ vs hA R q k
 refine oB hf λy e0 hf=>oB hf λm em hf=>oM hf λu hm e=>?_
 have k:∀ v s' Ar,Rel C Ar (σ++[.gen m 0]) s'->Step C [] ρ Ar s.heap s'.heap->VR C Ar s'.heap (.loc σ.length) v->P (.ok (.ret v)) s':=Hz (Q:=λv s'=>P (.ok (.ret v)) s') k e
 revert k
 refine q.arg1_e e0 λv qv=>?_
 have qv:=AV.loc_inv em▸qv
 refine qv.loc_e λpm em k=>Am H.obj λo ho hd=>?_
 have Ey:s.heap.CodeRec fd.code fd.qualname:=LY H.crec λc o' CL t e1 e2 e3 e4=>(Lm c o' CL t ⟨e1,R.old c o' e2 (H.codeNo c e1),e3,e4⟩)
 refine codeAny_call_generator (Nat.lt_of_le_of_lt (Nat.le_add_right ..) hA.2.1) (R.old f o ho H.notTab) hd H.coro H.gen H.bd Ey ?_
 rw[H.bind]
 refine wpAny_pure ?_
 refine wpAny_newFunctionEnv H.cells (λy hy=>by cases List.mem_singleton.mp hy;exact H.loc) (λAI GF DW=>?_) H.kind
 have Hy:AI.objs.size=s.heap.objs.size+1:=by rw[DW.1,Heap.size_push]
 have CP:∀ b o,s.heap.get? b=some o->AI.get? b=some o:=λb o e=>(DW.2 b (Nat.ne_of_lt (Heap.lt_size e))).trans (Heap.get?_push_of_some _ e)
 refine⟨Am KP λmc a b=>⟨mc,a.at λo e=>CP _ _ (R.old _ _ e hst),b⟩,?_⟩
 rw[H.glob,H.blt]
 dsimp only
 ·
  ·
   have k₂:∀ b o,s.heap.get? b=some o->(AI.push (Ce s.gens.size (.str fd.name (s.toks+1)) (.str fd.qualname (s.toks+1+1)))).get? b=some o:=λb o e=>Heap.get?_push_of_some _ (CP b o e)
   have SI:(AI.push (Ce s.gens.size (.str fd.name (s.toks+1)) (.str fd.qualname (s.toks+1+1)))).objs.size=s.heap.objs.size+2:=by rw[Heap.size_push,Hy]
   have hp:(AI.push (Ce s.gens.size (.str fd.name (s.toks+1)) (.str fd.qualname (s.toks+1+1)))).get? AI.objs.size=some (Ce s.gens.size (.str fd.name (s.toks+1)) (.str fd.qualname (s.toks+1+1))):=Heap.get?_push_size _ rfl
   have RS:=R.allocX (s':={ s with gens:=s.gens.push (.fresh (.func body (Hx fd f s.heap.objs.size))),toks:=s.toks+1+1+1,heap:=AI.push (Ce s.gens.size (.str fd.name (s.toks+1)) (.str fd.qualname (s.toks+1+1))) })
    k₂ (by show s.heap.objs.size<=_;rw[SI];exact Nat.le_add_right _ _) rfl rfl (p:=(AI.objs.size,s.heap.objs.size)) (o:=.gen m 0) (by rw[Hy];exact Nat.le_succ _) (Nat.le_refl _)
    (.gen hp ⟨(B6 _ pm ⟨GF.at λo e=>Heap.get?_push_of_some _ e,by rw[List.getElem?_append_left (List.getElem?_eq_some_iff.mp em).1];exact em,List.lookup_cons_self⟩)⟩)
    (GR.new (R.gens.heap λuu uu uu uu uu uu o e=>k₂ _ o e) R.len hp (hG _) rfl)
   refine k _ _ _ RS.1 RS.2 (.loc (p:=(AI.objs.size,s.heap.objs.size)) ?_)
   rw[<- R.len,List.getElem?_append_right (Nat.le_refl _),Nat.sub_self]
   rfl
section
variable{n:Nat}{p p':Addr×Addr}{o:AO}
structure N4 (C:Cfg) (h:Heap) (ρ Ar:D7):Prop where
 fst:∀ (i:Nat) (p:Addr×Addr),ρ[i]?=some p->∃ p',Ar[i]?=some p'/\p'.1=p.1
 mu:∀ a o,h.get? a=some o->(∃ vs n,o.data=.seq vs n)->¬ Ds C ρ a->¬ Ds C Ar a
theorem VR.swap(w:N4 C h ρ Ar){x:AV}(q:VR C ρ h x v):VR C Ar h x v :=
 VR.rec (motive_1:=λx v uu=>VR C Ar h x v) (motive_2:=λxs vs uu=>Bx C Ar h xs vs) .none (λb=>.bool b) (λi t=>.int i t) (λx t ok=>.str x t ok)
  (λho hm uu ih=>.tup ho (w.mu _ _ ho (B6 _ _ rfl) hm) ih) (λho hm uu ih=>.lst ho (w.mu _ _ ho (B6 _ _ rfl) hm) ih)
  (λe=>by (refine Am (w.fst _ _ e) λp' a b=>?_);rw[<- b];exact .loc a) .nil (λuu uu a b=>.cons a b) q
theorem D8.swap(w:N4 C h ρ Ar)(q:D8 ρ h L m):D8 Ar h L m :=
 Dt (q.self) λmm uu a b c=>Am (w.fst _ _ b) λq' d e=>⟨mm,q',a,d,by rw[e];exact c⟩
theorem Ct.swap(w:N4 C h ρ Ar)(q:Ct C ρ h p o):Ct C Ar h p o:=q.move (λuu z=>z) (λuu z=>z) (·.swap w) (λuu z=>z.swap w) λuu uu z uu=>z
theorem GR.swap(q:GR C ρ σ h g)(e:ρ[l]?=some p)(e':σ[l]?=some o)(ho:o.isGen=true){nm:Value}(hn:h.get? p.1=some (Ce n nm qn))(hp:p'.1=p.1)(Uq:o'.isGen=true)(hb:st.bare=true)(hg:∀ m k,o'=.gen m k->C.G p'.2 k st)(ht:∀ n',o'=.out n'->n'=n/\st=.running):GR C (ρ.set l p') (σ.set l o') h (g.setIfInBounds n st):=by
 have hz:n<g.size:=Gf (q.obj e e' ho) λn' uu uu z y=>Pg hn z▸y
 have at':(g.setIfInBounds n st)[n]?=some st:=by rw[Array.getElem?_setIfInBounds,if_pos rfl,if_pos hz]
 have ot:∀ {j:Nat},j≠n->(g.setIfInBounds n st)[j]?=g[j]?:=λhj=>by rw[Array.getElem?_setIfInBounds,if_neg hj.symm]
 have far:∀ {i:Nat} {r:Addr×Addr} {x:AO} {n':Nat} {a b:Value},l≠i->ρ[i]?=some r->σ[i]?=some x->x.isGen=true->h.get? r.1=some (Ce n' a b)->n'≠n :=
  λ{i r x n' a b} hi e1 e2 hx hr vg=>hi (q.apart l i p r o x n' nm qn a b e e1 e' ho e2 hx (vg▸hn) hr)
 have fE:∀ (i:Nat) {r:Addr×Addr},(ρ.set l p')[i]?=some r->∃ r',ρ[i]?=some r'/\r'.1=r.1:=λi r e1=>set_inv e1 (λuu e1=>⟨r,e1,rfl⟩) λhi er=>⟨p,hi▸e,by rw[er];exact hp.symm⟩
 have fF:∀ (i:Nat) {x:AO},(σ.set l o')[i]?=some x->x.isGen=true->∃ x',σ[i]?=some x'/\x'.isGen=true:=λi x e1 hx=>set_inv e1 (λuu e1=>⟨x,e1,hx⟩) λhi uu=>⟨o,hi▸e',ho⟩
 refine⟨λy hy=>CJ (Array.mem_iff_getElem?.mp hy) λj hj=>?_,λi r m k e1 e2=>set_inv e1 (λhi e1=>set_inv e2 (λuu e2=>Sk (q.live i r m k e1 e2) λn' a b x z y w=>Lm n' a b x ⟨z,(ot (far hi e1 e2 rfl z)).trans y,w⟩) λh uu=>absurd h hi) λhi er=>set_inv e2 (λh uu=>absurd hi h) λuu eo=>Lm n nm qn st ⟨by rw[er,hp];exact hn,at',by rw[er];exact hg m k eo.symm⟩,
  λi r lX e1 e2=>set_inv e1 (λhi e1=>set_inv e2 (λuu e2=>Es (q.outs i r lX e1 e2) λa b z y=>B6 a b ⟨z,(ot (far hi e1 e2 rfl z)).trans y⟩) λh uu=>absurd h hi) λhi er=>set_inv e2 (λh uu=>absurd hi h) λuu eo=>AS (ht lX eo.symm) λen es=>B6 nm qn ⟨by rw[er,hp,en];exact hn,by rw[en,at',es]⟩,
  λi j r r' x x' n' a b c d e1 e2 e3 g3 e4 g4 e5 e6=>Am (fE i e1) λr1 f1 f2=>Am (fE j e2) λr2 f3 f4=>Am (fF i e3 g3) λx1 f5 f6=>Am (fF j e4 g4) λx2 f7 f8=>q.apart i j r1 r2 x1 x2 n' a b c d f1 f3 f5 f6 f7 f8 (by rw[f2];exact e5) (by rw[f4];exact e6)⟩
 by_cases tj:j=n
 . rw[tj,at'] at hj;exact Option.some.inj hj▸hb
 . rw[ot tj] at hj;exact q.bare y (Array.mem_iff_getElem?.mpr ⟨j,hj⟩)
theorem N4.set(e:ρ[l]?=some p)(hp:p'.1=p.1)(h2:∀ a o,h.get? a=some o->(∃ vs n,o.data=.seq vs n)->¬ Ds C ρ a->a≠p'.2):N4 C h ρ (ρ.set l p'):=by
 have hl:=(List.getElem?_eq_some_iff.mp e).1
 refine⟨λi r er=>?_,λa ob ha hc n=>?_⟩
 . by_cases hi:l=i
   . subst hi
     rw[e] at er;cases er
     exact⟨p',by rw[List.getElem?_set,if_pos rfl,if_pos hl],hp⟩
   . exact⟨r,by rw[List.getElem?_set_ne hi];exact er,rfl⟩
 . have vh:=h2 a ob ha hc n
   rintro(t|⟨q,hq,z⟩)
   . exact n (.inl t)
   . rcases List.mem_or_eq_of_mem_set hq with hq|rfl
     . exact n (.inr ⟨q,hq,z⟩)
     . rcases z with z|z
       . exact n (.inr ⟨p,List.mem_of_getElem? e,.inl (hp▸z)⟩)
       . exact vh z.symm
theorem Rel.swap(R:Rel C ρ σ s)(e:ρ[l]?=some p)(e':σ[l]?=some o)(ho:o.isGen=true){nm:Value}(hn:s.heap.get? p.1=some (Ce n nm qn))(hp:p'.1=p.1)(Uq:o'.isGen=true)(hb:st.bare=true)(hg:∀ m k,o'=.gen m k->C.G p'.2 k st)(ht:∀ n',o'=.out n'->n'=n/\st=.running)(w:N4 C s.heap ρ (ρ.set l p'))(h2:p'.2=p.1\/¬ Ds C ρ p'.2)(lo:C.s₁.heap.objs.size<=p'.2)(hO:Ct C (ρ.set l p') s.heap p' o') :
 Rel C (ρ.set l p') (σ.set l o') (s.setGen n st):=by
 have Nc:=(List.getElem?_eq_some_iff.mp e).1
 have iC:=(List.getElem?_eq_some_iff.mp e').1
 refine⟨R.old,R.tab,λq hq=>?_,?_,by simp[R.len],λi q x e1 e2=>?_,R.gens.swap e e' ho hn hp Uq hb hg ht,R.drawn,R.os,R.size⟩
 . rcases List.mem_or_eq_of_mem_set hq with hq|rfl
   . exact R.lo q hq
   . exact⟨hp▸(R.lo p (List.mem_of_getElem? e)).1,lo⟩
 . have hd:=List.pairwise_iff_getElem.mp R.dis
   have II:ρ[l]=p:=(List.getElem?_eq_some_iff.mp e).2
   have bz:∀ (i:Nat) (hi:i<ρ.length),i≠l->p'.2≠ρ[i].1/\p'.2≠ρ[i].2/\p'.1≠ρ[i].1/\p'.1≠ρ[i].2:=by
    intro i hi Gj
    have z:ρ[l].1≠ρ[i].1/\ρ[l].1≠ρ[i].2:=by
     rcases Nat.lt_or_gt_of_ne Gj with c|c
     . have:=hd i l hi Nc c;exact⟨this.1.symm,this.2.2.1.symm⟩
     . have:=hd l i Nc hi c;exact⟨this.1,this.2.1⟩
    rw[II,<- hp] at z
    rcases h2 with h2|h2
    . rw[<- hp] at h2;rw[h2];exact⟨z.1,z.2,z.1,z.2⟩
    . exact⟨λc=>h2 (.inr ⟨_,List.getElem_mem hi,.inl c.symm⟩),λc=>h2 (.inr ⟨_,List.getElem_mem hi,.inr c.symm⟩),z.1,z.2⟩
   refine List.pairwise_iff_getElem.mpr λi j hi hj XH=>?_
   rw[List.length_set] at hi hj
   rw[List.getElem_set,List.getElem_set]
   by_cases h1:l=i
   . subst h1
     rw[if_pos rfl,if_neg (Nat.ne_of_lt XH)]
     (refine Hv (bz j hj (Nat.ne_of_gt XH)) λa b c d=>?_)
     exact⟨c,d,a,b⟩
   . rw[if_neg h1]
     by_cases h3:l=j
     . subst h3
       rw[if_pos rfl]
       (refine Hv (bz i hi (Nat.ne_of_lt XH)) λa b c d=>?_)
       exact⟨c.symm,a.symm,d.symm,b.symm⟩
     . rw[if_neg h3];exact hd i j hi hj XH
 . by_cases hi:l=i
   . subst hi
     rw[List.getElem?_set,if_pos rfl,if_pos Nc] at e1
     rw[List.getElem?_set,if_pos rfl,if_pos iC] at e2
     cases e1;cases e2;exact hO
   . rw[List.getElem?_set_ne hi] at e1 e2
     exact(R.st i q x e1 e2).swap w
end
set_option tactic.hygienic true
theorem Wc:builtinKind "next" = none:=by decide +kernel
theorem Tf:plainId "next" = true:=by decide +kernel
theorem entry_next:entryFor table "next" = some Builtin.«next»:=entryFor_of_fast (by left)
theorem Tg(a:Value):argsOk "next" ⟨[a],[]⟩:=by unfold argsOk;left
noncomputable def Rv(P:Int->Prop):Option Int:=@dite _ (∃ v,P v) (Classical.propDecidable _) (λh=>some h.choose) λ_=>none
set_option tactic.hygienic false
theorem Th{v:Int}(h:Rv P=some v):P v:=by
 unfold Rv at h
 by_cases hp:∃ v,P v
 . rw[dif_pos hp] at h
   cases h
   exact hp.choose_spec
 . rw[dif_neg hp] at h;cases h
theorem Zg{v:Int}(h:P v)(k:∀ u,P u->u=v):Rv P=some v:=by
 unfold Rv
 have hp:∃ v,P v:=⟨v,h⟩
 rw[dif_pos hp,k _ hp.choose_spec]
noncomputable def AO.gen?:AO->Option (Nat×Nat)
 | .gen m k=>some (m,k)
 | .list _=>none
 | .fmt ..=>none
 | .acc ..=>none
 | .ghost=>none
 | .out _=>none
 | .cell ..=>none
 | .ext ..=>none
noncomputable def UL(σ:St)(l:Nat):Option (Nat×Nat):=σ[l]?.bind AO.gen?
theorem Wd{g:Nat×Nat}(h:UL σ l=some g):σ[l]?=some (.gen g.1 g.2):=oB h λo e h=>by
 cases o with
 |gen m k=>exact e.trans (congrArg (λg:Nat×Nat=>some (AO.gen g.1 g.2)) (Option.some.inj h))
 | _=>exact ns h
theorem Zh(h:σ[l]?=some (.gen m k)):UL σ l=some (m,k):=by unfold UL;rw[h];rfl
noncomputable def En(e0 e1:EM):FM:=λxs σ=>(I5 xs).bind λx=>x.loc?.bind λl=>(UL σ l).bind λg =>
 (Rv λv=>∀ n,(bif g.2==0 then e0 else e1) [some (.loc g.1)] (σ.set l (.out n))=some (.int v,σ.set l (.out n))).map λv=>(.int v,σ.set l (.gen g.1 (g.2+1)))
structure Zi (C:Cfg) (d:Nat) (genv:Addr->Env) (ex0 ex1:Expr) (y1 p1 y2 p2 pw tp:Pos) (kk:Nat) (e0 e1:EM):Prop where
 G0:∀ L st,C.G L 0 st->st=.fresh (Na (genv L) ex0 ex1 y1 p1 y2 p2 pw tp kk)
 G1:∀ L k st,C.G L (k+1) st->M9 (model C.prog C.w) (Na (genv L) ex0 ex1 y1 p1 y2 p2 pw tp kk) (L9 (genv L) ex1 y2 p2 tp kk) st
 G2:∀ L k st,M9 (model C.prog C.w) (Na (genv L) ex0 ex1 y1 p1 y2 p2 pw tp kk) (L9 (genv L) ex1 y2 p2 tp kk) st->C.G L (k+1) st
 loc:∀ L,(genv L).locals=L
 co:∀ L,(genv L).scope.isCoroutine=false
 ia:∀ L,interactive (genv L)=false
 D0:∀ L,AQ C d (genv L) ["self"] ex0 e0
 D1:∀ L,AQ C d (genv L) ["self"] ex1 e1
theorem EL.Na(hF:F=.func b env)(a:EL C (d+1) A):EL C d (A.over F []):=by
 subst hF
 (refine Hv (a) λa1 a2 a3 a4=>?_;clear a)
 refine⟨a1,?_,?_,a4.push (es:=[env]) rfl (Nat.le_refl _)⟩
 . show A.depth+0+1+d<_;omega
 . show A.units+0+_+8*d<_
   show A.units+0+3+8*d<_;omega
theorem EL.L9{b':List Stmt}{t:Expr}(hF:F=.func b env)(UK:fD F fs)(a:EL C (d+1) A):EL C d (A.over (.whileLoop t b' [] env) fs):=by
 subst hF
 (refine Qt (UK) λk l p g7=>?_;clear UK;subst g7)
 (refine Hv (a) λa1 a2 a3 a4=>?_;clear a)
 refine⟨a1,?_,?_,a4.push (es:=[env]) rfl (Nat.le_refl _)⟩
 . show A.depth+1+0+d<_;omega
 . show A.units+3+0+8*d<_;omega
noncomputable def Ml(C:Cfg)(ρ:D7)(σ':St)(s:Shared)(n:Nat)(v:Int)(e:End)(s':Shared):Prop :=
 e.quiet=true/\∃ t Ar,e.result=.yielded (.int v t)/\Rel C Ar σ' (s'.setGen n e.genState)/\Step C [] ρ Ar s.heap s'.heap
theorem de(R:Rel C ρ σ s)(e:ρ[l]?=some (a,L))(qJ:L≠a)(ht:¬ C.isTab L):¬ Ds C (ρ.set l (a,a)) L:=by
 have Nc:=(List.getElem?_eq_some_iff.mp e).1
 rintro(t|⟨p,hp,z⟩)
 . exact ht t
 . obtain⟨i,hi,rfl⟩:=List.mem_iff_getElem.mp hp
   rw[List.length_set] at hi
   rw[List.getElem_set] at z
   by_cases Yj:l=i
   . rw[if_pos Yj] at z
     rcases z with z|z<;>exact qJ z.symm
   . rw[if_neg Yj] at z
     have hd:=List.pairwise_iff_getElem.mp R.dis
     have II:ρ[l]=(a,L):=(List.getElem?_eq_some_iff.mp e).2
     rcases Nat.lt_or_gt_of_ne Yj with c|c
     . have:=hd l i Nc hi c
       rw[II] at this
       rcases z with z|z
       . exact this.2.2.1 z.symm
       . exact this.2.2.2 z.symm
     . have:=hd i l hi Nc c
       rw[II] at this
       rcases z with z|z
       . exact this.2.1 z
       . exact this.2.2.2 z
theorem OH(R:Rel C ρ σ s){n:Nat}{nm:Value}(e:ρ[l]?=some (a,L))(e':σ[l]?=some (.gen m k))(hn:s.heap.get? a=some (Ce n nm qn))(hL:D8 ρ s.heap L m)(lY:env.locals=L){ex:Expr}(D:AQ C d env ["self"] ex f){v:Int}(hf:∀ n,f [some (.loc m)] (σ.set l (.out n))=some (.int v,σ.set l (.out n)))(hA:EL C d A){T:GenState->Prop}(hT:∀ st,T st->C.G L (k+1) st) :
 wpAny (model C.prog C.w) A (eval ex env) (λv' s'=>∀ ee:End,ee.quiet=true->ee.result=.yielded v'->T ee.genState->Ml C ρ (σ.set l (.gen m (k+1))) s n v ee s') (λuu uu=>False) (s.setGen n .running):=by
 have Nc:=(List.getElem?_eq_some_iff.mp e).1
 have iC:=(List.getElem?_eq_some_iff.mp e').1
 (refine Dt (hL.self) λmm q qK hq CV=>?_)
 have vk:∀ o',s.heap.get? L=some o'->∀ n nm qn,o'≠Ce n nm qn:=by
  (refine G7 (qK) λo es ep ho hd uu=>?_;clear qK)
  intro o' e1 n nm qn z
  rw[ho] at e1;cases e1;subst z;cases hd
 have qJ:L≠a:=λz=>vk _ (z▸hn) _ _ _ rfl
 have j2:N4 C s.heap ρ (ρ.set l (a,a)):=N4.set e rfl λx o hx hc uu z=>by
  subst z
  rw[hn] at hx;cases hx
  (refine ID (hc) λuu uu hc=>?_);cases hc
 have R':Rel C (ρ.set l (a,a)) (σ.set l (.out n)) (s.setGen n .running) :=
  R.swap e e' rfl hn rfl rfl rfl (λuu uu z=>by cases z) (λuu z=>by cases z;exact⟨rfl,rfl⟩) j2 (.inl rfl) (R.lo _ (List.mem_of_getElem? e)).1 (.out hn)
 have vm:¬ Ds C (ρ.set l (a,a)) L:=de R e qJ (R.objNotTab e e' (.inr rfl))
 have lr:Cx C (ρ.set l (a,a)) s.heap env.locals ["self"] [some (.loc m)]:=by
  rw[lY]
  (refine Am (j2.fst _ _ hq) λq' Xf qL=>?_)
  refine⟨⟨mm,qK,λi x ei=>?_⟩,vm,(R.lo _ (List.mem_of_getElem? e)).2,rfl⟩
  cases i with
  |zero=>cases ei;exact(B6 _ _ ⟨rfl,CV,by rw[<- qL];exact .loc Xf⟩)
  |succ i=>cases ei
 refine D _ _ _ _ (hf n) A _ _ _ _ hA R' lr λv' s' Ar An Aj AA=>λee h1 h2 h3=>?_
 refine CJ (AA.int_inv) λt ev=>Am Aj.grow λδ tq Me=>?_
 have qM:Ar[l]?=some (a,a):=by
  rw[tq,List.getElem?_append_left (by rw[List.length_set];exact Nc),List.getElem?_set,if_pos rfl,if_pos Nc]
 have bk:(σ.set l (.out n))[l]?=some (.out n):=by rw[List.getElem?_set,if_pos rfl,if_pos iC]
 (refine Es (An.gens.outs l _ n qM bk) λbz jN Xe uu=>?_)
 have qN:=lr.go Aj
 rw[lY] at qN
 have qO:=qN.2.1
 refine Am qN.1 λvn iD QO=>Dt (QO 0 _ rfl) λx0 v0 tr qP vp=>?_
 (refine c1 tr λG9=>?_;clear tr;subst G9)
 (refine Am (vp.loc_inv) λpm em FP=>?_;subst FP)
 have iE:N4 C s'.heap Ar (Ar.set l (a,L)):=N4.set qM rfl λx o hx hc uu z=>by
  subst z
  (refine G7 (iD) λo' es ep ho hd uu=>?_;clear iD)
  rw[hx] at ho;cases ho
  (refine ID (hc) λuu uu hc=>?_)
  rw[hd] at hc;cases hc
 refine⟨h1,B6 t (Ar.set l (a,L)) ⟨h2.trans (congrArg _ ev),?_,?_⟩⟩
 . have:=An.swap (o':=.gen m (k+1)) (p':=(a,L)) (st:=ee.genState) qM bk rfl Xe rfl rfl (End.bare_of_quiet h1) (λm' k' z=>by cases z;exact hT _ h3) (λuu z=>by cases z) iE (.inr qO) (R.lo _ (List.mem_of_getElem? e)).2
    (.gen Xe ⟨(B6 vn _ ⟨iD,(iE.fst _ _ em).choose_spec.1,by rw[(iE.fst _ _ em).choose_spec.2];exact qP⟩)⟩)
   rw[List.set_set] at this
   exact this
 . refine⟨Aj.size,λb o hb hm w=>Aj.keep b o hb (λmu=>hm ?_) w,δ,?_,Me⟩
   . rcases mu with t|⟨p,hp,z⟩
     . exact .inl t
     . rcases List.mem_or_eq_of_mem_set hp with hp|rfl
       . exact .inr ⟨p,hp,z⟩
       . exact .inr ⟨_,List.mem_of_getElem? e,.inl (by rcases z with z|z<;>exact z)⟩
   . rw[tq,List.set_append_left _ _ (by rw[List.length_set];exact Nc),List.set_set]
     congr 1
     have II:ρ[l]=(a,L):=(List.getElem?_eq_some_iff.mp e).2
     rw[<- II]
     exact List.set_getElem_self Nc
set_option tactic.hygienic true
theorem Zj(H:Zi C d genv ex0 ex1 y1 p1 y2 p2 pw tp kk e0 e1)(KP:C.s₁.heap.NoLimit)(hst:¬ C.isTab cStatics):Bp C (d+3) (.builtin "next") (En e0 e1):=by
 intro xs σ x σ' hf A Q E s ρ vs hA R q k
 refine oB hf λy e0 hf=>oB hf λl el hf=>oB hf λg hl hf=>oM hf λv hv e=>?_
 have k:=Hz k e
 have hv:=Th hv
 have hl:=Wd hl
 rcases g with ⟨m,k'⟩
 dsimp only at hv hl k
 clear hf e
 revert k
 refine q.arg1_e e0 λw qw=>?_
 have qw:=AV.loc_inv el▸qw
 refine qw.loc_e λp ep k=>Sk (R.gens.live l p m k' ep hl) λn nm qn st hn MO hG=>?_
 rcases p with ⟨a,L⟩
 have hL:D8 ρ s.heap L m:=Gf (R.st l _ _ ep hl) λuu uu uu uu hL=>hL
 ·
  ·
   have hg:s.heap.IsGen a n:=(EY _ nm qn ⟨hn,rfl,rfl,rfl⟩)
   have kQ:EL C (d+1) A.in1.in1:=hA.in1.in1
   have room:A.in1.in1.depth<recursionLimit:=by have:=kQ.2.1;omega
   have fG:s.heap.NoLimit:=Am KP λmc b c=>⟨mc,b.at λo e=>R.old _ _ e hst,c⟩
   refine Calls.call_function_entry Wc Tf entry_next (Tg _) ?_
   unfold Builtin.«next»
   refine wpAny_bind (m:=someArgs "next" 1 2 _) (wpAny_of_eq (a:=[.ref a]) rfl ?_)
   refine wpAny_bind (wpAny_specialOf hg.typeIs slot_gen_next.lookup ?_)
   refine wpAny_bind (m:=callSpecial? (.ref a) (Str.ofString "__next__")) (wpAny_callSpecial?_slot (name:=Str.ofString "__next__") hg.typeIs slot_gen_next (wpAny_call_entry slot_gen_next hg.typeIs entry_gen_next ?_ (args_gen_next _)))
   show wpAny _ A.in1.in1 (Builtin.Generator.genWake (.ref a) (.send .none)) _ _ s
   unfold Builtin.Generator.genWake
   refine wpAny_bind (wpAny_holding (wpAny_genNumber hg (wpAny_bind (wpAny_genState MO ?_))))
   have fin:∀ (e:End) (s₁:Shared),Ml C ρ (σ.set l (.gen m (k'+1))) s n v e s₁->∃ t,e.quiet=true/\e.result=.yielded (.int v t)/\Q (.int v t) (s₁.setGen n e.genState):=by
    rintro e s₁ ⟨h1,t,Ar,h2,h3,h4⟩
    exact⟨t,h1,h2,k _ _ _ h3 h4 (.int _ _)⟩
   cases k' with
   |zero =>
    obtain rfl:=H.G0 _ _ hG
    refine wpAny_bind (wpAny_roomToWake fG room ?_)
    show wpAny _ _ (.resume n (.send .none) [] _) _ _ s
    refine Nb (Φ:=Ml C ρ (σ.set l (.gen m 1)) s n v) MO (Wa (H.co L) (H.ia L) (OH R ep hl hn hL (H.loc L) (H.D0 L) hv (EL.Na rfl kQ) (H.G2 L 0))) λe s₁ h=>?_
    (refine Ci (fin e s₁ h) λt h1 h2 h3=>?_)
    refine⟨h1,?_⟩
    rw[h2]
    exact wpAny_pure ⟨_,rfl,wpAny_pure ⟨_,rfl,h3⟩⟩
   |succ k' =>
    (refine oY (H.G1 _ _ _ hG) λkk' ll c pp fs lj hW=>?_;subst lj)
    refine wpAny_bind (wpAny_roomToWake fG room ?_)
    show wpAny _ _ (.resume n (.send .none) [] _) _ _ s
    refine Nb (Φ:=Ml C ρ (σ.set l (.gen m (k'+1+1))) s n v) MO (hW _ _ _ λj1 UK=>Zf (H.co L) (H.ia L) UK (OH R ep hl hn hL (H.loc L) (H.D1 L) hv (EL.L9 rfl UK kQ) (H.G2 L (k'+1)))) λe s₁ h=>?_
    (refine Ci (fin e s₁ h) λt h1 h2 h3=>?_)
    refine⟨h1,?_⟩
    rw[h2]
    exact wpAny_pure ⟨_,rfl,wpAny_pure ⟨_,rfl,h3⟩⟩
noncomputable def Eo:EM:=AN .Sub (Bk 0 (nE 0)) (Av (BW AD) [Bn])
noncomputable def Ep:EM:=AN .Sub (Bk 0 (nE 0)) (Bk 2 (nE 0))
noncomputable def fH(l:Nat):St->Nat->Option (Option AV):=λσ i=>(Cj σ l).map λa=>(a.2.map AK)[i]?
set_option tactic.hygienic false
theorem UM(R:Rel C ρ σ s){r:Option AV}(q:VR C ρ s.heap (.loc l) (.ref a))(h:fH l σ i=some r):∃ xs vs,Ha s.heap a (List.toArray vs)/\Bx C ρ s.heap xs vs/\xs[i]?=r:=by
 refine oM h λac hl e=>?_
 refine q.loc_e (P:=λv=>v=.ref a->_) (λp ep ea=>?_) rfl
 refine R.acc_at (a:=p.1) (d:=p.2) ep (B8 hl) λes n n' vs ho hd he hs=>?_
 rw[Value.ref.inj ea] at ho
 exact(B6 _ vs ⟨(B6 _ _ ⟨ho,rfl⟩),hs,e⟩)
theorem iF(lo:C.s₁.heap.objs.size<=I)(ne:env.locals≠I):Fv C env I (fH l) (λi ρ h=>h.IsListIter I a i/\VR C ρ h (.loc l) (.ref a)) where
 lo:=lo
 ne:=ne
 kind _ _ _ hI:=Df hI.1
 keep i ρ Ar h h' hI hm hW S:=⟨hI.1.at λo e=>S.keep _ _ e hm (by simpa using Ne.symm ne),hI.2.step S hW⟩
 item A i σ ρ s x Q E' hh R hI hx k:=by
  (refine Dt (UM R hI.2 hx) λxs vs ho hs cN=>?_)
  (refine Am (hs.get cN) λv hv qv=>?_)
  (refine Ci (Df hI.1) λo p9 KN uu=>?_)
  refine next_item hI.1 ho (x:=v) (by simpa using hv) λh' L5 Ln=>?_
  refine k v h' s.toks qv ⟨L5,?_⟩ λb o hb e=>(Ln.2 b hb).trans e
  refine hI.2.step (ET Ln) ?_
  intro b o' CL n' hb e
  cases List.mem_singleton.mp hb
  rw[p9] at e;cases e
  exact KN CL n'
 done A i σ ρ s Q E' hh R hI hx k:=by
  (refine Dt (UM R hI.2 hx) λxs vs ho hs cN=>?_)
  have hn:vs.toArray[i]?=none:=by
   rw[List.getElem?_eq_none_iff] at cN
   simp
   rw[hs.length];exact cN
  refine next_end hh hI.1 ho hn λh' he=>?_
  exact k h' s.toks λb o hb e=>he b o hb e
noncomputable def Zk:FM:=λxs σ=>(JG xs).bind λp=>p.1.int?.bind λa=>p.2.int?.map λb=>(.int (if b > a then b else a),σ)
theorem df:Bp C d (.builtin "max") Zk:=by
 intro xs σ x σ' hf A Q E s ρ vs hA R q k
 refine oB hf λp e0 hf=>oB hf λa ea hf=>oM hf λb eb e=>?_
 have k:=Hz k e
 revert k
 refine q.arg2_e e0 λv w q1 q2 k=>q1.int_of ea λt=>q2.int_of eb λu=>?_
 refine AX (max_two_ints hA.1 λh' tk kp=>λz=>?_)
 have R':Rel C ρ σ { s with heap:=h',toks:=tk }:=R.same kp z R.gens rfl rfl
 by_cases c:b > a
 . rw[if_pos c] at k ⊢
   exact k _ _ ρ R' (.same kp z) (.int _ _)
 . rw[if_neg c] at k ⊢
   exact k _ _ ρ R' (.same kp z) (.int _ _)
theorem lZ:BC C d (.builtin "max") Zk:=⟨df⟩
set_option tactic.hygienic true
theorem iG(H:Zi C d genv ex0 ex1 y1 p1 y2 p2 pw tp kk e0 e1)(KP:C.s₁.heap.NoLimit)(hst:¬ C.isTab cStatics):BC C (d+3) (.builtin "next") (En e0 e1):=⟨Zj H KP hst⟩
set_option tactic.hygienic false
theorem We{f:Addr}(H:qH C f body fd)(KP:C.s₁.heap.NoLimit)(hst:¬ C.isTab cStatics)(hG:∀ L,C.G L 0 (.fresh (.func body (Hx fd f L)))):BF C (d+1) f DY:=⟨Ru H KP hst hG⟩
noncomputable def Rw(scope:Scope):Bool :=
 !scope.isCoroutine&&scope.isGenerator&&(scope.kind==.function)&&scope.names.all (λx=>!(x.2==.cell))&&(scope.names.lookup ("self" : Str)==some .local)
structure HV (C:Cfg) (f:Addr):Prop where
 fn:KZ C.K f=true
 glob:(Bw C.K f).globals=mainGlobals
 blt:(Bw C.K f).builtins=builtinsNs
 code:codeIn C.K (Bw C.K f).code (Bw C.K f).qualname=true
 scope:Rw (Bw C.K f).scope=true
 bind:∀ v:Value,bindArgs (Bw C.K f) ⟨[v],[]⟩=(pure [(("self" : Str),v)]:Sem (List (Str×Value)))
noncomputable def iH(body:List Stmt)(env:Env):Code:=match body with
 | [_,.While t b o _]=>.whileLoop t b o env
 | _=>.func [] env
noncomputable def iI(M:Model)(body:List Stmt)(env:Addr->Env)(L:Addr)(k:Nat)(st:GenState):Prop :=
 (k=0/\st=.fresh (.func body (env L)))\/(0<k/\M9 M (.func body (env L)) (iH body (env L)) st)
section
variable{f:Addr}
theorem HV.sc(F:HV C f):(Bw C.K f).scope.isCoroutine=false/\(Bw C.K f).scope.isGenerator=true/\(Bw C.K f).scope.kind=.function/\(∀ x∈(Bw C.K f).scope.names,x.2≠.cell)/\(Bw C.K f).scope.names.lookup ("self" : Str)=some .local:=by
 have h:=F.scope
 unfold Rw at h
 simp only[Bool.and_eq_true,Bool.not_eq_true',List.all_eq_true,beq_iff_eq] at h
 obtain⟨⟨⟨⟨h1,h2⟩,h3⟩,h4⟩,h5⟩:=h
 exact⟨h1,h2,h3,λx hx e=>by have:=h4 x hx;rw[e] at this;simp at this,h5⟩
theorem HV.ok(H:Aq C)(F:HV C f):qH C f (Cf C.K f) (Bw C.K f):=by
 refine Ci (GS F.fn) λo e hd ig=>AS (Il H.kin F.code) λcr z=>Es z λc oc ec hc=>br F.sc λa1 a2 a3 a4 a5=>?_
 exact⟨⟨o,H.kin _ _ e,hd⟩,ig,F.glob,F.blt,F.bind,H.knt _ _ e,cr,λc' g9=>Value.ref.inj (ec.symm.trans g9)▸H.knt _ _ hc,a1,a2,a3,a4,a5⟩
theorem HV.inter(F:HV C f)(L:Addr):interactive (Ba C f L)=false:=by
 have h:(Ba C f L).scope.kind=.function:=F.sc.2.2.1
 unfold interactive
 rw[h];rfl
theorem HV.envB(F:HV C f)(L:Addr):Cd (Ba C f L) ["self"] :=
 ⟨⟨F.sc.2.2.1,λx hx=>by cases List.mem_singleton.mp hx;exact F.sc.2.2.2.2,List.pairwise_singleton _ _,rfl,rfl⟩,λx hx=>by cases List.mem_singleton.mp hx;decide +kernel,F.inter L⟩
theorem l0(H:Aq C)(F:HV C f)(hG:C.G=iI (model C.prog C.w) (Cf C.K f) (Ba C f)):BF C (d+1) f DY :=
 We (F.ok H) H.lim H.stat λL=>by rw[hG];exact .inl ⟨rfl,rfl⟩
set_option tactic.hygienic true
theorem dg(H:Aq C)(F:HV C f)(hG:C.G=iI (model C.prog C.w) (Cf C.K f) (Ba C f))(hb:Cf C.K f=[M8 ex0 y1 p1,.While (.Constant (.bool true) kk tp) [M8 ex1 y2 p2] [] pw])(D0:∀ L,Cd (Ba C f L) ["self"]->BE C d (Ba C f L) ["self"] ex0 e0)(D1:∀ L,Cd (Ba C f L) ["self"]->BE C d (Ba C f L) ["self"] ex1 e1):BC C (d+3) (.builtin "next") (En e0 e1):=by
 rw[hb] at hG
 refine iG (genv:=Ba C f) (ex0:=ex0) (ex1:=ex1) (y1:=y1) (p1:=p1) (y2:=y2) (p2:=p2) (pw:=pw) (tp:=tp) (kk:=kk) ⟨λL st h=>?_,λL k st h=>?_,λL k st h=>?_,λL=>rfl,λL=>F.sc.1,F.inter,λL=>(D0 L (F.envB L)).run,λL=>(D1 L (F.envB L)).run⟩ H.lim H.stat
 . rw[hG] at h
   rcases h with ⟨_,h⟩|⟨h,_⟩
   . exact h
   . exact absurd h (Nat.lt_irrefl _)
 . rw[hG] at h
   rcases h with ⟨h,_⟩|⟨_,h⟩
   . cases h
   . exact h
 . rw[hG]
   exact .inr ⟨Nat.succ_pos _,h⟩
end
noncomputable def AO.cell?:AO->Option (Addr×Option AV)
 | .cell c x=>some (c,x)
 | .list _=>none
 | .fmt ..=>none
 | .acc ..=>none
 | .ghost=>none
 | .gen ..=>none
 | .out _=>none
 | .ext ..=>none
noncomputable def J9(σ:St)(l:Nat):Option (Addr×Option AV):=σ[l]?.bind AO.cell?
theorem Ip{g:Addr×Option AV}(h:J9 σ l=some g):σ[l]?=some (.cell g.1 g.2):=oB h λo e h=>by
 cases o with
 |cell m k=>exact e.trans (congrArg (λg:Addr×Option AV=>some (AO.cell g.1 g.2)) (Option.some.inj h))
 | _=>exact ns h
theorem HW{x:Option AV}(h:σ[l]?=some (.cell c x)):J9 σ l=some (c,x):=by unfold J9;rw[h];rfl
noncomputable def BA(c:Addr)(l:Nat):EM:=λ_ σ=>(J9 σ l).bind λa=>a.2.bind λx=>gd (a.1==c) (x,σ)
noncomputable def iJ(c:Addr)(l:Nat)(x:AV)(σ:St):Option St:=(J9 σ l).bind λa=>gd (a.1==c) (σ.set l (.cell c (some x)))
noncomputable def dh(c:Addr)(l:Nat)(f:EM):SM:=λlc σ=>(f lc σ).bind λp=>(iJ c l p.1 p.2).map (.next,lc,·)
theorem Zl(He:Bi env Aa)(hk:env.kindOf n=some .cell)(hc:env.cells.lookup n=some c)(hd:(n==("__debug__" : Str))=false):AQ C d env Aa (.Name n p) (BA c l):=by
 intro lc σ x σ' hf A Q E s ρ hA R lr kk
 refine oB hf λg hl hf=>oB hf λy ey hf=>oG hf λec e=>?_
 have hl:=Ip hl
 rw[ey,(beq_iff_eq.mp ec:g.1=c)] at hl
 exact Am (R.obj hl) λp' e1 ob=>AS ob λuu z=>Am z λv ho q=>wpAny_Name (wpAny_loadName_cell He.kind hk hc ho (Hz kk e _ s ρ R .refl q)) hd
theorem Nd(He:Bi env Aa)(hk:env.kindOf n=some .cell)(hc:env.cells.lookup n=some c){x:AV}(hx:iJ c l x σ=some σ'){Q:Unit->Shared->Prop}(R:Rel C ρ σ s)(q:VR C ρ s.heap x v)(k:∀ s',Rel C ρ σ' s'->Step C [] ρ ρ s.heap s'.heap->Q () s'):wpAny (model C.prog C.w) A (storeName env n v) Q E s:=by
 refine oB hx λg hl hx=>oG hx λec e=>?_
 have hl:=Ip hl
 rw[(beq_iff_eq.mp ec:g.1=c)] at hl
 refine Am (R.obj hl) λp' e1 ob=>AS ob λep z=>?_
 rw[ep] at e1
 have go:∀ l4,s.heap.IsCell c l4->wpAny (model C.prog C.w) A (storeName env n v) Q E s:=λl4 ho=>wpAny_storeName_cell He.kind hk hc ho λh' hh hs=>by
  have S:Step C [] ρ ρ s.heap h':=Dk (.inr ⟨_,List.mem_of_getElem? e1,.inl rfl⟩) hs
  have U:=R.upd (n:=s.toks) e1 (.inl rfl) hs (.cell hh (q.go S)) rfl
  exact k _ (e▸U.1) U.2
 rcases g with ⟨c',_|y⟩
 . exact go _ z
 . exact Am z λv ho uu=>go _ ho
set_option tactic.hygienic true
theorem Zm(He:Bi env Aa)(hk:env.kindOf n=some .cell)(hc:env.cells.lookup n=some c)(D:AQ C d env Aa e f)(hs:swapsWith e (some (.Name n p')) p.line env=pure false):E4 C d env Aa (.Assign [.Name n p'] e p) (dh c l f):=by
 intro lc σ fl lc' σ' hf A Q E s ρ hA R lr kk
 refine oB hf λp e1 hf=>oM hf λσ₂ hp e2=>?_
 refine wpAny_Assign_Name (D _ _ _ _ e1 A _ E s ρ hA R lr λv s₁ Ad An Aj AA=>Nd He hk hc hp An AA λAi Az Au=>?_) hs
 exact Pj kk e2 _ Ai Ad Az (Aj.trans Au).of_nil (lr.go (Aj.trans Au)) .next
noncomputable def Jq(L k:Nat):St:=(List.range k).map λj=>.cell (L+1+j) none
noncomputable def Wf(L k:Nat):D7:=(List.range k).map λj=>(L+1+j,L+1+j)
set_option tactic.hygienic false
theorem Wg(R:Rel C [] [] s)(kp:∀ b o,s.heap.get? b=some o->h.get? b=some o)(z:s.heap.objs.size<=h.objs.size)(hc:∀ j,j<k->h.IsCell (s.heap.objs.size+1+j) none):Rel C (Wf s.heap.objs.size k) (Jq s.heap.objs.size k) { s with heap:=h,toks:=tk }:=by
 have at_:∀ (l:Nat) (p:Addr×Addr),(Wf s.heap.objs.size k)[l]?=some p->l<k/\p=(s.heap.objs.size+1+l,s.heap.objs.size+1+l):=by
  intro l p e
  unfold Wf at e
  rw[List.getElem?_map] at e
  (refine Am (Option.map_eq_some_iff.mp e) λj e1 FP=>?_;subst FP)
  obtain⟨h1,h2⟩:=List.getElem?_eq_some_iff.mp e1
  rw[List.length_range] at h1
  rw[List.getElem_range] at h2
  subst h2
  exact⟨h1,rfl⟩
 have oi:∀ (l:Nat) (o:AO),(Jq s.heap.objs.size k)[l]?=some o->o=.cell (s.heap.objs.size+1+l) none:=by
  intro l o e
  unfold Jq at e
  rw[List.getElem?_map] at e
  (refine Am (Option.map_eq_some_iff.mp e) λj e1 FP=>?_;subst FP)
  obtain⟨h1,h2⟩:=List.getElem?_eq_some_iff.mp e1
  rw[List.getElem_range] at h2
  subst h2;rfl
 have sz:=R.size
 refine⟨λb o e n=>kp b o (R.old b o e n),λt ht=>Am (R.tab t ht) λm a b=>⟨m,a.keeps kp,b.keeps kp⟩,λp hp=>?_,?_,by simp[Wf,Jq],λl p o e e'=>?_,?_,R.drawn,R.os,Nat.le_trans R.size z⟩
 . (refine Am (List.mem_map.mp hp) λj uu FP=>?_;subst FP)
   exact⟨by dsimp only;right,by dsimp only;omega⟩
 . unfold Wf
   rw[List.pairwise_map]
   refine List.Pairwise.imp ?_ List.pairwise_lt_range
   intro i j XH
   have ne:s.heap.objs.size+1+i≠s.heap.objs.size+1+j:=by omega
   exact⟨ne,ne,ne,ne⟩
 . (refine AS (at_ l p e) λh1 IF=>?_;subst IF)
   obtain rfl:=oi l o e'
   exact .cell0 (hc l h1)
 . have g:=R.gens
   exact⟨g.bare,λl p m k e e'=>(by cases oi _ _ e'),λl p n e e'=>(by cases oi _ _ e'),λl l' p p' o o' n nm qn bz jN e1 e2 e3 g3=>(by cases oi _ _ e3;cases g3)⟩
theorem Ti(hk:env.kindOf n=some .cell)(e:Expr)(p:Pos)(l:Nat):swapsWith e (some (.Name n p)) l env=pure false:=by
 have h:(env.kindOf n==some NameKind.local)=false:=by rw[hk];rfl
 cases e<;>first
  |rfl
  |(unfold swapsWith;dsimp only;rw[h,Bool.and_false,Bool.false_and,Bool.false_and])
theorem EV(He:Cd env Aa)(hk:env.kindOf n=some .cell)(hc:env.cells.lookup n=some c)(hd:(n==("__debug__" : Str))=false):BE C d env Aa (.Name n p) (BA c l):=⟨Zl He.ok hk hc hd⟩
theorem iK(He:Cd env Aa)(hk:env.kindOf n=some .cell)(hc:env.cells.lookup n=some c)(D:BE C d env Aa e f):BS C d env Aa (.Assign [.Name n p'] e p) (dh c l f):=⟨Zm He.ok hk hc D.run (Ti hk e p' p.line)⟩
section
variable{px:Pos}{fs:List EM}
end
theorem Ka{k:Option NameKind}(hc:B7.scope=relabel scope env)(h:(relabel scope env).names.lookup n=k):B7.kindOf n=k:=by
 unfold Env.kindOf
 rw[hc];exact h
theorem cell_in{o:Option Addr}(hc:B7.cells=cl)(h:cl.lookup n=o):B7.cells.lookup n=o:=hc▸h
noncomputable def Kb(scope:Scope)(Aa cv:List Str):Bool :=
 !scope.isCoroutine&&!scope.isGenerator&&(scope.kind==.function)&&Aa.all (λx=>scope.names.lookup x==some .local)&&cv.all (λx=>scope.names.lookup x==some .cell)&&decide Aa.Nodup
structure OI (C:Cfg) (f:Addr) (x:Str) (Aa cv:List Str):Prop where
 fn:KZ C.K f=true
 glob:(Bw C.K f).globals=mainGlobals
 blt:(Bw C.K f).builtins=builtinsNs
 code:codeIn C.K (Bw C.K f).code (Bw C.K f).qualname=true
 clo:(Bw C.K f).closure=[]
 scope:Kb (Bw C.K f).scope (x::Aa) cv=true
 cells:∀ L j,j<cv.length->∃ y,(cellsFrom (L+1) (Bw C.K f).scope.names []).lookup y=some (L+1+j)
 bind:∀ v:Value,bindArgs (Bw C.K f) ⟨[v],[]⟩=(pure [(x,v)]:Sem (List (Str×Value)))
noncomputable abbrev Dw(C:Cfg)(f L:Addr):Env:=callEnvC (Bw C.K f) L f
section
variable{f:Addr}
theorem OI.sc(F:OI C f x Aa cv):(Bw C.K f).scope.isCoroutine=false/\(Bw C.K f).scope.isGenerator=false/\(Bw C.K f).scope.kind=.function/\(∀ y∈x::Aa,(Bw C.K f).scope.names.lookup y=some .local)/\(x::Aa).Nodup:=by
 have h:=F.scope
 unfold Kb at h
 simp only[Bool.and_eq_true,Bool.not_eq_true',List.all_eq_true,beq_iff_eq,decide_eq_true_eq] at h
 obtain⟨⟨⟨⟨⟨h1,h2⟩,h3⟩,h4⟩,_⟩,h6⟩:=h
 exact⟨h1,h2,h3,h4,h6⟩
theorem OI.envB(F:OI C f x Aa cv)(nd:(x::Aa).all (λy=>!(y==("__debug__" : Str)))=true)(L:Addr):Cd (Dw C f L) (x::Aa):=by
 refine br F.sc λh1 h2 h3 h4 h6=>⟨⟨h3,h4,h6,F.glob,F.blt⟩,λy hy=>?_,?_⟩
 . have:=List.all_eq_true.mp nd y hy
   simpa using this
 . show((Bw C.K f).scope.kind==.module&&_)=false
   rw[h3];rfl
end
noncomputable def putN:List Nat->List AV->Lc->Option Lc
 | [],[],lc=>some lc
 | [],_::_,_=>none
 | _::_,[],_=>none
 |i::is,x::xs,lc=>(putL lc i x).bind (putN is xs)
variable{F:Nat->Option (AV×St)}{P:Result->Shared->Prop}{cs:List AV}{fs:List EM}{ifs:List Expr}{is:List Nat}{kindOf:Str->Option NameKind}{l:Addr}{r:AV×St}{st:Lc->AV->Option Lc}{t:TM}{tn:(St->Nat->Option (Option AV))->St->Nat->Option (Option AV)}{xs:List Str}{τ:St}
inductive Xi:List Expr->List Str->Prop
 |nil:Xi [] []
 |cons {n:Str} {p:Pos} {es:List Expr} {ns:List Str} (h:Xi es ns):Xi (.Name n p::es) (n::ns)
noncomputable def itemsOf(σ:St)(x:AV):Option (List AV):=x.tup?.or (Bq σ x)
theorem Xi.len{ns:List Str}(T:Xi es ns):(assignEach es env).length=ns.length/\(assignEach es env).findIdx? (·.1)=none:=by
 induction T with
 |nil=>exact⟨rfl,rfl⟩
 |cons h ih =>
  refine⟨congrArg (·+1) ih.1,?_⟩
  show List.findIdx? (·.1) ((false,_)::assignEach _ env)=none
  rw[List.findIdx?_cons,if_neg Bool.false_ne_true,ih.2]
  rfl
theorem Tj(He:Bi env Aa){ns:List Str}(T:Xi es ns):∀ {is:List Nat} {xs:List AV} {vs:List Value} {lc:Lc} {s:Shared} {Q:Unit->Shared->Prop},is.map (Aa[·]?)=ns.map some->putN is xs lc=some lc'->Rel C ρ σ s->Cx C ρ s.heap env.locals Aa lc ->
 Bx C ρ s.heap xs vs->(∀ s',Rel C ρ σ s'->Step C [env.locals] ρ ρ s.heap s'.heap->Cx C ρ s'.heap env.locals Aa lc'->Q () s')->wpAny (model C.prog C.w) A (assignInOrder ((assignEach es env).map (·.2)) vs) Q E s:=by
 induction T with
 |nil =>
  intro is xs vs lc s Q hi hp R lr q k
  cases is with
  |cons=>exact nomatch hi
  |nil=>cases xs with
   |cons=>exact nomatch hp
   |nil=>exact wpAny_pure (k s R .refl (Option.some.inj hp▸lr))
 |cons h ih =>
  intro is xs vs lc s Q hi hp R lr q k
  cases is with
  |nil=>exact nomatch hi
  |cons i is=>cases xs with
   |nil=>exact nomatch hp
   |cons x xs =>
    refine oB hp λlc₁ h1 h2=>q.cons_e λv ws qv qs=>?_
    have hi:=List.cons.inj hi
    refine wpAny_bind (wpAny_holding (wpAny_assign_Name (Ea He hi.1 h1 R lr qv λs₁ An Aj Ew=>?_)))
    exact ih hi.2 h2 An Ew (qs.step Aj (CA lr.1.choose_spec.1)) λAi Az Au Cu=>k Ai Az (Aj.trans Au) Cu
theorem Rx(He:Bi env Aa){ns:List Str}(T:Xi es ns){x:AV}{xs:List AV}{Q:Unit->Shared->Prop}(hi:is.map (Aa[·]?)=ns.map some)(hx:itemsOf σ x=some xs)(hp:putN is xs lc=some lc')(hh:A.handled=none)(R:Rel C ρ σ s)(lr:Cx C ρ s.heap env.locals Aa lc)(q:VR C ρ s.heap x v)(k:∀ s',Rel C ρ σ s'->Step C [env.locals] ρ ρ s.heap s'.heap->Cx C ρ s'.heap env.locals Aa lc'->Q () s') :
 wpAny (model C.prog C.w) A (assign (.Tuple es k0 pt) env v) Q E s:=by
 have len:∀ {is:List Nat} {xs:List AV} {lc:Lc},putN is xs lc=some lc'->xs.length=is.length:=by
  intro is
  induction is with
  |nil=>intro xs lc h;cases xs with
   |nil=>rfl
   |cons=>exact nomatch h
  |cons i is ih=>intro xs lc h;cases xs with
   |nil=>exact nomatch h
   |cons x xs=>exact oB h λuu uu h=>congrArg (·+1) (ih h)
 have hn:ns.length=xs.length:=by
  have:=congrArg List.length hi
  rw[List.length_map,List.length_map] at this
  rw[len hp,this]
 have fin:∀ (vs:List Value) (h':Heap),(∀ b o,s.heap.get? b=some o->h'.get? b=some o)->s.heap.objs.size<=h'.objs.size->Bx C ρ s.heap xs vs->wpAny (model C.prog C.w) A (assignInOrder ((assignEach es env).map (·.2)) vs) Q E { s with heap:=h' }:=λvs h' kp z qs=>by
  have S':Step C [] ρ ρ s.heap h':=.same kp z
  exact Tj He T hi hp (R.same kp z R.gens rfl rfl) (lr.go S') (qs.go S') λs₁ An Aj Ew=>k s₁ An (S'.of_nil.trans Aj) Ew
 rw[arm_assign_Tuple]
 refine wpAny_bind (wpAny_standAt ?_)
 unfold unpack
 rw[T.len.1,T.len.2,hn]
 refine oO hx (λhx=>q.ES hx λa vs n ho uu qs=>?_) λhx=>R.asList_e q hx λa vs n ho qs=>?_
 . rw[<- qs.length]
   refine wpAny_bind (wpAny_holding (?_:wpAny (model C.prog C.w) A (unpackItems (.ref a) vs.toArray.size none) _ E s))
   exact unpack_tuple (items:=vs.toArray) hh ⟨_,ho,rfl,_,rfl⟩ λh' kp z=>fin vs h' kp z qs
 . rw[<- qs.length]
   refine wpAny_bind (wpAny_holding (?_:wpAny (model C.prog C.w) A (unpackItems (.ref a) vs.toArray.size none) _ E s))
   exact AX (kun_itemsOf hh (IsL.isList ho) λh' he z=>fin vs h' (λb o e=>he b o (Nat.ne_of_lt (Heap.lt_size e)) e) z qs)
structure tu (C:Cfg) (nx:St->Nat->Option (Option AV)) (I:Addr) (Inv:Nat->D7->Heap->Prop) (ρ:D7) (s:Shared):Prop where
 fresh:¬ Ds C ρ I
 lt:I<s.heap.objs.size
 one:∀ env:Env,env.locals≠I->(∀ a o vs n,a∈[env.locals]->s.heap.get? a=some o->o.data≠.seq vs n)->Fv C env I nx Inv
 inv:Inv 0 ρ s.heap
 self:∀ (A:Around) (ρ:D7) (s:Shared) (P E:Value->Shared->Prop),Inv 0 ρ s.heap->P (.ref I) s->wpAny (model C.prog C.w) A (pyIter (.ref I)) P E s
 go:∀ (A:Around) (i:Nat) (ρ:D7) (s:Shared) (es:List Expr) (k0:Nat) (pt:Pos) (a:Addr) (Q:Unit->Shared->Prop) (E:Value->Shared->Prop),Inv i ρ s.heap->Q () s->wpAny (model C.prog C.w) A (letOwnedTupleGo (.Tuple es k0 pt) (.ref I) (.ref a)) Q E s
noncomputable abbrev Tn:=Lc->St->Option ((St->Nat->Option (Option AV))×St)
variable{src:Tn}
noncomputable def Jr(C:Cfg)(d:Nat)(env:Env)(Aa:List Str)(iter:Expr)(src:Tn):Prop :=
 ∀ lc σ nx σ',src lc σ=some (nx,σ')->∀ (A:Around) (P E:Value->Shared->Prop) (s:Shared) (ρ:D7),EL C d A->Rel C ρ σ s->Cx C ρ s.heap env.locals Aa lc ->
  (∀ s' Ar I Inv,tu C nx I Inv Ar s'->Rel C Ar σ' s'->Step C [] ρ Ar s.heap s'.heap->s.heap.objs.size<=I->P (.ref I) s') ->
  wpAny (model C.prog C.w) A (eval iter env) (λv s₁=>wpAny (model C.prog C.w) A (pyIter v) P E s₁) E s
noncomputable def Wh(f:EM):Tn:=λlc σ=>(f lc σ).bind λp=>(Bq p.2 p.1).map λ_=>(Qs p.1,p.2)
noncomputable def Wi(f:EM):Tn:=λlc σ=>(f lc σ).bind λp=>p.1.loc?.bind λl=>(Cj p.2 l).map λ_=>(fH l,p.2)
noncomputable def Ry(fs:List EM):Tn:=λlc σ=>(Ft fs lc σ).bind λp=>(EU p.1).bind λr=>gd (Dm r.1 r.2.1 r.2.2) (IU r.1 r.2.1 r.2.2,p.2)
theorem UN{Q:Unit->Shared->Prop}(h:s.heap.IsListIter I l i)(q:Q () s):wpAny (model C.prog C.w) A (letOwnedTupleGo (.Tuple es k0 pt) (.ref I) (.ref a)) Q E s:=by
 (refine Ci (h) λo ho hc hd=>?_;clear h)
 unfold letOwnedTupleGo
 refine wpAny_bind (wpAny_load ho ?_)
 rw[hc,hd]
 exact wpAny_pure q
theorem Zn{iter:Expr}(D:AQ C d env Aa iter f):Jr C d env Aa iter (Wh f):=by
 intro lc σ nx σ' hf A P E s ρ hA R lr k
 refine oB hf λy e1 hf=>oM hf λxs G6 e=>?_
 obtain rfl:Qs y.1=nx:=congrArg (·.1) e
 obtain rfl:y.2=σ':=congrArg (·.2) e
 refine D _ _ _ _ e1 A _ E s ρ hA R lr λv s₁ Ad An Aj AA=>?_
 refine G7 (D9 An AA G6) λa vs n ev ho hv=>?_
 rw[ev] at AA ⊢
 refine wpAny_pyIter_list (IsL.isList ho) (k _ Ad s₁.heap.objs.size (λi ρ h=>h.IsListIter s₁.heap.objs.size a i/\VR C ρ h y.1 (.ref a)) ⟨An.fresh,?_,λenv ne ns=>?_,⟨⟨_,Heap.get?_push_size _ rfl,rfl,rfl⟩,AA.go (.pushObj _)⟩,λA ρ s P E h p=>wpAny_pyIter_listiter h.1 p,λA i ρ s es k0 pt b Q E h q=>UN h.1 q⟩ (An.push _ (n:=s₁.toks)) (Aj.trans (.pushObj _)) Aj.size)
 . show _<(s₁.heap.push _).objs.size
   rw[Heap.size_push];exact Nat.lt_succ_self _
 . refine UE (a:=a) (src:=y.1) An.size ne (λz=>?_) (Nat.ne_of_lt (Heap.lt_size ho))
   exact ns a _ _ _ (List.mem_singleton.mpr z) (Heap.get?_push_of_some _ ho) rfl
theorem Zo(H:Aq C)(HC:Bg C)(HA:DV C){iter:Expr}(D:AQ C d env Aa iter f):Jr C d env Aa iter (Wi f):=by
 intro lc σ nx σ' hf A P E s ρ hA R lr k
 refine oB hf λy e1 hf=>oB hf λl el hf=>oM hf λac hl e=>?_
 obtain rfl:fH l=nx:=congrArg (·.1) e
 obtain rfl:y.2=σ':=congrArg (·.2) e
 refine D _ _ _ _ e1 A _ E s ρ hA R lr λv s₁ Ad An Aj AA=>?_
 have AA:VR C Ad s₁.heap (.loc l) v:=AV.loc_inv el▸AA
 refine An.acc_e (B8 hl) AA λa dd es n1 n2 vs e0 ho hd he Ln=>?_
 have qq:VR C Ad s₁.heap (.loc l) (.ref a):=.loc e0
 refine MN (An.kin H) (CC ho hd) HC.acMro HA.iter (k _ Ad s₁.heap.objs.size (λi ρ h=>h.IsListIter s₁.heap.objs.size a i/\VR C ρ h (.loc l) (.ref a)) ⟨An.fresh,?_,λenv ne ns=>iF An.size ne,⟨⟨_,Heap.get?_push_size _ rfl,rfl,rfl⟩,qq.go (.pushObj _)⟩,λA ρ s P E h p=>wpAny_pyIter_listiter h.1 p,λA i ρ s es k0 pt b Q E h q=>UN h.1 q⟩ (An.push _ (n:=s₁.toks)) (Aj.trans (.pushObj _)) Aj.size)
 show _<(s₁.heap.push _).objs.size
 rw[Heap.size_push];exact Nat.lt_succ_self _
theorem Zp(H:Aq C)(He:Bi env Aa)(hv:Ay C "range" (.type "range"))(hk:env.kindOf "range" = some .globalImplicit)(D:Ej C d env Aa es fs) :
 Jr C d env Aa (.Call (.Name "range" p0) es [] p1) (Ry fs):=by
 intro lc σ nx σ' hf A P E s ρ hA R lr k
 refine oB hf λy e1 hf=>oB hf λr e2 hf=>oG hf λe3 e=>?_
 rcases y with ⟨xs,σ₁⟩
 rcases r with ⟨a,b,c⟩
 dsimp only at e e2 e3
 obtain rfl:IU a b c=nx:=congrArg (·.1) e
 obtain rfl:σ₁=σ':=congrArg (·.2) e
 refine LX (Lx e3) λjX hc lq=>?_
 refine Ly H He hv hk D e1 e2 hc lq hA R lr λAd Ai r t u v Az Au hr hI=>?_
 refine wpAny_pyIter_range hr jX (k _ Ad Ai.heap.objs.size (λi uu h=>IsRangeIter h Ai.heap.objs.size (a+c*i) (Builtin.Range.rangeSize a b c-i) c) ⟨Az.fresh,?_,λenv ne ns=>Q9 Az.size ne,hI,λA ρ s P E h p=>wpAny_pyIter_rangeiter h p,λA i ρ s es k0 pt b Q E h q=>?_⟩ (Az.push _ (n:=Ai.toks)) (Au.trans (.pushObj _)) Au.size)
 . show _<(Ai.heap.push _).objs.size
   rw[Heap.size_push];exact Nat.lt_succ_self _
 . unfold letOwnedTupleGo
   refine wpAny_bind (wpAny_load h ?_)
   exact wpAny_pure q
noncomputable def UO(C:Cfg)(d:Nat)(env:Env)(Aa:List Str)(Bh:Expr)(tn:(St->Nat->Option (Option AV))->St->Nat->Option (Option AV))(st:Lc->AV->Option Lc):Prop :=
 ∀ nx I Inv ρ s,tu C nx I Inv ρ s->env.locals≠I->(∀ a o vs n,a∈[env.locals]->s.heap.get? a=some o->o.data≠.seq vs n)->KR C d env Aa I [I] Bh (tn nx) st Inv
theorem di(He:Bi env Aa)(hj:Aa[j]?=some n):UO C d env Aa (.Name n pn) id (λlc y=>putL lc j y) :=
 λnx I Inv ρ s T ne ns=>(T.one env ne ns).ok He hj
noncomputable def bo(k:Nat)(nx:St->Nat->Option (Option AV)):St->Nat->Option (Option AV):=λσ i=>(nx σ i).bind λo=>match o with
 |some x=>(itemsOf σ x).bind λxs=>gd (xs.length==k) (some (.tup xs))
 |none=>some none
noncomputable def PS(is:List Nat)(lc:Lc)(x:AV):Option Lc:=x.tup?.bind λxs=>putN is xs lc
theorem Rz{x:AV}{xs:List AV}(R:Rel C ρ σ s)(q:VR C ρ s.heap x v)(h:itemsOf σ x=some xs):∃ a,v=.ref a :=
 oO h (λe=>q.ES e λa uu uu uu uu uu=>⟨a,rfl⟩) λe=>R.asList_e q e λa uu uu uu uu=>⟨a,rfl⟩
theorem dj(He:Bi env Aa){ns:List Str}(T:Xi es ns)(hi:is.map (Aa[·]?)=ns.map some):UO C d env Aa (.Tuple es k0 pt) (bo is.length) (PS is) :=
 λnx I Inv ρ₀ dk B ne oj=>by
 have W:=B.one env ne oj
 refine⟨λi ρ Ar h h' hI hm=>W.keep i ρ Ar h h' hI (hm I List.mem_cons_self),λi ρ h hI J hJ=>Am (W.kind i ρ h hI) λo ho uu=>⟨o,by rw[List.mem_singleton.mp hJ];exact ho⟩,?_,?_⟩
 . intro A i lc lc₁ σ ρ s x Q E' hA R lr hI hm hx hst k
   replace hm:=hm I List.mem_cons_self
   refine oB hx λo qQ hx=>?_
   cases o with
   |none=>exact nomatch hx
   |some y =>
    refine oB hx λys hy hx=>oG hx λhk e=>?_
    obtain rfl:AV.tup ys=x:=Option.some.inj e
    (refine Ci (W.kind i ρ s.heap hI) λo ho KN JF=>?_)
    refine AX (W.item A i σ ρ s y _ _ hA.1 R hI qQ λv h' tk qv jW kp z=>?_)
    (refine AS (R.iter (n:=tk) ho KN JF hm W.lo kp z) λR' S'=>?_)
    have l':=lr.iter S' W.ne ho KN
    have tv:=qv.step S' (FE ho KN)
    refine⟨v,rfl,?_⟩
    refine CJ (Rz R' tv hy) λa ev=>?_
    subst ev
    refine B.go A (i+1) ρ _ es k0 pt a _ _ jW ?_
    refine Rx He T hi hy hst hA.1 R' l' tv λAi Az Au Cu=>?_
    have MX:Inv (i+1) ρ Ai.heap:=W.keep _ _ _ _ _ jW hm (CA l'.1.choose_spec.1) Au
    exact k Ai Az ((S'.weaken λa ha=>by simp at ha;simp[ha]).trans (Au.weaken λa ha=>by simp at ha;simp[ha])) Cu MX
 . intro A i lc σ ρ s Q E' hA R lr hI hm hx k
   replace hm:=hm I List.mem_cons_self
   refine oB hx λo qQ hx=>?_
   cases o with
   |some y=>exact oB hx λys hy hx=>oG hx λuu e=>sN e
   |none =>
    (refine Ci (W.kind i ρ s.heap hI) λo ho KN JF=>?_)
    refine AX (W.done A i σ ρ s _ _ hA.1 R hI qQ λh' tk kp z=>?_)
    (refine AS (R.iter (n:=tk) ho KN JF hm W.lo kp z) λR' S'=>?_)
    exact⟨rfl,k _ R' (S'.weaken λa ha=>by simp at ha;simp[ha]) (lr.iter S' W.ne ho KN)⟩
noncomputable def FV(nx:St->Nat->Option (Option AV))(st:Lc->AV->Option Lc)(t:TM)(f:EM)(g:Nat):Nat->Nat->Lc->St->Option St
 | 0,_,_,_=>none
 |n+1,i,lc,σ=>(nx σ i).bind λo=>match o with
  |some x=>(st lc x).bind λlc₁=>(t lc₁ σ).bind λb=>match b.1 with
   |true=>(f lc₁ b.2).bind λp=>(Bv [.loc g,p.1] p.2).bind λq=>FV nx st t f g n (i+1) lc₁ q.2
   |false=>FV nx st t f g n (i+1) lc₁ b.2
  |none=>some σ
noncomputable def EG(src:Tn)(k:Nat)(tn:(St->Nat->Option (Option AV))->St->Nat->Option (Option AV))(st:Lc->AV->Option Lc)(t:TM)(f:EM):EM:=λlc σ=>(src lc σ).bind λp =>
 (FV (tn p.1) st t f p.2.length 1000000 0 (List.replicate k none) (p.2++[.list []])).map (.loc p.2.length,·)
noncomputable def Nf(C:Cfg)(d:Nat)(env:Env)(Aa:List Str)(ifs:List Expr)(t:TM):Prop :=
 ∀ lc σ b σ',t lc σ=some (b,σ')->∀ (A:Around) (Q:Bool->Shared->Prop) (E:Value->Shared->Prop) (s:Shared) (ρ:D7),EL C d A->Rel C ρ σ s->Cx C ρ s.heap env.locals Aa lc->(∀ s' Ar,Rel C Ar σ' s'->Step C [] ρ Ar s.heap s'.heap->Q b s') ->
  wpAny (model C.prog C.w) A (forIn ifs true λc r=>if r=true then do let ok <- isTrue c env (eval c env);pure (ForInStep.yield ok) else pure (ForInStep.yield r)) Q E s
noncomputable def Fo:TM:=λ_ σ=>some (true,σ)
theorem Zq:Nf C d env Aa [] Fo:=λlc σ b σ' hf A Q E s ρ hA R lr k=>wpAny_tests_nil (kj k (Option.some.inj hf) s ρ R .refl)
theorem Zr{c:Expr}(D:KD C d env Aa c t):Nf C d env Aa [c] t:=λlc σ b σ' hf A Q E s ρ hA R lr k=>wpAny_tests_one (D _ _ _ _ hf A Q E s ρ hA R lr k)
set_option tactic.hygienic true
theorem Wj{iter:Expr}{it acc:Value}(I:Nat->Shared->Prop)(iL:∀ n s,I n s->wpAny (model C.prog C.w) A (pyNext it) (λr s₁=>match r with
  |none=>P (.ok .next) s₁
  |some v=>wpAny (model C.prog C.w) A (letOwnedTupleGo Bh it v) (λuu dk=>wpAny (model C.prog C.w) A (assign Bh env v) (λuu Ai =>
   wpAny (model C.prog C.w) A (forIn ifs true λc r=>if r=true then do let ok <- isTrue c env (eval c env);pure (ForInStep.yield ok) else pure (ForInStep.yield r)) (λok AJ=>if ok=true then wpAny (model C.prog C.w) A (eval elt env) (λx Jd =>
    wpAny (model C.prog C.w) A (call (.builtin "list.append") [acc,x]) (λuu Hb=>∃ m,m<n/\I m Hb) (notedBy (model C.prog C.w) A env λe s'=>P (.error e) s') Jd) (notedBy (model C.prog C.w) A env λe s'=>P (.error e) s') AJ
    else ∃ m,m<n/\I m AJ) (notedBy (model C.prog C.w) A env λe s'=>P (.error e) s') Ai)
   (notedBy (model C.prog C.w) A env λe s'=>P (.error e) s') dk) (notedBy (model C.prog C.w) A env λe s'=>P (.error e) s') s₁) (notedBy (model C.prog C.w) A env λe s'=>P (.error e) s') s)(n:Nat)(h:I n s):codeAny (model C.prog C.w) A (.compLoop (.ListComp elt [⟨Bh,iter,ifs,0⟩] scope pos) 0 it acc env) P s:=by
 refine codeAny_loop rfl I (λn s hI=>?_) n h
 show wpAny _ A ((compTurn (.ListComp elt [⟨Bh,iter,ifs,0⟩] scope pos) 0 it acc env).onRaise (λx=>do noteFrame x env;theTreesLotGoes x)) _ _ s
 refine wpAny_noted ?_
 rw[compTurn_list]
 refine wpAny_bind (wpAny_standAt (wpAny_bind (wpAny_mono (iL n s hI) (λr s₁ AI=>?_) λuu uu h'=>h')))
 cases r with
 |none=>exact wpAny_pure AI
 |some v =>
  refine wpAny_bind (wpAny_mono AI (λuu dk l5=>?_) λuu uu h'=>h')
  refine wpAny_bind (wpAny_mono l5 (λuu Ai Dv=>?_) λuu uu h'=>h')
  refine wpAny_bind (wpAny_mono Dv (λvq AJ GN=>?_) λuu uu h'=>h')
  cases vq with
  |false=>exact wpAny_pure ⟨rfl,GN⟩
  |true=>exact wpAny_bind (wpAny_bind (wpAny_mono GN (λx Jd YF=>wpAny_bind (wpAny_mono YF (λuu Hb Gh=>wpAny_pure (wpAny_pure ⟨rfl,Gh⟩)) λuu uu h'=>h')) λuu uu h'=>h'))
structure UP (C:Cfg) (env:Env) (xs:List Str) (I:Addr) (nx:St->Nat->Option (Option AV)) (st:Lc->AV->Option Lc) (t:TM) (f:EM) (g:Nat) (a:Addr) (Inv:Nat->D7->Heap->Prop) (σ':St) (ρ:D7) (h:Heap) (n i:Nat) (lc:Lc) (σ₁:St) (Ad:D7) (u:Shared):Prop where
 run:FV nx st t f g n i lc σ₁=some σ'
 R:Rel C Ad σ₁ u
 l:Cx C Ad u.heap env.locals xs lc
 inv:Inv i Ad u.heap
 m:¬ Ds C Ad I
 S:Step C (env.locals::[I]) ρ Ad h u.heap
 at_:Ad[g]?=some (a,a)
theorem Wk{iter:Expr}{g:Nat}(IT:KR C d env xs I [I] Bh nx st Inv)(DI:Nf C d env xs ifs t)(DE:AQ C d env xs elt f)(DA:Bp C d (.builtin "list.append") Bv)(hA:EL C d A)(hf:FV nx st t f g fuel i lc σ=some σ')(R:Rel C ρ σ s)(lr:Cx C ρ s.heap env.locals xs lc)(hI:Inv i ρ s.heap)(hm:¬ Ds C ρ I)(hg:ρ[g]?=some (a,a))(k:∀ s' Ar lc',Rel C Ar σ' s'->Step C (env.locals::[I]) ρ Ar s.heap s'.heap->Cx C Ar s'.heap env.locals xs lc'->P (.ok .next) s') :
 codeAny (model C.prog C.w) A (.compLoop (.ListComp elt [⟨Bh,iter,ifs,0⟩] scope pos) 0 (.ref I) (.ref a) env) P s:=by
 refine Wj (λn u=>∃ i lc σ₁ Ad,UP C env xs I nx st t f g a Inv σ' ρ s.heap n i lc σ₁ Ad u) ?_ fuel (Lm i lc σ ρ ⟨hf,R,lr,hI,hm,.refl,hg⟩)
 rintro n u ⟨i,lc,σ₁,Ad,L⟩
 cases n with
 |zero=>exact ns L.run
 |succ n =>
  refine oB L.run λo hx hf=>?_
  cases o with
  |some y =>
   refine oB hf λlc₁ hst hf=>oB hf λb hb hf=>?_
   refine wpAny_mono (IT.next A i lc lc₁ σ₁ Ad u y (λAi=>Rel C Ad σ₁ Ai/\Step C (env.locals::[I]) Ad Ad u.heap Ai.heap/\Cx C Ad Ai.heap env.locals xs lc₁/\Inv (i+1) Ad Ai.heap) _ hA L.R L.l L.inv (FJ L.m) hx hst λAi a b c e=>⟨a,b,c,e⟩) (λr s₁ AI=>Am AI λv ev AI=>?_) λuu uu z=>z
   rw[ev]
   refine wpAny_mono AI (λuu Yy Yz=>wpAny_mono Yz (λuu Ai Dv=>Hv Dv λAz Au Cu MX=>?_) λuu uu z=>z) λuu uu z=>z
   refine DI _ _ _ _ hb A _ _ Ai Ad hA Az Cu λAJ By BY BV=>?_
   have next:∀ {fJ Jd JX},FV nx st t f g n (i+1) lc₁ fJ=some σ'->Rel C JX fJ Jd->Step C [] Ad JX Ai.heap Jd.heap->∃ m,m<n+1/\∃ i lc σ₁ Ad,UP C env xs I nx st t f g a Inv σ' ρ s.heap m i lc σ₁ Ad Jd:=λhf GO FR =>
    ⟨n,Nat.lt_succ_self _,Lm (i+1) lc₁ _ _ ⟨hf,GO,Cu.go FR,IT.keep _ _ _ _ _ MX (FJ L.m) (CA Cu.1.choose_spec.1) FR.of_nil,Ds.grow FR (Heap.lt_size (IT.here _ _ _ MX I List.mem_cons_self).choose_spec) L.m,(L.S.trans Au).trans FR.of_nil,J1 FR L.at_⟩⟩
   rcases b with ⟨b,Gp⟩
   cases b with
   |false=>exact next hf BY BV
   |true =>
    refine oB hf λz hy hf=>oB hf λz' hz hf=>?_
    refine DE _ _ _ _ hy A _ _ AJ By hA BY (Cu.go BV) λw Jd JX GO FR g5=>?_
    have qR:JX[g]?=some (a,a):=J1 (BV.trans FR) L.at_
    exact DA _ _ _ _ hz A _ _ Jd JX [.ref a,w] hA GO (.cons (.loc (p:=(a,a)) qR) (.cons g5 .nil)) λ_ Hb fj VD Q7 _=>next hf VD ((BV.trans FR).trans Q7)
  |none =>
   rw[Option.some.inj hf] at L hx
   refine wpAny_mono (IT.stop A i lc σ' Ad u (λAi=>Rel C Ad σ' Ai/\Step C (env.locals::[I]) Ad Ad u.heap Ai.heap/\Cx C Ad Ai.heap env.locals xs lc) _ hA L.R L.l L.inv (FJ L.m) hx λAi a b c=>⟨a,b,c⟩) (λr s₁ AI=>Hv AI λer Az Au Cu=>?_) λuu uu z=>z
   rw[er]
   exact k _ _ _ Az (L.S.trans Au) Cu
noncomputable def FW(scope:Scope)(xs:List Str):Bool :=
 scope.names.all (λy=>!(y.2==.cell))&&(scope.kind==.function)&&scope.names.all (λy=>!(y.2==.local)||scope.names.lookup y.1==some .local)&&xs.all (λx=>scope.names.lookup x==some .local&&!(x==("__debug__" : Str)))&&decide xs.Nodup
structure PT (scope:Scope) (xs:List Str):Prop where
 cell:∀ y∈scope.names,y.2≠.cell
 kind:scope.kind=.function
 names:∀ y∈scope.names,y.2=.local->scope.names.lookup y.1=some .local
 loc:∀ x∈xs,scope.names.lookup x=some .local/\(x==("__debug__" : Str))=false
 nodup:xs.Nodup
set_option tactic.hygienic false
theorem K4(h:FW scope xs=true):PT scope xs:=by
 unfold FW at h
 simp only[Bool.and_eq_true,Bool.not_eq_true',List.all_eq_true,beq_iff_eq,Bool.or_eq_true,decide_eq_true_eq] at h
 obtain⟨⟨⟨⟨h1,h2⟩,h3⟩,h4⟩,h5⟩:=h
 refine⟨λy hy e=>?_,h2,λy hy e=>?_,h4,h5⟩
 . have:=h1 y hy;rw[e] at this;cases this
 . rcases h3 y hy with q|q
   . rw[e] at q;cases q
   . exact q
structure Mm (C:Cfg) (d:Nat) (env:Env) (scope:Scope) (cl:List (Str×Addr)) (xs:List Str) (Bh:Expr) (ifs:List Expr) (elt:Expr) (tn:(St->Nat->Option (Option AV))->St->Nat->Option (Option AV)) (st:Lc->AV->Option Lc) (t:TM) (f:EM):Prop where
 tg:∀ B7:Env,B7.scope=relabel scope env->B7.cells=cl->Bi B7 xs->UO C d B7 xs Bh tn st
 ifs:∀ B7:Env,B7.scope=relabel scope env->B7.cells=cl->Bi B7 xs->Nf C d B7 xs ifs t
 elt:∀ B7:Env,B7.scope=relabel scope env->B7.cells=cl->Bi B7 xs->AQ C d B7 xs elt f
set_option tactic.hygienic true
theorem Ng(H:Aq C)(HC:Bg C)(He:Bi env Aa){iter:Expr}(HK:closureFor scope env=pure cl)(PU:PT scope xs)(hs:∀ v,foldedSetIterable iter env v=pure v)(DI:Jr C (d+1) env Aa iter src)(DC:Mm C (d+1) env scope cl xs Bh ifs elt tn st t f)(e1:src lc σ=some (nx,σ₁))(hL:FV (tn nx) st t f σ₁.length 1000000 0 (List.replicate xs.length none) (σ₁++[.list []])=some σ₂)(hA:EL C (d+1) A)(R:Rel C ρ σ s)(lr:Cx C ρ s.heap env.locals Aa lc)(use:Option (Value->Sem Unit))(k:∀ (s':Shared) (Ar:D7) (lc':Lc) (v:Value) (c:Addr),Rel C Ar σ₂ s'->Step C [] ρ Ar s.heap s'.heap->VR C Ar s'.heap (.loc σ₁.length) v->Cx C Ar s'.heap c xs lc'->s.heap.objs.size<=c->compPost (model C.prog C.w) A E use Q v c (.ok .next) s') :
 wpAny (model C.prog C.w) A (comprehension (.ListComp elt [⟨Bh,iter,ifs,0⟩] scope pos) scope env (firstIterPos [⟨Bh,iter,ifs,0⟩] pos) (newList []) (firstAsync [⟨Bh,iter,ifs,0⟩]) (firstIter [⟨Bh,iter,ifs,0⟩] env) use) Q E s:=by
 refine wpAny_comprehension_free (use:=use) rfl hs HK PU.kind PU.names ?_
 refine DI _ _ _ _ e1 A _ E s ρ hA R lr λs₁ Ad I Inv T An Aj hI=>?_
 refine wpAny_newList ?_
 refine wpAny_newFunctionEnv PU.cell (λy hy=>nm hy) (λh' GF DW=>?_) PU.kind
 dsimp only at GF DW ⊢
 have zz:(s₁.heap.push { cls:=.type "list",data:=.seq ([]:List Value).toArray }).objs.size=s₁.heap.objs.size+1:=Heap.size_push ..
 rw[zz] at GF DW ⊢
 have Hy:h'.objs.size=s₁.heap.objs.size+2:=by rw[DW.1,Heap.size_push,zz]
 have tB:∀ b o,(s₁.heap.push { cls:=.type "list",data:=.seq ([]:List Value).toArray }).get? b=some o->h'.get? b=some o:=λb o e=>(DW.2 b (Nat.ne_of_lt (zz▸Heap.lt_size e))).trans (Heap.get?_push_of_some _ e)
 have CP:∀ b o,s₁.heap.get? b=some o->h'.get? b=some o:=λb o e=>tB b o (Heap.get?_push_of_some _ e)
 have tC:h'.get? s₁.heap.objs.size=some { cls:=.type "list",data:=.seq ([]:List Value).toArray }:=tB _ _ (Heap.get?_push_size _ rfl)
 have hT:=T.lt
 have hz:s₁.heap.objs.size<=h'.objs.size:=Hy▸Nat.le_add_right _ 2
 (refine AS (An.alloc (s':={ s₁ with heap:=h',toks:=s₁.toks+([]:List (Str×Value)).length }) CP hz An.gens rfl rfl (p:=(s₁.heap.objs.size,s₁.heap.objs.size)) (o:=.list []) (Nat.le_refl _) (Nat.le_refl _) (.list (vs:=[]) tC .nil) rfl) λGO FR=>?_)
 have hg:(Ad++[(s₁.heap.objs.size,s₁.heap.objs.size)])[σ₁.length]?=some (s₁.heap.objs.size,s₁.heap.objs.size):=by
  rw[<- An.len,List.getElem?_append_right (Nat.le_refl _),Nat.sub_self];rfl
 have nM:¬ Ds C (Ad++[(s₁.heap.objs.size,s₁.heap.objs.size)]) (s₁.heap.objs.size+1):=JU (An.freshGe (Nat.le_succ _)) (Nat.succ_ne_self _) (Nat.succ_ne_self _)
 have nI:¬ Ds C (Ad++[(s₁.heap.objs.size,s₁.heap.objs.size)]) I:=JU T.fresh (Nat.ne_of_lt hT) (Nat.ne_of_lt hT)
 have bl:Bi { newEnv scope (s₁.heap.objs.size+1) env.globals cl env.qual none .none (some env) builtinsNs with scope:=relabel scope env } xs :=
  ⟨PU.kind,λy hy=>lookup_relabel_local (PU.loc y hy).1,PU.nodup,He.glob,He.blt⟩
 have qS:Cx C (Ad++[(s₁.heap.objs.size,s₁.heap.objs.size)]) h' (s₁.heap.objs.size+1) xs (List.replicate xs.length none) :=
  ⟨⟨_,GF,λi y e=>by rw[List.getElem?_replicate] at e;exact sf e λuu e=>nomatch e⟩,nM,Nat.le_trans An.size (Nat.le_succ _),List.length_replicate ..⟩
 have ne:s₁.heap.objs.size+1≠I:=Nat.ne_of_gt (Nat.lt_succ_of_lt hT)
 have oj:∀ a o vs n,a∈[s₁.heap.objs.size+1]->s₁.heap.get? a=some o->o.data≠.seq vs n:=λa o vs n ha e=>by
  cases List.mem_singleton.mp ha
  exact absurd (Heap.lt_size e) (Nat.not_lt.mpr (Nat.le_succ _))
 have IT:=DC.tg _ rfl rfl bl nx I Inv Ad s₁ T ne oj
 have l6:Inv 0 (Ad++[(s₁.heap.objs.size,s₁.heap.objs.size)]) h':=IT.keep 0 Ad _ s₁.heap h' T.inv (FJ T.fresh) oj FR.of_nil
 have go:codeAny (model C.prog C.w) A (.compLoop (.ListComp elt [⟨Bh,iter,ifs,0⟩] scope pos) 0 (.ref I) (.ref s₁.heap.objs.size) { newEnv scope (s₁.heap.objs.size+1) env.globals cl env.qual none .none (some env) builtinsNs with scope:=relabel scope env })
  (compPost (model C.prog C.w) A E use Q (.ref s₁.heap.objs.size) (s₁.heap.objs.size+1))
  { s₁ with heap:=h',toks:=s₁.toks+([]:List (Str×Value)).length }:=by
  refine Wk IT (DC.ifs _ rfl rfl bl) (DC.elt _ rfl rfl bl) (MJ H HC) hA hL GO qS l6 nI hg λs' Ar lc' R' S' l'=>?_
  have S3:Step C [] ρ Ar s.heap s'.heap:=((Aj.trans FR).of_nil.trans S').above λb hb=>by
   rcases List.mem_cons.mp hb with rfl|hb
   . exact Nat.le_succ_of_le Aj.size
   . cases List.mem_singleton.mp hb;exact hI
  refine k s' Ar lc' _ _ R' S3 (.loc (p:=(s₁.heap.objs.size,s₁.heap.objs.size)) (J1 S' hg)) l' (Nat.le_succ_of_le Aj.size)
 exact codeAny_compStart_list go (T.self A _ _ _ _ l6 go)
section
variable{iter:Expr}
set_option tactic.hygienic false
theorem Wl(H:Aq C)(HC:Bg C)(He:Bi env Aa)(HK:closureFor scope env=pure cl)(PU:PT scope xs)(hs:∀ v,foldedSetIterable iter env v=pure v)(DI:Jr C (d+1) env Aa iter src)(DC:Mm C (d+1) env scope cl xs Bh ifs elt tn st t f):AQ C (d+1) env Aa (.ListComp elt [⟨Bh,iter,ifs,0⟩] scope pos) (EG src xs.length tn st t f):=by
 intro lc σ y σ' hf A Q E s ρ hA R lr kk
 refine oB hf λp e1 hf=>oM hf λσ₂ hL e9=>?_
 rw[eval_ListComp]
 refine Ng H HC He HK PU hs DI DC e1 hL hA R lr none λs' Ar lc' v c R' S' q' l' hc=>?_
 obtain⟨⟨m,hn,hv⟩,hm,gI,_⟩:=l'
 refine⟨m,hn,λLZ RA=>Hz kk e9 v _ Ar (R'.write hn hm gI RA) ((S'.of_nil.trans (ET RA)).above λb hb=>?_) ?_⟩
 . cases List.mem_singleton.mp hb;exact hc
 . exact q'.step (ET RA) (CA hn)
set_option tactic.hygienic true
theorem Zs(H:Aq C)(HC:Bg C)(He:Bi env Aa)(hi:Aa[i]?=some n)(j2:swapsWith (.ListComp elt [⟨Bh,iter,ifs,0⟩] scope pos) (some (.Name n pn)) ps.line env=pure true)(HK:closureFor scope env=pure cl)(PU:PT scope xs)(hs:∀ v,foldedSetIterable iter env v=pure v)(DI:Jr C (d+1) env Aa iter src)(DC:Mm C (d+1) env scope cl xs Bh ifs elt tn st t f) :
 E4 C (d+1) env Aa (.Assign [.Name n pn] (.ListComp elt [⟨Bh,iter,ifs,0⟩] scope pos) ps) (BZ i (EG src xs.length tn st t f)):=by
 intro lc σ fl lc' σ' hf A Q E s ρ hA R lr kk
 refine oB hf λtt hf e2=>oM e2 λph hp e2=>?_
 refine oB hf λp e1 hf=>oM hf λσ₂ hL e9=>?_
 rw[exec_Assign_Name_used _ _ _ _ j2]
 refine wpAny_bind (wpAny_standAt (wpAny_bind ?_))
 show wpAny _ A (do let _ <- comprehension _ scope env _ (newList []) _ (firstIter _ env) (some (assign (.Name n pn) env))) _ _ s
 refine wpAny_bind (wpAny_mono (Ng (Q:=λuu s'=>Q .next s') H HC He HK PU hs DI DC e1 hL hA R lr (some (assign (.Name n pn) env)) λs' Ar CD v c R' S' q' l' hc=>?_) (λuu s' hq=>wpAny_pure (wpAny_pure hq)) λuu uu e=>e)
 obtain⟨⟨m,hn,hv⟩,hm,gI,_⟩:=l'
 show wpAny _ A (assign (.Name n pn) env v) _ _ _
 cases e9
 refine wpAny_assign_Name (Ea He hi hp R' (lr.go S') q' λAi Az Au Cu=>?_)
 have DK:env.locals<s.heap.objs.size:=Am lr.1 λuu a uu=>a.lt
 have Gj:c≠env.locals:=λe=>Nat.lt_irrefl _ (Nat.lt_of_le_of_lt (e▸hc) DK)
 have Zt:Ai.heap.Ns c m:=hn.at λo e=>Au.keep _ _ e hm (by rw[List.mem_singleton];exact Gj)
 have T:=S'.of_nil.trans Au
 refine⟨m,Zt,λLZ RA=>?_⟩
 refine Pj kk e2 _ _ Ar (Az.write Zt hm gI RA) ⟨RA.1▸T.size,λb o e nm hb=>(RA.2 b (λq=>Nat.lt_irrefl _ (Nat.lt_of_lt_of_le (Heap.lt_size e) (q▸hc)))).trans (T.keep b o e nm hb),T.grow⟩ (Cu.iters (ET RA) (by rw[List.mem_singleton];exact Gj.symm) (CA Zt)) .next
end
section
variable{δ:D7}
set_option tactic.hygienic false
theorem Rel.allocs(R:Rel C ρ σ s)(kp:∀ b o,s.heap.get? b=some o->h.get? b=some o)(z:s.heap.objs.size<=h.objs.size)(hl:δ.length=τ.length)(lo:∀ p∈δ,s.heap.objs.size<=p.1/\s.heap.objs.size<=p.2)(dis:δ.Pairwise λp q=>p.1≠q.1/\p.1≠q.2/\p.2≠q.1/\p.2≠q.2)(ng:∀ o∈τ,o.isGen=false)(S:Step C [] ρ (ρ++δ) s.heap h)(ho:∀ (j:Nat) p o,δ[j]?=some p->τ[j]?=some o->Ct C (ρ++δ) h p o) :
 Rel C (ρ++δ) (σ++τ) { s with heap:=h,toks:=tk }:=by
 have g:∀ (l:Nat) (o:AO),(σ++τ)[l]?=some o->o.isGen=true->l<ρ.length/\σ[l]?=some o:=by
  intro l o e hg
  by_cases hh:l<σ.length
  . rw[List.getElem?_append_left hh] at e;exact⟨R.len▸hh,e⟩
  . rw[List.getElem?_append_right (Nat.not_lt.mp hh)] at e
    rw[ng _ (List.mem_of_getElem? e)] at hg;cases hg
 have r:∀ {l:Nat} {q:Addr×Addr},l<ρ.length->(ρ++δ)[l]?=some q->ρ[l]?=some q:=λhh e=>by rw[List.getElem?_append_left hh] at e;exact e
 have G:=R.gens.heap λuu uu uu uu uu uu o e=>kp _ o e
 refine⟨λb o e n=>kp b o (R.old b o e n),λt ht=>Am (R.tab t ht) λm a b=>⟨m,a.keeps kp,b.keeps kp⟩,λq hq=>?_,?_,by rw[List.length_append,List.length_append,R.len,hl],λl q o e e'=>?_,?_,R.drawn,R.os,Nat.le_trans R.size z⟩
 . rcases List.mem_append.mp hq with hq|hq
   . exact R.lo q hq
   . exact⟨Nat.le_trans R.size (lo q hq).1,Nat.le_trans R.size (lo q hq).2⟩
 . refine List.pairwise_append.mpr ⟨R.dis,dis,λa ha b hb=>?_⟩
   have h1:=R.rhoLt ha
   have h2:=lo b hb
   exact⟨Nat.ne_of_lt (Nat.lt_of_lt_of_le h1.1 h2.1),Nat.ne_of_lt (Nat.lt_of_lt_of_le h1.1 h2.2),Nat.ne_of_lt (Nat.lt_of_lt_of_le h1.2 h2.1),Nat.ne_of_lt (Nat.lt_of_lt_of_le h1.2 h2.2)⟩
 . by_cases hh:l<ρ.length
   . rw[List.getElem?_append_left hh] at e
     rw[List.getElem?_append_left (R.len▸hh)] at e'
     exact(R.st l q o e e').grow kp S
   . rw[List.getElem?_append_right (Nat.not_lt.mp hh)] at e
     rw[List.getElem?_append_right (R.len▸Nat.not_lt.mp hh),<- R.len] at e'
     exact ho _ _ _ e e'
 . refine⟨G.bare,λl p m k e e'=>?_,λl p n e e'=>?_,λl l' p p' o o' n nm qn bz jN e1 e2 e3 g3 e4 g4=>?_⟩
   . exact AS (g _ _ e' rfl) λa b=>G.live l p m k (r a e) b
   . exact AS (g _ _ e' rfl) λa b=>G.outs l p n (r a e) b
   . exact AS (g _ _ e3 g3) λa1 b1=>AS (g _ _ e4 g4) λa2 b2=>G.apart l l' p p' o o' n nm qn bz jN (r a1 e1) (r a2 e2) b1 g3 b2 g4
theorem Rel.seal1(R:Rel C ρ σ s){l:Nat}{c:Addr×Option AV}(hc:J9 σ l=some c):Rel C ρ (σ.set l (.ext 0 [])) s:=by
 have e0:=Ip hc
 refine⟨R.old,R.tab,R.lo,R.dis,by rw[List.length_set];exact R.len,λl' p o e e'=>?_,R.gens.set rfl,R.drawn,R.os,R.size⟩
 by_cases hl:l=l'
 . subst hl
   rw[List.getElem?_set,if_pos rfl] at e'
   refine sf e' λuu e'=>?_
   obtain rfl:=Option.some.inj e'
   refine AS (R.st l p _ e e0) λep z=>?_
   have go:∀ {v},s.heap.IsCell c.1 v->Ct C ρ s.heap p (.ext 0 []):=λ⟨o,ho,hd⟩=>by
    have nf:o8 o:=.inl λvs z=>Data.noConfusion (hd.symm.trans z)
    rw[ep]
    exact(EY o o [] ⟨ho,ho,nf,nf,.nil,.inl rfl,λc e=>by unfold Un at e;rw[hd] at e;cases e⟩)
   rcases c with ⟨c,_|y⟩
   . exact go z
   . exact Am z λv ho uu=>go ho
 . rw[List.getElem?_set_ne hl] at e'
   exact R.st l' p o e e'
end
noncomputable def Nh:Nat->Nat->St->Option St
 | 0,_,σ=>some σ
 |n+1,k,σ=>(J9 σ k).bind λ_=>Nh n (k+1) (σ.set k (.ext 0 []))
set_option tactic.hygienic false
theorem Rel.Nh:∀ {n k:Nat} {σ τ:St},Rel C ρ σ s->Mine.Internal.Nh n k σ=some τ->Rel C ρ τ s
 | 0,_,_,_,R,h=>Option.some.inj h▸R
 |n+1,k,σ,τ,R,h=>oB h λuu hc h=>Rel.Nh (R.seal1 hc) h
noncomputable def K5(L:Nat):Nat->List (Option AV)->St
 | _,[]=>[]
 |j,x::r=>.cell (L+1+j) x::K5 L (j+1) r
theorem Js{L:Nat}:∀ {cs:List (Option AV)} {j i:Nat},(K5 L j cs)[i]?=(cs[i]?).map λx=>AO.cell (L+1+(j+i)) x
 | [],_,_=>rfl
 |x::r,j,0=>rfl
 |x::r,j,i+1=>by
  show(K5 L (j+1) r)[i]?=(r[i]?).map _
  rw[Js,show j+1+i=j+(i+1) by omega]
theorem Ni{L:Nat}:∀ {cs:List (Option AV)} {j:Nat},(K5 L j cs).length=cs.length
 | [],_=>rfl
 |x::r,j=>congrArg (·+1) Ni
noncomputable def RB(F:Nat->Option (AV×St)):Option (AV×St):=@ite _ (∀ L,F L=F 0) (Classical.propDecidable _) (F 0) none
theorem To(h:RB F=some r)(L:Nat):F L=some r:=by
 unfold RB at h
 by_cases hp:∀ L,F L=F 0
 . rw[if_pos hp] at h;rw[hp L,h]
 . rw[if_neg hp] at h;cases h
theorem Zu(h:∀ L,F L=some r):RB F=some r:=by
 unfold RB
 rw[if_pos λL=>(h L).trans (h 0).symm]
 exact h 0
noncomputable def Kc(xs:List AV)(ps:List (Option Nat)):List (Option AV):=ps.map λo=>o.bind (xs[·]?)
noncomputable def Zv(fin:Nat->St->Option St)(n:Nat)(pl pc:List (Option Nat))(B:Nat->Nat->SM):FM:=λxs σ=>if xs.length=n then RB λL=>((B L σ.length (Kc xs pl) (σ++K5 L 0 (Kc xs pc))).bind bR).bind λp=>(fin σ.length p.2).map (p.1,·) else none
noncomputable def runC(n:Nat)(pl pc:List (Option Nat))(B:Nat->Nat->SM):FM:=Zv (Nh pc.length) n pl pc B
structure Tp (C:Cfg) (f:Addr) (ps Aa cv:List Str) (pl pc:List (Option Nat)):Prop where
 fn:KZ C.K f=true
 glob:(Bw C.K f).globals=mainGlobals
 blt:(Bw C.K f).builtins=builtinsNs
 code:codeIn C.K (Bw C.K f).code (Bw C.K f).qualname=true
 clo:(Bw C.K f).closure=[]
 scope:Kb (Bw C.K f).scope Aa cv=true
 cells:∀ L j,j<cv.length->∃ y,cv[j]?=some y/\(cellsFrom (L+1) (Bw C.K f).scope.names []).lookup y=some (L+1+j)
 bind:∀ vs:List Value,vs.length=ps.length->bindArgs (Bw C.K f) ⟨vs,[]⟩=pure (ps.zip vs)
 nodup:ps.Nodup
 ploc:pl.length=Aa.length/\∀ i<pl.length,∀ k,pl[i]?=some (some k)->∃ y,ps[k]?=some y/\Aa[i]?=some y
 pcel:pc.length=cv.length/\∀ j<pc.length,∀ o,pc[j]?=some o->match o with
  |some k=>∃ y,ps[k]?=some y/\cv[j]?=some y
  |none=>∀ y,cv[j]?=some y->y∉ps
 par:ps.all (λy=>Aa.contains y||cv.contains y)=true
theorem Wm:∀ {ps:List Str} {vs:List Value} {k:Nat} {y:Str} {v:Value} {m:Str->Option Value},ps.Nodup->ps[k]?=some y->vs[k]?=some v->kindOf y=some .local->bindL kindOf (ps.zip vs) m y=some v:=by
 have keep:∀ {ps:List Str} {vs:List Value} {y:Str} {m:Str->Option Value},y∉ps->bindL kindOf (ps.zip vs) m y=m y:=by
  intro ps
  induction ps with
  |nil=>intros;rfl
  |cons p ps ih =>
   intro vs y m hn
   cases vs with
   |nil=>rfl
   |cons w ws =>
    show bindL kindOf (ps.zip ws) _ y=_
    rw[ih λh=>hn (List.mem_cons_of_mem _ h)]
    split
    . exact if_neg λ(e:y=p)=>hn (by rw[e];exact List.mem_cons_self)
    . rfl
 intro ps
 induction ps with
 |nil=>intro vs k y v m _ h;simp at h
 |cons p ps ih =>
  intro vs k y v m nd hp hv hk
  cases vs with
  |nil=>simp at hv
  |cons w ws =>
   have nd:=List.nodup_cons.mp nd
   cases k with
   |zero =>
    obtain rfl:=Option.some.inj hp
    obtain rfl:=Option.some.inj hv
    show bindL kindOf (ps.zip ws) _ p=_
    rw[keep nd.1,if_pos hk]
    exact if_pos rfl
   |succ k=>exact ih nd.2 hp hv hk
theorem Nj:∀ {ps:List Str} {vs:List Value} {y:Str} {m:Str->Option Value},y∉ps->bindC kindOf (ps.zip vs) m y=m y:=by
 intro ps
 induction ps with
 |nil=>intros;rfl
 |cons p ps ih =>
  intro vs y m hn
  cases vs with
  |nil=>rfl
  |cons w ws =>
   show bindC kindOf (ps.zip ws) _ y=_
   rw[ih λh=>hn (List.mem_cons_of_mem _ h)]
   split
   . rfl
   . exact if_neg λ(e:y=p)=>hn (by rw[e];exact List.mem_cons_self)
theorem Wn:∀ {ps:List Str} {vs:List Value} {k:Nat} {y:Str} {v:Value} {m:Str->Option Value},ps.Nodup->ps[k]?=some y->vs[k]?=some v->kindOf y≠some .local->bindC kindOf (ps.zip vs) m y=some v:=by
 intro ps
 induction ps with
 |nil=>intro vs k y v m _ h;simp at h
 |cons p ps ih =>
  intro vs k y v m nd hp hv hk
  cases vs with
  |nil=>simp at hv
  |cons w ws =>
   have nd:=List.nodup_cons.mp nd
   cases k with
   |zero =>
    obtain rfl:=Option.some.inj hp
    obtain rfl:=Option.some.inj hv
    show bindC kindOf (ps.zip ws) _ p=_
    rw[Nj nd.1,if_neg hk]
    exact if_pos rfl
   |succ k=>exact ih nd.2 hp hv hk
section
variable{f:Addr}{ps:List Str}{pl pc:List (Option Nat)}
structure vt (C:Cfg) (f:Addr) (Aa cv:List Str):Prop where
 coro:(Bw C.K f).scope.isCoroutine=false
 gen:(Bw C.K f).scope.isGenerator=false
 kind:(Bw C.K f).scope.kind=.function
 loc:∀ y∈Aa,(Bw C.K f).scope.names.lookup y=some .local
 cel:∀ y∈cv,(Bw C.K f).scope.names.lookup y=some .cell
 nodup:Aa.Nodup
theorem Tp.sc(F:Tp C f ps Aa cv pl pc):vt C f Aa cv:=by
 have h:=F.scope
 unfold Kb at h
 simp only[Bool.and_eq_true,Bool.not_eq_true',List.all_eq_true,beq_iff_eq,decide_eq_true_eq] at h
 obtain⟨⟨⟨⟨⟨h1,h2⟩,h3⟩,h4⟩,h5⟩,h6⟩:=h
 exact⟨h1,h2,h3,h4,h5,h6⟩
theorem Tp.envB(F:Tp C f ps Aa cv pl pc)(nd:Aa.all (λy=>!(y==("__debug__" : Str)))=true)(L:Addr):Cd (Dw C f L) Aa:=by
 have S:=F.sc
 refine⟨⟨S.kind,S.loc,S.nodup,F.glob,F.blt⟩,λy hy=>?_,?_⟩
 . have:=List.all_eq_true.mp nd y hy
   simpa using this
 . show((Bw C.K f).scope.kind==.module&&_)=false
   rw[S.kind];rfl
theorem OJ{xs:List AV}{ps:List (Option Nat)}{x:AV}(h:(Kc xs ps)[i]?=some (some x)):∃ k,ps[i]?=some (some k)/\xs[k]?=some x:=by
 unfold Kc at h
 rw[List.getElem?_map] at h
 refine oM h λo e1 h=>oB h λk e2 h=>⟨k,e1.trans (congrArg some e2),h⟩
theorem dm{fin:Nat->St->Option St}(Vs:∀ (k:Nat) (σ τ:St) (ρ:D7) (s:Shared),Rel C ρ σ s->fin k σ=some τ->Rel C ρ τ s)(H:Aq C)(F:Tp C f ps Aa cv pl pc)(nd:Aa.all (λy=>!(y==("__debug__" : Str)))=true){B:Addr->Nat->SM}(D:∀ L g,Cd (Dw C f L) Aa->BB C d (Dw C f L) Aa (Cf C.K f) (B L g)):BF C (d+1) f (Zv fin ps.length pl pc B):=by
 refine⟨λxs σ x σ' hf A P s ρ vs hA R q k=>?_⟩
 refine sf hf λhn hf=>?_
 refine oB (To hf s.heap.objs.size) λt e1 e2=>oM e2 λτ hs e3=>oB e1 λt' e1 e4=>?_
 have S:=F.sc
 have tD:vs.length=ps.length:=q.length.trans hn
 refine Ci (GS F.fn) λo e0 hd ig=>?_
 have old:∀ b o,C.K.lookup b=some o->s.heap.get? b=some o:=λb o e=>R.kin H _ _ e
 have lk:∀ y∈ps,(Bw C.K f).scope.names.lookup y=some .local\/(Bw C.K f).scope.names.lookup y=some .cell:=λy hy=>by
  have:=List.all_eq_true.mp F.par y hy
  rw[Bool.or_eq_true] at this
  exact this.elim (λh=>.inl (S.loc y (List.contains_iff_mem.mp h))) λh=>.inr (S.cel y (List.contains_iff_mem.mp h))
 refine codeAny_call_cells (Nat.lt_of_le_of_lt (Nat.le_add_right ..) hA.2.1) (old _ _ e0) hd (Am H.lim λmc a b=>⟨mc,a.at λo e=>R.old _ _ e H.stat,b⟩) (Il (R.kin H) F.code).1 ig (F.bind vs tD) F.clo (λy hy=>?_) (λs₁ X=>?_) S.coro S.gen S.kind
 . have tF:=(List.of_mem_zip hy).1
   refine(lk _ tF).imp id λhc=>⟨hc,?_⟩
   have:=List.all_eq_true.mp F.par _ tF
   rw[Bool.or_eq_true] at this
   rcases this with h|h
   . rw[S.loc _ (List.contains_iff_mem.mp h)] at hc;cases hc
   . obtain⟨j,hj,ej⟩:=List.mem_iff_getElem.mp (List.contains_iff_mem.mp h)
     refine Am (F.cells s.heap.objs.size j hj) λy e5 e6=>?_
     rw[List.getElem?_eq_getElem hj,ej] at e5
     rw[Option.some.inj e5,e6];rfl
 . obtain⟨⟨⟨h,tk,rfl⟩,GF,kp,_⟩,Oo,vw,NR⟩:=X
   have z:s.heap.objs.size<=h.objs.size:=Nat.le_of_lt GF.lt
   have lt:∀ {k:Nat} {y:Str},ps[k]?=some y->∃ v,vs[k]?=some v:=λe=>⟨_,List.getElem?_eq_getElem (tD▸(List.getElem?_eq_some_iff.mp e).1)⟩
   let δ:D7:=(List.range (Kc xs pc).length).map λj=>(s.heap.objs.size+1+j,s.heap.objs.size+1+j)
   have Me:∀ {j:Nat} {p:Addr×Addr},δ[j]?=some p->j<pc.length/\p=(s.heap.objs.size+1+j,s.heap.objs.size+1+j):=λ{j p} e=>by
    rw[List.getElem?_map] at e
    refine oM e λi e1 e=>?_
    obtain⟨h1,h2⟩:=List.getElem?_eq_some_iff.mp e1
    rw[List.length_range,Kc,List.length_map] at h1
    rw[List.getElem_range] at h2
    exact⟨h1,h2▸e.symm⟩
   have KJ:∀ p∈δ,s.heap.objs.size<p.1/\s.heap.objs.size<p.2:=λp hp=>by
    obtain⟨j,hj,rfl⟩:=List.mem_iff_getElem.mp hp
    (refine AS (Me (List.getElem?_eq_getElem hj)) λuu e=>?_)
    rw[e]
    exact⟨by dsimp only;exact Nat.le_add_right _ _,by dsimp only;omega⟩
   have Aj:Step C [] ρ (ρ++δ) s.heap h:=⟨z,λb o e uu uu=>kp b o e,δ,rfl,λp hp=>⟨Nat.le_of_lt (KJ p hp).1,Nat.le_of_lt (KJ p hp).2⟩⟩
   have An:Rel C (ρ++δ) (σ++K5 s.heap.objs.size 0 (Kc xs pc)) { s with heap:=h,toks:=tk }:=by
    refine R.allocs kp z (by rw[Ni];simp[δ]) (λp hp=>⟨Nat.le_of_lt (KJ p hp).1,Nat.le_of_lt (KJ p hp).2⟩) ?_ (λo ho=>?_) Aj λj p o ej eo=>?_
    . rw[List.pairwise_map]
      refine List.Pairwise.imp ?_ List.pairwise_lt_range
      intro i j XH
      have ne:s.heap.objs.size+1+i≠s.heap.objs.size+1+j:=by omega
      exact⟨ne,ne,ne,ne⟩
    . obtain⟨j,hj,rfl⟩:=List.mem_iff_getElem.mp ho
      have:=List.getElem?_eq_getElem hj
      rw[Js] at this
      exact oM this λuu uu e=>e▸rfl
    . (refine AS (Me ej) λhj IF=>?_;subst IF)
      rw[Js,Nat.zero_add] at eo
      refine oM eo λy ey eo=>?_
      rw[<- eo]
      refine Am (F.cells s.heap.objs.size j (F.pcel.1▸hj)) λn en el=>?_
      have hc:=Oo n _ el
      have vz:(Dw C f s.heap.objs.size).kindOf n≠some .local:=λe=>by
       have:=S.cel n (List.mem_of_getElem? en)
       rw[show(Bw C.K f).scope.names.lookup n=some .local from e] at this;cases this
      cases y with
      |none =>
       have hb:pc[j]?=some none\/∃ k,pc[j]?=some (some k)/\xs[k]?=none:=by
        unfold Kc at ey
        rw[List.getElem?_map] at ey
        refine oM ey λo e1 e2=>?_
        cases o with
        |none=>exact .inl e1
        |some k=>exact .inr ⟨k,e1,e2⟩
       rcases hb with hb|⟨k,hb,hk⟩
       . rw[Nj ((F.pcel.2 j hj _ hb) n en)] at hc
         exact .cell0 hc
       . (refine Am (F.pcel.2 j hj _ hb) λy ep uu=>?_)
         have:=(List.getElem?_eq_some_iff.mp ep).1
         rw[<- hn] at this
         rw[List.getElem?_eq_getElem this] at hk;cases hk
      |some x' =>
       refine Am (OJ ey) λk e1 e2=>?_
       (refine Am (F.pcel.2 j hj _ e1) λy ep ec=>?_)
       obtain rfl:=Option.some.inj (ec.symm.trans en)
       refine Am (q.get e2) λv ev qv=>?_
       rw[Wn F.nodup ep ev vz] at hc
       exact .cell hc (qv.go Aj)
   refine(D _ _ (F.envB nd _)).run _ _ _ _ _ e1 _ _ _ _ (ρ++δ) hA.deeper An ⟨⟨_,GF,λi y ei=>?_⟩,?_,R.size,?_⟩ λw s' Ar R' S' l' q'=>?_
   . refine Am (OJ ei) λk e1 e2=>?_
     have hi:i<pl.length:=(List.getElem?_eq_some_iff.mp e1).1
     (refine Am (F.ploc.2 i hi k e1) λn ep ev=>?_)
     refine Am (q.get e2) λv vA qv=>(B6 n v ⟨ev,?_,qv.go Aj⟩)
     exact Wm F.nodup ep vA (S.loc n (List.mem_of_getElem? ev))
   . rintro(t|⟨p,hp,e⟩)
     . exact R.fresh (.inl t)
     . rcases List.mem_append.mp hp with hp|hp
       . exact R.fresh (.inr ⟨p,hp,e⟩)
       . have:=KJ p hp
         change _=s.heap.objs.size\/_=s.heap.objs.size at e
         rcases e with e|e
         . exact absurd this.1 (by rw[e];exact Nat.lt_irrefl _)
         . exact absurd this.2 (by rw[e];exact Nat.lt_irrefl _)
   . unfold Kc;rw[List.length_map];exact F.ploc.1
   . refine AS (JP q' e4) λqx bk=>?_
     obtain rfl:t.1=x:=congrArg (·.1) e3
     obtain rfl:τ=σ':=congrArg (·.2) e3
     refine k _ s' Ar (Vs _ _ _ _ _ (bk▸R') hs) ?_ qx
     exact⟨Nat.le_trans z S'.size,λb o e nm uu=>S'.keep b o (kp b o e) (Ds.grow Aj (Heap.lt_size e) nm) (by rw[List.mem_singleton];exact Nat.ne_of_lt (Heap.lt_size e)),by
      (refine Am (S'.grow) λo7 IF h'=>?_;subst IF)
      refine⟨δ++o7,by rw[List.append_assoc],λp hp=>?_⟩
      rcases List.mem_append.mp hp with hp|hp
      . exact⟨Nat.le_of_lt (KJ p hp).1,Nat.le_of_lt (KJ p hp).2⟩
      . exact⟨Nat.le_trans z (h' p hp).1,Nat.le_trans z (h' p hp).2⟩⟩
theorem iN(H:Aq C)(F:Tp C f ps Aa cv pl pc)(nd:Aa.all (λy=>!(y==("__debug__" : Str)))=true){B:Addr->Nat->SM}(D:∀ L g,Cd (Dw C f L) Aa->BB C d (Dw C f L) Aa (Cf C.K f) (B L g)):BF C (d+1) f (runC ps.length pl pc B) :=
 dm (λuu uu uu uu uu R h=>R.Nh h) H F nd D
end
structure Zw (C:Cfg) (d:Nat) (env:Env) (Aa:List Str) (iter:Expr) (src:Tn):Prop where
 run:Jr C d env Aa iter src
 plain:∀ v,foldedSetIterable iter env v=pure v
structure qT (C:Cfg) (d:Nat) (env:Env) (Aa:List Str) (Bh:Expr) (tn:(St->Nat->Option (Option AV))->St->Nat->Option (Option AV)) (st:Lc->AV->Option Lc):Prop where
 run:UO C d env Aa Bh tn st
structure qU (C:Cfg) (d:Nat) (env:Env) (Aa:List Str) (ifs:List Expr) (t:TM):Prop where
 run:Nf C d env Aa ifs t
structure om (C:Cfg) (d:Nat) (env:Env) (Aa:List Str) (Bh:Expr) (ifs:List Expr) (elt:Expr) (tn:(St->Nat->Option (Option AV))->St->Nat->Option (Option AV)) (st:Lc->AV->Option Lc) (t:TM) (f:EM):Prop where
 tg:qT C d env Aa Bh tn st
 ifs:qU C d env Aa ifs t
 elt:BE C d env Aa elt f
theorem Zx{iter:Expr}(D:BE C d env Aa iter f)(hs:∀ v,foldedSetIterable iter env v=pure v):Zw C d env Aa iter (Wh f):=⟨Zn D.run,hs⟩
theorem iO(H:Aq C)(HC:Bg C)(HA:DV C){iter:Expr}(D:BE C d env Aa iter f)(hs:∀ v,foldedSetIterable iter env v=pure v):Zw C d env Aa iter (Wi f):=⟨Zo H HC HA D.run,hs⟩
theorem Zy(H:Aq C)(He:Cd env Aa)(hv:Ay C "range" (.type "range"))(hk:env.kindOf "range" = some .globalImplicit)(D:Ro C d env Aa es fs):Zw C d env Aa (.Call (.Name "range" p0) es [] p1) (Ry fs):=⟨Zp H He.ok hv hk D.run,λuu=>rfl⟩
theorem Zz(He:Cd env Aa)(hj:Aa[j]?=some n):qT C d env Aa (.Name n pn) id (λlc y=>putL lc j y):=⟨di He.ok hj⟩
theorem fK(He:Cd env Aa){ns:List Str}(T:Xi es ns)(hi:is.map (Aa[·]?)=ns.map some):qT C d env Aa (.Tuple es k0 pt) (bo is.length) (PS is):=⟨dj He.ok T hi⟩
theorem PV:qU C d env Aa [] Fo:=⟨Zq⟩
theorem iP{c:Expr}(D:BT C d env Aa c t):qU C d env Aa [c] t:=⟨Zr D.run⟩
section
variable{iter:Expr}
theorem UQ(PU:FW scope xs=true)(DC:∀ B7:Env,B7.scope=relabel scope env->B7.cells=cl->Cd B7 xs->om C d B7 xs Bh ifs elt tn st t f):Mm C d env scope cl xs Bh ifs elt tn st t f:=by
 have go:∀ B7:Env,B7.scope=relabel scope env->B7.cells=cl->Bi B7 xs->om C d B7 xs Bh ifs elt tn st t f:=λB7 h1 h2 ho=>DC B7 h1 h2 ⟨ho,λy hy=>((K4 PU).loc y hy).2,by
  unfold interactive
  rw[ho.kind];rfl⟩
 exact⟨λB7 h1 h2 ho=>(go B7 h1 h2 ho).tg.run,λB7 h1 h2 ho=>(go B7 h1 h2 ho).ifs.run,λB7 h1 h2 ho=>(go B7 h1 h2 ho).elt.run⟩
theorem Mn(H:Aq C)(HC:Bg C)(He:Cd env Aa)(HK:closureFor scope env=pure cl)(PU:FW scope xs=true)(DI:Zw C (d+1) env Aa iter src)(DC:∀ B7:Env,B7.scope=relabel scope env->B7.cells=cl->Cd B7 xs->om C (d+1) B7 xs Bh ifs elt tn st t f):BE C (d+1) env Aa (.ListComp elt [⟨Bh,iter,ifs,0⟩] scope pos) (EG src xs.length tn st t f) :=
 ⟨Wl H HC He.ok HK (K4 PU) DI.plain DI.run (UQ PU DC)⟩
theorem iQ(H:Aq C)(HC:Bg C)(He:Cd env Aa)(hi:Aa[i]?=some n)(j2:swapsWith (.ListComp elt [⟨Bh,iter,ifs,0⟩] scope pos) (some (.Name n pn)) p.line env=pure true)(HK:closureFor scope env=pure cl)(PU:FW scope xs=true)(DI:Zw C (d+1) env Aa iter src)(DC:∀ B7:Env,B7.scope=relabel scope env->B7.cells=cl->Cd B7 xs->om C (d+1) B7 xs Bh ifs elt tn st t f):BS C (d+1) env Aa (.Assign [.Name n pn] (.ListComp elt [⟨Bh,iter,ifs,0⟩] scope pos) p) (BZ i (EG src xs.length tn st t f)) :=
 ⟨Zs H HC He.ok hi j2 HK (K4 PU) DI.plain DI.run (UQ PU DC)⟩
end
noncomputable abbrev L0(C:Cfg):Addr:=C.s₁.heap.objs.size
structure Gq (C:Cfg) (ρ:D7) (h:Heap) (L:Addr):Prop where
 ns:∃ m,h.Ns (L0 C) m
 nm:¬ Ds C ρ (L0 C)
 ne:L0 C≠L
structure oq (C:Cfg) (env:Env) (A:Around):Prop where
 fr:∃ e,A.frames=some [env,e]/\e.frame=some (L0 C)/\e.scope.kind≠.module
 own:env.frame=some env.locals
noncomputable def Dn(C:Cfg)(h h':Heap):Prop:=∀ o,h.get? (L0 C)=some o->∃ sl,h'.get? (L0 C)=some { o with slots:=sl }
theorem Dn.trans(a:Dn C h h')(b:Dn C h' LZ):Dn C h LZ:=λo e=>CJ (a o e) λuu e'=>CJ (b _ e') λsl vB=>⟨sl,vB⟩
theorem Gq.go(F:Gq C ρ h L)(S:Step C [L] ρ Ar h h'):Gq C Ar h' L/\Dn C h h':=by
 (refine CJ (F.ns) λm hn=>?_)
 have keep:∀ o,h.get? (L0 C)=some o->h'.get? (L0 C)=some o:=λo e=>S.keep _ o e F.nm λq=>F.ne (List.mem_singleton.mp q)
 exact⟨⟨⟨m,hn.at keep⟩,Ds.grow S hn.lt F.nm,F.ne⟩,λo e=>⟨o.slots,keep o e⟩⟩
theorem ns_obj{m:Str->Option Value}(hn:h.Ns L m):∃ o,h.get? L=some o/\(∀ vs n,o.data≠.seq vs n)/\(∀ vs,o.data≠.fields vs):=G7 hn λo es ep ho hd uu=>⟨o,ho,λvs n z=>Data.noConfusion (hd.symm.trans z),λvs z=>Data.noConfusion (hd.symm.trans z)⟩
theorem settle(R:Rel C ρ σ s)(lr:Cx C ρ s.heap L Aa lc)(F:Gq C ρ s.heap L)(k:∀ b o,b∉[L,L0 C]->s.heap.get? b=some o->h'.get? b=some o)(u:∀ b∈[L,L0 C],∀ o,s.heap.get? b=some o->(∀ vs,o.data≠.fields vs)->∃ sl,h'.get? b=some { o with slots:=sl })(z:s.heap.objs.size<=h'.objs.size){n:Nat}:Rel C ρ σ { s with heap:=h',toks:=n }/\Step C [L,L0 C] ρ ρ s.heap h'/\Gq C ρ h' L/\Dn C s.heap h'/\Cx C ρ h' L Aa lc:=by
 obtain⟨⟨m,hn,hv⟩,hm,hl,hz⟩:=lr
 (refine CJ (F.ns) λm0 l8=>?_)
 have two:∀ J∈[L,L0 C],J=L\/J=L0 C:=λJ hJ=>(List.mem_cons.mp hJ).imp id λq=>List.mem_singleton.mp q
 have ob:∀ J∈[L,L0 C],∃ o,s.heap.get? J=some o/\(∀ vs n,o.data≠.seq vs n)/\(∀ vs,o.data≠.fields vs):=λJ hJ=>(two J hJ).elim (λe=>e▸ns_obj hn) λe=>e▸ns_obj l8
 (refine AS (R.moves (n:=n) (Is:=[L,L0 C]) (h':=h') (λJ hJ=>Ci (ob J hJ) λo a b c=>⟨o,a,b,λuu=>c⟩) (λJ hJ=>(two J hJ).elim (λe=>e▸hm) λe=>e▸F.nm) (λJ hJ=>(two J hJ).elim (λe=>e▸hl) λe=>e▸Nat.le_refl _) k z) λR' S'=>?_)
 have ns:∀ J∈[L,L0 C],∀ m,s.heap.Ns J m->h'.Ns J m:=λJ hJ m hn=>G7 hn λo es ep ho hd r=>CJ (u J hJ o ho λvs q=>Data.noConfusion (hd.symm.trans q)) λsl e=>(EY _ es ep ⟨e,hd,r⟩)
 refine⟨R',S',⟨⟨m0,ns _ (by simp) _ l8⟩,F.nm,F.ne⟩,λo e=>Ci (ob (L0 C) (by simp)) λo' e' uu c=>u _ (by simp) o e (Option.some.inj (e'.symm.trans e)▸c),⟨m,ns _ (by simp) _ hn,λi x e=>Dt (hv i x e) λn v a b c=>(B6 n v ⟨a,b,c.step S' λa o vs n ha e z=>Ci (ob a ha) λo' e' c uu=>c vs n (Option.some.inj (e'.symm.trans e)▸z)⟩)⟩,hm,hl,hz⟩
theorem lands(H:Aq C)(He:Bi env Aa)(hA:oq C env A)(R:Rel C ρ σ s)(lr:Cx C ρ s.heap env.locals Aa lc)(F:Gq C ρ s.heap env.locals){AI:Heap}{e:Addr}(hx:Heap.NewExc s.heap AI e "IndexError")(Hy:s.heap.objs.size<=AI.objs.size)(hv:Ay C "IndexError" (.type "IndexError"))(hk:env.kindOf "IndexError" = some .globalImplicit){Q:Flow->Shared->Prop}(k:∀ s',Rel C ρ σ s'->Step C [env.locals,L0 C] ρ ρ s.heap s'.heap->Gq C ρ s'.heap env.locals->Dn C s.heap s'.heap->Cx C ρ s'.heap env.locals Aa lc->Q (.ret .none) s') :
 wpAny (model C.prog C.w) A (noteFrame (.ref e) env) (λuu Ai=>wpAny (model C.prog C.w) A (setFlight (.ref e) none) (λuu AJ=>wpAny (model C.prog C.w) A (handleBy (.ref e) env [.ExceptHandler (some (.Name "IndexError" p0)) none [.Return none p1] p2]) Q E AJ) E Ai) E { s with heap:=AI,toks:=tk }:=by
 (refine Ci (Am lr.1 λm hn uu=>ns_obj hn) λoL hL lE vC=>?_)
 (refine Ci (CJ F.ns λm hn=>ns_obj hn) λo0 h0 h01 vD=>?_)
 (refine Ci (hA.fr) λe' SA vE vF=>?_)
 (refine Dt (hx.there) λob tp he qV hd=>?_)
 have l9:∀ {b:Addr},b∉[env.locals,L0 C]->∀ {o:Obj},s.heap.get? b=some o->(hideAll s.heap [env.locals,L0 C]).get? b=some o:=λhb o ho=>hideAll_get _ ho hb
 have vG:AI.FunFrames (hideAll s.heap [env.locals,L0 C]) [env,e']:=⟨by rw[He.kind];decide,(B6 env.locals oL ⟨hA.own,hideAll_none _ (by simp),hx.keeps _ _ hL,vC⟩),vF,(B6 (L0 C) o0 ⟨vE,hideAll_none _ (by simp),hx.keeps _ _ h0,vD⟩),trivial⟩
 have Gj:(hideAll s.heap [env.locals,L0 C]).get? e=none:=by
  cases q:(hideAll s.heap [env.locals,L0 C]).get? e with
  |none=>rfl
  |some o=>have:=of_hideAll _ q;rw[hx.new] at this;cases this
 unfold noteFrame
 simp only[hA.own]
 refine wpAny_bind (wpAny_field he hd (x:=.none) rfl ?_)
 rw[if_neg (by decide)]
 refine AX (wpAny_entryW (base:=hideAll s.heap [env.locals,L0 C]) (a0:=tp) SA vG hA.own he (λb o e=>hx.keeps _ _ (of_hideAll _ e)) Gj hd (by show 1<6;decide) rfl λDv hN SI=>?_)
 (refine Hv (hN) λb2 f2 t2 u2=>?_;clear hN)
 refine AX (wpAny_setFlight_noneW b2 f2 t2 λGN b3 f3 t3 u3 Pt=>?_)
 have st:∀ {LZ:Heap} {n:Nat},(hideAll s.heap [env.locals,L0 C]).StaysIn LZ->(∀ b o,AI.get? b=some o->(∀ vs,o.data≠.fields vs)->∃ sl,LZ.get? b=some { o with slots:=sl })->s.heap.objs.size<=LZ.objs.size->Rel C ρ σ { s with heap:=LZ,toks:=n }/\Step C [env.locals,L0 C] ρ ρ s.heap LZ/\Gq C ρ LZ env.locals/\Dn C s.heap LZ/\Cx C ρ LZ env.locals Aa lc :=
  λb u z=>settle R lr F (λb' o hb e=>b _ _ (l9 hb e)) (λb' uu o e nf=>u b' o (hx.keeps _ _ e) nf) z
 have w3:s.heap.objs.size<=GN.objs.size:=Nat.le_trans Hy (Nat.le_trans SI Pt)
 have tG:∀ b o,AI.get? b=some o->(∀ vs,o.data≠.fields vs)->∃ sl,GN.get? b=some { o with slots:=sl }:=λb o hb nf=>CJ (u2 b o hb nf) λsl e=>⟨sl,u3 _ _ e nf⟩
 (refine AS (st (n:=tk) b3 tG w3) λR3 uu=>?_)
 (refine Am (t3.at.there) λqW qX qY=>?_)
 refine wpAny_handleBy_builtin (X := "IndexError") (T := "IndexError") (b:=true) PySem.F.isExc_IndexError PySem.F.notTuple_IndexError (by rw[isSubtype_type];left) (CY H He hv hk (by decide) R3 ⟨rfl,⟨qW,qX,qY.trans qV⟩,?_⟩)
 rw[if_pos rfl]
 refine AX (wpAny_setFlight_noneW b3 f3 t3.at λYF b4 f4 t4 u4 qZ=>?_)
 refine wpAny_execs_cons (wpAny_Return_none ?_)
 (refine br (st (n:=tk) b4 (λb o hb nf=>CJ (tG b o hb nf) λsl e=>⟨sl,u4 _ _ e nf⟩) (Nat.le_trans w3 qZ)) λq1 q2 q3 q4 q5=>?_)
 exact k _ q1 q2 q3 q4 q5
structure XS (C:Cfg) (d:Nat) (env:Env) (Aa:List Str) (st:Stmt) (f:SM):Prop where
 run:∀ lc σ fl lc' σ',f lc σ=some (fl,lc',σ')->∀ (A:Around) (Q:Flow->Shared->Prop) (E:Value->Shared->Prop) (s:Shared) (ρ:D7),EL C d A->oq C env A->Rel C ρ σ s->Cx C ρ s.heap env.locals Aa lc->Gq C ρ s.heap env.locals ->
  (∀ w s' Ar,Rel C Ar σ' s'->Step C [env.locals,L0 C] ρ Ar s.heap s'.heap->Cx C Ar s'.heap env.locals Aa lc'->Gq C Ar s'.heap env.locals->Dn C s.heap s'.heap->Ph C Ar s'.heap fl w->Q w s')->wpAny (model C.prog C.w) A (exec st env) Q E s
structure XB (C:Cfg) (d:Nat) (env:Env) (Aa:List Str) (b:List Stmt) (f:SM):Prop where
 run:∀ lc σ fl lc' σ',f lc σ=some (fl,lc',σ')->∀ (A:Around) (Q:Flow->Shared->Prop) (E:Value->Shared->Prop) (s:Shared) (ρ:D7),EL C d A->oq C env A->Rel C ρ σ s->Cx C ρ s.heap env.locals Aa lc->Gq C ρ s.heap env.locals ->
  (∀ w s' Ar,Rel C Ar σ' s'->Step C [env.locals,L0 C] ρ Ar s.heap s'.heap->Cx C Ar s'.heap env.locals Aa lc'->Gq C Ar s'.heap env.locals->Dn C s.heap s'.heap->Ph C Ar s'.heap fl w->Q w s')->wpAny (model C.prog C.w) A (execs b env) Q E s
noncomputable def PW:List AV->Bool
 | []=>true
 | [x]=>match x.int? with
  |some i=>smallInt i
  |none=>false
 | _::_::_=>false
noncomputable def Hl(i:Nat)(fs:List EM)(f:SM):SM:=λlc σ=>(nE i lc σ).bind λr=>r.1.loc?.bind λl=>(CT r.2 l).bind λys=>if ys.isEmpty then (Ft fs lc r.2).bind λq=>(CT q.2 l).bind λzs=>gd (zs.isEmpty&&PW q.1) (.ret .none,lc,q.2) else f lc σ
noncomputable def RC:FM:=λxs σ=>(I5 xs).bind λx=>x.loc?.bind λl=>(CT σ l).bind λys=>if ys.length<=sizeLine then ys.getLast?.map λy=>(y,σ.set l (.list ys.dropLast)) else none
theorem ZA{b:Addr}:∀ x∈[a],x∈[a,b]:=λuu h=>List.mem_cons.mpr (.inl (List.mem_singleton.mp h))
theorem K6{st:Stmt}{f:SM}(D:BS C d env Aa st f):XS C d env Aa st f:=⟨λlc σ fl lc' σ' hf A Q E s ρ hA _ R lr F k =>
 D.run lc σ fl lc' σ' hf A Q E s ρ hA R lr λw s' Ar R' S' l' q'=>AS (F.go S') λF' u=>k w s' Ar R' (S'.weaken ZA) l' F' u q'⟩
theorem ma:XB C d env Aa [] (Ah []):=⟨λlc σ fl lc' σ' hf A Q E s ρ hA a R lr F k=>Pl lc σ fl lc' σ' hf A Q E s ρ hA R lr λw s' Ar R' S' l' q'=>AS (F.go S') λF' u=>k w s' Ar R' (S'.weaken ZA) l' F' u q'⟩
theorem tH{W:List Addr}{a x:Fl}{Q:Flow->Shared->Prop}(k:∀ w s' Ar,Rel C Ar σ' s'->Step C W ρ Ar h s'.heap->Cx C Ar s'.heap L Aa lc'->Gq C Ar s'.heap L->Dn C h s'.heap->Ph C Ar s'.heap x w->Q w s')(e:some (a,lc₁,σ₁)=some (x,lc',σ')) :
 ∀ w s' Ar,Rel C Ar σ₁ s'->Step C W ρ Ar h s'.heap->Cx C Ar s'.heap L Aa lc₁->Gq C Ar s'.heap L->Dn C h s'.heap->Ph C Ar s'.heap a w->Q w s':=by cases e;exact k
set_option tactic.hygienic true
theorem HY{st:Stmt}{r:List Stmt}{f:SM}{fs:List SM}(D1:XS C d env Aa st f)(D2:XB C d env Aa r (Ah fs)):XB C d env Aa (st::r) (Ah (f::fs)):=by
 refine⟨λlc σ fl lc' σ' hf A Q E s ρ hA a R lr F kk=>?_⟩
 refine wpAny_execs_cons (oB hf λt e1 hf=>D1.run _ _ _ _ _ e1 A _ E s ρ hA a R lr F λw s₁ Ad An Aj Ew md me AA=>?_)
 rcases t with ⟨Oe,lc₁,σ₁⟩
 have z:some (Oe,lc₁,σ₁)=some (fl,lc',σ')->Q w s₁:=λe=>tH kk e w s₁ Ad An Aj Ew md me AA
 cases AA with
 |next=>exact D2.run _ _ _ _ _ hf A _ E s₁ Ad hA a An Ew md λw Ai AF Az Au Cu iR iS BL=>kk w Ai AF Az (Aj.trans Au) Cu iR (me.trans iS) BL
 | _=>exact z hf
theorem fL(H:Aq C)(He:Cd env Aa){f:SM}(hi:Aa[i]?=some x)(D:Ro C d env Aa es fs)(hl:es.length<30)(hp:(B1.endLine==p.line)=true)(DS:BS C d env Aa (.Assign [.Name n pn] (.Call (.Attribute (.Name x p0) "pop" B1) es [] p) ps) f)(hv:Ay C "IndexError" (.type "IndexError"))(hk:env.kindOf "IndexError" = some .globalImplicit) :
 XS C d env Aa (.Try [.Assign [.Name n pn] (.Call (.Attribute (.Name x p0) "pop" B1) es [] p) ps] [.ExceptHandler (some (.Name "IndexError" p1)) none [.Return none p2] p3] [] [] p4) (Hl i fs f):=by
 refine⟨λlc σ fl lc' σ' hf A Q E s ρ hA a R lr F kk=>?_⟩
 refine oB hf λr e1 hf=>oB hf λl el hf=>oB hf λys vH hf=>?_
 refine wpAny_Try_except ?_
 cases ys with
 |cons y ys =>
  refine wpAny_execs_cons (DS.run _ _ _ _ _ hf A _ _ s ρ hA R lr λw s₁ Ad An Aj Ew AA=>?_)
  have z:=AS (F.go Aj) λF' u=>kk w s₁ Ad An (Aj.weaken ZA) Ew F' u AA
  cases AA with
  |next=>exact wpAny_execs_nil (wpAny_execs_nil z)
  | _=>exact z
 |nil =>
  refine oB (show(Ft fs lc r.2).bind _=some (fl,lc',σ') from hf) λq e2 hf=>oB hf λzs ey hf=>oG hf λq7 Vs=>?_
  rw[Bool.and_eq_true] at q7
  obtain rfl:=List.isEmpty_iff.mp q7.1
  refine wpAny_execs_cons (wpAny_Assign_Name ?_ rfl)
  refine Jb D.run (λuu uu=>rfl) hl hp (MA He.ok hi (He.nd _ (List.mem_of_getElem? hi)) _ _ _ _ e1 A _ _ s ρ hA R lr λv s₁ Ad An Aj AA=>?_)
  have bS:kind r.2 r.1=2:=by
   rw[AV.loc_inv el]
   show(r.2[l]?.map EN).getD 0=2
   rw[Ei vH];rfl
  refine Mi.run A _ _ s₁ Ad r.2 r.1 v _ An AA bS ?_
  dsimp only
  refine CB H D.run e2 Ak hA An (lr.go Aj) λvs Ai AF Az Au BL=>?_
  have FQ:=(lr.go Aj).go Au
  have ST:=Aj.trans Au
  have iR:=AS (F.go ST.of_nil) λa uu=>a
  have iS:=AS (F.go ST.of_nil) λuu a=>a
  have fin:∀ {AI:Heap} {e:Addr} {tk:Nat},Heap.NewExc Ai.heap AI e "IndexError" -> Ai.heap.objs.size<=AI.objs.size->wpAny (model C.prog C.w) A (noteFrame (.ref e) env) (λuu Ai=>wpAny (model C.prog C.w) A (setFlight (.ref e) none) (λuu AJ=>wpAny (model C.prog C.w) A (handleBy (.ref e) env [.ExceptHandler (some (.Name "IndexError" p1)) none [.Return none p2] p3]) Q E AJ) E Ai) E { Ai with heap:=AI,toks:=tk } :=
   λhx z=>lands H He.ok a Az FQ iR hx z hv hk λs' R' S' F' u' l'=>tH kk (congrArg some Vs) _ s' AF R' (ST.of_nil.trans S') l' F' (iS.trans u') (.ret .none)
  have q1:=AV.loc_inv el▸AA.go Au
  refine Az.list_e (Ei ey) q1 λb ws n e0 ho hs=>?_
  have e3:ws=[]:=Bx.nil_inv hs
  subst e3
  have G6:q.1=[]\/∃ i,q.1=[.int i]/\smallInt i=true:=by
   have h:=q7.2
   unfold PW at h
   split at h
   . exact .inl ‹_›
   . split at h
     . rename_i e _ _ ei
       exact .inr ⟨_,e.trans (by rw[AV.int_inv ei]),h⟩
     . cases h
   . cases h
  rcases G6 with e4|⟨i,e4,hi⟩
  . rw[e4] at BL
    obtain rfl:=Bx.nil_inv BL
    exact AX (call_meets PySem.F.slot_list_pop ⟨_,ho,rfl⟩ PySem.F.entry_list_pop (PySem.F.args_list_pop_1 _) (PySem.AutoSeq1.list_pop_list_0 b #[] n rfl) ⟨ho,hA.1,λh' tk e hx z=>fin hx z⟩)
  . rw[e4] at BL
    (refine Dt (Bx.cons_inv BL) λw uu FP qw q3=>?_;subst FP)
    obtain rfl:=Bx.nil_inv q3
    (refine CJ (VR.int_inv qw) λt IF=>?_;subst IF)
    rw[JZ] at hi
    exact AX (call_meets PySem.F.slot_list_pop ⟨_,ho,rfl⟩ PySem.F.entry_list_pop (PySem.F.args_list_pop_2 _ _) (PySem.AutoSeq1.list_pop_list_int_1 b #[] n i t (by simp -iota [Builtin.List.listFitsIndex];omega) rfl) ⟨ho,hA.1,λh' tk e hx z=>fin hx z⟩)
set_option tactic.hygienic false
theorem ZC:Bp C d (.builtin "list.pop") RC:=by
 intro xs σ x σ' hf A Q E s ρ vs hA R q k
 refine oB hf λz e0 hf=>oB hf λl el hf=>oB hf λys e hf=>sf hf λhz hf=>oM hf λy hy e9=>?_
 have k:=Hz k e9
 revert k
 refine q.arg1_e e0 λv q1 k=>?_
 have q1:=AV.loc_inv el▸q1
 refine R.list_e (Ei e) q1 λa vs n e0 ho hs=>?_
 have Et:=hs.length
 rw[List.getLast?_eq_getElem?] at hy
 refine Am (hs.get hy) λv hv qv=>?_
 have hZ:ys.length-1<vs.length:=(List.getElem?_eq_some_iff.mp hv).1
 refine call_meets PySem.F.slot_list_pop ⟨_,ho,rfl⟩ PySem.F.entry_list_pop (PySem.F.args_list_pop_1 _) (PySem.MeetsSeq.list_pop_last a vs.toArray n v (by rw[List.size_toArray,Et,List.getElem?_toArray];exact hv) (by rw[List.size_toArray,Et];exact hz)) ⟨ho,?_⟩
 rw[List.size_toArray,Et]
 have DW:=Heap.SameBut.update s.heap a (Obj.mapSeq λxs=>xs.eraseIdxIfInBounds (ys.length-1))
 have S:Step C [] ρ ρ s.heap (s.heap.update a (Obj.mapSeq λxs=>xs.eraseIdxIfInBounds (ys.length-1))):=Dk (.inr ⟨_,List.mem_of_getElem? e0,.inl rfl⟩) DW
 have gt:=Ek ho (λxs=>xs.eraseIdxIfInBounds (ys.length-1))
 have er:vs.toArray.eraseIdxIfInBounds (ys.length-1)=(vs.dropLast).toArray:=by
  unfold Array.eraseIdxIfInBounds
  rw[dif_pos (by rw[List.size_toArray];exact hZ),List.eraseIdx_toArray,<- Et,List.eraseIdx_length_sub_one]
 rw[er] at gt
 have Ln:Bx C ρ s.heap ys.dropLast vs.dropLast:=by
  rw[List.dropLast_eq_take,List.dropLast_eq_take,Et]
  exact hs.take _
 exact AS (R.upd (n:=s.toks) e0 (.inl rfl) DW (.list gt (Ln.go S)) rfl) λR' S'=>k _ _ _ R' S' (qv.go S)
theorem iT:BC C d (.builtin "list.pop") RC:=⟨ZC⟩
structure XF (C:Cfg) (d:Nat) (f:Addr) (F:FM):Prop where
 run:∀ xs σ x σ',F xs σ=some (x,σ')->∀ (A:Around) (P:Result->Shared->Prop) (s:Shared) (ρ:D7) (vs:List Value),EL C d A->Rel C ρ σ s->Bx C ρ s.heap xs vs->(∃ m,s.heap.Ns (L0 C) m)->¬ Ds C ρ (L0 C) ->
  (∀ v s' Ar,Rel C Ar σ' s'->Step C [L0 C] ρ Ar s.heap s'.heap->Dn C s.heap s'.heap->VR C Ar s'.heap x v->P (.ok (.ret v)) s')->codeAny (model C.prog C.w) A (.call (.ref f) ⟨vs,[]⟩) P s
theorem q8{f:Addr}{n:Nat}(H:Aq C)(F:C7 C f Aa n)(nd:Aa.all (λx=>!(x==("__debug__" : Str)))=true)(hb:∀ vs:List Value,vs.length=n->bindArgs (Bw C.K f) ⟨vs,[]⟩=pure ((Aa.take n).zip vs))(hd:697<=d+1)(D:∀ L,Cd (Ba C f L) Aa->XB C d (Ba C f L) Aa (Cf C.K f) B):XF C (d+1) f (E5 Aa n B):=by
 refine⟨λxs σ x σ' hf A P s ρ vs hA R q mf qP k=>?_⟩
 have H0:=F.ok0 H hb
 refine sf hf λhn hf=>oB hf λt e1 hf=>?_
 refine Pp H0 H.lim H.stat R.old (Nat.lt_of_le_of_lt (Nat.le_add_right ..) hA.2.1) (q.length.trans hn) λAI tk E' GF CP Hy=>wpAt_of_wpAny ?_
 have IH:s.heap.objs.size<=AI.objs.size:=Hy▸Nat.le_succ _
 have hz:xs.length<=Aa.length:=hn▸H0.n_le
 rw[List.append_nil,List.length_nil,Nat.add_zero,<- hn] at GF
 (refine CJ (mf) λm0 l8=>?_;clear mf)
 have ast:oq C (Ba C f s.heap.objs.size) (A.deeper (Ba C f s.heap.objs.size)):=by
  obtain⟨h1,h2,h3,l,e1,e2,e3,e4⟩:=hA
  refine⟨?_,rfl⟩
  have hr:recursionLimit=1000:=rfl
  rw[hr] at h2
  have hl:l.length<=1:=by omega
  match l,e2,hl with
  | [e],_,_=>exact⟨e,Around.frames_deeper e1,e4 e rfl⟩
  | _::_::_,_,h=>exact absurd h (by simp)
 refine(D s.heap.objs.size (F.envB nd _)).run _ _ _ _ _ e1 _ _ _ _ ρ hA.deeper ast (R.same CP IH R.gens rfl rfl)
  ⟨⟨_,GF,JO H0.nodup hz q (·.go (.same CP IH))⟩,R.fresh,R.size,by unfold Lo;rw[List.length_append,List.length_map,List.length_replicate];exact Nat.add_sub_cancel' hz⟩ ⟨⟨m0,l8.at λo e=>CP _ o e⟩,qP,λe=>Nat.lt_irrefl _ (e▸l8.lt)⟩ λw s' Ar R' S' l' F' u' q'=>?_
 refine AS (JP q' hf) λqx bk=>k _ s' Ar (bk▸R') ?_ (λo e=>u' o (CP _ _ e)) qx
 refine⟨Nat.le_trans IH S'.size,λb o e nm nw=>S'.keep b o (CP b o e) nm λhb=>?_,Am S'.grow λδ e Me=>⟨δ,e,λp hp=>⟨Nat.le_trans IH (Me p hp).1,Nat.le_trans IH (Me p hp).2⟩⟩⟩
 rcases List.mem_cons.mp hb with hb|hb
 . exact Nat.ne_of_lt (Heap.lt_size e) hb
 . exact nw hb
theorem dn(lr:Cx C ρ h (L0 C) Aa lc)(S:Step C [L0 C] ρ Ar h h')(u:Dn C h h'):Cx C Ar h' (L0 C) Aa lc:=by
 obtain⟨⟨m,hn,hv⟩,hm,hl,hz⟩:=lr
 refine⟨⟨m,G7 hn λo es ep ho hd r=>CJ (u o ho) λsl e=>(EY _ es ep ⟨e,hd,r⟩),λi x e=>Dt (hv i x e) λn v a b c=>(B6 n v ⟨a,b,c.step S (CA hn)⟩)⟩,Ds.grow S hn.lt hm,hl,hz⟩
set_option tactic.hygienic true
theorem ZD(H:Aq C)(He:Cd env Aa)(hL:env.locals=L0 C){g:Addr}{F:FM}(hg:BM C k name (.ref g))(hk:BJ C (.ref g))(DF:XF C d g F)(D0:BE C d env Aa o f)(D:Ro C d env Aa es fs)(hb:∀ nm AR,attributeBase o nm env AR=AR)(hl:es.length<30)(hp:(B1.endLine==p.line)=true):BS C d env Aa (.Expr (.Call (.Attribute o name B1) es [] p) p') (Bj (mE k F f fs)):=by
 refine⟨λlc σ fl lc' σ' hf A Q E s ρ hA R lr kk=>oM hf λy hf e9=>wpAny_Expr_any ?_ He.int rfl⟩
 refine oB hf λr e1 hf=>sf hf λbS hf=>oB hf λxs e2 hf=>?_
 refine Jb D.run hb hl hp (D0.run _ _ _ _ e1 A _ E s ρ hA R lr λv s₁ Ad An Aj AA=>?_)
 refine hg.run A _ E s₁ Ad r.2 r.1 v _ An AA bS ?_
 dsimp only
 refine CB H D.run e2 hk hA An (lr.go Aj) λvs Ai AF Az Au BL=>?_
 have FQ:=(lr.go Aj).go Au
 rw[hL] at FQ
 refine wpAny_call (DF.run _ _ _ _ hf A _ Ai AF (v::vs) hA Az (.cons (AA.go Au) BL) (Am FQ.1 λm a uu=>⟨m,a⟩) FQ.2.1 λv' AJ By BY BV q9 Gg=>?_)
 refine Pj kk e9 _ AJ By BY ?_ ?_ .next
 . rw[hL];exact(Aj.trans Au).of_nil.trans BV
 . rw[hL];exact dn FQ BV q9
section
variable{f:Addr}
set_option tactic.hygienic false
theorem ZE(H:Aq C)(F:OI C f x Aa cv)(nd:(x::Aa).all (λy=>!(y==("__debug__" : Str)))=true)(D:Cd (Dw C f (L0 C)) (x::Aa)->BB C d (Dw C f (L0 C)) (x::Aa) (Cf C.K f) B)(R:Rel C [] [] C.s₁)(h1:A.handled=none)(h2:A.depth+(d+1)<recursionLimit)(h3:A.units+8*(d+1)<cLine)(h4:A.frames=some [])(h5:301<=A.depth){ns:List Int}(q:VR C [] C.s₁.heap (.lst (ns.map AV.int)) (.ref l))(e:X9 (x::Aa) B [.lst (ns.map AV.int)] (Jq C.s₁.heap.objs.size cv.length)=some (.bool true,σ'))(k:∀ s' Ar,Rel C Ar σ' s'->Q (.bool true) s'):wpAny (model C.prog C.w) A (call (.ref f) [.ref l]) Q E C.s₁:=by
 have hA:EL C d (A.deeper (Dw C f (L0 C))):=⟨h1,by show A.depth+1+d<_;omega,by show A.units+3+8*d<_;omega,[Dw C f (L0 C)],Around.frames_deeper h4,by simp,by show 1+301<=A.depth+1;omega,λe he=>by
  have he:Dw C f (L0 C)=e:=Option.some.inj he
  subst he
  exact⟨rfl,λe=>ScopeKind.noConfusion ((show(Dw C f (L0 C)).scope.kind=.function from F.sc.2.2.1).symm.trans e)⟩⟩
 refine br F.sc λk1 k2 k3 k4 k6=>?_
 refine oB e λt e1 e2=>?_
 refine Ci (GS F.fn) λo e3 hd ig=>?_
 have hx:(Dw C f C.s₁.heap.objs.size).kindOf x=some .local:=k4 x List.mem_cons_self
 refine wpAny_call (codeAny_call_cells (Nat.lt_of_le_of_lt (Nat.le_add_right ..) h2) (H.kin _ _ e3) hd H.lim (Il H.kin F.code).1 ig (F.bind _) F.clo (λy hy=>?_) (λs₁ X=>?_) k1 k2 k3)
 . cases List.mem_singleton.mp hy
   exact .inl hx
 obtain⟨⟨⟨h,tk,rfl⟩,GF,kp,_⟩,Oo,vw,NR⟩:=X
 have z:C.s₁.heap.objs.size<=h.objs.size:=Nat.le_of_lt GF.lt
 have bL:bindL (Dw C f C.s₁.heap.objs.size).kindOf [(x,Value.ref l)] (λuu=>none)=λy=>if y=x then some (Value.ref l) else none:=by
  unfold bindL bindL;rw[if_pos hx]
 have bC:bindC (Dw C f C.s₁.heap.objs.size).kindOf [(x,Value.ref l)] (λuu=>none)=λuu=>none:=by
  unfold bindC bindC;rw[if_pos hx]
 rw[bL] at GF
 rw[bC] at Oo
 have An:=Wg (k:=cv.length) (tk:=tk) R kp z λj hj=>CJ (F.cells C.s₁.heap.objs.size j hj) λy hy=>Oo y _ hy
 have Aj:Step C [] [] (Wf C.s₁.heap.objs.size cv.length) C.s₁.heap h:=⟨z,λb o e uu uu=>kp b o e,_,(List.nil_append _).symm,λp hp=>by
  (refine Am (List.mem_map.mp hp) λj uu FP=>?_;subst FP)
  exact⟨by dsimp only;omega,by dsimp only;omega⟩⟩
 refine(D (F.envB nd _)).run _ _ _ _ _ e1 _ _ _ _ _ hA An ⟨⟨_,GF,λi y ei=>?_⟩,?_,Nat.le_refl _,by simp[Lo]⟩ λw s' Ar R' S' l' q'=>?_
 . match i,ei with
   | 0,ei=>cases ei;exact(B6 x _ ⟨rfl,if_pos rfl,q.go Aj⟩)
   |i+1,ei =>
    have:(List.replicate Aa.length (none:Option AV))[i]?=some (some y):=ei
    rw[List.getElem?_replicate] at this
    exact sf this λuu e=>nomatch e
 . rintro(t|⟨p,hp,e⟩)
   . exact R.fresh (.inl t)
   . (refine Am (List.mem_map.mp hp) λj uu FP=>?_;subst FP)
     change _=C.s₁.heap.objs.size\/_=C.s₁.heap.objs.size at e
     rcases e with e|e<;>(dsimp only at e;omega)
 . exact AS (JP q' e2) λqx bk=>VR.bool_e (P:=λv=>Q v s') qx (k s' Ar (bk▸R'))
end
noncomputable def Er:List Str:=["_maxlen", "_continuation_ws", "_continuation_ws_len", "_splitchars", "_lines", "_current_line", "header_encoding", "header_encode_lines"]
inductive Tq (P:Params):List (Str×Value)->List DictEntry->Prop
 |nil:Tq P [] []
 |cons {k:Str} {t:Tok} {v:Value} {r:List (Str×Value)} {es:List DictEntry} (b:Tq P r es):Tq P ((k,v)::r) (⟨PyData.keyHash P k,.str k t,v⟩::es)
noncomputable def mh(P:Params)(VF:Addr)(k:Nat)(p:Addr×Addr)(vs:List Value)(o1 o2:Obj):Prop:=o1=⟨.ref VF,some p.2,.plain,#[]⟩/\∃ es n,o2=dictOf es n/\Tq P ((Er.take k).zip vs) es
noncomputable def attrsOf:AO->Option (List AV)
 | .fmt ml cw Cr sp ln ac=>some ((B2 ml cw Cr sp ln ac).map (·.2))
 | .ext k cs=>gd (k==cs.length&&decide (7<=k)&&decide (k<=8)) cs
 | .list _=>none
 | .acc ..=>none
 | .ghost=>none
 | .gen ..=>none
 | .out _=>none
 | .cell ..=>none
noncomputable def Nk(σ:St)(l:Nat):Option (List AV):=σ[l]?.bind attrsOf
structure Wo (C:Cfg):Prop where
 fmt:∀ k,7<=k->k<=8->C.X k=mh C.w.params C.VF k
 att:∀ k,k<8->∀ n,Er[k]?=some n->findIn C.K (.ref C.VF) n=some none
noncomputable def Jt(k:Nat)(f:EM):EM:=λlc σ=>(f lc σ).bind λp=>p.1.loc?.bind λl=>(Nk p.2 l).bind λcs=>cs[k]?.map (·,p.2)
noncomputable def OK(k:Nat)(g f:EM):SM:=λlc σ=>(f lc σ).bind λp=>(g lc p.2).bind λq=>q.1.loc?.bind λl=>(Nk q.2 l).bind λcs=>gd (cs.length==k) (.next,lc,q.2.set l (.ext (k+1) (cs++[p.1])))
set_option tactic.hygienic false
theorem UR{ns:List Str}{es:List DictEntry}(hl:cs.length<=ns.length)(e:CX C ρ h (ns.zip cs) es):∃ vs,Bx C ρ h cs vs/\Tq C.w.params (ns.zip vs) es:=by
 induction cs generalizing ns es with
 |nil =>
  rw[List.zip_nil_right] at e
  cases e
  exact⟨[],.nil,by rw[List.zip_nil_right];exact .nil⟩
 |cons x cs ih=>cases ns with
  |nil=>exact absurd hl (Nat.not_succ_le_zero _)
  |cons n ns =>
   rw[List.zip_cons_cons] at e
   cases e with
   |cons a b=>exact Am (ih (Nat.le_of_succ_le_succ hl) b) λvs q e=>⟨_::vs,.cons a q,.cons e⟩
theorem US{ns:List Str}{es:List DictEntry}(hl:cs.length<=ns.length)(q:Bx C ρ h cs vs)(e:Tq C.w.params (ns.zip vs) es):CX C ρ h (ns.zip cs) es:=by
 induction cs generalizing ns es vs with
 |nil =>
  cases q
  rw[List.zip_nil_right] at e ⊢
  cases e
  exact .nil
 |cons x cs ih=>cases ns with
  |nil=>exact absurd hl (Nat.not_succ_le_zero _)
  |cons n ns=>cases q with
   |cons a q =>
    rw[List.zip_cons_cons] at e ⊢
    cases e with
    |cons b=>exact .cons a (ih (Nat.le_of_succ_le_succ hl) q b)
theorem ZF{n:Nat}:∀ {ns:List Str} {cs:List AV},cs.length=n->(ns.take n).zip cs=ns.zip cs:=by
 induction n with
 |zero=>intro ns cs e;cases cs with|nil=>simp|cons=>cases e
 |succ n ih =>
  intro ns cs e
  cases cs with
  |nil=>cases e
  |cons c cs =>
   cases ns with
   |nil=>rfl
   |cons a ns=>exact congrArg ((a,c)::·) (ih (Nat.succ.inj e))
@[elab_as_elim] theorem Rel.atts_e(HX:Wo C)(R:Rel C ρ σ s){P:Value->Prop}{l:Nat}(hl:Nk σ l=some cs)(q:VR C ρ s.heap (.loc l) v)(k:∀ a dd es n,ρ[l]?=some (a,dd)->s.heap.get? a=some ⟨.ref C.VF,some dd,.plain,#[]⟩->s.heap.get? dd=some (dictOf es n)->CX C ρ s.heap (Er.zip cs) es->cs.length<=8->P (.ref a)):P v:=by
 refine oB hl λo eo hl=>?_
 cases o with
 |fmt ml cw Cr sp ln ac =>
  obtain rfl:=Option.some.inj hl
  exact R.fmt_e eo q λa dd es n e0 ho hd he=>k a dd es n e0 ho hd he (by simp[B2])
 |ext kk rb =>
  refine oG hl λhk e=>?_
  subst e
  simp only[Bool.and_eq_true,beq_iff_eq,decide_eq_true_eq] at hk
  refine q.loc_e λp e0=>?_
  (refine bu (R.st l p _ e0 eo) λo1 o2 vs h1 h2 uu uu qs hX uu=>?_)
  rcases hX with hX|hX
  . omega
  . rw[HX.fmt kk hk.1.2 hk.2] at hX
    obtain⟨rfl,es,n,rfl,he⟩:=hX
    rw[hk.1.1] at he
    exact k p.1 p.2 es n e0 h1 h2 (ZF (ns:=Er) (rfl:rb.length=rb.length)▸US (by rw[List.length_take];show _<=min _ 8;omega) qs he) (by omega)
 | _=>exact ns hl
theorem HZ{x:AV}(hn:Er[k]?=some n)(hx:cs[k]?=some x):(Er.zip cs).lookup n=some x:=by
 have go:∀ {xs:List Str} {vs:List AV} {i:Nat},xs.Nodup->xs[i]?=some n->vs[i]?=some x->(xs.zip vs).lookup n=some x:=by
  intro xs
  induction xs with
  |nil=>intro vs i _ e _;simp at e
  |cons y xs ih =>
   intro vs i nd e e'
   cases vs with
   |nil=>simp at e'
   |cons w vs =>
    rw[List.zip_cons_cons,List.lookup_cons]
    cases i with
    |zero =>
     obtain rfl:=Option.some.inj e
     obtain rfl:=Option.some.inj e'
     simp
    |succ i =>
     have Gj:n≠y:=λz=>(List.nodup_cons.mp nd).1 (z▸List.mem_of_getElem? e)
     rw[beq_false_of_ne Gj]
     exact ih (List.nodup_cons.mp nd).2 e e'
 exact go (by decide) hn hx
theorem K7(hn:Er[k]?=some n)(hc:cs.length=k):(Er.zip cs).lookup n=none:=by
 have go:∀ {xs:List Str} {vs:List AV} {i:Nat},xs.Nodup->xs[i]?=some n->vs.length=i->(xs.zip vs).lookup n=none:=by
  intro xs
  induction xs with
  |nil=>intro vs i _ e _;simp at e
  |cons y xs ih =>
   intro vs i nd e e'
   cases vs with
   |nil=>rfl
   |cons w vs =>
    cases i with
    |zero=>cases e'
    |succ i =>
     rw[List.zip_cons_cons,List.lookup_cons]
     have Gj:n≠y:=λz=>(List.nodup_cons.mp nd).1 (z▸List.mem_of_getElem? e)
     rw[beq_false_of_ne Gj]
     exact ih (List.nodup_cons.mp nd).2 e (Nat.succ.inj e')
 exact go (by decide) hn hc
theorem ZG{ns:List Str}{x:AV}(hn:ns[cs.length]?=some n):ns.zip (cs++[x])=ns.zip cs++[(n,x)]:=by
 induction ns generalizing cs with
 |nil=>simp at hn
 |cons a ns ih =>
  cases cs with
  |nil =>
   obtain rfl:=Option.some.inj hn
   simp
  |cons c cs=>exact congrArg ((a,c)::·) (ih hn)
theorem Wq(H:Aq C)(HC:Bg C)(HX:Wo C)(hn:Er[k]?=some n)(D:AQ C d env Aa o f)(hb:∀ nm AR,attributeBase o nm env AR=AR):AQ C d env Aa (.Attribute o n p) (Jt k f):=by
 intro lc σ x σ' hf A Q E s ρ hA R lr kk
 refine oB hf λy e1 hf=>oB hf λl el hf=>oB hf λcs e2 hf=>oM hf λz hz e3=>?_
 refine Attribute_any_ (D _ _ _ _ e1 A _ E s ρ hA R lr λv s₁ Ad An Aj AA=>?_) (by rw[arm_eval_Attribute,hb])
 have kk:=Hz kk e3
 have AA:VR C Ad s₁.heap (.loc l) v:=AV.loc_inv el▸AA
 refine An.atts_e HX e2 AA λa dd es m e0 ho hd he hl=>?_
 have g:=CO (name:=n) he
 rw[HZ hn hz] at g
 have iU:k<8:=(List.getElem?_eq_some_iff.mp hn).1
 exact Am g λw hw qw=>E6 (An.kin H) (Ex ho hd) HC.vfGa (findObj_own HC.vfDict (HX.att k iU n hn) rfl hw) (GI qw) (kk w _ Ad An.toks Aj qw)
set_option tactic.hygienic true
theorem ZH(H:Aq C)(HX:Wo C)(HS:CZ C C.VF){g:EM}(hn:Er[k]?=some n)(hk:6<=k)(ht:takerIn C.K C.VF n=some none)(D0:AQ C d env Aa o g)(D:AQ C d env Aa e f)(hs:swapsWith e (some (.Attribute o n p')) p.line env=pure false) :
 E4 C d env Aa (.Assign [.Attribute o n p'] e p) (OK k g f):=by
 intro lc σ fl lc' σ' hf A Q E s ρ hA R lr kk
 refine oB hf λy e1 hf=>oB hf λz e2 hf=>oB hf λl el hf=>oB hf λcs hl hf=>oG hf λhc e3=>?_
 refine plainObj_wpAny_Assign_Attribute (D _ _ _ _ e1 A _ E s ρ hA R lr λv s₁ Ad An Aj AA=>D0 _ _ _ _ e2 A _ E s₁ Ad hA An (lr.go Aj) λov Ai AF Az Au BL=>?_) hs
 have hc:cs.length=k:=beq_iff_eq.mp hc
 have iU:k<8:=(List.getElem?_eq_some_iff.mp hn).1
 have BL:VR C AF Ai.heap (.loc l) ov:=AV.loc_inv el▸BL
 refine Az.atts_e HX hl BL λa dd es m e0 ho hd he rd=>?_
 have ge:=CO (name:=n) he
 rw[K7 hn hc] at ge
 have pe:=putL_new (hsh:=PyData.keyHash C.w.params n) (key:=.str n (Ai.toks+1)) (v:=v) ge
 have II:es.length=cs.length:=by rw[he.length,List.length_zip];show min 8 _=_;omega
 refine Mg HS (Az.kin H) (Ex ho hd) rfl hd ht (by rw[ge];rfl) (by rw[pe,List.length_append,II,hc];show k+1<=1000;omega) λh' DW QZ=>?_
 have S:Step C [] AF AF Ai.heap h':=Dk (.inr ⟨_,List.mem_of_getElem? e0,.inr rfl⟩) DW
 have Gj:a≠dd:=by
  rintro rfl
  rw[ho] at hd
  exact Data.noConfusion (congrArg Obj.data (Option.some.inj hd))
 have cj:CX C AF Ai.heap (Er.zip (cs++[y.1])) (es++[⟨PyData.keyHash C.w.params n,.str n (Ai.toks+1),v⟩]):=by
  rw[ZG (by rw[hc];exact hn)]
  exact he.snoc (AA.go Au)
 rw[pe] at QZ
 refine Am (UR (by rw[List.length_append,hc];show k+1<=8;omega) (cj.map (·.go S))) λvs qs hv=>?_
 have ob:Ct C AF h' (a,dd) (.ext (k+1) (cs++[y.1])):=by
  refine(EY _ _ vs ⟨(DW.2 _ Gj).trans ho,QZ,.inl λvs=>Data.noConfusion,.inl λvs=>Data.noConfusion,qs,.inr ?_,λc e=>ns e⟩)
  rw[HX.fmt (k+1) (by omega) (by omega)]
  refine⟨rfl,B6 _ _ ⟨rfl,?_⟩⟩
  have tJ:vs.length=k+1:=by rw[qs.length,List.length_append,hc];rfl
  have tz:∀ {n:Nat} {ns:List Str} {us:List Value},us.length=n->(ns.take n).zip us=ns.zip us:=by
   intro n
   induction n with
   |zero=>intro ns us e;cases us with|nil=>simp|cons=>cases e
   |succ n ih =>
    intro ns us e
    cases us with
    |nil=>cases e
    |cons c us =>
     cases ns with
     |nil=>rfl
     |cons a ns=>exact congrArg ((a,c)::·) (ih (Nat.succ.inj e))
  rw[tz tJ]
  exact hv
 (refine AS (Az.upd (n:=Ai.toks+2) e0 (.inr rfl) DW ob rfl) λR' S'=>?_)
 exact Pj kk e3 _ _ AF R' ((Aj.trans Au).trans S').of_nil (lr.go ((Aj.trans Au).trans S')) .next
variable{B:Lc->St->Option St}{F:Addr}{Ls:List Addr}{arg:Expr}{mi np:Pos}{fn:Str}{g:EM}{l:Nat}{ps:Arguments}{t:Addr×Addr×Array Value}{Mo:List Str}{xs:List AV}
noncomputable def ZI(h:Heap)(c:Addr):Prop:=∃ ob vs v,h.get? c=some ob/\ob.cls=.type "code" /\ ob.data=.fields vs/\vs[1]?=some v
structure dp where
 qual:Str
 params:Arguments
 body:Expr
 scope:Scope
 names:List Str
variable{S:dp}
noncomputable def Tr(S:dp)(p:Addr×Addr)(vs:List Value)(o1 o2:Obj):Prop:=p.2=p.1/\o2=o1/\∃ pm c iV addrs,vs=addrs.map Value.ref/\o1=kla_obj "<lambda>" S.qual S.params S.body S.scope (S.names.zip addrs) pm c iV
noncomputable def iW(σ:St)(p:Addr×Nat):Bool:=match J9 σ p.2 with
 |some g=>g.1==p.1
 |none=>false
noncomputable def iX(k:Nat)(cl:List (Addr×Nat)):EM:=λ_ σ=>gd (cl.all (iW σ)) (.loc σ.length,σ++[.ext k (cl.map λp=>.loc p.2)])
set_option tactic.hygienic false
theorem du(HG:HJ C)(ht:t∈C.tabs)(Ey:env.code=.ref t.1){fl:Nat}{nm qn:Str}{body:FuncBody}(R:Rel C ρ σ s)(k:∀ c s',Kept C s s'->ZI s'.heap c->Q (.ref c) s'):wpAny (model C.prog C.w) A (functionCode env pos fl nm qn ps scope body) Q E s:=by
 (refine Am (R.tab t ht) λmore a b=>?_)
 cases hf:codeAmong pos (t.2.2++more).toList with
 |some cv =>
  (refine Xm (b.codes pos cv hf) λc o vs v qc h1 h2 h3 h4=>?_;subst qc)
  exact wpAny_functionCode_hit Ey a hf (k _ _ (.of R (λuu uu e=>e) (Nat.le_refl _) rfl rfl rfl) (EY o vs v ⟨h1,h2,h3,h4⟩))
 |none =>
  refine wpAny_functionCodeX Ey a b.at_ hf λc' h' tk hx kG DK a' Sv b' Xg=>?_
  have ca:ZI h' c':=by
   (refine LY (id Sv) λc2 o vs t e1 e2 e3 e4=>?_)
   obtain⟨P',_,_,⟨⟨o',CL,x1,x2,x3,x4⟩,_⟩⟩:=Xg
   cases e1
   rw[e2] at x1
   cases x1
   exact(EY o vs _ ⟨e2,x2,e3,e4⟩)
  refine k _ _ ?_ ca
  refine⟨λb' o e n=>hx b' o (λz=>n (z▸List.mem_map_of_mem ht)) e,λt' kK=>?_,Nat.le_trans kG (Nat.le_of_lt DK),R.gens.bare,λuu uu e=>e,rfl,rfl⟩
  by_cases he:t'.2.1=t.2.1
  . obtain rfl:=HG.one t' kK t ht he
    exact⟨more++#[rawInt pos.line,rawInt pos.col,.ref c'],by rw[<- Array.append_assoc];exact a',by rw[<- Array.append_assoc];exact⟨b',MP b hx Sv Xg (a.triples) ⟩⟩
  . (refine Am (R.tab t' kK) λm2 a2 b2=>?_)
    have hc:t'.1≠t.2.1:=by
     intro z
     obtain⟨⟨o,vs,x,y,_⟩,_⟩:=b2.at_
     rw[z,b.at_.2] at x
     cases x;cases y
    exact⟨m2,a2.extBut hx hc he,b2.move (λb' o e hc=>hx b' o (λz=>Jg b (z▸e) hc) e) λo e=>hx _ _ he e⟩
noncomputable def H3(σ:St):List AV->Option (List (Addr×Nat))
 | []=>some []
 |x::r=>x.loc?.bind λi=>(J9 σ i).bind λg=>(H3 σ r).map ((g.1,i)::·)
noncomputable def AO.ext?(k:Nat):AO->Option (List AV)
 | .ext k' cs=>gd (k'==k) cs
 | .list _=>none
 | .fmt ..=>none
 | .acc ..=>none
 | .ghost=>none
 | .gen ..=>none
 | .out _=>none
 | .cell ..=>none
noncomputable def Tt(k n:Nat)(Aa:List Str)(B:List (Addr×Nat)->EM):FM:=λxs σ=>match xs with
 | []=>none
 |f::ys=>f.loc?.bind λl=>(σ[l]?.bind (AO.ext? k)).bind λcs=>(H3 σ cs).bind λcl=>if ys.length=n then B cl (Lo Aa ys) σ else none
noncomputable def dw(h:Heap)(f:Value):Prop:=∃ a o fd,f=.ref a/\h.get? a=some o/\o.data=.func fd
structure RD (C:Cfg) (d:Nat) (F:FM):Prop where
 run:∀ xs σ x σ',F xs σ=some (x,σ')->∀ (A:Around) (Q:Value->Shared->Prop) (E:Value->Shared->Prop) (s:Shared) (ρ:D7) (f:Value) (vs:List Value),EL C d A->Rel C ρ σ s->Bx C ρ s.heap xs (f::vs) ->
  dw s.heap f/\((∀ v s' Ar,Rel C Ar σ' s'->Step C [] ρ Ar s.heap s'.heap->VR C Ar s'.heap x v->Q v s')->wpAny (model C.prog C.w) A (call f vs) Q E s)
noncomputable def Iq(k:Nat)(g:EM)(fs:List EM)(F:FM):EM:=λlc σ=>(g lc σ).bind λr=>r.1.loc?.bind λl=>(Nk r.2 l).bind λcs=>cs[k]?.bind λx=>(Ft fs lc r.2).bind λq=>F (x::q.1) q.2
theorem IZ{x:Addr}{Q:Value×List Value->Shared->Prop}(X:C.K.In s.heap)(I:W.InstAt s.heap x ox Cl od)(bT:findIn C.K (.ref Cl) "__getattribute__" = some (some (.builtin ga)))(XW:(Manifest.canonical ga != "object.__getattribute__")=false)(gH:findIn C.K (.ref Cl) "__getattr__" = some none)(hf:findIn C.K (.ref Cl) name=some none)(k:wpAny (model C.prog C.w) A (getAttr (.ref x) name) (λv s=>Q (v,[]) s) E s):wpAny (model C.prog C.w) A (getMethod (.ref x) name pl) Q E s:=by
 unfold getMethod
 have sp:∀ {nm:Str} {r:Option Value},findIn C.K (.ref Cl) nm=some r->Looks (model C.prog C.w) s.heap (specialOf (.ref x) nm) r:=λe=>I.type.andThen (looks_findIn X e)
 refine wpAny_bind ((sp bT).here ?_)
 dsimp only
 rw[XW,if_neg Bool.false_ne_true]
 refine wpAny_bind ((sp gH).here ?_)
 rw[if_neg (by simp)]
 refine wpAny_bind ((sp hf).here ?_)
 exact wpAny_bind (wpAny_mono k (λv s h=>wpAny_pure h) λuu uu h=>h)
theorem OL{f:Value}(F:dw h f):∃ k,(k=Keeper.frame\/k=Keeper.machine\/k=Keeper.boundFrame)/\Looks (model C.prog C.w) h (keeperOf f) k:=by
 obtain⟨a,⟨c,dd,da,sl⟩,fd,rfl,ho,hd⟩:=F
 dsimp only at hd
 subst hd
 refine⟨.frame,.inl rfl,?_⟩
 unfold keeperOf
 exact(Looks.ld (part:=none) ho).andThen .now
theorem PY(H:Aq C)(HC:Bg C)(HX:Wo C){F:FM}(hn:Er[k]?=some n)(DF:RD C d F)(D0:AQ C d env Aa o g)(D:Ej C d env Aa es fs)(hb:∀ nm AR,attributeBase o nm env AR=AR)(hl:es.length<30)(hp:(B1.endLine==p.line)=true):AQ C d env Aa (.Call (.Attribute o n B1) es [] p) (Iq k g fs F):=by
 intro lc σ y σ' hf A Q E s ρ hA R lr kk
 refine oB hf λr e1 hf=>oB hf λl el hf=>oB hf λcs eW hf=>oB hf λx hx hf=>oB hf λxs e2 hf=>?_
 refine Jb D hb hl hp (D0 _ _ _ _ e1 A _ E s ρ hA R lr λv s₁ Ad An Aj AA=>?_)
 have AA:VR C Ad s₁.heap (.loc l) v:=AV.loc_inv el▸AA
 refine An.atts_e HX eW AA λa dd nS m e0 ho hd he rd=>?_
 have ge:=CO (name:=n) he
 rw[HZ hn hx] at ge
 have iU:k<8:=(List.getElem?_eq_some_iff.mp hn).1
 refine Am ge λfv hw qw=>IZ (An.kin H) (Ex ho hd) HC.vfGa (by decide +kernel) HC.vfGt (HX.att k iU n hn) (E6 (An.kin H) (Ex ho hd) HC.vfGa (findObj_own HC.vfDict (HX.att k iU n hn) rfl hw) (GI qw) ?_)
 dsimp only
 refine callWith_of (P:=λh=>dw h fv) (by rw[noStar D];rfl) (λh=>OL) (JL D e2 hA An.toks (lr.go Aj) λvs Ai AF Az Au BL=>?_)
 have z:=DF.run _ _ _ _ hf A Q E Ai AF fv vs hA Az (.cons (qw.go Au) BL)
 exact⟨z.1,z.2 λv' AJ By BY BV Gg=>kk v' AJ By BY ((Aj.trans Au).trans BV) Gg⟩
theorem dy{args:Args}{o:Obj}{body:Expr}(QP:A.depth<recursionLimit)(ho:s.heap.get? a=some o)(QZ:o.data=.func fd)(Yd:fd.scope.isCoroutine=false)(rf:fd.scope.isGenerator=false)(RE:fd.body=.expr body){oc:Obj}{vs:Array Value}(hc:fd.code=.ref c)(vI:s.heap.get? c=some oc)(vJ:oc.data=.fields vs)(hv:vs[1]?=some v)(h:∀ q:Str,wpAny (model prog w) A.in1 (bindArgs fd args) (λfM s₁ =>
  wpAny (model prog w) A.in1 (newFunctionEnv fd.scope fd.globals fd.closure fM (q ++ ".<locals>.") (some a) fd.code none fd.builtins)
   (λenv Ai=>Ai.heap.NoLimit/\codeAny (model prog w) A (.expr body env) R Ai) (λe s'=>R (.error e) s') s₁) (λe s'=>R (.error e) s') s) :
 codeAny (model prog w) A (.call (.ref a) args) R s:=by
 refine codeAny_of_tree ?_
 show wpAny _ A.in1 (callAny (.ref a) args) _ _ s
 simp -iota only[callAny]
 refine wpAny_bind (wpAny_load ho ?_)
 rw[hc] at h
 simp only[QZ,callFunction,Yd,rf,RE,hc]
 refine wpAny_bind (m:=field (.ref c) 1) (wpAny_field vI vJ hv ?_)
 have fin:∀ q:Str,wpAny (model prog w) A.in1 (do
  let env <- newFunctionEnv fd.scope fd.globals fd.closure (<- bindArgs fd args) (q ++ ".<locals>.") (some a) (.ref c) none fd.builtins
  enterFrame
  again (.expr body env)) (λr s'=>match r with
   | .done f=>R (.ok f) s'
   | .again c'=>c'.quiet=true/\codeAny (model prog w) A c' R s') (λe s'=>R (.error e) s') s:=λq =>
  wpAny_bind (wpAny_mono (h q) (λfM s₁ AI=>wpAny_bind (wpAny_mono AI (λenv Ai Dv=>wpAny_bind (wpAny_enterFrame Dv.1 QP (wpAny_pure (And.intro rfl Dv.2)))) λuu uu h'=>h')) λuu uu h'=>h')
 cases v with
 |str q t=>exact wpAny_bind (wpAny_pure (fin q))
 | _=>exact wpAny_bind (wpAny_pure (fin fd.qualname))
theorem PZ(h:σ[l]?.bind (AO.ext? k)=some cs):σ[l]?=some (.ext k cs):=oB h λo e h=>by
 cases o with
 |ext k' rb=>exact oG h λa b=>by rw[e,beq_iff_eq.mp a,b]
 | _=>exact ns h
theorem LD(R:Rel C ρ σ s):∀ {cs:List AV} {cl:List (Addr×Nat)} {addrs:List Addr},H3 σ cs=some cl->Bx C ρ s.heap cs (addrs.map Value.ref)->addrs=cl.map (·.1)
 | [],cl,addrs,h,q=>by
  cases Option.some.inj h
  cases addrs with
  |nil=>rfl
  |cons a r=>cases q
 |x::cs,cl,addrs,h,q=>oB h λi ei h=>oB h λg hg h=>oM h λcl' h' e=>by
  cases addrs with
  |nil=>cases q
  |cons a r =>
   cases q with
   |cons q1 q2 =>
    subst e
    have ih:=LD R h' q2
    rw[AV.loc_inv ei] at q1
    have:Value.ref a=Value.ref g.1:=by
     (refine Am (VR.loc_inv q1) λp e1 e2=>?_)
     refine Am (R.obj (Ip hg)) λp' e3 ob=>AS ob λep uu=>?_
     rw[e1] at e3
     rw[e2,Option.some.inj e3,ep]
    rw[ih,Value.ref.inj this]
    rfl
noncomputable def Nl(scope:Scope)(Aa:List Str)(n:Nat):Bool :=
 !scope.isCoroutine&&!scope.isGenerator&&(scope.kind==.function)&&scope.names.all (λx=>!(x.2==.cell))&&Aa.all (λx=>scope.names.lookup x==some .local)&&Aa.all (λy=>!(y==("__debug__" : Str)))&&decide Aa.Nodup&&decide (n<=Aa.length)
set_option tactic.hygienic true
theorem iY(H:Aq C){n:Nat}{B:List (Addr×Nat)->EM}(hX:C.X k=Tr S)(hk:k≠0)(hs:Nl S.scope Aa n=true)(ZJ:∀ cl pm ou iV (vs:List Value),vs.length=n->bindArgs (kla_fn "<lambda>" S.qual S.params S.body S.scope cl pm ou iV) ⟨vs,[]⟩=(pure ((Aa.take n).zip vs):Sem (List (Str×Value))))(D:∀ env cl,env.scope=S.scope->env.cells=S.names.zip (cl.map (·.1))->Cd env Aa->BE C d env Aa S.body (B cl)):RD C (d+1) (Tt k n Aa B):=by
 unfold Nl at hs
 simp -iota only[Bool.and_eq_true,Bool.not_eq_true',List.all_eq_true,beq_iff_eq,decide_eq_true_eq] at hs
 obtain⟨⟨⟨⟨⟨⟨⟨h1,h2⟩,h3⟩,h4⟩,h5⟩,h6⟩,h7⟩,h8⟩:=hs
 refine⟨λxs σ x σ' hf A Q E s ρ f vs hA R q=>?_⟩
 cases q with
 |cons q0 qs =>
  rename_i x0 ys
  refine oB (show(x0.loc?.bind λl=>(σ[l]?.bind (AO.ext? k)).bind λcs=>(H3 σ cs).bind λcl=>if ys.length=n then B cl (Lo Aa ys) σ else none)=some (x,σ') from hf) λl el hf=>oB hf λcs eW hf=>oB hf λcl JF hf=>sf hf λhn hf=>?_
  rw[AV.loc_inv el] at q0
  (refine Am (VR.loc_inv q0) λp e0 FP=>?_;subst FP)
  (refine bu (R.st l p _ e0 (PZ eW)) λo1 o2 us g1 uu uu uu vK hx ck=>?_)
  rcases hx with hx|hx
  . exact absurd hx hk
  rw[hX] at hx
  obtain⟨_,_,pm,c,iV,addrs,rfl,rfl⟩:=hx
  have hv:=qs.length.trans hn
  obtain rfl:=LD R JF vK
  refine⟨(EY p.1 _ _ ⟨rfl,g1,rfl⟩),λkk=>?_⟩
  (refine Sj (ck c rfl) λob ws v c1 c2 c3 c4=>?_)
  refine wpAny_call (dy (Nat.lt_of_le_of_lt (Nat.le_add_right ..) hA.2.1) g1 rfl h1 h2 rfl rfl c1 c3 c4 λq=>?_)
  rw[ZJ _ _ _ _ vs hv]
  refine wpAny_pure (wpAny_newFunctionEnv (λx hx e=>by have:=h4 x hx;rw[e] at this;cases this) (λy hy=>h5 _ (List.mem_of_mem_take (List.of_mem_zip hy).1)) (λAI GF DW=>?_) h3)
  have CP:∀ b o,s.heap.get? b=some o->AI.get? b=some o:=λb o e=>(DW.2 b (Nat.ne_of_lt (Heap.lt_size e))).trans (Heap.get?_push_of_some _ e)
  have Hy:AI.objs.size=s.heap.objs.size+1:=DW.1.trans (Heap.size_push ..)
  have IH:s.heap.objs.size<=AI.objs.size:=Hy▸Nat.le_succ _
  refine⟨Am H.lim λmc a b=>⟨mc,a.at λo e=>CP _ _ (R.old _ _ e H.stat),b⟩,?_⟩
  refine kla_codeExpr ?_
  have hz:ys.length<=Aa.length:=hn▸h8
  rw[<- hn] at GF
  refine(D _ cl ?e1 ?e2 ?e3).run _ _ _ _ hf _ _ _ _ ρ hA.deeper (R.same CP IH R.gens rfl rfl)
   ⟨⟨_,GF,JO h7 hz qs (·.go (.same CP IH))⟩,R.fresh,R.size,by unfold Lo;rw[List.length_append,List.length_map,List.length_replicate];exact Nat.add_sub_cancel' hz⟩ λv' s' Ar R' S' q'=>?_
  case e1=>rfl
  case e2=>rfl
  case e3=>exact⟨⟨h3,h5,h7,rfl,rfl⟩,h6,by unfold interactive;rw[show Scope.kind (Env.scope _)=.function from h3];rfl⟩
  refine kk v' s' Ar R' ⟨Nat.le_trans IH S'.size,λb o e nm w=>S'.keep b o (CP b o e) nm w,Am S'.grow λδ e Me=>⟨δ,e,λp hp=>⟨Nat.le_trans IH (Me p hp).1,Nat.le_trans IH (Me p hp).2⟩⟩⟩ q'
inductive TG where
 |loc (i:Nat)
 |cell (c:Addr) (l:Nat)
variable{ts:List TG}
noncomputable def mj:TG->AV->Lc->St->Option (Lc×St)
 | .loc i,x,lc,σ=>(putL lc i x).map (·,σ)
 | .cell c l,x,lc,σ=>(iJ c l x σ).map (lc,·)
noncomputable def UT:List TG->List AV->Lc->St->Option (Lc×St)
 | [],[],lc,σ=>some (lc,σ)
 |t::ts,x::xs,lc,σ=>(mj t x lc σ).bind λp=>UT ts xs p.1 p.2
 | [],_::_,_,_=>none
 | _::_,[],_,_=>none
noncomputable def mn(env:Env)(Aa:List Str)(n:Str):TG->Prop
 | .loc i=>Aa[i]?=some n
 | .cell c _=>env.kindOf n=some .cell/\env.cells.lookup n=some c
inductive C8 (env:Env) (Aa:List Str):List Str->List TG->Prop
 |nil:C8 env Aa [] []
 |cons {n:Str} {t:TG} {ns:List Str} {ts:List TG} (a:mn env Aa n t) (b:C8 env Aa ns ts):C8 env Aa (n::ns) (t::ts)
set_option tactic.hygienic false
theorem C8.len{ns:List Str}(a:C8 env Aa ns ts):ns.length=ts.length:=by
 induction a with
 |nil=>rfl
 |cons _ _ ih=>exact congrArg (·+1) ih
theorem OM:∀ {ts:List TG} {xs:List AV} {lc:Lc} {σ:St} {r:Lc×St},UT ts xs lc σ=some r->xs.length=ts.length
 | [],[],_,_,_,_=>rfl
 | _::_,_::_,_,_,_,h=>oB h λuu uu h=>congrArg (·+1) (OM h)
 | [],_::_,_,_,_,h=>ns h
 | _::_,[],_,_,_,h=>ns h
noncomputable def Kd(ts:List TG)(f:EM):SM:=λlc σ=>(f lc σ).bind λp=>(itemsOf p.2 p.1).bind λxs=>(UT ts xs lc p.2).map λr=>(.next,r.1,r.2)
theorem dz(He:Bi env Aa){t:TG}(T:mn env Aa n t){x:AV}{Q:Unit->Shared->Prop}(hp:mj t x lc σ=some (lc',σ'))(R:Rel C ρ σ s)(lr:Cx C ρ s.heap env.locals Aa lc)(q:VR C ρ s.heap x v)(k:∀ s',Rel C ρ σ' s'->Step C [env.locals] ρ ρ s.heap s'.heap->Cx C ρ s'.heap env.locals Aa lc'->Q () s'):wpAny (model C.prog C.w) A (storeName env n v) Q E s:=by
 cases t with
 |loc i =>
  refine oM hp λlc₁ h e=>?_
  cases e
  exact Ea He T h R lr q k
 |cell c l =>
  refine oM hp λσ₁ h e=>?_
  cases e
  exact Nd He T.1 T.2 h R q λs' R' S'=>k s' R' S'.of_nil (lr.go S')
theorem ZK(He:Bi env Aa){ns:List Str}(T:Xi es ns):∀ {ts:List TG} {xs:List AV} {vs:List Value} {lc lc':Lc} {σ σ':St} {s:Shared} {Q:Unit->Shared->Prop},C8 env Aa ns ts->UT ts xs lc σ=some (lc',σ')->Rel C ρ σ s->Cx C ρ s.heap env.locals Aa lc ->
 Bx C ρ s.heap xs vs->(∀ s',Rel C ρ σ' s'->Step C [env.locals] ρ ρ s.heap s'.heap->Cx C ρ s'.heap env.locals Aa lc'->Q () s')->wpAny (model C.prog C.w) A (assignInOrder ((assignEach es env).map (·.2)) vs) Q E s:=by
 induction T with
 |nil =>
  intro ts xs vs lc lc' σ σ' s Q hi hp R lr q k
  cases hi
  cases xs with
  |cons=>exact nomatch hp
  |nil =>
   have hp:some (lc,σ)=some (lc',σ'):=hp
   cases hp
   exact wpAny_pure (k s R .refl lr)
 |cons h ih =>
  intro ts xs vs lc lc' σ σ' s Q hi hp R lr q k
  cases hi with
  |cons a b =>
   cases xs with
   |nil=>exact nomatch hp
   |cons x xs =>
    refine oB hp λr h1 h2=>q.cons_e λv ws qv qs=>?_
    refine wpAny_bind (wpAny_holding (wpAny_assign_Name (dz He a (lc':=r.1) (σ':=r.2) h1 R lr qv λs₁ An Aj Ew=>?_)))
    exact ih b h2 An Ew (qs.step Aj (CA lr.1.choose_spec.1)) λAi Az Au Cu=>k Ai Az (Aj.trans Au) Cu
theorem Tu{x:AV}{n:Nat}{Q:List Value->Shared->Prop}(hx:itemsOf σ x=some xs)(hn:n=xs.length)(hh:A.handled=none)(R:Rel C ρ σ s)(q:VR C ρ s.heap x v)(k:∀ vs s',Rel C ρ σ s'->Step C [] ρ ρ s.heap s'.heap->Bx C ρ s'.heap xs vs->Q vs s'):wpAny (model C.prog C.w) A (unpackItems v n none) Q E s:=by
 have fin:∀ (vs:List Value) (h':Heap),(∀ b o,s.heap.get? b=some o->h'.get? b=some o)->s.heap.objs.size<=h'.objs.size->Bx C ρ s.heap xs vs->Q vs { s with heap:=h' }:=λvs h' kp z qs=>by
  have S':Step C [] ρ ρ s.heap h':=.same kp z
  exact k vs _ (R.same kp z R.gens rfl rfl) S' (qs.go S')
 subst hn
 refine oO hx (λhx=>q.ES hx λa vs n ho uu qs=>?_) λhx=>R.asList_e q hx λa vs n ho qs=>?_
 . rw[<- qs.length]
   show wpAny _ _ (unpackItems (.ref a) vs.toArray.size none) _ E s
   exact unpack_tuple (items:=vs.toArray) hh ⟨_,ho,rfl,_,rfl⟩ λh' kp z=>fin vs h' kp z qs
 . rw[<- qs.length]
   show wpAny _ _ (unpackItems (.ref a) vs.toArray.size none) _ E s
   exact AX (kun_itemsOf hh (IsL.isList ho) λh' he z=>fin vs h' (λb o e=>he b o (Nat.ne_of_lt (Heap.lt_size e)) e) z qs)
set_option tactic.hygienic true
theorem ZL(He:Bi env Aa){ns:List Str}(T:Xi es ns)(hi:C8 env Aa ns ts)(D:AQ C d env Aa e f)(hs:swapsWithSole [.Tuple es k0 pt] e p.line env=pure false)(hw:swappedStores [.Tuple es k0 pt] e env=pure none):E4 C d env Aa (.Assign [.Tuple es k0 pt] e p) (Kd ts f):=by
 intro lc σ fl lc' σ' hf A Q E s ρ hA R lr kk
 refine oB hf λy e1 hf=>oB hf λxs ex hf=>oM hf λr hp e9=>?_
 refine Assign_Tuple (D _ _ _ _ e1 A _ E s ρ hA R lr λv s₁ Ad An Aj AA=>?_) hs hw
 rw[arm_assign_Tuple]
 refine wpAny_bind (wpAny_standAt ?_)
 unfold unpack
 rw[T.len.1,T.len.2]
 refine wpAny_bind (wpAny_holding (?_:wpAny (model C.prog C.w) A (unpackItems v ns.length none) _ E s₁))
 refine Tu ex (hi.len.trans (OM hp).symm) hA.1 An AA λvs Ai Az Au qs=>?_
 exact ZK He T (lc':=r.1) (σ':=r.2) hi hp Az ((lr.go Aj).go Au) qs λAJ BY BV IK=>Pj kk e9 _ AJ Ad BY ((Aj.trans Au).of_nil.trans BV) IK .next
section
open Builtin Builtin.Str
noncomputable def Ke:FM:=λxs σ=>(I5 xs).bind λx=>x.str?.bind λx=>gd (decide (x.length<=1000000)) (.str (Txt.strip x),σ)
set_option tactic.hygienic false
theorem P0(h:PyData.strOk x=true):PyData.strOk (Txt.strip x)=true:=by
 unfold Txt.strip Txt.stripBy
 split
 . exact h
 . exact Ik h
theorem Tv:Bp C d (.builtin "str.strip") Ke:=by
 intro xs σ x σ' hf A Q E s ρ vs hA R q k
 refine oB hf λx e0 hf=>oB hf λx ex hf=>oG hf λhz e=>?_
 have k:=Hz k e
 have hz:=of_decide_eq_true hz
 revert k
 exact q.arg1_e e0 λv q1 k=>q1.str_of ex λt ok=>SC.strip (λt' tk=>k _ _ ρ R.toks .refl (.str _ _ (P0 ok))) (by rw[sizeLine_eq];omega)
theorem ZM:BC C d (.builtin "str.strip") Ke:=⟨Tv⟩
theorem dA(H:Aq C)(HC:Bg C)(HX:Wo C)(hn:Er[k]?=some n)(D:BE C d env Aa o f)(hb:∀ nm AR,attributeBase o nm env AR=AR):BE C d env Aa (.Attribute o n p) (Jt k f):=⟨Wq H HC HX hn D.run hb⟩
theorem Qa(H:Aq C)(HX:Wo C)(HS:CZ C C.VF)(hn:Er[k]?=some n)(hk:6<=k)(ht:takerIn C.K C.VF n=some none)(D0:BE C d env Aa o g)(D:BE C d env Aa e f)(hs:swapsWith e (some (.Attribute o n p')) p.line env=pure false) :
 BS C d env Aa (.Assign [.Attribute o n p'] e p) (OK k g f):=⟨ZH H HX HS hn hk ht D0.run D.run hs⟩
theorem Tw(H:Aq C)(HC:Bg C)(HX:Wo C){F:FM}(hn:Er[k]?=some n)(DF:RD C d F)(D0:BE C d env Aa o g)(D:Ro C d env Aa es fs)(hb:∀ nm AR,attributeBase o nm env AR=AR)(hl:es.length<30)(hp:(B1.endLine==p.line)=true):BE C d env Aa (.Call (.Attribute o n B1) es [] p) (Iq k g fs F):=⟨PY H HC HX hn DF D0.run D.run hb hl hp⟩
theorem RD.up{F:FM}(D:RD C d' F)(h:d'<=d):RD C d F:=⟨λxs σ x σ' hf A Q E s ρ f vs hA R q=>D.run xs σ x σ' hf A Q E s ρ f vs (hA.mono h) R q⟩
theorem K8(He:Cd env Aa){ns:List Str}(T:Xi es ns)(hi:C8 env Aa ns ts)(D:BE C d env Aa e f)(hs:swapsWithSole [.Tuple es k0 pt] e p.line env=pure false)(hw:swappedStores [.Tuple es k0 pt] e env=pure none):BS C d env Aa (.Assign [.Tuple es k0 pt] e p) (Kd ts f):=⟨ZL He.ok T hi D.run hs hw⟩
end
noncomputable def H4(t:TM)(B O:SM):Nat->SM
 | 0=>λ_ _=>none
 |n+1=>λlc σ=>(t lc σ).bind λp=>if p.1 then (B lc p.2).bind λr=>match r.1 with
  | .next=>H4 t B O n r.2.1 r.2.2
  | .cont=>H4 t B O n r.2.1 r.2.2
  | .brk=>some (.next,r.2)
  | .ret v=>some (.ret v,r.2) else O lc p.2
noncomputable def Qb(t:TM)(B O:SM):SM:=H4 t B O 1000000
theorem Ws{t:TM}{B:SM}(DT:KD C d env Aa Rq t)(DB:G8 C d env Aa body B)(DO:G8 C d env Aa Co O):E4 C d env Aa (.While Rq body Co p) (Qb t B O):=by
 intro lc σ fl lc' σ' hf A Q E s ρ hA R lr kk
 have go:∀ (n:Nat) (lc:Lc) (σ:St) (s₁:Shared) (Ad:D7),H4 t B O n lc σ=some (fl,lc',σ')->Rel C Ad σ s₁->Cx C Ad s₁.heap env.locals Aa lc->Step C [env.locals] ρ Ad s.heap s₁.heap->WhlRest C.prog C.w A (λuu uu=>False) env Rq body Co Q n s₁:=by
  intro n
  induction n with
  |zero=>intro lc σ s₁ Ad h;exact ns h
  |succ n ih =>
   intro lc σ s₁ Ad h An Ew Aj
   refine oB h λb e1 h=>?_
   refine whl_turn ?_ (DT lc σ b.1 b.2 e1 A _ _ s₁ Ad hA An Ew λAi AF Az Au=>?_)
   . exact PassesOwn.never
   . have Cu:=Ew.go Au
     have UU:=Aj.trans Au.of_nil
     rcases b with ⟨⟨⟩,σ₁⟩
     . exact WhlIf.no rfl (DO lc σ₁ fl lc' σ' h A _ _ Ai AF hA Az Cu λw AJ By BY BV IK Gg=>kk w AJ By BY (UU.trans BV) IK Gg)
     . refine WhlIf.yes rfl (oB (show(B lc σ₁).bind _=some (fl,lc',σ') from h) λr e2 h=>DB lc σ₁ r.1 r.2.1 r.2.2 e2 A _ _ Ai AF hA Az Cu λw AJ By BY BV IK Gg=>?_)
       rcases r with ⟨f1,oy,EZ⟩
       have S:=UU.trans BV
       cases Gg with
       |next=>exact ih oy EZ AJ By h BY IK S
       |cont=>exact ih oy EZ AJ By h BY IK S
       |brk =>
        have h:some (Fl.next,oy,EZ)=some (fl,lc',σ'):=h
        exact Xt kk h _ AJ By BY S IK .next
       |ret q =>
        have h:some (Fl.ret _,oy,EZ)=some (fl,lc',σ'):=h
        exact Xt kk h _ AJ By BY S IK (.ret q)
 exact wpAny_mono (whl_start 1000000 (go 1000000 lc σ s ρ hf R lr .refl)) (λuu uu h=>h) λuu uu h=>h.elim
set_option tactic.hygienic false
theorem dB{t:TM}{B:SM}(DT:BT C d env Aa Rq t)(DB:BB C d env Aa body B)(DO:BB C d env Aa Co O):BS C d env Aa (.While Rq body Co p) (Qb t B O):=⟨Ws DT.run DB.run DO.run⟩
noncomputable def Xj(a b:Int×Int):Bool:=decide (a.1<b.1)||(a.1==b.1&&decide (a.2<b.2))
theorem dC(l b:Addr)(i j i' j':Int)(t u t' u':Tok)(n n2:Nat)(dd vL:Option Addr)(sl vM:Array (Option Value)) :
 Meets (Builtin.«tuple.__lt__» ⟨[.ref l,.ref b],[]⟩)
  (λA R s=>s.heap.get? l=some { cls:=.type "tuple",dict:=dd,data:=.seq #[.int i t,.int j u] n,slots:=sl }/\s.heap.get? b=some { cls:=.type "tuple",dict:=vL,data:=.seq #[.int i' t',.int j' u'] n2,slots:=vM } /\
   R (.ok (.ret (.bool (Xj (i,j) (i',j'))))) s) :=
 .of_wp λprog w A R s h=>by
  obtain⟨hp,g,d,tk,os⟩:=s;obtain⟨hl,hb,h⟩:=h
  have f2:=AutoSeq1.sub_tuple_tuple
  have lt:∀ {x y:Int} {tx ty:Tok} {Q:Value->Shared->Prop} {E:Value->Shared->Prop} {s:Shared},Q (.bool (decide (x<y))) s->wpAny (model prog w) A.in1 (richCompare .Lt (.int x tx) (.int y ty)) Q E s:=λh =>
   richCompare_gives (op:=.Lt) (typeIs_int _ _ _) (typeIs_int _ _ _) F.slot_int_lt F.entry_int_lt (F.args_int_lt_2 _ _) (gives_int_lt _ _ _ _) (λx=>nomatch x) h
  unfold Xj at h
  by_cases hi:i=i'
  . subst hi
    by_cases hj:j=j'
    . subst hj
      have e1:∀ {Q:Bool->Shared->Prop} {E:Value->Shared->Prop} {s:Shared},Q true s->wpAny (model prog w) A.in1 (eqBool (.int i t) (.int i t')) Q E s:=λh=>wpAny_eqBool_int (by rw[beq_self_eq_true];exact h)
      have e2:∀ {Q:Bool->Shared->Prop} {E:Value->Shared->Prop} {s:Shared},Q true s->wpAny (model prog w) A.in1 (eqBool (.int j u) (.int j u')) Q E s:=λh=>wpAny_eqBool_int (by rw[beq_self_eq_true];exact h)
      wp_walk using wpAny_loadPart' hl,wpAny_loadPart' hb,e1,e2
      exact⟨.bool false,rfl,by simpa using h⟩
    . have e1:∀ {Q:Bool->Shared->Prop} {E:Value->Shared->Prop} {s:Shared},Q true s->wpAny (model prog w) A.in1 (eqBool (.int i t) (.int i t')) Q E s:=λh=>wpAny_eqBool_int (by rw[beq_self_eq_true];exact h)
      have e2:∀ {Q:Bool->Shared->Prop} {E:Value->Shared->Prop} {s:Shared},Q false s->wpAny (model prog w) A.in1 (eqBool (.int j u) (.int j' u')) Q E s:=λh=>wpAny_eqBool_int (by rw[beq_false_of_ne hj];exact h)
      wp_walk using wpAny_loadPart' hl,wpAny_loadPart' hb,e1,e2,lt
      exact⟨.bool (decide (j<j')),rfl,by simpa using h⟩
  . have e1:∀ {Q:Bool->Shared->Prop} {E:Value->Shared->Prop} {s:Shared},Q false s->wpAny (model prog w) A.in1 (eqBool (.int i t) (.int i' t')) Q E s:=λh=>wpAny_eqBool_int (by rw[beq_false_of_ne hi];exact h)
    wp_walk using wpAny_loadPart' hl,wpAny_loadPart' hb,e1,lt
    rw[beq_false_of_ne hi,Bool.false_and,Bool.or_false] at h
    exact⟨.bool (decide (i<i')),rfl,h⟩
noncomputable def K9(h:Heap)(v:Value)(p:Int×Int):Prop:=∃ a t u n dd sl,v=.ref a/\h.get? a=some { cls:=.type "tuple",dict:=dd,data:=.seq #[.int p.1 t,.int p.2 u] n,slots:=sl }
section
variable{n:Nat}{P:Nat->Value->Prop}{St:Nat->Heap->Prop}{base:Heap}
theorem Wt{v':Value}{p q:Int×Int}(h1:K9 s.heap v p)(h2:K9 s.heap v' q)(hu:A.units<cLine)(k:Q (.bool (Xj p q)) s):wpAny (model prog w) A (richCompare .Lt v v') Q E s:=by
 obtain⟨a,t,u,n,dd,sl,rfl,ha⟩:=h1
 obtain⟨b,t',u',n',nO,td,rfl,hb⟩:=h2
 exact richCompare_meets_room (op:=.Lt) ⟨_,ha,rfl⟩ ⟨_,hb,rfl⟩ F.slot_tuple_lt F.entry_tuple_lt (F.args_tuple_lt_2 _ _) (dC a b p.1 p.2 q.1 q.2 t u t' u' n n' dd nO sl td) ⟨ha,hb,And.intro (λz=>nomatch z) k⟩ hu
noncomputable def mq(base:Heap)(prog:Program)(w:World)(A:Around)(P:Nat->Value->Prop)(bt:Nat->Nat->Bool):Prop :=
 ∀ i j vi vj (s:Shared) (Q:Value->Shared->Prop) (E:Value->Shared->Prop),(∀ b o,base.get? b=some o->s.heap.get? b=some o)->P i vi->P j vj->Q (.bool (bt i j)) s->wpAny (model prog w) A (richCompare .Lt vi vj) Q E s
theorem Wu(W:Walks prog w A.in1 I fp wr n P St)(bt:Nat->Nat->Bool)(iZ:mq base prog w A.in1 P bt)(S:Addr)(Vz:S∉fp)(hw:∀ b∈wr,base.get? b=none)(j3:base.get? S=none) :
 ∀ (k j:Nat) (s:Shared) (vb:Value) (c:Nat),n-(j+1)=k->j+1<=n->St (j+1) s.heap->P (argBest bt j) vb->(∀ b o,base.get? b=some o->s.heap.get? b=some o) ->
 s.heap.get? S=some { cls:=.type "list",dict:=none,data:=.seq #[vb,vb] c,slots:=#[] } ->
 (∀ v h' tk,P (argBest bt (n-1)) v->(∀ b o,base.get? b=some o->h'.get? b=some o)->s.heap.objs.size<=h'.objs.size->R (.ok (.ret v)) { s with heap:=h',toks:=tk }) ->
 codeAny (model prog w) A (.builtin "min.loop" ⟨[.ref I,.none,.ref S],[]⟩) R s:=by
 have jQ:S∉wr:=λh=>Vz (W.sub _ h)
 have ON:(toString "min" ++ toString ".loop" : String) = "min.loop" := by decide
 have mr:∀ {h h':Heap},(∀ b o,base.get? b=some o->h.get? b=some o)->(∀ b o,b∉wr->h.get? b=some o->h'.get? b=some o)->∀ b o,base.get? b=some o->h'.get? b=some o:=λk k' b o e=>k' b o (λz=>by rw[hw b z] at e;cases e) (k b o e)
 have ups:∀ {h:Heap} {f:Obj->Obj},(∀ b o,base.get? b=some o->h.get? b=some o)->∀ b o,base.get? b=some o->(h.update S f).get? b=some o:=λk b o e=>(Heap.get?_update_other _ _ (λz:S=b=>by rw[z,e] at j3;cases j3)).trans (k b o e)
 intro k
 induction k with
 |zero =>
  intro j s vb c hk hj hst oz hB hS hR
  have jR:j+1=n:=Nat.le_antisymm hj (Nat.sub_eq_zero_iff_le.mp hk)
  refine codeAny_builtin F.entry_min_loop ?_
  rw[Around.under_plainId F.plain_min_loop _]
  show wpAny _ A.in1 (seqItems? (.ref S) >>= _) _ _ s
  refine wpAny_bind (wpAny_seqItems hS rfl ?_)
  show wpAny _ A.in1 (tryCatch (pyNext (.ref I)) _ >>= _) _ _ s
  refine wpAny_bind (wpAny_tryCatch (AX (W.done s _ _ (jR▸hst) λh' tk Pq z=>?_)))
  have VA:=Pq S _ jQ hS
  show wpAny _ A.in1 (updateSeq S (λuu=>#[]) >>= _) _ _ _
  refine wpAny_bind ?_
  refine wpAny_updateSeq VA rfl (wpAny_bind (wpAny_letGo (wpAny_pure ?_)))
  exact hR vb _ tk (by rw[<- jR];exact oz) (ups (mr hB Pq)) (by rw[Heap.size_after_update];exact z)
 |succ k ih =>
  intro j s vb c hk hj hst oz hB hS hR
  have DK:j+1<n:=Nat.lt_of_sub_eq_succ hk
  refine codeAny_builtin F.entry_min_loop ?_
  rw[Around.under_plainId F.plain_min_loop _]
  show wpAny _ A.in1 (seqItems? (.ref S) >>= _) _ _ s
  refine wpAny_bind (wpAny_seqItems hS rfl ?_)
  show wpAny _ A.in1 (tryCatch (pyNext (.ref I)) _ >>= _) _ _ s
  refine wpAny_bind (wpAny_tryCatch (AX (W.item (j+1) s _ _ DK hst λv h' tk hP MO Pq z=>?_)))
  have VA:=Pq S _ jQ hS
  have rg:=mr hB Pq
  show wpAny _ A.in1 (tryCatch (holding [v,v] (richCompare .Lt v vb >>= _)) _ >>= _) _ _ _
  refine wpAny_bind (wpAny_tryCatch (wpAny_holding (wpAny_bind (iZ (j+1) (argBest bt j) v vb _ _ _ rg hP oz ?_))))
  refine wpAny_bind (wpAny_holding (wpAny_truthy_bool ?_))
  refine wpAny_bind (wpAny_letGo (wpAny_pure ?_))
  cases hb:bt (j+1) (argBest bt j) with
  |true =>
   simp -iota only[if_true]
   refine wpAny_bind ?_
   refine wpAny_updateSeq VA rfl (wpAny_bind (wpAny_letGo ?_))
   rw[ON]
   refine wpAny_pure ⟨plainId_quiet F.plain_min_loop _,ih (j+1) _ v _ ((Nat.sub_succ n (j+1)).trans (congrArg Nat.pred hk)) DK (W.frame _ _ _ MO λb rh o e=>?_) (by simp -iota only[argBest,hb,if_true];exact hP) (ups rg) (Heap.get?_update_self _ VA rfl)
    λv' LZ ZN Xg ZO dD=>?_⟩
   . exact(Heap.get?_update_other _ _ (λh:S=b=>Vz (by rw[h];exact rh))).trans e
   . exact hR v' LZ ZN Xg ZO (Nat.le_trans z (by rw[Heap.size_after_update] at dD;exact dD))
  |false =>
   simp -iota only[Bool.false_eq_true,if_false]
   refine wpAny_bind (wpAny_letGo ?_)
   rw[ON]
   exact wpAny_pure ⟨plainId_quiet F.plain_min_loop _,ih (j+1) _ vb c ((Nat.sub_succ n (j+1)).trans (congrArg Nat.pred hk)) DK MO (by simp -iota only[argBest,hb,Bool.false_eq_true,if_false];exact oz) rg VA λv' LZ ZN Xg ZO dD=>hR v' LZ ZN Xg ZO (Nat.le_trans z dD)⟩
theorem Wv(W:Walks prog w A.in1 I fp wr n P St)(bt:Nat->Nat->Bool)(iZ:mq base prog w A.in1 P bt)(S:Addr)(Vz:S∉fp)(hw:∀ b∈wr,base.get? b=none)(j3:base.get? S=none)(hn:0<n){c:Nat}(hst:St 0 s.heap)(hB:∀ b o,base.get? b=some o->s.heap.get? b=some o)(hS:s.heap.get? S=some { cls:=.type "list",dict:=none,data:=.seq #[] c,slots:=#[] })(hR:∀ v h' tk,P (argBest bt (n-1)) v->(∀ b o,base.get? b=some o->h'.get? b=some o)->s.heap.objs.size<=h'.objs.size->R (.ok (.ret v)) { s with heap:=h',toks:=tk }) :
 codeAny (model prog w) A (.builtin "min.loop" ⟨[.ref I,.none,.ref S],[]⟩) R s:=by
 have jQ:S∉wr:=λh=>Vz (W.sub _ h)
 have ON:(toString "min" ++ toString ".loop" : String) = "min.loop" := by decide
 refine codeAny_builtin F.entry_min_loop ?_
 rw[Around.under_plainId F.plain_min_loop _]
 show wpAny _ A.in1 (seqItems? (.ref S) >>= _) _ _ s
 refine wpAny_bind (wpAny_seqItems hS rfl ?_)
 show wpAny _ A.in1 (tryCatch (pyNext (.ref I)) _ >>= _) _ _ s
 refine wpAny_bind (wpAny_tryCatch (AX (W.item 0 s _ _ hn hst λv h' tk hP MO Pq z=>?_)))
 have VA:=Pq S _ jQ hS
 show wpAny _ A.in1 (updateSeq S (λuu=>#[v,v]) >>= _) _ _ _
 refine wpAny_bind ?_
 refine wpAny_updateSeq VA rfl ?_
 rw[ON]
 refine wpAny_pure ⟨plainId_quiet F.plain_min_loop _,Wu W bt iZ S Vz hw j3 _ 0 _ v _ rfl hn (W.frame _ _ _ MO λb rh o e=>?_) hP (λb o e=>?_) (Heap.get?_update_self _ VA rfl) λv' LZ ZN Xg ZO dD=>hR v' LZ ZN Xg ZO (Nat.le_trans z (by rw[Heap.size_after_update] at dD;exact dD))⟩
 . exact(Heap.get?_update_other _ _ (λh:S=b=>Vz (by rw[h];exact rh))).trans e
 . exact(Heap.get?_update_other _ _ (λz:S=b=>by rw[z,e] at j3;cases j3)).trans (Pq b o (λz=>by rw[hw b z] at e;cases e) (hB b o e))
end
theorem ZP{b:Addr}(z:h.objs.size<=b):h.get? b=none:=by
 cases q:h.get? b with
 |none=>rfl
 |some o=>exact absurd (Heap.lt_size q) (Nat.not_lt.mpr z)
noncomputable def ER(p:Int×Int):AV:=.tup [.int p.1,.int p.2]
noncomputable def AV.pair?(x:AV):Option (Int×Int):=x.tup?.bind λys=>(JG ys).bind λq=>q.1.int?.bind λi=>q.2.int?.map λj=>(i,j)
noncomputable def pairsOf:List AV->Option (List (Int×Int))
 | []=>some []
 |x::xs=>x.pair?.bind λp=>(pairsOf xs).map (p::·)
noncomputable def Si(ps:List (Int×Int))(i j:Nat):Bool:=Xj (ps.getD i (0,0)) (ps.getD j (0,0))
noncomputable def UW:FM:=λxs σ=>(I5 xs).bind λx=>(Bq σ x).bind λys=>(pairsOf ys).bind λps=>ps[argBest (Si ps) (ps.length-1)]?.map λp=>(ER p,σ)
theorem ZQ{x:AV}{p:Int×Int}(h:x.pair?=some p):x=ER p:=oB h λys e1 h=>oB h λq e2 h=>oB h λi e3 h=>oM h λj e4 h=>by
 rw[AV.tup_inv e1,Mx e2,AV.int_inv e3,AV.int_inv e4,<- h];rfl
theorem OO:∀ {xs:List AV} {ps:List (Int×Int)},pairsOf xs=some ps->xs=ps.map ER
 | [],ps,h=>by rw[<- Option.some.inj h];rfl
 |x::xs,ps,h=>oB h λp e1 h=>oM h λqs e2 h=>by rw[<- h,ZQ e1,OO e2];rfl
theorem dE{p:Int×Int}(q:VR C ρ h (ER p) v):K9 h v p:=by
 refine q.tup_e λa vs n ho hm hs=>?_
 obtain⟨v1,r,rfl,q1,hs⟩:=hs.cons_inv
 obtain⟨v2,r2,rfl,q2,hs⟩:=hs.cons_inv
 obtain rfl:=hs.nil_inv
 obtain⟨t,rfl⟩:=VR.int_inv q1
 obtain⟨u,rfl⟩:=VR.int_inv q2
 exact(jM a t u n none _ ⟨rfl,ho⟩)
theorem ZR(hd:1<=d):Bp C d (.builtin "min") UW:=by
 intro xs σ x σ' hf A Q E s ρ vs hA R q k
 refine oB hf λx e0 hf=>oB hf λys cU hf=>oB hf λps n8 hf=>oM hf λp hp e=>?_
 have k:=Hz k e
 revert k
 refine q.arg1_e e0 λv q1 k=>R.asList_e q1 cU λa ws n ho hs=>?_
 obtain rfl:=OO n8
 have hl:s.heap.IsList a ws.toArray:=IsL.isList ho
 have Et:ws.length=ps.length:=hs.length.trans (by rw[List.length_map])
 have hn:0<ws.toArray.size:=by
  rw[List.size_toArray,Et]
  cases ps with
  |nil=>simp at hp
  |cons=>exact Nat.succ_pos _
 have ON:(toString "min" ++ toString ".loop" : String) = "min.loop" := by decide
 have lt:a<s.heap.objs.size:=by obtain⟨_,e,_⟩:=hl;exact Heap.lt_size e
 refine AX (call_function_tree F.kind_min F.plain_min F.entry_min (F.args_min1 _) ?_)
 show wpAny _ A.in1 (Builtin.Builtins.bindParams "min" ["key", "default"] 0 ⟨[],[]⟩ >>= _) _ _ s
 refine wpAny_bind (wpAny_of_eq (show Builtin.Builtins.bindParams "min" ["key", "default"] 0 ⟨[],[]⟩=pure [none,none] from rfl) ?_)
 refine wpAny_bind (wpAny_pure ?_)
 refine wpAny_bind (wpAny_pyIter_list hl ?_)
 refine wpAny_bind (wpAny_newObj_type ?_)
 rw[ON]
 have zI:(s.heap.push { cls:=.type "list_iterator",data:=.fields #[.ref a,.int 0 0] }).objs.size=s.heap.objs.size+1:=Heap.size_push ..
 have k1:∀ b o,s.heap.get? b=some o->(s.heap.push { cls:=.type "list_iterator",data:=.fields #[.ref a,.int 0 0] }).get? b=some o:=λb o e=>Heap.get?_push_of_some _ e
 refine wpAny_pure ⟨plainId_quiet F.plain_min_loop _,Wv (base:=s.heap) (Walks.list (A:=A.in1) hA.1 s.heap.objs.size a (Nat.ne_of_lt lt) ws.toArray) (Si ps) (λi j vi vj s' Q E hB hi hj kk=>?_) _ (λhm=>?_) (λb hb=>?_) ?_ hn ⟨⟨_,Heap.get?_push_of_some _ (Heap.get?_push_size _ rfl),rfl,rfl⟩,(hl.push _).push _⟩ (λb o e=>Heap.get?_push_of_some _ (k1 b o e)) (Heap.get?_push_size _ rfl) λv' h' tk hP hk z=>?_⟩
 . have gp:∀ {i:Nat} {v:Value},ws.toArray[i]?=some v->K9 s.heap v (ps.getD i (0,0)):=λ{i v} h=>by
    have h:ws[i]?=some v:=by simpa using h
    have hi:=(List.getElem?_eq_some_iff.mp h).1
    have hp:(ps.map ER)[i]?=some (ER (ps.getD i (0,0))):=by rw[List.getElem?_map];simp -iota [Et▸hi]
    obtain⟨v',QO,qv⟩:=hs.get hp
    rw[h] at QO
    exact dE (Option.some.inj QO▸qv)
   have up:∀ {v p},K9 s.heap v p->K9 s'.heap v p:=λ⟨a,t,u,n,dd,sl,e1,e2⟩=>⟨a,t,u,n,dd,sl,e1,hB _ _ e2⟩
   refine Wt (up (gp hi)) (up (gp hj)) ?_ kk
   have:=hA.2.2.1
   show A.units+1<cLine
   omega
 . have hm:s.heap.objs.size+1∈[s.heap.objs.size,a]:=zI▸hm
   rcases List.mem_cons.mp hm with e|hm
   . exact absurd e (Nat.succ_ne_self _)
   . have:=List.mem_singleton.mp hm
     rw[<- this] at lt
     exact Nat.lt_irrefl _ (Nat.lt_of_succ_lt lt)
 . exact ZP (Nat.le_of_eq (List.mem_singleton.mp hb).symm)
 . exact ZP (Nat.le_trans (Nat.le_succ _) (Nat.le_of_eq zI.symm))
 . intro _
   have z2:((s.heap.push { cls:=.type "list_iterator",data:=.fields #[.ref a,.int 0 0] }).push { cls:=.type "list",data:=.seq #[] }).objs.size<=h'.objs.size:=z
   rw[Heap.size_push,Heap.size_push] at z2
   have z':s.heap.objs.size<=h'.objs.size:=Nat.le_trans (Nat.le_succ _) (Nat.le_trans (Nat.le_succ _) z2)
   rw[List.size_toArray,Et] at hP
   have hP:ws[argBest (Si ps) (ps.length-1)]?=some v':=by simpa using hP
   obtain⟨v2,nY,qv⟩:=hs.get (show(ps.map ER)[argBest (Si ps) (ps.length-1)]?=some (ER p) by rw[List.getElem?_map,hp];rfl)
   rw[hP] at nY
   obtain rfl:=Option.some.inj nY
   exact k _ _ ρ (R.same hk z' R.gens rfl rfl) (.same hk z') (qv.go (.same (W:=[]) hk z'))
theorem i3(hd:1<=d):BC C d (.builtin "min") UW:=⟨ZR hd⟩
noncomputable def dF(f g:EM):TM:=λlc σ=>(f lc σ).bind λa=>(g lc a.2).bind λb=>a.1.str?.bind λx=>b.1.tup?.bind λys=>(strsOf ys).map λzs=>(zs.any (·==x),b.2)
noncomputable def tK(x:Str):Value->Bool
 | .str y _=>y==x
 | _=>false
section
variable{l r:Expr}
theorem ZS:∀ {ys:List AV} {zs:List Str} {vs:List Value},strsOf ys=some zs->Bx C ρ h ys vs->vs.any (tK x)=zs.any (·==x)/\∀ v∈vs,∃ y t,v=.str y t:=by
 intro ys
 induction ys with
 |nil =>
  intro zs vs e q
  obtain rfl:=q.nil_inv
  obtain rfl:=Option.some.inj e
  exact⟨rfl,λv hv=>nm hv⟩
 |cons y ys ih =>
  intro zs vs e q
  (refine Dt (q.cons_inv) λv ws FP q1 q2=>?_;subst FP)
  refine oB (show y.str?.bind (λz=>(strsOf ys).map (z::·))=some zs from e) λz e1 e=>oM e λzs' e2 e3=>?_
  (refine AS (ih e2 q2) λh1 h2=>?_)
  subst e3
  refine q1.str_of e1 λt uu=>⟨?_,λv hv=>(List.mem_cons.mp hv).elim (λe=>(B6 z t e)) (h2 v)⟩
  rw[List.any_cons,List.any_cons,h1];rfl
theorem ZT(D1:AQ C (d+1) env Aa l f)(D2:AQ C (d+1) env Aa r g)(hb:behindInMarks .In r=false):KD C (d+1) env Aa (.Compare l [.In] [r] p) (dF f g):=by
 intro lc σ x σ' hf A Q E s ρ hA R lr kk
 refine oB hf λa e1 hf=>oB hf λb e2 hf=>oB hf λz ez hf=>oB hf λys ey hf=>oM hf λzs qu e'=>?_
 refine wpAny_isTrue_Compare1 (D1 _ _ _ _ e1 A _ E s ρ hA R lr λva s₁ Ad An Aj AA=>D2 _ _ _ _ e2 A _ E s₁ Ad hA An (lr.go Aj) λvb Ai AF Az Au BL=>?_) hb
 have q2:VR C AF Ai.heap (.tup ys) vb:=AV.tup_inv ey▸BL
 refine(AA.go Au).str_of ez λt uu=>q2.tup_e λa vs n ho hm hs=>?_
 (refine AS (ZS (x:=z) qu hs) λh1 h2=>?_)
 refine SeqAt.in_tupleAt (tK z) ⟨_,ho,rfl,_,rfl⟩ (λy hy=>?_) ?_
 . (refine ID (h2 y (by simpa using hy)) λy' t' FP=>?_;subst FP)
   exact SeqAt.EqAt.str_str y' t' z t
 . rw[<- Array.any_toList,h1]
   exact wpAny_truthy_bool (kj kk e' Ai AF Az (Aj.trans Au))
theorem i4(D1:BE C (d+1) env Aa l f)(D2:BE C (d+1) env Aa r g)(hb:behindInMarks .In r=false):BT C (d+1) env Aa (.Compare l [.In] [r] p) (dF f g):=⟨ZT D1.run D2.run hb⟩
end
noncomputable def II:Str := "header_encode_lines"
noncomputable def LG(P:Params)(VF F:Addr)(p:Addr×Addr)(vs:List Value)(o1 o2:Obj):Prop:=o1=⟨.ref VF,some p.2,.plain,#[]⟩/\vs.length=7/\∃ es t n,o2=dictOf (es++[⟨PyData.keyHash P II,.str II t,.ref F⟩]) n/\Tq P (Er.zip vs) es
theorem ZU{es:List DictEntry}{e:DictEntry}(h:getL name es=some (some v)):getL name (es++[e])=some (some v):=by
 unfold getL at h ⊢
 rw[List.find?_append]
 cases q:es.find? (·.key.isStr name) with
 |some e'=>rw[q] at h;exact h
 |none=>rw[q] at h;dsimp only at h;split at h<;>cases h
theorem ZV{es:List DictEntry}{t:Tok}(h:getL name es=some none):getL name (es++[⟨hsh,.str name t,v⟩])=some (some v):=by
 unfold getL at h ⊢
 rw[List.find?_append]
 cases q:es.find? (·.key.isStr name) with
 |some e'=>rw[q] at h;cases h
 |none=>simp[Value.isStr]
@[elab_as_elim] theorem Rel.fail_e(ZX:C.X 9=LG C.w.params C.VF F)(R:Rel C ρ σ s){P:Value->Prop}(hl:σ[l]?=some (.ext 9 cs))(q:VR C ρ s.heap (.loc l) v)(k:∀ a dd es e n,ρ[l]?=some (a,dd)->s.heap.get? a=some ⟨.ref C.VF,some dd,.plain,#[]⟩->s.heap.get? dd=some (dictOf (es++[e]) n)->CX C ρ s.heap (Er.zip cs) es->cs.length=7->getL II (es++[e])=some (some (.ref F))->P (.ref a)):P v:=by
 refine q.loc_e λp e0=>?_
 (refine bu (R.st l p _ e0 hl) λo1 o2 vs h1 h2 uu uu qs hX uu=>?_)
 rcases hX with hX|hX
 . cases hX
 rw[ZX] at hX
 obtain⟨rfl,hv,es,t,n,rfl,he⟩:=hX
 have hc:cs.length=7:=qs.length.symm.trans hv
 have hr:=US (C:=C) (ns:=Er) (by rw[hc];decide) qs he
 have ge:=CO (name:=II) hr
 rw[K7 (k:=7) (n:=II) rfl hc] at ge
 exact k p.1 p.2 es _ n e0 h1 h2 hr hc (ZV ge)
noncomputable def Nm(k:Nat)(f:EM):EM:=λlc σ=>(f lc σ).bind λp=>p.1.loc?.bind λl=>(p.2[l]?.bind (AO.ext? 9)).bind λcs=>cs[k]?.map (·,p.2)
theorem Ww(H:Aq C)(HC:Bg C)(HX:Wo C)(ZX:C.X 9=LG C.w.params C.VF F)(hn:Er[k]?=some n)(D:AQ C d env Aa o f)(hb:∀ nm AR,attributeBase o nm env AR=AR):AQ C d env Aa (.Attribute o n p) (Nm k f):=by
 intro lc σ x σ' hf A Q E s ρ hA R lr kk
 refine oB hf λy e1 hf=>oB hf λl el hf=>oB hf λcs e2 hf=>oM hf λz hz e3=>?_
 refine Attribute_any_ (D _ _ _ _ e1 A _ E s ρ hA R lr λv s₁ Ad An Aj AA=>?_) (by rw[arm_eval_Attribute,hb])
 have kk:=Hz kk e3
 have AA:VR C Ad s₁.heap (.loc l) v:=AV.loc_inv el▸AA
 refine An.fail_e ZX (PZ e2) AA λa dd es e m e0 ho hd he hl uu=>?_
 have g:=CO (name:=n) he
 rw[HZ hn hz] at g
 have iU:k<8:=(List.getElem?_eq_some_iff.mp hn).1
 exact Am g λw hw qw=>E6 (An.kin H) (Ex ho hd) HC.vfGa (findObj_own HC.vfDict (HX.att k iU n hn) rfl (ZU hw)) (GI qw) (kk w _ Ad An.toks Aj qw)
theorem dG(H:Aq C)(HC:Bg C)(HX:Wo C)(ZX:C.X 9=LG C.w.params C.VF F)(hn:Er[k]?=some n)(D:BE C d env Aa o f)(hb:∀ nm AR,attributeBase o nm env AR=AR):BE C d env Aa (.Attribute o n p) (Nm k f):=⟨Ww H HC HX ZX hn D.run hb⟩
noncomputable def Nn(g:EM):SM:=λlc σ=>(g lc σ).bind λq=>q.1.loc?.bind λl=>(Nk q.2 l).bind λcs=>gd (cs.length==7) (.next,lc,q.2.set l (.ext 9 cs))
set_option tactic.hygienic true
theorem RF(H:Aq C)(He:Bi env Aa)(HX:Wo C)(ZX:C.X 9=LG C.w.params C.VF F)(HS:CZ C C.VF)(hv:Ay C fn (.ref F))(hk:env.kindOf fn=some .globalImplicit)(ic:(fn==("__debug__" : Str))=false)(ht:takerIn C.K C.VF II=some none)(D0:AQ C d env Aa o g)(hs:swapsWith (.Name fn pn) (some (.Attribute o II p')) p.line env=pure false) :
 E4 C d env Aa (.Assign [.Attribute o II p'] (.Name fn pn) p) (Nn g):=by
 intro lc σ fl lc' σ' hf A Q E s ρ hA R lr kk
 refine oB hf λz e2 hf=>oB hf λl el hf=>oB hf λcs hl hf=>oG hf λhc e3=>?_
 refine plainObj_wpAny_Assign_Attribute (CY H He hv hk ic R (D0 _ _ _ _ e2 A _ E s ρ hA R lr λov Ai AF Az Au BL=>?_)) hs
 have hc:cs.length=7:=beq_iff_eq.mp hc
 have BL:VR C AF Ai.heap (.loc l) ov:=AV.loc_inv el▸BL
 refine Az.atts_e HX hl BL λa dd es m e0 ho hd he rd=>?_
 have ge:=CO (name:=II) he
 rw[K7 (k:=7) (n:=II) rfl hc] at ge
 have pe:=putL_new (hsh:=PyData.keyHash C.w.params II) (key:=.str II (Ai.toks+1)) (v:=.ref F) ge
 have ri:es.length=cs.length:=by rw[he.length,List.length_zip];show min 8 _=_;omega
 refine Mg HS (Az.kin H) (Ex ho hd) rfl hd ht (by rw[ge];rfl) (by rw[pe,List.length_append,ri,hc];show 7+1<=1000;omega) λh' DW QZ=>?_
 have S:Step C [] AF AF Ai.heap h':=Dk (.inr ⟨_,List.mem_of_getElem? e0,.inr rfl⟩) DW
 have Gj:a≠dd:=by
  rintro rfl
  rw[ho] at hd
  exact Data.noConfusion (congrArg Obj.data (Option.some.inj hd))
 rw[pe] at QZ
 refine Am (UR (by rw[hc];decide) (he.map (·.go S))) λvs qs hv=>?_
 have ob:Ct C AF h' (a,dd) (.ext 9 cs):=by
  refine(EY _ _ vs ⟨(DW.2 _ Gj).trans ho,QZ,.inl λvs=>Data.noConfusion,.inl λvs=>Data.noConfusion,qs,.inr ?_,λc e=>ns e⟩)
  rw[ZX]
  exact⟨rfl,qs.length.trans hc,EY _ _ _ ⟨rfl,hv⟩⟩
 (refine AS (Az.upd (n:=Ai.toks+2) e0 (.inr rfl) DW ob rfl) λR' S'=>?_)
 exact Pj kk e3 _ _ AF R' (Au.trans S').of_nil (lr.go (Au.trans S')) .next
set_option tactic.hygienic false
theorem Wx(H:Aq C)(He:Cd env Aa)(HX:Wo C)(ZX:C.X 9=LG C.w.params C.VF F)(HS:CZ C C.VF)(hv:Ay C fn (.ref F))(hk:env.kindOf fn=some .globalImplicit)(ic:(fn==("__debug__" : Str))=false)(ht:takerIn C.K C.VF II=some none)(D0:BE C d env Aa o g)(hs:swapsWith (.Name fn pn) (some (.Attribute o II p')) p.line env=pure false) :
 BS C d env Aa (.Assign [.Attribute o II p'] (.Name fn pn) p) (Nn g):=⟨RF H He.ok HX ZX HS hv hk ic ht D0.run hs⟩
noncomputable def ZY(B:EM):List (Addr×Nat)->EM
 | []=>B
 | _::_=>λ_ _=>none
theorem i5(H:Aq C){n:Nat}{B:EM}(hX:C.X k=Tr S)(hk:k≠0)(hs:Nl S.scope Aa n=true)(j4:S.names=[])(ZJ:∀ cl pm ou iV (vs:List Value),vs.length=n->bindArgs (kla_fn "<lambda>" S.qual S.params S.body S.scope cl pm ou iV) ⟨vs,[]⟩=(pure ((Aa.take n).zip vs):Sem (List (Str×Value))))(D:∀ env,env.scope=S.scope->env.cells=[]->Cd env Aa->BE C d env Aa S.body B):RD C (d+1) (Tt k n Aa (ZY B)) :=
 iY H hX hk hs ZJ λenv cl h1 h2 He=>match cl,h2 with
  | [],h2=>D env h1 (by rw[h2,j4];rfl) He
  | _::_,_=>⟨λuu uu uu uu h=>ns h⟩
theorem ZZ{f:Addr}(H:eU C f Aa m [] [] body fd)(KP:C.s₁.heap.NoLimit)(hst:¬ C.isTab cStatics)(old:Lp C s)(QP:A.depth<recursionLimit)(hm:vs.length=m)(k:∀ AI tk,AI.Ns s.heap.objs.size (λx=>((Aa.take m).zip vs).reverse.lookup x)->(∀ b o,s.heap.get? b=some o->AI.get? b=some o)->AI.objs.size=s.heap.objs.size+1 ->
  wpAny (model C.prog C.w) (A.deeper (Hx fd f s.heap.objs.size)) (execs body (Hx fd f s.heap.objs.size)) (λw s'=>P (.ok (.ret (match w with | .ret v=>v | _=>.none))) s')
   (λe s'=>wpAny (model C.prog C.w) (A.deeper (Hx fd f s.heap.objs.size)) (leaving (Hx fd f s.heap.objs.size) e) (λuu Pe=>P (.error e) Pe) (λe' Pe=>P (.error e') Pe) s') { s with heap:=AI,toks:=tk }) :
 codeAny (model C.prog C.w) A (.call (.ref f) ⟨vs,[]⟩) P s:=by
 refine Am H.obj λo ho hd=>?_
 have Ey:s.heap.CodeRec fd.code fd.qualname:=LY H.crec λc o' CL t e1 e2 e3 e4=>(Lm c o' CL t ⟨e1,old c o' e2 (H.codeNo c e1),e3,e4⟩)
 refine codeAny_call_function QP (old f o ho H.notTab) hd H.coro H.gen H.bd Ey ?_
 refine H.bind s old vs hm _ _ _ _ ?_
 refine wpAny_newFunctionEnv H.cells (λy hy=>H.loc y.1 (List.mem_of_mem_take (List.of_mem_zip hy).1)) (λAI GF DW=>?_) H.kind
 have CP:∀ b o,s.heap.get? b=some o->AI.get? b=some o:=λb o e=>(DW.2 b (Nat.ne_of_lt (Heap.lt_size e))).trans (Heap.get?_push_of_some _ e)
 refine⟨Am KP λmc a b=>⟨mc,a.at λo e=>CP _ _ (old _ _ e hst),b⟩,?_⟩
 rw[H.glob,H.blt]
 rw[List.append_nil,List.length_nil,Nat.add_zero] at GF
 exact codeAny_func (k AI _ GF CP (DW.1.trans (Heap.size_push ..)))
structure fO (C:Cfg) (ρ:D7) (h:Heap) (env:Env) (L:Addr):Prop where
 fr:env.frame=some L
 kd:env.scope.kind≠.module
 ns:∃ m,h.Ns L m
 nm:¬ Ds C ρ L
section
variable{env0 dH:Env}{L1:Addr}{W:List Addr}
theorem fO.go(F:fO C ρ h env L)(S:Step C W ρ Ar h h')(hw:L∉W):fO C Ar h' env L:=by
 (refine CJ (F.ns) λm hn=>?_)
 exact⟨F.fr,F.kd,⟨m,hn.at λo e=>S.keep _ o e F.nm hw⟩,Ds.grow S hn.lt F.nm⟩
structure rj (C:Cfg) (g:Heap) (Ls:List Addr) (l:List Env) (e:Addr) (h:Heap):Prop where
 fl:∃ a0,Heap.FlyingW (hideAll g Ls) l e (.type "IndexError") a0 h
 up:g.UpToSlots h
 sz:g.objs.size<=h.objs.size
structure Np (C:Cfg) (ρ:D7) (σ:St) (g:Shared) (Ls:List Addr):Prop where
 rel:Rel C ρ σ g
 fr:∀ L∈Ls,(∃ m,g.heap.Ns L m)/\¬ Ds C ρ L/\C.s₁.heap.objs.size<=L
theorem OP:∀ {l:List Env} {g:Heap},(∀ e∈l,∃ L m,e.frame=some L/\L∈Ls/\e.scope.kind≠.module/\g.Ns L m)->g.FunFrames (hideAll g Ls) l
 | [],_,_=>trivial
 |e::l,g,h=>by
  (refine NT (h e List.mem_cons_self) λL m hf hL hk hn=>?_)
  (refine Ci (ns_obj hn) λo ho uu hd=>?_)
  exact⟨hk,(B6 L o ⟨hf,hideAll_none _ hL,ho,hd⟩),OP λe' cj=>h e' (List.mem_cons_of_mem _ cj)⟩
theorem dI(H:Aq C)(FF:C7 C F Mo 2)(nd:Mo.all (λx=>!(x==("__debug__" : Str)))=true)(hb:∀ vs:List Value,vs.length=2->bindArgs (Bw C.K F) ⟨vs,[]⟩=pure ((Mo.take 2).zip vs))(RE:Cf C.K F=[.Raise (some (.Call (.Name "IndexError" np) [arg] [] mi)) none pos])(D:∀ L,Cd (Ba C F L) Mo->Ro C d (Ba C F L) Mo [arg] [g])(hv:Ay C "IndexError" (.type "IndexError"))(hk:∀ L,(Ba C F L).kindOf "IndexError" = some .globalImplicit){u:AV}(hf:g (Lo Mo xs) σ=some (u,σ'))(hn:xs.length=2)(hA:EL C (d+1) A)(SA:A.frames=some [dH,env0])(F1:fO C ρ s.heap dH L1)(F0:fO C ρ s.heap env0 (L0 C))(R:Rel C ρ σ s)(q:Bx C ρ s.heap xs vs)(lE:C.s₁.heap.objs.size<=L1)(k:∀ e Ar Fy h' L2,s.heap.objs.size<=L2->Np C Ar σ' Fy [L2,L1,L0 C]->Step C [] ρ Ar s.heap Fy.heap->rj C Fy.heap [L2,L1,L0 C] [dH,env0] e h'->P (.error (.ref e)) { Fy with heap:=h' }):codeAny (model C.prog C.w) A (.call (.ref F) ⟨vs,[]⟩) P s:=by
 have H0:=FF.ok0 H hb
 refine ZZ H0 H.lim H.stat R.old (Nat.lt_of_le_of_lt (Nat.le_add_right ..) hA.2.1) (q.length.trans hn) λAI tk GF CP Hy=>?_
 rw[RE]
 have IH:s.heap.objs.size<=AI.objs.size:=Hy▸Nat.le_succ _
 have He:=FF.envB nd s.heap.objs.size
 have hz:xs.length<=Mo.length:=hn▸H0.n_le
 have An:Rel C ρ σ { s with heap:=AI,toks:=tk }:=R.same CP IH R.gens rfl rfl
 rw[<- hn] at GF
 have lr:Cx C ρ AI (Ba C F s.heap.objs.size).locals Mo (Lo Mo xs):=⟨⟨_,GF,JO H0.nodup hz q (·.go (.same CP IH))⟩,R.fresh,R.size,by unfold Lo;rw[List.length_append,List.length_map,List.length_replicate];exact Nat.add_sub_cancel' hz⟩
 have D1:=D s.heap.objs.size He
 refine wpAny_execs_cons (wpAny_Raise_made PySem.F.excRaise_IndexError hA.deeper.1 (wpAny_Call_ofName (CY H He.ok hv (hk _) (by decide) An (callWith_excType (noStar D1.run) (JL D1.run (xs:=[u]) (show(g (Lo Mo xs) σ).bind _=_ by rw[hf];rfl) hA.deeper An lr λCL Ai AF Az Au BL=>?_)))))
 have l2:=lr.go Au
 obtain⟨gU,gg,dd,tt,oo⟩:=Ai
 refine AX (wpAny_call_exc PySem.F.excCall_IndexError (λh' e hm z=>?_) (by show CL.length<=sizeLine;rw[BL.length,sizeLine_eq];show 1<=16777216;decide))
 (refine Ci (hm.there) λt ht vN vO=>?_)
 refine(B6 e t ⟨rfl,ht,?_⟩)
 have S:Step C [] ρ AF s.heap gU:=⟨Nat.le_trans IH Au.size,λb o e nm uu=>Au.keep b o (CP b o e) nm (λq=>nomatch q),Am Au.grow λδ e Me=>⟨δ,e,λp hp=>⟨Nat.le_trans IH (Me p hp).1,Nat.le_trans IH (Me p hp).2⟩⟩⟩
 have mv:=F1.go S (λq=>nm q)
 have mw:=F0.go S (λq=>nm q)
 (refine Am (l2.1) λm2 tL uu=>?_)
 have vP:∀ e∈[Ba C F s.heap.objs.size,dH,env0],∃ L m,e.frame=some L/\L∈[s.heap.objs.size,L1,L0 C]/\e.scope.kind≠.module/\gU.Ns L m:=λe he=>by
  rcases List.mem_cons.mp he with rfl|he
  . exact(B6 _ m2 ⟨rfl,List.mem_cons_self,by rw[He.ok.kind];decide,tL⟩)
  rcases List.mem_cons.mp he with rfl|he
  . (refine CJ (mv.ns) λm hm=>?_)
    exact(B6 _ m ⟨mv.fr,by simp,mv.kd,hm⟩)
  . obtain rfl:=List.mem_singleton.mp he
    (refine CJ (mw.ns) λm hm=>?_)
    exact(B6 _ m ⟨mw.fr,by simp,mw.kd,hm⟩)
 refine AX (wpAny_leaves_madeW (base:=hideAll gU [s.heap.objs.size,L1,L0 C]) (h:=gU) (Around.frames_deeper SA) rfl (λb o e=>of_hideAll _ e) (OP vP) ⟨hm.keeps,hm.new,t,ht,vN,vO⟩ λLZ t' Tx uu uu up dD=>?_)
 refine k e AF ⟨gU,gg,dd,tt,oo⟩ LZ _ (Nat.le_refl _) ⟨Az,λL hL=>?_⟩ S ⟨⟨_,Tx⟩,(Heap.UpToSlots.of_keeps hm.keeps).trans up,Nat.le_trans z dD⟩
 rcases List.mem_cons.mp hL with rfl|hL
 . exact⟨⟨_,tL⟩,l2.2.1,l2.2.2.1⟩
 rcases List.mem_cons.mp hL with rfl|hL
 . exact⟨mv.ns,mv.nm,lE⟩
 . obtain rfl:=List.mem_singleton.mp hL
   exact⟨mw.ns,mw.nm,Nat.le_refl _⟩
structure XE (C:Cfg) (d:Nat) (env env0:Env) (Aa:List Str) (b:List Stmt) (f:Lc->St->Option St):Prop where
 run:∀ lc σ σ',f lc σ=some σ'->∀ (A:Around) (Q:Flow->Shared->Prop) (E:Value->Shared->Prop) (s:Shared) (ρ:D7),EL C d A->A.frames=some [env,env0]->env.frame=some env.locals->L0 C≠env.locals->fO C ρ s.heap env0 (L0 C)->Rel C ρ σ s->Cx C ρ s.heap env.locals Aa lc ->
  (∀ e Ar Fy h' L2,s.heap.objs.size<=L2->Np C Ar σ' Fy [L2,env.locals,L0 C]->Step C [env.locals] ρ Ar s.heap Fy.heap->rj C Fy.heap [L2,env.locals,L0 C] [env,env0] e h'->E (.ref e) { Fy with heap:=h' })->wpAny (model C.prog C.w) A (execs b env) Q E s
noncomputable def fP(f1:SM)(f:Lc->St->Option St):Lc->St->Option St:=λlc σ=>(f1 lc σ).bind λp=>match p.1 with
 | .next=>f p.2.1 p.2.2
 | .cont=>none
 | .brk=>none
 | .ret _=>none
set_option tactic.hygienic true
theorem i6{st:Stmt}{r:List Stmt}{f1:SM}{f:Lc->St->Option St}(D1:BS C d env Aa st f1)(D2:XE C d env env0 Aa r f):XE C d env env0 Aa (st::r) (fP f1 f):=by
 refine⟨λlc σ σ' hf A Q E s ρ hA SA Z0 Gj F0 R lr kk=>?_⟩
 refine wpAny_execs_cons (oB hf λt e1 hf=>D1.run _ _ _ _ _ e1 A _ E s ρ hA R lr λw s₁ Ad An Aj Ew AA=>?_)
 rcases t with ⟨Oe,lc₁,σ₁⟩
 cases AA with
 |next=>exact D2.run _ _ _ hf A _ E s₁ Ad hA SA Z0 Gj (F0.go Aj λh=>Gj (List.mem_singleton.mp h)) An Ew λe Ar Fy h' L2 z a b c=>kk e Ar Fy h' L2 (Nat.le_trans Aj.size z) a (Aj.trans b) c
 | _=>exact ns hf
noncomputable def fQ(o:EM)(ar:List EM)(Mo:List Str)(g:EM):Lc->St->Option St:=λlc σ=>(o lc σ).bind λr=>r.1.loc?.bind λl=>(r.2[l]?.bind (AO.ext? 9)).bind λ_=>(Ft ar lc r.2).bind λq=>if q.1.length=2 then (g (Lo Mo q.1) q.2).map (·.2) else none
set_option tactic.hygienic false
theorem i7(H:Aq C)(He:Cd env Aa)(HC:Bg C)(HX:Wo C)(ZX:C.X 9=LG C.w.params C.VF F)(FF:C7 C F Mo 2)(nd:Mo.all (λx=>!(x==("__debug__" : Str)))=true)(rk:∀ vs:List Value,vs.length=2->bindArgs (Bw C.K F) ⟨vs,[]⟩=pure ((Mo.take 2).zip vs))(RE:Cf C.K F=[.Raise (some (.Call (.Name "IndexError" np) [arg] [] mi)) none pos])(DG:∀ L,Cd (Ba C F L) Mo->Ro C d (Ba C F L) Mo [arg] [g])(hv:Ay C "IndexError" (.type "IndexError"))(hk:∀ L,(Ba C F L).kindOf "IndexError" = some .globalImplicit){ho:EM}{ps:Pos}{rest:List Stmt}(D0:BE C (d+1) env Aa o ho)(D:Ro C (d+1) env Aa es fs)(hb:∀ nm AR,attributeBase o nm env AR=AR)(hl:es.length<30)(hp:(B1.endLine==p.line)=true)(hs:swapsWith (.Call (.Attribute o II B1) es [] p) (some (.Name n pn)) ps.line env=pure false) :
 XE C (d+1) env env0 Aa (.Assign [.Name n pn] (.Call (.Attribute o II B1) es [] p) ps::rest) (fQ ho fs Mo g):=by
 refine⟨λlc σ σ' hf A Q E s ρ hA SA Z0 Gj F0 R lr kk=>?_⟩
 refine oB hf λr e1 hf=>oB hf λl el hf=>oB hf λcs eW hf=>oB hf λxs e2 hf=>sf hf λhn hf=>oM hf λy hy ey=>?_
 subst ey
 refine wpAny_execs_cons (wpAny_Assign_Name ?_ hs)
 refine Jb D.run hb hl hp (D0.run _ _ _ _ e1 A _ E s ρ hA R lr λv s₁ Ad An Aj AA=>?_)
 have AA:VR C Ad s₁.heap (.loc l) v:=AV.loc_inv el▸AA
 refine An.fail_e ZX (PZ eW) AA λa dd nS e m e0 tM hd he rd hg=>?_
 refine IZ (An.kin H) (Ex tM hd) HC.vfGa (by decide +kernel) HC.vfGt (HX.att 7 (by decide) II rfl) (E6 (An.kin H) (Ex tM hd) HC.vfGa (findObj_own HC.vfDict (HX.att 7 (by decide) II rfl) rfl hg) rfl ?_)
 dsimp only
 refine callWith_of (P:=λh=>dw h (.ref F)) (by rw[noStar D.run];rfl) (λh=>OL) (JL D.run e2 hA An.toks (lr.go Aj) λvs Ai AF Az Au BL=>?_)
 have FQ:=(lr.go Aj).go Au
 have ST:=Aj.trans Au
 refine⟨Ci (GS FF.fn) λo' e3 QZ uu=>(EY F o' _ ⟨rfl,Az.kin H _ _ e3,QZ⟩),wpAny_call (dI H FF nd rk RE DG hv hk hy hn hA SA ⟨Z0,?_,Am FQ.1 λm a uu=>⟨m,a⟩,FQ.2.1⟩ (F0.go ST λh=>nm h) Az BL FQ.2.2.1 λe' Ar Fy h' L2 z a b c=>kk e' Ar Fy h' L2 (Nat.le_trans ST.size z) a (ST.trans b).of_nil c)⟩
 rw[He.ok.kind];decide
structure rl (C:Cfg) (d:Nat) (f:Addr) (n:Nat) (Aa:List Str) (F:Lc->St->Option St):Prop where
 run:∀ xs σ σ',xs.length=n->F (Lo Aa xs) σ=some σ'->∀ (A:Around) (P:Result->Shared->Prop) (s:Shared) (ρ:D7) (vs:List Value) (env0:Env),EL C d A->A.frames=some [env0]->fO C ρ s.heap env0 (L0 C)->Rel C ρ σ s->Bx C ρ s.heap xs vs ->
  (∀ e Ar Fy h' Ls,Np C Ar σ' Fy Ls->(∀ L∈Ls,L=L0 C\/s.heap.objs.size<=L)->Step C [] ρ Ar s.heap Fy.heap->rj C Fy.heap Ls [env0] e h'->P (.error (.ref e)) { Fy with heap:=h' })->codeAny (model C.prog C.w) A (.call (.ref f) ⟨vs,[]⟩) P s
theorem rm{f:Addr}{n:Nat}(H:Aq C)(FF:C7 C f Aa n)(nd:Aa.all (λx=>!(x==("__debug__" : Str)))=true)(hb:∀ vs:List Value,vs.length=n->bindArgs (Bw C.K f) ⟨vs,[]⟩=pure ((Aa.take n).zip vs))(D:∀ L env0,Cd (Ba C f L) Aa->XE C d (Ba C f L) env0 Aa (Cf C.K f) B):rl C (d+1) f n Aa B:=by
 refine⟨λxs σ σ' hn hf A P s ρ vs env0 hA SA F0 R q k=>?_⟩
 have H0:=FF.ok0 H hb
 refine ZZ H0 H.lim H.stat R.old (Nat.lt_of_le_of_lt (Nat.le_add_right ..) hA.2.1) (q.length.trans hn) λAI tk GF CP Hy=>?_
 have IH:s.heap.objs.size<=AI.objs.size:=Hy▸Nat.le_succ _
 have hz:xs.length<=Aa.length:=hn▸H0.n_le
 rw[<- hn] at GF
 have S1:Step C [] ρ ρ s.heap AI:=.same CP IH
 have DK:L0 C<s.heap.objs.size:=CJ F0.ns λm hm=>hm.lt
 refine(D s.heap.objs.size env0 (FF.envB nd _)).run _ _ _ hf _ _ _ _ ρ hA.deeper (Around.frames_deeper SA) rfl (Nat.ne_of_lt DK) (F0.go S1 λh=>nm h) (R.same CP IH R.gens rfl rfl)
  ⟨⟨_,GF,JO H0.nodup hz q (·.go (.same CP IH))⟩,R.fresh,R.size,by unfold Lo;rw[List.length_append,List.length_map,List.length_replicate];exact Nat.add_sub_cancel' hz⟩ λe Ar Fy h' L2 zL ra S fy=>?_
 obtain⟨⟨a0,Tx⟩,up,sz⟩:=fy
 refine AX (wpAny_leaves_onW (Around.frames_deeper SA) rfl Tx λLZ rn vQ z=>?_)
 refine k e Ar Fy LZ _ ra (λL hL=>?_) ⟨Nat.le_trans IH S.size,λb o eb nm uu=>S.keep b o (CP b o eb) nm λhb=>?_,Am S.grow λδ e Me=>⟨δ,e,λp hp=>⟨Nat.le_trans IH (Me p hp).1,Nat.le_trans IH (Me p hp).2⟩⟩⟩ ⟨⟨_,rn⟩,up.trans vQ,Nat.le_trans sz z⟩
 . rcases List.mem_cons.mp hL with rfl|hL
   . exact .inr (Nat.le_trans IH zL)
   rcases List.mem_cons.mp hL with rfl|hL
   . exact .inr (Nat.le_refl _)
   . exact .inl (List.mem_singleton.mp hL)
 . exact Nat.ne_of_lt (Heap.lt_size eb) (List.mem_singleton.mp hb)
theorem Np.settle{g:Shared}(ra:Np C ρ σ g Ls)(st:(hideAll g.heap Ls).StaysIn h')(up:g.heap.UpToSlots h')(z:g.heap.objs.size<=h'.objs.size){n:Nat}:Rel C ρ σ { g with heap:=h',toks:=n }/\Step C Ls ρ ρ g.heap h' :=
 ra.rel.moves (n:=n) (λJ hJ=>CJ (ra.fr J hJ).1 λm hm=>Ci (ns_obj hm) λo a b c=>⟨o,a,b,λuu=>c⟩) (λJ hJ=>(ra.fr J hJ).2.1) (λJ hJ=>(ra.fr J hJ).2.2) (λb o hb e=>st b o (hideAll_get _ e hb)) z
theorem Wy(h:env.frame=env0.frame):noteFrame v env=noteFrame v env0:=by
 unfold noteFrame PySem.frameOf
 rw[h]
noncomputable def Nq(k n:Nat)(UX:List Str)(B:Lc->St->Option St)(f:EM)(fs:List EM):SM:=λlc σ=>(f lc σ).bind λr=>if kind r.2 r.1=k then (Ft fs lc r.2).bind λq=>if (r.1::q.1).length=n then (B (Lo UX (r.1::q.1)) q.2).map λτ=>(.next,lc,τ) else none else none
set_option tactic.hygienic true
theorem Wz(H:Aq C)(He:Cd env Aa)(hL:env.locals=L0 C)(Z0:env.frame=some env.locals){n:Nat}{gF:Addr}{UX:List Str}{rest:List Stmt}(hd:697<=d)(hg:BM C k name (.ref gF))(hk:BJ C (.ref gF))(DF:rl C d gF n UX B)(D0:BE C d env Aa o f)(D:Ro C d env Aa es fs)(hb:∀ nm AR,attributeBase o nm env AR=AR)(hl:es.length<30)(hp:(B1.endLine==p.line)=true)(hv:Ay C "IndexError" (.type "IndexError"))(vR:env.kindOf "IndexError" = some .globalImplicit) :
 BS C d env Aa (.Try (.Expr (.Call (.Attribute o name B1) es [] p) p'::rest) [.ExceptHandler (some (.Name "IndexError" p1)) none [.Pass p2] p3] [] [] p4) (Nq k n UX B f fs):=by
 refine⟨λlc σ fl lc' σ' hf A Q E s ρ hA R lr kk=>?_⟩
 refine oB hf λr e1 hf=>sf hf λbS hf=>oB hf λq e2 hf=>sf hf λhn hf=>oM hf λτ i8 e9=>?_
 refine wpAny_Try_except (wpAny_execs_cons (wpAny_Expr_any ?_ He.int rfl))
 refine Jb D.run hb hl hp (D0.run _ _ _ _ e1 A _ _ s ρ hA R lr λv s₁ Ad An Aj AA=>?_)
 refine hg.run A _ _ s₁ Ad r.2 r.1 v _ An AA bS ?_
 dsimp only
 refine CB H D.run e2 hk hA An (lr.go Aj) λvs Ai AF Az Au BL=>?_
 have FQ:=(lr.go Aj).go Au
 have ST:=Aj.trans Au
 obtain⟨env0,SA,ro,vS⟩:∃ e,A.frames=some [e]/\e.frame=some (L0 C)/\e.scope.kind≠.module:=by
  obtain⟨h1,h2,h3,l,e1,e2,e3,e4⟩:=hA
  have hr:recursionLimit=1000:=rfl
  rw[hr] at h2
  have hl:l.length<=1:=by omega
  match l,e2,hl with
  | [e],_,_=>exact⟨e,e1,e4 e rfl⟩
  | _::_::_,_,h=>exact absurd h (by simp)
 have F0:fO C AF Ai.heap env0 (L0 C):=⟨ro,vS,by rw[<- hL];exact Am FQ.1 λm a uu=>⟨m,a⟩,by rw[<- hL];exact FQ.2.1⟩
 refine wpAny_call (DF.run _ _ _ hn i8 A _ Ai AF (v::vs) env0 hA SA F0 Az (.cons (AA.go Au) BL) λe Ar Fy h' Ls ra hm S fy=>?_)
 obtain⟨⟨a0,Tx⟩,up,sz⟩:=fy
 show wpAny _ A (noteFrame (.ref e) env) _ _ _
 rw[Wy (env0:=env0) (Z0.trans (by rw[hL,ro]))]
 refine AX (wpAny_looks_onW SA ro Tx λh1 hh up1 z1=>?_)
 refine AX (wpAny_landsW hh λh2 oA tN z2=>?_)
 have R2:=(ra.settle (n:=Fy.toks) oA.1 (up.trans (up1.trans tN)) (Nat.le_trans sz (Nat.le_trans z1 z2))).1
 (refine Am (oA.there) λqW qX qY=>?_)
 refine wpAny_handleBy_builtin (X := "IndexError") (T := "IndexError") (b:=true) PySem.F.isExc_IndexError PySem.F.notTuple_IndexError (by rw[isSubtype_type];left) (CY H He.ok hv vR (by decide) R2 ⟨rfl,⟨qW,qX,qY⟩,?_⟩)
 rw[if_pos rfl]
 (refine Hv (oA) λb2 n2 f2 t2=>?_;clear oA)
 refine AX (wpAny_setFlight_noneW b2 f2 t2.at λh3 b3 f3 t3 u3 z3=>?_)
 refine wpAny_execs_cons (wpAny_Pass (wpAny_execs_nil ?_))
 have tO:Fy.heap.UpToSlots h3:=(up.trans (up1.trans tN)).trans λb o e nf=>⟨o.slots,u3 b o e nf⟩
 (refine AS (ra.settle (n:=Fy.toks) b3 tO (Nat.le_trans sz (Nat.le_trans z1 (Nat.le_trans z2 z3)))) λR3 S3=>?_)
 have SG:=ST.trans S
 have lg:=lr.go SG
 have S':Step C [env.locals] ρ Ar s.heap h3:=by
  refine⟨Nat.le_trans SG.size S3.size,λb o eb nm nw=>S3.keep b o (SG.keep b o eb nm λh=>nomatch h) (Ds.grow SG (Heap.lt_size eb) nm) λhb=>?_,SG.grow⟩
  rcases hm b hb with z|z
  . exact nw (by rw[hL,z];exact List.mem_singleton_self _)
  . exact absurd (Heap.lt_size eb) (Nat.not_lt.mpr (Nat.le_trans ST.size z))
 refine Pj kk e9 _ _ Ar R3 S' ?_ .next
 obtain⟨⟨m,Xe,QO⟩,jU,KH,QK⟩:=lg
 exact⟨⟨m,tO.ns Xe,λi x e=>Dt (QO i x e) λn v a b c=>(B6 n v ⟨a,b,c.step S3 λa o vs n ha e z=>CJ (ra.fr a ha).1 λm hm=>Ci (ns_obj hm) λo' e' c uu=>c vs n (Option.some.inj (e'.symm.trans e)▸z)⟩)⟩,jU,KH,QK⟩
end
theorem Z1(H:Aq C)(HG:HJ C)(He:Bi env Aa)(ht:t∈C.tabs)(Ey:env.code=.ref t.1)(hX:C.X k=Tr S)(hq:env.qual ++ "<lambda>" = S.qual)(i9:defaultsOf S.params env=([],[]))(JF:closureFor S.scope env=pure [])(j4:S.names=[]):AQ C d env Aa (.Lambda S.params S.body S.scope pos) (iX k []):=by
 intro lc σ x σ' hf A Q E s ρ hA R lr kk
 refine oG hf λhc e=>?_
 have kk:=Hz kk e
 refine kla_eval i9 ?_
 rw[hq,makeFunction_eq]
 simp only[List.zip_nil_right,List.filterMap_nil,List.isEmpty_nil,if_true,pure_bind]
 unfold makeTail
 rw[JF,He.glob]
 refine wpAny_bind (wpAny_pure ?_)
 simp only[List.isEmpty_nil,if_true,pure_bind]
 refine wpAny_bind (du HG ht Ey R λc AJ JQ ca=>?_)
 have BY:=R.kept JQ
 (refine Gf (HG.bm) λmg bm pG M pH=>?_)
 have IJ:BMod AJ.heap mainGlobals mg bm pG:=⟨M.ns.at λo e=>BY.old _ _ e H.glob,M.name,M.ne,BY.old _ _ M.obj pH,M.cls,M.dict,M.data⟩
 refine wpAny_bind (wpAny_builtinsFor IJ.ns IJ.name IJ.ne IJ.obj IJ.cls IJ.dict IJ.data ?_)
 refine wpAny_bind (wpAny_nsGet IJ.ns ?_)
 refine wpAny_newObj_type ?_ (by size_fits)
 have BV:Step C [] ρ ρ s.heap AJ.heap:=JQ.step
 let fo:Obj:=kla_obj "<lambda>" S.qual S.params S.body S.scope [] ((mg "__name__").getD .none) c .none
 have kp:∀ b o,AJ.heap.get? b=some o->(AJ.heap.push fo).get? b=some o:=λuu uu e=>Heap.get?_push_of_some _ e
 have z:AJ.heap.objs.size<=(AJ.heap.push fo).objs.size:=by rw[Heap.size_push];exact Nat.le_succ _
 have ob:Ct C (ρ++[(AJ.heap.objs.size,AJ.heap.objs.size)]) (AJ.heap.push fo) (AJ.heap.objs.size,AJ.heap.objs.size) (.ext k []):=by
  refine(EY fo fo [] ⟨Heap.get?_push_size _ rfl,Heap.get?_push_size _ rfl,.inl λvs=>Data.noConfusion,.inl λvs=>Data.noConfusion,.nil,.inr ?_,λc' e=>?_⟩)
  . rw[hX]
    exact⟨rfl,rfl,Lm _ c _ [] ⟨rfl,by rw[j4];rfl⟩⟩
  . obtain rfl:=Option.some.inj (show some c=some c' from e)
    (refine Gf (ca) λob vs v h1 h2=>?_;clear ca)
    exact(EY ob vs v ⟨kp _ _ h1,h2⟩)
 refine AS (BY.alloc (s':={ AJ with heap:=AJ.heap.push fo }) kp z BY.gens rfl rfl (p:=(AJ.heap.objs.size,AJ.heap.objs.size)) (Nat.le_refl _) (Nat.le_refl _) ob rfl) λGO FR=>?_
 refine kk _ _ _ GO (BV.trans FR) (.loc (p:=(AJ.heap.objs.size,AJ.heap.objs.size)) ?_)
 rw[<- R.len,List.getElem?_append_right (Nat.le_refl _),Nat.sub_self]
 rfl
theorem dJ(H:Aq C)(HG:HJ C)(He:Cd env Aa)(ht:t∈C.tabs)(Ey:env.code=.ref t.1)(hX:C.X k=Tr S){b:Expr}{sc:Scope}(e1:S.params=ps)(e2:S.body=b)(e3:S.scope=sc)(hq:env.qual ++ "<lambda>" = S.qual)(i9:defaultsOf S.params env=([],[]))(JF:closureFor S.scope env=pure [])(j4:S.names=[]):BE C d env Aa (.Lambda ps b sc pos) (iX k []):=e1▸e2▸e3▸⟨Z1 H HG He.ok ht Ey hX hq i9 JF j4⟩
section
variable{n:Nat}{y:Str}{i j:Int}{b:Bool}{v:AV}
theorem OQ:Dj σ n .none=some .none:=by cases n<;>rfl
theorem WA:Dj σ n (.bool b)=some (.bool b):=by cases n<;>rfl
theorem H5:Dj σ n (.int i)=some (.int i):=by cases n<;>rfl
theorem C9:Dj σ n (.str x)=some (.str x):=by cases n<;>rfl
theorem RG:Dj σ (n+1) (.tup xs)=(Cb (Dj σ n) xs).map .tuple:=Option.or_none
theorem GV:Dj σ (n+1) (.lst xs)=(Cb (Dj σ n) xs).map .list:=rfl
theorem H6:Dj σ (n+1) (.loc l)=(CT σ l).bind λxs=>(Cb (Dj σ n) xs).map .list:=rfl
theorem Tz:Bq σ (.lst xs)=some xs:=rfl
theorem Nr:Bq σ (.loc l)=CT σ l:=rfl
theorem Z2:gC σ (.str x) (.str y)=gd (decide (x.length+y.length<=sizeLine)) (.str (x++y)):=Option.or_none
theorem Z3:bE (.int i) (.int j)=gd (decide (i<1000000/\-1000000<i)) (.int (i*j)):=Option.or_none
theorem RH:bE (.str x) (.int j)=gd (decide (x.length*j.toNat<=1000000/\j<1000000/\-1000000<j)) (.str (Txt.mul x j)):=rfl
theorem H7:Yw .Add (.str x) (.str y)=gd (decide (x.length+y.length<=1000000)) (.str (x++y)):=Option.or_none
theorem Hm:HE σ (.str x)=gd (decide (x.length<=sizeLine)) ((x.length:Int) != 0):=Option.or_none
theorem TA:HE σ (.loc l)=(CT σ l).bind λxs=>gd (decide (xs.length<=sizeLine)) (!xs.isEmpty):=rfl
theorem LH:Bv [.loc l,v] σ=((CT σ l).bind λys=>gd (decide (ys.length<=sizeLine)) (AV.none,σ.set l (.list (ys++[v])))).or
 ((Cj σ l).bind λa=>(KL v).bind λpt=>gd (decide (a.2.length<=sizeLine)) (AV.none,σ.set l (.acc a.1 (a.2++[pt])))):=rfl
theorem OR{ps:List (Str×Str)}(h:σ[l]?=some (.acc ini ps)):CT σ l=none:=by unfold CT;rw[h];rfl
theorem Nt(h:σ[l]?=some (.list xs)):Cj σ l=none:=by unfold Cj;rw[h];rfl
theorem RI{ps:List (Str×Str)}{p:Str×Str}(h:σ[l]?=some (.acc ini ps))(hz:ps.length<=sizeLine)(hv:KL v=some p):Bv [.loc l,v] σ=some (.none,σ.set l (.acc ini (ps++[p]))):=by
 rw[LH,OR h,Cy h]
 show(KL v).bind _=_
 rw[hv]
 exact AZ (decide_eq_true hz)
theorem DP(h:σ[l]?=some (.list xs))(hz:xs.length<=sizeLine):Bv [.loc l,v] σ=some (.none,σ.set l (.list (xs++[v]))):=by
 rw[LH,AY h]
 show(gd _ _).or _=_
 rw[AZ (decide_eq_true hz)]
 rfl
theorem Kf:BW LF [.str x] σ=gd (decide (x.length<=1000000)) (.int x.length,σ):=Option.or_none
theorem RJ:BW LF [.lst xs] σ=gd (decide (xs.length<=1000000)) (.int xs.length,σ):=rfl
theorem WB(h:σ[l]?=some (.list xs))(hz:xs.length<=1000000):BW LF [.loc l] σ=some (.int xs.length,σ):=by
 show((Cj σ l).bind _).or ((CT σ l).bind _)=_
 rw[Nt h,AY h]
 exact AZ (decide_eq_true hz)
theorem Z4{ps:List (Str×Str)}(h:σ[l]?=some (.acc ini ps))(e:QW LF l σ=some (i,σ')):BW LF [.loc l] σ=some (.int i,σ'):=by
 show((Cj σ l).bind _).or _=_
 rw[Cy h]
 show((QW LF l σ).map _).or _=_
 rw[e]
 rfl
theorem Z5{ps:List (Str×Str)}(h:σ[l]?=some (.acc ini ps))(e:SF [.loc l] σ=some (.str x,σ')):NW SF FF [.loc l] σ=some (.str x,σ'):=by
 show((Cj σ l).bind _).or _=_
 rw[Cy h]
 show(retStr (SF [.loc l] σ)).or _=_
 rw[e]
 rfl
theorem Cq(h:σ[l]?=some (.list xs)):MU σ (.loc l)=some xs:=by
 show(CT σ l).or _=_
 rw[AY h]
 rfl
theorem OS{ps:List (Str×Str)}(h:σ[l]?=some (.acc ini ps)):MU σ (.loc l)=some (ps.map AK):=by
 show(CT σ l).or ((Cj σ l).map _)=_
 rw[OR h,Cy h]
 rfl
theorem RK:HT σ (.tup xs) i=if -1000000000<=i/\i<1000000000 then (seqIndex? i xs.length).bind (xs[·]?) else none:=by
 show(if _ then (gZ xs i).or none else none)=_
 rw[Option.or_none]
 rfl
theorem Nu:HT σ (.lst xs) i=if -1000000000<=i/\i<1000000000 then (seqIndex? i xs.length).bind (xs[·]?) else none:=rfl
theorem Dc(h:MU σ (.loc l)=some xs):HT σ (.loc l) i=if -1000000000<=i/\i<1000000000 then (seqIndex? i xs.length).bind (xs[·]?) else none:=by
 show(if _ then (MU σ (.loc l)).bind _ else none)=_
 rw[h]
 rfl
theorem RL:HT σ (.str x) i=if -1000000000<=i/\i<1000000000 then ((seqIndex? i x.length).bind (x.cps[·]?)).map λc=>.str ⟨#[c]⟩ else none:=by
 show(if _ then (Option.map _ _).or none else none)=_
 rw[Option.or_none]
theorem OT{ps qs:List (Str×Str)}{a b:Option Int}{new:List AV}(h:σ[l]?=some (.acc ini ps))(hn:Bq σ v=some new)(hq:partsOf new=some qs)(hz:ps.length<=1000000/\qs.length<=1000000):Ox l a b v σ=some (σ.set l (.acc ini (Dl ps qs a b))):=by
 unfold Ox
 rw[hn,Cy h]
 show((partsOf new).bind _).or _=_
 rw[hq]
 show(gd _ _).or _=_
 rw[AZ (decide_eq_true hz)]
 rfl
theorem TB{a b:Option Int}{new:List AV}(h:σ[l]?=some (.list xs))(hz:xs.length<=1000000/\new.length<=1000000):Ox l a b (.lst new) σ=some (σ.set l (.list (Dl xs new a b))):=by
 show((Cj σ l).bind _).or ((CT σ l).bind _)=_
 rw[Nt h,AY h]
 exact AZ (decide_eq_true hz)
theorem FX(h:σ[l]?=some (.list xs))(hi:-1000000000<=i/\i<1000000000)(hj:seqIndex? i xs.length=some k)(hk:k<xs.length):putAt l i v σ=some (σ.set l (.list (xs.set k v))):=by
 unfold putAt
 rw[AY h]
 show(if _ then (seqIndex? i xs.length).bind _ else none)=_
 rw[if_pos hi,hj]
 exact AZ (decide_eq_true hk)
theorem Ec{a z:AV}(hf:f lc σ=some (a,σ₁))(hg:g lc σ₁=some (.int i,σ₂))(ha:HT σ₂ a i=some z):A0 f g lc σ=some (z,σ₂):=by
 unfold A0
 rw[hf]
 show(g lc σ₁).bind _=_
 rw[hg]
 show(HT σ₂ a i).map _=_
 rw[ha]
 rfl
theorem UY{a:AV}(h:lc[k]?=some (some a)):nE k lc σ=some (a,σ):=by unfold nE;rw[h];rfl
theorem Z6{p:Str×Str}:HT σ (AK p) 0=some (.str p.1):=by
 unfold AK
 rw[RK,if_pos (by decide)]
 rfl
theorem Z7{p:Str×Str}:HT σ (AK p) 1=some (.str p.2):=by
 unfold AK
 rw[RK,if_pos (by decide)]
 rfl
theorem Z8:J3 [.str x,v] σ=(Bq σ v).bind λys=>(strsOf ys).bind λzs=>gd (decide ((zs.map (·.length)).sum+zs.length*x.length<=16777216)) (.str (Txt.join x zs),σ):=rfl
theorem Cg:kind σ (.loc l)=(σ[l]?.map EN).getD 0:=rfl
theorem RM:kind σ (.str x)=1:=rfl
theorem RN:kind σ (.lst xs)=2:=rfl
theorem OU{p:Prop}[Decidable p]{a:α}:gd (decide p) a=if p then some a else none:=by
 by_cases h:p
 . rw[if_pos h,AZ (decide_eq_true h)]
 . rw[if_neg h,decide_eq_false h];rfl
theorem Mp{a:α}:gd true a=some a:=rfl
noncomputable def ja(nx:St->Nat->Option (Option AV))(st:Lc->AV->Option Lc)(B O:SM)(n i:Nat)(t:Fl×Lc×St):Option (Fl×Lc×St):=match t.1 with
 | .next=>CM nx st B O n i t.2.1 t.2.2
 | .cont=>CM nx st B O n i t.2.1 t.2.2
 | .brk=>some (.next,t.2)
 | .ret v=>some (.ret v,t.2)
theorem FK{B:SM}(h:nx σ k=some none):CM nx st B O (n+1) k lc σ=O lc σ:=by
 unfold CM
 rw[h]
 rfl
theorem Ir{B:SM}{t:Fl×Lc×St}(h:nx σ k=some (some v))(h1:st lc v=some lc₁)(h2:B lc₁ σ=some t):CM nx st B O (n+1) k lc σ=ja nx st B O n (k+1) t:=by
 unfold CM
 rw[h]
 show((st lc v).bind _)=_
 rw[h1]
 show((B lc₁ σ).bind _)=_
 rw[h2]
 rfl
theorem UZ{B:SM}(hf:f lc σ=some (.str x,σ₁)):L7 k f B O lc σ=CM (Q8 x) (λlc y=>putL lc k y) B O 1000000 0 lc σ₁:=by
 unfold L7
 rw[hf]
 simp only[Option.bind_some,AV.str?]
 rw[show Bq σ₁ (AV.str x)=none from rfl,Option.bind_none,Option.or_none]
theorem U0{B:SM}{a:AV}(hf:f lc σ=some (a,σ₁))(ha:Bq σ₁ a=some xs)(hs:a.str?=none):L7 k f B O lc σ=CM (Qs a) (λlc y=>putL lc k y) B O 1000000 0 lc σ₁:=by
 unfold L7
 rw[hf]
 simp -iota only[Option.bind_some]
 rw[hs,ha,Option.bind_none,Option.none_or,Option.bind_some]
theorem It{B:SM}{a b c:Int}{t:Fl×Lc×St}(hf:Ft fs lc σ=some (xs,σ₁))(ha:EU xs=some (a,b,c))(ho:Dm a b c=true)(h:CM (IU a b c) (λlc y=>putL lc k y) B O 1000000 0 lc σ₁=some t):GP k fs B O lc σ=some t:=by
 unfold GP
 rw[hf]
 simp -iota only[Option.bind_some,ha]
 rw[if_pos ho,h]
theorem dK{g:Nat}(h:σ[g]?=some .ghost):cR σ g=some ():=by unfold cR;rw[h];rfl
theorem Z9{g:Nat}{a:AV}(h:σ[g]?=some .ghost)(ha:Bq σ a=some xs):fk g a σ k=some (Rd xs k):=by
 unfold fk
 rw[dK h,ha]
 rfl
theorem jb{i j:Nat}{B:SM}{a:AV}(hf:f lc σ=some (a,σ₁))(ha:Bq σ₁ a=some xs):YO i j f B O lc σ=CM (fk σ₁.length a) (put2 i j) B O 1000000 0 lc (σ₁++[.ghost]):=by
 unfold YO
 rw[hf]
 simp -iota only[Option.bind_some,ha]
end
variable{B:SM}{G:FM}{X:List Nat}{c:Bool}{ds:List AV}{es:List EM}{fs:List SM}{n:Nat}{o:AO}{p:Str×Str}{ps qs:List (Str×Str)}{r:Option (Bool×St)}{Ap:List Str}{t:TM}{ts:List TM}{v:AV}{y:Str}
theorem As{o:Option α}{a:α}{f:α->Option β}{r:Option β}(h:o=some a)(k:f a=r):o.bind f=r:=by rw[h];exact k
theorem Fp{o:Option α}{a:α}{f:α->β}(h:o=some a):o.map f=some (f a):=by rw[h];rfl
set_option tactic.hygienic true
theorem Al{f:SM}(h:f lc σ=some (.next,lc₁,σ₁)):Ah (f::fs) lc σ=Ah fs lc₁ σ₁:=As h rfl
theorem DQ{f g:SM}(h:f lc σ=g lc σ)(k:g lc σ=some (.next,lc₁,σ₁)):Ah (f::fs) lc σ=Ah fs lc₁ σ₁:=Al (h.trans k)
set_option tactic.hygienic false
theorem BR{f:SM}(h:f lc σ=some (.ret v,lc₁,σ₁)):Ah (f::fs) lc σ=some (.ret v,lc₁,σ₁):=As h rfl
theorem Iu{f:SM}(h:f lc σ=some (.brk,lc₁,σ₁)):Ah (f::fs) lc σ=some (.brk,lc₁,σ₁):=As h rfl
theorem Kg{f:SM}(h:f lc σ=some (.cont,lc₁,σ₁)):Ah (f::fs) lc σ=some (.cont,lc₁,σ₁):=As h rfl
theorem Gy{f g:SM}(h:t lc σ=some (true,σ₁)):Ff t f g lc σ=f lc σ₁:=As h rfl
theorem Hn{f g:SM}(h:t lc σ=some (false,σ₁)):Ff t f g lc σ=g lc σ₁:=As h rfl
set_option tactic.hygienic true
theorem E9(hn:xs.length=n)(h:B (Lo Aa xs) σ=some (.next,lc',σ')):E5 Aa n B xs σ=some (.none,σ'):=(if_pos hn).trans (As h rfl)
set_option tactic.hygienic false
theorem C3(hn:xs.length=n)(h:B (Lo Aa xs) σ=some (.ret v,lc',σ')):E5 Aa n B xs σ=some (v,σ'):=(if_pos hn).trans (As h rfl)
theorem aa(hn:xs.length=n)(h:B (Lo Aa (xs++ds)) σ=some (.ret v,lc',σ')):ML Aa n ds B xs σ=some (v,σ'):=(if_pos hn).trans (As h rfl)
set_option tactic.hygienic true
theorem OV(hn:xs.length=n)(h:B (Lo Aa (xs++ds)) σ=some (.next,lc',σ')):ML Aa n ds B xs σ=some (.none,σ'):=(if_pos hn).trans (As h rfl)
theorem BP(h:f lc σ=some (v,σ₁)):Bj f lc σ=some (.next,lc,σ₁):=Fp h
theorem Ed(h:f lc σ=some (v,σ₁))(hi:i<lc.length):BZ i f lc σ=some (.next,lc.set i (some v),σ₁):=As h (Fp (if_pos hi))
section
variable{h:EM}{a b:AV}{i j:Int}
set_option tactic.hygienic false
theorem Dx(h1:f lc σ=some (a,σ))(h2:g lc σ=some (b,σ))(h3:gD σ op a b=some v):AN op f g lc σ=some (v,σ):=As h1 (As h2 (Fp h3))
theorem jc(h1:f lc σ=some (.int i,σ))(h2:g lc σ=some (.int j,σ)):AN .Add f g lc σ=some (.int (i+j),σ):=Dx h1 h2 rfl
theorem Ju(h1:f lc σ=some (.int i,σ))(h2:g lc σ=some (.int j,σ)):AN .Sub f g lc σ=some (.int (i-j),σ):=Dx h1 h2 rfl
theorem Cv{op:CmpOp}(h1:f lc σ=some (a,σ))(h2:g lc σ=some (b,σ))(h3:QB σ op a b=some c):AL op f g lc σ=some (c,σ):=As h1 (As h2 (Fp h3))
theorem U1(h:t lc σ=some (c,σ')):tE t lc σ=some (.bool c,σ'):=Fp h
theorem OW(h1:f lc σ=some (a,σ))(h2:HE σ a=some c):Mf f lc σ=some (c,σ):=As h1 (Fp h2)
theorem Dr(h1:f lc σ=some (a,σ')):Ft [f] lc σ=some ([a],σ'):=As h1 (Fp rfl)
theorem BD{fs:List EM}(h1:f lc σ=some (a,σ₁))(h2:Ft fs lc σ₁=some (xs,σ₂)):Ft (f::fs) lc σ=some (a::xs,σ₂):=As h1 (Fp h2)
theorem Kh(h1:f lc σ=some (.int i,σ))(h2:g lc σ=some (.int j,σ)):AL .Gt f g lc σ=some (decide (j<i),σ):=Cv h1 h2 rfl
theorem mA{r:AV×St}(hf:f lc σ=some (.loc l,σ))(hl:σ[l]?=some (.acc ini ps))(he:Ft es lc σ=some (xs,σ))(k:G (.loc l::xs) σ=some r):mE 4 G f es lc σ=some r :=
 As hf ((if_pos (by rw[Cg,hl];rfl)).trans (As he k))
theorem mS{r:AV×St}(hf:f lc σ=some (.str x,σ))(he:Ft es lc σ=some (xs,σ))(k:G (.str x::xs) σ=some r):mE 1 G f es lc σ=some r :=
 As hf ((if_pos rfl).trans (As he k))
theorem Ee(h1:f lc σ=some (a,σ₁))(h2:g lc σ₁=some (b,σ₂)):Ft [f,g] lc σ=some ([a,b],σ₂):=BD h1 (Dr h2)
theorem ES{fs:List EM}(h:Ft fs lc σ=some (xs,σ'))(hz:xs.length<=1000000):IG fs lc σ=some (.tup xs,σ'):=As h (AZ (decide_eq_true (by rw[sizeLine_eq];show xs.length<=_;omega)))
theorem H8(h1:f lc σ=some (.int i,σ))(h2:g lc σ=some (.int j,σ)):AL .Eq f g lc σ=some (decide (i=j),σ):=Cv h1 h2 (by
 show((Dj σ 4 (.int i)).bind λp=>(Dj σ 4 (.int j)).map λq=>PyData.eqv p q)=_
 rw[H5,H5]
 show some (PyData.eqv (.int i) (.int j))=_
 rw[PyData.eqv];rfl)
theorem jd(h:t lc σ=some (true,σ)):Vo (t::ts) lc σ=some (true,σ):=As h rfl
theorem ab(h:t lc σ=some (false,σ))(k:Vo ts lc σ=r):Vo (t::ts) lc σ=r:=As h k
theorem fR(h:t lc σ=some (true,σ))(k:Hw ts lc σ=r):Hw (t::ts) lc σ=r:=As h k
theorem fS(h:t lc σ=some (false,σ)):Hw (t::ts) lc σ=some (false,σ):=As h rfl
theorem je(h:t lc σ=some (c,σ)):Vo [t] lc σ=some (c,σ):=by cases c<;>exact As h rfl
theorem and_1(h:t lc σ=some (c,σ)):Hw [t] lc σ=some (c,σ):=by cases c<;>exact As h rfl
set_option tactic.hygienic true
theorem ae{b:Bool}(h:t lc σ=some (b,σ)):Ah [Ff t (Ah [NU]) (Ah [])] lc σ=some (if b then .brk else .next,lc,σ):=by
 cases b with
 |true=>exact Iu ((Gy h).trans rfl)
 |false=>exact Al ((Hn h).trans rfl)
set_option tactic.hygienic false
theorem La(h1:f lc σ=some (.str x,σ))(h2:g lc σ=some (.str y,σ))(h3:x.length+y.length<=1000000):AN .Add f g lc σ=some (.str (x++y),σ):=Dx h1 h2 (Z2.trans (AZ (decide_eq_true (by rw[sizeLine_eq];omega))))
end
set_option tactic.hygienic false
theorem FY(p:Str×Str):0<=CN p:=by unfold CN;right
theorem Qc:Ag []=0:=rfl
theorem Dh(p:Str×Str)(ps:List (Str×Str)):Ag (p::ps)=CN p+Ag ps:=by simp -iota [Ag]
theorem D5(ps qs:List (Str×Str)):Ag (ps++qs)=Ag ps+Ag qs:=by simp -iota [Ag]
theorem Bu(ps:List (Str×Str)):0<=Ag ps:=by
 induction ps with
 |nil=>exact Int.le_refl _
 |cons p ps ih=>rw[Dh];have:=FY p;omega
theorem Jv(h:p∈ps):CN p<=Ag ps:=by
 induction ps with
 |nil=>cases h
 |cons q ps ih =>
  rw[Dh]
  have:=FY q
  have:=Bu ps
  rcases List.mem_cons.mp h with rfl|h
  . omega
  . have:=ih h;omega
theorem Nv(h1:ps.length<=1000000)(h2:Ag ps<=1000000):accFits ps=true:=by
 unfold accFits
 simp -iota only[Bool.and_eq_true,decide_eq_true_eq,List.all_eq_true]
 refine⟨⟨λp hp=>?_,h1⟩,h2⟩
 have:=Jv hp
 unfold CN at this
 unfold FI HO
 simp -iota only[Bool.and_eq_true,decide_eq_true_eq]
 omega
theorem Dy(h:n<=1000000):n<=sizeLine:=by rw[sizeLine_eq];omega
section
variable{a:Nat}
theorem Ki{f s:Str}(h:σ[a]?=some (.acc ini ps))(hl:ps.length<=1000000):Gm [.loc a,.str f,.str s] σ=some (.none,σ.set a (.acc ini (ps++[(f,s)]))) :=
 E9 (lc':=[some (.loc a),some (.str f),some (.str s)]) rfl (Al (BP (mA rfl h (Dr (ES (Ee (a:=.str f) (b:=.str s) rfl rfl) (by show 2<=_;decide))) (RI h (Dy hl) rfl))))
theorem af(h:σ[a]?=some (.acc ini ps)):fz [.loc a] σ=some (.int ps.length,σ):=C3 rfl (BR (As (a:=a) rfl (Fp (Cy h))))
theorem dM(h:σ[a]?=some (.acc ini [])):K0 [.loc a] σ=some (AK ("", ""),σ) :=
 C3 rfl (BR ((Gy ((H8 (mA rfl h (xs:=[]) rfl (af h)) (j:=0) rfl).trans rfl)).trans (BR rfl)))
theorem RO(h:σ[a]?=some (.acc ini (ps++[p])))(hl:ps.length<1000000):K0 [.loc a] σ=some (AK p,σ.set a (.acc ini ps)):=by
 have e:=H8 (f:=mE 4 fz (nE 0) []) (lc:=[some (.loc a)]) (mA rfl h (xs:=[]) rfl (af h)) (g:=cE (.int 0)) (j:=0) rfl
 rw[List.length_append,List.length_singleton,decide_eq_false (by omega)] at e
 exact C3 (lc':=[some (.loc a)]) rfl ((Al (Hn e)).trans (BR (As (a:=a) rfl (As (Cy h) (As List.getLast?_concat ((AZ (decide_eq_true (by rw[List.length_append];exact Dy hl))).trans (by rw[List.dropLast_concat])))))))
theorem WC(h:σ[a]?=some (.acc ini ps))(hf:accFits ps=true):AD [.loc a] σ=some (.int (ini+Ag ps),σ):=C3 rfl (BR (As (a:=a) rfl (As (Cy h) (AZ hf))))
theorem WD(h:σ[a]?=some (.acc ini ps))(hf:accFits ps=true):Hj [.loc a] σ=some (.str (AE ps),σ):=C3 rfl (BR (As (a:=a) rfl (As (Cy h) (AZ hf))))
theorem U2(h:σ[a]?=some (.acc ini ps))(hf:accFits ps=true)(h0:0<=ini)(h1:ini<=1000000):QW AD a σ=some (ini+Ag ps,σ):=by
 have:=Bu ps
 have:Ag ps<=1000000:=by unfold accFits at hf;simp -iota only[Bool.and_eq_true,decide_eq_true_eq] at hf;exact hf.2
 unfold QW
 rw[WC h hf]
 exact AZ (decide_eq_true ⟨by omega,by omega⟩)
theorem len_eq(h:σ[a]?=some (.acc ini ps))(hf:accFits ps=true)(h0:0<=ini)(h1:ini<=1000000):BW AD [.loc a] σ=some (.int (ini+Ag ps),σ):=Z4 h (U2 h hf h0 h1)
theorem ah(h:σ[a]?=some (.acc ini ps))(hf:accFits ps=true):NW Hj FF [.loc a] σ=some (.str (AE ps),σ):=Z5 h (WD h hf)
theorem Ef(xs:List α)(b:Nat):∀ m,IS xs ((List.range m).map (b+·))=(xs.drop b).take m
 | 0=>by simp -iota [IS]
 |m+1=>by
  have ih:=Ef xs b m
  unfold IS at ih ⊢
  rw[List.range_succ,List.map_append,List.filterMap_append,ih,List.take_add_one,List.getElem?_drop]
  simp -iota only[List.map_cons,List.map_nil,List.filterMap_cons,List.filterMap_nil]
  cases xs[b+m]?<;>rfl
theorem Nw(xs:List α)(i:Nat):C0 xs (some (i:Int)) none=xs.drop i:=by
 unfold C0 JW
 rw[sliceBounds_plain]
 simp only[Option.elim,clipAt_nat]
 rw[sliceRange_one,Ef]
 rw[List.take_of_length_le (by rw[List.length_drop];right)]
 rcases Nat.le_total i xs.length with h|h
 . rw[Nat.min_eq_left h]
 . rw[Nat.min_eq_right h,List.drop_of_length_le h,List.drop_length]
theorem aj(xs:List α)(i:Nat):C0 xs none (some (i:Int))=xs.take i:=by
 unfold C0 JW
 rw[sliceBounds_plain]
 simp only[Option.elim,clipAt_nat]
 rw[sliceRange_one,Ef,List.drop_zero]
 rcases Nat.le_total i xs.length with h|h
 . rw[Nat.min_eq_left h];rfl
 . rw[Nat.min_eq_right h,List.take_of_length_le h,List.take_of_length_le (by right)]
theorem TC(xs:List α)(i:Nat)(h:i<=xs.length):Dl xs [] (some (i:Int)) none=xs.take i:=by
 unfold Dl Yu Yv
 rw[sliceBounds_plain]
 simp only[Option.elim,clipAt_nat,Nat.min_eq_left h]
 rw[Int.max_eq_right (Int.ofNat_le.mpr h),Int.toNat_natCast xs.length,List.drop_length]
 simp
theorem WG(xs new:List α):Dl xs new none none=new:=by
 unfold Dl Yu Yv
 rw[sliceBounds_plain]
 simp -iota only[Option.elim]
 rw[Int.max_eq_right (Int.ofNat_le.mpr (Nat.zero_le _)),Int.toNat_natCast xs.length,List.drop_length]
 simp
theorem RP(ps:List (Str×Str)):partsOf (ps.map AK)=some ps:=by
 induction ps with
 |nil=>rfl
 |cons p ps ih=>rw[List.map_cons,partsOf,ih];rfl
set_option tactic.hygienic true
theorem TF(h:σ[a]?=some (.acc ini ps))(hl:ps.length<=1000000)(hi:i<=ps.length):J5 [.loc a,.int i] σ=some (.lst ((ps.drop i).map AK),σ.set a (.acc ini (ps.take i))):=by
 have e2:=OT (a:=some (i:Int)) (b:=none) (v:=.lst []) h rfl rfl ⟨hl,Nat.zero_le _⟩
 rw[TC _ _ hi] at e2
 have e1:Cc (nE 0) (some (nE 1)) none [some (.loc a),some (.int i),none] σ=some (.lst ((ps.drop i).map AK),σ):=As (a:=(AV.loc a,σ)) rfl (As (a:=(some (i:Int),σ)) rfl (As (a:=(none,σ)) rfl (As (OS h) ((AZ (decide_eq_true (by rw[List.length_map];exact hl))).trans (by rw[Nw,List.map_drop])))))
 have e3:Hg (nE 0) (some (nE 1)) none (Br []) [some (.loc a),some (.int i),some (.lst ((ps.drop i).map AK))] σ=some (.next,[some (.loc a),some (.int i),some (.lst ((ps.drop i).map AK))],σ.set a (.acc ini (ps.take i))):=As (a:=(AV.lst [],σ)) rfl (As (a:=(AV.loc a,σ)) rfl (As (a:=a) rfl (As (a:=(some (i:Int),σ)) rfl (As (a:=(none,σ)) rfl (Fp e2)))))
 exact aa (lc':=[some (.loc a),some (.int i),some (.lst ((ps.drop i).map AK))]) rfl ((Al (Ed e1 (by show 2<3;decide))).trans ((Al e3).trans (BR (f:=retS (nE 2)) rfl)))
theorem jf{i j:Int}(h1:f lc σ=some (.int i,σ))(h2:g lc σ=some (.loc l,σ))(h:σ[l]?=some (.acc j ps)):Yl g f lc σ=some (.next,lc,σ.set l (.acc i ps)):=As h1 (As (a:=i) rfl (As h2 (As (a:=l) rfl (Fp (Cy h)))))
theorem WH(h1:f lc σ=some (v,σ))(h2:g lc σ=some (.loc l,σ))(h:Ox l none none v σ=some σ'):Hg g none none f lc σ=some (.next,lc,σ'):=As h1 (As h2 (As (a:=l) rfl (As (a:=(none,σ)) rfl (As (a:=(none,σ)) rfl (Fp h)))))
theorem OX(h:σ[a]?=some (.acc ini ps))(hx:partsOf xs=some qs)(hl:ps.length<=1000000)(hq:qs.length<=1000000):Ah [Hg (nE 0) none none (nE 1),Yl (nE 0) (cE (.int 0))] [some (.loc a),some (.lst xs)] σ=some (.next,[some (.loc a),some (.lst xs)],σ.set a (.acc 0 qs)):=by
 have e2:=OT (a:=none) (b:=none) (v:=.lst xs) h rfl hx ⟨hl,hq⟩
 rw[WG] at e2
 have e3:=jf (lc:=[some (.loc a),some (.lst xs)]) (f:=cE (.int 0)) (g:=nE 0) (i:=0) rfl rfl (List.getElem?_set_self (a:=AO.acc ini qs) (List.getElem?_eq_some_iff.mp h).1)
 rw[List.set_set] at e3
 exact(Al (WH rfl rfl e2)).trans (Al e3)
set_option tactic.hygienic false
theorem WJ(h:σ[a]?=some (.acc ini ps))(hl:ps.length<=1000000):HU [.loc a] σ=some (.none,σ.set a (.acc 0 [])):=by
 have e:ML ["self", "startval"] 1 [.none] M5 [.loc a] σ=some (.none,σ.set a (.acc 0 [])):=OV (lc':=[some (.loc a),some (.lst [])]) rfl ((DQ (lc₁:=[some (.loc a),some (.lst [])]) (σ₁:=σ) (Gy (Cv (a:=.none) (b:=.none) rfl rfl rfl)) rfl).trans (OX h (xs:=[]) rfl hl (Nat.zero_le _)))
 unfold HU nP
 rw[e];rfl
theorem WK(h:σ[a]?=some (.acc ini ps))(hl:ps.length<=1000000)(hq:qs.length<=1000000):HU [.loc a,.lst (qs.map AK)] σ=some (.none,σ.set a (.acc 0 qs)):=by
 have e:ML ["self", "startval"] 2 [] M5 [.loc a,.lst (qs.map AK)] σ=some (.none,σ.set a (.acc 0 qs)):=OV (lc':=[some (.loc a),some (.lst (qs.map AK))]) rfl ((DQ (lc₁:=[some (.loc a),some (.lst (qs.map AK))]) (σ₁:=σ) (Hn (Cv (a:=.lst (qs.map AK)) (b:=.none) rfl rfl rfl)) rfl).trans (OX h (RP qs) hl hq))
 unfold HU nP
 rw[e];rfl
theorem WM(h:σ[a]?=some (.acc ini ps))(hf:accFits ps=true)(h0:0<=ini)(h1:ini<=1000000) :
 Im [.loc a] σ=some (.bool (ini==0&&(Ag ps==0||Txt.isspace (AE ps))),σ):=by
 have c1:AL .Eq (Bk 6 (nE 0)) (cE (.int 0)) [some (.loc a)] σ=some (ini==0,σ):=H8 (As (a:=(AV.loc a,σ)) rfl (As (a:=a) rfl (As h rfl))) rfl
 have c2:nR AD (nE 0) [some (.loc a)] σ=some (ini+Ag ps != 0,σ):=As (a:=(AV.loc a,σ)) rfl (As (a:=a) rfl (As (Cy h) (Fp (U2 h hf h0 h1))))
 have c3:mE 1 GQ (Av (NW Hj j0) [nE 0]) [] [some (.loc a)] σ=some (.bool (Txt.isspace (AE ps)),σ):=mS (As (Dr rfl) (ah h hf)) (xs:=[]) rfl rfl
 refine C3 (lc':=[some (.loc a)]) rfl (BR (Fp (a:=(AV.bool (ini==0&&(Ag ps==0||Txt.isspace (AE ps))),σ)) ?_))
 refine As (U1 c1) (As (a:=(ini==0)) rfl ?_)
 cases hi:(ini==0) with
 |false=>rfl
 |true =>
  obtain rfl:=eq_of_beq hi
  rw[Int.zero_add] at c2
  refine As (U1 (Fp c2)) (As (a:=!(Ag ps != 0)) rfl ?_)
  unfold bne
  rw[Bool.not_not]
  cases Ag ps==0 with
  |true=>rfl
  |false=>exact c3
end
set_option tactic.hygienic true
theorem dN{xs ys:List SM}(h:Ah xs lc σ=some (.next,lc₁,σ₁)):Ah (xs++ys) lc σ=Ah ys lc₁ σ₁:=by
 induction xs generalizing lc σ with
 |nil=>cases h;rfl
 |cons f fs ih =>
  refine oB h λt e h=>?_
  rcases t with ⟨fl,CD,σ₂⟩
  cases fl with
  |next=>rw[List.cons_append,Al e];exact ih h
  |brk=>exact Fl.noConfusion (congrArg (·.1) (Option.some.inj h))
  |cont=>exact Fl.noConfusion (congrArg (·.1) (Option.some.inj h))
  |ret v=>exact Fl.noConfusion (congrArg (·.1) (Option.some.inj h))
theorem DR:Ah [] lc σ=some (.next,lc,σ):=rfl
structure AH (σ:St) (m ln ac:Nat) (ml:Int) (cw:Str) (Cr:Int) (sp:Str) (Ap:List Str) (ini:Int) (ps:List (Str×Str)):Prop where
 fm:σ[m]?=some (.fmt ml cw Cr sp ln ac)
 li:σ[ln]?=some (.list (Ap.map AV.str))
 acc:σ[ac]?=some (.acc ini ps)
noncomputable def Bt(X:List Nat)(σ σ':St):Prop:=σ.length<=σ'.length/\∀ k,k∉X->k<σ.length->σ'[k]?=σ[k]?
set_option tactic.hygienic false
theorem Bt.refl:Bt X σ σ:=⟨Nat.le_refl _,λuu uu uu=>rfl⟩
theorem Bt.trans(a:Bt X σ σ₁)(b:Bt X σ₁ σ₂):Bt X σ σ₂:=⟨Nat.le_trans a.1 b.1,λk hk hl=>(b.2 k hk (Nat.lt_of_lt_of_le hl a.1)).trans (a.2 k hk hl)⟩
theorem Bt.set(h:k∈X):Bt X σ (σ.set k o):=⟨by simp,λj hj uu=>by
 rw[List.getElem?_set_ne]
 rintro rfl
 exact hj h⟩
theorem ak{p:AO}(h:σ[i]?=some o)(k:σ[j]?=some p)(n:o≠p):i≠j:=λe=>n (Option.some.inj (h.symm.trans (e▸k)))
theorem Bt.app(δ:St):Bt X σ (σ++δ):=⟨by simp,λj uu hl=>List.getElem?_append_left hl⟩
theorem Bt.more{Y:List Nat}(S:Bt X σ σ')(h:∀ j∈X,j∈Y):Bt Y σ σ':=⟨S.1,λj hj hl=>S.2 j (λq=>hj (h j q)) hl⟩
theorem Bt.get(a:Bt X σ σ')(hk:k∉X)(h:σ[k]?=some o):σ'[k]?=some o:=(a.2 k hk (List.getElem?_eq_some_iff.mp h).1).trans h
theorem AH.ne1(F:AH σ m ln ac ml cw Cr sp Ap ini ps):m≠ln:=ak F.fm F.li nofun
theorem AH.ne2(F:AH σ m ln ac ml cw Cr sp Ap ini ps):m≠ac:=ak F.fm F.acc nofun
theorem AH.ne3(F:AH σ m ln ac ml cw Cr sp Ap ini ps):ln≠ac:=ak F.li F.acc nofun
theorem AH.setAcc(F:AH σ m ln ac ml cw Cr sp Ap ini ps)(i:Int)(qs:List (Str×Str)):AH (σ.set ac (.acc i qs)) m ln ac ml cw Cr sp Ap i qs :=
 ⟨by rw[List.getElem?_set_ne F.ne2.symm];exact F.fm,by rw[List.getElem?_set_ne F.ne3.symm];exact F.li,by rw[List.getElem?_set_self (List.getElem?_eq_some_iff.mp F.acc).1]⟩
theorem AH.setLi(F:AH σ m ln ac ml cw Cr sp Ap ini ps)(rs:List Str):AH (σ.set ln (.list (rs.map AV.str))) m ln ac ml cw Cr sp rs ini ps :=
 ⟨by rw[List.getElem?_set_ne F.ne1.symm];exact F.fm,by rw[List.getElem?_set_self (List.getElem?_eq_some_iff.mp F.li).1],by rw[List.getElem?_set_ne F.ne3];exact F.acc⟩
theorem AH.keep(F:AH σ m ln ac ml cw Cr sp Ap ini ps)(S:Bt X σ σ')(h1:m∉X)(h2:ln∉X)(h3:ac∉X):AH σ' m ln ac ml cw Cr sp Ap ini ps:=⟨S.get h1 F.fm,S.get h2 F.li,S.get h3 F.acc⟩
theorem Gr(h0:lc[0]?=some (some (.loc m)))(F:AH σ m ln ac ml cw Cr sp Ap ini ps):Bn lc σ=some (.loc ac,σ):=As (UY h0) (As (a:=m) rfl (As F.fm rfl))
theorem Kj(h0:lc[0]?=some (some (.loc m)))(F:AH σ m ln ac ml cw Cr sp Ap ini ps):EC lc σ=some (.loc ln,σ):=As (UY h0) (As (a:=m) rfl (As F.fm rfl))
theorem Lb(hf:f lc σ=some (.loc m,σ))(F:AH σ m ln ac ml cw Cr sp Ap ini ps):Bk 4 f lc σ=some (.loc ln,σ):=As hf (As (a:=m) rfl (As F.fm rfl))
theorem U4(hf:f lc σ=some (.loc m,σ))(F:AH σ m ln ac ml cw Cr sp Ap ini ps):Bk 5 f lc σ=some (.loc ac,σ):=As hf (As (a:=m) rfl (As F.fm rfl))
theorem I1(h0:lc[0]?=some (some (.loc m)))(F:AH σ m ln ac ml cw Cr sp Ap ini ps){fs:List EM}(hf:Ft fs lc σ=some (xs,σ)):mE 4 G Bn fs lc σ=G (.loc ac::xs) σ :=
 As (Gr h0 F) ((if_pos (by rw[Cg,F.acc];rfl)).trans (As hf rfl))
theorem OY(h0:lc[0]?=some (some (.loc m)))(F:AH σ m ln ac ml cw Cr sp Ap ini ps)(hf:accFits ps=true):Hk lc σ=some (.str (AE ps),σ):=As (Dr (Gr h0 F)) (ah F.acc hf)
theorem LI(h0:lc[0]?=some (some (.loc m)))(F:AH σ m ln ac ml cw Cr sp Ap ini ps)(hf:accFits ps=true)(hr:Ap.length<=1000000) :
 mE 2 Bv EC [Hk] lc σ=some (.none,σ.set ln (.list ((Ap++[AE ps]).map AV.str))):=by
 rw[List.map_append]
 exact As (Kj h0 F) ((if_pos (by rw[Cg,F.li];rfl)).trans (As (Dr (OY h0 F hf)) (DP F.li (Dy (by rw[List.length_map];exact hr)))))
noncomputable def BK(ps:List (Str×Str)):List (Str×Str):=if ps=[] then [("", "")] else if ps.getLast?=some ((" " : Str),("" : Str)) then ps.dropLast else ps
noncomputable def Ld(ini:Int)(ps:List (Str×Str)):Bool:=ini==0&&(Ag ps==0||Txt.isspace (AE ps))
noncomputable def AM(Ap:List Str)(ini:Int)(ps:List (Str×Str)):List Str :=
 if 0<ini+Ag (BK ps) then (if Ld ini (BK ps)&&!Ap.isEmpty then Ap.dropLast++[(Ap.getLast?.getD "")++AE (BK ps)] else Ap++[AE (BK ps)]) else Ap
theorem ao(a b c d:Str):PyData.eqv (.tuple [.str a,.str b]) (.tuple [.str c,.str d])=((a,b)==(c,d)):=by
 rw[PyData.eqv,PyData.eqvAll,PyData.eqvAll,PyData.eqvAll,PyData.eqv,PyData.eqv,Bool.and_true];rfl
theorem aq(σ:St)(a b:Str):QB σ .NotEq (AK (a,b)) (.tup [.str " ",.str ""])=some ((a,b) != ((" " : Str),("" : Str))):=by
 have t:∀ x y:Str,Dj σ 4 (.tup [.str x,.str y])=some (.tuple [.str x,.str y]):=λx y=>by rw[RG,Cb,C9,Cb,C9];rfl
 have e:aeqv σ (AK (a,b)) (.tup [.str " ",.str ""])=some ((a,b)==((" " : Str),("" : Str))):=As (t a b) ((Fp (t " " "")).trans (congrArg some (ao a b " " "")))
 exact Fp e
structure Fits (Ap:List Str) (ini:Int) (ps:List (Str×Str)):Prop where
 r:Ap.length<=100000
 t:(Ap.map (·.length)).sum<=100000
 p:ps.length<=100000
 l:Ag ps<=100000
 i0:0<=ini
 i1:ini<=100000
theorem Fits.acc(H:Fits Ap ini ps):accFits ps=true:=Nv (by have:=H.p;omega) (by have:=H.l;omega)
theorem EH(ps:List (Str×Str)):Ag ps.dropLast<=Ag ps:=by
 induction ps with
 |nil=>exact Int.le_refl _
 |cons p ps ih =>
  cases ps with
  |nil=>rw[List.dropLast_singleton,Dh];have:=FY p;simp -iota [Qc];right
  |cons q qs=>rw[List.dropLast_cons_cons,Dh,Dh p (q::qs)];omega
theorem Fits.last(H:Fits Ap ini ps):Fits Ap ini (BK ps):=by
 unfold BK
 split
 . exact⟨H.r,H.t,by simp,by simp -iota [Ag,CN];decide,H.i0,H.i1⟩
 . split
   . exact⟨H.r,H.t,by rw[List.length_dropLast];have:=H.p;omega,Int.le_trans (EH ps) H.l,H.i0,H.i1⟩
   . exact H
set_option tactic.hygienic true
theorem pop_push(F:AH σ m ln ac ml cw Cr sp Ap ini ps)(H:Fits Ap ini ps)(y:Option AV) :
 ∃ σ' lc',Ah [BZ 1 (mE 4 K0 Bn []),Ff (AL .NotEq (nE 1) (IG [cE (.str " "),cE (.str "")])) (Ah [Bj (KU Gm Bn (nE 1))]) (Ah [])] [some (.loc m),y] σ=some (.next,lc',σ')/\AH σ' m ln ac ml cw Cr sp Ap ini (BK ps)/\Bt [ac] σ σ'/\lc'[0]?=some (some (.loc m))/\σ'.length=σ.length:=by
 have key:∀ (f s:Str) (qs:List (Str×Str)) (σ₁:St),K0 [.loc ac] σ=some (AK (f,s),σ₁)->AH σ₁ m ln ac ml cw Cr sp Ap ini qs->Bt [ac] σ σ₁->σ₁.length=σ.length->qs.length<=1000000->BK ps=(if (f,s)=((" " : Str),("" : Str)) then qs else qs++[(f,s)]) ->
  ∃ σ' lc',Ah [BZ 1 (mE 4 K0 Bn []),Ff (AL .NotEq (nE 1) (IG [cE (.str " "),cE (.str "")])) (Ah [Bj (KU Gm Bn (nE 1))]) (Ah [])] [some (.loc m),y] σ=some (.next,lc',σ')/\AH σ' m ln ac ml cw Cr sp Ap ini (BK ps)/\Bt [ac] σ σ'/\lc'[0]?=some (some (.loc m))/\σ'.length=σ.length:=by
  intro f s qs σ₁ e1 F1 S1 z1 hq hl
  have c1:=Cv (op:=.NotEq) (f:=nE 1) (lc:=[some (.loc m),some (AK (f,s))]) (σ:=σ₁) (a:=AK (f,s)) rfl (ES (Ee (f:=cE (.str " ")) (g:=cE (.str "")) (a:=.str " ") (b:=.str "") rfl rfl) (by show 2<=_;decide)) (aq σ₁ f s)
  have e2:BZ 1 (mE 4 K0 Bn []) [some (.loc m),y] σ=some (.next,[some (.loc m),some (AK (f,s))],σ₁):=Ed (lc:=[some (.loc m),y]) ((I1 (lc:=[some (.loc m),y]) (fs:=[]) (xs:=[]) rfl F rfl).trans e1) (by show 1<2;decide)
  rw[hl]
  by_cases hp:(f,s)=((" " : Str),("" : Str))
  . rw[if_pos hp]
    rw[hp,bne_self_eq_false] at c1
    rw[hp] at e2
    exact(B6 σ₁ _ ⟨(Al e2).trans (DQ (Hn c1) rfl),F1,S1,rfl,z1⟩)
  . rw[if_neg hp]
    rw[bne_iff_ne.mpr hp] at c1
    have e3:KU Gm Bn (nE 1) [some (.loc m),some (AK (f,s))] σ₁=some (.none,σ₁.set ac (.acc ini (qs++[(f,s)]))):=As (Gr rfl F1) ((if_pos (by rw[Cg,F1.acc];rfl)).trans (As (a:=(AK (f,s),σ₁)) rfl (As (a:=[AV.str f,.str s]) rfl ((if_pos (show 2<1000 by decide)).trans (Ki F1.acc hq)))))
    exact(B6 _ _ ⟨(Al e2).trans (DQ (Gy c1) (Al (BP e3))),F1.setAcc ini _,S1.trans (.set (by simp)),rfl,by rw[List.length_set];exact z1⟩)
 have pz:=H.p
 rcases List.eq_nil_or_concat ps with rfl|⟨qs,p,rfl⟩
 . exact key "" "" [] σ (dM F.acc) F .refl rfl (Nat.zero_le _) rfl
 . rw[List.concat_eq_append] at *
   rw[List.length_append] at pz
   have pz:qs.length+1<=100000:=pz
   refine key p.1 p.2 qs _ (RO F.acc (by omega)) (F.setAcc ini qs) (.set (by simp)) (List.length_set ..) (by omega) ?_
   unfold BK
   rw[if_neg (by simp),List.getLast?_concat,List.dropLast_concat]
   by_cases hp:p=((" " : Str),("" : Str))
   . rw[if_pos hp,if_pos (congrArg some hp)]
   . rw[if_neg hp,if_neg λe=>hp (Option.some.inj e)]
set_option tactic.hygienic false
theorem RQ(h0:lc[0]?=some (some (.loc m)))(F:AH σ m ln ac ml cw Cr sp Ap ini ps)(H:Fits Ap ini ps):Mf (mE 4 Im Bn []) lc σ=some (Ld ini ps,σ) :=
 OW ((I1 (fs:=[]) (xs:=[]) h0 F rfl).trans (WM F.acc H.acc H.i0 (Int.le_trans H.i1 (by decide)))) rfl
theorem RR(h0:lc[0]?=some (some (.loc m)))(F:AH σ m ln ac ml cw Cr sp Ap ini ps)(H:Fits Ap ini ps):Mf EC lc σ=some (!Ap.isEmpty,σ) :=
 OW (Kj h0 F) (TA.trans (As (AY F.li) ((AZ (decide_eq_true (by rw[List.length_map];exact Dy (Nat.le_trans H.r (by decide))))).trans (by rw[List.isEmpty_map]))))
theorem Jw(h0:lc[0]?=some (some (.loc m)))(F:AH σ m ln ac ml cw Cr sp Ap ini ps)(H:Fits Ap ini ps):Av (BW AD) [Bn] lc σ=some (.int (ini+Ag ps),σ) :=
 As (Dr (Gr h0 F)) (len_eq F.acc H.acc H.i0 (Int.le_trans H.i1 (by decide)))
theorem CK(x y:Str):(x++y).length=x.length+y.length:=by
 show(x++y).cps.size=_
 rw[Str.cps_append,Array.size_append]
 rfl
theorem au(xs:List Str):∀ acc:Array Nat,(xs.foldl (λacc p=>acc++("" : Str).cps++p.cps) acc).toList=acc.toList++(xs.map (·.cps.toList)).flatten:=by
 induction xs with
 |nil=>intro acc;simp
 |cons x xs ih =>
  intro acc
  rw[List.foldl_cons,ih]
  have:("" : Str).cps=#[]:=by decide
  simp -iota [this]
theorem RT(xs:List Str):(Txt.join "" xs).cps.toList=(xs.map (·.cps.toList)).flatten:=by
 cases xs with
 |nil=>rfl
 |cons x xs =>
  show(xs.foldl (λacc p=>acc++("" : Str).cps++p.cps) x.cps).toList=_
  rw[au];simp
theorem Iv(h:x.cps.toList=y.cps.toList):x=y:=by
 cases x;cases y
 simp at h
 simp -iota [h]
theorem Kk(x y:Str):(x++y).cps.toList=x.cps.toList++y.cps.toList:=by rw[Str.cps_append,Array.toList_append]
theorem join_cons(x:Str)(xs:List Str):Txt.join "" (x::xs)=x++Txt.join "" xs:=Iv (by rw[RT,Kk,RT];simp)
theorem RU:AE [] = "" := rfl
theorem Kl(p:Str×Str)(ps:List (Str×Str)):AE (p::ps)=DM p++AE ps:=by unfold AE;rw[List.map_cons,join_cons]
theorem RV(x:Str):x ++ "" = x:=Iv (by rw[Kk,show("" : Str).cps.toList=[] from by decide,List.append_nil])
theorem CF(ps:List (Str×Str)):((AE ps).length:Int)=Ag ps:=by
 induction ps with
 |nil=>rfl
 |cons p ps ih=>rw[Kl,CK,Dh,Int.natCast_add,ih,Lq]
set_option tactic.hygienic true
theorem aw(h0:lc[0]?=some (some (.loc m)))(F:AH σ m ln ac ml cw Cr sp Ap ini ps)(H:Fits Ap ini ps)(hr:Ap≠[]) :
 Ez EC (CE (cE (.int 1))) .Add Hk lc σ=some (.next,lc,σ.set ln (.list ((Ap.dropLast++[(Ap.getLast?.getD "")++AE ps]).map AV.str))):=by
 obtain⟨rs,r,rfl⟩:∃ rs r,Ap=rs++[r]:=by
  rcases List.eq_nil_or_concat Ap with h|⟨rs,r,h⟩
  . exact absurd h hr
  . exact(B6 rs r (by rw[h,List.concat_eq_append]))
 have hn:=H.r
 rw[List.length_append,List.length_singleton] at hn
 have ht:=H.t
 rw[List.map_append,List.sum_append] at ht
 simp at ht
 have e1:seqIndex? (-1) (rs.length+1)=some rs.length:=GJ (Nat.succ_pos _)
 have e2:(AE ps).length<=100000:=by have:=CF ps;have:=H.l;omega
 have e3:r.length+(AE ps).length<=1000000:=by omega
 have e4:=FX (v:=.str (r++AE ps)) (i:=-1) F.li (by decide) (by rw[List.length_map,List.length_append];exact e1) (by rw[List.length_map,List.length_append];exact Nat.lt_succ_self _)
 have e5:HT σ (.loc ln) (-1)=some (.str r):=by
  rw[Dc (Cq F.li),if_pos (by decide),List.length_map,List.length_append,List.length_singleton,e1]
  simp
 have e6:Yw .Add (.str r) (.str (AE ps))=some (.str (r++AE ps)):=by rw[H7,AZ (decide_eq_true e3)]
 exact As (Kj h0 F) (As (a:=ln) rfl (As (a:=(AV.int (-1),σ)) rfl (As (a:=-1) rfl (As e5 (As (OY h0 F H.acc) (As e6 (Fp (e4.trans (by simp))))))))) 
theorem Fz(F:AH σ m ln ac ml cw Cr sp Ap ini ps)(H:Fits Ap ini ps):∃ σ',ED [.loc m] σ=some (.none,σ')/\AH σ' m ln ac ml cw Cr sp (AM Ap ini ps) 0 []/\Bt [ln,ac] σ σ'/\σ'.length=σ.length:=by
 (refine oV (pop_push F H none) λσ₁ lc₁ e1 F1 S1 h1 z1=>?_)
 have H1:=H.last
 have hq:(BK ps).length<=1000000:=Nat.le_trans H1.p (by decide)
 have go:∀ (rs:List Str),AM Ap ini ps=rs->(∃ σ₂,Ff (AL .Gt (Av (BW AD) [Bn]) (cE (.int 0)))
  (Ah [Ff (Hw [Mf (mE 4 Im Bn []),Mf EC])
   (Ah [Ez EC (CE (cE (.int 1))) .Add Hk])
   (Ah [Bj (mE 2 Bv EC [Hk])])]) (Ah []) lc₁ σ₁=some (.next,lc₁,σ₂)/\AH σ₂ m ln ac ml cw Cr sp rs ini (BK ps)/\Bt [ln,ac] σ₁ σ₂/\σ₂.length=σ₁.length) ->
   ∃ σ',ED [.loc m] σ=some (.none,σ')/\AH σ' m ln ac ml cw Cr sp (AM Ap ini ps) 0 []/\Bt [ln,ac] σ σ'/\σ'.length=σ.length:=by
  intro rs hr h
  refine Mu h λσ₂ e2 F2 S2 z2=>?_
  rw[hr]
  have e3:=(I1 (fs:=[]) (xs:=[]) h1 F2 rfl).trans (WJ F2.acc hq)
  exact⟨σ₂.set ac (.acc 0 []),E9 (lc':=lc₁) rfl ((dN e1).trans ((Al e2).trans (Al (BP e3)))),F2.setAcc 0 [],(S1.more (by simp)).trans (S2.trans (.set (by simp))),by rw[List.length_set,z2,z1]⟩
 have eL:=Kh (Jw h1 F1 H1) (g:=cE (.int 0)) (j:=0) rfl
 by_cases KI:0<ini+Ag (BK ps)
 . rw[decide_eq_true KI] at eL
   by_cases hg:(Ld ini (BK ps)&&!Ap.isEmpty)=true
   . have Gj:Ap≠[]:=by rintro rfl;simp at hg
     have tP:=(Bool.and_eq_true _ _).mp hg
     refine go (Ap.dropLast++[(Ap.getLast?.getD "")++AE (BK ps)]) (by unfold AM;rw[if_pos KI,if_pos hg]) ⟨_,?_,F1.setLi _,.set (by simp),List.length_set ..⟩
     have o1:=RQ h1 F1 H1
     have o2:=RR h1 F1 H1
     rw[tP.1] at o1
     rw[tP.2] at o2
     have o3:Hw [Mf (mE 4 Im Bn []),Mf EC] lc₁ σ₁=some (true,σ₁):=As o1 (As o2 rfl)
     exact(Gy eL).trans (DQ (Gy o3) (Al (aw h1 F1 H1 Gj)))
   . refine go (Ap++[AE (BK ps)]) (by unfold AM;rw[if_pos KI,if_neg hg]) ⟨_,?_,F1.setLi _,.set (by simp),List.length_set ..⟩
     refine(Gy eL).trans (DQ (Hn ?_) (Al (BP (LI h1 F1 H1.acc (Nat.le_trans H1.r (by decide))))))
     refine As (RQ h1 F1 H1) ?_
     cases h3:Ld ini (BK ps) with
     |false=>rfl
     |true=>rw[h3,Bool.true_and] at hg;exact As ((RR h1 F1 H1).trans (by rw[Bool.eq_false_iff.mpr hg])) rfl
 . rw[decide_eq_false KI] at eL
   exact go Ap (by unfold AM;rw[if_neg KI]) ⟨σ₁,Hn eL,F1,.refl,rfl⟩
noncomputable def FA(x:Str)(c:Nat):Bool:=x.cps[0]?==some c
noncomputable def Km(x:Str)(c:Nat):Bool:=x.cps[x.cps.size-1]?==some c
noncomputable def H9(ps:List (Str×Str))(i:Nat):Str:=(ps[i]?.map (·.1)).getD ""
noncomputable def Kn(ps:List (Str×Str))(i:Nat):Str:=(ps[i]?.map (·.2)).getD ""
noncomputable def Gs(ps:List (Str×Str))(c i:Nat):Bool:=(Txt.isspace ⟨#[c]⟩&&FA (H9 ps i) c)||Km (Kn ps (i-1)) c
noncomputable def DZ(ps:List (Str×Str))(c:Nat):Nat->Option Nat
 | 0=>none
 |i+1=>if Gs ps c (i+1) then some (i+1) else DZ ps c i
noncomputable def seek(ps:List (Str×Str)):List Nat->Option Nat
 | []=>none
 |c::r=>match DZ ps c (ps.length-1) with
  |some i=>some i
  |none=>seek ps r
set_option tactic.hygienic false
theorem Le(n:Nat):Builtin.Range.rangeSize (n:Int) 0 (-1)=n:=by
 unfold Builtin.Range.rangeSize
 simp
 try omega
theorem Qd(a b:Nat):((⟨#[a]⟩:Str)==⟨#[b]⟩)=(a==b):=by
 rw[Bool.eq_iff_iff,beq_iff_eq,beq_iff_eq]
 simp
theorem OZ(h:σ[ac]?=some (.acc ini ps))(hp:ps[i]?=some p)(hl:ps.length<=100000):HT σ (.loc ac) (i:Int)=some (AK p):=by
 have hi:=(List.getElem?_eq_some_iff.mp hp).1
 have e:seqIndex? (i:Int) ps.length=some i:=Sr hi
 rw[Dc (OS h),if_pos (by omega),List.length_map,e]
 show(ps.map AK)[i]?=_
 rw[List.getElem?_map,hp]
 rfl
theorem ay(a c:Nat):QB σ .Eq (CR a) (CR c)=some (a==c):=by
 show((Dj σ 4 (.str ⟨#[a]⟩)).bind λp=>(Dj σ 4 (.str ⟨#[c]⟩)).map λq=>PyData.eqv p q)=_
 rw[C9,C9]
 show some (PyData.eqv (.str ⟨#[a]⟩) (.str ⟨#[c]⟩))=_
 rw[PyData.eqv,Qd]
theorem U5{e i:EM}{c p:Nat}{v:Int}(h1:e lc σ=some (.str x,σ))(h2:i lc σ=some (.int v,σ))(h3:g lc σ=some (CR c,σ))(hx:x.length<=100000)(hv:-10<=v/\v<=10)(h0:x.cps.size=0->x.cps[p]?=none)(hp:0<x.cps.size->p<x.cps.size/\seqIndex? v x.length=some p) :
 Hw [Mf e,AL .Eq (A0 e i) g] lc σ=some (x.cps[p]?==some c,σ):=by
 have t1:Mf e lc σ=some ((x.length:Int) != 0,σ):=OW h1 (Hm.trans (AZ (decide_eq_true (Dy (Nat.le_trans hx (by decide))))))
 rcases Nat.eq_zero_or_pos x.cps.size with h|h
 . rw[show x.length=0 from h] at t1
   rw[h0 h]
   exact fS t1
 . refine AS (hp h) λa b=>?_
   rw[bne_iff_ne.mpr (show(x.length:Int)≠0 from Int.ofNat_ne_zero.mpr (Nat.ne_of_gt h))] at t1
   rw[Array.getElem?_eq_getElem a]
   refine fR t1 (and_1 (Cv (Ec h1 h2 ?_) h3 (ay x.cps[p] c)))
   rw[RL,if_pos ⟨Int.le_trans (by decide) hv.1,Int.lt_of_le_of_lt hv.2 (by decide)⟩,b]
   show(x.cps[p]?).map _=_
   rw[Array.getElem?_eq_getElem a];rfl
theorem Jx(H:Fits Ap ini ps)(h:p∈ps):p.1.length<=100000/\p.2.length<=100000:=by
 have:=Jv h
 have:=H.l
 unfold CN at *
 omega
theorem fst_eq(h0:lc[0]?=some (some (.loc m)))(h4:lc[4]?=some (some (.int (i:Int))))(F:AH σ m ln ac ml cw Cr sp Ap ini ps)(H:Fits Ap ini ps)(hi:i<ps.length) :
 A0 (A0 Bn (nE 4)) (cE (.int 0)) lc σ=some (.str (H9 ps i),σ):=by
 have e:H9 ps i=ps[i].1:=by unfold H9;rw[List.getElem?_eq_getElem hi];rfl
 rw[e]
 exact Ec (Ec (Gr h0 F) (UY h4) (OZ F.acc (List.getElem?_eq_getElem hi) H.p)) rfl Z6
theorem jg(h0:lc[0]?=some (some (.loc m)))(h4:lc[4]?=some (some (.int ((i+1:Nat):Int))))(F:AH σ m ln ac ml cw Cr sp Ap ini ps)(H:Fits Ap ini ps)(hi:i<ps.length) :
 A0 (A0 Bn (AN .Sub (nE 4) (cE (.int 1)))) (cE (.int 1)) lc σ=some (.str (Kn ps i),σ):=by
 have e:Kn ps i=ps[i].2:=by unfold Kn;rw[List.getElem?_eq_getElem hi];rfl
 have e3:(((i+1:Nat):Int)-1)=(i:Int):=by omega
 have e4:AN .Sub (nE 4) (cE (.int 1)) lc σ=some (.int (i:Int),σ):=e3▸Ju (UY h4) rfl
 rw[e]
 exact Ec (Ec (Gr h0 F) e4 (OZ F.acc (List.getElem?_eq_getElem hi) H.p)) rfl Z7
noncomputable abbrev I2(m:Nat)(a1 a2:Option AV)(c:Nat)(a4 a5 a6 a7:Option AV):Lc:=[some (.loc m),a1,a2,some (CR c),a4,a5,a6,a7]
set_option tactic.hygienic true
theorem TH{c:Nat}{a1 a2 a5 a6 a7:Option AV}(F:AH σ m ln ac ml cw Cr sp Ap ini ps)(H:Fits Ap ini ps)(hi:i+1<ps.length) :
 ∃ b1 b5,OD (I2 m a1 a2 c (some (.int ((i+1:Nat):Int))) a5 a6 a7) σ=some (if Gs ps c (i+1) then .brk else .next,I2 m b1 a2 c (some (.int ((i+1:Nat):Int))) b5 a6 a7,σ):=by
 have jS:=Nat.lt_of_succ_lt hi
 have f1:(H9 ps (i+1)).length<=100000:=by unfold H9;rw[List.getElem?_eq_getElem hi];exact(Jx H (List.getElem_mem hi)).1
 have f2:(Kn ps i).length<=100000:=by unfold Kn;rw[List.getElem?_eq_getElem jS];exact(Jx H (List.getElem_mem jS)).2
 have oC:Mf (mE 1 GQ (nE 3) []) (I2 m a1 a2 c (some (.int ((i+1:Nat):Int))) a5 a6 a7) σ=some (Txt.isspace ⟨#[c]⟩,σ):=OW (mS (x:=⟨#[c]⟩) rfl (xs:=[]) rfl rfl) rfl
 have sec:=λb1=>(Al (fs:=[Ff (Hw [Mf (nE 5),AL .Eq (A0 (nE 5) (CE (cE (.int 1)))) (nE 3)]) (Ah [NU]) (Ah [])]) (Ed (i:=5) (lc:=I2 m b1 a2 c (some (.int ((i+1:Nat):Int))) a5 a6 a7) (jg rfl rfl F H jS) (by show 5<8;decide))).trans (ae (U5 (p:=(Kn ps i).cps.size-1) (c:=c) (v:=-1) rfl rfl rfl f2 (by decide) (λh=>Array.getElem?_eq_none (by omega)) λh=>⟨by omega,GJ h⟩))
 have KC:Gs ps c (i+1)=((Txt.isspace ⟨#[c]⟩&&FA (H9 ps (i+1)) c)||Km (Kn ps i) c):=rfl
 unfold OD
 rw[KC]
 cases az:Txt.isspace ⟨#[c]⟩ with
 |false =>
  rw[az] at oC
  exact(B6 a1 _ ((Al (Hn oC)).trans (sec a1)))
 |true =>
  rw[az] at oC
  have e3:=(Gy (f:=Ah [BZ 1 (A0 (A0 Bn (nE 4)) (cE (.int 0))),Ff (Hw [Mf (nE 1),AL .Eq (A0 (nE 1) (cE (.int 0))) (nE 3)]) (Ah [NU]) (Ah [])]) (g:=Ah []) oC).trans ((Al (Ed (i:=1) (fst_eq rfl rfl F H hi) (by show 1<8;decide))).trans (ae (U5 (p:=0) (c:=c) (v:=0) rfl rfl rfl f1 (by decide) (λh=>Array.getElem?_eq_none (by omega)) λh=>⟨h,Sr (k:=0) h⟩)))
  cases hS:FA (H9 ps (i+1)) c with
  |true=>rw[show((H9 ps (i+1)).cps[0]?==some c)=true from hS] at e3;exact(B6 _ _ (Iu e3))
  |false=>rw[show((H9 ps (i+1)).cps[0]?==some c)=false from hS] at e3;exact(B6 _ _ ((Al e3).trans (sec _)))
variable{QS:Fl->Lc->St->Prop}{a b:AV}{a1 a2 a4 a5 a6 a7 b1 b3 b5:Option AV}{c:Nat}{h:EM}{rs:List Str}{s:Str}
noncomputable abbrev Ko:=List Str×Int×List (Str×Str)
noncomputable abbrev dO(σ:St)(m ln ac:Nat)(ml:Int)(cw:Str)(Cr:Int)(sp:Str)(st:Ko):Prop:=AH σ m ln ac ml cw Cr sp st.1 st.2.1 st.2.2
theorem TJ(F:AH σ m ln ac ml cw Cr sp Ap ini ps)(H:Fits Ap ini ps)(hN:N+1=ps.length) :
 ∀ (k t fuel:Nat) (a1 a2 a4 a5 a6 a7:Option AV),k+t=N->k<fuel->∃ b1 b4 b5,CM (IU (N:Int) 0 (-1)) (λlc y=>putL lc 4 y) OD (Ah [Of]) fuel t (I2 m a1 a2 c a4 a5 a6 a7) σ =
  some (match DZ ps c k with|some _=>.next|none=>.cont,I2 m b1 a2 c b4 b5 a6 a7,σ)/\∀ i,DZ ps c k=some i->b4=some (.int (i:Int)):=by
 intro k
 induction k with
 |zero =>
  intro t fuel a1 a2 a4 a5 a6 a7 hk hf
  obtain⟨fuel,rfl⟩:∃ f,fuel=f+1:=⟨fuel-1,by omega⟩
  refine(EY a1 a4 a5 ⟨?_,λi h=>by cases h⟩)
  have:IU (N:Int) 0 (-1) σ t=some none:=by
   unfold IU
   rw[Le,decide_eq_false (by omega)]
   rfl
  rw[FK this]
  rfl
 |succ k ih =>
  intro t fuel a1 a2 a4 a5 a6 a7 hk hf
  obtain⟨fuel,rfl⟩:∃ f,fuel=f+1:=⟨fuel-1,by omega⟩
  have e1:IU (N:Int) 0 (-1) σ t=some (some (.int ((k+1:Nat):Int))):=by
   unfold IU
   rw[Le,AZ (decide_eq_true (by omega))]
   congr 3
   omega
  refine ID (TH (c:=c) (i:=k) (a1:=a1) (a2:=a2) (a5:=a5) (a6:=a6) (a7:=a7) F H (by omega)) λb1 b5 e2=>?_
  have e3:putL (I2 m a1 a2 c a4 a5 a6 a7) 4 (.int ((k+1:Nat):Int))=some (I2 m a1 a2 c (some (.int ((k+1:Nat):Int))) a5 a6 a7):=rfl
  rw[Ir (lc₁:=(I2 m a1 a2 c (some (.int ((k+1:Nat):Int))) a5 a6 a7)) e1 e3 e2]
  by_cases hh:Gs ps c (k+1)=true
  . rw[if_pos hh]
    have e4:DZ ps c (k+1)=some (k+1):=by unfold DZ;rw[if_pos hh]
    rw[e4]
    exact(EY b1 (some (.int ((k+1:Nat):Int))) b5 ⟨rfl,λi h=>by cases h;rfl⟩)
  . rw[if_neg hh]
    have e4:DZ ps c (k+1)=DZ ps c k:=by rw[DZ,if_neg hh]
    rw[e4]
    exact ih (t+1) fuel b1 a2 (some (.int ((k+1:Nat):Int))) b5 a6 a7 (by omega) (by omega)
set_option tactic.hygienic false
theorem jh(h:N<1000000):Dm (N:Int) 0 (-1)=true:=by
 have f:Builtin.Range.rangeFitsLong (N:Int)=true:=by
  unfold Builtin.Range.rangeFitsLong
  rw[Bool.and_eq_true,decide_eq_true_eq,decide_eq_true_eq]
  constructor<;>omega
 unfold Dm Builtin.Range.small
 rw[Le,f]
 generalize ((N:Int)==0)=z
 cases z<;>decide
theorem WN(F:AH σ m ln ac ml cw Cr sp Ap ini ps)(H:Fits Ap ini ps)(hp:ps≠[]) :
 ∃ b1 b4 b5,Ah [GP 4 [AN .Sub (mE 4 fz Bn []) (cE (.int 1)),cE (.int 0),CE (cE (.int 1))] OD (Ah [Of]),NU] (I2 m a1 a2 c a4 a5 a6 a7) σ =
  some (match DZ ps c (ps.length-1) with|some _=>.brk|none=>.cont,I2 m b1 a2 c b4 b5 a6 a7,σ)/\∀ i,DZ ps c (ps.length-1)=some i->b4=some (.int (i:Int)):=by
 obtain⟨N,hN⟩:∃ N,N+1=ps.length:=⟨ps.length-1,Nat.sub_add_cancel (List.length_pos_iff.mpr hp)⟩
 have hz:=H.p
 have vT:ps.length-1=N:=Nat.sub_eq_of_eq_add hN.symm
 rw[vT]
 refine Gf (TJ (c:=c) F H hN N 0 1000000 a1 a2 a4 a5 a6 a7 rfl (by omega)) λb1 b4 b5 e hb=>?_
 have ea:Ft [AN .Sub (mE 4 fz Bn []) (cE (.int 1)),cE (.int 0),CE (cE (.int 1))] (I2 m a1 a2 c a4 a5 a6 a7) σ=some ([.int (N:Int),.int 0,.int (-1)],σ):=by
  have e0:=Ju ((I1 (fs:=[]) (xs:=[]) (lc:=I2 m a1 a2 c a4 a5 a6 a7) rfl F rfl).trans (af F.acc)) (g:=cE (.int 1)) (j:=1) rfl
  rw[show((ps.length:Int)-1)=N by omega] at e0
  exact BD e0 (Ee (a:=.int 0) (b:=.int (-1)) rfl rfl)
 have ef:=It ea rfl (jh (by omega)) e
 refine(EY b1 b4 b5 ⟨?_,hb⟩)
 cases hs:DZ ps c N with
 |none=>rw[hs] at ef;exact Kg ef
 |some i=>rw[hs] at ef;exact(Al ef).trans (Iu rfl)
noncomputable abbrev Mq(m:Nat)(a1 a2 a3 a4 a5 a6 a7:Option AV):Lc:=[some (.loc m),a1,a2,a3,a4,a5,a6,a7]
noncomputable abbrev vU:SM:=Ah [GP 4 [AN .Sub (mE 4 fz Bn []) (cE (.int 1)),cE (.int 0),CE (cE (.int 1))] OD (Ah [Of]),NU]
set_option tactic.hygienic true
theorem TK(F:AH σ m ln ac ml cw Cr sp Ap ini ps)(H:Fits Ap ini ps)(hp:ps≠[]) :
 ∀ (k t fuel:Nat) (a1 a2 a3 a4 a5 a6 a7:Option AV),k+t=sp.cps.size->k<fuel->∃ b1 b3 b4 b5,
  CM (Q8 sp) (λlc y=>putL lc 3 y) vU O fuel t (Mq m a1 a2 a3 a4 a5 a6 a7) σ =
   (match seek ps (sp.cps.toList.drop t) with
    |some i=>some (.next,Mq m b1 a2 b3 (some (.int (i:Int))) b5 a6 a7,σ)
    |none=>O (Mq m b1 a2 b3 b4 b5 a6 a7) σ):=by
 intro k
 induction k with
 |zero =>
  intro t fuel a1 a2 a3 a4 a5 a6 a7 hk hf
  obtain⟨fuel,rfl⟩:∃ f,fuel=f+1:=⟨fuel-1,by omega⟩
  refine(Lm a1 a3 a4 a5 ?_)
  have e0:sp.cps.toList.drop t=[]:=List.drop_of_length_le (by simp;omega)
  rw[e0]
  have:Q8 sp σ t=some none:=by
   unfold Q8
   rw[Array.getElem?_eq_none (by omega)];rfl
  rw[FK this]
  rfl
 |succ k ih =>
  intro t fuel a1 a2 a3 a4 a5 a6 a7 hk hf
  obtain⟨fuel,rfl⟩:∃ f,fuel=f+1:=⟨fuel-1,by omega⟩
  have ht:t<sp.cps.size:=by omega
  have e1:Q8 sp σ t=some (some (CR sp.cps[t])):=by
   unfold Q8
   rw[Array.getElem?_eq_getElem ht];rfl
  have e0:sp.cps.toList.drop t=sp.cps[t]::sp.cps.toList.drop (t+1):=by
   rw[List.drop_eq_getElem_cons (by simpa using ht)];simp
  (refine Gf (WN (c:=sp.cps[t]) (a1:=a1) (a2:=a2) (a4:=a4) (a5:=a5) (a6:=a6) (a7:=a7) F H hp) λb1 b4 b5 e2 hb=>?_)
  have e3:putL (Mq m a1 a2 a3 a4 a5 a6 a7) 3 (CR sp.cps[t])=some (I2 m a1 a2 sp.cps[t] a4 a5 a6 a7):=rfl
  rw[Ir (st:=λlc y=>putL lc 3 y) (lc₁:=(I2 m a1 a2 sp.cps[t] a4 a5 a6 a7)) e1 e3 e2,e0]
  unfold seek
  cases hs:DZ ps sp.cps[t] (ps.length-1) with
  |some i =>
   dsimp only
   rw[hb i hs]
   exact(Lm b1 (some (CR sp.cps[t])) b4 b5 rfl)
  |none =>
   dsimp only
   exact ih (t+1) fuel b1 a2 (some (CR sp.cps[t])) b4 b5 a6 a7 (by omega) (by omega)
set_option tactic.hygienic false
theorem RW:∀ {k i:Nat},DZ ps c k=some i->i<=k/\0<i
 | 0,i,h=>by cases h
 |k+1,i,h=>by
  unfold DZ at h
  split at h
  . cases h;right
  . have:=RW h;omega
set_option tactic.hygienic true
theorem Qe:∀ {cs:List Nat} {i:Nat},seek ps cs=some i->i<=ps.length-1/\0<i
 | [],i,h=>by cases h
 |c::cs,i,h=>by
  unfold seek at h
  split at h
  . rename_i j e
    (refine c1 h λG9=>?_;clear h;subst G9)
    exact RW e
  . exact Qe h
noncomputable def Eg(ml:Int)(sp:Str)(Ap:List Str)(ini:Int)(ps:List (Str×Str))(f s:Str):List Str×Int×List (Str×Str) :=
 if ml<ini+Ag (ps++[(f,s)]) then (match seek (ps++[(f,s)]) sp.cps.toList with
  |some i=>(Ap++[AE ((ps++[(f,s)]).take i)],0,(ps++[(f,s)]).drop i)
  |none=>if 0<ini then (AM Ap ini ps,0,[(if f.length=0 then " " else f,s)]) else (Ap,ini,ps++[(f,s)]))
 else (Ap,ini,ps++[(f,s)])
set_option tactic.hygienic false
theorem Fits.init{f:Str}(H:Fits Ap ini (ps++[(f,s)])):Fits Ap ini ps:=by
 have:=H.p
 have h:=H.l
 rw[D5] at h
 have:=Bu [(f,s)]
 exact⟨H.r,H.t,by have:=H.p;simp at this;right,by omega,H.i0,H.i1⟩
theorem Fits.take(H:Fits Ap ini ps)(i:Nat):Fits Ap ini (ps.take i):=by
 have h:Ag ps=Ag (ps.take i)+Ag (ps.drop i):=by rw[<- D5,List.take_append_drop]
 have:=Bu (ps.drop i)
 have:=H.l
 exact⟨H.r,H.t,by have:=H.p;rw[List.length_take];omega,by omega,H.i0,H.i1⟩
noncomputable abbrev dP:SM:=Ff (AL .Gt (Bk 6 Bn) (cE (.int 0))) (Ah [Bj (mE 3 ED (nE 0) []),Ff (QD (Mf (nE 1))) (Ah [BZ 1 (cE (.str " "))]) (Ah [])]) (Ah [])
set_option tactic.hygienic true
theorem ji{f:Str}{b4:Option AV}(F:AH σ m ln ac ml cw Cr sp Ap ini (ps++[(f,s)]))(H:Fits Ap ini (ps++[(f,s)])) :
 ∃ lc' σ',Ah [SJ 1 6 (mE 4 K0 Bn []),dP,Bj (mE 4 Gm Bn [nE 1,nE 6]),IQ] (Mq m b1 (some (.str s)) b3 b4 b5 none none) σ=some (.ret .none,lc',σ') /\
  dO σ' m ln ac ml cw Cr sp (if 0<ini then (AM Ap ini ps,0,[(if f.length=0 then " " else f,s)]) else (Ap,ini,ps++[(f,s)]))/\Bt [ln,ac] σ σ'/\σ'.length=σ.length:=by
 have H0:=H.init
 have hz:ps.length<=1000000:=Nat.le_trans H0.p (by decide)
 have e5:SJ 1 6 (mE 4 K0 Bn []) (Mq m b1 (some (.str s)) b3 b4 b5 none none) σ=some (.next,Mq m (some (.str f)) (some (.str s)) b3 b4 b5 (some (.str s)) none,σ.set ac (.acc ini ps)) :=
  As ((I1 (fs:=[]) (xs:=[]) rfl F rfl).trans (RO F.acc (Nat.lt_of_le_of_lt H0.p (by decide)))) (As (a:=[AV.str f,.str s]) rfl (As (a:=(AV.str f,.str s)) rfl (As (a:=Mq m (some (.str f)) (some (.str s)) b3 b4 b5 none none) rfl rfl)))
 have F2:=F.setAcc ini ps
 have S2:Bt [ln,ac] σ (σ.set ac (.acc ini ps)):=.set (by simp)
 have z2:(σ.set ac (.acc ini ps)).length=σ.length:=List.length_set ..
 generalize σ.set ac (.acc ini ps)=σ₂ at e5 F2 S2 z2
 have eC:=Kh (lc:=Mq m (some (.str f)) (some (.str s)) b3 b4 b5 (some (.str s)) none) (f:=Bk 6 Bn) (g:=cE (.int 0)) (i:=ini) (j:=0) (As (Gr rfl F2) (As (a:=ac) rfl (As F2.acc rfl))) rfl
 have done:∀ (q:Ko) (f':Str) (qs:List (Str×Str)) (Gp:St),q.2.2=qs++[(f',s)]->qs.length<=1000000->AH Gp m ln ac ml cw Cr sp q.1 q.2.1 qs->Bt [ln,ac] σ₂ Gp->Gp.length=σ₂.length ->
  dP (Mq m (some (.str f)) (some (.str s)) b3 b4 b5 (some (.str s)) none) σ₂=some (.next,Mq m (some (.str f')) (some (.str s)) b3 b4 b5 (some (.str s)) none,Gp) ->
  ∃ lc' σ',Ah [SJ 1 6 (mE 4 K0 Bn []),dP,Bj (mE 4 Gm Bn [nE 1,nE 6]),IQ] (Mq m b1 (some (.str s)) b3 b4 b5 none none) σ=some (.ret .none,lc',σ')/\dO σ' m ln ac ml cw Cr sp q/\Bt [ln,ac] σ σ'/\σ'.length=σ.length:=by
  intro q f' qs Gp hq hz F3 S3 z3 e6
  have e7:=(I1 (lc:=Mq m (some (.str f')) (some (.str s)) b3 b4 b5 (some (.str s)) none) (fs:=[nE 1,nE 6]) (xs:=[.str f',.str s]) rfl F3 rfl).trans (Ki F3.acc hz)
  refine(B6 _ _ ⟨(Al e5).trans ((Al e6).trans ((Al (BP e7)).trans (BR rfl))),?_,(S2.trans S3).trans (.set (by simp)),by rw[List.length_set,z3,z2]⟩)
  have F4:=F3.setAcc q.2.1 (qs++[(f',s)])
  rw[<- hq] at F4 ⊢
  exact F4
 by_cases WO:0<ini
 . rw[if_pos WO]
   rw[decide_eq_true WO] at eC
   refine Mu (Fz F2 H0) λGp e6 F3 S3 z3=>?_
   have e7:mE 3 ED (nE 0) [] (Mq m (some (.str f)) (some (.str s)) b3 b4 b5 (some (.str s)) none) σ₂=some (.none,Gp):=As (a:=(AV.loc m,σ₂)) rfl ((if_pos (by rw[Cg,F2.fm];rfl)).trans (As (a:=([],σ₂)) rfl e6))
   have hf:f.length<=100000:=(Jx H (p:=(f,s)) (by simp)).1
   have eN:QD (Mf (nE 1)) (Mq m (some (.str f)) (some (.str s)) b3 b4 b5 (some (.str s)) none) Gp=some (!((f.length:Int) != 0),Gp):=Fp (OW (a:=.str f) rfl (Hm.trans (AZ (decide_eq_true (Dy (Nat.le_trans hf (by decide)))))))
   refine done _ (if f.length=0 then " " else f) [] Gp rfl (Nat.zero_le _) F3 S3 z3 ((Gy eC).trans ((Al (BP e7)).trans ?_))
   by_cases h:f.length=0
   . rw[if_pos h]
     rw[h] at eN
     exact Al ((Gy eN).trans (Al (Ed (lc:=Mq m (some (.str f)) (some (.str s)) b3 b4 b5 (some (.str s)) none) (f:=cE (.str " ")) (i:=1) rfl (by show 1<8;decide))))
   . rw[if_neg h]
     rw[bne_iff_ne.mpr (Int.ofNat_ne_zero.mpr h)] at eN
     exact DQ (Hn eN) rfl
 . rw[if_neg WO]
   rw[decide_eq_false WO] at eC
   exact done _ f ps σ₂ rfl hz F2 .refl rfl (Hn eC)
theorem jj{b2:Option AV}(F:AH σ m ln ac ml cw Cr sp Ap ini ps)(H:Fits Ap ini ps)(hi:i<=ps.length) :
 ∃ lc' σ',Ah [BZ 7 (mE 4 J5 Bn [nE 4]),Bj (mE 2 Bv EC [Hk]),Bj (mE 4 HU Bn [nE 7])] (Mq m b1 b2 b3 (some (.int (i:Int))) b5 none none) σ=some (.next,lc',σ') /\
  AH σ' m ln ac ml cw Cr sp (Ap++[AE (ps.take i)]) 0 (ps.drop i)/\Bt [ln,ac] σ σ'/\σ'.length=σ.length:=by
 have hz:ps.length<=1000000:=Nat.le_trans H.p (by decide)
 have e5:=Ed (i:=7) (lc:=Mq m b1 b2 b3 (some (.int (i:Int))) b5 none none) ((I1 (fs:=[nE 4]) (xs:=[.int (i:Int)]) rfl F rfl).trans (TF F.acc hz hi)) (by show 7<8;decide)
 have F2:=F.setAcc ini (ps.take i)
 have e6:=LI (lc:=Mq m b1 b2 b3 (some (.int (i:Int))) b5 none (some (.lst ((ps.drop i).map AK)))) rfl F2 (H.take i).acc (Nat.le_trans H.r (by decide))
 have F3:=F2.setLi (Ap++[AE (ps.take i)])
 have e7:=(I1 (lc:=Mq m b1 b2 b3 (some (.int (i:Int))) b5 none (some (.lst ((ps.drop i).map AK)))) (fs:=[nE 7]) (xs:=[.lst ((ps.drop i).map AK)]) rfl F3 rfl).trans (WK F3.acc (Nat.le_trans (H.take i).p (by decide)) (by rw[List.length_drop];omega))
 exact(B6 _ _ ⟨(Al e5).trans ((Al (BP e6)).trans (Al (BP e7))),F3.setAcc 0 _,((Bt.set (by simp)).trans (.set (by simp))).trans (.set (by simp)),by rw[List.length_set,List.length_set,List.length_set]⟩)
set_option tactic.hygienic false
theorem Nx{f:Str}(F:AH σ m ln ac ml cw Cr sp Ap ini ps)(H:Fits Ap ini (ps++[(f,s)]))(az:sp.cps.size<=1000) :
 ∃ σ',Jm [.loc m,.str f,.str s] σ=some (.none,σ')/\dO σ' m ln ac ml cw Cr sp (Eg ml sp Ap ini ps f s)/\Bt [ln,ac] σ σ'/\σ'.length=σ.length:=by
 have e1:=(I1 (lc:=Mq m (some (.str f)) (some (.str s)) none none none none none) (fs:=[nE 1,nE 2]) (xs:=[.str f,.str s]) rfl F rfl).trans (Ki F.acc (Nat.le_trans H.init.p (by decide)))
 have F1:=F.setAcc ini (ps++[(f,s)])
 have S1:Bt [ln,ac] σ (σ.set ac (.acc ini (ps++[(f,s)]))):=.set (by simp)
 have z1:(σ.set ac (.acc ini (ps++[(f,s)]))).length=σ.length:=List.length_set ..
 generalize σ.set ac (.acc ini (ps++[(f,s)]))=σ₁ at e1 F1 S1 z1
 have eT:AL .Gt (Av (BW AD) [Bn]) (Bk 0 (nE 0)) (Mq m (some (.str f)) (some (.str s)) none none none none none) σ₁=some (decide (ml<ini+Ag (ps++[(f,s)])),σ₁):=Kh (Jw rfl F1 H) (As (a:=(AV.loc m,σ₁)) rfl (As (a:=m) rfl (As F1.fm rfl)))
 unfold Eg
 by_cases U6:ml<ini+Ag (ps++[(f,s)])
 . rw[if_pos U6]
   rw[decide_eq_true U6] at eT
   have eS:Bk 3 (nE 0) (Mq m (some (.str f)) (some (.str s)) none none none none none) σ₁=some (.str sp,σ₁):=As (a:=(AV.loc m,σ₁)) rfl (As (a:=m) rfl (As F1.fm rfl))
   refine oW (TK (O:=Ah [SJ 1 6 (mE 4 K0 Bn []),dP,Bj (mE 4 Gm Bn [nE 1,nE 6]),IQ]) F1 H (by simp) sp.cps.size 0 1000000 (some (.str f)) (some (.str s)) none none none none none rfl (by omega)) λb1 b3 b4 b5 e2=>?_
   rw[List.drop_zero] at e2
   have e3:=(UZ (k:=3) eS).trans e2
   cases aA:seek (ps++[(f,s)]) sp.cps.toList with
   |some i =>
    rw[aA] at e3
    refine NT (jj (b1:=b1) (b2:=some (.str s)) (b3:=b3) (b5:=b5) F1 H (Nat.le_trans (Qe aA).1 (Nat.sub_le ..))) λlc' σ' e4 F4 S4 z4=>?_
    exact⟨σ',E9 (lc':=lc') rfl ((Al (BP e1)).trans (DQ (Gy eT) ((Al e3).trans e4))),F4,S1.trans S4,z4.trans z1⟩
   |none =>
    rw[aA] at e3
    refine NT (ji (b1:=b1) (b3:=b3) (b4:=b4) (b5:=b5) F1 H) λlc' σ' e4 F4 S4 z4=>?_
    exact⟨σ',C3 (lc':=lc') rfl ((Al (BP e1)).trans (BR ((Gy eT).trans (BR (e3.trans e4))))),F4,S1.trans S4,z4.trans z1⟩
 . rw[if_neg U6]
   rw[decide_eq_false U6] at eT
   exact⟨σ₁,E9 (lc':=Mq m (some (.str f)) (some (.str s)) none none none none none) rfl ((Al (BP e1)).trans (DQ (Hn eT) rfl)),F1,S1,z1⟩
noncomputable def D6(ml:Int)(sp:Str):Ko->List (Str×Str)->Ko
 |st,[]=>st
 |st,p::r=>D6 ml sp (Eg ml sp st.1 st.2.1 st.2.2 p.1 p.2) r
noncomputable def Mr(ml:Int)(sp:Str):Ko->List (Str×Str)->Prop
 | _,[]=>True
 |st,p::r=>Fits st.1 st.2.1 (st.2.2++[p])/\Mr ml sp (Eg ml sp st.1 st.2.1 st.2.2 p.1 p.2) r
noncomputable def Fb(qs:List (Str×Str)):List Str:=qs.flatMap λp=>[p.1,p.2]
theorem RX:∀ (qs:List (Str×Str)) (t:Nat) (p:Str×Str),qs[t]?=some p->(Fb qs)[2*t]?=some p.1/\(Fb qs)[2*t+1]?=some p.2
 | [],t,p,h=>by simp at h
 |q::qs,0,p,h=>by simp at h;subst h;simp -iota [Fb]
 |q::qs,t+1,p,h=>by
  have ih:=RX qs t p (by simpa using h)
  have e1:2*(t+1)=2*t+1+1:=by right
  have e2:2*(t+1)+1=(2*t+1)+1+1:=by right
  rw[e2,e1]
  simpa [Fb] using ih
theorem Ny:∀ (qs:List (Str×Str)),(Fb qs).length=2*qs.length
 | []=>rfl
 |q::qs=>congrArg (·+2) (Ny qs)
set_option tactic.hygienic true
theorem aB{pl g:Nat}(az:sp.cps.size<=1000)(X8:pl≠ln/\pl≠ac)(hg:g≠ln/\g≠ac) :
 ∀ (k t fuel:Nat) (σ:St) (st:Ko) (a1 a2 a3 a5:Option AV),k+t=qs.length->k<fuel->dO σ m ln ac ml cw Cr sp st->Mr ml sp st (qs.drop t)->σ[pl]?=some (.list ((Fb qs).map AV.str))->σ[g]?=some .ghost ->
  ∃ σ' lc',CM (fk g (.loc pl)) (put2 1 5) (Ah [Bj (mE 3 Jm (nE 0) [nE 1,nE 5])]) (Ah []) fuel t [some (.loc m),a1,a2,a3,some (.loc pl),a5] σ=some (.next,lc',σ')/\dO σ' m ln ac ml cw Cr sp (D6 ml sp st (qs.drop t))/\Bt [ln,ac] σ σ'/\σ'.length=σ.length:=by
 intro k
 induction k with
 |zero =>
  intro t fuel σ st a1 a2 a3 a5 hk hf F _ hl oE
  obtain⟨fuel,rfl⟩:∃ f,fuel=f+1:=⟨fuel-1,by omega⟩
  have e0:qs.drop t=[]:=List.drop_of_length_le (by omega)
  refine(B6 σ [some (.loc m),a1,a2,a3,some (.loc pl),a5] ⟨?_,by rw[e0];exact F,.refl,rfl⟩)
  have:fk g (.loc pl) σ t=some none:=by
   rw[Z9 (a:=.loc pl) oE (AY hl)]
   have:((Fb qs).map AV.str)[2*t]?=none:=List.getElem?_eq_none (by rw[List.length_map,Ny];omega)
   unfold Rd
   rw[this]
   rfl
  rw[FK this]
  rfl
 |succ k ih =>
  intro t fuel σ st a1 a2 a3 a5 hk hf F HR hl oE
  obtain⟨fuel,rfl⟩:∃ f,fuel=f+1:=⟨fuel-1,by omega⟩
  have ht:t<qs.length:=by omega
  have e0:qs.drop t=qs[t]::qs.drop (t+1):=List.drop_eq_getElem_cons ht
  rw[e0] at HR ⊢
  (refine AS (HR) λH HR=>?_)
  rcases hq:qs[t] with ⟨f,s⟩
  rw[hq] at H HR
  (refine AS (RX qs t (f,s) (by rw[List.getElem?_eq_getElem ht,hq])) λg1 g2=>?_)
  have e1:fk g (.loc pl) σ t=some (some (.tup [.str f,.str s])):=by
   rw[Z9 (a:=.loc pl) oE (AY hl)]
   have h1:((Fb qs).map AV.str)[2*t]?=some (.str f):=by rw[List.getElem?_map,g1];rfl
   have h2:((Fb qs).map AV.str)[2*t+1]?=some (.str s):=by rw[List.getElem?_map,g2];rfl
   unfold Rd
   rw[h1,h2]
   rfl
  (refine Mu (Nx (f:=f) (s:=s) F H az) λσ₁ e2 F1 S1 z1=>?_)
  have e3:Ah [Bj (mE 3 Jm (nE 0) [nE 1,nE 5])] [some (.loc m),some (.str f),a2,a3,some (.loc pl),some (.str s)] σ=some (.next,[some (.loc m),some (.str f),a2,a3,some (.loc pl),some (.str s)],σ₁) :=
   Al (BP (As (a:=(AV.loc m,σ)) rfl ((if_pos (by rw[Cg,F.fm];rfl)).trans (As (a:=([AV.str f,.str s],σ)) rfl e2))))
  have e4:put2 1 5 [some (.loc m),a1,a2,a3,some (.loc pl),a5] (.tup [.str f,.str s])=some [some (.loc m),some (.str f),a2,a3,some (.loc pl),some (.str s)]:=rfl
  rw[Ir e1 e4 e3]
  have KH:=S1.get (k:=pl) (by simp -iota [X8]) hl
  have bj:=S1.get (k:=g) (by simp -iota [hg]) oE
  (refine NT (ih (t+1) fuel σ₁ (Eg ml sp st.1 st.2.1 st.2.2 f s) (some (.str f)) a2 a3 (some (.str s)) (by omega) (by omega) F1 HR KH bj) λσ₂ CD e5 F2 S2 z2=>?_)
  refine(B6 σ₂ CD ⟨e5,?_,S1.trans S2,z2.trans z1⟩)
  unfold D6
  exact F2
noncomputable def pieces(ys:List Str):List Str:=if (ys.headD "").length=0 then ys.tail else "" :: ys
set_option tactic.hygienic false
theorem mx{e:Nat}{y:AV}{ys:List AV}(he:σ[e]?=some (.list (y::ys)))(hz:ys.length<=900000):KY [.loc e,.int 0] σ=some (y,σ.set e (.list ys)):=by
 refine As (a:=(.loc e,.int 0)) rfl (As (a:=e) rfl (As (a:=0) rfl (As (AY he) ?_)))
 rw[if_pos (by rw[Bool.and_eq_true,decide_eq_true_eq,List.length_cons,sizeLine_eq];exact⟨by decide,by omega⟩)]
 exact As (a:=0) (Sr (Nat.succ_pos _)) (Fp (a:=y) rfl)
theorem TN(xs new:List α):Dl xs new none (some 0)=new++xs:=by
 unfold Dl Yu Yv
 rw[sliceBounds_plain]
 simp only[Option.elim]
 rw[show clipAt xs.length 0=0 from (clipAt_nat xs.length 0).trans (by simp)]
 simp
set_option tactic.hygienic true
theorem aC{a0 a3:Option AV}(cU:ys≠[])(Xh:ys.length<=100000)(my:(ys.headD "").length<=100000) :
 Ff (Mf (A0 (nE 4) (cE (.int 0)))) (Ah [Hg (nE 4) none (some (cE (.int 0))) (Br [cE (.str "")])]) (Ah [Bj (mE 2 KY (nE 4) [cE (.int 0)])]) [a0,a1,a2,a3,some (.loc σ.length),none] (σ++[.list (ys.map AV.str)])=some (.next,[a0,a1,a2,a3,some (.loc σ.length),none],σ++[.list ((pieces ys).map AV.str)]):=by
 cases ys with
 |nil=>exact absurd rfl cU
 |cons y yr =>
  have g:(σ++[AO.list ((y::yr).map AV.str)])[σ.length]?=some (.list (.str y::yr.map AV.str)):=by rw[List.getElem?_append_right (Nat.le_refl _),Nat.sub_self];rfl
  have hy:y.length<=100000:=my
  have hl:yr.length+1<=100000:=Xh
  have eT:=OW (f:=A0 (nE 4) (cE (.int 0))) (lc:=[a0,a1,a2,a3,some (.loc σ.length),none]) (Ec (σ₁:=σ++[.list ((y::yr).map AV.str)]) (i:=0) rfl rfl ((Dc (Cq g)).trans ((if_pos (by decide)).trans (As (a:=0) (Sr (Nat.succ_pos _)) rfl)))) (Hm.trans (AZ (decide_eq_true (Dy (Nat.le_trans hy (by decide))))))
  have hs:∀ o,(σ++[AO.list ((y::yr).map AV.str)]).set σ.length o=σ++[o]:=λo=>by simp
  unfold pieces
  by_cases h:y.length=0
  . rw[show(("" : Str)) = "" from rfl,if_pos (show((y::yr).headD "").length=0 from h)]
    rw[h] at eT
    have e:=mx g (by rw[List.length_map];omega)
    rw[hs] at e
    exact(Hn eT).trans (Al (BP (As (a:=(AV.loc σ.length,_)) rfl ((if_pos (by rw[Cg,g];rfl)).trans (As (a:=([AV.int 0],_)) rfl e)))))
  . rw[if_neg (show ¬ ((y::yr).headD "").length=0 from h)]
    rw[bne_iff_ne.mpr (Int.ofNat_ne_zero.mpr h)] at eT
    have e:=TB (a:=none) (b:=some 0) (new:=[AV.str ""]) g ⟨by simp;omega,by decide⟩
    rw[TN,hs] at e
    exact(Gy eT).trans (Al (As (a:=(AV.lst [.str ""],_)) rfl (As (a:=(AV.loc σ.length,_)) rfl (As (a:=σ.length) rfl (As (a:=(none,_)) rfl (As (a:=(some 0,_)) rfl (Fp e)))))))
set_option tactic.hygienic false
theorem TP{st:Ko}{f sc:Str}(F:dO σ m ln ac ml cw Cr sp st)(az:sp.cps.size<=1000)(Et:f.length+s.length<=100000)(hw:J2 (f++s)=some ys)(cU:ys≠[])(Xh:ys.length<=100000)(my:(ys.headD "").length<=100000)(hq:pieces ys=Fb qs)(HR:Mr ml sp st qs) :
 ∃ σ',Jn [.loc m,.str f,.str s,.str sc] σ=some (.none,σ')/\dO σ' m ln ac ml cw Cr sp (D6 ml sp st qs)/\Bt [ln,ac] σ σ':=by
 have e0:=La (f:=nE 1) (g:=nE 2) (x:=f) (y:=s) (lc:=[some (.loc m),some (.str f),some (.str s),some (.str sc),none,none]) (σ:=σ) rfl rfl (by omega)
 have e1:J4 (AN .Add (nE 1) (nE 2)) [some (.loc m),some (.str f),some (.str s),some (.str sc),none,none] σ=some (.loc σ.length,σ++[.list (ys.map AV.str)]):=As e0 (As (a:=f++s) rfl ((if_pos (by rw[CK];omega)).trans (As hw (AZ (decide_eq_true (Nat.le_trans Xh (by decide)))))))
 have e2:=aC (σ:=σ) (a0:=some (.loc m)) (a1:=some (.str f)) (a2:=some (.str s)) (a3:=some (.str sc)) cU Xh my
 rw[hq] at e2
 have qn:qs.length<1000000:=by
  have h:=congrArg List.length hq
  rw[Ny] at h
  have:(pieces ys).length<=ys.length+1:=by
   unfold pieces
   split
   . rw[List.length_tail];omega
   . exact Nat.le_refl _
  omega
 have hln:=(List.getElem?_eq_some_iff.mp F.li).1
 have tC:=(List.getElem?_eq_some_iff.mp F.acc).1
 have F3:dO (σ++[.list ((Fb qs).map AV.str)]++[.ghost]) m ln ac ml cw Cr sp st:=(AH.keep F (X:=[]) (.app _) nofun nofun nofun).keep (X:=[]) (.app _) nofun nofun nofun
 have gl:(σ++[AO.list ((Fb qs).map AV.str)])[σ.length]?=some (.list ((Fb qs).map AV.str)):=by rw[List.getElem?_append_right (Nat.le_refl _),Nat.sub_self];rfl
 refine NT (aB (qs:=qs) (g:=(σ++[AO.list ((Fb qs).map AV.str)]).length) (pl:=σ.length) az ⟨by omega,by omega⟩ (by rw[List.length_append];exact⟨by omega,by omega⟩) qs.length 0 1000000 (σ++[.list ((Fb qs).map AV.str)]++[.ghost]) st (some (.str f)) (some (.str s)) (some (.str sc)) none rfl qn F3 HR
  (by rw[List.getElem?_append_left (List.getElem?_eq_some_iff.mp gl).1];exact gl) (by rw[List.getElem?_append_right (Nat.le_refl _),Nat.sub_self];rfl)) λGp fT e3 F4 S4 z4=>?_
 exact⟨Gp,E9 (lc':=fT) rfl ((Al (Ed e1 (by show 4<6;decide))).trans ((Al e2).trans (Al ((jb (a:=.loc σ.length) rfl (AY gl)).trans e3)))),F4,((Bt.app _).trans (.app _)).trans S4⟩
theorem TQ(Ap:List Str):strsOf (Ap.map AV.str)=some Ap:=by
 unfold strsOf
 induction Ap with
 |nil=>rfl
 |cons r Ap ih=>rw[List.map_cons,Cb,ih];rfl
noncomputable def Bo(Ap:List Str):Nat:=(Ap.map (·.length)).sum
theorem EI(a b:List Str):Bo (a++b)=Bo a+Bo b:=by simp -iota [Bo]
set_option tactic.hygienic true
theorem TR(ps:List (Str×Str)):Ag (BK ps)<=Ag ps:=by
 unfold BK
 split
 . rename_i h;subst h;exact Int.le_of_eq (by decide)
 . split
   . exact EH ps
   . exact Int.le_refl _
set_option tactic.hygienic false
theorem Nz(Ap:List Str)(ini:Int)(ps:List (Str×Str)):(AM Ap ini ps).length<=Ap.length+1:=by
 unfold AM
 split
 . split
   . simp
   . simp
 . exact Nat.le_add_right _ _
set_option tactic.hygienic true
theorem LJ(Ap:List Str)(ini:Int)(ps:List (Str×Str)):(Bo (AM Ap ini ps):Int)<=Bo Ap+Ag ps:=by
 have h:=TR ps
 have h0:=Bu (BK ps)
 have e:=CF (BK ps)
 unfold AM
 split
 . split
   . rename_i hg
     rcases List.eq_nil_or_concat Ap with rfl|⟨rs,r,rfl⟩
     . simp at hg
     . rw[List.concat_eq_append]
       simp -iota only[List.dropLast_concat,EI]
       simp -iota [Bo,CK]
       omega
   . rw[EI]
     simp -iota [Bo]
     omega
 . omega
set_option tactic.hygienic false
theorem Qf(h:σ[l]?=some (.list (rs.map AV.str)))(hb:Bo rs+rs.length*sep.length<=16777216):J3 [.str sep,.loc l] σ=some (.str (Txt.join sep rs),σ):=by
 unfold Bo at hb
 simp[Z8,Tz,Nr,h,TQ,hb,AV.int?,AV.str?,AV.tup?,AV.lst?,AV.loc?,AO.list?,AO.acc?,CT,Cj,I5,JG,OU,Mp,IP]
theorem jk(h1:rs.length<=100001)(h2:Bo rs<=200000)(h3:sep.length<=16):Bo rs+rs.length*sep.length<=16777216:=by
 have:rs.length*sep.length<=100001*16:=Nat.mul_le_mul h1 h3
 omega
theorem O0(H:Fits Ap ini ps)(h3:sep.length<=16):Bo (AM Ap ini ps)+(AM Ap ini ps).length*sep.length<=16777216:=by
 refine jk ?_ ?_ h3
 . have:=Nz Ap ini ps;have:=H.r;right
 . have:=LJ Ap ini ps
   have h:Bo Ap<=100000:=H.t
   have:=H.l
   omega
theorem WQ(F:AH σ m ln ac ml cw Cr sp Ap ini ps)(H:Fits Ap ini ps)(hs:sep.length<=16) :
 ∃ σ',Rn [.loc m,.str sep] σ=some (.str (Txt.join sep (AM Ap ini ps)),σ')/\AH σ' m ln ac ml cw Cr sp (AM Ap ini ps) 0 []/\Bt [ln,ac] σ σ'/\σ'.length=σ.length:=by
 (refine Mu (Fz F H) λσ₁ e1 F1 S1 z1=>?_)
 refine⟨σ₁,?_,F1,S1,z1⟩
 have e2:=Qf (sep:=sep) F1.li (O0 H hs)
 refine C3 (lc':=[some (.loc m),some (.str sep)]) rfl ?_
 show Ah _ [some (.loc m),some (.str sep)] σ=_
 rw[Al (BP (v:=.none) (σ₁:=σ₁) (by simp[mE,nE,Cg,RM,RN,EN,F.fm,Ft,e1,AV.int?,AV.str?,AV.tup?,AV.lst?,AV.loc?,AO.list?,AO.acc?,CT,Cj,I5,JG,OU,Mp,IP])),BR (v:=.str (Txt.join sep (AM Ap ini ps))) (lc₁:=[some (.loc m),some (.str sep)]) (σ₁:=σ₁)]
 simp -iota [retS,mE,nE,Cg,RM,RN,EN,Ft,Kj (lc:=[some (.loc m),some (.str sep)]) rfl F1,e2,AV.int?,AV.str?,AV.tup?,AV.lst?,AV.loc?,AO.list?,AO.acc?,CT,Cj,I5,JG,OU,Mp,IP]
theorem LK(σ:St)(n:Nat)(rs:List Str):Cb (Dj σ n) (rs.map AV.str)=some (rs.map PyData.str):=by
 induction rs with
 |nil=>rfl
 |cons r rs ih=>cases n<;>simp -iota [Cb,OQ,WA,H5,C9,RG,GV,H6,Cb,ih,AV.int?,AV.str?,AV.tup?,AV.lst?,AV.loc?,AO.list?,AO.acc?,CT,Cj,I5,JG,OU,Mp,IP]
structure WE (f:EM) (lc:Lc) (σ:St) (Q:AV->St->Prop):Prop where
 run:∃ v σ',f lc σ=some (v,σ')/\Q v σ'
structure WT (f:TM) (lc:Lc) (σ:St) (Q:Bool->St->Prop):Prop where
 run:∃ v σ',f lc σ=some (v,σ')/\Q v σ'
structure WL (f:List EM) (lc:Lc) (σ:St) (Q:List AV->St->Prop):Prop where
 run:∃ v σ',Ft f lc σ=some (v,σ')/\Q v σ'
structure WF (F:FM) (xs:List AV) (σ:St) (Q:AV->St->Prop):Prop where
 run:∃ v σ',F xs σ=some (v,σ')/\Q v σ'
structure WS (f:SM) (lc:Lc) (σ:St) (Q:Fl->Lc->St->Prop):Prop where
 run:∃ fl lc' σ',f lc σ=some (fl,lc',σ')/\Q fl lc' σ'
section
variable{F:FM}{QE:AV->St->Prop}{QT:Bool->St->Prop}{QL:List AV->St->Prop}
theorem we(h:f lc σ=some (v,σ'))(k:QE v σ'):WE f lc σ QE:=⟨_,_,h,k⟩
theorem wt{b:Bool}(h:t lc σ=some (b,σ'))(k:QT b σ'):WT t lc σ QT:=⟨_,_,h,k⟩
theorem wl(h:Ft es lc σ=some (xs,σ'))(k:QL xs σ'):WL es lc σ QL:=⟨_,_,h,k⟩
theorem jl(h:WE f lc σ λa σ₁=>∃ c,HE σ₁ a=some c/\match c with|true=>WE g lc σ₁ QE|false=>QE a σ₁):WE (XC f g) lc σ QE:=by
 obtain⟨a,σ₁,e1,c,e2,k⟩:=h
 cases c with
 |false=>exact⟨_,_,As e1 (As e2 rfl),k⟩
 |true=>obtain⟨b,σ₂,e3,k⟩:=k;exact⟨_,_,As e1 (As e2 e3),k⟩
set_option tactic.hygienic true
theorem FZ(k:QS .next lc σ):WS (Ah []) lc σ QS:=⟨_,_,_,rfl,k⟩
set_option tactic.hygienic false
theorem Cw(h:WE f lc σ λv σ₁=>∃ lc',putL lc i v=some lc'/\WS (Ah fs) lc' σ₁ QS):WS (Ah (BZ i f::fs)) lc σ QS:=by
 obtain⟨v,σ₁,e1,lc',hl,fl,CD,σ₂,e2,k⟩:=h
 exact⟨_,_,_,(Al (As e1 (Fp hl))).trans e2,k⟩
theorem Iw(h:WE f lc σ λ_ σ₁=>WS (Ah fs) lc σ₁ QS):WS (Ah (Bj f::fs)) lc σ QS:=by
 obtain⟨v,σ₁,e1,fl,lc',σ₂,e2,k⟩:=h
 exact⟨_,_,_,(Al (BP e1)).trans e2,k⟩
theorem Ho(h:WE f lc σ λv σ₁=>QS (.ret v) lc σ₁):WS (Ah (retS f::fs)) lc σ QS:=by
 obtain⟨v,σ₁,e1,k⟩:=h
 exact⟨_,_,_,BR (Fp e1),k⟩
set_option tactic.hygienic true
theorem BH{s:SM}(h:s lc σ=some (.next,lc',σ'))(k:WS (Ah fs) lc' σ' QS):WS (Ah (s::fs)) lc σ QS:=by
 obtain⟨fl,CD,σ₂,e2,k⟩:=k
 exact⟨_,_,_,(Al h).trans e2,k⟩
set_option tactic.hygienic false
theorem Dz{s s':SM}(h:s lc σ=s' lc' σ'):Ah (s::fs) lc σ=Ah (s'::fs) lc' σ':=by unfold Ah;rw[h]
set_option tactic.hygienic true
theorem Fc{xs:List SM}:Ah (Ah xs::fs) lc σ=Ah (xs++fs) lc σ:=by
 induction xs generalizing lc σ with
 |nil=>exact Al rfl
 |cons x xs ih =>
  rw[List.cons_append]
  cases e:x lc σ with
  |none=>exact(show((Ah (x::xs) lc σ).bind _=_) by rw[show Ah (x::xs) lc σ=none by unfold Ah;rw[e];rfl];unfold Ah;rw[e];rfl)
  |some p =>
   obtain⟨fl,lc₁,σ₁⟩:=p
   cases fl with
   |next=>exact(Dz (Al e)).trans (ih.trans (Al e).symm)
   |brk=>rw[Iu e,Iu (Iu e)]
   |cont=>rw[Kg e,Kg (Kg e)]
   |ret v=>rw[BR e,BR (BR e)]
set_option tactic.hygienic false
theorem DD{xs ys:List SM}(h:WT t lc σ λb σ₁=>match b with|true=>WS (Ah (xs++fs)) lc σ₁ QS|false=>WS (Ah (ys++fs)) lc σ₁ QS):WS (Ah (Ff t (Ah xs) (Ah ys)::fs)) lc σ QS:=by
 obtain⟨a,σ₁,e1,k⟩:=h
 cases a with
 |true=>obtain⟨fl,CD,σ₂,e2,k⟩:=k;exact⟨_,_,_,(Dz (Gy e1)).trans (Fc.trans e2),k⟩
 |false=>obtain⟨fl,CD,σ₂,e2,k⟩:=k;exact⟨_,_,_,(Dz (Hn e1)).trans (Fc.trans e2),k⟩
theorem WS.imp{s:SM}{Q':Fl->Lc->St->Prop}(h:WS s lc σ QS)(k:∀ fl lc' σ',QS fl lc' σ'->Q' fl lc' σ'):WS s lc σ Q':=by
 obtain⟨fl,lc',σ',e,q⟩:=h
 exact⟨_,_,_,e,k _ _ _ q⟩
set_option tactic.hygienic true
theorem aD(hn:xs.length=n)(h:WS B (Lo Aa xs) σ λfl _ σ'=>match fl with | .ret v=>QE v σ' | .next=>QE .none σ' | _=>False):WF (E5 Aa n B) xs σ QE:=by
 obtain⟨fl,lc',σ',e,k⟩:=h
 cases fl with
 |next=>exact⟨_,_,E9 hn e,k⟩
 |ret v=>exact⟨_,_,C3 hn e,k⟩
 |brk=>exact k.elim
 |cont=>exact k.elim
theorem GW(I:Nat->Lc->St->Prop)(hN:∀ i lc σ,i<n->I i lc σ->∃ x lc₁,nx σ i=some (some x)/\st lc x=some lc₁/\WS B lc₁ σ λfl CD σ₂=>(fl=.next\/fl=.cont)/\I (i+1) CD σ₂)(hE:∀ lc σ,I n lc σ->nx σ n=some none):∀ (k i fuel:Nat) (lc:Lc) (σ:St),k+i=n->k<fuel->I i lc σ->∃ lc' σ',CM nx st B (Ah []) fuel i lc σ=some (.next,lc',σ')/\I n lc' σ'
 | 0,i,fuel+1,lc,σ,hk,hf,hI=>by
  obtain rfl:i=n:=by omega
  exact⟨lc,σ,FK (hE _ _ hI),hI⟩
 |k+1,i,fuel+1,lc,σ,hk,hf,hI=>by
  obtain⟨x,lc₁,e1,e2,fl,CD,σ₂,e3,Tx,jW⟩:=hN i lc σ (by omega) hI
  (refine Es (GW I hN hE k (i+1) fuel CD σ₂ (by omega) (by omega) jW) λlc' σ' e4 h4=>?_)
  refine⟨lc',σ',?_,h4⟩
  rw[Ir e1 e2 e3]
  rcases Tx with rfl|rfl
  . exact e4
  . exact e4
 | 0,_,0,_,_,_,hf,_=>by omega
 | _+1,_,0,_,_,_,hf,_=>by omega
end
theorem TS(xs:List α):C0 xs (some (-1)) none=xs.drop (xs.length-1):=by
 unfold C0 JW
 rw[sliceBounds_plain]
 have:clipAt xs.length (-1)=xs.length-1:=clipAt_neg xs.length 1 (by decide)
 simp only[Option.elim,this]
 rw[sliceRange_one,Ef]
 rw[List.take_of_length_le (by rw[List.length_drop];right)]
theorem TU(xs:List α):C0 xs none (some (-1))=xs.dropLast:=by
 unfold C0 JW
 rw[sliceBounds_plain]
 have:clipAt xs.length (-1)=xs.length-1:=clipAt_neg xs.length 1 (by decide)
 simp only[Option.elim,this]
 rw[sliceRange_one,Ef,List.drop_zero,List.dropLast_eq_take]
 rfl
theorem LN:∀ (xs ys:List Str),PyData.eqvAll (xs.map PyData.str) (ys.map PyData.str)=decide (xs=ys)
 | [],[]=>by simp -iota [PyData.eqvAll]
 | [],y::ys=>by simp -iota [PyData.eqvAll]
 |x::xs,[]=>by simp -iota [PyData.eqvAll]
 |x::xs,y::ys=>by
  rw[List.map_cons,List.map_cons,PyData.eqvAll,LN xs ys,PyData.eqv]
  by_cases h1:x=y<;>by_cases h2:xs=ys<;>simp -iota [h1,h2]
theorem WR(xs:List Str):Dj σ (n+1) (.lst (xs.map AV.str))=some (.list (xs.map PyData.str)):=by
 rw[GV,LK];rfl
theorem GX{xs:List Str}(h:σ[l]?=some (.list (xs.map AV.str))):Dj σ (n+1) (.loc l)=some (.list (xs.map PyData.str)):=by
 rw[H6,AY h];exact(congrArg (Option.map PyData.list) (LK ..))
theorem Gu{x y:PyData}(h1:Dj σ 4 a=some x)(h2:Dj σ 4 b=some y):aeqv σ a b=some (PyData.eqv x y):=As h1 (Fp h2)
theorem NA(xs ys:List Str):PyData.eqv (.list (xs.map PyData.str)) (.list (ys.map PyData.str))=decide (xs=ys):=by rw[PyData.eqv,LN]
theorem strip_nil(g:Nat->Bool)(x:Str):(Txt.stripBy g true true x = "")↔∀ c∈x.cps.toList,g c=true:=by
 rw[PyProof.Rows.stripBy_eq]
 (refine LX (lo_facts g x) λl1 l2 l3=>?_)
 (refine Hv (hi_facts g x _ l1) λh1 h2 h3 h4=>?_)
 generalize stripLo g true x=lo at *
 generalize stripHi g true x lo=hi at *
 have hz:(Builtin.Str.strSub x lo hi).length=hi-lo:=by
  show(x.cps.extract lo hi).size=_
  have:x.cps.size=x.length:=rfl
  rw[Array.size_extract,Nat.min_eq_left (by rw[this];exact h2)]
 have e0:∀ y:Str,y = "" ↔ y.length=0:=λy=>by
  constructor
  . rintro rfl;decide
  . intro h
    apply Iv
    have:y.cps=#[]:=Array.eq_empty_of_size_eq_zero h
    rw[this];decide
 rw[e0,hz]
 have gt:∀ c∈x.cps.toList,∃ k,k<x.length/\x.cps.getD k 0=c:=by
  intro c hc
  obtain⟨k,hk,e⟩:=List.mem_iff_getElem.mp hc
  have Pq:k<x.cps.size:=by simpa using hk
  exact⟨k,Pq,by rw[Array.getD,dif_pos Pq];simpa using e⟩
 constructor
 . intro h c hc
   (refine Am (gt c hc) λk hk FP=>?_;subst FP)
   rcases Nat.lt_or_ge k lo with q|q
   . exact l2 k q
   . exact h3 k (by omega) hk
 . intro h
   have:lo=x.length:=by
    rcases l3 with q|q
    . exact q
    . rcases Nat.lt_or_ge lo x.length with r|r
      . have hm:x.cps.getD lo 0∈x.cps.toList:=by
         have r':lo<x.cps.size:=r
         rw[Array.getD,dif_pos r']
         simp
        rw[h _ hm] at q;cases q
      . omega
   omega
theorem LO(x:Str):Txt.isspace x=true↔x ≠ "" /\ ∀ c∈x.cps.toList,Unicode.isSpace c=true:=by
 unfold Txt.isspace
 rw[Bool.and_eq_true,decide_eq_true_eq,Array.all_eq_true']
 constructor
 . rintro⟨h1,h2⟩
   refine⟨?_,λc hc=>h2 c (by simpa using hc)⟩
   rintro rfl
   exact absurd h1 (by decide)
 . rintro⟨h1,h2⟩
   refine⟨?_,λc hc=>h2 c (by simpa using hc)⟩
   rcases Nat.eq_zero_or_pos x.length with h|h
   . refine absurd (Iv ?_) h1
     have:x.cps=#[]:=Array.eq_empty_of_size_eq_zero h
     rw[this];decide
   . exact h
set_option tactic.hygienic true
theorem WU{t:Str}(hg:g lc σ=some (.loc l,σ))(hl:σ[l]?=some (.list (Ap.map AV.str)))(hf:f lc σ=some (.str t,σ))(hr:Ap≠[])(hn:Ap.length<=100001)(hb:Bo Ap+t.length<=1000000) :
 Ez g (CE (cE (.int 1))) .Add f lc σ=some (.next,lc,σ.set l (.list ((Ap.dropLast++[(Ap.getLast?.getD "")++t]).map AV.str))):=by
 obtain⟨rs,r,rfl⟩:∃ rs r,Ap=rs++[r]:=by
  rcases List.eq_nil_or_concat Ap with h|⟨rs,r,h⟩
  . exact absurd h hr
  . exact(B6 rs r (by rw[h,List.concat_eq_append]))
 rw[List.length_append,List.length_singleton] at hn
 rw[EI] at hb
 simp -iota [Bo] at hb
 have e1:seqIndex? (-1) (rs.length+1)=some rs.length:=GJ (Nat.succ_pos _)
 have e3:r.length+t.length<=1000000:=by omega
 have eg:HT σ (.loc l) (-1)=some (.str r):=by
  rw[Dc (Cq hl),if_pos (by decide),List.length_map,List.length_append,List.length_singleton,e1]
  simp
 have ep:putAt l (-1) (.str (r++t)) σ=some (σ.set l (.list (((rs++[r]).map AV.str).set rs.length (.str (r++t))))) :=
  FX hl (by decide) (by rw[List.length_map,List.length_append,List.length_singleton];exact e1) (by simp)
 rw[show Ez g (CE (cE (.int 1))) .Add f lc σ=_ from As hg (As (a:=l) rfl (As (a:=(.int (-1),σ)) rfl (As (a:=(-1:Int)) rfl (As eg (As hf (As (H7.trans (AZ (decide_eq_true e3))) (Fp ep)))))))]
 simp
set_option tactic.hygienic false
theorem TV(F:AH σ m ln ac ml cw Cr sp Ap ini ps)(H:Fits Ap ini ps) :
 ∃ σ',Td [.loc m] σ=some (.none,σ')/\AH σ' m ln ac ml cw Cr sp Ap ini (ps++[((" " : Str),("" : Str))])/\Bt [ln,ac] σ σ'/\σ'.length=σ.length:=by
 refine⟨_,?_,F.setAcc ini (ps++[((" " : Str),("" : Str))]),.set (by simp),by simp⟩
 have hp:=H.p
 refine E9 (lc':=[some (.loc m)]) rfl ?_
 show Ah _ [some (.loc m)] σ=_
 rw[Al (BP (v:=.none) (by rw[I1 (xs:=[.str " ",.str ""]) rfl F rfl,Ki F.acc (by omega)])),DR]
theorem E0{mz:St}{i:Int}(hf:f lc σ=some (.lst xs,σ'))(hg:g lc σ'=some (.int i,mz))(hi:i=k)(hv:xs[k]?=some v)(hl:xs.length<=1000000):A0 f g lc σ=some (v,mz):=by
 subst hi
 have hk:=(List.getElem?_eq_some_iff.mp hv).1
 have es:seqIndex? (k:Int) xs.length=some k:=Sr hk
 refine Ec hf hg ?_
 rw[Nu,if_pos (by omega),es]
 exact hv
set_option tactic.hygienic true
theorem dQ{a b c:Int}(I:Nat->Lc->St->Prop)(hx:Ft es lc σ=some (xs,σ'))(hr:EU xs=some (a,b,c))(ho:Dm a b c=true)(hn:Builtin.Range.rangeSize a b c=n)(DK:n<1000000)(h0:I 0 lc σ')(hN:∀ (i:Nat) lc σ,i<n->I i lc σ->∃ lc₁,putL lc j (.int (a+c*i))=some lc₁/\WS B lc₁ σ λfl CD σ₂=>(fl=.next\/fl=.cont)/\I (i+1) CD σ₂)(hE:∀ lc σ,I n lc σ->WS (Ah fs) lc σ QS):WS (Ah (GP j es B (Ah [])::fs)) lc σ QS:=by
 obtain⟨lc',σ₂,e,h⟩:=GW (nx:=IU a b c) (st:=λlc y=>putL lc j y) (B:=B) (n:=n) I
  (λi lc σ hi hI=>by
   (refine Am (hN i lc σ hi hI) λlc₁ p q=>?_)
   exact⟨_,lc₁,by rw[IU,hn,OU,if_pos (by omega)],p,q⟩)
  (λlc σ _=>by rw[IU,hn,OU,if_neg (by omega)]) n 0 1000000 lc σ' (by right) DK h0
 obtain⟨fl,fT,Gp,e3,k⟩:=hE _ _ h
 exact⟨_,_,_,(Al (It hx hr ho e)).trans e3,k⟩
set_option tactic.hygienic false
theorem aE{xs:List Str}(h:σ[l]?=some (.list (xs.map AV.str)))(h':σ[l']?=some (.list (ys.map AV.str))):QB σ .NotEq (.loc l) (.loc l')=some (!decide (xs=ys)):=by
 show(aeqv σ _ _).map not=_
 rw[Gu (GX h) (GX h'),NA];rfl
theorem aF{xs:List Str}(h:σ[l]?=some (.list (xs.map AV.str)))(h':σ[l']?=some (.list (ys.map AV.str))):QB σ .Eq (.loc l) (.loc l')=some (decide (xs=ys)):=by
 show aeqv σ _ _=_
 rw[Gu (GX h) (GX h'),NA]
theorem TX{x m:Int}(h:0<m):0<=x.fmod m/\x.fmod m<m:=⟨Int.fmod_nonneg_of_pos _ h,Int.fmod_lt_of_pos _ h⟩
section
variable{i j:Int}
theorem Qg(h1:f lc σ=some (.str x,σ))(h2:x.length<=1000000):Av (BW LF) [f] lc σ=some (.int x.length,σ):=As (Dr h1) (Kf.trans (AZ (decide_eq_true h2)))
theorem Ia(h1:f lc σ=some (.str x,σ))(h2:g lc σ=some (.str y,σ)):AL .NotEq f g lc σ=some (decide (x≠y),σ):=Cv h1 h2 (by
 show((Dj σ 4 (.str x)).bind λp=>(Dj σ 4 (.str y)).map λq=>PyData.eqv p q).map not=_
 rw[C9,C9]
 show some (!(PyData.eqv (.str x) (.str y)))=_
 rw[PyData.eqv]
 by_cases e:x=y
 . subst e;simp
 . simp -iota [e])
theorem Kp{ys:List AV}(h1:f lc σ=some (a,σ))(h2:g lc σ=some (b,σ))(ha:Bq σ a=some xs)(hb:Bq σ b=some ys)(na:a.int?=none)(sa:a.str?=none)(hz:xs.length+ys.length<=1000000):AN .Add f g lc σ=some (.lst (xs++ys),σ):=Dx h1 h2 (by
 show(Pk a b _).or ((a.str?.bind _).or ((Bq σ a).bind λxs=>(Bq σ b).bind λys=>_))=_
 unfold Pk
 rw[na,sa,ha,hb]
 show gd _ _=_
 exact AZ (decide_eq_true (by rw[sizeLine_eq];omega)))
theorem Ca(h:Ft es lc σ=some (xs,σ'))(hz:xs.length<=1000000):Br es lc σ=some (.lst xs,σ'):=As h (AZ (decide_eq_true (Dy hz)))
theorem Ib(h:Ft es lc σ=some (xs,σ'))(hz:xs.length<=1000000):FN es lc σ=some (.loc σ'.length,σ'++[.list xs]):=As h (AZ (decide_eq_true (Dy hz)))
theorem NB{hi:EM}(h1:f lc σ=some (.lst xs,σ))(h2:hi lc σ=some (.int (n:Int),σ))(hz:xs.length<=1000000):Cc f none (some hi) lc σ=some (.lst (xs.take n),σ):=by
 refine As h1 (As (a:=(none,σ)) rfl (As (a:=(some (n:Int),σ)) (As h2 (Fp rfl)) (As (a:=xs) rfl ?_)))
 rw[AZ (decide_eq_true hz),aj]
set_option tactic.hygienic true
theorem Lf(h2:g lc σ=some (.loc l,σ))(h3:ix lc σ=some (.int i,σ))(h5:HT σ (.loc l) i=some a)(h1:f lc σ=some (b,σ))(h6:Yw op a b=some v)(h4:putAt l i v σ=some σ'):Ez g ix op f lc σ=some (.next,lc,σ'):=As h2 (As (a:=l) rfl (As h3 (As (a:=i) rfl (As h5 (As h1 (As h6 (Fp h4)))))))
end
theorem U7{x:PyData}(h1:Dj σ 4 a=some x)(h2:Dj σ 4 b=some x)(h:PyData.eqv x x=true):QB σ .NotEq a b=some false:=by
 show(aeqv σ a b).map not=_
 rw[Gu h1 h2,h];rfl
theorem GY(x:Int)(h:0<n):∃ k:Nat,x.fmod n=k/\k<n:=by
 (refine AS (TX (x:=x) (m:=n) (Int.natCast_pos.mpr h)) λh1 h2=>?_)
 exact⟨(x.fmod n).toNat,(Int.toNat_of_nonneg h1).symm,(Int.toNat_lt h1).mpr h2⟩
section
variable{c:Addr}
theorem cell_eq(h:σ[l]?=some (.cell c (some v))):BA c l lc σ=some (v,σ):=As (HW h) (As rfl (by rw[beq_self_eq_true];rfl))
set_option tactic.hygienic true
theorem dR{x:Option AV}(h:f lc σ=some (v,σ₁))(hc:σ₁[l]?=some (.cell c x)):dh c l f lc σ=some (.next,lc,σ₁.set l (.cell c (some v))):=As h (Fp (As (HW hc) (by rw[beq_self_eq_true];rfl)))
set_option tactic.hygienic false
theorem rp(h:i<3):IU 0 3 1 σ i=some (some (.int (i:Int))):=by
 have e:Builtin.Range.rangeSize 0 3 1=3:=by decide
 unfold IU
 rw[e,AZ (decide_eq_true (by omega))]
 simp
theorem dS:IU 0 3 1 σ 3=some none:=by
 have e:Builtin.Range.rangeSize 0 3 1=3:=by decide
 unfold IU
 rw[e]
 rfl
end
theorem DH{xs:List α}{x:α}:(xs++[x])[xs.length]?=some x:=by rw[List.getElem?_append_right (Nat.le_refl _),Nat.sub_self];rfl
theorem GZ{xs:List α}{x y:α}:(xs++[x]).set xs.length y=xs++[y]:=by simp
theorem RY(hz:xs.length<=1000000):Bv [.loc σ.length,v] (σ++[.list xs])=some (.none,σ++[.list (xs++[v])]):=by
 rw[DP DH (Dy hz),GZ]
structure RZ (σ:St) (nx:St->Nat->Option (Option AV)) (st:Lc->AV->Option Lc) (t:TM) (f:EM) (k n:Nat) (x:Nat->AV) (l:Nat->Lc) (b:Nat->Bool) (v:Nat->AV):Prop where
 hx:∀ i,i<n->∀ acc,nx (σ++[.list acc]) i=some (some (x i))
 fin:∀ acc,nx (σ++[.list acc]) n=some none
 hst:∀ i,i<n->∀ lc:Lc,lc.length=k->st lc (x i)=some (l i)
 len:∀ i,i<n->(l i).length=k
 ht:∀ i,i<n->∀ acc,t (l i) (σ++[.list acc])=some (b i,σ++[.list acc])
 hf:∀ i,i<n->b i=true->∀ acc,f (l i) (σ++[.list acc])=some (v i,σ++[.list acc])
theorem Lg{x:Nat->AV}{l:Nat->Lc}{b:Nat->Bool}{v:Nat->AV}(P:RZ σ nx st t f k n x l b v)(hn:n<=900000) :
 ∀ (r i fuel:Nat) (lc:Lc) (acc:List AV),i+r=n->r<fuel->lc.length=k->acc.length<=i->FV nx st t f σ.length fuel i lc (σ++[.list acc])=some (σ++[.list (acc++((List.range' i r).filter b).map v)])
 | 0,i,fuel+1,lc,acc,hi,_,_,_=>by
  obtain rfl:i=n:=by right
  unfold FV
  rw[P.fin]
  simp
 |r+1,i,fuel+1,lc,acc,hi,hf,hl,ha=>by
  have DK:i<n:=by omega
  have e1:FV nx st t f σ.length (fuel+1) i lc (σ++[.list acc])=if b i then FV nx st t f σ.length fuel (i+1) (l i) (σ++[.list (acc++[v i])]) else FV nx st t f σ.length fuel (i+1) (l i) (σ++[.list acc]):=by
   refine As (P.hx i DK acc) (As (P.hst i DK lc hl) (As (P.ht i DK acc) ?_))
   cases hb:b i with
   |true=>exact As (P.hf i DK hb acc) (As (RY (by omega)) rfl)
   |false=>rfl
  rw[e1,List.range'_succ,List.filter_cons]
  cases hb:b i with
  |true =>
   rw[if_pos rfl,Lg P hn r (i+1) fuel (l i) (acc++[v i]) (by omega) (by omega) (P.len i DK) (by simp;omega)]
   simp
  |false =>
   rw[if_neg Bool.false_ne_true,Lg P hn r (i+1) fuel (l i) acc (by omega) (by omega) (P.len i DK) (by omega)]
   simp
 | 0,_,0,_,_,_,h,_,_=>absurd h (Nat.lt_irrefl _)
 | _+1,_,0,_,_,_,h,_,_=>absurd h (Nat.not_lt_zero _)
theorem Gv{x:Nat->AV}{l:Nat->Lc}{b:Nat->Bool}{v:Nat->AV}(hs:src lc σ=some (nx,σ₁))(P:RZ σ₁ (tn nx) st t f k n x l b v)(hn:n<=900000) :
 EG src k tn st t f lc σ=some (.loc σ₁.length,σ₁++[.list (((List.range n).filter b).map v)]):=by
 refine As hs (Fp ?_)
 have:=Lg P hn n 0 1000000 (List.replicate k none) [] (by omega) (by omega) (List.length_replicate ..) (Nat.le_refl _)
 rw[List.nil_append,<- List.range_eq_range'] at this
 exact this
theorem mB{y:AV}:∀ l:Lc,l.length=1->putL l 0 y=some [some y]:=λl h=>by
 cases l with
 |nil=>exact absurd h (by decide)
 |cons a r=>cases r with
  |nil=>rfl
  |cons b s=>exact absurd h (by simp)
theorem fU{x y:AV}:∀ l:Lc,l.length=2->PS [0,1] l (.tup [x,y])=some [some x,some y]:=λl h=>by
 cases l with
 |nil=>exact absurd h (by decide)
 |cons a r=>cases r with
  |nil=>exact absurd h (by simp)
  |cons b s=>cases s with
   |nil=>rfl
   |cons c u=>exact absurd h (by simp)
noncomputable def BG(xs:List Nat):Str:=⟨xs.toArray⟩
theorem G3{xs:List Nat}:(BG xs).length=xs.length:=List.size_toArray ..
theorem R0:BG x.cps.toList=x:=rfl
theorem NC{xs:List Nat}:(BG xs).cps.toList=xs:=rfl
set_option tactic.hygienic true
theorem O1{a b:Nat}(NR:a<=b)(hb:b<=x.length):Txt.slice x (some (a:Int)) (some (b:Int))=BG ((x.cps.toList.drop a).take (b-a)):=by
 unfold Txt.slice
 rw[PySem.StrLaws.strSliceIndices_plain NR hb]
 have hl:x.cps.toList.length=x.length:=by rw[Array.length_toList];rfl
 split
 . rename_i h
   simp -iota only[List.length_map,List.length_range,Bool.and_eq_true,beq_iff_eq] at h
   have ha:a=0:=by omega
   rw[ha,List.drop_zero,List.take_of_length_le (by rw[hl];omega)]
   rfl
 . have:=Ef x.cps.toList a (b-a)
   unfold IS at this
   rw[<- this]
   simp -iota only[Array.getElem?_toList]
   rfl
set_option tactic.hygienic false
theorem ND(x:Str)(b:Nat):Txt.slice x none (some (b:Int))=BG (x.cps.toList.take b):=by
 have hl:x.cps.toList.length=x.length:=by rw[Array.length_toList];rfl
 have e:Txt.slice x none (some (b:Int))=Txt.slice x (some ((0:Nat):Int)) (some ((min b x.length:Nat):Int)):=by
  unfold Txt.slice
  rcases Nat.le_total b x.length with h|h
  . rw[PySem.StrLaws.sliceIdx_none_lo,Nat.min_eq_left h];rfl
  . rw[Nat.min_eq_right h,sliceIdx_hi_beyond _ (by omega),PySem.StrLaws.sliceIdx_none_lo];rfl
 rw[e,O1 (Nat.zero_le _) (Nat.min_le_right _ _),List.drop_zero,Nat.sub_zero]
 rcases Nat.le_total b x.length with h|h
 . rw[Nat.min_eq_left h]
 . rw[Nat.min_eq_right h,List.take_of_length_le (by right),List.take_of_length_le (by right)]
theorem NF(x:Str)(a:Nat):Txt.slice x (some (a:Int)) none=BG (x.cps.toList.drop a):=by
 have hl:x.cps.toList.length=x.length:=by rw[Array.length_toList];rfl
 have e:Txt.slice x (some (a:Int)) none=Txt.slice x (some ((min a x.length:Nat):Int)) (some ((x.length:Nat):Int)):=by
  unfold Txt.slice
  rcases Nat.le_total a x.length with h|h
  . rw[PySem.StrLaws.sliceIdx_none_hi,Nat.min_eq_left h]
  . rw[Nat.min_eq_right h,sliceIdx_lo_beyond _ (by omega),PySem.StrLaws.sliceIdx_none_hi]
 rw[e,O1 (Nat.min_le_right _ _) (Nat.le_refl _),List.take_of_length_le (by rw[List.length_drop];right)]
 rcases Nat.le_total a x.length with h|h
 . rw[Nat.min_eq_left h]
 . rw[Nat.min_eq_right h,List.drop_of_length_le (Nat.le_of_eq hl),List.drop_of_length_le (by right)]
theorem Qh(x:Str)(c:Nat):Txt.contains x ⟨#[c]⟩=decide (c∈x.cps.toList):=PySem.StrLaws.found_one x c
theorem Qi(n:Nat):Builtin.Range.rangeSize 0 (n:Int) 1=n:=by
 unfold Builtin.Range.rangeSize
 simp
 try omega
theorem dT(h:n<1000000):Dm 0 (n:Int) 1=true:=by
 have f:Builtin.Range.rangeFitsLong (n:Int)=true:=by
  unfold Builtin.Range.rangeFitsLong
  rw[Bool.and_eq_true,decide_eq_true_eq,decide_eq_true_eq]
  constructor<;>omega
 unfold Dm Builtin.Range.small
 rw[Qi,f]
 have e:(if (1:Int) > 0 then Builtin.Range.rangeFitsLong ((n:Int)+(1-1)) else Builtin.Range.rangeFitsLong ((n:Int)+(1+1)))=true:=by
  rw[if_pos (by decide),show(n:Int)+(1-1)=n by omega,f]
 rw[e]
 generalize ((n:Int)==0)=z
 cases z<;>decide
section
variable{i j:Int}
theorem NG(h1:f lc σ=some (.int i,σ))(h2:g lc σ=some (.int j,σ)):AL .Lt f g lc σ=some (decide (i<j),σ):=Cv h1 h2 rfl
theorem in_of(h1:f lc σ=some (.str y,σ))(h2:g lc σ=some (.str x,σ)):AL .In f g lc σ=some (Txt.contains x y,σ):=Cv h1 h2 rfl
theorem sign_of(h1:f lc σ=some (.str x,σ))(h2:g lc σ=some (.int (k:Int),σ))(hk:x.cps.toList[k]?=some c)(hz:x.length<=1000000):A0 f g lc σ=some (.str ⟨#[c]⟩,σ):=by
 have hl:x.cps.toList.length=x.length:=by rw[Array.length_toList];rfl
 have DK:k<x.length:=hl▸(List.getElem?_eq_some_iff.mp hk).1
 have es:seqIndex? (k:Int) x.length=some k:=Sr DK
 refine Ec h1 h2 ?_
 rw[RL,if_pos (by omega),es]
 show(x.cps[k]?).map _=_
 rw[<- Array.getElem?_toList,hk]
 rfl
theorem dU(h1:f lc σ=some (.loc l,σ))(h2:g lc σ=some (.int (k:Int),σ))(hl:σ[l]?=some (.list xs))(hk:xs[k]?=some v)(hz:xs.length<=1000000):A0 f g lc σ=some (v,σ):=by
 have DK:=(List.getElem?_eq_some_iff.mp hk).1
 have es:seqIndex? (k:Int) xs.length=some k:=Sr DK
 refine Ec h1 h2 ?_
 rw[Dc (Cq hl),if_pos (by omega),es]
 exact hk
theorem Kq{lo hi:Option EM}{p q:Option Int}(h1:f lc σ=some (.str x,σ))(h2:NY lo lc σ=some (p,σ))(h3:NY hi lc σ=some (q,σ))(hz:x.length<=1000000):EF f lo hi lc σ=some (.str (Txt.slice x p q),σ) :=
 As h1 (As rfl (As h2 (As h3 (AZ (decide_eq_true hz)))))
theorem aG(h:f lc σ=some (.int i,σ)):NY (some f) lc σ=some (some i,σ):=As h (Fp rfl)
theorem dW{fs:List EM}{r:Int×Int×Int}(h1:Ft fs lc σ=some (xs,σ'))(h2:EU xs=some r)(h3:Dm r.1 r.2.1 r.2.2=true):Ry fs lc σ=some (IU r.1 r.2.1 r.2.2,σ'):=As h1 (As h2 (AZ h3))
theorem U8(h1:f lc σ=some (a,σ'))(h2:Bq σ' a=some xs):Wh f lc σ=some (Qs a,σ'):=As h1 (Fp h2)
theorem dX(h1:f lc σ=some (.loc l,σ'))(h2:σ'[l]?=some (.acc ini ps)):Wi f lc σ=some (fH l,σ'):=As h1 (As rfl (Fp (Cy h2)))
theorem TY{i:Nat}(h:i<n):IU 0 (n:Int) 1 σ i=some (some (.int (i:Int))):=by
 unfold IU
 rw[Qi,AZ (decide_eq_true (by omega))]
 simp
theorem Qj:IU 0 (n:Int) 1 σ n=some none:=by
 unfold IU
 rw[Qi]
 simp -iota [gd]
theorem Lh(h1:f lc σ=some (.loc l,σ))(hl:σ[l]?=some (.list xs))(h2:g lc σ=some (v,σ'))(KH:σ'[l]?=some (.list xs))(hz:xs.length<=1000000):mE 2 Bv f [g] lc σ=some (.none,σ'.set l (.list (xs++[v]))) :=
 As h1 ((if_pos (by rw[Cg,hl];rfl)).trans (As (Dr h2) (DP KH (Dy hz))))
theorem U9(h1:f lc σ=some (.loc l,σ))(hl:σ[l]?=some (.list xs))(hz:xs.length<=1000000):Av (BW LF) [f] lc σ=some (.int xs.length,σ):=As (Dr h1) (WB hl hz)
end
section
variable{xs D:List α}{o p q:α}
theorem mC:(xs++o::D)[xs.length]?=some o:=by rw[List.getElem?_append_right (Nat.le_refl _),Nat.sub_self];rfl
theorem WV:(xs++o::p::D)[xs.length+1]?=some p:=by rw[List.getElem?_append_right (Nat.le_add_right _ 1),Nat.add_sub_cancel_left];rfl
theorem mD:(xs++o::D).set xs.length q=xs++q::D:=by simp
theorem jm:(xs++o::p::D).set (xs.length+1) q=xs++o::q::D:=by rw[List.set_append_right _ _ (Nat.le_add_right _ 1),Nat.add_sub_cancel_left];rfl
theorem getL{v:α}(h:xs[i]?=some v):(xs++D)[i]?=some v:=by rw[List.getElem?_append_left (List.getElem?_eq_some_iff.mp h).1];exact h
end
variable{B L r:Nat}{vs ws:List AV}{δ:St}
theorem AH.gen(F:AH σ m ln ac ml cw Cr sp Ap ini ps)(hl:σ[l]?=some (.gen m k))(o:AO):AH (σ.set l o) m ln ac ml cw Cr sp Ap ini ps:=by
 refine AH.keep F (X:=[l]) (.set (by simp)) ?_ ?_ ?_
 . intro h;simp at h;subst h;have:=F.fm;rw[hl] at this;cases this
 . intro h;simp at h;subst h;have:=F.li;rw[hl] at this;cases this
 . intro h;simp at h;subst h;have:=F.acc;rw[hl] at this;cases this
theorem Va{v:Int}{e:EM}(hl:σ[l]?=some (.gen m k))(he:(bif k==0 then Eo else Ep)=e)(h:∀ n,e [some (.loc m)] (σ.set l (.out n))=some (.int v,σ.set l (.out n))):En Eo Ep [.loc l] σ=some (.int v,σ.set l (.gen m (k+1))):=by
 have p:=Zg (P:=λv=>∀ n,(bif k==0 then Eo else Ep) [some (.loc m)] (σ.set l (.out n))=some (.int v,σ.set l (.out n))) (v:=v) (by rw[he];exact h) λu hu=>by
  have:=hu 0
  rw[he,h 0] at this
  cases this;rfl
 exact As (a:=.loc l) rfl (As (a:=l) rfl (As (Zh hl) (Fp p)))
theorem fV(F:AH σ m ln ac ml cw Cr sp Ap ini ps)(H:Fits Ap ini ps)(hl:σ[l]?=some (.gen m 0)):En Eo Ep [.loc l] σ=some (.int (ml-(ini+Ag ps)),σ.set l (.gen m 1)) :=
 Va (e:=Eo) hl rfl λn=>by
  have F':=F.gen hl (.out n)
  have a:Bk 0 (nE 0) [some (.loc m)] (σ.set l (.out n))=some (.int ml,σ.set l (.out n)):=by simp[Bk,nE,F'.fm,Jc,B2,AV.loc?]
  exact Ju a (Jw (lc:=[some (.loc m)]) rfl F' H)
theorem mF(F:AH σ m ln ac ml cw Cr sp Ap ini ps)(hl:σ[l]?=some (.gen m (k+1))):En Eo Ep [.loc l] σ=some (.int (ml-Cr),σ.set l (.gen m (k+2))) :=
 Va (e:=Ep) hl rfl λn=>by
  have F':=F.gen hl (.out n)
  have a:Bk 0 (nE 0) [some (.loc m)] (σ.set l (.out n))=some (.int ml,σ.set l (.out n)):=by simp[Bk,nE,F'.fm,Jc,B2,AV.loc?]
  have b:Bk 2 (nE 0) [some (.loc m)] (σ.set l (.out n))=some (.int Cr,σ.set l (.out n)):=by simp[Bk,nE,F'.fm,Jc,B2,AV.loc?]
  exact Ju a b
theorem NH(F:AH σ m ln ac ml cw Cr sp Ap ini ps):DY [.loc m] σ=some (.loc σ.length,σ++[.gen m 0]):=As (a:=.loc m) rfl (As (a:=m) rfl (Fp (a:=()) (by unfold Uy;rw[F.fm];rfl)))
noncomputable def GA:SM:=(Ah [BZ 3 (FN []),BZ 4 (AN .Sub (nE 1) (cE (.int 2))),Qb (AL .NotEq (nE 0) (cE (.str ""))) (Ah [Ff (Vo [(AL .Gt (nE 4) (cE (.int 0))),(AL .NotEq (nE 3) (Br []))]) (Ah [BZ 4 (Av Zk [(nE 4),(cE (.int 1))]),Bj (mE 2 Bv (nE 3) [(AN .Add (AN .Add (cE (.str "<")) (EF (nE 0) none (some (nE 4)))) (cE (.str ">")))]),BZ 0 (EF (nE 0) (some (nE 4)) none)]) (Ah [Bj (mE 2 Bv (nE 3) [(cE .none)])]),BZ 4 (AN .Sub (nE 2) (cE (.int 2)))]) (Ah []),retS (nE 3)])
noncomputable def CG:FM:=E5 ["text", "near", "far", "lines", "size"] 3 GA
noncomputable def Dp:SM:=(Ah [Ff (AL .In (nE 2) (cE (.str " \t"))) (Ah [Ff (AL .NotEq (A0 (A0 (nE 1) (CE (cE (.int 1)))) (cE (.int 1))) (cE (.str ""))) (Ah [Bj (mE 2 Bv (nE 1) [(FN [(cE (.str "")),(cE (.str ""))])])]) (Ah []),Ez (A0 (nE 1) (CE (cE (.int 1)))) (cE (.int 0)) .Add (nE 2)]) (Ah [Ez (A0 (nE 1) (CE (cE (.int 1)))) (cE (.int 1)) .Add (nE 2)])])
noncomputable def GB:SM:=(Ah [BZ 1 (FN [(FN [(cE (.str "")),(cE (.str ""))])]),L7 2 (nE 0) Dp (Ah []),retS (EG (Wh (nE 1)) 1 id (λlc y=>putL lc 0 y) (AL .NotEq (nE 0) (Br [(cE (.str "")),(cE (.str ""))])) (nE 0))])
noncomputable def EJ:FM:=E5 ["text", "chunks", "sign"] 1 GB
noncomputable def Kr:SM:=(Ah [retS (mE 1 J3 (cE (.str "")) [(EG (Wh (nE 0)) 2 (bo 2) (PS [0,1]) Fo (AN .Add (nE 0) (nE 1)))])])
noncomputable def Bm:FM:=E5 ["chunks"] 1 Kr
noncomputable def CS:SM:=(Ah [Ff (dF (A0 (nE 2) (nE 3)) (IG [(EF (A0 (nE 0) (cE (.int 1))) (some (CE (cE (.int 1)))) none),(EF (A0 (nE 1) (cE (.int 0))) none (some (cE (.int 1))))])) (Ah [retS (nE 3)]) (Ah [])])
noncomputable def Hp:SM:=(Ah [GP 3 [(Av (BW AD) [(nE 2)])] CS (Ah []),retS (Av (BW AD) [(nE 2)])])
noncomputable def Fd:FM:=E5 ["before", "chunk", "signs", "k"] 3 Hp
noncomputable def F9:SM:=(Ah [Kd [.loc 1,.loc 2,.loc 3] (nE 0),BZ 4 (Av Bm [(Vp (AL .Eq (Cc (nE 2) (some (CE (cE (.int 1)))) none) (Br [(Br [(cE (.str " ")),(cE (.str ""))])])) (Cc (nE 2) none (some (CE (cE (.int 1))))) (nE 2))]),Ff (Vo [(AL .Gt (nE 3) (cE (.int 0))),(AL .NotEq (mE 1 Ke (nE 4) []) (cE (.str ""))),(Hw [(AL .NotEq (nE 4) (cE (.str ""))),(AL .Eq (nE 1) (Br []))])]) (Ah [Bj (mE 2 Bv (nE 1) [(nE 4)])]) (Ah [Ff (AL .NotEq (nE 4) (cE (.str ""))) (Ah [Ez (nE 1) (CE (cE (.int 1))) .Add (nE 4)]) (Ah [])]),retS (nE 1)])
noncomputable def BQ:FM:=E5 ["state", "rows", "chunks", "head", "row"] 1 F9
noncomputable abbrev tQ(L g:Nat):SM:=Kd [.loc 3,.cell (L+1+1) (g+1),.loc 4] (nE 0)
noncomputable abbrev tR(L g:Nat):SM:=dh (L+1+1) (g+1) (AN .Add (BA (L+1+1) (g+1)) (Br [(nE 1)]))
noncomputable abbrev vV(L g:Nat):SM:=Ff (AL .LtE (AN .Add (nE 4) (Av (BW AD) [(Av Bm [(BA (L+1+1) (g+1))])])) (nE 2)) (Ah [retS (Br [(nE 3),(BA (L+1+1) (g+1)),(nE 4)])]) (Ah [])
noncomputable abbrev tS(L g:Nat):SM:=BZ 5 (EG (Ry [(cE (.int 1)),(Av (BW AD) [(BA (L+1+1) (g+1))])]) 1 id (λlc y=>putL lc 0 y) Fo (IG [(Av Fd [(A0 (BA (L+1+1) (g+1)) (AN .Sub (nE 0) (cE (.int 1)))),(A0 (BA (L+1+1) (g+1)) (nE 0)),(BA (L+1+0) (g+0))]),(CE (nE 0))]))
noncomputable abbrev tT(L g:Nat):SM:=Kd [.loc 6,.loc 7] (Av UW [(AN .Add (nE 5) (Br [(IG [(Av (BW AD) [(BA (L+1+0) (g+0))]),(cE (.int 1))])]))])
noncomputable abbrev rq(L g:Nat):SM:=Ff (AL .Lt (nE 6) (Av (BW AD) [(BA (L+1+0) (g+0))])) (Ah [Bj (mE 2 Bv (nE 3) [(Av Bm [(Cc (BA (L+1+1) (g+1)) none (some (CE (nE 7))))])]),retS (Br [(nE 3),(Cc (BA (L+1+1) (g+1)) (some (CE (nE 7))) none),(cE (.int 0))])]) (Ah [])
noncomputable abbrev rr(L g:Nat):SM:=Ff (AL .Gt (nE 4) (cE (.int 0))) (Ah [retS (Br [(Av BQ [(Br [(nE 3),(Cc (BA (L+1+1) (g+1)) none (some (CE (cE (.int 1))))),(nE 4)])]),(Br [(Br [(km (A0 (nE 1) (cE (.int 0))) (cE (.str " "))),(A0 (nE 1) (cE (.int 1)))])]),(cE (.int 0))])]) (Ah [])
noncomputable abbrev rt(L g:Nat):SM:=retS (Br [(nE 3),(BA (L+1+1) (g+1)),(nE 4)])
noncomputable def D4(L g:Nat):SM:=(Ah [tQ L g,tR L g,vV L g,tS L g,tT L g,rq L g,rr L g,rt L g])
noncomputable def CH:FM:=runC 4 [some 0,some 1,some 2,none,none,none,none,none] [some 3,none] D4
noncomputable def dY:FM:=Tt 1 2 ["text", "rooms"] (ZY (Av CG [(nE 0),(Av (En Eo Ep) [(nE 1)]),(Av (En Eo Ep) [(nE 1)])]))
noncomputable def NI:SM:=(Ah [Ff (AL .Is (Jt 6 (nE 3)) (cE .none)) (Ah [Bj (mE 3 Jn (nE 0) [(nE 1),(nE 2),(Bk 3 (nE 0))]),IQ]) (Ah []),BZ 4 (Iq 7 (nE 3) [(nE 2),(mE 3 DY (nE 0) [])] dY),Hl 4 [(cE (.int 0))] (BZ 5 (mE 2 KY (nE 4) [(cE (.int 0))])),Ff (AL .IsNot (nE 5) (cE .none)) (Ah [Bj (mE 3 Jm (nE 0) [(nE 1),(nE 5)])]) (Ah []),Hl 4 [] (BZ 6 (mE 2 RC (nE 4) [])),Bj (mE 3 ED (nE 0) []),Bj (mE 4 Gm (Bk 5 (nE 0)) [(Bk 1 (nE 0)),(nE 6)]),L7 7 (nE 4) (Ah [Bj (mE 2 Bv (Bk 4 (nE 0)) [(AN .Add (Bk 1 (nE 0)) (nE 7))])]) (Ah [])])
noncomputable def R1:FM:=E5 ["self", "fws", "string", "charset", "encoded_lines", "first_line", "last_line", "line"] 4 NI
noncomputable def NJ:Lc->St->Option St:=fP (Ff (AL .Is (Nm 6 (nE 3)) (cE .none)) (Ah [Bj (mE 3 Jn (nE 0) [(nE 1),(nE 2),(Bk 3 (nE 0))]),IQ]) (Ah [])) (fQ (nE 3) [(nE 2),(mE 3 DY (nE 0) [])] ["text", "rooms"] (AN .Mult (nE 0) (Av (En Eo Ep) [(nE 1)])))
noncomputable def Iy:SM:=(Ah [BZ 10 (Av CH [(nE 10),(nE 17),(nE 2),(nE 5)])])
noncomputable def Iz:SM:=(Ah [Ff (AL .Gt (nE 19) (cE (.int 0))) (Ah [BZ 10 (Br [(Av BQ [(nE 10)]),(Br [(Br [(nE 4),(A0 (nE 18) (nE 19))])]),(cE (.int 0))])]) (Ah [Ff (AL .IsNot (A0 (nE 18) (cE (.int 0))) (cE .none)) (Ah [BZ 10 (Av CH [(nE 10),(Br [(nE 15),(A0 (nE 18) (cE (.int 0)))]),(nE 2),(nE 5)])]) (Ah [])])])
noncomputable abbrev tU:SM:=(Ah [BZ 16 (A0 (Br [(cE (.str "a")),(cE (.str "bb;")),(cE (.str "c dd")),(cE (.str "ee,")),(cE (.str "g;h ")),(cE (.str "")),(cE (.str " ")),(cE (.str "iii"))]) (AN .Mod (nE 14) (cE (.int 8)))),Bj (mE 3 R1 (nE 9) [(nE 15),(nE 16),(nE 6)]),L7 17 (Av EJ [(AN .Add (nE 15) (nE 16))]) Iy (Ah [])])
noncomputable abbrev tV:SM:=(Ah [BZ 16 (AN .Mult (cE (.str "x")) (AN .Mod (nE 14) (cE (.int 9)))),BZ 18 (Av CG [(nE 16),(AN .Sub (AN .Sub (nE 2) (A0 (nE 10) (cE (.int 2)))) (Av (BW AD) [(Av Bm [(A0 (nE 10) (cE (.int 1)))])])),(AN .Sub (nE 2) (Av (BW AD) [(nE 4)]))]),Bj (mE 3 R1 (nE 9) [(nE 15),(nE 16),(nE 7)]),GP 19 [(Av (BW AD) [(nE 18)])] Iz (Ah [])])
noncomputable abbrev tW:SM:=(Ah [Bj (mE 3 Td (nE 9) []),BZ 10 (Br [(A0 (nE 10) (cE (.int 0))),(AN .Add (A0 (nE 10) (cE (.int 1))) (Br [(Br [(cE (.str " ")),(cE (.str ""))])])),(A0 (nE 10) (cE (.int 2)))])])
noncomputable abbrev tX:SM:=(Ah [Bj (mE 3 ED (nE 9) []),BZ 10 (Br [(Av BQ [(nE 10)]),(Br []),(cE (.int 0))])])
noncomputable abbrev tY:SM:=(Ah [Nq 3 4 ["self", "fws", "string", "charset", "encoded_lines", "first_line", "last_line", "line"] NJ (nE 9) [(nE 15),(cE (.str "x")),(nE 8)]])
noncomputable def IA:SM:=(Ah [Kd [.loc 12,.loc 13,.loc 14] (Cc (AN .Add (Cc (nE 0) (some (nE 11)) (some (AN .Add (nE 11) (cE (.int 3))))) (Br [(cE (.int 0)),(cE (.int 0))])) none (some (cE (.int 3)))),BZ 15 (A0 (Br [(cE (.str "")),(cE (.str " ")),(cE (.str "\t")),(cE (.str "  "))]) (AN .Mod (nE 13) (cE (.int 4)))),Ff (AL .Lt (AN .Mod (nE 12) (cE (.int 7))) (cE (.int 2))) tU (Ah [Ff (AL .Lt (AN .Mod (nE 12) (cE (.int 7))) (cE (.int 4))) tV (Ah [Ff (AL .Eq (AN .Mod (nE 12) (cE (.int 7))) (cE (.int 4))) tW (Ah [Ff (AL .Eq (AN .Mod (nE 12) (cE (.int 7))) (cE (.int 5))) tX tY])])])])
noncomputable abbrev ru:SM:=Kd [.loc 20,.loc 21,.loc 3] (nE 10)
noncomputable abbrev rv:SM:=Ff (AL .NotEq (Bk 4 (nE 9)) (nE 20)) (Ah [retS (cE (.bool false))]) (Ah [])
noncomputable abbrev rx:SM:=Ff (AL .NotEq (EG (Wi (Bk 5 (nE 9))) 2 (bo 2) (PS [0,1]) Fo (Br [(nE 0),(nE 1)])) (nE 21)) (Ah [retS (cE (.bool false))]) (Ah [])
noncomputable abbrev ry:SM:=Ff (AL .NotEq (Av (BW AD) [(Bk 5 (nE 9))]) (AN .Add (nE 3) (Av (BW AD) [(Av Bm [(nE 21)])]))) (Ah [retS (cE (.bool false))]) (Ah [])
noncomputable abbrev rz:SM:=BZ 20 (Av BQ [(nE 10)])
noncomputable abbrev rA:SM:=retS (XC (tE (AL .Eq (mE 3 Rn (nE 9) [(cE (.str "\n"))]) (mE 1 J3 (cE (.str "\n")) [(nE 20)]))) (tE (AL .Eq (Bk 4 (nE 9)) (nE 20))))
noncomputable def R4(L:Nat):SM:=(Ah [BZ 0 (Cc (nE 0) none (some (cE (.int 63)))),BZ 1 (A0 (AN .Add (nE 0) (Br [(cE (.int 0))])) (cE (.int 0))),BZ 2 (AN .Mod (nE 1) (cE (.int 15))),BZ 3 (AN .Mult (AN .Mod (AN .FloorDiv (nE 1) (cE (.int 15))) (cE (.int 3))) (cE (.int 4))),BZ 4 (A0 (Br [(cE (.str " ")),(cE (.str "\t")),(cE (.str "  "))]) (AN .Mod (AN .FloorDiv (nE 1) (cE (.int 45))) (cE (.int 3)))),BZ 5 (A0 (Br [(cE (.str ";, \t")),(cE (.str " ")),(cE (.str ">; ")),(cE (.str "")),(cE (.str "\t, ")),(cE (.str " >"))]) (AN .Mod (AN .FloorDiv (nE 1) (cE (.int 135))) (cE (.int 6)))),Kd [.loc 6,.loc 7,.loc 8] (EG (Ry [(cE (.int 3))]) 1 id (λlc y=>putL lc 0 y) Fo (Av Ji [(cE (.int 0)),(cE (.int 0)),(cE (.str "")),(cE (.str ""))])),OK 6 (nE 6) (cE .none),OK 6 (nE 7) (cE (.int 1)),OK 7 (nE 7) (iX 1 []),OK 6 (nE 8) (cE (.int 2)),Nn (nE 8),BZ 9 (Av Ji [(nE 3),(nE 2),(nE 4),(nE 5)]),BZ 10 (Br [(FN []),(Br []),(nE 3)]),GP 11 [(cE (.int 1)),(Av (BW AD) [(nE 0)]),(cE (.int 3))] IA (Ah []),ru,rv,rx,ry,rz,rA])
noncomputable abbrev fW:List Str:=["script", "first", "width", "head", "ahead", "signs", "plain", "coded", "failing", "formatter", "state", "k", "a", "b", "c", "fws", "text", "chunk", "lines", "n", "rows", "chunks"]
noncomputable abbrev CW(Ap:List Str):List AV:=Ap.map AV.str
inductive O2 (B:Nat) (σ:St):AV->Str×Str->Prop
 |lst (p:Str×Str):O2 B σ (.lst [.str p.1,.str p.2]) p
 |loc {l:Nat} (p:Str×Str) (h:σ[l]?=some (.list [.str p.1,.str p.2])) (hl:B<=l):O2 B σ (.loc l) p
inductive E1 (B:Nat) (σ:St):List AV->List (Str×Str)->Prop
 |nil:E1 B σ [] []
 |cons {v:AV} {p:Str×Str} {vs:List AV} {ps:List (Str×Str)} (a:O2 B σ v p) (b:E1 B σ vs ps):E1 B σ (v::vs) (p::ps)
theorem Ic(qs:List α)(d:α)(f:α->Bool)(g:α->β):((List.range qs.length).filter λi=>f (qs.getD i d)).map (λi=>g (qs.getD i d))=(qs.filter f).map g:=by
 have e:(List.range qs.length).map (λi=>qs.getD i d)=qs:=by
  apply List.ext_getElem?
  intro i
  rw[List.getElem?_map]
  by_cases h:i<qs.length
  . rw[List.getElem?_range h,List.getElem?_eq_getElem h]
    simp -iota [h]
  . rw[List.getElem?_eq_none (by rw[List.length_range];omega),List.getElem?_eq_none (by omega)]
    rfl
 conv=>rhs;rw[<- e,List.filter_map,List.map_map]
 rfl
theorem O2.keep(h:O2 B σ v p)(S:Bt X σ σ')(hX:∀ x∈X,x<B):O2 B σ' v p:=by
 cases h with
 |lst=>exact .lst p
 |loc p h hl=>exact .loc p (S.get (λq=>by have:=hX _ q;omega) h) hl
theorem E1.keep(h:E1 B σ vs ps)(S:Bt X σ σ')(hX:∀ x∈X,x<B):E1 B σ' vs ps:=by
 induction h with
 |nil=>exact .nil
 |cons a b ih=>exact .cons (a.keep S hX) ih
theorem E1.len(h:E1 B σ vs ps):vs.length=ps.length:=by
 induction h with
 |nil=>rfl
 |cons a b ih=>exact congrArg (·+1) ih
theorem E1.app(h:E1 B σ vs ps)(g:E1 B σ ws qs):E1 B σ (vs++ws) (ps++qs):=by
 induction h with
 |nil=>exact g
 |cons a b ih=>exact .cons a ih
theorem E1.at(h:E1 B σ vs ps):∀ {i:Nat} {p:Str×Str},ps[i]?=some p->∃ v,vs[i]?=some v/\O2 B σ v p:=by
 induction h with
 |nil=>intro i p e;simp at e
 |cons a b ih =>
  intro i p e
  cases i with
  |zero=>cases e;exact⟨_,rfl,a⟩
  |succ i=>exact ih e
theorem E1.take(h:E1 B σ vs ps)(n:Nat):E1 B σ (vs.take n) (ps.take n):=by
 induction h generalizing n with
 |nil=>simp;exact .nil
 |cons a b ih=>cases n with
  |zero=>exact .nil
  |succ n=>exact .cons a (ih n)
theorem E1.drop(h:E1 B σ vs ps)(n:Nat):E1 B σ (vs.drop n) (ps.drop n):=by
 induction h generalizing n with
 |nil=>simp;exact .nil
 |cons a b ih=>cases n with
  |zero=>exact .cons a b
  |succ n=>exact ih n
theorem O2.items(h:O2 B σ v p):itemsOf σ v=some [.str p.1,.str p.2]:=by
 cases h with
 |lst=>rfl
 |loc p h hl=>exact(Option.none_or).trans (AY h)
theorem O2.pd(h:O2 B σ v p)(n:Nat):Dj σ (n+2) v=some (.list [.str p.1,.str p.2]):=by
 have e:Cb (Dj σ (n+1)) [.str p.1,.str p.2]=some [.str p.1,.str p.2]:=by
  rw[Cb,C9,Cb,C9];rfl
 cases h with
 |lst=>rw[GV,e];rfl
 |loc p h hl=>rw[H6,AY h];exact(congrArg (Option.map PyData.list) e)
noncomputable def Ma(p:Str×Str):PyData:=.list [.str p.1,.str p.2]
theorem E1.pd(h:E1 B σ vs ps)(n:Nat):Cb (Dj σ (n+2)) vs=some (ps.map Ma):=by
 induction h with
 |nil=>rfl
 |cons a b ih=>rw[Cb,a.pd,ih];rfl
theorem aH(p q:Str×Str):PyData.eqv (Ma p) (Ma q)=decide (p=q):=by
 unfold Ma
 obtain⟨a,b⟩:=p
 obtain⟨c,d⟩:=q
 rw[PyData.eqv,PyData.eqvAll,PyData.eqv,PyData.eqvAll,PyData.eqv,PyData.eqvAll]
 by_cases h1:a=c<;>by_cases h2:b=d<;>simp -iota [h1,h2]
theorem Jy:∀ (ps qs:List (Str×Str)),PyData.eqvAll (ps.map Ma) (qs.map Ma)=decide (ps=qs)
 | [],[]=>by simp -iota [PyData.eqvAll]
 | [],y::ys=>by simp -iota [PyData.eqvAll]
 |x::xs,[]=>by simp -iota [PyData.eqvAll]
 |x::xs,y::ys=>by
  rw[List.map_cons,List.map_cons,PyData.eqvAll,Jy xs ys,aH]
  by_cases h1:x=y<;>by_cases h2:xs=ys<;>simp -iota [h1,h2]
theorem mG(h:E1 B σ vs ps)(g:E1 B σ ws qs):aeqv σ (.lst vs) (.lst ws)=some (decide (ps=qs)):=by
 have e1:Dj σ 4 (.lst vs)=some (.list (ps.map Ma)):=by rw[GV,h.pd 1];rfl
 have e2:Dj σ 4 (.lst ws)=some (.list (qs.map Ma)):=by rw[GV,g.pd 1];rfl
 rw[Gu e1 e2,PyData.eqv,Jy]
noncomputable abbrev Dd(ps:List (Str×Str)):AO:=.list (ps.map λp=>AV.str (DM p))
theorem O3(h:accFits ps=true):ps.length<=1000000/\∀ p∈ps,p.1.length+p.2.length<=1000000:=by
 unfold accFits at h
 simp -iota only[Bool.and_eq_true,decide_eq_true_eq,List.all_eq_true] at h
 refine⟨h.1.2,λp hp=>?_⟩
 have:=Jv hp
 unfold CN at this
 omega
theorem G4(h:E1 B σ vs ps)(hf:accFits ps=true)(hn:ps.length<=100000):Bm [.lst vs] σ=some (.str (AE ps),σ++[Dd ps]):=by
 (refine AS (O3 hf) λuu hs=>?_)
 have hl:=h.len
 refine C3 (lc':=[some (.lst vs)]) rfl ?_
 unfold Kr
 show Ah _ [some (.lst vs)] σ=_
 refine BR (Fp (a:=(AV.str (AE ps),σ++[Dd ps])) ?_)
 have gp:∀ i,i<ps.length->ps[i]?=some (ps.getD i ("", "")):=λi hi=>by simp -iota [hi]
 have Q:RZ σ (bo 2 (Qs (.lst vs))) (PS [0,1]) Fo (AN .Add (nE 0) (nE 1)) 2 ps.length (λi=>.tup [.str (ps.getD i ("", "")).1,.str (ps.getD i ("", "")).2]) (λi=>[some (.str (ps.getD i ("", "")).1),some (.str (ps.getD i ("", "")).2)]) (λuu=>true) (λi=>.str (DM (ps.getD i ("", "")))):=by
  refine⟨λi hi acc=>?_,λacc=>?_,λi hi=>fU,λuu uu=>rfl,λuu uu uu=>rfl,λi hi uu acc=>?_⟩
  . (refine Am (h.at (gp i hi)) λv hv hc=>?_)
    have g9:=hc.keep (σ':=σ++[.list acc]) (X:=[]) (.app _) eJ
    refine As (a:=some v) (show Qs (.lst vs) _ i=_ from ?_) (As g9.items (AZ rfl))
    show some vs[i]?=_
    rw[hv]
  . refine As (a:=none) (show Qs (.lst vs) _ _=_ from ?_) rfl
    show some vs[ps.length]?=_
    rw[<- hl];simp
  . have hm:=hs _ (List.mem_of_getElem? (gp i hi))
    exact La (f:=nE 0) (g:=nE 1) (lc:=[some (.str (ps.getD i ("", "")).1),some (.str (ps.getD i ("", "")).2)]) (σ:=σ++[.list acc]) rfl rfl hm
 have ec:=Gv (tn:=bo 2) (lc:=[some (.lst vs)]) (U8 (f:=nE 0) (σ':=σ) (a:=.lst vs) rfl rfl) Q (by omega)
 rw[Ic ps ("", "") (λuu=>true) (λp=>AV.str (DM p)),List.filter_eq_self.mpr (λuu uu=>rfl)] at ec
 have hj:=Qf (σ:=σ++[Dd ps]) (l:=σ.length) (sep := "") (rs:=ps.map DM) (by rw[List.map_map];exact DH) (by
  have e:=CF ps
  have hb:Bo (ps.map DM)=(AE ps).length:=by
   have:=JR ps
   unfold Bo
   omega
  unfold accFits at hf
  simp -iota only[Bool.and_eq_true,decide_eq_true_eq] at hf
  show _+_*0<=_
  omega)
 exact As (a:=(AV.str "",σ)) rfl ((if_pos rfl).trans (As (Dr ec) hj))
theorem EW(x:Str):x.cps.toList.length=x.length:=by rw[Array.length_toList];rfl
theorem R5(x:Str):x = "" ↔ x.cps.toList=[]:=⟨λh=>by rw[h];rfl,λh=>Iv (by rw[h];rfl)⟩
theorem O4(x:Str):Txt.strip x = "" ↔ ∀ c∈x.cps.toList,Unicode.isSpace c=true:=strip_nil _ x
noncomputable def Qk(Ap:List Str)(Li:Str)(head:Int):List Str :=
 if 0<head\/Txt.strip Li ≠ "" \/ (Li ≠ "" /\ Ap=[]) then Ap++[Li]
 else if Li ≠ "" then Ap.dropLast++[(Ap.getLast?.getD "")++Li] else Ap
theorem WW(h0:0<=ini):AM Ap ini ps=Qk Ap (AE (BK ps)) ini:=by
 unfold AM Qk Ld
 rw[<- CF (BK ps)]
 generalize AE (BK ps)=r
 by_cases hi:0<ini
 . rw[if_pos (by omega),if_neg (by rw[show(ini==0)=false from beq_false_of_ne (by omega)];simp),if_pos (.inl hi)]
 . have hi:ini=0:=by omega
   subst hi
   by_cases hr:r = ""
   . subst hr
     rw[if_neg (by decide),if_neg,if_neg (by simp)]
     rintro(h|h|h)
     . exact absurd h (by decide)
     . exact h ((O4 "").mpr (λc hc=>nm hc))
     . exact h.1 rfl
   . have hl:0<r.length:=by
      rcases Nat.eq_zero_or_pos r.length with h|h
      . exact absurd ((R5 r).mpr (List.eq_nil_of_length_eq_zero (by rw[EW];exact h))) hr
      . exact h
     have sp:Txt.isspace r=true↔Txt.strip r = "" := by rw[LO,O4];exact⟨λh=>h.2,λh=>⟨hr,h⟩⟩
     rw[if_pos (by omega),show((r.length:Int)==0)=false from beq_false_of_ne (by omega)]
     by_cases Vb:Ap=[]
     . rw[if_neg (by rw[Vb];simp),if_pos (.inr (.inr ⟨hr,Vb⟩))]
     . have Gj:Ap.isEmpty=false:=by cases Ap with|nil=>exact absurd rfl Vb|cons=>rfl
       by_cases hs:Txt.strip r = ""
       . rw[if_pos (by rw[sp.mpr hs,Gj];rfl),if_neg (by rintro(h|h|h);exact absurd h (by decide);exact h hs;exact Vb h.2),if_pos hr]
       . rw[if_neg (by rw[show Txt.isspace r=false from Bool.eq_false_iff.mpr λz=>hs (sp.mp z)];simp),if_pos (.inr (.inl hs))]
theorem aI(h:E1 B σ vs ps)(h':E1 B σ ws qs)(h1:f lc σ=some (.lst vs,σ))(h2:g lc σ=some (.lst ws,σ)):AL .Eq f g lc σ=some (decide (ps=qs),σ):=Cv h1 h2 (mG h h')
theorem TZ{xs:List Str}(h1:f lc σ=some (.loc l,σ))(hl:σ[l]?=some (.list (CW xs)))(h2:g lc σ=some (.lst (CW ys),σ)):AL .Eq f g lc σ=some (decide (xs=ys),σ):=Cv h1 h2 (by
 show aeqv σ _ _=_
 rw[Gu (GX hl) (WR ys),NA])
theorem aJ{b:Bool}(h:t lc σ=some (b,σ))(h1:b=true->f lc σ=some (v,σ))(h2:b=false->g lc σ=some (v,σ)):Vp t f g lc σ=some (v,σ):=by
 cases b with
 |true=>exact As h (h1 rfl)
 |false=>exact As h (h2 rfl)
theorem T1{xs:List α}{x:α}(h:xs[i]?=some x):xs.set i x=xs:=by
 apply List.ext_getElem?
 intro j
 by_cases e:i=j
 . subst e;rw[List.getElem?_set_self (List.getElem?_eq_some_iff.mp h).1,h]
 . rw[List.getElem?_set_ne e]
theorem Ks{n:Nat}(h:σ[l]?=some o):(σ++δ)[l]?=some o:=by rw[List.getElem?_append_left (List.getElem?_eq_some_iff.mp h).1];exact h
theorem aK(h1:f lc σ=some (.lst vs,σ))(hz:vs.length<=100000):Cc f (some (CE (cE (.int 1)))) none lc σ=some (.lst (vs.drop (vs.length-1)),σ):=by
 refine As h1 (As (a:=(some (-1),σ)) rfl (As (a:=(none,σ)) rfl (As (a:=vs) rfl ?_)))
 rw[AZ (decide_eq_true (by omega)),TS]
theorem R6(h1:f lc σ=some (.lst vs,σ))(hz:vs.length<=100000):Cc f none (some (CE (cE (.int 1)))) lc σ=some (.lst vs.dropLast,σ):=by
 refine As h1 (As (a:=(none,σ)) rfl (As (a:=(some (-1),σ)) rfl (As (a:=vs) rfl ?_)))
 rw[AZ (decide_eq_true (by omega)),TU]
theorem O5(ps:List (Str×Str))(a:Str×Str):ps.drop (ps.length-1)=[a]↔ps.getLast?=some a:=by
 rcases List.eq_nil_or_concat ps with rfl|⟨qs,b,rfl⟩
 . simp
 . rw[List.concat_eq_append,List.getLast?_concat,List.length_append,List.length_singleton,Nat.add_sub_cancel,List.drop_left' rfl]
   simp
theorem LP(h:E1 B σ vs ps)(hr:σ[r]?=some (.list (CW Ap)))(H:Fits Ap ini ps):BQ [.lst [.loc r,.lst vs,.int ini]] σ=some (.loc r,(σ++[Dd (if ps.getLast?=some ((" " : Str),("" : Str)) then ps.dropLast else ps)]).set r (.list (CW (AM Ap ini ps)))):=by
 have hl:=h.len
 have hp:=H.p
 have hrl:=H.r
 have WO:=H.i0
 have mH:=(List.getElem?_eq_some_iff.mp hr).1
 have el:AE (if ps.getLast?=some ((" " : Str),("" : Str)) then ps.dropLast else ps)=AE (BK ps):=by
  unfold BK
  by_cases h0:ps=[]
  . subst h0;rfl
  . rw[if_neg h0]
 generalize WX:(if ps.getLast?=some ((" " : Str),("" : Str)) then ps.dropLast else ps)=cut at el ⊢
 have JF:Ag cut<=Ag ps:=by
  rw[<- WX]
  split
  . exact EH ps
  . exact Int.le_refl _
 have hcn:cut.length<=ps.length:=by
  rw[<- WX]
  split
  . rw[List.length_dropLast];omega
  . exact Nat.le_refl _
 have vW:accFits cut=true:=Nv (by omega) (by have:=H.l;omega)
 have jn:((AE (BK ps)).length:Int)<=Ag ps:=by rw[<- el,CF];exact JF
 have rB:=H.l
 have ht:=H.t
 suffices hW:WF BQ [.lst [.loc r,.lst vs,.int ini]] σ λv σ'=>v=.loc r/\σ'=(σ++[Dd cut]).set r (.list (CW (AM Ap ini ps))) by
  obtain⟨v,σ',e,rfl,rfl⟩:=hW
  exact e
 refine aD rfl ?_
 show WS F9 [some (.lst [.loc r,.lst vs,.int ini]),none,none,none,none] σ _
 unfold F9
 refine BH (lc':=[some (.lst [.loc r,.lst vs,.int ini]),some (.loc r),some (.lst vs),some (.int ini),none]) (σ':=σ) rfl ?_
 generalize Gd:[some (AV.lst [.loc r,.lst vs,.int ini]),some (AV.loc r),some (AV.lst vs),some (AV.int ini),none]=lc
 have n2:nE 2 lc σ=some (.lst vs,σ):=by rw[<- Gd];rfl
 have e1:=aK n2 (by omega)
 have c1:=aI (h.drop (ps.length-1)) (B:=B) (qs:=[((" " : Str),("" : Str))]) (ws:=[.lst [.str " ",.str ""]]) (.cons (.lst (" ", "")) .nil) (by rw[<- hl];exact e1) (g:=Br [(Br [(cE (.str " ")),(cE (.str ""))])]) rfl
 have ei:∃ ws,E1 B σ ws cut/\Vp (AL .Eq (Cc (nE 2) (some (CE (cE (.int 1)))) none) (Br [(Br [(cE (.str " ")),(cE (.str ""))])])) (Cc (nE 2) none (some (CE (cE (.int 1))))) (nE 2) lc σ=some (.lst ws,σ):=by
  by_cases hL:ps.getLast?=some ((" " : Str),("" : Str))
  . rw[if_pos hL] at WX
    rw[decide_eq_true ((O5 _ _).mpr hL)] at c1
    refine⟨vs.dropLast,?_,aJ c1 (λuu=>R6 n2 (by omega)) λe=>tf e⟩
    rw[<- WX,List.dropLast_eq_take,List.dropLast_eq_take,hl]
    exact h.take _
  . rw[if_neg hL] at WX
    rw[decide_eq_false (λq=>hL ((O5 _ _).mp q))] at c1
    exact⟨vs,WX▸h,aJ c1 (λe=>ft e) λuu=>n2⟩
 (refine Am (ei) λws fb ei=>?_)
 have et:=G4 fb vW (by omega)
 rw[el] at et
 have e4:Av Bm [(Vp (AL .Eq (Cc (nE 2) (some (CE (cE (.int 1)))) none) (Br [(Br [(cE (.str " ")),(cE (.str ""))])])) (Cc (nE 2) none (some (CE (cE (.int 1))))) (nE 2))] lc σ=some (.str (AE (BK ps)),σ++[Dd cut]):=As (Dr ei) et
 rw[WW WO]
 generalize AE (BK ps)=Li at e4 jn ⊢
 refine Cw (we e4 ⟨[some (.lst [.loc r,.lst vs,.int ini]),some (.loc r),some (.lst vs),some (.int ini),some (.str Li)],by rw[<- Gd];rfl,?_⟩)
 clear Gd n2 e1 c1 ei e4 et
 generalize Gd:[some (AV.lst [.loc r,.lst vs,.int ini]),some (AV.loc r),some (AV.lst vs),some (AV.int ini),some (AV.str Li)]=lc
 have eY:(σ++[Dd cut])[r]?=some (.list (CW Ap)):=Ks (n:=0) hr
 generalize Rf:σ++[Dd cut]=EZ at eY
 have n1:nE 1 lc EZ=some (.loc r,EZ):=by rw[<- Gd];rfl
 have n3:nE 3 lc EZ=some (.int ini,EZ):=by rw[<- Gd];rfl
 have n4:nE 4 lc EZ=some (.str Li,EZ):=by rw[<- Gd];rfl
 have c1:=Kh n3 (g:=cE (.int 0)) (j:=0) rfl
 have c2:AL .NotEq (mE 1 Ke (nE 4) []) (cE (.str "")) lc EZ=some (decide (Txt.strip Li ≠ ""),EZ):=Ia (mS n4 (es:=[]) rfl (As (a:=.str Li) rfl (As (a:=Li) rfl (AZ (decide_eq_true (by omega)))))) rfl
 have c3:AL .NotEq (nE 4) (cE (.str "")) lc EZ=some (decide (Li ≠ ""),EZ):=Ia n4 rfl
 have c4:AL .Eq (nE 1) (Br []) lc EZ=some (decide (Ap=[]),EZ):=TZ (ys:=[]) n1 eY rfl
 have c5:Hw [(AL .NotEq (nE 4) (cE (.str ""))),(AL .Eq (nE 1) (Br []))] lc EZ=some (decide (Li ≠ "" /\ Ap=[]),EZ):=by
  by_cases hr:Li = ""
  . rw[fS (by rw[c3,decide_eq_false (by simp -iota [hr])]),decide_eq_false (by simp -iota [hr])]
  . rw[fR (by rw[c3,decide_eq_true hr]) (and_1 c4)]
    simp -iota [hr]
 have c6:Vo [(AL .Gt (nE 3) (cE (.int 0))),(AL .NotEq (mE 1 Ke (nE 4) []) (cE (.str ""))),(Hw [(AL .NotEq (nE 4) (cE (.str ""))),(AL .Eq (nE 1) (Br []))])] lc EZ=some (decide (0<ini\/Txt.strip Li ≠ "" \/ (Li ≠ "" /\ Ap=[])),EZ):=by
  by_cases k1:0<ini
  . rw[jd (by rw[c1,decide_eq_true k1]),decide_eq_true (.inl k1)]
  . by_cases k2:Txt.strip Li ≠ ""
    . rw[ab (by rw[c1,decide_eq_false k1]) (jd (by rw[c2,decide_eq_true k2])),decide_eq_true (.inr (.inl k2))]
    . rw[ab (by rw[c1,decide_eq_false k1]) (ab (by rw[c2,decide_eq_false k2]) (je c5))]
      simp -iota [k1,k2]
 unfold Qk
 by_cases h:0<ini\/Txt.strip Li ≠ "" \/ (Li ≠ "" /\ Ap=[])
 . rw[decide_eq_true h] at c6
   rw[if_pos h]
   refine DD (wt c6 (Iw (we (Lh n1 eY n4 eY (by simp;omega)) (Ho (we (v:=.loc r) (by rw[<- Gd];rfl) ⟨rfl,?_⟩)))))
   rw[CW,CW,List.map_append];rfl
 . rw[decide_eq_false h] at c6
   rw[if_neg h]
   by_cases aL:Li ≠ ""
   . rw[decide_eq_true aL] at c3
     rw[if_pos aL]
     have Gj:Ap≠[]:=λe=>h (.inr (.inr ⟨aL,e⟩))
     have e5:=WU n1 eY n4 Gj (by omega) (by unfold Bo;omega)
     refine DD (wt c6 (DD (wt c3 (BH e5 (Ho (we (v:=.loc r) (by rw[<- Gd];rfl) ⟨rfl,rfl⟩))))))
   . rw[decide_eq_false aL] at c3
     rw[if_neg aL]
     refine DD (wt c6 (DD (wt c3 (Ho (we (v:=.loc r) (by rw[<- Gd];rfl) ⟨rfl,(T1 eY).symm⟩)))))
noncomputable def Mb(b c:Str×Str)(ch:Nat):Bool:=Km b.2 ch||FA c.1 ch
theorem WY(x:Str)(ch:Nat):(Txt.slice x (some (-1)) none==(⟨#[ch]⟩:Str))=Km x ch:=by
 have key:∀ xs:List Nat,(Txt.slice (BG xs) (some (-1)) none==(⟨#[ch]⟩:Str))=Km (BG xs) ch:=by
  intro xs
  rcases List.eq_nil_or_concat xs with rfl|⟨ys,c,rfl⟩
  . have:Txt.slice (BG []) (some (-1)) none=BG []:=rfl
    rw[this]
    have h1:(BG []==(⟨#[ch]⟩:Str))=false:=by
     rw[beq_eq_false_iff_ne];intro e;have:=congrArg (λz:Str=>z.cps.toList) e;cases this
    rw[h1];rfl
  . rw[List.concat_eq_append]
    have hl:(BG (ys++[c])).length=ys.length+1:=by rw[G3];simp
    have e:Txt.slice (BG (ys++[c])) (some (-1)) none=Txt.slice (BG (ys++[c])) (some ((ys.length:Nat):Int)) none:=by
     unfold Txt.slice
     rw[PySem.StrLaws.sliceIdx_neg_lo _ _ (by decide) (by rw[hl];omega),show(-1+((BG (ys++[c])).length:Int))=((ys.length:Nat):Int) by rw[hl];omega]
    rw[e,NF,NC,List.drop_left' rfl]
    have h2:Km (BG (ys++[c])) ch=(c==ch):=by
     unfold Km
     have hs:(BG (ys++[c])).cps.size=ys.length+1:=hl
     rw[hs,Nat.add_sub_cancel,<- Array.getElem?_toList,NC,List.getElem?_append_right (Nat.le_refl _),Nat.sub_self]
     rfl
    rw[h2]
    exact Qd c ch
 have:=key x.cps.toList
 rwa [R0] at this
theorem T2(x:Str)(ch:Nat):(Txt.slice x none (some 1)==(⟨#[ch]⟩:Str))=FA x ch:=by
 have e:=ND x 1
 rw[show((1:Nat):Int)=1 from rfl] at e
 rw[e]
 unfold FA
 rw[<- Array.getElem?_toList]
 cases h:x.cps.toList with
 |nil =>
  have h1:(BG (([]:List Nat).take 1)==(⟨#[ch]⟩:Str))=false:=by
   rw[beq_eq_false_iff_ne];intro e;have:=congrArg (λz:Str=>z.cps.toList) e;cases this
  rw[h1];rfl
 |cons c r=>exact(Qd c ch).trans rfl
section
variable{vb vc:AV}{b c:Str×Str}
theorem O2.aget0(h:O2 B σ v p):HT σ v 0=some (.str p.1):=by
 cases h with
 |lst=>rw[Nu,if_pos (by decide)];rfl
 |loc p h hl=>rw[Dc (Cq h),if_pos (by decide)];rfl
theorem O2.aget1(h:O2 B σ v p):HT σ v 1=some (.str p.2):=by
 cases h with
 |lst=>rw[Nu,if_pos (by decide)];rfl
 |loc p h hl=>rw[Dc (Cq h),if_pos (by decide)];rfl
noncomputable def Kt(cs:List Nat)(q:Nat->Bool):Nat:=cs.findIdx q
set_option tactic.hygienic true
theorem WZ(hb:O2 B σ vb b)(hc:O2 B σ vc c)(hz:sp.length<=1000)(rk:b.2.length<=1000000)(rC:c.1.length<=1000000):Fd [vb,vc,.str sp] σ=some (.int (Kt sp.cps.toList (Mb b c):Nat),σ):=by
 have hl:sp.cps.toList.length=sp.length:=EW sp
 let I2:Option AV->Lc:=λk=>[some vb,some vc,some (.str sp),k]
 have iL:∀ i,(h:i<sp.cps.toList.length)->CS (I2 (some (.int (i:Int)))) σ=if Mb b c sp.cps.toList[i] then some (.ret (.int (i:Int)),I2 (some (.int (i:Int))),σ) else some (.next,I2 (some (.int (i:Int))),σ):=by
  intro i hi
  have s0:A0 (nE 2) (nE 3) (I2 (some (.int (i:Int)))) σ=some (.str ⟨#[sp.cps.toList[i]]⟩,σ):=sign_of (x:=sp) rfl rfl (List.getElem?_eq_getElem hi) (by omega)
  have b1:A0 (nE 0) (cE (.int 1)) (I2 (some (.int (i:Int)))) σ=some (.str b.2,σ):=Ec rfl rfl hb.aget1
  have c1:A0 (nE 1) (cE (.int 0)) (I2 (some (.int (i:Int)))) σ=some (.str c.1,σ):=Ec rfl rfl hc.aget0
  have s1:=Kq (lo:=some (CE (cE (.int 1)))) (hi:=none) (p:=some (-1)) (q:=none) b1 rfl rfl rk
  have s2:=Kq (lo:=none) (hi:=some (cE (.int 1))) (p:=none) (q:=some 1) c1 rfl rfl rC
  have e:dF (A0 (nE 2) (nE 3)) (IG [(EF (A0 (nE 0) (cE (.int 1))) (some (CE (cE (.int 1)))) none),(EF (A0 (nE 1) (cE (.int 0))) none (some (cE (.int 1))))]) (I2 (some (.int (i:Int)))) σ=some (Mb b c sp.cps.toList[i],σ):=by
   refine As s0 (As (ES (Ee s1 s2) (by show 2<=_;decide)) (As (a:=_) rfl (As (a:=_) rfl ((Fp (a:=[Txt.slice b.2 (some (-1)) none,Txt.slice c.1 none (some 1)]) rfl).trans ?_))))
   rw[List.any_cons,List.any_cons,List.any_nil,WY,T2,Bool.or_false]
   rfl
  unfold CS
  cases hh:Mb b c sp.cps.toList[i] with
  |true=>rw[hh] at e;exact(Dz (Gy e)).trans rfl
  |false=>rw[hh] at e;exact(Dz (Hn e)).trans rfl
 have loop:∀ (n i fuel:Nat) (k:Option AV),n+i=sp.cps.toList.length->n<fuel->(∀ j,(h:j<i)->(h':j<sp.cps.toList.length)->Mb b c sp.cps.toList[j]=false) ->
  ∃ lc',(CM (IU 0 (sp.length:Int) 1) (λlc y=>putL lc 3 y) CS (Ah []) fuel i (I2 k) σ=some (.ret (.int (Kt sp.cps.toList (Mb b c):Nat)),lc',σ)) \/
   (CM (IU 0 (sp.length:Int) 1) (λlc y=>putL lc 3 y) CS (Ah []) fuel i (I2 k) σ=some (.next,lc',σ)/\Kt sp.cps.toList (Mb b c)=sp.length/\∃ k',lc'=I2 k'):=by
  intro n
  induction n with
  |zero =>
   intro i fuel k hi hf hj
   obtain⟨fu,rfl⟩:∃ fu,fuel=fu+1:=⟨fuel-1,by omega⟩
   refine⟨I2 k,.inr ⟨?_,?_,k,rfl⟩⟩
   . rw[show i=sp.length by omega,FK Qj];rfl
   . rw[<- hl]
     exact List.findIdx_eq_length.mpr λx hx=>by
      obtain⟨j,nQ,rfl⟩:=List.mem_iff_getElem.mp hx
      exact hj j (by omega) nQ
  |succ n ih =>
   intro i fuel k hi hf hj
   obtain⟨fu,rfl⟩:∃ fu,fuel=fu+1:=⟨fuel-1,by omega⟩
   have DK:i<sp.cps.toList.length:=by omega
   have e:=iL i DK
   cases hh:Mb b c sp.cps.toList[i] with
   |true =>
    rw[hh,if_pos rfl] at e
    have er:Kt sp.cps.toList (Mb b c)=i:=by
     unfold Kt
     rw[List.findIdx_eq DK]
     exact⟨hh,λj rD=>by have:=hj j rD (by omega);simp -iota only[Array.getElem_toList] at this;simp -iota [this]⟩
    rw[er]
    exact⟨_,.inl (Ir (TY (by omega)) rfl e)⟩
   |false =>
    rw[hh,if_neg Bool.false_ne_true] at e
    obtain⟨lc',h⟩:=ih (i+1) fu (some (.int (i:Int))) (by omega) (by omega) (λj rD h'=>by
     rcases Nat.lt_or_eq_of_le (Nat.le_of_lt_succ rD) with q|q
     . exact hj j q h'
     . subst q;exact hh)
    have e2:=Ir (O:=Ah []) (n:=fu) (lc:=I2 k) (st:=λlc y=>putL lc 3 y) (TY (σ:=σ) (show i<sp.length by omega)) rfl e
    refine⟨lc',h.imp (λh=>e2.trans h) λh=>⟨e2.trans h.1,h.2⟩⟩
 have ln:∀ k,Av (BW AD) [(nE 2)] (I2 k) σ=some (.int (sp.length:Int),σ):=λk=>Qg (x:=sp) rfl (by omega)
 (refine CJ (loop sp.cps.toList.length 0 1000000 none (by omega) (by omega) (λj h=>absurd h (Nat.not_lt_zero _))) λlc' h=>?_)
 rcases h with h|⟨h,hr,k',rfl⟩
 . refine C3 (lc':=lc') rfl ?_
   unfold Hp
   show Ah _ (I2 none) σ=_
   exact BR (It (Dr (ln none)) (a:=0) (b:=(sp.length:Int)) (c:=1) rfl (dT (by omega)) h)
 . refine C3 (lc':=I2 k') rfl ?_
   unfold Hp
   show Ah _ (I2 none) σ=_
   rw[Al (It (Dr (ln none)) (a:=0) (b:=(sp.length:Int)) (c:=1) rfl (dT (by omega)) h),hr]
   exact BR (Fp (ln k'))
end
theorem Vc(a:Int×Int):Xj a a=false:=by unfold Xj;simp
theorem W0{a b c:Int×Int}(h1:Xj a b=true)(h2:Xj b c=true):Xj a c=true:=by
 unfold Xj at *
 simp -iota only[Bool.or_eq_true,Bool.and_eq_true,decide_eq_true_eq,beq_iff_eq] at *
 exact h1.elim (λh=>h2.elim (λk=>.inl (Int.lt_trans h k)) λk=>.inl (k.1▸h)) λh=>h2.elim (λk=>.inl (h.1.symm▸k)) λk=>.inr ⟨h.1.trans k.1,Int.lt_trans h.2 k.2⟩
theorem Ku(ps:List (Int×Int)):∀ k,argBest (Si ps) k<=k/\∀ j,j<=k->Si ps j (argBest (Si ps) k)=false
 | 0=>⟨Nat.le_refl _,λj hj=>by obtain rfl:=Nat.le_zero.mp hj;exact Vc _⟩
 |k+1=>by
  (refine AS (Ku ps k) λh1 h2=>?_)
  unfold argBest
  cases hb:Si ps (k+1) (argBest (Si ps) k) with
  |true =>
   rw[if_pos rfl]
   refine⟨Nat.le_refl _,λj hj=>?_⟩
   rcases Nat.lt_or_eq_of_le hj with q|q
   . refine Bool.eq_false_iff.mpr λz=>?_
     have:=h2 j (by omega)
     rw[show Si ps j (argBest (Si ps) k)=true from W0 z hb] at this
     cases this
   . subst q;exact Vc _
  |false =>
   rw[if_neg Bool.false_ne_true]
   refine⟨by right,λj hj=>?_⟩
   rcases Nat.lt_or_eq_of_le hj with q|q
   . exact h2 j (by omega)
   . subst q;exact hb
theorem W2{ps:List (Int×Int)}(h:ps≠[]):∃ q,ps[argBest (Si ps) (ps.length-1)]?=some q/\q∈ps/\∀ q'∈ps,Xj q' q=false:=by
 have hp:=List.length_pos_iff.mpr h
 (refine AS (Ku ps (ps.length-1)) λh1 h2=>?_)
 have DK:argBest (Si ps) (ps.length-1)<ps.length:=Nat.lt_of_le_of_lt h1 (Nat.sub_lt hp Nat.one_pos)
 refine⟨ps[argBest (Si ps) (ps.length-1)],List.getElem?_eq_getElem DK,List.getElem_mem DK,λq' hq=>?_⟩
 obtain⟨j,hj,rfl⟩:=List.mem_iff_getElem.mp hq
 have:=h2 j (Nat.le_sub_one_of_lt hj)
 have gd:∀ {i:Nat} (h:i<ps.length),ps.getD i (0,0)=ps[i]:=λh=>by rw[List.getD,List.getElem?_eq_getElem h];rfl
 rw[Si,gd hj,gd DK] at this
 exact this
theorem NK:∀ {k i:Nat},DZ ps c k=some i->0<i/\i<=k/\Gs ps c i=true/\∀ j,i<j->j<=k->Gs ps c j=false
 | 0,i,h=>ns h
 |k+1,i,h=>by
  unfold DZ at h
  by_cases hh:Gs ps c (k+1)=true
  . rw[if_pos hh] at h
    cases h
    exact⟨Nat.succ_pos _,Nat.le_refl _,hh,λj h1 h2=>by omega⟩
  . rw[if_neg hh] at h
    (refine Hv (NK h) λa b d e=>?_)
    exact⟨a,by right,d,λj h1 h2=>by
     rcases Nat.lt_or_eq_of_le h2 with q|q
     . exact e j h1 (by omega)
     . subst q;simpa using hh⟩
theorem JA:∀ {k:Nat},DZ ps c k=none->∀ j,0<j->j<=k->Gs ps c j=false
 | 0,_,j,h1,h2=>by omega
 |k+1,h,j,h1,h2=>by
  unfold DZ at h
  by_cases hh:Gs ps c (k+1)=true
  . rw[if_pos hh] at h;cases h
  . rw[if_neg hh] at h
    rcases Nat.lt_or_eq_of_le h2 with q|q
    . exact JA h j h1 (by omega)
    . subst q;simpa using hh
noncomputable def NL(ps:List (Str×Str))(cs:List Nat)(i:Nat):Nat:=Kt cs λc=>Gs ps c i
theorem Kv{r:List Nat}:NL ps (c::r) i=if Gs ps c i then 0 else NL ps r i+1:=by
 unfold NL Kt
 rw[List.findIdx_cons]
 cases Gs ps c i<;>rfl
theorem O6:∀ {cs:List Nat} {i:Nat},seek ps cs=some i->0<i/\i<=ps.length-1/\NL ps cs i<cs.length/\∀ j,0<j->j<=ps.length-1->NL ps cs i<=NL ps cs j/\(NL ps cs i=NL ps cs j->j<=i)
 | [],i,h=>ns h
 |c::r,i,h=>by
  unfold seek at h
  cases hs:DZ ps c (ps.length-1) with
  |some i' =>
   rw[hs] at h
   cases h
   (refine Hv (NK hs) λa b d e=>?_)
   have e0:NL ps (c::r) i=0:=by rw[Kv,if_pos d]
   refine⟨a,b,by rw[e0];exact Nat.succ_pos _,λj h1 h2=>⟨by rw[e0];exact Nat.zero_le _,λq=>?_⟩⟩
   rw[e0,Kv] at q
   refine Nat.le_of_not_lt λz=>?_
   rw[e j z h2,if_neg Bool.false_ne_true] at q
   omega
  |none =>
   rw[hs] at h
   have hn:=JA hs
   (refine Hv (O6 (cs:=r) h) λa b d e=>?_)
   have ek:∀ j,0<j->j<=ps.length-1->NL ps (c::r) j=NL ps r j+1:=λj h1 h2=>by rw[Kv,hn j h1 h2,if_neg Bool.false_ne_true]
   refine⟨a,b,by rw[ek i a b,List.length_cons];right,λj h1 h2=>?_⟩
   rw[ek i a b,ek j h1 h2]
   have:=e j h1 h2
   omega
theorem O7:∀ {cs:List Nat},seek ps cs=none->∀ j,0<j->j<=ps.length-1->NL ps cs j=cs.length
 | [],_,_,_,_=>rfl
 |c::r,h,j,h1,h2=>by
  unfold seek at h
  cases hs:DZ ps c (ps.length-1) with
  |some i'=>rw[hs] at h;cases h
  |none =>
   rw[hs] at h
   rw[Kv,JA hs j h1 h2,if_neg Bool.false_ne_true,O7 h j h1 h2];rfl
noncomputable abbrev Xk(ps:List (Str×Str))(cs:List Nat):List (Int×Int):=(List.range (ps.length-1)).map (λ(i:Nat)=>((NL ps cs (i+1):Int),-((i:Int)+1)))
noncomputable def EK(ps:List (Str×Str))(cs:List Nat):List (Int×Int):=Xk ps cs++[((cs.length:Int),1)]
theorem place_spec(ps:List (Str×Str))(cs:List Nat):∃ q,(EK ps cs)[argBest (Si (EK ps cs)) ((EK ps cs).length-1)]?=some q/\match seek ps cs with
 |some i=>q.1<cs.length/\q.2=-(i:Int)
 |none=>q.1=cs.length:=by
 (refine Ci (W2 (ps:=EK ps cs) (by unfold EK;simp)) λq e hm hb=>?_)
 refine⟨q,e,?_⟩
 have hq:q=((cs.length:Int),1)\/∃ i,i<ps.length-1/\q=((NL ps cs (i+1):Int),-((i:Int)+1)):=by
  unfold EK at hm
  rcases List.mem_append.mp hm with hm|hm
  . (refine Am (List.mem_map.mp hm) λi hi FP=>?_;subst FP)
    exact .inr ⟨i,List.mem_range.mp hi,rfl⟩
  . exact .inl (List.mem_singleton.mp hm)
 cases hs:seek ps cs with
 |none =>
  have hn:=O7 hs
  rcases hq with rfl|⟨i,hi,rfl⟩
  . rfl
  . show((NL ps cs (i+1):Nat):Int)=_
    rw[hn (i+1) (Nat.succ_pos _) (by omega)]
 |some i =>
  (refine Hv (O6 hs) λh1 h2 h3 h4=>?_)
  have jR:((NL ps cs i:Int),-(i:Int))∈EK ps cs:=by
   unfold EK
   refine List.mem_append_left _ (List.mem_map.mpr ⟨i-1,List.mem_range.mpr (by omega),?_⟩)
   rw[show i-1+1=i by omega,show((i-1:Nat):Int)+1=(i:Int) by omega]
  have mI:=hb _ jR
  unfold Xj at mI
  simp -iota only[Bool.or_eq_false_iff,Bool.and_eq_false_iff,decide_eq_false_iff_not,beq_eq_false_iff_ne] at mI
  rcases hq with rfl|⟨j,hj,rfl⟩
  . exact absurd (by omega:((NL ps cs i:Nat):Int)<cs.length) mI.1
  . have h5:=h4 (j+1) (Nat.succ_pos _) (by omega)
    have e1:NL ps cs i=NL ps cs (j+1):=by have:=mI.1;simp -iota only at this;omega
    have h6:=h5.2 e1
    have h7:i<=j+1:=by
     rcases mI.2 with z|z
     . exact absurd (by simp -iota [e1]) z
     . simp -iota only at z;omega
    have:i=j+1:=by omega
    subst this
    exact⟨by show((NL ps cs (j+1):Nat):Int)<_;omega,by show -((j:Int)+1)=-((j+1:Nat):Int);omega⟩
noncomputable def jo(ps:List (Str×Str)):Prop:=∀ p∈ps,∀ c∈p.1.cps.toList,c=32\/c=9
theorem jq(hb:jo ps)(hk:k+1<ps.length)(c:Nat):Mb (ps.getD k ("", "")) (ps.getD (k+1) ("", "")) c=Gs ps c (k+1):=by
 have g1:ps[k+1]?=some (ps.getD (k+1) ("", "")):=by simp -iota [hk]
 have g0:ps[k]?=some (ps.getD k ("", "")):=by simp -iota [show k<ps.length by right]
 unfold Gs H9 Kn Mb
 rw[Nat.add_sub_cancel,g0,g1]
 show _=((_&&FA (ps.getD (k+1) ("", "")).1 c)||Km (ps.getD k ("", "")).2 c)
 cases hs:FA (ps.getD (k+1) ("", "")).1 c with
 |false=>simp
 |true =>
  have hm:c∈(ps.getD (k+1) ("", "")).1.cps.toList:=by
   unfold FA at hs
   rw[beq_iff_eq] at hs
   rw[Array.mem_toList_iff]
   exact Array.mem_of_getElem? hs
  have:Txt.isspace ⟨#[c]⟩=true:=by rcases hb _ (List.mem_of_getElem? g1) c hm with rfl|rfl<;>decide +kernel
  rw[this]
  cases Km (ps.getD k ("", "")).2 c<;>rfl
theorem aM{xs ys:List α}:(xs++ys)[xs.length+j]?=ys[j]?:=by
 rw[List.getElem?_append_right (Nat.le_add_right _ _),Nat.add_sub_cancel_left]
theorem LQ:∀ (ps:List (Int×Int)),pairsOf (ps.map ER)=some ps
 | []=>rfl
 |p::ps=>by rw[List.map_cons,pairsOf,LQ ps];rfl
theorem aN(h1:f lc σ=some (.lst vs,σ))(h2:g lc σ=some (.int (i:Int),σ))(hz:vs.length<=100000):Cc f none (some g) lc σ=some (.lst (vs.take i),σ):=NB h1 h2 (by omega)
theorem aO(h1:f lc σ=some (.lst vs,σ))(h2:g lc σ=some (.int (i:Int),σ))(hz:vs.length<=100000):Cc f (some g) none lc σ=some (.lst (vs.drop i),σ):=by
 refine As h1 (As (a:=(some (i:Int),σ)) (As h2 (Fp rfl)) (As (a:=(none,σ)) rfl (As (a:=vs) rfl ?_)))
 rw[AZ (decide_eq_true (by omega)),Nw]
theorem aP{j:Int}(h:f lc σ=some (.int j,σ)):CE f lc σ=some (.int (-j),σ):=As h (Fp rfl)
noncomputable abbrev DU(σ:St)(sp:Str)(vs:List AV)(L:Nat)(δ:St):St:=σ++AO.cell (L+1+0) (some (.str sp))::AO.cell (L+1+1) (some (.lst vs))::δ
noncomputable abbrev Fh(qs:List (Int×Int)):AO:=.list (qs.map ER)
section
variable{W:Int}{f:Str}
theorem mJ:BA (L+1+0) (σ.length+0) lc (DU σ sp vs L δ)=some (.str sp,DU σ sp vs L δ):=cell_eq aM
theorem fZ:BA (L+1+1) (σ.length+1) lc (DU σ sp vs L δ)=some (.lst vs,DU σ sp vs L δ):=cell_eq aM
theorem Kw:Bt [] σ (DU σ sp vs L δ):=.app _
theorem dZ(hr:r<σ.length):Nh 2 σ.length ((DU σ sp vs L δ).set r o)=some ((σ++AO.ext 0 []::AO.ext 0 []::δ).set r o):=by
 have hl:(σ.set r o).length=σ.length:=List.length_set ..
 rw[List.set_append_left _ _ hr,List.set_append_left _ _ hr,<- hl]
 refine As (HW mC) (As (HW (c:=L+1+1) (x:=some (.lst vs)) ?_) ?_)
 . rw[mD];exact WV
 . rw[mD,jm];rfl
theorem W3(h:E1 B σ vs ps)(hb:jo ps)(h1:1<=ps.length)(hn:ps.length<=10000)(hz:sp.length<=1000)(hs:∀ p∈ps,p.1.length<=1000000/\p.2.length<=1000000) :
 EG (Ry [(cE (.int 1)),(Av (BW AD) [(BA (L+1+1) (σ.length+1))])]) 1 id (λlc y=>putL lc 0 y) Fo (IG [(Av Fd [(A0 (BA (L+1+1) (σ.length+1)) (AN .Sub (nE 0) (cE (.int 1)))),(A0 (BA (L+1+1) (σ.length+1)) (nE 0)),(BA (L+1+0) (σ.length+0))]),(CE (nE 0))]) lc (DU σ sp vs L δ) =
  some (.loc (DU σ sp vs L δ).length,DU σ sp vs L δ++[Fh (Xk ps sp.cps.toList)]):=by
 have hl:=h.len
 have Yi:Builtin.Range.rangeSize 1 (vs.length:Int) 1=((ps.length-1:Nat):Int):=by
  rw[hl];unfold Builtin.Range.rangeSize;simp;omega
 have mK:Dm 1 (vs.length:Int) 1=true:=by
  have f:∀ k:Int,-100000<=k->k<=100000->Builtin.Range.rangeFitsLong k=true:=λk h1 h2=>by
   unfold Builtin.Range.rangeFitsLong
   rw[Bool.and_eq_true,decide_eq_true_eq,decide_eq_true_eq]
   constructor<;>omega
  unfold Dm Builtin.Range.small
  rw[Yi,f (vs.length:Int) (by right) (by omega),f ((ps.length-1:Nat):Int) (by right) (by omega)]
  have e:(if (1:Int) > 0 then Builtin.Range.rangeFitsLong ((vs.length:Int)+(1-1)) else Builtin.Range.rangeFitsLong ((vs.length:Int)+(1+1)))=true:=by
   rw[if_pos (by decide),f _ (by right) (by omega)]
  try rw[e]
  try rw[f 1 (by decide) (by decide)]
  generalize (((ps.length-1:Nat):Int)==0)=z
  cases z<;>decide
 have ll:Av (BW AD) [(BA (L+1+1) (σ.length+1))] lc (DU σ sp vs L δ)=some (.int (vs.length:Int),DU σ sp vs L δ):=As (Dr fZ) (RJ.trans (AZ (decide_eq_true (by omega))))
 have e0:Ry [(cE (.int 1)),(Av (BW AD) [(BA (L+1+1) (σ.length+1))])] lc (DU σ sp vs L δ)=some (IU 1 (vs.length:Int) 1,DU σ sp vs L δ):=dW (r:=(1,(vs.length:Int),1)) (Ee (a:=.int 1) rfl ll) rfl mK
 have nx:∀ (τ:St) (i:Nat),i<ps.length-1->IU 1 (vs.length:Int) 1 τ i=some (some (.int ((i+1:Nat):Int))):=λτ i hi=>by
  unfold IU
  rw[Yi,AZ (decide_eq_true (by omega)),show(1:Int)+1*(i:Int)=((i+1:Nat):Int) by omega]
 have nf:∀ τ:St,IU 1 (vs.length:Int) 1 τ (ps.length-1)=some none:=λτ=>by
  unfold IU
  rw[Yi]
  simp -iota [gd]
 have gp:∀ i,i<ps.length->ps[i]?=some (ps.getD i ("", "")):=λi hi=>by simp -iota [hi]
 have:=Gv (n:=ps.length-1) (tn:=id) (st:=λlc y=>putL lc 0 y) (t:=Fo) (k:=1) (f:=IG [(Av Fd [(A0 (BA (L+1+1) (σ.length+1)) (AN .Sub (nE 0) (cE (.int 1)))),(A0 (BA (L+1+1) (σ.length+1)) (nE 0)),(BA (L+1+0) (σ.length+0))]),(CE (nE 0))])
  (x:=λi=>.int ((i+1:Nat):Int)) (l:=λi=>[some (.int ((i+1:Nat):Int))]) (b:=λuu=>true) (v:=λi=>ER ((NL ps sp.cps.toList (i+1):Int),-((i:Int)+1))) e0
  ⟨λi hi acc=>nx _ i hi,λacc=>nf _,λi hi=>mB,λi hi=>rfl,λi hi acc=>rfl,λi hi uu acc=>?_⟩ (by omega)
 . refine this.trans ?_
   rw[List.filter_eq_self.mpr (λuu uu=>rfl)]
   unfold Fh
   rw[List.map_map]
   rfl
 . have ef:DU σ sp vs L δ++[AO.list acc]=DU σ sp vs L (δ++[.list acc]):=by rw[List.append_assoc];rfl
   rw[ef]
   generalize i8:DU σ sp vs L (δ++[AO.list acc])=τ
   have hS:Bt [] σ τ:=i8▸Kw
   (refine Am (h.at (gp i (by omega))) λva vX ca=>?_)
   (refine Am (h.at (gp (i+1) (by omega))) λvb vY cb=>?_)
   have ca:=ca.keep hS eJ
   have cb:=cb.keep hS eJ
   have k1:BA (L+1+1) (σ.length+1) [some (.int ((i+1:Nat):Int))] τ=some (.lst vs,τ):=by rw[<- i8];exact fZ
   have k0:BA (L+1+0) (σ.length+0) [some (.int ((i+1:Nat):Int))] τ=some (.str sp,τ):=by rw[<- i8];exact mJ
   have ia:A0 (BA (L+1+1) (σ.length+1)) (AN .Sub (nE 0) (cE (.int 1))) [some (.int ((i+1:Nat):Int))] τ=some (va,τ):=E0 k1 (Ju (i:=((i+1:Nat):Int)) (j:=1) rfl rfl) (k:=i) (by omega) vX (by omega)
   have ib:A0 (BA (L+1+1) (σ.length+1)) (nE 0) [some (.int ((i+1:Nat):Int))] τ=some (vb,τ):=E0 k1 (i:=((i+1:Nat):Int)) rfl rfl vY (by omega)
   have er:=WZ (sp:=sp) ca cb hz (hs _ (List.mem_of_getElem? (gp i (by omega)))).2 (hs _ (List.mem_of_getElem? (gp (i+1) (by omega)))).1
   have ek:Kt sp.cps.toList (Mb (ps.getD i ("", "")) (ps.getD (i+1) ("", "")))=NL ps sp.cps.toList (i+1):=by
    unfold NL Kt
    exact congrArg (λq=>List.findIdx q sp.cps.toList) (funext λc=>jq hb (by omega) c)
   rw[ek] at er
   have en:CE (nE 0) [some (.int ((i+1:Nat):Int))] τ=some (.int (-((i:Int)+1)),τ):=by
    rw[aP (f:=nE 0) (j:=((i+1:Nat):Int)) rfl,show -((i+1:Nat):Int)=-((i:Int)+1) by omega]
   exact ES (Ee (As (BD ia (Ee ib k0)) er) en) (by show 2<=_;decide)
end
section
variable{W:Int}{f:Str}
noncomputable abbrev jr(st v:AV)(W:Int)(a3 a4 a5 a6 a7:Option AV):Lc:=[some st,some v,some (.int W),a3,a4,a5,a6,a7]
noncomputable abbrev NS(r:Nat)(vs:List AV)(ini:Int)(v:AV)(W:Int)(a b c:Option AV):Lc:=jr (.lst [.loc r,.lst vs,.int ini]) v W (some (.loc r)) (some (.int ini)) a b c
theorem js{B:SM}{x:Fl}(h:WS B lc σ λfl _ σ'=>fl=x/\σ'=τ):∃ lc',B lc σ=some (x,lc',τ):=by
 obtain⟨fl,lc',σ',e,h1,h2⟩:=h
 exact⟨lc',by rw[e,h1,h2]⟩
set_option tactic.hygienic true
theorem T3(h:E1 B σ vs ps)(hv:O2 B σ v (f,s))(hr:σ[r]?=some (.list (CW Ap)))(tZ:r<B)(H:Fits Ap ini (ps++[(f,s)]))(hb:jo (ps++[(f,s)]))(hz:sp.length<=1000)(hn:ps.length<=9000) :
 ∃ CL δ,CH [.lst [.loc r,.lst vs,.int ini],v,.int W,.str sp] σ=some (.lst [.loc r,.lst CL,.int (Eg W sp Ap ini ps f s).2.1],(σ++δ).set r (.list (CW (Eg W sp Ap ini ps f s).1)))/\E1 B ((σ++δ).set r (.list (CW (Eg W sp Ap ini ps f s).1))) CL (Eg W sp Ap ini ps f s).2.2:=by
 have mH:=(List.getElem?_eq_some_iff.mp hr).1
 have h':E1 B σ (vs++[v]) (ps++[(f,s)]):=h.app (.cons hv .nil)
 have KH:=h'.len
 have Fg:=H.acc
 have jS:=H.i0
 have H0:=H.init
 have vZ:(ps++[(f,s)]).length=ps.length+1:=by simp
 have X8:=Bu (ps++[(f,s)])
 have hpl2:=H.l
 have jX:=(O3 Fg).2
 generalize mL:ps++[(f,s)]=CI at *
 generalize jt:vs++[v]=CL at *
 have tJ:CL.length=vs.length+1:=by rw[<- jt];simp
 -- what is left for Um caller
 have fin:∀ (Mo:List AV) (rest:St) (q:List Str×Int×List (Str×Str)),E1 B σ Mo q.2.2->(∀ L,WS (D4 L σ.length) (jr (.lst [.loc r,.lst vs,.int ini]) v W none none none none none) (σ++[.cell (L+1+0) (some (.str sp)),.cell (L+1+1) none]) λfl _ σ'=>fl=.ret (.lst [.loc r,.lst Mo,.int q.2.1])/\σ'=(DU σ sp CL L rest).set r (.list (CW q.1))) ->
  ∃ CL δ,CH [.lst [.loc r,.lst vs,.int ini],v,.int W,.str sp] σ=some (.lst [.loc r,.lst CL,.int q.2.1],(σ++δ).set r (.list (CW q.1)))/\E1 B ((σ++δ).set r (.list (CW q.1))) CL q.2.2:=by
  intro Mo rest q hc hw
  refine(B6 Mo (AO.ext 0 []::AO.ext 0 []::rest) ⟨?_,hc.keep (X:=[r]) ((Bt.app _).trans (.set (by simp))) (by simpa using tZ)⟩)
  unfold CH runC Zv
  refine(if_pos rfl).trans (Zu λL=>?_)
  refine CJ (js (hw L)) λlc' e=>?_
  refine As (a:=(AV.lst [.loc r,.lst Mo,.int q.2.1],(DU σ sp CL L rest).set r (.list (CW q.1)))) (As e rfl) ?_
  have e5:=dZ (L:=L) (vs:=CL) (sp:=sp) (δ:=rest) (o:=AO.list (CW q.1)) mH
  exact(congrArg (Option.map _) e5).trans rfl
 -- up to Um first question
 have pre:∀ L (Q:Fl->Lc->St->Prop),(ini+Ag CI<=W->Q (.ret (.lst [.loc r,.lst CL,.int ini])) (NS r vs ini v W none none none) (DU σ sp CL L [Dd CI])) ->
  (¬ ini+Ag CI<=W->WS (Ah [tS L σ.length,tT L σ.length,rq L σ.length,rr L σ.length,rt L σ.length]) (NS r vs ini v W none none none) (DU σ sp CL L [Dd CI]) Q) ->
  WS (D4 L σ.length) (jr (.lst [.loc r,.lst vs,.int ini]) v W none none none none none) (σ++[.cell (L+1+0) (some (.str sp)),.cell (L+1+1) none]) Q:=by
  intro L Q k1 k2
  unfold D4
  have e1:tQ L σ.length (jr (.lst [.loc r,.lst vs,.int ini]) v W none none none none none) (σ++[.cell (L+1+0) (some (.str sp)),.cell (L+1+1) none])=some (.next,NS r vs ini v W none none none,DU σ sp vs L []):=by
   refine As (a:=(AV.lst [.loc r,.lst vs,.int ini],_)) rfl (As (a:=[.loc r,.lst vs,.int ini]) rfl (Fp (a:=(NS r vs ini v W none none none,DU σ sp vs L [])) ?_))
   refine As (a:=(jr (.lst [.loc r,.lst vs,.int ini]) v W (some (.loc r)) none none none none,σ++[.cell (L+1+0) (some (.str sp)),.cell (L+1+1) none])) rfl (As (a:=(jr (.lst [.loc r,.lst vs,.int ini]) v W (some (.loc r)) none none none none,DU σ sp vs L [])) ?_ rfl)
   refine Fp (As (HW (c:=L+1+1) (x:=none) WV) ((AZ (beq_self_eq_true _)).trans ?_))
   rw[jm]
  refine BH e1 ?_
  have e2:tR L σ.length (NS r vs ini v W none none none) (DU σ sp vs L [])=some (.next,NS r vs ini v W none none none,DU σ sp CL L []):=by
   have ea:=Kp (lc:=NS r vs ini v W none none none) (σ:=DU σ sp vs L []) (f:=BA (L+1+1) (σ.length+1)) (g:=Br [(nE 1)]) (a:=.lst vs) (b:=.lst [v]) (xs:=vs) (ys:=[v]) fZ (Ca (xs:=[v]) rfl (by show 1<=_;decide)) rfl rfl rfl rfl (by show _+1<=_;omega)
   rw[jt] at ea
   refine(dR ea (x:=some (.lst vs)) WV).trans ?_
   rw[jm]
  refine BH e2 ?_
  have ht:=G4 (h'.keep (σ':=DU σ sp CL L []) (X:=[]) Kw eJ) Fg (by omega)
  have ef:DU σ sp CL L []++[Dd CI]=DU σ sp CL L [Dd CI]:=by rw[List.append_assoc];rfl
  rw[ef] at ht
  have jn:=CF CI
  have e3:AN .Add (nE 4) (Av (BW AD) [(Av Bm [(BA (L+1+1) (σ.length+1))])]) (NS r vs ini v W none none none) (DU σ sp CL L [])=some (.int (ini+Ag CI),DU σ sp CL L [Dd CI]):=by
   refine As (a:=(AV.int ini,_)) rfl (As (a:=(AV.int (AE CI).length,DU σ sp CL L [Dd CI])) (As (Dr (As (Dr fZ) ht)) (Kf.trans (AZ (decide_eq_true (by omega))))) ?_)
   rw[jn];rfl
  have c1:AL .LtE (AN .Add (nE 4) (Av (BW AD) [(Av Bm [(BA (L+1+1) (σ.length+1))])])) (nE 2) (NS r vs ini v W none none none) (DU σ sp CL L [])=some (decide (ini+Ag CI<=W),DU σ sp CL L [Dd CI]) :=
   As e3 (As (a:=(AV.int W,_)) rfl rfl)
  by_cases GL:ini+Ag CI<=W
  . rw[decide_eq_true GL] at c1
    refine DD (wt c1 (Ho (we (v:=.lst [.loc r,.lst CL,.int ini]) (Ca (BD (a:=.loc r) rfl (Ee fZ (b:=.int ini) rfl)) (by show 3<=_;decide)) (k1 GL))))
  . rw[decide_eq_false GL] at c1
    exact DD (wt c1 (k2 GL))
 have mM:∀ L rest,(DU σ sp CL L rest)[r]?=some (.list (CW Ap)):=λL rest=>Ks (n:=0) hr
 unfold Eg
 rw[mL]
 by_cases GL:ini+Ag CI<=W
 . rw[if_neg (by omega)]
   refine fin CL [Dd CI] (Ap,ini,CI) h' λL=>pre L _ (λuu=>⟨rfl,(T1 (mM L _)).symm⟩) λhn=>absurd GL hn
 . rw[if_pos (by omega)]
   (refine Am (place_spec CI sp.cps.toList) λq hq X8=>?_)
   -- Um places
   have mid:∀ L (Q:Fl->Lc->St->Prop),WS (Ah [rq L σ.length,rr L σ.length,rt L σ.length]) (NS r vs ini v W (some (.loc (DU σ sp CL L [Dd CI]).length)) (some (.int q.1)) (some (.int q.2))) (DU σ sp CL L [Dd CI,Fh (Xk CI sp.cps.toList)]) Q ->
    WS (D4 L σ.length) (jr (.lst [.loc r,.lst vs,.int ini]) v W none none none none none) (σ++[.cell (L+1+0) (some (.str sp)),.cell (L+1+1) none]) Q:=by
    intro L Q k
    refine pre L Q (λe=>absurd e GL) λuu=>?_
    have ep:=W3 (L:=L) (sp:=sp) (δ:=[Dd CI]) (lc:=NS r vs ini v W none none none) h' hb (by omega) (by omega) hz (λp hp=>by have:=jX p hp;omega)
    refine Cw (we ep ⟨NS r vs ini v W (some (.loc (DU σ sp CL L [Dd CI]).length)) none none,rfl,?_⟩)
    have ef:∀ o,DU σ sp CL L [Dd CI]++[o]=DU σ sp CL L [Dd CI,o]:=λo=>by rw[List.append_assoc];rfl
    have Vd:(DU σ sp CL L [Dd CI]++[Fh (Xk CI sp.cps.toList)])[(DU σ sp CL L [Dd CI]).length]?=_:=DH
    rw[ef] at Vd ⊢
    generalize oF:Xk CI sp.cps.toList=PO at Vd k ⊢
    have v5:EK CI sp.cps.toList=PO++[((sp.cps.toList.length:Int),1)]:=by unfold EK;rw[oF]
    generalize i8:DU σ sp CL L [Dd CI,Fh PO]=τ at Vd k ⊢
    have k0:∀ lc,BA (L+1+0) (σ.length+0) lc τ=some (.str sp,τ):=λlc=>by rw[<- i8];exact mJ
    have hPn:PO.length<=10000:=by rw[<- oF];simp;omega
    have el:∀ lc,Av (BW AD) [(BA (L+1+0) (σ.length+0))] lc τ=some (.int (sp.length:Int),τ):=λlc=>Qg (k0 lc) (by omega)
    have ea:=Kp (lc:=NS r vs ini v W (some (.loc (DU σ sp CL L [Dd CI]).length)) none none) (σ:=τ) (f:=nE 5) (g:=Br [(IG [(Av (BW AD) [(BA (L+1+0) (σ.length+0))]),(cE (.int 1))])]) (a:=.loc (DU σ sp CL L [Dd CI]).length) (b:=.lst [ER ((sp.length:Int),1)]) (xs:=PO.map ER) (ys:=[ER ((sp.length:Int),1)]) rfl
     (Ca (Dr (ES (Ee (el _) (b:=.int 1) rfl) (by show 2<=_;decide))) (by show 1<=_;decide)) (AY Vd) rfl rfl rfl (by simp;omega)
    have em:Av UW [(AN .Add (nE 5) (Br [(IG [(Av (BW AD) [(BA (L+1+0) (σ.length+0))]),(cE (.int 1))])]))] (NS r vs ini v W (some (.loc (DU σ sp CL L [Dd CI]).length)) none none) τ=some (ER q,τ):=by
     have e6:PO.map ER++[ER ((sp.length:Int),1)]=(EK CI sp.cps.toList).map ER:=by rw[v5,List.map_append,EW];rfl
     rw[e6] at ea
     exact As (Dr ea) (As (a:=_) rfl (As (a:=_) rfl (As (LQ _) (Fp hq))))
    exact BH (lc':=NS r vs ini v W (some (.loc (DU σ sp CL L [Dd CI]).length)) (some (.int q.1)) (some (.int q.2))) (σ':=τ) (As em (As (a:=[.int q.1,.int q.2]) rfl rfl)) k
   have c6:∀ L τ a5,BA (L+1+0) (σ.length+0) (NS r vs ini v W a5 (some (.int q.1)) (some (.int q.2))) τ=some (.str sp,τ)->AL .Lt (nE 6) (Av (BW AD) [(BA (L+1+0) (σ.length+0))]) (NS r vs ini v W a5 (some (.int q.1)) (some (.int q.2))) τ=some (decide (q.1<(sp.length:Int)),τ):=λL τ a5 e=>NG rfl (Qg e (by omega))
   rw[EW] at X8
   cases hs:seek CI sp.cps.toList with
   |some i =>
    rw[hs] at X8
    (refine AS (X8) λt5 v7=>?_;clear X8)
    have nZ:=Qe hs
    refine fin (CL.drop i) [Dd CI,Fh (Xk CI sp.cps.toList),Dd (CI.take i)] (Ap++[AE (CI.take i)],0,CI.drop i) (h'.drop i) λL=>mid L _ ?_
    generalize oF:Fh (Xk CI sp.cps.toList)=PO
    have e6:=c6 L (DU σ sp CL L [Dd CI,PO]) (some (.loc (DU σ sp CL L [Dd CI]).length)) mJ
    rw[decide_eq_true t5] at e6
    refine DD (wt e6 ?_)
    have en:∀ τ,CE (nE 7) (NS r vs ini v W (some (.loc (DU σ sp CL L [Dd CI]).length)) (some (.int q.1)) (some (.int q.2))) τ=some (.int (i:Int),τ):=λτ=>by
     rw[aP (f:=nE 7) (j:=q.2) rfl,v7,Int.neg_neg]
    have ht:=G4 ((h'.take i).keep (σ':=DU σ sp CL L [Dd CI,PO]) (X:=[]) Kw eJ) (H.take i).acc (by rw[List.length_take];omega)
    have et:Av Bm [(Cc (BA (L+1+1) (σ.length+1)) none (some (CE (nE 7))))] (NS r vs ini v W (some (.loc (DU σ sp CL L [Dd CI]).length)) (some (.int q.1)) (some (.int q.2))) (DU σ sp CL L [Dd CI,PO])=_:=As (Dr (aN fZ (en _) (by omega))) ht
    have ef:DU σ sp CL L [Dd CI,PO]++[Dd (CI.take i)]=DU σ sp CL L [Dd CI,PO,Dd (CI.take i)]:=by rw[List.append_assoc];rfl
    rw[ef] at et
    have rE:=Lh (f:=nE 3) (lc:=NS r vs ini v W (some (.loc (DU σ sp CL L [Dd CI]).length)) (some (.int q.1)) (some (.int q.2))) rfl (mM L [Dd CI,PO]) et (mM L _) (by have:=H.r;simp;omega)
    refine Iw (we rE ?_)
    have k1:∀ lc,BA (L+1+1) (σ.length+1) lc ((DU σ sp CL L [Dd CI,PO,Dd (CI.take i)]).set r (.list (CW Ap++[.str (AE (CI.take i))])))=some (.lst CL,_):=λlc=>cell_eq (by rw[List.getElem?_set_ne (by omega)];exact WV)
    refine Ho (we (v:=.lst [.loc r,.lst (CL.drop i),.int 0]) (Ca (BD (a:=.loc r) rfl (Ee (aO (k1 _) (en _) (by omega)) (b:=.int 0) rfl)) (by show 3<=_;decide)) ⟨rfl,?_⟩)
    show _=List.set (α:=AO) _ r (.list (CW (Ap++[AE (CI.take i)])))
    rw[CW,CW,List.map_append]
    rfl
   |none =>
    rw[hs] at X8
    have t5:q.1=(sp.length:Int):=X8
    by_cases hi:0<ini
    . rw[if_pos hi]
      refine fin [.lst [.str (if f.length=0 then " " else f),.str s]] [Dd CI,Fh (Xk CI sp.cps.toList),Dd (if ps.getLast?=some ((" " : Str),("" : Str)) then ps.dropLast else ps)] (AM Ap ini ps,0,[(if f.length=0 then " " else f,s)]) (.cons (.lst (if f.length=0 then " " else f,s)) .nil) λL=>mid L _ ?_
      generalize oF:Fh (Xk CI sp.cps.toList)=PO
      have e6:=c6 L (DU σ sp CL L [Dd CI,PO]) (some (.loc (DU σ sp CL L [Dd CI]).length)) mJ
      rw[decide_eq_false (by omega)] at e6
      refine DD (wt e6 ?_)
      generalize Gd:NS r vs ini v W (some (.loc (DU σ sp CL L [Dd CI]).length)) (some (.int q.1)) (some (.int q.2))=lc
      have n1:∀ τ,nE 1 lc τ=some (v,τ):=λτ=>by rw[<- Gd];rfl
      have n3:∀ τ,nE 3 lc τ=some (.loc r,τ):=λτ=>by rw[<- Gd];rfl
      have n4:∀ τ,nE 4 lc τ=some (.int ini,τ):=λτ=>by rw[<- Gd];rfl
      have cg:=Kh (n4 (DU σ sp CL L [Dd CI,PO])) (g:=cE (.int 0)) (j:=0) rfl
      rw[decide_eq_true hi] at cg
      refine DD (wt cg ?_)
      have v8:CL.dropLast=vs:=by rw[<- jt,List.dropLast_concat]
      have v9:=LP (h.keep (σ':=DU σ sp CL L [Dd CI,PO]) (X:=[]) Kw eJ) (mM L [Dd CI,PO]) H0
      have es:=R6 (fZ (L:=L) (σ:=σ) (sp:=sp) (vs:=CL) (δ:=[Dd CI,PO]) (lc:=lc)) (by omega)
      rw[v8] at es
      have ec:Av BQ [(Br [(nE 3),(Cc (BA (L+1+1) (σ.length+1)) none (some (CE (cE (.int 1))))),(nE 4)])] lc (DU σ sp CL L [Dd CI,PO])=_:=As (Dr (Ca (BD (n3 _) (Ee es (n4 _))) (by show 3<=_;decide))) v9
      have ef:∀ o,DU σ sp CL L [Dd CI,PO]++[o]=DU σ sp CL L [Dd CI,PO,o]:=λo=>by rw[List.append_assoc];rfl
      rw[ef] at ec
      have QO:=hv.keep (X:=[r]) (((Kw (L:=L) (sp:=sp) (vs:=CL) (δ:=[Dd CI,PO,Dd (if ps.getLast?=some ((" " : Str),("" : Str)) then ps.dropLast else ps)])).more (by simp)).trans (.set (k:=r) (o:=.list (CW (AM Ap ini ps))) (by simp))) (by simpa using tZ)
      generalize (DU σ sp CL L [Dd CI,PO,Dd (if ps.getLast?=some ((" " : Str),("" : Str)) then ps.dropLast else ps)]).set r (.list (CW (AM Ap ini ps)))=τ at ec QO ⊢
      have i0:A0 (nE 1) (cE (.int 0)) lc τ=some (.str f,τ):=Ec (n1 τ) rfl QO.aget0
      have i1:A0 (nE 1) (cE (.int 1)) lc τ=some (.str s,τ):=Ec (n1 τ) rfl QO.aget1
      have Tx:=(jX (f,s) (by rw[<- mL];simp))
      have io:km (A0 (nE 1) (cE (.int 0))) (cE (.str " ")) lc τ=some (.str (if f.length=0 then " " else f),τ):=by
       refine As i0 (As (a:=((f.length:Int) != 0)) (Hm.trans (AZ (decide_eq_true (by rw[sizeLine_eq];have:f.length+s.length<=1000000:=Tx;omega)))) ?_)
       by_cases h0:f.length=0
       . rw[if_pos h0,h0];rfl
       . rw[if_neg h0,if_pos (by simpa using h0)]
      exact Ho (we (v:=.lst [.loc r,.lst [.lst [.str (if f.length=0 then " " else f),.str s]],.int 0]) (Ca (BD ec (Ee (Ca (Dr (Ca (Ee io i1) (by show 2<=_;decide))) (by show 1<=_;decide)) (b:=.int 0) rfl)) (by show 3<=_;decide)) ⟨rfl,rfl⟩)
    . rw[if_neg hi]
      refine fin CL [Dd CI,Fh (Xk CI sp.cps.toList)] (Ap,ini,CI) h' λL=>mid L _ ?_
      have e6:=c6 L _ (some (.loc (DU σ sp CL L [Dd CI]).length)) (mJ (L:=L) (σ:=σ) (sp:=sp) (vs:=CL) (δ:=[Dd CI,Fh (Xk CI sp.cps.toList)]))
      rw[decide_eq_false (by omega)] at e6
      have cg:=Kh (f:=nE 4) (g:=cE (.int 0)) (i:=ini) (j:=0) (lc:=NS r vs ini v W (some (.loc (DU σ sp CL L [Dd CI]).length)) (some (.int q.1)) (some (.int q.2))) (σ:=DU σ sp CL L [Dd CI,Fh (Xk CI sp.cps.toList)]) rfl rfl
      rw[decide_eq_false hi] at cg
      refine DD (wt e6 (DD (wt cg (Ho (we (v:=.lst [.loc r,.lst CL,.int ini]) (Ca (BD (a:=.loc r) rfl (Ee fZ (b:=.int ini) rfl)) (by show 3<=_;decide)) ⟨rfl,(T1 (mM L _)).symm⟩)))))
end
noncomputable abbrev sgn(c:Nat):Str:=⟨#[c]⟩
noncomputable abbrev j5:=List (Str×Str)×(Str×Str)
noncomputable def NM(w:j5)(c:Nat):j5 :=
 if c=32\/c=9 then (if w.2.2 ≠ "" then (w.1++[w.2],("" ++ sgn c, "")) else (w.1,(w.2.1++sgn c,w.2.2))) else (w.1,(w.2.1,w.2.2++sgn c))
noncomputable def Fi(cs:List Nat):j5:=cs.foldl NM ([],("", ""))
noncomputable def Fj(x:Str):List (Str×Str):=((Fi x.cps.toList).1++[(Fi x.cps.toList).2]).filter λp=>decide (p≠((("" : Str),("" : Str))))
structure WI (n:Nat) (σ τ:St) (ms:List Nat) (q:Nat) (w:j5):Prop where
 S:Bt [] σ τ
 hn:n=σ.length
 lst:τ[n+1]?=some (.list ((ms++[q]).map AV.loc))
 mN:E1 n τ (ms.map AV.loc) w.1
 last:τ[q]?=some (.list [.str w.2.1,.str w.2.2])
 lt:∀ m∈ms,m<q
 ne:q≠n+1/\n<=q/\n+1∉ms
variable{a b c ch f k ls m t:Option AV}{ahead fws text:Str}{cv far head near:Int}{fs:List EM}{ms xs y:List Nat}{q size:Nat}{r:AV×St}{st:Ko}{u:AV}{ys:List AV}
theorem E1.De{j6:St}(h:E1 n τ (ms.map AV.loc) ps)(k:∀ m∈ms,j6[m]?=τ[m]?):E1 n j6 (ms.map AV.loc) ps:=by
 induction ms generalizing ps with
 |nil=>cases h;exact .nil
 |cons m ms ih =>
  cases h with
  |cons a b =>
   refine .cons ?_ (ih b λm hm=>k m (List.mem_cons_of_mem _ hm))
   cases a with
   |loc _ h hl=>exact .loc _ (by rw[k m List.mem_cons_self];exact h) hl
section
variable{w:j5}{c:Nat}
noncomputable abbrev Ve(x:Str)(n:Nat)(s:Option AV):Lc:=[some (.str x),some (.loc (n+1)),s]
set_option tactic.hygienic true
theorem mO(I:WI n σ τ ms q w)(hb:w.2.1.length+w.2.2.length<=1000)(hm:ms.length<=1000):∃ j6 oH q',Dp (Ve x n (some (CR c))) τ=some (.next,Ve x n (some (CR c)),j6)/\WI n σ j6 oH q' (NM w c)/\oH.length<=ms.length+1:=by
 obtain⟨S,hn,lst,mN,last,lt,ne1,ne2,ne3⟩:=I
 obtain⟨ds,f,p⟩:=w
 have mP:=(List.getElem?_eq_some_iff.mp last).1
 have eO:=(List.getElem?_eq_some_iff.mp lst).1
 -- Um last chunk
 have il:∀ (τ:St) (ms:List Nat) (q:Nat),ms.length<=1002->τ[n+1]?=some (.list ((ms++[q]).map AV.loc))->A0 (nE 1) (CE (cE (.int 1))) (Ve x n (some (CR c))) τ=some (.loc q,τ):=λτ ms q hz h=>by
  refine Ec (i:=-1) (a:=.loc (n+1)) rfl rfl ?_
  rw[Dc (Cq h),if_pos (by decide),show seqIndex? (-1) ((ms++[q]).map AV.loc).length=some ms.length by rw[GJ (by simp)];simp]
  simp
 have c1:AL .In (nE 2) (cE (.str " \t")) (Ve x n (some (CR c))) τ=some (decide (c=32\/c=9),τ):=by
  rw[in_of (x := " \t") (y:=sgn c) rfl rfl,Qh,show(" \t" : Str).cps.toList=[32,9] from by decide]
  simp
 have i2:A0 (A0 (nE 1) (CE (cE (.int 1)))) (cE (.int 1)) (Ve x n (some (CR c))) τ=some (.str p,τ):=Ec (il τ ms q (by right) lst) rfl (by rw[Dc (Cq last),if_pos (by decide)];rfl)
 have c2:=Ia i2 (g:=cE (.str "")) (y := "") rfl
 have keep:∀ {o:AO},E1 n (τ.set q o) (ms.map AV.loc) ds:=λ{o}=>mN.De λm hm=>by rw[List.getElem?_set_ne (by have:=lt m hm;omega)]
 have f9:∀ {o:AO},(τ.set q o)[n+1]?=some (.list ((ms++[q]).map AV.loc)):=λ{o}=>by rw[List.getElem?_set_ne ne1];exact lst
 have gb:∀ {o:AO},Bt [] σ (τ.set q o):=λ{o}=>⟨by rw[List.length_set];exact S.1,λj hj hl=>by rw[List.getElem?_set_ne (by omega)];exact S.2 j hj hl⟩
 unfold Dp NM
 by_cases hc:c=32\/c=9
 . rw[decide_eq_true hc] at c1
   rw[if_pos hc]
   by_cases hp:p ≠ ""
   . -- a chunk of sM own
     rw[decide_eq_true hp] at c2
     rw[if_pos hp]
     have e1:=Lh (f:=nE 1) (g:=FN [(cE (.str "")),(cE (.str ""))]) (lc:=Ve x n (some (CR c))) (v:=.loc τ.length) (σ':=τ++[.list [.str "",.str ""]]) rfl lst (Ib (xs:=[.str "",.str ""]) rfl (by show 2<=_;decide)) (Ks (n:=0) lst) (by simp;omega)
     have ex:(ms++[q]).map AV.loc++[AV.loc τ.length]=(ms++[q]++[τ.length]).map AV.loc:=by simp
     rw[ex] at e1
     generalize d0:(τ++[AO.list [.str "",.str ""]]).set (n+1) (.list ((ms++[q]++[τ.length]).map AV.loc))=j7 at e1
     have g1:j7[n+1]?=some (.list ((ms++[q]++[τ.length]).map AV.loc)):=by rw[<- d0,List.getElem?_set_self (by simp;omega)]
     have g2:j7[τ.length]?=some (.list [.str "",.str ""]):=by rw[<- d0,List.getElem?_set_ne (by omega)];exact DH
     have g3:∀ m,m<τ.length->m≠n+1->j7[m]?=τ[m]?:=λm h1 h2=>by rw[<- d0,List.getElem?_set_ne (Ne.symm h2),List.getElem?_append_left h1]
     have s7:j7.length=τ.length+1:=by rw[<- d0];simp
     have e2:=Lf (op:=.Add) (g:=A0 (nE 1) (CE (cE (.int 1)))) (ix:=cE (.int 0)) (f:=nE 2) (lc:=Ve x n (some (CR c))) (σ:=j7) (l:=τ.length) (i:=0) (a:=.str "") (b:=.str (sgn c)) (v:=.str ("" ++ sgn c)) (il j7 (ms++[q]) τ.length (by simp;omega) g1) rfl (by rw[Dc (Cq g2),if_pos (by decide)];rfl) rfl (H7.trans (AZ (decide_eq_true (by show 0+1<=_;decide)))) (FX g2 (by decide) (k:=0) rfl (by show 0<2;decide))
     refine(EY _ (ms++[q]) τ.length ⟨(Dz (Gy c1)).trans (Fc.trans ((Al ((Gy c2).trans ((Al (BP e1)).trans DR))).trans ((Al e2).trans DR))),⟨?_,hn,?_,?_,List.getElem?_set_self (by omega),?_,?_,?_,?_⟩,by simp⟩)
     . exact⟨by rw[List.length_set];have:=S.1;omega,λj hj hl=>by
        have:=S.1
        rw[List.getElem?_set_ne (by omega),g3 j (by omega) (by omega)];exact S.2 j hj hl⟩
     . rw[List.getElem?_set_ne (by omega)];exact g1
     . rw[List.map_append]
       refine E1.app ?_ (.cons (.loc (f,p) ?_ ne2) .nil)
       . refine mN.De λm hm=>?_
         have:=lt m hm
         rw[List.getElem?_set_ne (by omega),g3 m (by omega) (λz=>ne3 (z▸hm))]
       . rw[List.getElem?_set_ne (by omega),g3 q mP ne1];exact last
     . intro m hm
       rcases List.mem_append.mp hm with hm|hm
       . have:=lt m hm;omega
       . rw[List.mem_singleton.mp hm];exact mP
     . omega
     . have:=S.1;omega
     . intro hm
       rcases List.mem_append.mp hm with hm|hm
       . exact ne3 hm
       . exact ne1 (List.mem_singleton.mp hm).symm
   . -- a blank more
     rw[decide_eq_false hp] at c2
     rw[if_neg hp]
     have e2:=Lf (op:=.Add) (g:=A0 (nE 1) (CE (cE (.int 1)))) (ix:=cE (.int 0)) (f:=nE 2) (lc:=Ve x n (some (CR c))) (σ:=τ) (l:=q) (i:=0) (a:=.str f) (b:=.str (sgn c)) (v:=.str (f++sgn c)) (il τ ms q (by omega) lst) rfl (by rw[Dc (Cq last),if_pos (by decide)];rfl) rfl (H7.trans (AZ (decide_eq_true (by show f.length+1<=_;have:f.length+p.length<=1000:=hb;omega)))) (FX last (by decide) (k:=0) rfl (by show 0<2;decide))
     exact(EY _ ms q ⟨(Dz (Gy c1)).trans (Fc.trans ((Al ((Hn c2).trans DR)).trans ((Al e2).trans DR))),⟨gb,hn,f9,keep,List.getElem?_set_self mP,lt,ne1,ne2,ne3⟩,Nat.le_succ _⟩)
 . -- a sign
   rw[decide_eq_false hc] at c1
   rw[if_neg hc]
   have e2:=Lf (op:=.Add) (g:=A0 (nE 1) (CE (cE (.int 1)))) (ix:=cE (.int 1)) (f:=nE 2) (lc:=Ve x n (some (CR c))) (σ:=τ) (l:=q) (i:=1) (a:=.str p) (b:=.str (sgn c)) (v:=.str (p++sgn c)) (il τ ms q (by omega) lst) rfl (by rw[Dc (Cq last),if_pos (by decide)];rfl) rfl (H7.trans (AZ (decide_eq_true (by show p.length+1<=_;have:f.length+p.length<=1000:=hb;omega)))) (FX last (by decide) (k:=1) rfl (by show 1<2;decide))
   exact(EY _ ms q ⟨(Dz (Hn c1)).trans (Fc.trans ((Al e2).trans DR)),⟨gb,hn,f9,keep,List.getElem?_set_self mP,lt,ne1,ne2,ne3⟩,Nat.le_succ _⟩)
end
theorem W4(w:j5)(c:Nat):(NM w c).2.1.length+(NM w c).2.2.length<=w.2.1.length+w.2.2.length+1:=by
 unfold NM
 split
 . split
   . show(("" : Str)++sgn c).length+0<=_
     rw[CK];show 0+1+0<=_;exact Nat.le_add_left _ _
   . show(w.2.1++sgn c).length+w.2.2.length<=_
     rw[CK];show w.2.1.length+1+w.2.2.length<=_;omega
 . show w.2.1.length+(w.2.2++sgn c).length<=_
   rw[CK];show w.2.1.length+(w.2.2.length+1)<=_;right
theorem E1.filter(p:Nat×(Str×Str)->Bool):∀ {zs:List (Nat×(Str×Str))},E1 B τ (zs.map λz=>AV.loc z.1) (zs.map (·.2))->E1 B τ ((zs.filter p).map λz=>AV.loc z.1) ((zs.filter p).map (·.2))
 | [],h=>h
 |z::zs,h=>by
  cases h with
  |cons a b =>
   rw[List.filter_cons]
   split
   . exact .cons a (E1.filter p b)
   . exact E1.filter p b
set_option tactic.hygienic true
theorem T4(σ:St)(x:Str)(hz:x.length<=100):∃ q σ' vs,EJ [.str x] σ=some (.loc q,σ')/\σ'[q]?=some (.list vs)/\E1 σ.length σ' vs (Fj x)/\Bt [] σ σ'/\σ.length<=q:=by
 have t6:x.cps.toList.length=x.length:=EW x
 suffices hW:WF EJ [.str x] σ λv σ'=>∃ q vs,v=.loc q/\σ'[q]?=some (.list vs)/\E1 σ.length σ' vs (Fj x)/\Bt [] σ σ'/\σ.length<=q by
  obtain⟨v,σ',e,q,vs,rfl,r⟩:=hW
  exact⟨q,σ',vs,e,r⟩
 refine aD rfl ?_
 show WS GB [some (.str x),none,none] σ _
 unfold GB
 have e1:FN [(FN [(cE (.str "")),(cE (.str ""))])] [some (.str x),none,none] σ=some (.loc (σ.length+1),σ++[.list [.str "",.str ""],.list [.loc σ.length]]):=by
  have:=Ib (es:=[(FN [(cE (.str "")),(cE (.str ""))])]) (lc:=[some (.str x),none,none]) (σ:=σ) (xs:=[.loc σ.length]) (Dr (Ib (xs:=[.str "",.str ""]) rfl (by show 2<=_;decide))) (by show 1<=_;decide)
  rw[List.length_append,List.append_assoc] at this
  exact this
 refine Cw (we e1 ⟨Ve x σ.length none,rfl,?_⟩)
 let J:Nat->Lc->St->Prop:=λi lc τ=>(∃ s,lc=Ve x σ.length s)/\∃ ms q,WI σ.length σ τ ms q (Fi (x.cps.toList.take i))/\ms.length<=i/\(Fi (x.cps.toList.take i)).2.1.length+(Fi (x.cps.toList.take i)).2.2.length<=i
 have hN:∀ i lc τ,i<x.length->J i lc τ->∃ y lc₁,Q8 x τ i=some (some y)/\putL lc 2 y=some lc₁/\WS Dp lc₁ τ λfl CD σ₂=>(fl=.next\/fl=.cont)/\J (i+1) CD σ₂:=by
  intro i lc τ hi hJ
  obtain⟨⟨s,rfl⟩,ms,q,I,hm,hb⟩:=hJ
  have mQ:i<x.cps.toList.length:=by right
  have hx:x.cps[i]?=some x.cps.toList[i]:=by rw[<- Array.getElem?_toList,List.getElem?_eq_getElem mQ]
  refine⟨CR x.cps.toList[i],Ve x σ.length (some (CR x.cps.toList[i])),by unfold Q8;rw[hx];rfl,rfl,?_⟩
  (refine G7 (mO (x:=x) (c:=x.cps.toList[i]) I (by omega) (by omega)) λj6 oH q' e I' jU=>?_)
  have es:Fi (x.cps.toList.take (i+1))=NM (Fi (x.cps.toList.take i)) x.cps.toList[i]:=by
   unfold Fi
   rw[<- List.take_append_getElem mQ,List.foldl_append];rfl
  refine⟨_,_,_,e,.inl rfl,⟨_,rfl⟩,oH,q',es▸I',by omega,?_⟩
  rw[es]
  exact Nat.le_trans (W4 _ _) (by omega)
 have hE:∀ lc τ,J x.length lc τ->Q8 x τ x.length=some none:=λlc τ _=>by
  unfold Q8
  rw[<- Array.getElem?_toList,List.getElem?_eq_none (by right)];rfl
 have I0:WI σ.length σ (σ++[.list [.str "",.str ""],.list [.loc σ.length]]) [] σ.length (Fi []):=⟨.app _,rfl,WV,.nil,mC,λm h=>(nm h),by omega,Nat.le_refl _,List.not_mem_nil⟩
 obtain⟨lc',τ,e2,⟨s,rfl⟩,ms,q,I,hm,hb⟩:=GW (st:=λlc y=>putL lc 2 y) J hN hE x.length 0 1000000 (Ve x σ.length none) (σ++[.list [.str "",.str ""],.list [.loc σ.length]]) (by right) (by omega) ⟨⟨none,rfl⟩,[],σ.length,I0,Nat.le_refl _,Nat.le_refl _⟩
 refine BH ((UZ (f:=nE 0) rfl).trans e2) ?_
 rw[List.take_of_length_le (by omega)] at I
 have hq:Fj x=((Fi x.cps.toList).1++[(Fi x.cps.toList).2]).filter λp=>decide (p≠((("" : Str),("" : Str)))):=rfl
 rw[hq]
 generalize Fi x.cps.toList=w at I
 obtain⟨S,_,lst,mN,last,lt,ne1,ne2,ne3⟩:=I
 have gc:E1 σ.length τ ((ms++[q]).map AV.loc) (w.1++[w.2]):=by rw[List.map_append];exact mN.app (.cons (.loc w.2 last ne2) .nil)
 have Et:(ms++[q]).length=(w.1++[w.2]).length:=by have:=gc.len;rw[List.length_map] at this;exact this
 obtain⟨zs,t7,mR⟩:∃ zs:List (Nat×(Str×Str)),zs.map (·.1)=ms++[q]/\zs.map (·.2)=w.1++[w.2]:=⟨(ms++[q]).zip (w.1++[w.2]),List.map_fst_zip (by omega),List.map_snd_zip (by omega)⟩
 rw[<- t7] at gc lst
 rw[<- mR] at gc ⊢
 rw[List.map_map] at gc lst
 have hzn:zs.length<=200:=by have:=congrArg List.length t7;simp at this;omega
 have gz:∀ i,i<zs.length->zs[i]?=some (zs.getD i (0, "", "")):=λi hi=>by simp -iota [hi]
 have ha:∀ acc,Bq (τ++acc) (.loc (σ.length+1))=some (zs.map λz=>AV.loc z.1):=λacc=>by rw[Nr];exact AY (Ks (n:=0) lst)
 have Q:RZ τ (id (Qs (.loc (σ.length+1)))) (λlc y=>putL lc 0 y) (AL .NotEq (nE 0) (Br [(cE (.str "")),(cE (.str ""))])) (nE 0) 1 zs.length (λi=>.loc (zs.getD i (0, "", "")).1) (λi=>[some (.loc (zs.getD i (0, "", "")).1)]) (λi=>decide ((zs.getD i (0, "", "")).2≠((("" : Str),("" : Str))))) (λi=>.loc (zs.getD i (0, "", "")).1):=by
  refine⟨λi hi acc=>?_,λacc=>?_,λi hi=>mB,λuu uu=>rfl,λi hi acc=>?_,λi hi uu acc=>rfl⟩
  . show(Bq _ (.loc (σ.length+1))).map _=_
    rw[ha]
    show some ((zs.map λz=>AV.loc z.1)[i]?)=_
    rw[List.getElem?_map,gz i hi];rfl
  . show(Bq _ (.loc (σ.length+1))).map _=_
    rw[ha];simp
  . (refine Am (gc.at (show(zs.map (·.2))[i]?=some (zs.getD i (0, "", "")).2 by rw[List.getElem?_map,gz i hi];rfl)) λv hv cv=>?_)
    rw[List.getElem?_map,gz i hi] at hv
    obtain rfl:=Option.some.inj hv
    have cv:=cv.keep (σ':=τ++[.list acc]) (X:=[]) (.app _) eJ
    refine Cv (a:=.loc (zs.getD i (0, "", "")).1) (b:=.lst [.str "",.str ""]) rfl rfl ?_
    refine(congrArg (Option.map not) (Gu (cv.pd 2) ((O2.lst (B:=0) (("" : Str),("" : Str))).pd 2))).trans ?_
    show some (!PyData.eqv (Ma _) (Ma _))=_
    rw[aH]
    simp
 have ec:=Gv (tn:=id) (lc:=Ve x σ.length s) (src:=Wh (nE 1)) (U8 (f:=nE 1) (σ':=τ) (a:=.loc (σ.length+1)) (xs:=zs.map λz=>AV.loc z.1) rfl (by have:=ha [];rwa [List.append_nil] at this)) Q (by omega)
 rw[Ic zs (0, "", "") (λz=>decide (z.2≠((("" : Str),("" : Str))))) (λz=>AV.loc z.1)] at ec
 refine Ho (we ec ⟨_,_,rfl,DH,?_,S.trans (.app _),S.1⟩)
 have hf:=(gc.filter λz=>decide (z.2≠((("" : Str),("" : Str))))).keep (σ':=τ++[.list ((zs.filter λz=>decide (z.2≠((("" : Str),("" : Str))))).map λz=>AV.loc z.1)]) (X:=[]) (.app _) eJ
 rw[List.filter_map]
 exact hf
noncomputable def Fn(size:Nat):Nat->List Nat->List (List Nat)
 | 0,_=>[]
 |n+1,xs=>if xs=[] then [] else xs.take size::Fn size n (xs.drop size)
noncomputable def wd(xs:List Nat):Str:=BG (60::(xs++[62]))
set_option tactic.hygienic false
theorem JB:(wd xs).length=xs.length+2:=by unfold wd;rw[G3];simp
noncomputable abbrev LL:=List (Option (List Nat))
noncomputable def Vf:Option (List Nat)->AV
 |none=>.none
 |some y=>.str (wd y)
noncomputable def ju:Option (List Nat)->PyData
 |none=>.none
 |some y=>.str (wd y)
noncomputable abbrev AG(acc:LL):AO:=.list (acc.map Vf)
noncomputable def Hq(s:Int):Nat:=(if 1 > s then 1 else s).toNat
noncomputable def EX(near far:Int)(xs:List Nat):LL:=if xs=[] then [] else (if near<=2 then none else some (xs.take (near-2).toNat))::(Fn (Hq (far-2)) xs.length (xs.drop (near-2).toNat)).map some
noncomputable abbrev Lj(xs:List Nat)(near far:Int)(e:Nat)(s:Int):Lc:=[some (.str (BG xs)),some (.int near),some (.int far),some (.loc e),some (.int s)]
noncomputable abbrev Ql:SM:=Ah [Ff (Vo [(AL .Gt (nE 4) (cE (.int 0))),(AL .NotEq (nE 3) (Br []))]) (Ah [BZ 4 (Av Zk [(nE 4),(cE (.int 1))]),Bj (mE 2 Bv (nE 3) [(AN .Add (AN .Add (cE (.str "<")) (EF (nE 0) none (some (nE 4)))) (cE (.str ">")))]),BZ 0 (EF (nE 0) (some (nE 4)) none)]) (Ah [Bj (mE 2 Bv (nE 3) [(cE .none)])]),BZ 4 (AN .Sub (nE 2) (cE (.int 2)))]
noncomputable abbrev Qm:TM:=AL .NotEq (nE 0) (cE (.str ""))
theorem d4(y:Option (List Nat)):Dj σ n (Vf y)=some (ju y):=by
 cases y with
 |none=>exact OQ
 |some y=>exact C9
theorem O8:∀ ls:LL,Cb (Dj σ n) (ls.map Vf)=some (ls.map ju)
 | []=>rfl
 |x::ls=>by rw[List.map_cons,Cb,d4,O8 ls];rfl
section
variable{acc:LL}{s:Int}{f:EM}
theorem R7(h1:f lc σ=some (.loc l,σ))(hl:σ[l]?=some (AG acc)):AL .NotEq f (Br []) lc σ=some (decide (acc≠[]),σ):=Cv h1 (Ca rfl (by decide)) (by
 show(aeqv σ _ _).map not=_
 rw[Gu (x:=.list (acc.map ju)) (y:=.list []) (by rw[H6,AY hl,Option.bind_some,O8];rfl) rfl,PyData.eqv]
 cases acc with
 |nil=>rfl
 |cons a r=>rfl)
theorem Vg:BG xs ≠ "" ↔ xs≠[]:=⟨λh e=>h (by rw[e];rfl),λh e=>h (by have:=congrArg (λx:Str=>x.cps.toList) e;exact this)⟩
set_option tactic.hygienic true
theorem O9(h:0<s\/acc≠[])(hs:s<=100000)(hx:xs.length<=1000)(ha:acc.length<=1000) :
 Ql (Lj xs near far σ.length s) (σ++[AG acc])=some (.next,Lj (xs.drop (Hq s)) near far σ.length (far-2),σ++[AG (acc++[some (xs.take (Hq s))])]):=by
 have hl:(σ++[AG acc])[σ.length]?=some (AG acc):=DH
 have c1:AL .Gt (nE 4) (cE (.int 0)) (Lj xs near far σ.length s) (σ++[AG acc])=some (decide (0<s),σ++[AG acc]):=Kh rfl rfl
 have c2:=R7 (f:=nE 3) (lc:=Lj xs near far σ.length s) rfl hl
 have c3:Vo [(AL .Gt (nE 4) (cE (.int 0))),(AL .NotEq (nE 3) (Br []))] (Lj xs near far σ.length s) (σ++[AG acc])=some (true,σ++[AG acc]):=by
  by_cases h0:0<s
  . exact jd (by rw[c1,decide_eq_true h0])
  . refine ab (by rw[c1,decide_eq_false h0]) (je ?_)
    rw[c2,decide_eq_true (h.resolve_left h0)]
 have hk:((Hq s:Nat):Int)=if 1 > s then 1 else s:=by unfold Hq;split<;>omega
 refine(Dz (Gy c3)).trans (Fc.trans ?_)
 have e1:BZ 4 (Av Zk [(nE 4),(cE (.int 1))]) (Lj xs near far σ.length s) (σ++[AG acc])=some (.next,Lj xs near far σ.length (Hq s:Nat),σ++[AG acc]):=by
  rw[hk]
  exact Ed (lc:=Lj xs near far σ.length s) (v:=.int (if 1 > s then 1 else s)) (As (Ee (a:=AV.int s) (b:=.int 1) rfl rfl) rfl) (by show 4<5;decide)
 refine(Al e1).trans ?_
 have s1:EF (nE 0) none (some (nE 4)) (Lj xs near far σ.length (Hq s:Nat)) (σ++[AG acc])=some (.str (BG (xs.take (Hq s))),σ++[AG acc]):=by
  have:=Kq (f:=nE 0) (lo:=none) (hi:=some (nE 4)) (lc:=Lj xs near far σ.length (Hq s:Nat)) (σ:=σ++[AG acc]) (x:=BG xs) (p:=none) (q:=some ((Hq s:Nat):Int)) rfl rfl rfl (by rw[G3];omega)
  rw[ND] at this
  exact this
 have Et:(xs.take (Hq s)).length<=1000:=Nat.le_trans (List.length_take_le' ..) hx
 have k1:=La (f:=cE (.str "<")) (x := "<") (lc:=Lj xs near far σ.length (Hq s:Nat)) rfl s1 (by rw[G3];show 1+_<=_;omega)
 have k2:=La k1 (g:=cE (.str ">")) (y := ">") rfl (by rw[CK,G3];show 1+_+1<=_;omega)
 have ew:("<" : Str)++BG (xs.take (Hq s)) ++ ">" = wd (xs.take (Hq s)):=Iv (by rw[Kk,Kk];rfl)
 rw[ew] at k2
 have e3:=Lh (f:=nE 3) (lc:=Lj xs near far σ.length (Hq s:Nat)) rfl hl k2 hl (by rw[List.length_map];omega)
 rw[GZ] at e3
 have wa:mE 2 Bv (nE 3) [(AN .Add (AN .Add (cE (.str "<")) (EF (nE 0) none (some (nE 4)))) (cE (.str ">")))] (Lj xs near far σ.length (Hq s:Nat)) (σ++[AG acc])=some (.none,σ++[AG (acc++[some (xs.take (Hq s))])]):=by
  rw[e3];unfold AG;rw[List.map_append];rfl
 have s2:EF (nE 0) (some (nE 4)) none (Lj xs near far σ.length (Hq s:Nat)) (σ++[AG (acc++[some (xs.take (Hq s))])])=some (.str (BG (xs.drop (Hq s))),σ++[AG (acc++[some (xs.take (Hq s))])]):=by
  have:=Kq (f:=nE 0) (lo:=some (nE 4)) (hi:=none) (lc:=Lj xs near far σ.length (Hq s:Nat)) (σ:=σ++[AG (acc++[some (xs.take (Hq s))])]) (x:=BG xs) (p:=some ((Hq s:Nat):Int)) (q:=none) rfl rfl rfl (by rw[G3];omega)
  rw[NF] at this
  exact this
 refine(Al (BP wa)).trans ((Al (Ed s2 (by show 0<5;decide))).trans ((Al (Ed (v:=.int (far-2)) (As (a:=(AV.int far,_)) rfl (As (a:=(AV.int 2,_)) rfl rfl)) (by show 4<5;decide))).trans rfl))
theorem W5(h:s<=0) :
 Ql (Lj xs near far σ.length s) (σ++[AG []])=some (.next,Lj xs near far σ.length (far-2),σ++[AG [none]]):=by
 have hl:(σ++[AG []])[σ.length]?=some (AG []):=DH
 have c1:AL .Gt (nE 4) (cE (.int 0)) (Lj xs near far σ.length s) (σ++[AG []])=some (decide (0<s),σ++[AG []]):=Kh rfl rfl
 have c2:=R7 (f:=nE 3) (lc:=Lj xs near far σ.length s) rfl hl
 have c3:Vo [(AL .Gt (nE 4) (cE (.int 0))),(AL .NotEq (nE 3) (Br []))] (Lj xs near far σ.length s) (σ++[AG []])=some (false,σ++[AG []]) :=
  ab (by rw[c1,decide_eq_false (by omega)]) (je (by rw[c2];rfl))
 have e3:=Lh (f:=nE 3) (g:=cE .none) (v:=.none) (lc:=Lj xs near far σ.length s) rfl hl rfl hl (by decide)
 rw[GZ] at e3
 refine(Dz (Hn c3)).trans (Fc.trans ((Al (BP e3)).trans ?_))
 exact(Al (Ed (v:=.int (far-2)) (As (a:=(AV.int far,_)) rfl (As (a:=(AV.int 2,_)) rfl rfl)) (by show 4<5;decide))).trans rfl
theorem NN{t:TM}{B:SM}(h:t lc σ=some (true,σ))(hB:B lc σ=some (.next,lc',σ')):H4 t B O (n+1) lc σ=H4 t B O n lc' σ':=As h (As hB rfl)
set_option tactic.hygienic false
theorem Pa{t:TM}{B:SM}(h:t lc σ=some (false,σ)):H4 t B O (n+1) lc σ=O lc σ:=As h rfl
theorem d5(s:Int):0<Hq s:=by unfold Hq;split<;>omega
set_option tactic.hygienic true
theorem JC(hf:far<=1000):∀ (n:Nat) (xs:List Nat) (acc:LL) (fuel:Nat),xs.length<=n->n<fuel->xs.length<=1000->acc≠[]->acc.length+n<=1000 ->
 H4 Qm Ql (Ah []) fuel (Lj xs near far σ.length (far-2)) (σ++[AG acc])=some (.next,Lj [] near far σ.length (far-2),σ++[AG (acc++(Fn (Hq (far-2)) n xs).map some)])
 |n,xs,acc,fuel+1,hn,wb,hx,Gj,ha=>by
  have et:Qm (Lj xs near far σ.length (far-2)) (σ++[AG acc])=some (decide (BG xs ≠ ""),σ++[AG acc]):=Ia rfl rfl
  by_cases G6:xs=[]
  . subst G6
    rw[decide_eq_false (by decide)] at et
    refine(Pa et).trans ?_
    have:Fn (Hq (far-2)) n []=[]:=by cases n with|zero=>rfl|succ n=>exact if_pos rfl
    rw[this]
    simp -iota [DR]
  . rw[decide_eq_true (Vg.mpr G6)] at et
    cases n with
    |zero=>exact absurd (List.eq_nil_of_length_eq_zero (Nat.le_zero.mp hn)) G6
    |succ n =>
     have hp:=d5 (far-2)
     have e:=O9 (σ:=σ) (near:=near) (far:=far) (s:=far-2) (acc:=acc) (xs:=xs) (.inr Gj) (by omega) hx (by omega)
     have hd:(xs.drop (Hq (far-2))).length<=n:=by
      rw[List.length_drop]
      exact Nat.le_of_lt_succ (Nat.lt_of_lt_of_le (Nat.sub_lt (List.length_pos_iff.mpr G6) hp) hn)
     have ih:=JC hf n (xs.drop (Hq (far-2))) (acc++[some (xs.take (Hq (far-2)))]) fuel hd (Nat.lt_of_succ_lt_succ wb) (by rw[List.length_drop];exact Nat.le_trans (Nat.sub_le _ _) hx) (by simp) (by rw[List.length_append,Nat.add_assoc,Nat.add_comm _ n];exact ha)
     refine(NN et e).trans (ih.trans ?_)
     have es:Fn (Hq (far-2)) (n+1) xs=xs.take (Hq (far-2))::Fn (Hq (far-2)) n (xs.drop (Hq (far-2))):=if_neg G6
     rw[es,List.map_cons,List.append_assoc]
     rfl
theorem NO(hn:near<=1000)(hf:far<=1000)(hx:xs.length<=500):CG [.str (BG xs),.int near,.int far] σ=some (.loc σ.length,σ++[AG (EX near far xs)]):=by
 suffices hm:∃ lc',GA [some (.str (BG xs)),some (.int near),some (.int far),none,none] σ=some (.ret (.loc σ.length),lc',σ++[AG (EX near far xs)]) by
  (refine CJ (hm) λlc' e=>?_;clear hm)
  exact C3 rfl e
 unfold GA
 have e1:BZ 3 (FN []) [some (.str (BG xs)),some (.int near),some (.int far),none,none] σ=some (.next,[some (.str (BG xs)),some (.int near),some (.int far),some (.loc σ.length),none],σ++[AG []]):=Ed (Ib (es:=[]) (xs:=[]) rfl (by decide)) (by show 3<5;decide)
 have e2:BZ 4 (AN .Sub (nE 1) (cE (.int 2))) [some (.str (BG xs)),some (.int near),some (.int far),some (.loc σ.length),none] (σ++[AG []])=some (.next,Lj xs near far σ.length (near-2),σ++[AG []]):=Ed (v:=.int (near-2)) (As (a:=(AV.int near,_)) rfl (As (a:=(AV.int 2,_)) rfl rfl)) (by show 4<5;decide)
 rw[Al e1,Al e2]
 have et:Qm (Lj xs near far σ.length (near-2)) (σ++[AG []])=some (decide (BG xs ≠ ""),σ++[AG []]):=Ia rfl rfl
 unfold EX
 suffices hw:∃ lc',Qb Qm Ql (Ah []) (Lj xs near far σ.length (near-2)) (σ++[AG []])=some (.next,lc',σ++[AG (if xs=[] then [] else (if near<=2 then none else some (xs.take (near-2).toNat))::(Fn (Hq (far-2)) xs.length (xs.drop (near-2).toNat)).map some)])/\∀ τ,nE 3 lc' τ=some (.loc σ.length,τ) by
  (refine Am (hw) λlc' h h3=>?_;clear hw)
  exact⟨lc',(Al h).trans (BR (Fp (h3 _)))⟩
 by_cases G6:xs=[]
 . rw[if_pos G6]
   rw[G6] at et ⊢
   rw[decide_eq_false (by decide)] at et
   exact⟨_,(Pa (n:=999999) et).trans DR,λuu=>rfl⟩
 . rw[if_neg G6]
   rw[decide_eq_true (Vg.mpr G6)] at et
   by_cases h2:near<=2
   . rw[if_pos h2,show(near-2).toNat=0 by omega,List.drop_zero]
     have e3:=W5 (σ:=σ) (xs:=xs) (near:=near) (far:=far) (s:=near-2) (by omega)
     have e4:=JC (σ:=σ) (near:=near) hf xs.length xs [none] 999999 (Nat.le_refl _) (Nat.lt_of_le_of_lt hx (by decide)) (Nat.le_trans hx (by decide)) (by simp) (Nat.le_trans (Nat.add_le_add_left hx 1) (by decide))
     exact⟨_,(NN et e3).trans e4,λuu=>rfl⟩
   . rw[if_neg h2]
     have e3:=O9 (σ:=σ) (xs:=xs) (near:=near) (far:=far) (s:=near-2) (acc:=[]) (.inl (by omega)) (by omega) (by omega) (by decide)
     have ek:Hq (near-2)=(near-2).toNat:=by unfold Hq;split<;>omega
     rw[ek] at e3
     have e4:=JC (σ:=σ) (near:=near) hf xs.length (xs.drop (near-2).toNat) ([]++[some (xs.take (near-2).toNat)]) 999999 (by rw[List.length_drop];exact Nat.sub_le _ _) (Nat.lt_of_le_of_lt hx (by decide)) (by rw[List.length_drop];exact Nat.le_trans (Nat.sub_le _ _) (Nat.le_trans hx (by decide))) (by simp) (Nat.le_trans (Nat.add_le_add_left hx 1) (by decide))
     exact⟨_,(NN et e3).trans e4,λuu=>rfl⟩
end
structure Cs (σ:St):Prop where
 pl:σ[3]?=some (.ext 7 [.int 0,.str "",.int 0,.str "",.loc 1,.loc 2,.none])
 cd:σ[6]?=some (.ext 8 [.int 0,.str "",.int 0,.str "",.loc 4,.loc 5,.int 1,.loc 10])
 fl:σ[9]?=some (.ext 9 [.int 0,.str "",.int 0,.str "",.loc 7,.loc 8,.int 2])
 lam:σ[10]?=some (.ext 1 [])
theorem Cs.keep(K:Cs σ)(S:Bt X σ σ')(h:∀ x∈X,10<x):Cs σ':=by
 have n:∀ j,j<=10->j∉X:=λj hj q=>absurd (h j q) (by omega)
 exact⟨S.get (n _ (by decide)) K.pl,S.get (n _ (by decide)) K.cd,S.get (n _ (by decide)) K.fl,S.get (n _ (by decide)) K.lam⟩
noncomputable abbrev Fm(σ:St)(W:Int)(cw sp:Str)(st:Ko):Prop:=dO σ 13 11 12 W cw cw.length sp st
noncomputable abbrev Hr(fws text:Str)(c:Nat)(a4 a5 a6 a7:Option AV):Lc:=[some (.loc 13),some (.str fws),some (.str text),some (.loc c),a4,a5,a6,a7]
noncomputable def BU(W:Int)(st:Ko):Int:=W-(st.2.1+Ag st.2.2)
noncomputable def GC(W:Int)(sp fws:Str)(st:Ko):Option (List Nat)->Ko
 |none=>st
 |some y=>Eg W sp st.1 st.2.1 st.2.2 fws (wd y)
noncomputable def R8(cw:Str)(st:Ko)(ys:List (List Nat)):Ko:=match ys.getLast? with
 |none=>st
 |some z=>(AM st.1 st.2.1 st.2.2++(ys.dropLast.map wd).map (cw++·),0,[(cw,wd z)])
section
variable{W:Int}{e:Nat}
theorem aQ(F:Fm σ W cw sp st):kind σ (.loc 13)=3:=by
 show(σ[13]?.map EN).getD 0=3
 rw[F.fm];rfl
theorem mU{xs:List AV}(he:σ[e]?=some (.list xs)):kind σ (.loc e)=2:=by
 show(σ[e]?.map EN).getD 0=2
 rw[he];rfl
theorem bp{f:EM}{xs:List AV}(F:Fm σ W cw sp st)(hf:f lc σ=some (.loc 13,σ))(he:Ft es lc σ=some (xs,σ))(k:G (.loc 13::xs) σ=some r):mE 3 G f es lc σ=some r:=As hf ((if_pos (aQ F)).trans (As he k))
theorem m2{f:EM}{xs:List AV}(he:σ[e]?=some (.list ys))(hf:f lc σ=some (.loc e,σ))(hx:Ft es lc σ=some (xs,σ))(k:G (.loc e::xs) σ=some r):mE 2 G f es lc σ=some r:=As hf ((if_pos (mU he)).trans (As hx k))
theorem T5(F:Fm σ W cw sp st)(H:Fits st.1 st.2.1 st.2.2)(K:Cs σ)(hW:W<=1000)(hx:xs.length<=500) :
 Iq 7 (nE 3) [(nE 2),(mE 3 DY (nE 0) [])] dY (Hr fws (BG xs) 6 a4 a5 a6 a7) σ=some (.loc (σ.length+1),σ++[.gen 13 2,AG (EX (BU W st) (W-cw.length) xs)]):=by
 have S1:∀ o,Bt [] σ (σ++[o]):=λo=>.app _
 have F1:∀ o,Fm (σ++[o]) W cw sp st:=λo=>AH.keep F (S1 o) (by simp) (by simp) (by simp)
 have hg:∀ o,(σ++[o])[σ.length]?=some o:=λo=>DH
 have e2:Ft [(nE 2),(mE 3 DY (nE 0) [])] (Hr fws (BG xs) 6 a4 a5 a6 a7) σ=some ([.str (BG xs),.loc σ.length],σ++[.gen 13 0]):=Ee (σ₁:=σ) rfl (bp F rfl rfl (NH F))
 have n0:=fV (F1 (.gen 13 0)) H (hg _)
 rw[GZ] at n0
 have n1:=mF (F1 (.gen 13 1)) (hg _)
 rw[GZ] at n1
 have hp:=Bu st.2.2
 have hi:=H.i0
 have e3:CG [.str (BG xs),.int (BU W st),.int (W-cw.length)] (σ++[.gen 13 2])=some (.loc (σ.length+1),σ++[.gen 13 2,AG (EX (BU W st) (W-cw.length) xs)]):=by
  have e:=NO (σ:=σ++[.gen 13 2]) (near:=BU W st) (far:=W-cw.length) (xs:=xs) (by unfold BU;omega) (by omega) hx
  rw[List.append_assoc,List.length_append] at e
  exact e
 have K1:=(K.keep (S1 (.gen 13 0)) (by simp)).lam
 have c0:Av (En Eo Ep) [nE 1] [some (AV.str (BG xs)),some (.loc σ.length)] (σ++[.gen 13 0])=some (.int (BU W st),σ++[.gen 13 1]):=As (Dr rfl) n0
 have c1:Av (En Eo Ep) [nE 1] [some (AV.str (BG xs)),some (.loc σ.length)] (σ++[.gen 13 1])=some (.int (W-cw.length),σ++[.gen 13 2]):=As (Dr rfl) n1
 have ea:Ft [(nE 0),(Av (En Eo Ep) [(nE 1)]),(Av (En Eo Ep) [(nE 1)])] [some (AV.str (BG xs)),some (.loc σ.length)] (σ++[.gen 13 0])=some ([AV.str (BG xs),.int (BU W st),.int (W-cw.length)],σ++[.gen 13 2]):=BD (a:=AV.str (BG xs)) (σ₁:=σ++[.gen 13 0]) rfl (Ee c0 c1)
 have e5:Av CG [(nE 0),(Av (En Eo Ep) [(nE 1)]),(Av (En Eo Ep) [(nE 1)])] [some (AV.str (BG xs)),some (.loc σ.length)] (σ++[.gen 13 0])=_:=As ea e3
 have e4:dY [.loc 10,.str (BG xs),.loc σ.length] (σ++[.gen 13 0])=some (.loc (σ.length+1),σ++[.gen 13 2,AG (EX (BU W st) (W-cw.length) xs)]):=by
  show((AV.loc 10).loc?.bind λl=>((σ++[AO.gen 13 0])[l]?.bind (AO.ext? 1)).bind λcs=>(H3 (σ++[AO.gen 13 0]) cs).bind λcl=>if [AV.str (BG xs),AV.loc σ.length].length=2 then ZY (Av CG [(nE 0),(Av (En Eo Ep) [(nE 1)]),(Av (En Eo Ep) [(nE 1)])]) cl (Lo ["text", "rooms"] [.str (BG xs),.loc σ.length]) (σ++[AO.gen 13 0]) else none)=_
  exact As (a:=10) rfl (As (a:=[]) (As K1 rfl) (As (a:=[]) rfl ((if_pos rfl).trans e5)))
 exact As (a:=(AV.loc 6,σ)) rfl (As (a:=6) rfl (As (a:=[AV.int 0,.str "",.int 0,.str "",.loc 4,.loc 5,.int 1,.loc 10]) (As K.cd rfl) (As (a:=AV.loc 10) rfl (As e2 e4))))
set_option tactic.hygienic true
theorem t1(K:Cs σ):Ff (AL .Is (Jt 6 (nE 3)) (cE .none)) (Ah [Bj (mE 3 Jn (nE 0) [(nE 1),(nE 2),(Bk 3 (nE 0))]),IQ]) (Ah []) (Hr fws text 6 a4 a5 a6 a7) σ=some (.next,Hr fws text 6 a4 a5 a6 a7,σ):=by
 have e1:Jt 6 (nE 3) (Hr fws text 6 a4 a5 a6 a7) σ=some (.int 1,σ):=As (a:=(AV.loc 6,σ)) rfl (As (a:=6) rfl (As (a:=[.int 0,.str "",.int 0,.str "",.loc 4,.loc 5,.int 1,.loc 10]) (As K.cd rfl) rfl))
 exact(Hn (Cv (b:=.none) e1 rfl rfl)).trans DR
set_option tactic.hygienic false
theorem aR(he:σ[e]?=some (.list [])){xs:List AV}{f:SM}(hf:Ft fs (Hr fws text 6 (some (.loc e)) a5 a6 a7) σ=some (xs,σ))(hp:PW xs=true):Hl 4 fs f (Hr fws text 6 (some (.loc e)) a5 a6 a7) σ=some (.ret .none,Hr fws text 6 (some (.loc e)) a5 a6 a7,σ):=by
 refine As (a:=(AV.loc e,σ)) rfl (As (a:=e) rfl (As (AY he) ?_))
 show(Ft _ _ _).bind _=_
 exact As hf (As (AY he) (AZ (by rw[hp];rfl)))
theorem Qn{y:AV}(he:σ[e]?=some (.list (y::ys))){f:SM}:Hl 4 fs f (Hr fws text 6 (some (.loc e)) a5 a6 a7) σ=f (Hr fws text 6 (some (.loc e)) a5 a6 a7) σ:=by
 refine As (a:=(AV.loc e,σ)) rfl (As (a:=e) rfl (As (AY he) ?_))
 rfl
theorem d6{y:AV}(he:σ[e]?=some (.list (ys++[y]))){f:SM}:Hl 4 fs f (Hr fws text 6 (some (.loc e)) a5 a6 a7) σ=f (Hr fws text 6 (some (.loc e)) a5 a6 a7) σ:=by
 cases ys with
 |nil=>exact Qn he
 |cons a r=>exact Qn he
theorem gf{f:EM}(hf:f lc σ=some (.loc 13,σ))(F:Fm σ W cw sp st):Bk 1 f lc σ=some (.str cw,σ):=As hf (As (a:=13) rfl (As F.fm rfl))
theorem rF{y:AV}(he:σ[e]?=some (.list (ys++[y])))(hz:ys.length<=1000):RC [.loc e] σ=some (y,σ.set e (.list ys)):=by
 refine As (a:=AV.loc e) rfl (As (a:=e) rfl (As (AY he) ?_))
 rw[if_pos (by rw[List.length_append,sizeLine_eq];show ys.length+1<=_;omega)]
 rw[List.getLast?_concat,List.dropLast_concat];rfl
theorem Kx{a:AV}{xs:List AV}(h:Bq σ a=some xs)(i:Nat):Qs a σ i=some xs[i]?:=by
 unfold Qs;rw[h];rfl
set_option tactic.hygienic true
theorem aS{Eh:List Str}(F:Fm σ W cw sp (Ap,ini,ps))(he:σ[e]?=some (.list (Eh.map AV.str)))(II:e≠11)(hr:Ap.length+Eh.length<=100000)(hc:cw.length<=10)(hm:∀ y∈Eh,y.length<=1000)(hn:Eh.length<=1000) :
 ∃ lc' σ',L7 7 (nE 4) (Ah [Bj (mE 2 Bv (Bk 4 (nE 0)) [(AN .Add (Bk 1 (nE 0)) (nE 7))])]) (Ah []) (Hr fws text 6 (some (.loc e)) a5 a6 a7) σ=some (.next,lc',σ')/\Fm σ' W cw sp (Ap++Eh.map (cw++·),ini,ps)/\Bt [11] σ σ':=by
 let I:Nat->Lc->St->Prop:=λi lc τ=>(∃ b7,lc=Hr fws text 6 (some (.loc e)) a5 a6 b7)/\Fm τ W cw sp (Ap++(Eh.take i).map (cw++·),ini,ps)/\Bt [11] σ τ
 have hN:∀ i lc τ,i<Eh.length->I i lc τ->∃ x lc₁,Qs (.loc e) τ i=some (some x)/\putL lc 7 x=some lc₁/\WS (Ah [Bj (mE 2 Bv (Bk 4 (nE 0)) [(AN .Add (Bk 1 (nE 0)) (nE 7))])]) lc₁ τ λfl CD σ₂=>(fl=.next\/fl=.cont)/\I (i+1) CD σ₂:=by
  intro i lc τ hi hI
  obtain⟨⟨b7,rfl⟩,G,S⟩:=hI
  have cj:τ[e]?=some (.list (Eh.map AV.str)):=S.get (by simpa using II) he
  have hx:(Eh.map AV.str)[i]?=some (.str Eh[i]):=by rw[List.getElem?_map,List.getElem?_eq_getElem hi];rfl
  refine⟨.str Eh[i],Hr fws text 6 (some (.loc e)) a5 a6 (some (.str Eh[i])),?_,rfl,?_⟩
  . rw[Kx (a:=AV.loc e) (AY cj),hx]
  . have e3:=La (lc:=Hr fws text 6 (some (.loc e)) a5 a6 (some (.str Eh[i]))) (g:=nE 7) (y:=Eh[i]) (gf (f:=nE 0) rfl G) rfl (by have:=hm _ (List.getElem_mem hi);omega)
    have e4:=Lh (Lb (lc:=Hr fws text 6 (some (.loc e)) a5 a6 (some (.str Eh[i]))) (f:=nE 0) rfl G) G.li e3 G.li (by simp;omega)
    refine⟨.next,_,_,by rw[Al (BP e4),DR],.inl rfl,⟨_,rfl⟩,?_,S.trans (.set (by simp))⟩
    have G':=AH.setLi G (Ap++(Eh.take (i+1)).map (cw++·))
    have ht:Eh.take (i+1)=Eh.take i++[Eh[i]]:=(List.take_append_getElem hi).symm
    rw[show(Ap++(Eh.take (i+1)).map (cw++·)).map AV.str=(Ap++(Eh.take i).map (cw++·)).map AV.str++[.str (cw++Eh[i])] by rw[ht,List.map_append,List.map_append,List.map_append,List.map_append,List.append_assoc];rfl] at G'
    exact G'
 have hE:∀ lc τ,I Eh.length lc τ->Qs (.loc e) τ Eh.length=some none:=by
  intro lc τ hI
  (refine LX (hI) λuu G S=>?_;clear hI)
  have cj:τ[e]?=some (.list (Eh.map AV.str)):=S.get (by simpa using II) he
  rw[Kx (a:=AV.loc e) (AY cj)]
  simp
 obtain⟨lc',σ',e1,⟨b7,rfl⟩,F',S'⟩:=GW (st:=λlc y=>putL lc 7 y) I hN hE Eh.length 0 1000000 (Hr fws text 6 (some (.loc e)) a5 a6 a7) σ (by omega) (by omega) ⟨⟨a7,rfl⟩,by simpa using F,.refl⟩
 refine⟨_,σ',(U0 (a:=AV.loc e) rfl (AY he) rfl).trans e1,?_,S'⟩
 rw[List.take_length] at F'
 exact F'
theorem T6{a:Option (List Nat)}(F:Fm σ W cw sp st)(H:Fits st.1 st.2.1 st.2.2)(HF:∀ y,a=some y->Fits st.1 st.2.1 (st.2.2++[(fws,wd y)]))(Yi:sp.cps.size<=10) :
 ∃ σ',Ff (AL .IsNot (nE 5) (cE .none)) (Ah [Bj (mE 3 Jm (nE 0) [(nE 1),(nE 5)])]) (Ah []) (Hr fws text 6 a4 (some (Vf a)) a6 a7) σ=some (.next,Hr fws text 6 a4 (some (Vf a)) a6 a7,σ')/\Fm σ' W cw sp (GC W sp fws st a)/\Bt [11,12] σ σ':=by
 cases a with
 |none=>exact⟨σ,(Hn (Cv (a:=.none) (b:=.none) rfl rfl rfl)).trans DR,F,.refl⟩
 |some y =>
  (refine Mu (Nx F (HF y rfl) (by omega)) λσ' e2 F' S' uu=>?_)
  exact⟨σ',(Gy (Cv (a:=AV.str (wd y)) (b:=.none) rfl rfl rfl)).trans ((Al (BP (bp F rfl (xs:=[.str fws,.str (wd y)]) rfl e2))).trans DR),F',S'⟩
end
structure Bd (n:Nat) (st:Ko):Prop where
 r:st.1.length<=n
 t:(Bo st.1:Int)+Ag st.2.2<=n
 p:st.2.2.length<=n
 i0:0<=st.2.1
 i1:st.2.1<=8
 b:jo st.2.2
theorem Ky(f s:Str):Ag [(f,s)]=(f.length:Int)+s.length:=by
 unfold Ag;simp -iota [CN]
noncomputable def Bl(f:Str):Prop:=∀ c∈f.cps.toList,c=32\/c=9
theorem jo.snoc{f:Str}(h:jo ps)(hf:Bl f):jo (ps++[(f,s)]):=λp hp c hc=>by
 rcases List.mem_append.mp hp with hp|hp
 . exact h p hp c hc
 . rw[List.mem_singleton.mp hp] at hc;exact hf c hc
section
variable{W:Int}{f:Str}
theorem Bd.fits(H:Bd n st)(hn:n<=90000):Fits st.1 st.2.1 st.2.2:=by
 obtain⟨h1,h2,h3,h4,h5,_⟩:=H
 have:=Bu st.2.2
 exact⟨by omega,by show Bo st.1<=_;omega,by omega,by omega,h4,by omega⟩
theorem Bd.up(H:Bd n st){m:Nat}(h:n<=m):Bd m st:=by
 obtain⟨h1,h2,h3,h4,h5,h6⟩:=H
 exact⟨by right,by omega,by right,h4,h5,h6⟩
theorem Bd.push(H:Bd n st)(hf:Bl f):Bd (n+(f.length+s.length+1)) (st.1,st.2.1,st.2.2++[(f,s)]):=by
 obtain⟨h1,h2,h3,h4,h5,h6⟩:=H
 refine⟨by show st.1.length<=_;right,?_,?_,h4,h5,h6.snoc hf⟩
 . show(Bo st.1:Int)+Ag (st.2.2++[(f,s)])<=_
   rw[D5,Ky];omega
 . show(st.2.2++[(f,s)]).length<=_
   rw[List.length_append];show _+1<=_;right
theorem Bd.nl(H:Bd n st):Bd (n+1) (AM st.1 st.2.1 st.2.2,0,[]):=by
 obtain⟨h1,h2,h3,h4,h5,h6⟩:=H
 have a:=Nz st.1 st.2.1 st.2.2
 have b:=LJ st.1 st.2.1 st.2.2
 exact⟨by show(AM st.1 st.2.1 st.2.2).length<=_;right,by show(Bo (AM st.1 st.2.1 st.2.2):Int)+0<=_;omega,Nat.zero_le _,Int.le_refl _,by show(0:Int)<=8;decide,λp hp=>nm hp⟩
theorem gj:Bl " " := by intro c hc;exact .inl (List.mem_singleton.mp hc)
set_option tactic.hygienic true
theorem Bd.chunk(H:Bd n st)(hf:Bl f):Bd (n+(f.length+s.length+3)) (Eg W sp st.1 st.2.1 st.2.2 f s):=by
 have HP:=H.push (s:=s) hf
 unfold Eg
 split
 . split
   . rename_i i hi
     obtain⟨h1,h2,h3,h4,h5,h6⟩:=HP
     have ht:=CF ((st.2.2++[(f,s)]).take i)
     have hs:Ag (st.2.2++[(f,s)])=Ag ((st.2.2++[(f,s)]).take i)+Ag ((st.2.2++[(f,s)]).drop i):=by rw[<- D5,List.take_append_drop]
     have hd:((st.2.2++[(f,s)]).drop i).length<=(st.2.2++[(f,s)]).length:=by rw[List.length_drop];exact Nat.sub_le _ _
     have e1:Bo (st.1++[AE ((st.2.2++[(f,s)]).take i)])=Bo st.1+(AE ((st.2.2++[(f,s)]).take i)).length:=by rw[EI];simp -iota [Bo]
     refine⟨?_,?_,?_,Int.le_refl _,by show(0:Int)<=8;decide,λp hp=>h6 p (List.mem_of_mem_drop hp)⟩
     . show(st.1++[_]).length<=_
       rw[List.length_append];exact Nat.add_le_add H.r (Nat.le_trans (by decide:1<=3) (Nat.le_add_left _ _))
     . show(Bo (st.1++[AE ((st.2.2++[(f,s)]).take i)]):Int)+Ag ((st.2.2++[(f,s)]).drop i)<=_
       have h2:(Bo st.1:Int)+Ag (st.2.2++[(f,s)])<=_:=h2
       rw[e1];omega
     . show((st.2.2++[(f,s)]).drop i).length<=_
       exact Nat.le_trans hd (Nat.le_trans h3 (Nat.add_le_add_left (Nat.add_le_add_left (by decide) _) _))
   . split
     . have HN:=H.nl
       have hg:Bl (if f.length=0 then " " else f):=by split;exact gj;exact hf
       have jZ:(if f.length=0 then (" " : Str) else f).length<=f.length+1:=by
        split
        . show 1<=_;omega
        . omega
       exact(HN.push (s:=s) hg).up (by omega)
     . exact HP.up (by omega)
 . exact HP.up (by omega)
noncomputable def Hs(cw:Str):Ko->List (List Nat)->Ko
 |st,[]=>st
 |st,y::r=>Hs cw (AM st.1 st.2.1 st.2.2,0,[(cw,wd y)]) r
set_option tactic.hygienic false
theorem jv:AM Ap 0 [(cw,wd y)]=Ap++[cw++wd y]:=by
 have hl:BK [(cw,wd y)]=[(cw,wd y)]:=by
  unfold BK
  rw[if_neg (by simp),if_neg]
  intro e
  have:=congrArg (λp:Option (Str×Str)=>(p.map λq=>q.2.length)) e
  simp -iota [JB] at this
  exact absurd this (by show ¬ _=0;omega)
 have ha:AE [(cw,wd y)]=cw++wd y:=by
  rw[Kl,RU,RV];rfl
 have az:Txt.isspace (cw++wd y)=false:=by
  refine Bool.eq_false_iff.mpr λz=>?_
  have:=(LO _).mp z
  have:=this.2 60 (by rw[Kk];unfold wd;rw[NC];simp)
  exact absurd this (by decide +kernel)
 unfold AM
 rw[hl]
 have hp:Ag [(cw,wd y)]=cw.length+(y.length+2):=by rw[Ky,JB];right
 rw[if_pos (by rw[hp];omega)]
 unfold Ld
 rw[ha,az,hp,show(((cw.length:Int)+(y.length+2))==0)=false from beq_false_of_ne (by omega),if_neg (by simp)]
theorem rest_eq:∀ (ys:List (List Nat)) (st:Ko),R8 cw st ys=Hs cw st ys
 | [],st=>rfl
 | [y],st=>by
  show(AM st.1 st.2.1 st.2.2++[],(0:Int),[(cw,wd y)])=_
  rw[List.append_nil];rfl
 |y::z::r,st=>by
  have ih:=rest_eq (z::r) (AM st.1 st.2.1 st.2.2,0,[(cw,wd y)])
  rw[Hs,<- ih]
  unfold R8
  rw[List.getLast?_cons_cons]
  obtain⟨w,hw⟩:∃ w,(z::r).getLast?=some w:=⟨_,List.getLast?_eq_some_getLast (by simp)⟩
  rw[hw]
  show(AM st.1 st.2.1 st.2.2++((y::z::r).dropLast.map wd).map (cw++·),(0:Int),[(cw,wd w)])=(AM (AM st.1 st.2.1 st.2.2) 0 [(cw,wd y)]++((z::r).dropLast.map wd).map (cw++·),(0:Int),[(cw,wd w)])
  rw[jv,List.dropLast_cons_of_ne_nil (by simp),List.append_assoc]
  rfl
theorem Bd.rest{k:Nat}(hc:Bl cw):∀ (ys:List (List Nat)) {n:Nat} {st:Ko},Bd n st->(∀ y∈ys,y.length<=k)->Bd (n+ys.length*(cw.length+k+4)) (Hs cw st ys)
 | [],n,st,H,_=>H.up (by simp)
 |y::r,n,st,H,h=>by
  have hy:=h y List.mem_cons_self
  have H1:Bd (n+1+(cw.length+(wd y).length+1)) (AM st.1 st.2.1 st.2.2,0,[(cw,wd y)]):=H.nl.push hc
  have:=Bd.rest hc r H1 λz hz=>h z (List.mem_cons_of_mem _ hz)
  refine this.up ?_
  rw[JB,List.length_cons,Nat.add_mul]
  omega
theorem NP:∀ (ys:List (List Nat)) (z:List Nat) (st:Ko),Hs cw st (ys++[z])=(AM (Hs cw st ys).1 (Hs cw st ys).2.1 (Hs cw st ys).2.2,0,[(cw,wd z)])
 | [],z,st=>rfl
 |y::r,z,st=>NP r z _
end
noncomputable def d7(near:Int)(xs:List Nat):Option (List Nat):=if near<=2 then none else some (xs.take (near-2).toNat)
noncomputable def W6(near far:Int)(xs:List Nat):List (List Nat):=Fn (Hq (far-2)) xs.length (xs.drop (near-2).toNat)
theorem R9(h:xs≠[]):EX near far xs=d7 near xs::(W6 near far xs).map some:=if_neg h
theorem Sa:∀ {n:Nat} {xs:List Nat},(Fn size n xs).length<=n
 | 0,_=>Nat.le_refl _
 |n+1,xs=>by
  unfold Fn
  split
  . exact Nat.zero_le _
  . exact Nat.succ_le_succ Sa
theorem LR:∀ {n:Nat} {xs:List Nat} (y:List Nat),y∈Fn size n xs->y.length<=xs.length
 | 0,_,_,h=>nm h
 |n+1,xs,y,h=>by
  unfold Fn at h
  split at h
  . cases h
  . rcases List.mem_cons.mp h with rfl|h
    . rw[List.length_take];exact Nat.min_le_right ..
    . have:=LR y h
      rw[List.length_drop] at this
      exact Nat.le_trans this (Nat.sub_le _ _)
theorem NQ(h:xs.length<=8):(W6 near far xs).length<=8/\∀ y∈W6 near far xs,y.length<=8:=by
 refine⟨Nat.le_trans Sa h,λy hy=>?_⟩
 have:=LR y hy
 rw[List.length_drop] at this
 exact Nat.le_trans this (Nat.le_trans (Nat.sub_le _ _) h)
theorem Qo(h:xs.length<=8)(e:d7 near xs=some y):y.length<=8:=by
 unfold d7 at e
 split at e
 . cases e
 . cases e;rw[List.length_take];exact Nat.le_trans (Nat.min_le_right _ _) h
noncomputable def W7(W:Int)(sp cw fws:Str)(st:Ko)(xs:List Nat):Ko:=if xs=[] then st else R8 cw (GC W sp fws st (d7 (BU W st) xs)) (W6 (BU W st) (W-cw.length) xs)
structure W8 (W:Int) (cw sp:Str):Prop where
 w0:0<=W
 w1:W<=20
 c:Bl cw
 cl:cw.length<=2
 s:sp.cps.size<=10
structure t8 (qs:List (Str×Str)):Prop where
 n:qs.length<=3
 l:∀ p∈qs,p.1.length+p.2.length<=8
 b:∀ p∈qs,Bl p.1
section
variable{W:Int}
theorem Bd.first(H:Bd n st)(hf:Bl fws)(hl:fws.length<=2)(hx:xs.length<=8):Bd (n+15) (GC W sp fws st (d7 near xs)):=by
 cases h:d7 near xs with
 |none=>exact H.up (by omega)
 |some y =>
  have hy:=Qo hx h
  have e:=(H.chunk (W:=W) (sp:=sp) (s:=wd y) hf)
  rw[JB] at e
  exact e.up (by omega)
theorem Bd.fed(H:Bd n st)(P:W8 W cw sp)(hf:Bl fws)(hl:fws.length<=2)(hx:xs.length<=8):Bd (n+127) (W7 W sp cw fws st xs):=by
 unfold W7
 split
 . exact H.up (by omega)
 . rw[rest_eq]
   (refine AS (NQ (near:=BU W st) (far:=W-cw.length) hx) λh1 h2=>?_)
   refine(Bd.rest P.c _ (H.first hf hl hx) h2).up ?_
   exact Nat.add_le_add_left (Nat.mul_le_mul h1 (Nat.add_le_add_right (Nat.add_le_add_right P.cl 8) 4)) (n+15)
set_option tactic.hygienic true
theorem d8{B:SM}{P:St->Prop}(hn:vs.length=n)(h:∀ Q:Fl->Lc->St->Prop,(∀ fl lc' τ,(fl=.next\/fl=.ret .none)->P τ->Q fl lc' τ)->WS B (Lo Aa vs) σ Q):∃ σ',E5 Aa n B vs σ=some (.none,σ')/\P σ':=by
 obtain⟨fl,lc',σ',e,h1,h2⟩:=h (λfl _ τ=>(fl=.next\/fl=.ret .none)/\P τ) λuu uu uu a b=>⟨a,b⟩
 rcases h1 with rfl|rfl
 . exact⟨σ',E9 hn e,h2⟩
 . exact⟨σ',C3 hn e,h2⟩
theorem T7(F:Fm σ W cw sp st)(H:Bd n st)(hn:n<=80000)(K:Cs σ)(P:W8 W cw sp)(hf:Bl fws)(hl:fws.length<=2)(hx:xs.length<=8) :
 ∃ σ',R1 [.loc 13,.str fws,.str (BG xs),.loc 6] σ=some (.none,σ')/\Fm σ' W cw sp (W7 W sp cw fws st xs)/\Bt [11,12] σ σ':=by
 have HF:=H.fits (by omega)
 have hw1:=P.w1
 have e2:=T5 (fws:=fws) (a4:=none) (a5:=none) (a6:=none) (a7:=none) (xs:=xs) F HF K (by omega) (by omega)
 refine d8 rfl λQ hQ=>?_
 show WS NI (Hr fws (BG xs) 6 none none none none) σ Q
 unfold NI
 refine BH (t1 K) (Cw (we e2 ⟨Hr fws (BG xs) 6 (some (.loc (σ.length+1))) none none none,rfl,?_⟩))
 have hm:=(List.getElem?_eq_some_iff.mp F.fm).1
 generalize mV:EX (BU W st) (W-cw.length) xs=ls at e2
 generalize wg:σ.length+1=e at e2
 have he13:13<e:=by omega
 generalize jw:σ++[AO.gen 13 2,AG ls]=σ₂ at e2
 have wh:Bt [] σ σ₂:=jw▸.app _
 have S2:Bt [11,12] σ σ₂:=jw▸.app _
 have oI:σ₂[e]?=some (AG ls):=by rw[<- jw,<- wg];exact WV
 have F2:Fm σ₂ W cw sp st:=AH.keep F wh (by simp) (by simp) (by simp)
 have ne:∀ q:AO,∀ τ:St,Bt [11,12] σ τ->e<τ.length->Bt [11,12] σ (τ.set e q)/\(τ.set e q)[e]?=some q:=λq τ S DK=>⟨⟨by rw[List.length_set];exact S.1,λj hj hl=>by rw[List.getElem?_set_ne (by omega)];exact S.2 j hj hl⟩,List.getElem?_set_self DK⟩
 have nf:∀ q:AO,∀ τ:St,∀ mW,Fm τ W cw sp mW->Fm (τ.set e q) W cw sp mW:=λq τ mW G=>AH.keep G (X:=[e]) (.set (by simp)) (by simp;omega) (by simp;omega) (by simp;omega)
 have rG:e∉[11,12]:=by simp;omega
 by_cases G6:xs=[]
 . rw[show W7 W sp cw fws st xs=st from if_pos G6] at hQ
   have:ls=[]:=by rw[<- mV];exact if_pos G6
   rw[this] at oI
   exact⟨_,_,_,BR (aR oI (fs:=[cE (.int 0)]) (xs:=[.int 0]) rfl rfl),hQ _ _ _ (.inr rfl) ⟨F2,S2⟩⟩
 . rw[show W7 W sp cw fws st xs=R8 cw (GC W sp fws st (d7 (BU W st) xs)) (W6 (BU W st) (W-cw.length) xs) from if_neg G6] at hQ
   rw[R9 G6] at mV
   (refine AS (NQ (near:=BU W st) (far:=W-cw.length) hx) λXh oJ=>?_)
   have t9:∀ y,d7 (BU W st) xs=some y->y.length<=8:=λy h=>Qo hx h
   have oK:=H.first (W:=W) (sp:=sp) hf hl hx (near:=BU W st)
   generalize d7 (BU W st) xs=a at mV t9 oK hQ
   generalize W6 (BU W st) (W-cw.length) xs=ys at mV Xh oJ hQ
   subst mV
   have mR:σ₂[e]?=some (.list (Vf a::(ys.map wd).map AV.str)):=by rw[oI,AG,List.map_cons,List.map_map,List.map_map];rfl
   have wi:=(List.getElem?_eq_some_iff.mp oI).1
   -- Um first line is taken and laid
   (refine AS (ne (.list ((ys.map wd).map AV.str)) σ₂ S2 wi) λS3 wj=>?_)
   have F3:=nf (.list ((ys.map wd).map AV.str)) σ₂ st F2
   refine BH (lc':=Hr fws (BG xs) 6 (some (.loc e)) (some (Vf a)) none none) (σ':=σ₂.set e (.list ((ys.map wd).map AV.str))) ((Qn mR).trans (Ed (lc:=Hr fws (BG xs) 6 (some (.loc e)) none none none) (m2 mR rfl (xs:=[.int 0]) rfl (mx mR (by simp;omega))) (by show 5<8;decide))) ?_
   (refine Ci (T6 (a:=a) (fws:=fws) (text:=BG xs) (a4:=some (.loc e)) (a6:=none) (a7:=none) F3 HF (λy hy=>(H.push (s:=wd y) hf).fits (by have:=t9 y hy;rw[JB];omega)) P.s) λτ e4 F4 S4=>?_)
   refine BH e4 ?_
   have j8:=S4.get rG wj
   have ua:=S3.trans S4
   have ub:=oK.fits (by omega)
   generalize GC W sp fws st a=Ux at F4 oK ub hQ
   unfold R8 at hQ
   rcases List.eq_nil_or_concat ys with rfl|⟨Eh,z,rfl⟩
   . exact⟨_,_,_,BR (aR j8 (fs:=[]) (xs:=[]) rfl rfl),hQ _ _ _ (.inr rfl) ⟨F4,ua⟩⟩
   . rw[List.concat_eq_append] at *
     rw[List.getLast?_concat,List.dropLast_concat] at hQ
     rw[List.map_append,List.map_append] at j8
     have j4:Eh.length<=8:=by simp at Xh;omega
     have DK:=(List.getElem?_eq_some_iff.mp j8).1
     (refine AS (ne (.list ((Eh.map wd).map AV.str)) τ ua DK) λS5 wk=>?_)
     have F5:=nf (.list ((Eh.map wd).map AV.str)) τ _ F4
     have e5:Hl 4 [] (BZ 6 (mE 2 RC (nE 4) [])) (Hr fws (BG xs) 6 (some (.loc e)) (some (Vf a)) none none) τ=some (.next,Hr fws (BG xs) 6 (some (.loc e)) (some (Vf a)) (some (.str (wd z))) none,τ.set e (.list ((Eh.map wd).map AV.str))):=by
      refine(d6 j8).trans ?_
      exact Ed (lc:=Hr fws (BG xs) 6 (some (.loc e)) (some (Vf a)) none none) (m2 j8 rfl (xs:=[]) rfl (rF j8 (by simp;omega))) (by show 6<8;decide)
     refine BH e5 ?_
     -- Um Li is closed
     (refine Mu (Fz F5 ub) λgm e6 F6 S6 uu=>?_)
     have F6:Fm gm W cw sp (AM Ux.1 Ux.2.1 Ux.2.2,0,[]):=F6
     refine BH (BP (v:=.none) (σ₁:=gm) (bp F5 rfl (xs:=[]) rfl e6)) ?_
     have wm:=S6.get rG wk
     -- Um last line is Um new open Li
     have F7:Fm (gm.set 12 (.acc 0 [(cw,wd z)])) W cw sp (AM Ux.1 Ux.2.1 Ux.2.2,0,[(cw,wd z)]):=F6.setAcc 0 [(cw,wd z)]
     have S7:Bt [11,12] gm (gm.set 12 (.acc 0 [(cw,wd z)])):=.set (by simp)
     have e7:mE 4 Gm (Bk 5 (nE 0)) [(Bk 1 (nE 0)),(nE 6)] (Hr fws (BG xs) 6 (some (.loc e)) (some (Vf a)) (some (.str (wd z))) none) gm=some (.none,gm.set 12 (.acc 0 [(cw,wd z)])) :=
      mA (l:=12) (Gr rfl F6) F6.acc (Ee (gf rfl F6) (g:=nE 6) (b:=.str (wd z)) (σ₂:=gm) rfl) (Ki F6.acc (by simp))
     refine BH (BP e7) ?_
     have wo:=S7.get rG wm
     have uc:=oK.nl.r
     obtain⟨lc8,τ8,e8,F8,S8⟩:=aS (fws:=fws) (text:=BG xs) (a5:=some (Vf a)) (a6:=some (.str (wd z))) (a7:=none) F7 wo (by omega) (by
      have uc:(AM Ux.1 Ux.2.1 Ux.2.2).length<=_:=uc
      rw[List.length_map];omega) (by have:=P.cl;omega) (λy hy=>by
      (refine Am (List.mem_map.mp hy) λq hq FP=>?_;subst FP)
      have:=oJ q (by simp -iota [hq])
      rw[JB];omega) (by simp;omega)
     exact BH e8 (FZ (hQ _ _ _ (.inl rfl) ⟨F8,((S5.trans S6).trans S7).trans (S8.more (by simp))⟩))
noncomputable def rH(f s:Str):Bool:=match J2 (f++s) with
 |some ys=>decide (ys≠[])&&decide (ys.length<=10)&&decide ((ys.headD "").length<=10)&&decide (pieces ys=Fb (Fj (f++s)))&&decide ((Fj (f++s)).length<=3)&&decide ((f++s).length<=6)&&(Fj (f++s)).all λp=>decide (p.1.length+p.2.length<=8)&&p.1.cps.toList.all λc=>c==32||c==9
 |none=>false
noncomputable def T8:List Str:=["", " ", "\t", "  "]
noncomputable def texts:List Str:=["a", "bb;", "c dd", "ee,", "g;h ", "", " ", "iii"]
set_option tactic.hygienic false
theorem mX:(T8.all λf=>texts.all λs=>rH f s)=true:=by decide +kernel
theorem Bd.words:∀ (qs:List (Str×Str)) {n:Nat} {st:Ko},Bd n st->(∀ p∈qs,p.1.length+p.2.length<=8)->(∀ p∈qs,Bl p.1)->Bd (n+11*qs.length) (D6 W sp st qs)
 | [],n,st,H,_,_=>H.up (by simp)
 |p::r,n,st,H,h1,h2=>by
  have H1:=H.chunk (W:=W) (sp:=sp) (s:=p.2) (h2 p List.mem_cons_self)
  refine(Bd.words r H1 (λq hq=>h1 q (List.mem_cons_of_mem _ hq)) (λq hq=>h2 q (List.mem_cons_of_mem _ hq))).up ?_
  have:=h1 p List.mem_cons_self
  rw[List.length_cons];omega
theorem Bd.run:∀ (qs:List (Str×Str)) {n:Nat} {st:Ko},Bd n st->(∀ p∈qs,p.1.length+p.2.length<=8)->(∀ p∈qs,Bl p.1)->n+11*qs.length<=80000->Mr W sp st qs
 | [],n,st,H,_,_,_=>trivial
 |p::r,n,st,H,h1,h2,hn=>by
  have hp:=h1 p List.mem_cons_self
  rw[List.length_cons] at hn
  exact⟨(H.push (s:=p.2) (h2 p List.mem_cons_self)).fits (by omega),Bd.run r (H.chunk (W:=W) (sp:=sp) (s:=p.2) (h2 p List.mem_cons_self)) (λq hq=>h1 q (List.mem_cons_of_mem _ hq)) (λq hq=>h2 q (List.mem_cons_of_mem _ hq)) (by omega)⟩
set_option tactic.hygienic true
theorem gn{f:Str}(h:rH f s=true):∃ ys,J2 (f++s)=some ys/\ys≠[]/\ys.length<=10/\(ys.headD "").length<=10/\pieces ys=Fb (Fj (f++s))/\t8 (Fj (f++s))/\(f++s).length<=6:=by
 unfold rH at h
 split at h
 . rename_i ys e
   simp -iota only[Bool.and_eq_true,decide_eq_true_eq,List.all_eq_true,Bool.or_eq_true,beq_iff_eq] at h
   obtain⟨⟨⟨⟨⟨⟨h1,h2⟩,h3⟩,h4⟩,h5⟩,h6⟩,h7⟩:=h
   exact⟨ys,e,h1,h2,h3,h4,⟨h5,λp hp=>(h7 p hp).1,λp hp=>(h7 p hp).2⟩,h6⟩
 . cases h
set_option tactic.hygienic false
theorem T9(F:Fm σ W cw sp st)(H:Bd n st)(hn:n<=70000)(K:Cs σ)(P:W8 W cw sp)(hf:fws∈T8)(hs:s∈texts) :
 ∃ σ',R1 [.loc 13,.str fws,.str s,.loc 3] σ=some (.none,σ')/\Fm σ' W cw sp (D6 W sp st (Fj (fws++s)))/\Bt [11,12] σ σ':=by
 have mK:=List.all_eq_true.mp (List.all_eq_true.mp mX fws hf) s hs
 obtain⟨ys,hw,h1,h2,h3,h4,⟨h5,h6,h7⟩,h8⟩:=gn mK
 rw[CK] at h8
 have n8:=P.s
 (refine Ci (TP (sc:=sp) F (by omega) (by omega) hw h1 (by omega) (by omega) h4 (H.run _ h6 h7 (by omega))) λσ' e1 F1 S1=>?_)
 refine⟨σ',?_,F1,S1⟩
 refine C3 (lc':=Hr fws s 3 none none none none) rfl ?_
 show NI (Hr fws s 3 none none none none) σ=_
 unfold NI
 have a1:Jt 6 (nE 3) (Hr fws s 3 none none none none) σ=some (.none,σ):=As (a:=(AV.loc 3,σ)) rfl (As (a:=3) rfl (As (a:=[AV.int 0,.str "",.int 0,.str "",.loc 1,.loc 2,.none]) (As K.pl rfl) rfl))
 have a2:AL .Is (Jt 6 (nE 3)) (cE .none) (Hr fws s 3 none none none none) σ=some (true,σ):=Cv (b:=.none) a1 rfl rfl
 have a3:Bk 3 (nE 0) (Hr fws s 3 none none none none) σ=some (.str sp,σ):=As (a:=(AV.loc 13,σ)) rfl (As (a:=13) rfl (As F.fm rfl))
 have a4:mE 3 Jn (nE 0) [(nE 1),(nE 2),(Bk 3 (nE 0))] (Hr fws s 3 none none none none) σ=some (.none,σ'):=bp F rfl (BD (a:=.str fws) rfl (Ee (a:=.str s) rfl a3)) e1
 exact(Dz (Gy a2)).trans (Fc.trans ((Al (BP a4)).trans (BR rfl)))
set_option tactic.hygienic true
theorem aT(F:Fm σ W cw sp st)(H:Bd n st)(hn:n<=80000)(K:Cs σ)(P:W8 W cw sp)(h9:nE 9 lc=λσ=>some (.loc 13,σ))(wq:nE 15 lc=λσ=>some (.str fws,σ))(h8:nE 8 lc=λσ=>some (.loc 9,σ)) :
 Nq 3 4 ["self", "fws", "string", "charset", "encoded_lines", "first_line", "last_line", "line"] NJ (nE 9) [(nE 15),(cE (.str "x")),(nE 8)] lc σ=some (.next,lc,σ++[.gen 13 1]):=by
 have S1:∀ o,Bt [] σ (σ++[o]):=λo=>.app _
 have F1:∀ o,Fm (σ++[o]) W cw sp st:=λo=>AH.keep F (S1 o) (by simp) (by simp) (by simp)
 have n0:=fV (F1 (.gen 13 0)) (H.fits (by omega)) DH
 rw[GZ] at n0
 have hp:=Bu st.2.2
 have e0:Ft [(nE 15),(cE (.str "x")),(nE 8)] lc σ=some ([.str fws,.str "x",.loc 9],σ):=BD (by rw[wq]) (Ee (a:=.str "x") rfl (by rw[h8]))
 have c0:Av (En Eo Ep) [nE 1] [some (AV.str "x"),some (.loc σ.length)] (σ++[.gen 13 0])=some (.int (W-(st.2.1+Ag st.2.2)),σ++[.gen 13 1]):=As (Dr rfl) n0
 have b1:AN .Mult (nE 0) (Av (En Eo Ep) [nE 1]) [some (AV.str "x"),some (.loc σ.length)] (σ++[.gen 13 0])=some (.str (Txt.mul "x" (W-(st.2.1+Ag st.2.2))),σ++[.gen 13 1]):=by
  refine As (a:=(AV.str "x",_)) rfl (As c0 (Fp (RH.trans (AZ (decide_eq_true ?_)))))
  have:=P.w1;have:=P.w0;have:=H.i0;have:=H.i1;have:=H.t
  have:0<=(Bo st.1:Int):=by omega
  refine⟨?_,by omega,by omega⟩
  show 1*_<=_
  omega
 have a1:Nm 6 (nE 3) (Hr fws "x" 9 none none none none) σ=some (.int 2,σ):=As (a:=(AV.loc 9,σ)) rfl (As (a:=9) rfl (As (a:=[AV.int 0,.str "",.int 0,.str "",.loc 7,.loc 8,.int 2]) (As K.fl rfl) rfl))
 have a2:Ff (AL .Is (Nm 6 (nE 3)) (cE .none)) (Ah [Bj (mE 3 Jn (nE 0) [(nE 1),(nE 2),(Bk 3 (nE 0))]),IQ]) (Ah []) (Hr fws "x" 9 none none none none) σ=some (.next,Hr fws "x" 9 none none none none,σ):=(Hn (Cv (b:=.none) a1 rfl rfl)).trans DR
 have e2:Ft [(nE 2),(mE 3 DY (nE 0) [])] (Hr fws "x" 9 none none none none) σ=some ([.str "x",.loc σ.length],σ++[.gen 13 0]):=Ee (σ₁:=σ) rfl (bp F rfl (xs:=[]) rfl (NH F))
 have e3:NJ (Hr fws "x" 9 none none none none) σ=some (σ++[.gen 13 1]):=by
  unfold NJ
  refine As a2 ?_
  refine As (a:=(AV.loc 9,σ)) rfl (As (a:=9) rfl (As (a:=[AV.int 0,.str "",.int 0,.str "",.loc 7,.loc 8,.int 2]) (As K.fl rfl) (As e2 ((if_pos rfl).trans (Fp b1)))))
 exact As (a:=(AV.loc 13,σ)) (by rw[h9]) ((if_pos (aQ F)).trans (As e0 ((if_pos rfl).trans (Fp e3))))
end
structure Lw (σ:St) (st:Ko) (v:AV):Prop where
 ex:∃ vs,v=.lst [.loc 14,.lst vs,.int st.2.1]/\E1 15 σ vs st.2.2
 li:σ[14]?=some (.list (CW st.1))
theorem E1.mono{B':Nat}(h:E1 B σ vs ps)(hb:B'<=B):E1 B' σ vs ps:=by
 induction h with
 |nil=>exact .nil
 |cons a b ih =>
  refine .cons ?_ ih
  cases a with
  |lst=>exact .lst _
  |loc _ h hl=>exact .loc _ h (Nat.le_trans hb hl)
section
variable{W:Int}{f:Str}
theorem Lw.keep(L:Lw σ st v)(S:Bt X σ σ')(h:∀ x∈X,x<14):Lw σ' st v:=by
 obtain⟨⟨vs,e,c⟩,l⟩:=L
 exact⟨⟨vs,e,c.keep S λx hx=>by have:=h x hx;omega⟩,S.get (λq=>absurd (h _ q) (by omega)) l⟩
theorem Sb(L:Lw σ st v)(c:O2 15 σ u (f,s))(H:Bd n st)(hf:Bl f)(hn:n+(f.length+s.length)<=8000)(P:W8 W cw sp) :
 ∃ v' σ',CH [v,u,.int W,.str sp] σ=some (v',σ')/\Lw σ' (Eg W sp st.1 st.2.1 st.2.2 f s) v'/\Bt [14] σ σ':=by
 obtain⟨⟨vs,rfl,cs⟩,l⟩:=L
 have HP:=H.push (s:=s) hf
 (refine Es (T3 (W:=W) (sp:=sp) cs c l (by decide) (HP.fits (by omega)) HP.b (by have:=P.s;show sp.cps.size<=_;omega) (by have:=H.p;omega)) λCL δ e c'=>?_)
 refine(B6 _ _ ⟨e,⟨⟨CL,rfl,c'⟩,List.getElem?_set_self ?_⟩,(Bt.app _).trans (.set (by simp))⟩)
 have:=(List.getElem?_eq_some_iff.mp l).1
 rw[List.length_append];omega
theorem Lk(L:Lw σ st v)(H:Bd n st)(hn:n<=8000)(hv:g lc σ=some (v,σ)) :
 ∃ σ',Av BQ [g] lc σ=some (.loc 14,σ')/\σ'[14]?=some (.list (CW (AM st.1 st.2.1 st.2.2)))/\Bt [14] σ σ':=by
 obtain⟨⟨vs,rfl,cs⟩,l⟩:=L
 have DK:=(List.getElem?_eq_some_iff.mp l).1
 have e:=LP cs l (H.fits (by omega))
 exact⟨_,As (Dr hv) e,List.getElem?_set_self (by rw[List.length_append];omega),(Bt.app _).trans (.set (by simp))⟩
end
noncomputable abbrev Ge(ns:List Int)(first W head:Int)(ahead sp:Str)(v:AV)(k a b c f t ch ls m:Option AV):Lc :=
 [some (.lst (ns.map AV.int)),some (.int first),some (.int W),some (.int head),some (.str ahead),some (.str sp),some (.loc 3),some (.loc 6),some (.loc 9),some (.loc 13),some v,k,a,b,c,f,t,ch,ls,m,none,none]
section
variable{W first:Int}{ns:List Int}
theorem Kz:∀ (qs:List (Str×Str)) (p:Str×Str) (st:Ko),D6 W sp st (qs++[p])=Eg W sp (D6 W sp st qs).1 (D6 W sp st qs).2.1 (D6 W sp st qs).2.2 p.1 p.2
 | [],p,st=>rfl
 |q::r,p,st=>Kz r p _
set_option tactic.hygienic true
theorem Ua(L:Lw σ st v)(H:Bd n st)(hn:n<=7000)(P:W8 W ahead sp)(hx:x.length<=100)(Q:t8 (Fj x))(Rf:15<=σ.length)(hg:g (Ge ns first W head ahead sp v k a b c f t ch ls m) σ=some (.str x,σ)) :
 ∃ v' jx σ',L7 17 (Av EJ [g]) Iy (Ah []) (Ge ns first W head ahead sp v k a b c f t ch ls m) σ=some (.next,Ge ns first W head ahead sp v' k a b c f t jx ls m,σ')/\Lw σ' (D6 W sp st (Fj x)) v'/\Bt [14] σ σ':=by
 (refine gw (T4 σ x hx) λq EZ vs e1 hq hc S1 mP=>?_)
 obtain⟨ky,jy,rI⟩:=Q
 generalize Fj x=qs at hc ky jy rI ⊢
 have hc:=hc.mono Rf
 have L1:=L.keep S1 (by simp)
 let I:Nat->Lc->St->Prop:=λi lc τ=>∃ v' jx,lc=Ge ns first W head ahead sp v' k a b c f t jx ls m/\Lw τ (D6 W sp st (qs.take i)) v'/\Bt [14] EZ τ
 have hN:∀ i lc τ,i<vs.length->I i lc τ->∃ x lc₁,Qs (.loc q) τ i=some (some x)/\putL lc 17 x=some lc₁/\WS Iy lc₁ τ λfl CD σ₂=>(fl=.next\/fl=.cont)/\I (i+1) CD σ₂:=by
  rintro i _ τ hi ⟨v',jx,rfl,L2,S2⟩
  have oN:i<qs.length:=by rw[<- hc.len];exact hi
  (refine Am (hc.at (List.getElem?_eq_getElem oN)) λu hu cu=>?_)
  have Xf:τ[q]?=some (.list vs):=S2.get (by simp;omega) hq
  refine(B6 u (Ge ns first W head ahead sp v' k a b c f t (some u) ls m) ⟨?_,rfl,?_⟩)
  . rw[Kx (a:=.loc q) (AY Xf),hu]
  . have hp:qs[i].1.length+qs[i].2.length<=8:=jy _ (List.getElem_mem oN)
    have H2:=H.words (W:=W) (sp:=sp) (qs:=qs.take i) (λp hp=>jy p (List.mem_of_mem_take hp)) (λp hp=>rI p (List.mem_of_mem_take hp))
    have ud:(qs.take i).length<=3:=by rw[List.length_take];omega
    (refine Dt (Sb (f:=qs[i].1) (s:=qs[i].2) L2 (cu.keep S2 (by simp)) H2 (rI _ (List.getElem_mem oN)) (by omega) P) λv2 N5 e2 L3 S3=>?_)
    have ht:qs.take (i+1)=qs.take i++[qs[i]]:=(List.take_append_getElem oN).symm
    unfold Iy
    refine Cw (we (As (BD (a:=v') rfl (BD (a:=u) rfl (Ee (a:=.int W) rfl (b:=.str sp) rfl))) e2) ⟨Ge ns first W head ahead sp v2 k a b c f t (some u) ls m,rfl,FZ ⟨.inl rfl,B6 v2 (some u) ⟨rfl,?_,S2.trans S3⟩⟩⟩)
    rw[ht,Kz]
    exact L3
 have hE:∀ lc τ,I vs.length lc τ->Qs (.loc q) τ vs.length=some none:=by
  rintro _ τ ⟨v',jx,rfl,L2,S2⟩
  have Xf:τ[q]?=some (.list vs):=S2.get (by simp;omega) hq
  rw[Kx (a:=.loc q) (AY Xf)]
  simp
 obtain⟨_,σ',e3,v',jx,rfl,L2,S2⟩:=GW (st:=λlc y=>putL lc 17 y) I hN hE vs.length 0 1000000 (Ge ns first W head ahead sp v k a b c f t ch ls m) EZ (by omega) (by have:=hc.len;omega) (B6 v ch ⟨rfl,L1,.refl⟩)
 refine(EY v' jx σ' ⟨(U0 (a:=.loc q) (As (Dr hg) e1) (AY hq) rfl).trans e3,?_,S1.more (by simp) |>.trans S2⟩)
 rw[hc.len,List.take_length] at L2
 exact L2
noncomputable def stI(cw:Str)(st Ux:Ko)(ys:List (List Nat)):Nat->Ko
 | 0=>st
 |i+1=>Hs cw Ux (ys.take i)
set_option tactic.hygienic false
theorem Vh{y:Option (List Nat)}{rJ:LL}(h1:g lc σ=some (.loc l,σ))(hl:σ[l]?=some (AG rJ))(h2:ix lc σ=some (.int (i:Int),σ))(hx:rJ[i]?=some y)(hz:rJ.length<=100):A0 g ix lc σ=some (Vf y,σ) :=
 dU h1 h2 hl (by rw[List.getElem?_map,hx];rfl) (by rw[List.length_map];omega)
set_option tactic.hygienic true
theorem Ub{y0:Option (List Nat)}{ys:List (List Nat)}(L:Lw σ st v)(H:Bd n st)(hn:n<=7000)(P:W8 W ahead sp)(hf:Bl fws)(Tx:fws.length<=2)(hl:σ[l]?=some (AG (y0::ys.map some)))(mY:l≠14)(wu:ys.length<=8)(hy:∀ y∈ys,y.length<=8)(my:∀ y,y0=some y->y.length<=8)(H1:Bd (n+15) (GC W sp fws st y0)) :
 ∃ v' m' σ',GP 19 [(Av (BW AD) [(nE 18)])] Iz (Ah []) (Ge ns first W head ahead sp v k a b c (some (.str fws)) t ch (some (.loc l)) m) σ=some (.next,Ge ns first W head ahead sp v' k a b c (some (.str fws)) t ch (some (.loc l)) m',σ')/\Lw σ' (Hs ahead (GC W sp fws st y0) ys) v'/\Bt [14] σ σ':=by
 let I:Nat->Lc->St->Prop:=λi lc τ=>∃ v' m',lc=Ge ns first W head ahead sp v' k a b c (some (.str fws)) t ch (some (.loc l)) m'/\Lw τ (stI ahead st (GC W sp fws st y0) ys i) v'/\Bt [14] σ τ
 have hN:∀ i lc τ,i<ys.length+1->I i lc τ->∃ x lc₁,IU 0 ((ys.length+1:Nat):Int) 1 τ i=some (some x)/\putL lc 19 x=some lc₁/\WS Iz lc₁ τ λfl CD σ₂=>(fl=.next\/fl=.cont)/\I (i+1) CD σ₂:=by
  rintro i _ τ hi ⟨v',m',rfl,L2,S2⟩
  have KH:τ[l]?=some (AG (y0::ys.map some)):=S2.get (by simpa using mY) hl
  refine(B6 (.int (i:Int)) (Ge ns first W head ahead sp v' k a b c (some (.str fws)) t ch (some (.loc l)) (some (.int (i:Int)))) ⟨TY hi,rfl,?_⟩)
  generalize Gd:Ge ns first W head ahead sp v' k a b c (some (.str fws)) t ch (some (.loc l)) (some (.int (i:Int)))=lc
  have aU:nE 10 lc τ=some (v',τ):=by rw[<- Gd];rfl
  have ue:∀ τ,nE 18 lc τ=some (.loc l,τ):=λτ=>by rw[<- Gd];rfl
  have uf:∀ τ,nE 19 lc τ=some (.int (i:Int),τ):=λτ=>by rw[<- Gd];rfl
  have n4:∀ τ,nE 4 lc τ=some (.str ahead,τ):=λτ=>by rw[<- Gd];rfl
  have wx:∀ τ,nE 15 lc τ=some (.str fws,τ):=λτ=>by rw[<- Gd];rfl
  have n2:∀ τ,nE 2 lc τ=some (.int W,τ):=λτ=>by rw[<- Gd];rfl
  have n5:∀ τ,nE 5 lc τ=some (.str sp,τ):=λτ=>by rw[<- Gd];rfl
  have c1:=Kh (uf τ) (g:=cE (.int 0)) (j:=0) rfl
  unfold Iz
  cases i with
  |zero =>
   rw[decide_eq_false (by decide)] at c1
   refine DD (wt c1 ?_)
   have e0:A0 (nE 18) (cE (.int 0)) lc τ=some (Vf y0,τ):=Vh (i:=0) (ue τ) KH rfl rfl (by simp;omega)
   cases y0 with
   |none =>
    exact DD (wt (Cv (b:=.none) e0 rfl rfl) (FZ ⟨.inl rfl,B6 v' _ ⟨Gd.symm,L2,S2⟩⟩))
   |some y =>
    have Xh:=my y rfl
    refine DD (wt (Cv (b:=.none) e0 rfl rfl) ?_)
    (refine Dt (Sb (f:=fws) (s:=wd y) L2 (.lst (fws,wd y)) H hf (by rw[JB];omega) P) λv2 N5 e2 L3 S3=>?_)
    have e3:Av CH [(nE 10),(Br [(nE 15),(A0 (nE 18) (cE (.int 0)))]),(nE 2),(nE 5)] lc τ=some (v2,N5):=As (BD aU (BD (Ca (Ee (wx τ) e0) (by show 2<=_;decide)) (Ee (n2 τ) (n5 τ)))) e2
    exact Cw (we e3 ⟨Ge ns first W head ahead sp v2 k a b c (some (.str fws)) t ch (some (.loc l)) (some (.int 0)),by rw[<- Gd];rfl,FZ ⟨.inl rfl,B6 v2 _ ⟨rfl,L3,S2.trans S3⟩⟩⟩)
  |succ i =>
   rw[decide_eq_true (by omega)] at c1
   refine DD (wt c1 ?_)
   have mQ:i<ys.length:=Nat.lt_of_succ_lt_succ hi
   have HR:=Bd.rest P.c (ys.take i) H1 λy h=>hy y (List.mem_of_mem_take h)
   have ud:(ys.take i).length<=8:=by rw[List.length_take];exact Nat.le_trans (Nat.min_le_right _ _) wu
   have:=P.cl
   have hm:(ys.take i).length*(ahead.length+8+4)<=8*14:=Nat.mul_le_mul ud (Nat.add_le_add_right (Nat.add_le_add_right P.cl 8) 4)
   (refine Ci (Lk L2 HR (by omega) aU) λN5 e2 mZ S3=>?_)
   have rB:=S3.get (by simpa using mY) KH
   have e4:A0 (nE 18) (nE 19) lc N5=some (.str (wd ys[i]),N5):=Vh (i:=i+1) (y:=some ys[i]) (ue N5) rB (uf N5) (by rw[List.getElem?_cons_succ,List.getElem?_map,List.getElem?_eq_getElem mQ];rfl) (by simp;omega)
   have e5:Br [(Av BQ [(nE 10)]),(Br [(Br [(nE 4),(A0 (nE 18) (nE 19))])]),(cE (.int 0))] lc τ=some (.lst [.loc 14,.lst [.lst [.str ahead,.str (wd ys[i])]],.int 0],N5) :=
    Ca (BD e2 (Ee (Ca (Dr (Ca (Ee (n4 N5) e4) (by show 2<=_;decide))) (by show 1<=_;decide)) (b:=.int 0) rfl)) (by show 3<=_;decide)
   refine Cw (we e5 ⟨Ge ns first W head ahead sp (.lst [.loc 14,.lst [.lst [.str ahead,.str (wd ys[i])]],.int 0]) k a b c (some (.str fws)) t ch (some (.loc l)) (some (.int ((i+1:Nat):Int))),by rw[<- Gd];rfl,FZ ⟨.inl rfl,B6 _ _ ⟨rfl,?_,S2.trans S3⟩⟩⟩)
   have ht:ys.take (i+1)=ys.take i++[ys[i]]:=(List.take_append_getElem mQ).symm
   show Lw N5 (Hs ahead (GC W sp fws st y0) (ys.take (i+1))) _
   rw[ht,NP]
   exact⟨⟨_,rfl,.cons (.lst (ahead,wd ys[i])) .nil⟩,mZ⟩
 have hE:∀ lc τ,I (ys.length+1) lc τ->IU 0 ((ys.length+1:Nat):Int) 1 τ (ys.length+1)=some none:=λuu uu uu=>Qj
 obtain⟨_,σ',e3,v',m',rfl,L2,S2⟩:=GW (st:=λlc y=>putL lc 19 y) I hN hE (ys.length+1) 0 1000000 (Ge ns first W head ahead sp v k a b c (some (.str fws)) t ch (some (.loc l)) m) σ (by omega) (by omega) (B6 v m ⟨rfl,L,.refl⟩)
 have el:Av (BW AD) [(nE 18)] (Ge ns first W head ahead sp v k a b c (some (.str fws)) t ch (some (.loc l)) m) σ=some (.int ((ys.length+1:Nat):Int),σ):=by
  have:=U9 (LF:=AD) (f:=nE 18) (lc:=Ge ns first W head ahead sp v k a b c (some (.str fws)) t ch (some (.loc l)) m) rfl hl (by simp;omega)
  rw[this];simp
 refine(EY v' m' σ' ⟨It (Dr el) (a:=0) (b:=((ys.length+1:Nat):Int)) (c:=1) rfl (dT (by omega)) e3,?_,S2⟩)
 have L2:Lw σ' (Hs ahead (GC W sp fws st y0) (ys.take ys.length)) v':=L2
 rw[List.take_length] at L2
 exact L2
end
structure W9 (σ:St) (n:Nat) (W:Int) (ahead sp:Str) (st:Ko) (v:AV):Prop where
 cs:Cs σ
 fm:Fm σ W ahead sp st
 lw:Lw σ st v
 bd:Bd n st
noncomputable def TL(ns:List Int)(first W head:Int)(ahead sp:Str)(n:Nat)(lc':Lc)(σ':St):Prop:=∃ mW v' k a b c f t ch ls m,lc'=Ge ns first W head ahead sp v' k a b c f t ch ls m/\W9 σ' n W ahead sp mW v'
theorem TL.mk{ns:List Int}{first W:Int}(T:W9 σ n W ahead sp st v):TL ns first W head ahead sp n (Ge ns first W head ahead sp v k a b c f t ch ls m) σ:=(o6 _ _ _ _ _ _ _ _ _ _ _ ⟨rfl,T⟩)
@[elab_as_elim] theorem TL.elim{ns:List Int}{first W:Int}{P:Lc->Prop}(h:TL ns first W head ahead sp n lc σ)(z:∀ st v k a b c f t ch ls m,W9 σ n W ahead sp st v->P (Ge ns first W head ahead sp v k a b c f t ch ls m)):P lc:=by
 obtain⟨st,v,k,a,b,c,f,t,ch,ls,m,e,T⟩:=h
 rw[e]
 exact z st v k a b c f t ch ls m T
noncomputable def Pb(ns:List Int)(first W head:Int)(ahead sp:Str)(n:Nat):Fl->Lc->St->Prop:=λfl lc' σ'=>fl=.next/\TL ns first W head ahead sp (n+130) lc' σ'
theorem Uc(xs:List α)(i j:Nat)(h:i<=j):C0 xs (some (i:Int)) (some (j:Int))=(xs.drop i).take (j-i):=by
 unfold C0 JW
 rw[sliceBounds_plain]
 simp only[Option.elim,clipAt_nat]
 rw[sliceRange_one,Ef]
 rcases Nat.le_total i xs.length with h1|h1
 . rw[Nat.min_eq_left h1]
   rcases Nat.le_total j xs.length with h2|h2
   . rw[Nat.min_eq_left h2]
   . rw[Nat.min_eq_right h2,List.take_of_length_le (by rw[List.length_drop];exact Nat.le_refl _),List.take_of_length_le (by rw[List.length_drop];exact Nat.sub_le_sub_right h2 i)]
 . rw[Nat.min_eq_right h1,List.drop_of_length_le h1,List.drop_length];simp
theorem jz:∀ f∈T8,f.length<=2/\Bl f:=by
 have h:(T8.all λf=>decide (f.length<=2)&&f.cps.toList.all λc=>c==32||c==9)=true:=by decide +kernel
 intro f hf
 have:=List.all_eq_true.mp h f hf
 simp -iota only[Bool.and_eq_true,decide_eq_true_eq,List.all_eq_true,Bool.or_eq_true,beq_iff_eq] at this
 exact this
theorem m1:∀ j:Nat,j<9->(Txt.mul "x" (j:Int)).length<=8:=by decide +kernel
section
variable{W first:Int}{ns:List Int}
theorem Ms{L:List Str}{x:Int}(hL:L.length=q)(hq:0<q)(hz:q<=1000)(he:Ft es lc σ=some (L.map AV.str,σ))(h:g lc σ=some (.int (x.fmod q),σ)):∃ y∈L,A0 (Br es) g lc σ=some (.str y,σ):=by
 (refine Am (GY x (n:=q) hq) λk hk DK=>?_)
 have DK:k<L.length:=hL.symm▸DK
 refine⟨L[k],List.getElem_mem DK,E0 (Ca he (by rw[List.length_map,hL];exact Nat.le_trans hz (by decide))) h hk (by rw[List.getElem?_map,List.getElem?_eq_getElem DK];rfl) (by rw[List.length_map];omega)⟩
theorem W9.len(T:W9 σ n W ahead sp st v):15<=σ.length:=(List.getElem?_eq_some_iff.mp T.lw.li).1
theorem Xa(T:W9 σ n W ahead sp st v)(hn:n<=6000)(P:W8 W ahead sp)(hf:fws∈T8):WS tU
 (Ge ns first W head ahead sp v k a b (some (.int cv)) (some (.str fws)) t ch ls m) σ (Pb ns first W head ahead sp n):=by
 (refine Am (Ms (L:=texts) (q:=8) (x:=cv) (lc:=Ge ns first W head ahead sp v k a b (some (.int cv)) (some (.str fws)) t ch ls m) (σ:=σ) (g:=AN .Mod (nE 14) (cE (.int 8))) rfl (by decide) (by decide) (es:=[(cE (.str "a")),(cE (.str "bb;")),(cE (.str "c dd")),(cE (.str "ee,")),(cE (.str "g;h ")),(cE (.str "")),(cE (.str " ")),(cE (.str "iii"))]) rfl (Dx (a:=.int cv) (b:=.int 8) rfl rfl rfl)) λs hs e1=>?_)
 refine Cw (we e1 ⟨Ge ns first W head ahead sp v k a b (some (.int cv)) (some (.str fws)) (some (.str s)) ch ls m,rfl,?_⟩)
 (refine Ci (T9 T.fm T.bd (by omega) T.cs P hf hs) λEZ e2 F1 S1=>?_)
 refine Iw (we (bp T.fm (f:=nE 9) (xs:=[.str fws,.str s,.loc 3]) rfl rfl e2) ?_)
 have mK:=List.all_eq_true.mp (List.all_eq_true.mp mX fws hf) s hs
 (refine gv (gn mK) λuu uu uu uu uu uu Q h8=>?_)
 have Et:=T.len
 rw[CK] at h8
 (refine G7 (Ua (ns:=ns) (first:=first) (head:=head) (k:=k) (a:=a) (b:=b) (c:=some (.int cv)) (f:=some (.str fws)) (t:=some (.str s)) (ch:=ch) (ls:=ls) (m:=m) (x:=fws++s) (T.lw.keep S1 (by simp)) T.bd (by omega) P (by rw[CK];omega) Q (by have:=S1.1;omega) (g:=AN .Add (nE 15) (nE 16)) (La (x:=fws) (y:=s) rfl rfl (by omega))) λv2 ch2 N5 e3 L2 S2=>?_)
 refine BH e3 (FZ ⟨rfl,TL.mk ⟨(T.cs.keep S1 (by simp)).keep S2 (by simp),AH.keep F1 S2 (by simp) (by simp) (by simp),L2,?_⟩⟩)
 exact(T.bd.words _ Q.l Q.b).up (by have:=Q.n;omega)
theorem Ud(T:W9 σ n W ahead sp st v)(hn:n<=6000)(P:W8 W ahead sp)(hf:fws∈T8):WS tV
 (Ge ns first W head ahead sp v k a b (some (.int cv)) (some (.str fws)) t ch ls m) σ (Pb ns first W head ahead sp n):=by
 (refine Am (GY cv (n:=9) (by decide)) λj hj DK=>?_)
 have t6:=m1 j DK
 have e1:AN .Mult (cE (.str "x")) (AN .Mod (nE 14) (cE (.int 9))) (Ge ns first W head ahead sp v k a b (some (.int cv)) (some (.str fws)) t ch ls m) σ=some (.str (BG (Txt.mul "x" (j:Int)).cps.toList),σ):=by
  refine Dx (a:=.str "x") (b:=.int (cv.fmod 9)) rfl (Dx (a:=.int cv) (b:=.int 9) rfl rfl rfl) (RH.trans ?_)
  rw[show cv.fmod 9=(j:Int) from hj,AZ (decide_eq_true ⟨by show 1*_<=_;omega,by omega,by omega⟩),R0]
 generalize G6:(Txt.mul "x" (j:Int)).cps.toList=xs at e1
 have hx:xs.length<=8:=by rw[<- G6,EW];exact t6
 refine Cw (we e1 ⟨Ge ns first W head ahead sp v k a b (some (.int cv)) (some (.str fws)) (some (.str (BG xs))) ch ls m,rfl,?_⟩)
 obtain⟨⟨vs,rfl,hc⟩,Yj⟩:=id T.lw
 have H:=T.bd
 have HF:=H.fits (by omega)
 generalize Gd:Ge ns first W head ahead sp (.lst [.loc 14,.lst vs,.int st.2.1]) k a b (some (.int cv)) (some (.str fws)) (some (.str (BG xs))) ch ls m=lc
 have aU:nE 10 lc σ=some (.lst [.loc 14,.lst vs,.int st.2.1],σ):=by rw[<- Gd];rfl
 have wy:nE 16 lc σ=some (.str (BG xs),σ):=by rw[<- Gd];rfl
 have n2:∀ τ,nE 2 lc τ=some (.int W,τ):=λτ=>by rw[<- Gd];rfl
 have n4:∀ τ,nE 4 lc τ=some (.str ahead,τ):=λτ=>by rw[<- Gd];rfl
 have i2:A0 (nE 10) (cE (.int 2)) lc σ=some (.int st.2.1,σ):=E0 aU (g:=cE (.int 2)) (k:=2) rfl rfl rfl (by show 3<=_;decide)
 have i1:A0 (nE 10) (cE (.int 1)) lc σ=some (.lst vs,σ):=E0 aU (g:=cE (.int 1)) (k:=1) rfl rfl rfl (by show 3<=_;decide)
 have et:=G4 hc HF.acc (by have:=H.p;omega)
 have jn:=CF st.2.2
 have hb:=H.t
 have vZ:=Bu st.2.2
 have e2:AN .Sub (AN .Sub (nE 2) (A0 (nE 10) (cE (.int 2)))) (Av (BW AD) [(Av Bm [(A0 (nE 10) (cE (.int 1)))])]) lc σ=some (.int (BU W st),σ++[Dd st.2.2]):=by
  refine As (a:=(AV.int (W-st.2.1),σ)) (Ju (n2 σ) i2) (As (a:=(AV.int (AE st.2.2).length,σ++[Dd st.2.2])) (As (Dr (As (Dr i1) et)) (Kf.trans (AZ (decide_eq_true (by omega))))) ?_)
  show some (AV.int (W-st.2.1-((AE st.2.2).length:Int)),_)=_
  rw[jn,BU,Int.sub_sub]
 have e3:AN .Sub (nE 2) (Av (BW AD) [(nE 4)]) lc (σ++[Dd st.2.2])=some (.int (W-ahead.length),σ++[Dd st.2.2]):=Ju (n2 _) (Qg (n4 _) (by have:=P.cl;omega))
 have e4:=NO (σ:=σ++[Dd st.2.2]) (near:=BU W st) (far:=W-ahead.length) (xs:=xs) (by unfold BU;have:=P.w1;have:=H.i0;omega) (by have:=P.w1;omega) (by omega)
 have e5:Av CG [(nE 16),(AN .Sub (AN .Sub (nE 2) (A0 (nE 10) (cE (.int 2)))) (Av (BW AD) [(Av Bm [(A0 (nE 10) (cE (.int 1)))])])),(AN .Sub (nE 2) (Av (BW AD) [(nE 4)]))] lc σ=_:=As (BD wy (Ee e2 e3)) e4
 generalize hl:(σ++[Dd st.2.2]).length=l at e5
 have hl15:15<=l:=by have:=T.len;rw[<- hl,List.length_append];omega
 have jZ:(σ++[Dd st.2.2]++[AG (EX (BU W st) (W-ahead.length) xs)])[l]?=some (AG (EX (BU W st) (W-ahead.length) xs)):=by rw[<- hl];exact DH
 have S1:Bt [] σ (σ++[Dd st.2.2]++[AG (EX (BU W st) (W-ahead.length) xs)]):=(Bt.app _).trans (.app _)
 generalize σ++[Dd st.2.2]++[AG (EX (BU W st) (W-ahead.length) xs)]=EZ at e5 jZ S1
 refine Cw (we e5 ⟨Ge ns first W head ahead sp (.lst [.loc 14,.lst vs,.int st.2.1]) k a b (some (.int cv)) (some (.str fws)) (some (.str (BG xs))) ch (some (.loc l)) m,by rw[<- Gd];rfl,?_⟩)
 have L1:=T.lw.keep S1 (by simp)
 have F1:Fm EZ W ahead sp st:=AH.keep T.fm S1 (by simp) (by simp) (by simp)
 have C1:=T.cs.keep S1 (by simp)
 (refine AS (jz fws hf) λTx oP=>?_)
 (refine Ci (T7 F1 H (by omega) C1 P oP Tx hx) λN5 e6 F2 S2=>?_)
 refine Iw (we (bp F1 (f:=nE 9) (xs:=[.str fws,.str (BG xs),.loc 6]) rfl rfl e6) ?_)
 have L2:=L1.keep S2 (by simp)
 have d9:=S2.get (by simp;omega) jZ
 have HB:=H.fed P oP Tx hx (xs:=xs)
 have C2:=C1.keep S2 (by simp)
 unfold W7 at F2 HB
 by_cases G6:xs=[]
 . rw[if_pos G6] at F2 HB
   have Yd:EX (BU W st) (W-ahead.length) xs=[]:=if_pos G6
   rw[Yd] at d9
   have el:Av (BW AD) [(nE 18)] (Ge ns first W head ahead sp (.lst [.loc 14,.lst vs,.int st.2.1]) k a b (some (.int cv)) (some (.str fws)) (some (.str (BG xs))) ch (some (.loc l)) m) N5=some (.int 0,N5):=U9 (LF:=AD) (xs:=[]) rfl d9 (by decide)
   refine BH (It (Dr el) (a:=0) (b:=0) (c:=1) rfl (dT (n:=0) (by decide)) (FK (n:=999999) (Qj (n:=0)))) (FZ ⟨rfl,TL.mk ⟨C2,F2,L2,HB.up (by omega)⟩⟩)
 . rw[if_neg G6] at F2 HB
   rw[R9 G6] at d9
   rw[rest_eq] at F2 HB
   (refine AS (NQ (near:=BU W st) (far:=W-ahead.length) hx) λXh oJ=>?_)
   (refine G7 (Ub (ns:=ns) (first:=first) (head:=head) (k:=k) (a:=a) (b:=b) (c:=some (.int cv)) (t:=some (.str (BG xs))) (ch:=ch) (m:=m) L2 H (by omega) P oP Tx d9 (by omega) Xh oJ (λy h=>Qo hx h) (H.first oP Tx hx)) λv3 m3 m4 e7 L3 S3=>?_)
   exact BH e7 (FZ ⟨rfl,TL.mk ⟨C2.keep S3 (by simp),AH.keep F2 S3 (by simp) (by simp) (by simp),L3,HB.up (by omega)⟩⟩)
theorem eh(T:W9 σ n W ahead sp st v)(hn:n<=6000):WS tW
 (Ge ns first W head ahead sp v k a b c f t ch ls m) σ (Pb ns first W head ahead sp n):=by
 (refine Mu (TV T.fm (T.bd.fits (by omega))) λEZ e1 F1 S1 uu=>?_)
 refine Iw (we (bp T.fm (f:=nE 9) (xs:=[]) rfl rfl e1) ?_)
 obtain⟨⟨vs,rfl,hc⟩,Yj⟩:=T.lw.keep S1 (by simp)
 generalize Gd:Ge ns first W head ahead sp (.lst [.loc 14,.lst vs,.int st.2.1]) k a b c f t ch ls m=lc
 have aU:nE 10 lc EZ=some (.lst [.loc 14,.lst vs,.int st.2.1],EZ):=by rw[<- Gd];rfl
 have i0:A0 (nE 10) (cE (.int 0)) lc EZ=some (.loc 14,EZ):=E0 aU (g:=cE (.int 0)) (k:=0) rfl rfl rfl (by show 3<=_;decide)
 have i1:A0 (nE 10) (cE (.int 1)) lc EZ=some (.lst vs,EZ):=E0 aU (g:=cE (.int 1)) (k:=1) rfl rfl rfl (by show 3<=_;decide)
 have i2:A0 (nE 10) (cE (.int 2)) lc EZ=some (.int st.2.1,EZ):=E0 aU (g:=cE (.int 2)) (k:=2) rfl rfl rfl (by show 3<=_;decide)
 have ea:=Kp (g:=Br [(Br [(cE (.str " ")),(cE (.str ""))])]) (b:=.lst [.lst [.str " ",.str ""]]) (xs:=vs) (ys:=[.lst [.str " ",.str ""]]) i1 rfl rfl rfl rfl rfl (by have:=hc.len;have:=T.bd.p;show _+1<=_;omega)
 refine Cw (we (Ca (BD i0 (Ee ea i2)) (by show 3<=_;decide)) ⟨Ge ns first W head ahead sp (.lst [.loc 14,.lst (vs++[.lst [.str " ",.str ""]]),.int st.2.1]) k a b c f t ch ls m,by rw[<- Gd];rfl,FZ ⟨rfl,TL.mk (st:=(st.1,st.2.1,st.2.2++[((" " : Str),("" : Str))])) ⟨T.cs.keep S1 (by simp),F1,⟨⟨_,rfl,hc.app (.cons (.lst (" ", "")) .nil)⟩,Yj⟩,?_⟩⟩⟩)
 exact(T.bd.push gj).up (by show n+(1+0+1)<=_;omega)
theorem eu(T:W9 σ n W ahead sp st v)(hn:n<=6000):WS tX
 (Ge ns first W head ahead sp v k a b c f t ch ls m) σ (Pb ns first W head ahead sp n):=by
 (refine Mu (Fz T.fm (T.bd.fits (by omega))) λEZ e1 F1 S1 uu=>?_)
 refine Iw (we (bp T.fm (f:=nE 9) (xs:=[]) rfl rfl e1) ?_)
 (refine Ci (Lk (g:=nE 10) (lc:=Ge ns first W head ahead sp v k a b c f t ch ls m) (T.lw.keep S1 (by simp)) T.bd (by omega) rfl) λN5 e2 mZ S2=>?_)
 refine Cw (we (Ca (BD e2 (Ee (a:=.lst []) (b:=.int 0) rfl rfl)) (by show 3<=_;decide)) ⟨Ge ns first W head ahead sp (.lst [.loc 14,.lst [],.int 0]) k a b c f t ch ls m,rfl,FZ ⟨rfl,TL.mk (st:=(AM st.1 st.2.1 st.2.2,0,[])) ⟨(T.cs.keep S1 (by simp)).keep S2 (by simp),AH.keep F1 S2 (by simp) (by simp) (by simp),⟨⟨_,rfl,.nil⟩,mZ⟩,T.bd.nl.up (by omega)⟩⟩⟩)
theorem Xb(T:W9 σ n W ahead sp st v)(hn:n<=6000)(P:W8 W ahead sp):WS tY
 (Ge ns first W head ahead sp v k a b c (some (.str fws)) t ch ls m) σ (Pb ns first W head ahead sp n):=by
 have S1:Bt [] σ (σ++[.gen 13 1]):=.app _
 refine BH (aT T.fm T.bd (by omega) T.cs P rfl rfl rfl) (FZ ⟨rfl,TL.mk ⟨T.cs.keep S1 (by simp),AH.keep T.fm S1 (by simp) (by simp) (by simp),T.lw.keep S1 (by simp),T.bd.up (by omega)⟩⟩)
set_option tactic.hygienic true
theorem m5(T:W9 σ n W ahead sp st v)(hn:n<=6000)(P:W8 W ahead sp)(hk:kk<ns.length)(hz:ns.length<=63):WS IA (Ge ns first W head ahead sp v (some (.int (kk:Int))) a b c f t ch ls m) σ (Pb ns first W head ahead sp n):=by
 unfold IA
 obtain⟨av,bv,cv,NR⟩:∃ av bv cv:Int,(((ns.drop kk).take 3++[0,0]).take 3)=[av,bv,cv]:=by
  rw[List.drop_eq_getElem_cons hk]
  cases hr:ns.drop (kk+1) with
  |nil=>exact(EY (ns[kk]) 0 0 rfl)
  |cons c r=>cases r with
   |nil=>exact(EY (ns[kk]) c 0 rfl)
   |cons d r=>exact(EY (ns[kk]) c d rfl)
 generalize Gd:Ge ns first W head ahead sp v (some (.int (kk:Int))) a b c f t ch ls m=lc
 have n0:nE 0 lc σ=some (.lst (ns.map AV.int),σ):=by rw[<- Gd];rfl
 have rK:nE 11 lc σ=some (.int (kk:Int),σ):=by rw[<- Gd];rfl
 have e0:Cc (nE 0) (some (nE 11)) (some (AN .Add (nE 11) (cE (.int 3)))) lc σ=some (.lst (((ns.drop kk).take 3).map AV.int),σ):=by
  refine As n0 (As (a:=(some (kk:Int),σ)) (aG rK) (As (a:=(some (((kk+3:Nat)):Int),σ)) (aG (jc rK (j:=3) rfl)) (As (a:=ns.map AV.int) rfl ?_)))
  rw[AZ (decide_eq_true (by rw[List.length_map];omega)),Uc _ _ _ (Nat.le_add_right kk 3),Nat.add_sub_cancel_left,List.map_take,List.map_drop]
 have e1:=Kp e0 (Ca (lc:=lc) (σ:=σ) (es:=[cE (.int 0),cE (.int 0)]) (xs:=[.int 0,.int 0]) rfl (by show 2<=_;decide)) rfl rfl rfl rfl (by simp;omega)
 have e2:=NB (n:=3) (hi:=cE (.int 3)) e1 rfl (by simp;omega)
 have e3:((((ns.drop kk).take 3).map AV.int)++[AV.int 0,AV.int 0]).take 3=[.int av,.int bv,.int cv]:=by
  have:=congrArg (List.map AV.int) NR
  rw[List.map_take,List.map_append] at this
  exact this
 rw[e3] at e2
 refine BH (show Kd [.loc 12,.loc 13,.loc 14] _ lc σ=some (.next,Ge ns first W head ahead sp v (some (.int (kk:Int))) (some (.int av)) (some (.int bv)) (some (.int cv)) f t ch ls m,σ) from As e2 (As (a:=[.int av,.int bv,.int cv]) rfl (by rw[<- Gd];rfl))) ?_
 clear Gd n0 rK e0 e1 e2 e3 NR
 (refine Am (Ms (L:=T8) (q:=4) (x:=bv) (lc:=Ge ns first W head ahead sp v (some (.int (kk:Int))) (some (.int av)) (some (.int bv)) (some (.int cv)) f t ch ls m) (σ:=σ) (g:=AN .Mod (nE 13) (cE (.int 4))) rfl (by decide) (by decide) (es:=[(cE (.str "")),(cE (.str " ")),(cE (.str "\t")),(cE (.str "  "))]) rfl (Dx (a:=.int bv) (b:=.int 4) rfl rfl rfl)) λfws hf e4=>?_)
 refine Cw (we e4 ⟨Ge ns first W head ahead sp v (some (.int (kk:Int))) (some (.int av)) (some (.int bv)) (some (.int cv)) (some (.str fws)) t ch ls m,rfl,?_⟩)
 have em:AN .Mod (nE 12) (cE (.int 7)) (Ge ns first W head ahead sp v (some (.int (kk:Int))) (some (.int av)) (some (.int bv)) (some (.int cv)) (some (.str fws)) t ch ls m) σ=some (.int (av.fmod 7),σ):=Dx (a:=.int av) (b:=.int 7) rfl rfl rfl
 refine DD (wt (NG em (j:=2) rfl) ?_)
 by_cases h0:av.fmod 7<2
 . rw[decide_eq_true h0]
   exact Xa T hn P hf
 . rw[decide_eq_false h0]
   refine DD (wt (NG em (j:=4) rfl) ?_)
   by_cases h1:av.fmod 7<4
   . rw[decide_eq_true h1]
     exact Ud T hn P hf
   . rw[decide_eq_false h1]
     refine DD (wt (H8 em (j:=4) rfl) ?_)
     by_cases h2:av.fmod 7=4
     . rw[decide_eq_true h2]
       exact eh T hn
     . rw[decide_eq_false h2]
       refine DD (wt (H8 em (j:=5) rfl) ?_)
       by_cases h3:av.fmod 7=5
       . rw[decide_eq_true h3]
         exact eu T hn
       . rw[decide_eq_false h3]
         exact Xb T hn P
end
theorem aV:∀ n:Nat,n<64->Dm 1 (n:Int) 3=true/\Builtin.Range.rangeSize 1 (n:Int) 3=(((n+1) / 3:Nat):Int):=by decide +kernel
section
variable{W first:Int}{ns:List Int}
theorem Xc(hg:g lc σ=some (.loc 12,σ))(ha:σ[12]?=some (.acc st.2.1 st.2.2))(hn:st.2.2.length<=8000):EG (Wi g) 2 (bo 2) (PS [0,1]) Fo (Br [(nE 0),(nE 1)]) lc σ=some (.loc σ.length,σ++[.list (st.2.2.map λp=>AV.lst [.str p.1,.str p.2])]):=by
 have gp:∀ i,i<st.2.2.length->st.2.2[i]?=some (st.2.2.getD i ("", "")):=λi hi=>by simp -iota [hi]
 have Q:RZ σ (bo 2 (fH 12)) (PS [0,1]) Fo (Br [(nE 0),(nE 1)]) 2 st.2.2.length (λi=>.tup [.str (st.2.2.getD i ("", "")).1,.str (st.2.2.getD i ("", "")).2]) (λi=>[some (.str (st.2.2.getD i ("", "")).1),some (.str (st.2.2.getD i ("", "")).2)]) (λuu=>true) (λi=>.lst [.str (st.2.2.getD i ("", "")).1,.str (st.2.2.getD i ("", "")).2]):=by
  have hx:∀ acc i,fH 12 (σ++[AO.list acc]) i=some (st.2.2[i]?.map AK):=λacc i=>by
   unfold fH
   rw[Cy (Ks (n:=0) ha)]
   exact congrArg some (List.getElem?_map ..)
  refine⟨λi hi acc=>?_,λacc=>?_,λi hi=>fU,λuu uu=>rfl,λuu uu uu=>rfl,λi hi uu acc=>rfl⟩
  . refine As (a:=some (AK (st.2.2.getD i ("", "")))) (by rw[hx,gp i hi];rfl) (As (a:=[AV.str (st.2.2.getD i ("", "")).1,.str (st.2.2.getD i ("", "")).2]) rfl (AZ rfl))
  . exact As (a:=none) (by rw[hx];simp) rfl
 have ec:=Gv (tn:=bo 2) (lc:=lc) (dX hg ha) Q (by omega)
 rw[Ic st.2.2 ("", "") (λuu=>true) (λp=>AV.lst [.str p.1,.str p.2]),List.filter_eq_self.mpr (λuu uu=>rfl)] at ec
 exact ec
theorem eA(ps:List (Str×Str)):E1 15 σ (ps.map λp=>AV.lst [.str p.1,.str p.2]) ps:=by
 induction ps with
 |nil=>exact .nil
 |cons p ps ih=>exact .cons (.lst p) ih
theorem tail3(T:W9 σ n W ahead sp st v)(hn:n<=6000)(P:W8 W ahead sp):WS (Ah [ru,rv,rx,ry,rz,rA])
 (Ge ns first W head ahead sp v k a b c f t ch ls m) σ λfl uu uu=>fl=.ret (.bool true):=by
 have H:=T.bd
 have HF:=H.fits (by omega)
 obtain⟨⟨vs,rfl,hc⟩,Yj⟩:=T.lw
 refine BH (lc':=[some (.lst (ns.map AV.int)),some (.int first),some (.int W),some (.int st.2.1),some (.str ahead),some (.str sp),some (.loc 3),some (.loc 6),some (.loc 9),some (.loc 13),some (.lst [.loc 14,.lst vs,.int st.2.1]),k,a,b,c,f,t,ch,ls,m,some (.loc 14),some (.lst vs)]) (σ':=σ) rfl ?_
 generalize Gd:[some (AV.lst (ns.map AV.int)),some (AV.int first),some (AV.int W),some (AV.int st.2.1),some (AV.str ahead),some (AV.str sp),some (AV.loc 3),some (AV.loc 6),some (AV.loc 9),some (AV.loc 13),some (AV.lst [.loc 14,.lst vs,.int st.2.1]),k,a,b,c,f,t,ch,ls,m,some (AV.loc 14),some (AV.lst vs)]=lc
 have n3:∀ τ:St,nE 3 lc τ=some (.int st.2.1,τ):=λτ=>by rw[<- Gd];rfl
 have n9:∀ τ:St,nE 9 lc τ=some (.loc 13,τ):=λτ=>by rw[<- Gd];rfl
 have aU:∀ τ:St,nE 10 lc τ=some (.lst [.loc 14,.lst vs,.int st.2.1],τ):=λτ=>by rw[<- Gd];rfl
 have rL:∀ τ:St,nE 20 lc τ=some (.loc 14,τ):=λτ=>by rw[<- Gd];rfl
 have ug:∀ τ:St,nE 21 lc τ=some (.lst vs,τ):=λτ=>by rw[<- Gd];rfl
 -- Um Ap
 have c1:AL .NotEq (Bk 4 (nE 9)) (nE 20) lc σ=some (false,σ):=Cv (Lb (n9 σ) T.fm) (rL σ) ((aE T.fm.li Yj).trans (by rw[decide_eq_true rfl];rfl))
 refine DD (wt c1 ?_)
 -- Um open Li
 have a5:=U4 (n9 σ) T.fm
 have ec:=Xc (st:=st) a5 T.fm.acc (by have:=H.p;omega)
 have S1:Bt [] σ (σ++[.list (st.2.2.map λp=>AV.lst [.str p.1,.str p.2])]):=.app _
 have hg:(σ++[AO.list (st.2.2.map λp=>AV.lst [.str p.1,.str p.2])])[σ.length]?=some (.list (st.2.2.map λp=>AV.lst [.str p.1,.str p.2])):=DH
 generalize σ++[AO.list (st.2.2.map λp=>AV.lst [.str p.1,.str p.2])]=EZ at ec S1 hg
 have p1:Dj EZ 4 (.loc σ.length)=some (.list (st.2.2.map Ma)):=by
  rw[H6,AY hg,Option.bind_some,(eA st.2.2).pd 1];rfl
 have p2:Dj EZ 4 (.lst vs)=some (.list (st.2.2.map Ma)):=by rw[GV,(hc.keep S1 (by simp)).pd 1];rfl
 have c2:AL .NotEq (EG (Wi (Bk 5 (nE 9))) 2 (bo 2) (PS [0,1]) Fo (Br [(nE 0),(nE 1)])) (nE 21) lc σ=some (false,EZ):=As ec (As (ug EZ) (Fp (U7 p1 p2 (by rw[PyData.eqv,Jy,decide_eq_true rfl]))))
 refine DD (wt c2 ?_)
 have F1:Fm EZ W ahead sp st:=AH.keep T.fm S1 (by simp) (by simp) (by simp)
 have L1:=Lw.keep (v:=.lst [.loc 14,.lst vs,.int st.2.1]) ⟨⟨vs,rfl,hc⟩,Yj⟩ S1 (by simp)
 have rC:=hc.keep S1 (by simp)
 -- sM length
 have et:=G4 rC HF.acc (by have:=H.p;omega)
 have jn:=CF st.2.2
 have hb:=H.t
 have S2:Bt [] EZ (EZ++[Dd st.2.2]):=.app _
 generalize EZ++[Dd st.2.2]=N5 at et S2
 have e3:Av (BW AD) [(Bk 5 (nE 9))] lc EZ=some (.int (st.2.1+Ag st.2.2),EZ):=As (Dr (U4 (n9 EZ) F1)) (len_eq F1.acc HF.acc H.i0 (by have:=H.i1;omega))
 have e4:Av (BW AD) [(Av Bm [(nE 21)])] lc EZ=some (.int (AE st.2.2).length,N5):=As (Dr (As (Dr (ug EZ)) et)) (Kf.trans (AZ (decide_eq_true (by omega))))
 have e5:AN .Add (nE 3) (Av (BW AD) [(Av Bm [(nE 21)])]) lc EZ=some (.int (st.2.1+Ag st.2.2),N5):=As (n3 EZ) (As e4 (by rw[jn];rfl))
 have c3:AL .NotEq (Av (BW AD) [(Bk 5 (nE 9))]) (AN .Add (nE 3) (Av (BW AD) [(Av Bm [(nE 21)])])) lc EZ=some (false,N5):=As e3 (As e5 (Fp (U7 (x:=.int (st.2.1+Ag st.2.2)) H5 H5 (by simp[PyData.eqv]))))
 refine DD (wt c3 ?_)
 have F2:Fm N5 W ahead sp st:=AH.keep F1 S2 (by simp) (by simp) (by simp)
 (refine Ci (Lk (g:=nE 10) (lc:=lc) (L1.keep S2 (by simp)) H (by omega) (aU N5)) λm4 e6 mZ S3=>?_)
 have F3:Fm m4 W ahead sp st:=AH.keep F2 S3 (by simp) (by simp) (by simp)
 refine Cw (we e6 ⟨lc,by rw[<- Gd];rfl,?_⟩)
 (refine Mu (WQ (sep := "\n") F3 HF (by decide)) λaW e7 F4 S4 uu=>?_)
 have m6:aW[14]?=some (.list (CW (AM st.1 st.2.1 st.2.2))):=S4.get (by simp) mZ
 have g1:mE 3 Rn (nE 9) [(cE (.str "\n"))] lc m4=some (.str (Txt.join "\n" (AM st.1 st.2.1 st.2.2)),aW):=bp F3 (n9 m4) (xs:=[.str "\n"]) rfl e7
 have g2:mE 1 J3 (cE (.str "\n")) [(nE 20)] lc aW=some (.str (Txt.join "\n" (AM st.1 st.2.1 st.2.2)),aW):=mS (x := "\n") rfl (Dr (rL aW)) (Qf m6 (O0 HF (by decide)))
 have g3:AL .Eq (mE 3 Rn (nE 9) [(cE (.str "\n"))]) (mE 1 J3 (cE (.str "\n")) [(nE 20)]) lc m4=some (true,aW):=As g1 (As g2 (Fp (a:=true) (by
  show aeqv aW _ _=_
  rw[Gu C9 C9,PyData.eqv];simp)))
 have g4:AL .Eq (Bk 4 (nE 9)) (nE 20) lc aW=some (true,aW):=Cv (Lb (n9 aW) F4) (rL aW) ((aF F4.li m6).trans (by rw[decide_eq_true rfl]))
 exact Ho (jl (we (U1 g3) ⟨true,rfl,we (U1 g4) rfl⟩))
theorem m7(T:W9 σ 0 W ahead sp ([],head,[]) v)(P:W8 W ahead sp)(hz:ns.length<=63):WS (Ah [GP 11 [(cE (.int 1)),(Av (BW AD) [(nE 0)]),(cE (.int 3))] IA (Ah []),ru,rv,rx,ry,rz,rA])
 (Ge ns first W head ahead sp v none none none none none none none none none) σ λfl uu uu=>fl=.ret (.bool true):=by
 (refine AS (aV ns.length (by omega)) λr1 r2=>?_)
 refine dQ (n:=(ns.length+1) / 3) (xs:=[.int 1,.int ns.length,.int 3]) (a:=1) (b:=ns.length) (c:=3) (λi=>TL ns first W head ahead sp (130*i)) (σ':=σ) ?_ rfl r1 r2 (by omega) (.mk T) ?_ ?_
 . refine BD (σ₁:=σ) rfl (Ee (b:=.int 3) (σ₂:=σ) (f:=Av (BW AD) [(nE 0)]) (a:=.int ns.length) (σ₁:=σ) (As (a:=([.lst (ns.map AV.int)],σ)) rfl ?_) rfl)
   rw[RJ,AZ (decide_eq_true (by rw[List.length_map];omega)),List.length_map]
 . intro i _ τ hi h
   refine TL.elim h λst v k a b c f t ch ls m T=>⟨Ge ns first W head ahead sp v (some (.int ((1+3*i:Nat):Int))) a b c f t ch ls m,?_,(m5 T (by omega) P (kk:=1+3*i) (by omega) hz).imp λfl lc' σ' q=>⟨.inl q.1,q.2⟩⟩
   rw[show(1:Int)+3*(i:Int)=((1+3*i:Nat):Int) by omega]
   rfl
 . intro _ τ h
   exact TL.elim h λst v k a b c f t ch ls m T=>tail3 T (by omega) P
end
theorem JD{st:Lc->AV->Option Lc}{f:EM}{g:Nat}{x:AV}(h1:nx σ i=some (some x))(h2:st lc x=some lc₁)(h3:f lc₁ σ=some (v,σ₁))(h4:Bv [.loc g,v] σ₁=some (u,σ₂)):FV nx st Fo f g (n+1) i lc σ=FV nx st Fo f g n (i+1) lc₁ σ₂:=As h1 (As h2 (As rfl (As h3 (As h4 rfl))))
theorem Ue{st:Lc->AV->Option Lc}{f:EM}{g:Nat}(h1:nx σ i=some none):FV nx st Fo f g (n+1) i lc σ=some σ:=As h1 rfl
noncomputable def Ug:List Str:=[" ", "\t", "  "]
variable{f:Addr}
noncomputable def aX:List Str:=[";, \t", " ", ">; ", "", "\t, ", " >"]
theorem Xd:∀ f∈Ug,f.length<=2/\Bl f:=by
 have h:(Ug.all λf=>decide (f.length<=2)&&f.cps.toList.all λc=>c==32||c==9)=true:=by decide +kernel
 intro f hf
 have:=List.all_eq_true.mp h f hf
 simp -iota only[Bool.and_eq_true,decide_eq_true_eq,List.all_eq_true,Bool.or_eq_true,beq_iff_eq] at this
 exact this
theorem aY:∀ f∈aX,f.cps.size<=10:=by decide +kernel
theorem KA(h:Ft es lc σ=some ([.int hl,.int ml,.str cw,.str sp],σ))(hz:cw.length<=1000000):Av Ji es lc σ=some (.loc (σ.length+2),σ++[.list [],.acc hl [],.fmt ml cw cw.length sp σ.length (σ.length+1)]) :=
 As h (AZ (decide_eq_true hz))
noncomputable abbrev bq(j:Nat):List AO:=[.list [],.acc 0 [],.fmt 0 "" 0 "" j (j+1)]
theorem Uh:EG (Ry [(cE (.int 3))]) 1 id (λlc y=>putL lc 0 y) Fo (Av Ji [(cE (.int 0)),(cE (.int 0)),(cE (.str "")),(cE (.str ""))]) lc []=some (.loc 0,.list [.loc 3,.loc 6,.loc 9]::(bq 1++bq 4++bq 7)):=by
 refine As (a:=(IU 0 3 1,[])) rfl (Fp ?_)
 have z:∀ xs:List AV,xs.length<=3->xs.length<=sizeLine:=λxs h=>by rw[sizeLine_eq];omega
 refine(JD (n:=999999) (rp (by decide)) (lc₁:=[some (.int (0:Nat))]) rfl (KA (hl:=0) (ml:=0) (cw := "") (sp := "") rfl (by decide)) (DP (xs:=[]) rfl (z _ (by simp)))).trans ?_
 refine(JD (n:=999998) (rp (by decide)) (lc₁:=[some (.int (1:Nat))]) rfl (KA (hl:=0) (ml:=0) (cw := "") (sp := "") rfl (by decide)) (DP (xs:=[.loc 3]) rfl (z _ (by simp)))).trans ?_
 refine(JD (n:=999997) (rp (by decide)) (lc₁:=[some (.int (2:Nat))]) rfl (KA (hl:=0) (ml:=0) (cw := "") (sp := "") rfl (by decide)) (DP (xs:=[.loc 3,.loc 6]) rfl (z _ (by simp)))).trans ?_
 exact Ue (n:=999996) dS
noncomputable abbrev Sd(ns:List Int)(xs:List (Option AV)):Lc:=some (.lst (ns.map AV.int))::xs
theorem wz(x:Int):0<=x.fmod 15/\x.fmod 15<=20:=Am (GY x (n:=15) (by decide)) λk h hk=>by
 rw[show x.fmod 15=(k:Int) from h]
 exact⟨Int.natCast_nonneg _,Int.ofNat_le.mpr (Nat.le_trans (Nat.le_of_lt hk) (by decide))⟩
theorem m3(x:Int):0<=x.fmod 3*4/\x.fmod 3*4<=8:=Am (GY x (n:=3) (by decide)) λk h hk=>by
 rw[show x.fmod 3=(k:Int) from h]
 omega
theorem jA(L:Nat)(ns:List Int)(hz:ns.length<=63):∃ σ',X9 fW (R4 L) [.lst (ns.map AV.int)] (Jq L 0)=some (.bool true,σ'):=by
 suffices h:WS (R4 L) (Lo fW [.lst (ns.map AV.int)]) [] λfl uu uu=>fl=.ret (.bool true) by
  obtain⟨fl,lc',σ',e,rfl⟩:=h
  exact⟨σ',by unfold X9;rw[show Jq L 0=[] from rfl,e];rfl⟩
 unfold R4
 show WS _ (Sd ns [none,none,none,none,none,none,none,none,none,none,none,none,none,none,none,none,none,none,none,none,none]) [] _
 have e0:Cc (nE 0) none (some (cE (.int 63))) (Sd ns [none,none,none,none,none,none,none,none,none,none,none,none,none,none,none,none,none,none,none,none,none]) []=some (.lst (ns.map AV.int),[]):=by
  have:=NB (n:=63) (hi:=cE (.int 63)) (f:=nE 0) (lc:=Sd ns [none,none,none,none,none,none,none,none,none,none,none,none,none,none,none,none,none,none,none,none,none]) (σ:=[]) (xs:=ns.map AV.int) rfl rfl (by rw[List.length_map];exact Nat.le_trans hz (by decide))
  rw[List.take_of_length_le (by rw[List.length_map];exact hz)] at this
  exact this
 refine Cw (we e0 ⟨_,rfl,?_⟩)
 obtain⟨first,e1⟩:∃ first:Int,A0 (AN .Add (nE 0) (Br [(cE (.int 0))])) (cE (.int 0)) (Sd ns [none,none,none,none,none,none,none,none,none,none,none,none,none,none,none,none,none,none,none,none,none]) []=some (.int first,[]):=by
  have e:=Kp (f:=nE 0) (lc:=Sd ns [none,none,none,none,none,none,none,none,none,none,none,none,none,none,none,none,none,none,none,none,none]) (σ:=[]) (a:=.lst (ns.map AV.int)) (xs:=ns.map AV.int) rfl (Ca (es:=[cE (.int 0)]) (xs:=[.int 0]) rfl (by show 1<=_;decide)) rfl rfl rfl rfl (by simp;omega)
  cases ns with
  |nil=>exact⟨0,E0 e (g:=cE (.int 0)) (k:=0) rfl rfl rfl (by show 1<=_;decide)⟩
  |cons x r=>exact⟨x,E0 e (g:=cE (.int 0)) (k:=0) rfl rfl rfl (by simp at hz ⊢;omega)⟩
 refine Cw (we e1 ⟨Sd ns [some (.int first),none,none,none,none,none,none,none,none,none,none,none,none,none,none,none,none,none,none,none,none],rfl,?_⟩)
 -- Um numbers
 (refine Am (GY (first.fdiv 15) (n:=3) (by decide)) λkH wA hH=>?_)
 refine Cw (we (v:=.int (first.fmod 15)) (σ':=[]) (Dx (a:=.int first) (b:=.int 15) rfl rfl rfl) ⟨_,rfl,?_⟩)
 refine Cw (we (v:=.int ((first.fdiv 15).fmod 3*4)) (σ':=[]) (Dx (a:=.int ((first.fdiv 15).fmod 3)) (b:=.int 4) (Dx (a:=.int (first.fdiv 15)) (b:=.int 3) (Dx (a:=.int first) (b:=.int 15) rfl rfl rfl) rfl rfl) rfl (Z3.trans (AZ (decide_eq_true (by
  have:(first.fdiv 15).fmod 3=(kH:Int):=wA
  rw[this];omega))))) ⟨_,rfl,?_⟩)
 have rM:=wz first
 have G9:=m3 (first.fdiv 15)
 generalize first.fmod 15=W at rM ⊢
 generalize (first.fdiv 15).fmod 3*4=head at G9 ⊢
 -- blanks ahead,signs
 (refine Am (Ms (L:=Ug) (q:=3) (x:=first.fdiv 45) (lc:=Sd ns [some (.int first),some (.int W),some (.int head),none,none,none,none,none,none,none,none,none,none,none,none,none,none,none,none,none,none]) (σ:=[]) (g:=AN .Mod (AN .FloorDiv (nE 1) (cE (.int 45))) (cE (.int 3))) rfl (by decide) (by decide) (es:=[(cE (.str " ")),(cE (.str "\t")),(cE (.str "  "))]) rfl (Dx (a:=.int (first.fdiv 45)) (b:=.int 3) (Dx (a:=.int first) (b:=.int 45) rfl rfl rfl) rfl rfl)) λahead wB e2=>?_)
 refine Cw (we e2 ⟨_,rfl,?_⟩)
 (refine Am (Ms (L:=aX) (q:=6) (x:=first.fdiv 135) (lc:=Sd ns [some (.int first),some (.int W),some (.int head),some (.str ahead),none,none,none,none,none,none,none,none,none,none,none,none,none,none,none,none,none]) (σ:=[]) (g:=AN .Mod (AN .FloorDiv (nE 1) (cE (.int 135))) (cE (.int 6))) rfl (by decide) (by decide) (es:=[(cE (.str ";, \t")),(cE (.str " ")),(cE (.str ">; ")),(cE (.str "")),(cE (.str "\t, ")),(cE (.str " >"))]) rfl (Dx (a:=.int (first.fdiv 135)) (b:=.int 6) (Dx (a:=.int first) (b:=.int 135) rfl rfl rfl) rfl rfl)) λsp az e3=>?_)
 refine Cw (we e3 ⟨_,rfl,?_⟩)
 (refine AS (Xd ahead wB) λgc NR=>?_)
 -- Um charsets
 let B3:List (Option AV):=[none,none,none,none,none,none,none,none,none,none,none,none]
 refine BH (lc':=Sd ns (some (.int first)::some (.int W)::some (.int head)::some (.str ahead)::some (.str sp)::some (.loc 3)::some (.loc 6)::some (.loc 9)::none::B3)) (σ':=.list [.loc 3,.loc 6,.loc 9]::(bq 1++bq 4++bq 7)) (As Uh rfl) ?_
 refine BH (lc':=Sd ns (some (.int first)::some (.int W)::some (.int head)::some (.str ahead)::some (.str sp)::some (.loc 3)::some (.loc 6)::some (.loc 9)::none::B3)) (σ':=[.list [.loc 3,.loc 6,.loc 9],.list [],.acc 0 [],.ext 7 [.int 0,.str "",.int 0,.str "",.loc 1,.loc 2,.none]]++bq 4++bq 7) rfl ?_
 refine BH (lc':=Sd ns (some (.int first)::some (.int W)::some (.int head)::some (.str ahead)::some (.str sp)::some (.loc 3)::some (.loc 6)::some (.loc 9)::none::B3)) (σ':=[.list [.loc 3,.loc 6,.loc 9],.list [],.acc 0 [],.ext 7 [.int 0,.str "",.int 0,.str "",.loc 1,.loc 2,.none],.list [],.acc 0 [],.ext 7 [.int 0,.str "",.int 0,.str "",.loc 4,.loc 5,.int 1]]++bq 7) rfl ?_
 refine BH (lc':=Sd ns (some (.int first)::some (.int W)::some (.int head)::some (.str ahead)::some (.str sp)::some (.loc 3)::some (.loc 6)::some (.loc 9)::none::B3)) (σ':=[.list [.loc 3,.loc 6,.loc 9],.list [],.acc 0 [],.ext 7 [.int 0,.str "",.int 0,.str "",.loc 1,.loc 2,.none],.list [],.acc 0 [],.ext 8 [.int 0,.str "",.int 0,.str "",.loc 4,.loc 5,.int 1,.loc 10]]++bq 7++[.ext 1 []]) rfl ?_
 refine BH (lc':=Sd ns (some (.int first)::some (.int W)::some (.int head)::some (.str ahead)::some (.str sp)::some (.loc 3)::some (.loc 6)::some (.loc 9)::none::B3)) (σ':=[.list [.loc 3,.loc 6,.loc 9],.list [],.acc 0 [],.ext 7 [.int 0,.str "",.int 0,.str "",.loc 1,.loc 2,.none],.list [],.acc 0 [],.ext 8 [.int 0,.str "",.int 0,.str "",.loc 4,.loc 5,.int 1,.loc 10],.list [],.acc 0 [],.ext 7 [.int 0,.str "",.int 0,.str "",.loc 7,.loc 8,.int 2],.ext 1 []]) rfl ?_
 let oQ:St:=[.list [.loc 3,.loc 6,.loc 9],.list [],.acc 0 [],.ext 7 [.int 0,.str "",.int 0,.str "",.loc 1,.loc 2,.none],.list [],.acc 0 [],.ext 8 [.int 0,.str "",.int 0,.str "",.loc 4,.loc 5,.int 1,.loc 10],.list [],.acc 0 [],.ext 9 [.int 0,.str "",.int 0,.str "",.loc 7,.loc 8,.int 2],.ext 1 []]
 refine BH (lc':=Sd ns (some (.int first)::some (.int W)::some (.int head)::some (.str ahead)::some (.str sp)::some (.loc 3)::some (.loc 6)::some (.loc 9)::none::B3)) (σ':=oQ) rfl ?_
 -- Um formatter
 have f2:=KA (lc:=Sd ns (some (.int first)::some (.int W)::some (.int head)::some (.str ahead)::some (.str sp)::some (.loc 3)::some (.loc 6)::some (.loc 9)::none::B3)) (σ:=oQ) (es:=[(nE 3),(nE 2),(nE 4),(nE 5)]) (hl:=head) (ml:=W) (cw:=ahead) (sp:=sp) rfl (by omega)
 refine Cw (we f2 ⟨Sd ns (some (.int first)::some (.int W)::some (.int head)::some (.str ahead)::some (.str sp)::some (.loc 3)::some (.loc 6)::some (.loc 9)::some (.loc 13)::B3),rfl,?_⟩)
 -- Um law's state
 have f3:Br [(FN []),(Br []),(nE 3)] (Sd ns (some (.int first)::some (.int W)::some (.int head)::some (.str ahead)::some (.str sp)::some (.loc 3)::some (.loc 6)::some (.loc 9)::some (.loc 13)::B3)) (oQ++[.list [],.acc head [],.fmt W ahead ahead.length sp 11 12])=some (.lst [.loc 14,.lst [],.int head],oQ++[.list [],.acc head [],.fmt W ahead ahead.length sp 11 12]++[.list []]) :=
  Ca (BD (Ib (es:=[]) (xs:=[]) rfl (by decide)) (Ee (a:=.lst []) (b:=.int head) rfl rfl)) (by show 3<=_;decide)
 refine Cw (we f3 ⟨Ge ns first W head ahead sp (.lst [.loc 14,.lst [],.int head]) none none none none none none none none none,rfl,?_⟩)
 exact m7 (ahead:=ahead) ⟨⟨rfl,rfl,rfl,rfl⟩,⟨rfl,rfl,rfl⟩,⟨⟨[],rfl,.nil⟩,rfl⟩,⟨Nat.le_refl _,Int.le_refl _,Nat.le_refl _,G9.1,G9.2,λp hp=>nm hp⟩⟩ ⟨rM.1,rM.2,NR,gc,aY sp az⟩ hz
noncomputable abbrev oR:List (Addr×Addr):=[(159,155),(166,162),(244,242)]
noncomputable def m8(q:Str)(ns:List Str):Stmt->dp
 | .Assign _ (.Lambda ps b sc _) _=>⟨q,ps,b,sc,ns⟩
 | _=>⟨q,⟨[],[],none,[],[],none,[]⟩,.Constant .none 0 ⟨0,0,0,0⟩,default,ns⟩
noncomputable def jB(w:World):dp:=m8 "law.<locals>.<lambda>" [] ((Cf (noTabs (hd.heap_1 w.params) (oR.map (·.2))) 245)[9]?.getD (.Pass ⟨0,0,0,0⟩))
noncomputable def XL(w:World):Nat->Addr×Addr->List Value->Obj->Obj->Prop:=λk=>if k=1 then Tr (jB w) else if k=9 then LG w.params 109 211 else mh w.params 109 k
noncomputable abbrev gq(w:World)(s₁:Shared):Cfg:=EO Challenge.rw_dm0091_02.row.prog w (hd.heap_1 w.params) s₁ 109 193 oR (λ_ _ _=>True) (XL w)
noncomputable abbrev Ao(w:World)(s₁:Shared):Cfg:=EO Challenge.rw_dm0091_02.row.prog w (hd.heap_1 w.params) s₁ 109 193 oR (iI (model Challenge.rw_dm0091_02.row.prog w) (Cf (gq w s₁).K 92) (Ba (gq w s₁) 92)) (XL w)
theorem oS:∀ t∈oR,Dg (hd.heap_1 w.params) t.1 t.2=true:=by
 have a0:Dg (hd.heap_1 w.params) 159 155=true:=by left
 have a1:Dg (hd.heap_1 w.params) 166 162=true:=by left
 have a2:Dg (hd.heap_1 w.params) 244 242=true:=by left
 intro t h
 simp at h
 rcases h with rfl|rfl|rfl
 . exact a0
 . exact a1
 . exact a2
theorem HL(S:Start (hd.heap_1 w.params) s₁ mg mb):Aq (Ao w s₁):=V3 S (by decide) (by decide) (by decide)
theorem rN(S:Start (hd.heap_1 w.params) s₁ mg mb):HJ (Ao w s₁):=V4 S oS (by decide)
theorem Ht:Bg (Ao w s₁):=⟨
 (by left),
 (by left),
 (by left),
 (upTo 5 (upTo 4 (upTo 3 (upTo 2 (upTo 1 (upTo 0 Mw (by left)) (by left)) (by left)) (by left)) (by left)) (by left)),
 (by left),
 (by left),
 (by left),
 (by left),
 (by left)⟩
theorem Fq:DV (Ao w s₁):=⟨by left,by left,by left⟩
theorem Ga:Eb (Ao w s₁):=⟨by left⟩
theorem jC:Hd (Ao w s₁) 160 167 64:=⟨by left,by left,by left,by left,by left,by left,by left⟩
theorem Qp:Gw (Ao w s₁):=⟨⟨_,rfl,rfl,rfl⟩,by left,by left,by left,by left⟩
theorem Pc:takerIn (Ao w s₁).K (Ao w s₁).ACC "_initial_size" = some none:=by left
theorem aZ:CZ (Ao w s₁) (Ao w s₁).ACC:=⟨by left,_,rfl,rfl,.inl rfl⟩
theorem Pd:CZ (Ao w s₁) (Ao w s₁).VF:=⟨by left,_,rfl,rfl,.inr rfl⟩
theorem jD(S:Start (hd.heap_1 w.params) s₁ mg mb)(L:Addr)(ks:(Ba (Ao w s₁) f L).kindOf "super" = some .globalImplicit)(kc:(Ba (Ao w s₁) f L).kindOf "__class__" = some .free)(fn:∃ of fd ar,(Ao w s₁).K.lookup f=some of/\of.data=.func fd/\(fd.params.posonlyargs++fd.params.args).head?=some ar/\Aa[0]?=some ar.arg)(code:∃ cc oc vs QN tf,(Ba (Ao w s₁) f L).code=.ref cc/\(Ao w s₁).K.lookup cc=some oc/\oc.data=.fields vs/\vs[2]?=some (.str QN tf)/\(((Ao w s₁).prog.main.file:Str)==QN)=true)(cell:∃ c oc,(Ba (Ao w s₁) f L).cells.lookup ("__class__" : Str)=some c/\(Ao w s₁).K.lookup c=some oc/\oc.data=.cell (some (.ref (Ao w s₁).ACC))):JN (Ao w s₁) (Ba (Ao w s₁) f L) Aa:=⟨
 ks,kc,(Sj fn λof fd ar a b c d=>(Lm f of fd ar ⟨rfl,a,b,c,d⟩)),code,(by left),(EB (HL (w:=w) S).kin S.g S.b (by left) (by left)),cell⟩
theorem eB:Wo (Ao w s₁):=⟨λk h uu=>(if_neg (by omega)).trans (if_neg (by omega)),upTo 7 (upTo 6 (upTo 5 (upTo 4 (upTo 3 (upTo 2 (upTo 1 (upTo 0 Mw (λn e=>by cases e;left)) (λn e=>by cases e;left)) (λn e=>by cases e;left)) (λn e=>by cases e;left)) (λn e=>by cases e;left)) (λn e=>by cases e;left)) (λn e=>by cases e;left)) (λn e=>by cases e;left)⟩
theorem ba:(Ao w s₁).X 1=Tr (jB w):=show XL w 1=Tr (jB w) from if_pos rfl
theorem jE:(Ao w s₁).X 9=LG w.params 109 211:=show XL w 9=_ from (if_neg (by decide)).trans (if_pos rfl)
theorem FC(S:Start (hd.heap_1 w.params) s₁ mg mb):Ay (Ao w s₁) "IndexError" (.type "IndexError"):=EB (HL (w:=w) S).kin S.g S.b (by left) (by left)
theorem Vi(S:Start (hd.heap_1 w.params) s₁ mg mb):Ay (Ao w s₁) "str" (.type "str"):=EB (HL (w:=w) S).kin S.g S.b (by left) (by left)
theorem Fe(S:Start (hd.heap_1 w.params) s₁ mg mb):Ay (Ao w s₁) "len" (.builtin "len"):=EB (HL (w:=w) S).kin S.g S.b (by left) (by left)
theorem m9(S:Start (hd.heap_1 w.params) s₁ mg mb):Ay (Ao w s₁) "sum" (.builtin "sum"):=EB (HL (w:=w) S).kin S.g S.b (by left) (by left)
theorem IB(S:Start (hd.heap_1 w.params) s₁ mg mb):Ay (Ao w s₁) "range" (.type "range"):=EB (HL (w:=w) S).kin S.g S.b (by left) (by left)
theorem nc(S:Start (hd.heap_1 w.params) s₁ mg mb):Ay (Ao w s₁) "zip" (.type "zip"):=EB (HL (w:=w) S).kin S.g S.b (by left) (by left)
theorem jF(S:Start (hd.heap_1 w.params) s₁ mg mb):Ay (Ao w s₁) "iter" (.builtin "iter"):=EB (HL (w:=w) S).kin S.g S.b (by left) (by left)
set_option tactic.hygienic true
theorem Ui(S:Start (hd.heap_1 w.params) s₁ mg mb):Ay (Ao w s₁) "next" (.builtin "next"):=EB (HL (w:=w) S).kin S.g S.b (by left) (by left)
set_option tactic.hygienic false
theorem nh(S:Start (hd.heap_1 w.params) s₁ mg mb):Ay (Ao w s₁) "max" (.builtin "max"):=EB (HL (w:=w) S).kin S.g S.b (by left) (by left)
theorem ni(S:Start (hd.heap_1 w.params) s₁ mg mb):Ay (Ao w s₁) "min" (.builtin "min"):=EB (HL (w:=w) S).kin S.g S.b (by left) (by left)
theorem De(h:keepIn (Ao w s₁).K (.ref f)=true):BJ (Ao w s₁) (.ref f):=gG h
theorem rO:C7 (Ao w s₁) 137 ["self", "fws", "string"] 3:=⟨by left,by left,by left,by left,by left⟩
theorem bb(S:Start (hd.heap_1 w.params) s₁ mg mb):BF (Ao w s₁) 11 137 Gm:=by
 have H:=HL (w:=w) S;have HC:=Ht (w:=w) (s₁:=s₁)
 refine J8 H rO (by decide +kernel) (Y6 λa b c=>by left) λL He=>?_
 exact Ae (B4 He (Bb H (Y5 H HC (by left) (by left)) Ak (EE H HC) (Ab He rfl) (Ac (OE (Ac (Ab He rfl) (Ac (Ab He rfl) Af rfl) rfl)) Af rfl) (λuu uu=>rfl) (by decide) rfl) rfl) Aw
theorem rP:C7 (Ao w s₁) 190 ["self"] 1:=⟨by left,by left,by left,by left,by left⟩
theorem nj(S:Start (hd.heap_1 w.params) s₁ mg mb):BF (Ao w s₁) 11 190 fz:=by
 have H:=HL (w:=w) S;have HC:=Ht (w:=w) (s₁:=s₁)
 refine fC H rP (by decide +kernel) (L8 λa=>by left) λL He=>?_
 exact PN (Rp H HC He Qp (jD S L (by left) (by left) (EY _ _ _ ⟨rfl,rfl,rfl,rfl⟩) (j9 _ _ _ _ _ ⟨rfl,rfl,rfl,rfl,by left⟩) (B6 _ _ ⟨rfl,rfl,rfl⟩)) (by left) rfl) Y2
theorem rQ:C7 (Ao w s₁) 153 ["self"] 1:=⟨by left,by left,by left,by left,by left⟩
theorem Vj(S:Start (hd.heap_1 w.params) s₁ mg mb):BM (Ao w s₁) 4 "part_count" (.ref 190):=OG (HL (w:=w) S) Ht (by left) (by left) (by decide +kernel)
theorem nk(S:Start (hd.heap_1 w.params) s₁ mg mb):BF (Ao w s₁) 13 153 K0:=by
 have H:=HL (w:=w) S;have HC:=Ht (w:=w) (s₁:=s₁)
 refine fC H rQ (by decide +kernel) (L8 λa=>by left) λL He=>?_
 refine PN (qC (DX (Bs (Bb H (Vj S) (De (by left)) ((nj S).call (by decide)) (Ab He rfl) Af (λuu uu=>rfl) (by decide) rfl) AB rfl) (Ae (EP (OE (Ac (Bf (by decide +kernel)) (Ac (Bf (by decide +kernel)) Af rfl) rfl))) Aw) Aw)) ?_
 exact PN (lU H HC He Qp (jD S L (by left) (by left) (EY _ _ _ ⟨rfl,rfl,rfl,rfl⟩) (j9 _ _ _ _ _ ⟨rfl,rfl,rfl,rfl,by left⟩) (B6 _ _ ⟨rfl,rfl,rfl⟩)) (by left) rfl) Y2
theorem rR:C7 (Ao w s₁) 160 ["self"] 1:=⟨by left,by left,by left,by left,by left⟩
theorem nq(S:Start (hd.heap_1 w.params) s₁ mg mb):BF (Ao w s₁) 11 160 AD:=by
 have H:=HL (w:=w) S;have HC:=Ht (w:=w) (s₁:=s₁)
 refine J8 H rR (by decide +kernel) (L8 λa=>by left) λL He=>?_
 exact Ae (Y3 H HC Fq (rN S) He (t:=(159,155,#[])) ⟨by simp[EO],by left,by left,by left,by intro y hy;revert y;decide,by left,rfl⟩ ⟨by left,by left,by left,by left⟩ (Fe S) (m9 S) (by left)) Aw
theorem rS:C7 (Ao w s₁) 167 ["self"] 1:=⟨by left,by left,by left,by left,by left⟩
theorem rT(S:Start (hd.heap_1 w.params) s₁ mg mb):BF (Ao w s₁) 11 167 Hj:=by
 have H:=HL (w:=w) S;have HC:=Ht (w:=w) (s₁:=s₁)
 refine J8 H rS (by decide +kernel) (L8 λa=>by left) λL He=>?_
 obtain⟨te,hE⟩:∃ te,Ay (Ao w s₁) "EMPTYSTRING" (.str "" te):=⟨_,EA H.kin S.g rfl⟩
 exact Ae (Y4 H HC Fq (rN S) He (t:=(166,162,#[])) ⟨by simp[EO],by left,by left,by left,by intro y hy;revert y;decide,by left,rfl⟩ ⟨by left,by left,by left,by left⟩ hE (by left) rfl rfl) Aw
theorem rU:C7 (Ao w s₁) 145 ["self", "i", "popped"] 2:=⟨by left,by left,by left,by left,by left⟩
theorem rV(S:Start (hd.heap_1 w.params) s₁ mg mb):BF (Ao w s₁) 11 145 J5:=by
 have H:=HL (w:=w) S;have HC:=Ht (w:=w) (s₁:=s₁)
 refine Y1 (m:=2) (dxs:=[]) (dv:=[]) H rU (by decide +kernel) (λuu uu=>.nil) (λs X=>Tc λa b=>binds_K X rfl rfl rfl rfl (by left)) λL He=>?_
 exact Ae (B0 He rfl (Fx H HC Fq Ga (Ab He rfl) (IM (Ab He rfl)) IL) rfl) (Ae (PM H HC Fq Ga (B5 Af) (Ab He rfl) (IM (Ab He rfl)) IL rfl) (Ae (EP (Ab He rfl)) Aw))
theorem nr:C7 (Ao w s₁) 175 ["self", "startval"] 2:=⟨by left,by left,by left,by left,by left⟩
theorem nu(S:Start (hd.heap_1 w.params) s₁ mg mb):BF (Ao w s₁) 12 175 HU:=by
 have H:=HL (w:=w) S;have HC:=Ht (w:=w) (s₁:=s₁)
 have B:∀ L,Cd (Ba (Ao w s₁) 175 L) ["self", "startval"]->BB (Ao w s₁) 11 (Ba (Ao w s₁) 175 L) ["self", "startval"] (Cf (Ao w s₁).K 175) M5:=by
  intro L He
  exact Ae (DX (Bs (Ab He rfl) Jp rfl) (Ae (B0 He rfl (B5 Af) rfl) Aw) Aw) (Ae (PM H HC Fq Ga (Ab He rfl) (Ab He rfl) IL IL rfl) (Ae (lS H aZ Pc (Ab He rfl) AB rfl) Aw))
 exact⟨JK.or (Y1 (m:=1) (dxs:=[.none]) (dv:=[.none]) H nr (by decide +kernel) (λuu uu=>.cons .none .nil) (λs X=>L8 λa=>binds_K X rfl rfl rfl rfl (by left)) B).run (Y1 (m:=2) (dxs:=[]) (dv:=[]) H nr (by decide +kernel) (λuu uu=>.nil) (λs X=>Tc λa b=>binds_K X rfl rfl rfl rfl (by left)) B).run⟩
theorem Fs(S:Start (hd.heap_1 w.params) s₁ mg mb)(h:12<=d):BC (Ao w s₁) d (.builtin "len") (BW AD):=lV (d':=11) (HL (w:=w) S) jC (nq S) h
theorem Vk(S:Start (hd.heap_1 w.params) s₁ mg mb)(h:13<=d):BC (Ao w s₁) d (.type "str") (NW Hj j0):=iy (d':=11) (HL (w:=w) S) jC ((rT S).call (by decide)) lW h
theorem uh:HV (Ao w s₁) 92:=⟨by left,by left,by left,by left,by left,λv=>by left⟩
theorem uk(S:Start (hd.heap_1 w.params) s₁ mg mb):BF (Ao w s₁) 11 92 DY:=l0 (HL (w:=w) S) uh rfl
set_option tactic.hygienic true
theorem Uj(S:Start (hd.heap_1 w.params) s₁ mg mb):BC (Ao w s₁) 16 (.builtin "next") (En Eo Ep):=by
 have H:=HL (w:=w) S;have HC:=Ht (w:=w) (s₁:=s₁)
 exact dg (d:=13) H uh rfl rfl (λL He=>BN (Bc H HC rfl (Ab He rfl) (λuu uu=>rfl)) (AU H He (Fe S) (by left) Ak (Fs S (by decide)) (Ac (Bc H HC rfl (Ab He rfl) (λuu uu=>rfl)) Af rfl) (by decide +kernel))) (λL He=>BN (Bc H HC rfl (Ab He rfl) (λuu uu=>rfl)) (Bc H HC rfl (Ab He rfl) (λuu uu=>rfl)))
set_option tactic.hygienic false
theorem rW:C7 (Ao w s₁) 182 ["self"] 1:=⟨by left,by left,by left,by left,by left⟩
theorem rX(S:Start (hd.heap_1 w.params) s₁ mg mb):BF (Ao w s₁) 16 182 Im:=by
 have H:=HL (w:=w) S;have HC:=Ht (w:=w) (s₁:=s₁)
 refine J8 H rW (by decide +kernel) (L8 λa=>by left) λL He=>?_
 exact Ae (EP (YZ (YY (Bc H HC rfl (Ab He rfl) (λuu uu=>rfl)) AB rfl) (fB (iu H jC ((nq S).call (by decide)) (Ab He rfl)) (Bb H m_isspace Ak OF (AU H He (Vi S) (by left) FG (Vk S (by decide)) (Ac (Ab He rfl) Af rfl) (by decide +kernel)) Af (λuu uu=>rfl) (by decide) rfl)))) Aw
theorem bc:JT (Ao w s₁) 130:=⟨(Lm _ _ _ _ ⟨rfl,rfl,rfl,rfl⟩),by left,by left,by left,by left⟩
theorem rY:C7 (Ao w s₁) 130 ["self", "initial_size"] 2:=⟨by left,by left,by left,by left,by left⟩
theorem nv(S:Start (hd.heap_1 w.params) s₁ mg mb):BC (Ao w s₁) 12 (.ref 193) SD:=by
 have H:=HL (w:=w) S;have HC:=Ht (w:=w) (s₁:=s₁)
 have F:=rY (w:=w) (s₁:=s₁)
 exact⟨VH (d:=10) H HC Qp bc aZ Pc (F.okD (m:=2) (dxs:=[]) (dv:=[]) H (λuu uu=>.nil) (λs X=>Tc λa b=>binds_K X rfl rfl rfl rfl (by left))) (λL=>jD S L (by left) (by left) (EY _ _ _ ⟨rfl,rfl,rfl,rfl⟩) (j9 _ _ _ _ _ ⟨rfl,rfl,rfl,rfl,by left⟩) (B6 _ _ ⟨rfl,rfl,rfl⟩)) (by left) (by rfl) (λL=>by left) (λL=>rfl) (λL=>rfl)⟩
theorem wC:C7 (Ao w s₁) 50 ["self", "headerlen", "maxlen", "continuation_ws", "splitchars"] 5:=⟨by left,by left,by left,by left,by left⟩
theorem gr(S:Start (hd.heap_1 w.params) s₁ mg mb):BC (Ao w s₁) 16 (.ref 109) Ji:=by
 have H:=HL (w:=w) S;have HC:=Ht (w:=w) (s₁:=s₁)
 refine c7 (d:=14) (LF:=AD) H (by left) (by left) (by left) Pd wC (qD λa b c d e=>by left) λL He=>?_
 have gA:Ay (Ao w s₁) "_Accumulator" (.ref 193):=EA H.kin S.g (by left)
 exact Io (by left) (Ab He rfl) (Io (by left) (Ab He rfl) (Io (by left) (AU H He (Fe S) (by left) Ak (Fs S (by decide)) (Ac (Ab He rfl) Af rfl) (by decide +kernel))
  (Io (by left) (Ab He rfl) (Io (by left) (K3 Af) (Io (by left) (AU H He gA (by left) (De (by left)) ((nv S).up (by decide)) (Ac (Ab He rfl) Af rfl) (by decide +kernel)) iz rfl) rfl) rfl) rfl) rfl) rfl
theorem jG:SN (Ao w s₁) "push" 137:=⟨by left,by left,by left,by left,by left,by left,by decide +kernel⟩
theorem Mt(S:Start (hd.heap_1 w.params) s₁ mg mb):BM (Ao w s₁) 4 "push" (.ref 137):=OG (HL (w:=w) S) Ht (by left) (by left) (by decide +kernel)
theorem bf(S:Start (hd.heap_1 w.params) s₁ mg mb):BM (Ao w s₁) 4 "pop" (.ref 153):=OG (HL (w:=w) S) Ht (by left) (by left) (by decide +kernel)
theorem Se(S:Start (hd.heap_1 w.params) s₁ mg mb):BM (Ao w s₁) 4 "pop_from" (.ref 145):=OG (HL (w:=w) S) Ht (by left) (by left) (by decide +kernel)
theorem Sf(S:Start (hd.heap_1 w.params) s₁ mg mb):BM (Ao w s₁) 4 "reset" (.ref 175):=OG (HL (w:=w) S) Ht (by left) (by left) (by decide +kernel)
theorem Qq(S:Start (hd.heap_1 w.params) s₁ mg mb):BM (Ao w s₁) 4 "is_onlyws" (.ref 182):=OG (HL (w:=w) S) Ht (by left) (by left) (by decide +kernel)
theorem N6(S:Start (hd.heap_1 w.params) s₁ mg mb):BM (Ao w s₁) 4 "part_count" (.ref 190):=Vj S
theorem jH(S:Start (hd.heap_1 w.params) s₁ mg mb):BM (Ao w s₁) 3 "_str" (.ref 57):=M6 (HL (w:=w) S) Ht (by left) (by left) (by decide +kernel)
theorem IC(S:Start (hd.heap_1 w.params) s₁ mg mb):BM (Ao w s₁) 3 "newline" (.ref 71):=M6 (HL (w:=w) S) Ht (by left) (by left) (by decide +kernel)
theorem Ll(S:Start (hd.heap_1 w.params) s₁ mg mb):BM (Ao w s₁) 3 "add_transition" (.ref 78):=M6 (HL (w:=w) S) Ht (by left) (by left) (by decide +kernel)
theorem Uk(S:Start (hd.heap_1 w.params) s₁ mg mb):BM (Ao w s₁) 3 "feed" (.ref 85):=M6 (HL (w:=w) S) Ht (by left) (by left) (by decide +kernel)
theorem I3(S:Start (hd.heap_1 w.params) s₁ mg mb):BM (Ao w s₁) 3 "_maxlengths" (.ref 92):=M6 (HL (w:=w) S) Ht (by left) (by left) (by decide +kernel)
theorem Ie(S:Start (hd.heap_1 w.params) s₁ mg mb):BM (Ao w s₁) 3 "_ascii_split" (.ref 99):=M6 (HL (w:=w) S) Ht (by left) (by left) (by decide +kernel)
theorem Hu(S:Start (hd.heap_1 w.params) s₁ mg mb):BM (Ao w s₁) 3 "_append_chunk" (.ref 106):=M6 (HL (w:=w) S) Ht (by left) (by left) (by decide +kernel)
theorem wD:BJ (Ao w s₁) (.ref 57):=De (by left)
theorem oT:BJ (Ao w s₁) (.ref 71):=De (by left)
theorem wF:BJ (Ao w s₁) (.ref 78):=De (by left)
theorem rZ:BJ (Ao w s₁) (.ref 85):=De (by left)
theorem um:BJ (Ao w s₁) (.ref 92):=De (by left)
theorem uo:BJ (Ao w s₁) (.ref 99):=De (by left)
theorem ny:BJ (Ao w s₁) (.ref 106):=De (by left)
theorem eD:BJ (Ao w s₁) (.ref 137):=De (by left)
theorem r7:BJ (Ao w s₁) (.ref 145):=De (by left)
theorem nA:BJ (Ao w s₁) (.ref 153):=De (by left)
theorem nB:BJ (Ao w s₁) (.ref 175):=De (by left)
theorem r8:BJ (Ao w s₁) (.ref 182):=De (by left)
theorem r9:BJ (Ao w s₁) (.ref 190):=De (by left)
theorem nC:BJ (Ao w s₁) (.ref 109):=De (by left)
theorem G5(S:Start (hd.heap_1 w.params) s₁ mg mb):Ay (Ao w s₁) "_ValueFormatter" (.ref 109):=EA (HL (w:=w) S).kin S.g (by left)
theorem nD:BJ (Ao w s₁) (.ref 204):=De (by left)
theorem LU(S:Start (hd.heap_1 w.params) s₁ mg mb):Ay (Ao w s₁) "_law_coded" (.ref 204):=EA (HL (w:=w) S).kin S.g (by left)
theorem N7(S:Start (hd.heap_1 w.params) s₁ mg mb):Ay (Ao w s₁) "_law_failing" (.ref 211):=EA (HL (w:=w) S).kin S.g (by left)
theorem sb:BJ (Ao w s₁) (.ref 216):=De (by left)
theorem Sg(S:Start (hd.heap_1 w.params) s₁ mg mb):Ay (Ao w s₁) "_law_words" (.ref 216):=EA (HL (w:=w) S).kin S.g (by left)
theorem bg:BJ (Ao w s₁) (.ref 221):=De (by left)
theorem Gb(S:Start (hd.heap_1 w.params) s₁ mg mb):Ay (Ao w s₁) "_law_text" (.ref 221):=EA (HL (w:=w) S).kin S.g (by left)
theorem sd:BJ (Ao w s₁) (.ref 228):=De (by left)
theorem Ul(S:Start (hd.heap_1 w.params) s₁ mg mb):Ay (Ao w s₁) "_law_rank" (.ref 228):=EA (HL (w:=w) S).kin S.g (by left)
theorem eE:BJ (Ao w s₁) (.ref 235):=De (by left)
theorem FD(S:Start (hd.heap_1 w.params) s₁ mg mb):Ay (Ao w s₁) "_law_closed" (.ref 235):=EA (HL (w:=w) S).kin S.g (by left)
theorem nF:BJ (Ao w s₁) (.ref 240):=De (by left)
theorem LV(S:Start (hd.heap_1 w.params) s₁ mg mb):Ay (Ao w s₁) "_law_added" (.ref 240):=EA (HL (w:=w) S).kin S.g (by left)
theorem wG:YR (Ao w s₁) 36 35:=⟨(jM _ _ _ _ _ _ rfl),(Lm _ _ _ _ ⟨rfl,by left⟩)⟩
theorem eF:∀ o,(Ao w s₁).K.lookup 36=some o->o.dict=none:=by
 have e:((Ao w s₁).K.lookup 36).map (·.dict)=some none:=by left
 intro o ho
 rw[ho] at e
 exact Option.some.inj e
theorem se(S:Start (hd.heap_1 w.params) s₁ mg mb):Ay (Ao w s₁) "_twin_re_1" (.ref 36):=EA (HL (w:=w) S).kin S.g (by left)
theorem sg:C7 (Ao w s₁) 204 ["text", "near", "far", "lines", "size"] 3:=⟨by left,by left,by left,by left,by left⟩
theorem nG(S:Start (hd.heap_1 w.params) s₁ mg mb):BF (Ao w s₁) 31 204 CG:=by
 have H:=HL (w:=w) S;have HC:=Ht (w:=w) (s₁:=s₁)
 refine J8 H sg (by decide +kernel) (Y6 λa b c=>by left) λL He=>?_
 have jI:(Ba (Ao w s₁) 204 L).kindOf "max" = some .globalImplicit:=by left
 exact(Ae (B0 He rfl (K3 Af) rfl) (Ae (B0 He rfl (BN (Ab He rfl) AB) rfl) (Ae (dB (Bs (Ab He rfl) (Bf (by decide +kernel)) rfl) (Ae (DX (fA (DN (Bs (Ab He rfl) AB rfl) (DN (Bs (Ab He rfl) (B5 Af) rfl) K2))) (Ae (B0 He rfl (AU H He (nh S) jI Ak lZ (Ac (Ab He rfl) (Ac AB Af rfl) rfl) (by decide +kernel)) rfl) (Ae (B4 He (Bb H E8 Ak (EE H HC) (Ab He rfl) (Ac (BN (BN (Bf (by decide +kernel)) (Mj (Ab He rfl) IL (IM (Ab He rfl)))) (Bf (by decide +kernel))) Af rfl) (λuu uu=>rfl) (by decide) rfl) rfl) (Ae (B0 He rfl (Mj (Ab He rfl) (IM (Ab He rfl)) IL) rfl) Aw))) (Ae (B4 He (Bb H E8 Ak (EE H HC) (Ab He rfl) (Ac Jp Af rfl) (λuu uu=>rfl) (by decide) rfl) rfl) Aw)) (Ae (B0 He rfl (BN (Ab He rfl) AB) rfl) Aw)) Aw) (Ae (EP (Ab He rfl)) Aw))))
set_option tactic.hygienic true
theorem nH(S:Start (hd.heap_1 w.params) s₁ mg mb):RD (Ao w s₁) 33 dY:=by
 have H:=HL (w:=w) S
 refine i5 H ba (by decide) (by left) (by left) (λcl pm ou iV=>Tc λa b=>by left) λenv hs hc He=>?_
 have GD:env.kindOf "_law_coded" = some .globalImplicit:=by unfold Env.kindOf;rw[hs];left
 have Vl:env.kindOf "next" = some .globalImplicit:=by unfold Env.kindOf;rw[hs];left
 exact AU H He (LU S) GD nD ((nG S).call (by decide)) (Ac (Ab He rfl) (Ac (AU H He (Ui S) Vl Ak ((Uj S).up (by decide)) (Ac (Ab He rfl) Af rfl) (by decide +kernel)) (Ac (AU H He (Ui S) Vl Ak ((Uj S).up (by decide)) (Ac (Ab He rfl) Af rfl) (by decide +kernel)) Af rfl) rfl) rfl) (by decide +kernel)
set_option tactic.hygienic false
theorem wH:C7 (Ao w s₁) 71 ["self", "end_of_line"] 1:=⟨by left,by left,by left,by left,by left⟩
theorem oU(S:Start (hd.heap_1 w.params) s₁ mg mb):BF (Ao w s₁) 18 71 ED:=by
 have H:=HL (w:=w) S;have HC:=Ht (w:=w) (s₁:=s₁)
 refine J8 H wH (by decide +kernel) (L8 λa=>by left) λL He=>?_
 have kd_len:(Ba (Ao w s₁) 71 L).kindOf "len" = some .globalImplicit:=by left
 have Qr:(Ba (Ao w s₁) 71 L).kindOf "str" = some .globalImplicit:=by left
 exact(Ae (B0 He rfl (Bb H (bf S) nA ((nk S).call (by decide)) (Bc H HC rfl (Ab He rfl) (λuu uu=>rfl)) Af (λuu uu=>rfl) (by decide) rfl) rfl) (Ae (DX (Bs (Ab He rfl) (OE (Ac (Bf (by decide +kernel)) (Ac (Bf (by decide +kernel)) Af rfl) rfl)) rfl) (Ae (B4 He (S9 H HC jG (bb S) (by decide) (Bc H HC rfl (Ab He rfl) (λuu uu=>rfl)) (Ab He rfl) (λuu uu=>rfl)) rfl) Aw) Aw) (Ae (DX (Bs (AU H He (Fe S) kd_len Ak (Fs S (by decide)) (Ac (Bc H HC rfl (Ab He rfl) (λuu uu=>rfl)) Af rfl) (by decide +kernel)) AB rfl) (Ae (DX (PK (DN (SY (Bb H (Qq S) r8 ((rX S).call (by decide)) (Bc H HC rfl (Ab He rfl) (λuu uu=>rfl)) Af (λuu uu=>rfl) (by decide) rfl) (λuu=>rfl)) (DN (SY (Bc H HC rfl (Ab He rfl) (λuu uu=>rfl)) (λuu=>rfl)) K2))) (Ae (J6 H HC Fq Ga (Bc H HC rfl (Ab He rfl) (λuu uu=>rfl)) (Gn AB) (AU H He (Vi S) Qr FG (Vk S (by decide)) (Ac (Bc H HC rfl (Ab He rfl) (λuu uu=>rfl)) Af rfl) (by decide +kernel)) (λuu uu uu=>rfl)) Aw) (Ae (B4 He (Bb H E8 Ak (EE H HC) (Bc H HC rfl (Ab He rfl) (λuu uu=>rfl)) (Ac (AU H He (Vi S) Qr FG (Vk S (by decide)) (Ac (Bc H HC rfl (Ab He rfl) (λuu uu=>rfl)) Af rfl) (by decide +kernel)) Af rfl) (λuu uu=>rfl) (by decide) rfl) rfl) Aw)) Aw) Aw) (Ae (B4 He (Bb H (Sf S) nB ((nu S).call (by decide)) (Bc H HC rfl (Ab He rfl) (λuu uu=>rfl)) Af (λuu uu=>rfl) (by decide) rfl) rfl) Aw))))
theorem wI:C7 (Ao w s₁) 57 ["self", "linesep"] 2:=⟨by left,by left,by left,by left,by left⟩
theorem wJ(S:Start (hd.heap_1 w.params) s₁ mg mb):BF (Ao w s₁) 20 57 Rn:=by
 have H:=HL (w:=w) S;have HC:=Ht (w:=w) (s₁:=s₁)
 refine J8 H wI (by decide +kernel) (Tc λa b=>by left) λL He=>?_
 exact(Ae (B4 He (Bb H (IC S) oT ((oU S).call (by decide)) (Ab He rfl) Af (λuu uu=>rfl) (by decide) rfl) rfl) (Ae (EP (Bb H Tb Ak Ta (Ab He rfl) (Ac (Bc H HC rfl (Ab He rfl) (λuu uu=>rfl)) Af rfl) (λuu uu=>rfl) (by decide) rfl)) Aw))
theorem sh:C7 (Ao w s₁) 106 ["self", "fws", "string", "ch", "i", "prevpart", "part", "remainder"] 3:=⟨by left,by left,by left,by left,by left⟩
theorem nK(S:Start (hd.heap_1 w.params) s₁ mg mb):BF (Ao w s₁) 22 106 Jm:=by
 have H:=HL (w:=w) S;have HC:=Ht (w:=w) (s₁:=s₁)
 refine J8 H sh (by decide +kernel) (Y6 λa b c=>by left) λL He=>?_
 have kd_len:(Ba (Ao w s₁) 106 L).kindOf "len" = some .globalImplicit:=by left
 have kd_range:(Ba (Ao w s₁) 106 L).kindOf "range" = some .globalImplicit:=by left
 have Qr:(Ba (Ao w s₁) 106 L).kindOf "str" = some .globalImplicit:=by left
 exact(Ae (B4 He (Bb H (Mt S) eD ((bb S).call (by decide)) (Bc H HC rfl (Ab He rfl) (λuu uu=>rfl)) (Ac (Ab He rfl) (Ac (Ab He rfl) Af rfl) rfl) (λuu uu=>rfl) (by decide) rfl) rfl) (Ae (DX (Bs (AU H He (Fe S) kd_len Ak (Fs S (by decide)) (Ac (Bc H HC rfl (Ab He rfl) (λuu uu=>rfl)) Af rfl) (by decide +kernel)) (Bc H HC rfl (Ab He rfl) (λuu uu=>rfl)) rfl) (Ae (UI He rfl (Bc H HC rfl (Ab He rfl) (λuu uu=>rfl)) (Ae (PL H He rfl (IB S) kd_range (Ac (BN (Bb H (N6 S) r9 ((nj S).call (by decide)) (Bc H HC rfl (Ab He rfl) (λuu uu=>rfl)) Af (λuu uu=>rfl) (by decide) rfl) AB) (Ac AB (Ac (Gn AB) Af rfl) rfl) rfl) (Ae (DX (SY (Bb H m_isspace Ak OF (Ab He rfl) Af (λuu uu=>rfl) (by decide) rfl) (λuu=>rfl)) (Ae (B0 He rfl (Cp H HC Fq Ga (Cp H HC Fq Ga (Bc H HC rfl (Ab He rfl) (λuu uu=>rfl)) (Ab He rfl)) AB) rfl) (Ae (DX (PK (DN (SY (Ab He rfl) (λuu=>rfl)) (DN (Bs (Cp H HC Fq Ga (Ab He rfl) AB) (Ab He rfl) rfl) K2))) (Ae Y0 Aw) Aw) Aw)) Aw) (Ae (B0 He rfl (Cp H HC Fq Ga (Cp H HC Fq Ga (Bc H HC rfl (Ab He rfl) (λuu uu=>rfl)) (BN (Ab He rfl) AB)) AB) rfl) (Ae (DX (PK (DN (SY (Ab He rfl) (λuu=>rfl)) (DN (Bs (Cp H HC Fq Ga (Ab He rfl) (Gn AB)) (Ab He rfl) rfl) K2))) (Ae Y0 Aw) Aw) Aw))) (Ae iw Aw)) (Ae Y0 Aw)) (Ae (lQ He rfl rfl (Bb H (bf S) nA ((nk S).call (by decide)) (Bc H HC rfl (Ab He rfl) (λuu uu=>rfl)) Af (λuu uu=>rfl) (by decide) rfl) rfl rfl) (Ae (DX (Bs (Bc H HC rfl (Bc H HC rfl (Ab He rfl) (λuu uu=>rfl)) (λuu uu=>rfl)) AB rfl) (Ae (B4 He (Bb H (IC S) oT ((oU S).call (by decide)) (Ab He rfl) Af (λuu uu=>rfl) (by decide) rfl) rfl) (Ae (DX (ir (SY (Ab He rfl) (λuu=>rfl))) (Ae (B0 He rfl (Bf (by decide +kernel)) rfl) Aw) Aw) Aw)) Aw) (Ae (B4 He (Bb H (Mt S) eD ((bb S).call (by decide)) (Bc H HC rfl (Ab He rfl) (λuu uu=>rfl)) (Ac (Ab He rfl) (Ac (Ab He rfl) Af rfl) rfl) (λuu uu=>rfl) (by decide) rfl) rfl) (Ae S0 Aw)))) (λuu=>rfl)) (Ae (B0 He rfl (Bb H (Se S) r7 ((rV S).call (by decide)) (Bc H HC rfl (Ab He rfl) (λuu uu=>rfl)) (Ac (Ab He rfl) Af rfl) (λuu uu=>rfl) (by decide) rfl) rfl) (Ae (B4 He (Bb H E8 Ak (EE H HC) (Bc H HC rfl (Ab He rfl) (λuu uu=>rfl)) (Ac (AU H He (Vi S) Qr FG (Vk S (by decide)) (Ac (Bc H HC rfl (Ab He rfl) (λuu uu=>rfl)) Af rfl) (by decide +kernel)) Af rfl) (λuu uu=>rfl) (by decide) rfl) rfl) (Ae (B4 He (Bb H (Sf S) nB ((nu S).call (by decide)) (Bc H HC rfl (Ab He rfl) (λuu uu=>rfl)) (Ac (Ab He rfl) Af rfl) (λuu uu=>rfl) (by decide) rfl) rfl) Aw)))) Aw) Aw))
theorem wK:C7 (Ao w s₁) 99 ["self", "fws", "string", "splitchars", "parts", "part"] 4:=⟨by left,by left,by left,by left,by left⟩
theorem uq(S:Start (hd.heap_1 w.params) s₁ mg mb):BF (Ao w s₁) 25 99 Jn:=by
 have H:=HL (w:=w) S;have HC:=Ht (w:=w) (s₁:=s₁)
 refine J8 H wK (by decide +kernel) (Y7 λa b c d=>by left) λL He=>?_
 have N8:(Ba (Ao w s₁) 99 L).kindOf "_twin_re_1" = some .globalImplicit:=by left
 have eG:(Ba (Ao w s₁) 99 L).kindOf "iter" = some .globalImplicit:=by left
 have jJ:(Ba (Ao w s₁) 99 L).kindOf "zip" = some .globalImplicit:=by left
 exact(Ae (B0 He rfl (V7 H He wG eF (se S) N8 (BN (Ab He rfl) (Ab He rfl)) (by decide +kernel) rfl rfl) rfl) (Ae (DX (SY (Cp H HC Fq Ga (Ab He rfl) AB) (λuu=>rfl)) (Ae (PM H HC Fq Ga (B5 (Ac (Bf (by decide +kernel)) Af rfl)) (Ab He rfl) IL (IM AB) rfl) Aw) (Ae (B4 He (Bb H Mi Ak UJ (Ab He rfl) (Ac AB Af rfl) (λuu uu=>rfl) (by decide) rfl) rfl) Aw)) (Ae (lR H He rfl rfl (nc S) jJ (jF S) eG (Ab He rfl) (Ae (B4 He (Bb H (Hu S) ny ((nK S).call (by decide)) (Ab He rfl) (Ac (Ab He rfl) (Ac (Ab He rfl) Af rfl) rfl) (λuu uu=>rfl) (by decide) rfl) rfl) Aw) Aw rfl) Aw)))
theorem wL:C7 (Ao w s₁) 78 ["self"] 1:=⟨by left,by left,by left,by left,by left⟩
theorem wM(S:Start (hd.heap_1 w.params) s₁ mg mb):BF (Ao w s₁) 20 78 Td:=by
 have H:=HL (w:=w) S;have HC:=Ht (w:=w) (s₁:=s₁)
 refine J8 H wL (by decide +kernel) (L8 λa=>by left) λL He=>?_
 exact(Ae (B4 He (Bb H (Mt S) eD ((bb S).call (by decide)) (Bc H HC rfl (Ab He rfl) (λuu uu=>rfl)) (Ac (Bf (by decide +kernel)) (Ac (Bf (by decide +kernel)) Af rfl) rfl) (λuu uu=>rfl) (by decide) rfl) rfl) Aw)
theorem ur:C7 (Ao w s₁) 85 ["self", "fws", "string", "charset", "encoded_lines", "first_line", "last_line", "line"] 4:=⟨by left,by left,by left,by left,by left⟩
theorem uv(S:Start (hd.heap_1 w.params) s₁ mg mb):XF (Ao w s₁) 697 85 R1:=by
 have H:=HL (w:=w) S;have HC:=Ht (w:=w) (s₁:=s₁)
 refine q8 H ur (by decide +kernel) (Y7 λa b c d=>by left) (by decide) λL He=>?_
 have E2:(Ba (Ao w s₁) 85 L).kindOf "IndexError" = some .globalImplicit:=by left
 exact(HY (K6 (DX (Bs (dA H HC eB (k:=6) rfl (Ab He rfl) (λuu uu=>rfl)) Jp rfl) (Ae (B4 He (Bb H (Ie S) uo ((uq S).call (by decide)) (Ab He rfl) (Ac (Ab He rfl) (Ac (Ab He rfl) (Ac (Bc H HC rfl (Ab He rfl) (λuu uu=>rfl)) Af rfl) rfl) rfl) (λuu uu=>rfl) (by decide) rfl) rfl) (Ae S0 Aw)) Aw)) (HY (K6 (B0 He rfl (Tw H HC eB (k:=7) rfl ((nH S).up (by decide)) (Ab He rfl) (Ac (Ab He rfl) (Ac (Bb H (I3 S) um ((uk S).call (by decide)) (Ab He rfl) Af (λuu uu=>rfl) (by decide) rfl) Af rfl) rfl) (λuu uu=>rfl) (by decide) rfl) rfl)) (HY (fL H He rfl (Ac AB Af rfl) (by decide) rfl (B0 He rfl (Bb H Mi Ak UJ (Ab He rfl) (Ac AB Af rfl) (λuu uu=>rfl) (by decide) rfl) rfl) (FC S) E2) (HY (K6 (DX (Bs (Ab He rfl) Jp rfl) (Ae (B4 He (Bb H (Hu S) ny ((nK S).call (by decide)) (Ab He rfl) (Ac (Ab He rfl) (Ac (Ab He rfl) Af rfl) rfl) (λuu uu=>rfl) (by decide) rfl) rfl) Aw) Aw)) (HY (fL H He rfl Af (by decide) rfl (B0 He rfl (Bb H Mi Ak iT (Ab He rfl) Af (λuu uu=>rfl) (by decide) rfl) rfl) (FC S) E2) (HY (K6 (B4 He (Bb H (IC S) oT ((oU S).call (by decide)) (Ab He rfl) Af (λuu uu=>rfl) (by decide) rfl) rfl)) (HY (K6 (B4 He (Bb H (Mt S) eD ((bb S).call (by decide)) (Bc H HC rfl (Ab He rfl) (λuu uu=>rfl)) (Ac (Bc H HC rfl (Ab He rfl) (λuu uu=>rfl)) (Ac (Ab He rfl) Af rfl) rfl) (λuu uu=>rfl) (by decide) rfl) rfl)) (HY (K6 (UI He rfl (Ab He rfl) (Ae (B4 He (Bb H E8 Ak (EE H HC) (Bc H HC rfl (Ab He rfl) (λuu uu=>rfl)) (Ac (BN (Bc H HC rfl (Ab He rfl) (λuu uu=>rfl)) (Ab He rfl)) Af rfl) (λuu uu=>rfl) (by decide) rfl) rfl) Aw) Aw (λuu=>rfl))) ma))))))))
theorem sj:C7 (Ao w s₁) 211 ["text", "rooms"] 2:=⟨by left,by left,by left,by left,by left⟩
set_option tactic.hygienic true
theorem jK(S:Start (hd.heap_1 w.params) s₁ mg mb):rl (Ao w s₁) 697 85 4 ["self", "fws", "string", "charset", "encoded_lines", "first_line", "last_line", "line"] NJ:=by
 have H:=HL (w:=w) S;have HC:=Ht (w:=w) (s₁:=s₁)
 have N9:∀ L,(Ba (Ao w s₁) 211 L).kindOf "IndexError" = some .globalImplicit:=λL=>by left
 have eH:∀ L,(Ba (Ao w s₁) 211 L).kindOf "next" = some .globalImplicit:=λL=>by left
 refine rm H ur (by decide +kernel) (Y7 λa b c d=>by left) λL env0 He=>?_
 exact i6 (DX (Bs (dG H HC eB jE (k:=6) rfl (Ab He rfl) (λuu uu=>rfl)) Jp rfl) (Ae (B4 He (Bb H (Ie S) uo ((uq S).call (by decide)) (Ab He rfl) (Ac (Ab He rfl) (Ac (Ab He rfl) (Ac (Bc H HC rfl (Ab He rfl) (λuu uu=>rfl)) Af rfl) rfl) rfl) (λuu uu=>rfl) (by decide) rfl) rfl) (Ae S0 Aw)) Aw) (i7 H He HC eB jE sj (by decide +kernel) (Tc λa b=>by left) rfl (λL He=>(Ac (BN (Ab He rfl) (AU H He (Ui S) (eH L) Ak ((Uj S).up (by decide)) (Ac (Ab He rfl) Af rfl) (by decide +kernel))) Af rfl)) (FC S) N9 (Ab He rfl) (Ac (Ab He rfl) (Ac (Bb H (I3 S) um ((uk S).call (by decide)) (Ab He rfl) Af (λuu uu=>rfl) (by decide) rfl) Af rfl) rfl) (λuu uu=>rfl) (by decide) rfl rfl)
set_option tactic.hygienic false
theorem sk:C7 (Ao w s₁) 216 ["text", "chunks", "sign"] 1:=⟨by left,by left,by left,by left,by left⟩
theorem sm(S:Start (hd.heap_1 w.params) s₁ mg mb):BF (Ao w s₁) 33 216 EJ:=by
 have H:=HL (w:=w) S;have HC:=Ht (w:=w) (s₁:=s₁)
 refine J8 H sk (by decide +kernel) (L8 λa=>by left) λL He=>?_
 exact(Ae (B0 He rfl (K3 (Ac (K3 (Ac (Bf (by decide +kernel)) (Ac (Bf (by decide +kernel)) Af rfl) rfl)) Af rfl)) rfl) (Ae (UI He rfl (Ab He rfl) (Ae (DX (Bs (Ab He rfl) (Bf (by decide +kernel)) rfl) (Ae (DX (Bs (Cp H HC Fq Ga (Cp H HC Fq Ga (Ab He rfl) (Gn AB)) AB) (Bf (by decide +kernel)) rfl) (Ae (B4 He (Bb H E8 Ak (EE H HC) (Ab He rfl) (Ac (K3 (Ac (Bf (by decide +kernel)) (Ac (Bf (by decide +kernel)) Af rfl) rfl)) Af rfl) (λuu uu=>rfl) (by decide) rfl) rfl) Aw) Aw) (Ae (J6 H HC Fq Ga (Cp H HC Fq Ga (Ab He rfl) (Gn AB)) AB (Ab He rfl) (λuu uu uu=>rfl)) Aw)) (Ae (J6 H HC Fq Ga (Cp H HC Fq Ga (Ab He rfl) (Gn AB)) AB (Ab He rfl) (λuu uu uu=>rfl)) Aw)) Aw) Aw (λuu=>rfl)) (Ae (EP (Mn H HC He (xs:=["chunk"]) (cl:=[]) (by left) (by decide +kernel) (Zx (Ab He rfl) (λuu=>rfl)) (λB7 hs hc He=>⟨(Zz He rfl),(iP (Bs (Ab He rfl) (B5 (Ac (Bf (by decide +kernel)) (Ac (Bf (by decide +kernel)) Af rfl) rfl)) rfl)),(Ab He rfl)⟩))) Aw)))
theorem sq:C7 (Ao w s₁) 221 ["chunks"] 1:=⟨by left,by left,by left,by left,by left⟩
theorem bh(S:Start (hd.heap_1 w.params) s₁ mg mb):BF (Ao w s₁) 35 221 Bm:=by
 have H:=HL (w:=w) S;have HC:=Ht (w:=w) (s₁:=s₁)
 refine J8 H sq (by decide +kernel) (L8 λa=>by left) λL He=>?_
 exact(Ae (EP (Bb H Tb Ak Ta (Bf (by decide +kernel)) (Ac (Mn H HC He (xs:=["fws", "part"]) (cl:=[]) (by left) (by decide +kernel) (Zx (Ab He rfl) (λuu=>rfl)) (λB7 hs hc He=>⟨(fK He (.cons (.cons .nil)) (is:=[0,1]) rfl),PV,(BN (Ab He rfl) (Ab He rfl))⟩)) Af rfl) (λuu uu=>rfl) (by decide) rfl)) Aw)
theorem sr:C7 (Ao w s₁) 228 ["before", "chunk", "signs", "k"] 3:=⟨by left,by left,by left,by left,by left⟩
theorem su(S:Start (hd.heap_1 w.params) s₁ mg mb):BF (Ao w s₁) 37 228 Fd:=by
 have H:=HL (w:=w) S;have HC:=Ht (w:=w) (s₁:=s₁)
 refine J8 H sr (by decide +kernel) (Y6 λa b c=>by left) λL He=>?_
 have kd_len:(Ba (Ao w s₁) 228 L).kindOf "len" = some .globalImplicit:=by left
 have kd_range:(Ba (Ao w s₁) 228 L).kindOf "range" = some .globalImplicit:=by left
 exact(Ae (PL H He rfl (IB S) kd_range (Ac (AU H He (Fe S) kd_len Ak (Fs S (by decide)) (Ac (Ab He rfl) Af rfl) (by decide +kernel)) Af rfl) (Ae (DX (i4 (Cp H HC Fq Ga (Ab He rfl) (Ab He rfl)) (OE (Ac (Mj (Cp H HC Fq Ga (Ab He rfl) AB) (IM (Gn AB)) IL) (Ac (Mj (Cp H HC Fq Ga (Ab He rfl) AB) IL (IM AB)) Af rfl) rfl)) rfl) (Ae (EP (Ab He rfl)) Aw) Aw) Aw) Aw) (Ae (EP (AU H He (Fe S) kd_len Ak (Fs S (by decide)) (Ac (Ab He rfl) Af rfl) (by decide +kernel))) Aw))
theorem sv:C7 (Ao w s₁) 235 ["state", "rows", "chunks", "head", "row"] 1:=⟨by left,by left,by left,by left,by left⟩
theorem eI(S:Start (hd.heap_1 w.params) s₁ mg mb):BF (Ao w s₁) 39 235 BQ:=by
 have H:=HL (w:=w) S;have HC:=Ht (w:=w) (s₁:=s₁)
 refine J8 H sv (by decide +kernel) (L8 λa=>by left) λL He=>?_
 have C4:(Ba (Ao w s₁) 235 L).kindOf "_law_text" = some .globalImplicit:=by left
 exact(Ae (K8 He (.cons (.cons (.cons .nil))) (C8.cons (n := "rows") (t:=.loc 1) rfl (C8.cons (n := "chunks") (t:=.loc 2) rfl (C8.cons (n := "head") (t:=.loc 3) rfl .nil))) (Ab He rfl) rfl (by left)) (Ae (B0 He rfl (AU H He (Gb S) C4 bg ((bh S).call (by decide)) (Ac (lP (Bs (Fx H HC Fq Ga (Ab He rfl) (IM (Gn AB)) IL) (B5 (Ac (B5 (Ac (Bf (by decide +kernel)) (Ac (Bf (by decide +kernel)) Af rfl) rfl)) Af rfl)) rfl) (Fx H HC Fq Ga (Ab He rfl) IL (IM (Gn AB))) (Ab He rfl)) Af rfl) (by decide +kernel)) rfl) (Ae (DX (fA (DN (Bs (Ab He rfl) AB rfl) (DN (Bs (Bb H m_strip Ak ZM (Ab He rfl) Af (λuu uu=>rfl) (by decide) rfl) (Bf (by decide +kernel)) rfl) (DN (PK (DN (Bs (Ab He rfl) (Bf (by decide +kernel)) rfl) (DN (Bs (Ab He rfl) (B5 Af) rfl) K2))) K2)))) (Ae (B4 He (Bb H E8 Ak (EE H HC) (Ab He rfl) (Ac (Ab He rfl) Af rfl) (λuu uu=>rfl) (by decide) rfl) rfl) Aw) (Ae (DX (Bs (Ab He rfl) (Bf (by decide +kernel)) rfl) (Ae (J6 H HC Fq Ga (Ab He rfl) (Gn AB) (Ab He rfl) (λuu uu uu=>rfl)) Aw) Aw) Aw)) (Ae (EP (Ab He rfl)) Aw))))
theorem sx:Tp (Ao w s₁) 240 ["state", "chunk", "width", "signs"] ["state", "chunk", "width", "rows", "head", "places", "rank", "place"] ["signs", "chunks"] [some 0,some 1,some 2,none,none,none,none,none] [some 3,none]:=⟨by left,by left,by left,by left,by left,by left,λL=>(upTo 1 (upTo 0 (Mw) ⟨"signs",rfl,by left⟩) ⟨"chunks",rfl,by left⟩),(Y7 λa b c d=>by left),by decide,⟨rfl,(upTo 7 (upTo 6 (upTo 5 (upTo 4 (upTo 3 (upTo 2 (upTo 1 (upTo 0 (Mw) (λk e=>⟨"state",by cases e;rfl,rfl⟩)) (λk e=>⟨"chunk",by cases e;rfl,rfl⟩)) (λk e=>⟨"width",by cases e;rfl,rfl⟩)) (λk e=>nomatch e)) (λk e=>nomatch e)) (λk e=>nomatch e)) (λk e=>nomatch e)) (λk e=>nomatch e))⟩,⟨rfl,(upTo 1 (upTo 0 (Mw) (λo e=>by cases e;exact⟨"signs",rfl,rfl⟩)) (λo e=>by cases e;intro y hy;cases hy;decide))⟩,by decide +kernel⟩
theorem nN(S:Start (hd.heap_1 w.params) s₁ mg mb):BF (Ao w s₁) 41 240 CH:=by
 have H:=HL (w:=w) S;have HC:=Ht (w:=w) (s₁:=s₁)
 refine iN H sx (by decide +kernel) λL g He=>?_
 have Sh:(Dw (Ao w s₁) 240 L).kindOf "signs" = some .cell:=by left
 have Di:(Dw (Ao w s₁) 240 L).kindOf "chunks" = some .cell:=by left
 have DJ:(Dw (Ao w s₁) 240 L).kindOf "_law_closed" = some .globalImplicit:=by left
 have C4:(Dw (Ao w s₁) 240 L).kindOf "_law_text" = some .globalImplicit:=by left
 have kd_len:(Dw (Ao w s₁) 240 L).kindOf "len" = some .globalImplicit:=by left
 have jL:(Dw (Ao w s₁) 240 L).kindOf "min" = some .globalImplicit:=by left
 have kd_range:(Dw (Ao w s₁) 240 L).kindOf "range" = some .globalImplicit:=by left
 exact(Ae (K8 He (.cons (.cons (.cons .nil))) (C8.cons (n := "rows") (t:=.loc 3) rfl (C8.cons (n := "chunks") (t:=.cell (L+1+1) (g+1)) ⟨Di,rfl⟩ (C8.cons (n := "head") (t:=.loc 4) rfl .nil))) (Ab He rfl) rfl (by left)) (Ae (iK He Di rfl (BN (EV He Di rfl (by decide +kernel)) (B5 (Ac (Ab He rfl) Af rfl)))) (Ae (DX (Bs (BN (Ab He rfl) (AU H He (Fe S) kd_len Ak (Fs S (by decide)) (Ac (AU H He (Gb S) C4 bg ((bh S).call (by decide)) (Ac (EV He Di rfl (by decide +kernel)) Af rfl) (by decide +kernel)) Af rfl) (by decide +kernel))) (Ab He rfl) rfl) (Ae (EP (B5 (Ac (Ab He rfl) (Ac (EV He Di rfl (by decide +kernel)) (Ac (Ab He rfl) Af rfl) rfl) rfl))) Aw) Aw) (Ae (iQ H HC He rfl (by left) (xs:=["k"]) (cl:=[("signs",L+1+0),("chunks",L+1+1)]) (by left) (by decide +kernel) (Zy H He (IB S) kd_range (Ac AB (Ac (AU H He (Fe S) kd_len Ak (Fs S (by decide)) (Ac (EV He Di rfl (by decide +kernel)) Af rfl) (by decide +kernel)) Af rfl) rfl)) (λB7 hs hc He=>⟨(Zz He rfl),PV,(OE (Ac (AU H He (Ul S) (Ka hs (by left)) sd ((su S).call (by decide)) (Ac (Cp H HC Fq Ga (EV He (Ka hs (by left)) (cell_in hc rfl) (by decide +kernel)) (BN (Ab He rfl) AB)) (Ac (Cp H HC Fq Ga (EV He (Ka hs (by left)) (cell_in hc rfl) (by decide +kernel)) (Ab He rfl)) (Ac (EV He (Ka hs (by left)) (cell_in hc rfl) (by decide +kernel)) Af rfl) rfl) rfl) (by decide +kernel)) (Ac (Gn (Ab He rfl)) Af rfl) rfl))⟩)) (Ae (K8 He (.cons (.cons .nil)) (C8.cons (n := "rank") (t:=.loc 6) rfl (C8.cons (n := "place") (t:=.loc 7) rfl .nil)) (AU H He (ni S) jL Ak (i3 (by decide)) (Ac (BN (Ab He rfl) (B5 (Ac (OE (Ac (AU H He (Fe S) kd_len Ak (Fs S (by decide)) (Ac (EV He Sh rfl (by decide +kernel)) Af rfl) (by decide +kernel)) (Ac AB Af rfl) rfl)) Af rfl))) Af rfl) (by decide +kernel)) rfl (by left)) (Ae (DX (Bs (Ab He rfl) (AU H He (Fe S) kd_len Ak (Fs S (by decide)) (Ac (EV He Sh rfl (by decide +kernel)) Af rfl) (by decide +kernel)) rfl) (Ae (B4 He (Bb H E8 Ak (EE H HC) (Ab He rfl) (Ac (AU H He (Gb S) C4 bg ((bh S).call (by decide)) (Ac (Fx H HC Fq Ga (EV He Di rfl (by decide +kernel)) IL (IM (Gn (Ab He rfl)))) Af rfl) (by decide +kernel)) Af rfl) (λuu uu=>rfl) (by decide) rfl) rfl) (Ae (EP (B5 (Ac (Ab He rfl) (Ac (Fx H HC Fq Ga (EV He Di rfl (by decide +kernel)) (IM (Gn (Ab He rfl))) IL) (Ac AB Af rfl) rfl) rfl))) Aw)) Aw) (Ae (DX (Bs (Ab He rfl) AB rfl) (Ae (EP (B5 (Ac (AU H He (FD S) DJ eE ((eI S).call (by decide)) (Ac (B5 (Ac (Ab He rfl) (Ac (Fx H HC Fq Ga (EV He Di rfl (by decide +kernel)) IL (IM (Gn AB))) (Ac (Ab He rfl) Af rfl) rfl) rfl)) Af rfl) (by decide +kernel)) (Ac (B5 (Ac (B5 (Ac (fB (Cp H HC Fq Ga (Ab He rfl) AB) (Bf (by decide +kernel))) (Ac (Cp H HC Fq Ga (Ab He rfl) AB) Af rfl) rfl)) Af rfl)) (Ac AB Af rfl) rfl) rfl))) Aw) Aw) (Ae (EP (B5 (Ac (Ab He rfl) (Ac (EV He Di rfl (by decide +kernel)) (Ac (Ab He rfl) Af rfl) rfl) rfl))) Aw))))))))
theorem sA:OI (Ao w s₁) 245 "script" ["first", "width", "head", "ahead", "signs", "plain", "coded", "failing", "formatter", "state", "k", "a", "b", "c", "fws", "text", "chunk", "lines", "n", "rows", "chunks"] []:=⟨by left,by left,by left,by left,by left,by left,λL=>Mw,λv=>by left⟩
theorem sC(S:Start (hd.heap_1 w.params) s₁ mg mb)(L:Addr)(hL:L=L0 (Ao w s₁))(He:Cd (Dw (Ao w s₁) 245 L) ["script", "first", "width", "head", "ahead", "signs", "plain", "coded", "failing", "formatter", "state", "k", "a", "b", "c", "fws", "text", "chunk", "lines", "n", "rows", "chunks"]):BB (Ao w s₁) 697 (Dw (Ao w s₁) 245 L) ["script", "first", "width", "head", "ahead", "signs", "plain", "coded", "failing", "formatter", "state", "k", "a", "b", "c", "fws", "text", "chunk", "lines", "n", "rows", "chunks"] (Cf (Ao w s₁).K 245) (R4 L):=by
 have H:=HL (w:=w) S;have HC:=Ht (w:=w) (s₁:=s₁)
 have E2:(Dw (Ao w s₁) 245 L).kindOf "IndexError" = some .globalImplicit:=by left
 have JE:(Dw (Ao w s₁) 245 L).kindOf "_ValueFormatter" = some .globalImplicit:=by left
 have I4:(Dw (Ao w s₁) 245 L).kindOf "_law_added" = some .globalImplicit:=by left
 have DJ:(Dw (Ao w s₁) 245 L).kindOf "_law_closed" = some .globalImplicit:=by left
 have GD:(Dw (Ao w s₁) 245 L).kindOf "_law_coded" = some .globalImplicit:=by left
 have Mc:(Dw (Ao w s₁) 245 L).kindOf "_law_failing" = some .globalImplicit:=by left
 have C4:(Dw (Ao w s₁) 245 L).kindOf "_law_text" = some .globalImplicit:=by left
 have Oa:(Dw (Ao w s₁) 245 L).kindOf "_law_words" = some .globalImplicit:=by left
 have kd_len:(Dw (Ao w s₁) 245 L).kindOf "len" = some .globalImplicit:=by left
 have kd_range:(Dw (Ao w s₁) 245 L).kindOf "range" = some .globalImplicit:=by left
 exact(Ae (B0 He rfl (Fx H HC Fq Ga (Ab He rfl) IL (IM AB)) rfl) (Ae (B0 He rfl (Cp H HC Fq Ga (BN (Ab He rfl) (B5 (Ac AB Af rfl))) AB) rfl) (Ae (B0 He rfl (BN (Ab He rfl) AB) rfl) (Ae (B0 He rfl (BN (BN (BN (Ab He rfl) AB) AB) AB) rfl) (Ae (B0 He rfl (Cp H HC Fq Ga (B5 (Ac (Bf (by decide +kernel)) (Ac (Bf (by decide +kernel)) (Ac (Bf (by decide +kernel)) Af rfl) rfl) rfl)) (BN (BN (Ab He rfl) AB) AB)) rfl) (Ae (B0 He rfl (Cp H HC Fq Ga (B5 (Ac (Bf (by decide +kernel)) (Ac (Bf (by decide +kernel)) (Ac (Bf (by decide +kernel)) (Ac (Bf (by decide +kernel)) (Ac (Bf (by decide +kernel)) (Ac (Bf (by decide +kernel)) Af rfl) rfl) rfl) rfl) rfl) rfl)) (BN (BN (Ab He rfl) AB) AB)) rfl) (Ae (K8 He (.cons (.cons (.cons .nil))) (C8.cons (n := "plain") (t:=.loc 6) rfl (C8.cons (n := "coded") (t:=.loc 7) rfl (C8.cons (n := "failing") (t:=.loc 8) rfl .nil))) (Mn H HC He (xs:=["k"]) (cl:=[]) (by left) (by decide +kernel) (Zy H He (IB S) kd_range (Ac AB Af rfl)) (λB7 hs hc He=>⟨(Zz He rfl),PV,(AU H He (G5 S) (Ka hs (by left)) nC ((gr S).up (by decide)) (Ac AB (Ac AB (Ac (Bf (by decide +kernel)) (Ac (Bf (by decide +kernel)) Af rfl) rfl) rfl) rfl) (by decide +kernel))⟩)) rfl (by left)) (Ae (Qa H eB Pd (k:=6) rfl (by decide) (by left) (Ab He rfl) Jp rfl) (Ae (Qa H eB Pd (k:=6) rfl (by decide) (by left) (Ab He rfl) AB rfl) (Ae (Qa H eB Pd (k:=7) rfl (by decide) (by left) (Ab He rfl) (dJ H (rN S) He (t:=(244,242,#[])) (by simp[EO]) (by left) ba (by left) (by left) (by left) (by left) (by left) (by left) rfl) rfl) (Ae (Qa H eB Pd (k:=6) rfl (by decide) (by left) (Ab He rfl) AB rfl) (Ae (Wx H He eB jE Pd (N7 S) Mc (by decide) (by left) (Ab He rfl) rfl) (Ae (B0 He rfl (AU H He (G5 S) JE nC ((gr S).up (by decide)) (Ac (Ab He rfl) (Ac (Ab He rfl) (Ac (Ab He rfl) (Ac (Ab He rfl) Af rfl) rfl) rfl) rfl) (by decide +kernel)) rfl) (Ae (B0 He rfl (B5 (Ac (K3 Af) (Ac (B5 Af) (Ac (Ab He rfl) Af rfl) rfl) rfl)) rfl) (Ae (PL H He rfl (IB S) kd_range (Ac AB (Ac (AU H He (Fe S) kd_len Ak (Fs S (by decide)) (Ac (Ab He rfl) Af rfl) (by decide +kernel)) (Ac AB Af rfl) rfl) rfl) (Ae (K8 He (.cons (.cons (.cons .nil))) (C8.cons (n := "a") (t:=.loc 12) rfl (C8.cons (n := "b") (t:=.loc 13) rfl (C8.cons (n := "c") (t:=.loc 14) rfl .nil))) (Fx H HC Fq Ga (BN (Fx H HC Fq Ga (Ab He rfl) (IM (Ab He rfl)) (IM (BN (Ab He rfl) AB))) (B5 (Ac AB (Ac AB Af rfl) rfl))) IL (IM AB)) rfl (by left)) (Ae (B0 He rfl (Cp H HC Fq Ga (B5 (Ac (Bf (by decide +kernel)) (Ac (Bf (by decide +kernel)) (Ac (Bf (by decide +kernel)) (Ac (Bf (by decide +kernel)) Af rfl) rfl) rfl) rfl)) (BN (Ab He rfl) AB)) rfl) (Ae (DX (Bs (BN (Ab He rfl) AB) AB rfl) (Ae (B0 He rfl (Cp H HC Fq Ga (B5 (Ac (Bf (by decide +kernel)) (Ac (Bf (by decide +kernel)) (Ac (Bf (by decide +kernel)) (Ac (Bf (by decide +kernel)) (Ac (Bf (by decide +kernel)) (Ac (Bf (by decide +kernel)) (Ac (Bf (by decide +kernel)) (Ac (Bf (by decide +kernel)) Af rfl) rfl) rfl) rfl) rfl) rfl) rfl) rfl)) (BN (Ab He rfl) AB)) rfl) (Ae (ZD H He hL (Uk S) rZ (uv S) (Ab He rfl) (Ac (Ab He rfl) (Ac (Ab He rfl) (Ac (Ab He rfl) Af rfl) rfl) rfl) (λuu uu=>rfl) (by decide) rfl) (Ae (UI He rfl (AU H He (Sg S) Oa sb ((sm S).call (by decide)) (Ac (BN (Ab He rfl) (Ab He rfl)) Af rfl) (by decide +kernel)) (Ae (B0 He rfl (AU H He (LV S) I4 nF ((nN S).call (by decide)) (Ac (Ab He rfl) (Ac (Ab He rfl) (Ac (Ab He rfl) (Ac (Ab He rfl) Af rfl) rfl) rfl) rfl) (by decide +kernel)) rfl) Aw) Aw (λuu=>rfl)) Aw))) (Ae (DX (Bs (BN (Ab He rfl) AB) AB rfl) (Ae (B0 He rfl (BN (Bf (by decide +kernel)) (BN (Ab He rfl) AB)) rfl) (Ae (B0 He rfl (AU H He (LU S) GD nD ((nG S).call (by decide)) (Ac (Ab He rfl) (Ac (BN (BN (Ab He rfl) (Cp H HC Fq Ga (Ab He rfl) AB)) (AU H He (Fe S) kd_len Ak (Fs S (by decide)) (Ac (AU H He (Gb S) C4 bg ((bh S).call (by decide)) (Ac (Cp H HC Fq Ga (Ab He rfl) AB) Af rfl) (by decide +kernel)) Af rfl) (by decide +kernel))) (Ac (BN (Ab He rfl) (AU H He (Fe S) kd_len Ak (Fs S (by decide)) (Ac (Ab He rfl) Af rfl) (by decide +kernel))) Af rfl) rfl) rfl) (by decide +kernel)) rfl) (Ae (ZD H He hL (Uk S) rZ (uv S) (Ab He rfl) (Ac (Ab He rfl) (Ac (Ab He rfl) (Ac (Ab He rfl) Af rfl) rfl) rfl) (λuu uu=>rfl) (by decide) rfl) (Ae (PL H He rfl (IB S) kd_range (Ac (AU H He (Fe S) kd_len Ak (Fs S (by decide)) (Ac (Ab He rfl) Af rfl) (by decide +kernel)) Af rfl) (Ae (DX (Bs (Ab He rfl) AB rfl) (Ae (B0 He rfl (B5 (Ac (AU H He (FD S) DJ eE ((eI S).call (by decide)) (Ac (Ab He rfl) Af rfl) (by decide +kernel)) (Ac (B5 (Ac (B5 (Ac (Ab He rfl) (Ac (Cp H HC Fq Ga (Ab He rfl) (Ab He rfl)) Af rfl) rfl)) Af rfl)) (Ac AB Af rfl) rfl) rfl)) rfl) Aw) (Ae (DX (Bs (Cp H HC Fq Ga (Ab He rfl) AB) Jp rfl) (Ae (B0 He rfl (AU H He (LV S) I4 nF ((nN S).call (by decide)) (Ac (Ab He rfl) (Ac (B5 (Ac (Ab He rfl) (Ac (Cp H HC Fq Ga (Ab He rfl) AB) Af rfl) rfl)) (Ac (Ab He rfl) (Ac (Ab He rfl) Af rfl) rfl) rfl) rfl) (by decide +kernel)) rfl) Aw) Aw) Aw)) Aw) Aw) Aw)))) (Ae (DX (Bs (BN (Ab He rfl) AB) AB rfl) (Ae (B4 He (Bb H (Ll S) wF ((wM S).call (by decide)) (Ab He rfl) Af (λuu uu=>rfl) (by decide) rfl) rfl) (Ae (B0 He rfl (B5 (Ac (Cp H HC Fq Ga (Ab He rfl) AB) (Ac (BN (Cp H HC Fq Ga (Ab He rfl) AB) (B5 (Ac (B5 (Ac (Bf (by decide +kernel)) (Ac (Bf (by decide +kernel)) Af rfl) rfl)) Af rfl))) (Ac (Cp H HC Fq Ga (Ab He rfl) AB) Af rfl) rfl) rfl)) rfl) Aw)) (Ae (DX (Bs (BN (Ab He rfl) AB) AB rfl) (Ae (B4 He (Bb H (IC S) oT ((oU S).call (by decide)) (Ab He rfl) Af (λuu uu=>rfl) (by decide) rfl) rfl) (Ae (B0 He rfl (B5 (Ac (AU H He (FD S) DJ eE ((eI S).call (by decide)) (Ac (Ab He rfl) Af rfl) (by decide +kernel)) (Ac (B5 Af) (Ac AB Af rfl) rfl) rfl)) rfl) Aw)) (Ae (Wz H He hL rfl (by decide) (Uk S) rZ (jK S) (Ab He rfl) (Ac (Ab He rfl) (Ac (Bf (by decide +kernel)) (Ac (Ab He rfl) Af rfl) rfl) rfl) (λuu uu=>rfl) (by decide) rfl (FC S) E2) Aw)) Aw)) Aw)) Aw)) Aw))) Aw) (Ae (K8 He (.cons (.cons (.cons .nil))) (C8.cons (n := "rows") (t:=.loc 20) rfl (C8.cons (n := "chunks") (t:=.loc 21) rfl (C8.cons (n := "head") (t:=.loc 3) rfl .nil))) (Ab He rfl) rfl (by left)) (Ae (DX (Bs (Bc H HC rfl (Ab He rfl) (λuu uu=>rfl)) (Ab He rfl) rfl) (Ae (EP SW) Aw) Aw) (Ae (DX (Bs (Mn H HC He (xs:=["fws", "part"]) (cl:=[]) (by left) (by decide +kernel) (iO H HC Fq (Bc H HC rfl (Ab He rfl) (λuu uu=>rfl)) (λuu=>rfl)) (λB7 hs hc He=>⟨(fK He (.cons (.cons .nil)) (is:=[0,1]) rfl),PV,(B5 (Ac (Ab He rfl) (Ac (Ab He rfl) Af rfl) rfl))⟩)) (Ab He rfl) rfl) (Ae (EP SW) Aw) Aw) (Ae (DX (Bs (AU H He (Fe S) kd_len Ak (Fs S (by decide)) (Ac (Bc H HC rfl (Ab He rfl) (λuu uu=>rfl)) Af rfl) (by decide +kernel)) (BN (Ab He rfl) (AU H He (Fe S) kd_len Ak (Fs S (by decide)) (Ac (AU H He (Gb S) C4 bg ((bh S).call (by decide)) (Ac (Ab He rfl) Af rfl) (by decide +kernel)) Af rfl) (by decide +kernel))) rfl) (Ae (EP SW) Aw) Aw) (Ae (B0 He rfl (AU H He (FD S) DJ eE ((eI S).call (by decide)) (Ac (Ab He rfl) Af rfl) (by decide +kernel)) rfl) (Ae (EP (YZ (YY (Bb H (jH S) wD ((wJ S).call (by decide)) (Ab He rfl) (Ac (Bf (by decide +kernel)) Af rfl) (λuu uu=>rfl) (by decide) rfl) (Bb H Tb Ak Ta (Bf (by decide +kernel)) (Ac (Ab He rfl) Af rfl) (λuu uu=>rfl) (by decide) rfl) rfl) (YY (Bc H HC rfl (Ab He rfl) (λuu uu=>rfl)) (Ab He rfl) rfl))) Aw)))))))))))))))))))))
end Mine.Internal
end
section
open PySem PySem.W PyProof.Rows PySem.Calls
set_option tactic.hygienic true
theorem PySem.Challenge.cw_dm0091_02_holds : PySem.Challenge.rw_dm0091_02.Holds := by
 refine Mine.Internal.hd ?_
 k_fill
 intro w dk s₁ mg mb G Y fa o pm cd doc dV kV ho wN gL hD uw hg args vals as sD sE wO wQ gI
 have KX := kIn_of Y
 refine Ground.open G ?_
 intro T B D TE TW
 wrow_args sD sE wO wQ gI
 x_fa T KX uw
 clear wN gL hD uw ho
 rename_i ns hs hl0 lE hr1 rB as1 as2 l vs as3 hL ra wl r0 hI hr hc hc2
 have S : Mine.Internal.Start (Mine.Internal.hd.heap_1 w.params) s₁ mg mb := by
  refine⟨KX, T.g, T.b, T.nolimit, ?_, hg⟩
  obtain⟨bm, ob, a, b, c, d, e, f⟩ := T.bmain
  exact⟨bm, ob, T.g, a, b, c, d, e, f⟩
 obtain⟨σ', e⟩ := Mine.Internal.jA s₁.heap.objs.size ns (by omega)
 have R : Mine.Internal.Rel (Mine.Internal.Ao w s₁) [] [] s₁ := Mine.Internal.V5 S Mine.Internal.oS
 obtain⟨ol, gN, JF, _⟩ := id hL
 have nt : ¬ (Mine.Internal.Ao w s₁).isTab l := Mine.Internal.V6 S Mine.Internal.oS gN (by rw[JF];simp)
 refine Mine.Internal.ZE (C := Mine.Internal.Ao w s₁) (d := 697) (B := Mine.Internal.R4 (Mine.Internal.L0 (Mine.Internal.Ao w s₁))) (Mine.Internal.HL S) Mine.Internal.sA (by decide +kernel) (Mine.Internal.sC S _ rfl) R rfl (by decide +kernel) (by decide +kernel) rfl (by decide +kernel) (Mine.Internal.c8 wl hL hI nt) e λs' Ar R' => ?_
 exact Mine.Internal.Y9 (λuu => rfl) (by first|rfl|wrow_post) (Mine.Internal.cY S Mine.Internal.oS R') R'.os R'.gens.bare
end
