/-
  spec.Equal, walked.
-/
import Derived.Test.YtobdohhabgnjiaaGreatDoorEqF
import Derived.Test.YtobdohhabgnjiaaGreatDoorEq
set_option linter.all false
namespace Go.Proofs.YtobdohhabgnjiaaGreatDoor
open PubFl Go.RowKit

attribute [local go_sem] cell_ext frozen_ext ext_setCell cell_store size_ext_eq lt_p0 lt_p1 lt_p2 lt_p3 lt_p4 lt_p5 lt_p6 lt_p7 lt_p8 lt_p9 lt_p10 lt_p11 lt_p12 lt_p13 lt_p14 lt_p15 lt_p16 lt_p17 lt_p18 lt_p19 lt_p20 lt_p21 lt_p22 lt_p23 lt_p24 lt_p25 lt_p26 lt_p27 lt_p28 lt_p29 lt_p30 lt_p31 lt_p32 lt_q1 lt_q2 lt_q3 lt_q4 lt_q5 lt_q6 lt_q7 lt_q8 lt_q9 lt_q10 lt_q11 lt_q12 lt_q13 lt_q14 lt_q15 lt_q16 lt_q17 lt_q18 lt_q19 lt_q20 lt_q21 lt_q22 lt_q23 lt_q24 lt_q25 lt_q26 lt_q27 lt_q28 lt_q29 lt_q30 lt_q31 lt_q32 run_fop run_store_float
attribute [local go_sem high] cmp_eql cmp_neq cmp_lss cmp_leq cmp_gtr cmp_geq

def eqP (p q : Nat × Nat) : Bool := eqF p.1 q.1 && eqF p.2 q.2
def eqPts (ps qs : List (Nat × Nat)) : Bool := decide (ps.length = qs.length) && (List.range ps.length).all fun i => eqP (ps.getD i (0, 0)) (qs.getD i (0, 0))
def eqLs (ls ms : List (List (Nat × Nat))) : Bool := decide (ls.length = ms.length) && (List.range ls.length).all fun i => eqPts (ls.getD i []) (ms.getD i [])
def eqSh : Nat → Sh → Sh → Bool
  | 0, _, _ => true
  | d + 1, a, b => decide (a.kind = b.kind) && (eqLs a.lists b.lists && (decide (a.parts.length = b.parts.length) && (List.range a.parts.length).all fun i => eqSh d (a.parts.getD i dsh) (b.parts.getD i dsh)))

/-- what the answer is -/
structure EqFacts (d : Nat) (a b : Sh) (r : Bool) : Prop where
  kind : a.kind ≠ b.kind → r = false
  lists : a.lists.length ≠ b.lists.length → r = false
  parts : a.parts.length ≠ b.parts.length → r = false
  list : ∀ i, i < a.lists.length → eqPts (a.lists.getD i []) (b.lists.getD i []) = false → r = false
  part : ∀ i, i < a.parts.length → eqSh d (a.parts.getD i dsh) (b.parts.getD i dsh) = false → r = false
  all : a.kind = b.kind → a.lists.length = b.lists.length → a.parts.length = b.parts.length → AllTo (fun i => eqPts (a.lists.getD i []) (b.lists.getD i [])) a.lists.length → AllTo (fun i => eqSh d (a.parts.getD i dsh) (b.parts.getD i dsh)) a.parts.length → r = true
structure PtFacts (ps qs : List (Nat × Nat)) (r : Bool) : Prop where
  len : ps.length ≠ qs.length → r = false
  pt : ∀ i, i < ps.length → eqP (ps.getD i (0, 0)) (qs.getD i (0, 0)) = false → r = false
  all : ps.length = qs.length → AllTo (fun i => eqP (ps.getD i (0, 0)) (qs.getD i (0, 0))) ps.length → r = true
end Go.Proofs.YtobdohhabgnjiaaGreatDoor
