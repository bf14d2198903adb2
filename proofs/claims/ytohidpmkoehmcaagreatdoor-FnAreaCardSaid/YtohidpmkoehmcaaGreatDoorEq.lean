/-
  Equality of points (structs and arrays of two floats), as the model reckons it.
-/
import Derived.Test.YtohidpmkoehmcaaGreatDoorWm
import Derived.Laws.StructEq
set_option linter.all false
namespace Go.Proofs.YtohidpmkoehmcaaGreatDoor
open PubFl

section
variable {P : Program}
theorem run_equalIn_float (w : World) (d : Nat) (t : TypeId) (k : FloatKind) (a b : Nat) (h : P.underlying t = some (.float k)) : (Op.equalIn (d + 1) t (.float .f64 a) (.float .f64 b)).run P w = .ok (eqF a b) w := by
  simp [Op.equalIn, run_underlying h, Op.floatEq, eqF]

theorem run_equalIn_array2 (w : World) (d : Nat) (t e : TypeId) (k : FloatKind) (a b c d' : Nat) (h : P.underlying t = some (.array 2 e)) (he : P.underlying e = some (.float k)) (hs : ∀ w, (sizeOf e).run P w = .ok 1 w) :
    (Op.equalIn (d + 2) t (.agg #[.float .f64 a, .float .f64 b]) (.agg #[.float .f64 c, .float .f64 d'])).run P w = .ok (eqF a c && eqF b d') w := by
  have h1 := run_equalIn_float w d e k a c he
  have h2 := run_equalIn_float w d e k b d' he
  have p : ∀ (cs : Array Value) (i : Nat) (v : Value), cs[i]? = some v → (part e cs i).run P w = .ok v w := by
    intro cs i v hv
    simp [part, isAgg, run_underlying he, hv]
  rw [Op.equalIn]
  simp only [Sem.run_bind, run_underlying h, Result.andThen_ok, hs, Std.Legacy.Range.forIn_eq_forIn_range', Std.Legacy.Range.size, Nat.sub_zero, Nat.add_sub_cancel, Nat.div_one]
  have p1 := p #[.float .f64 a, .float .f64 b] (0 * 1) (.float .f64 a) rfl
  have p2 := p #[.float .f64 a, .float .f64 b] ((0 + 1) * 1) (.float .f64 b) rfl
  have p3 := p #[.float .f64 c, .float .f64 d'] (0 * 1) (.float .f64 c) rfl
  have p4 := p #[.float .f64 c, .float .f64 d'] ((0 + 1) * 1) (.float .f64 d') rfl
  simp only [List.range', List.forIn_cons, List.forIn_nil, Sem.run_bind, p1, p3, h1, Result.andThen_ok]
  cases eqF a c
  · simp
  · simp only [Bool.not_true, Bool.false_eq_true, if_false, Sem.run_pure, Result.andThen_ok, Sem.run_bind, p2, p4, h2]
    cases eqF b d'
    · simp
    · simp
theorem run_eql_array2 (w : World) (t e : TypeId) (k : FloatKind) (a b c d : Nat) (h : P.underlying t = some (.array 2 e)) (he : P.underlying e = some (.float k)) (hs : ∀ w, (sizeOf e).run P w = .ok 1 w) :
    (binOp .eql t (.agg #[.float .f64 a, .float .f64 b]) (.agg #[.float .f64 c, .float .f64 d])).run P w = .ok (.bool (eqF a c && eqF b d)) w := by
  rw [run_eql_struct, run_equalIn_array2 w 9998 t e k a b c d h he hs]
  rfl
theorem run_neq_array2 (w : World) (t e : TypeId) (k : FloatKind) (a b c d : Nat) (h : P.underlying t = some (.array 2 e)) (he : P.underlying e = some (.float k)) (hs : ∀ w, (sizeOf e).run P w = .ok 1 w) :
    (binOp .neq t (.agg #[.float .f64 a, .float .f64 b]) (.agg #[.float .f64 c, .float .f64 d])).run P w = .ok (.bool (!(eqF a c && eqF b d))) w := by
  rw [run_neq_struct, run_equalIn_array2 w 9998 t e k a b c d h he hs]
  rfl
end

theorem fields_pt : (Tryz.prog.fieldsOf 39).toList.map (fun f => (f.name, f.type, f.offset)) = [("X", 27, 0), ("Y", 27, 1)] := by kernel_rfl
theorem eqIn_pt (a b c d : Nat) (w : World) : (Op.equalIn 10000 39 (.agg #[.float .f64 a, .float .f64 b]) (.agg #[.float .f64 c, .float .f64 d])).run Tryz.prog w = .ok (eqF a c && eqF b d) w := by
  have hf := fields_pt
  have hu : Tryz.prog.underlying 27 = some (.float .f64) := by kernel_rfl
  have h1 : (Op.equalIn 9999 27 (.float .f64 a) (.float .f64 c)).run Tryz.prog w = .ok (eqF a c) w := run_equalIn_float (P := Tryz.prog) w 9998 27 .f64 a c hu
  have h2 : (Op.equalIn 9999 27 (.float .f64 b) (.float .f64 d)).run Tryz.prog w = .ok (eqF b d) w := run_equalIn_float (P := Tryz.prog) w 9998 27 .f64 b d hu
  have p : ∀ (cs : Array Value) (i : Nat) (v : Value), cs[i]? = some v → (part 27 cs i).run Tryz.prog w = .ok v w := by
    intro cs i v hv
    simp [part, isAgg, run_underlying hu, hv]
  have p1 := p #[.float .f64 a, .float .f64 b] 0 (.float .f64 a) rfl
  have p2 := p #[.float .f64 a, .float .f64 b] 1 (.float .f64 b) rfl
  have p3 := p #[.float .f64 c, .float .f64 d] 0 (.float .f64 c) rfl
  have p4 := p #[.float .f64 c, .float .f64 d] 1 (.float .f64 d) rfl
  rw [show (10000 : Nat) = 9999 + 1 from rfl, run_equalIn_agg w 9999 _ _ _ (by kernel_rfl) (by kernel_rfl)]
  generalize (Tryz.prog.fieldsOf 39).toList = fs at hf
  rcases fs with _ | ⟨f0, _ | ⟨f1, _ | ⟨f2, r⟩⟩⟩
  · simp at hf
  · simp at hf
  · simp only [List.map_cons, List.map_nil, List.cons.injEq, Prod.mk.injEq, and_true] at hf
    obtain ⟨⟨n0, t0, o0⟩, n1, t1, o1⟩ := hf
    have x0 : f0.name ≠ "_" := by rw [n0]; decide
    have x1 : f1.name ≠ "_" := by rw [n1]; decide
    clear p
    simp only [Op.eqFields, x0, x1, ne_eq, not_false_eq_true, if_true, Sem.run_bind, t0, t1, o0, o1, p1, p3, h1, Result.andThen_ok]
    cases eqF a c
    · simp
    · simp only [Bool.not_true, Bool.false_eq_true, if_false, Sem.run_bind, p2, p4, h2, Result.andThen_ok]
      cases eqF b d <;> simp
  · simp at hf
theorem run_eql_pt (a b c d : Nat) (w : World) : (binOp .eql 39 (.agg #[.float .f64 a, .float .f64 b]) (.agg #[.float .f64 c, .float .f64 d])).run Tryz.prog w = .ok (.bool (eqF a c && eqF b d)) w := by
  rw [run_eql_struct, eqIn_pt]; rfl
theorem run_neq_pt (a b c d : Nat) (w : World) : (binOp .neq 39 (.agg #[.float .f64 a, .float .f64 b]) (.agg #[.float .f64 c, .float .f64 d])).run Tryz.prog w = .ok (.bool (!(eqF a c && eqF b d))) w := by
  rw [run_neq_struct, eqIn_pt]; rfl
theorem run_eql_opt (a b c d : Nat) (w : World) : (binOp .eql 57 (.agg #[.float .f64 a, .float .f64 b]) (.agg #[.float .f64 c, .float .f64 d])).run Tryz.prog w = .ok (.bool (eqF a c && eqF b d)) w :=
  run_eql_array2 w _ 27 .f64 a b c d (by kernel_rfl) (by kernel_rfl) (fun _ => by kernel_rfl)
theorem run_neq_opt (a b c d : Nat) (w : World) : (binOp .neq 57 (.agg #[.float .f64 a, .float .f64 b]) (.agg #[.float .f64 c, .float .f64 d])).run Tryz.prog w = .ok (.bool (!(eqF a c && eqF b d))) w :=
  run_neq_array2 w _ 27 .f64 a b c d (by kernel_rfl) (by kernel_rfl) (fun _ => by kernel_rfl)
end Go.Proofs.YtohidpmkoehmcaaGreatDoor
