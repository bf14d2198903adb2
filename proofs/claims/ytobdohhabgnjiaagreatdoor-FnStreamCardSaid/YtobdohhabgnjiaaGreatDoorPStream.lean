/-
  The law FnStream, whole, as a tied card: for every input it answers true, and each argument reads behind the call as it read before. The listed error variables are tied to the program's text (the pruned copy of the project).
-/
import Derived.Test.YtobdohhabgnjiaaGreatDoorOpen
import Derived.Test.YtobdohhabgnjiaaGreatDoorMSt
import Derived.Test.YtobdohhabgnjiaaGreatDoorLawStream
import Derived.Test.YtobdohhabgnjiaaGreatDoorLaid
import Derived.Test.YtobdohhabgnjiaaGreatDoorTie
import Derived.Test.YtobdohhabgnjiaaGreatDoorCards
import Derived.OpenVars
import Derived.LaidMore
import Derived.Lay
import Derived.LaidOnce
import Derived.SevenTiedAt
import Derived.Stop.Joined
set_option linter.all false
namespace Go.Proofs.YtobdohhabgnjiaaGreatDoor.fnStream
open PubFl Go.ChangeShapes Go.WideShapes Go.ChangeAt Go.RowKit Go.Joins Go.Deep

set_option maxRecDepth 100000 in
theorem lifted (os : Os) (started : os.Started) (H : Type) (enc : TypeId × Value → H) :
    ReturnsInHanded {} Tryz.checked os 3 .any (fun w args => (Rows.fnStreamSpec.pre enc Tryz.prog Tryz.f3 [] false w args ∧ laidMetH Tryz.prog Rows.fnStreamRow.laid w) ∧ sizedMet enc Tryz.prog Tryz.f3 (OpenSpec.ofChange Rows.fnStreamSpec) false w args) (Rows.fnStreamSpec.post enc Tryz.prog Tryz.f3 false true false false) := by
  refine returnsInHanded_of_change_and (C := Tryz.checked) (X := fun w _ => laidMetH Tryz.prog Rows.fnStreamRow.laid w) (fun _ _ _ hh h => h.of_heap hh) own started (by kernel_rfl) Tryz.func3
    (ChangeSpec.witness_shaped (enc := enc) (C := Tryz.checked) (os := os) (X := fun w _ => laidMetH Tryz.prog Rows.fnStreamRow.laid w) false (World.laidAll Tryz.prog os Rows.fnStreamRow.laid) #[.slice none 0 0, .bool false] 8 (World.laidAll_os _ _ _) (World.shaped_of_ZipB (by kernel_rfl) (by kernel_rfl)) (by kernel_rfl) (by kernel_rfl) (by kernel_rfl)
      (by rw [MakeChecks.laidMetH_plain _ _ _ (by kernel_rfl)]; exact laidMet_laidAll _ (by kernel_rfl) (by kernel_rfl))) ?_
  intro W base args ds gs before hval0 hW hX hsz hY hZ
  have hval : ∀ (j : Nat) t v, Tryz.f3.params[j]? = some t → args[j]? = some v → Value.okWide Tryz.prog W .any base t v := hval0
  have hW' := hW
  obtain ⟨p, q, hA0, hV, rfl, _, _⟩ := hW
  have hA : DataW.TrodAll enc Tryz.prog W 0 (fun _ => true) true Tryz.f3.params.toList args.toList ds p := hA0
  rw [Tryz.params3] at hA hval hsz
  obtain ⟨v0, vs0, d0, ds0, p0, q0, hargs, rfl, rfl, h0, r0⟩ := trodAll_cons hA
  obtain ⟨v1, vs1, d1, ds1, p1, q1, rfl, rfl, rfl, h1, r1⟩ := trodAll_cons r0
  obtain ⟨rfl, rfl, rfl⟩ := trodAll_nil r1
  obtain rfl : args = #[v0, v1] := by cases args; simp_all
  have hgl : gs.length = 9 := vars_length hV
  obtain ⟨g1, g2, g3, g4, g5, g6, g7, g8, g9, rfl⟩ : ∃ g1 g2 g3 g4 g5 g6 g7 g8 g9, gs = [g1, g2, g3, g4, g5, g6, g7, g8, g9] := by
    match gs, hgl with
    | [g1, g2, g3, g4, g5, g6, g7, g8, g9], _ => exact ⟨g1, g2, g3, g4, g5, g6, g7, g8, g9, rfl⟩
  have z0 := lite_of (j := 0) hsz rfl rfl
  obtain ⟨s0, sh0⟩ := open_shapes (hval 0 22 v0 rfl rfl) h0 z0
  have k1 := h1
  obtain ⟨x1, rfl, _, _⟩ := open_bool Tryz.underlying4 (hval 1 4 v1 rfl rfl) k1
  clear hA0 hval0
  refine (lawStream_walk (w := W) v0 s0 x1 (gls_of_laid (by assumption)) sh0).mono fun e W' hR => ?_
  obtain ⟨he, u, hu⟩ := hR
  have bel : Below W.heap.size W W' := by rw [hu]; exact ext_below W u
  clear hu
  subst he
  exact ⟨_, rfl, _, _, _, [], _, _, hW', trodAll_mk1 (shut_bool Tryz.underlying4 _), (trodAll_cons_mk (Below.trod laidOut (by kernel_rfl) (of_decide_eq_true (by kernel_rfl)) h0 bel (lt_of_trod h0)) (trodAll_cons_mk (Below.trod laidOut (by kernel_rfl) (of_decide_eq_true (by kernel_rfl)) h1 bel (lt_of_trod h1)) trodAll_mk0)), bel.trodVars laidOut (by kernel_rfl) hV, bel.frame _, fun h => by cases h⟩

theorem and_tt {a b : Bool} (h : a = true) (k : b = true) : (a && b) = true := by rw [h, k]; rfl
set_option maxHeartbeats 40000000 in
set_option maxRecDepth 100000 in
theorem closedF : joinedFacts Tryz.prog 3 Tryz.f3 Rows.fnStreamSpec Rows.fnStreamRow = true := by
  unfold joinedFacts
  repeat' (with_reducible refine and_tt ?_ ?_)
  all_goals (as_aux_lemma => kernel_rfl)
theorem holds : Rows.FnStreamSaid :=
  OpenClaim.holds_of_wide 3 Tryz.f3 rfl rfl rfl rfl rfl rfl rfl ⟨rfl, rfl, rfl, rfl, rfl⟩ rfl rfl rfl rfl rfl (by kernel_rfl) Tryz.func3 closedF
    (of_decide_eq_true (by kernel_rfl)) (by unfold Func.isWrapper; first | (rw [if_pos (by decide +kernel)]; kernel_rfl) | (rw [if_neg (by decide +kernel)]; exact ⟨rfl, rfl⟩))
    (fun os started H enc _ => lifted os started H enc)

theorem proved : Rows.FnStreamCardSaid :=
  Claim7.holds_tied_plain_at .later [] [.sentinel, .sentinel, .sentinel, .sentinel, .sentinel, .sentinel, .sentinel, .sentinel, .sentinel, .sentinel, .sentinel, .sentinel] true (true, "7a83371405209de88b238829fb25eed35dfb941f431269dbc3f34f377be854e7") true holds (fun _ h => by cases h) (by kernel_rfl) (fun _ h => by cases h) fnStream_row_tie rfl ⟨rfl, rfl⟩ (by kernel_rfl) rfl
    (fun f fn hf hfn => by
      obtain rfl : f = 3 := Option.some.inj ((show Tryz.prog.funcNamed "loop.example/pub-g01503/laws.FnStream" = some 3 by kernel_rfl).symm.trans hf) |>.symm
      obtain rfl : fn = Tryz.f3 := (Option.some.inj (Tryz.func3.symm.trans hfn)).symm
      exact ⟨by kernel_rfl, fun j t ht => by
        rw [Tryz.params3] at ht
        have hm : t ∈ [22, 4] := by simpa using Array.mem_of_getElem? ht
        have hall : ([22, 4].all fun u => !Tryz.prog.wantsStandIn u) = true := by kernel_rfl
        exact (show Tryz.prog.wantsStandIn t = false by simpa using List.all_eq_true.1 hall t hm)⟩)
    (by kernel_rfl)
#print axioms proved
end Go.Proofs.YtobdohhabgnjiaaGreatDoor.fnStream
