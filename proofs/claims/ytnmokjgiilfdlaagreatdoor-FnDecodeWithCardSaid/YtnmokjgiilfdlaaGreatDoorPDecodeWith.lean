/-
  The law FnDecodeWith, whole, as a tied card: for every input it answers true, and each argument reads behind the call as it read before. The listed error variables are tied to the program's text (the pruned copy of the project).
-/
import Derived.Test.YtnmokjgiilfdlaaGreatDoorOpen
import Derived.Test.YtnmokjgiilfdlaaGreatDoorOpenSh
import Derived.Test.YtnmokjgiilfdlaaGreatDoorLawDecW
import Derived.Test.YtnmokjgiilfdlaaGreatDoorLaidW
import Derived.Test.YtnmokjgiilfdlaaGreatDoorTie
import Derived.Test.YtnmokjgiilfdlaaGreatDoorCards
import Derived.OpenVars
import Derived.LaidMore
import Derived.Lay
import Derived.LaidOnce
import Derived.SevenTiedAt
import Derived.Stop.Joined
set_option linter.all false
namespace Go.Proofs.YtnmokjgiilfdlaaGreatDoor.fnDecodeWith
open PubFl Go.ChangeShapes Go.WideShapes Go.ChangeAt Go.RowKit Go.Joins Go.Deep

set_option maxRecDepth 100000 in
theorem lifted (os : Os) (started : os.Started) (H : Type) (enc : TypeId × Value → H) :
    ReturnsInHanded {} Tryz.checked os 10 .any (fun w args => (Rows.fnDecodeWithSpec.pre enc Tryz.prog Tryz.f10 [] false w args ∧ laidMetH Tryz.prog Rows.fnDecodeWithRow.laid w) ∧ sizedMet enc Tryz.prog Tryz.f10 (OpenSpec.ofChange Rows.fnDecodeWithSpec) false w args) (Rows.fnDecodeWithSpec.post enc Tryz.prog Tryz.f10 false true false false) := by
  refine returnsInHanded_of_change_and (C := Tryz.checked) (X := fun w _ => laidMetH Tryz.prog Rows.fnDecodeWithRow.laid w) (fun _ _ _ hh h => h.of_heap hh) own started (by kernel_rfl) Tryz.func10
    (ChangeSpec.witness_shaped (enc := enc) (C := Tryz.checked) (os := os) (X := fun w _ => laidMetH Tryz.prog Rows.fnDecodeWithRow.laid w) false (World.laidAll Tryz.prog os Rows.fnDecodeWithRow.laid) #[.agg #[.int .i64 0, .slice none 0 0, .slice none 0 0], .int .i64 0, .bool false] 8 (World.laidAll_os _ _ _) (World.shaped_of_ZipB (by kernel_rfl) (by kernel_rfl)) (by kernel_rfl) (by kernel_rfl) (by kernel_rfl)
      (by rw [MakeChecks.laidMetH_plain _ _ _ (by kernel_rfl)]; exact laidMet_laidAll _ (by kernel_rfl) (by kernel_rfl))) ?_
  intro W base args ds gs before hval0 hW hX hsz hY hZ
  have hval : ∀ (j : Nat) t v, Tryz.f10.params[j]? = some t → args[j]? = some v → Value.okWide Tryz.prog W .any base t v := hval0
  have hW' := hW
  obtain ⟨p, q, hA0, hV, rfl, _, _⟩ := hW
  have hA : DataW.TrodAll enc Tryz.prog W 0 (fun _ => true) true Tryz.f10.params.toList args.toList ds p := hA0
  rw [Tryz.params10] at hA hval hsz
  obtain ⟨v0, vs0, d0, ds0, p0, q0, hargs, rfl, rfl, h0, r0⟩ := trodAll_cons hA
  obtain ⟨v1, vs1, d1, ds1, p1, q1, rfl, rfl, rfl, h1, r1⟩ := trodAll_cons r0
  obtain ⟨v2, vs2, d2, ds2, p2, q2, rfl, rfl, rfl, h2, r2⟩ := trodAll_cons r1
  obtain ⟨rfl, rfl, rfl⟩ := trodAll_nil r2
  obtain rfl : args = #[v0, v1, v2] := by cases args; simp_all
  have hgl : gs.length = 13 := vars_length hV
  obtain ⟨g1, g2, g3, g4, g5, g6, g7, g8, g9, g10, g11, g12, g13, rfl⟩ : ∃ g1 g2 g3 g4 g5 g6 g7 g8 g9 g10 g11 g12 g13, gs = [g1, g2, g3, g4, g5, g6, g7, g8, g9, g10, g11, g12, g13] := by
    match gs, hgl with
    | [g1, g2, g3, g4, g5, g6, g7, g8, g9, g10, g11, g12, g13], _ => exact ⟨g1, g2, g3, g4, g5, g6, g7, g8, g9, g10, g11, g12, g13, rfl⟩
  have z0 := lite_of (j := 0) hsz rfl rfl
  obtain ⟨lv0, pv0, s0, rfl, sh0⟩ := open_shape (hval 0 25 v0 rfl rfl) h0 z0
  have k1 := h1
  obtain ⟨x1, rfl, _, _, wx1⟩ := open_int Tryz.underlying3 (hval 1 3 v1 rfl rfl) k1
  have k2 := h2
  obtain ⟨x2, rfl, _, _⟩ := open_bool Tryz.underlying4 (hval 2 4 v2 rfl rfl) k2
  clear hA0 hval0
  refine (lawDecW_walk (w := W) s0 lv0 pv0 x1 x2 (glsW_of_laid (by assumption)) sh0).mono fun e W' hR => ?_
  obtain ⟨he, u, hu⟩ := hR
  have bel : Below W.heap.size W W' := by rw [hu]; exact ext_below W u
  clear hu
  subst he
  exact ⟨_, rfl, _, _, _, [], _, _, hW', trodAll_mk1 (shut_bool Tryz.underlying4 _), (trodAll_cons_mk (Below.trod laidOut (by kernel_rfl) (of_decide_eq_true (by kernel_rfl)) h0 bel (lt_of_trod h0)) (trodAll_cons_mk (Below.trod laidOut (by kernel_rfl) (of_decide_eq_true (by kernel_rfl)) h1 bel (lt_of_trod h1)) (trodAll_cons_mk (Below.trod laidOut (by kernel_rfl) (of_decide_eq_true (by kernel_rfl)) h2 bel (lt_of_trod h2)) trodAll_mk0))), bel.trodVars laidOut (by kernel_rfl) hV, bel.frame _, fun h => by cases h⟩

theorem and_tt {a b : Bool} (h : a = true) (k : b = true) : (a && b) = true := by rw [h, k]; rfl
set_option maxHeartbeats 40000000 in
set_option maxRecDepth 100000 in
theorem closedF : joinedFacts Tryz.prog 10 Tryz.f10 Rows.fnDecodeWithSpec Rows.fnDecodeWithRow = true := by
  unfold joinedFacts
  repeat' (with_reducible refine and_tt ?_ ?_)
  all_goals (as_aux_lemma => kernel_rfl)
theorem holds : Rows.FnDecodeWithSaid :=
  OpenClaim.holds_of_wide 10 Tryz.f10 rfl rfl rfl rfl rfl rfl rfl ⟨rfl, rfl, rfl, rfl, rfl⟩ rfl rfl rfl rfl rfl (by kernel_rfl) Tryz.func10 closedF
    (of_decide_eq_true (by kernel_rfl)) (by unfold Func.isWrapper; first | (rw [if_pos (by decide +kernel)]; kernel_rfl) | (rw [if_neg (by decide +kernel)]; exact ⟨rfl, rfl⟩))
    (fun os started H enc _ => lifted os started H enc)

theorem proved : Rows.FnDecodeWithCardSaid :=
  Claim7.holds_tied_plain_at .later [] [.sentinel, .sentinel, .sentinel, .sentinel, .sentinel, .sentinel, .sentinel, .sentinel, .sentinel, .sentinel, .sentinel, .sentinel, .sentinel, .sentinel, .sentinel, .sentinel] true (true, "9531ae56d1d75565cc8b774e6b4d63bc293cfd89e184445e428845d1876b804d") true holds (fun _ h => by cases h) (by kernel_rfl) (fun _ h => by cases h) fnDecodeWith_row_tie rfl ⟨rfl, rfl⟩ (by kernel_rfl) rfl
    (fun f fn hf hfn => by
      obtain rfl : f = 10 := Option.some.inj ((show Tryz.prog.funcNamed "loop.example/pub-g01503/laws.FnDecodeWith" = some 10 by kernel_rfl).symm.trans hf) |>.symm
      obtain rfl : fn = Tryz.f10 := (Option.some.inj (Tryz.func10.symm.trans hfn)).symm
      exact ⟨by kernel_rfl, fun j t ht => by
        rw [Tryz.params10] at ht
        have hm : t ∈ [25, 3, 4] := by simpa using Array.mem_of_getElem? ht
        have hall : ([25, 3, 4].all fun u => !Tryz.prog.wantsStandIn u) = true := by kernel_rfl
        exact (show Tryz.prog.wantsStandIn t = false by simpa using List.all_eq_true.1 hall t hm)⟩)
    (by kernel_rfl)
#print axioms proved
end Go.Proofs.YtnmokjgiilfdlaaGreatDoor.fnDecodeWith
