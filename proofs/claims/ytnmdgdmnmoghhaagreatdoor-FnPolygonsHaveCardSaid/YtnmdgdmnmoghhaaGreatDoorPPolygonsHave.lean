/-
  The law FnPolygonsHave, whole, as a tied card: for every input it answers true, and each argument reads behind the call as it read before. The one listed variable (orb.emptyBound) is tied to the program's text; its value is never read on the law's road.
-/
import Derived.Test.YtnmdgdmnmoghhaaGreatDoorOpen
import Derived.Test.YtnmdgdmnmoghhaaGreatDoorOpenSh
import Derived.Test.YtnmdgdmnmoghhaaGreatDoorLawPolys
import Derived.Test.YtnmdgdmnmoghhaaGreatDoorTie
import Derived.Test.YtnmdgdmnmoghhaaGreatDoorCards
import Derived.OpenVars
import Derived.LaidMore
import Derived.Lay
import Derived.LaidOnce
import Derived.SevenTiedAt
import Derived.Stop.Joined
namespace Go.Proofs.YtnmdgdmnmoghhaaGreatDoor.fnPolygonsHave
open PubFl Go.ChangeShapes Go.WideShapes Go.ChangeAt Go.RowKit Go.Joins Go.Deep

set_option maxRecDepth 100000 in
theorem lifted (os : Os) (started : os.Started) (H : Type) (enc : TypeId × Value → H) :
    ReturnsInHanded {} Tryz.checked os 4 .any (fun w args => (Rows.fnPolygonsHaveSpec.pre enc Tryz.prog Tryz.f4 [] false w args ∧ laidMetH Tryz.prog Rows.fnPolygonsHaveRow.laid w) ∧ sizedMet enc Tryz.prog Tryz.f4 (OpenSpec.ofChange Rows.fnPolygonsHaveSpec) false w args) (Rows.fnPolygonsHaveSpec.post enc Tryz.prog Tryz.f4 false true false false) := by
  refine returnsInHanded_of_change_and (C := Tryz.checked) (X := fun w _ => laidMetH Tryz.prog Rows.fnPolygonsHaveRow.laid w) (fun _ _ _ hh h => h.of_heap hh) own started (by kernel_rfl) Tryz.func4
    (ChangeSpec.witness_shaped (enc := enc) (C := Tryz.checked) (os := os) (X := fun w _ => laidMetH Tryz.prog Rows.fnPolygonsHaveRow.laid w) false (World.laidAll Tryz.prog os Rows.fnPolygonsHaveRow.laid) #[.agg #[.int .i64 0, .slice none 0 0, .slice none 0 0], .agg #[.int .i64 0, .slice none 0 0, .slice none 0 0], .agg #[.float .f64 0, .float .f64 0]] 8 (World.laidAll_os _ _ _) (World.shaped_of_ZipB (by kernel_rfl) (by kernel_rfl)) (by kernel_rfl) (by kernel_rfl) (by kernel_rfl)
      (by rw [MakeChecks.laidMetH_plain _ _ _ (by kernel_rfl)]; exact laidMet_laidAll _ (by kernel_rfl) (by kernel_rfl))) ?_
  intro W base args ds gs before hval0 hW _ hsz _ _
  have hval : ∀ (j : Nat) t v, Tryz.f4.params[j]? = some t → args[j]? = some v → Value.okWide Tryz.prog W .any base t v := hval0
  have hW' := hW
  obtain ⟨p, q, hA0, hV, rfl, _, _⟩ := hW
  have hA : DataW.TrodAll enc Tryz.prog W 0 (fun _ => true) true Tryz.f4.params.toList args.toList ds p := hA0
  rw [Tryz.params4] at hA hval hsz
  obtain ⟨v0, vs0, d0, ds0, p0, q0, hargs, rfl, rfl, h0, r0⟩ := trodAll_cons hA
  obtain ⟨v1, vs1, d1, ds1, p1, q1, rfl, rfl, rfl, h1, r1⟩ := trodAll_cons r0
  obtain ⟨v2, vs2, d2, ds2, p2, q2, rfl, rfl, rfl, h2, r2⟩ := trodAll_cons r1
  obtain ⟨rfl, rfl, rfl⟩ := trodAll_nil r2
  obtain rfl : args = #[v0, v1, v2] := by cases args; simp_all
  obtain ⟨g1, rfl⟩ : ∃ g1, gs = [g1] := by
    cases gs with
    | nil => exact hV.elim
    | cons g1 gs =>
      cases gs with
      | nil => exact ⟨g1, rfl⟩
      | cons g2 gs =>
        obtain ⟨_, _, _, _, _, _, _, _, _, _, hs, _⟩ := hV
        exact hs.elim
  have z0 := lite_of (j := 0) hsz rfl rfl
  obtain ⟨lv0, pv0, s0, rfl, sh0⟩ := open_shape (hval 0 25 v0 rfl rfl) h0 z0
  have z1 := lite_of (j := 1) hsz rfl rfl
  obtain ⟨lv1, pv1, s1, rfl, sh1⟩ := open_shape (hval 1 25 v1 rfl rfl) h1 z1
  obtain ⟨x2, y2, rfl, bx2, by2⟩ := open_pt Tryz.underlying28 (by kernel_rfl) (by kernel_rfl) (by kernel_rfl) (by kernel_rfl) (hval 2 28 v2 rfl rfl) h2
  clear hA0 hval0
  refine (lawPolys_walk (w := W) s0 lv0 pv0 s1 lv1 pv1 x2 y2 sh0 sh1 bx2 by2).mono fun e W' hR => ?_
  obtain ⟨he, u, hu⟩ := hR
  have bel : Below W.heap.size W W' := by rw [hu]; exact ext_below W u
  clear hu
  subst he
  exact ⟨_, rfl, _, _, _, [], _, _, hW', trodAll_mk1 (shut_bool Tryz.underlying4 _), (trodAll_cons_mk (Below.trod laidOut (by kernel_rfl) (of_decide_eq_true (by kernel_rfl)) h0 bel (lt_of_trod h0)) (trodAll_cons_mk (Below.trod laidOut (by kernel_rfl) (of_decide_eq_true (by kernel_rfl)) h1 bel (lt_of_trod h1)) (trodAll_cons_mk (Below.trod laidOut (by kernel_rfl) (of_decide_eq_true (by kernel_rfl)) h2 bel (lt_of_trod h2)) trodAll_mk0))), bel.trodVars laidOut (by kernel_rfl) hV, bel.frame _, fun h => by cases h⟩

theorem holds : Rows.FnPolygonsHaveSaid :=
  OpenClaim.holds_of_wide 4 Tryz.f4 rfl rfl rfl rfl rfl rfl rfl ⟨rfl, rfl, rfl, rfl, rfl⟩ rfl rfl rfl rfl rfl (by kernel_rfl) Tryz.func4 (by kernel_rfl)
    (of_decide_eq_true (by kernel_rfl)) (by unfold Func.isWrapper; first | (rw [if_pos (by decide +kernel)]; kernel_rfl) | (rw [if_neg (by decide +kernel)]; exact ⟨rfl, rfl⟩))
    (fun os started H enc _ => lifted os started H enc)

theorem proved : Rows.FnPolygonsHaveCardSaid :=
  Claim7.holds_tied_plain_at .later [] [.data] true (true, "44fbfca77336f01338c11994ec48970108db6b836f870cec6674ee3ebce64296") true holds (fun _ h => by cases h) (by kernel_rfl) (fun _ h => by cases h) fnPolygonsHave_row_tie rfl ⟨rfl, rfl⟩ (by kernel_rfl) rfl
    (fun f fn hf hfn => by
      obtain rfl : f = 4 := Option.some.inj ((show Tryz.prog.funcNamed "loop.example/pub-g01503/laws.FnPolygonsHave" = some 4 by kernel_rfl).symm.trans hf) |>.symm
      obtain rfl : fn = Tryz.f4 := (Option.some.inj (Tryz.func4.symm.trans hfn)).symm
      exact ⟨by kernel_rfl, fun j t ht => by
        rw [Tryz.params4] at ht
        have hm : t ∈ [25, 25, 28] := by simpa using Array.mem_of_getElem? ht
        have hall : ([25, 25, 28].all fun u => !Tryz.prog.wantsStandIn u) = true := by kernel_rfl
        exact (show Tryz.prog.wantsStandIn t = false by simpa using List.all_eq_true.1 hall t hm)⟩)
    (by kernel_rfl)
#print axioms proved
end Go.Proofs.YtnmdgdmnmoghhaaGreatDoor.fnPolygonsHave
