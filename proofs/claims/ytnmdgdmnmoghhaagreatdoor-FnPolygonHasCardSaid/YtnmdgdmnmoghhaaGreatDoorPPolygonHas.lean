/-
  The law FnPolygonHas, whole, as a tied card: for every input it answers true, and each argument reads behind the call as it read before. The one listed variable (orb.emptyBound) is tied to the program's text; its value is never read on the law's road.
-/
import Derived.Test.YtnmdgdmnmoghhaaGreatDoorOpen
import Derived.Test.YtnmdgdmnmoghhaaGreatDoorOpenSh
import Derived.Test.YtnmdgdmnmoghhaaGreatDoorLawPoly
import Derived.Test.YtnmdgdmnmoghhaaGreatDoorTie
import Derived.Test.YtnmdgdmnmoghhaaGreatDoorCards
import Derived.OpenVars
import Derived.LaidMore
import Derived.Lay
import Derived.LaidOnce
import Derived.SevenTiedAt
import Derived.Stop.Joined
namespace Go.Proofs.YtnmdgdmnmoghhaaGreatDoor.fnPolygonHas
open PubFl Go.ChangeShapes Go.WideShapes Go.ChangeAt Go.RowKit Go.Joins Go.Deep

set_option maxRecDepth 100000 in
theorem lifted (os : Os) (started : os.Started) (H : Type) (enc : TypeId × Value → H) :
    ReturnsInHanded {} Tryz.checked os 3 .any (fun w args => (Rows.fnPolygonHasSpec.pre enc Tryz.prog Tryz.f3 [] false w args ∧ laidMetH Tryz.prog Rows.fnPolygonHasRow.laid w) ∧ sizedMet enc Tryz.prog Tryz.f3 (OpenSpec.ofChange Rows.fnPolygonHasSpec) false w args) (Rows.fnPolygonHasSpec.post enc Tryz.prog Tryz.f3 false true false false) := by
  refine returnsInHanded_of_change_and (C := Tryz.checked) (X := fun w _ => laidMetH Tryz.prog Rows.fnPolygonHasRow.laid w) (fun _ _ _ hh h => h.of_heap hh) own started (by kernel_rfl) Tryz.func3
    (ChangeSpec.witness_shaped (enc := enc) (C := Tryz.checked) (os := os) (X := fun w _ => laidMetH Tryz.prog Rows.fnPolygonHasRow.laid w) false (World.laidAll Tryz.prog os Rows.fnPolygonHasRow.laid) #[.agg #[.int .i64 0, .slice none 0 0, .slice none 0 0], .agg #[.float .f64 0, .float .f64 0]] 8 (World.laidAll_os _ _ _) (World.shaped_of_ZipB (by kernel_rfl) (by kernel_rfl)) (by kernel_rfl) (by kernel_rfl) (by kernel_rfl)
      (by rw [MakeChecks.laidMetH_plain _ _ _ (by kernel_rfl)]; exact laidMet_laidAll _ (by kernel_rfl) (by kernel_rfl))) ?_
  intro W base args ds gs before hval0 hW _ hsz _ _
  have hval : ∀ (j : Nat) t v, Tryz.f3.params[j]? = some t → args[j]? = some v → Value.okWide Tryz.prog W .any base t v := hval0
  have hW' := hW
  obtain ⟨p, q, hA0, hV, rfl, _, _⟩ := hW
  have hA : DataW.TrodAll enc Tryz.prog W 0 (fun _ => true) true Tryz.f3.params.toList args.toList ds p := hA0
  rw [Tryz.params3] at hA hval hsz
  obtain ⟨v0, vs0, d0, ds0, p0, q0, hargs, rfl, rfl, h0, r0⟩ := trodAll_cons hA
  obtain ⟨v1, vs1, d1, ds1, p1, q1, rfl, rfl, rfl, h1, r1⟩ := trodAll_cons r0
  obtain ⟨rfl, rfl, rfl⟩ := trodAll_nil r1
  obtain rfl : args = #[v0, v1] := by cases args; simp_all
  obtain ⟨g1, rfl⟩ : ∃ g1, gs = [g1] := by
    cases gs with
    | nil => exact hV.elim
    | cons g1 gs =>
      cases gs with
      | nil => exact ⟨g1, rfl⟩
      | cons g2 gs =>
        obtain ⟨_, _, _, _, _, _, _, _, _, _, hs, _⟩ := hV
        exact hs.elim
  have z0 := lite_of (j := 0) hsz rfl rfl
  obtain ⟨lv0, pv0, s0, rfl, sh0⟩ := open_shape (hval 0 25 v0 rfl rfl) h0 z0
  obtain ⟨x1, y1, rfl, bx1, by1⟩ := open_pt Tryz.underlying28 (by kernel_rfl) (by kernel_rfl) (by kernel_rfl) (by kernel_rfl) (hval 1 28 v1 rfl rfl) h1
  clear hA0 hval0
  refine (lawPolyHas_walk (w := W) s0 lv0 pv0 x1 y1 sh0 bx1 by1).mono fun e W' hR => ?_
  obtain ⟨he, u, hu⟩ := hR
  have bel : Below W.heap.size W W' := by rw [hu]; exact ext_below W u
  clear hu
  subst he
  exact ⟨_, rfl, _, _, _, [], _, _, hW', trodAll_mk1 (shut_bool Tryz.underlying4 _), (trodAll_cons_mk (Below.trod laidOut (by kernel_rfl) (of_decide_eq_true (by kernel_rfl)) h0 bel (lt_of_trod h0)) (trodAll_cons_mk (Below.trod laidOut (by kernel_rfl) (of_decide_eq_true (by kernel_rfl)) h1 bel (lt_of_trod h1)) trodAll_mk0)), bel.trodVars laidOut (by kernel_rfl) hV, bel.frame _, fun h => by cases h⟩

theorem holds : Rows.FnPolygonHasSaid :=
  OpenClaim.holds_of_wide 3 Tryz.f3 rfl rfl rfl rfl rfl rfl rfl ⟨rfl, rfl, rfl, rfl, rfl⟩ rfl rfl rfl rfl rfl (by kernel_rfl) Tryz.func3 (by kernel_rfl)
    (of_decide_eq_true (by kernel_rfl)) (by unfold Func.isWrapper; first | (rw [if_pos (by decide +kernel)]; kernel_rfl) | (rw [if_neg (by decide +kernel)]; exact ⟨rfl, rfl⟩))
    (fun os started H enc _ => lifted os started H enc)

theorem proved : Rows.FnPolygonHasCardSaid :=
  Claim7.holds_tied_plain_at .later [] [.data] true (true, "44fbfca77336f01338c11994ec48970108db6b836f870cec6674ee3ebce64296") true holds (fun _ h => by cases h) (by kernel_rfl) (fun _ h => by cases h) fnPolygonHas_row_tie rfl ⟨rfl, rfl⟩ (by kernel_rfl) rfl
    (fun f fn hf hfn => by
      obtain rfl : f = 3 := Option.some.inj ((show Tryz.prog.funcNamed "loop.example/pub-g01503/laws.FnPolygonHas" = some 3 by kernel_rfl).symm.trans hf) |>.symm
      obtain rfl : fn = Tryz.f3 := (Option.some.inj (Tryz.func3.symm.trans hfn)).symm
      exact ⟨by kernel_rfl, fun j t ht => by
        rw [Tryz.params3] at ht
        have hm : t ∈ [25, 28] := by simpa using Array.mem_of_getElem? ht
        have hall : ([25, 28].all fun u => !Tryz.prog.wantsStandIn u) = true := by kernel_rfl
        exact (show Tryz.prog.wantsStandIn t = false by simpa using List.all_eq_true.1 hall t hm)⟩)
    (by kernel_rfl)
#print axioms proved
end Go.Proofs.YtnmdgdmnmoghhaaGreatDoor.fnPolygonHas
