/-
  Items with areas, linked both ways, and a row of pointers to them: what lies in memory, and what stores make of it.
  The heap's moves up and down, walked.
  The heap's move down, walked.
  The heap's Push, Pop and Update, walked.
  Twice the area of a triangle of three points of a line, as the program tells it.
  The state of Visvalingam's rule between two rounds: plain facts.
  The first item pushed; the items made.
  Visvalingam's rule, walked.
-/
import Derived.Test.YtglopopdmkgooaaMPl
import Derived.Test.YtglopopdmkgooaaApp1
import Derived.Test.YtglopopdmkgooaaWm
import Derived.Test.YtglopopdmkgooaaWt
import Derived.Test.YtglopopdmkgooaaKx
import Derived.Lib.Hide
import Derived.Deep.RegionHeld3
import Derived.Deep.DrawnRows
import Derived.Test.YtglopopdmkgooaaCross
import Derived.Test.YtglopopdmkgooaaPts
import Derived.Test.YtglopopdmkgooaaRad
namespace Go.Proofs.Ytglopopdmkgooaa
open PubFl Go.RowKit PubVis

attribute [local go_sem] cell_ext frozen_ext ext_setCell cell_store size_ext_eq lt_p0 lt_p1 lt_p2 lt_p3 lt_p4 lt_p5 lt_p6 lt_p7 lt_p8 lt_p9 lt_p10 lt_p11 lt_p12 lt_p13 lt_p14 lt_p15 lt_p16 lt_p17 lt_p18 lt_p19 lt_p20 lt_p21 lt_p22 lt_p23 lt_p24 lt_p25 lt_p26 lt_p27 lt_p28 lt_p29 lt_p30 lt_p31 lt_p32 lt_q1 lt_q2 lt_q3 lt_q4 lt_q5 lt_q6 lt_q7 lt_q8 lt_q9 lt_q10 lt_q11 lt_q12 lt_q13 lt_q14 lt_q15 lt_q16 lt_q17 lt_q18 lt_q19 lt_q20 lt_q21 lt_q22 lt_q23 lt_q24 lt_q25 lt_q26 lt_q27 lt_q28 lt_q29 lt_q30 lt_q31 lt_q32 run_fop run_store_float
attribute [local go_sem high] cmp_eql cmp_neq cmp_lss cmp_leq cmp_gtr cmp_geq

/-- where an item lies: the first one apart, the others in a row -/
def vb (L I i : Nat) : Nat := if i = 0 then L else I
def vo (i : Nat) : Nat := i * 5
theorem vb_0 (L I : Nat) : vb L I 0 = L := if_pos rfl
theorem vb_s (L I : Nat) {i : Nat} (h : 0 < i) : vb L I i = I := if_neg (by omega)
theorem vb_apart {L I i i' k k' : Nat} (hLI : L ≠ I) (hk : k < 5) (hk' : k' < 5) (h : ¬(i = i' ∧ k = k')) : (⟨vb L I i, vo i + k, none⟩ : Addr) ≠ ⟨vb L I i', vo i' + k', none⟩ := fun e => by
  injection e with e1 e2
  unfold vb at e1
  unfold vo at e2
  apply h
  split at e1 <;> split at e1 <;> first | omega | (exfalso; omega)
/-- the state: a row of m items, where each lies in it, areas, indices, and the links -/
structure VSt where
  m : Nat
  H : Nat → Nat
  X : Nat → Nat
  A : Nat → Nat
  P : Nat → Nat
  nx : Nat → Option Nat
  pv : Nat → Option Nat
def vp (L I : Nat) (o : Option Nat) : Value := .pointer (o.map fun i => ⟨vb L I i, vo i, none⟩)
theorem vp_none (L I : Nat) : vp L I none = .pointer none := rfl
theorem vp_some (L I i : Nat) : vp L I (some i) = .pointer (some ⟨vb L I i, vo i, none⟩) := rfl
structure VisAt (w : World) (n L I g : Nat) (S : VSt) : Prop where
  cA : ∀ i, i < n → w.cell? ⟨vb L I i, vo i, none⟩ = some (.float .f64 (S.A i))
  cP : ∀ i, i < n → w.cell? ⟨vb L I i, vo i + 1, none⟩ = some (.int .i64 (S.P i : Nat))
  cN : ∀ i, i < n → w.cell? ⟨vb L I i, vo i + 2, none⟩ = some (vp L I (S.nx i))
  cV : ∀ i, i < n → w.cell? ⟨vb L I i, vo i + 3, none⟩ = some (vp L I (S.pv i))
  cX : ∀ i, i < n → w.cell? ⟨vb L I i, vo i + 4, none⟩ = some (.int .i64 (S.X i : Nat))
  row : ∀ j, j < S.m → w.cell? ⟨g, j, none⟩ = some (.pointer (some ⟨vb L I (S.H j), vo (S.H j), none⟩))
  room : ∀ j, j < n → ∃ v, w.cell? ⟨g, j, none⟩ = some v
  zL : ∀ j, w.frozen? ⟨L, j, none⟩ = false
  zI : ∀ j, w.frozen? ⟨I, j, none⟩ = false
  zg : ∀ j, w.frozen? ⟨g, j, none⟩ = false
  lL : L < w.heap.size
  lI : I < w.heap.size
  lg : g < w.heap.size
  dLI : L ≠ I
  dLg : L ≠ g
  dIg : I ≠ g
  mn : S.m ≤ n
  Hn : ∀ j, j < S.m → S.H j < n
  obj : RowObj w g n 96
variable {w : World} {n L I g : Nat} {S : VSt}
theorem VisAt.fz (h : VisAt w n L I g S) (i j : Nat) : w.frozen? ⟨vb L I i, j, none⟩ = false := by
  unfold vb; split
  · exact h.zL j
  · exact h.zI j
theorem VisAt.lt (h : VisAt w n L I g S) (i : Nat) : vb L I i < w.heap.size := by
  unfold vb; split
  · exact h.lL
  · exact h.lI
theorem VisAt.ne (h : VisAt w n L I g S) (i : Nat) : vb L I i ≠ g := by
  unfold vb; split
  · exact h.dLg
  · exact h.dIg
theorem VisAt.kp {w' : World} (h : VisAt w n L I g S) (k : Kp w w') : VisAt w' n L I g S := by
  have hc : ∀ i j, w'.cell? ⟨vb L I i, j, none⟩ = w.cell? ⟨vb L I i, j, none⟩ := fun i j => Below.cell (p := ⟨vb L I i, j, none⟩) k (h.lt i)
  have hg : ∀ j, w'.cell? ⟨g, j, none⟩ = w.cell? ⟨g, j, none⟩ := fun j => Below.cell (p := ⟨g, j, none⟩) k h.lg
  have hf : ∀ b, b < w.heap.size → ∀ j, w'.frozen? ⟨b, j, none⟩ = w.frozen? ⟨b, j, none⟩ := fun b hb j => Below.frozen (p := ⟨b, j, none⟩) k hb
  have hs := k.size
  exact ⟨fun i hi => (hc i _).trans (h.cA i hi), fun i hi => (hc i _).trans (h.cP i hi), fun i hi => (hc i _).trans (h.cN i hi), fun i hi => (hc i _).trans (h.cV i hi), fun i hi => (hc i _).trans (h.cX i hi), fun j hj => (hg j).trans (h.row j hj),
    fun j hj => by obtain ⟨v, hv⟩ := h.room j hj; exact ⟨v, (hg j).trans hv⟩, fun j => (hf L h.lL j).trans (h.zL j), fun j => (hf I h.lI j).trans (h.zI j), fun j => (hf g h.lg j).trans (h.zg j),
    Nat.lt_of_lt_of_le h.lL hs, Nat.lt_of_lt_of_le h.lI hs, Nat.lt_of_lt_of_le h.lg hs, h.dLI, h.dLg, h.dIg, h.mn, h.Hn, h.obj.kp h.lg k⟩

theorem set_get {w : World} {a b : Addr} {u v x : Value} (hb : w.cell? b = some u) (h : a = b → x = v) (h' : a ≠ b → u = x) : (w.setCell a v).cell? b = some x := by
  by_cases c : a = b
  · subst c
    rw [World.cell?_setCell_same _ _ _ hb, h rfl]
  · rw [World.cell?_setCell_other _ _ _ _ c, hb, h' c]
theorem VisAt.setA (h : VisAt w n L I g S) {a : Nat} (_ha : a < n) (x : Nat) : VisAt (w.setCell ⟨vb L I a, vo a, none⟩ (.float .f64 x)) n L I g { S with A := upd S.A a x } := by
  refine ⟨fun i hi => set_get (h.cA i hi) (fun e => ?_) (fun e => ?_), fun i hi => ?_, fun i hi => ?_, fun i hi => ?_, fun i hi => ?_, fun j hj => ?_, fun j hj => ?_, fun j => by simpa using h.zL j, fun j => by simpa using h.zI j, fun j => by simpa using h.zg j, by simpa using h.lL, by simpa using h.lI, by simpa using h.lg, h.dLI, h.dLg, h.dIg, h.mn, h.Hn, h.obj.set _ _ _⟩
  · have : a = i := by
      rcases Nat.decEq a i with c | c
      · exact absurd e (vb_apart (k := 0) (k' := 0) h.dLI (by decide) (by decide) (fun q => c q.1))
      · exact c
    subst this
    show _ = Value.float .f64 x
    rw [show ({ S with A := upd S.A a x } : VSt).A a = x from upd_same _ _ _]
  · have : i ≠ a := fun q => by subst q; exact e rfl
    rw [show ({ S with A := upd S.A a x } : VSt).A i = S.A i from upd_other _ _ this]
  · exact (World.cell?_setCell_other _ _ _ _ (vb_apart (k := 0) h.dLI (by decide) (by decide) (by omega))).trans (h.cP i hi)
  · exact (World.cell?_setCell_other _ _ _ _ (vb_apart (k := 0) h.dLI (by decide) (by decide) (by omega))).trans (h.cN i hi)
  · exact (World.cell?_setCell_other _ _ _ _ (vb_apart (k := 0) h.dLI (by decide) (by decide) (by omega))).trans (h.cV i hi)
  · exact (World.cell?_setCell_other _ _ _ _ (vb_apart (k := 0) h.dLI (by decide) (by decide) (by omega))).trans (h.cX i hi)
  · rw [World.cell?_setCell_other _ _ _ _ (fun e => h.ne a (by injection e))]; exact h.row j hj
  · obtain ⟨v, hv⟩ := h.room j hj
    exact ⟨v, by rw [World.cell?_setCell_other _ _ _ _ (fun e => h.ne a (by injection e))]; exact hv⟩
theorem VisAt.setP (h : VisAt w n L I g S) {a : Nat} (_ha : a < n) (x : Nat) : VisAt (w.setCell ⟨vb L I a, vo a + 1, none⟩ (.int .i64 (x : Nat))) n L I g { S with P := upd S.P a x } := by
  refine ⟨fun i hi => ?_, fun i hi => set_get (h.cP i hi) (fun e => ?_) (fun e => ?_), fun i hi => ?_, fun i hi => ?_, fun i hi => ?_, fun j hj => ?_, fun j hj => ?_, fun j => by simpa using h.zL j, fun j => by simpa using h.zI j, fun j => by simpa using h.zg j, by simpa using h.lL, by simpa using h.lI, by simpa using h.lg, h.dLI, h.dLg, h.dIg, h.mn, h.Hn, h.obj.set _ _ _⟩
  · exact (World.cell?_setCell_other _ _ _ _ (vb_apart (k' := 0) h.dLI (by decide) (by decide) (by omega))).trans (h.cA i hi)
  · have : a = i := by
      rcases Nat.decEq a i with c | c
      · exact absurd e (vb_apart h.dLI (by decide) (by decide) (fun q => c q.1))
      · exact c
    subst this
    rw [show ({ S with P := upd S.P a x } : VSt).P a = x from upd_same _ _ _]
  · have : i ≠ a := fun q => by subst q; exact e rfl
    rw [show ({ S with P := upd S.P a x } : VSt).P i = S.P i from upd_other _ _ this]
  · exact (World.cell?_setCell_other _ _ _ _ (vb_apart h.dLI (by decide) (by decide) (by omega))).trans (h.cN i hi)
  · exact (World.cell?_setCell_other _ _ _ _ (vb_apart h.dLI (by decide) (by decide) (by omega))).trans (h.cV i hi)
  · exact (World.cell?_setCell_other _ _ _ _ (vb_apart h.dLI (by decide) (by decide) (by omega))).trans (h.cX i hi)
  · rw [World.cell?_setCell_other _ _ _ _ (fun e => h.ne a (by injection e))]; exact h.row j hj
  · obtain ⟨v, hv⟩ := h.room j hj
    exact ⟨v, by rw [World.cell?_setCell_other _ _ _ _ (fun e => h.ne a (by injection e))]; exact hv⟩
theorem VisAt.setN (h : VisAt w n L I g S) {a : Nat} (_ha : a < n) (x : Option Nat) : VisAt (w.setCell ⟨vb L I a, vo a + 2, none⟩ (vp L I x)) n L I g { S with nx := upd S.nx a x } := by
  refine ⟨fun i hi => ?_, fun i hi => ?_, fun i hi => set_get (h.cN i hi) (fun e => ?_) (fun e => ?_), fun i hi => ?_, fun i hi => ?_, fun j hj => ?_, fun j hj => ?_, fun j => by simpa using h.zL j, fun j => by simpa using h.zI j, fun j => by simpa using h.zg j, by simpa using h.lL, by simpa using h.lI, by simpa using h.lg, h.dLI, h.dLg, h.dIg, h.mn, h.Hn, h.obj.set _ _ _⟩
  · exact (World.cell?_setCell_other _ _ _ _ (vb_apart (k' := 0) h.dLI (by decide) (by decide) (by omega))).trans (h.cA i hi)
  · exact (World.cell?_setCell_other _ _ _ _ (vb_apart h.dLI (by decide) (by decide) (by omega))).trans (h.cP i hi)
  · have : a = i := by
      rcases Nat.decEq a i with c | c
      · exact absurd e (vb_apart h.dLI (by decide) (by decide) (fun q => c q.1))
      · exact c
    subst this
    rw [show ({ S with nx := upd S.nx a x } : VSt).nx a = x from upd_same _ _ _]
  · have : i ≠ a := fun q => by subst q; exact e rfl
    rw [show ({ S with nx := upd S.nx a x } : VSt).nx i = S.nx i from upd_other _ _ this]
  · exact (World.cell?_setCell_other _ _ _ _ (vb_apart h.dLI (by decide) (by decide) (by omega))).trans (h.cV i hi)
  · exact (World.cell?_setCell_other _ _ _ _ (vb_apart h.dLI (by decide) (by decide) (by omega))).trans (h.cX i hi)
  · rw [World.cell?_setCell_other _ _ _ _ (fun e => h.ne a (by injection e))]; exact h.row j hj
  · obtain ⟨v, hv⟩ := h.room j hj
    exact ⟨v, by rw [World.cell?_setCell_other _ _ _ _ (fun e => h.ne a (by injection e))]; exact hv⟩
theorem VisAt.setV (h : VisAt w n L I g S) {a : Nat} (_ha : a < n) (x : Option Nat) : VisAt (w.setCell ⟨vb L I a, vo a + 3, none⟩ (vp L I x)) n L I g { S with pv := upd S.pv a x } := by
  refine ⟨fun i hi => ?_, fun i hi => ?_, fun i hi => ?_, fun i hi => set_get (h.cV i hi) (fun e => ?_) (fun e => ?_), fun i hi => ?_, fun j hj => ?_, fun j hj => ?_, fun j => by simpa using h.zL j, fun j => by simpa using h.zI j, fun j => by simpa using h.zg j, by simpa using h.lL, by simpa using h.lI, by simpa using h.lg, h.dLI, h.dLg, h.dIg, h.mn, h.Hn, h.obj.set _ _ _⟩
  · exact (World.cell?_setCell_other _ _ _ _ (vb_apart (k' := 0) h.dLI (by decide) (by decide) (by omega))).trans (h.cA i hi)
  · exact (World.cell?_setCell_other _ _ _ _ (vb_apart h.dLI (by decide) (by decide) (by omega))).trans (h.cP i hi)
  · exact (World.cell?_setCell_other _ _ _ _ (vb_apart h.dLI (by decide) (by decide) (by omega))).trans (h.cN i hi)
  · have : a = i := by
      rcases Nat.decEq a i with c | c
      · exact absurd e (vb_apart h.dLI (by decide) (by decide) (fun q => c q.1))
      · exact c
    subst this
    rw [show ({ S with pv := upd S.pv a x } : VSt).pv a = x from upd_same _ _ _]
  · have : i ≠ a := fun q => by subst q; exact e rfl
    rw [show ({ S with pv := upd S.pv a x } : VSt).pv i = S.pv i from upd_other _ _ this]
  · exact (World.cell?_setCell_other _ _ _ _ (vb_apart h.dLI (by decide) (by decide) (by omega))).trans (h.cX i hi)
  · rw [World.cell?_setCell_other _ _ _ _ (fun e => h.ne a (by injection e))]; exact h.row j hj
  · obtain ⟨v, hv⟩ := h.room j hj
    exact ⟨v, by rw [World.cell?_setCell_other _ _ _ _ (fun e => h.ne a (by injection e))]; exact hv⟩
theorem VisAt.setX (h : VisAt w n L I g S) {a : Nat} (_ha : a < n) (x : Nat) : VisAt (w.setCell ⟨vb L I a, vo a + 4, none⟩ (.int .i64 (x : Nat))) n L I g { S with X := upd S.X a x } := by
  refine ⟨fun i hi => ?_, fun i hi => ?_, fun i hi => ?_, fun i hi => ?_, fun i hi => set_get (h.cX i hi) (fun e => ?_) (fun e => ?_), fun j hj => ?_, fun j hj => ?_, fun j => by simpa using h.zL j, fun j => by simpa using h.zI j, fun j => by simpa using h.zg j, by simpa using h.lL, by simpa using h.lI, by simpa using h.lg, h.dLI, h.dLg, h.dIg, h.mn, h.Hn, h.obj.set _ _ _⟩
  · exact (World.cell?_setCell_other _ _ _ _ (vb_apart (k' := 0) h.dLI (by decide) (by decide) (by omega))).trans (h.cA i hi)
  · exact (World.cell?_setCell_other _ _ _ _ (vb_apart h.dLI (by decide) (by decide) (by omega))).trans (h.cP i hi)
  · exact (World.cell?_setCell_other _ _ _ _ (vb_apart h.dLI (by decide) (by decide) (by omega))).trans (h.cN i hi)
  · exact (World.cell?_setCell_other _ _ _ _ (vb_apart h.dLI (by decide) (by decide) (by omega))).trans (h.cV i hi)
  · have : a = i := by
      rcases Nat.decEq a i with c | c
      · exact absurd e (vb_apart h.dLI (by decide) (by decide) (fun q => c q.1))
      · exact c
    subst this
    rw [show ({ S with X := upd S.X a x } : VSt).X a = x from upd_same _ _ _]
  · have : i ≠ a := fun q => by subst q; exact e rfl
    rw [show ({ S with X := upd S.X a x } : VSt).X i = S.X i from upd_other _ _ this]
  · rw [World.cell?_setCell_other _ _ _ _ (fun e => h.ne a (by injection e))]; exact h.row j hj
  · obtain ⟨v, hv⟩ := h.room j hj
    exact ⟨v, by rw [World.cell?_setCell_other _ _ _ _ (fun e => h.ne a (by injection e))]; exact hv⟩
theorem VisAt.setH (h : VisAt w n L I g S) {j : Nat} (hj : j < n) {a : Nat} (ha : a < n) : VisAt (w.setCell ⟨g, j, none⟩ (.pointer (some ⟨vb L I a, vo a, none⟩))) n L I g { S with H := upd S.H j a } := by
  have o : ∀ i k, (w.setCell ⟨g, j, none⟩ (.pointer (some ⟨vb L I a, vo a, none⟩))).cell? ⟨vb L I i, k, none⟩ = w.cell? ⟨vb L I i, k, none⟩ := fun i k =>
    World.cell?_setCell_other _ _ _ _ (fun e => h.ne i (by injection e with e; exact e.symm))
  refine ⟨fun i hi => (o i _).trans (h.cA i hi), fun i hi => (o i _).trans (h.cP i hi), fun i hi => (o i _).trans (h.cN i hi), fun i hi => (o i _).trans (h.cV i hi), fun i hi => (o i _).trans (h.cX i hi), fun q hq => set_get (h.row q hq) (fun e => ?_) (fun e => ?_), fun q hq => ?_, fun j => by simpa using h.zL j, fun j => by simpa using h.zI j, fun j => by simpa using h.zg j, by simpa using h.lL, by simpa using h.lI, by simpa using h.lg, h.dLI, h.dLg, h.dIg, h.mn, fun q hq => ?_, h.obj.set _ _ _⟩
  · injection e with _ e
    subst e
    rw [show ({ S with H := upd S.H j a } : VSt).H j = a from upd_same _ _ _]
  · have : q ≠ j := fun c => e (by rw [c])
    rw [show ({ S with H := upd S.H j a } : VSt).H q = S.H q from upd_other _ _ this]
  · obtain ⟨v, hv⟩ := h.room q hq
    by_cases c : q = j
    · subst c; exact ⟨_, World.cell?_setCell_same _ _ _ hv⟩
    · exact ⟨v, (World.cell?_setCell_other _ _ _ _ (fun e => c (by injection e with _ e; exact e.symm))).trans hv⟩
  · show upd S.H j a q < n
    by_cases c : q = j
    · subst c; rw [upd_same]; exact ha
    · rw [upd_other _ _ c]; exact h.Hn q hq
/-- one item more in the row -/
theorem VisAt.more (h : VisAt w n L I g S) (hm : S.m < n) {a : Nat} (ha : a < n) : VisAt (w.setCell ⟨g, S.m, none⟩ (.pointer (some ⟨vb L I a, vo a, none⟩))) n L I g { S with H := upd S.H S.m a, m := S.m + 1 } := by
  obtain ⟨cA, cP, cN, cV, cX, row, room, zL, zI, zg, lL, lI, lg, dLI, dLg, dIg, mn, Hn, obj⟩ := h.setH (j := S.m) hm ha
  refine ⟨cA, cP, cN, cV, cX, fun q hq => ?_, room, zL, zI, zg, lL, lI, lg, dLI, dLg, dIg, hm, fun q hq => ?_, obj⟩
  · by_cases c : q = S.m
    · subst c
      obtain ⟨v, hv⟩ := h.room S.m hm
      rw [World.cell?_setCell_same _ _ _ hv]
      rw [show ({ S with H := upd S.H S.m a, m := S.m + 1 } : VSt).H S.m = a from upd_same _ _ _]
    · exact row q (by have : q < S.m + 1 := hq; show q < S.m; omega)
  · by_cases c : q = S.m
    · subst c
      show upd S.H S.m a S.m < n
      rw [upd_same]; exact ha
    · exact Hn q (by have : q < S.m + 1 := hq; show q < S.m; omega)
/-- one less -/
theorem VisAt.less (h : VisAt w n L I g S) {k : Nat} (hk : k ≤ S.m) : VisAt w n L I g { S with m := k } :=
  ⟨h.cA, h.cP, h.cN, h.cV, h.cX, fun j hj => h.row j (Nat.lt_of_lt_of_le hj hk), h.room, h.zL, h.zI, h.zg, h.lL, h.lI, h.lg, h.dLI, h.dLg, h.dIg, Nat.le_trans hk h.mn, fun j hj => h.Hn j (Nat.lt_of_lt_of_le hj hk), h.obj⟩

/-- the key of an area: a whole number, or above all of them -/
def infK : Int := 1000000000000
def infF : Nat := 9218868437227405312
def AV (x : Nat) (k : Int) : Prop := (x = infF ∧ k = infK) ∨ (IsV x (k : Rat) ∧ 0 ≤ k ∧ k < infK)
theorem order_inf_l {y : Nat} {q : Rat} (hy : IsV y q) : Ieee.double.order infF y = some .gt := by
  obtain ⟨_, s, m, e, h, _⟩ := hy
  unfold Ieee.Format.order
  rw [h, show Ieee.double.read infF = .infinity false by kernel_rfl]
  rfl
theorem order_inf_r {x : Nat} {q : Rat} (hx : IsV x q) : Ieee.double.order x infF = some .lt := by
  obtain ⟨_, s, m, e, h, _⟩ := hx
  unfold Ieee.Format.order
  rw [h, show Ieee.double.read infF = .infinity false by kernel_rfl]
  rfl
theorem order_inf : Ieee.double.order infF infF = some .eq := by kernel_rfl
theorem AV.gt {x y : Nat} {a b : Int} (hx : AV x a) (hy : AV y b) : gtF x y = decide (b < a) := by
  rcases hx with ⟨rfl, rfl⟩ | ⟨hx, h1, h2⟩ <;> rcases hy with ⟨rfl, rfl⟩ | ⟨hy, h3, h4⟩
  · show (Ieee.double.order infF infF == some .gt) = _
    rw [order_inf]; exact (decide_eq_false (by omega)).symm
  · show (Ieee.double.order infF y == some .gt) = _
    rw [order_inf_l hy]; exact (decide_eq_true h4).symm
  · show (Ieee.double.order x infF == some .gt) = _
    rw [order_inf_r hx]; exact (decide_eq_false (by omega)).symm
  · exact gtF_int hx hy
theorem AV.lt {x y : Nat} {a b : Int} (hx : AV x a) (hy : AV y b) : ltF x y = decide (a < b) := by
  rcases hx with ⟨rfl, rfl⟩ | ⟨hx, h1, h2⟩ <;> rcases hy with ⟨rfl, rfl⟩ | ⟨hy, h3, h4⟩
  · show (Ieee.double.order infF infF == some .lt) = _
    rw [order_inf]; exact (decide_eq_false (by omega)).symm
  · show (Ieee.double.order infF y == some .lt) = _
    rw [order_inf_l hy]; exact (decide_eq_false (by omega)).symm
  · show (Ieee.double.order x infF == some .lt) = _
    rw [order_inf_r hx]; exact (decide_eq_true h2).symm
  · exact ltF_int hx hy
theorem AV.le {x y : Nat} {a b : Int} (hx : AV x a) (hy : AV y b) : leF x y = decide (a ≤ b) := by
  rcases hx with ⟨rfl, rfl⟩ | ⟨hx, h1, h2⟩ <;> rcases hy with ⟨rfl, rfl⟩ | ⟨hy, h3, h4⟩
  · show ((Ieee.double.order infF infF == some .lt) || (Ieee.double.order infF infF == some .eq)) = _
    rw [order_inf]; exact (decide_eq_true (by omega)).symm
  · show ((Ieee.double.order infF y == some .lt) || (Ieee.double.order infF y == some .eq)) = _
    rw [order_inf_l hy]; exact (decide_eq_false (by omega)).symm
  · show ((Ieee.double.order x infF == some .lt) || (Ieee.double.order x infF == some .eq)) = _
    rw [order_inf_r hx]; exact (decide_eq_true (by omega)).symm
  · exact leF_int hx hy
end Go.Proofs.Ytglopopdmkgooaa

namespace Go.Proofs.Ytglopopdmkgooaa
open PubFl Go.RowKit PubVis

attribute [local go_sem] cell_ext frozen_ext ext_setCell cell_store size_ext_eq lt_p0 lt_p1 lt_p2 lt_p3 lt_p4 lt_p5 lt_p6 lt_p7 lt_p8 lt_p9 lt_p10 lt_p11 lt_p12 lt_p13 lt_p14 lt_p15 lt_p16 lt_p17 lt_p18 lt_p19 lt_p20 lt_p21 lt_p22 lt_p23 lt_p24 lt_p25 lt_p26 lt_p27 lt_p28 lt_p29 lt_p30 lt_p31 lt_p32 lt_q1 lt_q2 lt_q3 lt_q4 lt_q5 lt_q6 lt_q7 lt_q8 lt_q9 lt_q10 lt_q11 lt_q12 lt_q13 lt_q14 lt_q15 lt_q16 lt_q17 lt_q18 lt_q19 lt_q20 lt_q21 lt_q22 lt_q23 lt_q24 lt_q25 lt_q26 lt_q27 lt_q28 lt_q29 lt_q30 lt_q31 lt_q32 run_fop run_store_float
attribute [local go_sem high] cmp_eql cmp_neq cmp_lss cmp_leq cmp_gtr cmp_geq

variable {w : World} {n L I g : Nat} {S : VSt}
/-- what a move in the heap leaves -/
structure MovedS (n L I g : Nat) (S : VSt) (key : Nat → Int) (w w' : World) (H X : Nat → Nat) : Prop where
  at' : VisAt w' n L I g { S with H := H, X := X }
  hx : Hx S.m H X
  same : PubVis.Same S.m S.H H
  ord : Ord (fun j => key (H j)) S.m
  kx : Kx [L, I, g] w w'
def Moved (n L I g : Nat) (S : VSt) (key : Nat → Int) (w : World) (e : Ending) (w' : World) : Prop := e = .returned (.tuple #[]) ∧ ∃ H X, MovedS n L I g S key w w' H X
theorem vb_in (L I g i : Nat) : vb L I i ∈ [L, I, g] := by unfold vb; split <;> simp
theorem g_in (L I g : Nat) : g ∈ [L, I, g] := by simp

structure UpRel (n L I g : Nat) (S : VSt) (key : Nat → Int) (w wr : World) (i0 i : Nat) (H X : Nat → Nat) : Prop where
  im : i < S.m
  at' : VisAt wr n L I g { S with H := H, X := X }
  hx : Hx S.m H X
  same : PubVis.Same S.m S.H H
  inv : UpInv (fun j => key (H j)) S.m i
  kx : Kx [L, I, g] w wr
  obj : H i = S.H i0

set_option maxRecDepth 20000 in
set_option maxHeartbeats 1000000 in
theorem up_c (n L I g c : Nat) (S : VSt) (key : Nat → Int) (i0 : Nat) (hn : n ≤ 1000) (hi : i0 < S.m) (hmc : S.m ≤ c) (w : World) (h : VisAt w n L I g S) (hx : Hx S.m S.H S.X) (hk : ∀ q, q < n → AV (S.A q) (key q)) (hu : UpInv (fun j => key (S.H j)) S.m i0) :
    Calls Try.prog 70 #[.slice (some ⟨g, 0, none⟩) S.m c, .int .i64 (i0 : Nat)] w (Moved n L I g S key w) := by
  have r0 := h.row i0 hi
  have hmn := h.mn
  have hg := h.lg
  have HK := Lib.hid hk
  have H0 := Lib.hid (UpRel.mk hi h hx (PubVis.Same.refl _ _) hu (Kx.refl _ _) rfl : UpRel n L I g S key w w i0 i0 S.H S.X)
  obtain ⟨m, hm⟩ : ∃ m, S.m = m := ⟨_, rfl⟩
  rw [hm] at hmn hmc hi ⊢
  have Hm := Lib.hid hm
  clear h hx hk hu hm
  go_enter Try.func70, Try.ntmps70
  go_wp2_with fail
  go_loopw [1] (fun s1 wr => ∃ (i : Nat) (H X : Nat → Nat), s1 = .int .i64 (i : Nat) ∧ UpRel n L I g S key w wr i0 i H X) (fun s1 _ => (intOf s1).toNat)
  case atStart => exact ⟨i0, _, _, rfl, H0.out⟩
  case round =>
    obtain ⟨i, H, X, rfl, hr⟩ := hrel
    have him := hr.im
    by_cases hi0 : i = 0
    · subst hi0
      have H1 := Lib.hid hr
      clear hr
      go_wp2_with fail
      go_end0
      exact ⟨rfl, H, X, H1.out.at', H1.out.hx, H1.out.same, up_end H1.out.inv (.inl rfl), H1.out.kx⟩
    · have hp := par_lt (i := i) (by omega)
      have hpe : par i = (i + 1) / 2 - 1 := rfl
      obtain ⟨p, hpp⟩ : ∃ p, par i = p := ⟨_, rfl⟩
      rw [hpp] at hp hpe
      have rp := hr.at'.row p (by show p < S.m; omega)
      have hHp := hr.at'.Hn p (by show p < S.m; omega)
      have hHi := hr.at'.Hn i him
      have ap := hr.at'.cA _ hHp
      have ai := hr.at'.cA _ hHi
      have cmp := AV.le (HK.out _ hHp) (HK.out _ hHi)
      simp only at rp ap ai hHp hHi cmp
      have hip : i ≠ p := by omega
      have c1 := hr.at'.cX _ hHp
      have v1 := hr.at'.setX hHp i
      have c2 := v1.row i him
      have v2 := v1.setH (j := i) (by have := hr.at'.mn; simp only at this; omega) hHp
      have c3 := v2.cX _ hHi
      have v3 := v2.setX hHi p
      have c4 := v3.row p (by show p < S.m; omega)
      have v4 := v3.setH (j := p) (by have := hr.at'.mn; simp only at this; omega) hHi
      simp only at c1 c2 c3 c4
      rw [upd_other _ _ (by omega : p ≠ i)] at c4
      have z1 := hr.at'.fz (H p) (vo (H p) + 4)
      have z2 := hr.at'.zg i
      have z3 := hr.at'.fz (H i) (vo (H i) + 4)
      have z4 := hr.at'.zg p
      have e1 : (1 : Int) ≤ (i : Int) := by omega
      have e2 : ((i : Int) + 1) / 2 - 1 = (p : Int) := by omega
      have e3 : (p : Int) < (m : Int) := by have := Hm.out; omega
      have e4 : (i : Int) < (m : Int) := by have := Hm.out; omega
      have hob := hr.obj
      have hsw := hr.kx.size
      have hgw := hr.at'.lg
      have hlp := hr.at'.lt (H p)
      have hli := hr.at'.lt (H i)
      have H1 := Lib.hid hr
      have V4 := Lib.hid v4
      clear v1 v2 v3 v4
      have Hpe := Lib.hid hpe
      have Hpp := Lib.hid hpp
      rw [← hob]
      clear hr hpe hpp hob
      cases hc : leF (S.A (H p)) (S.A (H i))
      · have hkey : Hid (key (H i) < key (H p)) := Lib.hid (by rw [hc] at cmp; have := of_decide_eq_false cmp.symm; omega)
        clear cmp
        go_wp2_with fail
        first | (with_reducible refine wp_region_ext_lit2 ?_ ?_ ?_) | refine wp_region_ext_lit ?_ ?_ ?_
        kernel_rfl
        kernel_rfl
        repeat (go_big_quiet_step (fail))
        refine wpQuiet_nil ?_
        rintro _ ⟨u, rfl⟩
        go_wp2_with fail
        go_roundw
        case rel =>
          refine ⟨p, _, _, rfl, by have := Hm.out; omega, V4.out.kp ((Kp.refl _).ext u), hx_sw H1.out.hx him (by have := Hm.out; omega) hip, H1.out.same.trans (same_sw H him (by have := Hm.out; omega) hip), ?_, ?_, ?_⟩
          · have hs := up_step (v := fun j => key (H j)) (by omega) him H1.out.inv (by show key (H i) < key (H (par i)); rw [Hpp.out]; exact hkey.out)
            rw [Hpp.out, ← key_sw key H hip] at hs
            exact hs
          · exact H1.out.kx.trans ((((((Kx.refl [L, I, g] wr).setCell (vb_in L I g _) _ _).setCell (g_in L I g) _ _).setCell (vb_in L I g _) _ _).setCell (g_in L I g) _ _).trans (Kx.of_kp ((Kp.refl _).ext u)))
          · show upd (upd H i (H p)) p (H i) p = _
            rw [upd_same]; exact H1.out.obj
        case measure => simp [intOf]; omega
      · have hkey : Hid (key (H p) ≤ key (H i)) := Lib.hid (by rw [hc] at cmp; exact of_decide_eq_true cmp.symm)
        clear cmp c1 c2 c3 c4
        go_wp2_with fail
        first | (with_reducible refine wp_region_ext_lit2 ?_ ?_ ?_) | refine wp_region_ext_lit ?_ ?_ ?_
        kernel_rfl
        kernel_rfl
        repeat (go_big_quiet_step (fail))
        refine wpQuiet_nil ?_
        rintro _ ⟨u, rfl⟩
        go_wp2_with fail
        go_end0
        exact ⟨rfl, H, X, H1.out.at'.kp ((Kp.refl _).ext u), H1.out.hx, H1.out.same, up_end H1.out.inv (.inr (by show key (H (par i)) ≤ key (H i); rw [Hpp.out]; exact hkey.out)), H1.out.kx.trans (Kx.of_kp ((Kp.refl _).ext u))⟩
end Go.Proofs.Ytglopopdmkgooaa

namespace Go.Proofs.Ytglopopdmkgooaa
open PubFl Go.RowKit PubVis

attribute [local go_sem] cell_ext frozen_ext ext_setCell cell_store size_ext_eq lt_p0 lt_p1 lt_p2 lt_p3 lt_p4 lt_p5 lt_p6 lt_p7 lt_p8 lt_p9 lt_p10 lt_p11 lt_p12 lt_p13 lt_p14 lt_p15 lt_p16 lt_p17 lt_p18 lt_p19 lt_p20 lt_p21 lt_p22 lt_p23 lt_p24 lt_p25 lt_p26 lt_p27 lt_p28 lt_p29 lt_p30 lt_p31 lt_p32 lt_q1 lt_q2 lt_q3 lt_q4 lt_q5 lt_q6 lt_q7 lt_q8 lt_q9 lt_q10 lt_q11 lt_q12 lt_q13 lt_q14 lt_q15 lt_q16 lt_q17 lt_q18 lt_q19 lt_q20 lt_q21 lt_q22 lt_q23 lt_q24 lt_q25 lt_q26 lt_q27 lt_q28 lt_q29 lt_q30 lt_q31 lt_q32 run_fop run_store_float
attribute [local go_sem high] cmp_eql cmp_neq cmp_lss cmp_leq cmp_gtr cmp_geq

structure DownRel (n L I g : Nat) (S : VSt) (key : Nat → Int) (w wr : World) (i0 i : Nat) (H X : Nat → Nat) : Prop where
  im : i < S.m
  at' : VisAt wr n L I g { S with H := H, X := X }
  hx : Hx S.m H X
  same : PubVis.Same S.m S.H H
  inv : DownInv (fun j => key (H j)) S.m i
  kx : Kx [L, I, g] w wr
  obj : H i = S.H i0
theorem child_or {i j l r : Nat} (hl : l + 1 = r) (hr : r = (i + 1) * 2) (h0 : 0 < j) (h : par j = i) : j = l ∨ j = r := by unfold par at h; omega
theorem par_l {i l r : Nat} (hl : l + 1 = r) (hr : r = (i + 1) * 2) : par l = i := by unfold par; omega
theorem par_r {i r : Nat} (hr : r = (i + 1) * 2) : par r = i := by unfold par; omega

set_option maxRecDepth 20000 in
set_option maxHeartbeats 4000000 in
theorem down_c (n L I g c : Nat) (S : VSt) (key : Nat → Int) (i0 : Nat) (hn : n ≤ 1000) (hi : i0 < S.m) (hmc : S.m ≤ c) (w : World) (h : VisAt w n L I g S) (hx : Hx S.m S.H S.X) (hk : ∀ q, q < n → AV (S.A q) (key q)) (hu : DownInv (fun j => key (S.H j)) S.m i0) :
    Calls Try.prog 71 #[.slice (some ⟨g, 0, none⟩) S.m c, .int .i64 (i0 : Nat)] w (Moved n L I g S key w) := by
  have r0 := h.row i0 hi
  have hmn := h.mn
  have hg := h.lg
  have HK := Lib.hid hk
  have H0 := Lib.hid (DownRel.mk hi h hx (PubVis.Same.refl _ _) hu (Kx.refl _ _) rfl : DownRel n L I g S key w w i0 i0 S.H S.X)
  obtain ⟨m, hm⟩ : ∃ m, S.m = m := ⟨_, rfl⟩
  rw [hm] at hmn hmc hi ⊢
  have Hm := Lib.hid hm
  clear h hx hk hu hm
  go_enter Try.func71, Try.ntmps71
  go_wp2_with fail
  go_loopw [1] (fun s1 wr => ∃ (i : Nat) (H X : Nat → Nat), s1 = .int .i64 (i : Nat) ∧ DownRel n L I g S key w wr i0 i H X) (fun s1 _ => n - (intOf s1).toNat)
  case atStart => exact ⟨i0, _, _, rfl, H0.out⟩
  case round =>
    obtain ⟨i, H, X, rfl, hr⟩ := hrel
    have him := hr.im
    have ri := hr.at'.row i him
    have hHi := hr.at'.Hn i him
    have ai := hr.at'.cA _ hHi
    simp only at ri ai hHi
    have hgw := hr.at'.lg
    have hli := hr.at'.lt (H i)
    have e4 : (i : Int) < (m : Int) := by have := Hm.out; omega
    have hsw := hr.kx.size
    have hob := hr.obj
    rw [← hob]
    clear hob
    obtain ⟨r, her⟩ : ∃ r, r = (i + 1) * 2 := ⟨_, rfl⟩
    obtain ⟨l, hel⟩ : ∃ l, l + 1 = r := ⟨r - 1, by omega⟩
    have e2 : ((i : Int) + 1) * 2 = (r : Int) := by omega
    have e3 : (r : Int) - 1 = (l : Int) := by omega
    have eil : i < l := by omega
    have Her := Lib.hid her
    have Hel := Lib.hid hel
    clear her hel

    by_cases hl : l < m
    · have rl := hr.at'.row l (by have := Hm.out; show l < S.m; omega)
      have hHl := hr.at'.Hn l (by have := Hm.out; show l < S.m; omega)
      have al := hr.at'.cA _ hHl
      simp only at rl al hHl
      have hll := hr.at'.lt (H l)
      have cl := AV.lt (HK.out _ hHl) (HK.out _ hHi)

      have e5 : (l : Int) < (m : Int) := by omega
      by_cases hrm : r < m
      · have rr := hr.at'.row r (by have := Hm.out; show r < S.m; omega)
        have hHr := hr.at'.Hn r (by have := Hm.out; show r < S.m; omega)
        have ar := hr.at'.cA _ hHr
        simp only at rr ar hHr
        have hlr := hr.at'.lt (H r)
        have cr := AV.lt (HK.out _ hHr) (HK.out _ hHi)
        have crl := AV.lt (HK.out _ hHr) (HK.out _ hHl)
        have e6 : (r : Int) < (m : Int) := by omega
        cases b1 : ltF (S.A (H l)) (S.A (H i))
        · have k1 : Hid (key (H i) ≤ key (H l)) := Lib.hid (by rw [b1] at cl; have := of_decide_eq_false cl.symm; omega)
          clear cl crl
          cases b2 : ltF (S.A (H r)) (S.A (H i))
          · have k2 : Hid (key (H i) ≤ key (H r)) := Lib.hid (by rw [b2] at cr; have := of_decide_eq_false cr.symm; omega)
            clear cr
            have H1 := Lib.hid hr
            clear hr
            go_wp2_with fail
            first | (with_reducible refine wp_region_ext_lit2 ?_ ?_ ?_) | refine wp_region_ext_lit ?_ ?_ ?_
            kernel_rfl
            kernel_rfl
            repeat (go_big_quiet_step (fail))
            refine wpQuiet_nil ?_
            rintro _ ⟨u, rfl⟩
            go_wp2_with fail
            first | (with_reducible refine wp_region_ext_lit2 ?_ ?_ ?_) | refine wp_region_ext_lit ?_ ?_ ?_
            kernel_rfl
            kernel_rfl
            repeat (go_big_quiet_step (fail))
            refine wpQuiet_nil ?_
            rintro _ ⟨u, rfl⟩
            go_wp2_with fail
            go_end0
            refine ⟨rfl, H, X, H1.out.at'.kp ((Kp.refl _).ext _), H1.out.hx, H1.out.same, down_end H1.out.inv (fun j h0 hj hpj => ?_), H1.out.kx.trans (Kx.of_kp ((Kp.refl _).ext _))⟩
            rcases child_or Hel.out Her.out h0 hpj with e | e <;> subst e
            · exact k1.out
            · exact k2.out
          · have hkey : Hid (key (H r) < key (H i)) := Lib.hid (by rw [b2] at cr; exact of_decide_eq_true cr.symm)
            clear cr
            have hid : i ≠ r := by have := Hel.out; omega
            have hdm : r < S.m := by have := Hm.out; omega
            have c1 := hr.at'.cX _ hHr
            have v1 := hr.at'.setX hHr i
            have c1' := v1.cX _ hHr
            have c2 := v1.row i him
            have v2 := v1.setH (j := i) (by have := Hm.out; omega) hHr
            have c3 := v2.cX _ hHi
            have v3 := v2.setX hHi r
            have c4 := v3.row r (by show r < S.m; omega)
            have v4 := v3.setH (j := r) (by have := Hm.out; omega) hHi
            simp only at c1 c1' c2 c3 c4
            rw [upd_same] at c1'
            rw [upd_other _ _ (by omega : r ≠ i)] at c4
            have z1 := hr.at'.fz (H r) (vo (H r) + 4)
            have z2 := hr.at'.zg i
            have z3 := hr.at'.fz (H i) (vo (H i) + 4)
            have z4 := hr.at'.zg r
            have f0 : (r = i) = False := eq_false (by omega)
            have f1 : ((r : Int) = (i : Int)) = False := eq_false (by omega)
            have f2 : ((r : Int) == (i : Int)) = false := beq_eq_false_iff_ne.2 (by omega)
            have f3 : ((r : Nat) == i) = false := beq_eq_false_iff_ne.2 (by omega)
            have V4 := Lib.hid v4
            have H1 := Lib.hid hr
            clear v1 v2 v3 v4 hr
            go_wp2_with fail
            first | (with_reducible refine wp_region_ext_lit2 ?_ ?_ ?_) | refine wp_region_ext_lit ?_ ?_ ?_
            kernel_rfl
            kernel_rfl
            repeat (go_big_quiet_step (fail))
            refine wpQuiet_nil ?_
            rintro _ ⟨u, rfl⟩
            go_wp2_with fail
            first | (with_reducible refine wp_region_ext_lit2 ?_ ?_ ?_) | refine wp_region_ext_lit ?_ ?_ ?_
            kernel_rfl
            kernel_rfl
            repeat (go_big_quiet_step (fail))
            refine wpQuiet_nil ?_
            rintro _ ⟨u, rfl⟩
            go_wp2_with fail
            go_roundw
            case rel =>
              refine ⟨r, _, _, rfl, hdm, V4.out.kp ((Kp.refl _).ext _), hx_sw H1.out.hx him hdm hid, H1.out.same.trans (same_sw H him hdm hid), ?_, ?_, ?_⟩
              · have hs := down_step (v := fun j => key (H j)) (c := r) (by omega) hdm (par_r Her.out) H1.out.inv (hkey.out) (fun j h0 hj hpj => ?_)
                · rw [← key_sw key H hid] at hs
                  exact hs
                · rcases child_or Hel.out Her.out h0 hpj with e | e <;> subst e
                  · show key (H r) ≤ key (H j); have h1 := k1.out; have h2 := hkey.out; omega
                  · exact Int.le_refl _
              · exact H1.out.kx.trans ((((((Kx.refl [L, I, g] wr).setCell (vb_in L I g _) _ _).setCell (g_in L I g) _ _).setCell (vb_in L I g _) _ _).setCell (g_in L I g) _ _).trans (Kx.of_kp ((Kp.refl _).ext _)))
              · show upd (upd H i (H r)) r (H i) r = _
                rw [upd_same]; exact H1.out.obj
            case measure => simp [intOf]; omega
        · have k1 : Hid (key (H l) < key (H i)) := Lib.hid (by rw [b1] at cl; exact of_decide_eq_true cl.symm)
          clear cl cr
          cases b2 : ltF (S.A (H r)) (S.A (H l))
          · have k2 : Hid (key (H l) ≤ key (H r)) := Lib.hid (by rw [b2] at crl; have := of_decide_eq_false crl.symm; omega)
            have hkey : Hid (key (H l) < key (H i)) := k1
            clear crl
            have hid : i ≠ l := by have := Hel.out; omega
            have hdm : l < S.m := by have := Hm.out; omega
            have c1 := hr.at'.cX _ hHl
            have v1 := hr.at'.setX hHl i
            have c1' := v1.cX _ hHl
            have c2 := v1.row i him
            have v2 := v1.setH (j := i) (by have := Hm.out; omega) hHl
            have c3 := v2.cX _ hHi
            have v3 := v2.setX hHi l
            have c4 := v3.row l (by show l < S.m; omega)
            have v4 := v3.setH (j := l) (by have := Hm.out; omega) hHi
            simp only at c1 c1' c2 c3 c4
            rw [upd_same] at c1'
            rw [upd_other _ _ (by omega : l ≠ i)] at c4
            have z1 := hr.at'.fz (H l) (vo (H l) + 4)
            have z2 := hr.at'.zg i
            have z3 := hr.at'.fz (H i) (vo (H i) + 4)
            have z4 := hr.at'.zg l
            have f0 : (l = i) = False := eq_false (by omega)
            have f1 : ((l : Int) = (i : Int)) = False := eq_false (by omega)
            have f2 : ((l : Int) == (i : Int)) = false := beq_eq_false_iff_ne.2 (by omega)
            have f3 : ((l : Nat) == i) = false := beq_eq_false_iff_ne.2 (by omega)
            have V4 := Lib.hid v4
            have H1 := Lib.hid hr
            clear v1 v2 v3 v4 hr
            go_wp2_with fail
            first | (with_reducible refine wp_region_ext_lit2 ?_ ?_ ?_) | refine wp_region_ext_lit ?_ ?_ ?_
            kernel_rfl
            kernel_rfl
            repeat (go_big_quiet_step (fail))
            refine wpQuiet_nil ?_
            rintro _ ⟨u, rfl⟩
            go_wp2_with fail
            first | (with_reducible refine wp_region_ext_lit2 ?_ ?_ ?_) | refine wp_region_ext_lit ?_ ?_ ?_
            kernel_rfl
            kernel_rfl
            repeat (go_big_quiet_step (fail))
            refine wpQuiet_nil ?_
            rintro _ ⟨u, rfl⟩
            go_wp2_with fail
            go_roundw
            case rel =>
              refine ⟨l, _, _, rfl, hdm, V4.out.kp ((Kp.refl _).ext _), hx_sw H1.out.hx him hdm hid, H1.out.same.trans (same_sw H him hdm hid), ?_, ?_, ?_⟩
              · have hs := down_step (v := fun j => key (H j)) (c := l) (by omega) hdm (par_l Hel.out Her.out) H1.out.inv (hkey.out) (fun j h0 hj hpj => ?_)
                · rw [← key_sw key H hid] at hs
                  exact hs
                · rcases child_or Hel.out Her.out h0 hpj with e | e <;> subst e
                  · exact Int.le_refl _
                  · exact k2.out
              · exact H1.out.kx.trans ((((((Kx.refl [L, I, g] wr).setCell (vb_in L I g _) _ _).setCell (g_in L I g) _ _).setCell (vb_in L I g _) _ _).setCell (g_in L I g) _ _).trans (Kx.of_kp ((Kp.refl _).ext _)))
              · show upd (upd H i (H l)) l (H i) l = _
                rw [upd_same]; exact H1.out.obj
            case measure => simp [intOf]; omega
          · have k2 : Hid (key (H r) < key (H l)) := Lib.hid (by rw [b2] at crl; exact of_decide_eq_true crl.symm)
            have hkey : Hid (key (H r) < key (H i)) := Lib.hid (by have h1 := k1.out; have h2 := k2.out; omega)
            clear crl
            have hid : i ≠ r := by have := Hel.out; omega
            have hdm : r < S.m := by have := Hm.out; omega
            have c1 := hr.at'.cX _ hHr
            have v1 := hr.at'.setX hHr i
            have c1' := v1.cX _ hHr
            have c2 := v1.row i him
            have v2 := v1.setH (j := i) (by have := Hm.out; omega) hHr
            have c3 := v2.cX _ hHi
            have v3 := v2.setX hHi r
            have c4 := v3.row r (by show r < S.m; omega)
            have v4 := v3.setH (j := r) (by have := Hm.out; omega) hHi
            simp only at c1 c1' c2 c3 c4
            rw [upd_same] at c1'
            rw [upd_other _ _ (by omega : r ≠ i)] at c4
            have z1 := hr.at'.fz (H r) (vo (H r) + 4)
            have z2 := hr.at'.zg i
            have z3 := hr.at'.fz (H i) (vo (H i) + 4)
            have z4 := hr.at'.zg r
            have f0 : (r = i) = False := eq_false (by omega)
            have f1 : ((r : Int) = (i : Int)) = False := eq_false (by omega)
            have f2 : ((r : Int) == (i : Int)) = false := beq_eq_false_iff_ne.2 (by omega)
            have f3 : ((r : Nat) == i) = false := beq_eq_false_iff_ne.2 (by omega)
            have V4 := Lib.hid v4
            have H1 := Lib.hid hr
            clear v1 v2 v3 v4 hr
            go_wp2_with fail
            first | (with_reducible refine wp_region_ext_lit2 ?_ ?_ ?_) | refine wp_region_ext_lit ?_ ?_ ?_
            kernel_rfl
            kernel_rfl
            repeat (go_big_quiet_step (fail))
            refine wpQuiet_nil ?_
            rintro _ ⟨u, rfl⟩
            go_wp2_with fail
            first | (with_reducible refine wp_region_ext_lit2 ?_ ?_ ?_) | refine wp_region_ext_lit ?_ ?_ ?_
            kernel_rfl
            kernel_rfl
            repeat (go_big_quiet_step (fail))
            refine wpQuiet_nil ?_
            rintro _ ⟨u, rfl⟩
            go_wp2_with fail
            go_roundw
            case rel =>
              refine ⟨r, _, _, rfl, hdm, V4.out.kp ((Kp.refl _).ext _), hx_sw H1.out.hx him hdm hid, H1.out.same.trans (same_sw H him hdm hid), ?_, ?_, ?_⟩
              · have hs := down_step (v := fun j => key (H j)) (c := r) (by omega) hdm (par_r Her.out) H1.out.inv (hkey.out) (fun j h0 hj hpj => ?_)
                · rw [← key_sw key H hid] at hs
                  exact hs
                · rcases child_or Hel.out Her.out h0 hpj with e | e <;> subst e
                  · show key (H r) ≤ key (H j); have h2 := k2.out; omega
                  · exact Int.le_refl _
              · exact H1.out.kx.trans ((((((Kx.refl [L, I, g] wr).setCell (vb_in L I g _) _ _).setCell (g_in L I g) _ _).setCell (vb_in L I g _) _ _).setCell (g_in L I g) _ _).trans (Kx.of_kp ((Kp.refl _).ext _)))
              · show upd (upd H i (H r)) r (H i) r = _
                rw [upd_same]; exact H1.out.obj
            case measure => simp [intOf]; omega
      · have e6 : ((r : Int) < (m : Int)) = False := eq_false (by omega)
        have hrS : Hid (¬ r < S.m) := Lib.hid (by have := Hm.out; omega)
        cases b1 : ltF (S.A (H l)) (S.A (H i))
        · have k1 : Hid (key (H i) ≤ key (H l)) := Lib.hid (by rw [b1] at cl; have := of_decide_eq_false cl.symm; omega)
          clear cl
          have H1 := Lib.hid hr
          clear hr
          go_wp2_with fail
          first | (with_reducible refine wp_region_ext_lit2 ?_ ?_ ?_) | refine wp_region_ext_lit ?_ ?_ ?_
          kernel_rfl
          kernel_rfl
          repeat (go_big_quiet_step (fail))
          refine wpQuiet_nil ?_
          rintro _ ⟨u, rfl⟩
          go_wp2_with fail
          first | (with_reducible refine wp_region_ext_lit2 ?_ ?_ ?_) | refine wp_region_ext_lit ?_ ?_ ?_
          kernel_rfl
          kernel_rfl
          repeat (go_big_quiet_step (fail))
          refine wpQuiet_nil ?_
          rintro _ ⟨u, rfl⟩
          go_wp2_with fail
          go_end0
          refine ⟨rfl, H, X, H1.out.at'.kp ((Kp.refl _).ext _), H1.out.hx, H1.out.same, down_end H1.out.inv (fun j h0 hj hpj => ?_), H1.out.kx.trans (Kx.of_kp ((Kp.refl _).ext _))⟩
          rcases child_or Hel.out Her.out h0 hpj with e | e <;> subst e
          · exact k1.out
          · exact absurd hj hrS.out
        · have hkey : Hid (key (H l) < key (H i)) := Lib.hid (by rw [b1] at cl; exact of_decide_eq_true cl.symm)
          clear cl
          have hid : i ≠ l := by have := Hel.out; omega
          have hdm : l < S.m := by have := Hm.out; omega
          have c1 := hr.at'.cX _ hHl
          have v1 := hr.at'.setX hHl i
          have c1' := v1.cX _ hHl
          have c2 := v1.row i him
          have v2 := v1.setH (j := i) (by have := Hm.out; omega) hHl
          have c3 := v2.cX _ hHi
          have v3 := v2.setX hHi l
          have c4 := v3.row l (by show l < S.m; omega)
          have v4 := v3.setH (j := l) (by have := Hm.out; omega) hHi
          simp only at c1 c1' c2 c3 c4
          rw [upd_same] at c1'
          rw [upd_other _ _ (by omega : l ≠ i)] at c4
          have z1 := hr.at'.fz (H l) (vo (H l) + 4)
          have z2 := hr.at'.zg i
          have z3 := hr.at'.fz (H i) (vo (H i) + 4)
          have z4 := hr.at'.zg l
          have f0 : (l = i) = False := eq_false (by omega)
          have f1 : ((l : Int) = (i : Int)) = False := eq_false (by omega)
          have f2 : ((l : Int) == (i : Int)) = false := beq_eq_false_iff_ne.2 (by omega)
          have f3 : ((l : Nat) == i) = false := beq_eq_false_iff_ne.2 (by omega)
          have V4 := Lib.hid v4
          have H1 := Lib.hid hr
          clear v1 v2 v3 v4 hr
          go_wp2_with fail
          first | (with_reducible refine wp_region_ext_lit2 ?_ ?_ ?_) | refine wp_region_ext_lit ?_ ?_ ?_
          kernel_rfl
          kernel_rfl
          repeat (go_big_quiet_step (fail))
          refine wpQuiet_nil ?_
          rintro _ ⟨u, rfl⟩
          go_wp2_with fail
          first | (with_reducible refine wp_region_ext_lit2 ?_ ?_ ?_) | refine wp_region_ext_lit ?_ ?_ ?_
          kernel_rfl
          kernel_rfl
          repeat (go_big_quiet_step (fail))
          refine wpQuiet_nil ?_
          rintro _ ⟨u, rfl⟩
          go_wp2_with fail
          go_roundw
          case rel =>
            refine ⟨l, _, _, rfl, hdm, V4.out.kp ((Kp.refl _).ext _), hx_sw H1.out.hx him hdm hid, H1.out.same.trans (same_sw H him hdm hid), ?_, ?_, ?_⟩
            · have hs := down_step (v := fun j => key (H j)) (c := l) (by omega) hdm (par_l Hel.out Her.out) H1.out.inv (hkey.out) (fun j h0 hj hpj => ?_)
              · rw [← key_sw key H hid] at hs
                exact hs
              · rcases child_or Hel.out Her.out h0 hpj with e | e <;> subst e
                · exact Int.le_refl _
                · exact absurd hj hrS.out
            · exact H1.out.kx.trans ((((((Kx.refl [L, I, g] wr).setCell (vb_in L I g _) _ _).setCell (g_in L I g) _ _).setCell (vb_in L I g _) _ _).setCell (g_in L I g) _ _).trans (Kx.of_kp ((Kp.refl _).ext _)))
            · show upd (upd H i (H l)) l (H i) l = _
              rw [upd_same]; exact H1.out.obj
          case measure => simp [intOf]; omega
    · have e5 : ((l : Int) < (m : Int)) = False := eq_false (by omega)
      have e6 : ((r : Int) < (m : Int)) = False := eq_false (by have := Hel.out; omega)
      have hlS : Hid (¬ l < S.m ∧ ¬ r < S.m) := Lib.hid (by have := Hm.out; have := Hel.out; omega)
      have H1 := Lib.hid hr
      clear hr
      go_wp2_with fail
      first | (with_reducible refine wp_region_ext_lit2 ?_ ?_ ?_) | refine wp_region_ext_lit ?_ ?_ ?_
      kernel_rfl
      kernel_rfl
      repeat (go_big_quiet_step (fail))
      refine wpQuiet_nil ?_
      rintro _ ⟨u, rfl⟩
      go_wp2_with fail
      first | (with_reducible refine wp_region_ext_lit2 ?_ ?_ ?_) | refine wp_region_ext_lit ?_ ?_ ?_
      kernel_rfl
      kernel_rfl
      repeat (go_big_quiet_step (fail))
      refine wpQuiet_nil ?_
      rintro _ ⟨u, rfl⟩
      go_wp2_with fail
      go_end0
      refine ⟨rfl, H, X, H1.out.at'.kp ((Kp.refl _).ext _), H1.out.hx, H1.out.same, down_end H1.out.inv (fun j h0 hj hpj => ?_), H1.out.kx.trans (Kx.of_kp ((Kp.refl _).ext _))⟩
      rcases child_or Hel.out Her.out h0 hpj with e | e <;> subst e
      · exact absurd hj hlS.out.1
      · exact absurd hj hlS.out.2
end Go.Proofs.Ytglopopdmkgooaa

namespace Go.Proofs.Ytglopopdmkgooaa
open PubFl Go.RowKit PubVis

attribute [local go_sem] cell_ext frozen_ext ext_setCell cell_store size_ext_eq lt_p0 lt_p1 lt_p2 lt_p3 lt_p4 lt_p5 lt_p6 lt_p7 lt_p8 lt_p9 lt_p10 lt_p11 lt_p12 lt_p13 lt_p14 lt_p15 lt_p16 lt_p17 lt_p18 lt_p19 lt_p20 lt_p21 lt_p22 lt_p23 lt_p24 lt_p25 lt_p26 lt_p27 lt_p28 lt_p29 lt_p30 lt_p31 lt_p32 lt_q1 lt_q2 lt_q3 lt_q4 lt_q5 lt_q6 lt_q7 lt_q8 lt_q9 lt_q10 lt_q11 lt_q12 lt_q13 lt_q14 lt_q15 lt_q16 lt_q17 lt_q18 lt_q19 lt_q20 lt_q21 lt_q22 lt_q23 lt_q24 lt_q25 lt_q26 lt_q27 lt_q28 lt_q29 lt_q30 lt_q31 lt_q32 run_fop run_store_float
attribute [local go_sem high] cmp_eql cmp_neq cmp_lss cmp_leq cmp_gtr cmp_geq

/-- .. and the variable that holds the row -/
structure VisH (w : World) (n L I g hv : Nat) (S : VSt) : Prop where
  at' : VisAt w n L I g S
  cH : w.cell? ⟨hv, 0, none⟩ = some (.slice (some ⟨g, 0, none⟩) S.m n)
  zh : ∀ j, w.frozen? ⟨hv, j, none⟩ = false
  lh : hv < w.heap.size
  d1 : hv ≠ L
  d2 : hv ≠ I
  d3 : hv ≠ g
theorem VisAt.hset {w : World} {n L I g : Nat} {S : VSt} (h : VisAt w n L I g S) {b : Nat} (d1 : b ≠ L) (d2 : b ≠ I) (d3 : b ≠ g) (o : Nat) (v : Value) : VisAt (w.setCell ⟨b, o, none⟩ v) n L I g S := by
  have o1 : ∀ i k, (w.setCell ⟨b, o, none⟩ v).cell? ⟨vb L I i, k, none⟩ = w.cell? ⟨vb L I i, k, none⟩ := fun i k =>
    World.cell?_setCell_other _ _ _ _ (fun e => by injection e with e; unfold vb at e; split at e <;> contradiction)
  have o2 : ∀ k, (w.setCell ⟨b, o, none⟩ v).cell? ⟨g, k, none⟩ = w.cell? ⟨g, k, none⟩ := fun k => World.cell?_setCell_other _ _ _ _ (fun e => by injection e with e; contradiction)
  exact ⟨fun i hi => (o1 i _).trans (h.cA i hi), fun i hi => (o1 i _).trans (h.cP i hi), fun i hi => (o1 i _).trans (h.cN i hi), fun i hi => (o1 i _).trans (h.cV i hi), fun i hi => (o1 i _).trans (h.cX i hi), fun j hj => (o2 j).trans (h.row j hj),
    fun j hj => by obtain ⟨v', hv⟩ := h.room j hj; exact ⟨v', (o2 j).trans hv⟩, fun j => by simpa using h.zL j, fun j => by simpa using h.zI j, fun j => by simpa using h.zg j, by simpa using h.lL, by simpa using h.lI, by simpa using h.lg, h.dLI, h.dLg, h.dIg, h.mn, h.Hn, h.obj.set _ _ _⟩
theorem VisH.kp {w w' : World} {n L I g hv : Nat} {S : VSt} (h : VisH w n L I g hv S) (k : Kp w w') : VisH w' n L I g hv S :=
  ⟨h.at'.kp k, (Below.cell (p := ⟨hv, 0, none⟩) k h.lh).trans h.cH, fun j => (Below.frozen (p := ⟨hv, j, none⟩) k h.lh).trans (h.zh j), Nat.lt_of_lt_of_le h.lh k.size, h.d1, h.d2, h.d3⟩
/-- what a move leaves of the variable -/
theorem VisH.moved {w w' : World} {n L I g hv : Nat} {S : VSt} {key : Nat → Int} {H X : Nat → Nat} (h : VisH w n L I g hv S) (k : MovedS n L I g S key w w' H X) : VisH w' n L I g hv { S with H := H, X := X } := by
  have hn : hv ∉ [L, I, g] := by simp [h.d1, h.d2, h.d3]
  exact ⟨k.at', (k.kx.cell h.lh hn).trans h.cH, fun j => (k.kx.frozen h.lh hn).trans (h.zh j), Nat.lt_of_lt_of_le h.lh k.kx.size, h.d1, h.d2, h.d3⟩
/-- the heap's order, and the keys of the areas -/
structure HInv (n : Nat) (S : VSt) (key : Nat → Int) : Prop where
  hx : Hx S.m S.H S.X
  ord : Ord (fun j => key (S.H j)) S.m
  av : ∀ q, q < n → AV (S.A q) (key q)

/-- what Push leaves -/
structure PushedS (n L I g hv : Nat) (S : VSt) (a : Nat) (key : Nat → Int) (w w' : World) (H X : Nat → Nat) : Prop where
  at' : VisH w' n L I g hv { S with m := S.m + 1, H := H, X := X }
  inv : HInv n { S with m := S.m + 1, H := H, X := X } key
  mem : ∀ x, (∃ j, j < S.m + 1 ∧ H j = x) ↔ (x = a ∨ ∃ j, j < S.m ∧ S.H j = x)
  kx : Kx [L, I, g, hv] w w'
def Pushed (n L I g hv : Nat) (S : VSt) (a : Nat) (key : Nat → Int) (w : World) (e : Ending) (w' : World) : Prop := e = .returned (.tuple #[]) ∧ ∃ H X, PushedS n L I g hv S a key w w' H X
theorem infoVisP : (Try.prog.info? 96).map (fun i => i.size) = some 1 := by kernel_rfl
theorem hx_push {m : Nat} {H X : Nat → Nat} (hx : Hx m H X) {a : Nat} (hna : ∀ j, j < m → H j ≠ a) : Hx (m + 1) (upd H m a) (upd X a m) := fun j hj => by
  by_cases c : j = m
  · subst c; rw [upd_same, upd_same]
  · rw [upd_other _ _ c, upd_other _ _ (hna j (by omega))]; exact hx j (by omega)
theorem key_upd (key : Nat → Int) (H : Nat → Nat) (m a : Nat) : (fun j => key (upd H m a j)) = upd (fun j => key (H j)) m (key a) := by
  funext k
  by_cases c : k = m
  · subst c; rw [upd_same, upd_same]
  · rw [upd_other _ _ c, upd_other _ _ c]

theorem vb_in4 (L I g hv i : Nat) : vb L I i ∈ [L, I, g, hv] := by unfold vb; split <;> simp

set_option maxRecDepth 20000 in
set_option maxHeartbeats 1000000 in
theorem push_c (n L I g hv : Nat) (S : VSt) (a : Nat) (key : Nat → Int) (hn : n ≤ 1000) (hm : S.m < n) (ha : a < n) (hna : ∀ j, j < S.m → S.H j ≠ a) (w : World) (h : VisH w n L I g hv S) (hi : HInv n S key) :
    Calls Try.prog 65 #[.pointer (some ⟨hv, 0, none⟩), .pointer (some ⟨vb L I a, vo a, none⟩)] w (Pushed n L I g hv S a key w) := by
  obtain ⟨i0, hi0, hsz⟩ : ∃ i, Try.prog.info? 96 = some i ∧ i.size = 1 := by
    have h := infoVisP
    cases hh : Try.prog.info? 96 with
    | none => rw [hh] at h; cases h
    | some i => rw [hh] at h; exact ⟨i, rfl, by simpa using h⟩
  have cH := h.cH
  have zh := h.zh 0
  have lh := h.lh
  have c1 := h.at'.cX a ha
  have z1 := h.at'.fz a (vo a + 4)
  have l1 := h.at'.lt a
  have v1 := h.at'.setX ha S.m
  have c2 : (w.setCell ⟨vb L I a, vo a + 4, none⟩ (.int .i64 (S.m : Nat))).cell? ⟨hv, 0, none⟩ = some (.slice (some ⟨g, 0, none⟩) S.m n) := by
    rw [World.cell?_setCell_other _ _ _ _ (fun e => by injection e with e; unfold vb at e; split at e; exact h.d1 e.symm; exact h.d2 e.symm)]; exact cH
  have v2 := v1.kp ((Kp.refl _).alloc (.cells #[.pointer (some ⟨vb L I a, vo a, none⟩)] 96))
  have ob := v2.obj
  have v3 := v2.more hm ha
  have c3 : ((((w.setCell ⟨vb L I a, vo a + 4, none⟩ (.int .i64 (S.m : Nat))).alloc (.cells #[.pointer (some ⟨vb L I a, vo a, none⟩)] 96)).setCell ⟨g, S.m, none⟩ (.pointer (some ⟨vb L I a, vo a, none⟩))).cell? ⟨hv, 0, none⟩) = some (.slice (some ⟨g, 0, none⟩) S.m n) := by
    rw [World.cell?_setCell_other _ _ _ _ (fun e => by injection e with e; exact h.d3 e.symm), World.cell?_alloc_lt _ _ _ (by simpa using lh)]; exact c2
  have v4 := v3.hset h.d1 h.d2 h.d3 0 (.slice (some ⟨g, 0, none⟩) (S.m + 1) n)
  have hu := ord_push hi.ord (key a)
  rw [← key_upd] at hu
  obtain ⟨m, hmm⟩ : ∃ m, S.m = m := ⟨_, rfl⟩
  have HU := Lib.hid (fun W' (hw : VisAt W' n L I g { S with m := m + 1, H := upd S.H m a, X := upd S.X a m }) => (show Calls Try.prog 70 #[.slice (some ⟨g, 0, none⟩) (m + 1) n, .int .i64 (m : Nat)] W' (Moved n L I g { S with m := m + 1, H := upd S.H m a, X := upd S.X a m } key W') from
    up_c n L I g n { S with m := m + 1, H := upd S.H m a, X := upd S.X a m } key m hn (Nat.lt_succ_self m) (by show m + 1 ≤ n; omega) W' hw (by have := hx_push hi.hx hna; rw [hmm] at this; exact this) hi.av (by have := hu; rw [hmm] at this; exact this)))
  simp only at v4 c1
  rw [hmm] at hm c2 c3 v4 cH ob
  have hxx : n ≤ 1000 := hn
  have Hh := Lib.hid h
  have Hi := Lib.hid hi
  have V4 := Lib.hid v4
  have Hna := Lib.hid hna
  have Hmm := Lib.hid hmm
  have Hob := Lib.hid ob
  have Hsz := Lib.hid hsz
  have Hi0 := Lib.hid hi0
  clear h hi hna hu v1 v2 v3 v4 ob hmm hsz hi0
  go_enter Try.func65, Try.ntmps65
  go_wp2_with (at_builtin; refine wpList_append_one _ rfl (.tmp 14) (.tmp 16) 95 rfl 96 i0 Try.underlying95 Hi0.out Hsz.out g m n rfl Hob.out _ _ (.pointer (some ⟨vb L I a, vo a, none⟩)) rfl ?c1 rfl (by omega) ?_)
  case c1 =>
    have h := World.cell?_alloc_new (w.setCell ⟨vb L I a, vo a + 4, none⟩ (.int .i64 (m : Nat))) #[.pointer (some ⟨vb L I a, vo a, none⟩)] 96 0
    rw [World.size_setCell] at h
    exact h
  have cW := World.cell?_setCell_same _ _ (.slice (some ⟨g, 0, none⟩) (m + 1) n) c3
  have xW := V4.out.cX a ha
  simp only [upd_same] at xW
  have kW : Kx [L, I, g, hv] w ((((w.setCell ⟨vb L I a, vo a + 4, none⟩ (.int .i64 (m : Nat))).alloc (.cells #[.pointer (some ⟨vb L I a, vo a, none⟩)] 96)).setCell ⟨g, m, none⟩ (.pointer (some ⟨vb L I a, vo a, none⟩))).setCell ⟨hv, 0, none⟩ (.slice (some ⟨g, 0, none⟩) (m + 1) n)) :=
    (((((Kx.refl [L, I, g, hv] w).setCell (vb_in4 L I g hv a) _ _).trans (Kx.of_kp ((Kp.refl _).alloc _))).setCell (by simp) _ _).setCell (by simp) _ _)
  have lW := V4.out.lt a
  have zW := Hh.out.zh
  generalize hWW : (((w.setCell ⟨vb L I a, vo a + 4, none⟩ (.int .i64 (m : Nat))).alloc (.cells #[.pointer (some ⟨vb L I a, vo a, none⟩)] 96)).setCell ⟨g, m, none⟩ (.pointer (some ⟨vb L I a, vo a, none⟩))).setCell ⟨hv, 0, none⟩ (.slice (some ⟨g, 0, none⟩) (m + 1) n) = W at *
  have zW2 : ∀ j, W.frozen? ⟨hv, j, none⟩ = false := fun j => by
    rw [← hWW, World.frozen?_setCell, World.frozen?_setCell, World.frozen?_alloc_old _ _ _ (by simpa using Nat.ne_of_lt lh), World.frozen?_setCell]; exact zW j
  have lW2 : hv < W.heap.size := Nat.lt_of_lt_of_le lh kW.size
  have VH := Lib.hid (VisH.mk (S := { S with m := m + 1, H := upd S.H m a, X := upd S.X a m }) V4.out cW zW2 lW2 Hh.out.d1 Hh.out.d2 Hh.out.d3)
  have KW := Lib.hid kW
  clear c1 c2 c3 cH zh z1 l1 kW zW zW2 hWW Hob lh
  first | (with_reducible refine wp_region_ext_tail2 7 ?_ ?_ ?_) | refine wp_region_ext_tail 7 ?_ ?_ ?_
  kernel_rfl
  kernel_rfl
  simp only [List.take_succ_cons, List.take_zero, List.drop_succ_cons, List.drop_zero]
  repeat (go_big_quiet_step (fail))
  refine wpQuiet_nil ?_
  rintro _ ⟨u, rfl⟩
  go_wp2_with (go_at_call 70; (with_reducible refine (HU.out _ (V4.out.kp (by repeat (first | (with_reducible exact Kp.refl _) | (with_reducible assumption) | (with_reducible apply Kp.ext) | (with_reducible apply Kp.alloc) | (with_reducible apply Kp.drew) | (with_reducible apply Kp.drewN) | (with_reducible refine Kp.setCell ?_ (by first | (dsimp only; omega) | (simp; omega) | (simp; done) | (simp [size_ext_eq]; omega)) _))))).mono ?_); rintro e w' ⟨rfl, H, X, hmv⟩)
  have HM := Lib.hid hmv
  clear hmv
  go_end0
  refine ⟨rfl, H, X, ?_⟩
  have hm' := Hmm.out
  subst hm'
  have hmv := HM.out
  refine ⟨(VH.out.kp ((Kp.refl _).ext _)).moved hmv, ⟨hmv.hx, hmv.ord, Hi.out.av⟩, fun x => (hmv.same x).trans ?_, KW.out.trans ((Kx.of_kp ((Kp.refl _).ext _)).trans (hmv.kx.mono (by simp)))⟩
  constructor
  · rintro ⟨j, hj, rfl⟩
    by_cases c : j = S.m
    · subst c; exact .inl (upd_same _ _ _)
    · have hj' : j < S.m + 1 := hj
      exact .inr ⟨j, by omega, (upd_other _ _ c).symm⟩
  · rintro (rfl | ⟨j, hj, rfl⟩)
    · exact ⟨S.m, Nat.lt_succ_self _, upd_same _ _ _⟩
    · exact ⟨j, Nat.lt_succ_of_lt hj, upd_other _ _ (by omega)⟩

/-- what Pop leaves -/
structure PoppedS (n L I g hv : Nat) (S : VSt) (key : Nat → Int) (w w' : World) (H X : Nat → Nat) : Prop where
  at' : VisH w' n L I g hv { S with m := S.m - 1, H := H, X := X }
  inv : HInv n { S with m := S.m - 1, H := H, X := X } key
  mem : ∀ x, (∃ j, j < S.m - 1 ∧ H j = x) ↔ (x ≠ S.H 0 ∧ ∃ j, j < S.m ∧ S.H j = x)
  kx : Kx [L, I, g, hv] w w'
def Popped (n L I g hv : Nat) (S : VSt) (key : Nat → Int) (w : World) (e : Ending) (w' : World) : Prop := e = .returned (.pointer (some ⟨vb L I (S.H 0), vo (S.H 0), none⟩)) ∧ ∃ H X, PoppedS n L I g hv S key w w' H X
theorem hx_inj {m : Nat} {H X : Nat → Nat} (hx : Hx m H X) {i j : Nat} (hi : i < m) (hj : j < m) (h : H i = H j) : i = j := by
  have h1 := hx i hi
  have h2 := hx j hj
  rw [h] at h1; omega
theorem hx_pop {k : Nat} {H X : Nat → Nat} (hx : Hx (k + 1) H X) : Hx k (upd H 0 (H k)) (upd X (H k) 0) := fun j hj => by
  by_cases c : j = 0
  · subst c; rw [upd_same, upd_same]
  · rw [upd_other _ _ c, upd_other _ _ (fun e => by have := hx_inj hx (by omega) (by omega) e; omega)]; exact hx j (by omega)

set_option maxRecDepth 20000 in
set_option maxHeartbeats 1000000 in
theorem pop_c (n L I g hv : Nat) (S : VSt) (key : Nat → Int) (hn : n ≤ 1000) (hm : 0 < S.m) (w : World) (h : VisH w n L I g hv S) (hi : HInv n S key) :
    Calls Try.prog 67 #[.pointer (some ⟨hv, 0, none⟩)] w (Popped n L I g hv S key w) := by
  obtain ⟨k, hk⟩ : ∃ k, S.m = k + 1 := ⟨S.m - 1, by omega⟩
  have hmn := h.at'.mn
  have cH := h.cH
  have zh := h.zh 0
  have lh := h.lh
  have r0 := h.at'.row 0 (by omega)
  have rk := h.at'.row k (by omega)
  have hHk := h.at'.Hn k (by omega)
  have lg := h.at'.lg
  rw [hk] at cH hmn
  have hw1 : ((k + 1 : Nat) : Int) - 1 = (k : Int) := by omega
  have hw2 : ((k : Int) + 1) - 1 = (k : Int) := by omega
  have k0 : (0 : Int) < (k : Int) + 1 := by omega
  have k1 : (k : Int) < (k : Int) + 1 := by omega
  have k2 : (k : Int) ≤ (k : Int) + 1 := by omega
  have k3 : (k : Int) + 1 ≤ (n : Int) := by omega
  have hnk : n ≤ 1000 := hn
  -- the variable holds one less
  have v1 := (h.at'.less (k := k) (by omega)).hset h.d1 h.d2 h.d3 0 (.slice (some ⟨g, 0, none⟩) k n)
  have c1 : (w.setCell ⟨hv, 0, none⟩ (.slice (some ⟨g, 0, none⟩) k n)).cell? ⟨hv, 0, none⟩ = some (.slice (some ⟨g, 0, none⟩) k n) := World.cell?_setCell_same _ _ _ cH
  by_cases hk0 : k = 0
  · subst hk0
    have Hh := Lib.hid h
    have Hi := Lib.hid hi
    have V1 := Lib.hid v1
    have Hk := Lib.hid hk
    clear h hi v1 hk
    go_enter Try.func67, Try.ntmps67
    go_wp2_with fail
    first | (with_reducible refine wp_region_ext_lit2 ?_ ?_ ?_) | refine wp_region_ext_lit ?_ ?_ ?_
    kernel_rfl
    kernel_rfl
    repeat (go_big_quiet_step (fail))
    refine wpQuiet_nil ?_
    rintro _ ⟨u, rfl⟩
    go_wp2_with fail
    first | (with_reducible refine wp_region_ext_tail2 11 ?_ ?_ ?_) | refine wp_region_ext_tail 11 ?_ ?_ ?_
    kernel_rfl
    kernel_rfl
    simp only [List.take_succ_cons, List.take_zero, List.drop_succ_cons, List.drop_zero]
    repeat (go_big_quiet_step (fail))
    refine wpQuiet_nil ?_
    rintro _ ⟨u, rfl⟩
    go_wp2_with fail
    go_ret
    have k := (Kp.refl (w.setCell ⟨hv, 0, none⟩ (.slice (some ⟨g, 0, none⟩) 0 n))).ext u
    refine ⟨rfl, S.H, S.X, ?_, ?_, fun x => ?_, ((Kx.refl [L, I, g, hv] w).setCell (by simp) _ _).trans (Kx.of_kp k)⟩
    · have hk := Hk.out
      have e : ({ S with m := S.m - 1, H := S.H, X := S.X } : VSt) = { S with m := 0 } := by rw [hk]
      rw [e]
      exact (VisH.mk V1.out c1 (fun j => by simpa using Hh.out.zh j) (by simpa using lh) Hh.out.d1 Hh.out.d2 Hh.out.d3).kp k
    · have hk := Hk.out
      have e : ({ S with m := S.m - 1, H := S.H, X := S.X } : VSt) = { S with m := 0 } := by rw [hk]
      rw [e]
      exact ⟨(fun j hj => by cases hj), (fun j _ hj => by cases hj), Hi.out.av⟩
    · have hk := Hk.out
      rw [hk]
      constructor
      · rintro ⟨j, hj, _⟩; omega
      · rintro ⟨hx, j, hj, rfl⟩
        exact absurd (by rw [show j = 0 by omega]) hx
  · have kk0 : (0 : Int) < (k : Int) := by omega
    have kk1 : ((k : Int) = 0) = False := eq_false (by omega)
    have c2 := v1.cX (S.H k) hHk
    have v2 : VisAt ((w.setCell ⟨hv, 0, none⟩ (.slice (some ⟨g, 0, none⟩) k n)).setCell ⟨vb L I (S.H k), vo (S.H k) + 4, none⟩ (.int .i64 0)) n L I g { S with m := k, X := upd S.X (S.H k) 0 } := v1.setX hHk 0
    have c3 : ((w.setCell ⟨hv, 0, none⟩ (.slice (some ⟨g, 0, none⟩) k n)).setCell ⟨vb L I (S.H k), vo (S.H k) + 4, none⟩ (.int .i64 0)).cell? ⟨hv, 0, none⟩ = some (.slice (some ⟨g, 0, none⟩) k n) := by
      rw [World.cell?_setCell_other _ _ _ _ (fun e => by injection e with e; unfold vb at e; split at e; exact h.d1 e.symm; exact h.d2 e.symm)]; exact c1
    have c4 := v1.row 0 (by show 0 < k; omega)
    have v3 := v2.setH (j := 0) (by omega) hHk
    have c5 : (((w.setCell ⟨hv, 0, none⟩ (.slice (some ⟨g, 0, none⟩) k n)).setCell ⟨vb L I (S.H k), vo (S.H k) + 4, none⟩ (.int .i64 0)).setCell ⟨g, 0, none⟩ (.pointer (some ⟨vb L I (S.H k), vo (S.H k), none⟩))).cell? ⟨hv, 0, none⟩ = some (.slice (some ⟨g, 0, none⟩) k n) := by
      rw [World.cell?_setCell_other _ _ _ _ (fun e => by injection e with e; exact h.d3 e.symm)]; exact c3
    have z2 := h.at'.fz (S.H k) (vo (S.H k) + 4)
    have z3 := h.at'.zg 0
    have l2 := h.at'.lt (S.H k)
    simp only at c2 c4 v3
    have hx := hi.hx
    rw [hk] at hx
    have hd := ord_pop (show Ord (fun j => key (S.H j)) (k + 1) by rw [← hk]; exact hi.ord)
    rw [← key_upd] at hd
    have HD := Lib.hid (fun W' (hw : VisAt W' n L I g { S with m := k, H := upd S.H 0 (S.H k), X := upd S.X (S.H k) 0 }) => (show Calls Try.prog 71 #[.slice (some ⟨g, 0, none⟩) k n, .int .i64 0] W' (Moved n L I g { S with m := k, H := upd S.H 0 (S.H k), X := upd S.X (S.H k) 0 } key W') from
      down_c n L I g n { S with m := k, H := upd S.H 0 (S.H k), X := upd S.X (S.H k) 0 } key 0 hn (show 0 < k by omega) (show k ≤ n by omega) W' hw (hx_pop hx) hi.av hd))
    have Hx' := Lib.hid hx
    have Hh := Lib.hid h
    have Hi := Lib.hid hi
    have V3 := Lib.hid v3
    have Hk := Lib.hid hk
    clear h hi v1 v2 v3 hk hx hd
    go_enter Try.func67, Try.ntmps67
    go_wp2_with fail
    first | (with_reducible refine wp_region_ext_lit2 ?_ ?_ ?_) | refine wp_region_ext_lit ?_ ?_ ?_
    kernel_rfl
    kernel_rfl
    repeat (go_big_quiet_step (fail))
    refine wpQuiet_nil ?_
    rintro _ ⟨u, rfl⟩
    go_wp2_with fail
    first | (with_reducible refine wp_region_ext_tail2 11 ?_ ?_ ?_) | refine wp_region_ext_tail 11 ?_ ?_ ?_
    kernel_rfl
    kernel_rfl
    simp only [List.take_succ_cons, List.take_zero, List.drop_succ_cons, List.drop_zero]
    repeat (go_big_quiet_step (fail))
    refine wpQuiet_nil ?_
    rintro _ ⟨u, rfl⟩
    go_wp2_with (go_at_call 71; (with_reducible refine (HD.out _ (V3.out.kp (by repeat (first | (with_reducible exact Kp.refl _) | (with_reducible assumption) | (with_reducible apply Kp.ext) | (with_reducible apply Kp.alloc) | (with_reducible apply Kp.drew) | (with_reducible apply Kp.drewN) | (with_reducible refine Kp.setCell ?_ (by first | (dsimp only; omega) | (simp; omega) | (simp; done) | (simp [size_ext_eq]; omega)) _))))).mono ?_); rintro e w' ⟨rfl, H, X, hmv⟩)
    have HM := Lib.hid hmv
    clear hmv
    go_ret
    have hmv := HM.out
    have kx0 := (((Kx.refl [L, I, g, hv] w).setCell (g := hv) (by simp) 0 (.slice (some ⟨g, 0, none⟩) k n)).setCell (vb_in4 L I g hv (S.H k)) (vo (S.H k) + 4) (.int .i64 0)).setCell (g := g) (by simp) 0 (.pointer (some ⟨vb L I (S.H k), vo (S.H k), none⟩))
    have vh := VisH.mk V3.out c5 (fun j => by simpa using Hh.out.zh j) (by simpa using lh) Hh.out.d1 Hh.out.d2 Hh.out.d3
    have e : ({ S with m := S.m - 1, H := H, X := X } : VSt) = { S with m := k, H := H, X := X } := by rw [Hk.out]; rfl
    have vm := (vh.kp ((Kp.refl _).ext u)).moved hmv
    refine ⟨rfl, H, X, by rw [e]; exact vm, by rw [e]; exact ⟨hmv.hx, hmv.ord, Hi.out.av⟩, fun x => ?_, kx0.trans ((Kx.of_kp ((Kp.refl _).ext u)).trans (hmv.kx.mono (by simp)))⟩
    rw [Hk.out]
    refine (hmv.same x).trans ?_
    constructor
    · rintro ⟨j, hj, rfl⟩
      have hj' : j < k := hj
      show upd S.H 0 (S.H k) j ≠ S.H 0 ∧ _
      by_cases c : j = 0
      · subst c
        rw [upd_same]
        exact ⟨fun e => by have := hx_inj Hx'.out (by omega) (by omega) e; omega, k, by omega, rfl⟩
      · rw [upd_other _ _ c]
        exact ⟨fun e => by have := hx_inj Hx'.out (by omega) (by omega) e; omega, j, by omega, (upd_other _ _ c).symm⟩
    · rintro ⟨hx, j, hj, rfl⟩
      have j0 : j ≠ 0 := fun e => hx (by rw [e])
      by_cases c : j = k
      · subst c
        exact ⟨0, show 0 < j by omega, show upd S.H 0 (S.H j) 0 = S.H j from upd_same _ _ _⟩
      · exact ⟨j, show j < k by omega, upd_other _ _ j0⟩

theorem _root_.PubVis.UpInv.congr {v v' : Nat → Int} {m i : Nat} (h : UpInv v m i) (hi : i < m) (e : ∀ q, q < m → v q = v' q) : UpInv v' m i :=
  ⟨fun j h0 hj hne => by rw [← e j hj, ← e _ (Nat.lt_trans (par_lt h0) hj)]; exact h.a j h0 hj hne, fun j h0 hj hpj hi0 => by rw [← e j hj, ← e _ (Nat.lt_trans (par_lt hi0) hi)]; exact h.b j h0 hj hpj hi0⟩
theorem _root_.PubVis.DownInv.congr {v v' : Nat → Int} {m i : Nat} (h : DownInv v m i) (hi : i < m) (e : ∀ q, q < m → v q = v' q) : DownInv v' m i :=
  ⟨fun j h0 hj hne => by rw [← e j hj, ← e _ (Nat.lt_trans (par_lt h0) hj)]; exact h.a j h0 hj hne, fun j h0 hj hpj hi0 => by rw [← e j hj, ← e _ (Nat.lt_trans (par_lt hi0) hi)]; exact h.b j h0 hj hpj hi0⟩
/-- what Update leaves -/
structure UpdS (n L I g hv : Nat) (S : VSt) (a x : Nat) (key : Nat → Int) (w w' : World) (H X : Nat → Nat) : Prop where
  at' : VisH w' n L I g hv { S with A := upd S.A a x, H := H, X := X }
  inv : HInv n { S with A := upd S.A a x, H := H, X := X } key
  same : PubVis.Same S.m S.H H
  kx : Kx [L, I, g, hv] w w'
def Updated (n L I g hv : Nat) (S : VSt) (a x : Nat) (key : Nat → Int) (w : World) (e : Ending) (w' : World) : Prop := e = .returned (.tuple #[]) ∧ ∃ H X, UpdS n L I g hv S a x key w w' H X

set_option maxRecDepth 20000 in
set_option maxHeartbeats 1000000 in
theorem update_c (n L I g hv : Nat) (S : VSt) (a x : Nat) (key : Nat → Int) (kx : Int) (hn : n ≤ 1000) (i : Nat) (hi' : i < S.m) (hHi : S.H i = a) (hx : AV x kx) (w : World) (h : VisH w n L I g hv S) (hi : HInv n S key) :
    Calls Try.prog 69 #[.slice (some ⟨g, 0, none⟩) S.m n, .pointer (some ⟨vb L I a, vo a, none⟩), .float .f64 x] w (Updated n L I g hv S a x (upd key a kx) w) := by
  have ha : a < n := by rw [← hHi]; exact h.at'.Hn i hi'
  have hXa : S.X a = i := by rw [← hHi]; exact hi.hx i hi'
  have cA := h.at'.cA a ha
  have cX := h.at'.cX a ha
  have zA := h.at'.fz a (vo a)
  have la := h.at'.lt a
  have v1 := h.at'.setA ha x
  have c1 := v1.cX a ha
  have hav : ∀ q, q < n → AV (upd S.A a x q) (upd key a kx q) := fun q hq => by
    by_cases c : q = a
    · subst c; rw [upd_same, upd_same]; exact hx
    · rw [upd_other _ _ c, upd_other _ _ c]; exact hi.av q hq
  have hkey : ∀ q, q < S.m → upd (fun j => key (S.H j)) i kx q = upd key a kx (S.H q) := fun q hq => by
    by_cases c : q = i
    · subst c; rw [upd_same, hHi, upd_same]
    · rw [upd_other _ _ c, upd_other _ _ (fun e => c (hx_inj hi.hx hq hi' (by rw [e, hHi])))]
  have cmp := AV.gt (hi.av a ha) hx
  have hvi : key (S.H i) = key a := by rw [hHi]
  simp only at c1
  rw [hXa] at cX c1
  have vh : VisH (w.setCell ⟨vb L I a, vo a, none⟩ (.float .f64 x)) n L I g hv { S with A := upd S.A a x } := ⟨v1, by
    rw [World.cell?_setCell_other _ _ _ _ (fun e => by injection e with e; unfold vb at e; split at e; exact h.d1 e.symm; exact h.d2 e.symm)]; exact h.cH, fun j => by simpa using h.zh j, by simpa using h.lh, h.d1, h.d2, h.d3⟩
  have kx0 := (Kx.refl [L, I, g, hv] w).setCell (vb_in4 L I g hv a) (vo a) (.float .f64 x)
  have hmn := h.at'.mn
  cases hc : gtF (S.A a) x
  · rw [hc] at cmp
    have hle : key a ≤ kx := by have := of_decide_eq_false cmp.symm; omega
    have hd := (ord_more hi.ord (i := i) kx (by show _; rw [hvi]; exact hle)).congr hi' hkey
    obtain ⟨m, hm⟩ : ∃ m, S.m = m := ⟨_, rfl⟩
    have HD := Lib.hid (fun W' (hw : VisAt W' n L I g { S with A := upd S.A a x }) => (show Calls Try.prog 71 #[.slice (some ⟨g, 0, none⟩) m n, .int .i64 (i : Nat)] W' (Moved n L I g { S with A := upd S.A a x } (upd key a kx) W') from by
      rw [← hm]; exact down_c n L I g n { S with A := upd S.A a x } (upd key a kx) i hn hi' hmn W' hw hi.hx hav hd))
    rw [hm] at hmn hi' ⊢
    have V1 := Lib.hid vh
    have K0 := Lib.hid kx0
    have Hav := Lib.hid hav
    clear h hi v1 vh kx0 hx hav hkey cmp hle hd hm hvi hXa hHi
    go_enter Try.func69, Try.ntmps69
    go_wp2_with (go_at_call 71; (with_reducible refine (HD.out _ V1.out.at').mono ?_); rintro e w' ⟨rfl, H, X, hmv⟩)
    have HM := Lib.hid hmv
    clear hmv
    go_end0
    have hmv := HM.out
    exact ⟨rfl, H, X, V1.out.moved hmv, ⟨hmv.hx, hmv.ord, Hav.out⟩, hmv.same, K0.out.trans (hmv.kx.mono (by simp))⟩
  · rw [hc] at cmp
    have hle : kx ≤ key a := by have := of_decide_eq_true cmp.symm; omega
    have hd := (ord_less hi.ord (i := i) hi' kx (by show _; rw [hvi]; exact hle)).congr hi' hkey
    obtain ⟨m, hm⟩ : ∃ m, S.m = m := ⟨_, rfl⟩
    have HD := Lib.hid (fun W' (hw : VisAt W' n L I g { S with A := upd S.A a x }) => (show Calls Try.prog 70 #[.slice (some ⟨g, 0, none⟩) m n, .int .i64 (i : Nat)] W' (Moved n L I g { S with A := upd S.A a x } (upd key a kx) W') from by
      rw [← hm]; exact up_c n L I g n { S with A := upd S.A a x } (upd key a kx) i hn hi' hmn W' hw hi.hx hav hd))
    rw [hm] at hmn hi' ⊢
    have V1 := Lib.hid vh
    have K0 := Lib.hid kx0
    have Hav := Lib.hid hav
    clear h hi v1 vh kx0 hx hav hkey cmp hle hd hm hvi hXa hHi
    go_enter Try.func69, Try.ntmps69
    go_wp2_with (go_at_call 70; (with_reducible refine (HD.out _ V1.out.at').mono ?_); rintro e w' ⟨rfl, H, X, hmv⟩)
    have HM := Lib.hid hmv
    clear hmv
    go_end0
    have hmv := HM.out
    exact ⟨rfl, H, X, V1.out.moved hmv, ⟨hmv.hx, hmv.ord, Hav.out⟩, hmv.same, K0.out.trans (hmv.kx.mono (by simp))⟩
end Go.Proofs.Ytglopopdmkgooaa

namespace Go.Proofs.Ytglopopdmkgooaa
open PubFl Go.RowKit PubVis

attribute [local go_sem] cell_ext frozen_ext ext_setCell cell_store size_ext_eq lt_p0 lt_p1 lt_p2 lt_p3 lt_p4 lt_p5 lt_p6 lt_p7 lt_p8 lt_p9 lt_p10 lt_p11 lt_p12 lt_p13 lt_p14 lt_p15 lt_p16 lt_p17 lt_p18 lt_p19 lt_p20 lt_p21 lt_p22 lt_p23 lt_p24 lt_p25 lt_p26 lt_p27 lt_p28 lt_p29 lt_p30 lt_p31 lt_p32 lt_q1 lt_q2 lt_q3 lt_q4 lt_q5 lt_q6 lt_q7 lt_q8 lt_q9 lt_q10 lt_q11 lt_q12 lt_q13 lt_q14 lt_q15 lt_q16 lt_q17 lt_q18 lt_q19 lt_q20 lt_q21 lt_q22 lt_q23 lt_q24 lt_q25 lt_q26 lt_q27 lt_q28 lt_q29 lt_q30 lt_q31 lt_q32 run_fop run_store_float
attribute [local go_sem high] cmp_eql cmp_neq cmp_lss cmp_leq cmp_gtr cmp_geq

theorem infV_c (w : World) : Calls Try.prog 64 #[.int .i64 1] w (Ret w (.float .f64 infF)) := by
  have h := x_frombits
  go_enter Try.func64, Try.ntmps64
  go_wp2_with fail
  go_ret
  exact Ret.mk rfl (by repeat (first | (with_reducible exact Kp.refl _) | (with_reducible assumption) | (with_reducible apply Kp.ext) | (with_reducible apply Kp.alloc) | (with_reducible apply Kp.drew) | (with_reducible apply Kp.drewN) | (with_reducible refine Kp.setCell ?_ (by first | (dsimp only; omega) | (simp; omega) | (simp; done) | (simp [size_ext_eq]; omega)) _)))

/-- twice the area of a triangle, without a sign -/
def triF (p q r : Nat × Nat) : Nat := absF (crossF p.1 p.2 q.1 q.2 r.1 r.2)
def TriOk (p q r : Nat × Nat) : Prop := CrossOk p.1 p.2 q.1 q.2 r.1 r.2
set_option maxRecDepth 20000 in
set_option maxHeartbeats 1000000 in
theorem tri_c (b cap : Nat) (ps : List (Nat × Nat)) (hn : ps.length ≤ 1000) (i j k : Nat) (hi : i < ps.length) (hj : j < ps.length) (hk : k < ps.length) (w : World) (hb : b < w.heap.size) (hpt : PtsAt w b 0 ps) (ho : TriOk ps[i] ps[j] ps[k]) :
    Calls Try.prog 66 #[.slice (some ⟨b, 0, none⟩) ps.length cap, .int .i64 (i : Nat), .int .i64 (j : Nat), .int .i64 (k : Nat)] w (Ret w (.float .f64 (triF ps[i] ps[j] ps[k]))) := by
  obtain ⟨a0, a1⟩ := hpt i hi
  obtain ⟨b0, b1⟩ := hpt j hj
  obtain ⟨c0, c1⟩ := hpt k hk
  have i1 : (i : Int) < (ps.length : Int) := by omega
  have j1 : (j : Int) < (ps.length : Int) := by omega
  have k1 : (k : Int) < (ps.length : Int) := by omega
  obtain ⟨⟨px, py⟩, h1⟩ : ∃ q, ps[i] = q := ⟨_, rfl⟩
  obtain ⟨⟨qx, qy⟩, h2⟩ : ∃ q, ps[j] = q := ⟨_, rfl⟩
  obtain ⟨⟨rx, ry⟩, h3⟩ : ∃ q, ps[k] = q := ⟨_, rfl⟩
  rw [h1, h2, h3] at ho
  rw [h1] at a0 a1
  rw [h2] at b0 b1
  rw [h3] at c0 c1
  rw [h1, h2, h3]
  simp only [Nat.zero_add] at a0 a1 b0 b1 c0 c1
  obtain ⟨o1, o2, o3, o4, o5, o6, o7⟩ := ho
  unfold triF crossF
  simp only at o1 o2 o3 o4 o5 o6 o7 ⊢
  clear h1 h2 h3 hpt
  go_enter Try.func66, Try.ntmps66
  go_wp2_with (go_at_call 14; (first | (with_reducible refine (Ret.at_ext (abs_c _ _)).mono ?_) | (with_reducible refine (abs_c _ _).mono ?_)); rintro e w' ⟨rfl, u, rfl⟩)
  go_ret
  exact Ret.mk rfl (by repeat (first | (with_reducible exact Kp.refl _) | (with_reducible assumption) | (with_reducible apply Kp.ext) | (with_reducible apply Kp.alloc) | (with_reducible apply Kp.drew) | (with_reducible apply Kp.drewN) | (with_reducible refine Kp.setCell ?_ (by first | (dsimp only; omega) | (simp; omega) | (simp; done) | (simp [size_ext_eq]; omega)) _)))
end Go.Proofs.Ytglopopdmkgooaa

namespace Go.Proofs.Ytglopopdmkgooaa
open PubFl PubVis

structure LoopInv (n : Nat) (tri : Nat → Nat → Nat → Int) (thr : Int) (S : VSt) (key : Nat → Int) (L M : Nat → Bool) (bad : Nat → Prop) (r : Nat) : Prop where
  hi : HInv n S key
  lk : Linked n L S.nx S.pv
  me : ∀ q, (∃ j, j < S.m ∧ S.H j = q) ↔ M q = true
  pp : ∀ i, i < n → S.P i = i
  ct : cnt L n + r = n
  k0 : key 0 = infK
  kn : key (n - 1) = infK
  ki : ∀ q a c, L q = true → ¬ bad q → S.pv q = some a → S.nx q = some c → 0 ≤ key q ∧ key q < infK ∧ (key q = tri a q c ∨ key q ≤ thr)
def none' : Nat → Prop := fun _ => False

variable {n : Nat} {tri : Nat → Nat → Nat → Int} {thr : Int} {S : VSt} {key : Nat → Int} {L : Nat → Bool} {r : Nat}

/-- what is popped is on the list, and has the least key -/
theorem LoopInv.min (h : LoopInv n tri thr S key L L none' r) : 0 < S.m ∧ L (S.H 0) = true ∧ (∀ q, L q = true → key (S.H 0) ≤ key q) := by
  have h0 := (h.me 0).2 h.lk.l0
  obtain ⟨j, hj, _⟩ := h0
  refine ⟨by omega, (h.me _).1 ⟨0, by omega, rfl⟩, fun q hq => ?_⟩
  obtain ⟨i, hi, rfl⟩ := (h.me q).2 hq
  exact ord_min h.hi.ord i hi
/-- if there are more than two, it is an inner one -/
theorem LoopInv.inner (h : LoopInv n tri thr S key L L none' r) (h2 : 2 < n - r) : ∃ a b, S.pv (S.H 0) = some a ∧ S.nx (S.H 0) = some b ∧ 0 ≤ key (S.H 0) ∧ key (S.H 0) < infK := by
  obtain ⟨hm, hc, hmin⟩ := h.min
  have hcl := h.ct
  obtain ⟨i, i0, i1, hi⟩ := inside_of (L := L) (n := n) (by omega)
  obtain ⟨a, ha, _⟩ := h.lk.prv i i0 hi
  obtain ⟨b, hb, _⟩ := h.lk.nxt i i1 hi
  obtain ⟨_, hlt, _⟩ := h.ki i a b hi (fun f => f) ha hb
  have hle := hmin i hi
  have c0 : S.H 0 ≠ 0 := fun e => by rw [e, h.k0] at hle; omega
  have cn : S.H 0 ≠ n - 1 := fun e => by rw [e, h.kn] at hle; omega
  have hlt' := h.lk.lt hc
  obtain ⟨a', ha', _⟩ := h.lk.prv _ (by omega) hc
  obtain ⟨b', hb', _⟩ := h.lk.nxt _ (by omega) hc
  obtain ⟨k1, k2, _⟩ := h.ki _ a' b' hc (fun f => f) ha' hb'
  exact ⟨a', b', ha', hb', k1, k2⟩
/-- popped -/
theorem LoopInv.pop (h : LoopInv n tri thr S key L L none' r) {H X : Nat → Nat} (hi : HInv n { S with m := S.m - 1, H := H, X := X } key) (hm : ∀ x, (∃ j, j < S.m - 1 ∧ H j = x) ↔ (x ≠ S.H 0 ∧ ∃ j, j < S.m ∧ S.H j = x)) :
    LoopInv n tri thr { S with m := S.m - 1, H := H, X := X } key L (upd L (S.H 0) false) none' r := by
  refine ⟨hi, h.lk, fun q => (hm q).trans ?_, h.pp, h.ct, h.k0, h.kn, h.ki⟩
  by_cases c : q = S.H 0
  · subst c
    rw [upd_same]
    exact ⟨fun ⟨h1, _⟩ => absurd rfl h1, fun h => by cases h⟩
  · rw [upd_other _ _ c]
    exact ⟨fun ⟨_, h2⟩ => (h.me q).1 h2, fun h2 => ⟨c, (h.me q).2 h2⟩⟩
/-- taken off the list -/
theorem LoopInv.take {c a b : Nat} (h : LoopInv n tri thr S key L (upd L c false) none' r) (hc : L c = true) (hp : S.pv c = some a) (hn : S.nx c = some b) :
    LoopInv n tri thr { S with nx := upd S.nx a (some b), pv := upd S.pv b (some a) } key (upd L c false) (upd L c false) (fun q => q = a ∨ q = b) (r + 1) ∧ a < c ∧ c < b ∧ b < n ∧ L a = true ∧ L b = true := by
  obtain ⟨lk, la, lb, ac, cb, bn⟩ := h.lk.take hc hn hp
  have hct := h.ct
  have hco := cnt_off hc n (h.lk.lt hc)
  refine ⟨⟨⟨h.hi.hx, h.hi.ord, h.hi.av⟩, lk, h.me, h.pp, by omega, h.k0, h.kn, fun q a' c' hq hb hpq hnq => ?_⟩, ac, cb, bn, la, lb⟩
  have qa : q ≠ a := fun e => hb (.inl e)
  have qb : q ≠ b := fun e => hb (.inr e)
  have qc : q ≠ c := fun e => by subst e; rw [upd_same] at hq; cases hq
  rw [upd_other _ _ qc] at hq
  have hpq' : upd S.pv b (some a) q = some a' := hpq
  have hnq' : upd S.nx a (some b) q = some c' := hnq
  rw [upd_other _ _ qb] at hpq'
  rw [upd_other _ _ qa] at hnq'
  exact h.ki q a' c' hq (fun f => f) hpq' hnq'
/-- a key made good -/
theorem LoopInv.upd {bad : Nat → Prop} (h : LoopInv n tri thr S key L L bad r) {q a c : Nat} {kx : Int} {x : Nat} {H X : Nat → Nat} (hL : L q = true) (hp : S.pv q = some a) (hn : S.nx q = some c) (h0 : 0 ≤ kx) (h1 : kx < infK) (h2 : kx = tri a q c ∨ kx ≤ thr)
    (hi : HInv n { S with A := PubVis.upd S.A q x, H := H, X := X } (PubVis.upd key q kx)) (hs : PubVis.Same S.m S.H H) :
    LoopInv n tri thr { S with A := PubVis.upd S.A q x, H := H, X := X } (PubVis.upd key q kx) L L (fun p => p ≠ q ∧ bad p) r := by
  have q0 : q ≠ 0 := fun e => by subst e; rw [h.lk.pv0] at hp; cases hp
  have qn : q ≠ n - 1 := fun e => by subst e; rw [h.lk.nxn] at hn; cases hn
  refine ⟨hi, h.lk, fun p => (hs p).trans (h.me p), h.pp, h.ct, by rw [upd_other _ _ (Ne.symm q0)]; exact h.k0, by rw [upd_other _ _ (Ne.symm qn)]; exact h.kn, fun p a' c' hp' hb hpp hpn => ?_⟩
  by_cases e : p = q
  · subst e
    rw [upd_same]
    have ea : a' = a := by
      have : S.pv p = some a' := hpp
      rw [hp] at this; exact (Option.some.inj this).symm
    have ec : c' = c := by
      have : S.nx p = some c' := hpn
      rw [hn] at this; exact (Option.some.inj this).symm
    subst ea ec
    exact ⟨h0, h1, h2⟩
  · rw [upd_other _ _ e]
    exact h.ki p a' c' hp' (fun f => hb ⟨e, f⟩) hpp hpn
theorem LoopInv.bad {bad bad' : Nat → Prop} {M : Nat → Bool} (h : LoopInv n tri thr S key L M bad r) (hb : ∀ q, L q = true → bad q → bad' q ∨ S.pv q = none ∨ S.nx q = none) : LoopInv n tri thr S key L M bad' r :=
  ⟨h.hi, h.lk, h.me, h.pp, h.ct, h.k0, h.kn, fun q a c hq hn hp hx => h.ki q a c hq (fun f => by
    rcases hb q hq f with g | g | g
    · exact hn g
    · rw [hp] at g; cases g
    · rw [hx] at g; cases g) hp hx⟩

/-- what is left at the end -/
structure Rest (n : Nat) (tri : Nat → Nat → Nat → Int) (thr : Int) (keep : Nat) (S : VSt) (L : Nat → Bool) : Prop where
  lk : Linked n L S.nx S.pv
  pp : ∀ i, i < n → S.P i = i
  ge : keep ≤ cnt L n
  fin : cnt L n = keep ∨ ∀ q a c, L q = true → S.pv q = some a → S.nx q = some c → thr < tri a q c
/-- stopped: the least key is above the threshold -/
theorem LoopInv.stop_key {keep : Nat} (h : LoopInv n tri thr S key L L none' r) (hk : thr < key (S.H 0)) (hr : keep ≤ n - r) {H X : Nat → Nat} {m : Nat} : Rest n tri thr keep { S with m := m, H := H, X := X } L := by
  obtain ⟨_, _, hmin⟩ := h.min
  have hct := h.ct
  refine ⟨h.lk, h.pp, by omega, .inr fun q a c hq hp hn => ?_⟩
  obtain ⟨_, _, h3⟩ := h.ki q a c hq (fun f => f) hp hn
  have := hmin q hq
  rcases h3 with e | e <;> omega
theorem LoopInv.stop_many {keep : Nat} (h : LoopInv n tri thr S key L L none' r) (hk : n - r ≤ keep) (hr : keep ≤ n - r) {H X : Nat → Nat} {m : Nat} : Rest n tri thr keep { S with m := m, H := H, X := X } L := by
  have hct := h.ct
  exact ⟨h.lk, h.pp, by omega, .inl (by omega)⟩
end Go.Proofs.Ytglopopdmkgooaa

namespace Go.Proofs.Ytglopopdmkgooaa
open PubFl Go.RowKit PubVis

attribute [local go_sem] cell_ext frozen_ext ext_setCell cell_store size_ext_eq lt_p0 lt_p1 lt_p2 lt_p3 lt_p4 lt_p5 lt_p6 lt_p7 lt_p8 lt_p9 lt_p10 lt_p11 lt_p12 lt_p13 lt_p14 lt_p15 lt_p16 lt_p17 lt_p18 lt_p19 lt_p20 lt_p21 lt_p22 lt_p23 lt_p24 lt_p25 lt_p26 lt_p27 lt_p28 lt_p29 lt_p30 lt_p31 lt_p32 lt_q1 lt_q2 lt_q3 lt_q4 lt_q5 lt_q6 lt_q7 lt_q8 lt_q9 lt_q10 lt_q11 lt_q12 lt_q13 lt_q14 lt_q15 lt_q16 lt_q17 lt_q18 lt_q19 lt_q20 lt_q21 lt_q22 lt_q23 lt_q24 lt_q25 lt_q26 lt_q27 lt_q28 lt_q29 lt_q30 lt_q31 lt_q32 run_fop run_store_float
attribute [local go_sem high] cmp_eql cmp_neq cmp_lss cmp_leq cmp_gtr cmp_geq

/-- the row, the variable that holds it, and the first item -/
structure Init1 (w W : World) (n L G hv m : Nat) : Prop where
  kp : Kp w W
  obj : RowObj W G n 96
  row : m = 1 → W.cell? ⟨G, 0, none⟩ = some (.pointer (some ⟨L, 0, none⟩))
  cH : W.cell? ⟨hv, 0, none⟩ = some (.slice (some ⟨G, 0, none⟩) m n)
  l0 : W.cell? ⟨L, 0, none⟩ = some (.float .f64 infF)
  l1 : W.cell? ⟨L, 1, none⟩ = some (.int .i64 0)
  l2 : W.cell? ⟨L, 2, none⟩ = some (.pointer none)
  l3 : W.cell? ⟨L, 3, none⟩ = some (.pointer none)
  l4 : W.cell? ⟨L, 4, none⟩ = some (.int .i64 0)
  zL : ∀ j, W.frozen? ⟨L, j, none⟩ = false
  zG : ∀ j, W.frozen? ⟨G, j, none⟩ = false
  zh : ∀ j, W.frozen? ⟨hv, j, none⟩ = false
  o0 : w.heap.size ≤ G
  o1 : G < hv
  o2 : hv < L
  o3 : L < W.heap.size
theorem Init1.kpx {w W W' : World} {n L G hv m : Nat} (h : Init1 w W n L G hv m) (k : Kp W W') : Init1 w W' n L G hv m := by
  obtain ⟨kp, obj, row, cH, l0, l1, l2, l3, l4, zL, zG, zh, o0, o1, o2, o3⟩ := h
  have hc : ∀ b, b < W.heap.size → ∀ j, W'.cell? ⟨b, j, none⟩ = W.cell? ⟨b, j, none⟩ := fun b hb j => Below.cell (p := ⟨b, j, none⟩) k hb
  have hf : ∀ b, b < W.heap.size → ∀ j, W'.frozen? ⟨b, j, none⟩ = W.frozen? ⟨b, j, none⟩ := fun b hb j => Below.frozen (p := ⟨b, j, none⟩) k hb
  exact ⟨kp.trans k, obj.kp (by omega) k, fun e => (hc G (by omega) 0).trans (row e), (hc hv (by omega) 0).trans cH, (hc L o3 0).trans l0, (hc L o3 1).trans l1, (hc L o3 2).trans l2, (hc L o3 3).trans l3, (hc L o3 4).trans l4,
    fun j => (hf L o3 j).trans (zL j), fun j => (hf G (by omega) j).trans (zG j), fun j => (hf hv (by omega) j).trans (zh j), o0, o1, o2, Nat.lt_of_lt_of_le o3 k.size⟩
theorem init_at (w u : World) (n : Nat) (L : Nat) (hL : w.heap.size + 1 + 1 + dz (w.heap.size + 1 + 1) u = L) (t1 t2 t3 : TypeId) (h1 : t1 = 96) :
    Init1 w ((ext ((w.alloc (.cells (madeCells #[.pointer none] n) t1)).alloc (.cells #[.slice (some ⟨w.heap.size, 0, none⟩) 0 n] t2)) u).alloc (.cells #[.float .f64 infF, .int .i64 0, .pointer none, .pointer none, .int .i64 0] t3)) n L w.heap.size (w.heap.size + 1) 0 := by
  subst h1
  have k1 : Kp w (w.alloc (.cells (madeCells #[.pointer none] n) 96)) := (Kp.refl _).alloc _
  obtain ⟨W1, hW1⟩ : ∃ W1, W1 = w.alloc (.cells (madeCells #[.pointer none] n) 96) := ⟨_, rfl⟩
  have s1 : W1.heap.size = w.heap.size + 1 := by rw [hW1]; simp
  have g1 : W1.heap[w.heap.size]? = some (.cells (madeCells #[.pointer none] n) 96 (0, 0)) := by rw [hW1]; exact heap_alloc_new w _
  have f1 : ∀ j, W1.frozen? ⟨w.heap.size, j, none⟩ = false := fun j => by rw [hW1]; simp
  rw [← hW1] at k1
  rw [← hW1]
  clear hW1
  obtain ⟨W2, hW2⟩ : ∃ W2, W2 = W1.alloc (.cells #[.slice (some ⟨w.heap.size, 0, none⟩) 0 n] t2) := ⟨_, rfl⟩
  have s2 : W2.heap.size = w.heap.size + 1 + 1 := by rw [hW2]; simp [s1]
  have c2 : W2.cell? ⟨w.heap.size + 1, 0, none⟩ = some (.slice (some ⟨w.heap.size, 0, none⟩) 0 n) := by rw [hW2, ← s1]; simp
  have f2 : ∀ j, W2.frozen? ⟨w.heap.size + 1, j, none⟩ = false := fun j => by rw [hW2, ← s1]; simp
  have k2 : Kp W1 W2 := by rw [hW2]; exact (Kp.refl _).alloc _
  rw [← hW2]
  clear hW2
  have s3 : (ext W2 u).heap.size = L := by rw [size_ext_eq, s2]; exact hL
  have k3 : Kp W2 (ext W2 u) := (Kp.refl _).ext u
  obtain ⟨W3, hW3⟩ : ∃ W3, W3 = ext W2 u := ⟨_, rfl⟩
  rw [← hW3] at s3 k3
  rw [← hW3]
  clear hW3
  have k4 : Kp W3 (W3.alloc (.cells #[.float .f64 infF, .int .i64 0, .pointer none, .pointer none, .int .i64 0] t3)) := (Kp.refl _).alloc _
  have k34 := k3.trans k4
  have k14 := k2.trans k34
  have l23 := k3.size
  refine ⟨k1.trans k14, ⟨_, (k14.block _ (by omega)).trans g1, size_madeCells _ _⟩, fun e => (by cases e), (Below.cell (p := ⟨w.heap.size + 1, 0, none⟩) k34 (show w.heap.size + 1 < W2.heap.size by omega)).trans c2, ?_, ?_, ?_, ?_, ?_, fun j => ?_,
    fun j => (Below.frozen (p := ⟨w.heap.size, j, none⟩) k14 (show w.heap.size < W1.heap.size by omega)).trans (f1 j), fun j => (Below.frozen (p := ⟨w.heap.size + 1, j, none⟩) k34 (show w.heap.size + 1 < W2.heap.size by omega)).trans (f2 j), Nat.le_refl _, by omega, by omega, ?_⟩
  all_goals (rw [← s3]; simp)

set_option maxRecDepth 20000 in
set_option maxHeartbeats 1000000 in
theorem up0_c (L G c : Nat) (hc : 1 ≤ c) (w : World) (h : w.cell? ⟨G, 0, none⟩ = some (.pointer (some ⟨L, 0, none⟩))) :
    Calls Try.prog 70 #[.slice (some ⟨G, 0, none⟩) 1 c, .int .i64 0] w (fun e w' => e = .returned (.tuple #[]) ∧ w = w') := by
  go_enter Try.func70, Try.ntmps70
  go_wp2_with fail
  go_loopw [1] (fun s1 wr => s1 = .int .i64 0 ∧ w = wr) (fun _ _ => 0)
  case atStart => exact ⟨rfl, rfl⟩
  case round =>
    obtain ⟨rfl, rfl⟩ := hrel
    go_wp2_with fail
    go_end0
    exact ⟨rfl, rfl⟩
theorem Init1.put {w W : World} {n L G hv : Nat} (h1 : 1 ≤ n) (h : Init1 w W n L G hv 0) : Init1 w (((W.setCell ⟨L, 4, none⟩ (.int .i64 0)).setCell ⟨G, 0, none⟩ (.pointer (some ⟨L, 0, none⟩))).setCell ⟨hv, 0, none⟩ (.slice (some ⟨G, 0, none⟩) 1 n)) n L G hv 1 := by
  obtain ⟨kp, obj, row, cH, l0, l1, l2, l3, l4, zL, zG, zh, o0, o1, o2, o3⟩ := h
  have c0 : ∃ v, W.cell? ⟨G, 0, none⟩ = some v := by
    obtain ⟨cur, hcur, hcs⟩ := obj
    exact ⟨cur[0]'(by omega), by unfold World.cell?; rw [hcur]; simp [hcs]⟩
  obtain ⟨v0, c0⟩ := c0
  have oL : ∀ j, j ≠ 4 → (((W.setCell ⟨L, 4, none⟩ (.int .i64 0)).setCell ⟨G, 0, none⟩ (.pointer (some ⟨L, 0, none⟩))).setCell ⟨hv, 0, none⟩ (.slice (some ⟨G, 0, none⟩) 1 n)).cell? ⟨L, j, none⟩ = W.cell? ⟨L, j, none⟩ := fun j hj => by
    rw [World.cell?_setCell_other _ _ _ _ (fun e => by injection e <;> omega), World.cell?_setCell_other _ _ _ _ (fun e => by injection e <;> omega), World.cell?_setCell_other _ _ _ _ (fun e => by injection e with _ e _; exact hj e.symm)]
  have kx : Kp w (((W.setCell ⟨L, 4, none⟩ (.int .i64 0)).setCell ⟨G, 0, none⟩ (.pointer (some ⟨L, 0, none⟩))).setCell ⟨hv, 0, none⟩ (.slice (some ⟨G, 0, none⟩) 1 n)) :=
    ((kp.setCell (by dsimp only; omega) _).setCell (by dsimp only; omega) _).setCell (by dsimp only; omega) _
  refine ⟨kx, ((obj.set _ _ _).set _ _ _).set _ _ _, fun _ => ?_, ?_, (oL 0 (by decide)).trans l0, (oL 1 (by decide)).trans l1, (oL 2 (by decide)).trans l2, (oL 3 (by decide)).trans l3, ?_, fun j => by simpa using zL j, fun j => by simpa using zG j, fun j => by simpa using zh j, o0, o1, o2, by simpa using o3⟩
  · rw [World.cell?_setCell_other _ _ _ _ (fun e => by injection e <;> omega)]
    exact World.cell?_setCell_same _ _ _ ((World.cell?_setCell_other _ _ _ _ (fun e => by injection e <;> omega)).trans c0)
  · refine World.cell?_setCell_same _ _ _ (u := .slice (some ⟨G, 0, none⟩) 0 n) ?_
    rw [World.cell?_setCell_other _ _ _ _ (fun e => by injection e <;> omega), World.cell?_setCell_other _ _ _ _ (fun e => by injection e <;> omega)]; exact cH
  · rw [World.cell?_setCell_other _ _ _ _ (fun e => by injection e <;> omega), World.cell?_setCell_other _ _ _ _ (fun e => by injection e <;> omega)]
    exact World.cell?_setCell_same _ _ _ l4
set_option maxRecDepth 20000 in
set_option maxHeartbeats 1000000 in
theorem push0_c (w W : World) (n L G hv : Nat) (hn : n ≤ 1000) (h1 : 1 ≤ n) (h : Init1 w W n L G hv 0) :
    Calls Try.prog 65 #[.pointer (some ⟨hv, 0, none⟩), .pointer (some ⟨L, 0, none⟩)] W (fun e w' => e = .returned (.tuple #[]) ∧ Init1 w w' n L G hv 1) := by
  obtain ⟨i0, hi0, hsz⟩ : ∃ i, Try.prog.info? 96 = some i ∧ i.size = 1 := by
    have h := infoVisP
    cases hh : Try.prog.info? 96 with
    | none => rw [hh] at h; cases h
    | some i => rw [hh] at h; exact ⟨i, rfl, by simpa using h⟩
  obtain ⟨kp, obj, row, cH, l0, l1, l2, l3, l4, zL, zG, zh, o0, o1, o2, o3⟩ := id h
  have ob := ((obj.set L 4 (.int .i64 0)).kp (by simp; omega) ((Kp.refl _).alloc (.cells #[.pointer (some ⟨L, 0, none⟩)] 96)))
  have dGh : G ≠ hv := by omega
  have dGL : G ≠ L := by omega
  have dhL : hv ≠ L := by omega
  have lG : G < W.heap.size := by omega
  have lh : hv < W.heap.size := by omega
  have z1 := zL 4
  have z2 := zG 0
  have z3 := zh 0
  obtain ⟨cur, hcur, hcs⟩ := obj
  have cG : ∃ v, W.cell? ⟨G, 0, none⟩ = some v := ⟨cur[0]'(by omega), by unfold World.cell?; rw [hcur]; simp [hcs]⟩
  obtain ⟨v0, cG⟩ := cG
  have Hob := Lib.hid ob
  have Hh := Lib.hid h
  have Hsz := Lib.hid hsz
  have Hi0 := Lib.hid hi0
  have Hcur := Lib.hid hcur
  clear ob h hi0 hsz hcur hcs row zL zG zh kp l0 l1 l2 l3
  go_enter Try.func65, Try.ntmps65
  go_wp2_with (at_builtin; refine wpList_append_one _ rfl (.tmp 14) (.tmp 16) 95 rfl 96 i0 Try.underlying95 Hi0.out Hsz.out G 0 n rfl Hob.out _ _ (.pointer (some ⟨L, 0, none⟩)) rfl ?c1 rfl (by omega) ?_)
  case c1 =>
    have h := World.cell?_alloc_new (W.setCell ⟨L, 4, none⟩ (.int .i64 0)) #[.pointer (some ⟨L, 0, none⟩)] 96 0
    rw [World.size_setCell] at h
    exact h
  have hx := (Hh.out.put h1).kpx ((Kp.refl _).alloc (.cells #[.pointer (some ⟨L, 0, none⟩)] 96))
  generalize ((((W.setCell ⟨L, 4, none⟩ (.int .i64 0)).setCell ⟨G, 0, none⟩ (.pointer (some ⟨L, 0, none⟩))).setCell ⟨hv, 0, none⟩ (.slice (some ⟨G, 0, none⟩) 1 n)).alloc (.cells #[.pointer (some ⟨L, 0, none⟩)] 96)) = W' at *
  have cH' := hx.cH
  have l4' := hx.l4
  have rr := hx.row rfl
  have s1 := hx.o3
  have s2 : G < W'.heap.size := by omega
  have s3 : hv < W'.heap.size := by omega
  have HX := Lib.hid hx
  clear hx cH l4 z1 z2 z3 cG Hob
  first | (with_reducible refine wp_region_ext_tail2 7 ?_ ?_ ?_) | refine wp_region_ext_tail 7 ?_ ?_ ?_
  kernel_rfl
  kernel_rfl
  simp only [List.take_succ_cons, List.take_zero, List.drop_succ_cons, List.drop_zero]
  repeat (go_big_quiet_step (fail))
  refine wpQuiet_nil ?_
  rintro _ ⟨u, rfl⟩
  go_wp2_with (go_at_call 70; (with_reducible refine (up0_c _ _ _ h1 _ (by rw [cell_ext s2]; exact rr)).mono ?_); rintro e w' ⟨rfl, rfl⟩)
  go_end0
  exact ⟨rfl, HX.out.kpx ((Kp.refl _).ext u)⟩

/-- the state at first -/
def S0 : VSt := ⟨1, fun _ => 0, fun _ => 0, fun q => if q = 0 then infF else 0, fun _ => 0, fun _ => none, fun _ => none⟩
theorem made5 (w : World) (n : Nat) (t : TypeId) (q : Nat) (hq : q < n) :
    (w.alloc (.cells (madeCells #[.float .f64 0, .int .i64 0, .pointer none, .pointer none, .int .i64 0] (n * 5)) t)).cell? ⟨w.heap.size, q * 5, none⟩ = some (.float .f64 0) ∧
    (w.alloc (.cells (madeCells #[.float .f64 0, .int .i64 0, .pointer none, .pointer none, .int .i64 0] (n * 5)) t)).cell? ⟨w.heap.size, q * 5 + 1, none⟩ = some (.int .i64 0) ∧
    (w.alloc (.cells (madeCells #[.float .f64 0, .int .i64 0, .pointer none, .pointer none, .int .i64 0] (n * 5)) t)).cell? ⟨w.heap.size, q * 5 + 2, none⟩ = some (.pointer none) ∧
    (w.alloc (.cells (madeCells #[.float .f64 0, .int .i64 0, .pointer none, .pointer none, .int .i64 0] (n * 5)) t)).cell? ⟨w.heap.size, q * 5 + 3, none⟩ = some (.pointer none) ∧
    (w.alloc (.cells (madeCells #[.float .f64 0, .int .i64 0, .pointer none, .pointer none, .int .i64 0] (n * 5)) t)).cell? ⟨w.heap.size, q * 5 + 4, none⟩ = some (.int .i64 0) := by
  simp only [World.cell?_alloc_new]
  unfold madeCells
  have e : ∀ k, k < 5 → ((Array.range (n * 5)).map (#[Value.float .f64 0, .int .i64 0, .pointer none, .pointer none, .int .i64 0][· % 5]!))[q * 5 + k]? = some (#[Value.float .f64 0, .int .i64 0, .pointer none, .pointer none, .int .i64 0][k]!) := fun k hk => by
    rw [Array.getElem?_map, Array.getElem?_range, if_pos (by omega), Option.map_some, show (q * 5 + k) % 5 = k by omega]
  exact ⟨e 0 (by decide), e 1 (by decide), e 2 (by decide), e 3 (by decide), e 4 (by decide)⟩
theorem VisH.start {w W : World} {n L G hv : Nat} (h1 : 1 ≤ n) (h : Init1 w W n L G hv 1) (t : TypeId) :
    VisH (W.alloc (.cells (madeCells #[.float .f64 0, .int .i64 0, .pointer none, .pointer none, .int .i64 0] (n * 5)) t)) n L W.heap.size G hv S0 := by
  have hk := h.kpx ((Kp.refl _).alloc (.cells (madeCells #[.float .f64 0, .int .i64 0, .pointer none, .pointer none, .int .i64 0] (n * 5)) t))
  have hm := made5 W n t
  have oL := h.o3
  have sz : (W.alloc (.cells (madeCells #[.float .f64 0, .int .i64 0, .pointer none, .pointer none, .int .i64 0] (n * 5)) t)).heap.size = W.heap.size + 1 := by simp
  have fI : ∀ j, (W.alloc (.cells (madeCells #[.float .f64 0, .int .i64 0, .pointer none, .pointer none, .int .i64 0] (n * 5)) t)).frozen? ⟨W.heap.size, j, none⟩ = false := fun j => by simp
  generalize W.alloc (.cells (madeCells #[.float .f64 0, .int .i64 0, .pointer none, .pointer none, .int .i64 0] (n * 5)) t) = W' at *
  obtain ⟨kp, obj, row, cH, l0, l1, l2, l3, l4, zL, zG, zh, o0, o1, o2, o3⟩ := hk
  have room : ∀ j, j < n → ∃ v, W'.cell? ⟨G, j, none⟩ = some v := fun j hj => by
    obtain ⟨cur, hcur, hcs⟩ := obj
    exact ⟨cur[j]'(by omega), by unfold World.cell?; rw [hcur]; simp [hcs]⟩
  have vv : ∀ i, (i = 0 ∧ vb L W.heap.size i = L ∧ vo i = 0) ∨ (i ≠ 0 ∧ vb L W.heap.size i = W.heap.size ∧ vo i = i * 5) := fun i => by
    by_cases c : i = 0
    · subst c; exact .inl ⟨rfl, vb_0 _ _, rfl⟩
    · exact .inr ⟨c, vb_s _ _ (by omega), rfl⟩
  refine ⟨⟨fun i hi => ?_, fun i hi => ?_, fun i hi => ?_, fun i hi => ?_, fun i hi => ?_, fun j hj => ?_, room, zL, fI, zG, o3, by omega, by omega, by omega, by omega, by omega, h1, fun j _ => by show 0 < n; omega, obj⟩, cH, zh, by omega, by omega, by omega, by omega⟩
  · rcases vv i with ⟨rfl, e1, e2⟩ | ⟨c, e1, e2⟩
    · rw [e1, e2]; exact l0
    · rw [e1, e2, show S0.A i = 0 from if_neg c]; exact (hm i hi).1
  · rcases vv i with ⟨rfl, e1, e2⟩ | ⟨c, e1, e2⟩
    · rw [e1, e2]; exact l1
    · rw [e1, e2]; exact (hm i hi).2.1
  · rcases vv i with ⟨rfl, e1, e2⟩ | ⟨c, e1, e2⟩
    · rw [e1, e2]; exact l2
    · rw [e1, e2]; exact (hm i hi).2.2.1
  · rcases vv i with ⟨rfl, e1, e2⟩ | ⟨c, e1, e2⟩
    · rw [e1, e2]; exact l3
    · rw [e1, e2]; exact (hm i hi).2.2.2.1
  · rcases vv i with ⟨rfl, e1, e2⟩ | ⟨c, e1, e2⟩
    · rw [e1, e2]; exact l4
    · rw [e1, e2]; exact (hm i hi).2.2.2.2
  · have hj0 : j = 0 := by have : j < 1 := hj; omega
    subst hj0
    show _ = some (Value.pointer (some ⟨vb L W.heap.size 0, vo 0, none⟩))
    rw [vb_0]; exact row rfl
end Go.Proofs.Ytglopopdmkgooaa

namespace Go.Proofs.Ytglopopdmkgooaa
open PubFl Go.RowKit PubVis

attribute [local go_sem] cell_ext frozen_ext ext_setCell cell_store size_ext_eq lt_p0 lt_p1 lt_p2 lt_p3 lt_p4 lt_p5 lt_p6 lt_p7 lt_p8 lt_p9 lt_p10 lt_p11 lt_p12 lt_p13 lt_p14 lt_p15 lt_p16 lt_p17 lt_p18 lt_p19 lt_p20 lt_p21 lt_p22 lt_p23 lt_p24 lt_p25 lt_p26 lt_p27 lt_p28 lt_p29 lt_p30 lt_p31 lt_p32 lt_q1 lt_q2 lt_q3 lt_q4 lt_q5 lt_q6 lt_q7 lt_q8 lt_q9 lt_q10 lt_q11 lt_q12 lt_q13 lt_q14 lt_q15 lt_q16 lt_q17 lt_q18 lt_q19 lt_q20 lt_q21 lt_q22 lt_q23 lt_q24 lt_q25 lt_q26 lt_q27 lt_q28 lt_q29 lt_q30 lt_q31 lt_q32 run_fop run_store_float
attribute [local go_sem high] cmp_eql cmp_neq cmp_lss cmp_leq cmp_gtr cmp_geq

/-- what the rule keeps -/
structure VisRes (n : Nat) (tri : Nat → Nat → Nat → Int) (thr : Int) (keep : Nat) (L : Nat → Bool) : Prop where
  l0 : L 0 = true
  ln : L (n - 1) = true
  ge : keep ≤ cnt L n
  fin : cnt L n = keep ∨ ∀ a q c, L a = true → L q = true → L c = true → a < q → q < c → c < n → (∀ k, a < k → k < q → L k = false) → (∀ k, q < k → k < c → L k = false) → thr < tri a q c
/-- the areas of the triangles of a line -/
structure TriH (ps : List (Nat × Nat)) (tri : Nat → Nat → Nat → Int) : Prop where
  t : ∀ (i j k : Nat) (hi : i < ps.length) (hj : j < ps.length) (hk : k < ps.length), TriOk (ps[i]'hi) (ps[j]'hj) (ps[k]'hk) ∧ IsV (triF (ps[i]'hi) (ps[j]'hj) (ps[k]'hk)) (tri i j k : Int) ∧ 0 ≤ tri i j k ∧ tri i j k < infK

theorem infoVis : (Try.prog.info? 99).map (fun i => (i.zero, i.size, i.bytes)) = some (some (.agg #[.float .f64 0, .int .i64 0, .pointer none, .pointer none, .int .i64 0]), 5, 40) := by kernel_rfl
theorem infoVisP3 : (Try.prog.info? 96).map (fun i => (i.zero, i.size, i.bytes)) = some (some (.pointer none), 1, 8) := by kernel_rfl

/-- the heap while it is filled -/
structure BuildRel (w wr : World) (n L I G hv : Nat) (tri : Nat → Nat → Nat → Int) (k : Nat) (S : VSt) (key : Nat → Int) : Prop where
  vis : VisH wr n L I G hv S
  hi : HInv n S key
  m : S.m = k + 1
  mem : ∀ q, (∃ j, j < S.m ∧ S.H j = q) ↔ q ≤ k
  P : ∀ q, S.P q = if q ≤ k then q else 0
  nx : ∀ q, S.nx q = if q < k then some (q + 1) else none
  pv : ∀ q, S.pv q = if 0 < q ∧ q ≤ k then some (q - 1) else none
  key0 : key 0 = infK
  keyq : ∀ q, 0 < q → q ≤ k → key q = tri (q - 1) q (q + 1)
  kp : Kp w wr
theorem ord_congr {v v' : Nat → Int} {m : Nat} (h : Ord v m) (e : ∀ q, q < m → v q = v' q) : Ord v' m := fun j h0 hj => by
  rw [← e j hj, ← e _ (Nat.lt_trans (par_lt h0) hj)]; exact h j h0 hj
theorem av_zero : AV 0 0 := .inr ⟨zero_isV, by decide, by decide⟩
theorem av_inf : AV infF infK := .inl ⟨rfl, rfl⟩
theorem build_start {w wr : World} {n L I G hv : Nat} {tri : Nat → Nat → Nat → Int} (h : VisH wr n L I G hv S0) (hk : Kp w wr) : BuildRel w wr n L I G hv tri 0 S0 (fun q => if q = 0 then infK else 0) := by
  refine ⟨h, ⟨fun j hj => by have : j < 1 := hj; show 0 = j; omega, fun j h0 hj => by have : j < 1 := hj; omega, fun q _ => ?_⟩, rfl, fun q => ?_, fun q => ?_, fun q => by rw [if_neg (by omega)]; rfl, fun q => by rw [if_neg (by omega)]; rfl, rfl, fun q h0 h1 => by omega, hk⟩
  · by_cases c : q = 0
    · subst c; exact av_inf
    · show AV (if q = 0 then infF else 0) (if q = 0 then infK else 0)
      rw [if_neg c, if_neg c]; exact av_zero
  · constructor
    · rintro ⟨j, _, rfl⟩; exact Nat.le_refl _
    · intro hq; exact ⟨0, Nat.zero_lt_one, by show 0 = q; omega⟩
  · by_cases c : q ≤ 0
    · rw [if_pos c]; show 0 = q; omega
    · rw [if_neg c]; rfl

theorem VisH.item {w : World} {n L I g hv : Nat} {S S' : VSt} (h : VisH w n L I g hv S) (i o : Nat) (v : Value) (h' : VisAt (w.setCell ⟨vb L I i, o, none⟩ v) n L I g S') (hm : S'.m = S.m) : VisH (w.setCell ⟨vb L I i, o, none⟩ v) n L I g hv S' :=
  ⟨h', by
    rw [World.cell?_setCell_other _ _ _ _ (fun e => by injection e with e; unfold vb at e; split at e; exact h.d1 e.symm; exact h.d2 e.symm), hm]; exact h.cH, fun j => by simpa using h.zh j, by simpa using h.lh, h.d1, h.d2, h.d3⟩
theorem tri_cn (b cap : Nat) (ps : List (Nat × Nat)) (n : Nat) (e : ps.length = n) (hn : n ≤ 1000) (i j k : Nat) (hi : i < ps.length) (hj : j < ps.length) (hk : k < ps.length) (w : World) (hb : b < w.heap.size) (hpt : PtsAt w b 0 ps) (ho : TriOk (ps[i]'hi) (ps[j]'hj) (ps[k]'hk)) :
    Calls Try.prog 66 #[.slice (some ⟨b, 0, none⟩) n cap, .int .i64 (i : Nat), .int .i64 (j : Nat), .int .i64 (k : Nat)] w (Ret w (.float .f64 (triF (ps[i]'hi) (ps[j]'hj) (ps[k]'hk)))) := by
  subst e; exact tri_c b cap ps hn i j k hi hj hk w hb hpt ho
/-- an item laid, ahead of its push -/
theorem build_item {w wr : World} {n L I G hv : Nat} {tri : Nat → Nat → Nat → Int} {k : Nat} {S : VSt} {key : Nat → Int} (h : BuildRel w wr n L I G hv tri k S key) (hk : k + 1 < n) {x : Nat} {kx : Int} (hx : AV x kx) :
    VisH (((wr.setCell ⟨vb L I (k + 1), vo (k + 1), none⟩ (.float .f64 x)).setCell ⟨vb L I (k + 1), vo (k + 1) + 1, none⟩ (.int .i64 (k + 1 : Nat))).setCell ⟨vb L I (k + 1), vo (k + 1) + 3, none⟩ (vp L I (some k))) n L I G hv
      { S with A := upd S.A (k + 1) x, P := upd S.P (k + 1) (k + 1), pv := upd S.pv (k + 1) (some k) } ∧
    HInv n { S with A := upd S.A (k + 1) x, P := upd S.P (k + 1) (k + 1), pv := upd S.pv (k + 1) (some k) } (upd key (k + 1) kx) ∧ (∀ j, j < S.m → S.H j ≠ k + 1) := by
  have v1 := h.vis.item _ _ _ (h.vis.at'.setA hk x) rfl
  have v2 := v1.item _ _ _ (v1.at'.setP hk (k + 1)) rfl
  have v3 := v2.item _ _ _ (v2.at'.setV hk (some k)) rfl
  have hna : ∀ j, j < S.m → S.H j ≠ k + 1 := fun j hj e => by
    have := (h.mem (k + 1)).1 ⟨j, hj, e⟩; omega
  refine ⟨v3, ⟨h.hi.hx, ord_congr h.hi.ord fun q hq => (upd_other _ _ (hna q hq)).symm, fun q hq => ?_⟩, hna⟩
  by_cases c : q = k + 1
  · subst c
    show AV (upd S.A (k + 1) x (k + 1)) _
    rw [upd_same, upd_same]; exact hx
  · show AV (upd S.A (k + 1) x q) _
    rw [upd_other _ _ c, upd_other _ _ c]; exact h.hi.av q hq
/-- pushed and linked -/
theorem build_next {w wr W W' : World} {n L I G hv : Nat} {tri : Nat → Nat → Nat → Int} {k : Nat} {S : VSt} {key : Nat → Int} (h : BuildRel w wr n L I G hv tri k S key) (hk : k + 1 < n) {x : Nat} {kx : Int} {H X : Nat → Nat}
    (hkx : kx = tri k (k + 1) (k + 2)) (hKp : Kp w W')
    (hp : PushedS n L I G hv { S with A := upd S.A (k + 1) x, P := upd S.P (k + 1) (k + 1), pv := upd S.pv (k + 1) (some k) } (k + 1) (upd key (k + 1) kx) W W' H X) :
    BuildRel w (W'.setCell ⟨vb L I k, vo k + 2, none⟩ (vp L I (some (k + 1)))) n L I G hv tri (k + 1) { S with A := upd S.A (k + 1) x, P := upd S.P (k + 1) (k + 1), pv := upd S.pv (k + 1) (some k), m := S.m + 1, H := H, X := X, nx := upd S.nx k (some (k + 1)) } (upd key (k + 1) kx) ∨ ¬ w.heap.size ≤ vb L I k := by
  by_cases hO : w.heap.size ≤ vb L I k
  · refine .inl ⟨hp.at'.item _ _ _ (hp.at'.at'.setN (by omega) (some (k + 1))) rfl, ⟨hp.inv.hx, hp.inv.ord, hp.inv.av⟩, by show S.m + 1 = _; rw [h.m], fun q => (hp.mem q).trans ?_, fun q => ?_, fun q => ?_, fun q => ?_, ?_, fun q h0 h1 => ?_, hKp.setCell hO _⟩
    · constructor
      · rintro (rfl | hq)
        · exact Nat.le_refl _
        · have := (h.mem q).1 hq; omega
      · intro hq
        by_cases c : q = k + 1
        · exact .inl c
        · exact .inr ((h.mem q).2 (by omega))
    · show upd S.P (k + 1) (k + 1) q = _
      by_cases c : q = k + 1
      · subst c; rw [upd_same, if_pos (Nat.le_refl _)]
      · rw [upd_other _ _ c, h.P q]
        by_cases c2 : q ≤ k
        · rw [if_pos c2, if_pos (by omega)]
        · rw [if_neg c2, if_neg (by omega)]
    · show upd S.nx k (some (k + 1)) q = _
      by_cases c : q = k
      · subst c; rw [upd_same, if_pos (by omega)]
      · rw [upd_other _ _ c, h.nx q]
        by_cases c2 : q < k
        · rw [if_pos c2, if_pos (by omega)]
        · rw [if_neg c2, if_neg (by omega)]
    · show upd S.pv (k + 1) (some k) q = _
      by_cases c : q = k + 1
      · subst c; rw [upd_same, if_pos (by omega)]; rfl
      · rw [upd_other _ _ c, h.pv q]
        by_cases c2 : 0 < q ∧ q ≤ k
        · rw [if_pos c2, if_pos (by omega)]
        · rw [if_neg c2, if_neg (by omega)]
    · rw [upd_other _ _ (by omega)]; exact h.key0
    · by_cases c : q = k + 1
      · subst c; rw [upd_same, hkx]; rfl
      · rw [upd_other _ _ c]; exact h.keyq q h0 (by omega)
  · exact .inr hO

/-- all pushed: the state ahead of the first round -/
theorem build_last {w wr W W' : World} {n L I G hv : Nat} {tri : Nat → Nat → Nat → Int} {thr : Int} {k : Nat} {S : VSt} {key : Nat → Int} (h : BuildRel w wr n L I G hv tri k S key) (hk : n = k + 2) {H X : Nat → Nat}
    (hT : ∀ i j q, i < n → j < n → q < n → 0 ≤ tri i j q ∧ tri i j q < infK)
    (hp : PushedS n L I G hv { S with A := upd S.A (k + 1) infF, P := upd S.P (k + 1) (k + 1), pv := upd S.pv (k + 1) (some k), nx := upd S.nx k (some (k + 1)) } (k + 1) (upd key (k + 1) infK) W W' H X) :
    LoopInv n tri thr { S with A := upd S.A (k + 1) infF, P := upd S.P (k + 1) (k + 1), pv := upd S.pv (k + 1) (some k), nx := upd S.nx k (some (k + 1)), m := S.m + 1, H := H, X := X } (upd key (k + 1) infK) (fun q => decide (q < n)) (fun q => decide (q < n)) none' 0 := by
  have hnx : ∀ q, upd S.nx k (some (k + 1)) q = if q < k + 1 then some (q + 1) else none := fun q => by
    by_cases c : q = k
    · subst c; rw [upd_same, if_pos (by omega)]
    · rw [upd_other _ _ c, h.nx q]
      by_cases c2 : q < k
      · rw [if_pos c2, if_pos (by omega)]
      · rw [if_neg c2, if_neg (by omega)]
  have hpv : ∀ q, upd S.pv (k + 1) (some k) q = if 0 < q ∧ q ≤ k + 1 then some (q - 1) else none := fun q => by
    by_cases c : q = k + 1
    · subst c; rw [upd_same, if_pos (by omega)]; rfl
    · rw [upd_other _ _ c, h.pv q]
      by_cases c2 : 0 < q ∧ q ≤ k
      · rw [if_pos c2, if_pos (by omega)]
      · rw [if_neg c2, if_neg (by omega)]
  refine ⟨⟨hp.inv.hx, hp.inv.ord, hp.inv.av⟩, ⟨decide_eq_true (by omega), decide_eq_true (by omega), by omega, fun i hi => decide_eq_false (by omega), fun i hi _ => ?_, fun j h0 hj => ?_, ?_, ?_⟩, fun q => (hp.mem q).trans ?_, fun i hi => ?_, ?_, ?_, ?_, fun q a c hq _ hpq hnq => ?_⟩
  · refine ⟨i + 1, ?_, by omega, by omega, decide_eq_true (by omega), fun q h1 h2 => by omega, ?_⟩
    · show upd S.nx k (some (k + 1)) i = _
      rw [hnx, if_pos (by omega)]
    · show upd S.pv (k + 1) (some k) (i + 1) = _
      rw [hpv, if_pos (by omega)]; rfl
  · have hj := of_decide_eq_true hj
    refine ⟨j - 1, ?_, by omega, decide_eq_true (by omega), fun q h1 h2 => by omega, ?_⟩
    · show upd S.pv (k + 1) (some k) j = _
      rw [hpv, if_pos (by omega)]
    · show upd S.nx k (some (k + 1)) (j - 1) = _
      rw [hnx, if_pos (by omega)]; congr 1; omega
  · show upd S.nx k (some (k + 1)) (n - 1) = _
    rw [hnx, if_neg (by omega)]
  · show upd S.pv (k + 1) (some k) 0 = _
    rw [hpv, if_neg (by omega)]
  · constructor
    · rintro (rfl | hq)
      · exact decide_eq_true (by omega)
      · have := (h.mem q).1 hq
        exact decide_eq_true (by omega)
    · intro hq
      have hq := of_decide_eq_true hq
      by_cases c : q = k + 1
      · exact .inl c
      · exact .inr ((h.mem q).2 (by omega))
  · show upd S.P (k + 1) (k + 1) i = i
    by_cases c : i = k + 1
    · subst c; rw [upd_same]
    · rw [upd_other _ _ c, h.P i, if_pos (by omega)]
  · rw [cnt_all n fun i hi => decide_eq_true hi]; rfl
  · rw [upd_other _ _ (by omega)]; exact h.key0
  · rw [show n - 1 = k + 1 by omega, upd_same]
  · have hpq' : upd S.pv (k + 1) (some k) q = some a := hpq
    have hnq' : upd S.nx k (some (k + 1)) q = some c := hnq
    rw [hpv] at hpq'
    rw [hnx] at hnq'
    by_cases c1 : q < k + 1
    · rw [if_pos c1] at hnq'
      by_cases c2 : 0 < q ∧ q ≤ k + 1
      · rw [if_pos c2] at hpq'
        have ea := Option.some.inj hpq'
        have ec := Option.some.inj hnq'
        subst ea ec
        rw [upd_other _ _ (by omega), h.keyq q (by omega) (by omega)]
        obtain ⟨t1, t2⟩ := hT (q - 1) q (q + 1) (by omega) (by omega) (by omega)
        exact ⟨t1, t2, .inl rfl⟩
      · rw [if_neg c2] at hpq'; cases hpq'
    · rw [if_neg c1] at hnq'; cases hnq'

theorem AV.max {x y : Nat} {a b : Int} (hx : AV x a) (hy : AV y b) (ha : a < infK) (hb : b < infK) : AV (maxF x y) (max a b) ∧ 0 ≤ max a b ∧ max a b < infK := by
  rcases hx with ⟨_, e⟩ | ⟨hx, h1, _⟩
  · omega
  · rcases hy with ⟨_, e⟩ | ⟨hy, h3, _⟩
    · omega
    · exact ⟨.inr ⟨maxF_int hx hy, by omega, by omega⟩, by omega, by omega⟩
/-- the next stage of the way along the list -/
theorem next_stage {n : Nat} {L : Nat → Bool} {nx pv : Nat → Option Nat} (h : Linked n L nx pv) {i : Nat} (hi : L i = true) :
    ∃ t, i < t ∧ t ≤ n ∧ (∀ k, i < k → k < t → L k = false) ∧ ((t < n ∧ L t = true ∧ nx i = some t) ∨ (t = n ∧ nx i = none)) := by
  have hin := h.lt hi
  by_cases c : i + 1 < n
  · obtain ⟨j, h1, h2, h3, h4, h5, _⟩ := h.nxt i c hi
    exact ⟨j, h2, by omega, h5, .inl ⟨h3, h4, h1⟩⟩
  · have e : i = n - 1 := by omega
    refine ⟨n, hin, Nat.le_refl _, fun k h1 h2 => by omega, .inr ⟨rfl, ?_⟩⟩
    rw [e]; exact h.nxn
theorem kept_next {L : Nat → Bool} {i t : Nat} (hi : L i = true) (hit : i < t) (hg : ∀ k, i < k → k < t → L k = false) : kept L t = kept L i ++ [i] := by
  rw [kept_gap t (show i + 1 ≤ t by omega) (fun k h1 h2 => hg k (by omega) h2)]
  show (if L i = true then kept L i ++ [i] else kept L i) = _
  rw [if_pos hi]
theorem Rest.res {n : Nat} {tri : Nat → Nat → Nat → Int} {thr : Int} {keep : Nat} {S : VSt} {L : Nat → Bool} (h : Rest n tri thr keep S L) : VisRes n tri thr keep L := by
  refine ⟨h.lk.l0, h.lk.ln, h.ge, h.fin.imp id fun hf a q c ha hq hc haq hqc hcn g1 g2 => ?_⟩
  obtain ⟨a', h1, h2, h3, h4, _⟩ := h.lk.prv q (by omega) hq
  obtain ⟨c', k1, k2, k3, k4, k5, _⟩ := h.lk.nxt q (by omega) hq
  have ea : a' = a := by
    rcases Nat.lt_trichotomy a' a with e | e | e
    · rw [h4 a e haq] at ha; cases ha
    · exact e
    · rw [g1 a' e h2] at h3; cases h3
  have ec : c' = c := by
    rcases Nat.lt_trichotomy c' c with e | e | e
    · rw [g2 c' k2 e] at k4; cases k4
    · exact e
    · rw [k5 c hqc e] at hc; cases hc
  subst ea ec
  exact hf q a' c' hq h1 k1
/-- where the way along the list stands -/
def AtStage (n L I : Nat) (Lv : Nat → Bool) (t : Nat) (v : Value) : Prop := (t < n ∧ Lv t = true ∧ v = .pointer (some ⟨vb L I t, vo t, none⟩)) ∨ (t = n ∧ v = .pointer none)
theorem radL_nil (ps : List (Nat × Nat)) : radL ps [] = ps := by simp [radL]
def ptAt (ps : List (Nat × Nat)) (i : Nat) : Nat × Nat := ps.getD i (0, 0)
structure OutRel (w wr : World) (n L I G b : Nat) (S : VSt) (Lv : Nat → Bool) (ps : List (Nat × Nat)) (t : Nat) : Prop where
  vis : VisAt wr n L I G S
  bel : Below b w wr
  sz : w.heap.size ≤ wr.heap.size
  pts : PtsAt wr b 0 (radL ps ((kept Lv t).map (ptAt ps)))
  fz : ∀ j, wr.frozen? ⟨b, j, none⟩ = false
/-- what lies there when an item is taken off the list -/
theorem take_cells {w : World} {n L I g hv : Nat} {S : VSt} (h : VisH w n L I g hv S) {a b c : Nat} (ha : a < n) (hb : b < n) (hc : c < n) (hn : S.nx c = some b) (hp : S.pv c = some a) (hbc : b ≠ c) :
    w.cell? ⟨vb L I c, vo c, none⟩ = some (.float .f64 (S.A c)) ∧ w.cell? ⟨vb L I c, vo c + 2, none⟩ = some (.pointer (some ⟨vb L I b, vo b, none⟩)) ∧ w.cell? ⟨vb L I c, vo c + 3, none⟩ = some (.pointer (some ⟨vb L I a, vo a, none⟩)) ∧
    (∃ v, w.cell? ⟨vb L I a, vo a + 2, none⟩ = some v) ∧ (w.setCell ⟨vb L I a, vo a + 2, none⟩ (.pointer (some ⟨vb L I b, vo b, none⟩))).cell? ⟨vb L I c, vo c + 3, none⟩ = some (.pointer (some ⟨vb L I a, vo a, none⟩)) ∧
    (∃ v, (w.setCell ⟨vb L I a, vo a + 2, none⟩ (.pointer (some ⟨vb L I b, vo b, none⟩))).cell? ⟨vb L I b, vo b + 3, none⟩ = some v) ∧
    VisH ((w.setCell ⟨vb L I a, vo a + 2, none⟩ (.pointer (some ⟨vb L I b, vo b, none⟩))).setCell ⟨vb L I b, vo b + 3, none⟩ (.pointer (some ⟨vb L I a, vo a, none⟩))) n L I g hv { S with nx := upd S.nx a (some b), pv := upd S.pv b (some a) } := by
  have v1 := h.item _ _ _ (h.at'.setN ha (some b)) rfl
  have v2 := v1.item _ _ _ (v1.at'.setV hb (some a)) rfl
  have c1 := h.at'.cN c hc
  have c2 := h.at'.cV c hc
  have c3 := v1.at'.cV c hc
  rw [hn] at c1
  rw [hp] at c2
  rw [show ({ S with nx := upd S.nx a (some b) } : VSt).pv c = some a from hp] at c3
  exact ⟨h.at'.cA c hc, c1, c2, ⟨_, h.at'.cN a ha⟩, c3, ⟨_, v1.at'.cV b hb⟩, v2⟩

set_option maxRecDepth 100000 in
set_option maxHeartbeats 4000000 in
theorem visSimplify_c (R b cap keep : Nat) (thr : Int) (ps : List (Nat × Nat)) (tri : Nat → Nat → Nat → Int) (hn : ps.length ≤ 1000) (h3 : keep < ps.length) (h2 : 2 ≤ keep) (hcap : ps.length ≤ cap) (w : World) (hR : R < b) (hb : b < w.heap.size) (t0 : Nat)
    (r0 : w.cell? ⟨R, 0, none⟩ = some (.float .f64 t0)) (r1 : w.cell? ⟨R, 1, none⟩ = some (.int .i64 (keep : Nat))) (ot : FOk .mul t0 4611686018427387904) (hthr : AV (fop .mul t0 4611686018427387904) thr)
    (hs : PtsAt w b 0 ps) (hf : ∀ j, w.frozen? ⟨b, j, none⟩ = false) (T : TriH ps tri) (a1 : Bool) :
    Calls Try.prog 63 #[.pointer (some ⟨R, 0, none⟩), .slice (some ⟨b, 0, none⟩) ps.length cap, .bool a1, .bool false] w (fun e w' => ∃ L, VisRes ps.length tri thr keep L ∧ SimPost w b cap ((kept L ps.length).map (ptAt ps)) e w') := by
  have HT := Lib.hid T
  have Hs := Lib.hid hs
  have Hthr := Lib.hid hthr
  have Hf := Lib.hid hf
  obtain ⟨iv, hiv, hv0, hv1, hv2⟩ := info_parts infoVis
  obtain ⟨ip, hip, hp0, hp1, hp2⟩ := info_parts infoVisP3
  have hmk1 : ∀ w, (Instr.makeSlice 94 (.int .i64 0) (.int .i64 (ps.length : Int))).run Try.prog w = .ok (.slice (some ⟨w.heap.size, 0, none⟩) 0 ps.length) (w.alloc (.cells (madeCells #[.pointer none] ps.length) 96)) := fun w => by
    have := run_make (P := Try.prog) w 94 96 ip (.pointer none) Try.underlying94 hip hp0 .i64 .i64 0 (ps.length : Int) (by omega) (by omega) (by rw [hp2]; omega) (by omega)
    rw [this, hp1, Nat.mul_one]
    rfl
  have hmk2 : ∀ w, (Instr.makeSlice 101 (.int .i64 (ps.length : Int)) (.int .i64 (ps.length : Int))).run Try.prog w = .ok (.slice (some ⟨w.heap.size, 0, none⟩) ps.length ps.length) (w.alloc (.cells (madeCells #[.float .f64 0, .int .i64 0, .pointer none, .pointer none, .int .i64 0] (ps.length * 5)) 99)) := fun w => by
    have := run_make (P := Try.prog) w 101 99 iv (.agg #[.float .f64 0, .int .i64 0, .pointer none, .pointer none, .int .i64 0]) Try.underlying101 hiv hv0 .i64 .i64 (ps.length : Int) (ps.length : Int) (by omega) (by omega) (by rw [hv2]; omega) (by omega)
    rw [this, hv1]
    rfl
  have k1 : ((keep : Nat) : Int) ≠ 0 := by omega
  have k2 : ((keep : Int) == 0) = false := beq_eq_false_iff_ne.2 (by omega)
  have k3 : ((ps.length : Int) ≤ (keep : Int)) = False := eq_false (by omega)
  have k4 : ((ps.length : Int) ≤ 1) = False := eq_false (by omega)
  have k5 : (keep = 0) = False := eq_false (by omega)
  obtain ⟨n, hnn⟩ : ∃ n, ps.length = n := ⟨_, rfl⟩
  rw [hnn] at hmk1 hmk2 k3 k4 hn h3 hcap ⊢
  have Hn := Lib.hid hnn
  clear hs hf hthr T hnn
  go_enter Try.func63, Try.ntmps63
  go_upto_region 24 with (go_at_call 64; (first | (with_reducible refine (Ret.at_ext (infV_c _)).mono ?_) | (with_reducible refine (infV_c _).mono ?_)); rintro e w' ⟨rfl, u, rfl⟩)
  obtain ⟨L, hL⟩ : ∃ L, w.heap.size + 1 + 1 + dz (w.heap.size + 1 + 1) u = L := ⟨_, rfl⟩
  have hI := init_at w u n L hL 96 95 99 rfl
  rw [hL]
  generalize (ext ((w.alloc (.cells (madeCells #[.pointer none] n) 96)).alloc (.cells #[.slice (some ⟨w.heap.size, 0, none⟩) 0 n] 95)) u).alloc (.cells #[.float .f64 infF, .int .i64 0, .pointer none, .pointer none, .int .i64 0] 99) = W at *
  generalize w.heap.size + 1 = hv at *
  have hGw : w.heap.size ≤ w.heap.size := Nat.le_refl _
  obtain ⟨G, hG⟩ : ∃ G, w.heap.size = G := ⟨_, rfl⟩
  rw [hG] at hI
  have HI := Lib.hid hI
  have HG := Lib.hid hG
  clear hI hL r0 r1 hGw hG hmk1
  go_upto_region 28 with (go_at_call 65; (with_reducible refine (push0_c w W n L G hv hn (by omega) HI.out).mono ?_); rintro e w1 ⟨rfl, hI1⟩; have HI1 := Lib.hid hI1; clear hI1)
  have hv1 := VisH.start (t := 99) (by omega) HI1.out
  have hkp1 := HI1.out.kp.alloc (.cells (madeCells #[.float .f64 0, .int .i64 0, .pointer none, .pointer none, .int .i64 0] (n * 5)) 99)
  have hI1 : w1.heap.size < (w1.alloc (.cells (madeCells #[.float .f64 0, .int .i64 0, .pointer none, .pointer none, .int .i64 0] (n * 5)) 99)).heap.size := by simp
  have HO := Lib.hid (show w.heap.size ≤ G ∧ G < hv ∧ hv < L ∧ L < w1.heap.size from ⟨HI1.out.o0, HI1.out.o1, HI1.out.o2, HI1.out.o3⟩)
  generalize w1.alloc (.cells (madeCells #[.float .f64 0, .int .i64 0, .pointer none, .pointer none, .int .i64 0] (n * 5)) 99) = W1 at *
  generalize w1.heap.size = I at *
  have HB := Lib.hid (build_start (tri := tri) hv1 hkp1)
  clear hv1 hkp1 HI1 HI hmk2
  go_loopw [18, 19] (fun s18 s19 wr => ∃ (k : Nat) (S : VSt) (key : Nat → Int), k + 2 ≤ n ∧ s18 = .pointer (some ⟨vb L I k, vo k, none⟩) ∧ s19 = .int .i64 ((k : Int) + 1) ∧ BuildRel w wr n L I G hv tri k S key) (fun _ s19 _ => n - (intOf s19).toNat)
  case atStart => exact ⟨0, _, _, by omega, by rw [vb_0]; rfl, rfl, HB.out⟩
  case round =>
    obtain ⟨k, S, key, hk, rfl, rfl, hr⟩ := hrel
    have hkp := hr.kp
    by_cases hlt : k + 2 < n
    · have hnn := Hn.out
      have hbr := Nat.lt_of_lt_of_le hb hkp.size
      have hav : AV (triF (ps[k]'(by omega)) (ps[k + 1]'(by omega)) (ps[k + 2]'(by omega))) (tri k (k + 1) (k + 2)) := .inr (HT.out.t k (k + 1) (k + 2) (by omega) (by omega) (by omega)).2
      have HTri := Lib.hid (fun W' (hk' : Kp w W') => (show Calls Try.prog 66 #[.slice (some ⟨b, 0, none⟩) n cap, .int .i64 (k : Int), .int .i64 ((k : Int) + 1), .int .i64 ((k : Int) + 1 + 1)] W' (Ret W' (.float .f64 (triF (ps[k]'(by omega)) (ps[k + 1]'(by omega)) (ps[k + 2]'(by omega))))) from by
        exact tri_cn b cap ps n hnn hn k (k + 1) (k + 2) (by omega) (by omega) (by omega) W' (Nat.lt_of_lt_of_le hb hk'.size) (Hs.out.kp hb hk') (HT.out.t k (k + 1) (k + 2) (by omega) (by omega) (by omega)).1))
      obtain ⟨x, hx⟩ : ∃ x, triF (ps[k]'(by omega)) (ps[k + 1]'(by omega)) (ps[k + 2]'(by omega)) = x := ⟨_, rfl⟩
      rw [hx] at HTri hav
      clear hx
      obtain ⟨v3, hi3, hna⟩ := build_item hr (by omega) hav
      have ca := hr.vis.at'.cA (k + 1) (by omega)
      have v1 := hr.vis.at'.setA (a := k + 1) (by omega) x
      have cp := v1.cP (k + 1) (by omega)
      have v2 := v1.setP (a := k + 1) (by omega) (k + 1)
      have cv := v2.cV (k + 1) (by omega)
      have zz := fun j => hr.vis.at'.fz (k + 1) j
      have hli := hr.vis.at'.lt (k + 1)
      have HP := Lib.hid (fun W' (hv' : VisH W' n L I G hv { S with A := upd S.A (k + 1) x, P := upd S.P (k + 1) (k + 1), pv := upd S.pv (k + 1) (some k) }) =>
        push_c n L I G hv { S with A := upd S.A (k + 1) x, P := upd S.P (k + 1) (k + 1), pv := upd S.pv (k + 1) (some k) } (k + 1) (upd key (k + 1) (tri k (k + 1) (k + 2))) hn (by have := hr.m; show S.m < n; omega) (by omega) hna W' hv' hi3)
      have evp : vp L I (some (k + 1)) = .pointer (some ⟨I, (k + 1) * 5, none⟩) := by rw [vp_some, vb_s _ _ (Nat.succ_pos k)]; rfl
      have evb : vb L I (k + 1) = I := vb_s _ _ (Nat.succ_pos k)
      have evo : vo (k + 1) = (k + 1) * 5 := rfl
      rw [vp_some] at v3
      rw [evb] at hli
      rw [evb, evo] at HP v3 ca cp cv
      rw [show (((k + 1 : Nat)) : Int) = (k : Int) + 1 from rfl] at v3 cv
      have z0 := zz ((k + 1) * 5)
      have z1 := zz ((k + 1) * 5 + 1)
      have z3 := zz ((k + 1) * 5 + 3)
      rw [evb] at z0 z1 z3
      have i1 : ((k : Int) + 1).toNat = k + 1 := by omega
      have i2 : (0 : Int) ≤ (k : Int) + 1 := by omega
      have i3 : (k : Int) + 1 < (n : Int) := by omega
      have i4 : (k : Int) + 1 < (n : Int) - 1 := by omega
      have V3 := Lib.hid v3
      have HR := Lib.hid hr
      have HKp := Lib.hid hkp
      have Evp := Lib.hid evp
      clear v1 v2 v3 zz hr hkp evp evb evo hnn hi3 hna hav
      go_wp2_with (first | (go_at_call 66; (first | (with_reducible refine (Ret.at_ext (HTri.out _ HKp.out)).mono ?_) | (with_reducible refine (HTri.out _ HKp.out).mono ?_)); rintro e w' ⟨rfl, u, rfl⟩) | (go_at_call 65; (with_reducible refine (HP.out _ (V3.out.kp ((Kp.refl _).ext _))).mono ?_); rintro e w4 ⟨rfl, H, X, hp⟩; have cn4 := hp.at'.at'.cN k (by omega); have zn4 := hp.at'.at'.fz k (vo k + 2); have ln4 := hp.at'.at'.lt k; have HPd := Lib.hid hp; clear hp))
      go_roundw
      case rel =>
        obtain ⟨g0, g1, g2, g3⟩ := HO.out
        have hkp3 : Kp w (ext (((wr.setCell ⟨I, (k + 1) * 5, none⟩ (.float .f64 x)).setCell ⟨I, (k + 1) * 5 + 1, none⟩ (.int .i64 ((k : Int) + 1))).setCell ⟨I, (k + 1) * 5 + 3, none⟩ (.pointer (some ⟨vb L I k, vo k, none⟩))) u) :=
          (((HKp.out.setCell (by dsimp only; omega) _).setCell (by dsimp only; omega) _).setCell (by dsimp only; omega) _).ext u
        have hkp4 := HPd.out.kx.kp hkp3 (by simp; omega)
        have hB := (build_next HR.out (by omega) rfl hkp4 HPd.out).resolve_right (fun c => c (by unfold vb; split <;> omega))
        rw [Evp.out] at hB
        exact ⟨k + 1, _, _, by omega, by rw [← vp_some, Evp.out], by go_num, hB⟩
      case measure => simp [intOf]; omega
    · have hnk : n = k + 2 := by omega
      obtain ⟨v3, hi3, hna⟩ := build_item hr (by omega) av_inf
      have ca := hr.vis.at'.cA (k + 1) (by omega)
      have v1 := hr.vis.at'.setA (a := k + 1) (by omega) infF
      have cp := v1.cP (k + 1) (by omega)
      have v2 := v1.setP (a := k + 1) (by omega) (k + 1)
      have cv := v2.cV (k + 1) (by omega)
      have cn := v3.at'.cN k (by omega)
      have v4 := v3.item _ _ _ (v3.at'.setN (a := k) (by omega) (some (k + 1))) rfl
      have zz := fun j => hr.vis.at'.fz (k + 1) j
      have zk := hr.vis.at'.fz k (vo k + 2)
      have hli := hr.vis.at'.lt (k + 1)
      have hlk := hr.vis.at'.lt k
      have HP := Lib.hid (fun W' (hv' : VisH W' n L I G hv { S with A := upd S.A (k + 1) infF, P := upd S.P (k + 1) (k + 1), pv := upd S.pv (k + 1) (some k), nx := upd S.nx k (some (k + 1)) }) =>
        push_c n L I G hv { S with A := upd S.A (k + 1) infF, P := upd S.P (k + 1) (k + 1), pv := upd S.pv (k + 1) (some k), nx := upd S.nx k (some (k + 1)) } (k + 1) (upd key (k + 1) infK) hn (by have := hr.m; show S.m < n; omega) (by omega) hna W' hv' ⟨hi3.hx, hi3.ord, hi3.av⟩)
      have evp : vp L I (some (k + 1)) = .pointer (some ⟨I, (k + 1) * 5, none⟩) := by rw [vp_some, vb_s _ _ (Nat.succ_pos k)]; rfl
      have evb : vb L I (k + 1) = I := vb_s _ _ (Nat.succ_pos k)
      have evo : vo (k + 1) = (k + 1) * 5 := rfl
      rw [evp] at v4
      rw [evb] at hli
      rw [evb, evo] at HP v4 ca cp cv cn
      rw [show (((k + 1 : Nat)) : Int) = (k : Int) + 1 from rfl] at v4 cv cn
      rw [vp_some] at cn v4
      simp only at cn
      have z0 := zz ((k + 1) * 5)
      have z1 := zz ((k + 1) * 5 + 1)
      have z3 := zz ((k + 1) * 5 + 3)
      rw [evb] at z0 z1 z3
      have i1 : ((k : Int) + 1).toNat = k + 1 := by omega
      have i2 : (0 : Int) ≤ (k : Int) + 1 := by omega
      have i3 : (k : Int) + 1 < (n : Int) := by omega
      have i4 : (n : Int) - 1 = (k : Int) + 1 := by omega
      have V4 := Lib.hid v4
      have HR := Lib.hid hr
      have HKp := Lib.hid hkp
      have Hnk := Lib.hid hnk
      clear v1 v2 v3 v4 zz hr hkp evp evb evo hnk hi3 hna
      go_upto_region 43 with (first | (go_at_call 64; (first | (with_reducible refine (Ret.at_ext (infV_c _)).mono ?_) | (with_reducible refine (infV_c _).mono ?_)); rintro e w' ⟨rfl, u, rfl⟩) | (go_at_call 65; (with_reducible refine (HP.out _ (V4.out.kp ((Kp.refl _).ext _))).mono ?_); rintro e w4 ⟨rfl, H, X, hp⟩; have HPd := Lib.hid hp; clear hp))
      have hT : ∀ i j q, i < n → j < n → q < n → 0 ≤ tri i j q ∧ tri i j q < infK := fun i j q h1 h2 h3 => by
        have hnn := Hn.out
        exact (HT.out.t i j q (by omega) (by omega) (by omega)).2.2
      have hl0 := build_last (thr := thr) HR.out Hnk.out hT HPd.out
      have hkp4 : Kp w w4 := by
        obtain ⟨g0, g1, g2, g3⟩ := HO.out
        have hk := Hnk.out
        refine HPd.out.kx.kp ?_ (by simp; omega)
        refine (((((HKp.out.setCell (by dsimp only; omega) _).setCell (by dsimp only; omega) _).setCell (by dsimp only; omega) _).setCell ?_ _).ext _)
        dsimp only; unfold vb; split <;> omega
      have HL0 := Lib.hid hl0
      have HV0 := Lib.hid HPd.out.at'
      have HK4 := Lib.hid hkp4
      clear hl0 hkp4 ca cp cv cn zk hli hlk z0 z1 z3 HP V4 i1 i2 i3 i4
      go_loopw [14] (fun s14 wr => ∃ (r : Nat) (S : VSt) (key : Nat → Int) (Lv : Nat → Bool), s14 = .int .i64 (r : Nat) ∧ r ≤ n ∧ keep ≤ n - r ∧ VisH wr n L I G hv S ∧ LoopInv n tri thr S key Lv Lv none' r ∧ Kp w wr) (fun s14 _ => n - (intOf s14).toNat)
      case atStart => exact ⟨0, _, _, _, rfl, by omega, by omega, HV0.out, HL0.out, HK4.out⟩
      case round =>
        clear HL0 HV0 HK4 HPd HKp HR Hnk HB
        rename_i wq S0' key0' _
        obtain ⟨r, S, key, Lv, rfl, hrn, hkr, hvs, hli, hkp⟩ := hrel
        obtain ⟨hm0, hLc, hmin⟩ := hli.min
        have HPop := Lib.hid (pop_c n L I G hv S key hn hm0 _ hvs hli.hi)
        have cH := hvs.cH
        obtain ⟨c, hc⟩ : ∃ c, S.H 0 = c := ⟨_, rfl⟩
        have hcn := hli.lk.lt hLc
        have hcmp := AV.gt (hli.hi.av _ hcn) Hthr.out
        rw [hc] at hLc hmin hcn hcmp
        have lh := hvs.lh
        by_cases hcont : key c ≤ thr ∧ keep < n - r
        · obtain ⟨hc1, hc2⟩ := hcont
          obtain ⟨a, q, hpa, hnq, kc0, kc1⟩ := hli.inner (by omega)
          rw [hc] at hpa hnq kc0 kc1
          obtain ⟨lkt, hLa, hLq, hac, hcq, hqn⟩ := hli.lk.take hLc hnq hpa
          have g1 : gtF (S.A c) (fop .mul t0 4611686018427387904) = false := by rw [hcmp]; exact decide_eq_false (by omega)
          have g2 : ((n : Int) - (r : Int) ≤ (keep : Int)) = False := eq_false (by omega)
          have m0 : (0 : Int) < (S.m : Int) := by omega
          have hqc : q ≠ c := by omega
          have han : a < n := by omega
          have HLi := Lib.hid hli
          have HVs := Lib.hid hvs
          have HKp := Lib.hid hkp
          have Hc := Lib.hid hc
          have Hpa := Lib.hid hpa
          have Hnq := Lib.hid hnq
          have HLc := Lib.hid hLc
          have HCm := Lib.hid hcmp
          unfold Popped at HPop
          rw [hc] at HPop
          clear hli hvs hkp hc hpa hnq hLc hcmp hmin lkt hLa hLq
          go_upto_region 51 with (go_at_call 67; (with_reducible refine (HPop.out).mono ?_); rintro e w5 ⟨rfl, H, X, hp⟩; have l5 := hp.at'.at'.lt a; have l6 := hp.at'.at'.lt q; have l7 := hp.at'.at'.lt c; have z5 := hp.at'.at'.fz a (vo a + 2); have z6 := hp.at'.at'.fz q (vo q + 3); have HPd := Lib.hid hp; obtain ⟨x1, x2, x3, ⟨y4, x4⟩, x5, ⟨y6, x6⟩, x7⟩ := take_cells hp.at' han hqn hcn Hnq.out Hpa.out hqc; have HX7 := Lib.hid x7; simp only at x1; clear x7 hp)
          have hl3 := (HLi.out.pop HPd.out.inv HPd.out.mem)
          rw [Hc.out] at hl3
          obtain ⟨hl3, _, _, _, hLa3, hLq3⟩ := hl3.take HLc.out Hpa.out Hnq.out
          have hkp3 : Kp w ((w5.setCell ⟨vb L I a, vo a + 2, none⟩ (.pointer (some ⟨vb L I q, vo q, none⟩))).setCell ⟨vb L I q, vo q + 3, none⟩ (.pointer (some ⟨vb L I a, vo a, none⟩))) := by
            obtain ⟨g0, g1, g2, g3⟩ := HO.out
            refine ((HPd.out.kx.kp HKp.out (by simp; omega)).setCell ?_ _).setCell ?_ _
            · dsimp only; unfold vb; split <;> omega
            · dsimp only; unfold vb; split <;> omega
          have hAc := HLi.out.hi.av c hcn
          have HLa : Hid (upd Lv c false a = true) := Lib.hid (by rw [upd_other _ _ (by omega)]; exact hLa3)
          have HLq : Hid (upd Lv c false q = true) := Lib.hid (by rw [upd_other _ _ (by omega)]; exact hLq3)
          have HAc := Lib.hid hAc
          have HV3 := HX7
          clear HX7 x1 x2 x3 x4 x5 x6 l5 l6 l7 z5 z6 hAc hLa3 hLq3 cH HPop
          generalize ((w5.setCell ⟨vb L I a, vo a + 2, none⟩ (.pointer (some ⟨vb L I q, vo q, none⟩))).setCell ⟨vb L I q, vo q + 3, none⟩ (.pointer (some ⟨vb L I a, vo a, none⟩))) = W3 at *
          obtain ⟨S3, hS3⟩ : ∃ S3 : VSt, { S with m := S.m - 1, H := H, X := X, nx := upd S.nx a (some q), pv := upd S.pv q (some a) } = S3 := ⟨_, rfl⟩
          have H3n : Hid (S3.nx a = some q) := Lib.hid (by rw [← hS3]; exact upd_same _ _ _)
          have H3p : Hid (S3.pv q = some a) := Lib.hid (by rw [← hS3]; exact upd_same _ _ _)
          have HA3 : Hid (S3.A c = S.A c) := Lib.hid (by rw [← hS3])
          have hl3' : LoopInv n tri thr S3 key (upd Lv c false) (upd Lv c false) (fun p => p = a ∨ p = q) (r + 1) := by rw [← hS3]; exact hl3
          have HV3' : Hid (VisH W3 n L I G hv S3) := Lib.hid (by rw [← hS3]; exact HV3.out)
          have HLL := Lib.hid hl3'
          have HK3 := Lib.hid hkp3
          clear hS3 hl3 hl3' HV3 hkp3 HPd
          have HV3 := HV3'
          clear HV3'
          have xh3 := HV3.out.cH
          have xa3 := HV3.out.at'.cV a han
          have la3 := HV3.out.at'.lt a
          by_cases ha0 : a = 0
          · rw [show S3.pv a = none from by rw [ha0]; exact HLL.out.lk.pv0, vp_none] at xa3
            have Ha0 := Lib.hid ha0
            clear ha0
            have HL3 := Lib.hid (HLL.out.bad (bad' := fun p => p = q) (fun p hp hb => by
              rcases hb with e | e
              · exact .inr (.inl (by rw [e, Ha0.out]; exact HLL.out.lk.pv0))
              · exact .inl e))
            go_upto_region 55 with fail
            clear xh3 xa3 la3
            have hLq' := HL3.out.lk.l0
            clear hLq'
            have xc3 := HV3.out.at'.cA c hcn
            rw [HA3.out] at xc3
            have lc3 := HV3.out.at'.lt c
            have lq3 := HV3.out.at'.lt q
            have la3 := HV3.out.at'.lt a
            have lh3 := HV3.out.lh
            have xh3 := HV3.out.cH
            by_cases hqe : q = n - 1
            · have xn3 := HV3.out.at'.cN q hqn
              rw [show S3.nx q = none from by rw [hqe]; exact HL3.out.lk.nxn, vp_none] at xn3
              have Hqe := Lib.hid hqe
              clear hqe
              go_wp2_with fail
              go_roundw
              case rel =>
                refine ⟨r + 1, _, _, _, by go_num, by omega, by omega, HV3.out, HL3.out.bad (fun p hp hb => ?_), HK3.out⟩
                subst hb
                exact .inr (.inr (by rw [Hqe.out]; exact HL3.out.lk.nxn))
              case measure => simp [intOf]; omega
            · obtain ⟨d, hd, hqd, hdn, hLd, _, _⟩ := HL3.out.lk.nxt q (by omega) (HLq.out)
              have xn3 := HV3.out.at'.cN q hqn
              rw [hd, vp_some] at xn3
              have p1 := HV3.out.at'.cP a han
              have p2 := HV3.out.at'.cP q hqn
              have p3 := HV3.out.at'.cP d hdn
              rw [HL3.out.pp _ han] at p1
              rw [HL3.out.pp _ hqn] at p2
              rw [HL3.out.pp _ hdn] at p3
              have ld3 := HV3.out.at'.lt d
              have hnn := Hn.out
              obtain ⟨o, vt, t0', t1⟩ := HT.out.t a q d (by omega) (by omega) (by omega)
              have HTri := Lib.hid (fun W' (hk' : Kp w W') => tri_cn b cap ps n hnn hn a q d (by omega) (by omega) (by omega) W' (Nat.lt_of_lt_of_le hb hk'.size) (Hs.out.kp hb hk') o)
              generalize triF (ps[a]'(by omega)) (ps[q]'(by omega)) (ps[d]'(by omega)) = x at HTri vt
              obtain ⟨mv, mv0, mv1⟩ := AV.max (.inr ⟨vt, t0', t1⟩) HAc.out t1 kc1
              obtain ⟨j, hj, hHj⟩ := (HL3.out.me q).2 HLq.out
              have HU := Lib.hid (fun W' (hv' : VisH W' n L I G hv S3) => update_c n L I G hv S3 q (maxF x (S.A c)) key (max (tri a q d) (key c)) hn j hj hHj mv W' hv' HL3.out.hi)
              have MV := Lib.hid (And.intro mv0 mv1)
              have Hd := Lib.hid hd
              clear o vt t0' t1 mv mv0 mv1 hnn hd hj hHj hLd
              go_wp2_with fail
              first | (with_reducible refine wp_region_ext_lit2 ?_ ?_ ?_) | refine wp_region_ext_lit ?_ ?_ ?_
              kernel_rfl
              kernel_rfl
              repeat (go_big_quiet_step ((go_at_call 66; with_reducible exact Ret.quiet (HTri.out _ (HK3.out.ext _)))))
              refine wpQuiet_nil ?_
              rintro _ ⟨u, rfl⟩
              go_wp2_with (first | (go_at_call 68; (first | (with_reducible refine (Ret.at_ext (max_c _ _ _)).mono ?_) | (with_reducible refine (max_c _ _ _).mono ?_)); rintro e w' ⟨rfl, u, rfl⟩) | (go_at_call 69; (with_reducible refine (HU.out _ (HV3.out.kp ((Kp.refl _).ext _))).mono ?_); rintro e w7 ⟨rfl, H7, X7, hp7⟩; have HP7 := Lib.hid hp7; clear hp7))
              go_roundw
              case rel =>
                have hu := HL3.out.upd HLq.out H3p.out Hd.out MV.out.1 MV.out.2 (by omega) HP7.out.inv HP7.out.same
                refine ⟨r + 1, _, _, _, by go_num, by omega, by omega, HP7.out.at', hu.bad (fun p hp hb => absurd hb.2 (fun e => hb.1 e)), ?_⟩
                obtain ⟨g0, g1, g2, g3⟩ := HO.out
                exact HP7.out.kx.kp (HK3.out.ext _) (by simp; omega)
              case measure => simp [intOf]; omega

          · obtain ⟨a', ha', haa, _⟩ := HLL.out.lk.prv a (by omega) HLa.out
            rw [ha', vp_some] at xa3
            have p1 := HV3.out.at'.cP a' (by omega)
            have p2 := HV3.out.at'.cP a han
            have p3 := HV3.out.at'.cP q hqn
            rw [HLL.out.pp _ (by omega)] at p1
            rw [HLL.out.pp _ han] at p2
            rw [HLL.out.pp _ hqn] at p3
            have la4 := HV3.out.at'.lt a'
            have lq4 := HV3.out.at'.lt q
            have lc4 := HV3.out.at'.lt c
            have lh4 := HV3.out.lh
            have xc3 := HV3.out.at'.cA c hcn
            rw [HA3.out] at xc3
            have hnn := Hn.out
            obtain ⟨o, vt, t0', t1⟩ := HT.out.t a' a q (by omega) (by omega) (by omega)
            have HTri := Lib.hid (fun W' (hk' : Kp w W') => tri_cn b cap ps n hnn hn a' a q (by omega) (by omega) (by omega) W' (Nat.lt_of_lt_of_le hb hk'.size) (Hs.out.kp hb hk') o)
            generalize triF (ps[a']'(by omega)) (ps[a]'(by omega)) (ps[q]'(by omega)) = x at HTri vt
            obtain ⟨mv, mv0, mv1⟩ := AV.max (.inr ⟨vt, t0', t1⟩) HAc.out t1 kc1
            obtain ⟨j, hj, hHj⟩ := (HLL.out.me a).2 HLa.out
            have HU := Lib.hid (fun W' (hv' : VisH W' n L I G hv S3) => update_c n L I G hv S3 a (maxF x (S.A c)) key (max (tri a' a q) (key c)) hn j hj hHj mv W' hv' HLL.out.hi)
            have MV := Lib.hid (And.intro mv0 mv1)
            have Ha' := Lib.hid ha'
            clear o vt t0' t1 mv mv0 mv1 hnn ha' hj hHj
            go_wp2_with fail
            first | (with_reducible refine wp_region_ext_lit2 ?_ ?_ ?_) | refine wp_region_ext_lit ?_ ?_ ?_
            kernel_rfl
            kernel_rfl
            repeat (go_big_quiet_step ((go_at_call 66; with_reducible exact Ret.quiet (HTri.out _ (HK3.out.ext _)))))
            refine wpQuiet_nil ?_
            rintro _ ⟨u, rfl⟩
            go_upto_region 55 with (first | (go_at_call 68; (first | (with_reducible refine (Ret.at_ext (max_c _ _ _)).mono ?_) | (with_reducible refine (max_c _ _ _).mono ?_)); rintro e w' ⟨rfl, u, rfl⟩) | (go_at_call 69; (with_reducible refine (HU.out _ (HV3.out.kp ((Kp.refl _).ext _))).mono ?_); rintro e w6 ⟨rfl, H6, X6, hp6⟩; have HP6 := Lib.hid hp6; clear hp6))
            have hu := HLL.out.upd HLa.out Ha'.out H3n.out MV.out.1 MV.out.2 (by omega) HP6.out.inv HP6.out.same
            have HL4 := Lib.hid (hu.bad (bad' := fun p => p = q) (fun p hp hb => .inl (by
              rcases hb.2 with e | e
              · exact absurd e hb.1
              · exact e)))
            have hkp6 : Kp w w6 := by
              obtain ⟨g0, g1, g2, g3⟩ := HO.out
              exact HP6.out.kx.kp (HK3.out.ext _) (by simp; omega)
            have HK4 := Lib.hid hkp6
            have HV4 := Lib.hid HP6.out.at'
            obtain ⟨S4, hS4⟩ : ∃ S4 : VSt, { S3 with A := upd S3.A a (maxF x (S.A c)), H := H6, X := X6 } = S4 := ⟨_, rfl⟩
            have H4p : Hid (S4.pv q = some a) := Lib.hid (by rw [← hS4]; exact H3p.out)
            have HA4 : Hid (S4.A c = S.A c) := Lib.hid (by rw [← hS4]; show upd S3.A a _ c = _; rw [upd_other _ _ (by omega)]; exact HA3.out)
            rw [hS4] at HL4 HV4
            obtain ⟨key4, hk4⟩ : ∃ key4, upd key a (max (tri a' a q) (key c)) = key4 := ⟨_, rfl⟩
            rw [hk4] at HL4
            clear hS4 hk4 hu hkp6 HP6 HU MV HTri xh3 xa3 la3 p1 p2 p3 la4 lq4 lc4 lh4 xc3 HK3 HV3 HLL H3p H3n HA3
            have hLq' := HL4.out.lk.l0
            clear hLq'
            have xc4 := HV4.out.at'.cA c hcn
            rw [HA4.out] at xc4
            have lc4 := HV4.out.at'.lt c
            have lq4 := HV4.out.at'.lt q
            have la4 := HV4.out.at'.lt a
            have lh4 := HV4.out.lh
            have xh4 := HV4.out.cH
            by_cases hqe : q = n - 1
            · have xn4 := HV4.out.at'.cN q hqn
              rw [show S4.nx q = none from by rw [hqe]; exact HL4.out.lk.nxn, vp_none] at xn4
              have Hqe := Lib.hid hqe
              clear hqe
              go_wp2_with fail
              go_roundw
              case rel =>
                refine ⟨r + 1, _, _, _, by go_num, by omega, by omega, HV4.out, HL4.out.bad (fun p hp hb => ?_), HK4.out⟩
                subst hb
                exact .inr (.inr (by rw [Hqe.out]; exact HL4.out.lk.nxn))
              case measure => simp [intOf]; omega
            · obtain ⟨d, hd, hqd, hdn, hLd, _, _⟩ := HL4.out.lk.nxt q (by omega) (HLq.out)
              have xn4 := HV4.out.at'.cN q hqn
              rw [hd, vp_some] at xn4
              have p1 := HV4.out.at'.cP a han
              have p2 := HV4.out.at'.cP q hqn
              have p3 := HV4.out.at'.cP d hdn
              rw [HL4.out.pp _ han] at p1
              rw [HL4.out.pp _ hqn] at p2
              rw [HL4.out.pp _ hdn] at p3
              have ld4 := HV4.out.at'.lt d
              have hnn := Hn.out
              obtain ⟨o, vt, t0', t1⟩ := HT.out.t a q d (by omega) (by omega) (by omega)
              have HTri := Lib.hid (fun W' (hk' : Kp w W') => tri_cn b cap ps n hnn hn a q d (by omega) (by omega) (by omega) W' (Nat.lt_of_lt_of_le hb hk'.size) (Hs.out.kp hb hk') o)
              generalize triF (ps[a]'(by omega)) (ps[q]'(by omega)) (ps[d]'(by omega)) = x at HTri vt
              obtain ⟨mv, mv0, mv1⟩ := AV.max (.inr ⟨vt, t0', t1⟩) HAc.out t1 kc1
              obtain ⟨j, hj, hHj⟩ := (HL4.out.me q).2 HLq.out
              have HU := Lib.hid (fun W' (hv' : VisH W' n L I G hv S4) => update_c n L I G hv S4 q (maxF x (S.A c)) key4 (max (tri a q d) (key c)) hn j hj hHj mv W' hv' HL4.out.hi)
              have MV := Lib.hid (And.intro mv0 mv1)
              have Hd := Lib.hid hd
              clear o vt t0' t1 mv mv0 mv1 hnn hd hj hHj hLd
              go_wp2_with fail
              first | (with_reducible refine wp_region_ext_lit2 ?_ ?_ ?_) | refine wp_region_ext_lit ?_ ?_ ?_
              kernel_rfl
              kernel_rfl
              repeat (go_big_quiet_step ((go_at_call 66; with_reducible exact Ret.quiet (HTri.out _ (HK4.out.ext _)))))
              refine wpQuiet_nil ?_
              rintro _ ⟨u, rfl⟩
              go_wp2_with (first | (go_at_call 68; (first | (with_reducible refine (Ret.at_ext (max_c _ _ _)).mono ?_) | (with_reducible refine (max_c _ _ _).mono ?_)); rintro e w' ⟨rfl, u, rfl⟩) | (go_at_call 69; (with_reducible refine (HU.out _ (HV4.out.kp ((Kp.refl _).ext _))).mono ?_); rintro e w7 ⟨rfl, H7, X7, hp7⟩; have HP7 := Lib.hid hp7; clear hp7))
              go_roundw
              case rel =>
                have hu := HL4.out.upd HLq.out H4p.out Hd.out MV.out.1 MV.out.2 (by omega) HP7.out.inv HP7.out.same
                refine ⟨r + 1, _, _, _, by go_num, by omega, by omega, HP7.out.at', hu.bad (fun p hp hb => absurd hb.2 (fun e => hb.1 e)), ?_⟩
                obtain ⟨g0, g1, g2, g3⟩ := HO.out
                exact HP7.out.kx.kp (HK4.out.ext _) (by simp; omega)
              case measure => simp [intOf]; omega

        · have hstop : ∀ H X, Rest n tri thr keep { S with m := S.m - 1, H := H, X := X } Lv := fun H X => by
            by_cases hk : thr < key c
            · exact hli.stop_key (by rw [hc]; exact hk) hkr
            · exact hli.stop_many (by omega) hkr
          have Hstop := Lib.hid hstop
          have m0 : (0 : Int) < (S.m : Int) := by omega
          have g2 : Hid (gtF (S.A c) (fop .mul t0 4611686018427387904) = false → (n : Int) - (r : Int) ≤ (keep : Int)) := Lib.hid fun hg => by
            rw [hcmp] at hg
            have := of_decide_eq_false hg
            omega
          have Hc := Lib.hid hc
          have HKp := Lib.hid hkp
          unfold Popped at HPop
          rw [hc] at HPop
          clear hstop hcont hli hvs hkp hc hLc hcmp hmin
          cases hg : gtF (S.A c) (fop .mul t0 4611686018427387904)
          · have g3 : ((n : Int) - (r : Int) ≤ (keep : Int)) = True := eq_true (g2.out hg)
            go_upto_region 61 with (go_at_call 67; (with_reducible refine (HPop.out).mono ?_); rintro e w5 ⟨rfl, H, X, hp⟩; have l7 := hp.at'.at'.lt c; have x1 := hp.at'.at'.cA c hcn; have HPd := Lib.hid hp; simp only at x1; clear hp)
            have hkp5 : Kp w w5 := by
              obtain ⟨g0, g1, g2, g3⟩ := HO.out
              exact HPd.out.kx.kp HKp.out (by simp; omega)
            have hO0 : OutRel w w5 n L I G b { S with m := S.m - 1, H := H, X := X } Lv ps 0 := ⟨HPd.out.at'.at', Below.mono hkp5 (by omega), hkp5.size, by
              show PtsAt w5 b 0 (radL ps [])
              rw [radL_nil]; exact Hs.out.kp hb hkp5, fun j => (Below.frozen (p := ⟨b, j, none⟩) hkp5 hb).trans (Hf.out j)⟩
            have HO0 := Lib.hid hO0
            have Rst := Lib.hid (Hstop.out H X)
            obtain ⟨S5, hS5⟩ : ∃ S5 : VSt, { S with m := S.m - 1, H := H, X := X } = S5 := ⟨_, rfl⟩
            rw [hS5] at HO0 Rst
            have hLv0 := Rst.out.lk.l0
            have hn0 : 0 < n := by omega
            have HLv0 := Lib.hid hLv0
            clear hO0 hkp5 hS5 Hstop HPd HKp x1 l7 HPop hg cH hLv0 lh
            go_loopw [27, 28] (fun s27 s28 wr => ∃ t : Nat, AtStage n L I Lv t s27 ∧ s28 = .int .i64 (cnt Lv t : Nat) ∧ OutRel w wr n L I G b S5 Lv ps t) (fun _ s28 _ => n + 1 - (intOf s28).toNat)
            case atStart => exact ⟨0, .inl ⟨hn0, HLv0.out, by rw [vb_0]; rfl⟩, rfl, HO0.out⟩
            case round =>
              obtain ⟨t, hst, rfl, hr⟩ := hrel
              have hlen := kept_length Lv t
              have hct := cnt_le Lv t
              rcases hst with ⟨htn, hLt, rfl⟩ | ⟨rfl, rfl⟩
              · obtain ⟨t', tt', t'n, hgap, hnx⟩ := next_stage Rst.out.lk hLt
                have hkn := kept_next hLt tt' hgap
                have hnn := Hn.out
                have hgt : (radL ps ((kept Lv t).map (ptAt ps))).length = n := by rw [radL_length _ _ (by rw [List.length_map]; omega)]; exact hnn
                have htp : t < ps.length := by omega
                have xp := hr.vis.cP t htn
                rw [Rst.out.pp t htn] at xp
                have lt' := hr.vis.lt t
                have lb' := Nat.lt_of_lt_of_le hb hr.sz
                obtain ⟨e0, e1⟩ := hr.pts t (by rw [hgt]; exact htn)
                obtain ⟨k0', k1'⟩ := hr.pts (cnt Lv t) (by rw [hgt]; omega)
                rw [radL_get _ _ t (by rw [List.length_map]; omega) (by rw [hgt]; exact htn) htp] at e0 e1
                have hset := hr.pts.set (i := cnt Lv t) (by rw [hgt]; omega) (ps[t]'htp).1 (ps[t]'htp).2
                have hrs := radL_set ps ((kept Lv t).map (ptAt ps)) (ps[t]'htp) (by rw [List.length_map]; omega)
                rw [List.length_map, hlen] at hrs
                rw [show ((ps[t]'htp).1, (ps[t]'htp).2) = ps[t]'htp from rfl, hrs] at hset
                have hpt : ptAt ps t = ps[t]'htp := getD_in _ _ htp
                have hmap : (kept Lv t').map (ptAt ps) = (kept Lv t).map (ptAt ps) ++ [ps[t]'htp] := by rw [hkn, List.map_append, ← hpt]; rfl
                rw [← hmap] at hset
                have hcn' : cnt Lv t' = cnt Lv t + 1 := by
                  have := congrArg List.length hkn
                  rw [kept_length, List.length_append, kept_length] at this
                  exact this
                obtain ⟨⟨qx, qy⟩, hq'⟩ : ∃ q, ps[t]'htp = q := ⟨_, rfl⟩
                obtain ⟨⟨ux, uy⟩, hq2⟩ : ∃ q, (radL ps ((kept Lv t).map (ptAt ps)))[cnt Lv t]'(by rw [hgt]; omega) = q := ⟨_, rfl⟩
                rw [hq'] at e0 e1 hset
                rw [hq2] at k0' k1'
                simp only [Nat.zero_add] at e0 e1 k0' k1' hset
                have v2 := (hr.vis.hset (b := b) (by have := HO.out; omega) (by have := HO.out; omega) (by have := HO.out; omega) (cnt Lv t * 2) (.float .f64 qx)).hset (b := b) (by have := HO.out; omega) (by have := HO.out; omega) (by have := HO.out; omega) (cnt Lv t * 2 + 1) (.float .f64 qy)
                have xn := v2.cN t htn
                have HV2 := Lib.hid v2
                clear v2
                have Hset := Lib.hid hset
                have Hr := Lib.hid hr
                have Hcn := Lib.hid hcn'
                have zb := hr.fz (cnt Lv t * 2)
                have zb1 := hr.fz (cnt Lv t * 2 + 1)
                have j0 : (cnt Lv t : Int) < (n : Int) := by omega
                have j1 : (t : Int) < (n : Int) := by omega
                obtain ⟨cc, hcc⟩ : ∃ cc, cnt Lv t = cc := ⟨_, rfl⟩
                have Hcc := Lib.hid hcc
                rw [hcc] at k0' k1' Hset zb zb1 j0 xn HV2 ⊢
                clear hset hr hcn' hmap hpt hrs hq' hq2 hgt hkn hgap hnn hlen hct hcc
                rcases hnx with ⟨ht1, ht2, ht3⟩ | ⟨ht1, ht3⟩
                · rw [ht3, vp_some] at xn
                  clear ht3
                  have Ht2 := Lib.hid ht2
                  clear ht2 hLt
                  go_wp2_with fail
                  go_roundw
                  case rel => exact ⟨t', .inl ⟨ht1, Ht2.out, rfl⟩, by rw [Hcn.out, Hcc.out]; go_num, HV2.out, below_set2 Hr.out.bel _ _ _ _, by simpa using Hr.out.sz, Hset.out, fun j => by simpa using Hr.out.fz j⟩
                  case measure => simp [intOf]; omega
                · rw [ht3, vp_none] at xn
                  have Ht1 := Lib.hid ht1
                  clear ht3 ht1 hLt
                  go_wp2_with fail
                  go_roundw
                  case rel => exact ⟨t', .inr ⟨Ht1.out, rfl⟩, by rw [Hcn.out, Hcc.out]; go_num, HV2.out, below_set2 Hr.out.bel _ _ _ _, by simpa using Hr.out.sz, Hset.out, fun j => by simpa using Hr.out.fz j⟩
                  case measure => simp [intOf]; omega
              · have Hr := Lib.hid hr
                have j0 : (cnt Lv t : Int) ≤ (cap : Int) := by omega
                have Hlen := Lib.hid hlen
                clear hr hlen
                go_wp2_with fail
                go_ret2
                have hp := Hr.out.pts
                unfold radL at hp
                exact ⟨Lv, Rst.out.res, _, by rw [List.length_map, Hlen.out]; rfl, Hr.out.bel, Hr.out.sz, PtsAt.prefix hp⟩
          · go_upto_region 61 with (go_at_call 67; (with_reducible refine (HPop.out).mono ?_); rintro e w5 ⟨rfl, H, X, hp⟩; have l7 := hp.at'.at'.lt c; have x1 := hp.at'.at'.cA c hcn; have HPd := Lib.hid hp; simp only at x1; clear hp)
            have hkp5 : Kp w w5 := by
              obtain ⟨g0, g1, g2, g3⟩ := HO.out
              exact HPd.out.kx.kp HKp.out (by simp; omega)
            have hO0 : OutRel w w5 n L I G b { S with m := S.m - 1, H := H, X := X } Lv ps 0 := ⟨HPd.out.at'.at', Below.mono hkp5 (by omega), hkp5.size, by
              show PtsAt w5 b 0 (radL ps [])
              rw [radL_nil]; exact Hs.out.kp hb hkp5, fun j => (Below.frozen (p := ⟨b, j, none⟩) hkp5 hb).trans (Hf.out j)⟩
            have HO0 := Lib.hid hO0
            have Rst := Lib.hid (Hstop.out H X)
            obtain ⟨S5, hS5⟩ : ∃ S5 : VSt, { S with m := S.m - 1, H := H, X := X } = S5 := ⟨_, rfl⟩
            rw [hS5] at HO0 Rst
            have hLv0 := Rst.out.lk.l0
            have hn0 : 0 < n := by omega
            have HLv0 := Lib.hid hLv0
            clear hO0 hkp5 hS5 Hstop HPd HKp x1 l7 HPop hg cH hLv0 lh
            go_loopw [27, 28] (fun s27 s28 wr => ∃ t : Nat, AtStage n L I Lv t s27 ∧ s28 = .int .i64 (cnt Lv t : Nat) ∧ OutRel w wr n L I G b S5 Lv ps t) (fun _ s28 _ => n + 1 - (intOf s28).toNat)
            case atStart => exact ⟨0, .inl ⟨hn0, HLv0.out, by rw [vb_0]; rfl⟩, rfl, HO0.out⟩
            case round =>
              obtain ⟨t, hst, rfl, hr⟩ := hrel
              have hlen := kept_length Lv t
              have hct := cnt_le Lv t
              rcases hst with ⟨htn, hLt, rfl⟩ | ⟨rfl, rfl⟩
              · obtain ⟨t', tt', t'n, hgap, hnx⟩ := next_stage Rst.out.lk hLt
                have hkn := kept_next hLt tt' hgap
                have hnn := Hn.out
                have hgt : (radL ps ((kept Lv t).map (ptAt ps))).length = n := by rw [radL_length _ _ (by rw [List.length_map]; omega)]; exact hnn
                have htp : t < ps.length := by omega
                have xp := hr.vis.cP t htn
                rw [Rst.out.pp t htn] at xp
                have lt' := hr.vis.lt t
                have lb' := Nat.lt_of_lt_of_le hb hr.sz
                obtain ⟨e0, e1⟩ := hr.pts t (by rw [hgt]; exact htn)
                obtain ⟨k0', k1'⟩ := hr.pts (cnt Lv t) (by rw [hgt]; omega)
                rw [radL_get _ _ t (by rw [List.length_map]; omega) (by rw [hgt]; exact htn) htp] at e0 e1
                have hset := hr.pts.set (i := cnt Lv t) (by rw [hgt]; omega) (ps[t]'htp).1 (ps[t]'htp).2
                have hrs := radL_set ps ((kept Lv t).map (ptAt ps)) (ps[t]'htp) (by rw [List.length_map]; omega)
                rw [List.length_map, hlen] at hrs
                rw [show ((ps[t]'htp).1, (ps[t]'htp).2) = ps[t]'htp from rfl, hrs] at hset
                have hpt : ptAt ps t = ps[t]'htp := getD_in _ _ htp
                have hmap : (kept Lv t').map (ptAt ps) = (kept Lv t).map (ptAt ps) ++ [ps[t]'htp] := by rw [hkn, List.map_append, ← hpt]; rfl
                rw [← hmap] at hset
                have hcn' : cnt Lv t' = cnt Lv t + 1 := by
                  have := congrArg List.length hkn
                  rw [kept_length, List.length_append, kept_length] at this
                  exact this
                obtain ⟨⟨qx, qy⟩, hq'⟩ : ∃ q, ps[t]'htp = q := ⟨_, rfl⟩
                obtain ⟨⟨ux, uy⟩, hq2⟩ : ∃ q, (radL ps ((kept Lv t).map (ptAt ps)))[cnt Lv t]'(by rw [hgt]; omega) = q := ⟨_, rfl⟩
                rw [hq'] at e0 e1 hset
                rw [hq2] at k0' k1'
                simp only [Nat.zero_add] at e0 e1 k0' k1' hset
                have v2 := (hr.vis.hset (b := b) (by have := HO.out; omega) (by have := HO.out; omega) (by have := HO.out; omega) (cnt Lv t * 2) (.float .f64 qx)).hset (b := b) (by have := HO.out; omega) (by have := HO.out; omega) (by have := HO.out; omega) (cnt Lv t * 2 + 1) (.float .f64 qy)
                have xn := v2.cN t htn
                have HV2 := Lib.hid v2
                clear v2
                have Hset := Lib.hid hset
                have Hr := Lib.hid hr
                have Hcn := Lib.hid hcn'
                have zb := hr.fz (cnt Lv t * 2)
                have zb1 := hr.fz (cnt Lv t * 2 + 1)
                have j0 : (cnt Lv t : Int) < (n : Int) := by omega
                have j1 : (t : Int) < (n : Int) := by omega
                obtain ⟨cc, hcc⟩ : ∃ cc, cnt Lv t = cc := ⟨_, rfl⟩
                have Hcc := Lib.hid hcc
                rw [hcc] at k0' k1' Hset zb zb1 j0 xn HV2 ⊢
                clear hset hr hcn' hmap hpt hrs hq' hq2 hgt hkn hgap hnn hlen hct hcc
                rcases hnx with ⟨ht1, ht2, ht3⟩ | ⟨ht1, ht3⟩
                · rw [ht3, vp_some] at xn
                  clear ht3
                  have Ht2 := Lib.hid ht2
                  clear ht2 hLt
                  go_wp2_with fail
                  go_roundw
                  case rel => exact ⟨t', .inl ⟨ht1, Ht2.out, rfl⟩, by rw [Hcn.out, Hcc.out]; go_num, HV2.out, below_set2 Hr.out.bel _ _ _ _, by simpa using Hr.out.sz, Hset.out, fun j => by simpa using Hr.out.fz j⟩
                  case measure => simp [intOf]; omega
                · rw [ht3, vp_none] at xn
                  have Ht1 := Lib.hid ht1
                  clear ht3 ht1 hLt
                  go_wp2_with fail
                  go_roundw
                  case rel => exact ⟨t', .inr ⟨Ht1.out, rfl⟩, by rw [Hcn.out, Hcc.out]; go_num, HV2.out, below_set2 Hr.out.bel _ _ _ _, by simpa using Hr.out.sz, Hset.out, fun j => by simpa using Hr.out.fz j⟩
                  case measure => simp [intOf]; omega
              · have Hr := Lib.hid hr
                have j0 : (cnt Lv t : Int) ≤ (cap : Int) := by omega
                have Hlen := Lib.hid hlen
                clear hr hlen
                go_wp2_with fail
                go_ret2
                have hp := Hr.out.pts
                unfold radL at hp
                exact ⟨Lv, Rst.out.res, _, by rw [List.length_map, Hlen.out]; rfl, Hr.out.bel, Hr.out.sz, PtsAt.prefix hp⟩
end Go.Proofs.Ytglopopdmkgooaa
