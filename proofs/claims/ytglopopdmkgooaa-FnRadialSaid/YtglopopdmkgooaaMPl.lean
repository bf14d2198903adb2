/-
  A heap of numbered items with keys, and the moves up and down in it; a list linked both ways out of which items are taken: plain facts.
  The items on a list, in order: plain facts.
  The rule of Douglas and Peucker over a stack of stretches: plain facts.
-/
namespace PubVis

/-- a function changed at one place -/
def upd {α : Type} (f : Nat → α) (i : Nat) (x : α) : Nat → α := fun k => if k = i then x else f k
theorem upd_same {α : Type} (f : Nat → α) (i : Nat) (x : α) : upd f i x i = x := if_pos rfl
theorem upd_other {α : Type} (f : Nat → α) {i k : Nat} (x : α) (h : k ≠ i) : upd f i x k = f k := if_neg h

/-- the place above -/
def par (i : Nat) : Nat := (i + 1) / 2 - 1
theorem par_lt {i : Nat} (h : 0 < i) : par i < i := by unfold par; omega

/-- two places changed for each other -/
def sw (v : Nat → Int) (i p : Nat) : Nat → Int := fun k => if k = i then v p else if k = p then v i else v k

/-- no key is less than the one above it -/
def Ord (v : Nat → Int) (m : Nat) : Prop := ∀ j, 0 < j → j < m → v (par j) ≤ v j
structure UpInv (v : Nat → Int) (m i : Nat) : Prop where
  a : ∀ j, 0 < j → j < m → j ≠ i → v (par j) ≤ v j
  b : ∀ j, 0 < j → j < m → par j = i → 0 < i → v (par i) ≤ v j
structure DownInv (v : Nat → Int) (m i : Nat) : Prop where
  a : ∀ j, 0 < j → j < m → par j ≠ i → v (par j) ≤ v j
  b : ∀ j, 0 < j → j < m → par j = i → 0 < i → v (par i) ≤ v j

theorem up_step {v : Nat → Int} {m i : Nat} (hi : 0 < i) (him : i < m) (h : UpInv v m i) (hlt : v i < v (par i)) : UpInv (sw v i (par i)) m (par i) := by
  have hp := par_lt hi
  refine ⟨fun j h0 hj hne => ?_, fun j h0 hj hpj hp0 => ?_⟩
  · by_cases c1 : j = i
    · subst c1
      unfold sw
      rw [if_neg (by omega), if_pos rfl, if_pos rfl]; omega
    · have ha := h.a j h0 hj c1
      have hl := par_lt h0
      by_cases c2 : par j = i
      · have hb := h.b j h0 hj c2 hi
        unfold sw
        rw [if_pos c2, if_neg c1, if_neg hne]; exact hb
      · by_cases c3 : par j = par i
        · unfold sw
          rw [if_neg c2, if_pos c3, if_neg c1, if_neg hne]
          rw [c3] at ha; omega
        · unfold sw
          rw [if_neg c2, if_neg c3, if_neg c1, if_neg hne]; exact ha
  · have hpp := par_lt hp0
    have ha := h.a (par i) hp0 (by omega) (by omega)
    by_cases c1 : j = i
    · subst c1
      unfold sw
      rw [if_neg (by omega), if_neg (by omega), if_pos rfl]; exact ha
    · have hb := h.a j h0 hj c1
      rw [hpj] at hb
      have hl := par_lt h0
      unfold sw
      rw [if_neg (by omega), if_neg (by omega), if_neg c1, if_neg (by omega)]; omega
theorem up_end {v : Nat → Int} {m i : Nat} (h : UpInv v m i) (he : i = 0 ∨ v (par i) ≤ v i) : Ord v m := fun j h0 hj => by
  by_cases c : j = i
  · subst c
    rcases he with e | e
    · omega
    · exact e
  · exact h.a j h0 hj c
theorem down_step {v : Nat → Int} {m i c : Nat} (hc0 : 0 < c) (hcm : c < m) (hpc : par c = i) (h : DownInv v m i) (hlt : v c < v i) (hmin : ∀ j, 0 < j → j < m → par j = i → v c ≤ v j) : DownInv (sw v i c) m c := by
  have hic : i < c := by rw [← hpc]; exact par_lt hc0
  refine ⟨fun j h0 hj hne => ?_, fun j h0 hj hpj _ => ?_⟩
  · have hl := par_lt h0
    by_cases c1 : par j = i
    · have hm := hmin j h0 hj c1
      unfold sw
      rw [if_pos c1, if_neg (by omega)]
      by_cases c2 : j = c
      · rw [if_pos c2]; omega
      · rw [if_neg c2]; exact hm
    · have ha := h.a j h0 hj c1
      by_cases c2 : j = i
      · subst c2
        unfold sw
        rw [if_neg c1, if_neg hne, if_pos rfl]
        exact h.b c hc0 hcm hpc h0
      · unfold sw
        rw [if_neg c1, if_neg hne, if_neg c2]
        by_cases c3 : j = c
        · subst c3; exact absurd hpc c1
        · rw [if_neg c3]; exact ha
  · have hl := par_lt h0
    have ha := h.a j h0 hj (by omega)
    rw [hpj] at ha
    unfold sw
    rw [hpc, if_pos rfl, if_neg (by omega), if_neg (by omega)]; exact ha
theorem down_end {v : Nat → Int} {m i : Nat} (h : DownInv v m i) (he : ∀ j, 0 < j → j < m → par j = i → v i ≤ v j) : Ord v m := fun j h0 hj => by
  by_cases c : par j = i
  · rw [c]; exact he j h0 hj c
  · exact h.a j h0 hj c
theorem ord_less {v : Nat → Int} {m i : Nat} (h : Ord v m) (him : i < m) (x : Int) (hx : x ≤ v i) : UpInv (upd v i x) m i := by
  refine ⟨fun j h0 hj hne => ?_, fun j h0 hj hpj hi => ?_⟩
  · have ha := h j h0 hj
    rw [upd_other _ _ hne]
    by_cases c : par j = i
    · rw [c, upd_same]; rw [c] at ha; omega
    · rw [upd_other _ _ c]; exact ha
  · have ha := h j h0 hj
    have hb := h i hi him
    have hl := par_lt h0
    have hl2 := par_lt hi
    rw [upd_other _ _ (by omega), upd_other _ _ (by omega)]
    rw [hpj] at ha; omega
theorem ord_more {v : Nat → Int} {m i : Nat} (h : Ord v m) (x : Int) (hx : v i ≤ x) : DownInv (upd v i x) m i := by
  refine ⟨fun j h0 hj hne => ?_, fun j h0 hj hpj hi => ?_⟩
  · have ha := h j h0 hj
    rw [upd_other _ _ hne]
    by_cases c : j = i
    · rw [c, upd_same]; rw [c] at ha; omega
    · rw [upd_other _ _ c]; exact ha
  · have ha := h j h0 hj
    have hl := par_lt h0
    have hl2 := par_lt hi
    rw [upd_other _ _ (by omega), upd_other _ _ (by omega)]
    rw [hpj] at ha
    by_cases c : i < m
    · have hb := h i hi c
      omega
    · omega
theorem ord_push {v : Nat → Int} {m : Nat} (h : Ord v m) (x : Int) : UpInv (upd v m x) (m + 1) m := by
  refine ⟨fun j h0 hj hne => ?_, fun j h0 hj hpj hi => ?_⟩
  · have hl := par_lt h0
    rw [upd_other _ _ hne, upd_other _ _ (by omega)]
    exact h j h0 (by omega)
  · unfold par at hpj; omega
theorem ord_pop {v : Nat → Int} {m : Nat} (h : Ord v (m + 1)) : DownInv (upd v 0 (v m)) m 0 := by
  refine ⟨fun j h0 hj hne => ?_, fun j h0 hj hpj hi => by omega⟩
  rw [upd_other _ _ hne, upd_other _ _ (by omega)]
  exact h j h0 (by omega)
theorem ord_min {v : Nat → Int} {m : Nat} (h : Ord v m) : ∀ j, j < m → v 0 ≤ v j := by
  intro j
  induction j using Nat.strongRecOn with
  | _ j ih =>
    intro hj
    by_cases c : j = 0
    · subst c; omega
    · have := ih (par j) (par_lt (by omega)) (by have := par_lt (i := j) (by omega); omega)
      have := h j (by omega) hj
      omega

/-- the items of a heap, and where each lies -/
def Hx (m : Nat) (H X : Nat → Nat) : Prop := ∀ j, j < m → X (H j) = j
def swN (H : Nat → Nat) (i p : Nat) : Nat → Nat := upd (upd H i (H p)) p (H i)
def swX (H X : Nat → Nat) (i p : Nat) : Nat → Nat := upd (upd X (H p) i) (H i) p
/-- the same items -/
def Same (m : Nat) (H H' : Nat → Nat) : Prop := ∀ x, (∃ j, j < m ∧ H' j = x) ↔ ∃ j, j < m ∧ H j = x
theorem Same.refl (m : Nat) (H : Nat → Nat) : Same m H H := fun _ => Iff.rfl
theorem Same.trans {m : Nat} {H H' H'' : Nat → Nat} (h : Same m H H') (k : Same m H' H'') : Same m H H'' := fun x => (k x).trans (h x)
theorem swN_i (H : Nat → Nat) {i p : Nat} (h : i ≠ p) : swN H i p i = H p := by unfold swN; rw [upd_other _ _ h, upd_same]
theorem swN_p (H : Nat → Nat) (i p : Nat) : swN H i p p = H i := upd_same _ _ _
theorem swN_k (H : Nat → Nat) {i p k : Nat} (h1 : k ≠ i) (h2 : k ≠ p) : swN H i p k = H k := by unfold swN; rw [upd_other _ _ h2, upd_other _ _ h1]
theorem same_sw {m : Nat} (H : Nat → Nat) {i p : Nat} (hi : i < m) (hp : p < m) (h : i ≠ p) : Same m H (swN H i p) := fun x => by
  constructor
  · rintro ⟨j, hj, rfl⟩
    by_cases c1 : j = i
    · subst c1; exact ⟨p, hp, (swN_i H h).symm⟩
    · by_cases c2 : j = p
      · subst c2; exact ⟨i, hi, (swN_p H i j).symm⟩
      · exact ⟨j, hj, (swN_k H c1 c2).symm⟩
  · rintro ⟨j, hj, rfl⟩
    by_cases c1 : j = i
    · subst c1; exact ⟨p, hp, swN_p H j p⟩
    · by_cases c2 : j = p
      · subst c2; exact ⟨i, hi, swN_i H h⟩
      · exact ⟨j, hj, swN_k H c1 c2⟩
theorem hx_sw {m : Nat} {H X : Nat → Nat} (hx : Hx m H X) {i p : Nat} (hi : i < m) (hp : p < m) (h : i ≠ p) : Hx m (swN H i p) (swX H X i p) := fun j hj => by
  have xi := hx i hi
  have xp := hx p hp
  have xj := hx j hj
  unfold swX
  by_cases c1 : j = i
  · subst c1
    rw [swN_i H h, upd_other _ _ (fun e => h (by rw [e] at xp; omega)), upd_same]
  · by_cases c2 : j = p
    · subst c2
      rw [swN_p, upd_same]
    · rw [swN_k H c1 c2, upd_other _ _ (fun e => c1 (by rw [e] at xj; omega)), upd_other _ _ (fun e => c2 (by rw [e] at xj; omega))]
      exact xj
theorem key_sw (key : Nat → Int) (H : Nat → Nat) {i p : Nat} (h : i ≠ p) : (fun j => key (swN H i p j)) = sw (fun j => key (H j)) i p := by
  funext k
  unfold sw
  by_cases c1 : k = i
  · subst c1; rw [if_pos rfl, swN_i H h]
  · rw [if_neg c1]
    by_cases c2 : k = p
    · subst c2; rw [if_pos rfl, swN_p]
    · rw [if_neg c2, swN_k H c1 c2]

/-- a list linked both ways: which items are on it -/
structure Linked (n : Nat) (L : Nat → Bool) (nx pv : Nat → Option Nat) : Prop where
  l0 : L 0 = true
  ln : L (n - 1) = true
  big : 2 ≤ n
  out : ∀ i, n ≤ i → L i = false
  nxt : ∀ i, i + 1 < n → L i = true → ∃ j, nx i = some j ∧ i < j ∧ j < n ∧ L j = true ∧ (∀ k, i < k → k < j → L k = false) ∧ pv j = some i
  prv : ∀ j, 0 < j → L j = true → ∃ i, pv j = some i ∧ i < j ∧ L i = true ∧ (∀ k, i < k → k < j → L k = false) ∧ nx i = some j
  nxn : nx (n - 1) = none
  pv0 : pv 0 = none
theorem Linked.lt {n : Nat} {L : Nat → Bool} {nx pv : Nat → Option Nat} (h : Linked n L nx pv) {i : Nat} (hi : L i = true) : i < n := by
  rcases Nat.lt_or_ge i n with c | c
  · exact c
  · rw [h.out i c] at hi; cases hi
/-- how many are on it below an item -/
def cnt (L : Nat → Bool) : Nat → Nat
  | 0 => 0
  | k + 1 => cnt L k + (if L k = true then 1 else 0)
theorem cnt_le (L : Nat → Bool) : ∀ k, cnt L k ≤ k
  | 0 => Nat.le_refl _
  | k + 1 => by
    have := cnt_le L k
    unfold cnt; split <;> omega
theorem cnt_all {L : Nat → Bool} : ∀ k, (∀ i, i < k → L i = true) → cnt L k = k
  | 0, _ => rfl
  | k + 1, h => by
    unfold cnt
    rw [cnt_all k (fun i hi => h i (by omega)), if_pos (h k (by omega))]
theorem cnt_gap {L : Nat → Bool} {a : Nat} : ∀ b, a ≤ b → (∀ k, a ≤ k → k < b → L k = false) → cnt L b = cnt L a
  | 0, h, _ => by rw [show a = 0 by omega]
  | b + 1, h, hg => by
    by_cases c : a = b + 1
    · rw [c]
    · show cnt L b + _ = _
      rw [cnt_gap b (by omega) (fun k h1 h2 => hg k h1 (by omega)), hg b (by omega) (by omega), if_neg (by simp)]; rfl
theorem cnt_pos {L : Nat → Bool} {c : Nat} (hc : L c = true) : ∀ q, c < q → 1 ≤ cnt L q
  | 0, h => by omega
  | q + 1, hq => by
    unfold cnt
    by_cases e2 : q = c
    · subst e2; rw [if_pos hc]; omega
    · have := cnt_pos hc q (by omega); omega
theorem cnt_off_lo {L : Nat → Bool} {c : Nat} : ∀ k, k ≤ c → cnt (upd L c false) k = cnt L k
  | 0, _ => rfl
  | k + 1, h => by
    unfold cnt
    rw [cnt_off_lo k (by omega), upd_other _ _ (by omega)]
theorem cnt_off {L : Nat → Bool} {c : Nat} (hc : L c = true) : ∀ k, c < k → cnt (upd L c false) k + 1 = cnt L k
  | 0, h => by omega
  | k + 1, h => by
    unfold cnt
    by_cases e : k = c
    · subst e
      rw [upd_same, cnt_off_lo _ (Nat.le_refl _), if_pos hc]; simp
    · have ih := cnt_off hc k (by omega)
      rw [upd_other _ _ e]
      omega
theorem cnt_pos_of {L : Nat → Bool} {n : Nat} (h : ∀ i, 0 < i → i + 1 < n → L i = false) : ∀ k, k ≤ n → cnt L k ≤ 2
  | 0, _ => by simp [cnt]
  | 1, _ => by have := cnt_le L 1; omega
  | k + 2, hk => by
    by_cases c : k + 2 = n
    · have : cnt L (k + 1) = cnt L 1 := cnt_gap (k + 1) (by omega) (fun i h1 h2 => h i (by omega) (by omega))
      have := cnt_le L 1
      unfold cnt; split <;> omega
    · have : cnt L (k + 2) = cnt L 1 := cnt_gap (k + 2) (by omega) (fun i h1 h2 => h i (by omega) (by omega))
      have := cnt_le L 1
      omega
/-- an item inside, if there are more than two -/
theorem inside_of {L : Nat → Bool} {n : Nat} (h : 2 < cnt L n) : ∃ i, 0 < i ∧ i + 1 < n ∧ L i = true := by
  by_cases c : ∃ i, 0 < i ∧ i + 1 < n ∧ L i = true
  · exact c
  · exfalso
    have := cnt_pos_of (L := L) (n := n) (fun i h0 h1 => by
      cases e : L i
      · rfl
      · exact absurd ⟨i, h0, h1, e⟩ c) n (Nat.le_refl _)
    omega
/-- an item taken out -/
theorem Linked.take {n : Nat} {L : Nat → Bool} {nx pv : Nat → Option Nat} (h : Linked n L nx pv) {c a b : Nat} (hc : L c = true) (hn : nx c = some b) (hp : pv c = some a) :
    Linked n (upd L c false) (upd nx a (some b)) (upd pv b (some a)) ∧ L a = true ∧ L b = true ∧ a < c ∧ c < b ∧ b < n := by
  have hcn := h.lt hc
  have c0 : 0 < c := by
    rcases Nat.eq_zero_or_pos c with e | e
    · subst e; rw [h.pv0] at hp; cases hp
    · exact e
  have cn : c + 1 < n := by
    by_cases e : c = n - 1
    · subst e; rw [h.nxn] at hn; cases hn
    · omega
  obtain ⟨b', hb', hcb, hbn, hLb, hgb, hpb⟩ := h.nxt c cn hc
  obtain ⟨a', ha', hac, hLa, hga, hna⟩ := h.prv c c0 hc
  rw [hn] at hb'; cases hb'
  rw [hp] at ha'; cases ha'
  refine ⟨⟨?_, ?_, h.big, ?_, ?_, ?_, ?_, ?_⟩, hLa, hLb, hac, hcb, hbn⟩
  · rw [upd_other _ _ (by omega)]; exact h.l0
  · rw [upd_other _ _ (by omega)]; exact h.ln
  · intro i hi; rw [upd_other _ _ (by omega)]; exact h.out i hi
  · intro i hi hL
    have hic : i ≠ c := fun e => by subst e; rw [upd_same] at hL; cases hL
    rw [upd_other _ _ hic] at hL
    by_cases e : i = a
    · subst e
      refine ⟨b, upd_same _ _ _, by omega, hbn, by rw [upd_other _ _ (by omega)]; exact hLb, fun k h1 h2 => ?_, upd_same _ _ _⟩
      by_cases k1 : k = c
      · subst k1; exact upd_same _ _ _
      · rw [upd_other _ _ k1]
        by_cases k2 : k < c
        · exact hga k h1 k2
        · exact hgb k (by omega) h2
    · obtain ⟨j, h1, h2, h3, h4, h5, h6⟩ := h.nxt i hi hL
      have hjc : j ≠ c := fun e' => by
        subst e'; rw [hp] at h6; cases h6; exact e rfl
      have hjb : j ≠ b := fun e' => by
        subst e'; rw [hpb] at h6; cases h6; exact hic rfl
      refine ⟨j, by rw [upd_other _ _ e]; exact h1, h2, h3, by rw [upd_other _ _ hjc]; exact h4, fun k k1 k2 => ?_, by rw [upd_other _ _ hjb]; exact h6⟩
      by_cases k3 : k = c
      · subst k3; exact upd_same _ _ _
      · rw [upd_other _ _ k3]; exact h5 k k1 k2
  · intro j hj hL
    have hjc : j ≠ c := fun e => by subst e; rw [upd_same] at hL; cases hL
    rw [upd_other _ _ hjc] at hL
    by_cases e : j = b
    · subst e
      refine ⟨a, upd_same _ _ _, by omega, by rw [upd_other _ _ (by omega)]; exact hLa, fun k h1 h2 => ?_, upd_same _ _ _⟩
      by_cases k1 : k = c
      · subst k1; exact upd_same _ _ _
      · rw [upd_other _ _ k1]
        by_cases k2 : k < c
        · exact hga k h1 k2
        · exact hgb k (by omega) h2
    · obtain ⟨i, h1, h2, h3, h4, h5⟩ := h.prv j hj hL
      have hic : i ≠ c := fun e' => by
        subst e'; rw [hn] at h5; cases h5; exact e rfl
      have hia : i ≠ a := fun e' => by
        subst e'; rw [hna] at h5; cases h5; exact hjc rfl
      refine ⟨i, by rw [upd_other _ _ e]; exact h1, h2, by rw [upd_other _ _ hic]; exact h3, fun k k1 k2 => ?_, by rw [upd_other _ _ hia]; exact h5⟩
      by_cases k3 : k = c
      · subst k3; exact upd_same _ _ _
      · rw [upd_other _ _ k3]; exact h4 k k1 k2
  · rw [upd_other _ _ (by omega)]; exact h.nxn
  · rw [upd_other _ _ (by omega)]; exact h.pv0

/-- those on it below an item, in order -/
def kept (L : Nat → Bool) : Nat → List Nat
  | 0 => []
  | k + 1 => if L k = true then kept L k ++ [k] else kept L k
theorem kept_length (L : Nat → Bool) : ∀ k, (kept L k).length = cnt L k
  | 0 => rfl
  | k + 1 => by
    unfold kept cnt
    split
    · rw [List.length_append, kept_length L k]; rfl
    · rw [kept_length L k]; rfl
theorem kept_gap {L : Nat → Bool} {a : Nat} : ∀ b, a ≤ b → (∀ k, a ≤ k → k < b → L k = false) → kept L b = kept L a
  | 0, h, _ => by rw [show a = 0 by omega]
  | b + 1, h, hg => by
    by_cases c : a = b + 1
    · rw [c]
    · show (if L b = true then kept L b ++ [b] else kept L b) = _
      rw [hg b (by omega) (by omega), if_neg (by simp)]
      exact kept_gap b (by omega) (fun k h1 h2 => hg k h1 (by omega))
theorem kept_lt {L : Nat → Bool} : ∀ k, ∀ x ∈ kept L k, x < k ∧ L x = true
  | 0, x, h => by cases h
  | k + 1, x, h => by
    unfold kept at h
    split at h
    · rename_i hL
      rcases List.mem_append.1 h with h | h
      · have := kept_lt k x h; exact ⟨by omega, this.2⟩
      · have : x = k := by simpa using h
        subst this; exact ⟨by omega, hL⟩
    · have := kept_lt k x h; exact ⟨by omega, this.2⟩
theorem kept_mem {L : Nat → Bool} : ∀ k x, x < k → L x = true → x ∈ kept L k
  | 0, _, h, _ => by omega
  | k + 1, x, h, hL => by
    unfold kept
    by_cases c : x = k
    · subst c; rw [if_pos hL]; simp
    · have := kept_mem k x (by omega) hL
      split
      · exact List.mem_append_left _ this
      · exact this
theorem kept_sorted {L : Nat → Bool} : ∀ k, (kept L k).Pairwise (· < ·)
  | 0 => List.Pairwise.nil
  | k + 1 => by
    unfold kept
    split
    · refine List.pairwise_append.2 ⟨kept_sorted k, by simp, fun a ha b hb => ?_⟩
      have hb : b = k := by simpa using hb
      subst hb
      exact (kept_lt _ a ha).1
    · exact kept_sorted k
end PubVis

namespace PubVis

theorem kept_pre {L : Nat → Bool} {t : Nat} : ∀ n, t ≤ n → ∃ r, kept L n = kept L t ++ r
  | 0, h => ⟨[], by rw [show t = 0 by omega]; rfl⟩
  | n + 1, h => by
    by_cases c : t = n + 1
    · subst c; exact ⟨[], by simp⟩
    · obtain ⟨r, hr⟩ := kept_pre (L := L) (t := t) n (by omega)
      show ∃ r, (if L n = true then kept L n ++ [n] else kept L n) = _
      split
      · exact ⟨r ++ [n], by rw [hr, List.append_assoc]⟩
      · exact ⟨r, hr⟩
theorem kept_all {L : Nat → Bool} {t n : Nat} (h : t ≤ n) (hc : cnt L t = cnt L n) : kept L t = kept L n := by
  obtain ⟨r, hr⟩ := kept_pre (L := L) n h
  have hl := congrArg List.length hr
  rw [List.length_append, kept_length, kept_length] at hl
  have : r = [] := List.length_eq_zero_iff.1 (by omega)
  rw [hr, this, List.append_nil]
theorem cnt_mono {L : Nat → Bool} {t : Nat} : ∀ n, t ≤ n → cnt L t ≤ cnt L n
  | 0, h => by rw [show t = 0 by omega]; exact Nat.le_refl _
  | n + 1, h => by
    by_cases c : t = n + 1
    · subst c; exact Nat.le_refl _
    · have := cnt_mono (L := L) (t := t) n (by omega)
      show _ ≤ cnt L n + _
      omega
theorem kept_nth {L : Nat → Bool} {t : Nat} : ∀ n, t ≤ n → cnt L t < cnt L n → ∃ i, t ≤ i ∧ i < n ∧ L i = true ∧ (∀ k, t ≤ k → k < i → L k = false) ∧ (kept L n)[cnt L t]? = some i
  | 0, h, hc => by rw [show t = 0 by omega] at hc; omega
  | n + 1, h, hc => by
    by_cases c : t = n + 1
    · subst c; omega
    · by_cases c2 : cnt L t < cnt L n
      · obtain ⟨i, h1, h2, h3, h4, h5⟩ := kept_nth (L := L) (t := t) n (by omega) c2
        refine ⟨i, h1, by omega, h3, h4, ?_⟩
        show (if L n = true then kept L n ++ [n] else kept L n)[cnt L t]? = _
        split
        · rw [List.getElem?_append_left (by rw [kept_length]; exact c2)]; exact h5
        · exact h5
      · have hm := cnt_mono (L := L) (t := t) n (by omega)
        have hL : L n = true := by
          cases g : L n
          · have : cnt L (n + 1) = cnt L n + (if L n = true then 1 else 0) := rfl
            rw [g] at this
            simp at this
            omega
          · rfl
        have hno : ∀ k, t ≤ k → k < n → L k = false := fun k h1 h2 => by
          cases g : L k
          · rfl
          · have a1 := cnt_mono (L := L) (t := t) k h1
            have a2 := cnt_mono (L := L) (t := k + 1) n (by omega)
            have a3 : cnt L (k + 1) = cnt L k + (if L k = true then 1 else 0) := rfl
            rw [g] at a3
            simp at a3
            omega
        refine ⟨n, by omega, by omega, hL, hno, ?_⟩
        show (if L n = true then kept L n ++ [n] else kept L n)[cnt L t]? = _
        rw [if_pos hL, List.getElem?_append_right (by rw [kept_length]; omega), kept_length, show cnt L t - cnt L n = 0 by omega]
        rfl
theorem kept_upto {L : Nat → Bool} {t i : Nat} (h : t ≤ i) (hL : L i = true) (hg : ∀ k, t ≤ k → k < i → L k = false) : kept L (i + 1) = kept L t ++ [i] ∧ cnt L (i + 1) = cnt L t + 1 := by
  have h1 : kept L (i + 1) = kept L t ++ [i] := by
    show (if L i = true then kept L i ++ [i] else kept L i) = _
    rw [if_pos hL, kept_gap i h hg]
  exact ⟨h1, by rw [← kept_length, h1, List.length_append, kept_length]; rfl⟩
theorem kept_last {L : Nat → Bool} {n : Nat} (h : 1 ≤ n) (hL : L (n - 1) = true) : (kept L n)[cnt L n - 1]? = some (n - 1) := by
  obtain ⟨m, rfl⟩ : ∃ m, n = m + 1 := ⟨n - 1, by omega⟩
  rw [Nat.add_sub_cancel] at hL ⊢
  obtain ⟨h1, h2⟩ := kept_upto (Nat.le_refl m) hL (fun k a b => by omega)
  rw [h2, h1, Nat.add_sub_cancel, List.getElem?_append_right (by rw [kept_length]; omega), kept_length, Nat.sub_self]
  rfl
theorem kept_first {L : Nat → Bool} {n : Nat} (h : 1 ≤ n) (hL : L 0 = true) : (kept L n)[0]? = some 0 := by
  obtain ⟨r, hr⟩ := kept_pre (L := L) n h
  have : kept L 1 = [0] := by
    show (if L 0 = true then kept L 0 ++ [0] else kept L 0) = _
    rw [if_pos hL]; rfl
  rw [hr, this]; rfl
theorem cnt_two_le {L : Nat → Bool} {n : Nat} (h : 2 ≤ n) (h0 : L 0 = true) (hn : L (n - 1) = true) : 2 ≤ cnt L n := by
  obtain ⟨m, rfl⟩ : ∃ m, n = m + 2 := ⟨n - 2, by omega⟩
  have a := cnt_pos h0 (m + 1) (by omega)
  have a3 : cnt L (m + 2) = cnt L (m + 1) + (if L (m + 1) = true then 1 else 0) := rfl
  rw [show m + 2 - 1 = m + 1 by omega] at hn
  rw [if_pos hn] at a3
  omega
theorem kept_step {L : Nat → Bool} {n j a b : Nat} (ha : (kept L n)[j]? = some a) (hb : (kept L n)[j + 1]? = some b) : a < b ∧ b < n ∧ L a = true ∧ L b = true ∧ ∀ k, a < k → k < b → L k = false := by
  obtain ⟨hj, rfl⟩ := List.getElem?_eq_some_iff.1 ha
  obtain ⟨hj1, rfl⟩ := List.getElem?_eq_some_iff.1 hb
  have hs := kept_sorted (L := L) n
  have hs' := List.pairwise_iff_getElem.1 hs
  have m1 := kept_lt n _ (List.getElem_mem hj)
  have m2 := kept_lt n _ (List.getElem_mem hj1)
  refine ⟨hs' j (j + 1) hj hj1 (by omega), m2.1, m1.2, m2.2, fun k h1 h2 => ?_⟩
  cases g : L k
  · rfl
  · exfalso
    have hk := kept_mem (L := L) n k (by omega) g
    obtain ⟨q, hq, e⟩ := List.getElem_of_mem hk
    rw [← e] at h1 h2
    have q1 : j < q := by
      rcases Nat.lt_or_ge j q with c | c
      · exact c
      · rcases Nat.lt_or_ge q j with c2 | c2
        · have := hs' q j hq hj c2; omega
        · have : q = j := by omega
          subst this; omega
    have q2 : q < j + 1 := by
      rcases Nat.lt_or_ge q (j + 1) with c | c
      · exact c
      · rcases Nat.lt_or_ge (j + 1) q with c2 | c2
        · have := hs' (j + 1) q hj1 hq c2; omega
        · have : q = j + 1 := by omega
          subst this; omega
    omega
/-- an item between two others lies between neighbours -/
theorem kept_mid {L : Nat → Bool} {n : Nat} (h3 : 3 ≤ cnt L n) : ∃ a q c, L a = true ∧ L q = true ∧ L c = true ∧ a < q ∧ q < c ∧ c < n ∧ (∀ k, a < k → k < q → L k = false) ∧ (∀ k, q < k → k < c → L k = false) := by
  have hl := kept_length L n
  obtain ⟨a, ha⟩ : ∃ a, (kept L n)[0]? = some a := ⟨_, List.getElem?_eq_getElem (by omega)⟩
  obtain ⟨q, hq⟩ : ∃ q, (kept L n)[1]? = some q := ⟨_, List.getElem?_eq_getElem (by omega)⟩
  obtain ⟨c, hc⟩ : ∃ c, (kept L n)[2]? = some c := ⟨_, List.getElem?_eq_getElem (by omega)⟩
  obtain ⟨a1, a2, a3, a4, a5⟩ := kept_step ha hq
  obtain ⟨b1, b2, b3, b4, b5⟩ := kept_step hq hc
  exact ⟨a, q, c, a3, b3, b4, a1, b1, b2, a5, b5⟩
end PubVis

namespace PubVis

/-- the stretches on a stack, its top first: they lie side by side, up to e -/
def Tiles : Nat → List (Nat × Nat) → Prop
  | e, [] => e = 0
  | e, (s, e') :: st => e' = e ∧ s < e ∧ Tiles s st
theorem Tiles.le : ∀ {st : List (Nat × Nat)} {e : Nat}, Tiles e st → ∀ p ∈ st, p.1 < p.2 ∧ p.2 ≤ e
  | [], _, _, p, hp => by cases hp
  | (s, e') :: st, e, ⟨h1, h2, h3⟩, p, hp => by
    rcases List.mem_cons.1 hp with rfl | hp
    · exact ⟨by simp only; omega, by simp only; omega⟩
    · have := h3.le p hp; exact ⟨this.1, by omega⟩
theorem Tiles.len : ∀ {st : List (Nat × Nat)} {e : Nat}, Tiles e st → st.length ≤ e
  | [], _, _ => Nat.zero_le _
  | (s, e') :: st, e, ⟨h1, h2, h3⟩ => by
    have := h3.len
    rw [List.length_cons]; omega
/-- so many points are kept, and what is between two of them, and not on the stack, is near -/
structure DpInv (n : Nat) (near : Nat → Nat → Nat → Prop) (K : Nat → Bool) (st : List (Nat × Nat)) (e : Nat) : Prop where
  tiles : Tiles e st
  en : e < n
  k0 : K 0 = true
  kn : K (n - 1) = true
  ke : K e = true
  why : ∀ m, K m = true → m = 0 ∨ m = n - 1 ∨ ∃ s e, s < m ∧ m < e ∧ e < n ∧ ¬ near s e m
  on : ∀ p ∈ st, K p.1 = true ∧ ∀ k, p.1 < k → k < p.2 → K k = false
  far : ∀ a b, e ≤ a → a < b → b < n → K a = true → K b = true → (∀ k, a < k → k < b → K k = false) → ∀ k, a < k → k < b → near a b k
/-- what the rule keeps -/
structure DpRes (n : Nat) (near : Nat → Nat → Nat → Prop) (K : Nat → Bool) : Prop where
  k0 : K 0 = true
  kn : K (n - 1) = true
  why : ∀ m, K m = true → m = 0 ∨ m = n - 1 ∨ ∃ s e, s < m ∧ m < e ∧ e < n ∧ ¬ near s e m
  near : ∀ a b, a < b → b < n → K a = true → K b = true → (∀ k, a < k → k < b → K k = false) → ∀ k, a < k → k < b → near a b k
variable {n : Nat} {near : Nat → Nat → Nat → Prop} {K : Nat → Bool} {st : List (Nat × Nat)} {e s : Nat}
theorem DpInv.done (h : DpInv n near K [] e) : DpRes n near K := by
  have he : e = 0 := h.tiles
  exact ⟨h.k0, h.kn, h.why, fun a b hab hb ka kb hg => h.far a b (by omega) hab hb ka kb hg⟩
theorem DpInv.start (h : 2 ≤ n) : DpInv n near (fun q => decide (q = 0 ∨ q = n - 1)) [(0, n - 1)] (n - 1) :=
  ⟨⟨rfl, by omega, rfl⟩, by omega, by simp, by simp, by simp, fun m hm => by have := of_decide_eq_true hm; omega, fun p hp => by
    have : p = (0, n - 1) := by simpa using hp
    subst this
    exact ⟨by simp, fun k h1 h2 => decide_eq_false (by simp only at h1 h2; omega)⟩, fun a b h1 h2 h3 _ _ _ _ _ _ => by omega⟩
theorem DpInv.split (h : DpInv n near K ((s, e) :: st) e) {m : Nat} (h1 : s < m) (h2 : m < e) (hfar : ¬ near s e m) : DpInv n near (upd K m true) ((m, e) :: (s, m) :: st) e := by
  obtain ⟨_, hse, ht⟩ := h.tiles
  have hup : ∀ k, K k = true → upd K m true k = true := fun k hk => by
    by_cases c : k = m
    · subst c; exact upd_same _ _ _
    · rw [upd_other _ _ c]; exact hk
  have hen := h.en
  obtain ⟨os1, os2⟩ := h.on (s, e) (List.mem_cons_self ..)
  refine ⟨⟨rfl, h2, rfl, h1, ht⟩, hen, hup _ h.k0, hup _ h.kn, hup _ h.ke, fun q hq => ?_, fun p hp => ?_, fun a b ha hab hb ka kb hg => ?_⟩
  · by_cases c : q = m
    · subst c; exact .inr (.inr ⟨s, e, h1, h2, hen, hfar⟩)
    · rw [upd_other _ _ c] at hq; exact h.why q hq
  · rcases List.mem_cons.1 hp with rfl | hp
    · exact ⟨upd_same _ _ _, fun k g1 g2 => by
        simp only at g1 g2
        rw [upd_other _ _ (by omega)]; exact os2 k (by simp only; omega) (by simp only; omega)⟩
    · rcases List.mem_cons.1 hp with rfl | hp
      · exact ⟨hup _ os1, fun k g1 g2 => by
          simp only at g1 g2
          rw [upd_other _ _ (by omega)]; exact os2 k (by simp only; omega) (by simp only; omega)⟩
      · obtain ⟨o1, o2⟩ := h.on p (List.mem_cons_of_mem _ hp)
        have := ht.le p hp
        exact ⟨hup _ o1, fun k g1 g2 => by rw [upd_other _ _ (by omega)]; exact o2 k g1 g2⟩
  · have e1 : ∀ k, e ≤ k → upd K m true k = K k := fun k hk => upd_other _ _ (by omega)
    rw [e1 a ha] at ka
    rw [e1 b (by omega)] at kb
    exact h.far a b ha hab hb ka kb fun k g1 g2 => by rw [← e1 k (by omega)]; exact hg k g1 g2
theorem DpInv.pop (h : DpInv n near K ((s, e) :: st) e) (hn : ∀ k, s < k → k < e → near s e k) : DpInv n near K st s := by
  obtain ⟨_, hse, ht⟩ := h.tiles
  obtain ⟨os1, os2⟩ := h.on (s, e) (List.mem_cons_self ..)
  have hen := h.en
  refine ⟨ht, by omega, h.k0, h.kn, os1, h.why, fun p hp => h.on p (List.mem_cons_of_mem _ hp), fun a b ha hab hb ka kb hg => ?_⟩
  by_cases c : e ≤ a
  · exact h.far a b c hab hb ka kb hg
  · have ha' : a = s := by
      rcases Nat.lt_or_ge s a with g | g
      · have := os2 a g (by simp only; omega); rw [ka] at this; cases this
      · omega
    subst ha'
    have hb' : b = e := by
      rcases Nat.lt_or_ge b e with g | g
      · have := os2 b hab g; rw [kb] at this; cases this
      · rcases Nat.lt_or_ge e b with g2 | g2
        · have := hg e hse g2; rw [h.ke] at this; cases this
        · omega
    subst hb'
    exact hn
theorem cnt_on {L : Nat → Bool} {c : Nat} (hc : L c = false) : ∀ k, c < k → cnt (upd L c true) k = cnt L k + 1 := by
  intro k hk
  have h := cnt_off (L := upd L c true) (c := c) (upd_same _ _ _) k hk
  have e : upd (upd L c true) c false = L := by
    funext q
    by_cases g : q = c
    · subst g; rw [upd_same, hc]
    · rw [upd_other _ _ g, upd_other _ _ g]
  rw [e] at h
  exact h.symm
theorem cnt_two {n : Nat} (h : 2 ≤ n) : cnt (fun q => decide (q = 0 ∨ q = n - 1)) n = 2 := by
  obtain ⟨m, rfl⟩ : ∃ m, n = m + 2 := ⟨n - 2, by omega⟩
  show cnt _ (m + 1) + (if decide (m + 1 = 0 ∨ m + 1 = m + 2 - 1) = true then 1 else 0) = 2
  rw [if_pos (decide_eq_true (by omega))]
  have h1 : cnt (fun q => decide (q = 0 ∨ q = m + 2 - 1)) (m + 1) = cnt (fun q => decide (q = 0 ∨ q = m + 2 - 1)) 1 := cnt_gap (m + 1) (by omega) fun k h1 h2 => decide_eq_false (by omega)
  rw [h1]
  rfl
end PubVis
