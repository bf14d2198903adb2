/-
  impl.shapeOf of any geometry.
-/
import Derived.Test.YtohidpmkoehmcaaGreatShOf4
namespace Go.Proofs.YtohidpmkoehmcaaGreat
open PubFl Go.RowKit

theorem mem_getD' {α : Type} {l : List α} {i : Nat} {z : α} (h : i < l.length) : l.getD i z ∈ l := by
  rw [List.getD_eq_getElem?_getD, List.getElem?_eq_getElem h]; exact List.getElem_mem h
theorem poly_part' {d : Nat} {s p : Sh} (hk : s.kind = 6) (h : cntOk d p = true ∧ partB s.kind p = true) : ∃ e, d = e + 1 ∧ p.kind = 3 ∧ p.parts = [] ∧ p.lists.length ≤ 40 := by
  cases d with
  | zero => cases h.1
  | succ e =>
    obtain ⟨h1, h2⟩ := h
    obtain ⟨q1, _, q3⟩ := cntOk_parts h1
    have k3 : p.kind = 3 := by
      rw [hk] at h2
      unfold partB at h2
      simpa using h2
    rw [formB_3 k3] at q3
    simp only [decide_eq_true_eq] at q3
    exact ⟨e, rfl, k3, List.eq_nil_of_length_eq_zero q3, (shHead_spec q1).2.2.1⟩
theorem shapeOf_c : ∀ (d : Nat) (s : Sh) (lo hi : Nat) (v : Value) (w : World), GeoB d lo hi w v s → cntOk d s = true → Small d s → Calls Tryz.prog 18 #[v] w (RetSh d s w)
  | 0, _, _, _, _, _, h, _, _ => h.elim
  | d + 1, s, lo, hi, v, w, hg, hok, hsm => by
    have hpa := (cntOk_parts hok).2.1
    obtain ⟨_, _, n1, n2⟩ := shHead_spec (cntOk_parts hok).1
    obtain ⟨sl, sp⟩ := hsm
    rcases hg with ⟨hk, x, y, h1, h2, rfl⟩ | ⟨hk, ps, u, h1, h2, rfl, h3⟩ | ⟨hk, u, h1, rfl, h2⟩ | ⟨hk, ps, u, h1, h2, rfl, h3⟩ | ⟨hk, u, h1, rfl, h2⟩ | ⟨hk, u, h1, rfl, h2⟩ | ⟨hk, u, h1, rfl, h2⟩
    · exact so1 d s hk x y h1 h2 w
    · exact so2 d s hk ps h1 h2 (sl _ (by rw [h1]; simp)) lo hi u w h3
    · exact so3 d s hk h1 n1 sl lo hi u w h2
    · exact so4 d s hk ps h1 h2 (sl _ (by rw [h1]; simp)) lo hi u w h3
    · exact so5 d s s.lists hk rfl h1 lo hi u n1 sl w h2
    · cases d with
      | zero =>
        have hnil : s.parts = [] := by
          cases hq : s.parts with
          | nil => rfl
          | cons p ps => have := (hpa p (by rw [hq]; simp)).1; cases this
        have h := so6 0 s s.parts hk h1 rfl lo hi u n2 (fun i hi => by rw [hnil] at hi; simp at hi) w h2
        refine h.mono fun e w' ⟨lv, pv, x, he, hw, hsh⟩ => ⟨lv, pv, x, he, hw, ShB.leaf hsh rfl hnil hnil⟩
      | succ d => exact so6 d s s.parts hk h1 rfl lo hi u n2 (fun i hi => by
          have hm : s.parts.getD i dsh ∈ s.parts := mem_getD' hi
          obtain ⟨_, _, k3, p0, l40⟩ := poly_part' hk (hpa _ hm)
          exact ⟨k3, p0, l40, (sp _ hm).1⟩) w h2
    · exact so7 d s s.parts hk h1 rfl lo hi u n2 (fun i hi l h x w hx _ => by
        have hm : s.parts.getD i dsh ∈ s.parts := mem_getD' hi
        exact shapeOf_c d _ l h x w hx (hpa _ hm).1 (sp _ hm)) w h2
end Go.Proofs.YtohidpmkoehmcaaGreat
