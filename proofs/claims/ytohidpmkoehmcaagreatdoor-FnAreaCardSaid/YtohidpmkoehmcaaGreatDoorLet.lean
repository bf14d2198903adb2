/-
  A region that draws its order: 'a, b, c, d := p, q, r, s' of points: loads, then four new boxes, then four stores; some stores may come before some loads. Walked once.
-/
import Derived.Test.YtohidpmkoehmcaaGreatDoorMG2
import Derived.StillTail
set_option linter.all false
namespace Go.Proofs.YtohidpmkoehmcaaGreatDoor
open PubFl Go Go.RowKit

section
variable {P : Program} {ops : Array Oper} {md : Region.Mode} {C : World → Prop} {R : Act → World → Prop}

def noExit : Exit → Act → World → Prop := fun _ _ _ => False
theorem wp_exit {Q : Exit → Act → World → Prop} {K : Act → World → Prop} {o : Oper} {a : Act} {w : World} (h : o.wp P a w K noExit) : o.wp P a w K Q := by
  unfold Oper.wp at *
  generalize (execOp a.eval o).run P w = r at *
  cases r with
  | ok n w' =>
    cases n <;> simp only [Oper.upon] at h ⊢ <;> try exact h
    exact Calls.mono h fun e w'' he => by
      cases e with
      | returned v => exact he
      | panicked c => exact he.elim
      | outgrown => obtain ⟨_, _, h⟩ := he; exact h.elim
  | halt s w' => cases s <;> simp only [Oper.upon] at h ⊢ <;> first | exact h | exact h.elim
theorem wpOp_exit {Q : Exit → Act → World → Prop} {K : Act → World → Prop} {i : Nat} {a : Act} {w : World} (h : wpOp P ops noExit i K a w) : wpOp P ops Q i K a w := by
  unfold wpOp at *
  split
  · rename_i ho; simp only [ho] at h; exact h
  · rename_i o ho
    simp only [ho] at h
    split
    · rename_i hw
      simp only [hw, if_true] at h
      rcases h with h | ⟨_, _, _, h⟩
      · exact .inl (wp_exit h)
      · exact h.elim
    · rename_i hw
      simp only [hw] at h
      exact h

/-- whatever order, the worlds staying in a class -/
def wpAnyC (P : Program) (md : Region.Mode) (ops : Array Oper) (C : World → Prop) (R : Act → World → Prop) : Nat → Array Bool → Act → World → Prop
  | 0, listed, a, w => Region.ready md ops listed = [] ∧ R a w
  | f + 1, listed, a, w => Region.ready md ops listed ≠ [] ∧ ∀ i ∈ Region.ready md ops listed, wpOp P ops noExit i (fun a' w' => C w' ∧ wpAnyC P md ops C R f (listed.setIfInBounds i true) a' w') a w

theorem wpAny_of_C {Q : Exit → Act → World → Prop} (hQ : ∀ a w, C w → R a w → Q .normal a w) : ∀ (f : Nat) (listed : Array Bool) (a : Act) (w : World), C w → wpAnyC P md ops C R f listed a w → wpAny P md ops Q f listed a w
  | 0, _, a, w, hw, h => ⟨h.1, hQ a w hw h.2⟩
  | f + 1, listed, a, w, hw, h => ⟨fun h0 => absurd h0 h.1, fun i hi => wpOp_exit (wpOp_mono (fun a' w' h' => wpAny_of_C hQ f _ a' w' h'.1 h'.2) (h.2 i hi))⟩

/-- it reads: in every world of the class the same value, and the world stays -/
def Reads (P : Program) (C : World → Prop) (o : Oper) (v : Value) (a : Act) : Prop := o.guard = none ∧ ∀ w, C w → (execOp a.eval o).run P w = .ok (.value v) w
theorem wanted_none {o : Oper} (h : o.guard = none) (y : Nat → Option Bool) : Region.wanted o y = true := by unfold Region.wanted; rw [h]
theorem Reads.wpOp {i : Nat} {o : Oper} {v : Value} {a : Act} {w : World} (hi : ops[i]? = some o) (hy : Reads P C o v a) (hw : C w) {K : Act → World → Prop} (h : K (a.put o.dst v) w) : wpOp P ops noExit i K a w := by
  unfold Go.wpOp
  simp only [hi, wanted_none hy.1, if_true]
  left
  unfold Oper.wp
  rw [hy.2 w hw]
  exact h

theorem wpOp_putC {j : Nat} {oi oj : Oper} {v : Value} (hj : ops[j]? = some oj) (hap : oi.apart ops oj = true)
    (hsi : ∀ cs b, oi.op ≠ .select cs b) (hsj : ∀ cs b, oj.op ≠ .select cs b) {K : Act → World → Prop} {a : Act} {w : World}
    (hy : Reads P C oi v a) (h : wpOp P ops noExit j K (a.put oi.dst v) w) :
    wpOp P ops noExit j (fun a' w' => Reads P C oi v a' ∧ K (a'.put oi.dst v) w') a w := by
  obtain ⟨h1, h2, h3⟩ := Oper.apart_spec hap
  have keep : ∀ (a : Act), Reads P C oi v a → ∀ u, Reads P C oi v (a.put oj.dst u) := fun a hy u => ⟨hy.1, fun w hw => by rw [execOp_put oi hsi a oj.dst u h3]; exact hy.2 w hw⟩
  have keepD : ∀ d, Reads P C oi v { a with defers := d :: a.defers } := fun d => ⟨hy.1, fun w hw => by
    have e : execOp ({ a with defers := d :: a.defers } : Act).eval oi = execOp a.eval oi := rfl
    rw [e]; exact hy.2 w hw⟩
  unfold wpOp at *
  simp only [hj] at *
  rw [wanted_put oj a oi.dst v h1] at h
  split
  · rename_i hw
    simp only [hw, if_true] at h
    rcases h with h | ⟨_, _, _, hf⟩
    case inr => exact hf.elim
    refine .inl ?_
    unfold Oper.wp at *
    rw [execOp_put oj hsj a oi.dst v h1] at h
    generalize (execOp a.eval oj).run P w = r at *
    cases r with
    | ok n w' =>
      cases n <;> simp only [Oper.upon] at h ⊢
      case value u => exact ⟨keep a hy u, by rw [← Act.put_comm a v u h2]; exact h⟩
      case skip => exact ⟨keep a hy _, by rw [← Act.put_comm a v undef h2]; exact h⟩
      case defer d =>
        refine ⟨keep _ (keepD d) _, ?_⟩
        rw [← Act.put_comm _ v undef h2, ← Act.put_defers]
        exact h
      case enter f args =>
        refine Calls.mono h fun e w'' he => ?_
        cases e with
        | returned u => exact ⟨keep a hy u, by rw [← Act.put_comm a v u h2]; exact he⟩
        | panicked c => exact he.elim
        | outgrown => exact he
      case row row args => exact Rows.mono h fun u w'' he => ⟨keep a hy u, by rw [← Act.put_comm a v u h2]; exact he⟩
    | halt x w' =>
      cases x <;> simp only [Oper.upon] at h ⊢
      case panic u => exact h.elim
  · rename_i hw
    simp only [hw] at h
    exact ⟨keep a hy _, by rw [← Act.put_comm a v undef h2]; exact h⟩

theorem wpAnyC_first {i : Nat} {oi : Oper} {v : Value} (hi : ops[i]? = some oi) (hsel : ∀ (j : Nat) (o : Oper) cs b, ops[j]? = some o → o.op ≠ .select cs b) :
    ∀ (f : Nat) (listed : Array Bool) (a : Act) (w : World), C w →
      (∀ j oj, ops[j]? = some oj → j ≠ i → listed.getD j true = false → (∀ e ∈ oj.after, Region.binds md e = true → e.on ≠ i) → oi.apart ops oj = true) →
      i ∈ Region.ready md ops listed → Reads P C oi v a →
      wpAnyC P md ops C R f (listed.setIfInBounds i true) (a.put oi.dst v) w → wpAnyC P md ops C R (f + 1) listed a w := by
  intro f
  induction f with
  | zero =>
    intro listed a w hw _ hr hy H
    refine ⟨fun h => (by rw [h] at hr; cases hr), fun j hj => ?_⟩
    by_cases hji : j = i
    · subst hji; exact hy.wpOp hi hw ⟨hw, H⟩
    · have := ready_mono hj hji
      rw [H.1] at this
      cases this
  | succ f ih =>
    intro listed a w hw hfree hr hy H
    refine ⟨fun h => (by rw [h] at hr; cases hr), fun j hj => ?_⟩
    by_cases hji : j = i
    · subst hji; exact hy.wpOp hi hw ⟨hw, H⟩
    · have h1 := H.2 j (ready_mono hj hji)
      obtain ⟨hjun, oj, hoj, hall⟩ := mem_ready.1 hj
      have hnot : ∀ e ∈ oj.after, Region.binds md e = true → e.on ≠ i := fun e he hb heq => by
        have h1 := hall e he hb
        have h0 := (mem_ready.1 hr).1
        rw [heq, getD_both h0] at h1
        cases h1
      have h2 := wpOp_putC hoj (hfree j oj hoj hji hjun hnot) (fun cs b => hsel i oi cs b hi) (fun cs b => hsel j oj cs b hoj) hy h1
      have hfree' : ∀ k ok, ops[k]? = some ok → k ≠ i → (listed.setIfInBounds j true).getD k true = false →
          (∀ e ∈ ok.after, Region.binds md e = true → e.on ≠ i) → oi.apart ops ok = true := fun k ok hk hki hun hno => by
        refine hfree k ok hk hki ?_ hno
        by_cases hjk : j = k
        · subst hjk; exact hjun
        · rw [getD_set_ne true hjk] at hun; exact hun
      refine wpOp_mono (fun a' w' h3 => ⟨h3.2.1, ih (listed.setIfInBounds j true) a' w' h3.2.1 hfree' (ready_mono hr (Ne.symm hji)) h3.1 ?_⟩) h2
      rw [Array.setIfInBounds_comm _ _ hji]
      exact h3.2.2

/-- operations that only read -/
def readsB : Op → Bool
  | .move _ | .load .. | .binOp .. | .indexAddr .. | .fieldAddr .. => true
  | _ => false
theorem run_value {s : Sem Value} {w w' : World} {n : Next} (h : (do let x ← s; pure (Next.value x) : Sem Next).run P w = .ok n w') : ∃ v, n = .value v := by
  rw [Sem.run_bind] at h
  cases hs : s.run P w with
  | ok v w1 =>
    rw [hs] at h
    simp at h
    exact ⟨v, h.1.symm⟩
  | halt x w1 =>
    rw [hs] at h
    cases h
theorem reads_value {ρ : Operand → Value} {o : Oper} (h : readsB o.op = true) {w w' : World} {n : Next} (hr : (execOp ρ o).run P w = .ok n w') : ∃ v, n = .value v := by
  obtain ⟨dst, op, type, pos, after, guard⟩ := o
  cases op <;> simp only [readsB] at h <;> first | (cases h; done) | skip
  case move x =>
    have e : (execOp ρ ⟨dst, .move x, type, pos, after, guard⟩).run P w = .ok (.value (ρ x)) w := rfl
    rw [e] at hr
    cases hr
    exact ⟨_, rfl⟩
  all_goals exact run_value hr

def setN (listed : Array Bool) (k : Nat) : Nat → Array Bool
  | 0 => listed
  | m + 1 => setN (listed.setIfInBounds k true) (k + 1) m
def headB (md : Region.Mode) (ops : Array Oper) : Nat → Nat → Array Bool → Bool
  | 0, _, _ => true
  | f + 1, k, listed => (Region.ready md ops listed).contains k && Region.free md ops listed k && ((ops[k]?).map fun o => o.guard.isNone && readsB o.op).getD false && headB md ops f (k + 1) (listed.setIfInBounds k true)

theorem wpAnyC_head {Lq : Act → Prop} {g : Nat} (hsel : Region.noSelect ops = true) : ∀ (l : List Oper) (k : Nat) (listed : Array Bool) (a : Act) (w : World), (∀ j, j < l.length → l[j]? = ops[k + j]?) → headB md ops l.length k listed = true → C w →
    wpQuiet P ops C Lq l a → (∀ a', Lq a' → wpAnyC P md ops C R g (setN listed k l.length) a' w) → wpAnyC P md ops C R (l.length + g) listed a w
  | [], _, listed, a, w, _, _, _, h, H => by
    have := H a h
    simpa [setN] using this
  | o :: l, k, listed, a, w, hl, hB, hw, h, H => by
    have h0 : ops[k]? = some o := by simpa using (hl 0 (by simp)).symm
    simp only [List.length_cons, headB, Bool.and_eq_true, h0, Option.map_some, Option.getD_some] at hB
    obtain ⟨⟨⟨hr, hf⟩, hg, hrd⟩, hB'⟩ := hB
    have hg' : o.guard = none := by simpa using hg
    unfold wpQuiet at h
    rw [if_pos (wanted_none hg' _)] at h
    obtain ⟨v, h1, h2⟩ := h
    have hy : Reads P C o v a := ⟨hg', fun w' hw' => by
      have h3 := h1 w' hw'
      unfold Oper.quietAt at h3
      cases hrun : (execOp a.eval o).run P w' with
      | ok n w'' =>
        rw [hrun] at h3
        obtain ⟨x, rfl⟩ := reads_value hrd hrun
        simp only [Oper.quietUpon] at h3
        rw [h3.1, h3.2]
      | halt x w'' =>
        rw [hrun] at h3
        exact h3.elim⟩
    rw [List.length_cons, show l.length + 1 + g = (l.length + g) + 1 by omega]
    exact wpAnyC_first h0 (Region.noSelect_spec hsel) (l.length + g) listed a w hw (Region.free_spec h0 hf) (by simpa using hr) hy
      (wpAnyC_head hsel l (k + 1) _ _ w (fun j hj => by have := hl (j + 1) (by simp; omega); simpa [Nat.add_assoc, Nat.add_comm 1 j] using this) hB' hw h2 H)

/-- new boxes, in whatever order -/
def allocN (T : TypeId) (w : World) : Nat → World
  | 0 => w
  | m + 1 => allocN T (w.alloc (.cells #[.float .f64 0, .float .f64 0] T)) m
def putsA (σ : Nat → Nat) (S : List (Nat × Tmp)) (a : Act) : Act := S.foldl (fun a p => a.put (some p.2) (.pointer (some ⟨σ p.1, 0, none⟩))) a
def setsA (S : List (Nat × Tmp)) (listed : Array Bool) : Array Bool := S.foldl (fun l p => l.setIfInBounds p.1 true) listed
def allocsB (md : Region.Mode) (ops : Array Oper) : Nat → List (Nat × Tmp) → Array Bool → Bool
  | 0, _, _ => true
  | f + 1, S, listed => (Region.ready md ops listed == S.map (·.1)) && S.all fun p => allocsB md ops f (S.erase p) (listed.setIfInBounds p.1 true)

theorem putsA_perm {σ : Nat → Nat} {S S' : List (Nat × Tmp)} (h : S.Perm S') (hd : ∀ p ∈ S, ∀ q ∈ S, p ≠ q → p.2 ≠ q.2) (a : Act) : putsA σ S a = putsA σ S' a := by
  unfold putsA
  refine List.Perm.foldl_eq' h (fun p hp q hq z => ?_) a
  by_cases c : p = q
  · rw [c]
  · exact Act.put_comm z _ _ fun d hd' he => hd p hp q hq c (by
      have e1 : p.2 = d := by simpa using hd'
      have e2 : q.2 = d := by simpa using he
      exact e1.trans e2.symm)
theorem setsA_perm {S S' : List (Nat × Tmp)} (h : S.Perm S') (listed : Array Bool) : setsA S listed = setsA S' listed := by
  unfold setsA
  refine List.Perm.foldl_eq' h (fun p _ q _ z => ?_) listed
  by_cases c : p.1 = q.1
  · rw [c]
  · exact Array.setIfInBounds_comm _ _ c
theorem putsA_congr {σ τ : Nat → Nat} : ∀ (S : List (Nat × Tmp)) (a : Act), (∀ p ∈ S, σ p.1 = τ p.1) → putsA σ S a = putsA τ S a
  | [], _, _ => rfl
  | p :: S, a, h => by
    have e : putsA σ S (a.put (some p.2) (.pointer (some ⟨σ p.1, 0, none⟩))) = putsA τ S (a.put (some p.2) (.pointer (some ⟨τ p.1, 0, none⟩))) := by
      rw [h p (by simp)]
      exact putsA_congr S _ fun q hq => h q (by simp [hq])
    exact e

theorem wpAnyC_allocs {T : TypeId} {g : Nat} (hz : ∀ w, (Instr.alloc T true (.tuple #[])).run P w = .ok (.pointer (some ⟨w.heap.size, 0, none⟩)) (w.alloc (.cells #[.float .f64 0, .float .f64 0] T)))
    (hC : ∀ w, C w → C (w.alloc (.cells #[.float .f64 0, .float .f64 0] T))) :
    ∀ (n : Nat) (S : List (Nat × Tmp)) (listed : Array Bool) (a : Act) (w : World), S.length = n → C w → allocsB md ops n S listed = true → S.Nodup → (∀ p ∈ S, ∀ q ∈ S, p ≠ q → p.1 ≠ q.1 ∧ p.2 ≠ q.2) →
    (∀ p ∈ S, ∃ ty pos after, ops[p.1]? = some ⟨some p.2, .alloc T, ty, pos, after, none⟩) →
    (∀ σ : Nat → Nat, (∀ p ∈ S, w.heap.size ≤ σ p.1 ∧ σ p.1 < w.heap.size + n) → (∀ p ∈ S, ∀ q ∈ S, p ≠ q → σ p.1 ≠ σ q.1) → wpAnyC P md ops C R g (setsA S listed) (putsA σ S a) (allocN T w n)) →
    wpAnyC P md ops C R (n + g) listed a w
  | 0, S, listed, a, w, hn, hw, _, _, _, _, H => by
    have : S = [] := List.length_eq_zero_iff.1 hn
    subst this
    have := H (fun x => x) (by simp) (by simp)
    simpa [setsA, putsA, allocN] using this
  | n + 1, S, listed, a, w, hn, hw, hB, hnd, hds, hops, H => by
    simp only [allocsB, Bool.and_eq_true, beq_iff_eq, List.all_eq_true] at hB
    obtain ⟨hr, hB'⟩ := hB
    rw [show n + 1 + g = (n + g) + 1 by omega]
    refine ⟨?_, fun i hi => ?_⟩
    · rw [hr]
      intro h0
      have : S.length = 0 := by simpa using congrArg List.length h0
      omega
    · rw [hr] at hi
      obtain ⟨p, hp, rfl⟩ := List.mem_map.1 hi
      obtain ⟨ty, pos, after, ho⟩ := hops p hp
      unfold wpOp
      simp only [ho]
      rw [if_pos (wanted_none rfl _)]
      left
      have hrun : (execOp a.eval ⟨some p.2, .alloc T, ty, pos, after, none⟩).run P w = .ok (.value (.pointer (some ⟨w.heap.size, 0, none⟩))) (w.alloc (.cells #[.float .f64 0, .float .f64 0] T)) := by
        show (do let x ← Instr.alloc T true (.tuple #[]); pure (Next.value x) : Sem Next).run P w = _
        rw [Sem.run_bind, hz w]
        rfl
      unfold Oper.wp
      rw [hrun]
      show C _ ∧ _
      refine ⟨hC w hw, ?_⟩
      have hperm : S.Perm (p :: S.erase p) := List.perm_cons_erase hp
      have hmem : ∀ q, q ∈ S.erase p → q ∈ S ∧ q ≠ p := fun q hq => ⟨List.mem_of_mem_erase hq, fun e => by subst e; exact (List.Nodup.not_mem_erase hnd) hq⟩
      refine wpAnyC_allocs hz hC n (S.erase p) _ _ _ (by rw [List.length_erase_of_mem hp]; omega) (hC w hw) (hB' p hp) (hnd.erase p) (fun q hq r hr' hne => hds q (hmem q hq).1 r (hmem r hr').1 hne) (fun q hq => hops q (hmem q hq).1) ?_
      intro σ' h1 h2
      have hsz : (w.alloc (.cells #[.float .f64 0, .float .f64 0] T)).heap.size = w.heap.size + 1 := by simp
      rw [hsz] at h1
      obtain ⟨τ, hτ⟩ : ∃ τ : Nat → Nat, ∀ x, τ x = if x = p.1 then w.heap.size else σ' x := ⟨_, fun _ => rfl⟩
      have hτp : τ p.1 = w.heap.size := by rw [hτ]; simp
      have hσ : ∀ q ∈ S.erase p, τ q.1 = σ' q.1 := fun q hq => by
        rw [hτ, if_neg (hds q (hmem q hq).1 p hp (hmem q hq).2).1]
      have := H τ (fun q hq => by
          by_cases c : q = p
          · subst c; rw [hτp]; omega
          · have hq' : q ∈ S.erase p := (List.mem_erase_of_ne c).2 hq
            rw [hσ q hq']
            have := h1 q hq'
            omega) (fun q hq r hr' hne => by
          by_cases c : q = p
          · subst c
            have hr2 : r ∈ S.erase q := (List.mem_erase_of_ne (Ne.symm hne)).2 hr'
            rw [hτp, hσ r hr2]
            have := h1 r hr2
            omega
          · have hq' : q ∈ S.erase p := (List.mem_erase_of_ne c).2 hq
            rw [hσ q hq']
            by_cases c2 : r = p
            · subst c2
              rw [hτp]
              have := h1 q hq'
              omega
            · have hr2 : r ∈ S.erase p := (List.mem_erase_of_ne c2).2 hr'
              rw [hσ r hr2]
              exact h2 q hq' r hr2 hne)
      rw [setsA_perm hperm, putsA_perm hperm (fun p hp q hq h => (hds p hp q hq h).2)] at this
      have e1 : putsA τ (p :: S.erase p) a = putsA τ (S.erase p) (a.put (some p.2) (.pointer (some ⟨w.heap.size, 0, none⟩))) := by
        show putsA τ (S.erase p) (a.put (some p.2) (.pointer (some ⟨τ p.1, 0, none⟩))) = _
        rw [hτp]
      rw [e1, putsA_congr _ _ hσ] at this
      exact this

theorem eval_tmp {a : Act} {t : Tmp} {v : Value} (h : a.tmps[t]? = some v) : a.eval (.tmp t) = v := by
  unfold Act.eval
  simp only [Array.getD_eq_getD_getElem?, h]
  rfl

/-- one store of a point into a new box -/
theorem wpAnyC_store {T : TypeId} {g i : Nat} {d s : Tmp} {ty : TypeId} {pos : String} {after : Array Edge} {listed : Array Bool} {a : Act} {w w0 : World} {A x y x' y' : Nat}
    (hst : ∀ (w : World) (A x y : Nat), (w.cell? ⟨A, 0, none⟩).isSome = true → (w.cell? ⟨A, 1, none⟩).isSome = true → w.frozen? ⟨A, 0, none⟩ = false → w.frozen? ⟨A, 1, none⟩ = false → (Instr.storeAt T (.pointer (some ⟨A, 0, none⟩)) (.agg #[.float .f64 x, .float .f64 y])).run P w = .ok () ((w.setCell ⟨A, 0, none⟩ (.float .f64 x)).setCell ⟨A, 1, none⟩ (.float .f64 y)))
    (ho : ops[i]? = some ⟨none, .store T (.tmp d) (.tmp s), ty, pos, after, none⟩) (hr : Region.ready md ops listed = [i]) (hd : a.tmps[d]? = some (.pointer (some ⟨A, 0, none⟩))) (hs : a.tmps[s]? = some (.agg #[.float .f64 x, .float .f64 y])) (hn : NewPt w0 w A x' y')
    (hC : C ((w.setCell ⟨A, 0, none⟩ (.float .f64 x)).setCell ⟨A, 1, none⟩ (.float .f64 y)))
    (H : wpAnyC P md ops C R g (listed.setIfInBounds i true) a ((w.setCell ⟨A, 0, none⟩ (.float .f64 x)).setCell ⟨A, 1, none⟩ (.float .f64 y))) : wpAnyC P md ops C R (g + 1) listed a w := by
  refine ⟨by rw [hr]; simp, fun j hj => ?_⟩
  rw [hr] at hj
  have hji : j = i := by simpa using hj
  subst hji
  unfold wpOp
  simp only [ho]
  rw [if_pos (wanted_none rfl _)]
  left
  have hrun : (execOp a.eval ⟨none, .store T (.tmp d) (.tmp s), ty, pos, after, none⟩).run P w = .ok .skip ((w.setCell ⟨A, 0, none⟩ (.float .f64 x)).setCell ⟨A, 1, none⟩ (.float .f64 y)) := by
    show (do Instr.storeAt T (a.eval (.tmp d)) (a.eval (.tmp s)); pure Next.skip : Sem Next).run P w = _
    rw [eval_tmp hd, eval_tmp hs, Sem.run_bind, hst w A x y (by rw [hn.c0]; rfl) (by rw [hn.c1]; rfl) hn.z0 hn.z1]
    rfl
  unfold Oper.wp
  rw [hrun]
  exact ⟨hC, H⟩

theorem tmps_put {a : Act} {d t : Tmp} {v : Value} (h : d ≠ t) : (a.put (some d) v).tmps[t]? = a.tmps[t]? := by
  show (a.tmps.setIfInBounds d v)[t]? = _
  rw [Array.getElem?_setIfInBounds_ne h]
theorem tmps_put_same {a : Act} {d : Tmp} {v : Value} (h : d < a.tmps.size) : (a.put (some d) v).tmps[d]? = some v := by
  show (a.tmps.setIfInBounds d v)[d]? = _
  simp [h]
theorem tmps_put_size {a : Act} {d : Tmp} {v : Value} : (a.put (some d) v).tmps.size = a.tmps.size := by
  show (a.tmps.setIfInBounds d v).size = _
  simp

theorem NewPt.zero {w0 w : World} (T : TypeId) (h : w0.heap.size ≤ w.heap.size) : NewPt w0 (w.alloc (.cells #[.float .f64 0, .float .f64 0] T)) w.heap.size 0 0 := NewPt.new w 0 0 T h

def let4B (l : List Oper) (n : Nat) (S : List (Nat × Tmp)) : Bool :=
  Region.noSelect l.toArray && decide (l.length = n + 8) && headB .any l.toArray n 0 (Array.replicate l.length false) && allocsB .any l.toArray 4 S (setN (Array.replicate l.length false) 0 n) &&
  (Region.ready .any l.toArray (setsA S (setN (Array.replicate l.length false) 0 n)) == [n + 4]) &&
  (Region.ready .any l.toArray ((setsA S (setN (Array.replicate l.length false) 0 n)).setIfInBounds (n + 4) true) == [n + 5]) &&
  (Region.ready .any l.toArray (((setsA S (setN (Array.replicate l.length false) 0 n)).setIfInBounds (n + 4) true).setIfInBounds (n + 5) true) == [n + 6]) &&
  (Region.ready .any l.toArray ((((setsA S (setN (Array.replicate l.length false) 0 n)).setIfInBounds (n + 4) true).setIfInBounds (n + 5) true).setIfInBounds (n + 6) true) == [n + 7]) &&
  (Region.ready .any l.toArray (((((setsA S (setN (Array.replicate l.length false) 0 n)).setIfInBounds (n + 4) true).setIfInBounds (n + 5) true).setIfInBounds (n + 6) true).setIfInBounds (n + 7) true) == [])

structure Let4 (w : World) (w' : World) (A B C D : Nat) (p q r s : Nat × Nat) : Prop where
  k : Kp w w'
  a : NewPt w w' A p.1 p.2
  b : NewPt w w' B q.1 q.2
  c : NewPt w w' C r.1 r.2
  d : NewPt w w' D s.1 s.2

theorem wp_region_let4 {id : Nat} {Q : Exit → Act → World → Prop} {a : Act} {w : World} {l : List Oper} (n : Nat) (d1 d2 d3 d4 s1 s2 s3 s4 : Tmp) (T : TypeId) (hm : P.follows .mixedOrders = true)
    (hz : ∀ w, (Instr.alloc T true (.tuple #[])).run P w = .ok (.pointer (some ⟨w.heap.size, 0, none⟩)) (w.alloc (.cells #[.float .f64 0, .float .f64 0] T)))
    (hst : ∀ (w : World) (A x y : Nat), (w.cell? ⟨A, 0, none⟩).isSome = true → (w.cell? ⟨A, 1, none⟩).isSome = true → w.frozen? ⟨A, 0, none⟩ = false → w.frozen? ⟨A, 1, none⟩ = false → (Instr.storeAt T (.pointer (some ⟨A, 0, none⟩)) (.agg #[.float .f64 x, .float .f64 y])).run P w = .ok () ((w.setCell ⟨A, 0, none⟩ (.float .f64 x)).setCell ⟨A, 1, none⟩ (.float .f64 y)))
    (hB : let4B l n [(n, d1), (n + 1, d2), (n + 2, d3), (n + 3, d4)] = true)
    (hne : d1 ≠ d2 ∧ d1 ≠ d3 ∧ d1 ≠ d4 ∧ d2 ≠ d3 ∧ d2 ≠ d4 ∧ d3 ≠ d4 ∧ (∀ s, s = s1 ∨ s = s2 ∨ s = s3 ∨ s = s4 → d1 ≠ s ∧ d2 ≠ s ∧ d3 ≠ s ∧ d4 ≠ s))
    (a1 : ∃ ty pos after, l[n]? = some ⟨some d1, .alloc T, ty, pos, after, none⟩) (a2 : ∃ ty pos after, l[n + 1]? = some ⟨some d2, .alloc T, ty, pos, after, none⟩) (a3 : ∃ ty pos after, l[n + 2]? = some ⟨some d3, .alloc T, ty, pos, after, none⟩) (a4 : ∃ ty pos after, l[n + 3]? = some ⟨some d4, .alloc T, ty, pos, after, none⟩)
    (t1 : ∃ ty pos after, l[n + 4]? = some ⟨none, .store T (.tmp d1) (.tmp s1), ty, pos, after, none⟩) (t2 : ∃ ty pos after, l[n + 5]? = some ⟨none, .store T (.tmp d2) (.tmp s2), ty, pos, after, none⟩) (t3 : ∃ ty pos after, l[n + 6]? = some ⟨none, .store T (.tmp d3) (.tmp s3), ty, pos, after, none⟩) (t4 : ∃ ty pos after, l[n + 7]? = some ⟨none, .store T (.tmp d4) (.tmp s4), ty, pos, after, none⟩)
    (h : wpQuiet P l.toArray (fun w' => ∃ u, w' = ext w u) (fun a' => ∃ p q r s : Nat × Nat, a'.tmps[s1]? = some (.agg #[.float .f64 p.1, .float .f64 p.2]) ∧ a'.tmps[s2]? = some (.agg #[.float .f64 q.1, .float .f64 q.2]) ∧ a'.tmps[s3]? = some (.agg #[.float .f64 r.1, .float .f64 r.2]) ∧ a'.tmps[s4]? = some (.agg #[.float .f64 s.1, .float .f64 s.2]) ∧
        (d1 < a'.tmps.size ∧ d2 < a'.tmps.size ∧ d3 < a'.tmps.size ∧ d4 < a'.tmps.size) ∧ ∀ (A B C D : Nat) (w' : World), Let4 w w' A B C D p q r s →
          Q .normal ((((a'.put (some d1) (.pointer (some ⟨A, 0, none⟩))).put (some d2) (.pointer (some ⟨B, 0, none⟩))).put (some d3) (.pointer (some ⟨C, 0, none⟩))).put (some d4) (.pointer (some ⟨D, 0, none⟩))) w') (l.take n) a) :
    (Code.region id l.toArray true).wp P Q a w := by
  simp only [let4B, Bool.and_eq_true, decide_eq_true_eq, beq_iff_eq] at hB
  obtain ⟨⟨⟨⟨⟨⟨⟨⟨hsel, hlen⟩, hhead⟩, hal⟩, r1⟩, r2⟩, r3⟩, r4⟩, r5⟩ := hB
  have hC : ∀ w', (∃ u, w' = ext w u) ↔ Kp w w' := fun w' => ⟨fun ⟨u, hu⟩ => by rw [hu]; exact (Kp.refl w).ext u, fun hk => ⟨w', ext_of hk⟩⟩
  refine wp_region_any hm ?_
  refine wpAny_of_C (C := fun w' => ∃ u, w' = ext w u) (R := fun a' w' => Q .normal a' w') (fun a w _ h => h) _ _ _ _ ((hC _).2 (Kp.refl w).drew) ?_
  have htl : (l.take n).length = n := by simp; omega
  have H := wpAnyC_head (P := P) (md := .any) (C := fun w' => ∃ u, w' = ext w u) (R := fun a' w' => Q .normal a' w') (g := 8) hsel (l.take n) 0 (Array.replicate l.length false) a w.drew (fun j hj => by
      have hj' : j < n := by rw [htl] at hj; exact hj
      simp [hj']) (by rw [htl]; exact hhead) ((hC _).2 (Kp.refl w).drew) h ?_
  · rw [htl, show n + 8 = l.toArray.size by simp; omega] at H
    simpa using H
  · rintro a' ⟨p, q, r, s, v1, v2, v3, v4, ⟨z1, z2, z3, z4⟩, hQ⟩
    rw [htl]
    obtain ⟨n12, n13, n14, n23, n24, n34, ns⟩ := hne
    obtain ⟨m11, m21, m31, m41⟩ := ns s1 (.inl rfl)
    obtain ⟨m12, m22, m32, m42⟩ := ns s2 (.inr (.inl rfl))
    obtain ⟨m13, m23, m33, m43⟩ := ns s3 (.inr (.inr (.inl rfl)))
    obtain ⟨m14, m24, m34, m44⟩ := ns s4 (.inr (.inr (.inr rfl)))
    refine wpAnyC_allocs (g := 4) hz (fun w' hw' => (hC _).2 (((hC _).1 hw').alloc _)) 4 [(n, d1), (n + 1, d2), (n + 2, d3), (n + 3, d4)] _ a' _ rfl ((hC _).2 (Kp.refl w).drew) hal ?_ ?_ ?_ ?_
    · simp
    · intro x hx y hy hxy
      simp only [List.mem_cons, List.not_mem_nil, or_false] at hx hy
      rcases hx with rfl | rfl | rfl | rfl <;> rcases hy with rfl | rfl | rfl | rfl <;> first | exact absurd rfl hxy | exact ⟨by simp, by assumption⟩ | exact ⟨by simp, Ne.symm (by assumption)⟩
    · intro x hx
      simp only [List.mem_cons, List.not_mem_nil, or_false] at hx
      rcases hx with rfl | rfl | rfl | rfl
      · obtain ⟨ty, pos, after, h⟩ := a1; exact ⟨ty, pos, after, by simpa using h⟩
      · obtain ⟨ty, pos, after, h⟩ := a2; exact ⟨ty, pos, after, by simpa using h⟩
      · obtain ⟨ty, pos, after, h⟩ := a3; exact ⟨ty, pos, after, by simpa using h⟩
      · obtain ⟨ty, pos, after, h⟩ := a4; exact ⟨ty, pos, after, by simpa using h⟩
    · intro σ hσ hinj
      have hk0 : Kp w w.drew := (Kp.refl w).drew
      have hs0 : w.drew.heap.size = w.heap.size := rfl
      -- every new block is a box of two noughts
      have hnew : ∀ A, w.drew.heap.size ≤ A → A < w.drew.heap.size + 4 → NewPt w (allocN T w.drew 4) A 0 0 := fun A hA1 hA2 => by
        have e0 := NewPt.zero (w0 := w) (w := w.drew) T (Nat.le_refl _)
        have e1 := NewPt.zero (w0 := w) (w := (w.drew.alloc (.cells #[.float .f64 0, .float .f64 0] T))) T (by simp)
        have e2 := NewPt.zero (w0 := w) (w := ((w.drew.alloc (.cells #[.float .f64 0, .float .f64 0] T)).alloc (.cells #[.float .f64 0, .float .f64 0] T))) T (by simp; omega)
        have e3 := NewPt.zero (w0 := w) (w := (((w.drew.alloc (.cells #[.float .f64 0, .float .f64 0] T)).alloc (.cells #[.float .f64 0, .float .f64 0] T)).alloc (.cells #[.float .f64 0, .float .f64 0] T))) T (by simp; omega)
        rcases (show A = w.drew.heap.size ∨ A = w.drew.heap.size + 1 ∨ A = w.drew.heap.size + 2 ∨ A = w.drew.heap.size + 3 by omega) with rfl | rfl | rfl | rfl
        · exact ((e0.alloc _).alloc _).alloc _
        · simp only [World.size_alloc] at e1; exact (e1.alloc _).alloc _
        · simp only [World.size_alloc] at e2; exact e2.alloc _
        · simp only [World.size_alloc] at e3; exact e3
      have E : ∀ x ∈ [(n, d1), (n + 1, d2), (n + 2, d3), (n + 3, d4)], NewPt w (allocN T w.drew 4) (σ x.1) 0 0 := fun x hx => hnew _ (hσ x hx).1 (hσ x hx).2
      have N1 := E (n, d1) (by simp)
      have N2 := E (n + 1, d2) (by simp)
      have N3 := E (n + 2, d3) (by simp)
      have N4 := E (n + 3, d4) (by simp)
      have i12 : σ n ≠ σ (n + 1) := hinj (n, d1) (by simp) (n + 1, d2) (by simp) (by simp)
      have i13 : σ n ≠ σ (n + 2) := hinj (n, d1) (by simp) (n + 2, d3) (by simp) (by simp)
      have i14 : σ n ≠ σ (n + 3) := hinj (n, d1) (by simp) (n + 3, d4) (by simp) (by simp)
      have i23 : σ (n + 1) ≠ σ (n + 2) := hinj (n + 1, d2) (by simp) (n + 2, d3) (by simp) (by simp)
      have i24 : σ (n + 1) ≠ σ (n + 3) := hinj (n + 1, d2) (by simp) (n + 3, d4) (by simp) (by simp)
      have i34 : σ (n + 2) ≠ σ (n + 3) := hinj (n + 2, d3) (by simp) (n + 3, d4) (by simp) (by simp)
      have hkA : Kp w (allocN T w.drew 4) := (((hk0.alloc _).alloc _).alloc _).alloc _
      simp only at N1 N2 N3 N4
      have eP : putsA σ [(n, d1), (n + 1, d2), (n + 2, d3), (n + 3, d4)] a' = (((a'.put (some d1) (.pointer (some ⟨σ n, 0, none⟩))).put (some d2) (.pointer (some ⟨σ (n + 1), 0, none⟩))).put (some d3) (.pointer (some ⟨σ (n + 2), 0, none⟩))).put (some d4) (.pointer (some ⟨σ (n + 3), 0, none⟩)) := rfl
      rw [eP]
      clear eP E hnew hσ hinj
      generalize allocN T w.drew 4 = wA at *
      generalize σ n = A at *
      generalize σ (n + 1) = B at *
      generalize σ (n + 2) = D3 at *
      generalize σ (n + 3) = D4 at *
      have f1 : ((((a'.put (some d1) (.pointer (some ⟨A, 0, none⟩))).put (some d2) (.pointer (some ⟨B, 0, none⟩))).put (some d3) (.pointer (some ⟨D3, 0, none⟩))).put (some d4) (.pointer (some ⟨D4, 0, none⟩))).tmps[d1]? = some (.pointer (some ⟨A, 0, none⟩)) := by
        rw [tmps_put (Ne.symm n14), tmps_put (Ne.symm n13), tmps_put (Ne.symm n12), tmps_put_same z1]
      have f2 : ((((a'.put (some d1) (.pointer (some ⟨A, 0, none⟩))).put (some d2) (.pointer (some ⟨B, 0, none⟩))).put (some d3) (.pointer (some ⟨D3, 0, none⟩))).put (some d4) (.pointer (some ⟨D4, 0, none⟩))).tmps[d2]? = some (.pointer (some ⟨B, 0, none⟩)) := by
        rw [tmps_put (Ne.symm n24), tmps_put (Ne.symm n23), tmps_put_same (by rw [tmps_put_size]; exact z2)]
      have f3 : ((((a'.put (some d1) (.pointer (some ⟨A, 0, none⟩))).put (some d2) (.pointer (some ⟨B, 0, none⟩))).put (some d3) (.pointer (some ⟨D3, 0, none⟩))).put (some d4) (.pointer (some ⟨D4, 0, none⟩))).tmps[d3]? = some (.pointer (some ⟨D3, 0, none⟩)) := by
        rw [tmps_put (Ne.symm n34), tmps_put_same (by rw [tmps_put_size, tmps_put_size]; exact z3)]
      have f4 : ((((a'.put (some d1) (.pointer (some ⟨A, 0, none⟩))).put (some d2) (.pointer (some ⟨B, 0, none⟩))).put (some d3) (.pointer (some ⟨D3, 0, none⟩))).put (some d4) (.pointer (some ⟨D4, 0, none⟩))).tmps[d4]? = some (.pointer (some ⟨D4, 0, none⟩)) := by
        rw [tmps_put_same (by rw [tmps_put_size, tmps_put_size, tmps_put_size]; exact z4)]
      have g1 : ∀ s v, (s = s1 ∨ s = s2 ∨ s = s3 ∨ s = s4) → a'.tmps[s]? = some v → ((((a'.put (some d1) (.pointer (some ⟨A, 0, none⟩))).put (some d2) (.pointer (some ⟨B, 0, none⟩))).put (some d3) (.pointer (some ⟨D3, 0, none⟩))).put (some d4) (.pointer (some ⟨D4, 0, none⟩))).tmps[s]? = some v := fun s v hs hv => by
        obtain ⟨k1, k2, k3, k4⟩ := ns s hs
        rw [tmps_put k4, tmps_put k3, tmps_put k2, tmps_put k1, hv]
      have hQ' := hQ A B D3 D4
      have w1 := g1 s1 _ (.inl rfl) v1
      have w2 := g1 s2 _ (.inr (.inl rfl)) v2
      have w3 := g1 s3 _ (.inr (.inr (.inl rfl))) v3
      have w4 := g1 s4 _ (.inr (.inr (.inr rfl))) v4
      clear g1 hQ
      generalize ((((a'.put (some d1) (.pointer (some ⟨A, 0, none⟩))).put (some d2) (.pointer (some ⟨B, 0, none⟩))).put (some d3) (.pointer (some ⟨D3, 0, none⟩))).put (some d4) (.pointer (some ⟨D4, 0, none⟩))) = F at *
      obtain ⟨_, _, _, t1⟩ := t1
      obtain ⟨_, _, _, t2⟩ := t2
      obtain ⟨_, _, _, t3⟩ := t3
      obtain ⟨_, _, _, t4⟩ := t4
      have k1 := Kp.store2 hkA N1.lo (.float .f64 p.1) (.float .f64 p.2)
      have k2 := Kp.store2 k1 N2.lo (.float .f64 q.1) (.float .f64 q.2)
      have k3 := Kp.store2 k2 N3.lo (.float .f64 r.1) (.float .f64 r.2)
      have k4 := Kp.store2 k3 N4.lo (.float .f64 s.1) (.float .f64 s.2)
      have M1 := ((N1.store p.1 p.2).other (Ne.symm i12) (.float .f64 q.1) (.float .f64 q.2)).other (Ne.symm i13) (.float .f64 r.1) (.float .f64 r.2)
      refine wpAnyC_store (g := 3) hst (by simpa using t1) r1 f1 w1 N1 ((hC _).2 k1) ?_
      refine wpAnyC_store (g := 2) hst (by simpa using t2) r2 f2 w2 (N2.other i12 _ _) ((hC _).2 k2) ?_
      refine wpAnyC_store (g := 1) hst (by simpa using t3) r3 f3 w3 ((N3.other i13 _ _).other i23 _ _) ((hC _).2 k3) ?_
      refine wpAnyC_store (g := 0) hst (by simpa using t4) r4 f4 w4 (((N4.other i14 _ _).other i24 _ _).other i34 _ _) ((hC _).2 k4) ?_
      exact ⟨r5, hQ' _ ⟨k4, M1.other (Ne.symm i14) _ _, (((N2.other i12 _ _).store _ _).other (Ne.symm i23) _ _).other (Ne.symm i24) _ _, (((N3.other i13 _ _).other i23 _ _).store _ _).other (Ne.symm i34) _ _, ((((N4.other i14 _ _).other i24 _ _).other i34 _ _).store _ _)⟩⟩
end
end Go.Proofs.YtohidpmkoehmcaaGreatDoor
