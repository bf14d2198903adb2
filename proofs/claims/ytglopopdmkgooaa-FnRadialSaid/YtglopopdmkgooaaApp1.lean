/-
  append of one cell to a row that has room: one store.
-/
import Derived.Test.YtglopopdmkgooaaApp
namespace PubFl
open Go Go.RowKit

theorem setRow_push (w : World) (g n : Nat) (cur : Array Value) (e : TypeId) (fz : Nat × Nat) (hg : w.heap[g]? = some (.cells cur e fz)) (hn : n < cur.size) (v : Value) :
    w.setRow g (cur.toList.take n ++ [v] ++ cur.toList.drop (n + 1)).toArray = w.setCell ⟨g, n, none⟩ v := by
  have hc : (cur.toList.take n ++ [v] ++ cur.toList.drop (n + 1)).toArray = cur.setIfInBounds n v := by
    apply Array.ext_getElem?
    intro i
    rw [Array.getElem?_setIfInBounds, List.getElem?_toArray, List.append_assoc]
    have hl : (cur.toList.take n).length = n := by simp; omega
    by_cases c : i < n
    · rw [List.getElem?_append_left (by rw [hl]; exact c), List.getElem?_take, if_pos c, if_neg (by omega), Array.getElem?_toList]
    · rw [List.getElem?_append_right (by rw [hl]; omega), hl]
      by_cases c2 : i = n
      · subst c2
        rw [Nat.sub_self, if_pos rfl, if_pos hn]; rfl
      · rw [if_neg (fun h => c2 h.symm), List.singleton_append, show i - n = (i - n - 1) + 1 by omega, List.getElem?_cons_succ, List.getElem?_drop, Array.getElem?_toList]
        congr 1; omega
  rw [hc]
  unfold World.setRow World.setCell
  congr 1
  apply Array.ext_getElem?
  intro i
  rw [Array.getElem?_modify, Array.getElem?_modify]
  by_cases c : g = i
  · subst c
    rw [if_pos rfl, if_pos rfl, hg]; rfl
  · rw [if_neg c, if_neg c]
section
variable {P : Program} (w : World)
theorem run_append_one (t ty e : TypeId) (i : TypeInfo) (ht : P.underlying t = some (.slice e)) (hi : P.info? e = some i) (hsz : i.size = 1)
    (g n cap : Nat) (cur : Array Value) (hg : w.heap[g]? = some (.cells cur e (0, 0))) (hc : cur.size = cap) (a : Addr) (c : Nat) (v : Value) (hv : w.cell? a = some v) (h1 : v.oneCell' = true) (hroom : n + 1 ≤ cap) :
    (Builtin.append_ #[t, t] ty #[.slice (some ⟨g, 0, none⟩) n cap, .slice (some a) 1 c]).run P w = .ok (.slice (some ⟨g, 0, none⟩) (n + 1) cap) (w.setCell ⟨g, n, none⟩ v) := by
  have h := run_append_room (P := P) w t ty e i ht hi g n cap cur hg a 1 c [v] (by rw [hsz]; rfl) (fun j u hu => by
    cases j with
    | zero =>
      have e : u = v := by simpa using hu.symm
      subst e
      have ha : a.add 0 = a := by cases a; simp [Addr.add]
      rw [ha]; exact hv
    | succ j => simp at hu) (fun u hu => by simp at hu; subst hu; exact h1) hroom (by rw [hsz]; simp; omega)
  rw [h, hsz, Nat.mul_one]
  rw [show n + [v].length = n + 1 from rfl, setRow_push w g n cur e (0, 0) hg (by omega) v]
theorem wpList_append_one {ops : Array Oper} {rest : List Oper} {o : Oper} {a : Act} {Q : Exit → Act → World → Prop} (hgd : o.guard = none) (s x : Operand) (t : TypeId)
    (ho : o.op = .call { callee := .builtin .append, args := #[s, x], argTypes := #[t, t] })
    (e : TypeId) (i : TypeInfo) (ht : P.underlying t = some (.slice e)) (hi : P.info? e = some i) (hsz : i.size = 1)
    (g n cap : Nat) (hs : a.eval s = .slice (some ⟨g, 0, none⟩) n cap) (hg : ∃ cur : Array Value, w.heap[g]? = some (.cells cur e (0, 0)) ∧ cur.size = cap)
    (ad : Addr) (c : Nat) (v : Value) (hx : a.eval x = .slice (some ad) 1 c) (hv : w.cell? ad = some v) (h1 : v.oneCell' = true) (hroom : n + 1 ≤ cap)
    (h : wpList P ops Q rest (a.put o.dst (.slice (some ⟨g, 0, none⟩) (n + 1) cap)) (w.setCell ⟨g, n, none⟩ v)) : wpList P ops Q (o :: rest) a w :=
  wpList_plain hgd fun _ hK => by
    obtain ⟨cur, hg, hc⟩ := hg
    have hr := run_append_one (P := P) w t o.type e i ht hi hsz g n cap cur hg hc ad c v hv h1 hroom
    unfold Oper.wp execOp
    simp only [ho, resolve, invoke, builtin, Sem.run_bind, Sem.run_pure, Result.andThen_ok, List.map_toArray, List.map_cons, List.map_nil, hs, hx, hr]
    exact hK _ _ h
end
/-- a row of so many cells of a kind -/
def RowObj (w : World) (g n : Nat) (e : TypeId) : Prop := ∃ cur : Array Value, w.heap[g]? = some (.cells cur e (0, 0)) ∧ cur.size = n
theorem RowObj.set {w : World} {g n : Nat} {e : TypeId} (h : RowObj w g n e) (b o : Nat) (v : Value) : RowObj (w.setCell ⟨b, o, none⟩ v) g n e := by
  obtain ⟨cur, hg, hc⟩ := h
  by_cases c : b = g
  · subst c
    refine ⟨cur.setIfInBounds o v, ?_, by simpa using hc⟩
    unfold World.setCell
    rw [Array.getElem?_modify, if_pos rfl, hg]; rfl
  · refine ⟨cur, ?_, hc⟩
    unfold World.setCell
    rw [Array.getElem?_modify, if_neg c, hg]
theorem RowObj.kp {w w' : World} {g n : Nat} {e : TypeId} (h : RowObj w g n e) (hg : g < w.heap.size) (k : Kp w w') : RowObj w' g n e := by
  obtain ⟨cur, hh, hc⟩ := h
  exact ⟨cur, (k.block g hg).trans hh, hc⟩
end PubFl
