/-
  spec.Hex, hex.EncodeToString: the digits of bytes.
  spec.Hex; wkb.MarshalToHex; impl.EncodeHex.
-/
import Derived.Test.YtnmokjgiilfdlaaGreatDoorMEncB
import Derived.Laws.IdiomStrings
set_option linter.all false
namespace Go.Proofs.YtnmokjgiilfdlaaGreatDoor
open PubFl Go.RowKit

attribute [local go_sem] cell_ext frozen_ext ext_setCell cell_store size_ext_eq lt_p0 lt_p1 lt_p2 lt_p3 lt_p4 lt_p5 lt_p6 lt_p7 lt_p8 lt_p9 lt_p10 lt_p11 lt_p12 lt_p13 lt_p14 lt_p15 lt_p16 lt_p17 lt_p18 lt_p19 lt_p20 lt_p21 lt_p22 lt_p23 lt_p24 lt_p25 lt_p26 lt_p27 lt_p28 lt_p29 lt_p30 lt_p31 lt_p32 lt_q1 lt_q2 lt_q3 lt_q4 lt_q5 lt_q6 lt_q7 lt_q8 lt_q9 lt_q10 lt_q11 lt_q12 lt_q13 lt_q14 lt_q15 lt_q16 lt_q17 lt_q18 lt_q19 lt_q20 lt_q21 lt_q22 lt_q23 lt_q24 lt_q25 lt_q26 lt_q27 lt_q28 lt_q29 lt_q30 lt_q31 lt_q32 run_fop run_store_float
attribute [local go_sem high] cmp_eql cmp_neq cmp_lss cmp_leq cmp_gtr cmp_geq

def hexD (n : Nat) : Nat := if n < 10 then 48 + n else 87 + n
theorem hexD_lt {n : Nat} (h : n < 16) : hexD n < 256 := by unfold hexD; split <;> omega
/-- the digits of bytes -/
def hexL (bs : List Nat) : List Nat := bs.flatMap fun b => [hexD (b / 16), hexD (b % 16)]
theorem hexL_snoc (bs : List Nat) (b : Nat) : hexL (bs ++ [b]) = hexL bs ++ [hexD (b / 16), hexD (b % 16)] := by unfold hexL; rw [List.flatMap_append]; simp
theorem hexL_length : ∀ bs : List Nat, (hexL bs).length = 2 * bs.length
  | [] => rfl
  | b :: bs => by
    show ([hexD (b / 16), hexD (b % 16)] ++ hexL bs).length = _
    rw [List.length_append, hexL_length bs]; simp; omega
theorem hexL_lt (bs : List Nat) (h : ∀ b ∈ bs, b < 256) : ∀ x ∈ hexL bs, x < 256 := by
  intro x hx
  unfold hexL at hx
  obtain ⟨b, hb, hx⟩ := List.mem_flatMap.1 hx
  have := h b hb
  rcases List.mem_cons.1 hx with rfl | hx
  · exact hexD_lt (by omega)
  · rcases List.mem_cons.1 hx with rfl | hx
    · exact hexD_lt (by omega)
    · simp at hx
/-- bytes as a text -/
def strB (bs : List Nat) : Value := .string ⟨(bs.map UInt8.ofNat).toArray⟩

theorem dig16 (n : Nat) (h : n < 16) (h' : n < (⟨#[48, 49, 50, 51, 52, 53, 54, 55, 56, 57, 97, 98, 99, 100, 101, 102]⟩ : ByteArray).size) : (((⟨#[48, 49, 50, 51, 52, 53, 54, 55, 56, 57, 97, 98, 99, 100, 101, 102]⟩ : ByteArray)[n]'h').toNat) = hexD n := by
  have : n = 0 ∨ n = 1 ∨ n = 2 ∨ n = 3 ∨ n = 4 ∨ n = 5 ∨ n = 6 ∨ n = 7 ∨ n = 8 ∨ n = 9 ∨ n = 10 ∨ n = 11 ∨ n = 12 ∨ n = 13 ∨ n = 14 ∨ n = 15 := by omega
  rcases this with rfl | rfl | rfl | rfl | rfl | rfl | rfl | rfl | rfl | rfl | rfl | rfl | rfl | rfl | rfl | rfl <;> rfl
theorem run_str {P : Program} (w : World) (src dst e : TypeId) (g cap : Nat) (bs : List Nat) (hs : P.underlying src = some (.slice e)) (he : P.underlying e = some (.int .u8)) (hd : P.underlying dst = some .string) (hb : ∀ b ∈ bs, b < 256) (ha : BytesAt w g 0 bs) :
    (convert src dst (.slice (some ⟨g, 0, none⟩) bs.length cap)).run P w = .ok (strB bs) w := by
  have h := run_convert_bytes_back w src dst e ⟨g, 0, none⟩ cap (bs.map UInt8.ofNat) hs he hd (fun j hj => by
    have hj' : j < bs.length := by simpa using hj
    rw [add_lit', ha j hj']
    have := hb _ (List.getElem_mem hj')
    simp only [List.getElem_map]
    congr 2
    have e : (UInt8.ofNat bs[j]).toNat = bs[j] := by
      rw [UInt8.toNat_ofNat']
      exact Nat.mod_eq_of_lt this
    rw [e])
  rwa [List.length_map] at h

set_option maxRecDepth 20000 in
set_option maxHeartbeats 1000000 in
theorem hexEnc_c (gd g off n cd c : Nat) (bs : List Nat) (hn : n = bs.length) (hsm : n ≤ 1000000000000) (hb : ∀ b ∈ bs, b < 256) (w : World) (hgd : gd < w.heap.size) (hz : ∀ j, w.frozen? ⟨gd, j, none⟩ = false) (hc : Cells w gd (2 * n)) (hg : g < w.heap.size) (hne : g ≠ gd) (ha : BytesAt w g off bs) :
    Calls Tryz.prog 83 #[.slice (some ⟨gd, 0, none⟩) (2 * n) cd, .slice (some ⟨g, off, none⟩) n c] w (fun e w' => e = .returned (.int .i64 ((2 * n : Nat) : Int)) ∧ w' = putB w gd 0 (hexL bs)) := by
  have Ha := Lib.hid ha
  have Hb := Lib.hid hb
  have Hc := Lib.hid hc
  have Hz := Lib.hid hz
  have Hn := Lib.hid hn
  clear ha hb hc hz hn
  go_enter Tryz.func83, Tryz.ntmps83
  go_wp2_with fail
  go_loopw [5, 10] (fun s5 s10 wr => ∃ k : Nat, k ≤ n ∧ s10 = .int .i64 k ∧ s5 = .int .i64 ((2 * k : Nat) : Int) ∧ wr = putB w gd 0 (hexL (bs.take k))) (fun _ s10 _ => n - (intOf s10).toNat)
  case atStart => exact ⟨0, Nat.zero_le _, rfl, rfl, rfl⟩
  case round =>
    obtain ⟨k, hkn, rfl, rfl, hw⟩ := hrel
    have hsz : wr.heap.size = w.heap.size := by rw [hw]; exact putB_size _ _ _ _
    have hgd' : gd < wr.heap.size := by omega
    have hg' : g < wr.heap.size := by omega
    have hn2 := Hn.out
    by_cases hlt : k < n
    · have hk1 : (k : Int) < (n : Int) := by omega
      have hlt2 : k < bs.length := by omega
      have hb1 := Hb.out _ (List.getElem_mem hlt2)
      have hld : wr.cell? ⟨g, off + k, none⟩ = some (.int .u8 ((bs[k]'hlt2 : Nat) : Int)) := by
        rw [hw, putB_other gd _ _ _ _ (fun e => absurd e hne)]
        exact Ha.out k hlt2
      have hC : Cells wr gd (2 * n) := by rw [hw]; exact Cells.put _ 0 Hc.out
      obtain ⟨x0, hx0⟩ := hC (2 * k) (by omega)
      obtain ⟨x1, hx1⟩ := hC (2 * k + 1) (by omega)
      have hfz : ∀ j, wr.frozen? ⟨gd, j, none⟩ = false := fun j => by rw [hw, putB_frozen]; exact Hz.out j
      have hz0 := hfz (2 * k)
      have hz1 := hfz (2 * k + 1)
      have hstep : putB w gd 0 (hexL (bs.take (k + 1))) = (wr.setCell ⟨gd, 2 * k, none⟩ (.int .u8 ((hexD ((bs[k]'hlt2) / 16) : Nat) : Int))).setCell ⟨gd, 2 * k + 1, none⟩ (.int .u8 ((hexD ((bs[k]'hlt2) % 16) : Nat) : Int)) := by
        rw [List.take_succ_eq_append_getElem hlt2, hexL_snoc, putB_append, ← hw, hexL_length, List.length_take, Nat.min_eq_left (by omega), Nat.zero_add]
        rfl
      obtain ⟨b, hbk⟩ : ∃ b, bs[k]'hlt2 = b := ⟨_, rfl⟩
      rw [hbk] at hld hb1 hstep
      have Hstep := Lib.hid hstep
      clear hstep hw hC hfz hbk hlt2 hn2
      go_wp2_with fail
      go_roundw
      case rel =>
        refine ⟨k + 1, by omega, by go_num, by first | rfl | (congr 1; omega) | go_num, ?_⟩
        rw [Hstep.out, dig16 _ (by omega), dig16 _ (by omega)]
      case measure => simp [intOf]; omega
    · obtain rfl : k = n := by omega
      rw [hn2, List.take_of_length_le (Nat.le_refl _)] at hw
      have Hw := Lib.hid hw
      clear hw hn2
      go_wp2_with fail
      go_ret
      exact ⟨by first | rfl | (congr 2; omega) | (congr 1; omega) | (simp; omega), Hw.out⟩

theorem encLen0_c (n : Nat) (w : World) (hn : n ≤ 1000000000000) : Calls Tryz.prog 82 #[.int .i64 (n : Int)] w (Ret w (.int .i64 ((n : Int) * 2))) := by
  go_enter Tryz.func82, Tryz.ntmps82
  go_wp2_with fail
  exact bodyPost_ret (v := .int .i64 ((n : Int) * 2)) (by simp [results, Tryz.results82, go_sem]) rfl (Ret.mk rfl (by repeat (first | (with_reducible exact Kp.refl _) | (with_reducible assumption) | (with_reducible apply Kp.ext) | (with_reducible apply Kp.alloc) | (with_reducible apply Kp.drew) | (with_reducible apply Kp.drewN) | (with_reducible refine Kp.setCell ?_ (by first | (dsimp only; omega) | (simp; omega) | (simp; done) | (simp [size_ext_eq]; omega)) _))))
theorem encLen_c (n : Nat) (w : World) (hn : n ≤ 1000000000000) : Calls Tryz.prog 82 #[.int .i64 (n : Int)] w (Ret w (.int .i64 ((2 * n : Nat) : Int))) := by
  have h := encLen0_c n w hn
  rwa [show (n : Int) * 2 = ((2 * n : Nat) : Int) by omega] at h
set_option maxRecDepth 20000 in
set_option maxHeartbeats 1000000 in
theorem hexStr_c (g off n c : Nat) (bs : List Nat) (hn : n = bs.length) (hsm : n ≤ 1000000000000) (hb : ∀ b ∈ bs, b < 256) (w : World) (hg : g < w.heap.size) (ha : BytesAt w g off bs) :
    Calls Tryz.prog 64 #[.slice (some ⟨g, off, none⟩) n c] w (Ret w (strB (hexL bs))) := by
  obtain ⟨i0, hi', hz0, hz1, hz2⟩ := info_parts infoU8
  have HL0 := fun w => encLen_c n w hsm
  have HE0 := fun (w : World) (L : Nat) (h1 h2 h3 h4 h5 h6) => hexEnc_c w.heap.size g off n L c bs hn hsm hb (w.alloc (.cells (madeCells #[.int .u8 0] L) 5)) h1 h2 h3 h4 h5 h6
  obtain ⟨L, hL⟩ : ∃ L, L = 2 * n := ⟨_, rfl⟩
  rw [← hL] at HE0 HL0
  have hmk : ∀ w, (Instr.makeSlice 30 (.int .i64 (L : Int)) (.int .i64 (L : Int))).run Tryz.prog w = .ok (.slice (some ⟨w.heap.size, 0, none⟩) L L) (w.alloc (.cells (madeCells #[.int .u8 0] L) 5)) := fun w => by
    have := run_make (P := Tryz.prog) w 30 5 i0 (.int .u8 0) Tryz.underlying30 hi' hz0 .i64 .i64 (L : Int) (L : Int) (by omega) (by omega) (by rw [hz2]; omega) (by omega)
    rw [this, hz1]
    simp
    rfl
  have hall : ∀ w : World, Cells (w.alloc (.cells (madeCells #[.int .u8 0] L) 5)) w.heap.size L := fun w i hi => by
    rw [World.cell?_alloc_mark]
    exact ⟨_, Array.getElem?_eq_getElem (by simpa [size_madeCells] using hi)⟩
  have HE := Lib.hid (fun (w' : World) (k : Kp w w') => HE0 w' L (by simp) (fun j => frozen_newS _ _ _ _) (hall w') (by simp; have := k.size; omega) (by have := k.size; omega) (ha.kp hg (k.alloc _)))
  have HK := Lib.hid (fun (w' : World) (k : Kp w w') => show Kp w (putB (w'.alloc (.cells (madeCells #[.int .u8 0] L) 5)) w'.heap.size 0 (hexL bs)) from
    (putB_kx (S := [w'.heap.size]) (by simp) (hexL bs) _ 0 (Kx.refl _ _)).kp (w0 := w) (k.alloc _) (by intro b hb; have := k.size; simp at hb; omega))
  have HC := Lib.hid (fun (w' : World) => by
    have h := run_str (P := Tryz.prog) (putB (w'.alloc (.cells (madeCells #[.int .u8 0] L) 5)) w'.heap.size 0 (hexL bs)) 30 9 5 w'.heap.size L (hexL bs) Tryz.underlying30 Tryz.underlying5 Tryz.underlying9 (hexL_lt bs hb) (putB_at (hexL bs) 0 (hall w') (by rw [hexL_length]; omega))
    rw [hexL_length, ← hn, ← hL] at h
    exact h)
  generalize strB (hexL bs) = sv at *
  have HL := Lib.hid HL0
  clear hn hb ha hall HE0 HL0 hL
  go_enter Tryz.func64, Tryz.ntmps64
  go_wp2_with (first | (go_at_call 82; (with_reducible refine (HL.out _).mono ?_); rintro e w1 ⟨rfl, u, hu⟩; have hk0 : Kp w w1 := (by rw [hu]; exact Kp.ext (Kp.refl w) u); have hcv := HC.out w1; clear hu) | (go_at_call 83; (with_reducible refine (HE.out _ hk0).mono ?_); rintro e w2 ⟨rfl, rfl⟩))
  go_ret
  exact Ret.mk rfl (HK.out _ hk0)
end Go.Proofs.YtnmokjgiilfdlaaGreatDoor

set_option linter.all false
namespace Go.Proofs.YtnmokjgiilfdlaaGreatDoor
open PubFl Go.RowKit

attribute [local go_sem] cell_ext frozen_ext ext_setCell cell_store size_ext_eq lt_p0 lt_p1 lt_p2 lt_p3 lt_p4 lt_p5 lt_p6 lt_p7 lt_p8 lt_p9 lt_p10 lt_p11 lt_p12 lt_p13 lt_p14 lt_p15 lt_p16 lt_p17 lt_p18 lt_p19 lt_p20 lt_p21 lt_p22 lt_p23 lt_p24 lt_p25 lt_p26 lt_p27 lt_p28 lt_p29 lt_p30 lt_p31 lt_p32 lt_q1 lt_q2 lt_q3 lt_q4 lt_q5 lt_q6 lt_q7 lt_q8 lt_q9 lt_q10 lt_q11 lt_q12 lt_q13 lt_q14 lt_q15 lt_q16 lt_q17 lt_q18 lt_q19 lt_q20 lt_q21 lt_q22 lt_q23 lt_q24 lt_q25 lt_q26 lt_q27 lt_q28 lt_q29 lt_q30 lt_q31 lt_q32 run_fop run_store_float
attribute [local go_sem high] cmp_eql cmp_neq cmp_lss cmp_leq cmp_gtr cmp_geq

theorem strB_own {P : Program} (w : World) (src dst e : TypeId) (g cap n : Nat) (bs : List Nat) (hn : n = bs.length) (hs : P.underlying src = some (.slice e)) (he : P.underlying e = some (.int .u8)) (hd : P.underlying dst = some .string) (hb : ∀ b ∈ bs, b < 256) (ha : BytesAt w g 0 bs) :
    (convert src dst (.slice (some ⟨g, 0, none⟩) n cap)).run P w = .ok (strB bs) w := by
  subst hn
  exact run_str w src dst e g cap bs hs he hd hb ha
theorem two_bytes (w : World) (a b : Nat) (t : TypeId) : BytesAt (w.alloc (.cells #[.int .u8 (a : Int), .int .u8 (b : Int)] t)) w.heap.size 0 [a, b] := fun i hi => by
  rw [World.cell?_alloc_mark]
  have : i = 0 ∨ i = 1 := by simp at hi; omega
  rcases this with rfl | rfl <;> rfl
theorem bits_and15 (b : Nat) (h : b < 256) : bits .and .u8 (b : Int) 15 = (b : Int) % 16 := by
  have e : ∀ b : Fin 256, bits .and .u8 ((b : Nat) : Int) 15 = ((b : Nat) : Int) % 16 := by decide +kernel
  exact e ⟨b, h⟩
set_option maxRecDepth 20000 in
set_option maxHeartbeats 2000000 in
theorem hex_c (g off n c : Nat) (bs : List Nat) (hn : n = bs.length) (hsm : n ≤ 1000000000000) (hb : ∀ b ∈ bs, b < 256) (w : World) (hg : g < w.heap.size) (ha : BytesAt w g off bs) :
    Calls Tryz.prog 24 #[.slice (some ⟨g, off, none⟩) n c] w (Ret w (strB (hexL bs))) := by
  obtain ⟨i0, hi, hz0, hz1, hz2⟩ := info_parts infoU8
  have Ha := Lib.hid ha
  have Hb := Lib.hid hb
  have Hn := Lib.hid hn
  clear ha hb hn
  go_enter Tryz.func24, Tryz.ntmps24
  go_wp2_with fail
  go_loopw [3, 9] (fun s3 s9 wr => ∃ k : Nat, k ≤ n ∧ s9 = .int .i64 k ∧ Kp w wr ∧ OwnB w.heap.size wr s3 (hexL (bs.take k))) (fun _ s9 _ => n - (intOf s9).toNat)
  case atStart => exact ⟨0, Nat.zero_le _, rfl, (by repeat (first | (with_reducible exact Kp.refl _) | (with_reducible assumption) | (with_reducible apply Kp.ext) | (with_reducible apply Kp.alloc) | (with_reducible apply Kp.drew) | (with_reducible apply Kp.drewN) | (with_reducible refine Kp.setCell ?_ (by first | (dsimp only; omega) | (simp; omega) | (simp; done) | (simp [size_ext_eq]; omega)) _))), OwnB.lit w [] (Nat.le_refl _) (by simp)⟩
  case round =>
    obtain ⟨k, hkn, rfl, hkp, hown⟩ := hrel

    have hn2 := Hn.out
    by_cases hlt : k < n
    · have hk1 : (k : Int) < (n : Int) := by omega
      have hlt2 : k < bs.length := by omega
      have hb1 := Hb.out _ (List.getElem_mem hlt2)
      have hld := (Ha.out.kp hg hkp) k hlt2
      have hgr : g < wr.heap.size := Nat.lt_of_lt_of_le hg hkp.size
      have hsn : hexL (bs.take (k + 1)) = hexL (bs.take k) ++ [hexD ((bs[k]'hlt2) / 16), hexD ((bs[k]'hlt2) % 16)] := by
        rw [List.take_succ_eq_append_getElem hlt2, hexL_snoc]
      have hl : (hexL (bs.take k)).length = 2 * k := by rw [hexL_length, List.length_take]; omega
      obtain ⟨b, hbk⟩ : ∃ b, bs[k]'hlt2 = b := ⟨_, rfl⟩
      rw [hbk] at hld hb1 hsn
      obtain ⟨acc, hacc⟩ : ∃ acc, hexL (bs.take k) = acc := ⟨_, rfl⟩
      rw [hacc] at hsn hl hown
      have Hsn := Lib.hid hsn
      have Hl := Lib.hid hl
      obtain ⟨g3, cap3, rfl, hg3b, hg3, hcap3, _, _⟩ := hown.form
      have hown2 : wr.ownsRow w.heap.size 5 1 (.slice (some ⟨g3, 0, none⟩) (2 * k) cap3) (2 * k) (bc acc) := by have h := hown.own; rw [hl] at h; exact h
      have Ho := Lib.hid hown2
      rw [hl]
      rw [hl] at hcap3
      clear hown2
      clear hsn hacc hbk hlt2 hn2 hl hown
      have hbit : bits .and .u8 (b : Int) 15 = (b : Int) % 16 := bits_and15 b hb1
      have q1 : ∀ w, (Instr.index 9 (.string ⟨#[48, 49, 50, 51, 52, 53, 54, 55, 56, 57, 97, 98, 99, 100, 101, 102]⟩) (.int .u8 ((b : Int) / 16))).run Tryz.prog w = .ok (.int .u8 ((hexD (b / 16) : Nat) : Int)) w := fun w => by
        rw [run_index_string w _ _ _ _ Tryz.underlying9, dif_pos ⟨by omega, by show (b : Int) / 16 < 16; omega⟩, dig16 _ (by omega), show ((b : Int) / 16).toNat = b / 16 by omega]
      have q2 : ∀ w, (Instr.index 9 (.string ⟨#[48, 49, 50, 51, 52, 53, 54, 55, 56, 57, 97, 98, 99, 100, 101, 102]⟩) (.int .u8 ((b : Int) % 16))).run Tryz.prog w = .ok (.int .u8 ((hexD (b % 16) : Nat) : Int)) w := fun w => by
        rw [run_index_string w _ _ _ _ Tryz.underlying9, dif_pos ⟨by omega, by show (b : Int) % 16 < 16; omega⟩, dig16 _ (by omega), show ((b : Int) % 16).toNat = b % 16 by omega]
      go_wp2_with fail
      go_region_law (refine step_append_own2 rfl (.tmp 13) (.tmp 20) 30 rfl w.heap.size 5 i0 (.int .u8 0) 1 1 Tryz.underlying30 hi hz0 hz1 hz2 rfl (by decide) (.slice (some ⟨g3, 0, none⟩) (2 * k) cap3) (2 * k) (bc acc) (by first | rfl | (simp [Act.eval, Act.put]; done)) (own_kp Ho.out (show Kp wr _ from (by repeat (first | (with_reducible exact Kp.refl _) | (with_reducible assumption) | (with_reducible apply Kp.ext) | (with_reducible apply Kp.alloc) | (with_reducible apply Kp.drew) | (with_reducible apply Kp.drewN) | (with_reducible refine Kp.setCell ?_ (by first | (dsimp only; omega) | (simp; omega) | (simp; done) | (simp [size_ext_eq]; omega)) _))))) ⟨wr.heap.size, 0, none⟩ 2 2 (bc [hexD (b / 16), hexD (b % 16)]) (by first | rfl | (simp [Act.eval, Act.put]; done)) rfl (BytesAt.cells (two_bytes _ _ _ _)) (bc_one _) (by unfold maxLen; have := Hl.out; omega) (by have := Hl.out; omega) (by first | (simp; done) | (simp; omega)) ?_; intro v' w3 hown hgrow hblk)
      all_goals
        have hb2 : Kp w w3 := Below.grown ((hkp.drew).alloc _) hgrow (Nat.le_trans hkp.size (by simp)) (fun q hq => by injection hq with hq; rw [← hq]; exact hg3b)
        have HO := Lib.hid (show OwnB w.heap.size w3 v' (hexL (bs.take (k + 1))) from ⟨by
          rw [Hsn.out, List.length_append, Hl.out, bc_append]
          exact hown, by rcases hblk with e | e <;> exact ⟨_, e.trans rfl⟩⟩)
        clear hown hgrow hblk
        go_wp2_with fail
        go_roundw
      all_goals first
        | exact ⟨k + 1, by omega, by go_num, hb2, HO.out⟩
        | (simp [intOf]; omega)
    · obtain rfl : k = n := by omega
      rw [hn2, List.take_of_length_le (Nat.le_refl _)] at hown
      obtain ⟨g3, cap3, rfl, _, hg3, hcap3, _, hat3⟩ := hown.form
      have hcv := strB_own (P := Tryz.prog) wr 30 9 5 g3 cap3 _ (hexL bs) rfl Tryz.underlying30 Tryz.underlying5 Tryz.underlying9 (hexL_lt bs Hb.out) hat3
      clear hown hat3 hcap3 hn2
      generalize strB (hexL bs) = sv at *
      generalize (hexL bs).length = m at *
      go_wp2_with fail
      go_ret
      exact Ret.mk rfl hkp
end Go.Proofs.YtnmokjgiilfdlaaGreatDoor
