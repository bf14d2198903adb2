/-
  ewkb.Marshal, impl.EncodeWith: the bytes of the extended form.
-/
import Derived.Test.YtnmokjgiilfdlaaGreatDoorMEncB
set_option linter.all false
namespace Go.Proofs.YtnmokjgiilfdlaaGreatDoor
open PubFl Go.RowKit

attribute [local go_sem] cell_ext frozen_ext ext_setCell cell_store size_ext_eq lt_p0 lt_p1 lt_p2 lt_p3 lt_p4 lt_p5 lt_p6 lt_p7 lt_p8 lt_p9 lt_p10 lt_p11 lt_p12 lt_p13 lt_p14 lt_p15 lt_p16 lt_p17 lt_p18 lt_p19 lt_p20 lt_p21 lt_p22 lt_p23 lt_p24 lt_p25 lt_p26 lt_p27 lt_p28 lt_p29 lt_p30 lt_p31 lt_p32 lt_q1 lt_q2 lt_q3 lt_q4 lt_q5 lt_q6 lt_q7 lt_q8 lt_q9 lt_q10 lt_q11 lt_q12 lt_q13 lt_q14 lt_q15 lt_q16 lt_q17 lt_q18 lt_q19 lt_q20 lt_q21 lt_q22 lt_q23 lt_q24 lt_q25 lt_q26 lt_q27 lt_q28 lt_q29 lt_q30 lt_q31 lt_q32 run_fop run_store_float
attribute [local go_sem high] cmp_eql cmp_neq cmp_lss cmp_leq cmp_gtr cmp_geq

theorem form_sys_len (d : Nat) (s : Sh) (sys : Nat) (big turns : Bool) : (formSh (d + 1) s sys big turns).length = (formSh (d + 1) s 0 big turns).length + exB (decide (sys ≠ 0)) := by
  have hh : ∀ k, (headB k sys big).length = (headB k 0 big).length + exB (decide (sys ≠ 0)) := fun k => by
    rw [headB_length, headB_length]
    unfold exB
    by_cases h : sys = 0 <;> simp [h]
  have hacc : ∀ (k : Nat) (q : List Nat) (f : Nat → List Nat) (m : Nat), (accB (headB k sys big ++ q) f m).length = (accB (headB k 0 big ++ q) f m).length + exB (decide (sys ≠ 0)) := fun k q f m => by
    rw [accB_length, accB_length, List.length_append, List.length_append, hh k]
    omega
  unfold formSh
  split
  · rw [List.length_append, List.length_append, hh 1]; omega
  split
  · rw [List.length_append, List.length_append, List.length_append, List.length_append, hh 2]; omega
  split
  · exact hacc _ _ _ _
  split
  · exact hacc _ _ _ _
  split
  · exact hacc _ _ _ _
  split
  · exact hacc _ _ _ _
  · exact hacc _ _ _ _

theorem newEncK_c (v : Value) (w : World) : Calls Tryz.prog 70 #[.iface 80 v] w (RetW1 (.pointer (some ⟨w.heap.size + 1, 0, none⟩)) ((w.alloc (.cells #[.slice none 0 0, .iface 80 v, .int .u8 0] 164)).alloc (.cells #[.int .i64 4326, .pointer (some ⟨w.heap.size, 0, none⟩)] 190))) := by
  go_enter Tryz.func70, Tryz.ntmps70
  go_wp2_with (first | (go_at_call 65; (with_reducible refine (newEncC_c _ _).mono ?_); rintro e w1 ⟨rfl, rfl⟩) | (go_at_call 66; (with_reducible refine (setOrdC_c _ 0 _ (by simp) 0 (by simp) (by simp)).mono ?_); rintro e w1 ⟨rfl, rfl⟩))
  go_ret
  exact ⟨rfl, rfl⟩
theorem setOrdK_c (gW gE : Nat) (o : Int) (w : World) (hW : gW < w.heap.size) (hp : w.cell? ⟨gW, 1, none⟩ = some (.pointer (some ⟨gE, 0, none⟩))) (hg : gE < w.heap.size) (x : Int) (hc : w.cell? ⟨gE, 2, none⟩ = some (.int .u8 x)) (hz : w.frozen? ⟨gE, 2, none⟩ = false) : Calls Tryz.prog 72 #[.pointer (some ⟨gW, 0, none⟩), .int .u8 o] w (RetW1 (.pointer (some ⟨gW, 0, none⟩)) (w.setCell ⟨gE, 2, none⟩ (.int .u8 o))) := by
  go_enter Tryz.func72, Tryz.ntmps72
  go_wp2_with (go_at_call 66; (with_reducible refine (setOrdC_c _ o _ hg x hc hz).mono ?_); rintro e w1 ⟨rfl, rfl⟩)
  go_ret
  exact ⟨rfl, rfl⟩
theorem setSrid_c (gW : Nat) (n : Int) (w : World) (hW : gW < w.heap.size) (x : Int) (hc : w.cell? ⟨gW, 0, none⟩ = some (.int .i64 x)) (hz : w.frozen? ⟨gW, 0, none⟩ = false) : Calls Tryz.prog 71 #[.pointer (some ⟨gW, 0, none⟩), .int .i64 n] w (RetW1 (.pointer (some ⟨gW, 0, none⟩)) (w.setCell ⟨gW, 0, none⟩ (.int .i64 n))) := by
  go_enter Tryz.func71, Tryz.ntmps71
  go_wp2_with fail
  go_ret
  exact ⟨rfl, rfl⟩
theorem ewkbEnc_c (gW gE gB gD cap : Nat) (big : Bool) (bs qs : List Nat) (v : Value) (n : Int) (w : World) (hW : gW < w.heap.size) (h0 : w.cell? ⟨gW, 0, none⟩ = some (.int .i64 n)) (hp : w.cell? ⟨gW, 1, none⟩ = some (.pointer (some ⟨gE, 0, none⟩))) (h : Calls Tryz.prog 67 #[.pointer (some ⟨gE, 0, none⟩), v, .int .i64 n] w (RetN gE gB gD cap big bs qs w)) :
    Calls Tryz.prog 73 #[.pointer (some ⟨gW, 0, none⟩), v, .slice none 0 0] w (RetN gE gB gD cap big bs qs w) := by
  have H := Lib.hid h
  clear h
  go_enter Tryz.func73, Tryz.ntmps73
  go_wp2_with (go_at_call 67; (with_reducible refine (H.out).mono ?_); rintro e w1 ⟨gb, rfl, hr⟩)
  go_ret
  exact ⟨gb, rfl, hr⟩
theorem encN_newK (w0 : World) (L : Nat) (hL : L ≤ 1000000000000) (big : Bool) (z : Array Value) (hz : z.size = L) (TB TE TW : TypeId) (n1 n2 : Nat) (h1 : n1 = w0.heap.size + 1) (h2 : n2 = w0.heap.size + 1 + 1) (sv : Value) :
    EncN ((((w0.alloc (.cells z 5)).alloc (.cells #[.slice (some ⟨w0.heap.size, 0, none⟩) 0 L, .int .i64 0, .int .i8 0] TB)).alloc (.cells #[.slice none 0 0, .iface 80 (.pointer (some ⟨n1, 0, none⟩)), .int .u8 (ordN big)] TE)).alloc (.cells #[sv, .pointer (some ⟨n2, 0, none⟩)] TW)) n2 n1 w0.heap.size L big [] := by
  subst h1 h2
  refine ⟨by simp [go_sem], by simp [go_sem], by simp [go_sem], fun j => ?_, by simp, ⟨by simp [go_sem], by simp [go_sem], ⟨0, by simp [go_sem]⟩, fun j => ?_, ⟨z, ?_, hz, rfl⟩, by omega, by simp, by simp, hL⟩, by omega, by omega⟩
  · simp [go_sem]
  · simp [go_sem]
  · rw [heap_alloc_old, heap_alloc_old, heap_alloc_old, heap_alloc_new] <;> simp <;> omega

set_option maxRecDepth 20000 in
set_option maxHeartbeats 2000000 in
theorem marshalK_c (big : Bool) (sys : Nat) (hsys : sys ≤ 999999) (d : Nat) (hd : d ≤ 3) (s : Sh) (lo hi : Nat) (v : Value) (gO cO : Nat) (w : World) (hg : GeoB (d + 1) lo hi w v s) (hok : cntOk (d + 1) s = true) (hsm : Small (d + 1) s) (hbits : BitsSh (d + 1) s) (hle : hi ≤ w.heap.size) (hO : gO < w.heap.size) (hcO : w.cell? ⟨gO, 0, none⟩ = some (.int .u8 (ordN big))) :
    Calls Tryz.prog 50 #[v, .int .i64 (sys : Int), .slice (some ⟨gO, 0, none⟩) 1 cO] w (RetMar w (formSh (d + 1) s sys big false)) := by
  have hlen : (formSh (d + 1) s sys big false).length ≤ 1000000000000 := by
    have h1 := formSh_len (d := d + 1) sys big false hok hsm
    have h2 : 41 ^ (d + 1) ≤ 41 ^ 4 := Nat.pow_le_pow_right (by decide) (by omega)
    have h3 : 200000 * 41 ^ (d + 1) ≤ 200000 * 41 ^ 4 := Nat.mul_le_mul_left _ h2
    exact Nat.le_trans h1 (Nat.le_trans h3 (by decide))
  have hpos : 0 < (formSh (d + 1) s sys big false).length := form_pos d s sys big false
  have hgl := geomLen_c big (d + 1) (by omega) s lo hi v (decide (sys ≠ 0)) w hg hok hsm hbits hle
  rw [← form_sys_len] at hgl
  obtain ⟨tv, uv, rfl⟩ := hg.iface
  obtain ⟨i0, hi', hz0, hz1, hz2⟩ := info_parts infoU8
  have HE := Lib.hid (fun (w' : World) (hk : Kp w w') (gE gB gD : Nat) (h1 : w.heap.size ≤ gE) (h2 : w.heap.size ≤ gB) (h3 : w.heap.size ≤ gD) (he : EncN w' gE gB gD (formSh (d + 1) s sys big false).length big []) =>
    encN_c gE gB gD _ big d s sys hsys lo hi _ [] w' (GeoB.keep hg (Agree.of_kp hk hle) hk.size) hok hsm hbits (Nat.le_trans hle hk.size) (fun b hb => by simp at hb; omega) he (by simp))
  generalize formSh (d + 1) s sys big false = bs at *
  obtain ⟨L, hL⟩ : ∃ L, bs.length = L := ⟨_, rfl⟩
  rw [hL] at hgl hlen hpos HE
  have HGL := Lib.hid (fun (b : Bool) (hb : b = decide (sys ≠ 0)) => by rw [← hb] at hgl; exact hgl)
  have hmk : ∀ w, (Instr.makeSlice 30 (.int .i64 0) (.int .i64 (L : Int))).run Tryz.prog w = .ok (.slice (some ⟨w.heap.size, 0, none⟩) 0 L) (w.alloc (.cells (madeCells #[.int .u8 0] L) 5)) := fun w => by
    have := run_make (P := Tryz.prog) w 30 5 i0 (.int .u8 0) Tryz.underlying30 hi' hz0 .i64 .i64 0 (L : Int) (by omega) (by omega) (by rw [hz2]; omega) (by omega)
    rw [this, hz1]
    simp
    rfl
  have HL := Lib.hid hL
  clear hg hok hsm hbits hL hgl
  have hb := Lib.hid hcO
  go_enter Tryz.func50, Tryz.ntmps50
  go_wp2_with (first | (go_at_call 61; (with_reducible refine (HGL.out _ (by first | rfl | (simp; done) | (by_cases h0 : sys = 0 <;> simp [h0]))).mono ?_); rintro e w1 ⟨rfl, u, hu⟩; have hk0 : Kp w w1 := (by rw [hu]; exact Kp.ext (Kp.refl w) u); have hc1 := Kp.cell hk0 hb.out hO; have hO1 := Nat.lt_of_lt_of_le hO hk0.size; clear hu) | (go_at_call 60; (with_reducible refine (newBuf_c _ _ _ _).mono ?_); rintro e w2 ⟨rfl, rfl⟩) | (go_at_call 70; (with_reducible refine (newEncK_c _ _).mono ?_); rintro e w3 ⟨rfl, rfl⟩) | (go_at_call 71; (with_reducible refine (setSrid_c _ _ _ (by simp) 4326 (by simp [go_sem]) (by simp [go_sem])).mono ?_); rintro e w4 ⟨rfl, rfl⟩) | (go_at_call 72; (with_reducible refine (setOrdK_c _ (w1.heap.size + 1 + 1) _ _ (by simp) (by simp [go_sem]) (by simp) 0 (by simp [go_sem]) (by simp [go_sem])).mono ?_); rintro e w4 ⟨rfl, rfl⟩) | (go_at_call 73; (with_reducible refine (ewkbEnc_c _ (w1.heap.size + 1 + 1) (w1.heap.size + 1) w1.heap.size L big [] bs _ _ _ (by simp) (by simp [go_sem]) (by simp [go_sem]) (HE.out _ (by repeat (first | (with_reducible exact Kp.refl _) | (with_reducible assumption) | (with_reducible apply Kp.ext) | (with_reducible apply Kp.alloc) | (with_reducible apply Kp.drew) | (with_reducible apply Kp.drewN) | (with_reducible refine Kp.setCell ?_ (by first | (dsimp only; omega) | (simp; omega) | (simp; done) | (simp [size_ext_eq]; omega)) _))) _ _ _ (by have := hk0.size; omega) (by have := hk0.size; omega) hk0.size (encN_newK w1 L hlen big _ (by simp [size_madeCells]) _ _ _ _ _ rfl rfl _))).mono ?_); rintro e w5 ⟨gb, rfl, hgb, he5, hk5⟩; rw [List.nil_append] at he5; have k5 : Kp w w5 := (hk5.kp (w0 := w) (by repeat (first | (with_reducible exact Kp.refl _) | (with_reducible assumption) | (with_reducible apply Kp.ext) | (with_reducible apply Kp.alloc) | (with_reducible apply Kp.drew) | (with_reducible apply Kp.drewN) | (with_reducible refine Kp.setCell ?_ (by first | (dsimp only; omega) | (simp; omega) | (simp; done) | (simp [size_ext_eq]; omega)) _))) (by intro b hb; have := hk0.size; simp at hb hgb; omega)); have hb5 : BytesAt w5 w1.heap.size 0 bs := he5.buf.bytes; have hlt5 : w1.heap.size < w5.heap.size := he5.buf.ltD; have HLn := Lib.hid (fun w' (k : Kp w5 w') => len_at HL.out (bufLen_c _ _ _ _ w' (he5.kp k).buf)); have HBy := Lib.hid (fun w' (k : Kp w5 w') => bytes_at HL.out (bufBytes_c _ _ _ _ w' (he5.kp k).buf)); have Hb5 := Lib.hid hb5; clear he5 hk5 hgb hb5) | (go_at_call 62; (first | (with_reducible refine (Ret.at_ext (HLn.out _ (by repeat (first | (with_reducible exact Kp.refl _) | (with_reducible assumption) | (with_reducible apply Kp.ext) | (with_reducible apply Kp.alloc) | (with_reducible apply Kp.drew) | (with_reducible apply Kp.drewN) | (with_reducible refine Kp.setCell ?_ (by first | (dsimp only; omega) | (simp; omega) | (simp; done) | (simp [size_ext_eq]; omega)) _))))).mono ?_) | (with_reducible refine (HLn.out _ (by repeat (first | (with_reducible exact Kp.refl _) | (with_reducible assumption) | (with_reducible apply Kp.ext) | (with_reducible apply Kp.alloc) | (with_reducible apply Kp.drew) | (with_reducible apply Kp.drewN) | (with_reducible refine Kp.setCell ?_ (by first | (dsimp only; omega) | (simp; omega) | (simp; done) | (simp [size_ext_eq]; omega)) _)))).mono ?_)); rintro e w' ⟨rfl, u, rfl⟩) | (go_at_call 46; (first | (with_reducible refine (Ret.at_ext (HBy.out _ (by repeat (first | (with_reducible exact Kp.refl _) | (with_reducible assumption) | (with_reducible apply Kp.ext) | (with_reducible apply Kp.alloc) | (with_reducible apply Kp.drew) | (with_reducible apply Kp.drewN) | (with_reducible refine Kp.setCell ?_ (by first | (dsimp only; omega) | (simp; omega) | (simp; done) | (simp [size_ext_eq]; omega)) _))))).mono ?_) | (with_reducible refine (HBy.out _ (by repeat (first | (with_reducible exact Kp.refl _) | (with_reducible assumption) | (with_reducible apply Kp.ext) | (with_reducible apply Kp.alloc) | (with_reducible apply Kp.drew) | (with_reducible apply Kp.drewN) | (with_reducible refine Kp.setCell ?_ (by first | (dsimp only; omega) | (simp; omega) | (simp; done) | (simp [size_ext_eq]; omega)) _)))).mono ?_)); rintro e w' ⟨rfl, u, rfl⟩))
  refine bodyPost_ret (v := .tuple #[.slice (some ⟨w1.heap.size, 0, none⟩) L L, .nilIface]) (by simp [results, Tryz.results50, go_sem]) rfl ?_
  refine ⟨w1.heap.size, L, _, by rw [HL.out], ext_of (show Kp w _ from (by repeat (first | (with_reducible exact Kp.refl _) | (with_reducible assumption) | (with_reducible apply Kp.ext) | (with_reducible apply Kp.alloc) | (with_reducible apply Kp.drew) | (with_reducible apply Kp.drewN) | (with_reducible refine Kp.setCell ?_ (by first | (dsimp only; omega) | (simp; omega) | (simp; done) | (simp [size_ext_eq]; omega)) _)))), hk0.size, ?_, by rw [HL.out]; exact Nat.le_refl _, Hb5.out.kp hlt5 (by repeat (first | (with_reducible exact Kp.refl _) | (with_reducible assumption) | (with_reducible apply Kp.ext) | (with_reducible apply Kp.alloc) | (with_reducible apply Kp.drew) | (with_reducible apply Kp.drewN) | (with_reducible refine Kp.setCell ?_ (by first | (dsimp only; omega) | (simp; omega) | (simp; done) | (simp [size_ext_eq]; omega)) _)))⟩
  exact Nat.lt_of_lt_of_le hlt5 (Kp.size (show Kp w5 _ from (by repeat (first | (with_reducible exact Kp.refl _) | (with_reducible assumption) | (with_reducible apply Kp.ext) | (with_reducible apply Kp.alloc) | (with_reducible apply Kp.drew) | (with_reducible apply Kp.drewN) | (with_reducible refine Kp.setCell ?_ (by first | (dsimp only; omega) | (simp; omega) | (simp; done) | (simp [size_ext_eq]; omega)) _)))))

set_option maxRecDepth 20000 in
set_option maxHeartbeats 2000000 in
theorem encodeWith_c (big : Bool) (sys : Nat) (hsys : sys ≤ 999999) (d : Nat) (hd : d ≤ 3) (s : Sh) (lv pv : Value) (w : World) (hs : ShIn (d + 1) w lv pv s) (hok : cntOk (d + 1) s = true) (hsm : Small (d + 1) s) :
    Calls Tryz.prog 28 #[.agg #[.int .i64 s.kind, lv, pv], .int .i64 (sys : Int), .bool big] w (RetEnc w (formSh (d + 1) s sys big false)) := by
  have hbits := hs.bits
  have HG := Lib.hid (fun w' (k : Kp w w') => geometry_c (d + 1) s lv pv w' (hs.kp k) hok hsm)
  have hlen : (formSh (d + 1) s sys big false).length ≤ 1000000000000 := by
    have h1 := formSh_len (d := d + 1) sys big false hok hsm
    have h2 : 41 ^ (d + 1) ≤ 41 ^ 4 := Nat.pow_le_pow_right (by decide) (by omega)
    have h3 : 200000 * 41 ^ (d + 1) ≤ 200000 * 41 ^ 4 := Nat.mul_le_mul_left _ h2
    exact Nat.le_trans h1 (Nat.le_trans h3 (by decide))
  have HM := Lib.hid (fun (w0 : World) (lo hi : Nat) (v : Value) (gO cO : Nat) (w' : World) (hg : GeoB (d + 1) lo hi w0 v s) (hle : hi ≤ w0.heap.size) (k : Kp w0 w') (hO : gO < w'.heap.size) (hcO : w'.cell? ⟨gO, 0, none⟩ = some (.int .u8 (ordN big))) =>
    marshalK_c big sys hsys d hd s lo hi v gO cO w' (GeoB.keep hg (Agree.of_kp k hle) k.size) hok hsm hbits (Nat.le_trans hle k.size) hO hcO)
  obtain ⟨i0, hi, hz0, hz1, hz2⟩ := info_parts infoU8
  obtain ⟨⟨q1, m1, d1, rfl⟩, q2, m2, d2, rfl⟩ := hs.form
  generalize formSh (d + 1) s sys big false = bs at *
  generalize s.kind = K at *
  obtain ⟨L, hL⟩ : ∃ L, bs.length = L := ⟨_, rfl⟩
  rw [hL] at hlen
  have HL := Lib.hid hL
  clear hs hok hsm hbits hL
  go_enter Tryz.func28, Tryz.ntmps28
  go_wp2_with (first | (go_at_call 38; (with_reducible refine (HG.out _ (by repeat (first | (with_reducible exact Kp.refl _) | (with_reducible assumption) | (with_reducible apply Kp.ext) | (with_reducible apply Kp.alloc) | (with_reducible apply Kp.drew) | (with_reducible apply Kp.drewN) | (with_reducible refine Kp.setCell ?_ (by first | (dsimp only; omega) | (simp; omega) | (simp; done) | (simp [size_ext_eq]; omega)) _)))).mono ?_); rintro e w1 ⟨v, u, rfl, hu, hg⟩; have hk0 : Kp w w1 := (by rw [hu]; exact (by repeat (first | (with_reducible exact Kp.refl _) | (with_reducible assumption) | (with_reducible apply Kp.ext) | (with_reducible apply Kp.alloc) | (with_reducible apply Kp.drew) | (with_reducible apply Kp.drewN) | (with_reducible refine Kp.setCell ?_ (by first | (dsimp only; omega) | (simp; omega) | (simp; done) | (simp [size_ext_eq]; omega)) _)))); clear hu; obtain ⟨tv, uv, rfl⟩ := hg.iface; have Hg := Lib.hid hg; clear hg) | (go_at_call 40; (first | (with_reducible refine (Ret.at_ext (order_c _ _)).mono ?_) | (with_reducible refine (order_c _ _).mono ?_)); rintro e w' ⟨rfl, u, rfl⟩) | (go_at_call 50; (with_reducible refine (HM.out w1 _ _ _ _ _ _ Hg.out (Nat.le_refl _) (by repeat (first | (with_reducible exact Kp.refl _) | (with_reducible assumption) | (with_reducible apply Kp.ext) | (with_reducible apply Kp.alloc) | (with_reducible apply Kp.drew) | (with_reducible apply Kp.drewN) | (with_reducible refine Kp.setCell ?_ (by first | (dsimp only; omega) | (simp; omega) | (simp; done) | (simp [size_ext_eq]; omega)) _))) (by simp [size_ext_eq]) (by simp [go_sem])).mono ?_); rintro e w2 ⟨gM, cM, u2, rfl, hu2, hgM, hlM, hcM, hbM⟩; have hk2 : Kp w1 w2 := (by rw [hu2]; exact (by repeat (first | (with_reducible exact Kp.refl _) | (with_reducible assumption) | (with_reducible apply Kp.ext) | (with_reducible apply Kp.alloc) | (with_reducible apply Kp.drew) | (with_reducible apply Kp.drewN) | (with_reducible refine Kp.setCell ?_ (by first | (dsimp only; omega) | (simp; omega) | (simp; done) | (simp [size_ext_eq]; omega)) _)))); rw [HL.out]; rw [HL.out] at hcM; have HbM := Lib.hid hbM; clear hu2 hbM))
  have hrow : ∀ W, Kp (w2.drew.alloc (.cells #[] 5)) W → W.ownsRow w2.heap.size 5 1 (.slice (some ⟨w2.heap.size, 0, none⟩) 0 0) 0 [] := fun W k => own_kp (World.ownsRow_lit w2.drew #[] 0 (Nat.le_refl _) (by decide) rfl) k
  have hk2w : Kp w w2 := hk0.trans hk2
  go_region_law (refine step_append_own2 rfl (.tmp 24) (.tmp 25) 30 rfl w2.heap.size 5 i0 (.int .u8 0) 1 1 Tryz.underlying30 hi hz0 hz1 hz2 rfl (by decide) (.slice (some ⟨w2.heap.size, 0, none⟩) 0 0) 0 [] (by first | rfl | (simp [Act.eval, Act.put]; done)) (hrow _ (Kp.refl _)) ⟨gM, 0, none⟩ L cM (bc bs) (by first | rfl | (simp [Act.eval, Act.put]; done)) (by rw [bc_length, HL.out]; omega) (BytesAt.cells (HbM.out.kp hlM ((Kp.refl w2).drew.alloc _))) (bc_one bs) (by unfold maxLen; omega) (by omega) (by first | (simp; done) | (simp; omega)) ?_; intro v' w3 hown hgrow hblk)
  have hb2 : Kp w w3 := Below.grown ((hk2w.drew).alloc _) hgrow (Nat.le_trans hk2w.size (by simp)) (fun q hq => by injection hq with hq; rw [← hq]; exact hk2w.size)
  have HO := Lib.hid (show OwnB w.heap.size w3 v' bs from ⟨by
    have h := own_base hown hk2w.size
    have e : ([] : List Value) ++ bc bs = bc bs := rfl
    rw [e, Nat.zero_add] at h
    rw [HL.out]; exact h, by rcases hblk with e | e <;> exact ⟨_, e.trans rfl⟩⟩)
  clear hown hgrow hblk hrow
  go_wp2_with fail
  refine bodyPost_ret (v := .tuple #[v', .bool true]) (by simp [results, Tryz.results28, go_sem]) rfl ?_
  exact ⟨v', _, rfl, ext_of hb2, HO.out⟩
end Go.Proofs.YtnmokjgiilfdlaaGreatDoor
