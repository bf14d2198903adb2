/-
  wkb.Decoder.Decode on a stream.
  impl.DecodeAll: the shapes of a stream.
-/
import Derived.Test.YtobdohhabgnjiaaGreatDoorMRdB
import Derived.Test.YtobdohhabgnjiaaGreatDoorMShOf
import Derived.Test.YtobdohhabgnjiaaGreatDoorMGrB
set_option linter.all false
namespace Go.Proofs.YtobdohhabgnjiaaGreatDoor
open PubFl Go.RowKit

attribute [local go_sem] cell_ext frozen_ext ext_setCell cell_store size_ext_eq lt_p0 lt_p1 lt_p2 lt_p3 lt_p4 lt_p5 lt_p6 lt_p7 lt_p8 lt_p9 lt_p10 lt_p11 lt_p12 lt_p13 lt_p14 lt_p15 lt_p16 lt_p17 lt_p18 lt_p19 lt_p20 lt_p21 lt_p22 lt_p23 lt_p24 lt_p25 lt_p26 lt_p27 lt_p28 lt_p29 lt_p30 lt_p31 lt_p32 lt_q1 lt_q2 lt_q3 lt_q4 lt_q5 lt_q6 lt_q7 lt_q8 lt_q9 lt_q10 lt_q11 lt_q12 lt_q13 lt_q14 lt_q15 lt_q16 lt_q17 lt_q18 lt_q19 lt_q20 lt_q21 lt_q22 lt_q23 lt_q24 lt_q25 lt_q26 lt_q27 lt_q28 lt_q29 lt_q30 lt_q31 lt_q32 run_fop run_store_float
attribute [local go_sem high] cmp_eql cmp_neq cmp_lss cmp_leq cmp_gtr cmp_geq

/-- what one Decode of a stream leaves, where a whole form comes -/
def RetDy (w0 : World) (gR : Nat) (r : List Nat) (w : World) (G : World → Value → Prop) (e : Ending) (w' : World) : Prop := ∃ v, e = .returned (.tuple #[v, .nilIface]) ∧ Rdr w0 w' gR r ∧ Kx [gR] w w' ∧ G w' v
theorem wkbDecY_c (gW gD gR : Nat) (w0 : World) (r : List Nat) (w : World) (G : World → Value → Prop) (si : Int) (hp : w.cell? ⟨gW, 0, none⟩ = some (.pointer (some ⟨gD, 0, none⟩))) (h : Calls Tryz.prog 40 #[.pointer (some ⟨gD, 0, none⟩)] w (RetDc true w0 gR r w G si)) :
    Calls Tryz.prog 26 #[.pointer (some ⟨gW, 0, none⟩)] w (RetDy w0 gR r w G) := by
  have H := Lib.hid h
  clear h
  go_enter Tryz.func26, Tryz.ntmps26
  go_wp2_with (go_at_call 40; (with_reducible refine (H.out).mono ?_); rintro e w1 h1; obtain ⟨v, rfl, h2, h3, h4⟩ := h1.yes; have H2 := Lib.hid h2; have H3 := Lib.hid h3; have H4 := Lib.hid h4; clear h1 h2 h3 h4)
  refine bodyPost_ret (v := .tuple #[v, .nilIface]) (by simp [results, Tryz.results26, go_sem]) rfl ?_
  exact ⟨v, rfl, H2.out, H3.out, H4.out⟩
/-- .. and where none does -/
def RetDn (w0 : World) (gR : Nat) (w : World) (e : Ending) (w' : World) : Prop := ∃ x, e = .returned (.tuple #[.nilIface, .iface 191 x]) ∧ Kx [gR] w w' ∧ Kp w0 w'
theorem wkbDecN_c (gW gD gR : Nat) (w0 : World) (r : List Nat) (w : World) (G : World → Value → Prop) (si : Int) (hG : Gls w0) (hp : w.cell? ⟨gW, 0, none⟩ = some (.pointer (some ⟨gD, 0, none⟩))) (h : Calls Tryz.prog 40 #[.pointer (some ⟨gD, 0, none⟩)] w (RetDc false w0 gR r w G si)) :
    Calls Tryz.prog 26 #[.pointer (some ⟨gW, 0, none⟩)] w (RetDn w0 gR w) := by
  have H := Lib.hid h
  have HG := Lib.hid hG
  clear h hG
  go_enter Tryz.func26, Tryz.ntmps26
  go_wp2_with (first | (go_at_call 40; (with_reducible refine (H.out).mono ?_); rintro e w1 h1; obtain ⟨a, h2, rfl, h3, h4⟩ := h1.no; have H3 := Lib.hid h3; have H4 := Lib.hid h4; have HM := Lib.hid (mapErr_c a w1 h2 (HG.out.kp h4)); clear h1 h2 h3 h4) | (go_at_call 41; (with_reducible refine (HM.out).mono ?_); rintro e w2 ⟨a2, hA, rfl, u, rfl⟩))
  refine bodyPost_ret (v := .tuple #[.nilIface, .iface 191 (.pointer (some a2))]) (by simp [results, Tryz.results26, go_sem]) rfl ?_
  exact ⟨_, rfl, H3.out.trans (Kx.of_kp (by repeat (first | (with_reducible exact Kp.refl _) | (with_reducible assumption) | (with_reducible apply Kp.ext) | (with_reducible apply Kp.alloc) | (with_reducible apply Kp.drew) | (with_reducible apply Kp.drewN) | (with_reducible refine Kp.setCell ?_ (by first | (dsimp only; omega) | (simp; omega) | (simp; done) | (simp [size_ext_eq]; omega)) _)))), H4.out.trans (by repeat (first | (with_reducible exact Kp.refl _) | (with_reducible assumption) | (with_reducible apply Kp.ext) | (with_reducible apply Kp.alloc) | (with_reducible apply Kp.drew) | (with_reducible apply Kp.drewN) | (with_reducible refine Kp.setCell ?_ (by first | (dsimp only; omega) | (simp; omega) | (simp; done) | (simp [size_ext_eq]; omega)) _)))⟩
end Go.Proofs.YtobdohhabgnjiaaGreatDoor

set_option linter.all false
namespace Go.Proofs.YtobdohhabgnjiaaGreatDoor
open PubFl Go.RowKit

attribute [local go_sem] cell_ext frozen_ext ext_setCell cell_store size_ext_eq lt_p0 lt_p1 lt_p2 lt_p3 lt_p4 lt_p5 lt_p6 lt_p7 lt_p8 lt_p9 lt_p10 lt_p11 lt_p12 lt_p13 lt_p14 lt_p15 lt_p16 lt_p17 lt_p18 lt_p19 lt_p20 lt_p21 lt_p22 lt_p23 lt_p24 lt_p25 lt_p26 lt_p27 lt_p28 lt_p29 lt_p30 lt_p31 lt_p32 lt_q1 lt_q2 lt_q3 lt_q4 lt_q5 lt_q6 lt_q7 lt_q8 lt_q9 lt_q10 lt_q11 lt_q12 lt_q13 lt_q14 lt_q15 lt_q16 lt_q17 lt_q18 lt_q19 lt_q20 lt_q21 lt_q22 lt_q23 lt_q24 lt_q25 lt_q26 lt_q27 lt_q28 lt_q29 lt_q30 lt_q31 lt_q32 run_fop run_store_float
attribute [local go_sem high] cmp_eql cmp_neq cmp_lss cmp_leq cmp_gtr cmp_geq

/-- what is left of a stream -/
def restB (f : Nat → List Nat) : Nat → Nat → List Nat
  | _, 0 => []
  | k, m + 1 => f k ++ restB f (k + 1) m
theorem restB_all (f : Nat → List Nat) : ∀ (m k : Nat), accB [] f (k + m) = accB [] f k ++ restB f k m
  | 0, k => by simp [restB]
  | m + 1, k => by
    have ih := restB_all f m (k + 1)
    have e : accB [] f (k + 1) = accB [] f k ++ f k := rfl
    rw [show k + (m + 1) = k + 1 + m by omega, ih, e, List.append_assoc]
    rfl
theorem restB_at (f : Nat → List Nat) (k n : Nat) (h : k < n) : restB f k (n - k) = f k ++ restB f (k + 1) (n - (k + 1)) := by
  rw [show n - k = (n - (k + 1)) + 1 by omega]
  rfl
theorem Rows3.kx {d : Nat} {qs : List Sh} {L gR : Nat} {w w' : World} {rv : Value} {k : Nat} {xs : List Value} (h : Rows3 d qs L w rv k xs) (kx : Kx [gR] w w') (hR : gR < L) : Rows3 d qs L w' rv k xs := by
  refine ⟨own_kx h.own kx (by simpa using hR), fun i hi => ?_⟩
  obtain ⟨lv', pv', lo, hi', y0, y1, y2, he, q1, q2, q3⟩ := h.el i hi
  exact ⟨lv', pv', lo, hi', y0, y1, y2, ShB.keep he (kx.agree q2 (by simp; omega)) kx.size, q1, Nat.le_trans q2 kx.size, q3⟩
theorem Rows3.lit {d : Nat} {qs : List Sh} (w : World) : Rows3 d qs w.heap.size (w.alloc (.cells #[] 30)) (.slice (some ⟨w.heap.size, 0, none⟩) 0 0) 0 [] :=
  ⟨World.ownsRow_lit w #[] 0 (Nat.le_refl _) (by decide) rfl, fun i hi => by omega⟩
/-- a list of shapes that a function made -/
def RetShs (ss : List Sh) (w : World) (e : Ending) (w' : World) : Prop := ∃ v xs u, e = .returned v ∧ w' = ext w u ∧ Rows3 4 ss w.heap.size w' v ss.length xs ∧ ∃ g c, v = .slice (some ⟨g, 0, none⟩) ss.length c
theorem newWkbDec_c (v : Value) (w : World) : Calls Tryz.prog 24 #[.iface 68 v] w (RetW1 (.pointer (some ⟨w.heap.size + 1, 0, none⟩)) ((w.alloc (.cells #[.iface 68 v] 142)).alloc (.cells #[.pointer (some ⟨w.heap.size, 0, none⟩)] 110))) := by
  go_enter Tryz.func24, Tryz.ntmps24
  go_wp2_with (go_at_call 39; (with_reducible refine (newDec_c _ _ _).mono ?_); rintro e w3 ⟨rfl, rfl⟩)
  go_ret
  exact ⟨rfl, rfl⟩
/-- between two shapes of a stream -/
structure DecS (w0 w : World) (ss : List Sh) (f : Nat → List Nat) (rv : Value) (k : Nat) (xs : List Value) : Prop where
  rows : Rows3 4 ss (w0.heap.size + 1 + 1 + 1) w rv k xs
  rd : Rdr w0 w w0.heap.size (restB f k (ss.length - k))
  cd : w.cell? ⟨w0.heap.size + 1, 0, none⟩ = some (rdrV w0.heap.size)
  cw : w.cell? ⟨w0.heap.size + 1 + 1, 0, none⟩ = some (.pointer (some ⟨w0.heap.size + 1, 0, none⟩))
  lt : w0.heap.size + 1 + 1 < w.heap.size
set_option maxRecDepth 20000 in
set_option maxHeartbeats 2000000 in
theorem decodeAll_c (bigE : Bool) (ss : List Sh) (g off c n m : Nat) (w : World) (hG : Gls w) (hm : m = ss.length + 2) (n8 : ss.length ≤ 8) (hok : ∀ i (hi : i < ss.length), cntOk 4 (ss[i]'hi) = true ∧ Small 4 (ss[i]'hi) ∧ BitsSh 4 (ss[i]'hi)) (hl : n = (accB [] (fun i => formSh 4 (ss.getD i dsh) 0 bigE false) ss.length).length) (hnc : n ≤ c) (hn : n ≤ 1000000000000) (hg : g < w.heap.size) (hby : BytesAt w g off (accB [] (fun i => formSh 4 (ss.getD i dsh) 0 bigE false) ss.length)) :
    Calls Tryz.prog 8 #[.slice (some ⟨g, off, none⟩) n c, .int .i64 (m : Int)] w (RetShs ss w) := by
  have hall : restB (fun i => formSh 4 (ss.getD i dsh) 0 bigE false) 0 (ss.length - 0) = accB [] (fun i => formSh 4 (ss.getD i dsh) 0 bigE false) ss.length := by
    have := restB_all (fun i => formSh 4 (ss.getD i dsh) 0 bigE false) ss.length 0
    rw [Nat.zero_add] at this
    rw [this]; rfl
  rw [← hall] at hl hby
  have hat := fun k (hk : k < ss.length) => restB_at (fun i => formSh 4 (ss.getD i dsh) 0 bigE false) k ss.length hk
  have hend : restB (fun i => formSh 4 (ss.getD i dsh) 0 bigE false) ss.length (ss.length - ss.length) = [] := by rw [Nat.sub_self]; rfl
  obtain ⟨f, hf⟩ : ∃ f, f = fun i => formSh 4 (ss.getD i dsh) 0 bigE false := ⟨_, rfl⟩
  have hfk : ∀ k (hk : k < ss.length), f k = formSh 4 (ss[k]'hk) 0 bigE false := fun k hk => by rw [hf]; show formSh 4 (ss.getD k dsh) 0 bigE false = _; rw [getD_sh ss k hk]
  rw [← hf] at hl hby hat hend
  clear hall hf
  have Hat := Lib.hid hat
  have Hend := Lib.hid hend
  have Hfk := Lib.hid hfk
  have Hok := Lib.hid hok
  have HG := Lib.hid hG
  have Hby := Lib.hid hby
  have Hl := Lib.hid hl
  clear hat hend hfk hok hG hby hl
  obtain ⟨i0, hi, hz0, hz1, hz2⟩ := info_parts infoShp
  go_enter Tryz.func8, Tryz.ntmps8
  go_wp2_with (first | (go_at_call 25; (with_reducible refine (newReader_c _ _ _ _).mono ?_); rintro e w2 ⟨rfl, rfl⟩) | (go_at_call 24; (with_reducible refine (newWkbDec_c _ _).mono ?_); rintro e w3 ⟨rfl, rfl⟩))
  go_loopw [6] (fun s6 wr => ∃ (k : Nat) (rv : Value) (xs : List Value), k ≤ ss.length ∧ s6 = rv ∧ (∃ g3 c3, rv = .slice (some ⟨g3, 0, none⟩) k c3) ∧ DecS w wr ss f rv k xs) (fun s6 _ => ss.length + 1 - (match s6 with | .slice _ l _ => l | _ => 0))
  case atStart =>
    refine ⟨0, _, [], by omega, rfl, ⟨_, _, rfl⟩, ?_⟩
    have h0 := Rdr.new (w0 := w) (w := w) (off := off) (Kp.refl w) Hl.out hnc hn hg Hby.out
    refine ⟨?_, h0.kp' (by repeat (first | (with_reducible exact Kp.refl _) | (with_reducible assumption) | (with_reducible apply Kp.ext) | (with_reducible apply Kp.alloc) | (with_reducible apply Kp.drew) | (with_reducible apply Kp.drewN) | (with_reducible refine Kp.setCell ?_ (by first | (dsimp only; omega) | (simp; omega) | (simp; done) | (simp [size_ext_eq]; omega)) _))), by simp [go_sem, rdrV], by simp [go_sem], by simp⟩
    have h1 := Rows3.lit (d := 4) (qs := ss) (((w.alloc (.cells #[.slice (some ⟨g, off, none⟩) n c, .int .i64 0, .int .i64 (-1)] 112)).alloc (.cells #[.iface 68 (.pointer (some ⟨w.heap.size, 0, none⟩))] 142)).alloc (.cells #[.pointer (some ⟨w.heap.size + 1, 0, none⟩)] 110))
    simp only [World.size_alloc] at h1
    exact h1
  case round =>
    obtain ⟨k, rv, xs, hk, rfl, ⟨g3, c3, rfl⟩, hS⟩ := hrel
    obtain ⟨hrows, hrd, hcd, hcw, hlt0⟩ := hS
    have hkp := hrd.kp
    by_cases hlt : k < ss.length
    · obtain ⟨hok1, hok2, hok3⟩ := Hok.out k hlt
      have hP : PreB true (formSh (3 + 1) (ss[k]'hlt) 0 bigE false) (restB f (k + 1) (ss.length - (k + 1))) (restB f k (ss.length - k)) := by
        rw [Hat.out k hlt, getD_sh ss k hlt]; exact PreB.of _ _
      have HD := Lib.hid (wkbDecY_c (w.heap.size + 1 + 1) (w.heap.size + 1) w.heap.size w _ wr _ _ hcw (dec_c 3 true (ss[k]'hlt) hok1 hok2 hok3 0 (by decide) bigE false _ _ hP w wr (w.heap.size + 1) w.heap.size hrd hcd (by omega) (by omega) HG.out))
      have Hrows := Lib.hid hrows
      have hown := hrows.own
      have hq : ss.getD k dsh = ss[k]'hlt := getD_sh ss k hlt
      generalize ss[k]'hlt = q at *
      have Hq := Lib.hid hq
      have hkm : (k : Int) < (ss.length : Int) + 2 := by omega
      clear hP hq hrows
      go_wp2_with (first | (go_at_call 26; (with_reducible refine (HD.out).mono ?_); rintro e w1 ⟨v, rfl, hrd1, hkx, hgeo⟩; have hr1 := Lib.hid (Hrows.out.kx hkx (by omega)); have cd1 := Lib.hid ((hkx.cell (o := 0) (show w.heap.size + 1 < wr.heap.size by omega) (by simp)).trans hcd); have cw1 := Lib.hid ((hkx.cell (o := 0) hlt0 (by simp; omega)).trans hcw); have Hrd1 := Lib.hid hrd1; have hs1 := hkx.size; have hk1 := hrd1.kp; have HSh := Lib.hid (fun w' (k' : Kp w1 w') => shapeOf_c 4 q wr.heap.size w1.heap.size v w' (GeoB.keep hgeo (Agree.of_kp k' (Nat.le_refl _)) k'.size) hok1 hok2); obtain ⟨tv, uv, rfl⟩ := GeoB.iface hgeo; clear hrd1 hkx hgeo) | (go_at_call 27; (with_reducible refine (HSh.out _ (by repeat (first | (with_reducible exact Kp.refl _) | (with_reducible assumption) | (with_reducible apply Kp.ext) | (with_reducible apply Kp.alloc) | (with_reducible apply Kp.drew) | (with_reducible apply Kp.drewN) | (with_reducible refine Kp.setCell ?_ (by first | (dsimp only; omega) | (simp; omega) | (simp; done) | (simp [size_ext_eq]; omega)) _)))).mono ?_); rintro e w2 ⟨lv, pv, u, rfl, rfl, hsh⟩; obtain ⟨⟨b2, n2, c2, rfl⟩, b4, n4, c4, rfl⟩ := hsh.form; have Hsh := Lib.hid hsh; clear hsh) | (at_builtin; refine wpList_append_own2 _ rfl (.tmp 29) (.tmp 32) 22 rfl (w.heap.size + 1 + 1 + 1) 30 i0 (.agg #[.int .i64 0, .slice none 0 0, .slice none 0 0]) 3 56 Tryz.underlying22 hi hz0 hz1 hz2 rfl (by decide) _ k xs rfl ((own_kp hr1.out.own (show Kp w1 (ext w1 u) from (by repeat (first | (with_reducible exact Kp.refl _) | (with_reducible assumption) | (with_reducible apply Kp.ext) | (with_reducible apply Kp.alloc) | (with_reducible apply Kp.drew) | (with_reducible apply Kp.drewN) | (with_reducible refine Kp.setCell ?_ (by first | (dsimp only; omega) | (simp; omega) | (simp; done) | (simp [size_ext_eq]; omega)) _))))).alloc _) ⟨w1.heap.size + dz w1.heap.size u, 0, none⟩ 1 1 [.int .i64 q.kind, .slice b2 n2 c2, .slice b4 n4 c4] rfl rfl ?c1 ?c2 ?c3 ?c4 ?c5 ?_))
      case c1 => exact lit3 (by simp [size_ext_eq])
      case c2 => exact fun u hu => by simp at hu; rcases hu with rfl | rfl | rfl <;> rfl
      case c3 => unfold maxLen; omega
      case c4 => omega
      case c5 => simp [size_ext_eq]; omega
      intro v' w3 hown1 hgrow1 hblk
      have hk2 : Kp w1 ((ext w1 u).alloc (.cells #[.int .i64 q.kind, .slice b2 n2 c2, .slice b4 n4 c4] 30)) := (by repeat (first | (with_reducible exact Kp.refl _) | (with_reducible assumption) | (with_reducible apply Kp.ext) | (with_reducible apply Kp.alloc) | (with_reducible apply Kp.drew) | (with_reducible apply Kp.drewN) | (with_reducible refine Kp.setCell ?_ (by first | (dsimp only; omega) | (simp; omega) | (simp; done) | (simp [size_ext_eq]; omega)) _)))
      have hx : ShB 4 w1.heap.size (ext w1 u).heap.size ((ext w1 u).alloc (.cells #[.int .i64 q.kind, .slice b2 n2 c2, .slice b4 n4 c4] 30)) (.slice b2 n2 c2) (.slice b4 n4 c4) (ss.getD k dsh) := by
        rw [Hq.out]
        exact ShB.keep Hsh.out (Agree.of_kp ((Kp.refl _).alloc _) (Nat.le_refl _)) (by simp)
      have hown2 := hown1
      rw [← Hq.out] at hown2
      have HR := Lib.hid (Rows3.step hr1.out hk2 hx (by omega) (Nat.le_refl _) (by simp) hown2 hgrow1 (by
        rcases hblk with e | e
        · exact .inl e
        · exact .inr (by rw [e, World.size_alloc, size_ext_eq])))
      have hg3 : w.heap.size + 1 + 1 + 1 ≤ g3 := (own_lt hown rfl).1
      have kx3 : Kx [g3] w1 w3 := ⟨hgrow1.os.trans hk2.os, hgrow1.tape.trans hk2.tape, hgrow1.output.trans hk2.output, Nat.le_trans hk2.size hgrow1.size, fun b hb hb2 => (hgrow1.block b (Nat.lt_of_lt_of_le hb hk2.size) (fun e => hb2 (by injection e with e; rw [e]; simp))).trans (hk2.block b hb)⟩
      have HS := Lib.hid (show DecS w w3 ss f v' (k + 1) _ from ⟨HR.out, Hrd1.out.kx kx3 (by simp; omega) (by simp; omega), (kx3.cell (by omega) (by simp; omega)).trans cd1.out, (kx3.cell (by omega) (by simp; omega)).trans cw1.out, by have := kx3.size; omega⟩)
      obtain ⟨g5, c5, rfl⟩ := own_pos hown1
      clear hx hown2 hown1 hgrow1 hblk kx3 hk2
      go_wp2_with fail
      go_roundw
      case rel => exact ⟨k + 1, _, _, by omega, rfl, ⟨_, _, rfl⟩, HS.out⟩
      case measure => simp; omega
    · obtain rfl : k = ss.length := by omega
      rw [Hend.out] at hrd
      have hP : PreB false (formSh (3 + 1) (Sh.mk 7 [] []) 0 bigE false) [] [] := PreB.cut (t := formSh (3 + 1) (Sh.mk 7 [] []) 0 bigE false) [] (fun e => by have := form_pos 3 (Sh.mk 7 [] []) 0 bigE false; rw [e] at this; simp at this) rfl
      have HD := Lib.hid (wkbDecN_c (w.heap.size + 1 + 1) (w.heap.size + 1) w.heap.size w _ wr _ _ HG.out hcw (dec_c 3 false (Sh.mk 7 [] []) (by rfl) ⟨by simp [Sh.lists], by simp [Sh.parts]⟩ ⟨by simp [Sh.lists], by simp [Sh.parts]⟩ 0 (by decide) bigE false _ _ hP w wr (w.heap.size + 1) w.heap.size hrd hcd (by omega) (by omega) HG.out))
      have Hrows := Lib.hid hrows
      have hkm : (ss.length : Int) < (ss.length : Int) + 2 := by omega
      clear hP hrows hrd
      go_wp2_with (go_at_call 26; (with_reducible refine (HD.out).mono ?_); rintro e w1 ⟨x, rfl, hkx, hk1⟩; have hr1 := Lib.hid (Hrows.out.kx hkx (by omega)); clear hkx)
      refine bodyPost_ret (v := .slice (some ⟨g3, 0, none⟩) ss.length c3) (by simp [results, Tryz.results8, go_sem]) rfl ?_
      have h1 := hr1.out
      exact ⟨_, xs, _, rfl, ext_of (show Kp w _ from (by repeat (first | (with_reducible exact Kp.refl _) | (with_reducible assumption) | (with_reducible apply Kp.ext) | (with_reducible apply Kp.alloc) | (with_reducible apply Kp.drew) | (with_reducible apply Kp.drewN) | (with_reducible refine Kp.setCell ?_ (by first | (dsimp only; omega) | (simp; omega) | (simp; done) | (simp [size_ext_eq]; omega)) _)))), ⟨own_base h1.own (by omega), fun i hi => by
        obtain ⟨lv', pv', lo, hi', y0, y1, y2, he, q1, q2, q3⟩ := h1.el i hi
        exact ⟨lv', pv', lo, hi', y0, y1, y2, he, by omega, q2, q3⟩⟩, _, _, rfl⟩
end Go.Proofs.YtobdohhabgnjiaaGreatDoor
