/- Part 27 of the proof of FnPXQuick (a QR code that is written for a text says this text in a picture): parts of the road. No condition. -/
import Derived.Test.YtnpkihobbcglcaaGreatDoorG26
open Go Go.RowKit
namespace Go.Proofs.YtnpkihobbcglcaaGreatDoor
open Go.QZ

theorem getZero_c (X : Nat → Prop) (w : World) (F : Nat) (h : Fld X w F) : Calls Tryz.prog 203 #[.pointer (some ⟨F, 0, none⟩)] w fun e w' => (∃ z, e = .returned (.pointer (some ⟨z, 0, none⟩)) ∧ Poly X w F z [0]) ∧ w = w' := by
  obtain ⟨E, L, Z, O, h, _, _, _, hz⟩ := h
  exact (GenericGF_GetZero_c w F 0 _ (by rw [h.head.cell]; rfl)).mono fun _ _ ⟨he, hw⟩ => ⟨⟨Z, he, hz⟩, hw⟩

theorem nth_app_leftP (a b : List Nat) (i : Nat) (h : i < a.length) : nth (a ++ b) i = nth a i := by
  unfold nth; rw [List.getD_eq_getElem?_getD, List.getD_eq_getElem?_getD, List.getElem?_append_left h]
theorem sumL_head {s l : List Nat} (h : s.length < l.length) : nth (sumL s l) 0 = nth l 0 := by
  unfold sumL
  rw [nth_app_leftP _ _ _ (by rw [List.length_take]; omega)]
  simp [nth, List.getD_eq_getElem?_getD, show 0 < l.length - s.length by omega, show 0 < l.length by omega]

theorem mulOne_c (X : Nat → Prop) (w : World) (F : Nat) (h : Fld X w F) (a : Nat) (ha : a < 256) : Calls Tryz.prog 204 #[.pointer (some ⟨F, 0, none⟩), .int .i64 a, .int .i64 1] w fun e w' => e = .returned (.int .i64 (a : Nat)) ∧ ∃ n, w.drewN n = w' := by
  obtain ⟨E, L, Z, O, h, _⟩ := h
  have := gfMul_c w F E L Z O h a 1 ha (by decide)
  rw [gmul_one a ha] at this
  exact this

/-- What a division hands back. -/
def Divided (X : Nat → Prop) (w : World) (F : Nat) (gs ps : List Nat) (e : Ending) (w' : World) : Prop :=
  ∃ q r rs, e = .returned (.tuple #[.pointer (some ⟨q, 0, none⟩), .pointer (some ⟨r, 0, none⟩), .nilIface]) ∧ Poly X w' F r rs ∧ rs.length < gs.length ∧ Stands gs ps rs ∧ QZ.Mod (fun _ => False) w w'

/-- What holds of the quotient: it is 0, or longer than all that is still to come. -/
def QOk (qs rs gs : List Nat) : Prop := nth qs 0 = 0 ∨ (nth qs 0 ≠ 0 ∧ rs.length + 2 ≤ qs.length + gs.length)

theorem div_quo (qs rs gs : List Nat) (c d : Nat) (hl : rs.length = gs.length + d) (_hg : 2 ≤ gs.length) (_hn : Neat qs) (h : QOk qs rs gs) (hz : nth qs 0 ≠ 0) : (c :: List.replicate d 0).length < qs.length ∧ nth (sumL (c :: List.replicate d 0) qs) 0 ≠ 0 ∧ (strip (sumL (c :: List.replicate d 0) qs)) = sumL (c :: List.replicate d 0) qs ∧ (sumL (c :: List.replicate d 0) qs).length = qs.length := by
  rcases h with h | ⟨_, h⟩
  · exact absurd h hz
  · have hlt : (c :: List.replicate d 0).length < qs.length := by simp; omega
    have hh := sumL_head hlt
    have hlen := sumL_len (c :: List.replicate d 0) qs (by omega)
    exact ⟨hlt, by rw [hh]; exact hz, strip_of_neat ⟨by omega, fun _ => by rw [hh]; exact hz⟩, hlen⟩

set_option maxRecDepth 20000 in
set_option maxHeartbeats 3200000 in
theorem divide_c (X : Nat → Prop) (w : World) (F p g : Nat) (ps gs : List Nat) (hX : ∀ k, X k → k < w.heap.size) (hp : Poly X w F p ps) (hg : Poly X w F g gs) (hF : Fld X w F) (hpl : ps.length ≤ 5000) (hgl : gs.length ≤ 100) (hg2 : 2 ≤ gs.length) (hg0 : nth gs 0 = 1) :
    Calls Tryz.prog 167 #[.pointer (some ⟨p, 0, none⟩), .pointer (some ⟨g, 0, none⟩)] w (Divided X w F gs ps) := by
  have HP := Lib.hid hp; have HG := Lib.hid hg; have HF := Lib.hid hF; have HX := Lib.hid hX
  obtain ⟨B, off, cap, hp⟩ := hp
  obtain ⟨C, offg, capg, hg⟩ := hg
  have p0 := hp.c0; have q0 := hg.c0
  have Hgs := Lib.hid hg.small
  have Hgz := Lib.hid (decide_eq_false (show ¬ nth gs 0 = 0 by rw [hg0]; decide))
  have Hg0 := Lib.hid hg0
  have HPa := Lib.hid hp
  clear hp hg hF hX hg0
  have fneq := field_neq F
  go_enter Tryz.func167, Tryz.ntmps167
  go_wp2_with fail
  go_quiet (fail)
  clear fneq
  have Hm0 := Lib.hid (mod_drewN (fun _ => False) w nq)
  have HP1 := Lib.hid (HP.out.new Hm0.out); have HG1 := Lib.hid (HG.out.new Hm0.out); have HF1 := Lib.hid (HF.out.new Hm0.out)
  have HX1 : Hid (∀ k, X k → k < (w.drewN nq).heap.size) := HX.out
  have p0 := cell_mod Hm0.out (fun f => f) HPa.out.c0
  generalize w.drewN nq = w1 at *
  go_wp2_with fail
  refine ((isZero_c X w1 F g gs HG1.out)).mono ?_
  rintro e w2 ⟨rfl, rfl⟩
  rw [Hgz.out]
  go_wp2_with fail
  refine ((getZero_c X w1 F HF1.out)).mono ?_
  rintro e w2 ⟨⟨z, rfl, hz⟩, rfl⟩
  have Hz := Lib.hid hz; clear hz
  go_wp2_with fail
  refine ((degree_c X w1 F g gs HG1.out)).mono ?_
  rintro e w2 ⟨rfl, rfl⟩
  go_wp2_with fail
  refine ((lead_c X w1 F g gs HG1.out _ rfl)).mono ?_
  rintro e w2 ⟨rfl, n2, rfl⟩
  rw [Hg0.out]
  have p0b := cell_mod (mod_drewN (fun _ => False) w1 n2) (fun f => f) p0
  have HF2 := Lib.hid (HF1.out.new (mod_drewN (fun _ => False) w1 n2))
  go_wp2_with fail
  refine (inv1_c X (w1.drewN n2) F HF2.out).mono ?_
  rintro e w3 ⟨rfl, n3, rfl⟩
  go_wp2_with fail
  clear q0 p0b
  have Hm3 := Lib.hid (mod_drewN (fun _ => False) w1 (n2 + n3))
  generalize w1.drewN (n2 + n3) = w4 at *
  go_loopg [4, 5, 9, 10, 11, 12, 13] (ps.length) (fun k a b _ _ _ _ _ wr => ∃ q r qs rs, a = .pointer (some ⟨q, 0, none⟩) ∧ b = .pointer (some ⟨r, 0, none⟩) ∧ Poly X wr F q qs ∧ Poly X wr F r rs ∧ rs.length ≤ k ∧ k ≤ ps.length ∧ qs.length ≤ 6000 ∧ QOk qs rs gs ∧ Stands gs ps rs ∧ QZ.Mod (fun _ => False) w1 wr)
  case atStart => exact ⟨z, p, [0], ps, rfl, rfl, Hz.out.new Hm3.out, HP1.out.new Hm3.out, by omega, by omega, by decide, .inl rfl, Stands.refl _ _, Hm3.out⟩
  case round =>
    obtain ⟨q, r, qs, rs, rfl, rfl, hq, hr, hrk, hkp, hql, hqo, hst, hm⟩ := hrel
    have Hq := Lib.hid hq; have Hr := Lib.hid hr; have Hqo := Lib.hid hqo; have Hst := Lib.hid hst; have Hm := Lib.hid hm
    have HGr := Lib.hid (HG1.out.new hm); have HFr := Lib.hid (HF1.out.new hm)
    have p0r := cell_mod hm (fun f => f) p0
    have HXr : Hid (∀ k, X k → k < wr.heap.size) := fun k hk => Nat.lt_of_lt_of_le (HX1.out k hk) hm.size
    obtain ⟨rB, roff, rcap, hra⟩ := hr
    obtain ⟨qB, qoff, qcap, hqa⟩ := hq
    have hrn := hra.neat.1
    have Hrn := Lib.hid hra.neat; have Hrs := Lib.hid hra.small; have Hqn := Lib.hid hqa.neat
    clear hqo hst hm hra hqa
    by_cases hge : gs.length ≤ rs.length
    · have hr0 : nth rs 0 ≠ 0 := Hrn.out.2 (by omega)
      obtain ⟨d, hd⟩ : ∃ d, rs.length - gs.length = d := ⟨_, rfl⟩
      have hdd : rs.length = gs.length + d := by omega
      have Hdd := Lib.hid hdd
      have hsub : (rs.length : Int) - 1 - ((gs.length : Int) - 1) = (d : Int) := by omega
      have tge : decide ((gs.length : Int) - 1 ≤ (rs.length : Int) - 1) = true := by rw [decide_eq_true_iff]; omega
      have hd5 : d ≤ 5000 := by omega
      have Hd0 := Lib.hid (decide_eq_false hr0); have Hr0 := Lib.hid hr0
      have hc := small_nth Hrs.out 0
      have Hgm := Lib.hid (gmul_one (nth rs 0) hc)
      clear hd hdd hr0 p0
      go_wp2_with fail
      refine ((degree_c X wr F r rs Hr.out)).mono ?_
      rintro e w5 ⟨rfl, rfl⟩
      go_wp2_with fail
      refine ((degree_c X wr F g gs HGr.out)).mono ?_
      rintro e w5 ⟨rfl, rfl⟩
      go_wp2_with fail
      refine ((isZero_c X wr F r rs Hr.out)).mono ?_
      rintro e w5 ⟨rfl, rfl⟩
      rw [Hd0.out]
      go_wp2_with fail
      refine ((degree_c X wr F r rs Hr.out)).mono ?_
      rintro e w5 ⟨rfl, rfl⟩
      go_wp2_with fail
      refine ((degree_c X wr F g gs HGr.out)).mono ?_
      rintro e w5 ⟨rfl, rfl⟩
      go_wp2_with fail
      go_quiet (first | (go_at_call 207; refine quiet1 (degree_c X _ F r rs ?_); exact Hr.out.new (mod_drewN _ _ _)) | (go_at_call 206; refine quiet2 (lead_c X _ F r rs ?_ _ rfl); exact Hr.out.new (mod_drewN _ _ _)) | (go_at_call 204; refine quiet2 (mulOne_c X _ F ?_ _ hc); exact HFr.out.new (mod_drewN _ _ _)))
      have Hmd := Lib.hid (mod_drewN (fun _ => False) wr nq)
      have Hq1 := Lib.hid (Hq.out.new Hmd.out); have Hr1 := Lib.hid (Hr.out.new Hmd.out); have HG1' := Lib.hid (HGr.out.new Hmd.out); have HF1' := Lib.hid (HFr.out.new Hmd.out)
      have p0m := cell_mod Hmd.out (fun f => f) p0r
      have HXm : Hid (∀ k, X k → k < (wr.drewN nq).heap.size) := HXr.out
      generalize wr.drewN nq = wm at *
      obtain ⟨c, hcc⟩ : ∃ c, nth rs 0 = c := ⟨_, rfl⟩
      rw [hcc] at hc
      have Hcc := Lib.hid hcc
      have Hc0 : Hid (c ≠ 0) := by show c ≠ 0; rw [← hcc]; exact Hr0.out
      have Hsh : Hid (strip (shift gs c d) = shift gs c d) := by
        show strip _ = _
        refine strip_of_neat ⟨by rw [shift_len]; omega, fun _ => ?_⟩
        rw [shift_head _ _ _ (by omega), Hg0.out, one_gmul _ hc]; exact Hc0.out
      rw [hcc]
      clear hcc
      go_wp2_with fail
      refine (mulMono_c X wm F g gs HXm.out HG1'.out HF1'.out d c (by omega) (by omega) hc Hc0.out).mono ?_
      rintro e w5 ⟨t, rfl, ht, hm5⟩
      rw [Hsh.out] at ht
      have p05 := cell_mod hm5 (fun f => f) p0m
      have HX5 : Hid (∀ k, X k → k < w5.heap.size) := fun k hk => Nat.lt_of_lt_of_le (HXm.out k hk) hm5.size
      have Ht := Lib.hid ht
      have Hm5 := Lib.hid hm5
      clear ht hm5
      go_wp2_with fail
      refine (buildMono_c X w5 F HX5.out d c (by omega) hc Hc0.out).mono ?_
      rintro e w6 ⟨u, rfl, hu, hm6⟩
      have HX6 : Hid (∀ k, X k → k < w6.heap.size) := fun k hk => Nat.lt_of_lt_of_le (HX5.out k hk) hm6.size
      have Hu := Lib.hid hu
      have Hm6 := Lib.hid hm6
      clear hu hm6
      have Hq6 := Lib.hid (Hq1.out.new (Hm5.out.trans Hm6.out)); have Hr6 := Lib.hid (Hr1.out.new (Hm5.out.trans Hm6.out)); have Ht6 := Lib.hid (Ht.out.new Hm6.out)
      have HM6 := Lib.hid (Hm.out.trans (Hmd.out.trans (Hm5.out.trans Hm6.out)))
      have Hsl : Hid (rs.length = (shift gs c d).length) := by show _ = _; rw [shift_len]; exact Hdd.out
      have Hres := Lib.hid (Hst.out.step Hgs.out Hrs.out c d hc Hdd.out)
      have Hrl : Hid ((strip (addL rs (shift gs c d))).length < rs.length) := step_len c d Hdd.out (by omega) (by rw [Hg0.out, one_gmul _ hc]; exact Hcc.out)
      have Hsh0 : Hid (nth (shift gs c d) 0 ≠ 0) := by
        show nth _ 0 ≠ 0
        rw [shift_head _ _ _ (by omega), Hg0.out, one_gmul _ hc]; exact Hc0.out
      have hs1 : (shift gs c d).length ≤ 6000 := by rw [shift_len]; omega
      clear p05 p0m p0r
      by_cases hq0 : nth qs 0 = 0
      · have Hq0 := Lib.hid hq0; clear hq0
        go_wp2_with fail
        refine (addz_c X w6 F q u qs _ Hq6.out Hu.out Hq0.out).mono ?_
        rintro e w7 ⟨q2, rfl, hq2, hm7⟩
        have HX7 : Hid (∀ k, X k → k < w7.heap.size) := fun k hk => Nat.lt_of_lt_of_le (HX6.out k hk) hm7.size
        have Hq2 := Lib.hid hq2
        have Hm7 := Lib.hid hm7
        clear hq2 hm7
        go_wp2_with fail
        refine (add_le X w7 F r t rs _ HX7.out (Hr6.out.new Hm7.out) (Ht6.out.new Hm7.out) (by omega) (by omega) Hr0.out Hsh0.out (by rw [Hsl.out]; exact Nat.le_refl _)).mono ?_
        rintro e w8 ⟨r2, rfl, hr2, hm8⟩
        rw [sumL_eq _ _ Hsl.out] at hr2
        have Hr2 := Lib.hid hr2
        have Hm8 := Lib.hid hm8
        clear hr2 hm8
        go_wp2_with fail
        go_roundg (strip (addL rs (shift gs c d))).length
        case measure => have := Hrl.out; omega
        case rel => exact ⟨q2, r2, _, _, rfl, rfl, Hq2.out.new Hm8.out, Hr2.out, Nat.le_refl _, by have := Hrl.out; omega, by simp; omega, .inr ⟨Hc0.out, by have := Hrl.out; have := Hdd.out; simp; omega⟩, Hres.out, HM6.out.trans (Hm7.out.trans Hm8.out)⟩
      · have Hq0 := Lib.hid hq0; clear hq0
        have Hdq := Lib.hid (div_quo qs rs gs c d Hdd.out hg2 Hqn.out Hqo.out Hq0.out)
        have Hul : Hid ((c :: List.replicate d 0).length ≤ 10000) := by show _ ≤ _; simp; omega
        go_wp2_with fail
        refine (add_gt X w6 F q u qs _ HX6.out Hq6.out Hu.out (by omega) Hul.out Hq0.out Hc0.out Hdq.out.1).mono ?_
        rintro e w7 ⟨q2, rfl, hq2, hm7⟩
        rw [Hdq.out.2.2.1] at hq2
        have HX7 : Hid (∀ k, X k → k < w7.heap.size) := fun k hk => Nat.lt_of_lt_of_le (HX6.out k hk) hm7.size
        have Hq2 := Lib.hid hq2
        have Hm7 := Lib.hid hm7
        clear hq2 hm7
        go_wp2_with fail
        refine (add_le X w7 F r t rs _ HX7.out (Hr6.out.new Hm7.out) (Ht6.out.new Hm7.out) (by omega) (by omega) Hr0.out Hsh0.out (by rw [Hsl.out]; exact Nat.le_refl _)).mono ?_
        rintro e w8 ⟨r2, rfl, hr2, hm8⟩
        rw [sumL_eq _ _ Hsl.out] at hr2
        have Hr2 := Lib.hid hr2
        have Hm8 := Lib.hid hm8
        clear hr2 hm8
        go_wp2_with fail
        go_roundg (strip (addL rs (shift gs c d))).length
        case measure => have := Hrl.out; omega
        case rel => exact ⟨q2, r2, _, _, rfl, rfl, Hq2.out.new Hm8.out, Hr2.out, Nat.le_refl _, by have := Hrl.out; omega, by rw [Hdq.out.2.2.2]; exact hql, .inr ⟨Hdq.out.2.1, by rw [Hdq.out.2.2.2]; have h1 := Hrl.out; have h2 := Hdd.out; have h3 := Hdq.out.1; rcases Hqo.out with h | ⟨_, h⟩; exact absurd h Hq0.out; omega⟩, Hres.out, HM6.out.trans (Hm7.out.trans Hm8.out)⟩
    · have tge : decide ((gs.length : Int) - 1 ≤ (rs.length : Int) - 1) = false := by rw [decide_eq_false_iff_not]; omega
      clear p0 p0r
      go_wp2_with fail
      refine ((degree_c X wr F r rs Hr.out)).mono ?_
      rintro e w5 ⟨rfl, rfl⟩
      go_wp2_with fail
      refine ((degree_c X wr F g gs HGr.out)).mono ?_
      rintro e w5 ⟨rfl, rfl⟩
      go_wp2_with fail
      go_ret3
      exact ⟨q, r, rs, rfl, Hr.out, by omega, Hst.out, Hm0.out.trans Hm.out⟩
end Go.Proofs.YtnpkihobbcglcaaGreatDoor
/- The field of QR codes is made. -/
open Go Go.RowKit
namespace Go.Proofs.YtnpkihobbcglcaaGreatDoor
open Go.QZ

def expTo (i : Nat) : List Nat := expL.take i ++ List.replicate (256 - i) 0
theorem expTo_len (i : Nat) (h : i ≤ 256) : (expTo i).length = 256 := by unfold expTo; rw [List.length_append, List.length_take, expL_len, List.length_replicate]; omega
theorem expTo_all : expTo 256 = expL := by decide +kernel
theorem expTo_succ (i : Nat) (h : i < 256) : (expTo i).set i (nth expL i) = expTo (i + 1) := by
  unfold expTo
  have hl := expL_len
  rw [List.set_append_right _ _ (by rw [List.length_take]; omega), List.length_take, hl, Nat.min_eq_left (by omega), Nat.sub_self, show 256 - i = (256 - (i + 1)) + 1 by omega, List.replicate_succ, List.set_cons_zero, List.take_succ_eq_append_getElem (by omega), List.append_assoc]
  simp [nth, List.getD_eq_getElem?_getD, show i < expL.length by omega]
def logTo : Nat → List Nat
  | 0 => List.replicate 256 0
  | i + 1 => (logTo i).set (nth expL i) i
theorem logTo_len (i : Nat) : (logTo i).length = 256 := by
  induction i with
  | zero => exact List.length_replicate
  | succ i ih => unfold logTo; rw [List.length_set, ih]
theorem logTo_all : logTo 255 = logL := by decide +kernel
theorem exp_lt256 (i : Nat) : nth expL i < 256 := nth_lt (by decide) (by decide +kernel) i

theorem xor285 (x : Nat) (h : x < 256) : bits .xor .i64 ((x : Int) * 2) 285 = ((2 * x ^^^ 285 : Nat) : Int) := by
  have h1 : (BitVec.ofInt 64 ((x : Int) * 2)).toNat = 2 * x := by
    rw [show (x : Int) * 2 = ((2 * x : Nat) : Int) by omega, BitVec.ofInt_natCast, BitVec.toNat_ofNat]; exact Nat.mod_eq_of_lt (by omega)
  show IntKind.i64.wrap ((BitVec.ofInt 64 ((x : Int) * 2) ^^^ BitVec.ofInt 64 285).toNat : Int) = _
  rw [BitVec.toNat_xor, h1, show (BitVec.ofInt 64 285).toNat = 285 from rfl, IntKind.wrap_i64]
  have : (2 * x ^^^ 285) < 512 := Nat.xor_lt_two_pow (n := 9) (by omega) (by omega)
  omega
theorem and255 (y : Nat) (h : y < 4294967296) : bits .and .i64 (y : Int) 255 = ((y &&& 255 : Nat) : Int) :=
  (bits_nat .i64 63 (by decide) (fun n h0 h1 => by rw [IntKind.wrap_i64]; omega) y 255 (by omega) (by decide)).1

/-- A new field. -/
def NewField (w : World) (e : Ending) (w' : World) : Prop := ∃ F, e = .returned (.pointer (some ⟨F, 0, none⟩)) ∧ w.heap.size ≤ F ∧ Fld (fun k => k < w.heap.size) w' F ∧ QZ.Mod (fun _ => False) w w'

theorem nextExp (i x : Nat) (h : nth expL i = x) (hi : i < 255) : nth expL (i + 1) = xtm x := by
  rw [← h, exp_at _ (by omega), exp_at _ (by omega)]; rfl

set_option maxRecDepth 20000 in
set_option maxHeartbeats 3200000 in
theorem newGF_c (w : World) : Calls Tryz.prog 117 #[.int .i64 285, .int .i64 256, .int .i64 0] w (NewField w) := by
  have hmk := make_run (P := Tryz.prog) Tryz.underlying117 i117 rfl 256 256 256 256 rfl rfl (by omega) (by omega) (by omega)
  have Hlog0 := Lib.hid (show logTo 0 = List.replicate 256 0 from rfl)
  have Hexp0 := Lib.hid (show expTo 0 = List.replicate 256 0 by decide +kernel)
  go_enter Tryz.func117, Tryz.ntmps117
  go_wp2_with fail
  clear hmk
  have Hf0 : Hid (Blk (((w.alloc (.cells #[.slice none 0 0, .slice none 0 0, .pointer none, .pointer none, .int .i64 256, .int .i64 285, .int .i64 0] 242)).alloc (zrow 3 (.int .i64 0) 256)).alloc (zrow 3 (.int .i64 0) 256)) w.heap.size [.slice none 0 0, .slice none 0 0, .pointer none, .pointer none, .int .i64 256, .int .i64 285, .int .i64 0]) := ((Blk.new w _ 242).alloc _).alloc _
  have He0 : Hid (Blk (((w.alloc (.cells #[.slice none 0 0, .slice none 0 0, .pointer none, .pointer none, .int .i64 256, .int .i64 285, .int .i64 0] 242)).alloc (zrow 3 (.int .i64 0) 256)).alloc (zrow 3 (.int .i64 0) 256)) (w.heap.size + 1) (cellsN .i64 (expTo 0))) := by
    have := (made_i64 (w.alloc (.cells #[.slice none 0 0, .slice none 0 0, .pointer none, .pointer none, .int .i64 256, .int .i64 285, .int .i64 0] 242)) 256).alloc (zrow 3 (.int .i64 0) 256)
    rw [World.size_alloc] at this
    show Blk _ _ _
    rw [Hexp0.out]; exact this
  have Hl0 : Hid (Blk (((w.alloc (.cells #[.slice none 0 0, .slice none 0 0, .pointer none, .pointer none, .int .i64 256, .int .i64 285, .int .i64 0] 242)).alloc (zrow 3 (.int .i64 0) 256)).alloc (zrow 3 (.int .i64 0) 256)) (w.heap.size + 1 + 1) (cellsN .i64 (logTo 0))) := by
    have := made_i64 ((w.alloc (.cells #[.slice none 0 0, .slice none 0 0, .pointer none, .pointer none, .int .i64 256, .int .i64 285, .int .i64 0] 242)).alloc (zrow 3 (.int .i64 0) 256)) 256
    rw [World.size_alloc, World.size_alloc] at this
    show Blk _ _ _
    rw [Hlog0.out]; exact this
  have Hm0 : Hid (QZ.Mod (fun _ => False) w (((w.alloc (.cells #[.slice none 0 0, .slice none 0 0, .pointer none, .pointer none, .int .i64 256, .int .i64 285, .int .i64 0] 242)).alloc (zrow 3 (.int .i64 0) 256)).alloc (zrow 3 (.int .i64 0) 256))) := (((QZ.Mod.refl _ _).alloc _).alloc _).alloc _
  go_loopw [11, 10] (fun i x wr => ∃ k v : Nat, k ≤ 256 ∧ i = .int .i64 k ∧ x = .int .i64 v ∧ (k < 256 → nth expL k = v) ∧ v < 256 ∧ Blk wr (w.heap.size + 1) (cellsN .i64 (expTo k)) ∧ Blk wr w.heap.size [.slice none 0 0, .slice none 0 0, .pointer none, .pointer none, .int .i64 256, .int .i64 285, .int .i64 0] ∧ Blk wr (w.heap.size + 1 + 1) (cellsN .i64 (logTo 0)) ∧ QZ.Mod (fun _ => False) w wr) (fun i _ _ => 256 - (intOf i).toNat)
  case atStart => exact ⟨0, 1, by omega, rfl, rfl, fun _ => by decide, by omega, He0.out, Hf0.out, Hl0.out, Hm0.out⟩
  case round =>
    obtain ⟨k, v, hk, rfl, rfl, hv, hvl, he, hf, hl, hm⟩ := hrel
    by_cases hlt : k < 256
    · have hcell := he.cell k
      rw [cellsN_get _ _ _ (by rw [expTo_len _ hk]; exact hlt)] at hcell
      have hfr := he.frozen k
      have he2 := he.set k (.int .i64 (v : Nat))
      rw [cellsN_set, ← hv hlt, expTo_succ _ hlt, hv hlt] at he2
      have hf2 := hf.set_other (a := ⟨w.heap.size + 1, k, none⟩) (by simp) (.int .i64 (v : Nat))
      have hl2 := hl.set_other (a := ⟨w.heap.size + 1, k, none⟩) (by simp) (.int .i64 (v : Nat))
      have hm2 := hm.setCell (p := ⟨w.heap.size + 1, k, none⟩) (.inl (by simp)) (.int .i64 (v : Nat))
      have hx := xor285 v hvl
      have Hnx := Lib.hid (fun h => nextExp k v (hv hlt) h)
      generalize nth (expTo k) k = old at *
      by_cases hge : 256 ≤ 2 * v
      · obtain ⟨y, hy⟩ : ∃ y, (2 * v ^^^ 285) = y := ⟨_, rfl⟩
        rw [hy] at hx
        have hyl : y < 512 := by rw [← hy]; exact Nat.xor_lt_two_pow (n := 9) (by omega) (by omega)
        have ha := and255 y (by omega)
        have Hxt : Hid (xtm v = y &&& 255) := by show xtm v = _; unfold xtm; rw [if_pos hge, hy]
        have hzl : (y &&& 255) < 256 := Nat.lt_of_le_of_lt Nat.and_le_right (by decide)
        generalize (y &&& 255) = z at *
        have Hy := Lib.hid hy; clear hy
        have He2 := Lib.hid he2
        have Hf2 := Lib.hid hf2
        have Hl2 := Lib.hid hl2
        have Hm2 := Lib.hid hm2
        clear he2 hf2 hl2 hm2
        clear he hf hl hm hv
        go_wp2_with fail
        go_roundw
        case rel => exact ⟨k + 1, z, by omega, by go_num, rfl, fun h => by rw [Hnx.out (by omega), Hxt.out], hzl, He2.out, Hf2.out, Hl2.out, Hm2.out⟩
        case measure => simp [intOf]; omega
      · have Hxt : Hid (xtm v = 2 * v) := by show xtm v = _; unfold xtm; rw [if_neg hge]
        have He2 := Lib.hid he2
        have Hf2 := Lib.hid hf2
        have Hl2 := Lib.hid hl2
        have Hm2 := Lib.hid hm2
        clear he2 hf2 hl2 hm2
        clear he hf hl hm hv
        go_wp2_with fail
        go_roundw
        case rel => exact ⟨k + 1, 2 * v, by omega, by go_num, by go_num, fun h => by rw [Hnx.out (by omega), Hxt.out], by omega, He2.out, Hf2.out, Hl2.out, Hm2.out⟩
        case measure => simp [intOf]; omega
    · obtain rfl : k = 256 := by omega
      rw [expTo_all] at he
      have He := Lib.hid he
      have Hf := Lib.hid hf
      have Hl := Lib.hid hl
      have Hm := Lib.hid hm
      clear he hf hl hm
      clear hv
      go_wp2_with fail
      go_loopw [12] (fun i wr2 => ∃ j : Nat, j ≤ 255 ∧ i = .int .i64 j ∧ Blk wr2 (w.heap.size + 1) (cellsN .i64 expL) ∧ Blk wr2 w.heap.size [.slice none 0 0, .slice none 0 0, .pointer none, .pointer none, .int .i64 256, .int .i64 285, .int .i64 0] ∧ Blk wr2 (w.heap.size + 1 + 1) (cellsN .i64 (logTo j)) ∧ QZ.Mod (fun _ => False) w wr2) (fun i _ => 255 - (intOf i).toNat)
      case atStart => exact ⟨0, by omega, rfl, He.out, Hf.out, Hl.out, Hm.out⟩
      case round =>
        obtain ⟨j, hj, rfl, he, hf, hl, hm⟩ := hrel
        by_cases hjl : j < 255
        · have ce := he.cell j
          rw [cellsN_get _ _ _ (by rw [expL_len]; omega)] at ce
          have hel := exp_lt256 j
          have hcell := hl.cell (nth expL j)
          rw [cellsN_get _ _ _ (by rw [logTo_len]; omega)] at hcell
          have hfr := hl.frozen (nth expL j)
          have he2 := he.set_other (a := ⟨w.heap.size + 1 + 1, nth expL j, none⟩) (by simp) (.int .i64 (j : Nat))
          have hf2 := hf.set_other (a := ⟨w.heap.size + 1 + 1, nth expL j, none⟩) (by simp; omega) (.int .i64 (j : Nat))
          have hl2 := hl.set (nth expL j) (.int .i64 (j : Nat))
          rw [cellsN_set, show (logTo j).set (nth expL j) j = logTo (j + 1) from rfl] at hl2
          have hm2 := hm.setCell (p := ⟨w.heap.size + 1 + 1, nth expL j, none⟩) (.inl (by simp; omega)) (.int .i64 (j : Nat))
          generalize nth (logTo j) (nth expL j) = old at *
          generalize nth expL j = x at *
          have He2 := Lib.hid he2
          have Hf2 := Lib.hid hf2
          have Hl2 := Lib.hid hl2
          have Hm2 := Lib.hid hm2
          clear he2 hf2 hl2 hm2
          clear he hf hl hm
          go_wp2_with fail
          go_roundw
          case rel => exact ⟨j + 1, by omega, by go_num, He2.out, Hf2.out, Hl2.out, Hm2.out⟩
          case measure => simp [intOf]; omega
        · obtain rfl : j = 255 := by omega
          rw [logTo_all] at hl
          have hfr := hf.frozen 0; have hfr1 := hf.frozen 1
          have hc0 := hf.cell 0; have hc1 := hf.cell 1
          have hlt2 := hl.lt
          have HA := Lib.hid ((hf.set 0 (.slice (some ⟨w.heap.size + 1, 0, none⟩) 256 256)).set 1 (.slice (some ⟨w.heap.size + 1 + 1, 0, none⟩) 256 256))
          have HAe := Lib.hid ((he.set_other (a := ⟨w.heap.size, 0, none⟩) (by simp) (.slice (some ⟨w.heap.size + 1, 0, none⟩) 256 256)).set_other (a := ⟨w.heap.size, 1, none⟩) (by simp) (.slice (some ⟨w.heap.size + 1 + 1, 0, none⟩) 256 256))
          have HAl := Lib.hid ((hl.set_other (a := ⟨w.heap.size, 0, none⟩) (by simp; omega) (.slice (some ⟨w.heap.size + 1, 0, none⟩) 256 256)).set_other (a := ⟨w.heap.size, 1, none⟩) (by simp; omega) (.slice (some ⟨w.heap.size + 1 + 1, 0, none⟩) 256 256))
          have HAm := Lib.hid ((hm.setCell (p := ⟨w.heap.size, 0, none⟩) (.inl (Nat.le_refl _)) (.slice (some ⟨w.heap.size + 1, 0, none⟩) 256 256)).setCell (p := ⟨w.heap.size, 1, none⟩) (.inl (Nat.le_refl _)) (.slice (some ⟨w.heap.size + 1 + 1, 0, none⟩) 256 256))
          clear he hf hl hm
          go_wp2_with fail
          have hsz : ((wr.setCell ⟨w.heap.size, 0, none⟩ (.slice (some ⟨w.heap.size + 1, 0, none⟩) 256 256)).setCell ⟨w.heap.size, 1, none⟩ (.slice (some ⟨w.heap.size + 1 + 1, 0, none⟩) 256 256)).heap.size = wr.heap.size := by simp [World.setCell]
          generalize (wr.setCell ⟨w.heap.size, 0, none⟩ (.slice (some ⟨w.heap.size + 1, 0, none⟩) 256 256)).setCell ⟨w.heap.size, 1, none⟩ (.slice (some ⟨w.heap.size + 1 + 1, 0, none⟩) 256 256) = wA at *
          clear hfr hfr1 hc0 hc1
          have hsA := HAl.out.lt
          have hX1 : ∀ k, k < w.heap.size + 3 → k < (wA.alloc (.cells #[.int .i64 0] 3)).heap.size := fun k hk => by rw [World.size_alloc]; omega
          have hz0 := Blk.new wA [.int .i64 0] 3
          rw [hsz] at hz0
          have HX1 := Lib.hid hX1; have Hz0 := Lib.hid hz0; have HsA := Lib.hid hsA; have Hsz := Lib.hid hsz
          clear hX1 hz0 hsA hsz
          have hN : w.heap.size + 3 ≤ wr.heap.size := by have := HsA.out; have := Hsz.out; omega
          generalize hNr : wr.heap.size = N at *
          refine (newPoly_n (fun k => k < w.heap.size + 3) _ w.heap.size N 0 1 1 [0] rfl HX1.out (RdN.of_blk Hz0.out) (by decide) (by decide) (by intro x hx; simp at hx; omega) (by omega) (Nat.le_refl _)).mono ?_
          rintro e w5 ⟨z, rfl, hz, hm5⟩
          have hma := ((QZ.Mod.refl (fun _ => False) wA).alloc (.cells #[.int .i64 0] 3)).trans hm5
          have hF5 := hma.blk (fun f => f) HA.out
          have hE5 := hma.blk (fun f => f) HAe.out
          have hL5 := hma.blk (fun f => f) HAl.out
          have hM5 := HAm.out.trans hma
          simp only [List.set_cons_zero, List.set_cons_succ] at hF5
          have hfr := hF5.frozen 2
          have hc2 := hF5.cell 2
          have hz5 := hz.mod ((QZ.Mod.refl (· = w.heap.size) w5).setCell (p := ⟨w.heap.size, 2, none⟩) (.inr rfl) (.pointer (some ⟨z, 0, none⟩))) (fun k e => by rw [e]; omega)
          have hF6 := hF5.set 2 (.pointer (some ⟨z, 0, none⟩))
          have hE6 := hE5.set_other (a := ⟨w.heap.size, 2, none⟩) (by simp) (.pointer (some ⟨z, 0, none⟩))
          have hL6 := hL5.set_other (a := ⟨w.heap.size, 2, none⟩) (by simp; omega) (.pointer (some ⟨z, 0, none⟩))
          have hM6 := hM5.setCell (p := ⟨w.heap.size, 2, none⟩) (.inl (Nat.le_refl _)) (.pointer (some ⟨z, 0, none⟩))
          have hs6 : (w5.setCell ⟨w.heap.size, 2, none⟩ (.pointer (some ⟨z, 0, none⟩))).heap.size = w5.heap.size := by simp [World.setCell]
          simp only [List.set_cons_zero, List.set_cons_succ] at hF6
          have Hz := Lib.hid hz
          have Hma := Lib.hid hma
          have HF5 := Lib.hid hF5
          have HE5 := Lib.hid hE5
          have HL5 := Lib.hid hL5
          have HM5 := Lib.hid hM5
          have Hz5 := Lib.hid hz5
          have HF6 := Lib.hid hF6
          have HE6 := Lib.hid hE6
          have HL6 := Lib.hid hL6
          have HM6 := Lib.hid hM6
          have Hs6 := Lib.hid hs6
          clear hz hma hF5 hE5 hL5 hM5 hz5 hF6 hE6 hL6 hM6 hs6
          go_wp2_with fail
          clear hfr hc2
          generalize w5.setCell ⟨w.heap.size, 2, none⟩ (.pointer (some ⟨z, 0, none⟩)) = w6 at *
          have hb6 := Blk.new w6 [.int .i64 1] 3
          rw [Hs6.out] at hb6
          have hl6 := HL6.out.lt
          have hX6 : ∀ k, k < w.heap.size + 3 → k < (w6.alloc (.cells #[.int .i64 1] 3)).heap.size := fun k hk => by rw [World.size_alloc]; omega
          have hN6 : w.heap.size + 3 ≤ w5.heap.size := by have := Hs6.out; omega
          have Hb6 := Lib.hid hb6
          have HX6 := Lib.hid hX6
          have Hl6 := Lib.hid hl6
          clear hb6 hX6 hl6
          generalize hN5 : w5.heap.size = N5 at *
          refine (newPoly_n (fun k => k < w.heap.size + 3) _ w.heap.size N5 0 1 1 [1] rfl HX6.out (RdN.of_blk Hb6.out) (by decide) (by decide) (by intro x hx; simp at hx; omega) (by omega) (Nat.le_refl _)).mono ?_
          rintro e w7 ⟨o, rfl, ho, hm7⟩
          have hmb := ((QZ.Mod.refl (fun _ => False) w6).alloc (.cells #[.int .i64 1] 3)).trans hm7
          have hF7 := hmb.blk (fun f => f) HF6.out
          have hE7 := hmb.blk (fun f => f) HE6.out
          have hL7 := hmb.blk (fun f => f) HL6.out
          have hM7 := HM6.out.trans hmb
          have hz7 := Hz5.out.new hmb
          have hfr := hF7.frozen 3
          have hc3 := hF7.cell 3
          have hz8 := hz7.mod ((QZ.Mod.refl (· = w.heap.size) w7).setCell (p := ⟨w.heap.size, 3, none⟩) (.inr rfl) (.pointer (some ⟨o, 0, none⟩))) (fun k e => by rw [e]; omega)
          have hF8 := hF7.set 3 (.pointer (some ⟨o, 0, none⟩))
          have hE8 := hE7.set_other (a := ⟨w.heap.size, 3, none⟩) (by simp) (.pointer (some ⟨o, 0, none⟩))
          have hL8 := hL7.set_other (a := ⟨w.heap.size, 3, none⟩) (by simp; omega) (.pointer (some ⟨o, 0, none⟩))
          have hM8 := hM7.setCell (p := ⟨w.heap.size, 3, none⟩) (.inl (Nat.le_refl _)) (.pointer (some ⟨o, 0, none⟩))
          simp only [List.set_cons_zero, List.set_cons_succ] at hF8
          have Ho := Lib.hid ho
          have Hmb := Lib.hid hmb
          have HF7 := Lib.hid hF7
          have HE7 := Lib.hid hE7
          have HL7 := Lib.hid hL7
          have HM7 := Lib.hid hM7
          have Hz7 := Lib.hid hz7
          have Hz8 := Lib.hid hz8
          have HF8 := Lib.hid hF8
          have HE8 := Lib.hid hE8
          have HL8 := Lib.hid hL8
          have HM8 := Lib.hid hM8
          clear ho hmb hF7 hE7 hL7 hM7 hz7 hz8 hF8 hE8 hL8 hM8
          go_wp2_with fail
          go_ret
          exact ⟨w.heap.size, rfl, Nat.le_refl _, ⟨_, _, z, o, ⟨HF8.out, RdN.of_blk HE8.out, RdN.of_blk HL8.out, HF8.out.lt⟩, by omega, by omega, by omega, Hz8.out.weak (fun k hk => by omega)⟩, HM8.out⟩
end Go.Proofs.YtnpkihobbcglcaaGreatDoor
/- A polynomial times one of two coefficients. -/
open Go Go.RowKit
namespace Go.Proofs.YtnpkihobbcglcaaGreatDoor
open Go.QZ

theorem mulS_step (ps qs : List Nat) (hq : qs.length = 2) (i j n : Nat) (hj : j < 2) (hn : n = 2 * i + j) (t : Nat) (ht : i + j = t) : (mulS ps qs n).set t (xorN (nth (mulS ps qs n) t) (gmul (nth ps i) (nth qs j))) = mulS ps qs (n + 1) := by
  conv => rhs; unfold mulS
  rw [hq, show n / 2 = i by omega, show n % 2 = j by omega, ht]

set_option maxRecDepth 20000 in
set_option maxHeartbeats 1600000 in
theorem mul_c (w : World) (F p q : Nat) (ps qs : List Nat) (hp : Poly (fun _ => False) w F p ps) (hq : Poly (fun _ => False) w F q qs) (hF : Fld (fun _ => False) w F) (hpl : ps.length ≤ 1000) (hq2 : qs.length = 2) (hp0 : nth ps 0 ≠ 0) (hq0 : nth qs 0 ≠ 0) :
    Calls Tryz.prog 202 #[.pointer (some ⟨p, 0, none⟩), .pointer (some ⟨q, 0, none⟩)] w (GotPoly (fun k => k < w.heap.size) w F (strip (mulS ps qs (2 * ps.length)))) := by
  have HP := Lib.hid hp; have HQ := Lib.hid hq; have HF := Lib.hid hF; have HX := Lib.hid (show ∀ k, k < w.heap.size → k < w.heap.size from fun _ h => h)
  obtain ⟨B, off, cap, hp⟩ := hp
  obtain ⟨C, offq, capq, hq⟩ := hq
  have p0 := hp.c0; have q0 := hq.c0
  have HPa := Lib.hid hp; have HQa := Lib.hid hq
  have hn := hp.neat.1
  have Hd0 := Lib.hid (decide_eq_false hp0); have Hd1 := Lib.hid (decide_eq_false hq0)
  have HL := Lib.hid (show (mulS ps qs 0) = List.replicate (ps.length + 1) 0 by unfold mulS; rw [hq2]; rfl)
  have Hq2 := Lib.hid hq2
  clear hp hq hF hp0 hq0
  have fneq := field_neq F
  have hmk := make_run (P := Tryz.prog) Tryz.underlying117 i117 rfl ((ps.length : Int) + 1) ((ps.length : Int) + 1) (ps.length + 1) (ps.length + 1) (by omega) (by omega) (Nat.le_refl _) (by omega) (by omega)
  have hlen2 : (ps.length : Int) + 2 - 1 = (ps.length : Int) + 1 := by omega
  go_enter Tryz.func202, Tryz.ntmps202
  go_wp2_with fail
  go_quiet (fail)
  clear fneq
  have Hm0 := Lib.hid (mod_drewN (fun _ => False) w nq)
  have HP1 := Lib.hid (HP.out.new Hm0.out); have HQ1 := Lib.hid (HQ.out.new Hm0.out); have HF1 := Lib.hid (HF.out.new Hm0.out)
  have HX1 : Hid (∀ k, k < w.heap.size → k < (w.drewN nq).heap.size) := HX.out
  have p0 := cell_mod Hm0.out (fun f => f) HPa.out.c0
  have p1 := cell_mod Hm0.out (fun f => f) HPa.out.c1
  have q1 := cell_mod Hm0.out (fun f => f) HQa.out.c1
  rw [Hq2.out] at q1
  have Hpr := Lib.hid (HPa.out.cells.mod Hm0.out (fun f => f)); have Hqr := Lib.hid (HQa.out.cells.mod Hm0.out (fun f => f))
  clear q0
  generalize w.drewN nq = w1 at *
  go_wp2_with fail
  refine ((isZero_c _ w1 F p ps HP1.out)).mono ?_
  rintro e w2 ⟨rfl, rfl⟩
  rw [Hd0.out]
  go_wp2_with fail
  refine ((isZero_c _ w1 F q qs HQ1.out)).mono ?_
  rintro e w2 ⟨rfl, rfl⟩
  rw [Hd1.out]
  go_wp2_with fail
  have Hb0 : Hid (Blk (w1.alloc (zrow 3 (.int .i64 0) (ps.length + 1))) w1.heap.size (cellsN .i64 (mulS ps qs 0))) := by
    show Blk _ _ _
    rw [HL.out]; exact made_i64 _ _
  clear hmk hlen2
  go_loopw [11, 12, 13] (fun i _ _ wr => ∃ k : Nat, k ≤ ps.length ∧ i = .int .i64 k ∧ Blk wr w1.heap.size (cellsN .i64 (mulS ps qs (2 * k))) ∧ QZ.Mod (fun _ => False) w1 wr) (fun i _ _ _ => ps.length - (intOf i).toNat)
  case atStart => exact ⟨0, by omega, rfl, Hb0.out, (QZ.Mod.refl _ _).alloc _⟩
  case round =>
    obtain ⟨k, hk, rfl, hb, hm⟩ := hrel
    by_cases hlt : k < ps.length
    · have cx := cell_mod hm (fun f => f) (Hpr.out k hlt)
      have hx := HPa.out.lt k
      have Hx := Lib.hid (show nth ps k = nth ps k from rfl)
      obtain ⟨x, hxx⟩ : ∃ x, nth ps k = x := ⟨_, rfl⟩
      rw [hxx] at cx hx
      have Hb := Lib.hid hb
      have Hm := Lib.hid hm
      have Hxx := Lib.hid hxx
      clear hb hm hxx
      go_wp2_with fail
      clear cx
      generalize decide ((k : Int) < (ps.length : Int)) = bb
      go_loopw [13] (fun jj w2 => ∃ j : Nat, j ≤ 2 ∧ jj = .int .i64 j ∧ Blk w2 w1.heap.size (cellsN .i64 (mulS ps qs (2 * k + j))) ∧ QZ.Mod (fun _ => False) w1 w2) (fun jj _ => 2 - (intOf jj).toNat)
      case atStart => exact ⟨0, by omega, rfl, Hb.out, Hm.out⟩
      case round =>
        obtain ⟨j, hj, rfl, hb, hm⟩ := hrel
        by_cases hj2 : j < 2
        · have hj2' : j < qs.length := by have := Hq2.out; omega
          have p0 := cell_mod hm (fun f => f) p0
          have cy := cell_mod hm (fun f => f) (Hqr.out j hj2')
          have hy := HQa.out.lt j
          obtain ⟨t, ht⟩ : ∃ t, k + j = t := ⟨_, rfl⟩
          have hti : (k : Int) + (j : Int) = (t : Int) := by omega
          have hw1 : IntKind.i64.wrap ((k : Int) + (j : Int)) = (t : Int) := by rw [hti]; exact IntWalk.i64_in _ (by omega)
          have hwt : IntKind.i64.wrap (t : Int) = (t : Int) := IntWalk.i64_in _ (by omega)
          have htl : t < ps.length + 1 := by omega
          have htl2 : (t : Int) < (ps.length : Int) + 1 := by omega
          have hcell := hb.cell t
          rw [cellsN_get _ _ _ (by rw [mulS_len, Hq2.out]; omega)] at hcell
          have hfr := hb.frozen t
          have hsm := small_nth (mulS_small ps qs (2 * k + j)) t
          have hgl := gmul_lt x (nth qs j)
          have hst := mulS_step ps qs Hq2.out k j (2 * k + j) hj2 rfl t ht
          rw [Hxx.out] at hst
          have hb2 := fun n => (blk_drewN hb n).set t (.int .i64 (xorN (nth (mulS ps qs (2 * k + j)) t) (gmul x (nth qs j)) : Nat))
          rw [cellsN_set, hst] at hb2
          have hm2 := fun n => (Mod.drewN hm n).setCell (p := ⟨w1.heap.size, t, none⟩) (.inl (Nat.le_refl _)) (.int .i64 (xorN (nth (mulS ps qs (2 * k + j)) t) (gmul x (nth qs j)) : Nat))
          have hG := HF1.out.new hm
          obtain ⟨E, L, Z, O, hG, _⟩ := hG
          generalize nth (mulS ps qs (2 * k + j)) t = old at *
          generalize nth qs j = y at *
          have Hb2 := Lib.hid hb2
          have Hm2 := Lib.hid hm2
          have Ht := Lib.hid ht
          have HG := Lib.hid hG
          clear hb2 hm2 ht hG
          clear hb hm hst hti
          go_wp2_with fail
          go_region_with (first | (go_at_call 204; refine (gfMul_c _ F E L Z O ?_ x y hx hy).mono ?_; exact HG.out.drew; rintro e w5 ⟨rfl, n, rfl⟩) | (go_at_call 242; refine (gfAdd_c _ old _ hsm hgl).mono ?_; rintro e w5 ⟨rfl, rfl⟩))
          all_goals (
            go_wp2_with fail
            go_roundw
            case rel => exact ⟨j + 1, by omega, by go_num, Hb2.out _, Hm2.out _⟩
            case measure => simp [intOf]; omega)
        · obtain rfl : j = 2 := by omega
          have Hb := Lib.hid hb
          have Hm := Lib.hid hm
          clear hb hm
          go_wp2_with fail
          go_roundw
          case rel => exact ⟨k + 1, by omega, by go_num, by rw [show 2 * (k + 1) = 2 * k + 2 by omega]; exact Hb.out, Hm.out⟩
          case measure => simp [intOf]; omega
    · obtain rfl : k = ps.length := by omega
      have c0 := cell_mod hm (fun f => f) p0
      have hrd := RdN.of_blk hb
      have HH := Lib.hid (show ¬ w1.heap.size < w.heap.size from fun h => by have := HX1.out _ h; omega)
      have HX2 : Hid (∀ k, k < w.heap.size → k < wr.heap.size) := fun k hk => Nat.lt_of_lt_of_le (HX1.out k hk) hm.size
      have Hm := Lib.hid hm
      have Hb := Lib.hid hb
      have Hrd := Lib.hid hrd
      clear hm hb hrd
      clear p0 p1 q1
      go_wp2_with fail
      refine ((newPoly_n (fun k => k < w.heap.size) wr F _ 0 _ _ (mulS ps qs (2 * ps.length)) (by rw [mulS_len, Hq2.out]; rfl) HX2.out Hrd.out (by omega) (by omega) (mulS_small _ _ _) HH.out (Nat.le_refl _))).mono ?_
      rintro e w5 ⟨r, rfl, hr, hm5⟩
      have Hr := Lib.hid hr
      have Hm5 := Lib.hid hm5
      clear hr hm5
      go_wp2_with fail
      go_ret2
      exact ⟨r, rfl, Hr.out, Hm0.out.trans (Hm.out.trans Hm5.out)⟩
end Go.Proofs.YtnpkihobbcglcaaGreatDoor
/- The Reed-Solomon encoder's generators. -/
open Go Go.RowKit
namespace Go.Proofs.YtnpkihobbcglcaaGreatDoor
open Go.QZ

/-- All blocks of a polynomial, and of a field, are old ones. -/
theorem Poly.full {X : Nat → Prop} {w : World} {F p : Nat} {cs : List Nat} (h : Poly X w F p cs) : Poly (fun k => X k ∨ w.heap.size ≤ k) w F p cs := by
  obtain ⟨B, off, cap, h⟩ := h
  have h1 := h.head.lt
  have h2 := cell_lt (h.cells 0 h.neat.1)
  exact ⟨B, off, cap, h.head, h.cells, h.neat, h.small, h.few, fun s => s.elim h.xp (fun s => by omega), fun s => s.elim h.xB (fun s => by omega), h.capl⟩
theorem Fld.full {X : Nat → Prop} {w : World} {F : Nat} (h : Fld X w F) : Fld (fun k => X k ∨ w.heap.size ≤ k) w F := by
  obtain ⟨E, L, Z, O, h, hF, hE, hL, hZ⟩ := h
  have h1 := h.old
  have h2 := cell_lt (exp_read h 0 (by decide))
  have h3 := cell_lt (log_read h 0 (by decide))
  exact ⟨E, L, Z, O, h, fun s => s.elim hF (fun s => by omega), fun s => s.elim hE (fun s => by omega), fun s => s.elim hL (fun s => by omega), hZ.full⟩

/-- A new encoder at block G, made when there were N blocks. -/
structure Enc0 (w : World) (N G F : Nat) : Prop where
  old : N ≤ G
  ex : ∃ v p0, Blk w G [.pointer (some ⟨F, 0, none⟩), v] ∧ Own w N 240 v [.pointer (some ⟨p0, 0, none⟩)] ∧ v.ownBlock ≠ some G ∧ Poly (fun k => k < N) w F p0 [1]
  fld : Fld (fun k => N ≤ k) w F

theorem newEnc_c (w : World) (F : Nat) (hF : Fld (fun k => w.heap.size ≤ k) w F) : Calls Tryz.prog 128 #[.pointer (some ⟨F, 0, none⟩)] w fun e w' => (∃ G, e = .returned (.pointer (some ⟨G, 0, none⟩)) ∧ Enc0 w' w.heap.size G F) ∧ QZ.Mod (fun _ => False) w w' := by
  have HF := Lib.hid hF; clear hF
  go_enter Tryz.func128, Tryz.ntmps128
  go_wp2_with fail
  have hb := Blk.new w [.int .i64 1] 3
  refine (newPoly_n (fun k => k < w.heap.size) _ F w.heap.size 0 1 1 [1] rfl (fun k hk => by rw [World.size_alloc]; omega) (RdN.of_blk hb) (by decide) (by decide) (by intro x hx; simp at hx; omega) (by omega) (Nat.le_refl _)).mono ?_
  rintro e w5 ⟨p, rfl, hp, hm⟩
  have hm2 := ((QZ.Mod.refl (fun _ => False) w).alloc (.cells #[.int .i64 1] 3)).trans hm
  have Hp := Lib.hid hp
  have Hm2 := Lib.hid hm2
  clear hp hm2
  clear hb hm
  go_wp2_with fail
  go_ret
  have ho := (Own.made w5 w.heap.size 240 [.pointer (some ⟨p, 0, none⟩)] Hm2.out.size (by simp [maxLen])).alloc (.cells #[.pointer (some ⟨F, 0, none⟩), .slice (some ⟨w5.heap.size, 0, none⟩) 1 1] 274)
  have hb := Blk.new (w5.alloc (.cells #[.pointer (some ⟨p, 0, none⟩)] 240)) [.pointer (some ⟨F, 0, none⟩), .slice (some ⟨w5.heap.size, 0, none⟩) 1 1] 274
  rw [World.size_alloc] at hb
  have hm3 := ((QZ.Mod.refl (fun _ => False) w5).alloc (.cells #[.pointer (some ⟨p, 0, none⟩)] 240)).alloc (.cells #[.pointer (some ⟨F, 0, none⟩), .slice (some ⟨w5.heap.size, 0, none⟩) 1 1] 274)
  have hs := Hm2.out.size
  exact ⟨⟨w5.heap.size + 1, rfl, ⟨by omega, ⟨_, p, hb, ho, by simp [Value.ownBlock], Hp.out.new hm3⟩, HF.out.new (Hm2.out.trans hm3)⟩⟩, Hm2.out.trans hm3⟩
end Go.Proofs.YtnpkihobbcglcaaGreatDoor
