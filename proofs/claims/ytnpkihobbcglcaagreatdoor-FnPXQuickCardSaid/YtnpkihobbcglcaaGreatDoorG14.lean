/- Part 14 of the proof of FnPXQuick (a QR code that is written for a text says this text in a picture): parts of the road. No condition. -/
import Derived.Test.YtnpkihobbcglcaaGreatDoorG07
open Go Go.RowKit
namespace Go.Proofs.YtnpkihobbcglcaaGreatDoor
open Go.QZ

/-- The way through the modules: pairs of columns from the right, without column 6, up and down in turn. -/
def zx (d c : Nat) : Nat := if 2 * c + 7 < d then d - 1 - 2 * c else d - 2 - 2 * c
def zy (d c r : Nat) : Nat := if c % 2 = 0 then d - 1 - r else r
def edX (d n : Nat) : Nat := zx d (n / (2 * d)) - n % 2
def edY (d n : Nat) : Nat := zy d (n / (2 * d)) (n % (2 * d) / 2)
def edStep (bs : List Bool) (m : Nat) (s : (Nat → Nat → Int) × Nat) (x y : Nat) : (Nat → Nat → Int) × Nat :=
  if s.1 x y = -1 then (upd s.1 x y (b2i (bth bs s.2 ^^ maskB m x y)), if s.2 < bs.length then s.2 + 1 else s.2) else s
def edI (bs : List Bool) (m d : Nat) (f : Nat → Nat → Int) : Nat → (Nat → Nat → Int) × Nat
  | 0 => (f, 0)
  | n + 1 => edStep bs m (edI bs m d f n) (edX d n) (edY d n)
theorem edX_at (d c r i : Nat) (hr : r < d) (hi : i < 2) : edX d (2 * d * c + 2 * r + i) = zx d c - i := by
  have h1 : (2 * d * c + 2 * r + i) / (2 * d) = c := by
    rw [show 2 * d * c + 2 * r + i = (2 * r + i) + 2 * d * c by omega, Nat.add_mul_div_left _ _ (by omega), Nat.div_eq_of_lt (by omega)]; omega
  have h2 : (2 * d * c + 2 * r + i) % 2 = i := by
    rw [show 2 * d * c + 2 * r + i = i + 2 * (d * c + r) by rw [Nat.mul_add, ← Nat.mul_assoc]; omega, Nat.add_mul_mod_self_left]; omega
  unfold edX; rw [h1, h2]
theorem edY_at (d c r i : Nat) (hr : r < d) (hi : i < 2) : edY d (2 * d * c + 2 * r + i) = zy d c r := by
  have h1 : (2 * d * c + 2 * r + i) / (2 * d) = c := by
    rw [show 2 * d * c + 2 * r + i = (2 * r + i) + 2 * d * c by omega, Nat.add_mul_div_left _ _ (by omega), Nat.div_eq_of_lt (by omega)]; omega
  have h2 : (2 * d * c + 2 * r + i) % (2 * d) = 2 * r + i := by
    rw [show 2 * d * c + 2 * r + i = (2 * r + i) + 2 * d * c by omega, Nat.add_mul_mod_self_left, Nat.mod_eq_of_lt (by omega)]
  unfold edY; rw [h1, h2, show (2 * r + i) / 2 = r by omega]
theorem edI_le (bs : List Bool) (m d : Nat) (f : Nat → Nat → Int) : ∀ n, (edI bs m d f n).2 ≤ bs.length := by
  intro n
  induction n with
  | zero => exact Nat.zero_le _
  | succ n ih =>
    show (edStep bs m _ _ _).2 ≤ _
    unfold edStep
    split
    · show (if _ then _ else _) ≤ _
      split
      · rename_i h; exact Nat.succ_le_of_lt h
      · exact ih
    · exact ih

theorem edStep_hit {bs : List Bool} {m : Nat} {g : Nat → Nat → Int} {k x y : Nat} (h : g x y = -1) : edStep bs m (g, k) x y = (upd g x y (b2i (bth bs k ^^ maskB m x y)), if k < bs.length then k + 1 else k) := by
  unfold edStep; rw [if_pos h]
theorem edStep_miss {bs : List Bool} {m : Nat} {g : Nat → Nat → Int} {k x y : Nat} (h : g x y ≠ -1) : edStep bs m (g, k) x y = (g, k) := by
  unfold edStep; rw [if_neg h]

/-- What holds ahead of a pair of columns. -/
def EdOut (bs : List Bool) (m d : Nat) (f : Nat → Nat → Int) (T : Nat) (w : World) (a b dd k : Value) (wr : World) : Prop :=
  ∃ (c bi : Nat) (X Y D : Int), 2 * c + 1 ≤ d ∧ (2 * c + 7 ≤ d → X = d - 1 - 2 * c) ∧ (d < 2 * c + 7 → X = d - 2 - 2 * c) ∧ (c % 2 = 0 → Y = d - 1 ∧ D = -1) ∧ (c % 2 = 1 → Y = 0 ∧ D = 1) ∧ a = .int .i64 X ∧ b = .int .i64 Y ∧ dd = .int .i64 D ∧ k = .int .i64 bi ∧ (edI bs m d f (2 * d * c)).2 = bi ∧ GM wr T d (edI bs m d f (2 * d * c)).1 ∧ QZ.Mod (GMb T d) w wr

def edMo (a : Value) : Nat := (intOf a + 1).toNat
def edMeas (c d : Nat) (b : Value) : Nat := if c % 2 = 0 then (intOf b + 1).toNat else d - (intOf b).toNat

set_option maxRecDepth 20000 in
set_option maxHeartbeats 6400000 in
theorem embedDB_c (w : World) (T d : Nat) (f : Nat → Nat → Int) (h : GM w T d f) (M : Nat) (hM : M = T + d + 1) (v : Nat) (hv1 : 1 ≤ v) (hv : v < 8) (hd : d = 17 + 4 * v)
    (p B : Nat) (ws : List Nat) (bs : List Bool) (hb : BA w p B ws bs) (hp : ¬ GMb T d p) (hB : ¬ GMb T d B) (m : Nat) (hm8 : m < 8) (hend : (edI bs m d f (2 * d * ((d - 1) / 2))).2 = bs.length) (hbs : bs.length ≤ 100000) :
    Calls Tryz.prog 109 #[.pointer (some ⟨p, 0, none⟩), .int .i64 m, .pointer (some ⟨M, 0, none⟩)] w (Drawn w T d (edI bs m d f (2 * d * ((d - 1) / 2))).1 .nilIface) := by
  have hs := h.small
  have H := Lib.hid h; have HM := Lib.hid hM; have HBA := Lib.hid hb; have Hend := Lib.hid hend; have Hv := Lib.hid hd
  have hd21 : 21 ≤ d := by omega
  have hdodd : d % 2 = 1 := by omega
  have hmm : ((m : Int) != -1) = true := by rw [bne_iff_ne]; omega
  have Hp := Lib.hid hp; have HB := Lib.hid hB
  clear h hM hb hend hd hp hB
  go_enter Tryz.func109, Tryz.ntmps109
  go_wp2_with fail
  refine (ByteMatrix_GetWidth_c w M 0 _ (H.out.gw HM.out)).mono ?_
  rintro e w6 ⟨rfl, rfl⟩
  go_wp2_with fail
  refine (ByteMatrix_GetHeight_c w M 0 _ (H.out.gh HM.out)).mono ?_
  rintro e w6 ⟨rfl, rfl⟩
  go_wp2_with fail
  go_loopw [9, 10, 8, 7, 11, 12, 13, 14, 15] (fun a b dd k _ _ _ _ _ wr => EdOut bs m d f T w a b dd k wr) (fun a _ _ _ _ _ _ _ _ _ => edMo a)
  case atStart =>
    unfold EdOut
    exact ⟨0, 0, (d : Int) - 1, (d : Int) - 1, -1, by omega, fun _ => by omega, fun _ => by omega, fun _ => ⟨rfl, rfl⟩, fun h => by omega, by go_num, by go_num, rfl, rfl, rfl, H.out, QZ.Mod.refl _ _⟩
  case round =>
    obtain ⟨c, bi, X, Y, D, hc, hX1, hX2, hY0, hY1, rfl, rfl, rfl, rfl, hbi, hg, hm⟩ := hrel
    have Hg := Lib.hid hg; have Hm := Lib.hid hm; have Hbi := Lib.hid hbi
    have hbl : bi ≤ bs.length := by rw [← hbi]; exact edI_le _ _ _ _ _
    clear hg hm hbi
    by_cases hlt : 2 * c + 1 < d
    · have hXp : 0 < X := by rcases Nat.lt_or_ge d (2 * c + 7) with h | h
                             · rw [hX2 h]; omega
                             · rw [hX1 h]; omega
      obtain ⟨x1, hx1⟩ : ∃ x1, zx d c = x1 := ⟨_, rfl⟩
      have hx1d : 1 ≤ x1 ∧ x1 < d := by rw [← hx1]; unfold zx; split <;> omega
      have hcase : ((X == 6) = true ∧ X - 1 = (x1 : Int)) ∨ ((X == 6) = false ∧ X = (x1 : Int)) := by
        rw [beq_iff_eq, beq_eq_false_iff_ne]
        rw [← hx1]; unfold zx
        rcases Nat.lt_trichotomy (2 * c + 7) d with h | h | h
        · rw [if_pos h, hX1 (by omega)]; right; omega
        · rw [if_neg (by omega), hX1 (by omega)]; left; omega
        · rw [if_neg (by omega), hX2 (by omega)]; right; omega
      have HX1 := Lib.hid hX1; have HX2 := Lib.hid hX2; have HY0 := Lib.hid hY0; have HY1 := Lib.hid hY1; have Hx1 := Lib.hid hx1; have Hc := Lib.hid hlt
      have hXd : X ≤ d := by rcases Nat.lt_or_ge d (2 * c + 7) with h | h
                             · rw [hX2 h]; omega
                             · rw [hX1 h]; omega
      have hYd : 0 ≤ Y ∧ Y < d := by rcases Nat.mod_two_eq_zero_or_one c with h | h
                                     · rw [(hY0 h).1]; omega
                                     · rw [(hY1 h).1]; omega
      have hDd : -1 ≤ D ∧ D ≤ 1 := by rcases Nat.mod_two_eq_zero_or_one c with h | h
                                      · rw [(hY0 h).2]; omega
                                      · rw [(hY1 h).2]; omega
      have HXx : Hid ((x1 : Int) ≤ X) := by show (x1 : Int) ≤ X; rcases hcase with h | h <;> omega
      have Hcase := Lib.hid hcase
      clear hX1 hX2 hY0 hY1 hx1 hlt hc hcase
      rcases Hcase.out with ⟨h6, h1⟩ | ⟨h6, rfl⟩
      all_goals go_wp2_with fail
      all_goals (first | clear h6 h1 | clear h6)
      all_goals (go_loopw [10, 7, 11, 12, 13, 14, 15] (fun b k _ _ _ _ _ wr => ∃ (r bi : Nat) (Yr : Int), r ≤ d ∧ (c % 2 = 0 → Yr = d - 1 - r) ∧ (c % 2 = 1 → Yr = r) ∧ b = .int .i64 Yr ∧ k = .int .i64 bi ∧ (edI bs m d f (2 * d * c + 2 * r)).2 = bi ∧ GM wr T d (edI bs m d f (2 * d * c + 2 * r)).1 ∧ QZ.Mod (GMb T d) w wr) (fun b _ _ _ _ _ _ _ => edMeas c d b))
      case atStart => exact ⟨0, bi, Y, by omega, fun h => by rw [(HY0.out h).1]; omega, fun h => by rw [(HY1.out h).1]; rfl, rfl, rfl, Hbi.out, Hg.out, Hm.out⟩
      case atStart => exact ⟨0, bi, Y, by omega, fun h => by rw [(HY0.out h).1]; omega, fun h => by rw [(HY1.out h).1]; rfl, rfl, rfl, Hbi.out, Hg.out, Hm.out⟩
      all_goals (
        obtain ⟨r, bi, Yr, hr, hYr0, hYr1, rfl, rfl, hbi, hg, hm⟩ := hrel
        have Hg1 := Lib.hid hg; have Hm1 := Lib.hid hm; have Hbi1 := Lib.hid hbi
        have hbl1 : bi ≤ bs.length := by rw [← hbi]; exact edI_le _ _ _ _ _
        have hYb : -1 ≤ Yr ∧ Yr ≤ d := by
          rcases Nat.mod_two_eq_zero_or_one c with h | h
          · rw [hYr0 h]; omega
          · rw [hYr1 h]; omega
        have HYr0 := Lib.hid hYr0; have HYr1 := Lib.hid hYr1
        clear hg hm hbi hYr0 hYr1
        by_cases hrd : r < d
        · obtain ⟨y1, hy1⟩ : ∃ y1, zy d c r = y1 := ⟨_, rfl⟩
          have hyd : y1 < d := by rw [← hy1]; unfold zy; split <;> omega
          have hYy : Yr = (y1 : Int) := by
            rw [← hy1]; unfold zy
            rcases Nat.mod_two_eq_zero_or_one c with h | h
            · rw [if_pos h, HYr0.out h]; omega
            · rw [if_neg (by omega), HYr1.out h]
          have Hy1 := Lib.hid hy1
          clear hy1
          subst hYy
          clear hYb
          go_wp2_with fail
          refine (ByteMatrix_GetHeight_c wr M 0 _ (Hg1.out.gh HM.out)).mono ?_
          rintro e w6 ⟨rfl, rfl⟩
          go_wp2_with fail
          generalize decide ((y1 : Int) < d) = q1
          go_loopw [11, 7, 12, 13, 14, 15] (fun a k _ _ _ _ wr => ∃ (i bi : Nat), i ≤ 2 ∧ a = .int .i64 i ∧ k = .int .i64 bi ∧ (edI bs m d f (2 * d * c + 2 * r + i)).2 = bi ∧ GM wr T d (edI bs m d f (2 * d * c + 2 * r + i)).1 ∧ QZ.Mod (GMb T d) w wr) (fun a _ _ _ _ _ _ => 2 - (intOf a).toNat)
          case atStart => exact ⟨0, bi, by omega, rfl, rfl, Hbi1.out, Hg1.out, Hm1.out⟩
          case round =>
            obtain ⟨i, bi2, hi, rfl, rfl, hbi, hg, hm⟩ := hrel
            have Hg2 := Lib.hid hg; have Hm2 := Lib.hid hm; have Hbi2 := Lib.hid hbi
            have hbl2 : bi2 ≤ bs.length := by rw [← hbi]; exact edI_le _ _ _ _ _
            clear hg hm hbi
            by_cases hi2 : i < 2
            · obtain ⟨xi, hxi⟩ : ∃ xi, x1 - i = xi := ⟨_, rfl⟩
              have hxI : (x1 : Int) - (i : Int) = (xi : Int) := by omega
              have hxd : xi < d := by omega
              obtain ⟨g, hgg⟩ : ∃ g, (edI bs m d f (2 * d * c + 2 * r + i)).1 = g := ⟨_, rfl⟩
              have Hn : Hid (edI bs m d f (2 * d * c + 2 * r + (i + 1)) = edStep bs m (g, bi2) xi y1) := by
                show edStep bs m (edI bs m d f (2 * d * c + 2 * r + i)) (edX d (2 * d * c + 2 * r + i)) (edY d (2 * d * c + 2 * r + i)) = _
                rw [edX_at _ _ _ _ hrd hi2, edY_at _ _ _ _ hrd hi2, Hx1.out, Hy1.out, hxi, show edI bs m d f (2 * d * c + 2 * r + i) = (g, bi2) from Prod.ext hgg Hbi2.out]
              rw [hgg] at Hg2
              have c1 := (HBA.out.mod Hm2.out Hp.out HB.out).c1
              clear hxi hgg
              go_wp2_with fail
              refine (gmGet_c wr T d _ Hg2.out M HM.out _ _ (by omega) (by omega) (by omega) (by omega)).mono ?_
              rintro e w6 ⟨rfl, rfl⟩
              rw [Int.toNat_natCast, Int.toNat_natCast]
              go_wp2_with fail
              refine (isEmpty_c wr _).mono ?_
              rintro e w6 ⟨rfl, rfl⟩
              by_cases hE : g xi y1 = -1
              · rw [show decide (g xi y1 = -1) = true from decide_eq_true hE]
                have Hh := Lib.hid hE; clear hE
                go_wp2_with fail
                refine (BitArray_GetSize_c wr p 0 _ c1).mono ?_
                rintro e w6 ⟨rfl, rfl⟩
                by_cases hl : bi2 < bs.length
                · have Hl := Lib.hid hl
                  go_wp2_with fail
                  refine (getBA_c wr p B ws bs (HBA.out.mod Hm2.out Hp.out HB.out) _ (by omega) (by omega)).mono ?_
                  rintro e w6 ⟨rfl, rfl⟩
                  rw [Int.toNat_natCast]
                  obtain ⟨bb, hbb⟩ : ∃ bb, bth bs bi2 = bb := ⟨_, rfl⟩
                  rw [hbb]
                  have Hb := Lib.hid hbb
                  clear hbb
                  go_wp2_with fail
                  refine (mask_c wr m xi y1 hm8 (by omega) (by omega)).mono ?_
                  rintro e w6 ⟨rfl, rfl⟩
                  cases hmb : maskB m xi y1
                  · have Hmb := Lib.hid hmb
                    clear hmb
                    · go_wp2_with fail
                      refine (gmSetBool_c wr T d _ Hg2.out M HM.out _ _ (by omega) (by omega) (by omega) (by omega) (bb)).mono ?_
                      rintro e w7 ⟨rfl, hg, hm⟩
                      rw [Int.toNat_natCast, Int.toNat_natCast] at hg
                      have Hg7 := Lib.hid hg; have Hm7 := Lib.hid (Hm2.out.trans hm)
                      clear hg hm
                      go_wp2_with fail
                      go_roundw
                      case rel => exact ⟨i + 1, bi2 + 1, by omega, by go_num, by go_num, by rw [Hn.out, edStep_hit Hh.out, if_pos Hl.out], by
                        rw [Hn.out, edStep_hit Hh.out, Hb.out, Hmb.out]; have := Hg7.out; first | exact this | (cases bb <;> exact this), Hm7.out⟩
                      case measure => simp [intOf]; omega
                  · have Hmb := Lib.hid hmb
                    clear hmb
                    · go_wp2_with fail
                      refine (gmSetBool_c wr T d _ Hg2.out M HM.out _ _ (by omega) (by omega) (by omega) (by omega) (!bb)).mono ?_
                      rintro e w7 ⟨rfl, hg, hm⟩
                      rw [Int.toNat_natCast, Int.toNat_natCast] at hg
                      have Hg7 := Lib.hid hg; have Hm7 := Lib.hid (Hm2.out.trans hm)
                      clear hg hm
                      go_wp2_with fail
                      go_roundw
                      case rel => exact ⟨i + 1, bi2 + 1, by omega, by go_num, by go_num, by rw [Hn.out, edStep_hit Hh.out, if_pos Hl.out], by
                        rw [Hn.out, edStep_hit Hh.out, Hb.out, Hmb.out]; have := Hg7.out; first | exact this | (cases bb <;> exact this), Hm7.out⟩
                      case measure => simp [intOf]; omega
                · have Hl := Lib.hid hl
                  have Hb := Lib.hid (bth_out (bs := bs) (i := bi2) (by omega))
                  go_wp2_with fail
                  refine (mask_c wr m xi y1 hm8 (by omega) (by omega)).mono ?_
                  rintro e w6 ⟨rfl, rfl⟩
                  cases hmb : maskB m xi y1
                  · have Hmb := Lib.hid hmb
                    clear hmb
                    · go_wp2_with fail
                      refine (gmSetBool_c wr T d _ Hg2.out M HM.out _ _ (by omega) (by omega) (by omega) (by omega) (false)).mono ?_
                      rintro e w7 ⟨rfl, hg, hm⟩
                      rw [Int.toNat_natCast, Int.toNat_natCast] at hg
                      have Hg7 := Lib.hid hg; have Hm7 := Lib.hid (Hm2.out.trans hm)
                      clear hg hm
                      go_wp2_with fail
                      go_roundw
                      case rel => exact ⟨i + 1, bi2, by omega, by go_num, by go_num, by rw [Hn.out, edStep_hit Hh.out, if_neg Hl.out], by
                        rw [Hn.out, edStep_hit Hh.out, Hb.out, Hmb.out]; have := Hg7.out; first | exact this | (cases bb <;> exact this), Hm7.out⟩
                      case measure => simp [intOf]; omega
                  · have Hmb := Lib.hid hmb
                    clear hmb
                    · go_wp2_with fail
                      refine (gmSetBool_c wr T d _ Hg2.out M HM.out _ _ (by omega) (by omega) (by omega) (by omega) (!false)).mono ?_
                      rintro e w7 ⟨rfl, hg, hm⟩
                      rw [Int.toNat_natCast, Int.toNat_natCast] at hg
                      have Hg7 := Lib.hid hg; have Hm7 := Lib.hid (Hm2.out.trans hm)
                      clear hg hm
                      go_wp2_with fail
                      go_roundw
                      case rel => exact ⟨i + 1, bi2, by omega, by go_num, by go_num, by rw [Hn.out, edStep_hit Hh.out, if_neg Hl.out], by
                        rw [Hn.out, edStep_hit Hh.out, Hb.out, Hmb.out]; have := Hg7.out; first | exact this | (cases bb <;> exact this), Hm7.out⟩
                      case measure => simp [intOf]; omega
              · rw [show decide (g xi y1 = -1) = false from decide_eq_false hE]
                have Hh := Lib.hid hE; clear hE
                go_wp2_with fail
                go_roundw
                case rel => exact ⟨i + 1, bi2, by omega, by go_num, rfl, by rw [Hn.out, edStep_miss Hh.out], by rw [Hn.out, edStep_miss Hh.out]; exact Hg2.out, Hm2.out⟩
                case measure => simp [intOf]; omega
            · obtain rfl : i = 2 := by omega
              go_wp2_with fail
              go_roundw
              case rel => exact ⟨r + 1, bi2, (y1 : Int) + D, by omega, fun h => by have := HYr0.out h; have := (HY0.out h).2; omega, fun h => by have := HYr1.out h; have := (HY1.out h).2; omega, by go_num, rfl, Hbi2.out, Hg2.out, Hm2.out⟩
              case measure =>
                simp only [intOf, edMeas]
                rcases Nat.mod_two_eq_zero_or_one c with h | h
                · have := HYr0.out h; have := (HY0.out h).2; rw [if_pos h, if_pos h]; omega
                · have := HYr1.out h; have := (HY1.out h).2; rw [if_neg (by omega), if_neg (by omega)]; omega
        · obtain rfl : r = d := by omega
          clear hrd hr hYd hXp hmm
          have hx1v : (2 * c + 7 < r → x1 = r - 1 - 2 * c) ∧ (r ≤ 2 * c + 7 → x1 = r - 2 - 2 * c) := by
            have := Hx1.out
            unfold zx at this
            constructor
            · intro h; rw [if_pos h] at this; omega
            · intro h; rw [if_neg (by omega)] at this; omega
          have Hx1v := Lib.hid hx1v
          clear hx1v
          rcases Nat.mod_two_eq_zero_or_one c with hc2 | hc2
          · have hYn : Yr < 0 := by have := HYr0.out hc2; omega
            have hYn1 : decide (0 ≤ Yr) = false := by rw [decide_eq_false_iff_not]; omega
            have Hc2 := Lib.hid hc2
            clear hc2
            go_wp2_with fail
            go_roundw
            case rel => unfold EdOut; exact ⟨c + 1, bi, (x1 : Int) - 2, Yr - D, -D, by have := Hc.out; omega, fun h => by have := Hx1v.out; omega, fun h => by have := Hx1v.out; have := Hc.out; omega, fun h => by have := Hc2.out; omega, fun h => by have := HYr0.out Hc2.out; have := (HY0.out Hc2.out).2; omega, by go_num, by go_num, by go_num, rfl, by rw [show 2 * r * (c + 1) = 2 * r * c + 2 * r by rw [Nat.mul_succ]]; exact Hbi1.out, by rw [show 2 * r * (c + 1) = 2 * r * c + 2 * r by rw [Nat.mul_succ]]; exact Hg1.out, Hm1.out⟩
            case measure => simp only [edMo, intOf]; have := HXx.out; omega
          · have hYp : (r : Int) ≤ Yr := by have := HYr1.out hc2; omega
            have hYp1 : decide (0 ≤ Yr) = true := by rw [decide_eq_true_iff]; omega
            have hYp2 : decide (Yr < (r : Int)) = false := by rw [decide_eq_false_iff_not]; omega
            have Hc2 := Lib.hid hc2
            clear hc2
            go_wp2_with fail
            refine (ByteMatrix_GetHeight_c wr M 0 _ (Hg1.out.gh HM.out)).mono ?_
            rintro e w6 ⟨rfl, rfl⟩
            go_wp2_with fail
            go_roundw
            case rel => unfold EdOut; exact ⟨c + 1, bi, (x1 : Int) - 2, Yr - D, -D, by have := Hc.out; omega, fun h => by have := Hx1v.out; omega, fun h => by have := Hx1v.out; have := Hc.out; omega, fun h => by have := HYr1.out Hc2.out; have := (HY1.out Hc2.out).2; omega, fun h => by have := Hc2.out; omega, by go_num, by go_num, by go_num, rfl, by rw [show 2 * r * (c + 1) = 2 * r * c + 2 * r by rw [Nat.mul_succ]]; exact Hbi1.out, by rw [show 2 * r * (c + 1) = 2 * r * c + 2 * r by rw [Nat.mul_succ]]; exact Hg1.out, Hm1.out⟩
            case measure => simp only [edMo, intOf]; have := HXx.out; omega)
    · obtain rfl : c = (d - 1) / 2 := by omega
      have hXn : X = -1 := by rw [hX2 (by omega)]; omega
      subst hXn
      have hbe : bi = bs.length := by rw [← Hbi.out]; exact Hend.out
      subst hbe
      have c1 := (HBA.out.mod Hm.out Hp.out HB.out).c1
      have hne : (((bs.length : Nat) : Int) != ((bs.length : Nat) : Int)) = false := by simp
      have HY0 := Lib.hid hY0; have HY1 := Lib.hid hY1; have HX1 := Lib.hid hX1; have HX2 := Lib.hid hX2
      clear hY0 hY1 hX1 hX2
      go_wp2_with fail
      refine (BitArray_GetSize_c wr p 0 _ c1).mono ?_
      rintro e w6 ⟨rfl, rfl⟩
      go_wp2_with fail
      go_ret
      exact ⟨rfl, Hg.out, Hm.out⟩
end Go.Proofs.YtnpkihobbcglcaaGreatDoor
open Go Go.RowKit
namespace Go.Proofs.YtnpkihobbcglcaaGreatDoor
open Go.QZ

/-- The matrix ahead of its data; the number of steps of the way; the whole. -/
def fnF (v l m : Nat) : Nat → Nat → Int := viA v (17 + 4 * v) (tiF (tiBits l m) (17 + 4 * v) (basicF v) 15)
def zzN (v : Nat) : Nat := 2 * (17 + 4 * v) * ((17 + 4 * v - 1) / 2)
def qrF (v l m : Nat) (bs : List Bool) : Nat → Nat → Int := (edI bs m (17 + 4 * v) (fnF v l m) (zzN v)).1

set_option maxHeartbeats 800000 in
theorem build_c (w : World) (T d : Nat) (f : Nat → Nat → Int) (h : GM w T d f) (M : Nat) (hM : M = T + d + 1) (v : Nat) (hv1 : 1 ≤ v) (hv : v < 8) (hd : d = 17 + 4 * v)
    (pv : Nat) (hpv : w.cell? ⟨pv, 0, none⟩ = some (.int .i64 v)) (hS : ¬ GMb T d pv) (l m : Nat) (hl : l < 4) (hm8 : m < 8)
    (p B : Nat) (ws : List Nat) (bs : List Bool) (hb : BA w p B ws bs) (hp : ¬ GMb T d p) (hB : ¬ GMb T d B) (hend : (edI bs m (17 + 4 * v) (fnF v l m) (zzN v)).2 = bs.length) (hbs : bs.length ≤ 100000) :
    Calls Tryz.prog 62 #[.pointer (some ⟨p, 0, none⟩), .int .i64 l, .pointer (some ⟨pv, 0, none⟩), .int .i64 m, .pointer (some ⟨M, 0, none⟩)] w (Drawn w T d (qrF v l m bs) .nilIface) := by
  have H := Lib.hid h; have HM := Lib.hid hM; have Hd := Lib.hid hd; have Hpv := Lib.hid hpv; have Hb := Lib.hid hb; have Hp := Lib.hid hp; have HB := Lib.hid hB; have HS := Lib.hid hS; have He := Lib.hid hend
  have h21 : 21 ≤ d := by omega
  clear h hM hpv hb hp hB hS hend hd
  go_enter Tryz.func62, Tryz.ntmps62
  go_wp2_with fail
  refine (clearMatrix_c w T d f H.out M HM.out).mono ?_
  rintro e w1 ⟨rfl, hg, hm⟩
  have Hg1 := Lib.hid hg; have Hm1 := Lib.hid hm
  clear hg hm
  go_wp2_with fail
  refine (basic_c w1 T d Hg1.out M HM.out v hv1 hv Hd.out pv (cell_mod Hm1.out HS.out Hpv.out) HS.out).mono ?_
  rintro e w2 ⟨rfl, hg, hm⟩
  have Hg2 := Lib.hid hg; have Hm2 := Lib.hid (Hm1.out.trans hm)
  clear hg hm
  go_wp2_with fail
  refine (embedTI_c w2 T d _ Hg2.out M HM.out h21 l m hl hm8).mono ?_
  rintro e w3 ⟨rfl, hg, hm⟩
  have Hg3 := Lib.hid hg; have Hm3 := Lib.hid (Hm2.out.trans hm)
  clear hg hm
  go_wp2_with fail
  refine (embedVI_c w3 T d _ Hg3.out M HM.out v hv Hd.out pv (cell_mod Hm3.out HS.out Hpv.out)).mono ?_
  rintro e w4 ⟨rfl, hg, hm⟩
  have hgg : GM w4 T d (fnF v l m) := by
    have := hg
    unfold fnF
    rwa [Hd.out] at this ⊢
  have Hg4 := Lib.hid hgg; have Hm4 := Lib.hid (Hm3.out.trans hm)
  clear hg hm hgg
  go_wp2_with fail
  have HN : Hid (zzN v = 2 * d * ((d - 1) / 2)) := by show zzN v = _; rw [Hd.out]; rfl
  refine (embedDB_c w4 T d _ Hg4.out M HM.out v hv1 hv Hd.out p B ws bs (Hb.out.mod Hm4.out Hp.out HB.out) Hp.out HB.out m hm8 (by have := He.out; rw [HN.out, ← Hd.out] at this; exact this) hbs).mono ?_
  rintro e w5 ⟨rfl, hg, hm⟩
  have hgg : GM w5 T d (qrF v l m bs) := by
    have := hg
    unfold qrF
    rw [HN.out, ← Hd.out]; exact this
  have Hg5 := Lib.hid hgg; have Hm5 := Lib.hid (Hm4.out.trans hm)
  clear hg hm hgg
  go_wp2_with fail
  go_ret
  exact ⟨rfl, Hg5.out, Hm5.out⟩
end Go.Proofs.YtnpkihobbcglcaaGreatDoor
/- The way through the modules: each place once; what stands where behind it: numbers and lists alone. -/
open Go Go.RowKit
namespace Go.Proofs.YtnpkihobbcglcaaGreatDoor
open Go.QZ

theorem zx_inj {d c c' i i' : Nat} (hd : d % 2 = 1) (h21 : 21 ≤ d) (hc : c < (d - 1) / 2) (hc' : c' < (d - 1) / 2) (hi : i < 2) (hi' : i' < 2) (h : zx d c - i = zx d c' - i') : c = c' ∧ i = i' := by
  unfold zx at h
  split at h <;> split at h <;> omega
theorem step_parts (d n : Nat) (hd : 0 < d) : n = 2 * d * (n / (2 * d)) + n % (2 * d) ∧ n % (2 * d) < 2 * d ∧ n % (2 * d) % 2 = n % 2 := by
  refine ⟨(Nat.div_add_mod n (2 * d)).symm, Nat.mod_lt _ (by omega), ?_⟩
  rw [Nat.mod_mul_right_mod]
theorem step_col {d n : Nat} (hd : 0 < d) (h : n < 2 * d * ((d - 1) / 2)) : n / (2 * d) < (d - 1) / 2 := by
  rw [Nat.div_lt_iff_lt_mul (by omega), Nat.mul_comm]; exact h
theorem pos_inj {d n m : Nat} (hd : d % 2 = 1) (h21 : 21 ≤ d) (hn : n < 2 * d * ((d - 1) / 2)) (hm : m < 2 * d * ((d - 1) / 2)) (hx : edX d n = edX d m) (hy : edY d n = edY d m) : n = m := by
  have cn := step_col (by omega) hn
  have cm := step_col (by omega) hm
  obtain ⟨en, ln, pn⟩ := step_parts d n (by omega)
  obtain ⟨em, lm, pm⟩ := step_parts d m (by omega)
  unfold edX at hx
  obtain ⟨h1, h2⟩ := zx_inj hd h21 cn cm (by omega) (by omega) hx
  unfold edY zy at hy
  rw [h1] at hy
  rw [h1] at en
  generalize 2 * d * (m / (2 * d)) = q at *
  generalize n % (2 * d) = a at *
  generalize m % (2 * d) = b at *
  split at hy <;> omega
theorem edX_lt {d n : Nat} (hd : d % 2 = 1) (h21 : 21 ≤ d) (hn : n < 2 * d * ((d - 1) / 2)) : edX d n < d := by
  have cn := step_col (by omega) hn
  unfold edX zx; split <;> omega
theorem edY_lt {d n : Nat} (h21 : 21 ≤ d) : edY d n < d := by
  obtain ⟨en, ln, pn⟩ := step_parts d n (by omega)
  unfold edY zy; split <;> omega

/-- A free place; how many of them come first. -/
def freeN (f : Nat → Nat → Int) (d n : Nat) : Bool := decide (f (edX d n) (edY d n) = -1)
def cnt (f : Nat → Nat → Int) (d : Nat) : Nat → Nat
  | 0 => 0
  | n + 1 => cnt f d n + (if freeN f d n then 1 else 0)
theorem cnt_mono (f : Nat → Nat → Int) (d n k : Nat) : cnt f d n ≤ cnt f d (n + k) := by
  induction k with
  | zero => exact Nat.le_refl _
  | succ k ih =>
    have : cnt f d (n + (k + 1)) = cnt f d (n + k) + (if freeN f d (n + k) then 1 else 0) := rfl
    omega
theorem b2i_ne (b : Bool) : b2i b ≠ -1 := by cases b <;> decide

theorem edI_spec (bs : List Bool) (m d : Nat) (f : Nat → Nat → Int) (hd : d % 2 = 1) (h21 : 21 ≤ d) : ∀ n, n ≤ 2 * d * ((d - 1) / 2) →
    (edI bs m d f n).2 = min (cnt f d n) bs.length ∧
    (∀ x y, (∀ j, j < n → freeN f d j = true → ¬ (edX d j = x ∧ edY d j = y)) → (edI bs m d f n).1 x y = f x y) ∧
    (∀ j, j < n → freeN f d j = true → (edI bs m d f n).1 (edX d j) (edY d j) = b2i (bth bs (cnt f d j) ^^ maskB m (edX d j) (edY d j))) := by
  intro n
  induction n with
  | zero => intro _; exact ⟨by simp [edI, cnt], fun _ _ _ => rfl, fun j h => by omega⟩
  | succ n ih =>
    intro hn
    obtain ⟨h1, h2, h3⟩ := ih (by omega)
    have hs : (edI bs m d f n).1 (edX d n) (edY d n) = f (edX d n) (edY d n) := h2 _ _ (fun j hj _ he => by
      have := pos_inj hd h21 (by omega) (by omega) he.1 he.2; omega)
    have est : edI bs m d f (n + 1) = edStep bs m (edI bs m d f n) (edX d n) (edY d n) := rfl
    rw [est]
    cases hf : freeN f d n
    · have hne : (edI bs m d f n).1 (edX d n) (edY d n) ≠ -1 := by rw [hs]; unfold freeN at hf; simpa using hf
      have e : edStep bs m (edI bs m d f n) (edX d n) (edY d n) = edI bs m d f n := by unfold edStep; rw [if_neg hne]
      rw [e]
      refine ⟨?_, fun x y h => h2 x y (fun j hj => h j (by omega)), fun j hj hfj => ?_⟩
      · rw [h1, show cnt f d (n + 1) = cnt f d n + (if freeN f d n then 1 else 0) from rfl, hf]; simp
      · rcases Nat.lt_or_ge j n with h | h
        · exact h3 j h hfj
        · obtain rfl : j = n := by omega
          rw [hf] at hfj; cases hfj
    · have heq : (edI bs m d f n).1 (edX d n) (edY d n) = -1 := by rw [hs]; unfold freeN at hf; simpa using hf
      have e : edStep bs m (edI bs m d f n) (edX d n) (edY d n) = (upd (edI bs m d f n).1 (edX d n) (edY d n) (b2i (bth bs (edI bs m d f n).2 ^^ maskB m (edX d n) (edY d n))), if (edI bs m d f n).2 < bs.length then (edI bs m d f n).2 + 1 else (edI bs m d f n).2) := by unfold edStep; rw [if_pos heq]
      rw [e]
      refine ⟨?_, fun x y h => ?_, fun j hj hfj => ?_⟩
      · have ec : cnt f d (n + 1) = cnt f d n + 1 := by
          show cnt f d n + (if freeN f d n then 1 else 0) = _
          rw [hf]; rfl
        rw [ec]
        show (if (edI bs m d f n).2 < bs.length then (edI bs m d f n).2 + 1 else (edI bs m d f n).2) = _
        rw [h1]
        generalize cnt f d n = c
        by_cases hlt : min c bs.length < bs.length
        · rw [if_pos hlt]; omega
        · rw [if_neg hlt]; omega
      · show upd _ _ _ _ x y = _
        unfold upd
        rw [if_neg (fun he => h n (by omega) hf ⟨he.1.symm, he.2.symm⟩)]
        exact h2 x y (fun j hj => h j (by omega))
      · show upd _ _ _ _ _ _ = _
        unfold upd
        by_cases ej : j = n
        · subst ej
          rw [if_pos ⟨rfl, rfl⟩, h1]
          have : bth bs (min (cnt f d j) bs.length) = bth bs (cnt f d j) := by
            rcases Nat.lt_or_ge (cnt f d j) bs.length with h | h
            · rw [Nat.min_eq_left (by omega)]
            · rw [Nat.min_eq_right h, bth_out (Nat.le_refl _), bth_out h]
          rw [this]
        · rw [if_neg (fun he => ej (pos_inj hd h21 (by omega) (by omega) he.1 he.2))]
          exact h3 j (by omega) hfj

/-- Unmasked bits at the free places, one behind the other. -/
def readTo (g : Nat → Nat → Bool) (f : Nat → Nat → Int) (m d : Nat) : Nat → List Bool
  | 0 => []
  | n + 1 => if freeN f d n then readTo g f m d n ++ [g (edX d n) (edY d n) ^^ maskB m (edX d n) (edY d n)] else readTo g f m d n
theorem readTo_len (g : Nat → Nat → Bool) (f : Nat → Nat → Int) (m d n : Nat) : (readTo g f m d n).length = cnt f d n := by
  induction n with
  | zero => rfl
  | succ n ih => unfold readTo cnt; split <;> simp [ih]
theorem readTo_bth (bs : List Bool) (g : Nat → Nat → Bool) (f : Nat → Nat → Int) (m d N : Nat) (hg : ∀ j, j < N → freeN f d j = true → g (edX d j) (edY d j) = (bth bs (cnt f d j) ^^ maskB m (edX d j) (edY d j))) :
    ∀ n, n ≤ N → ∀ i, i < cnt f d n → bth (readTo g f m d n) i = bth bs i := by
  intro n
  induction n with
  | zero => intro _ i h; simp [cnt] at h
  | succ n ih =>
    intro hn i hi
    unfold readTo
    unfold cnt at hi
    cases hf : freeN f d n
    · rw [hf] at hi; simp only [Bool.false_eq_true, if_false, Nat.add_zero] at hi ⊢
      exact ih (by omega) i hi
    · rw [hf] at hi; simp only [if_true] at hi ⊢
      rw [bth_push, readTo_len, hg n (by omega) hf]
      rcases Nat.lt_or_ge i (cnt f d n) with h | h
      · rw [ih (by omega) i h]
        have : decide (i = cnt f d n) = false := by rw [decide_eq_false_iff_not]; omega
        rw [this]; simp
      · obtain rfl : i = cnt f d n := by omega
        rw [bth_out (by rw [readTo_len]; exact Nat.le_refl _)]
        simp
end Go.Proofs.YtnpkihobbcglcaaGreatDoor
/- What stands in the matrix ahead of the data: the function patterns, in closed form: numbers and lists alone. -/
open Go Go.RowKit
namespace Go.Proofs.YtnpkihobbcglcaaGreatDoor
open Go.QZ

theorem timF_closed (f : Nat → Nat → Int) : ∀ k a b, timF f k a b = if b = 6 ∧ 8 ≤ a ∧ a < 8 + k ∧ f a 6 = -1 then (((a + 1) % 2 : Nat) : Int) else if a = 6 ∧ 8 ≤ b ∧ b < 8 + k ∧ f 6 b = -1 then (((b + 1) % 2 : Nat) : Int) else f a b := by
  intro k
  induction k with
  | zero => intro a b; rw [if_neg (fun h => by omega), if_neg (fun h => by omega)]; rfl
  | succ k ih =>
    intro a b
    have h1 : timF f k (8 + k) 6 = f (8 + k) 6 := by rw [ih, if_neg (fun h => by omega), if_neg (fun h => by omega)]
    have h2 : timF f k 6 (8 + k) = f 6 (8 + k) := by rw [ih, if_neg (fun h => by omega), if_neg (fun h => by omega)]
    obtain ⟨V, hV⟩ : ∃ V : Int, (((8 + k + 1) % 2 : Nat) : Int) = V := ⟨_, rfl⟩
    have g2v : timF f (k + 1) a b = if (a = 6 ∧ b = 8 + k) ∧ f 6 (8 + k) = -1 then V else (if (a = 8 + k ∧ b = 6) ∧ f (8 + k) 6 = -1 then V else timF f k a b) := by
      show timS (timF f k) (8 + k) a b = _
      unfold timS
      rw [hV, h1]
      obtain ⟨G, hG⟩ : ∃ G, (if f (8 + k) 6 = -1 then upd (timF f k) (8 + k) 6 V else timF f k) = G := ⟨_, rfl⟩
      have g1v : ∀ a b, G a b = if (a = 8 + k ∧ b = 6) ∧ f (8 + k) 6 = -1 then V else timF f k a b := by
        intro a b
        rw [← hG]
        by_cases c : f (8 + k) 6 = -1
        · rw [if_pos c]
          unfold upd
          by_cases e : a = 8 + k ∧ b = 6
          · rw [if_pos e, if_pos ⟨e, c⟩]
          · rw [if_neg e, if_neg (fun h => e h.1)]
        · rw [if_neg c, if_neg (fun h => c h.2)]
      show (if (if f (8 + k) 6 = -1 then upd (timF f k) (8 + k) 6 V else timF f k) 6 (8 + k) = -1 then upd (if f (8 + k) 6 = -1 then upd (timF f k) (8 + k) 6 V else timF f k) 6 (8 + k) V else (if f (8 + k) 6 = -1 then upd (timF f k) (8 + k) 6 V else timF f k)) a b = _
      rw [hG]
      have g6 : G 6 (8 + k) = f 6 (8 + k) := by rw [g1v, if_neg (fun h => by omega), h2]
      rw [g6, ← g1v]
      by_cases c : f 6 (8 + k) = -1
      · rw [if_pos c]
        unfold upd
        by_cases e : a = 6 ∧ b = 8 + k
        · rw [if_pos e, if_pos ⟨e, c⟩]
        · rw [if_neg e, if_neg (fun h => e h.1)]
      · rw [if_neg c, if_neg (fun h => c h.2)]
    rw [g2v, ih]
    by_cases p1 : (a = 6 ∧ b = 8 + k) ∧ f 6 (8 + k) = -1
    · obtain ⟨⟨rfl, rfl⟩, c⟩ := p1
      rw [if_pos ⟨⟨rfl, rfl⟩, c⟩, if_neg (show ¬ (8 + k = 6 ∧ 8 ≤ 6 ∧ 6 < 8 + (k + 1) ∧ f 6 6 = -1) from fun h => by omega), if_pos ⟨rfl, by omega, by omega, c⟩, hV]
    · rw [if_neg p1]
      by_cases p2 : (a = 8 + k ∧ b = 6) ∧ f (8 + k) 6 = -1
      · obtain ⟨⟨rfl, rfl⟩, c⟩ := p2
        rw [if_pos ⟨⟨rfl, rfl⟩, c⟩, if_pos ⟨rfl, by omega, by omega, c⟩, hV]
      · rw [if_neg p2]
        have q1 : (b = 6 ∧ 8 ≤ a ∧ a < 8 + k ∧ f a 6 = -1) ↔ (b = 6 ∧ 8 ≤ a ∧ a < 8 + (k + 1) ∧ f a 6 = -1) := ⟨fun h => ⟨h.1, h.2.1, by omega, h.2.2.2⟩, fun h => ⟨h.1, h.2.1, by
          have : a ≠ 8 + k := fun e => p2 ⟨⟨e, h.1⟩, e ▸ h.2.2.2⟩
          omega, h.2.2.2⟩⟩
        have q2 : (a = 6 ∧ 8 ≤ b ∧ b < 8 + k ∧ f 6 b = -1) ↔ (a = 6 ∧ 8 ≤ b ∧ b < 8 + (k + 1) ∧ f 6 b = -1) := ⟨fun h => ⟨h.1, h.2.1, by omega, h.2.2.2⟩, fun h => ⟨h.1, h.2.1, by
          have : b ≠ 8 + k := fun e => p1 ⟨⟨h.1, e⟩, e ▸ h.2.2.2⟩
          omega, h.2.2.2⟩⟩
        simp only [q1, q2]

/-- Adjustment patterns at places. -/
def putsF (f : Nat → Nat → Int) : List (Nat × Nat) → Nat → Nat → Int
  | [] => f
  | p :: r => put2 (putsF f r) (p.1 - 2) (p.2 - 2) papF 5 5 0
def adjP (v : Nat) (f : Nat → Nat → Int) : Nat → List (Nat × Nat)
  | 0 => []
  | n + 1 => (fun ps y x => if 0 ≤ y ∧ 0 ≤ x ∧ putsF f ps x.toNat y.toNat = -1 then (x.toNat, y.toNat) :: ps else ps) (adjP v f n) (tget coordT (v - 1) (n / 7)) (tget coordT (v - 1) (n % 7))
theorem adjF_puts (v : Nat) (f : Nat → Nat → Int) (n : Nat) : adjF v f n = putsF f (adjP v f n) := by
  induction n with
  | zero => rfl
  | succ n ih =>
    show adjS (adjF v f n) _ _ = _
    rw [ih]
    have e : adjP v f (n + 1) = if 0 ≤ tget coordT (v - 1) (n / 7) ∧ 0 ≤ tget coordT (v - 1) (n % 7) ∧ putsF f (adjP v f n) (tget coordT (v - 1) (n % 7)).toNat (tget coordT (v - 1) (n / 7)).toNat = -1 then ((tget coordT (v - 1) (n % 7)).toNat, (tget coordT (v - 1) (n / 7)).toNat) :: adjP v f n else adjP v f n := rfl
    rw [e]
    unfold adjS
    split <;> rfl
/-- Where they lie. -/
def adjL (v : Nat) : List (Nat × Nat) :=
  if v < 2 then [] else if v < 7 then [(10 + 4 * v, 10 + 4 * v)] else [(38, 38), (22, 38), (38, 22), (22, 22), (6, 22), (22, 6)]
def base0 (v : Nat) : Nat → Nat → Int := upd (pf9 (17 + 4 * v)) 8 (17 + 4 * v - 8) 1
theorem adjP_all : ∀ v, v < 8 → 2 ≤ v → adjP v (base0 v) 49 = adjL v := by decide +kernel
def basicC (v : Nat) : Nat → Nat → Int := fun a b =>
  if b = 6 ∧ 8 ≤ a ∧ a < 8 + (17 + 4 * v - 16) ∧ putsF (base0 v) (adjL v) a 6 = -1 then (((a + 1) % 2 : Nat) : Int) else if a = 6 ∧ 8 ≤ b ∧ b < 8 + (17 + 4 * v - 16) ∧ putsF (base0 v) (adjL v) 6 b = -1 then (((b + 1) % 2 : Nat) : Int) else putsF (base0 v) (adjL v) a b
theorem basicF_closed (v : Nat) (hv : v < 8) : basicF v = basicC v := by
  funext a b
  unfold basicF
  rw [timF_closed]
  have e : adjA v (upd (pf9 (17 + 4 * v)) 8 (17 + 4 * v - 8) 1) = putsF (base0 v) (adjL v) := by
    unfold adjA
    by_cases h : v < 2
    · rw [if_pos h]; unfold adjL; rw [if_pos h]; rfl
    · rw [if_neg h, adjF_puts, ← adjP_all v hv (by omega)]; rfl
  rw [e]; rfl
def fnC (v l m : Nat) : Nat → Nat → Int := viA v (17 + 4 * v) (tiF (tiBits l m) (17 + 4 * v) (basicC v) 15)
theorem fnF_closed (v l m : Nat) (hv : v < 8) : fnF v l m = fnC v l m := by unfold fnF fnC; rw [basicF_closed v hv]

/-- Whether a place is free does not hang on the format's bits. -/
theorem upd_free {f g : Nat → Nat → Int} (h : ∀ a b, f a b = -1 ↔ g a b = -1) (x y : Nat) (u v : Bool) (a b : Nat) : upd f x y (b2i u) a b = -1 ↔ upd g x y (b2i v) a b = -1 := by
  unfold upd
  split
  · exact ⟨fun h => absurd h (b2i_ne _), fun h => absurd h (b2i_ne _)⟩
  · exact h a b
theorem tiF_free (bs cs : List Bool) (d : Nat) (f : Nat → Nat → Int) : ∀ k a b, tiF bs d f k a b = -1 ↔ tiF cs d f k a b = -1 := by
  intro k
  induction k with
  | zero => intro a b; exact Iff.rfl
  | succ k ih =>
    intro a b
    show tiS bs d _ k a b = -1 ↔ tiS cs d _ k a b = -1
    unfold tiS
    split
    · exact upd_free (upd_free ih _ _ _ _) _ _ _ _ _ _
    · exact upd_free (upd_free (upd_free ih _ _ _ _) _ _ _ _) _ _ _ _ _ _
theorem viF_free (bs : List Bool) (d : Nat) {f g : Nat → Nat → Int} (h : ∀ a b, f a b = -1 ↔ g a b = -1) : ∀ k a b, viF bs d f k a b = -1 ↔ viF bs d g k a b = -1 := by
  intro k
  induction k with
  | zero => exact h
  | succ k ih =>
    intro a b
    show viS bs d _ k a b = -1 ↔ viS bs d _ k a b = -1
    unfold viS
    exact upd_free (upd_free ih _ _ _ _) _ _ _ _ _ _
theorem fnC_free (v l m a b : Nat) : fnC v l m a b = -1 ↔ fnC v 0 0 a b = -1 := by
  unfold fnC viA
  split
  · exact tiF_free _ _ _ _ _ _ _
  · exact viF_free _ _ (tiF_free _ _ _ _ _) _ _ _

/-- The decoder's picture of what is no data. -/
def inR (x y l t w h : Nat) : Bool := Nat.ble l x && Nat.blt x (l + w) && Nat.ble t y && Nat.blt y (t + h)
def aliC (v : Nat) : List Nat := if v < 2 then [] else if v < 7 then [6, 10 + 4 * v] else [6, 22, 38]
def aliP (v : Nat) : List (Nat × Nat) := if v < 2 then [] else if v < 7 then [(10 + 4 * v, 10 + 4 * v)] else [(22, 6), (6, 22), (22, 22), (38, 22), (22, 38), (38, 38)]
def fpF (v x y : Nat) : Bool :=
  let d := 17 + 4 * v
  inR x y 0 0 9 9 || inR x y (d - 8) 0 8 9 || inR x y 0 (d - 8) 9 8 || (aliP v).any (fun p => inR x y (p.1 - 2) (p.2 - 2) 5 5) || inR x y 6 9 1 (d - 17) || inR x y 9 6 (d - 17) 1 || (Nat.blt 6 v && (inR x y (d - 11) 0 3 6 || inR x y 0 (d - 11) 6 3))
theorem fp_all : ∀ v, v < 8 → 1 ≤ v → ∀ x, x < 17 + 4 * v → ∀ y, y < 17 + 4 * v → (decide (fnC v 0 0 x y = -1) = !fpF v x y) := by decide +kernel
theorem free_fp (v l m x y : Nat) (hv1 : 1 ≤ v) (hv : v < 8) (hx : x < 17 + 4 * v) (hy : y < 17 + 4 * v) : decide (fnF v l m x y = -1) = !fpF v x y := by
  rw [fnF_closed v l m hv, ← fp_all v hv hv1 x hx y hy, decide_eq_decide]
  exact fnC_free v l m x y
end Go.Proofs.YtnpkihobbcglcaaGreatDoor
