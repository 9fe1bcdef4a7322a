/- Part 52 of the proof of FnPXQuick (a QR code that is written for a text says this text in a picture): parts of the road. No condition. -/
import Derived.Test.YtnpkihobbcglcaaGreatDoorG46
import Derived.Test.YtnpkihobbcglcaaGreatDoorG47
import Derived.Test.YtnpkihobbcglcaaGreatDoorG50
import Derived.Test.YtnpkihobbcglcaaGreatDoorG51
/- What is read of a picture of a symbol is the symbol. -/
open Go Go.RowKit
namespace Go.Proofs.YtnpkihobbcglcaaGreatDoor
open Go.QZ

theorem pic_mid (f : Nat → Nat → Bool) (s m0 m2 n L x y : Nat) (hs : 1 ≤ s) (hx : x < n) (hy : y < n) (hL : 1 ≤ L) : decide (picP f s m0 m2 n L (m0 + s * x + s / 2) (m2 + s * y + s / 2) = 0) = f x y := by
  have h2 : s / 2 < s := by omega
  have e1 : m0 + s * x + s / 2 - m0 = s * x + s / 2 := by omega
  have e2 : m2 + s * y + s / 2 - m2 = s * y + s / 2 := by omega
  have d1 : (s * x + s / 2) / s = x := by rw [Nat.mul_add_div (by omega), Nat.div_eq_of_lt h2]; rfl
  have d2 : (s * y + s / 2) / s = y := by rw [Nat.mul_add_div (by omega), Nat.div_eq_of_lt h2]; rfl
  have l1 : s * x + s ≤ s * n := by rw [← Nat.mul_succ]; exact Nat.mul_le_mul_left s hx
  have l2 : s * y + s ≤ s * n := by rw [← Nat.mul_succ]; exact Nat.mul_le_mul_left s hy
  unfold picP
  rw [e1, e2, d1, d2]
  cases hf : f x y
  · rw [if_neg (by simp)]
    exact decide_eq_false (by omega)
  · rw [if_pos ⟨by omega, by omega, by omega, by omega, rfl⟩]
    rfl

def SeenRows (w : World) (n : Nat) (f : Nat → Nat → Bool) (e : Ending) (w' : World) : Prop := ∃ R cap, e = .returned (.tuple #[.slice (some ⟨R, 0, none⟩) n cap, .bool true]) ∧ Rows2 w' R n n f ∧ QZ.Mod (fun _ => False) w w'

set_option maxRecDepth 20000 in
set_option maxHeartbeats 1600000 in
theorem seen_c (w : World) (R n cap : Nat) (f : Nat → Nat → Bool) (h : Rows2 w R n n f) (hn : 1 ≤ n) (hn2 : n ≤ 45) (sc a0 a1 a2 a3 L0 L2 : Nat) (h0 : a0 < 256) (h1 : a1 < 256) (h2 : a2 < 256) (h3 : a3 < 256) (hsc : sc < 256) (hL0 : L0 < 256) (hL2 : L2 < 256) :
    Calls Tryz.prog 7 #[.slice (some ⟨R, 0, none⟩) n cap, .int .u8 sc, .agg #[.int .u8 a0, .int .u8 a1, .int .u8 a2, .int .u8 a3], .int .u8 L0, .int .u8 L2] w (SeenRows w n f) := by
  obtain ⟨s1, hs1⟩ : ∃ s1, sc % 4 = s1 := ⟨_, rfl⟩
  obtain ⟨s, hs⟩ : ∃ s, 1 + s1 = s := ⟨_, rfl⟩
  have hs1i : (sc : Int) % 4 = (s1 : Int) := by omega
  have hsi : (1 : Int) + (s1 : Int) = (s : Int) := by omega
  have hsl : 1 ≤ s ∧ s ≤ 4 := by omega
  obtain ⟨hsl1, hsl2⟩ := hsl
  obtain ⟨sn, hsn⟩ : ∃ sn, s * n = sn := ⟨_, rfl⟩
  have hsni : (s : Int) * (n : Int) = (sn : Int) := by rw [← hsn]; exact (Int.natCast_mul s n).symm
  have hsnl : sn ≤ 180 := by rw [← hsn]; exact Nat.le_trans (Nat.mul_le_mul hsl2 hn2) (by decide)
  obtain ⟨lf, hlf⟩ : ∃ lf, a0 / 16 = lf := ⟨_, rfl⟩
  obtain ⟨tp, htp⟩ : ∃ tp, a1 / 16 = tp := ⟨_, rfl⟩
  have hlfi : (a0 : Int) / 16 = (lf : Int) := by omega
  have htpi : (a1 : Int) / 16 = (tp : Int) := by omega
  have hlfl : lf ≤ 15 := by omega
  have htpl : tp ≤ 15 := by omega
  have hmB := (QZ.Mod.refl (fun _ => False) w).alloc (.cells [.int .u8 a0, .int .u8 a1, .int .u8 a2, .int .u8 a3].toArray 22)
  have hbB := Blk.new w [.int .u8 a0, .int .u8 a1, .int .u8 a2, .int .u8 a3] 22
  have Hh := Lib.hid h
  have Hs1 := Lib.hid hs1
  have Hs := Lib.hid hs
  have Hsn := Lib.hid hsn
  have Hlf := Lib.hid hlf
  have Htp := Lib.hid htp
  have HmB := Lib.hid hmB
  have HbB := Lib.hid hbB
  clear h hs1 hs hsn hlf htp hmB hbB
  go_enter Tryz.func7, Tryz.ntmps7
  go_wp2_with fail
  refine (margins_c _ a0 a1 a2 a3 sn h0 h1 h2 h3 (by omega)).mono ?_
  rintro e w2 ⟨⟨m0, m1, m2, m3, rfl, b0, b1, b2, b3, b4, b5⟩, hm2⟩
  have hmA := HmB.out.trans hm2
  have hbA := HbB.out.mod' hm2
  have hrA := Hh.out.new hmA
  have Hm2 := Lib.hid hm2
  have HmA := Lib.hid hmA
  have HbA := Lib.hid hbA
  have HrA := Lib.hid hrA
  clear hm2 hmA hbA hrA
  go_wp2_with fail
  all_goals
    first
    | (obtain ⟨L, hLe, hL1, hLb⟩ : ∃ L : Nat, max (25 : Int) (L0 : Int) = (L : Int) ∧ 1 ≤ L ∧ L < 256 := ⟨max 25 L0, by omega, by omega, by omega⟩
       rw [hLe])
    | (obtain ⟨L, hLe, hL1, hLb⟩ : ∃ L : Nat, (25 : Int) = (L : Int) ∧ 1 ≤ L ∧ L < 256 := ⟨25, rfl, by decide, by decide⟩
       rw [hLe])
    | (obtain ⟨L, hLe, hL1, hLb⟩ : ∃ L : Nat, (L0 : Int) = (L : Int) ∧ 1 ≤ L ∧ L < 256 := ⟨L0, rfl, by omega, hL0⟩
       rw [hLe])
  all_goals
    clear hLe
    have hbM := Blk.new w2 [.int .i64 m0, .int .i64 m1, .int .i64 m2, .int .i64 m3] 59
    have hmM := (QZ.Mod.refl (fun _ => False) w2).alloc (.cells [.int .i64 m0, .int .i64 m1, .int .i64 m2, .int .i64 m3].toArray 59)
    have hrM := HrA.out.new hmM
    have hbA2 := HbA.out.mod' hmM
    change Calls _ _ _ (w2.alloc (.cells [.int .i64 m0, .int .i64 m1, .int .i64 m2, .int .i64 m3].toArray 59)) _
    generalize w2.alloc (.cells [.int .i64 m0, .int .i64 m1, .int .i64 m2, .int .i64 m3].toArray 59) = wM at *
    generalize w2.heap.size = M at *
    generalize w.heap.size = B0 at *
    obtain ⟨W, hW⟩ : ∃ W, m0 + s * n + m1 = W := ⟨_, rfl⟩
    obtain ⟨H, hH⟩ : ∃ H, m2 + s * n + m3 = H := ⟨_, rfl⟩
    have hWl : 40 ≤ W ∧ W ≤ 235 ∧ 40 ≤ H ∧ H ≤ 235 ∧ m0 + sn ≤ W ∧ m2 + sn ≤ H := by
      have e := Hsn.out
      rw [e] at hW hH
      omega
    obtain ⟨hW1, hW2, hH1, hH2, hmW, hmH⟩ := hWl
    obtain ⟨P, hP⟩ : ∃ P, picP f s m0 m2 n L = P := ⟨_, rfl⟩
    have hPv : ∀ x y, P x y = 0 ∨ P x y = L := fun x y => by rw [← hP]; unfold picP; split <;> simp
    have hPm : ∀ x y, x < n → y < n → decide (P (m0 + s * x + s / 2) (m2 + s * y + s / 2) = 0) = f x y := fun x y hx hy => by rw [← hP]; exact pic_mid f s m0 m2 n L x y hsl1 hx hy hL1
    obtain ⟨WW, hWW⟩ : ∃ WW, W + lf + 3 = WW := ⟨_, rfl⟩
    obtain ⟨HH, hHH⟩ : ∃ HH, H + tp + 2 = HH := ⟨_, rfl⟩
    have hWWi : (W : Int) + (lf : Int) + 3 = (WW : Int) := by omega
    have hHHi : (H : Int) + (tp : Int) + 2 = (HH : Int) := by omega
    have HbM := Lib.hid hbM
    have HmM := Lib.hid hmM
    have HrM := Lib.hid hrM
    have HbA2 := Lib.hid hbA2
    have HW := Lib.hid hW
    have HH_1 := Lib.hid hH
    have HP := Lib.hid hP
    have HPv := Lib.hid hPv
    have HPm := Lib.hid hPm
    have HWW := Lib.hid hWW
    have HHH := Lib.hid hHH
    clear hbM hmM hrM hbA2 hW hH hP hPv hPm hWW hHH
    refine (draw_c wM R n cap f HrM.out hn hn2 s m0 m1 m2 m3 L W H hsl1 hsl2 b0 b1 b2 b3 hLb HW.out.symm HH_1.out.symm).mono ?_
    rintro e w3 ⟨G, cg, rfl, hpx, hGs, hGl, hm3⟩
    rw [HP.out] at hpx
    have hb3 := HbA2.out.mod' hm3
    have c0 := hb3.cell 0
    have c1 := hb3.cell 1
    have hbM3 := HbM.out.mod' hm3
    have Hpx := Lib.hid hpx
    have Hm3 := Lib.hid hm3
    have Hb3 := Lib.hid hb3
    have HbM3 := Lib.hid hbM3
    clear hpx hm3 hb3 hbM3
    go_wp2_with fail
    go_quiet (fail)
    go_wp2_with fail
    clear c0 c1
    have hpx3 : ∀ x y, x < W → y < H → (w3.drewN nq).cell? ⟨G, y * W + x, none⟩ = some (.int .u8 (P x y : Nat)) := Hpx.out
    have hmD := Hm3.out.trans (mod_drewN (fun _ => False) w3 nq)
    have hbD := HbM3.out.mod' (mod_drewN (fun _ => False) w3 nq)
    generalize w3.drewN nq = wD at *
    have Hpx3 := Lib.hid hpx3
    have HmD := Lib.hid hmD
    have HbD := Lib.hid hbD
    clear hpx3 hmD hbD
    refine (laid_c wD G cg W H WW HH lf tp L2 P Hpx3.out (by omega) (by omega) (by omega) hlfl htpl HWW.out.symm HHH.out.symm hL2).mono ?_
    rintro e w4 ⟨G2, rfl, ⟨px, hpx4, hP4⟩, hG2s, hm4⟩
    have hbD4 := HbD.out.mod' hm4
    have Hpx4 := Lib.hid hpx4
    have HP4 := Lib.hid hP4
    have Hm4 := Lib.hid hm4
    have HbD4 := Lib.hid hbD4
    clear hpx4 hP4 hm4 hbD4
    go_wp2_with fail
    refine (crop_c w4 WW HH G2 (WW * HH) lf tp W H px P Hpx4.out HP4.out (by omega) (by omega) (by have := HWW.out; omega) (by have := HHH.out; omega) (by have := HWW.out; omega) (by have := HHH.out; omega)).mono ?_
    rintro e w5 ⟨G3, c3, rfl, hp5, hm5⟩
    have hbD5 := HbD4.out.mod' hm5
    have Hp5 := Lib.hid hp5
    have Hm5 := Lib.hid hm5
    have HbD5 := Lib.hid hbD5
    clear hp5 hm5 hbD5
    go_wp2_with fail
    refine (blackMatrix_c w5 W H G3 c3 L P Hp5.out HPv.out hL1 hLb hW1 hH1 (by omega) (by omega)).mono ?_
    rintro e w6 ⟨R6, rfl, hr6, hm6⟩
    obtain ⟨G0, g0, r0, _⟩ := hr6 0 (by omega)
    have hbD6 := HbD5.out.mod' hm6
    have e0 := hbD6.cell 0
    have e1 := hbD6.cell 1
    have e2 := hbD6.cell 2
    have e3 := hbD6.cell 3
    have hH0 : 0 < H := by omega
    have Hr6 := Lib.hid hr6
    have Hm6 := Lib.hid hm6
    have HbD6 := Lib.hid hbD6
    clear hr6 hm6 hbD6
    go_wp2_with fail
    refine (taken_c w6 R6 W H n s m0 m1 m2 m3 H (fun x y => decide (P x y = 0)) Hr6.out hn hn2 hsl1 hsl2 b0 b2 (by have := Hsn.out; omega) (by have := Hsn.out; omega) (by omega) (by omega)).mono ?_
    rintro e w7 ⟨R7, c7, rfl, hr7, hm7⟩
    have hr8 := hr7.congr HPm.out
    have hMM := ((((HmA.out.trans HmM.out).trans HmD.out).trans Hm4.out).trans Hm5.out).trans (Hm6.out.trans hm7)
    clear hr7 hm7
    have Hr8 := Lib.hid hr8
    have HMM := Lib.hid hMM
    clear hr8 hMM
    go_wp2_with fail
    go_ret2
    exact ⟨R7, c7, rfl, Hr8.out, HMM.out⟩
end Go.Proofs.YtnpkihobbcglcaaGreatDoor
