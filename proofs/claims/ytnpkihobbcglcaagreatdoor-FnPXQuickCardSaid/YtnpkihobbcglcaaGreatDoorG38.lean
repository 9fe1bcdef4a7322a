/- Part 38 of the proof of FnPXQuick (a QR code that is written for a text says this text in a picture): parts of the road. No condition. -/
import Derived.BigQuiet
import Derived.Test.YtnpkihobbcglcaaGreatDoorG21
import Derived.Test.YtnpkihobbcglcaaGreatDoorG37
/- Bits are read. (Written by gen_we.py.) -/
open Go Go.RowKit
namespace Go.Proofs.YtnpkihobbcglcaaGreatDoor
open Go.QZ

theorem Src.step {w w' : World} {q D n cap a b a' b' : Nat} {ys : List Nat} (h : Src w q D n cap a b ys) (hb : Blk w' q [.slice (some ⟨D, 0, none⟩) n cap, .int .i64 a', .int .i64 b']) (hm : QZ.Mod (· = q) w w') (hb8 : b' < 8) (han : 8 * a' + b' ≤ 8 * n) : Src w' q D n cap a' b' ys :=
  ⟨hb, fun j hj => cell_mod hm (fun e => h.ne e.symm) (h.bytes j hj), h.ne, hb8, h.few, han⟩

set_option maxRecDepth 20000 in
set_option maxHeartbeats 3200000 in
theorem readBits_c (w : World) (q D n cap a b k : Nat) (ys : List Nat) (h : Src w q D n cap a b ys) (hys : ∀ x ∈ ys, x < 256) (hk : k = 4 ∨ k = 6 ∨ (7 ≤ k ∧ k ≤ 12)) (hfit : 8 * a + b + k ≤ 8 * n) :
    Calls Tryz.prog 219 #[.pointer (some ⟨q, 0, none⟩), .int .i64 k] w (RdOut w q D n cap ys (8 * a + b + k) (num (bitAt ys) (8 * a + b) k)) := by
  have hf := h.few
  have hb8 := h.b8
  obtain ⟨pos, hpos⟩ : ∃ pos, 8 * a + b = pos := ⟨_, rfl⟩
  obtain ⟨av, hav⟩ : ∃ av, 8 * n - 8 * a - b = av := ⟨_, rfl⟩
  have q0 : w.cell? ⟨q, 0, none⟩ = some (.slice (some ⟨D, 0, none⟩) n cap) := h.head.at 0 rfl
  have q1 : w.cell? ⟨q, 1, none⟩ = some (.int .i64 a) := h.head.at 1 rfl
  have q2 : w.cell? ⟨q, 2, none⟩ = some (.int .i64 b) := h.head.at 2 rfl
  have f1 : w.frozen? ⟨q, 1, none⟩ = false := h.head.frozen 1
  have f2 : w.frozen? ⟨q, 2, none⟩ = false := h.head.frozen 2
  have tk1 : decide ((k : Int) < 1) = false := by simp <;> omega
  have tk2 : decide ((32 : Int) < (k : Int)) = false := by simp <;> omega
  have tk3 : decide ((av : Int) < (k : Int)) = false := by simp <;> omega
  have hkl : k ≤ 12 := by omega
  have Hh := Lib.hid h
  clear h
  go_enter Tryz.func219, Tryz.ntmps219
  go_wp2_with fail
  refine (avail_c _ q D n cap a b ys Hh.out).mono ?_
  rintro e w1 ⟨rfl, nn, rfl⟩
  rw [hav]
  dsimp only
  repeat (fail_if_success (refine wp_seq_abs (x := Code.seq (Code.region 4 _ _) _) 92 (fun w' m r => ∃ aa bb, Src w' q D n cap aa bb ys ∧ QZ.Mod (· = q) w w' ∧ m ≤ k ∧ 8 * aa + bb + m = 8 * a + b + k ∧ r = num (bitAt ys) (8 * a + b) (k - m) ∧ (0 < m → bb = 0)) ?ha ?hb ?hx ?hy)
          go_step)
  refine wp_seq_abs (x := Code.seq (Code.region 4 _ _) _) 92 (fun w' m r => ∃ aa bb, Src w' q D n cap aa bb ys ∧ QZ.Mod (· = q) w w' ∧ m ≤ k ∧ 8 * aa + bb + m = 8 * a + b + k ∧ r = num (bitAt ys) (8 * a + b) (k - m) ∧ (0 < m → bb = 0)) ?ha ?hb ?hx ?hy
  case ha => decide
  case hb => exact Nat.le_of_ble_eq_true rfl
  case hx =>
    intro K hK
    obtain rfl | rfl | rfl | rfl | rfl | rfl | rfl | rfl : b = 0 ∨ b = 1 ∨ b = 2 ∨ b = 3 ∨ b = 4 ∨ b = 5 ∨ b = 6 ∨ b = 7 := by omega
    · go_wp2_with fail
      refine hK _ _ k 0 ⟨a, 0, Hh.out.step (blk_drewN Hh.out.head _) (mod_drewN (· = q) w _) (by decide) (by omega), mod_drewN (· = q) w _, by omega, by omega, by rw [Nat.sub_self]; rfl, fun h => rfl⟩ rfl rfl rfl rfl rfl rfl
    · by_cases hk8 : k < 7
      · obtain rfl | rfl : k = 4 ∨ k = 6 := by omega
        · have hxa : nth ys a < 256 := nth_lt (by decide) hys a
          have d0 := Hh.out.bytes a (by omega)
          have la : a < n := by omega
          generalize hyx0 : nth ys a = x0 at *
          obtain ⟨m0, hm0⟩ : ∃ m, x0 / 2 ^ 3 % 2 ^ 4 = m := ⟨_, rfl⟩
          have lm0 : m0 < 16 := by rw [← hm0]; exact Nat.mod_lt _ (by decide)
          have Am0 := and8 x0 hxa 3 (by decide) 4 (by decide) (by decide)
          rw [hm0] at Am0
          have Nm0 : num (bitAt ys) (8 * a + 1) 4 = m0 := by rw [← hm0, ← hyx0]; exact num_byte ys hys a 1 4 (by decide)
          obtain ⟨zm0, hzm0⟩ : ∃ z, m0 * 2 ^ 3 = z := ⟨_, rfl⟩
          have Bm0 : bits .and .u8 (x0 : Int) 120 = (zm0 : Int) := by rw [show (120 : Int) = (((2 ^ 4 - 1) * 2 ^ 3 : Nat) : Int) from rfl, Am0, hzm0]
          have Cm0 : zm0 / 8 = m0 := by omega
          have Dm0 : (zm0 : Int) / 8 = (m0 : Int) := by omega
          have Hm0 := Lib.hid hm0
          have HAm0 := Lib.hid Am0
          have HNm0 := Lib.hid Nm0
          have Hyx0 := Lib.hid hyx0
          have Hzm0 := Lib.hid hzm0
          clear hm0 Am0 Nm0 hyx0 hzm0
          go_wp2_with fail
          go_quiet (fail)
          go_wp2_with fail
          refine hK _ _ 0 m0 ⟨a, 5, Hh.out.step ((blk_drewN Hh.out.head _).set 2 (.int .i64 5)) ((mod_drewN (· = q) w _).setCell (p := ⟨q, 2, none⟩) (.inr rfl) _) (by decide) (by omega), (mod_drewN (· = q) w _).setCell (p := ⟨q, 2, none⟩) (.inr rfl) _, by omega, by omega, by rw [Nat.sub_zero]; exact HNm0.out.symm, fun h => by omega⟩ rfl rfl rfl rfl rfl rfl
        · have hxa : nth ys a < 256 := nth_lt (by decide) hys a
          have d0 := Hh.out.bytes a (by omega)
          have la : a < n := by omega
          generalize hyx0 : nth ys a = x0 at *
          obtain ⟨m0, hm0⟩ : ∃ m, x0 / 2 ^ 1 % 2 ^ 6 = m := ⟨_, rfl⟩
          have lm0 : m0 < 64 := by rw [← hm0]; exact Nat.mod_lt _ (by decide)
          have Am0 := and8 x0 hxa 1 (by decide) 6 (by decide) (by decide)
          rw [hm0] at Am0
          have Nm0 : num (bitAt ys) (8 * a + 1) 6 = m0 := by rw [← hm0, ← hyx0]; exact num_byte ys hys a 1 6 (by decide)
          obtain ⟨zm0, hzm0⟩ : ∃ z, m0 * 2 ^ 1 = z := ⟨_, rfl⟩
          have Bm0 : bits .and .u8 (x0 : Int) 126 = (zm0 : Int) := by rw [show (126 : Int) = (((2 ^ 6 - 1) * 2 ^ 1 : Nat) : Int) from rfl, Am0, hzm0]
          have Cm0 : zm0 / 2 = m0 := by omega
          have Dm0 : (zm0 : Int) / 2 = (m0 : Int) := by omega
          have Hm0 := Lib.hid hm0
          have HAm0 := Lib.hid Am0
          have HNm0 := Lib.hid Nm0
          have Hyx0 := Lib.hid hyx0
          have Hzm0 := Lib.hid hzm0
          clear hm0 Am0 Nm0 hyx0 hzm0
          go_wp2_with fail
          go_quiet (fail)
          go_wp2_with fail
          refine hK _ _ 0 m0 ⟨a, 7, Hh.out.step ((blk_drewN Hh.out.head _).set 2 (.int .i64 7)) ((mod_drewN (· = q) w _).setCell (p := ⟨q, 2, none⟩) (.inr rfl) _) (by decide) (by omega), (mod_drewN (· = q) w _).setCell (p := ⟨q, 2, none⟩) (.inr rfl) _, by omega, by omega, by rw [Nat.sub_zero]; exact HNm0.out.symm, fun h => by omega⟩ rfl rfl rfl rfl rfl rfl
      · have hxa : nth ys a < 256 := nth_lt (by decide) hys a
        have d0 := Hh.out.bytes a (by omega)
        have la : a < n := by omega
        generalize hyx0 : nth ys a = x0 at *
        obtain ⟨m0, hm0⟩ : ∃ m, x0 / 2 ^ 0 % 2 ^ 7 = m := ⟨_, rfl⟩
        have lm0 : m0 < 128 := by rw [← hm0]; exact Nat.mod_lt _ (by decide)
        have Am0 := and8 x0 hxa 0 (by decide) 7 (by decide) (by decide)
        rw [hm0] at Am0
        have Nm0 : num (bitAt ys) (8 * a + 1) 7 = m0 := by rw [← hm0, ← hyx0]; exact num_byte ys hys a 1 7 (by decide)
        have Bm0 : bits .and .u8 (x0 : Int) 127 = (m0 : Int) := by rw [show (127 : Int) = (((2 ^ 7 - 1) * 2 ^ 0 : Nat) : Int) from rfl, Am0, Nat.pow_zero, Nat.mul_one]
        obtain ⟨kt, hkt⟩ : ∃ kt, k - 7 = kt := ⟨_, rfl⟩
        have hkti : (k : Int) - 7 = (kt : Int) := by omega
        have Hm0 := Lib.hid hm0
        have HAm0 := Lib.hid Am0
        have HNm0 := Lib.hid Nm0
        have Hyx0 := Lib.hid hyx0
        have Hkt := Lib.hid hkt
        clear hm0 Am0 Nm0 hyx0 hkt
        go_wp2_with fail
        go_quiet (fail)
        go_wp2_with fail
        refine hK _ _ kt m0 ⟨a + 1, 0, Hh.out.step ((((blk_drewN Hh.out.head _).set 2 (.int .i64 8)).set 2 (.int .i64 0)).set 1 (.int .i64 (a + 1 : Nat))) ((((mod_drewN (· = q) w _).setCell (p := ⟨q, 2, none⟩) (.inr rfl) _).setCell (p := ⟨q, 2, none⟩) (.inr rfl) _).setCell (p := ⟨q, 1, none⟩) (.inr rfl) _) (by decide) (by omega), (((mod_drewN (· = q) w _).setCell (p := ⟨q, 2, none⟩) (.inr rfl) _).setCell (p := ⟨q, 2, none⟩) (.inr rfl) _).setCell (p := ⟨q, 1, none⟩) (.inr rfl) _, by have := Hkt.out; omega, by have := Hkt.out; omega, by rw [show k - kt = 7 by have := Hkt.out; omega]; exact HNm0.out.symm, fun h => rfl⟩ rfl rfl rfl rfl rfl rfl
    · by_cases hk8 : k < 6
      · obtain rfl : k = 4 := by omega
        have hxa : nth ys a < 256 := nth_lt (by decide) hys a
        have d0 := Hh.out.bytes a (by omega)
        have la : a < n := by omega
        generalize hyx0 : nth ys a = x0 at *
        obtain ⟨m0, hm0⟩ : ∃ m, x0 / 2 ^ 2 % 2 ^ 4 = m := ⟨_, rfl⟩
        have lm0 : m0 < 16 := by rw [← hm0]; exact Nat.mod_lt _ (by decide)
        have Am0 := and8 x0 hxa 2 (by decide) 4 (by decide) (by decide)
        rw [hm0] at Am0
        have Nm0 : num (bitAt ys) (8 * a + 2) 4 = m0 := by rw [← hm0, ← hyx0]; exact num_byte ys hys a 2 4 (by decide)
        obtain ⟨zm0, hzm0⟩ : ∃ z, m0 * 2 ^ 2 = z := ⟨_, rfl⟩
        have Bm0 : bits .and .u8 (x0 : Int) 60 = (zm0 : Int) := by rw [show (60 : Int) = (((2 ^ 4 - 1) * 2 ^ 2 : Nat) : Int) from rfl, Am0, hzm0]
        have Cm0 : zm0 / 4 = m0 := by omega
        have Dm0 : (zm0 : Int) / 4 = (m0 : Int) := by omega
        have Hm0 := Lib.hid hm0
        have HAm0 := Lib.hid Am0
        have HNm0 := Lib.hid Nm0
        have Hyx0 := Lib.hid hyx0
        have Hzm0 := Lib.hid hzm0
        clear hm0 Am0 Nm0 hyx0 hzm0
        go_wp2_with fail
        go_quiet (fail)
        go_wp2_with fail
        refine hK _ _ 0 m0 ⟨a, 6, Hh.out.step ((blk_drewN Hh.out.head _).set 2 (.int .i64 6)) ((mod_drewN (· = q) w _).setCell (p := ⟨q, 2, none⟩) (.inr rfl) _) (by decide) (by omega), (mod_drewN (· = q) w _).setCell (p := ⟨q, 2, none⟩) (.inr rfl) _, by omega, by omega, by rw [Nat.sub_zero]; exact HNm0.out.symm, fun h => by omega⟩ rfl rfl rfl rfl rfl rfl
      · have hxa : nth ys a < 256 := nth_lt (by decide) hys a
        have d0 := Hh.out.bytes a (by omega)
        have la : a < n := by omega
        generalize hyx0 : nth ys a = x0 at *
        obtain ⟨m0, hm0⟩ : ∃ m, x0 / 2 ^ 0 % 2 ^ 6 = m := ⟨_, rfl⟩
        have lm0 : m0 < 64 := by rw [← hm0]; exact Nat.mod_lt _ (by decide)
        have Am0 := and8 x0 hxa 0 (by decide) 6 (by decide) (by decide)
        rw [hm0] at Am0
        have Nm0 : num (bitAt ys) (8 * a + 2) 6 = m0 := by rw [← hm0, ← hyx0]; exact num_byte ys hys a 2 6 (by decide)
        have Bm0 : bits .and .u8 (x0 : Int) 63 = (m0 : Int) := by rw [show (63 : Int) = (((2 ^ 6 - 1) * 2 ^ 0 : Nat) : Int) from rfl, Am0, Nat.pow_zero, Nat.mul_one]
        obtain ⟨kt, hkt⟩ : ∃ kt, k - 6 = kt := ⟨_, rfl⟩
        have hkti : (k : Int) - 6 = (kt : Int) := by omega
        have Hm0 := Lib.hid hm0
        have HAm0 := Lib.hid Am0
        have HNm0 := Lib.hid Nm0
        have Hyx0 := Lib.hid hyx0
        have Hkt := Lib.hid hkt
        clear hm0 Am0 Nm0 hyx0 hkt
        go_wp2_with fail
        go_quiet (fail)
        go_wp2_with fail
        refine hK _ _ kt m0 ⟨a + 1, 0, Hh.out.step ((((blk_drewN Hh.out.head _).set 2 (.int .i64 8)).set 2 (.int .i64 0)).set 1 (.int .i64 (a + 1 : Nat))) ((((mod_drewN (· = q) w _).setCell (p := ⟨q, 2, none⟩) (.inr rfl) _).setCell (p := ⟨q, 2, none⟩) (.inr rfl) _).setCell (p := ⟨q, 1, none⟩) (.inr rfl) _) (by decide) (by omega), (((mod_drewN (· = q) w _).setCell (p := ⟨q, 2, none⟩) (.inr rfl) _).setCell (p := ⟨q, 2, none⟩) (.inr rfl) _).setCell (p := ⟨q, 1, none⟩) (.inr rfl) _, by have := Hkt.out; omega, by have := Hkt.out; omega, by rw [show k - kt = 6 by have := Hkt.out; omega]; exact HNm0.out.symm, fun h => rfl⟩ rfl rfl rfl rfl rfl rfl
    · by_cases hk8 : k < 5
      · obtain rfl : k = 4 := by omega
        have hxa : nth ys a < 256 := nth_lt (by decide) hys a
        have d0 := Hh.out.bytes a (by omega)
        have la : a < n := by omega
        generalize hyx0 : nth ys a = x0 at *
        obtain ⟨m0, hm0⟩ : ∃ m, x0 / 2 ^ 1 % 2 ^ 4 = m := ⟨_, rfl⟩
        have lm0 : m0 < 16 := by rw [← hm0]; exact Nat.mod_lt _ (by decide)
        have Am0 := and8 x0 hxa 1 (by decide) 4 (by decide) (by decide)
        rw [hm0] at Am0
        have Nm0 : num (bitAt ys) (8 * a + 3) 4 = m0 := by rw [← hm0, ← hyx0]; exact num_byte ys hys a 3 4 (by decide)
        obtain ⟨zm0, hzm0⟩ : ∃ z, m0 * 2 ^ 1 = z := ⟨_, rfl⟩
        have Bm0 : bits .and .u8 (x0 : Int) 30 = (zm0 : Int) := by rw [show (30 : Int) = (((2 ^ 4 - 1) * 2 ^ 1 : Nat) : Int) from rfl, Am0, hzm0]
        have Cm0 : zm0 / 2 = m0 := by omega
        have Dm0 : (zm0 : Int) / 2 = (m0 : Int) := by omega
        have Hm0 := Lib.hid hm0
        have HAm0 := Lib.hid Am0
        have HNm0 := Lib.hid Nm0
        have Hyx0 := Lib.hid hyx0
        have Hzm0 := Lib.hid hzm0
        clear hm0 Am0 Nm0 hyx0 hzm0
        go_wp2_with fail
        go_quiet (fail)
        go_wp2_with fail
        refine hK _ _ 0 m0 ⟨a, 7, Hh.out.step ((blk_drewN Hh.out.head _).set 2 (.int .i64 7)) ((mod_drewN (· = q) w _).setCell (p := ⟨q, 2, none⟩) (.inr rfl) _) (by decide) (by omega), (mod_drewN (· = q) w _).setCell (p := ⟨q, 2, none⟩) (.inr rfl) _, by omega, by omega, by rw [Nat.sub_zero]; exact HNm0.out.symm, fun h => by omega⟩ rfl rfl rfl rfl rfl rfl
      · have hxa : nth ys a < 256 := nth_lt (by decide) hys a
        have d0 := Hh.out.bytes a (by omega)
        have la : a < n := by omega
        generalize hyx0 : nth ys a = x0 at *
        obtain ⟨m0, hm0⟩ : ∃ m, x0 / 2 ^ 0 % 2 ^ 5 = m := ⟨_, rfl⟩
        have lm0 : m0 < 32 := by rw [← hm0]; exact Nat.mod_lt _ (by decide)
        have Am0 := and8 x0 hxa 0 (by decide) 5 (by decide) (by decide)
        rw [hm0] at Am0
        have Nm0 : num (bitAt ys) (8 * a + 3) 5 = m0 := by rw [← hm0, ← hyx0]; exact num_byte ys hys a 3 5 (by decide)
        have Bm0 : bits .and .u8 (x0 : Int) 31 = (m0 : Int) := by rw [show (31 : Int) = (((2 ^ 5 - 1) * 2 ^ 0 : Nat) : Int) from rfl, Am0, Nat.pow_zero, Nat.mul_one]
        obtain ⟨kt, hkt⟩ : ∃ kt, k - 5 = kt := ⟨_, rfl⟩
        have hkti : (k : Int) - 5 = (kt : Int) := by omega
        have Hm0 := Lib.hid hm0
        have HAm0 := Lib.hid Am0
        have HNm0 := Lib.hid Nm0
        have Hyx0 := Lib.hid hyx0
        have Hkt := Lib.hid hkt
        clear hm0 Am0 Nm0 hyx0 hkt
        go_wp2_with fail
        go_quiet (fail)
        go_wp2_with fail
        refine hK _ _ kt m0 ⟨a + 1, 0, Hh.out.step ((((blk_drewN Hh.out.head _).set 2 (.int .i64 8)).set 2 (.int .i64 0)).set 1 (.int .i64 (a + 1 : Nat))) ((((mod_drewN (· = q) w _).setCell (p := ⟨q, 2, none⟩) (.inr rfl) _).setCell (p := ⟨q, 2, none⟩) (.inr rfl) _).setCell (p := ⟨q, 1, none⟩) (.inr rfl) _) (by decide) (by omega), (((mod_drewN (· = q) w _).setCell (p := ⟨q, 2, none⟩) (.inr rfl) _).setCell (p := ⟨q, 2, none⟩) (.inr rfl) _).setCell (p := ⟨q, 1, none⟩) (.inr rfl) _, by have := Hkt.out; omega, by have := Hkt.out; omega, by rw [show k - kt = 5 by have := Hkt.out; omega]; exact HNm0.out.symm, fun h => rfl⟩ rfl rfl rfl rfl rfl rfl
    · have hxa : nth ys a < 256 := nth_lt (by decide) hys a
      have d0 := Hh.out.bytes a (by omega)
      have la : a < n := by omega
      generalize hyx0 : nth ys a = x0 at *
      obtain ⟨m0, hm0⟩ : ∃ m, x0 / 2 ^ 0 % 2 ^ 4 = m := ⟨_, rfl⟩
      have lm0 : m0 < 16 := by rw [← hm0]; exact Nat.mod_lt _ (by decide)
      have Am0 := and8 x0 hxa 0 (by decide) 4 (by decide) (by decide)
      rw [hm0] at Am0
      have Nm0 : num (bitAt ys) (8 * a + 4) 4 = m0 := by rw [← hm0, ← hyx0]; exact num_byte ys hys a 4 4 (by decide)
      have Bm0 : bits .and .u8 (x0 : Int) 15 = (m0 : Int) := by rw [show (15 : Int) = (((2 ^ 4 - 1) * 2 ^ 0 : Nat) : Int) from rfl, Am0, Nat.pow_zero, Nat.mul_one]
      obtain ⟨kt, hkt⟩ : ∃ kt, k - 4 = kt := ⟨_, rfl⟩
      have hkti : (k : Int) - 4 = (kt : Int) := by omega
      have Hm0 := Lib.hid hm0
      have HAm0 := Lib.hid Am0
      have HNm0 := Lib.hid Nm0
      have Hyx0 := Lib.hid hyx0
      have Hkt := Lib.hid hkt
      clear hm0 Am0 Nm0 hyx0 hkt
      go_wp2_with fail
      go_quiet (fail)
      go_wp2_with fail
      refine hK _ _ kt m0 ⟨a + 1, 0, Hh.out.step ((((blk_drewN Hh.out.head _).set 2 (.int .i64 8)).set 2 (.int .i64 0)).set 1 (.int .i64 (a + 1 : Nat))) ((((mod_drewN (· = q) w _).setCell (p := ⟨q, 2, none⟩) (.inr rfl) _).setCell (p := ⟨q, 2, none⟩) (.inr rfl) _).setCell (p := ⟨q, 1, none⟩) (.inr rfl) _) (by decide) (by omega), (((mod_drewN (· = q) w _).setCell (p := ⟨q, 2, none⟩) (.inr rfl) _).setCell (p := ⟨q, 2, none⟩) (.inr rfl) _).setCell (p := ⟨q, 1, none⟩) (.inr rfl) _, by have := Hkt.out; omega, by have := Hkt.out; omega, by rw [show k - kt = 4 by have := Hkt.out; omega]; exact HNm0.out.symm, fun h => rfl⟩ rfl rfl rfl rfl rfl rfl
    · have hxa : nth ys a < 256 := nth_lt (by decide) hys a
      have d0 := Hh.out.bytes a (by omega)
      have la : a < n := by omega
      generalize hyx0 : nth ys a = x0 at *
      obtain ⟨m0, hm0⟩ : ∃ m, x0 / 2 ^ 0 % 2 ^ 3 = m := ⟨_, rfl⟩
      have lm0 : m0 < 8 := by rw [← hm0]; exact Nat.mod_lt _ (by decide)
      have Am0 := and8 x0 hxa 0 (by decide) 3 (by decide) (by decide)
      rw [hm0] at Am0
      have Nm0 : num (bitAt ys) (8 * a + 5) 3 = m0 := by rw [← hm0, ← hyx0]; exact num_byte ys hys a 5 3 (by decide)
      have Bm0 : bits .and .u8 (x0 : Int) 7 = (m0 : Int) := by rw [show (7 : Int) = (((2 ^ 3 - 1) * 2 ^ 0 : Nat) : Int) from rfl, Am0, Nat.pow_zero, Nat.mul_one]
      obtain ⟨kt, hkt⟩ : ∃ kt, k - 3 = kt := ⟨_, rfl⟩
      have hkti : (k : Int) - 3 = (kt : Int) := by omega
      have Hm0 := Lib.hid hm0
      have HAm0 := Lib.hid Am0
      have HNm0 := Lib.hid Nm0
      have Hyx0 := Lib.hid hyx0
      have Hkt := Lib.hid hkt
      clear hm0 Am0 Nm0 hyx0 hkt
      go_wp2_with fail
      go_quiet (fail)
      go_wp2_with fail
      refine hK _ _ kt m0 ⟨a + 1, 0, Hh.out.step ((((blk_drewN Hh.out.head _).set 2 (.int .i64 8)).set 2 (.int .i64 0)).set 1 (.int .i64 (a + 1 : Nat))) ((((mod_drewN (· = q) w _).setCell (p := ⟨q, 2, none⟩) (.inr rfl) _).setCell (p := ⟨q, 2, none⟩) (.inr rfl) _).setCell (p := ⟨q, 1, none⟩) (.inr rfl) _) (by decide) (by omega), (((mod_drewN (· = q) w _).setCell (p := ⟨q, 2, none⟩) (.inr rfl) _).setCell (p := ⟨q, 2, none⟩) (.inr rfl) _).setCell (p := ⟨q, 1, none⟩) (.inr rfl) _, by have := Hkt.out; omega, by have := Hkt.out; omega, by rw [show k - kt = 3 by have := Hkt.out; omega]; exact HNm0.out.symm, fun h => rfl⟩ rfl rfl rfl rfl rfl rfl
    · have hxa : nth ys a < 256 := nth_lt (by decide) hys a
      have d0 := Hh.out.bytes a (by omega)
      have la : a < n := by omega
      generalize hyx0 : nth ys a = x0 at *
      obtain ⟨m0, hm0⟩ : ∃ m, x0 / 2 ^ 0 % 2 ^ 2 = m := ⟨_, rfl⟩
      have lm0 : m0 < 4 := by rw [← hm0]; exact Nat.mod_lt _ (by decide)
      have Am0 := and8 x0 hxa 0 (by decide) 2 (by decide) (by decide)
      rw [hm0] at Am0
      have Nm0 : num (bitAt ys) (8 * a + 6) 2 = m0 := by rw [← hm0, ← hyx0]; exact num_byte ys hys a 6 2 (by decide)
      have Bm0 : bits .and .u8 (x0 : Int) 3 = (m0 : Int) := by rw [show (3 : Int) = (((2 ^ 2 - 1) * 2 ^ 0 : Nat) : Int) from rfl, Am0, Nat.pow_zero, Nat.mul_one]
      obtain ⟨kt, hkt⟩ : ∃ kt, k - 2 = kt := ⟨_, rfl⟩
      have hkti : (k : Int) - 2 = (kt : Int) := by omega
      have Hm0 := Lib.hid hm0
      have HAm0 := Lib.hid Am0
      have HNm0 := Lib.hid Nm0
      have Hyx0 := Lib.hid hyx0
      have Hkt := Lib.hid hkt
      clear hm0 Am0 Nm0 hyx0 hkt
      go_wp2_with fail
      go_quiet (fail)
      go_wp2_with fail
      refine hK _ _ kt m0 ⟨a + 1, 0, Hh.out.step ((((blk_drewN Hh.out.head _).set 2 (.int .i64 8)).set 2 (.int .i64 0)).set 1 (.int .i64 (a + 1 : Nat))) ((((mod_drewN (· = q) w _).setCell (p := ⟨q, 2, none⟩) (.inr rfl) _).setCell (p := ⟨q, 2, none⟩) (.inr rfl) _).setCell (p := ⟨q, 1, none⟩) (.inr rfl) _) (by decide) (by omega), (((mod_drewN (· = q) w _).setCell (p := ⟨q, 2, none⟩) (.inr rfl) _).setCell (p := ⟨q, 2, none⟩) (.inr rfl) _).setCell (p := ⟨q, 1, none⟩) (.inr rfl) _, by have := Hkt.out; omega, by have := Hkt.out; omega, by rw [show k - kt = 2 by have := Hkt.out; omega]; exact HNm0.out.symm, fun h => rfl⟩ rfl rfl rfl rfl rfl rfl
    · have hxa : nth ys a < 256 := nth_lt (by decide) hys a
      have d0 := Hh.out.bytes a (by omega)
      have la : a < n := by omega
      generalize hyx0 : nth ys a = x0 at *
      obtain ⟨m0, hm0⟩ : ∃ m, x0 / 2 ^ 0 % 2 ^ 1 = m := ⟨_, rfl⟩
      have lm0 : m0 < 2 := by rw [← hm0]; exact Nat.mod_lt _ (by decide)
      have Am0 := and8 x0 hxa 0 (by decide) 1 (by decide) (by decide)
      rw [hm0] at Am0
      have Nm0 : num (bitAt ys) (8 * a + 7) 1 = m0 := by rw [← hm0, ← hyx0]; exact num_byte ys hys a 7 1 (by decide)
      have Bm0 : bits .and .u8 (x0 : Int) 1 = (m0 : Int) := by rw [show (1 : Int) = (((2 ^ 1 - 1) * 2 ^ 0 : Nat) : Int) from rfl, Am0, Nat.pow_zero, Nat.mul_one]
      obtain ⟨kt, hkt⟩ : ∃ kt, k - 1 = kt := ⟨_, rfl⟩
      have hkti : (k : Int) - 1 = (kt : Int) := by omega
      have Hm0 := Lib.hid hm0
      have HAm0 := Lib.hid Am0
      have HNm0 := Lib.hid Nm0
      have Hyx0 := Lib.hid hyx0
      have Hkt := Lib.hid hkt
      clear hm0 Am0 Nm0 hyx0 hkt
      go_wp2_with fail
      go_quiet (fail)
      go_wp2_with fail
      refine hK _ _ kt m0 ⟨a + 1, 0, Hh.out.step ((((blk_drewN Hh.out.head _).set 2 (.int .i64 8)).set 2 (.int .i64 0)).set 1 (.int .i64 (a + 1 : Nat))) ((((mod_drewN (· = q) w _).setCell (p := ⟨q, 2, none⟩) (.inr rfl) _).setCell (p := ⟨q, 2, none⟩) (.inr rfl) _).setCell (p := ⟨q, 1, none⟩) (.inr rfl) _) (by decide) (by omega), (((mod_drewN (· = q) w _).setCell (p := ⟨q, 2, none⟩) (.inr rfl) _).setCell (p := ⟨q, 2, none⟩) (.inr rfl) _).setCell (p := ⟨q, 1, none⟩) (.inr rfl) _, by have := Hkt.out; omega, by have := Hkt.out; omega, by rw [show k - kt = 1 by have := Hkt.out; omega]; exact HNm0.out.symm, fun h => rfl⟩ rfl rfl rfl rfl rfl rfl
  case hy =>
    intro u w2 m r hR
    obtain ⟨aa, bb, hsr, hmr, hmk, hpo, hr, hbb⟩ := hR
    simp only [absL, List.take, List.drop, List.range, List.range.loop, List.map, List.cons_append, List.nil_append]
    rw [hpos] at hr ⊢
    rw [hpos] at hpo
    by_cases hm0 : m = 0
    · subst hm0
      rw [Nat.sub_zero] at hr
      have Hsr := Lib.hid hsr
      have Hmr := Lib.hid hmr
      have Hr := Lib.hid hr
      clear hsr hmr hr
      go_wp2_with fail
      go_ret2
      exact ⟨aa, bb, by rw [← Hr.out]; rfl, Hsr.out, by omega, Hmr.out⟩
    · obtain rfl : bb = 0 := hbb (by omega)
      have tm0 : decide (0 < (m : Int)) = true := by simp <;> omega
      have Hsr := Lib.hid hsr
      have Hmr := Lib.hid hmr
      have Hr := Lib.hid hr
      clear hsr hmr hr
      clear q0 q1 q2 f1 f2
      go_wp2_with fail
      generalize decide (0 < m) = bm
      go_loopw [1, 6] (fun x y wr => ∃ m r aa : Nat, x = .int .i64 m ∧ y = .int .i64 r ∧ Src wr q D n cap aa 0 ys ∧ QZ.Mod (· = q) w wr ∧ m ≤ k ∧ 8 * aa + m = pos + k ∧ r = num (bitAt ys) pos (k - m)) (fun x _ _ => (intOf x).toNat)
      case atStart => exact ⟨m, r, aa, rfl, rfl, Hsr.out, Hmr.out, hmk, by omega, Hr.out⟩
      case round =>
        obtain ⟨m, r, aa, rfl, rfl, hsr, hmr, hmk, hpo, hr⟩ := hrel
        have hrl : r < 2 ^ (k - m) := by rw [hr]; exact num_lt _ _ _
        have hrl2 : r < 65536 := Nat.lt_of_lt_of_le hrl (Nat.le_trans (Nat.pow_le_pow_right (by decide) (show k - m ≤ 12 by omega)) (by decide))
        have q0 : wr.cell? ⟨q, 0, none⟩ = some (.slice (some ⟨D, 0, none⟩) n cap) := hsr.head.at 0 rfl
        have q1 : wr.cell? ⟨q, 1, none⟩ = some (.int .i64 aa) := hsr.head.at 1 rfl
        have q2 : wr.cell? ⟨q, 2, none⟩ = some (.int .i64 0) := hsr.head.at 2 rfl
        have f1 : wr.frozen? ⟨q, 1, none⟩ = false := hsr.head.frozen 1
        have f2 : wr.frozen? ⟨q, 2, none⟩ = false := hsr.head.frozen 2
        clear hrl
        by_cases hm8 : 8 ≤ m
        · have hxa : nth ys aa < 256 := nth_lt (by decide) hys aa
          have d0 := hsr.bytes aa (by omega)
          have la : aa < n := by omega
          have hnb : num (bitAt ys) (8 * aa) 8 = nth ys aa := by
            have e := num_byte ys hys aa 0 8 (by decide)
            rw [show 8 * aa + 0 = 8 * aa from rfl] at e
            rw [e]; simp; exact hxa
          generalize hyx : nth ys aa = x0 at *
          have O1 := or_add r x0 8 hrl2 hxa (by decide)
          obtain ⟨V, hV⟩ : ∃ V, r * 2 ^ 8 + x0 = V := ⟨_, rfl⟩
          rw [hV] at O1
          have O2 : bits .or .i64 ((r : Int) * 256) (x0 : Int) = (V : Int) := O1
          have hand : bits .and .u8 (x0 : Int) 255 = (x0 : Int) := by
            have e := and8 x0 hxa 0 (by decide) 8 (by decide) (by decide)
            rw [show (((2 ^ 8 - 1) * 2 ^ 0 : Nat) : Int) = 255 from rfl, Nat.pow_zero, Nat.div_one, Nat.mul_one, Nat.mod_eq_of_lt hxa] at e
            exact e
          have hVn : V = num (bitAt ys) pos (k - (m - 8)) := by
            have e := num_add (bitAt ys) pos (k - m) 8
            rw [show k - m + 8 = k - (m - 8) by omega, show pos + (k - m) = 8 * aa by omega, hnb, ← hr, hV] at e
            exact e.symm
          have hm8i : (m : Int) - 8 = ((m - 8 : Nat) : Int) := by omega
          have Hsr := Lib.hid hsr
          have Hmr := Lib.hid hmr
          have Hr := Lib.hid hr
          have Hnb := Lib.hid hnb
          have Hyx := Lib.hid hyx
          have HV := Lib.hid hV
          have HO1 := Lib.hid O1
          have HVn := Lib.hid hVn
          have Hm8i := Lib.hid hm8i
          clear hsr hmr hr hnb hyx hV O1 hVn hm8i
          go_wp2_with fail
          go_quiet (fail)
          go_wp2_with fail
          go_roundw
          case rel => exact ⟨m - 8, V, aa + 1, by rw [← Hm8i.out], rfl, Hsr.out.step ((blk_drewN Hsr.out.head _).set 1 (.int .i64 (aa + 1 : Nat))) ((mod_drewN (· = q) wr _).setCell (p := ⟨q, 1, none⟩) (.inr rfl) _) (by decide) (by omega), Hmr.out.trans ((mod_drewN (· = q) wr _).setCell (p := ⟨q, 1, none⟩) (.inr rfl) _), by omega, by omega, HVn.out⟩
          case measure => simp [intOf] <;> omega
        · by_cases hm0 : m = 0
          · subst hm0
            rw [Nat.sub_zero] at hr
            have Hsr := Lib.hid hsr
            have Hmr := Lib.hid hmr
            have Hr := Lib.hid hr
            clear hsr hmr hr
            go_wp2_with fail
            go_ret2
            exact ⟨aa, 0, by rw [← Hr.out]; rfl, Hsr.out, by omega, Hmr.out⟩
          · have Hmr := Lib.hid hmr
            clear hmr
            obtain rfl | rfl | rfl | rfl | rfl | rfl | rfl : m = 1 ∨ m = 2 ∨ m = 3 ∨ m = 4 ∨ m = 5 ∨ m = 6 ∨ m = 7 := by omega
            · have hxa : nth ys aa < 256 := nth_lt (by decide) hys aa
              have d0 := hsr.bytes aa (by omega)
              have la : aa < n := by omega
              generalize hyx1 : nth ys aa = x1 at *
              obtain ⟨m1, hm1⟩ : ∃ m, x1 / 2 ^ 7 % 2 ^ 1 = m := ⟨_, rfl⟩
              have lm1 : m1 < 2 := by rw [← hm1]; exact Nat.mod_lt _ (by decide)
              have Am1 := and8 x1 hxa 7 (by decide) 1 (by decide) (by decide)
              rw [hm1] at Am1
              have Nm1 : num (bitAt ys) (8 * aa) 1 = m1 := by rw [← hm1, ← hyx1]; exact num_byte ys hys aa 0 1 (by decide)
              obtain ⟨zm1, hzm1⟩ : ∃ z, m1 * 2 ^ 7 = z := ⟨_, rfl⟩
              have Bm1 : bits .and .u8 (x1 : Int) 128 = (zm1 : Int) := by rw [show (128 : Int) = (((2 ^ 1 - 1) * 2 ^ 7 : Nat) : Int) from rfl, Am1, hzm1]
              have Cm1 : zm1 / 128 = m1 := by omega
              have Dm1 : (zm1 : Int) / 128 = (m1 : Int) := by omega
              have O1 := or_add r m1 1 (by omega) lm1 (by decide)
              obtain ⟨V, hV⟩ : ∃ V, r * 2 ^ 1 + m1 = V := ⟨_, rfl⟩
              rw [hV] at O1
              have O2 : bits .or .i64 ((r : Int) * 2) (m1 : Int) = (V : Int) := O1
              have hVn : num (bitAt ys) pos k = V := by
                have e := num_add (bitAt ys) pos (k - 1) 1
                rw [show k - 1 + 1 = k by omega, show pos + (k - 1) = 8 * aa by omega, Nm1, ← hr, hV] at e
                exact e
              have Hsr := Lib.hid hsr
              have Hm1 := Lib.hid hm1
              have HAm1 := Lib.hid Am1
              have HNm1 := Lib.hid Nm1
              have Hyx1 := Lib.hid hyx1
              have HV := Lib.hid hV
              have HO1 := Lib.hid O1
              have HVn := Lib.hid hVn
              have Hr := Lib.hid hr
              have Hzm1 := Lib.hid hzm1
              clear hsr hm1 Am1 Nm1 hyx1 hV O1 hVn hr hzm1
              go_wp2_with fail
              go_quiet (fail)
              go_wp2_with fail
              go_ret2
              refine ⟨aa, 1, by rw [HVn.out]; rfl, Hsr.out.step ((blk_drewN Hsr.out.head _).set 2 (.int .i64 1)) ((mod_drewN (· = q) wr _).setCell (p := ⟨q, 2, none⟩) (.inr rfl) _) (by decide) (by omega), by omega, Hmr.out.trans ((mod_drewN (· = q) wr _).setCell (p := ⟨q, 2, none⟩) (.inr rfl) _)⟩
            · have hxa : nth ys aa < 256 := nth_lt (by decide) hys aa
              have d0 := hsr.bytes aa (by omega)
              have la : aa < n := by omega
              generalize hyx1 : nth ys aa = x1 at *
              obtain ⟨m1, hm1⟩ : ∃ m, x1 / 2 ^ 6 % 2 ^ 2 = m := ⟨_, rfl⟩
              have lm1 : m1 < 4 := by rw [← hm1]; exact Nat.mod_lt _ (by decide)
              have Am1 := and8 x1 hxa 6 (by decide) 2 (by decide) (by decide)
              rw [hm1] at Am1
              have Nm1 : num (bitAt ys) (8 * aa) 2 = m1 := by rw [← hm1, ← hyx1]; exact num_byte ys hys aa 0 2 (by decide)
              obtain ⟨zm1, hzm1⟩ : ∃ z, m1 * 2 ^ 6 = z := ⟨_, rfl⟩
              have Bm1 : bits .and .u8 (x1 : Int) 192 = (zm1 : Int) := by rw [show (192 : Int) = (((2 ^ 2 - 1) * 2 ^ 6 : Nat) : Int) from rfl, Am1, hzm1]
              have Cm1 : zm1 / 64 = m1 := by omega
              have Dm1 : (zm1 : Int) / 64 = (m1 : Int) := by omega
              have O1 := or_add r m1 2 (by omega) lm1 (by decide)
              obtain ⟨V, hV⟩ : ∃ V, r * 2 ^ 2 + m1 = V := ⟨_, rfl⟩
              rw [hV] at O1
              have O2 : bits .or .i64 ((r : Int) * 4) (m1 : Int) = (V : Int) := O1
              have hVn : num (bitAt ys) pos k = V := by
                have e := num_add (bitAt ys) pos (k - 2) 2
                rw [show k - 2 + 2 = k by omega, show pos + (k - 2) = 8 * aa by omega, Nm1, ← hr, hV] at e
                exact e
              have Hsr := Lib.hid hsr
              have Hm1 := Lib.hid hm1
              have HAm1 := Lib.hid Am1
              have HNm1 := Lib.hid Nm1
              have Hyx1 := Lib.hid hyx1
              have HV := Lib.hid hV
              have HO1 := Lib.hid O1
              have HVn := Lib.hid hVn
              have Hr := Lib.hid hr
              have Hzm1 := Lib.hid hzm1
              clear hsr hm1 Am1 Nm1 hyx1 hV O1 hVn hr hzm1
              go_wp2_with fail
              go_quiet (fail)
              go_wp2_with fail
              go_ret2
              refine ⟨aa, 2, by rw [HVn.out]; rfl, Hsr.out.step ((blk_drewN Hsr.out.head _).set 2 (.int .i64 2)) ((mod_drewN (· = q) wr _).setCell (p := ⟨q, 2, none⟩) (.inr rfl) _) (by decide) (by omega), by omega, Hmr.out.trans ((mod_drewN (· = q) wr _).setCell (p := ⟨q, 2, none⟩) (.inr rfl) _)⟩
            · have hxa : nth ys aa < 256 := nth_lt (by decide) hys aa
              have d0 := hsr.bytes aa (by omega)
              have la : aa < n := by omega
              generalize hyx1 : nth ys aa = x1 at *
              obtain ⟨m1, hm1⟩ : ∃ m, x1 / 2 ^ 5 % 2 ^ 3 = m := ⟨_, rfl⟩
              have lm1 : m1 < 8 := by rw [← hm1]; exact Nat.mod_lt _ (by decide)
              have Am1 := and8 x1 hxa 5 (by decide) 3 (by decide) (by decide)
              rw [hm1] at Am1
              have Nm1 : num (bitAt ys) (8 * aa) 3 = m1 := by rw [← hm1, ← hyx1]; exact num_byte ys hys aa 0 3 (by decide)
              obtain ⟨zm1, hzm1⟩ : ∃ z, m1 * 2 ^ 5 = z := ⟨_, rfl⟩
              have Bm1 : bits .and .u8 (x1 : Int) 224 = (zm1 : Int) := by rw [show (224 : Int) = (((2 ^ 3 - 1) * 2 ^ 5 : Nat) : Int) from rfl, Am1, hzm1]
              have Cm1 : zm1 / 32 = m1 := by omega
              have Dm1 : (zm1 : Int) / 32 = (m1 : Int) := by omega
              have O1 := or_add r m1 3 (by omega) lm1 (by decide)
              obtain ⟨V, hV⟩ : ∃ V, r * 2 ^ 3 + m1 = V := ⟨_, rfl⟩
              rw [hV] at O1
              have O2 : bits .or .i64 ((r : Int) * 8) (m1 : Int) = (V : Int) := O1
              have hVn : num (bitAt ys) pos k = V := by
                have e := num_add (bitAt ys) pos (k - 3) 3
                rw [show k - 3 + 3 = k by omega, show pos + (k - 3) = 8 * aa by omega, Nm1, ← hr, hV] at e
                exact e
              have Hsr := Lib.hid hsr
              have Hm1 := Lib.hid hm1
              have HAm1 := Lib.hid Am1
              have HNm1 := Lib.hid Nm1
              have Hyx1 := Lib.hid hyx1
              have HV := Lib.hid hV
              have HO1 := Lib.hid O1
              have HVn := Lib.hid hVn
              have Hr := Lib.hid hr
              have Hzm1 := Lib.hid hzm1
              clear hsr hm1 Am1 Nm1 hyx1 hV O1 hVn hr hzm1
              go_wp2_with fail
              go_quiet (fail)
              go_wp2_with fail
              go_ret2
              refine ⟨aa, 3, by rw [HVn.out]; rfl, Hsr.out.step ((blk_drewN Hsr.out.head _).set 2 (.int .i64 3)) ((mod_drewN (· = q) wr _).setCell (p := ⟨q, 2, none⟩) (.inr rfl) _) (by decide) (by omega), by omega, Hmr.out.trans ((mod_drewN (· = q) wr _).setCell (p := ⟨q, 2, none⟩) (.inr rfl) _)⟩
            · have hxa : nth ys aa < 256 := nth_lt (by decide) hys aa
              have d0 := hsr.bytes aa (by omega)
              have la : aa < n := by omega
              generalize hyx1 : nth ys aa = x1 at *
              obtain ⟨m1, hm1⟩ : ∃ m, x1 / 2 ^ 4 % 2 ^ 4 = m := ⟨_, rfl⟩
              have lm1 : m1 < 16 := by rw [← hm1]; exact Nat.mod_lt _ (by decide)
              have Am1 := and8 x1 hxa 4 (by decide) 4 (by decide) (by decide)
              rw [hm1] at Am1
              have Nm1 : num (bitAt ys) (8 * aa) 4 = m1 := by rw [← hm1, ← hyx1]; exact num_byte ys hys aa 0 4 (by decide)
              obtain ⟨zm1, hzm1⟩ : ∃ z, m1 * 2 ^ 4 = z := ⟨_, rfl⟩
              have Bm1 : bits .and .u8 (x1 : Int) 240 = (zm1 : Int) := by rw [show (240 : Int) = (((2 ^ 4 - 1) * 2 ^ 4 : Nat) : Int) from rfl, Am1, hzm1]
              have Cm1 : zm1 / 16 = m1 := by omega
              have Dm1 : (zm1 : Int) / 16 = (m1 : Int) := by omega
              have O1 := or_add r m1 4 (by omega) lm1 (by decide)
              obtain ⟨V, hV⟩ : ∃ V, r * 2 ^ 4 + m1 = V := ⟨_, rfl⟩
              rw [hV] at O1
              have O2 : bits .or .i64 ((r : Int) * 16) (m1 : Int) = (V : Int) := O1
              have hVn : num (bitAt ys) pos k = V := by
                have e := num_add (bitAt ys) pos (k - 4) 4
                rw [show k - 4 + 4 = k by omega, show pos + (k - 4) = 8 * aa by omega, Nm1, ← hr, hV] at e
                exact e
              have Hsr := Lib.hid hsr
              have Hm1 := Lib.hid hm1
              have HAm1 := Lib.hid Am1
              have HNm1 := Lib.hid Nm1
              have Hyx1 := Lib.hid hyx1
              have HV := Lib.hid hV
              have HO1 := Lib.hid O1
              have HVn := Lib.hid hVn
              have Hr := Lib.hid hr
              have Hzm1 := Lib.hid hzm1
              clear hsr hm1 Am1 Nm1 hyx1 hV O1 hVn hr hzm1
              go_wp2_with fail
              go_quiet (fail)
              go_wp2_with fail
              go_ret2
              refine ⟨aa, 4, by rw [HVn.out]; rfl, Hsr.out.step ((blk_drewN Hsr.out.head _).set 2 (.int .i64 4)) ((mod_drewN (· = q) wr _).setCell (p := ⟨q, 2, none⟩) (.inr rfl) _) (by decide) (by omega), by omega, Hmr.out.trans ((mod_drewN (· = q) wr _).setCell (p := ⟨q, 2, none⟩) (.inr rfl) _)⟩
            · have hxa : nth ys aa < 256 := nth_lt (by decide) hys aa
              have d0 := hsr.bytes aa (by omega)
              have la : aa < n := by omega
              generalize hyx1 : nth ys aa = x1 at *
              obtain ⟨m1, hm1⟩ : ∃ m, x1 / 2 ^ 3 % 2 ^ 5 = m := ⟨_, rfl⟩
              have lm1 : m1 < 32 := by rw [← hm1]; exact Nat.mod_lt _ (by decide)
              have Am1 := and8 x1 hxa 3 (by decide) 5 (by decide) (by decide)
              rw [hm1] at Am1
              have Nm1 : num (bitAt ys) (8 * aa) 5 = m1 := by rw [← hm1, ← hyx1]; exact num_byte ys hys aa 0 5 (by decide)
              obtain ⟨zm1, hzm1⟩ : ∃ z, m1 * 2 ^ 3 = z := ⟨_, rfl⟩
              have Bm1 : bits .and .u8 (x1 : Int) 248 = (zm1 : Int) := by rw [show (248 : Int) = (((2 ^ 5 - 1) * 2 ^ 3 : Nat) : Int) from rfl, Am1, hzm1]
              have Cm1 : zm1 / 8 = m1 := by omega
              have Dm1 : (zm1 : Int) / 8 = (m1 : Int) := by omega
              have O1 := or_add r m1 5 (by omega) lm1 (by decide)
              obtain ⟨V, hV⟩ : ∃ V, r * 2 ^ 5 + m1 = V := ⟨_, rfl⟩
              rw [hV] at O1
              have O2 : bits .or .i64 ((r : Int) * 32) (m1 : Int) = (V : Int) := O1
              have hVn : num (bitAt ys) pos k = V := by
                have e := num_add (bitAt ys) pos (k - 5) 5
                rw [show k - 5 + 5 = k by omega, show pos + (k - 5) = 8 * aa by omega, Nm1, ← hr, hV] at e
                exact e
              have Hsr := Lib.hid hsr
              have Hm1 := Lib.hid hm1
              have HAm1 := Lib.hid Am1
              have HNm1 := Lib.hid Nm1
              have Hyx1 := Lib.hid hyx1
              have HV := Lib.hid hV
              have HO1 := Lib.hid O1
              have HVn := Lib.hid hVn
              have Hr := Lib.hid hr
              have Hzm1 := Lib.hid hzm1
              clear hsr hm1 Am1 Nm1 hyx1 hV O1 hVn hr hzm1
              go_wp2_with fail
              go_quiet (fail)
              go_wp2_with fail
              go_ret2
              refine ⟨aa, 5, by rw [HVn.out]; rfl, Hsr.out.step ((blk_drewN Hsr.out.head _).set 2 (.int .i64 5)) ((mod_drewN (· = q) wr _).setCell (p := ⟨q, 2, none⟩) (.inr rfl) _) (by decide) (by omega), by omega, Hmr.out.trans ((mod_drewN (· = q) wr _).setCell (p := ⟨q, 2, none⟩) (.inr rfl) _)⟩
            · have hxa : nth ys aa < 256 := nth_lt (by decide) hys aa
              have d0 := hsr.bytes aa (by omega)
              have la : aa < n := by omega
              generalize hyx1 : nth ys aa = x1 at *
              obtain ⟨m1, hm1⟩ : ∃ m, x1 / 2 ^ 2 % 2 ^ 6 = m := ⟨_, rfl⟩
              have lm1 : m1 < 64 := by rw [← hm1]; exact Nat.mod_lt _ (by decide)
              have Am1 := and8 x1 hxa 2 (by decide) 6 (by decide) (by decide)
              rw [hm1] at Am1
              have Nm1 : num (bitAt ys) (8 * aa) 6 = m1 := by rw [← hm1, ← hyx1]; exact num_byte ys hys aa 0 6 (by decide)
              obtain ⟨zm1, hzm1⟩ : ∃ z, m1 * 2 ^ 2 = z := ⟨_, rfl⟩
              have Bm1 : bits .and .u8 (x1 : Int) 252 = (zm1 : Int) := by rw [show (252 : Int) = (((2 ^ 6 - 1) * 2 ^ 2 : Nat) : Int) from rfl, Am1, hzm1]
              have Cm1 : zm1 / 4 = m1 := by omega
              have Dm1 : (zm1 : Int) / 4 = (m1 : Int) := by omega
              have O1 := or_add r m1 6 (by omega) lm1 (by decide)
              obtain ⟨V, hV⟩ : ∃ V, r * 2 ^ 6 + m1 = V := ⟨_, rfl⟩
              rw [hV] at O1
              have O2 : bits .or .i64 ((r : Int) * 64) (m1 : Int) = (V : Int) := O1
              have hVn : num (bitAt ys) pos k = V := by
                have e := num_add (bitAt ys) pos (k - 6) 6
                rw [show k - 6 + 6 = k by omega, show pos + (k - 6) = 8 * aa by omega, Nm1, ← hr, hV] at e
                exact e
              have Hsr := Lib.hid hsr
              have Hm1 := Lib.hid hm1
              have HAm1 := Lib.hid Am1
              have HNm1 := Lib.hid Nm1
              have Hyx1 := Lib.hid hyx1
              have HV := Lib.hid hV
              have HO1 := Lib.hid O1
              have HVn := Lib.hid hVn
              have Hr := Lib.hid hr
              have Hzm1 := Lib.hid hzm1
              clear hsr hm1 Am1 Nm1 hyx1 hV O1 hVn hr hzm1
              go_wp2_with fail
              go_quiet (fail)
              go_wp2_with fail
              go_ret2
              refine ⟨aa, 6, by rw [HVn.out]; rfl, Hsr.out.step ((blk_drewN Hsr.out.head _).set 2 (.int .i64 6)) ((mod_drewN (· = q) wr _).setCell (p := ⟨q, 2, none⟩) (.inr rfl) _) (by decide) (by omega), by omega, Hmr.out.trans ((mod_drewN (· = q) wr _).setCell (p := ⟨q, 2, none⟩) (.inr rfl) _)⟩
            · have hxa : nth ys aa < 256 := nth_lt (by decide) hys aa
              have d0 := hsr.bytes aa (by omega)
              have la : aa < n := by omega
              generalize hyx1 : nth ys aa = x1 at *
              obtain ⟨m1, hm1⟩ : ∃ m, x1 / 2 ^ 1 % 2 ^ 7 = m := ⟨_, rfl⟩
              have lm1 : m1 < 128 := by rw [← hm1]; exact Nat.mod_lt _ (by decide)
              have Am1 := and8 x1 hxa 1 (by decide) 7 (by decide) (by decide)
              rw [hm1] at Am1
              have Nm1 : num (bitAt ys) (8 * aa) 7 = m1 := by rw [← hm1, ← hyx1]; exact num_byte ys hys aa 0 7 (by decide)
              obtain ⟨zm1, hzm1⟩ : ∃ z, m1 * 2 ^ 1 = z := ⟨_, rfl⟩
              have Bm1 : bits .and .u8 (x1 : Int) 254 = (zm1 : Int) := by rw [show (254 : Int) = (((2 ^ 7 - 1) * 2 ^ 1 : Nat) : Int) from rfl, Am1, hzm1]
              have Cm1 : zm1 / 2 = m1 := by omega
              have Dm1 : (zm1 : Int) / 2 = (m1 : Int) := by omega
              have O1 := or_add r m1 7 (by omega) lm1 (by decide)
              obtain ⟨V, hV⟩ : ∃ V, r * 2 ^ 7 + m1 = V := ⟨_, rfl⟩
              rw [hV] at O1
              have O2 : bits .or .i64 ((r : Int) * 128) (m1 : Int) = (V : Int) := O1
              have hVn : num (bitAt ys) pos k = V := by
                have e := num_add (bitAt ys) pos (k - 7) 7
                rw [show k - 7 + 7 = k by omega, show pos + (k - 7) = 8 * aa by omega, Nm1, ← hr, hV] at e
                exact e
              have Hsr := Lib.hid hsr
              have Hm1 := Lib.hid hm1
              have HAm1 := Lib.hid Am1
              have HNm1 := Lib.hid Nm1
              have Hyx1 := Lib.hid hyx1
              have HV := Lib.hid hV
              have HO1 := Lib.hid O1
              have HVn := Lib.hid hVn
              have Hr := Lib.hid hr
              have Hzm1 := Lib.hid hzm1
              clear hsr hm1 Am1 Nm1 hyx1 hV O1 hVn hr hzm1
              go_wp2_with fail
              go_quiet (fail)
              go_wp2_with fail
              go_ret2
              refine ⟨aa, 7, by rw [HVn.out]; rfl, Hsr.out.step ((blk_drewN Hsr.out.head _).set 2 (.int .i64 7)) ((mod_drewN (· = q) wr _).setCell (p := ⟨q, 2, none⟩) (.inr rfl) _) (by decide) (by omega), by omega, Hmr.out.trans ((mod_drewN (· = q) wr _).setCell (p := ⟨q, 2, none⟩) (.inr rfl) _)⟩
end Go.Proofs.YtnpkihobbcglcaaGreatDoor
