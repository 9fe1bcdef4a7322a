/- Part 49 of the proof of FnPXQuick (a QR code that is written for a text says this text in a picture): parts of the road. No condition. -/
import Derived.Test.YtnpkihobbcglcaaGreatDoorG30
import Derived.Test.YtnpkihobbcglcaaGreatDoorG48
/- A part of the code behind which one number is new: the ways meet again. -/
open Go Go.RowKit
namespace Go.QZ
variable {P : Program}
/-- The frame, where slot i holds a number, the slots j and j + 1 any values, j + 2 a bool, j + 3 any value. -/
def Act.opt (a : Act) (i j n : Nat) (v1 v2 : Value) (b : Bool) (u : Value) : Act := { tmps := ((((a.tmps.setIfInBounds i (.int .i64 n)).setIfInBounds j v1).setIfInBounds (j + 1) v2).setIfInBounds (j + 2) (.bool b)).setIfInBounds (j + 3) u, defers := a.defers }
/-- Behind x slot i holds a number of C and four slots from j on are new; all else is as ahead of it. -/
theorem wp_seq_opt {x y : Code} {Q : Exit → Act → World → Prop} {a : Act} {w : World} (i j : Nat) (C : Nat → Prop)
    (hx : ∀ K : Act → World → Prop, (∀ (a1 : Act) (n : Nat) (v1 v2 : Value) (b : Bool) (u : Value), C n → a1 = Act.opt a i j n v1 v2 b u → K a1 w) → x.wp P (Exit.then K Q) a w)
    (hy : ∀ (n : Nat) (v1 v2 : Value) (b : Bool) (u : Value), C n → y.wp P Q (Act.opt a i j n v1 v2 b u) w) : (Code.seq x y).wp P Q a w :=
  wp_seq (hx (y.wp P Q) (fun a1 n v1 v2 b u hc e => by rw [e]; exact hy n v1 v2 b u hc))
end Go.QZ
/- Black points of a picture. -/
open Go Go.RowKit
namespace Go.Proofs.YtnpkihobbcglcaaGreatDoor
open Go.QZ

/-- The sum s, the least mn and the greatest mx of c pixels. -/
def Seen (L c s mn mx : Nat) : Prop := s ≤ c * L ∧ (mn < L → s < c * L) ∧ mx ≤ L ∧ (0 < c → mn ≤ L) ∧ mn ≤ 255
theorem Seen.step {L c s mn mx g mn' mx' : Nat} (h : Seen L c s mn mx) (hg : g ≤ L) (h1 : mn' = if g < mn then g else mn) (h2 : mx' = if mx < g then g else mx) : Seen L (c + 1) (s + g) mn' mx' := by
  obtain ⟨a, b, d, e, f⟩ := h
  have hs := Nat.succ_mul c L
  rw [Nat.succ_eq_add_one] at hs
  generalize c * L = q at *
  refine ⟨by omega, fun hm => ?_, by split at h2 <;> omega, fun _ => ?_, by split at h1 <;> omega⟩
  · split at h1
    · by_cases hml : mn < L
      · have := b hml; omega
      · omega
    · have := b (by omega); omega
  · split at h1
    · omega
    · omega
theorem Seen.more {L c s mn mx g : Nat} (h : Seen L c s mn mx) (hg : g ≤ L) (hc : 0 < c) : Seen L (c + 1) (s + g) mn mx := by
  obtain ⟨a, b, d, e, f⟩ := h
  have hs := Nat.succ_mul c L
  rw [Nat.succ_eq_add_one] at hs
  generalize c * L = q at *
  exact ⟨by omega, fun hm => by have := b hm; omega, d, fun _ => e hc, f⟩

/-- New rows of black points are handed back. -/
def NewPts (w : World) (sw sh L : Nat) (e : Ending) (w' : World) : Prop := ∃ Q, e = .returned (.slice (some ⟨Q, 0, none⟩) sh sh) ∧ Points w' Q sw sh L ∧ w.heap.size ≤ Q ∧ QZ.Mod (fun _ => False) w w'

set_option maxRecDepth 20000 in
set_option maxHeartbeats 1600000 in
theorem points_c (w : World) (this : Value) (G cap W H N sw sh L : Nat) (P : Nat → Nat → Nat) (hp : Pix w G W H P) (hP : ∀ x y, P x y ≤ L) (hL : 1 ≤ L) (hL2 : L < 256) (hN : W * H = N) (hW1 : 40 ≤ W) (hH1 : 40 ≤ H) (hW : W ≤ 300) (hH : H ≤ 300) (hsw : sw = (W + 7) / 8) (hsh : sh = (H + 7) / 8) (hG : G < w.heap.size) :
    Calls Tryz.prog 326 #[this, .slice (some ⟨G, 0, none⟩) N cap, .int .i64 sw, .int .i64 sh, .int .i64 W, .int .i64 H] w (NewPts w sw sh L) := by
  have hs5 : 5 ≤ sw ∧ sw ≤ 38 ∧ 5 ≤ sh ∧ sh ≤ 38 := by omega
  obtain ⟨hs5a, hs5b, hs6a, hs6b⟩ := hs5
  obtain ⟨h8, hh8⟩ : ∃ h8, H - 8 = h8 := ⟨_, rfl⟩
  obtain ⟨w8, hw8⟩ : ∃ w8, W - 8 = w8 := ⟨_, rfl⟩
  have hh8i : (H : Int) - 8 = (h8 : Int) := by omega
  have hw8i : (W : Int) - 8 = (w8 : Int) := by omega
  have hhl1 : h8 ≤ 292 := by omega
  have hhl2 : w8 ≤ 292 := by omega
  have hNl : N ≤ 90000 := by rw [← hN]; exact Nat.le_trans (Nat.mul_le_mul hW hH) (by decide)
  have hmk := make_run (P := Tryz.prog) Tryz.underlying220 iRow117 rfl (sh : Int) (sh : Int) sh sh rfl rfl (Nat.le_refl _) (by omega) (by omega)
  have hQ0 : PtTo w w.heap.size sw sh L 0 (w.alloc (zrow 117 (.slice none 0 0) sh)) := ⟨_, Blk.made w 117 _ sh, List.length_replicate, fun y hy => by omega, (QZ.Mod.refl _ _).alloc _⟩
  have hpx : ∀ q x y, x < W → y < H → q = y * W + x → w.cell? ⟨G, q, none⟩ = some (.int .u8 (P x y : Nat)) := fun q x y hx hy e => by rw [e]; exact hp x y hx hy
  have Hp := Lib.hid hp
  have HP := Lib.hid hP
  have HN := Lib.hid hN
  have Hsw := Lib.hid hsw
  have Hsh := Lib.hid hsh
  have Hh8 := Lib.hid hh8
  have Hw8 := Lib.hid hw8
  have HQ0 := Lib.hid hQ0
  have Hpx := Lib.hid hpx
  clear hp hP hN hsw hsh hh8 hw8 hQ0 hpx
  go_enter Tryz.func326, Tryz.ntmps326
  go_wp2_with fail
  clear hmk
  obtain ⟨Q, hQ⟩ : ∃ Q, w.heap.size = Q := ⟨_, rfl⟩
  rw [hQ] at HQ0 hG ⊢
  go_loopw [16, 17, 18, 19, 20, 21, 22, 23, 24, 25, 26, 27, 28, 29] (fun a _ _ _ _ _ _ _ _ _ _ _ _ _ wr => ∃ k : Nat, k ≤ sh ∧ a = .int .i64 k ∧ PtTo w Q sw sh L k wr) (fun a _ _ _ _ _ _ _ _ _ _ _ _ _ _ => sh - (intOf a).toNat)
  case atStart => exact ⟨0, by omega, rfl, HQ0.out⟩
  case round =>
    obtain ⟨k, hk, rfl, hpt⟩ := hrel
    by_cases hlt : k < sh
    · obtain ⟨k8, hk8⟩ : ∃ k8, 8 * k = k8 := ⟨_, rfl⟩
      have hk8i : (k : Int) * 8 = (k8 : Int) := by omega
      have hmk2 := make_run (P := Tryz.prog) Tryz.underlying117 i117 rfl (sw : Int) (sw : Int) sw sw rfl rfl (Nat.le_refl _) (by omega) (by omega)
      obtain ⟨v0, hv0⟩ := hpt.cell k hlt
      have hv1 := cell_mod ((QZ.Mod.refl (fun _ => False) wr).alloc (zrow 3 (.int .i64 0) sw)) (fun f => f) hv0
      have hfr : (wr.alloc (zrow 3 (.int .i64 0) sw)).frozen? ⟨Q, k, none⟩ = false := by
        obtain ⟨qs, h1, _⟩ := hpt
        exact (h1.alloc _).frozen k
      have hgr := hpt.grow hlt hL
      clear hv0
      have Hpt := Lib.hid hpt
      have Hgr := Lib.hid hgr
      have Hk8 := Lib.hid hk8
      clear hpt hgr hk8
      repeat (fail_if_success (refine wp_seq_opt (x := Code.seq (Code.region 9 _ _) _) 17 48 (fun n => n + 8 ≤ H) ?hy ?hz)
              go_step)
      refine wp_seq_opt (x := Code.seq (Code.region 9 _ _) _) 17 48 (fun n => n + 8 ≤ H) ?hy ?hz
      case hy =>
        intro K hK
        by_cases hgy : h8 < k8
        · go_wp2_with fail
          exact hK _ h8 (.int .i64 k8) (.int .i64 h8) true (.int .i64 h8) (by have := Hh8.out; omega) rfl
        · go_wp2_with fail
          exact hK _ k8 (.int .i64 k8) (.int .i64 h8) false _ (by have := Hh8.out; omega) rfl
      case hz =>
        intro yo uy1 uy2 by1 uy3 hyo
        simp only [Act.opt, List.setIfInBounds_toArray, List.set_cons_succ, List.set_cons_zero]
        clear hmk2 hv1 hfr
        obtain ⟨py, hpy⟩ : ∃ py, yo * W = py := ⟨_, rfl⟩
        have hpyi : (yo : Int) * (W : Int) = (py : Int) := by rw [← hpy]; exact (Int.natCast_mul yo W).symm
        have hpyl : py ≤ 90000 := by rw [← hpy]; exact Nat.le_trans (Nat.mul_le_mul (show yo ≤ 300 by omega) hW) (by decide)
        have Hpy := Lib.hid hpy
        clear hpy
        generalize (wr.alloc (zrow 3 (.int .i64 0) sw)).setCell ⟨Q, k, none⟩ (.slice (some ⟨wr.heap.size, 0, none⟩) sw sw) = wG at *
        generalize wr.heap.size = Rk at *
        generalize decide ((k : Int) < (sh : Int)) = bb
        go_wp2_with fail
        go_loopw [18, 19, 20, 21, 22, 23, 24, 25, 26, 27, 28, 29] (fun a _ _ _ _ _ _ _ _ _ _ _ wr => ∃ j : Nat, j ≤ sw ∧ a = .int .i64 j ∧ PtTo w Q sw sh L (k + 1) wr) (fun a _ _ _ _ _ _ _ _ _ _ _ _ => sw - (intOf a).toNat)
        case atStart => exact ⟨0, by omega, rfl, Hgr.out⟩
        case round =>
          obtain ⟨j, hj, rfl, hpt⟩ := hrel
          by_cases hjl : j < sw
          · obtain ⟨j8, hj8⟩ : ∃ j8, 8 * j = j8 := ⟨_, rfl⟩
            have hj8i : (j : Int) * 8 = (j8 : Int) := by omega
            have Hpt_1 := Lib.hid hpt
            have Hj8 := Lib.hid hj8
            clear hpt hj8
            repeat (fail_if_success (refine wp_seq_opt (x := Code.seq (Code.region 15 _ _) _) 19 59 (fun n => n + 8 ≤ W) ?hy ?hz)
                    go_step)
            refine wp_seq_opt (x := Code.seq (Code.region 15 _ _) _) 19 59 (fun n => n + 8 ≤ W) ?hy ?hz
            case hy =>
              intro K hK
              by_cases hgx : w8 < j8
              · go_wp2_with fail
                exact hK _ w8 (.int .i64 j8) (.int .i64 w8) true (.int .i64 w8) (by have := Hw8.out; omega) rfl
              · go_wp2_with fail
                exact hK _ j8 (.int .i64 j8) (.int .i64 w8) false _ (by have := Hw8.out; omega) rfl
            case hz =>
              intro xo ux1 ux2 bx1 ux3 hxo
              simp only [Act.opt, List.setIfInBounds_toArray, List.set_cons_succ, List.set_cons_zero]
              generalize decide ((j : Int) < (sw : Int)) = bbx
              go_wp2_with fail
              have hmQ := Hpt_1.out.mod
              have hpw : ∀ q x y, x < W → y < H → q = y * W + x → wr.cell? ⟨G, q, none⟩ = some (.int .u8 (P x y : Nat)) := fun q x y hx hy e => cell_mod hmQ (by omega) (Hpx.out q x y hx hy e)
              have hseen0 : Seen L 0 0 255 0 := ⟨by omega, fun h => by omega, by omega, fun h => by omega, by omega⟩
              have HmQ := Lib.hid hmQ
              have Hpw := Lib.hid hpw
              have Hseen0 := Lib.hid hseen0
              clear hmQ hpw hseen0
              go_loop [23, 24, 20, 21, 22, 25, 26, 27] (fun a b s mn mx _ _ _ => ∃ yy q sv mnv mxv c : Nat, yy ≤ 9 ∧ a = .int .i64 yy ∧ b = .int .i64 q ∧ s = .int .i64 sv ∧ mn = .int .i64 mnv ∧ mx = .int .i64 mxv ∧ q = (yo + yy) * W + xo ∧ (yy < 8 → c = 8 * yy) ∧ (8 ≤ yy → c = 64) ∧ Seen L c sv mnv mxv) (fun a _ _ _ _ _ _ _ => 9 - (intOf a).toNat)
              case atStart => exact ⟨0, py + xo, 0, 255, 0, 0, by omega, rfl, by go_num, rfl, rfl, rfl, by rw [Nat.add_zero]; have := Hpy.out; omega, fun _ => rfl, fun h => by omega, Hseen0.out⟩
              case round =>
                obtain ⟨yy, q, sv, mnv, mxv, c, hyy, rfl, rfl, rfl, rfl, rfl, hq, hc1, hc2, hse⟩ := hrel
                by_cases hy8 : yy < 8
                · obtain rfl : 8 * yy = c := (hc1 hy8).symm
                  have hqN : q + 8 ≤ N := by
                    have e1 : (yo + yy) * W + W ≤ H * W := by rw [← Nat.succ_mul]; exact Nat.mul_le_mul_right W (by omega)
                    have e2 := HN.out
                    rw [Nat.mul_comm] at e2
                    omega
                  have hqn : q + W = (yo + (yy + 1)) * W + xo := by rw [hq, ← Nat.add_assoc yo yy 1, Nat.succ_mul]; omega
                  clear hc1 hc2
                  have Hq := Lib.hid hq
                  have Hse := Lib.hid hse
                  have Hqn := Lib.hid hqn
                  clear hq hse hqn
                  go_wp2_with fail
                  generalize decide ((yy : Int) < 8) = by8
                  go_loop [25, 20, 21, 22, 26] (fun a s mn mx _ => ∃ xx sv mnv mxv : Nat, xx ≤ 8 ∧ a = .int .i64 xx ∧ s = .int .i64 sv ∧ mn = .int .i64 mnv ∧ mx = .int .i64 mxv ∧ Seen L (8 * yy + xx) sv mnv mxv) (fun a _ _ _ _ => 8 - (intOf a).toNat)
                  case atStart => exact ⟨0, sv, mnv, mxv, by omega, rfl, rfl, rfl, rfl, Hse.out⟩
                  case round =>
                    obtain ⟨xx, sv, mnv, mxv, hxx, rfl, rfl, rfl, rfl, hse⟩ := hrel
                    have hsvl : sv ≤ 20000 := by
                      have h1 := hse.1
                      have h2 : (8 * yy + xx) * L ≤ 64 * 255 := Nat.mul_le_mul (by omega) (by omega)
                      omega
                    have hmxl : mxv ≤ 255 := by have := hse.2.2.1; omega
                    have hmnl := hse.2.2.2.2
                    by_cases hx8 : xx < 8
                    · have hcell := Hpw.out (q + xx) (xo + xx) (yo + yy) (by omega) (by omega) (by have := Hq.out; omega)
                      have hg8 := HP.out (xo + xx) (yo + yy)
                      generalize P (xo + xx) (yo + yy) = g at *
                      have hand := and255u g (by omega)
                      have hst := fun mn' mx' h1 h2 => hse.step hg8 (mn' := mn') (mx' := mx') h1 h2
                      have Hse := Lib.hid hse
                      have Hst := Lib.hid hst
                      clear hse hst
                      go_wp2_with fail
                      all_goals (
                        go_round
                        case rel => exact ⟨xx + 1, sv + g, _, _, by omega, by go_num, by go_num, rfl, rfl, Hst.out _ _ (by split <;> omega) (by split <;> omega)⟩
                        case measure => simp [intOf] <;> omega)
                    · obtain rfl : 8 = xx := by omega
                      by_cases hct : 24 + mnv < mxv
                      · have tct : decide ((24 : Int) < (mxv : Int) - (mnv : Int)) = true := by simp <;> omega
                        have Hse_1 := Lib.hid hse
                        clear hse
                        go_wp2_with fail
                        go_loop [23, 24, 20, 27] (fun a b s _ => ∃ y2 q2 s2 : Nat, 1 ≤ y2 ∧ y2 ≤ 8 ∧ a = .int .i64 y2 ∧ b = .int .i64 q2 ∧ s = .int .i64 s2 ∧ q2 = (yo + y2) * W + xo ∧ Seen L (8 * y2) s2 mnv mxv) (fun a _ _ _ => 8 - (intOf a).toNat)
                        case atStart => exact ⟨yy + 1, q + W, sv, by omega, by omega, by go_num, by go_num, rfl, Hqn.out, by rw [Nat.mul_add]; exact Hse_1.out⟩
                        case round =>
                          obtain ⟨y2, q2, s2, hy21, hy2, rfl, rfl, rfl, hq2, hse2⟩ := hrel
                          by_cases hy28 : y2 < 8
                          · have hqN2 : q2 + 8 ≤ N := by
                              have e1 : (yo + y2) * W + W ≤ H * W := by rw [← Nat.succ_mul]; exact Nat.mul_le_mul_right W (by omega)
                              have e2 := HN.out
                              rw [Nat.mul_comm] at e2
                              omega
                            have hqn2 : q2 + W = (yo + (y2 + 1)) * W + xo := by rw [hq2, ← Nat.add_assoc yo y2 1, Nat.succ_mul]; omega
                            have Hq2 := Lib.hid hq2
                            have Hse2 := Lib.hid hse2
                            have Hqn2 := Lib.hid hqn2
                            clear hq2 hse2 hqn2
                            go_wp2_with fail
                            generalize decide ((y2 : Int) < 8) = by28
                            go_loop [27, 20] (fun a s => ∃ x2 s3 : Nat, x2 ≤ 8 ∧ a = .int .i64 x2 ∧ s = .int .i64 s3 ∧ Seen L (8 * y2 + x2) s3 mnv mxv) (fun a _ => 8 - (intOf a).toNat)
                            case atStart => exact ⟨0, s2, by omega, rfl, rfl, Hse2.out⟩
                            case round =>
                              obtain ⟨x2, s3, hx2, rfl, rfl, hse3⟩ := hrel
                              by_cases hx28 : x2 < 8
                              · have hcell := Hpw.out (q2 + x2) (xo + x2) (yo + y2) (by omega) (by omega) (by have := Hq2.out; omega)
                                have hg8 := HP.out (xo + x2) (yo + y2)
                                have hs3l : s3 ≤ 20000 := by
                                  have h1 := hse3.1
                                  have h2 : (8 * y2 + x2) * L ≤ 64 * 255 := Nat.mul_le_mul (by omega) (by omega)
                                  omega
                                generalize P (xo + x2) (yo + y2) = g at *
                                have hand := and255u g (by omega)
                                have hst := hse3.more hg8 (by omega)
                                have Hse3 := Lib.hid hse3
                                have Hst := Lib.hid hst
                                clear hse3 hst
                                go_wp2_with fail
                                go_round
                                case rel => exact ⟨x2 + 1, s3 + g, by omega, by go_num, by go_num, Hst.out⟩
                                case measure => simp [intOf] <;> omega
                              · obtain rfl : 8 = x2 := by omega
                                have Hse3 := Lib.hid hse3
                                clear hse3
                                go_wp2_with fail
                                go_round
                                case rel => exact ⟨y2 + 1, q2 + W, s3, by omega, by omega, by go_num, by go_num, rfl, Hqn2.out, by rw [Nat.mul_add]; exact Hse3.out⟩
                                case measure => simp [intOf] <;> omega
                          · obtain rfl : 8 = y2 := by omega
                            have hqn3 : q2 + W = (yo + 9) * W + xo := by rw [show yo + 9 = Nat.succ (yo + 8) from rfl, Nat.succ_mul, hq2]; exact Nat.add_right_comm _ _ _
                            have hq2l : q2 ≤ 200000 := by rw [hq2]; have := Nat.mul_le_mul (show yo + 8 ≤ 300 by omega) hW; omega
                            have Hq2 := Lib.hid hq2
                            have Hse2 := Lib.hid hse2
                            have Hqn3 := Lib.hid hqn3
                            clear hq2 hse2 hqn3
                            go_wp2_with fail
                            go_round
                            case rel => exact ⟨9, q2 + W, s2, mnv, mxv, 64, by omega, by go_num, by go_num, rfl, rfl, rfl, Hqn3.out, fun h => by omega, fun _ => rfl, Hse2.out⟩
                            case measure => simp [intOf] <;> omega
                      · have tct : decide ((24 : Int) < (mxv : Int) - (mnv : Int)) = false := by simp <;> omega
                        have Hse_1 := Lib.hid hse
                        clear hse
                        go_wp2_with fail
                        go_round
                        case rel => exact ⟨yy + 1, q + W, sv, mnv, mxv, 8 * yy + 8, by omega, by go_num, by go_num, rfl, rfl, rfl, Hqn.out, fun h => by omega, fun h => by omega, Hse_1.out⟩
                        case measure => simp [intOf] <;> omega
                · obtain rfl : 64 = c := (hc2 (by omega)).symm
                  have hsvl : sv ≤ 20000 := by have h1 := hse.1; omega
                  have hmxl : mxv ≤ 255 := by have := hse.2.2.1; omega
                  have hmnl := hse.2.2.2.2
                  have hmnL := hse.2.2.2.1 (by omega)
                  obtain ⟨av, hav⟩ : ∃ av, sv / 64 = av := ⟨_, rfl⟩
                  have havi : (sv : Int) / 64 = (av : Int) := by omega
                  obtain ⟨mh, hmh⟩ : ∃ mh, mnv / 2 = mh := ⟨_, rfl⟩
                  have hmhi : (mnv : Int) / 2 = (mh : Int) := by omega
                  clear hc1 hc2
                  by_cases hct : 24 + mnv < mxv
                  · have tct : decide ((mxv : Int) - (mnv : Int) ≤ 24) = false := by simp <;> omega
                    have hbound : av < L := by have h1 := hse.2.2.1; have h2 := hse.2.1 (by omega); omega
                    obtain ⟨R0, a0, b0⟩ := Hpt_1.out.row k (by omega)
                    obtain ⟨vold, c0, _⟩ := b0.get j hjl
                    have f0 : wr.frozen? ⟨R0, j, none⟩ = false := by
                      obtain ⟨vs, _, h2, _⟩ := b0
                      exact h2.frozen j
                    have hput := fun n => (Hpt_1.out.drew n).put k (by omega) (cell_mod (mod_drewN (fun _ => False) wr n) (fun f => f) a0) j av hbound
                    have hput0 := Hpt_1.out.put k (by omega) a0 j av hbound
                    have Hput := Lib.hid hput
                    have Hput0 := Lib.hid hput0
                    have Hbound := Lib.hid hbound
                    have Hb0 := Lib.hid b0
                    clear hput hput0 hbound b0
                    have Hse := Lib.hid hse
                    have Hq := Lib.hid hq
                    have Hav := Lib.hid hav
                    have Hmh := Lib.hid hmh
                    clear hse hq hav hmh
                    go_wp2_with fail
                    go_roundw
                    case rel => exact ⟨j + 1, by omega, by go_num, Hput0.out⟩
                    case measure => simp [intOf] <;> omega
                  · have tct : decide ((mxv : Int) - (mnv : Int) ≤ 24) = true := by simp <;> omega
                    by_cases hk0 : 0 < k
                    · have tk0 : decide (0 < (k : Int)) = true := by simp <;> omega
                      by_cases hj0 : 0 < j
                      · have tj0 : decide (0 < (j : Int)) = true := by simp <;> omega
                        obtain ⟨k1, hk1⟩ : ∃ k1, k - 1 = k1 := ⟨_, rfl⟩
                        obtain ⟨j1, hj1⟩ : ∃ j1, j - 1 = j1 := ⟨_, rfl⟩
                        have hk1i : (k : Int) - 1 = (k1 : Int) := by omega
                        have hj1i : (j : Int) - 1 = (j1 : Int) := by omega
                        obtain ⟨R1, e1, g1⟩ := Hpt_1.out.row k1 (by omega)
                        obtain ⟨RR, e2, g2⟩ := Hpt_1.out.row k (by omega)
                        obtain ⟨va, p1, p2⟩ := g1.get j hjl
                        obtain ⟨vc, p3, p4⟩ := g1.get j1 (by omega)
                        obtain ⟨vb, p5, p6⟩ := g2.get j1 (by omega)
                        have lk1 : k1 < sh := by omega
                        have lj1 : j1 < sw := by omega
                        obtain ⟨nb, hnb⟩ : ∃ nb, (va + 2 * vb + vc) / 4 = nb := ⟨_, rfl⟩
                        have hnbi : ((va : Int) + 2 * (vb : Int) + (vc : Int)) / 4 = (nb : Int) := by omega
                        have hnbl : nb < L := by omega
                        have hva : va ≤ 255 := by omega
                        have hvb : vb ≤ 255 := by omega
                        have hvc : vc ≤ 255 := by omega
                        by_cases hmn : mnv < nb
                        · have hbound : nb < L := hnbl
                          obtain ⟨R0, a0, b0⟩ := Hpt_1.out.row k (by omega)
                          obtain ⟨vold, c0, _⟩ := b0.get j hjl
                          have f0 : wr.frozen? ⟨R0, j, none⟩ = false := by
                            obtain ⟨vs, _, h2, _⟩ := b0
                            exact h2.frozen j
                          have hput := fun n => (Hpt_1.out.drew n).put k (by omega) (cell_mod (mod_drewN (fun _ => False) wr n) (fun f => f) a0) j nb hbound
                          have hput0 := Hpt_1.out.put k (by omega) a0 j nb hbound
                          have Hput := Lib.hid hput
                          have Hput0 := Lib.hid hput0
                          have Hbound := Lib.hid hbound
                          have Hb0 := Lib.hid b0
                          clear hput hput0 hbound b0
                          have Hg1 := Lib.hid g1
                          have Hg2 := Lib.hid g2
                          have Hse := Lib.hid hse
                          have Hq := Lib.hid hq
                          have Hav := Lib.hid hav
                          have Hmh := Lib.hid hmh
                          have Hk1 := Lib.hid hk1
                          have Hj1 := Lib.hid hj1
                          have Hnb := Lib.hid hnb
                          clear g1 g2 hse hq hav hmh hk1 hj1 hnb
                          go_wp2_with fail
                          go_quiet (fail)
                          have a0q := cell_mod (mod_drewN (fun _ => False) wr nq) (fun f => f) a0
                          have c0q := cell_mod (mod_drewN (fun _ => False) wr nq) (fun f => f) c0
                          have f0q : (wr.drewN nq).frozen? ⟨R0, j, none⟩ = false := f0
                          clear a0 c0 f0 e1 e2 p1 p3 p5
                          go_wp2_with fail
                          go_roundw
                          case rel => exact ⟨j + 1, by omega, by go_num, Hput.out _⟩
                          case measure => simp [intOf] <;> omega
                        · have hbound : mh < L := by omega
                          obtain ⟨R0, a0, b0⟩ := Hpt_1.out.row k (by omega)
                          obtain ⟨vold, c0, _⟩ := b0.get j hjl
                          have f0 : wr.frozen? ⟨R0, j, none⟩ = false := by
                            obtain ⟨vs, _, h2, _⟩ := b0
                            exact h2.frozen j
                          have hput := fun n => (Hpt_1.out.drew n).put k (by omega) (cell_mod (mod_drewN (fun _ => False) wr n) (fun f => f) a0) j mh hbound
                          have hput0 := Hpt_1.out.put k (by omega) a0 j mh hbound
                          have Hput := Lib.hid hput
                          have Hput0 := Lib.hid hput0
                          have Hbound := Lib.hid hbound
                          have Hb0 := Lib.hid b0
                          clear hput hput0 hbound b0
                          have Hg1 := Lib.hid g1
                          have Hg2 := Lib.hid g2
                          have Hse := Lib.hid hse
                          have Hq := Lib.hid hq
                          have Hav := Lib.hid hav
                          have Hmh := Lib.hid hmh
                          have Hk1 := Lib.hid hk1
                          have Hj1 := Lib.hid hj1
                          have Hnb := Lib.hid hnb
                          clear g1 g2 hse hq hav hmh hk1 hj1 hnb
                          go_wp2_with fail
                          go_quiet (fail)
                          have a0q := cell_mod (mod_drewN (fun _ => False) wr nq) (fun f => f) a0
                          have c0q := cell_mod (mod_drewN (fun _ => False) wr nq) (fun f => f) c0
                          have f0q : (wr.drewN nq).frozen? ⟨R0, j, none⟩ = false := f0
                          clear a0 c0 f0 e1 e2 p1 p3 p5
                          go_wp2_with fail
                          go_roundw
                          case rel => exact ⟨j + 1, by omega, by go_num, Hput.out _⟩
                          case measure => simp [intOf] <;> omega
                      · have tj0 : decide (0 < (j : Int)) = false := by simp <;> omega
                        have hbound : mh < L := by omega
                        obtain ⟨R0, a0, b0⟩ := Hpt_1.out.row k (by omega)
                        obtain ⟨vold, c0, _⟩ := b0.get j hjl
                        have f0 : wr.frozen? ⟨R0, j, none⟩ = false := by
                          obtain ⟨vs, _, h2, _⟩ := b0
                          exact h2.frozen j
                        have hput := fun n => (Hpt_1.out.drew n).put k (by omega) (cell_mod (mod_drewN (fun _ => False) wr n) (fun f => f) a0) j mh hbound
                        have hput0 := Hpt_1.out.put k (by omega) a0 j mh hbound
                        have Hput := Lib.hid hput
                        have Hput0 := Lib.hid hput0
                        have Hbound := Lib.hid hbound
                        have Hb0 := Lib.hid b0
                        clear hput hput0 hbound b0
                        have Hse := Lib.hid hse
                        have Hq := Lib.hid hq
                        have Hav := Lib.hid hav
                        have Hmh := Lib.hid hmh
                        clear hse hq hav hmh
                        go_wp2_with fail
                        go_roundw
                        case rel => exact ⟨j + 1, by omega, by go_num, Hput0.out⟩
                        case measure => simp [intOf] <;> omega
                    · have tk0 : decide (0 < (k : Int)) = false := by simp <;> omega
                      have hbound : mh < L := by omega
                      obtain ⟨R0, a0, b0⟩ := Hpt_1.out.row k (by omega)
                      obtain ⟨vold, c0, _⟩ := b0.get j hjl
                      have f0 : wr.frozen? ⟨R0, j, none⟩ = false := by
                        obtain ⟨vs, _, h2, _⟩ := b0
                        exact h2.frozen j
                      have hput := fun n => (Hpt_1.out.drew n).put k (by omega) (cell_mod (mod_drewN (fun _ => False) wr n) (fun f => f) a0) j mh hbound
                      have hput0 := Hpt_1.out.put k (by omega) a0 j mh hbound
                      have Hput := Lib.hid hput
                      have Hput0 := Lib.hid hput0
                      have Hbound := Lib.hid hbound
                      have Hb0 := Lib.hid b0
                      clear hput hput0 hbound b0
                      have Hse := Lib.hid hse
                      have Hq := Lib.hid hq
                      have Hav := Lib.hid hav
                      have Hmh := Lib.hid hmh
                      clear hse hq hav hmh
                      go_wp2_with fail
                      go_roundw
                      case rel => exact ⟨j + 1, by omega, by go_num, Hput0.out⟩
                      case measure => simp [intOf] <;> omega
          · obtain rfl : sw = j := by omega
            have Hpt_1 := Lib.hid hpt
            clear hpt
            go_wp2_with fail
            go_roundw
            case rel => exact ⟨k + 1, by omega, by go_num, Hpt_1.out⟩
            case measure => simp [intOf] <;> omega
    · obtain rfl : sh = k := by omega
      have Hpt := Lib.hid hpt
      clear hpt
      go_wp2_with fail
      go_ret
      refine ⟨Q, rfl, fun y hy => ?_, by omega, mod_end (hQ ▸ Hpt.out.mod)⟩
      obtain ⟨R, a, b⟩ := Hpt.out.row y hy
      exact ⟨R, a, fun x hx => b.get x hx⟩
end Go.Proofs.YtnpkihobbcglcaaGreatDoor
